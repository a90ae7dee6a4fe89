import JvmDerived
import JvmDerived.Pilot.@@N@@Statement
import JvmDerived.Pilot.@@N@@Code
set_option linter.unusedVariables false
set_option linter.unusedSimpArgs false
namespace Jvm.RoadKit
open Sem ClassFile Op Lib Jvm.Stand Jvm.Free Jvm.LawKit
section New
variable {p : Program} {l : Launch} {e : Env} {R : Room} {s : State} {m : MethodId} {args : Array Value} {below : List Frame} {meth : Method} {c : Code} {T : State} {locs : List Loc} {cells slots : Nat}
theorem retI (X : Stand p l e R s m args below meth c T locs cells slots) (hx : p.tables.exec = Jvm.exec) {pc : Nat} {Ls : Array Slot} {z : Int32} {rest : List Value} (hret : meth.sig.returnType = some .int) (hd : decode c.code pc = .ok (.ireturn, 1)) {fs : List Frame}
    (hl : ∀ (f : JFrame) (acts : List Action), f.method = m → f.locked = none → f.entered = [] → (doReturn e (T.setTop f) acts (some (.int z))).1 = T.setFrames fs) : Steps p.tables e below (T.setTop (mkF m pc Ls (.int z :: rest))) (T.setFrames fs) := by
  have hm' : T.vm.method? m = some meth := X.method'
  have hn : narrow .int (.int z) = .int z := rfl
  show Steps p.tables e below (T.setTop { method := m, pc := pc, locals := Ls, stack := _ :: rest, locked := none }) _
  jvm_step X.here [X.here.top, hx, hd, hm', hret, hn]
  first | (intro acts; rw [hl _ acts rfl rfl rfl]) | rw [hl _ _ rfl rfl rfl]
  exact Steps.refl _
theorem own_lremM {g : JFrame} {target : State} (X : Stand p l e R s m args below meth c T locs cells slots) (hx : p.tables.exec = Jvm.exec) (hg : g.method = m) {x y : Int64} {rest : List Value} (hd : decode c.code g.pc = .ok (.lrem, 1)) (hs : g.stack = .long y :: .long x :: rest) (hy : y ≠ 0)
    (hr : Steps p.tables e below (T.setTop { g with pc := g.pc + 1, stack := .long (x % y) :: rest }) target) : Steps p.tables e below (T.setTop g) target := by
  have q : x - x / y * y = x % y := lrem_mod x y
  exact XS.lrem X.here hx hg hd hs hy (by rw [q]; exact hr)
theorem own_nz {z : Int32} (h : z = 0 ∨ z = 1) : nar .boolean z = z := by rcases h with rfl | rfl <;> rfl
theorem own_cat1 {v : Value} (h : v.isRef = true) : v.category = 1 := by rcases ref_cases h with rfl | ⟨a, rfl⟩ <;> rfl
end New
end Jvm.RoadKit
namespace Jvm.Pilot.@@N@@
open Jvm Jvm.ClassFile Sem Op Lib Jvm.Free Jvm.Stand Jvm.LawKit Jvm.RoadKit Bundle Jvm.Pilot.@@N@@.Jvm.D
def own_f (p : Int32) : Int32 := if p < 1 then 0 else if p < 32 then (if p = 9 then 0 else if p = 10 then 0 else if p = 13 then 0 else 1) else 0
def own_g (x : Int32) : Int32 := if x < 0 then 0 else if x < 32 then (if (((-9730 : Int32).toUInt32 >>> (x &&& 31).toUInt32).toInt32 &&& 1) = 0 then 0 else 1) else 0
theorem own_fin : ∀ n : Fin 32, own_f (Int32.ofNat n) = own_g (Int32.ofNat n) := by decide +kernel
theorem own_fg (x : Int32) : own_f x = own_g x := by
  by_cases h0 : x < 0
  · have h1 : x < 1 := by rw [Int32.lt_iff_toInt_lt] at *; have e0 : (0 : Int32).toInt = 0 := rfl; have e1 : (1 : Int32).toInt = 1 := rfl; omega
    simp [own_f, own_g, h0, h1]
  · by_cases h32 : x < 32
    · have e0 : (0 : Int32).toInt = 0 := rfl
      have e1 : (32 : Int32).toInt = 32 := rfl
      rw [Int32.lt_iff_toInt_lt] at h0 h32
      have q : x = Int32.ofNat x.toInt.toNat := by
        apply Int32.toInt_inj.mp
        rw [Int32.toInt_ofNat_small (by omega)]; omega
      have := own_fin ⟨x.toInt.toNat, by omega⟩
      rw [q]; exact this
    · have h1 : ¬ x < 1 := by rw [Int32.lt_iff_toInt_lt] at *; have e0 : (0 : Int32).toInt = 0 := rfl; have e1 : (1 : Int32).toInt = 1 := rfl; have e2 : (32 : Int32).toInt = 32 := rfl; omega
      simp [own_f, own_g, h0, h1, h32]
theorem own_f01 (p : Int32) : own_f p = 0 ∨ own_f p = 1 := by unfold own_f; repeat' split
                                                              all_goals simp
theorem own_g01 (p : Int32) : own_g p = 0 ∨ own_g p = 1 := by rw [← own_fg]; exact own_f01 p
theorem pd_0 : parseMethodDescriptor "(I)Z" = some ⟨[.int], some .boolean⟩ := by decide +kernel
theorem dm2_27 : decode method_2_code 27 = .ok (.ireturn, 1) := by decide +kernel
theorem dm2_23 : decode method_2_code 23 = .ok (.goto 4, 3) := by decide +kernel
theorem dm2_22 : decode method_2_code 22 = .ok (.iconst 1, 1) := by decide +kernel
theorem dm2_26 : decode method_2_code 26 = .ok (.iconst 0, 1) := by decide +kernel
theorem dm2_19 : decode method_2_code 19 = .ok (.ifCond .eq 7, 3) := by decide +kernel
theorem dm2_18 : decode method_2_code 18 = .ok (.iand, 1) := by decide +kernel
theorem dm2_17 : decode method_2_code 17 = .ok (.iconst 1, 1) := by decide +kernel
theorem dm2_16 : decode method_2_code 16 = .ok (.iushr, 1) := by decide +kernel
theorem dm2_15 : decode method_2_code 15 = .ok (.iload_n 0, 1) := by decide +kernel
theorem dm2_12 : decode method_2_code 12 = .ok (.sipush (-9730), 3) := by decide +kernel
theorem dm2_7 : decode method_2_code 7 = .ok (.if_icmp .lt 5, 3) := by decide +kernel
theorem dm2_5 : decode method_2_code 5 = .ok (.bipush 32, 2) := by decide +kernel
theorem dm2_4 : decode method_2_code 4 = .ok (.iload_n 0, 1) := by decide +kernel
theorem dm2_11 : decode method_2_code 11 = .ok (.ireturn, 1) := by decide +kernel
theorem dm2_10 : decode method_2_code 10 = .ok (.iconst 0, 1) := by decide +kernel
theorem dm2_1 : decode method_2_code 1 = .ok (.ifCond .lt 9, 3) := by decide +kernel
theorem dm2_0 : decode method_2_code 0 = .ok (.iload_n 0, 1) := by decide +kernel
theorem pn_1 : plainName "com/example/vellum_sketch/vellumsketch/XmlCharactersIsXml11ControlPinLaw" = true := by first | (simp [plainName, overriddenIn]; done) | decide +kernel
theorem dp75_m7_34 : decode prog_75_method_7_code 34 = .ok (.ireturn, 1) := by decide +kernel
theorem dp75_m7_30 : decode prog_75_method_7_code 30 = .ok (.goto 4, 3) := by decide +kernel
theorem dp75_m7_29 : decode prog_75_method_7_code 29 = .ok (.iconst 1, 1) := by decide +kernel
theorem dp75_m7_26 : decode prog_75_method_7_code 26 = .ok (.if_icmp .eq 7, 3) := by decide +kernel
theorem dp75_m7_24 : decode prog_75_method_7_code 24 = .ok (.bipush 13, 2) := by decide +kernel
theorem dp75_m7_23 : decode prog_75_method_7_code 23 = .ok (.iload_n 0, 1) := by decide +kernel
theorem dp75_m7_20 : decode prog_75_method_7_code 20 = .ok (.if_icmp .eq 13, 3) := by decide +kernel
theorem dp75_m7_18 : decode prog_75_method_7_code 18 = .ok (.bipush 10, 2) := by decide +kernel
theorem dp75_m7_17 : decode prog_75_method_7_code 17 = .ok (.iload_n 0, 1) := by decide +kernel
theorem dp75_m7_14 : decode prog_75_method_7_code 14 = .ok (.if_icmp .eq 19, 3) := by decide +kernel
theorem dp75_m7_12 : decode prog_75_method_7_code 12 = .ok (.bipush 9, 2) := by decide +kernel
theorem dp75_m7_11 : decode prog_75_method_7_code 11 = .ok (.iload_n 0, 1) := by decide +kernel
theorem dp75_m7_8 : decode prog_75_method_7_code 8 = .ok (.if_icmp .ge 25, 3) := by decide +kernel
theorem dp75_m7_6 : decode prog_75_method_7_code 6 = .ok (.bipush 32, 2) := by decide +kernel
theorem dp75_m7_5 : decode prog_75_method_7_code 5 = .ok (.iload_n 0, 1) := by decide +kernel
theorem dp75_m7_33 : decode prog_75_method_7_code 33 = .ok (.iconst 0, 1) := by decide +kernel
theorem dp75_m7_2 : decode prog_75_method_7_code 2 = .ok (.if_icmp .lt 31, 3) := by decide +kernel
theorem dp75_m7_1 : decode prog_75_method_7_code 1 = .ok (.iconst 1, 1) := by decide +kernel
theorem dp75_m7_0 : decode prog_75_method_7_code 0 = .ok (.iload_n 0, 1) := by decide +kernel
theorem pn_0 : plainName "com/example/vellum_sketch/vellumsketch/XmlCharacters" = true := by first | (simp [plainName, overriddenIn]; done) | decide +kernel
theorem ef_1 (m : MethodId) (x0 : Int32) : entryFrame m #[(.int x0)] 1 = mkF m 0 #[.val (.int x0)] [] := by first | (simp [entryFrame, mkF, argsToLocals, Value.category]; done) | rfl
def Q1 (Z : State) (u1 : Int32) (h0 : Heap) (n0 : Nat) (v : Option Value) (h : Heap) (L : List Loc) : Prop := v = some (.int (own_f u1)) ∧ Fr n0 L ∧ h = h0
set_option maxRecDepth 65536 in
set_option maxHeartbeats 40000000 in
theorem rm1 (l : Launch) (Z : State) (a0 : Array Value) (hw : ∀ d ∈ tables_1, d.before a0 Z = true) (ws : List Jvm.Cond) (u1 : Int32) (h0 : Heap) (n0 : Nat) (Z0 : n0 ≤ h0.size)  :
    MetFree l (⟨"com/example/vellum_sketch/vellumsketch/XmlCharacters", "isXml11Control", "(I)Z"⟩ : MethodName) (head1 (Jvm.Cond.code (⟨"com/example/vellum_sketch/vellumsketch/XmlCharacters", "isXml11Control", "(I)Z"⟩ : MethodName) prog_75_method_7_code 1 (some .boolean) :: ws) ({ frames := 0, cells := 0, slots := 0, locals := 0 } : Room)) (fun a U => a = #[(.int u1)] ∧ Z.Warmed39 U.vm ∧ U.heap = h0) (fun _ _ _ _ _ => True) (fun _ U o U' => ∃ v L, o = .returned v ∧ Q1 Z u1 h0 n0 v U'.heap L ∧ FrameEnd U o U' L ({ frames := 0, cells := 0, slots := 0, locals := 0 } : Room).cells ({ frames := 0, cells := 0, slots := 0, locals := 0 } : Room).slots) := by
  refine MetFree.of_bodySF (plainFor_of_name pn_0) hisR ?_
  intro p e s m args below meth c s₁ Bd hml0 hP hK
  obtain ⟨rfl, hZ, hh⟩ := hP
  have hx := Bd.exec
  have hby := Bd.bytes
  have hml : c.maxLocals = 1 := hml0
  have hown : s.vm.findClass "com/example/vellum_sketch/vellumsketch/XmlCharacters" = some m.cls := findClass_of_methodNamed Bd.named
  have hnm := (name_of_methodNamed Bd.named Bd.method).1
  have X0 : Stand p l e ({ frames := 0, cells := 0, slots := 0, locals := 0 } : Room) s m #[(.int u1)] below meth c s₁ [] 0 0 := Stand.of_body Bd
  have e0 : s₁.heap = h0 := by rw [← hh, Bd.state]; rfl
  have N0 := Fr.nil n0
  have k0 : ∀ t, Steps p.tables e below (s₁.setTop (mkF m 0 #[.val (.int u1)] [])) t → Steps p.tables e below (s₁.setTop (entryFrame m #[(.int u1)] 1)) t := fun t k => castTop (ef_1 m u1) k
  obtain ⟨r, eq_r⟩ : ∃ z : Int32, z = (if u1 < (1 : Int32) then (0 : Int32) else (if u1 < (32 : Int32) then (if u1 = (9 : Int32) then (0 : Int32) else (if u1 = (10 : Int32) then (0 : Int32) else (if u1 = (13 : Int32) then (0 : Int32) else (1 : Int32)))) else (0 : Int32))) := ⟨_, rfl⟩
  have k6 : ∀ t, Steps p.tables e below (s₁.setTop (mkF m 34 #[.val (.int u1)] [(.int r)])) t → Steps p.tables e below (s₁.setTop (entryFrame m #[(.int u1)] 1)) t := by
    intro t k
    refine k0 _ ?_
    show Steps p.tables e below (s₁.setTop (mkF m 0 #[.val (.int u1)] [])) _
    refine XS.iloadN X0.here hx rfl (hb hby dp75_m7_0) rfl ?_
    show Steps p.tables e below (s₁.setTop (mkF m 1 #[.val (.int u1)] [(.int u1)])) _
    refine XS.iconst X0.here hx rfl (hb hby dp75_m7_1) ?_
    show Steps p.tables e below (s₁.setTop (mkF m 2 #[.val (.int u1)] [(.int (1 : Int32)), (.int u1)])) _
    by_cases hc1_2 : u1 < (1 : Int32)
    · rw [show r = (0 : Int32) by rw [eq_r, if_pos hc1_2]] at k
      show Steps p.tables e below (s₁.setTop (mkF m 2 #[.val (.int u1)] [(.int (1 : Int32)), (.int u1)])) _
      refine XS.icmpYes X0.here hx rfl (pc0 := 2) (pc' := 33) rfl (hb hby dp75_m7_2) rfl (tlt hc1_2).1 (by decide) (by decide) ?_
      show Steps p.tables e below (s₁.setTop (mkF m 33 #[.val (.int u1)] [])) _
      refine XS.iconst X0.here hx rfl (hb hby dp75_m7_33) ?_
      show Steps p.tables e below (s₁.setTop (mkF m 34 #[.val (.int u1)] [(.int (0 : Int32))])) _
      exact k
    · show Steps p.tables e below (s₁.setTop (mkF m 2 #[.val (.int u1)] [(.int (1 : Int32)), (.int u1)])) _
      refine XS.icmpNo X0.here hx rfl (hb hby dp75_m7_2) rfl (flt hc1_2).1 ?_
      show Steps p.tables e below (s₁.setTop (mkF m 5 #[.val (.int u1)] [])) _
      refine XS.iloadN X0.here hx rfl (hb hby dp75_m7_5) rfl ?_
      show Steps p.tables e below (s₁.setTop (mkF m 6 #[.val (.int u1)] [(.int u1)])) _
      refine XS.bipush X0.here hx rfl (hb hby dp75_m7_6) ?_
      show Steps p.tables e below (s₁.setTop (mkF m 8 #[.val (.int u1)] [(.int (32 : Int32)), (.int u1)])) _
      by_cases hc2_8 : u1 < (32 : Int32)
      · show Steps p.tables e below (s₁.setTop (mkF m 8 #[.val (.int u1)] [(.int (32 : Int32)), (.int u1)])) _
        refine XS.icmpNo X0.here hx rfl (hb hby dp75_m7_8) rfl (tlt hc2_8).2.1 ?_
        show Steps p.tables e below (s₁.setTop (mkF m 11 #[.val (.int u1)] [])) _
        refine XS.iloadN X0.here hx rfl (hb hby dp75_m7_11) rfl ?_
        show Steps p.tables e below (s₁.setTop (mkF m 12 #[.val (.int u1)] [(.int u1)])) _
        refine XS.bipush X0.here hx rfl (hb hby dp75_m7_12) ?_
        show Steps p.tables e below (s₁.setTop (mkF m 14 #[.val (.int u1)] [(.int (9 : Int32)), (.int u1)])) _
        by_cases hc3_14 : u1 = (9 : Int32)
        · rw [show r = (0 : Int32) by rw [eq_r, if_neg hc1_2, if_pos hc2_8, if_pos hc3_14]] at k
          show Steps p.tables e below (s₁.setTop (mkF m 14 #[.val (.int u1)] [(.int (9 : Int32)), (.int u1)])) _
          refine XS.icmpYes X0.here hx rfl (pc0 := 14) (pc' := 33) rfl (hb hby dp75_m7_14) rfl (teq hc3_14).1 (by decide) (by decide) ?_
          show Steps p.tables e below (s₁.setTop (mkF m 33 #[.val (.int u1)] [])) _
          refine XS.iconst X0.here hx rfl (hb hby dp75_m7_33) ?_
          show Steps p.tables e below (s₁.setTop (mkF m 34 #[.val (.int u1)] [(.int (0 : Int32))])) _
          exact k
        · show Steps p.tables e below (s₁.setTop (mkF m 14 #[.val (.int u1)] [(.int (9 : Int32)), (.int u1)])) _
          refine XS.icmpNo X0.here hx rfl (hb hby dp75_m7_14) rfl (feq hc3_14).1 ?_
          show Steps p.tables e below (s₁.setTop (mkF m 17 #[.val (.int u1)] [])) _
          refine XS.iloadN X0.here hx rfl (hb hby dp75_m7_17) rfl ?_
          show Steps p.tables e below (s₁.setTop (mkF m 18 #[.val (.int u1)] [(.int u1)])) _
          refine XS.bipush X0.here hx rfl (hb hby dp75_m7_18) ?_
          show Steps p.tables e below (s₁.setTop (mkF m 20 #[.val (.int u1)] [(.int (10 : Int32)), (.int u1)])) _
          by_cases hc4_20 : u1 = (10 : Int32)
          · rw [show r = (0 : Int32) by rw [eq_r, if_neg hc1_2, if_pos hc2_8, if_neg hc3_14, if_pos hc4_20]] at k
            show Steps p.tables e below (s₁.setTop (mkF m 20 #[.val (.int u1)] [(.int (10 : Int32)), (.int u1)])) _
            refine XS.icmpYes X0.here hx rfl (pc0 := 20) (pc' := 33) rfl (hb hby dp75_m7_20) rfl (teq hc4_20).1 (by decide) (by decide) ?_
            show Steps p.tables e below (s₁.setTop (mkF m 33 #[.val (.int u1)] [])) _
            refine XS.iconst X0.here hx rfl (hb hby dp75_m7_33) ?_
            show Steps p.tables e below (s₁.setTop (mkF m 34 #[.val (.int u1)] [(.int (0 : Int32))])) _
            exact k
          · show Steps p.tables e below (s₁.setTop (mkF m 20 #[.val (.int u1)] [(.int (10 : Int32)), (.int u1)])) _
            refine XS.icmpNo X0.here hx rfl (hb hby dp75_m7_20) rfl (feq hc4_20).1 ?_
            show Steps p.tables e below (s₁.setTop (mkF m 23 #[.val (.int u1)] [])) _
            refine XS.iloadN X0.here hx rfl (hb hby dp75_m7_23) rfl ?_
            show Steps p.tables e below (s₁.setTop (mkF m 24 #[.val (.int u1)] [(.int u1)])) _
            refine XS.bipush X0.here hx rfl (hb hby dp75_m7_24) ?_
            show Steps p.tables e below (s₁.setTop (mkF m 26 #[.val (.int u1)] [(.int (13 : Int32)), (.int u1)])) _
            by_cases hc5_26 : u1 = (13 : Int32)
            · rw [show r = (0 : Int32) by rw [eq_r, if_neg hc1_2, if_pos hc2_8, if_neg hc3_14, if_neg hc4_20, if_pos hc5_26]] at k
              show Steps p.tables e below (s₁.setTop (mkF m 26 #[.val (.int u1)] [(.int (13 : Int32)), (.int u1)])) _
              refine XS.icmpYes X0.here hx rfl (pc0 := 26) (pc' := 33) rfl (hb hby dp75_m7_26) rfl (teq hc5_26).1 (by decide) (by decide) ?_
              show Steps p.tables e below (s₁.setTop (mkF m 33 #[.val (.int u1)] [])) _
              refine XS.iconst X0.here hx rfl (hb hby dp75_m7_33) ?_
              show Steps p.tables e below (s₁.setTop (mkF m 34 #[.val (.int u1)] [(.int (0 : Int32))])) _
              exact k
            · rw [show r = (1 : Int32) by rw [eq_r, if_neg hc1_2, if_pos hc2_8, if_neg hc3_14, if_neg hc4_20, if_neg hc5_26]] at k
              show Steps p.tables e below (s₁.setTop (mkF m 26 #[.val (.int u1)] [(.int (13 : Int32)), (.int u1)])) _
              refine XS.icmpNo X0.here hx rfl (hb hby dp75_m7_26) rfl (feq hc5_26).1 ?_
              show Steps p.tables e below (s₁.setTop (mkF m 29 #[.val (.int u1)] [])) _
              refine XS.iconst X0.here hx rfl (hb hby dp75_m7_29) ?_
              show Steps p.tables e below (s₁.setTop (mkF m 30 #[.val (.int u1)] [(.int (1 : Int32))])) _
              refine XS.goto X0.here hx rfl (pc0 := 30) (pc' := 34) rfl (hb hby dp75_m7_30) (by decide) (by decide) ?_
              show Steps p.tables e below (s₁.setTop (mkF m 34 #[.val (.int u1)] [(.int (1 : Int32))])) _
              exact k
      · rw [show r = (0 : Int32) by rw [eq_r, if_neg hc1_2, if_neg hc2_8]] at k
        show Steps p.tables e below (s₁.setTop (mkF m 8 #[.val (.int u1)] [(.int (32 : Int32)), (.int u1)])) _
        refine XS.icmpYes X0.here hx rfl (pc0 := 8) (pc' := 33) rfl (hb hby dp75_m7_8) rfl (flt hc2_8).2.1 (by decide) (by decide) ?_
        show Steps p.tables e below (s₁.setTop (mkF m 33 #[.val (.int u1)] [])) _
        refine XS.iconst X0.here hx rfl (hb hby dp75_m7_33) ?_
        show Steps p.tables e below (s₁.setTop (mkF m 34 #[.val (.int u1)] [(.int (0 : Int32))])) _
        exact k
  have hnar : nar .boolean r = (own_f u1) := by rw [show r = own_f u1 from eq_r]; exact own_nz (own_f01 u1)
  obtain ⟨fs, hr, hrun, hended, hW, hsame⟩ := X0.leave (v := some (.int (own_f u1))) (fun h => by rw [Bd.returns] at h; cases h)
  refine ⟨_, _, k6 _ ?_, hrun, hended, _, _, rfl, ?_, ⟨_, rfl⟩, hW, hsame.mono (Nat.le_of_ble_eq_true rfl) (Nat.le_of_ble_eq_true rfl)⟩
  · exact retN X0 hx (t := .boolean) Bd.returns (by simp) (hb hby dp75_m7_34) (fun f acts q1 q2 q3 => by rw [hnar]; exact hr f acts q1 q2 q3)
  · show Q1 Z u1 h0 n0 _ s₁.heap _
    rw [e0]
    exact ⟨rfl, N0, rfl⟩
theorem ef_2 (m : MethodId) (x0 : Int32) : entryFrame m #[(.int x0)] 1 = mkF m 0 #[.val (.int x0)] [] := by first | (simp [entryFrame, mkF, argsToLocals, Value.category]; done) | rfl
def Q2 (Z : State) (u1 : Int32) (h0 : Heap) (n0 : Nat) (v : Option Value) (h : Heap) (L : List Loc) : Prop := v = some (.int (own_g u1)) ∧ Fr n0 L ∧ h = h0
set_option maxRecDepth 65536 in
set_option maxHeartbeats 40000000 in
theorem rm2 (l : Launch) (Z : State) (a0 : Array Value) (hw : ∀ d ∈ tables_1, d.before a0 Z = true) (ws : List Jvm.Cond) (u1 : Int32) (h0 : Heap) (n0 : Nat) (Z0 : n0 ≤ h0.size)  :
    MetFree l (⟨"com/example/vellum_sketch/vellumsketch/XmlCharactersIsXml11ControlPinLaw", "ref", "(I)Z"⟩ : MethodName) (head1 (Jvm.Cond.code (⟨"com/example/vellum_sketch/vellumsketch/XmlCharactersIsXml11ControlPinLaw", "ref", "(I)Z"⟩ : MethodName) method_2_code 1 (some .boolean) :: ws) ({ frames := 0, cells := 0, slots := 0, locals := 0 } : Room)) (fun a U => a = #[(.int u1)] ∧ Z.Warmed39 U.vm ∧ U.heap = h0) (fun _ _ _ _ _ => True) (fun _ U o U' => ∃ v L, o = .returned v ∧ Q2 Z u1 h0 n0 v U'.heap L ∧ FrameEnd U o U' L ({ frames := 0, cells := 0, slots := 0, locals := 0 } : Room).cells ({ frames := 0, cells := 0, slots := 0, locals := 0 } : Room).slots) := by
  refine MetFree.of_bodySF (plainFor_of_name pn_1) hisR ?_
  intro p e s m args below meth c s₁ Bd hml0 hP hK
  obtain ⟨rfl, hZ, hh⟩ := hP
  have hx := Bd.exec
  have hby := Bd.bytes
  have hml : c.maxLocals = 1 := hml0
  have hown : s.vm.findClass "com/example/vellum_sketch/vellumsketch/XmlCharactersIsXml11ControlPinLaw" = some m.cls := findClass_of_methodNamed Bd.named
  have hnm := (name_of_methodNamed Bd.named Bd.method).1
  have X0 : Stand p l e ({ frames := 0, cells := 0, slots := 0, locals := 0 } : Room) s m #[(.int u1)] below meth c s₁ [] 0 0 := Stand.of_body Bd
  have e0 : s₁.heap = h0 := by rw [← hh, Bd.state]; rfl
  have N0 := Fr.nil n0
  have k0 : ∀ t, Steps p.tables e below (s₁.setTop (mkF m 0 #[.val (.int u1)] [])) t → Steps p.tables e below (s₁.setTop (entryFrame m #[(.int u1)] 1)) t := fun t k => castTop (ef_2 m u1) k
  have k1 : ∀ t, Steps p.tables e below (s₁.setTop (mkF m 1 #[.val (.int u1)] [(.int u1)])) t → Steps p.tables e below (s₁.setTop (entryFrame m #[(.int u1)] 1)) t := by
    intro t k
    refine k0 _ ?_
    show Steps p.tables e below (s₁.setTop (mkF m 0 #[.val (.int u1)] [])) _
    refine XS.iloadN X0.here hx rfl (hb hby dm2_0) rfl ?_
    show Steps p.tables e below (s₁.setTop (mkF m 1 #[.val (.int u1)] [(.int u1)])) _
    exact k
  by_cases h1 : u1 < (0 : Int32)
  · have k2 : ∀ t, Steps p.tables e below (s₁.setTop (mkF m 11 #[.val (.int u1)] [(.int (0 : Int32))])) t → Steps p.tables e below (s₁.setTop (entryFrame m #[(.int u1)] 1)) t := by
      intro t k
      refine k1 _ ?_
      show Steps p.tables e below (s₁.setTop (mkF m 1 #[.val (.int u1)] [(.int u1)])) _
      refine XS.ifYes X0.here hx rfl (pc0 := 1) (pc' := 10) rfl (hb hby dm2_1) rfl ((if0 _ _).trans (tlt h1).1) (by decide) (by decide) ?_
      show Steps p.tables e below (s₁.setTop (mkF m 10 #[.val (.int u1)] [])) _
      refine XS.iconst X0.here hx rfl (hb hby dm2_10) ?_
      show Steps p.tables e below (s₁.setTop (mkF m 11 #[.val (.int u1)] [(.int (0 : Int32))])) _
      exact k
    obtain ⟨fs, hr, hrun, hended, hW, hsame⟩ := X0.leave (v := some (.int (0 : Int32))) (fun h => by rw [Bd.returns] at h; cases h)
    refine ⟨_, _, k2 _ ?_, hrun, hended, _, _, rfl, ?_, ⟨_, rfl⟩, hW, hsame.mono (Nat.le_of_ble_eq_true rfl) (Nat.le_of_ble_eq_true rfl)⟩
    · exact retN X0 hx (t := .boolean) Bd.returns (by simp) (hb hby dm2_11) hr
    · show Q2 Z u1 h0 n0 _ s₁.heap _
      rw [e0]
      exact ⟨by simp [own_g, *], N0, rfl⟩
  · have k3 : ∀ t, Steps p.tables e below (s₁.setTop (mkF m 7 #[.val (.int u1)] [(.int (32 : Int32)), (.int u1)])) t → Steps p.tables e below (s₁.setTop (entryFrame m #[(.int u1)] 1)) t := by
      intro t k
      refine k1 _ ?_
      show Steps p.tables e below (s₁.setTop (mkF m 1 #[.val (.int u1)] [(.int u1)])) _
      refine XS.ifNo X0.here hx rfl (hb hby dm2_1) rfl ((if0 _ _).trans (flt h1).1) ?_
      show Steps p.tables e below (s₁.setTop (mkF m 4 #[.val (.int u1)] [])) _
      refine XS.iloadN X0.here hx rfl (hb hby dm2_4) rfl ?_
      show Steps p.tables e below (s₁.setTop (mkF m 5 #[.val (.int u1)] [(.int u1)])) _
      refine XS.bipush X0.here hx rfl (hb hby dm2_5) ?_
      show Steps p.tables e below (s₁.setTop (mkF m 7 #[.val (.int u1)] [(.int (32 : Int32)), (.int u1)])) _
      exact k
    by_cases h2 : u1 < (32 : Int32)
    · obtain ⟨r, eq_r⟩ : ∃ z : Int32, z = (if ((((-9730 : Int32).toUInt32 >>> (u1 &&& 31).toUInt32).toInt32) &&& (1 : Int32)) = (0 : Int32) then (0 : Int32) else (1 : Int32)) := ⟨_, rfl⟩
      have k5 : ∀ t, Steps p.tables e below (s₁.setTop (mkF m 27 #[.val (.int u1)] [(.int r)])) t → Steps p.tables e below (s₁.setTop (entryFrame m #[(.int u1)] 1)) t := by
        intro t k
        refine k3 _ ?_
        show Steps p.tables e below (s₁.setTop (mkF m 7 #[.val (.int u1)] [(.int (32 : Int32)), (.int u1)])) _
        refine XS.icmpYes X0.here hx rfl (pc0 := 7) (pc' := 12) rfl (hb hby dm2_7) rfl (tlt h2).1 (by decide) (by decide) ?_
        show Steps p.tables e below (s₁.setTop (mkF m 12 #[.val (.int u1)] [])) _
        refine XS.sipush X0.here hx rfl (hb hby dm2_12) ?_
        show Steps p.tables e below (s₁.setTop (mkF m 15 #[.val (.int u1)] [(.int (-9730 : Int32))])) _
        refine XS.iloadN X0.here hx rfl (hb hby dm2_15) rfl ?_
        show Steps p.tables e below (s₁.setTop (mkF m 16 #[.val (.int u1)] [(.int u1), (.int (-9730 : Int32))])) _
        refine XS.iushr X0.here hx rfl (hb hby dm2_16) rfl ?_
        show Steps p.tables e below (s₁.setTop (mkF m 17 #[.val (.int u1)] [(.int (((-9730 : Int32).toUInt32 >>> (u1 &&& 31).toUInt32).toInt32))])) _
        refine XS.iconst X0.here hx rfl (hb hby dm2_17) ?_
        show Steps p.tables e below (s₁.setTop (mkF m 18 #[.val (.int u1)] [(.int (1 : Int32)), (.int (((-9730 : Int32).toUInt32 >>> (u1 &&& 31).toUInt32).toInt32))])) _
        refine XS.iand X0.here hx rfl (hb hby dm2_18) rfl ?_
        show Steps p.tables e below (s₁.setTop (mkF m 19 #[.val (.int u1)] [(.int ((((-9730 : Int32).toUInt32 >>> (u1 &&& 31).toUInt32).toInt32) &&& (1 : Int32)))])) _
        by_cases hc4_19 : ((((-9730 : Int32).toUInt32 >>> (u1 &&& 31).toUInt32).toInt32) &&& (1 : Int32)) = (0 : Int32)
        · rw [show r = (0 : Int32) by rw [eq_r, if_pos hc4_19]] at k
          show Steps p.tables e below (s₁.setTop (mkF m 19 #[.val (.int u1)] [(.int ((((-9730 : Int32).toUInt32 >>> (u1 &&& 31).toUInt32).toInt32) &&& (1 : Int32)))])) _
          refine XS.ifYes X0.here hx rfl (pc0 := 19) (pc' := 26) rfl (hb hby dm2_19) rfl ((if0 _ _).trans (teq hc4_19).1) (by decide) (by decide) ?_
          show Steps p.tables e below (s₁.setTop (mkF m 26 #[.val (.int u1)] [])) _
          refine XS.iconst X0.here hx rfl (hb hby dm2_26) ?_
          show Steps p.tables e below (s₁.setTop (mkF m 27 #[.val (.int u1)] [(.int (0 : Int32))])) _
          exact k
        · rw [show r = (1 : Int32) by rw [eq_r, if_neg hc4_19]] at k
          show Steps p.tables e below (s₁.setTop (mkF m 19 #[.val (.int u1)] [(.int ((((-9730 : Int32).toUInt32 >>> (u1 &&& 31).toUInt32).toInt32) &&& (1 : Int32)))])) _
          refine XS.ifNo X0.here hx rfl (hb hby dm2_19) rfl ((if0 _ _).trans (feq hc4_19).1) ?_
          show Steps p.tables e below (s₁.setTop (mkF m 22 #[.val (.int u1)] [])) _
          refine XS.iconst X0.here hx rfl (hb hby dm2_22) ?_
          show Steps p.tables e below (s₁.setTop (mkF m 23 #[.val (.int u1)] [(.int (1 : Int32))])) _
          refine XS.goto X0.here hx rfl (pc0 := 23) (pc' := 27) rfl (hb hby dm2_23) (by decide) (by decide) ?_
          show Steps p.tables e below (s₁.setTop (mkF m 27 #[.val (.int u1)] [(.int (1 : Int32))])) _
          exact k
      have hnar : nar .boolean r = (own_g u1) := by rw [show r = own_g u1 by rw [eq_r]; simp only [own_g, if_neg h1, if_pos h2]]; exact own_nz (own_g01 u1)
      obtain ⟨fs, hr, hrun, hended, hW, hsame⟩ := X0.leave (v := some (.int (own_g u1))) (fun h => by rw [Bd.returns] at h; cases h)
      refine ⟨_, _, k5 _ ?_, hrun, hended, _, _, rfl, ?_, ⟨_, rfl⟩, hW, hsame.mono (Nat.le_of_ble_eq_true rfl) (Nat.le_of_ble_eq_true rfl)⟩
      · exact retN X0 hx (t := .boolean) Bd.returns (by simp) (hb hby dm2_27) (fun f acts q1 q2 q3 => by rw [hnar]; exact hr f acts q1 q2 q3)
      · show Q2 Z u1 h0 n0 _ s₁.heap _
        rw [e0]
        exact ⟨rfl, N0, rfl⟩
    · have k6 : ∀ t, Steps p.tables e below (s₁.setTop (mkF m 11 #[.val (.int u1)] [(.int (0 : Int32))])) t → Steps p.tables e below (s₁.setTop (entryFrame m #[(.int u1)] 1)) t := by
        intro t k
        refine k3 _ ?_
        show Steps p.tables e below (s₁.setTop (mkF m 7 #[.val (.int u1)] [(.int (32 : Int32)), (.int u1)])) _
        refine XS.icmpNo X0.here hx rfl (hb hby dm2_7) rfl (flt h2).1 ?_
        show Steps p.tables e below (s₁.setTop (mkF m 10 #[.val (.int u1)] [])) _
        refine XS.iconst X0.here hx rfl (hb hby dm2_10) ?_
        show Steps p.tables e below (s₁.setTop (mkF m 11 #[.val (.int u1)] [(.int (0 : Int32))])) _
        exact k
      obtain ⟨fs, hr, hrun, hended, hW, hsame⟩ := X0.leave (v := some (.int (0 : Int32))) (fun h => by rw [Bd.returns] at h; cases h)
      refine ⟨_, _, k6 _ ?_, hrun, hended, _, _, rfl, ?_, ⟨_, rfl⟩, hW, hsame.mono (Nat.le_of_ble_eq_true rfl) (Nat.le_of_ble_eq_true rfl)⟩
      · exact retN X0 hx (t := .boolean) Bd.returns (by simp) (hb hby dm2_11) hr
      · show Q2 Z u1 h0 n0 _ s₁.heap _
        rw [e0]
        exact ⟨by simp [own_g, *], N0, rfl⟩
theorem ef_0 (m : MethodId) (x0 : Int32) (x1 : Int32) : entryFrame m #[(.int x0), (.int x1)] maxLocals = mkF m 0 #[.val (.int x0), .val (.int x1), .unset, .unset, .unset] [] := by first | (simp [entryFrame, mkF, argsToLocals, Value.category, maxLocals]; done) | rfl
def Q0 (Z : State) (p1 : Int32) (p2 : Int32) (h0 : Heap) (n0 : Nat) (v : Option Value) (h : Heap) (L : List Loc) : Prop := v = some (.int 1) ∧ Fr n0 L
set_option maxRecDepth 65536 in
set_option maxHeartbeats 40000000 in
theorem rm0 (l : Launch) (Z : State) (a0 : Array Value) (hw : ∀ d ∈ tables_1, d.before a0 Z = true) (ws : List Jvm.Cond) (p1 : Int32) (p2 : Int32) (h0 : Heap) (n0 : Nat) (Z0 : n0 ≤ h0.size)  :
    MetFree l x (head1 (Jvm.Cond.code x code maxLocals ret :: ws) room_1) (fun a U => a = #[(.int p1), (.int p2)] ∧ Z.Warmed39 U.vm ∧ U.heap = h0) (fun _ _ _ _ _ => True) (fun _ U o U' => ∃ v L, o = .returned v ∧ Q0 Z p1 p2 h0 n0 v U'.heap L ∧ FrameEnd U o U' L 0 0) := by
  refine MetFree.of_bodySF (plainFor_of_name pn_1) hisR ?_
  intro p e s m args below meth c s₁ Bd hml0 hP hK
  obtain ⟨rfl, hZ, hh⟩ := hP
  have hx := Bd.exec
  have hby := Bd.bytes
  have hml : c.maxLocals = 5 := hml0
  have hown : s.vm.findClass "com/example/vellum_sketch/vellumsketch/XmlCharactersIsXml11ControlPinLaw" = some m.cls := findClass_of_methodNamed Bd.named
  have hnm := (name_of_methodNamed Bd.named Bd.method).1
  have X0 : Stand p l e room_1 s m #[(.int p1), (.int p2)] below meth c s₁ [] 0 0 := Stand.of_body Bd
  have e0 : s₁.heap = h0 := by rw [← hh, Bd.state]; rfl
  have N0 := Fr.nil n0
  have k0 : ∀ t, Steps p.tables e below (s₁.setTop (mkF m 0 #[.val (.int p1), .val (.int p2), .unset, .unset, .unset] [])) t → Steps p.tables e below (s₁.setTop (entryFrame m #[(.int p1), (.int p2)] maxLocals)) t := fun t k => castTop (ef_0 m p1 p2) k
  have k1 : ∀ t, Steps p.tables e below (s₁.setTop (mkF m 6 #[.val (.int p1), .val (.int p2), .val (.int (p2 % (40 : Int32))), .unset, .unset] [(.int p1)])) t → Steps p.tables e below (s₁.setTop (entryFrame m #[(.int p1), (.int p2)] maxLocals)) t := by
    intro t k
    refine k0 _ ?_
    show Steps p.tables e below (s₁.setTop (mkF m 0 #[.val (.int p1), .val (.int p2), .unset, .unset, .unset] [])) _
    refine XS.iloadN X0.here hx rfl (hb hby at_0) rfl ?_
    show Steps p.tables e below (s₁.setTop (mkF m 1 #[.val (.int p1), .val (.int p2), .unset, .unset, .unset] [(.int p2)])) _
    refine XS.bipush X0.here hx rfl (hb hby at_1) ?_
    show Steps p.tables e below (s₁.setTop (mkF m 3 #[.val (.int p1), .val (.int p2), .unset, .unset, .unset] [(.int (40 : Int32)), (.int p2)])) _
    refine iremM X0 hx rfl (hb hby at_3) rfl (by decide) ?_
    show Steps p.tables e below (s₁.setTop (mkF m 4 #[.val (.int p1), .val (.int p2), .unset, .unset, .unset] [(.int (p2 % (40 : Int32)))])) _
    refine XS.istoreN X0.here hx rfl (hb hby at_4) rfl (l' := #[.val (.int p1), .val (.int p2), .val (.int (p2 % (40 : Int32))), .unset, .unset]) rfl ?_
    show Steps p.tables e below (s₁.setTop (mkF m 5 #[.val (.int p1), .val (.int p2), .val (.int (p2 % (40 : Int32))), .unset, .unset] [])) _
    refine XS.iloadN X0.here hx rfl (hb hby at_5) rfl ?_
    show Steps p.tables e below (s₁.setTop (mkF m 6 #[.val (.int p1), .val (.int p2), .val (.int (p2 % (40 : Int32))), .unset, .unset] [(.int p1)])) _
    exact k
  obtain ⟨_, _, ⟨T2, L2, ck2, nk2⟩, -, X2, ⟨Lc2, hQ2, l2, y2, z2⟩, st2⟩ := Jvm.LawKit.callS X0 hx (y := (⟨"com/example/vellum_sketch/vellumsketch/XmlCharacters", "isXml11Control", "(I)Z"⟩ : MethodName)) hown (mvT hZ (hw _ (List.mem_of_getElem? (i := 0) rfl))) (mvT hZ (hw _ (List.mem_of_getElem? (i := 1) rfl))) (mvT hZ (hw _ (List.mem_of_getElem? (i := 2) rfl))) (mvT hZ (hw _ (List.mem_of_getElem? (i := 3) rfl))) (by decide) (backOf (W := 0) (rm1 l Z a0 hw [] p1 h0 n0 Z0) hZ (hw _ (List.mem_of_getElem? (i := 3) rfl)) (hw _ (List.mem_of_getElem? (i := 2) rfl)) (by decide) (by decide)) (g := (mkF m 6 #[.val (.int p1), .val (.int p2), .val (.int (p2 % (40 : Int32))), .unset, .unset] [(.int p1)])) rfl (by rw [hml]; rfl) (argsL := [(.int p1)]) (rest := []) (lenOf pd_0 rfl) rfl (by show 2 * 0 + _ ≤ _; exact Nat.le_of_eq rfl) (hb hby at_6) (fun _ _ => ⟨rfl, e0, (by decide : 0 + 0 ≤ _), (by decide : 0 + 0 ≤ _)⟩)
  dsimp only [Pt.U, Pt.locs, Pt.cells, Pt.slots] at X2 l2 y2 z2 st2 hQ2
  subst l2 y2 z2
  obtain ⟨rfl, N2q, e2⟩ := hQ2
  have N2 := Fr.app N0 N2q
  have k2 : ∀ t, Steps p.tables e below (T2.setTop (mkF m 9 #[.val (.int p1), .val (.int p2), .val (.int (p2 % (40 : Int32))), .unset, .unset] [(.int (own_f p1))])) t → Steps p.tables e below (s₁.setTop (entryFrame m #[(.int p1), (.int p2)] maxLocals)) t := fun t k => k1 t (st2 _ k)
  have k3 : ∀ t, Steps p.tables e below (T2.setTop (mkF m 10 #[.val (.int p1), .val (.int p2), .val (.int (p2 % (40 : Int32))), .unset, .unset] [(.int p1), (.int (own_f p1))])) t → Steps p.tables e below (s₁.setTop (entryFrame m #[(.int p1), (.int p2)] maxLocals)) t := by
    intro t k
    refine k2 _ ?_
    show Steps p.tables e below (T2.setTop (mkF m 9 #[.val (.int p1), .val (.int p2), .val (.int (p2 % (40 : Int32))), .unset, .unset] [(.int (own_f p1))])) _
    refine XS.iloadN X2.here hx rfl (hb hby at_9) rfl ?_
    show Steps p.tables e below (T2.setTop (mkF m 10 #[.val (.int p1), .val (.int p2), .val (.int (p2 % (40 : Int32))), .unset, .unset] [(.int p1), (.int (own_f p1))])) _
    exact k
  obtain ⟨_, _, ⟨T4, L4, ck4, nk4⟩, -, X4, ⟨Lc4, hQ4, l4, y4, z4⟩, st4⟩ := Jvm.LawKit.callS X2 hx (y := (⟨"com/example/vellum_sketch/vellumsketch/XmlCharactersIsXml11ControlPinLaw", "ref", "(I)Z"⟩ : MethodName)) hown (mvT hZ (hw _ (List.mem_of_getElem? (i := 4) rfl))) (mvT hZ (hw _ (List.mem_of_getElem? (i := 5) rfl))) (mvT hZ (hw _ (List.mem_of_getElem? (i := 6) rfl))) (mvT hZ (hw _ (List.mem_of_getElem? (i := 7) rfl))) (by decide) (backOf (W := 1) (rm2 l Z a0 hw [] p1 h0 n0 Z0) hZ (hw _ (List.mem_of_getElem? (i := 7) rfl)) (hw _ (List.mem_of_getElem? (i := 6) rfl)) (by decide) (by decide)) (g := (mkF m 10 #[.val (.int p1), .val (.int p2), .val (.int (p2 % (40 : Int32))), .unset, .unset] [(.int p1), (.int (own_f p1))])) rfl (by rw [hml]; rfl) (argsL := [(.int p1)]) (rest := [(.int (own_f p1))]) (lenOf pd_0 rfl) rfl (by show 2 * 0 + _ ≤ _; exact Nat.le_of_eq rfl) (hb hby at_10) (fun _ _ => ⟨rfl, e2, (by decide : 0 + 0 ≤ _), (by decide : 0 + 0 ≤ _)⟩)
  dsimp only [Pt.U, Pt.locs, Pt.cells, Pt.slots] at X4 l4 y4 z4 st4 hQ4
  subst l4 y4 z4
  obtain ⟨rfl, N4q, e4⟩ := hQ4
  have N4 := Fr.app N2 N4q
  have k4 : ∀ t, Steps p.tables e below (T4.setTop (mkF m 13 #[.val (.int p1), .val (.int p2), .val (.int (p2 % (40 : Int32))), .unset, .unset] [(.int (own_g p1)), (.int (own_f p1))])) t → Steps p.tables e below (s₁.setTop (entryFrame m #[(.int p1), (.int p2)] maxLocals)) t := fun t k => k3 t (st4 _ k)
  have k5 : ∀ t, Steps p.tables e below (T4.setTop (mkF m 23 #[.val (.int p1), .val (.int p2), .val (.int (p2 % (40 : Int32))), .val (.int (1 : Int32)), .unset] [(.int (p2 % (40 : Int32)))])) t → Steps p.tables e below (s₁.setTop (entryFrame m #[(.int p1), (.int p2)] maxLocals)) t := by
    intro t k
    refine k4 _ ?_
    show Steps p.tables e below (T4.setTop (mkF m 13 #[.val (.int p1), .val (.int p2), .val (.int (p2 % (40 : Int32))), .unset, .unset] [(.int (own_g p1)), (.int (own_f p1))])) _
    refine XS.icmpNo X4.here hx rfl (hb hby at_13) rfl (teq (own_fg p1)).2 ?_
    show Steps p.tables e below (T4.setTop (mkF m 16 #[.val (.int p1), .val (.int p2), .val (.int (p2 % (40 : Int32))), .unset, .unset] [])) _
    refine XS.iconst X4.here hx rfl (hb hby at_16) ?_
    show Steps p.tables e below (T4.setTop (mkF m 17 #[.val (.int p1), .val (.int p2), .val (.int (p2 % (40 : Int32))), .unset, .unset] [(.int (1 : Int32))])) _
    refine XS.goto X4.here hx rfl (pc0 := 17) (pc' := 21) rfl (hb hby at_17) (by decide) (by decide) ?_
    show Steps p.tables e below (T4.setTop (mkF m 21 #[.val (.int p1), .val (.int p2), .val (.int (p2 % (40 : Int32))), .unset, .unset] [(.int (1 : Int32))])) _
    refine XS.istoreN X4.here hx rfl (hb hby at_21) rfl (l' := #[.val (.int p1), .val (.int p2), .val (.int (p2 % (40 : Int32))), .val (.int (1 : Int32)), .unset]) rfl ?_
    show Steps p.tables e below (T4.setTop (mkF m 22 #[.val (.int p1), .val (.int p2), .val (.int (p2 % (40 : Int32))), .val (.int (1 : Int32)), .unset] [])) _
    refine XS.iloadN X4.here hx rfl (hb hby at_22) rfl ?_
    show Steps p.tables e below (T4.setTop (mkF m 23 #[.val (.int p1), .val (.int p2), .val (.int (p2 % (40 : Int32))), .val (.int (1 : Int32)), .unset] [(.int (p2 % (40 : Int32)))])) _
    exact k
  obtain ⟨_, _, ⟨T6, L6, ck6, nk6⟩, -, X6, ⟨Lc6, hQ6, l6, y6, z6⟩, st6⟩ := Jvm.LawKit.callS X4 hx (y := (⟨"com/example/vellum_sketch/vellumsketch/XmlCharacters", "isXml11Control", "(I)Z"⟩ : MethodName)) hown (mvT hZ (hw _ (List.mem_of_getElem? (i := 0) rfl))) (mvT hZ (hw _ (List.mem_of_getElem? (i := 1) rfl))) (mvT hZ (hw _ (List.mem_of_getElem? (i := 2) rfl))) (mvT hZ (hw _ (List.mem_of_getElem? (i := 3) rfl))) (by decide) (backOf (W := 0) (rm1 l Z a0 hw [] (p2 % (40 : Int32)) h0 n0 Z0) hZ (hw _ (List.mem_of_getElem? (i := 3) rfl)) (hw _ (List.mem_of_getElem? (i := 2) rfl)) (by decide) (by decide)) (g := (mkF m 23 #[.val (.int p1), .val (.int p2), .val (.int (p2 % (40 : Int32))), .val (.int (1 : Int32)), .unset] [(.int (p2 % (40 : Int32)))])) rfl (by rw [hml]; rfl) (argsL := [(.int (p2 % (40 : Int32)))]) (rest := []) (lenOf pd_0 rfl) rfl (by show 2 * 0 + _ ≤ _; exact Nat.le_of_eq rfl) (hb hby at_23) (fun _ _ => ⟨rfl, e4, (by decide : 0 + 0 ≤ _), (by decide : 0 + 0 ≤ _)⟩)
  dsimp only [Pt.U, Pt.locs, Pt.cells, Pt.slots] at X6 l6 y6 z6 st6 hQ6
  subst l6 y6 z6
  obtain ⟨rfl, N6q, e6⟩ := hQ6
  have N6 := Fr.app N4 N6q
  have k6 : ∀ t, Steps p.tables e below (T6.setTop (mkF m 26 #[.val (.int p1), .val (.int p2), .val (.int (p2 % (40 : Int32))), .val (.int (1 : Int32)), .unset] [(.int (own_f (p2 % (40 : Int32))))])) t → Steps p.tables e below (s₁.setTop (entryFrame m #[(.int p1), (.int p2)] maxLocals)) t := fun t k => k5 t (st6 _ k)
  have k7 : ∀ t, Steps p.tables e below (T6.setTop (mkF m 27 #[.val (.int p1), .val (.int p2), .val (.int (p2 % (40 : Int32))), .val (.int (1 : Int32)), .unset] [(.int (p2 % (40 : Int32))), (.int (own_f (p2 % (40 : Int32))))])) t → Steps p.tables e below (s₁.setTop (entryFrame m #[(.int p1), (.int p2)] maxLocals)) t := by
    intro t k
    refine k6 _ ?_
    show Steps p.tables e below (T6.setTop (mkF m 26 #[.val (.int p1), .val (.int p2), .val (.int (p2 % (40 : Int32))), .val (.int (1 : Int32)), .unset] [(.int (own_f (p2 % (40 : Int32))))])) _
    refine XS.iloadN X6.here hx rfl (hb hby at_26) rfl ?_
    show Steps p.tables e below (T6.setTop (mkF m 27 #[.val (.int p1), .val (.int p2), .val (.int (p2 % (40 : Int32))), .val (.int (1 : Int32)), .unset] [(.int (p2 % (40 : Int32))), (.int (own_f (p2 % (40 : Int32))))])) _
    exact k
  obtain ⟨_, _, ⟨T8, L8, ck8, nk8⟩, -, X8, ⟨Lc8, hQ8, l8, y8, z8⟩, st8⟩ := Jvm.LawKit.callS X6 hx (y := (⟨"com/example/vellum_sketch/vellumsketch/XmlCharactersIsXml11ControlPinLaw", "ref", "(I)Z"⟩ : MethodName)) hown (mvT hZ (hw _ (List.mem_of_getElem? (i := 4) rfl))) (mvT hZ (hw _ (List.mem_of_getElem? (i := 5) rfl))) (mvT hZ (hw _ (List.mem_of_getElem? (i := 6) rfl))) (mvT hZ (hw _ (List.mem_of_getElem? (i := 7) rfl))) (by decide) (backOf (W := 1) (rm2 l Z a0 hw [] (p2 % (40 : Int32)) h0 n0 Z0) hZ (hw _ (List.mem_of_getElem? (i := 7) rfl)) (hw _ (List.mem_of_getElem? (i := 6) rfl)) (by decide) (by decide)) (g := (mkF m 27 #[.val (.int p1), .val (.int p2), .val (.int (p2 % (40 : Int32))), .val (.int (1 : Int32)), .unset] [(.int (p2 % (40 : Int32))), (.int (own_f (p2 % (40 : Int32))))])) rfl (by rw [hml]; rfl) (argsL := [(.int (p2 % (40 : Int32)))]) (rest := [(.int (own_f (p2 % (40 : Int32))))]) (lenOf pd_0 rfl) rfl (by show 2 * 0 + _ ≤ _; exact Nat.le_of_eq rfl) (hb hby at_27) (fun _ _ => ⟨rfl, e6, (by decide : 0 + 0 ≤ _), (by decide : 0 + 0 ≤ _)⟩)
  dsimp only [Pt.U, Pt.locs, Pt.cells, Pt.slots] at X8 l8 y8 z8 st8 hQ8
  subst l8 y8 z8
  obtain ⟨rfl, N8q, e8⟩ := hQ8
  have N8 := Fr.app N6 N8q
  have k8 : ∀ t, Steps p.tables e below (T8.setTop (mkF m 30 #[.val (.int p1), .val (.int p2), .val (.int (p2 % (40 : Int32))), .val (.int (1 : Int32)), .unset] [(.int (own_g (p2 % (40 : Int32)))), (.int (own_f (p2 % (40 : Int32))))])) t → Steps p.tables e below (s₁.setTop (entryFrame m #[(.int p1), (.int p2)] maxLocals)) t := fun t k => k7 t (st8 _ k)
  have k9 : ∀ t, Steps p.tables e below (T8.setTop (mkF m 54 #[.val (.int p1), .val (.int p2), .val (.int (p2 % (40 : Int32))), .val (.int (1 : Int32)), .val (.int (1 : Int32))] [(.int (1 : Int32))])) t → Steps p.tables e below (s₁.setTop (entryFrame m #[(.int p1), (.int p2)] maxLocals)) t := by
    intro t k
    refine k8 _ ?_
    show Steps p.tables e below (T8.setTop (mkF m 30 #[.val (.int p1), .val (.int p2), .val (.int (p2 % (40 : Int32))), .val (.int (1 : Int32)), .unset] [(.int (own_g (p2 % (40 : Int32)))), (.int (own_f (p2 % (40 : Int32))))])) _
    refine XS.icmpNo X8.here hx rfl (hb hby at_30) rfl (teq (own_fg _)).2 ?_
    show Steps p.tables e below (T8.setTop (mkF m 33 #[.val (.int p1), .val (.int p2), .val (.int (p2 % (40 : Int32))), .val (.int (1 : Int32)), .unset] [])) _
    refine XS.iconst X8.here hx rfl (hb hby at_33) ?_
    show Steps p.tables e below (T8.setTop (mkF m 34 #[.val (.int p1), .val (.int p2), .val (.int (p2 % (40 : Int32))), .val (.int (1 : Int32)), .unset] [(.int (1 : Int32))])) _
    refine XS.goto X8.here hx rfl (pc0 := 34) (pc' := 38) rfl (hb hby at_34) (by decide) (by decide) ?_
    show Steps p.tables e below (T8.setTop (mkF m 38 #[.val (.int p1), .val (.int p2), .val (.int (p2 % (40 : Int32))), .val (.int (1 : Int32)), .unset] [(.int (1 : Int32))])) _
    refine XS.istore X8.here hx rfl (hb hby at_38) rfl (l' := #[.val (.int p1), .val (.int p2), .val (.int (p2 % (40 : Int32))), .val (.int (1 : Int32)), .val (.int (1 : Int32))]) rfl ?_
    show Steps p.tables e below (T8.setTop (mkF m 40 #[.val (.int p1), .val (.int p2), .val (.int (p2 % (40 : Int32))), .val (.int (1 : Int32)), .val (.int (1 : Int32))] [])) _
    refine XS.iloadN X8.here hx rfl (hb hby at_40) rfl ?_
    show Steps p.tables e below (T8.setTop (mkF m 41 #[.val (.int p1), .val (.int p2), .val (.int (p2 % (40 : Int32))), .val (.int (1 : Int32)), .val (.int (1 : Int32))] [(.int (1 : Int32))])) _
    refine XS.ifNo X8.here hx rfl (hb hby at_41) rfl ((if0 _ _).trans (feq (by decide)).1) ?_
    show Steps p.tables e below (T8.setTop (mkF m 44 #[.val (.int p1), .val (.int p2), .val (.int (p2 % (40 : Int32))), .val (.int (1 : Int32)), .val (.int (1 : Int32))] [])) _
    refine XS.iload X8.here hx rfl (hb hby at_44) rfl ?_
    show Steps p.tables e below (T8.setTop (mkF m 46 #[.val (.int p1), .val (.int p2), .val (.int (p2 % (40 : Int32))), .val (.int (1 : Int32)), .val (.int (1 : Int32))] [(.int (1 : Int32))])) _
    refine XS.ifNo X8.here hx rfl (hb hby at_46) rfl ((if0 _ _).trans (feq (by decide)).1) ?_
    show Steps p.tables e below (T8.setTop (mkF m 49 #[.val (.int p1), .val (.int p2), .val (.int (p2 % (40 : Int32))), .val (.int (1 : Int32)), .val (.int (1 : Int32))] [])) _
    refine XS.iconst X8.here hx rfl (hb hby at_49) ?_
    show Steps p.tables e below (T8.setTop (mkF m 50 #[.val (.int p1), .val (.int p2), .val (.int (p2 % (40 : Int32))), .val (.int (1 : Int32)), .val (.int (1 : Int32))] [(.int (1 : Int32))])) _
    refine XS.goto X8.here hx rfl (pc0 := 50) (pc' := 54) rfl (hb hby at_50) (by decide) (by decide) ?_
    show Steps p.tables e below (T8.setTop (mkF m 54 #[.val (.int p1), .val (.int p2), .val (.int (p2 % (40 : Int32))), .val (.int (1 : Int32)), .val (.int (1 : Int32))] [(.int (1 : Int32))])) _
    exact k
  obtain ⟨fs, hr, hrun, hended, hW, hsame⟩ := X8.leave (v := some (.int (1 : Int32))) (fun h => by rw [Bd.returns] at h; cases h)
  refine ⟨_, _, k9 _ ?_, hrun, hended, _, _, rfl, ?_, ⟨_, rfl⟩, hW, hsame.mono (Nat.le_of_ble_eq_true rfl) (Nat.le_of_ble_eq_true rfl)⟩
  · exact retN X8 hx (t := .boolean) Bd.returns (by simp) (hb hby at_54) hr
  · show Q0 Z p1 p2 h0 n0 _ T8.heap _
    rw [e8]
    exact ⟨rfl, N8⟩
set_option maxRecDepth 65536 in
set_option maxHeartbeats 40000000 in
theorem comes_1 {Post : Tables → Env → Array Value → State → Outcome → State → Prop} (hpost : ∀ tb e args s v u, (limb_1_1.after args s (.returned v) u = true ∧ limb_1_2.after args s (.returned v) u = true ∧ True) → FrameEnd s (.returned v) u (Jvm.fieldLocs frame_1_writes args s ++ Jvm.arrayLocs frame_1_arrays args s ++ Jvm.staticLocs frame_1_statics s) 0 0 → Post tb e args s (.returned v) u) :
    ArmFor flags0 classFile x code maxLocals ret World_1 tables_1 room_1 Calls_1 rest_1 Pre_1 Post := by
  intro l hfl _ _ p e ha hc hk s m args below hf hA hF happ hP
  obtain ⟨hcalls, hrest, hpre⟩ := hP
  obtain ⟨-, -, -, hnamed, -, -, -, hat⟩ := (Spec.applies_iff hf).mp happ
  obtain ⟨hg, hn⟩ := and_e (Cond.before_iff.mp (show (Jvm.Cond.and given_1 narrow_1).before args s = true from hpre))
  obtain ⟨hcnt, hr0⟩ := and_e hg
  obtain ⟨hi0, hr1⟩ := and_e hr0
  have hi1 := hr1
  obtain ⟨w0, w1, rfl⟩ : ∃ w0 w1 : Value, args = #[w0, w1] := by
    have hs : args.size = 2 := by simpa [Cond.value, given_1] using hcnt
    obtain ⟨L⟩ := args
    match L, hs with
    | [w0, w1], _ => exact ⟨w0, w1, rfl⟩
  have hw := fun d (hd : d ∈ tables_1) => atoms_spec (ws := Jvm.Cond.code x code maxLocals ret :: tables_1) hat d (List.mem_cons_of_mem _ hd)
  have hfit : Fit s := fun {y c} hc i hi => by
    obtain ⟨ha, rfl⟩ := Array.getElem?_eq_some_iff.mp hc
    have q := List.all_eq_true.mp ((Array.all_eq_true_iff_forall_mem.mp hF) _ (Array.getElem_mem ha)) i (List.mem_range.mpr hi)
    simpa [Array.getElem?_eq_getElem hi] using q
  obtain ⟨i0, ei0⟩ := is_v hi0
  obtain rfl : w0 = (.int i0) := Option.some.inj ei0
  obtain ⟨i1, ei1⟩ := is_v hi1
  obtain rfl : w1 = (.int i1) := Option.some.inj ei1
  obtain ⟨n, o, h1, h2, h3, _, L, rfl, ⟨rfl, N⟩, hq⟩ := rm0 l s _ hw tables_1 i0 i1  s.heap s.heap.size (Nat.le_refl _)  p e ha hc hk s m _ below hf ((Spec.applies_iff_loose hf).mp happ).1 ⟨rfl, State.Warmed39.refl s, rfl⟩ trivial
  refine ⟨n, _, h1, h2, h3, hpost _ _ _ _ _ _ ⟨Cond.after_iff.mpr rfl, Cond.after_iff.mpr (eq_i res_at (Term.int_eval (1)) rfl), trivial⟩ ⟨hq.1, hq.2.1, (hq.2.2.sift fun y hy => Or.inr (N y hy)).mono (by decide) (by decide)⟩⟩
theorem main_1_1 : Claimed_1_1 := comes_1 fun _ _ _ _ _ _ h hF => ⟨h.1, hF⟩
theorem main_1_2 : Claimed_1_2 := comes_1 fun _ _ _ _ _ _ h hF => ⟨h.2.1, hF⟩
end Jvm.Pilot.@@N@@
namespace Jvm.Pilot.@@N@@
open Jvm Jvm.ClassFile Sem Op Lib Jvm.Free Jvm.Stand Jvm.Pilot.@@N@@.Jvm.D
/-! MADE BY PROGRAM (witnessworld.py) out of the Statement's table words and the real class files: 9 classes; the members and pool entries that the words name. The judged class is class 1, her method 2. -/
namespace start1
open Jvm.ClassFile
def u (s : String) : CpInfo := .utf8 (stringToUtf16 s)
/-- a pool by its gaps: so many unusable entries, then the entry; so many at the end -/
def gap : Nat → List CpInfo → List CpInfo
  | 0, r => r
  | n + 1, r => .unusable :: gap n r
def poolList (es : List (Nat × CpInfo)) (last : Nat) : List CpInfo := es.foldr (fun e r => gap e.1 (e.2 :: r)) (gap last [])
def pool (es : List (Nat × CpInfo)) (last : Nat) : Array CpInfo := ⟨poolList es last⟩
def fileOf (pool : Array CpInfo) (this : Nat) (attrs : Array Attribute := #[]) (ms : Array MethodInfo := #[]) (fl : Nat := 33) (sup : Nat := 0) (ifs : Array Nat := #[]) (fds : Array FieldInfo := #[]) : ClassFile where
  minorVersion := 0
  majorVersion := 65
  constantPool := pool
  accessFlags := fl
  thisClass := this
  superClass := sup
  interfaces := ifs
  fields := fds
  methods := ms
  attributes := attrs
def plain (name : String) (sup : Option ClassId) : Class where
  name := name
  kind := .ordinary
  loader := none
  accessFlags := 33
  super := sup
  interfaces := #[]
  cf := none
  fields := #[]
  methods := #[]
  instanceTypes := #[]
  staticTypes := #[]
  resolved := #[]
  callSites := []
  init := .initialized
  statics := none
  mirror := none

def pool0 : Array CpInfo := pool [(5, u "<init>"), (0, u "()V"), (1, .class_ 10), (1, u "java/lang/Object")] 113

def k0m0 : Method := { name := "<init>", desc := "()V", sig := { parameters := [], returnType := none }, accessFlags := 1, code := none }
/-- java/lang/Object -/
def k0 : Class := { plain "java/lang/Object" none with
  accessFlags := 33
  interfaces := #[]
  cf := some (fileOf pool0 8 #[] #[{ accessFlags := 1, nameIndex := 5, descriptorIndex := 6, attributes := #[] }] 33 0 #[] #[])
  fields := #[]
  methods := #[k0m0]
  instanceTypes := #[]
  staticTypes := #[]
  resolved := Array.replicate 124 none
  statics := none }

def pool1 : Array CpInfo := pool [(2, .class_ 4), (1, u "java/lang/Object"), (0, u "<init>"), (0, u "()V"), (0, .class_ 8), (0, u "com/example/vellum_sketch/vellumsketch/XmlCharactersIsXml11ControlPinLaw"), (0, .methodref 10 11), (0, .class_ 12), (0, .nameAndType 13 14), (0, u "com/example/vellum_sketch/vellumsketch/XmlCharacters"), (0, u "isXml11Control"), (0, u "(I)Z"), (0, .methodref 7 16), (0, .nameAndType 17 14), (0, u "ref"), (0, u "MASK"), (0, u "I"), (5, u "law"), (0, u "(II)Z")] 2

def k1m0 : Method := { name := "<init>", desc := "()V", sig := { parameters := [], returnType := none }, accessFlags := 2, code := none }
def k1c1 : Code := { maxStack := 2, maxLocals := 1, code := method_2_code, exceptionTable := #[], attributes := #[] }
def k1m1 : Method := { name := "ref", desc := "(I)Z", sig := { parameters := [.int], returnType := some .boolean }, accessFlags := 10, code := some k1c1 }
def k1c2 : Code := { maxStack := 2, maxLocals := 5, code := code, exceptionTable := #[], attributes := #[] }
def k1m2 : Method := { name := "law", desc := "(II)Z", sig := { parameters := [.int, .int], returnType := some .boolean }, accessFlags := 9, code := some k1c2 }
/-- com/example/vellum_sketch/vellumsketch/XmlCharactersIsXml11ControlPinLaw -/
def k1 : Class := { plain "com/example/vellum_sketch/vellumsketch/XmlCharactersIsXml11ControlPinLaw" (some 0) with
  accessFlags := 49
  interfaces := #[]
  cf := some (fileOf pool1 7 #[] #[{ accessFlags := 2, nameIndex := 5, descriptorIndex := 6, attributes := #[] }, { accessFlags := 10, nameIndex := 17, descriptorIndex := 14, attributes := #[] }, { accessFlags := 9, nameIndex := 25, descriptorIndex := 26, attributes := #[] }] 49 2 #[] #[{ accessFlags := 26, nameIndex := 18, descriptorIndex := 19, attributes := #[] }])
  fields := #[{ name := "MASK", type := .int, accessFlags := 26, slot := 0, constantValue := 0 }]
  methods := #[k1m0, k1m1, k1m2]
  instanceTypes := #[]
  staticTypes := #[.int]
  resolved := Array.replicate 29 none
  statics := none }

def pool2 : Array CpInfo := pool [(2, .class_ 4), (1, u "java/lang/Object"), (0, u "<init>"), (0, u "()V"), (1, .class_ 10), (1, u "com/example/vellum_sketch/vellumsketch/XmlCharacters"), (0, u "ASCII_START"), (0, u "[Z"), (2, u "NAME_START"), (0, u "[I"), (6, u "ASCII_PART"), (2, u "NAME_PART"), (17, u "(I)Z"), (54, u "isXml11Control")] 28

def k2m0 : Method := { name := "<init>", desc := "()V", sig := { parameters := [], returnType := none }, accessFlags := 2, code := none }
def k2c1 : Code := { maxStack := 2, maxLocals := 1, code := prog_75_method_7_code, exceptionTable := #[], attributes := #[] }
def k2m1 : Method := { name := "isXml11Control", desc := "(I)Z", sig := { parameters := [.int], returnType := some .boolean }, accessFlags := 8, code := some k2c1 }
/-- com/example/vellum_sketch/vellumsketch/XmlCharacters -/
def k2 : Class := { plain "com/example/vellum_sketch/vellumsketch/XmlCharacters" (some 0) with
  accessFlags := 48
  interfaces := #[]
  cf := some (fileOf pool2 8 #[] #[{ accessFlags := 2, nameIndex := 5, descriptorIndex := 6, attributes := #[] }, { accessFlags := 8, nameIndex := 99, descriptorIndex := 44, attributes := #[] }] 48 2 #[] #[{ accessFlags := 26, nameIndex := 15, descriptorIndex := 16, attributes := #[] }, { accessFlags := 26, nameIndex := 26, descriptorIndex := 16, attributes := #[] }, { accessFlags := 26, nameIndex := 11, descriptorIndex := 12, attributes := #[] }, { accessFlags := 26, nameIndex := 23, descriptorIndex := 12, attributes := #[] }])
  fields := #[{ name := "NAME_START", type := (.array .int), accessFlags := 26, slot := 0, constantValue := 0 }, { name := "NAME_PART", type := (.array .int), accessFlags := 26, slot := 1, constantValue := 0 }, { name := "ASCII_START", type := (.array .boolean), accessFlags := 26, slot := 2, constantValue := 0 }, { name := "ASCII_PART", type := (.array .boolean), accessFlags := 26, slot := 3, constantValue := 0 }]
  methods := #[k2m0, k2m1]
  instanceTypes := #[]
  staticTypes := #[(.array .int), (.array .int), (.array .boolean), (.array .boolean)]
  resolved := Array.replicate 128 none
  statics := none }

def pool3 : Array CpInfo := pool [(1, u "java/lang/Cloneable"), (0, .class_ 1), (0, u "java/lang/Object"), (0, .class_ 3)] 3

/-- java/lang/Cloneable -/
def k3 : Class := { plain "java/lang/Cloneable" (some 0) with
  accessFlags := 1537
  interfaces := #[]
  cf := some (fileOf pool3 2 #[] #[] 1537 4 #[] #[])
  fields := #[]
  methods := #[]
  instanceTypes := #[]
  staticTypes := #[]
  resolved := Array.replicate 8 none
  statics := none }

def pool4 : Array CpInfo := pool [(1, u "java/io/Serializable"), (0, .class_ 1), (0, u "java/lang/Object"), (0, .class_ 3)] 3

/-- java/io/Serializable -/
def k4 : Class := { plain "java/io/Serializable" (some 0) with
  accessFlags := 1537
  interfaces := #[]
  cf := some (fileOf pool4 2 #[] #[] 1537 4 #[] #[])
  fields := #[]
  methods := #[]
  instanceTypes := #[]
  staticTypes := #[]
  resolved := Array.replicate 8 none
  statics := none }

/-- the primitive byte -/
def k5 : Class := { plain "byte" none with kind := .primitive 'B', accessFlags := 0x411 }
/-- [B -/
def k6 : Class := { plain "[B" (some 0) with kind := .array 5 .byte, interfaces := #[3, 4], accessFlags := 1041 }

/-- the primitive int -/
def k7 : Class := { plain "int" none with kind := .primitive 'I', accessFlags := 0x411 }
/-- [I -/
def k8 : Class := { plain "[I" (some 0) with kind := .array 7 .int, interfaces := #[3, 4], accessFlags := 1041 }

def heap : Heap := #[]
def classes : Array Class := #[k0, k1, k2, k3, k4, k5, k6, k7, k8]
def interned : List (Array UInt16 × Addr) := []
def slotsUsed : Nat := 0
def theMethod : MethodId := ⟨1, 2⟩
def args0 : Array Value := #[.int 5, .int 7]
def aboutOver (below : List Frame) : State where
  vm := { classes := classes, interned := interned.toArray }
  heap := heap
  slotsUsed := slotsUsed
  threads := #[{ frames := .invoking theMethod args0 :: below }]
def below0 : List Frame := [.native { method := ⟨0, 0⟩, args := #[] }]
def about1 : State := aboutOver below0
def p0 : Program := .bare "" "" ""
def e0 : Env := launch0.env 0 0 0
theorem w_frames : about1.frames = Frame.invoking theMethod args0 :: below0 := rfl
set_option maxRecDepth 65536 in
theorem w_args : argsFit about1.vm theMethod args0 = true := by decide +kernel
set_option maxRecDepth 65536 in
theorem w_heap : heapFits about1 = true := by decide +kernel
set_option maxRecDepth 65536 in
theorem w_runnable : about1.curStatus? = some .runnable := by decide +kernel
set_option maxRecDepth 65536 in
theorem w_alone : about1.alone = true := by decide +kernel
set_option maxRecDepth 65536 in
theorem w_named : about1.methodNamed? x = some theMethod := by decide +kernel
set_option maxRecDepth 65536 in
theorem w_hears : about1.hears theMethod below0 = true := by decide +kernel
set_option maxRecDepth 65536 in
theorem w_ripe : about1.ripe theMethod args0 below0 = true := by decide +kernel
theorem w_running : about1.status = .running := rfl
set_option maxRecDepth 65536 in
theorem w_room : about1.hasRoom e0.platform room_1 = true :=
  launch0.hasRoom_least _ room_1 (by decide +kernel) (by decide +kernel) (by decide +kernel) (by decide +kernel) (by decide +kernel) (by decide +kernel)
theorem allAtoms_all (ts : List Jvm.Cond) (a : Array Jvm.Value) (st : Jvm.State) : (allAtoms ts).before a st = ts.all (fun c => c.before a st) := by
  induction ts with
  | nil => rfl
  | cons c t ih =>
    show (Jvm.Cond.and c (allAtoms t)).before a st = _
    rw [Jvm.Cond.before_and, ih, List.all_cons]
def words1 : List Jvm.Cond := Jvm.Cond.code x code maxLocals ret :: tables_1
/-- a 'code' word, met by the world's own term for the bytes: nothing is compared byte by byte -/
theorem code_word {y : MethodName} {bytes : ByteArray} {mx : Nat} {rt : Option FieldType} {a : Array Value} {s : State} {m : MethodId} {meth : Method} {c : Code} (h1 : s.methodNamed? y = some m) (h2 : s.vm.method? m = some meth) (h3 : meth.code = some c) (h4 : c.code = bytes)
    (h5 : (c.maxLocals == mx && c.exceptionTable.isEmpty && decide (c.maxStack ≤ mostOperands) && decide (meth.sig.returnType = rt) && !meth.locks && decide (parseMethodDescriptor y.desc = some meth.sig)) = true) : (Jvm.Cond.code y bytes mx rt).before a s = true := by
  simp only [Bool.and_eq_true, beq_iff_eq, Bool.not_eq_true', decide_eq_true_eq] at h5
  obtain ⟨⟨⟨⟨⟨g1, g2⟩, g3⟩, g4⟩, g5⟩, g6⟩ := h5
  simp [Cond.before, Cond.holds, Cond.value, h1, h2, h3, h4, g1, g2, g3, g4, g5, g6]
def isCode : Jvm.Cond → Bool
  | .code _ _ _ _ => true
  | _ => false
theorem all_split {L : List Jvm.Cond} {P : Jvm.Cond → Bool} (h1 : L.all (fun c => isCode c || P c) = true) (h2 : ∀ c ∈ L.filter isCode, P c = true) : L.all P = true := by
  refine List.all_eq_true.mpr fun c hc => ?_
  have h := List.all_eq_true.mp h1 c hc
  rcases Bool.eq_false_or_eq_true (isCode c) with hi | hi
  · exact h2 c (List.mem_filter.mpr ⟨hc, hi⟩)
  · simpa [hi] using h
set_option maxRecDepth 65536 in
theorem w_c0 : (Jvm.Cond.code x code maxLocals ret).before args0 about1 = true := code_word (m := ⟨1, 2⟩) (meth := k1m2) (c := k1c2) (by decide +kernel) rfl rfl rfl (by decide +kernel)
set_option maxRecDepth 65536 in
theorem w_c1 : (Jvm.Cond.code ({ cls := "com/example/vellum_sketch/vellumsketch/XmlCharacters", name := "isXml11Control", desc := "(I)Z" } : Jvm.MethodName) prog_75_method_7_code (1 : Nat) (Option.some Jvm.ClassFile.FieldType.boolean)).before args0 about1 = true := code_word (m := ⟨2, 1⟩) (meth := k2m1) (c := k2c1) (by decide +kernel) rfl rfl rfl (by decide +kernel)
set_option maxRecDepth 65536 in
theorem w_c2 : (Jvm.Cond.code ({ cls := "com/example/vellum_sketch/vellumsketch/XmlCharactersIsXml11ControlPinLaw", name := "ref", desc := "(I)Z" } : Jvm.MethodName) method_2_code (1 : Nat) (Option.some Jvm.ClassFile.FieldType.boolean)).before args0 about1 = true := code_word (m := ⟨1, 1⟩) (meth := k1m1) (c := k1c1) (by decide +kernel) rfl rfl rfl (by decide +kernel)
def codes1 : List Jvm.Cond := [Jvm.Cond.code x code maxLocals ret, Jvm.Cond.code ({ cls := "com/example/vellum_sketch/vellumsketch/XmlCharacters", name := "isXml11Control", desc := "(I)Z" } : Jvm.MethodName) prog_75_method_7_code (1 : Nat) (Option.some Jvm.ClassFile.FieldType.boolean), Jvm.Cond.code ({ cls := "com/example/vellum_sketch/vellumsketch/XmlCharactersIsXml11ControlPinLaw", name := "ref", desc := "(I)Z" } : Jvm.MethodName) method_2_code (1 : Nat) (Option.some Jvm.ClassFile.FieldType.boolean)]
set_option maxRecDepth 65536 in
theorem codes_eq : words1.filter isCode = codes1 := rfl
theorem w_codes : ∀ c ∈ words1.filter isCode, c.before args0 about1 = true := by
  rw [codes_eq]
  intro c hc
  simp only [codes1, List.mem_cons, List.not_mem_nil, or_false] at hc
  rcases hc with rfl | rfl | rfl
  · exact w_c0
  · exact w_c1
  · exact w_c2
set_option maxRecDepth 65536 in
theorem w_t1 : words1.all (fun c => isCode c || c.before args0 about1) = true := by decide +kernel
theorem w_tables : (allAtoms (Jvm.Cond.code x code maxLocals ret :: tables_1)).before args0 about1 = true := by
  rw [allAtoms_all]
  show words1.all (fun c => c.before args0 about1) = true
  refine all_split ?_ w_codes
  rw [w_t1]
set_option maxRecDepth 65536 in
theorem w_case : (Jvm.Cond.and given_1 narrow_1).before args0 about1 = true := by decide +kernel
theorem w_applies : (headSpec (Jvm.Cond.code x code maxLocals ret :: tables_1) room_1).applies x e0.platform about1 = true :=
  (Spec.applies_iff w_frames).mpr ⟨w_running, w_runnable, w_alone, w_named, w_hears, w_ripe, w_room, w_tables⟩
theorem atStart : AtStart classFile x code maxLocals ret World_1 tables_1 room_1 Calls_1 rest_1 Pre_1 launch0 p0 e0 about1 theMethod args0 below0 :=
  ⟨lists_1, trivial, launch0.admits_env _ _ _, launch0.least_env, fairChoices_fair.cas, fairChoices_fair.clock, w_frames, w_args, w_heap, w_applies, trivial, trivial, w_case⟩
end start1
theorem witness_1 : WitnessClaimed_1 := ⟨start1.p0, start1.e0, start1.about1, start1.theMethod, start1.args0, start1.below0, start1.atStart⟩
end Jvm.Pilot.@@N@@
