import JvmDerived
import JvmDerived.Pilot.@@N@@Statement
import JvmDerived.Pilot.@@N@@Code
set_option linter.unusedVariables false
set_option linter.unusedSimpArgs false
namespace Jvm.RoadKit
open Sem ClassFile Op Lib Jvm.Stand Jvm.Free Jvm.LawKit
section New
variable {p : Program} {l : Launch} {e : Env} {R : Room} {s : State} {m : MethodId} {args : Array Value} {below : List Frame} {meth : Method} {c : Code} {T : State} {locs : List Loc} {cells slots : Nat}
theorem retI (X : Stand p l e R s m args below meth c T locs cells slots) (hx : p.tables.exec = Jvm.exec) {pc : Nat} {Ls : Array Slot} {z : Int32} {rest : List Value} (hret : meth.sig.returnType = some .int) (hd : decode c.code pc = .ok (.ireturn, 1)) {fs : List Frame}
    (hl : ∀ (f : JFrame) (acts : List Action), f.method = m → f.locked = none → f.entered = [] → (doReturn e (T.setTop f) acts (some (.int z))).1 = T.setFrames fs) : Steps p.tables e below (T.setTop (mkF m pc Ls (.int z :: rest))) (T.setFrames fs) := by
  have hm' : T.vm.method? m = some meth := X.method'
  have hn : narrow .int (.int z) = .int z := rfl
  show Steps p.tables e below (T.setTop { method := m, pc := pc, locals := Ls, stack := _ :: rest, locked := none }) _
  jvm_step X.here [X.here.top, hx, hd, hm', hret, hn]
  first | (intro acts; rw [hl _ acts rfl rfl rfl]) | rw [hl _ _ rfl rfl rfl]
  exact Steps.refl _
theorem own_lremM {g : JFrame} {target : State} (X : Stand p l e R s m args below meth c T locs cells slots) (hx : p.tables.exec = Jvm.exec) (hg : g.method = m) {x y : Int64} {rest : List Value} (hd : decode c.code g.pc = .ok (.lrem, 1)) (hs : g.stack = .long y :: .long x :: rest) (hy : y ≠ 0)
    (hr : Steps p.tables e below (T.setTop { g with pc := g.pc + 1, stack := .long (x % y) :: rest }) target) : Steps p.tables e below (T.setTop g) target := by
  have q : x - x / y * y = x % y := lrem_mod x y
  exact XS.lrem X.here hx hg hd hs hy (by rw [q]; exact hr)
theorem own_nz {z : Int32} (h : z = 0 ∨ z = 1) : nar .boolean z = z := by rcases h with rfl | rfl <;> rfl
theorem own_cat1 {v : Value} (h : v.isRef = true) : v.category = 1 := by rcases ref_cases h with rfl | ⟨a, rfl⟩ <;> rfl
end New
end Jvm.RoadKit
namespace Jvm.Pilot.@@N@@
open Jvm Jvm.ClassFile Sem Op Lib Jvm.Free Jvm.Stand Jvm.LawKit Jvm.RoadKit Bundle Jvm.Pilot.@@N@@.Jvm.D
theorem own_field {s : State} {args : Array Value} {t : Term} {C n d : String} {k : Int32} {a : Addr} (ev : t.eval args s none [] s = some (.ref a)) (h : (Jvm.Cond.eq (.field t C n d) (.int k)).value args s none s [] = some true) : Fld s s.heap a C n d (.int k) := by
  obtain ⟨xv, yv, e1, e2, k1, k2⟩ := cmp_v (Or.inl h)
  obtain rfl : (Value.int k) = yv := Option.some.inj e2
  obtain ⟨z, rfl⟩ := k2
  have q : z = k := gotT (Cond.eq_ints e1 rfl) h
  subst q
  exact Fld.start (by rw [← fld_at (t := t) (args := args) (first := s) (o := none) (idx := []) ev]; exact e1)
theorem own_b64 (n : Int64) (h0 : 0 ≤ n.toInt) (h1 : n.toInt < 4611686018427387904) : (4 : Int64) * ((n + 2) / 3) = 4 * (n / 3) + (if lcmpW (n - 3 * (n / 3)) 0 = 0 then (0 : Int32) else 4).toInt64 := by
  have a1 := c_ladd n 2
  have a2 := (c_ldiv (n + 2) 3 3 rfl (by decide)).1
  have a3 := (c_ldiv n 3 3 rfl (by decide)).1 h0
  have a4 := c_lmul 4 ((n + 2) / 3)
  have a5 := c_lmul 4 (n / 3)
  have a6 := c_lmul 3 (n / 3)
  have a7 := c_lsub n (3 * (n / 3))
  rw [show (2 : Int64).toInt = 2 from rfl] at a1
  rw [show (4 : Int64).toInt = 4 from rfl] at a4 a5
  rw [show (3 : Int64).toInt = 3 from rfl] at a6
  have r1 := rng64 (n + 2)
  have r2 := rng64 (n - 3 * (n / 3))
  have r3 := rng64 (3 * (n / 3))
  have r4 := rng64 (4 * (n / 3))
  have r5 := rng64 (4 * ((n + 2) / 3))
  have e1 : (n + 2).toInt = n.toInt + 2 := by omega
  have e2 := a2 (by omega)
  have z0 : (0 : Int64).toInt = 0 := rfl
  apply Int64.toInt_inj.mp
  by_cases q : n - 3 * (n / 3) = 0
  · rw [if_pos ((lw_eq _ _).mpr q)]
    have q' := congrArg Int64.toInt q
    have a8 := c_ladd (4 * (n / 3)) ((0 : Int32).toInt64)
    rw [show ((0 : Int32).toInt64).toInt = 0 from rfl] at a8
    have r6 := rng64 (4 * (n / 3) + (0 : Int32).toInt64)
    omega
  · rw [if_neg (fun r => q ((lw_eq _ _).mp r))]
    have q' : ¬ (n - 3 * (n / 3)).toInt = 0 := fun r => q (Int64.toInt_inj.mp (r.trans z0.symm))
    have a8 := c_ladd (4 * (n / 3)) ((4 : Int32).toInt64)
    rw [show ((4 : Int32).toInt64).toInt = 4 from rfl] at a8
    have r6 := rng64 (4 * (n / 3) + (4 : Int32).toInt64)
    omega
theorem own_hex (n : Int64) : (2 : Int64) * n = n + n := by
  apply Int64.toInt_inj.mp
  have a1 := c_lmul 2 n
  have a2 := c_ladd n n
  rw [show (2 : Int64).toInt = 2 from rfl] at a1
  have r1 := rng64 (2 * n)
  have r2 := rng64 (n + n)
  omega
theorem pd_1 : parseMethodDescriptor "(J)J" = some ⟨[.long], some .long⟩ := by decide +kernel
theorem pn_2 : plainName "com/example/westford/westford/BinaryEncodingLongestTextPinLaw" = true := by first | (simp [plainName, overriddenIn]; done) | decide +kernel
theorem dp2_m7_62 : decode prog_2_method_7_code 62 = .ok (.lmul, 1) := by decide +kernel
theorem dp2_m7_61 : decode prog_2_method_7_code 61 = .ok (.lload_n 1, 1) := by decide +kernel
theorem dp2_m7_58 : decode prog_2_method_7_code 58 = .ok (.ldc2_w 81, 3) := by decide +kernel
theorem dp2_m7_63 : decode prog_2_method_7_code 63 = .ok (.lreturn, 1) := by decide +kernel
theorem dp2_m7_55 : decode prog_2_method_7_code 55 = .ok (.goto 8, 3) := by decide +kernel
theorem dp2_m7_54 : decode prog_2_method_7_code 54 = .ok (.lmul, 1) := by decide +kernel
theorem dp2_m7_53 : decode prog_2_method_7_code 53 = .ok (.ldiv, 1) := by decide +kernel
theorem dp2_m7_50 : decode prog_2_method_7_code 50 = .ok (.ldc2_w 83, 3) := by decide +kernel
theorem dp2_m7_49 : decode prog_2_method_7_code 49 = .ok (.ladd, 1) := by decide +kernel
theorem dp2_m7_46 : decode prog_2_method_7_code 46 = .ok (.ldc2_w 81, 3) := by decide +kernel
theorem dp2_m7_45 : decode prog_2_method_7_code 45 = .ok (.lload_n 1, 1) := by decide +kernel
theorem dp2_m7_42 : decode prog_2_method_7_code 42 = .ok (.ldc2_w 79, 3) := by decide +kernel
theorem dp2_m7_4 : decode prog_2_method_7_code 4 = .ok (.lookupswitch 28 #[(0, 38), (1, 54)], 28) := by decide +kernel
theorem dp2_m7_1 : decode prog_2_method_7_code 1 = .ok (.invokevirtual 70, 3) := by decide +kernel
theorem dp2_m7_0 : decode prog_2_method_7_code 0 = .ok (.aload_n 0, 1) := by decide +kernel
theorem pd_0 : parseMethodDescriptor "()I" = some ⟨[], some .int⟩ := by decide +kernel
theorem pn_1 : plainName "com/example/westford/westford/BinaryEncoding" = true := by first | (simp [plainName, overriddenIn]; done) | decide +kernel
theorem djdk_37_m2_4 : decode jdk_37_method_2_code 4 = .ok (.ireturn, 1) := by decide +kernel
theorem djdk_37_m2_1 : decode jdk_37_method_2_code 1 = .ok (.getfield 7, 3) := by decide +kernel
theorem djdk_37_m2_0 : decode jdk_37_method_2_code 0 = .ok (.aload_n 0, 1) := by decide +kernel
theorem pn_0 : plainName "java/lang/Enum" = true := by first | (simp [plainName, overriddenIn]; done) | decide +kernel
theorem ef_1 (m : MethodId) (x0 : Addr) : entryFrame m #[(.ref x0)] 1 = mkF m 0 #[.val (.ref x0)] [] := by first | (simp [entryFrame, mkF, argsToLocals, Value.category]; done) | rfl
def Q1 (Z : State) (a : Addr) (o1 : Int32) (h0 : Heap) (n0 : Nat) (v : Option Value) (h : Heap) (L : List Loc) : Prop := v = some (.int o1) ∧ Fr n0 L ∧ h = h0
set_option maxRecDepth 65536 in
set_option maxHeartbeats 40000000 in
theorem rm1 (l : Launch) (Z : State) (a0 : Array Value) (hw : ∀ d ∈ tables_1, d.before a0 Z = true) (ws : List Jvm.Cond) (a : Addr) (o1 : Int32) (h0 : Heap) (n0 : Nat) (Z0 : n0 ≤ h0.size) (FF : Fld Z h0 a "java/lang/Enum" "ordinal" "I" (.int o1)) :
    MetFree l (⟨"java/lang/Enum", "ordinal", "()I"⟩ : MethodName) (head1 (Jvm.Cond.code (⟨"java/lang/Enum", "ordinal", "()I"⟩ : MethodName) jdk_37_method_2_code 1 (some .int) :: ws) ({ frames := 0, cells := 0, slots := 0, locals := 0 } : Room)) (fun A_ U => A_ = #[(.ref a)] ∧ Z.Warmed39 U.vm ∧ U.heap = h0) (fun _ _ _ _ _ => True) (fun _ U o U' => ∃ v L, o = .returned v ∧ Q1 Z a o1 h0 n0 v U'.heap L ∧ FrameEnd U o U' L ({ frames := 0, cells := 0, slots := 0, locals := 0 } : Room).cells ({ frames := 0, cells := 0, slots := 0, locals := 0 } : Room).slots) := by
  refine MetFree.of_bodySF (plainFor_of_name pn_0) hisR ?_
  intro p e s m args below meth c s₁ Bd hml0 hP hK
  obtain ⟨rfl, hZ, hh⟩ := hP
  have hx := Bd.exec
  have hby := Bd.bytes
  have hml : c.maxLocals = 1 := hml0
  have hown : s.vm.findClass "java/lang/Enum" = some m.cls := findClass_of_methodNamed Bd.named
  have hnm := (name_of_methodNamed Bd.named Bd.method).1
  have X0 : Stand p l e ({ frames := 0, cells := 0, slots := 0, locals := 0 } : Room) s m #[(.ref a)] below meth c s₁ [] 0 0 := Stand.of_body Bd
  have e0 : s₁.heap = h0 := by rw [← hh, Bd.state]; rfl
  have N0 := Fr.nil n0
  have k0 : ∀ t, Steps p.tables e below (s₁.setTop (mkF m 0 #[.val (.ref a)] [])) t → Steps p.tables e below (s₁.setTop (entryFrame m #[(.ref a)] 1)) t := fun t k => castTop (ef_1 m a) k
  have k1 : ∀ t, Steps p.tables e below (s₁.setTop (mkF m 1 #[.val (.ref a)] [(.ref a)])) t → Steps p.tables e below (s₁.setTop (entryFrame m #[(.ref a)] 1)) t := by
    intro t k
    refine k0 _ ?_
    show Steps p.tables e below (s₁.setTop (mkF m 0 #[.val (.ref a)] [])) _
    refine XS.aloadN X0.here hx rfl (hb hby djdk_37_m2_0) rfl rfl ?_
    show Steps p.tables e below (s₁.setTop (mkF m 1 #[.val (.ref a)] [(.ref a)])) _
    exact k
  obtain ⟨T2, X2, e2, st2⟩ := getF X0 hx hZ hown (host := "") (Or.inl (hw _ (List.mem_of_getElem? (i := 18) rfl))) Via.refl e0 FF (g := (mkF m 1 #[.val (.ref a)] [(.ref a)])) rfl rfl (hb hby djdk_37_m2_1)
  have k2 : ∀ t, Steps p.tables e below (T2.setTop (mkF m 4 #[.val (.ref a)] [(.int o1)])) t → Steps p.tables e below (s₁.setTop (entryFrame m #[(.ref a)] 1)) t := fun t k => k1 t (st2 _ k)
  obtain ⟨fs, hr, hrun, hended, hW, hsame⟩ := X2.leave (v := some (.int o1)) (fun h => by rw [Bd.returns] at h; cases h)
  refine ⟨_, _, k2 _ ?_, hrun, hended, _, _, rfl, ?_, ⟨_, rfl⟩, hW, hsame.mono (Nat.le_of_ble_eq_true rfl) (Nat.le_of_ble_eq_true rfl)⟩
  · exact retI X2 hx Bd.returns (hb hby djdk_37_m2_4) hr
  · show Q1 Z a o1 h0 n0 _ T2.heap _
    rw [e2]
    exact ⟨rfl, N0, rfl⟩
theorem ef_2 (m : MethodId) (x0 : Addr) (x1 : Int64) : entryFrame m #[(.ref x0), (.long x1)] 3 = mkF m 0 #[.val (.ref x0), .val (.long x1), .second] [] := by first | (simp [entryFrame, mkF, argsToLocals, Value.category]; done) | rfl
def Q2 (Z : State) (a : Addr) (u1 : Int64) (h0 : Heap) (n0 : Nat) (v : Option Value) (h : Heap) (L : List Loc) : Prop := v = some (.long ((4 : Int64) * ((u1 + (2 : Int64)) / (3 : Int64)))) ∧ Fr n0 L ∧ h = h0
set_option maxRecDepth 65536 in
set_option maxHeartbeats 40000000 in
theorem rm2 (l : Launch) (Z : State) (a0 : Array Value) (hw : ∀ d ∈ tables_1, d.before a0 Z = true) (ws : List Jvm.Cond) (a : Addr) (u1 : Int64) (h0 : Heap) (n0 : Nat) (Z0 : n0 ≤ h0.size) (EE : Exa Z h0 a "com/example/westford/westford/BinaryEncoding") (FF : Fld Z h0 a "java/lang/Enum" "ordinal" "I" (.int (0 : Int32))) :
    MetFree l (⟨"com/example/westford/westford/BinaryEncoding", "longestText", "(J)J"⟩ : MethodName) (head1 (Jvm.Cond.code (⟨"com/example/westford/westford/BinaryEncoding", "longestText", "(J)J"⟩ : MethodName) prog_2_method_7_code 3 (some .long) :: ws) ({ frames := 1, cells := 0, slots := 0, locals := 12 } : Room)) (fun A_ U => A_ = #[(.ref a), (.long u1)] ∧ Z.Warmed39 U.vm ∧ U.heap = h0) (fun _ _ _ _ _ => True) (fun _ U o U' => ∃ v L, o = .returned v ∧ Q2 Z a u1 h0 n0 v U'.heap L ∧ FrameEnd U o U' L ({ frames := 1, cells := 0, slots := 0, locals := 12 } : Room).cells ({ frames := 1, cells := 0, slots := 0, locals := 12 } : Room).slots) := by
  refine MetFree.of_bodySF (plainFor_of_name pn_1) hisR ?_
  intro p e s m args below meth c s₁ Bd hml0 hP hK
  obtain ⟨rfl, hZ, hh⟩ := hP
  have hx := Bd.exec
  have hby := Bd.bytes
  have hml : c.maxLocals = 3 := hml0
  have hown : s.vm.findClass "com/example/westford/westford/BinaryEncoding" = some m.cls := findClass_of_methodNamed Bd.named
  have hnm := (name_of_methodNamed Bd.named Bd.method).1
  have X0 : Stand p l e ({ frames := 1, cells := 0, slots := 0, locals := 12 } : Room) s m #[(.ref a), (.long u1)] below meth c s₁ [] 0 0 := Stand.of_body Bd
  have e0 : s₁.heap = h0 := by rw [← hh, Bd.state]; rfl
  have N0 := Fr.nil n0
  have k0 : ∀ t, Steps p.tables e below (s₁.setTop (mkF m 0 #[.val (.ref a), .val (.long u1), .second] [])) t → Steps p.tables e below (s₁.setTop (entryFrame m #[(.ref a), (.long u1)] 3)) t := fun t k => castTop (ef_2 m a u1) k
  have k1 : ∀ t, Steps p.tables e below (s₁.setTop (mkF m 1 #[.val (.ref a), .val (.long u1), .second] [(.ref a)])) t → Steps p.tables e below (s₁.setTop (entryFrame m #[(.ref a), (.long u1)] 3)) t := by
    intro t k
    refine k0 _ ?_
    show Steps p.tables e below (s₁.setTop (mkF m 0 #[.val (.ref a), .val (.long u1), .second] [])) _
    refine XS.aloadN X0.here hx rfl (hb hby dp2_m7_0) rfl rfl ?_
    show Steps p.tables e below (s₁.setTop (mkF m 1 #[.val (.ref a), .val (.long u1), .second] [(.ref a)])) _
    exact k
  obtain ⟨cq2, kq2, q2a, q2b, q2c⟩ := isOf hZ e0 EE
  obtain ⟨_, _, ⟨T2, L2, ck2, nk2⟩, -, X2, ⟨Lc2, hQ2, l2, y2, z2⟩, st2⟩ := X0.virtualBackUp hx (owner := "java/lang/Enum") (x := (⟨"com/example/westford/westford/BinaryEncoding", "ordinal", "()I"⟩ : MethodName)) (y := (⟨"java/lang/Enum", "ordinal", "()I"⟩ : MethodName)) hown (mvT hZ (hw _ (List.mem_of_getElem? (i := 11) rfl))) (mvT hZ (hw _ (List.mem_of_getElem? (i := 12) rfl))) (mvT hZ (hw _ (List.mem_of_getElem? (i := 13) rfl))) (by decide) (mvT hZ (hw _ (List.mem_of_getElem? (i := 15) rfl))) (mvT hZ (hw _ (List.mem_of_getElem? (i := 14) rfl))) (backOf (W := 0) (rm1 l Z a0 hw [] a (0 : Int32) h0 n0 Z0 FF) hZ (hw _ (List.mem_of_getElem? (i := 17) rfl)) (hw _ (List.mem_of_getElem? (i := 16) rfl)) (by decide) (by decide)) q2a q2c (g := (mkF m 1 #[.val (.ref a), .val (.long u1), .second] [(.ref a)])) rfl (by rw [hml]; rfl) (Steps.refl _) (argsL := []) (rest := []) (lenOf pd_0 rfl) rfl (by show 2 * 0 + _ ≤ _; exact Nat.le_of_eq rfl) (hb hby dp2_m7_1) (fun _ _ => ⟨rfl, e0, (by decide : 0 + 0 ≤ _), (by decide : 0 + 0 ≤ _)⟩)
  dsimp only [Pt.U, Pt.locs, Pt.cells, Pt.slots] at X2 l2 y2 z2 st2 hQ2
  subst l2 y2 z2
  obtain ⟨rfl, N2q, e2⟩ := hQ2
  have N2 := Fr.app N0 N2q
  have k2 : ∀ t, Steps p.tables e below (T2.setTop (mkF m 4 #[.val (.ref a), .val (.long u1), .second] [(.int (0 : Int32))])) t → Steps p.tables e below (s₁.setTop (entryFrame m #[(.ref a), (.long u1)] 3)) t := fun t k => k1 t (st2.trans k)
  have k3 : ∀ t, Steps p.tables e below (T2.setTop (mkF m 63 #[.val (.ref a), .val (.long u1), .second] [(.long ((4 : Int64) * ((u1 + (2 : Int64)) / (3 : Int64))))])) t → Steps p.tables e below (s₁.setTop (entryFrame m #[(.ref a), (.long u1)] 3)) t := by
    intro t k
    refine k2 _ ?_
    show Steps p.tables e below (T2.setTop (mkF m 4 #[.val (.ref a), .val (.long u1), .second] [(.int (0 : Int32))])) _
    refine X2.lookupswitchHit hx (g := (mkF m 4 #[.val (.ref a), .val (.long u1), .second] [(.int (0 : Int32))])) rfl (k := (0 : Int32)) rfl (hb hby dp2_m7_4) (by decide) (a := 0) (off := 38) (by decide) (by show (0 : Int) ≤ ((4 : Nat) : Int) + (38 : Int); decide) _ ?_
    show Steps p.tables e below (T2.setTop (mkF m 42 #[.val (.ref a), .val (.long u1), .second] [])) _
    refine X2.ldc2Long hx hown (mvT hZ (hw _ (List.mem_of_getElem? (i := 20) rfl))) (g := (mkF m 42 #[.val (.ref a), .val (.long u1), .second] [])) rfl (hb hby dp2_m7_42) _ ?_
    show Steps p.tables e below (T2.setTop (mkF m 45 #[.val (.ref a), .val (.long u1), .second] [(.long (4 : Int64))])) _
    refine XS.lloadN X2.here hx rfl (hb hby dp2_m7_45) rfl ?_
    show Steps p.tables e below (T2.setTop (mkF m 46 #[.val (.ref a), .val (.long u1), .second] [(.long u1), (.long (4 : Int64))])) _
    refine X2.ldc2Long hx hown (mvT hZ (hw _ (List.mem_of_getElem? (i := 21) rfl))) (g := (mkF m 46 #[.val (.ref a), .val (.long u1), .second] [(.long u1), (.long (4 : Int64))])) rfl (hb hby dp2_m7_46) _ ?_
    show Steps p.tables e below (T2.setTop (mkF m 49 #[.val (.ref a), .val (.long u1), .second] [(.long (2 : Int64)), (.long u1), (.long (4 : Int64))])) _
    refine XS.ladd X2.here hx rfl (hb hby dp2_m7_49) rfl ?_
    show Steps p.tables e below (T2.setTop (mkF m 50 #[.val (.ref a), .val (.long u1), .second] [(.long (u1 + (2 : Int64))), (.long (4 : Int64))])) _
    refine X2.ldc2Long hx hown (mvT hZ (hw _ (List.mem_of_getElem? (i := 22) rfl))) (g := (mkF m 50 #[.val (.ref a), .val (.long u1), .second] [(.long (u1 + (2 : Int64))), (.long (4 : Int64))])) rfl (hb hby dp2_m7_50) _ ?_
    show Steps p.tables e below (T2.setTop (mkF m 53 #[.val (.ref a), .val (.long u1), .second] [(.long (3 : Int64)), (.long (u1 + (2 : Int64))), (.long (4 : Int64))])) _
    refine XS.ldiv X2.here hx rfl (hb hby dp2_m7_53) rfl (by decide) ?_
    show Steps p.tables e below (T2.setTop (mkF m 54 #[.val (.ref a), .val (.long u1), .second] [(.long ((u1 + (2 : Int64)) / (3 : Int64))), (.long (4 : Int64))])) _
    refine XS.lmul X2.here hx rfl (hb hby dp2_m7_54) rfl ?_
    show Steps p.tables e below (T2.setTop (mkF m 55 #[.val (.ref a), .val (.long u1), .second] [(.long ((4 : Int64) * ((u1 + (2 : Int64)) / (3 : Int64))))])) _
    refine XS.goto X2.here hx rfl (pc0 := 55) (pc' := 63) rfl (hb hby dp2_m7_55) (by decide) (by decide) ?_
    show Steps p.tables e below (T2.setTop (mkF m 63 #[.val (.ref a), .val (.long u1), .second] [(.long ((4 : Int64) * ((u1 + (2 : Int64)) / (3 : Int64))))])) _
    exact k
  obtain ⟨fs, hr, hrun, hended, hW, hsame⟩ := X2.leave (v := some (.long ((4 : Int64) * ((u1 + (2 : Int64)) / (3 : Int64))))) (fun h => by rw [Bd.returns] at h; cases h)
  refine ⟨_, _, k3 _ ?_, hrun, hended, _, _, rfl, ?_, ⟨_, rfl⟩, hW, hsame.mono (Nat.le_of_ble_eq_true rfl) (Nat.le_of_ble_eq_true rfl)⟩
  · exact retOut X2 hx Bd.returns rfl (Or.inr (Or.inl ⟨rfl, rfl, _, rfl⟩)) (hb hby dp2_m7_63) hr
  · show Q2 Z a u1 h0 n0 _ T2.heap _
    rw [e2]
    exact ⟨rfl, N2, rfl⟩
theorem ef_3 (m : MethodId) (x0 : Addr) (x1 : Int64) : entryFrame m #[(.ref x0), (.long x1)] 3 = mkF m 0 #[.val (.ref x0), .val (.long x1), .second] [] := by first | (simp [entryFrame, mkF, argsToLocals, Value.category]; done) | rfl
def Q3 (Z : State) (a : Addr) (u1 : Int64) (h0 : Heap) (n0 : Nat) (v : Option Value) (h : Heap) (L : List Loc) : Prop := v = some (.long ((2 : Int64) * u1)) ∧ Fr n0 L ∧ h = h0
set_option maxRecDepth 65536 in
set_option maxHeartbeats 40000000 in
theorem rm3 (l : Launch) (Z : State) (a0 : Array Value) (hw : ∀ d ∈ tables_1, d.before a0 Z = true) (ws : List Jvm.Cond) (a : Addr) (u1 : Int64) (h0 : Heap) (n0 : Nat) (Z0 : n0 ≤ h0.size) (EE : Exa Z h0 a "com/example/westford/westford/BinaryEncoding") (FF : Fld Z h0 a "java/lang/Enum" "ordinal" "I" (.int (1 : Int32))) :
    MetFree l (⟨"com/example/westford/westford/BinaryEncoding", "longestText", "(J)J"⟩ : MethodName) (head1 (Jvm.Cond.code (⟨"com/example/westford/westford/BinaryEncoding", "longestText", "(J)J"⟩ : MethodName) prog_2_method_7_code 3 (some .long) :: ws) ({ frames := 1, cells := 0, slots := 0, locals := 12 } : Room)) (fun A_ U => A_ = #[(.ref a), (.long u1)] ∧ Z.Warmed39 U.vm ∧ U.heap = h0) (fun _ _ _ _ _ => True) (fun _ U o U' => ∃ v L, o = .returned v ∧ Q3 Z a u1 h0 n0 v U'.heap L ∧ FrameEnd U o U' L ({ frames := 1, cells := 0, slots := 0, locals := 12 } : Room).cells ({ frames := 1, cells := 0, slots := 0, locals := 12 } : Room).slots) := by
  refine MetFree.of_bodySF (plainFor_of_name pn_1) hisR ?_
  intro p e s m args below meth c s₁ Bd hml0 hP hK
  obtain ⟨rfl, hZ, hh⟩ := hP
  have hx := Bd.exec
  have hby := Bd.bytes
  have hml : c.maxLocals = 3 := hml0
  have hown : s.vm.findClass "com/example/westford/westford/BinaryEncoding" = some m.cls := findClass_of_methodNamed Bd.named
  have hnm := (name_of_methodNamed Bd.named Bd.method).1
  have X0 : Stand p l e ({ frames := 1, cells := 0, slots := 0, locals := 12 } : Room) s m #[(.ref a), (.long u1)] below meth c s₁ [] 0 0 := Stand.of_body Bd
  have e0 : s₁.heap = h0 := by rw [← hh, Bd.state]; rfl
  have N0 := Fr.nil n0
  have k0 : ∀ t, Steps p.tables e below (s₁.setTop (mkF m 0 #[.val (.ref a), .val (.long u1), .second] [])) t → Steps p.tables e below (s₁.setTop (entryFrame m #[(.ref a), (.long u1)] 3)) t := fun t k => castTop (ef_3 m a u1) k
  have k1 : ∀ t, Steps p.tables e below (s₁.setTop (mkF m 1 #[.val (.ref a), .val (.long u1), .second] [(.ref a)])) t → Steps p.tables e below (s₁.setTop (entryFrame m #[(.ref a), (.long u1)] 3)) t := by
    intro t k
    refine k0 _ ?_
    show Steps p.tables e below (s₁.setTop (mkF m 0 #[.val (.ref a), .val (.long u1), .second] [])) _
    refine XS.aloadN X0.here hx rfl (hb hby dp2_m7_0) rfl rfl ?_
    show Steps p.tables e below (s₁.setTop (mkF m 1 #[.val (.ref a), .val (.long u1), .second] [(.ref a)])) _
    exact k
  obtain ⟨cq2, kq2, q2a, q2b, q2c⟩ := isOf hZ e0 EE
  obtain ⟨_, _, ⟨T2, L2, ck2, nk2⟩, -, X2, ⟨Lc2, hQ2, l2, y2, z2⟩, st2⟩ := X0.virtualBackUp hx (owner := "java/lang/Enum") (x := (⟨"com/example/westford/westford/BinaryEncoding", "ordinal", "()I"⟩ : MethodName)) (y := (⟨"java/lang/Enum", "ordinal", "()I"⟩ : MethodName)) hown (mvT hZ (hw _ (List.mem_of_getElem? (i := 11) rfl))) (mvT hZ (hw _ (List.mem_of_getElem? (i := 12) rfl))) (mvT hZ (hw _ (List.mem_of_getElem? (i := 13) rfl))) (by decide) (mvT hZ (hw _ (List.mem_of_getElem? (i := 15) rfl))) (mvT hZ (hw _ (List.mem_of_getElem? (i := 14) rfl))) (backOf (W := 0) (rm1 l Z a0 hw [] a (1 : Int32) h0 n0 Z0 FF) hZ (hw _ (List.mem_of_getElem? (i := 17) rfl)) (hw _ (List.mem_of_getElem? (i := 16) rfl)) (by decide) (by decide)) q2a q2c (g := (mkF m 1 #[.val (.ref a), .val (.long u1), .second] [(.ref a)])) rfl (by rw [hml]; rfl) (Steps.refl _) (argsL := []) (rest := []) (lenOf pd_0 rfl) rfl (by show 2 * 0 + _ ≤ _; exact Nat.le_of_eq rfl) (hb hby dp2_m7_1) (fun _ _ => ⟨rfl, e0, (by decide : 0 + 0 ≤ _), (by decide : 0 + 0 ≤ _)⟩)
  dsimp only [Pt.U, Pt.locs, Pt.cells, Pt.slots] at X2 l2 y2 z2 st2 hQ2
  subst l2 y2 z2
  obtain ⟨rfl, N2q, e2⟩ := hQ2
  have N2 := Fr.app N0 N2q
  have k2 : ∀ t, Steps p.tables e below (T2.setTop (mkF m 4 #[.val (.ref a), .val (.long u1), .second] [(.int (1 : Int32))])) t → Steps p.tables e below (s₁.setTop (entryFrame m #[(.ref a), (.long u1)] 3)) t := fun t k => k1 t (st2.trans k)
  have k3 : ∀ t, Steps p.tables e below (T2.setTop (mkF m 63 #[.val (.ref a), .val (.long u1), .second] [(.long ((2 : Int64) * u1))])) t → Steps p.tables e below (s₁.setTop (entryFrame m #[(.ref a), (.long u1)] 3)) t := by
    intro t k
    refine k2 _ ?_
    show Steps p.tables e below (T2.setTop (mkF m 4 #[.val (.ref a), .val (.long u1), .second] [(.int (1 : Int32))])) _
    refine X2.lookupswitchHit hx (g := (mkF m 4 #[.val (.ref a), .val (.long u1), .second] [(.int (1 : Int32))])) rfl (k := (1 : Int32)) rfl (hb hby dp2_m7_4) (by decide) (a := 1) (off := 54) (by decide) (by show (0 : Int) ≤ ((4 : Nat) : Int) + (54 : Int); decide) _ ?_
    show Steps p.tables e below (T2.setTop (mkF m 58 #[.val (.ref a), .val (.long u1), .second] [])) _
    refine X2.ldc2Long hx hown (mvT hZ (hw _ (List.mem_of_getElem? (i := 21) rfl))) (g := (mkF m 58 #[.val (.ref a), .val (.long u1), .second] [])) rfl (hb hby dp2_m7_58) _ ?_
    show Steps p.tables e below (T2.setTop (mkF m 61 #[.val (.ref a), .val (.long u1), .second] [(.long (2 : Int64))])) _
    refine XS.lloadN X2.here hx rfl (hb hby dp2_m7_61) rfl ?_
    show Steps p.tables e below (T2.setTop (mkF m 62 #[.val (.ref a), .val (.long u1), .second] [(.long u1), (.long (2 : Int64))])) _
    refine XS.lmul X2.here hx rfl (hb hby dp2_m7_62) rfl ?_
    show Steps p.tables e below (T2.setTop (mkF m 63 #[.val (.ref a), .val (.long u1), .second] [(.long ((2 : Int64) * u1))])) _
    exact k
  obtain ⟨fs, hr, hrun, hended, hW, hsame⟩ := X2.leave (v := some (.long ((2 : Int64) * u1))) (fun h => by rw [Bd.returns] at h; cases h)
  refine ⟨_, _, k3 _ ?_, hrun, hended, _, _, rfl, ?_, ⟨_, rfl⟩, hW, hsame.mono (Nat.le_of_ble_eq_true rfl) (Nat.le_of_ble_eq_true rfl)⟩
  · exact retOut X2 hx Bd.returns rfl (Or.inr (Or.inl ⟨rfl, rfl, _, rfl⟩)) (hb hby dp2_m7_63) hr
  · show Q3 Z a u1 h0 n0 _ T2.heap _
    rw [e2]
    exact ⟨rfl, N2, rfl⟩
theorem ef_0 (m : MethodId) (x0 : Int64) (x1 : Int32) : entryFrame m #[(.long x0), (.int x1)] maxLocals = mkF m 0 #[.val (.long x0), .second, .val (.int x1), .unset, .unset, .unset, .unset, .unset, .unset, .unset, .unset] [] := by first | (simp [entryFrame, mkF, argsToLocals, Value.category, maxLocals]; done) | rfl
def Q0 (Z : State) (p1 : Int64) (p2 : Int32) (aBASE64 : Addr) (aHEX : Addr) (h0 : Heap) (n0 : Nat) (v : Option Value) (h : Heap) (L : List Loc) : Prop := v = some (.int 1) ∧ Fr n0 L
set_option maxRecDepth 65536 in
set_option maxHeartbeats 40000000 in
theorem rm0 (l : Launch) (Z : State) (a0 : Array Value) (hw : ∀ d ∈ tables_1, d.before a0 Z = true) (ws : List Jvm.Cond) (p1 : Int64) (p2 : Int32) (aBASE64 : Addr) (aHEX : Addr) (h0 : Heap) (n0 : Nat) (Z0 : n0 ≤ h0.size) (S_BASE64 : Sta Z h0 "com/example/westford/westford/BinaryEncoding" "BASE64" "Lcom/example/westford/westford/BinaryEncoding;" (.ref aBASE64)) (E_BASE64 : Exa Z h0 aBASE64 "com/example/westford/westford/BinaryEncoding") (F_BASE64 : Fld Z h0 aBASE64 "java/lang/Enum" "ordinal" "I" (.int (0 : Int32))) (S_HEX : Sta Z h0 "com/example/westford/westford/BinaryEncoding" "HEX" "Lcom/example/westford/westford/BinaryEncoding;" (.ref aHEX)) (E_HEX : Exa Z h0 aHEX "com/example/westford/westford/BinaryEncoding") (F_HEX : Fld Z h0 aHEX "java/lang/Enum" "ordinal" "I" (.int (1 : Int32))) :
    MetFree l x (head1 (Jvm.Cond.code x code maxLocals ret :: ws) room_1) (fun A_ U => A_ = #[(.long p1), (.int p2)] ∧ Z.Warmed39 U.vm ∧ U.heap = h0) (fun _ _ _ _ _ => True) (fun _ U o U' => ∃ v L, o = .returned v ∧ Q0 Z p1 p2 aBASE64 aHEX h0 n0 v U'.heap L ∧ FrameEnd U o U' L 0 0) := by
  refine MetFree.of_bodySF (plainFor_of_name pn_2) hisR ?_
  intro p e s m args below meth c s₁ Bd hml0 hP hK
  obtain ⟨rfl, hZ, hh⟩ := hP
  have hx := Bd.exec
  have hby := Bd.bytes
  have hml : c.maxLocals = 11 := hml0
  have hown : s.vm.findClass "com/example/westford/westford/BinaryEncodingLongestTextPinLaw" = some m.cls := findClass_of_methodNamed Bd.named
  have hnm := (name_of_methodNamed Bd.named Bd.method).1
  have X0 : Stand p l e room_1 s m #[(.long p1), (.int p2)] below meth c s₁ [] 0 0 := Stand.of_body Bd
  have e0 : s₁.heap = h0 := by rw [← hh, Bd.state]; rfl
  have N0 := Fr.nil n0
  have k0 : ∀ t, Steps p.tables e below (s₁.setTop (mkF m 0 #[.val (.long p1), .second, .val (.int p2), .unset, .unset, .unset, .unset, .unset, .unset, .unset, .unset] [])) t → Steps p.tables e below (s₁.setTop (entryFrame m #[(.long p1), (.int p2)] maxLocals)) t := fun t k => castTop (ef_0 m p1 p2) k
  have k1 : ∀ t, Steps p.tables e below (s₁.setTop (mkF m 6 #[.val (.long p1), .second, .val (.int p2), .val (.long (p1 &&& (4611686018427387903 : Int64))), .second, .unset, .unset, .unset, .unset, .unset, .unset] [])) t → Steps p.tables e below (s₁.setTop (entryFrame m #[(.long p1), (.int p2)] maxLocals)) t := by
    intro t k
    refine k0 _ ?_
    show Steps p.tables e below (s₁.setTop (mkF m 0 #[.val (.long p1), .second, .val (.int p2), .unset, .unset, .unset, .unset, .unset, .unset, .unset, .unset] [])) _
    refine XS.lloadN X0.here hx rfl (hb hby at_0) rfl ?_
    show Steps p.tables e below (s₁.setTop (mkF m 1 #[.val (.long p1), .second, .val (.int p2), .unset, .unset, .unset, .unset, .unset, .unset, .unset, .unset] [(.long p1)])) _
    refine X0.ldc2Long hx hown (mvT hZ (hw _ (List.mem_of_getElem? (i := 0) rfl))) (g := (mkF m 1 #[.val (.long p1), .second, .val (.int p2), .unset, .unset, .unset, .unset, .unset, .unset, .unset, .unset] [(.long p1)])) rfl (hb hby at_1) _ ?_
    show Steps p.tables e below (s₁.setTop (mkF m 4 #[.val (.long p1), .second, .val (.int p2), .unset, .unset, .unset, .unset, .unset, .unset, .unset, .unset] [(.long (4611686018427387903 : Int64)), (.long p1)])) _
    refine XS.land X0.here hx rfl (hb hby at_4) rfl ?_
    show Steps p.tables e below (s₁.setTop (mkF m 5 #[.val (.long p1), .second, .val (.int p2), .unset, .unset, .unset, .unset, .unset, .unset, .unset, .unset] [(.long (p1 &&& (4611686018427387903 : Int64)))])) _
    refine XS.lstoreN X0.here hx rfl (hb hby at_5) rfl (l' := #[.val (.long p1), .second, .val (.int p2), .val (.long (p1 &&& (4611686018427387903 : Int64))), .second, .unset, .unset, .unset, .unset, .unset, .unset]) rfl ?_
    show Steps p.tables e below (s₁.setTop (mkF m 6 #[.val (.long p1), .second, .val (.int p2), .val (.long (p1 &&& (4611686018427387903 : Int64))), .second, .unset, .unset, .unset, .unset, .unset, .unset] [])) _
    exact k
  obtain ⟨nn, eq_nn⟩ : ∃ z : Int64, z = (p1 &&& (4611686018427387903 : Int64)) := ⟨_, rfl⟩
  rw [← eq_nn] at k1
  have hm := c_maskL p1 4611686018427387903 62 (by decide) (by decide)
  simp only [Nat.reducePow] at hm
  rw [← eq_nn] at hm
  have hn0 : 0 ≤ nn.toInt := by omega
  have hn1 : nn.toInt < 4611686018427387904 := by omega
  have k2 : ∀ t, Steps p.tables e below (s₁.setTop (mkF m 9 #[.val (.long p1), .second, .val (.int p2), .val (.long nn), .second, .unset, .unset, .unset, .unset, .unset, .unset] [(.int (p2 &&& (1 : Int32)))])) t → Steps p.tables e below (s₁.setTop (entryFrame m #[(.long p1), (.int p2)] maxLocals)) t := by
    intro t k
    refine k1 _ ?_
    show Steps p.tables e below (s₁.setTop (mkF m 6 #[.val (.long p1), .second, .val (.int p2), .val (.long nn), .second, .unset, .unset, .unset, .unset, .unset, .unset] [])) _
    refine XS.iloadN X0.here hx rfl (hb hby at_6) rfl ?_
    show Steps p.tables e below (s₁.setTop (mkF m 7 #[.val (.long p1), .second, .val (.int p2), .val (.long nn), .second, .unset, .unset, .unset, .unset, .unset, .unset] [(.int p2)])) _
    refine XS.iconst X0.here hx rfl (hb hby at_7) ?_
    show Steps p.tables e below (s₁.setTop (mkF m 8 #[.val (.long p1), .second, .val (.int p2), .val (.long nn), .second, .unset, .unset, .unset, .unset, .unset, .unset] [(.int (1 : Int32)), (.int p2)])) _
    refine XS.iand X0.here hx rfl (hb hby at_8) rfl ?_
    show Steps p.tables e below (s₁.setTop (mkF m 9 #[.val (.long p1), .second, .val (.int p2), .val (.long nn), .second, .unset, .unset, .unset, .unset, .unset, .unset] [(.int (p2 &&& (1 : Int32)))])) _
    exact k
  by_cases hw0 : (p2 &&& (1 : Int32)) = (0 : Int32)
  · obtain ⟨fr, eq_fr⟩ : ∃ z : Int32, z = (if (lcmpW (nn - ((3 : Int64) * (nn / (3 : Int64)))) (0 : Int64)) = (0 : Int32) then (0 : Int32) else (4 : Int32)) := ⟨_, rfl⟩
    have k4 : ∀ t, Steps p.tables e below (s₁.setTop (mkF m 47 #[.val (.long p1), .second, .val (.int p2), .val (.long nn), .second, .val (.long (nn / (3 : Int64))), .second, .val (.long (nn - ((3 : Int64) * (nn / (3 : Int64))))), .second, .unset, .unset] [(.int fr), (.long ((4 : Int64) * (nn / (3 : Int64))))])) t → Steps p.tables e below (s₁.setTop (entryFrame m #[(.long p1), (.int p2)] maxLocals)) t := by
      intro t k
      refine k2 _ ?_
      show Steps p.tables e below (s₁.setTop (mkF m 9 #[.val (.long p1), .second, .val (.int p2), .val (.long nn), .second, .unset, .unset, .unset, .unset, .unset, .unset] [(.int (p2 &&& (1 : Int32)))])) _
      refine XS.ifNo X0.here hx rfl (hb hby at_9) rfl ((if0 _ _).trans (teq hw0).2) ?_
      show Steps p.tables e below (s₁.setTop (mkF m 12 #[.val (.long p1), .second, .val (.int p2), .val (.long nn), .second, .unset, .unset, .unset, .unset, .unset, .unset] [])) _
      refine XS.lloadN X0.here hx rfl (hb hby at_12) rfl ?_
      show Steps p.tables e below (s₁.setTop (mkF m 13 #[.val (.long p1), .second, .val (.int p2), .val (.long nn), .second, .unset, .unset, .unset, .unset, .unset, .unset] [(.long nn)])) _
      refine X0.ldc2Long hx hown (mvT hZ (hw _ (List.mem_of_getElem? (i := 1) rfl))) (g := (mkF m 13 #[.val (.long p1), .second, .val (.int p2), .val (.long nn), .second, .unset, .unset, .unset, .unset, .unset, .unset] [(.long nn)])) rfl (hb hby at_13) _ ?_
      show Steps p.tables e below (s₁.setTop (mkF m 16 #[.val (.long p1), .second, .val (.int p2), .val (.long nn), .second, .unset, .unset, .unset, .unset, .unset, .unset] [(.long (3 : Int64)), (.long nn)])) _
      refine XS.ldiv X0.here hx rfl (hb hby at_16) rfl (by decide) ?_
      show Steps p.tables e below (s₁.setTop (mkF m 17 #[.val (.long p1), .second, .val (.int p2), .val (.long nn), .second, .unset, .unset, .unset, .unset, .unset, .unset] [(.long (nn / (3 : Int64)))])) _
      refine XS.lstore X0.here hx rfl (hb hby at_17) rfl (l' := #[.val (.long p1), .second, .val (.int p2), .val (.long nn), .second, .val (.long (nn / (3 : Int64))), .second, .unset, .unset, .unset, .unset]) rfl ?_
      show Steps p.tables e below (s₁.setTop (mkF m 19 #[.val (.long p1), .second, .val (.int p2), .val (.long nn), .second, .val (.long (nn / (3 : Int64))), .second, .unset, .unset, .unset, .unset] [])) _
      refine XS.lloadN X0.here hx rfl (hb hby at_19) rfl ?_
      show Steps p.tables e below (s₁.setTop (mkF m 20 #[.val (.long p1), .second, .val (.int p2), .val (.long nn), .second, .val (.long (nn / (3 : Int64))), .second, .unset, .unset, .unset, .unset] [(.long nn)])) _
      refine X0.ldc2Long hx hown (mvT hZ (hw _ (List.mem_of_getElem? (i := 1) rfl))) (g := (mkF m 20 #[.val (.long p1), .second, .val (.int p2), .val (.long nn), .second, .val (.long (nn / (3 : Int64))), .second, .unset, .unset, .unset, .unset] [(.long nn)])) rfl (hb hby at_20) _ ?_
      show Steps p.tables e below (s₁.setTop (mkF m 23 #[.val (.long p1), .second, .val (.int p2), .val (.long nn), .second, .val (.long (nn / (3 : Int64))), .second, .unset, .unset, .unset, .unset] [(.long (3 : Int64)), (.long nn)])) _
      refine XS.lload X0.here hx rfl (hb hby at_23) rfl ?_
      show Steps p.tables e below (s₁.setTop (mkF m 25 #[.val (.long p1), .second, .val (.int p2), .val (.long nn), .second, .val (.long (nn / (3 : Int64))), .second, .unset, .unset, .unset, .unset] [(.long (nn / (3 : Int64))), (.long (3 : Int64)), (.long nn)])) _
      refine XS.lmul X0.here hx rfl (hb hby at_25) rfl ?_
      show Steps p.tables e below (s₁.setTop (mkF m 26 #[.val (.long p1), .second, .val (.int p2), .val (.long nn), .second, .val (.long (nn / (3 : Int64))), .second, .unset, .unset, .unset, .unset] [(.long ((3 : Int64) * (nn / (3 : Int64)))), (.long nn)])) _
      refine XS.lsub X0.here hx rfl (hb hby at_26) rfl ?_
      show Steps p.tables e below (s₁.setTop (mkF m 27 #[.val (.long p1), .second, .val (.int p2), .val (.long nn), .second, .val (.long (nn / (3 : Int64))), .second, .unset, .unset, .unset, .unset] [(.long (nn - ((3 : Int64) * (nn / (3 : Int64)))))])) _
      refine XS.lstore X0.here hx rfl (hb hby at_27) rfl (l' := #[.val (.long p1), .second, .val (.int p2), .val (.long nn), .second, .val (.long (nn / (3 : Int64))), .second, .val (.long (nn - ((3 : Int64) * (nn / (3 : Int64))))), .second, .unset, .unset]) rfl ?_
      show Steps p.tables e below (s₁.setTop (mkF m 29 #[.val (.long p1), .second, .val (.int p2), .val (.long nn), .second, .val (.long (nn / (3 : Int64))), .second, .val (.long (nn - ((3 : Int64) * (nn / (3 : Int64))))), .second, .unset, .unset] [])) _
      refine X0.ldc2Long hx hown (mvT hZ (hw _ (List.mem_of_getElem? (i := 2) rfl))) (g := (mkF m 29 #[.val (.long p1), .second, .val (.int p2), .val (.long nn), .second, .val (.long (nn / (3 : Int64))), .second, .val (.long (nn - ((3 : Int64) * (nn / (3 : Int64))))), .second, .unset, .unset] [])) rfl (hb hby at_29) _ ?_
      show Steps p.tables e below (s₁.setTop (mkF m 32 #[.val (.long p1), .second, .val (.int p2), .val (.long nn), .second, .val (.long (nn / (3 : Int64))), .second, .val (.long (nn - ((3 : Int64) * (nn / (3 : Int64))))), .second, .unset, .unset] [(.long (4 : Int64))])) _
      refine XS.lload X0.here hx rfl (hb hby at_32) rfl ?_
      show Steps p.tables e below (s₁.setTop (mkF m 34 #[.val (.long p1), .second, .val (.int p2), .val (.long nn), .second, .val (.long (nn / (3 : Int64))), .second, .val (.long (nn - ((3 : Int64) * (nn / (3 : Int64))))), .second, .unset, .unset] [(.long (nn / (3 : Int64))), (.long (4 : Int64))])) _
      refine XS.lmul X0.here hx rfl (hb hby at_34) rfl ?_
      show Steps p.tables e below (s₁.setTop (mkF m 35 #[.val (.long p1), .second, .val (.int p2), .val (.long nn), .second, .val (.long (nn / (3 : Int64))), .second, .val (.long (nn - ((3 : Int64) * (nn / (3 : Int64))))), .second, .unset, .unset] [(.long ((4 : Int64) * (nn / (3 : Int64))))])) _
      refine XS.lload X0.here hx rfl (hb hby at_35) rfl ?_
      show Steps p.tables e below (s₁.setTop (mkF m 37 #[.val (.long p1), .second, .val (.int p2), .val (.long nn), .second, .val (.long (nn / (3 : Int64))), .second, .val (.long (nn - ((3 : Int64) * (nn / (3 : Int64))))), .second, .unset, .unset] [(.long (nn - ((3 : Int64) * (nn / (3 : Int64))))), (.long ((4 : Int64) * (nn / (3 : Int64))))])) _
      refine XS.lconst X0.here hx rfl (hb hby at_37) ?_
      show Steps p.tables e below (s₁.setTop (mkF m 38 #[.val (.long p1), .second, .val (.int p2), .val (.long nn), .second, .val (.long (nn / (3 : Int64))), .second, .val (.long (nn - ((3 : Int64) * (nn / (3 : Int64))))), .second, .unset, .unset] [(.long (0 : Int64)), (.long (nn - ((3 : Int64) * (nn / (3 : Int64))))), (.long ((4 : Int64) * (nn / (3 : Int64))))])) _
      refine XS.lcmp X0.here hx rfl (hb hby at_38) rfl ?_
      show Steps p.tables e below (s₁.setTop (mkF m 39 #[.val (.long p1), .second, .val (.int p2), .val (.long nn), .second, .val (.long (nn / (3 : Int64))), .second, .val (.long (nn - ((3 : Int64) * (nn / (3 : Int64))))), .second, .unset, .unset] [(.int (lcmpW (nn - ((3 : Int64) * (nn / (3 : Int64)))) (0 : Int64))), (.long ((4 : Int64) * (nn / (3 : Int64))))])) _
      by_cases hc3_39 : (lcmpW (nn - ((3 : Int64) * (nn / (3 : Int64)))) (0 : Int64)) = (0 : Int32)
      · rw [show fr = (0 : Int32) by rw [eq_fr, if_pos hc3_39]] at k
        show Steps p.tables e below (s₁.setTop (mkF m 39 #[.val (.long p1), .second, .val (.int p2), .val (.long nn), .second, .val (.long (nn / (3 : Int64))), .second, .val (.long (nn - ((3 : Int64) * (nn / (3 : Int64))))), .second, .unset, .unset] [(.int (lcmpW (nn - ((3 : Int64) * (nn / (3 : Int64)))) (0 : Int64))), (.long ((4 : Int64) * (nn / (3 : Int64))))])) _
        refine XS.ifNo X0.here hx rfl (hb hby at_39) rfl ((if0 _ _).trans (teq hc3_39).2) ?_
        show Steps p.tables e below (s₁.setTop (mkF m 42 #[.val (.long p1), .second, .val (.int p2), .val (.long nn), .second, .val (.long (nn / (3 : Int64))), .second, .val (.long (nn - ((3 : Int64) * (nn / (3 : Int64))))), .second, .unset, .unset] [(.long ((4 : Int64) * (nn / (3 : Int64))))])) _
        refine XS.iconst X0.here hx rfl (hb hby at_42) ?_
        show Steps p.tables e below (s₁.setTop (mkF m 43 #[.val (.long p1), .second, .val (.int p2), .val (.long nn), .second, .val (.long (nn / (3 : Int64))), .second, .val (.long (nn - ((3 : Int64) * (nn / (3 : Int64))))), .second, .unset, .unset] [(.int (0 : Int32)), (.long ((4 : Int64) * (nn / (3 : Int64))))])) _
        refine XS.goto X0.here hx rfl (pc0 := 43) (pc' := 47) rfl (hb hby at_43) (by decide) (by decide) ?_
        show Steps p.tables e below (s₁.setTop (mkF m 47 #[.val (.long p1), .second, .val (.int p2), .val (.long nn), .second, .val (.long (nn / (3 : Int64))), .second, .val (.long (nn - ((3 : Int64) * (nn / (3 : Int64))))), .second, .unset, .unset] [(.int (0 : Int32)), (.long ((4 : Int64) * (nn / (3 : Int64))))])) _
        exact k
      · rw [show fr = (4 : Int32) by rw [eq_fr, if_neg hc3_39]] at k
        show Steps p.tables e below (s₁.setTop (mkF m 39 #[.val (.long p1), .second, .val (.int p2), .val (.long nn), .second, .val (.long (nn / (3 : Int64))), .second, .val (.long (nn - ((3 : Int64) * (nn / (3 : Int64))))), .second, .unset, .unset] [(.int (lcmpW (nn - ((3 : Int64) * (nn / (3 : Int64)))) (0 : Int64))), (.long ((4 : Int64) * (nn / (3 : Int64))))])) _
        refine XS.ifYes X0.here hx rfl (pc0 := 39) (pc' := 46) rfl (hb hby at_39) rfl ((if0 _ _).trans (feq hc3_39).2) (by decide) (by decide) ?_
        show Steps p.tables e below (s₁.setTop (mkF m 46 #[.val (.long p1), .second, .val (.int p2), .val (.long nn), .second, .val (.long (nn / (3 : Int64))), .second, .val (.long (nn - ((3 : Int64) * (nn / (3 : Int64))))), .second, .unset, .unset] [(.long ((4 : Int64) * (nn / (3 : Int64))))])) _
        refine XS.iconst X0.here hx rfl (hb hby at_46) ?_
        show Steps p.tables e below (s₁.setTop (mkF m 47 #[.val (.long p1), .second, .val (.int p2), .val (.long nn), .second, .val (.long (nn / (3 : Int64))), .second, .val (.long (nn - ((3 : Int64) * (nn / (3 : Int64))))), .second, .unset, .unset] [(.int (4 : Int32)), (.long ((4 : Int64) * (nn / (3 : Int64))))])) _
        exact k
    have k5 : ∀ t, Steps p.tables e below (s₁.setTop (mkF m 51 #[.val (.long p1), .second, .val (.int p2), .val (.long nn), .second, .val (.long (nn / (3 : Int64))), .second, .val (.long (nn - ((3 : Int64) * (nn / (3 : Int64))))), .second, .val (.long (((4 : Int64) * (nn / (3 : Int64))) + (fr.toInt64))), .second] [])) t → Steps p.tables e below (s₁.setTop (entryFrame m #[(.long p1), (.int p2)] maxLocals)) t := by
      intro t k
      refine k4 _ ?_
      show Steps p.tables e below (s₁.setTop (mkF m 47 #[.val (.long p1), .second, .val (.int p2), .val (.long nn), .second, .val (.long (nn / (3 : Int64))), .second, .val (.long (nn - ((3 : Int64) * (nn / (3 : Int64))))), .second, .unset, .unset] [(.int fr), (.long ((4 : Int64) * (nn / (3 : Int64))))])) _
      refine XS.i2l X0.here hx rfl (hb hby at_47) rfl ?_
      show Steps p.tables e below (s₁.setTop (mkF m 48 #[.val (.long p1), .second, .val (.int p2), .val (.long nn), .second, .val (.long (nn / (3 : Int64))), .second, .val (.long (nn - ((3 : Int64) * (nn / (3 : Int64))))), .second, .unset, .unset] [(.long (fr.toInt64)), (.long ((4 : Int64) * (nn / (3 : Int64))))])) _
      refine XS.ladd X0.here hx rfl (hb hby at_48) rfl ?_
      show Steps p.tables e below (s₁.setTop (mkF m 49 #[.val (.long p1), .second, .val (.int p2), .val (.long nn), .second, .val (.long (nn / (3 : Int64))), .second, .val (.long (nn - ((3 : Int64) * (nn / (3 : Int64))))), .second, .unset, .unset] [(.long (((4 : Int64) * (nn / (3 : Int64))) + (fr.toInt64)))])) _
      refine XS.lstore X0.here hx rfl (hb hby at_49) rfl (l' := #[.val (.long p1), .second, .val (.int p2), .val (.long nn), .second, .val (.long (nn / (3 : Int64))), .second, .val (.long (nn - ((3 : Int64) * (nn / (3 : Int64))))), .second, .val (.long (((4 : Int64) * (nn / (3 : Int64))) + (fr.toInt64))), .second]) rfl ?_
      show Steps p.tables e below (s₁.setTop (mkF m 51 #[.val (.long p1), .second, .val (.int p2), .val (.long nn), .second, .val (.long (nn / (3 : Int64))), .second, .val (.long (nn - ((3 : Int64) * (nn / (3 : Int64))))), .second, .val (.long (((4 : Int64) * (nn / (3 : Int64))) + (fr.toInt64))), .second] [])) _
      exact k
    obtain ⟨T6, X6, e6, st6⟩ := getS (host := "") X0 hx hZ hown (hw _ (List.mem_of_getElem? (i := 3) rfl)) Via.refl e0 S_BASE64 (g := (mkF m 51 #[.val (.long p1), .second, .val (.int p2), .val (.long nn), .second, .val (.long (nn / (3 : Int64))), .second, .val (.long (nn - ((3 : Int64) * (nn / (3 : Int64))))), .second, .val (.long (((4 : Int64) * (nn / (3 : Int64))) + (fr.toInt64))), .second] [])) rfl (hb hby at_51)
    have k6 : ∀ t, Steps p.tables e below (T6.setTop (mkF m 54 #[.val (.long p1), .second, .val (.int p2), .val (.long nn), .second, .val (.long (nn / (3 : Int64))), .second, .val (.long (nn - ((3 : Int64) * (nn / (3 : Int64))))), .second, .val (.long (((4 : Int64) * (nn / (3 : Int64))) + (fr.toInt64))), .second] [(.ref aBASE64)])) t → Steps p.tables e below (s₁.setTop (entryFrame m #[(.long p1), (.int p2)] maxLocals)) t := fun t k => k5 t (st6 _ k)
    have k7 : ∀ t, Steps p.tables e below (T6.setTop (mkF m 55 #[.val (.long p1), .second, .val (.int p2), .val (.long nn), .second, .val (.long (nn / (3 : Int64))), .second, .val (.long (nn - ((3 : Int64) * (nn / (3 : Int64))))), .second, .val (.long (((4 : Int64) * (nn / (3 : Int64))) + (fr.toInt64))), .second] [(.long nn), (.ref aBASE64)])) t → Steps p.tables e below (s₁.setTop (entryFrame m #[(.long p1), (.int p2)] maxLocals)) t := by
      intro t k
      refine k6 _ ?_
      show Steps p.tables e below (T6.setTop (mkF m 54 #[.val (.long p1), .second, .val (.int p2), .val (.long nn), .second, .val (.long (nn / (3 : Int64))), .second, .val (.long (nn - ((3 : Int64) * (nn / (3 : Int64))))), .second, .val (.long (((4 : Int64) * (nn / (3 : Int64))) + (fr.toInt64))), .second] [(.ref aBASE64)])) _
      refine XS.lloadN X6.here hx rfl (hb hby at_54) rfl ?_
      show Steps p.tables e below (T6.setTop (mkF m 55 #[.val (.long p1), .second, .val (.int p2), .val (.long nn), .second, .val (.long (nn / (3 : Int64))), .second, .val (.long (nn - ((3 : Int64) * (nn / (3 : Int64))))), .second, .val (.long (((4 : Int64) * (nn / (3 : Int64))) + (fr.toInt64))), .second] [(.long nn), (.ref aBASE64)])) _
      exact k
    obtain ⟨cq8, kq8, q8a, q8b, q8c⟩ := isOf hZ e6 E_BASE64
    obtain ⟨_, _, ⟨T8, L8, ck8, nk8⟩, -, X8, ⟨Lc8, hQ8, l8, y8, z8⟩, st8⟩ := X6.virtualBack hx (y := (⟨"com/example/westford/westford/BinaryEncoding", "longestText", "(J)J"⟩ : MethodName)) (z := (⟨"com/example/westford/westford/BinaryEncoding", "longestText", "(J)J"⟩ : MethodName)) hown (mvT hZ (hw _ (List.mem_of_getElem? (i := 6) rfl))) (mvT hZ (hw _ (List.mem_of_getElem? (i := 7) rfl))) (notFace_of_selects (args := #[]) (mvT hZ (hw _ (List.mem_of_getElem? (i := 9) rfl)))) (mvT hZ (hw _ (List.mem_of_getElem? (i := 9) rfl))) (mvT hZ (hw _ (List.mem_of_getElem? (i := 8) rfl))) (by decide) (backOf (W := 0) (rm2 l Z a0 hw [] aBASE64 nn h0 n0 Z0 E_BASE64 F_BASE64) hZ (hw _ (List.mem_of_getElem? (i := 10) rfl)) (hw _ (List.mem_of_getElem? (i := 4) rfl)) (by decide) (by decide)) q8a q8c (g := (mkF m 55 #[.val (.long p1), .second, .val (.int p2), .val (.long nn), .second, .val (.long (nn / (3 : Int64))), .second, .val (.long (nn - ((3 : Int64) * (nn / (3 : Int64))))), .second, .val (.long (((4 : Int64) * (nn / (3 : Int64))) + (fr.toInt64))), .second] [(.long nn), (.ref aBASE64)])) rfl (by rw [hml]; rfl) (Steps.refl _) (argsL := [(.long nn)]) (rest := []) (lenOf pd_1 rfl) rfl (by show 2 * 0 + _ ≤ _; exact Nat.le_of_eq rfl) (hb hby at_55) (fun _ _ => ⟨rfl, e6, (by decide : 0 + 0 ≤ _), (by decide : 0 + 0 ≤ _)⟩)
    dsimp only [Pt.U, Pt.locs, Pt.cells, Pt.slots] at X8 l8 y8 z8 st8 hQ8
    subst l8 y8 z8
    obtain ⟨rfl, N8q, e8⟩ := hQ8
    have N8 := Fr.app N0 N8q
    have k8 : ∀ t, Steps p.tables e below (T8.setTop (mkF m 58 #[.val (.long p1), .second, .val (.int p2), .val (.long nn), .second, .val (.long (nn / (3 : Int64))), .second, .val (.long (nn - ((3 : Int64) * (nn / (3 : Int64))))), .second, .val (.long (((4 : Int64) * (nn / (3 : Int64))) + (fr.toInt64))), .second] [(.long ((4 : Int64) * ((nn + (2 : Int64)) / (3 : Int64))))])) t → Steps p.tables e below (s₁.setTop (entryFrame m #[(.long p1), (.int p2)] maxLocals)) t := fun t k => k7 t (st8.trans k)
    have k9 : ∀ t, Steps p.tables e below (T8.setTop (mkF m 69 #[.val (.long p1), .second, .val (.int p2), .val (.long nn), .second, .val (.long (nn / (3 : Int64))), .second, .val (.long (nn - ((3 : Int64) * (nn / (3 : Int64))))), .second, .val (.long (((4 : Int64) * (nn / (3 : Int64))) + (fr.toInt64))), .second] [(.int (1 : Int32))])) t → Steps p.tables e below (s₁.setTop (entryFrame m #[(.long p1), (.int p2)] maxLocals)) t := by
      intro t k
      refine k8 _ ?_
      show Steps p.tables e below (T8.setTop (mkF m 58 #[.val (.long p1), .second, .val (.int p2), .val (.long nn), .second, .val (.long (nn / (3 : Int64))), .second, .val (.long (nn - ((3 : Int64) * (nn / (3 : Int64))))), .second, .val (.long (((4 : Int64) * (nn / (3 : Int64))) + (fr.toInt64))), .second] [(.long ((4 : Int64) * ((nn + (2 : Int64)) / (3 : Int64))))])) _
      refine XS.lload X8.here hx rfl (hb hby at_58) rfl ?_
      show Steps p.tables e below (T8.setTop (mkF m 60 #[.val (.long p1), .second, .val (.int p2), .val (.long nn), .second, .val (.long (nn / (3 : Int64))), .second, .val (.long (nn - ((3 : Int64) * (nn / (3 : Int64))))), .second, .val (.long (((4 : Int64) * (nn / (3 : Int64))) + (fr.toInt64))), .second] [(.long (((4 : Int64) * (nn / (3 : Int64))) + (fr.toInt64))), (.long ((4 : Int64) * ((nn + (2 : Int64)) / (3 : Int64))))])) _
      refine XS.lcmp X8.here hx rfl (hb hby at_60) rfl ?_
      show Steps p.tables e below (T8.setTop (mkF m 61 #[.val (.long p1), .second, .val (.int p2), .val (.long nn), .second, .val (.long (nn / (3 : Int64))), .second, .val (.long (nn - ((3 : Int64) * (nn / (3 : Int64))))), .second, .val (.long (((4 : Int64) * (nn / (3 : Int64))) + (fr.toInt64))), .second] [(.int (lcmpW ((4 : Int64) * ((nn + (2 : Int64)) / (3 : Int64))) (((4 : Int64) * (nn / (3 : Int64))) + (fr.toInt64))))])) _
      refine XS.ifNo X8.here hx rfl (hb hby at_61) rfl ((if0 _ _).trans (teq ((lw_eq _ _).mpr (by rw [eq_fr]; exact own_b64 nn hn0 hn1))).2) ?_
      show Steps p.tables e below (T8.setTop (mkF m 64 #[.val (.long p1), .second, .val (.int p2), .val (.long nn), .second, .val (.long (nn / (3 : Int64))), .second, .val (.long (nn - ((3 : Int64) * (nn / (3 : Int64))))), .second, .val (.long (((4 : Int64) * (nn / (3 : Int64))) + (fr.toInt64))), .second] [])) _
      refine XS.iconst X8.here hx rfl (hb hby at_64) ?_
      show Steps p.tables e below (T8.setTop (mkF m 65 #[.val (.long p1), .second, .val (.int p2), .val (.long nn), .second, .val (.long (nn / (3 : Int64))), .second, .val (.long (nn - ((3 : Int64) * (nn / (3 : Int64))))), .second, .val (.long (((4 : Int64) * (nn / (3 : Int64))) + (fr.toInt64))), .second] [(.int (1 : Int32))])) _
      refine XS.goto X8.here hx rfl (pc0 := 65) (pc' := 69) rfl (hb hby at_65) (by decide) (by decide) ?_
      show Steps p.tables e below (T8.setTop (mkF m 69 #[.val (.long p1), .second, .val (.int p2), .val (.long nn), .second, .val (.long (nn / (3 : Int64))), .second, .val (.long (nn - ((3 : Int64) * (nn / (3 : Int64))))), .second, .val (.long (((4 : Int64) * (nn / (3 : Int64))) + (fr.toInt64))), .second] [(.int (1 : Int32))])) _
      exact k
    obtain ⟨fs, hr, hrun, hended, hW, hsame⟩ := X8.leave (v := some (.int (1 : Int32))) (fun h => by rw [Bd.returns] at h; cases h)
    refine ⟨_, _, k9 _ ?_, hrun, hended, _, _, rfl, ?_, ⟨_, rfl⟩, hW, hsame.mono (Nat.le_of_ble_eq_true rfl) (Nat.le_of_ble_eq_true rfl)⟩
    · exact retN X8 hx (t := .boolean) Bd.returns (by simp) (hb hby at_69) hr
    · show Q0 Z p1 p2 aBASE64 aHEX h0 n0 _ T8.heap _
      rw [e8]
      exact ⟨rfl, N8⟩
  · have k10 : ∀ t, Steps p.tables e below (s₁.setTop (mkF m 70 #[.val (.long p1), .second, .val (.int p2), .val (.long nn), .second, .unset, .unset, .unset, .unset, .unset, .unset] [])) t → Steps p.tables e below (s₁.setTop (entryFrame m #[(.long p1), (.int p2)] maxLocals)) t := by
      intro t k
      refine k2 _ ?_
      show Steps p.tables e below (s₁.setTop (mkF m 9 #[.val (.long p1), .second, .val (.int p2), .val (.long nn), .second, .unset, .unset, .unset, .unset, .unset, .unset] [(.int (p2 &&& (1 : Int32)))])) _
      refine XS.ifYes X0.here hx rfl (pc0 := 9) (pc' := 70) rfl (hb hby at_9) rfl ((if0 _ _).trans (feq hw0).2) (by decide) (by decide) ?_
      show Steps p.tables e below (s₁.setTop (mkF m 70 #[.val (.long p1), .second, .val (.int p2), .val (.long nn), .second, .unset, .unset, .unset, .unset, .unset, .unset] [])) _
      exact k
    obtain ⟨T11, X11, e11, st11⟩ := getS (host := "") X0 hx hZ hown (hw _ (List.mem_of_getElem? (i := 23) rfl)) Via.refl e0 S_HEX (g := (mkF m 70 #[.val (.long p1), .second, .val (.int p2), .val (.long nn), .second, .unset, .unset, .unset, .unset, .unset, .unset] [])) rfl (hb hby at_70)
    have k11 : ∀ t, Steps p.tables e below (T11.setTop (mkF m 73 #[.val (.long p1), .second, .val (.int p2), .val (.long nn), .second, .unset, .unset, .unset, .unset, .unset, .unset] [(.ref aHEX)])) t → Steps p.tables e below (s₁.setTop (entryFrame m #[(.long p1), (.int p2)] maxLocals)) t := fun t k => k10 t (st11 _ k)
    have k12 : ∀ t, Steps p.tables e below (T11.setTop (mkF m 74 #[.val (.long p1), .second, .val (.int p2), .val (.long nn), .second, .unset, .unset, .unset, .unset, .unset, .unset] [(.long nn), (.ref aHEX)])) t → Steps p.tables e below (s₁.setTop (entryFrame m #[(.long p1), (.int p2)] maxLocals)) t := by
      intro t k
      refine k11 _ ?_
      show Steps p.tables e below (T11.setTop (mkF m 73 #[.val (.long p1), .second, .val (.int p2), .val (.long nn), .second, .unset, .unset, .unset, .unset, .unset, .unset] [(.ref aHEX)])) _
      refine XS.lloadN X11.here hx rfl (hb hby at_73) rfl ?_
      show Steps p.tables e below (T11.setTop (mkF m 74 #[.val (.long p1), .second, .val (.int p2), .val (.long nn), .second, .unset, .unset, .unset, .unset, .unset, .unset] [(.long nn), (.ref aHEX)])) _
      exact k
    obtain ⟨cq13, kq13, q13a, q13b, q13c⟩ := isOf hZ e11 E_HEX
    obtain ⟨_, _, ⟨T13, L13, ck13, nk13⟩, -, X13, ⟨Lc13, hQ13, l13, y13, z13⟩, st13⟩ := X11.virtualBack hx (y := (⟨"com/example/westford/westford/BinaryEncoding", "longestText", "(J)J"⟩ : MethodName)) (z := (⟨"com/example/westford/westford/BinaryEncoding", "longestText", "(J)J"⟩ : MethodName)) hown (mvT hZ (hw _ (List.mem_of_getElem? (i := 6) rfl))) (mvT hZ (hw _ (List.mem_of_getElem? (i := 7) rfl))) (notFace_of_selects (args := #[]) (mvT hZ (hw _ (List.mem_of_getElem? (i := 9) rfl)))) (mvT hZ (hw _ (List.mem_of_getElem? (i := 9) rfl))) (mvT hZ (hw _ (List.mem_of_getElem? (i := 8) rfl))) (by decide) (backOf (W := 0) (rm3 l Z a0 hw [] aHEX nn h0 n0 Z0 E_HEX F_HEX) hZ (hw _ (List.mem_of_getElem? (i := 10) rfl)) (hw _ (List.mem_of_getElem? (i := 4) rfl)) (by decide) (by decide)) q13a q13c (g := (mkF m 74 #[.val (.long p1), .second, .val (.int p2), .val (.long nn), .second, .unset, .unset, .unset, .unset, .unset, .unset] [(.long nn), (.ref aHEX)])) rfl (by rw [hml]; rfl) (Steps.refl _) (argsL := [(.long nn)]) (rest := []) (lenOf pd_1 rfl) rfl (by show 2 * 0 + _ ≤ _; exact Nat.le_of_eq rfl) (hb hby at_74) (fun _ _ => ⟨rfl, e11, (by decide : 0 + 0 ≤ _), (by decide : 0 + 0 ≤ _)⟩)
    dsimp only [Pt.U, Pt.locs, Pt.cells, Pt.slots] at X13 l13 y13 z13 st13 hQ13
    subst l13 y13 z13
    obtain ⟨rfl, N13q, e13⟩ := hQ13
    have N13 := Fr.app N0 N13q
    have k13 : ∀ t, Steps p.tables e below (T13.setTop (mkF m 77 #[.val (.long p1), .second, .val (.int p2), .val (.long nn), .second, .unset, .unset, .unset, .unset, .unset, .unset] [(.long ((2 : Int64) * nn))])) t → Steps p.tables e below (s₁.setTop (entryFrame m #[(.long p1), (.int p2)] maxLocals)) t := fun t k => k12 t (st13.trans k)
    have k14 : ∀ t, Steps p.tables e below (T13.setTop (mkF m 89 #[.val (.long p1), .second, .val (.int p2), .val (.long nn), .second, .unset, .unset, .unset, .unset, .unset, .unset] [(.int (1 : Int32))])) t → Steps p.tables e below (s₁.setTop (entryFrame m #[(.long p1), (.int p2)] maxLocals)) t := by
      intro t k
      refine k13 _ ?_
      show Steps p.tables e below (T13.setTop (mkF m 77 #[.val (.long p1), .second, .val (.int p2), .val (.long nn), .second, .unset, .unset, .unset, .unset, .unset, .unset] [(.long ((2 : Int64) * nn))])) _
      refine XS.lloadN X13.here hx rfl (hb hby at_77) rfl ?_
      show Steps p.tables e below (T13.setTop (mkF m 78 #[.val (.long p1), .second, .val (.int p2), .val (.long nn), .second, .unset, .unset, .unset, .unset, .unset, .unset] [(.long nn), (.long ((2 : Int64) * nn))])) _
      refine XS.lloadN X13.here hx rfl (hb hby at_78) rfl ?_
      show Steps p.tables e below (T13.setTop (mkF m 79 #[.val (.long p1), .second, .val (.int p2), .val (.long nn), .second, .unset, .unset, .unset, .unset, .unset, .unset] [(.long nn), (.long nn), (.long ((2 : Int64) * nn))])) _
      refine XS.ladd X13.here hx rfl (hb hby at_79) rfl ?_
      show Steps p.tables e below (T13.setTop (mkF m 80 #[.val (.long p1), .second, .val (.int p2), .val (.long nn), .second, .unset, .unset, .unset, .unset, .unset, .unset] [(.long (nn + nn)), (.long ((2 : Int64) * nn))])) _
      refine XS.lcmp X13.here hx rfl (hb hby at_80) rfl ?_
      show Steps p.tables e below (T13.setTop (mkF m 81 #[.val (.long p1), .second, .val (.int p2), .val (.long nn), .second, .unset, .unset, .unset, .unset, .unset, .unset] [(.int (lcmpW ((2 : Int64) * nn) (nn + nn)))])) _
      refine XS.ifNo X13.here hx rfl (hb hby at_81) rfl ((if0 _ _).trans (teq ((lw_eq _ _).mpr (own_hex nn))).2) ?_
      show Steps p.tables e below (T13.setTop (mkF m 84 #[.val (.long p1), .second, .val (.int p2), .val (.long nn), .second, .unset, .unset, .unset, .unset, .unset, .unset] [])) _
      refine XS.iconst X13.here hx rfl (hb hby at_84) ?_
      show Steps p.tables e below (T13.setTop (mkF m 85 #[.val (.long p1), .second, .val (.int p2), .val (.long nn), .second, .unset, .unset, .unset, .unset, .unset, .unset] [(.int (1 : Int32))])) _
      refine XS.goto X13.here hx rfl (pc0 := 85) (pc' := 89) rfl (hb hby at_85) (by decide) (by decide) ?_
      show Steps p.tables e below (T13.setTop (mkF m 89 #[.val (.long p1), .second, .val (.int p2), .val (.long nn), .second, .unset, .unset, .unset, .unset, .unset, .unset] [(.int (1 : Int32))])) _
      exact k
    obtain ⟨fs, hr, hrun, hended, hW, hsame⟩ := X13.leave (v := some (.int (1 : Int32))) (fun h => by rw [Bd.returns] at h; cases h)
    refine ⟨_, _, k14 _ ?_, hrun, hended, _, _, rfl, ?_, ⟨_, rfl⟩, hW, hsame.mono (Nat.le_of_ble_eq_true rfl) (Nat.le_of_ble_eq_true rfl)⟩
    · exact retN X13 hx (t := .boolean) Bd.returns (by simp) (hb hby at_89) hr
    · show Q0 Z p1 p2 aBASE64 aHEX h0 n0 _ T13.heap _
      rw [e13]
      exact ⟨rfl, N13⟩
set_option maxRecDepth 65536 in
set_option maxHeartbeats 40000000 in
theorem comes_1 {Post : Tables → Env → Array Value → State → Outcome → State → Prop} (hpost : ∀ tb e args s v u, (limb_1_1.after args s (.returned v) u = true ∧ limb_1_2.after args s (.returned v) u = true ∧ True) → FrameEnd s (.returned v) u (Jvm.fieldLocs frame_1_writes args s ++ Jvm.arrayLocs frame_1_arrays args s ++ Jvm.staticLocs frame_1_statics s) 0 0 → Post tb e args s (.returned v) u) :
    ArmFor flags0 classFile x code maxLocals ret World_1 tables_1 room_1 Calls_1 rest_1 Pre_1 Post := by
  intro l hfl _ _ p e ha hc hk s m args below hf hA hF happ hP
  obtain ⟨hcalls, hrest, hpre⟩ := hP
  obtain ⟨-, -, -, hnamed, -, -, -, hat⟩ := (Spec.applies_iff hf).mp happ
  obtain ⟨hg, hn⟩ := and_e (Cond.before_iff.mp (show (Jvm.Cond.and given_1 narrow_1).before args s = true from hpre))
  obtain ⟨hcnt, hr0⟩ := and_e hg
  obtain ⟨hi0, hr1⟩ := and_e hr0
  have hi1 := hr1
  obtain ⟨w0, w1, rfl⟩ : ∃ w0 w1 : Value, args = #[w0, w1] := by
    have hs : args.size = 2 := by simpa [Cond.value, given_1] using hcnt
    obtain ⟨L⟩ := args
    match L, hs with
    | [w0, w1], _ => exact ⟨w0, w1, rfl⟩
  have hw := fun d (hd : d ∈ tables_1) => atoms_spec (ws := Jvm.Cond.code x code maxLocals ret :: tables_1) hat d (List.mem_cons_of_mem _ hd)
  have hfit : Fit s := fun {y c} hc i hi => by
    obtain ⟨ha, rfl⟩ := Array.getElem?_eq_some_iff.mp hc
    have q := List.all_eq_true.mp ((Array.all_eq_true_iff_forall_mem.mp hF) _ (Array.getElem_mem ha)) i (List.mem_range.mpr hi)
    simpa [Array.getElem?_eq_getElem hi] using q
  obtain ⟨i0, ei0⟩ := isL_v hi0
  obtain rfl : w0 = (.long i0) := Option.some.inj ei0
  obtain ⟨i1, ei1⟩ := is_v hi1
  obtain rfl : w1 = (.int i1) := Option.some.inj ei1
  obtain ⟨n1, hn1⟩ := and_e hn
  obtain ⟨n2, hn2⟩ := and_e hn1
  obtain ⟨n3, n4⟩ := and_e hn2
  obtain ⟨aBASE64, evBASE64⟩ := exa_v n1
  have E_BASE64 := Exa.start evBASE64 n1
  have F_BASE64 := own_field evBASE64 n2
  have S_BASE64 : Sta s s.heap "com/example/westford/westford/BinaryEncoding" "BASE64" "Lcom/example/westford/westford/BinaryEncoding;" (.ref aBASE64) := Sta.start evBASE64 (Or.inr ⟨(hw _ (List.mem_of_getElem? (i := 4) rfl)), (hw _ (List.mem_of_getElem? (i := 5) rfl))⟩)
  obtain ⟨aHEX, evHEX⟩ := exa_v n3
  have E_HEX := Exa.start evHEX n3
  have F_HEX := own_field evHEX n4
  have S_HEX : Sta s s.heap "com/example/westford/westford/BinaryEncoding" "HEX" "Lcom/example/westford/westford/BinaryEncoding;" (.ref aHEX) := Sta.start evHEX (Or.inr ⟨(hw _ (List.mem_of_getElem? (i := 4) rfl)), (hw _ (List.mem_of_getElem? (i := 24) rfl))⟩)
  obtain ⟨n, o, h1, h2, h3, _, L, rfl, ⟨rfl, N⟩, hq⟩ := rm0 l s _ hw tables_1 i0 i1 aBASE64 aHEX s.heap s.heap.size (Nat.le_refl _) S_BASE64 E_BASE64 F_BASE64 S_HEX E_HEX F_HEX p e ha hc hk s m _ below hf ((Spec.applies_iff_loose hf).mp happ).1 ⟨rfl, State.Warmed39.refl s, rfl⟩ trivial
  refine ⟨n, _, h1, h2, h3, hpost _ _ _ _ _ _ ⟨Cond.after_iff.mpr rfl, Cond.after_iff.mpr (eq_i res_at (Term.int_eval (1)) rfl), trivial⟩ ⟨hq.1, hq.2.1, (hq.2.2.sift fun y hy => Or.inr (N y hy)).mono (by decide) (by decide)⟩⟩
theorem main_1_1 : Claimed_1_1 := comes_1 fun _ _ _ _ _ _ h hF => ⟨h.1, hF⟩
theorem main_1_2 : Claimed_1_2 := comes_1 fun _ _ _ _ _ _ h hF => ⟨h.2.1, hF⟩
end Jvm.Pilot.@@N@@
namespace Jvm.Pilot.@@N@@
open Jvm Jvm.ClassFile Sem Op Lib Jvm.Free Jvm.Stand Jvm.Pilot.@@N@@.Jvm.D
/-! MADE BY PROGRAM (witnessworld.py) out of the Statement's table words and the real class files: 12 classes; the members and pool entries that the words name. The judged class is class 1, her method 1. -/
namespace start1
open Jvm.ClassFile
def u (s : String) : CpInfo := .utf8 (stringToUtf16 s)
/-- a pool by its gaps: so many unusable entries, then the entry; so many at the end -/
def gap : Nat → List CpInfo → List CpInfo
  | 0, r => r
  | n + 1, r => .unusable :: gap n r
def poolList (es : List (Nat × CpInfo)) (last : Nat) : List CpInfo := es.foldr (fun e r => gap e.1 (e.2 :: r)) (gap last [])
def pool (es : List (Nat × CpInfo)) (last : Nat) : Array CpInfo := ⟨poolList es last⟩
def fileOf (pool : Array CpInfo) (this : Nat) (attrs : Array Attribute := #[]) (ms : Array MethodInfo := #[]) (fl : Nat := 33) (sup : Nat := 0) (ifs : Array Nat := #[]) (fds : Array FieldInfo := #[]) : ClassFile where
  minorVersion := 0
  majorVersion := 65
  constantPool := pool
  accessFlags := fl
  thisClass := this
  superClass := sup
  interfaces := ifs
  fields := fds
  methods := ms
  attributes := attrs
def plain (name : String) (sup : Option ClassId) : Class where
  name := name
  kind := .ordinary
  loader := none
  accessFlags := 33
  super := sup
  interfaces := #[]
  cf := none
  fields := #[]
  methods := #[]
  instanceTypes := #[]
  staticTypes := #[]
  resolved := #[]
  callSites := []
  init := .initialized
  statics := none
  mirror := none

def pool0 : Array CpInfo := pool [(5, u "<init>"), (0, u "()V"), (1, .class_ 10), (1, u "java/lang/Object")] 113

def k0m0 : Method := { name := "<init>", desc := "()V", sig := { parameters := [], returnType := none }, accessFlags := 1, code := none }
/-- java/lang/Object -/
def k0 : Class := { plain "java/lang/Object" none with
  accessFlags := 33
  interfaces := #[]
  cf := some (fileOf pool0 8 #[] #[{ accessFlags := 1, nameIndex := 5, descriptorIndex := 6, attributes := #[] }] 33 0 #[] #[])
  fields := #[]
  methods := #[k0m0]
  instanceTypes := #[]
  staticTypes := #[]
  resolved := Array.replicate 124 none
  statics := none }

def pool1 : Array CpInfo := pool [(2, .class_ 4), (1, u "java/lang/Object"), (0, u "<init>"), (0, u "()V"), (0, .long 4611686018427387903), (1, .long 3), (1, .long 4), (1, .fieldref 14 15), (0, .class_ 16), (0, .nameAndType 17 18), (0, u "com/example/westford/westford/BinaryEncoding"), (0, u "BASE64"), (0, u "Lcom/example/westford/westford/BinaryEncoding;"), (0, .methodref 14 20), (0, .nameAndType 21 22), (0, u "longestText"), (0, u "(J)J"), (0, .fieldref 14 24), (0, .nameAndType 25 18), (0, u "HEX"), (0, .class_ 27), (0, u "com/example/westford/westford/BinaryEncodingLongestTextPinLaw"), (2, u "law"), (0, u "(JI)Z")] 3

def k1m0 : Method := { name := "<init>", desc := "()V", sig := { parameters := [], returnType := none }, accessFlags := 1, code := none }
def k1c1 : Code := { maxStack := 6, maxLocals := 11, code := code, exceptionTable := #[], attributes := #[] }
def k1m1 : Method := { name := "law", desc := "(JI)Z", sig := { parameters := [.long, .int], returnType := some .boolean }, accessFlags := 9, code := some k1c1 }
/-- com/example/westford/westford/BinaryEncodingLongestTextPinLaw -/
def k1 : Class := { plain "com/example/westford/westford/BinaryEncodingLongestTextPinLaw" (some 0) with
  accessFlags := 49
  interfaces := #[]
  cf := some (fileOf pool1 26 #[] #[{ accessFlags := 1, nameIndex := 5, descriptorIndex := 6, attributes := #[] }, { accessFlags := 9, nameIndex := 30, descriptorIndex := 31, attributes := #[] }] 49 2 #[] #[])
  fields := #[]
  methods := #[k1m0, k1m1]
  instanceTypes := #[]
  staticTypes := #[]
  resolved := Array.replicate 35 none
  statics := none }

def pool2 : Array CpInfo := pool [(1, .class_ 2), (0, u "java/lang/constant/Constable"), (0, .class_ 4), (0, u "java/lang/Object")] 6

/-- java/lang/constant/Constable -/
def k2 : Class := { plain "java/lang/constant/Constable" (some 0) with
  accessFlags := 1537
  interfaces := #[]
  cf := some (fileOf pool2 1 #[] #[] 1537 3 #[] #[])
  fields := #[]
  methods := #[]
  instanceTypes := #[]
  staticTypes := #[]
  resolved := Array.replicate 11 none
  statics := none }

def pool3 : Array CpInfo := pool [(1, .class_ 2), (0, u "java/lang/Comparable"), (0, .class_ 4), (0, u "java/lang/Object")] 7

/-- java/lang/Comparable -/
def k3 : Class := { plain "java/lang/Comparable" (some 0) with
  accessFlags := 1537
  interfaces := #[]
  cf := some (fileOf pool3 1 #[] #[] 1537 3 #[] #[])
  fields := #[]
  methods := #[]
  instanceTypes := #[]
  staticTypes := #[]
  resolved := Array.replicate 12 none
  statics := none }

def pool4 : Array CpInfo := pool [(1, .class_ 2), (0, u "java/io/Serializable"), (0, .class_ 4), (0, u "java/lang/Object")] 2

/-- java/io/Serializable -/
def k4 : Class := { plain "java/io/Serializable" (some 0) with
  accessFlags := 1537
  interfaces := #[]
  cf := some (fileOf pool4 1 #[] #[] 1537 3 #[] #[])
  fields := #[]
  methods := #[]
  instanceTypes := #[]
  staticTypes := #[]
  resolved := Array.replicate 7 none
  statics := none }

def pool5 : Array CpInfo := pool [(2, .class_ 4), (1, u "java/lang/Enum"), (0, u "name"), (0, u "Ljava/lang/String;"), (0, .fieldref 2 8), (0, .nameAndType 9 10), (0, u "ordinal"), (0, u "I"), (1, .class_ 14), (1, u "java/lang/Object"), (4, u "hash"), (86, .class_ 108), (1, u "java/lang/Enum$EnumDesc"), (2, .class_ 112), (0, u "java/lang/constant/Constable"), (0, .class_ 114), (0, u "java/lang/Comparable"), (0, .class_ 116), (0, u "java/io/Serializable"), (9, u "()I")] 77

def k5c0 : Code := { maxStack := 1, maxLocals := 1, code := jdk_37_method_2_code, exceptionTable := #[], attributes := #[] }
def k5m0 : Method := { name := "ordinal", desc := "()I", sig := { parameters := [], returnType := some .int }, accessFlags := 17, code := some k5c0 }
/-- java/lang/Enum -/
def k5 : Class := { plain "java/lang/Enum" (some 0) with
  accessFlags := 1057
  interfaces := #[2, 3, 4]
  cf := some (fileOf pool5 2 #[.nestMembers #[106]] #[{ accessFlags := 17, nameIndex := 9, descriptorIndex := 126, attributes := #[] }] 1057 12 #[111, 113, 115] #[{ accessFlags := 18, nameIndex := 5, descriptorIndex := 6, attributes := #[] }, { accessFlags := 18, nameIndex := 9, descriptorIndex := 10, attributes := #[] }, { accessFlags := 2, nameIndex := 19, descriptorIndex := 10, attributes := #[] }])
  fields := #[{ name := "name", type := (.object "java/lang/String"), accessFlags := 18, slot := 0, constantValue := 0 }, { name := "ordinal", type := .int, accessFlags := 18, slot := 1, constantValue := 0 }, { name := "hash", type := .int, accessFlags := 2, slot := 2, constantValue := 0 }]
  methods := #[k5m0]
  instanceTypes := #[(.object "java/lang/String"), .int, .int]
  staticTypes := #[]
  resolved := Array.replicate 204 none
  statics := none }

def pool6 : Array CpInfo := pool [(1, .class_ 2), (0, u "com/example/westford/westford/BinaryEncoding"), (2, u "BASE64"), (0, u "Lcom/example/westford/westford/BinaryEncoding;"), (2, u "HEX"), (2, u "$VALUES"), (0, u "[Lcom/example/westford/westford/BinaryEncoding;"), (6, .class_ 22), (1, u "java/lang/Enum"), (8, u "schemaType"), (0, u "Ljava/lang/String;"), (2, u "encoder"), (0, u "Ljava/util/function/Function;"), (2, u "decoder"), (30, .methodref 1 71), (0, .nameAndType 72 73), (0, u "ordinal"), (0, u "()I"), (5, .long 4), (1, .long 2), (1, .long 3), (28, u "WHITE_SPACE"), (0, u "Ljava/util/regex/Pattern;"), (100, u "longestText"), (0, u "(J)J")] 63

def k6c0 : Code := { maxStack := 6, maxLocals := 3, code := prog_2_method_7_code, exceptionTable := #[], attributes := #[] }
def k6m0 : Method := { name := "longestText", desc := "(J)J", sig := { parameters := [.long], returnType := some .long }, accessFlags := 0, code := some k6c0 }
/-- com/example/westford/westford/BinaryEncoding -/
def k6 : Class := { plain "com/example/westford/westford/BinaryEncoding" (some 5) with
  accessFlags := 16433
  interfaces := #[]
  cf := some (fileOf pool6 1 #[] #[{ accessFlags := 0, nameIndex := 214, descriptorIndex := 215, attributes := #[] }] 16433 20 #[] #[{ accessFlags := 16409, nameIndex := 5, descriptorIndex := 6, attributes := #[] }, { accessFlags := 16409, nameIndex := 9, descriptorIndex := 6, attributes := #[] }, { accessFlags := 26, nameIndex := 112, descriptorIndex := 113, attributes := #[] }, { accessFlags := 18, nameIndex := 31, descriptorIndex := 32, attributes := #[] }, { accessFlags := 18, nameIndex := 35, descriptorIndex := 36, attributes := #[] }, { accessFlags := 18, nameIndex := 39, descriptorIndex := 36, attributes := #[] }, { accessFlags := 4122, nameIndex := 12, descriptorIndex := 13, attributes := #[] }])
  fields := #[{ name := "BASE64", type := (.object "com/example/westford/westford/BinaryEncoding"), accessFlags := 16409, slot := 0, constantValue := 0 }, { name := "HEX", type := (.object "com/example/westford/westford/BinaryEncoding"), accessFlags := 16409, slot := 1, constantValue := 0 }, { name := "WHITE_SPACE", type := (.object "java/util/regex/Pattern"), accessFlags := 26, slot := 2, constantValue := 0 }, { name := "schemaType", type := (.object "java/lang/String"), accessFlags := 18, slot := 3, constantValue := 0 }, { name := "encoder", type := (.object "java/util/function/Function"), accessFlags := 18, slot := 4, constantValue := 0 }, { name := "decoder", type := (.object "java/util/function/Function"), accessFlags := 18, slot := 5, constantValue := 0 }, { name := "$VALUES", type := (.array (.object "com/example/westford/westford/BinaryEncoding")), accessFlags := 4122, slot := 3, constantValue := 0 }]
  methods := #[k6m0]
  instanceTypes := #[(.object "java/lang/String"), .int, .int, (.object "java/lang/String"), (.object "java/util/function/Function"), (.object "java/util/function/Function")]
  staticTypes := #[(.object "com/example/westford/westford/BinaryEncoding"), (.object "com/example/westford/westford/BinaryEncoding"), (.object "java/util/regex/Pattern"), (.array (.object "com/example/westford/westford/BinaryEncoding"))]
  resolved := Array.replicate 279 none
  statics := some 0 }

def pool7 : Array CpInfo := pool [(1, u "java/lang/Cloneable"), (0, .class_ 1), (0, u "java/lang/Object"), (0, .class_ 3)] 3

/-- java/lang/Cloneable -/
def k7 : Class := { plain "java/lang/Cloneable" (some 0) with
  accessFlags := 1537
  interfaces := #[]
  cf := some (fileOf pool7 2 #[] #[] 1537 4 #[] #[])
  fields := #[]
  methods := #[]
  instanceTypes := #[]
  staticTypes := #[]
  resolved := Array.replicate 8 none
  statics := none }

/-- the primitive byte -/
def k8 : Class := { plain "byte" none with kind := .primitive 'B', accessFlags := 0x411 }
/-- [B -/
def k9 : Class := { plain "[B" (some 0) with kind := .array 8 .byte, interfaces := #[7, 4], accessFlags := 1041 }

/-- the primitive int -/
def k10 : Class := { plain "int" none with kind := .primitive 'I', accessFlags := 0x411 }
/-- [I -/
def k11 : Class := { plain "[I" (some 0) with kind := .array 10 .int, interfaces := #[7, 4], accessFlags := 1041 }

def heap : Heap := #[{ cls := 6, slots := #[.ref 1, .ref 2, .null, .null], vm := .statics 6 },
  { cls := 6, slots := #[.null, .int 0, .int 0, .null, .null, .null], vm := .none },
  { cls := 6, slots := #[.null, .int 1, .int 0, .null, .null, .null], vm := .none }]
def classes : Array Class := #[k0, k1, k2, k3, k4, k5, k6, k7, k8, k9, k10, k11]
def interned : List (Array UInt16 × Addr) := []
def slotsUsed : Nat := 16
def theMethod : MethodId := ⟨1, 1⟩
def args0 : Array Value := #[.long 5, .int 7]
def aboutOver (below : List Frame) : State where
  vm := { classes := classes, interned := interned.toArray }
  heap := heap
  slotsUsed := slotsUsed
  threads := #[{ frames := .invoking theMethod args0 :: below }]
def below0 : List Frame := [.native { method := ⟨0, 0⟩, args := #[] }]
def about1 : State := aboutOver below0
def p0 : Program := .bare "" "" ""
def e0 : Env := launch0.env 0 0 0
theorem w_frames : about1.frames = Frame.invoking theMethod args0 :: below0 := rfl
set_option maxRecDepth 65536 in
theorem w_args : argsFit about1.vm theMethod args0 = true := by decide +kernel
set_option maxRecDepth 65536 in
theorem w_heap : heapFits about1 = true := by decide +kernel
set_option maxRecDepth 65536 in
theorem w_runnable : about1.curStatus? = some .runnable := by decide +kernel
set_option maxRecDepth 65536 in
theorem w_alone : about1.alone = true := by decide +kernel
set_option maxRecDepth 65536 in
theorem w_named : about1.methodNamed? x = some theMethod := by decide +kernel
set_option maxRecDepth 65536 in
theorem w_hears : about1.hears theMethod below0 = true := by decide +kernel
set_option maxRecDepth 65536 in
theorem w_ripe : about1.ripe theMethod args0 below0 = true := by decide +kernel
theorem w_running : about1.status = .running := rfl
set_option maxRecDepth 65536 in
theorem w_room : about1.hasRoom e0.platform room_1 = true :=
  launch0.hasRoom_least _ room_1 (by decide +kernel) (by decide +kernel) (by decide +kernel) (by decide +kernel) (by decide +kernel) (by decide +kernel)
theorem allAtoms_all (ts : List Jvm.Cond) (a : Array Jvm.Value) (st : Jvm.State) : (allAtoms ts).before a st = ts.all (fun c => c.before a st) := by
  induction ts with
  | nil => rfl
  | cons c t ih =>
    show (Jvm.Cond.and c (allAtoms t)).before a st = _
    rw [Jvm.Cond.before_and, ih, List.all_cons]
def words1 : List Jvm.Cond := Jvm.Cond.code x code maxLocals ret :: tables_1
/-- a 'code' word, met by the world's own term for the bytes: nothing is compared byte by byte -/
theorem code_word {y : MethodName} {bytes : ByteArray} {mx : Nat} {rt : Option FieldType} {a : Array Value} {s : State} {m : MethodId} {meth : Method} {c : Code} (h1 : s.methodNamed? y = some m) (h2 : s.vm.method? m = some meth) (h3 : meth.code = some c) (h4 : c.code = bytes)
    (h5 : (c.maxLocals == mx && c.exceptionTable.isEmpty && decide (c.maxStack ≤ mostOperands) && decide (meth.sig.returnType = rt) && !meth.locks && decide (parseMethodDescriptor y.desc = some meth.sig)) = true) : (Jvm.Cond.code y bytes mx rt).before a s = true := by
  simp only [Bool.and_eq_true, beq_iff_eq, Bool.not_eq_true', decide_eq_true_eq] at h5
  obtain ⟨⟨⟨⟨⟨g1, g2⟩, g3⟩, g4⟩, g5⟩, g6⟩ := h5
  simp [Cond.before, Cond.holds, Cond.value, h1, h2, h3, h4, g1, g2, g3, g4, g5, g6]
def isCode : Jvm.Cond → Bool
  | .code _ _ _ _ => true
  | _ => false
theorem all_split {L : List Jvm.Cond} {P : Jvm.Cond → Bool} (h1 : L.all (fun c => isCode c || P c) = true) (h2 : ∀ c ∈ L.filter isCode, P c = true) : L.all P = true := by
  refine List.all_eq_true.mpr fun c hc => ?_
  have h := List.all_eq_true.mp h1 c hc
  rcases Bool.eq_false_or_eq_true (isCode c) with hi | hi
  · exact h2 c (List.mem_filter.mpr ⟨hc, hi⟩)
  · simpa [hi] using h
set_option maxRecDepth 65536 in
theorem w_c0 : (Jvm.Cond.code x code maxLocals ret).before args0 about1 = true := code_word (m := ⟨1, 1⟩) (meth := k1m1) (c := k1c1) (by decide +kernel) rfl rfl rfl (by decide +kernel)
set_option maxRecDepth 65536 in
theorem w_c1 : (Jvm.Cond.code ({ cls := "com/example/westford/westford/BinaryEncoding", name := "longestText", desc := "(J)J" } : Jvm.MethodName) prog_2_method_7_code (3 : Nat) (Option.some Jvm.ClassFile.FieldType.long)).before args0 about1 = true := code_word (m := ⟨6, 0⟩) (meth := k6m0) (c := k6c0) (by decide +kernel) rfl rfl rfl (by decide +kernel)
set_option maxRecDepth 65536 in
theorem w_c2 : (Jvm.Cond.code ({ cls := "java/lang/Enum", name := "ordinal", desc := "()I" } : Jvm.MethodName) jdk_37_method_2_code (1 : Nat) (Option.some Jvm.ClassFile.FieldType.int)).before args0 about1 = true := code_word (m := ⟨5, 0⟩) (meth := k5m0) (c := k5c0) (by decide +kernel) rfl rfl rfl (by decide +kernel)
def codes1 : List Jvm.Cond := [Jvm.Cond.code x code maxLocals ret, Jvm.Cond.code ({ cls := "com/example/westford/westford/BinaryEncoding", name := "longestText", desc := "(J)J" } : Jvm.MethodName) prog_2_method_7_code (3 : Nat) (Option.some Jvm.ClassFile.FieldType.long), Jvm.Cond.code ({ cls := "java/lang/Enum", name := "ordinal", desc := "()I" } : Jvm.MethodName) jdk_37_method_2_code (1 : Nat) (Option.some Jvm.ClassFile.FieldType.int)]
set_option maxRecDepth 65536 in
theorem codes_eq : words1.filter isCode = codes1 := rfl
theorem w_codes : ∀ c ∈ words1.filter isCode, c.before args0 about1 = true := by
  rw [codes_eq]
  intro c hc
  simp only [codes1, List.mem_cons, List.not_mem_nil, or_false] at hc
  rcases hc with rfl | rfl | rfl
  · exact w_c0
  · exact w_c1
  · exact w_c2
set_option maxRecDepth 65536 in
theorem w_t1 : (words1.take 24).all (fun c => isCode c || c.before args0 about1) = true := by decide +kernel
set_option maxRecDepth 65536 in
theorem w_t2 : (words1.drop 24).all (fun c => isCode c || c.before args0 about1) = true := by decide +kernel
theorem w_tables : (allAtoms (Jvm.Cond.code x code maxLocals ret :: tables_1)).before args0 about1 = true := by
  rw [allAtoms_all]
  show words1.all (fun c => c.before args0 about1) = true
  refine all_split ?_ w_codes
  rw [← List.take_append_drop 24 words1, List.all_append, w_t1, w_t2]
  rfl
set_option maxRecDepth 65536 in
theorem w_case : (Jvm.Cond.and given_1 narrow_1).before args0 about1 = true := by decide +kernel
theorem w_applies : (headSpec (Jvm.Cond.code x code maxLocals ret :: tables_1) room_1).applies x e0.platform about1 = true :=
  (Spec.applies_iff w_frames).mpr ⟨w_running, w_runnable, w_alone, w_named, w_hears, w_ripe, w_room, w_tables⟩
theorem atStart : AtStart classFile x code maxLocals ret World_1 tables_1 room_1 Calls_1 rest_1 Pre_1 launch0 p0 e0 about1 theMethod args0 below0 :=
  ⟨lists_1, trivial, launch0.admits_env _ _ _, launch0.least_env, fairChoices_fair.cas, fairChoices_fair.clock, w_frames, w_args, w_heap, w_applies, trivial, trivial, w_case⟩
end start1
theorem witness_1 : WitnessClaimed_1 := ⟨start1.p0, start1.e0, start1.about1, start1.theMethod, start1.args0, start1.below0, start1.atStart⟩
end Jvm.Pilot.@@N@@
