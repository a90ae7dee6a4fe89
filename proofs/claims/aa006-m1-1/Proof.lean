import JvmDerived
import JvmDerived.Pilot.@@N@@Statement
import JvmDerived.Pilot.@@N@@Code
set_option linter.unusedVariables false
set_option linter.unusedSimpArgs false
namespace Jvm.RoadKit
open Sem ClassFile Op Lib Jvm.Stand Jvm.Free Jvm.LawKit
section New
variable {p : Program} {l : Launch} {e : Env} {R : Room} {s : State} {m : MethodId} {args : Array Value} {below : List Frame} {meth : Method} {c : Code} {T : State} {locs : List Loc} {cells slots : Nat}
theorem retI (X : Stand p l e R s m args below meth c T locs cells slots) (hx : p.tables.exec = Jvm.exec) {pc : Nat} {Ls : Array Slot} {z : Int32} {rest : List Value} (hret : meth.sig.returnType = some .int) (hd : decode c.code pc = .ok (.ireturn, 1)) {fs : List Frame}
    (hl : ∀ (f : JFrame) (acts : List Action), f.method = m → f.locked = none → f.entered = [] → (doReturn e (T.setTop f) acts (some (.int z))).1 = T.setFrames fs) : Steps p.tables e below (T.setTop (mkF m pc Ls (.int z :: rest))) (T.setFrames fs) := by
  have hm' : T.vm.method? m = some meth := X.method'
  have hn : narrow .int (.int z) = .int z := rfl
  show Steps p.tables e below (T.setTop { method := m, pc := pc, locals := Ls, stack := _ :: rest, locked := none }) _
  jvm_step X.here [X.here.top, hx, hd, hm', hret, hn]
  first | (intro acts; rw [hl _ acts rfl rfl rfl]) | rw [hl _ _ rfl rfl rfl]
  exact Steps.refl _
theorem own_lremM {g : JFrame} {target : State} (X : Stand p l e R s m args below meth c T locs cells slots) (hx : p.tables.exec = Jvm.exec) (hg : g.method = m) {x y : Int64} {rest : List Value} (hd : decode c.code g.pc = .ok (.lrem, 1)) (hs : g.stack = .long y :: .long x :: rest) (hy : y ≠ 0)
    (hr : Steps p.tables e below (T.setTop { g with pc := g.pc + 1, stack := .long (x % y) :: rest }) target) : Steps p.tables e below (T.setTop g) target := by
  have q : x - x / y * y = x % y := lrem_mod x y
  exact XS.lrem X.here hx hg hd hs hy (by rw [q]; exact hr)
theorem own_nz {z : Int32} (h : z = 0 ∨ z = 1) : nar .boolean z = z := by rcases h with rfl | rfl <;> rfl
theorem own_cat1 {v : Value} (h : v.isRef = true) : v.category = 1 := by rcases ref_cases h with rfl | ⟨a, rfl⟩ <;> rfl
end New
end Jvm.RoadKit
namespace Jvm.Pilot.@@N@@
open Jvm Jvm.ClassFile Sem Op Lib Jvm.Free Jvm.Stand Jvm.LawKit Jvm.RoadKit Bundle Jvm.Pilot.@@N@@.Jvm.D
def own_left (r st en lf : Int32) : Int32 := if r = (0 : Int32) then (if st = (-2147483648 : Int32) then lf else st) else (if en = (-2147483648 : Int32) then lf else en)
def own_right (r st en rt : Int32) : Int32 := if r = (0 : Int32) then (if en = (-2147483648 : Int32) then rt else en) else (if st = (-2147483648 : Int32) then rt else st)
theorem pd_1 : parseMethodDescriptor "(Z)V" = some ⟨[.boolean], none⟩ := by decide +kernel
theorem pd_0 : parseMethodDescriptor "()V" = some ⟨[], none⟩ := by decide +kernel
theorem pn_1 : plainName "com/example/frameloom/frameloom/SpacingResolvePinLaw" = true := by first | (simp [plainName, overriddenIn]; done) | decide +kernel
theorem dp46_m2_24 : decode prog_46_method_2_code 24 = .ok (.goto 7, 3) := by decide +kernel
theorem dp46_m2_21 : decode prog_46_method_2_code 21 = .ok (.getfield 12, 3) := by decide +kernel
theorem dp46_m2_20 : decode prog_46_method_2_code 20 = .ok (.aload_n 0, 1) := by decide +kernel
theorem dp46_m2_8 : decode prog_46_method_2_code 8 = .ok (.goto 7, 3) := by decide +kernel
theorem dp46_m2_5 : decode prog_46_method_2_code 5 = .ok (.getfield 16, 3) := by decide +kernel
theorem dp46_m2_4 : decode prog_46_method_2_code 4 = .ok (.aload_n 0, 1) := by decide +kernel
theorem dp46_m2_46 : decode prog_46_method_2_code 46 = .ok (.iload_n 2, 1) := by decide +kernel
theorem dp46_m2_64 : decode prog_46_method_2_code 64 = .ok (.iload_n 3, 1) := by decide +kernel
theorem dp46_m2_68 : decode prog_46_method_2_code 68 = .ok (.return_, 1) := by decide +kernel
theorem dp46_m2_65 : decode prog_46_method_2_code 65 = .ok (.putfield 28, 3) := by decide +kernel
theorem dp46_m2_61 : decode prog_46_method_2_code 61 = .ok (.goto 4, 3) := by decide +kernel
theorem dp46_m2_58 : decode prog_46_method_2_code 58 = .ok (.getfield 25, 3) := by decide +kernel
theorem dp46_m2_57 : decode prog_46_method_2_code 57 = .ok (.aload_n 0, 1) := by decide +kernel
theorem dp46_m2_54 : decode prog_46_method_2_code 54 = .ok (.if_icmp .ne 10, 3) := by decide +kernel
theorem dp46_m2_52 : decode prog_46_method_2_code 52 = .ok (.ldc 11, 2) := by decide +kernel
theorem dp46_m2_51 : decode prog_46_method_2_code 51 = .ok (.iload_n 3, 1) := by decide +kernel
theorem dp46_m2_50 : decode prog_46_method_2_code 50 = .ok (.aload_n 0, 1) := by decide +kernel
theorem dp46_m2_47 : decode prog_46_method_2_code 47 = .ok (.putfield 22, 3) := by decide +kernel
theorem dp46_m2_43 : decode prog_46_method_2_code 43 = .ok (.goto 4, 3) := by decide +kernel
theorem dp46_m2_40 : decode prog_46_method_2_code 40 = .ok (.getfield 19, 3) := by decide +kernel
theorem dp46_m2_39 : decode prog_46_method_2_code 39 = .ok (.aload_n 0, 1) := by decide +kernel
theorem dp46_m2_36 : decode prog_46_method_2_code 36 = .ok (.if_icmp .ne 10, 3) := by decide +kernel
theorem dp46_m2_34 : decode prog_46_method_2_code 34 = .ok (.ldc 11, 2) := by decide +kernel
theorem dp46_m2_33 : decode prog_46_method_2_code 33 = .ok (.iload_n 2, 1) := by decide +kernel
theorem dp46_m2_32 : decode prog_46_method_2_code 32 = .ok (.aload_n 0, 1) := by decide +kernel
theorem dp46_m2_31 : decode prog_46_method_2_code 31 = .ok (.istore_n 3, 1) := by decide +kernel
theorem dp46_m2_28 : decode prog_46_method_2_code 28 = .ok (.getfield 16, 3) := by decide +kernel
theorem dp46_m2_27 : decode prog_46_method_2_code 27 = .ok (.aload_n 0, 1) := by decide +kernel
theorem dp46_m2_17 : decode prog_46_method_2_code 17 = .ok (.ifCond .eq 10, 3) := by decide +kernel
theorem dp46_m2_16 : decode prog_46_method_2_code 16 = .ok (.iload_n 1, 1) := by decide +kernel
theorem dp46_m2_15 : decode prog_46_method_2_code 15 = .ok (.istore_n 2, 1) := by decide +kernel
theorem dp46_m2_12 : decode prog_46_method_2_code 12 = .ok (.getfield 12, 3) := by decide +kernel
theorem dp46_m2_11 : decode prog_46_method_2_code 11 = .ok (.aload_n 0, 1) := by decide +kernel
theorem dp46_m2_1 : decode prog_46_method_2_code 1 = .ok (.ifCond .eq 10, 3) := by decide +kernel
theorem dp46_m2_0 : decode prog_46_method_2_code 0 = .ok (.iload_n 1, 1) := by decide +kernel
theorem dp46_m1_16 : decode prog_46_method_1_code 16 = .ok (.return_, 1) := by decide +kernel
theorem dp46_m1_13 : decode prog_46_method_1_code 13 = .ok (.putfield 16, 3) := by decide +kernel
theorem dp46_m1_11 : decode prog_46_method_1_code 11 = .ok (.ldc 11, 2) := by decide +kernel
theorem dp46_m1_10 : decode prog_46_method_1_code 10 = .ok (.aload_n 0, 1) := by decide +kernel
theorem dp46_m1_7 : decode prog_46_method_1_code 7 = .ok (.putfield 12, 3) := by decide +kernel
theorem dp46_m1_5 : decode prog_46_method_1_code 5 = .ok (.ldc 11, 2) := by decide +kernel
theorem dp46_m1_4 : decode prog_46_method_1_code 4 = .ok (.aload_n 0, 1) := by decide +kernel
theorem dp46_m1_1 : decode prog_46_method_1_code 1 = .ok (.invokespecial 3, 3) := by decide +kernel
theorem dp46_m1_0 : decode prog_46_method_1_code 0 = .ok (.aload_n 0, 1) := by decide +kernel
theorem pn_0 : plainName "com/example/frameloom/frameloom/Spacing" = true := by first | (simp [plainName, overriddenIn]; done) | decide +kernel
theorem ef_1 (m : MethodId) (x0 : Addr) : entryFrame m #[(.ref x0)] 1 = mkF m 0 #[.val (.ref x0)] [] := by first | (simp [entryFrame, mkF, argsToLocals, Value.category]; done) | rfl
def Q1 (Z : State) (a : Addr) (h0 : Heap) (n0 : Nat) (v : Option Value) (h : Heap) (L : List Loc) : Prop := v = none ∧ Fr n0 L ∧ Keep h0 h [a] ∧ Fld Z h a "com/example/frameloom/frameloom/Spacing" "marginLeft" "I" (.int (0 : Int32)) ∧ Fld Z h a "com/example/frameloom/frameloom/Spacing" "marginRight" "I" (.int (0 : Int32)) ∧ Fld Z h a "com/example/frameloom/frameloom/Spacing" "marginTop" "I" (.int (0 : Int32)) ∧ Fld Z h a "com/example/frameloom/frameloom/Spacing" "marginStart" "I" (.int (-2147483648 : Int32)) ∧ Fld Z h a "com/example/frameloom/frameloom/Spacing" "marginEnd" "I" (.int (-2147483648 : Int32)) ∧ Fld Z h a "com/example/frameloom/frameloom/Spacing" "layoutMarginLeft" "I" (.int (0 : Int32)) ∧ Fld Z h a "com/example/frameloom/frameloom/Spacing" "layoutMarginRight" "I" (.int (0 : Int32))
set_option maxRecDepth 65536 in
set_option maxHeartbeats 40000000 in
theorem rm1 (l : Launch) (Z : State) (a0 : Array Value) (hw : ∀ d ∈ tables_1, d.before a0 Z = true) (ws : List Jvm.Cond) (a : Addr) (h0 : Heap) (n0 : Nat) (Z0 : n0 ≤ h0.size) (EE : Exa Z h0 a "com/example/frameloom/frameloom/Spacing") (ga : n0 ≤ a) (F_marginLeft : Fld Z h0 a "com/example/frameloom/frameloom/Spacing" "marginLeft" "I" (.int (0 : Int32))) (F_marginRight : Fld Z h0 a "com/example/frameloom/frameloom/Spacing" "marginRight" "I" (.int (0 : Int32))) (F_marginTop : Fld Z h0 a "com/example/frameloom/frameloom/Spacing" "marginTop" "I" (.int (0 : Int32))) (F_marginStart : Fld Z h0 a "com/example/frameloom/frameloom/Spacing" "marginStart" "I" (.int (0 : Int32))) (F_marginEnd : Fld Z h0 a "com/example/frameloom/frameloom/Spacing" "marginEnd" "I" (.int (0 : Int32))) (F_layoutMarginLeft : Fld Z h0 a "com/example/frameloom/frameloom/Spacing" "layoutMarginLeft" "I" (.int (0 : Int32))) (F_layoutMarginRight : Fld Z h0 a "com/example/frameloom/frameloom/Spacing" "layoutMarginRight" "I" (.int (0 : Int32))) :
    MetFree l (⟨"com/example/frameloom/frameloom/Spacing", "<init>", "()V"⟩ : MethodName) (head1 (Jvm.Cond.code (⟨"com/example/frameloom/frameloom/Spacing", "<init>", "()V"⟩ : MethodName) prog_46_method_1_code 1 none :: ws) ({ frames := 1, cells := 0, slots := 0, locals := 12 } : Room)) (fun A_ U => A_ = #[(.ref a)] ∧ Z.Warmed39 U.vm ∧ U.heap = h0) (fun _ _ _ _ _ => True) (fun _ U o U' => ∃ v L, o = .returned v ∧ Q1 Z a h0 n0 v U'.heap L ∧ FrameEnd U o U' L ({ frames := 1, cells := 0, slots := 0, locals := 12 } : Room).cells ({ frames := 1, cells := 0, slots := 0, locals := 12 } : Room).slots) := by
  refine MetFree.of_bodySF (plainFor_of_name pn_0) hisR ?_
  intro p e s m args below meth c s₁ Bd hml0 hP hK
  obtain ⟨rfl, hZ, hh⟩ := hP
  have hx := Bd.exec
  have hby := Bd.bytes
  have hml : c.maxLocals = 1 := hml0
  have hown : s.vm.findClass "com/example/frameloom/frameloom/Spacing" = some m.cls := findClass_of_methodNamed Bd.named
  have hnm := (name_of_methodNamed Bd.named Bd.method).1
  have X0 : Stand p l e ({ frames := 1, cells := 0, slots := 0, locals := 12 } : Room) s m #[(.ref a)] below meth c s₁ [] 0 0 := Stand.of_body Bd
  have e0 : s₁.heap = h0 := by rw [← hh, Bd.state]; rfl
  have N0 := Fr.nil n0
  have k0 : ∀ t, Steps p.tables e below (s₁.setTop (mkF m 0 #[.val (.ref a)] [])) t → Steps p.tables e below (s₁.setTop (entryFrame m #[(.ref a)] 1)) t := fun t k => castTop (ef_1 m a) k
  have k1 : ∀ t, Steps p.tables e below (s₁.setTop (mkF m 1 #[.val (.ref a)] [(.ref a)])) t → Steps p.tables e below (s₁.setTop (entryFrame m #[(.ref a)] 1)) t := by
    intro t k
    refine k0 _ ?_
    show Steps p.tables e below (s₁.setTop (mkF m 0 #[.val (.ref a)] [])) _
    refine XS.aloadN X0.here hx rfl (hb hby dp46_m1_0) rfl rfl ?_
    show Steps p.tables e below (s₁.setTop (mkF m 1 #[.val (.ref a)] [(.ref a)])) _
    exact k
  obtain ⟨T2, X2, e2, st2⟩ := initO X0 hx hZ hown (hw _ (List.mem_of_getElem? (i := 7) rfl)) (hw _ (List.mem_of_getElem? (i := 8) rfl)) (hw _ (List.mem_of_getElem? (i := 9) rfl)) e0 (g := (mkF m 1 #[.val (.ref a)] [(.ref a)])) rfl (by rw [hml]; rfl) rfl (hb hby dp46_m1_1) (by decide) (W := 0) (by show 2 * 0 + _ ≤ _; exact Nat.le_of_eq rfl) (by decide)
  have k2 : ∀ t, Steps p.tables e below (T2.setTop (mkF m 4 #[.val (.ref a)] [])) t → Steps p.tables e below (s₁.setTop (entryFrame m #[(.ref a)] 1)) t := fun t k => k1 t (st2 _ k)
  have k3 : ∀ t, Steps p.tables e below (T2.setTop (mkF m 7 #[.val (.ref a)] [(.int (-2147483648 : Int32)), (.ref a)])) t → Steps p.tables e below (s₁.setTop (entryFrame m #[(.ref a)] 1)) t := by
    intro t k
    refine k2 _ ?_
    show Steps p.tables e below (T2.setTop (mkF m 4 #[.val (.ref a)] [])) _
    refine XS.aloadN X2.here hx rfl (hb hby dp46_m1_4) rfl rfl ?_
    show Steps p.tables e below (T2.setTop (mkF m 5 #[.val (.ref a)] [(.ref a)])) _
    refine X2.ldcInt hx hown (mvT hZ (hw _ (List.mem_of_getElem? (i := 10) rfl))) (g := (mkF m 5 #[.val (.ref a)] [(.ref a)])) rfl (hb hby dp46_m1_5) _ ?_
    show Steps p.tables e below (T2.setTop (mkF m 7 #[.val (.ref a)] [(.int (-2147483648 : Int32)), (.ref a)])) _
    exact k
  obtain ⟨T4, h4, X4, e4, W4, st4⟩ := putF X2 hx hZ hown (host := "") (Or.inl (hw _ (List.mem_of_getElem? (i := 11) rfl))) Via.refl e2 F_marginStart EE (Or.inl (hw _ (List.mem_of_getElem? (i := 12) rfl))) (hw _ (List.mem_of_getElem? (i := 2) rfl)) (ty := .int) (by decide) rfl rfl (g := (mkF m 7 #[.val (.ref a)] [(.int (-2147483648 : Int32)), (.ref a)])) rfl rfl (hb hby dp46_m1_7)
  have N4 := Fr.snoc X4 N0 ga
  have Fw4 := F_marginStart.same W4
  have k4 : ∀ t, Steps p.tables e below (T4.setTop (mkF m 10 #[.val (.ref a)] [])) t → Steps p.tables e below (s₁.setTop (entryFrame m #[(.ref a)] 1)) t := fun t k => k3 t (st4 _ k)
  have Z5 : n0 ≤ h4.size := Nat.le_trans Z0 (Keep.of_wr W4).1
  have k6 : ∀ t, Steps p.tables e below (T4.setTop (mkF m 13 #[.val (.ref a)] [(.int (-2147483648 : Int32)), (.ref a)])) t → Steps p.tables e below (s₁.setTop (entryFrame m #[(.ref a)] 1)) t := by
    intro t k
    refine k4 _ ?_
    show Steps p.tables e below (T4.setTop (mkF m 10 #[.val (.ref a)] [])) _
    refine XS.aloadN X4.here hx rfl (hb hby dp46_m1_10) rfl rfl ?_
    show Steps p.tables e below (T4.setTop (mkF m 11 #[.val (.ref a)] [(.ref a)])) _
    refine X4.ldcInt hx hown (mvT hZ (hw _ (List.mem_of_getElem? (i := 10) rfl))) (g := (mkF m 11 #[.val (.ref a)] [(.ref a)])) rfl (hb hby dp46_m1_11) _ ?_
    show Steps p.tables e below (T4.setTop (mkF m 13 #[.val (.ref a)] [(.int (-2147483648 : Int32)), (.ref a)])) _
    exact k
  have f8 := (F_marginEnd.other W4 (Or.inr (slot_ne (Or.inl (hw _ (List.mem_of_getElem? (i := 14) rfl))) (Or.inl (hw _ (List.mem_of_getElem? (i := 12) rfl))) (by decide) (t := .int) (t' := .int) (by decide) (by decide))))
  have f9 := (EE.wr W4)
  obtain ⟨T7, h7, X7, e7, W7, st7⟩ := putF X4 hx hZ hown (host := "") (Or.inl (hw _ (List.mem_of_getElem? (i := 13) rfl))) Via.refl e4 f8 f9 (Or.inl (hw _ (List.mem_of_getElem? (i := 14) rfl))) (hw _ (List.mem_of_getElem? (i := 2) rfl)) (ty := .int) (by decide) rfl rfl (g := (mkF m 13 #[.val (.ref a)] [(.int (-2147483648 : Int32)), (.ref a)])) rfl rfl (hb hby dp46_m1_13)
  have N7 := Fr.snoc X7 N4 ga
  have Fw7 := f8.same W7
  have k7 : ∀ t, Steps p.tables e below (T7.setTop (mkF m 16 #[.val (.ref a)] [])) t → Steps p.tables e below (s₁.setTop (entryFrame m #[(.ref a)] 1)) t := fun t k => k6 t (st7 _ k)
  have Z10 : n0 ≤ h7.size := Nat.le_trans Z5 (Keep.of_wr W7).1
  have kp11 : Keep h0 h7 [a] := (((Keep.refl h0 [a]).wr W4 (Or.inl (List.mem_of_getElem? (i := 0) rfl))).wr W7 (Or.inl (List.mem_of_getElem? (i := 0) rfl)))
  have f12 := ((F_marginLeft.other W4 (Or.inr (slot_ne (Or.inl (hw _ (List.mem_of_getElem? (i := 16) rfl))) (Or.inl (hw _ (List.mem_of_getElem? (i := 12) rfl))) (by decide) (t := .int) (t' := .int) (by decide) (by decide)))).other W7 (Or.inr (slot_ne (Or.inl (hw _ (List.mem_of_getElem? (i := 16) rfl))) (Or.inl (hw _ (List.mem_of_getElem? (i := 14) rfl))) (by decide) (t := .int) (t' := .int) (by decide) (by decide))))
  have f13 := ((F_marginRight.other W4 (Or.inr (slot_ne (Or.inl (hw _ (List.mem_of_getElem? (i := 18) rfl))) (Or.inl (hw _ (List.mem_of_getElem? (i := 12) rfl))) (by decide) (t := .int) (t' := .int) (by decide) (by decide)))).other W7 (Or.inr (slot_ne (Or.inl (hw _ (List.mem_of_getElem? (i := 18) rfl))) (Or.inl (hw _ (List.mem_of_getElem? (i := 14) rfl))) (by decide) (t := .int) (t' := .int) (by decide) (by decide))))
  have f14 := ((F_marginTop.other W4 (Or.inr (slot_ne (Or.inl (hw _ (List.mem_of_getElem? (i := 20) rfl))) (Or.inl (hw _ (List.mem_of_getElem? (i := 12) rfl))) (by decide) (t := .int) (t' := .int) (by decide) (by decide)))).other W7 (Or.inr (slot_ne (Or.inl (hw _ (List.mem_of_getElem? (i := 20) rfl))) (Or.inl (hw _ (List.mem_of_getElem? (i := 14) rfl))) (by decide) (t := .int) (t' := .int) (by decide) (by decide))))
  have f15 := (Fw4.other W7 (Or.inr (slot_ne (Or.inl (hw _ (List.mem_of_getElem? (i := 12) rfl))) (Or.inl (hw _ (List.mem_of_getElem? (i := 14) rfl))) (by decide) (t := .int) (t' := .int) (by decide) (by decide))))
  have f16 := ((F_layoutMarginLeft.other W4 (Or.inr (slot_ne (Or.inl (hw _ (List.mem_of_getElem? (i := 29) rfl))) (Or.inl (hw _ (List.mem_of_getElem? (i := 12) rfl))) (by decide) (t := .int) (t' := .int) (by decide) (by decide)))).other W7 (Or.inr (slot_ne (Or.inl (hw _ (List.mem_of_getElem? (i := 29) rfl))) (Or.inl (hw _ (List.mem_of_getElem? (i := 14) rfl))) (by decide) (t := .int) (t' := .int) (by decide) (by decide))))
  have f17 := ((F_layoutMarginRight.other W4 (Or.inr (slot_ne (Or.inl (hw _ (List.mem_of_getElem? (i := 32) rfl))) (Or.inl (hw _ (List.mem_of_getElem? (i := 12) rfl))) (by decide) (t := .int) (t' := .int) (by decide) (by decide)))).other W7 (Or.inr (slot_ne (Or.inl (hw _ (List.mem_of_getElem? (i := 32) rfl))) (Or.inl (hw _ (List.mem_of_getElem? (i := 14) rfl))) (by decide) (t := .int) (t' := .int) (by decide) (by decide))))
  obtain ⟨fs, hr, hrun, hended, hW, hsame⟩ := X7.leave (v := none) (fun h => rfl)
  refine ⟨_, _, k7 _ ?_, hrun, hended, _, _, rfl, ?_, ⟨_, rfl⟩, hW, hsame.mono (Nat.le_of_ble_eq_true rfl) (Nat.le_of_ble_eq_true rfl)⟩
  · exact X7.returnOut hx Bd.returns (hb hby dp46_m1_16) hr
  · show Q1 Z a h0 n0 _ T7.heap _
    rw [e7]
    exact ⟨rfl, N7, kp11, f12, f13, f14, f15, Fw7, f16, f17⟩
theorem ef_2 (m : MethodId) (x0 : Addr) (x1 : Int32) : entryFrame m #[(.ref x0), (.int x1)] 4 = mkF m 0 #[.val (.ref x0), .val (.int x1), .unset, .unset] [] := by first | (simp [entryFrame, mkF, argsToLocals, Value.category]; done) | rfl
def Q2 (Z : State) (a : Addr) (r : Int32) (x0 : Int32) (x1 : Int32) (x2 : Int32) (x3 : Int32) (x4 : Int32) (x5 : Int32) (x6 : Int32) (h0 : Heap) (n0 : Nat) (v : Option Value) (h : Heap) (L : List Loc) : Prop := v = none ∧ Fr n0 L ∧ Keep h0 h [a] ∧ Fld Z h a "com/example/frameloom/frameloom/Spacing" "marginLeft" "I" (.int x0) ∧ Fld Z h a "com/example/frameloom/frameloom/Spacing" "marginRight" "I" (.int x1) ∧ Fld Z h a "com/example/frameloom/frameloom/Spacing" "marginTop" "I" (.int x2) ∧ Fld Z h a "com/example/frameloom/frameloom/Spacing" "marginStart" "I" (.int x3) ∧ Fld Z h a "com/example/frameloom/frameloom/Spacing" "marginEnd" "I" (.int x4) ∧ Fld Z h a "com/example/frameloom/frameloom/Spacing" "layoutMarginLeft" "I" (.int (own_left r x3 x4 x0)) ∧ Fld Z h a "com/example/frameloom/frameloom/Spacing" "layoutMarginRight" "I" (.int (own_right r x3 x4 x1))
set_option maxRecDepth 65536 in
set_option maxHeartbeats 40000000 in
theorem rm2 (l : Launch) (Z : State) (a0 : Array Value) (hw : ∀ d ∈ tables_1, d.before a0 Z = true) (ws : List Jvm.Cond) (a : Addr) (r : Int32) (x0 : Int32) (x1 : Int32) (x2 : Int32) (x3 : Int32) (x4 : Int32) (x5 : Int32) (x6 : Int32) (h0 : Heap) (n0 : Nat) (Z0 : n0 ≤ h0.size) (EE : Exa Z h0 a "com/example/frameloom/frameloom/Spacing") (ga : n0 ≤ a) (F_marginLeft : Fld Z h0 a "com/example/frameloom/frameloom/Spacing" "marginLeft" "I" (.int x0)) (F_marginRight : Fld Z h0 a "com/example/frameloom/frameloom/Spacing" "marginRight" "I" (.int x1)) (F_marginTop : Fld Z h0 a "com/example/frameloom/frameloom/Spacing" "marginTop" "I" (.int x2)) (F_marginStart : Fld Z h0 a "com/example/frameloom/frameloom/Spacing" "marginStart" "I" (.int x3)) (F_marginEnd : Fld Z h0 a "com/example/frameloom/frameloom/Spacing" "marginEnd" "I" (.int x4)) (F_layoutMarginLeft : Fld Z h0 a "com/example/frameloom/frameloom/Spacing" "layoutMarginLeft" "I" (.int x5)) (F_layoutMarginRight : Fld Z h0 a "com/example/frameloom/frameloom/Spacing" "layoutMarginRight" "I" (.int x6)) :
    MetFree l (⟨"com/example/frameloom/frameloom/Spacing", "resolve", "(Z)V"⟩ : MethodName) (head1 (Jvm.Cond.code (⟨"com/example/frameloom/frameloom/Spacing", "resolve", "(Z)V"⟩ : MethodName) prog_46_method_2_code 4 none :: ws) ({ frames := 0, cells := 0, slots := 0, locals := 0 } : Room)) (fun A_ U => A_ = #[(.ref a), (.int r)] ∧ Z.Warmed39 U.vm ∧ U.heap = h0) (fun _ _ _ _ _ => True) (fun _ U o U' => ∃ v L, o = .returned v ∧ Q2 Z a r x0 x1 x2 x3 x4 x5 x6 h0 n0 v U'.heap L ∧ FrameEnd U o U' L ({ frames := 0, cells := 0, slots := 0, locals := 0 } : Room).cells ({ frames := 0, cells := 0, slots := 0, locals := 0 } : Room).slots) := by
  refine MetFree.of_bodySF (plainFor_of_name pn_0) hisR ?_
  intro p e s m args below meth c s₁ Bd hml0 hP hK
  obtain ⟨rfl, hZ, hh⟩ := hP
  have hx := Bd.exec
  have hby := Bd.bytes
  have hml : c.maxLocals = 4 := hml0
  have hown : s.vm.findClass "com/example/frameloom/frameloom/Spacing" = some m.cls := findClass_of_methodNamed Bd.named
  have hnm := (name_of_methodNamed Bd.named Bd.method).1
  have X0 : Stand p l e ({ frames := 0, cells := 0, slots := 0, locals := 0 } : Room) s m #[(.ref a), (.int r)] below meth c s₁ [] 0 0 := Stand.of_body Bd
  have e0 : s₁.heap = h0 := by rw [← hh, Bd.state]; rfl
  have N0 := Fr.nil n0
  have k0 : ∀ t, Steps p.tables e below (s₁.setTop (mkF m 0 #[.val (.ref a), .val (.int r), .unset, .unset] [])) t → Steps p.tables e below (s₁.setTop (entryFrame m #[(.ref a), (.int r)] 4)) t := fun t k => castTop (ef_2 m a r) k
  have k1 : ∀ t, Steps p.tables e below (s₁.setTop (mkF m 1 #[.val (.ref a), .val (.int r), .unset, .unset] [(.int r)])) t → Steps p.tables e below (s₁.setTop (entryFrame m #[(.ref a), (.int r)] 4)) t := by
    intro t k
    refine k0 _ ?_
    show Steps p.tables e below (s₁.setTop (mkF m 0 #[.val (.ref a), .val (.int r), .unset, .unset] [])) _
    refine XS.iloadN X0.here hx rfl (hb hby dp46_m2_0) rfl ?_
    show Steps p.tables e below (s₁.setTop (mkF m 1 #[.val (.ref a), .val (.int r), .unset, .unset] [(.int r)])) _
    exact k
  by_cases hr0 : r = (0 : Int32)
  · have k2 : ∀ t, Steps p.tables e below (s₁.setTop (mkF m 12 #[.val (.ref a), .val (.int r), .unset, .unset] [(.ref a)])) t → Steps p.tables e below (s₁.setTop (entryFrame m #[(.ref a), (.int r)] 4)) t := by
      intro t k
      refine k1 _ ?_
      show Steps p.tables e below (s₁.setTop (mkF m 1 #[.val (.ref a), .val (.int r), .unset, .unset] [(.int r)])) _
      refine XS.ifYes X0.here hx rfl (pc0 := 1) (pc' := 11) rfl (hb hby dp46_m2_1) rfl ((if0 _ _).trans (teq hr0).1) (by decide) (by decide) ?_
      show Steps p.tables e below (s₁.setTop (mkF m 11 #[.val (.ref a), .val (.int r), .unset, .unset] [])) _
      refine XS.aloadN X0.here hx rfl (hb hby dp46_m2_11) rfl rfl ?_
      show Steps p.tables e below (s₁.setTop (mkF m 12 #[.val (.ref a), .val (.int r), .unset, .unset] [(.ref a)])) _
      exact k
    obtain ⟨T3, X3, e3, st3⟩ := getF X0 hx hZ hown (host := "") (Or.inl (hw _ (List.mem_of_getElem? (i := 11) rfl))) Via.refl e0 F_marginStart (g := (mkF m 12 #[.val (.ref a), .val (.int r), .unset, .unset] [(.ref a)])) rfl rfl (hb hby dp46_m2_12)
    have k3 : ∀ t, Steps p.tables e below (T3.setTop (mkF m 15 #[.val (.ref a), .val (.int r), .unset, .unset] [(.int x3)])) t → Steps p.tables e below (s₁.setTop (entryFrame m #[(.ref a), (.int r)] 4)) t := fun t k => k2 t (st3 _ k)
    have k4 : ∀ t, Steps p.tables e below (T3.setTop (mkF m 28 #[.val (.ref a), .val (.int r), .val (.int x3), .unset] [(.ref a)])) t → Steps p.tables e below (s₁.setTop (entryFrame m #[(.ref a), (.int r)] 4)) t := by
      intro t k
      refine k3 _ ?_
      show Steps p.tables e below (T3.setTop (mkF m 15 #[.val (.ref a), .val (.int r), .unset, .unset] [(.int x3)])) _
      refine XS.istoreN X3.here hx rfl (hb hby dp46_m2_15) rfl (l' := #[.val (.ref a), .val (.int r), .val (.int x3), .unset]) rfl ?_
      show Steps p.tables e below (T3.setTop (mkF m 16 #[.val (.ref a), .val (.int r), .val (.int x3), .unset] [])) _
      refine XS.iloadN X3.here hx rfl (hb hby dp46_m2_16) rfl ?_
      show Steps p.tables e below (T3.setTop (mkF m 17 #[.val (.ref a), .val (.int r), .val (.int x3), .unset] [(.int r)])) _
      refine XS.ifYes X3.here hx rfl (pc0 := 17) (pc' := 27) rfl (hb hby dp46_m2_17) rfl ((if0 _ _).trans (teq hr0).1) (by decide) (by decide) ?_
      show Steps p.tables e below (T3.setTop (mkF m 27 #[.val (.ref a), .val (.int r), .val (.int x3), .unset] [])) _
      refine XS.aloadN X3.here hx rfl (hb hby dp46_m2_27) rfl rfl ?_
      show Steps p.tables e below (T3.setTop (mkF m 28 #[.val (.ref a), .val (.int r), .val (.int x3), .unset] [(.ref a)])) _
      exact k
    obtain ⟨T5, X5, e5, st5⟩ := getF X3 hx hZ hown (host := "") (Or.inl (hw _ (List.mem_of_getElem? (i := 13) rfl))) Via.refl e3 F_marginEnd (g := (mkF m 28 #[.val (.ref a), .val (.int r), .val (.int x3), .unset] [(.ref a)])) rfl rfl (hb hby dp46_m2_28)
    have k5 : ∀ t, Steps p.tables e below (T5.setTop (mkF m 31 #[.val (.ref a), .val (.int r), .val (.int x3), .unset] [(.int x4)])) t → Steps p.tables e below (s₁.setTop (entryFrame m #[(.ref a), (.int r)] 4)) t := fun t k => k4 t (st5 _ k)
    have k6 : ∀ t, Steps p.tables e below (T5.setTop (mkF m 36 #[.val (.ref a), .val (.int r), .val (.int x3), .val (.int x4)] [(.int (-2147483648 : Int32)), (.int x3), (.ref a)])) t → Steps p.tables e below (s₁.setTop (entryFrame m #[(.ref a), (.int r)] 4)) t := by
      intro t k
      refine k5 _ ?_
      show Steps p.tables e below (T5.setTop (mkF m 31 #[.val (.ref a), .val (.int r), .val (.int x3), .unset] [(.int x4)])) _
      refine XS.istoreN X5.here hx rfl (hb hby dp46_m2_31) rfl (l' := #[.val (.ref a), .val (.int r), .val (.int x3), .val (.int x4)]) rfl ?_
      show Steps p.tables e below (T5.setTop (mkF m 32 #[.val (.ref a), .val (.int r), .val (.int x3), .val (.int x4)] [])) _
      refine XS.aloadN X5.here hx rfl (hb hby dp46_m2_32) rfl rfl ?_
      show Steps p.tables e below (T5.setTop (mkF m 33 #[.val (.ref a), .val (.int r), .val (.int x3), .val (.int x4)] [(.ref a)])) _
      refine XS.iloadN X5.here hx rfl (hb hby dp46_m2_33) rfl ?_
      show Steps p.tables e below (T5.setTop (mkF m 34 #[.val (.ref a), .val (.int r), .val (.int x3), .val (.int x4)] [(.int x3), (.ref a)])) _
      refine X5.ldcInt hx hown (mvT hZ (hw _ (List.mem_of_getElem? (i := 10) rfl))) (g := (mkF m 34 #[.val (.ref a), .val (.int r), .val (.int x3), .val (.int x4)] [(.int x3), (.ref a)])) rfl (hb hby dp46_m2_34) _ ?_
      show Steps p.tables e below (T5.setTop (mkF m 36 #[.val (.ref a), .val (.int r), .val (.int x3), .val (.int x4)] [(.int (-2147483648 : Int32)), (.int x3), (.ref a)])) _
      exact k
    by_cases hL : x3 = (-2147483648 : Int32)
    · have k7 : ∀ t, Steps p.tables e below (T5.setTop (mkF m 40 #[.val (.ref a), .val (.int r), .val (.int x3), .val (.int x4)] [(.ref a), (.ref a)])) t → Steps p.tables e below (s₁.setTop (entryFrame m #[(.ref a), (.int r)] 4)) t := by
        intro t k
        refine k6 _ ?_
        show Steps p.tables e below (T5.setTop (mkF m 36 #[.val (.ref a), .val (.int r), .val (.int x3), .val (.int x4)] [(.int (-2147483648 : Int32)), (.int x3), (.ref a)])) _
        refine XS.icmpNo X5.here hx rfl (hb hby dp46_m2_36) rfl (teq hL).2 ?_
        show Steps p.tables e below (T5.setTop (mkF m 39 #[.val (.ref a), .val (.int r), .val (.int x3), .val (.int x4)] [(.ref a)])) _
        refine XS.aloadN X5.here hx rfl (hb hby dp46_m2_39) rfl rfl ?_
        show Steps p.tables e below (T5.setTop (mkF m 40 #[.val (.ref a), .val (.int r), .val (.int x3), .val (.int x4)] [(.ref a), (.ref a)])) _
        exact k
      obtain ⟨T8, X8, e8, st8⟩ := getF X5 hx hZ hown (host := "") (Or.inl (hw _ (List.mem_of_getElem? (i := 35) rfl))) Via.refl e5 F_marginLeft (g := (mkF m 40 #[.val (.ref a), .val (.int r), .val (.int x3), .val (.int x4)] [(.ref a), (.ref a)])) rfl rfl (hb hby dp46_m2_40)
      have k8 : ∀ t, Steps p.tables e below (T8.setTop (mkF m 43 #[.val (.ref a), .val (.int r), .val (.int x3), .val (.int x4)] [(.int x0), (.ref a)])) t → Steps p.tables e below (s₁.setTop (entryFrame m #[(.ref a), (.int r)] 4)) t := fun t k => k7 t (st8 _ k)
      have k9 : ∀ t, Steps p.tables e below (T8.setTop (mkF m 47 #[.val (.ref a), .val (.int r), .val (.int x3), .val (.int x4)] [(.int x0), (.ref a)])) t → Steps p.tables e below (s₁.setTop (entryFrame m #[(.ref a), (.int r)] 4)) t := by
        intro t k
        refine k8 _ ?_
        show Steps p.tables e below (T8.setTop (mkF m 43 #[.val (.ref a), .val (.int r), .val (.int x3), .val (.int x4)] [(.int x0), (.ref a)])) _
        refine XS.goto X8.here hx rfl (pc0 := 43) (pc' := 47) rfl (hb hby dp46_m2_43) (by decide) (by decide) ?_
        show Steps p.tables e below (T8.setTop (mkF m 47 #[.val (.ref a), .val (.int r), .val (.int x3), .val (.int x4)] [(.int x0), (.ref a)])) _
        exact k
      obtain ⟨T10, h10, X10, e10, W10, st10⟩ := putF X8 hx hZ hown (host := "") (Or.inl (hw _ (List.mem_of_getElem? (i := 28) rfl))) Via.refl e8 F_layoutMarginLeft EE (Or.inl (hw _ (List.mem_of_getElem? (i := 29) rfl))) (hw _ (List.mem_of_getElem? (i := 2) rfl)) (ty := .int) (by decide) rfl rfl (g := (mkF m 47 #[.val (.ref a), .val (.int r), .val (.int x3), .val (.int x4)] [(.int x0), (.ref a)])) rfl rfl (hb hby dp46_m2_47)
      have N10 := Fr.snoc X10 N0 ga
      have Fw10 := F_layoutMarginLeft.same W10
      have k10 : ∀ t, Steps p.tables e below (T10.setTop (mkF m 50 #[.val (.ref a), .val (.int r), .val (.int x3), .val (.int x4)] [])) t → Steps p.tables e below (s₁.setTop (entryFrame m #[(.ref a), (.int r)] 4)) t := fun t k => k9 t (st10 _ k)
      have Z11 : n0 ≤ h10.size := Nat.le_trans Z0 (Keep.of_wr W10).1
      have k12 : ∀ t, Steps p.tables e below (T10.setTop (mkF m 54 #[.val (.ref a), .val (.int r), .val (.int x3), .val (.int x4)] [(.int (-2147483648 : Int32)), (.int x4), (.ref a)])) t → Steps p.tables e below (s₁.setTop (entryFrame m #[(.ref a), (.int r)] 4)) t := by
        intro t k
        refine k10 _ ?_
        show Steps p.tables e below (T10.setTop (mkF m 50 #[.val (.ref a), .val (.int r), .val (.int x3), .val (.int x4)] [])) _
        refine XS.aloadN X10.here hx rfl (hb hby dp46_m2_50) rfl rfl ?_
        show Steps p.tables e below (T10.setTop (mkF m 51 #[.val (.ref a), .val (.int r), .val (.int x3), .val (.int x4)] [(.ref a)])) _
        refine XS.iloadN X10.here hx rfl (hb hby dp46_m2_51) rfl ?_
        show Steps p.tables e below (T10.setTop (mkF m 52 #[.val (.ref a), .val (.int r), .val (.int x3), .val (.int x4)] [(.int x4), (.ref a)])) _
        refine X10.ldcInt hx hown (mvT hZ (hw _ (List.mem_of_getElem? (i := 10) rfl))) (g := (mkF m 52 #[.val (.ref a), .val (.int r), .val (.int x3), .val (.int x4)] [(.int x4), (.ref a)])) rfl (hb hby dp46_m2_52) _ ?_
        show Steps p.tables e below (T10.setTop (mkF m 54 #[.val (.ref a), .val (.int r), .val (.int x3), .val (.int x4)] [(.int (-2147483648 : Int32)), (.int x4), (.ref a)])) _
        exact k
      by_cases hR : x4 = (-2147483648 : Int32)
      · have k13 : ∀ t, Steps p.tables e below (T10.setTop (mkF m 58 #[.val (.ref a), .val (.int r), .val (.int x3), .val (.int x4)] [(.ref a), (.ref a)])) t → Steps p.tables e below (s₁.setTop (entryFrame m #[(.ref a), (.int r)] 4)) t := by
          intro t k
          refine k12 _ ?_
          show Steps p.tables e below (T10.setTop (mkF m 54 #[.val (.ref a), .val (.int r), .val (.int x3), .val (.int x4)] [(.int (-2147483648 : Int32)), (.int x4), (.ref a)])) _
          refine XS.icmpNo X10.here hx rfl (hb hby dp46_m2_54) rfl (teq hR).2 ?_
          show Steps p.tables e below (T10.setTop (mkF m 57 #[.val (.ref a), .val (.int r), .val (.int x3), .val (.int x4)] [(.ref a)])) _
          refine XS.aloadN X10.here hx rfl (hb hby dp46_m2_57) rfl rfl ?_
          show Steps p.tables e below (T10.setTop (mkF m 58 #[.val (.ref a), .val (.int r), .val (.int x3), .val (.int x4)] [(.ref a), (.ref a)])) _
          exact k
        have f15 := (F_marginRight.other W10 (Or.inr (slot_ne (Or.inl (hw _ (List.mem_of_getElem? (i := 18) rfl))) (Or.inl (hw _ (List.mem_of_getElem? (i := 29) rfl))) (by decide) (t := .int) (t' := .int) (by decide) (by decide))))
        obtain ⟨T14, X14, e14, st14⟩ := getF X10 hx hZ hown (host := "") (Or.inl (hw _ (List.mem_of_getElem? (i := 30) rfl))) Via.refl e10 f15 (g := (mkF m 58 #[.val (.ref a), .val (.int r), .val (.int x3), .val (.int x4)] [(.ref a), (.ref a)])) rfl rfl (hb hby dp46_m2_58)
        have k14 : ∀ t, Steps p.tables e below (T14.setTop (mkF m 61 #[.val (.ref a), .val (.int r), .val (.int x3), .val (.int x4)] [(.int x1), (.ref a)])) t → Steps p.tables e below (s₁.setTop (entryFrame m #[(.ref a), (.int r)] 4)) t := fun t k => k13 t (st14 _ k)
        have k16 : ∀ t, Steps p.tables e below (T14.setTop (mkF m 65 #[.val (.ref a), .val (.int r), .val (.int x3), .val (.int x4)] [(.int x1), (.ref a)])) t → Steps p.tables e below (s₁.setTop (entryFrame m #[(.ref a), (.int r)] 4)) t := by
          intro t k
          refine k14 _ ?_
          show Steps p.tables e below (T14.setTop (mkF m 61 #[.val (.ref a), .val (.int r), .val (.int x3), .val (.int x4)] [(.int x1), (.ref a)])) _
          refine XS.goto X14.here hx rfl (pc0 := 61) (pc' := 65) rfl (hb hby dp46_m2_61) (by decide) (by decide) ?_
          show Steps p.tables e below (T14.setTop (mkF m 65 #[.val (.ref a), .val (.int r), .val (.int x3), .val (.int x4)] [(.int x1), (.ref a)])) _
          exact k
        have f18 := (F_layoutMarginRight.other W10 (Or.inr (slot_ne (Or.inl (hw _ (List.mem_of_getElem? (i := 32) rfl))) (Or.inl (hw _ (List.mem_of_getElem? (i := 29) rfl))) (by decide) (t := .int) (t' := .int) (by decide) (by decide))))
        have f19 := (EE.wr W10)
        obtain ⟨T17, h17, X17, e17, W17, st17⟩ := putF X14 hx hZ hown (host := "") (Or.inl (hw _ (List.mem_of_getElem? (i := 31) rfl))) Via.refl e14 f18 f19 (Or.inl (hw _ (List.mem_of_getElem? (i := 32) rfl))) (hw _ (List.mem_of_getElem? (i := 2) rfl)) (ty := .int) (by decide) rfl rfl (g := (mkF m 65 #[.val (.ref a), .val (.int r), .val (.int x3), .val (.int x4)] [(.int x1), (.ref a)])) rfl rfl (hb hby dp46_m2_65)
        have N17 := Fr.snoc X17 N10 ga
        have Fw17 := f18.same W17
        have k17 : ∀ t, Steps p.tables e below (T17.setTop (mkF m 68 #[.val (.ref a), .val (.int r), .val (.int x3), .val (.int x4)] [])) t → Steps p.tables e below (s₁.setTop (entryFrame m #[(.ref a), (.int r)] 4)) t := fun t k => k16 t (st17 _ k)
        have Z20 : n0 ≤ h17.size := Nat.le_trans Z11 (Keep.of_wr W17).1
        have f21 := ((F_marginLeft.other W10 (Or.inr (slot_ne (Or.inl (hw _ (List.mem_of_getElem? (i := 16) rfl))) (Or.inl (hw _ (List.mem_of_getElem? (i := 29) rfl))) (by decide) (t := .int) (t' := .int) (by decide) (by decide)))).other W17 (Or.inr (slot_ne (Or.inl (hw _ (List.mem_of_getElem? (i := 16) rfl))) (Or.inl (hw _ (List.mem_of_getElem? (i := 32) rfl))) (by decide) (t := .int) (t' := .int) (by decide) (by decide))))
        have f22 := (f15.other W17 (Or.inr (slot_ne (Or.inl (hw _ (List.mem_of_getElem? (i := 18) rfl))) (Or.inl (hw _ (List.mem_of_getElem? (i := 32) rfl))) (by decide) (t := .int) (t' := .int) (by decide) (by decide))))
        have f23 := ((F_marginTop.other W10 (Or.inr (slot_ne (Or.inl (hw _ (List.mem_of_getElem? (i := 20) rfl))) (Or.inl (hw _ (List.mem_of_getElem? (i := 29) rfl))) (by decide) (t := .int) (t' := .int) (by decide) (by decide)))).other W17 (Or.inr (slot_ne (Or.inl (hw _ (List.mem_of_getElem? (i := 20) rfl))) (Or.inl (hw _ (List.mem_of_getElem? (i := 32) rfl))) (by decide) (t := .int) (t' := .int) (by decide) (by decide))))
        have f24 := ((F_marginStart.other W10 (Or.inr (slot_ne (Or.inl (hw _ (List.mem_of_getElem? (i := 12) rfl))) (Or.inl (hw _ (List.mem_of_getElem? (i := 29) rfl))) (by decide) (t := .int) (t' := .int) (by decide) (by decide)))).other W17 (Or.inr (slot_ne (Or.inl (hw _ (List.mem_of_getElem? (i := 12) rfl))) (Or.inl (hw _ (List.mem_of_getElem? (i := 32) rfl))) (by decide) (t := .int) (t' := .int) (by decide) (by decide))))
        have f25 := ((F_marginEnd.other W10 (Or.inr (slot_ne (Or.inl (hw _ (List.mem_of_getElem? (i := 14) rfl))) (Or.inl (hw _ (List.mem_of_getElem? (i := 29) rfl))) (by decide) (t := .int) (t' := .int) (by decide) (by decide)))).other W17 (Or.inr (slot_ne (Or.inl (hw _ (List.mem_of_getElem? (i := 14) rfl))) (Or.inl (hw _ (List.mem_of_getElem? (i := 32) rfl))) (by decide) (t := .int) (t' := .int) (by decide) (by decide))))
        have f26 := (Fw10.other W17 (Or.inr (slot_ne (Or.inl (hw _ (List.mem_of_getElem? (i := 29) rfl))) (Or.inl (hw _ (List.mem_of_getElem? (i := 32) rfl))) (by decide) (t := .int) (t' := .int) (by decide) (by decide))))
        have q27 : (own_left r x3 x4 x0) = x0 := by simp [own_left, own_right, hr0, hL, hR]
        have q28 : (own_right r x3 x4 x1) = x1 := by simp [own_left, own_right, hr0, hL, hR]
        have kp29 : Keep h0 h17 [a] := (((Keep.refl h0 [a]).wr W10 (Or.inl (List.mem_of_getElem? (i := 0) rfl))).wr W17 (Or.inl (List.mem_of_getElem? (i := 0) rfl)))
        obtain ⟨fs, hr, hrun, hended, hW, hsame⟩ := X17.leave (v := none) (fun h => rfl)
        refine ⟨_, _, k17 _ ?_, hrun, hended, _, _, rfl, ?_, ⟨_, rfl⟩, hW, hsame.mono (Nat.le_of_ble_eq_true rfl) (Nat.le_of_ble_eq_true rfl)⟩
        · exact X17.returnOut hx Bd.returns (hb hby dp46_m2_68) hr
        · show Q2 Z a r x0 x1 x2 x3 x4 x5 x6 h0 n0 _ T17.heap _
          rw [e17]
          exact ⟨rfl, N17, kp29, f21, f22, f23, f24, f25, (by rw [q27]; exact f26), (by rw [q28]; exact Fw17)⟩
      · have k30 : ∀ t, Steps p.tables e below (T10.setTop (mkF m 65 #[.val (.ref a), .val (.int r), .val (.int x3), .val (.int x4)] [(.int x4), (.ref a)])) t → Steps p.tables e below (s₁.setTop (entryFrame m #[(.ref a), (.int r)] 4)) t := by
          intro t k
          refine k12 _ ?_
          show Steps p.tables e below (T10.setTop (mkF m 54 #[.val (.ref a), .val (.int r), .val (.int x3), .val (.int x4)] [(.int (-2147483648 : Int32)), (.int x4), (.ref a)])) _
          refine XS.icmpYes X10.here hx rfl (pc0 := 54) (pc' := 64) rfl (hb hby dp46_m2_54) rfl (feq hR).2 (by decide) (by decide) ?_
          show Steps p.tables e below (T10.setTop (mkF m 64 #[.val (.ref a), .val (.int r), .val (.int x3), .val (.int x4)] [(.ref a)])) _
          refine XS.iloadN X10.here hx rfl (hb hby dp46_m2_64) rfl ?_
          show Steps p.tables e below (T10.setTop (mkF m 65 #[.val (.ref a), .val (.int r), .val (.int x3), .val (.int x4)] [(.int x4), (.ref a)])) _
          exact k
        have f32 := (F_layoutMarginRight.other W10 (Or.inr (slot_ne (Or.inl (hw _ (List.mem_of_getElem? (i := 32) rfl))) (Or.inl (hw _ (List.mem_of_getElem? (i := 29) rfl))) (by decide) (t := .int) (t' := .int) (by decide) (by decide))))
        have f33 := (EE.wr W10)
        obtain ⟨T31, h31, X31, e31, W31, st31⟩ := putF X10 hx hZ hown (host := "") (Or.inl (hw _ (List.mem_of_getElem? (i := 31) rfl))) Via.refl e10 f32 f33 (Or.inl (hw _ (List.mem_of_getElem? (i := 32) rfl))) (hw _ (List.mem_of_getElem? (i := 2) rfl)) (ty := .int) (by decide) rfl rfl (g := (mkF m 65 #[.val (.ref a), .val (.int r), .val (.int x3), .val (.int x4)] [(.int x4), (.ref a)])) rfl rfl (hb hby dp46_m2_65)
        have N31 := Fr.snoc X31 N10 ga
        have Fw31 := f32.same W31
        have k31 : ∀ t, Steps p.tables e below (T31.setTop (mkF m 68 #[.val (.ref a), .val (.int r), .val (.int x3), .val (.int x4)] [])) t → Steps p.tables e below (s₁.setTop (entryFrame m #[(.ref a), (.int r)] 4)) t := fun t k => k30 t (st31 _ k)
        have Z34 : n0 ≤ h31.size := Nat.le_trans Z11 (Keep.of_wr W31).1
        have f35 := ((F_marginLeft.other W10 (Or.inr (slot_ne (Or.inl (hw _ (List.mem_of_getElem? (i := 16) rfl))) (Or.inl (hw _ (List.mem_of_getElem? (i := 29) rfl))) (by decide) (t := .int) (t' := .int) (by decide) (by decide)))).other W31 (Or.inr (slot_ne (Or.inl (hw _ (List.mem_of_getElem? (i := 16) rfl))) (Or.inl (hw _ (List.mem_of_getElem? (i := 32) rfl))) (by decide) (t := .int) (t' := .int) (by decide) (by decide))))
        have f36 := ((F_marginRight.other W10 (Or.inr (slot_ne (Or.inl (hw _ (List.mem_of_getElem? (i := 18) rfl))) (Or.inl (hw _ (List.mem_of_getElem? (i := 29) rfl))) (by decide) (t := .int) (t' := .int) (by decide) (by decide)))).other W31 (Or.inr (slot_ne (Or.inl (hw _ (List.mem_of_getElem? (i := 18) rfl))) (Or.inl (hw _ (List.mem_of_getElem? (i := 32) rfl))) (by decide) (t := .int) (t' := .int) (by decide) (by decide))))
        have f37 := ((F_marginTop.other W10 (Or.inr (slot_ne (Or.inl (hw _ (List.mem_of_getElem? (i := 20) rfl))) (Or.inl (hw _ (List.mem_of_getElem? (i := 29) rfl))) (by decide) (t := .int) (t' := .int) (by decide) (by decide)))).other W31 (Or.inr (slot_ne (Or.inl (hw _ (List.mem_of_getElem? (i := 20) rfl))) (Or.inl (hw _ (List.mem_of_getElem? (i := 32) rfl))) (by decide) (t := .int) (t' := .int) (by decide) (by decide))))
        have f38 := ((F_marginStart.other W10 (Or.inr (slot_ne (Or.inl (hw _ (List.mem_of_getElem? (i := 12) rfl))) (Or.inl (hw _ (List.mem_of_getElem? (i := 29) rfl))) (by decide) (t := .int) (t' := .int) (by decide) (by decide)))).other W31 (Or.inr (slot_ne (Or.inl (hw _ (List.mem_of_getElem? (i := 12) rfl))) (Or.inl (hw _ (List.mem_of_getElem? (i := 32) rfl))) (by decide) (t := .int) (t' := .int) (by decide) (by decide))))
        have f39 := ((F_marginEnd.other W10 (Or.inr (slot_ne (Or.inl (hw _ (List.mem_of_getElem? (i := 14) rfl))) (Or.inl (hw _ (List.mem_of_getElem? (i := 29) rfl))) (by decide) (t := .int) (t' := .int) (by decide) (by decide)))).other W31 (Or.inr (slot_ne (Or.inl (hw _ (List.mem_of_getElem? (i := 14) rfl))) (Or.inl (hw _ (List.mem_of_getElem? (i := 32) rfl))) (by decide) (t := .int) (t' := .int) (by decide) (by decide))))
        have f40 := (Fw10.other W31 (Or.inr (slot_ne (Or.inl (hw _ (List.mem_of_getElem? (i := 29) rfl))) (Or.inl (hw _ (List.mem_of_getElem? (i := 32) rfl))) (by decide) (t := .int) (t' := .int) (by decide) (by decide))))
        have q41 : (own_left r x3 x4 x0) = x0 := by simp [own_left, own_right, hr0, hL, hR]
        have q42 : (own_right r x3 x4 x1) = x4 := by simp [own_left, own_right, hr0, hL, hR]
        have kp43 : Keep h0 h31 [a] := (((Keep.refl h0 [a]).wr W10 (Or.inl (List.mem_of_getElem? (i := 0) rfl))).wr W31 (Or.inl (List.mem_of_getElem? (i := 0) rfl)))
        obtain ⟨fs, hr, hrun, hended, hW, hsame⟩ := X31.leave (v := none) (fun h => rfl)
        refine ⟨_, _, k31 _ ?_, hrun, hended, _, _, rfl, ?_, ⟨_, rfl⟩, hW, hsame.mono (Nat.le_of_ble_eq_true rfl) (Nat.le_of_ble_eq_true rfl)⟩
        · exact X31.returnOut hx Bd.returns (hb hby dp46_m2_68) hr
        · show Q2 Z a r x0 x1 x2 x3 x4 x5 x6 h0 n0 _ T31.heap _
          rw [e31]
          exact ⟨rfl, N31, kp43, f35, f36, f37, f38, f39, (by rw [q41]; exact f40), (by rw [q42]; exact Fw31)⟩
    · have k44 : ∀ t, Steps p.tables e below (T5.setTop (mkF m 47 #[.val (.ref a), .val (.int r), .val (.int x3), .val (.int x4)] [(.int x3), (.ref a)])) t → Steps p.tables e below (s₁.setTop (entryFrame m #[(.ref a), (.int r)] 4)) t := by
        intro t k
        refine k6 _ ?_
        show Steps p.tables e below (T5.setTop (mkF m 36 #[.val (.ref a), .val (.int r), .val (.int x3), .val (.int x4)] [(.int (-2147483648 : Int32)), (.int x3), (.ref a)])) _
        refine XS.icmpYes X5.here hx rfl (pc0 := 36) (pc' := 46) rfl (hb hby dp46_m2_36) rfl (feq hL).2 (by decide) (by decide) ?_
        show Steps p.tables e below (T5.setTop (mkF m 46 #[.val (.ref a), .val (.int r), .val (.int x3), .val (.int x4)] [(.ref a)])) _
        refine XS.iloadN X5.here hx rfl (hb hby dp46_m2_46) rfl ?_
        show Steps p.tables e below (T5.setTop (mkF m 47 #[.val (.ref a), .val (.int r), .val (.int x3), .val (.int x4)] [(.int x3), (.ref a)])) _
        exact k
      obtain ⟨T45, h45, X45, e45, W45, st45⟩ := putF X5 hx hZ hown (host := "") (Or.inl (hw _ (List.mem_of_getElem? (i := 28) rfl))) Via.refl e5 F_layoutMarginLeft EE (Or.inl (hw _ (List.mem_of_getElem? (i := 29) rfl))) (hw _ (List.mem_of_getElem? (i := 2) rfl)) (ty := .int) (by decide) rfl rfl (g := (mkF m 47 #[.val (.ref a), .val (.int r), .val (.int x3), .val (.int x4)] [(.int x3), (.ref a)])) rfl rfl (hb hby dp46_m2_47)
      have N45 := Fr.snoc X45 N0 ga
      have Fw45 := F_layoutMarginLeft.same W45
      have k45 : ∀ t, Steps p.tables e below (T45.setTop (mkF m 50 #[.val (.ref a), .val (.int r), .val (.int x3), .val (.int x4)] [])) t → Steps p.tables e below (s₁.setTop (entryFrame m #[(.ref a), (.int r)] 4)) t := fun t k => k44 t (st45 _ k)
      have Z46 : n0 ≤ h45.size := Nat.le_trans Z0 (Keep.of_wr W45).1
      have k47 : ∀ t, Steps p.tables e below (T45.setTop (mkF m 54 #[.val (.ref a), .val (.int r), .val (.int x3), .val (.int x4)] [(.int (-2147483648 : Int32)), (.int x4), (.ref a)])) t → Steps p.tables e below (s₁.setTop (entryFrame m #[(.ref a), (.int r)] 4)) t := by
        intro t k
        refine k45 _ ?_
        show Steps p.tables e below (T45.setTop (mkF m 50 #[.val (.ref a), .val (.int r), .val (.int x3), .val (.int x4)] [])) _
        refine XS.aloadN X45.here hx rfl (hb hby dp46_m2_50) rfl rfl ?_
        show Steps p.tables e below (T45.setTop (mkF m 51 #[.val (.ref a), .val (.int r), .val (.int x3), .val (.int x4)] [(.ref a)])) _
        refine XS.iloadN X45.here hx rfl (hb hby dp46_m2_51) rfl ?_
        show Steps p.tables e below (T45.setTop (mkF m 52 #[.val (.ref a), .val (.int r), .val (.int x3), .val (.int x4)] [(.int x4), (.ref a)])) _
        refine X45.ldcInt hx hown (mvT hZ (hw _ (List.mem_of_getElem? (i := 10) rfl))) (g := (mkF m 52 #[.val (.ref a), .val (.int r), .val (.int x3), .val (.int x4)] [(.int x4), (.ref a)])) rfl (hb hby dp46_m2_52) _ ?_
        show Steps p.tables e below (T45.setTop (mkF m 54 #[.val (.ref a), .val (.int r), .val (.int x3), .val (.int x4)] [(.int (-2147483648 : Int32)), (.int x4), (.ref a)])) _
        exact k
      by_cases hR : x4 = (-2147483648 : Int32)
      · have k48 : ∀ t, Steps p.tables e below (T45.setTop (mkF m 58 #[.val (.ref a), .val (.int r), .val (.int x3), .val (.int x4)] [(.ref a), (.ref a)])) t → Steps p.tables e below (s₁.setTop (entryFrame m #[(.ref a), (.int r)] 4)) t := by
          intro t k
          refine k47 _ ?_
          show Steps p.tables e below (T45.setTop (mkF m 54 #[.val (.ref a), .val (.int r), .val (.int x3), .val (.int x4)] [(.int (-2147483648 : Int32)), (.int x4), (.ref a)])) _
          refine XS.icmpNo X45.here hx rfl (hb hby dp46_m2_54) rfl (teq hR).2 ?_
          show Steps p.tables e below (T45.setTop (mkF m 57 #[.val (.ref a), .val (.int r), .val (.int x3), .val (.int x4)] [(.ref a)])) _
          refine XS.aloadN X45.here hx rfl (hb hby dp46_m2_57) rfl rfl ?_
          show Steps p.tables e below (T45.setTop (mkF m 58 #[.val (.ref a), .val (.int r), .val (.int x3), .val (.int x4)] [(.ref a), (.ref a)])) _
          exact k
        have f50 := (F_marginRight.other W45 (Or.inr (slot_ne (Or.inl (hw _ (List.mem_of_getElem? (i := 18) rfl))) (Or.inl (hw _ (List.mem_of_getElem? (i := 29) rfl))) (by decide) (t := .int) (t' := .int) (by decide) (by decide))))
        obtain ⟨T49, X49, e49, st49⟩ := getF X45 hx hZ hown (host := "") (Or.inl (hw _ (List.mem_of_getElem? (i := 30) rfl))) Via.refl e45 f50 (g := (mkF m 58 #[.val (.ref a), .val (.int r), .val (.int x3), .val (.int x4)] [(.ref a), (.ref a)])) rfl rfl (hb hby dp46_m2_58)
        have k49 : ∀ t, Steps p.tables e below (T49.setTop (mkF m 61 #[.val (.ref a), .val (.int r), .val (.int x3), .val (.int x4)] [(.int x1), (.ref a)])) t → Steps p.tables e below (s₁.setTop (entryFrame m #[(.ref a), (.int r)] 4)) t := fun t k => k48 t (st49 _ k)
        have k51 : ∀ t, Steps p.tables e below (T49.setTop (mkF m 65 #[.val (.ref a), .val (.int r), .val (.int x3), .val (.int x4)] [(.int x1), (.ref a)])) t → Steps p.tables e below (s₁.setTop (entryFrame m #[(.ref a), (.int r)] 4)) t := by
          intro t k
          refine k49 _ ?_
          show Steps p.tables e below (T49.setTop (mkF m 61 #[.val (.ref a), .val (.int r), .val (.int x3), .val (.int x4)] [(.int x1), (.ref a)])) _
          refine XS.goto X49.here hx rfl (pc0 := 61) (pc' := 65) rfl (hb hby dp46_m2_61) (by decide) (by decide) ?_
          show Steps p.tables e below (T49.setTop (mkF m 65 #[.val (.ref a), .val (.int r), .val (.int x3), .val (.int x4)] [(.int x1), (.ref a)])) _
          exact k
        have f53 := (F_layoutMarginRight.other W45 (Or.inr (slot_ne (Or.inl (hw _ (List.mem_of_getElem? (i := 32) rfl))) (Or.inl (hw _ (List.mem_of_getElem? (i := 29) rfl))) (by decide) (t := .int) (t' := .int) (by decide) (by decide))))
        have f54 := (EE.wr W45)
        obtain ⟨T52, h52, X52, e52, W52, st52⟩ := putF X49 hx hZ hown (host := "") (Or.inl (hw _ (List.mem_of_getElem? (i := 31) rfl))) Via.refl e49 f53 f54 (Or.inl (hw _ (List.mem_of_getElem? (i := 32) rfl))) (hw _ (List.mem_of_getElem? (i := 2) rfl)) (ty := .int) (by decide) rfl rfl (g := (mkF m 65 #[.val (.ref a), .val (.int r), .val (.int x3), .val (.int x4)] [(.int x1), (.ref a)])) rfl rfl (hb hby dp46_m2_65)
        have N52 := Fr.snoc X52 N45 ga
        have Fw52 := f53.same W52
        have k52 : ∀ t, Steps p.tables e below (T52.setTop (mkF m 68 #[.val (.ref a), .val (.int r), .val (.int x3), .val (.int x4)] [])) t → Steps p.tables e below (s₁.setTop (entryFrame m #[(.ref a), (.int r)] 4)) t := fun t k => k51 t (st52 _ k)
        have Z55 : n0 ≤ h52.size := Nat.le_trans Z46 (Keep.of_wr W52).1
        have f56 := ((F_marginLeft.other W45 (Or.inr (slot_ne (Or.inl (hw _ (List.mem_of_getElem? (i := 16) rfl))) (Or.inl (hw _ (List.mem_of_getElem? (i := 29) rfl))) (by decide) (t := .int) (t' := .int) (by decide) (by decide)))).other W52 (Or.inr (slot_ne (Or.inl (hw _ (List.mem_of_getElem? (i := 16) rfl))) (Or.inl (hw _ (List.mem_of_getElem? (i := 32) rfl))) (by decide) (t := .int) (t' := .int) (by decide) (by decide))))
        have f57 := (f50.other W52 (Or.inr (slot_ne (Or.inl (hw _ (List.mem_of_getElem? (i := 18) rfl))) (Or.inl (hw _ (List.mem_of_getElem? (i := 32) rfl))) (by decide) (t := .int) (t' := .int) (by decide) (by decide))))
        have f58 := ((F_marginTop.other W45 (Or.inr (slot_ne (Or.inl (hw _ (List.mem_of_getElem? (i := 20) rfl))) (Or.inl (hw _ (List.mem_of_getElem? (i := 29) rfl))) (by decide) (t := .int) (t' := .int) (by decide) (by decide)))).other W52 (Or.inr (slot_ne (Or.inl (hw _ (List.mem_of_getElem? (i := 20) rfl))) (Or.inl (hw _ (List.mem_of_getElem? (i := 32) rfl))) (by decide) (t := .int) (t' := .int) (by decide) (by decide))))
        have f59 := ((F_marginStart.other W45 (Or.inr (slot_ne (Or.inl (hw _ (List.mem_of_getElem? (i := 12) rfl))) (Or.inl (hw _ (List.mem_of_getElem? (i := 29) rfl))) (by decide) (t := .int) (t' := .int) (by decide) (by decide)))).other W52 (Or.inr (slot_ne (Or.inl (hw _ (List.mem_of_getElem? (i := 12) rfl))) (Or.inl (hw _ (List.mem_of_getElem? (i := 32) rfl))) (by decide) (t := .int) (t' := .int) (by decide) (by decide))))
        have f60 := ((F_marginEnd.other W45 (Or.inr (slot_ne (Or.inl (hw _ (List.mem_of_getElem? (i := 14) rfl))) (Or.inl (hw _ (List.mem_of_getElem? (i := 29) rfl))) (by decide) (t := .int) (t' := .int) (by decide) (by decide)))).other W52 (Or.inr (slot_ne (Or.inl (hw _ (List.mem_of_getElem? (i := 14) rfl))) (Or.inl (hw _ (List.mem_of_getElem? (i := 32) rfl))) (by decide) (t := .int) (t' := .int) (by decide) (by decide))))
        have f61 := (Fw45.other W52 (Or.inr (slot_ne (Or.inl (hw _ (List.mem_of_getElem? (i := 29) rfl))) (Or.inl (hw _ (List.mem_of_getElem? (i := 32) rfl))) (by decide) (t := .int) (t' := .int) (by decide) (by decide))))
        have q62 : (own_left r x3 x4 x0) = x3 := by simp [own_left, own_right, hr0, hL, hR]
        have q63 : (own_right r x3 x4 x1) = x1 := by simp [own_left, own_right, hr0, hL, hR]
        have kp64 : Keep h0 h52 [a] := (((Keep.refl h0 [a]).wr W45 (Or.inl (List.mem_of_getElem? (i := 0) rfl))).wr W52 (Or.inl (List.mem_of_getElem? (i := 0) rfl)))
        obtain ⟨fs, hr, hrun, hended, hW, hsame⟩ := X52.leave (v := none) (fun h => rfl)
        refine ⟨_, _, k52 _ ?_, hrun, hended, _, _, rfl, ?_, ⟨_, rfl⟩, hW, hsame.mono (Nat.le_of_ble_eq_true rfl) (Nat.le_of_ble_eq_true rfl)⟩
        · exact X52.returnOut hx Bd.returns (hb hby dp46_m2_68) hr
        · show Q2 Z a r x0 x1 x2 x3 x4 x5 x6 h0 n0 _ T52.heap _
          rw [e52]
          exact ⟨rfl, N52, kp64, f56, f57, f58, f59, f60, (by rw [q62]; exact f61), (by rw [q63]; exact Fw52)⟩
      · have k65 : ∀ t, Steps p.tables e below (T45.setTop (mkF m 65 #[.val (.ref a), .val (.int r), .val (.int x3), .val (.int x4)] [(.int x4), (.ref a)])) t → Steps p.tables e below (s₁.setTop (entryFrame m #[(.ref a), (.int r)] 4)) t := by
          intro t k
          refine k47 _ ?_
          show Steps p.tables e below (T45.setTop (mkF m 54 #[.val (.ref a), .val (.int r), .val (.int x3), .val (.int x4)] [(.int (-2147483648 : Int32)), (.int x4), (.ref a)])) _
          refine XS.icmpYes X45.here hx rfl (pc0 := 54) (pc' := 64) rfl (hb hby dp46_m2_54) rfl (feq hR).2 (by decide) (by decide) ?_
          show Steps p.tables e below (T45.setTop (mkF m 64 #[.val (.ref a), .val (.int r), .val (.int x3), .val (.int x4)] [(.ref a)])) _
          refine XS.iloadN X45.here hx rfl (hb hby dp46_m2_64) rfl ?_
          show Steps p.tables e below (T45.setTop (mkF m 65 #[.val (.ref a), .val (.int r), .val (.int x3), .val (.int x4)] [(.int x4), (.ref a)])) _
          exact k
        have f67 := (F_layoutMarginRight.other W45 (Or.inr (slot_ne (Or.inl (hw _ (List.mem_of_getElem? (i := 32) rfl))) (Or.inl (hw _ (List.mem_of_getElem? (i := 29) rfl))) (by decide) (t := .int) (t' := .int) (by decide) (by decide))))
        have f68 := (EE.wr W45)
        obtain ⟨T66, h66, X66, e66, W66, st66⟩ := putF X45 hx hZ hown (host := "") (Or.inl (hw _ (List.mem_of_getElem? (i := 31) rfl))) Via.refl e45 f67 f68 (Or.inl (hw _ (List.mem_of_getElem? (i := 32) rfl))) (hw _ (List.mem_of_getElem? (i := 2) rfl)) (ty := .int) (by decide) rfl rfl (g := (mkF m 65 #[.val (.ref a), .val (.int r), .val (.int x3), .val (.int x4)] [(.int x4), (.ref a)])) rfl rfl (hb hby dp46_m2_65)
        have N66 := Fr.snoc X66 N45 ga
        have Fw66 := f67.same W66
        have k66 : ∀ t, Steps p.tables e below (T66.setTop (mkF m 68 #[.val (.ref a), .val (.int r), .val (.int x3), .val (.int x4)] [])) t → Steps p.tables e below (s₁.setTop (entryFrame m #[(.ref a), (.int r)] 4)) t := fun t k => k65 t (st66 _ k)
        have Z69 : n0 ≤ h66.size := Nat.le_trans Z46 (Keep.of_wr W66).1
        have f70 := ((F_marginLeft.other W45 (Or.inr (slot_ne (Or.inl (hw _ (List.mem_of_getElem? (i := 16) rfl))) (Or.inl (hw _ (List.mem_of_getElem? (i := 29) rfl))) (by decide) (t := .int) (t' := .int) (by decide) (by decide)))).other W66 (Or.inr (slot_ne (Or.inl (hw _ (List.mem_of_getElem? (i := 16) rfl))) (Or.inl (hw _ (List.mem_of_getElem? (i := 32) rfl))) (by decide) (t := .int) (t' := .int) (by decide) (by decide))))
        have f71 := ((F_marginRight.other W45 (Or.inr (slot_ne (Or.inl (hw _ (List.mem_of_getElem? (i := 18) rfl))) (Or.inl (hw _ (List.mem_of_getElem? (i := 29) rfl))) (by decide) (t := .int) (t' := .int) (by decide) (by decide)))).other W66 (Or.inr (slot_ne (Or.inl (hw _ (List.mem_of_getElem? (i := 18) rfl))) (Or.inl (hw _ (List.mem_of_getElem? (i := 32) rfl))) (by decide) (t := .int) (t' := .int) (by decide) (by decide))))
        have f72 := ((F_marginTop.other W45 (Or.inr (slot_ne (Or.inl (hw _ (List.mem_of_getElem? (i := 20) rfl))) (Or.inl (hw _ (List.mem_of_getElem? (i := 29) rfl))) (by decide) (t := .int) (t' := .int) (by decide) (by decide)))).other W66 (Or.inr (slot_ne (Or.inl (hw _ (List.mem_of_getElem? (i := 20) rfl))) (Or.inl (hw _ (List.mem_of_getElem? (i := 32) rfl))) (by decide) (t := .int) (t' := .int) (by decide) (by decide))))
        have f73 := ((F_marginStart.other W45 (Or.inr (slot_ne (Or.inl (hw _ (List.mem_of_getElem? (i := 12) rfl))) (Or.inl (hw _ (List.mem_of_getElem? (i := 29) rfl))) (by decide) (t := .int) (t' := .int) (by decide) (by decide)))).other W66 (Or.inr (slot_ne (Or.inl (hw _ (List.mem_of_getElem? (i := 12) rfl))) (Or.inl (hw _ (List.mem_of_getElem? (i := 32) rfl))) (by decide) (t := .int) (t' := .int) (by decide) (by decide))))
        have f74 := ((F_marginEnd.other W45 (Or.inr (slot_ne (Or.inl (hw _ (List.mem_of_getElem? (i := 14) rfl))) (Or.inl (hw _ (List.mem_of_getElem? (i := 29) rfl))) (by decide) (t := .int) (t' := .int) (by decide) (by decide)))).other W66 (Or.inr (slot_ne (Or.inl (hw _ (List.mem_of_getElem? (i := 14) rfl))) (Or.inl (hw _ (List.mem_of_getElem? (i := 32) rfl))) (by decide) (t := .int) (t' := .int) (by decide) (by decide))))
        have f75 := (Fw45.other W66 (Or.inr (slot_ne (Or.inl (hw _ (List.mem_of_getElem? (i := 29) rfl))) (Or.inl (hw _ (List.mem_of_getElem? (i := 32) rfl))) (by decide) (t := .int) (t' := .int) (by decide) (by decide))))
        have q76 : (own_left r x3 x4 x0) = x3 := by simp [own_left, own_right, hr0, hL, hR]
        have q77 : (own_right r x3 x4 x1) = x4 := by simp [own_left, own_right, hr0, hL, hR]
        have kp78 : Keep h0 h66 [a] := (((Keep.refl h0 [a]).wr W45 (Or.inl (List.mem_of_getElem? (i := 0) rfl))).wr W66 (Or.inl (List.mem_of_getElem? (i := 0) rfl)))
        obtain ⟨fs, hr, hrun, hended, hW, hsame⟩ := X66.leave (v := none) (fun h => rfl)
        refine ⟨_, _, k66 _ ?_, hrun, hended, _, _, rfl, ?_, ⟨_, rfl⟩, hW, hsame.mono (Nat.le_of_ble_eq_true rfl) (Nat.le_of_ble_eq_true rfl)⟩
        · exact X66.returnOut hx Bd.returns (hb hby dp46_m2_68) hr
        · show Q2 Z a r x0 x1 x2 x3 x4 x5 x6 h0 n0 _ T66.heap _
          rw [e66]
          exact ⟨rfl, N66, kp78, f70, f71, f72, f73, f74, (by rw [q76]; exact f75), (by rw [q77]; exact Fw66)⟩
  · have k79 : ∀ t, Steps p.tables e below (s₁.setTop (mkF m 5 #[.val (.ref a), .val (.int r), .unset, .unset] [(.ref a)])) t → Steps p.tables e below (s₁.setTop (entryFrame m #[(.ref a), (.int r)] 4)) t := by
      intro t k
      refine k1 _ ?_
      show Steps p.tables e below (s₁.setTop (mkF m 1 #[.val (.ref a), .val (.int r), .unset, .unset] [(.int r)])) _
      refine XS.ifNo X0.here hx rfl (hb hby dp46_m2_1) rfl ((if0 _ _).trans (feq hr0).1) ?_
      show Steps p.tables e below (s₁.setTop (mkF m 4 #[.val (.ref a), .val (.int r), .unset, .unset] [])) _
      refine XS.aloadN X0.here hx rfl (hb hby dp46_m2_4) rfl rfl ?_
      show Steps p.tables e below (s₁.setTop (mkF m 5 #[.val (.ref a), .val (.int r), .unset, .unset] [(.ref a)])) _
      exact k
    obtain ⟨T80, X80, e80, st80⟩ := getF X0 hx hZ hown (host := "") (Or.inl (hw _ (List.mem_of_getElem? (i := 13) rfl))) Via.refl e0 F_marginEnd (g := (mkF m 5 #[.val (.ref a), .val (.int r), .unset, .unset] [(.ref a)])) rfl rfl (hb hby dp46_m2_5)
    have k80 : ∀ t, Steps p.tables e below (T80.setTop (mkF m 8 #[.val (.ref a), .val (.int r), .unset, .unset] [(.int x4)])) t → Steps p.tables e below (s₁.setTop (entryFrame m #[(.ref a), (.int r)] 4)) t := fun t k => k79 t (st80 _ k)
    have k81 : ∀ t, Steps p.tables e below (T80.setTop (mkF m 21 #[.val (.ref a), .val (.int r), .val (.int x4), .unset] [(.ref a)])) t → Steps p.tables e below (s₁.setTop (entryFrame m #[(.ref a), (.int r)] 4)) t := by
      intro t k
      refine k80 _ ?_
      show Steps p.tables e below (T80.setTop (mkF m 8 #[.val (.ref a), .val (.int r), .unset, .unset] [(.int x4)])) _
      refine XS.goto X80.here hx rfl (pc0 := 8) (pc' := 15) rfl (hb hby dp46_m2_8) (by decide) (by decide) ?_
      show Steps p.tables e below (T80.setTop (mkF m 15 #[.val (.ref a), .val (.int r), .unset, .unset] [(.int x4)])) _
      refine XS.istoreN X80.here hx rfl (hb hby dp46_m2_15) rfl (l' := #[.val (.ref a), .val (.int r), .val (.int x4), .unset]) rfl ?_
      show Steps p.tables e below (T80.setTop (mkF m 16 #[.val (.ref a), .val (.int r), .val (.int x4), .unset] [])) _
      refine XS.iloadN X80.here hx rfl (hb hby dp46_m2_16) rfl ?_
      show Steps p.tables e below (T80.setTop (mkF m 17 #[.val (.ref a), .val (.int r), .val (.int x4), .unset] [(.int r)])) _
      refine XS.ifNo X80.here hx rfl (hb hby dp46_m2_17) rfl ((if0 _ _).trans (feq hr0).1) ?_
      show Steps p.tables e below (T80.setTop (mkF m 20 #[.val (.ref a), .val (.int r), .val (.int x4), .unset] [])) _
      refine XS.aloadN X80.here hx rfl (hb hby dp46_m2_20) rfl rfl ?_
      show Steps p.tables e below (T80.setTop (mkF m 21 #[.val (.ref a), .val (.int r), .val (.int x4), .unset] [(.ref a)])) _
      exact k
    obtain ⟨T82, X82, e82, st82⟩ := getF X80 hx hZ hown (host := "") (Or.inl (hw _ (List.mem_of_getElem? (i := 11) rfl))) Via.refl e80 F_marginStart (g := (mkF m 21 #[.val (.ref a), .val (.int r), .val (.int x4), .unset] [(.ref a)])) rfl rfl (hb hby dp46_m2_21)
    have k82 : ∀ t, Steps p.tables e below (T82.setTop (mkF m 24 #[.val (.ref a), .val (.int r), .val (.int x4), .unset] [(.int x3)])) t → Steps p.tables e below (s₁.setTop (entryFrame m #[(.ref a), (.int r)] 4)) t := fun t k => k81 t (st82 _ k)
    have k83 : ∀ t, Steps p.tables e below (T82.setTop (mkF m 36 #[.val (.ref a), .val (.int r), .val (.int x4), .val (.int x3)] [(.int (-2147483648 : Int32)), (.int x4), (.ref a)])) t → Steps p.tables e below (s₁.setTop (entryFrame m #[(.ref a), (.int r)] 4)) t := by
      intro t k
      refine k82 _ ?_
      show Steps p.tables e below (T82.setTop (mkF m 24 #[.val (.ref a), .val (.int r), .val (.int x4), .unset] [(.int x3)])) _
      refine XS.goto X82.here hx rfl (pc0 := 24) (pc' := 31) rfl (hb hby dp46_m2_24) (by decide) (by decide) ?_
      show Steps p.tables e below (T82.setTop (mkF m 31 #[.val (.ref a), .val (.int r), .val (.int x4), .unset] [(.int x3)])) _
      refine XS.istoreN X82.here hx rfl (hb hby dp46_m2_31) rfl (l' := #[.val (.ref a), .val (.int r), .val (.int x4), .val (.int x3)]) rfl ?_
      show Steps p.tables e below (T82.setTop (mkF m 32 #[.val (.ref a), .val (.int r), .val (.int x4), .val (.int x3)] [])) _
      refine XS.aloadN X82.here hx rfl (hb hby dp46_m2_32) rfl rfl ?_
      show Steps p.tables e below (T82.setTop (mkF m 33 #[.val (.ref a), .val (.int r), .val (.int x4), .val (.int x3)] [(.ref a)])) _
      refine XS.iloadN X82.here hx rfl (hb hby dp46_m2_33) rfl ?_
      show Steps p.tables e below (T82.setTop (mkF m 34 #[.val (.ref a), .val (.int r), .val (.int x4), .val (.int x3)] [(.int x4), (.ref a)])) _
      refine X82.ldcInt hx hown (mvT hZ (hw _ (List.mem_of_getElem? (i := 10) rfl))) (g := (mkF m 34 #[.val (.ref a), .val (.int r), .val (.int x4), .val (.int x3)] [(.int x4), (.ref a)])) rfl (hb hby dp46_m2_34) _ ?_
      show Steps p.tables e below (T82.setTop (mkF m 36 #[.val (.ref a), .val (.int r), .val (.int x4), .val (.int x3)] [(.int (-2147483648 : Int32)), (.int x4), (.ref a)])) _
      exact k
    by_cases hL : x4 = (-2147483648 : Int32)
    · have k84 : ∀ t, Steps p.tables e below (T82.setTop (mkF m 40 #[.val (.ref a), .val (.int r), .val (.int x4), .val (.int x3)] [(.ref a), (.ref a)])) t → Steps p.tables e below (s₁.setTop (entryFrame m #[(.ref a), (.int r)] 4)) t := by
        intro t k
        refine k83 _ ?_
        show Steps p.tables e below (T82.setTop (mkF m 36 #[.val (.ref a), .val (.int r), .val (.int x4), .val (.int x3)] [(.int (-2147483648 : Int32)), (.int x4), (.ref a)])) _
        refine XS.icmpNo X82.here hx rfl (hb hby dp46_m2_36) rfl (teq hL).2 ?_
        show Steps p.tables e below (T82.setTop (mkF m 39 #[.val (.ref a), .val (.int r), .val (.int x4), .val (.int x3)] [(.ref a)])) _
        refine XS.aloadN X82.here hx rfl (hb hby dp46_m2_39) rfl rfl ?_
        show Steps p.tables e below (T82.setTop (mkF m 40 #[.val (.ref a), .val (.int r), .val (.int x4), .val (.int x3)] [(.ref a), (.ref a)])) _
        exact k
      obtain ⟨T85, X85, e85, st85⟩ := getF X82 hx hZ hown (host := "") (Or.inl (hw _ (List.mem_of_getElem? (i := 35) rfl))) Via.refl e82 F_marginLeft (g := (mkF m 40 #[.val (.ref a), .val (.int r), .val (.int x4), .val (.int x3)] [(.ref a), (.ref a)])) rfl rfl (hb hby dp46_m2_40)
      have k85 : ∀ t, Steps p.tables e below (T85.setTop (mkF m 43 #[.val (.ref a), .val (.int r), .val (.int x4), .val (.int x3)] [(.int x0), (.ref a)])) t → Steps p.tables e below (s₁.setTop (entryFrame m #[(.ref a), (.int r)] 4)) t := fun t k => k84 t (st85 _ k)
      have k86 : ∀ t, Steps p.tables e below (T85.setTop (mkF m 47 #[.val (.ref a), .val (.int r), .val (.int x4), .val (.int x3)] [(.int x0), (.ref a)])) t → Steps p.tables e below (s₁.setTop (entryFrame m #[(.ref a), (.int r)] 4)) t := by
        intro t k
        refine k85 _ ?_
        show Steps p.tables e below (T85.setTop (mkF m 43 #[.val (.ref a), .val (.int r), .val (.int x4), .val (.int x3)] [(.int x0), (.ref a)])) _
        refine XS.goto X85.here hx rfl (pc0 := 43) (pc' := 47) rfl (hb hby dp46_m2_43) (by decide) (by decide) ?_
        show Steps p.tables e below (T85.setTop (mkF m 47 #[.val (.ref a), .val (.int r), .val (.int x4), .val (.int x3)] [(.int x0), (.ref a)])) _
        exact k
      obtain ⟨T87, h87, X87, e87, W87, st87⟩ := putF X85 hx hZ hown (host := "") (Or.inl (hw _ (List.mem_of_getElem? (i := 28) rfl))) Via.refl e85 F_layoutMarginLeft EE (Or.inl (hw _ (List.mem_of_getElem? (i := 29) rfl))) (hw _ (List.mem_of_getElem? (i := 2) rfl)) (ty := .int) (by decide) rfl rfl (g := (mkF m 47 #[.val (.ref a), .val (.int r), .val (.int x4), .val (.int x3)] [(.int x0), (.ref a)])) rfl rfl (hb hby dp46_m2_47)
      have N87 := Fr.snoc X87 N0 ga
      have Fw87 := F_layoutMarginLeft.same W87
      have k87 : ∀ t, Steps p.tables e below (T87.setTop (mkF m 50 #[.val (.ref a), .val (.int r), .val (.int x4), .val (.int x3)] [])) t → Steps p.tables e below (s₁.setTop (entryFrame m #[(.ref a), (.int r)] 4)) t := fun t k => k86 t (st87 _ k)
      have Z88 : n0 ≤ h87.size := Nat.le_trans Z0 (Keep.of_wr W87).1
      have k89 : ∀ t, Steps p.tables e below (T87.setTop (mkF m 54 #[.val (.ref a), .val (.int r), .val (.int x4), .val (.int x3)] [(.int (-2147483648 : Int32)), (.int x3), (.ref a)])) t → Steps p.tables e below (s₁.setTop (entryFrame m #[(.ref a), (.int r)] 4)) t := by
        intro t k
        refine k87 _ ?_
        show Steps p.tables e below (T87.setTop (mkF m 50 #[.val (.ref a), .val (.int r), .val (.int x4), .val (.int x3)] [])) _
        refine XS.aloadN X87.here hx rfl (hb hby dp46_m2_50) rfl rfl ?_
        show Steps p.tables e below (T87.setTop (mkF m 51 #[.val (.ref a), .val (.int r), .val (.int x4), .val (.int x3)] [(.ref a)])) _
        refine XS.iloadN X87.here hx rfl (hb hby dp46_m2_51) rfl ?_
        show Steps p.tables e below (T87.setTop (mkF m 52 #[.val (.ref a), .val (.int r), .val (.int x4), .val (.int x3)] [(.int x3), (.ref a)])) _
        refine X87.ldcInt hx hown (mvT hZ (hw _ (List.mem_of_getElem? (i := 10) rfl))) (g := (mkF m 52 #[.val (.ref a), .val (.int r), .val (.int x4), .val (.int x3)] [(.int x3), (.ref a)])) rfl (hb hby dp46_m2_52) _ ?_
        show Steps p.tables e below (T87.setTop (mkF m 54 #[.val (.ref a), .val (.int r), .val (.int x4), .val (.int x3)] [(.int (-2147483648 : Int32)), (.int x3), (.ref a)])) _
        exact k
      by_cases hR : x3 = (-2147483648 : Int32)
      · have k90 : ∀ t, Steps p.tables e below (T87.setTop (mkF m 58 #[.val (.ref a), .val (.int r), .val (.int x4), .val (.int x3)] [(.ref a), (.ref a)])) t → Steps p.tables e below (s₁.setTop (entryFrame m #[(.ref a), (.int r)] 4)) t := by
          intro t k
          refine k89 _ ?_
          show Steps p.tables e below (T87.setTop (mkF m 54 #[.val (.ref a), .val (.int r), .val (.int x4), .val (.int x3)] [(.int (-2147483648 : Int32)), (.int x3), (.ref a)])) _
          refine XS.icmpNo X87.here hx rfl (hb hby dp46_m2_54) rfl (teq hR).2 ?_
          show Steps p.tables e below (T87.setTop (mkF m 57 #[.val (.ref a), .val (.int r), .val (.int x4), .val (.int x3)] [(.ref a)])) _
          refine XS.aloadN X87.here hx rfl (hb hby dp46_m2_57) rfl rfl ?_
          show Steps p.tables e below (T87.setTop (mkF m 58 #[.val (.ref a), .val (.int r), .val (.int x4), .val (.int x3)] [(.ref a), (.ref a)])) _
          exact k
        have f92 := (F_marginRight.other W87 (Or.inr (slot_ne (Or.inl (hw _ (List.mem_of_getElem? (i := 18) rfl))) (Or.inl (hw _ (List.mem_of_getElem? (i := 29) rfl))) (by decide) (t := .int) (t' := .int) (by decide) (by decide))))
        obtain ⟨T91, X91, e91, st91⟩ := getF X87 hx hZ hown (host := "") (Or.inl (hw _ (List.mem_of_getElem? (i := 30) rfl))) Via.refl e87 f92 (g := (mkF m 58 #[.val (.ref a), .val (.int r), .val (.int x4), .val (.int x3)] [(.ref a), (.ref a)])) rfl rfl (hb hby dp46_m2_58)
        have k91 : ∀ t, Steps p.tables e below (T91.setTop (mkF m 61 #[.val (.ref a), .val (.int r), .val (.int x4), .val (.int x3)] [(.int x1), (.ref a)])) t → Steps p.tables e below (s₁.setTop (entryFrame m #[(.ref a), (.int r)] 4)) t := fun t k => k90 t (st91 _ k)
        have k93 : ∀ t, Steps p.tables e below (T91.setTop (mkF m 65 #[.val (.ref a), .val (.int r), .val (.int x4), .val (.int x3)] [(.int x1), (.ref a)])) t → Steps p.tables e below (s₁.setTop (entryFrame m #[(.ref a), (.int r)] 4)) t := by
          intro t k
          refine k91 _ ?_
          show Steps p.tables e below (T91.setTop (mkF m 61 #[.val (.ref a), .val (.int r), .val (.int x4), .val (.int x3)] [(.int x1), (.ref a)])) _
          refine XS.goto X91.here hx rfl (pc0 := 61) (pc' := 65) rfl (hb hby dp46_m2_61) (by decide) (by decide) ?_
          show Steps p.tables e below (T91.setTop (mkF m 65 #[.val (.ref a), .val (.int r), .val (.int x4), .val (.int x3)] [(.int x1), (.ref a)])) _
          exact k
        have f95 := (F_layoutMarginRight.other W87 (Or.inr (slot_ne (Or.inl (hw _ (List.mem_of_getElem? (i := 32) rfl))) (Or.inl (hw _ (List.mem_of_getElem? (i := 29) rfl))) (by decide) (t := .int) (t' := .int) (by decide) (by decide))))
        have f96 := (EE.wr W87)
        obtain ⟨T94, h94, X94, e94, W94, st94⟩ := putF X91 hx hZ hown (host := "") (Or.inl (hw _ (List.mem_of_getElem? (i := 31) rfl))) Via.refl e91 f95 f96 (Or.inl (hw _ (List.mem_of_getElem? (i := 32) rfl))) (hw _ (List.mem_of_getElem? (i := 2) rfl)) (ty := .int) (by decide) rfl rfl (g := (mkF m 65 #[.val (.ref a), .val (.int r), .val (.int x4), .val (.int x3)] [(.int x1), (.ref a)])) rfl rfl (hb hby dp46_m2_65)
        have N94 := Fr.snoc X94 N87 ga
        have Fw94 := f95.same W94
        have k94 : ∀ t, Steps p.tables e below (T94.setTop (mkF m 68 #[.val (.ref a), .val (.int r), .val (.int x4), .val (.int x3)] [])) t → Steps p.tables e below (s₁.setTop (entryFrame m #[(.ref a), (.int r)] 4)) t := fun t k => k93 t (st94 _ k)
        have Z97 : n0 ≤ h94.size := Nat.le_trans Z88 (Keep.of_wr W94).1
        have f98 := ((F_marginLeft.other W87 (Or.inr (slot_ne (Or.inl (hw _ (List.mem_of_getElem? (i := 16) rfl))) (Or.inl (hw _ (List.mem_of_getElem? (i := 29) rfl))) (by decide) (t := .int) (t' := .int) (by decide) (by decide)))).other W94 (Or.inr (slot_ne (Or.inl (hw _ (List.mem_of_getElem? (i := 16) rfl))) (Or.inl (hw _ (List.mem_of_getElem? (i := 32) rfl))) (by decide) (t := .int) (t' := .int) (by decide) (by decide))))
        have f99 := (f92.other W94 (Or.inr (slot_ne (Or.inl (hw _ (List.mem_of_getElem? (i := 18) rfl))) (Or.inl (hw _ (List.mem_of_getElem? (i := 32) rfl))) (by decide) (t := .int) (t' := .int) (by decide) (by decide))))
        have f100 := ((F_marginTop.other W87 (Or.inr (slot_ne (Or.inl (hw _ (List.mem_of_getElem? (i := 20) rfl))) (Or.inl (hw _ (List.mem_of_getElem? (i := 29) rfl))) (by decide) (t := .int) (t' := .int) (by decide) (by decide)))).other W94 (Or.inr (slot_ne (Or.inl (hw _ (List.mem_of_getElem? (i := 20) rfl))) (Or.inl (hw _ (List.mem_of_getElem? (i := 32) rfl))) (by decide) (t := .int) (t' := .int) (by decide) (by decide))))
        have f101 := ((F_marginStart.other W87 (Or.inr (slot_ne (Or.inl (hw _ (List.mem_of_getElem? (i := 12) rfl))) (Or.inl (hw _ (List.mem_of_getElem? (i := 29) rfl))) (by decide) (t := .int) (t' := .int) (by decide) (by decide)))).other W94 (Or.inr (slot_ne (Or.inl (hw _ (List.mem_of_getElem? (i := 12) rfl))) (Or.inl (hw _ (List.mem_of_getElem? (i := 32) rfl))) (by decide) (t := .int) (t' := .int) (by decide) (by decide))))
        have f102 := ((F_marginEnd.other W87 (Or.inr (slot_ne (Or.inl (hw _ (List.mem_of_getElem? (i := 14) rfl))) (Or.inl (hw _ (List.mem_of_getElem? (i := 29) rfl))) (by decide) (t := .int) (t' := .int) (by decide) (by decide)))).other W94 (Or.inr (slot_ne (Or.inl (hw _ (List.mem_of_getElem? (i := 14) rfl))) (Or.inl (hw _ (List.mem_of_getElem? (i := 32) rfl))) (by decide) (t := .int) (t' := .int) (by decide) (by decide))))
        have f103 := (Fw87.other W94 (Or.inr (slot_ne (Or.inl (hw _ (List.mem_of_getElem? (i := 29) rfl))) (Or.inl (hw _ (List.mem_of_getElem? (i := 32) rfl))) (by decide) (t := .int) (t' := .int) (by decide) (by decide))))
        have q104 : (own_left r x3 x4 x0) = x0 := by simp [own_left, own_right, hr0, hL, hR]
        have q105 : (own_right r x3 x4 x1) = x1 := by simp [own_left, own_right, hr0, hL, hR]
        have kp106 : Keep h0 h94 [a] := (((Keep.refl h0 [a]).wr W87 (Or.inl (List.mem_of_getElem? (i := 0) rfl))).wr W94 (Or.inl (List.mem_of_getElem? (i := 0) rfl)))
        obtain ⟨fs, hr, hrun, hended, hW, hsame⟩ := X94.leave (v := none) (fun h => rfl)
        refine ⟨_, _, k94 _ ?_, hrun, hended, _, _, rfl, ?_, ⟨_, rfl⟩, hW, hsame.mono (Nat.le_of_ble_eq_true rfl) (Nat.le_of_ble_eq_true rfl)⟩
        · exact X94.returnOut hx Bd.returns (hb hby dp46_m2_68) hr
        · show Q2 Z a r x0 x1 x2 x3 x4 x5 x6 h0 n0 _ T94.heap _
          rw [e94]
          exact ⟨rfl, N94, kp106, f98, f99, f100, f101, f102, (by rw [q104]; exact f103), (by rw [q105]; exact Fw94)⟩
      · have k107 : ∀ t, Steps p.tables e below (T87.setTop (mkF m 65 #[.val (.ref a), .val (.int r), .val (.int x4), .val (.int x3)] [(.int x3), (.ref a)])) t → Steps p.tables e below (s₁.setTop (entryFrame m #[(.ref a), (.int r)] 4)) t := by
          intro t k
          refine k89 _ ?_
          show Steps p.tables e below (T87.setTop (mkF m 54 #[.val (.ref a), .val (.int r), .val (.int x4), .val (.int x3)] [(.int (-2147483648 : Int32)), (.int x3), (.ref a)])) _
          refine XS.icmpYes X87.here hx rfl (pc0 := 54) (pc' := 64) rfl (hb hby dp46_m2_54) rfl (feq hR).2 (by decide) (by decide) ?_
          show Steps p.tables e below (T87.setTop (mkF m 64 #[.val (.ref a), .val (.int r), .val (.int x4), .val (.int x3)] [(.ref a)])) _
          refine XS.iloadN X87.here hx rfl (hb hby dp46_m2_64) rfl ?_
          show Steps p.tables e below (T87.setTop (mkF m 65 #[.val (.ref a), .val (.int r), .val (.int x4), .val (.int x3)] [(.int x3), (.ref a)])) _
          exact k
        have f109 := (F_layoutMarginRight.other W87 (Or.inr (slot_ne (Or.inl (hw _ (List.mem_of_getElem? (i := 32) rfl))) (Or.inl (hw _ (List.mem_of_getElem? (i := 29) rfl))) (by decide) (t := .int) (t' := .int) (by decide) (by decide))))
        have f110 := (EE.wr W87)
        obtain ⟨T108, h108, X108, e108, W108, st108⟩ := putF X87 hx hZ hown (host := "") (Or.inl (hw _ (List.mem_of_getElem? (i := 31) rfl))) Via.refl e87 f109 f110 (Or.inl (hw _ (List.mem_of_getElem? (i := 32) rfl))) (hw _ (List.mem_of_getElem? (i := 2) rfl)) (ty := .int) (by decide) rfl rfl (g := (mkF m 65 #[.val (.ref a), .val (.int r), .val (.int x4), .val (.int x3)] [(.int x3), (.ref a)])) rfl rfl (hb hby dp46_m2_65)
        have N108 := Fr.snoc X108 N87 ga
        have Fw108 := f109.same W108
        have k108 : ∀ t, Steps p.tables e below (T108.setTop (mkF m 68 #[.val (.ref a), .val (.int r), .val (.int x4), .val (.int x3)] [])) t → Steps p.tables e below (s₁.setTop (entryFrame m #[(.ref a), (.int r)] 4)) t := fun t k => k107 t (st108 _ k)
        have Z111 : n0 ≤ h108.size := Nat.le_trans Z88 (Keep.of_wr W108).1
        have f112 := ((F_marginLeft.other W87 (Or.inr (slot_ne (Or.inl (hw _ (List.mem_of_getElem? (i := 16) rfl))) (Or.inl (hw _ (List.mem_of_getElem? (i := 29) rfl))) (by decide) (t := .int) (t' := .int) (by decide) (by decide)))).other W108 (Or.inr (slot_ne (Or.inl (hw _ (List.mem_of_getElem? (i := 16) rfl))) (Or.inl (hw _ (List.mem_of_getElem? (i := 32) rfl))) (by decide) (t := .int) (t' := .int) (by decide) (by decide))))
        have f113 := ((F_marginRight.other W87 (Or.inr (slot_ne (Or.inl (hw _ (List.mem_of_getElem? (i := 18) rfl))) (Or.inl (hw _ (List.mem_of_getElem? (i := 29) rfl))) (by decide) (t := .int) (t' := .int) (by decide) (by decide)))).other W108 (Or.inr (slot_ne (Or.inl (hw _ (List.mem_of_getElem? (i := 18) rfl))) (Or.inl (hw _ (List.mem_of_getElem? (i := 32) rfl))) (by decide) (t := .int) (t' := .int) (by decide) (by decide))))
        have f114 := ((F_marginTop.other W87 (Or.inr (slot_ne (Or.inl (hw _ (List.mem_of_getElem? (i := 20) rfl))) (Or.inl (hw _ (List.mem_of_getElem? (i := 29) rfl))) (by decide) (t := .int) (t' := .int) (by decide) (by decide)))).other W108 (Or.inr (slot_ne (Or.inl (hw _ (List.mem_of_getElem? (i := 20) rfl))) (Or.inl (hw _ (List.mem_of_getElem? (i := 32) rfl))) (by decide) (t := .int) (t' := .int) (by decide) (by decide))))
        have f115 := ((F_marginStart.other W87 (Or.inr (slot_ne (Or.inl (hw _ (List.mem_of_getElem? (i := 12) rfl))) (Or.inl (hw _ (List.mem_of_getElem? (i := 29) rfl))) (by decide) (t := .int) (t' := .int) (by decide) (by decide)))).other W108 (Or.inr (slot_ne (Or.inl (hw _ (List.mem_of_getElem? (i := 12) rfl))) (Or.inl (hw _ (List.mem_of_getElem? (i := 32) rfl))) (by decide) (t := .int) (t' := .int) (by decide) (by decide))))
        have f116 := ((F_marginEnd.other W87 (Or.inr (slot_ne (Or.inl (hw _ (List.mem_of_getElem? (i := 14) rfl))) (Or.inl (hw _ (List.mem_of_getElem? (i := 29) rfl))) (by decide) (t := .int) (t' := .int) (by decide) (by decide)))).other W108 (Or.inr (slot_ne (Or.inl (hw _ (List.mem_of_getElem? (i := 14) rfl))) (Or.inl (hw _ (List.mem_of_getElem? (i := 32) rfl))) (by decide) (t := .int) (t' := .int) (by decide) (by decide))))
        have f117 := (Fw87.other W108 (Or.inr (slot_ne (Or.inl (hw _ (List.mem_of_getElem? (i := 29) rfl))) (Or.inl (hw _ (List.mem_of_getElem? (i := 32) rfl))) (by decide) (t := .int) (t' := .int) (by decide) (by decide))))
        have q118 : (own_left r x3 x4 x0) = x0 := by simp [own_left, own_right, hr0, hL, hR]
        have q119 : (own_right r x3 x4 x1) = x3 := by simp [own_left, own_right, hr0, hL, hR]
        have kp120 : Keep h0 h108 [a] := (((Keep.refl h0 [a]).wr W87 (Or.inl (List.mem_of_getElem? (i := 0) rfl))).wr W108 (Or.inl (List.mem_of_getElem? (i := 0) rfl)))
        obtain ⟨fs, hr, hrun, hended, hW, hsame⟩ := X108.leave (v := none) (fun h => rfl)
        refine ⟨_, _, k108 _ ?_, hrun, hended, _, _, rfl, ?_, ⟨_, rfl⟩, hW, hsame.mono (Nat.le_of_ble_eq_true rfl) (Nat.le_of_ble_eq_true rfl)⟩
        · exact X108.returnOut hx Bd.returns (hb hby dp46_m2_68) hr
        · show Q2 Z a r x0 x1 x2 x3 x4 x5 x6 h0 n0 _ T108.heap _
          rw [e108]
          exact ⟨rfl, N108, kp120, f112, f113, f114, f115, f116, (by rw [q118]; exact f117), (by rw [q119]; exact Fw108)⟩
    · have k121 : ∀ t, Steps p.tables e below (T82.setTop (mkF m 47 #[.val (.ref a), .val (.int r), .val (.int x4), .val (.int x3)] [(.int x4), (.ref a)])) t → Steps p.tables e below (s₁.setTop (entryFrame m #[(.ref a), (.int r)] 4)) t := by
        intro t k
        refine k83 _ ?_
        show Steps p.tables e below (T82.setTop (mkF m 36 #[.val (.ref a), .val (.int r), .val (.int x4), .val (.int x3)] [(.int (-2147483648 : Int32)), (.int x4), (.ref a)])) _
        refine XS.icmpYes X82.here hx rfl (pc0 := 36) (pc' := 46) rfl (hb hby dp46_m2_36) rfl (feq hL).2 (by decide) (by decide) ?_
        show Steps p.tables e below (T82.setTop (mkF m 46 #[.val (.ref a), .val (.int r), .val (.int x4), .val (.int x3)] [(.ref a)])) _
        refine XS.iloadN X82.here hx rfl (hb hby dp46_m2_46) rfl ?_
        show Steps p.tables e below (T82.setTop (mkF m 47 #[.val (.ref a), .val (.int r), .val (.int x4), .val (.int x3)] [(.int x4), (.ref a)])) _
        exact k
      obtain ⟨T122, h122, X122, e122, W122, st122⟩ := putF X82 hx hZ hown (host := "") (Or.inl (hw _ (List.mem_of_getElem? (i := 28) rfl))) Via.refl e82 F_layoutMarginLeft EE (Or.inl (hw _ (List.mem_of_getElem? (i := 29) rfl))) (hw _ (List.mem_of_getElem? (i := 2) rfl)) (ty := .int) (by decide) rfl rfl (g := (mkF m 47 #[.val (.ref a), .val (.int r), .val (.int x4), .val (.int x3)] [(.int x4), (.ref a)])) rfl rfl (hb hby dp46_m2_47)
      have N122 := Fr.snoc X122 N0 ga
      have Fw122 := F_layoutMarginLeft.same W122
      have k122 : ∀ t, Steps p.tables e below (T122.setTop (mkF m 50 #[.val (.ref a), .val (.int r), .val (.int x4), .val (.int x3)] [])) t → Steps p.tables e below (s₁.setTop (entryFrame m #[(.ref a), (.int r)] 4)) t := fun t k => k121 t (st122 _ k)
      have Z123 : n0 ≤ h122.size := Nat.le_trans Z0 (Keep.of_wr W122).1
      have k124 : ∀ t, Steps p.tables e below (T122.setTop (mkF m 54 #[.val (.ref a), .val (.int r), .val (.int x4), .val (.int x3)] [(.int (-2147483648 : Int32)), (.int x3), (.ref a)])) t → Steps p.tables e below (s₁.setTop (entryFrame m #[(.ref a), (.int r)] 4)) t := by
        intro t k
        refine k122 _ ?_
        show Steps p.tables e below (T122.setTop (mkF m 50 #[.val (.ref a), .val (.int r), .val (.int x4), .val (.int x3)] [])) _
        refine XS.aloadN X122.here hx rfl (hb hby dp46_m2_50) rfl rfl ?_
        show Steps p.tables e below (T122.setTop (mkF m 51 #[.val (.ref a), .val (.int r), .val (.int x4), .val (.int x3)] [(.ref a)])) _
        refine XS.iloadN X122.here hx rfl (hb hby dp46_m2_51) rfl ?_
        show Steps p.tables e below (T122.setTop (mkF m 52 #[.val (.ref a), .val (.int r), .val (.int x4), .val (.int x3)] [(.int x3), (.ref a)])) _
        refine X122.ldcInt hx hown (mvT hZ (hw _ (List.mem_of_getElem? (i := 10) rfl))) (g := (mkF m 52 #[.val (.ref a), .val (.int r), .val (.int x4), .val (.int x3)] [(.int x3), (.ref a)])) rfl (hb hby dp46_m2_52) _ ?_
        show Steps p.tables e below (T122.setTop (mkF m 54 #[.val (.ref a), .val (.int r), .val (.int x4), .val (.int x3)] [(.int (-2147483648 : Int32)), (.int x3), (.ref a)])) _
        exact k
      by_cases hR : x3 = (-2147483648 : Int32)
      · have k125 : ∀ t, Steps p.tables e below (T122.setTop (mkF m 58 #[.val (.ref a), .val (.int r), .val (.int x4), .val (.int x3)] [(.ref a), (.ref a)])) t → Steps p.tables e below (s₁.setTop (entryFrame m #[(.ref a), (.int r)] 4)) t := by
          intro t k
          refine k124 _ ?_
          show Steps p.tables e below (T122.setTop (mkF m 54 #[.val (.ref a), .val (.int r), .val (.int x4), .val (.int x3)] [(.int (-2147483648 : Int32)), (.int x3), (.ref a)])) _
          refine XS.icmpNo X122.here hx rfl (hb hby dp46_m2_54) rfl (teq hR).2 ?_
          show Steps p.tables e below (T122.setTop (mkF m 57 #[.val (.ref a), .val (.int r), .val (.int x4), .val (.int x3)] [(.ref a)])) _
          refine XS.aloadN X122.here hx rfl (hb hby dp46_m2_57) rfl rfl ?_
          show Steps p.tables e below (T122.setTop (mkF m 58 #[.val (.ref a), .val (.int r), .val (.int x4), .val (.int x3)] [(.ref a), (.ref a)])) _
          exact k
        have f127 := (F_marginRight.other W122 (Or.inr (slot_ne (Or.inl (hw _ (List.mem_of_getElem? (i := 18) rfl))) (Or.inl (hw _ (List.mem_of_getElem? (i := 29) rfl))) (by decide) (t := .int) (t' := .int) (by decide) (by decide))))
        obtain ⟨T126, X126, e126, st126⟩ := getF X122 hx hZ hown (host := "") (Or.inl (hw _ (List.mem_of_getElem? (i := 30) rfl))) Via.refl e122 f127 (g := (mkF m 58 #[.val (.ref a), .val (.int r), .val (.int x4), .val (.int x3)] [(.ref a), (.ref a)])) rfl rfl (hb hby dp46_m2_58)
        have k126 : ∀ t, Steps p.tables e below (T126.setTop (mkF m 61 #[.val (.ref a), .val (.int r), .val (.int x4), .val (.int x3)] [(.int x1), (.ref a)])) t → Steps p.tables e below (s₁.setTop (entryFrame m #[(.ref a), (.int r)] 4)) t := fun t k => k125 t (st126 _ k)
        have k128 : ∀ t, Steps p.tables e below (T126.setTop (mkF m 65 #[.val (.ref a), .val (.int r), .val (.int x4), .val (.int x3)] [(.int x1), (.ref a)])) t → Steps p.tables e below (s₁.setTop (entryFrame m #[(.ref a), (.int r)] 4)) t := by
          intro t k
          refine k126 _ ?_
          show Steps p.tables e below (T126.setTop (mkF m 61 #[.val (.ref a), .val (.int r), .val (.int x4), .val (.int x3)] [(.int x1), (.ref a)])) _
          refine XS.goto X126.here hx rfl (pc0 := 61) (pc' := 65) rfl (hb hby dp46_m2_61) (by decide) (by decide) ?_
          show Steps p.tables e below (T126.setTop (mkF m 65 #[.val (.ref a), .val (.int r), .val (.int x4), .val (.int x3)] [(.int x1), (.ref a)])) _
          exact k
        have f130 := (F_layoutMarginRight.other W122 (Or.inr (slot_ne (Or.inl (hw _ (List.mem_of_getElem? (i := 32) rfl))) (Or.inl (hw _ (List.mem_of_getElem? (i := 29) rfl))) (by decide) (t := .int) (t' := .int) (by decide) (by decide))))
        have f131 := (EE.wr W122)
        obtain ⟨T129, h129, X129, e129, W129, st129⟩ := putF X126 hx hZ hown (host := "") (Or.inl (hw _ (List.mem_of_getElem? (i := 31) rfl))) Via.refl e126 f130 f131 (Or.inl (hw _ (List.mem_of_getElem? (i := 32) rfl))) (hw _ (List.mem_of_getElem? (i := 2) rfl)) (ty := .int) (by decide) rfl rfl (g := (mkF m 65 #[.val (.ref a), .val (.int r), .val (.int x4), .val (.int x3)] [(.int x1), (.ref a)])) rfl rfl (hb hby dp46_m2_65)
        have N129 := Fr.snoc X129 N122 ga
        have Fw129 := f130.same W129
        have k129 : ∀ t, Steps p.tables e below (T129.setTop (mkF m 68 #[.val (.ref a), .val (.int r), .val (.int x4), .val (.int x3)] [])) t → Steps p.tables e below (s₁.setTop (entryFrame m #[(.ref a), (.int r)] 4)) t := fun t k => k128 t (st129 _ k)
        have Z132 : n0 ≤ h129.size := Nat.le_trans Z123 (Keep.of_wr W129).1
        have f133 := ((F_marginLeft.other W122 (Or.inr (slot_ne (Or.inl (hw _ (List.mem_of_getElem? (i := 16) rfl))) (Or.inl (hw _ (List.mem_of_getElem? (i := 29) rfl))) (by decide) (t := .int) (t' := .int) (by decide) (by decide)))).other W129 (Or.inr (slot_ne (Or.inl (hw _ (List.mem_of_getElem? (i := 16) rfl))) (Or.inl (hw _ (List.mem_of_getElem? (i := 32) rfl))) (by decide) (t := .int) (t' := .int) (by decide) (by decide))))
        have f134 := (f127.other W129 (Or.inr (slot_ne (Or.inl (hw _ (List.mem_of_getElem? (i := 18) rfl))) (Or.inl (hw _ (List.mem_of_getElem? (i := 32) rfl))) (by decide) (t := .int) (t' := .int) (by decide) (by decide))))
        have f135 := ((F_marginTop.other W122 (Or.inr (slot_ne (Or.inl (hw _ (List.mem_of_getElem? (i := 20) rfl))) (Or.inl (hw _ (List.mem_of_getElem? (i := 29) rfl))) (by decide) (t := .int) (t' := .int) (by decide) (by decide)))).other W129 (Or.inr (slot_ne (Or.inl (hw _ (List.mem_of_getElem? (i := 20) rfl))) (Or.inl (hw _ (List.mem_of_getElem? (i := 32) rfl))) (by decide) (t := .int) (t' := .int) (by decide) (by decide))))
        have f136 := ((F_marginStart.other W122 (Or.inr (slot_ne (Or.inl (hw _ (List.mem_of_getElem? (i := 12) rfl))) (Or.inl (hw _ (List.mem_of_getElem? (i := 29) rfl))) (by decide) (t := .int) (t' := .int) (by decide) (by decide)))).other W129 (Or.inr (slot_ne (Or.inl (hw _ (List.mem_of_getElem? (i := 12) rfl))) (Or.inl (hw _ (List.mem_of_getElem? (i := 32) rfl))) (by decide) (t := .int) (t' := .int) (by decide) (by decide))))
        have f137 := ((F_marginEnd.other W122 (Or.inr (slot_ne (Or.inl (hw _ (List.mem_of_getElem? (i := 14) rfl))) (Or.inl (hw _ (List.mem_of_getElem? (i := 29) rfl))) (by decide) (t := .int) (t' := .int) (by decide) (by decide)))).other W129 (Or.inr (slot_ne (Or.inl (hw _ (List.mem_of_getElem? (i := 14) rfl))) (Or.inl (hw _ (List.mem_of_getElem? (i := 32) rfl))) (by decide) (t := .int) (t' := .int) (by decide) (by decide))))
        have f138 := (Fw122.other W129 (Or.inr (slot_ne (Or.inl (hw _ (List.mem_of_getElem? (i := 29) rfl))) (Or.inl (hw _ (List.mem_of_getElem? (i := 32) rfl))) (by decide) (t := .int) (t' := .int) (by decide) (by decide))))
        have q139 : (own_left r x3 x4 x0) = x4 := by simp [own_left, own_right, hr0, hL, hR]
        have q140 : (own_right r x3 x4 x1) = x1 := by simp [own_left, own_right, hr0, hL, hR]
        have kp141 : Keep h0 h129 [a] := (((Keep.refl h0 [a]).wr W122 (Or.inl (List.mem_of_getElem? (i := 0) rfl))).wr W129 (Or.inl (List.mem_of_getElem? (i := 0) rfl)))
        obtain ⟨fs, hr, hrun, hended, hW, hsame⟩ := X129.leave (v := none) (fun h => rfl)
        refine ⟨_, _, k129 _ ?_, hrun, hended, _, _, rfl, ?_, ⟨_, rfl⟩, hW, hsame.mono (Nat.le_of_ble_eq_true rfl) (Nat.le_of_ble_eq_true rfl)⟩
        · exact X129.returnOut hx Bd.returns (hb hby dp46_m2_68) hr
        · show Q2 Z a r x0 x1 x2 x3 x4 x5 x6 h0 n0 _ T129.heap _
          rw [e129]
          exact ⟨rfl, N129, kp141, f133, f134, f135, f136, f137, (by rw [q139]; exact f138), (by rw [q140]; exact Fw129)⟩
      · have k142 : ∀ t, Steps p.tables e below (T122.setTop (mkF m 65 #[.val (.ref a), .val (.int r), .val (.int x4), .val (.int x3)] [(.int x3), (.ref a)])) t → Steps p.tables e below (s₁.setTop (entryFrame m #[(.ref a), (.int r)] 4)) t := by
          intro t k
          refine k124 _ ?_
          show Steps p.tables e below (T122.setTop (mkF m 54 #[.val (.ref a), .val (.int r), .val (.int x4), .val (.int x3)] [(.int (-2147483648 : Int32)), (.int x3), (.ref a)])) _
          refine XS.icmpYes X122.here hx rfl (pc0 := 54) (pc' := 64) rfl (hb hby dp46_m2_54) rfl (feq hR).2 (by decide) (by decide) ?_
          show Steps p.tables e below (T122.setTop (mkF m 64 #[.val (.ref a), .val (.int r), .val (.int x4), .val (.int x3)] [(.ref a)])) _
          refine XS.iloadN X122.here hx rfl (hb hby dp46_m2_64) rfl ?_
          show Steps p.tables e below (T122.setTop (mkF m 65 #[.val (.ref a), .val (.int r), .val (.int x4), .val (.int x3)] [(.int x3), (.ref a)])) _
          exact k
        have f144 := (F_layoutMarginRight.other W122 (Or.inr (slot_ne (Or.inl (hw _ (List.mem_of_getElem? (i := 32) rfl))) (Or.inl (hw _ (List.mem_of_getElem? (i := 29) rfl))) (by decide) (t := .int) (t' := .int) (by decide) (by decide))))
        have f145 := (EE.wr W122)
        obtain ⟨T143, h143, X143, e143, W143, st143⟩ := putF X122 hx hZ hown (host := "") (Or.inl (hw _ (List.mem_of_getElem? (i := 31) rfl))) Via.refl e122 f144 f145 (Or.inl (hw _ (List.mem_of_getElem? (i := 32) rfl))) (hw _ (List.mem_of_getElem? (i := 2) rfl)) (ty := .int) (by decide) rfl rfl (g := (mkF m 65 #[.val (.ref a), .val (.int r), .val (.int x4), .val (.int x3)] [(.int x3), (.ref a)])) rfl rfl (hb hby dp46_m2_65)
        have N143 := Fr.snoc X143 N122 ga
        have Fw143 := f144.same W143
        have k143 : ∀ t, Steps p.tables e below (T143.setTop (mkF m 68 #[.val (.ref a), .val (.int r), .val (.int x4), .val (.int x3)] [])) t → Steps p.tables e below (s₁.setTop (entryFrame m #[(.ref a), (.int r)] 4)) t := fun t k => k142 t (st143 _ k)
        have Z146 : n0 ≤ h143.size := Nat.le_trans Z123 (Keep.of_wr W143).1
        have f147 := ((F_marginLeft.other W122 (Or.inr (slot_ne (Or.inl (hw _ (List.mem_of_getElem? (i := 16) rfl))) (Or.inl (hw _ (List.mem_of_getElem? (i := 29) rfl))) (by decide) (t := .int) (t' := .int) (by decide) (by decide)))).other W143 (Or.inr (slot_ne (Or.inl (hw _ (List.mem_of_getElem? (i := 16) rfl))) (Or.inl (hw _ (List.mem_of_getElem? (i := 32) rfl))) (by decide) (t := .int) (t' := .int) (by decide) (by decide))))
        have f148 := ((F_marginRight.other W122 (Or.inr (slot_ne (Or.inl (hw _ (List.mem_of_getElem? (i := 18) rfl))) (Or.inl (hw _ (List.mem_of_getElem? (i := 29) rfl))) (by decide) (t := .int) (t' := .int) (by decide) (by decide)))).other W143 (Or.inr (slot_ne (Or.inl (hw _ (List.mem_of_getElem? (i := 18) rfl))) (Or.inl (hw _ (List.mem_of_getElem? (i := 32) rfl))) (by decide) (t := .int) (t' := .int) (by decide) (by decide))))
        have f149 := ((F_marginTop.other W122 (Or.inr (slot_ne (Or.inl (hw _ (List.mem_of_getElem? (i := 20) rfl))) (Or.inl (hw _ (List.mem_of_getElem? (i := 29) rfl))) (by decide) (t := .int) (t' := .int) (by decide) (by decide)))).other W143 (Or.inr (slot_ne (Or.inl (hw _ (List.mem_of_getElem? (i := 20) rfl))) (Or.inl (hw _ (List.mem_of_getElem? (i := 32) rfl))) (by decide) (t := .int) (t' := .int) (by decide) (by decide))))
        have f150 := ((F_marginStart.other W122 (Or.inr (slot_ne (Or.inl (hw _ (List.mem_of_getElem? (i := 12) rfl))) (Or.inl (hw _ (List.mem_of_getElem? (i := 29) rfl))) (by decide) (t := .int) (t' := .int) (by decide) (by decide)))).other W143 (Or.inr (slot_ne (Or.inl (hw _ (List.mem_of_getElem? (i := 12) rfl))) (Or.inl (hw _ (List.mem_of_getElem? (i := 32) rfl))) (by decide) (t := .int) (t' := .int) (by decide) (by decide))))
        have f151 := ((F_marginEnd.other W122 (Or.inr (slot_ne (Or.inl (hw _ (List.mem_of_getElem? (i := 14) rfl))) (Or.inl (hw _ (List.mem_of_getElem? (i := 29) rfl))) (by decide) (t := .int) (t' := .int) (by decide) (by decide)))).other W143 (Or.inr (slot_ne (Or.inl (hw _ (List.mem_of_getElem? (i := 14) rfl))) (Or.inl (hw _ (List.mem_of_getElem? (i := 32) rfl))) (by decide) (t := .int) (t' := .int) (by decide) (by decide))))
        have f152 := (Fw122.other W143 (Or.inr (slot_ne (Or.inl (hw _ (List.mem_of_getElem? (i := 29) rfl))) (Or.inl (hw _ (List.mem_of_getElem? (i := 32) rfl))) (by decide) (t := .int) (t' := .int) (by decide) (by decide))))
        have q153 : (own_left r x3 x4 x0) = x4 := by simp [own_left, own_right, hr0, hL, hR]
        have q154 : (own_right r x3 x4 x1) = x3 := by simp [own_left, own_right, hr0, hL, hR]
        have kp155 : Keep h0 h143 [a] := (((Keep.refl h0 [a]).wr W122 (Or.inl (List.mem_of_getElem? (i := 0) rfl))).wr W143 (Or.inl (List.mem_of_getElem? (i := 0) rfl)))
        obtain ⟨fs, hr, hrun, hended, hW, hsame⟩ := X143.leave (v := none) (fun h => rfl)
        refine ⟨_, _, k143 _ ?_, hrun, hended, _, _, rfl, ?_, ⟨_, rfl⟩, hW, hsame.mono (Nat.le_of_ble_eq_true rfl) (Nat.le_of_ble_eq_true rfl)⟩
        · exact X143.returnOut hx Bd.returns (hb hby dp46_m2_68) hr
        · show Q2 Z a r x0 x1 x2 x3 x4 x5 x6 h0 n0 _ T143.heap _
          rw [e143]
          exact ⟨rfl, N143, kp155, f147, f148, f149, f150, f151, (by rw [q153]; exact f152), (by rw [q154]; exact Fw143)⟩
theorem ef_0 (m : MethodId) (x0 : Int32) (x1 : Int32) (x2 : Int32) (x3 : Int32) (x4 : Int32) (x5 : Int32) : entryFrame m #[(.int x0), (.int x1), (.int x2), (.int x3), (.int x4), (.int x5)] maxLocals = mkF m 0 #[.val (.int x0), .val (.int x1), .val (.int x2), .val (.int x3), .val (.int x4), .val (.int x5), .unset, .unset, .unset, .unset, .unset, .unset] [] := by first | (simp [entryFrame, mkF, argsToLocals, Value.category, maxLocals]; done) | rfl
def Q0 (Z : State) (p1 : Int32) (p2 : Int32) (p3 : Int32) (p4 : Int32) (p5 : Int32) (p6 : Int32) (h0 : Heap) (n0 : Nat) (v : Option Value) (h : Heap) (L : List Loc) : Prop := v = some (.int 1) ∧ Fr n0 L
set_option maxRecDepth 65536 in
set_option maxHeartbeats 40000000 in
theorem rm0 (l : Launch) (Z : State) (a0 : Array Value) (hw : ∀ d ∈ tables_1, d.before a0 Z = true) (ws : List Jvm.Cond) (p1 : Int32) (p2 : Int32) (p3 : Int32) (p4 : Int32) (p5 : Int32) (p6 : Int32) (h0 : Heap) (n0 : Nat) (Z0 : n0 ≤ h0.size)  :
    MetFree l x (head1 (Jvm.Cond.code x code maxLocals ret :: ws) room_1) (fun A_ U => A_ = #[(.int p1), (.int p2), (.int p3), (.int p4), (.int p5), (.int p6)] ∧ Z.Warmed39 U.vm ∧ U.heap = h0) (fun _ _ _ _ _ => True) (fun _ U o U' => ∃ v L, o = .returned v ∧ Q0 Z p1 p2 p3 p4 p5 p6 h0 n0 v U'.heap L ∧ FrameEnd U o U' L 16 128) := by
  refine MetFree.of_bodySF (plainFor_of_name pn_1) hisR ?_
  intro p e s m args below meth c s₁ Bd hml0 hP hK
  obtain ⟨rfl, hZ, hh⟩ := hP
  have hx := Bd.exec
  have hby := Bd.bytes
  have hml : c.maxLocals = 12 := hml0
  have hown : s.vm.findClass "com/example/frameloom/frameloom/SpacingResolvePinLaw" = some m.cls := findClass_of_methodNamed Bd.named
  have hnm := (name_of_methodNamed Bd.named Bd.method).1
  have X0 : Stand p l e room_1 s m #[(.int p1), (.int p2), (.int p3), (.int p4), (.int p5), (.int p6)] below meth c s₁ [] 0 0 := Stand.of_body Bd
  have e0 : s₁.heap = h0 := by rw [← hh, Bd.state]; rfl
  have N0 := Fr.nil n0
  have k0 : ∀ t, Steps p.tables e below (s₁.setTop (mkF m 0 #[.val (.int p1), .val (.int p2), .val (.int p3), .val (.int p4), .val (.int p5), .val (.int p6), .unset, .unset, .unset, .unset, .unset, .unset] [])) t → Steps p.tables e below (s₁.setTop (entryFrame m #[(.int p1), (.int p2), (.int p3), (.int p4), (.int p5), (.int p6)] maxLocals)) t := fun t k => castTop (ef_0 m p1 p2 p3 p4 p5 p6) k
  obtain ⟨rt, eq_rt⟩ : ∃ z : Int32, z = (if (p6 &&& (1 : Int32)) = (0 : Int32) then (0 : Int32) else (1 : Int32)) := ⟨_, rfl⟩
  have k2 : ∀ t, Steps p.tables e below (s₁.setTop (mkF m 12 #[.val (.int p1), .val (.int p2), .val (.int p3), .val (.int p4), .val (.int p5), .val (.int p6), .unset, .unset, .unset, .unset, .unset, .unset] [(.int rt)])) t → Steps p.tables e below (s₁.setTop (entryFrame m #[(.int p1), (.int p2), (.int p3), (.int p4), (.int p5), (.int p6)] maxLocals)) t := by
    intro t k
    refine k0 _ ?_
    show Steps p.tables e below (s₁.setTop (mkF m 0 #[.val (.int p1), .val (.int p2), .val (.int p3), .val (.int p4), .val (.int p5), .val (.int p6), .unset, .unset, .unset, .unset, .unset, .unset] [])) _
    refine XS.iload X0.here hx rfl (hb hby at_0) rfl ?_
    show Steps p.tables e below (s₁.setTop (mkF m 2 #[.val (.int p1), .val (.int p2), .val (.int p3), .val (.int p4), .val (.int p5), .val (.int p6), .unset, .unset, .unset, .unset, .unset, .unset] [(.int p6)])) _
    refine XS.iconst X0.here hx rfl (hb hby at_2) ?_
    show Steps p.tables e below (s₁.setTop (mkF m 3 #[.val (.int p1), .val (.int p2), .val (.int p3), .val (.int p4), .val (.int p5), .val (.int p6), .unset, .unset, .unset, .unset, .unset, .unset] [(.int (1 : Int32)), (.int p6)])) _
    refine XS.iand X0.here hx rfl (hb hby at_3) rfl ?_
    show Steps p.tables e below (s₁.setTop (mkF m 4 #[.val (.int p1), .val (.int p2), .val (.int p3), .val (.int p4), .val (.int p5), .val (.int p6), .unset, .unset, .unset, .unset, .unset, .unset] [(.int (p6 &&& (1 : Int32)))])) _
    by_cases hc1_4 : (p6 &&& (1 : Int32)) = (0 : Int32)
    · rw [show rt = (0 : Int32) by rw [eq_rt, if_pos hc1_4]] at k
      show Steps p.tables e below (s₁.setTop (mkF m 4 #[.val (.int p1), .val (.int p2), .val (.int p3), .val (.int p4), .val (.int p5), .val (.int p6), .unset, .unset, .unset, .unset, .unset, .unset] [(.int (p6 &&& (1 : Int32)))])) _
      refine XS.ifYes X0.here hx rfl (pc0 := 4) (pc' := 11) rfl (hb hby at_4) rfl ((if0 _ _).trans (teq hc1_4).1) (by decide) (by decide) ?_
      show Steps p.tables e below (s₁.setTop (mkF m 11 #[.val (.int p1), .val (.int p2), .val (.int p3), .val (.int p4), .val (.int p5), .val (.int p6), .unset, .unset, .unset, .unset, .unset, .unset] [])) _
      refine XS.iconst X0.here hx rfl (hb hby at_11) ?_
      show Steps p.tables e below (s₁.setTop (mkF m 12 #[.val (.int p1), .val (.int p2), .val (.int p3), .val (.int p4), .val (.int p5), .val (.int p6), .unset, .unset, .unset, .unset, .unset, .unset] [(.int (0 : Int32))])) _
      exact k
    · rw [show rt = (1 : Int32) by rw [eq_rt, if_neg hc1_4]] at k
      show Steps p.tables e below (s₁.setTop (mkF m 4 #[.val (.int p1), .val (.int p2), .val (.int p3), .val (.int p4), .val (.int p5), .val (.int p6), .unset, .unset, .unset, .unset, .unset, .unset] [(.int (p6 &&& (1 : Int32)))])) _
      refine XS.ifNo X0.here hx rfl (hb hby at_4) rfl ((if0 _ _).trans (feq hc1_4).1) ?_
      show Steps p.tables e below (s₁.setTop (mkF m 7 #[.val (.int p1), .val (.int p2), .val (.int p3), .val (.int p4), .val (.int p5), .val (.int p6), .unset, .unset, .unset, .unset, .unset, .unset] [])) _
      refine XS.iconst X0.here hx rfl (hb hby at_7) ?_
      show Steps p.tables e below (s₁.setTop (mkF m 8 #[.val (.int p1), .val (.int p2), .val (.int p3), .val (.int p4), .val (.int p5), .val (.int p6), .unset, .unset, .unset, .unset, .unset, .unset] [(.int (1 : Int32))])) _
      refine XS.goto X0.here hx rfl (pc0 := 8) (pc' := 12) rfl (hb hby at_8) (by decide) (by decide) ?_
      show Steps p.tables e below (s₁.setTop (mkF m 12 #[.val (.int p1), .val (.int p2), .val (.int p3), .val (.int p4), .val (.int p5), .val (.int p6), .unset, .unset, .unset, .unset, .unset, .unset] [(.int (1 : Int32))])) _
      exact k
  obtain ⟨sv, eq_sv⟩ : ∃ z : Int32, z = (if (p6 &&& (2 : Int32)) = (0 : Int32) then p3 else (-2147483648 : Int32)) := ⟨_, rfl⟩
  have k4 : ∀ t, Steps p.tables e below (s₁.setTop (mkF m 27 #[.val (.int p1), .val (.int p2), .val (.int p3), .val (.int p4), .val (.int p5), .val (.int p6), .val (.int rt), .unset, .unset, .unset, .unset, .unset] [(.int sv)])) t → Steps p.tables e below (s₁.setTop (entryFrame m #[(.int p1), (.int p2), (.int p3), (.int p4), (.int p5), (.int p6)] maxLocals)) t := by
    intro t k
    refine k2 _ ?_
    show Steps p.tables e below (s₁.setTop (mkF m 12 #[.val (.int p1), .val (.int p2), .val (.int p3), .val (.int p4), .val (.int p5), .val (.int p6), .unset, .unset, .unset, .unset, .unset, .unset] [(.int rt)])) _
    refine XS.istore X0.here hx rfl (hb hby at_12) rfl (l' := #[.val (.int p1), .val (.int p2), .val (.int p3), .val (.int p4), .val (.int p5), .val (.int p6), .val (.int rt), .unset, .unset, .unset, .unset, .unset]) rfl ?_
    show Steps p.tables e below (s₁.setTop (mkF m 14 #[.val (.int p1), .val (.int p2), .val (.int p3), .val (.int p4), .val (.int p5), .val (.int p6), .val (.int rt), .unset, .unset, .unset, .unset, .unset] [])) _
    refine XS.iload X0.here hx rfl (hb hby at_14) rfl ?_
    show Steps p.tables e below (s₁.setTop (mkF m 16 #[.val (.int p1), .val (.int p2), .val (.int p3), .val (.int p4), .val (.int p5), .val (.int p6), .val (.int rt), .unset, .unset, .unset, .unset, .unset] [(.int p6)])) _
    refine XS.iconst X0.here hx rfl (hb hby at_16) ?_
    show Steps p.tables e below (s₁.setTop (mkF m 17 #[.val (.int p1), .val (.int p2), .val (.int p3), .val (.int p4), .val (.int p5), .val (.int p6), .val (.int rt), .unset, .unset, .unset, .unset, .unset] [(.int (2 : Int32)), (.int p6)])) _
    refine XS.iand X0.here hx rfl (hb hby at_17) rfl ?_
    show Steps p.tables e below (s₁.setTop (mkF m 18 #[.val (.int p1), .val (.int p2), .val (.int p3), .val (.int p4), .val (.int p5), .val (.int p6), .val (.int rt), .unset, .unset, .unset, .unset, .unset] [(.int (p6 &&& (2 : Int32)))])) _
    by_cases hc3_18 : (p6 &&& (2 : Int32)) = (0 : Int32)
    · rw [show sv = p3 by rw [eq_sv, if_pos hc3_18]] at k
      show Steps p.tables e below (s₁.setTop (mkF m 18 #[.val (.int p1), .val (.int p2), .val (.int p3), .val (.int p4), .val (.int p5), .val (.int p6), .val (.int rt), .unset, .unset, .unset, .unset, .unset] [(.int (p6 &&& (2 : Int32)))])) _
      refine XS.ifYes X0.here hx rfl (pc0 := 18) (pc' := 26) rfl (hb hby at_18) rfl ((if0 _ _).trans (teq hc3_18).1) (by decide) (by decide) ?_
      show Steps p.tables e below (s₁.setTop (mkF m 26 #[.val (.int p1), .val (.int p2), .val (.int p3), .val (.int p4), .val (.int p5), .val (.int p6), .val (.int rt), .unset, .unset, .unset, .unset, .unset] [])) _
      refine XS.iloadN X0.here hx rfl (hb hby at_26) rfl ?_
      show Steps p.tables e below (s₁.setTop (mkF m 27 #[.val (.int p1), .val (.int p2), .val (.int p3), .val (.int p4), .val (.int p5), .val (.int p6), .val (.int rt), .unset, .unset, .unset, .unset, .unset] [(.int p3)])) _
      exact k
    · rw [show sv = (-2147483648 : Int32) by rw [eq_sv, if_neg hc3_18]] at k
      show Steps p.tables e below (s₁.setTop (mkF m 18 #[.val (.int p1), .val (.int p2), .val (.int p3), .val (.int p4), .val (.int p5), .val (.int p6), .val (.int rt), .unset, .unset, .unset, .unset, .unset] [(.int (p6 &&& (2 : Int32)))])) _
      refine XS.ifNo X0.here hx rfl (hb hby at_18) rfl ((if0 _ _).trans (feq hc3_18).1) ?_
      show Steps p.tables e below (s₁.setTop (mkF m 21 #[.val (.int p1), .val (.int p2), .val (.int p3), .val (.int p4), .val (.int p5), .val (.int p6), .val (.int rt), .unset, .unset, .unset, .unset, .unset] [])) _
      refine X0.ldcInt hx hown (mvT hZ (hw _ (List.mem_of_getElem? (i := 0) rfl))) (g := (mkF m 21 #[.val (.int p1), .val (.int p2), .val (.int p3), .val (.int p4), .val (.int p5), .val (.int p6), .val (.int rt), .unset, .unset, .unset, .unset, .unset] [])) rfl (hb hby at_21) _ ?_
      show Steps p.tables e below (s₁.setTop (mkF m 23 #[.val (.int p1), .val (.int p2), .val (.int p3), .val (.int p4), .val (.int p5), .val (.int p6), .val (.int rt), .unset, .unset, .unset, .unset, .unset] [(.int (-2147483648 : Int32))])) _
      refine XS.goto X0.here hx rfl (pc0 := 23) (pc' := 27) rfl (hb hby at_23) (by decide) (by decide) ?_
      show Steps p.tables e below (s₁.setTop (mkF m 27 #[.val (.int p1), .val (.int p2), .val (.int p3), .val (.int p4), .val (.int p5), .val (.int p6), .val (.int rt), .unset, .unset, .unset, .unset, .unset] [(.int (-2147483648 : Int32))])) _
      exact k
  obtain ⟨ev, eq_ev⟩ : ∃ z : Int32, z = (if (p6 &&& (4 : Int32)) = (0 : Int32) then p4 else (-2147483648 : Int32)) := ⟨_, rfl⟩
  have k6 : ∀ t, Steps p.tables e below (s₁.setTop (mkF m 42 #[.val (.int p1), .val (.int p2), .val (.int p3), .val (.int p4), .val (.int p5), .val (.int p6), .val (.int rt), .val (.int sv), .unset, .unset, .unset, .unset] [(.int ev)])) t → Steps p.tables e below (s₁.setTop (entryFrame m #[(.int p1), (.int p2), (.int p3), (.int p4), (.int p5), (.int p6)] maxLocals)) t := by
    intro t k
    refine k4 _ ?_
    show Steps p.tables e below (s₁.setTop (mkF m 27 #[.val (.int p1), .val (.int p2), .val (.int p3), .val (.int p4), .val (.int p5), .val (.int p6), .val (.int rt), .unset, .unset, .unset, .unset, .unset] [(.int sv)])) _
    refine XS.istore X0.here hx rfl (hb hby at_27) rfl (l' := #[.val (.int p1), .val (.int p2), .val (.int p3), .val (.int p4), .val (.int p5), .val (.int p6), .val (.int rt), .val (.int sv), .unset, .unset, .unset, .unset]) rfl ?_
    show Steps p.tables e below (s₁.setTop (mkF m 29 #[.val (.int p1), .val (.int p2), .val (.int p3), .val (.int p4), .val (.int p5), .val (.int p6), .val (.int rt), .val (.int sv), .unset, .unset, .unset, .unset] [])) _
    refine XS.iload X0.here hx rfl (hb hby at_29) rfl ?_
    show Steps p.tables e below (s₁.setTop (mkF m 31 #[.val (.int p1), .val (.int p2), .val (.int p3), .val (.int p4), .val (.int p5), .val (.int p6), .val (.int rt), .val (.int sv), .unset, .unset, .unset, .unset] [(.int p6)])) _
    refine XS.iconst X0.here hx rfl (hb hby at_31) ?_
    show Steps p.tables e below (s₁.setTop (mkF m 32 #[.val (.int p1), .val (.int p2), .val (.int p3), .val (.int p4), .val (.int p5), .val (.int p6), .val (.int rt), .val (.int sv), .unset, .unset, .unset, .unset] [(.int (4 : Int32)), (.int p6)])) _
    refine XS.iand X0.here hx rfl (hb hby at_32) rfl ?_
    show Steps p.tables e below (s₁.setTop (mkF m 33 #[.val (.int p1), .val (.int p2), .val (.int p3), .val (.int p4), .val (.int p5), .val (.int p6), .val (.int rt), .val (.int sv), .unset, .unset, .unset, .unset] [(.int (p6 &&& (4 : Int32)))])) _
    by_cases hc5_33 : (p6 &&& (4 : Int32)) = (0 : Int32)
    · rw [show ev = p4 by rw [eq_ev, if_pos hc5_33]] at k
      show Steps p.tables e below (s₁.setTop (mkF m 33 #[.val (.int p1), .val (.int p2), .val (.int p3), .val (.int p4), .val (.int p5), .val (.int p6), .val (.int rt), .val (.int sv), .unset, .unset, .unset, .unset] [(.int (p6 &&& (4 : Int32)))])) _
      refine XS.ifYes X0.here hx rfl (pc0 := 33) (pc' := 41) rfl (hb hby at_33) rfl ((if0 _ _).trans (teq hc5_33).1) (by decide) (by decide) ?_
      show Steps p.tables e below (s₁.setTop (mkF m 41 #[.val (.int p1), .val (.int p2), .val (.int p3), .val (.int p4), .val (.int p5), .val (.int p6), .val (.int rt), .val (.int sv), .unset, .unset, .unset, .unset] [])) _
      refine XS.iloadN X0.here hx rfl (hb hby at_41) rfl ?_
      show Steps p.tables e below (s₁.setTop (mkF m 42 #[.val (.int p1), .val (.int p2), .val (.int p3), .val (.int p4), .val (.int p5), .val (.int p6), .val (.int rt), .val (.int sv), .unset, .unset, .unset, .unset] [(.int p4)])) _
      exact k
    · rw [show ev = (-2147483648 : Int32) by rw [eq_ev, if_neg hc5_33]] at k
      show Steps p.tables e below (s₁.setTop (mkF m 33 #[.val (.int p1), .val (.int p2), .val (.int p3), .val (.int p4), .val (.int p5), .val (.int p6), .val (.int rt), .val (.int sv), .unset, .unset, .unset, .unset] [(.int (p6 &&& (4 : Int32)))])) _
      refine XS.ifNo X0.here hx rfl (hb hby at_33) rfl ((if0 _ _).trans (feq hc5_33).1) ?_
      show Steps p.tables e below (s₁.setTop (mkF m 36 #[.val (.int p1), .val (.int p2), .val (.int p3), .val (.int p4), .val (.int p5), .val (.int p6), .val (.int rt), .val (.int sv), .unset, .unset, .unset, .unset] [])) _
      refine X0.ldcInt hx hown (mvT hZ (hw _ (List.mem_of_getElem? (i := 0) rfl))) (g := (mkF m 36 #[.val (.int p1), .val (.int p2), .val (.int p3), .val (.int p4), .val (.int p5), .val (.int p6), .val (.int rt), .val (.int sv), .unset, .unset, .unset, .unset] [])) rfl (hb hby at_36) _ ?_
      show Steps p.tables e below (s₁.setTop (mkF m 38 #[.val (.int p1), .val (.int p2), .val (.int p3), .val (.int p4), .val (.int p5), .val (.int p6), .val (.int rt), .val (.int sv), .unset, .unset, .unset, .unset] [(.int (-2147483648 : Int32))])) _
      refine XS.goto X0.here hx rfl (pc0 := 38) (pc' := 42) rfl (hb hby at_38) (by decide) (by decide) ?_
      show Steps p.tables e below (s₁.setTop (mkF m 42 #[.val (.int p1), .val (.int p2), .val (.int p3), .val (.int p4), .val (.int p5), .val (.int p6), .val (.int rt), .val (.int sv), .unset, .unset, .unset, .unset] [(.int (-2147483648 : Int32))])) _
      exact k
  have k7 : ∀ t, Steps p.tables e below (s₁.setTop (mkF m 44 #[.val (.int p1), .val (.int p2), .val (.int p3), .val (.int p4), .val (.int p5), .val (.int p6), .val (.int rt), .val (.int sv), .val (.int ev), .unset, .unset, .unset] [])) t → Steps p.tables e below (s₁.setTop (entryFrame m #[(.int p1), (.int p2), (.int p3), (.int p4), (.int p5), (.int p6)] maxLocals)) t := by
    intro t k
    refine k6 _ ?_
    show Steps p.tables e below (s₁.setTop (mkF m 42 #[.val (.int p1), .val (.int p2), .val (.int p3), .val (.int p4), .val (.int p5), .val (.int p6), .val (.int rt), .val (.int sv), .unset, .unset, .unset, .unset] [(.int ev)])) _
    refine XS.istore X0.here hx rfl (hb hby at_42) rfl (l' := #[.val (.int p1), .val (.int p2), .val (.int p3), .val (.int p4), .val (.int p5), .val (.int p6), .val (.int rt), .val (.int sv), .val (.int ev), .unset, .unset, .unset]) rfl ?_
    show Steps p.tables e below (s₁.setTop (mkF m 44 #[.val (.int p1), .val (.int p2), .val (.int p3), .val (.int p4), .val (.int p5), .val (.int p6), .val (.int rt), .val (.int sv), .val (.int ev), .unset, .unset, .unset] [])) _
    exact k
  obtain ⟨T8, h8, X8, e8, E8, A8, D8, -, st8⟩ := newO X0 hx hZ hown (hw _ (List.mem_of_getElem? (i := 1) rfl)) (hw _ (List.mem_of_getElem? (i := 2) rfl)) (hw _ (List.mem_of_getElem? (i := 3) rfl)) e0 (g := (mkF m 44 #[.val (.int p1), .val (.int p2), .val (.int p3), .val (.int p4), .val (.int p5), .val (.int p6), .val (.int rt), .val (.int sv), .val (.int ev), .unset, .unset, .unset] [])) rfl (hb hby at_44) (by decide) (by decide)
  obtain ⟨b8, g8⟩ : ∃ z, z = h0.size := ⟨_, rfl⟩
  rw [← g8] at A8 D8 st8
  have g_b8 : n0 ≤ b8 := Nat.le_trans Z0 (Nat.le_of_eq g8.symm)
  have sz_b8 : h0.size ≤ b8 := Nat.le_trans (Keep.refl h0 []).1 (Nat.le_of_eq g8.symm)
  have F8_marginStart : Fld Z h8 b8 "com/example/frameloom/frameloom/Spacing" "marginStart" "I" (.int (0 : Int32)) := D8 (Or.inl (hw _ (List.mem_of_getElem? (i := 12) rfl))) (ty := .int) (by decide)
  have F8_marginEnd : Fld Z h8 b8 "com/example/frameloom/frameloom/Spacing" "marginEnd" "I" (.int (0 : Int32)) := D8 (Or.inl (hw _ (List.mem_of_getElem? (i := 14) rfl))) (ty := .int) (by decide)
  have F8_marginLeft : Fld Z h8 b8 "com/example/frameloom/frameloom/Spacing" "marginLeft" "I" (.int (0 : Int32)) := D8 (Or.inl (hw _ (List.mem_of_getElem? (i := 16) rfl))) (ty := .int) (by decide)
  have F8_marginRight : Fld Z h8 b8 "com/example/frameloom/frameloom/Spacing" "marginRight" "I" (.int (0 : Int32)) := D8 (Or.inl (hw _ (List.mem_of_getElem? (i := 18) rfl))) (ty := .int) (by decide)
  have F8_marginTop : Fld Z h8 b8 "com/example/frameloom/frameloom/Spacing" "marginTop" "I" (.int (0 : Int32)) := D8 (Or.inl (hw _ (List.mem_of_getElem? (i := 20) rfl))) (ty := .int) (by decide)
  have F8_layoutMarginLeft : Fld Z h8 b8 "com/example/frameloom/frameloom/Spacing" "layoutMarginLeft" "I" (.int (0 : Int32)) := D8 (Or.inl (hw _ (List.mem_of_getElem? (i := 29) rfl))) (ty := .int) (by decide)
  have F8_layoutMarginRight : Fld Z h8 b8 "com/example/frameloom/frameloom/Spacing" "layoutMarginRight" "I" (.int (0 : Int32)) := D8 (Or.inl (hw _ (List.mem_of_getElem? (i := 32) rfl))) (ty := .int) (by decide)
  have k8 : ∀ t, Steps p.tables e below (T8.setTop (mkF m 47 #[.val (.int p1), .val (.int p2), .val (.int p3), .val (.int p4), .val (.int p5), .val (.int p6), .val (.int rt), .val (.int sv), .val (.int ev), .unset, .unset, .unset] [(.ref b8)])) t → Steps p.tables e below (s₁.setTop (entryFrame m #[(.int p1), (.int p2), (.int p3), (.int p4), (.int p5), (.int p6)] maxLocals)) t := fun t k => k7 t (st8 _ k)
  have Z9 : n0 ≤ h8.size := Nat.le_trans Z0 E8.1
  have k10 : ∀ t, Steps p.tables e below (T8.setTop (mkF m 48 #[.val (.int p1), .val (.int p2), .val (.int p3), .val (.int p4), .val (.int p5), .val (.int p6), .val (.int rt), .val (.int sv), .val (.int ev), .unset, .unset, .unset] [(.ref b8), (.ref b8)])) t → Steps p.tables e below (s₁.setTop (entryFrame m #[(.int p1), (.int p2), (.int p3), (.int p4), (.int p5), (.int p6)] maxLocals)) t := by
    intro t k
    refine k8 _ ?_
    show Steps p.tables e below (T8.setTop (mkF m 47 #[.val (.int p1), .val (.int p2), .val (.int p3), .val (.int p4), .val (.int p5), .val (.int p6), .val (.int rt), .val (.int sv), .val (.int ev), .unset, .unset, .unset] [(.ref b8)])) _
    refine XS.dup X8.here hx rfl (hb hby at_47) rfl rfl ?_
    show Steps p.tables e below (T8.setTop (mkF m 48 #[.val (.int p1), .val (.int p2), .val (.int p3), .val (.int p4), .val (.int p5), .val (.int p6), .val (.int rt), .val (.int sv), .val (.int ev), .unset, .unset, .unset] [(.ref b8), (.ref b8)])) _
    exact k
  obtain ⟨_, _, ⟨T11, L11, ck11, nk11⟩, -, X11, ⟨Lc11, hQ11, l11, y11, z11⟩, st11⟩ := X8.specialBack hx (y := (⟨"com/example/frameloom/frameloom/Spacing", "<init>", "()V"⟩ : MethodName)) rfl hown (mvT hZ (hw _ (List.mem_of_getElem? (i := 4) rfl))) (mvT hZ (hw _ (List.mem_of_getElem? (i := 5) rfl))) (mvT hZ (hw _ (List.mem_of_getElem? (i := 6) rfl))) (by decide) (backOf (W := 1) (rm1 l Z a0 hw [] b8 h8 n0 Z9 A8 g_b8 F8_marginLeft F8_marginRight F8_marginTop F8_marginStart F8_marginEnd F8_layoutMarginLeft F8_layoutMarginRight) hZ (hw _ (List.mem_of_getElem? (i := 6) rfl)) (hw _ (List.mem_of_getElem? (i := 3) rfl)) (by decide) (by decide)) (g := (mkF m 48 #[.val (.int p1), .val (.int p2), .val (.int p3), .val (.int p4), .val (.int p5), .val (.int p6), .val (.int rt), .val (.int sv), .val (.int ev), .unset, .unset, .unset] [(.ref b8), (.ref b8)])) rfl (by rw [hml]; rfl) (Steps.refl _) (a := b8) (argsL := []) (rest := [(.ref b8)]) (lenOf pd_0 rfl) rfl (by show 2 * 0 + _ ≤ _; exact Nat.le_of_eq rfl) (hb hby at_48) (fun _ _ => ⟨rfl, e8, (by decide : 1 + 0 ≤ _), (by decide : 12 + 0 ≤ _)⟩)
  dsimp only [Pt.U, Pt.locs, Pt.cells, Pt.slots] at X11 l11 y11 z11 st11 hQ11
  subst l11 y11 z11
  obtain ⟨rfl, N11q, K11, G11_marginLeft, G11_marginRight, G11_marginTop, G11_marginStart, G11_marginEnd, G11_layoutMarginLeft, G11_layoutMarginRight⟩ := hQ11
  have N11 := Fr.app N0 N11q
  have k11 : ∀ t, Steps p.tables e below (T11.setTop (mkF m 51 #[.val (.int p1), .val (.int p2), .val (.int p3), .val (.int p4), .val (.int p5), .val (.int p6), .val (.int rt), .val (.int sv), .val (.int ev), .unset, .unset, .unset] [(.ref b8)])) t → Steps p.tables e below (s₁.setTop (entryFrame m #[(.int p1), (.int p2), (.int p3), (.int p4), (.int p5), (.int p6)] maxLocals)) t := fun t k => k10 t (st11.trans k)
  have Z12 : n0 ≤ T11.heap.size := Nat.le_trans Z9 K11.1
  have k13 : ∀ t, Steps p.tables e below (T11.setTop (mkF m 56 #[.val (.int p1), .val (.int p2), .val (.int p3), .val (.int p4), .val (.int p5), .val (.int p6), .val (.int rt), .val (.int sv), .val (.int ev), .val (.ref b8), .unset, .unset] [(.int p1), (.ref b8)])) t → Steps p.tables e below (s₁.setTop (entryFrame m #[(.int p1), (.int p2), (.int p3), (.int p4), (.int p5), (.int p6)] maxLocals)) t := by
    intro t k
    refine k11 _ ?_
    show Steps p.tables e below (T11.setTop (mkF m 51 #[.val (.int p1), .val (.int p2), .val (.int p3), .val (.int p4), .val (.int p5), .val (.int p6), .val (.int rt), .val (.int sv), .val (.int ev), .unset, .unset, .unset] [(.ref b8)])) _
    refine XS.astore X11.here hx rfl (hb hby at_51) rfl rfl (l' := #[.val (.int p1), .val (.int p2), .val (.int p3), .val (.int p4), .val (.int p5), .val (.int p6), .val (.int rt), .val (.int sv), .val (.int ev), .val (.ref b8), .unset, .unset]) rfl ?_
    show Steps p.tables e below (T11.setTop (mkF m 53 #[.val (.int p1), .val (.int p2), .val (.int p3), .val (.int p4), .val (.int p5), .val (.int p6), .val (.int rt), .val (.int sv), .val (.int ev), .val (.ref b8), .unset, .unset] [])) _
    refine XS.aload X11.here hx rfl (hb hby at_53) rfl rfl ?_
    show Steps p.tables e below (T11.setTop (mkF m 55 #[.val (.int p1), .val (.int p2), .val (.int p3), .val (.int p4), .val (.int p5), .val (.int p6), .val (.int rt), .val (.int sv), .val (.int ev), .val (.ref b8), .unset, .unset] [(.ref b8)])) _
    refine XS.iloadN X11.here hx rfl (hb hby at_55) rfl ?_
    show Steps p.tables e below (T11.setTop (mkF m 56 #[.val (.int p1), .val (.int p2), .val (.int p3), .val (.int p4), .val (.int p5), .val (.int p6), .val (.int rt), .val (.int sv), .val (.int ev), .val (.ref b8), .unset, .unset] [(.int p1), (.ref b8)])) _
    exact k
  have f15 := (A8.keep K11)
  obtain ⟨T14, h14, X14, e14, W14, st14⟩ := putF X11 hx hZ hown (host := "") (Or.inl (hw _ (List.mem_of_getElem? (i := 15) rfl))) Via.refl rfl G11_marginLeft f15 (Or.inl (hw _ (List.mem_of_getElem? (i := 16) rfl))) (hw _ (List.mem_of_getElem? (i := 2) rfl)) (ty := .int) (by decide) rfl rfl (g := (mkF m 56 #[.val (.int p1), .val (.int p2), .val (.int p3), .val (.int p4), .val (.int p5), .val (.int p6), .val (.int rt), .val (.int sv), .val (.int ev), .val (.ref b8), .unset, .unset] [(.int p1), (.ref b8)])) rfl rfl (hb hby at_56)
  have N14 := Fr.snoc X14 N11 g_b8
  have Fw14 := G11_marginLeft.same W14
  have k14 : ∀ t, Steps p.tables e below (T14.setTop (mkF m 59 #[.val (.int p1), .val (.int p2), .val (.int p3), .val (.int p4), .val (.int p5), .val (.int p6), .val (.int rt), .val (.int sv), .val (.int ev), .val (.ref b8), .unset, .unset] [])) t → Steps p.tables e below (s₁.setTop (entryFrame m #[(.int p1), (.int p2), (.int p3), (.int p4), (.int p5), (.int p6)] maxLocals)) t := fun t k => k13 t (st14 _ k)
  have Z16 : n0 ≤ h14.size := Nat.le_trans Z12 (Keep.of_wr W14).1
  have k17 : ∀ t, Steps p.tables e below (T14.setTop (mkF m 62 #[.val (.int p1), .val (.int p2), .val (.int p3), .val (.int p4), .val (.int p5), .val (.int p6), .val (.int rt), .val (.int sv), .val (.int ev), .val (.ref b8), .unset, .unset] [(.int p2), (.ref b8)])) t → Steps p.tables e below (s₁.setTop (entryFrame m #[(.int p1), (.int p2), (.int p3), (.int p4), (.int p5), (.int p6)] maxLocals)) t := by
    intro t k
    refine k14 _ ?_
    show Steps p.tables e below (T14.setTop (mkF m 59 #[.val (.int p1), .val (.int p2), .val (.int p3), .val (.int p4), .val (.int p5), .val (.int p6), .val (.int rt), .val (.int sv), .val (.int ev), .val (.ref b8), .unset, .unset] [])) _
    refine XS.aload X14.here hx rfl (hb hby at_59) rfl rfl ?_
    show Steps p.tables e below (T14.setTop (mkF m 61 #[.val (.int p1), .val (.int p2), .val (.int p3), .val (.int p4), .val (.int p5), .val (.int p6), .val (.int rt), .val (.int sv), .val (.int ev), .val (.ref b8), .unset, .unset] [(.ref b8)])) _
    refine XS.iloadN X14.here hx rfl (hb hby at_61) rfl ?_
    show Steps p.tables e below (T14.setTop (mkF m 62 #[.val (.int p1), .val (.int p2), .val (.int p3), .val (.int p4), .val (.int p5), .val (.int p6), .val (.int rt), .val (.int sv), .val (.int ev), .val (.ref b8), .unset, .unset] [(.int p2), (.ref b8)])) _
    exact k
  have f19 := (G11_marginRight.other W14 (Or.inr (slot_ne (Or.inl (hw _ (List.mem_of_getElem? (i := 18) rfl))) (Or.inl (hw _ (List.mem_of_getElem? (i := 16) rfl))) (by decide) (t := .int) (t' := .int) (by decide) (by decide))))
  have f20 := (f15.wr W14)
  obtain ⟨T18, h18, X18, e18, W18, st18⟩ := putF X14 hx hZ hown (host := "") (Or.inl (hw _ (List.mem_of_getElem? (i := 17) rfl))) Via.refl e14 f19 f20 (Or.inl (hw _ (List.mem_of_getElem? (i := 18) rfl))) (hw _ (List.mem_of_getElem? (i := 2) rfl)) (ty := .int) (by decide) rfl rfl (g := (mkF m 62 #[.val (.int p1), .val (.int p2), .val (.int p3), .val (.int p4), .val (.int p5), .val (.int p6), .val (.int rt), .val (.int sv), .val (.int ev), .val (.ref b8), .unset, .unset] [(.int p2), (.ref b8)])) rfl rfl (hb hby at_62)
  have N18 := Fr.snoc X18 N14 g_b8
  have Fw18 := f19.same W18
  have k18 : ∀ t, Steps p.tables e below (T18.setTop (mkF m 65 #[.val (.int p1), .val (.int p2), .val (.int p3), .val (.int p4), .val (.int p5), .val (.int p6), .val (.int rt), .val (.int sv), .val (.int ev), .val (.ref b8), .unset, .unset] [])) t → Steps p.tables e below (s₁.setTop (entryFrame m #[(.int p1), (.int p2), (.int p3), (.int p4), (.int p5), (.int p6)] maxLocals)) t := fun t k => k17 t (st18 _ k)
  have Z21 : n0 ≤ h18.size := Nat.le_trans Z16 (Keep.of_wr W18).1
  have k22 : ∀ t, Steps p.tables e below (T18.setTop (mkF m 69 #[.val (.int p1), .val (.int p2), .val (.int p3), .val (.int p4), .val (.int p5), .val (.int p6), .val (.int rt), .val (.int sv), .val (.int ev), .val (.ref b8), .unset, .unset] [(.int p5), (.ref b8)])) t → Steps p.tables e below (s₁.setTop (entryFrame m #[(.int p1), (.int p2), (.int p3), (.int p4), (.int p5), (.int p6)] maxLocals)) t := by
    intro t k
    refine k18 _ ?_
    show Steps p.tables e below (T18.setTop (mkF m 65 #[.val (.int p1), .val (.int p2), .val (.int p3), .val (.int p4), .val (.int p5), .val (.int p6), .val (.int rt), .val (.int sv), .val (.int ev), .val (.ref b8), .unset, .unset] [])) _
    refine XS.aload X18.here hx rfl (hb hby at_65) rfl rfl ?_
    show Steps p.tables e below (T18.setTop (mkF m 67 #[.val (.int p1), .val (.int p2), .val (.int p3), .val (.int p4), .val (.int p5), .val (.int p6), .val (.int rt), .val (.int sv), .val (.int ev), .val (.ref b8), .unset, .unset] [(.ref b8)])) _
    refine XS.iload X18.here hx rfl (hb hby at_67) rfl ?_
    show Steps p.tables e below (T18.setTop (mkF m 69 #[.val (.int p1), .val (.int p2), .val (.int p3), .val (.int p4), .val (.int p5), .val (.int p6), .val (.int rt), .val (.int sv), .val (.int ev), .val (.ref b8), .unset, .unset] [(.int p5), (.ref b8)])) _
    exact k
  have f24 := ((G11_marginTop.other W14 (Or.inr (slot_ne (Or.inl (hw _ (List.mem_of_getElem? (i := 20) rfl))) (Or.inl (hw _ (List.mem_of_getElem? (i := 16) rfl))) (by decide) (t := .int) (t' := .int) (by decide) (by decide)))).other W18 (Or.inr (slot_ne (Or.inl (hw _ (List.mem_of_getElem? (i := 20) rfl))) (Or.inl (hw _ (List.mem_of_getElem? (i := 18) rfl))) (by decide) (t := .int) (t' := .int) (by decide) (by decide))))
  have f25 := (f20.wr W18)
  obtain ⟨T23, h23, X23, e23, W23, st23⟩ := putF X18 hx hZ hown (host := "") (Or.inl (hw _ (List.mem_of_getElem? (i := 19) rfl))) Via.refl e18 f24 f25 (Or.inl (hw _ (List.mem_of_getElem? (i := 20) rfl))) (hw _ (List.mem_of_getElem? (i := 2) rfl)) (ty := .int) (by decide) rfl rfl (g := (mkF m 69 #[.val (.int p1), .val (.int p2), .val (.int p3), .val (.int p4), .val (.int p5), .val (.int p6), .val (.int rt), .val (.int sv), .val (.int ev), .val (.ref b8), .unset, .unset] [(.int p5), (.ref b8)])) rfl rfl (hb hby at_69)
  have N23 := Fr.snoc X23 N18 g_b8
  have Fw23 := f24.same W23
  have k23 : ∀ t, Steps p.tables e below (T23.setTop (mkF m 72 #[.val (.int p1), .val (.int p2), .val (.int p3), .val (.int p4), .val (.int p5), .val (.int p6), .val (.int rt), .val (.int sv), .val (.int ev), .val (.ref b8), .unset, .unset] [])) t → Steps p.tables e below (s₁.setTop (entryFrame m #[(.int p1), (.int p2), (.int p3), (.int p4), (.int p5), (.int p6)] maxLocals)) t := fun t k => k22 t (st23 _ k)
  have Z26 : n0 ≤ h23.size := Nat.le_trans Z21 (Keep.of_wr W23).1
  have k27 : ∀ t, Steps p.tables e below (T23.setTop (mkF m 76 #[.val (.int p1), .val (.int p2), .val (.int p3), .val (.int p4), .val (.int p5), .val (.int p6), .val (.int rt), .val (.int sv), .val (.int ev), .val (.ref b8), .unset, .unset] [(.int sv), (.ref b8)])) t → Steps p.tables e below (s₁.setTop (entryFrame m #[(.int p1), (.int p2), (.int p3), (.int p4), (.int p5), (.int p6)] maxLocals)) t := by
    intro t k
    refine k23 _ ?_
    show Steps p.tables e below (T23.setTop (mkF m 72 #[.val (.int p1), .val (.int p2), .val (.int p3), .val (.int p4), .val (.int p5), .val (.int p6), .val (.int rt), .val (.int sv), .val (.int ev), .val (.ref b8), .unset, .unset] [])) _
    refine XS.aload X23.here hx rfl (hb hby at_72) rfl rfl ?_
    show Steps p.tables e below (T23.setTop (mkF m 74 #[.val (.int p1), .val (.int p2), .val (.int p3), .val (.int p4), .val (.int p5), .val (.int p6), .val (.int rt), .val (.int sv), .val (.int ev), .val (.ref b8), .unset, .unset] [(.ref b8)])) _
    refine XS.iload X23.here hx rfl (hb hby at_74) rfl ?_
    show Steps p.tables e below (T23.setTop (mkF m 76 #[.val (.int p1), .val (.int p2), .val (.int p3), .val (.int p4), .val (.int p5), .val (.int p6), .val (.int rt), .val (.int sv), .val (.int ev), .val (.ref b8), .unset, .unset] [(.int sv), (.ref b8)])) _
    exact k
  have f29 := (((G11_marginStart.other W14 (Or.inr (slot_ne (Or.inl (hw _ (List.mem_of_getElem? (i := 12) rfl))) (Or.inl (hw _ (List.mem_of_getElem? (i := 16) rfl))) (by decide) (t := .int) (t' := .int) (by decide) (by decide)))).other W18 (Or.inr (slot_ne (Or.inl (hw _ (List.mem_of_getElem? (i := 12) rfl))) (Or.inl (hw _ (List.mem_of_getElem? (i := 18) rfl))) (by decide) (t := .int) (t' := .int) (by decide) (by decide)))).other W23 (Or.inr (slot_ne (Or.inl (hw _ (List.mem_of_getElem? (i := 12) rfl))) (Or.inl (hw _ (List.mem_of_getElem? (i := 20) rfl))) (by decide) (t := .int) (t' := .int) (by decide) (by decide))))
  have f30 := (f25.wr W23)
  obtain ⟨T28, h28, X28, e28, W28, st28⟩ := putF X23 hx hZ hown (host := "") (Or.inl (hw _ (List.mem_of_getElem? (i := 21) rfl))) Via.refl e23 f29 f30 (Or.inl (hw _ (List.mem_of_getElem? (i := 12) rfl))) (hw _ (List.mem_of_getElem? (i := 2) rfl)) (ty := .int) (by decide) rfl rfl (g := (mkF m 76 #[.val (.int p1), .val (.int p2), .val (.int p3), .val (.int p4), .val (.int p5), .val (.int p6), .val (.int rt), .val (.int sv), .val (.int ev), .val (.ref b8), .unset, .unset] [(.int sv), (.ref b8)])) rfl rfl (hb hby at_76)
  have N28 := Fr.snoc X28 N23 g_b8
  have Fw28 := f29.same W28
  have k28 : ∀ t, Steps p.tables e below (T28.setTop (mkF m 79 #[.val (.int p1), .val (.int p2), .val (.int p3), .val (.int p4), .val (.int p5), .val (.int p6), .val (.int rt), .val (.int sv), .val (.int ev), .val (.ref b8), .unset, .unset] [])) t → Steps p.tables e below (s₁.setTop (entryFrame m #[(.int p1), (.int p2), (.int p3), (.int p4), (.int p5), (.int p6)] maxLocals)) t := fun t k => k27 t (st28 _ k)
  have Z31 : n0 ≤ h28.size := Nat.le_trans Z26 (Keep.of_wr W28).1
  have k32 : ∀ t, Steps p.tables e below (T28.setTop (mkF m 83 #[.val (.int p1), .val (.int p2), .val (.int p3), .val (.int p4), .val (.int p5), .val (.int p6), .val (.int rt), .val (.int sv), .val (.int ev), .val (.ref b8), .unset, .unset] [(.int ev), (.ref b8)])) t → Steps p.tables e below (s₁.setTop (entryFrame m #[(.int p1), (.int p2), (.int p3), (.int p4), (.int p5), (.int p6)] maxLocals)) t := by
    intro t k
    refine k28 _ ?_
    show Steps p.tables e below (T28.setTop (mkF m 79 #[.val (.int p1), .val (.int p2), .val (.int p3), .val (.int p4), .val (.int p5), .val (.int p6), .val (.int rt), .val (.int sv), .val (.int ev), .val (.ref b8), .unset, .unset] [])) _
    refine XS.aload X28.here hx rfl (hb hby at_79) rfl rfl ?_
    show Steps p.tables e below (T28.setTop (mkF m 81 #[.val (.int p1), .val (.int p2), .val (.int p3), .val (.int p4), .val (.int p5), .val (.int p6), .val (.int rt), .val (.int sv), .val (.int ev), .val (.ref b8), .unset, .unset] [(.ref b8)])) _
    refine XS.iload X28.here hx rfl (hb hby at_81) rfl ?_
    show Steps p.tables e below (T28.setTop (mkF m 83 #[.val (.int p1), .val (.int p2), .val (.int p3), .val (.int p4), .val (.int p5), .val (.int p6), .val (.int rt), .val (.int sv), .val (.int ev), .val (.ref b8), .unset, .unset] [(.int ev), (.ref b8)])) _
    exact k
  have f34 := ((((G11_marginEnd.other W14 (Or.inr (slot_ne (Or.inl (hw _ (List.mem_of_getElem? (i := 14) rfl))) (Or.inl (hw _ (List.mem_of_getElem? (i := 16) rfl))) (by decide) (t := .int) (t' := .int) (by decide) (by decide)))).other W18 (Or.inr (slot_ne (Or.inl (hw _ (List.mem_of_getElem? (i := 14) rfl))) (Or.inl (hw _ (List.mem_of_getElem? (i := 18) rfl))) (by decide) (t := .int) (t' := .int) (by decide) (by decide)))).other W23 (Or.inr (slot_ne (Or.inl (hw _ (List.mem_of_getElem? (i := 14) rfl))) (Or.inl (hw _ (List.mem_of_getElem? (i := 20) rfl))) (by decide) (t := .int) (t' := .int) (by decide) (by decide)))).other W28 (Or.inr (slot_ne (Or.inl (hw _ (List.mem_of_getElem? (i := 14) rfl))) (Or.inl (hw _ (List.mem_of_getElem? (i := 12) rfl))) (by decide) (t := .int) (t' := .int) (by decide) (by decide))))
  have f35 := (f30.wr W28)
  obtain ⟨T33, h33, X33, e33, W33, st33⟩ := putF X28 hx hZ hown (host := "") (Or.inl (hw _ (List.mem_of_getElem? (i := 22) rfl))) Via.refl e28 f34 f35 (Or.inl (hw _ (List.mem_of_getElem? (i := 14) rfl))) (hw _ (List.mem_of_getElem? (i := 2) rfl)) (ty := .int) (by decide) rfl rfl (g := (mkF m 83 #[.val (.int p1), .val (.int p2), .val (.int p3), .val (.int p4), .val (.int p5), .val (.int p6), .val (.int rt), .val (.int sv), .val (.int ev), .val (.ref b8), .unset, .unset] [(.int ev), (.ref b8)])) rfl rfl (hb hby at_83)
  have N33 := Fr.snoc X33 N28 g_b8
  have Fw33 := f34.same W33
  have k33 : ∀ t, Steps p.tables e below (T33.setTop (mkF m 86 #[.val (.int p1), .val (.int p2), .val (.int p3), .val (.int p4), .val (.int p5), .val (.int p6), .val (.int rt), .val (.int sv), .val (.int ev), .val (.ref b8), .unset, .unset] [])) t → Steps p.tables e below (s₁.setTop (entryFrame m #[(.int p1), (.int p2), (.int p3), (.int p4), (.int p5), (.int p6)] maxLocals)) t := fun t k => k32 t (st33 _ k)
  have Z36 : n0 ≤ h33.size := Nat.le_trans Z31 (Keep.of_wr W33).1
  have f37 := (f35.wr W33)
  have f38 := ((((Fw14.other W18 (Or.inr (slot_ne (Or.inl (hw _ (List.mem_of_getElem? (i := 16) rfl))) (Or.inl (hw _ (List.mem_of_getElem? (i := 18) rfl))) (by decide) (t := .int) (t' := .int) (by decide) (by decide)))).other W23 (Or.inr (slot_ne (Or.inl (hw _ (List.mem_of_getElem? (i := 16) rfl))) (Or.inl (hw _ (List.mem_of_getElem? (i := 20) rfl))) (by decide) (t := .int) (t' := .int) (by decide) (by decide)))).other W28 (Or.inr (slot_ne (Or.inl (hw _ (List.mem_of_getElem? (i := 16) rfl))) (Or.inl (hw _ (List.mem_of_getElem? (i := 12) rfl))) (by decide) (t := .int) (t' := .int) (by decide) (by decide)))).other W33 (Or.inr (slot_ne (Or.inl (hw _ (List.mem_of_getElem? (i := 16) rfl))) (Or.inl (hw _ (List.mem_of_getElem? (i := 14) rfl))) (by decide) (t := .int) (t' := .int) (by decide) (by decide))))
  have f39 := (((Fw18.other W23 (Or.inr (slot_ne (Or.inl (hw _ (List.mem_of_getElem? (i := 18) rfl))) (Or.inl (hw _ (List.mem_of_getElem? (i := 20) rfl))) (by decide) (t := .int) (t' := .int) (by decide) (by decide)))).other W28 (Or.inr (slot_ne (Or.inl (hw _ (List.mem_of_getElem? (i := 18) rfl))) (Or.inl (hw _ (List.mem_of_getElem? (i := 12) rfl))) (by decide) (t := .int) (t' := .int) (by decide) (by decide)))).other W33 (Or.inr (slot_ne (Or.inl (hw _ (List.mem_of_getElem? (i := 18) rfl))) (Or.inl (hw _ (List.mem_of_getElem? (i := 14) rfl))) (by decide) (t := .int) (t' := .int) (by decide) (by decide))))
  have f40 := ((Fw23.other W28 (Or.inr (slot_ne (Or.inl (hw _ (List.mem_of_getElem? (i := 20) rfl))) (Or.inl (hw _ (List.mem_of_getElem? (i := 12) rfl))) (by decide) (t := .int) (t' := .int) (by decide) (by decide)))).other W33 (Or.inr (slot_ne (Or.inl (hw _ (List.mem_of_getElem? (i := 20) rfl))) (Or.inl (hw _ (List.mem_of_getElem? (i := 14) rfl))) (by decide) (t := .int) (t' := .int) (by decide) (by decide))))
  have f41 := (Fw28.other W33 (Or.inr (slot_ne (Or.inl (hw _ (List.mem_of_getElem? (i := 12) rfl))) (Or.inl (hw _ (List.mem_of_getElem? (i := 14) rfl))) (by decide) (t := .int) (t' := .int) (by decide) (by decide))))
  have f42 := (((((G11_layoutMarginLeft.other W14 (Or.inr (slot_ne (Or.inl (hw _ (List.mem_of_getElem? (i := 29) rfl))) (Or.inl (hw _ (List.mem_of_getElem? (i := 16) rfl))) (by decide) (t := .int) (t' := .int) (by decide) (by decide)))).other W18 (Or.inr (slot_ne (Or.inl (hw _ (List.mem_of_getElem? (i := 29) rfl))) (Or.inl (hw _ (List.mem_of_getElem? (i := 18) rfl))) (by decide) (t := .int) (t' := .int) (by decide) (by decide)))).other W23 (Or.inr (slot_ne (Or.inl (hw _ (List.mem_of_getElem? (i := 29) rfl))) (Or.inl (hw _ (List.mem_of_getElem? (i := 20) rfl))) (by decide) (t := .int) (t' := .int) (by decide) (by decide)))).other W28 (Or.inr (slot_ne (Or.inl (hw _ (List.mem_of_getElem? (i := 29) rfl))) (Or.inl (hw _ (List.mem_of_getElem? (i := 12) rfl))) (by decide) (t := .int) (t' := .int) (by decide) (by decide)))).other W33 (Or.inr (slot_ne (Or.inl (hw _ (List.mem_of_getElem? (i := 29) rfl))) (Or.inl (hw _ (List.mem_of_getElem? (i := 14) rfl))) (by decide) (t := .int) (t' := .int) (by decide) (by decide))))
  have f43 := (((((G11_layoutMarginRight.other W14 (Or.inr (slot_ne (Or.inl (hw _ (List.mem_of_getElem? (i := 32) rfl))) (Or.inl (hw _ (List.mem_of_getElem? (i := 16) rfl))) (by decide) (t := .int) (t' := .int) (by decide) (by decide)))).other W18 (Or.inr (slot_ne (Or.inl (hw _ (List.mem_of_getElem? (i := 32) rfl))) (Or.inl (hw _ (List.mem_of_getElem? (i := 18) rfl))) (by decide) (t := .int) (t' := .int) (by decide) (by decide)))).other W23 (Or.inr (slot_ne (Or.inl (hw _ (List.mem_of_getElem? (i := 32) rfl))) (Or.inl (hw _ (List.mem_of_getElem? (i := 20) rfl))) (by decide) (t := .int) (t' := .int) (by decide) (by decide)))).other W28 (Or.inr (slot_ne (Or.inl (hw _ (List.mem_of_getElem? (i := 32) rfl))) (Or.inl (hw _ (List.mem_of_getElem? (i := 12) rfl))) (by decide) (t := .int) (t' := .int) (by decide) (by decide)))).other W33 (Or.inr (slot_ne (Or.inl (hw _ (List.mem_of_getElem? (i := 32) rfl))) (Or.inl (hw _ (List.mem_of_getElem? (i := 14) rfl))) (by decide) (t := .int) (t' := .int) (by decide) (by decide))))
  have k44 : ∀ t, Steps p.tables e below (T33.setTop (mkF m 90 #[.val (.int p1), .val (.int p2), .val (.int p3), .val (.int p4), .val (.int p5), .val (.int p6), .val (.int rt), .val (.int sv), .val (.int ev), .val (.ref b8), .unset, .unset] [(.int rt), (.ref b8)])) t → Steps p.tables e below (s₁.setTop (entryFrame m #[(.int p1), (.int p2), (.int p3), (.int p4), (.int p5), (.int p6)] maxLocals)) t := by
    intro t k
    refine k33 _ ?_
    show Steps p.tables e below (T33.setTop (mkF m 86 #[.val (.int p1), .val (.int p2), .val (.int p3), .val (.int p4), .val (.int p5), .val (.int p6), .val (.int rt), .val (.int sv), .val (.int ev), .val (.ref b8), .unset, .unset] [])) _
    refine XS.aload X33.here hx rfl (hb hby at_86) rfl rfl ?_
    show Steps p.tables e below (T33.setTop (mkF m 88 #[.val (.int p1), .val (.int p2), .val (.int p3), .val (.int p4), .val (.int p5), .val (.int p6), .val (.int rt), .val (.int sv), .val (.int ev), .val (.ref b8), .unset, .unset] [(.ref b8)])) _
    refine XS.iload X33.here hx rfl (hb hby at_88) rfl ?_
    show Steps p.tables e below (T33.setTop (mkF m 90 #[.val (.int p1), .val (.int p2), .val (.int p3), .val (.int p4), .val (.int p5), .val (.int p6), .val (.int rt), .val (.int sv), .val (.int ev), .val (.ref b8), .unset, .unset] [(.int rt), (.ref b8)])) _
    exact k
  obtain ⟨cq45, kq45, q45a, q45b, q45c⟩ := isOf hZ e33 f37
  obtain ⟨_, _, ⟨T45, L45, ck45, nk45⟩, -, X45, ⟨Lc45, hQ45, l45, y45, z45⟩, st45⟩ := X33.virtualBack hx (y := (⟨"com/example/frameloom/frameloom/Spacing", "resolve", "(Z)V"⟩ : MethodName)) (z := (⟨"com/example/frameloom/frameloom/Spacing", "resolve", "(Z)V"⟩ : MethodName)) hown (mvT hZ (hw _ (List.mem_of_getElem? (i := 23) rfl))) (mvT hZ (hw _ (List.mem_of_getElem? (i := 24) rfl))) (notFace_of_selects (args := #[]) (mvT hZ (hw _ (List.mem_of_getElem? (i := 26) rfl)))) (mvT hZ (hw _ (List.mem_of_getElem? (i := 26) rfl))) (mvT hZ (hw _ (List.mem_of_getElem? (i := 25) rfl))) (by decide) (backOf (W := 0) (rm2 l Z a0 hw [] b8 rt p1 p2 p5 sv ev (0 : Int32) (0 : Int32) h33 n0 Z36 f37 g_b8 f38 f39 f40 f41 Fw33 f42 f43) hZ (hw _ (List.mem_of_getElem? (i := 27) rfl)) (hw _ (List.mem_of_getElem? (i := 3) rfl)) (by decide) (by decide)) q45a q45c (g := (mkF m 90 #[.val (.int p1), .val (.int p2), .val (.int p3), .val (.int p4), .val (.int p5), .val (.int p6), .val (.int rt), .val (.int sv), .val (.int ev), .val (.ref b8), .unset, .unset] [(.int rt), (.ref b8)])) rfl (by rw [hml]; rfl) (Steps.refl _) (argsL := [(.int rt)]) (rest := []) (lenOf pd_1 rfl) rfl (by show 2 * 0 + _ ≤ _; exact Nat.le_of_eq rfl) (hb hby at_90) (fun _ _ => ⟨rfl, e33, (by decide : 1 + 0 ≤ _), (by decide : 12 + 0 ≤ _)⟩)
  dsimp only [Pt.U, Pt.locs, Pt.cells, Pt.slots] at X45 l45 y45 z45 st45 hQ45
  subst l45 y45 z45
  obtain ⟨rfl, N45q, K45, G45_marginLeft, G45_marginRight, G45_marginTop, G45_marginStart, G45_marginEnd, G45_layoutMarginLeft, G45_layoutMarginRight⟩ := hQ45
  have N45 := Fr.app N33 N45q
  have k45 : ∀ t, Steps p.tables e below (T45.setTop (mkF m 93 #[.val (.int p1), .val (.int p2), .val (.int p3), .val (.int p4), .val (.int p5), .val (.int p6), .val (.int rt), .val (.int sv), .val (.int ev), .val (.ref b8), .unset, .unset] [])) t → Steps p.tables e below (s₁.setTop (entryFrame m #[(.int p1), (.int p2), (.int p3), (.int p4), (.int p5), (.int p6)] maxLocals)) t := fun t k => k44 t (st45.trans k)
  have Z46 : n0 ≤ T45.heap.size := Nat.le_trans Z36 K45.1
  obtain ⟨eL, eq_eL⟩ : ∃ z : Int32, z = (if rt = (0 : Int32) then (if sv = (-2147483648 : Int32) then p1 else sv) else (if ev = (-2147483648 : Int32) then p1 else ev)) := ⟨_, rfl⟩
  obtain ⟨eR, eq_eR⟩ : ∃ z : Int32, z = (if rt = (0 : Int32) then (if ev = (-2147483648 : Int32) then p2 else ev) else (if sv = (-2147483648 : Int32) then p2 else sv)) := ⟨_, rfl⟩
  have k54 : ∀ t, Steps p.tables e below (T45.setTop (mkF m 169 #[.val (.int p1), .val (.int p2), .val (.int p3), .val (.int p4), .val (.int p5), .val (.int p6), .val (.int rt), .val (.int sv), .val (.int ev), .val (.ref b8), .val (.int eL), .val (.int eR)] [])) t → Steps p.tables e below (s₁.setTop (entryFrame m #[(.int p1), (.int p2), (.int p3), (.int p4), (.int p5), (.int p6)] maxLocals)) t := by
    intro t k
    refine k45 _ ?_
    show Steps p.tables e below (T45.setTop (mkF m 93 #[.val (.int p1), .val (.int p2), .val (.int p3), .val (.int p4), .val (.int p5), .val (.int p6), .val (.int rt), .val (.int sv), .val (.int ev), .val (.ref b8), .unset, .unset] [])) _
    refine XS.iload X45.here hx rfl (hb hby at_93) rfl ?_
    show Steps p.tables e below (T45.setTop (mkF m 95 #[.val (.int p1), .val (.int p2), .val (.int p3), .val (.int p4), .val (.int p5), .val (.int p6), .val (.int rt), .val (.int sv), .val (.int ev), .val (.ref b8), .unset, .unset] [(.int rt)])) _
    by_cases hc47_95 : rt = (0 : Int32)
    · show Steps p.tables e below (T45.setTop (mkF m 95 #[.val (.int p1), .val (.int p2), .val (.int p3), .val (.int p4), .val (.int p5), .val (.int p6), .val (.int rt), .val (.int sv), .val (.int ev), .val (.ref b8), .unset, .unset] [(.int rt)])) _
      refine XS.ifYes X45.here hx rfl (pc0 := 95) (pc' := 135) rfl (hb hby at_95) rfl ((if0 _ _).trans (teq hc47_95).1) (by decide) (by decide) ?_
      show Steps p.tables e below (T45.setTop (mkF m 135 #[.val (.int p1), .val (.int p2), .val (.int p3), .val (.int p4), .val (.int p5), .val (.int p6), .val (.int rt), .val (.int sv), .val (.int ev), .val (.ref b8), .unset, .unset] [])) _
      refine XS.iload X45.here hx rfl (hb hby at_135) rfl ?_
      show Steps p.tables e below (T45.setTop (mkF m 137 #[.val (.int p1), .val (.int p2), .val (.int p3), .val (.int p4), .val (.int p5), .val (.int p6), .val (.int rt), .val (.int sv), .val (.int ev), .val (.ref b8), .unset, .unset] [(.int sv)])) _
      refine X45.ldcInt hx hown (mvT hZ (hw _ (List.mem_of_getElem? (i := 0) rfl))) (g := (mkF m 137 #[.val (.int p1), .val (.int p2), .val (.int p3), .val (.int p4), .val (.int p5), .val (.int p6), .val (.int rt), .val (.int sv), .val (.int ev), .val (.ref b8), .unset, .unset] [(.int sv)])) rfl (hb hby at_137) _ ?_
      show Steps p.tables e below (T45.setTop (mkF m 139 #[.val (.int p1), .val (.int p2), .val (.int p3), .val (.int p4), .val (.int p5), .val (.int p6), .val (.int rt), .val (.int sv), .val (.int ev), .val (.ref b8), .unset, .unset] [(.int (-2147483648 : Int32)), (.int sv)])) _
      by_cases hc48_139 : sv = (-2147483648 : Int32)
      · show Steps p.tables e below (T45.setTop (mkF m 139 #[.val (.int p1), .val (.int p2), .val (.int p3), .val (.int p4), .val (.int p5), .val (.int p6), .val (.int rt), .val (.int sv), .val (.int ev), .val (.ref b8), .unset, .unset] [(.int (-2147483648 : Int32)), (.int sv)])) _
        refine XS.icmpYes X45.here hx rfl (pc0 := 139) (pc' := 149) rfl (hb hby at_139) rfl (teq hc48_139).1 (by decide) (by decide) ?_
        show Steps p.tables e below (T45.setTop (mkF m 149 #[.val (.int p1), .val (.int p2), .val (.int p3), .val (.int p4), .val (.int p5), .val (.int p6), .val (.int rt), .val (.int sv), .val (.int ev), .val (.ref b8), .unset, .unset] [])) _
        refine XS.iloadN X45.here hx rfl (hb hby at_149) rfl ?_
        show Steps p.tables e below (T45.setTop (mkF m 150 #[.val (.int p1), .val (.int p2), .val (.int p3), .val (.int p4), .val (.int p5), .val (.int p6), .val (.int rt), .val (.int sv), .val (.int ev), .val (.ref b8), .unset, .unset] [(.int p1)])) _
        refine XS.istore X45.here hx rfl (hb hby at_150) rfl (l' := #[.val (.int p1), .val (.int p2), .val (.int p3), .val (.int p4), .val (.int p5), .val (.int p6), .val (.int rt), .val (.int sv), .val (.int ev), .val (.ref b8), .val (.int p1), .unset]) rfl ?_
        show Steps p.tables e below (T45.setTop (mkF m 152 #[.val (.int p1), .val (.int p2), .val (.int p3), .val (.int p4), .val (.int p5), .val (.int p6), .val (.int rt), .val (.int sv), .val (.int ev), .val (.ref b8), .val (.int p1), .unset] [])) _
        refine XS.iload X45.here hx rfl (hb hby at_152) rfl ?_
        show Steps p.tables e below (T45.setTop (mkF m 154 #[.val (.int p1), .val (.int p2), .val (.int p3), .val (.int p4), .val (.int p5), .val (.int p6), .val (.int rt), .val (.int sv), .val (.int ev), .val (.ref b8), .val (.int p1), .unset] [(.int ev)])) _
        refine X45.ldcInt hx hown (mvT hZ (hw _ (List.mem_of_getElem? (i := 0) rfl))) (g := (mkF m 154 #[.val (.int p1), .val (.int p2), .val (.int p3), .val (.int p4), .val (.int p5), .val (.int p6), .val (.int rt), .val (.int sv), .val (.int ev), .val (.ref b8), .val (.int p1), .unset] [(.int ev)])) rfl (hb hby at_154) _ ?_
        show Steps p.tables e below (T45.setTop (mkF m 156 #[.val (.int p1), .val (.int p2), .val (.int p3), .val (.int p4), .val (.int p5), .val (.int p6), .val (.int rt), .val (.int sv), .val (.int ev), .val (.ref b8), .val (.int p1), .unset] [(.int (-2147483648 : Int32)), (.int ev)])) _
        by_cases hc49_156 : ev = (-2147483648 : Int32)
        · rw [show eL = p1 by rw [eq_eL, if_pos hc47_95, if_pos hc48_139]] at k
          rw [show eR = p2 by rw [eq_eR, if_pos hc47_95, if_pos hc49_156]] at k
          show Steps p.tables e below (T45.setTop (mkF m 156 #[.val (.int p1), .val (.int p2), .val (.int p3), .val (.int p4), .val (.int p5), .val (.int p6), .val (.int rt), .val (.int sv), .val (.int ev), .val (.ref b8), .val (.int p1), .unset] [(.int (-2147483648 : Int32)), (.int ev)])) _
          refine XS.icmpYes X45.here hx rfl (pc0 := 156) (pc' := 166) rfl (hb hby at_156) rfl (teq hc49_156).1 (by decide) (by decide) ?_
          show Steps p.tables e below (T45.setTop (mkF m 166 #[.val (.int p1), .val (.int p2), .val (.int p3), .val (.int p4), .val (.int p5), .val (.int p6), .val (.int rt), .val (.int sv), .val (.int ev), .val (.ref b8), .val (.int p1), .unset] [])) _
          refine XS.iloadN X45.here hx rfl (hb hby at_166) rfl ?_
          show Steps p.tables e below (T45.setTop (mkF m 167 #[.val (.int p1), .val (.int p2), .val (.int p3), .val (.int p4), .val (.int p5), .val (.int p6), .val (.int rt), .val (.int sv), .val (.int ev), .val (.ref b8), .val (.int p1), .unset] [(.int p2)])) _
          refine XS.istore X45.here hx rfl (hb hby at_167) rfl (l' := #[.val (.int p1), .val (.int p2), .val (.int p3), .val (.int p4), .val (.int p5), .val (.int p6), .val (.int rt), .val (.int sv), .val (.int ev), .val (.ref b8), .val (.int p1), .val (.int p2)]) rfl ?_
          show Steps p.tables e below (T45.setTop (mkF m 169 #[.val (.int p1), .val (.int p2), .val (.int p3), .val (.int p4), .val (.int p5), .val (.int p6), .val (.int rt), .val (.int sv), .val (.int ev), .val (.ref b8), .val (.int p1), .val (.int p2)] [])) _
          exact k
        · rw [show eL = p1 by rw [eq_eL, if_pos hc47_95, if_pos hc48_139]] at k
          rw [show eR = ev by rw [eq_eR, if_pos hc47_95, if_neg hc49_156]] at k
          show Steps p.tables e below (T45.setTop (mkF m 156 #[.val (.int p1), .val (.int p2), .val (.int p3), .val (.int p4), .val (.int p5), .val (.int p6), .val (.int rt), .val (.int sv), .val (.int ev), .val (.ref b8), .val (.int p1), .unset] [(.int (-2147483648 : Int32)), (.int ev)])) _
          refine XS.icmpNo X45.here hx rfl (hb hby at_156) rfl (feq hc49_156).1 ?_
          show Steps p.tables e below (T45.setTop (mkF m 159 #[.val (.int p1), .val (.int p2), .val (.int p3), .val (.int p4), .val (.int p5), .val (.int p6), .val (.int rt), .val (.int sv), .val (.int ev), .val (.ref b8), .val (.int p1), .unset] [])) _
          refine XS.iload X45.here hx rfl (hb hby at_159) rfl ?_
          show Steps p.tables e below (T45.setTop (mkF m 161 #[.val (.int p1), .val (.int p2), .val (.int p3), .val (.int p4), .val (.int p5), .val (.int p6), .val (.int rt), .val (.int sv), .val (.int ev), .val (.ref b8), .val (.int p1), .unset] [(.int ev)])) _
          refine XS.istore X45.here hx rfl (hb hby at_161) rfl (l' := #[.val (.int p1), .val (.int p2), .val (.int p3), .val (.int p4), .val (.int p5), .val (.int p6), .val (.int rt), .val (.int sv), .val (.int ev), .val (.ref b8), .val (.int p1), .val (.int ev)]) rfl ?_
          show Steps p.tables e below (T45.setTop (mkF m 163 #[.val (.int p1), .val (.int p2), .val (.int p3), .val (.int p4), .val (.int p5), .val (.int p6), .val (.int rt), .val (.int sv), .val (.int ev), .val (.ref b8), .val (.int p1), .val (.int ev)] [])) _
          refine XS.goto X45.here hx rfl (pc0 := 163) (pc' := 169) rfl (hb hby at_163) (by decide) (by decide) ?_
          show Steps p.tables e below (T45.setTop (mkF m 169 #[.val (.int p1), .val (.int p2), .val (.int p3), .val (.int p4), .val (.int p5), .val (.int p6), .val (.int rt), .val (.int sv), .val (.int ev), .val (.ref b8), .val (.int p1), .val (.int ev)] [])) _
          exact k
      · show Steps p.tables e below (T45.setTop (mkF m 139 #[.val (.int p1), .val (.int p2), .val (.int p3), .val (.int p4), .val (.int p5), .val (.int p6), .val (.int rt), .val (.int sv), .val (.int ev), .val (.ref b8), .unset, .unset] [(.int (-2147483648 : Int32)), (.int sv)])) _
        refine XS.icmpNo X45.here hx rfl (hb hby at_139) rfl (feq hc48_139).1 ?_
        show Steps p.tables e below (T45.setTop (mkF m 142 #[.val (.int p1), .val (.int p2), .val (.int p3), .val (.int p4), .val (.int p5), .val (.int p6), .val (.int rt), .val (.int sv), .val (.int ev), .val (.ref b8), .unset, .unset] [])) _
        refine XS.iload X45.here hx rfl (hb hby at_142) rfl ?_
        show Steps p.tables e below (T45.setTop (mkF m 144 #[.val (.int p1), .val (.int p2), .val (.int p3), .val (.int p4), .val (.int p5), .val (.int p6), .val (.int rt), .val (.int sv), .val (.int ev), .val (.ref b8), .unset, .unset] [(.int sv)])) _
        refine XS.istore X45.here hx rfl (hb hby at_144) rfl (l' := #[.val (.int p1), .val (.int p2), .val (.int p3), .val (.int p4), .val (.int p5), .val (.int p6), .val (.int rt), .val (.int sv), .val (.int ev), .val (.ref b8), .val (.int sv), .unset]) rfl ?_
        show Steps p.tables e below (T45.setTop (mkF m 146 #[.val (.int p1), .val (.int p2), .val (.int p3), .val (.int p4), .val (.int p5), .val (.int p6), .val (.int rt), .val (.int sv), .val (.int ev), .val (.ref b8), .val (.int sv), .unset] [])) _
        refine XS.goto X45.here hx rfl (pc0 := 146) (pc' := 152) rfl (hb hby at_146) (by decide) (by decide) ?_
        show Steps p.tables e below (T45.setTop (mkF m 152 #[.val (.int p1), .val (.int p2), .val (.int p3), .val (.int p4), .val (.int p5), .val (.int p6), .val (.int rt), .val (.int sv), .val (.int ev), .val (.ref b8), .val (.int sv), .unset] [])) _
        refine XS.iload X45.here hx rfl (hb hby at_152) rfl ?_
        show Steps p.tables e below (T45.setTop (mkF m 154 #[.val (.int p1), .val (.int p2), .val (.int p3), .val (.int p4), .val (.int p5), .val (.int p6), .val (.int rt), .val (.int sv), .val (.int ev), .val (.ref b8), .val (.int sv), .unset] [(.int ev)])) _
        refine X45.ldcInt hx hown (mvT hZ (hw _ (List.mem_of_getElem? (i := 0) rfl))) (g := (mkF m 154 #[.val (.int p1), .val (.int p2), .val (.int p3), .val (.int p4), .val (.int p5), .val (.int p6), .val (.int rt), .val (.int sv), .val (.int ev), .val (.ref b8), .val (.int sv), .unset] [(.int ev)])) rfl (hb hby at_154) _ ?_
        show Steps p.tables e below (T45.setTop (mkF m 156 #[.val (.int p1), .val (.int p2), .val (.int p3), .val (.int p4), .val (.int p5), .val (.int p6), .val (.int rt), .val (.int sv), .val (.int ev), .val (.ref b8), .val (.int sv), .unset] [(.int (-2147483648 : Int32)), (.int ev)])) _
        by_cases hc50_156 : ev = (-2147483648 : Int32)
        · rw [show eL = sv by rw [eq_eL, if_pos hc47_95, if_neg hc48_139]] at k
          rw [show eR = p2 by rw [eq_eR, if_pos hc47_95, if_pos hc50_156]] at k
          show Steps p.tables e below (T45.setTop (mkF m 156 #[.val (.int p1), .val (.int p2), .val (.int p3), .val (.int p4), .val (.int p5), .val (.int p6), .val (.int rt), .val (.int sv), .val (.int ev), .val (.ref b8), .val (.int sv), .unset] [(.int (-2147483648 : Int32)), (.int ev)])) _
          refine XS.icmpYes X45.here hx rfl (pc0 := 156) (pc' := 166) rfl (hb hby at_156) rfl (teq hc50_156).1 (by decide) (by decide) ?_
          show Steps p.tables e below (T45.setTop (mkF m 166 #[.val (.int p1), .val (.int p2), .val (.int p3), .val (.int p4), .val (.int p5), .val (.int p6), .val (.int rt), .val (.int sv), .val (.int ev), .val (.ref b8), .val (.int sv), .unset] [])) _
          refine XS.iloadN X45.here hx rfl (hb hby at_166) rfl ?_
          show Steps p.tables e below (T45.setTop (mkF m 167 #[.val (.int p1), .val (.int p2), .val (.int p3), .val (.int p4), .val (.int p5), .val (.int p6), .val (.int rt), .val (.int sv), .val (.int ev), .val (.ref b8), .val (.int sv), .unset] [(.int p2)])) _
          refine XS.istore X45.here hx rfl (hb hby at_167) rfl (l' := #[.val (.int p1), .val (.int p2), .val (.int p3), .val (.int p4), .val (.int p5), .val (.int p6), .val (.int rt), .val (.int sv), .val (.int ev), .val (.ref b8), .val (.int sv), .val (.int p2)]) rfl ?_
          show Steps p.tables e below (T45.setTop (mkF m 169 #[.val (.int p1), .val (.int p2), .val (.int p3), .val (.int p4), .val (.int p5), .val (.int p6), .val (.int rt), .val (.int sv), .val (.int ev), .val (.ref b8), .val (.int sv), .val (.int p2)] [])) _
          exact k
        · rw [show eL = sv by rw [eq_eL, if_pos hc47_95, if_neg hc48_139]] at k
          rw [show eR = ev by rw [eq_eR, if_pos hc47_95, if_neg hc50_156]] at k
          show Steps p.tables e below (T45.setTop (mkF m 156 #[.val (.int p1), .val (.int p2), .val (.int p3), .val (.int p4), .val (.int p5), .val (.int p6), .val (.int rt), .val (.int sv), .val (.int ev), .val (.ref b8), .val (.int sv), .unset] [(.int (-2147483648 : Int32)), (.int ev)])) _
          refine XS.icmpNo X45.here hx rfl (hb hby at_156) rfl (feq hc50_156).1 ?_
          show Steps p.tables e below (T45.setTop (mkF m 159 #[.val (.int p1), .val (.int p2), .val (.int p3), .val (.int p4), .val (.int p5), .val (.int p6), .val (.int rt), .val (.int sv), .val (.int ev), .val (.ref b8), .val (.int sv), .unset] [])) _
          refine XS.iload X45.here hx rfl (hb hby at_159) rfl ?_
          show Steps p.tables e below (T45.setTop (mkF m 161 #[.val (.int p1), .val (.int p2), .val (.int p3), .val (.int p4), .val (.int p5), .val (.int p6), .val (.int rt), .val (.int sv), .val (.int ev), .val (.ref b8), .val (.int sv), .unset] [(.int ev)])) _
          refine XS.istore X45.here hx rfl (hb hby at_161) rfl (l' := #[.val (.int p1), .val (.int p2), .val (.int p3), .val (.int p4), .val (.int p5), .val (.int p6), .val (.int rt), .val (.int sv), .val (.int ev), .val (.ref b8), .val (.int sv), .val (.int ev)]) rfl ?_
          show Steps p.tables e below (T45.setTop (mkF m 163 #[.val (.int p1), .val (.int p2), .val (.int p3), .val (.int p4), .val (.int p5), .val (.int p6), .val (.int rt), .val (.int sv), .val (.int ev), .val (.ref b8), .val (.int sv), .val (.int ev)] [])) _
          refine XS.goto X45.here hx rfl (pc0 := 163) (pc' := 169) rfl (hb hby at_163) (by decide) (by decide) ?_
          show Steps p.tables e below (T45.setTop (mkF m 169 #[.val (.int p1), .val (.int p2), .val (.int p3), .val (.int p4), .val (.int p5), .val (.int p6), .val (.int rt), .val (.int sv), .val (.int ev), .val (.ref b8), .val (.int sv), .val (.int ev)] [])) _
          exact k
    · show Steps p.tables e below (T45.setTop (mkF m 95 #[.val (.int p1), .val (.int p2), .val (.int p3), .val (.int p4), .val (.int p5), .val (.int p6), .val (.int rt), .val (.int sv), .val (.int ev), .val (.ref b8), .unset, .unset] [(.int rt)])) _
      refine XS.ifNo X45.here hx rfl (hb hby at_95) rfl ((if0 _ _).trans (feq hc47_95).1) ?_
      show Steps p.tables e below (T45.setTop (mkF m 98 #[.val (.int p1), .val (.int p2), .val (.int p3), .val (.int p4), .val (.int p5), .val (.int p6), .val (.int rt), .val (.int sv), .val (.int ev), .val (.ref b8), .unset, .unset] [])) _
      refine XS.iload X45.here hx rfl (hb hby at_98) rfl ?_
      show Steps p.tables e below (T45.setTop (mkF m 100 #[.val (.int p1), .val (.int p2), .val (.int p3), .val (.int p4), .val (.int p5), .val (.int p6), .val (.int rt), .val (.int sv), .val (.int ev), .val (.ref b8), .unset, .unset] [(.int ev)])) _
      refine X45.ldcInt hx hown (mvT hZ (hw _ (List.mem_of_getElem? (i := 0) rfl))) (g := (mkF m 100 #[.val (.int p1), .val (.int p2), .val (.int p3), .val (.int p4), .val (.int p5), .val (.int p6), .val (.int rt), .val (.int sv), .val (.int ev), .val (.ref b8), .unset, .unset] [(.int ev)])) rfl (hb hby at_100) _ ?_
      show Steps p.tables e below (T45.setTop (mkF m 102 #[.val (.int p1), .val (.int p2), .val (.int p3), .val (.int p4), .val (.int p5), .val (.int p6), .val (.int rt), .val (.int sv), .val (.int ev), .val (.ref b8), .unset, .unset] [(.int (-2147483648 : Int32)), (.int ev)])) _
      by_cases hc51_102 : ev = (-2147483648 : Int32)
      · show Steps p.tables e below (T45.setTop (mkF m 102 #[.val (.int p1), .val (.int p2), .val (.int p3), .val (.int p4), .val (.int p5), .val (.int p6), .val (.int rt), .val (.int sv), .val (.int ev), .val (.ref b8), .unset, .unset] [(.int (-2147483648 : Int32)), (.int ev)])) _
        refine XS.icmpYes X45.here hx rfl (pc0 := 102) (pc' := 112) rfl (hb hby at_102) rfl (teq hc51_102).1 (by decide) (by decide) ?_
        show Steps p.tables e below (T45.setTop (mkF m 112 #[.val (.int p1), .val (.int p2), .val (.int p3), .val (.int p4), .val (.int p5), .val (.int p6), .val (.int rt), .val (.int sv), .val (.int ev), .val (.ref b8), .unset, .unset] [])) _
        refine XS.iloadN X45.here hx rfl (hb hby at_112) rfl ?_
        show Steps p.tables e below (T45.setTop (mkF m 113 #[.val (.int p1), .val (.int p2), .val (.int p3), .val (.int p4), .val (.int p5), .val (.int p6), .val (.int rt), .val (.int sv), .val (.int ev), .val (.ref b8), .unset, .unset] [(.int p1)])) _
        refine XS.istore X45.here hx rfl (hb hby at_113) rfl (l' := #[.val (.int p1), .val (.int p2), .val (.int p3), .val (.int p4), .val (.int p5), .val (.int p6), .val (.int rt), .val (.int sv), .val (.int ev), .val (.ref b8), .val (.int p1), .unset]) rfl ?_
        show Steps p.tables e below (T45.setTop (mkF m 115 #[.val (.int p1), .val (.int p2), .val (.int p3), .val (.int p4), .val (.int p5), .val (.int p6), .val (.int rt), .val (.int sv), .val (.int ev), .val (.ref b8), .val (.int p1), .unset] [])) _
        refine XS.iload X45.here hx rfl (hb hby at_115) rfl ?_
        show Steps p.tables e below (T45.setTop (mkF m 117 #[.val (.int p1), .val (.int p2), .val (.int p3), .val (.int p4), .val (.int p5), .val (.int p6), .val (.int rt), .val (.int sv), .val (.int ev), .val (.ref b8), .val (.int p1), .unset] [(.int sv)])) _
        refine X45.ldcInt hx hown (mvT hZ (hw _ (List.mem_of_getElem? (i := 0) rfl))) (g := (mkF m 117 #[.val (.int p1), .val (.int p2), .val (.int p3), .val (.int p4), .val (.int p5), .val (.int p6), .val (.int rt), .val (.int sv), .val (.int ev), .val (.ref b8), .val (.int p1), .unset] [(.int sv)])) rfl (hb hby at_117) _ ?_
        show Steps p.tables e below (T45.setTop (mkF m 119 #[.val (.int p1), .val (.int p2), .val (.int p3), .val (.int p4), .val (.int p5), .val (.int p6), .val (.int rt), .val (.int sv), .val (.int ev), .val (.ref b8), .val (.int p1), .unset] [(.int (-2147483648 : Int32)), (.int sv)])) _
        by_cases hc52_119 : sv = (-2147483648 : Int32)
        · rw [show eL = p1 by rw [eq_eL, if_neg hc47_95, if_pos hc51_102]] at k
          rw [show eR = p2 by rw [eq_eR, if_neg hc47_95, if_pos hc52_119]] at k
          show Steps p.tables e below (T45.setTop (mkF m 119 #[.val (.int p1), .val (.int p2), .val (.int p3), .val (.int p4), .val (.int p5), .val (.int p6), .val (.int rt), .val (.int sv), .val (.int ev), .val (.ref b8), .val (.int p1), .unset] [(.int (-2147483648 : Int32)), (.int sv)])) _
          refine XS.icmpYes X45.here hx rfl (pc0 := 119) (pc' := 129) rfl (hb hby at_119) rfl (teq hc52_119).1 (by decide) (by decide) ?_
          show Steps p.tables e below (T45.setTop (mkF m 129 #[.val (.int p1), .val (.int p2), .val (.int p3), .val (.int p4), .val (.int p5), .val (.int p6), .val (.int rt), .val (.int sv), .val (.int ev), .val (.ref b8), .val (.int p1), .unset] [])) _
          refine XS.iloadN X45.here hx rfl (hb hby at_129) rfl ?_
          show Steps p.tables e below (T45.setTop (mkF m 130 #[.val (.int p1), .val (.int p2), .val (.int p3), .val (.int p4), .val (.int p5), .val (.int p6), .val (.int rt), .val (.int sv), .val (.int ev), .val (.ref b8), .val (.int p1), .unset] [(.int p2)])) _
          refine XS.istore X45.here hx rfl (hb hby at_130) rfl (l' := #[.val (.int p1), .val (.int p2), .val (.int p3), .val (.int p4), .val (.int p5), .val (.int p6), .val (.int rt), .val (.int sv), .val (.int ev), .val (.ref b8), .val (.int p1), .val (.int p2)]) rfl ?_
          show Steps p.tables e below (T45.setTop (mkF m 132 #[.val (.int p1), .val (.int p2), .val (.int p3), .val (.int p4), .val (.int p5), .val (.int p6), .val (.int rt), .val (.int sv), .val (.int ev), .val (.ref b8), .val (.int p1), .val (.int p2)] [])) _
          refine XS.goto X45.here hx rfl (pc0 := 132) (pc' := 169) rfl (hb hby at_132) (by decide) (by decide) ?_
          show Steps p.tables e below (T45.setTop (mkF m 169 #[.val (.int p1), .val (.int p2), .val (.int p3), .val (.int p4), .val (.int p5), .val (.int p6), .val (.int rt), .val (.int sv), .val (.int ev), .val (.ref b8), .val (.int p1), .val (.int p2)] [])) _
          exact k
        · rw [show eL = p1 by rw [eq_eL, if_neg hc47_95, if_pos hc51_102]] at k
          rw [show eR = sv by rw [eq_eR, if_neg hc47_95, if_neg hc52_119]] at k
          show Steps p.tables e below (T45.setTop (mkF m 119 #[.val (.int p1), .val (.int p2), .val (.int p3), .val (.int p4), .val (.int p5), .val (.int p6), .val (.int rt), .val (.int sv), .val (.int ev), .val (.ref b8), .val (.int p1), .unset] [(.int (-2147483648 : Int32)), (.int sv)])) _
          refine XS.icmpNo X45.here hx rfl (hb hby at_119) rfl (feq hc52_119).1 ?_
          show Steps p.tables e below (T45.setTop (mkF m 122 #[.val (.int p1), .val (.int p2), .val (.int p3), .val (.int p4), .val (.int p5), .val (.int p6), .val (.int rt), .val (.int sv), .val (.int ev), .val (.ref b8), .val (.int p1), .unset] [])) _
          refine XS.iload X45.here hx rfl (hb hby at_122) rfl ?_
          show Steps p.tables e below (T45.setTop (mkF m 124 #[.val (.int p1), .val (.int p2), .val (.int p3), .val (.int p4), .val (.int p5), .val (.int p6), .val (.int rt), .val (.int sv), .val (.int ev), .val (.ref b8), .val (.int p1), .unset] [(.int sv)])) _
          refine XS.istore X45.here hx rfl (hb hby at_124) rfl (l' := #[.val (.int p1), .val (.int p2), .val (.int p3), .val (.int p4), .val (.int p5), .val (.int p6), .val (.int rt), .val (.int sv), .val (.int ev), .val (.ref b8), .val (.int p1), .val (.int sv)]) rfl ?_
          show Steps p.tables e below (T45.setTop (mkF m 126 #[.val (.int p1), .val (.int p2), .val (.int p3), .val (.int p4), .val (.int p5), .val (.int p6), .val (.int rt), .val (.int sv), .val (.int ev), .val (.ref b8), .val (.int p1), .val (.int sv)] [])) _
          refine XS.goto X45.here hx rfl (pc0 := 126) (pc' := 169) rfl (hb hby at_126) (by decide) (by decide) ?_
          show Steps p.tables e below (T45.setTop (mkF m 169 #[.val (.int p1), .val (.int p2), .val (.int p3), .val (.int p4), .val (.int p5), .val (.int p6), .val (.int rt), .val (.int sv), .val (.int ev), .val (.ref b8), .val (.int p1), .val (.int sv)] [])) _
          exact k
      · show Steps p.tables e below (T45.setTop (mkF m 102 #[.val (.int p1), .val (.int p2), .val (.int p3), .val (.int p4), .val (.int p5), .val (.int p6), .val (.int rt), .val (.int sv), .val (.int ev), .val (.ref b8), .unset, .unset] [(.int (-2147483648 : Int32)), (.int ev)])) _
        refine XS.icmpNo X45.here hx rfl (hb hby at_102) rfl (feq hc51_102).1 ?_
        show Steps p.tables e below (T45.setTop (mkF m 105 #[.val (.int p1), .val (.int p2), .val (.int p3), .val (.int p4), .val (.int p5), .val (.int p6), .val (.int rt), .val (.int sv), .val (.int ev), .val (.ref b8), .unset, .unset] [])) _
        refine XS.iload X45.here hx rfl (hb hby at_105) rfl ?_
        show Steps p.tables e below (T45.setTop (mkF m 107 #[.val (.int p1), .val (.int p2), .val (.int p3), .val (.int p4), .val (.int p5), .val (.int p6), .val (.int rt), .val (.int sv), .val (.int ev), .val (.ref b8), .unset, .unset] [(.int ev)])) _
        refine XS.istore X45.here hx rfl (hb hby at_107) rfl (l' := #[.val (.int p1), .val (.int p2), .val (.int p3), .val (.int p4), .val (.int p5), .val (.int p6), .val (.int rt), .val (.int sv), .val (.int ev), .val (.ref b8), .val (.int ev), .unset]) rfl ?_
        show Steps p.tables e below (T45.setTop (mkF m 109 #[.val (.int p1), .val (.int p2), .val (.int p3), .val (.int p4), .val (.int p5), .val (.int p6), .val (.int rt), .val (.int sv), .val (.int ev), .val (.ref b8), .val (.int ev), .unset] [])) _
        refine XS.goto X45.here hx rfl (pc0 := 109) (pc' := 115) rfl (hb hby at_109) (by decide) (by decide) ?_
        show Steps p.tables e below (T45.setTop (mkF m 115 #[.val (.int p1), .val (.int p2), .val (.int p3), .val (.int p4), .val (.int p5), .val (.int p6), .val (.int rt), .val (.int sv), .val (.int ev), .val (.ref b8), .val (.int ev), .unset] [])) _
        refine XS.iload X45.here hx rfl (hb hby at_115) rfl ?_
        show Steps p.tables e below (T45.setTop (mkF m 117 #[.val (.int p1), .val (.int p2), .val (.int p3), .val (.int p4), .val (.int p5), .val (.int p6), .val (.int rt), .val (.int sv), .val (.int ev), .val (.ref b8), .val (.int ev), .unset] [(.int sv)])) _
        refine X45.ldcInt hx hown (mvT hZ (hw _ (List.mem_of_getElem? (i := 0) rfl))) (g := (mkF m 117 #[.val (.int p1), .val (.int p2), .val (.int p3), .val (.int p4), .val (.int p5), .val (.int p6), .val (.int rt), .val (.int sv), .val (.int ev), .val (.ref b8), .val (.int ev), .unset] [(.int sv)])) rfl (hb hby at_117) _ ?_
        show Steps p.tables e below (T45.setTop (mkF m 119 #[.val (.int p1), .val (.int p2), .val (.int p3), .val (.int p4), .val (.int p5), .val (.int p6), .val (.int rt), .val (.int sv), .val (.int ev), .val (.ref b8), .val (.int ev), .unset] [(.int (-2147483648 : Int32)), (.int sv)])) _
        by_cases hc53_119 : sv = (-2147483648 : Int32)
        · rw [show eL = ev by rw [eq_eL, if_neg hc47_95, if_neg hc51_102]] at k
          rw [show eR = p2 by rw [eq_eR, if_neg hc47_95, if_pos hc53_119]] at k
          show Steps p.tables e below (T45.setTop (mkF m 119 #[.val (.int p1), .val (.int p2), .val (.int p3), .val (.int p4), .val (.int p5), .val (.int p6), .val (.int rt), .val (.int sv), .val (.int ev), .val (.ref b8), .val (.int ev), .unset] [(.int (-2147483648 : Int32)), (.int sv)])) _
          refine XS.icmpYes X45.here hx rfl (pc0 := 119) (pc' := 129) rfl (hb hby at_119) rfl (teq hc53_119).1 (by decide) (by decide) ?_
          show Steps p.tables e below (T45.setTop (mkF m 129 #[.val (.int p1), .val (.int p2), .val (.int p3), .val (.int p4), .val (.int p5), .val (.int p6), .val (.int rt), .val (.int sv), .val (.int ev), .val (.ref b8), .val (.int ev), .unset] [])) _
          refine XS.iloadN X45.here hx rfl (hb hby at_129) rfl ?_
          show Steps p.tables e below (T45.setTop (mkF m 130 #[.val (.int p1), .val (.int p2), .val (.int p3), .val (.int p4), .val (.int p5), .val (.int p6), .val (.int rt), .val (.int sv), .val (.int ev), .val (.ref b8), .val (.int ev), .unset] [(.int p2)])) _
          refine XS.istore X45.here hx rfl (hb hby at_130) rfl (l' := #[.val (.int p1), .val (.int p2), .val (.int p3), .val (.int p4), .val (.int p5), .val (.int p6), .val (.int rt), .val (.int sv), .val (.int ev), .val (.ref b8), .val (.int ev), .val (.int p2)]) rfl ?_
          show Steps p.tables e below (T45.setTop (mkF m 132 #[.val (.int p1), .val (.int p2), .val (.int p3), .val (.int p4), .val (.int p5), .val (.int p6), .val (.int rt), .val (.int sv), .val (.int ev), .val (.ref b8), .val (.int ev), .val (.int p2)] [])) _
          refine XS.goto X45.here hx rfl (pc0 := 132) (pc' := 169) rfl (hb hby at_132) (by decide) (by decide) ?_
          show Steps p.tables e below (T45.setTop (mkF m 169 #[.val (.int p1), .val (.int p2), .val (.int p3), .val (.int p4), .val (.int p5), .val (.int p6), .val (.int rt), .val (.int sv), .val (.int ev), .val (.ref b8), .val (.int ev), .val (.int p2)] [])) _
          exact k
        · rw [show eL = ev by rw [eq_eL, if_neg hc47_95, if_neg hc51_102]] at k
          rw [show eR = sv by rw [eq_eR, if_neg hc47_95, if_neg hc53_119]] at k
          show Steps p.tables e below (T45.setTop (mkF m 119 #[.val (.int p1), .val (.int p2), .val (.int p3), .val (.int p4), .val (.int p5), .val (.int p6), .val (.int rt), .val (.int sv), .val (.int ev), .val (.ref b8), .val (.int ev), .unset] [(.int (-2147483648 : Int32)), (.int sv)])) _
          refine XS.icmpNo X45.here hx rfl (hb hby at_119) rfl (feq hc53_119).1 ?_
          show Steps p.tables e below (T45.setTop (mkF m 122 #[.val (.int p1), .val (.int p2), .val (.int p3), .val (.int p4), .val (.int p5), .val (.int p6), .val (.int rt), .val (.int sv), .val (.int ev), .val (.ref b8), .val (.int ev), .unset] [])) _
          refine XS.iload X45.here hx rfl (hb hby at_122) rfl ?_
          show Steps p.tables e below (T45.setTop (mkF m 124 #[.val (.int p1), .val (.int p2), .val (.int p3), .val (.int p4), .val (.int p5), .val (.int p6), .val (.int rt), .val (.int sv), .val (.int ev), .val (.ref b8), .val (.int ev), .unset] [(.int sv)])) _
          refine XS.istore X45.here hx rfl (hb hby at_124) rfl (l' := #[.val (.int p1), .val (.int p2), .val (.int p3), .val (.int p4), .val (.int p5), .val (.int p6), .val (.int rt), .val (.int sv), .val (.int ev), .val (.ref b8), .val (.int ev), .val (.int sv)]) rfl ?_
          show Steps p.tables e below (T45.setTop (mkF m 126 #[.val (.int p1), .val (.int p2), .val (.int p3), .val (.int p4), .val (.int p5), .val (.int p6), .val (.int rt), .val (.int sv), .val (.int ev), .val (.ref b8), .val (.int ev), .val (.int sv)] [])) _
          refine XS.goto X45.here hx rfl (pc0 := 126) (pc' := 169) rfl (hb hby at_126) (by decide) (by decide) ?_
          show Steps p.tables e below (T45.setTop (mkF m 169 #[.val (.int p1), .val (.int p2), .val (.int p3), .val (.int p4), .val (.int p5), .val (.int p6), .val (.int rt), .val (.int sv), .val (.int ev), .val (.ref b8), .val (.int ev), .val (.int sv)] [])) _
          exact k
  have k55 : ∀ t, Steps p.tables e below (T45.setTop (mkF m 171 #[.val (.int p1), .val (.int p2), .val (.int p3), .val (.int p4), .val (.int p5), .val (.int p6), .val (.int rt), .val (.int sv), .val (.int ev), .val (.ref b8), .val (.int eL), .val (.int eR)] [(.ref b8)])) t → Steps p.tables e below (s₁.setTop (entryFrame m #[(.int p1), (.int p2), (.int p3), (.int p4), (.int p5), (.int p6)] maxLocals)) t := by
    intro t k
    refine k54 _ ?_
    show Steps p.tables e below (T45.setTop (mkF m 169 #[.val (.int p1), .val (.int p2), .val (.int p3), .val (.int p4), .val (.int p5), .val (.int p6), .val (.int rt), .val (.int sv), .val (.int ev), .val (.ref b8), .val (.int eL), .val (.int eR)] [])) _
    refine XS.aload X45.here hx rfl (hb hby at_169) rfl rfl ?_
    show Steps p.tables e below (T45.setTop (mkF m 171 #[.val (.int p1), .val (.int p2), .val (.int p3), .val (.int p4), .val (.int p5), .val (.int p6), .val (.int rt), .val (.int sv), .val (.int ev), .val (.ref b8), .val (.int eL), .val (.int eR)] [(.ref b8)])) _
    exact k
  obtain ⟨T56, X56, e56, st56⟩ := getF X45 hx hZ hown (host := "") (Or.inl (hw _ (List.mem_of_getElem? (i := 33) rfl))) Via.refl rfl G45_layoutMarginLeft (g := (mkF m 171 #[.val (.int p1), .val (.int p2), .val (.int p3), .val (.int p4), .val (.int p5), .val (.int p6), .val (.int rt), .val (.int sv), .val (.int ev), .val (.ref b8), .val (.int eL), .val (.int eR)] [(.ref b8)])) rfl rfl (hb hby at_171)
  have k56 : ∀ t, Steps p.tables e below (T56.setTop (mkF m 174 #[.val (.int p1), .val (.int p2), .val (.int p3), .val (.int p4), .val (.int p5), .val (.int p6), .val (.int rt), .val (.int sv), .val (.int ev), .val (.ref b8), .val (.int eL), .val (.int eR)] [(.int (own_left rt sv ev p1))])) t → Steps p.tables e below (s₁.setTop (entryFrame m #[(.int p1), (.int p2), (.int p3), (.int p4), (.int p5), (.int p6)] maxLocals)) t := fun t k => k55 t (st56 _ k)
  have k57 : ∀ t, Steps p.tables e below (T56.setTop (mkF m 181 #[.val (.int p1), .val (.int p2), .val (.int p3), .val (.int p4), .val (.int p5), .val (.int p6), .val (.int rt), .val (.int sv), .val (.int ev), .val (.ref b8), .val (.int eL), .val (.int eR)] [(.ref b8)])) t → Steps p.tables e below (s₁.setTop (entryFrame m #[(.int p1), (.int p2), (.int p3), (.int p4), (.int p5), (.int p6)] maxLocals)) t := by
    intro t k
    refine k56 _ ?_
    show Steps p.tables e below (T56.setTop (mkF m 174 #[.val (.int p1), .val (.int p2), .val (.int p3), .val (.int p4), .val (.int p5), .val (.int p6), .val (.int rt), .val (.int sv), .val (.int ev), .val (.ref b8), .val (.int eL), .val (.int eR)] [(.int (own_left rt sv ev p1))])) _
    refine XS.iload X56.here hx rfl (hb hby at_174) rfl ?_
    show Steps p.tables e below (T56.setTop (mkF m 176 #[.val (.int p1), .val (.int p2), .val (.int p3), .val (.int p4), .val (.int p5), .val (.int p6), .val (.int rt), .val (.int sv), .val (.int ev), .val (.ref b8), .val (.int eL), .val (.int eR)] [(.int eL), (.int (own_left rt sv ev p1))])) _
    refine XS.icmpNo X56.here hx rfl (hb hby at_176) rfl (teq (eq_eL.symm : own_left rt sv ev p1 = eL)).2 ?_
    show Steps p.tables e below (T56.setTop (mkF m 179 #[.val (.int p1), .val (.int p2), .val (.int p3), .val (.int p4), .val (.int p5), .val (.int p6), .val (.int rt), .val (.int sv), .val (.int ev), .val (.ref b8), .val (.int eL), .val (.int eR)] [])) _
    refine XS.aload X56.here hx rfl (hb hby at_179) rfl rfl ?_
    show Steps p.tables e below (T56.setTop (mkF m 181 #[.val (.int p1), .val (.int p2), .val (.int p3), .val (.int p4), .val (.int p5), .val (.int p6), .val (.int rt), .val (.int sv), .val (.int ev), .val (.ref b8), .val (.int eL), .val (.int eR)] [(.ref b8)])) _
    exact k
  obtain ⟨T58, X58, e58, st58⟩ := getF X56 hx hZ hown (host := "") (Or.inl (hw _ (List.mem_of_getElem? (i := 34) rfl))) Via.refl e56 G45_layoutMarginRight (g := (mkF m 181 #[.val (.int p1), .val (.int p2), .val (.int p3), .val (.int p4), .val (.int p5), .val (.int p6), .val (.int rt), .val (.int sv), .val (.int ev), .val (.ref b8), .val (.int eL), .val (.int eR)] [(.ref b8)])) rfl rfl (hb hby at_181)
  have k58 : ∀ t, Steps p.tables e below (T58.setTop (mkF m 184 #[.val (.int p1), .val (.int p2), .val (.int p3), .val (.int p4), .val (.int p5), .val (.int p6), .val (.int rt), .val (.int sv), .val (.int ev), .val (.ref b8), .val (.int eL), .val (.int eR)] [(.int (own_right rt sv ev p2))])) t → Steps p.tables e below (s₁.setTop (entryFrame m #[(.int p1), (.int p2), (.int p3), (.int p4), (.int p5), (.int p6)] maxLocals)) t := fun t k => k57 t (st58 _ k)
  have k59 : ∀ t, Steps p.tables e below (T58.setTop (mkF m 191 #[.val (.int p1), .val (.int p2), .val (.int p3), .val (.int p4), .val (.int p5), .val (.int p6), .val (.int rt), .val (.int sv), .val (.int ev), .val (.ref b8), .val (.int eL), .val (.int eR)] [(.ref b8)])) t → Steps p.tables e below (s₁.setTop (entryFrame m #[(.int p1), (.int p2), (.int p3), (.int p4), (.int p5), (.int p6)] maxLocals)) t := by
    intro t k
    refine k58 _ ?_
    show Steps p.tables e below (T58.setTop (mkF m 184 #[.val (.int p1), .val (.int p2), .val (.int p3), .val (.int p4), .val (.int p5), .val (.int p6), .val (.int rt), .val (.int sv), .val (.int ev), .val (.ref b8), .val (.int eL), .val (.int eR)] [(.int (own_right rt sv ev p2))])) _
    refine XS.iload X58.here hx rfl (hb hby at_184) rfl ?_
    show Steps p.tables e below (T58.setTop (mkF m 186 #[.val (.int p1), .val (.int p2), .val (.int p3), .val (.int p4), .val (.int p5), .val (.int p6), .val (.int rt), .val (.int sv), .val (.int ev), .val (.ref b8), .val (.int eL), .val (.int eR)] [(.int eR), (.int (own_right rt sv ev p2))])) _
    refine XS.icmpNo X58.here hx rfl (hb hby at_186) rfl (teq (eq_eR.symm : own_right rt sv ev p2 = eR)).2 ?_
    show Steps p.tables e below (T58.setTop (mkF m 189 #[.val (.int p1), .val (.int p2), .val (.int p3), .val (.int p4), .val (.int p5), .val (.int p6), .val (.int rt), .val (.int sv), .val (.int ev), .val (.ref b8), .val (.int eL), .val (.int eR)] [])) _
    refine XS.aload X58.here hx rfl (hb hby at_189) rfl rfl ?_
    show Steps p.tables e below (T58.setTop (mkF m 191 #[.val (.int p1), .val (.int p2), .val (.int p3), .val (.int p4), .val (.int p5), .val (.int p6), .val (.int rt), .val (.int sv), .val (.int ev), .val (.ref b8), .val (.int eL), .val (.int eR)] [(.ref b8)])) _
    exact k
  obtain ⟨T60, X60, e60, st60⟩ := getF X58 hx hZ hown (host := "") (Or.inl (hw _ (List.mem_of_getElem? (i := 15) rfl))) Via.refl e58 G45_marginLeft (g := (mkF m 191 #[.val (.int p1), .val (.int p2), .val (.int p3), .val (.int p4), .val (.int p5), .val (.int p6), .val (.int rt), .val (.int sv), .val (.int ev), .val (.ref b8), .val (.int eL), .val (.int eR)] [(.ref b8)])) rfl rfl (hb hby at_191)
  have k60 : ∀ t, Steps p.tables e below (T60.setTop (mkF m 194 #[.val (.int p1), .val (.int p2), .val (.int p3), .val (.int p4), .val (.int p5), .val (.int p6), .val (.int rt), .val (.int sv), .val (.int ev), .val (.ref b8), .val (.int eL), .val (.int eR)] [(.int p1)])) t → Steps p.tables e below (s₁.setTop (entryFrame m #[(.int p1), (.int p2), (.int p3), (.int p4), (.int p5), (.int p6)] maxLocals)) t := fun t k => k59 t (st60 _ k)
  have k61 : ∀ t, Steps p.tables e below (T60.setTop (mkF m 200 #[.val (.int p1), .val (.int p2), .val (.int p3), .val (.int p4), .val (.int p5), .val (.int p6), .val (.int rt), .val (.int sv), .val (.int ev), .val (.ref b8), .val (.int eL), .val (.int eR)] [(.ref b8)])) t → Steps p.tables e below (s₁.setTop (entryFrame m #[(.int p1), (.int p2), (.int p3), (.int p4), (.int p5), (.int p6)] maxLocals)) t := by
    intro t k
    refine k60 _ ?_
    show Steps p.tables e below (T60.setTop (mkF m 194 #[.val (.int p1), .val (.int p2), .val (.int p3), .val (.int p4), .val (.int p5), .val (.int p6), .val (.int rt), .val (.int sv), .val (.int ev), .val (.ref b8), .val (.int eL), .val (.int eR)] [(.int p1)])) _
    refine XS.iloadN X60.here hx rfl (hb hby at_194) rfl ?_
    show Steps p.tables e below (T60.setTop (mkF m 195 #[.val (.int p1), .val (.int p2), .val (.int p3), .val (.int p4), .val (.int p5), .val (.int p6), .val (.int rt), .val (.int sv), .val (.int ev), .val (.ref b8), .val (.int eL), .val (.int eR)] [(.int p1), (.int p1)])) _
    refine XS.icmpNo X60.here hx rfl (hb hby at_195) rfl (teq rfl).2 ?_
    show Steps p.tables e below (T60.setTop (mkF m 198 #[.val (.int p1), .val (.int p2), .val (.int p3), .val (.int p4), .val (.int p5), .val (.int p6), .val (.int rt), .val (.int sv), .val (.int ev), .val (.ref b8), .val (.int eL), .val (.int eR)] [])) _
    refine XS.aload X60.here hx rfl (hb hby at_198) rfl rfl ?_
    show Steps p.tables e below (T60.setTop (mkF m 200 #[.val (.int p1), .val (.int p2), .val (.int p3), .val (.int p4), .val (.int p5), .val (.int p6), .val (.int rt), .val (.int sv), .val (.int ev), .val (.ref b8), .val (.int eL), .val (.int eR)] [(.ref b8)])) _
    exact k
  obtain ⟨T62, X62, e62, st62⟩ := getF X60 hx hZ hown (host := "") (Or.inl (hw _ (List.mem_of_getElem? (i := 17) rfl))) Via.refl e60 G45_marginRight (g := (mkF m 200 #[.val (.int p1), .val (.int p2), .val (.int p3), .val (.int p4), .val (.int p5), .val (.int p6), .val (.int rt), .val (.int sv), .val (.int ev), .val (.ref b8), .val (.int eL), .val (.int eR)] [(.ref b8)])) rfl rfl (hb hby at_200)
  have k62 : ∀ t, Steps p.tables e below (T62.setTop (mkF m 203 #[.val (.int p1), .val (.int p2), .val (.int p3), .val (.int p4), .val (.int p5), .val (.int p6), .val (.int rt), .val (.int sv), .val (.int ev), .val (.ref b8), .val (.int eL), .val (.int eR)] [(.int p2)])) t → Steps p.tables e below (s₁.setTop (entryFrame m #[(.int p1), (.int p2), (.int p3), (.int p4), (.int p5), (.int p6)] maxLocals)) t := fun t k => k61 t (st62 _ k)
  have k63 : ∀ t, Steps p.tables e below (T62.setTop (mkF m 209 #[.val (.int p1), .val (.int p2), .val (.int p3), .val (.int p4), .val (.int p5), .val (.int p6), .val (.int rt), .val (.int sv), .val (.int ev), .val (.ref b8), .val (.int eL), .val (.int eR)] [(.ref b8)])) t → Steps p.tables e below (s₁.setTop (entryFrame m #[(.int p1), (.int p2), (.int p3), (.int p4), (.int p5), (.int p6)] maxLocals)) t := by
    intro t k
    refine k62 _ ?_
    show Steps p.tables e below (T62.setTop (mkF m 203 #[.val (.int p1), .val (.int p2), .val (.int p3), .val (.int p4), .val (.int p5), .val (.int p6), .val (.int rt), .val (.int sv), .val (.int ev), .val (.ref b8), .val (.int eL), .val (.int eR)] [(.int p2)])) _
    refine XS.iloadN X62.here hx rfl (hb hby at_203) rfl ?_
    show Steps p.tables e below (T62.setTop (mkF m 204 #[.val (.int p1), .val (.int p2), .val (.int p3), .val (.int p4), .val (.int p5), .val (.int p6), .val (.int rt), .val (.int sv), .val (.int ev), .val (.ref b8), .val (.int eL), .val (.int eR)] [(.int p2), (.int p2)])) _
    refine XS.icmpNo X62.here hx rfl (hb hby at_204) rfl (teq rfl).2 ?_
    show Steps p.tables e below (T62.setTop (mkF m 207 #[.val (.int p1), .val (.int p2), .val (.int p3), .val (.int p4), .val (.int p5), .val (.int p6), .val (.int rt), .val (.int sv), .val (.int ev), .val (.ref b8), .val (.int eL), .val (.int eR)] [])) _
    refine XS.aload X62.here hx rfl (hb hby at_207) rfl rfl ?_
    show Steps p.tables e below (T62.setTop (mkF m 209 #[.val (.int p1), .val (.int p2), .val (.int p3), .val (.int p4), .val (.int p5), .val (.int p6), .val (.int rt), .val (.int sv), .val (.int ev), .val (.ref b8), .val (.int eL), .val (.int eR)] [(.ref b8)])) _
    exact k
  obtain ⟨T64, X64, e64, st64⟩ := getF X62 hx hZ hown (host := "") (Or.inl (hw _ (List.mem_of_getElem? (i := 19) rfl))) Via.refl e62 G45_marginTop (g := (mkF m 209 #[.val (.int p1), .val (.int p2), .val (.int p3), .val (.int p4), .val (.int p5), .val (.int p6), .val (.int rt), .val (.int sv), .val (.int ev), .val (.ref b8), .val (.int eL), .val (.int eR)] [(.ref b8)])) rfl rfl (hb hby at_209)
  have k64 : ∀ t, Steps p.tables e below (T64.setTop (mkF m 212 #[.val (.int p1), .val (.int p2), .val (.int p3), .val (.int p4), .val (.int p5), .val (.int p6), .val (.int rt), .val (.int sv), .val (.int ev), .val (.ref b8), .val (.int eL), .val (.int eR)] [(.int p5)])) t → Steps p.tables e below (s₁.setTop (entryFrame m #[(.int p1), (.int p2), (.int p3), (.int p4), (.int p5), (.int p6)] maxLocals)) t := fun t k => k63 t (st64 _ k)
  have k65 : ∀ t, Steps p.tables e below (T64.setTop (mkF m 219 #[.val (.int p1), .val (.int p2), .val (.int p3), .val (.int p4), .val (.int p5), .val (.int p6), .val (.int rt), .val (.int sv), .val (.int ev), .val (.ref b8), .val (.int eL), .val (.int eR)] [(.ref b8)])) t → Steps p.tables e below (s₁.setTop (entryFrame m #[(.int p1), (.int p2), (.int p3), (.int p4), (.int p5), (.int p6)] maxLocals)) t := by
    intro t k
    refine k64 _ ?_
    show Steps p.tables e below (T64.setTop (mkF m 212 #[.val (.int p1), .val (.int p2), .val (.int p3), .val (.int p4), .val (.int p5), .val (.int p6), .val (.int rt), .val (.int sv), .val (.int ev), .val (.ref b8), .val (.int eL), .val (.int eR)] [(.int p5)])) _
    refine XS.iload X64.here hx rfl (hb hby at_212) rfl ?_
    show Steps p.tables e below (T64.setTop (mkF m 214 #[.val (.int p1), .val (.int p2), .val (.int p3), .val (.int p4), .val (.int p5), .val (.int p6), .val (.int rt), .val (.int sv), .val (.int ev), .val (.ref b8), .val (.int eL), .val (.int eR)] [(.int p5), (.int p5)])) _
    refine XS.icmpNo X64.here hx rfl (hb hby at_214) rfl (teq rfl).2 ?_
    show Steps p.tables e below (T64.setTop (mkF m 217 #[.val (.int p1), .val (.int p2), .val (.int p3), .val (.int p4), .val (.int p5), .val (.int p6), .val (.int rt), .val (.int sv), .val (.int ev), .val (.ref b8), .val (.int eL), .val (.int eR)] [])) _
    refine XS.aload X64.here hx rfl (hb hby at_217) rfl rfl ?_
    show Steps p.tables e below (T64.setTop (mkF m 219 #[.val (.int p1), .val (.int p2), .val (.int p3), .val (.int p4), .val (.int p5), .val (.int p6), .val (.int rt), .val (.int sv), .val (.int ev), .val (.ref b8), .val (.int eL), .val (.int eR)] [(.ref b8)])) _
    exact k
  obtain ⟨T66, X66, e66, st66⟩ := getF X64 hx hZ hown (host := "") (Or.inl (hw _ (List.mem_of_getElem? (i := 21) rfl))) Via.refl e64 G45_marginStart (g := (mkF m 219 #[.val (.int p1), .val (.int p2), .val (.int p3), .val (.int p4), .val (.int p5), .val (.int p6), .val (.int rt), .val (.int sv), .val (.int ev), .val (.ref b8), .val (.int eL), .val (.int eR)] [(.ref b8)])) rfl rfl (hb hby at_219)
  have k66 : ∀ t, Steps p.tables e below (T66.setTop (mkF m 222 #[.val (.int p1), .val (.int p2), .val (.int p3), .val (.int p4), .val (.int p5), .val (.int p6), .val (.int rt), .val (.int sv), .val (.int ev), .val (.ref b8), .val (.int eL), .val (.int eR)] [(.int sv)])) t → Steps p.tables e below (s₁.setTop (entryFrame m #[(.int p1), (.int p2), (.int p3), (.int p4), (.int p5), (.int p6)] maxLocals)) t := fun t k => k65 t (st66 _ k)
  have k67 : ∀ t, Steps p.tables e below (T66.setTop (mkF m 229 #[.val (.int p1), .val (.int p2), .val (.int p3), .val (.int p4), .val (.int p5), .val (.int p6), .val (.int rt), .val (.int sv), .val (.int ev), .val (.ref b8), .val (.int eL), .val (.int eR)] [(.ref b8)])) t → Steps p.tables e below (s₁.setTop (entryFrame m #[(.int p1), (.int p2), (.int p3), (.int p4), (.int p5), (.int p6)] maxLocals)) t := by
    intro t k
    refine k66 _ ?_
    show Steps p.tables e below (T66.setTop (mkF m 222 #[.val (.int p1), .val (.int p2), .val (.int p3), .val (.int p4), .val (.int p5), .val (.int p6), .val (.int rt), .val (.int sv), .val (.int ev), .val (.ref b8), .val (.int eL), .val (.int eR)] [(.int sv)])) _
    refine XS.iload X66.here hx rfl (hb hby at_222) rfl ?_
    show Steps p.tables e below (T66.setTop (mkF m 224 #[.val (.int p1), .val (.int p2), .val (.int p3), .val (.int p4), .val (.int p5), .val (.int p6), .val (.int rt), .val (.int sv), .val (.int ev), .val (.ref b8), .val (.int eL), .val (.int eR)] [(.int sv), (.int sv)])) _
    refine XS.icmpNo X66.here hx rfl (hb hby at_224) rfl (teq rfl).2 ?_
    show Steps p.tables e below (T66.setTop (mkF m 227 #[.val (.int p1), .val (.int p2), .val (.int p3), .val (.int p4), .val (.int p5), .val (.int p6), .val (.int rt), .val (.int sv), .val (.int ev), .val (.ref b8), .val (.int eL), .val (.int eR)] [])) _
    refine XS.aload X66.here hx rfl (hb hby at_227) rfl rfl ?_
    show Steps p.tables e below (T66.setTop (mkF m 229 #[.val (.int p1), .val (.int p2), .val (.int p3), .val (.int p4), .val (.int p5), .val (.int p6), .val (.int rt), .val (.int sv), .val (.int ev), .val (.ref b8), .val (.int eL), .val (.int eR)] [(.ref b8)])) _
    exact k
  obtain ⟨T68, X68, e68, st68⟩ := getF X66 hx hZ hown (host := "") (Or.inl (hw _ (List.mem_of_getElem? (i := 22) rfl))) Via.refl e66 G45_marginEnd (g := (mkF m 229 #[.val (.int p1), .val (.int p2), .val (.int p3), .val (.int p4), .val (.int p5), .val (.int p6), .val (.int rt), .val (.int sv), .val (.int ev), .val (.ref b8), .val (.int eL), .val (.int eR)] [(.ref b8)])) rfl rfl (hb hby at_229)
  have k68 : ∀ t, Steps p.tables e below (T68.setTop (mkF m 232 #[.val (.int p1), .val (.int p2), .val (.int p3), .val (.int p4), .val (.int p5), .val (.int p6), .val (.int rt), .val (.int sv), .val (.int ev), .val (.ref b8), .val (.int eL), .val (.int eR)] [(.int ev)])) t → Steps p.tables e below (s₁.setTop (entryFrame m #[(.int p1), (.int p2), (.int p3), (.int p4), (.int p5), (.int p6)] maxLocals)) t := fun t k => k67 t (st68 _ k)
  have k69 : ∀ t, Steps p.tables e below (T68.setTop (mkF m 242 #[.val (.int p1), .val (.int p2), .val (.int p3), .val (.int p4), .val (.int p5), .val (.int p6), .val (.int rt), .val (.int sv), .val (.int ev), .val (.ref b8), .val (.int eL), .val (.int eR)] [(.int (1 : Int32))])) t → Steps p.tables e below (s₁.setTop (entryFrame m #[(.int p1), (.int p2), (.int p3), (.int p4), (.int p5), (.int p6)] maxLocals)) t := by
    intro t k
    refine k68 _ ?_
    show Steps p.tables e below (T68.setTop (mkF m 232 #[.val (.int p1), .val (.int p2), .val (.int p3), .val (.int p4), .val (.int p5), .val (.int p6), .val (.int rt), .val (.int sv), .val (.int ev), .val (.ref b8), .val (.int eL), .val (.int eR)] [(.int ev)])) _
    refine XS.iload X68.here hx rfl (hb hby at_232) rfl ?_
    show Steps p.tables e below (T68.setTop (mkF m 234 #[.val (.int p1), .val (.int p2), .val (.int p3), .val (.int p4), .val (.int p5), .val (.int p6), .val (.int rt), .val (.int sv), .val (.int ev), .val (.ref b8), .val (.int eL), .val (.int eR)] [(.int ev), (.int ev)])) _
    refine XS.icmpNo X68.here hx rfl (hb hby at_234) rfl (teq rfl).2 ?_
    show Steps p.tables e below (T68.setTop (mkF m 237 #[.val (.int p1), .val (.int p2), .val (.int p3), .val (.int p4), .val (.int p5), .val (.int p6), .val (.int rt), .val (.int sv), .val (.int ev), .val (.ref b8), .val (.int eL), .val (.int eR)] [])) _
    refine XS.iconst X68.here hx rfl (hb hby at_237) ?_
    show Steps p.tables e below (T68.setTop (mkF m 238 #[.val (.int p1), .val (.int p2), .val (.int p3), .val (.int p4), .val (.int p5), .val (.int p6), .val (.int rt), .val (.int sv), .val (.int ev), .val (.ref b8), .val (.int eL), .val (.int eR)] [(.int (1 : Int32))])) _
    refine XS.goto X68.here hx rfl (pc0 := 238) (pc' := 242) rfl (hb hby at_238) (by decide) (by decide) ?_
    show Steps p.tables e below (T68.setTop (mkF m 242 #[.val (.int p1), .val (.int p2), .val (.int p3), .val (.int p4), .val (.int p5), .val (.int p6), .val (.int rt), .val (.int sv), .val (.int ev), .val (.ref b8), .val (.int eL), .val (.int eR)] [(.int (1 : Int32))])) _
    exact k
  obtain ⟨fs, hr, hrun, hended, hW, hsame⟩ := X68.leave (v := some (.int (1 : Int32))) (fun h => by rw [Bd.returns] at h; cases h)
  refine ⟨_, _, k69 _ ?_, hrun, hended, _, _, rfl, ?_, ⟨_, rfl⟩, hW, hsame.mono (Nat.le_of_ble_eq_true rfl) (Nat.le_of_ble_eq_true rfl)⟩
  · exact retN X68 hx (t := .boolean) Bd.returns (by simp) (hb hby at_242) hr
  · show Q0 Z p1 p2 p3 p4 p5 p6 h0 n0 _ T68.heap _
    rw [e68]
    exact ⟨rfl, N45⟩
set_option maxRecDepth 65536 in
set_option maxHeartbeats 40000000 in
theorem comes_1 {Post : Tables → Env → Array Value → State → Outcome → State → Prop} (hpost : ∀ tb e args s v u, (limb_1_1.after args s (.returned v) u = true ∧ limb_1_2.after args s (.returned v) u = true ∧ True) → FrameEnd s (.returned v) u (Jvm.fieldLocs frame_1_writes args s ++ Jvm.arrayLocs frame_1_arrays args s ++ Jvm.staticLocs frame_1_statics s) 16 128 → Post tb e args s (.returned v) u) :
    ArmFor flags0 classFile x code maxLocals ret World_1 tables_1 room_1 Calls_1 rest_1 Pre_1 Post := by
  intro l hfl _ _ p e ha hc hk s m args below hf hA hF happ hP
  obtain ⟨hcalls, hrest, hpre⟩ := hP
  obtain ⟨-, -, -, hnamed, -, -, -, hat⟩ := (Spec.applies_iff hf).mp happ
  obtain ⟨hg, hn⟩ := and_e (Cond.before_iff.mp (show (Jvm.Cond.and given_1 narrow_1).before args s = true from hpre))
  obtain ⟨hcnt, hr0⟩ := and_e hg
  obtain ⟨hi0, hr1⟩ := and_e hr0
  obtain ⟨hi1, hr2⟩ := and_e hr1
  obtain ⟨hi2, hr3⟩ := and_e hr2
  obtain ⟨hi3, hr4⟩ := and_e hr3
  obtain ⟨hi4, hr5⟩ := and_e hr4
  have hi5 := hr5
  obtain ⟨w0, w1, w2, w3, w4, w5, rfl⟩ : ∃ w0 w1 w2 w3 w4 w5 : Value, args = #[w0, w1, w2, w3, w4, w5] := by
    have hs : args.size = 6 := by simpa [Cond.value, given_1] using hcnt
    obtain ⟨L⟩ := args
    match L, hs with
    | [w0, w1, w2, w3, w4, w5], _ => exact ⟨w0, w1, w2, w3, w4, w5, rfl⟩
  have hw := fun d (hd : d ∈ tables_1) => atoms_spec (ws := Jvm.Cond.code x code maxLocals ret :: tables_1) hat d (List.mem_cons_of_mem _ hd)
  have hfit : Fit s := fun {y c} hc i hi => by
    obtain ⟨ha, rfl⟩ := Array.getElem?_eq_some_iff.mp hc
    have q := List.all_eq_true.mp ((Array.all_eq_true_iff_forall_mem.mp hF) _ (Array.getElem_mem ha)) i (List.mem_range.mpr hi)
    simpa [Array.getElem?_eq_getElem hi] using q
  obtain ⟨i0, ei0⟩ := is_v hi0
  obtain rfl : w0 = (.int i0) := Option.some.inj ei0
  obtain ⟨i1, ei1⟩ := is_v hi1
  obtain rfl : w1 = (.int i1) := Option.some.inj ei1
  obtain ⟨i2, ei2⟩ := is_v hi2
  obtain rfl : w2 = (.int i2) := Option.some.inj ei2
  obtain ⟨i3, ei3⟩ := is_v hi3
  obtain rfl : w3 = (.int i3) := Option.some.inj ei3
  obtain ⟨i4, ei4⟩ := is_v hi4
  obtain rfl : w4 = (.int i4) := Option.some.inj ei4
  obtain ⟨i5, ei5⟩ := is_v hi5
  obtain rfl : w5 = (.int i5) := Option.some.inj ei5
  obtain ⟨n, o, h1, h2, h3, _, L, rfl, ⟨rfl, N⟩, hq⟩ := rm0 l s _ hw tables_1 i0 i1 i2 i3 i4 i5  s.heap s.heap.size (Nat.le_refl _)  p e ha hc hk s m _ below hf ((Spec.applies_iff_loose hf).mp happ).1 ⟨rfl, State.Warmed39.refl s, rfl⟩ trivial
  refine ⟨n, _, h1, h2, h3, hpost _ _ _ _ _ _ ⟨Cond.after_iff.mpr rfl, Cond.after_iff.mpr (eq_i res_at (Term.int_eval (1)) rfl), trivial⟩ ⟨hq.1, hq.2.1, (hq.2.2.sift fun y hy => Or.inr (N y hy)).mono (by decide) (by decide)⟩⟩
theorem main_1_1 : Claimed_1_1 := comes_1 fun _ _ _ _ _ _ h hF => ⟨h.1, hF⟩
theorem main_1_2 : Claimed_1_2 := comes_1 fun _ _ _ _ _ _ h hF => ⟨h.2.1, hF⟩
end Jvm.Pilot.@@N@@
namespace Jvm.Pilot.@@N@@
open Jvm Jvm.ClassFile Sem Op Lib Jvm.Free Jvm.Stand Jvm.Pilot.@@N@@.Jvm.D
/-! MADE BY PROGRAM (witnessworld.py) out of the Statement's table words and the real class files: 9 classes; the members and pool entries that the words name. The judged class is class 1, her method 1. -/
namespace start1
open Jvm.ClassFile
def u (s : String) : CpInfo := .utf8 (stringToUtf16 s)
/-- a pool by its gaps: so many unusable entries, then the entry; so many at the end -/
def gap : Nat → List CpInfo → List CpInfo
  | 0, r => r
  | n + 1, r => .unusable :: gap n r
def poolList (es : List (Nat × CpInfo)) (last : Nat) : List CpInfo := es.foldr (fun e r => gap e.1 (e.2 :: r)) (gap last [])
def pool (es : List (Nat × CpInfo)) (last : Nat) : Array CpInfo := ⟨poolList es last⟩
def fileOf (pool : Array CpInfo) (this : Nat) (attrs : Array Attribute := #[]) (ms : Array MethodInfo := #[]) (fl : Nat := 33) (sup : Nat := 0) (ifs : Array Nat := #[]) (fds : Array FieldInfo := #[]) : ClassFile where
  minorVersion := 0
  majorVersion := 65
  constantPool := pool
  accessFlags := fl
  thisClass := this
  superClass := sup
  interfaces := ifs
  fields := fds
  methods := ms
  attributes := attrs
def plain (name : String) (sup : Option ClassId) : Class where
  name := name
  kind := .ordinary
  loader := none
  accessFlags := 33
  super := sup
  interfaces := #[]
  cf := none
  fields := #[]
  methods := #[]
  instanceTypes := #[]
  staticTypes := #[]
  resolved := #[]
  callSites := []
  init := .initialized
  statics := none
  mirror := none

def pool0 : Array CpInfo := pool [(5, u "<init>"), (0, u "()V"), (1, .class_ 10), (1, u "java/lang/Object")] 113

def k0c0 : Code := { maxStack := 0, maxLocals := 1, code := object_method_1_code, exceptionTable := #[], attributes := #[] }
def k0m0 : Method := { name := "<init>", desc := "()V", sig := { parameters := [], returnType := none }, accessFlags := 1, code := some k0c0 }
/-- java/lang/Object -/
def k0 : Class := { plain "java/lang/Object" none with
  accessFlags := 33
  interfaces := #[]
  cf := some (fileOf pool0 8 #[] #[{ accessFlags := 1, nameIndex := 5, descriptorIndex := 6, attributes := #[] }] 33 0 #[] #[])
  fields := #[]
  methods := #[k0m0]
  instanceTypes := #[]
  staticTypes := #[]
  resolved := Array.replicate 124 none
  statics := none }

def pool1 : Array CpInfo := pool [(2, .class_ 4), (0, .nameAndType 5 6), (0, u "java/lang/Object"), (0, u "<init>"), (0, u "()V"), (0, .class_ 8), (0, u "com/example/frameloom/frameloom/Spacing"), (0, .integer 2147483648), (0, .methodref 7 3), (0, .fieldref 7 12), (0, .nameAndType 13 14), (0, u "marginLeft"), (0, u "I"), (0, .fieldref 7 16), (0, .nameAndType 17 14), (0, u "marginRight"), (0, .fieldref 7 19), (0, .nameAndType 20 14), (0, u "marginTop"), (0, .fieldref 7 22), (0, .nameAndType 23 14), (0, u "marginStart"), (0, .fieldref 7 25), (0, .nameAndType 26 14), (0, u "marginEnd"), (0, .methodref 7 28), (0, .nameAndType 29 30), (0, u "resolve"), (0, u "(Z)V"), (2, .fieldref 7 34), (0, .nameAndType 35 14), (0, u "layoutMarginLeft"), (0, .fieldref 7 37), (0, .nameAndType 38 14), (0, u "layoutMarginRight"), (0, .class_ 40), (0, u "com/example/frameloom/frameloom/SpacingResolvePinLaw"), (2, u "law"), (0, u "(IIIIII)Z")] 3

def k1m0 : Method := { name := "<init>", desc := "()V", sig := { parameters := [], returnType := none }, accessFlags := 1, code := none }
def k1c1 : Code := { maxStack := 2, maxLocals := 12, code := code, exceptionTable := #[], attributes := #[] }
def k1m1 : Method := { name := "law", desc := "(IIIIII)Z", sig := { parameters := [.int, .int, .int, .int, .int, .int], returnType := some .boolean }, accessFlags := 9, code := some k1c1 }
/-- com/example/frameloom/frameloom/SpacingResolvePinLaw -/
def k1 : Class := { plain "com/example/frameloom/frameloom/SpacingResolvePinLaw" (some 0) with
  accessFlags := 49
  interfaces := #[]
  cf := some (fileOf pool1 39 #[] #[{ accessFlags := 1, nameIndex := 5, descriptorIndex := 6, attributes := #[] }, { accessFlags := 9, nameIndex := 43, descriptorIndex := 44, attributes := #[] }] 49 2 #[] #[])
  fields := #[]
  methods := #[k1m0, k1m1]
  instanceTypes := #[]
  staticTypes := #[]
  resolved := Array.replicate 48 none
  statics := none }

def pool2 : Array CpInfo := pool [(3, .methodref 4 5), (0, .class_ 6), (0, .nameAndType 7 8), (0, u "java/lang/Object"), (0, u "<init>"), (0, u "()V"), (0, .class_ 10), (0, u "com/example/frameloom/frameloom/Spacing"), (0, .integer 2147483648), (0, .fieldref 9 13), (0, .nameAndType 14 15), (0, u "marginStart"), (0, u "I"), (0, .fieldref 9 17), (0, .nameAndType 18 15), (0, u "marginEnd"), (0, .fieldref 9 20), (0, .nameAndType 21 15), (0, u "marginLeft"), (0, .fieldref 9 23), (0, .nameAndType 24 15), (0, u "layoutMarginLeft"), (0, .fieldref 9 26), (0, .nameAndType 27 15), (0, u "marginRight"), (0, .fieldref 9 29), (0, .nameAndType 30 15), (0, u "layoutMarginRight"), (0, u "NO_MARGIN"), (1, u "marginTop"), (0, u "marginBottom"), (0, u "paddingLeft"), (0, u "paddingTop"), (0, u "paddingRight"), (0, u "paddingBottom"), (2, u "resolve"), (0, u "(Z)V")] 3

def k2c0 : Code := { maxStack := 2, maxLocals := 1, code := prog_46_method_1_code, exceptionTable := #[], attributes := #[] }
def k2m0 : Method := { name := "<init>", desc := "()V", sig := { parameters := [], returnType := none }, accessFlags := 0, code := some k2c0 }
def k2c1 : Code := { maxStack := 3, maxLocals := 4, code := prog_46_method_2_code, exceptionTable := #[], attributes := #[] }
def k2m1 : Method := { name := "resolve", desc := "(Z)V", sig := { parameters := [.boolean], returnType := none }, accessFlags := 0, code := some k2c1 }
/-- com/example/frameloom/frameloom/Spacing -/
def k2 : Class := { plain "com/example/frameloom/frameloom/Spacing" (some 0) with
  accessFlags := 48
  interfaces := #[]
  cf := some (fileOf pool2 9 #[] #[{ accessFlags := 0, nameIndex := 7, descriptorIndex := 8, attributes := #[] }, { accessFlags := 0, nameIndex := 41, descriptorIndex := 42, attributes := #[] }] 48 4 #[] #[{ accessFlags := 24, nameIndex := 31, descriptorIndex := 15, attributes := #[] }, { accessFlags := 0, nameIndex := 21, descriptorIndex := 15, attributes := #[] }, { accessFlags := 0, nameIndex := 33, descriptorIndex := 15, attributes := #[] }, { accessFlags := 0, nameIndex := 27, descriptorIndex := 15, attributes := #[] }, { accessFlags := 0, nameIndex := 34, descriptorIndex := 15, attributes := #[] }, { accessFlags := 0, nameIndex := 14, descriptorIndex := 15, attributes := #[] }, { accessFlags := 0, nameIndex := 18, descriptorIndex := 15, attributes := #[] }, { accessFlags := 0, nameIndex := 35, descriptorIndex := 15, attributes := #[] }, { accessFlags := 0, nameIndex := 36, descriptorIndex := 15, attributes := #[] }, { accessFlags := 0, nameIndex := 37, descriptorIndex := 15, attributes := #[] }, { accessFlags := 0, nameIndex := 38, descriptorIndex := 15, attributes := #[] }, { accessFlags := 0, nameIndex := 24, descriptorIndex := 15, attributes := #[] }, { accessFlags := 0, nameIndex := 30, descriptorIndex := 15, attributes := #[] }])
  fields := #[{ name := "NO_MARGIN", type := .int, accessFlags := 24, slot := 0, constantValue := 0 }, { name := "marginLeft", type := .int, accessFlags := 0, slot := 0, constantValue := 0 }, { name := "marginTop", type := .int, accessFlags := 0, slot := 1, constantValue := 0 }, { name := "marginRight", type := .int, accessFlags := 0, slot := 2, constantValue := 0 }, { name := "marginBottom", type := .int, accessFlags := 0, slot := 3, constantValue := 0 }, { name := "marginStart", type := .int, accessFlags := 0, slot := 4, constantValue := 0 }, { name := "marginEnd", type := .int, accessFlags := 0, slot := 5, constantValue := 0 }, { name := "paddingLeft", type := .int, accessFlags := 0, slot := 6, constantValue := 0 }, { name := "paddingTop", type := .int, accessFlags := 0, slot := 7, constantValue := 0 }, { name := "paddingRight", type := .int, accessFlags := 0, slot := 8, constantValue := 0 }, { name := "paddingBottom", type := .int, accessFlags := 0, slot := 9, constantValue := 0 }, { name := "layoutMarginLeft", type := .int, accessFlags := 0, slot := 10, constantValue := 0 }, { name := "layoutMarginRight", type := .int, accessFlags := 0, slot := 11, constantValue := 0 }]
  methods := #[k2m0, k2m1]
  instanceTypes := #[.int, .int, .int, .int, .int, .int, .int, .int, .int, .int, .int, .int]
  staticTypes := #[.int]
  resolved := Array.replicate 46 none
  statics := none }

def pool3 : Array CpInfo := pool [(1, u "java/lang/Cloneable"), (0, .class_ 1), (0, u "java/lang/Object"), (0, .class_ 3)] 3

/-- java/lang/Cloneable -/
def k3 : Class := { plain "java/lang/Cloneable" (some 0) with
  accessFlags := 1537
  interfaces := #[]
  cf := some (fileOf pool3 2 #[] #[] 1537 4 #[] #[])
  fields := #[]
  methods := #[]
  instanceTypes := #[]
  staticTypes := #[]
  resolved := Array.replicate 8 none
  statics := none }

def pool4 : Array CpInfo := pool [(1, u "java/io/Serializable"), (0, .class_ 1), (0, u "java/lang/Object"), (0, .class_ 3)] 3

/-- java/io/Serializable -/
def k4 : Class := { plain "java/io/Serializable" (some 0) with
  accessFlags := 1537
  interfaces := #[]
  cf := some (fileOf pool4 2 #[] #[] 1537 4 #[] #[])
  fields := #[]
  methods := #[]
  instanceTypes := #[]
  staticTypes := #[]
  resolved := Array.replicate 8 none
  statics := none }

/-- the primitive byte -/
def k5 : Class := { plain "byte" none with kind := .primitive 'B', accessFlags := 0x411 }
/-- [B -/
def k6 : Class := { plain "[B" (some 0) with kind := .array 5 .byte, interfaces := #[3, 4], accessFlags := 1041 }

/-- the primitive int -/
def k7 : Class := { plain "int" none with kind := .primitive 'I', accessFlags := 0x411 }
/-- [I -/
def k8 : Class := { plain "[I" (some 0) with kind := .array 7 .int, interfaces := #[3, 4], accessFlags := 1041 }

def heap : Heap := #[]
def classes : Array Class := #[k0, k1, k2, k3, k4, k5, k6, k7, k8]
def interned : List (Array UInt16 × Addr) := []
def slotsUsed : Nat := 0
def theMethod : MethodId := ⟨1, 1⟩
def args0 : Array Value := #[.int 5, .int 7, .int 5, .int 7, .int 5, .int 7]
def aboutOver (below : List Frame) : State where
  vm := { classes := classes, interned := interned.toArray }
  heap := heap
  slotsUsed := slotsUsed
  threads := #[{ frames := .invoking theMethod args0 :: below }]
def below0 : List Frame := [.native { method := ⟨0, 0⟩, args := #[] }]
def about1 : State := aboutOver below0
def p0 : Program := .bare "" "" ""
def e0 : Env := launch0.env 0 0 0
theorem w_frames : about1.frames = Frame.invoking theMethod args0 :: below0 := rfl
set_option maxRecDepth 65536 in
theorem w_args : argsFit about1.vm theMethod args0 = true := by decide +kernel
set_option maxRecDepth 65536 in
theorem w_heap : heapFits about1 = true := by decide +kernel
set_option maxRecDepth 65536 in
theorem w_runnable : about1.curStatus? = some .runnable := by decide +kernel
set_option maxRecDepth 65536 in
theorem w_alone : about1.alone = true := by decide +kernel
set_option maxRecDepth 65536 in
theorem w_named : about1.methodNamed? x = some theMethod := by decide +kernel
set_option maxRecDepth 65536 in
theorem w_hears : about1.hears theMethod below0 = true := by decide +kernel
set_option maxRecDepth 65536 in
theorem w_ripe : about1.ripe theMethod args0 below0 = true := by decide +kernel
theorem w_running : about1.status = .running := rfl
set_option maxRecDepth 65536 in
theorem w_room : about1.hasRoom e0.platform room_1 = true :=
  launch0.hasRoom_least _ room_1 (by decide +kernel) (by decide +kernel) (by decide +kernel) (by decide +kernel) (by decide +kernel) (by decide +kernel)
theorem allAtoms_all (ts : List Jvm.Cond) (a : Array Jvm.Value) (st : Jvm.State) : (allAtoms ts).before a st = ts.all (fun c => c.before a st) := by
  induction ts with
  | nil => rfl
  | cons c t ih =>
    show (Jvm.Cond.and c (allAtoms t)).before a st = _
    rw [Jvm.Cond.before_and, ih, List.all_cons]
def words1 : List Jvm.Cond := Jvm.Cond.code x code maxLocals ret :: tables_1
/-- a 'code' word, met by the world's own term for the bytes: nothing is compared byte by byte -/
theorem code_word {y : MethodName} {bytes : ByteArray} {mx : Nat} {rt : Option FieldType} {a : Array Value} {s : State} {m : MethodId} {meth : Method} {c : Code} (h1 : s.methodNamed? y = some m) (h2 : s.vm.method? m = some meth) (h3 : meth.code = some c) (h4 : c.code = bytes)
    (h5 : (c.maxLocals == mx && c.exceptionTable.isEmpty && decide (c.maxStack ≤ mostOperands) && decide (meth.sig.returnType = rt) && !meth.locks && decide (parseMethodDescriptor y.desc = some meth.sig)) = true) : (Jvm.Cond.code y bytes mx rt).before a s = true := by
  simp only [Bool.and_eq_true, beq_iff_eq, Bool.not_eq_true', decide_eq_true_eq] at h5
  obtain ⟨⟨⟨⟨⟨g1, g2⟩, g3⟩, g4⟩, g5⟩, g6⟩ := h5
  simp [Cond.before, Cond.holds, Cond.value, h1, h2, h3, h4, g1, g2, g3, g4, g5, g6]
def isCode : Jvm.Cond → Bool
  | .code _ _ _ _ => true
  | _ => false
theorem all_split {L : List Jvm.Cond} {P : Jvm.Cond → Bool} (h1 : L.all (fun c => isCode c || P c) = true) (h2 : ∀ c ∈ L.filter isCode, P c = true) : L.all P = true := by
  refine List.all_eq_true.mpr fun c hc => ?_
  have h := List.all_eq_true.mp h1 c hc
  rcases Bool.eq_false_or_eq_true (isCode c) with hi | hi
  · exact h2 c (List.mem_filter.mpr ⟨hc, hi⟩)
  · simpa [hi] using h
set_option maxRecDepth 65536 in
theorem w_c0 : (Jvm.Cond.code x code maxLocals ret).before args0 about1 = true := code_word (m := ⟨1, 1⟩) (meth := k1m1) (c := k1c1) (by decide +kernel) rfl rfl rfl (by decide +kernel)
set_option maxRecDepth 65536 in
theorem w_c1 : (Jvm.Cond.code ({ cls := "com/example/frameloom/frameloom/Spacing", name := "<init>", desc := "()V" } : Jvm.MethodName) prog_46_method_1_code (1 : Nat) (Option.none : Option Jvm.ClassFile.FieldType)).before args0 about1 = true := code_word (m := ⟨2, 0⟩) (meth := k2m0) (c := k2c0) (by decide +kernel) rfl rfl rfl (by decide +kernel)
set_option maxRecDepth 65536 in
theorem w_c2 : (Jvm.Cond.code ({ cls := "java/lang/Object", name := "<init>", desc := "()V" } : Jvm.MethodName) object_method_1_code (1 : Nat) (Option.none : Option Jvm.ClassFile.FieldType)).before args0 about1 = true := code_word (m := ⟨0, 0⟩) (meth := k0m0) (c := k0c0) (by decide +kernel) rfl rfl rfl (by decide +kernel)
set_option maxRecDepth 65536 in
theorem w_c3 : (Jvm.Cond.code ({ cls := "com/example/frameloom/frameloom/Spacing", name := "resolve", desc := "(Z)V" } : Jvm.MethodName) prog_46_method_2_code (4 : Nat) (Option.none : Option Jvm.ClassFile.FieldType)).before args0 about1 = true := code_word (m := ⟨2, 1⟩) (meth := k2m1) (c := k2c1) (by decide +kernel) rfl rfl rfl (by decide +kernel)
def codes1 : List Jvm.Cond := [Jvm.Cond.code x code maxLocals ret, Jvm.Cond.code ({ cls := "com/example/frameloom/frameloom/Spacing", name := "<init>", desc := "()V" } : Jvm.MethodName) prog_46_method_1_code (1 : Nat) (Option.none : Option Jvm.ClassFile.FieldType), Jvm.Cond.code ({ cls := "java/lang/Object", name := "<init>", desc := "()V" } : Jvm.MethodName) object_method_1_code (1 : Nat) (Option.none : Option Jvm.ClassFile.FieldType), Jvm.Cond.code ({ cls := "com/example/frameloom/frameloom/Spacing", name := "resolve", desc := "(Z)V" } : Jvm.MethodName) prog_46_method_2_code (4 : Nat) (Option.none : Option Jvm.ClassFile.FieldType)]
set_option maxRecDepth 65536 in
theorem codes_eq : words1.filter isCode = codes1 := rfl
theorem w_codes : ∀ c ∈ words1.filter isCode, c.before args0 about1 = true := by
  rw [codes_eq]
  intro c hc
  simp only [codes1, List.mem_cons, List.not_mem_nil, or_false] at hc
  rcases hc with rfl | rfl | rfl | rfl
  · exact w_c0
  · exact w_c1
  · exact w_c2
  · exact w_c3
set_option maxRecDepth 65536 in
theorem w_t1 : (words1.take 24).all (fun c => isCode c || c.before args0 about1) = true := by decide +kernel
set_option maxRecDepth 65536 in
theorem w_t2 : (words1.drop 24).all (fun c => isCode c || c.before args0 about1) = true := by decide +kernel
theorem w_tables : (allAtoms (Jvm.Cond.code x code maxLocals ret :: tables_1)).before args0 about1 = true := by
  rw [allAtoms_all]
  show words1.all (fun c => c.before args0 about1) = true
  refine all_split ?_ w_codes
  rw [← List.take_append_drop 24 words1, List.all_append, w_t1, w_t2]
  rfl
set_option maxRecDepth 65536 in
theorem w_case : (Jvm.Cond.and given_1 narrow_1).before args0 about1 = true := by decide +kernel
theorem w_applies : (headSpec (Jvm.Cond.code x code maxLocals ret :: tables_1) room_1).applies x e0.platform about1 = true :=
  (Spec.applies_iff w_frames).mpr ⟨w_running, w_runnable, w_alone, w_named, w_hears, w_ripe, w_room, w_tables⟩
theorem atStart : AtStart classFile x code maxLocals ret World_1 tables_1 room_1 Calls_1 rest_1 Pre_1 launch0 p0 e0 about1 theMethod args0 below0 :=
  ⟨lists_1, trivial, launch0.admits_env _ _ _, launch0.least_env, fairChoices_fair.cas, fairChoices_fair.clock, w_frames, w_args, w_heap, w_applies, trivial, trivial, w_case⟩
end start1
theorem witness_1 : WitnessClaimed_1 := ⟨start1.p0, start1.e0, start1.about1, start1.theMethod, start1.args0, start1.below0, start1.atStart⟩
end Jvm.Pilot.@@N@@
