import JvmDerived
import JvmDerived.Pilot.@@N@@Statement
import JvmDerived.Pilot.@@N@@Code
set_option linter.unusedVariables false
set_option linter.unusedSimpArgs false
namespace Jvm.RoadKit
open Sem ClassFile Op Lib Jvm.Stand Jvm.Free Jvm.LawKit
section New
variable {p : Program} {l : Launch} {e : Env} {R : Room} {s : State} {m : MethodId} {args : Array Value} {below : List Frame} {meth : Method} {c : Code} {T : State} {locs : List Loc} {cells slots : Nat}
theorem retI (X : Stand p l e R s m args below meth c T locs cells slots) (hx : p.tables.exec = Jvm.exec) {pc : Nat} {Ls : Array Slot} {z : Int32} {rest : List Value} (hret : meth.sig.returnType = some .int) (hd : decode c.code pc = .ok (.ireturn, 1)) {fs : List Frame}
    (hl : ∀ (f : JFrame) (acts : List Action), f.method = m → f.locked = none → f.entered = [] → (doReturn e (T.setTop f) acts (some (.int z))).1 = T.setFrames fs) : Steps p.tables e below (T.setTop (mkF m pc Ls (.int z :: rest))) (T.setFrames fs) := by
  have hm' : T.vm.method? m = some meth := X.method'
  have hn : narrow .int (.int z) = .int z := rfl
  show Steps p.tables e below (T.setTop { method := m, pc := pc, locals := Ls, stack := _ :: rest, locked := none }) _
  jvm_step X.here [X.here.top, hx, hd, hm', hret, hn]
  first | (intro acts; rw [hl _ acts rfl rfl rfl]) | rw [hl _ _ rfl rfl rfl]
  exact Steps.refl _
theorem own_lremM {g : JFrame} {target : State} (X : Stand p l e R s m args below meth c T locs cells slots) (hx : p.tables.exec = Jvm.exec) (hg : g.method = m) {x y : Int64} {rest : List Value} (hd : decode c.code g.pc = .ok (.lrem, 1)) (hs : g.stack = .long y :: .long x :: rest) (hy : y ≠ 0)
    (hr : Steps p.tables e below (T.setTop { g with pc := g.pc + 1, stack := .long (x % y) :: rest }) target) : Steps p.tables e below (T.setTop g) target := by
  have q : x - x / y * y = x % y := lrem_mod x y
  exact XS.lrem X.here hx hg hd hs hy (by rw [q]; exact hr)
theorem own_nz {z : Int32} (h : z = 0 ∨ z = 1) : nar .boolean z = z := by rcases h with rfl | rfl <;> rfl
theorem own_cat1 {v : Value} (h : v.isRef = true) : v.category = 1 := by rcases ref_cases h with rfl | ⟨a, rfl⟩ <;> rfl
end New
end Jvm.RoadKit
namespace Jvm.Pilot.@@N@@
open Jvm Jvm.ClassFile Sem Op Lib Jvm.Free Jvm.Stand Jvm.LawKit Jvm.RoadKit Bundle Jvm.Pilot.@@N@@.Jvm.D
theorem own_strAt : ∀ d ∈ Bundle.stringAtoms, d ∈ tables_1 := by decide +kernel
def own_mode (k : Int32) (x y z : Addr) : Addr := if k = (0 : Int32) then x else (if k = (1 : Int32) then y else z)
def own_eq (m1 m2 : Addr) (s1 s2 : Int32) : Int32 := if m1 = m2 then (if s1 = s2 then (1 : Int32) else (0 : Int32)) else (0 : Int32)
theorem own_eq01 (m1 m2 : Addr) (s1 s2 : Int32) : own_eq m1 m2 s1 s2 = 0 ∨ own_eq m1 m2 s1 s2 = 1 := by unfold own_eq; (repeat' split) <;> simp
def own_k3 (k : Int32) : Prop := k = 0 ∨ k = 1 ∨ k = 2
theorem own_mod3 (u : Int32) : own_k3 ((u &&& (2147483647 : Int32)) % (3 : Int32)) := by
  have h1 := c_mask u 2147483647 31 (by decide) (by decide)
  simp only [Nat.reducePow] at h1
  have h2 := (c_irem (u &&& (2147483647 : Int32)) 3 3 rfl).1 (by omega)
  have h3 : ((u &&& (2147483647 : Int32)) % (3 : Int32)).toInt = 0 ∨ ((u &&& (2147483647 : Int32)) % (3 : Int32)).toInt = 1 ∨ ((u &&& (2147483647 : Int32)) % (3 : Int32)).toInt = 2 := by omega
  rcases h3 with h | h | h
  · exact Or.inl (Int32.toInt_inj.mp h)
  · exact Or.inr (Or.inl (Int32.toInt_inj.mp h))
  · exact Or.inr (Or.inr (Int32.toInt_inj.mp h))
theorem own_size (u : Int32) : ¬ (u &&& (1073741823 : Int32)) < (0 : Int32) ∧ ¬ (1073741823 : Int32) < (u &&& (1073741823 : Int32)) := by
  have h1 := c_mask u 1073741823 30 (by decide) (by decide)
  simp only [Nat.reducePow] at h1
  rw [Int32.lt_iff_toInt_lt, Int32.lt_iff_toInt_lt, h1]
  have e0 : (0 : Int32).toInt = 0 := rfl
  have e1 : (1073741823 : Int32).toInt = 1073741823 := rfl
  omega
theorem own_inj {k1 k2 : Int32} {x y z : Addr} (h1 : own_k3 k1) (h2 : own_k3 k2) (a : x ≠ y) (b : x ≠ z) (c : y ≠ z) : own_mode k1 x y z = own_mode k2 x y z ↔ k1 = k2 := by
  rcases h1 with rfl | rfl | rfl <;> rcases h2 with rfl | rfl | rfl <;> simp +decide [own_mode, a, b, c, a.symm, b.symm, c.symm]
theorem own_eq_law {k1 k2 s1 s2 : Int32} {x y z : Addr} (h1 : own_k3 k1) (h2 : own_k3 k2) (a : x ≠ y) (b : x ≠ z) (c : y ≠ z) : own_eq (own_mode k1 x y z) (own_mode k2 x y z) s1 s2 = if k1 = k2 then (if s1 = s2 then (1 : Int32) else (0 : Int32)) else (0 : Int32) := by
  unfold own_eq
  simp only [own_inj h1 h2 a b c]
theorem own_eq_law' {k1 k2 s1 s2 : Int32} {x y z : Addr} (h1 : own_k3 k1) (h2 : own_k3 k2) (a : x ≠ y) (b : x ≠ z) (c : y ≠ z) : own_eq (own_mode k2 x y z) (own_mode k1 x y z) s2 s1 = if k1 = k2 then (if s1 = s2 then (1 : Int32) else (0 : Int32)) else (0 : Int32) := by
  rw [own_eq_law h2 h1 a b c]
  by_cases q : k1 = k2
  · subst q; by_cases r : s1 = s2
    · subst r; rfl
    · rw [if_pos rfl, if_pos rfl, if_neg (fun e => r e.symm), if_neg r]
  · rw [if_neg (fun e => q e.symm), if_neg q]
section OwnNS
variable {Z : State} {a0 : Array Value}
theorem own_root {O K : String} {n : Nat} (w : (Jvm.Cond.noSuperclass O).before a0 Z = true) (wk : (Jvm.Cond.instantiable K n).before a0 Z = true) (hn : O ≠ K) : NS Z O K := by
  obtain ⟨c, k, h1, h2, h3, -, -⟩ := Cond.noSuperclass_spec w
  obtain ⟨t, kt, g1, -⟩ := Cond.instantiable_spec wk
  have ne := ids_ne h1 g1 hn
  refine ⟨c, t, h1, g1, fun fuel => ?_⟩
  cases fuel with
  | zero => rfl
  | succ f => simp [Vm.isSubclassAux, ne, h2, h3]
theorem own_no {C S K : String} {n : Nat} (w : (Jvm.Cond.superclass C S).before a0 Z = true) (wk : (Jvm.Cond.instantiable K n).before a0 Z = true) (m : NS Z C K) (hn : C ≠ K) : ∃ c t, Z.vm.findClass C = some c ∧ Z.vm.findClass K = some t ∧ Z.vm.assignable c t = false := by
  obtain ⟨c, t, h0, g0, n3⟩ := m
  obtain ⟨p, k, kp, h1, h2, h3, h4, h5, -, h7⟩ := Cond.superclass_spec h0 w
  obtain ⟨t', kt, g1, g2, g3, g4, -⟩ := Cond.instantiable_spec wk
  cases g0.symm.trans g1
  have ne := ids_ne h0 g0 hn
  have g5 : kt.isInterface = false := by simp only [Bool.or_eq_false_iff] at g4; exact g4.1
  refine ⟨c, t, h0, g0, ?_⟩
  show Z.vm.assignableAux (255 + 1) c t = false
  simp [Vm.assignableAux, ne, h2, g2, h5, g3, g5, Vm.isSubclass, n3]
end OwnNS
def own_CT : Term := Term.static "java/lang/Integer$IntegerCache" "cache" "[Ljava/lang/Integer;"
theorem own_cache {s : State} {args : Array Value} {arr : Addr} {cl : Cell} (ev : own_CT.eval args s none [] s = some (.ref arr)) (A : Arr s s.heap arr cl (.object "java/lang/Integer"))
    (hl : (Jvm.Cond.eq (.length own_CT) (.int 256)).before args s = true)
    (hall : (Jvm.Cond.all own_CT (.and (.exactly (.elem own_CT (.index 0)) "java/lang/Integer") (.eq (.field (.elem own_CT (.index 0)) "java/lang/Integer" "value" "I") (.sub (.index 0) (.int 128))))).before args s = true) :
    cl.slots.size = 256 ∧ ∀ j, j < 256 → ∃ r, cl.slots[j]? = some (.ref r) ∧ Exa s s.heap r "java/lang/Integer" := by
  have hat := Jvm.Free.IntBox.arrayAt_of A.1 A.2.1 A.2.2
  obtain ⟨h1, h2⟩ := Jvm.Free.IntBox.length_fwd hl ev A.1 A.2.1 A.2.2
  have h3 := congrArg Int32.toInt h2
  rw [len_toInt h1] at h3
  have h4 : cl.slots.size = 256 := by
    have e : (256 : Int32).toInt = 256 := rfl
    omega
  refine ⟨h4, fun j hj => ?_⟩
  have q := Cond.all_elim ev hat (Cond.before_iff.mp hall) j (by omega)
  obtain ⟨q1, -⟩ := and_e q
  obtain ⟨hnn, hback⟩ := Jvm.Free.IntBox.place_nonneg j hj
  have evj : own_CT.eval args s none [j] s = some (.ref arr) := by rw [← ev]; rfl
  have hlt : j < cl.slots.size := by omega
  have evE : (Term.elem own_CT (.index 0)).eval args s none [j] s = cl.slots[j]? := by
    simp only [Term.eval] at evj ⊢
    simp [evj, hnn, hat, hback]
  obtain ⟨r, c', cell, k, x1, x2, x3, x4, x5, x6, x7⟩ := Cond.exactly_spec (beq_iff_eq.mpr q1 : (Jvm.Cond.exactly (.elem own_CT (.index 0)) "java/lang/Integer").holds args s none s [j] = true)
  rw [evE] at x1
  subst x6
  exact ⟨r, x1, cell, k, x3, x2, x4, x5, x7⟩
theorem own_field {s : State} {args : Array Value} {t : Term} {C n d : String} {k : Int32} {a : Addr} (ev : t.eval args s none [] s = some (.ref a)) (h : (Jvm.Cond.eq (.field t C n d) (.int k)).value args s none s [] = some true) : Fld s s.heap a C n d (.int k) := by
  have e1 := Cond.eq_int (beq_iff_eq.mpr h : (Jvm.Cond.eq (.field t C n d) (.int k)).holds args s none s [] = true) rfl
  exact Fld.start (by rw [← fld_at (t := t) (args := args) (first := s) (o := none) (idx := []) ev]; exact e1)
theorem own_idx (u : Int32) (h0 : ¬ u < (0 : Int32)) (h1 : ¬ (127 : Int32) < u) : ¬ (u + (128 : Int32)) < (0 : Int32) ∧ (u + (128 : Int32)).toNatClampNeg < 256 := by
  rw [Int32.lt_iff_toInt_lt] at h0 h1
  have e0 : (0 : Int32).toInt = 0 := rfl
  have e1 : (127 : Int32).toInt = 127 := rfl
  have h2 := c_iadd u 128
  have h3 := rng32 (u + 128)
  rw [show (128 : Int32).toInt = 128 from rfl] at h2
  rw [Int32.lt_iff_toInt_lt]
  simp only [Int32.toNatClampNeg]
  omega
theorem own_ge128 (u : Int32) (h0 : ¬ u < (0 : Int32)) : ¬ u < (-128 : Int32) := by
  rw [Int32.lt_iff_toInt_lt] at *
  have e0 : (0 : Int32).toInt = 0 := rfl
  have e1 : (-128 : Int32).toInt = -128 := rfl
  omega
theorem pd_6 : parseMethodDescriptor "(I)Ljava/lang/Integer;" = some ⟨[.int], some (.object "java/lang/Integer")⟩ := by decide +kernel
theorem pd_5 : parseMethodDescriptor "(Ljava/lang/Object;)Z" = some ⟨[(.object "java/lang/Object")], some .boolean⟩ := by decide +kernel
theorem pd_4 : parseMethodDescriptor "(Lcom/example/frameloom/frameloom/Constraint$Mode;I)V" = some ⟨[(.object "com/example/frameloom/frameloom/Constraint$Mode"), .int], none⟩ := by decide +kernel
theorem pd_3 : parseMethodDescriptor "(I)Lcom/example/frameloom/frameloom/Constraint$Mode;" = some ⟨[.int], some (.object "com/example/frameloom/frameloom/Constraint$Mode")⟩ := by decide +kernel
theorem djdk_33_m22_22 : decode jdk_33_method_22_code 22 = .ok (.areturn, 1) := by decide +kernel
theorem djdk_33_m22_21 : decode jdk_33_method_22_code 21 = .ok (.aaload, 1) := by decide +kernel
theorem djdk_33_m22_20 : decode jdk_33_method_22_code 20 = .ok (.iadd, 1) := by decide +kernel
theorem djdk_33_m22_17 : decode jdk_33_method_22_code 17 = .ok (.sipush 128, 3) := by decide +kernel
theorem djdk_33_m22_16 : decode jdk_33_method_22_code 16 = .ok (.iload_n 0, 1) := by decide +kernel
theorem djdk_33_m22_13 : decode jdk_33_method_22_code 13 = .ok (.getstatic 195, 3) := by decide +kernel
theorem djdk_33_m22_31 : decode jdk_33_method_22_code 31 = .ok (.areturn, 1) := by decide +kernel
theorem djdk_33_m22_28 : decode jdk_33_method_22_code 28 = .ok (.invokespecial 199, 3) := by decide +kernel
theorem djdk_33_m22_27 : decode jdk_33_method_22_code 27 = .ok (.iload_n 0, 1) := by decide +kernel
theorem djdk_33_m22_26 : decode jdk_33_method_22_code 26 = .ok (.dup, 1) := by decide +kernel
theorem djdk_33_m22_23 : decode jdk_33_method_22_code 23 = .ok (.new 1, 3) := by decide +kernel
theorem djdk_33_m22_10 : decode jdk_33_method_22_code 10 = .ok (.if_icmp .gt 13, 3) := by decide +kernel
theorem djdk_33_m22_7 : decode jdk_33_method_22_code 7 = .ok (.getstatic 191, 3) := by decide +kernel
theorem djdk_33_m22_6 : decode jdk_33_method_22_code 6 = .ok (.iload_n 0, 1) := by decide +kernel
theorem djdk_33_m22_3 : decode jdk_33_method_22_code 3 = .ok (.if_icmp .lt 20, 3) := by decide +kernel
theorem djdk_33_m22_1 : decode jdk_33_method_22_code 1 = .ok (.bipush (-128), 2) := by decide +kernel
theorem djdk_33_m22_0 : decode jdk_33_method_22_code 0 = .ok (.iload_n 0, 1) := by decide +kernel
theorem pd_2 : parseMethodDescriptor "(I)V" = some ⟨[.int], none⟩ := by decide +kernel
theorem djdk_33_m23_9 : decode jdk_33_method_23_code 9 = .ok (.return_, 1) := by decide +kernel
theorem djdk_33_m23_6 : decode jdk_33_method_23_code 6 = .ok (.putfield 205, 3) := by decide +kernel
theorem djdk_33_m23_5 : decode jdk_33_method_23_code 5 = .ok (.iload_n 1, 1) := by decide +kernel
theorem djdk_33_m23_4 : decode jdk_33_method_23_code 4 = .ok (.aload_n 0, 1) := by decide +kernel
theorem djdk_33_m23_1 : decode jdk_33_method_23_code 1 = .ok (.invokespecial 202, 3) := by decide +kernel
theorem djdk_33_m23_0 : decode jdk_33_method_23_code 0 = .ok (.aload_n 0, 1) := by decide +kernel
theorem pn_5 : plainName "java/lang/Integer" = true := by first | (simp [plainName, overriddenIn]; done) | decide +kernel
theorem dp5_m2_35 : decode prog_5_method_2_code 35 = .ok (.goto 4, 3) := by decide +kernel
theorem dp5_m2_34 : decode prog_5_method_2_code 34 = .ok (.iconst 1, 1) := by decide +kernel
theorem dp5_m2_31 : decode prog_5_method_2_code 31 = .ok (.if_icmp .ne 7, 3) := by decide +kernel
theorem dp5_m2_28 : decode prog_5_method_2_code 28 = .ok (.getfield 32, 3) := by decide +kernel
theorem dp5_m2_27 : decode prog_5_method_2_code 27 = .ok (.aload_n 2, 1) := by decide +kernel
theorem dp5_m2_24 : decode prog_5_method_2_code 24 = .ok (.getfield 32, 3) := by decide +kernel
theorem dp5_m2_23 : decode prog_5_method_2_code 23 = .ok (.aload_n 0, 1) := by decide +kernel
theorem dp5_m2_20 : decode prog_5_method_2_code 20 = .ok (.if_acmp .ne 18, 3) := by decide +kernel
theorem dp5_m2_17 : decode prog_5_method_2_code 17 = .ok (.getfield 27, 3) := by decide +kernel
theorem dp5_m2_16 : decode prog_5_method_2_code 16 = .ok (.aload_n 2, 1) := by decide +kernel
theorem dp5_m2_13 : decode prog_5_method_2_code 13 = .ok (.getfield 27, 3) := by decide +kernel
theorem dp5_m2_12 : decode prog_5_method_2_code 12 = .ok (.aload_n 0, 1) := by decide +kernel
theorem dp5_m2_11 : decode prog_5_method_2_code 11 = .ok (.astore_n 2, 1) := by decide +kernel
theorem dp5_m2_8 : decode prog_5_method_2_code 8 = .ok (.checkcast 28, 3) := by decide +kernel
theorem dp5_m2_7 : decode prog_5_method_2_code 7 = .ok (.aload_n 1, 1) := by decide +kernel
theorem dp5_m2_39 : decode prog_5_method_2_code 39 = .ok (.ireturn, 1) := by decide +kernel
theorem dp5_m2_38 : decode prog_5_method_2_code 38 = .ok (.iconst 0, 1) := by decide +kernel
theorem dp5_m2_4 : decode prog_5_method_2_code 4 = .ok (.ifCond .eq 34, 3) := by decide +kernel
theorem dp5_m2_1 : decode prog_5_method_2_code 1 = .ok (.instanceof 28, 3) := by decide +kernel
theorem dp5_m2_0 : decode prog_5_method_2_code 0 = .ok (.aload_n 1, 1) := by decide +kernel
theorem dp5_m1_45 : decode prog_5_method_1_code 45 = .ok (.return_, 1) := by decide +kernel
theorem dp5_m1_42 : decode prog_5_method_1_code 42 = .ok (.putfield 32, 3) := by decide +kernel
theorem dp5_m1_41 : decode prog_5_method_1_code 41 = .ok (.iload_n 2, 1) := by decide +kernel
theorem dp5_m1_40 : decode prog_5_method_1_code 40 = .ok (.aload_n 0, 1) := by decide +kernel
theorem dp5_m1_37 : decode prog_5_method_1_code 37 = .ok (.putfield 27, 3) := by decide +kernel
theorem dp5_m1_36 : decode prog_5_method_1_code 36 = .ok (.aload_n 1, 1) := by decide +kernel
theorem dp5_m1_35 : decode prog_5_method_1_code 35 = .ok (.aload_n 0, 1) := by decide +kernel
theorem dp5_m1_18 : decode prog_5_method_1_code 18 = .ok (.if_icmp .le 17, 3) := by decide +kernel
theorem dp5_m1_16 : decode prog_5_method_1_code 16 = .ok (.ldc 17, 2) := by decide +kernel
theorem dp5_m1_15 : decode prog_5_method_1_code 15 = .ok (.iload_n 2, 1) := by decide +kernel
theorem dp5_m1_12 : decode prog_5_method_1_code 12 = .ok (.ifCond .lt 9, 3) := by decide +kernel
theorem dp5_m1_11 : decode prog_5_method_1_code 11 = .ok (.iload_n 2, 1) := by decide +kernel
theorem dp5_m1_10 : decode prog_5_method_1_code 10 = .ok (.pop, 1) := by decide +kernel
theorem dp5_m1_7 : decode prog_5_method_1_code 7 = .ok (.invokestatic 9, 3) := by decide +kernel
theorem dp5_m1_5 : decode prog_5_method_1_code 5 = .ok (.ldc 7, 2) := by decide +kernel
theorem dp5_m1_4 : decode prog_5_method_1_code 4 = .ok (.aload_n 1, 1) := by decide +kernel
theorem dp5_m1_1 : decode prog_5_method_1_code 1 = .ok (.invokespecial 1, 3) := by decide +kernel
theorem dp5_m1_0 : decode prog_5_method_1_code 0 = .ok (.aload_n 0, 1) := by decide +kernel
theorem pd_1 : parseMethodDescriptor "(Ljava/lang/Object;Ljava/lang/String;)Ljava/lang/Object;" = some ⟨[(.object "java/lang/Object"), (.object "java/lang/String")], some (.object "java/lang/Object")⟩ := by decide +kernel
theorem pd_0 : parseMethodDescriptor "()V" = some ⟨[], none⟩ := by decide +kernel
theorem pn_4 : plainName "com/example/frameloom/frameloom/Constraint" = true := by first | (simp [plainName, overriddenIn]; done) | decide +kernel
theorem djdk_31_m11_14 : decode jdk_31_method_11_code 14 = .ok (.areturn, 1) := by decide +kernel
theorem djdk_31_m11_13 : decode jdk_31_method_11_code 13 = .ok (.aload_n 0, 1) := by decide +kernel
theorem djdk_31_m11_1 : decode jdk_31_method_11_code 1 = .ok (.ifnonnull 12, 3) := by decide +kernel
theorem djdk_31_m11_0 : decode jdk_31_method_11_code 0 = .ok (.aload_n 0, 1) := by decide +kernel
theorem pn_3 : plainName "java/util/Objects" = true := by first | (simp [plainName, overriddenIn]; done) | decide +kernel
theorem djdk_18_m1_4 : decode jdk_18_method_1_code 4 = .ok (.return_, 1) := by decide +kernel
theorem djdk_18_m1_1 : decode jdk_18_method_1_code 1 = .ok (.invokespecial 1, 3) := by decide +kernel
theorem djdk_18_m1_0 : decode jdk_18_method_1_code 0 = .ok (.aload_n 0, 1) := by decide +kernel
theorem pn_2 : plainName "java/lang/Number" = true := by first | (simp [plainName, overriddenIn]; done) | decide +kernel
theorem djdk_30_m1_4 : decode jdk_30_method_1_code 4 = .ok (.return_, 1) := by decide +kernel
theorem djdk_30_m1_1 : decode jdk_30_method_1_code 1 = .ok (.invokespecial 1, 3) := by decide +kernel
theorem djdk_30_m1_0 : decode jdk_30_method_1_code 0 = .ok (.aload_n 0, 1) := by decide +kernel
theorem pn_1 : plainName "java/lang/Record" = true := by first | (simp [plainName, overriddenIn]; done) | decide +kernel
theorem dm2_20 : decode method_2_code 20 = .ok (.areturn, 1) := by decide +kernel
theorem dm2_17 : decode method_2_code 17 = .ok (.getstatic 16, 3) := by decide +kernel
theorem dm2_16 : decode method_2_code 16 = .ok (.areturn, 1) := by decide +kernel
theorem dm2_13 : decode method_2_code 13 = .ok (.getstatic 13, 3) := by decide +kernel
theorem dm2_10 : decode method_2_code 10 = .ok (.if_icmp .ne 7, 3) := by decide +kernel
theorem dm2_9 : decode method_2_code 9 = .ok (.iconst 1, 1) := by decide +kernel
theorem dm2_8 : decode method_2_code 8 = .ok (.iload_n 0, 1) := by decide +kernel
theorem dm2_7 : decode method_2_code 7 = .ok (.areturn, 1) := by decide +kernel
theorem dm2_4 : decode method_2_code 4 = .ok (.getstatic 7, 3) := by decide +kernel
theorem dm2_1 : decode method_2_code 1 = .ok (.ifCond .ne 7, 3) := by decide +kernel
theorem dm2_0 : decode method_2_code 0 = .ok (.iload_n 0, 1) := by decide +kernel
theorem pn_0 : plainName "com/example/frameloom/frameloom/ConstraintEqualsPinLaw" = true := by first | (simp [plainName, overriddenIn]; done) | decide +kernel
theorem ef_Mode (m : MethodId) (x0 : Int32) : entryFrame m #[(.int x0)] 1 = mkF m 0 #[.val (.int x0)] [] := by first | (simp [entryFrame, mkF, argsToLocals, Value.category]; done) | rfl
def QMode (Z : State) (kq : Int32) (aE : Addr) (aA : Addr) (aU : Addr) (h0 : Heap) (n0 : Nat) (v : Option Value) (h : Heap) (L : List Loc) : Prop := v = some (.ref (own_mode kq aE aA aU)) ∧ Fr n0 L ∧ h = h0
set_option maxRecDepth 65536 in
set_option maxHeartbeats 40000000 in
theorem rmMode (l : Launch) (Z : State) (a0 : Array Value) (hw : ∀ d ∈ tables_1, d.before a0 Z = true) (ws : List Jvm.Cond) (kq : Int32) (aE : Addr) (aA : Addr) (aU : Addr) (h0 : Heap) (n0 : Nat) (Z0 : n0 ≤ h0.size) (S_EXACT : Sta Z Z.heap "com/example/frameloom/frameloom/Constraint$Mode" "EXACT" "Lcom/example/frameloom/frameloom/Constraint$Mode;" (.ref aE)) (S_AT_MOST : Sta Z Z.heap "com/example/frameloom/frameloom/Constraint$Mode" "AT_MOST" "Lcom/example/frameloom/frameloom/Constraint$Mode;" (.ref aA)) (S_UNBOUNDED : Sta Z Z.heap "com/example/frameloom/frameloom/Constraint$Mode" "UNBOUNDED" "Lcom/example/frameloom/frameloom/Constraint$Mode;" (.ref aU)) (XO : Old Z n0 h0) :
    MetFree l (⟨"com/example/frameloom/frameloom/ConstraintEqualsPinLaw", "mode", "(I)Lcom/example/frameloom/frameloom/Constraint$Mode;"⟩ : MethodName) (head1 (Jvm.Cond.code (⟨"com/example/frameloom/frameloom/ConstraintEqualsPinLaw", "mode", "(I)Lcom/example/frameloom/frameloom/Constraint$Mode;"⟩ : MethodName) method_2_code 1 (some (.object "com/example/frameloom/frameloom/Constraint$Mode")) :: ws) ({ frames := 0, cells := 0, slots := 0, locals := 0 } : Room)) (fun A_ U => A_ = #[(.int kq)] ∧ Z.Warmed39 U.vm ∧ U.heap = h0) (fun _ _ _ _ _ => True) (fun _ U o U' => ∃ v L, o = .returned v ∧ QMode Z kq aE aA aU h0 n0 v U'.heap L ∧ FrameEnd U o U' L ({ frames := 0, cells := 0, slots := 0, locals := 0 } : Room).cells ({ frames := 0, cells := 0, slots := 0, locals := 0 } : Room).slots) := by
  refine MetFree.of_bodySF (plainFor_of_name pn_0) hisR ?_
  intro p e s m args below meth c s₁ Bd hml0 hP hK
  obtain ⟨rfl, hZ, hh⟩ := hP
  have hx := Bd.exec
  have hby := Bd.bytes
  have hml : c.maxLocals = 1 := hml0
  have hown : s.vm.findClass "com/example/frameloom/frameloom/ConstraintEqualsPinLaw" = some m.cls := findClass_of_methodNamed Bd.named
  have hnm := (name_of_methodNamed Bd.named Bd.method).1
  have X0 : Stand p l e ({ frames := 0, cells := 0, slots := 0, locals := 0 } : Room) s m #[(.int kq)] below meth c s₁ [] 0 0 := Stand.of_body Bd
  have e0 : s₁.heap = h0 := by rw [← hh, Bd.state]; rfl
  have N0 := Fr.nil n0
  have k0 : ∀ t, Steps p.tables e below (s₁.setTop (mkF m 0 #[.val (.int kq)] [])) t → Steps p.tables e below (s₁.setTop (entryFrame m #[(.int kq)] 1)) t := fun t k => castTop (ef_Mode m kq) k
  have k1 : ∀ t, Steps p.tables e below (s₁.setTop (mkF m 1 #[.val (.int kq)] [(.int kq)])) t → Steps p.tables e below (s₁.setTop (entryFrame m #[(.int kq)] 1)) t := by
    intro t k
    refine k0 _ ?_
    show Steps p.tables e below (s₁.setTop (mkF m 0 #[.val (.int kq)] [])) _
    refine XS.iloadN X0.here hx rfl (hb hby dm2_0) rfl ?_
    show Steps p.tables e below (s₁.setTop (mkF m 1 #[.val (.int kq)] [(.int kq)])) _
    exact k
  by_cases h0_ : kq = (0 : Int32)
  · have k2 : ∀ t, Steps p.tables e below (s₁.setTop (mkF m 4 #[.val (.int kq)] [])) t → Steps p.tables e below (s₁.setTop (entryFrame m #[(.int kq)] 1)) t := by
      intro t k
      refine k1 _ ?_
      show Steps p.tables e below (s₁.setTop (mkF m 1 #[.val (.int kq)] [(.int kq)])) _
      refine XS.ifNo X0.here hx rfl (hb hby dm2_1) rfl ((if0 _ _).trans (teq h0_).2) ?_
      show Steps p.tables e below (s₁.setTop (mkF m 4 #[.val (.int kq)] [])) _
      exact k
    obtain ⟨T3, X3, e3, st3⟩ := getS (host := "") X0 hx hZ hown (hw _ (List.mem_of_getElem? (i := 9) rfl)) Via.refl e0 (S_EXACT.ext XO.2) (g := (mkF m 4 #[.val (.int kq)] [])) rfl (hb hby dm2_4)
    have k3 : ∀ t, Steps p.tables e below (T3.setTop (mkF m 7 #[.val (.int kq)] [(.ref aE)])) t → Steps p.tables e below (s₁.setTop (entryFrame m #[(.int kq)] 1)) t := fun t k => k2 t (st3 _ k)
    obtain ⟨fs, hr, hrun, hended, hW, hsame⟩ := X3.leave (v := some (.ref aE)) (fun h => by rw [Bd.returns] at h; cases h)
    refine ⟨_, _, k3 _ ?_, hrun, hended, _, _, rfl, ?_, ⟨_, rfl⟩, hW, hsame.mono (Nat.le_of_ble_eq_true rfl) (Nat.le_of_ble_eq_true rfl)⟩
    · exact retOut X3 hx Bd.returns rfl (Or.inr (Or.inr (Or.inr (Or.inr ⟨rfl, rfl, rfl⟩)))) (hb hby dm2_7) hr
    · show QMode Z kq aE aA aU h0 n0 _ T3.heap _
      rw [e3]
      exact ⟨by simp [own_mode, h0_], N0, rfl⟩
  · have k4 : ∀ t, Steps p.tables e below (s₁.setTop (mkF m 10 #[.val (.int kq)] [(.int (1 : Int32)), (.int kq)])) t → Steps p.tables e below (s₁.setTop (entryFrame m #[(.int kq)] 1)) t := by
      intro t k
      refine k1 _ ?_
      show Steps p.tables e below (s₁.setTop (mkF m 1 #[.val (.int kq)] [(.int kq)])) _
      refine XS.ifYes X0.here hx rfl (pc0 := 1) (pc' := 8) rfl (hb hby dm2_1) rfl ((if0 _ _).trans (feq h0_).2) (by decide) (by decide) ?_
      show Steps p.tables e below (s₁.setTop (mkF m 8 #[.val (.int kq)] [])) _
      refine XS.iloadN X0.here hx rfl (hb hby dm2_8) rfl ?_
      show Steps p.tables e below (s₁.setTop (mkF m 9 #[.val (.int kq)] [(.int kq)])) _
      refine XS.iconst X0.here hx rfl (hb hby dm2_9) ?_
      show Steps p.tables e below (s₁.setTop (mkF m 10 #[.val (.int kq)] [(.int (1 : Int32)), (.int kq)])) _
      exact k
    by_cases h1_ : kq = (1 : Int32)
    · have k5 : ∀ t, Steps p.tables e below (s₁.setTop (mkF m 13 #[.val (.int kq)] [])) t → Steps p.tables e below (s₁.setTop (entryFrame m #[(.int kq)] 1)) t := by
        intro t k
        refine k4 _ ?_
        show Steps p.tables e below (s₁.setTop (mkF m 10 #[.val (.int kq)] [(.int (1 : Int32)), (.int kq)])) _
        refine XS.icmpNo X0.here hx rfl (hb hby dm2_10) rfl (teq h1_).2 ?_
        show Steps p.tables e below (s₁.setTop (mkF m 13 #[.val (.int kq)] [])) _
        exact k
      obtain ⟨T6, X6, e6, st6⟩ := getS (host := "") X0 hx hZ hown (hw _ (List.mem_of_getElem? (i := 73) rfl)) Via.refl e0 (S_AT_MOST.ext XO.2) (g := (mkF m 13 #[.val (.int kq)] [])) rfl (hb hby dm2_13)
      have k6 : ∀ t, Steps p.tables e below (T6.setTop (mkF m 16 #[.val (.int kq)] [(.ref aA)])) t → Steps p.tables e below (s₁.setTop (entryFrame m #[(.int kq)] 1)) t := fun t k => k5 t (st6 _ k)
      obtain ⟨fs, hr, hrun, hended, hW, hsame⟩ := X6.leave (v := some (.ref aA)) (fun h => by rw [Bd.returns] at h; cases h)
      refine ⟨_, _, k6 _ ?_, hrun, hended, _, _, rfl, ?_, ⟨_, rfl⟩, hW, hsame.mono (Nat.le_of_ble_eq_true rfl) (Nat.le_of_ble_eq_true rfl)⟩
      · exact retOut X6 hx Bd.returns rfl (Or.inr (Or.inr (Or.inr (Or.inr ⟨rfl, rfl, rfl⟩)))) (hb hby dm2_16) hr
      · show QMode Z kq aE aA aU h0 n0 _ T6.heap _
        rw [e6]
        exact ⟨by simp [own_mode, h0_, h1_], N0, rfl⟩
    · have k7 : ∀ t, Steps p.tables e below (s₁.setTop (mkF m 17 #[.val (.int kq)] [])) t → Steps p.tables e below (s₁.setTop (entryFrame m #[(.int kq)] 1)) t := by
        intro t k
        refine k4 _ ?_
        show Steps p.tables e below (s₁.setTop (mkF m 10 #[.val (.int kq)] [(.int (1 : Int32)), (.int kq)])) _
        refine XS.icmpYes X0.here hx rfl (pc0 := 10) (pc' := 17) rfl (hb hby dm2_10) rfl (feq h1_).2 (by decide) (by decide) ?_
        show Steps p.tables e below (s₁.setTop (mkF m 17 #[.val (.int kq)] [])) _
        exact k
      obtain ⟨T8, X8, e8, st8⟩ := getS (host := "") X0 hx hZ hown (hw _ (List.mem_of_getElem? (i := 40) rfl)) Via.refl e0 (S_UNBOUNDED.ext XO.2) (g := (mkF m 17 #[.val (.int kq)] [])) rfl (hb hby dm2_17)
      have k8 : ∀ t, Steps p.tables e below (T8.setTop (mkF m 20 #[.val (.int kq)] [(.ref aU)])) t → Steps p.tables e below (s₁.setTop (entryFrame m #[(.int kq)] 1)) t := fun t k => k7 t (st8 _ k)
      obtain ⟨fs, hr, hrun, hended, hW, hsame⟩ := X8.leave (v := some (.ref aU)) (fun h => by rw [Bd.returns] at h; cases h)
      refine ⟨_, _, k8 _ ?_, hrun, hended, _, _, rfl, ?_, ⟨_, rfl⟩, hW, hsame.mono (Nat.le_of_ble_eq_true rfl) (Nat.le_of_ble_eq_true rfl)⟩
      · exact retOut X8 hx Bd.returns rfl (Or.inr (Or.inr (Or.inr (Or.inr ⟨rfl, rfl, rfl⟩)))) (hb hby dm2_20) hr
      · show QMode Z kq aE aA aU h0 n0 _ T8.heap _
        rw [e8]
        exact ⟨by simp [own_mode, h0_, h1_], N0, rfl⟩
theorem ef_Rec (m : MethodId) (x0 : Addr) : entryFrame m #[(.ref x0)] 1 = mkF m 0 #[.val (.ref x0)] [] := by first | (simp [entryFrame, mkF, argsToLocals, Value.category]; done) | rfl
def QRec (Z : State) (a : Addr) (h0 : Heap) (n0 : Nat) (v : Option Value) (h : Heap) (L : List Loc) : Prop := v = none ∧ Fr n0 L ∧ h = h0
set_option maxRecDepth 65536 in
set_option maxHeartbeats 40000000 in
theorem rmRec (l : Launch) (Z : State) (a0 : Array Value) (hw : ∀ d ∈ tables_1, d.before a0 Z = true) (ws : List Jvm.Cond) (a : Addr) (h0 : Heap) (n0 : Nat) (Z0 : n0 ≤ h0.size)  :
    MetFree l (⟨"java/lang/Record", "<init>", "()V"⟩ : MethodName) (head1 (Jvm.Cond.code (⟨"java/lang/Record", "<init>", "()V"⟩ : MethodName) jdk_30_method_1_code 1 none :: ws) ({ frames := 1, cells := 0, slots := 0, locals := 12 } : Room)) (fun A_ U => A_ = #[(.ref a)] ∧ Z.Warmed39 U.vm ∧ U.heap = h0) (fun _ _ _ _ _ => True) (fun _ U o U' => ∃ v L, o = .returned v ∧ QRec Z a h0 n0 v U'.heap L ∧ FrameEnd U o U' L ({ frames := 1, cells := 0, slots := 0, locals := 12 } : Room).cells ({ frames := 1, cells := 0, slots := 0, locals := 12 } : Room).slots) := by
  refine MetFree.of_bodySF (plainFor_of_name pn_1) hisR ?_
  intro p e s m args below meth c s₁ Bd hml0 hP hK
  obtain ⟨rfl, hZ, hh⟩ := hP
  have hx := Bd.exec
  have hby := Bd.bytes
  have hml : c.maxLocals = 1 := hml0
  have hown : s.vm.findClass "java/lang/Record" = some m.cls := findClass_of_methodNamed Bd.named
  have hnm := (name_of_methodNamed Bd.named Bd.method).1
  have X0 : Stand p l e ({ frames := 1, cells := 0, slots := 0, locals := 12 } : Room) s m #[(.ref a)] below meth c s₁ [] 0 0 := Stand.of_body Bd
  have e0 : s₁.heap = h0 := by rw [← hh, Bd.state]; rfl
  have N0 := Fr.nil n0
  have k0 : ∀ t, Steps p.tables e below (s₁.setTop (mkF m 0 #[.val (.ref a)] [])) t → Steps p.tables e below (s₁.setTop (entryFrame m #[(.ref a)] 1)) t := fun t k => castTop (ef_Rec m a) k
  have k1 : ∀ t, Steps p.tables e below (s₁.setTop (mkF m 1 #[.val (.ref a)] [(.ref a)])) t → Steps p.tables e below (s₁.setTop (entryFrame m #[(.ref a)] 1)) t := by
    intro t k
    refine k0 _ ?_
    show Steps p.tables e below (s₁.setTop (mkF m 0 #[.val (.ref a)] [])) _
    refine XS.aloadN X0.here hx rfl (hb hby djdk_30_m1_0) rfl rfl ?_
    show Steps p.tables e below (s₁.setTop (mkF m 1 #[.val (.ref a)] [(.ref a)])) _
    exact k
  obtain ⟨T2, X2, e2, st2⟩ := initO X0 hx hZ hown (hw _ (List.mem_of_getElem? (i := 20) rfl)) (hw _ (List.mem_of_getElem? (i := 21) rfl)) (hw _ (List.mem_of_getElem? (i := 22) rfl)) e0 (g := (mkF m 1 #[.val (.ref a)] [(.ref a)])) rfl (by rw [hml]; rfl) rfl (hb hby djdk_30_m1_1) (by decide) (W := 0) (by show 2 * 0 + _ ≤ _; exact Nat.le_of_eq rfl) (by decide)
  have k2 : ∀ t, Steps p.tables e below (T2.setTop (mkF m 4 #[.val (.ref a)] [])) t → Steps p.tables e below (s₁.setTop (entryFrame m #[(.ref a)] 1)) t := fun t k => k1 t (st2 _ k)
  obtain ⟨fs, hr, hrun, hended, hW, hsame⟩ := X2.leave (v := none) (fun h => rfl)
  refine ⟨_, _, k2 _ ?_, hrun, hended, _, _, rfl, ?_, ⟨_, rfl⟩, hW, hsame.mono (Nat.le_of_ble_eq_true rfl) (Nat.le_of_ble_eq_true rfl)⟩
  · exact X2.returnOut hx Bd.returns (hb hby djdk_30_m1_4) hr
  · show QRec Z a h0 n0 _ T2.heap _
    rw [e2]
    exact ⟨rfl, N0, rfl⟩
theorem ef_Num (m : MethodId) (x0 : Addr) : entryFrame m #[(.ref x0)] 1 = mkF m 0 #[.val (.ref x0)] [] := by first | (simp [entryFrame, mkF, argsToLocals, Value.category]; done) | rfl
def QNum (Z : State) (a : Addr) (h0 : Heap) (n0 : Nat) (v : Option Value) (h : Heap) (L : List Loc) : Prop := v = none ∧ Fr n0 L ∧ h = h0
set_option maxRecDepth 65536 in
set_option maxHeartbeats 40000000 in
theorem rmNum (l : Launch) (Z : State) (a0 : Array Value) (hw : ∀ d ∈ tables_1, d.before a0 Z = true) (ws : List Jvm.Cond) (a : Addr) (h0 : Heap) (n0 : Nat) (Z0 : n0 ≤ h0.size)  :
    MetFree l (⟨"java/lang/Number", "<init>", "()V"⟩ : MethodName) (head1 (Jvm.Cond.code (⟨"java/lang/Number", "<init>", "()V"⟩ : MethodName) jdk_18_method_1_code 1 none :: ws) ({ frames := 1, cells := 0, slots := 0, locals := 12 } : Room)) (fun A_ U => A_ = #[(.ref a)] ∧ Z.Warmed39 U.vm ∧ U.heap = h0) (fun _ _ _ _ _ => True) (fun _ U o U' => ∃ v L, o = .returned v ∧ QNum Z a h0 n0 v U'.heap L ∧ FrameEnd U o U' L ({ frames := 1, cells := 0, slots := 0, locals := 12 } : Room).cells ({ frames := 1, cells := 0, slots := 0, locals := 12 } : Room).slots) := by
  refine MetFree.of_bodySF (plainFor_of_name pn_2) hisR ?_
  intro p e s m args below meth c s₁ Bd hml0 hP hK
  obtain ⟨rfl, hZ, hh⟩ := hP
  have hx := Bd.exec
  have hby := Bd.bytes
  have hml : c.maxLocals = 1 := hml0
  have hown : s.vm.findClass "java/lang/Number" = some m.cls := findClass_of_methodNamed Bd.named
  have hnm := (name_of_methodNamed Bd.named Bd.method).1
  have X0 : Stand p l e ({ frames := 1, cells := 0, slots := 0, locals := 12 } : Room) s m #[(.ref a)] below meth c s₁ [] 0 0 := Stand.of_body Bd
  have e0 : s₁.heap = h0 := by rw [← hh, Bd.state]; rfl
  have N0 := Fr.nil n0
  have k0 : ∀ t, Steps p.tables e below (s₁.setTop (mkF m 0 #[.val (.ref a)] [])) t → Steps p.tables e below (s₁.setTop (entryFrame m #[(.ref a)] 1)) t := fun t k => castTop (ef_Num m a) k
  have k1 : ∀ t, Steps p.tables e below (s₁.setTop (mkF m 1 #[.val (.ref a)] [(.ref a)])) t → Steps p.tables e below (s₁.setTop (entryFrame m #[(.ref a)] 1)) t := by
    intro t k
    refine k0 _ ?_
    show Steps p.tables e below (s₁.setTop (mkF m 0 #[.val (.ref a)] [])) _
    refine XS.aloadN X0.here hx rfl (hb hby djdk_18_m1_0) rfl rfl ?_
    show Steps p.tables e below (s₁.setTop (mkF m 1 #[.val (.ref a)] [(.ref a)])) _
    exact k
  obtain ⟨T2, X2, e2, st2⟩ := initO X0 hx hZ hown (hw _ (List.mem_of_getElem? (i := 67) rfl)) (hw _ (List.mem_of_getElem? (i := 21) rfl)) (hw _ (List.mem_of_getElem? (i := 22) rfl)) e0 (g := (mkF m 1 #[.val (.ref a)] [(.ref a)])) rfl (by rw [hml]; rfl) rfl (hb hby djdk_18_m1_1) (by decide) (W := 0) (by show 2 * 0 + _ ≤ _; exact Nat.le_of_eq rfl) (by decide)
  have k2 : ∀ t, Steps p.tables e below (T2.setTop (mkF m 4 #[.val (.ref a)] [])) t → Steps p.tables e below (s₁.setTop (entryFrame m #[(.ref a)] 1)) t := fun t k => k1 t (st2 _ k)
  obtain ⟨fs, hr, hrun, hended, hW, hsame⟩ := X2.leave (v := none) (fun h => rfl)
  refine ⟨_, _, k2 _ ?_, hrun, hended, _, _, rfl, ?_, ⟨_, rfl⟩, hW, hsame.mono (Nat.le_of_ble_eq_true rfl) (Nat.le_of_ble_eq_true rfl)⟩
  · exact X2.returnOut hx Bd.returns (hb hby djdk_18_m1_4) hr
  · show QNum Z a h0 n0 _ T2.heap _
    rw [e2]
    exact ⟨rfl, N0, rfl⟩
theorem ef_Rnn (m : MethodId) (x0 : Addr) (x1 : Addr) : entryFrame m #[(.ref x0), (.ref x1)] 2 = mkF m 0 #[.val (.ref x0), .val (.ref x1)] [] := by first | (simp [entryFrame, mkF, argsToLocals, Value.category]; done) | rfl
def QRnn (Z : State) (o1 : Addr) (sa : Addr) (h0 : Heap) (n0 : Nat) (v : Option Value) (h : Heap) (L : List Loc) : Prop := v = some (.ref o1) ∧ Fr n0 L ∧ h = h0
set_option maxRecDepth 65536 in
set_option maxHeartbeats 40000000 in
theorem rmRnn (l : Launch) (Z : State) (a0 : Array Value) (hw : ∀ d ∈ tables_1, d.before a0 Z = true) (ws : List Jvm.Cond) (o1 : Addr) (sa : Addr) (h0 : Heap) (n0 : Nat) (Z0 : n0 ≤ h0.size)  :
    MetFree l (⟨"java/util/Objects", "requireNonNull", "(Ljava/lang/Object;Ljava/lang/String;)Ljava/lang/Object;"⟩ : MethodName) (head1 (Jvm.Cond.code (⟨"java/util/Objects", "requireNonNull", "(Ljava/lang/Object;Ljava/lang/String;)Ljava/lang/Object;"⟩ : MethodName) jdk_31_method_11_code 2 (some (.object "java/lang/Object")) :: ws) ({ frames := 0, cells := 0, slots := 0, locals := 0 } : Room)) (fun A_ U => A_ = #[(.ref o1), (.ref sa)] ∧ Z.Warmed39 U.vm ∧ U.heap = h0) (fun _ _ _ _ _ => True) (fun _ U o U' => ∃ v L, o = .returned v ∧ QRnn Z o1 sa h0 n0 v U'.heap L ∧ FrameEnd U o U' L ({ frames := 0, cells := 0, slots := 0, locals := 0 } : Room).cells ({ frames := 0, cells := 0, slots := 0, locals := 0 } : Room).slots) := by
  refine MetFree.of_bodySF (plainFor_of_name pn_3) hisR ?_
  intro p e s m args below meth c s₁ Bd hml0 hP hK
  obtain ⟨rfl, hZ, hh⟩ := hP
  have hx := Bd.exec
  have hby := Bd.bytes
  have hml : c.maxLocals = 2 := hml0
  have hown : s.vm.findClass "java/util/Objects" = some m.cls := findClass_of_methodNamed Bd.named
  have hnm := (name_of_methodNamed Bd.named Bd.method).1
  have X0 : Stand p l e ({ frames := 0, cells := 0, slots := 0, locals := 0 } : Room) s m #[(.ref o1), (.ref sa)] below meth c s₁ [] 0 0 := Stand.of_body Bd
  have e0 : s₁.heap = h0 := by rw [← hh, Bd.state]; rfl
  have N0 := Fr.nil n0
  have k0 : ∀ t, Steps p.tables e below (s₁.setTop (mkF m 0 #[.val (.ref o1), .val (.ref sa)] [])) t → Steps p.tables e below (s₁.setTop (entryFrame m #[(.ref o1), (.ref sa)] 2)) t := fun t k => castTop (ef_Rnn m o1 sa) k
  have k1 : ∀ t, Steps p.tables e below (s₁.setTop (mkF m 14 #[.val (.ref o1), .val (.ref sa)] [(.ref o1)])) t → Steps p.tables e below (s₁.setTop (entryFrame m #[(.ref o1), (.ref sa)] 2)) t := by
    intro t k
    refine k0 _ ?_
    show Steps p.tables e below (s₁.setTop (mkF m 0 #[.val (.ref o1), .val (.ref sa)] [])) _
    refine XS.aloadN X0.here hx rfl (hb hby djdk_31_m11_0) rfl rfl ?_
    show Steps p.tables e below (s₁.setTop (mkF m 1 #[.val (.ref o1), .val (.ref sa)] [(.ref o1)])) _
    refine XS.ifnonnullYes X0.here hx rfl (pc0 := 1) (pc' := 13) rfl (hb hby djdk_31_m11_1) rfl (by decide) (by decide) ?_
    show Steps p.tables e below (s₁.setTop (mkF m 13 #[.val (.ref o1), .val (.ref sa)] [])) _
    refine XS.aloadN X0.here hx rfl (hb hby djdk_31_m11_13) rfl rfl ?_
    show Steps p.tables e below (s₁.setTop (mkF m 14 #[.val (.ref o1), .val (.ref sa)] [(.ref o1)])) _
    exact k
  obtain ⟨fs, hr, hrun, hended, hW, hsame⟩ := X0.leave (v := some (.ref o1)) (fun h => by rw [Bd.returns] at h; cases h)
  refine ⟨_, _, k1 _ ?_, hrun, hended, _, _, rfl, ?_, ⟨_, rfl⟩, hW, hsame.mono (Nat.le_of_ble_eq_true rfl) (Nat.le_of_ble_eq_true rfl)⟩
  · exact retOut X0 hx Bd.returns rfl (Or.inr (Or.inr (Or.inr (Or.inr ⟨rfl, rfl, rfl⟩)))) (hb hby djdk_31_m11_14) hr
  · show QRnn Z o1 sa h0 n0 _ s₁.heap _
    rw [e0]
    exact ⟨rfl, N0, rfl⟩
theorem ef_Con (m : MethodId) (x0 : Addr) (x1 : Addr) (x2 : Int32) : entryFrame m #[(.ref x0), (.ref x1), (.int x2)] 3 = mkF m 0 #[.val (.ref x0), .val (.ref x1), .val (.int x2)] [] := by first | (simp [entryFrame, mkF, argsToLocals, Value.category]; done) | rfl
def QCon (Z : State) (a : Addr) (md : Addr) (sz : Int32) (h0 : Heap) (n0 : Nat) (v : Option Value) (h : Heap) (L : List Loc) : Prop := v = none ∧ Fr n0 L ∧ Keep h0 h [a] ∧ Fld Z h a "com/example/frameloom/frameloom/Constraint" "mode" "Lcom/example/frameloom/frameloom/Constraint$Mode;" (.ref md) ∧ Fld Z h a "com/example/frameloom/frameloom/Constraint" "size" "I" (.int sz)
set_option maxRecDepth 65536 in
set_option maxHeartbeats 40000000 in
theorem rmCon (l : Launch) (Z : State) (a0 : Array Value) (hw : ∀ d ∈ tables_1, d.before a0 Z = true) (ws : List Jvm.Cond) (a : Addr) (md : Addr) (sz : Int32) (h0 : Heap) (n0 : Nat) (Z0 : n0 ≤ h0.size) (EE : Exa Z h0 a "com/example/frameloom/frameloom/Constraint") (ga : n0 ≤ a) (F1 : Fld Z h0 a "com/example/frameloom/frameloom/Constraint" "mode" "Lcom/example/frameloom/frameloom/Constraint$Mode;" .null) (F2 : Fld Z h0 a "com/example/frameloom/frameloom/Constraint" "size" "I" (.int (0 : Int32))) (hsz : ¬ sz < (0 : Int32)) (hmx : ¬ (1073741823 : Int32) < sz) :
    MetFree l (⟨"com/example/frameloom/frameloom/Constraint", "<init>", "(Lcom/example/frameloom/frameloom/Constraint$Mode;I)V"⟩ : MethodName) (head1 (Jvm.Cond.code (⟨"com/example/frameloom/frameloom/Constraint", "<init>", "(Lcom/example/frameloom/frameloom/Constraint$Mode;I)V"⟩ : MethodName) prog_5_method_1_code 3 none :: ws) ({ frames := 2, cells := 2, slots := 20, locals := 24 } : Room)) (fun A_ U => A_ = #[(.ref a), (.ref md), (.int sz)] ∧ Z.Warmed39 U.vm ∧ U.heap = h0) (fun _ _ _ _ _ => True) (fun _ U o U' => ∃ v L, o = .returned v ∧ QCon Z a md sz h0 n0 v U'.heap L ∧ ReturnedEndW U o U' L ({ frames := 2, cells := 2, slots := 20, locals := 24 } : Room).cells ({ frames := 2, cells := 2, slots := 20, locals := 24 } : Room).slots) := by
  refine MetFree.of_bodySF (plainFor_of_name pn_4) hisR ?_
  intro p e s m args below meth c s₁ Bd hml0 hP hK
  obtain ⟨rfl, hZ, hh⟩ := hP
  have hx := Bd.exec
  have hby := Bd.bytes
  have hml : c.maxLocals = 3 := hml0
  have hown : s.vm.findClass "com/example/frameloom/frameloom/Constraint" = some m.cls := findClass_of_methodNamed Bd.named
  have hnm := (name_of_methodNamed Bd.named Bd.method).1
  have X0 : Stand p l e ({ frames := 2, cells := 2, slots := 20, locals := 24 } : Room) s m #[(.ref a), (.ref md), (.int sz)] below meth c s₁ [] 0 0 := Stand.of_body Bd
  have e0 : s₁.heap = h0 := by rw [← hh, Bd.state]; rfl
  have N0 := Fr.nil n0
  have k0 : ∀ t, Steps p.tables e below (s₁.setTop (mkF m 0 #[.val (.ref a), .val (.ref md), .val (.int sz)] [])) t → Steps p.tables e below (s₁.setTop (entryFrame m #[(.ref a), (.ref md), (.int sz)] 3)) t := fun t k => castTop (ef_Con m a md sz) k
  have k1 : ∀ t, Steps p.tables e below (s₁.setTop (mkF m 1 #[.val (.ref a), .val (.ref md), .val (.int sz)] [(.ref a)])) t → Steps p.tables e below (s₁.setTop (entryFrame m #[(.ref a), (.ref md), (.int sz)] 3)) t := by
    intro t k
    refine k0 _ ?_
    show Steps p.tables e below (s₁.setTop (mkF m 0 #[.val (.ref a), .val (.ref md), .val (.int sz)] [])) _
    refine XS.aloadN X0.here hx rfl (hb hby dp5_m1_0) rfl rfl ?_
    show Steps p.tables e below (s₁.setTop (mkF m 1 #[.val (.ref a), .val (.ref md), .val (.int sz)] [(.ref a)])) _
    exact k
  obtain ⟨_, _, ⟨T2, L2, ck2, nk2⟩, -, X2, ⟨Lc2, hQ2, l2, y2, z2⟩, st2⟩ := X0.specialBack hx (y := (⟨"java/lang/Record", "<init>", "()V"⟩ : MethodName)) rfl hown (mvT hZ (hw _ (List.mem_of_getElem? (i := 15) rfl))) (mvT hZ (hw _ (List.mem_of_getElem? (i := 16) rfl))) (mvT hZ (hw _ (List.mem_of_getElem? (i := 19) rfl))) (by decide) (backOf (W := 0) (rmRec l Z a0 hw [] a h0 n0 Z0) hZ (hw _ (List.mem_of_getElem? (i := 19) rfl)) (hw _ (List.mem_of_getElem? (i := 18) rfl)) (by decide) (by decide)) (g := (mkF m 1 #[.val (.ref a), .val (.ref md), .val (.int sz)] [(.ref a)])) rfl (by rw [hml]; rfl) (Steps.refl _) (a := a) (argsL := []) (rest := []) (lenOf pd_0 rfl) rfl (by show 2 * 0 + _ ≤ _; exact Nat.le_of_eq rfl) (hb hby dp5_m1_1) (fun _ _ => ⟨rfl, e0, (by decide : 0 + 0 ≤ _), (by decide : 0 + 0 ≤ _)⟩)
  dsimp only [Pt.U, Pt.locs, Pt.cells, Pt.slots] at X2 l2 y2 z2 st2 hQ2
  subst l2 y2 z2
  obtain ⟨rfl, N2q, e2⟩ := hQ2
  have N2 := Fr.app N0 N2q
  have k2 : ∀ t, Steps p.tables e below (T2.setTop (mkF m 4 #[.val (.ref a), .val (.ref md), .val (.int sz)] [])) t → Steps p.tables e below (s₁.setTop (entryFrame m #[(.ref a), (.ref md), (.int sz)] 3)) t := fun t k => k1 t (st2.trans k)
  have k3 : ∀ t, Steps p.tables e below (T2.setTop (mkF m 5 #[.val (.ref a), .val (.ref md), .val (.int sz)] [(.ref md)])) t → Steps p.tables e below (s₁.setTop (entryFrame m #[(.ref a), (.ref md), (.int sz)] 3)) t := by
    intro t k
    refine k2 _ ?_
    show Steps p.tables e below (T2.setTop (mkF m 4 #[.val (.ref a), .val (.ref md), .val (.int sz)] [])) _
    refine XS.aloadN X2.here hx rfl (hb hby dp5_m1_4) rfl rfl ?_
    show Steps p.tables e below (T2.setTop (mkF m 5 #[.val (.ref a), .val (.ref md), .val (.int sz)] [(.ref md)])) _
    exact k
  obtain ⟨a4_, T4, h4, ks4, X4, e4, E4, hS4, hk4, hZ, hown, st4⟩ := ldcS (s := s) (vm0 := s.vm) X2 hx hZ hown (hw _ (List.mem_of_getElem? (i := 23) rfl)) (fun d hd => hw d (own_strAt d hd)) e2 ((State.WarmedH.refl s).since 0) (Nat.zero_le _) (g := (mkF m 5 #[.val (.ref a), .val (.ref md), .val (.int sz)] [(.ref md)])) rfl (hb hby dp5_m1_5) (n := 16) (by decide +kernel) (by decide) (by decide) (by decide)
  have k4 : ∀ t, Steps p.tables e below (T4.setTop (mkF m 7 #[.val (.ref a), .val (.ref md), .val (.int sz)] [(.ref a4_), (.ref md)])) t → Steps p.tables e below (s₁.setTop (entryFrame m #[(.ref a), (.ref md), (.int sz)] 3)) t := fun t k => k3 t (st4 _ k)
  have Z5 : n0 ≤ h4.size := Nat.le_trans Z0 E4.1
  obtain ⟨_, _, ⟨T6, L6, ck6, nk6⟩, -, X6, ⟨Lc6, hQ6, l6, y6, z6⟩, st6⟩ := Jvm.LawKit.callS X4 hx (y := (⟨"java/util/Objects", "requireNonNull", "(Ljava/lang/Object;Ljava/lang/String;)Ljava/lang/Object;"⟩ : MethodName)) hown (mvT hZ (hw _ (List.mem_of_getElem? (i := 31) rfl))) (mvT hZ (hw _ (List.mem_of_getElem? (i := 32) rfl))) (mvT hZ (hw _ (List.mem_of_getElem? (i := 33) rfl))) (mvT hZ (hw _ (List.mem_of_getElem? (i := 34) rfl))) (by decide) (backOf (W := 0) (rmRnn l Z a0 hw [] md a4_ h4 n0 Z5) hZ (hw _ (List.mem_of_getElem? (i := 34) rfl)) (hw _ (List.mem_of_getElem? (i := 33) rfl)) (by decide) (by decide)) (g := (mkF m 7 #[.val (.ref a), .val (.ref md), .val (.int sz)] [(.ref a4_), (.ref md)])) rfl (by rw [hml]; rfl) (argsL := [(.ref md), (.ref a4_)]) (rest := []) (lenOf pd_1 rfl) rfl (by show 2 * 0 + _ ≤ _; exact Nat.le_of_eq rfl) (hb hby dp5_m1_7) (fun _ _ => ⟨rfl, e4, (by decide : 2 + 0 ≤ _), (by decide : 20 + 0 ≤ _)⟩)
  dsimp only [Pt.U, Pt.locs, Pt.cells, Pt.slots] at X6 l6 y6 z6 st6 hQ6
  subst l6 y6 z6
  obtain ⟨rfl, N6q, e6⟩ := hQ6
  have N6 := Fr.app N2 N6q
  have k6 : ∀ t, Steps p.tables e below (T6.setTop (mkF m 10 #[.val (.ref a), .val (.ref md), .val (.int sz)] [(.ref md)])) t → Steps p.tables e below (s₁.setTop (entryFrame m #[(.ref a), (.ref md), (.int sz)] 3)) t := fun t k => k4 t (st6 _ k)
  have k7 : ∀ t, Steps p.tables e below (T6.setTop (mkF m 37 #[.val (.ref a), .val (.ref md), .val (.int sz)] [(.ref md), (.ref a)])) t → Steps p.tables e below (s₁.setTop (entryFrame m #[(.ref a), (.ref md), (.int sz)] 3)) t := by
    intro t k
    refine k6 _ ?_
    show Steps p.tables e below (T6.setTop (mkF m 10 #[.val (.ref a), .val (.ref md), .val (.int sz)] [(.ref md)])) _
    refine XS.pop X6.here hx rfl (hb hby dp5_m1_10) rfl rfl ?_
    show Steps p.tables e below (T6.setTop (mkF m 11 #[.val (.ref a), .val (.ref md), .val (.int sz)] [])) _
    refine XS.iloadN X6.here hx rfl (hb hby dp5_m1_11) rfl ?_
    show Steps p.tables e below (T6.setTop (mkF m 12 #[.val (.ref a), .val (.ref md), .val (.int sz)] [(.int sz)])) _
    refine XS.ifNo X6.here hx rfl (hb hby dp5_m1_12) rfl ((if0 _ _).trans (flt hsz).1) ?_
    show Steps p.tables e below (T6.setTop (mkF m 15 #[.val (.ref a), .val (.ref md), .val (.int sz)] [])) _
    refine XS.iloadN X6.here hx rfl (hb hby dp5_m1_15) rfl ?_
    show Steps p.tables e below (T6.setTop (mkF m 16 #[.val (.ref a), .val (.ref md), .val (.int sz)] [(.int sz)])) _
    refine X6.ldcInt hx hown (mvT hZ (hw _ (List.mem_of_getElem? (i := 35) rfl))) (g := (mkF m 16 #[.val (.ref a), .val (.ref md), .val (.int sz)] [(.int sz)])) rfl (hb hby dp5_m1_16) _ ?_
    show Steps p.tables e below (T6.setTop (mkF m 18 #[.val (.ref a), .val (.ref md), .val (.int sz)] [(.int (1073741823 : Int32)), (.int sz)])) _
    refine XS.icmpYes X6.here hx rfl (pc0 := 18) (pc' := 35) rfl (hb hby dp5_m1_18) rfl (flt hmx).2.2.2 (by decide) (by decide) ?_
    show Steps p.tables e below (T6.setTop (mkF m 35 #[.val (.ref a), .val (.ref md), .val (.int sz)] [])) _
    refine XS.aloadN X6.here hx rfl (hb hby dp5_m1_35) rfl rfl ?_
    show Steps p.tables e below (T6.setTop (mkF m 36 #[.val (.ref a), .val (.ref md), .val (.int sz)] [(.ref a)])) _
    refine XS.aloadN X6.here hx rfl (hb hby dp5_m1_36) rfl rfl ?_
    show Steps p.tables e below (T6.setTop (mkF m 37 #[.val (.ref a), .val (.ref md), .val (.int sz)] [(.ref md), (.ref a)])) _
    exact k
  have f9 := (F1.ext E4)
  have f10 := (EE.ext E4)
  obtain ⟨T8, h8, X8, e8, W8, st8⟩ := putF X6 hx hZ hown (host := "") (Or.inl (hw _ (List.mem_of_getElem? (i := 36) rfl))) Via.refl e6 f9 f10 (Or.inr ⟨(hw _ (List.mem_of_getElem? (i := 37) rfl)), rfl, hnm⟩) (hw _ (List.mem_of_getElem? (i := 3) rfl)) (ty := (.object "com/example/frameloom/frameloom/Constraint$Mode")) (by decide) rfl rfl (g := (mkF m 37 #[.val (.ref a), .val (.ref md), .val (.int sz)] [(.ref md), (.ref a)])) rfl rfl (hb hby dp5_m1_37)
  have N8 := Fr.snoc X8 N6 ga
  have Fw8 := f9.same W8
  have k8 : ∀ t, Steps p.tables e below (T8.setTop (mkF m 40 #[.val (.ref a), .val (.ref md), .val (.int sz)] [])) t → Steps p.tables e below (s₁.setTop (entryFrame m #[(.ref a), (.ref md), (.int sz)] 3)) t := fun t k => k7 t (st8 _ k)
  have Z11 : n0 ≤ h8.size := Nat.le_trans Z5 (Keep.of_wr W8).1
  have zk11 : ks4 ≤ h8.size := Nat.le_trans hk4 (Keep.of_wr W8).1
  have k12 : ∀ t, Steps p.tables e below (T8.setTop (mkF m 42 #[.val (.ref a), .val (.ref md), .val (.int sz)] [(.int sz), (.ref a)])) t → Steps p.tables e below (s₁.setTop (entryFrame m #[(.ref a), (.ref md), (.int sz)] 3)) t := by
    intro t k
    refine k8 _ ?_
    show Steps p.tables e below (T8.setTop (mkF m 40 #[.val (.ref a), .val (.ref md), .val (.int sz)] [])) _
    refine XS.aloadN X8.here hx rfl (hb hby dp5_m1_40) rfl rfl ?_
    show Steps p.tables e below (T8.setTop (mkF m 41 #[.val (.ref a), .val (.ref md), .val (.int sz)] [(.ref a)])) _
    refine XS.iloadN X8.here hx rfl (hb hby dp5_m1_41) rfl ?_
    show Steps p.tables e below (T8.setTop (mkF m 42 #[.val (.ref a), .val (.ref md), .val (.int sz)] [(.int sz), (.ref a)])) _
    exact k
  have f14 := ((F2.ext E4).other W8 (Or.inr (slot_ne (Or.inr (hw _ (List.mem_of_getElem? (i := 39) rfl))) (Or.inr (hw _ (List.mem_of_getElem? (i := 37) rfl))) (by decide) (t := .int) (t' := (.object "com/example/frameloom/frameloom/Constraint$Mode")) (by decide) (by decide))))
  have f15 := (f10.wr W8)
  obtain ⟨T13, h13, X13, e13, W13, st13⟩ := putF X8 hx hZ hown (host := "") (Or.inl (hw _ (List.mem_of_getElem? (i := 38) rfl))) Via.refl e8 f14 f15 (Or.inr ⟨(hw _ (List.mem_of_getElem? (i := 39) rfl)), rfl, hnm⟩) (hw _ (List.mem_of_getElem? (i := 3) rfl)) (ty := .int) (by decide) rfl rfl (g := (mkF m 42 #[.val (.ref a), .val (.ref md), .val (.int sz)] [(.int sz), (.ref a)])) rfl rfl (hb hby dp5_m1_42)
  have N13 := Fr.snoc X13 N8 ga
  have Fw13 := f14.same W13
  have k13 : ∀ t, Steps p.tables e below (T13.setTop (mkF m 45 #[.val (.ref a), .val (.ref md), .val (.int sz)] [])) t → Steps p.tables e below (s₁.setTop (entryFrame m #[(.ref a), (.ref md), (.int sz)] 3)) t := fun t k => k12 t (st13 _ k)
  have Z16 : n0 ≤ h13.size := Nat.le_trans Z11 (Keep.of_wr W13).1
  have zk16 : ks4 ≤ h13.size := Nat.le_trans zk11 (Keep.of_wr W13).1
  have kp17 : Keep h0 h13 [a] := ((((Keep.refl h0 [a]).ext E4).wr W8 (Or.inl (List.mem_of_getElem? (i := 0) rfl))).wr W13 (Or.inl (List.mem_of_getElem? (i := 0) rfl)))
  have f18 := (Fw8.other W13 (Or.inr (slot_ne (Or.inr (hw _ (List.mem_of_getElem? (i := 37) rfl))) (Or.inr (hw _ (List.mem_of_getElem? (i := 39) rfl))) (by decide) (t := (.object "com/example/frameloom/frameloom/Constraint$Mode")) (t' := .int) (by decide) (by decide))))
  obtain ⟨fs, hr, hrun, hended, hWe⟩ := Stand.leaveW (s := s) (vm₁ := T4.vm) X13 (n := ks4) hS4 (by rw [e13]; exact zk16) (v := none) (fun h => rfl)
  refine ⟨_, _, k13 _ ?_, hrun, hended, _, _, rfl, ?_, hWe.1, hWe.2.1, hWe.2.2.1, hWe.2.2.2.mono (Nat.le_of_ble_eq_true rfl) (Nat.le_of_ble_eq_true rfl)⟩
  · exact X13.returnOut hx Bd.returns (hb hby dp5_m1_45) hr
  · show QCon Z a md sz h0 n0 _ T13.heap _
    rw [e13]
    exact ⟨rfl, N13, kp17, f18, Fw13⟩
theorem ef_EqN (m : MethodId) (x0 : Addr) : entryFrame m #[(.ref x0), .null] 3 = mkF m 0 #[.val (.ref x0), .val .null, .unset] [] := by first | (simp [entryFrame, mkF, argsToLocals, Value.category]; done) | rfl
def QEqN (Z : State) (a : Addr) (h0 : Heap) (n0 : Nat) (v : Option Value) (h : Heap) (L : List Loc) : Prop := v = some (.int 0) ∧ Fr n0 L ∧ h = h0
set_option maxRecDepth 65536 in
set_option maxHeartbeats 40000000 in
theorem rmEqN (l : Launch) (Z : State) (a0 : Array Value) (hw : ∀ d ∈ tables_1, d.before a0 Z = true) (ws : List Jvm.Cond) (a : Addr) (h0 : Heap) (n0 : Nat) (Z0 : n0 ≤ h0.size)  :
    MetFree l (⟨"com/example/frameloom/frameloom/Constraint", "equals", "(Ljava/lang/Object;)Z"⟩ : MethodName) (head1 (Jvm.Cond.code (⟨"com/example/frameloom/frameloom/Constraint", "equals", "(Ljava/lang/Object;)Z"⟩ : MethodName) prog_5_method_2_code 3 (some .boolean) :: ws) ({ frames := 0, cells := 0, slots := 0, locals := 0 } : Room)) (fun A_ U => A_ = #[(.ref a), .null] ∧ Z.Warmed39 U.vm ∧ U.heap = h0) (fun _ _ _ _ _ => True) (fun _ U o U' => ∃ v L, o = .returned v ∧ QEqN Z a h0 n0 v U'.heap L ∧ FrameEnd U o U' L ({ frames := 0, cells := 0, slots := 0, locals := 0 } : Room).cells ({ frames := 0, cells := 0, slots := 0, locals := 0 } : Room).slots) := by
  refine MetFree.of_bodySF (plainFor_of_name pn_4) hisR ?_
  intro p e s m args below meth c s₁ Bd hml0 hP hK
  obtain ⟨rfl, hZ, hh⟩ := hP
  have hx := Bd.exec
  have hby := Bd.bytes
  have hml : c.maxLocals = 3 := hml0
  have hown : s.vm.findClass "com/example/frameloom/frameloom/Constraint" = some m.cls := findClass_of_methodNamed Bd.named
  have hnm := (name_of_methodNamed Bd.named Bd.method).1
  have X0 : Stand p l e ({ frames := 0, cells := 0, slots := 0, locals := 0 } : Room) s m #[(.ref a), .null] below meth c s₁ [] 0 0 := Stand.of_body Bd
  have e0 : s₁.heap = h0 := by rw [← hh, Bd.state]; rfl
  have N0 := Fr.nil n0
  have k0 : ∀ t, Steps p.tables e below (s₁.setTop (mkF m 0 #[.val (.ref a), .val .null, .unset] [])) t → Steps p.tables e below (s₁.setTop (entryFrame m #[(.ref a), .null] 3)) t := fun t k => castTop (ef_EqN m a) k
  have k1 : ∀ t, Steps p.tables e below (s₁.setTop (mkF m 39 #[.val (.ref a), .val .null, .unset] [(.int (0 : Int32))])) t → Steps p.tables e below (s₁.setTop (entryFrame m #[(.ref a), .null] 3)) t := by
    intro t k
    refine k0 _ ?_
    show Steps p.tables e below (s₁.setTop (mkF m 0 #[.val (.ref a), .val .null, .unset] [])) _
    refine XS.aloadN X0.here hx rfl (hb hby dp5_m2_0) rfl rfl ?_
    show Steps p.tables e below (s₁.setTop (mkF m 1 #[.val (.ref a), .val .null, .unset] [.null])) _
    refine X0.instanceofNull hx (g := (mkF m 1 #[.val (.ref a), .val .null, .unset] [.null])) rfl rfl (hb hby dp5_m2_1) _ ?_
    show Steps p.tables e below (s₁.setTop (mkF m 4 #[.val (.ref a), .val .null, .unset] [(.int (0 : Int32))])) _
    refine XS.ifYes X0.here hx rfl (pc0 := 4) (pc' := 38) rfl (hb hby dp5_m2_4) rfl ((if0 _ _).trans (teq (rfl : (0 : Int32) = 0)).1) (by decide) (by decide) ?_
    show Steps p.tables e below (s₁.setTop (mkF m 38 #[.val (.ref a), .val .null, .unset] [])) _
    refine XS.iconst X0.here hx rfl (hb hby dp5_m2_38) ?_
    show Steps p.tables e below (s₁.setTop (mkF m 39 #[.val (.ref a), .val .null, .unset] [(.int (0 : Int32))])) _
    exact k
  obtain ⟨fs, hr, hrun, hended, hW, hsame⟩ := X0.leave (v := some (.int (0 : Int32))) (fun h => by rw [Bd.returns] at h; cases h)
  refine ⟨_, _, k1 _ ?_, hrun, hended, _, _, rfl, ?_, ⟨_, rfl⟩, hW, hsame.mono (Nat.le_of_ble_eq_true rfl) (Nat.le_of_ble_eq_true rfl)⟩
  · exact retN X0 hx (t := .boolean) Bd.returns (by simp) (hb hby dp5_m2_39) hr
  · show QEqN Z a h0 n0 _ s₁.heap _
    rw [e0]
    exact ⟨rfl, N0, rfl⟩
theorem ef_EqI (m : MethodId) (x0 : Addr) (x1 : Addr) : entryFrame m #[(.ref x0), (.ref x1)] 3 = mkF m 0 #[.val (.ref x0), .val (.ref x1), .unset] [] := by first | (simp [entryFrame, mkF, argsToLocals, Value.category]; done) | rfl
def QEqI (Z : State) (a : Addr) (b : Addr) (h0 : Heap) (n0 : Nat) (v : Option Value) (h : Heap) (L : List Loc) : Prop := v = some (.int 0) ∧ Fr n0 L ∧ h = h0
set_option maxRecDepth 65536 in
set_option maxHeartbeats 40000000 in
theorem rmEqI (l : Launch) (Z : State) (a0 : Array Value) (hw : ∀ d ∈ tables_1, d.before a0 Z = true) (ws : List Jvm.Cond) (a : Addr) (b : Addr) (h0 : Heap) (n0 : Nat) (Z0 : n0 ≤ h0.size) (EI : Exa Z h0 b "java/lang/Integer") (NI : ∃ c t, Z.vm.findClass "java/lang/Integer" = some c ∧ Z.vm.findClass "com/example/frameloom/frameloom/Constraint" = some t ∧ Z.vm.assignable c t = false) :
    MetFree l (⟨"com/example/frameloom/frameloom/Constraint", "equals", "(Ljava/lang/Object;)Z"⟩ : MethodName) (head1 (Jvm.Cond.code (⟨"com/example/frameloom/frameloom/Constraint", "equals", "(Ljava/lang/Object;)Z"⟩ : MethodName) prog_5_method_2_code 3 (some .boolean) :: ws) ({ frames := 0, cells := 0, slots := 0, locals := 0 } : Room)) (fun A_ U => A_ = #[(.ref a), (.ref b)] ∧ Z.Warmed39 U.vm ∧ U.heap = h0) (fun _ _ _ _ _ => True) (fun _ U o U' => ∃ v L, o = .returned v ∧ QEqI Z a b h0 n0 v U'.heap L ∧ FrameEnd U o U' L ({ frames := 0, cells := 0, slots := 0, locals := 0 } : Room).cells ({ frames := 0, cells := 0, slots := 0, locals := 0 } : Room).slots) := by
  refine MetFree.of_bodySF (plainFor_of_name pn_4) hisR ?_
  intro p e s m args below meth c s₁ Bd hml0 hP hK
  obtain ⟨rfl, hZ, hh⟩ := hP
  have hx := Bd.exec
  have hby := Bd.bytes
  have hml : c.maxLocals = 3 := hml0
  have hown : s.vm.findClass "com/example/frameloom/frameloom/Constraint" = some m.cls := findClass_of_methodNamed Bd.named
  have hnm := (name_of_methodNamed Bd.named Bd.method).1
  have X0 : Stand p l e ({ frames := 0, cells := 0, slots := 0, locals := 0 } : Room) s m #[(.ref a), (.ref b)] below meth c s₁ [] 0 0 := Stand.of_body Bd
  have e0 : s₁.heap = h0 := by rw [← hh, Bd.state]; rfl
  have N0 := Fr.nil n0
  have k0 : ∀ t, Steps p.tables e below (s₁.setTop (mkF m 0 #[.val (.ref a), .val (.ref b), .unset] [])) t → Steps p.tables e below (s₁.setTop (entryFrame m #[(.ref a), (.ref b)] 3)) t := fun t k => castTop (ef_EqI m a b) k
  have k1 : ∀ t, Steps p.tables e below (s₁.setTop (mkF m 1 #[.val (.ref a), .val (.ref b), .unset] [(.ref b)])) t → Steps p.tables e below (s₁.setTop (entryFrame m #[(.ref a), (.ref b)] 3)) t := by
    intro t k
    refine k0 _ ?_
    show Steps p.tables e below (s₁.setTop (mkF m 0 #[.val (.ref a), .val (.ref b), .unset] [])) _
    refine XS.aloadN X0.here hx rfl (hb hby dp5_m2_0) rfl rfl ?_
    show Steps p.tables e below (s₁.setTop (mkF m 1 #[.val (.ref a), .val (.ref b), .unset] [(.ref b)])) _
    exact k
  obtain ⟨T2, X2, e2, st2⟩ := instNo X0 hx hZ hown (hw _ (List.mem_of_getElem? (i := 47) rfl)) e0 EI NI (g := (mkF m 1 #[.val (.ref a), .val (.ref b), .unset] [(.ref b)])) rfl rfl (hb hby dp5_m2_1)
  have k2 : ∀ t, Steps p.tables e below (T2.setTop (mkF m 4 #[.val (.ref a), .val (.ref b), .unset] [(.int (0 : Int32))])) t → Steps p.tables e below (s₁.setTop (entryFrame m #[(.ref a), (.ref b)] 3)) t := fun t k => k1 t (st2 _ k)
  have k3 : ∀ t, Steps p.tables e below (T2.setTop (mkF m 39 #[.val (.ref a), .val (.ref b), .unset] [(.int (0 : Int32))])) t → Steps p.tables e below (s₁.setTop (entryFrame m #[(.ref a), (.ref b)] 3)) t := by
    intro t k
    refine k2 _ ?_
    show Steps p.tables e below (T2.setTop (mkF m 4 #[.val (.ref a), .val (.ref b), .unset] [(.int (0 : Int32))])) _
    refine XS.ifYes X2.here hx rfl (pc0 := 4) (pc' := 38) rfl (hb hby dp5_m2_4) rfl ((if0 _ _).trans (teq (rfl : (0 : Int32) = 0)).1) (by decide) (by decide) ?_
    show Steps p.tables e below (T2.setTop (mkF m 38 #[.val (.ref a), .val (.ref b), .unset] [])) _
    refine XS.iconst X2.here hx rfl (hb hby dp5_m2_38) ?_
    show Steps p.tables e below (T2.setTop (mkF m 39 #[.val (.ref a), .val (.ref b), .unset] [(.int (0 : Int32))])) _
    exact k
  obtain ⟨fs, hr, hrun, hended, hW, hsame⟩ := X2.leave (v := some (.int (0 : Int32))) (fun h => by rw [Bd.returns] at h; cases h)
  refine ⟨_, _, k3 _ ?_, hrun, hended, _, _, rfl, ?_, ⟨_, rfl⟩, hW, hsame.mono (Nat.le_of_ble_eq_true rfl) (Nat.le_of_ble_eq_true rfl)⟩
  · exact retN X2 hx (t := .boolean) Bd.returns (by simp) (hb hby dp5_m2_39) hr
  · show QEqI Z a b h0 n0 _ T2.heap _
    rw [e2]
    exact ⟨rfl, N0, rfl⟩
theorem ef_EqC (m : MethodId) (x0 : Addr) (x1 : Addr) : entryFrame m #[(.ref x0), (.ref x1)] 3 = mkF m 0 #[.val (.ref x0), .val (.ref x1), .unset] [] := by first | (simp [entryFrame, mkF, argsToLocals, Value.category]; done) | rfl
def QEqC (Z : State) (a : Addr) (b : Addr) (m1 : Addr) (m2 : Addr) (s1 : Int32) (s2 : Int32) (h0 : Heap) (n0 : Nat) (v : Option Value) (h : Heap) (L : List Loc) : Prop := v = some (.int (own_eq m1 m2 s1 s2)) ∧ Fr n0 L ∧ h = h0
set_option maxRecDepth 65536 in
set_option maxHeartbeats 40000000 in
theorem rmEqC (l : Launch) (Z : State) (a0 : Array Value) (hw : ∀ d ∈ tables_1, d.before a0 Z = true) (ws : List Jvm.Cond) (a : Addr) (b : Addr) (m1 : Addr) (m2 : Addr) (s1 : Int32) (s2 : Int32) (h0 : Heap) (n0 : Nat) (Z0 : n0 ≤ h0.size) (Ea : Exa Z h0 a "com/example/frameloom/frameloom/Constraint") (Eb : Exa Z h0 b "com/example/frameloom/frameloom/Constraint") (A1 : Fld Z h0 a "com/example/frameloom/frameloom/Constraint" "mode" "Lcom/example/frameloom/frameloom/Constraint$Mode;" (.ref m1)) (A2 : Fld Z h0 a "com/example/frameloom/frameloom/Constraint" "size" "I" (.int s1)) (B1 : Fld Z h0 b "com/example/frameloom/frameloom/Constraint" "mode" "Lcom/example/frameloom/frameloom/Constraint$Mode;" (.ref m2)) (B2 : Fld Z h0 b "com/example/frameloom/frameloom/Constraint" "size" "I" (.int s2)) :
    MetFree l (⟨"com/example/frameloom/frameloom/Constraint", "equals", "(Ljava/lang/Object;)Z"⟩ : MethodName) (head1 (Jvm.Cond.code (⟨"com/example/frameloom/frameloom/Constraint", "equals", "(Ljava/lang/Object;)Z"⟩ : MethodName) prog_5_method_2_code 3 (some .boolean) :: ws) ({ frames := 0, cells := 0, slots := 0, locals := 0 } : Room)) (fun A_ U => A_ = #[(.ref a), (.ref b)] ∧ Z.Warmed39 U.vm ∧ U.heap = h0) (fun _ _ _ _ _ => True) (fun _ U o U' => ∃ v L, o = .returned v ∧ QEqC Z a b m1 m2 s1 s2 h0 n0 v U'.heap L ∧ FrameEnd U o U' L ({ frames := 0, cells := 0, slots := 0, locals := 0 } : Room).cells ({ frames := 0, cells := 0, slots := 0, locals := 0 } : Room).slots) := by
  refine MetFree.of_bodySF (plainFor_of_name pn_4) hisR ?_
  intro p e s m args below meth c s₁ Bd hml0 hP hK
  obtain ⟨rfl, hZ, hh⟩ := hP
  have hx := Bd.exec
  have hby := Bd.bytes
  have hml : c.maxLocals = 3 := hml0
  have hown : s.vm.findClass "com/example/frameloom/frameloom/Constraint" = some m.cls := findClass_of_methodNamed Bd.named
  have hnm := (name_of_methodNamed Bd.named Bd.method).1
  have X0 : Stand p l e ({ frames := 0, cells := 0, slots := 0, locals := 0 } : Room) s m #[(.ref a), (.ref b)] below meth c s₁ [] 0 0 := Stand.of_body Bd
  have e0 : s₁.heap = h0 := by rw [← hh, Bd.state]; rfl
  have N0 := Fr.nil n0
  have k0 : ∀ t, Steps p.tables e below (s₁.setTop (mkF m 0 #[.val (.ref a), .val (.ref b), .unset] [])) t → Steps p.tables e below (s₁.setTop (entryFrame m #[(.ref a), (.ref b)] 3)) t := fun t k => castTop (ef_EqC m a b) k
  have k1 : ∀ t, Steps p.tables e below (s₁.setTop (mkF m 1 #[.val (.ref a), .val (.ref b), .unset] [(.ref b)])) t → Steps p.tables e below (s₁.setTop (entryFrame m #[(.ref a), (.ref b)] 3)) t := by
    intro t k
    refine k0 _ ?_
    show Steps p.tables e below (s₁.setTop (mkF m 0 #[.val (.ref a), .val (.ref b), .unset] [])) _
    refine XS.aloadN X0.here hx rfl (hb hby dp5_m2_0) rfl rfl ?_
    show Steps p.tables e below (s₁.setTop (mkF m 1 #[.val (.ref a), .val (.ref b), .unset] [(.ref b)])) _
    exact k
  obtain ⟨T2, X2, e2, st2⟩ := instY X0 hx hZ hown (hw _ (List.mem_of_getElem? (i := 47) rfl)) e0 (Ins.self Eb) (g := (mkF m 1 #[.val (.ref a), .val (.ref b), .unset] [(.ref b)])) rfl rfl (hb hby dp5_m2_1)
  have k2 : ∀ t, Steps p.tables e below (T2.setTop (mkF m 4 #[.val (.ref a), .val (.ref b), .unset] [(.int (1 : Int32))])) t → Steps p.tables e below (s₁.setTop (entryFrame m #[(.ref a), (.ref b)] 3)) t := fun t k => k1 t (st2 _ k)
  have k3 : ∀ t, Steps p.tables e below (T2.setTop (mkF m 8 #[.val (.ref a), .val (.ref b), .unset] [(.ref b)])) t → Steps p.tables e below (s₁.setTop (entryFrame m #[(.ref a), (.ref b)] 3)) t := by
    intro t k
    refine k2 _ ?_
    show Steps p.tables e below (T2.setTop (mkF m 4 #[.val (.ref a), .val (.ref b), .unset] [(.int (1 : Int32))])) _
    refine XS.ifNo X2.here hx rfl (hb hby dp5_m2_4) rfl ((if0 _ _).trans (feq (by decide)).1) ?_
    show Steps p.tables e below (T2.setTop (mkF m 7 #[.val (.ref a), .val (.ref b), .unset] [])) _
    refine XS.aloadN X2.here hx rfl (hb hby dp5_m2_7) rfl rfl ?_
    show Steps p.tables e below (T2.setTop (mkF m 8 #[.val (.ref a), .val (.ref b), .unset] [(.ref b)])) _
    exact k
  obtain ⟨T4, X4, e4, st4⟩ := castY X2 hx hZ hown (hw _ (List.mem_of_getElem? (i := 47) rfl)) e2 (Ins.self Eb) (g := (mkF m 8 #[.val (.ref a), .val (.ref b), .unset] [(.ref b)])) rfl rfl (hb hby dp5_m2_8)
  have k4 : ∀ t, Steps p.tables e below (T4.setTop (mkF m 11 #[.val (.ref a), .val (.ref b), .unset] [(.ref b)])) t → Steps p.tables e below (s₁.setTop (entryFrame m #[(.ref a), (.ref b)] 3)) t := fun t k => k3 t (st4 _ k)
  have k5 : ∀ t, Steps p.tables e below (T4.setTop (mkF m 13 #[.val (.ref a), .val (.ref b), .val (.ref b)] [(.ref a)])) t → Steps p.tables e below (s₁.setTop (entryFrame m #[(.ref a), (.ref b)] 3)) t := by
    intro t k
    refine k4 _ ?_
    show Steps p.tables e below (T4.setTop (mkF m 11 #[.val (.ref a), .val (.ref b), .unset] [(.ref b)])) _
    refine XS.astoreN X4.here hx rfl (hb hby dp5_m2_11) rfl rfl (l' := #[.val (.ref a), .val (.ref b), .val (.ref b)]) rfl ?_
    show Steps p.tables e below (T4.setTop (mkF m 12 #[.val (.ref a), .val (.ref b), .val (.ref b)] [])) _
    refine XS.aloadN X4.here hx rfl (hb hby dp5_m2_12) rfl rfl ?_
    show Steps p.tables e below (T4.setTop (mkF m 13 #[.val (.ref a), .val (.ref b), .val (.ref b)] [(.ref a)])) _
    exact k
  obtain ⟨T6, X6, e6, st6⟩ := getF X4 hx hZ hown (host := "") (Or.inl (hw _ (List.mem_of_getElem? (i := 36) rfl))) Via.refl e4 A1 (g := (mkF m 13 #[.val (.ref a), .val (.ref b), .val (.ref b)] [(.ref a)])) rfl rfl (hb hby dp5_m2_13)
  have k6 : ∀ t, Steps p.tables e below (T6.setTop (mkF m 16 #[.val (.ref a), .val (.ref b), .val (.ref b)] [(.ref m1)])) t → Steps p.tables e below (s₁.setTop (entryFrame m #[(.ref a), (.ref b)] 3)) t := fun t k => k5 t (st6 _ k)
  have k7 : ∀ t, Steps p.tables e below (T6.setTop (mkF m 17 #[.val (.ref a), .val (.ref b), .val (.ref b)] [(.ref b), (.ref m1)])) t → Steps p.tables e below (s₁.setTop (entryFrame m #[(.ref a), (.ref b)] 3)) t := by
    intro t k
    refine k6 _ ?_
    show Steps p.tables e below (T6.setTop (mkF m 16 #[.val (.ref a), .val (.ref b), .val (.ref b)] [(.ref m1)])) _
    refine XS.aloadN X6.here hx rfl (hb hby dp5_m2_16) rfl rfl ?_
    show Steps p.tables e below (T6.setTop (mkF m 17 #[.val (.ref a), .val (.ref b), .val (.ref b)] [(.ref b), (.ref m1)])) _
    exact k
  obtain ⟨T8, X8, e8, st8⟩ := getF X6 hx hZ hown (host := "") (Or.inl (hw _ (List.mem_of_getElem? (i := 36) rfl))) Via.refl e6 B1 (g := (mkF m 17 #[.val (.ref a), .val (.ref b), .val (.ref b)] [(.ref b), (.ref m1)])) rfl rfl (hb hby dp5_m2_17)
  have k8 : ∀ t, Steps p.tables e below (T8.setTop (mkF m 20 #[.val (.ref a), .val (.ref b), .val (.ref b)] [(.ref m2), (.ref m1)])) t → Steps p.tables e below (s₁.setTop (entryFrame m #[(.ref a), (.ref b)] 3)) t := fun t k => k7 t (st8 _ k)
  by_cases hm : m1 = m2
  · have k9 : ∀ t, Steps p.tables e below (T8.setTop (mkF m 24 #[.val (.ref a), .val (.ref b), .val (.ref b)] [(.ref a)])) t → Steps p.tables e below (s₁.setTop (entryFrame m #[(.ref a), (.ref b)] 3)) t := by
      intro t k
      refine k8 _ ?_
      show Steps p.tables e below (T8.setTop (mkF m 20 #[.val (.ref a), .val (.ref b), .val (.ref b)] [(.ref m2), (.ref m1)])) _
      refine Jvm.RoadKit.acmp (g := (mkF m 20 #[.val (.ref a), .val (.ref b), .val (.ref b)] [(.ref m2), (.ref m1)])) X8 hx rfl rfl rfl (pc0 := 20) (pc' := 23) (same := true) rfl (hb hby dp5_m2_20) rfl (decide_eq_true (congrArg Value.ref hm)) (by decide) (by decide) ?_
      show Steps p.tables e below (T8.setTop (mkF m 23 #[.val (.ref a), .val (.ref b), .val (.ref b)] [])) _
      refine XS.aloadN X8.here hx rfl (hb hby dp5_m2_23) rfl rfl ?_
      show Steps p.tables e below (T8.setTop (mkF m 24 #[.val (.ref a), .val (.ref b), .val (.ref b)] [(.ref a)])) _
      exact k
    obtain ⟨T10, X10, e10, st10⟩ := getF X8 hx hZ hown (host := "") (Or.inl (hw _ (List.mem_of_getElem? (i := 38) rfl))) Via.refl e8 A2 (g := (mkF m 24 #[.val (.ref a), .val (.ref b), .val (.ref b)] [(.ref a)])) rfl rfl (hb hby dp5_m2_24)
    have k10 : ∀ t, Steps p.tables e below (T10.setTop (mkF m 27 #[.val (.ref a), .val (.ref b), .val (.ref b)] [(.int s1)])) t → Steps p.tables e below (s₁.setTop (entryFrame m #[(.ref a), (.ref b)] 3)) t := fun t k => k9 t (st10 _ k)
    have k11 : ∀ t, Steps p.tables e below (T10.setTop (mkF m 28 #[.val (.ref a), .val (.ref b), .val (.ref b)] [(.ref b), (.int s1)])) t → Steps p.tables e below (s₁.setTop (entryFrame m #[(.ref a), (.ref b)] 3)) t := by
      intro t k
      refine k10 _ ?_
      show Steps p.tables e below (T10.setTop (mkF m 27 #[.val (.ref a), .val (.ref b), .val (.ref b)] [(.int s1)])) _
      refine XS.aloadN X10.here hx rfl (hb hby dp5_m2_27) rfl rfl ?_
      show Steps p.tables e below (T10.setTop (mkF m 28 #[.val (.ref a), .val (.ref b), .val (.ref b)] [(.ref b), (.int s1)])) _
      exact k
    obtain ⟨T12, X12, e12, st12⟩ := getF X10 hx hZ hown (host := "") (Or.inl (hw _ (List.mem_of_getElem? (i := 38) rfl))) Via.refl e10 B2 (g := (mkF m 28 #[.val (.ref a), .val (.ref b), .val (.ref b)] [(.ref b), (.int s1)])) rfl rfl (hb hby dp5_m2_28)
    have k12 : ∀ t, Steps p.tables e below (T12.setTop (mkF m 31 #[.val (.ref a), .val (.ref b), .val (.ref b)] [(.int s2), (.int s1)])) t → Steps p.tables e below (s₁.setTop (entryFrame m #[(.ref a), (.ref b)] 3)) t := fun t k => k11 t (st12 _ k)
    by_cases hs : s1 = s2
    · have k13 : ∀ t, Steps p.tables e below (T12.setTop (mkF m 39 #[.val (.ref a), .val (.ref b), .val (.ref b)] [(.int (1 : Int32))])) t → Steps p.tables e below (s₁.setTop (entryFrame m #[(.ref a), (.ref b)] 3)) t := by
        intro t k
        refine k12 _ ?_
        show Steps p.tables e below (T12.setTop (mkF m 31 #[.val (.ref a), .val (.ref b), .val (.ref b)] [(.int s2), (.int s1)])) _
        refine XS.icmpNo X12.here hx rfl (hb hby dp5_m2_31) rfl (teq hs).2 ?_
        show Steps p.tables e below (T12.setTop (mkF m 34 #[.val (.ref a), .val (.ref b), .val (.ref b)] [])) _
        refine XS.iconst X12.here hx rfl (hb hby dp5_m2_34) ?_
        show Steps p.tables e below (T12.setTop (mkF m 35 #[.val (.ref a), .val (.ref b), .val (.ref b)] [(.int (1 : Int32))])) _
        refine XS.goto X12.here hx rfl (pc0 := 35) (pc' := 39) rfl (hb hby dp5_m2_35) (by decide) (by decide) ?_
        show Steps p.tables e below (T12.setTop (mkF m 39 #[.val (.ref a), .val (.ref b), .val (.ref b)] [(.int (1 : Int32))])) _
        exact k
      obtain ⟨fs, hr, hrun, hended, hW, hsame⟩ := X12.leave (v := some (.int (1 : Int32))) (fun h => by rw [Bd.returns] at h; cases h)
      refine ⟨_, _, k13 _ ?_, hrun, hended, _, _, rfl, ?_, ⟨_, rfl⟩, hW, hsame.mono (Nat.le_of_ble_eq_true rfl) (Nat.le_of_ble_eq_true rfl)⟩
      · exact retN X12 hx (t := .boolean) Bd.returns (by simp) (hb hby dp5_m2_39) hr
      · show QEqC Z a b m1 m2 s1 s2 h0 n0 _ T12.heap _
        rw [e12]
        exact ⟨by simp [own_eq, hm, hs], N0, rfl⟩
    · have k14 : ∀ t, Steps p.tables e below (T12.setTop (mkF m 39 #[.val (.ref a), .val (.ref b), .val (.ref b)] [(.int (0 : Int32))])) t → Steps p.tables e below (s₁.setTop (entryFrame m #[(.ref a), (.ref b)] 3)) t := by
        intro t k
        refine k12 _ ?_
        show Steps p.tables e below (T12.setTop (mkF m 31 #[.val (.ref a), .val (.ref b), .val (.ref b)] [(.int s2), (.int s1)])) _
        refine XS.icmpYes X12.here hx rfl (pc0 := 31) (pc' := 38) rfl (hb hby dp5_m2_31) rfl (feq hs).2 (by decide) (by decide) ?_
        show Steps p.tables e below (T12.setTop (mkF m 38 #[.val (.ref a), .val (.ref b), .val (.ref b)] [])) _
        refine XS.iconst X12.here hx rfl (hb hby dp5_m2_38) ?_
        show Steps p.tables e below (T12.setTop (mkF m 39 #[.val (.ref a), .val (.ref b), .val (.ref b)] [(.int (0 : Int32))])) _
        exact k
      obtain ⟨fs, hr, hrun, hended, hW, hsame⟩ := X12.leave (v := some (.int (0 : Int32))) (fun h => by rw [Bd.returns] at h; cases h)
      refine ⟨_, _, k14 _ ?_, hrun, hended, _, _, rfl, ?_, ⟨_, rfl⟩, hW, hsame.mono (Nat.le_of_ble_eq_true rfl) (Nat.le_of_ble_eq_true rfl)⟩
      · exact retN X12 hx (t := .boolean) Bd.returns (by simp) (hb hby dp5_m2_39) hr
      · show QEqC Z a b m1 m2 s1 s2 h0 n0 _ T12.heap _
        rw [e12]
        exact ⟨by simp [own_eq, hm, hs], N0, rfl⟩
  · have k15 : ∀ t, Steps p.tables e below (T8.setTop (mkF m 39 #[.val (.ref a), .val (.ref b), .val (.ref b)] [(.int (0 : Int32))])) t → Steps p.tables e below (s₁.setTop (entryFrame m #[(.ref a), (.ref b)] 3)) t := by
      intro t k
      refine k8 _ ?_
      show Steps p.tables e below (T8.setTop (mkF m 20 #[.val (.ref a), .val (.ref b), .val (.ref b)] [(.ref m2), (.ref m1)])) _
      refine Jvm.RoadKit.acmp (g := (mkF m 20 #[.val (.ref a), .val (.ref b), .val (.ref b)] [(.ref m2), (.ref m1)])) X8 hx rfl rfl rfl (pc0 := 20) (pc' := 38) (same := false) rfl (hb hby dp5_m2_20) rfl (decide_eq_false fun q => hm (Value.ref.inj q)) (by decide) (by decide) ?_
      show Steps p.tables e below (T8.setTop (mkF m 38 #[.val (.ref a), .val (.ref b), .val (.ref b)] [])) _
      refine XS.iconst X8.here hx rfl (hb hby dp5_m2_38) ?_
      show Steps p.tables e below (T8.setTop (mkF m 39 #[.val (.ref a), .val (.ref b), .val (.ref b)] [(.int (0 : Int32))])) _
      exact k
    obtain ⟨fs, hr, hrun, hended, hW, hsame⟩ := X8.leave (v := some (.int (0 : Int32))) (fun h => by rw [Bd.returns] at h; cases h)
    refine ⟨_, _, k15 _ ?_, hrun, hended, _, _, rfl, ?_, ⟨_, rfl⟩, hW, hsame.mono (Nat.le_of_ble_eq_true rfl) (Nat.le_of_ble_eq_true rfl)⟩
    · exact retN X8 hx (t := .boolean) Bd.returns (by simp) (hb hby dp5_m2_39) hr
    · show QEqC Z a b m1 m2 s1 s2 h0 n0 _ T8.heap _
      rw [e8]
      exact ⟨by simp [own_eq, hm], N0, rfl⟩
theorem ef_Int (m : MethodId) (x0 : Addr) (x1 : Int32) : entryFrame m #[(.ref x0), (.int x1)] 2 = mkF m 0 #[.val (.ref x0), .val (.int x1)] [] := by first | (simp [entryFrame, mkF, argsToLocals, Value.category]; done) | rfl
def QInt (Z : State) (a : Addr) (u1 : Int32) (h0 : Heap) (n0 : Nat) (v : Option Value) (h : Heap) (L : List Loc) : Prop := v = none ∧ Fr n0 L ∧ Keep h0 h [a]
set_option maxRecDepth 65536 in
set_option maxHeartbeats 40000000 in
theorem rmInt (l : Launch) (Z : State) (a0 : Array Value) (hw : ∀ d ∈ tables_1, d.before a0 Z = true) (ws : List Jvm.Cond) (a : Addr) (u1 : Int32) (h0 : Heap) (n0 : Nat) (Z0 : n0 ≤ h0.size) (EE : Exa Z h0 a "java/lang/Integer") (ga : n0 ≤ a) (F1 : Fld Z h0 a "java/lang/Integer" "value" "I" (.int (0 : Int32))) :
    MetFree l (⟨"java/lang/Integer", "<init>", "(I)V"⟩ : MethodName) (head1 (Jvm.Cond.code (⟨"java/lang/Integer", "<init>", "(I)V"⟩ : MethodName) jdk_33_method_23_code 2 none :: ws) ({ frames := 2, cells := 0, slots := 0, locals := 24 } : Room)) (fun A_ U => A_ = #[(.ref a), (.int u1)] ∧ Z.Warmed39 U.vm ∧ U.heap = h0) (fun _ _ _ _ _ => True) (fun _ U o U' => ∃ v L, o = .returned v ∧ QInt Z a u1 h0 n0 v U'.heap L ∧ FrameEnd U o U' L ({ frames := 2, cells := 0, slots := 0, locals := 24 } : Room).cells ({ frames := 2, cells := 0, slots := 0, locals := 24 } : Room).slots) := by
  refine MetFree.of_bodySF (plainFor_of_name pn_5) hisR ?_
  intro p e s m args below meth c s₁ Bd hml0 hP hK
  obtain ⟨rfl, hZ, hh⟩ := hP
  have hx := Bd.exec
  have hby := Bd.bytes
  have hml : c.maxLocals = 2 := hml0
  have hown : s.vm.findClass "java/lang/Integer" = some m.cls := findClass_of_methodNamed Bd.named
  have hnm := (name_of_methodNamed Bd.named Bd.method).1
  have X0 : Stand p l e ({ frames := 2, cells := 0, slots := 0, locals := 24 } : Room) s m #[(.ref a), (.int u1)] below meth c s₁ [] 0 0 := Stand.of_body Bd
  have e0 : s₁.heap = h0 := by rw [← hh, Bd.state]; rfl
  have N0 := Fr.nil n0
  have k0 : ∀ t, Steps p.tables e below (s₁.setTop (mkF m 0 #[.val (.ref a), .val (.int u1)] [])) t → Steps p.tables e below (s₁.setTop (entryFrame m #[(.ref a), (.int u1)] 2)) t := fun t k => castTop (ef_Int m a u1) k
  have k1 : ∀ t, Steps p.tables e below (s₁.setTop (mkF m 1 #[.val (.ref a), .val (.int u1)] [(.ref a)])) t → Steps p.tables e below (s₁.setTop (entryFrame m #[(.ref a), (.int u1)] 2)) t := by
    intro t k
    refine k0 _ ?_
    show Steps p.tables e below (s₁.setTop (mkF m 0 #[.val (.ref a), .val (.int u1)] [])) _
    refine XS.aloadN X0.here hx rfl (hb hby djdk_33_m23_0) rfl rfl ?_
    show Steps p.tables e below (s₁.setTop (mkF m 1 #[.val (.ref a), .val (.int u1)] [(.ref a)])) _
    exact k
  obtain ⟨_, _, ⟨T2, L2, ck2, nk2⟩, -, X2, ⟨Lc2, hQ2, l2, y2, z2⟩, st2⟩ := X0.specialBack hx (y := (⟨"java/lang/Number", "<init>", "()V"⟩ : MethodName)) rfl hown (mvT hZ (hw _ (List.mem_of_getElem? (i := 61) rfl))) (mvT hZ (hw _ (List.mem_of_getElem? (i := 62) rfl))) (mvT hZ (hw _ (List.mem_of_getElem? (i := 66) rfl))) (by decide) (backOf (W := 0) (rmNum l Z a0 hw [] a h0 n0 Z0) hZ (hw _ (List.mem_of_getElem? (i := 66) rfl)) (hw _ (List.mem_of_getElem? (i := 65) rfl)) (by decide) (by decide)) (g := (mkF m 1 #[.val (.ref a), .val (.int u1)] [(.ref a)])) rfl (by rw [hml]; rfl) (Steps.refl _) (a := a) (argsL := []) (rest := []) (lenOf pd_0 rfl) rfl (by show 2 * 0 + _ ≤ _; exact Nat.le_of_eq rfl) (hb hby djdk_33_m23_1) (fun _ _ => ⟨rfl, e0, (by decide : 0 + 0 ≤ _), (by decide : 0 + 0 ≤ _)⟩)
  dsimp only [Pt.U, Pt.locs, Pt.cells, Pt.slots] at X2 l2 y2 z2 st2 hQ2
  subst l2 y2 z2
  obtain ⟨rfl, N2q, e2⟩ := hQ2
  have N2 := Fr.app N0 N2q
  have k2 : ∀ t, Steps p.tables e below (T2.setTop (mkF m 4 #[.val (.ref a), .val (.int u1)] [])) t → Steps p.tables e below (s₁.setTop (entryFrame m #[(.ref a), (.int u1)] 2)) t := fun t k => k1 t (st2.trans k)
  have k3 : ∀ t, Steps p.tables e below (T2.setTop (mkF m 6 #[.val (.ref a), .val (.int u1)] [(.int u1), (.ref a)])) t → Steps p.tables e below (s₁.setTop (entryFrame m #[(.ref a), (.int u1)] 2)) t := by
    intro t k
    refine k2 _ ?_
    show Steps p.tables e below (T2.setTop (mkF m 4 #[.val (.ref a), .val (.int u1)] [])) _
    refine XS.aloadN X2.here hx rfl (hb hby djdk_33_m23_4) rfl rfl ?_
    show Steps p.tables e below (T2.setTop (mkF m 5 #[.val (.ref a), .val (.int u1)] [(.ref a)])) _
    refine XS.iloadN X2.here hx rfl (hb hby djdk_33_m23_5) rfl ?_
    show Steps p.tables e below (T2.setTop (mkF m 6 #[.val (.ref a), .val (.int u1)] [(.int u1), (.ref a)])) _
    exact k
  obtain ⟨T4, h4, X4, e4, W4, st4⟩ := putF X2 hx hZ hown (host := "") (Or.inl (hw _ (List.mem_of_getElem? (i := 68) rfl))) Via.refl e2 F1 EE (Or.inr ⟨(hw _ (List.mem_of_getElem? (i := 69) rfl)), rfl, hnm⟩) (hw _ (List.mem_of_getElem? (i := 56) rfl)) (ty := .int) (by decide) rfl rfl (g := (mkF m 6 #[.val (.ref a), .val (.int u1)] [(.int u1), (.ref a)])) rfl rfl (hb hby djdk_33_m23_6)
  have N4 := Fr.snoc X4 N2 ga
  have Fw4 := F1.same W4
  have k4 : ∀ t, Steps p.tables e below (T4.setTop (mkF m 9 #[.val (.ref a), .val (.int u1)] [])) t → Steps p.tables e below (s₁.setTop (entryFrame m #[(.ref a), (.int u1)] 2)) t := fun t k => k3 t (st4 _ k)
  have Z5 : n0 ≤ h4.size := Nat.le_trans Z0 (Keep.of_wr W4).1
  have kp6 : Keep h0 h4 [a] := ((Keep.refl h0 [a]).wr W4 (Or.inl (List.mem_of_getElem? (i := 0) rfl)))
  obtain ⟨fs, hr, hrun, hended, hW, hsame⟩ := X4.leave (v := none) (fun h => rfl)
  refine ⟨_, _, k4 _ ?_, hrun, hended, _, _, rfl, ?_, ⟨_, rfl⟩, hW, hsame.mono (Nat.le_of_ble_eq_true rfl) (Nat.le_of_ble_eq_true rfl)⟩
  · exact X4.returnOut hx Bd.returns (hb hby djdk_33_m23_9) hr
  · show QInt Z a u1 h0 n0 _ T4.heap _
    rw [e4]
    exact ⟨rfl, N4, kp6⟩
theorem ef_Val (m : MethodId) (x0 : Int32) : entryFrame m #[(.int x0)] 1 = mkF m 0 #[.val (.int x0)] [] := by first | (simp [entryFrame, mkF, argsToLocals, Value.category]; done) | rfl
def QVal (Z : State) (u1 : Int32) (ca : Addr) (clA : Cell) (h0 : Heap) (n0 : Nat) (v : Option Value) (h : Heap) (L : List Loc) : Prop := ∃ r, v = some (.ref r) ∧ Fr n0 L ∧ Keep h0 h [] ∧ Exa Z h r "java/lang/Integer"
set_option maxRecDepth 65536 in
set_option maxHeartbeats 40000000 in
theorem rmVal (l : Launch) (Z : State) (a0 : Array Value) (hw : ∀ d ∈ tables_1, d.before a0 Z = true) (ws : List Jvm.Cond) (u1 : Int32) (ca : Addr) (clA : Cell) (h0 : Heap) (n0 : Nat) (Z0 : n0 ≤ h0.size) (hu : ¬ u1 < (0 : Int32)) (S_h : Sta Z Z.heap "java/lang/Integer$IntegerCache" "high" "I" (.int (127 : Int32))) (S_c : Sta Z Z.heap "java/lang/Integer$IntegerCache" "cache" "[Ljava/lang/Integer;" (.ref ca)) (AC : Arr Z Z.heap ca clA (.object "java/lang/Integer")) (hCA : clA.slots.size = 256 ∧ ∀ j, j < 256 → ∃ r, clA.slots[j]? = some (.ref r) ∧ Exa Z Z.heap r "java/lang/Integer") (XO : Old Z n0 h0) :
    MetFree l (⟨"java/lang/Integer", "valueOf", "(I)Ljava/lang/Integer;"⟩ : MethodName) (head1 (Jvm.Cond.code (⟨"java/lang/Integer", "valueOf", "(I)Ljava/lang/Integer;"⟩ : MethodName) jdk_33_method_22_code 1 (some (.object "java/lang/Integer")) :: ws) ({ frames := 3, cells := 1, slots := 1, locals := 38 } : Room)) (fun A_ U => A_ = #[(.int u1)] ∧ Z.Warmed39 U.vm ∧ U.heap = h0) (fun _ _ _ _ _ => True) (fun _ U o U' => ∃ v L, o = .returned v ∧ QVal Z u1 ca clA h0 n0 v U'.heap L ∧ FrameEnd U o U' L ({ frames := 3, cells := 1, slots := 1, locals := 38 } : Room).cells ({ frames := 3, cells := 1, slots := 1, locals := 38 } : Room).slots) := by
  refine MetFree.of_bodySF (plainFor_of_name pn_5) hisR ?_
  intro p e s m args below meth c s₁ Bd hml0 hP hK
  obtain ⟨rfl, hZ, hh⟩ := hP
  have hx := Bd.exec
  have hby := Bd.bytes
  have hml : c.maxLocals = 1 := hml0
  have hown : s.vm.findClass "java/lang/Integer" = some m.cls := findClass_of_methodNamed Bd.named
  have hnm := (name_of_methodNamed Bd.named Bd.method).1
  have X0 : Stand p l e ({ frames := 3, cells := 1, slots := 1, locals := 38 } : Room) s m #[(.int u1)] below meth c s₁ [] 0 0 := Stand.of_body Bd
  have e0 : s₁.heap = h0 := by rw [← hh, Bd.state]; rfl
  have N0 := Fr.nil n0
  have k0 : ∀ t, Steps p.tables e below (s₁.setTop (mkF m 0 #[.val (.int u1)] [])) t → Steps p.tables e below (s₁.setTop (entryFrame m #[(.int u1)] 1)) t := fun t k => castTop (ef_Val m u1) k
  have k1 : ∀ t, Steps p.tables e below (s₁.setTop (mkF m 7 #[.val (.int u1)] [(.int u1)])) t → Steps p.tables e below (s₁.setTop (entryFrame m #[(.int u1)] 1)) t := by
    intro t k
    refine k0 _ ?_
    show Steps p.tables e below (s₁.setTop (mkF m 0 #[.val (.int u1)] [])) _
    refine XS.iloadN X0.here hx rfl (hb hby djdk_33_m22_0) rfl ?_
    show Steps p.tables e below (s₁.setTop (mkF m 1 #[.val (.int u1)] [(.int u1)])) _
    refine XS.bipush X0.here hx rfl (hb hby djdk_33_m22_1) ?_
    show Steps p.tables e below (s₁.setTop (mkF m 3 #[.val (.int u1)] [(.int (-128 : Int32)), (.int u1)])) _
    refine XS.icmpNo X0.here hx rfl (hb hby djdk_33_m22_3) rfl (flt (own_ge128 u1 hu)).1 ?_
    show Steps p.tables e below (s₁.setTop (mkF m 6 #[.val (.int u1)] [])) _
    refine XS.iloadN X0.here hx rfl (hb hby djdk_33_m22_6) rfl ?_
    show Steps p.tables e below (s₁.setTop (mkF m 7 #[.val (.int u1)] [(.int u1)])) _
    exact k
  obtain ⟨T2, X2, e2, st2⟩ := getS (host := "") X0 hx hZ hown (hw _ (List.mem_of_getElem? (i := 53) rfl)) Via.refl e0 (S_h.ext XO.2) (g := (mkF m 7 #[.val (.int u1)] [(.int u1)])) rfl (hb hby djdk_33_m22_7)
  have k2 : ∀ t, Steps p.tables e below (T2.setTop (mkF m 10 #[.val (.int u1)] [(.int (127 : Int32)), (.int u1)])) t → Steps p.tables e below (s₁.setTop (entryFrame m #[(.int u1)] 1)) t := fun t k => k1 t (st2 _ k)
  by_cases h127 : (127 : Int32) < u1
  · have k3 : ∀ t, Steps p.tables e below (T2.setTop (mkF m 23 #[.val (.int u1)] [])) t → Steps p.tables e below (s₁.setTop (entryFrame m #[(.int u1)] 1)) t := by
      intro t k
      refine k2 _ ?_
      show Steps p.tables e below (T2.setTop (mkF m 10 #[.val (.int u1)] [(.int (127 : Int32)), (.int u1)])) _
      refine XS.icmpYes X2.here hx rfl (pc0 := 10) (pc' := 23) rfl (hb hby djdk_33_m22_10) rfl (tlt h127).2.2.1 (by decide) (by decide) ?_
      show Steps p.tables e below (T2.setTop (mkF m 23 #[.val (.int u1)] [])) _
      exact k
    obtain ⟨T4, h4, X4, e4, E4, A4, D4, -, st4⟩ := newO X2 hx hZ hown (hw _ (List.mem_of_getElem? (i := 55) rfl)) (hw _ (List.mem_of_getElem? (i := 56) rfl)) (hw _ (List.mem_of_getElem? (i := 51) rfl)) e2 (g := (mkF m 23 #[.val (.int u1)] [])) rfl (hb hby djdk_33_m22_23) (by decide) (by decide)
    obtain ⟨b4, g4⟩ : ∃ z, z = h0.size := ⟨_, rfl⟩
    rw [← g4] at A4 D4 st4
    have g_b4 : n0 ≤ b4 := Nat.le_trans Z0 (Nat.le_of_eq g4.symm)
    have sz_b4 : h0.size ≤ b4 := Nat.le_trans (Keep.refl h0 []).1 (Nat.le_of_eq g4.symm)
    have F4_value : Fld Z h4 b4 "java/lang/Integer" "value" "I" (.int (0 : Int32)) := D4 (Or.inr (hw _ (List.mem_of_getElem? (i := 69) rfl))) (ty := .int) (by decide)
    have k4 : ∀ t, Steps p.tables e below (T4.setTop (mkF m 26 #[.val (.int u1)] [(.ref b4)])) t → Steps p.tables e below (s₁.setTop (entryFrame m #[(.int u1)] 1)) t := fun t k => k3 t (st4 _ k)
    have Z5 : n0 ≤ h4.size := Nat.le_trans Z0 E4.1
    have k6 : ∀ t, Steps p.tables e below (T4.setTop (mkF m 28 #[.val (.int u1)] [(.int u1), (.ref b4), (.ref b4)])) t → Steps p.tables e below (s₁.setTop (entryFrame m #[(.int u1)] 1)) t := by
      intro t k
      refine k4 _ ?_
      show Steps p.tables e below (T4.setTop (mkF m 26 #[.val (.int u1)] [(.ref b4)])) _
      refine XS.dup X4.here hx rfl (hb hby djdk_33_m22_26) rfl rfl ?_
      show Steps p.tables e below (T4.setTop (mkF m 27 #[.val (.int u1)] [(.ref b4), (.ref b4)])) _
      refine XS.iloadN X4.here hx rfl (hb hby djdk_33_m22_27) rfl ?_
      show Steps p.tables e below (T4.setTop (mkF m 28 #[.val (.int u1)] [(.int u1), (.ref b4), (.ref b4)])) _
      exact k
    obtain ⟨_, _, ⟨T7, L7, ck7, nk7⟩, -, X7, ⟨Lc7, hQ7, l7, y7, z7⟩, st7⟩ := X4.specialBack hx (y := (⟨"java/lang/Integer", "<init>", "(I)V"⟩ : MethodName)) rfl hown (mvT hZ (hw _ (List.mem_of_getElem? (i := 57) rfl))) (mvT hZ (hw _ (List.mem_of_getElem? (i := 58) rfl))) (mvT hZ (hw _ (List.mem_of_getElem? (i := 60) rfl))) (by decide) (backOf (W := 1) (rmInt l Z a0 hw [] b4 u1 h4 n0 Z5 A4 g_b4 F4_value) hZ (hw _ (List.mem_of_getElem? (i := 60) rfl)) (hw _ (List.mem_of_getElem? (i := 51) rfl)) (by decide) (by decide)) (g := (mkF m 28 #[.val (.int u1)] [(.int u1), (.ref b4), (.ref b4)])) rfl (by rw [hml]; rfl) (Steps.refl _) (a := b4) (argsL := [(.int u1)]) (rest := [(.ref b4)]) (lenOf pd_2 rfl) rfl (by show 2 * 0 + _ ≤ _; exact Nat.le_of_eq rfl) (hb hby djdk_33_m22_28) (fun _ _ => ⟨rfl, e4, (by decide : 1 + 0 ≤ _), (by decide : 1 + 0 ≤ _)⟩)
    dsimp only [Pt.U, Pt.locs, Pt.cells, Pt.slots] at X7 l7 y7 z7 st7 hQ7
    subst l7 y7 z7
    obtain ⟨rfl, N7q, K7⟩ := hQ7
    have N7 := Fr.app N0 N7q
    have k7 : ∀ t, Steps p.tables e below (T7.setTop (mkF m 31 #[.val (.int u1)] [(.ref b4)])) t → Steps p.tables e below (s₁.setTop (entryFrame m #[(.int u1)] 1)) t := fun t k => k6 t (st7.trans k)
    have Z8 : n0 ≤ T7.heap.size := Nat.le_trans Z5 K7.1
    have kp9 : Keep h0 T7.heap [] := (((Keep.refl h0 []).ext E4).trans K7 (allS (Or.inr sz_b4) all0))
    have f10 := (A4.keep K7)
    obtain ⟨fs, hr, hrun, hended, hW, hsame⟩ := X7.leave (v := some (.ref b4)) (fun h => by rw [Bd.returns] at h; cases h)
    refine ⟨_, _, k7 _ ?_, hrun, hended, _, _, rfl, ?_, ⟨_, rfl⟩, hW, hsame.mono (Nat.le_of_ble_eq_true rfl) (Nat.le_of_ble_eq_true rfl)⟩
    · exact retOut X7 hx Bd.returns rfl (Or.inr (Or.inr (Or.inr (Or.inr ⟨rfl, rfl, rfl⟩)))) (hb hby djdk_33_m22_31) hr
    · show QVal Z u1 ca clA h0 n0 _ T7.heap _
      skip
      exact ⟨_, rfl, N7, kp9, f10⟩
  · have k11 : ∀ t, Steps p.tables e below (T2.setTop (mkF m 13 #[.val (.int u1)] [])) t → Steps p.tables e below (s₁.setTop (entryFrame m #[(.int u1)] 1)) t := by
      intro t k
      refine k2 _ ?_
      show Steps p.tables e below (T2.setTop (mkF m 10 #[.val (.int u1)] [(.int (127 : Int32)), (.int u1)])) _
      refine XS.icmpNo X2.here hx rfl (hb hby djdk_33_m22_10) rfl (flt h127).2.2.1 ?_
      show Steps p.tables e below (T2.setTop (mkF m 13 #[.val (.int u1)] [])) _
      exact k
    obtain ⟨T12, X12, e12, st12⟩ := getS (host := "") X2 hx hZ hown (hw _ (List.mem_of_getElem? (i := 75) rfl)) Via.refl e2 (S_c.ext XO.2) (g := (mkF m 13 #[.val (.int u1)] [])) rfl (hb hby djdk_33_m22_13)
    have k12 : ∀ t, Steps p.tables e below (T12.setTop (mkF m 16 #[.val (.int u1)] [(.ref ca)])) t → Steps p.tables e below (s₁.setTop (entryFrame m #[(.int u1)] 1)) t := fun t k => k11 t (st12 _ k)
    have k13 : ∀ t, Steps p.tables e below (T12.setTop (mkF m 21 #[.val (.int u1)] [(.int (u1 + (128 : Int32))), (.ref ca)])) t → Steps p.tables e below (s₁.setTop (entryFrame m #[(.int u1)] 1)) t := by
      intro t k
      refine k12 _ ?_
      show Steps p.tables e below (T12.setTop (mkF m 16 #[.val (.int u1)] [(.ref ca)])) _
      refine XS.iloadN X12.here hx rfl (hb hby djdk_33_m22_16) rfl ?_
      show Steps p.tables e below (T12.setTop (mkF m 17 #[.val (.int u1)] [(.int u1), (.ref ca)])) _
      refine XS.sipush X12.here hx rfl (hb hby djdk_33_m22_17) ?_
      show Steps p.tables e below (T12.setTop (mkF m 20 #[.val (.int u1)] [(.int (128 : Int32)), (.int u1), (.ref ca)])) _
      refine XS.iadd X12.here hx rfl (hb hby djdk_33_m22_20) rfl ?_
      show Steps p.tables e below (T12.setTop (mkF m 21 #[.val (.int u1)] [(.int (u1 + (128 : Int32))), (.ref ca)])) _
      exact k
    have hix := own_idx u1 hu h127
    obtain ⟨r, hr1, hr2⟩ := hCA.2 _ hix.2
    have hAT := AC.ext XO.2
    have k14 : ∀ t, Steps p.tables e below (T12.setTop (mkF m 22 #[.val (.int u1)] [(.ref r)])) t → Steps p.tables e below (s₁.setTop (entryFrame m #[(.int u1)] 1)) t := by
      intro t k
      refine k13 _ ?_
      show Steps p.tables e below (T12.setTop (mkF m 21 #[.val (.int u1)] [(.int (u1 + (128 : Int32))), (.ref ca)])) _
      refine X12.aaload hx (j := (u1 + (128 : Int32))) (v := (.ref r)) (by rw [e12]; exact hAT.1) (State.isArrayOf_alike hZ.alike hAT.2.1) rfl hAT.2.2 (fun q => q.elim hix.1 (fun q2 => by rw [hCA.1] at q2; exact absurd hix.2 (Nat.not_lt.mpr q2))) hr1 (g := (mkF m 21 #[.val (.int u1)] [(.int (u1 + (128 : Int32))), (.ref ca)])) rfl rfl (hb hby djdk_33_m22_21) _ ?_
      show Steps p.tables e below (T12.setTop (mkF m 22 #[.val (.int u1)] [(.ref r)])) _
      exact k
    obtain ⟨fs, hr, hrun, hended, hW, hsame⟩ := X12.leave (v := some (.ref r)) (fun h => by rw [Bd.returns] at h; cases h)
    refine ⟨_, _, k14 _ ?_, hrun, hended, _, _, rfl, ?_, ⟨_, rfl⟩, hW, hsame.mono (Nat.le_of_ble_eq_true rfl) (Nat.le_of_ble_eq_true rfl)⟩
    · exact retOut X12 hx Bd.returns rfl (Or.inr (Or.inr (Or.inr (Or.inr ⟨rfl, rfl, rfl⟩)))) (hb hby djdk_33_m22_22) hr
    · show QVal Z u1 ca clA h0 n0 _ T12.heap _
      rw [e12]
      exact ⟨_, rfl, N0, (Keep.refl h0 []), (hr2.ext XO.2)⟩
theorem ef_0 (m : MethodId) (x0 : Int32) (x1 : Int32) (x2 : Int32) (x3 : Int32) (x4 : Int32) : entryFrame m #[(.int x0), (.int x1), (.int x2), (.int x3), (.int x4)] maxLocals = mkF m 0 #[.val (.int x0), .val (.int x1), .val (.int x2), .val (.int x3), .val (.int x4), .unset, .unset, .unset, .unset, .unset, .unset, .unset, .unset] [] := by first | (simp [entryFrame, mkF, argsToLocals, Value.category, maxLocals]; done) | rfl
def Q0 (Z : State) (p1 : Int32) (p2 : Int32) (p3 : Int32) (p4 : Int32) (p5 : Int32) (aE : Addr) (aA : Addr) (aU : Addr) (ca : Addr) (clA : Cell) (h0 : Heap) (n0 : Nat) (v : Option Value) (h : Heap) (L : List Loc) : Prop := v = some (.int 1) ∧ Fr n0 L
set_option maxRecDepth 65536 in
set_option maxHeartbeats 40000000 in
theorem rm0 (l : Launch) (Z : State) (a0 : Array Value) (hw : ∀ d ∈ tables_1, d.before a0 Z = true) (ws : List Jvm.Cond) (p1 : Int32) (p2 : Int32) (p3 : Int32) (p4 : Int32) (p5 : Int32) (aE : Addr) (aA : Addr) (aU : Addr) (ca : Addr) (clA : Cell) (h0 : Heap) (n0 : Nat) (Z0 : n0 ≤ h0.size) (S_EXACT : Sta Z Z.heap "com/example/frameloom/frameloom/Constraint$Mode" "EXACT" "Lcom/example/frameloom/frameloom/Constraint$Mode;" (.ref aE)) (S_AT_MOST : Sta Z Z.heap "com/example/frameloom/frameloom/Constraint$Mode" "AT_MOST" "Lcom/example/frameloom/frameloom/Constraint$Mode;" (.ref aA)) (S_UNBOUNDED : Sta Z Z.heap "com/example/frameloom/frameloom/Constraint$Mode" "UNBOUNDED" "Lcom/example/frameloom/frameloom/Constraint$Mode;" (.ref aU)) (Fo_EXACT : Fld Z Z.heap aE "java/lang/Enum" "ordinal" "I" (.int (0 : Int32))) (Fo_AT_MOST : Fld Z Z.heap aA "java/lang/Enum" "ordinal" "I" (.int (1 : Int32))) (Fo_UNBOUNDED : Fld Z Z.heap aU "java/lang/Enum" "ordinal" "I" (.int (2 : Int32))) (S_h : Sta Z Z.heap "java/lang/Integer$IntegerCache" "high" "I" (.int (127 : Int32))) (S_c : Sta Z Z.heap "java/lang/Integer$IntegerCache" "cache" "[Ljava/lang/Integer;" (.ref ca)) (AC : Arr Z Z.heap ca clA (.object "java/lang/Integer")) (hCA : clA.slots.size = 256 ∧ ∀ j, j < 256 → ∃ r, clA.slots[j]? = some (.ref r) ∧ Exa Z Z.heap r "java/lang/Integer") (XO : Old Z n0 h0) :
    MetFree l x (head1 (Jvm.Cond.code x code maxLocals ret :: ws) room_1) (fun A_ U => A_ = #[(.int p1), (.int p2), (.int p3), (.int p4), (.int p5)] ∧ Z.Warmed39 U.vm ∧ U.heap = h0) (fun _ _ _ _ _ => True) (fun _ U o U' => ∃ v L, o = .returned v ∧ Q0 Z p1 p2 p3 p4 p5 aE aA aU ca clA h0 n0 v U'.heap L ∧ ReturnedEndW U o U' L 16 1152) := by
  refine MetFree.of_bodySF (plainFor_of_name pn_0) hisR ?_
  intro p e s m args below meth c s₁ Bd hml0 hP hK
  obtain ⟨rfl, hZ, hh⟩ := hP
  have hx := Bd.exec
  have hby := Bd.bytes
  have hml : c.maxLocals = 13 := hml0
  have hown : s.vm.findClass "com/example/frameloom/frameloom/ConstraintEqualsPinLaw" = some m.cls := findClass_of_methodNamed Bd.named
  have hnm := (name_of_methodNamed Bd.named Bd.method).1
  have X0 : Stand p l e room_1 s m #[(.int p1), (.int p2), (.int p3), (.int p4), (.int p5)] below meth c s₁ [] 0 0 := Stand.of_body Bd
  have e0 : s₁.heap = h0 := by rw [← hh, Bd.state]; rfl
  have N0 := Fr.nil n0
  have k0 : ∀ t, Steps p.tables e below (s₁.setTop (mkF m 0 #[.val (.int p1), .val (.int p2), .val (.int p3), .val (.int p4), .val (.int p5), .unset, .unset, .unset, .unset, .unset, .unset, .unset, .unset] [])) t → Steps p.tables e below (s₁.setTop (entryFrame m #[(.int p1), (.int p2), (.int p3), (.int p4), (.int p5)] maxLocals)) t := fun t k => castTop (ef_0 m p1 p2 p3 p4 p5) k
  have n1 : aE ≠ aA := Fld.ne Fo_EXACT Fo_AT_MOST (by decide)
  have n2 : aE ≠ aU := Fld.ne Fo_EXACT Fo_UNBOUNDED (by decide)
  have n3 : aA ≠ aU := Fld.ne Fo_AT_MOST Fo_UNBOUNDED (by decide)
  have k1 : ∀ t, Steps p.tables e below (s₁.setTop (mkF m 8 #[.val (.int p1), .val (.int p2), .val (.int p3), .val (.int p4), .val (.int p5), .val (.int ((p1 &&& (2147483647 : Int32)) % (3 : Int32))), .unset, .unset, .unset, .unset, .unset, .unset, .unset] [])) t → Steps p.tables e below (s₁.setTop (entryFrame m #[(.int p1), (.int p2), (.int p3), (.int p4), (.int p5)] maxLocals)) t := by
    intro t k
    refine k0 _ ?_
    show Steps p.tables e below (s₁.setTop (mkF m 0 #[.val (.int p1), .val (.int p2), .val (.int p3), .val (.int p4), .val (.int p5), .unset, .unset, .unset, .unset, .unset, .unset, .unset, .unset] [])) _
    refine XS.iloadN X0.here hx rfl (hb hby at_0) rfl ?_
    show Steps p.tables e below (s₁.setTop (mkF m 1 #[.val (.int p1), .val (.int p2), .val (.int p3), .val (.int p4), .val (.int p5), .unset, .unset, .unset, .unset, .unset, .unset, .unset, .unset] [(.int p1)])) _
    refine X0.ldcInt hx hown (mvT hZ (hw _ (List.mem_of_getElem? (i := 0) rfl))) (g := (mkF m 1 #[.val (.int p1), .val (.int p2), .val (.int p3), .val (.int p4), .val (.int p5), .unset, .unset, .unset, .unset, .unset, .unset, .unset, .unset] [(.int p1)])) rfl (hb hby at_1) _ ?_
    show Steps p.tables e below (s₁.setTop (mkF m 3 #[.val (.int p1), .val (.int p2), .val (.int p3), .val (.int p4), .val (.int p5), .unset, .unset, .unset, .unset, .unset, .unset, .unset, .unset] [(.int (2147483647 : Int32)), (.int p1)])) _
    refine XS.iand X0.here hx rfl (hb hby at_3) rfl ?_
    show Steps p.tables e below (s₁.setTop (mkF m 4 #[.val (.int p1), .val (.int p2), .val (.int p3), .val (.int p4), .val (.int p5), .unset, .unset, .unset, .unset, .unset, .unset, .unset, .unset] [(.int (p1 &&& (2147483647 : Int32)))])) _
    refine XS.iconst X0.here hx rfl (hb hby at_4) ?_
    show Steps p.tables e below (s₁.setTop (mkF m 5 #[.val (.int p1), .val (.int p2), .val (.int p3), .val (.int p4), .val (.int p5), .unset, .unset, .unset, .unset, .unset, .unset, .unset, .unset] [(.int (3 : Int32)), (.int (p1 &&& (2147483647 : Int32)))])) _
    refine iremM X0 hx rfl (hb hby at_5) rfl (by decide) ?_
    show Steps p.tables e below (s₁.setTop (mkF m 6 #[.val (.int p1), .val (.int p2), .val (.int p3), .val (.int p4), .val (.int p5), .unset, .unset, .unset, .unset, .unset, .unset, .unset, .unset] [(.int ((p1 &&& (2147483647 : Int32)) % (3 : Int32)))])) _
    refine XS.istore X0.here hx rfl (hb hby at_6) rfl (l' := #[.val (.int p1), .val (.int p2), .val (.int p3), .val (.int p4), .val (.int p5), .val (.int ((p1 &&& (2147483647 : Int32)) % (3 : Int32))), .unset, .unset, .unset, .unset, .unset, .unset, .unset]) rfl ?_
    show Steps p.tables e below (s₁.setTop (mkF m 8 #[.val (.int p1), .val (.int p2), .val (.int p3), .val (.int p4), .val (.int p5), .val (.int ((p1 &&& (2147483647 : Int32)) % (3 : Int32))), .unset, .unset, .unset, .unset, .unset, .unset, .unset] [])) _
    exact k
  obtain ⟨k1_, eq_k1_⟩ : ∃ z : Int32, z = ((p1 &&& (2147483647 : Int32)) % (3 : Int32)) := ⟨_, rfl⟩
  rw [← eq_k1_] at k1
  have hk1 : own_k3 k1_ := by rw [eq_k1_]; exact own_mod3 p1
  obtain ⟨k2_, eq_k2_⟩ : ∃ z : Int32, z = (if (p5 &&& (2 : Int32)) = (0 : Int32) then ((p3 &&& (2147483647 : Int32)) % (3 : Int32)) else k1_) := ⟨_, rfl⟩
  have k3 : ∀ t, Steps p.tables e below (s₁.setTop (mkF m 26 #[.val (.int p1), .val (.int p2), .val (.int p3), .val (.int p4), .val (.int p5), .val (.int k1_), .unset, .unset, .unset, .unset, .unset, .unset, .unset] [(.int k2_)])) t → Steps p.tables e below (s₁.setTop (entryFrame m #[(.int p1), (.int p2), (.int p3), (.int p4), (.int p5)] maxLocals)) t := by
    intro t k
    refine k1 _ ?_
    show Steps p.tables e below (s₁.setTop (mkF m 8 #[.val (.int p1), .val (.int p2), .val (.int p3), .val (.int p4), .val (.int p5), .val (.int k1_), .unset, .unset, .unset, .unset, .unset, .unset, .unset] [])) _
    refine XS.iload X0.here hx rfl (hb hby at_8) rfl ?_
    show Steps p.tables e below (s₁.setTop (mkF m 10 #[.val (.int p1), .val (.int p2), .val (.int p3), .val (.int p4), .val (.int p5), .val (.int k1_), .unset, .unset, .unset, .unset, .unset, .unset, .unset] [(.int p5)])) _
    refine XS.iconst X0.here hx rfl (hb hby at_10) ?_
    show Steps p.tables e below (s₁.setTop (mkF m 11 #[.val (.int p1), .val (.int p2), .val (.int p3), .val (.int p4), .val (.int p5), .val (.int k1_), .unset, .unset, .unset, .unset, .unset, .unset, .unset] [(.int (2 : Int32)), (.int p5)])) _
    refine XS.iand X0.here hx rfl (hb hby at_11) rfl ?_
    show Steps p.tables e below (s₁.setTop (mkF m 12 #[.val (.int p1), .val (.int p2), .val (.int p3), .val (.int p4), .val (.int p5), .val (.int k1_), .unset, .unset, .unset, .unset, .unset, .unset, .unset] [(.int (p5 &&& (2 : Int32)))])) _
    by_cases hc2_12 : (p5 &&& (2 : Int32)) = (0 : Int32)
    · rw [show k2_ = ((p3 &&& (2147483647 : Int32)) % (3 : Int32)) by rw [eq_k2_, if_pos hc2_12]] at k
      show Steps p.tables e below (s₁.setTop (mkF m 12 #[.val (.int p1), .val (.int p2), .val (.int p3), .val (.int p4), .val (.int p5), .val (.int k1_), .unset, .unset, .unset, .unset, .unset, .unset, .unset] [(.int (p5 &&& (2 : Int32)))])) _
      refine XS.ifYes X0.here hx rfl (pc0 := 12) (pc' := 20) rfl (hb hby at_12) rfl ((if0 _ _).trans (teq hc2_12).1) (by decide) (by decide) ?_
      show Steps p.tables e below (s₁.setTop (mkF m 20 #[.val (.int p1), .val (.int p2), .val (.int p3), .val (.int p4), .val (.int p5), .val (.int k1_), .unset, .unset, .unset, .unset, .unset, .unset, .unset] [])) _
      refine XS.iloadN X0.here hx rfl (hb hby at_20) rfl ?_
      show Steps p.tables e below (s₁.setTop (mkF m 21 #[.val (.int p1), .val (.int p2), .val (.int p3), .val (.int p4), .val (.int p5), .val (.int k1_), .unset, .unset, .unset, .unset, .unset, .unset, .unset] [(.int p3)])) _
      refine X0.ldcInt hx hown (mvT hZ (hw _ (List.mem_of_getElem? (i := 0) rfl))) (g := (mkF m 21 #[.val (.int p1), .val (.int p2), .val (.int p3), .val (.int p4), .val (.int p5), .val (.int k1_), .unset, .unset, .unset, .unset, .unset, .unset, .unset] [(.int p3)])) rfl (hb hby at_21) _ ?_
      show Steps p.tables e below (s₁.setTop (mkF m 23 #[.val (.int p1), .val (.int p2), .val (.int p3), .val (.int p4), .val (.int p5), .val (.int k1_), .unset, .unset, .unset, .unset, .unset, .unset, .unset] [(.int (2147483647 : Int32)), (.int p3)])) _
      refine XS.iand X0.here hx rfl (hb hby at_23) rfl ?_
      show Steps p.tables e below (s₁.setTop (mkF m 24 #[.val (.int p1), .val (.int p2), .val (.int p3), .val (.int p4), .val (.int p5), .val (.int k1_), .unset, .unset, .unset, .unset, .unset, .unset, .unset] [(.int (p3 &&& (2147483647 : Int32)))])) _
      refine XS.iconst X0.here hx rfl (hb hby at_24) ?_
      show Steps p.tables e below (s₁.setTop (mkF m 25 #[.val (.int p1), .val (.int p2), .val (.int p3), .val (.int p4), .val (.int p5), .val (.int k1_), .unset, .unset, .unset, .unset, .unset, .unset, .unset] [(.int (3 : Int32)), (.int (p3 &&& (2147483647 : Int32)))])) _
      refine iremM X0 hx rfl (hb hby at_25) rfl (by decide) ?_
      show Steps p.tables e below (s₁.setTop (mkF m 26 #[.val (.int p1), .val (.int p2), .val (.int p3), .val (.int p4), .val (.int p5), .val (.int k1_), .unset, .unset, .unset, .unset, .unset, .unset, .unset] [(.int ((p3 &&& (2147483647 : Int32)) % (3 : Int32)))])) _
      exact k
    · rw [show k2_ = k1_ by rw [eq_k2_, if_neg hc2_12]] at k
      show Steps p.tables e below (s₁.setTop (mkF m 12 #[.val (.int p1), .val (.int p2), .val (.int p3), .val (.int p4), .val (.int p5), .val (.int k1_), .unset, .unset, .unset, .unset, .unset, .unset, .unset] [(.int (p5 &&& (2 : Int32)))])) _
      refine XS.ifNo X0.here hx rfl (hb hby at_12) rfl ((if0 _ _).trans (feq hc2_12).1) ?_
      show Steps p.tables e below (s₁.setTop (mkF m 15 #[.val (.int p1), .val (.int p2), .val (.int p3), .val (.int p4), .val (.int p5), .val (.int k1_), .unset, .unset, .unset, .unset, .unset, .unset, .unset] [])) _
      refine XS.iload X0.here hx rfl (hb hby at_15) rfl ?_
      show Steps p.tables e below (s₁.setTop (mkF m 17 #[.val (.int p1), .val (.int p2), .val (.int p3), .val (.int p4), .val (.int p5), .val (.int k1_), .unset, .unset, .unset, .unset, .unset, .unset, .unset] [(.int k1_)])) _
      refine XS.goto X0.here hx rfl (pc0 := 17) (pc' := 26) rfl (hb hby at_17) (by decide) (by decide) ?_
      show Steps p.tables e below (s₁.setTop (mkF m 26 #[.val (.int p1), .val (.int p2), .val (.int p3), .val (.int p4), .val (.int p5), .val (.int k1_), .unset, .unset, .unset, .unset, .unset, .unset, .unset] [(.int k1_)])) _
      exact k
  have hk2 : own_k3 k2_ := by rw [eq_k2_]; split <;> first | exact own_mod3 p3 | exact hk1
  have k4 : ∀ t, Steps p.tables e below (s₁.setTop (mkF m 34 #[.val (.int p1), .val (.int p2), .val (.int p3), .val (.int p4), .val (.int p5), .val (.int k1_), .val (.int k2_), .val (.int (p2 &&& (1073741823 : Int32))), .unset, .unset, .unset, .unset, .unset] [])) t → Steps p.tables e below (s₁.setTop (entryFrame m #[(.int p1), (.int p2), (.int p3), (.int p4), (.int p5)] maxLocals)) t := by
    intro t k
    refine k3 _ ?_
    show Steps p.tables e below (s₁.setTop (mkF m 26 #[.val (.int p1), .val (.int p2), .val (.int p3), .val (.int p4), .val (.int p5), .val (.int k1_), .unset, .unset, .unset, .unset, .unset, .unset, .unset] [(.int k2_)])) _
    refine XS.istore X0.here hx rfl (hb hby at_26) rfl (l' := #[.val (.int p1), .val (.int p2), .val (.int p3), .val (.int p4), .val (.int p5), .val (.int k1_), .val (.int k2_), .unset, .unset, .unset, .unset, .unset, .unset]) rfl ?_
    show Steps p.tables e below (s₁.setTop (mkF m 28 #[.val (.int p1), .val (.int p2), .val (.int p3), .val (.int p4), .val (.int p5), .val (.int k1_), .val (.int k2_), .unset, .unset, .unset, .unset, .unset, .unset] [])) _
    refine XS.iloadN X0.here hx rfl (hb hby at_28) rfl ?_
    show Steps p.tables e below (s₁.setTop (mkF m 29 #[.val (.int p1), .val (.int p2), .val (.int p3), .val (.int p4), .val (.int p5), .val (.int k1_), .val (.int k2_), .unset, .unset, .unset, .unset, .unset, .unset] [(.int p2)])) _
    refine X0.ldcInt hx hown (mvT hZ (hw _ (List.mem_of_getElem? (i := 1) rfl))) (g := (mkF m 29 #[.val (.int p1), .val (.int p2), .val (.int p3), .val (.int p4), .val (.int p5), .val (.int k1_), .val (.int k2_), .unset, .unset, .unset, .unset, .unset, .unset] [(.int p2)])) rfl (hb hby at_29) _ ?_
    show Steps p.tables e below (s₁.setTop (mkF m 31 #[.val (.int p1), .val (.int p2), .val (.int p3), .val (.int p4), .val (.int p5), .val (.int k1_), .val (.int k2_), .unset, .unset, .unset, .unset, .unset, .unset] [(.int (1073741823 : Int32)), (.int p2)])) _
    refine XS.iand X0.here hx rfl (hb hby at_31) rfl ?_
    show Steps p.tables e below (s₁.setTop (mkF m 32 #[.val (.int p1), .val (.int p2), .val (.int p3), .val (.int p4), .val (.int p5), .val (.int k1_), .val (.int k2_), .unset, .unset, .unset, .unset, .unset, .unset] [(.int (p2 &&& (1073741823 : Int32)))])) _
    refine XS.istore X0.here hx rfl (hb hby at_32) rfl (l' := #[.val (.int p1), .val (.int p2), .val (.int p3), .val (.int p4), .val (.int p5), .val (.int k1_), .val (.int k2_), .val (.int (p2 &&& (1073741823 : Int32))), .unset, .unset, .unset, .unset, .unset]) rfl ?_
    show Steps p.tables e below (s₁.setTop (mkF m 34 #[.val (.int p1), .val (.int p2), .val (.int p3), .val (.int p4), .val (.int p5), .val (.int k1_), .val (.int k2_), .val (.int (p2 &&& (1073741823 : Int32))), .unset, .unset, .unset, .unset, .unset] [])) _
    exact k
  obtain ⟨av, eq_av⟩ : ∃ z : Int32, z = (p2 &&& (1073741823 : Int32)) := ⟨_, rfl⟩
  rw [← eq_av] at k4
  have hav : ¬ av < (0 : Int32) ∧ ¬ (1073741823 : Int32) < av := by rw [eq_av]; exact own_size p2
  obtain ⟨bv, eq_bv⟩ : ∃ z : Int32, z = (if (p5 &&& (1 : Int32)) = (0 : Int32) then (p4 &&& (1073741823 : Int32)) else av) := ⟨_, rfl⟩
  have k6 : ∀ t, Steps p.tables e below (s₁.setTop (mkF m 50 #[.val (.int p1), .val (.int p2), .val (.int p3), .val (.int p4), .val (.int p5), .val (.int k1_), .val (.int k2_), .val (.int av), .unset, .unset, .unset, .unset, .unset] [(.int bv)])) t → Steps p.tables e below (s₁.setTop (entryFrame m #[(.int p1), (.int p2), (.int p3), (.int p4), (.int p5)] maxLocals)) t := by
    intro t k
    refine k4 _ ?_
    show Steps p.tables e below (s₁.setTop (mkF m 34 #[.val (.int p1), .val (.int p2), .val (.int p3), .val (.int p4), .val (.int p5), .val (.int k1_), .val (.int k2_), .val (.int av), .unset, .unset, .unset, .unset, .unset] [])) _
    refine XS.iload X0.here hx rfl (hb hby at_34) rfl ?_
    show Steps p.tables e below (s₁.setTop (mkF m 36 #[.val (.int p1), .val (.int p2), .val (.int p3), .val (.int p4), .val (.int p5), .val (.int k1_), .val (.int k2_), .val (.int av), .unset, .unset, .unset, .unset, .unset] [(.int p5)])) _
    refine XS.iconst X0.here hx rfl (hb hby at_36) ?_
    show Steps p.tables e below (s₁.setTop (mkF m 37 #[.val (.int p1), .val (.int p2), .val (.int p3), .val (.int p4), .val (.int p5), .val (.int k1_), .val (.int k2_), .val (.int av), .unset, .unset, .unset, .unset, .unset] [(.int (1 : Int32)), (.int p5)])) _
    refine XS.iand X0.here hx rfl (hb hby at_37) rfl ?_
    show Steps p.tables e below (s₁.setTop (mkF m 38 #[.val (.int p1), .val (.int p2), .val (.int p3), .val (.int p4), .val (.int p5), .val (.int k1_), .val (.int k2_), .val (.int av), .unset, .unset, .unset, .unset, .unset] [(.int (p5 &&& (1 : Int32)))])) _
    by_cases hc5_38 : (p5 &&& (1 : Int32)) = (0 : Int32)
    · rw [show bv = (p4 &&& (1073741823 : Int32)) by rw [eq_bv, if_pos hc5_38]] at k
      show Steps p.tables e below (s₁.setTop (mkF m 38 #[.val (.int p1), .val (.int p2), .val (.int p3), .val (.int p4), .val (.int p5), .val (.int k1_), .val (.int k2_), .val (.int av), .unset, .unset, .unset, .unset, .unset] [(.int (p5 &&& (1 : Int32)))])) _
      refine XS.ifYes X0.here hx rfl (pc0 := 38) (pc' := 46) rfl (hb hby at_38) rfl ((if0 _ _).trans (teq hc5_38).1) (by decide) (by decide) ?_
      show Steps p.tables e below (s₁.setTop (mkF m 46 #[.val (.int p1), .val (.int p2), .val (.int p3), .val (.int p4), .val (.int p5), .val (.int k1_), .val (.int k2_), .val (.int av), .unset, .unset, .unset, .unset, .unset] [])) _
      refine XS.iloadN X0.here hx rfl (hb hby at_46) rfl ?_
      show Steps p.tables e below (s₁.setTop (mkF m 47 #[.val (.int p1), .val (.int p2), .val (.int p3), .val (.int p4), .val (.int p5), .val (.int k1_), .val (.int k2_), .val (.int av), .unset, .unset, .unset, .unset, .unset] [(.int p4)])) _
      refine X0.ldcInt hx hown (mvT hZ (hw _ (List.mem_of_getElem? (i := 1) rfl))) (g := (mkF m 47 #[.val (.int p1), .val (.int p2), .val (.int p3), .val (.int p4), .val (.int p5), .val (.int k1_), .val (.int k2_), .val (.int av), .unset, .unset, .unset, .unset, .unset] [(.int p4)])) rfl (hb hby at_47) _ ?_
      show Steps p.tables e below (s₁.setTop (mkF m 49 #[.val (.int p1), .val (.int p2), .val (.int p3), .val (.int p4), .val (.int p5), .val (.int k1_), .val (.int k2_), .val (.int av), .unset, .unset, .unset, .unset, .unset] [(.int (1073741823 : Int32)), (.int p4)])) _
      refine XS.iand X0.here hx rfl (hb hby at_49) rfl ?_
      show Steps p.tables e below (s₁.setTop (mkF m 50 #[.val (.int p1), .val (.int p2), .val (.int p3), .val (.int p4), .val (.int p5), .val (.int k1_), .val (.int k2_), .val (.int av), .unset, .unset, .unset, .unset, .unset] [(.int (p4 &&& (1073741823 : Int32)))])) _
      exact k
    · rw [show bv = av by rw [eq_bv, if_neg hc5_38]] at k
      show Steps p.tables e below (s₁.setTop (mkF m 38 #[.val (.int p1), .val (.int p2), .val (.int p3), .val (.int p4), .val (.int p5), .val (.int k1_), .val (.int k2_), .val (.int av), .unset, .unset, .unset, .unset, .unset] [(.int (p5 &&& (1 : Int32)))])) _
      refine XS.ifNo X0.here hx rfl (hb hby at_38) rfl ((if0 _ _).trans (feq hc5_38).1) ?_
      show Steps p.tables e below (s₁.setTop (mkF m 41 #[.val (.int p1), .val (.int p2), .val (.int p3), .val (.int p4), .val (.int p5), .val (.int k1_), .val (.int k2_), .val (.int av), .unset, .unset, .unset, .unset, .unset] [])) _
      refine XS.iload X0.here hx rfl (hb hby at_41) rfl ?_
      show Steps p.tables e below (s₁.setTop (mkF m 43 #[.val (.int p1), .val (.int p2), .val (.int p3), .val (.int p4), .val (.int p5), .val (.int k1_), .val (.int k2_), .val (.int av), .unset, .unset, .unset, .unset, .unset] [(.int av)])) _
      refine XS.goto X0.here hx rfl (pc0 := 43) (pc' := 50) rfl (hb hby at_43) (by decide) (by decide) ?_
      show Steps p.tables e below (s₁.setTop (mkF m 50 #[.val (.int p1), .val (.int p2), .val (.int p3), .val (.int p4), .val (.int p5), .val (.int k1_), .val (.int k2_), .val (.int av), .unset, .unset, .unset, .unset, .unset] [(.int av)])) _
      exact k
  have hbv : ¬ bv < (0 : Int32) ∧ ¬ (1073741823 : Int32) < bv := by rw [eq_bv]; split <;> first | exact own_size p4 | exact hav
  have k7 : ∀ t, Steps p.tables e below (s₁.setTop (mkF m 52 #[.val (.int p1), .val (.int p2), .val (.int p3), .val (.int p4), .val (.int p5), .val (.int k1_), .val (.int k2_), .val (.int av), .val (.int bv), .unset, .unset, .unset, .unset] [])) t → Steps p.tables e below (s₁.setTop (entryFrame m #[(.int p1), (.int p2), (.int p3), (.int p4), (.int p5)] maxLocals)) t := by
    intro t k
    refine k6 _ ?_
    show Steps p.tables e below (s₁.setTop (mkF m 50 #[.val (.int p1), .val (.int p2), .val (.int p3), .val (.int p4), .val (.int p5), .val (.int k1_), .val (.int k2_), .val (.int av), .unset, .unset, .unset, .unset, .unset] [(.int bv)])) _
    refine XS.istore X0.here hx rfl (hb hby at_50) rfl (l' := #[.val (.int p1), .val (.int p2), .val (.int p3), .val (.int p4), .val (.int p5), .val (.int k1_), .val (.int k2_), .val (.int av), .val (.int bv), .unset, .unset, .unset, .unset]) rfl ?_
    show Steps p.tables e below (s₁.setTop (mkF m 52 #[.val (.int p1), .val (.int p2), .val (.int p3), .val (.int p4), .val (.int p5), .val (.int k1_), .val (.int k2_), .val (.int av), .val (.int bv), .unset, .unset, .unset, .unset] [])) _
    exact k
  obtain ⟨T8, h8, X8, e8, E8, A8, D8, -, st8⟩ := newO X0 hx hZ hown (hw _ (List.mem_of_getElem? (i := 2) rfl)) (hw _ (List.mem_of_getElem? (i := 3) rfl)) (hw _ (List.mem_of_getElem? (i := 4) rfl)) e0 (g := (mkF m 52 #[.val (.int p1), .val (.int p2), .val (.int p3), .val (.int p4), .val (.int p5), .val (.int k1_), .val (.int k2_), .val (.int av), .val (.int bv), .unset, .unset, .unset, .unset] [])) rfl (hb hby at_52) (by decide) (by decide)
  obtain ⟨b8, g8⟩ : ∃ z, z = h0.size := ⟨_, rfl⟩
  rw [← g8] at A8 D8 st8
  have g_b8 : n0 ≤ b8 := Nat.le_trans Z0 (Nat.le_of_eq g8.symm)
  have sz_b8 : h0.size ≤ b8 := Nat.le_trans (Keep.refl h0 []).1 (Nat.le_of_eq g8.symm)
  have F8_mode : Fld Z h8 b8 "com/example/frameloom/frameloom/Constraint" "mode" "Lcom/example/frameloom/frameloom/Constraint$Mode;" .null := D8 (Or.inr (hw _ (List.mem_of_getElem? (i := 37) rfl))) (ty := (.object "com/example/frameloom/frameloom/Constraint$Mode")) (by decide)
  have F8_size : Fld Z h8 b8 "com/example/frameloom/frameloom/Constraint" "size" "I" (.int (0 : Int32)) := D8 (Or.inr (hw _ (List.mem_of_getElem? (i := 39) rfl))) (ty := .int) (by decide)
  have k8 : ∀ t, Steps p.tables e below (T8.setTop (mkF m 55 #[.val (.int p1), .val (.int p2), .val (.int p3), .val (.int p4), .val (.int p5), .val (.int k1_), .val (.int k2_), .val (.int av), .val (.int bv), .unset, .unset, .unset, .unset] [(.ref b8)])) t → Steps p.tables e below (s₁.setTop (entryFrame m #[(.int p1), (.int p2), (.int p3), (.int p4), (.int p5)] maxLocals)) t := fun t k => k7 t (st8 _ k)
  have Z9 : n0 ≤ h8.size := Nat.le_trans Z0 E8.1
  have od10 : Old Z n0 h8 := (XO.ext E8)
  have k11 : ∀ t, Steps p.tables e below (T8.setTop (mkF m 58 #[.val (.int p1), .val (.int p2), .val (.int p3), .val (.int p4), .val (.int p5), .val (.int k1_), .val (.int k2_), .val (.int av), .val (.int bv), .unset, .unset, .unset, .unset] [(.int k1_), (.ref b8), (.ref b8)])) t → Steps p.tables e below (s₁.setTop (entryFrame m #[(.int p1), (.int p2), (.int p3), (.int p4), (.int p5)] maxLocals)) t := by
    intro t k
    refine k8 _ ?_
    show Steps p.tables e below (T8.setTop (mkF m 55 #[.val (.int p1), .val (.int p2), .val (.int p3), .val (.int p4), .val (.int p5), .val (.int k1_), .val (.int k2_), .val (.int av), .val (.int bv), .unset, .unset, .unset, .unset] [(.ref b8)])) _
    refine XS.dup X8.here hx rfl (hb hby at_55) rfl rfl ?_
    show Steps p.tables e below (T8.setTop (mkF m 56 #[.val (.int p1), .val (.int p2), .val (.int p3), .val (.int p4), .val (.int p5), .val (.int k1_), .val (.int k2_), .val (.int av), .val (.int bv), .unset, .unset, .unset, .unset] [(.ref b8), (.ref b8)])) _
    refine XS.iload X8.here hx rfl (hb hby at_56) rfl ?_
    show Steps p.tables e below (T8.setTop (mkF m 58 #[.val (.int p1), .val (.int p2), .val (.int p3), .val (.int p4), .val (.int p5), .val (.int k1_), .val (.int k2_), .val (.int av), .val (.int bv), .unset, .unset, .unset, .unset] [(.int k1_), (.ref b8), (.ref b8)])) _
    exact k
  obtain ⟨_, _, ⟨T12, L12, ck12, nk12⟩, -, X12, ⟨Lc12, hQ12, l12, y12, z12⟩, st12⟩ := Jvm.LawKit.callS X8 hx (y := (⟨"com/example/frameloom/frameloom/ConstraintEqualsPinLaw", "mode", "(I)Lcom/example/frameloom/frameloom/Constraint$Mode;"⟩ : MethodName)) hown (mvT hZ (hw _ (List.mem_of_getElem? (i := 5) rfl))) (mvT hZ (hw _ (List.mem_of_getElem? (i := 6) rfl))) (mvT hZ (hw _ (List.mem_of_getElem? (i := 7) rfl))) (mvT hZ (hw _ (List.mem_of_getElem? (i := 8) rfl))) (by decide) (backOf (W := 2) (rmMode l Z a0 hw [] k1_ aE aA aU h8 n0 Z9 S_EXACT S_AT_MOST S_UNBOUNDED od10) hZ (hw _ (List.mem_of_getElem? (i := 8) rfl)) (hw _ (List.mem_of_getElem? (i := 7) rfl)) (by decide) (by decide)) (g := (mkF m 58 #[.val (.int p1), .val (.int p2), .val (.int p3), .val (.int p4), .val (.int p5), .val (.int k1_), .val (.int k2_), .val (.int av), .val (.int bv), .unset, .unset, .unset, .unset] [(.int k1_), (.ref b8), (.ref b8)])) rfl (by rw [hml]; rfl) (argsL := [(.int k1_)]) (rest := [(.ref b8), (.ref b8)]) (lenOf pd_3 rfl) rfl (by show 2 * 0 + _ ≤ _; exact Nat.le_of_eq rfl) (hb hby at_58) (fun _ _ => ⟨rfl, e8, (by decide : 1 + 0 ≤ _), (by decide : 2 + 0 ≤ _)⟩)
  dsimp only [Pt.U, Pt.locs, Pt.cells, Pt.slots] at X12 l12 y12 z12 st12 hQ12
  subst l12 y12 z12
  obtain ⟨rfl, N12q, e12⟩ := hQ12
  have N12 := Fr.app N0 N12q
  have k12 : ∀ t, Steps p.tables e below (T12.setTop (mkF m 61 #[.val (.int p1), .val (.int p2), .val (.int p3), .val (.int p4), .val (.int p5), .val (.int k1_), .val (.int k2_), .val (.int av), .val (.int bv), .unset, .unset, .unset, .unset] [(.ref (own_mode k1_ aE aA aU)), (.ref b8), (.ref b8)])) t → Steps p.tables e below (s₁.setTop (entryFrame m #[(.int p1), (.int p2), (.int p3), (.int p4), (.int p5)] maxLocals)) t := fun t k => k11 t (st12 _ k)
  obtain ⟨mx, eq_mx⟩ : ∃ z : Addr, z = (own_mode k1_ aE aA aU) := ⟨_, rfl⟩
  rw [← eq_mx] at k12
  have k13 : ∀ t, Steps p.tables e below (T12.setTop (mkF m 63 #[.val (.int p1), .val (.int p2), .val (.int p3), .val (.int p4), .val (.int p5), .val (.int k1_), .val (.int k2_), .val (.int av), .val (.int bv), .unset, .unset, .unset, .unset] [(.int av), (.ref mx), (.ref b8), (.ref b8)])) t → Steps p.tables e below (s₁.setTop (entryFrame m #[(.int p1), (.int p2), (.int p3), (.int p4), (.int p5)] maxLocals)) t := by
    intro t k
    refine k12 _ ?_
    show Steps p.tables e below (T12.setTop (mkF m 61 #[.val (.int p1), .val (.int p2), .val (.int p3), .val (.int p4), .val (.int p5), .val (.int k1_), .val (.int k2_), .val (.int av), .val (.int bv), .unset, .unset, .unset, .unset] [(.ref mx), (.ref b8), (.ref b8)])) _
    refine XS.iload X12.here hx rfl (hb hby at_61) rfl ?_
    show Steps p.tables e below (T12.setTop (mkF m 63 #[.val (.int p1), .val (.int p2), .val (.int p3), .val (.int p4), .val (.int p5), .val (.int k1_), .val (.int k2_), .val (.int av), .val (.int bv), .unset, .unset, .unset, .unset] [(.int av), (.ref mx), (.ref b8), (.ref b8)])) _
    exact k
  obtain ⟨_, _, ⟨T14, L14, ck14, nk14⟩, -, X14, hS14, gr14, ⟨Lc14, hQ14, l14, y14, z14⟩, st14⟩ := Stand.specialBackS (s := s.setVm s.vm) X12 hx (y := (⟨"com/example/frameloom/frameloom/Constraint", "<init>", "(Lcom/example/frameloom/frameloom/Constraint$Mode;I)V"⟩ : MethodName)) rfl hown (mvT hZ (hw _ (List.mem_of_getElem? (i := 12) rfl))) (mvT hZ (hw _ (List.mem_of_getElem? (i := 13) rfl))) (mvT hZ (hw _ (List.mem_of_getElem? (i := 14) rfl))) (by decide) (backOfS (W := 1) (rmCon l Z a0 hw [] b8 mx av h8 n0 Z9 A8 g_b8 F8_mode F8_size hav.1 hav.2) hZ (hw _ (List.mem_of_getElem? (i := 14) rfl)) (hw _ (List.mem_of_getElem? (i := 4) rfl)) (by decide) (by decide)) (g := (mkF m 63 #[.val (.int p1), .val (.int p2), .val (.int p3), .val (.int p4), .val (.int p5), .val (.int k1_), .val (.int k2_), .val (.int av), .val (.int bv), .unset, .unset, .unset, .unset] [(.int av), (.ref mx), (.ref b8), (.ref b8)])) rfl (by rw [hml]; rfl) (Steps.refl _) (a := b8) (argsL := [(.ref mx), (.int av)]) (rest := [(.ref b8)]) (lenOf pd_4 rfl) rfl (by show 2 * 0 + _ ≤ _; exact Nat.le_of_eq rfl) (hb hby at_63) (fun _ _ => ⟨rfl, e12, (by decide : 1 + 2 ≤ _), (by decide : 2 + 20 ≤ _)⟩)
  dsimp only [Pt.U, Pt.locs, Pt.cells, Pt.slots] at X14 l14 y14 z14 st14 hQ14 hS14 gr14
  subst l14 y14 z14
  obtain ⟨rfl, N14q, K14, G14, H14⟩ := hQ14
  have N14 := Fr.app N12 N14q
  obtain ⟨X14, hSn14, hZ, hown⟩ := rebS (s := s) (vm0 := s.vm) (vm1 := T14.vm) ((State.WarmedH.refl s).since 0) (by rw [e12]; exact (Nat.zero_le _)) X14 hS14 gr14 hZ hown
  have k14 : ∀ t, Steps p.tables e below (T14.setTop (mkF m 66 #[.val (.int p1), .val (.int p2), .val (.int p3), .val (.int p4), .val (.int p5), .val (.int k1_), .val (.int k2_), .val (.int av), .val (.int bv), .unset, .unset, .unset, .unset] [(.ref b8)])) t → Steps p.tables e below (s₁.setTop (entryFrame m #[(.int p1), (.int p2), (.int p3), (.int p4), (.int p5)] maxLocals)) t := fun t k => k13 t (st14.trans k)
  have Z15 : n0 ≤ T14.heap.size := Nat.le_trans Z9 K14.1
  have k16 : ∀ t, Steps p.tables e below (T14.setTop (mkF m 68 #[.val (.int p1), .val (.int p2), .val (.int p3), .val (.int p4), .val (.int p5), .val (.int k1_), .val (.int k2_), .val (.int av), .val (.int bv), .val (.ref b8), .unset, .unset, .unset] [])) t → Steps p.tables e below (s₁.setTop (entryFrame m #[(.int p1), (.int p2), (.int p3), (.int p4), (.int p5)] maxLocals)) t := by
    intro t k
    refine k14 _ ?_
    show Steps p.tables e below (T14.setTop (mkF m 66 #[.val (.int p1), .val (.int p2), .val (.int p3), .val (.int p4), .val (.int p5), .val (.int k1_), .val (.int k2_), .val (.int av), .val (.int bv), .unset, .unset, .unset, .unset] [(.ref b8)])) _
    refine XS.astore X14.here hx rfl (hb hby at_66) rfl rfl (l' := #[.val (.int p1), .val (.int p2), .val (.int p3), .val (.int p4), .val (.int p5), .val (.int k1_), .val (.int k2_), .val (.int av), .val (.int bv), .val (.ref b8), .unset, .unset, .unset]) rfl ?_
    show Steps p.tables e below (T14.setTop (mkF m 68 #[.val (.int p1), .val (.int p2), .val (.int p3), .val (.int p4), .val (.int p5), .val (.int k1_), .val (.int k2_), .val (.int av), .val (.int bv), .val (.ref b8), .unset, .unset, .unset] [])) _
    exact k
  have f18 := (A8.keep K14)
  have kp19 : Keep h0 T14.heap [] := (((Keep.refl h0 []).ext E8).trans K14 (allS (Or.inr sz_b8) all0))
  obtain ⟨T17, h17, X17, e17, E17, A17, D17, -, st17⟩ := newO X14 hx hZ hown (hw _ (List.mem_of_getElem? (i := 2) rfl)) (hw _ (List.mem_of_getElem? (i := 3) rfl)) (hw _ (List.mem_of_getElem? (i := 4) rfl)) rfl (g := (mkF m 68 #[.val (.int p1), .val (.int p2), .val (.int p3), .val (.int p4), .val (.int p5), .val (.int k1_), .val (.int k2_), .val (.int av), .val (.int bv), .val (.ref b8), .unset, .unset, .unset] [])) rfl (hb hby at_68) (by decide) (by decide)
  obtain ⟨b17, g17⟩ : ∃ z, z = T14.heap.size := ⟨_, rfl⟩
  rw [← g17] at A17 D17 st17
  have ne_b8_b17 : b8 ≠ b17 := Nat.ne_of_lt (Nat.lt_of_lt_of_eq f18.lt g17.symm)
  have g_b17 : n0 ≤ b17 := Nat.le_trans Z15 (Nat.le_of_eq g17.symm)
  have sz_b17 : h0.size ≤ b17 := Nat.le_trans kp19.1 (Nat.le_of_eq g17.symm)
  have F17_mode : Fld Z h17 b17 "com/example/frameloom/frameloom/Constraint" "mode" "Lcom/example/frameloom/frameloom/Constraint$Mode;" .null := D17 (Or.inr (hw _ (List.mem_of_getElem? (i := 37) rfl))) (ty := (.object "com/example/frameloom/frameloom/Constraint$Mode")) (by decide)
  have F17_size : Fld Z h17 b17 "com/example/frameloom/frameloom/Constraint" "size" "I" (.int (0 : Int32)) := D17 (Or.inr (hw _ (List.mem_of_getElem? (i := 39) rfl))) (ty := .int) (by decide)
  have k17 : ∀ t, Steps p.tables e below (T17.setTop (mkF m 71 #[.val (.int p1), .val (.int p2), .val (.int p3), .val (.int p4), .val (.int p5), .val (.int k1_), .val (.int k2_), .val (.int av), .val (.int bv), .val (.ref b8), .unset, .unset, .unset] [(.ref b17)])) t → Steps p.tables e below (s₁.setTop (entryFrame m #[(.int p1), (.int p2), (.int p3), (.int p4), (.int p5)] maxLocals)) t := fun t k => k16 t (st17 _ k)
  have Z20 : n0 ≤ h17.size := Nat.le_trans Z15 E17.1
  have zk20 : T14.heap.size ≤ h17.size := Nat.le_trans (Nat.le_refl _) E17.1
  have od21 : Old Z n0 h17 := ((od10.keep K14 (allS g_b8 all0)).ext E17)
  have k22 : ∀ t, Steps p.tables e below (T17.setTop (mkF m 74 #[.val (.int p1), .val (.int p2), .val (.int p3), .val (.int p4), .val (.int p5), .val (.int k1_), .val (.int k2_), .val (.int av), .val (.int bv), .val (.ref b8), .unset, .unset, .unset] [(.int k2_), (.ref b17), (.ref b17)])) t → Steps p.tables e below (s₁.setTop (entryFrame m #[(.int p1), (.int p2), (.int p3), (.int p4), (.int p5)] maxLocals)) t := by
    intro t k
    refine k17 _ ?_
    show Steps p.tables e below (T17.setTop (mkF m 71 #[.val (.int p1), .val (.int p2), .val (.int p3), .val (.int p4), .val (.int p5), .val (.int k1_), .val (.int k2_), .val (.int av), .val (.int bv), .val (.ref b8), .unset, .unset, .unset] [(.ref b17)])) _
    refine XS.dup X17.here hx rfl (hb hby at_71) rfl rfl ?_
    show Steps p.tables e below (T17.setTop (mkF m 72 #[.val (.int p1), .val (.int p2), .val (.int p3), .val (.int p4), .val (.int p5), .val (.int k1_), .val (.int k2_), .val (.int av), .val (.int bv), .val (.ref b8), .unset, .unset, .unset] [(.ref b17), (.ref b17)])) _
    refine XS.iload X17.here hx rfl (hb hby at_72) rfl ?_
    show Steps p.tables e below (T17.setTop (mkF m 74 #[.val (.int p1), .val (.int p2), .val (.int p3), .val (.int p4), .val (.int p5), .val (.int k1_), .val (.int k2_), .val (.int av), .val (.int bv), .val (.ref b8), .unset, .unset, .unset] [(.int k2_), (.ref b17), (.ref b17)])) _
    exact k
  obtain ⟨_, _, ⟨T23, L23, ck23, nk23⟩, -, X23, ⟨Lc23, hQ23, l23, y23, z23⟩, st23⟩ := Jvm.LawKit.callS X17 hx (y := (⟨"com/example/frameloom/frameloom/ConstraintEqualsPinLaw", "mode", "(I)Lcom/example/frameloom/frameloom/Constraint$Mode;"⟩ : MethodName)) hown (mvT hZ (hw _ (List.mem_of_getElem? (i := 5) rfl))) (mvT hZ (hw _ (List.mem_of_getElem? (i := 6) rfl))) (mvT hZ (hw _ (List.mem_of_getElem? (i := 7) rfl))) (mvT hZ (hw _ (List.mem_of_getElem? (i := 8) rfl))) (by decide) (backOf (W := 2) (rmMode l Z a0 hw [] k2_ aE aA aU h17 n0 Z20 S_EXACT S_AT_MOST S_UNBOUNDED od21) hZ (hw _ (List.mem_of_getElem? (i := 8) rfl)) (hw _ (List.mem_of_getElem? (i := 7) rfl)) (by decide) (by decide)) (g := (mkF m 74 #[.val (.int p1), .val (.int p2), .val (.int p3), .val (.int p4), .val (.int p5), .val (.int k1_), .val (.int k2_), .val (.int av), .val (.int bv), .val (.ref b8), .unset, .unset, .unset] [(.int k2_), (.ref b17), (.ref b17)])) rfl (by rw [hml]; rfl) (argsL := [(.int k2_)]) (rest := [(.ref b17), (.ref b17)]) (lenOf pd_3 rfl) rfl (by show 2 * 0 + _ ≤ _; exact Nat.le_of_eq rfl) (hb hby at_74) (fun _ _ => ⟨rfl, e17, (by decide : 4 + 0 ≤ _), (by decide : 24 + 0 ≤ _)⟩)
  dsimp only [Pt.U, Pt.locs, Pt.cells, Pt.slots] at X23 l23 y23 z23 st23 hQ23
  subst l23 y23 z23
  obtain ⟨rfl, N23q, e23⟩ := hQ23
  have N23 := Fr.app N14 N23q
  have k23 : ∀ t, Steps p.tables e below (T23.setTop (mkF m 77 #[.val (.int p1), .val (.int p2), .val (.int p3), .val (.int p4), .val (.int p5), .val (.int k1_), .val (.int k2_), .val (.int av), .val (.int bv), .val (.ref b8), .unset, .unset, .unset] [(.ref (own_mode k2_ aE aA aU)), (.ref b17), (.ref b17)])) t → Steps p.tables e below (s₁.setTop (entryFrame m #[(.int p1), (.int p2), (.int p3), (.int p4), (.int p5)] maxLocals)) t := fun t k => k22 t (st23 _ k)
  obtain ⟨my, eq_my⟩ : ∃ z : Addr, z = (own_mode k2_ aE aA aU) := ⟨_, rfl⟩
  rw [← eq_my] at k23
  have k24 : ∀ t, Steps p.tables e below (T23.setTop (mkF m 79 #[.val (.int p1), .val (.int p2), .val (.int p3), .val (.int p4), .val (.int p5), .val (.int k1_), .val (.int k2_), .val (.int av), .val (.int bv), .val (.ref b8), .unset, .unset, .unset] [(.int bv), (.ref my), (.ref b17), (.ref b17)])) t → Steps p.tables e below (s₁.setTop (entryFrame m #[(.int p1), (.int p2), (.int p3), (.int p4), (.int p5)] maxLocals)) t := by
    intro t k
    refine k23 _ ?_
    show Steps p.tables e below (T23.setTop (mkF m 77 #[.val (.int p1), .val (.int p2), .val (.int p3), .val (.int p4), .val (.int p5), .val (.int k1_), .val (.int k2_), .val (.int av), .val (.int bv), .val (.ref b8), .unset, .unset, .unset] [(.ref my), (.ref b17), (.ref b17)])) _
    refine XS.iload X23.here hx rfl (hb hby at_77) rfl ?_
    show Steps p.tables e below (T23.setTop (mkF m 79 #[.val (.int p1), .val (.int p2), .val (.int p3), .val (.int p4), .val (.int p5), .val (.int k1_), .val (.int k2_), .val (.int av), .val (.int bv), .val (.ref b8), .unset, .unset, .unset] [(.int bv), (.ref my), (.ref b17), (.ref b17)])) _
    exact k
  obtain ⟨_, _, ⟨T25, L25, ck25, nk25⟩, -, X25, hS25, gr25, ⟨Lc25, hQ25, l25, y25, z25⟩, st25⟩ := Stand.specialBackS (s := s.setVm T14.vm) X23 hx (y := (⟨"com/example/frameloom/frameloom/Constraint", "<init>", "(Lcom/example/frameloom/frameloom/Constraint$Mode;I)V"⟩ : MethodName)) rfl hown (mvT hZ (hw _ (List.mem_of_getElem? (i := 12) rfl))) (mvT hZ (hw _ (List.mem_of_getElem? (i := 13) rfl))) (mvT hZ (hw _ (List.mem_of_getElem? (i := 14) rfl))) (by decide) (backOfS (W := 1) (rmCon l Z a0 hw [] b17 my bv h17 n0 Z20 A17 g_b17 F17_mode F17_size hbv.1 hbv.2) hZ (hw _ (List.mem_of_getElem? (i := 14) rfl)) (hw _ (List.mem_of_getElem? (i := 4) rfl)) (by decide) (by decide)) (g := (mkF m 79 #[.val (.int p1), .val (.int p2), .val (.int p3), .val (.int p4), .val (.int p5), .val (.int k1_), .val (.int k2_), .val (.int av), .val (.int bv), .val (.ref b8), .unset, .unset, .unset] [(.int bv), (.ref my), (.ref b17), (.ref b17)])) rfl (by rw [hml]; rfl) (Steps.refl _) (a := b17) (argsL := [(.ref my), (.int bv)]) (rest := [(.ref b17)]) (lenOf pd_4 rfl) rfl (by show 2 * 0 + _ ≤ _; exact Nat.le_of_eq rfl) (hb hby at_79) (fun _ _ => ⟨rfl, e23, (by decide : 4 + 2 ≤ _), (by decide : 24 + 20 ≤ _)⟩)
  dsimp only [Pt.U, Pt.locs, Pt.cells, Pt.slots] at X25 l25 y25 z25 st25 hQ25 hS25 gr25
  subst l25 y25 z25
  obtain ⟨rfl, N25q, K25, G25, H25⟩ := hQ25
  have N25 := Fr.app N23 N25q
  obtain ⟨X25, hSn25, hZ, hown⟩ := rebS (s := s) (vm0 := T14.vm) (vm1 := T25.vm) hSn14 (by rw [e23]; exact zk20) X25 hS25 gr25 hZ hown
  have k25 : ∀ t, Steps p.tables e below (T25.setTop (mkF m 82 #[.val (.int p1), .val (.int p2), .val (.int p3), .val (.int p4), .val (.int p5), .val (.int k1_), .val (.int k2_), .val (.int av), .val (.int bv), .val (.ref b8), .unset, .unset, .unset] [(.ref b17)])) t → Steps p.tables e below (s₁.setTop (entryFrame m #[(.int p1), (.int p2), (.int p3), (.int p4), (.int p5)] maxLocals)) t := fun t k => k24 t (st25.trans k)
  have Z26 : n0 ≤ T25.heap.size := Nat.le_trans Z20 K25.1
  have k27 : ∀ t, Steps p.tables e below (T25.setTop (mkF m 94 #[.val (.int p1), .val (.int p2), .val (.int p3), .val (.int p4), .val (.int p5), .val (.int k1_), .val (.int k2_), .val (.int av), .val (.int bv), .val (.ref b8), .val (.ref b17), .val (.int (((p5.toUInt32 >>> ((2 : Int32) &&& 31).toUInt32).toInt32) &&& (3 : Int32))), .unset] [(.int (((p5.toUInt32 >>> ((2 : Int32) &&& 31).toUInt32).toInt32) &&& (3 : Int32)))])) t → Steps p.tables e below (s₁.setTop (entryFrame m #[(.int p1), (.int p2), (.int p3), (.int p4), (.int p5)] maxLocals)) t := by
    intro t k
    refine k25 _ ?_
    show Steps p.tables e below (T25.setTop (mkF m 82 #[.val (.int p1), .val (.int p2), .val (.int p3), .val (.int p4), .val (.int p5), .val (.int k1_), .val (.int k2_), .val (.int av), .val (.int bv), .val (.ref b8), .unset, .unset, .unset] [(.ref b17)])) _
    refine XS.astore X25.here hx rfl (hb hby at_82) rfl rfl (l' := #[.val (.int p1), .val (.int p2), .val (.int p3), .val (.int p4), .val (.int p5), .val (.int k1_), .val (.int k2_), .val (.int av), .val (.int bv), .val (.ref b8), .val (.ref b17), .unset, .unset]) rfl ?_
    show Steps p.tables e below (T25.setTop (mkF m 84 #[.val (.int p1), .val (.int p2), .val (.int p3), .val (.int p4), .val (.int p5), .val (.int k1_), .val (.int k2_), .val (.int av), .val (.int bv), .val (.ref b8), .val (.ref b17), .unset, .unset] [])) _
    refine XS.iload X25.here hx rfl (hb hby at_84) rfl ?_
    show Steps p.tables e below (T25.setTop (mkF m 86 #[.val (.int p1), .val (.int p2), .val (.int p3), .val (.int p4), .val (.int p5), .val (.int k1_), .val (.int k2_), .val (.int av), .val (.int bv), .val (.ref b8), .val (.ref b17), .unset, .unset] [(.int p5)])) _
    refine XS.iconst X25.here hx rfl (hb hby at_86) ?_
    show Steps p.tables e below (T25.setTop (mkF m 87 #[.val (.int p1), .val (.int p2), .val (.int p3), .val (.int p4), .val (.int p5), .val (.int k1_), .val (.int k2_), .val (.int av), .val (.int bv), .val (.ref b8), .val (.ref b17), .unset, .unset] [(.int (2 : Int32)), (.int p5)])) _
    refine XS.iushr X25.here hx rfl (hb hby at_87) rfl ?_
    show Steps p.tables e below (T25.setTop (mkF m 88 #[.val (.int p1), .val (.int p2), .val (.int p3), .val (.int p4), .val (.int p5), .val (.int k1_), .val (.int k2_), .val (.int av), .val (.int bv), .val (.ref b8), .val (.ref b17), .unset, .unset] [(.int ((p5.toUInt32 >>> ((2 : Int32) &&& 31).toUInt32).toInt32))])) _
    refine XS.iconst X25.here hx rfl (hb hby at_88) ?_
    show Steps p.tables e below (T25.setTop (mkF m 89 #[.val (.int p1), .val (.int p2), .val (.int p3), .val (.int p4), .val (.int p5), .val (.int k1_), .val (.int k2_), .val (.int av), .val (.int bv), .val (.ref b8), .val (.ref b17), .unset, .unset] [(.int (3 : Int32)), (.int ((p5.toUInt32 >>> ((2 : Int32) &&& 31).toUInt32).toInt32))])) _
    refine XS.iand X25.here hx rfl (hb hby at_89) rfl ?_
    show Steps p.tables e below (T25.setTop (mkF m 90 #[.val (.int p1), .val (.int p2), .val (.int p3), .val (.int p4), .val (.int p5), .val (.int k1_), .val (.int k2_), .val (.int av), .val (.int bv), .val (.ref b8), .val (.ref b17), .unset, .unset] [(.int (((p5.toUInt32 >>> ((2 : Int32) &&& 31).toUInt32).toInt32) &&& (3 : Int32)))])) _
    refine XS.istore X25.here hx rfl (hb hby at_90) rfl (l' := #[.val (.int p1), .val (.int p2), .val (.int p3), .val (.int p4), .val (.int p5), .val (.int k1_), .val (.int k2_), .val (.int av), .val (.int bv), .val (.ref b8), .val (.ref b17), .val (.int (((p5.toUInt32 >>> ((2 : Int32) &&& 31).toUInt32).toInt32) &&& (3 : Int32))), .unset]) rfl ?_
    show Steps p.tables e below (T25.setTop (mkF m 92 #[.val (.int p1), .val (.int p2), .val (.int p3), .val (.int p4), .val (.int p5), .val (.int k1_), .val (.int k2_), .val (.int av), .val (.int bv), .val (.ref b8), .val (.ref b17), .val (.int (((p5.toUInt32 >>> ((2 : Int32) &&& 31).toUInt32).toInt32) &&& (3 : Int32))), .unset] [])) _
    refine XS.iload X25.here hx rfl (hb hby at_92) rfl ?_
    show Steps p.tables e below (T25.setTop (mkF m 94 #[.val (.int p1), .val (.int p2), .val (.int p3), .val (.int p4), .val (.int p5), .val (.int k1_), .val (.int k2_), .val (.int av), .val (.int bv), .val (.ref b8), .val (.ref b17), .val (.int (((p5.toUInt32 >>> ((2 : Int32) &&& 31).toUInt32).toInt32) &&& (3 : Int32))), .unset] [(.int (((p5.toUInt32 >>> ((2 : Int32) &&& 31).toUInt32).toInt32) &&& (3 : Int32)))])) _
    exact k
  by_cases hk0 : (((p5.toUInt32 >>> ((2 : Int32) &&& 31).toUInt32).toInt32) &&& (3 : Int32)) = (0 : Int32)
  · obtain ⟨xp, eq_xp⟩ : ∃ z : Int32, z = (if k1_ = k2_ then (if av = bv then (1 : Int32) else (0 : Int32)) else (0 : Int32)) := ⟨_, rfl⟩
    have k30 : ∀ t, Steps p.tables e below (T25.setTop (mkF m 116 #[.val (.int p1), .val (.int p2), .val (.int p3), .val (.int p4), .val (.int p5), .val (.int k1_), .val (.int k2_), .val (.int av), .val (.int bv), .val (.ref b8), .val (.ref b17), .val (.int (((p5.toUInt32 >>> ((2 : Int32) &&& 31).toUInt32).toInt32) &&& (3 : Int32))), .unset] [(.int xp)])) t → Steps p.tables e below (s₁.setTop (entryFrame m #[(.int p1), (.int p2), (.int p3), (.int p4), (.int p5)] maxLocals)) t := by
      intro t k
      refine k27 _ ?_
      show Steps p.tables e below (T25.setTop (mkF m 94 #[.val (.int p1), .val (.int p2), .val (.int p3), .val (.int p4), .val (.int p5), .val (.int k1_), .val (.int k2_), .val (.int av), .val (.int bv), .val (.ref b8), .val (.ref b17), .val (.int (((p5.toUInt32 >>> ((2 : Int32) &&& 31).toUInt32).toInt32) &&& (3 : Int32))), .unset] [(.int (((p5.toUInt32 >>> ((2 : Int32) &&& 31).toUInt32).toInt32) &&& (3 : Int32)))])) _
      refine XS.ifNo X25.here hx rfl (hb hby at_94) rfl ((if0 _ _).trans (teq hk0).2) ?_
      show Steps p.tables e below (T25.setTop (mkF m 97 #[.val (.int p1), .val (.int p2), .val (.int p3), .val (.int p4), .val (.int p5), .val (.int k1_), .val (.int k2_), .val (.int av), .val (.int bv), .val (.ref b8), .val (.ref b17), .val (.int (((p5.toUInt32 >>> ((2 : Int32) &&& 31).toUInt32).toInt32) &&& (3 : Int32))), .unset] [])) _
      refine XS.iload X25.here hx rfl (hb hby at_97) rfl ?_
      show Steps p.tables e below (T25.setTop (mkF m 99 #[.val (.int p1), .val (.int p2), .val (.int p3), .val (.int p4), .val (.int p5), .val (.int k1_), .val (.int k2_), .val (.int av), .val (.int bv), .val (.ref b8), .val (.ref b17), .val (.int (((p5.toUInt32 >>> ((2 : Int32) &&& 31).toUInt32).toInt32) &&& (3 : Int32))), .unset] [(.int k1_)])) _
      refine XS.iload X25.here hx rfl (hb hby at_99) rfl ?_
      show Steps p.tables e below (T25.setTop (mkF m 101 #[.val (.int p1), .val (.int p2), .val (.int p3), .val (.int p4), .val (.int p5), .val (.int k1_), .val (.int k2_), .val (.int av), .val (.int bv), .val (.ref b8), .val (.ref b17), .val (.int (((p5.toUInt32 >>> ((2 : Int32) &&& 31).toUInt32).toInt32) &&& (3 : Int32))), .unset] [(.int k2_), (.int k1_)])) _
      by_cases hc28_101 : k1_ = k2_
      · show Steps p.tables e below (T25.setTop (mkF m 101 #[.val (.int p1), .val (.int p2), .val (.int p3), .val (.int p4), .val (.int p5), .val (.int k1_), .val (.int k2_), .val (.int av), .val (.int bv), .val (.ref b8), .val (.ref b17), .val (.int (((p5.toUInt32 >>> ((2 : Int32) &&& 31).toUInt32).toInt32) &&& (3 : Int32))), .unset] [(.int k2_), (.int k1_)])) _
        refine XS.icmpNo X25.here hx rfl (hb hby at_101) rfl (teq hc28_101).2 ?_
        show Steps p.tables e below (T25.setTop (mkF m 104 #[.val (.int p1), .val (.int p2), .val (.int p3), .val (.int p4), .val (.int p5), .val (.int k1_), .val (.int k2_), .val (.int av), .val (.int bv), .val (.ref b8), .val (.ref b17), .val (.int (((p5.toUInt32 >>> ((2 : Int32) &&& 31).toUInt32).toInt32) &&& (3 : Int32))), .unset] [])) _
        refine XS.iload X25.here hx rfl (hb hby at_104) rfl ?_
        show Steps p.tables e below (T25.setTop (mkF m 106 #[.val (.int p1), .val (.int p2), .val (.int p3), .val (.int p4), .val (.int p5), .val (.int k1_), .val (.int k2_), .val (.int av), .val (.int bv), .val (.ref b8), .val (.ref b17), .val (.int (((p5.toUInt32 >>> ((2 : Int32) &&& 31).toUInt32).toInt32) &&& (3 : Int32))), .unset] [(.int av)])) _
        refine XS.iload X25.here hx rfl (hb hby at_106) rfl ?_
        show Steps p.tables e below (T25.setTop (mkF m 108 #[.val (.int p1), .val (.int p2), .val (.int p3), .val (.int p4), .val (.int p5), .val (.int k1_), .val (.int k2_), .val (.int av), .val (.int bv), .val (.ref b8), .val (.ref b17), .val (.int (((p5.toUInt32 >>> ((2 : Int32) &&& 31).toUInt32).toInt32) &&& (3 : Int32))), .unset] [(.int bv), (.int av)])) _
        by_cases hc29_108 : av = bv
        · rw [show xp = (1 : Int32) by rw [eq_xp, if_pos hc28_101, if_pos hc29_108]] at k
          show Steps p.tables e below (T25.setTop (mkF m 108 #[.val (.int p1), .val (.int p2), .val (.int p3), .val (.int p4), .val (.int p5), .val (.int k1_), .val (.int k2_), .val (.int av), .val (.int bv), .val (.ref b8), .val (.ref b17), .val (.int (((p5.toUInt32 >>> ((2 : Int32) &&& 31).toUInt32).toInt32) &&& (3 : Int32))), .unset] [(.int bv), (.int av)])) _
          refine XS.icmpNo X25.here hx rfl (hb hby at_108) rfl (teq hc29_108).2 ?_
          show Steps p.tables e below (T25.setTop (mkF m 111 #[.val (.int p1), .val (.int p2), .val (.int p3), .val (.int p4), .val (.int p5), .val (.int k1_), .val (.int k2_), .val (.int av), .val (.int bv), .val (.ref b8), .val (.ref b17), .val (.int (((p5.toUInt32 >>> ((2 : Int32) &&& 31).toUInt32).toInt32) &&& (3 : Int32))), .unset] [])) _
          refine XS.iconst X25.here hx rfl (hb hby at_111) ?_
          show Steps p.tables e below (T25.setTop (mkF m 112 #[.val (.int p1), .val (.int p2), .val (.int p3), .val (.int p4), .val (.int p5), .val (.int k1_), .val (.int k2_), .val (.int av), .val (.int bv), .val (.ref b8), .val (.ref b17), .val (.int (((p5.toUInt32 >>> ((2 : Int32) &&& 31).toUInt32).toInt32) &&& (3 : Int32))), .unset] [(.int (1 : Int32))])) _
          refine XS.goto X25.here hx rfl (pc0 := 112) (pc' := 116) rfl (hb hby at_112) (by decide) (by decide) ?_
          show Steps p.tables e below (T25.setTop (mkF m 116 #[.val (.int p1), .val (.int p2), .val (.int p3), .val (.int p4), .val (.int p5), .val (.int k1_), .val (.int k2_), .val (.int av), .val (.int bv), .val (.ref b8), .val (.ref b17), .val (.int (((p5.toUInt32 >>> ((2 : Int32) &&& 31).toUInt32).toInt32) &&& (3 : Int32))), .unset] [(.int (1 : Int32))])) _
          exact k
        · rw [show xp = (0 : Int32) by rw [eq_xp, if_pos hc28_101, if_neg hc29_108]] at k
          show Steps p.tables e below (T25.setTop (mkF m 108 #[.val (.int p1), .val (.int p2), .val (.int p3), .val (.int p4), .val (.int p5), .val (.int k1_), .val (.int k2_), .val (.int av), .val (.int bv), .val (.ref b8), .val (.ref b17), .val (.int (((p5.toUInt32 >>> ((2 : Int32) &&& 31).toUInt32).toInt32) &&& (3 : Int32))), .unset] [(.int bv), (.int av)])) _
          refine XS.icmpYes X25.here hx rfl (pc0 := 108) (pc' := 115) rfl (hb hby at_108) rfl (feq hc29_108).2 (by decide) (by decide) ?_
          show Steps p.tables e below (T25.setTop (mkF m 115 #[.val (.int p1), .val (.int p2), .val (.int p3), .val (.int p4), .val (.int p5), .val (.int k1_), .val (.int k2_), .val (.int av), .val (.int bv), .val (.ref b8), .val (.ref b17), .val (.int (((p5.toUInt32 >>> ((2 : Int32) &&& 31).toUInt32).toInt32) &&& (3 : Int32))), .unset] [])) _
          refine XS.iconst X25.here hx rfl (hb hby at_115) ?_
          show Steps p.tables e below (T25.setTop (mkF m 116 #[.val (.int p1), .val (.int p2), .val (.int p3), .val (.int p4), .val (.int p5), .val (.int k1_), .val (.int k2_), .val (.int av), .val (.int bv), .val (.ref b8), .val (.ref b17), .val (.int (((p5.toUInt32 >>> ((2 : Int32) &&& 31).toUInt32).toInt32) &&& (3 : Int32))), .unset] [(.int (0 : Int32))])) _
          exact k
      · rw [show xp = (0 : Int32) by rw [eq_xp, if_neg hc28_101]] at k
        show Steps p.tables e below (T25.setTop (mkF m 101 #[.val (.int p1), .val (.int p2), .val (.int p3), .val (.int p4), .val (.int p5), .val (.int k1_), .val (.int k2_), .val (.int av), .val (.int bv), .val (.ref b8), .val (.ref b17), .val (.int (((p5.toUInt32 >>> ((2 : Int32) &&& 31).toUInt32).toInt32) &&& (3 : Int32))), .unset] [(.int k2_), (.int k1_)])) _
        refine XS.icmpYes X25.here hx rfl (pc0 := 101) (pc' := 115) rfl (hb hby at_101) rfl (feq hc28_101).2 (by decide) (by decide) ?_
        show Steps p.tables e below (T25.setTop (mkF m 115 #[.val (.int p1), .val (.int p2), .val (.int p3), .val (.int p4), .val (.int p5), .val (.int k1_), .val (.int k2_), .val (.int av), .val (.int bv), .val (.ref b8), .val (.ref b17), .val (.int (((p5.toUInt32 >>> ((2 : Int32) &&& 31).toUInt32).toInt32) &&& (3 : Int32))), .unset] [])) _
        refine XS.iconst X25.here hx rfl (hb hby at_115) ?_
        show Steps p.tables e below (T25.setTop (mkF m 116 #[.val (.int p1), .val (.int p2), .val (.int p3), .val (.int p4), .val (.int p5), .val (.int k1_), .val (.int k2_), .val (.int av), .val (.int bv), .val (.ref b8), .val (.ref b17), .val (.int (((p5.toUInt32 >>> ((2 : Int32) &&& 31).toUInt32).toInt32) &&& (3 : Int32))), .unset] [(.int (0 : Int32))])) _
        exact k
    have f31 := ((f18.ext E17).keep K25)
    have f32 := (A17.keep K25)
    have f33 := ((G14.ext E17).keep K25 (ninS ne_b8_b17 nin0))
    have f34 := ((H14.ext E17).keep K25 (ninS ne_b8_b17 nin0))
    have k35 : ∀ t, Steps p.tables e below (T25.setTop (mkF m 122 #[.val (.int p1), .val (.int p2), .val (.int p3), .val (.int p4), .val (.int p5), .val (.int k1_), .val (.int k2_), .val (.int av), .val (.int bv), .val (.ref b8), .val (.ref b17), .val (.int (((p5.toUInt32 >>> ((2 : Int32) &&& 31).toUInt32).toInt32) &&& (3 : Int32))), .val (.int xp)] [(.ref b17), (.ref b8)])) t → Steps p.tables e below (s₁.setTop (entryFrame m #[(.int p1), (.int p2), (.int p3), (.int p4), (.int p5)] maxLocals)) t := by
      intro t k
      refine k30 _ ?_
      show Steps p.tables e below (T25.setTop (mkF m 116 #[.val (.int p1), .val (.int p2), .val (.int p3), .val (.int p4), .val (.int p5), .val (.int k1_), .val (.int k2_), .val (.int av), .val (.int bv), .val (.ref b8), .val (.ref b17), .val (.int (((p5.toUInt32 >>> ((2 : Int32) &&& 31).toUInt32).toInt32) &&& (3 : Int32))), .unset] [(.int xp)])) _
      refine XS.istore X25.here hx rfl (hb hby at_116) rfl (l' := #[.val (.int p1), .val (.int p2), .val (.int p3), .val (.int p4), .val (.int p5), .val (.int k1_), .val (.int k2_), .val (.int av), .val (.int bv), .val (.ref b8), .val (.ref b17), .val (.int (((p5.toUInt32 >>> ((2 : Int32) &&& 31).toUInt32).toInt32) &&& (3 : Int32))), .val (.int xp)]) rfl ?_
      show Steps p.tables e below (T25.setTop (mkF m 118 #[.val (.int p1), .val (.int p2), .val (.int p3), .val (.int p4), .val (.int p5), .val (.int k1_), .val (.int k2_), .val (.int av), .val (.int bv), .val (.ref b8), .val (.ref b17), .val (.int (((p5.toUInt32 >>> ((2 : Int32) &&& 31).toUInt32).toInt32) &&& (3 : Int32))), .val (.int xp)] [])) _
      refine XS.aload X25.here hx rfl (hb hby at_118) rfl rfl ?_
      show Steps p.tables e below (T25.setTop (mkF m 120 #[.val (.int p1), .val (.int p2), .val (.int p3), .val (.int p4), .val (.int p5), .val (.int k1_), .val (.int k2_), .val (.int av), .val (.int bv), .val (.ref b8), .val (.ref b17), .val (.int (((p5.toUInt32 >>> ((2 : Int32) &&& 31).toUInt32).toInt32) &&& (3 : Int32))), .val (.int xp)] [(.ref b8)])) _
      refine XS.aload X25.here hx rfl (hb hby at_120) rfl rfl ?_
      show Steps p.tables e below (T25.setTop (mkF m 122 #[.val (.int p1), .val (.int p2), .val (.int p3), .val (.int p4), .val (.int p5), .val (.int k1_), .val (.int k2_), .val (.int av), .val (.int bv), .val (.ref b8), .val (.ref b17), .val (.int (((p5.toUInt32 >>> ((2 : Int32) &&& 31).toUInt32).toInt32) &&& (3 : Int32))), .val (.int xp)] [(.ref b17), (.ref b8)])) _
      exact k
    obtain ⟨cq36, kq36, q36a, q36b, q36c⟩ := isOf hZ rfl f31
    obtain ⟨_, _, ⟨T36, L36, ck36, nk36⟩, -, X36, ⟨Lc36, hQ36, l36, y36, z36⟩, st36⟩ := X25.virtualBack hx (y := (⟨"com/example/frameloom/frameloom/Constraint", "equals", "(Ljava/lang/Object;)Z"⟩ : MethodName)) (z := (⟨"com/example/frameloom/frameloom/Constraint", "equals", "(Ljava/lang/Object;)Z"⟩ : MethodName)) hown (mvT hZ (hw _ (List.mem_of_getElem? (i := 42) rfl))) (mvT hZ (hw _ (List.mem_of_getElem? (i := 43) rfl))) (notFace_of_selects (args := #[]) (mvT hZ (hw _ (List.mem_of_getElem? (i := 45) rfl)))) (mvT hZ (hw _ (List.mem_of_getElem? (i := 45) rfl))) (mvT hZ (hw _ (List.mem_of_getElem? (i := 44) rfl))) (by decide) (backOf (W := 0) (rmEqC l Z a0 hw [] b8 b17 mx my av bv T25.heap n0 Z26 f31 f32 f33 f34 G25 H25) hZ (hw _ (List.mem_of_getElem? (i := 46) rfl)) (hw _ (List.mem_of_getElem? (i := 4) rfl)) (by decide) (by decide)) q36a q36c (g := (mkF m 122 #[.val (.int p1), .val (.int p2), .val (.int p3), .val (.int p4), .val (.int p5), .val (.int k1_), .val (.int k2_), .val (.int av), .val (.int bv), .val (.ref b8), .val (.ref b17), .val (.int (((p5.toUInt32 >>> ((2 : Int32) &&& 31).toUInt32).toInt32) &&& (3 : Int32))), .val (.int xp)] [(.ref b17), (.ref b8)])) rfl (by rw [hml]; rfl) (Steps.refl _) (argsL := [(.ref b17)]) (rest := []) (lenOf pd_5 rfl) rfl (by show 2 * 0 + _ ≤ _; exact Nat.le_of_eq rfl) (hb hby at_122) (fun _ _ => ⟨rfl, rfl, (by decide : 6 + 0 ≤ _), (by decide : 44 + 0 ≤ _)⟩)
    dsimp only [Pt.U, Pt.locs, Pt.cells, Pt.slots] at X36 l36 y36 z36 st36 hQ36
    subst l36 y36 z36
    obtain ⟨rfl, N36q, e36⟩ := hQ36
    have N36 := Fr.app N25 N36q
    have k36 : ∀ t, Steps p.tables e below (T36.setTop (mkF m 125 #[.val (.int p1), .val (.int p2), .val (.int p3), .val (.int p4), .val (.int p5), .val (.int k1_), .val (.int k2_), .val (.int av), .val (.int bv), .val (.ref b8), .val (.ref b17), .val (.int (((p5.toUInt32 >>> ((2 : Int32) &&& 31).toUInt32).toInt32) &&& (3 : Int32))), .val (.int xp)] [(.int (own_eq mx my av bv))])) t → Steps p.tables e below (s₁.setTop (entryFrame m #[(.int p1), (.int p2), (.int p3), (.int p4), (.int p5)] maxLocals)) t := fun t k => k35 t (st36.trans k)
    have k37 : ∀ t, Steps p.tables e below (T36.setTop (mkF m 134 #[.val (.int p1), .val (.int p2), .val (.int p3), .val (.int p4), .val (.int p5), .val (.int k1_), .val (.int k2_), .val (.int av), .val (.int bv), .val (.ref b8), .val (.ref b17), .val (.int (((p5.toUInt32 >>> ((2 : Int32) &&& 31).toUInt32).toInt32) &&& (3 : Int32))), .val (.int xp)] [(.ref b8), (.ref b17)])) t → Steps p.tables e below (s₁.setTop (entryFrame m #[(.int p1), (.int p2), (.int p3), (.int p4), (.int p5)] maxLocals)) t := by
      intro t k
      refine k36 _ ?_
      show Steps p.tables e below (T36.setTop (mkF m 125 #[.val (.int p1), .val (.int p2), .val (.int p3), .val (.int p4), .val (.int p5), .val (.int k1_), .val (.int k2_), .val (.int av), .val (.int bv), .val (.ref b8), .val (.ref b17), .val (.int (((p5.toUInt32 >>> ((2 : Int32) &&& 31).toUInt32).toInt32) &&& (3 : Int32))), .val (.int xp)] [(.int (own_eq mx my av bv))])) _
      refine XS.iload X36.here hx rfl (hb hby at_125) rfl ?_
      show Steps p.tables e below (T36.setTop (mkF m 127 #[.val (.int p1), .val (.int p2), .val (.int p3), .val (.int p4), .val (.int p5), .val (.int k1_), .val (.int k2_), .val (.int av), .val (.int bv), .val (.ref b8), .val (.ref b17), .val (.int (((p5.toUInt32 >>> ((2 : Int32) &&& 31).toUInt32).toInt32) &&& (3 : Int32))), .val (.int xp)] [(.int xp), (.int (own_eq mx my av bv))])) _
      refine XS.icmpNo X36.here hx rfl (hb hby at_127) rfl (teq (by rw [eq_xp, eq_mx, eq_my]; exact own_eq_law hk1 hk2 n1 n2 n3)).2 ?_
      show Steps p.tables e below (T36.setTop (mkF m 130 #[.val (.int p1), .val (.int p2), .val (.int p3), .val (.int p4), .val (.int p5), .val (.int k1_), .val (.int k2_), .val (.int av), .val (.int bv), .val (.ref b8), .val (.ref b17), .val (.int (((p5.toUInt32 >>> ((2 : Int32) &&& 31).toUInt32).toInt32) &&& (3 : Int32))), .val (.int xp)] [])) _
      refine XS.aload X36.here hx rfl (hb hby at_130) rfl rfl ?_
      show Steps p.tables e below (T36.setTop (mkF m 132 #[.val (.int p1), .val (.int p2), .val (.int p3), .val (.int p4), .val (.int p5), .val (.int k1_), .val (.int k2_), .val (.int av), .val (.int bv), .val (.ref b8), .val (.ref b17), .val (.int (((p5.toUInt32 >>> ((2 : Int32) &&& 31).toUInt32).toInt32) &&& (3 : Int32))), .val (.int xp)] [(.ref b17)])) _
      refine XS.aload X36.here hx rfl (hb hby at_132) rfl rfl ?_
      show Steps p.tables e below (T36.setTop (mkF m 134 #[.val (.int p1), .val (.int p2), .val (.int p3), .val (.int p4), .val (.int p5), .val (.int k1_), .val (.int k2_), .val (.int av), .val (.int bv), .val (.ref b8), .val (.ref b17), .val (.int (((p5.toUInt32 >>> ((2 : Int32) &&& 31).toUInt32).toInt32) &&& (3 : Int32))), .val (.int xp)] [(.ref b8), (.ref b17)])) _
      exact k
    obtain ⟨cq38, kq38, q38a, q38b, q38c⟩ := isOf hZ e36 f32
    obtain ⟨_, _, ⟨T38, L38, ck38, nk38⟩, -, X38, ⟨Lc38, hQ38, l38, y38, z38⟩, st38⟩ := X36.virtualBack hx (y := (⟨"com/example/frameloom/frameloom/Constraint", "equals", "(Ljava/lang/Object;)Z"⟩ : MethodName)) (z := (⟨"com/example/frameloom/frameloom/Constraint", "equals", "(Ljava/lang/Object;)Z"⟩ : MethodName)) hown (mvT hZ (hw _ (List.mem_of_getElem? (i := 42) rfl))) (mvT hZ (hw _ (List.mem_of_getElem? (i := 43) rfl))) (notFace_of_selects (args := #[]) (mvT hZ (hw _ (List.mem_of_getElem? (i := 45) rfl)))) (mvT hZ (hw _ (List.mem_of_getElem? (i := 45) rfl))) (mvT hZ (hw _ (List.mem_of_getElem? (i := 44) rfl))) (by decide) (backOf (W := 0) (rmEqC l Z a0 hw [] b17 b8 my mx bv av T25.heap n0 Z26 f32 f31 G25 H25 f33 f34) hZ (hw _ (List.mem_of_getElem? (i := 46) rfl)) (hw _ (List.mem_of_getElem? (i := 4) rfl)) (by decide) (by decide)) q38a q38c (g := (mkF m 134 #[.val (.int p1), .val (.int p2), .val (.int p3), .val (.int p4), .val (.int p5), .val (.int k1_), .val (.int k2_), .val (.int av), .val (.int bv), .val (.ref b8), .val (.ref b17), .val (.int (((p5.toUInt32 >>> ((2 : Int32) &&& 31).toUInt32).toInt32) &&& (3 : Int32))), .val (.int xp)] [(.ref b8), (.ref b17)])) rfl (by rw [hml]; rfl) (Steps.refl _) (argsL := [(.ref b8)]) (rest := []) (lenOf pd_5 rfl) rfl (by show 2 * 0 + _ ≤ _; exact Nat.le_of_eq rfl) (hb hby at_134) (fun _ _ => ⟨rfl, e36, (by decide : 6 + 0 ≤ _), (by decide : 44 + 0 ≤ _)⟩)
    dsimp only [Pt.U, Pt.locs, Pt.cells, Pt.slots] at X38 l38 y38 z38 st38 hQ38
    subst l38 y38 z38
    obtain ⟨rfl, N38q, e38⟩ := hQ38
    have N38 := Fr.app N36 N38q
    have k38 : ∀ t, Steps p.tables e below (T38.setTop (mkF m 137 #[.val (.int p1), .val (.int p2), .val (.int p3), .val (.int p4), .val (.int p5), .val (.int k1_), .val (.int k2_), .val (.int av), .val (.int bv), .val (.ref b8), .val (.ref b17), .val (.int (((p5.toUInt32 >>> ((2 : Int32) &&& 31).toUInt32).toInt32) &&& (3 : Int32))), .val (.int xp)] [(.int (own_eq my mx bv av))])) t → Steps p.tables e below (s₁.setTop (entryFrame m #[(.int p1), (.int p2), (.int p3), (.int p4), (.int p5)] maxLocals)) t := fun t k => k37 t (st38.trans k)
    have k39 : ∀ t, Steps p.tables e below (T38.setTop (mkF m 147 #[.val (.int p1), .val (.int p2), .val (.int p3), .val (.int p4), .val (.int p5), .val (.int k1_), .val (.int k2_), .val (.int av), .val (.int bv), .val (.ref b8), .val (.ref b17), .val (.int (((p5.toUInt32 >>> ((2 : Int32) &&& 31).toUInt32).toInt32) &&& (3 : Int32))), .val (.int xp)] [(.int (1 : Int32))])) t → Steps p.tables e below (s₁.setTop (entryFrame m #[(.int p1), (.int p2), (.int p3), (.int p4), (.int p5)] maxLocals)) t := by
      intro t k
      refine k38 _ ?_
      show Steps p.tables e below (T38.setTop (mkF m 137 #[.val (.int p1), .val (.int p2), .val (.int p3), .val (.int p4), .val (.int p5), .val (.int k1_), .val (.int k2_), .val (.int av), .val (.int bv), .val (.ref b8), .val (.ref b17), .val (.int (((p5.toUInt32 >>> ((2 : Int32) &&& 31).toUInt32).toInt32) &&& (3 : Int32))), .val (.int xp)] [(.int (own_eq my mx bv av))])) _
      refine XS.iload X38.here hx rfl (hb hby at_137) rfl ?_
      show Steps p.tables e below (T38.setTop (mkF m 139 #[.val (.int p1), .val (.int p2), .val (.int p3), .val (.int p4), .val (.int p5), .val (.int k1_), .val (.int k2_), .val (.int av), .val (.int bv), .val (.ref b8), .val (.ref b17), .val (.int (((p5.toUInt32 >>> ((2 : Int32) &&& 31).toUInt32).toInt32) &&& (3 : Int32))), .val (.int xp)] [(.int xp), (.int (own_eq my mx bv av))])) _
      refine XS.icmpNo X38.here hx rfl (hb hby at_139) rfl (teq (by rw [eq_xp, eq_mx, eq_my]; exact own_eq_law' hk1 hk2 n1 n2 n3)).2 ?_
      show Steps p.tables e below (T38.setTop (mkF m 142 #[.val (.int p1), .val (.int p2), .val (.int p3), .val (.int p4), .val (.int p5), .val (.int k1_), .val (.int k2_), .val (.int av), .val (.int bv), .val (.ref b8), .val (.ref b17), .val (.int (((p5.toUInt32 >>> ((2 : Int32) &&& 31).toUInt32).toInt32) &&& (3 : Int32))), .val (.int xp)] [])) _
      refine XS.iconst X38.here hx rfl (hb hby at_142) ?_
      show Steps p.tables e below (T38.setTop (mkF m 143 #[.val (.int p1), .val (.int p2), .val (.int p3), .val (.int p4), .val (.int p5), .val (.int k1_), .val (.int k2_), .val (.int av), .val (.int bv), .val (.ref b8), .val (.ref b17), .val (.int (((p5.toUInt32 >>> ((2 : Int32) &&& 31).toUInt32).toInt32) &&& (3 : Int32))), .val (.int xp)] [(.int (1 : Int32))])) _
      refine XS.goto X38.here hx rfl (pc0 := 143) (pc' := 147) rfl (hb hby at_143) (by decide) (by decide) ?_
      show Steps p.tables e below (T38.setTop (mkF m 147 #[.val (.int p1), .val (.int p2), .val (.int p3), .val (.int p4), .val (.int p5), .val (.int k1_), .val (.int k2_), .val (.int av), .val (.int bv), .val (.ref b8), .val (.ref b17), .val (.int (((p5.toUInt32 >>> ((2 : Int32) &&& 31).toUInt32).toInt32) &&& (3 : Int32))), .val (.int xp)] [(.int (1 : Int32))])) _
      exact k
    obtain ⟨fs, hr, hrun, hended, hWe⟩ := Stand.leaveW (s := s) (vm₁ := T25.vm) X38 (n := T25.heap.size) hSn25 (by rw [e38]; exact (Nat.le_refl _)) (v := some (.int (1 : Int32))) (fun h => by rw [Bd.returns] at h; cases h)
    refine ⟨_, _, k39 _ ?_, hrun, hended, _, _, rfl, ?_, hWe.1, hWe.2.1, hWe.2.2.1, hWe.2.2.2.mono (Nat.le_of_ble_eq_true rfl) (Nat.le_of_ble_eq_true rfl)⟩
    · exact retN X38 hx (t := .boolean) Bd.returns (by simp) (hb hby at_147) hr
    · show Q0 Z p1 p2 p3 p4 p5 aE aA aU ca clA h0 n0 _ T38.heap _
      rw [e38]
      exact ⟨rfl, N38⟩
  · have k40 : ∀ t, Steps p.tables e below (T25.setTop (mkF m 151 #[.val (.int p1), .val (.int p2), .val (.int p3), .val (.int p4), .val (.int p5), .val (.int k1_), .val (.int k2_), .val (.int av), .val (.int bv), .val (.ref b8), .val (.ref b17), .val (.int (((p5.toUInt32 >>> ((2 : Int32) &&& 31).toUInt32).toInt32) &&& (3 : Int32))), .unset] [(.int (1 : Int32)), (.int (((p5.toUInt32 >>> ((2 : Int32) &&& 31).toUInt32).toInt32) &&& (3 : Int32)))])) t → Steps p.tables e below (s₁.setTop (entryFrame m #[(.int p1), (.int p2), (.int p3), (.int p4), (.int p5)] maxLocals)) t := by
      intro t k
      refine k27 _ ?_
      show Steps p.tables e below (T25.setTop (mkF m 94 #[.val (.int p1), .val (.int p2), .val (.int p3), .val (.int p4), .val (.int p5), .val (.int k1_), .val (.int k2_), .val (.int av), .val (.int bv), .val (.ref b8), .val (.ref b17), .val (.int (((p5.toUInt32 >>> ((2 : Int32) &&& 31).toUInt32).toInt32) &&& (3 : Int32))), .unset] [(.int (((p5.toUInt32 >>> ((2 : Int32) &&& 31).toUInt32).toInt32) &&& (3 : Int32)))])) _
      refine XS.ifYes X25.here hx rfl (pc0 := 94) (pc' := 148) rfl (hb hby at_94) rfl ((if0 _ _).trans (feq hk0).2) (by decide) (by decide) ?_
      show Steps p.tables e below (T25.setTop (mkF m 148 #[.val (.int p1), .val (.int p2), .val (.int p3), .val (.int p4), .val (.int p5), .val (.int k1_), .val (.int k2_), .val (.int av), .val (.int bv), .val (.ref b8), .val (.ref b17), .val (.int (((p5.toUInt32 >>> ((2 : Int32) &&& 31).toUInt32).toInt32) &&& (3 : Int32))), .unset] [])) _
      refine XS.iload X25.here hx rfl (hb hby at_148) rfl ?_
      show Steps p.tables e below (T25.setTop (mkF m 150 #[.val (.int p1), .val (.int p2), .val (.int p3), .val (.int p4), .val (.int p5), .val (.int k1_), .val (.int k2_), .val (.int av), .val (.int bv), .val (.ref b8), .val (.ref b17), .val (.int (((p5.toUInt32 >>> ((2 : Int32) &&& 31).toUInt32).toInt32) &&& (3 : Int32))), .unset] [(.int (((p5.toUInt32 >>> ((2 : Int32) &&& 31).toUInt32).toInt32) &&& (3 : Int32)))])) _
      refine XS.iconst X25.here hx rfl (hb hby at_150) ?_
      show Steps p.tables e below (T25.setTop (mkF m 151 #[.val (.int p1), .val (.int p2), .val (.int p3), .val (.int p4), .val (.int p5), .val (.int k1_), .val (.int k2_), .val (.int av), .val (.int bv), .val (.ref b8), .val (.ref b17), .val (.int (((p5.toUInt32 >>> ((2 : Int32) &&& 31).toUInt32).toInt32) &&& (3 : Int32))), .unset] [(.int (1 : Int32)), (.int (((p5.toUInt32 >>> ((2 : Int32) &&& 31).toUInt32).toInt32) &&& (3 : Int32)))])) _
      exact k
    by_cases hkA : (((p5.toUInt32 >>> ((2 : Int32) &&& 31).toUInt32).toInt32) &&& (3 : Int32)) = (1 : Int32)
    · have k41 : ∀ t, Steps p.tables e below (T25.setTop (mkF m 157 #[.val (.int p1), .val (.int p2), .val (.int p3), .val (.int p4), .val (.int p5), .val (.int k1_), .val (.int k2_), .val (.int av), .val (.int bv), .val (.ref b8), .val (.ref b17), .val (.int (((p5.toUInt32 >>> ((2 : Int32) &&& 31).toUInt32).toInt32) &&& (3 : Int32))), .unset] [.null, (.ref b8)])) t → Steps p.tables e below (s₁.setTop (entryFrame m #[(.int p1), (.int p2), (.int p3), (.int p4), (.int p5)] maxLocals)) t := by
        intro t k
        refine k40 _ ?_
        show Steps p.tables e below (T25.setTop (mkF m 151 #[.val (.int p1), .val (.int p2), .val (.int p3), .val (.int p4), .val (.int p5), .val (.int k1_), .val (.int k2_), .val (.int av), .val (.int bv), .val (.ref b8), .val (.ref b17), .val (.int (((p5.toUInt32 >>> ((2 : Int32) &&& 31).toUInt32).toInt32) &&& (3 : Int32))), .unset] [(.int (1 : Int32)), (.int (((p5.toUInt32 >>> ((2 : Int32) &&& 31).toUInt32).toInt32) &&& (3 : Int32)))])) _
        refine XS.icmpNo X25.here hx rfl (hb hby at_151) rfl (teq hkA).2 ?_
        show Steps p.tables e below (T25.setTop (mkF m 154 #[.val (.int p1), .val (.int p2), .val (.int p3), .val (.int p4), .val (.int p5), .val (.int k1_), .val (.int k2_), .val (.int av), .val (.int bv), .val (.ref b8), .val (.ref b17), .val (.int (((p5.toUInt32 >>> ((2 : Int32) &&& 31).toUInt32).toInt32) &&& (3 : Int32))), .unset] [])) _
        refine XS.aload X25.here hx rfl (hb hby at_154) rfl rfl ?_
        show Steps p.tables e below (T25.setTop (mkF m 156 #[.val (.int p1), .val (.int p2), .val (.int p3), .val (.int p4), .val (.int p5), .val (.int k1_), .val (.int k2_), .val (.int av), .val (.int bv), .val (.ref b8), .val (.ref b17), .val (.int (((p5.toUInt32 >>> ((2 : Int32) &&& 31).toUInt32).toInt32) &&& (3 : Int32))), .unset] [(.ref b8)])) _
        refine XS.aconstNull X25.here hx rfl (hb hby at_156) ?_
        show Steps p.tables e below (T25.setTop (mkF m 157 #[.val (.int p1), .val (.int p2), .val (.int p3), .val (.int p4), .val (.int p5), .val (.int k1_), .val (.int k2_), .val (.int av), .val (.int bv), .val (.ref b8), .val (.ref b17), .val (.int (((p5.toUInt32 >>> ((2 : Int32) &&& 31).toUInt32).toInt32) &&& (3 : Int32))), .unset] [.null, (.ref b8)])) _
        exact k
      have f43 := ((f18.ext E17).keep K25)
      obtain ⟨cq42, kq42, q42a, q42b, q42c⟩ := isOf hZ rfl f43
      obtain ⟨_, _, ⟨T42, L42, ck42, nk42⟩, -, X42, ⟨Lc42, hQ42, l42, y42, z42⟩, st42⟩ := X25.virtualBack hx (y := (⟨"com/example/frameloom/frameloom/Constraint", "equals", "(Ljava/lang/Object;)Z"⟩ : MethodName)) (z := (⟨"com/example/frameloom/frameloom/Constraint", "equals", "(Ljava/lang/Object;)Z"⟩ : MethodName)) hown (mvT hZ (hw _ (List.mem_of_getElem? (i := 42) rfl))) (mvT hZ (hw _ (List.mem_of_getElem? (i := 43) rfl))) (notFace_of_selects (args := #[]) (mvT hZ (hw _ (List.mem_of_getElem? (i := 45) rfl)))) (mvT hZ (hw _ (List.mem_of_getElem? (i := 45) rfl))) (mvT hZ (hw _ (List.mem_of_getElem? (i := 44) rfl))) (by decide) (backOf (W := 0) (rmEqN l Z a0 hw [] b8 T25.heap n0 Z26) hZ (hw _ (List.mem_of_getElem? (i := 46) rfl)) (hw _ (List.mem_of_getElem? (i := 4) rfl)) (by decide) (by decide)) q42a q42c (g := (mkF m 157 #[.val (.int p1), .val (.int p2), .val (.int p3), .val (.int p4), .val (.int p5), .val (.int k1_), .val (.int k2_), .val (.int av), .val (.int bv), .val (.ref b8), .val (.ref b17), .val (.int (((p5.toUInt32 >>> ((2 : Int32) &&& 31).toUInt32).toInt32) &&& (3 : Int32))), .unset] [.null, (.ref b8)])) rfl (by rw [hml]; rfl) (Steps.refl _) (argsL := [.null]) (rest := []) (lenOf pd_5 rfl) rfl (by show 2 * 0 + _ ≤ _; exact Nat.le_of_eq rfl) (hb hby at_157) (fun _ _ => ⟨rfl, rfl, (by decide : 6 + 0 ≤ _), (by decide : 44 + 0 ≤ _)⟩)
      dsimp only [Pt.U, Pt.locs, Pt.cells, Pt.slots] at X42 l42 y42 z42 st42 hQ42
      subst l42 y42 z42
      obtain ⟨rfl, N42q, e42⟩ := hQ42
      have N42 := Fr.app N25 N42q
      have k42 : ∀ t, Steps p.tables e below (T42.setTop (mkF m 160 #[.val (.int p1), .val (.int p2), .val (.int p3), .val (.int p4), .val (.int p5), .val (.int k1_), .val (.int k2_), .val (.int av), .val (.int bv), .val (.ref b8), .val (.ref b17), .val (.int (((p5.toUInt32 >>> ((2 : Int32) &&& 31).toUInt32).toInt32) &&& (3 : Int32))), .unset] [(.int (0 : Int32))])) t → Steps p.tables e below (s₁.setTop (entryFrame m #[(.int p1), (.int p2), (.int p3), (.int p4), (.int p5)] maxLocals)) t := fun t k => k41 t (st42.trans k)
      have k44 : ∀ t, Steps p.tables e below (T42.setTop (mkF m 168 #[.val (.int p1), .val (.int p2), .val (.int p3), .val (.int p4), .val (.int p5), .val (.int k1_), .val (.int k2_), .val (.int av), .val (.int bv), .val (.ref b8), .val (.ref b17), .val (.int (((p5.toUInt32 >>> ((2 : Int32) &&& 31).toUInt32).toInt32) &&& (3 : Int32))), .unset] [(.int (1 : Int32))])) t → Steps p.tables e below (s₁.setTop (entryFrame m #[(.int p1), (.int p2), (.int p3), (.int p4), (.int p5)] maxLocals)) t := by
        intro t k
        refine k42 _ ?_
        show Steps p.tables e below (T42.setTop (mkF m 160 #[.val (.int p1), .val (.int p2), .val (.int p3), .val (.int p4), .val (.int p5), .val (.int k1_), .val (.int k2_), .val (.int av), .val (.int bv), .val (.ref b8), .val (.ref b17), .val (.int (((p5.toUInt32 >>> ((2 : Int32) &&& 31).toUInt32).toInt32) &&& (3 : Int32))), .unset] [(.int (0 : Int32))])) _
        refine XS.ifNo X42.here hx rfl (hb hby at_160) rfl ((if0 _ _).trans (teq (rfl : (0 : Int32) = 0)).2) ?_
        show Steps p.tables e below (T42.setTop (mkF m 163 #[.val (.int p1), .val (.int p2), .val (.int p3), .val (.int p4), .val (.int p5), .val (.int k1_), .val (.int k2_), .val (.int av), .val (.int bv), .val (.ref b8), .val (.ref b17), .val (.int (((p5.toUInt32 >>> ((2 : Int32) &&& 31).toUInt32).toInt32) &&& (3 : Int32))), .unset] [])) _
        refine XS.iconst X42.here hx rfl (hb hby at_163) ?_
        show Steps p.tables e below (T42.setTop (mkF m 164 #[.val (.int p1), .val (.int p2), .val (.int p3), .val (.int p4), .val (.int p5), .val (.int k1_), .val (.int k2_), .val (.int av), .val (.int bv), .val (.ref b8), .val (.ref b17), .val (.int (((p5.toUInt32 >>> ((2 : Int32) &&& 31).toUInt32).toInt32) &&& (3 : Int32))), .unset] [(.int (1 : Int32))])) _
        refine XS.goto X42.here hx rfl (pc0 := 164) (pc' := 168) rfl (hb hby at_164) (by decide) (by decide) ?_
        show Steps p.tables e below (T42.setTop (mkF m 168 #[.val (.int p1), .val (.int p2), .val (.int p3), .val (.int p4), .val (.int p5), .val (.int k1_), .val (.int k2_), .val (.int av), .val (.int bv), .val (.ref b8), .val (.ref b17), .val (.int (((p5.toUInt32 >>> ((2 : Int32) &&& 31).toUInt32).toInt32) &&& (3 : Int32))), .unset] [(.int (1 : Int32))])) _
        exact k
      obtain ⟨fs, hr, hrun, hended, hWe⟩ := Stand.leaveW (s := s) (vm₁ := T25.vm) X42 (n := T25.heap.size) hSn25 (by rw [e42]; exact (Nat.le_refl _)) (v := some (.int (1 : Int32))) (fun h => by rw [Bd.returns] at h; cases h)
      refine ⟨_, _, k44 _ ?_, hrun, hended, _, _, rfl, ?_, hWe.1, hWe.2.1, hWe.2.2.1, hWe.2.2.2.mono (Nat.le_of_ble_eq_true rfl) (Nat.le_of_ble_eq_true rfl)⟩
      · exact retN X42 hx (t := .boolean) Bd.returns (by simp) (hb hby at_168) hr
      · show Q0 Z p1 p2 p3 p4 p5 aE aA aU ca clA h0 n0 _ T42.heap _
        rw [e42]
        exact ⟨rfl, N42⟩
    · have k45 : ∀ t, Steps p.tables e below (T25.setTop (mkF m 172 #[.val (.int p1), .val (.int p2), .val (.int p3), .val (.int p4), .val (.int p5), .val (.int k1_), .val (.int k2_), .val (.int av), .val (.int bv), .val (.ref b8), .val (.ref b17), .val (.int (((p5.toUInt32 >>> ((2 : Int32) &&& 31).toUInt32).toInt32) &&& (3 : Int32))), .unset] [(.int (2 : Int32)), (.int (((p5.toUInt32 >>> ((2 : Int32) &&& 31).toUInt32).toInt32) &&& (3 : Int32)))])) t → Steps p.tables e below (s₁.setTop (entryFrame m #[(.int p1), (.int p2), (.int p3), (.int p4), (.int p5)] maxLocals)) t := by
        intro t k
        refine k40 _ ?_
        show Steps p.tables e below (T25.setTop (mkF m 151 #[.val (.int p1), .val (.int p2), .val (.int p3), .val (.int p4), .val (.int p5), .val (.int k1_), .val (.int k2_), .val (.int av), .val (.int bv), .val (.ref b8), .val (.ref b17), .val (.int (((p5.toUInt32 >>> ((2 : Int32) &&& 31).toUInt32).toInt32) &&& (3 : Int32))), .unset] [(.int (1 : Int32)), (.int (((p5.toUInt32 >>> ((2 : Int32) &&& 31).toUInt32).toInt32) &&& (3 : Int32)))])) _
        refine XS.icmpYes X25.here hx rfl (pc0 := 151) (pc' := 169) rfl (hb hby at_151) rfl (feq hkA).2 (by decide) (by decide) ?_
        show Steps p.tables e below (T25.setTop (mkF m 169 #[.val (.int p1), .val (.int p2), .val (.int p3), .val (.int p4), .val (.int p5), .val (.int k1_), .val (.int k2_), .val (.int av), .val (.int bv), .val (.ref b8), .val (.ref b17), .val (.int (((p5.toUInt32 >>> ((2 : Int32) &&& 31).toUInt32).toInt32) &&& (3 : Int32))), .unset] [])) _
        refine XS.iload X25.here hx rfl (hb hby at_169) rfl ?_
        show Steps p.tables e below (T25.setTop (mkF m 171 #[.val (.int p1), .val (.int p2), .val (.int p3), .val (.int p4), .val (.int p5), .val (.int k1_), .val (.int k2_), .val (.int av), .val (.int bv), .val (.ref b8), .val (.ref b17), .val (.int (((p5.toUInt32 >>> ((2 : Int32) &&& 31).toUInt32).toInt32) &&& (3 : Int32))), .unset] [(.int (((p5.toUInt32 >>> ((2 : Int32) &&& 31).toUInt32).toInt32) &&& (3 : Int32)))])) _
        refine XS.iconst X25.here hx rfl (hb hby at_171) ?_
        show Steps p.tables e below (T25.setTop (mkF m 172 #[.val (.int p1), .val (.int p2), .val (.int p3), .val (.int p4), .val (.int p5), .val (.int k1_), .val (.int k2_), .val (.int av), .val (.int bv), .val (.ref b8), .val (.ref b17), .val (.int (((p5.toUInt32 >>> ((2 : Int32) &&& 31).toUInt32).toInt32) &&& (3 : Int32))), .unset] [(.int (2 : Int32)), (.int (((p5.toUInt32 >>> ((2 : Int32) &&& 31).toUInt32).toInt32) &&& (3 : Int32)))])) _
        exact k
      by_cases hkB : (((p5.toUInt32 >>> ((2 : Int32) &&& 31).toUInt32).toInt32) &&& (3 : Int32)) = (2 : Int32)
      · have od46 : Old Z n0 T25.heap := (od21.keep K25 (allS g_b17 all0))
        have k47 : ∀ t, Steps p.tables e below (T25.setTop (mkF m 177 #[.val (.int p1), .val (.int p2), .val (.int p3), .val (.int p4), .val (.int p5), .val (.int k1_), .val (.int k2_), .val (.int av), .val (.int bv), .val (.ref b8), .val (.ref b17), .val (.int (((p5.toUInt32 >>> ((2 : Int32) &&& 31).toUInt32).toInt32) &&& (3 : Int32))), .unset] [(.int av)])) t → Steps p.tables e below (s₁.setTop (entryFrame m #[(.int p1), (.int p2), (.int p3), (.int p4), (.int p5)] maxLocals)) t := by
          intro t k
          refine k45 _ ?_
          show Steps p.tables e below (T25.setTop (mkF m 172 #[.val (.int p1), .val (.int p2), .val (.int p3), .val (.int p4), .val (.int p5), .val (.int k1_), .val (.int k2_), .val (.int av), .val (.int bv), .val (.ref b8), .val (.ref b17), .val (.int (((p5.toUInt32 >>> ((2 : Int32) &&& 31).toUInt32).toInt32) &&& (3 : Int32))), .unset] [(.int (2 : Int32)), (.int (((p5.toUInt32 >>> ((2 : Int32) &&& 31).toUInt32).toInt32) &&& (3 : Int32)))])) _
          refine XS.icmpNo X25.here hx rfl (hb hby at_172) rfl (teq hkB).2 ?_
          show Steps p.tables e below (T25.setTop (mkF m 175 #[.val (.int p1), .val (.int p2), .val (.int p3), .val (.int p4), .val (.int p5), .val (.int k1_), .val (.int k2_), .val (.int av), .val (.int bv), .val (.ref b8), .val (.ref b17), .val (.int (((p5.toUInt32 >>> ((2 : Int32) &&& 31).toUInt32).toInt32) &&& (3 : Int32))), .unset] [])) _
          refine XS.iload X25.here hx rfl (hb hby at_175) rfl ?_
          show Steps p.tables e below (T25.setTop (mkF m 177 #[.val (.int p1), .val (.int p2), .val (.int p3), .val (.int p4), .val (.int p5), .val (.int k1_), .val (.int k2_), .val (.int av), .val (.int bv), .val (.ref b8), .val (.ref b17), .val (.int (((p5.toUInt32 >>> ((2 : Int32) &&& 31).toUInt32).toInt32) &&& (3 : Int32))), .unset] [(.int av)])) _
          exact k
        obtain ⟨_, _, ⟨T48, L48, ck48, nk48⟩, -, X48, ⟨Lc48, hQ48, l48, y48, z48⟩, st48⟩ := Jvm.LawKit.callS X25 hx (y := (⟨"java/lang/Integer", "valueOf", "(I)Ljava/lang/Integer;"⟩ : MethodName)) hown (mvT hZ (hw _ (List.mem_of_getElem? (i := 49) rfl))) (mvT hZ (hw _ (List.mem_of_getElem? (i := 50) rfl))) (mvT hZ (hw _ (List.mem_of_getElem? (i := 51) rfl))) (mvT hZ (hw _ (List.mem_of_getElem? (i := 52) rfl))) (by decide) (backOf (W := 0) (rmVal l Z a0 hw [] av ca clA T25.heap n0 Z26 hav.1 S_h S_c AC hCA od46) hZ (hw _ (List.mem_of_getElem? (i := 52) rfl)) (hw _ (List.mem_of_getElem? (i := 51) rfl)) (by decide) (by decide)) (g := (mkF m 177 #[.val (.int p1), .val (.int p2), .val (.int p3), .val (.int p4), .val (.int p5), .val (.int k1_), .val (.int k2_), .val (.int av), .val (.int bv), .val (.ref b8), .val (.ref b17), .val (.int (((p5.toUInt32 >>> ((2 : Int32) &&& 31).toUInt32).toInt32) &&& (3 : Int32))), .unset] [(.int av)])) rfl (by rw [hml]; rfl) (argsL := [(.int av)]) (rest := []) (lenOf pd_6 rfl) rfl (by show 2 * 0 + _ ≤ _; exact Nat.le_of_eq rfl) (hb hby at_177) (fun _ _ => ⟨rfl, rfl, (by decide : 6 + 1 ≤ _), (by decide : 44 + 1 ≤ _)⟩)
        dsimp only [Pt.U, Pt.locs, Pt.cells, Pt.slots] at X48 l48 y48 z48 st48 hQ48
        subst l48 y48 z48
        obtain ⟨r48, rfl, N48q, K48, G48⟩ := hQ48
        have N48 := Fr.app N25 N48q
        have k48 : ∀ t, Steps p.tables e below (T48.setTop (mkF m 180 #[.val (.int p1), .val (.int p2), .val (.int p3), .val (.int p4), .val (.int p5), .val (.int k1_), .val (.int k2_), .val (.int av), .val (.int bv), .val (.ref b8), .val (.ref b17), .val (.int (((p5.toUInt32 >>> ((2 : Int32) &&& 31).toUInt32).toInt32) &&& (3 : Int32))), .unset] [(.ref r48)])) t → Steps p.tables e below (s₁.setTop (entryFrame m #[(.int p1), (.int p2), (.int p3), (.int p4), (.int p5)] maxLocals)) t := fun t k => k47 t (st48 _ k)
        have Z49 : n0 ≤ T48.heap.size := Nat.le_trans Z26 K48.1
        have zk49 : T25.heap.size ≤ T48.heap.size := Nat.le_trans (Nat.le_refl _) K48.1
        have NI := own_no (hw _ (List.mem_of_getElem? (i := 70) rfl)) (hw _ (List.mem_of_getElem? (i := 3) rfl)) (NS.step (hw _ (List.mem_of_getElem? (i := 70) rfl)) (NS.step (hw _ (List.mem_of_getElem? (i := 71) rfl)) (own_root (hw _ (List.mem_of_getElem? (i := 72) rfl)) (hw _ (List.mem_of_getElem? (i := 3) rfl)) (by decide)) (by decide)) (by decide)) (by decide)
        have k50 : ∀ t, Steps p.tables e below (T48.setTop (mkF m 186 #[.val (.int p1), .val (.int p2), .val (.int p3), .val (.int p4), .val (.int p5), .val (.int k1_), .val (.int k2_), .val (.int av), .val (.int bv), .val (.ref b8), .val (.ref b17), .val (.int (((p5.toUInt32 >>> ((2 : Int32) &&& 31).toUInt32).toInt32) &&& (3 : Int32))), .val (.ref r48)] [(.ref r48), (.ref b8)])) t → Steps p.tables e below (s₁.setTop (entryFrame m #[(.int p1), (.int p2), (.int p3), (.int p4), (.int p5)] maxLocals)) t := by
          intro t k
          refine k48 _ ?_
          show Steps p.tables e below (T48.setTop (mkF m 180 #[.val (.int p1), .val (.int p2), .val (.int p3), .val (.int p4), .val (.int p5), .val (.int k1_), .val (.int k2_), .val (.int av), .val (.int bv), .val (.ref b8), .val (.ref b17), .val (.int (((p5.toUInt32 >>> ((2 : Int32) &&& 31).toUInt32).toInt32) &&& (3 : Int32))), .unset] [(.ref r48)])) _
          refine XS.astore X48.here hx rfl (hb hby at_180) rfl rfl (l' := #[.val (.int p1), .val (.int p2), .val (.int p3), .val (.int p4), .val (.int p5), .val (.int k1_), .val (.int k2_), .val (.int av), .val (.int bv), .val (.ref b8), .val (.ref b17), .val (.int (((p5.toUInt32 >>> ((2 : Int32) &&& 31).toUInt32).toInt32) &&& (3 : Int32))), .val (.ref r48)]) rfl ?_
          show Steps p.tables e below (T48.setTop (mkF m 182 #[.val (.int p1), .val (.int p2), .val (.int p3), .val (.int p4), .val (.int p5), .val (.int k1_), .val (.int k2_), .val (.int av), .val (.int bv), .val (.ref b8), .val (.ref b17), .val (.int (((p5.toUInt32 >>> ((2 : Int32) &&& 31).toUInt32).toInt32) &&& (3 : Int32))), .val (.ref r48)] [])) _
          refine XS.aload X48.here hx rfl (hb hby at_182) rfl rfl ?_
          show Steps p.tables e below (T48.setTop (mkF m 184 #[.val (.int p1), .val (.int p2), .val (.int p3), .val (.int p4), .val (.int p5), .val (.int k1_), .val (.int k2_), .val (.int av), .val (.int bv), .val (.ref b8), .val (.ref b17), .val (.int (((p5.toUInt32 >>> ((2 : Int32) &&& 31).toUInt32).toInt32) &&& (3 : Int32))), .val (.ref r48)] [(.ref b8)])) _
          refine XS.aload X48.here hx rfl (hb hby at_184) rfl rfl ?_
          show Steps p.tables e below (T48.setTop (mkF m 186 #[.val (.int p1), .val (.int p2), .val (.int p3), .val (.int p4), .val (.int p5), .val (.int k1_), .val (.int k2_), .val (.int av), .val (.int bv), .val (.ref b8), .val (.ref b17), .val (.int (((p5.toUInt32 >>> ((2 : Int32) &&& 31).toUInt32).toInt32) &&& (3 : Int32))), .val (.ref r48)] [(.ref r48), (.ref b8)])) _
          exact k
        have f52 := (((f18.ext E17).keep K25).keep K48)
        obtain ⟨cq51, kq51, q51a, q51b, q51c⟩ := isOf hZ rfl f52
        obtain ⟨_, _, ⟨T51, L51, ck51, nk51⟩, -, X51, ⟨Lc51, hQ51, l51, y51, z51⟩, st51⟩ := X48.virtualBack hx (y := (⟨"com/example/frameloom/frameloom/Constraint", "equals", "(Ljava/lang/Object;)Z"⟩ : MethodName)) (z := (⟨"com/example/frameloom/frameloom/Constraint", "equals", "(Ljava/lang/Object;)Z"⟩ : MethodName)) hown (mvT hZ (hw _ (List.mem_of_getElem? (i := 42) rfl))) (mvT hZ (hw _ (List.mem_of_getElem? (i := 43) rfl))) (notFace_of_selects (args := #[]) (mvT hZ (hw _ (List.mem_of_getElem? (i := 45) rfl)))) (mvT hZ (hw _ (List.mem_of_getElem? (i := 45) rfl))) (mvT hZ (hw _ (List.mem_of_getElem? (i := 44) rfl))) (by decide) (backOf (W := 0) (rmEqI l Z a0 hw [] b8 r48 T48.heap n0 Z49 G48 NI) hZ (hw _ (List.mem_of_getElem? (i := 46) rfl)) (hw _ (List.mem_of_getElem? (i := 4) rfl)) (by decide) (by decide)) q51a q51c (g := (mkF m 186 #[.val (.int p1), .val (.int p2), .val (.int p3), .val (.int p4), .val (.int p5), .val (.int k1_), .val (.int k2_), .val (.int av), .val (.int bv), .val (.ref b8), .val (.ref b17), .val (.int (((p5.toUInt32 >>> ((2 : Int32) &&& 31).toUInt32).toInt32) &&& (3 : Int32))), .val (.ref r48)] [(.ref r48), (.ref b8)])) rfl (by rw [hml]; rfl) (Steps.refl _) (argsL := [(.ref r48)]) (rest := []) (lenOf pd_5 rfl) rfl (by show 2 * 0 + _ ≤ _; exact Nat.le_of_eq rfl) (hb hby at_186) (fun _ _ => ⟨rfl, rfl, (by decide : 7 + 0 ≤ _), (by decide : 45 + 0 ≤ _)⟩)
        dsimp only [Pt.U, Pt.locs, Pt.cells, Pt.slots] at X51 l51 y51 z51 st51 hQ51
        subst l51 y51 z51
        obtain ⟨rfl, N51q, e51⟩ := hQ51
        have N51 := Fr.app N48 N51q
        have k51 : ∀ t, Steps p.tables e below (T51.setTop (mkF m 189 #[.val (.int p1), .val (.int p2), .val (.int p3), .val (.int p4), .val (.int p5), .val (.int k1_), .val (.int k2_), .val (.int av), .val (.int bv), .val (.ref b8), .val (.ref b17), .val (.int (((p5.toUInt32 >>> ((2 : Int32) &&& 31).toUInt32).toInt32) &&& (3 : Int32))), .val (.ref r48)] [(.int (0 : Int32))])) t → Steps p.tables e below (s₁.setTop (entryFrame m #[(.int p1), (.int p2), (.int p3), (.int p4), (.int p5)] maxLocals)) t := fun t k => k50 t (st51.trans k)
        have k53 : ∀ t, Steps p.tables e below (T51.setTop (mkF m 197 #[.val (.int p1), .val (.int p2), .val (.int p3), .val (.int p4), .val (.int p5), .val (.int k1_), .val (.int k2_), .val (.int av), .val (.int bv), .val (.ref b8), .val (.ref b17), .val (.int (((p5.toUInt32 >>> ((2 : Int32) &&& 31).toUInt32).toInt32) &&& (3 : Int32))), .val (.ref r48)] [(.int (1 : Int32))])) t → Steps p.tables e below (s₁.setTop (entryFrame m #[(.int p1), (.int p2), (.int p3), (.int p4), (.int p5)] maxLocals)) t := by
          intro t k
          refine k51 _ ?_
          show Steps p.tables e below (T51.setTop (mkF m 189 #[.val (.int p1), .val (.int p2), .val (.int p3), .val (.int p4), .val (.int p5), .val (.int k1_), .val (.int k2_), .val (.int av), .val (.int bv), .val (.ref b8), .val (.ref b17), .val (.int (((p5.toUInt32 >>> ((2 : Int32) &&& 31).toUInt32).toInt32) &&& (3 : Int32))), .val (.ref r48)] [(.int (0 : Int32))])) _
          refine XS.ifNo X51.here hx rfl (hb hby at_189) rfl ((if0 _ _).trans (teq (rfl : (0 : Int32) = 0)).2) ?_
          show Steps p.tables e below (T51.setTop (mkF m 192 #[.val (.int p1), .val (.int p2), .val (.int p3), .val (.int p4), .val (.int p5), .val (.int k1_), .val (.int k2_), .val (.int av), .val (.int bv), .val (.ref b8), .val (.ref b17), .val (.int (((p5.toUInt32 >>> ((2 : Int32) &&& 31).toUInt32).toInt32) &&& (3 : Int32))), .val (.ref r48)] [])) _
          refine XS.iconst X51.here hx rfl (hb hby at_192) ?_
          show Steps p.tables e below (T51.setTop (mkF m 193 #[.val (.int p1), .val (.int p2), .val (.int p3), .val (.int p4), .val (.int p5), .val (.int k1_), .val (.int k2_), .val (.int av), .val (.int bv), .val (.ref b8), .val (.ref b17), .val (.int (((p5.toUInt32 >>> ((2 : Int32) &&& 31).toUInt32).toInt32) &&& (3 : Int32))), .val (.ref r48)] [(.int (1 : Int32))])) _
          refine XS.goto X51.here hx rfl (pc0 := 193) (pc' := 197) rfl (hb hby at_193) (by decide) (by decide) ?_
          show Steps p.tables e below (T51.setTop (mkF m 197 #[.val (.int p1), .val (.int p2), .val (.int p3), .val (.int p4), .val (.int p5), .val (.int k1_), .val (.int k2_), .val (.int av), .val (.int bv), .val (.ref b8), .val (.ref b17), .val (.int (((p5.toUInt32 >>> ((2 : Int32) &&& 31).toUInt32).toInt32) &&& (3 : Int32))), .val (.ref r48)] [(.int (1 : Int32))])) _
          exact k
        obtain ⟨fs, hr, hrun, hended, hWe⟩ := Stand.leaveW (s := s) (vm₁ := T25.vm) X51 (n := T25.heap.size) hSn25 (by rw [e51]; exact zk49) (v := some (.int (1 : Int32))) (fun h => by rw [Bd.returns] at h; cases h)
        refine ⟨_, _, k53 _ ?_, hrun, hended, _, _, rfl, ?_, hWe.1, hWe.2.1, hWe.2.2.1, hWe.2.2.2.mono (Nat.le_of_ble_eq_true rfl) (Nat.le_of_ble_eq_true rfl)⟩
        · exact retN X51 hx (t := .boolean) Bd.returns (by simp) (hb hby at_197) hr
        · show Q0 Z p1 p2 p3 p4 p5 aE aA aU ca clA h0 n0 _ T51.heap _
          rw [e51]
          exact ⟨rfl, N51⟩
      · have f54 := ((f18.ext E17).keep K25)
        have f55 := ((G14.ext E17).keep K25 (ninS ne_b8_b17 nin0))
        have f56 := ((H14.ext E17).keep K25 (ninS ne_b8_b17 nin0))
        have k57 : ∀ t, Steps p.tables e below (T25.setTop (mkF m 202 #[.val (.int p1), .val (.int p2), .val (.int p3), .val (.int p4), .val (.int p5), .val (.int k1_), .val (.int k2_), .val (.int av), .val (.int bv), .val (.ref b8), .val (.ref b17), .val (.int (((p5.toUInt32 >>> ((2 : Int32) &&& 31).toUInt32).toInt32) &&& (3 : Int32))), .unset] [(.ref b8), (.ref b8)])) t → Steps p.tables e below (s₁.setTop (entryFrame m #[(.int p1), (.int p2), (.int p3), (.int p4), (.int p5)] maxLocals)) t := by
          intro t k
          refine k45 _ ?_
          show Steps p.tables e below (T25.setTop (mkF m 172 #[.val (.int p1), .val (.int p2), .val (.int p3), .val (.int p4), .val (.int p5), .val (.int k1_), .val (.int k2_), .val (.int av), .val (.int bv), .val (.ref b8), .val (.ref b17), .val (.int (((p5.toUInt32 >>> ((2 : Int32) &&& 31).toUInt32).toInt32) &&& (3 : Int32))), .unset] [(.int (2 : Int32)), (.int (((p5.toUInt32 >>> ((2 : Int32) &&& 31).toUInt32).toInt32) &&& (3 : Int32)))])) _
          refine XS.icmpYes X25.here hx rfl (pc0 := 172) (pc' := 198) rfl (hb hby at_172) rfl (feq hkB).2 (by decide) (by decide) ?_
          show Steps p.tables e below (T25.setTop (mkF m 198 #[.val (.int p1), .val (.int p2), .val (.int p3), .val (.int p4), .val (.int p5), .val (.int k1_), .val (.int k2_), .val (.int av), .val (.int bv), .val (.ref b8), .val (.ref b17), .val (.int (((p5.toUInt32 >>> ((2 : Int32) &&& 31).toUInt32).toInt32) &&& (3 : Int32))), .unset] [])) _
          refine XS.aload X25.here hx rfl (hb hby at_198) rfl rfl ?_
          show Steps p.tables e below (T25.setTop (mkF m 200 #[.val (.int p1), .val (.int p2), .val (.int p3), .val (.int p4), .val (.int p5), .val (.int k1_), .val (.int k2_), .val (.int av), .val (.int bv), .val (.ref b8), .val (.ref b17), .val (.int (((p5.toUInt32 >>> ((2 : Int32) &&& 31).toUInt32).toInt32) &&& (3 : Int32))), .unset] [(.ref b8)])) _
          refine XS.aload X25.here hx rfl (hb hby at_200) rfl rfl ?_
          show Steps p.tables e below (T25.setTop (mkF m 202 #[.val (.int p1), .val (.int p2), .val (.int p3), .val (.int p4), .val (.int p5), .val (.int k1_), .val (.int k2_), .val (.int av), .val (.int bv), .val (.ref b8), .val (.ref b17), .val (.int (((p5.toUInt32 >>> ((2 : Int32) &&& 31).toUInt32).toInt32) &&& (3 : Int32))), .unset] [(.ref b8), (.ref b8)])) _
          exact k
        obtain ⟨cq58, kq58, q58a, q58b, q58c⟩ := isOf hZ rfl f54
        obtain ⟨_, _, ⟨T58, L58, ck58, nk58⟩, -, X58, ⟨Lc58, hQ58, l58, y58, z58⟩, st58⟩ := X25.virtualBack hx (y := (⟨"com/example/frameloom/frameloom/Constraint", "equals", "(Ljava/lang/Object;)Z"⟩ : MethodName)) (z := (⟨"com/example/frameloom/frameloom/Constraint", "equals", "(Ljava/lang/Object;)Z"⟩ : MethodName)) hown (mvT hZ (hw _ (List.mem_of_getElem? (i := 42) rfl))) (mvT hZ (hw _ (List.mem_of_getElem? (i := 43) rfl))) (notFace_of_selects (args := #[]) (mvT hZ (hw _ (List.mem_of_getElem? (i := 45) rfl)))) (mvT hZ (hw _ (List.mem_of_getElem? (i := 45) rfl))) (mvT hZ (hw _ (List.mem_of_getElem? (i := 44) rfl))) (by decide) (backOf (W := 0) (rmEqC l Z a0 hw [] b8 b8 mx mx av av T25.heap n0 Z26 f54 f54 f55 f56 f55 f56) hZ (hw _ (List.mem_of_getElem? (i := 46) rfl)) (hw _ (List.mem_of_getElem? (i := 4) rfl)) (by decide) (by decide)) q58a q58c (g := (mkF m 202 #[.val (.int p1), .val (.int p2), .val (.int p3), .val (.int p4), .val (.int p5), .val (.int k1_), .val (.int k2_), .val (.int av), .val (.int bv), .val (.ref b8), .val (.ref b17), .val (.int (((p5.toUInt32 >>> ((2 : Int32) &&& 31).toUInt32).toInt32) &&& (3 : Int32))), .unset] [(.ref b8), (.ref b8)])) rfl (by rw [hml]; rfl) (Steps.refl _) (argsL := [(.ref b8)]) (rest := []) (lenOf pd_5 rfl) rfl (by show 2 * 0 + _ ≤ _; exact Nat.le_of_eq rfl) (hb hby at_202) (fun _ _ => ⟨rfl, rfl, (by decide : 6 + 0 ≤ _), (by decide : 44 + 0 ≤ _)⟩)
        dsimp only [Pt.U, Pt.locs, Pt.cells, Pt.slots] at X58 l58 y58 z58 st58 hQ58
        subst l58 y58 z58
        obtain ⟨rfl, N58q, e58⟩ := hQ58
        have N58 := Fr.app N25 N58q
        have k58 : ∀ t, Steps p.tables e below (T58.setTop (mkF m 205 #[.val (.int p1), .val (.int p2), .val (.int p3), .val (.int p4), .val (.int p5), .val (.int k1_), .val (.int k2_), .val (.int av), .val (.int bv), .val (.ref b8), .val (.ref b17), .val (.int (((p5.toUInt32 >>> ((2 : Int32) &&& 31).toUInt32).toInt32) &&& (3 : Int32))), .unset] [(.int (own_eq mx mx av av))])) t → Steps p.tables e below (s₁.setTop (entryFrame m #[(.int p1), (.int p2), (.int p3), (.int p4), (.int p5)] maxLocals)) t := fun t k => k57 t (st58.trans k)
        have hnar : nar .boolean (own_eq mx mx av av) = (1 : Int32) := by simp only [own_eq, if_pos]; rfl
        obtain ⟨fs, hr, hrun, hended, hWe⟩ := Stand.leaveW (s := s) (vm₁ := T25.vm) X58 (n := T25.heap.size) hSn25 (by rw [e58]; exact (Nat.le_refl _)) (v := some (.int (1 : Int32))) (fun h => by rw [Bd.returns] at h; cases h)
        refine ⟨_, _, k58 _ ?_, hrun, hended, _, _, rfl, ?_, hWe.1, hWe.2.1, hWe.2.2.1, hWe.2.2.2.mono (Nat.le_of_ble_eq_true rfl) (Nat.le_of_ble_eq_true rfl)⟩
        · exact retN X58 hx (t := .boolean) Bd.returns (by simp) (hb hby at_205) (fun f acts q1 q2 q3 => by rw [hnar]; exact hr f acts q1 q2 q3)
        · show Q0 Z p1 p2 p3 p4 p5 aE aA aU ca clA h0 n0 _ T58.heap _
          rw [e58]
          exact ⟨rfl, N58⟩
set_option maxRecDepth 65536 in
set_option maxHeartbeats 40000000 in
theorem comes_1 {Post : Tables → Env → Array Value → State → Outcome → State → Prop} (hpost : ∀ tb e args s v u, (limb_1_1.after args s (.returned v) u = true ∧ limb_1_2.after args s (.returned v) u = true ∧ True) → ReturnedEndW s (.returned v) u (Jvm.fieldLocs frame_1_writes args s ++ Jvm.arrayLocs frame_1_arrays args s ++ Jvm.staticLocs frame_1_statics s) 16 1152 → Post tb e args s (.returned v) u) :
    ArmFor flags0 classFile x code maxLocals ret World_1 tables_1 room_1 Calls_1 rest_1 Pre_1 Post := by
  intro l hfl _ _ p e ha hc hk s m args below hf hA hF happ hP
  obtain ⟨hcalls, hrest, hpre⟩ := hP
  obtain ⟨-, -, -, hnamed, -, -, -, hat⟩ := (Spec.applies_iff hf).mp happ
  obtain ⟨hg, hn⟩ := and_e (Cond.before_iff.mp (show (Jvm.Cond.and given_1 narrow_1).before args s = true from hpre))
  obtain ⟨hcnt, hr0⟩ := and_e hg
  obtain ⟨hi0, hr1⟩ := and_e hr0
  obtain ⟨hi1, hr2⟩ := and_e hr1
  obtain ⟨hi2, hr3⟩ := and_e hr2
  obtain ⟨hi3, hr4⟩ := and_e hr3
  have hi4 := hr4
  obtain ⟨w0, w1, w2, w3, w4, rfl⟩ : ∃ w0 w1 w2 w3 w4 : Value, args = #[w0, w1, w2, w3, w4] := by
    have hs : args.size = 5 := by simpa [Cond.value, given_1] using hcnt
    obtain ⟨L⟩ := args
    match L, hs with
    | [w0, w1, w2, w3, w4], _ => exact ⟨w0, w1, w2, w3, w4, rfl⟩
  have hw := fun d (hd : d ∈ tables_1) => atoms_spec (ws := Jvm.Cond.code x code maxLocals ret :: tables_1) hat d (List.mem_cons_of_mem _ hd)
  have hfit : Fit s := fun {y c} hc i hi => by
    obtain ⟨ha, rfl⟩ := Array.getElem?_eq_some_iff.mp hc
    have q := List.all_eq_true.mp ((Array.all_eq_true_iff_forall_mem.mp hF) _ (Array.getElem_mem ha)) i (List.mem_range.mpr hi)
    simpa [Array.getElem?_eq_getElem hi] using q
  obtain ⟨hsets, hown0⟩ := atoms_of _ (rest_1_c_eq ▸ (show rest_1_c.before _ s = true from hrest))
  obtain ⟨i0, ei0⟩ := is_v hi0
  obtain rfl : w0 = (.int i0) := Option.some.inj ei0
  obtain ⟨i1, ei1⟩ := is_v hi1
  obtain rfl : w1 = (.int i1) := Option.some.inj ei1
  obtain ⟨i2, ei2⟩ := is_v hi2
  obtain rfl : w2 = (.int i2) := Option.some.inj ei2
  obtain ⟨i3, ei3⟩ := is_v hi3
  obtain rfl : w3 = (.int i3) := Option.some.inj ei3
  obtain ⟨i4, ei4⟩ := is_v hi4
  obtain rfl : w4 = (.int i4) := Option.some.inj ei4
  obtain ⟨m1, hm1⟩ := and_e hn
  obtain ⟨m2, hm2⟩ := and_e hm1
  obtain ⟨m3, hm3⟩ := and_e hm2
  obtain ⟨m4, hm4⟩ := and_e hm3
  obtain ⟨m5, m6⟩ := and_e hm4
  obtain ⟨aE, evaE⟩ := exa_v m1
  have Fo_EXACT := own_field evaE m3
  have S_EXACT : Sta s s.heap "com/example/frameloom/frameloom/Constraint$Mode" "EXACT" "Lcom/example/frameloom/frameloom/Constraint$Mode;" (.ref aE) := Sta.start evaE (Or.inr ⟨(hw _ (List.mem_of_getElem? (i := 10) rfl)), (hw _ (List.mem_of_getElem? (i := 11) rfl))⟩)
  obtain ⟨aA, evaA⟩ := exa_v m5
  have Fo_AT_MOST := own_field evaA m6
  have S_AT_MOST : Sta s s.heap "com/example/frameloom/frameloom/Constraint$Mode" "AT_MOST" "Lcom/example/frameloom/frameloom/Constraint$Mode;" (.ref aA) := Sta.start evaA (Or.inr ⟨(hw _ (List.mem_of_getElem? (i := 10) rfl)), (hw _ (List.mem_of_getElem? (i := 74) rfl))⟩)
  obtain ⟨aU, evaU⟩ := exa_v m2
  have Fo_UNBOUNDED := own_field evaU m4
  have S_UNBOUNDED : Sta s s.heap "com/example/frameloom/frameloom/Constraint$Mode" "UNBOUNDED" "Lcom/example/frameloom/frameloom/Constraint$Mode;" (.ref aU) := Sta.start evaU (Or.inr ⟨(hw _ (List.mem_of_getElem? (i := 10) rfl)), (hw _ (List.mem_of_getElem? (i := 41) rfl))⟩)
  have S_h : Sta s s.heap "java/lang/Integer$IntegerCache" "high" "I" (.int (127 : Int32)) := Sta.start (Cond.eq_int (hsets _ (List.mem_of_getElem? (i := 3) rfl)) rfl) (Or.inl (hsets _ (List.mem_of_getElem? (i := 1) rfl)))
  obtain ⟨ca, evc⟩ := arr_v (Cond.before_iff.mp (hsets _ (List.mem_of_getElem? (i := 4) rfl)))
  obtain ⟨clA, AC⟩ := Arr.start evc (Cond.before_iff.mp (hsets _ (List.mem_of_getElem? (i := 4) rfl)))
  have S_c : Sta s s.heap "java/lang/Integer$IntegerCache" "cache" "[Ljava/lang/Integer;" (.ref ca) := Sta.start evc (Or.inr ⟨(hw _ (List.mem_of_getElem? (i := 54) rfl)), (hsets _ (List.mem_of_getElem? (i := 2) rfl))⟩)
  have hCA := own_cache evc AC (hsets _ (List.mem_of_getElem? (i := 6) rfl)) (hsets _ (List.mem_of_getElem? (i := 7) rfl))
  obtain ⟨n, o, h1, h2, h3, _, L, rfl, ⟨rfl, N⟩, hq⟩ := rm0 l s _ hw tables_1 i0 i1 i2 i3 i4 aE aA aU ca clA s.heap s.heap.size (Nat.le_refl _) S_EXACT S_AT_MOST S_UNBOUNDED Fo_EXACT Fo_AT_MOST Fo_UNBOUNDED S_h S_c AC hCA (Old.start s) p e ha hc hk s m _ below hf ((Spec.applies_iff_loose hf).mp happ).1 ⟨rfl, State.Warmed39.refl s, rfl⟩ trivial
  refine ⟨n, _, h1, h2, h3, hpost _ _ _ _ _ _ ⟨Cond.after_iff.mpr rfl, Cond.after_iff.mpr (eq_i res_at (Term.int_eval (1)) rfl), trivial⟩ ⟨hq.1, hq.2.1, hq.2.2.1, (hq.2.2.2.sift fun y hy => Or.inr (N y hy)).mono (by decide) (by decide)⟩⟩
theorem main_1_1 : Claimed_1_1 := comes_1 fun _ _ _ _ _ _ h hF => ⟨h.1, hF⟩
theorem main_1_2 : Claimed_1_2 := comes_1 fun _ _ _ _ _ _ h hF => ⟨h.2.1, hF⟩
end Jvm.Pilot.@@N@@
namespace Jvm.Pilot.@@N@@
open Jvm Jvm.ClassFile Sem Op Lib Jvm.Free Jvm.Stand Jvm.Pilot.@@N@@.Jvm.D
/-! MADE BY PROGRAM (witnessworld.py) out of the Statement's table words and the real class files: 22 classes; the members and pool entries that the words name. The judged class is class 1, her method 2. -/
namespace start1
open Jvm.ClassFile
def u (s : String) : CpInfo := .utf8 (stringToUtf16 s)
/-- a pool by its gaps: so many unusable entries, then the entry; so many at the end -/
def gap : Nat → List CpInfo → List CpInfo
  | 0, r => r
  | n + 1, r => .unusable :: gap n r
def poolList (es : List (Nat × CpInfo)) (last : Nat) : List CpInfo := es.foldr (fun e r => gap e.1 (e.2 :: r)) (gap last [])
def pool (es : List (Nat × CpInfo)) (last : Nat) : Array CpInfo := ⟨poolList es last⟩
def fileOf (pool : Array CpInfo) (this : Nat) (attrs : Array Attribute := #[]) (ms : Array MethodInfo := #[]) (fl : Nat := 33) (sup : Nat := 0) (ifs : Array Nat := #[]) (fds : Array FieldInfo := #[]) : ClassFile where
  minorVersion := 0
  majorVersion := 65
  constantPool := pool
  accessFlags := fl
  thisClass := this
  superClass := sup
  interfaces := ifs
  fields := fds
  methods := ms
  attributes := attrs
def plain (name : String) (sup : Option ClassId) : Class where
  name := name
  kind := .ordinary
  loader := none
  accessFlags := 33
  super := sup
  interfaces := #[]
  cf := none
  fields := #[]
  methods := #[]
  instanceTypes := #[]
  staticTypes := #[]
  resolved := #[]
  callSites := []
  init := .initialized
  statics := none
  mirror := none

def pool0 : Array CpInfo := pool [(5, u "<init>"), (0, u "()V"), (1, .class_ 10), (1, u "java/lang/Object")] 113

def k0c0 : Code := { maxStack := 0, maxLocals := 1, code := object_method_1_code, exceptionTable := #[], attributes := #[] }
def k0m0 : Method := { name := "<init>", desc := "()V", sig := { parameters := [], returnType := none }, accessFlags := 1, code := some k0c0 }
/-- java/lang/Object -/
def k0 : Class := { plain "java/lang/Object" none with
  accessFlags := 33
  interfaces := #[]
  cf := some (fileOf pool0 8 #[] #[{ accessFlags := 1, nameIndex := 5, descriptorIndex := 6, attributes := #[] }] 33 0 #[] #[])
  fields := #[]
  methods := #[k0m0]
  instanceTypes := #[]
  staticTypes := #[]
  resolved := Array.replicate 124 none
  statics := none }

def pool1 : Array CpInfo := pool [(2, .class_ 4), (1, u "java/lang/Object"), (0, u "<init>"), (0, u "()V"), (0, .fieldref 8 9), (0, .class_ 10), (0, .nameAndType 11 12), (0, u "com/example/frameloom/frameloom/Constraint$Mode"), (0, u "EXACT"), (0, u "Lcom/example/frameloom/frameloom/Constraint$Mode;"), (0, .fieldref 8 14), (0, .nameAndType 15 12), (0, u "AT_MOST"), (0, .fieldref 8 17), (0, .nameAndType 18 12), (0, u "UNBOUNDED"), (0, .integer 2147483647), (0, .integer 1073741823), (0, .class_ 22), (0, u "com/example/frameloom/frameloom/Constraint"), (0, .methodref 24 25), (0, .class_ 26), (0, .nameAndType 27 28), (0, u "com/example/frameloom/frameloom/ConstraintEqualsPinLaw"), (0, u "mode"), (0, u "(I)Lcom/example/frameloom/frameloom/Constraint$Mode;"), (0, .methodref 21 30), (0, .nameAndType 5 31), (0, u "(Lcom/example/frameloom/frameloom/Constraint$Mode;I)V"), (0, .methodref 21 33), (0, .nameAndType 34 35), (0, u "equals"), (0, u "(Ljava/lang/Object;)Z"), (0, .methodref 37 38), (0, .class_ 39), (0, .nameAndType 40 41), (0, u "java/lang/Integer"), (0, u "valueOf"), (0, u "(I)Ljava/lang/Integer;"), (3, u "law"), (0, u "(IIIII)Z")] 4

def k1m0 : Method := { name := "<init>", desc := "()V", sig := { parameters := [], returnType := none }, accessFlags := 1, code := none }
def k1c1 : Code := { maxStack := 2, maxLocals := 1, code := method_2_code, exceptionTable := #[], attributes := #[] }
def k1m1 : Method := { name := "mode", desc := "(I)Lcom/example/frameloom/frameloom/Constraint$Mode;", sig := { parameters := [.int], returnType := some (.object "com/example/frameloom/frameloom/Constraint$Mode") }, accessFlags := 10, code := some k1c1 }
def k1c2 : Code := { maxStack := 4, maxLocals := 13, code := code, exceptionTable := #[], attributes := #[] }
def k1m2 : Method := { name := "law", desc := "(IIIII)Z", sig := { parameters := [.int, .int, .int, .int, .int], returnType := some .boolean }, accessFlags := 9, code := some k1c2 }
/-- com/example/frameloom/frameloom/ConstraintEqualsPinLaw -/
def k1 : Class := { plain "com/example/frameloom/frameloom/ConstraintEqualsPinLaw" (some 0) with
  accessFlags := 49
  interfaces := #[]
  cf := some (fileOf pool1 24 #[] #[{ accessFlags := 1, nameIndex := 5, descriptorIndex := 6, attributes := #[] }, { accessFlags := 10, nameIndex := 27, descriptorIndex := 28, attributes := #[] }, { accessFlags := 9, nameIndex := 45, descriptorIndex := 46, attributes := #[] }] 49 2 #[] #[])
  fields := #[]
  methods := #[k1m0, k1m1, k1m2]
  instanceTypes := #[]
  staticTypes := #[]
  resolved := Array.replicate 51 none
  statics := none }

def pool2 : Array CpInfo := pool [(1, .methodref 2 3), (0, .class_ 4), (0, .nameAndType 5 6), (0, u "java/lang/Object"), (0, u "<init>"), (0, u "()V"), (0, .class_ 8), (0, u "java/lang/Record")] 13

def k2c0 : Code := { maxStack := 1, maxLocals := 1, code := jdk_30_method_1_code, exceptionTable := #[], attributes := #[] }
def k2m0 : Method := { name := "<init>", desc := "()V", sig := { parameters := [], returnType := none }, accessFlags := 4, code := some k2c0 }
/-- java/lang/Record -/
def k2 : Class := { plain "java/lang/Record" (some 0) with
  accessFlags := 1057
  interfaces := #[]
  cf := some (fileOf pool2 7 #[] #[{ accessFlags := 4, nameIndex := 5, descriptorIndex := 6, attributes := #[] }] 1057 2 #[] #[])
  fields := #[]
  methods := #[k2m0]
  instanceTypes := #[]
  staticTypes := #[]
  resolved := Array.replicate 22 none
  statics := none }

def pool3 : Array CpInfo := pool [(1, .methodref 2 3), (0, .class_ 4), (0, .nameAndType 5 6), (0, u "java/lang/Record"), (0, u "<init>"), (0, u "()V"), (0, .string 8), (0, u "mode"), (0, .methodref 10 11), (0, .class_ 12), (0, .nameAndType 13 14), (0, u "java/util/Objects"), (0, u "requireNonNull"), (0, u "(Ljava/lang/Object;Ljava/lang/String;)Ljava/lang/Object;"), (2, .integer 1073741823), (9, .fieldref 28 29), (0, .class_ 30), (0, .nameAndType 8 31), (0, u "com/example/frameloom/frameloom/Constraint"), (0, u "Lcom/example/frameloom/frameloom/Constraint$Mode;"), (0, .fieldref 28 33), (0, .nameAndType 34 35), (0, u "size"), (0, u "I"), (1, .class_ 39), (1, u "com/example/frameloom/frameloom/Constraint$Mode"), (7, u "(Lcom/example/frameloom/frameloom/Constraint$Mode;I)V"), (24, u "equals"), (0, u "(Ljava/lang/Object;)Z")] 39

def k3c0 : Code := { maxStack := 3, maxLocals := 3, code := prog_5_method_1_code, exceptionTable := #[], attributes := #[] }
def k3m0 : Method := { name := "<init>", desc := "(Lcom/example/frameloom/frameloom/Constraint$Mode;I)V", sig := { parameters := [(.object "com/example/frameloom/frameloom/Constraint$Mode"), .int], returnType := none }, accessFlags := 1, code := some k3c0 }
def k3c1 : Code := { maxStack := 2, maxLocals := 3, code := prog_5_method_2_code, exceptionTable := #[], attributes := #[] }
def k3m1 : Method := { name := "equals", desc := "(Ljava/lang/Object;)Z", sig := { parameters := [(.object "java/lang/Object")], returnType := some .boolean }, accessFlags := 1, code := some k3c1 }
/-- com/example/frameloom/frameloom/Constraint -/
def k3 : Class := { plain "com/example/frameloom/frameloom/Constraint" (some 2) with
  accessFlags := 49
  interfaces := #[]
  cf := some (fileOf pool3 28 #[.nestMembers #[37]] #[{ accessFlags := 1, nameIndex := 5, descriptorIndex := 47, attributes := #[] }, { accessFlags := 1, nameIndex := 72, descriptorIndex := 73, attributes := #[] }] 49 2 #[] #[{ accessFlags := 18, nameIndex := 8, descriptorIndex := 31, attributes := #[] }, { accessFlags := 18, nameIndex := 34, descriptorIndex := 35, attributes := #[] }])
  fields := #[{ name := "mode", type := (.object "com/example/frameloom/frameloom/Constraint$Mode"), accessFlags := 18, slot := 0, constantValue := 0 }, { name := "size", type := .int, accessFlags := 18, slot := 1, constantValue := 0 }]
  methods := #[k3m0, k3m1]
  instanceTypes := #[(.object "com/example/frameloom/frameloom/Constraint$Mode"), .int]
  staticTypes := #[]
  resolved := Array.replicate 113 none
  statics := none }

def pool4 : Array CpInfo := pool [(1, .class_ 2), (0, u "java/lang/constant/Constable"), (0, .class_ 4), (0, u "java/lang/Object")] 6

/-- java/lang/constant/Constable -/
def k4 : Class := { plain "java/lang/constant/Constable" (some 0) with
  accessFlags := 1537
  interfaces := #[]
  cf := some (fileOf pool4 1 #[] #[] 1537 3 #[] #[])
  fields := #[]
  methods := #[]
  instanceTypes := #[]
  staticTypes := #[]
  resolved := Array.replicate 11 none
  statics := none }

def pool5 : Array CpInfo := pool [(1, .class_ 2), (0, u "java/lang/Comparable"), (0, .class_ 4), (0, u "java/lang/Object")] 7

/-- java/lang/Comparable -/
def k5 : Class := { plain "java/lang/Comparable" (some 0) with
  accessFlags := 1537
  interfaces := #[]
  cf := some (fileOf pool5 1 #[] #[] 1537 3 #[] #[])
  fields := #[]
  methods := #[]
  instanceTypes := #[]
  staticTypes := #[]
  resolved := Array.replicate 12 none
  statics := none }

def pool6 : Array CpInfo := pool [(1, .class_ 2), (0, u "java/io/Serializable"), (0, .class_ 4), (0, u "java/lang/Object")] 2

/-- java/io/Serializable -/
def k6 : Class := { plain "java/io/Serializable" (some 0) with
  accessFlags := 1537
  interfaces := #[]
  cf := some (fileOf pool6 1 #[] #[] 1537 3 #[] #[])
  fields := #[]
  methods := #[]
  instanceTypes := #[]
  staticTypes := #[]
  resolved := Array.replicate 7 none
  statics := none }

def pool7 : Array CpInfo := pool [(2, .class_ 4), (1, u "java/lang/Enum"), (0, u "name"), (0, u "Ljava/lang/String;"), (2, u "ordinal"), (0, u "I"), (1, .class_ 14), (1, u "java/lang/Object"), (4, u "hash"), (86, .class_ 108), (1, u "java/lang/Enum$EnumDesc"), (2, .class_ 112), (0, u "java/lang/constant/Constable"), (0, .class_ 114), (0, u "java/lang/Comparable"), (0, .class_ 116), (0, u "java/io/Serializable")] 87

/-- java/lang/Enum -/
def k7 : Class := { plain "java/lang/Enum" (some 0) with
  accessFlags := 1057
  interfaces := #[4, 5, 6]
  cf := some (fileOf pool7 2 #[.nestMembers #[106]] #[] 1057 12 #[111, 113, 115] #[{ accessFlags := 18, nameIndex := 5, descriptorIndex := 6, attributes := #[] }, { accessFlags := 18, nameIndex := 9, descriptorIndex := 10, attributes := #[] }, { accessFlags := 2, nameIndex := 19, descriptorIndex := 10, attributes := #[] }])
  fields := #[{ name := "name", type := (.object "java/lang/String"), accessFlags := 18, slot := 0, constantValue := 0 }, { name := "ordinal", type := .int, accessFlags := 18, slot := 1, constantValue := 0 }, { name := "hash", type := .int, accessFlags := 2, slot := 2, constantValue := 0 }]
  methods := #[]
  instanceTypes := #[(.object "java/lang/String"), .int, .int]
  staticTypes := #[]
  resolved := Array.replicate 204 none
  statics := none }

def pool8 : Array CpInfo := pool [(1, .class_ 2), (0, u "com/example/frameloom/frameloom/Constraint$Mode"), (2, u "EXACT"), (0, u "Lcom/example/frameloom/frameloom/Constraint$Mode;"), (2, u "AT_MOST"), (2, u "UNBOUNDED"), (2, u "$VALUES"), (0, u "[Lcom/example/frameloom/frameloom/Constraint$Mode;"), (6, .class_ 25), (1, u "java/lang/Enum"), (26, .class_ 53), (0, u "com/example/frameloom/frameloom/Constraint")] 2

/-- com/example/frameloom/frameloom/Constraint$Mode -/
def k8 : Class := { plain "com/example/frameloom/frameloom/Constraint$Mode" (some 7) with
  accessFlags := 16433
  interfaces := #[]
  cf := some (fileOf pool8 1 #[.nestHost 52] #[] 16433 23 #[] #[{ accessFlags := 16409, nameIndex := 5, descriptorIndex := 6, attributes := #[] }, { accessFlags := 16409, nameIndex := 9, descriptorIndex := 6, attributes := #[] }, { accessFlags := 16409, nameIndex := 12, descriptorIndex := 6, attributes := #[] }, { accessFlags := 4122, nameIndex := 15, descriptorIndex := 16, attributes := #[] }])
  fields := #[{ name := "EXACT", type := (.object "com/example/frameloom/frameloom/Constraint$Mode"), accessFlags := 16409, slot := 0, constantValue := 0 }, { name := "AT_MOST", type := (.object "com/example/frameloom/frameloom/Constraint$Mode"), accessFlags := 16409, slot := 1, constantValue := 0 }, { name := "UNBOUNDED", type := (.object "com/example/frameloom/frameloom/Constraint$Mode"), accessFlags := 16409, slot := 2, constantValue := 0 }, { name := "$VALUES", type := (.array (.object "com/example/frameloom/frameloom/Constraint$Mode")), accessFlags := 4122, slot := 3, constantValue := 0 }]
  methods := #[]
  instanceTypes := #[(.object "java/lang/String"), .int, .int]
  staticTypes := #[(.object "com/example/frameloom/frameloom/Constraint$Mode"), (.object "com/example/frameloom/frameloom/Constraint$Mode"), (.object "com/example/frameloom/frameloom/Constraint$Mode"), (.array (.object "com/example/frameloom/frameloom/Constraint$Mode"))]
  resolved := Array.replicate 56 none
  statics := some 0 }

def pool9 : Array CpInfo := pool [(2, .class_ 4), (1, u "java/lang/CharSequence"), (42, .class_ 48), (0, u "java/lang/CharSequence$1CodePointIterator"), (10, .class_ 60), (0, u "java/lang/CharSequence$1CharIterator"), (5, .class_ 67), (0, u "java/lang/Object")] 63

/-- java/lang/CharSequence -/
def k9 : Class := { plain "java/lang/CharSequence" (some 0) with
  accessFlags := 1537
  interfaces := #[]
  cf := some (fileOf pool9 2 #[.nestMembers #[47, 59]] #[] 1537 66 #[] #[])
  fields := #[]
  methods := #[]
  instanceTypes := #[]
  staticTypes := #[]
  resolved := Array.replicate 131 none
  statics := none }

def pool10 : Array CpInfo := pool [(1, .class_ 2), (0, u "java/lang/constant/ConstantDesc"), (0, .class_ 4), (0, u "java/lang/Object")] 32

/-- java/lang/constant/ConstantDesc -/
def k10 : Class := { plain "java/lang/constant/ConstantDesc" (some 0) with
  accessFlags := 1537
  interfaces := #[]
  cf := some (fileOf pool10 1 #[] #[] 1537 3 #[] #[])
  fields := #[]
  methods := #[]
  instanceTypes := #[]
  staticTypes := #[]
  resolved := Array.replicate 37 none
  statics := none }

def pool11 : Array CpInfo := pool [(2, .class_ 4), (1, u "java/lang/Object"), (0, u "<init>"), (0, u "()V"), (3, .class_ 12), (1, u "java/lang/String"), (0, u "value"), (0, u "[B"), (2, u "coder"), (0, u "B"), (2, u "hash"), (0, u "I"), (2, u "hashIsZero"), (0, u "Z"), (13, u "COMPACT_STRINGS"), (534, .class_ 576), (0, u "java/lang/CharSequence"), (22, u "CASE_INSENSITIVE_ORDER"), (0, u "Ljava/util/Comparator;"), (500, u "serialPersistentFields"), (0, u "[Ljava/io/ObjectStreamField;"), (0, .class_ 1104), (0, u "java/lang/String$CaseInsensitiveComparator"), (1, .class_ 1107), (0, u "java/io/Serializable"), (0, .class_ 1109), (0, u "java/lang/Comparable"), (0, .class_ 1111), (0, u "java/lang/constant/Constable"), (0, .class_ 1113), (0, u "java/lang/constant/ConstantDesc"), (2, u "serialVersionUID"), (0, u "J"), (3, u "REPL"), (0, u "C"), (2, u "LATIN1"), (1, u "UTF16")] 323

def k11m0 : Method := { name := "<init>", desc := "()V", sig := { parameters := [], returnType := none }, accessFlags := 1, code := none }
/-- java/lang/String -/
def k11 : Class := { plain "java/lang/String" (some 0) with
  accessFlags := 49
  interfaces := #[6, 5, 9, 4, 10]
  cf := some (fileOf pool11 10 #[.nestMembers #[1103]] #[{ accessFlags := 1, nameIndex := 5, descriptorIndex := 6, attributes := #[] }] 49 2 #[1106, 1108, 575, 1110, 1112] #[{ accessFlags := 18, nameIndex := 13, descriptorIndex := 14, attributes := #[] }, { accessFlags := 18, nameIndex := 17, descriptorIndex := 18, attributes := #[] }, { accessFlags := 2, nameIndex := 21, descriptorIndex := 22, attributes := #[] }, { accessFlags := 2, nameIndex := 25, descriptorIndex := 26, attributes := #[] }, { accessFlags := 26, nameIndex := 1116, descriptorIndex := 1117, attributes := #[] }, { accessFlags := 24, nameIndex := 40, descriptorIndex := 26, attributes := #[] }, { accessFlags := 26, nameIndex := 1101, descriptorIndex := 1102, attributes := #[] }, { accessFlags := 26, nameIndex := 1121, descriptorIndex := 1122, attributes := #[] }, { accessFlags := 25, nameIndex := 599, descriptorIndex := 600, attributes := #[] }, { accessFlags := 24, nameIndex := 1125, descriptorIndex := 18, attributes := #[] }, { accessFlags := 24, nameIndex := 1127, descriptorIndex := 18, attributes := #[] }])
  fields := #[{ name := "value", type := (.array .byte), accessFlags := 18, slot := 0, constantValue := 0 }, { name := "coder", type := .byte, accessFlags := 18, slot := 1, constantValue := 0 }, { name := "hash", type := .int, accessFlags := 2, slot := 2, constantValue := 0 }, { name := "hashIsZero", type := .boolean, accessFlags := 2, slot := 3, constantValue := 0 }, { name := "serialVersionUID", type := .long, accessFlags := 26, slot := 0, constantValue := 0 }, { name := "COMPACT_STRINGS", type := .boolean, accessFlags := 24, slot := 1, constantValue := 0 }, { name := "serialPersistentFields", type := (.array (.object "java/io/ObjectStreamField")), accessFlags := 26, slot := 2, constantValue := 0 }, { name := "REPL", type := .char, accessFlags := 26, slot := 3, constantValue := 0 }, { name := "CASE_INSENSITIVE_ORDER", type := (.object "java/util/Comparator"), accessFlags := 25, slot := 4, constantValue := 0 }, { name := "LATIN1", type := .byte, accessFlags := 24, slot := 5, constantValue := 0 }, { name := "UTF16", type := .byte, accessFlags := 24, slot := 6, constantValue := 0 }]
  methods := #[k11m0]
  instanceTypes := #[(.array .byte), .byte, .int, .boolean]
  staticTypes := #[.long, .boolean, (.array (.object "java/io/ObjectStreamField")), .char, (.object "java/util/Comparator"), .byte, .byte]
  resolved := Array.replicate 1451 none
  statics := none }

def pool12 : Array CpInfo := pool [(2, .class_ 4), (1, u "java/lang/Object"), (0, u "<init>"), (0, u "()V"), (35, .class_ 44), (1, u "java/util/Objects"), (0, u "requireNonNull"), (48, u "(Ljava/lang/Object;Ljava/lang/String;)Ljava/lang/Object;")] 89

def k12m0 : Method := { name := "<init>", desc := "()V", sig := { parameters := [], returnType := none }, accessFlags := 2, code := none }
def k12c1 : Code := { maxStack := 3, maxLocals := 2, code := jdk_31_method_11_code, exceptionTable := #[], attributes := #[] }
def k12m1 : Method := { name := "requireNonNull", desc := "(Ljava/lang/Object;Ljava/lang/String;)Ljava/lang/Object;", sig := { parameters := [(.object "java/lang/Object"), (.object "java/lang/String")], returnType := some (.object "java/lang/Object") }, accessFlags := 9, code := some k12c1 }
/-- java/util/Objects -/
def k12 : Class := { plain "java/util/Objects" (some 0) with
  accessFlags := 49
  interfaces := #[]
  cf := some (fileOf pool12 42 #[] #[{ accessFlags := 2, nameIndex := 5, descriptorIndex := 6, attributes := #[] }, { accessFlags := 9, nameIndex := 45, descriptorIndex := 94, attributes := #[] }] 49 2 #[] #[])
  fields := #[]
  methods := #[k12m0, k12m1]
  instanceTypes := #[]
  staticTypes := #[]
  resolved := Array.replicate 184 none
  statics := none }

def pool13 : Array CpInfo := pool [(1, .methodref 2 3), (0, .class_ 4), (0, .nameAndType 5 6), (0, u "java/lang/Object"), (0, u "<init>"), (0, u "()V"), (1, .class_ 10), (1, u "java/lang/Number"), (2, .class_ 14), (0, u "java/io/Serializable"), (0, u "serialVersionUID"), (0, u "J")] 20

def k13c0 : Code := { maxStack := 1, maxLocals := 1, code := jdk_18_method_1_code, exceptionTable := #[], attributes := #[] }
def k13m0 : Method := { name := "<init>", desc := "()V", sig := { parameters := [], returnType := none }, accessFlags := 1, code := some k13c0 }
/-- java/lang/Number -/
def k13 : Class := { plain "java/lang/Number" (some 0) with
  accessFlags := 1057
  interfaces := #[6]
  cf := some (fileOf pool13 8 #[] #[{ accessFlags := 1, nameIndex := 5, descriptorIndex := 6, attributes := #[] }] 1057 2 #[13] #[{ accessFlags := 26, nameIndex := 15, descriptorIndex := 16, attributes := #[] }])
  fields := #[{ name := "serialVersionUID", type := .long, accessFlags := 26, slot := 0, constantValue := 0 }]
  methods := #[k13m0]
  instanceTypes := #[]
  staticTypes := #[.long]
  resolved := Array.replicate 37 none
  statics := none }

def pool14 : Array CpInfo := pool [(1, .class_ 2), (0, u "java/lang/Integer"), (16, u "digits"), (0, u "[C"), (46, u "<init>"), (17, u "DigitOnes"), (0, u "[B"), (2, u "DigitTens"), (10, .nameAndType 67 101), (0, u "()V"), (85, u "valueOf"), (0, u "(I)Ljava/lang/Integer;"), (0, .class_ 190), (0, u "java/lang/Integer$IntegerCache"), (0, .fieldref 189 192), (0, .nameAndType 193 194), (0, u "high"), (0, u "I"), (0, .fieldref 189 196), (0, .nameAndType 197 198), (0, u "cache"), (0, u "[Ljava/lang/Integer;"), (0, .methodref 1 200), (0, .nameAndType 67 201), (0, u "(I)V"), (0, .methodref 203 100), (0, .class_ 204), (0, u "java/lang/Number"), (0, .fieldref 1 206), (0, .nameAndType 207 194), (0, u "value"), (94, u "TYPE"), (0, u "Ljava/lang/Class;"), (0, .class_ 305), (0, u "java/lang/Comparable"), (0, .class_ 307), (0, u "java/lang/constant/Constable"), (0, .class_ 309), (0, u "java/lang/constant/ConstantDesc"), (0, u "MIN_VALUE"), (1, u "MAX_VALUE"), (3, u "SIZE"), (1, u "BYTES"), (1, u "serialVersionUID"), (0, u "J")] 131

def k14c0 : Code := { maxStack := 3, maxLocals := 1, code := jdk_33_method_22_code, exceptionTable := #[], attributes := #[] }
def k14m0 : Method := { name := "valueOf", desc := "(I)Ljava/lang/Integer;", sig := { parameters := [.int], returnType := some (.object "java/lang/Integer") }, accessFlags := 9, code := some k14c0 }
def k14c1 : Code := { maxStack := 2, maxLocals := 2, code := jdk_33_method_23_code, exceptionTable := #[], attributes := #[] }
def k14m1 : Method := { name := "<init>", desc := "(I)V", sig := { parameters := [.int], returnType := none }, accessFlags := 1, code := some k14c1 }
/-- java/lang/Integer -/
def k14 : Class := { plain "java/lang/Integer" (some 13) with
  accessFlags := 49
  interfaces := #[5, 4, 10]
  cf := some (fileOf pool14 1 #[.nestMembers #[189]] #[{ accessFlags := 9, nameIndex := 187, descriptorIndex := 188, attributes := #[] }, { accessFlags := 1, nameIndex := 67, descriptorIndex := 201, attributes := #[] }] 49 203 #[304, 306, 308] #[{ accessFlags := 25, nameIndex := 310, descriptorIndex := 194, attributes := #[] }, { accessFlags := 25, nameIndex := 312, descriptorIndex := 194, attributes := #[] }, { accessFlags := 25, nameIndex := 302, descriptorIndex := 303, attributes := #[] }, { accessFlags := 24, nameIndex := 19, descriptorIndex := 20, attributes := #[] }, { accessFlags := 24, nameIndex := 89, descriptorIndex := 86, attributes := #[] }, { accessFlags := 24, nameIndex := 85, descriptorIndex := 86, attributes := #[] }, { accessFlags := 18, nameIndex := 207, descriptorIndex := 194, attributes := #[] }, { accessFlags := 25, nameIndex := 316, descriptorIndex := 194, attributes := #[] }, { accessFlags := 25, nameIndex := 318, descriptorIndex := 194, attributes := #[] }, { accessFlags := 26, nameIndex := 320, descriptorIndex := 321, attributes := #[] }])
  fields := #[{ name := "MIN_VALUE", type := .int, accessFlags := 25, slot := 0, constantValue := 0 }, { name := "MAX_VALUE", type := .int, accessFlags := 25, slot := 1, constantValue := 0 }, { name := "TYPE", type := (.object "java/lang/Class"), accessFlags := 25, slot := 2, constantValue := 0 }, { name := "digits", type := (.array .char), accessFlags := 24, slot := 3, constantValue := 0 }, { name := "DigitTens", type := (.array .byte), accessFlags := 24, slot := 4, constantValue := 0 }, { name := "DigitOnes", type := (.array .byte), accessFlags := 24, slot := 5, constantValue := 0 }, { name := "value", type := .int, accessFlags := 18, slot := 0, constantValue := 0 }, { name := "SIZE", type := .int, accessFlags := 25, slot := 6, constantValue := 0 }, { name := "BYTES", type := .int, accessFlags := 25, slot := 7, constantValue := 0 }, { name := "serialVersionUID", type := .long, accessFlags := 26, slot := 8, constantValue := 0 }]
  methods := #[k14m0, k14m1]
  instanceTypes := #[.int]
  staticTypes := #[.int, .int, (.object "java/lang/Class"), (.array .char), (.array .byte), (.array .byte), .int, .int, .long]
  resolved := Array.replicate 453 none
  statics := none }

def pool15 : Array CpInfo := pool [(2, .class_ 4), (1, u "java/lang/Object"), (0, u "<init>"), (0, u "()V"), (0, .class_ 8), (0, u "java/lang/Integer"), (7, .class_ 18), (1, u "java/lang/Integer$IntegerCache"), (0, u "$assertionsDisabled"), (0, u "Z"), (26, u "high"), (0, u "I"), (8, u "archivedCache"), (0, u "[Ljava/lang/Integer;"), (12, u "cache"), (0, u "low")] 27

def k15m0 : Method := { name := "<init>", desc := "()V", sig := { parameters := [], returnType := none }, accessFlags := 2, code := none }
/-- java/lang/Integer$IntegerCache -/
def k15 : Class := { plain "java/lang/Integer$IntegerCache" (some 0) with
  accessFlags := 48
  interfaces := #[]
  cf := some (fileOf pool15 16 #[.nestHost 7] #[{ accessFlags := 2, nameIndex := 5, descriptorIndex := 6, attributes := #[] }] 48 2 #[] #[{ accessFlags := 24, nameIndex := 72, descriptorIndex := 48, attributes := #[] }, { accessFlags := 24, nameIndex := 47, descriptorIndex := 48, attributes := #[] }, { accessFlags := 24, nameIndex := 71, descriptorIndex := 58, attributes := #[] }, { accessFlags := 8, nameIndex := 57, descriptorIndex := 58, attributes := #[] }, { accessFlags := 4120, nameIndex := 19, descriptorIndex := 20, attributes := #[] }])
  fields := #[{ name := "low", type := .int, accessFlags := 24, slot := 0, constantValue := 0 }, { name := "high", type := .int, accessFlags := 24, slot := 1, constantValue := 0 }, { name := "cache", type := (.array (.object "java/lang/Integer")), accessFlags := 24, slot := 2, constantValue := 0 }, { name := "archivedCache", type := (.array (.object "java/lang/Integer")), accessFlags := 8, slot := 3, constantValue := 0 }, { name := "$assertionsDisabled", type := .boolean, accessFlags := 4120, slot := 4, constantValue := 0 }]
  methods := #[k15m0]
  instanceTypes := #[]
  staticTypes := #[.int, .int, (.array (.object "java/lang/Integer")), (.array (.object "java/lang/Integer")), .boolean]
  resolved := Array.replicate 100 none
  statics := some 1 }

def pool16 : Array CpInfo := pool [(1, u "java/lang/Cloneable"), (0, .class_ 1), (0, u "java/lang/Object"), (0, .class_ 3)] 3

/-- java/lang/Cloneable -/
def k16 : Class := { plain "java/lang/Cloneable" (some 0) with
  accessFlags := 1537
  interfaces := #[]
  cf := some (fileOf pool16 2 #[] #[] 1537 4 #[] #[])
  fields := #[]
  methods := #[]
  instanceTypes := #[]
  staticTypes := #[]
  resolved := Array.replicate 8 none
  statics := none }

/-- the primitive byte -/
def k17 : Class := { plain "byte" none with kind := .primitive 'B', accessFlags := 0x411 }
/-- [B -/
def k18 : Class := { plain "[B" (some 0) with kind := .array 17 .byte, interfaces := #[16, 6], accessFlags := 1041 }

/-- the primitive int -/
def k19 : Class := { plain "int" none with kind := .primitive 'I', accessFlags := 0x411 }
/-- [I -/
def k20 : Class := { plain "[I" (some 0) with kind := .array 19 .int, interfaces := #[16, 6], accessFlags := 1041 }

/-- [Ljava/lang/Integer; -/
def k21 : Class := { plain "[Ljava/lang/Integer;" (some 0) with kind := .array 14 (.object "java/lang/Integer"), interfaces := #[16, 6], accessFlags := 1041 }

def heap : Heap := #[{ cls := 8, slots := #[.ref 259, .ref 260, .ref 261, .null], vm := .statics 8 },
  { cls := 15, slots := #[.int 0, .int 127, .ref 2, .null, .int 0], vm := .statics 15 },
  { cls := 21, slots := #[.ref 3, .ref 4, .ref 5, .ref 6, .ref 7, .ref 8, .ref 9, .ref 10, .ref 11, .ref 12, .ref 13, .ref 14, .ref 15, .ref 16, .ref 17, .ref 18, .ref 19, .ref 20, .ref 21, .ref 22, .ref 23, .ref 24, .ref 25, .ref 26, .ref 27, .ref 28, .ref 29, .ref 30, .ref 31, .ref 32, .ref 33, .ref 34, .ref 35, .ref 36, .ref 37, .ref 38, .ref 39, .ref 40, .ref 41, .ref 42, .ref 43, .ref 44, .ref 45, .ref 46, .ref 47, .ref 48, .ref 49, .ref 50, .ref 51, .ref 52, .ref 53, .ref 54, .ref 55, .ref 56, .ref 57, .ref 58, .ref 59, .ref 60, .ref 61, .ref 62, .ref 63, .ref 64, .ref 65, .ref 66, .ref 67, .ref 68, .ref 69, .ref 70, .ref 71, .ref 72, .ref 73, .ref 74, .ref 75, .ref 76, .ref 77, .ref 78, .ref 79, .ref 80, .ref 81, .ref 82, .ref 83, .ref 84, .ref 85, .ref 86, .ref 87, .ref 88, .ref 89, .ref 90, .ref 91, .ref 92, .ref 93, .ref 94, .ref 95, .ref 96, .ref 97, .ref 98, .ref 99, .ref 100, .ref 101, .ref 102, .ref 103, .ref 104, .ref 105, .ref 106, .ref 107, .ref 108, .ref 109, .ref 110, .ref 111, .ref 112, .ref 113, .ref 114, .ref 115, .ref 116, .ref 117, .ref 118, .ref 119, .ref 120, .ref 121, .ref 122, .ref 123, .ref 124, .ref 125, .ref 126, .ref 127, .ref 128, .ref 129, .ref 130, .ref 131, .ref 132, .ref 133, .ref 134, .ref 135, .ref 136, .ref 137, .ref 138, .ref 139, .ref 140, .ref 141, .ref 142, .ref 143, .ref 144, .ref 145, .ref 146, .ref 147, .ref 148, .ref 149, .ref 150, .ref 151, .ref 152, .ref 153, .ref 154, .ref 155, .ref 156, .ref 157, .ref 158, .ref 159, .ref 160, .ref 161, .ref 162, .ref 163, .ref 164, .ref 165, .ref 166, .ref 167, .ref 168, .ref 169, .ref 170, .ref 171, .ref 172, .ref 173, .ref 174, .ref 175, .ref 176, .ref 177, .ref 178, .ref 179, .ref 180, .ref 181, .ref 182, .ref 183, .ref 184, .ref 185, .ref 186, .ref 187, .ref 188, .ref 189, .ref 190, .ref 191, .ref 192, .ref 193, .ref 194, .ref 195, .ref 196, .ref 197, .ref 198, .ref 199, .ref 200, .ref 201, .ref 202, .ref 203, .ref 204, .ref 205, .ref 206, .ref 207, .ref 208, .ref 209, .ref 210, .ref 211, .ref 212, .ref 213, .ref 214, .ref 215, .ref 216, .ref 217, .ref 218, .ref 219, .ref 220, .ref 221, .ref 222, .ref 223, .ref 224, .ref 225, .ref 226, .ref 227, .ref 228, .ref 229, .ref 230, .ref 231, .ref 232, .ref 233, .ref 234, .ref 235, .ref 236, .ref 237, .ref 238, .ref 239, .ref 240, .ref 241, .ref 242, .ref 243, .ref 244, .ref 245, .ref 246, .ref 247, .ref 248, .ref 249, .ref 250, .ref 251, .ref 252, .ref 253, .ref 254, .ref 255, .ref 256, .ref 257, .ref 258], vm := .none },
  { cls := 14, slots := #[.int (-128)], vm := .none },
  { cls := 14, slots := #[.int (-127)], vm := .none },
  { cls := 14, slots := #[.int (-126)], vm := .none },
  { cls := 14, slots := #[.int (-125)], vm := .none },
  { cls := 14, slots := #[.int (-124)], vm := .none },
  { cls := 14, slots := #[.int (-123)], vm := .none },
  { cls := 14, slots := #[.int (-122)], vm := .none },
  { cls := 14, slots := #[.int (-121)], vm := .none },
  { cls := 14, slots := #[.int (-120)], vm := .none },
  { cls := 14, slots := #[.int (-119)], vm := .none },
  { cls := 14, slots := #[.int (-118)], vm := .none },
  { cls := 14, slots := #[.int (-117)], vm := .none },
  { cls := 14, slots := #[.int (-116)], vm := .none },
  { cls := 14, slots := #[.int (-115)], vm := .none },
  { cls := 14, slots := #[.int (-114)], vm := .none },
  { cls := 14, slots := #[.int (-113)], vm := .none },
  { cls := 14, slots := #[.int (-112)], vm := .none },
  { cls := 14, slots := #[.int (-111)], vm := .none },
  { cls := 14, slots := #[.int (-110)], vm := .none },
  { cls := 14, slots := #[.int (-109)], vm := .none },
  { cls := 14, slots := #[.int (-108)], vm := .none },
  { cls := 14, slots := #[.int (-107)], vm := .none },
  { cls := 14, slots := #[.int (-106)], vm := .none },
  { cls := 14, slots := #[.int (-105)], vm := .none },
  { cls := 14, slots := #[.int (-104)], vm := .none },
  { cls := 14, slots := #[.int (-103)], vm := .none },
  { cls := 14, slots := #[.int (-102)], vm := .none },
  { cls := 14, slots := #[.int (-101)], vm := .none },
  { cls := 14, slots := #[.int (-100)], vm := .none },
  { cls := 14, slots := #[.int (-99)], vm := .none },
  { cls := 14, slots := #[.int (-98)], vm := .none },
  { cls := 14, slots := #[.int (-97)], vm := .none },
  { cls := 14, slots := #[.int (-96)], vm := .none },
  { cls := 14, slots := #[.int (-95)], vm := .none },
  { cls := 14, slots := #[.int (-94)], vm := .none },
  { cls := 14, slots := #[.int (-93)], vm := .none },
  { cls := 14, slots := #[.int (-92)], vm := .none },
  { cls := 14, slots := #[.int (-91)], vm := .none },
  { cls := 14, slots := #[.int (-90)], vm := .none },
  { cls := 14, slots := #[.int (-89)], vm := .none },
  { cls := 14, slots := #[.int (-88)], vm := .none },
  { cls := 14, slots := #[.int (-87)], vm := .none },
  { cls := 14, slots := #[.int (-86)], vm := .none },
  { cls := 14, slots := #[.int (-85)], vm := .none },
  { cls := 14, slots := #[.int (-84)], vm := .none },
  { cls := 14, slots := #[.int (-83)], vm := .none },
  { cls := 14, slots := #[.int (-82)], vm := .none },
  { cls := 14, slots := #[.int (-81)], vm := .none },
  { cls := 14, slots := #[.int (-80)], vm := .none },
  { cls := 14, slots := #[.int (-79)], vm := .none },
  { cls := 14, slots := #[.int (-78)], vm := .none },
  { cls := 14, slots := #[.int (-77)], vm := .none },
  { cls := 14, slots := #[.int (-76)], vm := .none },
  { cls := 14, slots := #[.int (-75)], vm := .none },
  { cls := 14, slots := #[.int (-74)], vm := .none },
  { cls := 14, slots := #[.int (-73)], vm := .none },
  { cls := 14, slots := #[.int (-72)], vm := .none },
  { cls := 14, slots := #[.int (-71)], vm := .none },
  { cls := 14, slots := #[.int (-70)], vm := .none },
  { cls := 14, slots := #[.int (-69)], vm := .none },
  { cls := 14, slots := #[.int (-68)], vm := .none },
  { cls := 14, slots := #[.int (-67)], vm := .none },
  { cls := 14, slots := #[.int (-66)], vm := .none },
  { cls := 14, slots := #[.int (-65)], vm := .none },
  { cls := 14, slots := #[.int (-64)], vm := .none },
  { cls := 14, slots := #[.int (-63)], vm := .none },
  { cls := 14, slots := #[.int (-62)], vm := .none },
  { cls := 14, slots := #[.int (-61)], vm := .none },
  { cls := 14, slots := #[.int (-60)], vm := .none },
  { cls := 14, slots := #[.int (-59)], vm := .none },
  { cls := 14, slots := #[.int (-58)], vm := .none },
  { cls := 14, slots := #[.int (-57)], vm := .none },
  { cls := 14, slots := #[.int (-56)], vm := .none },
  { cls := 14, slots := #[.int (-55)], vm := .none },
  { cls := 14, slots := #[.int (-54)], vm := .none },
  { cls := 14, slots := #[.int (-53)], vm := .none },
  { cls := 14, slots := #[.int (-52)], vm := .none },
  { cls := 14, slots := #[.int (-51)], vm := .none },
  { cls := 14, slots := #[.int (-50)], vm := .none },
  { cls := 14, slots := #[.int (-49)], vm := .none },
  { cls := 14, slots := #[.int (-48)], vm := .none },
  { cls := 14, slots := #[.int (-47)], vm := .none },
  { cls := 14, slots := #[.int (-46)], vm := .none },
  { cls := 14, slots := #[.int (-45)], vm := .none },
  { cls := 14, slots := #[.int (-44)], vm := .none },
  { cls := 14, slots := #[.int (-43)], vm := .none },
  { cls := 14, slots := #[.int (-42)], vm := .none },
  { cls := 14, slots := #[.int (-41)], vm := .none },
  { cls := 14, slots := #[.int (-40)], vm := .none },
  { cls := 14, slots := #[.int (-39)], vm := .none },
  { cls := 14, slots := #[.int (-38)], vm := .none },
  { cls := 14, slots := #[.int (-37)], vm := .none },
  { cls := 14, slots := #[.int (-36)], vm := .none },
  { cls := 14, slots := #[.int (-35)], vm := .none },
  { cls := 14, slots := #[.int (-34)], vm := .none },
  { cls := 14, slots := #[.int (-33)], vm := .none },
  { cls := 14, slots := #[.int (-32)], vm := .none },
  { cls := 14, slots := #[.int (-31)], vm := .none },
  { cls := 14, slots := #[.int (-30)], vm := .none },
  { cls := 14, slots := #[.int (-29)], vm := .none },
  { cls := 14, slots := #[.int (-28)], vm := .none },
  { cls := 14, slots := #[.int (-27)], vm := .none },
  { cls := 14, slots := #[.int (-26)], vm := .none },
  { cls := 14, slots := #[.int (-25)], vm := .none },
  { cls := 14, slots := #[.int (-24)], vm := .none },
  { cls := 14, slots := #[.int (-23)], vm := .none },
  { cls := 14, slots := #[.int (-22)], vm := .none },
  { cls := 14, slots := #[.int (-21)], vm := .none },
  { cls := 14, slots := #[.int (-20)], vm := .none },
  { cls := 14, slots := #[.int (-19)], vm := .none },
  { cls := 14, slots := #[.int (-18)], vm := .none },
  { cls := 14, slots := #[.int (-17)], vm := .none },
  { cls := 14, slots := #[.int (-16)], vm := .none },
  { cls := 14, slots := #[.int (-15)], vm := .none },
  { cls := 14, slots := #[.int (-14)], vm := .none },
  { cls := 14, slots := #[.int (-13)], vm := .none },
  { cls := 14, slots := #[.int (-12)], vm := .none },
  { cls := 14, slots := #[.int (-11)], vm := .none },
  { cls := 14, slots := #[.int (-10)], vm := .none },
  { cls := 14, slots := #[.int (-9)], vm := .none },
  { cls := 14, slots := #[.int (-8)], vm := .none },
  { cls := 14, slots := #[.int (-7)], vm := .none },
  { cls := 14, slots := #[.int (-6)], vm := .none },
  { cls := 14, slots := #[.int (-5)], vm := .none },
  { cls := 14, slots := #[.int (-4)], vm := .none },
  { cls := 14, slots := #[.int (-3)], vm := .none },
  { cls := 14, slots := #[.int (-2)], vm := .none },
  { cls := 14, slots := #[.int (-1)], vm := .none },
  { cls := 14, slots := #[.int 0], vm := .none },
  { cls := 14, slots := #[.int 1], vm := .none },
  { cls := 14, slots := #[.int 2], vm := .none },
  { cls := 14, slots := #[.int 3], vm := .none },
  { cls := 14, slots := #[.int 4], vm := .none },
  { cls := 14, slots := #[.int 5], vm := .none },
  { cls := 14, slots := #[.int 6], vm := .none },
  { cls := 14, slots := #[.int 7], vm := .none },
  { cls := 14, slots := #[.int 8], vm := .none },
  { cls := 14, slots := #[.int 9], vm := .none },
  { cls := 14, slots := #[.int 10], vm := .none },
  { cls := 14, slots := #[.int 11], vm := .none },
  { cls := 14, slots := #[.int 12], vm := .none },
  { cls := 14, slots := #[.int 13], vm := .none },
  { cls := 14, slots := #[.int 14], vm := .none },
  { cls := 14, slots := #[.int 15], vm := .none },
  { cls := 14, slots := #[.int 16], vm := .none },
  { cls := 14, slots := #[.int 17], vm := .none },
  { cls := 14, slots := #[.int 18], vm := .none },
  { cls := 14, slots := #[.int 19], vm := .none },
  { cls := 14, slots := #[.int 20], vm := .none },
  { cls := 14, slots := #[.int 21], vm := .none },
  { cls := 14, slots := #[.int 22], vm := .none },
  { cls := 14, slots := #[.int 23], vm := .none },
  { cls := 14, slots := #[.int 24], vm := .none },
  { cls := 14, slots := #[.int 25], vm := .none },
  { cls := 14, slots := #[.int 26], vm := .none },
  { cls := 14, slots := #[.int 27], vm := .none },
  { cls := 14, slots := #[.int 28], vm := .none },
  { cls := 14, slots := #[.int 29], vm := .none },
  { cls := 14, slots := #[.int 30], vm := .none },
  { cls := 14, slots := #[.int 31], vm := .none },
  { cls := 14, slots := #[.int 32], vm := .none },
  { cls := 14, slots := #[.int 33], vm := .none },
  { cls := 14, slots := #[.int 34], vm := .none },
  { cls := 14, slots := #[.int 35], vm := .none },
  { cls := 14, slots := #[.int 36], vm := .none },
  { cls := 14, slots := #[.int 37], vm := .none },
  { cls := 14, slots := #[.int 38], vm := .none },
  { cls := 14, slots := #[.int 39], vm := .none },
  { cls := 14, slots := #[.int 40], vm := .none },
  { cls := 14, slots := #[.int 41], vm := .none },
  { cls := 14, slots := #[.int 42], vm := .none },
  { cls := 14, slots := #[.int 43], vm := .none },
  { cls := 14, slots := #[.int 44], vm := .none },
  { cls := 14, slots := #[.int 45], vm := .none },
  { cls := 14, slots := #[.int 46], vm := .none },
  { cls := 14, slots := #[.int 47], vm := .none },
  { cls := 14, slots := #[.int 48], vm := .none },
  { cls := 14, slots := #[.int 49], vm := .none },
  { cls := 14, slots := #[.int 50], vm := .none },
  { cls := 14, slots := #[.int 51], vm := .none },
  { cls := 14, slots := #[.int 52], vm := .none },
  { cls := 14, slots := #[.int 53], vm := .none },
  { cls := 14, slots := #[.int 54], vm := .none },
  { cls := 14, slots := #[.int 55], vm := .none },
  { cls := 14, slots := #[.int 56], vm := .none },
  { cls := 14, slots := #[.int 57], vm := .none },
  { cls := 14, slots := #[.int 58], vm := .none },
  { cls := 14, slots := #[.int 59], vm := .none },
  { cls := 14, slots := #[.int 60], vm := .none },
  { cls := 14, slots := #[.int 61], vm := .none },
  { cls := 14, slots := #[.int 62], vm := .none },
  { cls := 14, slots := #[.int 63], vm := .none },
  { cls := 14, slots := #[.int 64], vm := .none },
  { cls := 14, slots := #[.int 65], vm := .none },
  { cls := 14, slots := #[.int 66], vm := .none },
  { cls := 14, slots := #[.int 67], vm := .none },
  { cls := 14, slots := #[.int 68], vm := .none },
  { cls := 14, slots := #[.int 69], vm := .none },
  { cls := 14, slots := #[.int 70], vm := .none },
  { cls := 14, slots := #[.int 71], vm := .none },
  { cls := 14, slots := #[.int 72], vm := .none },
  { cls := 14, slots := #[.int 73], vm := .none },
  { cls := 14, slots := #[.int 74], vm := .none },
  { cls := 14, slots := #[.int 75], vm := .none },
  { cls := 14, slots := #[.int 76], vm := .none },
  { cls := 14, slots := #[.int 77], vm := .none },
  { cls := 14, slots := #[.int 78], vm := .none },
  { cls := 14, slots := #[.int 79], vm := .none },
  { cls := 14, slots := #[.int 80], vm := .none },
  { cls := 14, slots := #[.int 81], vm := .none },
  { cls := 14, slots := #[.int 82], vm := .none },
  { cls := 14, slots := #[.int 83], vm := .none },
  { cls := 14, slots := #[.int 84], vm := .none },
  { cls := 14, slots := #[.int 85], vm := .none },
  { cls := 14, slots := #[.int 86], vm := .none },
  { cls := 14, slots := #[.int 87], vm := .none },
  { cls := 14, slots := #[.int 88], vm := .none },
  { cls := 14, slots := #[.int 89], vm := .none },
  { cls := 14, slots := #[.int 90], vm := .none },
  { cls := 14, slots := #[.int 91], vm := .none },
  { cls := 14, slots := #[.int 92], vm := .none },
  { cls := 14, slots := #[.int 93], vm := .none },
  { cls := 14, slots := #[.int 94], vm := .none },
  { cls := 14, slots := #[.int 95], vm := .none },
  { cls := 14, slots := #[.int 96], vm := .none },
  { cls := 14, slots := #[.int 97], vm := .none },
  { cls := 14, slots := #[.int 98], vm := .none },
  { cls := 14, slots := #[.int 99], vm := .none },
  { cls := 14, slots := #[.int 100], vm := .none },
  { cls := 14, slots := #[.int 101], vm := .none },
  { cls := 14, slots := #[.int 102], vm := .none },
  { cls := 14, slots := #[.int 103], vm := .none },
  { cls := 14, slots := #[.int 104], vm := .none },
  { cls := 14, slots := #[.int 105], vm := .none },
  { cls := 14, slots := #[.int 106], vm := .none },
  { cls := 14, slots := #[.int 107], vm := .none },
  { cls := 14, slots := #[.int 108], vm := .none },
  { cls := 14, slots := #[.int 109], vm := .none },
  { cls := 14, slots := #[.int 110], vm := .none },
  { cls := 14, slots := #[.int 111], vm := .none },
  { cls := 14, slots := #[.int 112], vm := .none },
  { cls := 14, slots := #[.int 113], vm := .none },
  { cls := 14, slots := #[.int 114], vm := .none },
  { cls := 14, slots := #[.int 115], vm := .none },
  { cls := 14, slots := #[.int 116], vm := .none },
  { cls := 14, slots := #[.int 117], vm := .none },
  { cls := 14, slots := #[.int 118], vm := .none },
  { cls := 14, slots := #[.int 119], vm := .none },
  { cls := 14, slots := #[.int 120], vm := .none },
  { cls := 14, slots := #[.int 121], vm := .none },
  { cls := 14, slots := #[.int 122], vm := .none },
  { cls := 14, slots := #[.int 123], vm := .none },
  { cls := 14, slots := #[.int 124], vm := .none },
  { cls := 14, slots := #[.int 125], vm := .none },
  { cls := 14, slots := #[.int 126], vm := .none },
  { cls := 14, slots := #[.int 127], vm := .none },
  { cls := 8, slots := #[.null, .int 0, .int 0], vm := .none },
  { cls := 8, slots := #[.null, .int 1, .int 0], vm := .none },
  { cls := 8, slots := #[.null, .int 2, .int 0], vm := .none }]
def classes : Array Class := #[k0, k1, k2, k3, k4, k5, k6, k7, k8, k9, k10, k11, k12, k13, k14, k15, k16, k17, k18, k19, k20, k21]
def interned : List (Array UInt16 × Addr) := []
def slotsUsed : Nat := 530
def theMethod : MethodId := ⟨1, 2⟩
def args0 : Array Value := #[.int 5, .int 5, .int 5, .int 5, .int 5]
def aboutOver (below : List Frame) : State where
  vm := { classes := classes, interned := interned.toArray }
  heap := heap
  slotsUsed := slotsUsed
  threads := #[{ frames := .invoking theMethod args0 :: below }]
def below0 : List Frame := [.native { method := ⟨0, 0⟩, args := #[] }]
def about1 : State := aboutOver below0
def p0 : Program := .bare "" "" ""
def e0 : Env := launch0.env 0 0 0
theorem w_frames : about1.frames = Frame.invoking theMethod args0 :: below0 := rfl
set_option maxRecDepth 65536 in
theorem w_args : argsFit about1.vm theMethod args0 = true := by decide +kernel
set_option maxRecDepth 65536 in
theorem w_heap : heapFits about1 = true := by decide +kernel
set_option maxRecDepth 65536 in
theorem w_runnable : about1.curStatus? = some .runnable := by decide +kernel
set_option maxRecDepth 65536 in
theorem w_alone : about1.alone = true := by decide +kernel
set_option maxRecDepth 65536 in
theorem w_named : about1.methodNamed? x = some theMethod := by decide +kernel
set_option maxRecDepth 65536 in
theorem w_hears : about1.hears theMethod below0 = true := by decide +kernel
set_option maxRecDepth 65536 in
theorem w_ripe : about1.ripe theMethod args0 below0 = true := by decide +kernel
theorem w_running : about1.status = .running := rfl
set_option maxRecDepth 65536 in
theorem w_room : about1.hasRoom e0.platform room_1 = true :=
  launch0.hasRoom_least _ room_1 (by decide +kernel) (by decide +kernel) (by decide +kernel) (by decide +kernel) (by decide +kernel) (by decide +kernel)
theorem allAtoms_all (ts : List Jvm.Cond) (a : Array Jvm.Value) (st : Jvm.State) : (allAtoms ts).before a st = ts.all (fun c => c.before a st) := by
  induction ts with
  | nil => rfl
  | cons c t ih =>
    show (Jvm.Cond.and c (allAtoms t)).before a st = _
    rw [Jvm.Cond.before_and, ih, List.all_cons]
def words1 : List Jvm.Cond := Jvm.Cond.code x code maxLocals ret :: tables_1
/-- a 'code' word, met by the world's own term for the bytes: nothing is compared byte by byte -/
theorem code_word {y : MethodName} {bytes : ByteArray} {mx : Nat} {rt : Option FieldType} {a : Array Value} {s : State} {m : MethodId} {meth : Method} {c : Code} (h1 : s.methodNamed? y = some m) (h2 : s.vm.method? m = some meth) (h3 : meth.code = some c) (h4 : c.code = bytes)
    (h5 : (c.maxLocals == mx && c.exceptionTable.isEmpty && decide (c.maxStack ≤ mostOperands) && decide (meth.sig.returnType = rt) && !meth.locks && decide (parseMethodDescriptor y.desc = some meth.sig)) = true) : (Jvm.Cond.code y bytes mx rt).before a s = true := by
  simp only [Bool.and_eq_true, beq_iff_eq, Bool.not_eq_true', decide_eq_true_eq] at h5
  obtain ⟨⟨⟨⟨⟨g1, g2⟩, g3⟩, g4⟩, g5⟩, g6⟩ := h5
  simp [Cond.before, Cond.holds, Cond.value, h1, h2, h3, h4, g1, g2, g3, g4, g5, g6]
def isCode : Jvm.Cond → Bool
  | .code _ _ _ _ => true
  | _ => false
theorem all_split {L : List Jvm.Cond} {P : Jvm.Cond → Bool} (h1 : L.all (fun c => isCode c || P c) = true) (h2 : ∀ c ∈ L.filter isCode, P c = true) : L.all P = true := by
  refine List.all_eq_true.mpr fun c hc => ?_
  have h := List.all_eq_true.mp h1 c hc
  rcases Bool.eq_false_or_eq_true (isCode c) with hi | hi
  · exact h2 c (List.mem_filter.mpr ⟨hc, hi⟩)
  · simpa [hi] using h
set_option maxRecDepth 65536 in
theorem w_c0 : (Jvm.Cond.code x code maxLocals ret).before args0 about1 = true := code_word (m := ⟨1, 2⟩) (meth := k1m2) (c := k1c2) (by decide +kernel) rfl rfl rfl (by decide +kernel)
set_option maxRecDepth 65536 in
theorem w_c1 : (Jvm.Cond.code ({ cls := "com/example/frameloom/frameloom/ConstraintEqualsPinLaw", name := "mode", desc := "(I)Lcom/example/frameloom/frameloom/Constraint$Mode;" } : Jvm.MethodName) method_2_code (1 : Nat) (Option.some (Jvm.ClassFile.FieldType.object "com/example/frameloom/frameloom/Constraint$Mode"))).before args0 about1 = true := code_word (m := ⟨1, 1⟩) (meth := k1m1) (c := k1c1) (by decide +kernel) rfl rfl rfl (by decide +kernel)
set_option maxRecDepth 65536 in
theorem w_c2 : (Jvm.Cond.code ({ cls := "com/example/frameloom/frameloom/Constraint", name := "<init>", desc := "(Lcom/example/frameloom/frameloom/Constraint$Mode;I)V" } : Jvm.MethodName) prog_5_method_1_code (3 : Nat) (Option.none : Option Jvm.ClassFile.FieldType)).before args0 about1 = true := code_word (m := ⟨3, 0⟩) (meth := k3m0) (c := k3c0) (by decide +kernel) rfl rfl rfl (by decide +kernel)
set_option maxRecDepth 65536 in
theorem w_c3 : (Jvm.Cond.code ({ cls := "java/lang/Record", name := "<init>", desc := "()V" } : Jvm.MethodName) jdk_30_method_1_code (1 : Nat) (Option.none : Option Jvm.ClassFile.FieldType)).before args0 about1 = true := code_word (m := ⟨2, 0⟩) (meth := k2m0) (c := k2c0) (by decide +kernel) rfl rfl rfl (by decide +kernel)
set_option maxRecDepth 65536 in
theorem w_c4 : (Jvm.Cond.code ({ cls := "java/lang/Object", name := "<init>", desc := "()V" } : Jvm.MethodName) object_method_1_code (1 : Nat) (Option.none : Option Jvm.ClassFile.FieldType)).before args0 about1 = true := code_word (m := ⟨0, 0⟩) (meth := k0m0) (c := k0c0) (by decide +kernel) rfl rfl rfl (by decide +kernel)
set_option maxRecDepth 65536 in
theorem w_c5 : (Jvm.Cond.code ({ cls := "java/util/Objects", name := "requireNonNull", desc := "(Ljava/lang/Object;Ljava/lang/String;)Ljava/lang/Object;" } : Jvm.MethodName) jdk_31_method_11_code (2 : Nat) (Option.some (Jvm.ClassFile.FieldType.object "java/lang/Object"))).before args0 about1 = true := code_word (m := ⟨12, 1⟩) (meth := k12m1) (c := k12c1) (by decide +kernel) rfl rfl rfl (by decide +kernel)
set_option maxRecDepth 65536 in
theorem w_c6 : (Jvm.Cond.code ({ cls := "com/example/frameloom/frameloom/Constraint", name := "equals", desc := "(Ljava/lang/Object;)Z" } : Jvm.MethodName) prog_5_method_2_code (3 : Nat) (Option.some Jvm.ClassFile.FieldType.boolean)).before args0 about1 = true := code_word (m := ⟨3, 1⟩) (meth := k3m1) (c := k3c1) (by decide +kernel) rfl rfl rfl (by decide +kernel)
set_option maxRecDepth 65536 in
theorem w_c7 : (Jvm.Cond.code ({ cls := "java/lang/Integer", name := "valueOf", desc := "(I)Ljava/lang/Integer;" } : Jvm.MethodName) jdk_33_method_22_code (1 : Nat) (Option.some (Jvm.ClassFile.FieldType.object "java/lang/Integer"))).before args0 about1 = true := code_word (m := ⟨14, 0⟩) (meth := k14m0) (c := k14c0) (by decide +kernel) rfl rfl rfl (by decide +kernel)
set_option maxRecDepth 65536 in
theorem w_c8 : (Jvm.Cond.code ({ cls := "java/lang/Integer", name := "<init>", desc := "(I)V" } : Jvm.MethodName) jdk_33_method_23_code (2 : Nat) (Option.none : Option Jvm.ClassFile.FieldType)).before args0 about1 = true := code_word (m := ⟨14, 1⟩) (meth := k14m1) (c := k14c1) (by decide +kernel) rfl rfl rfl (by decide +kernel)
set_option maxRecDepth 65536 in
theorem w_c9 : (Jvm.Cond.code ({ cls := "java/lang/Number", name := "<init>", desc := "()V" } : Jvm.MethodName) jdk_18_method_1_code (1 : Nat) (Option.none : Option Jvm.ClassFile.FieldType)).before args0 about1 = true := code_word (m := ⟨13, 0⟩) (meth := k13m0) (c := k13c0) (by decide +kernel) rfl rfl rfl (by decide +kernel)
def codes1 : List Jvm.Cond := [Jvm.Cond.code x code maxLocals ret, Jvm.Cond.code ({ cls := "com/example/frameloom/frameloom/ConstraintEqualsPinLaw", name := "mode", desc := "(I)Lcom/example/frameloom/frameloom/Constraint$Mode;" } : Jvm.MethodName) method_2_code (1 : Nat) (Option.some (Jvm.ClassFile.FieldType.object "com/example/frameloom/frameloom/Constraint$Mode")), Jvm.Cond.code ({ cls := "com/example/frameloom/frameloom/Constraint", name := "<init>", desc := "(Lcom/example/frameloom/frameloom/Constraint$Mode;I)V" } : Jvm.MethodName) prog_5_method_1_code (3 : Nat) (Option.none : Option Jvm.ClassFile.FieldType), Jvm.Cond.code ({ cls := "java/lang/Record", name := "<init>", desc := "()V" } : Jvm.MethodName) jdk_30_method_1_code (1 : Nat) (Option.none : Option Jvm.ClassFile.FieldType), Jvm.Cond.code ({ cls := "java/lang/Object", name := "<init>", desc := "()V" } : Jvm.MethodName) object_method_1_code (1 : Nat) (Option.none : Option Jvm.ClassFile.FieldType), Jvm.Cond.code ({ cls := "java/util/Objects", name := "requireNonNull", desc := "(Ljava/lang/Object;Ljava/lang/String;)Ljava/lang/Object;" } : Jvm.MethodName) jdk_31_method_11_code (2 : Nat) (Option.some (Jvm.ClassFile.FieldType.object "java/lang/Object")), Jvm.Cond.code ({ cls := "com/example/frameloom/frameloom/Constraint", name := "equals", desc := "(Ljava/lang/Object;)Z" } : Jvm.MethodName) prog_5_method_2_code (3 : Nat) (Option.some Jvm.ClassFile.FieldType.boolean), Jvm.Cond.code ({ cls := "java/lang/Integer", name := "valueOf", desc := "(I)Ljava/lang/Integer;" } : Jvm.MethodName) jdk_33_method_22_code (1 : Nat) (Option.some (Jvm.ClassFile.FieldType.object "java/lang/Integer")), Jvm.Cond.code ({ cls := "java/lang/Integer", name := "<init>", desc := "(I)V" } : Jvm.MethodName) jdk_33_method_23_code (2 : Nat) (Option.none : Option Jvm.ClassFile.FieldType), Jvm.Cond.code ({ cls := "java/lang/Number", name := "<init>", desc := "()V" } : Jvm.MethodName) jdk_18_method_1_code (1 : Nat) (Option.none : Option Jvm.ClassFile.FieldType)]
set_option maxRecDepth 65536 in
theorem codes_eq : words1.filter isCode = codes1 := rfl
theorem w_codes : ∀ c ∈ words1.filter isCode, c.before args0 about1 = true := by
  rw [codes_eq]
  intro c hc
  simp only [codes1, List.mem_cons, List.not_mem_nil, or_false] at hc
  rcases hc with rfl | rfl | rfl | rfl | rfl | rfl | rfl | rfl | rfl | rfl
  · exact w_c0
  · exact w_c1
  · exact w_c2
  · exact w_c3
  · exact w_c4
  · exact w_c5
  · exact w_c6
  · exact w_c7
  · exact w_c8
  · exact w_c9
set_option maxRecDepth 65536 in
theorem w_t1 : (words1.take 24).all (fun c => isCode c || c.before args0 about1) = true := by decide +kernel
set_option maxRecDepth 65536 in
theorem w_t2 : ((words1.drop 24).take 24).all (fun c => isCode c || c.before args0 about1) = true := by decide +kernel
set_option maxRecDepth 65536 in
theorem w_t3 : (((words1.drop 24).drop 24).take 24).all (fun c => isCode c || c.before args0 about1) = true := by decide +kernel
set_option maxRecDepth 65536 in
theorem w_t4 : (((words1.drop 24).drop 24).drop 24).all (fun c => isCode c || c.before args0 about1) = true := by decide +kernel
theorem w_tables : (allAtoms (Jvm.Cond.code x code maxLocals ret :: tables_1)).before args0 about1 = true := by
  rw [allAtoms_all]
  show words1.all (fun c => c.before args0 about1) = true
  refine all_split ?_ w_codes
  rw [← List.take_append_drop 24 words1, List.all_append, w_t1, ← List.take_append_drop 24 (words1.drop 24), List.all_append, w_t2, ← List.take_append_drop 24 ((words1.drop 24).drop 24), List.all_append, w_t3, w_t4]
  rfl
set_option maxRecDepth 65536 in
theorem w_rest : rest_1_c.before args0 about1 = true := by decide +kernel
set_option maxRecDepth 65536 in
theorem w_case : (Jvm.Cond.and given_1 narrow_1).before args0 about1 = true := by decide +kernel
theorem w_applies : (headSpec (Jvm.Cond.code x code maxLocals ret :: tables_1) room_1).applies x e0.platform about1 = true :=
  (Spec.applies_iff w_frames).mpr ⟨w_running, w_runnable, w_alone, w_named, w_hears, w_ripe, w_room, w_tables⟩
theorem atStart : AtStart classFile x code maxLocals ret World_1 tables_1 room_1 Calls_1 rest_1 Pre_1 launch0 p0 e0 about1 theMethod args0 below0 :=
  ⟨lists_1, trivial, launch0.admits_env _ _ _, launch0.least_env, fairChoices_fair.cas, fairChoices_fair.clock, w_frames, w_args, w_heap, w_applies, trivial, w_rest, w_case⟩
end start1
theorem witness_1 : WitnessClaimed_1 := ⟨start1.p0, start1.e0, start1.about1, start1.theMethod, start1.args0, start1.below0, start1.atStart⟩
end Jvm.Pilot.@@N@@
