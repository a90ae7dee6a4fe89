import JvmDerived
import JvmDerived.Pilot.@@N@@Statement
import JvmDerived.Pilot.@@N@@Code
set_option linter.unusedVariables false
set_option linter.unusedSimpArgs false
namespace Jvm.RoadKit
open Sem ClassFile Op Lib Jvm.Stand Jvm.Free Jvm.LawKit
section New
variable {p : Program} {l : Launch} {e : Env} {R : Room} {s : State} {m : MethodId} {args : Array Value} {below : List Frame} {meth : Method} {c : Code} {T : State} {locs : List Loc} {cells slots : Nat}
theorem retI (X : Stand p l e R s m args below meth c T locs cells slots) (hx : p.tables.exec = Jvm.exec) {pc : Nat} {Ls : Array Slot} {z : Int32} {rest : List Value} (hret : meth.sig.returnType = some .int) (hd : decode c.code pc = .ok (.ireturn, 1)) {fs : List Frame}
    (hl : ∀ (f : JFrame) (acts : List Action), f.method = m → f.locked = none → f.entered = [] → (doReturn e (T.setTop f) acts (some (.int z))).1 = T.setFrames fs) : Steps p.tables e below (T.setTop (mkF m pc Ls (.int z :: rest))) (T.setFrames fs) := by
  have hm' : T.vm.method? m = some meth := X.method'
  have hn : narrow .int (.int z) = .int z := rfl
  show Steps p.tables e below (T.setTop { method := m, pc := pc, locals := Ls, stack := _ :: rest, locked := none }) _
  jvm_step X.here [X.here.top, hx, hd, hm', hret, hn]
  first | (intro acts; rw [hl _ acts rfl rfl rfl]) | rw [hl _ _ rfl rfl rfl]
  exact Steps.refl _
theorem own_lremM {g : JFrame} {target : State} (X : Stand p l e R s m args below meth c T locs cells slots) (hx : p.tables.exec = Jvm.exec) (hg : g.method = m) {x y : Int64} {rest : List Value} (hd : decode c.code g.pc = .ok (.lrem, 1)) (hs : g.stack = .long y :: .long x :: rest) (hy : y ≠ 0)
    (hr : Steps p.tables e below (T.setTop { g with pc := g.pc + 1, stack := .long (x % y) :: rest }) target) : Steps p.tables e below (T.setTop g) target := by
  have q : x - x / y * y = x % y := lrem_mod x y
  exact XS.lrem X.here hx hg hd hs hy (by rw [q]; exact hr)
theorem own_nz {z : Int32} (h : z = 0 ∨ z = 1) : nar .boolean z = z := by rcases h with rfl | rfl <;> rfl
theorem own_cat1 {v : Value} (h : v.isRef = true) : v.category = 1 := by rcases ref_cases h with rfl | ⟨a, rfl⟩ <;> rfl
end New
end Jvm.RoadKit
namespace Jvm.Pilot.@@N@@
open Jvm Jvm.ClassFile Sem Op Lib Jvm.Free Jvm.Stand Jvm.LawKit Jvm.RoadKit Bundle Jvm.Pilot.@@N@@.Jvm.D
def own_pair (a b : Int32) : Int64 := (a.toInt64 <<< ((32 : Int32) &&& 0x3f).toInt64) ||| ((b * (-1640531527 : Int32)).toInt64 &&& (4294967295 : Int64))
def own_hi (k : Int64) : Int32 := ((k.toUInt64 >>> ((32 : Int32) &&& 0x3f).toInt64.toUInt64).toInt64).toInt32
theorem t1 (a : Int32) : ((a.toInt64 <<< ((32 : Int32) &&& 0x3f).toInt64).toInt - a.toInt64.toInt * (2 ^ 32 : Nat)) % 18446744073709551616 = 0 := c_lshl a.toInt64 32 32 (by decide +kernel)
theorem t2 (y : Int64) : (y &&& (4294967295 : Int64)).toInt = y.toInt % (2 ^ 32 : Nat) := c_maskL y 4294967295 32 (by decide +kernel) (by decide +kernel)
theorem own_pair_int (a b : Int32) : ((own_pair a b).toInt - (a.toInt * 4294967296 + (b * (-1640531527 : Int32)).toInt % 4294967296)) % 18446744073709551616 = 0 := by
  unfold own_pair
  generalize hg : b * (-1640531527 : Int32) = g
  have h1 := t1 a
  have h2 := t2 g.toInt64
  rw [c_i2l] at h1 h2
  generalize hA : a.toInt64 <<< ((32 : Int32) &&& 0x3f).toInt64 = A at *
  generalize hB : g.toInt64 &&& (4294967295 : Int64) = B at *
  have h6 := c_orL A B 32 (by decide) 4294967296 (by decide)
  have h5 := rng64 A
  generalize a.toInt = ai at *
  generalize g.toInt = gi at *
  generalize (A ||| B).toInt = ci at *
  generalize A.toInt = Ai at *
  generalize B.toInt = Bi at *
  rw [show ((2 ^ 32 : Nat) : Int) = 4294967296 from rfl] at h1 h2
  have h8 := h6 (by omega) (by omega) (by omega)
  omega
theorem own_pair_hi (a b : Int32) : own_hi (own_pair a b) = a := by
  apply Int32.toInt_inj.mp
  have h1 := own_pair_int a b
  unfold own_hi
  generalize b * (-1640531527 : Int32) = g at *
  generalize own_pair a b = P at *
  have h2 := c_lushr P 32 32 (by decide +kernel) (by decide)
  generalize (P.toUInt64 >>> ((32 : Int32) &&& 0x3f).toInt64.toUInt64).toInt64 = S at *
  have h3 := c_l2i S
  have h4 := rng32 a
  have h5 := rng32 S.toInt32
  have h6 := rng64 P
  rw [show ((2 ^ 32 : Nat) : Int) = 4294967296 from rfl] at h2
  generalize S.toInt32.toInt = ti at *
  generalize S.toInt = si at *
  generalize P.toInt = pi at *
  generalize a.toInt = ai at *
  generalize g.toInt = gi at *
  omega
theorem own_pair_lo (a b : Int32) : (own_pair a b).toInt32 = b * (-1640531527 : Int32) := by
  apply Int32.toInt_inj.mp
  have h1 := own_pair_int a b
  generalize b * (-1640531527 : Int32) = g at *
  generalize own_pair a b = P at *
  have h3 := c_l2i P
  have h4 := rng32 g
  have h5 := rng32 P.toInt32
  generalize P.toInt32.toInt = ti at *
  generalize P.toInt = pi at *
  generalize a.toInt = ai at *
  generalize g.toInt = gi at *
  omega
theorem own_mul_inj {b d : Int32} : b * (-1640531527 : Int32) = d * (-1640531527 : Int32) ↔ b = d := by
  have key : ∀ y : Int32, (y * (-1640531527 : Int32)) * (340573321 : Int32) = y := fun y => by
    rw [Int32.mul_assoc, show (-1640531527 : Int32) * (340573321 : Int32) = 1 from by decide +kernel, Int32.mul_one]
  constructor
  · intro h
    rw [← key b, h, key]
  · rintro rfl; rfl
theorem own_pair_inj (a b c d : Int32) : own_pair a b = own_pair c d ↔ a = c ∧ b = d := by
  constructor
  · intro h
    refine ⟨?_, ?_⟩
    · rw [← own_pair_hi a b, h, own_pair_hi]
    · rw [← own_mul_inj, ← own_pair_lo a b, h, own_pair_lo]
  · rintro ⟨rfl, rfl⟩; rfl
theorem own_spread (u : Int32) : (own_pair u u ^^^ ((own_pair u u).toUInt64 >>> ((32 : Int32) &&& 0x3f).toInt64.toUInt64).toInt64).toInt32 = 0 ↔ (u &&& (536870911 : Int32)) = 0 := by
  have e1 : (own_pair u u ^^^ ((own_pair u u).toUInt64 >>> ((32 : Int32) &&& 0x3f).toInt64.toUInt64).toInt64).toInt32 = (u * (-1640531527 : Int32)) ^^^ u := by
    rw [Int64.toInt32_xor, own_pair_lo]
    exact congrArg _ (own_pair_hi u u)
  rw [e1, Int32.xor_eq_zero_iff]
  have e2 : u * (-1640531527 : Int32) = u + (u * 8) * (331804471 : Int32) := by
    rw [show (-1640531527 : Int32) = 1 + 8 * (331804471 : Int32) from by decide +kernel, Int32.mul_add, Int32.mul_one, ← Int32.mul_assoc]
  have e3 : (u * 8) * (331804471 : Int32) = 0 ↔ u * 8 = 0 := by
    constructor
    · intro h
      have q : ((u * 8) * (331804471 : Int32)) * (-1139804537 : Int32) = u * 8 := by
        rw [Int32.mul_assoc (u * 8), show (331804471 : Int32) * (-1139804537 : Int32) = 1 from by decide +kernel, Int32.mul_one]
      rw [← q, h, Int32.zero_mul]
    · intro h; rw [h, Int32.zero_mul]
  have e4 : u + (u * 8) * (331804471 : Int32) = u ↔ (u * 8) * (331804471 : Int32) = 0 := by
    generalize (u * 8) * (331804471 : Int32) = y
    have h1 := c_iadd u y
    have h2 := rng32 y
    rw [← Int32.toInt_inj, ← Int32.toInt_inj, show (0 : Int32).toInt = 0 from rfl]
    have h3 := rng32 u
    have h4 := rng32 (u + y)
    generalize (u + y).toInt = ci at *
    generalize u.toInt = ui at *
    generalize y.toInt = yi at *
    omega
  rw [e2, e4, e3]
  have h1 := c_imul u 8
  have h2 := c_mask u 536870911 29 (by decide) (by decide +kernel)
  have h3 := rng32 u
  have h4 := rng32 (u * 8)
  rw [show (8 : Int32).toInt = 8 from rfl] at h1
  rw [← Int32.toInt_inj, ← Int32.toInt_inj, h2]
  rw [show (0 : Int32).toInt = 0 from rfl]
  rw [show ((2 ^ 29 : Nat) : Int) = 536870912 from rfl]
  generalize (u * 8).toInt = ci at *
  generalize u.toInt = ui at *
  omega
theorem own_iff01 {A B : Prop} [Decidable A] [Decidable B] (h : A ↔ B) : (if A then (1 : Int32) else 0) = if B then (1 : Int32) else 0 := by
  by_cases q : A
  · rw [if_pos q, if_pos (h.mp q)]
  · rw [if_neg q, if_neg (fun r => q (h.mpr r))]
theorem pd_0 : parseMethodDescriptor "(II)J" = some ⟨[.int, .int], some .long⟩ := by decide +kernel
theorem pn_1 : plainName "com/example/nogood/nogood/problem/ConstraintPairPinLaw" = true := by first | (simp [plainName, overriddenIn]; done) | decide +kernel
theorem dp25_m2_15 : decode prog_25_method_2_code 15 = .ok (.lreturn, 1) := by decide +kernel
theorem dp25_m2_14 : decode prog_25_method_2_code 14 = .ok (.lor, 1) := by decide +kernel
theorem dp25_m2_13 : decode prog_25_method_2_code 13 = .ok (.land, 1) := by decide +kernel
theorem dp25_m2_10 : decode prog_25_method_2_code 10 = .ok (.ldc2_w 43, 3) := by decide +kernel
theorem dp25_m2_9 : decode prog_25_method_2_code 9 = .ok (.i2l, 1) := by decide +kernel
theorem dp25_m2_8 : decode prog_25_method_2_code 8 = .ok (.imul, 1) := by decide +kernel
theorem dp25_m2_6 : decode prog_25_method_2_code 6 = .ok (.ldc 42, 2) := by decide +kernel
theorem dp25_m2_5 : decode prog_25_method_2_code 5 = .ok (.iload_n 1, 1) := by decide +kernel
theorem dp25_m2_4 : decode prog_25_method_2_code 4 = .ok (.lshl, 1) := by decide +kernel
theorem dp25_m2_2 : decode prog_25_method_2_code 2 = .ok (.bipush 32, 2) := by decide +kernel
theorem dp25_m2_1 : decode prog_25_method_2_code 1 = .ok (.i2l, 1) := by decide +kernel
theorem dp25_m2_0 : decode prog_25_method_2_code 0 = .ok (.iload_n 0, 1) := by decide +kernel
theorem pn_0 : plainName "com/example/nogood/nogood/problem/Constraint" = true := by first | (simp [plainName, overriddenIn]; done) | decide +kernel
theorem ef_1 (m : MethodId) (x0 : Int32) (x1 : Int32) : entryFrame m #[(.int x0), (.int x1)] 2 = mkF m 0 #[.val (.int x0), .val (.int x1)] [] := by first | (simp [entryFrame, mkF, argsToLocals, Value.category]; done) | rfl
def Q1 (Z : State) (u1 : Int32) (u2 : Int32) (h0 : Heap) (n0 : Nat) (v : Option Value) (h : Heap) (L : List Loc) : Prop := v = some (.long (own_pair u1 u2)) ∧ Fr n0 L ∧ h = h0
set_option maxRecDepth 65536 in
set_option maxHeartbeats 40000000 in
theorem rm1 (l : Launch) (Z : State) (a0 : Array Value) (hw : ∀ d ∈ tables_1, d.before a0 Z = true) (ws : List Jvm.Cond) (u1 : Int32) (u2 : Int32) (h0 : Heap) (n0 : Nat) (Z0 : n0 ≤ h0.size)  :
    MetFree l (⟨"com/example/nogood/nogood/problem/Constraint", "pair", "(II)J"⟩ : MethodName) (head1 (Jvm.Cond.code (⟨"com/example/nogood/nogood/problem/Constraint", "pair", "(II)J"⟩ : MethodName) prog_25_method_2_code 2 (some .long) :: ws) ({ frames := 0, cells := 0, slots := 0, locals := 0 } : Room)) (fun A_ U => A_ = #[(.int u1), (.int u2)] ∧ Z.Warmed39 U.vm ∧ U.heap = h0) (fun _ _ _ _ _ => True) (fun _ U o U' => ∃ v L, o = .returned v ∧ Q1 Z u1 u2 h0 n0 v U'.heap L ∧ FrameEnd U o U' L ({ frames := 0, cells := 0, slots := 0, locals := 0 } : Room).cells ({ frames := 0, cells := 0, slots := 0, locals := 0 } : Room).slots) := by
  refine MetFree.of_bodySF (plainFor_of_name pn_0) hisR ?_
  intro p e s m args below meth c s₁ Bd hml0 hP hK
  obtain ⟨rfl, hZ, hh⟩ := hP
  have hx := Bd.exec
  have hby := Bd.bytes
  have hml : c.maxLocals = 2 := hml0
  have hown : s.vm.findClass "com/example/nogood/nogood/problem/Constraint" = some m.cls := findClass_of_methodNamed Bd.named
  have hnm := (name_of_methodNamed Bd.named Bd.method).1
  have X0 : Stand p l e ({ frames := 0, cells := 0, slots := 0, locals := 0 } : Room) s m #[(.int u1), (.int u2)] below meth c s₁ [] 0 0 := Stand.of_body Bd
  have e0 : s₁.heap = h0 := by rw [← hh, Bd.state]; rfl
  have N0 := Fr.nil n0
  have k0 : ∀ t, Steps p.tables e below (s₁.setTop (mkF m 0 #[.val (.int u1), .val (.int u2)] [])) t → Steps p.tables e below (s₁.setTop (entryFrame m #[(.int u1), (.int u2)] 2)) t := fun t k => castTop (ef_1 m u1 u2) k
  have k1 : ∀ t, Steps p.tables e below (s₁.setTop (mkF m 15 #[.val (.int u1), .val (.int u2)] [(.long (((u1.toInt64) <<< ((32 : Int32) &&& 0x3f).toInt64) ||| (((u2 * (-1640531527 : Int32)).toInt64) &&& (4294967295 : Int64))))])) t → Steps p.tables e below (s₁.setTop (entryFrame m #[(.int u1), (.int u2)] 2)) t := by
    intro t k
    refine k0 _ ?_
    show Steps p.tables e below (s₁.setTop (mkF m 0 #[.val (.int u1), .val (.int u2)] [])) _
    refine XS.iloadN X0.here hx rfl (hb hby dp25_m2_0) rfl ?_
    show Steps p.tables e below (s₁.setTop (mkF m 1 #[.val (.int u1), .val (.int u2)] [(.int u1)])) _
    refine XS.i2l X0.here hx rfl (hb hby dp25_m2_1) rfl ?_
    show Steps p.tables e below (s₁.setTop (mkF m 2 #[.val (.int u1), .val (.int u2)] [(.long (u1.toInt64))])) _
    refine XS.bipush X0.here hx rfl (hb hby dp25_m2_2) ?_
    show Steps p.tables e below (s₁.setTop (mkF m 4 #[.val (.int u1), .val (.int u2)] [(.int (32 : Int32)), (.long (u1.toInt64))])) _
    refine XS.lshl X0.here hx rfl (hb hby dp25_m2_4) rfl ?_
    show Steps p.tables e below (s₁.setTop (mkF m 5 #[.val (.int u1), .val (.int u2)] [(.long ((u1.toInt64) <<< ((32 : Int32) &&& 0x3f).toInt64))])) _
    refine XS.iloadN X0.here hx rfl (hb hby dp25_m2_5) rfl ?_
    show Steps p.tables e below (s₁.setTop (mkF m 6 #[.val (.int u1), .val (.int u2)] [(.int u2), (.long ((u1.toInt64) <<< ((32 : Int32) &&& 0x3f).toInt64))])) _
    refine X0.ldcInt hx hown (mvT hZ (hw _ (List.mem_of_getElem? (i := 4) rfl))) (g := (mkF m 6 #[.val (.int u1), .val (.int u2)] [(.int u2), (.long ((u1.toInt64) <<< ((32 : Int32) &&& 0x3f).toInt64))])) rfl (hb hby dp25_m2_6) _ ?_
    show Steps p.tables e below (s₁.setTop (mkF m 8 #[.val (.int u1), .val (.int u2)] [(.int (-1640531527 : Int32)), (.int u2), (.long ((u1.toInt64) <<< ((32 : Int32) &&& 0x3f).toInt64))])) _
    refine XS.imul X0.here hx rfl (hb hby dp25_m2_8) rfl ?_
    show Steps p.tables e below (s₁.setTop (mkF m 9 #[.val (.int u1), .val (.int u2)] [(.int (u2 * (-1640531527 : Int32))), (.long ((u1.toInt64) <<< ((32 : Int32) &&& 0x3f).toInt64))])) _
    refine XS.i2l X0.here hx rfl (hb hby dp25_m2_9) rfl ?_
    show Steps p.tables e below (s₁.setTop (mkF m 10 #[.val (.int u1), .val (.int u2)] [(.long ((u2 * (-1640531527 : Int32)).toInt64)), (.long ((u1.toInt64) <<< ((32 : Int32) &&& 0x3f).toInt64))])) _
    refine X0.ldc2Long hx hown (mvT hZ (hw _ (List.mem_of_getElem? (i := 5) rfl))) (g := (mkF m 10 #[.val (.int u1), .val (.int u2)] [(.long ((u2 * (-1640531527 : Int32)).toInt64)), (.long ((u1.toInt64) <<< ((32 : Int32) &&& 0x3f).toInt64))])) rfl (hb hby dp25_m2_10) _ ?_
    show Steps p.tables e below (s₁.setTop (mkF m 13 #[.val (.int u1), .val (.int u2)] [(.long (4294967295 : Int64)), (.long ((u2 * (-1640531527 : Int32)).toInt64)), (.long ((u1.toInt64) <<< ((32 : Int32) &&& 0x3f).toInt64))])) _
    refine XS.land X0.here hx rfl (hb hby dp25_m2_13) rfl ?_
    show Steps p.tables e below (s₁.setTop (mkF m 14 #[.val (.int u1), .val (.int u2)] [(.long (((u2 * (-1640531527 : Int32)).toInt64) &&& (4294967295 : Int64))), (.long ((u1.toInt64) <<< ((32 : Int32) &&& 0x3f).toInt64))])) _
    refine XS.lor X0.here hx rfl (hb hby dp25_m2_14) rfl ?_
    show Steps p.tables e below (s₁.setTop (mkF m 15 #[.val (.int u1), .val (.int u2)] [(.long (((u1.toInt64) <<< ((32 : Int32) &&& 0x3f).toInt64) ||| (((u2 * (-1640531527 : Int32)).toInt64) &&& (4294967295 : Int64))))])) _
    exact k
  obtain ⟨fs, hr, hrun, hended, hW, hsame⟩ := X0.leave (v := some (.long (((u1.toInt64) <<< ((32 : Int32) &&& 0x3f).toInt64) ||| (((u2 * (-1640531527 : Int32)).toInt64) &&& (4294967295 : Int64))))) (fun h => by rw [Bd.returns] at h; cases h)
  refine ⟨_, _, k1 _ ?_, hrun, hended, _, _, rfl, ?_, ⟨_, rfl⟩, hW, hsame.mono (Nat.le_of_ble_eq_true rfl) (Nat.le_of_ble_eq_true rfl)⟩
  · exact retOut X0 hx Bd.returns rfl (Or.inr (Or.inl ⟨rfl, rfl, _, rfl⟩)) (hb hby dp25_m2_15) hr
  · show Q1 Z u1 u2 h0 n0 _ s₁.heap _
    rw [e0]
    exact ⟨rfl, N0, rfl⟩
theorem ef_0 (m : MethodId) (x0 : Int32) (x1 : Int32) (x2 : Int32) (x3 : Int32) (x4 : Int32) (x5 : Int32) : entryFrame m #[(.int x0), (.int x1), (.int x2), (.int x3), (.int x4), (.int x5)] maxLocals = mkF m 0 #[.val (.int x0), .val (.int x1), .val (.int x2), .val (.int x3), .val (.int x4), .val (.int x5), .unset, .unset, .unset, .unset, .unset, .unset, .unset, .unset, .unset, .unset, .unset, .unset, .unset] [] := by first | (simp [entryFrame, mkF, argsToLocals, Value.category, maxLocals]; done) | rfl
def Q0 (Z : State) (p1 : Int32) (p2 : Int32) (p3 : Int32) (p4 : Int32) (p5 : Int32) (p6 : Int32) (h0 : Heap) (n0 : Nat) (v : Option Value) (h : Heap) (L : List Loc) : Prop := v = some (.int 1) ∧ Fr n0 L
set_option maxRecDepth 65536 in
set_option maxHeartbeats 40000000 in
theorem rm0 (l : Launch) (Z : State) (a0 : Array Value) (hw : ∀ d ∈ tables_1, d.before a0 Z = true) (ws : List Jvm.Cond) (p1 : Int32) (p2 : Int32) (p3 : Int32) (p4 : Int32) (p5 : Int32) (p6 : Int32) (h0 : Heap) (n0 : Nat) (Z0 : n0 ≤ h0.size)  :
    MetFree l x (head1 (Jvm.Cond.code x code maxLocals ret :: ws) room_1) (fun A_ U => A_ = #[(.int p1), (.int p2), (.int p3), (.int p4), (.int p5), (.int p6)] ∧ Z.Warmed39 U.vm ∧ U.heap = h0) (fun _ _ _ _ _ => True) (fun _ U o U' => ∃ v L, o = .returned v ∧ Q0 Z p1 p2 p3 p4 p5 p6 h0 n0 v U'.heap L ∧ FrameEnd U o U' L 0 0) := by
  refine MetFree.of_bodySF (plainFor_of_name pn_1) hisR ?_
  intro p e s m args below meth c s₁ Bd hml0 hP hK
  obtain ⟨rfl, hZ, hh⟩ := hP
  have hx := Bd.exec
  have hby := Bd.bytes
  have hml : c.maxLocals = 19 := hml0
  have hown : s.vm.findClass "com/example/nogood/nogood/problem/ConstraintPairPinLaw" = some m.cls := findClass_of_methodNamed Bd.named
  have hnm := (name_of_methodNamed Bd.named Bd.method).1
  have X0 : Stand p l e room_1 s m #[(.int p1), (.int p2), (.int p3), (.int p4), (.int p5), (.int p6)] below meth c s₁ [] 0 0 := Stand.of_body Bd
  have e0 : s₁.heap = h0 := by rw [← hh, Bd.state]; rfl
  have N0 := Fr.nil n0
  have k0 : ∀ t, Steps p.tables e below (s₁.setTop (mkF m 0 #[.val (.int p1), .val (.int p2), .val (.int p3), .val (.int p4), .val (.int p5), .val (.int p6), .unset, .unset, .unset, .unset, .unset, .unset, .unset, .unset, .unset, .unset, .unset, .unset, .unset] [])) t → Steps p.tables e below (s₁.setTop (entryFrame m #[(.int p1), (.int p2), (.int p3), (.int p4), (.int p5), (.int p6)] maxLocals)) t := fun t k => castTop (ef_0 m p1 p2 p3 p4 p5 p6) k
  obtain ⟨c2, eq_c2⟩ : ∃ z : Int32, z = (if (p5 &&& (1 : Int32)) = (0 : Int32) then p3 else p1) := ⟨_, rfl⟩
  have k2 : ∀ t, Steps p.tables e below (s₁.setTop (mkF m 12 #[.val (.int p1), .val (.int p2), .val (.int p3), .val (.int p4), .val (.int p5), .val (.int p6), .unset, .unset, .unset, .unset, .unset, .unset, .unset, .unset, .unset, .unset, .unset, .unset, .unset] [(.int c2)])) t → Steps p.tables e below (s₁.setTop (entryFrame m #[(.int p1), (.int p2), (.int p3), (.int p4), (.int p5), (.int p6)] maxLocals)) t := by
    intro t k
    refine k0 _ ?_
    show Steps p.tables e below (s₁.setTop (mkF m 0 #[.val (.int p1), .val (.int p2), .val (.int p3), .val (.int p4), .val (.int p5), .val (.int p6), .unset, .unset, .unset, .unset, .unset, .unset, .unset, .unset, .unset, .unset, .unset, .unset, .unset] [])) _
    refine XS.iload X0.here hx rfl (hb hby at_0) rfl ?_
    show Steps p.tables e below (s₁.setTop (mkF m 2 #[.val (.int p1), .val (.int p2), .val (.int p3), .val (.int p4), .val (.int p5), .val (.int p6), .unset, .unset, .unset, .unset, .unset, .unset, .unset, .unset, .unset, .unset, .unset, .unset, .unset] [(.int p5)])) _
    refine XS.iconst X0.here hx rfl (hb hby at_2) ?_
    show Steps p.tables e below (s₁.setTop (mkF m 3 #[.val (.int p1), .val (.int p2), .val (.int p3), .val (.int p4), .val (.int p5), .val (.int p6), .unset, .unset, .unset, .unset, .unset, .unset, .unset, .unset, .unset, .unset, .unset, .unset, .unset] [(.int (1 : Int32)), (.int p5)])) _
    refine XS.iand X0.here hx rfl (hb hby at_3) rfl ?_
    show Steps p.tables e below (s₁.setTop (mkF m 4 #[.val (.int p1), .val (.int p2), .val (.int p3), .val (.int p4), .val (.int p5), .val (.int p6), .unset, .unset, .unset, .unset, .unset, .unset, .unset, .unset, .unset, .unset, .unset, .unset, .unset] [(.int (p5 &&& (1 : Int32)))])) _
    by_cases hc1_4 : (p5 &&& (1 : Int32)) = (0 : Int32)
    · rw [show c2 = p3 by rw [eq_c2, if_pos hc1_4]] at k
      show Steps p.tables e below (s₁.setTop (mkF m 4 #[.val (.int p1), .val (.int p2), .val (.int p3), .val (.int p4), .val (.int p5), .val (.int p6), .unset, .unset, .unset, .unset, .unset, .unset, .unset, .unset, .unset, .unset, .unset, .unset, .unset] [(.int (p5 &&& (1 : Int32)))])) _
      refine XS.ifYes X0.here hx rfl (pc0 := 4) (pc' := 11) rfl (hb hby at_4) rfl ((if0 _ _).trans (teq hc1_4).1) (by decide) (by decide) ?_
      show Steps p.tables e below (s₁.setTop (mkF m 11 #[.val (.int p1), .val (.int p2), .val (.int p3), .val (.int p4), .val (.int p5), .val (.int p6), .unset, .unset, .unset, .unset, .unset, .unset, .unset, .unset, .unset, .unset, .unset, .unset, .unset] [])) _
      refine XS.iloadN X0.here hx rfl (hb hby at_11) rfl ?_
      show Steps p.tables e below (s₁.setTop (mkF m 12 #[.val (.int p1), .val (.int p2), .val (.int p3), .val (.int p4), .val (.int p5), .val (.int p6), .unset, .unset, .unset, .unset, .unset, .unset, .unset, .unset, .unset, .unset, .unset, .unset, .unset] [(.int p3)])) _
      exact k
    · rw [show c2 = p1 by rw [eq_c2, if_neg hc1_4]] at k
      show Steps p.tables e below (s₁.setTop (mkF m 4 #[.val (.int p1), .val (.int p2), .val (.int p3), .val (.int p4), .val (.int p5), .val (.int p6), .unset, .unset, .unset, .unset, .unset, .unset, .unset, .unset, .unset, .unset, .unset, .unset, .unset] [(.int (p5 &&& (1 : Int32)))])) _
      refine XS.ifNo X0.here hx rfl (hb hby at_4) rfl ((if0 _ _).trans (feq hc1_4).1) ?_
      show Steps p.tables e below (s₁.setTop (mkF m 7 #[.val (.int p1), .val (.int p2), .val (.int p3), .val (.int p4), .val (.int p5), .val (.int p6), .unset, .unset, .unset, .unset, .unset, .unset, .unset, .unset, .unset, .unset, .unset, .unset, .unset] [])) _
      refine XS.iloadN X0.here hx rfl (hb hby at_7) rfl ?_
      show Steps p.tables e below (s₁.setTop (mkF m 8 #[.val (.int p1), .val (.int p2), .val (.int p3), .val (.int p4), .val (.int p5), .val (.int p6), .unset, .unset, .unset, .unset, .unset, .unset, .unset, .unset, .unset, .unset, .unset, .unset, .unset] [(.int p1)])) _
      refine XS.goto X0.here hx rfl (pc0 := 8) (pc' := 12) rfl (hb hby at_8) (by decide) (by decide) ?_
      show Steps p.tables e below (s₁.setTop (mkF m 12 #[.val (.int p1), .val (.int p2), .val (.int p3), .val (.int p4), .val (.int p5), .val (.int p6), .unset, .unset, .unset, .unset, .unset, .unset, .unset, .unset, .unset, .unset, .unset, .unset, .unset] [(.int p1)])) _
      exact k
  obtain ⟨d2, eq_d2⟩ : ∃ z : Int32, z = (if (p5 &&& (2 : Int32)) = (0 : Int32) then p4 else p2) := ⟨_, rfl⟩
  have k4 : ∀ t, Steps p.tables e below (s₁.setTop (mkF m 26 #[.val (.int p1), .val (.int p2), .val (.int p3), .val (.int p4), .val (.int p5), .val (.int p6), .val (.int c2), .unset, .unset, .unset, .unset, .unset, .unset, .unset, .unset, .unset, .unset, .unset, .unset] [(.int d2)])) t → Steps p.tables e below (s₁.setTop (entryFrame m #[(.int p1), (.int p2), (.int p3), (.int p4), (.int p5), (.int p6)] maxLocals)) t := by
    intro t k
    refine k2 _ ?_
    show Steps p.tables e below (s₁.setTop (mkF m 12 #[.val (.int p1), .val (.int p2), .val (.int p3), .val (.int p4), .val (.int p5), .val (.int p6), .unset, .unset, .unset, .unset, .unset, .unset, .unset, .unset, .unset, .unset, .unset, .unset, .unset] [(.int c2)])) _
    refine XS.istore X0.here hx rfl (hb hby at_12) rfl (l' := #[.val (.int p1), .val (.int p2), .val (.int p3), .val (.int p4), .val (.int p5), .val (.int p6), .val (.int c2), .unset, .unset, .unset, .unset, .unset, .unset, .unset, .unset, .unset, .unset, .unset, .unset]) rfl ?_
    show Steps p.tables e below (s₁.setTop (mkF m 14 #[.val (.int p1), .val (.int p2), .val (.int p3), .val (.int p4), .val (.int p5), .val (.int p6), .val (.int c2), .unset, .unset, .unset, .unset, .unset, .unset, .unset, .unset, .unset, .unset, .unset, .unset] [])) _
    refine XS.iload X0.here hx rfl (hb hby at_14) rfl ?_
    show Steps p.tables e below (s₁.setTop (mkF m 16 #[.val (.int p1), .val (.int p2), .val (.int p3), .val (.int p4), .val (.int p5), .val (.int p6), .val (.int c2), .unset, .unset, .unset, .unset, .unset, .unset, .unset, .unset, .unset, .unset, .unset, .unset] [(.int p5)])) _
    refine XS.iconst X0.here hx rfl (hb hby at_16) ?_
    show Steps p.tables e below (s₁.setTop (mkF m 17 #[.val (.int p1), .val (.int p2), .val (.int p3), .val (.int p4), .val (.int p5), .val (.int p6), .val (.int c2), .unset, .unset, .unset, .unset, .unset, .unset, .unset, .unset, .unset, .unset, .unset, .unset] [(.int (2 : Int32)), (.int p5)])) _
    refine XS.iand X0.here hx rfl (hb hby at_17) rfl ?_
    show Steps p.tables e below (s₁.setTop (mkF m 18 #[.val (.int p1), .val (.int p2), .val (.int p3), .val (.int p4), .val (.int p5), .val (.int p6), .val (.int c2), .unset, .unset, .unset, .unset, .unset, .unset, .unset, .unset, .unset, .unset, .unset, .unset] [(.int (p5 &&& (2 : Int32)))])) _
    by_cases hc3_18 : (p5 &&& (2 : Int32)) = (0 : Int32)
    · rw [show d2 = p4 by rw [eq_d2, if_pos hc3_18]] at k
      show Steps p.tables e below (s₁.setTop (mkF m 18 #[.val (.int p1), .val (.int p2), .val (.int p3), .val (.int p4), .val (.int p5), .val (.int p6), .val (.int c2), .unset, .unset, .unset, .unset, .unset, .unset, .unset, .unset, .unset, .unset, .unset, .unset] [(.int (p5 &&& (2 : Int32)))])) _
      refine XS.ifYes X0.here hx rfl (pc0 := 18) (pc' := 25) rfl (hb hby at_18) rfl ((if0 _ _).trans (teq hc3_18).1) (by decide) (by decide) ?_
      show Steps p.tables e below (s₁.setTop (mkF m 25 #[.val (.int p1), .val (.int p2), .val (.int p3), .val (.int p4), .val (.int p5), .val (.int p6), .val (.int c2), .unset, .unset, .unset, .unset, .unset, .unset, .unset, .unset, .unset, .unset, .unset, .unset] [])) _
      refine XS.iloadN X0.here hx rfl (hb hby at_25) rfl ?_
      show Steps p.tables e below (s₁.setTop (mkF m 26 #[.val (.int p1), .val (.int p2), .val (.int p3), .val (.int p4), .val (.int p5), .val (.int p6), .val (.int c2), .unset, .unset, .unset, .unset, .unset, .unset, .unset, .unset, .unset, .unset, .unset, .unset] [(.int p4)])) _
      exact k
    · rw [show d2 = p2 by rw [eq_d2, if_neg hc3_18]] at k
      show Steps p.tables e below (s₁.setTop (mkF m 18 #[.val (.int p1), .val (.int p2), .val (.int p3), .val (.int p4), .val (.int p5), .val (.int p6), .val (.int c2), .unset, .unset, .unset, .unset, .unset, .unset, .unset, .unset, .unset, .unset, .unset, .unset] [(.int (p5 &&& (2 : Int32)))])) _
      refine XS.ifNo X0.here hx rfl (hb hby at_18) rfl ((if0 _ _).trans (feq hc3_18).1) ?_
      show Steps p.tables e below (s₁.setTop (mkF m 21 #[.val (.int p1), .val (.int p2), .val (.int p3), .val (.int p4), .val (.int p5), .val (.int p6), .val (.int c2), .unset, .unset, .unset, .unset, .unset, .unset, .unset, .unset, .unset, .unset, .unset, .unset] [])) _
      refine XS.iloadN X0.here hx rfl (hb hby at_21) rfl ?_
      show Steps p.tables e below (s₁.setTop (mkF m 22 #[.val (.int p1), .val (.int p2), .val (.int p3), .val (.int p4), .val (.int p5), .val (.int p6), .val (.int c2), .unset, .unset, .unset, .unset, .unset, .unset, .unset, .unset, .unset, .unset, .unset, .unset] [(.int p2)])) _
      refine XS.goto X0.here hx rfl (pc0 := 22) (pc' := 26) rfl (hb hby at_22) (by decide) (by decide) ?_
      show Steps p.tables e below (s₁.setTop (mkF m 26 #[.val (.int p1), .val (.int p2), .val (.int p3), .val (.int p4), .val (.int p5), .val (.int p6), .val (.int c2), .unset, .unset, .unset, .unset, .unset, .unset, .unset, .unset, .unset, .unset, .unset, .unset] [(.int p2)])) _
      exact k
  have k5 : ∀ t, Steps p.tables e below (s₁.setTop (mkF m 30 #[.val (.int p1), .val (.int p2), .val (.int p3), .val (.int p4), .val (.int p5), .val (.int p6), .val (.int c2), .val (.int d2), .unset, .unset, .unset, .unset, .unset, .unset, .unset, .unset, .unset, .unset, .unset] [(.int p2), (.int p1)])) t → Steps p.tables e below (s₁.setTop (entryFrame m #[(.int p1), (.int p2), (.int p3), (.int p4), (.int p5), (.int p6)] maxLocals)) t := by
    intro t k
    refine k4 _ ?_
    show Steps p.tables e below (s₁.setTop (mkF m 26 #[.val (.int p1), .val (.int p2), .val (.int p3), .val (.int p4), .val (.int p5), .val (.int p6), .val (.int c2), .unset, .unset, .unset, .unset, .unset, .unset, .unset, .unset, .unset, .unset, .unset, .unset] [(.int d2)])) _
    refine XS.istore X0.here hx rfl (hb hby at_26) rfl (l' := #[.val (.int p1), .val (.int p2), .val (.int p3), .val (.int p4), .val (.int p5), .val (.int p6), .val (.int c2), .val (.int d2), .unset, .unset, .unset, .unset, .unset, .unset, .unset, .unset, .unset, .unset, .unset]) rfl ?_
    show Steps p.tables e below (s₁.setTop (mkF m 28 #[.val (.int p1), .val (.int p2), .val (.int p3), .val (.int p4), .val (.int p5), .val (.int p6), .val (.int c2), .val (.int d2), .unset, .unset, .unset, .unset, .unset, .unset, .unset, .unset, .unset, .unset, .unset] [])) _
    refine XS.iloadN X0.here hx rfl (hb hby at_28) rfl ?_
    show Steps p.tables e below (s₁.setTop (mkF m 29 #[.val (.int p1), .val (.int p2), .val (.int p3), .val (.int p4), .val (.int p5), .val (.int p6), .val (.int c2), .val (.int d2), .unset, .unset, .unset, .unset, .unset, .unset, .unset, .unset, .unset, .unset, .unset] [(.int p1)])) _
    refine XS.iloadN X0.here hx rfl (hb hby at_29) rfl ?_
    show Steps p.tables e below (s₁.setTop (mkF m 30 #[.val (.int p1), .val (.int p2), .val (.int p3), .val (.int p4), .val (.int p5), .val (.int p6), .val (.int c2), .val (.int d2), .unset, .unset, .unset, .unset, .unset, .unset, .unset, .unset, .unset, .unset, .unset] [(.int p2), (.int p1)])) _
    exact k
  obtain ⟨_, _, ⟨T6, L6, ck6, nk6⟩, -, X6, ⟨Lc6, hQ6, l6, y6, z6⟩, st6⟩ := Jvm.LawKit.callS X0 hx (y := (⟨"com/example/nogood/nogood/problem/Constraint", "pair", "(II)J"⟩ : MethodName)) hown (mvT hZ (hw _ (List.mem_of_getElem? (i := 0) rfl))) (mvT hZ (hw _ (List.mem_of_getElem? (i := 1) rfl))) (mvT hZ (hw _ (List.mem_of_getElem? (i := 2) rfl))) (mvT hZ (hw _ (List.mem_of_getElem? (i := 3) rfl))) (by decide) (backOf (W := 0) (rm1 l Z a0 hw [] p1 p2 h0 n0 Z0) hZ (hw _ (List.mem_of_getElem? (i := 3) rfl)) (hw _ (List.mem_of_getElem? (i := 2) rfl)) (by decide) (by decide)) (g := (mkF m 30 #[.val (.int p1), .val (.int p2), .val (.int p3), .val (.int p4), .val (.int p5), .val (.int p6), .val (.int c2), .val (.int d2), .unset, .unset, .unset, .unset, .unset, .unset, .unset, .unset, .unset, .unset, .unset] [(.int p2), (.int p1)])) rfl (by rw [hml]; rfl) (argsL := [(.int p1), (.int p2)]) (rest := []) (lenOf pd_0 rfl) rfl (by show 2 * 0 + _ ≤ _; exact Nat.le_of_eq rfl) (hb hby at_30) (fun _ _ => ⟨rfl, e0, (by decide : 0 + 0 ≤ _), (by decide : 0 + 0 ≤ _)⟩)
  dsimp only [Pt.U, Pt.locs, Pt.cells, Pt.slots] at X6 l6 y6 z6 st6 hQ6
  subst l6 y6 z6
  obtain ⟨rfl, N6q, e6⟩ := hQ6
  have N6 := Fr.app N0 N6q
  have k6 : ∀ t, Steps p.tables e below (T6.setTop (mkF m 33 #[.val (.int p1), .val (.int p2), .val (.int p3), .val (.int p4), .val (.int p5), .val (.int p6), .val (.int c2), .val (.int d2), .unset, .unset, .unset, .unset, .unset, .unset, .unset, .unset, .unset, .unset, .unset] [(.long (own_pair p1 p2))])) t → Steps p.tables e below (s₁.setTop (entryFrame m #[(.int p1), (.int p2), (.int p3), (.int p4), (.int p5), (.int p6)] maxLocals)) t := fun t k => k5 t (st6 _ k)
  obtain ⟨kA, eq_kA⟩ : ∃ z : Int64, z = (own_pair p1 p2) := ⟨_, rfl⟩
  rw [← eq_kA] at k6
  have k7 : ∀ t, Steps p.tables e below (T6.setTop (mkF m 39 #[.val (.int p1), .val (.int p2), .val (.int p3), .val (.int p4), .val (.int p5), .val (.int p6), .val (.int c2), .val (.int d2), .val (.long kA), .second, .unset, .unset, .unset, .unset, .unset, .unset, .unset, .unset, .unset] [(.int d2), (.int c2)])) t → Steps p.tables e below (s₁.setTop (entryFrame m #[(.int p1), (.int p2), (.int p3), (.int p4), (.int p5), (.int p6)] maxLocals)) t := by
    intro t k
    refine k6 _ ?_
    show Steps p.tables e below (T6.setTop (mkF m 33 #[.val (.int p1), .val (.int p2), .val (.int p3), .val (.int p4), .val (.int p5), .val (.int p6), .val (.int c2), .val (.int d2), .unset, .unset, .unset, .unset, .unset, .unset, .unset, .unset, .unset, .unset, .unset] [(.long kA)])) _
    refine XS.lstore X6.here hx rfl (hb hby at_33) rfl (l' := #[.val (.int p1), .val (.int p2), .val (.int p3), .val (.int p4), .val (.int p5), .val (.int p6), .val (.int c2), .val (.int d2), .val (.long kA), .second, .unset, .unset, .unset, .unset, .unset, .unset, .unset, .unset, .unset]) rfl ?_
    show Steps p.tables e below (T6.setTop (mkF m 35 #[.val (.int p1), .val (.int p2), .val (.int p3), .val (.int p4), .val (.int p5), .val (.int p6), .val (.int c2), .val (.int d2), .val (.long kA), .second, .unset, .unset, .unset, .unset, .unset, .unset, .unset, .unset, .unset] [])) _
    refine XS.iload X6.here hx rfl (hb hby at_35) rfl ?_
    show Steps p.tables e below (T6.setTop (mkF m 37 #[.val (.int p1), .val (.int p2), .val (.int p3), .val (.int p4), .val (.int p5), .val (.int p6), .val (.int c2), .val (.int d2), .val (.long kA), .second, .unset, .unset, .unset, .unset, .unset, .unset, .unset, .unset, .unset] [(.int c2)])) _
    refine XS.iload X6.here hx rfl (hb hby at_37) rfl ?_
    show Steps p.tables e below (T6.setTop (mkF m 39 #[.val (.int p1), .val (.int p2), .val (.int p3), .val (.int p4), .val (.int p5), .val (.int p6), .val (.int c2), .val (.int d2), .val (.long kA), .second, .unset, .unset, .unset, .unset, .unset, .unset, .unset, .unset, .unset] [(.int d2), (.int c2)])) _
    exact k
  obtain ⟨_, _, ⟨T8, L8, ck8, nk8⟩, -, X8, ⟨Lc8, hQ8, l8, y8, z8⟩, st8⟩ := Jvm.LawKit.callS X6 hx (y := (⟨"com/example/nogood/nogood/problem/Constraint", "pair", "(II)J"⟩ : MethodName)) hown (mvT hZ (hw _ (List.mem_of_getElem? (i := 0) rfl))) (mvT hZ (hw _ (List.mem_of_getElem? (i := 1) rfl))) (mvT hZ (hw _ (List.mem_of_getElem? (i := 2) rfl))) (mvT hZ (hw _ (List.mem_of_getElem? (i := 3) rfl))) (by decide) (backOf (W := 0) (rm1 l Z a0 hw [] c2 d2 h0 n0 Z0) hZ (hw _ (List.mem_of_getElem? (i := 3) rfl)) (hw _ (List.mem_of_getElem? (i := 2) rfl)) (by decide) (by decide)) (g := (mkF m 39 #[.val (.int p1), .val (.int p2), .val (.int p3), .val (.int p4), .val (.int p5), .val (.int p6), .val (.int c2), .val (.int d2), .val (.long kA), .second, .unset, .unset, .unset, .unset, .unset, .unset, .unset, .unset, .unset] [(.int d2), (.int c2)])) rfl (by rw [hml]; rfl) (argsL := [(.int c2), (.int d2)]) (rest := []) (lenOf pd_0 rfl) rfl (by show 2 * 0 + _ ≤ _; exact Nat.le_of_eq rfl) (hb hby at_39) (fun _ _ => ⟨rfl, e6, (by decide : 0 + 0 ≤ _), (by decide : 0 + 0 ≤ _)⟩)
  dsimp only [Pt.U, Pt.locs, Pt.cells, Pt.slots] at X8 l8 y8 z8 st8 hQ8
  subst l8 y8 z8
  obtain ⟨rfl, N8q, e8⟩ := hQ8
  have N8 := Fr.app N6 N8q
  have k8 : ∀ t, Steps p.tables e below (T8.setTop (mkF m 42 #[.val (.int p1), .val (.int p2), .val (.int p3), .val (.int p4), .val (.int p5), .val (.int p6), .val (.int c2), .val (.int d2), .val (.long kA), .second, .unset, .unset, .unset, .unset, .unset, .unset, .unset, .unset, .unset] [(.long (own_pair c2 d2))])) t → Steps p.tables e below (s₁.setTop (entryFrame m #[(.int p1), (.int p2), (.int p3), (.int p4), (.int p5), (.int p6)] maxLocals)) t := fun t k => k7 t (st8 _ k)
  obtain ⟨kB, eq_kB⟩ : ∃ z : Int64, z = (own_pair c2 d2) := ⟨_, rfl⟩
  rw [← eq_kB] at k8
  have k9 : ∀ t, Steps p.tables e below (T8.setTop (mkF m 48 #[.val (.int p1), .val (.int p2), .val (.int p3), .val (.int p4), .val (.int p5), .val (.int p6), .val (.int c2), .val (.int d2), .val (.long kA), .second, .val (.long kB), .second, .unset, .unset, .unset, .unset, .unset, .unset, .unset] [(.int p6), (.int p6)])) t → Steps p.tables e below (s₁.setTop (entryFrame m #[(.int p1), (.int p2), (.int p3), (.int p4), (.int p5), (.int p6)] maxLocals)) t := by
    intro t k
    refine k8 _ ?_
    show Steps p.tables e below (T8.setTop (mkF m 42 #[.val (.int p1), .val (.int p2), .val (.int p3), .val (.int p4), .val (.int p5), .val (.int p6), .val (.int c2), .val (.int d2), .val (.long kA), .second, .unset, .unset, .unset, .unset, .unset, .unset, .unset, .unset, .unset] [(.long kB)])) _
    refine XS.lstore X8.here hx rfl (hb hby at_42) rfl (l' := #[.val (.int p1), .val (.int p2), .val (.int p3), .val (.int p4), .val (.int p5), .val (.int p6), .val (.int c2), .val (.int d2), .val (.long kA), .second, .val (.long kB), .second, .unset, .unset, .unset, .unset, .unset, .unset, .unset]) rfl ?_
    show Steps p.tables e below (T8.setTop (mkF m 44 #[.val (.int p1), .val (.int p2), .val (.int p3), .val (.int p4), .val (.int p5), .val (.int p6), .val (.int c2), .val (.int d2), .val (.long kA), .second, .val (.long kB), .second, .unset, .unset, .unset, .unset, .unset, .unset, .unset] [])) _
    refine XS.iload X8.here hx rfl (hb hby at_44) rfl ?_
    show Steps p.tables e below (T8.setTop (mkF m 46 #[.val (.int p1), .val (.int p2), .val (.int p3), .val (.int p4), .val (.int p5), .val (.int p6), .val (.int c2), .val (.int d2), .val (.long kA), .second, .val (.long kB), .second, .unset, .unset, .unset, .unset, .unset, .unset, .unset] [(.int p6)])) _
    refine XS.iload X8.here hx rfl (hb hby at_46) rfl ?_
    show Steps p.tables e below (T8.setTop (mkF m 48 #[.val (.int p1), .val (.int p2), .val (.int p3), .val (.int p4), .val (.int p5), .val (.int p6), .val (.int c2), .val (.int d2), .val (.long kA), .second, .val (.long kB), .second, .unset, .unset, .unset, .unset, .unset, .unset, .unset] [(.int p6), (.int p6)])) _
    exact k
  obtain ⟨_, _, ⟨T10, L10, ck10, nk10⟩, -, X10, ⟨Lc10, hQ10, l10, y10, z10⟩, st10⟩ := Jvm.LawKit.callS X8 hx (y := (⟨"com/example/nogood/nogood/problem/Constraint", "pair", "(II)J"⟩ : MethodName)) hown (mvT hZ (hw _ (List.mem_of_getElem? (i := 0) rfl))) (mvT hZ (hw _ (List.mem_of_getElem? (i := 1) rfl))) (mvT hZ (hw _ (List.mem_of_getElem? (i := 2) rfl))) (mvT hZ (hw _ (List.mem_of_getElem? (i := 3) rfl))) (by decide) (backOf (W := 0) (rm1 l Z a0 hw [] p6 p6 h0 n0 Z0) hZ (hw _ (List.mem_of_getElem? (i := 3) rfl)) (hw _ (List.mem_of_getElem? (i := 2) rfl)) (by decide) (by decide)) (g := (mkF m 48 #[.val (.int p1), .val (.int p2), .val (.int p3), .val (.int p4), .val (.int p5), .val (.int p6), .val (.int c2), .val (.int d2), .val (.long kA), .second, .val (.long kB), .second, .unset, .unset, .unset, .unset, .unset, .unset, .unset] [(.int p6), (.int p6)])) rfl (by rw [hml]; rfl) (argsL := [(.int p6), (.int p6)]) (rest := []) (lenOf pd_0 rfl) rfl (by show 2 * 0 + _ ≤ _; exact Nat.le_of_eq rfl) (hb hby at_48) (fun _ _ => ⟨rfl, e8, (by decide : 0 + 0 ≤ _), (by decide : 0 + 0 ≤ _)⟩)
  dsimp only [Pt.U, Pt.locs, Pt.cells, Pt.slots] at X10 l10 y10 z10 st10 hQ10
  subst l10 y10 z10
  obtain ⟨rfl, N10q, e10⟩ := hQ10
  have N10 := Fr.app N8 N10q
  have k10 : ∀ t, Steps p.tables e below (T10.setTop (mkF m 51 #[.val (.int p1), .val (.int p2), .val (.int p3), .val (.int p4), .val (.int p5), .val (.int p6), .val (.int c2), .val (.int d2), .val (.long kA), .second, .val (.long kB), .second, .unset, .unset, .unset, .unset, .unset, .unset, .unset] [(.long (own_pair p6 p6))])) t → Steps p.tables e below (s₁.setTop (entryFrame m #[(.int p1), (.int p2), (.int p3), (.int p4), (.int p5), (.int p6)] maxLocals)) t := fun t k => k9 t (st10 _ k)
  obtain ⟨kV, eq_kV⟩ : ∃ z : Int64, z = (own_pair p6 p6) := ⟨_, rfl⟩
  rw [← eq_kV] at k10
  obtain ⟨b1, eq_b1⟩ : ∃ z : Int32, z = (if (lcmpW kA kB) = (0 : Int32) then (1 : Int32) else (0 : Int32)) := ⟨_, rfl⟩
  have k12 : ∀ t, Steps p.tables e below (T10.setTop (mkF m 94 #[.val (.int p1), .val (.int p2), .val (.int p3), .val (.int p4), .val (.int p5), .val (.int p6), .val (.int c2), .val (.int d2), .val (.long kA), .second, .val (.long kB), .second, .val (.long kV), .second, .val (.int (1 : Int32)), .unset, .unset, .unset, .unset] [(.int b1)])) t → Steps p.tables e below (s₁.setTop (entryFrame m #[(.int p1), (.int p2), (.int p3), (.int p4), (.int p5), (.int p6)] maxLocals)) t := by
    intro t k
    refine k10 _ ?_
    show Steps p.tables e below (T10.setTop (mkF m 51 #[.val (.int p1), .val (.int p2), .val (.int p3), .val (.int p4), .val (.int p5), .val (.int p6), .val (.int c2), .val (.int d2), .val (.long kA), .second, .val (.long kB), .second, .unset, .unset, .unset, .unset, .unset, .unset, .unset] [(.long kV)])) _
    refine XS.lstore X10.here hx rfl (hb hby at_51) rfl (l' := #[.val (.int p1), .val (.int p2), .val (.int p3), .val (.int p4), .val (.int p5), .val (.int p6), .val (.int c2), .val (.int d2), .val (.long kA), .second, .val (.long kB), .second, .val (.long kV), .second, .unset, .unset, .unset, .unset, .unset]) rfl ?_
    show Steps p.tables e below (T10.setTop (mkF m 53 #[.val (.int p1), .val (.int p2), .val (.int p3), .val (.int p4), .val (.int p5), .val (.int p6), .val (.int c2), .val (.int d2), .val (.long kA), .second, .val (.long kB), .second, .val (.long kV), .second, .unset, .unset, .unset, .unset, .unset] [])) _
    refine XS.lload X10.here hx rfl (hb hby at_53) rfl ?_
    show Steps p.tables e below (T10.setTop (mkF m 55 #[.val (.int p1), .val (.int p2), .val (.int p3), .val (.int p4), .val (.int p5), .val (.int p6), .val (.int c2), .val (.int d2), .val (.long kA), .second, .val (.long kB), .second, .val (.long kV), .second, .unset, .unset, .unset, .unset, .unset] [(.long kA)])) _
    refine XS.bipush X10.here hx rfl (hb hby at_55) ?_
    show Steps p.tables e below (T10.setTop (mkF m 57 #[.val (.int p1), .val (.int p2), .val (.int p3), .val (.int p4), .val (.int p5), .val (.int p6), .val (.int c2), .val (.int d2), .val (.long kA), .second, .val (.long kB), .second, .val (.long kV), .second, .unset, .unset, .unset, .unset, .unset] [(.int (32 : Int32)), (.long kA)])) _
    refine XS.lushr X10.here hx rfl (hb hby at_57) rfl ?_
    show Steps p.tables e below (T10.setTop (mkF m 58 #[.val (.int p1), .val (.int p2), .val (.int p3), .val (.int p4), .val (.int p5), .val (.int p6), .val (.int c2), .val (.int d2), .val (.long kA), .second, .val (.long kB), .second, .val (.long kV), .second, .unset, .unset, .unset, .unset, .unset] [(.long ((kA.toUInt64 >>> ((32 : Int32) &&& 0x3f).toInt64.toUInt64).toInt64))])) _
    refine XS.l2i X10.here hx rfl (hb hby at_58) rfl ?_
    show Steps p.tables e below (T10.setTop (mkF m 59 #[.val (.int p1), .val (.int p2), .val (.int p3), .val (.int p4), .val (.int p5), .val (.int p6), .val (.int c2), .val (.int d2), .val (.long kA), .second, .val (.long kB), .second, .val (.long kV), .second, .unset, .unset, .unset, .unset, .unset] [(.int (((kA.toUInt64 >>> ((32 : Int32) &&& 0x3f).toInt64.toUInt64).toInt64).toInt32))])) _
    refine XS.iloadN X10.here hx rfl (hb hby at_59) rfl ?_
    show Steps p.tables e below (T10.setTop (mkF m 60 #[.val (.int p1), .val (.int p2), .val (.int p3), .val (.int p4), .val (.int p5), .val (.int p6), .val (.int c2), .val (.int d2), .val (.long kA), .second, .val (.long kB), .second, .val (.long kV), .second, .unset, .unset, .unset, .unset, .unset] [(.int p1), (.int (((kA.toUInt64 >>> ((32 : Int32) &&& 0x3f).toInt64.toUInt64).toInt64).toInt32))])) _
    refine XS.icmpNo X10.here hx rfl (hb hby at_60) rfl (teq (by rw [eq_kA]; exact own_pair_hi p1 p2)).2 ?_
    show Steps p.tables e below (T10.setTop (mkF m 63 #[.val (.int p1), .val (.int p2), .val (.int p3), .val (.int p4), .val (.int p5), .val (.int p6), .val (.int c2), .val (.int d2), .val (.long kA), .second, .val (.long kB), .second, .val (.long kV), .second, .unset, .unset, .unset, .unset, .unset] [])) _
    refine XS.lload X10.here hx rfl (hb hby at_63) rfl ?_
    show Steps p.tables e below (T10.setTop (mkF m 65 #[.val (.int p1), .val (.int p2), .val (.int p3), .val (.int p4), .val (.int p5), .val (.int p6), .val (.int c2), .val (.int d2), .val (.long kA), .second, .val (.long kB), .second, .val (.long kV), .second, .unset, .unset, .unset, .unset, .unset] [(.long kB)])) _
    refine XS.bipush X10.here hx rfl (hb hby at_65) ?_
    show Steps p.tables e below (T10.setTop (mkF m 67 #[.val (.int p1), .val (.int p2), .val (.int p3), .val (.int p4), .val (.int p5), .val (.int p6), .val (.int c2), .val (.int d2), .val (.long kA), .second, .val (.long kB), .second, .val (.long kV), .second, .unset, .unset, .unset, .unset, .unset] [(.int (32 : Int32)), (.long kB)])) _
    refine XS.lushr X10.here hx rfl (hb hby at_67) rfl ?_
    show Steps p.tables e below (T10.setTop (mkF m 68 #[.val (.int p1), .val (.int p2), .val (.int p3), .val (.int p4), .val (.int p5), .val (.int p6), .val (.int c2), .val (.int d2), .val (.long kA), .second, .val (.long kB), .second, .val (.long kV), .second, .unset, .unset, .unset, .unset, .unset] [(.long ((kB.toUInt64 >>> ((32 : Int32) &&& 0x3f).toInt64.toUInt64).toInt64))])) _
    refine XS.l2i X10.here hx rfl (hb hby at_68) rfl ?_
    show Steps p.tables e below (T10.setTop (mkF m 69 #[.val (.int p1), .val (.int p2), .val (.int p3), .val (.int p4), .val (.int p5), .val (.int p6), .val (.int c2), .val (.int d2), .val (.long kA), .second, .val (.long kB), .second, .val (.long kV), .second, .unset, .unset, .unset, .unset, .unset] [(.int (((kB.toUInt64 >>> ((32 : Int32) &&& 0x3f).toInt64.toUInt64).toInt64).toInt32))])) _
    refine XS.iload X10.here hx rfl (hb hby at_69) rfl ?_
    show Steps p.tables e below (T10.setTop (mkF m 71 #[.val (.int p1), .val (.int p2), .val (.int p3), .val (.int p4), .val (.int p5), .val (.int p6), .val (.int c2), .val (.int d2), .val (.long kA), .second, .val (.long kB), .second, .val (.long kV), .second, .unset, .unset, .unset, .unset, .unset] [(.int c2), (.int (((kB.toUInt64 >>> ((32 : Int32) &&& 0x3f).toInt64.toUInt64).toInt64).toInt32))])) _
    refine XS.icmpNo X10.here hx rfl (hb hby at_71) rfl (teq (by rw [eq_kB]; exact own_pair_hi c2 d2)).2 ?_
    show Steps p.tables e below (T10.setTop (mkF m 74 #[.val (.int p1), .val (.int p2), .val (.int p3), .val (.int p4), .val (.int p5), .val (.int p6), .val (.int c2), .val (.int d2), .val (.long kA), .second, .val (.long kB), .second, .val (.long kV), .second, .unset, .unset, .unset, .unset, .unset] [])) _
    refine XS.iconst X10.here hx rfl (hb hby at_74) ?_
    show Steps p.tables e below (T10.setTop (mkF m 75 #[.val (.int p1), .val (.int p2), .val (.int p3), .val (.int p4), .val (.int p5), .val (.int p6), .val (.int c2), .val (.int d2), .val (.long kA), .second, .val (.long kB), .second, .val (.long kV), .second, .unset, .unset, .unset, .unset, .unset] [(.int (1 : Int32))])) _
    refine XS.goto X10.here hx rfl (pc0 := 75) (pc' := 79) rfl (hb hby at_75) (by decide) (by decide) ?_
    show Steps p.tables e below (T10.setTop (mkF m 79 #[.val (.int p1), .val (.int p2), .val (.int p3), .val (.int p4), .val (.int p5), .val (.int p6), .val (.int c2), .val (.int d2), .val (.long kA), .second, .val (.long kB), .second, .val (.long kV), .second, .unset, .unset, .unset, .unset, .unset] [(.int (1 : Int32))])) _
    refine XS.istore X10.here hx rfl (hb hby at_79) rfl (l' := #[.val (.int p1), .val (.int p2), .val (.int p3), .val (.int p4), .val (.int p5), .val (.int p6), .val (.int c2), .val (.int d2), .val (.long kA), .second, .val (.long kB), .second, .val (.long kV), .second, .val (.int (1 : Int32)), .unset, .unset, .unset, .unset]) rfl ?_
    show Steps p.tables e below (T10.setTop (mkF m 81 #[.val (.int p1), .val (.int p2), .val (.int p3), .val (.int p4), .val (.int p5), .val (.int p6), .val (.int c2), .val (.int d2), .val (.long kA), .second, .val (.long kB), .second, .val (.long kV), .second, .val (.int (1 : Int32)), .unset, .unset, .unset, .unset] [])) _
    refine XS.lload X10.here hx rfl (hb hby at_81) rfl ?_
    show Steps p.tables e below (T10.setTop (mkF m 83 #[.val (.int p1), .val (.int p2), .val (.int p3), .val (.int p4), .val (.int p5), .val (.int p6), .val (.int c2), .val (.int d2), .val (.long kA), .second, .val (.long kB), .second, .val (.long kV), .second, .val (.int (1 : Int32)), .unset, .unset, .unset, .unset] [(.long kA)])) _
    refine XS.lload X10.here hx rfl (hb hby at_83) rfl ?_
    show Steps p.tables e below (T10.setTop (mkF m 85 #[.val (.int p1), .val (.int p2), .val (.int p3), .val (.int p4), .val (.int p5), .val (.int p6), .val (.int c2), .val (.int d2), .val (.long kA), .second, .val (.long kB), .second, .val (.long kV), .second, .val (.int (1 : Int32)), .unset, .unset, .unset, .unset] [(.long kB), (.long kA)])) _
    refine XS.lcmp X10.here hx rfl (hb hby at_85) rfl ?_
    show Steps p.tables e below (T10.setTop (mkF m 86 #[.val (.int p1), .val (.int p2), .val (.int p3), .val (.int p4), .val (.int p5), .val (.int p6), .val (.int c2), .val (.int d2), .val (.long kA), .second, .val (.long kB), .second, .val (.long kV), .second, .val (.int (1 : Int32)), .unset, .unset, .unset, .unset] [(.int (lcmpW kA kB))])) _
    by_cases hc11_86 : (lcmpW kA kB) = (0 : Int32)
    · rw [show b1 = (1 : Int32) by rw [eq_b1, if_pos hc11_86]] at k
      show Steps p.tables e below (T10.setTop (mkF m 86 #[.val (.int p1), .val (.int p2), .val (.int p3), .val (.int p4), .val (.int p5), .val (.int p6), .val (.int c2), .val (.int d2), .val (.long kA), .second, .val (.long kB), .second, .val (.long kV), .second, .val (.int (1 : Int32)), .unset, .unset, .unset, .unset] [(.int (lcmpW kA kB))])) _
      refine XS.ifNo X10.here hx rfl (hb hby at_86) rfl ((if0 _ _).trans (teq hc11_86).2) ?_
      show Steps p.tables e below (T10.setTop (mkF m 89 #[.val (.int p1), .val (.int p2), .val (.int p3), .val (.int p4), .val (.int p5), .val (.int p6), .val (.int c2), .val (.int d2), .val (.long kA), .second, .val (.long kB), .second, .val (.long kV), .second, .val (.int (1 : Int32)), .unset, .unset, .unset, .unset] [])) _
      refine XS.iconst X10.here hx rfl (hb hby at_89) ?_
      show Steps p.tables e below (T10.setTop (mkF m 90 #[.val (.int p1), .val (.int p2), .val (.int p3), .val (.int p4), .val (.int p5), .val (.int p6), .val (.int c2), .val (.int d2), .val (.long kA), .second, .val (.long kB), .second, .val (.long kV), .second, .val (.int (1 : Int32)), .unset, .unset, .unset, .unset] [(.int (1 : Int32))])) _
      refine XS.goto X10.here hx rfl (pc0 := 90) (pc' := 94) rfl (hb hby at_90) (by decide) (by decide) ?_
      show Steps p.tables e below (T10.setTop (mkF m 94 #[.val (.int p1), .val (.int p2), .val (.int p3), .val (.int p4), .val (.int p5), .val (.int p6), .val (.int c2), .val (.int d2), .val (.long kA), .second, .val (.long kB), .second, .val (.long kV), .second, .val (.int (1 : Int32)), .unset, .unset, .unset, .unset] [(.int (1 : Int32))])) _
      exact k
    · rw [show b1 = (0 : Int32) by rw [eq_b1, if_neg hc11_86]] at k
      show Steps p.tables e below (T10.setTop (mkF m 86 #[.val (.int p1), .val (.int p2), .val (.int p3), .val (.int p4), .val (.int p5), .val (.int p6), .val (.int c2), .val (.int d2), .val (.long kA), .second, .val (.long kB), .second, .val (.long kV), .second, .val (.int (1 : Int32)), .unset, .unset, .unset, .unset] [(.int (lcmpW kA kB))])) _
      refine XS.ifYes X10.here hx rfl (pc0 := 86) (pc' := 93) rfl (hb hby at_86) rfl ((if0 _ _).trans (feq hc11_86).2) (by decide) (by decide) ?_
      show Steps p.tables e below (T10.setTop (mkF m 93 #[.val (.int p1), .val (.int p2), .val (.int p3), .val (.int p4), .val (.int p5), .val (.int p6), .val (.int c2), .val (.int d2), .val (.long kA), .second, .val (.long kB), .second, .val (.long kV), .second, .val (.int (1 : Int32)), .unset, .unset, .unset, .unset] [])) _
      refine XS.iconst X10.here hx rfl (hb hby at_93) ?_
      show Steps p.tables e below (T10.setTop (mkF m 94 #[.val (.int p1), .val (.int p2), .val (.int p3), .val (.int p4), .val (.int p5), .val (.int p6), .val (.int c2), .val (.int d2), .val (.long kA), .second, .val (.long kB), .second, .val (.long kV), .second, .val (.int (1 : Int32)), .unset, .unset, .unset, .unset] [(.int (0 : Int32))])) _
      exact k
  obtain ⟨b2, eq_b2⟩ : ∃ z : Int32, z = (if p1 = c2 then (if p2 = d2 then (1 : Int32) else (0 : Int32)) else (0 : Int32)) := ⟨_, rfl⟩
  have k15 : ∀ t, Steps p.tables e below (T10.setTop (mkF m 111 #[.val (.int p1), .val (.int p2), .val (.int p3), .val (.int p4), .val (.int p5), .val (.int p6), .val (.int c2), .val (.int d2), .val (.long kA), .second, .val (.long kB), .second, .val (.long kV), .second, .val (.int (1 : Int32)), .unset, .unset, .unset, .unset] [(.int b2), (.int b1)])) t → Steps p.tables e below (s₁.setTop (entryFrame m #[(.int p1), (.int p2), (.int p3), (.int p4), (.int p5), (.int p6)] maxLocals)) t := by
    intro t k
    refine k12 _ ?_
    show Steps p.tables e below (T10.setTop (mkF m 94 #[.val (.int p1), .val (.int p2), .val (.int p3), .val (.int p4), .val (.int p5), .val (.int p6), .val (.int c2), .val (.int d2), .val (.long kA), .second, .val (.long kB), .second, .val (.long kV), .second, .val (.int (1 : Int32)), .unset, .unset, .unset, .unset] [(.int b1)])) _
    refine XS.iloadN X10.here hx rfl (hb hby at_94) rfl ?_
    show Steps p.tables e below (T10.setTop (mkF m 95 #[.val (.int p1), .val (.int p2), .val (.int p3), .val (.int p4), .val (.int p5), .val (.int p6), .val (.int c2), .val (.int d2), .val (.long kA), .second, .val (.long kB), .second, .val (.long kV), .second, .val (.int (1 : Int32)), .unset, .unset, .unset, .unset] [(.int p1), (.int b1)])) _
    refine XS.iload X10.here hx rfl (hb hby at_95) rfl ?_
    show Steps p.tables e below (T10.setTop (mkF m 97 #[.val (.int p1), .val (.int p2), .val (.int p3), .val (.int p4), .val (.int p5), .val (.int p6), .val (.int c2), .val (.int d2), .val (.long kA), .second, .val (.long kB), .second, .val (.long kV), .second, .val (.int (1 : Int32)), .unset, .unset, .unset, .unset] [(.int c2), (.int p1), (.int b1)])) _
    by_cases hc13_97 : p1 = c2
    · show Steps p.tables e below (T10.setTop (mkF m 97 #[.val (.int p1), .val (.int p2), .val (.int p3), .val (.int p4), .val (.int p5), .val (.int p6), .val (.int c2), .val (.int d2), .val (.long kA), .second, .val (.long kB), .second, .val (.long kV), .second, .val (.int (1 : Int32)), .unset, .unset, .unset, .unset] [(.int c2), (.int p1), (.int b1)])) _
      refine XS.icmpNo X10.here hx rfl (hb hby at_97) rfl (teq hc13_97).2 ?_
      show Steps p.tables e below (T10.setTop (mkF m 100 #[.val (.int p1), .val (.int p2), .val (.int p3), .val (.int p4), .val (.int p5), .val (.int p6), .val (.int c2), .val (.int d2), .val (.long kA), .second, .val (.long kB), .second, .val (.long kV), .second, .val (.int (1 : Int32)), .unset, .unset, .unset, .unset] [(.int b1)])) _
      refine XS.iloadN X10.here hx rfl (hb hby at_100) rfl ?_
      show Steps p.tables e below (T10.setTop (mkF m 101 #[.val (.int p1), .val (.int p2), .val (.int p3), .val (.int p4), .val (.int p5), .val (.int p6), .val (.int c2), .val (.int d2), .val (.long kA), .second, .val (.long kB), .second, .val (.long kV), .second, .val (.int (1 : Int32)), .unset, .unset, .unset, .unset] [(.int p2), (.int b1)])) _
      refine XS.iload X10.here hx rfl (hb hby at_101) rfl ?_
      show Steps p.tables e below (T10.setTop (mkF m 103 #[.val (.int p1), .val (.int p2), .val (.int p3), .val (.int p4), .val (.int p5), .val (.int p6), .val (.int c2), .val (.int d2), .val (.long kA), .second, .val (.long kB), .second, .val (.long kV), .second, .val (.int (1 : Int32)), .unset, .unset, .unset, .unset] [(.int d2), (.int p2), (.int b1)])) _
      by_cases hc14_103 : p2 = d2
      · rw [show b2 = (1 : Int32) by rw [eq_b2, if_pos hc13_97, if_pos hc14_103]] at k
        show Steps p.tables e below (T10.setTop (mkF m 103 #[.val (.int p1), .val (.int p2), .val (.int p3), .val (.int p4), .val (.int p5), .val (.int p6), .val (.int c2), .val (.int d2), .val (.long kA), .second, .val (.long kB), .second, .val (.long kV), .second, .val (.int (1 : Int32)), .unset, .unset, .unset, .unset] [(.int d2), (.int p2), (.int b1)])) _
        refine XS.icmpNo X10.here hx rfl (hb hby at_103) rfl (teq hc14_103).2 ?_
        show Steps p.tables e below (T10.setTop (mkF m 106 #[.val (.int p1), .val (.int p2), .val (.int p3), .val (.int p4), .val (.int p5), .val (.int p6), .val (.int c2), .val (.int d2), .val (.long kA), .second, .val (.long kB), .second, .val (.long kV), .second, .val (.int (1 : Int32)), .unset, .unset, .unset, .unset] [(.int b1)])) _
        refine XS.iconst X10.here hx rfl (hb hby at_106) ?_
        show Steps p.tables e below (T10.setTop (mkF m 107 #[.val (.int p1), .val (.int p2), .val (.int p3), .val (.int p4), .val (.int p5), .val (.int p6), .val (.int c2), .val (.int d2), .val (.long kA), .second, .val (.long kB), .second, .val (.long kV), .second, .val (.int (1 : Int32)), .unset, .unset, .unset, .unset] [(.int (1 : Int32)), (.int b1)])) _
        refine XS.goto X10.here hx rfl (pc0 := 107) (pc' := 111) rfl (hb hby at_107) (by decide) (by decide) ?_
        show Steps p.tables e below (T10.setTop (mkF m 111 #[.val (.int p1), .val (.int p2), .val (.int p3), .val (.int p4), .val (.int p5), .val (.int p6), .val (.int c2), .val (.int d2), .val (.long kA), .second, .val (.long kB), .second, .val (.long kV), .second, .val (.int (1 : Int32)), .unset, .unset, .unset, .unset] [(.int (1 : Int32)), (.int b1)])) _
        exact k
      · rw [show b2 = (0 : Int32) by rw [eq_b2, if_pos hc13_97, if_neg hc14_103]] at k
        show Steps p.tables e below (T10.setTop (mkF m 103 #[.val (.int p1), .val (.int p2), .val (.int p3), .val (.int p4), .val (.int p5), .val (.int p6), .val (.int c2), .val (.int d2), .val (.long kA), .second, .val (.long kB), .second, .val (.long kV), .second, .val (.int (1 : Int32)), .unset, .unset, .unset, .unset] [(.int d2), (.int p2), (.int b1)])) _
        refine XS.icmpYes X10.here hx rfl (pc0 := 103) (pc' := 110) rfl (hb hby at_103) rfl (feq hc14_103).2 (by decide) (by decide) ?_
        show Steps p.tables e below (T10.setTop (mkF m 110 #[.val (.int p1), .val (.int p2), .val (.int p3), .val (.int p4), .val (.int p5), .val (.int p6), .val (.int c2), .val (.int d2), .val (.long kA), .second, .val (.long kB), .second, .val (.long kV), .second, .val (.int (1 : Int32)), .unset, .unset, .unset, .unset] [(.int b1)])) _
        refine XS.iconst X10.here hx rfl (hb hby at_110) ?_
        show Steps p.tables e below (T10.setTop (mkF m 111 #[.val (.int p1), .val (.int p2), .val (.int p3), .val (.int p4), .val (.int p5), .val (.int p6), .val (.int c2), .val (.int d2), .val (.long kA), .second, .val (.long kB), .second, .val (.long kV), .second, .val (.int (1 : Int32)), .unset, .unset, .unset, .unset] [(.int (0 : Int32)), (.int b1)])) _
        exact k
    · rw [show b2 = (0 : Int32) by rw [eq_b2, if_neg hc13_97]] at k
      show Steps p.tables e below (T10.setTop (mkF m 97 #[.val (.int p1), .val (.int p2), .val (.int p3), .val (.int p4), .val (.int p5), .val (.int p6), .val (.int c2), .val (.int d2), .val (.long kA), .second, .val (.long kB), .second, .val (.long kV), .second, .val (.int (1 : Int32)), .unset, .unset, .unset, .unset] [(.int c2), (.int p1), (.int b1)])) _
      refine XS.icmpYes X10.here hx rfl (pc0 := 97) (pc' := 110) rfl (hb hby at_97) rfl (feq hc13_97).2 (by decide) (by decide) ?_
      show Steps p.tables e below (T10.setTop (mkF m 110 #[.val (.int p1), .val (.int p2), .val (.int p3), .val (.int p4), .val (.int p5), .val (.int p6), .val (.int c2), .val (.int d2), .val (.long kA), .second, .val (.long kB), .second, .val (.long kV), .second, .val (.int (1 : Int32)), .unset, .unset, .unset, .unset] [(.int b1)])) _
      refine XS.iconst X10.here hx rfl (hb hby at_110) ?_
      show Steps p.tables e below (T10.setTop (mkF m 111 #[.val (.int p1), .val (.int p2), .val (.int p3), .val (.int p4), .val (.int p5), .val (.int p6), .val (.int c2), .val (.int d2), .val (.long kA), .second, .val (.long kB), .second, .val (.long kV), .second, .val (.int (1 : Int32)), .unset, .unset, .unset, .unset] [(.int (0 : Int32)), (.int b1)])) _
      exact k
  obtain ⟨b3, eq_b3⟩ : ∃ z : Int32, z = (if (kA.toInt32) = (kB.toInt32) then (1 : Int32) else (0 : Int32)) := ⟨_, rfl⟩
  have k17 : ∀ t, Steps p.tables e below (T10.setTop (mkF m 135 #[.val (.int p1), .val (.int p2), .val (.int p3), .val (.int p4), .val (.int p5), .val (.int p6), .val (.int c2), .val (.int d2), .val (.long kA), .second, .val (.long kB), .second, .val (.long kV), .second, .val (.int (1 : Int32)), .val (.int (1 : Int32)), .unset, .unset, .unset] [(.int b3)])) t → Steps p.tables e below (s₁.setTop (entryFrame m #[(.int p1), (.int p2), (.int p3), (.int p4), (.int p5), (.int p6)] maxLocals)) t := by
    intro t k
    refine k15 _ ?_
    show Steps p.tables e below (T10.setTop (mkF m 111 #[.val (.int p1), .val (.int p2), .val (.int p3), .val (.int p4), .val (.int p5), .val (.int p6), .val (.int c2), .val (.int d2), .val (.long kA), .second, .val (.long kB), .second, .val (.long kV), .second, .val (.int (1 : Int32)), .unset, .unset, .unset, .unset] [(.int b2), (.int b1)])) _
    refine XS.icmpNo X10.here hx rfl (hb hby at_111) rfl (teq (by rw [eq_b1, eq_b2, eq_kA, eq_kB, own_iff01 ((lw_eq _ _).trans (own_pair_inj p1 p2 c2 d2))]; by_cases q1 : p1 = c2 <;> by_cases q2 : p2 = d2 <;> simp [q1, q2])).2 ?_
    show Steps p.tables e below (T10.setTop (mkF m 114 #[.val (.int p1), .val (.int p2), .val (.int p3), .val (.int p4), .val (.int p5), .val (.int p6), .val (.int c2), .val (.int d2), .val (.long kA), .second, .val (.long kB), .second, .val (.long kV), .second, .val (.int (1 : Int32)), .unset, .unset, .unset, .unset] [])) _
    refine XS.iconst X10.here hx rfl (hb hby at_114) ?_
    show Steps p.tables e below (T10.setTop (mkF m 115 #[.val (.int p1), .val (.int p2), .val (.int p3), .val (.int p4), .val (.int p5), .val (.int p6), .val (.int c2), .val (.int d2), .val (.long kA), .second, .val (.long kB), .second, .val (.long kV), .second, .val (.int (1 : Int32)), .unset, .unset, .unset, .unset] [(.int (1 : Int32))])) _
    refine XS.goto X10.here hx rfl (pc0 := 115) (pc' := 119) rfl (hb hby at_115) (by decide) (by decide) ?_
    show Steps p.tables e below (T10.setTop (mkF m 119 #[.val (.int p1), .val (.int p2), .val (.int p3), .val (.int p4), .val (.int p5), .val (.int p6), .val (.int c2), .val (.int d2), .val (.long kA), .second, .val (.long kB), .second, .val (.long kV), .second, .val (.int (1 : Int32)), .unset, .unset, .unset, .unset] [(.int (1 : Int32))])) _
    refine XS.istore X10.here hx rfl (hb hby at_119) rfl (l' := #[.val (.int p1), .val (.int p2), .val (.int p3), .val (.int p4), .val (.int p5), .val (.int p6), .val (.int c2), .val (.int d2), .val (.long kA), .second, .val (.long kB), .second, .val (.long kV), .second, .val (.int (1 : Int32)), .val (.int (1 : Int32)), .unset, .unset, .unset]) rfl ?_
    show Steps p.tables e below (T10.setTop (mkF m 121 #[.val (.int p1), .val (.int p2), .val (.int p3), .val (.int p4), .val (.int p5), .val (.int p6), .val (.int c2), .val (.int d2), .val (.long kA), .second, .val (.long kB), .second, .val (.long kV), .second, .val (.int (1 : Int32)), .val (.int (1 : Int32)), .unset, .unset, .unset] [])) _
    refine XS.lload X10.here hx rfl (hb hby at_121) rfl ?_
    show Steps p.tables e below (T10.setTop (mkF m 123 #[.val (.int p1), .val (.int p2), .val (.int p3), .val (.int p4), .val (.int p5), .val (.int p6), .val (.int c2), .val (.int d2), .val (.long kA), .second, .val (.long kB), .second, .val (.long kV), .second, .val (.int (1 : Int32)), .val (.int (1 : Int32)), .unset, .unset, .unset] [(.long kA)])) _
    refine XS.l2i X10.here hx rfl (hb hby at_123) rfl ?_
    show Steps p.tables e below (T10.setTop (mkF m 124 #[.val (.int p1), .val (.int p2), .val (.int p3), .val (.int p4), .val (.int p5), .val (.int p6), .val (.int c2), .val (.int d2), .val (.long kA), .second, .val (.long kB), .second, .val (.long kV), .second, .val (.int (1 : Int32)), .val (.int (1 : Int32)), .unset, .unset, .unset] [(.int (kA.toInt32))])) _
    refine XS.lload X10.here hx rfl (hb hby at_124) rfl ?_
    show Steps p.tables e below (T10.setTop (mkF m 126 #[.val (.int p1), .val (.int p2), .val (.int p3), .val (.int p4), .val (.int p5), .val (.int p6), .val (.int c2), .val (.int d2), .val (.long kA), .second, .val (.long kB), .second, .val (.long kV), .second, .val (.int (1 : Int32)), .val (.int (1 : Int32)), .unset, .unset, .unset] [(.long kB), (.int (kA.toInt32))])) _
    refine XS.l2i X10.here hx rfl (hb hby at_126) rfl ?_
    show Steps p.tables e below (T10.setTop (mkF m 127 #[.val (.int p1), .val (.int p2), .val (.int p3), .val (.int p4), .val (.int p5), .val (.int p6), .val (.int c2), .val (.int d2), .val (.long kA), .second, .val (.long kB), .second, .val (.long kV), .second, .val (.int (1 : Int32)), .val (.int (1 : Int32)), .unset, .unset, .unset] [(.int (kB.toInt32)), (.int (kA.toInt32))])) _
    by_cases hc16_127 : (kA.toInt32) = (kB.toInt32)
    · rw [show b3 = (1 : Int32) by rw [eq_b3, if_pos hc16_127]] at k
      show Steps p.tables e below (T10.setTop (mkF m 127 #[.val (.int p1), .val (.int p2), .val (.int p3), .val (.int p4), .val (.int p5), .val (.int p6), .val (.int c2), .val (.int d2), .val (.long kA), .second, .val (.long kB), .second, .val (.long kV), .second, .val (.int (1 : Int32)), .val (.int (1 : Int32)), .unset, .unset, .unset] [(.int (kB.toInt32)), (.int (kA.toInt32))])) _
      refine XS.icmpNo X10.here hx rfl (hb hby at_127) rfl (teq hc16_127).2 ?_
      show Steps p.tables e below (T10.setTop (mkF m 130 #[.val (.int p1), .val (.int p2), .val (.int p3), .val (.int p4), .val (.int p5), .val (.int p6), .val (.int c2), .val (.int d2), .val (.long kA), .second, .val (.long kB), .second, .val (.long kV), .second, .val (.int (1 : Int32)), .val (.int (1 : Int32)), .unset, .unset, .unset] [])) _
      refine XS.iconst X10.here hx rfl (hb hby at_130) ?_
      show Steps p.tables e below (T10.setTop (mkF m 131 #[.val (.int p1), .val (.int p2), .val (.int p3), .val (.int p4), .val (.int p5), .val (.int p6), .val (.int c2), .val (.int d2), .val (.long kA), .second, .val (.long kB), .second, .val (.long kV), .second, .val (.int (1 : Int32)), .val (.int (1 : Int32)), .unset, .unset, .unset] [(.int (1 : Int32))])) _
      refine XS.goto X10.here hx rfl (pc0 := 131) (pc' := 135) rfl (hb hby at_131) (by decide) (by decide) ?_
      show Steps p.tables e below (T10.setTop (mkF m 135 #[.val (.int p1), .val (.int p2), .val (.int p3), .val (.int p4), .val (.int p5), .val (.int p6), .val (.int c2), .val (.int d2), .val (.long kA), .second, .val (.long kB), .second, .val (.long kV), .second, .val (.int (1 : Int32)), .val (.int (1 : Int32)), .unset, .unset, .unset] [(.int (1 : Int32))])) _
      exact k
    · rw [show b3 = (0 : Int32) by rw [eq_b3, if_neg hc16_127]] at k
      show Steps p.tables e below (T10.setTop (mkF m 127 #[.val (.int p1), .val (.int p2), .val (.int p3), .val (.int p4), .val (.int p5), .val (.int p6), .val (.int c2), .val (.int d2), .val (.long kA), .second, .val (.long kB), .second, .val (.long kV), .second, .val (.int (1 : Int32)), .val (.int (1 : Int32)), .unset, .unset, .unset] [(.int (kB.toInt32)), (.int (kA.toInt32))])) _
      refine XS.icmpYes X10.here hx rfl (pc0 := 127) (pc' := 134) rfl (hb hby at_127) rfl (feq hc16_127).2 (by decide) (by decide) ?_
      show Steps p.tables e below (T10.setTop (mkF m 134 #[.val (.int p1), .val (.int p2), .val (.int p3), .val (.int p4), .val (.int p5), .val (.int p6), .val (.int c2), .val (.int d2), .val (.long kA), .second, .val (.long kB), .second, .val (.long kV), .second, .val (.int (1 : Int32)), .val (.int (1 : Int32)), .unset, .unset, .unset] [])) _
      refine XS.iconst X10.here hx rfl (hb hby at_134) ?_
      show Steps p.tables e below (T10.setTop (mkF m 135 #[.val (.int p1), .val (.int p2), .val (.int p3), .val (.int p4), .val (.int p5), .val (.int p6), .val (.int c2), .val (.int d2), .val (.long kA), .second, .val (.long kB), .second, .val (.long kV), .second, .val (.int (1 : Int32)), .val (.int (1 : Int32)), .unset, .unset, .unset] [(.int (0 : Int32))])) _
      exact k
  obtain ⟨b4, eq_b4⟩ : ∃ z : Int32, z = (if p2 = d2 then (1 : Int32) else (0 : Int32)) := ⟨_, rfl⟩
  have k19 : ∀ t, Steps p.tables e below (T10.setTop (mkF m 146 #[.val (.int p1), .val (.int p2), .val (.int p3), .val (.int p4), .val (.int p5), .val (.int p6), .val (.int c2), .val (.int d2), .val (.long kA), .second, .val (.long kB), .second, .val (.long kV), .second, .val (.int (1 : Int32)), .val (.int (1 : Int32)), .unset, .unset, .unset] [(.int b4), (.int b3)])) t → Steps p.tables e below (s₁.setTop (entryFrame m #[(.int p1), (.int p2), (.int p3), (.int p4), (.int p5), (.int p6)] maxLocals)) t := by
    intro t k
    refine k17 _ ?_
    show Steps p.tables e below (T10.setTop (mkF m 135 #[.val (.int p1), .val (.int p2), .val (.int p3), .val (.int p4), .val (.int p5), .val (.int p6), .val (.int c2), .val (.int d2), .val (.long kA), .second, .val (.long kB), .second, .val (.long kV), .second, .val (.int (1 : Int32)), .val (.int (1 : Int32)), .unset, .unset, .unset] [(.int b3)])) _
    refine XS.iloadN X10.here hx rfl (hb hby at_135) rfl ?_
    show Steps p.tables e below (T10.setTop (mkF m 136 #[.val (.int p1), .val (.int p2), .val (.int p3), .val (.int p4), .val (.int p5), .val (.int p6), .val (.int c2), .val (.int d2), .val (.long kA), .second, .val (.long kB), .second, .val (.long kV), .second, .val (.int (1 : Int32)), .val (.int (1 : Int32)), .unset, .unset, .unset] [(.int p2), (.int b3)])) _
    refine XS.iload X10.here hx rfl (hb hby at_136) rfl ?_
    show Steps p.tables e below (T10.setTop (mkF m 138 #[.val (.int p1), .val (.int p2), .val (.int p3), .val (.int p4), .val (.int p5), .val (.int p6), .val (.int c2), .val (.int d2), .val (.long kA), .second, .val (.long kB), .second, .val (.long kV), .second, .val (.int (1 : Int32)), .val (.int (1 : Int32)), .unset, .unset, .unset] [(.int d2), (.int p2), (.int b3)])) _
    by_cases hc18_138 : p2 = d2
    · rw [show b4 = (1 : Int32) by rw [eq_b4, if_pos hc18_138]] at k
      show Steps p.tables e below (T10.setTop (mkF m 138 #[.val (.int p1), .val (.int p2), .val (.int p3), .val (.int p4), .val (.int p5), .val (.int p6), .val (.int c2), .val (.int d2), .val (.long kA), .second, .val (.long kB), .second, .val (.long kV), .second, .val (.int (1 : Int32)), .val (.int (1 : Int32)), .unset, .unset, .unset] [(.int d2), (.int p2), (.int b3)])) _
      refine XS.icmpNo X10.here hx rfl (hb hby at_138) rfl (teq hc18_138).2 ?_
      show Steps p.tables e below (T10.setTop (mkF m 141 #[.val (.int p1), .val (.int p2), .val (.int p3), .val (.int p4), .val (.int p5), .val (.int p6), .val (.int c2), .val (.int d2), .val (.long kA), .second, .val (.long kB), .second, .val (.long kV), .second, .val (.int (1 : Int32)), .val (.int (1 : Int32)), .unset, .unset, .unset] [(.int b3)])) _
      refine XS.iconst X10.here hx rfl (hb hby at_141) ?_
      show Steps p.tables e below (T10.setTop (mkF m 142 #[.val (.int p1), .val (.int p2), .val (.int p3), .val (.int p4), .val (.int p5), .val (.int p6), .val (.int c2), .val (.int d2), .val (.long kA), .second, .val (.long kB), .second, .val (.long kV), .second, .val (.int (1 : Int32)), .val (.int (1 : Int32)), .unset, .unset, .unset] [(.int (1 : Int32)), (.int b3)])) _
      refine XS.goto X10.here hx rfl (pc0 := 142) (pc' := 146) rfl (hb hby at_142) (by decide) (by decide) ?_
      show Steps p.tables e below (T10.setTop (mkF m 146 #[.val (.int p1), .val (.int p2), .val (.int p3), .val (.int p4), .val (.int p5), .val (.int p6), .val (.int c2), .val (.int d2), .val (.long kA), .second, .val (.long kB), .second, .val (.long kV), .second, .val (.int (1 : Int32)), .val (.int (1 : Int32)), .unset, .unset, .unset] [(.int (1 : Int32)), (.int b3)])) _
      exact k
    · rw [show b4 = (0 : Int32) by rw [eq_b4, if_neg hc18_138]] at k
      show Steps p.tables e below (T10.setTop (mkF m 138 #[.val (.int p1), .val (.int p2), .val (.int p3), .val (.int p4), .val (.int p5), .val (.int p6), .val (.int c2), .val (.int d2), .val (.long kA), .second, .val (.long kB), .second, .val (.long kV), .second, .val (.int (1 : Int32)), .val (.int (1 : Int32)), .unset, .unset, .unset] [(.int d2), (.int p2), (.int b3)])) _
      refine XS.icmpYes X10.here hx rfl (pc0 := 138) (pc' := 145) rfl (hb hby at_138) rfl (feq hc18_138).2 (by decide) (by decide) ?_
      show Steps p.tables e below (T10.setTop (mkF m 145 #[.val (.int p1), .val (.int p2), .val (.int p3), .val (.int p4), .val (.int p5), .val (.int p6), .val (.int c2), .val (.int d2), .val (.long kA), .second, .val (.long kB), .second, .val (.long kV), .second, .val (.int (1 : Int32)), .val (.int (1 : Int32)), .unset, .unset, .unset] [(.int b3)])) _
      refine XS.iconst X10.here hx rfl (hb hby at_145) ?_
      show Steps p.tables e below (T10.setTop (mkF m 146 #[.val (.int p1), .val (.int p2), .val (.int p3), .val (.int p4), .val (.int p5), .val (.int p6), .val (.int c2), .val (.int d2), .val (.long kA), .second, .val (.long kB), .second, .val (.long kV), .second, .val (.int (1 : Int32)), .val (.int (1 : Int32)), .unset, .unset, .unset] [(.int (0 : Int32)), (.int b3)])) _
      exact k
  have k20 : ∀ t, Steps p.tables e below (T10.setTop (mkF m 167 #[.val (.int p1), .val (.int p2), .val (.int p3), .val (.int p4), .val (.int p5), .val (.int p6), .val (.int c2), .val (.int d2), .val (.long kA), .second, .val (.long kB), .second, .val (.long kV), .second, .val (.int (1 : Int32)), .val (.int (1 : Int32)), .val (.int (1 : Int32)), .val (.int ((kV ^^^ ((kV.toUInt64 >>> ((32 : Int32) &&& 0x3f).toInt64.toUInt64).toInt64)).toInt32)), .unset] [])) t → Steps p.tables e below (s₁.setTop (entryFrame m #[(.int p1), (.int p2), (.int p3), (.int p4), (.int p5), (.int p6)] maxLocals)) t := by
    intro t k
    refine k19 _ ?_
    show Steps p.tables e below (T10.setTop (mkF m 146 #[.val (.int p1), .val (.int p2), .val (.int p3), .val (.int p4), .val (.int p5), .val (.int p6), .val (.int c2), .val (.int d2), .val (.long kA), .second, .val (.long kB), .second, .val (.long kV), .second, .val (.int (1 : Int32)), .val (.int (1 : Int32)), .unset, .unset, .unset] [(.int b4), (.int b3)])) _
    refine XS.icmpNo X10.here hx rfl (hb hby at_146) rfl (teq (by rw [eq_b3, eq_b4, eq_kA, eq_kB, own_pair_lo, own_pair_lo]; exact own_iff01 own_mul_inj)).2 ?_
    show Steps p.tables e below (T10.setTop (mkF m 149 #[.val (.int p1), .val (.int p2), .val (.int p3), .val (.int p4), .val (.int p5), .val (.int p6), .val (.int c2), .val (.int d2), .val (.long kA), .second, .val (.long kB), .second, .val (.long kV), .second, .val (.int (1 : Int32)), .val (.int (1 : Int32)), .unset, .unset, .unset] [])) _
    refine XS.iconst X10.here hx rfl (hb hby at_149) ?_
    show Steps p.tables e below (T10.setTop (mkF m 150 #[.val (.int p1), .val (.int p2), .val (.int p3), .val (.int p4), .val (.int p5), .val (.int p6), .val (.int c2), .val (.int d2), .val (.long kA), .second, .val (.long kB), .second, .val (.long kV), .second, .val (.int (1 : Int32)), .val (.int (1 : Int32)), .unset, .unset, .unset] [(.int (1 : Int32))])) _
    refine XS.goto X10.here hx rfl (pc0 := 150) (pc' := 154) rfl (hb hby at_150) (by decide) (by decide) ?_
    show Steps p.tables e below (T10.setTop (mkF m 154 #[.val (.int p1), .val (.int p2), .val (.int p3), .val (.int p4), .val (.int p5), .val (.int p6), .val (.int c2), .val (.int d2), .val (.long kA), .second, .val (.long kB), .second, .val (.long kV), .second, .val (.int (1 : Int32)), .val (.int (1 : Int32)), .unset, .unset, .unset] [(.int (1 : Int32))])) _
    refine XS.istore X10.here hx rfl (hb hby at_154) rfl (l' := #[.val (.int p1), .val (.int p2), .val (.int p3), .val (.int p4), .val (.int p5), .val (.int p6), .val (.int c2), .val (.int d2), .val (.long kA), .second, .val (.long kB), .second, .val (.long kV), .second, .val (.int (1 : Int32)), .val (.int (1 : Int32)), .val (.int (1 : Int32)), .unset, .unset]) rfl ?_
    show Steps p.tables e below (T10.setTop (mkF m 156 #[.val (.int p1), .val (.int p2), .val (.int p3), .val (.int p4), .val (.int p5), .val (.int p6), .val (.int c2), .val (.int d2), .val (.long kA), .second, .val (.long kB), .second, .val (.long kV), .second, .val (.int (1 : Int32)), .val (.int (1 : Int32)), .val (.int (1 : Int32)), .unset, .unset] [])) _
    refine XS.lload X10.here hx rfl (hb hby at_156) rfl ?_
    show Steps p.tables e below (T10.setTop (mkF m 158 #[.val (.int p1), .val (.int p2), .val (.int p3), .val (.int p4), .val (.int p5), .val (.int p6), .val (.int c2), .val (.int d2), .val (.long kA), .second, .val (.long kB), .second, .val (.long kV), .second, .val (.int (1 : Int32)), .val (.int (1 : Int32)), .val (.int (1 : Int32)), .unset, .unset] [(.long kV)])) _
    refine XS.lload X10.here hx rfl (hb hby at_158) rfl ?_
    show Steps p.tables e below (T10.setTop (mkF m 160 #[.val (.int p1), .val (.int p2), .val (.int p3), .val (.int p4), .val (.int p5), .val (.int p6), .val (.int c2), .val (.int d2), .val (.long kA), .second, .val (.long kB), .second, .val (.long kV), .second, .val (.int (1 : Int32)), .val (.int (1 : Int32)), .val (.int (1 : Int32)), .unset, .unset] [(.long kV), (.long kV)])) _
    refine XS.bipush X10.here hx rfl (hb hby at_160) ?_
    show Steps p.tables e below (T10.setTop (mkF m 162 #[.val (.int p1), .val (.int p2), .val (.int p3), .val (.int p4), .val (.int p5), .val (.int p6), .val (.int c2), .val (.int d2), .val (.long kA), .second, .val (.long kB), .second, .val (.long kV), .second, .val (.int (1 : Int32)), .val (.int (1 : Int32)), .val (.int (1 : Int32)), .unset, .unset] [(.int (32 : Int32)), (.long kV), (.long kV)])) _
    refine XS.lushr X10.here hx rfl (hb hby at_162) rfl ?_
    show Steps p.tables e below (T10.setTop (mkF m 163 #[.val (.int p1), .val (.int p2), .val (.int p3), .val (.int p4), .val (.int p5), .val (.int p6), .val (.int c2), .val (.int d2), .val (.long kA), .second, .val (.long kB), .second, .val (.long kV), .second, .val (.int (1 : Int32)), .val (.int (1 : Int32)), .val (.int (1 : Int32)), .unset, .unset] [(.long ((kV.toUInt64 >>> ((32 : Int32) &&& 0x3f).toInt64.toUInt64).toInt64)), (.long kV)])) _
    refine XS.lxor X10.here hx rfl (hb hby at_163) rfl ?_
    show Steps p.tables e below (T10.setTop (mkF m 164 #[.val (.int p1), .val (.int p2), .val (.int p3), .val (.int p4), .val (.int p5), .val (.int p6), .val (.int c2), .val (.int d2), .val (.long kA), .second, .val (.long kB), .second, .val (.long kV), .second, .val (.int (1 : Int32)), .val (.int (1 : Int32)), .val (.int (1 : Int32)), .unset, .unset] [(.long (kV ^^^ ((kV.toUInt64 >>> ((32 : Int32) &&& 0x3f).toInt64.toUInt64).toInt64)))])) _
    refine XS.l2i X10.here hx rfl (hb hby at_164) rfl ?_
    show Steps p.tables e below (T10.setTop (mkF m 165 #[.val (.int p1), .val (.int p2), .val (.int p3), .val (.int p4), .val (.int p5), .val (.int p6), .val (.int c2), .val (.int d2), .val (.long kA), .second, .val (.long kB), .second, .val (.long kV), .second, .val (.int (1 : Int32)), .val (.int (1 : Int32)), .val (.int (1 : Int32)), .unset, .unset] [(.int ((kV ^^^ ((kV.toUInt64 >>> ((32 : Int32) &&& 0x3f).toInt64.toUInt64).toInt64)).toInt32))])) _
    refine XS.istore X10.here hx rfl (hb hby at_165) rfl (l' := #[.val (.int p1), .val (.int p2), .val (.int p3), .val (.int p4), .val (.int p5), .val (.int p6), .val (.int c2), .val (.int d2), .val (.long kA), .second, .val (.long kB), .second, .val (.long kV), .second, .val (.int (1 : Int32)), .val (.int (1 : Int32)), .val (.int (1 : Int32)), .val (.int ((kV ^^^ ((kV.toUInt64 >>> ((32 : Int32) &&& 0x3f).toInt64.toUInt64).toInt64)).toInt32)), .unset]) rfl ?_
    show Steps p.tables e below (T10.setTop (mkF m 167 #[.val (.int p1), .val (.int p2), .val (.int p3), .val (.int p4), .val (.int p5), .val (.int p6), .val (.int c2), .val (.int d2), .val (.long kA), .second, .val (.long kB), .second, .val (.long kV), .second, .val (.int (1 : Int32)), .val (.int (1 : Int32)), .val (.int (1 : Int32)), .val (.int ((kV ^^^ ((kV.toUInt64 >>> ((32 : Int32) &&& 0x3f).toInt64.toUInt64).toInt64)).toInt32)), .unset] [])) _
    exact k
  obtain ⟨hh, eq_hh⟩ : ∃ z : Int32, z = ((kV ^^^ ((kV.toUInt64 >>> ((32 : Int32) &&& 0x3f).toInt64.toUInt64).toInt64)).toInt32) := ⟨_, rfl⟩
  rw [← eq_hh] at k20
  obtain ⟨b5, eq_b5⟩ : ∃ z : Int32, z = (if hh = (0 : Int32) then (1 : Int32) else (0 : Int32)) := ⟨_, rfl⟩
  have k22 : ∀ t, Steps p.tables e below (T10.setTop (mkF m 177 #[.val (.int p1), .val (.int p2), .val (.int p3), .val (.int p4), .val (.int p5), .val (.int p6), .val (.int c2), .val (.int d2), .val (.long kA), .second, .val (.long kB), .second, .val (.long kV), .second, .val (.int (1 : Int32)), .val (.int (1 : Int32)), .val (.int (1 : Int32)), .val (.int hh), .unset] [(.int b5)])) t → Steps p.tables e below (s₁.setTop (entryFrame m #[(.int p1), (.int p2), (.int p3), (.int p4), (.int p5), (.int p6)] maxLocals)) t := by
    intro t k
    refine k20 _ ?_
    show Steps p.tables e below (T10.setTop (mkF m 167 #[.val (.int p1), .val (.int p2), .val (.int p3), .val (.int p4), .val (.int p5), .val (.int p6), .val (.int c2), .val (.int d2), .val (.long kA), .second, .val (.long kB), .second, .val (.long kV), .second, .val (.int (1 : Int32)), .val (.int (1 : Int32)), .val (.int (1 : Int32)), .val (.int hh), .unset] [])) _
    refine XS.iload X10.here hx rfl (hb hby at_167) rfl ?_
    show Steps p.tables e below (T10.setTop (mkF m 169 #[.val (.int p1), .val (.int p2), .val (.int p3), .val (.int p4), .val (.int p5), .val (.int p6), .val (.int c2), .val (.int d2), .val (.long kA), .second, .val (.long kB), .second, .val (.long kV), .second, .val (.int (1 : Int32)), .val (.int (1 : Int32)), .val (.int (1 : Int32)), .val (.int hh), .unset] [(.int hh)])) _
    by_cases hc21_169 : hh = (0 : Int32)
    · rw [show b5 = (1 : Int32) by rw [eq_b5, if_pos hc21_169]] at k
      show Steps p.tables e below (T10.setTop (mkF m 169 #[.val (.int p1), .val (.int p2), .val (.int p3), .val (.int p4), .val (.int p5), .val (.int p6), .val (.int c2), .val (.int d2), .val (.long kA), .second, .val (.long kB), .second, .val (.long kV), .second, .val (.int (1 : Int32)), .val (.int (1 : Int32)), .val (.int (1 : Int32)), .val (.int hh), .unset] [(.int hh)])) _
      refine XS.ifNo X10.here hx rfl (hb hby at_169) rfl ((if0 _ _).trans (teq hc21_169).2) ?_
      show Steps p.tables e below (T10.setTop (mkF m 172 #[.val (.int p1), .val (.int p2), .val (.int p3), .val (.int p4), .val (.int p5), .val (.int p6), .val (.int c2), .val (.int d2), .val (.long kA), .second, .val (.long kB), .second, .val (.long kV), .second, .val (.int (1 : Int32)), .val (.int (1 : Int32)), .val (.int (1 : Int32)), .val (.int hh), .unset] [])) _
      refine XS.iconst X10.here hx rfl (hb hby at_172) ?_
      show Steps p.tables e below (T10.setTop (mkF m 173 #[.val (.int p1), .val (.int p2), .val (.int p3), .val (.int p4), .val (.int p5), .val (.int p6), .val (.int c2), .val (.int d2), .val (.long kA), .second, .val (.long kB), .second, .val (.long kV), .second, .val (.int (1 : Int32)), .val (.int (1 : Int32)), .val (.int (1 : Int32)), .val (.int hh), .unset] [(.int (1 : Int32))])) _
      refine XS.goto X10.here hx rfl (pc0 := 173) (pc' := 177) rfl (hb hby at_173) (by decide) (by decide) ?_
      show Steps p.tables e below (T10.setTop (mkF m 177 #[.val (.int p1), .val (.int p2), .val (.int p3), .val (.int p4), .val (.int p5), .val (.int p6), .val (.int c2), .val (.int d2), .val (.long kA), .second, .val (.long kB), .second, .val (.long kV), .second, .val (.int (1 : Int32)), .val (.int (1 : Int32)), .val (.int (1 : Int32)), .val (.int hh), .unset] [(.int (1 : Int32))])) _
      exact k
    · rw [show b5 = (0 : Int32) by rw [eq_b5, if_neg hc21_169]] at k
      show Steps p.tables e below (T10.setTop (mkF m 169 #[.val (.int p1), .val (.int p2), .val (.int p3), .val (.int p4), .val (.int p5), .val (.int p6), .val (.int c2), .val (.int d2), .val (.long kA), .second, .val (.long kB), .second, .val (.long kV), .second, .val (.int (1 : Int32)), .val (.int (1 : Int32)), .val (.int (1 : Int32)), .val (.int hh), .unset] [(.int hh)])) _
      refine XS.ifYes X10.here hx rfl (pc0 := 169) (pc' := 176) rfl (hb hby at_169) rfl ((if0 _ _).trans (feq hc21_169).2) (by decide) (by decide) ?_
      show Steps p.tables e below (T10.setTop (mkF m 176 #[.val (.int p1), .val (.int p2), .val (.int p3), .val (.int p4), .val (.int p5), .val (.int p6), .val (.int c2), .val (.int d2), .val (.long kA), .second, .val (.long kB), .second, .val (.long kV), .second, .val (.int (1 : Int32)), .val (.int (1 : Int32)), .val (.int (1 : Int32)), .val (.int hh), .unset] [])) _
      refine XS.iconst X10.here hx rfl (hb hby at_176) ?_
      show Steps p.tables e below (T10.setTop (mkF m 177 #[.val (.int p1), .val (.int p2), .val (.int p3), .val (.int p4), .val (.int p5), .val (.int p6), .val (.int c2), .val (.int d2), .val (.long kA), .second, .val (.long kB), .second, .val (.long kV), .second, .val (.int (1 : Int32)), .val (.int (1 : Int32)), .val (.int (1 : Int32)), .val (.int hh), .unset] [(.int (0 : Int32))])) _
      exact k
  obtain ⟨b6, eq_b6⟩ : ∃ z : Int32, z = (if (p6 &&& (536870911 : Int32)) = (0 : Int32) then (1 : Int32) else (0 : Int32)) := ⟨_, rfl⟩
  have k24 : ∀ t, Steps p.tables e below (T10.setTop (mkF m 190 #[.val (.int p1), .val (.int p2), .val (.int p3), .val (.int p4), .val (.int p5), .val (.int p6), .val (.int c2), .val (.int d2), .val (.long kA), .second, .val (.long kB), .second, .val (.long kV), .second, .val (.int (1 : Int32)), .val (.int (1 : Int32)), .val (.int (1 : Int32)), .val (.int hh), .unset] [(.int b6), (.int b5)])) t → Steps p.tables e below (s₁.setTop (entryFrame m #[(.int p1), (.int p2), (.int p3), (.int p4), (.int p5), (.int p6)] maxLocals)) t := by
    intro t k
    refine k22 _ ?_
    show Steps p.tables e below (T10.setTop (mkF m 177 #[.val (.int p1), .val (.int p2), .val (.int p3), .val (.int p4), .val (.int p5), .val (.int p6), .val (.int c2), .val (.int d2), .val (.long kA), .second, .val (.long kB), .second, .val (.long kV), .second, .val (.int (1 : Int32)), .val (.int (1 : Int32)), .val (.int (1 : Int32)), .val (.int hh), .unset] [(.int b5)])) _
    refine XS.iload X10.here hx rfl (hb hby at_177) rfl ?_
    show Steps p.tables e below (T10.setTop (mkF m 179 #[.val (.int p1), .val (.int p2), .val (.int p3), .val (.int p4), .val (.int p5), .val (.int p6), .val (.int c2), .val (.int d2), .val (.long kA), .second, .val (.long kB), .second, .val (.long kV), .second, .val (.int (1 : Int32)), .val (.int (1 : Int32)), .val (.int (1 : Int32)), .val (.int hh), .unset] [(.int p6), (.int b5)])) _
    refine X10.ldcInt hx hown (mvT hZ (hw _ (List.mem_of_getElem? (i := 6) rfl))) (g := (mkF m 179 #[.val (.int p1), .val (.int p2), .val (.int p3), .val (.int p4), .val (.int p5), .val (.int p6), .val (.int c2), .val (.int d2), .val (.long kA), .second, .val (.long kB), .second, .val (.long kV), .second, .val (.int (1 : Int32)), .val (.int (1 : Int32)), .val (.int (1 : Int32)), .val (.int hh), .unset] [(.int p6), (.int b5)])) rfl (hb hby at_179) _ ?_
    show Steps p.tables e below (T10.setTop (mkF m 181 #[.val (.int p1), .val (.int p2), .val (.int p3), .val (.int p4), .val (.int p5), .val (.int p6), .val (.int c2), .val (.int d2), .val (.long kA), .second, .val (.long kB), .second, .val (.long kV), .second, .val (.int (1 : Int32)), .val (.int (1 : Int32)), .val (.int (1 : Int32)), .val (.int hh), .unset] [(.int (536870911 : Int32)), (.int p6), (.int b5)])) _
    refine XS.iand X10.here hx rfl (hb hby at_181) rfl ?_
    show Steps p.tables e below (T10.setTop (mkF m 182 #[.val (.int p1), .val (.int p2), .val (.int p3), .val (.int p4), .val (.int p5), .val (.int p6), .val (.int c2), .val (.int d2), .val (.long kA), .second, .val (.long kB), .second, .val (.long kV), .second, .val (.int (1 : Int32)), .val (.int (1 : Int32)), .val (.int (1 : Int32)), .val (.int hh), .unset] [(.int (p6 &&& (536870911 : Int32))), (.int b5)])) _
    by_cases hc23_182 : (p6 &&& (536870911 : Int32)) = (0 : Int32)
    · rw [show b6 = (1 : Int32) by rw [eq_b6, if_pos hc23_182]] at k
      show Steps p.tables e below (T10.setTop (mkF m 182 #[.val (.int p1), .val (.int p2), .val (.int p3), .val (.int p4), .val (.int p5), .val (.int p6), .val (.int c2), .val (.int d2), .val (.long kA), .second, .val (.long kB), .second, .val (.long kV), .second, .val (.int (1 : Int32)), .val (.int (1 : Int32)), .val (.int (1 : Int32)), .val (.int hh), .unset] [(.int (p6 &&& (536870911 : Int32))), (.int b5)])) _
      refine XS.ifNo X10.here hx rfl (hb hby at_182) rfl ((if0 _ _).trans (teq hc23_182).2) ?_
      show Steps p.tables e below (T10.setTop (mkF m 185 #[.val (.int p1), .val (.int p2), .val (.int p3), .val (.int p4), .val (.int p5), .val (.int p6), .val (.int c2), .val (.int d2), .val (.long kA), .second, .val (.long kB), .second, .val (.long kV), .second, .val (.int (1 : Int32)), .val (.int (1 : Int32)), .val (.int (1 : Int32)), .val (.int hh), .unset] [(.int b5)])) _
      refine XS.iconst X10.here hx rfl (hb hby at_185) ?_
      show Steps p.tables e below (T10.setTop (mkF m 186 #[.val (.int p1), .val (.int p2), .val (.int p3), .val (.int p4), .val (.int p5), .val (.int p6), .val (.int c2), .val (.int d2), .val (.long kA), .second, .val (.long kB), .second, .val (.long kV), .second, .val (.int (1 : Int32)), .val (.int (1 : Int32)), .val (.int (1 : Int32)), .val (.int hh), .unset] [(.int (1 : Int32)), (.int b5)])) _
      refine XS.goto X10.here hx rfl (pc0 := 186) (pc' := 190) rfl (hb hby at_186) (by decide) (by decide) ?_
      show Steps p.tables e below (T10.setTop (mkF m 190 #[.val (.int p1), .val (.int p2), .val (.int p3), .val (.int p4), .val (.int p5), .val (.int p6), .val (.int c2), .val (.int d2), .val (.long kA), .second, .val (.long kB), .second, .val (.long kV), .second, .val (.int (1 : Int32)), .val (.int (1 : Int32)), .val (.int (1 : Int32)), .val (.int hh), .unset] [(.int (1 : Int32)), (.int b5)])) _
      exact k
    · rw [show b6 = (0 : Int32) by rw [eq_b6, if_neg hc23_182]] at k
      show Steps p.tables e below (T10.setTop (mkF m 182 #[.val (.int p1), .val (.int p2), .val (.int p3), .val (.int p4), .val (.int p5), .val (.int p6), .val (.int c2), .val (.int d2), .val (.long kA), .second, .val (.long kB), .second, .val (.long kV), .second, .val (.int (1 : Int32)), .val (.int (1 : Int32)), .val (.int (1 : Int32)), .val (.int hh), .unset] [(.int (p6 &&& (536870911 : Int32))), (.int b5)])) _
      refine XS.ifYes X10.here hx rfl (pc0 := 182) (pc' := 189) rfl (hb hby at_182) rfl ((if0 _ _).trans (feq hc23_182).2) (by decide) (by decide) ?_
      show Steps p.tables e below (T10.setTop (mkF m 189 #[.val (.int p1), .val (.int p2), .val (.int p3), .val (.int p4), .val (.int p5), .val (.int p6), .val (.int c2), .val (.int d2), .val (.long kA), .second, .val (.long kB), .second, .val (.long kV), .second, .val (.int (1 : Int32)), .val (.int (1 : Int32)), .val (.int (1 : Int32)), .val (.int hh), .unset] [(.int b5)])) _
      refine XS.iconst X10.here hx rfl (hb hby at_189) ?_
      show Steps p.tables e below (T10.setTop (mkF m 190 #[.val (.int p1), .val (.int p2), .val (.int p3), .val (.int p4), .val (.int p5), .val (.int p6), .val (.int c2), .val (.int d2), .val (.long kA), .second, .val (.long kB), .second, .val (.long kV), .second, .val (.int (1 : Int32)), .val (.int (1 : Int32)), .val (.int (1 : Int32)), .val (.int hh), .unset] [(.int (0 : Int32)), (.int b5)])) _
      exact k
  have k25 : ∀ t, Steps p.tables e below (T10.setTop (mkF m 225 #[.val (.int p1), .val (.int p2), .val (.int p3), .val (.int p4), .val (.int p5), .val (.int p6), .val (.int c2), .val (.int d2), .val (.long kA), .second, .val (.long kB), .second, .val (.long kV), .second, .val (.int (1 : Int32)), .val (.int (1 : Int32)), .val (.int (1 : Int32)), .val (.int hh), .val (.int (1 : Int32))] [(.int (1 : Int32))])) t → Steps p.tables e below (s₁.setTop (entryFrame m #[(.int p1), (.int p2), (.int p3), (.int p4), (.int p5), (.int p6)] maxLocals)) t := by
    intro t k
    refine k24 _ ?_
    show Steps p.tables e below (T10.setTop (mkF m 190 #[.val (.int p1), .val (.int p2), .val (.int p3), .val (.int p4), .val (.int p5), .val (.int p6), .val (.int c2), .val (.int d2), .val (.long kA), .second, .val (.long kB), .second, .val (.long kV), .second, .val (.int (1 : Int32)), .val (.int (1 : Int32)), .val (.int (1 : Int32)), .val (.int hh), .unset] [(.int b6), (.int b5)])) _
    refine XS.icmpNo X10.here hx rfl (hb hby at_190) rfl (teq (by rw [eq_b5, eq_b6, eq_hh, eq_kV]; exact own_iff01 (own_spread p6))).2 ?_
    show Steps p.tables e below (T10.setTop (mkF m 193 #[.val (.int p1), .val (.int p2), .val (.int p3), .val (.int p4), .val (.int p5), .val (.int p6), .val (.int c2), .val (.int d2), .val (.long kA), .second, .val (.long kB), .second, .val (.long kV), .second, .val (.int (1 : Int32)), .val (.int (1 : Int32)), .val (.int (1 : Int32)), .val (.int hh), .unset] [])) _
    refine XS.iconst X10.here hx rfl (hb hby at_193) ?_
    show Steps p.tables e below (T10.setTop (mkF m 194 #[.val (.int p1), .val (.int p2), .val (.int p3), .val (.int p4), .val (.int p5), .val (.int p6), .val (.int c2), .val (.int d2), .val (.long kA), .second, .val (.long kB), .second, .val (.long kV), .second, .val (.int (1 : Int32)), .val (.int (1 : Int32)), .val (.int (1 : Int32)), .val (.int hh), .unset] [(.int (1 : Int32))])) _
    refine XS.goto X10.here hx rfl (pc0 := 194) (pc' := 198) rfl (hb hby at_194) (by decide) (by decide) ?_
    show Steps p.tables e below (T10.setTop (mkF m 198 #[.val (.int p1), .val (.int p2), .val (.int p3), .val (.int p4), .val (.int p5), .val (.int p6), .val (.int c2), .val (.int d2), .val (.long kA), .second, .val (.long kB), .second, .val (.long kV), .second, .val (.int (1 : Int32)), .val (.int (1 : Int32)), .val (.int (1 : Int32)), .val (.int hh), .unset] [(.int (1 : Int32))])) _
    refine XS.istore X10.here hx rfl (hb hby at_198) rfl (l' := #[.val (.int p1), .val (.int p2), .val (.int p3), .val (.int p4), .val (.int p5), .val (.int p6), .val (.int c2), .val (.int d2), .val (.long kA), .second, .val (.long kB), .second, .val (.long kV), .second, .val (.int (1 : Int32)), .val (.int (1 : Int32)), .val (.int (1 : Int32)), .val (.int hh), .val (.int (1 : Int32))]) rfl ?_
    show Steps p.tables e below (T10.setTop (mkF m 200 #[.val (.int p1), .val (.int p2), .val (.int p3), .val (.int p4), .val (.int p5), .val (.int p6), .val (.int c2), .val (.int d2), .val (.long kA), .second, .val (.long kB), .second, .val (.long kV), .second, .val (.int (1 : Int32)), .val (.int (1 : Int32)), .val (.int (1 : Int32)), .val (.int hh), .val (.int (1 : Int32))] [])) _
    refine XS.iload X10.here hx rfl (hb hby at_200) rfl ?_
    show Steps p.tables e below (T10.setTop (mkF m 202 #[.val (.int p1), .val (.int p2), .val (.int p3), .val (.int p4), .val (.int p5), .val (.int p6), .val (.int c2), .val (.int d2), .val (.long kA), .second, .val (.long kB), .second, .val (.long kV), .second, .val (.int (1 : Int32)), .val (.int (1 : Int32)), .val (.int (1 : Int32)), .val (.int hh), .val (.int (1 : Int32))] [(.int (1 : Int32))])) _
    refine XS.ifNo X10.here hx rfl (hb hby at_202) rfl ((if0 _ _).trans (feq (by decide)).1) ?_
    show Steps p.tables e below (T10.setTop (mkF m 205 #[.val (.int p1), .val (.int p2), .val (.int p3), .val (.int p4), .val (.int p5), .val (.int p6), .val (.int c2), .val (.int d2), .val (.long kA), .second, .val (.long kB), .second, .val (.long kV), .second, .val (.int (1 : Int32)), .val (.int (1 : Int32)), .val (.int (1 : Int32)), .val (.int hh), .val (.int (1 : Int32))] [])) _
    refine XS.iload X10.here hx rfl (hb hby at_205) rfl ?_
    show Steps p.tables e below (T10.setTop (mkF m 207 #[.val (.int p1), .val (.int p2), .val (.int p3), .val (.int p4), .val (.int p5), .val (.int p6), .val (.int c2), .val (.int d2), .val (.long kA), .second, .val (.long kB), .second, .val (.long kV), .second, .val (.int (1 : Int32)), .val (.int (1 : Int32)), .val (.int (1 : Int32)), .val (.int hh), .val (.int (1 : Int32))] [(.int (1 : Int32))])) _
    refine XS.ifNo X10.here hx rfl (hb hby at_207) rfl ((if0 _ _).trans (feq (by decide)).1) ?_
    show Steps p.tables e below (T10.setTop (mkF m 210 #[.val (.int p1), .val (.int p2), .val (.int p3), .val (.int p4), .val (.int p5), .val (.int p6), .val (.int c2), .val (.int d2), .val (.long kA), .second, .val (.long kB), .second, .val (.long kV), .second, .val (.int (1 : Int32)), .val (.int (1 : Int32)), .val (.int (1 : Int32)), .val (.int hh), .val (.int (1 : Int32))] [])) _
    refine XS.iload X10.here hx rfl (hb hby at_210) rfl ?_
    show Steps p.tables e below (T10.setTop (mkF m 212 #[.val (.int p1), .val (.int p2), .val (.int p3), .val (.int p4), .val (.int p5), .val (.int p6), .val (.int c2), .val (.int d2), .val (.long kA), .second, .val (.long kB), .second, .val (.long kV), .second, .val (.int (1 : Int32)), .val (.int (1 : Int32)), .val (.int (1 : Int32)), .val (.int hh), .val (.int (1 : Int32))] [(.int (1 : Int32))])) _
    refine XS.ifNo X10.here hx rfl (hb hby at_212) rfl ((if0 _ _).trans (feq (by decide)).1) ?_
    show Steps p.tables e below (T10.setTop (mkF m 215 #[.val (.int p1), .val (.int p2), .val (.int p3), .val (.int p4), .val (.int p5), .val (.int p6), .val (.int c2), .val (.int d2), .val (.long kA), .second, .val (.long kB), .second, .val (.long kV), .second, .val (.int (1 : Int32)), .val (.int (1 : Int32)), .val (.int (1 : Int32)), .val (.int hh), .val (.int (1 : Int32))] [])) _
    refine XS.iload X10.here hx rfl (hb hby at_215) rfl ?_
    show Steps p.tables e below (T10.setTop (mkF m 217 #[.val (.int p1), .val (.int p2), .val (.int p3), .val (.int p4), .val (.int p5), .val (.int p6), .val (.int c2), .val (.int d2), .val (.long kA), .second, .val (.long kB), .second, .val (.long kV), .second, .val (.int (1 : Int32)), .val (.int (1 : Int32)), .val (.int (1 : Int32)), .val (.int hh), .val (.int (1 : Int32))] [(.int (1 : Int32))])) _
    refine XS.ifNo X10.here hx rfl (hb hby at_217) rfl ((if0 _ _).trans (feq (by decide)).1) ?_
    show Steps p.tables e below (T10.setTop (mkF m 220 #[.val (.int p1), .val (.int p2), .val (.int p3), .val (.int p4), .val (.int p5), .val (.int p6), .val (.int c2), .val (.int d2), .val (.long kA), .second, .val (.long kB), .second, .val (.long kV), .second, .val (.int (1 : Int32)), .val (.int (1 : Int32)), .val (.int (1 : Int32)), .val (.int hh), .val (.int (1 : Int32))] [])) _
    refine XS.iconst X10.here hx rfl (hb hby at_220) ?_
    show Steps p.tables e below (T10.setTop (mkF m 221 #[.val (.int p1), .val (.int p2), .val (.int p3), .val (.int p4), .val (.int p5), .val (.int p6), .val (.int c2), .val (.int d2), .val (.long kA), .second, .val (.long kB), .second, .val (.long kV), .second, .val (.int (1 : Int32)), .val (.int (1 : Int32)), .val (.int (1 : Int32)), .val (.int hh), .val (.int (1 : Int32))] [(.int (1 : Int32))])) _
    refine XS.goto X10.here hx rfl (pc0 := 221) (pc' := 225) rfl (hb hby at_221) (by decide) (by decide) ?_
    show Steps p.tables e below (T10.setTop (mkF m 225 #[.val (.int p1), .val (.int p2), .val (.int p3), .val (.int p4), .val (.int p5), .val (.int p6), .val (.int c2), .val (.int d2), .val (.long kA), .second, .val (.long kB), .second, .val (.long kV), .second, .val (.int (1 : Int32)), .val (.int (1 : Int32)), .val (.int (1 : Int32)), .val (.int hh), .val (.int (1 : Int32))] [(.int (1 : Int32))])) _
    exact k
  obtain ⟨fs, hr, hrun, hended, hW, hsame⟩ := X10.leave (v := some (.int (1 : Int32))) (fun h => by rw [Bd.returns] at h; cases h)
  refine ⟨_, _, k25 _ ?_, hrun, hended, _, _, rfl, ?_, ⟨_, rfl⟩, hW, hsame.mono (Nat.le_of_ble_eq_true rfl) (Nat.le_of_ble_eq_true rfl)⟩
  · exact retN X10 hx (t := .boolean) Bd.returns (by simp) (hb hby at_225) hr
  · show Q0 Z p1 p2 p3 p4 p5 p6 h0 n0 _ T10.heap _
    rw [e10]
    exact ⟨rfl, N10⟩
set_option maxRecDepth 65536 in
set_option maxHeartbeats 40000000 in
theorem comes_1 {Post : Tables → Env → Array Value → State → Outcome → State → Prop} (hpost : ∀ tb e args s v u, (limb_1_1.after args s (.returned v) u = true ∧ limb_1_2.after args s (.returned v) u = true ∧ True) → FrameEnd s (.returned v) u (Jvm.fieldLocs frame_1_writes args s ++ Jvm.arrayLocs frame_1_arrays args s ++ Jvm.staticLocs frame_1_statics s) 0 0 → Post tb e args s (.returned v) u) :
    ArmFor flags0 classFile x code maxLocals ret World_1 tables_1 room_1 Calls_1 rest_1 Pre_1 Post := by
  intro l hfl _ _ p e ha hc hk s m args below hf hA hF happ hP
  obtain ⟨hcalls, hrest, hpre⟩ := hP
  obtain ⟨-, -, -, hnamed, -, -, -, hat⟩ := (Spec.applies_iff hf).mp happ
  obtain ⟨hg, hn⟩ := and_e (Cond.before_iff.mp (show (Jvm.Cond.and given_1 narrow_1).before args s = true from hpre))
  obtain ⟨hcnt, hr0⟩ := and_e hg
  obtain ⟨hi0, hr1⟩ := and_e hr0
  obtain ⟨hi1, hr2⟩ := and_e hr1
  obtain ⟨hi2, hr3⟩ := and_e hr2
  obtain ⟨hi3, hr4⟩ := and_e hr3
  obtain ⟨hi4, hr5⟩ := and_e hr4
  have hi5 := hr5
  obtain ⟨w0, w1, w2, w3, w4, w5, rfl⟩ : ∃ w0 w1 w2 w3 w4 w5 : Value, args = #[w0, w1, w2, w3, w4, w5] := by
    have hs : args.size = 6 := by simpa [Cond.value, given_1] using hcnt
    obtain ⟨L⟩ := args
    match L, hs with
    | [w0, w1, w2, w3, w4, w5], _ => exact ⟨w0, w1, w2, w3, w4, w5, rfl⟩
  have hw := fun d (hd : d ∈ tables_1) => atoms_spec (ws := Jvm.Cond.code x code maxLocals ret :: tables_1) hat d (List.mem_cons_of_mem _ hd)
  have hfit : Fit s := fun {y c} hc i hi => by
    obtain ⟨ha, rfl⟩ := Array.getElem?_eq_some_iff.mp hc
    have q := List.all_eq_true.mp ((Array.all_eq_true_iff_forall_mem.mp hF) _ (Array.getElem_mem ha)) i (List.mem_range.mpr hi)
    simpa [Array.getElem?_eq_getElem hi] using q
  obtain ⟨i0, ei0⟩ := is_v hi0
  obtain rfl : w0 = (.int i0) := Option.some.inj ei0
  obtain ⟨i1, ei1⟩ := is_v hi1
  obtain rfl : w1 = (.int i1) := Option.some.inj ei1
  obtain ⟨i2, ei2⟩ := is_v hi2
  obtain rfl : w2 = (.int i2) := Option.some.inj ei2
  obtain ⟨i3, ei3⟩ := is_v hi3
  obtain rfl : w3 = (.int i3) := Option.some.inj ei3
  obtain ⟨i4, ei4⟩ := is_v hi4
  obtain rfl : w4 = (.int i4) := Option.some.inj ei4
  obtain ⟨i5, ei5⟩ := is_v hi5
  obtain rfl : w5 = (.int i5) := Option.some.inj ei5
  obtain ⟨n, o, h1, h2, h3, _, L, rfl, ⟨rfl, N⟩, hq⟩ := rm0 l s _ hw tables_1 i0 i1 i2 i3 i4 i5  s.heap s.heap.size (Nat.le_refl _)  p e ha hc hk s m _ below hf ((Spec.applies_iff_loose hf).mp happ).1 ⟨rfl, State.Warmed39.refl s, rfl⟩ trivial
  refine ⟨n, _, h1, h2, h3, hpost _ _ _ _ _ _ ⟨Cond.after_iff.mpr rfl, Cond.after_iff.mpr (eq_i res_at (Term.int_eval (1)) rfl), trivial⟩ ⟨hq.1, hq.2.1, (hq.2.2.sift fun y hy => Or.inr (N y hy)).mono (by decide) (by decide)⟩⟩
theorem main_1_1 : Claimed_1_1 := comes_1 fun _ _ _ _ _ _ h hF => ⟨h.1, hF⟩
theorem main_1_2 : Claimed_1_2 := comes_1 fun _ _ _ _ _ _ h hF => ⟨h.2.1, hF⟩
end Jvm.Pilot.@@N@@
namespace Jvm.Pilot.@@N@@
open Jvm Jvm.ClassFile Sem Op Lib Jvm.Free Jvm.Stand Jvm.Pilot.@@N@@.Jvm.D
/-! MADE BY PROGRAM (witnessworld.py) out of the Statement's table words and the real class files: 9 classes; the members and pool entries that the words name. The judged class is class 1, her method 1. -/
namespace start1
open Jvm.ClassFile
def u (s : String) : CpInfo := .utf8 (stringToUtf16 s)
/-- a pool by its gaps: so many unusable entries, then the entry; so many at the end -/
def gap : Nat → List CpInfo → List CpInfo
  | 0, r => r
  | n + 1, r => .unusable :: gap n r
def poolList (es : List (Nat × CpInfo)) (last : Nat) : List CpInfo := es.foldr (fun e r => gap e.1 (e.2 :: r)) (gap last [])
def pool (es : List (Nat × CpInfo)) (last : Nat) : Array CpInfo := ⟨poolList es last⟩
def fileOf (pool : Array CpInfo) (this : Nat) (attrs : Array Attribute := #[]) (ms : Array MethodInfo := #[]) (fl : Nat := 33) (sup : Nat := 0) (ifs : Array Nat := #[]) (fds : Array FieldInfo := #[]) : ClassFile where
  minorVersion := 0
  majorVersion := 65
  constantPool := pool
  accessFlags := fl
  thisClass := this
  superClass := sup
  interfaces := ifs
  fields := fds
  methods := ms
  attributes := attrs
def plain (name : String) (sup : Option ClassId) : Class where
  name := name
  kind := .ordinary
  loader := none
  accessFlags := 33
  super := sup
  interfaces := #[]
  cf := none
  fields := #[]
  methods := #[]
  instanceTypes := #[]
  staticTypes := #[]
  resolved := #[]
  callSites := []
  init := .initialized
  statics := none
  mirror := none

def pool0 : Array CpInfo := pool [(5, u "<init>"), (0, u "()V"), (1, .class_ 10), (1, u "java/lang/Object")] 113

def k0m0 : Method := { name := "<init>", desc := "()V", sig := { parameters := [], returnType := none }, accessFlags := 1, code := none }
/-- java/lang/Object -/
def k0 : Class := { plain "java/lang/Object" none with
  accessFlags := 33
  interfaces := #[]
  cf := some (fileOf pool0 8 #[] #[{ accessFlags := 1, nameIndex := 5, descriptorIndex := 6, attributes := #[] }] 33 0 #[] #[])
  fields := #[]
  methods := #[k0m0]
  instanceTypes := #[]
  staticTypes := #[]
  resolved := Array.replicate 124 none
  statics := none }

def pool1 : Array CpInfo := pool [(2, .class_ 4), (1, u "java/lang/Object"), (0, u "<init>"), (0, u "()V"), (0, .methodref 8 9), (0, .class_ 10), (0, .nameAndType 11 12), (0, u "com/example/nogood/nogood/problem/Constraint"), (0, u "pair"), (0, u "(II)J"), (0, .integer 536870911), (0, .class_ 15), (0, u "com/example/nogood/nogood/problem/ConstraintPairPinLaw"), (2, u "law"), (0, u "(IIIIII)Z")] 3

def k1m0 : Method := { name := "<init>", desc := "()V", sig := { parameters := [], returnType := none }, accessFlags := 2, code := none }
def k1c1 : Code := { maxStack := 5, maxLocals := 19, code := code, exceptionTable := #[], attributes := #[] }
def k1m1 : Method := { name := "law", desc := "(IIIIII)Z", sig := { parameters := [.int, .int, .int, .int, .int, .int], returnType := some .boolean }, accessFlags := 9, code := some k1c1 }
/-- com/example/nogood/nogood/problem/ConstraintPairPinLaw -/
def k1 : Class := { plain "com/example/nogood/nogood/problem/ConstraintPairPinLaw" (some 0) with
  accessFlags := 49
  interfaces := #[]
  cf := some (fileOf pool1 14 #[] #[{ accessFlags := 2, nameIndex := 5, descriptorIndex := 6, attributes := #[] }, { accessFlags := 9, nameIndex := 18, descriptorIndex := 19, attributes := #[] }] 49 2 #[] #[])
  fields := #[]
  methods := #[k1m0, k1m1]
  instanceTypes := #[]
  staticTypes := #[]
  resolved := Array.replicate 23 none
  statics := none }

def pool2 : Array CpInfo := pool [(2, .class_ 4), (1, u "java/lang/Object"), (3, .class_ 10), (1, u "com/example/nogood/nogood/problem/Constraint"), (0, u "first"), (0, u "I"), (2, u "second"), (2, u "listsAllowed"), (0, u "Z"), (18, u "pairs"), (0, u "Ljava/util/Set;"), (2, .integer 2654435769), (0, .long 4294967295), (18, u "pair"), (0, u "(II)J"), (81, u "SCRAMBLE")] 41

def k2c0 : Code := { maxStack := 6, maxLocals := 2, code := prog_25_method_2_code, exceptionTable := #[], attributes := #[] }
def k2m0 : Method := { name := "pair", desc := "(II)J", sig := { parameters := [.int, .int], returnType := some .long }, accessFlags := 8, code := some k2c0 }
/-- com/example/nogood/nogood/problem/Constraint -/
def k2 : Class := { plain "com/example/nogood/nogood/problem/Constraint" (some 0) with
  accessFlags := 49
  interfaces := #[]
  cf := some (fileOf pool2 8 #[] #[{ accessFlags := 8, nameIndex := 62, descriptorIndex := 63, attributes := #[] }] 49 2 #[] #[{ accessFlags := 26, nameIndex := 145, descriptorIndex := 12, attributes := #[] }, { accessFlags := 18, nameIndex := 11, descriptorIndex := 12, attributes := #[] }, { accessFlags := 18, nameIndex := 15, descriptorIndex := 12, attributes := #[] }, { accessFlags := 18, nameIndex := 18, descriptorIndex := 19, attributes := #[] }, { accessFlags := 18, nameIndex := 38, descriptorIndex := 39, attributes := #[] }])
  fields := #[{ name := "SCRAMBLE", type := .int, accessFlags := 26, slot := 0, constantValue := 0 }, { name := "first", type := .int, accessFlags := 18, slot := 0, constantValue := 0 }, { name := "second", type := .int, accessFlags := 18, slot := 1, constantValue := 0 }, { name := "listsAllowed", type := .boolean, accessFlags := 18, slot := 2, constantValue := 0 }, { name := "pairs", type := (.object "java/util/Set"), accessFlags := 18, slot := 3, constantValue := 0 }]
  methods := #[k2m0]
  instanceTypes := #[.int, .int, .boolean, (.object "java/util/Set")]
  staticTypes := #[.int]
  resolved := Array.replicate 187 none
  statics := none }

def pool3 : Array CpInfo := pool [(1, u "java/lang/Cloneable"), (0, .class_ 1), (0, u "java/lang/Object"), (0, .class_ 3)] 3

/-- java/lang/Cloneable -/
def k3 : Class := { plain "java/lang/Cloneable" (some 0) with
  accessFlags := 1537
  interfaces := #[]
  cf := some (fileOf pool3 2 #[] #[] 1537 4 #[] #[])
  fields := #[]
  methods := #[]
  instanceTypes := #[]
  staticTypes := #[]
  resolved := Array.replicate 8 none
  statics := none }

def pool4 : Array CpInfo := pool [(1, u "java/io/Serializable"), (0, .class_ 1), (0, u "java/lang/Object"), (0, .class_ 3)] 3

/-- java/io/Serializable -/
def k4 : Class := { plain "java/io/Serializable" (some 0) with
  accessFlags := 1537
  interfaces := #[]
  cf := some (fileOf pool4 2 #[] #[] 1537 4 #[] #[])
  fields := #[]
  methods := #[]
  instanceTypes := #[]
  staticTypes := #[]
  resolved := Array.replicate 8 none
  statics := none }

/-- the primitive byte -/
def k5 : Class := { plain "byte" none with kind := .primitive 'B', accessFlags := 0x411 }
/-- [B -/
def k6 : Class := { plain "[B" (some 0) with kind := .array 5 .byte, interfaces := #[3, 4], accessFlags := 1041 }

/-- the primitive int -/
def k7 : Class := { plain "int" none with kind := .primitive 'I', accessFlags := 0x411 }
/-- [I -/
def k8 : Class := { plain "[I" (some 0) with kind := .array 7 .int, interfaces := #[3, 4], accessFlags := 1041 }

def heap : Heap := #[]
def classes : Array Class := #[k0, k1, k2, k3, k4, k5, k6, k7, k8]
def interned : List (Array UInt16 × Addr) := []
def slotsUsed : Nat := 0
def theMethod : MethodId := ⟨1, 1⟩
def args0 : Array Value := #[.int 5, .int 7, .int 5, .int 7, .int 5, .int 7]
def aboutOver (below : List Frame) : State where
  vm := { classes := classes, interned := interned.toArray }
  heap := heap
  slotsUsed := slotsUsed
  threads := #[{ frames := .invoking theMethod args0 :: below }]
def below0 : List Frame := [.native { method := ⟨0, 0⟩, args := #[] }]
def about1 : State := aboutOver below0
def p0 : Program := .bare "" "" ""
def e0 : Env := launch0.env 0 0 0
theorem w_frames : about1.frames = Frame.invoking theMethod args0 :: below0 := rfl
set_option maxRecDepth 65536 in
theorem w_args : argsFit about1.vm theMethod args0 = true := by decide +kernel
set_option maxRecDepth 65536 in
theorem w_heap : heapFits about1 = true := by decide +kernel
set_option maxRecDepth 65536 in
theorem w_runnable : about1.curStatus? = some .runnable := by decide +kernel
set_option maxRecDepth 65536 in
theorem w_alone : about1.alone = true := by decide +kernel
set_option maxRecDepth 65536 in
theorem w_named : about1.methodNamed? x = some theMethod := by decide +kernel
set_option maxRecDepth 65536 in
theorem w_hears : about1.hears theMethod below0 = true := by decide +kernel
set_option maxRecDepth 65536 in
theorem w_ripe : about1.ripe theMethod args0 below0 = true := by decide +kernel
theorem w_running : about1.status = .running := rfl
set_option maxRecDepth 65536 in
theorem w_room : about1.hasRoom e0.platform room_1 = true :=
  launch0.hasRoom_least _ room_1 (by decide +kernel) (by decide +kernel) (by decide +kernel) (by decide +kernel) (by decide +kernel) (by decide +kernel)
theorem allAtoms_all (ts : List Jvm.Cond) (a : Array Jvm.Value) (st : Jvm.State) : (allAtoms ts).before a st = ts.all (fun c => c.before a st) := by
  induction ts with
  | nil => rfl
  | cons c t ih =>
    show (Jvm.Cond.and c (allAtoms t)).before a st = _
    rw [Jvm.Cond.before_and, ih, List.all_cons]
def words1 : List Jvm.Cond := Jvm.Cond.code x code maxLocals ret :: tables_1
/-- a 'code' word, met by the world's own term for the bytes: nothing is compared byte by byte -/
theorem code_word {y : MethodName} {bytes : ByteArray} {mx : Nat} {rt : Option FieldType} {a : Array Value} {s : State} {m : MethodId} {meth : Method} {c : Code} (h1 : s.methodNamed? y = some m) (h2 : s.vm.method? m = some meth) (h3 : meth.code = some c) (h4 : c.code = bytes)
    (h5 : (c.maxLocals == mx && c.exceptionTable.isEmpty && decide (c.maxStack ≤ mostOperands) && decide (meth.sig.returnType = rt) && !meth.locks && decide (parseMethodDescriptor y.desc = some meth.sig)) = true) : (Jvm.Cond.code y bytes mx rt).before a s = true := by
  simp only [Bool.and_eq_true, beq_iff_eq, Bool.not_eq_true', decide_eq_true_eq] at h5
  obtain ⟨⟨⟨⟨⟨g1, g2⟩, g3⟩, g4⟩, g5⟩, g6⟩ := h5
  simp [Cond.before, Cond.holds, Cond.value, h1, h2, h3, h4, g1, g2, g3, g4, g5, g6]
def isCode : Jvm.Cond → Bool
  | .code _ _ _ _ => true
  | _ => false
theorem all_split {L : List Jvm.Cond} {P : Jvm.Cond → Bool} (h1 : L.all (fun c => isCode c || P c) = true) (h2 : ∀ c ∈ L.filter isCode, P c = true) : L.all P = true := by
  refine List.all_eq_true.mpr fun c hc => ?_
  have h := List.all_eq_true.mp h1 c hc
  rcases Bool.eq_false_or_eq_true (isCode c) with hi | hi
  · exact h2 c (List.mem_filter.mpr ⟨hc, hi⟩)
  · simpa [hi] using h
set_option maxRecDepth 65536 in
theorem w_c0 : (Jvm.Cond.code x code maxLocals ret).before args0 about1 = true := code_word (m := ⟨1, 1⟩) (meth := k1m1) (c := k1c1) (by decide +kernel) rfl rfl rfl (by decide +kernel)
set_option maxRecDepth 65536 in
theorem w_c1 : (Jvm.Cond.code ({ cls := "com/example/nogood/nogood/problem/Constraint", name := "pair", desc := "(II)J" } : Jvm.MethodName) prog_25_method_2_code (2 : Nat) (Option.some Jvm.ClassFile.FieldType.long)).before args0 about1 = true := code_word (m := ⟨2, 0⟩) (meth := k2m0) (c := k2c0) (by decide +kernel) rfl rfl rfl (by decide +kernel)
def codes1 : List Jvm.Cond := [Jvm.Cond.code x code maxLocals ret, Jvm.Cond.code ({ cls := "com/example/nogood/nogood/problem/Constraint", name := "pair", desc := "(II)J" } : Jvm.MethodName) prog_25_method_2_code (2 : Nat) (Option.some Jvm.ClassFile.FieldType.long)]
set_option maxRecDepth 65536 in
theorem codes_eq : words1.filter isCode = codes1 := rfl
theorem w_codes : ∀ c ∈ words1.filter isCode, c.before args0 about1 = true := by
  rw [codes_eq]
  intro c hc
  simp only [codes1, List.mem_cons, List.not_mem_nil, or_false] at hc
  rcases hc with rfl | rfl
  · exact w_c0
  · exact w_c1
set_option maxRecDepth 65536 in
theorem w_t1 : words1.all (fun c => isCode c || c.before args0 about1) = true := by decide +kernel
theorem w_tables : (allAtoms (Jvm.Cond.code x code maxLocals ret :: tables_1)).before args0 about1 = true := by
  rw [allAtoms_all]
  show words1.all (fun c => c.before args0 about1) = true
  refine all_split ?_ w_codes
  rw [w_t1]
set_option maxRecDepth 65536 in
theorem w_case : (Jvm.Cond.and given_1 narrow_1).before args0 about1 = true := by decide +kernel
theorem w_applies : (headSpec (Jvm.Cond.code x code maxLocals ret :: tables_1) room_1).applies x e0.platform about1 = true :=
  (Spec.applies_iff w_frames).mpr ⟨w_running, w_runnable, w_alone, w_named, w_hears, w_ripe, w_room, w_tables⟩
theorem atStart : AtStart classFile x code maxLocals ret World_1 tables_1 room_1 Calls_1 rest_1 Pre_1 launch0 p0 e0 about1 theMethod args0 below0 :=
  ⟨lists_1, trivial, launch0.admits_env _ _ _, launch0.least_env, fairChoices_fair.cas, fairChoices_fair.clock, w_frames, w_args, w_heap, w_applies, trivial, trivial, w_case⟩
end start1
theorem witness_1 : WitnessClaimed_1 := ⟨start1.p0, start1.e0, start1.about1, start1.theMethod, start1.args0, start1.below0, start1.atStart⟩
end Jvm.Pilot.@@N@@
