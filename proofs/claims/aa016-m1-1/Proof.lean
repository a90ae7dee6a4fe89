import JvmDerived
import JvmDerived.Pilot.@@N@@Statement
import JvmDerived.Pilot.@@N@@Code
set_option linter.unusedVariables false
set_option linter.unusedSimpArgs false
namespace Jvm.RoadKit
open Sem ClassFile Op Lib Jvm.Stand Jvm.Free Jvm.LawKit
section New
variable {p : Program} {l : Launch} {e : Env} {R : Room} {s : State} {m : MethodId} {args : Array Value} {below : List Frame} {meth : Method} {c : Code} {T : State} {locs : List Loc} {cells slots : Nat}
theorem retI (X : Stand p l e R s m args below meth c T locs cells slots) (hx : p.tables.exec = Jvm.exec) {pc : Nat} {Ls : Array Slot} {z : Int32} {rest : List Value} (hret : meth.sig.returnType = some .int) (hd : decode c.code pc = .ok (.ireturn, 1)) {fs : List Frame}
    (hl : ∀ (f : JFrame) (acts : List Action), f.method = m → f.locked = none → f.entered = [] → (doReturn e (T.setTop f) acts (some (.int z))).1 = T.setFrames fs) : Steps p.tables e below (T.setTop (mkF m pc Ls (.int z :: rest))) (T.setFrames fs) := by
  have hm' : T.vm.method? m = some meth := X.method'
  have hn : narrow .int (.int z) = .int z := rfl
  show Steps p.tables e below (T.setTop { method := m, pc := pc, locals := Ls, stack := _ :: rest, locked := none }) _
  jvm_step X.here [X.here.top, hx, hd, hm', hret, hn]
  first | (intro acts; rw [hl _ acts rfl rfl rfl]) | rw [hl _ _ rfl rfl rfl]
  exact Steps.refl _
theorem own_lremM {g : JFrame} {target : State} (X : Stand p l e R s m args below meth c T locs cells slots) (hx : p.tables.exec = Jvm.exec) (hg : g.method = m) {x y : Int64} {rest : List Value} (hd : decode c.code g.pc = .ok (.lrem, 1)) (hs : g.stack = .long y :: .long x :: rest) (hy : y ≠ 0)
    (hr : Steps p.tables e below (T.setTop { g with pc := g.pc + 1, stack := .long (x % y) :: rest }) target) : Steps p.tables e below (T.setTop g) target := by
  have q : x - x / y * y = x % y := lrem_mod x y
  exact XS.lrem X.here hx hg hd hs hy (by rw [q]; exact hr)
theorem own_nz {z : Int32} (h : z = 0 ∨ z = 1) : nar .boolean z = z := by rcases h with rfl | rfl <;> rfl
theorem own_cat1 {v : Value} (h : v.isRef = true) : v.category = 1 := by rcases ref_cases h with rfl | ⟨a, rfl⟩ <;> rfl
end New
end Jvm.RoadKit
namespace Jvm.Pilot.@@N@@
open Jvm Jvm.ClassFile Sem Op Lib Jvm.Free Jvm.Stand Jvm.LawKit Jvm.RoadKit Bundle Jvm.Pilot.@@N@@.Jvm.D
def own_chr (y : Int32) : Int32 := nar .char ((y &&& (255 : Int32)).toUInt32.toUInt16.toUInt32.toInt32)
theorem own_narchr (y : Int32) : nar .char (own_chr y) = own_chr y := by simp only [own_chr, nar, UInt32.toUInt32_toInt32, UInt16.toUInt16_toUInt32]
theorem own_strAt : ∀ d ∈ Bundle.stringAtoms, d ∈ tables_1 := by decide +kernel
def own_digit (y : Int32) : Int32 := if y < (48 : Int32) then (if y < (97 : Int32) then (-1 : Int32) else (if (102 : Int32) < y then (-1 : Int32) else ((y - (97 : Int32)) + (10 : Int32)))) else (if (57 : Int32) < y then (if y < (97 : Int32) then (-1 : Int32) else (if (102 : Int32) < y then (-1 : Int32) else ((y - (97 : Int32)) + (10 : Int32)))) else (y - (48 : Int32)))
def own_at (j : Int32) : Int32 := ([48, 49, 50, 51, 52, 53, 54, 55, 56, 57, 97, 98, 99, 100, 101, 102] : List Int32).getD j.toNatClampNeg 0
theorem own_fin16 (j : Int32) (h : ¬ j < (0 : Int32) ∧ j < (16 : Int32)) : ∃ n : Fin 16, j = Int32.ofNat n := by
  have e0 : (0 : Int32).toInt = 0 := rfl
  have e1 : (16 : Int32).toInt = 16 := rfl
  rw [Int32.lt_iff_toInt_lt, Int32.lt_iff_toInt_lt] at h
  refine ⟨⟨j.toInt.toNat, by omega⟩, ?_⟩
  apply Int32.toInt_inj.mp
  rw [Int32.toInt_ofNat_small (by show j.toInt.toNat < _; omega)]
  show _ = ((j.toInt.toNat : Nat) : Int)
  omega
theorem own_hat (j : Int32) (h : ¬ j < (0 : Int32) ∧ j < (16 : Int32)) : ([(.int (48 : Int32)), (.int (49 : Int32)), (.int (50 : Int32)), (.int (51 : Int32)), (.int (52 : Int32)), (.int (53 : Int32)), (.int (54 : Int32)), (.int (55 : Int32)), (.int (56 : Int32)), (.int (57 : Int32)), (.int (97 : Int32)), (.int (98 : Int32)), (.int (99 : Int32)), (.int (100 : Int32)), (.int (101 : Int32)), (.int (102 : Int32))] : List Value).getD j.toNatClampNeg (.int (0 : Int32)) = .int (own_at j) := by
  obtain ⟨n, rfl⟩ := own_fin16 j h
  revert n; decide +kernel
theorem own_chrat (j : Int32) (h : ¬ j < (0 : Int32) ∧ j < (16 : Int32)) : own_chr (own_at j) = own_at j := by
  obtain ⟨n, rfl⟩ := own_fin16 j h
  revert n; decide +kernel
theorem own_back (j : Int32) (h : ¬ j < (0 : Int32) ∧ j < (16 : Int32)) : own_digit (own_chr (own_at j)) = j := by
  obtain ⟨n, rfl⟩ := own_fin16 j h
  revert n; decide +kernel
theorem own_lo (n : Fin 10) : ¬ own_digit (Int32.ofNat (48 + n)) < (0 : Int32) ∧ own_digit (Int32.ofNat (48 + n)) < (16 : Int32) ∧ own_at (own_digit (Int32.ofNat (48 + n))) = Int32.ofNat (48 + n) := by revert n; decide +kernel
theorem own_hi (n : Fin 6) : ¬ own_digit (Int32.ofNat (97 + n)) < (0 : Int32) ∧ own_digit (Int32.ofNat (97 + n)) < (16 : Int32) ∧ own_at (own_digit (Int32.ofNat (97 + n))) = Int32.ofNat (97 + n) := by revert n; decide +kernel
theorem own_sound (y : Int32) (h : ¬ own_digit y = (-1 : Int32)) : ¬ own_digit y < (0 : Int32) ∧ own_digit y < (16 : Int32) ∧ own_at (own_digit y) = y := by
  have l48 : y < 48 ↔ y.toInt < 48 := by rw [Int32.lt_iff_toInt_lt]; rfl
  have l57 : (57 : Int32) < y ↔ 57 < y.toInt := by rw [Int32.lt_iff_toInt_lt]; rfl
  have l97 : y < 97 ↔ y.toInt < 97 := by rw [Int32.lt_iff_toInt_lt]; rfl
  have l102 : (102 : Int32) < y ↔ 102 < y.toInt := by rw [Int32.lt_iff_toInt_lt]; rfl
  by_cases c1 : 48 ≤ y.toInt ∧ y.toInt ≤ 57
  · have e : y = Int32.ofNat (48 + (y.toInt.toNat - 48)) := by
      apply Int32.toInt_inj.mp
      rw [Int32.toInt_ofNat_small (by omega)]; omega
    have q := own_lo ⟨y.toInt.toNat - 48, by omega⟩
    rw [e]; exact q
  · by_cases c2 : 97 ≤ y.toInt ∧ y.toInt ≤ 102
    · have e : y = Int32.ofNat (97 + (y.toInt.toNat - 97)) := by
        apply Int32.toInt_inj.mp
        rw [Int32.toInt_ofNat_small (by omega)]; omega
      have q := own_hi ⟨y.toInt.toNat - 97, by omega⟩
      rw [e]; exact q
    · exfalso
      apply h
      unfold own_digit
      simp only [l48, l57, l97, l102]
      repeat' split
      all_goals first | rfl | (exfalso; omega)
theorem own_le15 {j : Int32} (h : j < (16 : Int32)) : ¬ (15 : Int32) < j := by
  rw [Int32.lt_iff_toInt_lt] at *
  have e0 : (15 : Int32).toInt = 15 := rfl
  have e1 : (16 : Int32).toInt = 16 := rfl
  omega
theorem own_and15 (u : Int32) : ¬ (u &&& (15 : Int32)) < (0 : Int32) ∧ (u &&& (15 : Int32)) < (16 : Int32) := by
  have h := c_mask u 15 4 (by decide) (by decide)
  rw [Int32.lt_iff_toInt_lt, Int32.lt_iff_toInt_lt, h]
  have e0 : (0 : Int32).toInt = 0 := rfl
  have e1 : (16 : Int32).toInt = 16 := rfl
  simp only [Nat.reducePow]
  omega
theorem pd_5 : parseMethodDescriptor "(I)C" = some ⟨[.int], some .char⟩ := by decide +kernel
theorem pd_4 : parseMethodDescriptor "(I)I" = some ⟨[.int], some .int⟩ := by decide +kernel
theorem pn_4 : plainName "com/example/catchment/catchment/registry/LineCheckDigitPinLaw" = true := by first | (simp [plainName, overriddenIn]; done) | decide +kernel
theorem djdk_42_m56_15 : decode jdk_42_method_56_code 15 = .ok (.ireturn, 1) := by decide +kernel
theorem djdk_42_m56_12 : decode jdk_42_method_56_code 12 = .ok (.invokestatic 495, 3) := by decide +kernel
theorem djdk_42_m56_11 : decode jdk_42_method_56_code 11 = .ok (.iload_n 1, 1) := by decide +kernel
theorem djdk_42_m56_8 : decode jdk_42_method_56_code 8 = .ok (.getfield 9, 3) := by decide +kernel
theorem djdk_42_m56_7 : decode jdk_42_method_56_code 7 = .ok (.aload_n 0, 1) := by decide +kernel
theorem djdk_42_m56_4 : decode jdk_42_method_56_code 4 = .ok (.ifCond .eq 12, 3) := by decide +kernel
theorem djdk_42_m56_1 : decode jdk_42_method_56_code 1 = .ok (.invokevirtual 492, 3) := by decide +kernel
theorem djdk_42_m56_0 : decode jdk_42_method_56_code 0 = .ok (.aload_n 0, 1) := by decide +kernel
theorem pd_3 : parseMethodDescriptor "([BI)C" = some ⟨[(.array .byte), .int], some .char⟩ := by decide +kernel
theorem pd_2 : parseMethodDescriptor "()Z" = some ⟨[], some .boolean⟩ := by decide +kernel
theorem djdk_43_m2_14 : decode jdk_43_method_2_code 14 = .ok (.ireturn, 1) := by decide +kernel
theorem djdk_43_m2_13 : decode jdk_43_method_2_code 13 = .ok (.i2c, 1) := by decide +kernel
theorem djdk_43_m2_12 : decode jdk_43_method_2_code 12 = .ok (.iand, 1) := by decide +kernel
theorem djdk_43_m2_9 : decode jdk_43_method_2_code 9 = .ok (.sipush 255, 3) := by decide +kernel
theorem djdk_43_m2_8 : decode jdk_43_method_2_code 8 = .ok (.baload, 1) := by decide +kernel
theorem djdk_43_m2_7 : decode jdk_43_method_2_code 7 = .ok (.iload_n 1, 1) := by decide +kernel
theorem djdk_43_m2_6 : decode jdk_43_method_2_code 6 = .ok (.aload_n 0, 1) := by decide +kernel
theorem djdk_43_m2_3 : decode jdk_43_method_2_code 3 = .ok (.invokestatic 9, 3) := by decide +kernel
theorem djdk_43_m2_2 : decode jdk_43_method_2_code 2 = .ok (.arraylength, 1) := by decide +kernel
theorem djdk_43_m2_1 : decode jdk_43_method_2_code 1 = .ok (.aload_n 0, 1) := by decide +kernel
theorem djdk_43_m2_0 : decode jdk_43_method_2_code 0 = .ok (.iload_n 1, 1) := by decide +kernel
theorem pd_1 : parseMethodDescriptor "(II)V" = some ⟨[.int, .int], none⟩ := by decide +kernel
theorem pn_3 : plainName "java/lang/StringLatin1" = true := by first | (simp [plainName, overriddenIn]; done) | decide +kernel
theorem djdk_42_m155_9 : decode jdk_42_method_155_code 9 = .ok (.return_, 1) := by decide +kernel
theorem djdk_42_m155_8 : decode jdk_42_method_155_code 8 = .ok (.pop, 1) := by decide +kernel
theorem djdk_42_m155_5 : decode jdk_42_method_155_code 5 = .ok (.invokestatic 1059, 3) := by decide +kernel
theorem djdk_42_m155_2 : decode jdk_42_method_155_code 2 = .ok (.getstatic 1053, 3) := by decide +kernel
theorem djdk_42_m155_1 : decode jdk_42_method_155_code 1 = .ok (.iload_n 1, 1) := by decide +kernel
theorem djdk_42_m155_0 : decode jdk_42_method_155_code 0 = .ok (.iload_n 0, 1) := by decide +kernel
theorem pd_0 : parseMethodDescriptor "(IILjava/util/function/BiFunction;)I" = some ⟨[.int, .int, (.object "java/util/function/BiFunction")], some .int⟩ := by decide +kernel
theorem djdk_41_m11_17 : decode jdk_41_method_11_code 17 = .ok (.ireturn, 1) := by decide +kernel
theorem djdk_41_m11_16 : decode jdk_41_method_11_code 16 = .ok (.iload_n 0, 1) := by decide +kernel
theorem djdk_41_m11_6 : decode jdk_41_method_11_code 6 = .ok (.if_icmp .lt 10, 3) := by decide +kernel
theorem djdk_41_m11_5 : decode jdk_41_method_11_code 5 = .ok (.iload_n 1, 1) := by decide +kernel
theorem djdk_41_m11_4 : decode jdk_41_method_11_code 4 = .ok (.iload_n 0, 1) := by decide +kernel
theorem djdk_41_m11_1 : decode jdk_41_method_11_code 1 = .ok (.ifCond .lt 8, 3) := by decide +kernel
theorem djdk_41_m11_0 : decode jdk_41_method_11_code 0 = .ok (.iload_n 0, 1) := by decide +kernel
theorem pn_2 : plainName "jdk/internal/util/Preconditions" = true := by first | (simp [plainName, overriddenIn]; done) | decide +kernel
theorem djdk_42_m154_18 : decode jdk_42_method_154_code 18 = .ok (.ireturn, 1) := by decide +kernel
theorem djdk_42_m154_14 : decode jdk_42_method_154_code 14 = .ok (.goto 4, 3) := by decide +kernel
theorem djdk_42_m154_13 : decode jdk_42_method_154_code 13 = .ok (.iconst 1, 1) := by decide +kernel
theorem djdk_42_m154_10 : decode jdk_42_method_154_code 10 = .ok (.ifCond .ne 7, 3) := by decide +kernel
theorem djdk_42_m154_7 : decode jdk_42_method_154_code 7 = .ok (.getfield 15, 3) := by decide +kernel
theorem djdk_42_m154_6 : decode jdk_42_method_154_code 6 = .ok (.aload_n 0, 1) := by decide +kernel
theorem djdk_42_m154_3 : decode jdk_42_method_154_code 3 = .ok (.ifCond .eq 14, 3) := by decide +kernel
theorem djdk_42_m154_0 : decode jdk_42_method_154_code 0 = .ok (.getstatic 38, 3) := by decide +kernel
theorem pn_1 : plainName "java/lang/String" = true := by first | (simp [plainName, overriddenIn]; done) | decide +kernel
theorem dp36_m10_46 : decode prog_36_method_10_code 46 = .ok (.ireturn, 1) := by decide +kernel
theorem dp36_m10_45 : decode prog_36_method_10_code 45 = .ok (.iload_n 1, 1) := by decide +kernel
theorem dp36_m10_17 : decode prog_36_method_10_code 17 = .ok (.goto 28, 3) := by decide +kernel
theorem dp36_m10_16 : decode prog_36_method_10_code 16 = .ok (.istore_n 1, 1) := by decide +kernel
theorem dp36_m10_15 : decode prog_36_method_10_code 15 = .ok (.isub, 1) := by decide +kernel
theorem dp36_m10_13 : decode prog_36_method_10_code 13 = .ok (.bipush 48, 2) := by decide +kernel
theorem dp36_m10_12 : decode prog_36_method_10_code 12 = .ok (.iload_n 0, 1) := by decide +kernel
theorem dp36_m10_9 : decode prog_36_method_10_code 9 = .ok (.if_icmp .gt 11, 3) := by decide +kernel
theorem dp36_m10_7 : decode prog_36_method_10_code 7 = .ok (.bipush 57, 2) := by decide +kernel
theorem dp36_m10_6 : decode prog_36_method_10_code 6 = .ok (.iload_n 0, 1) := by decide +kernel
theorem dp36_m10_40 : decode prog_36_method_10_code 40 = .ok (.goto 5, 3) := by decide +kernel
theorem dp36_m10_39 : decode prog_36_method_10_code 39 = .ok (.istore_n 1, 1) := by decide +kernel
theorem dp36_m10_38 : decode prog_36_method_10_code 38 = .ok (.iadd, 1) := by decide +kernel
theorem dp36_m10_36 : decode prog_36_method_10_code 36 = .ok (.bipush 10, 2) := by decide +kernel
theorem dp36_m10_35 : decode prog_36_method_10_code 35 = .ok (.isub, 1) := by decide +kernel
theorem dp36_m10_33 : decode prog_36_method_10_code 33 = .ok (.bipush 97, 2) := by decide +kernel
theorem dp36_m10_32 : decode prog_36_method_10_code 32 = .ok (.iload_n 0, 1) := by decide +kernel
theorem dp36_m10_29 : decode prog_36_method_10_code 29 = .ok (.if_icmp .gt 14, 3) := by decide +kernel
theorem dp36_m10_27 : decode prog_36_method_10_code 27 = .ok (.bipush 102, 2) := by decide +kernel
theorem dp36_m10_26 : decode prog_36_method_10_code 26 = .ok (.iload_n 0, 1) := by decide +kernel
theorem dp36_m10_44 : decode prog_36_method_10_code 44 = .ok (.istore_n 1, 1) := by decide +kernel
theorem dp36_m10_43 : decode prog_36_method_10_code 43 = .ok (.iconst (-1), 1) := by decide +kernel
theorem dp36_m10_23 : decode prog_36_method_10_code 23 = .ok (.if_icmp .lt 20, 3) := by decide +kernel
theorem dp36_m10_21 : decode prog_36_method_10_code 21 = .ok (.bipush 97, 2) := by decide +kernel
theorem dp36_m10_20 : decode prog_36_method_10_code 20 = .ok (.iload_n 0, 1) := by decide +kernel
theorem dp36_m10_3 : decode prog_36_method_10_code 3 = .ok (.if_icmp .lt 17, 3) := by decide +kernel
theorem dp36_m10_1 : decode prog_36_method_10_code 1 = .ok (.bipush 48, 2) := by decide +kernel
theorem dp36_m10_0 : decode prog_36_method_10_code 0 = .ok (.iload_n 0, 1) := by decide +kernel
theorem pn_0 : plainName "com/example/catchment/catchment/registry/LineCheck" = true := by first | (simp [plainName, overriddenIn]; done) | decide +kernel
theorem ef_1 (m : MethodId) (x0 : Int32) : entryFrame m #[(.int x0)] 2 = mkF m 0 #[.val (.int x0), .unset] [] := by first | (simp [entryFrame, mkF, argsToLocals, Value.category]; done) | rfl
def Q1 (Z : State) (y1 : Int32) (h0 : Heap) (n0 : Nat) (v : Option Value) (h : Heap) (L : List Loc) : Prop := v = some (.int (own_digit y1)) ∧ Fr n0 L ∧ h = h0
set_option maxRecDepth 65536 in
set_option maxHeartbeats 40000000 in
theorem rm1 (l : Launch) (Z : State) (a0 : Array Value) (hw : ∀ d ∈ tables_1, d.before a0 Z = true) (ws : List Jvm.Cond) (y1 : Int32) (h0 : Heap) (n0 : Nat) (Z0 : n0 ≤ h0.size)  :
    MetFree l (⟨"com/example/catchment/catchment/registry/LineCheck", "digit", "(I)I"⟩ : MethodName) (head1 (Jvm.Cond.code (⟨"com/example/catchment/catchment/registry/LineCheck", "digit", "(I)I"⟩ : MethodName) prog_36_method_10_code 2 (some .int) :: ws) ({ frames := 0, cells := 0, slots := 0, locals := 0 } : Room)) (fun A_ U => A_ = #[(.int y1)] ∧ Z.Warmed39 U.vm ∧ U.heap = h0) (fun _ _ _ _ _ => True) (fun _ U o U' => ∃ v L, o = .returned v ∧ Q1 Z y1 h0 n0 v U'.heap L ∧ FrameEnd U o U' L ({ frames := 0, cells := 0, slots := 0, locals := 0 } : Room).cells ({ frames := 0, cells := 0, slots := 0, locals := 0 } : Room).slots) := by
  refine MetFree.of_bodySF (plainFor_of_name pn_0) hisR ?_
  intro p e s m args below meth c s₁ Bd hml0 hP hK
  obtain ⟨rfl, hZ, hh⟩ := hP
  have hx := Bd.exec
  have hby := Bd.bytes
  have hml : c.maxLocals = 2 := hml0
  have hown : s.vm.findClass "com/example/catchment/catchment/registry/LineCheck" = some m.cls := findClass_of_methodNamed Bd.named
  have hnm := (name_of_methodNamed Bd.named Bd.method).1
  have X0 : Stand p l e ({ frames := 0, cells := 0, slots := 0, locals := 0 } : Room) s m #[(.int y1)] below meth c s₁ [] 0 0 := Stand.of_body Bd
  have e0 : s₁.heap = h0 := by rw [← hh, Bd.state]; rfl
  have N0 := Fr.nil n0
  have k0 : ∀ t, Steps p.tables e below (s₁.setTop (mkF m 0 #[.val (.int y1), .unset] [])) t → Steps p.tables e below (s₁.setTop (entryFrame m #[(.int y1)] 2)) t := fun t k => castTop (ef_1 m y1) k
  obtain ⟨r, eq_r⟩ : ∃ z : Int32, z = (if y1 < (48 : Int32) then (if y1 < (97 : Int32) then (-1 : Int32) else (if (102 : Int32) < y1 then (-1 : Int32) else ((y1 - (97 : Int32)) + (10 : Int32)))) else (if (57 : Int32) < y1 then (if y1 < (97 : Int32) then (-1 : Int32) else (if (102 : Int32) < y1 then (-1 : Int32) else ((y1 - (97 : Int32)) + (10 : Int32)))) else (y1 - (48 : Int32)))) := ⟨_, rfl⟩
  have k7 : ∀ t, Steps p.tables e below (s₁.setTop (mkF m 45 #[.val (.int y1), .val (.int r)] [])) t → Steps p.tables e below (s₁.setTop (entryFrame m #[(.int y1)] 2)) t := by
    intro t k
    refine k0 _ ?_
    show Steps p.tables e below (s₁.setTop (mkF m 0 #[.val (.int y1), .unset] [])) _
    refine XS.iloadN X0.here hx rfl (hb hby dp36_m10_0) rfl ?_
    show Steps p.tables e below (s₁.setTop (mkF m 1 #[.val (.int y1), .unset] [(.int y1)])) _
    refine XS.bipush X0.here hx rfl (hb hby dp36_m10_1) ?_
    show Steps p.tables e below (s₁.setTop (mkF m 3 #[.val (.int y1), .unset] [(.int (48 : Int32)), (.int y1)])) _
    by_cases hc1_3 : y1 < (48 : Int32)
    · show Steps p.tables e below (s₁.setTop (mkF m 3 #[.val (.int y1), .unset] [(.int (48 : Int32)), (.int y1)])) _
      refine XS.icmpYes X0.here hx rfl (pc0 := 3) (pc' := 20) rfl (hb hby dp36_m10_3) rfl (tlt hc1_3).1 (by decide) (by decide) ?_
      show Steps p.tables e below (s₁.setTop (mkF m 20 #[.val (.int y1), .unset] [])) _
      refine XS.iloadN X0.here hx rfl (hb hby dp36_m10_20) rfl ?_
      show Steps p.tables e below (s₁.setTop (mkF m 21 #[.val (.int y1), .unset] [(.int y1)])) _
      refine XS.bipush X0.here hx rfl (hb hby dp36_m10_21) ?_
      show Steps p.tables e below (s₁.setTop (mkF m 23 #[.val (.int y1), .unset] [(.int (97 : Int32)), (.int y1)])) _
      by_cases hc2_23 : y1 < (97 : Int32)
      · rw [show r = (-1 : Int32) by rw [eq_r, if_pos hc1_3, if_pos hc2_23]] at k
        show Steps p.tables e below (s₁.setTop (mkF m 23 #[.val (.int y1), .unset] [(.int (97 : Int32)), (.int y1)])) _
        refine XS.icmpYes X0.here hx rfl (pc0 := 23) (pc' := 43) rfl (hb hby dp36_m10_23) rfl (tlt hc2_23).1 (by decide) (by decide) ?_
        show Steps p.tables e below (s₁.setTop (mkF m 43 #[.val (.int y1), .unset] [])) _
        refine XS.iconst X0.here hx rfl (hb hby dp36_m10_43) ?_
        show Steps p.tables e below (s₁.setTop (mkF m 44 #[.val (.int y1), .unset] [(.int (-1 : Int32))])) _
        refine XS.istoreN X0.here hx rfl (hb hby dp36_m10_44) rfl (l' := #[.val (.int y1), .val (.int (-1 : Int32))]) rfl ?_
        show Steps p.tables e below (s₁.setTop (mkF m 45 #[.val (.int y1), .val (.int (-1 : Int32))] [])) _
        exact k
      · show Steps p.tables e below (s₁.setTop (mkF m 23 #[.val (.int y1), .unset] [(.int (97 : Int32)), (.int y1)])) _
        refine XS.icmpNo X0.here hx rfl (hb hby dp36_m10_23) rfl (flt hc2_23).1 ?_
        show Steps p.tables e below (s₁.setTop (mkF m 26 #[.val (.int y1), .unset] [])) _
        refine XS.iloadN X0.here hx rfl (hb hby dp36_m10_26) rfl ?_
        show Steps p.tables e below (s₁.setTop (mkF m 27 #[.val (.int y1), .unset] [(.int y1)])) _
        refine XS.bipush X0.here hx rfl (hb hby dp36_m10_27) ?_
        show Steps p.tables e below (s₁.setTop (mkF m 29 #[.val (.int y1), .unset] [(.int (102 : Int32)), (.int y1)])) _
        by_cases hc3_29 : (102 : Int32) < y1
        · rw [show r = (-1 : Int32) by rw [eq_r, if_pos hc1_3, if_neg hc2_23, if_pos hc3_29]] at k
          show Steps p.tables e below (s₁.setTop (mkF m 29 #[.val (.int y1), .unset] [(.int (102 : Int32)), (.int y1)])) _
          refine XS.icmpYes X0.here hx rfl (pc0 := 29) (pc' := 43) rfl (hb hby dp36_m10_29) rfl (tlt hc3_29).2.2.1 (by decide) (by decide) ?_
          show Steps p.tables e below (s₁.setTop (mkF m 43 #[.val (.int y1), .unset] [])) _
          refine XS.iconst X0.here hx rfl (hb hby dp36_m10_43) ?_
          show Steps p.tables e below (s₁.setTop (mkF m 44 #[.val (.int y1), .unset] [(.int (-1 : Int32))])) _
          refine XS.istoreN X0.here hx rfl (hb hby dp36_m10_44) rfl (l' := #[.val (.int y1), .val (.int (-1 : Int32))]) rfl ?_
          show Steps p.tables e below (s₁.setTop (mkF m 45 #[.val (.int y1), .val (.int (-1 : Int32))] [])) _
          exact k
        · rw [show r = ((y1 - (97 : Int32)) + (10 : Int32)) by rw [eq_r, if_pos hc1_3, if_neg hc2_23, if_neg hc3_29]] at k
          show Steps p.tables e below (s₁.setTop (mkF m 29 #[.val (.int y1), .unset] [(.int (102 : Int32)), (.int y1)])) _
          refine XS.icmpNo X0.here hx rfl (hb hby dp36_m10_29) rfl (flt hc3_29).2.2.1 ?_
          show Steps p.tables e below (s₁.setTop (mkF m 32 #[.val (.int y1), .unset] [])) _
          refine XS.iloadN X0.here hx rfl (hb hby dp36_m10_32) rfl ?_
          show Steps p.tables e below (s₁.setTop (mkF m 33 #[.val (.int y1), .unset] [(.int y1)])) _
          refine XS.bipush X0.here hx rfl (hb hby dp36_m10_33) ?_
          show Steps p.tables e below (s₁.setTop (mkF m 35 #[.val (.int y1), .unset] [(.int (97 : Int32)), (.int y1)])) _
          refine XS.isub X0.here hx rfl (hb hby dp36_m10_35) rfl ?_
          show Steps p.tables e below (s₁.setTop (mkF m 36 #[.val (.int y1), .unset] [(.int (y1 - (97 : Int32)))])) _
          refine XS.bipush X0.here hx rfl (hb hby dp36_m10_36) ?_
          show Steps p.tables e below (s₁.setTop (mkF m 38 #[.val (.int y1), .unset] [(.int (10 : Int32)), (.int (y1 - (97 : Int32)))])) _
          refine XS.iadd X0.here hx rfl (hb hby dp36_m10_38) rfl ?_
          show Steps p.tables e below (s₁.setTop (mkF m 39 #[.val (.int y1), .unset] [(.int ((y1 - (97 : Int32)) + (10 : Int32)))])) _
          refine XS.istoreN X0.here hx rfl (hb hby dp36_m10_39) rfl (l' := #[.val (.int y1), .val (.int ((y1 - (97 : Int32)) + (10 : Int32)))]) rfl ?_
          show Steps p.tables e below (s₁.setTop (mkF m 40 #[.val (.int y1), .val (.int ((y1 - (97 : Int32)) + (10 : Int32)))] [])) _
          refine XS.goto X0.here hx rfl (pc0 := 40) (pc' := 45) rfl (hb hby dp36_m10_40) (by decide) (by decide) ?_
          show Steps p.tables e below (s₁.setTop (mkF m 45 #[.val (.int y1), .val (.int ((y1 - (97 : Int32)) + (10 : Int32)))] [])) _
          exact k
    · show Steps p.tables e below (s₁.setTop (mkF m 3 #[.val (.int y1), .unset] [(.int (48 : Int32)), (.int y1)])) _
      refine XS.icmpNo X0.here hx rfl (hb hby dp36_m10_3) rfl (flt hc1_3).1 ?_
      show Steps p.tables e below (s₁.setTop (mkF m 6 #[.val (.int y1), .unset] [])) _
      refine XS.iloadN X0.here hx rfl (hb hby dp36_m10_6) rfl ?_
      show Steps p.tables e below (s₁.setTop (mkF m 7 #[.val (.int y1), .unset] [(.int y1)])) _
      refine XS.bipush X0.here hx rfl (hb hby dp36_m10_7) ?_
      show Steps p.tables e below (s₁.setTop (mkF m 9 #[.val (.int y1), .unset] [(.int (57 : Int32)), (.int y1)])) _
      by_cases hc4_9 : (57 : Int32) < y1
      · show Steps p.tables e below (s₁.setTop (mkF m 9 #[.val (.int y1), .unset] [(.int (57 : Int32)), (.int y1)])) _
        refine XS.icmpYes X0.here hx rfl (pc0 := 9) (pc' := 20) rfl (hb hby dp36_m10_9) rfl (tlt hc4_9).2.2.1 (by decide) (by decide) ?_
        show Steps p.tables e below (s₁.setTop (mkF m 20 #[.val (.int y1), .unset] [])) _
        refine XS.iloadN X0.here hx rfl (hb hby dp36_m10_20) rfl ?_
        show Steps p.tables e below (s₁.setTop (mkF m 21 #[.val (.int y1), .unset] [(.int y1)])) _
        refine XS.bipush X0.here hx rfl (hb hby dp36_m10_21) ?_
        show Steps p.tables e below (s₁.setTop (mkF m 23 #[.val (.int y1), .unset] [(.int (97 : Int32)), (.int y1)])) _
        by_cases hc5_23 : y1 < (97 : Int32)
        · rw [show r = (-1 : Int32) by rw [eq_r, if_neg hc1_3, if_pos hc4_9, if_pos hc5_23]] at k
          show Steps p.tables e below (s₁.setTop (mkF m 23 #[.val (.int y1), .unset] [(.int (97 : Int32)), (.int y1)])) _
          refine XS.icmpYes X0.here hx rfl (pc0 := 23) (pc' := 43) rfl (hb hby dp36_m10_23) rfl (tlt hc5_23).1 (by decide) (by decide) ?_
          show Steps p.tables e below (s₁.setTop (mkF m 43 #[.val (.int y1), .unset] [])) _
          refine XS.iconst X0.here hx rfl (hb hby dp36_m10_43) ?_
          show Steps p.tables e below (s₁.setTop (mkF m 44 #[.val (.int y1), .unset] [(.int (-1 : Int32))])) _
          refine XS.istoreN X0.here hx rfl (hb hby dp36_m10_44) rfl (l' := #[.val (.int y1), .val (.int (-1 : Int32))]) rfl ?_
          show Steps p.tables e below (s₁.setTop (mkF m 45 #[.val (.int y1), .val (.int (-1 : Int32))] [])) _
          exact k
        · show Steps p.tables e below (s₁.setTop (mkF m 23 #[.val (.int y1), .unset] [(.int (97 : Int32)), (.int y1)])) _
          refine XS.icmpNo X0.here hx rfl (hb hby dp36_m10_23) rfl (flt hc5_23).1 ?_
          show Steps p.tables e below (s₁.setTop (mkF m 26 #[.val (.int y1), .unset] [])) _
          refine XS.iloadN X0.here hx rfl (hb hby dp36_m10_26) rfl ?_
          show Steps p.tables e below (s₁.setTop (mkF m 27 #[.val (.int y1), .unset] [(.int y1)])) _
          refine XS.bipush X0.here hx rfl (hb hby dp36_m10_27) ?_
          show Steps p.tables e below (s₁.setTop (mkF m 29 #[.val (.int y1), .unset] [(.int (102 : Int32)), (.int y1)])) _
          by_cases hc6_29 : (102 : Int32) < y1
          · rw [show r = (-1 : Int32) by rw [eq_r, if_neg hc1_3, if_pos hc4_9, if_neg hc5_23, if_pos hc6_29]] at k
            show Steps p.tables e below (s₁.setTop (mkF m 29 #[.val (.int y1), .unset] [(.int (102 : Int32)), (.int y1)])) _
            refine XS.icmpYes X0.here hx rfl (pc0 := 29) (pc' := 43) rfl (hb hby dp36_m10_29) rfl (tlt hc6_29).2.2.1 (by decide) (by decide) ?_
            show Steps p.tables e below (s₁.setTop (mkF m 43 #[.val (.int y1), .unset] [])) _
            refine XS.iconst X0.here hx rfl (hb hby dp36_m10_43) ?_
            show Steps p.tables e below (s₁.setTop (mkF m 44 #[.val (.int y1), .unset] [(.int (-1 : Int32))])) _
            refine XS.istoreN X0.here hx rfl (hb hby dp36_m10_44) rfl (l' := #[.val (.int y1), .val (.int (-1 : Int32))]) rfl ?_
            show Steps p.tables e below (s₁.setTop (mkF m 45 #[.val (.int y1), .val (.int (-1 : Int32))] [])) _
            exact k
          · rw [show r = ((y1 - (97 : Int32)) + (10 : Int32)) by rw [eq_r, if_neg hc1_3, if_pos hc4_9, if_neg hc5_23, if_neg hc6_29]] at k
            show Steps p.tables e below (s₁.setTop (mkF m 29 #[.val (.int y1), .unset] [(.int (102 : Int32)), (.int y1)])) _
            refine XS.icmpNo X0.here hx rfl (hb hby dp36_m10_29) rfl (flt hc6_29).2.2.1 ?_
            show Steps p.tables e below (s₁.setTop (mkF m 32 #[.val (.int y1), .unset] [])) _
            refine XS.iloadN X0.here hx rfl (hb hby dp36_m10_32) rfl ?_
            show Steps p.tables e below (s₁.setTop (mkF m 33 #[.val (.int y1), .unset] [(.int y1)])) _
            refine XS.bipush X0.here hx rfl (hb hby dp36_m10_33) ?_
            show Steps p.tables e below (s₁.setTop (mkF m 35 #[.val (.int y1), .unset] [(.int (97 : Int32)), (.int y1)])) _
            refine XS.isub X0.here hx rfl (hb hby dp36_m10_35) rfl ?_
            show Steps p.tables e below (s₁.setTop (mkF m 36 #[.val (.int y1), .unset] [(.int (y1 - (97 : Int32)))])) _
            refine XS.bipush X0.here hx rfl (hb hby dp36_m10_36) ?_
            show Steps p.tables e below (s₁.setTop (mkF m 38 #[.val (.int y1), .unset] [(.int (10 : Int32)), (.int (y1 - (97 : Int32)))])) _
            refine XS.iadd X0.here hx rfl (hb hby dp36_m10_38) rfl ?_
            show Steps p.tables e below (s₁.setTop (mkF m 39 #[.val (.int y1), .unset] [(.int ((y1 - (97 : Int32)) + (10 : Int32)))])) _
            refine XS.istoreN X0.here hx rfl (hb hby dp36_m10_39) rfl (l' := #[.val (.int y1), .val (.int ((y1 - (97 : Int32)) + (10 : Int32)))]) rfl ?_
            show Steps p.tables e below (s₁.setTop (mkF m 40 #[.val (.int y1), .val (.int ((y1 - (97 : Int32)) + (10 : Int32)))] [])) _
            refine XS.goto X0.here hx rfl (pc0 := 40) (pc' := 45) rfl (hb hby dp36_m10_40) (by decide) (by decide) ?_
            show Steps p.tables e below (s₁.setTop (mkF m 45 #[.val (.int y1), .val (.int ((y1 - (97 : Int32)) + (10 : Int32)))] [])) _
            exact k
      · rw [show r = (y1 - (48 : Int32)) by rw [eq_r, if_neg hc1_3, if_neg hc4_9]] at k
        show Steps p.tables e below (s₁.setTop (mkF m 9 #[.val (.int y1), .unset] [(.int (57 : Int32)), (.int y1)])) _
        refine XS.icmpNo X0.here hx rfl (hb hby dp36_m10_9) rfl (flt hc4_9).2.2.1 ?_
        show Steps p.tables e below (s₁.setTop (mkF m 12 #[.val (.int y1), .unset] [])) _
        refine XS.iloadN X0.here hx rfl (hb hby dp36_m10_12) rfl ?_
        show Steps p.tables e below (s₁.setTop (mkF m 13 #[.val (.int y1), .unset] [(.int y1)])) _
        refine XS.bipush X0.here hx rfl (hb hby dp36_m10_13) ?_
        show Steps p.tables e below (s₁.setTop (mkF m 15 #[.val (.int y1), .unset] [(.int (48 : Int32)), (.int y1)])) _
        refine XS.isub X0.here hx rfl (hb hby dp36_m10_15) rfl ?_
        show Steps p.tables e below (s₁.setTop (mkF m 16 #[.val (.int y1), .unset] [(.int (y1 - (48 : Int32)))])) _
        refine XS.istoreN X0.here hx rfl (hb hby dp36_m10_16) rfl (l' := #[.val (.int y1), .val (.int (y1 - (48 : Int32)))]) rfl ?_
        show Steps p.tables e below (s₁.setTop (mkF m 17 #[.val (.int y1), .val (.int (y1 - (48 : Int32)))] [])) _
        refine XS.goto X0.here hx rfl (pc0 := 17) (pc' := 45) rfl (hb hby dp36_m10_17) (by decide) (by decide) ?_
        show Steps p.tables e below (s₁.setTop (mkF m 45 #[.val (.int y1), .val (.int (y1 - (48 : Int32)))] [])) _
        exact k
  have k8 : ∀ t, Steps p.tables e below (s₁.setTop (mkF m 46 #[.val (.int y1), .val (.int r)] [(.int r)])) t → Steps p.tables e below (s₁.setTop (entryFrame m #[(.int y1)] 2)) t := by
    intro t k
    refine k7 _ ?_
    show Steps p.tables e below (s₁.setTop (mkF m 45 #[.val (.int y1), .val (.int r)] [])) _
    refine XS.iloadN X0.here hx rfl (hb hby dp36_m10_45) rfl ?_
    show Steps p.tables e below (s₁.setTop (mkF m 46 #[.val (.int y1), .val (.int r)] [(.int r)])) _
    exact k
  obtain ⟨fs, hr, hrun, hended, hW, hsame⟩ := X0.leave (v := some (.int r)) (fun h => by rw [Bd.returns] at h; cases h)
  refine ⟨_, _, k8 _ ?_, hrun, hended, _, _, rfl, ?_, ⟨_, rfl⟩, hW, hsame.mono (Nat.le_of_ble_eq_true rfl) (Nat.le_of_ble_eq_true rfl)⟩
  · exact retI X0 hx Bd.returns (hb hby dp36_m10_46) hr
  · show Q1 Z y1 h0 n0 _ s₁.heap _
    rw [e0]
    exact ⟨congrArg (fun z => some (Value.int z)) eq_r, N0, rfl⟩
theorem ef_Lat (m : MethodId) (x0 : Addr) : entryFrame m #[(.ref x0)] 1 = mkF m 0 #[.val (.ref x0)] [] := by first | (simp [entryFrame, mkF, argsToLocals, Value.category]; done) | rfl
def QLat (Z : State) (a : Addr) (cs : Int32) (h0 : Heap) (n0 : Nat) (v : Option Value) (h : Heap) (L : List Loc) : Prop := v = some (.int 1) ∧ Fr n0 L ∧ h = h0
set_option maxRecDepth 65536 in
set_option maxHeartbeats 40000000 in
theorem rmLat (l : Launch) (Z : State) (a0 : Array Value) (hw : ∀ d ∈ tables_1, d.before a0 Z = true) (ws : List Jvm.Cond) (a : Addr) (cs : Int32) (h0 : Heap) (n0 : Nat) (Z0 : n0 ≤ h0.size) (EE : Exa Z h0 a "java/lang/String") (FC : Fld Z h0 a "java/lang/String" "coder" "B" (.int (0 : Int32))) (S1 : Sta Z Z.heap "java/lang/String" "COMPACT_STRINGS" "Z" (.int cs)) (hcs : ¬ cs = (0 : Int32)) (XO : Old Z n0 h0) :
    MetFree l (⟨"java/lang/String", "isLatin1", "()Z"⟩ : MethodName) (head1 (Jvm.Cond.code (⟨"java/lang/String", "isLatin1", "()Z"⟩ : MethodName) jdk_42_method_154_code 1 (some .boolean) :: ws) ({ frames := 0, cells := 0, slots := 0, locals := 0 } : Room)) (fun A_ U => A_ = #[(.ref a)] ∧ Z.Warmed39 U.vm ∧ U.heap = h0) (fun _ _ _ _ _ => True) (fun _ U o U' => ∃ v L, o = .returned v ∧ QLat Z a cs h0 n0 v U'.heap L ∧ FrameEnd U o U' L ({ frames := 0, cells := 0, slots := 0, locals := 0 } : Room).cells ({ frames := 0, cells := 0, slots := 0, locals := 0 } : Room).slots) := by
  refine MetFree.of_bodySF (plainFor_of_name pn_1) hisR ?_
  intro p e s m args below meth c s₁ Bd hml0 hP hK
  obtain ⟨rfl, hZ, hh⟩ := hP
  have hx := Bd.exec
  have hby := Bd.bytes
  have hml : c.maxLocals = 1 := hml0
  have hown : s.vm.findClass "java/lang/String" = some m.cls := findClass_of_methodNamed Bd.named
  have hnm := (name_of_methodNamed Bd.named Bd.method).1
  have X0 : Stand p l e ({ frames := 0, cells := 0, slots := 0, locals := 0 } : Room) s m #[(.ref a)] below meth c s₁ [] 0 0 := Stand.of_body Bd
  have e0 : s₁.heap = h0 := by rw [← hh, Bd.state]; rfl
  have N0 := Fr.nil n0
  have k0 : ∀ t, Steps p.tables e below (s₁.setTop (mkF m 0 #[.val (.ref a)] [])) t → Steps p.tables e below (s₁.setTop (entryFrame m #[(.ref a)] 1)) t := fun t k => castTop (ef_Lat m a) k
  obtain ⟨T1, X1, e1, st1⟩ := getS (host := "") X0 hx hZ hown (hw _ (List.mem_of_getElem? (i := 22) rfl)) Via.refl e0 (S1.ext XO.2) (g := (mkF m 0 #[.val (.ref a)] [])) rfl (hb hby djdk_42_m154_0)
  have k1 : ∀ t, Steps p.tables e below (T1.setTop (mkF m 3 #[.val (.ref a)] [(.int cs)])) t → Steps p.tables e below (s₁.setTop (entryFrame m #[(.ref a)] 1)) t := fun t k => k0 t (st1 _ k)
  have k2 : ∀ t, Steps p.tables e below (T1.setTop (mkF m 7 #[.val (.ref a)] [(.ref a)])) t → Steps p.tables e below (s₁.setTop (entryFrame m #[(.ref a)] 1)) t := by
    intro t k
    refine k1 _ ?_
    show Steps p.tables e below (T1.setTop (mkF m 3 #[.val (.ref a)] [(.int cs)])) _
    refine XS.ifNo X1.here hx rfl (hb hby djdk_42_m154_3) rfl ((if0 _ _).trans (feq hcs).1) ?_
    show Steps p.tables e below (T1.setTop (mkF m 6 #[.val (.ref a)] [])) _
    refine XS.aloadN X1.here hx rfl (hb hby djdk_42_m154_6) rfl rfl ?_
    show Steps p.tables e below (T1.setTop (mkF m 7 #[.val (.ref a)] [(.ref a)])) _
    exact k
  obtain ⟨T3, X3, e3, st3⟩ := getF X1 hx hZ hown (host := "") (Or.inl (hw _ (List.mem_of_getElem? (i := 23) rfl))) Via.refl e1 FC (g := (mkF m 7 #[.val (.ref a)] [(.ref a)])) rfl rfl (hb hby djdk_42_m154_7)
  have k3 : ∀ t, Steps p.tables e below (T3.setTop (mkF m 10 #[.val (.ref a)] [(.int (0 : Int32))])) t → Steps p.tables e below (s₁.setTop (entryFrame m #[(.ref a)] 1)) t := fun t k => k2 t (st3 _ k)
  have k4 : ∀ t, Steps p.tables e below (T3.setTop (mkF m 18 #[.val (.ref a)] [(.int (1 : Int32))])) t → Steps p.tables e below (s₁.setTop (entryFrame m #[(.ref a)] 1)) t := by
    intro t k
    refine k3 _ ?_
    show Steps p.tables e below (T3.setTop (mkF m 10 #[.val (.ref a)] [(.int (0 : Int32))])) _
    refine XS.ifNo X3.here hx rfl (hb hby djdk_42_m154_10) rfl ((if0 _ _).trans (teq (rfl : (0 : Int32) = 0)).2) ?_
    show Steps p.tables e below (T3.setTop (mkF m 13 #[.val (.ref a)] [])) _
    refine XS.iconst X3.here hx rfl (hb hby djdk_42_m154_13) ?_
    show Steps p.tables e below (T3.setTop (mkF m 14 #[.val (.ref a)] [(.int (1 : Int32))])) _
    refine XS.goto X3.here hx rfl (pc0 := 14) (pc' := 18) rfl (hb hby djdk_42_m154_14) (by decide) (by decide) ?_
    show Steps p.tables e below (T3.setTop (mkF m 18 #[.val (.ref a)] [(.int (1 : Int32))])) _
    exact k
  obtain ⟨fs, hr, hrun, hended, hW, hsame⟩ := X3.leave (v := some (.int (1 : Int32))) (fun h => by rw [Bd.returns] at h; cases h)
  refine ⟨_, _, k4 _ ?_, hrun, hended, _, _, rfl, ?_, ⟨_, rfl⟩, hW, hsame.mono (Nat.le_of_ble_eq_true rfl) (Nat.le_of_ble_eq_true rfl)⟩
  · exact retN X3 hx (t := .boolean) Bd.returns (by simp) (hb hby djdk_42_m154_18) hr
  · show QLat Z a cs h0 n0 _ T3.heap _
    rw [e3]
    exact ⟨rfl, N0, rfl⟩
theorem ef_Pre (m : MethodId) (x0 : Int32) (x1 : Int32) (x2 : Value) (q2 : x2.isRef = true) : entryFrame m #[(.int x0), (.int x1), x2] 3 = mkF m 0 #[.val (.int x0), .val (.int x1), .val x2] [] := by rcases ref_cases q2 with rfl | ⟨_, rfl⟩ <;> first | (simp [entryFrame, mkF, argsToLocals, Value.category]; done) | rfl
def QPre (Z : State) (j : Int32) (z : Int32) (vF : Value) (h0 : Heap) (n0 : Nat) (v : Option Value) (h : Heap) (L : List Loc) : Prop := v = some (.int j) ∧ Fr n0 L ∧ h = h0
set_option maxRecDepth 65536 in
set_option maxHeartbeats 40000000 in
theorem rmPre (l : Launch) (Z : State) (a0 : Array Value) (hw : ∀ d ∈ tables_1, d.before a0 Z = true) (ws : List Jvm.Cond) (j : Int32) (z : Int32) (vF : Value) (h0 : Heap) (n0 : Nat) (Z0 : n0 ≤ h0.size) (rF : vF.isRef = true) (hj : ¬ j < (0 : Int32) ∧ j < z) :
    MetFree l (⟨"jdk/internal/util/Preconditions", "checkIndex", "(IILjava/util/function/BiFunction;)I"⟩ : MethodName) (head1 (Jvm.Cond.code (⟨"jdk/internal/util/Preconditions", "checkIndex", "(IILjava/util/function/BiFunction;)I"⟩ : MethodName) jdk_41_method_11_code 3 (some .int) :: ws) ({ frames := 0, cells := 0, slots := 0, locals := 0 } : Room)) (fun A_ U => A_ = #[(.int j), (.int z), vF] ∧ Z.Warmed39 U.vm ∧ U.heap = h0) (fun _ _ _ _ _ => True) (fun _ U o U' => ∃ v L, o = .returned v ∧ QPre Z j z vF h0 n0 v U'.heap L ∧ FrameEnd U o U' L ({ frames := 0, cells := 0, slots := 0, locals := 0 } : Room).cells ({ frames := 0, cells := 0, slots := 0, locals := 0 } : Room).slots) := by
  refine MetFree.of_bodySF (plainFor_of_name pn_2) hisR ?_
  intro p e s m args below meth c s₁ Bd hml0 hP hK
  obtain ⟨rfl, hZ, hh⟩ := hP
  have hx := Bd.exec
  have hby := Bd.bytes
  have hml : c.maxLocals = 3 := hml0
  have hown : s.vm.findClass "jdk/internal/util/Preconditions" = some m.cls := findClass_of_methodNamed Bd.named
  have hnm := (name_of_methodNamed Bd.named Bd.method).1
  have X0 : Stand p l e ({ frames := 0, cells := 0, slots := 0, locals := 0 } : Room) s m #[(.int j), (.int z), vF] below meth c s₁ [] 0 0 := Stand.of_body Bd
  have e0 : s₁.heap = h0 := by rw [← hh, Bd.state]; rfl
  have N0 := Fr.nil n0
  have k0 : ∀ t, Steps p.tables e below (s₁.setTop (mkF m 0 #[.val (.int j), .val (.int z), .val vF] [])) t → Steps p.tables e below (s₁.setTop (entryFrame m #[(.int j), (.int z), vF] 3)) t := fun t k => castTop (ef_Pre m j z vF rF) k
  have k1 : ∀ t, Steps p.tables e below (s₁.setTop (mkF m 17 #[.val (.int j), .val (.int z), .val vF] [(.int j)])) t → Steps p.tables e below (s₁.setTop (entryFrame m #[(.int j), (.int z), vF] 3)) t := by
    intro t k
    refine k0 _ ?_
    show Steps p.tables e below (s₁.setTop (mkF m 0 #[.val (.int j), .val (.int z), .val vF] [])) _
    refine XS.iloadN X0.here hx rfl (hb hby djdk_41_m11_0) rfl ?_
    show Steps p.tables e below (s₁.setTop (mkF m 1 #[.val (.int j), .val (.int z), .val vF] [(.int j)])) _
    refine XS.ifNo X0.here hx rfl (hb hby djdk_41_m11_1) rfl ((if0 _ _).trans (flt hj.1).1) ?_
    show Steps p.tables e below (s₁.setTop (mkF m 4 #[.val (.int j), .val (.int z), .val vF] [])) _
    refine XS.iloadN X0.here hx rfl (hb hby djdk_41_m11_4) rfl ?_
    show Steps p.tables e below (s₁.setTop (mkF m 5 #[.val (.int j), .val (.int z), .val vF] [(.int j)])) _
    refine XS.iloadN X0.here hx rfl (hb hby djdk_41_m11_5) rfl ?_
    show Steps p.tables e below (s₁.setTop (mkF m 6 #[.val (.int j), .val (.int z), .val vF] [(.int z), (.int j)])) _
    refine XS.icmpYes X0.here hx rfl (pc0 := 6) (pc' := 16) rfl (hb hby djdk_41_m11_6) rfl (tlt hj.2).1 (by decide) (by decide) ?_
    show Steps p.tables e below (s₁.setTop (mkF m 16 #[.val (.int j), .val (.int z), .val vF] [])) _
    refine XS.iloadN X0.here hx rfl (hb hby djdk_41_m11_16) rfl ?_
    show Steps p.tables e below (s₁.setTop (mkF m 17 #[.val (.int j), .val (.int z), .val vF] [(.int j)])) _
    exact k
  obtain ⟨fs, hr, hrun, hended, hW, hsame⟩ := X0.leave (v := some (.int j)) (fun h => by rw [Bd.returns] at h; cases h)
  refine ⟨_, _, k1 _ ?_, hrun, hended, _, _, rfl, ?_, ⟨_, rfl⟩, hW, hsame.mono (Nat.le_of_ble_eq_true rfl) (Nat.le_of_ble_eq_true rfl)⟩
  · exact retI X0 hx Bd.returns (hb hby djdk_41_m11_17) hr
  · show QPre Z j z vF h0 n0 _ s₁.heap _
    rw [e0]
    exact ⟨rfl, N0, rfl⟩
theorem ef_Chk (m : MethodId) (x0 : Int32) (x1 : Int32) : entryFrame m #[(.int x0), (.int x1)] 2 = mkF m 0 #[.val (.int x0), .val (.int x1)] [] := by first | (simp [entryFrame, mkF, argsToLocals, Value.category]; done) | rfl
def QChk (Z : State) (j : Int32) (z : Int32) (vF : Value) (h0 : Heap) (n0 : Nat) (v : Option Value) (h : Heap) (L : List Loc) : Prop := v = none ∧ Fr n0 L ∧ h = h0
set_option maxRecDepth 65536 in
set_option maxHeartbeats 40000000 in
theorem rmChk (l : Launch) (Z : State) (a0 : Array Value) (hw : ∀ d ∈ tables_1, d.before a0 Z = true) (ws : List Jvm.Cond) (j : Int32) (z : Int32) (vF : Value) (h0 : Heap) (n0 : Nat) (Z0 : n0 ≤ h0.size) (S2 : Sta Z Z.heap "jdk/internal/util/Preconditions" "SIOOBE_FORMATTER" "Ljava/util/function/BiFunction;" vF) (rF : vF.isRef = true) (XO : Old Z n0 h0) (hj : ¬ j < (0 : Int32) ∧ j < z) :
    MetFree l (⟨"java/lang/String", "checkIndex", "(II)V"⟩ : MethodName) (head1 (Jvm.Cond.code (⟨"java/lang/String", "checkIndex", "(II)V"⟩ : MethodName) jdk_42_method_155_code 2 none :: ws) ({ frames := 1, cells := 0, slots := 0, locals := 14 } : Room)) (fun A_ U => A_ = #[(.int j), (.int z)] ∧ Z.Warmed39 U.vm ∧ U.heap = h0) (fun _ _ _ _ _ => True) (fun _ U o U' => ∃ v L, o = .returned v ∧ QChk Z j z vF h0 n0 v U'.heap L ∧ FrameEnd U o U' L ({ frames := 1, cells := 0, slots := 0, locals := 14 } : Room).cells ({ frames := 1, cells := 0, slots := 0, locals := 14 } : Room).slots) := by
  refine MetFree.of_bodySF (plainFor_of_name pn_1) hisR ?_
  intro p e s m args below meth c s₁ Bd hml0 hP hK
  obtain ⟨rfl, hZ, hh⟩ := hP
  have hx := Bd.exec
  have hby := Bd.bytes
  have hml : c.maxLocals = 2 := hml0
  have hown : s.vm.findClass "java/lang/String" = some m.cls := findClass_of_methodNamed Bd.named
  have hnm := (name_of_methodNamed Bd.named Bd.method).1
  have X0 : Stand p l e ({ frames := 1, cells := 0, slots := 0, locals := 14 } : Room) s m #[(.int j), (.int z)] below meth c s₁ [] 0 0 := Stand.of_body Bd
  have e0 : s₁.heap = h0 := by rw [← hh, Bd.state]; rfl
  have N0 := Fr.nil n0
  have k0 : ∀ t, Steps p.tables e below (s₁.setTop (mkF m 0 #[.val (.int j), .val (.int z)] [])) t → Steps p.tables e below (s₁.setTop (entryFrame m #[(.int j), (.int z)] 2)) t := fun t k => castTop (ef_Chk m j z) k
  have k1 : ∀ t, Steps p.tables e below (s₁.setTop (mkF m 2 #[.val (.int j), .val (.int z)] [(.int z), (.int j)])) t → Steps p.tables e below (s₁.setTop (entryFrame m #[(.int j), (.int z)] 2)) t := by
    intro t k
    refine k0 _ ?_
    show Steps p.tables e below (s₁.setTop (mkF m 0 #[.val (.int j), .val (.int z)] [])) _
    refine XS.iloadN X0.here hx rfl (hb hby djdk_42_m155_0) rfl ?_
    show Steps p.tables e below (s₁.setTop (mkF m 1 #[.val (.int j), .val (.int z)] [(.int j)])) _
    refine XS.iloadN X0.here hx rfl (hb hby djdk_42_m155_1) rfl ?_
    show Steps p.tables e below (s₁.setTop (mkF m 2 #[.val (.int j), .val (.int z)] [(.int z), (.int j)])) _
    exact k
  obtain ⟨T2, X2, e2, st2⟩ := getS (host := "") X0 hx hZ hown (hw _ (List.mem_of_getElem? (i := 32) rfl)) Via.refl e0 (S2.ext XO.2) (g := (mkF m 2 #[.val (.int j), .val (.int z)] [(.int z), (.int j)])) rfl (hb hby djdk_42_m155_2)
  have k2 : ∀ t, Steps p.tables e below (T2.setTop (mkF m 5 #[.val (.int j), .val (.int z)] [vF, (.int z), (.int j)])) t → Steps p.tables e below (s₁.setTop (entryFrame m #[(.int j), (.int z)] 2)) t := fun t k => k1 t (st2 _ k)
  obtain ⟨_, _, ⟨T3, L3, ck3, nk3⟩, -, X3, ⟨Lc3, hQ3, l3, y3, z3⟩, st3⟩ := Jvm.LawKit.callS X2 hx (y := (⟨"jdk/internal/util/Preconditions", "checkIndex", "(IILjava/util/function/BiFunction;)I"⟩ : MethodName)) hown (mvT hZ (hw _ (List.mem_of_getElem? (i := 34) rfl))) (mvT hZ (hw _ (List.mem_of_getElem? (i := 35) rfl))) (mvT hZ (hw _ (List.mem_of_getElem? (i := 33) rfl))) (mvT hZ (hw _ (List.mem_of_getElem? (i := 36) rfl))) (by decide) (backOf (W := 0) (rmPre l Z a0 hw [] j z vF h0 n0 Z0 rF hj) hZ (hw _ (List.mem_of_getElem? (i := 36) rfl)) (hw _ (List.mem_of_getElem? (i := 33) rfl)) (by decide) (by decide)) (g := (mkF m 5 #[.val (.int j), .val (.int z)] [vF, (.int z), (.int j)])) rfl (by rw [hml]; rfl) (argsL := [(.int j), (.int z), vF]) (rest := []) (lenOf pd_0 rfl) rfl (by show 2 * 0 + _ ≤ _; exact Nat.le_of_eq rfl) (hb hby djdk_42_m155_5) (fun _ _ => ⟨rfl, e2, (by decide : 0 + 0 ≤ _), (by decide : 0 + 0 ≤ _)⟩)
  dsimp only [Pt.U, Pt.locs, Pt.cells, Pt.slots] at X3 l3 y3 z3 st3 hQ3
  subst l3 y3 z3
  obtain ⟨rfl, N3q, e3⟩ := hQ3
  have N3 := Fr.app N0 N3q
  have k3 : ∀ t, Steps p.tables e below (T3.setTop (mkF m 8 #[.val (.int j), .val (.int z)] [(.int j)])) t → Steps p.tables e below (s₁.setTop (entryFrame m #[(.int j), (.int z)] 2)) t := fun t k => k2 t (st3 _ k)
  have k4 : ∀ t, Steps p.tables e below (T3.setTop (mkF m 9 #[.val (.int j), .val (.int z)] [])) t → Steps p.tables e below (s₁.setTop (entryFrame m #[(.int j), (.int z)] 2)) t := by
    intro t k
    refine k3 _ ?_
    show Steps p.tables e below (T3.setTop (mkF m 8 #[.val (.int j), .val (.int z)] [(.int j)])) _
    refine XS.pop X3.here hx rfl (hb hby djdk_42_m155_8) rfl rfl ?_
    show Steps p.tables e below (T3.setTop (mkF m 9 #[.val (.int j), .val (.int z)] [])) _
    exact k
  obtain ⟨fs, hr, hrun, hended, hW, hsame⟩ := X3.leave (v := none) (fun h => rfl)
  refine ⟨_, _, k4 _ ?_, hrun, hended, _, _, rfl, ?_, ⟨_, rfl⟩, hW, hsame.mono (Nat.le_of_ble_eq_true rfl) (Nat.le_of_ble_eq_true rfl)⟩
  · exact X3.returnOut hx Bd.returns (hb hby djdk_42_m155_9) hr
  · show QChk Z j z vF h0 n0 _ T3.heap _
    rw [e3]
    exact ⟨rfl, N3, rfl⟩
theorem ef_L1 (m : MethodId) (x0 : Addr) (x1 : Int32) : entryFrame m #[(.ref x0), (.int x1)] 2 = mkF m 0 #[.val (.ref x0), .val (.int x1)] [] := by first | (simp [entryFrame, mkF, argsToLocals, Value.category]; done) | rfl
def QL1 (Z : State) (b : Addr) (j : Int32) (kb : ClassId) (z : Int32) (vs : List Value) (x1 : Int32) (vF : Value) (h0 : Heap) (n0 : Nat) (v : Option Value) (h : Heap) (L : List Loc) : Prop := v = some (.int (own_chr x1)) ∧ Fr n0 L ∧ h = h0
set_option maxRecDepth 65536 in
set_option maxHeartbeats 40000000 in
theorem rmL1 (l : Launch) (Z : State) (a0 : Array Value) (hw : ∀ d ∈ tables_1, d.before a0 Z = true) (ws : List Jvm.Cond) (b : Addr) (j : Int32) (kb : ClassId) (z : Int32) (vs : List Value) (x1 : Int32) (vF : Value) (h0 : Heap) (n0 : Nat) (Z0 : n0 ≤ h0.size) (VV : Arv Z h0 b kb .byte z vs (.int (0 : Int32))) (hj : ¬ j < (0 : Int32) ∧ j < z) (hat : vs.getD j.toNatClampNeg (.int (0 : Int32)) = .int x1) (S2 : Sta Z Z.heap "jdk/internal/util/Preconditions" "SIOOBE_FORMATTER" "Ljava/util/function/BiFunction;" vF) (rF : vF.isRef = true) (XO : Old Z n0 h0) :
    MetFree l (⟨"java/lang/StringLatin1", "charAt", "([BI)C"⟩ : MethodName) (head1 (Jvm.Cond.code (⟨"java/lang/StringLatin1", "charAt", "([BI)C"⟩ : MethodName) jdk_43_method_2_code 2 (some .char) :: ws) ({ frames := 2, cells := 0, slots := 0, locals := 27 } : Room)) (fun A_ U => A_ = #[(.ref b), (.int j)] ∧ Z.Warmed39 U.vm ∧ U.heap = h0) (fun _ _ _ _ _ => True) (fun _ U o U' => ∃ v L, o = .returned v ∧ QL1 Z b j kb z vs x1 vF h0 n0 v U'.heap L ∧ FrameEnd U o U' L ({ frames := 2, cells := 0, slots := 0, locals := 27 } : Room).cells ({ frames := 2, cells := 0, slots := 0, locals := 27 } : Room).slots) := by
  refine MetFree.of_bodySF (plainFor_of_name pn_3) hisR ?_
  intro p e s m args below meth c s₁ Bd hml0 hP hK
  obtain ⟨rfl, hZ, hh⟩ := hP
  have hx := Bd.exec
  have hby := Bd.bytes
  have hml : c.maxLocals = 2 := hml0
  have hown : s.vm.findClass "java/lang/StringLatin1" = some m.cls := findClass_of_methodNamed Bd.named
  have hnm := (name_of_methodNamed Bd.named Bd.method).1
  have X0 : Stand p l e ({ frames := 2, cells := 0, slots := 0, locals := 27 } : Room) s m #[(.ref b), (.int j)] below meth c s₁ [] 0 0 := Stand.of_body Bd
  have e0 : s₁.heap = h0 := by rw [← hh, Bd.state]; rfl
  have N0 := Fr.nil n0
  have k0 : ∀ t, Steps p.tables e below (s₁.setTop (mkF m 0 #[.val (.ref b), .val (.int j)] [])) t → Steps p.tables e below (s₁.setTop (entryFrame m #[(.ref b), (.int j)] 2)) t := fun t k => castTop (ef_L1 m b j) k
  obtain ⟨cl1, Ar1, qk1, Sz1, Nn1, Hs1, Gs1⟩ := id VV
  have k2 : ∀ t, Steps p.tables e below (s₁.setTop (mkF m 3 #[.val (.ref b), .val (.int j)] [(.int z), (.int j)])) t → Steps p.tables e below (s₁.setTop (entryFrame m #[(.ref b), (.int j)] 2)) t := by
    intro t k
    refine k0 _ ?_
    show Steps p.tables e below (s₁.setTop (mkF m 0 #[.val (.ref b), .val (.int j)] [])) _
    refine XS.iloadN X0.here hx rfl (hb hby djdk_43_m2_0) rfl ?_
    show Steps p.tables e below (s₁.setTop (mkF m 1 #[.val (.ref b), .val (.int j)] [(.int j)])) _
    refine XS.aloadN X0.here hx rfl (hb hby djdk_43_m2_1) rfl rfl ?_
    show Steps p.tables e below (s₁.setTop (mkF m 2 #[.val (.ref b), .val (.int j)] [(.ref b), (.int j)])) _
    refine X0.arraylength hx (by rw [e0]; exact Ar1.1) (State.isArrayOf_alike hZ.alike Ar1.2.1) (g := (mkF m 2 #[.val (.ref b), .val (.int j)] [(.ref b), (.int j)])) rfl rfl (hb hby djdk_43_m2_2) _ ?_
    rw [len_of Sz1 Nn1]
    show Steps p.tables e below (s₁.setTop (mkF m 3 #[.val (.ref b), .val (.int j)] [(.int z), (.int j)])) _
    exact k
  obtain ⟨_, _, ⟨T3, L3, ck3, nk3⟩, -, X3, ⟨Lc3, hQ3, l3, y3, z3⟩, st3⟩ := Jvm.LawKit.callS X0 hx (y := (⟨"java/lang/String", "checkIndex", "(II)V"⟩ : MethodName)) hown (mvT hZ (hw _ (List.mem_of_getElem? (i := 29) rfl))) (mvT hZ (hw _ (List.mem_of_getElem? (i := 30) rfl))) (mvT hZ (hw _ (List.mem_of_getElem? (i := 1) rfl))) (mvT hZ (hw _ (List.mem_of_getElem? (i := 31) rfl))) (by decide) (backOf (W := 0) (rmChk l Z a0 hw [] j z vF h0 n0 Z0 S2 rF XO hj) hZ (hw _ (List.mem_of_getElem? (i := 31) rfl)) (hw _ (List.mem_of_getElem? (i := 1) rfl)) (by decide) (by decide)) (g := (mkF m 3 #[.val (.ref b), .val (.int j)] [(.int z), (.int j)])) rfl (by rw [hml]; rfl) (argsL := [(.int j), (.int z)]) (rest := []) (lenOf pd_1 rfl) rfl (by show 2 * 0 + _ ≤ _; exact Nat.le_of_eq rfl) (hb hby djdk_43_m2_3) (fun _ _ => ⟨rfl, e0, (by decide : 0 + 0 ≤ _), (by decide : 0 + 0 ≤ _)⟩)
  dsimp only [Pt.U, Pt.locs, Pt.cells, Pt.slots] at X3 l3 y3 z3 st3 hQ3
  subst l3 y3 z3
  obtain ⟨rfl, N3q, e3⟩ := hQ3
  have N3 := Fr.app N0 N3q
  have k3 : ∀ t, Steps p.tables e below (T3.setTop (mkF m 6 #[.val (.ref b), .val (.int j)] [])) t → Steps p.tables e below (s₁.setTop (entryFrame m #[(.ref b), (.int j)] 2)) t := fun t k => k2 t (st3 _ k)
  obtain ⟨cl4, Ar4, qk4, Sz4, Nn4, Hs4, Gs4⟩ := id VV
  have k5 : ∀ t, Steps p.tables e below (T3.setTop (mkF m 14 #[.val (.ref b), .val (.int j)] [(.int ((x1 &&& (255 : Int32)).toUInt32.toUInt16.toUInt32.toInt32))])) t → Steps p.tables e below (s₁.setTop (entryFrame m #[(.ref b), (.int j)] 2)) t := by
    intro t k
    refine k3 _ ?_
    show Steps p.tables e below (T3.setTop (mkF m 6 #[.val (.ref b), .val (.int j)] [])) _
    refine XS.aloadN X3.here hx rfl (hb hby djdk_43_m2_6) rfl rfl ?_
    show Steps p.tables e below (T3.setTop (mkF m 7 #[.val (.ref b), .val (.int j)] [(.ref b)])) _
    refine XS.iloadN X3.here hx rfl (hb hby djdk_43_m2_7) rfl ?_
    show Steps p.tables e below (T3.setTop (mkF m 8 #[.val (.ref b), .val (.int j)] [(.int j), (.ref b)])) _
    refine X3.baloadBytes hx (j := j) (v := (.int x1)) (by rw [e3]; exact Ar4.1) (State.isArrayOf_alike hZ.alike Ar4.2.1) Ar4.2.2 (inb_of Sz4 hj) (Has.at Hs4 (inb_of Sz4 hj) hat) (g := (mkF m 8 #[.val (.ref b), .val (.int j)] [(.int j), (.ref b)])) rfl rfl (hb hby djdk_43_m2_8) _ ?_
    show Steps p.tables e below (T3.setTop (mkF m 9 #[.val (.ref b), .val (.int j)] [(.int x1)])) _
    refine XS.sipush X3.here hx rfl (hb hby djdk_43_m2_9) ?_
    show Steps p.tables e below (T3.setTop (mkF m 12 #[.val (.ref b), .val (.int j)] [(.int (255 : Int32)), (.int x1)])) _
    refine XS.iand X3.here hx rfl (hb hby djdk_43_m2_12) rfl ?_
    show Steps p.tables e below (T3.setTop (mkF m 13 #[.val (.ref b), .val (.int j)] [(.int (x1 &&& (255 : Int32)))])) _
    refine XS.i2c X3.here hx rfl (hb hby djdk_43_m2_13) rfl ?_
    show Steps p.tables e below (T3.setTop (mkF m 14 #[.val (.ref b), .val (.int j)] [(.int ((x1 &&& (255 : Int32)).toUInt32.toUInt16.toUInt32.toInt32))])) _
    exact k
  have hnar : nar .char ((x1 &&& (255 : Int32)).toUInt32.toUInt16.toUInt32.toInt32) = (own_chr x1) := rfl
  obtain ⟨fs, hr, hrun, hended, hW, hsame⟩ := X3.leave (v := some (.int (own_chr x1))) (fun h => by rw [Bd.returns] at h; cases h)
  refine ⟨_, _, k5 _ ?_, hrun, hended, _, _, rfl, ?_, ⟨_, rfl⟩, hW, hsame.mono (Nat.le_of_ble_eq_true rfl) (Nat.le_of_ble_eq_true rfl)⟩
  · exact retN X3 hx (t := .char) Bd.returns (by simp) (hb hby djdk_43_m2_14) (fun f acts q1 q2 q3 => by rw [hnar]; exact hr f acts q1 q2 q3)
  · show QL1 Z b j kb z vs x1 vF h0 n0 _ T3.heap _
    rw [e3]
    exact ⟨rfl, N3, rfl⟩
theorem ef_Ch (m : MethodId) (x0 : Addr) (x1 : Int32) : entryFrame m #[(.ref x0), (.int x1)] 2 = mkF m 0 #[.val (.ref x0), .val (.int x1)] [] := by first | (simp [entryFrame, mkF, argsToLocals, Value.category]; done) | rfl
def QCh (Z : State) (a : Addr) (j : Int32) (b : Addr) (kb : ClassId) (z : Int32) (vs : List Value) (x1 : Int32) (cs : Int32) (vF : Value) (h0 : Heap) (n0 : Nat) (v : Option Value) (h : Heap) (L : List Loc) : Prop := v = some (.int (own_chr x1)) ∧ Fr n0 L ∧ h = h0
set_option maxRecDepth 65536 in
set_option maxHeartbeats 40000000 in
theorem rmCh (l : Launch) (Z : State) (a0 : Array Value) (hw : ∀ d ∈ tables_1, d.before a0 Z = true) (ws : List Jvm.Cond) (a : Addr) (j : Int32) (b : Addr) (kb : ClassId) (z : Int32) (vs : List Value) (x1 : Int32) (cs : Int32) (vF : Value) (h0 : Heap) (n0 : Nat) (Z0 : n0 ≤ h0.size) (EE : Exa Z h0 a "java/lang/String") (FC : Fld Z h0 a "java/lang/String" "coder" "B" (.int (0 : Int32))) (FV : Fld Z h0 a "java/lang/String" "value" "[B" (.ref b)) (VV : Arv Z h0 b kb .byte z vs (.int (0 : Int32))) (hj : ¬ j < (0 : Int32) ∧ j < z) (hat : vs.getD j.toNatClampNeg (.int (0 : Int32)) = .int x1) (S1 : Sta Z Z.heap "java/lang/String" "COMPACT_STRINGS" "Z" (.int cs)) (hcs : ¬ cs = (0 : Int32)) (XO : Old Z n0 h0) (S2 : Sta Z Z.heap "jdk/internal/util/Preconditions" "SIOOBE_FORMATTER" "Ljava/util/function/BiFunction;" vF) (rF : vF.isRef = true) :
    MetFree l (⟨"java/lang/String", "charAt", "(I)C"⟩ : MethodName) (head1 (Jvm.Cond.code (⟨"java/lang/String", "charAt", "(I)C"⟩ : MethodName) jdk_42_method_56_code 2 (some .char) :: ws) ({ frames := 3, cells := 0, slots := 0, locals := 40 } : Room)) (fun A_ U => A_ = #[(.ref a), (.int j)] ∧ Z.Warmed39 U.vm ∧ U.heap = h0) (fun _ _ _ _ _ => True) (fun _ U o U' => ∃ v L, o = .returned v ∧ QCh Z a j b kb z vs x1 cs vF h0 n0 v U'.heap L ∧ FrameEnd U o U' L ({ frames := 3, cells := 0, slots := 0, locals := 40 } : Room).cells ({ frames := 3, cells := 0, slots := 0, locals := 40 } : Room).slots) := by
  refine MetFree.of_bodySF (plainFor_of_name pn_1) hisR ?_
  intro p e s m args below meth c s₁ Bd hml0 hP hK
  obtain ⟨rfl, hZ, hh⟩ := hP
  have hx := Bd.exec
  have hby := Bd.bytes
  have hml : c.maxLocals = 2 := hml0
  have hown : s.vm.findClass "java/lang/String" = some m.cls := findClass_of_methodNamed Bd.named
  have hnm := (name_of_methodNamed Bd.named Bd.method).1
  have X0 : Stand p l e ({ frames := 3, cells := 0, slots := 0, locals := 40 } : Room) s m #[(.ref a), (.int j)] below meth c s₁ [] 0 0 := Stand.of_body Bd
  have e0 : s₁.heap = h0 := by rw [← hh, Bd.state]; rfl
  have N0 := Fr.nil n0
  have k0 : ∀ t, Steps p.tables e below (s₁.setTop (mkF m 0 #[.val (.ref a), .val (.int j)] [])) t → Steps p.tables e below (s₁.setTop (entryFrame m #[(.ref a), (.int j)] 2)) t := fun t k => castTop (ef_Ch m a j) k
  have k1 : ∀ t, Steps p.tables e below (s₁.setTop (mkF m 1 #[.val (.ref a), .val (.int j)] [(.ref a)])) t → Steps p.tables e below (s₁.setTop (entryFrame m #[(.ref a), (.int j)] 2)) t := by
    intro t k
    refine k0 _ ?_
    show Steps p.tables e below (s₁.setTop (mkF m 0 #[.val (.ref a), .val (.int j)] [])) _
    refine XS.aloadN X0.here hx rfl (hb hby djdk_42_m56_0) rfl rfl ?_
    show Steps p.tables e below (s₁.setTop (mkF m 1 #[.val (.ref a), .val (.int j)] [(.ref a)])) _
    exact k
  obtain ⟨cq2, kq2, q2a, q2b, q2c⟩ := isOf hZ e0 EE
  obtain ⟨_, _, ⟨T2, L2, ck2, nk2⟩, -, X2, ⟨Lc2, hQ2, l2, y2, z2⟩, st2⟩ := X0.virtualBack hx (y := (⟨"java/lang/String", "isLatin1", "()Z"⟩ : MethodName)) (z := (⟨"java/lang/String", "isLatin1", "()Z"⟩ : MethodName)) hown (mvT hZ (hw _ (List.mem_of_getElem? (i := 17) rfl))) (mvT hZ (hw _ (List.mem_of_getElem? (i := 18) rfl))) (notFace_of_selects (args := #[]) (mvT hZ (hw _ (List.mem_of_getElem? (i := 20) rfl)))) (mvT hZ (hw _ (List.mem_of_getElem? (i := 20) rfl))) (mvT hZ (hw _ (List.mem_of_getElem? (i := 19) rfl))) (by decide) (backOf (W := 0) (rmLat l Z a0 hw [] a cs h0 n0 Z0 EE FC S1 hcs XO) hZ (hw _ (List.mem_of_getElem? (i := 21) rfl)) (hw _ (List.mem_of_getElem? (i := 1) rfl)) (by decide) (by decide)) q2a q2c (g := (mkF m 1 #[.val (.ref a), .val (.int j)] [(.ref a)])) rfl (by rw [hml]; rfl) (Steps.refl _) (argsL := []) (rest := []) (lenOf pd_2 rfl) rfl (by show 2 * 0 + _ ≤ _; exact Nat.le_of_eq rfl) (hb hby djdk_42_m56_1) (fun _ _ => ⟨rfl, e0, (by decide : 0 + 0 ≤ _), (by decide : 0 + 0 ≤ _)⟩)
  dsimp only [Pt.U, Pt.locs, Pt.cells, Pt.slots] at X2 l2 y2 z2 st2 hQ2
  subst l2 y2 z2
  obtain ⟨rfl, N2q, e2⟩ := hQ2
  have N2 := Fr.app N0 N2q
  have k2 : ∀ t, Steps p.tables e below (T2.setTop (mkF m 4 #[.val (.ref a), .val (.int j)] [(.int (1 : Int32))])) t → Steps p.tables e below (s₁.setTop (entryFrame m #[(.ref a), (.int j)] 2)) t := fun t k => k1 t (st2.trans k)
  have k3 : ∀ t, Steps p.tables e below (T2.setTop (mkF m 8 #[.val (.ref a), .val (.int j)] [(.ref a)])) t → Steps p.tables e below (s₁.setTop (entryFrame m #[(.ref a), (.int j)] 2)) t := by
    intro t k
    refine k2 _ ?_
    show Steps p.tables e below (T2.setTop (mkF m 4 #[.val (.ref a), .val (.int j)] [(.int (1 : Int32))])) _
    refine XS.ifNo X2.here hx rfl (hb hby djdk_42_m56_4) rfl ((if0 _ _).trans (feq (by decide)).1) ?_
    show Steps p.tables e below (T2.setTop (mkF m 7 #[.val (.ref a), .val (.int j)] [])) _
    refine XS.aloadN X2.here hx rfl (hb hby djdk_42_m56_7) rfl rfl ?_
    show Steps p.tables e below (T2.setTop (mkF m 8 #[.val (.ref a), .val (.int j)] [(.ref a)])) _
    exact k
  obtain ⟨T4, X4, e4, st4⟩ := getF X2 hx hZ hown (host := "") (Or.inl (hw _ (List.mem_of_getElem? (i := 24) rfl))) Via.refl e2 FV (g := (mkF m 8 #[.val (.ref a), .val (.int j)] [(.ref a)])) rfl rfl (hb hby djdk_42_m56_8)
  have k4 : ∀ t, Steps p.tables e below (T4.setTop (mkF m 11 #[.val (.ref a), .val (.int j)] [(.ref b)])) t → Steps p.tables e below (s₁.setTop (entryFrame m #[(.ref a), (.int j)] 2)) t := fun t k => k3 t (st4 _ k)
  have k5 : ∀ t, Steps p.tables e below (T4.setTop (mkF m 12 #[.val (.ref a), .val (.int j)] [(.int j), (.ref b)])) t → Steps p.tables e below (s₁.setTop (entryFrame m #[(.ref a), (.int j)] 2)) t := by
    intro t k
    refine k4 _ ?_
    show Steps p.tables e below (T4.setTop (mkF m 11 #[.val (.ref a), .val (.int j)] [(.ref b)])) _
    refine XS.iloadN X4.here hx rfl (hb hby djdk_42_m56_11) rfl ?_
    show Steps p.tables e below (T4.setTop (mkF m 12 #[.val (.ref a), .val (.int j)] [(.int j), (.ref b)])) _
    exact k
  obtain ⟨_, _, ⟨T6, L6, ck6, nk6⟩, -, X6, ⟨Lc6, hQ6, l6, y6, z6⟩, st6⟩ := Jvm.LawKit.callS X4 hx (y := (⟨"java/lang/StringLatin1", "charAt", "([BI)C"⟩ : MethodName)) hown (mvT hZ (hw _ (List.mem_of_getElem? (i := 25) rfl))) (mvT hZ (hw _ (List.mem_of_getElem? (i := 26) rfl))) (mvT hZ (hw _ (List.mem_of_getElem? (i := 27) rfl))) (mvT hZ (hw _ (List.mem_of_getElem? (i := 28) rfl))) (by decide) (backOf (W := 0) (rmL1 l Z a0 hw [] b j kb z vs x1 vF h0 n0 Z0 VV hj hat S2 rF XO) hZ (hw _ (List.mem_of_getElem? (i := 28) rfl)) (hw _ (List.mem_of_getElem? (i := 27) rfl)) (by decide) (by decide)) (g := (mkF m 12 #[.val (.ref a), .val (.int j)] [(.int j), (.ref b)])) rfl (by rw [hml]; rfl) (argsL := [(.ref b), (.int j)]) (rest := []) (lenOf pd_3 rfl) rfl (by show 2 * 0 + _ ≤ _; exact Nat.le_of_eq rfl) (hb hby djdk_42_m56_12) (fun _ _ => ⟨rfl, e4, (by decide : 0 + 0 ≤ _), (by decide : 0 + 0 ≤ _)⟩)
  dsimp only [Pt.U, Pt.locs, Pt.cells, Pt.slots] at X6 l6 y6 z6 st6 hQ6
  subst l6 y6 z6
  obtain ⟨rfl, N6q, e6⟩ := hQ6
  have N6 := Fr.app N2 N6q
  have k6 : ∀ t, Steps p.tables e below (T6.setTop (mkF m 15 #[.val (.ref a), .val (.int j)] [(.int (own_chr x1))])) t → Steps p.tables e below (s₁.setTop (entryFrame m #[(.ref a), (.int j)] 2)) t := fun t k => k5 t (st6 _ k)
  have hnar : nar .char (own_chr x1) = (own_chr x1) := own_narchr x1
  obtain ⟨fs, hr, hrun, hended, hW, hsame⟩ := X6.leave (v := some (.int (own_chr x1))) (fun h => by rw [Bd.returns] at h; cases h)
  refine ⟨_, _, k6 _ ?_, hrun, hended, _, _, rfl, ?_, ⟨_, rfl⟩, hW, hsame.mono (Nat.le_of_ble_eq_true rfl) (Nat.le_of_ble_eq_true rfl)⟩
  · exact retN X6 hx (t := .char) Bd.returns (by simp) (hb hby djdk_42_m56_15) (fun f acts q1 q2 q3 => by rw [hnar]; exact hr f acts q1 q2 q3)
  · show QCh Z a j b kb z vs x1 cs vF h0 n0 _ T6.heap _
    rw [e6]
    exact ⟨rfl, N6, rfl⟩
theorem ef_0 (m : MethodId) (x0 : Int32) (x1 : Int32) : entryFrame m #[(.int x0), (.int x1)] maxLocals = mkF m 0 #[.val (.int x0), .val (.int x1), .unset, .unset, .unset, .unset, .unset] [] := by first | (simp [entryFrame, mkF, argsToLocals, Value.category, maxLocals]; done) | rfl
def Q0 (Z : State) (p1 : Int32) (p2 : Int32) (cs : Int32) (vF : Value) (h0 : Heap) (n0 : Nat) (v : Option Value) (h : Heap) (L : List Loc) : Prop := v = some (.int 1) ∧ Fr n0 L
set_option maxRecDepth 65536 in
set_option maxHeartbeats 40000000 in
theorem rm0 (l : Launch) (Z : State) (a0 : Array Value) (hw : ∀ d ∈ tables_1, d.before a0 Z = true) (ws : List Jvm.Cond) (p1 : Int32) (p2 : Int32) (cs : Int32) (vF : Value) (h0 : Heap) (n0 : Nat) (Z0 : n0 ≤ h0.size) (hch : Jvm.Lit.constHeld Z "com/example/catchment/catchment/registry/LineCheckDigitPinLaw" 7) (hcw : Jvm.Lit.compactW.before a0 Z = true) (S1 : Sta Z Z.heap "java/lang/String" "COMPACT_STRINGS" "Z" (.int cs)) (hcs : ¬ cs = (0 : Int32)) (XO : Old Z n0 h0) (S2 : Sta Z Z.heap "jdk/internal/util/Preconditions" "SIOOBE_FORMATTER" "Ljava/util/function/BiFunction;" vF) (rF : vF.isRef = true) :
    MetFree l x (head1 (Jvm.Cond.code x code maxLocals ret :: ws) room_1) (fun A_ U => A_ = #[(.int p1), (.int p2)] ∧ Z.Warmed39 U.vm ∧ U.heap = h0 ∧ IB Z U.vm []) (fun _ _ _ _ _ => True) (fun _ U o U' => ∃ v L, o = .returned v ∧ Q0 Z p1 p2 cs vF h0 n0 v U'.heap L ∧ ReturnedEndW U o U' L 8 1088) := by
  refine MetFree.of_bodySF (plainFor_of_name pn_4) hisR ?_
  intro p e s m args below meth c s₁ Bd hml0 hP hK
  obtain ⟨rfl, hZ, hh, hib⟩ := hP
  have hx := Bd.exec
  have hby := Bd.bytes
  have hml : c.maxLocals = 7 := hml0
  have hown : s.vm.findClass "com/example/catchment/catchment/registry/LineCheckDigitPinLaw" = some m.cls := findClass_of_methodNamed Bd.named
  have hnm := (name_of_methodNamed Bd.named Bd.method).1
  have X0 : Stand p l e room_1 s m #[(.int p1), (.int p2)] below meth c s₁ [] 0 0 := Stand.of_body Bd
  have e0 : s₁.heap = h0 := by rw [← hh, Bd.state]; rfl
  have N0 := Fr.nil n0
  have k0 : ∀ t, Steps p.tables e below (s₁.setTop (mkF m 0 #[.val (.int p1), .val (.int p2), .unset, .unset, .unset, .unset, .unset] [])) t → Steps p.tables e below (s₁.setTop (entryFrame m #[(.int p1), (.int p2)] maxLocals)) t := fun t k => castTop (ef_0 m p1 p2) k
  have k1 : ∀ t, Steps p.tables e below (s₁.setTop (mkF m 0 #[.val (.int p1), .val (.int p2), .unset, .unset, .unset, .unset, .unset] [])) t → Steps p.tables e below (s₁.setTop (entryFrame m #[(.int p1), (.int p2)] maxLocals)) t := by
    intro t k
    refine k0 _ ?_
    show Steps p.tables e below (s₁.setTop (mkF m 0 #[.val (.int p1), .val (.int p2), .unset, .unset, .unset, .unset, .unset] [])) _
    exact k
  obtain ⟨a2_, T2, h2, ks2, bb2, kb2, X2, e2, E2, hS2, hk2, hZ, hown, A2, Fc2, Fv2, V2, -, -, ib2, st2⟩ := ldcSV (s := s) (vm0 := s.vm) X0 hx hZ hown (hw _ (List.mem_of_getElem? (i := 0) rfl)) (fun d hd => hw d (own_strAt d hd)) e0 ((State.WarmedH.refl s).since 0) (Nat.zero_le _) (Fr.nil _) (fun b cl q => by rw [hh]; exact XO.2.2 b cl q) hib (by decide) hch hcw (vs := [(.int (48 : Int32)), (.int (49 : Int32)), (.int (50 : Int32)), (.int (51 : Int32)), (.int (52 : Int32)), (.int (53 : Int32)), (.int (54 : Int32)), (.int (55 : Int32)), (.int (56 : Int32)), (.int (57 : Int32)), (.int (97 : Int32)), (.int (98 : Int32)), (.int (99 : Int32)), (.int (100 : Int32)), (.int (101 : Int32)), (.int (102 : Int32))]) (z := (16 : Int32)) (by decide +kernel) (by decide) (by decide) (g := (mkF m 0 #[.val (.int p1), .val (.int p2), .unset, .unset, .unset, .unset, .unset] [])) rfl (hb hby at_0) (n := 64) (by decide +kernel) (by decide) (by decide) (by decide)
  have k2 : ∀ t, Steps p.tables e below (T2.setTop (mkF m 2 #[.val (.int p1), .val (.int p2), .unset, .unset, .unset, .unset, .unset] [(.ref a2_)])) t → Steps p.tables e below (s₁.setTop (entryFrame m #[(.int p1), (.int p2)] maxLocals)) t := fun t k => k1 t (st2 _ k)
  have Z3 : n0 ≤ h2.size := Nat.le_trans Z0 E2.1
  have k4 : ∀ t, Steps p.tables e below (T2.setTop (mkF m 4 #[.val (.int p1), .val (.int p2), .val (.ref a2_), .unset, .unset, .unset, .unset] [(.int p1)])) t → Steps p.tables e below (s₁.setTop (entryFrame m #[(.int p1), (.int p2)] maxLocals)) t := by
    intro t k
    refine k2 _ ?_
    show Steps p.tables e below (T2.setTop (mkF m 2 #[.val (.int p1), .val (.int p2), .unset, .unset, .unset, .unset, .unset] [(.ref a2_)])) _
    refine XS.astoreN X2.here hx rfl (hb hby at_2) rfl rfl (l' := #[.val (.int p1), .val (.int p2), .val (.ref a2_), .unset, .unset, .unset, .unset]) rfl ?_
    show Steps p.tables e below (T2.setTop (mkF m 3 #[.val (.int p1), .val (.int p2), .val (.ref a2_), .unset, .unset, .unset, .unset] [])) _
    refine XS.iloadN X2.here hx rfl (hb hby at_3) rfl ?_
    show Steps p.tables e below (T2.setTop (mkF m 4 #[.val (.int p1), .val (.int p2), .val (.ref a2_), .unset, .unset, .unset, .unset] [(.int p1)])) _
    exact k
  obtain ⟨_, _, ⟨T5, L5, ck5, nk5⟩, -, X5, ⟨Lc5, hQ5, l5, y5, z5⟩, st5⟩ := Jvm.LawKit.callS X2 hx (y := (⟨"com/example/catchment/catchment/registry/LineCheck", "digit", "(I)I"⟩ : MethodName)) hown (mvT hZ (hw _ (List.mem_of_getElem? (i := 8) rfl))) (mvT hZ (hw _ (List.mem_of_getElem? (i := 9) rfl))) (mvT hZ (hw _ (List.mem_of_getElem? (i := 10) rfl))) (mvT hZ (hw _ (List.mem_of_getElem? (i := 11) rfl))) (by decide) (backOf (W := 0) (rm1 l Z a0 hw [] p1 h2 n0 Z3) hZ (hw _ (List.mem_of_getElem? (i := 11) rfl)) (hw _ (List.mem_of_getElem? (i := 10) rfl)) (by decide) (by decide)) (g := (mkF m 4 #[.val (.int p1), .val (.int p2), .val (.ref a2_), .unset, .unset, .unset, .unset] [(.int p1)])) rfl (by rw [hml]; rfl) (argsL := [(.int p1)]) (rest := []) (lenOf pd_4 rfl) rfl (by show 2 * 0 + _ ≤ _; exact Nat.le_of_eq rfl) (hb hby at_4) (fun _ _ => ⟨rfl, e2, (by decide : 2 + 0 ≤ _), (by decide : 68 + 0 ≤ _)⟩)
  dsimp only [Pt.U, Pt.locs, Pt.cells, Pt.slots] at X5 l5 y5 z5 st5 hQ5
  subst l5 y5 z5
  obtain ⟨rfl, N5q, e5⟩ := hQ5
  have N5 := Fr.app N0 N5q
  have k5 : ∀ t, Steps p.tables e below (T5.setTop (mkF m 7 #[.val (.int p1), .val (.int p2), .val (.ref a2_), .unset, .unset, .unset, .unset] [(.int (own_digit p1))])) t → Steps p.tables e below (s₁.setTop (entryFrame m #[(.int p1), (.int p2)] maxLocals)) t := fun t k => k4 t (st5 _ k)
  obtain ⟨dd, eq_dd⟩ : ∃ z : Int32, z = (own_digit p1) := ⟨_, rfl⟩
  rw [← eq_dd] at k5
  have k6 : ∀ t, Steps p.tables e below (T5.setTop (mkF m 10 #[.val (.int p1), .val (.int p2), .val (.ref a2_), .val (.int dd), .unset, .unset, .unset] [(.int (-1 : Int32)), (.int dd)])) t → Steps p.tables e below (s₁.setTop (entryFrame m #[(.int p1), (.int p2)] maxLocals)) t := by
    intro t k
    refine k5 _ ?_
    show Steps p.tables e below (T5.setTop (mkF m 7 #[.val (.int p1), .val (.int p2), .val (.ref a2_), .unset, .unset, .unset, .unset] [(.int dd)])) _
    refine XS.istoreN X5.here hx rfl (hb hby at_7) rfl (l' := #[.val (.int p1), .val (.int p2), .val (.ref a2_), .val (.int dd), .unset, .unset, .unset]) rfl ?_
    show Steps p.tables e below (T5.setTop (mkF m 8 #[.val (.int p1), .val (.int p2), .val (.ref a2_), .val (.int dd), .unset, .unset, .unset] [])) _
    refine XS.iloadN X5.here hx rfl (hb hby at_8) rfl ?_
    show Steps p.tables e below (T5.setTop (mkF m 9 #[.val (.int p1), .val (.int p2), .val (.ref a2_), .val (.int dd), .unset, .unset, .unset] [(.int dd)])) _
    refine XS.iconst X5.here hx rfl (hb hby at_9) ?_
    show Steps p.tables e below (T5.setTop (mkF m 10 #[.val (.int p1), .val (.int p2), .val (.ref a2_), .val (.int dd), .unset, .unset, .unset] [(.int (-1 : Int32)), (.int dd)])) _
    exact k
  by_cases hd1 : dd = (-1 : Int32)
  · have od7 : Old Z n0 h2 := (XO.ext E2)
    have k8 : ∀ t, Steps p.tables e below (T5.setTop (mkF m 48 #[.val (.int p1), .val (.int p2), .val (.ref a2_), .val (.int dd), .val (.int (1 : Int32)), .val (.int (p2 &&& (15 : Int32))), .unset] [(.int (p2 &&& (15 : Int32))), (.ref a2_)])) t → Steps p.tables e below (s₁.setTop (entryFrame m #[(.int p1), (.int p2)] maxLocals)) t := by
      intro t k
      refine k6 _ ?_
      show Steps p.tables e below (T5.setTop (mkF m 10 #[.val (.int p1), .val (.int p2), .val (.ref a2_), .val (.int dd), .unset, .unset, .unset] [(.int (-1 : Int32)), (.int dd)])) _
      refine XS.icmpYes X5.here hx rfl (pc0 := 10) (pc' := 32) rfl (hb hby at_10) rfl (teq hd1).1 (by decide) (by decide) ?_
      show Steps p.tables e below (T5.setTop (mkF m 32 #[.val (.int p1), .val (.int p2), .val (.ref a2_), .val (.int dd), .unset, .unset, .unset] [])) _
      refine XS.iconst X5.here hx rfl (hb hby at_32) ?_
      show Steps p.tables e below (T5.setTop (mkF m 33 #[.val (.int p1), .val (.int p2), .val (.ref a2_), .val (.int dd), .unset, .unset, .unset] [(.int (1 : Int32))])) _
      refine XS.goto X5.here hx rfl (pc0 := 33) (pc' := 37) rfl (hb hby at_33) (by decide) (by decide) ?_
      show Steps p.tables e below (T5.setTop (mkF m 37 #[.val (.int p1), .val (.int p2), .val (.ref a2_), .val (.int dd), .unset, .unset, .unset] [(.int (1 : Int32))])) _
      refine XS.istore X5.here hx rfl (hb hby at_37) rfl (l' := #[.val (.int p1), .val (.int p2), .val (.ref a2_), .val (.int dd), .val (.int (1 : Int32)), .unset, .unset]) rfl ?_
      show Steps p.tables e below (T5.setTop (mkF m 39 #[.val (.int p1), .val (.int p2), .val (.ref a2_), .val (.int dd), .val (.int (1 : Int32)), .unset, .unset] [])) _
      refine XS.iloadN X5.here hx rfl (hb hby at_39) rfl ?_
      show Steps p.tables e below (T5.setTop (mkF m 40 #[.val (.int p1), .val (.int p2), .val (.ref a2_), .val (.int dd), .val (.int (1 : Int32)), .unset, .unset] [(.int p2)])) _
      refine XS.bipush X5.here hx rfl (hb hby at_40) ?_
      show Steps p.tables e below (T5.setTop (mkF m 42 #[.val (.int p1), .val (.int p2), .val (.ref a2_), .val (.int dd), .val (.int (1 : Int32)), .unset, .unset] [(.int (15 : Int32)), (.int p2)])) _
      refine XS.iand X5.here hx rfl (hb hby at_42) rfl ?_
      show Steps p.tables e below (T5.setTop (mkF m 43 #[.val (.int p1), .val (.int p2), .val (.ref a2_), .val (.int dd), .val (.int (1 : Int32)), .unset, .unset] [(.int (p2 &&& (15 : Int32)))])) _
      refine XS.istore X5.here hx rfl (hb hby at_43) rfl (l' := #[.val (.int p1), .val (.int p2), .val (.ref a2_), .val (.int dd), .val (.int (1 : Int32)), .val (.int (p2 &&& (15 : Int32))), .unset]) rfl ?_
      show Steps p.tables e below (T5.setTop (mkF m 45 #[.val (.int p1), .val (.int p2), .val (.ref a2_), .val (.int dd), .val (.int (1 : Int32)), .val (.int (p2 &&& (15 : Int32))), .unset] [])) _
      refine XS.aloadN X5.here hx rfl (hb hby at_45) rfl rfl ?_
      show Steps p.tables e below (T5.setTop (mkF m 46 #[.val (.int p1), .val (.int p2), .val (.ref a2_), .val (.int dd), .val (.int (1 : Int32)), .val (.int (p2 &&& (15 : Int32))), .unset] [(.ref a2_)])) _
      refine XS.iload X5.here hx rfl (hb hby at_46) rfl ?_
      show Steps p.tables e below (T5.setTop (mkF m 48 #[.val (.int p1), .val (.int p2), .val (.ref a2_), .val (.int dd), .val (.int (1 : Int32)), .val (.int (p2 &&& (15 : Int32))), .unset] [(.int (p2 &&& (15 : Int32))), (.ref a2_)])) _
      exact k
    obtain ⟨cq9, kq9, q9a, q9b, q9c⟩ := isOf hZ e5 A2
    obtain ⟨_, _, ⟨T9, L9, ck9, nk9⟩, -, X9, ⟨Lc9, hQ9, l9, y9, z9⟩, st9⟩ := X5.virtualBack hx (y := (⟨"java/lang/String", "charAt", "(I)C"⟩ : MethodName)) (z := (⟨"java/lang/String", "charAt", "(I)C"⟩ : MethodName)) hown (mvT hZ (hw _ (List.mem_of_getElem? (i := 12) rfl))) (mvT hZ (hw _ (List.mem_of_getElem? (i := 13) rfl))) (notFace_of_selects (args := #[]) (mvT hZ (hw _ (List.mem_of_getElem? (i := 15) rfl)))) (mvT hZ (hw _ (List.mem_of_getElem? (i := 15) rfl))) (mvT hZ (hw _ (List.mem_of_getElem? (i := 14) rfl))) (by decide) (backOf (W := 0) (rmCh l Z a0 hw [] a2_ (p2 &&& (15 : Int32)) bb2 kb2 (16 : Int32) [(Value.int (48 : Int32)), (Value.int (49 : Int32)), (Value.int (50 : Int32)), (Value.int (51 : Int32)), (Value.int (52 : Int32)), (Value.int (53 : Int32)), (Value.int (54 : Int32)), (Value.int (55 : Int32)), (Value.int (56 : Int32)), (Value.int (57 : Int32)), (Value.int (97 : Int32)), (Value.int (98 : Int32)), (Value.int (99 : Int32)), (Value.int (100 : Int32)), (Value.int (101 : Int32)), (Value.int (102 : Int32))] (own_at (p2 &&& (15 : Int32))) cs vF h2 n0 Z3 A2 Fc2 Fv2 V2 (own_and15 p2) (own_hat _ (own_and15 p2)) S1 hcs od7 S2 rF) hZ (hw _ (List.mem_of_getElem? (i := 16) rfl)) (hw _ (List.mem_of_getElem? (i := 1) rfl)) (by decide) (by decide)) q9a q9c (g := (mkF m 48 #[.val (.int p1), .val (.int p2), .val (.ref a2_), .val (.int dd), .val (.int (1 : Int32)), .val (.int (p2 &&& (15 : Int32))), .unset] [(.int (p2 &&& (15 : Int32))), (.ref a2_)])) rfl (by rw [hml]; rfl) (Steps.refl _) (argsL := [(.int (p2 &&& (15 : Int32)))]) (rest := []) (lenOf pd_5 rfl) rfl (by show 2 * 0 + _ ≤ _; exact Nat.le_of_eq rfl) (hb hby at_48) (fun _ _ => ⟨rfl, e5, (by decide : 2 + 0 ≤ _), (by decide : 68 + 0 ≤ _)⟩)
    dsimp only [Pt.U, Pt.locs, Pt.cells, Pt.slots] at X9 l9 y9 z9 st9 hQ9
    subst l9 y9 z9
    obtain ⟨rfl, N9q, e9⟩ := hQ9
    have N9 := Fr.app N5 N9q
    have k9 : ∀ t, Steps p.tables e below (T9.setTop (mkF m 51 #[.val (.int p1), .val (.int p2), .val (.ref a2_), .val (.int dd), .val (.int (1 : Int32)), .val (.int (p2 &&& (15 : Int32))), .unset] [(.int (own_chr (own_at (p2 &&& (15 : Int32)))))])) t → Steps p.tables e below (s₁.setTop (entryFrame m #[(.int p1), (.int p2)] maxLocals)) t := fun t k => k8 t (st9.trans k)
    obtain ⟨_, _, ⟨T10, L10, ck10, nk10⟩, -, X10, ⟨Lc10, hQ10, l10, y10, z10⟩, st10⟩ := Jvm.LawKit.callS X9 hx (y := (⟨"com/example/catchment/catchment/registry/LineCheck", "digit", "(I)I"⟩ : MethodName)) hown (mvT hZ (hw _ (List.mem_of_getElem? (i := 8) rfl))) (mvT hZ (hw _ (List.mem_of_getElem? (i := 9) rfl))) (mvT hZ (hw _ (List.mem_of_getElem? (i := 10) rfl))) (mvT hZ (hw _ (List.mem_of_getElem? (i := 11) rfl))) (by decide) (backOf (W := 0) (rm1 l Z a0 hw [] (own_chr (own_at (p2 &&& (15 : Int32)))) h2 n0 Z3) hZ (hw _ (List.mem_of_getElem? (i := 11) rfl)) (hw _ (List.mem_of_getElem? (i := 10) rfl)) (by decide) (by decide)) (g := (mkF m 51 #[.val (.int p1), .val (.int p2), .val (.ref a2_), .val (.int dd), .val (.int (1 : Int32)), .val (.int (p2 &&& (15 : Int32))), .unset] [(.int (own_chr (own_at (p2 &&& (15 : Int32)))))])) rfl (by rw [hml]; rfl) (argsL := [(.int (own_chr (own_at (p2 &&& (15 : Int32)))))]) (rest := []) (lenOf pd_4 rfl) rfl (by show 2 * 0 + _ ≤ _; exact Nat.le_of_eq rfl) (hb hby at_51) (fun _ _ => ⟨rfl, e9, (by decide : 2 + 0 ≤ _), (by decide : 68 + 0 ≤ _)⟩)
    dsimp only [Pt.U, Pt.locs, Pt.cells, Pt.slots] at X10 l10 y10 z10 st10 hQ10
    subst l10 y10 z10
    obtain ⟨rfl, N10q, e10⟩ := hQ10
    have N10 := Fr.app N9 N10q
    have k10 : ∀ t, Steps p.tables e below (T10.setTop (mkF m 54 #[.val (.int p1), .val (.int p2), .val (.ref a2_), .val (.int dd), .val (.int (1 : Int32)), .val (.int (p2 &&& (15 : Int32))), .unset] [(.int (own_digit (own_chr (own_at (p2 &&& (15 : Int32))))))])) t → Steps p.tables e below (s₁.setTop (entryFrame m #[(.int p1), (.int p2)] maxLocals)) t := fun t k => k9 t (st10 _ k)
    have k11 : ∀ t, Steps p.tables e below (T10.setTop (mkF m 81 #[.val (.int p1), .val (.int p2), .val (.ref a2_), .val (.int dd), .val (.int (1 : Int32)), .val (.int (p2 &&& (15 : Int32))), .val (.int (1 : Int32))] [(.int (1 : Int32))])) t → Steps p.tables e below (s₁.setTop (entryFrame m #[(.int p1), (.int p2)] maxLocals)) t := by
      intro t k
      refine k10 _ ?_
      show Steps p.tables e below (T10.setTop (mkF m 54 #[.val (.int p1), .val (.int p2), .val (.ref a2_), .val (.int dd), .val (.int (1 : Int32)), .val (.int (p2 &&& (15 : Int32))), .unset] [(.int (own_digit (own_chr (own_at (p2 &&& (15 : Int32))))))])) _
      refine XS.iload X10.here hx rfl (hb hby at_54) rfl ?_
      show Steps p.tables e below (T10.setTop (mkF m 56 #[.val (.int p1), .val (.int p2), .val (.ref a2_), .val (.int dd), .val (.int (1 : Int32)), .val (.int (p2 &&& (15 : Int32))), .unset] [(.int (p2 &&& (15 : Int32))), (.int (own_digit (own_chr (own_at (p2 &&& (15 : Int32))))))])) _
      refine XS.icmpNo X10.here hx rfl (hb hby at_56) rfl (teq (own_back _ (own_and15 p2))).2 ?_
      show Steps p.tables e below (T10.setTop (mkF m 59 #[.val (.int p1), .val (.int p2), .val (.ref a2_), .val (.int dd), .val (.int (1 : Int32)), .val (.int (p2 &&& (15 : Int32))), .unset] [])) _
      refine XS.iconst X10.here hx rfl (hb hby at_59) ?_
      show Steps p.tables e below (T10.setTop (mkF m 60 #[.val (.int p1), .val (.int p2), .val (.ref a2_), .val (.int dd), .val (.int (1 : Int32)), .val (.int (p2 &&& (15 : Int32))), .unset] [(.int (1 : Int32))])) _
      refine XS.goto X10.here hx rfl (pc0 := 60) (pc' := 64) rfl (hb hby at_60) (by decide) (by decide) ?_
      show Steps p.tables e below (T10.setTop (mkF m 64 #[.val (.int p1), .val (.int p2), .val (.ref a2_), .val (.int dd), .val (.int (1 : Int32)), .val (.int (p2 &&& (15 : Int32))), .unset] [(.int (1 : Int32))])) _
      refine XS.istore X10.here hx rfl (hb hby at_64) rfl (l' := #[.val (.int p1), .val (.int p2), .val (.ref a2_), .val (.int dd), .val (.int (1 : Int32)), .val (.int (p2 &&& (15 : Int32))), .val (.int (1 : Int32))]) rfl ?_
      show Steps p.tables e below (T10.setTop (mkF m 66 #[.val (.int p1), .val (.int p2), .val (.ref a2_), .val (.int dd), .val (.int (1 : Int32)), .val (.int (p2 &&& (15 : Int32))), .val (.int (1 : Int32))] [])) _
      refine XS.iload X10.here hx rfl (hb hby at_66) rfl ?_
      show Steps p.tables e below (T10.setTop (mkF m 68 #[.val (.int p1), .val (.int p2), .val (.ref a2_), .val (.int dd), .val (.int (1 : Int32)), .val (.int (p2 &&& (15 : Int32))), .val (.int (1 : Int32))] [(.int (1 : Int32))])) _
      refine XS.ifNo X10.here hx rfl (hb hby at_68) rfl ((if0 _ _).trans (feq (by decide)).1) ?_
      show Steps p.tables e below (T10.setTop (mkF m 71 #[.val (.int p1), .val (.int p2), .val (.ref a2_), .val (.int dd), .val (.int (1 : Int32)), .val (.int (p2 &&& (15 : Int32))), .val (.int (1 : Int32))] [])) _
      refine XS.iload X10.here hx rfl (hb hby at_71) rfl ?_
      show Steps p.tables e below (T10.setTop (mkF m 73 #[.val (.int p1), .val (.int p2), .val (.ref a2_), .val (.int dd), .val (.int (1 : Int32)), .val (.int (p2 &&& (15 : Int32))), .val (.int (1 : Int32))] [(.int (1 : Int32))])) _
      refine XS.ifNo X10.here hx rfl (hb hby at_73) rfl ((if0 _ _).trans (feq (by decide)).1) ?_
      show Steps p.tables e below (T10.setTop (mkF m 76 #[.val (.int p1), .val (.int p2), .val (.ref a2_), .val (.int dd), .val (.int (1 : Int32)), .val (.int (p2 &&& (15 : Int32))), .val (.int (1 : Int32))] [])) _
      refine XS.iconst X10.here hx rfl (hb hby at_76) ?_
      show Steps p.tables e below (T10.setTop (mkF m 77 #[.val (.int p1), .val (.int p2), .val (.ref a2_), .val (.int dd), .val (.int (1 : Int32)), .val (.int (p2 &&& (15 : Int32))), .val (.int (1 : Int32))] [(.int (1 : Int32))])) _
      refine XS.goto X10.here hx rfl (pc0 := 77) (pc' := 81) rfl (hb hby at_77) (by decide) (by decide) ?_
      show Steps p.tables e below (T10.setTop (mkF m 81 #[.val (.int p1), .val (.int p2), .val (.ref a2_), .val (.int dd), .val (.int (1 : Int32)), .val (.int (p2 &&& (15 : Int32))), .val (.int (1 : Int32))] [(.int (1 : Int32))])) _
      exact k
    obtain ⟨fs, hr, hrun, hended, hWe⟩ := Stand.leaveW (s := s) (vm₁ := T2.vm) X10 (n := ks2) hS2 (by rw [e10]; exact hk2) (v := some (.int (1 : Int32))) (fun h => by rw [Bd.returns] at h; cases h)
    refine ⟨_, _, k11 _ ?_, hrun, hended, _, _, rfl, ?_, hWe.1, hWe.2.1, hWe.2.2.1, hWe.2.2.2.mono (Nat.le_of_ble_eq_true rfl) (Nat.le_of_ble_eq_true rfl)⟩
    · exact retN X10 hx (t := .boolean) Bd.returns (by simp) (hb hby at_81) hr
    · show Q0 Z p1 p2 cs vF h0 n0 _ T10.heap _
      rw [e10]
      exact ⟨rfl, N10⟩
  · have hs := own_sound p1 (by rw [← eq_dd]; exact hd1)
    rw [← eq_dd] at hs
    have od12 : Old Z n0 h2 := (XO.ext E2)
    have k13 : ∀ t, Steps p.tables e below (T5.setTop (mkF m 25 #[.val (.int p1), .val (.int p2), .val (.ref a2_), .val (.int dd), .unset, .unset, .unset] [(.int dd), (.ref a2_)])) t → Steps p.tables e below (s₁.setTop (entryFrame m #[(.int p1), (.int p2)] maxLocals)) t := by
      intro t k
      refine k6 _ ?_
      show Steps p.tables e below (T5.setTop (mkF m 10 #[.val (.int p1), .val (.int p2), .val (.ref a2_), .val (.int dd), .unset, .unset, .unset] [(.int (-1 : Int32)), (.int dd)])) _
      refine XS.icmpNo X5.here hx rfl (hb hby at_10) rfl (feq hd1).1 ?_
      show Steps p.tables e below (T5.setTop (mkF m 13 #[.val (.int p1), .val (.int p2), .val (.ref a2_), .val (.int dd), .unset, .unset, .unset] [])) _
      refine XS.iloadN X5.here hx rfl (hb hby at_13) rfl ?_
      show Steps p.tables e below (T5.setTop (mkF m 14 #[.val (.int p1), .val (.int p2), .val (.ref a2_), .val (.int dd), .unset, .unset, .unset] [(.int dd)])) _
      refine XS.ifNo X5.here hx rfl (hb hby at_14) rfl ((if0 _ _).trans (flt hs.1).1) ?_
      show Steps p.tables e below (T5.setTop (mkF m 17 #[.val (.int p1), .val (.int p2), .val (.ref a2_), .val (.int dd), .unset, .unset, .unset] [])) _
      refine XS.iloadN X5.here hx rfl (hb hby at_17) rfl ?_
      show Steps p.tables e below (T5.setTop (mkF m 18 #[.val (.int p1), .val (.int p2), .val (.ref a2_), .val (.int dd), .unset, .unset, .unset] [(.int dd)])) _
      refine XS.bipush X5.here hx rfl (hb hby at_18) ?_
      show Steps p.tables e below (T5.setTop (mkF m 20 #[.val (.int p1), .val (.int p2), .val (.ref a2_), .val (.int dd), .unset, .unset, .unset] [(.int (15 : Int32)), (.int dd)])) _
      refine XS.icmpNo X5.here hx rfl (hb hby at_20) rfl (flt (own_le15 hs.2.1)).2.2.1 ?_
      show Steps p.tables e below (T5.setTop (mkF m 23 #[.val (.int p1), .val (.int p2), .val (.ref a2_), .val (.int dd), .unset, .unset, .unset] [])) _
      refine XS.aloadN X5.here hx rfl (hb hby at_23) rfl rfl ?_
      show Steps p.tables e below (T5.setTop (mkF m 24 #[.val (.int p1), .val (.int p2), .val (.ref a2_), .val (.int dd), .unset, .unset, .unset] [(.ref a2_)])) _
      refine XS.iloadN X5.here hx rfl (hb hby at_24) rfl ?_
      show Steps p.tables e below (T5.setTop (mkF m 25 #[.val (.int p1), .val (.int p2), .val (.ref a2_), .val (.int dd), .unset, .unset, .unset] [(.int dd), (.ref a2_)])) _
      exact k
    obtain ⟨cq14, kq14, q14a, q14b, q14c⟩ := isOf hZ e5 A2
    obtain ⟨_, _, ⟨T14, L14, ck14, nk14⟩, -, X14, ⟨Lc14, hQ14, l14, y14, z14⟩, st14⟩ := X5.virtualBack hx (y := (⟨"java/lang/String", "charAt", "(I)C"⟩ : MethodName)) (z := (⟨"java/lang/String", "charAt", "(I)C"⟩ : MethodName)) hown (mvT hZ (hw _ (List.mem_of_getElem? (i := 12) rfl))) (mvT hZ (hw _ (List.mem_of_getElem? (i := 13) rfl))) (notFace_of_selects (args := #[]) (mvT hZ (hw _ (List.mem_of_getElem? (i := 15) rfl)))) (mvT hZ (hw _ (List.mem_of_getElem? (i := 15) rfl))) (mvT hZ (hw _ (List.mem_of_getElem? (i := 14) rfl))) (by decide) (backOf (W := 0) (rmCh l Z a0 hw [] a2_ dd bb2 kb2 (16 : Int32) [(Value.int (48 : Int32)), (Value.int (49 : Int32)), (Value.int (50 : Int32)), (Value.int (51 : Int32)), (Value.int (52 : Int32)), (Value.int (53 : Int32)), (Value.int (54 : Int32)), (Value.int (55 : Int32)), (Value.int (56 : Int32)), (Value.int (57 : Int32)), (Value.int (97 : Int32)), (Value.int (98 : Int32)), (Value.int (99 : Int32)), (Value.int (100 : Int32)), (Value.int (101 : Int32)), (Value.int (102 : Int32))] (own_at dd) cs vF h2 n0 Z3 A2 Fc2 Fv2 V2 ⟨hs.1, hs.2.1⟩ (own_hat _ ⟨hs.1, hs.2.1⟩) S1 hcs od12 S2 rF) hZ (hw _ (List.mem_of_getElem? (i := 16) rfl)) (hw _ (List.mem_of_getElem? (i := 1) rfl)) (by decide) (by decide)) q14a q14c (g := (mkF m 25 #[.val (.int p1), .val (.int p2), .val (.ref a2_), .val (.int dd), .unset, .unset, .unset] [(.int dd), (.ref a2_)])) rfl (by rw [hml]; rfl) (Steps.refl _) (argsL := [(.int dd)]) (rest := []) (lenOf pd_5 rfl) rfl (by show 2 * 0 + _ ≤ _; exact Nat.le_of_eq rfl) (hb hby at_25) (fun _ _ => ⟨rfl, e5, (by decide : 2 + 0 ≤ _), (by decide : 68 + 0 ≤ _)⟩)
    dsimp only [Pt.U, Pt.locs, Pt.cells, Pt.slots] at X14 l14 y14 z14 st14 hQ14
    subst l14 y14 z14
    obtain ⟨rfl, N14q, e14⟩ := hQ14
    have N14 := Fr.app N5 N14q
    have k14 : ∀ t, Steps p.tables e below (T14.setTop (mkF m 28 #[.val (.int p1), .val (.int p2), .val (.ref a2_), .val (.int dd), .unset, .unset, .unset] [(.int (own_chr (own_at dd)))])) t → Steps p.tables e below (s₁.setTop (entryFrame m #[(.int p1), (.int p2)] maxLocals)) t := fun t k => k13 t (st14.trans k)
    have k15 : ∀ t, Steps p.tables e below (T14.setTop (mkF m 48 #[.val (.int p1), .val (.int p2), .val (.ref a2_), .val (.int dd), .val (.int (1 : Int32)), .val (.int (p2 &&& (15 : Int32))), .unset] [(.int (p2 &&& (15 : Int32))), (.ref a2_)])) t → Steps p.tables e below (s₁.setTop (entryFrame m #[(.int p1), (.int p2)] maxLocals)) t := by
      intro t k
      refine k14 _ ?_
      show Steps p.tables e below (T14.setTop (mkF m 28 #[.val (.int p1), .val (.int p2), .val (.ref a2_), .val (.int dd), .unset, .unset, .unset] [(.int (own_chr (own_at dd)))])) _
      refine XS.iloadN X14.here hx rfl (hb hby at_28) rfl ?_
      show Steps p.tables e below (T14.setTop (mkF m 29 #[.val (.int p1), .val (.int p2), .val (.ref a2_), .val (.int dd), .unset, .unset, .unset] [(.int p1), (.int (own_chr (own_at dd)))])) _
      refine XS.icmpNo X14.here hx rfl (hb hby at_29) rfl (teq ((own_chrat dd ⟨hs.1, hs.2.1⟩).trans hs.2.2)).2 ?_
      show Steps p.tables e below (T14.setTop (mkF m 32 #[.val (.int p1), .val (.int p2), .val (.ref a2_), .val (.int dd), .unset, .unset, .unset] [])) _
      refine XS.iconst X14.here hx rfl (hb hby at_32) ?_
      show Steps p.tables e below (T14.setTop (mkF m 33 #[.val (.int p1), .val (.int p2), .val (.ref a2_), .val (.int dd), .unset, .unset, .unset] [(.int (1 : Int32))])) _
      refine XS.goto X14.here hx rfl (pc0 := 33) (pc' := 37) rfl (hb hby at_33) (by decide) (by decide) ?_
      show Steps p.tables e below (T14.setTop (mkF m 37 #[.val (.int p1), .val (.int p2), .val (.ref a2_), .val (.int dd), .unset, .unset, .unset] [(.int (1 : Int32))])) _
      refine XS.istore X14.here hx rfl (hb hby at_37) rfl (l' := #[.val (.int p1), .val (.int p2), .val (.ref a2_), .val (.int dd), .val (.int (1 : Int32)), .unset, .unset]) rfl ?_
      show Steps p.tables e below (T14.setTop (mkF m 39 #[.val (.int p1), .val (.int p2), .val (.ref a2_), .val (.int dd), .val (.int (1 : Int32)), .unset, .unset] [])) _
      refine XS.iloadN X14.here hx rfl (hb hby at_39) rfl ?_
      show Steps p.tables e below (T14.setTop (mkF m 40 #[.val (.int p1), .val (.int p2), .val (.ref a2_), .val (.int dd), .val (.int (1 : Int32)), .unset, .unset] [(.int p2)])) _
      refine XS.bipush X14.here hx rfl (hb hby at_40) ?_
      show Steps p.tables e below (T14.setTop (mkF m 42 #[.val (.int p1), .val (.int p2), .val (.ref a2_), .val (.int dd), .val (.int (1 : Int32)), .unset, .unset] [(.int (15 : Int32)), (.int p2)])) _
      refine XS.iand X14.here hx rfl (hb hby at_42) rfl ?_
      show Steps p.tables e below (T14.setTop (mkF m 43 #[.val (.int p1), .val (.int p2), .val (.ref a2_), .val (.int dd), .val (.int (1 : Int32)), .unset, .unset] [(.int (p2 &&& (15 : Int32)))])) _
      refine XS.istore X14.here hx rfl (hb hby at_43) rfl (l' := #[.val (.int p1), .val (.int p2), .val (.ref a2_), .val (.int dd), .val (.int (1 : Int32)), .val (.int (p2 &&& (15 : Int32))), .unset]) rfl ?_
      show Steps p.tables e below (T14.setTop (mkF m 45 #[.val (.int p1), .val (.int p2), .val (.ref a2_), .val (.int dd), .val (.int (1 : Int32)), .val (.int (p2 &&& (15 : Int32))), .unset] [])) _
      refine XS.aloadN X14.here hx rfl (hb hby at_45) rfl rfl ?_
      show Steps p.tables e below (T14.setTop (mkF m 46 #[.val (.int p1), .val (.int p2), .val (.ref a2_), .val (.int dd), .val (.int (1 : Int32)), .val (.int (p2 &&& (15 : Int32))), .unset] [(.ref a2_)])) _
      refine XS.iload X14.here hx rfl (hb hby at_46) rfl ?_
      show Steps p.tables e below (T14.setTop (mkF m 48 #[.val (.int p1), .val (.int p2), .val (.ref a2_), .val (.int dd), .val (.int (1 : Int32)), .val (.int (p2 &&& (15 : Int32))), .unset] [(.int (p2 &&& (15 : Int32))), (.ref a2_)])) _
      exact k
    obtain ⟨cq16, kq16, q16a, q16b, q16c⟩ := isOf hZ e14 A2
    obtain ⟨_, _, ⟨T16, L16, ck16, nk16⟩, -, X16, ⟨Lc16, hQ16, l16, y16, z16⟩, st16⟩ := X14.virtualBack hx (y := (⟨"java/lang/String", "charAt", "(I)C"⟩ : MethodName)) (z := (⟨"java/lang/String", "charAt", "(I)C"⟩ : MethodName)) hown (mvT hZ (hw _ (List.mem_of_getElem? (i := 12) rfl))) (mvT hZ (hw _ (List.mem_of_getElem? (i := 13) rfl))) (notFace_of_selects (args := #[]) (mvT hZ (hw _ (List.mem_of_getElem? (i := 15) rfl)))) (mvT hZ (hw _ (List.mem_of_getElem? (i := 15) rfl))) (mvT hZ (hw _ (List.mem_of_getElem? (i := 14) rfl))) (by decide) (backOf (W := 0) (rmCh l Z a0 hw [] a2_ (p2 &&& (15 : Int32)) bb2 kb2 (16 : Int32) [(Value.int (48 : Int32)), (Value.int (49 : Int32)), (Value.int (50 : Int32)), (Value.int (51 : Int32)), (Value.int (52 : Int32)), (Value.int (53 : Int32)), (Value.int (54 : Int32)), (Value.int (55 : Int32)), (Value.int (56 : Int32)), (Value.int (57 : Int32)), (Value.int (97 : Int32)), (Value.int (98 : Int32)), (Value.int (99 : Int32)), (Value.int (100 : Int32)), (Value.int (101 : Int32)), (Value.int (102 : Int32))] (own_at (p2 &&& (15 : Int32))) cs vF h2 n0 Z3 A2 Fc2 Fv2 V2 (own_and15 p2) (own_hat _ (own_and15 p2)) S1 hcs od12 S2 rF) hZ (hw _ (List.mem_of_getElem? (i := 16) rfl)) (hw _ (List.mem_of_getElem? (i := 1) rfl)) (by decide) (by decide)) q16a q16c (g := (mkF m 48 #[.val (.int p1), .val (.int p2), .val (.ref a2_), .val (.int dd), .val (.int (1 : Int32)), .val (.int (p2 &&& (15 : Int32))), .unset] [(.int (p2 &&& (15 : Int32))), (.ref a2_)])) rfl (by rw [hml]; rfl) (Steps.refl _) (argsL := [(.int (p2 &&& (15 : Int32)))]) (rest := []) (lenOf pd_5 rfl) rfl (by show 2 * 0 + _ ≤ _; exact Nat.le_of_eq rfl) (hb hby at_48) (fun _ _ => ⟨rfl, e14, (by decide : 2 + 0 ≤ _), (by decide : 68 + 0 ≤ _)⟩)
    dsimp only [Pt.U, Pt.locs, Pt.cells, Pt.slots] at X16 l16 y16 z16 st16 hQ16
    subst l16 y16 z16
    obtain ⟨rfl, N16q, e16⟩ := hQ16
    have N16 := Fr.app N14 N16q
    have k16 : ∀ t, Steps p.tables e below (T16.setTop (mkF m 51 #[.val (.int p1), .val (.int p2), .val (.ref a2_), .val (.int dd), .val (.int (1 : Int32)), .val (.int (p2 &&& (15 : Int32))), .unset] [(.int (own_chr (own_at (p2 &&& (15 : Int32)))))])) t → Steps p.tables e below (s₁.setTop (entryFrame m #[(.int p1), (.int p2)] maxLocals)) t := fun t k => k15 t (st16.trans k)
    obtain ⟨_, _, ⟨T17, L17, ck17, nk17⟩, -, X17, ⟨Lc17, hQ17, l17, y17, z17⟩, st17⟩ := Jvm.LawKit.callS X16 hx (y := (⟨"com/example/catchment/catchment/registry/LineCheck", "digit", "(I)I"⟩ : MethodName)) hown (mvT hZ (hw _ (List.mem_of_getElem? (i := 8) rfl))) (mvT hZ (hw _ (List.mem_of_getElem? (i := 9) rfl))) (mvT hZ (hw _ (List.mem_of_getElem? (i := 10) rfl))) (mvT hZ (hw _ (List.mem_of_getElem? (i := 11) rfl))) (by decide) (backOf (W := 0) (rm1 l Z a0 hw [] (own_chr (own_at (p2 &&& (15 : Int32)))) h2 n0 Z3) hZ (hw _ (List.mem_of_getElem? (i := 11) rfl)) (hw _ (List.mem_of_getElem? (i := 10) rfl)) (by decide) (by decide)) (g := (mkF m 51 #[.val (.int p1), .val (.int p2), .val (.ref a2_), .val (.int dd), .val (.int (1 : Int32)), .val (.int (p2 &&& (15 : Int32))), .unset] [(.int (own_chr (own_at (p2 &&& (15 : Int32)))))])) rfl (by rw [hml]; rfl) (argsL := [(.int (own_chr (own_at (p2 &&& (15 : Int32)))))]) (rest := []) (lenOf pd_4 rfl) rfl (by show 2 * 0 + _ ≤ _; exact Nat.le_of_eq rfl) (hb hby at_51) (fun _ _ => ⟨rfl, e16, (by decide : 2 + 0 ≤ _), (by decide : 68 + 0 ≤ _)⟩)
    dsimp only [Pt.U, Pt.locs, Pt.cells, Pt.slots] at X17 l17 y17 z17 st17 hQ17
    subst l17 y17 z17
    obtain ⟨rfl, N17q, e17⟩ := hQ17
    have N17 := Fr.app N16 N17q
    have k17 : ∀ t, Steps p.tables e below (T17.setTop (mkF m 54 #[.val (.int p1), .val (.int p2), .val (.ref a2_), .val (.int dd), .val (.int (1 : Int32)), .val (.int (p2 &&& (15 : Int32))), .unset] [(.int (own_digit (own_chr (own_at (p2 &&& (15 : Int32))))))])) t → Steps p.tables e below (s₁.setTop (entryFrame m #[(.int p1), (.int p2)] maxLocals)) t := fun t k => k16 t (st17 _ k)
    have k18 : ∀ t, Steps p.tables e below (T17.setTop (mkF m 81 #[.val (.int p1), .val (.int p2), .val (.ref a2_), .val (.int dd), .val (.int (1 : Int32)), .val (.int (p2 &&& (15 : Int32))), .val (.int (1 : Int32))] [(.int (1 : Int32))])) t → Steps p.tables e below (s₁.setTop (entryFrame m #[(.int p1), (.int p2)] maxLocals)) t := by
      intro t k
      refine k17 _ ?_
      show Steps p.tables e below (T17.setTop (mkF m 54 #[.val (.int p1), .val (.int p2), .val (.ref a2_), .val (.int dd), .val (.int (1 : Int32)), .val (.int (p2 &&& (15 : Int32))), .unset] [(.int (own_digit (own_chr (own_at (p2 &&& (15 : Int32))))))])) _
      refine XS.iload X17.here hx rfl (hb hby at_54) rfl ?_
      show Steps p.tables e below (T17.setTop (mkF m 56 #[.val (.int p1), .val (.int p2), .val (.ref a2_), .val (.int dd), .val (.int (1 : Int32)), .val (.int (p2 &&& (15 : Int32))), .unset] [(.int (p2 &&& (15 : Int32))), (.int (own_digit (own_chr (own_at (p2 &&& (15 : Int32))))))])) _
      refine XS.icmpNo X17.here hx rfl (hb hby at_56) rfl (teq (own_back _ (own_and15 p2))).2 ?_
      show Steps p.tables e below (T17.setTop (mkF m 59 #[.val (.int p1), .val (.int p2), .val (.ref a2_), .val (.int dd), .val (.int (1 : Int32)), .val (.int (p2 &&& (15 : Int32))), .unset] [])) _
      refine XS.iconst X17.here hx rfl (hb hby at_59) ?_
      show Steps p.tables e below (T17.setTop (mkF m 60 #[.val (.int p1), .val (.int p2), .val (.ref a2_), .val (.int dd), .val (.int (1 : Int32)), .val (.int (p2 &&& (15 : Int32))), .unset] [(.int (1 : Int32))])) _
      refine XS.goto X17.here hx rfl (pc0 := 60) (pc' := 64) rfl (hb hby at_60) (by decide) (by decide) ?_
      show Steps p.tables e below (T17.setTop (mkF m 64 #[.val (.int p1), .val (.int p2), .val (.ref a2_), .val (.int dd), .val (.int (1 : Int32)), .val (.int (p2 &&& (15 : Int32))), .unset] [(.int (1 : Int32))])) _
      refine XS.istore X17.here hx rfl (hb hby at_64) rfl (l' := #[.val (.int p1), .val (.int p2), .val (.ref a2_), .val (.int dd), .val (.int (1 : Int32)), .val (.int (p2 &&& (15 : Int32))), .val (.int (1 : Int32))]) rfl ?_
      show Steps p.tables e below (T17.setTop (mkF m 66 #[.val (.int p1), .val (.int p2), .val (.ref a2_), .val (.int dd), .val (.int (1 : Int32)), .val (.int (p2 &&& (15 : Int32))), .val (.int (1 : Int32))] [])) _
      refine XS.iload X17.here hx rfl (hb hby at_66) rfl ?_
      show Steps p.tables e below (T17.setTop (mkF m 68 #[.val (.int p1), .val (.int p2), .val (.ref a2_), .val (.int dd), .val (.int (1 : Int32)), .val (.int (p2 &&& (15 : Int32))), .val (.int (1 : Int32))] [(.int (1 : Int32))])) _
      refine XS.ifNo X17.here hx rfl (hb hby at_68) rfl ((if0 _ _).trans (feq (by decide)).1) ?_
      show Steps p.tables e below (T17.setTop (mkF m 71 #[.val (.int p1), .val (.int p2), .val (.ref a2_), .val (.int dd), .val (.int (1 : Int32)), .val (.int (p2 &&& (15 : Int32))), .val (.int (1 : Int32))] [])) _
      refine XS.iload X17.here hx rfl (hb hby at_71) rfl ?_
      show Steps p.tables e below (T17.setTop (mkF m 73 #[.val (.int p1), .val (.int p2), .val (.ref a2_), .val (.int dd), .val (.int (1 : Int32)), .val (.int (p2 &&& (15 : Int32))), .val (.int (1 : Int32))] [(.int (1 : Int32))])) _
      refine XS.ifNo X17.here hx rfl (hb hby at_73) rfl ((if0 _ _).trans (feq (by decide)).1) ?_
      show Steps p.tables e below (T17.setTop (mkF m 76 #[.val (.int p1), .val (.int p2), .val (.ref a2_), .val (.int dd), .val (.int (1 : Int32)), .val (.int (p2 &&& (15 : Int32))), .val (.int (1 : Int32))] [])) _
      refine XS.iconst X17.here hx rfl (hb hby at_76) ?_
      show Steps p.tables e below (T17.setTop (mkF m 77 #[.val (.int p1), .val (.int p2), .val (.ref a2_), .val (.int dd), .val (.int (1 : Int32)), .val (.int (p2 &&& (15 : Int32))), .val (.int (1 : Int32))] [(.int (1 : Int32))])) _
      refine XS.goto X17.here hx rfl (pc0 := 77) (pc' := 81) rfl (hb hby at_77) (by decide) (by decide) ?_
      show Steps p.tables e below (T17.setTop (mkF m 81 #[.val (.int p1), .val (.int p2), .val (.ref a2_), .val (.int dd), .val (.int (1 : Int32)), .val (.int (p2 &&& (15 : Int32))), .val (.int (1 : Int32))] [(.int (1 : Int32))])) _
      exact k
    obtain ⟨fs, hr, hrun, hended, hWe⟩ := Stand.leaveW (s := s) (vm₁ := T2.vm) X17 (n := ks2) hS2 (by rw [e17]; exact hk2) (v := some (.int (1 : Int32))) (fun h => by rw [Bd.returns] at h; cases h)
    refine ⟨_, _, k18 _ ?_, hrun, hended, _, _, rfl, ?_, hWe.1, hWe.2.1, hWe.2.2.1, hWe.2.2.2.mono (Nat.le_of_ble_eq_true rfl) (Nat.le_of_ble_eq_true rfl)⟩
    · exact retN X17 hx (t := .boolean) Bd.returns (by simp) (hb hby at_81) hr
    · show Q0 Z p1 p2 cs vF h0 n0 _ T17.heap _
      rw [e17]
      exact ⟨rfl, N17⟩
set_option maxRecDepth 65536 in
set_option maxHeartbeats 40000000 in
theorem comes_1 {Post : Tables → Env → Array Value → State → Outcome → State → Prop} (hpost : ∀ tb e args s v u, (limb_1_1.after args s (.returned v) u = true ∧ limb_1_2.after args s (.returned v) u = true ∧ True) → ReturnedEndW s (.returned v) u (Jvm.fieldLocs frame_1_writes args s ++ Jvm.arrayLocs frame_1_arrays args s ++ Jvm.staticLocs frame_1_statics s) 8 1088 → Post tb e args s (.returned v) u) :
    ArmFor flags0 classFile x code maxLocals ret World_1 tables_1 room_1 Calls_1 rest_1 Pre_1 Post := by
  intro l hfl _ _ p e ha hc hk s m args below hf hA hF happ hP
  obtain ⟨hcalls, hrest, hpre⟩ := hP
  obtain ⟨-, -, -, hnamed, -, -, -, hat⟩ := (Spec.applies_iff hf).mp happ
  obtain ⟨hg, hn⟩ := and_e (Cond.before_iff.mp (show (Jvm.Cond.and given_1 narrow_1).before args s = true from hpre))
  obtain ⟨hcnt, hr0⟩ := and_e hg
  obtain ⟨hi0, hr1⟩ := and_e hr0
  have hi1 := hr1
  obtain ⟨w0, w1, rfl⟩ : ∃ w0 w1 : Value, args = #[w0, w1] := by
    have hs : args.size = 2 := by simpa [Cond.value, given_1] using hcnt
    obtain ⟨L⟩ := args
    match L, hs with
    | [w0, w1], _ => exact ⟨w0, w1, rfl⟩
  have hw := fun d (hd : d ∈ tables_1) => atoms_spec (ws := Jvm.Cond.code x code maxLocals ret :: tables_1) hat d (List.mem_cons_of_mem _ hd)
  have hfit : Fit s := fun {y c} hc i hi => by
    obtain ⟨ha, rfl⟩ := Array.getElem?_eq_some_iff.mp hc
    have q := List.all_eq_true.mp ((Array.all_eq_true_iff_forall_mem.mp hF) _ (Array.getElem_mem ha)) i (List.mem_range.mpr hi)
    simpa [Array.getElem?_eq_getElem hi] using q
  obtain ⟨hsets, hown0⟩ := atoms_of _ (rest_1_c_eq ▸ (show rest_1_c.before _ s = true from hrest))
  obtain ⟨i0, ei0⟩ := is_v hi0
  obtain rfl : w0 = (.int i0) := Option.some.inj ei0
  obtain ⟨i1, ei1⟩ := is_v hi1
  obtain rfl : w1 = (.int i1) := Option.some.inj ei1
  have n5 := not_v (Cond.before_iff.mp (hsets _ (List.mem_of_getElem? (i := 2) rfl)))
  obtain ⟨cs, ecs⟩ := is_v (Cond.before_iff.mp (hsets _ (List.mem_of_getElem? (i := 1) rfl)))
  have S1 : Sta s s.heap "java/lang/String" "COMPACT_STRINGS" "Z" (.int cs) := Sta.start ecs (Or.inl (hsets _ (List.mem_of_getElem? (i := 0) rfl)))
  have hcs : ¬ (cs = (0 : Int32)) := gotF (Cond.eq_ints ecs (Term.int_eval (0))) n5
  obtain ⟨vF, eF, rF⟩ := isR_v (Cond.before_iff.mp (hsets _ (List.mem_of_getElem? (i := 8) rfl)))
  have S2 : Sta s s.heap "jdk/internal/util/Preconditions" "SIOOBE_FORMATTER" "Ljava/util/function/BiFunction;" vF := Sta.start eF (Or.inl (hsets _ (List.mem_of_getElem? (i := 7) rfl)))
  have hcw : Jvm.Lit.compactW.before _ s = true := hsets _ (List.mem_of_getElem? (i := 2) rfl)
  have hch : Jvm.Lit.constHeld s "com/example/catchment/catchment/registry/LineCheckDigitPinLaw" 7 := (show ∀ p ∈ consts_1, Jvm.Lit.constHeld s p.1 p.2 from (show call_1_1 _ _ _ s ∧ True from hcalls).1) _ (List.mem_of_getElem? (i := 0) rfl)
  obtain ⟨n, o, h1, h2, h3, _, L, rfl, ⟨rfl, N⟩, hq⟩ := rm0 l s _ hw tables_1 i0 i1 cs vF s.heap s.heap.size (Nat.le_refl _) hch hcw S1 hcs (Old.start s) S2 rF p e ha hc hk s m _ below hf ((Spec.applies_iff_loose hf).mp happ).1 ⟨rfl, State.Warmed39.refl s, rfl, IB.start⟩ trivial
  refine ⟨n, _, h1, h2, h3, hpost _ _ _ _ _ _ ⟨Cond.after_iff.mpr rfl, Cond.after_iff.mpr (eq_i res_at (Term.int_eval (1)) rfl), trivial⟩ ⟨hq.1, hq.2.1, hq.2.2.1, (hq.2.2.2.sift fun y hy => Or.inr (N y hy)).mono (by decide) (by decide)⟩⟩
theorem main_1_1 : Claimed_1_1 := comes_1 fun _ _ _ _ _ _ h hF => ⟨h.1, hF⟩
theorem main_1_2 : Claimed_1_2 := comes_1 fun _ _ _ _ _ _ h hF => ⟨h.2.1, hF⟩
end Jvm.Pilot.@@N@@
namespace Jvm.Pilot.@@N@@
open Jvm Jvm.ClassFile Sem Op Lib Jvm.Free Jvm.Stand Jvm.Pilot.@@N@@.Jvm.D
/-! MADE BY PROGRAM (witnessworld.py) out of the Statement's table words and the real class files: 17 classes; the members and pool entries that the words name. The judged class is class 1, her method 1. -/
namespace start1
open Jvm.ClassFile
def u (s : String) : CpInfo := .utf8 (stringToUtf16 s)
/-- a pool by its gaps: so many unusable entries, then the entry; so many at the end -/
def gap : Nat → List CpInfo → List CpInfo
  | 0, r => r
  | n + 1, r => .unusable :: gap n r
def poolList (es : List (Nat × CpInfo)) (last : Nat) : List CpInfo := es.foldr (fun e r => gap e.1 (e.2 :: r)) (gap last [])
def pool (es : List (Nat × CpInfo)) (last : Nat) : Array CpInfo := ⟨poolList es last⟩
def fileOf (pool : Array CpInfo) (this : Nat) (attrs : Array Attribute := #[]) (ms : Array MethodInfo := #[]) (fl : Nat := 33) (sup : Nat := 0) (ifs : Array Nat := #[]) (fds : Array FieldInfo := #[]) : ClassFile where
  minorVersion := 0
  majorVersion := 65
  constantPool := pool
  accessFlags := fl
  thisClass := this
  superClass := sup
  interfaces := ifs
  fields := fds
  methods := ms
  attributes := attrs
def plain (name : String) (sup : Option ClassId) : Class where
  name := name
  kind := .ordinary
  loader := none
  accessFlags := 33
  super := sup
  interfaces := #[]
  cf := none
  fields := #[]
  methods := #[]
  instanceTypes := #[]
  staticTypes := #[]
  resolved := #[]
  callSites := []
  init := .initialized
  statics := none
  mirror := none

def pool0 : Array CpInfo := pool [(5, u "<init>"), (0, u "()V"), (1, .class_ 10), (1, u "java/lang/Object")] 113

def k0m0 : Method := { name := "<init>", desc := "()V", sig := { parameters := [], returnType := none }, accessFlags := 1, code := none }
/-- java/lang/Object -/
def k0 : Class := { plain "java/lang/Object" none with
  accessFlags := 33
  interfaces := #[]
  cf := some (fileOf pool0 8 #[] #[{ accessFlags := 1, nameIndex := 5, descriptorIndex := 6, attributes := #[] }] 33 0 #[] #[])
  fields := #[]
  methods := #[k0m0]
  instanceTypes := #[]
  staticTypes := #[]
  resolved := Array.replicate 124 none
  statics := none }

def pool1 : Array CpInfo := pool [(2, .class_ 4), (1, u "java/lang/Object"), (0, u "<init>"), (0, u "()V"), (0, .string 8), (0, u "0123456789abcdef"), (0, .methodref 10 11), (0, .class_ 12), (0, .nameAndType 13 14), (0, u "com/example/catchment/catchment/registry/LineCheck"), (0, u "digit"), (0, u "(I)I"), (0, .methodref 16 17), (0, .class_ 18), (0, .nameAndType 19 20), (0, u "java/lang/String"), (0, u "charAt"), (0, u "(I)C"), (0, .class_ 22), (0, u "com/example/catchment/catchment/registry/LineCheckDigitPinLaw"), (2, u "law"), (0, u "(II)Z")] 3

def k1m0 : Method := { name := "<init>", desc := "()V", sig := { parameters := [], returnType := none }, accessFlags := 2, code := none }
def k1c1 : Code := { maxStack := 2, maxLocals := 7, code := code, exceptionTable := #[], attributes := #[] }
def k1m1 : Method := { name := "law", desc := "(II)Z", sig := { parameters := [.int, .int], returnType := some .boolean }, accessFlags := 9, code := some k1c1 }
/-- com/example/catchment/catchment/registry/LineCheckDigitPinLaw -/
def k1 : Class := { plain "com/example/catchment/catchment/registry/LineCheckDigitPinLaw" (some 0) with
  accessFlags := 49
  interfaces := #[]
  cf := some (fileOf pool1 21 #[] #[{ accessFlags := 2, nameIndex := 5, descriptorIndex := 6, attributes := #[] }, { accessFlags := 9, nameIndex := 25, descriptorIndex := 26, attributes := #[] }] 49 2 #[] #[])
  fields := #[]
  methods := #[k1m0, k1m1]
  instanceTypes := #[]
  staticTypes := #[]
  resolved := Array.replicate 30 none
  statics := none }

def pool2 : Array CpInfo := pool [(1, .class_ 2), (0, u "java/io/Serializable"), (0, .class_ 4), (0, u "java/lang/Object")] 2

/-- java/io/Serializable -/
def k2 : Class := { plain "java/io/Serializable" (some 0) with
  accessFlags := 1537
  interfaces := #[]
  cf := some (fileOf pool2 1 #[] #[] 1537 3 #[] #[])
  fields := #[]
  methods := #[]
  instanceTypes := #[]
  staticTypes := #[]
  resolved := Array.replicate 7 none
  statics := none }

def pool3 : Array CpInfo := pool [(1, .class_ 2), (0, u "java/lang/Comparable"), (0, .class_ 4), (0, u "java/lang/Object")] 7

/-- java/lang/Comparable -/
def k3 : Class := { plain "java/lang/Comparable" (some 0) with
  accessFlags := 1537
  interfaces := #[]
  cf := some (fileOf pool3 1 #[] #[] 1537 3 #[] #[])
  fields := #[]
  methods := #[]
  instanceTypes := #[]
  staticTypes := #[]
  resolved := Array.replicate 12 none
  statics := none }

def pool4 : Array CpInfo := pool [(2, .class_ 4), (1, u "java/lang/CharSequence"), (42, .class_ 48), (0, u "java/lang/CharSequence$1CodePointIterator"), (10, .class_ 60), (0, u "java/lang/CharSequence$1CharIterator"), (5, .class_ 67), (0, u "java/lang/Object")] 63

/-- java/lang/CharSequence -/
def k4 : Class := { plain "java/lang/CharSequence" (some 0) with
  accessFlags := 1537
  interfaces := #[]
  cf := some (fileOf pool4 2 #[.nestMembers #[47, 59]] #[] 1537 66 #[] #[])
  fields := #[]
  methods := #[]
  instanceTypes := #[]
  staticTypes := #[]
  resolved := Array.replicate 131 none
  statics := none }

def pool5 : Array CpInfo := pool [(1, .class_ 2), (0, u "java/lang/constant/Constable"), (0, .class_ 4), (0, u "java/lang/Object")] 6

/-- java/lang/constant/Constable -/
def k5 : Class := { plain "java/lang/constant/Constable" (some 0) with
  accessFlags := 1537
  interfaces := #[]
  cf := some (fileOf pool5 1 #[] #[] 1537 3 #[] #[])
  fields := #[]
  methods := #[]
  instanceTypes := #[]
  staticTypes := #[]
  resolved := Array.replicate 11 none
  statics := none }

def pool6 : Array CpInfo := pool [(1, .class_ 2), (0, u "java/lang/constant/ConstantDesc"), (0, .class_ 4), (0, u "java/lang/Object")] 32

/-- java/lang/constant/ConstantDesc -/
def k6 : Class := { plain "java/lang/constant/ConstantDesc" (some 0) with
  accessFlags := 1537
  interfaces := #[]
  cf := some (fileOf pool6 1 #[] #[] 1537 3 #[] #[])
  fields := #[]
  methods := #[]
  instanceTypes := #[]
  staticTypes := #[]
  resolved := Array.replicate 37 none
  statics := none }

def pool7 : Array CpInfo := pool [(2, .class_ 4), (1, u "java/lang/Object"), (0, u "<init>"), (0, u "()V"), (2, .fieldref 10 11), (0, .class_ 12), (0, .nameAndType 13 14), (0, u "java/lang/String"), (0, u "value"), (0, u "[B"), (0, .fieldref 10 16), (0, .nameAndType 17 18), (0, u "coder"), (0, u "B"), (2, u "hash"), (0, u "I"), (2, u "hashIsZero"), (0, u "Z"), (11, .fieldref 10 39), (0, .nameAndType 40 26), (0, u "COMPACT_STRINGS"), (66, .class_ 109), (1, u "java/lang/StringLatin1"), (32, u "()Z"), (220, u "([BI)C"), (27, u "(II)V"), (35, u "(I)C"), (64, .methodref 10 493), (0, .nameAndType 494 142), (0, u "isLatin1"), (0, .methodref 107 496), (0, .nameAndType 497 363), (0, u "charAt"), (3, u "checkIndex"), (73, .class_ 576), (0, u "java/lang/CharSequence"), (22, u "CASE_INSENSITIVE_ORDER"), (0, u "Ljava/util/Comparator;"), (452, .fieldref 1054 1055), (0, .class_ 1056), (0, .nameAndType 1057 1058), (0, u "jdk/internal/util/Preconditions"), (0, u "SIOOBE_FORMATTER"), (0, u "Ljava/util/function/BiFunction;"), (0, .methodref 1054 1060), (0, .nameAndType 501 1061), (0, u "(IILjava/util/function/BiFunction;)I"), (39, u "serialPersistentFields"), (0, u "[Ljava/io/ObjectStreamField;"), (0, .class_ 1104), (0, u "java/lang/String$CaseInsensitiveComparator"), (1, .class_ 1107), (0, u "java/io/Serializable"), (0, .class_ 1109), (0, u "java/lang/Comparable"), (0, .class_ 1111), (0, u "java/lang/constant/Constable"), (0, .class_ 1113), (0, u "java/lang/constant/ConstantDesc"), (2, u "serialVersionUID"), (0, u "J"), (3, u "REPL"), (0, u "C"), (2, u "LATIN1"), (1, u "UTF16")] 323

def k7m0 : Method := { name := "<init>", desc := "()V", sig := { parameters := [], returnType := none }, accessFlags := 1, code := none }
def k7c1 : Code := { maxStack := 2, maxLocals := 2, code := jdk_42_method_56_code, exceptionTable := #[], attributes := #[] }
def k7m1 : Method := { name := "charAt", desc := "(I)C", sig := { parameters := [.int], returnType := some .char }, accessFlags := 1, code := some k7c1 }
def k7c2 : Code := { maxStack := 1, maxLocals := 1, code := jdk_42_method_154_code, exceptionTable := #[], attributes := #[] }
def k7m2 : Method := { name := "isLatin1", desc := "()Z", sig := { parameters := [], returnType := some .boolean }, accessFlags := 0, code := some k7c2 }
def k7c3 : Code := { maxStack := 3, maxLocals := 2, code := jdk_42_method_155_code, exceptionTable := #[], attributes := #[] }
def k7m3 : Method := { name := "checkIndex", desc := "(II)V", sig := { parameters := [.int, .int], returnType := none }, accessFlags := 8, code := some k7c3 }
/-- java/lang/String -/
def k7 : Class := { plain "java/lang/String" (some 0) with
  accessFlags := 49
  interfaces := #[2, 3, 4, 5, 6]
  cf := some (fileOf pool7 10 #[.nestMembers #[1103]] #[{ accessFlags := 1, nameIndex := 5, descriptorIndex := 6, attributes := #[] }, { accessFlags := 1, nameIndex := 497, descriptorIndex := 427, attributes := #[] }, { accessFlags := 0, nameIndex := 494, descriptorIndex := 142, attributes := #[] }, { accessFlags := 8, nameIndex := 501, descriptorIndex := 391, attributes := #[] }] 49 2 #[1106, 1108, 575, 1110, 1112] #[{ accessFlags := 18, nameIndex := 13, descriptorIndex := 14, attributes := #[] }, { accessFlags := 18, nameIndex := 17, descriptorIndex := 18, attributes := #[] }, { accessFlags := 2, nameIndex := 21, descriptorIndex := 22, attributes := #[] }, { accessFlags := 2, nameIndex := 25, descriptorIndex := 26, attributes := #[] }, { accessFlags := 26, nameIndex := 1116, descriptorIndex := 1117, attributes := #[] }, { accessFlags := 24, nameIndex := 40, descriptorIndex := 26, attributes := #[] }, { accessFlags := 26, nameIndex := 1101, descriptorIndex := 1102, attributes := #[] }, { accessFlags := 26, nameIndex := 1121, descriptorIndex := 1122, attributes := #[] }, { accessFlags := 25, nameIndex := 599, descriptorIndex := 600, attributes := #[] }, { accessFlags := 24, nameIndex := 1125, descriptorIndex := 18, attributes := #[] }, { accessFlags := 24, nameIndex := 1127, descriptorIndex := 18, attributes := #[] }])
  fields := #[{ name := "value", type := (.array .byte), accessFlags := 18, slot := 0, constantValue := 0 }, { name := "coder", type := .byte, accessFlags := 18, slot := 1, constantValue := 0 }, { name := "hash", type := .int, accessFlags := 2, slot := 2, constantValue := 0 }, { name := "hashIsZero", type := .boolean, accessFlags := 2, slot := 3, constantValue := 0 }, { name := "serialVersionUID", type := .long, accessFlags := 26, slot := 0, constantValue := 0 }, { name := "COMPACT_STRINGS", type := .boolean, accessFlags := 24, slot := 1, constantValue := 0 }, { name := "serialPersistentFields", type := (.array (.object "java/io/ObjectStreamField")), accessFlags := 26, slot := 2, constantValue := 0 }, { name := "REPL", type := .char, accessFlags := 26, slot := 3, constantValue := 0 }, { name := "CASE_INSENSITIVE_ORDER", type := (.object "java/util/Comparator"), accessFlags := 25, slot := 4, constantValue := 0 }, { name := "LATIN1", type := .byte, accessFlags := 24, slot := 5, constantValue := 0 }, { name := "UTF16", type := .byte, accessFlags := 24, slot := 6, constantValue := 0 }]
  methods := #[k7m0, k7m1, k7m2, k7m3]
  instanceTypes := #[(.array .byte), .byte, .int, .boolean]
  staticTypes := #[.long, .boolean, (.array (.object "java/io/ObjectStreamField")), .char, (.object "java/util/Comparator"), .byte, .byte]
  resolved := Array.replicate 1451 none
  statics := some 0 }

def pool8 : Array CpInfo := pool [(2, .class_ 4), (1, u "java/lang/Object"), (0, u "<init>"), (0, u "()V"), (8, .class_ 17), (1, u "com/example/catchment/catchment/registry/LineCheck"), (10, u "LENGTH"), (0, u "I"), (6, u "HEX"), (0, u "[B"), (7, u "OPENING"), (5, u "CLOSING"), (5, u "digit"), (0, u "(I)I"), (36, u "FIRST"), (2, u "MISSING"), (0, u "Ljava/lang/String;"), (0, u "DIGITS")] 16

def k8m0 : Method := { name := "<init>", desc := "()V", sig := { parameters := [], returnType := none }, accessFlags := 2, code := none }
def k8c1 : Code := { maxStack := 2, maxLocals := 2, code := prog_36_method_10_code, exceptionTable := #[], attributes := #[] }
def k8m1 : Method := { name := "digit", desc := "(I)I", sig := { parameters := [.int], returnType := some .int }, accessFlags := 8, code := some k8c1 }
/-- com/example/catchment/catchment/registry/LineCheck -/
def k8 : Class := { plain "com/example/catchment/catchment/registry/LineCheck" (some 0) with
  accessFlags := 48
  interfaces := #[]
  cf := some (fileOf pool8 15 #[] #[{ accessFlags := 2, nameIndex := 5, descriptorIndex := 6, attributes := #[] }, { accessFlags := 8, nameIndex := 57, descriptorIndex := 58, attributes := #[] }] 48 2 #[] #[{ accessFlags := 24, nameIndex := 95, descriptorIndex := 29, attributes := #[] }, { accessFlags := 24, nameIndex := 98, descriptorIndex := 99, attributes := #[] }, { accessFlags := 26, nameIndex := 45, descriptorIndex := 37, attributes := #[] }, { accessFlags := 26, nameIndex := 51, descriptorIndex := 37, attributes := #[] }, { accessFlags := 26, nameIndex := 100, descriptorIndex := 29, attributes := #[] }, { accessFlags := 24, nameIndex := 28, descriptorIndex := 29, attributes := #[] }, { accessFlags := 26, nameIndex := 36, descriptorIndex := 37, attributes := #[] }])
  fields := #[{ name := "FIRST", type := .int, accessFlags := 24, slot := 0, constantValue := 0 }, { name := "MISSING", type := (.object "java/lang/String"), accessFlags := 24, slot := 1, constantValue := 0 }, { name := "OPENING", type := (.array .byte), accessFlags := 26, slot := 2, constantValue := 0 }, { name := "CLOSING", type := (.array .byte), accessFlags := 26, slot := 3, constantValue := 0 }, { name := "DIGITS", type := .int, accessFlags := 26, slot := 4, constantValue := 0 }, { name := "LENGTH", type := .int, accessFlags := 24, slot := 5, constantValue := 0 }, { name := "HEX", type := (.array .byte), accessFlags := 26, slot := 6, constantValue := 0 }]
  methods := #[k8m0, k8m1]
  instanceTypes := #[]
  staticTypes := #[.int, (.object "java/lang/String"), (.array .byte), (.array .byte), .int, .int, (.array .byte)]
  resolved := Array.replicate 117 none
  statics := none }

def pool9 : Array CpInfo := pool [(1, .class_ 2), (0, u "java/lang/String"), (1, .class_ 6), (1, u "java/lang/Object"), (0, u "<init>"), (0, u "()V"), (0, .methodref 1 10), (0, .nameAndType 11 12), (0, u "checkIndex"), (0, u "(II)V"), (1, .class_ 16), (1, u "java/lang/StringLatin1"), (36, u "([BI)C"), (67, u "$assertionsDisabled"), (0, u "Z"), (98, .class_ 223), (1, u "java/lang/StringLatin1$LinesSpliterator"), (28, u "charAt"), (137, .class_ 391), (0, u "java/lang/StringLatin1$CharsSpliterator")] 3

def k9m0 : Method := { name := "<init>", desc := "()V", sig := { parameters := [], returnType := none }, accessFlags := 0, code := none }
def k9c1 : Code := { maxStack := 2, maxLocals := 2, code := jdk_43_method_2_code, exceptionTable := #[], attributes := #[] }
def k9m1 : Method := { name := "charAt", desc := "([BI)C", sig := { parameters := [(.array .byte), .int], returnType := some .char }, accessFlags := 9, code := some k9c1 }
/-- java/lang/StringLatin1 -/
def k9 : Class := { plain "java/lang/StringLatin1" (some 0) with
  accessFlags := 48
  interfaces := #[]
  cf := some (fileOf pool9 14 #[.nestMembers #[390, 221]] #[{ accessFlags := 0, nameIndex := 7, descriptorIndex := 8, attributes := #[] }, { accessFlags := 9, nameIndex := 252, descriptorIndex := 53, attributes := #[] }] 48 4 #[] #[{ accessFlags := 4120, nameIndex := 121, descriptorIndex := 122, attributes := #[] }])
  fields := #[{ name := "$assertionsDisabled", type := .boolean, accessFlags := 4120, slot := 0, constantValue := 0 }]
  methods := #[k9m0, k9m1]
  instanceTypes := #[]
  staticTypes := #[.boolean]
  resolved := Array.replicate 395 none
  statics := none }

def pool10 : Array CpInfo := pool [(2, .class_ 4), (1, u "java/lang/Object"), (0, u "<init>"), (0, u "()V"), (17, .class_ 26), (1, u "jdk/internal/util/Preconditions"), (6, u "checkIndex"), (21, .class_ 56), (0, u "jdk/internal/util/Preconditions$4"), (57, .class_ 115), (0, u "jdk/internal/util/Preconditions$1"), (7, u "SIOOBE_FORMATTER"), (0, u "Ljava/util/function/BiFunction;"), (0, .class_ 126), (0, u "jdk/internal/util/Preconditions$2"), (3, u "AIOOBE_FORMATTER"), (0, .class_ 132), (0, u "jdk/internal/util/Preconditions$3"), (3, u "IOOBE_FORMATTER"), (41, u "(IILjava/util/function/BiFunction;)I")] 15

def k10m0 : Method := { name := "<init>", desc := "()V", sig := { parameters := [], returnType := none }, accessFlags := 1, code := none }
def k10c1 : Code := { maxStack := 3, maxLocals := 3, code := jdk_41_method_11_code, exceptionTable := #[], attributes := #[] }
def k10m1 : Method := { name := "checkIndex", desc := "(IILjava/util/function/BiFunction;)I", sig := { parameters := [.int, .int, (.object "java/util/function/BiFunction")], returnType := some .int }, accessFlags := 9, code := some k10c1 }
/-- jdk/internal/util/Preconditions -/
def k10 : Class := { plain "jdk/internal/util/Preconditions" (some 0) with
  accessFlags := 33
  interfaces := #[]
  cf := some (fileOf pool10 24 #[.nestMembers #[55, 131, 125, 114]] #[{ accessFlags := 1, nameIndex := 5, descriptorIndex := 6, attributes := #[] }, { accessFlags := 9, nameIndex := 33, descriptorIndex := 178, attributes := #[] }] 33 2 #[] #[{ accessFlags := 25, nameIndex := 123, descriptorIndex := 124, attributes := #[] }, { accessFlags := 25, nameIndex := 130, descriptorIndex := 124, attributes := #[] }, { accessFlags := 25, nameIndex := 136, descriptorIndex := 124, attributes := #[] }])
  fields := #[{ name := "SIOOBE_FORMATTER", type := (.object "java/util/function/BiFunction"), accessFlags := 25, slot := 0, constantValue := 0 }, { name := "AIOOBE_FORMATTER", type := (.object "java/util/function/BiFunction"), accessFlags := 25, slot := 1, constantValue := 0 }, { name := "IOOBE_FORMATTER", type := (.object "java/util/function/BiFunction"), accessFlags := 25, slot := 2, constantValue := 0 }]
  methods := #[k10m0, k10m1]
  instanceTypes := #[]
  staticTypes := #[(.object "java/util/function/BiFunction"), (.object "java/util/function/BiFunction"), (.object "java/util/function/BiFunction")]
  resolved := Array.replicate 194 none
  statics := some 1 }

def pool11 : Array CpInfo := pool [(9, u "<init>"), (6, .class_ 18), (1, u "java/lang/Object"), (0, u "()V"), (1, .class_ 23), (1, u "jdk/internal/util/ArraysSupport"), (0, u "LOG2_ARRAY_LONG_INDEX_SCALE"), (0, u "I"), (2, u "U"), (0, u "Ljdk/internal/misc/Unsafe;"), (8, u "BIG_ENDIAN"), (0, u "Z"), (8, u "LOG2_BYTE_BIT_SIZE"), (4, u "LOG2_ARRAY_INT_INDEX_SCALE"), (54, u "JLA"), (0, u "Ljdk/internal/access/JavaLangAccess;"), (11, u "LOG2_ARRAY_BOOLEAN_INDEX_SCALE"), (9, u "LOG2_ARRAY_BYTE_INDEX_SCALE"), (5, u "LOG2_ARRAY_CHAR_INDEX_SCALE"), (5, u "LOG2_ARRAY_SHORT_INDEX_SCALE"), (18, u "LOG2_ARRAY_FLOAT_INDEX_SCALE"), (24, u "LOG2_ARRAY_DOUBLE_INDEX_SCALE"), (89, u "T_BOOLEAN"), (2, u "T_CHAR"), (1, u "T_FLOAT"), (1, u "T_DOUBLE"), (1, u "T_BYTE"), (1, u "T_SHORT"), (1, u "T_INT"), (1, u "T_LONG"), (1, u "SOFT_MAX_ARRAY_LENGTH")] 83

def k11m0 : Method := { name := "<init>", desc := "()V", sig := { parameters := [], returnType := none }, accessFlags := 2, code := none }
/-- jdk/internal/util/ArraysSupport -/
def k11 : Class := { plain "jdk/internal/util/ArraysSupport" (some 0) with
  accessFlags := 33
  interfaces := #[]
  cf := some (fileOf pool11 21 #[] #[{ accessFlags := 2, nameIndex := 9, descriptorIndex := 19, attributes := #[] }] 33 16 #[] #[{ accessFlags := 24, nameIndex := 28, descriptorIndex := 29, attributes := #[] }, { accessFlags := 26, nameIndex := 38, descriptorIndex := 39, attributes := #[] }, { accessFlags := 25, nameIndex := 121, descriptorIndex := 25, attributes := #[] }, { accessFlags := 25, nameIndex := 131, descriptorIndex := 25, attributes := #[] }, { accessFlags := 25, nameIndex := 137, descriptorIndex := 25, attributes := #[] }, { accessFlags := 25, nameIndex := 143, descriptorIndex := 25, attributes := #[] }, { accessFlags := 25, nameIndex := 53, descriptorIndex := 25, attributes := #[] }, { accessFlags := 25, nameIndex := 24, descriptorIndex := 25, attributes := #[] }, { accessFlags := 25, nameIndex := 162, descriptorIndex := 25, attributes := #[] }, { accessFlags := 25, nameIndex := 187, descriptorIndex := 25, attributes := #[] }, { accessFlags := 26, nameIndex := 48, descriptorIndex := 25, attributes := #[] }, { accessFlags := 25, nameIndex := 277, descriptorIndex := 25, attributes := #[] }, { accessFlags := 25, nameIndex := 280, descriptorIndex := 25, attributes := #[] }, { accessFlags := 25, nameIndex := 282, descriptorIndex := 25, attributes := #[] }, { accessFlags := 25, nameIndex := 284, descriptorIndex := 25, attributes := #[] }, { accessFlags := 25, nameIndex := 286, descriptorIndex := 25, attributes := #[] }, { accessFlags := 25, nameIndex := 288, descriptorIndex := 25, attributes := #[] }, { accessFlags := 25, nameIndex := 290, descriptorIndex := 25, attributes := #[] }, { accessFlags := 25, nameIndex := 292, descriptorIndex := 25, attributes := #[] }, { accessFlags := 26, nameIndex := 108, descriptorIndex := 109, attributes := #[] }, { accessFlags := 25, nameIndex := 294, descriptorIndex := 25, attributes := #[] }])
  fields := #[{ name := "U", type := (.object "jdk/internal/misc/Unsafe"), accessFlags := 24, slot := 0, constantValue := 0 }, { name := "BIG_ENDIAN", type := .boolean, accessFlags := 26, slot := 1, constantValue := 0 }, { name := "LOG2_ARRAY_BOOLEAN_INDEX_SCALE", type := .int, accessFlags := 25, slot := 2, constantValue := 0 }, { name := "LOG2_ARRAY_BYTE_INDEX_SCALE", type := .int, accessFlags := 25, slot := 3, constantValue := 0 }, { name := "LOG2_ARRAY_CHAR_INDEX_SCALE", type := .int, accessFlags := 25, slot := 4, constantValue := 0 }, { name := "LOG2_ARRAY_SHORT_INDEX_SCALE", type := .int, accessFlags := 25, slot := 5, constantValue := 0 }, { name := "LOG2_ARRAY_INT_INDEX_SCALE", type := .int, accessFlags := 25, slot := 6, constantValue := 0 }, { name := "LOG2_ARRAY_LONG_INDEX_SCALE", type := .int, accessFlags := 25, slot := 7, constantValue := 0 }, { name := "LOG2_ARRAY_FLOAT_INDEX_SCALE", type := .int, accessFlags := 25, slot := 8, constantValue := 0 }, { name := "LOG2_ARRAY_DOUBLE_INDEX_SCALE", type := .int, accessFlags := 25, slot := 9, constantValue := 0 }, { name := "LOG2_BYTE_BIT_SIZE", type := .int, accessFlags := 26, slot := 10, constantValue := 0 }, { name := "T_BOOLEAN", type := .int, accessFlags := 25, slot := 11, constantValue := 0 }, { name := "T_CHAR", type := .int, accessFlags := 25, slot := 12, constantValue := 0 }, { name := "T_FLOAT", type := .int, accessFlags := 25, slot := 13, constantValue := 0 }, { name := "T_DOUBLE", type := .int, accessFlags := 25, slot := 14, constantValue := 0 }, { name := "T_BYTE", type := .int, accessFlags := 25, slot := 15, constantValue := 0 }, { name := "T_SHORT", type := .int, accessFlags := 25, slot := 16, constantValue := 0 }, { name := "T_INT", type := .int, accessFlags := 25, slot := 17, constantValue := 0 }, { name := "T_LONG", type := .int, accessFlags := 25, slot := 18, constantValue := 0 }, { name := "JLA", type := (.object "jdk/internal/access/JavaLangAccess"), accessFlags := 26, slot := 19, constantValue := 0 }, { name := "SOFT_MAX_ARRAY_LENGTH", type := .int, accessFlags := 25, slot := 20, constantValue := 0 }]
  methods := #[k11m0]
  instanceTypes := #[]
  staticTypes := #[(.object "jdk/internal/misc/Unsafe"), .boolean, .int, .int, .int, .int, .int, .int, .int, .int, .int, .int, .int, .int, .int, .int, .int, .int, .int, (.object "jdk/internal/access/JavaLangAccess"), .int]
  resolved := Array.replicate 378 none
  statics := none }

def pool12 : Array CpInfo := pool [(1, u "java/lang/Cloneable"), (0, .class_ 1), (0, u "java/lang/Object"), (0, .class_ 3)] 3

/-- java/lang/Cloneable -/
def k12 : Class := { plain "java/lang/Cloneable" (some 0) with
  accessFlags := 1537
  interfaces := #[]
  cf := some (fileOf pool12 2 #[] #[] 1537 4 #[] #[])
  fields := #[]
  methods := #[]
  instanceTypes := #[]
  staticTypes := #[]
  resolved := Array.replicate 8 none
  statics := none }

/-- the primitive byte -/
def k13 : Class := { plain "byte" none with kind := .primitive 'B', accessFlags := 0x411 }
/-- [B -/
def k14 : Class := { plain "[B" (some 0) with kind := .array 13 .byte, interfaces := #[12, 2], accessFlags := 1041 }

/-- the primitive int -/
def k15 : Class := { plain "int" none with kind := .primitive 'I', accessFlags := 0x411 }
/-- [I -/
def k16 : Class := { plain "[I" (some 0) with kind := .array 15 .int, interfaces := #[12, 2], accessFlags := 1041 }

def heap : Heap := #[{ cls := 7, slots := #[.long 0, .int 1, .null, .int 0, .null, .int 0, .int 0], vm := .statics 7 },
  { cls := 10, slots := #[.null, .null, .null], vm := .statics 10 }]
def classes : Array Class := #[k0, k1, k2, k3, k4, k5, k6, k7, k8, k9, k10, k11, k12, k13, k14, k15, k16]
def interned : List (Array UInt16 × Addr) := []
def slotsUsed : Nat := 10
def theMethod : MethodId := ⟨1, 1⟩
def args0 : Array Value := #[.int 5, .int 7]
def aboutOver (below : List Frame) : State where
  vm := { classes := classes, interned := interned.toArray }
  heap := heap
  slotsUsed := slotsUsed
  threads := #[{ frames := .invoking theMethod args0 :: below }]
def below0 : List Frame := [.native { method := ⟨0, 0⟩, args := #[] }]
def about1 : State := aboutOver below0
def p0 : Program := .bare "" "" ""
def e0 : Env := launch0.env 0 0 0
theorem w_frames : about1.frames = Frame.invoking theMethod args0 :: below0 := rfl
set_option maxRecDepth 65536 in
theorem w_args : argsFit about1.vm theMethod args0 = true := by decide +kernel
set_option maxRecDepth 65536 in
theorem w_heap : heapFits about1 = true := by decide +kernel
set_option maxRecDepth 65536 in
theorem w_runnable : about1.curStatus? = some .runnable := by decide +kernel
set_option maxRecDepth 65536 in
theorem w_alone : about1.alone = true := by decide +kernel
set_option maxRecDepth 65536 in
theorem w_named : about1.methodNamed? x = some theMethod := by decide +kernel
set_option maxRecDepth 65536 in
theorem w_hears : about1.hears theMethod below0 = true := by decide +kernel
set_option maxRecDepth 65536 in
theorem w_ripe : about1.ripe theMethod args0 below0 = true := by decide +kernel
theorem w_running : about1.status = .running := rfl
set_option maxRecDepth 65536 in
theorem w_room : about1.hasRoom e0.platform room_1 = true :=
  launch0.hasRoom_least _ room_1 (by decide +kernel) (by decide +kernel) (by decide +kernel) (by decide +kernel) (by decide +kernel) (by decide +kernel)
theorem allAtoms_all (ts : List Jvm.Cond) (a : Array Jvm.Value) (st : Jvm.State) : (allAtoms ts).before a st = ts.all (fun c => c.before a st) := by
  induction ts with
  | nil => rfl
  | cons c t ih =>
    show (Jvm.Cond.and c (allAtoms t)).before a st = _
    rw [Jvm.Cond.before_and, ih, List.all_cons]
def words1 : List Jvm.Cond := Jvm.Cond.code x code maxLocals ret :: tables_1
/-- a 'code' word, met by the world's own term for the bytes: nothing is compared byte by byte -/
theorem code_word {y : MethodName} {bytes : ByteArray} {mx : Nat} {rt : Option FieldType} {a : Array Value} {s : State} {m : MethodId} {meth : Method} {c : Code} (h1 : s.methodNamed? y = some m) (h2 : s.vm.method? m = some meth) (h3 : meth.code = some c) (h4 : c.code = bytes)
    (h5 : (c.maxLocals == mx && c.exceptionTable.isEmpty && decide (c.maxStack ≤ mostOperands) && decide (meth.sig.returnType = rt) && !meth.locks && decide (parseMethodDescriptor y.desc = some meth.sig)) = true) : (Jvm.Cond.code y bytes mx rt).before a s = true := by
  simp only [Bool.and_eq_true, beq_iff_eq, Bool.not_eq_true', decide_eq_true_eq] at h5
  obtain ⟨⟨⟨⟨⟨g1, g2⟩, g3⟩, g4⟩, g5⟩, g6⟩ := h5
  simp [Cond.before, Cond.holds, Cond.value, h1, h2, h3, h4, g1, g2, g3, g4, g5, g6]
def isCode : Jvm.Cond → Bool
  | .code _ _ _ _ => true
  | _ => false
theorem all_split {L : List Jvm.Cond} {P : Jvm.Cond → Bool} (h1 : L.all (fun c => isCode c || P c) = true) (h2 : ∀ c ∈ L.filter isCode, P c = true) : L.all P = true := by
  refine List.all_eq_true.mpr fun c hc => ?_
  have h := List.all_eq_true.mp h1 c hc
  rcases Bool.eq_false_or_eq_true (isCode c) with hi | hi
  · exact h2 c (List.mem_filter.mpr ⟨hc, hi⟩)
  · simpa [hi] using h
set_option maxRecDepth 65536 in
theorem w_c0 : (Jvm.Cond.code x code maxLocals ret).before args0 about1 = true := code_word (m := ⟨1, 1⟩) (meth := k1m1) (c := k1c1) (by decide +kernel) rfl rfl rfl (by decide +kernel)
set_option maxRecDepth 65536 in
theorem w_c1 : (Jvm.Cond.code ({ cls := "com/example/catchment/catchment/registry/LineCheck", name := "digit", desc := "(I)I" } : Jvm.MethodName) prog_36_method_10_code (2 : Nat) (Option.some Jvm.ClassFile.FieldType.int)).before args0 about1 = true := code_word (m := ⟨8, 1⟩) (meth := k8m1) (c := k8c1) (by decide +kernel) rfl rfl rfl (by decide +kernel)
set_option maxRecDepth 65536 in
theorem w_c2 : (Jvm.Cond.code ({ cls := "java/lang/String", name := "charAt", desc := "(I)C" } : Jvm.MethodName) jdk_42_method_56_code (2 : Nat) (Option.some Jvm.ClassFile.FieldType.char)).before args0 about1 = true := code_word (m := ⟨7, 1⟩) (meth := k7m1) (c := k7c1) (by decide +kernel) rfl rfl rfl (by decide +kernel)
set_option maxRecDepth 65536 in
theorem w_c3 : (Jvm.Cond.code ({ cls := "java/lang/String", name := "isLatin1", desc := "()Z" } : Jvm.MethodName) jdk_42_method_154_code (1 : Nat) (Option.some Jvm.ClassFile.FieldType.boolean)).before args0 about1 = true := code_word (m := ⟨7, 2⟩) (meth := k7m2) (c := k7c2) (by decide +kernel) rfl rfl rfl (by decide +kernel)
set_option maxRecDepth 65536 in
theorem w_c4 : (Jvm.Cond.code ({ cls := "java/lang/StringLatin1", name := "charAt", desc := "([BI)C" } : Jvm.MethodName) jdk_43_method_2_code (2 : Nat) (Option.some Jvm.ClassFile.FieldType.char)).before args0 about1 = true := code_word (m := ⟨9, 1⟩) (meth := k9m1) (c := k9c1) (by decide +kernel) rfl rfl rfl (by decide +kernel)
set_option maxRecDepth 65536 in
theorem w_c5 : (Jvm.Cond.code ({ cls := "java/lang/String", name := "checkIndex", desc := "(II)V" } : Jvm.MethodName) jdk_42_method_155_code (2 : Nat) (Option.none : Option Jvm.ClassFile.FieldType)).before args0 about1 = true := code_word (m := ⟨7, 3⟩) (meth := k7m3) (c := k7c3) (by decide +kernel) rfl rfl rfl (by decide +kernel)
set_option maxRecDepth 65536 in
theorem w_c6 : (Jvm.Cond.code ({ cls := "jdk/internal/util/Preconditions", name := "checkIndex", desc := "(IILjava/util/function/BiFunction;)I" } : Jvm.MethodName) jdk_41_method_11_code (3 : Nat) (Option.some Jvm.ClassFile.FieldType.int)).before args0 about1 = true := code_word (m := ⟨10, 1⟩) (meth := k10m1) (c := k10c1) (by decide +kernel) rfl rfl rfl (by decide +kernel)
def codes1 : List Jvm.Cond := [Jvm.Cond.code x code maxLocals ret, Jvm.Cond.code ({ cls := "com/example/catchment/catchment/registry/LineCheck", name := "digit", desc := "(I)I" } : Jvm.MethodName) prog_36_method_10_code (2 : Nat) (Option.some Jvm.ClassFile.FieldType.int), Jvm.Cond.code ({ cls := "java/lang/String", name := "charAt", desc := "(I)C" } : Jvm.MethodName) jdk_42_method_56_code (2 : Nat) (Option.some Jvm.ClassFile.FieldType.char), Jvm.Cond.code ({ cls := "java/lang/String", name := "isLatin1", desc := "()Z" } : Jvm.MethodName) jdk_42_method_154_code (1 : Nat) (Option.some Jvm.ClassFile.FieldType.boolean), Jvm.Cond.code ({ cls := "java/lang/StringLatin1", name := "charAt", desc := "([BI)C" } : Jvm.MethodName) jdk_43_method_2_code (2 : Nat) (Option.some Jvm.ClassFile.FieldType.char), Jvm.Cond.code ({ cls := "java/lang/String", name := "checkIndex", desc := "(II)V" } : Jvm.MethodName) jdk_42_method_155_code (2 : Nat) (Option.none : Option Jvm.ClassFile.FieldType), Jvm.Cond.code ({ cls := "jdk/internal/util/Preconditions", name := "checkIndex", desc := "(IILjava/util/function/BiFunction;)I" } : Jvm.MethodName) jdk_41_method_11_code (3 : Nat) (Option.some Jvm.ClassFile.FieldType.int)]
set_option maxRecDepth 65536 in
theorem codes_eq : words1.filter isCode = codes1 := rfl
theorem w_codes : ∀ c ∈ words1.filter isCode, c.before args0 about1 = true := by
  rw [codes_eq]
  intro c hc
  simp only [codes1, List.mem_cons, List.not_mem_nil, or_false] at hc
  rcases hc with rfl | rfl | rfl | rfl | rfl | rfl | rfl
  · exact w_c0
  · exact w_c1
  · exact w_c2
  · exact w_c3
  · exact w_c4
  · exact w_c5
  · exact w_c6
set_option maxRecDepth 65536 in
theorem w_t1 : (words1.take 24).all (fun c => isCode c || c.before args0 about1) = true := by decide +kernel
set_option maxRecDepth 65536 in
theorem w_t2 : (words1.drop 24).all (fun c => isCode c || c.before args0 about1) = true := by decide +kernel
theorem w_tables : (allAtoms (Jvm.Cond.code x code maxLocals ret :: tables_1)).before args0 about1 = true := by
  rw [allAtoms_all]
  show words1.all (fun c => c.before args0 about1) = true
  refine all_split ?_ w_codes
  rw [← List.take_append_drop 24 words1, List.all_append, w_t1, w_t2]
  rfl
set_option maxRecDepth 65536 in
theorem w_rest : rest_1_c.before args0 about1 = true := by decide +kernel
set_option maxRecDepth 65536 in
theorem w_case : (Jvm.Cond.and given_1 narrow_1).before args0 about1 = true := by decide +kernel
set_option maxRecDepth 65536 in
theorem w_consts : constsHeld consts_1 about1 := Jvm.Lit.constsHeldB_iff.mp (by decide +kernel)
theorem w_applies : (headSpec (Jvm.Cond.code x code maxLocals ret :: tables_1) room_1).applies x e0.platform about1 = true :=
  (Spec.applies_iff w_frames).mpr ⟨w_running, w_runnable, w_alone, w_named, w_hears, w_ripe, w_room, w_tables⟩
theorem atStart : AtStart classFile x code maxLocals ret World_1 tables_1 room_1 Calls_1 rest_1 Pre_1 launch0 p0 e0 about1 theMethod args0 below0 :=
  ⟨lists_1, trivial, launch0.admits_env _ _ _, launch0.least_env, fairChoices_fair.cas, fairChoices_fair.clock, w_frames, w_args, w_heap, w_applies, ⟨w_consts, trivial⟩, w_rest, w_case⟩
end start1
theorem witness_1 : WitnessClaimed_1 := ⟨start1.p0, start1.e0, start1.about1, start1.theMethod, start1.args0, start1.below0, start1.atStart⟩
end Jvm.Pilot.@@N@@
