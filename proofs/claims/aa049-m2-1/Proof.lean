import JvmDerived
import JvmDerived.Pilot.@@N@@Statement
import JvmDerived.Pilot.@@N@@Code
set_option linter.unusedVariables false
set_option linter.unusedSimpArgs false
namespace Jvm.RoadKit
open Sem ClassFile Op Lib Jvm.Stand Jvm.Free Jvm.LawKit
section New
variable {p : Program} {l : Launch} {e : Env} {R : Room} {s : State} {m : MethodId} {args : Array Value} {below : List Frame} {meth : Method} {c : Code} {T : State} {locs : List Loc} {cells slots : Nat}
theorem retI (X : Stand p l e R s m args below meth c T locs cells slots) (hx : p.tables.exec = Jvm.exec) {pc : Nat} {Ls : Array Slot} {z : Int32} {rest : List Value} (hret : meth.sig.returnType = some .int) (hd : decode c.code pc = .ok (.ireturn, 1)) {fs : List Frame}
    (hl : ∀ (f : JFrame) (acts : List Action), f.method = m → f.locked = none → f.entered = [] → (doReturn e (T.setTop f) acts (some (.int z))).1 = T.setFrames fs) : Steps p.tables e below (T.setTop (mkF m pc Ls (.int z :: rest))) (T.setFrames fs) := by
  have hm' : T.vm.method? m = some meth := X.method'
  have hn : narrow .int (.int z) = .int z := rfl
  show Steps p.tables e below (T.setTop { method := m, pc := pc, locals := Ls, stack := _ :: rest, locked := none }) _
  jvm_step X.here [X.here.top, hx, hd, hm', hret, hn]
  first | (intro acts; rw [hl _ acts rfl rfl rfl]) | rw [hl _ _ rfl rfl rfl]
  exact Steps.refl _
theorem own_lremM {g : JFrame} {target : State} (X : Stand p l e R s m args below meth c T locs cells slots) (hx : p.tables.exec = Jvm.exec) (hg : g.method = m) {x y : Int64} {rest : List Value} (hd : decode c.code g.pc = .ok (.lrem, 1)) (hs : g.stack = .long y :: .long x :: rest) (hy : y ≠ 0)
    (hr : Steps p.tables e below (T.setTop { g with pc := g.pc + 1, stack := .long (x % y) :: rest }) target) : Steps p.tables e below (T.setTop g) target := by
  have q : x - x / y * y = x % y := lrem_mod x y
  exact XS.lrem X.here hx hg hd hs hy (by rw [q]; exact hr)
theorem own_nz {z : Int32} (h : z = 0 ∨ z = 1) : nar .boolean z = z := by rcases h with rfl | rfl <;> rfl
theorem own_cat1 {v : Value} (h : v.isRef = true) : v.category = 1 := by rcases ref_cases h with rfl | ⟨a, rfl⟩ <;> rfl
end New
end Jvm.RoadKit
namespace Jvm.Pilot.@@N@@
open Jvm Jvm.ClassFile Sem Op Lib Jvm.Free Jvm.Stand Jvm.LawKit Jvm.RoadKit Bundle Jvm.Pilot.@@N@@.Jvm.D
theorem own_strAt : ∀ d ∈ Bundle.stringAtoms, d ∈ tables_1 := by decide +kernel
def own_tail (wsv ch : Int32) : Int64 := if wsv = (0 : Int32) then (if (32 : Int32) < ch then (1 : Int64) else (0 : Int64)) else (1 : Int64)
def own_w (wsv ch : Int32) : Int64 := if ch < (56320 : Int32) then own_tail wsv ch else (if (57343 : Int32) < ch then own_tail wsv ch else (0 : Int64))
def own_low (ch : Int32) : Int32 := if ch < (56320 : Int32) then (0 : Int32) else (if ch < (57344 : Int32) then (1 : Int32) else (0 : Int32))
def own_part (ch ix st ln wsv : Int32) : Int64 := if ix < st then (0 : Int64) else (if ix < (st + ln) then own_w wsv ch else (0 : Int64))
def own_sum (wsv : Int32) (chs : List Int32) : Nat → Nat → Int64
  | _, 0 => 0
  | i, k + 1 => own_w wsv (chs.getD i 0) + own_sum wsv chs (i + 1) k
theorem own_low01 (ch : Int32) : own_low ch = 0 ∨ own_low ch = 1 := by unfold own_low; (repeat' split) <;> simp
theorem own_low_w (ch : Int32) : (own_low ch = 0 → ∀ wsv, own_w wsv ch = own_tail wsv ch) ∧ (¬ own_low ch = 0 → ∀ wsv, own_w wsv ch = 0) := by
  have l1 : ch < 57344 ↔ ¬ (57343 : Int32) < ch := by
    rw [Int32.lt_iff_toInt_lt, Int32.lt_iff_toInt_lt]
    have e0 : (57344 : Int32).toInt = 57344 := rfl
    have e1 : (57343 : Int32).toInt = 57343 := rfl
    omega
  unfold own_low own_w
  by_cases h1 : ch < 56320
  · simp [h1]
  · by_cases h2 : (57343 : Int32) < ch
    · have h3 : ¬ ch < 57344 := fun q => l1.mp q h2
      simp [h1, h2, h3]
    · have h3 : ch < 57344 := l1.mpr h2
      simp [h1, h2, h3]
theorem own_getD (chs : List Int32) (i : Nat) : (chs.map Value.int).getD i (.int (0 : Int32)) = .int (chs.getD i 0) := by
  simp only [List.getD, List.getElem?_map]
  cases chs[i]? <;> rfl
theorem own_ofNat {n : Nat} (h : n < 2147483648) : (Int32.ofNat n).toInt = n := Int32.toInt_ofNat_small h
theorem own_clamp {n : Nat} (h : n < 2147483648) : (Int32.ofNat n).toNatClampNeg = n := by
  simp only [Int32.toNatClampNeg, own_ofNat h]; rfl
theorem own_law (wsv c0 c1 c2 c3 : Int32) (ns nl : Nat) (h : ns + nl ≤ 4) : own_sum wsv [c0, c1, c2, c3] ns nl = ((own_part c0 0 (Int32.ofNat ns) (Int32.ofNat nl) wsv + own_part c1 1 (Int32.ofNat ns) (Int32.ofNat nl) wsv) + own_part c2 2 (Int32.ofNat ns) (Int32.ofNat nl) wsv) + own_part c3 3 (Int32.ofNat ns) (Int32.ofNat nl) wsv := by
  have hs : ns = 0 ∨ ns = 1 ∨ ns = 2 ∨ ns = 3 ∨ ns = 4 := by omega
  have hl : nl = 0 ∨ nl = 1 ∨ nl = 2 ∨ nl = 3 ∨ nl = 4 := by omega
  unfold own_part
  rcases hs with rfl | rfl | rfl | rfl | rfl <;> rcases hl with rfl | rfl | rfl | rfl | rfl <;> first | (exfalso; omega) | (simp only [own_sum, List.getD_cons_zero, List.getD_cons_succ]; generalize own_w wsv c0 = w0; generalize own_w wsv c1 = w1; generalize own_w wsv c2 = w2; generalize own_w wsv c3 = w3; simp +decide [Int64.add_assoc])
theorem pd_4 : parseMethodDescriptor "(CIIIZ)J" = some ⟨[.char, .int, .int, .int, .boolean], some .long⟩ := by decide +kernel
theorem pd_3 : parseMethodDescriptor "([CII)J" = some ⟨[(.array .char), .int, .int], some .long⟩ := by decide +kernel
theorem pd_2 : parseMethodDescriptor "(JZLjava/lang/String;)V" = some ⟨[.long, .boolean, (.object "java/lang/String")], none⟩ := by decide +kernel
theorem dp8_m2_68 : decode prog_8_method_2_code 68 = .ok (.lreturn, 1) := by decide +kernel
theorem dp8_m2_66 : decode prog_8_method_2_code 66 = .ok (.lload 4, 2) := by decide +kernel
theorem dp8_m2_63 : decode prog_8_method_2_code 63 = .ok (.goto (-57), 3) := by decide +kernel
theorem dp8_m2_60 : decode prog_8_method_2_code 60 = .ok (.iinc 6 1, 3) := by decide +kernel
theorem dp8_m2_58 : decode prog_8_method_2_code 58 = .ok (.lstore 4, 2) := by decide +kernel
theorem dp8_m2_57 : decode prog_8_method_2_code 57 = .ok (.ladd, 1) := by decide +kernel
theorem dp8_m2_56 : decode prog_8_method_2_code 56 = .ok (.lconst 1, 1) := by decide +kernel
theorem dp8_m2_54 : decode prog_8_method_2_code 54 = .ok (.lload 4, 2) := by decide +kernel
theorem dp8_m2_51 : decode prog_8_method_2_code 51 = .ok (.ifCond .ne 9, 3) := by decide +kernel
theorem dp8_m2_49 : decode prog_8_method_2_code 49 = .ok (.iload 8, 2) := by decide +kernel
theorem dp8_m2_46 : decode prog_8_method_2_code 46 = .ok (.ifCond .ne 8, 3) := by decide +kernel
theorem dp8_m2_43 : decode prog_8_method_2_code 43 = .ok (.getfield 13, 3) := by decide +kernel
theorem dp8_m2_42 : decode prog_8_method_2_code 42 = .ok (.aload_n 0, 1) := by decide +kernel
theorem dp8_m2_39 : decode prog_8_method_2_code 39 = .ok (.ifCond .ne 21, 3) := by decide +kernel
theorem dp8_m2_36 : decode prog_8_method_2_code 36 = .ok (.invokestatic 21, 3) := by decide +kernel
theorem dp8_m2_34 : decode prog_8_method_2_code 34 = .ok (.iload 7, 2) := by decide +kernel
theorem os5_32 {z0 : Value} {z1 : Value} {z2 : Value} {z3 : Value} {z4 : Value} {z6 : Value} {z7 : Value} {z8 : Slot} {v : Int32} (h : One z8) : storeLocals #[.val z0, .val z1, .val z2, .val z3, .val z4, .second, .val z6, .val z7, z8] 8 (.int v) = some #[.val z0, .val z1, .val z2, .val z3, .val z4, .second, .val z6, .val z7, .val (.int v)] := by
  rcases h with rfl | ⟨w, rfl, hw⟩
  · rfl
  · cases w <;> first | rfl | (simp [Value.category] at hw)
theorem dp8_m2_32 : decode prog_8_method_2_code 32 = .ok (.istore 8, 2) := by decide +kernel
theorem dp8_m2_28 : decode prog_8_method_2_code 28 = .ok (.goto 4, 3) := by decide +kernel
theorem dp8_m2_27 : decode prog_8_method_2_code 27 = .ok (.iconst 1, 1) := by decide +kernel
theorem dp8_m2_31 : decode prog_8_method_2_code 31 = .ok (.iconst 0, 1) := by decide +kernel
theorem dp8_m2_24 : decode prog_8_method_2_code 24 = .ok (.if_icmp .gt 7, 3) := by decide +kernel
theorem dp8_m2_22 : decode prog_8_method_2_code 22 = .ok (.bipush 32, 2) := by decide +kernel
theorem dp8_m2_20 : decode prog_8_method_2_code 20 = .ok (.iload 7, 2) := by decide +kernel
theorem os5_18 {z0 : Value} {z1 : Value} {z2 : Value} {z3 : Value} {z4 : Value} {z6 : Value} {z7 : Slot} {z8 : Slot} {v : Int32} (h : One z7) : storeLocals #[.val z0, .val z1, .val z2, .val z3, .val z4, .second, .val z6, z7, z8] 7 (.int v) = some #[.val z0, .val z1, .val z2, .val z3, .val z4, .second, .val z6, .val (.int v), z8] := by
  rcases h with rfl | ⟨w, rfl, hw⟩
  · rfl
  · cases w <;> first | rfl | (simp [Value.category] at hw)
theorem dp8_m2_18 : decode prog_8_method_2_code 18 = .ok (.istore 7, 2) := by decide +kernel
theorem dp8_m2_17 : decode prog_8_method_2_code 17 = .ok (.caload, 1) := by decide +kernel
theorem dp8_m2_15 : decode prog_8_method_2_code 15 = .ok (.iload 6, 2) := by decide +kernel
theorem dp8_m2_14 : decode prog_8_method_2_code 14 = .ok (.aload_n 1, 1) := by decide +kernel
theorem dp8_m2_11 : decode prog_8_method_2_code 11 = .ok (.if_icmp .ge 55, 3) := by decide +kernel
theorem dp8_m2_10 : decode prog_8_method_2_code 10 = .ok (.iadd, 1) := by decide +kernel
theorem dp8_m2_9 : decode prog_8_method_2_code 9 = .ok (.iload_n 3, 1) := by decide +kernel
theorem dp8_m2_8 : decode prog_8_method_2_code 8 = .ok (.iload_n 2, 1) := by decide +kernel
theorem dp8_m2_6 : decode prog_8_method_2_code 6 = .ok (.iload 6, 2) := by decide +kernel
theorem dp8_m2_4 : decode prog_8_method_2_code 4 = .ok (.istore 6, 2) := by decide +kernel
theorem dp8_m2_3 : decode prog_8_method_2_code 3 = .ok (.iload_n 2, 1) := by decide +kernel
theorem dp8_m2_1 : decode prog_8_method_2_code 1 = .ok (.lstore 4, 2) := by decide +kernel
theorem dp8_m2_0 : decode prog_8_method_2_code 0 = .ok (.lconst 0, 1) := by decide +kernel
theorem pd_1 : parseMethodDescriptor "(C)Z" = some ⟨[.char], some .boolean⟩ := by decide +kernel
theorem dp8_m1_20 : decode prog_8_method_1_code 20 = .ok (.return_, 1) := by decide +kernel
theorem dp8_m1_17 : decode prog_8_method_1_code 17 = .ok (.putfield 17, 3) := by decide +kernel
theorem dp8_m1_15 : decode prog_8_method_1_code 15 = .ok (.aload 4, 2) := by decide +kernel
theorem dp8_m1_14 : decode prog_8_method_1_code 14 = .ok (.aload_n 0, 1) := by decide +kernel
theorem dp8_m1_11 : decode prog_8_method_1_code 11 = .ok (.putfield 13, 3) := by decide +kernel
theorem dp8_m1_10 : decode prog_8_method_1_code 10 = .ok (.iload_n 3, 1) := by decide +kernel
theorem dp8_m1_9 : decode prog_8_method_1_code 9 = .ok (.aload_n 0, 1) := by decide +kernel
theorem dp8_m1_6 : decode prog_8_method_1_code 6 = .ok (.putfield 7, 3) := by decide +kernel
theorem dp8_m1_5 : decode prog_8_method_1_code 5 = .ok (.lload_n 1, 1) := by decide +kernel
theorem dp8_m1_4 : decode prog_8_method_1_code 4 = .ok (.aload_n 0, 1) := by decide +kernel
theorem dp8_m1_1 : decode prog_8_method_1_code 1 = .ok (.invokespecial 1, 3) := by decide +kernel
theorem dp8_m1_0 : decode prog_8_method_1_code 0 = .ok (.aload_n 0, 1) := by decide +kernel
theorem pd_0 : parseMethodDescriptor "()V" = some ⟨[], none⟩ := by decide +kernel
theorem pn_3 : plainName "com/example/westford/westford/ColumnType$TextLimit" = true := by first | (simp [plainName, overriddenIn]; done) | decide +kernel
theorem djdk_30_m1_4 : decode jdk_30_method_1_code 4 = .ok (.return_, 1) := by decide +kernel
theorem djdk_30_m1_1 : decode jdk_30_method_1_code 1 = .ok (.invokespecial 1, 3) := by decide +kernel
theorem djdk_30_m1_0 : decode jdk_30_method_1_code 0 = .ok (.aload_n 0, 1) := by decide +kernel
theorem pn_2 : plainName "java/lang/Record" = true := by first | (simp [plainName, overriddenIn]; done) | decide +kernel
theorem dm3_27 : decode method_3_code 27 = .ok (.lreturn, 1) := by decide +kernel
theorem dm3_26 : decode method_3_code 26 = .ok (.lconst 0, 1) := by decide +kernel
theorem dm3_23 : decode method_3_code 23 = .ok (.if_icmp .gt 5, 3) := by decide +kernel
theorem dm3_21 : decode method_3_code 21 = .ok (.ldc 27, 2) := by decide +kernel
theorem dm3_20 : decode method_3_code 20 = .ok (.iload_n 0, 1) := by decide +kernel
theorem dm3_40 : decode method_3_code 40 = .ok (.lreturn, 1) := by decide +kernel
theorem dm3_39 : decode method_3_code 39 = .ok (.lconst 0, 1) := by decide +kernel
theorem dm3_42 : decode method_3_code 42 = .ok (.lreturn, 1) := by decide +kernel
theorem dm3_41 : decode method_3_code 41 = .ok (.lconst 1, 1) := by decide +kernel
theorem dm3_36 : decode method_3_code 36 = .ok (.if_icmp .gt 5, 3) := by decide +kernel
theorem dm3_34 : decode method_3_code 34 = .ok (.bipush 32, 2) := by decide +kernel
theorem dm3_33 : decode method_3_code 33 = .ok (.iload_n 0, 1) := by decide +kernel
theorem dm3_30 : decode method_3_code 30 = .ok (.ifCond .ne 11, 3) := by decide +kernel
theorem dm3_28 : decode method_3_code 28 = .ok (.iload 4, 2) := by decide +kernel
theorem dm3_17 : decode method_3_code 17 = .ok (.if_icmp .lt 11, 3) := by decide +kernel
theorem dm3_15 : decode method_3_code 15 = .ok (.ldc 26, 2) := by decide +kernel
theorem dm3_14 : decode method_3_code 14 = .ok (.iload_n 0, 1) := by decide +kernel
theorem dm3_9 : decode method_3_code 9 = .ok (.if_icmp .lt 5, 3) := by decide +kernel
theorem dm3_8 : decode method_3_code 8 = .ok (.iadd, 1) := by decide +kernel
theorem dm3_7 : decode method_3_code 7 = .ok (.iload_n 3, 1) := by decide +kernel
theorem dm3_6 : decode method_3_code 6 = .ok (.iload_n 2, 1) := by decide +kernel
theorem dm3_5 : decode method_3_code 5 = .ok (.iload_n 1, 1) := by decide +kernel
theorem dm3_13 : decode method_3_code 13 = .ok (.lreturn, 1) := by decide +kernel
theorem dm3_12 : decode method_3_code 12 = .ok (.lconst 0, 1) := by decide +kernel
theorem dm3_2 : decode method_3_code 2 = .ok (.if_icmp .lt 10, 3) := by decide +kernel
theorem dm3_1 : decode method_3_code 1 = .ok (.iload_n 2, 1) := by decide +kernel
theorem dm3_0 : decode method_3_code 0 = .ok (.iload_n 1, 1) := by decide +kernel
theorem pn_1 : plainName "com/example/westford/westford/TextLimitCountedPinLaw" = true := by first | (simp [plainName, overriddenIn]; done) | decide +kernel
theorem djdk_89_m15_17 : decode jdk_89_method_15_code 17 = .ok (.ireturn, 1) := by decide +kernel
theorem djdk_89_m15_13 : decode jdk_89_method_15_code 13 = .ok (.goto 4, 3) := by decide +kernel
theorem djdk_89_m15_12 : decode jdk_89_method_15_code 12 = .ok (.iconst 1, 1) := by decide +kernel
theorem djdk_89_m15_9 : decode jdk_89_method_15_code 9 = .ok (.if_icmp .ge 7, 3) := by decide +kernel
theorem djdk_89_m15_7 : decode jdk_89_method_15_code 7 = .ok (.ldc 77, 2) := by decide +kernel
theorem djdk_89_m15_6 : decode jdk_89_method_15_code 6 = .ok (.iload_n 0, 1) := by decide +kernel
theorem djdk_89_m15_16 : decode jdk_89_method_15_code 16 = .ok (.iconst 0, 1) := by decide +kernel
theorem djdk_89_m15_3 : decode jdk_89_method_15_code 3 = .ok (.if_icmp .lt 13, 3) := by decide +kernel
theorem djdk_89_m15_1 : decode jdk_89_method_15_code 1 = .ok (.ldc 76, 2) := by decide +kernel
theorem djdk_89_m15_0 : decode jdk_89_method_15_code 0 = .ok (.iload_n 0, 1) := by decide +kernel
theorem pn_0 : plainName "java/lang/Character" = true := by first | (simp [plainName, overriddenIn]; done) | decide +kernel
theorem ef_1 (m : MethodId) (x0 : Int32) : entryFrame m #[(.int x0)] 1 = mkF m 0 #[.val (.int x0)] [] := by first | (simp [entryFrame, mkF, argsToLocals, Value.category]; done) | rfl
def Q1 (Z : State) (ch : Int32) (h0 : Heap) (n0 : Nat) (v : Option Value) (h : Heap) (L : List Loc) : Prop := v = some (.int (own_low ch)) ∧ Fr n0 L ∧ h = h0
set_option maxRecDepth 65536 in
set_option maxHeartbeats 40000000 in
theorem rm1 (l : Launch) (Z : State) (a0 : Array Value) (hw : ∀ d ∈ tables_1, d.before a0 Z = true) (ws : List Jvm.Cond) (ch : Int32) (h0 : Heap) (n0 : Nat) (Z0 : n0 ≤ h0.size)  :
    MetFree l (⟨"java/lang/Character", "isLowSurrogate", "(C)Z"⟩ : MethodName) (head1 (Jvm.Cond.code (⟨"java/lang/Character", "isLowSurrogate", "(C)Z"⟩ : MethodName) jdk_89_method_15_code 1 (some .boolean) :: ws) ({ frames := 0, cells := 0, slots := 0, locals := 0 } : Room)) (fun A_ U => A_ = #[(.int ch)] ∧ Z.Warmed39 U.vm ∧ U.heap = h0) (fun _ _ _ _ _ => True) (fun _ U o U' => ∃ v L, o = .returned v ∧ Q1 Z ch h0 n0 v U'.heap L ∧ FrameEnd U o U' L ({ frames := 0, cells := 0, slots := 0, locals := 0 } : Room).cells ({ frames := 0, cells := 0, slots := 0, locals := 0 } : Room).slots) := by
  refine MetFree.of_bodySF (plainFor_of_name pn_0) hisR ?_
  intro p e s m args below meth c s₁ Bd hml0 hP hK
  obtain ⟨rfl, hZ, hh⟩ := hP
  have hx := Bd.exec
  have hby := Bd.bytes
  have hml : c.maxLocals = 1 := hml0
  have hown : s.vm.findClass "java/lang/Character" = some m.cls := findClass_of_methodNamed Bd.named
  have hnm := (name_of_methodNamed Bd.named Bd.method).1
  have X0 : Stand p l e ({ frames := 0, cells := 0, slots := 0, locals := 0 } : Room) s m #[(.int ch)] below meth c s₁ [] 0 0 := Stand.of_body Bd
  have e0 : s₁.heap = h0 := by rw [← hh, Bd.state]; rfl
  have N0 := Fr.nil n0
  have k0 : ∀ t, Steps p.tables e below (s₁.setTop (mkF m 0 #[.val (.int ch)] [])) t → Steps p.tables e below (s₁.setTop (entryFrame m #[(.int ch)] 1)) t := fun t k => castTop (ef_1 m ch) k
  obtain ⟨r, eq_r⟩ : ∃ z : Int32, z = (if ch < (56320 : Int32) then (0 : Int32) else (if ch < (57344 : Int32) then (1 : Int32) else (0 : Int32))) := ⟨_, rfl⟩
  have k3 : ∀ t, Steps p.tables e below (s₁.setTop (mkF m 17 #[.val (.int ch)] [(.int r)])) t → Steps p.tables e below (s₁.setTop (entryFrame m #[(.int ch)] 1)) t := by
    intro t k
    refine k0 _ ?_
    show Steps p.tables e below (s₁.setTop (mkF m 0 #[.val (.int ch)] [])) _
    refine XS.iloadN X0.here hx rfl (hb hby djdk_89_m15_0) rfl ?_
    show Steps p.tables e below (s₁.setTop (mkF m 1 #[.val (.int ch)] [(.int ch)])) _
    refine X0.ldcInt hx hown (mvT hZ (hw _ (List.mem_of_getElem? (i := 43) rfl))) (g := (mkF m 1 #[.val (.int ch)] [(.int ch)])) rfl (hb hby djdk_89_m15_1) _ ?_
    show Steps p.tables e below (s₁.setTop (mkF m 3 #[.val (.int ch)] [(.int (56320 : Int32)), (.int ch)])) _
    by_cases hc1_3 : ch < (56320 : Int32)
    · rw [show r = (0 : Int32) by rw [eq_r, if_pos hc1_3]] at k
      show Steps p.tables e below (s₁.setTop (mkF m 3 #[.val (.int ch)] [(.int (56320 : Int32)), (.int ch)])) _
      refine XS.icmpYes X0.here hx rfl (pc0 := 3) (pc' := 16) rfl (hb hby djdk_89_m15_3) rfl (tlt hc1_3).1 (by decide) (by decide) ?_
      show Steps p.tables e below (s₁.setTop (mkF m 16 #[.val (.int ch)] [])) _
      refine XS.iconst X0.here hx rfl (hb hby djdk_89_m15_16) ?_
      show Steps p.tables e below (s₁.setTop (mkF m 17 #[.val (.int ch)] [(.int (0 : Int32))])) _
      exact k
    · show Steps p.tables e below (s₁.setTop (mkF m 3 #[.val (.int ch)] [(.int (56320 : Int32)), (.int ch)])) _
      refine XS.icmpNo X0.here hx rfl (hb hby djdk_89_m15_3) rfl (flt hc1_3).1 ?_
      show Steps p.tables e below (s₁.setTop (mkF m 6 #[.val (.int ch)] [])) _
      refine XS.iloadN X0.here hx rfl (hb hby djdk_89_m15_6) rfl ?_
      show Steps p.tables e below (s₁.setTop (mkF m 7 #[.val (.int ch)] [(.int ch)])) _
      refine X0.ldcInt hx hown (mvT hZ (hw _ (List.mem_of_getElem? (i := 45) rfl))) (g := (mkF m 7 #[.val (.int ch)] [(.int ch)])) rfl (hb hby djdk_89_m15_7) _ ?_
      show Steps p.tables e below (s₁.setTop (mkF m 9 #[.val (.int ch)] [(.int (57344 : Int32)), (.int ch)])) _
      by_cases hc2_9 : ch < (57344 : Int32)
      · rw [show r = (1 : Int32) by rw [eq_r, if_neg hc1_3, if_pos hc2_9]] at k
        show Steps p.tables e below (s₁.setTop (mkF m 9 #[.val (.int ch)] [(.int (57344 : Int32)), (.int ch)])) _
        refine XS.icmpNo X0.here hx rfl (hb hby djdk_89_m15_9) rfl (tlt hc2_9).2.1 ?_
        show Steps p.tables e below (s₁.setTop (mkF m 12 #[.val (.int ch)] [])) _
        refine XS.iconst X0.here hx rfl (hb hby djdk_89_m15_12) ?_
        show Steps p.tables e below (s₁.setTop (mkF m 13 #[.val (.int ch)] [(.int (1 : Int32))])) _
        refine XS.goto X0.here hx rfl (pc0 := 13) (pc' := 17) rfl (hb hby djdk_89_m15_13) (by decide) (by decide) ?_
        show Steps p.tables e below (s₁.setTop (mkF m 17 #[.val (.int ch)] [(.int (1 : Int32))])) _
        exact k
      · rw [show r = (0 : Int32) by rw [eq_r, if_neg hc1_3, if_neg hc2_9]] at k
        show Steps p.tables e below (s₁.setTop (mkF m 9 #[.val (.int ch)] [(.int (57344 : Int32)), (.int ch)])) _
        refine XS.icmpYes X0.here hx rfl (pc0 := 9) (pc' := 16) rfl (hb hby djdk_89_m15_9) rfl (flt hc2_9).2.1 (by decide) (by decide) ?_
        show Steps p.tables e below (s₁.setTop (mkF m 16 #[.val (.int ch)] [])) _
        refine XS.iconst X0.here hx rfl (hb hby djdk_89_m15_16) ?_
        show Steps p.tables e below (s₁.setTop (mkF m 17 #[.val (.int ch)] [(.int (0 : Int32))])) _
        exact k
  have hnar : nar .boolean r = (own_low ch) := by rw [show r = own_low ch from eq_r]; exact own_nz (own_low01 ch)
  obtain ⟨fs, hr, hrun, hended, hW, hsame⟩ := X0.leave (v := some (.int (own_low ch))) (fun h => by rw [Bd.returns] at h; cases h)
  refine ⟨_, _, k3 _ ?_, hrun, hended, _, _, rfl, ?_, ⟨_, rfl⟩, hW, hsame.mono (Nat.le_of_ble_eq_true rfl) (Nat.le_of_ble_eq_true rfl)⟩
  · exact retN X0 hx (t := .boolean) Bd.returns (by simp) (hb hby djdk_89_m15_17) (fun f acts q1 q2 q3 => by rw [hnar]; exact hr f acts q1 q2 q3)
  · show Q1 Z ch h0 n0 _ s₁.heap _
    rw [e0]
    exact ⟨rfl, N0, rfl⟩
theorem ef_2 (m : MethodId) (x0 : Int32) (x1 : Int32) (x2 : Int32) (x3 : Int32) (x4 : Int32) : entryFrame m #[(.int x0), (.int x1), (.int x2), (.int x3), (.int x4)] 5 = mkF m 0 #[.val (.int x0), .val (.int x1), .val (.int x2), .val (.int x3), .val (.int x4)] [] := by first | (simp [entryFrame, mkF, argsToLocals, Value.category]; done) | rfl
def Q2 (Z : State) (ch : Int32) (ix : Int32) (st : Int32) (ln : Int32) (wsv : Int32) (h0 : Heap) (n0 : Nat) (v : Option Value) (h : Heap) (L : List Loc) : Prop := v = some (.long (own_part ch ix st ln wsv)) ∧ Fr n0 L ∧ h = h0
set_option maxRecDepth 65536 in
set_option maxHeartbeats 40000000 in
theorem rm2 (l : Launch) (Z : State) (a0 : Array Value) (hw : ∀ d ∈ tables_1, d.before a0 Z = true) (ws : List Jvm.Cond) (ch : Int32) (ix : Int32) (st : Int32) (ln : Int32) (wsv : Int32) (h0 : Heap) (n0 : Nat) (Z0 : n0 ≤ h0.size)  :
    MetFree l (⟨"com/example/westford/westford/TextLimitCountedPinLaw", "part", "(CIIIZ)J"⟩ : MethodName) (head1 (Jvm.Cond.code (⟨"com/example/westford/westford/TextLimitCountedPinLaw", "part", "(CIIIZ)J"⟩ : MethodName) method_3_code 5 (some .long) :: ws) ({ frames := 0, cells := 0, slots := 0, locals := 0 } : Room)) (fun A_ U => A_ = #[(.int ch), (.int ix), (.int st), (.int ln), (.int wsv)] ∧ Z.Warmed39 U.vm ∧ U.heap = h0) (fun _ _ _ _ _ => True) (fun _ U o U' => ∃ v L, o = .returned v ∧ Q2 Z ch ix st ln wsv h0 n0 v U'.heap L ∧ FrameEnd U o U' L ({ frames := 0, cells := 0, slots := 0, locals := 0 } : Room).cells ({ frames := 0, cells := 0, slots := 0, locals := 0 } : Room).slots) := by
  refine MetFree.of_bodySF (plainFor_of_name pn_1) hisR ?_
  intro p e s m args below meth c s₁ Bd hml0 hP hK
  obtain ⟨rfl, hZ, hh⟩ := hP
  have hx := Bd.exec
  have hby := Bd.bytes
  have hml : c.maxLocals = 5 := hml0
  have hown : s.vm.findClass "com/example/westford/westford/TextLimitCountedPinLaw" = some m.cls := findClass_of_methodNamed Bd.named
  have hnm := (name_of_methodNamed Bd.named Bd.method).1
  have X0 : Stand p l e ({ frames := 0, cells := 0, slots := 0, locals := 0 } : Room) s m #[(.int ch), (.int ix), (.int st), (.int ln), (.int wsv)] below meth c s₁ [] 0 0 := Stand.of_body Bd
  have e0 : s₁.heap = h0 := by rw [← hh, Bd.state]; rfl
  have N0 := Fr.nil n0
  have k0 : ∀ t, Steps p.tables e below (s₁.setTop (mkF m 0 #[.val (.int ch), .val (.int ix), .val (.int st), .val (.int ln), .val (.int wsv)] [])) t → Steps p.tables e below (s₁.setTop (entryFrame m #[(.int ch), (.int ix), (.int st), (.int ln), (.int wsv)] 5)) t := fun t k => castTop (ef_2 m ch ix st ln wsv) k
  have k1 : ∀ t, Steps p.tables e below (s₁.setTop (mkF m 2 #[.val (.int ch), .val (.int ix), .val (.int st), .val (.int ln), .val (.int wsv)] [(.int st), (.int ix)])) t → Steps p.tables e below (s₁.setTop (entryFrame m #[(.int ch), (.int ix), (.int st), (.int ln), (.int wsv)] 5)) t := by
    intro t k
    refine k0 _ ?_
    show Steps p.tables e below (s₁.setTop (mkF m 0 #[.val (.int ch), .val (.int ix), .val (.int st), .val (.int ln), .val (.int wsv)] [])) _
    refine XS.iloadN X0.here hx rfl (hb hby dm3_0) rfl ?_
    show Steps p.tables e below (s₁.setTop (mkF m 1 #[.val (.int ch), .val (.int ix), .val (.int st), .val (.int ln), .val (.int wsv)] [(.int ix)])) _
    refine XS.iloadN X0.here hx rfl (hb hby dm3_1) rfl ?_
    show Steps p.tables e below (s₁.setTop (mkF m 2 #[.val (.int ch), .val (.int ix), .val (.int st), .val (.int ln), .val (.int wsv)] [(.int st), (.int ix)])) _
    exact k
  by_cases h1 : ix < st
  · have k2 : ∀ t, Steps p.tables e below (s₁.setTop (mkF m 13 #[.val (.int ch), .val (.int ix), .val (.int st), .val (.int ln), .val (.int wsv)] [(.long (0 : Int64))])) t → Steps p.tables e below (s₁.setTop (entryFrame m #[(.int ch), (.int ix), (.int st), (.int ln), (.int wsv)] 5)) t := by
      intro t k
      refine k1 _ ?_
      show Steps p.tables e below (s₁.setTop (mkF m 2 #[.val (.int ch), .val (.int ix), .val (.int st), .val (.int ln), .val (.int wsv)] [(.int st), (.int ix)])) _
      refine XS.icmpYes X0.here hx rfl (pc0 := 2) (pc' := 12) rfl (hb hby dm3_2) rfl (tlt h1).1 (by decide) (by decide) ?_
      show Steps p.tables e below (s₁.setTop (mkF m 12 #[.val (.int ch), .val (.int ix), .val (.int st), .val (.int ln), .val (.int wsv)] [])) _
      refine XS.lconst X0.here hx rfl (hb hby dm3_12) ?_
      show Steps p.tables e below (s₁.setTop (mkF m 13 #[.val (.int ch), .val (.int ix), .val (.int st), .val (.int ln), .val (.int wsv)] [(.long (0 : Int64))])) _
      exact k
    obtain ⟨fs, hr, hrun, hended, hW, hsame⟩ := X0.leave (v := some (.long (0 : Int64))) (fun h => by rw [Bd.returns] at h; cases h)
    refine ⟨_, _, k2 _ ?_, hrun, hended, _, _, rfl, ?_, ⟨_, rfl⟩, hW, hsame.mono (Nat.le_of_ble_eq_true rfl) (Nat.le_of_ble_eq_true rfl)⟩
    · exact retOut X0 hx Bd.returns rfl (Or.inr (Or.inl ⟨rfl, rfl, _, rfl⟩)) (hb hby dm3_13) hr
    · show Q2 Z ch ix st ln wsv h0 n0 _ s₁.heap _
      rw [e0]
      exact ⟨by simp [own_part, own_w, own_tail, h1], N0, rfl⟩
  · have k3 : ∀ t, Steps p.tables e below (s₁.setTop (mkF m 9 #[.val (.int ch), .val (.int ix), .val (.int st), .val (.int ln), .val (.int wsv)] [(.int (st + ln)), (.int ix)])) t → Steps p.tables e below (s₁.setTop (entryFrame m #[(.int ch), (.int ix), (.int st), (.int ln), (.int wsv)] 5)) t := by
      intro t k
      refine k1 _ ?_
      show Steps p.tables e below (s₁.setTop (mkF m 2 #[.val (.int ch), .val (.int ix), .val (.int st), .val (.int ln), .val (.int wsv)] [(.int st), (.int ix)])) _
      refine XS.icmpNo X0.here hx rfl (hb hby dm3_2) rfl (flt h1).1 ?_
      show Steps p.tables e below (s₁.setTop (mkF m 5 #[.val (.int ch), .val (.int ix), .val (.int st), .val (.int ln), .val (.int wsv)] [])) _
      refine XS.iloadN X0.here hx rfl (hb hby dm3_5) rfl ?_
      show Steps p.tables e below (s₁.setTop (mkF m 6 #[.val (.int ch), .val (.int ix), .val (.int st), .val (.int ln), .val (.int wsv)] [(.int ix)])) _
      refine XS.iloadN X0.here hx rfl (hb hby dm3_6) rfl ?_
      show Steps p.tables e below (s₁.setTop (mkF m 7 #[.val (.int ch), .val (.int ix), .val (.int st), .val (.int ln), .val (.int wsv)] [(.int st), (.int ix)])) _
      refine XS.iloadN X0.here hx rfl (hb hby dm3_7) rfl ?_
      show Steps p.tables e below (s₁.setTop (mkF m 8 #[.val (.int ch), .val (.int ix), .val (.int st), .val (.int ln), .val (.int wsv)] [(.int ln), (.int st), (.int ix)])) _
      refine XS.iadd X0.here hx rfl (hb hby dm3_8) rfl ?_
      show Steps p.tables e below (s₁.setTop (mkF m 9 #[.val (.int ch), .val (.int ix), .val (.int st), .val (.int ln), .val (.int wsv)] [(.int (st + ln)), (.int ix)])) _
      exact k
    by_cases h2 : ix < (st + ln)
    · have k4 : ∀ t, Steps p.tables e below (s₁.setTop (mkF m 17 #[.val (.int ch), .val (.int ix), .val (.int st), .val (.int ln), .val (.int wsv)] [(.int (56320 : Int32)), (.int ch)])) t → Steps p.tables e below (s₁.setTop (entryFrame m #[(.int ch), (.int ix), (.int st), (.int ln), (.int wsv)] 5)) t := by
        intro t k
        refine k3 _ ?_
        show Steps p.tables e below (s₁.setTop (mkF m 9 #[.val (.int ch), .val (.int ix), .val (.int st), .val (.int ln), .val (.int wsv)] [(.int (st + ln)), (.int ix)])) _
        refine XS.icmpYes X0.here hx rfl (pc0 := 9) (pc' := 14) rfl (hb hby dm3_9) rfl (tlt h2).1 (by decide) (by decide) ?_
        show Steps p.tables e below (s₁.setTop (mkF m 14 #[.val (.int ch), .val (.int ix), .val (.int st), .val (.int ln), .val (.int wsv)] [])) _
        refine XS.iloadN X0.here hx rfl (hb hby dm3_14) rfl ?_
        show Steps p.tables e below (s₁.setTop (mkF m 15 #[.val (.int ch), .val (.int ix), .val (.int st), .val (.int ln), .val (.int wsv)] [(.int ch)])) _
        refine X0.ldcInt hx hown (mvT hZ (hw _ (List.mem_of_getElem? (i := 44) rfl))) (g := (mkF m 15 #[.val (.int ch), .val (.int ix), .val (.int st), .val (.int ln), .val (.int wsv)] [(.int ch)])) rfl (hb hby dm3_15) _ ?_
        show Steps p.tables e below (s₁.setTop (mkF m 17 #[.val (.int ch), .val (.int ix), .val (.int st), .val (.int ln), .val (.int wsv)] [(.int (56320 : Int32)), (.int ch)])) _
        exact k
      by_cases h3 : ch < (56320 : Int32)
      · have k5 : ∀ t, Steps p.tables e below (s₁.setTop (mkF m 30 #[.val (.int ch), .val (.int ix), .val (.int st), .val (.int ln), .val (.int wsv)] [(.int wsv)])) t → Steps p.tables e below (s₁.setTop (entryFrame m #[(.int ch), (.int ix), (.int st), (.int ln), (.int wsv)] 5)) t := by
          intro t k
          refine k4 _ ?_
          show Steps p.tables e below (s₁.setTop (mkF m 17 #[.val (.int ch), .val (.int ix), .val (.int st), .val (.int ln), .val (.int wsv)] [(.int (56320 : Int32)), (.int ch)])) _
          refine XS.icmpYes X0.here hx rfl (pc0 := 17) (pc' := 28) rfl (hb hby dm3_17) rfl (tlt h3).1 (by decide) (by decide) ?_
          show Steps p.tables e below (s₁.setTop (mkF m 28 #[.val (.int ch), .val (.int ix), .val (.int st), .val (.int ln), .val (.int wsv)] [])) _
          refine XS.iload X0.here hx rfl (hb hby dm3_28) rfl ?_
          show Steps p.tables e below (s₁.setTop (mkF m 30 #[.val (.int ch), .val (.int ix), .val (.int st), .val (.int ln), .val (.int wsv)] [(.int wsv)])) _
          exact k
        by_cases h5 : wsv = (0 : Int32)
        · have k6 : ∀ t, Steps p.tables e below (s₁.setTop (mkF m 36 #[.val (.int ch), .val (.int ix), .val (.int st), .val (.int ln), .val (.int wsv)] [(.int (32 : Int32)), (.int ch)])) t → Steps p.tables e below (s₁.setTop (entryFrame m #[(.int ch), (.int ix), (.int st), (.int ln), (.int wsv)] 5)) t := by
            intro t k
            refine k5 _ ?_
            show Steps p.tables e below (s₁.setTop (mkF m 30 #[.val (.int ch), .val (.int ix), .val (.int st), .val (.int ln), .val (.int wsv)] [(.int wsv)])) _
            refine XS.ifNo X0.here hx rfl (hb hby dm3_30) rfl ((if0 _ _).trans (teq h5).2) ?_
            show Steps p.tables e below (s₁.setTop (mkF m 33 #[.val (.int ch), .val (.int ix), .val (.int st), .val (.int ln), .val (.int wsv)] [])) _
            refine XS.iloadN X0.here hx rfl (hb hby dm3_33) rfl ?_
            show Steps p.tables e below (s₁.setTop (mkF m 34 #[.val (.int ch), .val (.int ix), .val (.int st), .val (.int ln), .val (.int wsv)] [(.int ch)])) _
            refine XS.bipush X0.here hx rfl (hb hby dm3_34) ?_
            show Steps p.tables e below (s₁.setTop (mkF m 36 #[.val (.int ch), .val (.int ix), .val (.int st), .val (.int ln), .val (.int wsv)] [(.int (32 : Int32)), (.int ch)])) _
            exact k
          by_cases h6 : (32 : Int32) < ch
          · have k7 : ∀ t, Steps p.tables e below (s₁.setTop (mkF m 42 #[.val (.int ch), .val (.int ix), .val (.int st), .val (.int ln), .val (.int wsv)] [(.long (1 : Int64))])) t → Steps p.tables e below (s₁.setTop (entryFrame m #[(.int ch), (.int ix), (.int st), (.int ln), (.int wsv)] 5)) t := by
              intro t k
              refine k6 _ ?_
              show Steps p.tables e below (s₁.setTop (mkF m 36 #[.val (.int ch), .val (.int ix), .val (.int st), .val (.int ln), .val (.int wsv)] [(.int (32 : Int32)), (.int ch)])) _
              refine XS.icmpYes X0.here hx rfl (pc0 := 36) (pc' := 41) rfl (hb hby dm3_36) rfl (tlt h6).2.2.1 (by decide) (by decide) ?_
              show Steps p.tables e below (s₁.setTop (mkF m 41 #[.val (.int ch), .val (.int ix), .val (.int st), .val (.int ln), .val (.int wsv)] [])) _
              refine XS.lconst X0.here hx rfl (hb hby dm3_41) ?_
              show Steps p.tables e below (s₁.setTop (mkF m 42 #[.val (.int ch), .val (.int ix), .val (.int st), .val (.int ln), .val (.int wsv)] [(.long (1 : Int64))])) _
              exact k
            obtain ⟨fs, hr, hrun, hended, hW, hsame⟩ := X0.leave (v := some (.long (1 : Int64))) (fun h => by rw [Bd.returns] at h; cases h)
            refine ⟨_, _, k7 _ ?_, hrun, hended, _, _, rfl, ?_, ⟨_, rfl⟩, hW, hsame.mono (Nat.le_of_ble_eq_true rfl) (Nat.le_of_ble_eq_true rfl)⟩
            · exact retOut X0 hx Bd.returns rfl (Or.inr (Or.inl ⟨rfl, rfl, _, rfl⟩)) (hb hby dm3_42) hr
            · show Q2 Z ch ix st ln wsv h0 n0 _ s₁.heap _
              rw [e0]
              exact ⟨by simp [own_part, own_w, own_tail, h1, h2, h3, h5, h6], N0, rfl⟩
          · have k8 : ∀ t, Steps p.tables e below (s₁.setTop (mkF m 40 #[.val (.int ch), .val (.int ix), .val (.int st), .val (.int ln), .val (.int wsv)] [(.long (0 : Int64))])) t → Steps p.tables e below (s₁.setTop (entryFrame m #[(.int ch), (.int ix), (.int st), (.int ln), (.int wsv)] 5)) t := by
              intro t k
              refine k6 _ ?_
              show Steps p.tables e below (s₁.setTop (mkF m 36 #[.val (.int ch), .val (.int ix), .val (.int st), .val (.int ln), .val (.int wsv)] [(.int (32 : Int32)), (.int ch)])) _
              refine XS.icmpNo X0.here hx rfl (hb hby dm3_36) rfl (flt h6).2.2.1 ?_
              show Steps p.tables e below (s₁.setTop (mkF m 39 #[.val (.int ch), .val (.int ix), .val (.int st), .val (.int ln), .val (.int wsv)] [])) _
              refine XS.lconst X0.here hx rfl (hb hby dm3_39) ?_
              show Steps p.tables e below (s₁.setTop (mkF m 40 #[.val (.int ch), .val (.int ix), .val (.int st), .val (.int ln), .val (.int wsv)] [(.long (0 : Int64))])) _
              exact k
            obtain ⟨fs, hr, hrun, hended, hW, hsame⟩ := X0.leave (v := some (.long (0 : Int64))) (fun h => by rw [Bd.returns] at h; cases h)
            refine ⟨_, _, k8 _ ?_, hrun, hended, _, _, rfl, ?_, ⟨_, rfl⟩, hW, hsame.mono (Nat.le_of_ble_eq_true rfl) (Nat.le_of_ble_eq_true rfl)⟩
            · exact retOut X0 hx Bd.returns rfl (Or.inr (Or.inl ⟨rfl, rfl, _, rfl⟩)) (hb hby dm3_40) hr
            · show Q2 Z ch ix st ln wsv h0 n0 _ s₁.heap _
              rw [e0]
              exact ⟨by simp [own_part, own_w, own_tail, h1, h2, h3, h5, h6], N0, rfl⟩
        · have k9 : ∀ t, Steps p.tables e below (s₁.setTop (mkF m 42 #[.val (.int ch), .val (.int ix), .val (.int st), .val (.int ln), .val (.int wsv)] [(.long (1 : Int64))])) t → Steps p.tables e below (s₁.setTop (entryFrame m #[(.int ch), (.int ix), (.int st), (.int ln), (.int wsv)] 5)) t := by
            intro t k
            refine k5 _ ?_
            show Steps p.tables e below (s₁.setTop (mkF m 30 #[.val (.int ch), .val (.int ix), .val (.int st), .val (.int ln), .val (.int wsv)] [(.int wsv)])) _
            refine XS.ifYes X0.here hx rfl (pc0 := 30) (pc' := 41) rfl (hb hby dm3_30) rfl ((if0 _ _).trans (feq h5).2) (by decide) (by decide) ?_
            show Steps p.tables e below (s₁.setTop (mkF m 41 #[.val (.int ch), .val (.int ix), .val (.int st), .val (.int ln), .val (.int wsv)] [])) _
            refine XS.lconst X0.here hx rfl (hb hby dm3_41) ?_
            show Steps p.tables e below (s₁.setTop (mkF m 42 #[.val (.int ch), .val (.int ix), .val (.int st), .val (.int ln), .val (.int wsv)] [(.long (1 : Int64))])) _
            exact k
          obtain ⟨fs, hr, hrun, hended, hW, hsame⟩ := X0.leave (v := some (.long (1 : Int64))) (fun h => by rw [Bd.returns] at h; cases h)
          refine ⟨_, _, k9 _ ?_, hrun, hended, _, _, rfl, ?_, ⟨_, rfl⟩, hW, hsame.mono (Nat.le_of_ble_eq_true rfl) (Nat.le_of_ble_eq_true rfl)⟩
          · exact retOut X0 hx Bd.returns rfl (Or.inr (Or.inl ⟨rfl, rfl, _, rfl⟩)) (hb hby dm3_42) hr
          · show Q2 Z ch ix st ln wsv h0 n0 _ s₁.heap _
            rw [e0]
            exact ⟨by simp [own_part, own_w, own_tail, h1, h2, h3, h5], N0, rfl⟩
      · have k10 : ∀ t, Steps p.tables e below (s₁.setTop (mkF m 23 #[.val (.int ch), .val (.int ix), .val (.int st), .val (.int ln), .val (.int wsv)] [(.int (57343 : Int32)), (.int ch)])) t → Steps p.tables e below (s₁.setTop (entryFrame m #[(.int ch), (.int ix), (.int st), (.int ln), (.int wsv)] 5)) t := by
          intro t k
          refine k4 _ ?_
          show Steps p.tables e below (s₁.setTop (mkF m 17 #[.val (.int ch), .val (.int ix), .val (.int st), .val (.int ln), .val (.int wsv)] [(.int (56320 : Int32)), (.int ch)])) _
          refine XS.icmpNo X0.here hx rfl (hb hby dm3_17) rfl (flt h3).1 ?_
          show Steps p.tables e below (s₁.setTop (mkF m 20 #[.val (.int ch), .val (.int ix), .val (.int st), .val (.int ln), .val (.int wsv)] [])) _
          refine XS.iloadN X0.here hx rfl (hb hby dm3_20) rfl ?_
          show Steps p.tables e below (s₁.setTop (mkF m 21 #[.val (.int ch), .val (.int ix), .val (.int st), .val (.int ln), .val (.int wsv)] [(.int ch)])) _
          refine X0.ldcInt hx hown (mvT hZ (hw _ (List.mem_of_getElem? (i := 46) rfl))) (g := (mkF m 21 #[.val (.int ch), .val (.int ix), .val (.int st), .val (.int ln), .val (.int wsv)] [(.int ch)])) rfl (hb hby dm3_21) _ ?_
          show Steps p.tables e below (s₁.setTop (mkF m 23 #[.val (.int ch), .val (.int ix), .val (.int st), .val (.int ln), .val (.int wsv)] [(.int (57343 : Int32)), (.int ch)])) _
          exact k
        by_cases h4 : (57343 : Int32) < ch
        · have k11 : ∀ t, Steps p.tables e below (s₁.setTop (mkF m 30 #[.val (.int ch), .val (.int ix), .val (.int st), .val (.int ln), .val (.int wsv)] [(.int wsv)])) t → Steps p.tables e below (s₁.setTop (entryFrame m #[(.int ch), (.int ix), (.int st), (.int ln), (.int wsv)] 5)) t := by
            intro t k
            refine k10 _ ?_
            show Steps p.tables e below (s₁.setTop (mkF m 23 #[.val (.int ch), .val (.int ix), .val (.int st), .val (.int ln), .val (.int wsv)] [(.int (57343 : Int32)), (.int ch)])) _
            refine XS.icmpYes X0.here hx rfl (pc0 := 23) (pc' := 28) rfl (hb hby dm3_23) rfl (tlt h4).2.2.1 (by decide) (by decide) ?_
            show Steps p.tables e below (s₁.setTop (mkF m 28 #[.val (.int ch), .val (.int ix), .val (.int st), .val (.int ln), .val (.int wsv)] [])) _
            refine XS.iload X0.here hx rfl (hb hby dm3_28) rfl ?_
            show Steps p.tables e below (s₁.setTop (mkF m 30 #[.val (.int ch), .val (.int ix), .val (.int st), .val (.int ln), .val (.int wsv)] [(.int wsv)])) _
            exact k
          by_cases h5 : wsv = (0 : Int32)
          · have k12 : ∀ t, Steps p.tables e below (s₁.setTop (mkF m 36 #[.val (.int ch), .val (.int ix), .val (.int st), .val (.int ln), .val (.int wsv)] [(.int (32 : Int32)), (.int ch)])) t → Steps p.tables e below (s₁.setTop (entryFrame m #[(.int ch), (.int ix), (.int st), (.int ln), (.int wsv)] 5)) t := by
              intro t k
              refine k11 _ ?_
              show Steps p.tables e below (s₁.setTop (mkF m 30 #[.val (.int ch), .val (.int ix), .val (.int st), .val (.int ln), .val (.int wsv)] [(.int wsv)])) _
              refine XS.ifNo X0.here hx rfl (hb hby dm3_30) rfl ((if0 _ _).trans (teq h5).2) ?_
              show Steps p.tables e below (s₁.setTop (mkF m 33 #[.val (.int ch), .val (.int ix), .val (.int st), .val (.int ln), .val (.int wsv)] [])) _
              refine XS.iloadN X0.here hx rfl (hb hby dm3_33) rfl ?_
              show Steps p.tables e below (s₁.setTop (mkF m 34 #[.val (.int ch), .val (.int ix), .val (.int st), .val (.int ln), .val (.int wsv)] [(.int ch)])) _
              refine XS.bipush X0.here hx rfl (hb hby dm3_34) ?_
              show Steps p.tables e below (s₁.setTop (mkF m 36 #[.val (.int ch), .val (.int ix), .val (.int st), .val (.int ln), .val (.int wsv)] [(.int (32 : Int32)), (.int ch)])) _
              exact k
            by_cases h6 : (32 : Int32) < ch
            · have k13 : ∀ t, Steps p.tables e below (s₁.setTop (mkF m 42 #[.val (.int ch), .val (.int ix), .val (.int st), .val (.int ln), .val (.int wsv)] [(.long (1 : Int64))])) t → Steps p.tables e below (s₁.setTop (entryFrame m #[(.int ch), (.int ix), (.int st), (.int ln), (.int wsv)] 5)) t := by
                intro t k
                refine k12 _ ?_
                show Steps p.tables e below (s₁.setTop (mkF m 36 #[.val (.int ch), .val (.int ix), .val (.int st), .val (.int ln), .val (.int wsv)] [(.int (32 : Int32)), (.int ch)])) _
                refine XS.icmpYes X0.here hx rfl (pc0 := 36) (pc' := 41) rfl (hb hby dm3_36) rfl (tlt h6).2.2.1 (by decide) (by decide) ?_
                show Steps p.tables e below (s₁.setTop (mkF m 41 #[.val (.int ch), .val (.int ix), .val (.int st), .val (.int ln), .val (.int wsv)] [])) _
                refine XS.lconst X0.here hx rfl (hb hby dm3_41) ?_
                show Steps p.tables e below (s₁.setTop (mkF m 42 #[.val (.int ch), .val (.int ix), .val (.int st), .val (.int ln), .val (.int wsv)] [(.long (1 : Int64))])) _
                exact k
              obtain ⟨fs, hr, hrun, hended, hW, hsame⟩ := X0.leave (v := some (.long (1 : Int64))) (fun h => by rw [Bd.returns] at h; cases h)
              refine ⟨_, _, k13 _ ?_, hrun, hended, _, _, rfl, ?_, ⟨_, rfl⟩, hW, hsame.mono (Nat.le_of_ble_eq_true rfl) (Nat.le_of_ble_eq_true rfl)⟩
              · exact retOut X0 hx Bd.returns rfl (Or.inr (Or.inl ⟨rfl, rfl, _, rfl⟩)) (hb hby dm3_42) hr
              · show Q2 Z ch ix st ln wsv h0 n0 _ s₁.heap _
                rw [e0]
                exact ⟨by simp [own_part, own_w, own_tail, h1, h2, h3, h4, h5, h6], N0, rfl⟩
            · have k14 : ∀ t, Steps p.tables e below (s₁.setTop (mkF m 40 #[.val (.int ch), .val (.int ix), .val (.int st), .val (.int ln), .val (.int wsv)] [(.long (0 : Int64))])) t → Steps p.tables e below (s₁.setTop (entryFrame m #[(.int ch), (.int ix), (.int st), (.int ln), (.int wsv)] 5)) t := by
                intro t k
                refine k12 _ ?_
                show Steps p.tables e below (s₁.setTop (mkF m 36 #[.val (.int ch), .val (.int ix), .val (.int st), .val (.int ln), .val (.int wsv)] [(.int (32 : Int32)), (.int ch)])) _
                refine XS.icmpNo X0.here hx rfl (hb hby dm3_36) rfl (flt h6).2.2.1 ?_
                show Steps p.tables e below (s₁.setTop (mkF m 39 #[.val (.int ch), .val (.int ix), .val (.int st), .val (.int ln), .val (.int wsv)] [])) _
                refine XS.lconst X0.here hx rfl (hb hby dm3_39) ?_
                show Steps p.tables e below (s₁.setTop (mkF m 40 #[.val (.int ch), .val (.int ix), .val (.int st), .val (.int ln), .val (.int wsv)] [(.long (0 : Int64))])) _
                exact k
              obtain ⟨fs, hr, hrun, hended, hW, hsame⟩ := X0.leave (v := some (.long (0 : Int64))) (fun h => by rw [Bd.returns] at h; cases h)
              refine ⟨_, _, k14 _ ?_, hrun, hended, _, _, rfl, ?_, ⟨_, rfl⟩, hW, hsame.mono (Nat.le_of_ble_eq_true rfl) (Nat.le_of_ble_eq_true rfl)⟩
              · exact retOut X0 hx Bd.returns rfl (Or.inr (Or.inl ⟨rfl, rfl, _, rfl⟩)) (hb hby dm3_40) hr
              · show Q2 Z ch ix st ln wsv h0 n0 _ s₁.heap _
                rw [e0]
                exact ⟨by simp [own_part, own_w, own_tail, h1, h2, h3, h4, h5, h6], N0, rfl⟩
          · have k15 : ∀ t, Steps p.tables e below (s₁.setTop (mkF m 42 #[.val (.int ch), .val (.int ix), .val (.int st), .val (.int ln), .val (.int wsv)] [(.long (1 : Int64))])) t → Steps p.tables e below (s₁.setTop (entryFrame m #[(.int ch), (.int ix), (.int st), (.int ln), (.int wsv)] 5)) t := by
              intro t k
              refine k11 _ ?_
              show Steps p.tables e below (s₁.setTop (mkF m 30 #[.val (.int ch), .val (.int ix), .val (.int st), .val (.int ln), .val (.int wsv)] [(.int wsv)])) _
              refine XS.ifYes X0.here hx rfl (pc0 := 30) (pc' := 41) rfl (hb hby dm3_30) rfl ((if0 _ _).trans (feq h5).2) (by decide) (by decide) ?_
              show Steps p.tables e below (s₁.setTop (mkF m 41 #[.val (.int ch), .val (.int ix), .val (.int st), .val (.int ln), .val (.int wsv)] [])) _
              refine XS.lconst X0.here hx rfl (hb hby dm3_41) ?_
              show Steps p.tables e below (s₁.setTop (mkF m 42 #[.val (.int ch), .val (.int ix), .val (.int st), .val (.int ln), .val (.int wsv)] [(.long (1 : Int64))])) _
              exact k
            obtain ⟨fs, hr, hrun, hended, hW, hsame⟩ := X0.leave (v := some (.long (1 : Int64))) (fun h => by rw [Bd.returns] at h; cases h)
            refine ⟨_, _, k15 _ ?_, hrun, hended, _, _, rfl, ?_, ⟨_, rfl⟩, hW, hsame.mono (Nat.le_of_ble_eq_true rfl) (Nat.le_of_ble_eq_true rfl)⟩
            · exact retOut X0 hx Bd.returns rfl (Or.inr (Or.inl ⟨rfl, rfl, _, rfl⟩)) (hb hby dm3_42) hr
            · show Q2 Z ch ix st ln wsv h0 n0 _ s₁.heap _
              rw [e0]
              exact ⟨by simp [own_part, own_w, own_tail, h1, h2, h3, h4, h5], N0, rfl⟩
        · have k16 : ∀ t, Steps p.tables e below (s₁.setTop (mkF m 27 #[.val (.int ch), .val (.int ix), .val (.int st), .val (.int ln), .val (.int wsv)] [(.long (0 : Int64))])) t → Steps p.tables e below (s₁.setTop (entryFrame m #[(.int ch), (.int ix), (.int st), (.int ln), (.int wsv)] 5)) t := by
            intro t k
            refine k10 _ ?_
            show Steps p.tables e below (s₁.setTop (mkF m 23 #[.val (.int ch), .val (.int ix), .val (.int st), .val (.int ln), .val (.int wsv)] [(.int (57343 : Int32)), (.int ch)])) _
            refine XS.icmpNo X0.here hx rfl (hb hby dm3_23) rfl (flt h4).2.2.1 ?_
            show Steps p.tables e below (s₁.setTop (mkF m 26 #[.val (.int ch), .val (.int ix), .val (.int st), .val (.int ln), .val (.int wsv)] [])) _
            refine XS.lconst X0.here hx rfl (hb hby dm3_26) ?_
            show Steps p.tables e below (s₁.setTop (mkF m 27 #[.val (.int ch), .val (.int ix), .val (.int st), .val (.int ln), .val (.int wsv)] [(.long (0 : Int64))])) _
            exact k
          obtain ⟨fs, hr, hrun, hended, hW, hsame⟩ := X0.leave (v := some (.long (0 : Int64))) (fun h => by rw [Bd.returns] at h; cases h)
          refine ⟨_, _, k16 _ ?_, hrun, hended, _, _, rfl, ?_, ⟨_, rfl⟩, hW, hsame.mono (Nat.le_of_ble_eq_true rfl) (Nat.le_of_ble_eq_true rfl)⟩
          · exact retOut X0 hx Bd.returns rfl (Or.inr (Or.inl ⟨rfl, rfl, _, rfl⟩)) (hb hby dm3_27) hr
          · show Q2 Z ch ix st ln wsv h0 n0 _ s₁.heap _
            rw [e0]
            exact ⟨by simp [own_part, own_w, own_tail, h1, h2, h3, h4], N0, rfl⟩
    · have k17 : ∀ t, Steps p.tables e below (s₁.setTop (mkF m 13 #[.val (.int ch), .val (.int ix), .val (.int st), .val (.int ln), .val (.int wsv)] [(.long (0 : Int64))])) t → Steps p.tables e below (s₁.setTop (entryFrame m #[(.int ch), (.int ix), (.int st), (.int ln), (.int wsv)] 5)) t := by
        intro t k
        refine k3 _ ?_
        show Steps p.tables e below (s₁.setTop (mkF m 9 #[.val (.int ch), .val (.int ix), .val (.int st), .val (.int ln), .val (.int wsv)] [(.int (st + ln)), (.int ix)])) _
        refine XS.icmpNo X0.here hx rfl (hb hby dm3_9) rfl (flt h2).1 ?_
        show Steps p.tables e below (s₁.setTop (mkF m 12 #[.val (.int ch), .val (.int ix), .val (.int st), .val (.int ln), .val (.int wsv)] [])) _
        refine XS.lconst X0.here hx rfl (hb hby dm3_12) ?_
        show Steps p.tables e below (s₁.setTop (mkF m 13 #[.val (.int ch), .val (.int ix), .val (.int st), .val (.int ln), .val (.int wsv)] [(.long (0 : Int64))])) _
        exact k
      obtain ⟨fs, hr, hrun, hended, hW, hsame⟩ := X0.leave (v := some (.long (0 : Int64))) (fun h => by rw [Bd.returns] at h; cases h)
      refine ⟨_, _, k17 _ ?_, hrun, hended, _, _, rfl, ?_, ⟨_, rfl⟩, hW, hsame.mono (Nat.le_of_ble_eq_true rfl) (Nat.le_of_ble_eq_true rfl)⟩
      · exact retOut X0 hx Bd.returns rfl (Or.inr (Or.inl ⟨rfl, rfl, _, rfl⟩)) (hb hby dm3_13) hr
      · show Q2 Z ch ix st ln wsv h0 n0 _ s₁.heap _
        rw [e0]
        exact ⟨by simp [own_part, own_w, own_tail, h1, h2], N0, rfl⟩
theorem ef_3 (m : MethodId) (x0 : Addr) : entryFrame m #[(.ref x0)] 1 = mkF m 0 #[.val (.ref x0)] [] := by first | (simp [entryFrame, mkF, argsToLocals, Value.category]; done) | rfl
def Q3 (Z : State) (a : Addr) (h0 : Heap) (n0 : Nat) (v : Option Value) (h : Heap) (L : List Loc) : Prop := v = none ∧ Fr n0 L ∧ h = h0
set_option maxRecDepth 65536 in
set_option maxHeartbeats 40000000 in
theorem rm3 (l : Launch) (Z : State) (a0 : Array Value) (hw : ∀ d ∈ tables_1, d.before a0 Z = true) (ws : List Jvm.Cond) (a : Addr) (h0 : Heap) (n0 : Nat) (Z0 : n0 ≤ h0.size)  :
    MetFree l (⟨"java/lang/Record", "<init>", "()V"⟩ : MethodName) (head1 (Jvm.Cond.code (⟨"java/lang/Record", "<init>", "()V"⟩ : MethodName) jdk_30_method_1_code 1 none :: ws) ({ frames := 1, cells := 0, slots := 0, locals := 12 } : Room)) (fun A_ U => A_ = #[(.ref a)] ∧ Z.Warmed39 U.vm ∧ U.heap = h0) (fun _ _ _ _ _ => True) (fun _ U o U' => ∃ v L, o = .returned v ∧ Q3 Z a h0 n0 v U'.heap L ∧ FrameEnd U o U' L ({ frames := 1, cells := 0, slots := 0, locals := 12 } : Room).cells ({ frames := 1, cells := 0, slots := 0, locals := 12 } : Room).slots) := by
  refine MetFree.of_bodySF (plainFor_of_name pn_2) hisR ?_
  intro p e s m args below meth c s₁ Bd hml0 hP hK
  obtain ⟨rfl, hZ, hh⟩ := hP
  have hx := Bd.exec
  have hby := Bd.bytes
  have hml : c.maxLocals = 1 := hml0
  have hown : s.vm.findClass "java/lang/Record" = some m.cls := findClass_of_methodNamed Bd.named
  have hnm := (name_of_methodNamed Bd.named Bd.method).1
  have X0 : Stand p l e ({ frames := 1, cells := 0, slots := 0, locals := 12 } : Room) s m #[(.ref a)] below meth c s₁ [] 0 0 := Stand.of_body Bd
  have e0 : s₁.heap = h0 := by rw [← hh, Bd.state]; rfl
  have N0 := Fr.nil n0
  have k0 : ∀ t, Steps p.tables e below (s₁.setTop (mkF m 0 #[.val (.ref a)] [])) t → Steps p.tables e below (s₁.setTop (entryFrame m #[(.ref a)] 1)) t := fun t k => castTop (ef_3 m a) k
  have k1 : ∀ t, Steps p.tables e below (s₁.setTop (mkF m 1 #[.val (.ref a)] [(.ref a)])) t → Steps p.tables e below (s₁.setTop (entryFrame m #[(.ref a)] 1)) t := by
    intro t k
    refine k0 _ ?_
    show Steps p.tables e below (s₁.setTop (mkF m 0 #[.val (.ref a)] [])) _
    refine XS.aloadN X0.here hx rfl (hb hby djdk_30_m1_0) rfl rfl ?_
    show Steps p.tables e below (s₁.setTop (mkF m 1 #[.val (.ref a)] [(.ref a)])) _
    exact k
  obtain ⟨T2, X2, e2, st2⟩ := initO X0 hx hZ hown (hw _ (List.mem_of_getElem? (i := 21) rfl)) (hw _ (List.mem_of_getElem? (i := 22) rfl)) (hw _ (List.mem_of_getElem? (i := 23) rfl)) e0 (g := (mkF m 1 #[.val (.ref a)] [(.ref a)])) rfl (by rw [hml]; rfl) rfl (hb hby djdk_30_m1_1) (by decide) (W := 0) (by show 2 * 0 + _ ≤ _; exact Nat.le_of_eq rfl) (by decide)
  have k2 : ∀ t, Steps p.tables e below (T2.setTop (mkF m 4 #[.val (.ref a)] [])) t → Steps p.tables e below (s₁.setTop (entryFrame m #[(.ref a)] 1)) t := fun t k => k1 t (st2 _ k)
  obtain ⟨fs, hr, hrun, hended, hW, hsame⟩ := X2.leave (v := none) (fun h => rfl)
  refine ⟨_, _, k2 _ ?_, hrun, hended, _, _, rfl, ?_, ⟨_, rfl⟩, hW, hsame.mono (Nat.le_of_ble_eq_true rfl) (Nat.le_of_ble_eq_true rfl)⟩
  · exact X2.returnOut hx Bd.returns (hb hby djdk_30_m1_4) hr
  · show Q3 Z a h0 n0 _ T2.heap _
    rw [e2]
    exact ⟨rfl, N0, rfl⟩
theorem ef_4 (m : MethodId) (x0 : Addr) (x1 : Int64) (x2 : Int32) (x3 : Addr) : entryFrame m #[(.ref x0), (.long x1), (.int x2), (.ref x3)] 5 = mkF m 0 #[.val (.ref x0), .val (.long x1), .second, .val (.int x2), .val (.ref x3)] [] := by first | (simp [entryFrame, mkF, argsToLocals, Value.category]; done) | rfl
def Q4 (Z : State) (a : Addr) (mo : Int64) (wsv : Int32) (sa : Addr) (h0 : Heap) (n0 : Nat) (v : Option Value) (h : Heap) (L : List Loc) : Prop := v = none ∧ Fr n0 L ∧ Keep h0 h [a] ∧ Fld Z h a "com/example/westford/westford/ColumnType$TextLimit" "whiteSpace" "Z" (.int (nar .boolean wsv))
set_option maxRecDepth 65536 in
set_option maxHeartbeats 40000000 in
theorem rm4 (l : Launch) (Z : State) (a0 : Array Value) (hw : ∀ d ∈ tables_1, d.before a0 Z = true) (ws : List Jvm.Cond) (a : Addr) (mo : Int64) (wsv : Int32) (sa : Addr) (h0 : Heap) (n0 : Nat) (Z0 : n0 ≤ h0.size) (EE : Exa Z h0 a "com/example/westford/westford/ColumnType$TextLimit") (ga : n0 ≤ a) (F1 : Fld Z h0 a "com/example/westford/westford/ColumnType$TextLimit" "most" "J" (.long (0 : Int64))) (F2 : Fld Z h0 a "com/example/westford/westford/ColumnType$TextLimit" "whiteSpace" "Z" (.int (0 : Int32))) (F3 : Fld Z h0 a "com/example/westford/westford/ColumnType$TextLimit" "refusal" "Ljava/lang/String;" .null) :
    MetFree l (⟨"com/example/westford/westford/ColumnType$TextLimit", "<init>", "(JZLjava/lang/String;)V"⟩ : MethodName) (head1 (Jvm.Cond.code (⟨"com/example/westford/westford/ColumnType$TextLimit", "<init>", "(JZLjava/lang/String;)V"⟩ : MethodName) prog_8_method_1_code 5 none :: ws) ({ frames := 2, cells := 0, slots := 0, locals := 24 } : Room)) (fun A_ U => A_ = #[(.ref a), (.long mo), (.int wsv), (.ref sa)] ∧ Z.Warmed39 U.vm ∧ U.heap = h0) (fun _ _ _ _ _ => True) (fun _ U o U' => ∃ v L, o = .returned v ∧ Q4 Z a mo wsv sa h0 n0 v U'.heap L ∧ FrameEnd U o U' L ({ frames := 2, cells := 0, slots := 0, locals := 24 } : Room).cells ({ frames := 2, cells := 0, slots := 0, locals := 24 } : Room).slots) := by
  refine MetFree.of_bodySF (plainFor_of_name pn_3) hisR ?_
  intro p e s m args below meth c s₁ Bd hml0 hP hK
  obtain ⟨rfl, hZ, hh⟩ := hP
  have hx := Bd.exec
  have hby := Bd.bytes
  have hml : c.maxLocals = 5 := hml0
  have hown : s.vm.findClass "com/example/westford/westford/ColumnType$TextLimit" = some m.cls := findClass_of_methodNamed Bd.named
  have hnm := (name_of_methodNamed Bd.named Bd.method).1
  have X0 : Stand p l e ({ frames := 2, cells := 0, slots := 0, locals := 24 } : Room) s m #[(.ref a), (.long mo), (.int wsv), (.ref sa)] below meth c s₁ [] 0 0 := Stand.of_body Bd
  have e0 : s₁.heap = h0 := by rw [← hh, Bd.state]; rfl
  have N0 := Fr.nil n0
  have k0 : ∀ t, Steps p.tables e below (s₁.setTop (mkF m 0 #[.val (.ref a), .val (.long mo), .second, .val (.int wsv), .val (.ref sa)] [])) t → Steps p.tables e below (s₁.setTop (entryFrame m #[(.ref a), (.long mo), (.int wsv), (.ref sa)] 5)) t := fun t k => castTop (ef_4 m a mo wsv sa) k
  have k1 : ∀ t, Steps p.tables e below (s₁.setTop (mkF m 1 #[.val (.ref a), .val (.long mo), .second, .val (.int wsv), .val (.ref sa)] [(.ref a)])) t → Steps p.tables e below (s₁.setTop (entryFrame m #[(.ref a), (.long mo), (.int wsv), (.ref sa)] 5)) t := by
    intro t k
    refine k0 _ ?_
    show Steps p.tables e below (s₁.setTop (mkF m 0 #[.val (.ref a), .val (.long mo), .second, .val (.int wsv), .val (.ref sa)] [])) _
    refine XS.aloadN X0.here hx rfl (hb hby dp8_m1_0) rfl rfl ?_
    show Steps p.tables e below (s₁.setTop (mkF m 1 #[.val (.ref a), .val (.long mo), .second, .val (.int wsv), .val (.ref sa)] [(.ref a)])) _
    exact k
  obtain ⟨_, _, ⟨T2, L2, ck2, nk2⟩, -, X2, ⟨Lc2, hQ2, l2, y2, z2⟩, st2⟩ := X0.specialBack hx (y := (⟨"java/lang/Record", "<init>", "()V"⟩ : MethodName)) rfl hown (mvT hZ (hw _ (List.mem_of_getElem? (i := 16) rfl))) (mvT hZ (hw _ (List.mem_of_getElem? (i := 17) rfl))) (mvT hZ (hw _ (List.mem_of_getElem? (i := 20) rfl))) (by decide) (backOf (W := 0) (rm3 l Z a0 hw [] a h0 n0 Z0) hZ (hw _ (List.mem_of_getElem? (i := 20) rfl)) (hw _ (List.mem_of_getElem? (i := 19) rfl)) (by decide) (by decide)) (g := (mkF m 1 #[.val (.ref a), .val (.long mo), .second, .val (.int wsv), .val (.ref sa)] [(.ref a)])) rfl (by rw [hml]; rfl) (Steps.refl _) (a := a) (argsL := []) (rest := []) (lenOf pd_0 rfl) rfl (by show 2 * 0 + _ ≤ _; exact Nat.le_of_eq rfl) (hb hby dp8_m1_1) (fun _ _ => ⟨rfl, e0, (by decide : 0 + 0 ≤ _), (by decide : 0 + 0 ≤ _)⟩)
  dsimp only [Pt.U, Pt.locs, Pt.cells, Pt.slots] at X2 l2 y2 z2 st2 hQ2
  subst l2 y2 z2
  obtain ⟨rfl, N2q, e2⟩ := hQ2
  have N2 := Fr.app N0 N2q
  have k2 : ∀ t, Steps p.tables e below (T2.setTop (mkF m 4 #[.val (.ref a), .val (.long mo), .second, .val (.int wsv), .val (.ref sa)] [])) t → Steps p.tables e below (s₁.setTop (entryFrame m #[(.ref a), (.long mo), (.int wsv), (.ref sa)] 5)) t := fun t k => k1 t (st2.trans k)
  have k3 : ∀ t, Steps p.tables e below (T2.setTop (mkF m 6 #[.val (.ref a), .val (.long mo), .second, .val (.int wsv), .val (.ref sa)] [(.long mo), (.ref a)])) t → Steps p.tables e below (s₁.setTop (entryFrame m #[(.ref a), (.long mo), (.int wsv), (.ref sa)] 5)) t := by
    intro t k
    refine k2 _ ?_
    show Steps p.tables e below (T2.setTop (mkF m 4 #[.val (.ref a), .val (.long mo), .second, .val (.int wsv), .val (.ref sa)] [])) _
    refine XS.aloadN X2.here hx rfl (hb hby dp8_m1_4) rfl rfl ?_
    show Steps p.tables e below (T2.setTop (mkF m 5 #[.val (.ref a), .val (.long mo), .second, .val (.int wsv), .val (.ref sa)] [(.ref a)])) _
    refine XS.lloadN X2.here hx rfl (hb hby dp8_m1_5) rfl ?_
    show Steps p.tables e below (T2.setTop (mkF m 6 #[.val (.ref a), .val (.long mo), .second, .val (.int wsv), .val (.ref sa)] [(.long mo), (.ref a)])) _
    exact k
  obtain ⟨T4, h4, X4, e4, W4, st4⟩ := putF X2 hx hZ hown (host := "") (Or.inl (hw _ (List.mem_of_getElem? (i := 24) rfl))) Via.refl e2 F1 EE (Or.inr ⟨(hw _ (List.mem_of_getElem? (i := 25) rfl)), rfl, hnm⟩) (hw _ (List.mem_of_getElem? (i := 3) rfl)) (ty := .long) (by decide) rfl rfl (g := (mkF m 6 #[.val (.ref a), .val (.long mo), .second, .val (.int wsv), .val (.ref sa)] [(.long mo), (.ref a)])) rfl rfl (hb hby dp8_m1_6)
  have N4 := Fr.snoc X4 N2 ga
  have Fw4 := F1.same W4
  have k4 : ∀ t, Steps p.tables e below (T4.setTop (mkF m 9 #[.val (.ref a), .val (.long mo), .second, .val (.int wsv), .val (.ref sa)] [])) t → Steps p.tables e below (s₁.setTop (entryFrame m #[(.ref a), (.long mo), (.int wsv), (.ref sa)] 5)) t := fun t k => k3 t (st4 _ k)
  have Z5 : n0 ≤ h4.size := Nat.le_trans Z0 (Keep.of_wr W4).1
  have k6 : ∀ t, Steps p.tables e below (T4.setTop (mkF m 11 #[.val (.ref a), .val (.long mo), .second, .val (.int wsv), .val (.ref sa)] [(.int wsv), (.ref a)])) t → Steps p.tables e below (s₁.setTop (entryFrame m #[(.ref a), (.long mo), (.int wsv), (.ref sa)] 5)) t := by
    intro t k
    refine k4 _ ?_
    show Steps p.tables e below (T4.setTop (mkF m 9 #[.val (.ref a), .val (.long mo), .second, .val (.int wsv), .val (.ref sa)] [])) _
    refine XS.aloadN X4.here hx rfl (hb hby dp8_m1_9) rfl rfl ?_
    show Steps p.tables e below (T4.setTop (mkF m 10 #[.val (.ref a), .val (.long mo), .second, .val (.int wsv), .val (.ref sa)] [(.ref a)])) _
    refine XS.iloadN X4.here hx rfl (hb hby dp8_m1_10) rfl ?_
    show Steps p.tables e below (T4.setTop (mkF m 11 #[.val (.ref a), .val (.long mo), .second, .val (.int wsv), .val (.ref sa)] [(.int wsv), (.ref a)])) _
    exact k
  have f8 := (F2.other W4 (Or.inr (slot_ne (Or.inr (hw _ (List.mem_of_getElem? (i := 27) rfl))) (Or.inr (hw _ (List.mem_of_getElem? (i := 25) rfl))) (by decide) (t := .boolean) (t' := .long) (by decide) (by decide))))
  have f9 := (EE.wr W4)
  obtain ⟨T7, h7, X7, e7, W7, st7⟩ := putFN X4 hx hZ hown (hw _ (List.mem_of_getElem? (i := 26) rfl)) Via.refl e4 f8 f9 (Or.inr ⟨(hw _ (List.mem_of_getElem? (i := 27) rfl)), rfl, hnm⟩) (hw _ (List.mem_of_getElem? (i := 3) rfl)) (ty := .boolean) (v' := (.int (nar .boolean wsv))) (by decide) rfl (fits_nar_bool _) (g := (mkF m 11 #[.val (.ref a), .val (.long mo), .second, .val (.int wsv), .val (.ref sa)] [(.int wsv), (.ref a)])) rfl rfl (hb hby dp8_m1_11)
  have N7 := Fr.snoc X7 N4 ga
  have Fw7 := f8.same W7
  have k7 : ∀ t, Steps p.tables e below (T7.setTop (mkF m 14 #[.val (.ref a), .val (.long mo), .second, .val (.int wsv), .val (.ref sa)] [])) t → Steps p.tables e below (s₁.setTop (entryFrame m #[(.ref a), (.long mo), (.int wsv), (.ref sa)] 5)) t := fun t k => k6 t (st7 _ k)
  have Z10 : n0 ≤ h7.size := Nat.le_trans Z5 (Keep.of_wr W7).1
  have k11 : ∀ t, Steps p.tables e below (T7.setTop (mkF m 17 #[.val (.ref a), .val (.long mo), .second, .val (.int wsv), .val (.ref sa)] [(.ref sa), (.ref a)])) t → Steps p.tables e below (s₁.setTop (entryFrame m #[(.ref a), (.long mo), (.int wsv), (.ref sa)] 5)) t := by
    intro t k
    refine k7 _ ?_
    show Steps p.tables e below (T7.setTop (mkF m 14 #[.val (.ref a), .val (.long mo), .second, .val (.int wsv), .val (.ref sa)] [])) _
    refine XS.aloadN X7.here hx rfl (hb hby dp8_m1_14) rfl rfl ?_
    show Steps p.tables e below (T7.setTop (mkF m 15 #[.val (.ref a), .val (.long mo), .second, .val (.int wsv), .val (.ref sa)] [(.ref a)])) _
    refine XS.aload X7.here hx rfl (hb hby dp8_m1_15) rfl rfl ?_
    show Steps p.tables e below (T7.setTop (mkF m 17 #[.val (.ref a), .val (.long mo), .second, .val (.int wsv), .val (.ref sa)] [(.ref sa), (.ref a)])) _
    exact k
  have f13 := ((F3.other W4 (Or.inr (slot_ne (Or.inr (hw _ (List.mem_of_getElem? (i := 29) rfl))) (Or.inr (hw _ (List.mem_of_getElem? (i := 25) rfl))) (by decide) (t := (.object "java/lang/String")) (t' := .long) (by decide) (by decide)))).other W7 (Or.inr (slot_ne (Or.inr (hw _ (List.mem_of_getElem? (i := 29) rfl))) (Or.inr (hw _ (List.mem_of_getElem? (i := 27) rfl))) (by decide) (t := (.object "java/lang/String")) (t' := .boolean) (by decide) (by decide))))
  have f14 := (f9.wr W7)
  obtain ⟨T12, h12, X12, e12, W12, st12⟩ := putF X7 hx hZ hown (host := "") (Or.inl (hw _ (List.mem_of_getElem? (i := 28) rfl))) Via.refl e7 f13 f14 (Or.inr ⟨(hw _ (List.mem_of_getElem? (i := 29) rfl)), rfl, hnm⟩) (hw _ (List.mem_of_getElem? (i := 3) rfl)) (ty := (.object "java/lang/String")) (by decide) rfl rfl (g := (mkF m 17 #[.val (.ref a), .val (.long mo), .second, .val (.int wsv), .val (.ref sa)] [(.ref sa), (.ref a)])) rfl rfl (hb hby dp8_m1_17)
  have N12 := Fr.snoc X12 N7 ga
  have Fw12 := f13.same W12
  have k12 : ∀ t, Steps p.tables e below (T12.setTop (mkF m 20 #[.val (.ref a), .val (.long mo), .second, .val (.int wsv), .val (.ref sa)] [])) t → Steps p.tables e below (s₁.setTop (entryFrame m #[(.ref a), (.long mo), (.int wsv), (.ref sa)] 5)) t := fun t k => k11 t (st12 _ k)
  have Z15 : n0 ≤ h12.size := Nat.le_trans Z10 (Keep.of_wr W12).1
  have kp16 : Keep h0 h12 [a] := ((((Keep.refl h0 [a]).wr W4 (Or.inl (List.mem_of_getElem? (i := 0) rfl))).wr W7 (Or.inl (List.mem_of_getElem? (i := 0) rfl))).wr W12 (Or.inl (List.mem_of_getElem? (i := 0) rfl)))
  have f17 := (Fw7.other W12 (Or.inr (slot_ne (Or.inr (hw _ (List.mem_of_getElem? (i := 27) rfl))) (Or.inr (hw _ (List.mem_of_getElem? (i := 29) rfl))) (by decide) (t := .boolean) (t' := (.object "java/lang/String")) (by decide) (by decide))))
  obtain ⟨fs, hr, hrun, hended, hW, hsame⟩ := X12.leave (v := none) (fun h => rfl)
  refine ⟨_, _, k12 _ ?_, hrun, hended, _, _, rfl, ?_, ⟨_, rfl⟩, hW, hsame.mono (Nat.le_of_ble_eq_true rfl) (Nat.le_of_ble_eq_true rfl)⟩
  · exact X12.returnOut hx Bd.returns (hb hby dp8_m1_20) hr
  · show Q4 Z a mo wsv sa h0 n0 _ T12.heap _
    rw [e12]
    exact ⟨rfl, N12, kp16, f17⟩
theorem ef_5 (m : MethodId) (x0 : Addr) (x1 : Addr) (x2 : Int32) (x3 : Int32) : entryFrame m #[(.ref x0), (.ref x1), (.int x2), (.int x3)] 9 = mkF m 0 #[.val (.ref x0), .val (.ref x1), .val (.int x2), .val (.int x3), .unset, .unset, .unset, .unset, .unset] [] := by first | (simp [entryFrame, mkF, argsToLocals, Value.category]; done) | rfl
def Q5 (Z : State) (a : Addr) (q : Addr) (st : Int32) (ln : Int32) (ns : Nat) (nl : Nat) (kq : ClassId) (chs : List Int32) (wsv : Int32) (h0 : Heap) (n0 : Nat) (v : Option Value) (h : Heap) (L : List Loc) : Prop := v = some (.long (own_sum wsv chs ns nl)) ∧ Fr n0 L ∧ h = h0
set_option maxRecDepth 65536 in
set_option maxHeartbeats 40000000 in
theorem rm5 (l : Launch) (Z : State) (a0 : Array Value) (hw : ∀ d ∈ tables_1, d.before a0 Z = true) (ws : List Jvm.Cond) (a : Addr) (q : Addr) (st : Int32) (ln : Int32) (ns : Nat) (nl : Nat) (kq : ClassId) (chs : List Int32) (wsv : Int32) (h0 : Heap) (n0 : Nat) (Z0 : n0 ≤ h0.size) (EE : Exa Z h0 a "com/example/westford/westford/ColumnType$TextLimit") (FW : Fld Z h0 a "com/example/westford/westford/ColumnType$TextLimit" "whiteSpace" "Z" (.int wsv)) (VV : Arv Z h0 q kq .char (4 : Int32) (chs.map Value.int) (.int (0 : Int32))) (hle : ns + nl ≤ 4) (hst : st = Int32.ofNat ns) (hln : ln = Int32.ofNat nl) :
    MetFree l (⟨"com/example/westford/westford/ColumnType$TextLimit", "counted", "([CII)J"⟩ : MethodName) (head1 (Jvm.Cond.code (⟨"com/example/westford/westford/ColumnType$TextLimit", "counted", "([CII)J"⟩ : MethodName) prog_8_method_2_code 9 (some .long) :: ws) ({ frames := 1, cells := 0, slots := 0, locals := 12 } : Room)) (fun A_ U => A_ = #[(.ref a), (.ref q), (.int st), (.int ln)] ∧ Z.Warmed39 U.vm ∧ U.heap = h0) (fun _ _ _ _ _ => True) (fun _ U o U' => ∃ v L, o = .returned v ∧ Q5 Z a q st ln ns nl kq chs wsv h0 n0 v U'.heap L ∧ FrameEnd U o U' L ({ frames := 1, cells := 0, slots := 0, locals := 12 } : Room).cells ({ frames := 1, cells := 0, slots := 0, locals := 12 } : Room).slots) := by
  refine MetFree.of_bodySF (plainFor_of_name pn_3) hisR ?_
  intro p e s m args below meth c s₁ Bd hml0 hP hK
  obtain ⟨rfl, hZ, hh⟩ := hP
  have hx := Bd.exec
  have hby := Bd.bytes
  have hml : c.maxLocals = 9 := hml0
  have hown : s.vm.findClass "com/example/westford/westford/ColumnType$TextLimit" = some m.cls := findClass_of_methodNamed Bd.named
  have hnm := (name_of_methodNamed Bd.named Bd.method).1
  have X0 : Stand p l e ({ frames := 1, cells := 0, slots := 0, locals := 12 } : Room) s m #[(.ref a), (.ref q), (.int st), (.int ln)] below meth c s₁ [] 0 0 := Stand.of_body Bd
  have e0 : s₁.heap = h0 := by rw [← hh, Bd.state]; rfl
  have N0 := Fr.nil n0
  have k0 : ∀ t, Steps p.tables e below (s₁.setTop (mkF m 0 #[.val (.ref a), .val (.ref q), .val (.int st), .val (.int ln), .unset, .unset, .unset, .unset, .unset] [])) t → Steps p.tables e below (s₁.setTop (entryFrame m #[(.ref a), (.ref q), (.int st), (.int ln)] 9)) t := fun t k => castTop (ef_5 m a q st ln) k
  have k1 : ∀ t, Steps p.tables e below (s₁.setTop (mkF m 6 #[.val (.ref a), .val (.ref q), .val (.int st), .val (.int ln), .val (.long (0 : Int64)), .second, .val (.int st), .unset, .unset] [])) t → Steps p.tables e below (s₁.setTop (entryFrame m #[(.ref a), (.ref q), (.int st), (.int ln)] 9)) t := by
    intro t k
    refine k0 _ ?_
    show Steps p.tables e below (s₁.setTop (mkF m 0 #[.val (.ref a), .val (.ref q), .val (.int st), .val (.int ln), .unset, .unset, .unset, .unset, .unset] [])) _
    refine XS.lconst X0.here hx rfl (hb hby dp8_m2_0) ?_
    show Steps p.tables e below (s₁.setTop (mkF m 1 #[.val (.ref a), .val (.ref q), .val (.int st), .val (.int ln), .unset, .unset, .unset, .unset, .unset] [(.long (0 : Int64))])) _
    refine XS.lstore X0.here hx rfl (hb hby dp8_m2_1) rfl (l' := #[.val (.ref a), .val (.ref q), .val (.int st), .val (.int ln), .val (.long (0 : Int64)), .second, .unset, .unset, .unset]) rfl ?_
    show Steps p.tables e below (s₁.setTop (mkF m 3 #[.val (.ref a), .val (.ref q), .val (.int st), .val (.int ln), .val (.long (0 : Int64)), .second, .unset, .unset, .unset] [])) _
    refine XS.iloadN X0.here hx rfl (hb hby dp8_m2_3) rfl ?_
    show Steps p.tables e below (s₁.setTop (mkF m 4 #[.val (.ref a), .val (.ref q), .val (.int st), .val (.int ln), .val (.long (0 : Int64)), .second, .unset, .unset, .unset] [(.int st)])) _
    refine XS.istore X0.here hx rfl (hb hby dp8_m2_4) rfl (l' := #[.val (.ref a), .val (.ref q), .val (.int st), .val (.int ln), .val (.long (0 : Int64)), .second, .val (.int st), .unset, .unset]) rfl ?_
    show Steps p.tables e below (s₁.setTop (mkF m 6 #[.val (.ref a), .val (.ref q), .val (.int st), .val (.int ln), .val (.long (0 : Int64)), .second, .val (.int st), .unset, .unset] [])) _
    exact k
  have hsum : st + ln = Int32.ofNat (ns + nl) := by
    rw [hst, hln]
    apply Int32.toInt_inj.mp
    have h1 := c_iadd (Int32.ofNat ns) (Int32.ofNat nl)
    rw [own_ofNat (by omega), own_ofNat (by omega)] at h1
    have h2 := rng32 (Int32.ofNat ns + Int32.ofNat nl)
    rw [own_ofNat (by omega)]; omega
  have loop : ∀ (kk : Nat) (T : State) (lo : List Loc) (acc : Int64) (i : Int32) (ni : Nat) (z7 z8 : Slot), i = Int32.ofNat ni → One z7 → One z8 → ni + kk = ns + nl → Stand p l e ({ frames := 1, cells := 0, slots := 0, locals := 12 } : Room) s m #[(.ref a), (.ref q), (.int st), (.int ln)] below meth c T lo 0 0 → T.heap = h0 → Fr n0 lo → ∃ (T' : State) (lo' : List Loc) (r : Int64) (i' : Int32) (y7 y8 : Slot), r = acc + own_sum wsv chs ni kk ∧ Stand p l e ({ frames := 1, cells := 0, slots := 0, locals := 12 } : Room) s m #[(.ref a), (.ref q), (.int st), (.int ln)] below meth c T' lo' 0 0 ∧ T'.heap = h0 ∧ Fr n0 lo' ∧ ∀ t, Steps p.tables e below (T'.setTop (mkF m 66 #[.val (.ref a), .val (.ref q), .val (.int st), .val (.int ln), .val (.long r), .second, .val (.int i'), y7, y8] [])) t → Steps p.tables e below (T.setTop (mkF m 6 #[.val (.ref a), .val (.ref q), .val (.int st), .val (.int ln), .val (.long acc), .second, .val (.int i), z7, z8] [])) t := by
    intro kk
    induction kk with
    | zero =>
      intro T lo acc i ni z7 z8 hi hz7 hz8 hk X eT NL
      have k2 : ∀ t, Steps p.tables e below (T.setTop (mkF m 6 #[.val (.ref a), .val (.ref q), .val (.int st), .val (.int ln), .val (.long acc), .second, .val (.int i), z7, z8] [])) t → Steps p.tables e below (T.setTop (mkF m 6 #[.val (.ref a), .val (.ref q), .val (.int st), .val (.int ln), .val (.long acc), .second, .val (.int i), z7, z8] [])) t := fun t k => k
      have hc : ¬ i < (st + ln) := by rw [hi, hsum, Int32.lt_iff_toInt_lt, own_ofNat (by omega), own_ofNat (by omega)]; omega
      have k3 : ∀ t, Steps p.tables e below (T.setTop (mkF m 66 #[.val (.ref a), .val (.ref q), .val (.int st), .val (.int ln), .val (.long acc), .second, .val (.int i), z7, z8] [])) t → Steps p.tables e below (T.setTop (mkF m 6 #[.val (.ref a), .val (.ref q), .val (.int st), .val (.int ln), .val (.long acc), .second, .val (.int i), z7, z8] [])) t := by
        intro t k
        refine k2 _ ?_
        show Steps p.tables e below (T.setTop (mkF m 6 #[.val (.ref a), .val (.ref q), .val (.int st), .val (.int ln), .val (.long acc), .second, .val (.int i), z7, z8] [])) _
        refine XS.iload X.here hx rfl (hb hby dp8_m2_6) rfl ?_
        show Steps p.tables e below (T.setTop (mkF m 8 #[.val (.ref a), .val (.ref q), .val (.int st), .val (.int ln), .val (.long acc), .second, .val (.int i), z7, z8] [(.int i)])) _
        refine XS.iloadN X.here hx rfl (hb hby dp8_m2_8) rfl ?_
        show Steps p.tables e below (T.setTop (mkF m 9 #[.val (.ref a), .val (.ref q), .val (.int st), .val (.int ln), .val (.long acc), .second, .val (.int i), z7, z8] [(.int st), (.int i)])) _
        refine XS.iloadN X.here hx rfl (hb hby dp8_m2_9) rfl ?_
        show Steps p.tables e below (T.setTop (mkF m 10 #[.val (.ref a), .val (.ref q), .val (.int st), .val (.int ln), .val (.long acc), .second, .val (.int i), z7, z8] [(.int ln), (.int st), (.int i)])) _
        refine XS.iadd X.here hx rfl (hb hby dp8_m2_10) rfl ?_
        show Steps p.tables e below (T.setTop (mkF m 11 #[.val (.ref a), .val (.ref q), .val (.int st), .val (.int ln), .val (.long acc), .second, .val (.int i), z7, z8] [(.int (st + ln)), (.int i)])) _
        refine XS.icmpYes X.here hx rfl (pc0 := 11) (pc' := 66) rfl (hb hby dp8_m2_11) rfl (flt hc).2.1 (by decide) (by decide) ?_
        show Steps p.tables e below (T.setTop (mkF m 66 #[.val (.ref a), .val (.ref q), .val (.int st), .val (.int ln), .val (.long acc), .second, .val (.int i), z7, z8] [])) _
        exact k
      exact ⟨T, lo, acc, _, z7, z8, by simp [own_sum], X, eT, NL, k3⟩
    | succ kk ih =>
      intro T lo acc i ni z7 z8 hi hz7 hz8 hk X eT NL
      have k4 : ∀ t, Steps p.tables e below (T.setTop (mkF m 6 #[.val (.ref a), .val (.ref q), .val (.int st), .val (.int ln), .val (.long acc), .second, .val (.int i), z7, z8] [])) t → Steps p.tables e below (T.setTop (mkF m 6 #[.val (.ref a), .val (.ref q), .val (.int st), .val (.int ln), .val (.long acc), .second, .val (.int i), z7, z8] [])) t := fun t k => k
      have hc : i < (st + ln) := by rw [hi, hsum, Int32.lt_iff_toInt_lt, own_ofNat (by omega), own_ofNat (by omega)]; omega
      have hin : ¬ i < (0 : Int32) ∧ i < (4 : Int32) := by rw [hi, Int32.lt_iff_toInt_lt, Int32.lt_iff_toInt_lt, own_ofNat (by omega)]; have e0 : (0 : Int32).toInt = 0 := rfl; have e4 : (4 : Int32).toInt = 4 := rfl; omega
      have hat : (chs.map Value.int).getD i.toNatClampNeg (.int (0 : Int32)) = .int (chs.getD ni 0) := by rw [hi, own_clamp (by omega)]; exact own_getD chs ni
      have hinc : i + (1 : Int32) = Int32.ofNat (ni + 1) := by rw [hi]; exact (Jvm.LawKit.inc_ofNat ni).symm
      obtain ⟨cl5, Ar5, qk5, Sz5, Nn5, Hs5, Gs5⟩ := id VV
      have k6 : ∀ t, Steps p.tables e below (T.setTop (mkF m 18 #[.val (.ref a), .val (.ref q), .val (.int st), .val (.int ln), .val (.long acc), .second, .val (.int i), z7, z8] [(.int (chs.getD ni 0))])) t → Steps p.tables e below (T.setTop (mkF m 6 #[.val (.ref a), .val (.ref q), .val (.int st), .val (.int ln), .val (.long acc), .second, .val (.int i), z7, z8] [])) t := by
        intro t k
        refine k4 _ ?_
        show Steps p.tables e below (T.setTop (mkF m 6 #[.val (.ref a), .val (.ref q), .val (.int st), .val (.int ln), .val (.long acc), .second, .val (.int i), z7, z8] [])) _
        refine XS.iload X.here hx rfl (hb hby dp8_m2_6) rfl ?_
        show Steps p.tables e below (T.setTop (mkF m 8 #[.val (.ref a), .val (.ref q), .val (.int st), .val (.int ln), .val (.long acc), .second, .val (.int i), z7, z8] [(.int i)])) _
        refine XS.iloadN X.here hx rfl (hb hby dp8_m2_8) rfl ?_
        show Steps p.tables e below (T.setTop (mkF m 9 #[.val (.ref a), .val (.ref q), .val (.int st), .val (.int ln), .val (.long acc), .second, .val (.int i), z7, z8] [(.int st), (.int i)])) _
        refine XS.iloadN X.here hx rfl (hb hby dp8_m2_9) rfl ?_
        show Steps p.tables e below (T.setTop (mkF m 10 #[.val (.ref a), .val (.ref q), .val (.int st), .val (.int ln), .val (.long acc), .second, .val (.int i), z7, z8] [(.int ln), (.int st), (.int i)])) _
        refine XS.iadd X.here hx rfl (hb hby dp8_m2_10) rfl ?_
        show Steps p.tables e below (T.setTop (mkF m 11 #[.val (.ref a), .val (.ref q), .val (.int st), .val (.int ln), .val (.long acc), .second, .val (.int i), z7, z8] [(.int (st + ln)), (.int i)])) _
        refine XS.icmpNo X.here hx rfl (hb hby dp8_m2_11) rfl (tlt hc).2.1 ?_
        show Steps p.tables e below (T.setTop (mkF m 14 #[.val (.ref a), .val (.ref q), .val (.int st), .val (.int ln), .val (.long acc), .second, .val (.int i), z7, z8] [])) _
        refine XS.aloadN X.here hx rfl (hb hby dp8_m2_14) rfl rfl ?_
        show Steps p.tables e below (T.setTop (mkF m 15 #[.val (.ref a), .val (.ref q), .val (.int st), .val (.int ln), .val (.long acc), .second, .val (.int i), z7, z8] [(.ref q)])) _
        refine XS.iload X.here hx rfl (hb hby dp8_m2_15) rfl ?_
        show Steps p.tables e below (T.setTop (mkF m 17 #[.val (.ref a), .val (.ref q), .val (.int st), .val (.int ln), .val (.long acc), .second, .val (.int i), z7, z8] [(.int i), (.ref q)])) _
        refine X.caload hx (j := i) (v := (.int (chs.getD ni 0))) (by rw [eT]; exact Ar5.1) (State.isArrayOf_alike hZ.alike Ar5.2.1) Ar5.2.2 (inb_of Sz5 hin) (Has.at Hs5 (inb_of Sz5 hin) hat) (g := (mkF m 17 #[.val (.ref a), .val (.ref q), .val (.int st), .val (.int ln), .val (.long acc), .second, .val (.int i), z7, z8] [(.int i), (.ref q)])) rfl rfl (hb hby dp8_m2_17) _ ?_
        show Steps p.tables e below (T.setTop (mkF m 18 #[.val (.ref a), .val (.ref q), .val (.int st), .val (.int ln), .val (.long acc), .second, .val (.int i), z7, z8] [(.int (chs.getD ni 0))])) _
        exact k
      obtain ⟨ch, ech⟩ : ∃ y : Int32, y = chs.getD ni 0 := ⟨_, rfl⟩
      rw [← ech] at k6
      obtain ⟨b8, eq_b8⟩ : ∃ z : Int32, z = (if (32 : Int32) < ch then (0 : Int32) else (1 : Int32)) := ⟨_, rfl⟩
      have k8 : ∀ t, Steps p.tables e below (T.setTop (mkF m 32 #[.val (.ref a), .val (.ref q), .val (.int st), .val (.int ln), .val (.long acc), .second, .val (.int i), .val (.int ch), z8] [(.int b8)])) t → Steps p.tables e below (T.setTop (mkF m 6 #[.val (.ref a), .val (.ref q), .val (.int st), .val (.int ln), .val (.long acc), .second, .val (.int i), z7, z8] [])) t := by
        intro t k
        refine k6 _ ?_
        show Steps p.tables e below (T.setTop (mkF m 18 #[.val (.ref a), .val (.ref q), .val (.int st), .val (.int ln), .val (.long acc), .second, .val (.int i), z7, z8] [(.int ch)])) _
        refine XS.istore X.here hx rfl (hb hby dp8_m2_18) rfl (l' := #[.val (.ref a), .val (.ref q), .val (.int st), .val (.int ln), .val (.long acc), .second, .val (.int i), .val (.int ch), z8]) (os5_18 hz7) ?_
        show Steps p.tables e below (T.setTop (mkF m 20 #[.val (.ref a), .val (.ref q), .val (.int st), .val (.int ln), .val (.long acc), .second, .val (.int i), .val (.int ch), z8] [])) _
        refine XS.iload X.here hx rfl (hb hby dp8_m2_20) rfl ?_
        show Steps p.tables e below (T.setTop (mkF m 22 #[.val (.ref a), .val (.ref q), .val (.int st), .val (.int ln), .val (.long acc), .second, .val (.int i), .val (.int ch), z8] [(.int ch)])) _
        refine XS.bipush X.here hx rfl (hb hby dp8_m2_22) ?_
        show Steps p.tables e below (T.setTop (mkF m 24 #[.val (.ref a), .val (.ref q), .val (.int st), .val (.int ln), .val (.long acc), .second, .val (.int i), .val (.int ch), z8] [(.int (32 : Int32)), (.int ch)])) _
        by_cases hc7_24 : (32 : Int32) < ch
        · rw [show b8 = (0 : Int32) by rw [eq_b8, if_pos hc7_24]] at k
          show Steps p.tables e below (T.setTop (mkF m 24 #[.val (.ref a), .val (.ref q), .val (.int st), .val (.int ln), .val (.long acc), .second, .val (.int i), .val (.int ch), z8] [(.int (32 : Int32)), (.int ch)])) _
          refine XS.icmpYes X.here hx rfl (pc0 := 24) (pc' := 31) rfl (hb hby dp8_m2_24) rfl (tlt hc7_24).2.2.1 (by decide) (by decide) ?_
          show Steps p.tables e below (T.setTop (mkF m 31 #[.val (.ref a), .val (.ref q), .val (.int st), .val (.int ln), .val (.long acc), .second, .val (.int i), .val (.int ch), z8] [])) _
          refine XS.iconst X.here hx rfl (hb hby dp8_m2_31) ?_
          show Steps p.tables e below (T.setTop (mkF m 32 #[.val (.ref a), .val (.ref q), .val (.int st), .val (.int ln), .val (.long acc), .second, .val (.int i), .val (.int ch), z8] [(.int (0 : Int32))])) _
          exact k
        · rw [show b8 = (1 : Int32) by rw [eq_b8, if_neg hc7_24]] at k
          show Steps p.tables e below (T.setTop (mkF m 24 #[.val (.ref a), .val (.ref q), .val (.int st), .val (.int ln), .val (.long acc), .second, .val (.int i), .val (.int ch), z8] [(.int (32 : Int32)), (.int ch)])) _
          refine XS.icmpNo X.here hx rfl (hb hby dp8_m2_24) rfl (flt hc7_24).2.2.1 ?_
          show Steps p.tables e below (T.setTop (mkF m 27 #[.val (.ref a), .val (.ref q), .val (.int st), .val (.int ln), .val (.long acc), .second, .val (.int i), .val (.int ch), z8] [])) _
          refine XS.iconst X.here hx rfl (hb hby dp8_m2_27) ?_
          show Steps p.tables e below (T.setTop (mkF m 28 #[.val (.ref a), .val (.ref q), .val (.int st), .val (.int ln), .val (.long acc), .second, .val (.int i), .val (.int ch), z8] [(.int (1 : Int32))])) _
          refine XS.goto X.here hx rfl (pc0 := 28) (pc' := 32) rfl (hb hby dp8_m2_28) (by decide) (by decide) ?_
          show Steps p.tables e below (T.setTop (mkF m 32 #[.val (.ref a), .val (.ref q), .val (.int st), .val (.int ln), .val (.long acc), .second, .val (.int i), .val (.int ch), z8] [(.int (1 : Int32))])) _
          exact k
      have k9 : ∀ t, Steps p.tables e below (T.setTop (mkF m 36 #[.val (.ref a), .val (.ref q), .val (.int st), .val (.int ln), .val (.long acc), .second, .val (.int i), .val (.int ch), .val (.int b8)] [(.int ch)])) t → Steps p.tables e below (T.setTop (mkF m 6 #[.val (.ref a), .val (.ref q), .val (.int st), .val (.int ln), .val (.long acc), .second, .val (.int i), z7, z8] [])) t := by
        intro t k
        refine k8 _ ?_
        show Steps p.tables e below (T.setTop (mkF m 32 #[.val (.ref a), .val (.ref q), .val (.int st), .val (.int ln), .val (.long acc), .second, .val (.int i), .val (.int ch), z8] [(.int b8)])) _
        refine XS.istore X.here hx rfl (hb hby dp8_m2_32) rfl (l' := #[.val (.ref a), .val (.ref q), .val (.int st), .val (.int ln), .val (.long acc), .second, .val (.int i), .val (.int ch), .val (.int b8)]) (os5_32 hz8) ?_
        show Steps p.tables e below (T.setTop (mkF m 34 #[.val (.ref a), .val (.ref q), .val (.int st), .val (.int ln), .val (.long acc), .second, .val (.int i), .val (.int ch), .val (.int b8)] [])) _
        refine XS.iload X.here hx rfl (hb hby dp8_m2_34) rfl ?_
        show Steps p.tables e below (T.setTop (mkF m 36 #[.val (.ref a), .val (.ref q), .val (.int st), .val (.int ln), .val (.long acc), .second, .val (.int i), .val (.int ch), .val (.int b8)] [(.int ch)])) _
        exact k
      obtain ⟨_, _, ⟨T10, L10, ck10, nk10⟩, -, X10, ⟨Lc10, hQ10, l10, y10, z10⟩, st10⟩ := Jvm.LawKit.callS X hx (y := (⟨"java/lang/Character", "isLowSurrogate", "(C)Z"⟩ : MethodName)) hown (mvT hZ (hw _ (List.mem_of_getElem? (i := 39) rfl))) (mvT hZ (hw _ (List.mem_of_getElem? (i := 40) rfl))) (mvT hZ (hw _ (List.mem_of_getElem? (i := 41) rfl))) (mvT hZ (hw _ (List.mem_of_getElem? (i := 42) rfl))) (by decide) (backOf (W := 0) (rm1 l Z a0 hw [] ch h0 n0 Z0) hZ (hw _ (List.mem_of_getElem? (i := 42) rfl)) (hw _ (List.mem_of_getElem? (i := 41) rfl)) (by decide) (by decide)) (g := (mkF m 36 #[.val (.ref a), .val (.ref q), .val (.int st), .val (.int ln), .val (.long acc), .second, .val (.int i), .val (.int ch), .val (.int b8)] [(.int ch)])) rfl (by rw [hml]; rfl) (argsL := [(.int ch)]) (rest := []) (lenOf pd_1 rfl) rfl (by show 2 * 0 + _ ≤ _; exact Nat.le_of_eq rfl) (hb hby dp8_m2_36) (fun _ _ => ⟨rfl, eT, (by decide : 0 + 0 ≤ _), (by decide : 0 + 0 ≤ _)⟩)
      dsimp only [Pt.U, Pt.locs, Pt.cells, Pt.slots] at X10 l10 y10 z10 st10 hQ10
      subst l10 y10 z10
      obtain ⟨rfl, N10q, e10⟩ := hQ10
      have N10 := Fr.app NL N10q
      have k10 : ∀ t, Steps p.tables e below (T10.setTop (mkF m 39 #[.val (.ref a), .val (.ref q), .val (.int st), .val (.int ln), .val (.long acc), .second, .val (.int i), .val (.int ch), .val (.int b8)] [(.int (own_low ch))])) t → Steps p.tables e below (T.setTop (mkF m 6 #[.val (.ref a), .val (.ref q), .val (.int st), .val (.int ln), .val (.long acc), .second, .val (.int i), z7, z8] [])) t := fun t k => k9 t (st10 _ k)
      have hw1 := own_low_w ch
      by_cases hlo : (own_low ch) = (0 : Int32)
      · have k11 : ∀ t, Steps p.tables e below (T10.setTop (mkF m 43 #[.val (.ref a), .val (.ref q), .val (.int st), .val (.int ln), .val (.long acc), .second, .val (.int i), .val (.int ch), .val (.int b8)] [(.ref a)])) t → Steps p.tables e below (T.setTop (mkF m 6 #[.val (.ref a), .val (.ref q), .val (.int st), .val (.int ln), .val (.long acc), .second, .val (.int i), z7, z8] [])) t := by
          intro t k
          refine k10 _ ?_
          show Steps p.tables e below (T10.setTop (mkF m 39 #[.val (.ref a), .val (.ref q), .val (.int st), .val (.int ln), .val (.long acc), .second, .val (.int i), .val (.int ch), .val (.int b8)] [(.int (own_low ch))])) _
          refine XS.ifNo X10.here hx rfl (hb hby dp8_m2_39) rfl ((if0 _ _).trans (teq hlo).2) ?_
          show Steps p.tables e below (T10.setTop (mkF m 42 #[.val (.ref a), .val (.ref q), .val (.int st), .val (.int ln), .val (.long acc), .second, .val (.int i), .val (.int ch), .val (.int b8)] [])) _
          refine XS.aloadN X10.here hx rfl (hb hby dp8_m2_42) rfl rfl ?_
          show Steps p.tables e below (T10.setTop (mkF m 43 #[.val (.ref a), .val (.ref q), .val (.int st), .val (.int ln), .val (.long acc), .second, .val (.int i), .val (.int ch), .val (.int b8)] [(.ref a)])) _
          exact k
        obtain ⟨T12, X12, e12, st12⟩ := getF X10 hx hZ hown (host := "") (Or.inl (hw _ (List.mem_of_getElem? (i := 26) rfl))) Via.refl e10 FW (g := (mkF m 43 #[.val (.ref a), .val (.ref q), .val (.int st), .val (.int ln), .val (.long acc), .second, .val (.int i), .val (.int ch), .val (.int b8)] [(.ref a)])) rfl rfl (hb hby dp8_m2_43)
        have k12 : ∀ t, Steps p.tables e below (T12.setTop (mkF m 46 #[.val (.ref a), .val (.ref q), .val (.int st), .val (.int ln), .val (.long acc), .second, .val (.int i), .val (.int ch), .val (.int b8)] [(.int wsv)])) t → Steps p.tables e below (T.setTop (mkF m 6 #[.val (.ref a), .val (.ref q), .val (.int st), .val (.int ln), .val (.long acc), .second, .val (.int i), z7, z8] [])) t := fun t k => k11 t (st12 _ k)
        by_cases hws : wsv = (0 : Int32)
        · have k13 : ∀ t, Steps p.tables e below (T12.setTop (mkF m 51 #[.val (.ref a), .val (.ref q), .val (.int st), .val (.int ln), .val (.long acc), .second, .val (.int i), .val (.int ch), .val (.int b8)] [(.int b8)])) t → Steps p.tables e below (T.setTop (mkF m 6 #[.val (.ref a), .val (.ref q), .val (.int st), .val (.int ln), .val (.long acc), .second, .val (.int i), z7, z8] [])) t := by
            intro t k
            refine k12 _ ?_
            show Steps p.tables e below (T12.setTop (mkF m 46 #[.val (.ref a), .val (.ref q), .val (.int st), .val (.int ln), .val (.long acc), .second, .val (.int i), .val (.int ch), .val (.int b8)] [(.int wsv)])) _
            refine XS.ifNo X12.here hx rfl (hb hby dp8_m2_46) rfl ((if0 _ _).trans (teq hws).2) ?_
            show Steps p.tables e below (T12.setTop (mkF m 49 #[.val (.ref a), .val (.ref q), .val (.int st), .val (.int ln), .val (.long acc), .second, .val (.int i), .val (.int ch), .val (.int b8)] [])) _
            refine XS.iload X12.here hx rfl (hb hby dp8_m2_49) rfl ?_
            show Steps p.tables e below (T12.setTop (mkF m 51 #[.val (.ref a), .val (.ref q), .val (.int st), .val (.int ln), .val (.long acc), .second, .val (.int i), .val (.int ch), .val (.int b8)] [(.int b8)])) _
            exact k
          by_cases hb8 : b8 = (0 : Int32)
          · have k14 : ∀ t, Steps p.tables e below (T12.setTop (mkF m 6 #[.val (.ref a), .val (.ref q), .val (.int st), .val (.int ln), .val (.long (acc + (1 : Int64))), .second, .val (.int (i + (1 : Int32))), .val (.int ch), .val (.int b8)] [])) t → Steps p.tables e below (T.setTop (mkF m 6 #[.val (.ref a), .val (.ref q), .val (.int st), .val (.int ln), .val (.long acc), .second, .val (.int i), z7, z8] [])) t := by
              intro t k
              refine k13 _ ?_
              show Steps p.tables e below (T12.setTop (mkF m 51 #[.val (.ref a), .val (.ref q), .val (.int st), .val (.int ln), .val (.long acc), .second, .val (.int i), .val (.int ch), .val (.int b8)] [(.int b8)])) _
              refine XS.ifNo X12.here hx rfl (hb hby dp8_m2_51) rfl ((if0 _ _).trans (teq hb8).2) ?_
              show Steps p.tables e below (T12.setTop (mkF m 54 #[.val (.ref a), .val (.ref q), .val (.int st), .val (.int ln), .val (.long acc), .second, .val (.int i), .val (.int ch), .val (.int b8)] [])) _
              refine XS.lload X12.here hx rfl (hb hby dp8_m2_54) rfl ?_
              show Steps p.tables e below (T12.setTop (mkF m 56 #[.val (.ref a), .val (.ref q), .val (.int st), .val (.int ln), .val (.long acc), .second, .val (.int i), .val (.int ch), .val (.int b8)] [(.long acc)])) _
              refine XS.lconst X12.here hx rfl (hb hby dp8_m2_56) ?_
              show Steps p.tables e below (T12.setTop (mkF m 57 #[.val (.ref a), .val (.ref q), .val (.int st), .val (.int ln), .val (.long acc), .second, .val (.int i), .val (.int ch), .val (.int b8)] [(.long (1 : Int64)), (.long acc)])) _
              refine XS.ladd X12.here hx rfl (hb hby dp8_m2_57) rfl ?_
              show Steps p.tables e below (T12.setTop (mkF m 58 #[.val (.ref a), .val (.ref q), .val (.int st), .val (.int ln), .val (.long acc), .second, .val (.int i), .val (.int ch), .val (.int b8)] [(.long (acc + (1 : Int64)))])) _
              refine XS.lstore X12.here hx rfl (hb hby dp8_m2_58) rfl (l' := #[.val (.ref a), .val (.ref q), .val (.int st), .val (.int ln), .val (.long (acc + (1 : Int64))), .second, .val (.int i), .val (.int ch), .val (.int b8)]) rfl ?_
              show Steps p.tables e below (T12.setTop (mkF m 60 #[.val (.ref a), .val (.ref q), .val (.int st), .val (.int ln), .val (.long (acc + (1 : Int64))), .second, .val (.int i), .val (.int ch), .val (.int b8)] [])) _
              refine XS.iinc X12.here hx rfl (hb hby dp8_m2_60) rfl (l' := #[.val (.ref a), .val (.ref q), .val (.int st), .val (.int ln), .val (.long (acc + (1 : Int64))), .second, .val (.int (i + (1 : Int32))), .val (.int ch), .val (.int b8)]) rfl ?_
              show Steps p.tables e below (T12.setTop (mkF m 63 #[.val (.ref a), .val (.ref q), .val (.int st), .val (.int ln), .val (.long (acc + (1 : Int64))), .second, .val (.int (i + (1 : Int32))), .val (.int ch), .val (.int b8)] [])) _
              refine XS.goto X12.here hx rfl (pc0 := 63) (pc' := 6) rfl (hb hby dp8_m2_63) (by decide) (by decide) ?_
              show Steps p.tables e below (T12.setTop (mkF m 6 #[.val (.ref a), .val (.ref q), .val (.int st), .val (.int ln), .val (.long (acc + (1 : Int64))), .second, .val (.int (i + (1 : Int32))), .val (.int ch), .val (.int b8)] [])) _
              exact k
            obtain ⟨T', lo', r, i', y7, y8, er, X', e', N', st'⟩ := ih T12 _ (acc + (1 : Int64)) _ (ni + 1) (.val (.int ch)) (.val (.int b8)) hinc (One.val rfl) (One.val rfl) (by omega) X12 e12 N10
            exact ⟨T', lo', r, i', y7, y8, by rw [er]; simp only [own_sum]; rw [← ech, hw1.1 hlo, own_tail, if_pos hws, if_pos (show (32 : Int32) < ch from Decidable.byContradiction fun q => by rw [eq_b8, if_neg q] at hb8; exact absurd hb8 (by decide))]; simp [Int64.add_assoc], X', e', N', fun t k => k14 t (st' t k)⟩
          · have k15 : ∀ t, Steps p.tables e below (T12.setTop (mkF m 6 #[.val (.ref a), .val (.ref q), .val (.int st), .val (.int ln), .val (.long acc), .second, .val (.int (i + (1 : Int32))), .val (.int ch), .val (.int b8)] [])) t → Steps p.tables e below (T.setTop (mkF m 6 #[.val (.ref a), .val (.ref q), .val (.int st), .val (.int ln), .val (.long acc), .second, .val (.int i), z7, z8] [])) t := by
              intro t k
              refine k13 _ ?_
              show Steps p.tables e below (T12.setTop (mkF m 51 #[.val (.ref a), .val (.ref q), .val (.int st), .val (.int ln), .val (.long acc), .second, .val (.int i), .val (.int ch), .val (.int b8)] [(.int b8)])) _
              refine XS.ifYes X12.here hx rfl (pc0 := 51) (pc' := 60) rfl (hb hby dp8_m2_51) rfl ((if0 _ _).trans (feq hb8).2) (by decide) (by decide) ?_
              show Steps p.tables e below (T12.setTop (mkF m 60 #[.val (.ref a), .val (.ref q), .val (.int st), .val (.int ln), .val (.long acc), .second, .val (.int i), .val (.int ch), .val (.int b8)] [])) _
              refine XS.iinc X12.here hx rfl (hb hby dp8_m2_60) rfl (l' := #[.val (.ref a), .val (.ref q), .val (.int st), .val (.int ln), .val (.long acc), .second, .val (.int (i + (1 : Int32))), .val (.int ch), .val (.int b8)]) rfl ?_
              show Steps p.tables e below (T12.setTop (mkF m 63 #[.val (.ref a), .val (.ref q), .val (.int st), .val (.int ln), .val (.long acc), .second, .val (.int (i + (1 : Int32))), .val (.int ch), .val (.int b8)] [])) _
              refine XS.goto X12.here hx rfl (pc0 := 63) (pc' := 6) rfl (hb hby dp8_m2_63) (by decide) (by decide) ?_
              show Steps p.tables e below (T12.setTop (mkF m 6 #[.val (.ref a), .val (.ref q), .val (.int st), .val (.int ln), .val (.long acc), .second, .val (.int (i + (1 : Int32))), .val (.int ch), .val (.int b8)] [])) _
              exact k
            obtain ⟨T', lo', r, i', y7, y8, er, X', e', N', st'⟩ := ih T12 _ acc _ (ni + 1) (.val (.int ch)) (.val (.int b8)) hinc (One.val rfl) (One.val rfl) (by omega) X12 e12 N10
            exact ⟨T', lo', r, i', y7, y8, by rw [er]; simp only [own_sum]; rw [← ech, hw1.1 hlo, own_tail, if_pos hws, if_neg (show ¬ (32 : Int32) < ch from fun q => hb8 (by rw [eq_b8, if_pos q]))]; simp [Int64.add_assoc], X', e', N', fun t k => k15 t (st' t k)⟩
        · have k16 : ∀ t, Steps p.tables e below (T12.setTop (mkF m 6 #[.val (.ref a), .val (.ref q), .val (.int st), .val (.int ln), .val (.long (acc + (1 : Int64))), .second, .val (.int (i + (1 : Int32))), .val (.int ch), .val (.int b8)] [])) t → Steps p.tables e below (T.setTop (mkF m 6 #[.val (.ref a), .val (.ref q), .val (.int st), .val (.int ln), .val (.long acc), .second, .val (.int i), z7, z8] [])) t := by
            intro t k
            refine k12 _ ?_
            show Steps p.tables e below (T12.setTop (mkF m 46 #[.val (.ref a), .val (.ref q), .val (.int st), .val (.int ln), .val (.long acc), .second, .val (.int i), .val (.int ch), .val (.int b8)] [(.int wsv)])) _
            refine XS.ifYes X12.here hx rfl (pc0 := 46) (pc' := 54) rfl (hb hby dp8_m2_46) rfl ((if0 _ _).trans (feq hws).2) (by decide) (by decide) ?_
            show Steps p.tables e below (T12.setTop (mkF m 54 #[.val (.ref a), .val (.ref q), .val (.int st), .val (.int ln), .val (.long acc), .second, .val (.int i), .val (.int ch), .val (.int b8)] [])) _
            refine XS.lload X12.here hx rfl (hb hby dp8_m2_54) rfl ?_
            show Steps p.tables e below (T12.setTop (mkF m 56 #[.val (.ref a), .val (.ref q), .val (.int st), .val (.int ln), .val (.long acc), .second, .val (.int i), .val (.int ch), .val (.int b8)] [(.long acc)])) _
            refine XS.lconst X12.here hx rfl (hb hby dp8_m2_56) ?_
            show Steps p.tables e below (T12.setTop (mkF m 57 #[.val (.ref a), .val (.ref q), .val (.int st), .val (.int ln), .val (.long acc), .second, .val (.int i), .val (.int ch), .val (.int b8)] [(.long (1 : Int64)), (.long acc)])) _
            refine XS.ladd X12.here hx rfl (hb hby dp8_m2_57) rfl ?_
            show Steps p.tables e below (T12.setTop (mkF m 58 #[.val (.ref a), .val (.ref q), .val (.int st), .val (.int ln), .val (.long acc), .second, .val (.int i), .val (.int ch), .val (.int b8)] [(.long (acc + (1 : Int64)))])) _
            refine XS.lstore X12.here hx rfl (hb hby dp8_m2_58) rfl (l' := #[.val (.ref a), .val (.ref q), .val (.int st), .val (.int ln), .val (.long (acc + (1 : Int64))), .second, .val (.int i), .val (.int ch), .val (.int b8)]) rfl ?_
            show Steps p.tables e below (T12.setTop (mkF m 60 #[.val (.ref a), .val (.ref q), .val (.int st), .val (.int ln), .val (.long (acc + (1 : Int64))), .second, .val (.int i), .val (.int ch), .val (.int b8)] [])) _
            refine XS.iinc X12.here hx rfl (hb hby dp8_m2_60) rfl (l' := #[.val (.ref a), .val (.ref q), .val (.int st), .val (.int ln), .val (.long (acc + (1 : Int64))), .second, .val (.int (i + (1 : Int32))), .val (.int ch), .val (.int b8)]) rfl ?_
            show Steps p.tables e below (T12.setTop (mkF m 63 #[.val (.ref a), .val (.ref q), .val (.int st), .val (.int ln), .val (.long (acc + (1 : Int64))), .second, .val (.int (i + (1 : Int32))), .val (.int ch), .val (.int b8)] [])) _
            refine XS.goto X12.here hx rfl (pc0 := 63) (pc' := 6) rfl (hb hby dp8_m2_63) (by decide) (by decide) ?_
            show Steps p.tables e below (T12.setTop (mkF m 6 #[.val (.ref a), .val (.ref q), .val (.int st), .val (.int ln), .val (.long (acc + (1 : Int64))), .second, .val (.int (i + (1 : Int32))), .val (.int ch), .val (.int b8)] [])) _
            exact k
          obtain ⟨T', lo', r, i', y7, y8, er, X', e', N', st'⟩ := ih T12 _ (acc + (1 : Int64)) _ (ni + 1) (.val (.int ch)) (.val (.int b8)) hinc (One.val rfl) (One.val rfl) (by omega) X12 e12 N10
          exact ⟨T', lo', r, i', y7, y8, by rw [er]; simp only [own_sum]; rw [← ech, hw1.1 hlo, own_tail, if_neg hws]; simp [Int64.add_assoc], X', e', N', fun t k => k16 t (st' t k)⟩
      · have k17 : ∀ t, Steps p.tables e below (T10.setTop (mkF m 6 #[.val (.ref a), .val (.ref q), .val (.int st), .val (.int ln), .val (.long acc), .second, .val (.int (i + (1 : Int32))), .val (.int ch), .val (.int b8)] [])) t → Steps p.tables e below (T.setTop (mkF m 6 #[.val (.ref a), .val (.ref q), .val (.int st), .val (.int ln), .val (.long acc), .second, .val (.int i), z7, z8] [])) t := by
          intro t k
          refine k10 _ ?_
          show Steps p.tables e below (T10.setTop (mkF m 39 #[.val (.ref a), .val (.ref q), .val (.int st), .val (.int ln), .val (.long acc), .second, .val (.int i), .val (.int ch), .val (.int b8)] [(.int (own_low ch))])) _
          refine XS.ifYes X10.here hx rfl (pc0 := 39) (pc' := 60) rfl (hb hby dp8_m2_39) rfl ((if0 _ _).trans (feq hlo).2) (by decide) (by decide) ?_
          show Steps p.tables e below (T10.setTop (mkF m 60 #[.val (.ref a), .val (.ref q), .val (.int st), .val (.int ln), .val (.long acc), .second, .val (.int i), .val (.int ch), .val (.int b8)] [])) _
          refine XS.iinc X10.here hx rfl (hb hby dp8_m2_60) rfl (l' := #[.val (.ref a), .val (.ref q), .val (.int st), .val (.int ln), .val (.long acc), .second, .val (.int (i + (1 : Int32))), .val (.int ch), .val (.int b8)]) rfl ?_
          show Steps p.tables e below (T10.setTop (mkF m 63 #[.val (.ref a), .val (.ref q), .val (.int st), .val (.int ln), .val (.long acc), .second, .val (.int (i + (1 : Int32))), .val (.int ch), .val (.int b8)] [])) _
          refine XS.goto X10.here hx rfl (pc0 := 63) (pc' := 6) rfl (hb hby dp8_m2_63) (by decide) (by decide) ?_
          show Steps p.tables e below (T10.setTop (mkF m 6 #[.val (.ref a), .val (.ref q), .val (.int st), .val (.int ln), .val (.long acc), .second, .val (.int (i + (1 : Int32))), .val (.int ch), .val (.int b8)] [])) _
          exact k
        obtain ⟨T', lo', r, i', y7, y8, er, X', e', N', st'⟩ := ih T10 _ acc _ (ni + 1) (.val (.int ch)) (.val (.int b8)) hinc (One.val rfl) (One.val rfl) (by omega) X10 e10 N10
        exact ⟨T', lo', r, i', y7, y8, by rw [er]; simp only [own_sum]; rw [← ech, hw1.2 hlo]; simp [Int64.add_assoc], X', e', N', fun t k => k17 t (st' t k)⟩
  obtain ⟨T9, lo9, r9, i9, y79, y89, er9, X9, e9, N9, st9⟩ := loop nl s₁ [] (0 : Int64) st ns .unset .unset hst One.u One.u rfl X0 e0 N0
  have er : r9 = own_sum wsv chs ns nl := by rw [er9]; simp
  subst er
  have k99 : ∀ t, Steps p.tables e below (T9.setTop (mkF m 66 #[.val (.ref a), .val (.ref q), .val (.int st), .val (.int ln), .val (.long (own_sum wsv chs ns nl)), .second, .val (.int i9), y79, y89] [])) t → Steps p.tables e below (s₁.setTop (entryFrame m #[(.ref a), (.ref q), (.int st), (.int ln)] 9)) t := fun t k => k1 t (st9 t k)
  have k18 : ∀ t, Steps p.tables e below (T9.setTop (mkF m 68 #[.val (.ref a), .val (.ref q), .val (.int st), .val (.int ln), .val (.long (own_sum wsv chs ns nl)), .second, .val (.int i9), y79, y89] [(.long (own_sum wsv chs ns nl))])) t → Steps p.tables e below (s₁.setTop (entryFrame m #[(.ref a), (.ref q), (.int st), (.int ln)] 9)) t := by
    intro t k
    refine k99 _ ?_
    show Steps p.tables e below (T9.setTop (mkF m 66 #[.val (.ref a), .val (.ref q), .val (.int st), .val (.int ln), .val (.long (own_sum wsv chs ns nl)), .second, .val (.int i9), y79, y89] [])) _
    refine XS.lload X9.here hx rfl (hb hby dp8_m2_66) rfl ?_
    show Steps p.tables e below (T9.setTop (mkF m 68 #[.val (.ref a), .val (.ref q), .val (.int st), .val (.int ln), .val (.long (own_sum wsv chs ns nl)), .second, .val (.int i9), y79, y89] [(.long (own_sum wsv chs ns nl))])) _
    exact k
  obtain ⟨fs, hr, hrun, hended, hW, hsame⟩ := X9.leave (v := some (.long (own_sum wsv chs ns nl))) (fun h => by rw [Bd.returns] at h; cases h)
  refine ⟨_, _, k18 _ ?_, hrun, hended, _, _, rfl, ?_, ⟨_, rfl⟩, hW, hsame.mono (Nat.le_of_ble_eq_true rfl) (Nat.le_of_ble_eq_true rfl)⟩
  · exact retOut X9 hx Bd.returns rfl (Or.inr (Or.inl ⟨rfl, rfl, _, rfl⟩)) (hb hby dp8_m2_68) hr
  · show Q5 Z a q st ln ns nl kq chs wsv h0 n0 _ T9.heap _
    rw [e9]
    exact ⟨rfl, N9, rfl⟩
theorem ef_0 (m : MethodId) (x0 : Int64) (x1 : Int32) (x2 : Int64) : entryFrame m #[(.long x0), (.int x1), (.long x2)] maxLocals = mkF m 0 #[.val (.long x0), .second, .val (.int x1), .val (.long x2), .second, .unset, .unset, .unset, .unset, .unset, .unset, .unset, .unset, .unset] [] := by first | (simp [entryFrame, mkF, argsToLocals, Value.category, maxLocals]; done) | rfl
def Q0 (Z : State) (p1 : Int64) (p2 : Int32) (p3 : Int64) (h0 : Heap) (n0 : Nat) (v : Option Value) (h : Heap) (L : List Loc) : Prop := v = some (.int 1) ∧ Fr n0 L
set_option maxRecDepth 65536 in
set_option maxHeartbeats 40000000 in
theorem rm0 (l : Launch) (Z : State) (a0 : Array Value) (hw : ∀ d ∈ tables_1, d.before a0 Z = true) (ws : List Jvm.Cond) (p1 : Int64) (p2 : Int32) (p3 : Int64) (h0 : Heap) (n0 : Nat) (Z0 : n0 ≤ h0.size)  :
    MetFree l x (head1 (Jvm.Cond.code x code maxLocals ret :: ws) room_1) (fun A_ U => A_ = #[(.long p1), (.int p2), (.long p3)] ∧ Z.Warmed39 U.vm ∧ U.heap = h0) (fun _ _ _ _ _ => True) (fun _ U o U' => ∃ v L, o = .returned v ∧ Q0 Z p1 p2 p3 h0 n0 v U'.heap L ∧ ReturnedEndW U o U' L 16 1152) := by
  refine MetFree.of_bodySF (plainFor_of_name pn_1) hisR ?_
  intro p e s m args below meth c s₁ Bd hml0 hP hK
  obtain ⟨rfl, hZ, hh⟩ := hP
  have hx := Bd.exec
  have hby := Bd.bytes
  have hml : c.maxLocals = 14 := hml0
  have hown : s.vm.findClass "com/example/westford/westford/TextLimitCountedPinLaw" = some m.cls := findClass_of_methodNamed Bd.named
  have hnm := (name_of_methodNamed Bd.named Bd.method).1
  have X0 : Stand p l e room_1 s m #[(.long p1), (.int p2), (.long p3)] below meth c s₁ [] 0 0 := Stand.of_body Bd
  have e0 : s₁.heap = h0 := by rw [← hh, Bd.state]; rfl
  have N0 := Fr.nil n0
  have k0 : ∀ t, Steps p.tables e below (s₁.setTop (mkF m 0 #[.val (.long p1), .second, .val (.int p2), .val (.long p3), .second, .unset, .unset, .unset, .unset, .unset, .unset, .unset, .unset, .unset] [])) t → Steps p.tables e below (s₁.setTop (entryFrame m #[(.long p1), (.int p2), (.long p3)] maxLocals)) t := fun t k => castTop (ef_0 m p1 p2 p3) k
  have k1 : ∀ t, Steps p.tables e below (s₁.setTop (mkF m 1 #[.val (.long p1), .second, .val (.int p2), .val (.long p3), .second, .unset, .unset, .unset, .unset, .unset, .unset, .unset, .unset, .unset] [(.int (4 : Int32))])) t → Steps p.tables e below (s₁.setTop (entryFrame m #[(.long p1), (.int p2), (.long p3)] maxLocals)) t := by
    intro t k
    refine k0 _ ?_
    show Steps p.tables e below (s₁.setTop (mkF m 0 #[.val (.long p1), .second, .val (.int p2), .val (.long p3), .second, .unset, .unset, .unset, .unset, .unset, .unset, .unset, .unset, .unset] [])) _
    refine XS.iconst X0.here hx rfl (hb hby at_0) ?_
    show Steps p.tables e below (s₁.setTop (mkF m 1 #[.val (.long p1), .second, .val (.int p2), .val (.long p3), .second, .unset, .unset, .unset, .unset, .unset, .unset, .unset, .unset, .unset] [(.int (4 : Int32))])) _
    exact k
  obtain ⟨T2, h2, k2_, X2, e2, E2, A2, st2⟩ := newP X0 hx hZ (hw _ (List.mem_of_getElem? (i := 0) rfl)) e0 (g := (mkF m 1 #[.val (.long p1), .second, .val (.int p2), .val (.long p3), .second, .unset, .unset, .unset, .unset, .unset, .unset, .unset, .unset, .unset] [(.int (4 : Int32))])) rfl (hb hby at_1) rfl (by decide : ¬ ((4 : Int32) < (0 : Int32))) (cap := 4) (by decide : (4 : Int32).toNatClampNeg ≤ 4) (by decide) (by decide) (by decide)
  obtain ⟨b2, g2⟩ : ∃ z, z = h0.size := ⟨_, rfl⟩
  rw [← g2] at A2 st2
  have g_b2 : n0 ≤ b2 := Nat.le_trans Z0 (Nat.le_of_eq g2.symm)
  have sz_b2 : h0.size ≤ b2 := Nat.le_trans (Keep.refl h0 []).1 (Nat.le_of_eq g2.symm)
  have V2 : Arv Z h2 b2 k2_ .char (4 : Int32) [(.int (0 : Int32)), (.int (0 : Int32)), (.int (0 : Int32)), (.int (0 : Int32))] (.int (0 : Int32)) := (Arv.new A2 (by decide : ¬ ((4 : Int32) < (0 : Int32)))).pad (pad_rep [] (.int (0 : Int32)) 4)
  have k2 : ∀ t, Steps p.tables e below (T2.setTop (mkF m 3 #[.val (.long p1), .second, .val (.int p2), .val (.long p3), .second, .unset, .unset, .unset, .unset, .unset, .unset, .unset, .unset, .unset] [(.ref b2)])) t → Steps p.tables e below (s₁.setTop (entryFrame m #[(.long p1), (.int p2), (.long p3)] maxLocals)) t := fun t k => k1 t (st2 _ k)
  have Z3 : n0 ≤ h2.size := Nat.le_trans Z0 E2.1
  have k4 : ∀ t, Steps p.tables e below (T2.setTop (mkF m 15 #[.val (.long p1), .second, .val (.int p2), .val (.long p3), .second, .val (.ref b2), .unset, .unset, .unset, .unset, .unset, .unset, .unset, .unset] [(.int (((p1 &&& (65535 : Int64)).toInt32).toUInt32.toUInt16.toUInt32.toInt32)), (.int (0 : Int32)), (.ref b2)])) t → Steps p.tables e below (s₁.setTop (entryFrame m #[(.long p1), (.int p2), (.long p3)] maxLocals)) t := by
    intro t k
    refine k2 _ ?_
    show Steps p.tables e below (T2.setTop (mkF m 3 #[.val (.long p1), .second, .val (.int p2), .val (.long p3), .second, .unset, .unset, .unset, .unset, .unset, .unset, .unset, .unset, .unset] [(.ref b2)])) _
    refine XS.astore X2.here hx rfl (hb hby at_3) rfl rfl (l' := #[.val (.long p1), .second, .val (.int p2), .val (.long p3), .second, .val (.ref b2), .unset, .unset, .unset, .unset, .unset, .unset, .unset, .unset]) rfl ?_
    show Steps p.tables e below (T2.setTop (mkF m 5 #[.val (.long p1), .second, .val (.int p2), .val (.long p3), .second, .val (.ref b2), .unset, .unset, .unset, .unset, .unset, .unset, .unset, .unset] [])) _
    refine XS.aload X2.here hx rfl (hb hby at_5) rfl rfl ?_
    show Steps p.tables e below (T2.setTop (mkF m 7 #[.val (.long p1), .second, .val (.int p2), .val (.long p3), .second, .val (.ref b2), .unset, .unset, .unset, .unset, .unset, .unset, .unset, .unset] [(.ref b2)])) _
    refine XS.iconst X2.here hx rfl (hb hby at_7) ?_
    show Steps p.tables e below (T2.setTop (mkF m 8 #[.val (.long p1), .second, .val (.int p2), .val (.long p3), .second, .val (.ref b2), .unset, .unset, .unset, .unset, .unset, .unset, .unset, .unset] [(.int (0 : Int32)), (.ref b2)])) _
    refine XS.lloadN X2.here hx rfl (hb hby at_8) rfl ?_
    show Steps p.tables e below (T2.setTop (mkF m 9 #[.val (.long p1), .second, .val (.int p2), .val (.long p3), .second, .val (.ref b2), .unset, .unset, .unset, .unset, .unset, .unset, .unset, .unset] [(.long p1), (.int (0 : Int32)), (.ref b2)])) _
    refine X2.ldc2Long hx hown (mvT hZ (hw _ (List.mem_of_getElem? (i := 1) rfl))) (g := (mkF m 9 #[.val (.long p1), .second, .val (.int p2), .val (.long p3), .second, .val (.ref b2), .unset, .unset, .unset, .unset, .unset, .unset, .unset, .unset] [(.long p1), (.int (0 : Int32)), (.ref b2)])) rfl (hb hby at_9) _ ?_
    show Steps p.tables e below (T2.setTop (mkF m 12 #[.val (.long p1), .second, .val (.int p2), .val (.long p3), .second, .val (.ref b2), .unset, .unset, .unset, .unset, .unset, .unset, .unset, .unset] [(.long (65535 : Int64)), (.long p1), (.int (0 : Int32)), (.ref b2)])) _
    refine XS.land X2.here hx rfl (hb hby at_12) rfl ?_
    show Steps p.tables e below (T2.setTop (mkF m 13 #[.val (.long p1), .second, .val (.int p2), .val (.long p3), .second, .val (.ref b2), .unset, .unset, .unset, .unset, .unset, .unset, .unset, .unset] [(.long (p1 &&& (65535 : Int64))), (.int (0 : Int32)), (.ref b2)])) _
    refine XS.l2i X2.here hx rfl (hb hby at_13) rfl ?_
    show Steps p.tables e below (T2.setTop (mkF m 14 #[.val (.long p1), .second, .val (.int p2), .val (.long p3), .second, .val (.ref b2), .unset, .unset, .unset, .unset, .unset, .unset, .unset, .unset] [(.int ((p1 &&& (65535 : Int64)).toInt32)), (.int (0 : Int32)), (.ref b2)])) _
    refine XS.i2c X2.here hx rfl (hb hby at_14) rfl ?_
    show Steps p.tables e below (T2.setTop (mkF m 15 #[.val (.long p1), .second, .val (.int p2), .val (.long p3), .second, .val (.ref b2), .unset, .unset, .unset, .unset, .unset, .unset, .unset, .unset] [(.int (((p1 &&& (65535 : Int64)).toInt32).toUInt32.toUInt16.toUInt32.toInt32)), (.int (0 : Int32)), (.ref b2)])) _
    exact k
  obtain ⟨cl5, Ar5, qk5, Sz5, Nn5, Hs5, Gs5⟩ := id V2
  obtain ⟨T6, h6, X6, e6, W6, st6⟩ := stC X2 hx hZ e2 Ar5 (j := (0 : Int32)) (inb_of Sz5 ⟨(by decide : ¬ ((0 : Int32) < (0 : Int32))), (by decide : (0 : Int32) < (4 : Int32))⟩) (g := (mkF m 15 #[.val (.long p1), .second, .val (.int p2), .val (.long p3), .second, .val (.ref b2), .unset, .unset, .unset, .unset, .unset, .unset, .unset, .unset] [(.int (((p1 &&& (65535 : Int64)).toInt32).toUInt32.toUInt16.toUInt32.toInt32)), (.int (0 : Int32)), (.ref b2)])) rfl rfl (hb hby at_15)
  have N6 := Fr.snoc X6 N0 g_b2
  have V6 : Arv Z h6 b2 k2_ .char (4 : Int32) [(.int (nar .char (((p1 &&& (65535 : Int64)).toInt32).toUInt32.toUInt16.toUInt32.toInt32))), (.int (0 : Int32)), (.int (0 : Int32)), (.int (0 : Int32))] (.int (0 : Int32)) := Arv.set Ar5 qk5 Sz5 Nn5 Hs5 Gs5 (fits_nar_char _) W6 0 rfl (Nat.le_of_ble_eq_true rfl)
  have k6 : ∀ t, Steps p.tables e below (T6.setTop (mkF m 16 #[.val (.long p1), .second, .val (.int p2), .val (.long p3), .second, .val (.ref b2), .unset, .unset, .unset, .unset, .unset, .unset, .unset, .unset] [])) t → Steps p.tables e below (s₁.setTop (entryFrame m #[(.long p1), (.int p2), (.long p3)] maxLocals)) t := fun t k => k4 t (st6 _ k)
  have Z7 : n0 ≤ h6.size := Nat.le_trans Z3 (Keep.of_wr W6).1
  obtain ⟨c0_, eq_c0_⟩ : ∃ z : Int32, z = (nar .char (((p1 &&& (65535 : Int64)).toInt32).toUInt32.toUInt16.toUInt32.toInt32)) := ⟨_, rfl⟩
  rw [← eq_c0_] at V6
  have k8 : ∀ t, Steps p.tables e below (T6.setTop (mkF m 29 #[.val (.long p1), .second, .val (.int p2), .val (.long p3), .second, .val (.ref b2), .unset, .unset, .unset, .unset, .unset, .unset, .unset, .unset] [(.int (((((p1.toUInt64 >>> ((16 : Int32) &&& 0x3f).toInt64.toUInt64).toInt64) &&& (65535 : Int64)).toInt32).toUInt32.toUInt16.toUInt32.toInt32)), (.int (1 : Int32)), (.ref b2)])) t → Steps p.tables e below (s₁.setTop (entryFrame m #[(.long p1), (.int p2), (.long p3)] maxLocals)) t := by
    intro t k
    refine k6 _ ?_
    show Steps p.tables e below (T6.setTop (mkF m 16 #[.val (.long p1), .second, .val (.int p2), .val (.long p3), .second, .val (.ref b2), .unset, .unset, .unset, .unset, .unset, .unset, .unset, .unset] [])) _
    refine XS.aload X6.here hx rfl (hb hby at_16) rfl rfl ?_
    show Steps p.tables e below (T6.setTop (mkF m 18 #[.val (.long p1), .second, .val (.int p2), .val (.long p3), .second, .val (.ref b2), .unset, .unset, .unset, .unset, .unset, .unset, .unset, .unset] [(.ref b2)])) _
    refine XS.iconst X6.here hx rfl (hb hby at_18) ?_
    show Steps p.tables e below (T6.setTop (mkF m 19 #[.val (.long p1), .second, .val (.int p2), .val (.long p3), .second, .val (.ref b2), .unset, .unset, .unset, .unset, .unset, .unset, .unset, .unset] [(.int (1 : Int32)), (.ref b2)])) _
    refine XS.lloadN X6.here hx rfl (hb hby at_19) rfl ?_
    show Steps p.tables e below (T6.setTop (mkF m 20 #[.val (.long p1), .second, .val (.int p2), .val (.long p3), .second, .val (.ref b2), .unset, .unset, .unset, .unset, .unset, .unset, .unset, .unset] [(.long p1), (.int (1 : Int32)), (.ref b2)])) _
    refine XS.bipush X6.here hx rfl (hb hby at_20) ?_
    show Steps p.tables e below (T6.setTop (mkF m 22 #[.val (.long p1), .second, .val (.int p2), .val (.long p3), .second, .val (.ref b2), .unset, .unset, .unset, .unset, .unset, .unset, .unset, .unset] [(.int (16 : Int32)), (.long p1), (.int (1 : Int32)), (.ref b2)])) _
    refine XS.lushr X6.here hx rfl (hb hby at_22) rfl ?_
    show Steps p.tables e below (T6.setTop (mkF m 23 #[.val (.long p1), .second, .val (.int p2), .val (.long p3), .second, .val (.ref b2), .unset, .unset, .unset, .unset, .unset, .unset, .unset, .unset] [(.long ((p1.toUInt64 >>> ((16 : Int32) &&& 0x3f).toInt64.toUInt64).toInt64)), (.int (1 : Int32)), (.ref b2)])) _
    refine X6.ldc2Long hx hown (mvT hZ (hw _ (List.mem_of_getElem? (i := 1) rfl))) (g := (mkF m 23 #[.val (.long p1), .second, .val (.int p2), .val (.long p3), .second, .val (.ref b2), .unset, .unset, .unset, .unset, .unset, .unset, .unset, .unset] [(.long ((p1.toUInt64 >>> ((16 : Int32) &&& 0x3f).toInt64.toUInt64).toInt64)), (.int (1 : Int32)), (.ref b2)])) rfl (hb hby at_23) _ ?_
    show Steps p.tables e below (T6.setTop (mkF m 26 #[.val (.long p1), .second, .val (.int p2), .val (.long p3), .second, .val (.ref b2), .unset, .unset, .unset, .unset, .unset, .unset, .unset, .unset] [(.long (65535 : Int64)), (.long ((p1.toUInt64 >>> ((16 : Int32) &&& 0x3f).toInt64.toUInt64).toInt64)), (.int (1 : Int32)), (.ref b2)])) _
    refine XS.land X6.here hx rfl (hb hby at_26) rfl ?_
    show Steps p.tables e below (T6.setTop (mkF m 27 #[.val (.long p1), .second, .val (.int p2), .val (.long p3), .second, .val (.ref b2), .unset, .unset, .unset, .unset, .unset, .unset, .unset, .unset] [(.long (((p1.toUInt64 >>> ((16 : Int32) &&& 0x3f).toInt64.toUInt64).toInt64) &&& (65535 : Int64))), (.int (1 : Int32)), (.ref b2)])) _
    refine XS.l2i X6.here hx rfl (hb hby at_27) rfl ?_
    show Steps p.tables e below (T6.setTop (mkF m 28 #[.val (.long p1), .second, .val (.int p2), .val (.long p3), .second, .val (.ref b2), .unset, .unset, .unset, .unset, .unset, .unset, .unset, .unset] [(.int ((((p1.toUInt64 >>> ((16 : Int32) &&& 0x3f).toInt64.toUInt64).toInt64) &&& (65535 : Int64)).toInt32)), (.int (1 : Int32)), (.ref b2)])) _
    refine XS.i2c X6.here hx rfl (hb hby at_28) rfl ?_
    show Steps p.tables e below (T6.setTop (mkF m 29 #[.val (.long p1), .second, .val (.int p2), .val (.long p3), .second, .val (.ref b2), .unset, .unset, .unset, .unset, .unset, .unset, .unset, .unset] [(.int (((((p1.toUInt64 >>> ((16 : Int32) &&& 0x3f).toInt64.toUInt64).toInt64) &&& (65535 : Int64)).toInt32).toUInt32.toUInt16.toUInt32.toInt32)), (.int (1 : Int32)), (.ref b2)])) _
    exact k
  obtain ⟨cl9, Ar9, qk9, Sz9, Nn9, Hs9, Gs9⟩ := id V6
  obtain ⟨T10, h10, X10, e10, W10, st10⟩ := stC X6 hx hZ e6 Ar9 (j := (1 : Int32)) (inb_of Sz9 ⟨(by decide : ¬ ((1 : Int32) < (0 : Int32))), (by decide : (1 : Int32) < (4 : Int32))⟩) (g := (mkF m 29 #[.val (.long p1), .second, .val (.int p2), .val (.long p3), .second, .val (.ref b2), .unset, .unset, .unset, .unset, .unset, .unset, .unset, .unset] [(.int (((((p1.toUInt64 >>> ((16 : Int32) &&& 0x3f).toInt64.toUInt64).toInt64) &&& (65535 : Int64)).toInt32).toUInt32.toUInt16.toUInt32.toInt32)), (.int (1 : Int32)), (.ref b2)])) rfl rfl (hb hby at_29)
  have N10 := Fr.snoc X10 N6 g_b2
  have V10 : Arv Z h10 b2 k2_ .char (4 : Int32) [(.int c0_), (.int (nar .char (((((p1.toUInt64 >>> ((16 : Int32) &&& 0x3f).toInt64.toUInt64).toInt64) &&& (65535 : Int64)).toInt32).toUInt32.toUInt16.toUInt32.toInt32))), (.int (0 : Int32)), (.int (0 : Int32))] (.int (0 : Int32)) := Arv.set Ar9 qk9 Sz9 Nn9 Hs9 Gs9 (fits_nar_char _) W10 1 rfl (Nat.le_of_ble_eq_true rfl)
  have k10 : ∀ t, Steps p.tables e below (T10.setTop (mkF m 30 #[.val (.long p1), .second, .val (.int p2), .val (.long p3), .second, .val (.ref b2), .unset, .unset, .unset, .unset, .unset, .unset, .unset, .unset] [])) t → Steps p.tables e below (s₁.setTop (entryFrame m #[(.long p1), (.int p2), (.long p3)] maxLocals)) t := fun t k => k8 t (st10 _ k)
  have Z11 : n0 ≤ h10.size := Nat.le_trans Z7 (Keep.of_wr W10).1
  obtain ⟨c1_, eq_c1_⟩ : ∃ z : Int32, z = (nar .char (((((p1.toUInt64 >>> ((16 : Int32) &&& 0x3f).toInt64.toUInt64).toInt64) &&& (65535 : Int64)).toInt32).toUInt32.toUInt16.toUInt32.toInt32)) := ⟨_, rfl⟩
  rw [← eq_c1_] at V10
  have k12 : ∀ t, Steps p.tables e below (T10.setTop (mkF m 43 #[.val (.long p1), .second, .val (.int p2), .val (.long p3), .second, .val (.ref b2), .unset, .unset, .unset, .unset, .unset, .unset, .unset, .unset] [(.int (((((p1.toUInt64 >>> ((32 : Int32) &&& 0x3f).toInt64.toUInt64).toInt64) &&& (65535 : Int64)).toInt32).toUInt32.toUInt16.toUInt32.toInt32)), (.int (2 : Int32)), (.ref b2)])) t → Steps p.tables e below (s₁.setTop (entryFrame m #[(.long p1), (.int p2), (.long p3)] maxLocals)) t := by
    intro t k
    refine k10 _ ?_
    show Steps p.tables e below (T10.setTop (mkF m 30 #[.val (.long p1), .second, .val (.int p2), .val (.long p3), .second, .val (.ref b2), .unset, .unset, .unset, .unset, .unset, .unset, .unset, .unset] [])) _
    refine XS.aload X10.here hx rfl (hb hby at_30) rfl rfl ?_
    show Steps p.tables e below (T10.setTop (mkF m 32 #[.val (.long p1), .second, .val (.int p2), .val (.long p3), .second, .val (.ref b2), .unset, .unset, .unset, .unset, .unset, .unset, .unset, .unset] [(.ref b2)])) _
    refine XS.iconst X10.here hx rfl (hb hby at_32) ?_
    show Steps p.tables e below (T10.setTop (mkF m 33 #[.val (.long p1), .second, .val (.int p2), .val (.long p3), .second, .val (.ref b2), .unset, .unset, .unset, .unset, .unset, .unset, .unset, .unset] [(.int (2 : Int32)), (.ref b2)])) _
    refine XS.lloadN X10.here hx rfl (hb hby at_33) rfl ?_
    show Steps p.tables e below (T10.setTop (mkF m 34 #[.val (.long p1), .second, .val (.int p2), .val (.long p3), .second, .val (.ref b2), .unset, .unset, .unset, .unset, .unset, .unset, .unset, .unset] [(.long p1), (.int (2 : Int32)), (.ref b2)])) _
    refine XS.bipush X10.here hx rfl (hb hby at_34) ?_
    show Steps p.tables e below (T10.setTop (mkF m 36 #[.val (.long p1), .second, .val (.int p2), .val (.long p3), .second, .val (.ref b2), .unset, .unset, .unset, .unset, .unset, .unset, .unset, .unset] [(.int (32 : Int32)), (.long p1), (.int (2 : Int32)), (.ref b2)])) _
    refine XS.lushr X10.here hx rfl (hb hby at_36) rfl ?_
    show Steps p.tables e below (T10.setTop (mkF m 37 #[.val (.long p1), .second, .val (.int p2), .val (.long p3), .second, .val (.ref b2), .unset, .unset, .unset, .unset, .unset, .unset, .unset, .unset] [(.long ((p1.toUInt64 >>> ((32 : Int32) &&& 0x3f).toInt64.toUInt64).toInt64)), (.int (2 : Int32)), (.ref b2)])) _
    refine X10.ldc2Long hx hown (mvT hZ (hw _ (List.mem_of_getElem? (i := 1) rfl))) (g := (mkF m 37 #[.val (.long p1), .second, .val (.int p2), .val (.long p3), .second, .val (.ref b2), .unset, .unset, .unset, .unset, .unset, .unset, .unset, .unset] [(.long ((p1.toUInt64 >>> ((32 : Int32) &&& 0x3f).toInt64.toUInt64).toInt64)), (.int (2 : Int32)), (.ref b2)])) rfl (hb hby at_37) _ ?_
    show Steps p.tables e below (T10.setTop (mkF m 40 #[.val (.long p1), .second, .val (.int p2), .val (.long p3), .second, .val (.ref b2), .unset, .unset, .unset, .unset, .unset, .unset, .unset, .unset] [(.long (65535 : Int64)), (.long ((p1.toUInt64 >>> ((32 : Int32) &&& 0x3f).toInt64.toUInt64).toInt64)), (.int (2 : Int32)), (.ref b2)])) _
    refine XS.land X10.here hx rfl (hb hby at_40) rfl ?_
    show Steps p.tables e below (T10.setTop (mkF m 41 #[.val (.long p1), .second, .val (.int p2), .val (.long p3), .second, .val (.ref b2), .unset, .unset, .unset, .unset, .unset, .unset, .unset, .unset] [(.long (((p1.toUInt64 >>> ((32 : Int32) &&& 0x3f).toInt64.toUInt64).toInt64) &&& (65535 : Int64))), (.int (2 : Int32)), (.ref b2)])) _
    refine XS.l2i X10.here hx rfl (hb hby at_41) rfl ?_
    show Steps p.tables e below (T10.setTop (mkF m 42 #[.val (.long p1), .second, .val (.int p2), .val (.long p3), .second, .val (.ref b2), .unset, .unset, .unset, .unset, .unset, .unset, .unset, .unset] [(.int ((((p1.toUInt64 >>> ((32 : Int32) &&& 0x3f).toInt64.toUInt64).toInt64) &&& (65535 : Int64)).toInt32)), (.int (2 : Int32)), (.ref b2)])) _
    refine XS.i2c X10.here hx rfl (hb hby at_42) rfl ?_
    show Steps p.tables e below (T10.setTop (mkF m 43 #[.val (.long p1), .second, .val (.int p2), .val (.long p3), .second, .val (.ref b2), .unset, .unset, .unset, .unset, .unset, .unset, .unset, .unset] [(.int (((((p1.toUInt64 >>> ((32 : Int32) &&& 0x3f).toInt64.toUInt64).toInt64) &&& (65535 : Int64)).toInt32).toUInt32.toUInt16.toUInt32.toInt32)), (.int (2 : Int32)), (.ref b2)])) _
    exact k
  obtain ⟨cl13, Ar13, qk13, Sz13, Nn13, Hs13, Gs13⟩ := id V10
  obtain ⟨T14, h14, X14, e14, W14, st14⟩ := stC X10 hx hZ e10 Ar13 (j := (2 : Int32)) (inb_of Sz13 ⟨(by decide : ¬ ((2 : Int32) < (0 : Int32))), (by decide : (2 : Int32) < (4 : Int32))⟩) (g := (mkF m 43 #[.val (.long p1), .second, .val (.int p2), .val (.long p3), .second, .val (.ref b2), .unset, .unset, .unset, .unset, .unset, .unset, .unset, .unset] [(.int (((((p1.toUInt64 >>> ((32 : Int32) &&& 0x3f).toInt64.toUInt64).toInt64) &&& (65535 : Int64)).toInt32).toUInt32.toUInt16.toUInt32.toInt32)), (.int (2 : Int32)), (.ref b2)])) rfl rfl (hb hby at_43)
  have N14 := Fr.snoc X14 N10 g_b2
  have V14 : Arv Z h14 b2 k2_ .char (4 : Int32) [(.int c0_), (.int c1_), (.int (nar .char (((((p1.toUInt64 >>> ((32 : Int32) &&& 0x3f).toInt64.toUInt64).toInt64) &&& (65535 : Int64)).toInt32).toUInt32.toUInt16.toUInt32.toInt32))), (.int (0 : Int32))] (.int (0 : Int32)) := Arv.set Ar13 qk13 Sz13 Nn13 Hs13 Gs13 (fits_nar_char _) W14 2 rfl (Nat.le_of_ble_eq_true rfl)
  have k14 : ∀ t, Steps p.tables e below (T14.setTop (mkF m 44 #[.val (.long p1), .second, .val (.int p2), .val (.long p3), .second, .val (.ref b2), .unset, .unset, .unset, .unset, .unset, .unset, .unset, .unset] [])) t → Steps p.tables e below (s₁.setTop (entryFrame m #[(.long p1), (.int p2), (.long p3)] maxLocals)) t := fun t k => k12 t (st14 _ k)
  have Z15 : n0 ≤ h14.size := Nat.le_trans Z11 (Keep.of_wr W14).1
  obtain ⟨c2_, eq_c2_⟩ : ∃ z : Int32, z = (nar .char (((((p1.toUInt64 >>> ((32 : Int32) &&& 0x3f).toInt64.toUInt64).toInt64) &&& (65535 : Int64)).toInt32).toUInt32.toUInt16.toUInt32.toInt32)) := ⟨_, rfl⟩
  rw [← eq_c2_] at V14
  have k16 : ∀ t, Steps p.tables e below (T14.setTop (mkF m 57 #[.val (.long p1), .second, .val (.int p2), .val (.long p3), .second, .val (.ref b2), .unset, .unset, .unset, .unset, .unset, .unset, .unset, .unset] [(.int (((((p1.toUInt64 >>> ((48 : Int32) &&& 0x3f).toInt64.toUInt64).toInt64) &&& (65535 : Int64)).toInt32).toUInt32.toUInt16.toUInt32.toInt32)), (.int (3 : Int32)), (.ref b2)])) t → Steps p.tables e below (s₁.setTop (entryFrame m #[(.long p1), (.int p2), (.long p3)] maxLocals)) t := by
    intro t k
    refine k14 _ ?_
    show Steps p.tables e below (T14.setTop (mkF m 44 #[.val (.long p1), .second, .val (.int p2), .val (.long p3), .second, .val (.ref b2), .unset, .unset, .unset, .unset, .unset, .unset, .unset, .unset] [])) _
    refine XS.aload X14.here hx rfl (hb hby at_44) rfl rfl ?_
    show Steps p.tables e below (T14.setTop (mkF m 46 #[.val (.long p1), .second, .val (.int p2), .val (.long p3), .second, .val (.ref b2), .unset, .unset, .unset, .unset, .unset, .unset, .unset, .unset] [(.ref b2)])) _
    refine XS.iconst X14.here hx rfl (hb hby at_46) ?_
    show Steps p.tables e below (T14.setTop (mkF m 47 #[.val (.long p1), .second, .val (.int p2), .val (.long p3), .second, .val (.ref b2), .unset, .unset, .unset, .unset, .unset, .unset, .unset, .unset] [(.int (3 : Int32)), (.ref b2)])) _
    refine XS.lloadN X14.here hx rfl (hb hby at_47) rfl ?_
    show Steps p.tables e below (T14.setTop (mkF m 48 #[.val (.long p1), .second, .val (.int p2), .val (.long p3), .second, .val (.ref b2), .unset, .unset, .unset, .unset, .unset, .unset, .unset, .unset] [(.long p1), (.int (3 : Int32)), (.ref b2)])) _
    refine XS.bipush X14.here hx rfl (hb hby at_48) ?_
    show Steps p.tables e below (T14.setTop (mkF m 50 #[.val (.long p1), .second, .val (.int p2), .val (.long p3), .second, .val (.ref b2), .unset, .unset, .unset, .unset, .unset, .unset, .unset, .unset] [(.int (48 : Int32)), (.long p1), (.int (3 : Int32)), (.ref b2)])) _
    refine XS.lushr X14.here hx rfl (hb hby at_50) rfl ?_
    show Steps p.tables e below (T14.setTop (mkF m 51 #[.val (.long p1), .second, .val (.int p2), .val (.long p3), .second, .val (.ref b2), .unset, .unset, .unset, .unset, .unset, .unset, .unset, .unset] [(.long ((p1.toUInt64 >>> ((48 : Int32) &&& 0x3f).toInt64.toUInt64).toInt64)), (.int (3 : Int32)), (.ref b2)])) _
    refine X14.ldc2Long hx hown (mvT hZ (hw _ (List.mem_of_getElem? (i := 1) rfl))) (g := (mkF m 51 #[.val (.long p1), .second, .val (.int p2), .val (.long p3), .second, .val (.ref b2), .unset, .unset, .unset, .unset, .unset, .unset, .unset, .unset] [(.long ((p1.toUInt64 >>> ((48 : Int32) &&& 0x3f).toInt64.toUInt64).toInt64)), (.int (3 : Int32)), (.ref b2)])) rfl (hb hby at_51) _ ?_
    show Steps p.tables e below (T14.setTop (mkF m 54 #[.val (.long p1), .second, .val (.int p2), .val (.long p3), .second, .val (.ref b2), .unset, .unset, .unset, .unset, .unset, .unset, .unset, .unset] [(.long (65535 : Int64)), (.long ((p1.toUInt64 >>> ((48 : Int32) &&& 0x3f).toInt64.toUInt64).toInt64)), (.int (3 : Int32)), (.ref b2)])) _
    refine XS.land X14.here hx rfl (hb hby at_54) rfl ?_
    show Steps p.tables e below (T14.setTop (mkF m 55 #[.val (.long p1), .second, .val (.int p2), .val (.long p3), .second, .val (.ref b2), .unset, .unset, .unset, .unset, .unset, .unset, .unset, .unset] [(.long (((p1.toUInt64 >>> ((48 : Int32) &&& 0x3f).toInt64.toUInt64).toInt64) &&& (65535 : Int64))), (.int (3 : Int32)), (.ref b2)])) _
    refine XS.l2i X14.here hx rfl (hb hby at_55) rfl ?_
    show Steps p.tables e below (T14.setTop (mkF m 56 #[.val (.long p1), .second, .val (.int p2), .val (.long p3), .second, .val (.ref b2), .unset, .unset, .unset, .unset, .unset, .unset, .unset, .unset] [(.int ((((p1.toUInt64 >>> ((48 : Int32) &&& 0x3f).toInt64.toUInt64).toInt64) &&& (65535 : Int64)).toInt32)), (.int (3 : Int32)), (.ref b2)])) _
    refine XS.i2c X14.here hx rfl (hb hby at_56) rfl ?_
    show Steps p.tables e below (T14.setTop (mkF m 57 #[.val (.long p1), .second, .val (.int p2), .val (.long p3), .second, .val (.ref b2), .unset, .unset, .unset, .unset, .unset, .unset, .unset, .unset] [(.int (((((p1.toUInt64 >>> ((48 : Int32) &&& 0x3f).toInt64.toUInt64).toInt64) &&& (65535 : Int64)).toInt32).toUInt32.toUInt16.toUInt32.toInt32)), (.int (3 : Int32)), (.ref b2)])) _
    exact k
  obtain ⟨cl17, Ar17, qk17, Sz17, Nn17, Hs17, Gs17⟩ := id V14
  obtain ⟨T18, h18, X18, e18, W18, st18⟩ := stC X14 hx hZ e14 Ar17 (j := (3 : Int32)) (inb_of Sz17 ⟨(by decide : ¬ ((3 : Int32) < (0 : Int32))), (by decide : (3 : Int32) < (4 : Int32))⟩) (g := (mkF m 57 #[.val (.long p1), .second, .val (.int p2), .val (.long p3), .second, .val (.ref b2), .unset, .unset, .unset, .unset, .unset, .unset, .unset, .unset] [(.int (((((p1.toUInt64 >>> ((48 : Int32) &&& 0x3f).toInt64.toUInt64).toInt64) &&& (65535 : Int64)).toInt32).toUInt32.toUInt16.toUInt32.toInt32)), (.int (3 : Int32)), (.ref b2)])) rfl rfl (hb hby at_57)
  have N18 := Fr.snoc X18 N14 g_b2
  have V18 : Arv Z h18 b2 k2_ .char (4 : Int32) [(.int c0_), (.int c1_), (.int c2_), (.int (nar .char (((((p1.toUInt64 >>> ((48 : Int32) &&& 0x3f).toInt64.toUInt64).toInt64) &&& (65535 : Int64)).toInt32).toUInt32.toUInt16.toUInt32.toInt32)))] (.int (0 : Int32)) := Arv.set Ar17 qk17 Sz17 Nn17 Hs17 Gs17 (fits_nar_char _) W18 3 rfl (Nat.le_of_ble_eq_true rfl)
  have k18 : ∀ t, Steps p.tables e below (T18.setTop (mkF m 58 #[.val (.long p1), .second, .val (.int p2), .val (.long p3), .second, .val (.ref b2), .unset, .unset, .unset, .unset, .unset, .unset, .unset, .unset] [])) t → Steps p.tables e below (s₁.setTop (entryFrame m #[(.long p1), (.int p2), (.long p3)] maxLocals)) t := fun t k => k16 t (st18 _ k)
  have Z19 : n0 ≤ h18.size := Nat.le_trans Z15 (Keep.of_wr W18).1
  obtain ⟨c3_, eq_c3_⟩ : ∃ z : Int32, z = (nar .char (((((p1.toUInt64 >>> ((48 : Int32) &&& 0x3f).toInt64.toUInt64).toInt64) &&& (65535 : Int64)).toInt32).toUInt32.toUInt16.toUInt32.toInt32)) := ⟨_, rfl⟩
  rw [← eq_c3_] at V18
  have k20 : ∀ t, Steps p.tables e below (T18.setTop (mkF m 67 #[.val (.long p1), .second, .val (.int p2), .val (.long p3), .second, .val (.ref b2), .val (.int ((p2 &&& (255 : Int32)) % (5 : Int32))), .unset, .unset, .unset, .unset, .unset, .unset, .unset] [])) t → Steps p.tables e below (s₁.setTop (entryFrame m #[(.long p1), (.int p2), (.long p3)] maxLocals)) t := by
    intro t k
    refine k18 _ ?_
    show Steps p.tables e below (T18.setTop (mkF m 58 #[.val (.long p1), .second, .val (.int p2), .val (.long p3), .second, .val (.ref b2), .unset, .unset, .unset, .unset, .unset, .unset, .unset, .unset] [])) _
    refine XS.iloadN X18.here hx rfl (hb hby at_58) rfl ?_
    show Steps p.tables e below (T18.setTop (mkF m 59 #[.val (.long p1), .second, .val (.int p2), .val (.long p3), .second, .val (.ref b2), .unset, .unset, .unset, .unset, .unset, .unset, .unset, .unset] [(.int p2)])) _
    refine XS.sipush X18.here hx rfl (hb hby at_59) ?_
    show Steps p.tables e below (T18.setTop (mkF m 62 #[.val (.long p1), .second, .val (.int p2), .val (.long p3), .second, .val (.ref b2), .unset, .unset, .unset, .unset, .unset, .unset, .unset, .unset] [(.int (255 : Int32)), (.int p2)])) _
    refine XS.iand X18.here hx rfl (hb hby at_62) rfl ?_
    show Steps p.tables e below (T18.setTop (mkF m 63 #[.val (.long p1), .second, .val (.int p2), .val (.long p3), .second, .val (.ref b2), .unset, .unset, .unset, .unset, .unset, .unset, .unset, .unset] [(.int (p2 &&& (255 : Int32)))])) _
    refine XS.iconst X18.here hx rfl (hb hby at_63) ?_
    show Steps p.tables e below (T18.setTop (mkF m 64 #[.val (.long p1), .second, .val (.int p2), .val (.long p3), .second, .val (.ref b2), .unset, .unset, .unset, .unset, .unset, .unset, .unset, .unset] [(.int (5 : Int32)), (.int (p2 &&& (255 : Int32)))])) _
    refine iremM X18 hx rfl (hb hby at_64) rfl (by decide) ?_
    show Steps p.tables e below (T18.setTop (mkF m 65 #[.val (.long p1), .second, .val (.int p2), .val (.long p3), .second, .val (.ref b2), .unset, .unset, .unset, .unset, .unset, .unset, .unset, .unset] [(.int ((p2 &&& (255 : Int32)) % (5 : Int32)))])) _
    refine XS.istore X18.here hx rfl (hb hby at_65) rfl (l' := #[.val (.long p1), .second, .val (.int p2), .val (.long p3), .second, .val (.ref b2), .val (.int ((p2 &&& (255 : Int32)) % (5 : Int32))), .unset, .unset, .unset, .unset, .unset, .unset, .unset]) rfl ?_
    show Steps p.tables e below (T18.setTop (mkF m 67 #[.val (.long p1), .second, .val (.int p2), .val (.long p3), .second, .val (.ref b2), .val (.int ((p2 &&& (255 : Int32)) % (5 : Int32))), .unset, .unset, .unset, .unset, .unset, .unset, .unset] [])) _
    exact k
  obtain ⟨st, eq_st⟩ : ∃ z : Int32, z = ((p2 &&& (255 : Int32)) % (5 : Int32)) := ⟨_, rfl⟩
  rw [← eq_st] at k20
  obtain ⟨ns, hns, hns4⟩ : ∃ ns : Nat, st = Int32.ofNat ns ∧ ns ≤ 4 := by
    have h1 := c_mask p2 255 8 (by decide) (by decide)
    have h2 := (c_irem (p2 &&& (255 : Int32)) 5 5 rfl).1
    simp only [Nat.reducePow] at h1
    have h3 := h2 (by omega)
    rw [← eq_st] at h3
    refine ⟨st.toInt.toNat, Int32.toInt_inj.mp ?_, by omega⟩
    rw [own_ofNat (by omega)]; omega
  have h5 : ((5 : Int32) - st).toInt = 5 - (ns : Int) := by
    have h1 := c_isub 5 st
    have h2 := rng32 ((5 : Int32) - st)
    rw [hns, own_ofNat (by omega)] at h1
    rw [show (5 : Int32).toInt = 5 from rfl] at h1
    rw [hns] at h2 ⊢
    omega
  have hnz : ((5 : Int32) - st) ≠ (0 : Int32) := fun q => by rw [q] at h5; rw [show (0 : Int32).toInt = 0 from rfl] at h5; omega
  have k21 : ∀ t, Steps p.tables e below (T18.setTop (mkF m 82 #[.val (.long p1), .second, .val (.int p2), .val (.long p3), .second, .val (.ref b2), .val (.int st), .val (.int ((((p2.toUInt32 >>> ((8 : Int32) &&& 31).toUInt32).toInt32) &&& (255 : Int32)) % ((5 : Int32) - st))), .unset, .unset, .unset, .unset, .unset, .unset] [])) t → Steps p.tables e below (s₁.setTop (entryFrame m #[(.long p1), (.int p2), (.long p3)] maxLocals)) t := by
    intro t k
    refine k20 _ ?_
    show Steps p.tables e below (T18.setTop (mkF m 67 #[.val (.long p1), .second, .val (.int p2), .val (.long p3), .second, .val (.ref b2), .val (.int st), .unset, .unset, .unset, .unset, .unset, .unset, .unset] [])) _
    refine XS.iloadN X18.here hx rfl (hb hby at_67) rfl ?_
    show Steps p.tables e below (T18.setTop (mkF m 68 #[.val (.long p1), .second, .val (.int p2), .val (.long p3), .second, .val (.ref b2), .val (.int st), .unset, .unset, .unset, .unset, .unset, .unset, .unset] [(.int p2)])) _
    refine XS.bipush X18.here hx rfl (hb hby at_68) ?_
    show Steps p.tables e below (T18.setTop (mkF m 70 #[.val (.long p1), .second, .val (.int p2), .val (.long p3), .second, .val (.ref b2), .val (.int st), .unset, .unset, .unset, .unset, .unset, .unset, .unset] [(.int (8 : Int32)), (.int p2)])) _
    refine XS.iushr X18.here hx rfl (hb hby at_70) rfl ?_
    show Steps p.tables e below (T18.setTop (mkF m 71 #[.val (.long p1), .second, .val (.int p2), .val (.long p3), .second, .val (.ref b2), .val (.int st), .unset, .unset, .unset, .unset, .unset, .unset, .unset] [(.int ((p2.toUInt32 >>> ((8 : Int32) &&& 31).toUInt32).toInt32))])) _
    refine XS.sipush X18.here hx rfl (hb hby at_71) ?_
    show Steps p.tables e below (T18.setTop (mkF m 74 #[.val (.long p1), .second, .val (.int p2), .val (.long p3), .second, .val (.ref b2), .val (.int st), .unset, .unset, .unset, .unset, .unset, .unset, .unset] [(.int (255 : Int32)), (.int ((p2.toUInt32 >>> ((8 : Int32) &&& 31).toUInt32).toInt32))])) _
    refine XS.iand X18.here hx rfl (hb hby at_74) rfl ?_
    show Steps p.tables e below (T18.setTop (mkF m 75 #[.val (.long p1), .second, .val (.int p2), .val (.long p3), .second, .val (.ref b2), .val (.int st), .unset, .unset, .unset, .unset, .unset, .unset, .unset] [(.int (((p2.toUInt32 >>> ((8 : Int32) &&& 31).toUInt32).toInt32) &&& (255 : Int32)))])) _
    refine XS.iconst X18.here hx rfl (hb hby at_75) ?_
    show Steps p.tables e below (T18.setTop (mkF m 76 #[.val (.long p1), .second, .val (.int p2), .val (.long p3), .second, .val (.ref b2), .val (.int st), .unset, .unset, .unset, .unset, .unset, .unset, .unset] [(.int (5 : Int32)), (.int (((p2.toUInt32 >>> ((8 : Int32) &&& 31).toUInt32).toInt32) &&& (255 : Int32)))])) _
    refine XS.iload X18.here hx rfl (hb hby at_76) rfl ?_
    show Steps p.tables e below (T18.setTop (mkF m 78 #[.val (.long p1), .second, .val (.int p2), .val (.long p3), .second, .val (.ref b2), .val (.int st), .unset, .unset, .unset, .unset, .unset, .unset, .unset] [(.int st), (.int (5 : Int32)), (.int (((p2.toUInt32 >>> ((8 : Int32) &&& 31).toUInt32).toInt32) &&& (255 : Int32)))])) _
    refine XS.isub X18.here hx rfl (hb hby at_78) rfl ?_
    show Steps p.tables e below (T18.setTop (mkF m 79 #[.val (.long p1), .second, .val (.int p2), .val (.long p3), .second, .val (.ref b2), .val (.int st), .unset, .unset, .unset, .unset, .unset, .unset, .unset] [(.int ((5 : Int32) - st)), (.int (((p2.toUInt32 >>> ((8 : Int32) &&& 31).toUInt32).toInt32) &&& (255 : Int32)))])) _
    refine iremM X18 hx rfl (hb hby at_79) rfl hnz ?_
    show Steps p.tables e below (T18.setTop (mkF m 80 #[.val (.long p1), .second, .val (.int p2), .val (.long p3), .second, .val (.ref b2), .val (.int st), .unset, .unset, .unset, .unset, .unset, .unset, .unset] [(.int ((((p2.toUInt32 >>> ((8 : Int32) &&& 31).toUInt32).toInt32) &&& (255 : Int32)) % ((5 : Int32) - st)))])) _
    refine XS.istore X18.here hx rfl (hb hby at_80) rfl (l' := #[.val (.long p1), .second, .val (.int p2), .val (.long p3), .second, .val (.ref b2), .val (.int st), .val (.int ((((p2.toUInt32 >>> ((8 : Int32) &&& 31).toUInt32).toInt32) &&& (255 : Int32)) % ((5 : Int32) - st))), .unset, .unset, .unset, .unset, .unset, .unset]) rfl ?_
    show Steps p.tables e below (T18.setTop (mkF m 82 #[.val (.long p1), .second, .val (.int p2), .val (.long p3), .second, .val (.ref b2), .val (.int st), .val (.int ((((p2.toUInt32 >>> ((8 : Int32) &&& 31).toUInt32).toInt32) &&& (255 : Int32)) % ((5 : Int32) - st))), .unset, .unset, .unset, .unset, .unset, .unset] [])) _
    exact k
  obtain ⟨ln, eq_ln⟩ : ∃ z : Int32, z = ((((p2.toUInt32 >>> ((8 : Int32) &&& 31).toUInt32).toInt32) &&& (255 : Int32)) % ((5 : Int32) - st)) := ⟨_, rfl⟩
  rw [← eq_ln] at k21
  obtain ⟨nl, hnl, hle⟩ : ∃ nl : Nat, ln = Int32.ofNat nl ∧ ns + nl ≤ 4 := by
    have h1 := c_mask ((p2.toUInt32 >>> ((8 : Int32) &&& 31).toUInt32).toInt32) 255 8 (by decide) (by decide)
    simp only [Nat.reducePow] at h1
    have h2 := (c_iremV (((p2.toUInt32 >>> ((8 : Int32) &&& 31).toUInt32).toInt32) &&& (255 : Int32)) ((5 : Int32) - st)).1 (by omega) (by omega)
    rw [← eq_ln] at h2
    refine ⟨ln.toInt.toNat, Int32.toInt_inj.mp ?_, by omega⟩
    rw [own_ofNat (by omega)]; omega
  obtain ⟨wsv, eq_wsv⟩ : ∃ z : Int32, z = (if (((p2.toUInt32 >>> ((16 : Int32) &&& 31).toUInt32).toInt32) &&& (1 : Int32)) = (0 : Int32) then (0 : Int32) else (1 : Int32)) := ⟨_, rfl⟩
  have k23 : ∀ t, Steps p.tables e below (T18.setTop (mkF m 96 #[.val (.long p1), .second, .val (.int p2), .val (.long p3), .second, .val (.ref b2), .val (.int st), .val (.int ln), .unset, .unset, .unset, .unset, .unset, .unset] [(.int wsv)])) t → Steps p.tables e below (s₁.setTop (entryFrame m #[(.long p1), (.int p2), (.long p3)] maxLocals)) t := by
    intro t k
    refine k21 _ ?_
    show Steps p.tables e below (T18.setTop (mkF m 82 #[.val (.long p1), .second, .val (.int p2), .val (.long p3), .second, .val (.ref b2), .val (.int st), .val (.int ln), .unset, .unset, .unset, .unset, .unset, .unset] [])) _
    refine XS.iloadN X18.here hx rfl (hb hby at_82) rfl ?_
    show Steps p.tables e below (T18.setTop (mkF m 83 #[.val (.long p1), .second, .val (.int p2), .val (.long p3), .second, .val (.ref b2), .val (.int st), .val (.int ln), .unset, .unset, .unset, .unset, .unset, .unset] [(.int p2)])) _
    refine XS.bipush X18.here hx rfl (hb hby at_83) ?_
    show Steps p.tables e below (T18.setTop (mkF m 85 #[.val (.long p1), .second, .val (.int p2), .val (.long p3), .second, .val (.ref b2), .val (.int st), .val (.int ln), .unset, .unset, .unset, .unset, .unset, .unset] [(.int (16 : Int32)), (.int p2)])) _
    refine XS.iushr X18.here hx rfl (hb hby at_85) rfl ?_
    show Steps p.tables e below (T18.setTop (mkF m 86 #[.val (.long p1), .second, .val (.int p2), .val (.long p3), .second, .val (.ref b2), .val (.int st), .val (.int ln), .unset, .unset, .unset, .unset, .unset, .unset] [(.int ((p2.toUInt32 >>> ((16 : Int32) &&& 31).toUInt32).toInt32))])) _
    refine XS.iconst X18.here hx rfl (hb hby at_86) ?_
    show Steps p.tables e below (T18.setTop (mkF m 87 #[.val (.long p1), .second, .val (.int p2), .val (.long p3), .second, .val (.ref b2), .val (.int st), .val (.int ln), .unset, .unset, .unset, .unset, .unset, .unset] [(.int (1 : Int32)), (.int ((p2.toUInt32 >>> ((16 : Int32) &&& 31).toUInt32).toInt32))])) _
    refine XS.iand X18.here hx rfl (hb hby at_87) rfl ?_
    show Steps p.tables e below (T18.setTop (mkF m 88 #[.val (.long p1), .second, .val (.int p2), .val (.long p3), .second, .val (.ref b2), .val (.int st), .val (.int ln), .unset, .unset, .unset, .unset, .unset, .unset] [(.int (((p2.toUInt32 >>> ((16 : Int32) &&& 31).toUInt32).toInt32) &&& (1 : Int32)))])) _
    by_cases hc22_88 : (((p2.toUInt32 >>> ((16 : Int32) &&& 31).toUInt32).toInt32) &&& (1 : Int32)) = (0 : Int32)
    · rw [show wsv = (0 : Int32) by rw [eq_wsv, if_pos hc22_88]] at k
      show Steps p.tables e below (T18.setTop (mkF m 88 #[.val (.long p1), .second, .val (.int p2), .val (.long p3), .second, .val (.ref b2), .val (.int st), .val (.int ln), .unset, .unset, .unset, .unset, .unset, .unset] [(.int (((p2.toUInt32 >>> ((16 : Int32) &&& 31).toUInt32).toInt32) &&& (1 : Int32)))])) _
      refine XS.ifYes X18.here hx rfl (pc0 := 88) (pc' := 95) rfl (hb hby at_88) rfl ((if0 _ _).trans (teq hc22_88).1) (by decide) (by decide) ?_
      show Steps p.tables e below (T18.setTop (mkF m 95 #[.val (.long p1), .second, .val (.int p2), .val (.long p3), .second, .val (.ref b2), .val (.int st), .val (.int ln), .unset, .unset, .unset, .unset, .unset, .unset] [])) _
      refine XS.iconst X18.here hx rfl (hb hby at_95) ?_
      show Steps p.tables e below (T18.setTop (mkF m 96 #[.val (.long p1), .second, .val (.int p2), .val (.long p3), .second, .val (.ref b2), .val (.int st), .val (.int ln), .unset, .unset, .unset, .unset, .unset, .unset] [(.int (0 : Int32))])) _
      exact k
    · rw [show wsv = (1 : Int32) by rw [eq_wsv, if_neg hc22_88]] at k
      show Steps p.tables e below (T18.setTop (mkF m 88 #[.val (.long p1), .second, .val (.int p2), .val (.long p3), .second, .val (.ref b2), .val (.int st), .val (.int ln), .unset, .unset, .unset, .unset, .unset, .unset] [(.int (((p2.toUInt32 >>> ((16 : Int32) &&& 31).toUInt32).toInt32) &&& (1 : Int32)))])) _
      refine XS.ifNo X18.here hx rfl (hb hby at_88) rfl ((if0 _ _).trans (feq hc22_88).1) ?_
      show Steps p.tables e below (T18.setTop (mkF m 91 #[.val (.long p1), .second, .val (.int p2), .val (.long p3), .second, .val (.ref b2), .val (.int st), .val (.int ln), .unset, .unset, .unset, .unset, .unset, .unset] [])) _
      refine XS.iconst X18.here hx rfl (hb hby at_91) ?_
      show Steps p.tables e below (T18.setTop (mkF m 92 #[.val (.long p1), .second, .val (.int p2), .val (.long p3), .second, .val (.ref b2), .val (.int st), .val (.int ln), .unset, .unset, .unset, .unset, .unset, .unset] [(.int (1 : Int32))])) _
      refine XS.goto X18.here hx rfl (pc0 := 92) (pc' := 96) rfl (hb hby at_92) (by decide) (by decide) ?_
      show Steps p.tables e below (T18.setTop (mkF m 96 #[.val (.long p1), .second, .val (.int p2), .val (.long p3), .second, .val (.ref b2), .val (.int st), .val (.int ln), .unset, .unset, .unset, .unset, .unset, .unset] [(.int (1 : Int32))])) _
      exact k
  have h01 : wsv = 0 ∨ wsv = 1 := by rw [eq_wsv]; split <;> simp
  have k24 : ∀ t, Steps p.tables e below (T18.setTop (mkF m 98 #[.val (.long p1), .second, .val (.int p2), .val (.long p3), .second, .val (.ref b2), .val (.int st), .val (.int ln), .val (.int wsv), .unset, .unset, .unset, .unset, .unset] [])) t → Steps p.tables e below (s₁.setTop (entryFrame m #[(.long p1), (.int p2), (.long p3)] maxLocals)) t := by
    intro t k
    refine k23 _ ?_
    show Steps p.tables e below (T18.setTop (mkF m 96 #[.val (.long p1), .second, .val (.int p2), .val (.long p3), .second, .val (.ref b2), .val (.int st), .val (.int ln), .unset, .unset, .unset, .unset, .unset, .unset] [(.int wsv)])) _
    refine XS.istore X18.here hx rfl (hb hby at_96) rfl (l' := #[.val (.long p1), .second, .val (.int p2), .val (.long p3), .second, .val (.ref b2), .val (.int st), .val (.int ln), .val (.int wsv), .unset, .unset, .unset, .unset, .unset]) rfl ?_
    show Steps p.tables e below (T18.setTop (mkF m 98 #[.val (.long p1), .second, .val (.int p2), .val (.long p3), .second, .val (.ref b2), .val (.int st), .val (.int ln), .val (.int wsv), .unset, .unset, .unset, .unset, .unset] [])) _
    exact k
  have kp26 : Keep h0 h18 [] := ((((((Keep.refl h0 []).ext E2).wr W6 (Or.inr sz_b2)).wr W10 (Or.inr sz_b2)).wr W14 (Or.inr sz_b2)).wr W18 (Or.inr sz_b2))
  obtain ⟨T25, h25, X25, e25, E25, A25, D25, -, st25⟩ := newO X18 hx hZ hown (hw _ (List.mem_of_getElem? (i := 2) rfl)) (hw _ (List.mem_of_getElem? (i := 3) rfl)) (hw _ (List.mem_of_getElem? (i := 4) rfl)) e18 (g := (mkF m 98 #[.val (.long p1), .second, .val (.int p2), .val (.long p3), .second, .val (.ref b2), .val (.int st), .val (.int ln), .val (.int wsv), .unset, .unset, .unset, .unset, .unset] [])) rfl (hb hby at_98) (by decide) (by decide)
  obtain ⟨b25, g25⟩ : ∃ z, z = h18.size := ⟨_, rfl⟩
  rw [← g25] at A25 D25 st25
  have ne_b2_b25 : b2 ≠ b25 := Nat.ne_of_lt (Nat.lt_of_lt_of_eq V18.lt g25.symm)
  have g_b25 : n0 ≤ b25 := Nat.le_trans Z19 (Nat.le_of_eq g25.symm)
  have sz_b25 : h0.size ≤ b25 := Nat.le_trans kp26.1 (Nat.le_of_eq g25.symm)
  have F25_most : Fld Z h25 b25 "com/example/westford/westford/ColumnType$TextLimit" "most" "J" (.long (0 : Int64)) := D25 (Or.inr (hw _ (List.mem_of_getElem? (i := 25) rfl))) (ty := .long) (by decide)
  have F25_whiteSpace : Fld Z h25 b25 "com/example/westford/westford/ColumnType$TextLimit" "whiteSpace" "Z" (.int (0 : Int32)) := D25 (Or.inr (hw _ (List.mem_of_getElem? (i := 27) rfl))) (ty := .boolean) (by decide)
  have F25_refusal : Fld Z h25 b25 "com/example/westford/westford/ColumnType$TextLimit" "refusal" "Ljava/lang/String;" .null := D25 (Or.inr (hw _ (List.mem_of_getElem? (i := 29) rfl))) (ty := (.object "java/lang/String")) (by decide)
  have k25 : ∀ t, Steps p.tables e below (T25.setTop (mkF m 101 #[.val (.long p1), .second, .val (.int p2), .val (.long p3), .second, .val (.ref b2), .val (.int st), .val (.int ln), .val (.int wsv), .unset, .unset, .unset, .unset, .unset] [(.ref b25)])) t → Steps p.tables e below (s₁.setTop (entryFrame m #[(.long p1), (.int p2), (.long p3)] maxLocals)) t := fun t k => k24 t (st25 _ k)
  have Z27 : n0 ≤ h25.size := Nat.le_trans Z19 E25.1
  have k28 : ∀ t, Steps p.tables e below (T25.setTop (mkF m 105 #[.val (.long p1), .second, .val (.int p2), .val (.long p3), .second, .val (.ref b2), .val (.int st), .val (.int ln), .val (.int wsv), .unset, .unset, .unset, .unset, .unset] [(.int wsv), (.long p3), (.ref b25), (.ref b25)])) t → Steps p.tables e below (s₁.setTop (entryFrame m #[(.long p1), (.int p2), (.long p3)] maxLocals)) t := by
    intro t k
    refine k25 _ ?_
    show Steps p.tables e below (T25.setTop (mkF m 101 #[.val (.long p1), .second, .val (.int p2), .val (.long p3), .second, .val (.ref b2), .val (.int st), .val (.int ln), .val (.int wsv), .unset, .unset, .unset, .unset, .unset] [(.ref b25)])) _
    refine XS.dup X25.here hx rfl (hb hby at_101) rfl rfl ?_
    show Steps p.tables e below (T25.setTop (mkF m 102 #[.val (.long p1), .second, .val (.int p2), .val (.long p3), .second, .val (.ref b2), .val (.int st), .val (.int ln), .val (.int wsv), .unset, .unset, .unset, .unset, .unset] [(.ref b25), (.ref b25)])) _
    refine XS.lloadN X25.here hx rfl (hb hby at_102) rfl ?_
    show Steps p.tables e below (T25.setTop (mkF m 103 #[.val (.long p1), .second, .val (.int p2), .val (.long p3), .second, .val (.ref b2), .val (.int st), .val (.int ln), .val (.int wsv), .unset, .unset, .unset, .unset, .unset] [(.long p3), (.ref b25), (.ref b25)])) _
    refine XS.iload X25.here hx rfl (hb hby at_103) rfl ?_
    show Steps p.tables e below (T25.setTop (mkF m 105 #[.val (.long p1), .second, .val (.int p2), .val (.long p3), .second, .val (.ref b2), .val (.int st), .val (.int ln), .val (.int wsv), .unset, .unset, .unset, .unset, .unset] [(.int wsv), (.long p3), (.ref b25), (.ref b25)])) _
    exact k
  have f30 := (V18.ext E25)
  obtain ⟨a29_, T29, h29, ks29, X29, e29, E29, hS29, hk29, hZ, hown, st29⟩ := ldcS (s := s) (vm0 := s.vm) X25 hx hZ hown (hw _ (List.mem_of_getElem? (i := 5) rfl)) (fun d hd => hw d (own_strAt d hd)) e25 ((State.WarmedH.refl s).since 0) (Nat.zero_le _) (g := (mkF m 105 #[.val (.long p1), .second, .val (.int p2), .val (.long p3), .second, .val (.ref b2), .val (.int st), .val (.int ln), .val (.int wsv), .unset, .unset, .unset, .unset, .unset] [(.int wsv), (.long p3), (.ref b25), (.ref b25)])) rfl (hb hby at_105) (n := 28) (by decide +kernel) (by decide) (by decide) (by decide)
  have k29 : ∀ t, Steps p.tables e below (T29.setTop (mkF m 107 #[.val (.long p1), .second, .val (.int p2), .val (.long p3), .second, .val (.ref b2), .val (.int st), .val (.int ln), .val (.int wsv), .unset, .unset, .unset, .unset, .unset] [(.ref a29_), (.int wsv), (.long p3), (.ref b25), (.ref b25)])) t → Steps p.tables e below (s₁.setTop (entryFrame m #[(.long p1), (.int p2), (.long p3)] maxLocals)) t := fun t k => k28 t (st29 _ k)
  have Z31 : n0 ≤ h29.size := Nat.le_trans Z27 E29.1
  have f32 := (A25.ext E29)
  have f33 := (F25_most.ext E29)
  have f34 := (F25_whiteSpace.ext E29)
  have f35 := (F25_refusal.ext E29)
  obtain ⟨_, _, ⟨T36, L36, ck36, nk36⟩, -, X36, ⟨Lc36, hQ36, l36, y36, z36⟩, st36⟩ := X29.specialBack hx (y := (⟨"com/example/westford/westford/ColumnType$TextLimit", "<init>", "(JZLjava/lang/String;)V"⟩ : MethodName)) rfl hown (mvT hZ (hw _ (List.mem_of_getElem? (i := 13) rfl))) (mvT hZ (hw _ (List.mem_of_getElem? (i := 14) rfl))) (mvT hZ (hw _ (List.mem_of_getElem? (i := 15) rfl))) (by decide) (backOf (W := 1) (rm4 l Z a0 hw [] b25 p3 wsv a29_ h29 n0 Z31 f32 g_b25 f33 f34 f35) hZ (hw _ (List.mem_of_getElem? (i := 15) rfl)) (hw _ (List.mem_of_getElem? (i := 4) rfl)) (by decide) (by decide)) (g := (mkF m 107 #[.val (.long p1), .second, .val (.int p2), .val (.long p3), .second, .val (.ref b2), .val (.int st), .val (.int ln), .val (.int wsv), .unset, .unset, .unset, .unset, .unset] [(.ref a29_), (.int wsv), (.long p3), (.ref b25), (.ref b25)])) rfl (by rw [hml]; rfl) (Steps.refl _) (a := b25) (argsL := [(.long p3), (.int wsv), (.ref a29_)]) (rest := [(.ref b25)]) (lenOf pd_2 rfl) rfl (by show 2 * 0 + _ ≤ _; exact Nat.le_of_eq rfl) (hb hby at_107) (fun _ _ => ⟨rfl, e29, (by decide : 4 + 0 ≤ _), (by decide : 39 + 0 ≤ _)⟩)
  dsimp only [Pt.U, Pt.locs, Pt.cells, Pt.slots] at X36 l36 y36 z36 st36 hQ36
  subst l36 y36 z36
  obtain ⟨rfl, N36q, K36, G36⟩ := hQ36
  have N36 := Fr.app N18 N36q
  have k36 : ∀ t, Steps p.tables e below (T36.setTop (mkF m 110 #[.val (.long p1), .second, .val (.int p2), .val (.long p3), .second, .val (.ref b2), .val (.int st), .val (.int ln), .val (.int wsv), .unset, .unset, .unset, .unset, .unset] [(.ref b25)])) t → Steps p.tables e below (s₁.setTop (entryFrame m #[(.long p1), (.int p2), (.long p3)] maxLocals)) t := fun t k => k29 t (st36.trans k)
  rw [own_nz h01] at G36
  have Z37 : n0 ≤ T36.heap.size := Nat.le_trans Z31 K36.1
  have zk37 : ks29 ≤ T36.heap.size := Nat.le_trans hk29 K36.1
  have k38 : ∀ t, Steps p.tables e below (T36.setTop (mkF m 120 #[.val (.long p1), .second, .val (.int p2), .val (.long p3), .second, .val (.ref b2), .val (.int st), .val (.int ln), .val (.int wsv), .val (.ref b25), .unset, .unset, .unset, .unset] [(.int ln), (.int st), (.ref b2), (.ref b25)])) t → Steps p.tables e below (s₁.setTop (entryFrame m #[(.long p1), (.int p2), (.long p3)] maxLocals)) t := by
    intro t k
    refine k36 _ ?_
    show Steps p.tables e below (T36.setTop (mkF m 110 #[.val (.long p1), .second, .val (.int p2), .val (.long p3), .second, .val (.ref b2), .val (.int st), .val (.int ln), .val (.int wsv), .unset, .unset, .unset, .unset, .unset] [(.ref b25)])) _
    refine XS.astore X36.here hx rfl (hb hby at_110) rfl rfl (l' := #[.val (.long p1), .second, .val (.int p2), .val (.long p3), .second, .val (.ref b2), .val (.int st), .val (.int ln), .val (.int wsv), .val (.ref b25), .unset, .unset, .unset, .unset]) rfl ?_
    show Steps p.tables e below (T36.setTop (mkF m 112 #[.val (.long p1), .second, .val (.int p2), .val (.long p3), .second, .val (.ref b2), .val (.int st), .val (.int ln), .val (.int wsv), .val (.ref b25), .unset, .unset, .unset, .unset] [])) _
    refine XS.aload X36.here hx rfl (hb hby at_112) rfl rfl ?_
    show Steps p.tables e below (T36.setTop (mkF m 114 #[.val (.long p1), .second, .val (.int p2), .val (.long p3), .second, .val (.ref b2), .val (.int st), .val (.int ln), .val (.int wsv), .val (.ref b25), .unset, .unset, .unset, .unset] [(.ref b25)])) _
    refine XS.aload X36.here hx rfl (hb hby at_114) rfl rfl ?_
    show Steps p.tables e below (T36.setTop (mkF m 116 #[.val (.long p1), .second, .val (.int p2), .val (.long p3), .second, .val (.ref b2), .val (.int st), .val (.int ln), .val (.int wsv), .val (.ref b25), .unset, .unset, .unset, .unset] [(.ref b2), (.ref b25)])) _
    refine XS.iload X36.here hx rfl (hb hby at_116) rfl ?_
    show Steps p.tables e below (T36.setTop (mkF m 118 #[.val (.long p1), .second, .val (.int p2), .val (.long p3), .second, .val (.ref b2), .val (.int st), .val (.int ln), .val (.int wsv), .val (.ref b25), .unset, .unset, .unset, .unset] [(.int st), (.ref b2), (.ref b25)])) _
    refine XS.iload X36.here hx rfl (hb hby at_118) rfl ?_
    show Steps p.tables e below (T36.setTop (mkF m 120 #[.val (.long p1), .second, .val (.int p2), .val (.long p3), .second, .val (.ref b2), .val (.int st), .val (.int ln), .val (.int wsv), .val (.ref b25), .unset, .unset, .unset, .unset] [(.int ln), (.int st), (.ref b2), (.ref b25)])) _
    exact k
  have f39 := (f32.keep K36)
  have f40 := ((f30.ext E29).keep K36 (ninS ne_b2_b25 nin0))
  obtain ⟨cq41, kq41, q41a, q41b, q41c⟩ := isOf hZ rfl f39
  obtain ⟨_, _, ⟨T41, L41, ck41, nk41⟩, -, X41, ⟨Lc41, hQ41, l41, y41, z41⟩, st41⟩ := X36.virtualBack hx (y := (⟨"com/example/westford/westford/ColumnType$TextLimit", "counted", "([CII)J"⟩ : MethodName)) (z := (⟨"com/example/westford/westford/ColumnType$TextLimit", "counted", "([CII)J"⟩ : MethodName)) hown (mvT hZ (hw _ (List.mem_of_getElem? (i := 30) rfl))) (mvT hZ (hw _ (List.mem_of_getElem? (i := 31) rfl))) (notFace_of_selects (args := #[]) (mvT hZ (hw _ (List.mem_of_getElem? (i := 33) rfl)))) (mvT hZ (hw _ (List.mem_of_getElem? (i := 33) rfl))) (mvT hZ (hw _ (List.mem_of_getElem? (i := 32) rfl))) (by decide) (backOf (W := 0) (rm5 l Z a0 hw [] b25 b2 st ln ns nl k2_ [c0_, c1_, c2_, c3_] wsv T36.heap n0 Z37 f39 G36 f40 hle hns hnl) hZ (hw _ (List.mem_of_getElem? (i := 34) rfl)) (hw _ (List.mem_of_getElem? (i := 4) rfl)) (by decide) (by decide)) q41a q41c (g := (mkF m 120 #[.val (.long p1), .second, .val (.int p2), .val (.long p3), .second, .val (.ref b2), .val (.int st), .val (.int ln), .val (.int wsv), .val (.ref b25), .unset, .unset, .unset, .unset] [(.int ln), (.int st), (.ref b2), (.ref b25)])) rfl (by rw [hml]; rfl) (Steps.refl _) (argsL := [(.ref b2), (.int st), (.int ln)]) (rest := []) (lenOf pd_3 rfl) rfl (by show 2 * 0 + _ ≤ _; exact Nat.le_of_eq rfl) (hb hby at_120) (fun _ _ => ⟨rfl, rfl, (by decide : 4 + 0 ≤ _), (by decide : 39 + 0 ≤ _)⟩)
  dsimp only [Pt.U, Pt.locs, Pt.cells, Pt.slots] at X41 l41 y41 z41 st41 hQ41
  subst l41 y41 z41
  obtain ⟨rfl, N41q, e41⟩ := hQ41
  have N41 := Fr.app N36 N41q
  have k41 : ∀ t, Steps p.tables e below (T41.setTop (mkF m 123 #[.val (.long p1), .second, .val (.int p2), .val (.long p3), .second, .val (.ref b2), .val (.int st), .val (.int ln), .val (.int wsv), .val (.ref b25), .unset, .unset, .unset, .unset] [(.long (own_sum wsv [c0_, c1_, c2_, c3_] ns nl))])) t → Steps p.tables e below (s₁.setTop (entryFrame m #[(.long p1), (.int p2), (.long p3)] maxLocals)) t := fun t k => k38 t (st41.trans k)
  obtain ⟨cl42, Ar42, qk42, Sz42, Nn42, Hs42, Gs42⟩ := id f40
  have k43 : ∀ t, Steps p.tables e below (T41.setTop (mkF m 136 #[.val (.long p1), .second, .val (.int p2), .val (.long p3), .second, .val (.ref b2), .val (.int st), .val (.int ln), .val (.int wsv), .val (.ref b25), .val (.long (own_sum wsv [c0_, c1_, c2_, c3_] ns nl)), .second, .unset, .unset] [(.int wsv), (.int ln), (.int st), (.int (0 : Int32)), (.int c0_)])) t → Steps p.tables e below (s₁.setTop (entryFrame m #[(.long p1), (.int p2), (.long p3)] maxLocals)) t := by
    intro t k
    refine k41 _ ?_
    show Steps p.tables e below (T41.setTop (mkF m 123 #[.val (.long p1), .second, .val (.int p2), .val (.long p3), .second, .val (.ref b2), .val (.int st), .val (.int ln), .val (.int wsv), .val (.ref b25), .unset, .unset, .unset, .unset] [(.long (own_sum wsv [c0_, c1_, c2_, c3_] ns nl))])) _
    refine XS.lstore X41.here hx rfl (hb hby at_123) rfl (l' := #[.val (.long p1), .second, .val (.int p2), .val (.long p3), .second, .val (.ref b2), .val (.int st), .val (.int ln), .val (.int wsv), .val (.ref b25), .val (.long (own_sum wsv [c0_, c1_, c2_, c3_] ns nl)), .second, .unset, .unset]) rfl ?_
    show Steps p.tables e below (T41.setTop (mkF m 125 #[.val (.long p1), .second, .val (.int p2), .val (.long p3), .second, .val (.ref b2), .val (.int st), .val (.int ln), .val (.int wsv), .val (.ref b25), .val (.long (own_sum wsv [c0_, c1_, c2_, c3_] ns nl)), .second, .unset, .unset] [])) _
    refine XS.aload X41.here hx rfl (hb hby at_125) rfl rfl ?_
    show Steps p.tables e below (T41.setTop (mkF m 127 #[.val (.long p1), .second, .val (.int p2), .val (.long p3), .second, .val (.ref b2), .val (.int st), .val (.int ln), .val (.int wsv), .val (.ref b25), .val (.long (own_sum wsv [c0_, c1_, c2_, c3_] ns nl)), .second, .unset, .unset] [(.ref b2)])) _
    refine XS.iconst X41.here hx rfl (hb hby at_127) ?_
    show Steps p.tables e below (T41.setTop (mkF m 128 #[.val (.long p1), .second, .val (.int p2), .val (.long p3), .second, .val (.ref b2), .val (.int st), .val (.int ln), .val (.int wsv), .val (.ref b25), .val (.long (own_sum wsv [c0_, c1_, c2_, c3_] ns nl)), .second, .unset, .unset] [(.int (0 : Int32)), (.ref b2)])) _
    refine X41.caload hx (j := (0 : Int32)) (v := (.int c0_)) (by rw [e41]; exact Ar42.1) (State.isArrayOf_alike hZ.alike Ar42.2.1) Ar42.2.2 (inb_of Sz42 ⟨(by decide : ¬ ((0 : Int32) < (0 : Int32))), (by decide : (0 : Int32) < (4 : Int32))⟩) (Has.at Hs42 (inb_of Sz42 ⟨(by decide : ¬ ((0 : Int32) < (0 : Int32))), (by decide : (0 : Int32) < (4 : Int32))⟩) rfl) (g := (mkF m 128 #[.val (.long p1), .second, .val (.int p2), .val (.long p3), .second, .val (.ref b2), .val (.int st), .val (.int ln), .val (.int wsv), .val (.ref b25), .val (.long (own_sum wsv [c0_, c1_, c2_, c3_] ns nl)), .second, .unset, .unset] [(.int (0 : Int32)), (.ref b2)])) rfl rfl (hb hby at_128) _ ?_
    show Steps p.tables e below (T41.setTop (mkF m 129 #[.val (.long p1), .second, .val (.int p2), .val (.long p3), .second, .val (.ref b2), .val (.int st), .val (.int ln), .val (.int wsv), .val (.ref b25), .val (.long (own_sum wsv [c0_, c1_, c2_, c3_] ns nl)), .second, .unset, .unset] [(.int c0_)])) _
    refine XS.iconst X41.here hx rfl (hb hby at_129) ?_
    show Steps p.tables e below (T41.setTop (mkF m 130 #[.val (.long p1), .second, .val (.int p2), .val (.long p3), .second, .val (.ref b2), .val (.int st), .val (.int ln), .val (.int wsv), .val (.ref b25), .val (.long (own_sum wsv [c0_, c1_, c2_, c3_] ns nl)), .second, .unset, .unset] [(.int (0 : Int32)), (.int c0_)])) _
    refine XS.iload X41.here hx rfl (hb hby at_130) rfl ?_
    show Steps p.tables e below (T41.setTop (mkF m 132 #[.val (.long p1), .second, .val (.int p2), .val (.long p3), .second, .val (.ref b2), .val (.int st), .val (.int ln), .val (.int wsv), .val (.ref b25), .val (.long (own_sum wsv [c0_, c1_, c2_, c3_] ns nl)), .second, .unset, .unset] [(.int st), (.int (0 : Int32)), (.int c0_)])) _
    refine XS.iload X41.here hx rfl (hb hby at_132) rfl ?_
    show Steps p.tables e below (T41.setTop (mkF m 134 #[.val (.long p1), .second, .val (.int p2), .val (.long p3), .second, .val (.ref b2), .val (.int st), .val (.int ln), .val (.int wsv), .val (.ref b25), .val (.long (own_sum wsv [c0_, c1_, c2_, c3_] ns nl)), .second, .unset, .unset] [(.int ln), (.int st), (.int (0 : Int32)), (.int c0_)])) _
    refine XS.iload X41.here hx rfl (hb hby at_134) rfl ?_
    show Steps p.tables e below (T41.setTop (mkF m 136 #[.val (.long p1), .second, .val (.int p2), .val (.long p3), .second, .val (.ref b2), .val (.int st), .val (.int ln), .val (.int wsv), .val (.ref b25), .val (.long (own_sum wsv [c0_, c1_, c2_, c3_] ns nl)), .second, .unset, .unset] [(.int wsv), (.int ln), (.int st), (.int (0 : Int32)), (.int c0_)])) _
    exact k
  obtain ⟨_, _, ⟨T44, L44, ck44, nk44⟩, -, X44, ⟨Lc44, hQ44, l44, y44, z44⟩, st44⟩ := Jvm.LawKit.callS X41 hx (y := (⟨"com/example/westford/westford/TextLimitCountedPinLaw", "part", "(CIIIZ)J"⟩ : MethodName)) hown (mvT hZ (hw _ (List.mem_of_getElem? (i := 35) rfl))) (mvT hZ (hw _ (List.mem_of_getElem? (i := 36) rfl))) (mvT hZ (hw _ (List.mem_of_getElem? (i := 37) rfl))) (mvT hZ (hw _ (List.mem_of_getElem? (i := 38) rfl))) (by decide) (backOf (W := 0) (rm2 l Z a0 hw [] c0_ (0 : Int32) st ln wsv T36.heap n0 Z37) hZ (hw _ (List.mem_of_getElem? (i := 38) rfl)) (hw _ (List.mem_of_getElem? (i := 37) rfl)) (by decide) (by decide)) (g := (mkF m 136 #[.val (.long p1), .second, .val (.int p2), .val (.long p3), .second, .val (.ref b2), .val (.int st), .val (.int ln), .val (.int wsv), .val (.ref b25), .val (.long (own_sum wsv [c0_, c1_, c2_, c3_] ns nl)), .second, .unset, .unset] [(.int wsv), (.int ln), (.int st), (.int (0 : Int32)), (.int c0_)])) rfl (by rw [hml]; rfl) (argsL := [(.int c0_), (.int (0 : Int32)), (.int st), (.int ln), (.int wsv)]) (rest := []) (lenOf pd_4 rfl) rfl (by show 2 * 0 + _ ≤ _; exact Nat.le_of_eq rfl) (hb hby at_136) (fun _ _ => ⟨rfl, e41, (by decide : 4 + 0 ≤ _), (by decide : 39 + 0 ≤ _)⟩)
  dsimp only [Pt.U, Pt.locs, Pt.cells, Pt.slots] at X44 l44 y44 z44 st44 hQ44
  subst l44 y44 z44
  obtain ⟨rfl, N44q, e44⟩ := hQ44
  have N44 := Fr.app N41 N44q
  have k44 : ∀ t, Steps p.tables e below (T44.setTop (mkF m 139 #[.val (.long p1), .second, .val (.int p2), .val (.long p3), .second, .val (.ref b2), .val (.int st), .val (.int ln), .val (.int wsv), .val (.ref b25), .val (.long (own_sum wsv [c0_, c1_, c2_, c3_] ns nl)), .second, .unset, .unset] [(.long (own_part c0_ (0 : Int32) st ln wsv))])) t → Steps p.tables e below (s₁.setTop (entryFrame m #[(.long p1), (.int p2), (.long p3)] maxLocals)) t := fun t k => k43 t (st44 _ k)
  obtain ⟨cl45, Ar45, qk45, Sz45, Nn45, Hs45, Gs45⟩ := id f40
  have k46 : ∀ t, Steps p.tables e below (T44.setTop (mkF m 150 #[.val (.long p1), .second, .val (.int p2), .val (.long p3), .second, .val (.ref b2), .val (.int st), .val (.int ln), .val (.int wsv), .val (.ref b25), .val (.long (own_sum wsv [c0_, c1_, c2_, c3_] ns nl)), .second, .unset, .unset] [(.int wsv), (.int ln), (.int st), (.int (1 : Int32)), (.int c1_), (.long (own_part c0_ (0 : Int32) st ln wsv))])) t → Steps p.tables e below (s₁.setTop (entryFrame m #[(.long p1), (.int p2), (.long p3)] maxLocals)) t := by
    intro t k
    refine k44 _ ?_
    show Steps p.tables e below (T44.setTop (mkF m 139 #[.val (.long p1), .second, .val (.int p2), .val (.long p3), .second, .val (.ref b2), .val (.int st), .val (.int ln), .val (.int wsv), .val (.ref b25), .val (.long (own_sum wsv [c0_, c1_, c2_, c3_] ns nl)), .second, .unset, .unset] [(.long (own_part c0_ (0 : Int32) st ln wsv))])) _
    refine XS.aload X44.here hx rfl (hb hby at_139) rfl rfl ?_
    show Steps p.tables e below (T44.setTop (mkF m 141 #[.val (.long p1), .second, .val (.int p2), .val (.long p3), .second, .val (.ref b2), .val (.int st), .val (.int ln), .val (.int wsv), .val (.ref b25), .val (.long (own_sum wsv [c0_, c1_, c2_, c3_] ns nl)), .second, .unset, .unset] [(.ref b2), (.long (own_part c0_ (0 : Int32) st ln wsv))])) _
    refine XS.iconst X44.here hx rfl (hb hby at_141) ?_
    show Steps p.tables e below (T44.setTop (mkF m 142 #[.val (.long p1), .second, .val (.int p2), .val (.long p3), .second, .val (.ref b2), .val (.int st), .val (.int ln), .val (.int wsv), .val (.ref b25), .val (.long (own_sum wsv [c0_, c1_, c2_, c3_] ns nl)), .second, .unset, .unset] [(.int (1 : Int32)), (.ref b2), (.long (own_part c0_ (0 : Int32) st ln wsv))])) _
    refine X44.caload hx (j := (1 : Int32)) (v := (.int c1_)) (by rw [e44]; exact Ar45.1) (State.isArrayOf_alike hZ.alike Ar45.2.1) Ar45.2.2 (inb_of Sz45 ⟨(by decide : ¬ ((1 : Int32) < (0 : Int32))), (by decide : (1 : Int32) < (4 : Int32))⟩) (Has.at Hs45 (inb_of Sz45 ⟨(by decide : ¬ ((1 : Int32) < (0 : Int32))), (by decide : (1 : Int32) < (4 : Int32))⟩) rfl) (g := (mkF m 142 #[.val (.long p1), .second, .val (.int p2), .val (.long p3), .second, .val (.ref b2), .val (.int st), .val (.int ln), .val (.int wsv), .val (.ref b25), .val (.long (own_sum wsv [c0_, c1_, c2_, c3_] ns nl)), .second, .unset, .unset] [(.int (1 : Int32)), (.ref b2), (.long (own_part c0_ (0 : Int32) st ln wsv))])) rfl rfl (hb hby at_142) _ ?_
    show Steps p.tables e below (T44.setTop (mkF m 143 #[.val (.long p1), .second, .val (.int p2), .val (.long p3), .second, .val (.ref b2), .val (.int st), .val (.int ln), .val (.int wsv), .val (.ref b25), .val (.long (own_sum wsv [c0_, c1_, c2_, c3_] ns nl)), .second, .unset, .unset] [(.int c1_), (.long (own_part c0_ (0 : Int32) st ln wsv))])) _
    refine XS.iconst X44.here hx rfl (hb hby at_143) ?_
    show Steps p.tables e below (T44.setTop (mkF m 144 #[.val (.long p1), .second, .val (.int p2), .val (.long p3), .second, .val (.ref b2), .val (.int st), .val (.int ln), .val (.int wsv), .val (.ref b25), .val (.long (own_sum wsv [c0_, c1_, c2_, c3_] ns nl)), .second, .unset, .unset] [(.int (1 : Int32)), (.int c1_), (.long (own_part c0_ (0 : Int32) st ln wsv))])) _
    refine XS.iload X44.here hx rfl (hb hby at_144) rfl ?_
    show Steps p.tables e below (T44.setTop (mkF m 146 #[.val (.long p1), .second, .val (.int p2), .val (.long p3), .second, .val (.ref b2), .val (.int st), .val (.int ln), .val (.int wsv), .val (.ref b25), .val (.long (own_sum wsv [c0_, c1_, c2_, c3_] ns nl)), .second, .unset, .unset] [(.int st), (.int (1 : Int32)), (.int c1_), (.long (own_part c0_ (0 : Int32) st ln wsv))])) _
    refine XS.iload X44.here hx rfl (hb hby at_146) rfl ?_
    show Steps p.tables e below (T44.setTop (mkF m 148 #[.val (.long p1), .second, .val (.int p2), .val (.long p3), .second, .val (.ref b2), .val (.int st), .val (.int ln), .val (.int wsv), .val (.ref b25), .val (.long (own_sum wsv [c0_, c1_, c2_, c3_] ns nl)), .second, .unset, .unset] [(.int ln), (.int st), (.int (1 : Int32)), (.int c1_), (.long (own_part c0_ (0 : Int32) st ln wsv))])) _
    refine XS.iload X44.here hx rfl (hb hby at_148) rfl ?_
    show Steps p.tables e below (T44.setTop (mkF m 150 #[.val (.long p1), .second, .val (.int p2), .val (.long p3), .second, .val (.ref b2), .val (.int st), .val (.int ln), .val (.int wsv), .val (.ref b25), .val (.long (own_sum wsv [c0_, c1_, c2_, c3_] ns nl)), .second, .unset, .unset] [(.int wsv), (.int ln), (.int st), (.int (1 : Int32)), (.int c1_), (.long (own_part c0_ (0 : Int32) st ln wsv))])) _
    exact k
  obtain ⟨_, _, ⟨T47, L47, ck47, nk47⟩, -, X47, ⟨Lc47, hQ47, l47, y47, z47⟩, st47⟩ := Jvm.LawKit.callS X44 hx (y := (⟨"com/example/westford/westford/TextLimitCountedPinLaw", "part", "(CIIIZ)J"⟩ : MethodName)) hown (mvT hZ (hw _ (List.mem_of_getElem? (i := 35) rfl))) (mvT hZ (hw _ (List.mem_of_getElem? (i := 36) rfl))) (mvT hZ (hw _ (List.mem_of_getElem? (i := 37) rfl))) (mvT hZ (hw _ (List.mem_of_getElem? (i := 38) rfl))) (by decide) (backOf (W := 2) (rm2 l Z a0 hw [] c1_ (1 : Int32) st ln wsv T36.heap n0 Z37) hZ (hw _ (List.mem_of_getElem? (i := 38) rfl)) (hw _ (List.mem_of_getElem? (i := 37) rfl)) (by decide) (by decide)) (g := (mkF m 150 #[.val (.long p1), .second, .val (.int p2), .val (.long p3), .second, .val (.ref b2), .val (.int st), .val (.int ln), .val (.int wsv), .val (.ref b25), .val (.long (own_sum wsv [c0_, c1_, c2_, c3_] ns nl)), .second, .unset, .unset] [(.int wsv), (.int ln), (.int st), (.int (1 : Int32)), (.int c1_), (.long (own_part c0_ (0 : Int32) st ln wsv))])) rfl (by rw [hml]; rfl) (argsL := [(.int c1_), (.int (1 : Int32)), (.int st), (.int ln), (.int wsv)]) (rest := [(.long (own_part c0_ (0 : Int32) st ln wsv))]) (lenOf pd_4 rfl) rfl (by show 2 * 0 + _ ≤ _; exact Nat.le_of_eq rfl) (hb hby at_150) (fun _ _ => ⟨rfl, e44, (by decide : 4 + 0 ≤ _), (by decide : 39 + 0 ≤ _)⟩)
  dsimp only [Pt.U, Pt.locs, Pt.cells, Pt.slots] at X47 l47 y47 z47 st47 hQ47
  subst l47 y47 z47
  obtain ⟨rfl, N47q, e47⟩ := hQ47
  have N47 := Fr.app N44 N47q
  have k47 : ∀ t, Steps p.tables e below (T47.setTop (mkF m 153 #[.val (.long p1), .second, .val (.int p2), .val (.long p3), .second, .val (.ref b2), .val (.int st), .val (.int ln), .val (.int wsv), .val (.ref b25), .val (.long (own_sum wsv [c0_, c1_, c2_, c3_] ns nl)), .second, .unset, .unset] [(.long (own_part c1_ (1 : Int32) st ln wsv)), (.long (own_part c0_ (0 : Int32) st ln wsv))])) t → Steps p.tables e below (s₁.setTop (entryFrame m #[(.long p1), (.int p2), (.long p3)] maxLocals)) t := fun t k => k46 t (st47 _ k)
  obtain ⟨cl48, Ar48, qk48, Sz48, Nn48, Hs48, Gs48⟩ := id f40
  have k49 : ∀ t, Steps p.tables e below (T47.setTop (mkF m 165 #[.val (.long p1), .second, .val (.int p2), .val (.long p3), .second, .val (.ref b2), .val (.int st), .val (.int ln), .val (.int wsv), .val (.ref b25), .val (.long (own_sum wsv [c0_, c1_, c2_, c3_] ns nl)), .second, .unset, .unset] [(.int wsv), (.int ln), (.int st), (.int (2 : Int32)), (.int c2_), (.long ((own_part c0_ (0 : Int32) st ln wsv) + (own_part c1_ (1 : Int32) st ln wsv)))])) t → Steps p.tables e below (s₁.setTop (entryFrame m #[(.long p1), (.int p2), (.long p3)] maxLocals)) t := by
    intro t k
    refine k47 _ ?_
    show Steps p.tables e below (T47.setTop (mkF m 153 #[.val (.long p1), .second, .val (.int p2), .val (.long p3), .second, .val (.ref b2), .val (.int st), .val (.int ln), .val (.int wsv), .val (.ref b25), .val (.long (own_sum wsv [c0_, c1_, c2_, c3_] ns nl)), .second, .unset, .unset] [(.long (own_part c1_ (1 : Int32) st ln wsv)), (.long (own_part c0_ (0 : Int32) st ln wsv))])) _
    refine XS.ladd X47.here hx rfl (hb hby at_153) rfl ?_
    show Steps p.tables e below (T47.setTop (mkF m 154 #[.val (.long p1), .second, .val (.int p2), .val (.long p3), .second, .val (.ref b2), .val (.int st), .val (.int ln), .val (.int wsv), .val (.ref b25), .val (.long (own_sum wsv [c0_, c1_, c2_, c3_] ns nl)), .second, .unset, .unset] [(.long ((own_part c0_ (0 : Int32) st ln wsv) + (own_part c1_ (1 : Int32) st ln wsv)))])) _
    refine XS.aload X47.here hx rfl (hb hby at_154) rfl rfl ?_
    show Steps p.tables e below (T47.setTop (mkF m 156 #[.val (.long p1), .second, .val (.int p2), .val (.long p3), .second, .val (.ref b2), .val (.int st), .val (.int ln), .val (.int wsv), .val (.ref b25), .val (.long (own_sum wsv [c0_, c1_, c2_, c3_] ns nl)), .second, .unset, .unset] [(.ref b2), (.long ((own_part c0_ (0 : Int32) st ln wsv) + (own_part c1_ (1 : Int32) st ln wsv)))])) _
    refine XS.iconst X47.here hx rfl (hb hby at_156) ?_
    show Steps p.tables e below (T47.setTop (mkF m 157 #[.val (.long p1), .second, .val (.int p2), .val (.long p3), .second, .val (.ref b2), .val (.int st), .val (.int ln), .val (.int wsv), .val (.ref b25), .val (.long (own_sum wsv [c0_, c1_, c2_, c3_] ns nl)), .second, .unset, .unset] [(.int (2 : Int32)), (.ref b2), (.long ((own_part c0_ (0 : Int32) st ln wsv) + (own_part c1_ (1 : Int32) st ln wsv)))])) _
    refine X47.caload hx (j := (2 : Int32)) (v := (.int c2_)) (by rw [e47]; exact Ar48.1) (State.isArrayOf_alike hZ.alike Ar48.2.1) Ar48.2.2 (inb_of Sz48 ⟨(by decide : ¬ ((2 : Int32) < (0 : Int32))), (by decide : (2 : Int32) < (4 : Int32))⟩) (Has.at Hs48 (inb_of Sz48 ⟨(by decide : ¬ ((2 : Int32) < (0 : Int32))), (by decide : (2 : Int32) < (4 : Int32))⟩) rfl) (g := (mkF m 157 #[.val (.long p1), .second, .val (.int p2), .val (.long p3), .second, .val (.ref b2), .val (.int st), .val (.int ln), .val (.int wsv), .val (.ref b25), .val (.long (own_sum wsv [c0_, c1_, c2_, c3_] ns nl)), .second, .unset, .unset] [(.int (2 : Int32)), (.ref b2), (.long ((own_part c0_ (0 : Int32) st ln wsv) + (own_part c1_ (1 : Int32) st ln wsv)))])) rfl rfl (hb hby at_157) _ ?_
    show Steps p.tables e below (T47.setTop (mkF m 158 #[.val (.long p1), .second, .val (.int p2), .val (.long p3), .second, .val (.ref b2), .val (.int st), .val (.int ln), .val (.int wsv), .val (.ref b25), .val (.long (own_sum wsv [c0_, c1_, c2_, c3_] ns nl)), .second, .unset, .unset] [(.int c2_), (.long ((own_part c0_ (0 : Int32) st ln wsv) + (own_part c1_ (1 : Int32) st ln wsv)))])) _
    refine XS.iconst X47.here hx rfl (hb hby at_158) ?_
    show Steps p.tables e below (T47.setTop (mkF m 159 #[.val (.long p1), .second, .val (.int p2), .val (.long p3), .second, .val (.ref b2), .val (.int st), .val (.int ln), .val (.int wsv), .val (.ref b25), .val (.long (own_sum wsv [c0_, c1_, c2_, c3_] ns nl)), .second, .unset, .unset] [(.int (2 : Int32)), (.int c2_), (.long ((own_part c0_ (0 : Int32) st ln wsv) + (own_part c1_ (1 : Int32) st ln wsv)))])) _
    refine XS.iload X47.here hx rfl (hb hby at_159) rfl ?_
    show Steps p.tables e below (T47.setTop (mkF m 161 #[.val (.long p1), .second, .val (.int p2), .val (.long p3), .second, .val (.ref b2), .val (.int st), .val (.int ln), .val (.int wsv), .val (.ref b25), .val (.long (own_sum wsv [c0_, c1_, c2_, c3_] ns nl)), .second, .unset, .unset] [(.int st), (.int (2 : Int32)), (.int c2_), (.long ((own_part c0_ (0 : Int32) st ln wsv) + (own_part c1_ (1 : Int32) st ln wsv)))])) _
    refine XS.iload X47.here hx rfl (hb hby at_161) rfl ?_
    show Steps p.tables e below (T47.setTop (mkF m 163 #[.val (.long p1), .second, .val (.int p2), .val (.long p3), .second, .val (.ref b2), .val (.int st), .val (.int ln), .val (.int wsv), .val (.ref b25), .val (.long (own_sum wsv [c0_, c1_, c2_, c3_] ns nl)), .second, .unset, .unset] [(.int ln), (.int st), (.int (2 : Int32)), (.int c2_), (.long ((own_part c0_ (0 : Int32) st ln wsv) + (own_part c1_ (1 : Int32) st ln wsv)))])) _
    refine XS.iload X47.here hx rfl (hb hby at_163) rfl ?_
    show Steps p.tables e below (T47.setTop (mkF m 165 #[.val (.long p1), .second, .val (.int p2), .val (.long p3), .second, .val (.ref b2), .val (.int st), .val (.int ln), .val (.int wsv), .val (.ref b25), .val (.long (own_sum wsv [c0_, c1_, c2_, c3_] ns nl)), .second, .unset, .unset] [(.int wsv), (.int ln), (.int st), (.int (2 : Int32)), (.int c2_), (.long ((own_part c0_ (0 : Int32) st ln wsv) + (own_part c1_ (1 : Int32) st ln wsv)))])) _
    exact k
  obtain ⟨_, _, ⟨T50, L50, ck50, nk50⟩, -, X50, ⟨Lc50, hQ50, l50, y50, z50⟩, st50⟩ := Jvm.LawKit.callS X47 hx (y := (⟨"com/example/westford/westford/TextLimitCountedPinLaw", "part", "(CIIIZ)J"⟩ : MethodName)) hown (mvT hZ (hw _ (List.mem_of_getElem? (i := 35) rfl))) (mvT hZ (hw _ (List.mem_of_getElem? (i := 36) rfl))) (mvT hZ (hw _ (List.mem_of_getElem? (i := 37) rfl))) (mvT hZ (hw _ (List.mem_of_getElem? (i := 38) rfl))) (by decide) (backOf (W := 2) (rm2 l Z a0 hw [] c2_ (2 : Int32) st ln wsv T36.heap n0 Z37) hZ (hw _ (List.mem_of_getElem? (i := 38) rfl)) (hw _ (List.mem_of_getElem? (i := 37) rfl)) (by decide) (by decide)) (g := (mkF m 165 #[.val (.long p1), .second, .val (.int p2), .val (.long p3), .second, .val (.ref b2), .val (.int st), .val (.int ln), .val (.int wsv), .val (.ref b25), .val (.long (own_sum wsv [c0_, c1_, c2_, c3_] ns nl)), .second, .unset, .unset] [(.int wsv), (.int ln), (.int st), (.int (2 : Int32)), (.int c2_), (.long ((own_part c0_ (0 : Int32) st ln wsv) + (own_part c1_ (1 : Int32) st ln wsv)))])) rfl (by rw [hml]; rfl) (argsL := [(.int c2_), (.int (2 : Int32)), (.int st), (.int ln), (.int wsv)]) (rest := [(.long ((own_part c0_ (0 : Int32) st ln wsv) + (own_part c1_ (1 : Int32) st ln wsv)))]) (lenOf pd_4 rfl) rfl (by show 2 * 0 + _ ≤ _; exact Nat.le_of_eq rfl) (hb hby at_165) (fun _ _ => ⟨rfl, e47, (by decide : 4 + 0 ≤ _), (by decide : 39 + 0 ≤ _)⟩)
  dsimp only [Pt.U, Pt.locs, Pt.cells, Pt.slots] at X50 l50 y50 z50 st50 hQ50
  subst l50 y50 z50
  obtain ⟨rfl, N50q, e50⟩ := hQ50
  have N50 := Fr.app N47 N50q
  have k50 : ∀ t, Steps p.tables e below (T50.setTop (mkF m 168 #[.val (.long p1), .second, .val (.int p2), .val (.long p3), .second, .val (.ref b2), .val (.int st), .val (.int ln), .val (.int wsv), .val (.ref b25), .val (.long (own_sum wsv [c0_, c1_, c2_, c3_] ns nl)), .second, .unset, .unset] [(.long (own_part c2_ (2 : Int32) st ln wsv)), (.long ((own_part c0_ (0 : Int32) st ln wsv) + (own_part c1_ (1 : Int32) st ln wsv)))])) t → Steps p.tables e below (s₁.setTop (entryFrame m #[(.long p1), (.int p2), (.long p3)] maxLocals)) t := fun t k => k49 t (st50 _ k)
  obtain ⟨cl51, Ar51, qk51, Sz51, Nn51, Hs51, Gs51⟩ := id f40
  have k52 : ∀ t, Steps p.tables e below (T50.setTop (mkF m 180 #[.val (.long p1), .second, .val (.int p2), .val (.long p3), .second, .val (.ref b2), .val (.int st), .val (.int ln), .val (.int wsv), .val (.ref b25), .val (.long (own_sum wsv [c0_, c1_, c2_, c3_] ns nl)), .second, .unset, .unset] [(.int wsv), (.int ln), (.int st), (.int (3 : Int32)), (.int c3_), (.long (((own_part c0_ (0 : Int32) st ln wsv) + (own_part c1_ (1 : Int32) st ln wsv)) + (own_part c2_ (2 : Int32) st ln wsv)))])) t → Steps p.tables e below (s₁.setTop (entryFrame m #[(.long p1), (.int p2), (.long p3)] maxLocals)) t := by
    intro t k
    refine k50 _ ?_
    show Steps p.tables e below (T50.setTop (mkF m 168 #[.val (.long p1), .second, .val (.int p2), .val (.long p3), .second, .val (.ref b2), .val (.int st), .val (.int ln), .val (.int wsv), .val (.ref b25), .val (.long (own_sum wsv [c0_, c1_, c2_, c3_] ns nl)), .second, .unset, .unset] [(.long (own_part c2_ (2 : Int32) st ln wsv)), (.long ((own_part c0_ (0 : Int32) st ln wsv) + (own_part c1_ (1 : Int32) st ln wsv)))])) _
    refine XS.ladd X50.here hx rfl (hb hby at_168) rfl ?_
    show Steps p.tables e below (T50.setTop (mkF m 169 #[.val (.long p1), .second, .val (.int p2), .val (.long p3), .second, .val (.ref b2), .val (.int st), .val (.int ln), .val (.int wsv), .val (.ref b25), .val (.long (own_sum wsv [c0_, c1_, c2_, c3_] ns nl)), .second, .unset, .unset] [(.long (((own_part c0_ (0 : Int32) st ln wsv) + (own_part c1_ (1 : Int32) st ln wsv)) + (own_part c2_ (2 : Int32) st ln wsv)))])) _
    refine XS.aload X50.here hx rfl (hb hby at_169) rfl rfl ?_
    show Steps p.tables e below (T50.setTop (mkF m 171 #[.val (.long p1), .second, .val (.int p2), .val (.long p3), .second, .val (.ref b2), .val (.int st), .val (.int ln), .val (.int wsv), .val (.ref b25), .val (.long (own_sum wsv [c0_, c1_, c2_, c3_] ns nl)), .second, .unset, .unset] [(.ref b2), (.long (((own_part c0_ (0 : Int32) st ln wsv) + (own_part c1_ (1 : Int32) st ln wsv)) + (own_part c2_ (2 : Int32) st ln wsv)))])) _
    refine XS.iconst X50.here hx rfl (hb hby at_171) ?_
    show Steps p.tables e below (T50.setTop (mkF m 172 #[.val (.long p1), .second, .val (.int p2), .val (.long p3), .second, .val (.ref b2), .val (.int st), .val (.int ln), .val (.int wsv), .val (.ref b25), .val (.long (own_sum wsv [c0_, c1_, c2_, c3_] ns nl)), .second, .unset, .unset] [(.int (3 : Int32)), (.ref b2), (.long (((own_part c0_ (0 : Int32) st ln wsv) + (own_part c1_ (1 : Int32) st ln wsv)) + (own_part c2_ (2 : Int32) st ln wsv)))])) _
    refine X50.caload hx (j := (3 : Int32)) (v := (.int c3_)) (by rw [e50]; exact Ar51.1) (State.isArrayOf_alike hZ.alike Ar51.2.1) Ar51.2.2 (inb_of Sz51 ⟨(by decide : ¬ ((3 : Int32) < (0 : Int32))), (by decide : (3 : Int32) < (4 : Int32))⟩) (Has.at Hs51 (inb_of Sz51 ⟨(by decide : ¬ ((3 : Int32) < (0 : Int32))), (by decide : (3 : Int32) < (4 : Int32))⟩) rfl) (g := (mkF m 172 #[.val (.long p1), .second, .val (.int p2), .val (.long p3), .second, .val (.ref b2), .val (.int st), .val (.int ln), .val (.int wsv), .val (.ref b25), .val (.long (own_sum wsv [c0_, c1_, c2_, c3_] ns nl)), .second, .unset, .unset] [(.int (3 : Int32)), (.ref b2), (.long (((own_part c0_ (0 : Int32) st ln wsv) + (own_part c1_ (1 : Int32) st ln wsv)) + (own_part c2_ (2 : Int32) st ln wsv)))])) rfl rfl (hb hby at_172) _ ?_
    show Steps p.tables e below (T50.setTop (mkF m 173 #[.val (.long p1), .second, .val (.int p2), .val (.long p3), .second, .val (.ref b2), .val (.int st), .val (.int ln), .val (.int wsv), .val (.ref b25), .val (.long (own_sum wsv [c0_, c1_, c2_, c3_] ns nl)), .second, .unset, .unset] [(.int c3_), (.long (((own_part c0_ (0 : Int32) st ln wsv) + (own_part c1_ (1 : Int32) st ln wsv)) + (own_part c2_ (2 : Int32) st ln wsv)))])) _
    refine XS.iconst X50.here hx rfl (hb hby at_173) ?_
    show Steps p.tables e below (T50.setTop (mkF m 174 #[.val (.long p1), .second, .val (.int p2), .val (.long p3), .second, .val (.ref b2), .val (.int st), .val (.int ln), .val (.int wsv), .val (.ref b25), .val (.long (own_sum wsv [c0_, c1_, c2_, c3_] ns nl)), .second, .unset, .unset] [(.int (3 : Int32)), (.int c3_), (.long (((own_part c0_ (0 : Int32) st ln wsv) + (own_part c1_ (1 : Int32) st ln wsv)) + (own_part c2_ (2 : Int32) st ln wsv)))])) _
    refine XS.iload X50.here hx rfl (hb hby at_174) rfl ?_
    show Steps p.tables e below (T50.setTop (mkF m 176 #[.val (.long p1), .second, .val (.int p2), .val (.long p3), .second, .val (.ref b2), .val (.int st), .val (.int ln), .val (.int wsv), .val (.ref b25), .val (.long (own_sum wsv [c0_, c1_, c2_, c3_] ns nl)), .second, .unset, .unset] [(.int st), (.int (3 : Int32)), (.int c3_), (.long (((own_part c0_ (0 : Int32) st ln wsv) + (own_part c1_ (1 : Int32) st ln wsv)) + (own_part c2_ (2 : Int32) st ln wsv)))])) _
    refine XS.iload X50.here hx rfl (hb hby at_176) rfl ?_
    show Steps p.tables e below (T50.setTop (mkF m 178 #[.val (.long p1), .second, .val (.int p2), .val (.long p3), .second, .val (.ref b2), .val (.int st), .val (.int ln), .val (.int wsv), .val (.ref b25), .val (.long (own_sum wsv [c0_, c1_, c2_, c3_] ns nl)), .second, .unset, .unset] [(.int ln), (.int st), (.int (3 : Int32)), (.int c3_), (.long (((own_part c0_ (0 : Int32) st ln wsv) + (own_part c1_ (1 : Int32) st ln wsv)) + (own_part c2_ (2 : Int32) st ln wsv)))])) _
    refine XS.iload X50.here hx rfl (hb hby at_178) rfl ?_
    show Steps p.tables e below (T50.setTop (mkF m 180 #[.val (.long p1), .second, .val (.int p2), .val (.long p3), .second, .val (.ref b2), .val (.int st), .val (.int ln), .val (.int wsv), .val (.ref b25), .val (.long (own_sum wsv [c0_, c1_, c2_, c3_] ns nl)), .second, .unset, .unset] [(.int wsv), (.int ln), (.int st), (.int (3 : Int32)), (.int c3_), (.long (((own_part c0_ (0 : Int32) st ln wsv) + (own_part c1_ (1 : Int32) st ln wsv)) + (own_part c2_ (2 : Int32) st ln wsv)))])) _
    exact k
  obtain ⟨_, _, ⟨T53, L53, ck53, nk53⟩, -, X53, ⟨Lc53, hQ53, l53, y53, z53⟩, st53⟩ := Jvm.LawKit.callS X50 hx (y := (⟨"com/example/westford/westford/TextLimitCountedPinLaw", "part", "(CIIIZ)J"⟩ : MethodName)) hown (mvT hZ (hw _ (List.mem_of_getElem? (i := 35) rfl))) (mvT hZ (hw _ (List.mem_of_getElem? (i := 36) rfl))) (mvT hZ (hw _ (List.mem_of_getElem? (i := 37) rfl))) (mvT hZ (hw _ (List.mem_of_getElem? (i := 38) rfl))) (by decide) (backOf (W := 2) (rm2 l Z a0 hw [] c3_ (3 : Int32) st ln wsv T36.heap n0 Z37) hZ (hw _ (List.mem_of_getElem? (i := 38) rfl)) (hw _ (List.mem_of_getElem? (i := 37) rfl)) (by decide) (by decide)) (g := (mkF m 180 #[.val (.long p1), .second, .val (.int p2), .val (.long p3), .second, .val (.ref b2), .val (.int st), .val (.int ln), .val (.int wsv), .val (.ref b25), .val (.long (own_sum wsv [c0_, c1_, c2_, c3_] ns nl)), .second, .unset, .unset] [(.int wsv), (.int ln), (.int st), (.int (3 : Int32)), (.int c3_), (.long (((own_part c0_ (0 : Int32) st ln wsv) + (own_part c1_ (1 : Int32) st ln wsv)) + (own_part c2_ (2 : Int32) st ln wsv)))])) rfl (by rw [hml]; rfl) (argsL := [(.int c3_), (.int (3 : Int32)), (.int st), (.int ln), (.int wsv)]) (rest := [(.long (((own_part c0_ (0 : Int32) st ln wsv) + (own_part c1_ (1 : Int32) st ln wsv)) + (own_part c2_ (2 : Int32) st ln wsv)))]) (lenOf pd_4 rfl) rfl (by show 2 * 0 + _ ≤ _; exact Nat.le_of_eq rfl) (hb hby at_180) (fun _ _ => ⟨rfl, e50, (by decide : 4 + 0 ≤ _), (by decide : 39 + 0 ≤ _)⟩)
  dsimp only [Pt.U, Pt.locs, Pt.cells, Pt.slots] at X53 l53 y53 z53 st53 hQ53
  subst l53 y53 z53
  obtain ⟨rfl, N53q, e53⟩ := hQ53
  have N53 := Fr.app N50 N53q
  have k53 : ∀ t, Steps p.tables e below (T53.setTop (mkF m 183 #[.val (.long p1), .second, .val (.int p2), .val (.long p3), .second, .val (.ref b2), .val (.int st), .val (.int ln), .val (.int wsv), .val (.ref b25), .val (.long (own_sum wsv [c0_, c1_, c2_, c3_] ns nl)), .second, .unset, .unset] [(.long (own_part c3_ (3 : Int32) st ln wsv)), (.long (((own_part c0_ (0 : Int32) st ln wsv) + (own_part c1_ (1 : Int32) st ln wsv)) + (own_part c2_ (2 : Int32) st ln wsv)))])) t → Steps p.tables e below (s₁.setTop (entryFrame m #[(.long p1), (.int p2), (.long p3)] maxLocals)) t := fun t k => k52 t (st53 _ k)
  have k54 : ∀ t, Steps p.tables e below (T53.setTop (mkF m 199 #[.val (.long p1), .second, .val (.int p2), .val (.long p3), .second, .val (.ref b2), .val (.int st), .val (.int ln), .val (.int wsv), .val (.ref b25), .val (.long (own_sum wsv [c0_, c1_, c2_, c3_] ns nl)), .second, .val (.long ((((own_part c0_ (0 : Int32) st ln wsv) + (own_part c1_ (1 : Int32) st ln wsv)) + (own_part c2_ (2 : Int32) st ln wsv)) + (own_part c3_ (3 : Int32) st ln wsv))), .second] [(.int (1 : Int32))])) t → Steps p.tables e below (s₁.setTop (entryFrame m #[(.long p1), (.int p2), (.long p3)] maxLocals)) t := by
    intro t k
    refine k53 _ ?_
    show Steps p.tables e below (T53.setTop (mkF m 183 #[.val (.long p1), .second, .val (.int p2), .val (.long p3), .second, .val (.ref b2), .val (.int st), .val (.int ln), .val (.int wsv), .val (.ref b25), .val (.long (own_sum wsv [c0_, c1_, c2_, c3_] ns nl)), .second, .unset, .unset] [(.long (own_part c3_ (3 : Int32) st ln wsv)), (.long (((own_part c0_ (0 : Int32) st ln wsv) + (own_part c1_ (1 : Int32) st ln wsv)) + (own_part c2_ (2 : Int32) st ln wsv)))])) _
    refine XS.ladd X53.here hx rfl (hb hby at_183) rfl ?_
    show Steps p.tables e below (T53.setTop (mkF m 184 #[.val (.long p1), .second, .val (.int p2), .val (.long p3), .second, .val (.ref b2), .val (.int st), .val (.int ln), .val (.int wsv), .val (.ref b25), .val (.long (own_sum wsv [c0_, c1_, c2_, c3_] ns nl)), .second, .unset, .unset] [(.long ((((own_part c0_ (0 : Int32) st ln wsv) + (own_part c1_ (1 : Int32) st ln wsv)) + (own_part c2_ (2 : Int32) st ln wsv)) + (own_part c3_ (3 : Int32) st ln wsv)))])) _
    refine XS.lstore X53.here hx rfl (hb hby at_184) rfl (l' := #[.val (.long p1), .second, .val (.int p2), .val (.long p3), .second, .val (.ref b2), .val (.int st), .val (.int ln), .val (.int wsv), .val (.ref b25), .val (.long (own_sum wsv [c0_, c1_, c2_, c3_] ns nl)), .second, .val (.long ((((own_part c0_ (0 : Int32) st ln wsv) + (own_part c1_ (1 : Int32) st ln wsv)) + (own_part c2_ (2 : Int32) st ln wsv)) + (own_part c3_ (3 : Int32) st ln wsv))), .second]) rfl ?_
    show Steps p.tables e below (T53.setTop (mkF m 186 #[.val (.long p1), .second, .val (.int p2), .val (.long p3), .second, .val (.ref b2), .val (.int st), .val (.int ln), .val (.int wsv), .val (.ref b25), .val (.long (own_sum wsv [c0_, c1_, c2_, c3_] ns nl)), .second, .val (.long ((((own_part c0_ (0 : Int32) st ln wsv) + (own_part c1_ (1 : Int32) st ln wsv)) + (own_part c2_ (2 : Int32) st ln wsv)) + (own_part c3_ (3 : Int32) st ln wsv))), .second] [])) _
    refine XS.lload X53.here hx rfl (hb hby at_186) rfl ?_
    show Steps p.tables e below (T53.setTop (mkF m 188 #[.val (.long p1), .second, .val (.int p2), .val (.long p3), .second, .val (.ref b2), .val (.int st), .val (.int ln), .val (.int wsv), .val (.ref b25), .val (.long (own_sum wsv [c0_, c1_, c2_, c3_] ns nl)), .second, .val (.long ((((own_part c0_ (0 : Int32) st ln wsv) + (own_part c1_ (1 : Int32) st ln wsv)) + (own_part c2_ (2 : Int32) st ln wsv)) + (own_part c3_ (3 : Int32) st ln wsv))), .second] [(.long (own_sum wsv [c0_, c1_, c2_, c3_] ns nl))])) _
    refine XS.lload X53.here hx rfl (hb hby at_188) rfl ?_
    show Steps p.tables e below (T53.setTop (mkF m 190 #[.val (.long p1), .second, .val (.int p2), .val (.long p3), .second, .val (.ref b2), .val (.int st), .val (.int ln), .val (.int wsv), .val (.ref b25), .val (.long (own_sum wsv [c0_, c1_, c2_, c3_] ns nl)), .second, .val (.long ((((own_part c0_ (0 : Int32) st ln wsv) + (own_part c1_ (1 : Int32) st ln wsv)) + (own_part c2_ (2 : Int32) st ln wsv)) + (own_part c3_ (3 : Int32) st ln wsv))), .second] [(.long ((((own_part c0_ (0 : Int32) st ln wsv) + (own_part c1_ (1 : Int32) st ln wsv)) + (own_part c2_ (2 : Int32) st ln wsv)) + (own_part c3_ (3 : Int32) st ln wsv))), (.long (own_sum wsv [c0_, c1_, c2_, c3_] ns nl))])) _
    refine XS.lcmp X53.here hx rfl (hb hby at_190) rfl ?_
    show Steps p.tables e below (T53.setTop (mkF m 191 #[.val (.long p1), .second, .val (.int p2), .val (.long p3), .second, .val (.ref b2), .val (.int st), .val (.int ln), .val (.int wsv), .val (.ref b25), .val (.long (own_sum wsv [c0_, c1_, c2_, c3_] ns nl)), .second, .val (.long ((((own_part c0_ (0 : Int32) st ln wsv) + (own_part c1_ (1 : Int32) st ln wsv)) + (own_part c2_ (2 : Int32) st ln wsv)) + (own_part c3_ (3 : Int32) st ln wsv))), .second] [(.int (lcmpW (own_sum wsv [c0_, c1_, c2_, c3_] ns nl) ((((own_part c0_ (0 : Int32) st ln wsv) + (own_part c1_ (1 : Int32) st ln wsv)) + (own_part c2_ (2 : Int32) st ln wsv)) + (own_part c3_ (3 : Int32) st ln wsv))))])) _
    refine XS.ifNo X53.here hx rfl (hb hby at_191) rfl ((if0 _ _).trans (teq ((lw_eq _ _).mpr (by rw [hns, hnl]; exact own_law wsv c0_ c1_ c2_ c3_ ns nl hle))).2) ?_
    show Steps p.tables e below (T53.setTop (mkF m 194 #[.val (.long p1), .second, .val (.int p2), .val (.long p3), .second, .val (.ref b2), .val (.int st), .val (.int ln), .val (.int wsv), .val (.ref b25), .val (.long (own_sum wsv [c0_, c1_, c2_, c3_] ns nl)), .second, .val (.long ((((own_part c0_ (0 : Int32) st ln wsv) + (own_part c1_ (1 : Int32) st ln wsv)) + (own_part c2_ (2 : Int32) st ln wsv)) + (own_part c3_ (3 : Int32) st ln wsv))), .second] [])) _
    refine XS.iconst X53.here hx rfl (hb hby at_194) ?_
    show Steps p.tables e below (T53.setTop (mkF m 195 #[.val (.long p1), .second, .val (.int p2), .val (.long p3), .second, .val (.ref b2), .val (.int st), .val (.int ln), .val (.int wsv), .val (.ref b25), .val (.long (own_sum wsv [c0_, c1_, c2_, c3_] ns nl)), .second, .val (.long ((((own_part c0_ (0 : Int32) st ln wsv) + (own_part c1_ (1 : Int32) st ln wsv)) + (own_part c2_ (2 : Int32) st ln wsv)) + (own_part c3_ (3 : Int32) st ln wsv))), .second] [(.int (1 : Int32))])) _
    refine XS.goto X53.here hx rfl (pc0 := 195) (pc' := 199) rfl (hb hby at_195) (by decide) (by decide) ?_
    show Steps p.tables e below (T53.setTop (mkF m 199 #[.val (.long p1), .second, .val (.int p2), .val (.long p3), .second, .val (.ref b2), .val (.int st), .val (.int ln), .val (.int wsv), .val (.ref b25), .val (.long (own_sum wsv [c0_, c1_, c2_, c3_] ns nl)), .second, .val (.long ((((own_part c0_ (0 : Int32) st ln wsv) + (own_part c1_ (1 : Int32) st ln wsv)) + (own_part c2_ (2 : Int32) st ln wsv)) + (own_part c3_ (3 : Int32) st ln wsv))), .second] [(.int (1 : Int32))])) _
    exact k
  obtain ⟨fs, hr, hrun, hended, hWe⟩ := Stand.leaveW (s := s) (vm₁ := T29.vm) X53 (n := ks29) hS29 (by rw [e53]; exact zk37) (v := some (.int (1 : Int32))) (fun h => by rw [Bd.returns] at h; cases h)
  refine ⟨_, _, k54 _ ?_, hrun, hended, _, _, rfl, ?_, hWe.1, hWe.2.1, hWe.2.2.1, hWe.2.2.2.mono (Nat.le_of_ble_eq_true rfl) (Nat.le_of_ble_eq_true rfl)⟩
  · exact retN X53 hx (t := .boolean) Bd.returns (by simp) (hb hby at_199) hr
  · show Q0 Z p1 p2 p3 h0 n0 _ T53.heap _
    rw [e53]
    exact ⟨rfl, N53⟩
set_option maxRecDepth 65536 in
set_option maxHeartbeats 40000000 in
theorem comes_1 {Post : Tables → Env → Array Value → State → Outcome → State → Prop} (hpost : ∀ tb e args s v u, (limb_1_1.after args s (.returned v) u = true ∧ limb_1_2.after args s (.returned v) u = true ∧ True) → ReturnedEndW s (.returned v) u (Jvm.fieldLocs frame_1_writes args s ++ Jvm.arrayLocs frame_1_arrays args s ++ Jvm.staticLocs frame_1_statics s) 16 1152 → Post tb e args s (.returned v) u) :
    ArmFor flags0 classFile x code maxLocals ret World_1 tables_1 room_1 Calls_1 rest_1 Pre_1 Post := by
  intro l hfl _ _ p e ha hc hk s m args below hf hA hF happ hP
  obtain ⟨hcalls, hrest, hpre⟩ := hP
  obtain ⟨-, -, -, hnamed, -, -, -, hat⟩ := (Spec.applies_iff hf).mp happ
  obtain ⟨hg, hn⟩ := and_e (Cond.before_iff.mp (show (Jvm.Cond.and given_1 narrow_1).before args s = true from hpre))
  obtain ⟨hcnt, hr0⟩ := and_e hg
  obtain ⟨hi0, hr1⟩ := and_e hr0
  obtain ⟨hi1, hr2⟩ := and_e hr1
  have hi2 := hr2
  obtain ⟨w0, w1, w2, rfl⟩ : ∃ w0 w1 w2 : Value, args = #[w0, w1, w2] := by
    have hs : args.size = 3 := by simpa [Cond.value, given_1] using hcnt
    obtain ⟨L⟩ := args
    match L, hs with
    | [w0, w1, w2], _ => exact ⟨w0, w1, w2, rfl⟩
  have hw := fun d (hd : d ∈ tables_1) => atoms_spec (ws := Jvm.Cond.code x code maxLocals ret :: tables_1) hat d (List.mem_cons_of_mem _ hd)
  have hfit : Fit s := fun {y c} hc i hi => by
    obtain ⟨ha, rfl⟩ := Array.getElem?_eq_some_iff.mp hc
    have q := List.all_eq_true.mp ((Array.all_eq_true_iff_forall_mem.mp hF) _ (Array.getElem_mem ha)) i (List.mem_range.mpr hi)
    simpa [Array.getElem?_eq_getElem hi] using q
  obtain ⟨i0, ei0⟩ := isL_v hi0
  obtain rfl : w0 = (.long i0) := Option.some.inj ei0
  obtain ⟨i1, ei1⟩ := is_v hi1
  obtain rfl : w1 = (.int i1) := Option.some.inj ei1
  obtain ⟨i2, ei2⟩ := isL_v hi2
  obtain rfl : w2 = (.long i2) := Option.some.inj ei2
  obtain ⟨n, o, h1, h2, h3, _, L, rfl, ⟨rfl, N⟩, hq⟩ := rm0 l s _ hw tables_1 i0 i1 i2  s.heap s.heap.size (Nat.le_refl _)  p e ha hc hk s m _ below hf ((Spec.applies_iff_loose hf).mp happ).1 ⟨rfl, State.Warmed39.refl s, rfl⟩ trivial
  refine ⟨n, _, h1, h2, h3, hpost _ _ _ _ _ _ ⟨Cond.after_iff.mpr rfl, Cond.after_iff.mpr (eq_i res_at (Term.int_eval (1)) rfl), trivial⟩ ⟨hq.1, hq.2.1, hq.2.2.1, (hq.2.2.2.sift fun y hy => Or.inr (N y hy)).mono (by decide) (by decide)⟩⟩
theorem main_1_1 : Claimed_1_1 := comes_1 fun _ _ _ _ _ _ h hF => ⟨h.1, hF⟩
theorem main_1_2 : Claimed_1_2 := comes_1 fun _ _ _ _ _ _ h hF => ⟨h.2.1, hF⟩
end Jvm.Pilot.@@N@@
namespace Jvm.Pilot.@@N@@
open Jvm Jvm.ClassFile Sem Op Lib Jvm.Free Jvm.Stand Jvm.Pilot.@@N@@.Jvm.D
/-! MADE BY PROGRAM (witnessworld.py) out of the Statement's table words and the real class files: 18 classes; the members and pool entries that the words name. The judged class is class 1, her method 1. -/
namespace start1
open Jvm.ClassFile
def u (s : String) : CpInfo := .utf8 (stringToUtf16 s)
/-- a pool by its gaps: so many unusable entries, then the entry; so many at the end -/
def gap : Nat → List CpInfo → List CpInfo
  | 0, r => r
  | n + 1, r => .unusable :: gap n r
def poolList (es : List (Nat × CpInfo)) (last : Nat) : List CpInfo := es.foldr (fun e r => gap e.1 (e.2 :: r)) (gap last [])
def pool (es : List (Nat × CpInfo)) (last : Nat) : Array CpInfo := ⟨poolList es last⟩
def fileOf (pool : Array CpInfo) (this : Nat) (attrs : Array Attribute := #[]) (ms : Array MethodInfo := #[]) (fl : Nat := 33) (sup : Nat := 0) (ifs : Array Nat := #[]) (fds : Array FieldInfo := #[]) : ClassFile where
  minorVersion := 0
  majorVersion := 65
  constantPool := pool
  accessFlags := fl
  thisClass := this
  superClass := sup
  interfaces := ifs
  fields := fds
  methods := ms
  attributes := attrs
def plain (name : String) (sup : Option ClassId) : Class where
  name := name
  kind := .ordinary
  loader := none
  accessFlags := 33
  super := sup
  interfaces := #[]
  cf := none
  fields := #[]
  methods := #[]
  instanceTypes := #[]
  staticTypes := #[]
  resolved := #[]
  callSites := []
  init := .initialized
  statics := none
  mirror := none

def pool0 : Array CpInfo := pool [(5, u "<init>"), (0, u "()V"), (1, .class_ 10), (1, u "java/lang/Object")] 113

def k0c0 : Code := { maxStack := 0, maxLocals := 1, code := object_method_1_code, exceptionTable := #[], attributes := #[] }
def k0m0 : Method := { name := "<init>", desc := "()V", sig := { parameters := [], returnType := none }, accessFlags := 1, code := some k0c0 }
/-- java/lang/Object -/
def k0 : Class := { plain "java/lang/Object" none with
  accessFlags := 33
  interfaces := #[]
  cf := some (fileOf pool0 8 #[] #[{ accessFlags := 1, nameIndex := 5, descriptorIndex := 6, attributes := #[] }] 33 0 #[] #[])
  fields := #[]
  methods := #[k0m0]
  instanceTypes := #[]
  staticTypes := #[]
  resolved := Array.replicate 124 none
  statics := none }

def pool1 : Array CpInfo := pool [(2, .class_ 4), (1, u "java/lang/Object"), (0, u "<init>"), (0, u "()V"), (0, .long 65535), (1, .class_ 10), (0, u "com/example/westford/westford/ColumnType$TextLimit"), (0, .string 12), (0, u "refused"), (0, .methodref 9 14), (0, .nameAndType 5 15), (0, u "(JZLjava/lang/String;)V"), (0, .methodref 9 17), (0, .nameAndType 18 19), (0, u "counted"), (0, u "([CII)J"), (0, .methodref 21 22), (0, .class_ 23), (0, .nameAndType 24 25), (0, u "com/example/westford/westford/TextLimitCountedPinLaw"), (0, u "part"), (0, u "(CIIIZ)J"), (0, .integer 56320), (0, .integer 57343), (2, u "law"), (0, u "(JIJ)Z")] 9

def k1m0 : Method := { name := "<init>", desc := "()V", sig := { parameters := [], returnType := none }, accessFlags := 1, code := none }
def k1c1 : Code := { maxStack := 7, maxLocals := 14, code := code, exceptionTable := #[], attributes := #[] }
def k1m1 : Method := { name := "law", desc := "(JIJ)Z", sig := { parameters := [.long, .int, .long], returnType := some .boolean }, accessFlags := 9, code := some k1c1 }
def k1c2 : Code := { maxStack := 3, maxLocals := 5, code := method_3_code, exceptionTable := #[], attributes := #[] }
def k1m2 : Method := { name := "part", desc := "(CIIIZ)J", sig := { parameters := [.char, .int, .int, .int, .boolean], returnType := some .long }, accessFlags := 10, code := some k1c2 }
/-- com/example/westford/westford/TextLimitCountedPinLaw -/
def k1 : Class := { plain "com/example/westford/westford/TextLimitCountedPinLaw" (some 0) with
  accessFlags := 49
  interfaces := #[]
  cf := some (fileOf pool1 21 #[] #[{ accessFlags := 1, nameIndex := 5, descriptorIndex := 6, attributes := #[] }, { accessFlags := 9, nameIndex := 30, descriptorIndex := 31, attributes := #[] }, { accessFlags := 10, nameIndex := 24, descriptorIndex := 25, attributes := #[] }] 49 2 #[] #[])
  fields := #[]
  methods := #[k1m0, k1m1, k1m2]
  instanceTypes := #[]
  staticTypes := #[]
  resolved := Array.replicate 41 none
  statics := none }

def pool2 : Array CpInfo := pool [(1, .methodref 2 3), (0, .class_ 4), (0, .nameAndType 5 6), (0, u "java/lang/Object"), (0, u "<init>"), (0, u "()V"), (0, .class_ 8), (0, u "java/lang/Record")] 13

def k2c0 : Code := { maxStack := 1, maxLocals := 1, code := jdk_30_method_1_code, exceptionTable := #[], attributes := #[] }
def k2m0 : Method := { name := "<init>", desc := "()V", sig := { parameters := [], returnType := none }, accessFlags := 4, code := some k2c0 }
/-- java/lang/Record -/
def k2 : Class := { plain "java/lang/Record" (some 0) with
  accessFlags := 1057
  interfaces := #[]
  cf := some (fileOf pool2 7 #[] #[{ accessFlags := 4, nameIndex := 5, descriptorIndex := 6, attributes := #[] }] 1057 2 #[] #[])
  fields := #[]
  methods := #[k2m0]
  instanceTypes := #[]
  staticTypes := #[]
  resolved := Array.replicate 22 none
  statics := none }

def pool3 : Array CpInfo := pool [(1, .methodref 2 3), (0, .class_ 4), (0, .nameAndType 5 6), (0, u "java/lang/Record"), (0, u "<init>"), (0, u "()V"), (0, .fieldref 8 9), (0, .class_ 10), (0, .nameAndType 11 12), (0, u "com/example/westford/westford/ColumnType$TextLimit"), (0, u "most"), (0, u "J"), (0, .fieldref 8 14), (0, .nameAndType 15 16), (0, u "whiteSpace"), (0, u "Z"), (0, .fieldref 8 18), (0, .nameAndType 19 20), (0, u "refusal"), (0, u "Ljava/lang/String;"), (0, .methodref 22 23), (0, .class_ 24), (0, .nameAndType 25 26), (0, u "java/lang/Character"), (0, u "isLowSurrogate"), (0, u "(C)Z"), (12, u "(JZLjava/lang/String;)V"), (3, u "counted"), (0, u "([CII)J"), (9, .class_ 55), (0, u "com/example/westford/westford/ColumnType")] 21

def k3c0 : Code := { maxStack := 3, maxLocals := 5, code := prog_8_method_1_code, exceptionTable := #[], attributes := #[] }
def k3m0 : Method := { name := "<init>", desc := "(JZLjava/lang/String;)V", sig := { parameters := [.long, .boolean, (.object "java/lang/String")], returnType := none }, accessFlags := 1, code := some k3c0 }
def k3c1 : Code := { maxStack := 4, maxLocals := 9, code := prog_8_method_2_code, exceptionTable := #[], attributes := #[] }
def k3m1 : Method := { name := "counted", desc := "([CII)J", sig := { parameters := [(.array .char), .int, .int], returnType := some .long }, accessFlags := 0, code := some k3c1 }
/-- com/example/westford/westford/ColumnType$TextLimit -/
def k3 : Class := { plain "com/example/westford/westford/ColumnType$TextLimit" (some 2) with
  accessFlags := 49
  interfaces := #[]
  cf := some (fileOf pool3 8 #[.nestHost 54] #[{ accessFlags := 1, nameIndex := 5, descriptorIndex := 39, attributes := #[] }, { accessFlags := 0, nameIndex := 43, descriptorIndex := 44, attributes := #[] }] 49 2 #[] #[{ accessFlags := 18, nameIndex := 11, descriptorIndex := 12, attributes := #[] }, { accessFlags := 18, nameIndex := 15, descriptorIndex := 16, attributes := #[] }, { accessFlags := 18, nameIndex := 19, descriptorIndex := 20, attributes := #[] }])
  fields := #[{ name := "most", type := .long, accessFlags := 18, slot := 0, constantValue := 0 }, { name := "whiteSpace", type := .boolean, accessFlags := 18, slot := 1, constantValue := 0 }, { name := "refusal", type := (.object "java/lang/String"), accessFlags := 18, slot := 2, constantValue := 0 }]
  methods := #[k3m0, k3m1]
  instanceTypes := #[.long, .boolean, (.object "java/lang/String")]
  staticTypes := #[]
  resolved := Array.replicate 77 none
  statics := none }

def pool4 : Array CpInfo := pool [(1, .class_ 2), (0, u "java/io/Serializable"), (0, .class_ 4), (0, u "java/lang/Object")] 2

/-- java/io/Serializable -/
def k4 : Class := { plain "java/io/Serializable" (some 0) with
  accessFlags := 1537
  interfaces := #[]
  cf := some (fileOf pool4 1 #[] #[] 1537 3 #[] #[])
  fields := #[]
  methods := #[]
  instanceTypes := #[]
  staticTypes := #[]
  resolved := Array.replicate 7 none
  statics := none }

def pool5 : Array CpInfo := pool [(1, .class_ 2), (0, u "java/lang/Comparable"), (0, .class_ 4), (0, u "java/lang/Object")] 7

/-- java/lang/Comparable -/
def k5 : Class := { plain "java/lang/Comparable" (some 0) with
  accessFlags := 1537
  interfaces := #[]
  cf := some (fileOf pool5 1 #[] #[] 1537 3 #[] #[])
  fields := #[]
  methods := #[]
  instanceTypes := #[]
  staticTypes := #[]
  resolved := Array.replicate 12 none
  statics := none }

def pool6 : Array CpInfo := pool [(2, .class_ 4), (1, u "java/lang/CharSequence"), (42, .class_ 48), (0, u "java/lang/CharSequence$1CodePointIterator"), (10, .class_ 60), (0, u "java/lang/CharSequence$1CharIterator"), (5, .class_ 67), (0, u "java/lang/Object")] 63

/-- java/lang/CharSequence -/
def k6 : Class := { plain "java/lang/CharSequence" (some 0) with
  accessFlags := 1537
  interfaces := #[]
  cf := some (fileOf pool6 2 #[.nestMembers #[47, 59]] #[] 1537 66 #[] #[])
  fields := #[]
  methods := #[]
  instanceTypes := #[]
  staticTypes := #[]
  resolved := Array.replicate 131 none
  statics := none }

def pool7 : Array CpInfo := pool [(1, .class_ 2), (0, u "java/lang/constant/Constable"), (0, .class_ 4), (0, u "java/lang/Object")] 6

/-- java/lang/constant/Constable -/
def k7 : Class := { plain "java/lang/constant/Constable" (some 0) with
  accessFlags := 1537
  interfaces := #[]
  cf := some (fileOf pool7 1 #[] #[] 1537 3 #[] #[])
  fields := #[]
  methods := #[]
  instanceTypes := #[]
  staticTypes := #[]
  resolved := Array.replicate 11 none
  statics := none }

def pool8 : Array CpInfo := pool [(1, .class_ 2), (0, u "java/lang/constant/ConstantDesc"), (0, .class_ 4), (0, u "java/lang/Object")] 32

/-- java/lang/constant/ConstantDesc -/
def k8 : Class := { plain "java/lang/constant/ConstantDesc" (some 0) with
  accessFlags := 1537
  interfaces := #[]
  cf := some (fileOf pool8 1 #[] #[] 1537 3 #[] #[])
  fields := #[]
  methods := #[]
  instanceTypes := #[]
  staticTypes := #[]
  resolved := Array.replicate 37 none
  statics := none }

def pool9 : Array CpInfo := pool [(2, .class_ 4), (1, u "java/lang/Object"), (0, u "<init>"), (0, u "()V"), (3, .class_ 12), (1, u "java/lang/String"), (0, u "value"), (0, u "[B"), (2, u "coder"), (0, u "B"), (2, u "hash"), (0, u "I"), (2, u "hashIsZero"), (0, u "Z"), (13, u "COMPACT_STRINGS"), (534, .class_ 576), (0, u "java/lang/CharSequence"), (22, u "CASE_INSENSITIVE_ORDER"), (0, u "Ljava/util/Comparator;"), (500, u "serialPersistentFields"), (0, u "[Ljava/io/ObjectStreamField;"), (0, .class_ 1104), (0, u "java/lang/String$CaseInsensitiveComparator"), (1, .class_ 1107), (0, u "java/io/Serializable"), (0, .class_ 1109), (0, u "java/lang/Comparable"), (0, .class_ 1111), (0, u "java/lang/constant/Constable"), (0, .class_ 1113), (0, u "java/lang/constant/ConstantDesc"), (2, u "serialVersionUID"), (0, u "J"), (3, u "REPL"), (0, u "C"), (2, u "LATIN1"), (1, u "UTF16")] 323

def k9m0 : Method := { name := "<init>", desc := "()V", sig := { parameters := [], returnType := none }, accessFlags := 1, code := none }
/-- java/lang/String -/
def k9 : Class := { plain "java/lang/String" (some 0) with
  accessFlags := 49
  interfaces := #[4, 5, 6, 7, 8]
  cf := some (fileOf pool9 10 #[.nestMembers #[1103]] #[{ accessFlags := 1, nameIndex := 5, descriptorIndex := 6, attributes := #[] }] 49 2 #[1106, 1108, 575, 1110, 1112] #[{ accessFlags := 18, nameIndex := 13, descriptorIndex := 14, attributes := #[] }, { accessFlags := 18, nameIndex := 17, descriptorIndex := 18, attributes := #[] }, { accessFlags := 2, nameIndex := 21, descriptorIndex := 22, attributes := #[] }, { accessFlags := 2, nameIndex := 25, descriptorIndex := 26, attributes := #[] }, { accessFlags := 26, nameIndex := 1116, descriptorIndex := 1117, attributes := #[] }, { accessFlags := 24, nameIndex := 40, descriptorIndex := 26, attributes := #[] }, { accessFlags := 26, nameIndex := 1101, descriptorIndex := 1102, attributes := #[] }, { accessFlags := 26, nameIndex := 1121, descriptorIndex := 1122, attributes := #[] }, { accessFlags := 25, nameIndex := 599, descriptorIndex := 600, attributes := #[] }, { accessFlags := 24, nameIndex := 1125, descriptorIndex := 18, attributes := #[] }, { accessFlags := 24, nameIndex := 1127, descriptorIndex := 18, attributes := #[] }])
  fields := #[{ name := "value", type := (.array .byte), accessFlags := 18, slot := 0, constantValue := 0 }, { name := "coder", type := .byte, accessFlags := 18, slot := 1, constantValue := 0 }, { name := "hash", type := .int, accessFlags := 2, slot := 2, constantValue := 0 }, { name := "hashIsZero", type := .boolean, accessFlags := 2, slot := 3, constantValue := 0 }, { name := "serialVersionUID", type := .long, accessFlags := 26, slot := 0, constantValue := 0 }, { name := "COMPACT_STRINGS", type := .boolean, accessFlags := 24, slot := 1, constantValue := 0 }, { name := "serialPersistentFields", type := (.array (.object "java/io/ObjectStreamField")), accessFlags := 26, slot := 2, constantValue := 0 }, { name := "REPL", type := .char, accessFlags := 26, slot := 3, constantValue := 0 }, { name := "CASE_INSENSITIVE_ORDER", type := (.object "java/util/Comparator"), accessFlags := 25, slot := 4, constantValue := 0 }, { name := "LATIN1", type := .byte, accessFlags := 24, slot := 5, constantValue := 0 }, { name := "UTF16", type := .byte, accessFlags := 24, slot := 6, constantValue := 0 }]
  methods := #[k9m0]
  instanceTypes := #[(.array .byte), .byte, .int, .boolean]
  staticTypes := #[.long, .boolean, (.array (.object "java/io/ObjectStreamField")), .char, (.object "java/util/Comparator"), .byte, .byte]
  resolved := Array.replicate 1451 none
  statics := none }

def pool10 : Array CpInfo := pool [(1, .class_ 2), (0, u "java/lang/Character"), (18, u "value"), (0, u "C"), (19, .class_ 44), (1, u "java/lang/Object"), (3, .class_ 50), (1, u "java/lang/Character$CharacterCache"), (25, .integer 56320), (0, .integer 57344), (3, u "(C)Z"), (2, u "isLowSurrogate"), (199, u "$assertionsDisabled"), (0, u "Z"), (21, .class_ 309), (1, u "java/lang/Character$UnicodeBlock"), (73, u "TYPE"), (0, u "Ljava/lang/Class;"), (0, .class_ 386), (0, u "java/io/Serializable"), (0, .class_ 388), (0, u "java/lang/Comparable"), (0, .class_ 390), (0, u "java/lang/constant/Constable"), (0, u "MIN_RADIX"), (0, u "I"), (2, u "MAX_RADIX"), (1, u "MIN_VALUE"), (1, u "MAX_VALUE"), (3, u "UNASSIGNED"), (0, u "B"), (0, u "UPPERCASE_LETTER"), (1, u "LOWERCASE_LETTER"), (0, u "TITLECASE_LETTER"), (1, u "MODIFIER_LETTER"), (1, u "OTHER_LETTER"), (1, u "NON_SPACING_MARK"), (1, u "ENCLOSING_MARK"), (1, u "COMBINING_SPACING_MARK"), (1, u "DECIMAL_DIGIT_NUMBER"), (1, u "LETTER_NUMBER"), (1, u "OTHER_NUMBER"), (1, u "SPACE_SEPARATOR"), (1, u "LINE_SEPARATOR"), (1, u "PARAGRAPH_SEPARATOR"), (1, u "CONTROL"), (1, u "FORMAT"), (1, u "PRIVATE_USE"), (1, u "SURROGATE"), (1, u "DASH_PUNCTUATION"), (1, u "START_PUNCTUATION"), (1, u "END_PUNCTUATION"), (1, u "CONNECTOR_PUNCTUATION"), (1, u "OTHER_PUNCTUATION"), (1, u "MATH_SYMBOL"), (1, u "CURRENCY_SYMBOL"), (1, u "MODIFIER_SYMBOL"), (1, u "OTHER_SYMBOL"), (1, u "INITIAL_QUOTE_PUNCTUATION"), (1, u "FINAL_QUOTE_PUNCTUATION"), (1, u "ERROR"), (1, u "DIRECTIONALITY_UNDEFINED"), (0, u "DIRECTIONALITY_LEFT_TO_RIGHT"), (0, u "DIRECTIONALITY_RIGHT_TO_LEFT"), (0, u "DIRECTIONALITY_RIGHT_TO_LEFT_ARABIC"), (0, u "DIRECTIONALITY_EUROPEAN_NUMBER"), (0, u "DIRECTIONALITY_EUROPEAN_NUMBER_SEPARATOR"), (0, u "DIRECTIONALITY_EUROPEAN_NUMBER_TERMINATOR"), (0, u "DIRECTIONALITY_ARABIC_NUMBER"), (0, u "DIRECTIONALITY_COMMON_NUMBER_SEPARATOR"), (0, u "DIRECTIONALITY_NONSPACING_MARK"), (0, u "DIRECTIONALITY_BOUNDARY_NEUTRAL"), (0, u "DIRECTIONALITY_PARAGRAPH_SEPARATOR"), (0, u "DIRECTIONALITY_SEGMENT_SEPARATOR"), (0, u "DIRECTIONALITY_WHITESPACE"), (0, u "DIRECTIONALITY_OTHER_NEUTRALS"), (0, u "DIRECTIONALITY_LEFT_TO_RIGHT_EMBEDDING"), (0, u "DIRECTIONALITY_LEFT_TO_RIGHT_OVERRIDE"), (0, u "DIRECTIONALITY_RIGHT_TO_LEFT_EMBEDDING"), (0, u "DIRECTIONALITY_RIGHT_TO_LEFT_OVERRIDE"), (1, u "DIRECTIONALITY_POP_DIRECTIONAL_FORMAT"), (0, u "DIRECTIONALITY_LEFT_TO_RIGHT_ISOLATE"), (0, u "DIRECTIONALITY_RIGHT_TO_LEFT_ISOLATE"), (0, u "DIRECTIONALITY_FIRST_STRONG_ISOLATE"), (0, u "DIRECTIONALITY_POP_DIRECTIONAL_ISOLATE"), (0, u "MIN_HIGH_SURROGATE"), (0, u "MAX_HIGH_SURROGATE"), (1, u "MIN_LOW_SURROGATE"), (0, u "MAX_LOW_SURROGATE"), (1, u "MIN_SURROGATE"), (0, u "MAX_SURROGATE"), (0, u "MIN_SUPPLEMENTARY_CODE_POINT"), (0, u "MIN_CODE_POINT"), (0, u "MAX_CODE_POINT"), (1, u "serialVersionUID"), (0, u "J"), (2, u "SIZE"), (0, u "BYTES"), (88, .class_ 596), (0, u "java/lang/Character$UnicodeScript"), (0, .class_ 598), (0, u "java/lang/Character$Subset")] 5

def k10c0 : Code := { maxStack := 2, maxLocals := 1, code := jdk_89_method_15_code, exceptionTable := #[], attributes := #[] }
def k10m0 : Method := { name := "isLowSurrogate", desc := "(C)Z", sig := { parameters := [.char], returnType := some .boolean }, accessFlags := 9, code := some k10c0 }
/-- java/lang/Character -/
def k10 : Class := { plain "java/lang/Character" (some 0) with
  accessFlags := 49
  interfaces := #[4, 5, 7]
  cf := some (fileOf pool10 1 #[.nestMembers #[48, 595, 307, 597]] #[{ accessFlags := 9, nameIndex := 84, descriptorIndex := 81, attributes := #[] }] 49 42 #[385, 387, 389] #[{ accessFlags := 25, nameIndex := 391, descriptorIndex := 392, attributes := #[] }, { accessFlags := 25, nameIndex := 395, descriptorIndex := 392, attributes := #[] }, { accessFlags := 25, nameIndex := 397, descriptorIndex := 22, attributes := #[] }, { accessFlags := 25, nameIndex := 399, descriptorIndex := 22, attributes := #[] }, { accessFlags := 25, nameIndex := 383, descriptorIndex := 384, attributes := #[] }, { accessFlags := 25, nameIndex := 403, descriptorIndex := 404, attributes := #[] }, { accessFlags := 25, nameIndex := 405, descriptorIndex := 404, attributes := #[] }, { accessFlags := 25, nameIndex := 407, descriptorIndex := 404, attributes := #[] }, { accessFlags := 25, nameIndex := 408, descriptorIndex := 404, attributes := #[] }, { accessFlags := 25, nameIndex := 410, descriptorIndex := 404, attributes := #[] }, { accessFlags := 25, nameIndex := 412, descriptorIndex := 404, attributes := #[] }, { accessFlags := 25, nameIndex := 414, descriptorIndex := 404, attributes := #[] }, { accessFlags := 25, nameIndex := 416, descriptorIndex := 404, attributes := #[] }, { accessFlags := 25, nameIndex := 418, descriptorIndex := 404, attributes := #[] }, { accessFlags := 25, nameIndex := 420, descriptorIndex := 404, attributes := #[] }, { accessFlags := 25, nameIndex := 422, descriptorIndex := 404, attributes := #[] }, { accessFlags := 25, nameIndex := 424, descriptorIndex := 404, attributes := #[] }, { accessFlags := 25, nameIndex := 426, descriptorIndex := 404, attributes := #[] }, { accessFlags := 25, nameIndex := 428, descriptorIndex := 404, attributes := #[] }, { accessFlags := 25, nameIndex := 430, descriptorIndex := 404, attributes := #[] }, { accessFlags := 25, nameIndex := 432, descriptorIndex := 404, attributes := #[] }, { accessFlags := 25, nameIndex := 434, descriptorIndex := 404, attributes := #[] }, { accessFlags := 25, nameIndex := 436, descriptorIndex := 404, attributes := #[] }, { accessFlags := 25, nameIndex := 438, descriptorIndex := 404, attributes := #[] }, { accessFlags := 25, nameIndex := 440, descriptorIndex := 404, attributes := #[] }, { accessFlags := 25, nameIndex := 442, descriptorIndex := 404, attributes := #[] }, { accessFlags := 25, nameIndex := 444, descriptorIndex := 404, attributes := #[] }, { accessFlags := 25, nameIndex := 446, descriptorIndex := 404, attributes := #[] }, { accessFlags := 25, nameIndex := 448, descriptorIndex := 404, attributes := #[] }, { accessFlags := 25, nameIndex := 450, descriptorIndex := 404, attributes := #[] }, { accessFlags := 25, nameIndex := 452, descriptorIndex := 404, attributes := #[] }, { accessFlags := 25, nameIndex := 454, descriptorIndex := 404, attributes := #[] }, { accessFlags := 25, nameIndex := 456, descriptorIndex := 404, attributes := #[] }, { accessFlags := 25, nameIndex := 458, descriptorIndex := 404, attributes := #[] }, { accessFlags := 25, nameIndex := 460, descriptorIndex := 404, attributes := #[] }, { accessFlags := 24, nameIndex := 462, descriptorIndex := 392, attributes := #[] }, { accessFlags := 25, nameIndex := 464, descriptorIndex := 404, attributes := #[] }, { accessFlags := 25, nameIndex := 465, descriptorIndex := 404, attributes := #[] }, { accessFlags := 25, nameIndex := 466, descriptorIndex := 404, attributes := #[] }, { accessFlags := 25, nameIndex := 467, descriptorIndex := 404, attributes := #[] }, { accessFlags := 25, nameIndex := 468, descriptorIndex := 404, attributes := #[] }, { accessFlags := 25, nameIndex := 469, descriptorIndex := 404, attributes := #[] }, { accessFlags := 25, nameIndex := 470, descriptorIndex := 404, attributes := #[] }, { accessFlags := 25, nameIndex := 471, descriptorIndex := 404, attributes := #[] }, { accessFlags := 25, nameIndex := 472, descriptorIndex := 404, attributes := #[] }, { accessFlags := 25, nameIndex := 473, descriptorIndex := 404, attributes := #[] }, { accessFlags := 25, nameIndex := 474, descriptorIndex := 404, attributes := #[] }, { accessFlags := 25, nameIndex := 475, descriptorIndex := 404, attributes := #[] }, { accessFlags := 25, nameIndex := 476, descriptorIndex := 404, attributes := #[] }, { accessFlags := 25, nameIndex := 477, descriptorIndex := 404, attributes := #[] }, { accessFlags := 25, nameIndex := 478, descriptorIndex := 404, attributes := #[] }, { accessFlags := 25, nameIndex := 479, descriptorIndex := 404, attributes := #[] }, { accessFlags := 25, nameIndex := 480, descriptorIndex := 404, attributes := #[] }, { accessFlags := 25, nameIndex := 481, descriptorIndex := 404, attributes := #[] }, { accessFlags := 25, nameIndex := 482, descriptorIndex := 404, attributes := #[] }, { accessFlags := 25, nameIndex := 484, descriptorIndex := 404, attributes := #[] }, { accessFlags := 25, nameIndex := 485, descriptorIndex := 404, attributes := #[] }, { accessFlags := 25, nameIndex := 486, descriptorIndex := 404, attributes := #[] }, { accessFlags := 25, nameIndex := 487, descriptorIndex := 404, attributes := #[] }, { accessFlags := 25, nameIndex := 488, descriptorIndex := 404, attributes := #[] }, { accessFlags := 25, nameIndex := 489, descriptorIndex := 22, attributes := #[] }, { accessFlags := 25, nameIndex := 490, descriptorIndex := 22, attributes := #[] }, { accessFlags := 25, nameIndex := 492, descriptorIndex := 22, attributes := #[] }, { accessFlags := 25, nameIndex := 493, descriptorIndex := 22, attributes := #[] }, { accessFlags := 25, nameIndex := 495, descriptorIndex := 22, attributes := #[] }, { accessFlags := 25, nameIndex := 496, descriptorIndex := 22, attributes := #[] }, { accessFlags := 25, nameIndex := 497, descriptorIndex := 392, attributes := #[] }, { accessFlags := 25, nameIndex := 498, descriptorIndex := 392, attributes := #[] }, { accessFlags := 25, nameIndex := 499, descriptorIndex := 392, attributes := #[] }, { accessFlags := 18, nameIndex := 21, descriptorIndex := 22, attributes := #[] }, { accessFlags := 26, nameIndex := 501, descriptorIndex := 502, attributes := #[] }, { accessFlags := 25, nameIndex := 505, descriptorIndex := 392, attributes := #[] }, { accessFlags := 25, nameIndex := 506, descriptorIndex := 392, attributes := #[] }, { accessFlags := 4120, nameIndex := 284, descriptorIndex := 285, attributes := #[] }])
  fields := #[{ name := "MIN_RADIX", type := .int, accessFlags := 25, slot := 0, constantValue := 0 }, { name := "MAX_RADIX", type := .int, accessFlags := 25, slot := 1, constantValue := 0 }, { name := "MIN_VALUE", type := .char, accessFlags := 25, slot := 2, constantValue := 0 }, { name := "MAX_VALUE", type := .char, accessFlags := 25, slot := 3, constantValue := 0 }, { name := "TYPE", type := (.object "java/lang/Class"), accessFlags := 25, slot := 4, constantValue := 0 }, { name := "UNASSIGNED", type := .byte, accessFlags := 25, slot := 5, constantValue := 0 }, { name := "UPPERCASE_LETTER", type := .byte, accessFlags := 25, slot := 6, constantValue := 0 }, { name := "LOWERCASE_LETTER", type := .byte, accessFlags := 25, slot := 7, constantValue := 0 }, { name := "TITLECASE_LETTER", type := .byte, accessFlags := 25, slot := 8, constantValue := 0 }, { name := "MODIFIER_LETTER", type := .byte, accessFlags := 25, slot := 9, constantValue := 0 }, { name := "OTHER_LETTER", type := .byte, accessFlags := 25, slot := 10, constantValue := 0 }, { name := "NON_SPACING_MARK", type := .byte, accessFlags := 25, slot := 11, constantValue := 0 }, { name := "ENCLOSING_MARK", type := .byte, accessFlags := 25, slot := 12, constantValue := 0 }, { name := "COMBINING_SPACING_MARK", type := .byte, accessFlags := 25, slot := 13, constantValue := 0 }, { name := "DECIMAL_DIGIT_NUMBER", type := .byte, accessFlags := 25, slot := 14, constantValue := 0 }, { name := "LETTER_NUMBER", type := .byte, accessFlags := 25, slot := 15, constantValue := 0 }, { name := "OTHER_NUMBER", type := .byte, accessFlags := 25, slot := 16, constantValue := 0 }, { name := "SPACE_SEPARATOR", type := .byte, accessFlags := 25, slot := 17, constantValue := 0 }, { name := "LINE_SEPARATOR", type := .byte, accessFlags := 25, slot := 18, constantValue := 0 }, { name := "PARAGRAPH_SEPARATOR", type := .byte, accessFlags := 25, slot := 19, constantValue := 0 }, { name := "CONTROL", type := .byte, accessFlags := 25, slot := 20, constantValue := 0 }, { name := "FORMAT", type := .byte, accessFlags := 25, slot := 21, constantValue := 0 }, { name := "PRIVATE_USE", type := .byte, accessFlags := 25, slot := 22, constantValue := 0 }, { name := "SURROGATE", type := .byte, accessFlags := 25, slot := 23, constantValue := 0 }, { name := "DASH_PUNCTUATION", type := .byte, accessFlags := 25, slot := 24, constantValue := 0 }, { name := "START_PUNCTUATION", type := .byte, accessFlags := 25, slot := 25, constantValue := 0 }, { name := "END_PUNCTUATION", type := .byte, accessFlags := 25, slot := 26, constantValue := 0 }, { name := "CONNECTOR_PUNCTUATION", type := .byte, accessFlags := 25, slot := 27, constantValue := 0 }, { name := "OTHER_PUNCTUATION", type := .byte, accessFlags := 25, slot := 28, constantValue := 0 }, { name := "MATH_SYMBOL", type := .byte, accessFlags := 25, slot := 29, constantValue := 0 }, { name := "CURRENCY_SYMBOL", type := .byte, accessFlags := 25, slot := 30, constantValue := 0 }, { name := "MODIFIER_SYMBOL", type := .byte, accessFlags := 25, slot := 31, constantValue := 0 }, { name := "OTHER_SYMBOL", type := .byte, accessFlags := 25, slot := 32, constantValue := 0 }, { name := "INITIAL_QUOTE_PUNCTUATION", type := .byte, accessFlags := 25, slot := 33, constantValue := 0 }, { name := "FINAL_QUOTE_PUNCTUATION", type := .byte, accessFlags := 25, slot := 34, constantValue := 0 }, { name := "ERROR", type := .int, accessFlags := 24, slot := 35, constantValue := 0 }, { name := "DIRECTIONALITY_UNDEFINED", type := .byte, accessFlags := 25, slot := 36, constantValue := 0 }, { name := "DIRECTIONALITY_LEFT_TO_RIGHT", type := .byte, accessFlags := 25, slot := 37, constantValue := 0 }, { name := "DIRECTIONALITY_RIGHT_TO_LEFT", type := .byte, accessFlags := 25, slot := 38, constantValue := 0 }, { name := "DIRECTIONALITY_RIGHT_TO_LEFT_ARABIC", type := .byte, accessFlags := 25, slot := 39, constantValue := 0 }, { name := "DIRECTIONALITY_EUROPEAN_NUMBER", type := .byte, accessFlags := 25, slot := 40, constantValue := 0 }, { name := "DIRECTIONALITY_EUROPEAN_NUMBER_SEPARATOR", type := .byte, accessFlags := 25, slot := 41, constantValue := 0 }, { name := "DIRECTIONALITY_EUROPEAN_NUMBER_TERMINATOR", type := .byte, accessFlags := 25, slot := 42, constantValue := 0 }, { name := "DIRECTIONALITY_ARABIC_NUMBER", type := .byte, accessFlags := 25, slot := 43, constantValue := 0 }, { name := "DIRECTIONALITY_COMMON_NUMBER_SEPARATOR", type := .byte, accessFlags := 25, slot := 44, constantValue := 0 }, { name := "DIRECTIONALITY_NONSPACING_MARK", type := .byte, accessFlags := 25, slot := 45, constantValue := 0 }, { name := "DIRECTIONALITY_BOUNDARY_NEUTRAL", type := .byte, accessFlags := 25, slot := 46, constantValue := 0 }, { name := "DIRECTIONALITY_PARAGRAPH_SEPARATOR", type := .byte, accessFlags := 25, slot := 47, constantValue := 0 }, { name := "DIRECTIONALITY_SEGMENT_SEPARATOR", type := .byte, accessFlags := 25, slot := 48, constantValue := 0 }, { name := "DIRECTIONALITY_WHITESPACE", type := .byte, accessFlags := 25, slot := 49, constantValue := 0 }, { name := "DIRECTIONALITY_OTHER_NEUTRALS", type := .byte, accessFlags := 25, slot := 50, constantValue := 0 }, { name := "DIRECTIONALITY_LEFT_TO_RIGHT_EMBEDDING", type := .byte, accessFlags := 25, slot := 51, constantValue := 0 }, { name := "DIRECTIONALITY_LEFT_TO_RIGHT_OVERRIDE", type := .byte, accessFlags := 25, slot := 52, constantValue := 0 }, { name := "DIRECTIONALITY_RIGHT_TO_LEFT_EMBEDDING", type := .byte, accessFlags := 25, slot := 53, constantValue := 0 }, { name := "DIRECTIONALITY_RIGHT_TO_LEFT_OVERRIDE", type := .byte, accessFlags := 25, slot := 54, constantValue := 0 }, { name := "DIRECTIONALITY_POP_DIRECTIONAL_FORMAT", type := .byte, accessFlags := 25, slot := 55, constantValue := 0 }, { name := "DIRECTIONALITY_LEFT_TO_RIGHT_ISOLATE", type := .byte, accessFlags := 25, slot := 56, constantValue := 0 }, { name := "DIRECTIONALITY_RIGHT_TO_LEFT_ISOLATE", type := .byte, accessFlags := 25, slot := 57, constantValue := 0 }, { name := "DIRECTIONALITY_FIRST_STRONG_ISOLATE", type := .byte, accessFlags := 25, slot := 58, constantValue := 0 }, { name := "DIRECTIONALITY_POP_DIRECTIONAL_ISOLATE", type := .byte, accessFlags := 25, slot := 59, constantValue := 0 }, { name := "MIN_HIGH_SURROGATE", type := .char, accessFlags := 25, slot := 60, constantValue := 0 }, { name := "MAX_HIGH_SURROGATE", type := .char, accessFlags := 25, slot := 61, constantValue := 0 }, { name := "MIN_LOW_SURROGATE", type := .char, accessFlags := 25, slot := 62, constantValue := 0 }, { name := "MAX_LOW_SURROGATE", type := .char, accessFlags := 25, slot := 63, constantValue := 0 }, { name := "MIN_SURROGATE", type := .char, accessFlags := 25, slot := 64, constantValue := 0 }, { name := "MAX_SURROGATE", type := .char, accessFlags := 25, slot := 65, constantValue := 0 }, { name := "MIN_SUPPLEMENTARY_CODE_POINT", type := .int, accessFlags := 25, slot := 66, constantValue := 0 }, { name := "MIN_CODE_POINT", type := .int, accessFlags := 25, slot := 67, constantValue := 0 }, { name := "MAX_CODE_POINT", type := .int, accessFlags := 25, slot := 68, constantValue := 0 }, { name := "value", type := .char, accessFlags := 18, slot := 0, constantValue := 0 }, { name := "serialVersionUID", type := .long, accessFlags := 26, slot := 69, constantValue := 0 }, { name := "SIZE", type := .int, accessFlags := 25, slot := 70, constantValue := 0 }, { name := "BYTES", type := .int, accessFlags := 25, slot := 71, constantValue := 0 }, { name := "$assertionsDisabled", type := .boolean, accessFlags := 4120, slot := 72, constantValue := 0 }]
  methods := #[k10m0]
  instanceTypes := #[.char]
  staticTypes := #[.int, .int, .char, .char, (.object "java/lang/Class"), .byte, .byte, .byte, .byte, .byte, .byte, .byte, .byte, .byte, .byte, .byte, .byte, .byte, .byte, .byte, .byte, .byte, .byte, .byte, .byte, .byte, .byte, .byte, .byte, .byte, .byte, .byte, .byte, .byte, .byte, .int, .byte, .byte, .byte, .byte, .byte, .byte, .byte, .byte, .byte, .byte, .byte, .byte, .byte, .byte, .byte, .byte, .byte, .byte, .byte, .byte, .byte, .byte, .byte, .byte, .char, .char, .char, .char, .char, .char, .int, .int, .int, .long, .int, .int, .boolean]
  resolved := Array.replicate 604 none
  statics := none }

def pool11 : Array CpInfo := pool [(1, u "java/lang/Cloneable"), (0, .class_ 1), (0, u "java/lang/Object"), (0, .class_ 3)] 3

/-- java/lang/Cloneable -/
def k11 : Class := { plain "java/lang/Cloneable" (some 0) with
  accessFlags := 1537
  interfaces := #[]
  cf := some (fileOf pool11 2 #[] #[] 1537 4 #[] #[])
  fields := #[]
  methods := #[]
  instanceTypes := #[]
  staticTypes := #[]
  resolved := Array.replicate 8 none
  statics := none }

/-- the primitive byte -/
def k12 : Class := { plain "byte" none with kind := .primitive 'B', accessFlags := 0x411 }
/-- [B -/
def k13 : Class := { plain "[B" (some 0) with kind := .array 12 .byte, interfaces := #[11, 4], accessFlags := 1041 }

/-- the primitive char -/
def k14 : Class := { plain "char" none with kind := .primitive 'C', accessFlags := 0x411 }
/-- [C -/
def k15 : Class := { plain "[C" (some 0) with kind := .array 14 .char, interfaces := #[11, 4], accessFlags := 1041 }

/-- the primitive int -/
def k16 : Class := { plain "int" none with kind := .primitive 'I', accessFlags := 0x411 }
/-- [I -/
def k17 : Class := { plain "[I" (some 0) with kind := .array 16 .int, interfaces := #[11, 4], accessFlags := 1041 }

def heap : Heap := #[]
def classes : Array Class := #[k0, k1, k2, k3, k4, k5, k6, k7, k8, k9, k10, k11, k12, k13, k14, k15, k16, k17]
def interned : List (Array UInt16 × Addr) := []
def slotsUsed : Nat := 0
def theMethod : MethodId := ⟨1, 1⟩
def args0 : Array Value := #[.long 5, .int 7, .long 5]
def aboutOver (below : List Frame) : State where
  vm := { classes := classes, interned := interned.toArray }
  heap := heap
  slotsUsed := slotsUsed
  threads := #[{ frames := .invoking theMethod args0 :: below }]
def below0 : List Frame := [.native { method := ⟨0, 0⟩, args := #[] }]
def about1 : State := aboutOver below0
def p0 : Program := .bare "" "" ""
def e0 : Env := launch0.env 0 0 0
theorem w_frames : about1.frames = Frame.invoking theMethod args0 :: below0 := rfl
set_option maxRecDepth 65536 in
theorem w_args : argsFit about1.vm theMethod args0 = true := by decide +kernel
set_option maxRecDepth 65536 in
theorem w_heap : heapFits about1 = true := by decide +kernel
set_option maxRecDepth 65536 in
theorem w_runnable : about1.curStatus? = some .runnable := by decide +kernel
set_option maxRecDepth 65536 in
theorem w_alone : about1.alone = true := by decide +kernel
set_option maxRecDepth 65536 in
theorem w_named : about1.methodNamed? x = some theMethod := by decide +kernel
set_option maxRecDepth 65536 in
theorem w_hears : about1.hears theMethod below0 = true := by decide +kernel
set_option maxRecDepth 65536 in
theorem w_ripe : about1.ripe theMethod args0 below0 = true := by decide +kernel
theorem w_running : about1.status = .running := rfl
set_option maxRecDepth 65536 in
theorem w_room : about1.hasRoom e0.platform room_1 = true :=
  launch0.hasRoom_least _ room_1 (by decide +kernel) (by decide +kernel) (by decide +kernel) (by decide +kernel) (by decide +kernel) (by decide +kernel)
theorem allAtoms_all (ts : List Jvm.Cond) (a : Array Jvm.Value) (st : Jvm.State) : (allAtoms ts).before a st = ts.all (fun c => c.before a st) := by
  induction ts with
  | nil => rfl
  | cons c t ih =>
    show (Jvm.Cond.and c (allAtoms t)).before a st = _
    rw [Jvm.Cond.before_and, ih, List.all_cons]
def words1 : List Jvm.Cond := Jvm.Cond.code x code maxLocals ret :: tables_1
/-- a 'code' word, met by the world's own term for the bytes: nothing is compared byte by byte -/
theorem code_word {y : MethodName} {bytes : ByteArray} {mx : Nat} {rt : Option FieldType} {a : Array Value} {s : State} {m : MethodId} {meth : Method} {c : Code} (h1 : s.methodNamed? y = some m) (h2 : s.vm.method? m = some meth) (h3 : meth.code = some c) (h4 : c.code = bytes)
    (h5 : (c.maxLocals == mx && c.exceptionTable.isEmpty && decide (c.maxStack ≤ mostOperands) && decide (meth.sig.returnType = rt) && !meth.locks && decide (parseMethodDescriptor y.desc = some meth.sig)) = true) : (Jvm.Cond.code y bytes mx rt).before a s = true := by
  simp only [Bool.and_eq_true, beq_iff_eq, Bool.not_eq_true', decide_eq_true_eq] at h5
  obtain ⟨⟨⟨⟨⟨g1, g2⟩, g3⟩, g4⟩, g5⟩, g6⟩ := h5
  simp [Cond.before, Cond.holds, Cond.value, h1, h2, h3, h4, g1, g2, g3, g4, g5, g6]
def isCode : Jvm.Cond → Bool
  | .code _ _ _ _ => true
  | _ => false
theorem all_split {L : List Jvm.Cond} {P : Jvm.Cond → Bool} (h1 : L.all (fun c => isCode c || P c) = true) (h2 : ∀ c ∈ L.filter isCode, P c = true) : L.all P = true := by
  refine List.all_eq_true.mpr fun c hc => ?_
  have h := List.all_eq_true.mp h1 c hc
  rcases Bool.eq_false_or_eq_true (isCode c) with hi | hi
  · exact h2 c (List.mem_filter.mpr ⟨hc, hi⟩)
  · simpa [hi] using h
set_option maxRecDepth 65536 in
theorem w_c0 : (Jvm.Cond.code x code maxLocals ret).before args0 about1 = true := code_word (m := ⟨1, 1⟩) (meth := k1m1) (c := k1c1) (by decide +kernel) rfl rfl rfl (by decide +kernel)
set_option maxRecDepth 65536 in
theorem w_c1 : (Jvm.Cond.code ({ cls := "com/example/westford/westford/ColumnType$TextLimit", name := "<init>", desc := "(JZLjava/lang/String;)V" } : Jvm.MethodName) prog_8_method_1_code (5 : Nat) (Option.none : Option Jvm.ClassFile.FieldType)).before args0 about1 = true := code_word (m := ⟨3, 0⟩) (meth := k3m0) (c := k3c0) (by decide +kernel) rfl rfl rfl (by decide +kernel)
set_option maxRecDepth 65536 in
theorem w_c2 : (Jvm.Cond.code ({ cls := "java/lang/Record", name := "<init>", desc := "()V" } : Jvm.MethodName) jdk_30_method_1_code (1 : Nat) (Option.none : Option Jvm.ClassFile.FieldType)).before args0 about1 = true := code_word (m := ⟨2, 0⟩) (meth := k2m0) (c := k2c0) (by decide +kernel) rfl rfl rfl (by decide +kernel)
set_option maxRecDepth 65536 in
theorem w_c3 : (Jvm.Cond.code ({ cls := "java/lang/Object", name := "<init>", desc := "()V" } : Jvm.MethodName) object_method_1_code (1 : Nat) (Option.none : Option Jvm.ClassFile.FieldType)).before args0 about1 = true := code_word (m := ⟨0, 0⟩) (meth := k0m0) (c := k0c0) (by decide +kernel) rfl rfl rfl (by decide +kernel)
set_option maxRecDepth 65536 in
theorem w_c4 : (Jvm.Cond.code ({ cls := "com/example/westford/westford/ColumnType$TextLimit", name := "counted", desc := "([CII)J" } : Jvm.MethodName) prog_8_method_2_code (9 : Nat) (Option.some Jvm.ClassFile.FieldType.long)).before args0 about1 = true := code_word (m := ⟨3, 1⟩) (meth := k3m1) (c := k3c1) (by decide +kernel) rfl rfl rfl (by decide +kernel)
set_option maxRecDepth 65536 in
theorem w_c5 : (Jvm.Cond.code ({ cls := "com/example/westford/westford/TextLimitCountedPinLaw", name := "part", desc := "(CIIIZ)J" } : Jvm.MethodName) method_3_code (5 : Nat) (Option.some Jvm.ClassFile.FieldType.long)).before args0 about1 = true := code_word (m := ⟨1, 2⟩) (meth := k1m2) (c := k1c2) (by decide +kernel) rfl rfl rfl (by decide +kernel)
set_option maxRecDepth 65536 in
theorem w_c6 : (Jvm.Cond.code ({ cls := "java/lang/Character", name := "isLowSurrogate", desc := "(C)Z" } : Jvm.MethodName) jdk_89_method_15_code (1 : Nat) (Option.some Jvm.ClassFile.FieldType.boolean)).before args0 about1 = true := code_word (m := ⟨10, 0⟩) (meth := k10m0) (c := k10c0) (by decide +kernel) rfl rfl rfl (by decide +kernel)
def codes1 : List Jvm.Cond := [Jvm.Cond.code x code maxLocals ret, Jvm.Cond.code ({ cls := "com/example/westford/westford/ColumnType$TextLimit", name := "<init>", desc := "(JZLjava/lang/String;)V" } : Jvm.MethodName) prog_8_method_1_code (5 : Nat) (Option.none : Option Jvm.ClassFile.FieldType), Jvm.Cond.code ({ cls := "java/lang/Record", name := "<init>", desc := "()V" } : Jvm.MethodName) jdk_30_method_1_code (1 : Nat) (Option.none : Option Jvm.ClassFile.FieldType), Jvm.Cond.code ({ cls := "java/lang/Object", name := "<init>", desc := "()V" } : Jvm.MethodName) object_method_1_code (1 : Nat) (Option.none : Option Jvm.ClassFile.FieldType), Jvm.Cond.code ({ cls := "com/example/westford/westford/ColumnType$TextLimit", name := "counted", desc := "([CII)J" } : Jvm.MethodName) prog_8_method_2_code (9 : Nat) (Option.some Jvm.ClassFile.FieldType.long), Jvm.Cond.code ({ cls := "com/example/westford/westford/TextLimitCountedPinLaw", name := "part", desc := "(CIIIZ)J" } : Jvm.MethodName) method_3_code (5 : Nat) (Option.some Jvm.ClassFile.FieldType.long), Jvm.Cond.code ({ cls := "java/lang/Character", name := "isLowSurrogate", desc := "(C)Z" } : Jvm.MethodName) jdk_89_method_15_code (1 : Nat) (Option.some Jvm.ClassFile.FieldType.boolean)]
set_option maxRecDepth 65536 in
theorem codes_eq : words1.filter isCode = codes1 := rfl
theorem w_codes : ∀ c ∈ words1.filter isCode, c.before args0 about1 = true := by
  rw [codes_eq]
  intro c hc
  simp only [codes1, List.mem_cons, List.not_mem_nil, or_false] at hc
  rcases hc with rfl | rfl | rfl | rfl | rfl | rfl | rfl
  · exact w_c0
  · exact w_c1
  · exact w_c2
  · exact w_c3
  · exact w_c4
  · exact w_c5
  · exact w_c6
set_option maxRecDepth 65536 in
theorem w_t1 : (words1.take 24).all (fun c => isCode c || c.before args0 about1) = true := by decide +kernel
set_option maxRecDepth 65536 in
theorem w_t2 : (words1.drop 24).all (fun c => isCode c || c.before args0 about1) = true := by decide +kernel
theorem w_tables : (allAtoms (Jvm.Cond.code x code maxLocals ret :: tables_1)).before args0 about1 = true := by
  rw [allAtoms_all]
  show words1.all (fun c => c.before args0 about1) = true
  refine all_split ?_ w_codes
  rw [← List.take_append_drop 24 words1, List.all_append, w_t1, w_t2]
  rfl
set_option maxRecDepth 65536 in
theorem w_case : (Jvm.Cond.and given_1 narrow_1).before args0 about1 = true := by decide +kernel
theorem w_applies : (headSpec (Jvm.Cond.code x code maxLocals ret :: tables_1) room_1).applies x e0.platform about1 = true :=
  (Spec.applies_iff w_frames).mpr ⟨w_running, w_runnable, w_alone, w_named, w_hears, w_ripe, w_room, w_tables⟩
theorem atStart : AtStart classFile x code maxLocals ret World_1 tables_1 room_1 Calls_1 rest_1 Pre_1 launch0 p0 e0 about1 theMethod args0 below0 :=
  ⟨lists_1, trivial, launch0.admits_env _ _ _, launch0.least_env, fairChoices_fair.cas, fairChoices_fair.clock, w_frames, w_args, w_heap, w_applies, trivial, trivial, w_case⟩
end start1
theorem witness_1 : WitnessClaimed_1 := ⟨start1.p0, start1.e0, start1.about1, start1.theMethod, start1.args0, start1.below0, start1.atStart⟩
end Jvm.Pilot.@@N@@
