import JvmDerived
import JvmDerived.Pilot.@@N@@Statement
import JvmDerived.Pilot.@@N@@Code
set_option linter.unusedVariables false
set_option linter.unusedSimpArgs false
namespace Jvm.RoadKit
open Sem ClassFile Op Lib Jvm.Stand Jvm.Free Jvm.LawKit
section New
variable {p : Program} {l : Launch} {e : Env} {R : Room} {s : State} {m : MethodId} {args : Array Value} {below : List Frame} {meth : Method} {c : Code} {T : State} {locs : List Loc} {cells slots : Nat}
theorem retI (X : Stand p l e R s m args below meth c T locs cells slots) (hx : p.tables.exec = Jvm.exec) {pc : Nat} {Ls : Array Slot} {z : Int32} {rest : List Value} (hret : meth.sig.returnType = some .int) (hd : decode c.code pc = .ok (.ireturn, 1)) {fs : List Frame}
    (hl : ∀ (f : JFrame) (acts : List Action), f.method = m → f.locked = none → f.entered = [] → (doReturn e (T.setTop f) acts (some (.int z))).1 = T.setFrames fs) : Steps p.tables e below (T.setTop (mkF m pc Ls (.int z :: rest))) (T.setFrames fs) := by
  have hm' : T.vm.method? m = some meth := X.method'
  have hn : narrow .int (.int z) = .int z := rfl
  show Steps p.tables e below (T.setTop { method := m, pc := pc, locals := Ls, stack := _ :: rest, locked := none }) _
  jvm_step X.here [X.here.top, hx, hd, hm', hret, hn]
  first | (intro acts; rw [hl _ acts rfl rfl rfl]) | rw [hl _ _ rfl rfl rfl]
  exact Steps.refl _
theorem own_lremM {g : JFrame} {target : State} (X : Stand p l e R s m args below meth c T locs cells slots) (hx : p.tables.exec = Jvm.exec) (hg : g.method = m) {x y : Int64} {rest : List Value} (hd : decode c.code g.pc = .ok (.lrem, 1)) (hs : g.stack = .long y :: .long x :: rest) (hy : y ≠ 0)
    (hr : Steps p.tables e below (T.setTop { g with pc := g.pc + 1, stack := .long (x % y) :: rest }) target) : Steps p.tables e below (T.setTop g) target := by
  have q : x - x / y * y = x % y := lrem_mod x y
  exact XS.lrem X.here hx hg hd hs hy (by rw [q]; exact hr)
theorem own_nz {z : Int32} (h : z = 0 ∨ z = 1) : nar .boolean z = z := by rcases h with rfl | rfl <;> rfl
theorem own_cat1 {v : Value} (h : v.isRef = true) : v.category = 1 := by rcases ref_cases h with rfl | ⟨a, rfl⟩ <;> rfl
end New
end Jvm.RoadKit
/- laws to paste: Road.backV, Road.lenW, Road.chN, Road.eqW, Road.codOf (cut by pick.py; bodies as the Statement names them) -/
namespace Jvm.Pilot.@@N@@
namespace StrChars
open Jvm Sem ClassFile Op Lib Jvm.Stand Jvm.Free.XT Jvm.Free.ALB Jvm.Free.JM Jvm.Free
open Jvm.Lib.Cold (StaticIs)
/-- a char array whose places are chars -/
def Ch (a : Addr) (A : Cell) (U : State) : Prop := Arr .char a A U ∧ Typed .char A
theorem Ch.mv {a : Addr} {A : Cell} {U U' : State} (h : Ch a A U) (hal : U.vm.Alike U'.vm) (hh : U'.heap = U.heap) : Ch a A U' := ⟨h.1.mv hal hh, h.2⟩
theorem Ch.keep {a : Addr} {A : Cell} {U U' : State} (h : Ch a A U) (hal : U.vm.Alike U'.vm) (hk : U'.heap[a]? = some A) : Ch a A U' := ⟨h.1.keep hal hk, h.2⟩
/-- what place i of a char[]'s cell holds -/
def cv (A : Cell) (i : Nat) : Int32 := match A.slots[i]? with | some (.int x) => x | _ => 0
theorem Ch.get {a : Addr} {A : Cell} {U : State} (h : Ch a A U) {i : Nat} (hi : i < A.slots.size) : A.slots[i]? = some (.int (cv A i)) := by
  have e := Array.getElem?_eq_getElem hi
  have f := h.2 i _ e
  unfold cv; rw [e]
  generalize A.slots[i] = v at f
  cases v <;> simp [fits] at f ⊢
/-- the byte that i2b leaves of a char -/
def lo8 (x : Int32) : Int32 := x.toInt8.toInt32
theorem fits_lo8 (y : Int32) : fits .byte (.int (lo8 y)) = true := by
  have h1 := y.toInt8.le_toInt
  have h2 := y.toInt8.toInt_lt
  simp only [lo8, fits, Bool.and_eq_true, decide_eq_true_eq, Int32.le_iff_toInt_le, Int8.toInt_toInt32, show (-128 : Int32).toInt = -128 from by decide, show (127 : Int32).toInt = 127 from by decide]
  omega
/-- A' is A but that each place j of lo .. hi - 1 holds f j -/
def Laid (A A' : Cell) (lo hi : Nat) (f : Nat → Value) : Prop := A'.cls = A.cls ∧ A'.vm = A.vm ∧ A'.slots.size = A.slots.size ∧ ∀ i, A'.slots[i]? = if lo ≤ i ∧ i < hi then some (f i) else A.slots[i]?
theorem Laid.zero (A : Cell) (lo : Nat) (f : Nat → Value) : Laid A A lo (lo + 0) f := ⟨rfl, rfl, rfl, fun i => by rw [if_neg (by omega)]⟩
theorem Laid.step {A Ak : Cell} {lo k : Nat} {f : Nat → Value} {v : Value} (h : Laid A Ak lo k f) (hlo : lo ≤ k) (hk : k < Ak.slots.size) (hv : v = f k) : Laid A (Ak.setSlot k v) lo (k + 1) f := by
  refine ⟨h.1, h.2.1, by simpa [Cell.setSlot] using h.2.2.1, fun i => ?_⟩
  by_cases e : k = i
  · subst e; rw [Cell.slots_setSlot_self v hk, if_pos (by omega), hv]
  · rw [Cell.slots_setSlot_ne v e, h.2.2.2 i]
    by_cases q : lo ≤ i ∧ i < k
    · rw [if_pos q, if_pos (by omega)]
    · rw [if_neg q, if_neg (by omega)]
def U16 : String := "java/lang/StringUTF16"
namespace Cmp5
def yN : MethodName := ⟨"java/lang/StringUTF16", "compress", "([CI[BII)I"⟩
abbrev yB : ByteArray := jdk_52_method_21_code
theorem d0 : decode yB 0 = .ok (.iconst 0, 1) := by decide +kernel
theorem d1 : decode yB 1 = .ok (.istore 5, 2) := by decide +kernel
theorem d3 : decode yB 3 = .ok (.iload 5, 2) := by decide +kernel
theorem d5 : decode yB 5 = .ok (.iload 4, 2) := by decide +kernel
theorem d7 : decode yB 7 = .ok (.if_icmp (.ge) 37, 3) := by decide +kernel
theorem d10 : decode yB 10 = .ok (.aload_n 0, 1) := by decide +kernel
theorem d11 : decode yB 11 = .ok (.iload_n 1, 1) := by decide +kernel
theorem d12 : decode yB 12 = .ok (.caload, 1) := by decide +kernel
theorem d13 : decode yB 13 = .ok (.istore 6, 2) := by decide +kernel
theorem d15 : decode yB 15 = .ok (.iload 6, 2) := by decide +kernel
theorem d17 : decode yB 17 = .ok (.sipush 255, 3) := by decide +kernel
theorem d20 : decode yB 20 = .ok (.if_icmp (.le) 6, 3) := by decide +kernel
theorem d26 : decode yB 26 = .ok (.aload_n 2, 1) := by decide +kernel
theorem d27 : decode yB 27 = .ok (.iload_n 3, 1) := by decide +kernel
theorem d28 : decode yB 28 = .ok (.iload 6, 2) := by decide +kernel
theorem d30 : decode yB 30 = .ok (.i2b, 1) := by decide +kernel
theorem d31 : decode yB 31 = .ok (.bastore, 1) := by decide +kernel
theorem d32 : decode yB 32 = .ok (.iinc 1 1, 3) := by decide +kernel
theorem d35 : decode yB 35 = .ok (.iinc 3 1, 3) := by decide +kernel
theorem d38 : decode yB 38 = .ok (.iinc 5 1, 3) := by decide +kernel
theorem d41 : decode yB 41 = .ok (.goto (-38), 3) := by decide +kernel
theorem d44 : decode yB 44 = .ok (.iload 4, 2) := by decide +kernel
theorem d46 : decode yB 46 = .ok (.ireturn, 1) := by decide +kernel
def site : List Cond := []
def tab : Cond := tabOf yN yB 7 (some .int) site
def P (b : Addr) (A : Cell) (d : Addr) (B : Cell) (o q len : Nat) (args : Array Value) (s : State) : Prop := args = #[.ref b, .int (Int32.ofNat o), .ref d, .int (Int32.ofNat q), .int (Int32.ofNat len)] ∧ Ch b A s ∧ Arr .byte d B s ∧ b ≠ d ∧ o + len ≤ A.slots.size ∧ q + len ≤ B.slots.size ∧ ∀ i, i < len → ¬ 255 < cv A (o + i)
def E (b : Addr) (A : Cell) (d : Addr) (B : Cell) (o q len : Nat) (r : Option Value) (s u : State) : Prop := r = some (.int (Int32.ofNat len)) ∧ ∃ B', Put d B' s u ∧ Laid B B' q (q + len) (fun j => Value.int (lo8 (cv A (o + (j - q)))))
/-- no char of the range above 255: len; the places written hold each char's low byte -/
theorem law (l : Launch) (b : Addr) (A : Cell) (d : Addr) (B : Cell) (o q len : Nat) : Law l yN 5 5 0 0 yB 7 (some .int) site (P b A d B o q len) (E b A d B o q len) (copyLocs d q len) 0 0 := by
  refine Law.of_walk (plainFor_of_name (by decide +kernel)) (by decide +kernel) (by decide +kernel) (by decide) (fun _ _ h => by rw [h.1]; rfl) (fun _ U U' hal hh h => ⟨h.1, h.2.1.mv hal hh, h.2.2.1.mv hal hh, h.2.2.2⟩) (fun r U U' V V' h1 hal h2 h => ⟨h.1, h.2.elim fun B' q => ⟨B', q.1.mv h1 h2, q.2⟩⟩) ?_
  intro p e s m args below meth c s₁ X0 hexec hbytes hml hret hlk hnm hown hh0 W hP
  obtain ⟨rfl, hA, hB, hne, l1, l2, hp⟩ := hP
  have c1 : Steps p.tables e below (s₁.setTop (entryFrame m #[.ref b, .int (Int32.ofNat o), .ref d, .int (Int32.ofNat q), .int (Int32.ofNat len)] 7)) (s₁.setTop (mkF m 0 #[.val (.ref b), .val (.int (Int32.ofNat o)), .val (.ref d), .val (.int (Int32.ofNat q)), .val (.int (Int32.ofNat len)), .unset, .unset] [])) := entry rfl
  have hA0 := hA.1.mv X0.warmed.alike hh0
  have hB0 := hB.mv X0.warmed.alike hh0
  have a31 := hA.1.2.2.2
  have c2 : Steps p.tables e below (s₁.setTop (entryFrame m #[.ref b, .int (Int32.ofNat o), .ref d, .int (Int32.ofNat q), .int (Int32.ofNat len)] 7)) (s₁.setTop (mkF m 3 #[.val (.ref b), .val (.int (Int32.ofNat o)), .val (.ref d), .val (.int (Int32.ofNat q)), .val (.int (Int32.ofNat len)), .val (.int 0), .unset] [])) := c1.trans (by
    refine iconstV X0.here hexec rfl 0 (hb hbytes d0) (by decide) ?_
    refine XS.istore X0.here hexec rfl (hb hbytes d1) rfl rfl ?_
    exact Steps.refl _)
  have loop : ∀ (r i : Nat), i + r = len → ∀ (z : Slot), (z = .unset ∨ ∃ w, z = .val w ∧ w.category = 1) → ∀ (Tl : State) (Bk : Cell), Stand p l e { frames := 0, locals := 0, cells := 0, slots := 0 } s m #[.ref b, .int (Int32.ofNat o), .ref d, .int (Int32.ofNat q), .int (Int32.ofNat len)] below meth c Tl ([] ++ copyLocs d q i) 0 0 → Put d Bk s₁ Tl → Laid B Bk q (q + i) (fun j => Value.int (lo8 (cv A (o + (j - q))))) →
      Steps p.tables e below (s₁.setTop (entryFrame m #[.ref b, .int (Int32.ofNat o), .ref d, .int (Int32.ofNat q), .int (Int32.ofNat len)] 7)) (Tl.setTop (mkF m 3 #[.val (.ref b), .val (.int (Int32.ofNat (o + i))), .val (.ref d), .val (.int (Int32.ofNat (q + i))), .val (.int (Int32.ofNat len)), .val (.int (Int32.ofNat i)), z] [])) → ∃ (T' : State) (B' : Cell) (z' : Slot), Stand p l e { frames := 0, locals := 0, cells := 0, slots := 0 } s m #[.ref b, .int (Int32.ofNat o), .ref d, .int (Int32.ofNat q), .int (Int32.ofNat len)] below meth c T' ([] ++ copyLocs d q len) 0 0 ∧ Put d B' s₁ T' ∧ Laid B B' q (q + len) (fun j => Value.int (lo8 (cv A (o + (j - q))))) ∧
      Steps p.tables e below (s₁.setTop (entryFrame m #[.ref b, .int (Int32.ofNat o), .ref d, .int (Int32.ofNat q), .int (Int32.ofNat len)] 7)) (T'.setTop (mkF m 3 #[.val (.ref b), .val (.int (Int32.ofNat (o + len))), .val (.ref d), .val (.int (Int32.ofNat (q + len))), .val (.int (Int32.ofNat len)), .val (.int (Int32.ofNat len)), z'] [])) := by
    intro r
    induction r with
    | zero =>
      intro i hi z hz Tl Bk Xl pl fl cl
      have hil : i = len := by omega
      rw [hil] at Xl fl cl
      exact ⟨Tl, Bk, z, Xl, pl, fl, cl⟩
    | succ r ih =>
      intro i hi z hz Tl Bk Xl pl fl cl
      have all := X0.warmed.alike.symm.trans Xl.warmed.alike
      have hAl := hA0.keep all (pl.other hne hA0.1)
      have hBk := hB0.like all pl.1 fl.1 fl.2.1 fl.2.2.1
      have hlt : q + i < Bk.slots.size := by rw [fl.2.2.1]; omega
      have c3 : Steps p.tables e below (s₁.setTop (entryFrame m #[.ref b, .int (Int32.ofNat o), .ref d, .int (Int32.ofNat q), .int (Int32.ofNat len)] 7)) (Tl.setTop (mkF m 12 #[.val (.ref b), .val (.int (Int32.ofNat (o + i))), .val (.ref d), .val (.int (Int32.ofNat (q + i))), .val (.int (Int32.ofNat len)), .val (.int (Int32.ofNat i)), z] [.int (Int32.ofNat (o + i)), .ref b])) := cl.trans (by
        refine XS.iload Xl.here hexec rfl (hb hbytes d3) rfl ?_
        refine XS.iload Xl.here hexec rfl (hb hbytes d5) rfl ?_
        refine XS.icmpNo Xl.here hexec rfl (hb hbytes d7) rfl (ii_ge_f (lt32 (by omega) (by omega))) ?_
        refine XS.aloadN Xl.here hexec rfl (hb hbytes d10) rfl rfl ?_
        refine XS.iloadN Xl.here hexec rfl (hb hbytes d11) rfl ?_
        exact Steps.refl _)
      have c4 : Steps p.tables e below (s₁.setTop (entryFrame m #[.ref b, .int (Int32.ofNat o), .ref d, .int (Int32.ofNat q), .int (Int32.ofNat len)] 7)) (Tl.setTop (mkF m 13 #[.val (.ref b), .val (.int (Int32.ofNat (o + i))), .val (.ref d), .val (.int (Int32.ofNat (q + i))), .val (.int (Int32.ofNat len)), .val (.int (Int32.ofNat i)), z] [.int (cv A (o + i))])) := c3.trans (by
        refine Xl.aget hexec hAl rfl (hA.get (i := o + i) (by omega)) rfl rfl (hb hbytes d12) ?_
        exact Steps.refl _)
      have c5 : Steps p.tables e below (s₁.setTop (entryFrame m #[.ref b, .int (Int32.ofNat o), .ref d, .int (Int32.ofNat q), .int (Int32.ofNat len)] 7)) (Tl.setTop (mkF m 15 #[.val (.ref b), .val (.int (Int32.ofNat (o + i))), .val (.ref d), .val (.int (Int32.ofNat (q + i))), .val (.int (Int32.ofNat len)), .val (.int (Int32.ofNat i)), .val (.int (cv A (o + i)))] [])) := c4.trans (by
        refine XS.istoreS Xl.here hexec rfl (hb hbytes d13) rfl rfl hz ?_
        exact Steps.refl _)
      have c6 : Steps p.tables e below (s₁.setTop (entryFrame m #[.ref b, .int (Int32.ofNat o), .ref d, .int (Int32.ofNat q), .int (Int32.ofNat len)] 7)) (Tl.setTop (mkF m 31 #[.val (.ref b), .val (.int (Int32.ofNat (o + i))), .val (.ref d), .val (.int (Int32.ofNat (q + i))), .val (.int (Int32.ofNat len)), .val (.int (Int32.ofNat i)), .val (.int (cv A (o + i)))] [.int (lo8 (cv A (o + i))), .int (Int32.ofNat (q + i)), .ref d])) := c5.trans (by
        refine XS.iload Xl.here hexec rfl (hb hbytes d15) rfl ?_
        refine sipushV Xl.here hexec rfl 255 (hb hbytes d17) (by decide) ?_
        refine XS.icmpYes Xl.here hexec rfl (pc0 := 20) rfl (hb hbytes d20) rfl (ii_le_t (hp i (by omega))) (by decide) rfl ?_
        refine XS.aloadN Xl.here hexec rfl (hb hbytes d26) rfl rfl ?_
        refine XS.iloadN Xl.here hexec rfl (hb hbytes d27) rfl ?_
        refine XS.iload Xl.here hexec rfl (hb hbytes d28) rfl ?_
        refine i2b Xl.here hexec rfl (hb hbytes d30) rfl ?_
        exact Steps.refl _)
      obtain ⟨T7, X7, p7, st7⟩ := Xl.aput hexec hBk rfl hlt rfl (fits_lo8 (cv A (o + i))) (g := (mkF m 31 #[.val (.ref b), .val (.int (Int32.ofNat (o + i))), .val (.ref d), .val (.int (Int32.ofNat (q + i))), .val (.int (Int32.ofNat len)), .val (.int (Int32.ofNat i)), .val (.int (cv A (o + i)))] [.int (lo8 (cv A (o + i))), .int (Int32.ofNat (q + i)), .ref d])) rfl (rest := []) rfl (hb hbytes d31)
      have c8 : Steps p.tables e below (s₁.setTop (entryFrame m #[.ref b, .int (Int32.ofNat o), .ref d, .int (Int32.ofNat q), .int (Int32.ofNat len)] 7)) (T7.setTop (mkF m 32 #[.val (.ref b), .val (.int (Int32.ofNat (o + i))), .val (.ref d), .val (.int (Int32.ofNat (q + i))), .val (.int (Int32.ofNat len)), .val (.int (Int32.ofNat i)), .val (.int (cv A (o + i)))] [])) := c6.trans (st7 _ (Steps.refl _))
      have c9 : Steps p.tables e below (s₁.setTop (entryFrame m #[.ref b, .int (Int32.ofNat o), .ref d, .int (Int32.ofNat q), .int (Int32.ofNat len)] 7)) (T7.setTop (mkF m 3 #[.val (.ref b), .val (.int (Int32.ofNat (o + i) + 1)), .val (.ref d), .val (.int (Int32.ofNat (q + i) + 1)), .val (.int (Int32.ofNat len)), .val (.int (Int32.ofNat i + 1)), .val (.int (cv A (o + i)))] [])) := c8.trans (by
        refine iincV X7.here hexec rfl 1 (hb hbytes d32) (by decide) rfl rfl ?_
        refine iincV X7.here hexec rfl 1 (hb hbytes d35) (by decide) rfl rfl ?_
        refine iincV X7.here hexec rfl 1 (hb hbytes d38) (by decide) rfl rfl ?_
        refine XS.goto X7.here hexec rfl (pc0 := 41) rfl (hb hbytes d41) (by decide) rfl ?_
        exact Steps.refl _)
      have c10 : Steps p.tables e below (s₁.setTop (entryFrame m #[.ref b, .int (Int32.ofNat o), .ref d, .int (Int32.ofNat q), .int (Int32.ofNat len)] 7)) (T7.setTop (mkF m 3 #[.val (.ref b), .val (.int (Int32.ofNat (o + (i + 1)))), .val (.ref d), .val (.int (Int32.ofNat (q + (i + 1)))), .val (.int (Int32.ofNat len)), .val (.int (Int32.ofNat (i + 1))), .val (.int (cv A (o + i)))] [])) := by
        have := c9
        rw [succ32, succ32, succ32] at this
        exact this
      exact ih (i + 1) (by omega) _ (Or.inr ⟨_, rfl, rfl⟩) T7 _ (by rw [copyLocs_step, ← List.append_assoc]; exact X7) (pl.trans p7) (fl.step (by omega) hlt (by simp)) c10
  obtain ⟨T9, B9, z9, X9, p9, f9, g9⟩ := loop len 0 (by omega) .unset (Or.inl rfl) s₁ B (by simpa [copyLocs] using X0) ⟨hB0.1, fun _ _ => rfl, rfl⟩ (Laid.zero _ _ _) c2
  have c11 : Steps p.tables e below (s₁.setTop (entryFrame m #[.ref b, .int (Int32.ofNat o), .ref d, .int (Int32.ofNat q), .int (Int32.ofNat len)] 7)) (T9.setTop (mkF m 46 #[.val (.ref b), .val (.int (Int32.ofNat (o + len))), .val (.ref d), .val (.int (Int32.ofNat (q + len))), .val (.int (Int32.ofNat len)), .val (.int (Int32.ofNat len)), z9] [.int (Int32.ofNat len)])) := g9.trans (by
    refine XS.iload X9.here hexec rfl (hb hbytes d3) rfl ?_
    refine XS.iload X9.here hexec rfl (hb hbytes d5) rfl ?_
    refine XS.icmpYes X9.here hexec rfl (pc0 := 7) rfl (hb hbytes d7) rfl (ii_ge_t (nlt32 (by omega) (Nat.le_refl _))) (by decide) rfl ?_
    refine XS.iload X9.here hexec rfl (hb hbytes d44) rfl ?_
    exact Steps.refl _)
  exact ⟨T9, some (.int (Int32.ofNat len)), _, _, _, X9, by simp, rfl, rfl, (fun h => by cases h), ⟨rfl, B9, p9.from hh0, f9⟩, fun fs hl => c11.trans (X9.ireturnOut hexec hret rfl (Or.inl rfl) (hb hbytes d46) hl)⟩
end Cmp5
namespace Cmp3
def yN : MethodName := ⟨"java/lang/StringUTF16", "compress", "([CII)[B"⟩
abbrev yB : ByteArray := jdk_52_method_16_code
theorem d0 : decode yB 0 = .ok (.iload_n 2, 1) := by decide +kernel
theorem d1 : decode yB 1 = .ok (.newarray .byte, 2) := by decide +kernel
theorem d3 : decode yB 3 = .ok (.astore_n 3, 1) := by decide +kernel
theorem d4 : decode yB 4 = .ok (.aload_n 0, 1) := by decide +kernel
theorem d5 : decode yB 5 = .ok (.iload_n 1, 1) := by decide +kernel
theorem d6 : decode yB 6 = .ok (.aload_n 3, 1) := by decide +kernel
theorem d7 : decode yB 7 = .ok (.iconst 0, 1) := by decide +kernel
theorem d8 : decode yB 8 = .ok (.iload_n 2, 1) := by decide +kernel
theorem d9 : decode yB 9 = .ok (.invokestatic 115, 3) := by decide +kernel
theorem d12 : decode yB 12 = .ok (.istore 4, 2) := by decide +kernel
theorem d14 : decode yB 14 = .ok (.iload 4, 2) := by decide +kernel
theorem d16 : decode yB 16 = .ok (.iload_n 2, 1) := by decide +kernel
theorem d17 : decode yB 17 = .ok (.if_icmp (.eq) 40, 3) := by decide +kernel
theorem d57 : decode yB 57 = .ok (.aload_n 3, 1) := by decide +kernel
theorem d58 : decode yB 58 = .ok (.areturn, 1) := by decide +kernel
def site : List Cond := [.arrayClass .byte, Cmp5.tab] ++ staticW U16 115 Cmp5.yN
def tab : Cond := tabOf yN yB 6 (some (.array .byte)) site
def P (b : Addr) (A : Cell) (o len : Nat) (args : Array Value) (s : State) : Prop := args = #[.ref b, .int (Int32.ofNat o), .int (Int32.ofNat len)] ∧ Ch b A s ∧ o + len ≤ A.slots.size ∧ len ≤ 536870912 ∧ ∀ i, i < len → ¬ 255 < cv A (o + i)
def E (b : Addr) (A : Cell) (o len : Nat) (r : Option Value) (s u : State) : Prop := NewArr .byte "[B" len (fun j => .int (lo8 (cv A (o + j)))) r s u ∧ u.heap.size = s.heap.size + 1
/-- no char of the range above 255: a new byte[] of their low bytes -/
theorem law (l : Launch) (b : Addr) (A : Cell) (o len : Nat) : Law l yN 3 3 1 18 yB 6 (some (.array .byte)) site (P b A o len) (E b A o len) [] 1 len := by
  refine Law.of_walk (plainFor_of_name (by decide +kernel)) (by decide +kernel) (by decide +kernel) (by decide) (fun _ _ h => by rw [h.1]; rfl) (fun _ U U' hal hh h => ⟨h.1, h.2.1.mv hal hh, h.2.2⟩) (fun r U U' V V' h1 hal h2 h => ⟨NewArr.mv r U U' V V' h1 hal h2 h.1, by rw [h1, h2]; exact h.2⟩) ?_
  intro p e s m args below meth c s₁ X0 hexec hbytes hml hret hlk hnm hown hh0 W hP
  obtain ⟨rfl, hA, l1, l2, hp⟩ := hP
  have a31 := hA.1.2.2.2
  have c1 : Steps p.tables e below (s₁.setTop (entryFrame m #[.ref b, .int (Int32.ofNat o), .int (Int32.ofNat len)] 6)) (s₁.setTop (mkF m 0 #[.val (.ref b), .val (.int (Int32.ofNat o)), .val (.int (Int32.ofNat len)), .unset, .unset, .unset] [])) := entry rfl
  have c2 : Steps p.tables e below (s₁.setTop (entryFrame m #[.ref b, .int (Int32.ofNat o), .int (Int32.ofNat len)] 6)) (s₁.setTop (mkF m 1 #[.val (.ref b), .val (.int (Int32.ofNat o)), .val (.int (Int32.ofNat len)), .unset, .unset, .unset] [.int (Int32.ofNat len)])) := c1.trans (by
    refine XS.iloadN X0.here hexec rfl (hb hbytes d0) rfl ?_
    exact Steps.refl _)
  obtain ⟨T3, B3, X3, ba3, bs3, bv3, bh3, bf3, st3⟩ := X0.anew hexec (atype := .byte) (wk W (.arrayClass .byte)) rfl (by show len * 1 ≤ _; omega) (by omega) (g := (mkF m 1 #[.val (.ref b), .val (.int (Int32.ofNat o)), .val (.int (Int32.ofNat len)), .unset, .unset, .unset] [.int (Int32.ofNat len)])) rfl (hb hbytes d1) (rest := []) rfl (Nat.le_refl _) (by show 0 + len ≤ len; omega)
  rw [hh0] at ba3 st3
  have kp3 : XT.Kept s T3 := (XT.Kept.of_eq hh0).push bh3
  have hA3 := hA.keep X3.warmed.alike (kp3 _ _ hA.1.1)
  have hne : b ≠ s.heap.size := hA.1.ne
  have c4 : Steps p.tables e below (s₁.setTop (entryFrame m #[.ref b, .int (Int32.ofNat o), .int (Int32.ofNat len)] 6)) (T3.setTop (mkF m 3 #[.val (.ref b), .val (.int (Int32.ofNat o)), .val (.int (Int32.ofNat len)), .unset, .unset, .unset] [.ref s.heap.size])) := c2.trans (st3 _ (Steps.refl _))
  have c5 : Steps p.tables e below (s₁.setTop (entryFrame m #[.ref b, .int (Int32.ofNat o), .int (Int32.ofNat len)] 6)) (T3.setTop (mkF m 9 #[.val (.ref b), .val (.int (Int32.ofNat o)), .val (.int (Int32.ofNat len)), .val (.ref s.heap.size), .unset, .unset] [.int (Int32.ofNat len), .int 0, .ref s.heap.size, .int (Int32.ofNat o), .ref b])) := c4.trans (by
    refine XS.astoreN X3.here hexec rfl (hb hbytes d3) rfl rfl rfl ?_
    refine XS.aloadN X3.here hexec rfl (hb hbytes d4) rfl rfl ?_
    refine XS.iloadN X3.here hexec rfl (hb hbytes d5) rfl ?_
    refine XS.aloadN X3.here hexec rfl (hb hbytes d6) rfl rfl ?_
    refine iconstV X3.here hexec rfl 0 (hb hbytes d7) (by decide) ?_
    refine XS.iloadN X3.here hexec rfl (hb hbytes d8) rfl ?_
    exact Steps.refl _)
  obtain ⟨v6, T6, X6, E6, g6⟩ := X3.callS hexec (Cmp5.law l b A s.heap.size B3 o 0 len) hown (wks W (staticW U16 115 Cmp5.yN)) (wk W Cmp5.tab) (W := 0) (Nat.le_of_ble_eq_true rfl) (Nat.le_of_ble_eq_true rfl) (Nat.le_refl _) (by show 0 + len + 0 ≤ len; omega) (g := (mkF m 9 #[.val (.ref b), .val (.int (Int32.ofNat o)), .val (.int (Int32.ofNat len)), .val (.ref s.heap.size), .unset, .unset] [.int (Int32.ofNat len), .int (Int32.ofNat 0), .ref s.heap.size, .int (Int32.ofNat o), .ref b])) rfl (by rw [hml]; rfl) c5 (argsL := [.ref b, .int (Int32.ofNat o), .ref s.heap.size, .int (Int32.ofNat 0), .int (Int32.ofNat len)]) (rest := []) rfl rfl (by show 2 * 0 + 0 ≤ _; decide) (hb hbytes d9) (⟨rfl, hA3, ba3, hne, l1, by rw [bs3]; simp, hp⟩)
  obtain ⟨rfl, B6, p6, f6⟩ := E6
  have c7 : Steps p.tables e below (s₁.setTop (entryFrame m #[.ref b, .int (Int32.ofNat o), .int (Int32.ofNat len)] 6)) (T6.setTop (mkF m 12 #[.val (.ref b), .val (.int (Int32.ofNat o)), .val (.int (Int32.ofNat len)), .val (.ref s.heap.size), .unset, .unset] [.int (Int32.ofNat len)])) := g6
  have c8 : Steps p.tables e below (s₁.setTop (entryFrame m #[.ref b, .int (Int32.ofNat o), .int (Int32.ofNat len)] 6)) (T6.setTop (mkF m 58 #[.val (.ref b), .val (.int (Int32.ofNat o)), .val (.int (Int32.ofNat len)), .val (.ref s.heap.size), .val (.int (Int32.ofNat len)), .unset] [.ref s.heap.size])) := c7.trans (by
    refine XS.istore X6.here hexec rfl (hb hbytes d12) rfl rfl ?_
    refine XS.iload X6.here hexec rfl (hb hbytes d14) rfl ?_
    refine XS.iloadN X6.here hexec rfl (hb hbytes d16) rfl ?_
    refine XS.icmpYes X6.here hexec rfl (pc0 := 17) rfl (hb hbytes d17) rfl (ii_eq_t rfl) (by decide) rfl ?_
    refine XS.aloadN X6.here hexec rfl (hb hbytes d57) rfl rfl ?_
    exact Steps.refl _)
  have X8 := X6.wide (L' := []) (cells' := 1) (slots' := len) (fun x hx hlt => by
    simp only [List.nil_append, copyLocs, List.mem_map, List.mem_range] at hx
    obtain ⟨i, -, rfl⟩ := hx
    exact absurd hlt (Nat.lt_irrefl _)) (Nat.le_refl _) (by omega)
  exact ⟨T6, some (.ref s.heap.size), _, _, _, X8, rfl, rfl, rfl, (fun h => by cases h), ⟨⟨rfl, B6, ba3.like (X3.warmed.alike.symm.trans X6.warmed.alike) p6.1 f6.1 f6.2.1 f6.2.2.1, f6.2.1.trans bv3, by rw [X6.warmed.alike.findClass, f6.1]; exact bf3, by rw [f6.2.2.1, bs3]; simp, fun j hj => by rw [f6.2.2.2 j, if_pos (by omega)]; rfl, kp3.put p6 (Nat.le_refl _)⟩, by rw [p6.2.2, bh3, hh0]; simp⟩, fun fs hl => c8.trans (X8.areturnOut hexec rfl hret rfl (hb hbytes d58) hl)⟩
end Cmp3
namespace CodL
def yN : MethodName := ⟨"java/lang/StringUTF16", "coderFromArrayLen", "([BI)B"⟩
abbrev yB : ByteArray := jdk_52_method_15_code
theorem d0 : decode yB 0 = .ok (.iload_n 1, 1) := by decide +kernel
theorem d1 : decode yB 1 = .ok (.aload_n 0, 1) := by decide +kernel
theorem d2 : decode yB 2 = .ok (.arraylength, 1) := by decide +kernel
theorem d3 : decode yB 3 = .ok (.isub, 1) := by decide +kernel
theorem d4 : decode yB 4 = .ok (.bipush 31, 2) := by decide +kernel
theorem d6 : decode yB 6 = .ok (.iushr, 1) := by decide +kernel
theorem d7 : decode yB 7 = .ok (.i2b, 1) := by decide +kernel
theorem d8 : decode yB 8 = .ok (.ireturn, 1) := by decide +kernel
def site : List Cond := []
def tab : Cond := tabOf yN yB 2 (some .byte) site
def P (d : Addr) (B : Cell) (args : Array Value) (s : State) : Prop := args = #[.ref d, .int (Int32.ofNat B.slots.size)] ∧ Arr .byte d B s
def E (r : Option Value) (s u : State) : Prop := XT.PureE (some (.int 0)) r s u
/-- an array as long as the number of chars: LATIN1 -/
theorem law (l : Launch) (d : Addr) (B : Cell) : Law l yN 2 2 0 0 yB 2 (some .byte) site (P d B) E [] 0 0 := by
  refine Law.of_walk (plainFor_of_name (by decide +kernel)) (by decide +kernel) (by decide +kernel) (by decide) (fun _ _ h => by rw [h.1]; rfl) (fun _ U U' hal hh h => ⟨h.1, h.2.mv hal hh⟩) (fun r U U' V V' h1 hal h2 h => XT.PureE.mv r U U' V V' h1 hal h2 h) ?_
  intro p e s m args below meth c s₁ X0 hexec hbytes hml hret hlk hnm hown hh0 W hP
  obtain ⟨rfl, hB⟩ := hP
  have hB0 := hB.mv X0.warmed.alike hh0
  have c1 : Steps p.tables e below (s₁.setTop (entryFrame m #[.ref d, .int (Int32.ofNat B.slots.size)] 2)) (s₁.setTop (mkF m 0 #[.val (.ref d), .val (.int (Int32.ofNat B.slots.size))] [])) := entry rfl
  have c2 : Steps p.tables e below (s₁.setTop (entryFrame m #[.ref d, .int (Int32.ofNat B.slots.size)] 2)) (s₁.setTop (mkF m 2 #[.val (.ref d), .val (.int (Int32.ofNat B.slots.size))] [.ref d, .int (Int32.ofNat B.slots.size)])) := c1.trans (by
    refine XS.iloadN X0.here hexec rfl (hb hbytes d0) rfl ?_
    refine XS.aloadN X0.here hexec rfl (hb hbytes d1) rfl rfl ?_
    exact Steps.refl _)
  have c3 : Steps p.tables e below (s₁.setTop (entryFrame m #[.ref d, .int (Int32.ofNat B.slots.size)] 2)) (s₁.setTop (mkF m 8 #[.val (.ref d), .val (.int (Int32.ofNat B.slots.size))] [.int (lo8 (ushr (Int32.ofNat B.slots.size - Int32.ofNat B.slots.size) 31))])) := c2.trans (by
    refine X0.alen hexec hB0 rfl rfl (hb hbytes d2) ?_
    refine XS.isub X0.here hexec rfl (hb hbytes d3) rfl ?_
    refine bipushV X0.here hexec rfl 31 (hb hbytes d4) (by decide) ?_
    refine iushr X0.here hexec rfl (hb hbytes d6) rfl ?_
    refine i2b X0.here hexec rfl (hb hbytes d7) rfl ?_
    exact Steps.refl _)
  have e0 : lo8 (ushr (Int32.ofNat B.slots.size - Int32.ofNat B.slots.size) 31) = 0 := by rw [Int32.sub_self]; decide
  rw [e0] at c3
  exact ⟨s₁, some (.int 0), _, _, _, X0, rfl, rfl, rfl, (fun h => by cases h), ⟨rfl, hh0⟩, fun fs hl => c3.trans (X0.ireturnOut hexec hret rfl (Or.inr (Or.inr (Or.inl rfl))) (hb hbytes d8) hl)⟩
end CodL
/-- the String at a is Latin-1 over a new byte[] (the heap's one new cell): the low bytes of the len chars of A from o on; every cell but a is kept -/
def Got (a : Addr) (D : Cell) (fV fC : Field) (A : Cell) (o len : Nat) (r : Option Value) (s u : State) : Prop := r = none ∧ ∃ D' V : Cell, Blank "java/lang/String" a D' u ∧ Same D D' [fV.slot, fC.slot] ∧ D'.slots[fV.slot]? = some (.ref s.heap.size) ∧ D'.slots[fC.slot]? = some (.int 0) ∧ Arr .byte s.heap.size V u ∧ V.vm = .none ∧ u.vm.findClass "[B" = some V.cls ∧ V.slots.size = len ∧ (∀ j, j < len → V.slots[j]? = some (.int (lo8 (cv A (o + j))))) ∧ (∀ (y : Addr) (c : Cell), y ≠ a → s.heap[y]? = some c → u.heap[y]? = some c) ∧ u.heap.size = s.heap.size + 1
theorem Got.mv {a : Addr} {D A : Cell} {fV fC : Field} {o len : Nat} : ∀ r (U U' V V' : State), U'.heap = U.heap → V.vm.Alike V'.vm → V'.heap = V.heap → Got a D fV fC A o len r U V → Got a D fV fC A o len r U' V' :=
  fun r U U' V V' h1 hal h2 ⟨e0, D', X, a1, a2, a3, a4, a5, a6, a7, a8, a9, a10, a11⟩ => ⟨e0, D', X, a1.mv hal h2, a2, by rw [h1]; exact a3, a4, by rw [h1]; exact a5.mv hal h2, a6, by rw [hal.findClass]; exact a7, a8, a9, by rw [h1, h2]; exact a10, by rw [h1, h2]; exact a11⟩
namespace New4
def yN : MethodName := ⟨"java/lang/String", "<init>", "([CIILjava/lang/Void;)V"⟩
abbrev yB : ByteArray := jdk_42_method_149_code
theorem d0 : decode yB 0 = .ok (.aload_n 0, 1) := by decide +kernel
theorem d1 : decode yB 1 = .ok (.invokespecial 1, 3) := by decide +kernel
theorem d4 : decode yB 4 = .ok (.iload_n 3, 1) := by decide +kernel
theorem d5 : decode yB 5 = .ok (.ifCond (.ne) 22, 3) := by decide +kernel
theorem d27 : decode yB 27 = .ok (.getstatic 38, 3) := by decide +kernel
theorem d30 : decode yB 30 = .ok (.ifCond (.eq) 28, 3) := by decide +kernel
theorem d33 : decode yB 33 = .ok (.aload_n 1, 1) := by decide +kernel
theorem d34 : decode yB 34 = .ok (.iload_n 2, 1) := by decide +kernel
theorem d35 : decode yB 35 = .ok (.iload_n 3, 1) := by decide +kernel
theorem d36 : decode yB 36 = .ok (.invokestatic 177, 3) := by decide +kernel
theorem d39 : decode yB 39 = .ok (.astore 5, 2) := by decide +kernel
theorem d41 : decode yB 41 = .ok (.aload_n 0, 1) := by decide +kernel
theorem d42 : decode yB 42 = .ok (.aload 5, 2) := by decide +kernel
theorem d44 : decode yB 44 = .ok (.iload_n 3, 1) := by decide +kernel
theorem d45 : decode yB 45 = .ok (.invokestatic 47, 3) := by decide +kernel
theorem d48 : decode yB 48 = .ok (.putfield 15, 3) := by decide +kernel
theorem d51 : decode yB 51 = .ok (.aload_n 0, 1) := by decide +kernel
theorem d52 : decode yB 52 = .ok (.aload 5, 2) := by decide +kernel
theorem d54 : decode yB 54 = .ok (.putfield 9, 3) := by decide +kernel
theorem d57 : decode yB 57 = .ok (.return_, 1) := by decide +kernel
def site : List Cond := [.fieldLink "java/lang/String" 38 "java/lang/String" "COMPACT_STRINGS" "Z", Cmp3.tab, CodL.tab, .laysFinal "java/lang/String" "java/lang/String" "value" "[B", .fieldLink "java/lang/String" 9 "java/lang/String" "value" "[B", .laysFinal "java/lang/String" "java/lang/String" "coder" "B", .fieldLink "java/lang/String" 15 "java/lang/String" "coder" "B"] ++ objW "java/lang/String" 1 ++ staticW "java/lang/String" 177 Cmp3.yN ++ staticW "java/lang/String" 47 CodL.yN
def tab : Cond := tabOf yN yB 6 none site
def P (a : Addr) (D : Cell) (fV fC : Field) (b : Addr) (A : Cell) (z : Int32) (o len : Nat) (args : Array Value) (s : State) : Prop := args = #[.ref a, .ref b, .int (Int32.ofNat o), .int (Int32.ofNat len), .null] ∧ Blank "java/lang/String" a D s ∧ Found "java/lang/String" "value" "[B" fV s ∧ Found "java/lang/String" "coder" "B" fC s ∧ Ch b A s ∧ StaticIs s "java/lang/String" "COMPACT_STRINGS" "Z" (.int z) ∧ ¬ z = 0 ∧ 0 < len ∧ o + len ≤ A.slots.size ∧ len ≤ 536870912 ∧ ∀ i, i < len → ¬ 255 < cv A (o + i)
def E (a : Addr) (D : Cell) (fV fC : Field) (A : Cell) (o len : Nat) (r : Option Value) (s u : State) : Prop := Got a D fV fC A o len r s u
/-- len > 0, no char of the range above 255: a Latin-1 String of their low bytes -/
theorem law (l : Launch) (a : Addr) (D : Cell) (fV fC : Field) (b : Addr) (A : Cell) (z : Int32) (o len : Nat) : Law l yN 5 4 2 35 yB 6 none site (P a D fV fC b A z o len) (E a D fV fC A o len) [⟨a, fC.slot⟩, ⟨a, fV.slot⟩] 1 len := by
  refine Law.of_walk (plainFor_of_name (by decide +kernel)) (by decide +kernel) (by decide +kernel) (by decide) (fun _ _ h => by rw [h.1]; rfl) (fun _ U U' hal hh h => ⟨h.1, h.2.1.mv hal hh, h.2.2.1.al hal, h.2.2.2.1.al hal, h.2.2.2.2.1.mv hal hh, h.2.2.2.2.2.1.there hal hh, h.2.2.2.2.2.2⟩) (fun r U U' V V' h1 hal h2 h => Got.mv r U U' V V' h1 hal h2 h) ?_
  intro p e s m args below meth c s₁ X0 hexec hbytes hml hret hlk hnm hown hh0 W hP
  obtain ⟨rfl, hB, f1, f2, hA, s1, hz, l0, l1, l2, hp⟩ := hP
  have a31 := hA.1.2.2.2
  have c1 : Steps p.tables e below (s₁.setTop (entryFrame m #[.ref a, .ref b, .int (Int32.ofNat o), .int (Int32.ofNat len), .null] 6)) (s₁.setTop (mkF m 0 #[.val (.ref a), .val (.ref b), .val (.int (Int32.ofNat o)), .val (.int (Int32.ofNat len)), .val .null, .unset] [])) := entry rfl
  have c2 : Steps p.tables e below (s₁.setTop (entryFrame m #[.ref a, .ref b, .int (Int32.ofNat o), .int (Int32.ofNat len), .null] 6)) (s₁.setTop (mkF m 1 #[.val (.ref a), .val (.ref b), .val (.int (Int32.ofNat o)), .val (.int (Int32.ofNat len)), .val .null, .unset] [.ref a])) := c1.trans (by
    refine XS.aloadN X0.here hexec rfl (hb hbytes d0) rfl rfl ?_
    exact Steps.refl _)
  obtain ⟨T3, X3, q3, st3⟩ := X0.oinit hexec hown (wks W (objW "java/lang/String" 1)) (g := (mkF m 1 #[.val (.ref a), .val (.ref b), .val (.int (Int32.ofNat o)), .val (.int (Int32.ofNat len)), .val .null, .unset] [.ref a])) rfl (by rw [hml]; rfl) (rest := []) rfl (hb hbytes d1) (W := 0) (by show 2 * 0 + 0 ≤ _; decide) (Nat.le_of_ble_eq_true rfl) (Nat.le_of_ble_eq_true rfl)
  have hh3 := q3.trans hh0
  have c4 : Steps p.tables e below (s₁.setTop (entryFrame m #[.ref a, .ref b, .int (Int32.ofNat o), .int (Int32.ofNat len), .null] 6)) (T3.setTop (mkF m 27 #[.val (.ref a), .val (.ref b), .val (.int (Int32.ofNat o)), .val (.int (Int32.ofNat len)), .val .null, .unset] [])) := (c2.trans (st3 _ (Steps.refl _))).trans (by
    refine XS.iloadN X3.here hexec rfl (hb hbytes d4) rfl ?_
    refine XS.ifYes X3.here hexec rfl (pc0 := 5) rfl (hb hbytes d5) rfl (i0_ne_t (nz32 (by omega) l0)) (by decide) rfl ?_
    exact Steps.refl _)
  obtain ⟨T5, X5, q5, st5⟩ := X3.sget hexec hown (wk W (.fieldLink "java/lang/String" 38 "java/lang/String" "COMPACT_STRINGS" "Z")) s1 (fun _ _ h => by rw [hh3]; exact h) (g := (mkF m 27 #[.val (.ref a), .val (.ref b), .val (.int (Int32.ofNat o)), .val (.int (Int32.ofNat len)), .val .null, .unset] [])) rfl (hb hbytes d27)
  have hh5 := q5.trans hh3
  have c6 : Steps p.tables e below (s₁.setTop (entryFrame m #[.ref a, .ref b, .int (Int32.ofNat o), .int (Int32.ofNat len), .null] 6)) (T5.setTop (mkF m 30 #[.val (.ref a), .val (.ref b), .val (.int (Int32.ofNat o)), .val (.int (Int32.ofNat len)), .val .null, .unset] [.int z])) := c4.trans (st5 _ (Steps.refl _))
  have c7 : Steps p.tables e below (s₁.setTop (entryFrame m #[.ref a, .ref b, .int (Int32.ofNat o), .int (Int32.ofNat len), .null] 6)) (T5.setTop (mkF m 36 #[.val (.ref a), .val (.ref b), .val (.int (Int32.ofNat o)), .val (.int (Int32.ofNat len)), .val .null, .unset] [.int (Int32.ofNat len), .int (Int32.ofNat o), .ref b])) := c6.trans (by
    refine XS.ifNo X5.here hexec rfl (hb hbytes d30) rfl (i0_eq_f hz) ?_
    refine XS.aloadN X5.here hexec rfl (hb hbytes d33) rfl rfl ?_
    refine XS.iloadN X5.here hexec rfl (hb hbytes d34) rfl ?_
    refine XS.iloadN X5.here hexec rfl (hb hbytes d35) rfl ?_
    exact Steps.refl _)
  obtain ⟨v8, T8, X8, E8, g8⟩ := X5.callS hexec (Cmp3.law l b A o len) hown (wks W (staticW "java/lang/String" 177 Cmp3.yN)) (wk W Cmp3.tab) (W := 0) (Nat.le_of_ble_eq_true rfl) (Nat.le_of_ble_eq_true rfl) (Nat.le_refl _) (by show 0 + len ≤ len; omega) (g := (mkF m 36 #[.val (.ref a), .val (.ref b), .val (.int (Int32.ofNat o)), .val (.int (Int32.ofNat len)), .val .null, .unset] [.int (Int32.ofNat len), .int (Int32.ofNat o), .ref b])) rfl (by rw [hml]; rfl) c7 (argsL := [.ref b, .int (Int32.ofNat o), .int (Int32.ofNat len)]) (rest := []) rfl rfl (by show 2 * 0 + 0 ≤ _; decide) (hb hbytes d36) (⟨rfl, hA.mv X5.warmed.alike hh5, l1, l2, hp⟩)
  obtain ⟨e8, z8⟩ := E8
  obtain ⟨rfl, N, n1, n2, n3, n4, n5, n6⟩ := NewArr.mv _ T5 s _ _ hh5.symm (Vm.Alike.refl _) rfl e8
  rw [hh5] at z8
  have hB1 := hB.keep X8.warmed.alike (n6 _ _ hB.1)
  have hne : s.heap.size ≠ a := (Nat.ne_of_lt (Array.getElem?_eq_some_iff.mp hB.1).1).symm
  have c9 : Steps p.tables e below (s₁.setTop (entryFrame m #[.ref a, .ref b, .int (Int32.ofNat o), .int (Int32.ofNat len), .null] 6)) (T8.setTop (mkF m 39 #[.val (.ref a), .val (.ref b), .val (.int (Int32.ofNat o)), .val (.int (Int32.ofNat len)), .val .null, .unset] [.ref s.heap.size])) := g8
  have c10 : Steps p.tables e below (s₁.setTop (entryFrame m #[.ref a, .ref b, .int (Int32.ofNat o), .int (Int32.ofNat len), .null] 6)) (T8.setTop (mkF m 45 #[.val (.ref a), .val (.ref b), .val (.int (Int32.ofNat o)), .val (.int (Int32.ofNat len)), .val .null, .val (.ref s.heap.size)] [.int (Int32.ofNat N.slots.size), .ref s.heap.size, .ref a])) := by
    have hc : Steps p.tables e below (s₁.setTop (entryFrame m #[.ref a, .ref b, .int (Int32.ofNat o), .int (Int32.ofNat len), .null] 6)) (T8.setTop (mkF m 45 #[.val (.ref a), .val (.ref b), .val (.int (Int32.ofNat o)), .val (.int (Int32.ofNat len)), .val .null, .val (.ref s.heap.size)] [.int (Int32.ofNat len), .ref s.heap.size, .ref a])) := c9.trans (by
      refine XS.astore X8.here hexec rfl (hb hbytes d39) rfl rfl rfl ?_
      refine XS.aloadN X8.here hexec rfl (hb hbytes d41) rfl rfl ?_
      refine XS.aload X8.here hexec rfl (hb hbytes d42) rfl rfl ?_
      refine XS.iloadN X8.here hexec rfl (hb hbytes d44) rfl ?_
      exact Steps.refl _)
    rw [n4]; exact hc
  obtain ⟨v11, T11, X11, E11, g11⟩ := X8.callS hexec (CodL.law l s.heap.size N) hown (wks W (staticW "java/lang/String" 47 CodL.yN)) (wk W CodL.tab) (W := 1) (Nat.le_of_ble_eq_true rfl) (Nat.le_of_ble_eq_true rfl) (Nat.le_refl _) (by show 0 + len + 0 ≤ len; omega) (g := (mkF m 45 #[.val (.ref a), .val (.ref b), .val (.int (Int32.ofNat o)), .val (.int (Int32.ofNat len)), .val .null, .val (.ref s.heap.size)] [.int (Int32.ofNat N.slots.size), .ref s.heap.size, .ref a])) rfl (by rw [hml]; rfl) c10 (argsL := [.ref s.heap.size, .int (Int32.ofNat N.slots.size)]) (rest := [.ref a]) rfl rfl (by show 2 * 0 + (1 + 0) ≤ _; decide) (hb hbytes d45) (⟨rfl, n1⟩)
  obtain ⟨rfl, q11⟩ := E11
  have hB11 := hB1.mv (X8.warmed.alike.symm.trans X11.warmed.alike) q11
  have c12 : Steps p.tables e below (s₁.setTop (entryFrame m #[.ref a, .ref b, .int (Int32.ofNat o), .int (Int32.ofNat len), .null] 6)) (T11.setTop (mkF m 48 #[.val (.ref a), .val (.ref b), .val (.int (Int32.ofNat o)), .val (.int (Int32.ofNat len)), .val .null, .val (.ref s.heap.size)] [.int 0, .ref a])) := g11
  obtain ⟨T13, X13, p13, bl13, sl13, st13⟩ := X11.finit hexec hown (wk W (.fieldLink "java/lang/String" 15 "java/lang/String" "coder" "B")) (Or.inr ⟨_, (wk W (.laysFinal "java/lang/String" "java/lang/String" "coder" "B"))⟩) (Or.inl ⟨rfl, hnm⟩) f2 (Or.inl rfl) hB11 (t := .byte) (by decide +kernel) rfl (g := (mkF m 48 #[.val (.ref a), .val (.ref b), .val (.int (Int32.ofNat o)), .val (.int (Int32.ofNat len)), .val .null, .val (.ref s.heap.size)] [.int 0, .ref a])) rfl (rest := []) rfl (hb hbytes d48)
  have c14 : Steps p.tables e below (s₁.setTop (entryFrame m #[.ref a, .ref b, .int (Int32.ofNat o), .int (Int32.ofNat len), .null] 6)) (T13.setTop (mkF m 54 #[.val (.ref a), .val (.ref b), .val (.int (Int32.ofNat o)), .val (.int (Int32.ofNat len)), .val .null, .val (.ref s.heap.size)] [.ref s.heap.size, .ref a])) := (c12.trans (st13 _ (Steps.refl _))).trans (by
    refine XS.aloadN X13.here hexec rfl (hb hbytes d51) rfl rfl ?_
    refine XS.aload X13.here hexec rfl (hb hbytes d52) rfl rfl ?_
    exact Steps.refl _)
  obtain ⟨T15, X15, p15, bl15, sl15, st15⟩ := X13.finit hexec hown (wk W (.fieldLink "java/lang/String" 9 "java/lang/String" "value" "[B")) (Or.inr ⟨_, (wk W (.laysFinal "java/lang/String" "java/lang/String" "value" "[B"))⟩) (Or.inl ⟨rfl, hnm⟩) f1 (Or.inl rfl) bl13 (t := (.array .byte)) (by decide +kernel) rfl (g := (mkF m 54 #[.val (.ref a), .val (.ref b), .val (.int (Int32.ofNat o)), .val (.int (Int32.ofNat len)), .val .null, .val (.ref s.heap.size)] [.ref s.heap.size, .ref a])) rfl (rest := []) rfl (hb hbytes d54)
  have c16 : Steps p.tables e below (s₁.setTop (entryFrame m #[.ref a, .ref b, .int (Int32.ofNat o), .int (Int32.ofNat len), .null] 6)) (T15.setTop (mkF m 57 #[.val (.ref a), .val (.ref b), .val (.int (Int32.ofNat o)), .val (.int (Int32.ofNat len)), .val .null, .val (.ref s.heap.size)] [])) := c14.trans (st15 _ (Steps.refl _))
  have ap := apart (Or.inr ⟨_, (wk W (.laysFinal "java/lang/String" "java/lang/String" "value" "[B"))⟩) (Or.inr ⟨_, (wk W (.laysFinal "java/lang/String" "java/lang/String" "coder" "B"))⟩) f1 f2 (t₁ := .array .byte) (t₂ := .byte) (by decide +kernel) (by decide +kernel) (by decide)
  have al := X8.warmed.alike.symm.trans X15.warmed.alike
  have n7 : T11.heap[s.heap.size]? = some N := by rw [q11]; exact n1.1
  exact ⟨T15, none, _, _, _, X15, by simp, rfl, by omega, (fun _ => rfl), ⟨rfl, _, N, bl15, ((Same.refl D _).set _ (by simp)).set _ (by simp), sl15, (Cell.slots_setSlot_ne _ ap).trans sl13, n1.keep al (p15.other hne (p13.other hne n7)), n2, by rw [al.findClass]; exact n3, n4, n5, fun y c h1 h2 => p15.other h1 (p13.other h1 (by rw [q11]; exact n6 y c h2)), by rw [p15.2.2, p13.2.2, q11]; exact z8⟩, fun fs hl => c16.trans (X15.returnOut hexec hret (hb hbytes d57) hl)⟩
end New4
namespace New1
def yN : MethodName := ⟨"java/lang/String", "<init>", "([C)V"⟩
abbrev yB : ByteArray := jdk_42_method_3_code
theorem d0 : decode yB 0 = .ok (.aload_n 0, 1) := by decide +kernel
theorem d1 : decode yB 1 = .ok (.aload_n 1, 1) := by decide +kernel
theorem d2 : decode yB 2 = .ok (.iconst 0, 1) := by decide +kernel
theorem d3 : decode yB 3 = .ok (.aload_n 1, 1) := by decide +kernel
theorem d4 : decode yB 4 = .ok (.arraylength, 1) := by decide +kernel
theorem d5 : decode yB 5 = .ok (.aconst_null, 1) := by decide +kernel
theorem d6 : decode yB 6 = .ok (.invokespecial 27, 3) := by decide +kernel
theorem d9 : decode yB 9 = .ok (.return_, 1) := by decide +kernel
def site : List Cond := [New4.tab] ++ initW "java/lang/String" 27 New4.yN
def tab : Cond := tabOf yN yB 2 none site
def P (a : Addr) (D : Cell) (fV fC : Field) (b : Addr) (A : Cell) (z : Int32) (args : Array Value) (s : State) : Prop := args = #[.ref a, .ref b] ∧ Blank "java/lang/String" a D s ∧ Found "java/lang/String" "value" "[B" fV s ∧ Found "java/lang/String" "coder" "B" fC s ∧ Ch b A s ∧ StaticIs s "java/lang/String" "COMPACT_STRINGS" "Z" (.int z) ∧ ¬ z = 0 ∧ 0 < A.slots.size ∧ A.slots.size ≤ 536870912 ∧ ∀ i, i < A.slots.size → ¬ 255 < cv A i
def E (a : Addr) (D : Cell) (fV fC : Field) (A : Cell) (r : Option Value) (s u : State) : Prop := Got a D fV fC A 0 A.slots.size r s u
/-- new String(chars), not empty, no char above 255: a Latin-1 String of their low bytes -/
theorem law (l : Launch) (a : Addr) (D : Cell) (fV fC : Field) (b : Addr) (A : Cell) (z : Int32) : Law l yN 2 1 3 52 yB 2 none site (P a D fV fC b A z) (E a D fV fC A) [⟨a, fC.slot⟩, ⟨a, fV.slot⟩] 1 A.slots.size := by
  refine Law.of_walk (plainFor_of_name (by decide +kernel)) (by decide +kernel) (by decide +kernel) (by decide) (fun _ _ h => by rw [h.1]; rfl) (fun _ U U' hal hh h => ⟨h.1, h.2.1.mv hal hh, h.2.2.1.al hal, h.2.2.2.1.al hal, h.2.2.2.2.1.mv hal hh, h.2.2.2.2.2.1.there hal hh, h.2.2.2.2.2.2⟩) (fun r U U' V V' h1 hal h2 h => Got.mv r U U' V V' h1 hal h2 h) ?_
  intro p e s m args below meth c s₁ X0 hexec hbytes hml hret hlk hnm hown hh0 W hP
  obtain ⟨rfl, hB, f1, f2, hA, s1, hz, l0, l2, hp⟩ := hP
  have c1 : Steps p.tables e below (s₁.setTop (entryFrame m #[.ref a, .ref b] 2)) (s₁.setTop (mkF m 0 #[.val (.ref a), .val (.ref b)] [])) := entry rfl
  have c2 : Steps p.tables e below (s₁.setTop (entryFrame m #[.ref a, .ref b] 2)) (s₁.setTop (mkF m 6 #[.val (.ref a), .val (.ref b)] [.null, .int (Int32.ofNat A.slots.size), .int 0, .ref b, .ref a])) := c1.trans (by
    refine XS.aloadN X0.here hexec rfl (hb hbytes d0) rfl rfl ?_
    refine XS.aloadN X0.here hexec rfl (hb hbytes d1) rfl rfl ?_
    refine iconstV X0.here hexec rfl 0 (hb hbytes d2) (by decide) ?_
    refine XS.aloadN X0.here hexec rfl (hb hbytes d3) rfl rfl ?_
    refine X0.alen hexec (hA.1.mv X0.warmed.alike hh0) rfl rfl (hb hbytes d4) ?_
    refine XS.aconstNull X0.here hexec rfl (hb hbytes d5) ?_
    exact Steps.refl _)
  obtain ⟨v3, T3, X3, E3, g3⟩ := X0.callN hexec (New4.law l a D fV fC b A z 0 A.slots.size) rfl hown (wks W (initW "java/lang/String" 27 New4.yN)) (W New4.tab (by simp only [site, List.mem_cons, List.mem_append, true_or, or_true])) (W := 0) (Nat.le_of_ble_eq_true rfl) (Nat.le_of_ble_eq_true rfl) (Nat.le_refl _) (by show 0 + A.slots.size ≤ A.slots.size; omega) (g := (mkF m 6 #[.val (.ref a), .val (.ref b)] [.null, .int (Int32.ofNat A.slots.size), .int (Int32.ofNat 0), .ref b, .ref a])) rfl (by rw [hml]; rfl) c2 (argsL := [.ref b, .int (Int32.ofNat 0), .int (Int32.ofNat A.slots.size), .null]) (rest := []) rfl rfl (by show 2 * 0 + 0 ≤ _; decide) (hb hbytes d6) (⟨rfl, hB.mv X0.warmed.alike hh0, f1.al X0.warmed.alike, f2.al X0.warmed.alike, hA.mv X0.warmed.alike hh0, s1.there X0.warmed.alike hh0, hz, l0, by omega, l2, fun i hi => by rw [Nat.zero_add]; exact hp i hi⟩)
  have e0 := Got.mv _ s₁ s _ _ hh0.symm (Vm.Alike.refl _) rfl E3
  obtain rfl := e0.1
  have c4 : Steps p.tables e below (s₁.setTop (entryFrame m #[.ref a, .ref b] 2)) (T3.setTop (mkF m 9 #[.val (.ref a), .val (.ref b)] [])) := g3
  exact ⟨T3, none, _, _, _, X3, by simp, rfl, by omega, (fun _ => rfl), e0, fun fs hl => c4.trans (X3.returnOut hexec hret (hb hbytes d9) hl)⟩
theorem pays {l : Launch} {R : Room} {p : Program} {e : Env} {below : List Frame} {s : State} {sargs : Array Value} {len W : Nat} (a : Addr) (D : Cell) (fV fC : Field) (b : Addr) (A : Cell) (z : Int32) (htab : tab.before sargs s = true) (hfr : 4 ≤ R.frames) (hlo : W + 65 ≤ R.locals) :
    Back l R p e below s sargs yN len W (fun A₁ a₁ => A₁.cells + 1 ≤ R.cells ∧ A₁.slots + A.slots.size ≤ R.slots ∧ P a D fV fC b A z a₁ A₁.U) (fun A₁ _ v₁ B₁ => E a D fV fC A v₁ A₁.U B₁.U ∧ B₁.locs = A₁.locs ++ [⟨a, fC.slot⟩, ⟨a, fV.slot⟩] ∧ B₁.cells = A₁.cells + 1 ∧ B₁.slots = A₁.slots + A.slots.size) :=
  (law l a D fV fC b A z).pays htab hfr (by omega)
end New1
/-- the byte, read back as charAt reads it, is the char -/
theorem lo8_mask {x : Int32} (h0 : ¬ x < 0) (h1 : ¬ 255 < x) : lo8 x &&& 255 = x := by
  have t : ∀ k : Fin 256, lo8 (Int32.ofNat k.val) &&& 255 = Int32.ofNat k.val := by decide +kernel
  rw [Int32.lt_iff_toInt_lt] at h0 h1
  have e0 : (0 : Int32).toInt = 0 := rfl
  have e1 : (255 : Int32).toInt = 255 := rfl
  obtain ⟨k, hk⟩ : ∃ k : Nat, x.toInt = k := ⟨x.toInt.toNat, by omega⟩
  have hx : x = Int32.ofNat k := Int32.toInt_inj.mp (by rw [hk, Int32.toInt_ofNat_small (by omega)])
  rw [hx]
  exact t ⟨k, by omega⟩
end StrChars
namespace StrChars.Road
open Jvm Sem ClassFile Op Lib Jvm.Stand Jvm.Free Jvm.Free.XT
open Jvm.Lib.Cold (StaticIs)
abbrev ST : String := "java/lang/String"
/-- every table word that New1's law asks, flat -/
abbrev words : List Jvm.Cond := [.code New1.yN New1.yB 2 none, .initialized ST, .methodLink ST 27 New4.yN, .instanceMethod New4.yN,
  .code New4.yN New4.yB 6 none, .fieldLink ST 38 ST "COMPACT_STRINGS" "Z", .laysFinal ST ST "value" "[B", .fieldLink ST 9 ST "value" "[B", .laysFinal ST ST "coder" "B", .fieldLink ST 15 ST "coder" "B",
  .methodLink ST 1 Lib.objectInit, .instanceMethod Lib.objectInit, .code Lib.objectInit ⟨#[0xb1]⟩ 1 none, .methodLink ST 177 Cmp3.yN, .static Cmp3.yN, .methodLink ST 47 CodL.yN, .static CodL.yN,
  .code Cmp3.yN Cmp3.yB 6 (some (.array .byte)), .initialized U16, .arrayClass .byte, .methodLink U16 115 Cmp5.yN, .static Cmp5.yN, .code Cmp5.yN Cmp5.yB 7 (some .int), .code CodL.yN CodL.yB 2 (some .byte)]
theorem tab_of {a : Array Value} {s : State} (h : ∀ w ∈ words, w.before a s = true) : New1.tab.before a s = true := by
  have h5 : Cmp5.tab.before a s = true := unparts (wk h (.code Cmp5.yN Cmp5.yB 7 (some .int))) (wks h (.initialized Cmp5.yN.cls :: Cmp5.site))
  have hc : CodL.tab.before a s = true := unparts (wk h (.code CodL.yN CodL.yB 2 (some .byte))) (wks h (.initialized CodL.yN.cls :: CodL.site))
  have q5 : ∀ w ∈ Cmp5.tab :: words, w.before a s = true := fun w hw => (List.mem_cons.mp hw).elim (fun e => e ▸ h5) (h w)
  have h3 : Cmp3.tab.before a s = true := unparts (wk q5 (.code Cmp3.yN Cmp3.yB 6 (some (.array .byte)))) (wks q5 (.initialized Cmp3.yN.cls :: Cmp3.site))
  have q3 : ∀ w ∈ Cmp3.tab :: CodL.tab :: words, w.before a s = true := fun w hw => (List.mem_cons.mp hw).elim (fun e => e ▸ h3) fun hw => (List.mem_cons.mp hw).elim (fun e => e ▸ hc) (h w)
  have h4 : New4.tab.before a s = true := unparts (wk q3 (.code New4.yN New4.yB 6 none)) (wks q3 (.initialized New4.yN.cls :: New4.site))
  have q4 : ∀ w ∈ New4.tab :: words, w.before a s = true := fun w hw => (List.mem_cons.mp hw).elim (fun e => e ▸ h4) (h w)
  exact unparts (wk q4 (.code New1.yN New1.yB 2 none)) (wks q4 (.initialized New1.yN.cls :: New1.site))
/-- the words ride from the start Z to the walk's own state -/
theorem moved {Z s : State} {a0 args : Array Value} (hZ : Z.Warmed39 s.vm) (hw : ∀ d ∈ words, d.before a0 Z = true) : ∀ d ∈ words, d.before args s = true := fun d hd => by
  have q := hw d hd
  have t : ∀ d ∈ words, d = .arrayClass .byte ∨ (d.onTables && d.keepsFace) = true := by decide +kernel
  rcases t d hd with rfl | t
  · exact RoadKit.mvA hZ q
  · exact RoadKit.mv hZ q t
/-- WHAT COMES BACK, over the tables of the start Z: h the heap at the call, h' behind it -/
def Q (Z : State) (x : Addr) (A : Cell) (h : Heap) (v : Option Value) (h' : Heap) (L : List Loc) : Prop := v = none ∧ (∀ y ∈ L, y.base = x) ∧ RoadKit.Keep h h' [x] ∧ h'.size = h.size + 1 ∧ RoadKit.Exa Z h' x ST ∧ RoadKit.Fld Z h' x ST "value" "[B" (.ref h.size) ∧ RoadKit.Fld Z h' x ST "coder" "B" (.int 0) ∧
  (∃ V : Cell, RoadKit.Arr Z h' h.size V .byte ∧ V.vm = .none ∧ Z.vm.findClass "[B" = some V.cls ∧ V.slots.size = A.slots.size ∧ ∀ j, j < A.slots.size → V.slots[j]? = some (.int (lo8 (cv A j)))) ∧
  ∀ (O n d : String) (w : Value), RoadKit.Fld Z h x O n d w → RoadKit.slotOf Z O n d ≠ RoadKit.slotOf Z ST "value" "[B" → RoadKit.slotOf Z O n d ≠ RoadKit.slotOf Z ST "coder" "B" → RoadKit.Fld Z h' x O n d w
/-- **new String(chars) AT A CALL, IN THE ROAD'S FORM**: for specialBack behind newO: x the fresh String, b the char[] with the cell A -/
theorem back {p : Program} {l : Launch} {e : Env} {R : Room} {s : State} {args : Array Value} {below : List Frame} {len W : Nat} {Z : State} {a0 : Array Value} {h : Heap} (hZ : Z.Warmed39 s.vm) (hw : ∀ d ∈ words, d.before a0 Z = true) {kI : Nat} (wi : (Jvm.Cond.instantiable ST kI).before a0 Z = true)
    {x b : Addr} {A : Cell} {z : Int32} {v0 c0 : Value} (E : RoadKit.Exa Z h x ST) (V : RoadKit.Fld Z h x ST "value" "[B" v0) (C : RoadKit.Fld Z h x ST "coder" "B" c0) (K : RoadKit.Arr Z h b A .char) (hty : Typed .char A) (S : RoadKit.Sta Z h ST "COMPACT_STRINGS" "Z" (.int z)) (hz : ¬ z = 0)
    (l0 : 0 < A.slots.size) (l2 : A.slots.size ≤ 536870912) (hp : ∀ i, i < A.slots.size → ¬ 255 < cv A i) (hfr : 4 ≤ R.frames) (hlo : W + 65 ≤ R.locals) :
    Back l R p e below s args New1.yN len W (fun P a => a = #[.ref x, .ref b] ∧ P.U.heap = h ∧ P.cells + 1 ≤ R.cells ∧ P.slots + A.slots.size ≤ R.slots)
      (fun P _ v B => ∃ L, Q Z x A h v B.U.heap L ∧ B.locs = P.locs ++ L ∧ B.cells = P.cells + 1 ∧ B.slots = P.slots + A.slots.size) := by
  intro m meth c P g ig mk a X hg hsize hdg hW hn hp'
  obtain ⟨rfl, rfl, r1, r2⟩ := hp'
  have al : Z.vm.Alike P.U.vm := hZ.alike.trans X.warmed.alike
  obtain ⟨D, cfV, kV, iV, fV, hD, gV, stV, knV, obV, asV, slV⟩ := id V
  obtain ⟨D', cfC, kC, iC, fC, hD', gC, stC, -, -, asC, slC⟩ := id C
  cases hD.symm.trans hD'
  obtain ⟨D2, kD, e1, e2, e3, e4, e5⟩ := id E
  cases hD.symm.trans e1
  obtain ⟨c2, k2, i1, i2, i3, -⟩ := Cond.instantiable_spec wi
  cases e2.symm.trans i1
  cases e3.symm.trans i2
  obtain ⟨kU, u1, u2⟩ := al.2.2 _ _ e3
  have hB : Blank ST x D P.U := ⟨hD, ⟨knV, fun q hq => by rw [hq] at obV; cases obV⟩, by rw [al.findClass]; exact e2, kU, u1, by rw [u2]; exact i3, by rw [u2]; exact e5 i3⟩
  have F1 : Found ST "value" "[B" fV P.U := ⟨SBG.found_only al ⟨cfV, kV, iV, gV⟩, stV⟩
  have F2 : Found ST "coder" "B" fC P.U := ⟨SBG.found_only al ⟨cfC, kC, iC, gC⟩, stC⟩
  have hA : Ch b A P.U := ⟨⟨K.1, State.isArrayOf_alike al K.2.1, K.2.2, by omega⟩, hty⟩
  have hS : StaticIs P.U ST "COMPACT_STRINGS" "Z" (.int z) := by
    obtain ⟨cfS, iS, kS, fS, st, cS, t1, t2, t3, t4, t5, t6, t7⟩ := S
    exact StaticIs.there (s := { Z with heap := P.U.heap }) ⟨cfS, iS, kS, fS, st, cS, t1, t2, t3, t4, t5, (fun q => by rw [q] at t6; cases t6), t7⟩ al rfl
  obtain ⟨v, B, X', ⟨⟨hv, E', V', q1, q2, q3, q4, q5, q6, q7, q8, q9, q10, q11⟩, hl, hc, hs⟩, st⟩ := New1.pays x D fV fC b A z (tab_of (moved hZ hw)) hfr hlo m meth c P g ig mk _ X hg hsize hdg hW hn ⟨r1, r2, rfl, hB, F1, F2, hA, hS, hz, l0, l2, hp⟩
  have al' : Z.vm.Alike B.U.vm := hZ.alike.trans X'.warmed.alike
  have hsz : E'.slots.size = D.slots.size := by
    obtain ⟨-, -, -, kB, w1, w2, w3⟩ := q1
    obtain ⟨kB', y1, y2⟩ := al'.2.2 _ _ e3
    rw [q2.2.1] at w1
    cases w1.symm.trans y1
    rw [w3, e5 i3, y2]
  refine ⟨v, B, X', ⟨_, ⟨hv, ?_, ⟨by omega, fun y cy hy hn' => q10 y cy (by simpa using hn') hy, fun y cy hy => ?_⟩, q11, ⟨E', _, q1.1, by rw [q2.2.1]; exact e2, by rw [q2.2.1]; exact e3, by rw [q2.1]; exact obV, fun _ => by rw [hsz]; exact e5 i3⟩,
    ⟨E', cfV, kV, iV, fV, q1.1, gV, stV, by rw [q2.1]; exact knV, by rw [q2.1]; exact obV, by rw [q2.2.1]; exact asV, q3⟩, ⟨E', cfC, kC, iC, fC, q1.1, gC, stC, by rw [q2.1]; exact knV, by rw [q2.1]; exact obV, by rw [q2.2.1]; exact asC, q4⟩,
    ⟨V', ⟨q5.1, State.isArrayOf_alike al'.symm q5.2.1, q5.2.2.1⟩, q6, by rw [← al'.findClass]; exact q7, q8, fun j hj => by have := q9 j hj; rwa [Nat.zero_add] at this⟩, fun O n d w F n1 n2 => ?_⟩, hl, hc, hs⟩, st⟩
  · intro y hy
    simp only [List.mem_cons, List.not_mem_nil, or_false] at hy
    rcases hy with rfl | rfl <;> rfl
  · by_cases q : y = x
    · subst q
      cases hD.symm.trans hy
      exact ⟨E', q1.1, q2.2.1, q2.1, hsz⟩
    · exact ⟨cy, q10 y cy q hy, rfl, rfl, rfl⟩
  · obtain ⟨D3, cf, k, i, f, g1, g2, g3, g4, g5, g6, g7⟩ := F
    cases hD.symm.trans g1
    simp only [RoadKit.slotOf, g2, gV, gC, Option.map_some, Option.getD_some] at n1 n2
    exact ⟨E', cf, k, i, f, q1.1, g2, g3, by rw [q2.1]; exact g4, by rw [q2.1]; exact g5, by rw [q2.2.1]; exact g6, by rw [q2.2.2 f.slot (by simp [n1, n2])]; exact g7⟩
end StrChars.Road
namespace StrChars.Road
open Jvm Sem ClassFile Op Lib Jvm.Stand Jvm.Free Jvm.Free.XT
/-- WHAT COMES BACK, the byte[] as a list of values -/
def QA (Z : State) (x : Addr) (zn : Int32) (cs : List Int32) (h : Heap) (v : Option Value) (h' : Heap) (L : List Loc) : Prop := v = none ∧ (∀ y ∈ L, y.base = x) ∧ RoadKit.Keep h h' [x] ∧ h'.size = h.size + 1 ∧ RoadKit.Exa Z h' x ST ∧ RoadKit.Fld Z h' x ST "value" "[B" (.ref h.size) ∧ RoadKit.Fld Z h' x ST "coder" "B" (.int 0) ∧
  (∃ kb, Z.vm.findClass "[B" = some kb ∧ RoadKit.Arv Z h' h.size kb .byte zn (cs.map fun c => .int (lo8 c)) (.int 0)) ∧
  ∀ (O n d : String) (w : Value), RoadKit.Fld Z h x O n d w → RoadKit.slotOf Z O n d ≠ RoadKit.slotOf Z ST "value" "[B" → RoadKit.slotOf Z O n d ≠ RoadKit.slotOf Z ST "coder" "B" → RoadKit.Fld Z h' x O n d w
/-- **new String(chars) AT A CALL, THE ARRAYS AS LISTS**: the char[] at b holds cs, not empty, no char above 255 -/
theorem backArv {p : Program} {l : Launch} {e : Env} {R : Room} {s : State} {args : Array Value} {below : List Frame} {len W : Nat} {Z : State} {a0 : Array Value} {h : Heap} (hZ : Z.Warmed39 s.vm) (hw : ∀ d ∈ words, d.before a0 Z = true) {kI : Nat} (wi : (Jvm.Cond.instantiable ST kI).before a0 Z = true)
    {x b : Addr} {k : ClassId} {zn z : Int32} {cs : List Int32} {dv v0 c0 : Value} (E : RoadKit.Exa Z h x ST) (V : RoadKit.Fld Z h x ST "value" "[B" v0) (C : RoadKit.Fld Z h x ST "coder" "B" c0) (K : RoadKit.Arv Z h b k .char zn (cs.map Value.int) dv) (S : RoadKit.Sta Z h ST "COMPACT_STRINGS" "Z" (.int z)) (hz : ¬ z = 0)
    (hlen : zn.toNatClampNeg = cs.length) (h0 : 0 < cs.length) (hbig : cs.length ≤ 536870912) (hall : ∀ c ∈ cs, ¬ 255 < c) (hfr : 4 ≤ R.frames) (hlo : W + 65 ≤ R.locals) :
    Back l R p e below s args New1.yN len W (fun P a => a = #[.ref x, .ref b] ∧ P.U.heap = h ∧ P.cells + 1 ≤ R.cells ∧ P.slots + cs.length ≤ R.slots)
      (fun P _ v B => ∃ L, QA Z x zn cs h v B.U.heap L ∧ B.locs = P.locs ++ L ∧ B.cells = P.cells + 1 ∧ B.slots = P.slots + cs.length) := by
  obtain ⟨A, K1, K2, K3, K4, K5, K6⟩ := K
  have e : A.slots.size = cs.length := K3.trans hlen
  have hat : ∀ (i : Nat) (hi : i < cs.length), A.slots[i]? = some (.int cs[i]) := fun i hi => by rw [K5 i (by omega)]; simp [List.getD_eq_getElem?_getD, hi]
  have hcv : ∀ (i : Nat) (hi : i < cs.length), cv A i = cs[i] := fun i hi => by unfold cv; rw [hat i hi]
  have hty : Typed .char A := fun i v hv => by
    have hi : i < A.slots.size := (Array.getElem?_eq_some_iff.mp hv).1
    have q := K5 i hi
    rw [hv] at q
    rw [Option.some.inj q]
    exact K6 i hi
  refine Back.mono (back hZ hw wi E V C K1 hty S hz (by omega) (by omega) (fun i hi => by rw [hcv i (by omega)]; exact hall _ (List.getElem_mem _)) hfr hlo) (fun P a hp => ⟨hp.1, hp.2.1, hp.2.2.1, by rw [e]; exact hp.2.2.2⟩) (fun P a v B hp hq => ?_)
  obtain ⟨L, ⟨q1, q2, q3, q4, q5, q6, q7, ⟨V', v1, v2, v3, v4, v5⟩, q9⟩, hl, hc, hs⟩ := hq
  refine ⟨L, ⟨q1, q2, q3, q4, q5, q6, q7, ⟨V'.cls, v3, V', v1, rfl, by rw [v4, e, hlen], K4, fun i hi => ?_, fun i hi => ?_⟩, q9⟩, hl, hc, by rw [hs, e]⟩
  · have hi' : i < cs.length := by omega
    rw [v5 i (by omega), hcv i hi']; simp [List.getD_eq_getElem?_getD, hi']
  · have hi' : i < cs.length := by omega
    simp only [List.getD_eq_getElem?_getD, List.getElem?_map, List.getElem?_eq_getElem hi', Option.map_some, Option.getD_some]
    exact fits_lo8 _
end StrChars.Road
namespace StrChars.Road
open Jvm Sem ClassFile Op Lib Jvm.Stand Jvm.Free Jvm.Free.XT
/-- WHAT COMES BACK, in the writer's own shape -/
def QV (Z : State) (x : Addr) (N : Int32) (bs : List Int32) (h : Heap) (n0 : Nat) (v : Option Value) (h' : Heap) (L : List Loc) : Prop := v = none ∧ RoadKit.Fr n0 L ∧ RoadKit.Keep h h' [x] ∧ RoadKit.Exa Z h' x ST ∧ RoadKit.Fld Z h' x ST "coder" "B" (.int 0) ∧
  ∃ (t : Addr) (kb : ClassId), n0 ≤ t ∧ h.size ≤ t ∧ ¬ t = x ∧ RoadKit.Fld Z h' x ST "value" "[B" (.ref t) ∧ RoadKit.Arv Z h' t kb .byte N (bs.map Value.int) (.int 0)
/-- **new String(chars) AT A CALL, FOR THE WRITER**: a char[] of n known ints, each 0 to 255 -/
theorem backV {p : Program} {l : Launch} {e : Env} {R : Room} {s : State} {args : Array Value} {below : List Frame} {len W : Nat} {Z : State} {a0 : Array Value} {h : Heap} (hZ : Z.Warmed39 s.vm) (hw : ∀ d ∈ words, d.before a0 Z = true) {kI : Nat} (wi : (Jvm.Cond.instantiable ST kI).before a0 Z = true)
    {x b : Addr} {kC : ClassId} {cs bs : List Int32} {d v0 c0 : Value} {z N : Int32} {n n0 : Nat} (hx0 : n0 ≤ x) (hh0 : n0 ≤ h.size) (E : RoadKit.Exa Z h x ST) (V : RoadKit.Fld Z h x ST "value" "[B" v0) (C : RoadKit.Fld Z h x ST "coder" "B" c0) (K : RoadKit.Arv Z h b kC .char N (cs.map Value.int) d) (S : RoadKit.Sta Z h ST "COMPACT_STRINGS" "Z" (.int z)) (hz : ¬ z = 0)
    (hn : cs.length = n) (hN : N = Int32.ofNat n) (l0 : 0 < n) (l2 : n ≤ 4000) (hp : ∀ c ∈ cs, ¬ c < 0 ∧ ¬ (255 : Int32) < c) (hb : bs = cs.map (fun c => c.toInt8.toInt32)) (hfr : 4 ≤ R.frames) (hlo : W + 65 ≤ R.locals) :
    Back l R p e below s args (⟨"java/lang/String", "<init>", "([C)V"⟩ : MethodName) len W (fun P a => a = #[.ref x, .ref b] ∧ P.U.heap = h ∧ P.cells + 1 ≤ R.cells ∧ P.slots + n ≤ R.slots)
      (fun P _ v B => ∃ L, QV Z x N bs h n0 v B.U.heap L ∧ B.locs = P.locs ++ L ∧ B.cells = P.cells + 1 ∧ B.slots = P.slots + n) := by
  subst hn hN hb
  refine Back.mono (backArv hZ hw wi E V C K S hz (n32 (by omega)) l0 (by omega) (fun c hc => (hp c hc).2) hfr hlo) (fun P a hp => hp) (fun P a v B hp hq => ?_)
  obtain ⟨L, ⟨q1, q2, q3, q4, q5, q6, q7, ⟨kb, v1, v2⟩, q9⟩, hl, hc, hs⟩ := hq
  exact ⟨L, ⟨q1, fun y hy => by rw [q2 y hy]; exact hx0, q3, q5, q7, h.size, kb, hh0, Nat.le_refl _, Nat.ne_of_gt E.lt, q6, by rw [List.map_map]; exact v2⟩, hl, hc, hs⟩
end StrChars.Road
namespace StrChars
open Jvm Sem ClassFile Op Lib Jvm.Stand Jvm.Free.XT Jvm.Free.ALB Jvm.Free.JM Jvm.Free
open Jvm.Lib.Cold (StaticIs)
def hi8 (x : Int32) : Int32 := lo8 (x >>> ((8 : Int32) &&& 31))
/-- what StringUTF16.getChar makes of two bytes -/
def pairCh (u v : Int32) : Int32 := (((u &&& 255) <<< ((0 : Int32) &&& 31)) ||| ((v &&& 255) <<< ((8 : Int32) &&& 31))).toUInt32.toUInt16.toUInt32.toInt32
theorem shr0 (c : Int32) : c >>> ((0 : Int32) &&& 31) = c := by
  have e : ((0 : Int32) &&& 31) = 0 := by decide
  rw [e]
  apply Int32.toBitVec_inj.mp
  rw [Int32.toBitVec_shiftRight]
  have e1 : ((0 : Int32).toBitVec.smod 32) = 0#32 := by decide
  rw [e1, BitVec.sshiftRight_eq']
  exact BitVec.sshiftRight_zero
theorem lo8_and (x : Int32) : (lo8 x &&& 255).toBitVec.toNat = x.toBitVec.toNat % 256 := by
  have h : (lo8 x).toBitVec = (x.toBitVec.signExtend 8).signExtend 32 := by rw [lo8, Int8.toBitVec_toInt32, Int32.toBitVec_toInt8]
  rw [Int32.toBitVec_and, BitVec.toNat_and, h]
  have e : ((x.toBitVec.signExtend 8).signExtend 32).toNat % 256 = x.toBitVec.toNat % 256 := by
    rw [BitVec.toNat_signExtend]
    have hlt := x.toBitVec.isLt
    simp only [BitVec.toNat_setWidth, BitVec.toNat_signExtend]
    split <;> split <;> omega
  rw [← e]
  exact Nat.and_two_pow_sub_one_eq_mod _ 8
theorem pair_says {c : Int32} (h0 : ¬ c < 0) (h1 : ¬ 65535 < c) : pairCh (lo8 c) (hi8 c) = c := by
  rw [Int32.lt_iff_toInt_lt] at h0 h1
  have e0 : (0 : Int32).toInt = 0 := rfl
  have e1 : (65535 : Int32).toInt = 65535 := rfl
  have hc : c.toInt = c.toBitVec.toNat := by
    have := c.toBitVec.isLt
    have e : c.toInt = c.toBitVec.toInt := rfl
    rw [e] at h0 h1
    rw [e]
    rw [BitVec.toInt_eq_toNat_cond] at h0 h1 ⊢
    split at h0 <;> split <;> omega
  have hn : c.toBitVec.toNat < 65536 := by omega
  have a1 := lo8_and c
  have a2 : (hi8 c &&& 255).toBitVec.toNat = c.toBitVec.toNat / 256 := by
    rw [hi8, lo8_and]
    have e : ((8 : Int32) &&& 31) = 8 := by decide
    rw [e, Int32.toBitVec_shiftRight]
    have e2 : ((8 : Int32).toBitVec.smod 32) = 8#32 := by decide
    rw [e2, BitVec.sshiftRight_eq', BitVec.toNat_sshiftRight_of_msb_false (by rw [BitVec.msb_eq_false_iff_two_mul_lt]; omega)]
    show c.toBitVec.toNat >>> 8 % 256 = _
    rw [Nat.shiftRight_eq_div_pow]
    omega
  unfold pairCh
  apply Int32.toBitVec_inj.mp
  apply BitVec.eq_of_toNat_eq
  have f0 : ((0 : Int32) &&& 31) = 0 := by decide
  have f8 : ((8 : Int32) &&& 31) = 8 := by decide
  rw [f0, f8]
  have g : (((lo8 c &&& 255) <<< (0 : Int32)) ||| ((hi8 c &&& 255) <<< (8 : Int32))).toBitVec.toNat = c.toBitVec.toNat := by
    rw [Int32.toBitVec_or, Int32.toBitVec_shiftLeft, Int32.toBitVec_shiftLeft]
    have s0 : ((0 : Int32).toBitVec.smod 32) = 0#32 := by decide
    have s8 : ((8 : Int32).toBitVec.smod 32) = 8#32 := by decide
    rw [s0, s8, BitVec.toNat_or]
    simp only [BitVec.shiftLeft_eq', BitVec.toNat_shiftLeft, a1, a2]
    show (c.toBitVec.toNat % 256) <<< 0 % 2 ^ 32 ||| (c.toBitVec.toNat / 256) <<< 8 % 2 ^ 32 = _
    rw [Nat.shiftLeft_zero, Nat.mod_eq_of_lt (show c.toBitVec.toNat % 256 < 2 ^ 32 by omega), Nat.mod_eq_of_lt (show (c.toBitVec.toNat / 256) <<< 8 < 2 ^ 32 by rw [Nat.shiftLeft_eq]; omega), Nat.or_comm, ← Nat.shiftLeft_add_eq_or_of_lt (by omega), Nat.shiftLeft_eq]
    omega
  show BitVec.toNat (((((lo8 c &&& 255) <<< (0 : Int32)) ||| ((hi8 c &&& 255) <<< (8 : Int32))).toBitVec.setWidth 16).setWidth 32) = _
  rw [BitVec.toNat_setWidth, BitVec.toNat_setWidth, g]
  omega
end StrChars
namespace StrChars
open Jvm Sem ClassFile Op Lib Jvm.Stand Jvm.Free.XT Jvm.Free.ALB Jvm.Free.JM Jvm.Free
open Jvm.Lib.Cold (StaticIs)
theorem shr1 {n : Nat} (h : 2 * n < 2 ^ 31) : Int32.ofNat (2 * n) >>> ((1 : Int32) &&& 31) = Int32.ofNat n := by
  have e : ((1 : Int32) &&& 31) = 1 := by decide
  rw [e]
  apply Int32.toBitVec_inj.mp
  rw [Int32.toBitVec_shiftRight]
  have e1 : ((1 : Int32).toBitVec.smod 32) = 1#32 := by decide
  have hm : (BitVec.ofNat 32 (2 * n)).toNat = 2 * n := by rw [BitVec.toNat_ofNat, Nat.mod_eq_of_lt (by omega)]
  rw [e1, BitVec.sshiftRight_eq']
  apply BitVec.eq_of_toNat_eq
  show ((BitVec.ofNat 32 (2 * n)).sshiftRight 1).toNat = (BitVec.ofNat 32 n).toNat
  rw [BitVec.toNat_sshiftRight_of_msb_false (by rw [BitVec.msb_eq_false_iff_two_mul_lt, hm]; omega), hm, BitVec.toNat_ofNat, Nat.shiftRight_eq_div_pow]
  omega
/-- charAt's cast of a byte read back -/
def chr8 (u : Int32) : Int32 := (u &&& 255).toUInt32.toUInt16.toUInt32.toInt32
theorem chr8_lo8 {c : Int32} (h0 : ¬ c < 0) (h1 : ¬ 255 < c) : chr8 (lo8 c) = c := by
  have t : ∀ k : Fin 256, (Int32.ofNat k.val).toUInt32.toUInt16.toUInt32.toInt32 = Int32.ofNat k.val := by decide +kernel
  unfold chr8
  rw [lo8_mask h0 h1]
  rw [Int32.lt_iff_toInt_lt] at h0 h1
  have e0 : (0 : Int32).toInt = 0 := rfl
  have e1 : (255 : Int32).toInt = 255 := rfl
  obtain ⟨k, hk⟩ : ∃ k : Nat, c.toInt = k := ⟨c.toInt.toNat, by omega⟩
  have hx : c = Int32.ofNat k := Int32.toInt_inj.mp (by rw [hk, Int32.toInt_ofNat_small (by omega)])
  rw [hx]
  exact t ⟨k, by omega⟩
theorem narrow_ch {c : Int32} (h0 : ¬ c < 0) (h1 : ¬ 65535 < c) : narrow .char (.int c) = .int c := by
  have q : narrow .char (.int (pairCh (lo8 c) (hi8 c))) = .int (pairCh (lo8 c) (hi8 c)) := narrow_c _
  rwa [pair_says h0 h1] at q
/-- the array's cell V codes the n chars f 0 .. f (n - 1) by the coder cd, as the JDK does: coder 1 just where some char is above 255 -/
def Cod (cd : Int32) (n : Nat) (f : Nat → Int32) (V : Cell) : Prop := (cd = 0 ∧ V.slots.size = n ∧ ∀ j, j < n → V.slots[j]? = some (.int (lo8 (f j))) ∧ ¬ 255 < f j) ∨ (cd = 1 ∧ V.slots.size = 2 * n ∧ (∀ j, j < n → V.slots[2 * j]? = some (.int (lo8 (f j))) ∧ V.slots[2 * j + 1]? = some (.int (hi8 (f j)))) ∧ ∃ j, j < n ∧ 255 < f j)
theorem Cod.cd {cd : Int32} {n : Nat} {f : Nat → Int32} {V : Cell} (h : Cod cd n f V) : cd = 0 ∨ cd = 1 := h.imp (fun q => q.1) fun q => q.1
theorem Cod.len {cd : Int32} {n : Nat} {f : Nat → Int32} {V : Cell} (h : Cod cd n f V) (hs : V.slots.size < 2 ^ 31) : Int32.ofNat V.slots.size >>> (cd &&& 31) = Int32.ofNat n := by
  rcases h with ⟨rfl, h, -⟩ | ⟨rfl, h, -⟩
  · rw [shr0, h]
  · rw [h, shr1 (by omega)]
/-- **x is a String of the n chars f 0 .. f (n - 1)**, Latin-1 or UTF-16; its array at t has the cell V -/
def Txt (x t : Addr) (V : Cell) (cd : Int32) (n : Nat) (f : Nat → Int32) (U : State) : Prop := Exact "java/lang/String" x U ∧ Has x "java/lang/String" "value" "[B" (.ref t) U ∧ Has x "java/lang/String" "coder" "B" (.int cd) U ∧ XT.Arr .byte t V U ∧ Cod cd n f V ∧ ∀ j, j < n → ¬ f j < 0 ∧ ¬ 65535 < f j
theorem Txt.mv {x t : Addr} {V : Cell} {cd : Int32} {n : Nat} {f : Nat → Int32} {U U' : State} (h : Txt x t V cd n f U) (hal : U.vm.Alike U'.vm) (hh : U'.heap = U.heap) : Txt x t V cd n f U' := ⟨h.1.mv hal hh, h.2.1.mv hal hh, h.2.2.1.mv hal hh, h.2.2.2.1.mv hal hh, h.2.2.2.2⟩
namespace Cdr
def yN : MethodName := ⟨"java/lang/String", "coder", "()B"⟩
abbrev yB : ByteArray := jdk_42_method_152_code
theorem d0 : decode yB 0 = .ok (.getstatic 38, 3) := by decide +kernel
theorem d3 : decode yB 3 = .ok (.ifCond (.eq) 10, 3) := by decide +kernel
theorem d6 : decode yB 6 = .ok (.aload_n 0, 1) := by decide +kernel
theorem d7 : decode yB 7 = .ok (.getfield 15, 3) := by decide +kernel
theorem d10 : decode yB 10 = .ok (.goto 4, 3) := by decide +kernel
theorem d14 : decode yB 14 = .ok (.ireturn, 1) := by decide +kernel
def site : List Cond := [.fieldLink "java/lang/String" 38 "java/lang/String" "COMPACT_STRINGS" "Z", .fieldLink "java/lang/String" 15 "java/lang/String" "coder" "B"]
def tab : Cond := tabOf yN yB 1 (some .byte) site
def P (x : Addr) (cd z : Int32) (args : Array Value) (s : State) : Prop := args = #[.ref x] ∧ Has x "java/lang/String" "coder" "B" (.int cd) s ∧ (cd = 0 ∨ cd = 1) ∧ StaticIs s "java/lang/String" "COMPACT_STRINGS" "Z" (.int z) ∧ ¬ z = 0
def E (cd : Int32) (r : Option Value) (s u : State) : Prop := XT.PureE (some (.int cd)) r s u
theorem law (l : Launch) (x : Addr) (cd z : Int32) : Law l yN 1 0 0 0 yB 1 (some .byte) site (P x cd z) (E cd) [] 0 0 := by
  refine Law.of_walk (plainFor_of_name (by decide +kernel)) (by decide +kernel) (by decide +kernel) (by decide) (fun _ _ h => by rw [h.1]; rfl) (fun _ U U' hal hh h => ⟨h.1, h.2.1.mv hal hh, h.2.2.1, h.2.2.2.1.there hal hh, h.2.2.2.2⟩) (fun r U U' V V' h1 hal h2 h => XT.PureE.mv r U U' V V' h1 hal h2 h) ?_
  intro p e s m args below meth c s₁ X0 hexec hbytes hml hret hlk hnm hown hh0 W hP
  obtain ⟨rfl, hx, hc, s1, hz⟩ := hP
  have c1 : Steps p.tables e below (s₁.setTop (entryFrame m #[.ref x] 1)) (s₁.setTop (mkF m 0 #[.val (.ref x)] [])) := entry rfl
  obtain ⟨T2, X2, q2, st2⟩ := X0.sget hexec hown (wk W (.fieldLink "java/lang/String" 38 "java/lang/String" "COMPACT_STRINGS" "Z")) s1 (fun _ _ h => by rw [hh0]; exact h) (g := (mkF m 0 #[.val (.ref x)] [])) rfl (hb hbytes d0)
  have hh2 := q2.trans hh0
  have c3 : Steps p.tables e below (s₁.setTop (entryFrame m #[.ref x] 1)) (T2.setTop (mkF m 7 #[.val (.ref x)] [.ref x])) := (c1.trans (st2 _ (Steps.refl _))).trans (by
    refine XS.ifNo X2.here hexec rfl (hb hbytes d3) rfl (i0_eq_f hz) ?_
    refine XS.aloadN X2.here hexec rfl (hb hbytes d6) rfl rfl ?_
    exact Steps.refl _)
  obtain ⟨T4, X4, q4, st4⟩ := X2.hget hexec hown (wk W (.fieldLink "java/lang/String" 15 "java/lang/String" "coder" "B")) (hx.mv X2.warmed.alike hh2) (g := (mkF m 7 #[.val (.ref x)] [.ref x])) rfl (rest := []) rfl (hb hbytes d7)
  have c5 : Steps p.tables e below (s₁.setTop (entryFrame m #[.ref x] 1)) (T4.setTop (mkF m 14 #[.val (.ref x)] [.int cd])) := (c3.trans (st4 _ (Steps.refl _))).trans (by
    refine XS.goto X4.here hexec rfl (pc0 := 10) rfl (hb hbytes d10) (by decide) rfl ?_
    exact Steps.refl _)
  exact ⟨T4, some (.int cd), _, _, _, X4, rfl, rfl, rfl, (fun h => by cases h), ⟨rfl, q4.trans hh2⟩, fun fs hl => c5.trans (X4.ireturnOut hexec hret (by rcases hc with rfl | rfl <;> rfl) (Or.inr (Or.inr (Or.inl rfl))) (hb hbytes d14) hl)⟩
end Cdr
namespace Len
def yN : MethodName := ⟨"java/lang/String", "length", "()I"⟩
abbrev yB : ByteArray := jdk_42_method_54_code
theorem d0 : decode yB 0 = .ok (.aload_n 0, 1) := by decide +kernel
theorem d1 : decode yB 1 = .ok (.getfield 9, 3) := by decide +kernel
theorem d4 : decode yB 4 = .ok (.arraylength, 1) := by decide +kernel
theorem d5 : decode yB 5 = .ok (.aload_n 0, 1) := by decide +kernel
theorem d6 : decode yB 6 = .ok (.invokevirtual 335, 3) := by decide +kernel
theorem d9 : decode yB 9 = .ok (.ishr, 1) := by decide +kernel
theorem d10 : decode yB 10 = .ok (.ireturn, 1) := by decide +kernel
def site : List Cond := [.fieldLink "java/lang/String" 9 "java/lang/String" "value" "[B", Cdr.tab] ++ virtW "java/lang/String" 335 "java/lang/String" Cdr.yN Cdr.yN
def tab : Cond := tabOf yN yB 1 (some .int) site
def P (x t : Addr) (V : Cell) (cd : Int32) (n : Nat) (f : Nat → Int32) (z : Int32) (args : Array Value) (s : State) : Prop := args = #[.ref x] ∧ Txt x t V cd n f s ∧ StaticIs s "java/lang/String" "COMPACT_STRINGS" "Z" (.int z) ∧ ¬ z = 0
def E (n : Nat) (r : Option Value) (s u : State) : Prop := XT.PureE (some (.int (Int32.ofNat n))) r s u
/-- length() of a String of n chars, in either coding -/
theorem law (l : Launch) (x t : Addr) (V : Cell) (cd : Int32) (n : Nat) (f : Nat → Int32) (z : Int32) : Law l yN 1 0 1 13 yB 1 (some .int) site (P x t V cd n f z) (E n) [] 0 0 := by
  refine Law.of_walk (plainFor_of_name (by decide +kernel)) (by decide +kernel) (by decide +kernel) (by decide) (fun _ _ h => by rw [h.1]; rfl) (fun _ U U' hal hh h => ⟨h.1, h.2.1.mv hal hh, h.2.2.1.there hal hh, h.2.2.2⟩) (fun r U U' V V' h1 hal h2 h => XT.PureE.mv r U U' V V' h1 hal h2 h) ?_
  intro p e s m args below meth c s₁ X0 hexec hbytes hml hret hlk hnm hown hh0 W hP
  obtain ⟨rfl, hx, s1, hz⟩ := hP
  have v31 := hx.2.2.2.1.2.2.2
  have c1 : Steps p.tables e below (s₁.setTop (entryFrame m #[.ref x] 1)) (s₁.setTop (mkF m 1 #[.val (.ref x)] [.ref x])) := Steps.trans (entry rfl) (by
    show Steps p.tables e below (s₁.setTop (mkF m 0 #[.val (.ref x)] [])) _
    refine XS.aloadN X0.here hexec rfl (hb hbytes d0) rfl rfl ?_
    exact Steps.refl _)
  obtain ⟨T2, X2, q2, st2⟩ := X0.hget hexec hown (wk W (.fieldLink "java/lang/String" 9 "java/lang/String" "value" "[B")) (hx.mv X0.warmed.alike hh0).2.1 (g := (mkF m 1 #[.val (.ref x)] [.ref x])) rfl (rest := []) rfl (hb hbytes d1)
  have hh2 := q2.trans hh0
  have hx2 := hx.mv X2.warmed.alike hh2
  have c3 : Steps p.tables e below (s₁.setTop (entryFrame m #[.ref x] 1)) (T2.setTop (mkF m 6 #[.val (.ref x)] [.ref x, .int (Int32.ofNat V.slots.size)])) := (c1.trans (st2 _ (Steps.refl _))).trans (by
    refine X2.alen hexec hx2.2.2.2.1 rfl rfl (hb hbytes d4) ?_
    refine XS.aloadN X2.here hexec rfl (hb hbytes d5) rfl rfl ?_
    exact Steps.refl _)
  obtain ⟨v4, T4, X4, E4, g4⟩ := X2.callV hexec (Cdr.law l x cd z) hown (wks W (virtW "java/lang/String" 335 "java/lang/String" Cdr.yN Cdr.yN)) rfl (by decide) (wk W Cdr.tab) (W := 1) (Nat.le_of_ble_eq_true rfl) (Nat.le_of_ble_eq_true rfl) (Nat.le_refl _) (Nat.le_refl _) (hx2.1.fc X2.warmed.alike) hx2.1.is (g := (mkF m 6 #[.val (.ref x)] [.ref x, .int (Int32.ofNat V.slots.size)])) rfl (by rw [hml]; rfl) c3 (argsL := []) (rest := [.int (Int32.ofNat V.slots.size)]) rfl rfl (by show 2 * 0 + (1 + 0) ≤ _; decide) (hb hbytes d6) (⟨rfl, hx2.2.2.1, hx.2.2.2.2.1.cd, s1.there X2.warmed.alike hh2, hz⟩)
  obtain ⟨rfl, q4⟩ := E4
  have c5 : Steps p.tables e below (s₁.setTop (entryFrame m #[.ref x] 1)) (T4.setTop (mkF m 10 #[.val (.ref x)] [.int (Int32.ofNat V.slots.size >>> (cd &&& 31))])) := Steps.trans g4 (by
    refine ishr X4.here hexec rfl (hb hbytes d9) rfl ?_
    exact Steps.refl _)
  rw [hx.2.2.2.2.1.len v31] at c5
  exact ⟨T4, some (.int (Int32.ofNat n)), _, _, _, X4, rfl, rfl, rfl, (fun h => by cases h), ⟨rfl, q4.trans hh2⟩, fun fs hl => c5.trans (X4.ireturnOut hexec hret rfl (Or.inl rfl) (hb hbytes d10) hl)⟩
theorem pays {l : Launch} {R : Room} {p : Program} {e : Env} {below : List Frame} {s : State} {sargs : Array Value} {len W : Nat} (x t : Addr) (V : Cell) (cd : Int32) (n : Nat) (f : Nat → Int32) (z : Int32) (htab : tab.before sargs s = true) (hfr : 2 ≤ R.frames) (hlo : W + 25 ≤ R.locals) :
    Back l R p e below s sargs yN len W (fun A₁ a₁ => A₁.cells + 0 ≤ R.cells ∧ A₁.slots + 0 ≤ R.slots ∧ P x t V cd n f z a₁ A₁.U) (fun A₁ _ v₁ B₁ => E n v₁ A₁.U B₁.U ∧ B₁.locs = A₁.locs ++ [] ∧ B₁.cells = A₁.cells + 0 ∧ B₁.slots = A₁.slots + 0) :=
  (law l x t V cd n f z).pays htab hfr (by omega)
end Len
namespace IsL
def yN : MethodName := ⟨"java/lang/String", "isLatin1", "()Z"⟩
abbrev yB : ByteArray := jdk_42_method_154_code
theorem d0 : decode yB 0 = .ok (.getstatic 38, 3) := by decide +kernel
theorem d3 : decode yB 3 = .ok (.ifCond (.eq) 14, 3) := by decide +kernel
theorem d6 : decode yB 6 = .ok (.aload_n 0, 1) := by decide +kernel
theorem d7 : decode yB 7 = .ok (.getfield 15, 3) := by decide +kernel
theorem d10 : decode yB 10 = .ok (.ifCond (.ne) 7, 3) := by decide +kernel
theorem d13 : decode yB 13 = .ok (.iconst 1, 1) := by decide +kernel
theorem d14 : decode yB 14 = .ok (.goto 4, 3) := by decide +kernel
theorem d17 : decode yB 17 = .ok (.iconst 0, 1) := by decide +kernel
theorem d18 : decode yB 18 = .ok (.ireturn, 1) := by decide +kernel
def site : List Cond := [.fieldLink "java/lang/String" 38 "java/lang/String" "COMPACT_STRINGS" "Z", .fieldLink "java/lang/String" 15 "java/lang/String" "coder" "B"]
def tab : Cond := tabOf yN yB 1 (some .boolean) site
def P (x : Addr) (cd z : Int32) (args : Array Value) (s : State) : Prop := args = #[.ref x] ∧ Has x "java/lang/String" "coder" "B" (.int cd) s ∧ (cd = 0 ∨ cd = 1) ∧ StaticIs s "java/lang/String" "COMPACT_STRINGS" "Z" (.int z) ∧ ¬ z = 0
def E (cd : Int32) (r : Option Value) (s u : State) : Prop := XT.PureE (some (.int (1 - cd))) r s u
theorem law (l : Launch) (x : Addr) (cd z : Int32) : Law l yN 1 0 0 0 yB 1 (some .boolean) site (P x cd z) (E cd) [] 0 0 := by
  refine Law.of_walk (plainFor_of_name (by decide +kernel)) (by decide +kernel) (by decide +kernel) (by decide) (fun _ _ h => by rw [h.1]; rfl) (fun _ U U' hal hh h => ⟨h.1, h.2.1.mv hal hh, h.2.2.1, h.2.2.2.1.there hal hh, h.2.2.2.2⟩) (fun r U U' V V' h1 hal h2 h => XT.PureE.mv r U U' V V' h1 hal h2 h) ?_
  intro p e s m args below meth c s₁ X0 hexec hbytes hml hret hlk hnm hown hh0 W hP
  obtain ⟨rfl, hx, hc, s1, hz⟩ := hP
  have c1 : Steps p.tables e below (s₁.setTop (entryFrame m #[.ref x] 1)) (s₁.setTop (mkF m 0 #[.val (.ref x)] [])) := entry rfl
  obtain ⟨T2, X2, q2, st2⟩ := X0.sget hexec hown (wk W (.fieldLink "java/lang/String" 38 "java/lang/String" "COMPACT_STRINGS" "Z")) s1 (fun _ _ h => by rw [hh0]; exact h) (g := (mkF m 0 #[.val (.ref x)] [])) rfl (hb hbytes d0)
  have hh2 := q2.trans hh0
  have c3 : Steps p.tables e below (s₁.setTop (entryFrame m #[.ref x] 1)) (T2.setTop (mkF m 7 #[.val (.ref x)] [.ref x])) := (c1.trans (st2 _ (Steps.refl _))).trans (by
    refine XS.ifNo X2.here hexec rfl (hb hbytes d3) rfl (i0_eq_f hz) ?_
    refine XS.aloadN X2.here hexec rfl (hb hbytes d6) rfl rfl ?_
    exact Steps.refl _)
  obtain ⟨T4, X4, q4, st4⟩ := X2.hget hexec hown (wk W (.fieldLink "java/lang/String" 15 "java/lang/String" "coder" "B")) (hx.mv X2.warmed.alike hh2) (g := (mkF m 7 #[.val (.ref x)] [.ref x])) rfl (rest := []) rfl (hb hbytes d7)
  have c5 : Steps p.tables e below (s₁.setTop (entryFrame m #[.ref x] 1)) (T4.setTop (mkF m 10 #[.val (.ref x)] [.int cd])) := c3.trans (st4 _ (Steps.refl _))
  have c6 : Steps p.tables e below (s₁.setTop (entryFrame m #[.ref x] 1)) (T4.setTop (mkF m 18 #[.val (.ref x)] [.int (1 - cd)])) := by
    rcases hc with rfl | rfl
    · exact c5.trans (by
        refine XS.ifNo X4.here hexec rfl (hb hbytes d10) rfl (i0_ne_f rfl) ?_
        refine iconstV X4.here hexec rfl 1 (hb hbytes d13) (by decide) ?_
        refine XS.goto X4.here hexec rfl (pc0 := 14) rfl (hb hbytes d14) (by decide) rfl ?_
        exact Steps.refl _)
    · exact c5.trans (by
        refine XS.ifYes X4.here hexec rfl (pc0 := 10) rfl (hb hbytes d10) rfl (i0_ne_t (by decide)) (by decide) rfl ?_
        refine iconstV X4.here hexec rfl 0 (hb hbytes d17) (by decide) ?_
        exact Steps.refl _)
  exact ⟨T4, some (.int (1 - cd)), _, _, _, X4, rfl, rfl, rfl, (fun h => by cases h), ⟨rfl, q4.trans hh2⟩, fun fs hl => c6.trans (X4.ireturnOut hexec hret (by rcases hc with rfl | rfl <;> rfl) (Or.inr (Or.inl rfl)) (hb hbytes d18) hl)⟩
end IsL
namespace LChA
def yN : MethodName := ⟨"java/lang/StringLatin1", "charAt", "([BI)C"⟩
abbrev yB : ByteArray := jdk_43_method_2_code
theorem d0 : decode yB 0 = .ok (.iload_n 1, 1) := by decide +kernel
theorem d1 : decode yB 1 = .ok (.aload_n 0, 1) := by decide +kernel
theorem d2 : decode yB 2 = .ok (.arraylength, 1) := by decide +kernel
theorem d3 : decode yB 3 = .ok (.invokestatic 9, 3) := by decide +kernel
theorem d6 : decode yB 6 = .ok (.aload_n 0, 1) := by decide +kernel
theorem d7 : decode yB 7 = .ok (.iload_n 1, 1) := by decide +kernel
theorem d8 : decode yB 8 = .ok (.baload, 1) := by decide +kernel
theorem d9 : decode yB 9 = .ok (.sipush 255, 3) := by decide +kernel
theorem d12 : decode yB 12 = .ok (.iand, 1) := by decide +kernel
theorem d13 : decode yB 13 = .ok (.i2c, 1) := by decide +kernel
theorem d14 : decode yB 14 = .ok (.ireturn, 1) := by decide +kernel
def site : List Cond := [JO.Str_checkIndex.tab] ++ staticW "java/lang/StringLatin1" 9 JO.Str_checkIndex.yN
def tab : Cond := tabOf yN yB 2 (some .char) site
def P (t : Addr) (V : Cell) (i : Nat) (u : Int32) (fm : Value) (args : Array Value) (s : State) : Prop := args = #[.ref t, .int (Int32.ofNat i)] ∧ XT.Arr .byte t V s ∧ V.slots[i]? = some (.int u) ∧ (StaticIs s "jdk/internal/util/Preconditions" "SIOOBE_FORMATTER" "Ljava/util/function/BiFunction;" fm ∧ fm.isRef = true)
def E (u : Int32) (r : Option Value) (s w : State) : Prop := XT.PureE (some (.int (chr8 u))) r s w
theorem law (l : Launch) (t : Addr) (V : Cell) (i : Nat) (u : Int32) (fm : Value) : Law l yN 2 2 2 27 yB 2 (some .char) site (P t V i u fm) (E u) [] 0 0 := by
  refine Law.of_walk (plainFor_of_name (by decide +kernel)) (by decide +kernel) (by decide +kernel) (by decide) (fun _ _ h => by rw [h.1]; rfl) (fun _ U U' hal hh h => ⟨h.1, h.2.1.mv hal hh, h.2.2.1, h.2.2.2.1.there hal hh, h.2.2.2.2⟩) (fun r U U' V V' h1 hal h2 h => XT.PureE.mv r U U' V V' h1 hal h2 h) ?_
  intro p e s m args below meth c s₁ X0 hexec hbytes hml hret hlk hnm hown hh0 W hP
  obtain ⟨rfl, hV, hu, s1, rf⟩ := hP
  have v31 := hV.2.2.2
  have hi : i < V.slots.size := (Array.getElem?_eq_some_iff.mp hu).1
  have c1 : Steps p.tables e below (s₁.setTop (entryFrame m #[.ref t, .int (Int32.ofNat i)] 2)) (s₁.setTop (mkF m 0 #[.val (.ref t), .val (.int (Int32.ofNat i))] [])) := entry rfl
  have c2 : Steps p.tables e below (s₁.setTop (entryFrame m #[.ref t, .int (Int32.ofNat i)] 2)) (s₁.setTop (mkF m 3 #[.val (.ref t), .val (.int (Int32.ofNat i))] [.int (Int32.ofNat V.slots.size), .int (Int32.ofNat i)])) := c1.trans (by
    refine XS.iloadN X0.here hexec rfl (hb hbytes d0) rfl ?_
    refine XS.aloadN X0.here hexec rfl (hb hbytes d1) rfl rfl ?_
    refine X0.alen hexec (hV.mv X0.warmed.alike hh0) rfl rfl (hb hbytes d2) ?_
    exact Steps.refl _)
  obtain ⟨v3, T3, X3, E3, g3⟩ := X0.callS hexec (JO.Str_checkIndex.law l (Int32.ofNat i) (Int32.ofNat V.slots.size) fm) hown (wks W (staticW "java/lang/StringLatin1" 9 JO.Str_checkIndex.yN)) (wk W JO.Str_checkIndex.tab) (W := 0) (Nat.le_of_ble_eq_true rfl) (Nat.le_of_ble_eq_true rfl) (Nat.le_refl _) (Nat.le_refl _) (g := (mkF m 3 #[.val (.ref t), .val (.int (Int32.ofNat i))] [.int (Int32.ofNat V.slots.size), .int (Int32.ofNat i)])) rfl (by rw [hml]; rfl) c2 (argsL := [.int (Int32.ofNat i), .int (Int32.ofNat V.slots.size)]) (rest := []) rfl rfl (by show 2 * 0 + 0 ≤ _; decide) (hb hbytes d3) (⟨rfl, rf, s1.there X0.warmed.alike hh0, Int32.ofNat_not_neg (by omega), lt32 v31 hi⟩)
  obtain ⟨rfl, q3⟩ := E3
  have hh3 := q3.trans hh0
  have c4 : Steps p.tables e below (s₁.setTop (entryFrame m #[.ref t, .int (Int32.ofNat i)] 2)) (T3.setTop (mkF m 14 #[.val (.ref t), .val (.int (Int32.ofNat i))] [.int (chr8 u)])) := Steps.trans g3 (by
    refine XS.aloadN X3.here hexec rfl (hb hbytes d6) rfl rfl ?_
    refine XS.iloadN X3.here hexec rfl (hb hbytes d7) rfl ?_
    refine X3.aget hexec (hV.mv X3.warmed.alike hh3) rfl hu rfl rfl (hb hbytes d8) ?_
    refine sipushV X3.here hexec rfl 255 (hb hbytes d9) (by decide) ?_
    refine XS.iand X3.here hexec rfl (hb hbytes d12) rfl ?_
    refine i2c X3.here hexec rfl (hb hbytes d13) rfl ?_
    exact Steps.refl _)
  exact ⟨T3, some (.int (chr8 u)), _, _, _, X3, rfl, rfl, rfl, (fun h => by cases h), ⟨rfl, hh3⟩, fun fs hl => c4.trans (X3.ireturnOut hexec hret (narrow_c _) (Or.inr (Or.inr (Or.inr (Or.inl rfl)))) (hb hbytes d14) hl)⟩
end LChA
end StrChars
namespace StrChars.Road
open Jvm Sem ClassFile Op Lib Jvm.Stand Jvm.Free Jvm.Free.XT
open Jvm.Lib.Cold (StaticIs)
theorem consq {a : Array Value} {s : State} {c : Jvm.Cond} {L : List Jvm.Cond} (h0 : c.before a s = true) (h : ∀ w ∈ L, w.before a s = true) : ∀ w ∈ c :: L, w.before a s = true := fun w hw => (List.mem_cons.mp hw).elim (fun e => e ▸ h0) (h w)
/-- the words of String.length(), either coding -/
abbrev wordsLen : List Jvm.Cond := [.code Len.yN Len.yB 1 (some .int), .initialized ST, .fieldLink ST 9 ST "value" "[B", .fieldLink ST 38 ST "COMPACT_STRINGS" "Z", .fieldLink ST 15 ST "coder" "B", .code Cdr.yN Cdr.yB 1 (some .byte), .methodLink ST 335 Cdr.yN, .declares Cdr.yN, .selects ST Cdr.yN Cdr.yN, .instanceMethod Cdr.yN]
theorem tabLen_of {a : Array Value} {s : State} (h : ∀ w ∈ wordsLen, w.before a s = true) : Len.tab.before a s = true := by
  have hc : Cdr.tab.before a s = true := unparts (wk h (.code Cdr.yN Cdr.yB 1 (some .byte))) (wks h (.initialized Cdr.yN.cls :: Cdr.site))
  have q := consq hc h
  exact unparts (wk q (.code Len.yN Len.yB 1 (some .int))) (wks q (.initialized Len.yN.cls :: Len.site))
theorem movedLen {Z s : State} {a0 args : Array Value} (hZ : Z.Warmed39 s.vm) (hw : ∀ d ∈ wordsLen, d.before a0 Z = true) : ∀ d ∈ wordsLen, d.before args s = true := fun d hd => by
  have q := hw d hd
  have t : ∀ d ∈ wordsLen, d = .arrayClass .byte ∨ (d.onTables && d.keepsFace) = true := by decide +kernel
  rcases t d hd with rfl | t
  · exact RoadKit.mvA hZ q
  · exact RoadKit.mv hZ q t
/-- the bytes of the chars cs, low before high -/
def wideBytes : List Int32 → List Value
  | [] => []
  | c :: cs => .int (lo8 c) :: .int (hi8 c) :: wideBytes cs
theorem wide_lo (d : Value) : ∀ (cs : List Int32) (j : Nat), j < cs.length → (wideBytes cs).getD (2 * j) d = .int (lo8 (cs.getD j 0))
  | [], j, h => absurd h (Nat.not_lt_zero j)
  | c :: cs, 0, _ => rfl
  | c :: cs, j + 1, h => by
    have q := wide_lo d cs j (by simpa using h)
    rw [show 2 * (j + 1) = 2 * j + 1 + 1 from by omega]
    simpa [wideBytes] using q
theorem wide_hi (d : Value) : ∀ (cs : List Int32) (j : Nat), j < cs.length → (wideBytes cs).getD (2 * j + 1) d = .int (hi8 (cs.getD j 0))
  | [], j, h => absurd h (Nat.not_lt_zero j)
  | c :: cs, 0, _ => rfl
  | c :: cs, j + 1, h => by
    have q := wide_hi d cs j (by simpa using h)
    rw [show 2 * (j + 1) + 1 = 2 * j + 1 + 1 + 1 from by omega]
    simpa [wideBytes] using q
theorem low_at (d : Value) (cs : List Int32) (j : Nat) (h : j < cs.length) : (cs.map fun c => Value.int (lo8 c)).getD j d = .int (lo8 (cs.getD j 0)) := by
  simp [List.getD_eq_getElem?_getD, h]
/-- an array of N2 bytes vs codes the chars cs by the coder cd -/
def CodA (cs : List Int32) (cd N2 : Int32) (vs : List Value) : Prop := (cd = 0 ∧ N2 = Int32.ofNat cs.length ∧ vs = (cs.map fun c => Value.int (lo8 c)) ∧ ∀ c ∈ cs, ¬ 255 < c) ∨ (cd = 1 ∧ N2 = Int32.ofNat (2 * cs.length) ∧ vs = wideBytes cs ∧ ∃ c ∈ cs, 255 < c)
theorem CodA.cod {cs : List Int32} {cd N2 : Int32} {vs : List Value} {V : Cell} (h : CodA cs cd N2 vs) (hn : 2 * cs.length < 2 ^ 31) (hs : V.slots.size = N2.toNatClampNeg) (hv : RoadKit.Has V vs (.int 0)) : Cod cd cs.length (fun j => cs.getD j 0) V := by
  rcases h with ⟨rfl, rfl, rfl, h⟩ | ⟨rfl, rfl, rfl, c, hc, hw⟩
  · rw [n32 (by omega)] at hs
    exact Or.inl ⟨rfl, hs, fun j hj => ⟨by rw [hv j (by omega), low_at _ _ _ hj], by
      have e : cs.getD j 0 = cs[j] := by simp [List.getD_eq_getElem?_getD, hj]
      show ¬ 255 < cs.getD j 0
      rw [e]; exact h _ (List.getElem_mem _)⟩⟩
  · rw [n32 (by omega)] at hs
    obtain ⟨j, hj, rfl⟩ := List.getElem_of_mem hc
    exact Or.inr ⟨rfl, hs, fun j hj => ⟨by rw [hv _ (by omega), wide_lo _ _ _ hj], by rw [hv _ (by omega), wide_hi _ _ _ hj]⟩, j, hj, by
      have e : cs.getD j 0 = cs[j] := by simp [List.getD_eq_getElem?_getD, hj]
      show 255 < cs.getD j 0
      rw [e]; exact hw⟩
/-- an object of exactly java/lang/String, its two fields found: as the laws ask it -/
theorem strObj {Z U : State} {a0 : Array Value} {kI : Nat} (wi : (Jvm.Cond.instantiable ST kI).before a0 Z = true) (al : Z.vm.Alike U.vm) {x : Addr} {v0 c0 : Value} (E : RoadKit.Exa Z U.heap x ST) (V : RoadKit.Fld Z U.heap x ST "value" "[B" v0) (C : RoadKit.Fld Z U.heap x ST "coder" "B" c0) :
    ∃ (D : Cell) (fV fC : Field), Blank ST x D U ∧ Found ST "value" "[B" fV U ∧ Found ST "coder" "B" fC U ∧ D.slots[fV.slot]? = some v0 ∧ D.slots[fC.slot]? = some c0 ∧ RoadKit.slotOf Z ST "value" "[B" = fV.slot ∧ RoadKit.slotOf Z ST "coder" "B" = fC.slot := by
  obtain ⟨D, cfV, kV, iV, fV, hD, gV, stV, knV, obV, asV, slV⟩ := V
  obtain ⟨D', cfC, kC, iC, fC, hD', gC, stC, -, -, asC, slC⟩ := C
  cases hD.symm.trans hD'
  obtain ⟨D2, kD, e1, e2, e3, e4, e5⟩ := E
  cases hD.symm.trans e1
  obtain ⟨c2, k2, i1, i2, i3, -⟩ := Cond.instantiable_spec wi
  cases e2.symm.trans i1
  cases e3.symm.trans i2
  obtain ⟨kU, u1, u2⟩ := al.2.2 _ _ e3
  exact ⟨D, fV, fC, ⟨hD, ⟨knV, fun q hq => by rw [hq] at obV; cases obV⟩, by rw [al.findClass]; exact e2, kU, u1, by rw [u2]; exact i3, by rw [u2]; exact e5 i3⟩, ⟨SBG.found_only al ⟨cfV, kV, iV, gV⟩, stV⟩, ⟨SBG.found_only al ⟨cfC, kC, iC, gC⟩, stC⟩, slV, slC, by simp [RoadKit.slotOf, gV], by simp [RoadKit.slotOf, gC]⟩
theorem sta_is {Z U : State} (al : Z.vm.Alike U.vm) {C n d : String} {v : Value} (S : RoadKit.Sta Z U.heap C n d v) : StaticIs U C n d v := by
  obtain ⟨cfS, iS, kS, fS, st, cS, t1, t2, t3, t4, t5, t6, t7⟩ := S
  exact StaticIs.there (s := { Z with heap := U.heap }) ⟨cfS, iS, kS, fS, st, cS, t1, t2, t3, t4, t5, (fun q => by rw [q] at t6; cases t6), t7⟩ al rfl
/-- **length() OF SUCH A STRING** -/
theorem lenW {p : Program} {l : Launch} {e : Env} {R : Room} {s : State} {args : Array Value} {below : List Frame} {len W : Nat} {Z : State} {a0 : Array Value} {h : Heap} (hZ : Z.Warmed39 s.vm) (hw : ∀ d ∈ wordsLen, d.before a0 Z = true) {kI : Nat} (wi : (Jvm.Cond.instantiable ST kI).before a0 Z = true)
    {x t : Addr} {kb : ClassId} {cs : List Int32} {cd N2 z : Int32} {vs : List Value} (E : RoadKit.Exa Z h x ST) (V : RoadKit.Fld Z h x ST "value" "[B" (.ref t)) (C : RoadKit.Fld Z h x ST "coder" "B" (.int cd)) (K : RoadKit.Arv Z h t kb .byte N2 vs (.int 0)) (hc : CodA cs cd N2 vs) (hb : ∀ c ∈ cs, ¬ c < 0 ∧ ¬ (65535 : Int32) < c)
    (S : RoadKit.Sta Z h ST "COMPACT_STRINGS" "Z" (.int z)) (hz : ¬ z = 0) (l2 : cs.length ≤ 4000) (hfr : 2 ≤ R.frames) (hlo : W + 25 ≤ R.locals) :
    Back l R p e below s args (⟨"java/lang/String", "length", "()I"⟩ : MethodName) len W (fun P a => a = #[.ref x] ∧ P.U.heap = h ∧ P.cells + 0 ≤ R.cells ∧ P.slots + 0 ≤ R.slots)
      (fun P _ v B => ∃ L, (v = some (.int (Int32.ofNat cs.length)) ∧ L = [] ∧ B.U.heap = h) ∧ B.locs = P.locs ++ L ∧ B.cells = P.cells + 0 ∧ B.slots = P.slots + 0) := by
  obtain ⟨A, K1, K2, K3, K4, K5, K6⟩ := K
  have hcod := hc.cod (by omega) K3 K5
  intro m meth c P g ig mk a X hg hsize hdg hW hn hp'
  obtain ⟨rfl, rfl, r1, r2⟩ := hp'
  have al : Z.vm.Alike P.U.vm := hZ.alike.trans X.warmed.alike
  obtain ⟨D, fV, fC, hB, F1, F2, g1, g2, -, -⟩ := strObj wi al E V C
  have hx : Txt x t A cd cs.length (fun j => cs.getD j 0) P.U := ⟨⟨_, hB.2.2.1, D, hB.1, rfl, by cases q : D.vm <;> first | rfl | exact absurd q (hB.2.1.2 _)⟩, Has.of hB F1 g1, Has.of hB F2 g2, ⟨K1.1, State.isArrayOf_alike al K1.2.1, K1.2.2, by rcases hcod with ⟨-, q, -⟩ | ⟨-, q, -⟩ <;> omega⟩, hcod, fun j hj => by
    have e : cs.getD j 0 = cs[j] := by simp [List.getD_eq_getElem?_getD, hj]
    show ¬ cs.getD j 0 < 0 ∧ ¬ 65535 < cs.getD j 0
    rw [e]; exact hb _ (List.getElem_mem _)⟩
  obtain ⟨v, B, X', ⟨⟨hv, hh⟩, hl, hk, hs⟩, st⟩ := Len.pays x t A cd cs.length (fun j => cs.getD j 0) z (tabLen_of (movedLen hZ hw)) hfr hlo m meth c P g ig mk _ X hg hsize hdg hW hn ⟨r1, r2, rfl, hx, sta_is al S, hz⟩
  exact ⟨v, B, X', ⟨[], ⟨hv, rfl, hh⟩, hl, hk, hs⟩, st⟩
end StrChars.Road
namespace StrChars
open Jvm Sem ClassFile Op Lib Jvm.Stand Jvm.Free.XT Jvm.Free.ALB Jvm.Free.JM Jvm.Free
open Jvm.Lib.Cold (StaticIs)
/-- what place i of a byte[]'s cell holds -/
def yv (A : Cell) (i : Nat) : Int32 := match A.slots[i]? with | some (.int x) => x | _ => 0
theorem yv_get {a : Addr} {A : Cell} {U : State} (h : XT.Arr .byte a A U) (ht : Typed .byte A) {i : Nat} (hi : i < A.slots.size) : A.slots[i]? = some (.int (yv A i)) := by
  have e := Array.getElem?_eq_getElem hi
  have f := ht i _ e
  unfold yv; rw [e]
  generalize A.slots[i] = v at f
  cases v <;> simp [fits] at f ⊢
/-- the two arrays are equal, place for place -/
def EqC (A B : Cell) : Prop := A.slots.size = B.slots.size ∧ ∀ i, i < A.slots.size → yv A i = yv B i
/-- a boolean that says whether p -/
def Says01 (q : Prop) (r : Option Value) (s u : State) : Prop := ∃ v : Int32, r = some (.int v) ∧ u.heap = s.heap ∧ ((v = 1 ∧ q) ∨ (v = 0 ∧ ¬ q))
theorem Says01.mv {q : Prop} : ∀ r (U U' V V' : State), U'.heap = U.heap → V.vm.Alike V'.vm → V'.heap = V.heap → Says01 q r U V → Says01 q r U' V' :=
  fun r U U' V V' h1 _ h2 ⟨v, a, b, c⟩ => ⟨v, a, by rw [h1, h2]; exact b, c⟩
namespace LEq
def yN : MethodName := ⟨"java/lang/StringLatin1", "equals", "([B[B)Z"⟩
abbrev yB : ByteArray := jdk_43_method_13_code
theorem d0 : decode yB 0 = .ok (.aload_n 0, 1) := by decide +kernel
theorem d1 : decode yB 1 = .ok (.arraylength, 1) := by decide +kernel
theorem d2 : decode yB 2 = .ok (.aload_n 1, 1) := by decide +kernel
theorem d3 : decode yB 3 = .ok (.arraylength, 1) := by decide +kernel
theorem d4 : decode yB 4 = .ok (.if_icmp (.ne) 30, 3) := by decide +kernel
theorem d7 : decode yB 7 = .ok (.iconst 0, 1) := by decide +kernel
theorem d8 : decode yB 8 = .ok (.istore_n 2, 1) := by decide +kernel
theorem d9 : decode yB 9 = .ok (.iload_n 2, 1) := by decide +kernel
theorem d10 : decode yB 10 = .ok (.aload_n 0, 1) := by decide +kernel
theorem d11 : decode yB 11 = .ok (.arraylength, 1) := by decide +kernel
theorem d12 : decode yB 12 = .ok (.if_icmp (.ge) 20, 3) := by decide +kernel
theorem d15 : decode yB 15 = .ok (.aload_n 0, 1) := by decide +kernel
theorem d16 : decode yB 16 = .ok (.iload_n 2, 1) := by decide +kernel
theorem d17 : decode yB 17 = .ok (.baload, 1) := by decide +kernel
theorem d18 : decode yB 18 = .ok (.aload_n 1, 1) := by decide +kernel
theorem d19 : decode yB 19 = .ok (.iload_n 2, 1) := by decide +kernel
theorem d20 : decode yB 20 = .ok (.baload, 1) := by decide +kernel
theorem d21 : decode yB 21 = .ok (.if_icmp (.eq) 5, 3) := by decide +kernel
theorem d24 : decode yB 24 = .ok (.iconst 0, 1) := by decide +kernel
theorem d25 : decode yB 25 = .ok (.ireturn, 1) := by decide +kernel
theorem d26 : decode yB 26 = .ok (.iinc 2 1, 3) := by decide +kernel
theorem d29 : decode yB 29 = .ok (.goto (-20), 3) := by decide +kernel
theorem d32 : decode yB 32 = .ok (.iconst 1, 1) := by decide +kernel
theorem d33 : decode yB 33 = .ok (.ireturn, 1) := by decide +kernel
theorem d34 : decode yB 34 = .ok (.iconst 0, 1) := by decide +kernel
theorem d35 : decode yB 35 = .ok (.ireturn, 1) := by decide +kernel
def site : List Cond := []
def tab : Cond := tabOf yN yB 3 (some .boolean) site
def P (a : Addr) (A : Cell) (b : Addr) (B : Cell) (args : Array Value) (s : State) : Prop := args = #[.ref a, .ref b] ∧ XT.Arr .byte a A s ∧ Typed .byte A ∧ XT.Arr .byte b B s ∧ Typed .byte B
/-- whether two byte[] are equal, place for place -/
theorem law (l : Launch) (a : Addr) (A : Cell) (b : Addr) (B : Cell) : Law l yN 2 2 0 0 yB 3 (some .boolean) site (P a A b B) (Says01 (EqC A B)) [] 0 0 := by
  refine Law.of_walk (plainFor_of_name (by decide +kernel)) (by decide +kernel) (by decide +kernel) (by decide) (fun _ _ h => by rw [h.1]; rfl) (fun _ U U' hal hh h => ⟨h.1, h.2.1.mv hal hh, h.2.2.1, h.2.2.2.1.mv hal hh, h.2.2.2.2⟩) (fun r U U' V V' h1 hal h2 h => Says01.mv r U U' V V' h1 hal h2 h) ?_
  intro p e s m args below meth c s₁ X0 hexec hbytes hml hret hlk hnm hown hh0 W hP
  obtain ⟨rfl, hA, tA, hB, tB⟩ := hP
  have a31 := hA.2.2.2
  have b31 := hB.2.2.2
  have hA0 := hA.mv X0.warmed.alike hh0
  have hB0 := hB.mv X0.warmed.alike hh0
  have c1 : Steps p.tables e below (s₁.setTop (entryFrame m #[.ref a, .ref b] 3)) (s₁.setTop (mkF m 0 #[.val (.ref a), .val (.ref b), .unset] [])) := entry rfl
  have c2 : Steps p.tables e below (s₁.setTop (entryFrame m #[.ref a, .ref b] 3)) (s₁.setTop (mkF m 4 #[.val (.ref a), .val (.ref b), .unset] [.int (Int32.ofNat B.slots.size), .int (Int32.ofNat A.slots.size)])) := c1.trans (by
    refine XS.aloadN X0.here hexec rfl (hb hbytes d0) rfl rfl ?_
    refine X0.alen hexec hA0 rfl rfl (hb hbytes d1) ?_
    refine XS.aloadN X0.here hexec rfl (hb hbytes d2) rfl rfl ?_
    refine X0.alen hexec hB0 rfl rfl (hb hbytes d3) ?_
    exact Steps.refl _)
  by_cases hs : A.slots.size = B.slots.size
  · have c3 : Steps p.tables e below (s₁.setTop (entryFrame m #[.ref a, .ref b] 3)) (s₁.setTop (mkF m 9 #[.val (.ref a), .val (.ref b), .val (.int 0)] [])) := c2.trans (by
      refine XS.icmpNo X0.here hexec rfl (hb hbytes d4) rfl (ii_ne_f (by rw [hs])) ?_
      refine iconstV X0.here hexec rfl 0 (hb hbytes d7) (by decide) ?_
      refine XS.istoreN X0.here hexec rfl (hb hbytes d8) rfl rfl ?_
      exact Steps.refl _)
    have loop : ∀ (r i : Nat), i + r = A.slots.size → (∀ j, j < i → yv A j = yv B j) → Steps p.tables e below (s₁.setTop (entryFrame m #[.ref a, .ref b] 3)) (s₁.setTop (mkF m 9 #[.val (.ref a), .val (.ref b), .val (.int (Int32.ofNat i))] [])) → ∃ (pc : Nat) (Ls : Array Slot) (v : Int32), (pc = 25 ∨ pc = 33) ∧ ((v = 1 ∧ EqC A B) ∨ (v = 0 ∧ ¬ EqC A B)) ∧ Steps p.tables e below (s₁.setTop (entryFrame m #[.ref a, .ref b] 3)) (s₁.setTop (mkF m pc Ls [.int v])) := by
      intro r
      induction r with
      | zero =>
        intro i hi he cl
        exact ⟨33, _, 1, Or.inr rfl, Or.inl ⟨rfl, hs, fun j hj => he j (by omega)⟩, cl.trans (by
          refine XS.iloadN X0.here hexec rfl (hb hbytes d9) rfl ?_
          refine XS.aloadN X0.here hexec rfl (hb hbytes d10) rfl rfl ?_
          refine X0.alen hexec hA0 rfl rfl (hb hbytes d11) ?_
          refine XS.icmpYes X0.here hexec rfl (pc0 := 12) rfl (hb hbytes d12) rfl (ii_ge_t (nlt32 (by omega) (by omega))) (by decide) rfl ?_
          refine iconstV X0.here hexec rfl 1 (hb hbytes d32) (by decide) ?_
          exact Steps.refl _)⟩
      | succ r ih =>
        intro i hi he cl
        have c4 : Steps p.tables e below (s₁.setTop (entryFrame m #[.ref a, .ref b] 3)) (s₁.setTop (mkF m 21 #[.val (.ref a), .val (.ref b), .val (.int (Int32.ofNat i))] [.int (yv B i), .int (yv A i)])) := cl.trans (by
          refine XS.iloadN X0.here hexec rfl (hb hbytes d9) rfl ?_
          refine XS.aloadN X0.here hexec rfl (hb hbytes d10) rfl rfl ?_
          refine X0.alen hexec hA0 rfl rfl (hb hbytes d11) ?_
          refine XS.icmpNo X0.here hexec rfl (hb hbytes d12) rfl (ii_ge_f (lt32 (by omega) (by omega))) ?_
          refine XS.aloadN X0.here hexec rfl (hb hbytes d15) rfl rfl ?_
          refine XS.iloadN X0.here hexec rfl (hb hbytes d16) rfl ?_
          refine X0.aget hexec hA0 rfl (yv_get hA tA (i := i) (by omega)) rfl rfl (hb hbytes d17) ?_
          refine XS.aloadN X0.here hexec rfl (hb hbytes d18) rfl rfl ?_
          refine XS.iloadN X0.here hexec rfl (hb hbytes d19) rfl ?_
          refine X0.aget hexec hB0 rfl (yv_get hB tB (i := i) (by omega)) rfl rfl (hb hbytes d20) ?_
          exact Steps.refl _)
        by_cases hv : yv A i = yv B i
        · have c5 : Steps p.tables e below (s₁.setTop (entryFrame m #[.ref a, .ref b] 3)) (s₁.setTop (mkF m 9 #[.val (.ref a), .val (.ref b), .val (.int (Int32.ofNat i + 1))] [])) := c4.trans (by
            refine XS.icmpYes X0.here hexec rfl (pc0 := 21) rfl (hb hbytes d21) rfl (ii_eq_t hv) (by decide) rfl ?_
            refine iincV X0.here hexec rfl 1 (hb hbytes d26) (by decide) rfl rfl ?_
            refine XS.goto X0.here hexec rfl (pc0 := 29) rfl (hb hbytes d29) (by decide) rfl ?_
            exact Steps.refl _)
          rw [succ32] at c5
          exact ih (i + 1) (by omega) (fun j hj => by
            by_cases e : j = i
            · rw [e]; exact hv
            · exact he j (by omega)) c5
        · exact ⟨25, _, 0, Or.inl rfl, Or.inr ⟨rfl, fun q => hv (q.2 i (by omega))⟩, c4.trans (by
            refine XS.icmpNo X0.here hexec rfl (hb hbytes d21) rfl (ii_eq_f hv) ?_
            refine iconstV X0.here hexec rfl 0 (hb hbytes d24) (by decide) ?_
            exact Steps.refl _)⟩
    obtain ⟨pc, Ls, v, hpc, hv, cz⟩ := loop A.slots.size 0 (by omega) (fun j hj => absurd hj (Nat.not_lt_zero j)) c3
    have nv : narrow .boolean (.int v) = .int v := by rcases hv with ⟨rfl, -⟩ | ⟨rfl, -⟩ <;> rfl
    rcases hpc with rfl | rfl
    · exact ⟨s₁, some (.int v), _, _, _, X0, rfl, rfl, rfl, (fun h => by cases h), ⟨v, rfl, hh0, hv⟩, fun fs hl => cz.trans (X0.ireturnOut hexec hret nv (Or.inr (Or.inl rfl)) (hb hbytes d25) hl)⟩
    · exact ⟨s₁, some (.int v), _, _, _, X0, rfl, rfl, rfl, (fun h => by cases h), ⟨v, rfl, hh0, hv⟩, fun fs hl => cz.trans (X0.ireturnOut hexec hret nv (Or.inr (Or.inl rfl)) (hb hbytes d33) hl)⟩
  · have c3 : Steps p.tables e below (s₁.setTop (entryFrame m #[.ref a, .ref b] 3)) (s₁.setTop (mkF m 35 #[.val (.ref a), .val (.ref b), .unset] [.int 0])) := c2.trans (by
      refine XS.icmpYes X0.here hexec rfl (pc0 := 4) rfl (hb hbytes d4) rfl (ii_ne_t (ne32 a31 b31 hs)) (by decide) rfl ?_
      refine iconstV X0.here hexec rfl 0 (hb hbytes d34) (by decide) ?_
      exact Steps.refl _)
    exact ⟨s₁, some (.int 0), _, _, _, X0, rfl, rfl, rfl, (fun h => by cases h), ⟨0, rfl, hh0, Or.inr ⟨rfl, fun q => hs q.1⟩⟩, fun fs hl => c3.trans (X0.ireturnOut hexec hret rfl (Or.inr (Or.inl rfl)) (hb hbytes d35) hl)⟩
end LEq
theorem Cod.ty {cd : Int32} {n : Nat} {f : Nat → Int32} {V : Cell} (h : Cod cd n f V) : Typed .byte V := fun i v hv => by
  have hi : i < V.slots.size := (Array.getElem?_eq_some_iff.mp hv).1
  rcases h with ⟨-, k1, k2⟩ | ⟨-, k1, k2, -⟩
  · rw [(k2 i (by omega)).1] at hv; cases hv; exact fits_lo8 _
  · rcases Nat.mod_two_eq_zero_or_one i with e | e
    · obtain ⟨j, rfl⟩ : ∃ j, i = 2 * j := ⟨i / 2, by omega⟩
      rw [(k2 j (by omega)).1] at hv; cases hv; exact fits_lo8 _
    · obtain ⟨j, rfl⟩ : ∃ j, i = 2 * j + 1 := ⟨i / 2, by omega⟩
      rw [(k2 j (by omega)).2] at hv; cases hv; exact fits_lo8 _
/-- the same text -/
def SameT (n : Nat) (f : Nat → Int32) (k : Nat) (g : Nat → Int32) : Prop := n = k ∧ ∀ j, j < n → f j = g j
theorem lo8_inj {x y : Int32} (h0 : ¬ x < 0) (h1 : ¬ 255 < x) (k0 : ¬ y < 0) (k1 : ¬ 255 < y) (h : lo8 x = lo8 y) : x = y := by
  rw [← lo8_mask h0 h1, ← lo8_mask k0 k1, h]
/-- arrays coded by one coder are equal just where the texts are -/
theorem Cod.eqv {cd : Int32} {n k : Nat} {f g : Nat → Int32} {V V' : Cell} (h : Cod cd n f V) (h' : Cod cd k g V') (hf : ∀ j, j < n → ¬ f j < 0 ∧ ¬ 65535 < f j) (hg : ∀ j, j < k → ¬ g j < 0 ∧ ¬ 65535 < g j) : EqC V V' ↔ SameT n f k g := by
  have yvv : ∀ {W : Cell} {i : Nat} {x : Int32}, W.slots[i]? = some (.int x) → yv W i = x := fun q => by unfold yv; rw [q]
  rcases h with ⟨rfl, k1, k2⟩ | ⟨rfl, k1, k2, -⟩
  · rcases h' with ⟨-, m1, m2⟩ | ⟨e, -⟩
    · constructor
      · rintro ⟨e1, e2⟩
        refine ⟨by omega, fun j hj => ?_⟩
        have q := e2 j (by omega)
        rw [yvv (k2 j hj).1, yvv (m2 j (by omega)).1] at q
        exact lo8_inj (hf j hj).1 (k2 j hj).2 (hg j (by omega)).1 (m2 j (by omega)).2 q
      · rintro ⟨rfl, e2⟩
        refine ⟨by omega, fun j hj => ?_⟩
        rw [yvv (k2 j (by omega)).1, yvv (m2 j (by omega)).1, e2 j (by omega)]
    · exact absurd e (by decide)
  · rcases h' with ⟨e, -⟩ | ⟨-, m1, m2, -⟩
    · exact absurd e (by decide)
    · constructor
      · rintro ⟨e1, e2⟩
        refine ⟨by omega, fun j hj => ?_⟩
        have q1 := e2 (2 * j) (by omega)
        have q2 := e2 (2 * j + 1) (by omega)
        rw [yvv (k2 j hj).1, yvv (m2 j (by omega)).1] at q1
        rw [yvv (k2 j hj).2, yvv (m2 j (by omega)).2] at q2
        rw [← pair_says (hf j hj).1 (hf j hj).2, ← pair_says (hg j (by omega)).1 (hg j (by omega)).2, q1, q2]
      · rintro ⟨rfl, e2⟩
        refine ⟨by omega, fun i hi => ?_⟩
        rcases Nat.mod_two_eq_zero_or_one i with e | e
        · obtain ⟨j, rfl⟩ : ∃ j, i = 2 * j := ⟨i / 2, by omega⟩
          rw [yvv (k2 j (by omega)).1, yvv (m2 j (by omega)).1, e2 j (by omega)]
        · obtain ⟨j, rfl⟩ : ∃ j, i = 2 * j + 1 := ⟨i / 2, by omega⟩
          rw [yvv (k2 j (by omega)).2, yvv (m2 j (by omega)).2, e2 j (by omega)]
/-- two codings differ: so do the texts -/
theorem Cod.dif {cd cd' : Int32} {n k : Nat} {f g : Nat → Int32} {V V' : Cell} (h : Cod cd n f V) (h' : Cod cd' k g V') (hne : ¬ cd = cd') : ¬ SameT n f k g := by
  rintro ⟨rfl, e⟩
  rcases h with ⟨rfl, -, k2⟩ | ⟨rfl, -, -, j, hj, hw⟩
  · rcases h' with ⟨rfl, -⟩ | ⟨-, -, -, j, hj, hw⟩
    · exact hne rfl
    · exact (k2 j hj).2 (by rw [e j hj]; exact hw)
  · rcases h' with ⟨-, -, m2⟩ | ⟨rfl, -⟩
    · exact (m2 j hj).2 (by rw [← e j hj]; exact hw)
    · exact hne rfl
/-- an object of exactly C is an instance of C -/
theorem cinst {p : Program} {l : Launch} {e : Env} {R : Room} {s : State} {m : MethodId} {args : Array Value} {below : List Frame} {meth : Method} {c : Code} {T : State} {locs : List Loc} {cells slots : Nat} (X : Stand p l e R s m args below meth c T locs cells slots) (hexec : p.tables.exec = Jvm.exec) {own C : String} {index : Nat} (hown : s.vm.findClass own = some m.cls) (hlink : (Cond.classLink own index C).before args s = true) {a : Addr} (hE : Exact C a T)
    {g : JFrame} (hg : g.method = m) {rest : List Value} (hstack : g.stack = .ref a :: rest) (hdg : decode c.code g.pc = .ok (.instanceof index, 3)) :
    ∃ T', Stand p l e R s m args below meth c T' locs cells slots ∧ T'.heap = T.heap ∧ ∀ target, Steps p.tables e below (T'.setTop { g with pc := g.pc + 3, stack := .int 1 :: rest }) target → Steps p.tables e below (T.setTop g) target := by
  obtain ⟨cB, h1, D, h2, h3, h4⟩ := hE
  have h1' : s.vm.findClass C = some cB := by rw [← X.warmed.alike.findClass]; exact h1
  obtain ⟨vm', X', st⟩ := X.instanceofYes hexec hown hlink h2 h4 h1' (by rw [h3]; exact Jvm.Free.SB.assignable_self _ _) hg hstack hdg
  exact ⟨_, X', rfl, st⟩
theorem cself {p : Program} {l : Launch} {e : Env} {R : Room} {s : State} {m : MethodId} {args : Array Value} {below : List Frame} {meth : Method} {c : Code} {T : State} {locs : List Loc} {cells slots : Nat} (X : Stand p l e R s m args below meth c T locs cells slots) (hexec : p.tables.exec = Jvm.exec) {own C : String} {index : Nat} (hown : s.vm.findClass own = some m.cls) (hlink : (Cond.classLink own index C).before args s = true) {a : Addr} (hE : Exact C a T)
    {g : JFrame} (hg : g.method = m) {rest : List Value} (hstack : g.stack = .ref a :: rest) (hdg : decode c.code g.pc = .ok (.checkcast index, 3)) :
    ∃ T', Stand p l e R s m args below meth c T' locs cells slots ∧ T'.heap = T.heap ∧ ∀ target, Steps p.tables e below (T'.setTop { g with pc := g.pc + 3, stack := .ref a :: rest }) target → Steps p.tables e below (T.setTop g) target := by
  obtain ⟨cB, h1, D, h2, h3, h4⟩ := hE
  have h1' : s.vm.findClass C = some cB := by rw [← X.warmed.alike.findClass]; exact h1
  obtain ⟨vm', X', st⟩ := X.checkcastYes hexec hown hlink h2 h4 h1' (by rw [h3]; exact Jvm.Free.SB.assignable_self _ _) hg hstack hdg
  exact ⟨_, X', rfl, fun t h => st t (by rw [← hstack] at h; exact h)⟩
namespace SEq
def yN : MethodName := ⟨"java/lang/String", "equals", "(Ljava/lang/Object;)Z"⟩
abbrev yB : ByteArray := jdk_42_method_66_code
theorem d0 : decode yB 0 = .ok (.aload_n 0, 1) := by decide +kernel
theorem d1 : decode yB 1 = .ok (.aload_n 1, 1) := by decide +kernel
theorem d2 : decode yB 2 = .ok (.if_acmp (.ne) 5, 3) := by decide +kernel
theorem d5 : decode yB 5 = .ok (.iconst 1, 1) := by decide +kernel
theorem d6 : decode yB 6 = .ok (.ireturn, 1) := by decide +kernel
theorem d7 : decode yB 7 = .ok (.aload_n 1, 1) := by decide +kernel
theorem d8 : decode yB 8 = .ok (.instanceof 10, 3) := by decide +kernel
theorem d11 : decode yB 11 = .ok (.ifCond (.eq) 43, 3) := by decide +kernel
theorem d14 : decode yB 14 = .ok (.aload_n 1, 1) := by decide +kernel
theorem d15 : decode yB 15 = .ok (.checkcast 10, 3) := by decide +kernel
theorem d18 : decode yB 18 = .ok (.astore_n 2, 1) := by decide +kernel
theorem d19 : decode yB 19 = .ok (.getstatic 38, 3) := by decide +kernel
theorem d22 : decode yB 22 = .ok (.ifCond (.eq) 14, 3) := by decide +kernel
theorem d25 : decode yB 25 = .ok (.aload_n 0, 1) := by decide +kernel
theorem d26 : decode yB 26 = .ok (.getfield 15, 3) := by decide +kernel
theorem d29 : decode yB 29 = .ok (.aload_n 2, 1) := by decide +kernel
theorem d30 : decode yB 30 = .ok (.getfield 15, 3) := by decide +kernel
theorem d33 : decode yB 33 = .ok (.if_icmp (.ne) 21, 3) := by decide +kernel
theorem d36 : decode yB 36 = .ok (.aload_n 0, 1) := by decide +kernel
theorem d37 : decode yB 37 = .ok (.getfield 9, 3) := by decide +kernel
theorem d40 : decode yB 40 = .ok (.aload_n 2, 1) := by decide +kernel
theorem d41 : decode yB 41 = .ok (.getfield 9, 3) := by decide +kernel
theorem d44 : decode yB 44 = .ok (.invokestatic 541, 3) := by decide +kernel
theorem d47 : decode yB 47 = .ok (.ifCond (.eq) 7, 3) := by decide +kernel
theorem d50 : decode yB 50 = .ok (.iconst 1, 1) := by decide +kernel
theorem d51 : decode yB 51 = .ok (.goto 4, 3) := by decide +kernel
theorem d54 : decode yB 54 = .ok (.iconst 0, 1) := by decide +kernel
theorem d55 : decode yB 55 = .ok (.ireturn, 1) := by decide +kernel
def site : List Cond := [.classLink "java/lang/String" 10 "java/lang/String", .fieldLink "java/lang/String" 38 "java/lang/String" "COMPACT_STRINGS" "Z", .fieldLink "java/lang/String" 15 "java/lang/String" "coder" "B", .fieldLink "java/lang/String" 9 "java/lang/String" "value" "[B", LEq.tab] ++ staticW "java/lang/String" 541 LEq.yN
def tab : Cond := tabOf yN yB 3 (some .boolean) site
def P (x t : Addr) (V : Cell) (cd : Int32) (n : Nat) (f : Nat → Int32) (y t' : Addr) (V' : Cell) (cd' : Int32) (k : Nat) (g : Nat → Int32) (z : Int32) (args : Array Value) (s : State) : Prop := args = #[.ref x, .ref y] ∧ Txt x t V cd n f s ∧ Txt y t' V' cd' k g s ∧ StaticIs s "java/lang/String" "COMPACT_STRINGS" "Z" (.int z) ∧ ¬ z = 0
/-- equals(Object) of two Strings: whether the texts are the same -/
theorem law (l : Launch) (x t : Addr) (V : Cell) (cd : Int32) (n : Nat) (f : Nat → Int32) (y t' : Addr) (V' : Cell) (cd' : Int32) (k : Nat) (g : Nat → Int32) (z : Int32) : Law l yN 2 1 1 14 yB 3 (some .boolean) site (P x t V cd n f y t' V' cd' k g z) (Says01 (SameT n f k g)) [] 0 0 := by
  refine Law.of_walk (plainFor_of_name (by decide +kernel)) (by decide +kernel) (by decide +kernel) (by decide) (fun _ _ h => by rw [h.1]; rfl) (fun _ U U' hal hh h => ⟨h.1, h.2.1.mv hal hh, h.2.2.1.mv hal hh, h.2.2.2.1.there hal hh, h.2.2.2.2⟩) (fun r U U' V V' h1 hal h2 h => Says01.mv r U U' V V' h1 hal h2 h) ?_
  intro p e s m args below meth c s₁ X0 hexec hbytes hml hret hlk hnm hown hh0 W hP
  obtain ⟨rfl, hx, hy, s1, hz⟩ := hP
  have c1 : Steps p.tables e below (s₁.setTop (entryFrame m #[.ref x, .ref y] 3)) (s₁.setTop (mkF m 2 #[.val (.ref x), .val (.ref y), .unset] [.ref y, .ref x])) := Steps.trans (entry rfl) (by
    show Steps p.tables e below (s₁.setTop (mkF m 0 #[.val (.ref x), .val (.ref y), .unset] [])) _
    refine XS.aloadN X0.here hexec rfl (hb hbytes d0) rfl rfl ?_
    refine XS.aloadN X0.here hexec rfl (hb hbytes d1) rfl rfl ?_
    exact Steps.refl _)
  by_cases hxy : x = y
  · have c2 : Steps p.tables e below (s₁.setTop (entryFrame m #[.ref x, .ref y] 3)) (s₁.setTop (mkF m 6 #[.val (.ref x), .val (.ref y), .unset] [.int 1])) := c1.trans (by
      refine acmpNo X0.here hexec rfl (hb hbytes d2) rfl rfl rfl (by simp [acmp, hxy]) ?_
      refine iconstV X0.here hexec rfl 1 (hb hbytes d5) (by decide) ?_
      exact Steps.refl _)
    subst hxy
    have ec : cd = cd' := by
      obtain ⟨D, fd, a1, a2, a3⟩ := hx.2.2.1
      obtain ⟨D', fd', b1, b2, b3⟩ := hy.2.2.1
      cases a1.symm.trans b1
      obtain ⟨q1, q2, q3, q4⟩ := a2.1
      obtain ⟨r1, r2, r3, r4⟩ := b2.1
      cases q4.symm.trans r4
      cases a3.symm.trans b3; rfl
    have et : t = t' := by
      obtain ⟨D, fd, a1, a2, a3⟩ := hx.2.1
      obtain ⟨D', fd', b1, b2, b3⟩ := hy.2.1
      cases a1.symm.trans b1
      obtain ⟨q1, q2, q3, q4⟩ := a2.1
      obtain ⟨r1, r2, r3, r4⟩ := b2.1
      cases q4.symm.trans r4
      cases a3.symm.trans b3; rfl
    subst ec et
    have ev : V = V' := by cases hx.2.2.2.1.1.symm.trans hy.2.2.2.1.1; rfl
    subst ev
    have hs : SameT n f k g := (Cod.eqv hx.2.2.2.2.1 hy.2.2.2.2.1 hx.2.2.2.2.2 hy.2.2.2.2.2).mp ⟨rfl, fun _ _ => rfl⟩
    exact ⟨s₁, some (.int 1), _, _, _, X0, rfl, rfl, rfl, (fun h => by cases h), ⟨1, rfl, hh0, Or.inl ⟨rfl, hs⟩⟩, fun fs hl => c2.trans (X0.ireturnOut hexec hret rfl (Or.inr (Or.inl rfl)) (hb hbytes d6) hl)⟩
  · have c2 : Steps p.tables e below (s₁.setTop (entryFrame m #[.ref x, .ref y] 3)) (s₁.setTop (mkF m 8 #[.val (.ref x), .val (.ref y), .unset] [.ref y])) := c1.trans (by
      refine acmpYes X0.here hexec rfl (pc0 := 2) rfl (hb hbytes d2) rfl rfl rfl (by simp [acmp, hxy]) (by decide) rfl ?_
      refine XS.aloadN X0.here hexec rfl (hb hbytes d7) rfl rfl ?_
      exact Steps.refl _)
    obtain ⟨T3, X3, q3, st3⟩ := cinst X0 hexec hown (wk W (.classLink "java/lang/String" 10 "java/lang/String")) (hy.mv X0.warmed.alike hh0).1 (g := (mkF m 8 #[.val (.ref x), .val (.ref y), .unset] [.ref y])) rfl (rest := []) rfl (hb hbytes d8)
    have hh3 := q3.trans hh0
    have c4 : Steps p.tables e below (s₁.setTop (entryFrame m #[.ref x, .ref y] 3)) (T3.setTop (mkF m 15 #[.val (.ref x), .val (.ref y), .unset] [.ref y])) := (c2.trans (st3 _ (Steps.refl _))).trans (by
      refine XS.ifNo X3.here hexec rfl (hb hbytes d11) rfl (i0_eq_f (by decide)) ?_
      refine XS.aloadN X3.here hexec rfl (hb hbytes d14) rfl rfl ?_
      exact Steps.refl _)
    obtain ⟨T5, X5, q5, st5⟩ := cself X3 hexec hown (wk W (.classLink "java/lang/String" 10 "java/lang/String")) (hy.mv X3.warmed.alike hh3).1 (g := (mkF m 15 #[.val (.ref x), .val (.ref y), .unset] [.ref y])) rfl (rest := []) rfl (hb hbytes d15)
    have hh5 := q5.trans hh3
    have c6 : Steps p.tables e below (s₁.setTop (entryFrame m #[.ref x, .ref y] 3)) (T5.setTop (mkF m 19 #[.val (.ref x), .val (.ref y), .val (.ref y)] [])) := (c4.trans (st5 _ (Steps.refl _))).trans (by
      refine XS.astoreN X5.here hexec rfl (hb hbytes d18) rfl rfl rfl ?_
      exact Steps.refl _)
    obtain ⟨T7, X7, q7, st7⟩ := X5.sget hexec hown (wk W (.fieldLink "java/lang/String" 38 "java/lang/String" "COMPACT_STRINGS" "Z")) s1 (fun _ _ h => by rw [hh5]; exact h) (g := (mkF m 19 #[.val (.ref x), .val (.ref y), .val (.ref y)] [])) rfl (hb hbytes d19)
    have hh7 := q7.trans hh5
    have c8 : Steps p.tables e below (s₁.setTop (entryFrame m #[.ref x, .ref y] 3)) (T7.setTop (mkF m 26 #[.val (.ref x), .val (.ref y), .val (.ref y)] [.ref x])) := (c6.trans (st7 _ (Steps.refl _))).trans (by
      refine XS.ifNo X7.here hexec rfl (hb hbytes d22) rfl (i0_eq_f hz) ?_
      refine XS.aloadN X7.here hexec rfl (hb hbytes d25) rfl rfl ?_
      exact Steps.refl _)
    obtain ⟨T9, X9, q9, st9⟩ := X7.hget hexec hown (wk W (.fieldLink "java/lang/String" 15 "java/lang/String" "coder" "B")) (hx.mv X7.warmed.alike hh7).2.2.1 (g := (mkF m 26 #[.val (.ref x), .val (.ref y), .val (.ref y)] [.ref x])) rfl (rest := []) rfl (hb hbytes d26)
    have hh9 := q9.trans hh7
    have c10 : Steps p.tables e below (s₁.setTop (entryFrame m #[.ref x, .ref y] 3)) (T9.setTop (mkF m 30 #[.val (.ref x), .val (.ref y), .val (.ref y)] [.ref y, .int cd])) := (c8.trans (st9 _ (Steps.refl _))).trans (by
      refine XS.aloadN X9.here hexec rfl (hb hbytes d29) rfl rfl ?_
      exact Steps.refl _)
    obtain ⟨T11, X11, q11, st11⟩ := X9.hget hexec hown (wk W (.fieldLink "java/lang/String" 15 "java/lang/String" "coder" "B")) (hy.mv X9.warmed.alike hh9).2.2.1 (g := (mkF m 30 #[.val (.ref x), .val (.ref y), .val (.ref y)] [.ref y, .int cd])) rfl (rest := [.int cd]) rfl (hb hbytes d30)
    have hh11 := q11.trans hh9
    have c12 : Steps p.tables e below (s₁.setTop (entryFrame m #[.ref x, .ref y] 3)) (T11.setTop (mkF m 33 #[.val (.ref x), .val (.ref y), .val (.ref y)] [.int cd', .int cd])) := c10.trans (st11 _ (Steps.refl _))
    by_cases hcd : cd = cd'
    · subst hcd
      have c13 : Steps p.tables e below (s₁.setTop (entryFrame m #[.ref x, .ref y] 3)) (T11.setTop (mkF m 37 #[.val (.ref x), .val (.ref y), .val (.ref y)] [.ref x])) := c12.trans (by
        refine XS.icmpNo X11.here hexec rfl (hb hbytes d33) rfl (ii_ne_f rfl) ?_
        refine XS.aloadN X11.here hexec rfl (hb hbytes d36) rfl rfl ?_
        exact Steps.refl _)
      obtain ⟨T14, X14, q14, st14⟩ := X11.hget hexec hown (wk W (.fieldLink "java/lang/String" 9 "java/lang/String" "value" "[B")) (hx.mv X11.warmed.alike hh11).2.1 (g := (mkF m 37 #[.val (.ref x), .val (.ref y), .val (.ref y)] [.ref x])) rfl (rest := []) rfl (hb hbytes d37)
      have hh14 := q14.trans hh11
      have c15 : Steps p.tables e below (s₁.setTop (entryFrame m #[.ref x, .ref y] 3)) (T14.setTop (mkF m 41 #[.val (.ref x), .val (.ref y), .val (.ref y)] [.ref y, .ref t])) := (c13.trans (st14 _ (Steps.refl _))).trans (by
        refine XS.aloadN X14.here hexec rfl (hb hbytes d40) rfl rfl ?_
        exact Steps.refl _)
      obtain ⟨T16, X16, q16, st16⟩ := X14.hget hexec hown (wk W (.fieldLink "java/lang/String" 9 "java/lang/String" "value" "[B")) (hy.mv X14.warmed.alike hh14).2.1 (g := (mkF m 41 #[.val (.ref x), .val (.ref y), .val (.ref y)] [.ref y, .ref t])) rfl (rest := [.ref t]) rfl (hb hbytes d41)
      have hh16 := q16.trans hh14
      have c17 : Steps p.tables e below (s₁.setTop (entryFrame m #[.ref x, .ref y] 3)) (T16.setTop (mkF m 44 #[.val (.ref x), .val (.ref y), .val (.ref y)] [.ref t', .ref t])) := c15.trans (st16 _ (Steps.refl _))
      obtain ⟨v18, T18, X18, E18, g18⟩ := X16.callS hexec (LEq.law l t V t' V') hown (wks W (staticW "java/lang/String" 541 LEq.yN)) (wk W LEq.tab) (W := 0) (Nat.le_of_ble_eq_true rfl) (Nat.le_of_ble_eq_true rfl) (Nat.le_refl _) (Nat.le_refl _) (g := (mkF m 44 #[.val (.ref x), .val (.ref y), .val (.ref y)] [.ref t', .ref t])) rfl (by rw [hml]; rfl) c17 (argsL := [.ref t, .ref t']) (rest := []) rfl rfl (by show 2 * 0 + 0 ≤ _; decide) (hb hbytes d44) (⟨rfl, hx.2.2.2.1.mv X16.warmed.alike hh16, hx.2.2.2.2.1.ty, hy.2.2.2.1.mv X16.warmed.alike hh16, hy.2.2.2.2.1.ty⟩)
      obtain ⟨v, rfl, q18, hv⟩ := E18
      have iff := Cod.eqv hx.2.2.2.2.1 hy.2.2.2.2.1 hx.2.2.2.2.2 hy.2.2.2.2.2
      rcases hv with ⟨rfl, he⟩ | ⟨rfl, he⟩
      · have c19 : Steps p.tables e below (s₁.setTop (entryFrame m #[.ref x, .ref y] 3)) (T18.setTop (mkF m 55 #[.val (.ref x), .val (.ref y), .val (.ref y)] [.int 1])) := Steps.trans g18 (by
          refine XS.ifNo X18.here hexec rfl (hb hbytes d47) rfl (i0_eq_f (by decide)) ?_
          refine iconstV X18.here hexec rfl 1 (hb hbytes d50) (by decide) ?_
          refine XS.goto X18.here hexec rfl (pc0 := 51) rfl (hb hbytes d51) (by decide) rfl ?_
          exact Steps.refl _)
        exact ⟨T18, some (.int 1), _, _, _, X18, rfl, rfl, rfl, (fun h => by cases h), ⟨1, rfl, q18.trans hh16, Or.inl ⟨rfl, iff.mp he⟩⟩, fun fs hl => c19.trans (X18.ireturnOut hexec hret rfl (Or.inr (Or.inl rfl)) (hb hbytes d55) hl)⟩
      · have c19 : Steps p.tables e below (s₁.setTop (entryFrame m #[.ref x, .ref y] 3)) (T18.setTop (mkF m 55 #[.val (.ref x), .val (.ref y), .val (.ref y)] [.int 0])) := Steps.trans g18 (by
          refine XS.ifYes X18.here hexec rfl (pc0 := 47) rfl (hb hbytes d47) rfl (i0_eq_t rfl) (by decide) rfl ?_
          refine iconstV X18.here hexec rfl 0 (hb hbytes d54) (by decide) ?_
          exact Steps.refl _)
        exact ⟨T18, some (.int 0), _, _, _, X18, rfl, rfl, rfl, (fun h => by cases h), ⟨0, rfl, q18.trans hh16, Or.inr ⟨rfl, fun q => he (iff.mpr q)⟩⟩, fun fs hl => c19.trans (X18.ireturnOut hexec hret rfl (Or.inr (Or.inl rfl)) (hb hbytes d55) hl)⟩
    · have c13 : Steps p.tables e below (s₁.setTop (entryFrame m #[.ref x, .ref y] 3)) (T11.setTop (mkF m 55 #[.val (.ref x), .val (.ref y), .val (.ref y)] [.int 0])) := c12.trans (by
        refine XS.icmpYes X11.here hexec rfl (pc0 := 33) rfl (hb hbytes d33) rfl (ii_ne_t hcd) (by decide) rfl ?_
        refine iconstV X11.here hexec rfl 0 (hb hbytes d54) (by decide) ?_
        exact Steps.refl _)
      exact ⟨T11, some (.int 0), _, _, _, X11, rfl, rfl, rfl, (fun h => by cases h), ⟨0, rfl, hh11, Or.inr ⟨rfl, Cod.dif hx.2.2.2.2.1 hy.2.2.2.2.1 hcd⟩⟩, fun fs hl => c13.trans (X11.ireturnOut hexec hret rfl (Or.inr (Or.inl rfl)) (hb hbytes d55) hl)⟩
theorem pays {l : Launch} {R : Room} {p : Program} {e : Env} {below : List Frame} {s : State} {sargs : Array Value} {len W : Nat} (x t : Addr) (V : Cell) (cd : Int32) (n : Nat) (f : Nat → Int32) (y t' : Addr) (V' : Cell) (cd' : Int32) (k : Nat) (g : Nat → Int32) (z : Int32) (htab : tab.before sargs s = true) (hfr : 2 ≤ R.frames) (hlo : W + 28 ≤ R.locals) :
    Back l R p e below s sargs yN len W (fun A₁ a₁ => A₁.cells + 0 ≤ R.cells ∧ A₁.slots + 0 ≤ R.slots ∧ P x t V cd n f y t' V' cd' k g z a₁ A₁.U) (fun A₁ _ v₁ B₁ => Says01 (SameT n f k g) v₁ A₁.U B₁.U ∧ B₁.locs = A₁.locs ++ [] ∧ B₁.cells = A₁.cells + 0 ∧ B₁.slots = A₁.slots + 0) :=
  (law l x t V cd n f y t' V' cd' k g z).pays htab hfr (by omega)
end SEq
end StrChars
namespace StrChars.Road
open Jvm Sem ClassFile Op Lib Jvm.Stand Jvm.Free Jvm.Free.XT
open Jvm.Lib.Cold (StaticIs)
/-- the words of String.equals(Object) -/
abbrev wordsEq : List Jvm.Cond := [.code SEq.yN SEq.yB 3 (some .boolean), .initialized ST, .classLink ST 10 ST, .fieldLink ST 38 ST "COMPACT_STRINGS" "Z", .fieldLink ST 15 ST "coder" "B", .fieldLink ST 9 ST "value" "[B", .methodLink ST 541 LEq.yN, .static LEq.yN, .code LEq.yN LEq.yB 3 (some .boolean), .initialized "java/lang/StringLatin1"]
theorem tabEq_of {a : Array Value} {s : State} (h : ∀ w ∈ wordsEq, w.before a s = true) : SEq.tab.before a s = true := by
  have hl : LEq.tab.before a s = true := unparts (wk h (.code LEq.yN LEq.yB 3 (some .boolean))) (wks h (.initialized LEq.yN.cls :: LEq.site))
  have q := consq hl h
  exact unparts (wk q (.code SEq.yN SEq.yB 3 (some .boolean))) (wks q (.initialized SEq.yN.cls :: SEq.site))
theorem movedEq {Z s : State} {a0 args : Array Value} (hZ : Z.Warmed39 s.vm) (hw : ∀ d ∈ wordsEq, d.before a0 Z = true) : ∀ d ∈ wordsEq, d.before args s = true := fun d hd => by
  have t : ∀ d ∈ wordsEq, (d.onTables && d.keepsFace) = true := by decide +kernel
  exact RoadKit.mv hZ (hw d hd) (t d hd)
/-- the road's facts of a String, as the laws ask it -/
theorem txt_of {Z U : State} {a0 : Array Value} {kI : Nat} (wi : (Jvm.Cond.instantiable ST kI).before a0 Z = true) (al : Z.vm.Alike U.vm) {x t : Addr} {kb : ClassId} {cs : List Int32} {cd N2 : Int32} {vs : List Value} (E : RoadKit.Exa Z U.heap x ST) (V : RoadKit.Fld Z U.heap x ST "value" "[B" (.ref t)) (C : RoadKit.Fld Z U.heap x ST "coder" "B" (.int cd)) (K : RoadKit.Arv Z U.heap t kb .byte N2 vs (.int 0)) (hc : CodA cs cd N2 vs) (hb : ∀ c ∈ cs, ¬ c < 0 ∧ ¬ (65535 : Int32) < c) (l2 : cs.length ≤ 4000) :
    ∃ A, Txt x t A cd cs.length (fun j => cs.getD j 0) U := by
  obtain ⟨A, K1, K2, K3, K4, K5, K6⟩ := K
  have hcod := hc.cod (by omega) K3 K5
  obtain ⟨D, fV, fC, hB, F1, F2, g1, g2, -, -⟩ := strObj wi al E V C
  exact ⟨A, ⟨_, hB.2.2.1, D, hB.1, rfl, by cases q : D.vm <;> first | rfl | exact absurd q (hB.2.1.2 _)⟩, Has.of hB F1 g1, Has.of hB F2 g2, ⟨K1.1, State.isArrayOf_alike al K1.2.1, K1.2.2, by rcases hcod with ⟨-, q, -⟩ | ⟨-, q, -⟩ <;> omega⟩, hcod, fun j hj => by
    have e : cs.getD j 0 = cs[j] := by simp [List.getD_eq_getElem?_getD, hj]
    show ¬ cs.getD j 0 < 0 ∧ ¬ 65535 < cs.getD j 0
    rw [e]; exact hb _ (List.getElem_mem _)⟩
theorem same_list (cs ds : List Int32) : SameT cs.length (fun j => cs.getD j 0) ds.length (fun j => ds.getD j 0) ↔ cs = ds := by
  constructor
  · rintro ⟨e, q⟩
    refine List.ext_getElem e fun j h1 h2 => ?_
    have := q j h1
    simpa [List.getD_eq_getElem?_getD, h1, h2] using this
  · rintro rfl
    exact ⟨rfl, fun _ _ => rfl⟩
/-- **equals(Object) OF TWO SUCH STRINGS**: 1 just where the chars are the same -/
theorem eqW {p : Program} {l : Launch} {e : Env} {R : Room} {s : State} {args : Array Value} {below : List Frame} {len W : Nat} {Z : State} {a0 : Array Value} {h : Heap} (hZ : Z.Warmed39 s.vm) (hw : ∀ d ∈ wordsEq, d.before a0 Z = true) {kI : Nat} (wi : (Jvm.Cond.instantiable ST kI).before a0 Z = true)
    {x t : Addr} {kb : ClassId} {cs : List Int32} {cd N2 : Int32} {vs : List Value} (E : RoadKit.Exa Z h x ST) (V : RoadKit.Fld Z h x ST "value" "[B" (.ref t)) (C : RoadKit.Fld Z h x ST "coder" "B" (.int cd)) (K : RoadKit.Arv Z h t kb .byte N2 vs (.int 0)) (hc : CodA cs cd N2 vs) (hb : ∀ c ∈ cs, ¬ c < 0 ∧ ¬ (65535 : Int32) < c) (l2 : cs.length ≤ 4000)
    {y t' : Addr} {kb' : ClassId} {ds : List Int32} {cd' N2' : Int32} {vs' : List Value} (E' : RoadKit.Exa Z h y ST) (V' : RoadKit.Fld Z h y ST "value" "[B" (.ref t')) (C' : RoadKit.Fld Z h y ST "coder" "B" (.int cd')) (K' : RoadKit.Arv Z h t' kb' .byte N2' vs' (.int 0)) (hc' : CodA ds cd' N2' vs') (hb' : ∀ c ∈ ds, ¬ c < 0 ∧ ¬ (65535 : Int32) < c) (l2' : ds.length ≤ 4000)
    {z : Int32} (S : RoadKit.Sta Z h ST "COMPACT_STRINGS" "Z" (.int z)) (hz : ¬ z = 0) (hfr : 2 ≤ R.frames) (hlo : W + 28 ≤ R.locals) :
    Back l R p e below s args (⟨"java/lang/String", "equals", "(Ljava/lang/Object;)Z"⟩ : MethodName) len W (fun P a => a = #[.ref x, .ref y] ∧ P.U.heap = h ∧ P.cells + 0 ≤ R.cells ∧ P.slots + 0 ≤ R.slots)
      (fun P _ v B => ∃ L, (((v = some (.int 1) ∧ cs = ds) ∨ (v = some (.int 0) ∧ ¬ cs = ds)) ∧ L = [] ∧ B.U.heap = h) ∧ B.locs = P.locs ++ L ∧ B.cells = P.cells + 0 ∧ B.slots = P.slots + 0) := by
  intro m meth c P g ig mk a X hg hsize hdg hW hn hp'
  obtain ⟨rfl, rfl, r1, r2⟩ := hp'
  have al : Z.vm.Alike P.U.vm := hZ.alike.trans X.warmed.alike
  obtain ⟨A, hx⟩ := txt_of wi al E V C K hc hb l2
  obtain ⟨A', hy⟩ := txt_of wi al E' V' C' K' hc' hb' l2'
  obtain ⟨v, B, X', ⟨⟨w, hv, hh, hq⟩, hl, hk, hs⟩, st⟩ := SEq.pays x t A cd cs.length (fun j => cs.getD j 0) y t' A' cd' ds.length (fun j => ds.getD j 0) z (tabEq_of (movedEq hZ hw)) hfr hlo m meth c P g ig mk _ X hg hsize hdg hW hn ⟨r1, r2, rfl, hx, hy, sta_is al S, hz⟩
  refine ⟨v, B, X', ⟨[], ⟨?_, rfl, hh⟩, hl, hk, hs⟩, st⟩
  rcases hq with ⟨rfl, q⟩ | ⟨rfl, q⟩
  · exact Or.inl ⟨hv, (same_list cs ds).mp q⟩
  · exact Or.inr ⟨hv, fun e => q ((same_list cs ds).mpr e)⟩
end StrChars.Road
namespace StrChars
open Jvm Sem ClassFile Op Lib Jvm.Stand Jvm.Free.XT Jvm.Free.ALB Jvm.Free.JM Jvm.Free
open Jvm.Lib.Cold (StaticIs)
namespace ChN
def yN : MethodName := ⟨"java/lang/String", "charAt", "(I)C"⟩
abbrev yB : ByteArray := jdk_42_method_56_code
theorem d0 : decode yB 0 = .ok (.aload_n 0, 1) := by decide +kernel
theorem d1 : decode yB 1 = .ok (.invokevirtual 492, 3) := by decide +kernel
theorem d4 : decode yB 4 = .ok (.ifCond (.eq) 12, 3) := by decide +kernel
theorem d7 : decode yB 7 = .ok (.aload_n 0, 1) := by decide +kernel
theorem d8 : decode yB 8 = .ok (.getfield 9, 3) := by decide +kernel
theorem d11 : decode yB 11 = .ok (.iload_n 1, 1) := by decide +kernel
theorem d12 : decode yB 12 = .ok (.invokestatic 495, 3) := by decide +kernel
theorem d15 : decode yB 15 = .ok (.ireturn, 1) := by decide +kernel
def site : List Cond := [.fieldLink "java/lang/String" 9 "java/lang/String" "value" "[B", IsL.tab, LChA.tab] ++ virtW "java/lang/String" 492 "java/lang/String" IsL.yN IsL.yN ++ staticW "java/lang/String" 495 LChA.yN
def tab : Cond := tabOf yN yB 2 (some .char) site
def P (x t : Addr) (V : Cell) (n : Nat) (f : Nat → Int32) (z : Int32) (fm : Value) (i : Nat) (args : Array Value) (s : State) : Prop := args = #[.ref x, .int (Int32.ofNat i)] ∧ Txt x t V 0 n f s ∧ i < n ∧ StaticIs s "java/lang/String" "COMPACT_STRINGS" "Z" (.int z) ∧ ¬ z = 0 ∧ StaticIs s "jdk/internal/util/Preconditions" "SIOOBE_FORMATTER" "Ljava/util/function/BiFunction;" fm ∧ fm.isRef = true
def E (f : Nat → Int32) (i : Nat) (r : Option Value) (s u : State) : Prop := XT.PureE (some (.int (f i))) r s u
/-- charAt(i) of a Latin-1 String of n chars, i < n: f i -/
theorem law (l : Launch) (x t : Addr) (V : Cell) (n : Nat) (f : Nat → Int32) (z : Int32) (fm : Value) (i : Nat) : Law l yN 2 1 3 40 yB 2 (some .char) site (P x t V n f z fm i) (E f i) [] 0 0 := by
  refine Law.of_walk (plainFor_of_name (by decide +kernel)) (by decide +kernel) (by decide +kernel) (by decide) (fun _ _ h => by rw [h.1]; rfl) (fun _ U U' hal hh h => ⟨h.1, h.2.1.mv hal hh, h.2.2.1, h.2.2.2.1.there hal hh, h.2.2.2.2.1, h.2.2.2.2.2.1.there hal hh, h.2.2.2.2.2.2⟩) (fun r U U' V V' h1 hal h2 h => XT.PureE.mv r U U' V V' h1 hal h2 h) ?_
  intro p e s m args below meth c s₁ X0 hexec hbytes hml hret hlk hnm hown hh0 W hP
  obtain ⟨rfl, hx, hi, s1, hz, s3, rf⟩ := hP
  have v31 := hx.2.2.2.1.2.2.2
  have hr := hx.2.2.2.2.2 i hi
  have hx0 := hx.mv X0.warmed.alike hh0
  have c1 : Steps p.tables e below (s₁.setTop (entryFrame m #[.ref x, .int (Int32.ofNat i)] 2)) (s₁.setTop (mkF m 1 #[.val (.ref x), .val (.int (Int32.ofNat i))] [.ref x])) := Steps.trans (entry rfl) (by
    show Steps p.tables e below (s₁.setTop (mkF m 0 #[.val (.ref x), .val (.int (Int32.ofNat i))] [])) _
    refine XS.aloadN X0.here hexec rfl (hb hbytes d0) rfl rfl ?_
    exact Steps.refl _)
  obtain ⟨v2, T2, X2, E2, g2⟩ := X0.callV hexec (IsL.law l x 0 z) hown (wks W (virtW "java/lang/String" 492 "java/lang/String" IsL.yN IsL.yN)) rfl (by decide) (wk W IsL.tab) (W := 0) (Nat.le_of_ble_eq_true rfl) (Nat.le_of_ble_eq_true rfl) (Nat.le_refl _) (Nat.le_refl _) (hx0.1.fc X0.warmed.alike) hx0.1.is (g := (mkF m 1 #[.val (.ref x), .val (.int (Int32.ofNat i))] [.ref x])) rfl (by rw [hml]; rfl) c1 (argsL := []) (rest := []) rfl rfl (by show 2 * 0 + 0 ≤ _; decide) (hb hbytes d1) (⟨rfl, hx0.2.2.1, hx.2.2.2.2.1.cd, s1.there X0.warmed.alike hh0, hz⟩)
  obtain ⟨rfl, q2⟩ := E2
  have hh2 := q2.trans hh0
  have hx2 := hx.mv X2.warmed.alike hh2
  obtain ⟨-, k1, k2⟩ | ⟨k0, -⟩ := hx.2.2.2.2.1
  · have c3 : Steps p.tables e below (s₁.setTop (entryFrame m #[.ref x, .int (Int32.ofNat i)] 2)) (T2.setTop (mkF m 8 #[.val (.ref x), .val (.int (Int32.ofNat i))] [.ref x])) := Steps.trans g2 (by
      refine XS.ifNo X2.here hexec rfl (hb hbytes d4) rfl (i0_eq_f (by decide)) ?_
      refine XS.aloadN X2.here hexec rfl (hb hbytes d7) rfl rfl ?_
      exact Steps.refl _)
    obtain ⟨T4, X4, q4, st4⟩ := X2.hget hexec hown (wk W (.fieldLink "java/lang/String" 9 "java/lang/String" "value" "[B")) hx2.2.1 (g := (mkF m 8 #[.val (.ref x), .val (.int (Int32.ofNat i))] [.ref x])) rfl (rest := []) rfl (hb hbytes d8)
    have hh4 := q4.trans hh2
    have c5 : Steps p.tables e below (s₁.setTop (entryFrame m #[.ref x, .int (Int32.ofNat i)] 2)) (T4.setTop (mkF m 12 #[.val (.ref x), .val (.int (Int32.ofNat i))] [.int (Int32.ofNat i), .ref t])) := (c3.trans (st4 _ (Steps.refl _))).trans (by
      refine XS.iloadN X4.here hexec rfl (hb hbytes d11) rfl ?_
      exact Steps.refl _)
    obtain ⟨v6, T6, X6, E6, g6⟩ := X4.callS hexec (LChA.law l t V i (lo8 (f i)) fm) hown (wks W (staticW "java/lang/String" 495 LChA.yN)) (wk W LChA.tab) (W := 0) (Nat.le_of_ble_eq_true rfl) (Nat.le_of_ble_eq_true rfl) (Nat.le_refl _) (Nat.le_refl _) (g := (mkF m 12 #[.val (.ref x), .val (.int (Int32.ofNat i))] [.int (Int32.ofNat i), .ref t])) rfl (by rw [hml]; rfl) c5 (argsL := [.ref t, .int (Int32.ofNat i)]) (rest := []) rfl rfl (by show 2 * 0 + 0 ≤ _; decide) (hb hbytes d12) (⟨rfl, hx.2.2.2.1.mv X4.warmed.alike hh4, (k2 i hi).1, s3.there X4.warmed.alike hh4, rf⟩)
    obtain ⟨rfl, q6⟩ := E6
    rw [chr8_lo8 hr.1 (k2 i hi).2] at g6
    exact ⟨T6, some (.int (f i)), _, _, _, X6, rfl, rfl, rfl, (fun h => by cases h), ⟨rfl, q6.trans hh4⟩, fun fs hl => Steps.trans g6 (X6.ireturnOut hexec hret (narrow_ch hr.1 hr.2) (Or.inr (Or.inr (Or.inr (Or.inl rfl)))) (hb hbytes d15) hl)⟩
  · exact absurd k0 (by decide)
theorem pays {l : Launch} {R : Room} {p : Program} {e : Env} {below : List Frame} {s : State} {sargs : Array Value} {len W : Nat} (x t : Addr) (V : Cell) (n : Nat) (f : Nat → Int32) (z : Int32) (fm : Value) (i : Nat) (htab : tab.before sargs s = true) (hfr : 4 ≤ R.frames) (hlo : W + 53 ≤ R.locals) :
    Back l R p e below s sargs yN len W (fun A₁ a₁ => A₁.cells + 0 ≤ R.cells ∧ A₁.slots + 0 ≤ R.slots ∧ P x t V n f z fm i a₁ A₁.U) (fun A₁ _ v₁ B₁ => E f i v₁ A₁.U B₁.U ∧ B₁.locs = A₁.locs ++ [] ∧ B₁.cells = A₁.cells + 0 ∧ B₁.slots = A₁.slots + 0) :=
  (law l x t V n f z fm i).pays htab hfr (by omega)
end ChN
end StrChars
namespace StrChars.Road
open Jvm Sem ClassFile Op Lib Jvm.Stand Jvm.Free Jvm.Free.XT
open Jvm.Lib.Cold (StaticIs)
/-- the words of String.charAt(int), the Latin-1 road alone -/
abbrev wordsChN : List Jvm.Cond := [.code ChN.yN ChN.yB 2 (some .char), .initialized ST, .fieldLink ST 9 ST "value" "[B", .fieldLink ST 38 ST "COMPACT_STRINGS" "Z", .fieldLink ST 15 ST "coder" "B", .code IsL.yN IsL.yB 1 (some .boolean), .methodLink ST 492 IsL.yN, .declares IsL.yN, .selects ST IsL.yN IsL.yN, .instanceMethod IsL.yN,
  .methodLink ST 495 LChA.yN, .static LChA.yN, .code LChA.yN LChA.yB 2 (some .char), .initialized "java/lang/StringLatin1", .methodLink "java/lang/StringLatin1" 9 JO.Str_checkIndex.yN, .static JO.Str_checkIndex.yN, .code JO.Str_checkIndex.yN JO.Str_checkIndex.yB 2 none,
  .fieldLink ST 1053 "jdk/internal/util/Preconditions" "SIOOBE_FORMATTER" "Ljava/util/function/BiFunction;", .methodLink ST 1059 JC.PreCheck.yN, .static JC.PreCheck.yN, .code JC.PreCheck.yN JC.PreCheck.yB 3 (some .int), .initialized "jdk/internal/util/Preconditions"]
theorem tabChN_of {a : Array Value} {s : State} (h : ∀ w ∈ wordsChN, w.before a s = true) : ChN.tab.before a s = true := by
  have hp : JC.PreCheck.tab.before a s = true := unparts (wk h (.code JC.PreCheck.yN JC.PreCheck.yB 3 (some .int))) (wks h (.initialized JC.PreCheck.yN.cls :: JC.PreCheck.site))
  have qk := consq hp h
  have hk : JO.Str_checkIndex.tab.before a s = true := unparts (wk qk (.code JO.Str_checkIndex.yN JO.Str_checkIndex.yB 2 none)) (wks qk (.initialized JO.Str_checkIndex.yN.cls :: JO.Str_checkIndex.site))
  have ql := consq hk h
  have hl : LChA.tab.before a s = true := unparts (wk ql (.code LChA.yN LChA.yB 2 (some .char))) (wks ql (.initialized LChA.yN.cls :: LChA.site))
  have hi : IsL.tab.before a s = true := unparts (wk h (.code IsL.yN IsL.yB 1 (some .boolean))) (wks h (.initialized IsL.yN.cls :: IsL.site))
  have q := consq hi (consq hl h)
  exact unparts (wk q (.code ChN.yN ChN.yB 2 (some .char))) (wks q (.initialized ChN.yN.cls :: ChN.site))
theorem movedChN {Z s : State} {a0 args : Array Value} (hZ : Z.Warmed39 s.vm) (hw : ∀ d ∈ wordsChN, d.before a0 Z = true) : ∀ d ∈ wordsChN, d.before args s = true := fun d hd => by
  have t : ∀ d ∈ wordsChN, (d.onTables && d.keepsFace) = true := by decide +kernel
  exact RoadKit.mv hZ (hw d hd) (t d hd)
/-- **charAt(i) OF A LATIN-1 STRING**, i < n: the char -/
theorem chN {p : Program} {l : Launch} {e : Env} {R : Room} {s : State} {args : Array Value} {below : List Frame} {len W : Nat} {Z : State} {a0 : Array Value} {h : Heap} (hZ : Z.Warmed39 s.vm) (hw : ∀ d ∈ wordsChN, d.before a0 Z = true) {kI : Nat} (wi : (Jvm.Cond.instantiable ST kI).before a0 Z = true)
    {x t : Addr} {kb : ClassId} {cs : List Int32} {N2 z : Int32} {vs : List Value} {fm : Value} {i : Nat} {j : Int32} (E : RoadKit.Exa Z h x ST) (V : RoadKit.Fld Z h x ST "value" "[B" (.ref t)) (C : RoadKit.Fld Z h x ST "coder" "B" (.int 0)) (K : RoadKit.Arv Z h t kb .byte N2 vs (.int 0)) (hc : CodA cs 0 N2 vs) (hb : ∀ c ∈ cs, ¬ c < 0 ∧ ¬ (65535 : Int32) < c)
    (S : RoadKit.Sta Z h ST "COMPACT_STRINGS" "Z" (.int z)) (hz : ¬ z = 0) (F : RoadKit.Sta Z h "jdk/internal/util/Preconditions" "SIOOBE_FORMATTER" "Ljava/util/function/BiFunction;" fm) (rf : fm.isRef = true) (l2 : cs.length ≤ 4000) (hi : i < cs.length) (hj : j = Int32.ofNat i) (hfr : 4 ≤ R.frames) (hlo : W + 53 ≤ R.locals) :
    Back l R p e below s args (⟨"java/lang/String", "charAt", "(I)C"⟩ : MethodName) len W (fun P a => a = #[.ref x, .int j] ∧ P.U.heap = h ∧ P.cells + 0 ≤ R.cells ∧ P.slots + 0 ≤ R.slots)
      (fun P _ v B => ∃ L, (v = some (.int (cs.getD i 0)) ∧ L = [] ∧ B.U.heap = h) ∧ B.locs = P.locs ++ L ∧ B.cells = P.cells + 0 ∧ B.slots = P.slots + 0) := by
  subst hj
  intro m meth c P g ig mk a X hg hsize hdg hW hn hp'
  obtain ⟨rfl, rfl, r1, r2⟩ := hp'
  have al : Z.vm.Alike P.U.vm := hZ.alike.trans X.warmed.alike
  obtain ⟨A, hx⟩ := txt_of wi al E V C K hc hb l2
  obtain ⟨v, B, X', ⟨⟨hv, hh⟩, hl, hk, hs⟩, st⟩ := ChN.pays x t A cs.length (fun j => cs.getD j 0) z fm i (tabChN_of (movedChN hZ hw)) hfr hlo m meth c P g ig mk _ X hg hsize hdg hW hn ⟨r1, r2, rfl, hx, hi, sta_is al S, hz, sta_is al F, rf⟩
  exact ⟨v, B, X', ⟨[], ⟨hv, rfl, hh⟩, hl, hk, hs⟩, st⟩
/-- what backV says of its String, as the contracts of this text ask it: cs's low bytes, coder 0 -/
theorem codOf {cs : List Int32} {n : Nat} (hn : cs.length = n) (hb : ∀ c ∈ cs, ¬ 255 < c) : CodA cs 0 (Int32.ofNat n) ((cs.map lo8).map Value.int) := Or.inl ⟨rfl, by rw [hn], by simp [List.map_map, Function.comp_def], hb⟩
end StrChars.Road
end Jvm.Pilot.@@N@@
namespace Jvm.Pilot.@@N@@
open Jvm Jvm.ClassFile Sem Op Lib Jvm.Free Jvm.Stand Jvm.LawKit Jvm.RoadKit Bundle Jvm.Pilot.@@N@@.Jvm.D
def own_EL : List (String × Nat) := [("java/lang/String", 7)]
theorem own_strAt : ∀ d ∈ Bundle.stringAtoms, d ∈ tables_1 := by decide +kernel
theorem own_wNew : ∀ d ∈ StrChars.Road.words, d ∈ tables_1 := by decide +kernel
theorem own_wLen : ∀ d ∈ StrChars.Road.wordsLen, d ∈ tables_1 := by decide +kernel
theorem own_wCh : ∀ d ∈ StrChars.Road.wordsChN, d ∈ tables_1 := by decide +kernel
theorem own_wEq : ∀ d ∈ StrChars.Road.wordsEq, d ∈ tables_1 := by decide +kernel
def own_Str (Z : State) (h : Heap) (a : Addr) (chs : List Int32) : Prop := ∃ (t : Addr) (kb : ClassId), Exa Z h a "java/lang/String" ∧ Fld Z h a "java/lang/String" "coder" "B" (.int (0 : Int32)) ∧ Fld Z h a "java/lang/String" "value" "[B" (.ref t) ∧ Arv Z h t kb .byte (Int32.ofNat chs.length) ((chs.map StrChars.lo8).map Value.int) (.int (0 : Int32)) ∧ (∀ c ∈ chs, ¬ c < (0 : Int32) ∧ ¬ (255 : Int32) < c) ∧ chs.length ≤ 4000
section OwnS
variable {p : Program} {l : Launch} {e : Env} {R : Room} {s : State} {args : Array Value} {below : List Frame} {len W : Nat} {Z : State} {a0 : Array Value} {h : Heap} {x : Addr} {chs : List Int32}
theorem own_EW (hw : ∀ d ∈ tables_1, d.before a0 Z = true) : EW Z a0 own_EL := EW.cons (hw _ (List.mem_of_getElem? (i := 18) rfl)) (by decide +kernel) EW.nil
theorem own_Str.exa (S : own_Str Z h x chs) : Exa Z h x "java/lang/String" := by obtain ⟨t, kb, E, -⟩ := S; exact E
theorem own_Str.ext {h' : Heap} (S : own_Str Z h x chs) (E : Ext h h') : own_Str Z h' x chs := by
  obtain ⟨t, kb, E1, E2, E3, E4, r⟩ := S
  exact ⟨t, kb, E1.ext E, E2.ext E, E3.ext E, E4.ext E, r⟩
theorem own_Str.keep0 {h' : Heap} (S : own_Str Z h x chs) (K : Keep h h' []) : own_Str Z h' x chs := by
  obtain ⟨t, kb, E1, E2, E3, E4, r⟩ := S
  exact ⟨t, kb, E1.keep K, E2.keep K nin0, E3.keep K nin0, E4.keep K nin0, r⟩
theorem own_up (hp : ∀ c ∈ chs, ¬ c < (0 : Int32) ∧ ¬ (255 : Int32) < c) : ∀ c ∈ chs, ¬ c < (0 : Int32) ∧ ¬ (65535 : Int32) < c := fun c hc => ⟨(hp c hc).1, fun q => (hp c hc).2 (by
  rw [Int32.lt_iff_toInt_lt] at *
  have e1 : (65535 : Int32).toInt = 65535 := rfl
  have e2 : (255 : Int32).toInt = 255 := rfl
  omega)⟩
theorem own_lenB (hZ : Z.Warmed39 s.vm) (hw : ∀ d ∈ tables_1, d.before a0 Z = true) (S : own_Str Z h x chs) {z : Int32} (S1 : Sta Z h "java/lang/String" "COMPACT_STRINGS" "Z" (.int z)) (hz : ¬ z = (0 : Int32)) (hfr : 2 ≤ R.frames) (hlo : W + 25 ≤ R.locals) :
    Back l R p e below s args (⟨"java/lang/String", "length", "()I"⟩ : MethodName) len W (fun P a => a = #[.ref x] ∧ P.U.heap = h ∧ P.cells + 0 ≤ R.cells ∧ P.slots + 0 ≤ R.slots)
      (fun P _ v B => ∃ L, (v = some (.int (Int32.ofNat chs.length)) ∧ L = [] ∧ B.U.heap = h) ∧ B.locs = P.locs ++ L ∧ B.cells = P.cells + 0 ∧ B.slots = P.slots + 0) := by
  obtain ⟨t, kb, E1, E2, E3, E4, hp, l2⟩ := S
  exact StrChars.Road.lenW hZ (fun d hd => hw d (own_wLen d hd)) (kI := 4) (hw _ (List.mem_of_getElem? (i := 5) rfl)) E1 E3 E2 E4 (StrChars.Road.codOf (n := chs.length) rfl (fun c hc => (hp c hc).2)) (own_up hp) S1 hz l2 hfr hlo
theorem own_chB (hZ : Z.Warmed39 s.vm) (hw : ∀ d ∈ tables_1, d.before a0 Z = true) (S : own_Str Z h x chs) {z : Int32} (S1 : Sta Z h "java/lang/String" "COMPACT_STRINGS" "Z" (.int z)) (hz : ¬ z = (0 : Int32)) {fm : Value} (S2 : Sta Z h "jdk/internal/util/Preconditions" "SIOOBE_FORMATTER" "Ljava/util/function/BiFunction;" fm) (rf : fm.isRef = true) {i : Nat} {j : Int32} (hi : i < chs.length) (hj : j = Int32.ofNat i) (hfr : 4 ≤ R.frames) (hlo : W + 53 ≤ R.locals) :
    Back l R p e below s args (⟨"java/lang/String", "charAt", "(I)C"⟩ : MethodName) len W (fun P a => a = #[.ref x, .int j] ∧ P.U.heap = h ∧ P.cells + 0 ≤ R.cells ∧ P.slots + 0 ≤ R.slots)
      (fun P _ v B => ∃ L, (v = some (.int (chs.getD i 0)) ∧ L = [] ∧ B.U.heap = h) ∧ B.locs = P.locs ++ L ∧ B.cells = P.cells + 0 ∧ B.slots = P.slots + 0) := by
  obtain ⟨t, kb, E1, E2, E3, E4, hp, l2⟩ := S
  exact StrChars.Road.chN hZ (fun d hd => hw d (own_wCh d hd)) (kI := 4) (hw _ (List.mem_of_getElem? (i := 5) rfl)) E1 E3 E2 E4 (StrChars.Road.codOf (n := chs.length) rfl (fun c hc => (hp c hc).2)) (own_up hp) S1 hz S2 rf l2 hi hj hfr hlo
def own_b (A B : List Int32) : Int32 := if A = B then (1 : Int32) else (0 : Int32)
theorem own_eqB (hZ : Z.Warmed39 s.vm) (hw : ∀ d ∈ tables_1, d.before a0 Z = true) (S : own_Str Z h x chs) {y : Addr} {chs' : List Int32} (S' : own_Str Z h y chs') {z : Int32} (S1 : Sta Z h "java/lang/String" "COMPACT_STRINGS" "Z" (.int z)) (hz : ¬ z = (0 : Int32)) (hfr : 2 ≤ R.frames) (hlo : W + 28 ≤ R.locals) :
    Back l R p e below s args (⟨"java/lang/String", "equals", "(Ljava/lang/Object;)Z"⟩ : MethodName) len W (fun P a => a = #[.ref x, .ref y] ∧ P.U.heap = h ∧ P.cells + 0 ≤ R.cells ∧ P.slots + 0 ≤ R.slots)
      (fun P _ v B => ∃ L, (v = some (.int (own_b chs chs')) ∧ L = [] ∧ B.U.heap = h) ∧ B.locs = P.locs ++ L ∧ B.cells = P.cells + 0 ∧ B.slots = P.slots + 0) := by
  obtain ⟨t, kb, E1, E2, E3, E4, hp, l2⟩ := S
  obtain ⟨t', kb', E1', E2', E3', E4', hp', l2'⟩ := S'
  refine Back.mono (StrChars.Road.eqW hZ (fun d hd => hw d (own_wEq d hd)) (kI := 4) (hw _ (List.mem_of_getElem? (i := 5) rfl)) E1 E3 E2 E4 (StrChars.Road.codOf (n := chs.length) rfl (fun c hc => (hp c hc).2)) (own_up hp) l2 E1' E3' E2' E4' (StrChars.Road.codOf (n := chs'.length) rfl (fun c hc => (hp' c hc).2)) (own_up hp') l2' S1 hz hfr hlo) (fun P a hp => hp) (fun P a v B hp hq => ?_)
  obtain ⟨L, ⟨hv, q2, q3⟩, r⟩ := hq
  refine ⟨L, ⟨?_, q2, q3⟩, r⟩
  rcases hv with ⟨rfl, e⟩ | ⟨rfl, e⟩
  · rw [own_b, if_pos e]
  · rw [own_b, if_neg e]
theorem own_safe {vm : Vm} {EL : List (String × Nat)} (hw : ∀ d ∈ tables_1, d.before a0 Z = true) (hal : Z.vm.Alike vm) (E : Exa Z h x "java/lang/String") (F : Fld Z h x "java/lang/String" "value" "[B" .null) : Safe Z EL vm h x := fun B => by
  obtain ⟨c2, k2, i1, i2, i3, -⟩ := Cond.instantiable_spec (hw _ (List.mem_of_getElem? (i := 5) rfl))
  obtain ⟨cell, k, e1, e2, e3, -, -⟩ := E
  cases e2.symm.trans i1
  cases e3.symm.trans i2
  obtain ⟨p, -, u, a, -, q, -, G, rfl | rfl⟩ := B
  · obtain ⟨cell', cf, kf, i, f, f1, f2, f3, f4, f5, f6, f7⟩ := F
    obtain ⟨cS, ⟨⟨s1, s2, s3, ⟨cv, kv, iv, s4, s4'⟩, s5, s6, s7, s8, s9⟩, hfS, hcS⟩, r⟩ := G
    obtain ⟨kv', z4⟩ := ff_back (U := Wst Z vm h) hal s4
    cases f2.symm.trans z4
    cases (show h[q.sa]? = some q.sC from s1).symm.trans f1
    have := s8.symm.trans f7
    cases this
  · obtain ⟨cS, ⟨⟨s1, s2, s3, s4, s5, s6, s7, s8, s9, s10, ⟨-, kB, hkB, compB, hkindB⟩, s12⟩, hfS, hcS⟩, r⟩ := G
    cases (show h[q.sd]? = some q.SA from s10).symm.trans e1
    obtain ⟨k', z1, z2⟩ := hal.2.2 _ _ e3
    cases (show vm.classes[q.SA.cls]? = some kB from hkB).symm.trans z1
    rw [z2] at hkindB
    have := i3.symm.trans hkindB
    cases this
theorem own_narc {u : Int32} (h : ¬ u < (0 : Int32) ∧ ¬ (255 : Int32) < u) : nar .char u = u := by
  have q := i2c_mask u
  have m : u &&& (255 : Int32) = u := by
    apply Int32.toInt_inj.mp
    have h1 := c_mask u 255 8 (by decide) (by decide +kernel)
    rw [Int32.lt_iff_toInt_lt, Int32.lt_iff_toInt_lt] at h
    have e1 : (0 : Int32).toInt = 0 := rfl
    have e2 : (255 : Int32).toInt = 255 := rfl
    rw [h1, show ((2 ^ 8 : Nat) : Int) = 256 from rfl]
    omega
  rw [m] at q
  exact q
theorem own_i2c (u : Int32) : (u &&& (255 : Int32)).toUInt32.toUInt16.toUInt32.toInt32 = u &&& (255 : Int32) := i2c_mask u
theorem own_255 (u : Int32) : ¬ (u &&& (255 : Int32)) < (0 : Int32) ∧ ¬ (255 : Int32) < (u &&& (255 : Int32)) := by
  have h1 := c_mask u 255 8 (by decide) (by decide +kernel)
  rw [Int32.lt_iff_toInt_lt, Int32.lt_iff_toInt_lt, h1, show ((2 ^ 8 : Nat) : Int) = 256 from rfl]
  have e1 : (0 : Int32).toInt = 0 := rfl
  have e2 : (255 : Int32).toInt = 255 := rfl
  omega
end OwnS
def own_nm (chs : List Int32) (x y : Addr) : Value := if own_b [(100 : Int32), (99 : Int32), (115 : Int32), (112 : Int32)] chs = (0 : Int32) then (if own_b [(101 : Int32), (100 : Int32), (103 : Int32), (101 : Int32)] chs = (0 : Int32) then .null else .ref y) else .ref x
theorem own_nm_null {chs : List Int32} {x y : Addr} (h1 : ¬ [(100 : Int32), (99 : Int32), (115 : Int32), (112 : Int32)] = chs) (h2 : ¬ [(101 : Int32), (100 : Int32), (103 : Int32), (101 : Int32)] = chs) : own_nm chs x y = .null := by
  have e1 : own_b [(100 : Int32), (99 : Int32), (115 : Int32), (112 : Int32)] chs = 0 := by rw [own_b, if_neg h1]
  have e2 : own_b [(101 : Int32), (100 : Int32), (103 : Int32), (101 : Int32)] chs = 0 := by rw [own_b, if_neg h2]
  rw [own_nm, if_pos e1, if_pos e2]
theorem own_nm_D {x y : Addr} : own_nm [(100 : Int32), (99 : Int32), (115 : Int32), (112 : Int32)] x y = .ref x := by
  have e1 : ¬ own_b [(100 : Int32), (99 : Int32), (115 : Int32), (112 : Int32)] [(100 : Int32), (99 : Int32), (115 : Int32), (112 : Int32)] = 0 := by decide
  rw [own_nm, if_neg e1]
theorem own_nm_I {x y : Addr} : own_nm [(101 : Int32), (100 : Int32), (103 : Int32), (101 : Int32)] x y = .ref y := by
  have e1 : own_b [(100 : Int32), (99 : Int32), (115 : Int32), (112 : Int32)] [(101 : Int32), (100 : Int32), (103 : Int32), (101 : Int32)] = 0 := by decide
  have e2 : ¬ own_b [(101 : Int32), (100 : Int32), (103 : Int32), (101 : Int32)] [(101 : Int32), (100 : Int32), (103 : Int32), (101 : Int32)] = 0 := by decide
  rw [own_nm, if_pos e1, if_neg e2]
theorem own_four {chs : List Int32} (h : chs.length = 4) : ∃ c0 c1 c2 c3, chs = [c0, c1, c2, c3] := by
  match chs, h with
  | [a, b, c, d], _ => exact ⟨a, b, c, d, rfl⟩
theorem own_ofNat4 {n : Nat} (h : n ≤ 5) : Int32.ofNat n = (4 : Int32) ↔ n = 4 := by
  have q : n = 0 ∨ n = 1 ∨ n = 2 ∨ n = 3 ∨ n = 4 ∨ n = 5 := by omega
  rcases q with rfl | rfl | rfl | rfl | rfl | rfl <;> decide
theorem own_mod6 (u : Int32) : (u &&& (7 : Int32)) % (6 : Int32) = 0 ∨ (u &&& (7 : Int32)) % (6 : Int32) = 1 ∨ (u &&& (7 : Int32)) % (6 : Int32) = 2 ∨ (u &&& (7 : Int32)) % (6 : Int32) = 3 ∨ (u &&& (7 : Int32)) % (6 : Int32) = 4 ∨ (u &&& (7 : Int32)) % (6 : Int32) = 5 := by
  have h1 := c_mask u 7 3 (by decide) (by decide +kernel)
  have h2 := (c_irem (u &&& (7 : Int32)) 6 6 rfl).1 (by rw [h1]; omega)
  rw [h1, show ((2 ^ 3 : Nat) : Int) = 8 from rfl] at h2
  have key : ∀ (y : Int32) (n : Nat), y.toInt = n → n < 6 → y = 0 ∨ y = 1 ∨ y = 2 ∨ y = 3 ∨ y = 4 ∨ y = 5 := fun y n hy hn => by
    have q : n = 0 ∨ n = 1 ∨ n = 2 ∨ n = 3 ∨ n = 4 ∨ n = 5 := by omega
    rcases q with rfl | rfl | rfl | rfl | rfl | rfl
    · exact Or.inl (Int32.toInt_inj.mp hy)
    · exact Or.inr (Or.inl (Int32.toInt_inj.mp hy))
    · exact Or.inr (Or.inr (Or.inl (Int32.toInt_inj.mp hy)))
    · exact Or.inr (Or.inr (Or.inr (Or.inl (Int32.toInt_inj.mp hy))))
    · exact Or.inr (Or.inr (Or.inr (Or.inr (Or.inl (Int32.toInt_inj.mp hy)))))
    · exact Or.inr (Or.inr (Or.inr (Or.inr (Or.inr (Int32.toInt_inj.mp hy)))))
  refine key _ ((u.toInt % 8) % 6).toNat ?_ ?_
  · rw [h2]; omega
  · omega
theorem own_and3 (u : Int32) : (u &&& (3 : Int32)) = 0 ∨ (u &&& (3 : Int32)) = 1 ∨ (u &&& (3 : Int32)) = 2 ∨ (u &&& (3 : Int32)) = 3 := by
  have h1 := c_mask u 3 2 (by decide) (by decide +kernel)
  rw [show ((2 ^ 2 : Nat) : Int) = 4 from rfl] at h1
  have q : u.toInt % 4 = 0 ∨ u.toInt % 4 = 1 ∨ u.toInt % 4 = 2 ∨ u.toInt % 4 = 3 := by omega
  rcases q with q | q | q | q <;> rw [q] at h1
  · exact Or.inl (Int32.toInt_inj.mp h1)
  · exact Or.inr (Or.inl (Int32.toInt_inj.mp h1))
  · exact Or.inr (Or.inr (Or.inl (Int32.toInt_inj.mp h1)))
  · exact Or.inr (Or.inr (Or.inr (Int32.toInt_inj.mp h1)))
theorem own_field {s : State} {args : Array Value} {t : Term} {C n d : String} {k : Int32} {a : Addr} (ev : t.eval args s none [] s = some (.ref a)) (h : (Jvm.Cond.eq (.field t C n d) (.int k)).value args s none s [] = some true) : Fld s s.heap a C n d (.int k) := by
  have e1 := Cond.eq_int (beq_iff_eq.mpr h : (Jvm.Cond.eq (.field t C n d) (.int k)).holds args s none s [] = true) rfl
  exact Fld.start (by rw [← fld_at (t := t) (args := args) (first := s) (o := none) (idx := []) ev]; exact e1)
theorem own_fieldR {s : State} {args : Array Value} {t : Term} {C n d : String} {a b : Addr} (ev : t.eval args s none [] s = some (.ref a)) (h : (Term.field t C n d).eval args s none [] s = some (.ref b)) : Fld s s.heap a C n d (.ref b) :=
  Fld.start (by rw [← fld_at (t := t) (args := args) (first := s) (o := none) (idx := []) ev]; exact h)
theorem own_eqref {s : State} {args : Array Value} {a b : Term} {x : Addr} (h : (Jvm.Cond.eq a b).value args s none s [] = some true) (e : b.eval args s none [] s = some (.ref x)) : a.eval args s none [] s = some (.ref x) := by
  obtain ⟨xv, yv, e1, e2, k1, k2⟩ := cmp_v (Or.inl h)
  obtain rfl : (Value.ref x) = yv := Option.some.inj (e.symm.trans e2)
  have q : xv = .ref x := gotT (eq_R e1 e2 k2.2 k2.1) h
  rw [e1, q]
theorem own_len {s : State} {args : Array Value} {t : Term} {k : Int32} {a : Addr} {cl : Cell} {ty : FieldType} (ev : t.eval args s none [] s = some (.ref a)) (A : Arr s s.heap a cl ty) (h : (Jvm.Cond.eq (.length t) (.int k)).value args s none s [] = some true) : cl.slots.size < 2 ^ 31 ∧ cl.slots.size.toInt32 = k :=
  Jvm.Free.IntBox.length_fwd (Cond.before_iff.mpr h) ev A.1 A.2.1 A.2.2
theorem own_elemI {s : State} {args : Array Value} {t : Term} {j k : Int32} {a : Addr} {cl : Cell} {ty : FieldType} (ev : t.eval args s none [] s = some (.ref a)) (A : Arr s s.heap a cl ty) (h : (Jvm.Cond.eq (.elem t (.int j)) (.int k)).value args s none s [] = some true) : cl.slots[j.toNatClampNeg]? = some (.int k) :=
  (elem_in (Cond.eq_int (beq_iff_eq.mpr h : (Jvm.Cond.eq (.elem t (.int j)) (.int k)).holds args s none s [] = true) rfl) ev rfl A.1).2
theorem own_kw {s : State} {args : Array Value} {t : Term} {b0 b1 b2 b3 : Int32} (hf : Fit s) (h1 : (Jvm.Cond.exactly t "java/lang/String").value args s none s [] = some true) (h2 : (Jvm.Cond.eq (.field t "java/lang/String" "coder" "B") (.int 0)).value args s none s [] = some true)
    (h3 : (Jvm.Cond.arrayOf (.field t "java/lang/String" "value" "[B") .byte).value args s none s [] = some true) (h4 : (Jvm.Cond.eq (.length (.field t "java/lang/String" "value" "[B")) (.int 4)).value args s none s [] = some true)
    (g0 : (Jvm.Cond.eq (.elem (.field t "java/lang/String" "value" "[B") (.int 0)) (.int b0)).value args s none s [] = some true) (g1 : (Jvm.Cond.eq (.elem (.field t "java/lang/String" "value" "[B") (.int 1)) (.int b1)).value args s none s [] = some true)
    (g2 : (Jvm.Cond.eq (.elem (.field t "java/lang/String" "value" "[B") (.int 2)) (.int b2)).value args s none s [] = some true) (g3 : (Jvm.Cond.eq (.elem (.field t "java/lang/String" "value" "[B") (.int 3)) (.int b3)).value args s none s [] = some true)
    (hlo : ([b0, b1, b2, b3] : List Int32).map StrChars.lo8 = [b0, b1, b2, b3]) (hp : ∀ c ∈ ([b0, b1, b2, b3] : List Int32), ¬ c < (0 : Int32) ∧ ¬ (255 : Int32) < c) : ∃ a, t.eval args s none [] s = some (.ref a) ∧ own_Str s s.heap a [b0, b1, b2, b3] := by
  obtain ⟨a, ev⟩ := exa_v h1
  obtain ⟨v, ev3⟩ := arr_v h3
  obtain ⟨cl, A⟩ := Arr.start ev3 h3
  obtain ⟨q1, q2⟩ := own_len ev3 A h4
  have H : HasL cl 0 [.int b0, .int b1, .int b2, .int b3] := ⟨own_elemI ev3 A g0, own_elemI ev3 A g1, own_elemI ev3 A g2, own_elemI ev3 A g3, trivial⟩
  have V := Arv.start (dv := .int (0 : Int32)) hf A q1 q2 (by decide) rfl H
  refine ⟨a, ev, v, cl.cls, Exa.start ev h1, own_field ev h2, own_fieldR ev ev3, ?_, hp, Nat.le_of_ble_eq_true rfl⟩
  rw [hlo]
  exact V
theorem os0_206 {z0 : Value} {z1 : Value} {z2 : Value} {z3 : Value} {z4 : Value} {z5 : Value} {z6 : Value} {z7 : Value} {z8 : Value} {z9 : Value} {z10 : Value} {z11 : Value} {z12 : Value} {z13 : Value} {z14 : Value} {z15 : Slot} (h : One z15) : storeLocals #[.val z0, .val z1, .val z2, .val z3, .val z4, .val z5, .val z6, .val z7, .val z8, .val z9, .val z10, .val z11, .val z12, .val z13, .val z14, z15, .unset, .unset, .unset, .unset] 15 .null = some #[.val z0, .val z1, .val z2, .val z3, .val z4, .val z5, .val z6, .val z7, .val z8, .val z9, .val z10, .val z11, .val z12, .val z13, .val z14, .val .null, .unset, .unset, .unset, .unset] := by
  rcases h with rfl | ⟨w, rfl, hw⟩
  · rfl
  · cases w <;> first | rfl | (simp [Value.category] at hw)
theorem pd_7 : parseMethodDescriptor "(ICCCCC)Ljava/lang/String;" = some ⟨[.int, .char, .char, .char, .char, .char], some (.object "java/lang/String")⟩ := by decide +kernel
theorem pd_6 : parseMethodDescriptor "(Ljava/lang/String;)Lcom/example/nogood/nogood/problem/InstanceFormat;" = some ⟨[(.object "java/lang/String")], some (.object "com/example/nogood/nogood/problem/InstanceFormat")⟩ := by decide +kernel
theorem pd_5 : parseMethodDescriptor "(I)C" = some ⟨[.int], some .char⟩ := by decide +kernel
theorem pd_4 : parseMethodDescriptor "()I" = some ⟨[], some .int⟩ := by decide +kernel
theorem dm2_14 : decode method_2_code 14 = .ok (.areturn, 1) := by decide +kernel
theorem dm2_11 : decode method_2_code 11 = .ok (.invokespecial 9, 3) := by decide +kernel
theorem dm2_9 : decode method_2_code 9 = .ok (.newarray .char, 2) := by decide +kernel
theorem dm2_8 : decode method_2_code 8 = .ok (.iconst 0, 1) := by decide +kernel
theorem dm2_7 : decode method_2_code 7 = .ok (.dup, 1) := by decide +kernel
theorem dm2_4 : decode method_2_code 4 = .ok (.new 7, 3) := by decide +kernel
theorem djdk_42_m3_9 : decode jdk_42_method_3_code 9 = .ok (.return_, 1) := by decide +kernel
theorem djdk_42_m3_6 : decode jdk_42_method_3_code 6 = .ok (.invokespecial 27, 3) := by decide +kernel
theorem djdk_42_m3_5 : decode jdk_42_method_3_code 5 = .ok (.aconst_null, 1) := by decide +kernel
theorem djdk_42_m3_4 : decode jdk_42_method_3_code 4 = .ok (.arraylength, 1) := by decide +kernel
theorem djdk_42_m3_3 : decode jdk_42_method_3_code 3 = .ok (.aload_n 1, 1) := by decide +kernel
theorem djdk_42_m3_2 : decode jdk_42_method_3_code 2 = .ok (.iconst 0, 1) := by decide +kernel
theorem djdk_42_m3_1 : decode jdk_42_method_3_code 1 = .ok (.aload_n 1, 1) := by decide +kernel
theorem djdk_42_m3_0 : decode jdk_42_method_3_code 0 = .ok (.aload_n 0, 1) := by decide +kernel
theorem pd_3 : parseMethodDescriptor "([CIILjava/lang/Void;)V" = some ⟨[(.array .char), .int, .int, (.object "java/lang/Void")], none⟩ := by decide +kernel
theorem djdk_42_m149_26 : decode jdk_42_method_149_code 26 = .ok (.return_, 1) := by decide +kernel
theorem djdk_42_m149_23 : decode jdk_42_method_149_code 23 = .ok (.putfield 15, 3) := by decide +kernel
theorem djdk_42_m149_20 : decode jdk_42_method_149_code 20 = .ok (.getfield 15, 3) := by decide +kernel
theorem djdk_42_m149_18 : decode jdk_42_method_149_code 18 = .ok (.ldc 7, 2) := by decide +kernel
theorem djdk_42_m149_17 : decode jdk_42_method_149_code 17 = .ok (.aload_n 0, 1) := by decide +kernel
theorem djdk_42_m149_14 : decode jdk_42_method_149_code 14 = .ok (.putfield 9, 3) := by decide +kernel
theorem djdk_42_m149_11 : decode jdk_42_method_149_code 11 = .ok (.getfield 9, 3) := by decide +kernel
theorem djdk_42_m149_9 : decode jdk_42_method_149_code 9 = .ok (.ldc 7, 2) := by decide +kernel
theorem djdk_42_m149_8 : decode jdk_42_method_149_code 8 = .ok (.aload_n 0, 1) := by decide +kernel
theorem djdk_42_m149_5 : decode jdk_42_method_149_code 5 = .ok (.ifCond .ne 22, 3) := by decide +kernel
theorem djdk_42_m149_4 : decode jdk_42_method_149_code 4 = .ok (.iload_n 3, 1) := by decide +kernel
theorem djdk_42_m149_1 : decode jdk_42_method_149_code 1 = .ok (.invokespecial 1, 3) := by decide +kernel
theorem djdk_42_m149_0 : decode jdk_42_method_149_code 0 = .ok (.aload_n 0, 1) := by decide +kernel
theorem dm2_152 : decode method_2_code 152 = .ok (.areturn, 1) := by decide +kernel
theorem dm2_149 : decode method_2_code 149 = .ok (.invokespecial 9, 3) := by decide +kernel
theorem dm2_148 : decode method_2_code 148 = .ok (.castore, 1) := by decide +kernel
theorem dm2_146 : decode method_2_code 146 = .ok (.iload 5, 2) := by decide +kernel
theorem dm2_145 : decode method_2_code 145 = .ok (.iconst 4, 1) := by decide +kernel
theorem dm2_144 : decode method_2_code 144 = .ok (.dup, 1) := by decide +kernel
theorem dm2_143 : decode method_2_code 143 = .ok (.castore, 1) := by decide +kernel
theorem dm2_141 : decode method_2_code 141 = .ok (.iload 4, 2) := by decide +kernel
theorem dm2_140 : decode method_2_code 140 = .ok (.iconst 3, 1) := by decide +kernel
theorem dm2_139 : decode method_2_code 139 = .ok (.dup, 1) := by decide +kernel
theorem dm2_138 : decode method_2_code 138 = .ok (.castore, 1) := by decide +kernel
theorem dm2_137 : decode method_2_code 137 = .ok (.iload_n 3, 1) := by decide +kernel
theorem dm2_136 : decode method_2_code 136 = .ok (.iconst 2, 1) := by decide +kernel
theorem dm2_135 : decode method_2_code 135 = .ok (.dup, 1) := by decide +kernel
theorem dm2_134 : decode method_2_code 134 = .ok (.castore, 1) := by decide +kernel
theorem dm2_133 : decode method_2_code 133 = .ok (.iload_n 2, 1) := by decide +kernel
theorem dm2_132 : decode method_2_code 132 = .ok (.iconst 1, 1) := by decide +kernel
theorem dm2_131 : decode method_2_code 131 = .ok (.dup, 1) := by decide +kernel
theorem dm2_130 : decode method_2_code 130 = .ok (.castore, 1) := by decide +kernel
theorem dm2_129 : decode method_2_code 129 = .ok (.iload_n 1, 1) := by decide +kernel
theorem dm2_128 : decode method_2_code 128 = .ok (.iconst 0, 1) := by decide +kernel
theorem dm2_127 : decode method_2_code 127 = .ok (.dup, 1) := by decide +kernel
theorem dm2_125 : decode method_2_code 125 = .ok (.newarray .char, 2) := by decide +kernel
theorem dm2_124 : decode method_2_code 124 = .ok (.iconst 5, 1) := by decide +kernel
theorem dm2_123 : decode method_2_code 123 = .ok (.dup, 1) := by decide +kernel
theorem dm2_120 : decode method_2_code 120 = .ok (.new 7, 3) := by decide +kernel
theorem dm2_119 : decode method_2_code 119 = .ok (.areturn, 1) := by decide +kernel
theorem dm2_116 : decode method_2_code 116 = .ok (.invokespecial 9, 3) := by decide +kernel
theorem dm2_115 : decode method_2_code 115 = .ok (.castore, 1) := by decide +kernel
theorem dm2_113 : decode method_2_code 113 = .ok (.iload 4, 2) := by decide +kernel
theorem dm2_112 : decode method_2_code 112 = .ok (.iconst 3, 1) := by decide +kernel
theorem dm2_111 : decode method_2_code 111 = .ok (.dup, 1) := by decide +kernel
theorem dm2_110 : decode method_2_code 110 = .ok (.castore, 1) := by decide +kernel
theorem dm2_109 : decode method_2_code 109 = .ok (.iload_n 3, 1) := by decide +kernel
theorem dm2_108 : decode method_2_code 108 = .ok (.iconst 2, 1) := by decide +kernel
theorem dm2_107 : decode method_2_code 107 = .ok (.dup, 1) := by decide +kernel
theorem dm2_106 : decode method_2_code 106 = .ok (.castore, 1) := by decide +kernel
theorem dm2_105 : decode method_2_code 105 = .ok (.iload_n 2, 1) := by decide +kernel
theorem dm2_104 : decode method_2_code 104 = .ok (.iconst 1, 1) := by decide +kernel
theorem dm2_103 : decode method_2_code 103 = .ok (.dup, 1) := by decide +kernel
theorem dm2_102 : decode method_2_code 102 = .ok (.castore, 1) := by decide +kernel
theorem dm2_101 : decode method_2_code 101 = .ok (.iload_n 1, 1) := by decide +kernel
theorem dm2_100 : decode method_2_code 100 = .ok (.iconst 0, 1) := by decide +kernel
theorem dm2_99 : decode method_2_code 99 = .ok (.dup, 1) := by decide +kernel
theorem dm2_97 : decode method_2_code 97 = .ok (.newarray .char, 2) := by decide +kernel
theorem dm2_96 : decode method_2_code 96 = .ok (.iconst 4, 1) := by decide +kernel
theorem dm2_95 : decode method_2_code 95 = .ok (.dup, 1) := by decide +kernel
theorem dm2_92 : decode method_2_code 92 = .ok (.new 7, 3) := by decide +kernel
theorem dm2_89 : decode method_2_code 89 = .ok (.if_icmp .ne 31, 3) := by decide +kernel
theorem dm2_88 : decode method_2_code 88 = .ok (.iconst 4, 1) := by decide +kernel
theorem dm2_87 : decode method_2_code 87 = .ok (.iload_n 0, 1) := by decide +kernel
theorem dm2_86 : decode method_2_code 86 = .ok (.areturn, 1) := by decide +kernel
theorem dm2_83 : decode method_2_code 83 = .ok (.invokespecial 9, 3) := by decide +kernel
theorem dm2_82 : decode method_2_code 82 = .ok (.castore, 1) := by decide +kernel
theorem dm2_81 : decode method_2_code 81 = .ok (.iload_n 3, 1) := by decide +kernel
theorem dm2_80 : decode method_2_code 80 = .ok (.iconst 2, 1) := by decide +kernel
theorem dm2_79 : decode method_2_code 79 = .ok (.dup, 1) := by decide +kernel
theorem dm2_78 : decode method_2_code 78 = .ok (.castore, 1) := by decide +kernel
theorem dm2_77 : decode method_2_code 77 = .ok (.iload_n 2, 1) := by decide +kernel
theorem dm2_76 : decode method_2_code 76 = .ok (.iconst 1, 1) := by decide +kernel
theorem dm2_75 : decode method_2_code 75 = .ok (.dup, 1) := by decide +kernel
theorem dm2_74 : decode method_2_code 74 = .ok (.castore, 1) := by decide +kernel
theorem dm2_73 : decode method_2_code 73 = .ok (.iload_n 1, 1) := by decide +kernel
theorem dm2_72 : decode method_2_code 72 = .ok (.iconst 0, 1) := by decide +kernel
theorem dm2_71 : decode method_2_code 71 = .ok (.dup, 1) := by decide +kernel
theorem dm2_69 : decode method_2_code 69 = .ok (.newarray .char, 2) := by decide +kernel
theorem dm2_68 : decode method_2_code 68 = .ok (.iconst 3, 1) := by decide +kernel
theorem dm2_67 : decode method_2_code 67 = .ok (.dup, 1) := by decide +kernel
theorem dm2_64 : decode method_2_code 64 = .ok (.new 7, 3) := by decide +kernel
theorem dm2_61 : decode method_2_code 61 = .ok (.if_icmp .ne 26, 3) := by decide +kernel
theorem dm2_60 : decode method_2_code 60 = .ok (.iconst 3, 1) := by decide +kernel
theorem dm2_59 : decode method_2_code 59 = .ok (.iload_n 0, 1) := by decide +kernel
theorem dm2_58 : decode method_2_code 58 = .ok (.areturn, 1) := by decide +kernel
theorem dm2_55 : decode method_2_code 55 = .ok (.invokespecial 9, 3) := by decide +kernel
theorem dm2_54 : decode method_2_code 54 = .ok (.castore, 1) := by decide +kernel
theorem dm2_53 : decode method_2_code 53 = .ok (.iload_n 2, 1) := by decide +kernel
theorem dm2_52 : decode method_2_code 52 = .ok (.iconst 1, 1) := by decide +kernel
theorem dm2_51 : decode method_2_code 51 = .ok (.dup, 1) := by decide +kernel
theorem dm2_50 : decode method_2_code 50 = .ok (.castore, 1) := by decide +kernel
theorem dm2_49 : decode method_2_code 49 = .ok (.iload_n 1, 1) := by decide +kernel
theorem dm2_48 : decode method_2_code 48 = .ok (.iconst 0, 1) := by decide +kernel
theorem dm2_47 : decode method_2_code 47 = .ok (.dup, 1) := by decide +kernel
theorem dm2_45 : decode method_2_code 45 = .ok (.newarray .char, 2) := by decide +kernel
theorem dm2_44 : decode method_2_code 44 = .ok (.iconst 2, 1) := by decide +kernel
theorem dm2_43 : decode method_2_code 43 = .ok (.dup, 1) := by decide +kernel
theorem dm2_40 : decode method_2_code 40 = .ok (.new 7, 3) := by decide +kernel
theorem dm2_37 : decode method_2_code 37 = .ok (.if_icmp .ne 22, 3) := by decide +kernel
theorem dm2_36 : decode method_2_code 36 = .ok (.iconst 2, 1) := by decide +kernel
theorem dm2_35 : decode method_2_code 35 = .ok (.iload_n 0, 1) := by decide +kernel
theorem dm2_34 : decode method_2_code 34 = .ok (.areturn, 1) := by decide +kernel
theorem dm2_31 : decode method_2_code 31 = .ok (.invokespecial 9, 3) := by decide +kernel
theorem dm2_30 : decode method_2_code 30 = .ok (.castore, 1) := by decide +kernel
theorem dm2_29 : decode method_2_code 29 = .ok (.iload_n 1, 1) := by decide +kernel
theorem dm2_28 : decode method_2_code 28 = .ok (.iconst 0, 1) := by decide +kernel
theorem dm2_27 : decode method_2_code 27 = .ok (.dup, 1) := by decide +kernel
theorem dm2_25 : decode method_2_code 25 = .ok (.newarray .char, 2) := by decide +kernel
theorem dm2_24 : decode method_2_code 24 = .ok (.iconst 1, 1) := by decide +kernel
theorem dm2_23 : decode method_2_code 23 = .ok (.dup, 1) := by decide +kernel
theorem dm2_20 : decode method_2_code 20 = .ok (.new 7, 3) := by decide +kernel
theorem dm2_17 : decode method_2_code 17 = .ok (.if_icmp .ne 18, 3) := by decide +kernel
theorem dm2_16 : decode method_2_code 16 = .ok (.iconst 1, 1) := by decide +kernel
theorem dm2_15 : decode method_2_code 15 = .ok (.iload_n 0, 1) := by decide +kernel
theorem dm2_1 : decode method_2_code 1 = .ok (.ifCond .ne 14, 3) := by decide +kernel
theorem dm2_0 : decode method_2_code 0 = .ok (.iload_n 0, 1) := by decide +kernel
theorem pd_2 : parseMethodDescriptor "([C)V" = some ⟨[(.array .char)], none⟩ := by decide +kernel
theorem pn_2 : plainName "com/example/nogood/nogood/problem/InstanceFormatNamedPinLaw" = true := by first | (simp [plainName, overriddenIn]; done) | decide +kernel
theorem dp29_m4_33 : decode prog_29_method_4_code 33 = .ok (.areturn, 1) := by decide +kernel
theorem dp29_m4_31 : decode prog_29_method_4_code 31 = .ok (.aload 4, 2) := by decide +kernel
theorem dp29_m4_41 : decode prog_29_method_4_code 41 = .ok (.areturn, 1) := by decide +kernel
theorem dp29_m4_40 : decode prog_29_method_4_code 40 = .ok (.aconst_null, 1) := by decide +kernel
theorem dp29_m4_37 : decode prog_29_method_4_code 37 = .ok (.goto (-28), 3) := by decide +kernel
theorem dp29_m4_34 : decode prog_29_method_4_code 34 = .ok (.iinc 3 1, 3) := by decide +kernel
theorem dp29_m4_28 : decode prog_29_method_4_code 28 = .ok (.ifCond .eq 6, 3) := by decide +kernel
theorem dp29_m4_25 : decode prog_29_method_4_code 25 = .ok (.invokevirtual 53, 3) := by decide +kernel
theorem dp29_m4_24 : decode prog_29_method_4_code 24 = .ok (.aload_n 0, 1) := by decide +kernel
theorem dp29_m4_21 : decode prog_29_method_4_code 21 = .ok (.getfield 29, 3) := by decide +kernel
theorem dp29_m4_19 : decode prog_29_method_4_code 19 = .ok (.aload 4, 2) := by decide +kernel
theorem dp29_m4_17 : decode prog_29_method_4_code 17 = .ok (.astore 4, 2) := by decide +kernel
theorem dp29_m4_16 : decode prog_29_method_4_code 16 = .ok (.aaload, 1) := by decide +kernel
theorem dp29_m4_15 : decode prog_29_method_4_code 15 = .ok (.iload_n 3, 1) := by decide +kernel
theorem dp29_m4_14 : decode prog_29_method_4_code 14 = .ok (.aload_n 1, 1) := by decide +kernel
theorem dp29_m4_11 : decode prog_29_method_4_code 11 = .ok (.if_icmp .ge 29, 3) := by decide +kernel
theorem dp29_m4_10 : decode prog_29_method_4_code 10 = .ok (.iload_n 2, 1) := by decide +kernel
theorem dp29_m4_9 : decode prog_29_method_4_code 9 = .ok (.iload_n 3, 1) := by decide +kernel
theorem dp29_m4_8 : decode prog_29_method_4_code 8 = .ok (.istore_n 3, 1) := by decide +kernel
theorem dp29_m4_7 : decode prog_29_method_4_code 7 = .ok (.iconst 0, 1) := by decide +kernel
theorem dp29_m4_6 : decode prog_29_method_4_code 6 = .ok (.istore_n 2, 1) := by decide +kernel
theorem dp29_m4_5 : decode prog_29_method_4_code 5 = .ok (.arraylength, 1) := by decide +kernel
theorem dp29_m4_4 : decode prog_29_method_4_code 4 = .ok (.aload_n 1, 1) := by decide +kernel
theorem dp29_m4_3 : decode prog_29_method_4_code 3 = .ok (.astore_n 1, 1) := by decide +kernel
theorem dp29_m4_0 : decode prog_29_method_4_code 0 = .ok (.invokestatic 49, 3) := by decide +kernel
theorem pd_1 : parseMethodDescriptor "(Ljava/lang/Object;)Z" = some ⟨[(.object "java/lang/Object")], some .boolean⟩ := by decide +kernel
theorem pd_0 : parseMethodDescriptor "()[Lcom/example/nogood/nogood/problem/InstanceFormat;" = some ⟨[], some (.array (.object "com/example/nogood/nogood/problem/InstanceFormat"))⟩ := by decide +kernel
theorem djdk_42_m66_55 : decode jdk_42_method_66_code 55 = .ok (.ireturn, 1) := by decide +kernel
theorem djdk_42_m66_54 : decode jdk_42_method_66_code 54 = .ok (.iconst 0, 1) := by decide +kernel
theorem djdk_42_m66_11 : decode jdk_42_method_66_code 11 = .ok (.ifCond .eq 43, 3) := by decide +kernel
theorem djdk_42_m66_8 : decode jdk_42_method_66_code 8 = .ok (.instanceof 10, 3) := by decide +kernel
theorem djdk_42_m66_7 : decode jdk_42_method_66_code 7 = .ok (.aload_n 1, 1) := by decide +kernel
theorem djdk_42_m66_2 : decode jdk_42_method_66_code 2 = .ok (.if_acmp .ne 5, 3) := by decide +kernel
theorem djdk_42_m66_1 : decode jdk_42_method_66_code 1 = .ok (.aload_n 1, 1) := by decide +kernel
theorem djdk_42_m66_0 : decode jdk_42_method_66_code 0 = .ok (.aload_n 0, 1) := by decide +kernel
theorem pn_1 : plainName "java/lang/String" = true := by first | (simp [plainName, overriddenIn]; done) | decide +kernel
theorem dp29_m1_9 : decode prog_29_method_1_code 9 = .ok (.areturn, 1) := by decide +kernel
theorem dp29_m1_6 : decode prog_29_method_1_code 6 = .ok (.checkcast 15, 3) := by decide +kernel
theorem dp29_m1_3 : decode prog_29_method_1_code 3 = .ok (.invokevirtual 14, 3) := by decide +kernel
theorem dp29_m1_0 : decode prog_29_method_1_code 0 = .ok (.getstatic 10, 3) := by decide +kernel
theorem pn_0 : plainName "com/example/nogood/nogood/problem/InstanceFormat" = true := by first | (simp [plainName, overriddenIn]; done) | decide +kernel
theorem ef_Vals (m : MethodId)  : entryFrame m #[] 0 = mkF m 0 #[] [] := by first | (simp [entryFrame, mkF, argsToLocals, Value.category]; done) | rfl
def QVals (Z : State) (va : Addr) (kv : ClassId) (aD : Addr) (aI : Addr) (h0 : Heap) (n0 : Nat) (v : Option Value) (h : Heap) (L : List Loc) : Prop := ∃ r, v = some (.ref r) ∧ Fr n0 L ∧ Keep h0 h [] ∧ Arv Z h r kv (.object "com/example/nogood/nogood/problem/InstanceFormat") (2 : Int32) [.ref aD, .ref aI] .null
set_option maxRecDepth 65536 in
set_option maxHeartbeats 40000000 in
theorem rmVals (l : Launch) (Z : State) (a0 : Array Value) (hw : ∀ d ∈ tables_1, d.before a0 Z = true) (ws : List Jvm.Cond) (va : Addr) (kv : ClassId) (aD : Addr) (aI : Addr) (h0 : Heap) (n0 : Nat) (Z0 : n0 ≤ h0.size) (S_V : Sta Z Z.heap "com/example/nogood/nogood/problem/InstanceFormat" "$VALUES" "[Lcom/example/nogood/nogood/problem/InstanceFormat;" (.ref va)) (VV : Arv Z Z.heap va kv (.object "com/example/nogood/nogood/problem/InstanceFormat") (2 : Int32) [.ref aD, .ref aI] .null) (EV : Exa Z Z.heap va "[Lcom/example/nogood/nogood/problem/InstanceFormat;") (XO : Old Z n0 h0) :
    MetFree l (⟨"com/example/nogood/nogood/problem/InstanceFormat", "values", "()[Lcom/example/nogood/nogood/problem/InstanceFormat;"⟩ : MethodName) (head1 (Jvm.Cond.code (⟨"com/example/nogood/nogood/problem/InstanceFormat", "values", "()[Lcom/example/nogood/nogood/problem/InstanceFormat;"⟩ : MethodName) prog_29_method_1_code 0 (some (.array (.object "com/example/nogood/nogood/problem/InstanceFormat"))) :: ws) ({ frames := 1, cells := 1, slots := 2, locals := 14 } : Room)) (fun A_ U => A_ = #[] ∧ Z.Warmed39 U.vm ∧ U.heap = h0) (fun _ _ _ _ _ => True) (fun _ U o U' => ∃ v L, o = .returned v ∧ QVals Z va kv aD aI h0 n0 v U'.heap L ∧ FrameEnd U o U' L ({ frames := 1, cells := 1, slots := 2, locals := 14 } : Room).cells ({ frames := 1, cells := 1, slots := 2, locals := 14 } : Room).slots) := by
  refine MetFree.of_bodySF (plainFor_of_name pn_0) hisR ?_
  intro p e s m args below meth c s₁ Bd hml0 hP hK
  obtain ⟨rfl, hZ, hh⟩ := hP
  have hx := Bd.exec
  have hby := Bd.bytes
  have hml : c.maxLocals = 0 := hml0
  have hown : s.vm.findClass "com/example/nogood/nogood/problem/InstanceFormat" = some m.cls := findClass_of_methodNamed Bd.named
  have hnm := (name_of_methodNamed Bd.named Bd.method).1
  have X0 : Stand p l e ({ frames := 1, cells := 1, slots := 2, locals := 14 } : Room) s m #[] below meth c s₁ [] 0 0 := Stand.of_body Bd
  have e0 : s₁.heap = h0 := by rw [← hh, Bd.state]; rfl
  have N0 := Fr.nil n0
  have k0 : ∀ t, Steps p.tables e below (s₁.setTop (mkF m 0 #[] [])) t → Steps p.tables e below (s₁.setTop (entryFrame m #[] 0)) t := fun t k => castTop (ef_Vals m ) k
  obtain ⟨T1, X1, e1, st1⟩ := getS (host := "") X0 hx hZ hown (hw _ (List.mem_of_getElem? (i := 44) rfl)) Via.refl e0 (S_V.ext XO.2) (g := (mkF m 0 #[] [])) rfl (hb hby dp29_m1_0)
  have k1 : ∀ t, Steps p.tables e below (T1.setTop (mkF m 3 #[] [(.ref va)])) t → Steps p.tables e below (s₁.setTop (entryFrame m #[] 0)) t := fun t k => k0 t (st1 _ k)
  obtain ⟨T2, h2, X2, e2, E2, V2, A2, st2⟩ := cloneH X1 hx hZ hown (hw _ (List.mem_of_getElem? (i := 46) rfl)) (hw _ (List.mem_of_getElem? (i := 47) rfl)) (hw _ (List.mem_of_getElem? (i := 51) rfl)) (hw _ (List.mem_of_getElem? (i := 49) rfl)) (hw _ (List.mem_of_getElem? (i := 50) rfl)) (hw _ (List.mem_of_getElem? (i := 52) rfl)) e1 (VV.ext XO.2).arh (EV.ext XO.2) (g := (mkF m 3 #[] [(.ref va)])) rfl (by rw [hml]; rfl) rfl (hb hby dp29_m1_3) (by decide) (W := 0) (cap := 2) (by show 2 * 0 + _ ≤ _; exact Nat.le_of_eq rfl) (by decide) (by decide) (by decide) (by decide)
  obtain ⟨b2, g2⟩ : ∃ z, z = h0.size := ⟨_, rfl⟩
  rw [← g2] at A2 V2 st2
  have g_b2 : n0 ≤ b2 := Nat.le_trans Z0 (Nat.le_of_eq g2.symm)
  have sz_b2 : h0.size ≤ b2 := Nat.le_trans (Keep.refl h0 []).1 (Nat.le_of_eq g2.symm)
  have k2 : ∀ t, Steps p.tables e below (T2.setTop (mkF m 6 #[] [(.ref b2)])) t → Steps p.tables e below (s₁.setTop (entryFrame m #[] 0)) t := fun t k => k1 t (st2 _ k)
  have Z3 : n0 ≤ h2.size := Nat.le_trans Z0 E2.1
  obtain ⟨T4, X4, e4, st4⟩ := castY X2 hx hZ hown (hw _ (List.mem_of_getElem? (i := 56) rfl)) e2 (Ins.self A2) (g := (mkF m 6 #[] [(.ref b2)])) rfl rfl (hb hby dp29_m1_6)
  have k4 : ∀ t, Steps p.tables e below (T4.setTop (mkF m 9 #[] [(.ref b2)])) t → Steps p.tables e below (s₁.setTop (entryFrame m #[] 0)) t := fun t k => k2 t (st4 _ k)
  have kp5 : Keep h0 h2 [] := ((Keep.refl h0 []).ext E2)
  obtain ⟨fs, hr, hrun, hended, hW, hsame⟩ := X4.leave (v := some (.ref b2)) (fun h => by rw [Bd.returns] at h; cases h)
  refine ⟨_, _, k4 _ ?_, hrun, hended, _, _, rfl, ?_, ⟨_, rfl⟩, hW, hsame.mono (Nat.le_of_ble_eq_true rfl) (Nat.le_of_ble_eq_true rfl)⟩
  · exact retOut X4 hx Bd.returns rfl (Or.inr (Or.inr (Or.inr (Or.inr ⟨rfl, rfl, rfl⟩)))) (hb hby dp29_m1_9) hr
  · show QVals Z va kv aD aI h0 n0 _ T4.heap _
    rw [e4]
    exact ⟨_, rfl, N0, kp5, V2⟩
theorem ef_EqN (m : MethodId) (x0 : Addr) : entryFrame m #[(.ref x0), .null] 3 = mkF m 0 #[.val (.ref x0), .val .null, .unset] [] := by first | (simp [entryFrame, mkF, argsToLocals, Value.category]; done) | rfl
def QEqN (Z : State) (a : Addr) (h0 : Heap) (n0 : Nat) (v : Option Value) (h : Heap) (L : List Loc) : Prop := v = some (.int 0) ∧ Fr n0 L ∧ h = h0
set_option maxRecDepth 65536 in
set_option maxHeartbeats 40000000 in
theorem rmEqN (l : Launch) (Z : State) (a0 : Array Value) (hw : ∀ d ∈ tables_1, d.before a0 Z = true) (ws : List Jvm.Cond) (a : Addr) (h0 : Heap) (n0 : Nat) (Z0 : n0 ≤ h0.size)  :
    MetFree l (⟨"java/lang/String", "equals", "(Ljava/lang/Object;)Z"⟩ : MethodName) (head1 (Jvm.Cond.code (⟨"java/lang/String", "equals", "(Ljava/lang/Object;)Z"⟩ : MethodName) jdk_42_method_66_code 3 (some .boolean) :: ws) ({ frames := 0, cells := 0, slots := 0, locals := 0 } : Room)) (fun A_ U => A_ = #[(.ref a), .null] ∧ Z.Warmed39 U.vm ∧ U.heap = h0) (fun _ _ _ _ _ => True) (fun _ U o U' => ∃ v L, o = .returned v ∧ QEqN Z a h0 n0 v U'.heap L ∧ FrameEnd U o U' L ({ frames := 0, cells := 0, slots := 0, locals := 0 } : Room).cells ({ frames := 0, cells := 0, slots := 0, locals := 0 } : Room).slots) := by
  refine MetFree.of_bodySF (plainFor_of_name pn_1) hisR ?_
  intro p e s m args below meth c s₁ Bd hml0 hP hK
  obtain ⟨rfl, hZ, hh⟩ := hP
  have hx := Bd.exec
  have hby := Bd.bytes
  have hml : c.maxLocals = 3 := hml0
  have hown : s.vm.findClass "java/lang/String" = some m.cls := findClass_of_methodNamed Bd.named
  have hnm := (name_of_methodNamed Bd.named Bd.method).1
  have X0 : Stand p l e ({ frames := 0, cells := 0, slots := 0, locals := 0 } : Room) s m #[(.ref a), .null] below meth c s₁ [] 0 0 := Stand.of_body Bd
  have e0 : s₁.heap = h0 := by rw [← hh, Bd.state]; rfl
  have N0 := Fr.nil n0
  have k0 : ∀ t, Steps p.tables e below (s₁.setTop (mkF m 0 #[.val (.ref a), .val .null, .unset] [])) t → Steps p.tables e below (s₁.setTop (entryFrame m #[(.ref a), .null] 3)) t := fun t k => castTop (ef_EqN m a) k
  have k1 : ∀ t, Steps p.tables e below (s₁.setTop (mkF m 55 #[.val (.ref a), .val .null, .unset] [(.int (0 : Int32))])) t → Steps p.tables e below (s₁.setTop (entryFrame m #[(.ref a), .null] 3)) t := by
    intro t k
    refine k0 _ ?_
    show Steps p.tables e below (s₁.setTop (mkF m 0 #[.val (.ref a), .val .null, .unset] [])) _
    refine XS.aloadN X0.here hx rfl (hb hby djdk_42_m66_0) rfl rfl ?_
    show Steps p.tables e below (s₁.setTop (mkF m 1 #[.val (.ref a), .val .null, .unset] [(.ref a)])) _
    refine XS.aloadN X0.here hx rfl (hb hby djdk_42_m66_1) rfl rfl ?_
    show Steps p.tables e below (s₁.setTop (mkF m 2 #[.val (.ref a), .val .null, .unset] [.null, (.ref a)])) _
    refine Jvm.RoadKit.acmp (g := (mkF m 2 #[.val (.ref a), .val .null, .unset] [.null, (.ref a)])) X0 hx rfl rfl rfl (pc0 := 2) (pc' := 7) (same := false) rfl (hb hby djdk_42_m66_2) rfl (decide_eq_false nofun) (by decide) (by decide) ?_
    show Steps p.tables e below (s₁.setTop (mkF m 7 #[.val (.ref a), .val .null, .unset] [])) _
    refine XS.aloadN X0.here hx rfl (hb hby djdk_42_m66_7) rfl rfl ?_
    show Steps p.tables e below (s₁.setTop (mkF m 8 #[.val (.ref a), .val .null, .unset] [.null])) _
    refine X0.instanceofNull hx (g := (mkF m 8 #[.val (.ref a), .val .null, .unset] [.null])) rfl rfl (hb hby djdk_42_m66_8) _ ?_
    show Steps p.tables e below (s₁.setTop (mkF m 11 #[.val (.ref a), .val .null, .unset] [(.int (0 : Int32))])) _
    refine XS.ifYes X0.here hx rfl (pc0 := 11) (pc' := 54) rfl (hb hby djdk_42_m66_11) rfl ((if0 _ _).trans (teq (rfl : (0 : Int32) = 0)).1) (by decide) (by decide) ?_
    show Steps p.tables e below (s₁.setTop (mkF m 54 #[.val (.ref a), .val .null, .unset] [])) _
    refine XS.iconst X0.here hx rfl (hb hby djdk_42_m66_54) ?_
    show Steps p.tables e below (s₁.setTop (mkF m 55 #[.val (.ref a), .val .null, .unset] [(.int (0 : Int32))])) _
    exact k
  obtain ⟨fs, hr, hrun, hended, hW, hsame⟩ := X0.leave (v := some (.int (0 : Int32))) (fun h => by rw [Bd.returns] at h; cases h)
  refine ⟨_, _, k1 _ ?_, hrun, hended, _, _, rfl, ?_, ⟨_, rfl⟩, hW, hsame.mono (Nat.le_of_ble_eq_true rfl) (Nat.le_of_ble_eq_true rfl)⟩
  · exact retN X0 hx (t := .boolean) Bd.returns (by simp) (hb hby djdk_42_m66_55) hr
  · show QEqN Z a h0 n0 _ s₁.heap _
    rw [e0]
    exact ⟨rfl, N0, rfl⟩
theorem ef_NamS (m : MethodId) (x0 : Addr) : entryFrame m #[(.ref x0)] 5 = mkF m 0 #[.val (.ref x0), .unset, .unset, .unset, .unset] [] := by first | (simp [entryFrame, mkF, argsToLocals, Value.category]; done) | rfl
def QNamS (Z : State) (sr : Addr) (chs : List Int32) (va : Addr) (kv : ClassId) (aD : Addr) (aI : Addr) (kD : Addr) (kI : Addr) (cs : Int32) (h0 : Heap) (n0 : Nat) (v : Option Value) (h : Heap) (L : List Loc) : Prop := v = some (own_nm chs aD aI) ∧ Fr n0 L ∧ Keep h0 h []
set_option maxRecDepth 65536 in
set_option maxHeartbeats 40000000 in
theorem rmNamS (l : Launch) (Z : State) (a0 : Array Value) (hw : ∀ d ∈ tables_1, d.before a0 Z = true) (ws : List Jvm.Cond) (sr : Addr) (chs : List Int32) (va : Addr) (kv : ClassId) (aD : Addr) (aI : Addr) (kD : Addr) (kI : Addr) (cs : Int32) (h0 : Heap) (n0 : Nat) (Z0 : n0 ≤ h0.size) (S_V : Sta Z Z.heap "com/example/nogood/nogood/problem/InstanceFormat" "$VALUES" "[Lcom/example/nogood/nogood/problem/InstanceFormat;" (.ref va)) (VV : Arv Z Z.heap va kv (.object "com/example/nogood/nogood/problem/InstanceFormat") (2 : Int32) [.ref aD, .ref aI] .null) (EV : Exa Z Z.heap va "[Lcom/example/nogood/nogood/problem/InstanceFormat;") (XO : Old Z n0 h0) (FD : Fld Z Z.heap aD "com/example/nogood/nogood/problem/InstanceFormat" "keyword" "Ljava/lang/String;" (.ref kD)) (FI : Fld Z Z.heap aI "com/example/nogood/nogood/problem/InstanceFormat" "keyword" "Ljava/lang/String;" (.ref kI)) (TD : own_Str Z Z.heap kD [(100 : Int32), (99 : Int32), (115 : Int32), (112 : Int32)]) (TI : own_Str Z Z.heap kI [(101 : Int32), (100 : Int32), (103 : Int32), (101 : Int32)]) (S1 : Sta Z Z.heap "java/lang/String" "COMPACT_STRINGS" "Z" (.int cs)) (hcs : ¬ cs = (0 : Int32)) (TS : own_Str Z h0 sr chs) :
    MetFree l (⟨"com/example/nogood/nogood/problem/InstanceFormat", "named", "(Ljava/lang/String;)Lcom/example/nogood/nogood/problem/InstanceFormat;"⟩ : MethodName) (head1 (Jvm.Cond.code (⟨"com/example/nogood/nogood/problem/InstanceFormat", "named", "(Ljava/lang/String;)Lcom/example/nogood/nogood/problem/InstanceFormat;"⟩ : MethodName) prog_29_method_4_code 5 (some (.object "com/example/nogood/nogood/problem/InstanceFormat")) :: ws) ({ frames := 2, cells := 1, slots := 2, locals := 28 } : Room)) (fun A_ U => A_ = #[(.ref sr)] ∧ Z.Warmed39 U.vm ∧ U.heap = h0) (fun _ _ _ _ _ => True) (fun _ U o U' => ∃ v L, o = .returned v ∧ QNamS Z sr chs va kv aD aI kD kI cs h0 n0 v U'.heap L ∧ FrameEnd U o U' L ({ frames := 2, cells := 1, slots := 2, locals := 28 } : Room).cells ({ frames := 2, cells := 1, slots := 2, locals := 28 } : Room).slots) := by
  refine MetFree.of_bodySF (plainFor_of_name pn_0) hisR ?_
  intro p e s m args below meth c s₁ Bd hml0 hP hK
  obtain ⟨rfl, hZ, hh⟩ := hP
  have hx := Bd.exec
  have hby := Bd.bytes
  have hml : c.maxLocals = 5 := hml0
  have hown : s.vm.findClass "com/example/nogood/nogood/problem/InstanceFormat" = some m.cls := findClass_of_methodNamed Bd.named
  have hnm := (name_of_methodNamed Bd.named Bd.method).1
  have X0 : Stand p l e ({ frames := 2, cells := 1, slots := 2, locals := 28 } : Room) s m #[(.ref sr)] below meth c s₁ [] 0 0 := Stand.of_body Bd
  have e0 : s₁.heap = h0 := by rw [← hh, Bd.state]; rfl
  have N0 := Fr.nil n0
  have k0 : ∀ t, Steps p.tables e below (s₁.setTop (mkF m 0 #[.val (.ref sr), .unset, .unset, .unset, .unset] [])) t → Steps p.tables e below (s₁.setTop (entryFrame m #[(.ref sr)] 5)) t := fun t k => castTop (ef_NamS m sr) k
  obtain ⟨_, _, ⟨T1, L1, ck1, nk1⟩, -, X1, ⟨Lc1, hQ1, l1, y1, z1⟩, st1⟩ := Jvm.LawKit.callS X0 hx (y := (⟨"com/example/nogood/nogood/problem/InstanceFormat", "values", "()[Lcom/example/nogood/nogood/problem/InstanceFormat;"⟩ : MethodName)) hown (mvT hZ (hw _ (List.mem_of_getElem? (i := 41) rfl))) (mvT hZ (hw _ (List.mem_of_getElem? (i := 42) rfl))) (mvT hZ (hw _ (List.mem_of_getElem? (i := 39) rfl))) (mvT hZ (hw _ (List.mem_of_getElem? (i := 43) rfl))) (by decide) (backOf (W := 0) (rmVals l Z a0 hw [] va kv aD aI h0 n0 Z0 S_V VV EV XO) hZ (hw _ (List.mem_of_getElem? (i := 43) rfl)) (hw _ (List.mem_of_getElem? (i := 39) rfl)) (by decide) (by decide)) (g := (mkF m 0 #[.val (.ref sr), .unset, .unset, .unset, .unset] [])) rfl (by rw [hml]; rfl) (argsL := []) (rest := []) (lenOf pd_0 rfl) rfl (by show 2 * 0 + _ ≤ _; exact Nat.le_of_eq rfl) (hb hby dp29_m4_0) (fun _ _ => ⟨rfl, e0, (by decide : 0 + 1 ≤ _), (by decide : 0 + 2 ≤ _)⟩)
  dsimp only [Pt.U, Pt.locs, Pt.cells, Pt.slots] at X1 l1 y1 z1 st1 hQ1
  subst l1 y1 z1
  obtain ⟨r1, rfl, N1q, K1, V1⟩ := hQ1
  have N1 := Fr.app N0 N1q
  have k1 : ∀ t, Steps p.tables e below (T1.setTop (mkF m 3 #[.val (.ref sr), .unset, .unset, .unset, .unset] [(.ref r1)])) t → Steps p.tables e below (s₁.setTop (entryFrame m #[(.ref sr)] 5)) t := fun t k => k0 t (st1 _ k)
  have Z2 : n0 ≤ T1.heap.size := Nat.le_trans Z0 K1.1
  obtain ⟨cl3, Ar3, qk3, Sz3, Nn3, Hs3, Gs3⟩ := id V1
  obtain ⟨cl4, Ar4, qk4, Sz4, Nn4, Hs4, Gs4⟩ := id V1
  have k5 : ∀ t, Steps p.tables e below (T1.setTop (mkF m 21 #[.val (.ref sr), .val (.ref r1), .val (.int (2 : Int32)), .val (.int (0 : Int32)), .val (.ref aD)] [(.ref aD)])) t → Steps p.tables e below (s₁.setTop (entryFrame m #[(.ref sr)] 5)) t := by
    intro t k
    refine k1 _ ?_
    show Steps p.tables e below (T1.setTop (mkF m 3 #[.val (.ref sr), .unset, .unset, .unset, .unset] [(.ref r1)])) _
    refine XS.astoreN X1.here hx rfl (hb hby dp29_m4_3) rfl rfl (l' := #[.val (.ref sr), .val (.ref r1), .unset, .unset, .unset]) rfl ?_
    show Steps p.tables e below (T1.setTop (mkF m 4 #[.val (.ref sr), .val (.ref r1), .unset, .unset, .unset] [])) _
    refine XS.aloadN X1.here hx rfl (hb hby dp29_m4_4) rfl rfl ?_
    show Steps p.tables e below (T1.setTop (mkF m 5 #[.val (.ref sr), .val (.ref r1), .unset, .unset, .unset] [(.ref r1)])) _
    refine X1.arraylength hx Ar3.1 (State.isArrayOf_alike hZ.alike Ar3.2.1) (g := (mkF m 5 #[.val (.ref sr), .val (.ref r1), .unset, .unset, .unset] [(.ref r1)])) rfl rfl (hb hby dp29_m4_5) _ ?_
    rw [len_of Sz3 Nn3]
    show Steps p.tables e below (T1.setTop (mkF m 6 #[.val (.ref sr), .val (.ref r1), .unset, .unset, .unset] [(.int (2 : Int32))])) _
    refine XS.istoreN X1.here hx rfl (hb hby dp29_m4_6) rfl (l' := #[.val (.ref sr), .val (.ref r1), .val (.int (2 : Int32)), .unset, .unset]) rfl ?_
    show Steps p.tables e below (T1.setTop (mkF m 7 #[.val (.ref sr), .val (.ref r1), .val (.int (2 : Int32)), .unset, .unset] [])) _
    refine XS.iconst X1.here hx rfl (hb hby dp29_m4_7) ?_
    show Steps p.tables e below (T1.setTop (mkF m 8 #[.val (.ref sr), .val (.ref r1), .val (.int (2 : Int32)), .unset, .unset] [(.int (0 : Int32))])) _
    refine XS.istoreN X1.here hx rfl (hb hby dp29_m4_8) rfl (l' := #[.val (.ref sr), .val (.ref r1), .val (.int (2 : Int32)), .val (.int (0 : Int32)), .unset]) rfl ?_
    show Steps p.tables e below (T1.setTop (mkF m 9 #[.val (.ref sr), .val (.ref r1), .val (.int (2 : Int32)), .val (.int (0 : Int32)), .unset] [])) _
    refine XS.iloadN X1.here hx rfl (hb hby dp29_m4_9) rfl ?_
    show Steps p.tables e below (T1.setTop (mkF m 10 #[.val (.ref sr), .val (.ref r1), .val (.int (2 : Int32)), .val (.int (0 : Int32)), .unset] [(.int (0 : Int32))])) _
    refine XS.iloadN X1.here hx rfl (hb hby dp29_m4_10) rfl ?_
    show Steps p.tables e below (T1.setTop (mkF m 11 #[.val (.ref sr), .val (.ref r1), .val (.int (2 : Int32)), .val (.int (0 : Int32)), .unset] [(.int (2 : Int32)), (.int (0 : Int32))])) _
    refine XS.icmpNo X1.here hx rfl (hb hby dp29_m4_11) rfl (tlt (by decide)).2.1 ?_
    show Steps p.tables e below (T1.setTop (mkF m 14 #[.val (.ref sr), .val (.ref r1), .val (.int (2 : Int32)), .val (.int (0 : Int32)), .unset] [])) _
    refine XS.aloadN X1.here hx rfl (hb hby dp29_m4_14) rfl rfl ?_
    show Steps p.tables e below (T1.setTop (mkF m 15 #[.val (.ref sr), .val (.ref r1), .val (.int (2 : Int32)), .val (.int (0 : Int32)), .unset] [(.ref r1)])) _
    refine XS.iloadN X1.here hx rfl (hb hby dp29_m4_15) rfl ?_
    show Steps p.tables e below (T1.setTop (mkF m 16 #[.val (.ref sr), .val (.ref r1), .val (.int (2 : Int32)), .val (.int (0 : Int32)), .unset] [(.int (0 : Int32)), (.ref r1)])) _
    refine X1.aaload hx (j := (0 : Int32)) (v := (.ref aD)) Ar4.1 (State.isArrayOf_alike hZ.alike Ar4.2.1) rfl Ar4.2.2 (inb_of Sz4 ⟨(by decide : ¬ ((0 : Int32) < (0 : Int32))), (by decide : (0 : Int32) < (2 : Int32))⟩) (Has.at Hs4 (inb_of Sz4 ⟨(by decide : ¬ ((0 : Int32) < (0 : Int32))), (by decide : (0 : Int32) < (2 : Int32))⟩) rfl) (g := (mkF m 16 #[.val (.ref sr), .val (.ref r1), .val (.int (2 : Int32)), .val (.int (0 : Int32)), .unset] [(.int (0 : Int32)), (.ref r1)])) rfl rfl (hb hby dp29_m4_16) _ ?_
    show Steps p.tables e below (T1.setTop (mkF m 17 #[.val (.ref sr), .val (.ref r1), .val (.int (2 : Int32)), .val (.int (0 : Int32)), .unset] [(.ref aD)])) _
    refine XS.astore X1.here hx rfl (hb hby dp29_m4_17) rfl rfl (l' := #[.val (.ref sr), .val (.ref r1), .val (.int (2 : Int32)), .val (.int (0 : Int32)), .val (.ref aD)]) rfl ?_
    show Steps p.tables e below (T1.setTop (mkF m 19 #[.val (.ref sr), .val (.ref r1), .val (.int (2 : Int32)), .val (.int (0 : Int32)), .val (.ref aD)] [])) _
    refine XS.aload X1.here hx rfl (hb hby dp29_m4_19) rfl rfl ?_
    show Steps p.tables e below (T1.setTop (mkF m 21 #[.val (.ref sr), .val (.ref r1), .val (.int (2 : Int32)), .val (.int (0 : Int32)), .val (.ref aD)] [(.ref aD)])) _
    exact k
  have od7 : Old Z n0 T1.heap := (XO.keep K1 all0)
  obtain ⟨T6, X6, e6, st6⟩ := getF X1 hx hZ hown (host := "") (Or.inl (hw _ (List.mem_of_getElem? (i := 58) rfl))) Via.refl rfl (FD.ext od7.2) (g := (mkF m 21 #[.val (.ref sr), .val (.ref r1), .val (.int (2 : Int32)), .val (.int (0 : Int32)), .val (.ref aD)] [(.ref aD)])) rfl rfl (hb hby dp29_m4_21)
  have k6 : ∀ t, Steps p.tables e below (T6.setTop (mkF m 24 #[.val (.ref sr), .val (.ref r1), .val (.int (2 : Int32)), .val (.int (0 : Int32)), .val (.ref aD)] [(.ref kD)])) t → Steps p.tables e below (s₁.setTop (entryFrame m #[(.ref sr)] 5)) t := fun t k => k5 t (st6 _ k)
  have f8 := (TS.keep0 K1)
  have k9 : ∀ t, Steps p.tables e below (T6.setTop (mkF m 25 #[.val (.ref sr), .val (.ref r1), .val (.int (2 : Int32)), .val (.int (0 : Int32)), .val (.ref aD)] [(.ref sr), (.ref kD)])) t → Steps p.tables e below (s₁.setTop (entryFrame m #[(.ref sr)] 5)) t := by
    intro t k
    refine k6 _ ?_
    show Steps p.tables e below (T6.setTop (mkF m 24 #[.val (.ref sr), .val (.ref r1), .val (.int (2 : Int32)), .val (.int (0 : Int32)), .val (.ref aD)] [(.ref kD)])) _
    refine XS.aloadN X6.here hx rfl (hb hby dp29_m4_24) rfl rfl ?_
    show Steps p.tables e below (T6.setTop (mkF m 25 #[.val (.ref sr), .val (.ref r1), .val (.int (2 : Int32)), .val (.int (0 : Int32)), .val (.ref aD)] [(.ref sr), (.ref kD)])) _
    exact k
  obtain ⟨cq10, kq10, q10a, q10b, q10c⟩ := isOf hZ e6 ((own_Str.exa TD).ext od7.2)
  obtain ⟨_, _, ⟨T10, L10, ck10, nk10⟩, -, X10, ⟨Lc10, hQ10, l10, y10, z10⟩, st10⟩ := X6.virtualBack hx (y := (⟨"java/lang/String", "equals", "(Ljava/lang/Object;)Z"⟩ : MethodName)) (z := (⟨"java/lang/String", "equals", "(Ljava/lang/Object;)Z"⟩ : MethodName)) hown (mvT hZ (hw _ (List.mem_of_getElem? (i := 60) rfl))) (mvT hZ (hw _ (List.mem_of_getElem? (i := 61) rfl))) (notFace_of_selects (args := #[]) (mvT hZ (hw _ (List.mem_of_getElem? (i := 63) rfl)))) (mvT hZ (hw _ (List.mem_of_getElem? (i := 63) rfl))) (mvT hZ (hw _ (List.mem_of_getElem? (i := 62) rfl))) (by decide) (own_eqB (W := 0) hZ hw (TD.ext od7.2) f8 (S1.ext od7.2) hcs (by decide) (by decide)) q10a q10c (g := (mkF m 25 #[.val (.ref sr), .val (.ref r1), .val (.int (2 : Int32)), .val (.int (0 : Int32)), .val (.ref aD)] [(.ref sr), (.ref kD)])) rfl (by rw [hml]; rfl) (Steps.refl _) (argsL := [(.ref sr)]) (rest := []) (lenOf pd_1 rfl) rfl (by show 2 * 0 + _ ≤ _; exact Nat.le_of_eq rfl) (hb hby dp29_m4_25) (fun _ _ => ⟨rfl, e6, (by decide : 1 + 0 ≤ _), (by decide : 2 + 0 ≤ _)⟩)
  dsimp only [Pt.U, Pt.locs, Pt.cells, Pt.slots] at X10 l10 y10 z10 st10 hQ10
  subst l10 y10 z10
  obtain ⟨rfl, rfl, e10⟩ := hQ10
  have N10 := Fr.app N1 (Fr.nil n0)
  have k10 : ∀ t, Steps p.tables e below (T10.setTop (mkF m 28 #[.val (.ref sr), .val (.ref r1), .val (.int (2 : Int32)), .val (.int (0 : Int32)), .val (.ref aD)] [(.int (own_b [(100 : Int32), (99 : Int32), (115 : Int32), (112 : Int32)] chs))])) t → Steps p.tables e below (s₁.setTop (entryFrame m #[(.ref sr)] 5)) t := fun t k => k9 t (st10.trans k)
  by_cases hb0 : (own_b [(100 : Int32), (99 : Int32), (115 : Int32), (112 : Int32)] chs) = (0 : Int32)
  · obtain ⟨cl11, Ar11, qk11, Sz11, Nn11, Hs11, Gs11⟩ := id V1
    have k12 : ∀ t, Steps p.tables e below (T10.setTop (mkF m 21 #[.val (.ref sr), .val (.ref r1), .val (.int (2 : Int32)), .val (.int (1 : Int32)), .val (.ref aI)] [(.ref aI)])) t → Steps p.tables e below (s₁.setTop (entryFrame m #[(.ref sr)] 5)) t := by
      intro t k
      refine k10 _ ?_
      show Steps p.tables e below (T10.setTop (mkF m 28 #[.val (.ref sr), .val (.ref r1), .val (.int (2 : Int32)), .val (.int (0 : Int32)), .val (.ref aD)] [(.int (own_b [(100 : Int32), (99 : Int32), (115 : Int32), (112 : Int32)] chs))])) _
      refine XS.ifYes X10.here hx rfl (pc0 := 28) (pc' := 34) rfl (hb hby dp29_m4_28) rfl ((if0 _ _).trans (teq hb0).1) (by decide) (by decide) ?_
      show Steps p.tables e below (T10.setTop (mkF m 34 #[.val (.ref sr), .val (.ref r1), .val (.int (2 : Int32)), .val (.int (0 : Int32)), .val (.ref aD)] [])) _
      refine XS.iinc X10.here hx rfl (hb hby dp29_m4_34) rfl (l' := #[.val (.ref sr), .val (.ref r1), .val (.int (2 : Int32)), .val (.int (1 : Int32)), .val (.ref aD)]) rfl ?_
      show Steps p.tables e below (T10.setTop (mkF m 37 #[.val (.ref sr), .val (.ref r1), .val (.int (2 : Int32)), .val (.int (1 : Int32)), .val (.ref aD)] [])) _
      refine XS.goto X10.here hx rfl (pc0 := 37) (pc' := 9) rfl (hb hby dp29_m4_37) (by decide) (by decide) ?_
      show Steps p.tables e below (T10.setTop (mkF m 9 #[.val (.ref sr), .val (.ref r1), .val (.int (2 : Int32)), .val (.int (1 : Int32)), .val (.ref aD)] [])) _
      refine XS.iloadN X10.here hx rfl (hb hby dp29_m4_9) rfl ?_
      show Steps p.tables e below (T10.setTop (mkF m 10 #[.val (.ref sr), .val (.ref r1), .val (.int (2 : Int32)), .val (.int (1 : Int32)), .val (.ref aD)] [(.int (1 : Int32))])) _
      refine XS.iloadN X10.here hx rfl (hb hby dp29_m4_10) rfl ?_
      show Steps p.tables e below (T10.setTop (mkF m 11 #[.val (.ref sr), .val (.ref r1), .val (.int (2 : Int32)), .val (.int (1 : Int32)), .val (.ref aD)] [(.int (2 : Int32)), (.int (1 : Int32))])) _
      refine XS.icmpNo X10.here hx rfl (hb hby dp29_m4_11) rfl (tlt (by decide)).2.1 ?_
      show Steps p.tables e below (T10.setTop (mkF m 14 #[.val (.ref sr), .val (.ref r1), .val (.int (2 : Int32)), .val (.int (1 : Int32)), .val (.ref aD)] [])) _
      refine XS.aloadN X10.here hx rfl (hb hby dp29_m4_14) rfl rfl ?_
      show Steps p.tables e below (T10.setTop (mkF m 15 #[.val (.ref sr), .val (.ref r1), .val (.int (2 : Int32)), .val (.int (1 : Int32)), .val (.ref aD)] [(.ref r1)])) _
      refine XS.iloadN X10.here hx rfl (hb hby dp29_m4_15) rfl ?_
      show Steps p.tables e below (T10.setTop (mkF m 16 #[.val (.ref sr), .val (.ref r1), .val (.int (2 : Int32)), .val (.int (1 : Int32)), .val (.ref aD)] [(.int (1 : Int32)), (.ref r1)])) _
      refine X10.aaload hx (j := (1 : Int32)) (v := (.ref aI)) (by rw [e10]; exact Ar11.1) (State.isArrayOf_alike hZ.alike Ar11.2.1) rfl Ar11.2.2 (inb_of Sz11 ⟨(by decide : ¬ ((1 : Int32) < (0 : Int32))), (by decide : (1 : Int32) < (2 : Int32))⟩) (Has.at Hs11 (inb_of Sz11 ⟨(by decide : ¬ ((1 : Int32) < (0 : Int32))), (by decide : (1 : Int32) < (2 : Int32))⟩) rfl) (g := (mkF m 16 #[.val (.ref sr), .val (.ref r1), .val (.int (2 : Int32)), .val (.int (1 : Int32)), .val (.ref aD)] [(.int (1 : Int32)), (.ref r1)])) rfl rfl (hb hby dp29_m4_16) _ ?_
      show Steps p.tables e below (T10.setTop (mkF m 17 #[.val (.ref sr), .val (.ref r1), .val (.int (2 : Int32)), .val (.int (1 : Int32)), .val (.ref aD)] [(.ref aI)])) _
      refine XS.astore X10.here hx rfl (hb hby dp29_m4_17) rfl rfl (l' := #[.val (.ref sr), .val (.ref r1), .val (.int (2 : Int32)), .val (.int (1 : Int32)), .val (.ref aI)]) rfl ?_
      show Steps p.tables e below (T10.setTop (mkF m 19 #[.val (.ref sr), .val (.ref r1), .val (.int (2 : Int32)), .val (.int (1 : Int32)), .val (.ref aI)] [])) _
      refine XS.aload X10.here hx rfl (hb hby dp29_m4_19) rfl rfl ?_
      show Steps p.tables e below (T10.setTop (mkF m 21 #[.val (.ref sr), .val (.ref r1), .val (.int (2 : Int32)), .val (.int (1 : Int32)), .val (.ref aI)] [(.ref aI)])) _
      exact k
    obtain ⟨T13, X13, e13, st13⟩ := getF X10 hx hZ hown (host := "") (Or.inl (hw _ (List.mem_of_getElem? (i := 58) rfl))) Via.refl e10 (FI.ext od7.2) (g := (mkF m 21 #[.val (.ref sr), .val (.ref r1), .val (.int (2 : Int32)), .val (.int (1 : Int32)), .val (.ref aI)] [(.ref aI)])) rfl rfl (hb hby dp29_m4_21)
    have k13 : ∀ t, Steps p.tables e below (T13.setTop (mkF m 24 #[.val (.ref sr), .val (.ref r1), .val (.int (2 : Int32)), .val (.int (1 : Int32)), .val (.ref aI)] [(.ref kI)])) t → Steps p.tables e below (s₁.setTop (entryFrame m #[(.ref sr)] 5)) t := fun t k => k12 t (st13 _ k)
    have k14 : ∀ t, Steps p.tables e below (T13.setTop (mkF m 25 #[.val (.ref sr), .val (.ref r1), .val (.int (2 : Int32)), .val (.int (1 : Int32)), .val (.ref aI)] [(.ref sr), (.ref kI)])) t → Steps p.tables e below (s₁.setTop (entryFrame m #[(.ref sr)] 5)) t := by
      intro t k
      refine k13 _ ?_
      show Steps p.tables e below (T13.setTop (mkF m 24 #[.val (.ref sr), .val (.ref r1), .val (.int (2 : Int32)), .val (.int (1 : Int32)), .val (.ref aI)] [(.ref kI)])) _
      refine XS.aloadN X13.here hx rfl (hb hby dp29_m4_24) rfl rfl ?_
      show Steps p.tables e below (T13.setTop (mkF m 25 #[.val (.ref sr), .val (.ref r1), .val (.int (2 : Int32)), .val (.int (1 : Int32)), .val (.ref aI)] [(.ref sr), (.ref kI)])) _
      exact k
    obtain ⟨cq15, kq15, q15a, q15b, q15c⟩ := isOf hZ e13 ((own_Str.exa TI).ext od7.2)
    obtain ⟨_, _, ⟨T15, L15, ck15, nk15⟩, -, X15, ⟨Lc15, hQ15, l15, y15, z15⟩, st15⟩ := X13.virtualBack hx (y := (⟨"java/lang/String", "equals", "(Ljava/lang/Object;)Z"⟩ : MethodName)) (z := (⟨"java/lang/String", "equals", "(Ljava/lang/Object;)Z"⟩ : MethodName)) hown (mvT hZ (hw _ (List.mem_of_getElem? (i := 60) rfl))) (mvT hZ (hw _ (List.mem_of_getElem? (i := 61) rfl))) (notFace_of_selects (args := #[]) (mvT hZ (hw _ (List.mem_of_getElem? (i := 63) rfl)))) (mvT hZ (hw _ (List.mem_of_getElem? (i := 63) rfl))) (mvT hZ (hw _ (List.mem_of_getElem? (i := 62) rfl))) (by decide) (own_eqB (W := 0) hZ hw (TI.ext od7.2) f8 (S1.ext od7.2) hcs (by decide) (by decide)) q15a q15c (g := (mkF m 25 #[.val (.ref sr), .val (.ref r1), .val (.int (2 : Int32)), .val (.int (1 : Int32)), .val (.ref aI)] [(.ref sr), (.ref kI)])) rfl (by rw [hml]; rfl) (Steps.refl _) (argsL := [(.ref sr)]) (rest := []) (lenOf pd_1 rfl) rfl (by show 2 * 0 + _ ≤ _; exact Nat.le_of_eq rfl) (hb hby dp29_m4_25) (fun _ _ => ⟨rfl, e13, (by decide : 1 + 0 ≤ _), (by decide : 2 + 0 ≤ _)⟩)
    dsimp only [Pt.U, Pt.locs, Pt.cells, Pt.slots] at X15 l15 y15 z15 st15 hQ15
    subst l15 y15 z15
    obtain ⟨rfl, rfl, e15⟩ := hQ15
    have N15 := Fr.app N10 (Fr.nil n0)
    have k15 : ∀ t, Steps p.tables e below (T15.setTop (mkF m 28 #[.val (.ref sr), .val (.ref r1), .val (.int (2 : Int32)), .val (.int (1 : Int32)), .val (.ref aI)] [(.int (own_b [(101 : Int32), (100 : Int32), (103 : Int32), (101 : Int32)] chs))])) t → Steps p.tables e below (s₁.setTop (entryFrame m #[(.ref sr)] 5)) t := fun t k => k14 t (st15.trans k)
    by_cases hb1 : (own_b [(101 : Int32), (100 : Int32), (103 : Int32), (101 : Int32)] chs) = (0 : Int32)
    · have kp16 : Keep h0 T1.heap [] := ((Keep.refl h0 []).trans K1 all0)
      have k17 : ∀ t, Steps p.tables e below (T15.setTop (mkF m 41 #[.val (.ref sr), .val (.ref r1), .val (.int (2 : Int32)), .val (.int (2 : Int32)), .val (.ref aI)] [.null])) t → Steps p.tables e below (s₁.setTop (entryFrame m #[(.ref sr)] 5)) t := by
        intro t k
        refine k15 _ ?_
        show Steps p.tables e below (T15.setTop (mkF m 28 #[.val (.ref sr), .val (.ref r1), .val (.int (2 : Int32)), .val (.int (1 : Int32)), .val (.ref aI)] [(.int (own_b [(101 : Int32), (100 : Int32), (103 : Int32), (101 : Int32)] chs))])) _
        refine XS.ifYes X15.here hx rfl (pc0 := 28) (pc' := 34) rfl (hb hby dp29_m4_28) rfl ((if0 _ _).trans (teq hb1).1) (by decide) (by decide) ?_
        show Steps p.tables e below (T15.setTop (mkF m 34 #[.val (.ref sr), .val (.ref r1), .val (.int (2 : Int32)), .val (.int (1 : Int32)), .val (.ref aI)] [])) _
        refine XS.iinc X15.here hx rfl (hb hby dp29_m4_34) rfl (l' := #[.val (.ref sr), .val (.ref r1), .val (.int (2 : Int32)), .val (.int (2 : Int32)), .val (.ref aI)]) rfl ?_
        show Steps p.tables e below (T15.setTop (mkF m 37 #[.val (.ref sr), .val (.ref r1), .val (.int (2 : Int32)), .val (.int (2 : Int32)), .val (.ref aI)] [])) _
        refine XS.goto X15.here hx rfl (pc0 := 37) (pc' := 9) rfl (hb hby dp29_m4_37) (by decide) (by decide) ?_
        show Steps p.tables e below (T15.setTop (mkF m 9 #[.val (.ref sr), .val (.ref r1), .val (.int (2 : Int32)), .val (.int (2 : Int32)), .val (.ref aI)] [])) _
        refine XS.iloadN X15.here hx rfl (hb hby dp29_m4_9) rfl ?_
        show Steps p.tables e below (T15.setTop (mkF m 10 #[.val (.ref sr), .val (.ref r1), .val (.int (2 : Int32)), .val (.int (2 : Int32)), .val (.ref aI)] [(.int (2 : Int32))])) _
        refine XS.iloadN X15.here hx rfl (hb hby dp29_m4_10) rfl ?_
        show Steps p.tables e below (T15.setTop (mkF m 11 #[.val (.ref sr), .val (.ref r1), .val (.int (2 : Int32)), .val (.int (2 : Int32)), .val (.ref aI)] [(.int (2 : Int32)), (.int (2 : Int32))])) _
        refine XS.icmpYes X15.here hx rfl (pc0 := 11) (pc' := 40) rfl (hb hby dp29_m4_11) rfl (flt (by decide)).2.1 (by decide) (by decide) ?_
        show Steps p.tables e below (T15.setTop (mkF m 40 #[.val (.ref sr), .val (.ref r1), .val (.int (2 : Int32)), .val (.int (2 : Int32)), .val (.ref aI)] [])) _
        refine XS.aconstNull X15.here hx rfl (hb hby dp29_m4_40) ?_
        show Steps p.tables e below (T15.setTop (mkF m 41 #[.val (.ref sr), .val (.ref r1), .val (.int (2 : Int32)), .val (.int (2 : Int32)), .val (.ref aI)] [.null])) _
        exact k
      obtain ⟨fs, hr, hrun, hended, hW, hsame⟩ := X15.leave (v := some .null) (fun h => by rw [Bd.returns] at h; cases h)
      refine ⟨_, _, k17 _ ?_, hrun, hended, _, _, rfl, ?_, ⟨_, rfl⟩, hW, hsame.mono (Nat.le_of_ble_eq_true rfl) (Nat.le_of_ble_eq_true rfl)⟩
      · exact retOut X15 hx Bd.returns rfl (Or.inr (Or.inr (Or.inr (Or.inr ⟨rfl, rfl, rfl⟩)))) (hb hby dp29_m4_41) hr
      · show QNamS Z sr chs va kv aD aI kD kI cs h0 n0 _ T15.heap _
        rw [e15]
        exact ⟨by rw [own_nm, if_pos hb0, if_pos hb1], N15, kp16⟩
    · have kp18 : Keep h0 T1.heap [] := ((Keep.refl h0 []).trans K1 all0)
      have k19 : ∀ t, Steps p.tables e below (T15.setTop (mkF m 33 #[.val (.ref sr), .val (.ref r1), .val (.int (2 : Int32)), .val (.int (1 : Int32)), .val (.ref aI)] [(.ref aI)])) t → Steps p.tables e below (s₁.setTop (entryFrame m #[(.ref sr)] 5)) t := by
        intro t k
        refine k15 _ ?_
        show Steps p.tables e below (T15.setTop (mkF m 28 #[.val (.ref sr), .val (.ref r1), .val (.int (2 : Int32)), .val (.int (1 : Int32)), .val (.ref aI)] [(.int (own_b [(101 : Int32), (100 : Int32), (103 : Int32), (101 : Int32)] chs))])) _
        refine XS.ifNo X15.here hx rfl (hb hby dp29_m4_28) rfl ((if0 _ _).trans (feq hb1).1) ?_
        show Steps p.tables e below (T15.setTop (mkF m 31 #[.val (.ref sr), .val (.ref r1), .val (.int (2 : Int32)), .val (.int (1 : Int32)), .val (.ref aI)] [])) _
        refine XS.aload X15.here hx rfl (hb hby dp29_m4_31) rfl rfl ?_
        show Steps p.tables e below (T15.setTop (mkF m 33 #[.val (.ref sr), .val (.ref r1), .val (.int (2 : Int32)), .val (.int (1 : Int32)), .val (.ref aI)] [(.ref aI)])) _
        exact k
      obtain ⟨fs, hr, hrun, hended, hW, hsame⟩ := X15.leave (v := some (.ref aI)) (fun h => by rw [Bd.returns] at h; cases h)
      refine ⟨_, _, k19 _ ?_, hrun, hended, _, _, rfl, ?_, ⟨_, rfl⟩, hW, hsame.mono (Nat.le_of_ble_eq_true rfl) (Nat.le_of_ble_eq_true rfl)⟩
      · exact retOut X15 hx Bd.returns rfl (Or.inr (Or.inr (Or.inr (Or.inr ⟨rfl, rfl, rfl⟩)))) (hb hby dp29_m4_33) hr
      · show QNamS Z sr chs va kv aD aI kD kI cs h0 n0 _ T15.heap _
        rw [e15]
        exact ⟨by rw [own_nm, if_pos hb0, if_neg hb1], N15, kp18⟩
  · have kp20 : Keep h0 T1.heap [] := ((Keep.refl h0 []).trans K1 all0)
    have k21 : ∀ t, Steps p.tables e below (T10.setTop (mkF m 33 #[.val (.ref sr), .val (.ref r1), .val (.int (2 : Int32)), .val (.int (0 : Int32)), .val (.ref aD)] [(.ref aD)])) t → Steps p.tables e below (s₁.setTop (entryFrame m #[(.ref sr)] 5)) t := by
      intro t k
      refine k10 _ ?_
      show Steps p.tables e below (T10.setTop (mkF m 28 #[.val (.ref sr), .val (.ref r1), .val (.int (2 : Int32)), .val (.int (0 : Int32)), .val (.ref aD)] [(.int (own_b [(100 : Int32), (99 : Int32), (115 : Int32), (112 : Int32)] chs))])) _
      refine XS.ifNo X10.here hx rfl (hb hby dp29_m4_28) rfl ((if0 _ _).trans (feq hb0).1) ?_
      show Steps p.tables e below (T10.setTop (mkF m 31 #[.val (.ref sr), .val (.ref r1), .val (.int (2 : Int32)), .val (.int (0 : Int32)), .val (.ref aD)] [])) _
      refine XS.aload X10.here hx rfl (hb hby dp29_m4_31) rfl rfl ?_
      show Steps p.tables e below (T10.setTop (mkF m 33 #[.val (.ref sr), .val (.ref r1), .val (.int (2 : Int32)), .val (.int (0 : Int32)), .val (.ref aD)] [(.ref aD)])) _
      exact k
    obtain ⟨fs, hr, hrun, hended, hW, hsame⟩ := X10.leave (v := some (.ref aD)) (fun h => by rw [Bd.returns] at h; cases h)
    refine ⟨_, _, k21 _ ?_, hrun, hended, _, _, rfl, ?_, ⟨_, rfl⟩, hW, hsame.mono (Nat.le_of_ble_eq_true rfl) (Nat.le_of_ble_eq_true rfl)⟩
    · exact retOut X10 hx Bd.returns rfl (Or.inr (Or.inr (Or.inr (Or.inr ⟨rfl, rfl, rfl⟩)))) (hb hby dp29_m4_33) hr
    · show QNamS Z sr chs va kv aD aI kD kI cs h0 n0 _ T10.heap _
      rw [e10]
      exact ⟨by rw [own_nm, if_neg hb0], N10, kp20⟩
theorem ef_NamN (m : MethodId)  : entryFrame m #[.null] 5 = mkF m 0 #[.val .null, .unset, .unset, .unset, .unset] [] := by first | (simp [entryFrame, mkF, argsToLocals, Value.category]; done) | rfl
def QNamN (Z : State) (va : Addr) (kv : ClassId) (aD : Addr) (aI : Addr) (kD : Addr) (kI : Addr) (cs : Int32) (h0 : Heap) (n0 : Nat) (v : Option Value) (h : Heap) (L : List Loc) : Prop := v = some .null ∧ Fr n0 L ∧ Keep h0 h []
set_option maxRecDepth 65536 in
set_option maxHeartbeats 40000000 in
theorem rmNamN (l : Launch) (Z : State) (a0 : Array Value) (hw : ∀ d ∈ tables_1, d.before a0 Z = true) (ws : List Jvm.Cond) (va : Addr) (kv : ClassId) (aD : Addr) (aI : Addr) (kD : Addr) (kI : Addr) (cs : Int32) (h0 : Heap) (n0 : Nat) (Z0 : n0 ≤ h0.size) (S_V : Sta Z Z.heap "com/example/nogood/nogood/problem/InstanceFormat" "$VALUES" "[Lcom/example/nogood/nogood/problem/InstanceFormat;" (.ref va)) (VV : Arv Z Z.heap va kv (.object "com/example/nogood/nogood/problem/InstanceFormat") (2 : Int32) [.ref aD, .ref aI] .null) (EV : Exa Z Z.heap va "[Lcom/example/nogood/nogood/problem/InstanceFormat;") (XO : Old Z n0 h0) (FD : Fld Z Z.heap aD "com/example/nogood/nogood/problem/InstanceFormat" "keyword" "Ljava/lang/String;" (.ref kD)) (FI : Fld Z Z.heap aI "com/example/nogood/nogood/problem/InstanceFormat" "keyword" "Ljava/lang/String;" (.ref kI)) (TD : own_Str Z Z.heap kD [(100 : Int32), (99 : Int32), (115 : Int32), (112 : Int32)]) (TI : own_Str Z Z.heap kI [(101 : Int32), (100 : Int32), (103 : Int32), (101 : Int32)]) (S1 : Sta Z Z.heap "java/lang/String" "COMPACT_STRINGS" "Z" (.int cs)) (hcs : ¬ cs = (0 : Int32)) :
    MetFree l (⟨"com/example/nogood/nogood/problem/InstanceFormat", "named", "(Ljava/lang/String;)Lcom/example/nogood/nogood/problem/InstanceFormat;"⟩ : MethodName) (head1 (Jvm.Cond.code (⟨"com/example/nogood/nogood/problem/InstanceFormat", "named", "(Ljava/lang/String;)Lcom/example/nogood/nogood/problem/InstanceFormat;"⟩ : MethodName) prog_29_method_4_code 5 (some (.object "com/example/nogood/nogood/problem/InstanceFormat")) :: ws) ({ frames := 2, cells := 1, slots := 2, locals := 28 } : Room)) (fun A_ U => A_ = #[.null] ∧ Z.Warmed39 U.vm ∧ U.heap = h0) (fun _ _ _ _ _ => True) (fun _ U o U' => ∃ v L, o = .returned v ∧ QNamN Z va kv aD aI kD kI cs h0 n0 v U'.heap L ∧ FrameEnd U o U' L ({ frames := 2, cells := 1, slots := 2, locals := 28 } : Room).cells ({ frames := 2, cells := 1, slots := 2, locals := 28 } : Room).slots) := by
  refine MetFree.of_bodySF (plainFor_of_name pn_0) hisR ?_
  intro p e s m args below meth c s₁ Bd hml0 hP hK
  obtain ⟨rfl, hZ, hh⟩ := hP
  have hx := Bd.exec
  have hby := Bd.bytes
  have hml : c.maxLocals = 5 := hml0
  have hown : s.vm.findClass "com/example/nogood/nogood/problem/InstanceFormat" = some m.cls := findClass_of_methodNamed Bd.named
  have hnm := (name_of_methodNamed Bd.named Bd.method).1
  have X0 : Stand p l e ({ frames := 2, cells := 1, slots := 2, locals := 28 } : Room) s m #[.null] below meth c s₁ [] 0 0 := Stand.of_body Bd
  have e0 : s₁.heap = h0 := by rw [← hh, Bd.state]; rfl
  have N0 := Fr.nil n0
  have k0 : ∀ t, Steps p.tables e below (s₁.setTop (mkF m 0 #[.val .null, .unset, .unset, .unset, .unset] [])) t → Steps p.tables e below (s₁.setTop (entryFrame m #[.null] 5)) t := fun t k => castTop (ef_NamN m ) k
  obtain ⟨_, _, ⟨T1, L1, ck1, nk1⟩, -, X1, ⟨Lc1, hQ1, l1, y1, z1⟩, st1⟩ := Jvm.LawKit.callS X0 hx (y := (⟨"com/example/nogood/nogood/problem/InstanceFormat", "values", "()[Lcom/example/nogood/nogood/problem/InstanceFormat;"⟩ : MethodName)) hown (mvT hZ (hw _ (List.mem_of_getElem? (i := 41) rfl))) (mvT hZ (hw _ (List.mem_of_getElem? (i := 42) rfl))) (mvT hZ (hw _ (List.mem_of_getElem? (i := 39) rfl))) (mvT hZ (hw _ (List.mem_of_getElem? (i := 43) rfl))) (by decide) (backOf (W := 0) (rmVals l Z a0 hw [] va kv aD aI h0 n0 Z0 S_V VV EV XO) hZ (hw _ (List.mem_of_getElem? (i := 43) rfl)) (hw _ (List.mem_of_getElem? (i := 39) rfl)) (by decide) (by decide)) (g := (mkF m 0 #[.val .null, .unset, .unset, .unset, .unset] [])) rfl (by rw [hml]; rfl) (argsL := []) (rest := []) (lenOf pd_0 rfl) rfl (by show 2 * 0 + _ ≤ _; exact Nat.le_of_eq rfl) (hb hby dp29_m4_0) (fun _ _ => ⟨rfl, e0, (by decide : 0 + 1 ≤ _), (by decide : 0 + 2 ≤ _)⟩)
  dsimp only [Pt.U, Pt.locs, Pt.cells, Pt.slots] at X1 l1 y1 z1 st1 hQ1
  subst l1 y1 z1
  obtain ⟨r1, rfl, N1q, K1, V1⟩ := hQ1
  have N1 := Fr.app N0 N1q
  have k1 : ∀ t, Steps p.tables e below (T1.setTop (mkF m 3 #[.val .null, .unset, .unset, .unset, .unset] [(.ref r1)])) t → Steps p.tables e below (s₁.setTop (entryFrame m #[.null] 5)) t := fun t k => k0 t (st1 _ k)
  have Z2 : n0 ≤ T1.heap.size := Nat.le_trans Z0 K1.1
  obtain ⟨cl3, Ar3, qk3, Sz3, Nn3, Hs3, Gs3⟩ := id V1
  obtain ⟨cl4, Ar4, qk4, Sz4, Nn4, Hs4, Gs4⟩ := id V1
  have k5 : ∀ t, Steps p.tables e below (T1.setTop (mkF m 21 #[.val .null, .val (.ref r1), .val (.int (2 : Int32)), .val (.int (0 : Int32)), .val (.ref aD)] [(.ref aD)])) t → Steps p.tables e below (s₁.setTop (entryFrame m #[.null] 5)) t := by
    intro t k
    refine k1 _ ?_
    show Steps p.tables e below (T1.setTop (mkF m 3 #[.val .null, .unset, .unset, .unset, .unset] [(.ref r1)])) _
    refine XS.astoreN X1.here hx rfl (hb hby dp29_m4_3) rfl rfl (l' := #[.val .null, .val (.ref r1), .unset, .unset, .unset]) rfl ?_
    show Steps p.tables e below (T1.setTop (mkF m 4 #[.val .null, .val (.ref r1), .unset, .unset, .unset] [])) _
    refine XS.aloadN X1.here hx rfl (hb hby dp29_m4_4) rfl rfl ?_
    show Steps p.tables e below (T1.setTop (mkF m 5 #[.val .null, .val (.ref r1), .unset, .unset, .unset] [(.ref r1)])) _
    refine X1.arraylength hx Ar3.1 (State.isArrayOf_alike hZ.alike Ar3.2.1) (g := (mkF m 5 #[.val .null, .val (.ref r1), .unset, .unset, .unset] [(.ref r1)])) rfl rfl (hb hby dp29_m4_5) _ ?_
    rw [len_of Sz3 Nn3]
    show Steps p.tables e below (T1.setTop (mkF m 6 #[.val .null, .val (.ref r1), .unset, .unset, .unset] [(.int (2 : Int32))])) _
    refine XS.istoreN X1.here hx rfl (hb hby dp29_m4_6) rfl (l' := #[.val .null, .val (.ref r1), .val (.int (2 : Int32)), .unset, .unset]) rfl ?_
    show Steps p.tables e below (T1.setTop (mkF m 7 #[.val .null, .val (.ref r1), .val (.int (2 : Int32)), .unset, .unset] [])) _
    refine XS.iconst X1.here hx rfl (hb hby dp29_m4_7) ?_
    show Steps p.tables e below (T1.setTop (mkF m 8 #[.val .null, .val (.ref r1), .val (.int (2 : Int32)), .unset, .unset] [(.int (0 : Int32))])) _
    refine XS.istoreN X1.here hx rfl (hb hby dp29_m4_8) rfl (l' := #[.val .null, .val (.ref r1), .val (.int (2 : Int32)), .val (.int (0 : Int32)), .unset]) rfl ?_
    show Steps p.tables e below (T1.setTop (mkF m 9 #[.val .null, .val (.ref r1), .val (.int (2 : Int32)), .val (.int (0 : Int32)), .unset] [])) _
    refine XS.iloadN X1.here hx rfl (hb hby dp29_m4_9) rfl ?_
    show Steps p.tables e below (T1.setTop (mkF m 10 #[.val .null, .val (.ref r1), .val (.int (2 : Int32)), .val (.int (0 : Int32)), .unset] [(.int (0 : Int32))])) _
    refine XS.iloadN X1.here hx rfl (hb hby dp29_m4_10) rfl ?_
    show Steps p.tables e below (T1.setTop (mkF m 11 #[.val .null, .val (.ref r1), .val (.int (2 : Int32)), .val (.int (0 : Int32)), .unset] [(.int (2 : Int32)), (.int (0 : Int32))])) _
    refine XS.icmpNo X1.here hx rfl (hb hby dp29_m4_11) rfl (tlt (by decide)).2.1 ?_
    show Steps p.tables e below (T1.setTop (mkF m 14 #[.val .null, .val (.ref r1), .val (.int (2 : Int32)), .val (.int (0 : Int32)), .unset] [])) _
    refine XS.aloadN X1.here hx rfl (hb hby dp29_m4_14) rfl rfl ?_
    show Steps p.tables e below (T1.setTop (mkF m 15 #[.val .null, .val (.ref r1), .val (.int (2 : Int32)), .val (.int (0 : Int32)), .unset] [(.ref r1)])) _
    refine XS.iloadN X1.here hx rfl (hb hby dp29_m4_15) rfl ?_
    show Steps p.tables e below (T1.setTop (mkF m 16 #[.val .null, .val (.ref r1), .val (.int (2 : Int32)), .val (.int (0 : Int32)), .unset] [(.int (0 : Int32)), (.ref r1)])) _
    refine X1.aaload hx (j := (0 : Int32)) (v := (.ref aD)) Ar4.1 (State.isArrayOf_alike hZ.alike Ar4.2.1) rfl Ar4.2.2 (inb_of Sz4 ⟨(by decide : ¬ ((0 : Int32) < (0 : Int32))), (by decide : (0 : Int32) < (2 : Int32))⟩) (Has.at Hs4 (inb_of Sz4 ⟨(by decide : ¬ ((0 : Int32) < (0 : Int32))), (by decide : (0 : Int32) < (2 : Int32))⟩) rfl) (g := (mkF m 16 #[.val .null, .val (.ref r1), .val (.int (2 : Int32)), .val (.int (0 : Int32)), .unset] [(.int (0 : Int32)), (.ref r1)])) rfl rfl (hb hby dp29_m4_16) _ ?_
    show Steps p.tables e below (T1.setTop (mkF m 17 #[.val .null, .val (.ref r1), .val (.int (2 : Int32)), .val (.int (0 : Int32)), .unset] [(.ref aD)])) _
    refine XS.astore X1.here hx rfl (hb hby dp29_m4_17) rfl rfl (l' := #[.val .null, .val (.ref r1), .val (.int (2 : Int32)), .val (.int (0 : Int32)), .val (.ref aD)]) rfl ?_
    show Steps p.tables e below (T1.setTop (mkF m 19 #[.val .null, .val (.ref r1), .val (.int (2 : Int32)), .val (.int (0 : Int32)), .val (.ref aD)] [])) _
    refine XS.aload X1.here hx rfl (hb hby dp29_m4_19) rfl rfl ?_
    show Steps p.tables e below (T1.setTop (mkF m 21 #[.val .null, .val (.ref r1), .val (.int (2 : Int32)), .val (.int (0 : Int32)), .val (.ref aD)] [(.ref aD)])) _
    exact k
  have od7 : Old Z n0 T1.heap := (XO.keep K1 all0)
  obtain ⟨T6, X6, e6, st6⟩ := getF X1 hx hZ hown (host := "") (Or.inl (hw _ (List.mem_of_getElem? (i := 58) rfl))) Via.refl rfl (FD.ext od7.2) (g := (mkF m 21 #[.val .null, .val (.ref r1), .val (.int (2 : Int32)), .val (.int (0 : Int32)), .val (.ref aD)] [(.ref aD)])) rfl rfl (hb hby dp29_m4_21)
  have k6 : ∀ t, Steps p.tables e below (T6.setTop (mkF m 24 #[.val .null, .val (.ref r1), .val (.int (2 : Int32)), .val (.int (0 : Int32)), .val (.ref aD)] [(.ref kD)])) t → Steps p.tables e below (s₁.setTop (entryFrame m #[.null] 5)) t := fun t k => k5 t (st6 _ k)
  have k8 : ∀ t, Steps p.tables e below (T6.setTop (mkF m 25 #[.val .null, .val (.ref r1), .val (.int (2 : Int32)), .val (.int (0 : Int32)), .val (.ref aD)] [.null, (.ref kD)])) t → Steps p.tables e below (s₁.setTop (entryFrame m #[.null] 5)) t := by
    intro t k
    refine k6 _ ?_
    show Steps p.tables e below (T6.setTop (mkF m 24 #[.val .null, .val (.ref r1), .val (.int (2 : Int32)), .val (.int (0 : Int32)), .val (.ref aD)] [(.ref kD)])) _
    refine XS.aloadN X6.here hx rfl (hb hby dp29_m4_24) rfl rfl ?_
    show Steps p.tables e below (T6.setTop (mkF m 25 #[.val .null, .val (.ref r1), .val (.int (2 : Int32)), .val (.int (0 : Int32)), .val (.ref aD)] [.null, (.ref kD)])) _
    exact k
  obtain ⟨cq9, kq9, q9a, q9b, q9c⟩ := isOf hZ e6 ((own_Str.exa TD).ext od7.2)
  obtain ⟨_, _, ⟨T9, L9, ck9, nk9⟩, -, X9, ⟨Lc9, hQ9, l9, y9, z9⟩, st9⟩ := X6.virtualBack hx (y := (⟨"java/lang/String", "equals", "(Ljava/lang/Object;)Z"⟩ : MethodName)) (z := (⟨"java/lang/String", "equals", "(Ljava/lang/Object;)Z"⟩ : MethodName)) hown (mvT hZ (hw _ (List.mem_of_getElem? (i := 60) rfl))) (mvT hZ (hw _ (List.mem_of_getElem? (i := 61) rfl))) (notFace_of_selects (args := #[]) (mvT hZ (hw _ (List.mem_of_getElem? (i := 63) rfl)))) (mvT hZ (hw _ (List.mem_of_getElem? (i := 63) rfl))) (mvT hZ (hw _ (List.mem_of_getElem? (i := 62) rfl))) (by decide) (backOf (W := 0) (rmEqN l Z a0 hw [] kD T1.heap n0 Z2) hZ (hw _ (List.mem_of_getElem? (i := 64) rfl)) (hw _ (List.mem_of_getElem? (i := 6) rfl)) (by decide) (by decide)) q9a q9c (g := (mkF m 25 #[.val .null, .val (.ref r1), .val (.int (2 : Int32)), .val (.int (0 : Int32)), .val (.ref aD)] [.null, (.ref kD)])) rfl (by rw [hml]; rfl) (Steps.refl _) (argsL := [.null]) (rest := []) (lenOf pd_1 rfl) rfl (by show 2 * 0 + _ ≤ _; exact Nat.le_of_eq rfl) (hb hby dp29_m4_25) (fun _ _ => ⟨rfl, e6, (by decide : 1 + 0 ≤ _), (by decide : 2 + 0 ≤ _)⟩)
  dsimp only [Pt.U, Pt.locs, Pt.cells, Pt.slots] at X9 l9 y9 z9 st9 hQ9
  subst l9 y9 z9
  obtain ⟨rfl, N9q, e9⟩ := hQ9
  have N9 := Fr.app N1 N9q
  have k9 : ∀ t, Steps p.tables e below (T9.setTop (mkF m 28 #[.val .null, .val (.ref r1), .val (.int (2 : Int32)), .val (.int (0 : Int32)), .val (.ref aD)] [(.int (0 : Int32))])) t → Steps p.tables e below (s₁.setTop (entryFrame m #[.null] 5)) t := fun t k => k8 t (st9.trans k)
  obtain ⟨cl10, Ar10, qk10, Sz10, Nn10, Hs10, Gs10⟩ := id V1
  have k11 : ∀ t, Steps p.tables e below (T9.setTop (mkF m 21 #[.val .null, .val (.ref r1), .val (.int (2 : Int32)), .val (.int (1 : Int32)), .val (.ref aI)] [(.ref aI)])) t → Steps p.tables e below (s₁.setTop (entryFrame m #[.null] 5)) t := by
    intro t k
    refine k9 _ ?_
    show Steps p.tables e below (T9.setTop (mkF m 28 #[.val .null, .val (.ref r1), .val (.int (2 : Int32)), .val (.int (0 : Int32)), .val (.ref aD)] [(.int (0 : Int32))])) _
    refine XS.ifYes X9.here hx rfl (pc0 := 28) (pc' := 34) rfl (hb hby dp29_m4_28) rfl ((if0 _ _).trans (teq (rfl : (0 : Int32) = 0)).1) (by decide) (by decide) ?_
    show Steps p.tables e below (T9.setTop (mkF m 34 #[.val .null, .val (.ref r1), .val (.int (2 : Int32)), .val (.int (0 : Int32)), .val (.ref aD)] [])) _
    refine XS.iinc X9.here hx rfl (hb hby dp29_m4_34) rfl (l' := #[.val .null, .val (.ref r1), .val (.int (2 : Int32)), .val (.int (1 : Int32)), .val (.ref aD)]) rfl ?_
    show Steps p.tables e below (T9.setTop (mkF m 37 #[.val .null, .val (.ref r1), .val (.int (2 : Int32)), .val (.int (1 : Int32)), .val (.ref aD)] [])) _
    refine XS.goto X9.here hx rfl (pc0 := 37) (pc' := 9) rfl (hb hby dp29_m4_37) (by decide) (by decide) ?_
    show Steps p.tables e below (T9.setTop (mkF m 9 #[.val .null, .val (.ref r1), .val (.int (2 : Int32)), .val (.int (1 : Int32)), .val (.ref aD)] [])) _
    refine XS.iloadN X9.here hx rfl (hb hby dp29_m4_9) rfl ?_
    show Steps p.tables e below (T9.setTop (mkF m 10 #[.val .null, .val (.ref r1), .val (.int (2 : Int32)), .val (.int (1 : Int32)), .val (.ref aD)] [(.int (1 : Int32))])) _
    refine XS.iloadN X9.here hx rfl (hb hby dp29_m4_10) rfl ?_
    show Steps p.tables e below (T9.setTop (mkF m 11 #[.val .null, .val (.ref r1), .val (.int (2 : Int32)), .val (.int (1 : Int32)), .val (.ref aD)] [(.int (2 : Int32)), (.int (1 : Int32))])) _
    refine XS.icmpNo X9.here hx rfl (hb hby dp29_m4_11) rfl (tlt (by decide)).2.1 ?_
    show Steps p.tables e below (T9.setTop (mkF m 14 #[.val .null, .val (.ref r1), .val (.int (2 : Int32)), .val (.int (1 : Int32)), .val (.ref aD)] [])) _
    refine XS.aloadN X9.here hx rfl (hb hby dp29_m4_14) rfl rfl ?_
    show Steps p.tables e below (T9.setTop (mkF m 15 #[.val .null, .val (.ref r1), .val (.int (2 : Int32)), .val (.int (1 : Int32)), .val (.ref aD)] [(.ref r1)])) _
    refine XS.iloadN X9.here hx rfl (hb hby dp29_m4_15) rfl ?_
    show Steps p.tables e below (T9.setTop (mkF m 16 #[.val .null, .val (.ref r1), .val (.int (2 : Int32)), .val (.int (1 : Int32)), .val (.ref aD)] [(.int (1 : Int32)), (.ref r1)])) _
    refine X9.aaload hx (j := (1 : Int32)) (v := (.ref aI)) (by rw [e9]; exact Ar10.1) (State.isArrayOf_alike hZ.alike Ar10.2.1) rfl Ar10.2.2 (inb_of Sz10 ⟨(by decide : ¬ ((1 : Int32) < (0 : Int32))), (by decide : (1 : Int32) < (2 : Int32))⟩) (Has.at Hs10 (inb_of Sz10 ⟨(by decide : ¬ ((1 : Int32) < (0 : Int32))), (by decide : (1 : Int32) < (2 : Int32))⟩) rfl) (g := (mkF m 16 #[.val .null, .val (.ref r1), .val (.int (2 : Int32)), .val (.int (1 : Int32)), .val (.ref aD)] [(.int (1 : Int32)), (.ref r1)])) rfl rfl (hb hby dp29_m4_16) _ ?_
    show Steps p.tables e below (T9.setTop (mkF m 17 #[.val .null, .val (.ref r1), .val (.int (2 : Int32)), .val (.int (1 : Int32)), .val (.ref aD)] [(.ref aI)])) _
    refine XS.astore X9.here hx rfl (hb hby dp29_m4_17) rfl rfl (l' := #[.val .null, .val (.ref r1), .val (.int (2 : Int32)), .val (.int (1 : Int32)), .val (.ref aI)]) rfl ?_
    show Steps p.tables e below (T9.setTop (mkF m 19 #[.val .null, .val (.ref r1), .val (.int (2 : Int32)), .val (.int (1 : Int32)), .val (.ref aI)] [])) _
    refine XS.aload X9.here hx rfl (hb hby dp29_m4_19) rfl rfl ?_
    show Steps p.tables e below (T9.setTop (mkF m 21 #[.val .null, .val (.ref r1), .val (.int (2 : Int32)), .val (.int (1 : Int32)), .val (.ref aI)] [(.ref aI)])) _
    exact k
  obtain ⟨T12, X12, e12, st12⟩ := getF X9 hx hZ hown (host := "") (Or.inl (hw _ (List.mem_of_getElem? (i := 58) rfl))) Via.refl e9 (FI.ext od7.2) (g := (mkF m 21 #[.val .null, .val (.ref r1), .val (.int (2 : Int32)), .val (.int (1 : Int32)), .val (.ref aI)] [(.ref aI)])) rfl rfl (hb hby dp29_m4_21)
  have k12 : ∀ t, Steps p.tables e below (T12.setTop (mkF m 24 #[.val .null, .val (.ref r1), .val (.int (2 : Int32)), .val (.int (1 : Int32)), .val (.ref aI)] [(.ref kI)])) t → Steps p.tables e below (s₁.setTop (entryFrame m #[.null] 5)) t := fun t k => k11 t (st12 _ k)
  have k13 : ∀ t, Steps p.tables e below (T12.setTop (mkF m 25 #[.val .null, .val (.ref r1), .val (.int (2 : Int32)), .val (.int (1 : Int32)), .val (.ref aI)] [.null, (.ref kI)])) t → Steps p.tables e below (s₁.setTop (entryFrame m #[.null] 5)) t := by
    intro t k
    refine k12 _ ?_
    show Steps p.tables e below (T12.setTop (mkF m 24 #[.val .null, .val (.ref r1), .val (.int (2 : Int32)), .val (.int (1 : Int32)), .val (.ref aI)] [(.ref kI)])) _
    refine XS.aloadN X12.here hx rfl (hb hby dp29_m4_24) rfl rfl ?_
    show Steps p.tables e below (T12.setTop (mkF m 25 #[.val .null, .val (.ref r1), .val (.int (2 : Int32)), .val (.int (1 : Int32)), .val (.ref aI)] [.null, (.ref kI)])) _
    exact k
  obtain ⟨cq14, kq14, q14a, q14b, q14c⟩ := isOf hZ e12 ((own_Str.exa TI).ext od7.2)
  obtain ⟨_, _, ⟨T14, L14, ck14, nk14⟩, -, X14, ⟨Lc14, hQ14, l14, y14, z14⟩, st14⟩ := X12.virtualBack hx (y := (⟨"java/lang/String", "equals", "(Ljava/lang/Object;)Z"⟩ : MethodName)) (z := (⟨"java/lang/String", "equals", "(Ljava/lang/Object;)Z"⟩ : MethodName)) hown (mvT hZ (hw _ (List.mem_of_getElem? (i := 60) rfl))) (mvT hZ (hw _ (List.mem_of_getElem? (i := 61) rfl))) (notFace_of_selects (args := #[]) (mvT hZ (hw _ (List.mem_of_getElem? (i := 63) rfl)))) (mvT hZ (hw _ (List.mem_of_getElem? (i := 63) rfl))) (mvT hZ (hw _ (List.mem_of_getElem? (i := 62) rfl))) (by decide) (backOf (W := 0) (rmEqN l Z a0 hw [] kI T1.heap n0 Z2) hZ (hw _ (List.mem_of_getElem? (i := 64) rfl)) (hw _ (List.mem_of_getElem? (i := 6) rfl)) (by decide) (by decide)) q14a q14c (g := (mkF m 25 #[.val .null, .val (.ref r1), .val (.int (2 : Int32)), .val (.int (1 : Int32)), .val (.ref aI)] [.null, (.ref kI)])) rfl (by rw [hml]; rfl) (Steps.refl _) (argsL := [.null]) (rest := []) (lenOf pd_1 rfl) rfl (by show 2 * 0 + _ ≤ _; exact Nat.le_of_eq rfl) (hb hby dp29_m4_25) (fun _ _ => ⟨rfl, e12, (by decide : 1 + 0 ≤ _), (by decide : 2 + 0 ≤ _)⟩)
  dsimp only [Pt.U, Pt.locs, Pt.cells, Pt.slots] at X14 l14 y14 z14 st14 hQ14
  subst l14 y14 z14
  obtain ⟨rfl, N14q, e14⟩ := hQ14
  have N14 := Fr.app N9 N14q
  have k14 : ∀ t, Steps p.tables e below (T14.setTop (mkF m 28 #[.val .null, .val (.ref r1), .val (.int (2 : Int32)), .val (.int (1 : Int32)), .val (.ref aI)] [(.int (0 : Int32))])) t → Steps p.tables e below (s₁.setTop (entryFrame m #[.null] 5)) t := fun t k => k13 t (st14.trans k)
  have kp15 : Keep h0 T1.heap [] := ((Keep.refl h0 []).trans K1 all0)
  have k16 : ∀ t, Steps p.tables e below (T14.setTop (mkF m 41 #[.val .null, .val (.ref r1), .val (.int (2 : Int32)), .val (.int (2 : Int32)), .val (.ref aI)] [.null])) t → Steps p.tables e below (s₁.setTop (entryFrame m #[.null] 5)) t := by
    intro t k
    refine k14 _ ?_
    show Steps p.tables e below (T14.setTop (mkF m 28 #[.val .null, .val (.ref r1), .val (.int (2 : Int32)), .val (.int (1 : Int32)), .val (.ref aI)] [(.int (0 : Int32))])) _
    refine XS.ifYes X14.here hx rfl (pc0 := 28) (pc' := 34) rfl (hb hby dp29_m4_28) rfl ((if0 _ _).trans (teq (rfl : (0 : Int32) = 0)).1) (by decide) (by decide) ?_
    show Steps p.tables e below (T14.setTop (mkF m 34 #[.val .null, .val (.ref r1), .val (.int (2 : Int32)), .val (.int (1 : Int32)), .val (.ref aI)] [])) _
    refine XS.iinc X14.here hx rfl (hb hby dp29_m4_34) rfl (l' := #[.val .null, .val (.ref r1), .val (.int (2 : Int32)), .val (.int (2 : Int32)), .val (.ref aI)]) rfl ?_
    show Steps p.tables e below (T14.setTop (mkF m 37 #[.val .null, .val (.ref r1), .val (.int (2 : Int32)), .val (.int (2 : Int32)), .val (.ref aI)] [])) _
    refine XS.goto X14.here hx rfl (pc0 := 37) (pc' := 9) rfl (hb hby dp29_m4_37) (by decide) (by decide) ?_
    show Steps p.tables e below (T14.setTop (mkF m 9 #[.val .null, .val (.ref r1), .val (.int (2 : Int32)), .val (.int (2 : Int32)), .val (.ref aI)] [])) _
    refine XS.iloadN X14.here hx rfl (hb hby dp29_m4_9) rfl ?_
    show Steps p.tables e below (T14.setTop (mkF m 10 #[.val .null, .val (.ref r1), .val (.int (2 : Int32)), .val (.int (2 : Int32)), .val (.ref aI)] [(.int (2 : Int32))])) _
    refine XS.iloadN X14.here hx rfl (hb hby dp29_m4_10) rfl ?_
    show Steps p.tables e below (T14.setTop (mkF m 11 #[.val .null, .val (.ref r1), .val (.int (2 : Int32)), .val (.int (2 : Int32)), .val (.ref aI)] [(.int (2 : Int32)), (.int (2 : Int32))])) _
    refine XS.icmpYes X14.here hx rfl (pc0 := 11) (pc' := 40) rfl (hb hby dp29_m4_11) rfl (flt (by decide)).2.1 (by decide) (by decide) ?_
    show Steps p.tables e below (T14.setTop (mkF m 40 #[.val .null, .val (.ref r1), .val (.int (2 : Int32)), .val (.int (2 : Int32)), .val (.ref aI)] [])) _
    refine XS.aconstNull X14.here hx rfl (hb hby dp29_m4_40) ?_
    show Steps p.tables e below (T14.setTop (mkF m 41 #[.val .null, .val (.ref r1), .val (.int (2 : Int32)), .val (.int (2 : Int32)), .val (.ref aI)] [.null])) _
    exact k
  obtain ⟨fs, hr, hrun, hended, hW, hsame⟩ := X14.leave (v := some .null) (fun h => by rw [Bd.returns] at h; cases h)
  refine ⟨_, _, k16 _ ?_, hrun, hended, _, _, rfl, ?_, ⟨_, rfl⟩, hW, hsame.mono (Nat.le_of_ble_eq_true rfl) (Nat.le_of_ble_eq_true rfl)⟩
  · exact retOut X14 hx Bd.returns rfl (Or.inr (Or.inr (Or.inr (Or.inr ⟨rfl, rfl, rfl⟩)))) (hb hby dp29_m4_41) hr
  · show QNamN Z va kv aD aI kD kI cs h0 n0 _ T14.heap _
    rw [e14]
    exact ⟨rfl, N14, kp15⟩
theorem ef_Mk1 (m : MethodId) (x0 : Int32) (x1 : Int32) (x2 : Int32) (x3 : Int32) (x4 : Int32) (x5 : Int32) : entryFrame m #[(.int x0), (.int x1), (.int x2), (.int x3), (.int x4), (.int x5)] 6 = mkF m 0 #[.val (.int x0), .val (.int x1), .val (.int x2), .val (.int x3), .val (.int x4), .val (.int x5)] [] := by first | (simp [entryFrame, mkF, argsToLocals, Value.category]; done) | rfl
def QMk1 (Z : State) (x0 : Int32) (x1 : Int32) (x2 : Int32) (x3 : Int32) (x4 : Int32) (cs : Int32) (h0 : Heap) (n0 : Nat) (v : Option Value) (h : Heap) (L : List Loc) : Prop := ∃ r, v = some (.ref r) ∧ Fr n0 L ∧ Keep h0 h [] ∧ own_Str Z h r [x0]
set_option maxRecDepth 65536 in
set_option maxHeartbeats 40000000 in
theorem rmMk1 (l : Launch) (Z : State) (a0 : Array Value) (hw : ∀ d ∈ tables_1, d.before a0 Z = true) (ws : List Jvm.Cond) (x0 : Int32) (x1 : Int32) (x2 : Int32) (x3 : Int32) (x4 : Int32) (cs : Int32) (h0 : Heap) (n0 : Nat) (Z0 : n0 ≤ h0.size) (hx0 : ¬ x0 < (0 : Int32) ∧ ¬ (255 : Int32) < x0) (hx1 : ¬ x1 < (0 : Int32) ∧ ¬ (255 : Int32) < x1) (hx2 : ¬ x2 < (0 : Int32) ∧ ¬ (255 : Int32) < x2) (hx3 : ¬ x3 < (0 : Int32) ∧ ¬ (255 : Int32) < x3) (hx4 : ¬ x4 < (0 : Int32) ∧ ¬ (255 : Int32) < x4) (S1 : Sta Z Z.heap "java/lang/String" "COMPACT_STRINGS" "Z" (.int cs)) (hcs : ¬ cs = (0 : Int32)) (XO : Old Z n0 h0) :
    MetFree l (⟨"com/example/nogood/nogood/problem/InstanceFormatNamedPinLaw", "make", "(ICCCCC)Ljava/lang/String;"⟩ : MethodName) (head1 (Jvm.Cond.code (⟨"com/example/nogood/nogood/problem/InstanceFormatNamedPinLaw", "make", "(ICCCCC)Ljava/lang/String;"⟩ : MethodName) method_2_code 6 (some (.object "java/lang/String")) :: ws) ({ frames := 4, cells := 3, slots := 6, locals := 66 } : Room)) (fun A_ U => A_ = #[(.int (1 : Int32)), (.int x0), (.int x1), (.int x2), (.int x3), (.int x4)] ∧ Z.Warmed39 U.vm ∧ U.heap = h0) (fun _ _ _ _ _ => True) (fun _ U o U' => ∃ v L, o = .returned v ∧ QMk1 Z x0 x1 x2 x3 x4 cs h0 n0 v U'.heap L ∧ FrameEnd U o U' L ({ frames := 4, cells := 3, slots := 6, locals := 66 } : Room).cells ({ frames := 4, cells := 3, slots := 6, locals := 66 } : Room).slots) := by
  refine MetFree.of_bodySF (plainFor_of_name pn_2) hisR ?_
  intro p e s m args below meth c s₁ Bd hml0 hP hK
  obtain ⟨rfl, hZ, hh⟩ := hP
  have hx := Bd.exec
  have hby := Bd.bytes
  have hml : c.maxLocals = 6 := hml0
  have hown : s.vm.findClass "com/example/nogood/nogood/problem/InstanceFormatNamedPinLaw" = some m.cls := findClass_of_methodNamed Bd.named
  have hnm := (name_of_methodNamed Bd.named Bd.method).1
  have X0 : Stand p l e ({ frames := 4, cells := 3, slots := 6, locals := 66 } : Room) s m #[(.int (1 : Int32)), (.int x0), (.int x1), (.int x2), (.int x3), (.int x4)] below meth c s₁ [] 0 0 := Stand.of_body Bd
  have e0 : s₁.heap = h0 := by rw [← hh, Bd.state]; rfl
  have N0 := Fr.nil n0
  have k0 : ∀ t, Steps p.tables e below (s₁.setTop (mkF m 0 #[.val (.int (1 : Int32)), .val (.int x0), .val (.int x1), .val (.int x2), .val (.int x3), .val (.int x4)] [])) t → Steps p.tables e below (s₁.setTop (entryFrame m #[(.int (1 : Int32)), (.int x0), (.int x1), (.int x2), (.int x3), (.int x4)] 6)) t := fun t k => castTop (ef_Mk1 m ((1 : Int32)) x0 x1 x2 x3 x4) k
  have k1 : ∀ t, Steps p.tables e below (s₁.setTop (mkF m 20 #[.val (.int (1 : Int32)), .val (.int x0), .val (.int x1), .val (.int x2), .val (.int x3), .val (.int x4)] [])) t → Steps p.tables e below (s₁.setTop (entryFrame m #[(.int (1 : Int32)), (.int x0), (.int x1), (.int x2), (.int x3), (.int x4)] 6)) t := by
    intro t k
    refine k0 _ ?_
    show Steps p.tables e below (s₁.setTop (mkF m 0 #[.val (.int (1 : Int32)), .val (.int x0), .val (.int x1), .val (.int x2), .val (.int x3), .val (.int x4)] [])) _
    refine XS.iloadN X0.here hx rfl (hb hby dm2_0) rfl ?_
    show Steps p.tables e below (s₁.setTop (mkF m 1 #[.val (.int (1 : Int32)), .val (.int x0), .val (.int x1), .val (.int x2), .val (.int x3), .val (.int x4)] [(.int (1 : Int32))])) _
    refine XS.ifYes X0.here hx rfl (pc0 := 1) (pc' := 15) rfl (hb hby dm2_1) rfl ((if0 _ _).trans (feq (by decide)).2) (by decide) (by decide) ?_
    show Steps p.tables e below (s₁.setTop (mkF m 15 #[.val (.int (1 : Int32)), .val (.int x0), .val (.int x1), .val (.int x2), .val (.int x3), .val (.int x4)] [])) _
    refine XS.iloadN X0.here hx rfl (hb hby dm2_15) rfl ?_
    show Steps p.tables e below (s₁.setTop (mkF m 16 #[.val (.int (1 : Int32)), .val (.int x0), .val (.int x1), .val (.int x2), .val (.int x3), .val (.int x4)] [(.int (1 : Int32))])) _
    refine XS.iconst X0.here hx rfl (hb hby dm2_16) ?_
    show Steps p.tables e below (s₁.setTop (mkF m 17 #[.val (.int (1 : Int32)), .val (.int x0), .val (.int x1), .val (.int x2), .val (.int x3), .val (.int x4)] [(.int (1 : Int32)), (.int (1 : Int32))])) _
    refine XS.icmpNo X0.here hx rfl (hb hby dm2_17) rfl (teq (by decide)).2 ?_
    show Steps p.tables e below (s₁.setTop (mkF m 20 #[.val (.int (1 : Int32)), .val (.int x0), .val (.int x1), .val (.int x2), .val (.int x3), .val (.int x4)] [])) _
    exact k
  obtain ⟨T2, h2, X2, e2, E2, A2, D2, -, st2⟩ := newO X0 hx hZ hown (hw _ (List.mem_of_getElem? (i := 4) rfl)) (hw _ (List.mem_of_getElem? (i := 5) rfl)) (hw _ (List.mem_of_getElem? (i := 6) rfl)) e0 (g := (mkF m 20 #[.val (.int (1 : Int32)), .val (.int x0), .val (.int x1), .val (.int x2), .val (.int x3), .val (.int x4)] [])) rfl (hb hby dm2_20) (by decide) (by decide)
  obtain ⟨b2, g2⟩ : ∃ z, z = h0.size := ⟨_, rfl⟩
  rw [← g2] at A2 D2 st2
  have g_b2 : n0 ≤ b2 := Nat.le_trans Z0 (Nat.le_of_eq g2.symm)
  have sz_b2 : h0.size ≤ b2 := Nat.le_trans (Keep.refl h0 []).1 (Nat.le_of_eq g2.symm)
  have F2_value : Fld Z h2 b2 "java/lang/String" "value" "[B" .null := D2 (Or.inr (hw _ (List.mem_of_getElem? (i := 20) rfl))) (ty := (.array .byte)) (by decide)
  have F2_coder : Fld Z h2 b2 "java/lang/String" "coder" "B" (.int (0 : Int32)) := D2 (Or.inr (hw _ (List.mem_of_getElem? (i := 21) rfl))) (ty := .byte) (by decide)
  have k2 : ∀ t, Steps p.tables e below (T2.setTop (mkF m 23 #[.val (.int (1 : Int32)), .val (.int x0), .val (.int x1), .val (.int x2), .val (.int x3), .val (.int x4)] [(.ref b2)])) t → Steps p.tables e below (s₁.setTop (entryFrame m #[(.int (1 : Int32)), (.int x0), (.int x1), (.int x2), (.int x3), (.int x4)] 6)) t := fun t k => k1 t (st2 _ k)
  have Z3 : n0 ≤ h2.size := Nat.le_trans Z0 E2.1
  have k4 : ∀ t, Steps p.tables e below (T2.setTop (mkF m 25 #[.val (.int (1 : Int32)), .val (.int x0), .val (.int x1), .val (.int x2), .val (.int x3), .val (.int x4)] [(.int (1 : Int32)), (.ref b2), (.ref b2)])) t → Steps p.tables e below (s₁.setTop (entryFrame m #[(.int (1 : Int32)), (.int x0), (.int x1), (.int x2), (.int x3), (.int x4)] 6)) t := by
    intro t k
    refine k2 _ ?_
    show Steps p.tables e below (T2.setTop (mkF m 23 #[.val (.int (1 : Int32)), .val (.int x0), .val (.int x1), .val (.int x2), .val (.int x3), .val (.int x4)] [(.ref b2)])) _
    refine XS.dup X2.here hx rfl (hb hby dm2_23) rfl rfl ?_
    show Steps p.tables e below (T2.setTop (mkF m 24 #[.val (.int (1 : Int32)), .val (.int x0), .val (.int x1), .val (.int x2), .val (.int x3), .val (.int x4)] [(.ref b2), (.ref b2)])) _
    refine XS.iconst X2.here hx rfl (hb hby dm2_24) ?_
    show Steps p.tables e below (T2.setTop (mkF m 25 #[.val (.int (1 : Int32)), .val (.int x0), .val (.int x1), .val (.int x2), .val (.int x3), .val (.int x4)] [(.int (1 : Int32)), (.ref b2), (.ref b2)])) _
    exact k
  have kp6 : Keep h0 h2 [] := ((Keep.refl h0 []).ext E2)
  obtain ⟨T5, h5, k5_, X5, e5, E5, A5, st5⟩ := newP X2 hx hZ (hw _ (List.mem_of_getElem? (i := 7) rfl)) e2 (g := (mkF m 25 #[.val (.int (1 : Int32)), .val (.int x0), .val (.int x1), .val (.int x2), .val (.int x3), .val (.int x4)] [(.int (1 : Int32)), (.ref b2), (.ref b2)])) rfl (hb hby dm2_25) rfl (by decide : ¬ ((1 : Int32) < (0 : Int32))) (cap := 1) (by decide : (1 : Int32).toNatClampNeg ≤ 1) (by decide) (by decide) (by decide)
  obtain ⟨b5, g5⟩ : ∃ z, z = h2.size := ⟨_, rfl⟩
  rw [← g5] at A5 st5
  have ne_b2_b5 : b2 ≠ b5 := Nat.ne_of_lt (Nat.lt_of_lt_of_eq A2.lt g5.symm)
  have g_b5 : n0 ≤ b5 := Nat.le_trans Z3 (Nat.le_of_eq g5.symm)
  have sz_b5 : h0.size ≤ b5 := Nat.le_trans kp6.1 (Nat.le_of_eq g5.symm)
  have V5 : Arv Z h5 b5 k5_ .char (1 : Int32) [(.int (0 : Int32))] (.int (0 : Int32)) := (Arv.new A5 (by decide : ¬ ((1 : Int32) < (0 : Int32)))).pad (pad_rep [] (.int (0 : Int32)) 1)
  have k5 : ∀ t, Steps p.tables e below (T5.setTop (mkF m 27 #[.val (.int (1 : Int32)), .val (.int x0), .val (.int x1), .val (.int x2), .val (.int x3), .val (.int x4)] [(.ref b5), (.ref b2), (.ref b2)])) t → Steps p.tables e below (s₁.setTop (entryFrame m #[(.int (1 : Int32)), (.int x0), (.int x1), (.int x2), (.int x3), (.int x4)] 6)) t := fun t k => k4 t (st5 _ k)
  have Z7 : n0 ≤ h5.size := Nat.le_trans Z3 E5.1
  have k8 : ∀ t, Steps p.tables e below (T5.setTop (mkF m 30 #[.val (.int (1 : Int32)), .val (.int x0), .val (.int x1), .val (.int x2), .val (.int x3), .val (.int x4)] [(.int x0), (.int (0 : Int32)), (.ref b5), (.ref b5), (.ref b2), (.ref b2)])) t → Steps p.tables e below (s₁.setTop (entryFrame m #[(.int (1 : Int32)), (.int x0), (.int x1), (.int x2), (.int x3), (.int x4)] 6)) t := by
    intro t k
    refine k5 _ ?_
    show Steps p.tables e below (T5.setTop (mkF m 27 #[.val (.int (1 : Int32)), .val (.int x0), .val (.int x1), .val (.int x2), .val (.int x3), .val (.int x4)] [(.ref b5), (.ref b2), (.ref b2)])) _
    refine XS.dup X5.here hx rfl (hb hby dm2_27) rfl rfl ?_
    show Steps p.tables e below (T5.setTop (mkF m 28 #[.val (.int (1 : Int32)), .val (.int x0), .val (.int x1), .val (.int x2), .val (.int x3), .val (.int x4)] [(.ref b5), (.ref b5), (.ref b2), (.ref b2)])) _
    refine XS.iconst X5.here hx rfl (hb hby dm2_28) ?_
    show Steps p.tables e below (T5.setTop (mkF m 29 #[.val (.int (1 : Int32)), .val (.int x0), .val (.int x1), .val (.int x2), .val (.int x3), .val (.int x4)] [(.int (0 : Int32)), (.ref b5), (.ref b5), (.ref b2), (.ref b2)])) _
    refine XS.iloadN X5.here hx rfl (hb hby dm2_29) rfl ?_
    show Steps p.tables e below (T5.setTop (mkF m 30 #[.val (.int (1 : Int32)), .val (.int x0), .val (.int x1), .val (.int x2), .val (.int x3), .val (.int x4)] [(.int x0), (.int (0 : Int32)), (.ref b5), (.ref b5), (.ref b2), (.ref b2)])) _
    exact k
  obtain ⟨cl9, Ar9, qk9, Sz9, Nn9, Hs9, Gs9⟩ := id V5
  obtain ⟨T10, h10, X10, e10, W10, st10⟩ := stC X5 hx hZ e5 Ar9 (j := (0 : Int32)) (inb_of Sz9 ⟨(by decide : ¬ ((0 : Int32) < (0 : Int32))), (by decide : (0 : Int32) < (1 : Int32))⟩) (g := (mkF m 30 #[.val (.int (1 : Int32)), .val (.int x0), .val (.int x1), .val (.int x2), .val (.int x3), .val (.int x4)] [(.int x0), (.int (0 : Int32)), (.ref b5), (.ref b5), (.ref b2), (.ref b2)])) rfl rfl (hb hby dm2_30)
  have N10 := Fr.snoc X10 N0 g_b5
  have V10 : Arv Z h10 b5 k5_ .char (1 : Int32) [(.int (nar .char x0))] (.int (0 : Int32)) := Arv.set Ar9 qk9 Sz9 Nn9 Hs9 Gs9 (fits_nar_char _) W10 0 rfl (Nat.le_of_ble_eq_true rfl)
  have k10 : ∀ t, Steps p.tables e below (T10.setTop (mkF m 31 #[.val (.int (1 : Int32)), .val (.int x0), .val (.int x1), .val (.int x2), .val (.int x3), .val (.int x4)] [(.ref b5), (.ref b2), (.ref b2)])) t → Steps p.tables e below (s₁.setTop (entryFrame m #[(.int (1 : Int32)), (.int x0), (.int x1), (.int x2), (.int x3), (.int x4)] 6)) t := fun t k => k8 t (st10 _ k)
  have Z11 : n0 ≤ h10.size := Nat.le_trans Z7 (Keep.of_wr W10).1
  rw [own_narc hx0] at V10
  have hpp : ∀ c ∈ ([x0] : List Int32), ¬ c < (0 : Int32) ∧ ¬ (255 : Int32) < c := by
    intro c hc
    simp only [List.mem_cons, List.not_mem_nil, or_false] at hc
    rcases hc with rfl
    · exact hx0
  have f12 := ((A2.ext E5).wr W10)
  have f13 := ((F2_value.ext E5).other W10 (Or.inl ne_b2_b5))
  have f14 := ((F2_coder.ext E5).other W10 (Or.inl ne_b2_b5))
  have od15 : Old Z n0 h10 := (((XO.ext E2).ext E5).wr W10 g_b5)
  obtain ⟨_, _, ⟨T16, L16, ck16, nk16⟩, -, X16, ⟨Lc16, hQ16, l16, y16, z16⟩, st16⟩ := X10.specialBack hx (y := (⟨"java/lang/String", "<init>", "([C)V"⟩ : MethodName)) rfl hown (mvT hZ (hw _ (List.mem_of_getElem? (i := 8) rfl))) (mvT hZ (hw _ (List.mem_of_getElem? (i := 9) rfl))) (mvT hZ (hw _ (List.mem_of_getElem? (i := 10) rfl))) (by decide) (StrChars.Road.backV (W := 1) hZ (fun d hd => hw d (own_wNew d hd)) (kI := 4) (hw _ (List.mem_of_getElem? (i := 5) rfl)) (cs := ([x0] : List Int32)) (bs := ([x0] : List Int32).map (fun c => c.toInt8.toInt32)) (n := 1) g_b2 Z11 f12 f13 f14 V10 (S1.ext od15.2) hcs rfl rfl (by decide) (by decide) hpp rfl (by decide) (by decide)) (g := (mkF m 31 #[.val (.int (1 : Int32)), .val (.int x0), .val (.int x1), .val (.int x2), .val (.int x3), .val (.int x4)] [(.ref b5), (.ref b2), (.ref b2)])) rfl (by rw [hml]; rfl) (Steps.refl _) (a := b2) (argsL := [(.ref b5)]) (rest := [(.ref b2)]) (lenOf pd_2 rfl) rfl (by show 2 * 0 + _ ≤ _; exact Nat.le_of_eq rfl) (hb hby dm2_31) (fun _ _ => ⟨rfl, e10, (by decide : 2 + 1 ≤ _), (by decide : 5 + 1 ≤ _)⟩)
  dsimp only [Pt.U, Pt.locs, Pt.cells, Pt.slots] at X16 l16 y16 z16 st16 hQ16
  subst l16 y16 z16
  obtain ⟨rfl, N16q, K16, EE16, FC16, t16, kb16, ht116, ht216, ht316, FV16, VA16⟩ := hQ16
  have N16 := Fr.app N10 N16q
  have k16 : ∀ t, Steps p.tables e below (T16.setTop (mkF m 34 #[.val (.int (1 : Int32)), .val (.int x0), .val (.int x1), .val (.int x2), .val (.int x3), .val (.int x4)] [(.ref b2)])) t → Steps p.tables e below (s₁.setTop (entryFrame m #[(.int (1 : Int32)), (.int x0), (.int x1), (.int x2), (.int x3), (.int x4)] 6)) t := fun t k => k10 t (st16.trans k)
  have Z17 : n0 ≤ T16.heap.size := Nat.le_trans Z11 K16.1
  have TS16 : own_Str Z T16.heap b2 ([x0] : List Int32) := ⟨t16, kb16, EE16, FC16, FV16, VA16, hpp, Nat.le_of_ble_eq_true rfl⟩
  have kp18 : Keep h0 T16.heap [] := (((kp6.ext E5).wr W10 (Or.inr sz_b5)).trans K16 (allS (Or.inr sz_b2) all0))
  obtain ⟨fs, hr, hrun, hended, hW, hsame⟩ := X16.leave (v := some (.ref b2)) (fun h => by rw [Bd.returns] at h; cases h)
  refine ⟨_, _, k16 _ ?_, hrun, hended, _, _, rfl, ?_, ⟨_, rfl⟩, hW, hsame.mono (Nat.le_of_ble_eq_true rfl) (Nat.le_of_ble_eq_true rfl)⟩
  · exact retOut X16 hx Bd.returns rfl (Or.inr (Or.inr (Or.inr (Or.inr ⟨rfl, rfl, rfl⟩)))) (hb hby dm2_34) hr
  · show QMk1 Z x0 x1 x2 x3 x4 cs h0 n0 _ T16.heap _
    skip
    exact ⟨_, rfl, N16, kp18, TS16⟩
theorem ef_Mk2 (m : MethodId) (x0 : Int32) (x1 : Int32) (x2 : Int32) (x3 : Int32) (x4 : Int32) (x5 : Int32) : entryFrame m #[(.int x0), (.int x1), (.int x2), (.int x3), (.int x4), (.int x5)] 6 = mkF m 0 #[.val (.int x0), .val (.int x1), .val (.int x2), .val (.int x3), .val (.int x4), .val (.int x5)] [] := by first | (simp [entryFrame, mkF, argsToLocals, Value.category]; done) | rfl
def QMk2 (Z : State) (x0 : Int32) (x1 : Int32) (x2 : Int32) (x3 : Int32) (x4 : Int32) (cs : Int32) (h0 : Heap) (n0 : Nat) (v : Option Value) (h : Heap) (L : List Loc) : Prop := ∃ r, v = some (.ref r) ∧ Fr n0 L ∧ Keep h0 h [] ∧ own_Str Z h r [x0, x1]
set_option maxRecDepth 65536 in
set_option maxHeartbeats 40000000 in
theorem rmMk2 (l : Launch) (Z : State) (a0 : Array Value) (hw : ∀ d ∈ tables_1, d.before a0 Z = true) (ws : List Jvm.Cond) (x0 : Int32) (x1 : Int32) (x2 : Int32) (x3 : Int32) (x4 : Int32) (cs : Int32) (h0 : Heap) (n0 : Nat) (Z0 : n0 ≤ h0.size) (hx0 : ¬ x0 < (0 : Int32) ∧ ¬ (255 : Int32) < x0) (hx1 : ¬ x1 < (0 : Int32) ∧ ¬ (255 : Int32) < x1) (hx2 : ¬ x2 < (0 : Int32) ∧ ¬ (255 : Int32) < x2) (hx3 : ¬ x3 < (0 : Int32) ∧ ¬ (255 : Int32) < x3) (hx4 : ¬ x4 < (0 : Int32) ∧ ¬ (255 : Int32) < x4) (S1 : Sta Z Z.heap "java/lang/String" "COMPACT_STRINGS" "Z" (.int cs)) (hcs : ¬ cs = (0 : Int32)) (XO : Old Z n0 h0) :
    MetFree l (⟨"com/example/nogood/nogood/problem/InstanceFormatNamedPinLaw", "make", "(ICCCCC)Ljava/lang/String;"⟩ : MethodName) (head1 (Jvm.Cond.code (⟨"com/example/nogood/nogood/problem/InstanceFormatNamedPinLaw", "make", "(ICCCCC)Ljava/lang/String;"⟩ : MethodName) method_2_code 6 (some (.object "java/lang/String")) :: ws) ({ frames := 4, cells := 3, slots := 8, locals := 66 } : Room)) (fun A_ U => A_ = #[(.int (2 : Int32)), (.int x0), (.int x1), (.int x2), (.int x3), (.int x4)] ∧ Z.Warmed39 U.vm ∧ U.heap = h0) (fun _ _ _ _ _ => True) (fun _ U o U' => ∃ v L, o = .returned v ∧ QMk2 Z x0 x1 x2 x3 x4 cs h0 n0 v U'.heap L ∧ FrameEnd U o U' L ({ frames := 4, cells := 3, slots := 8, locals := 66 } : Room).cells ({ frames := 4, cells := 3, slots := 8, locals := 66 } : Room).slots) := by
  refine MetFree.of_bodySF (plainFor_of_name pn_2) hisR ?_
  intro p e s m args below meth c s₁ Bd hml0 hP hK
  obtain ⟨rfl, hZ, hh⟩ := hP
  have hx := Bd.exec
  have hby := Bd.bytes
  have hml : c.maxLocals = 6 := hml0
  have hown : s.vm.findClass "com/example/nogood/nogood/problem/InstanceFormatNamedPinLaw" = some m.cls := findClass_of_methodNamed Bd.named
  have hnm := (name_of_methodNamed Bd.named Bd.method).1
  have X0 : Stand p l e ({ frames := 4, cells := 3, slots := 8, locals := 66 } : Room) s m #[(.int (2 : Int32)), (.int x0), (.int x1), (.int x2), (.int x3), (.int x4)] below meth c s₁ [] 0 0 := Stand.of_body Bd
  have e0 : s₁.heap = h0 := by rw [← hh, Bd.state]; rfl
  have N0 := Fr.nil n0
  have k0 : ∀ t, Steps p.tables e below (s₁.setTop (mkF m 0 #[.val (.int (2 : Int32)), .val (.int x0), .val (.int x1), .val (.int x2), .val (.int x3), .val (.int x4)] [])) t → Steps p.tables e below (s₁.setTop (entryFrame m #[(.int (2 : Int32)), (.int x0), (.int x1), (.int x2), (.int x3), (.int x4)] 6)) t := fun t k => castTop (ef_Mk2 m ((2 : Int32)) x0 x1 x2 x3 x4) k
  have k1 : ∀ t, Steps p.tables e below (s₁.setTop (mkF m 40 #[.val (.int (2 : Int32)), .val (.int x0), .val (.int x1), .val (.int x2), .val (.int x3), .val (.int x4)] [])) t → Steps p.tables e below (s₁.setTop (entryFrame m #[(.int (2 : Int32)), (.int x0), (.int x1), (.int x2), (.int x3), (.int x4)] 6)) t := by
    intro t k
    refine k0 _ ?_
    show Steps p.tables e below (s₁.setTop (mkF m 0 #[.val (.int (2 : Int32)), .val (.int x0), .val (.int x1), .val (.int x2), .val (.int x3), .val (.int x4)] [])) _
    refine XS.iloadN X0.here hx rfl (hb hby dm2_0) rfl ?_
    show Steps p.tables e below (s₁.setTop (mkF m 1 #[.val (.int (2 : Int32)), .val (.int x0), .val (.int x1), .val (.int x2), .val (.int x3), .val (.int x4)] [(.int (2 : Int32))])) _
    refine XS.ifYes X0.here hx rfl (pc0 := 1) (pc' := 15) rfl (hb hby dm2_1) rfl ((if0 _ _).trans (feq (by decide)).2) (by decide) (by decide) ?_
    show Steps p.tables e below (s₁.setTop (mkF m 15 #[.val (.int (2 : Int32)), .val (.int x0), .val (.int x1), .val (.int x2), .val (.int x3), .val (.int x4)] [])) _
    refine XS.iloadN X0.here hx rfl (hb hby dm2_15) rfl ?_
    show Steps p.tables e below (s₁.setTop (mkF m 16 #[.val (.int (2 : Int32)), .val (.int x0), .val (.int x1), .val (.int x2), .val (.int x3), .val (.int x4)] [(.int (2 : Int32))])) _
    refine XS.iconst X0.here hx rfl (hb hby dm2_16) ?_
    show Steps p.tables e below (s₁.setTop (mkF m 17 #[.val (.int (2 : Int32)), .val (.int x0), .val (.int x1), .val (.int x2), .val (.int x3), .val (.int x4)] [(.int (1 : Int32)), (.int (2 : Int32))])) _
    refine XS.icmpYes X0.here hx rfl (pc0 := 17) (pc' := 35) rfl (hb hby dm2_17) rfl (feq (by decide)).2 (by decide) (by decide) ?_
    show Steps p.tables e below (s₁.setTop (mkF m 35 #[.val (.int (2 : Int32)), .val (.int x0), .val (.int x1), .val (.int x2), .val (.int x3), .val (.int x4)] [])) _
    refine XS.iloadN X0.here hx rfl (hb hby dm2_35) rfl ?_
    show Steps p.tables e below (s₁.setTop (mkF m 36 #[.val (.int (2 : Int32)), .val (.int x0), .val (.int x1), .val (.int x2), .val (.int x3), .val (.int x4)] [(.int (2 : Int32))])) _
    refine XS.iconst X0.here hx rfl (hb hby dm2_36) ?_
    show Steps p.tables e below (s₁.setTop (mkF m 37 #[.val (.int (2 : Int32)), .val (.int x0), .val (.int x1), .val (.int x2), .val (.int x3), .val (.int x4)] [(.int (2 : Int32)), (.int (2 : Int32))])) _
    refine XS.icmpNo X0.here hx rfl (hb hby dm2_37) rfl (teq (by decide)).2 ?_
    show Steps p.tables e below (s₁.setTop (mkF m 40 #[.val (.int (2 : Int32)), .val (.int x0), .val (.int x1), .val (.int x2), .val (.int x3), .val (.int x4)] [])) _
    exact k
  obtain ⟨T2, h2, X2, e2, E2, A2, D2, -, st2⟩ := newO X0 hx hZ hown (hw _ (List.mem_of_getElem? (i := 4) rfl)) (hw _ (List.mem_of_getElem? (i := 5) rfl)) (hw _ (List.mem_of_getElem? (i := 6) rfl)) e0 (g := (mkF m 40 #[.val (.int (2 : Int32)), .val (.int x0), .val (.int x1), .val (.int x2), .val (.int x3), .val (.int x4)] [])) rfl (hb hby dm2_40) (by decide) (by decide)
  obtain ⟨b2, g2⟩ : ∃ z, z = h0.size := ⟨_, rfl⟩
  rw [← g2] at A2 D2 st2
  have g_b2 : n0 ≤ b2 := Nat.le_trans Z0 (Nat.le_of_eq g2.symm)
  have sz_b2 : h0.size ≤ b2 := Nat.le_trans (Keep.refl h0 []).1 (Nat.le_of_eq g2.symm)
  have F2_value : Fld Z h2 b2 "java/lang/String" "value" "[B" .null := D2 (Or.inr (hw _ (List.mem_of_getElem? (i := 20) rfl))) (ty := (.array .byte)) (by decide)
  have F2_coder : Fld Z h2 b2 "java/lang/String" "coder" "B" (.int (0 : Int32)) := D2 (Or.inr (hw _ (List.mem_of_getElem? (i := 21) rfl))) (ty := .byte) (by decide)
  have k2 : ∀ t, Steps p.tables e below (T2.setTop (mkF m 43 #[.val (.int (2 : Int32)), .val (.int x0), .val (.int x1), .val (.int x2), .val (.int x3), .val (.int x4)] [(.ref b2)])) t → Steps p.tables e below (s₁.setTop (entryFrame m #[(.int (2 : Int32)), (.int x0), (.int x1), (.int x2), (.int x3), (.int x4)] 6)) t := fun t k => k1 t (st2 _ k)
  have Z3 : n0 ≤ h2.size := Nat.le_trans Z0 E2.1
  have k4 : ∀ t, Steps p.tables e below (T2.setTop (mkF m 45 #[.val (.int (2 : Int32)), .val (.int x0), .val (.int x1), .val (.int x2), .val (.int x3), .val (.int x4)] [(.int (2 : Int32)), (.ref b2), (.ref b2)])) t → Steps p.tables e below (s₁.setTop (entryFrame m #[(.int (2 : Int32)), (.int x0), (.int x1), (.int x2), (.int x3), (.int x4)] 6)) t := by
    intro t k
    refine k2 _ ?_
    show Steps p.tables e below (T2.setTop (mkF m 43 #[.val (.int (2 : Int32)), .val (.int x0), .val (.int x1), .val (.int x2), .val (.int x3), .val (.int x4)] [(.ref b2)])) _
    refine XS.dup X2.here hx rfl (hb hby dm2_43) rfl rfl ?_
    show Steps p.tables e below (T2.setTop (mkF m 44 #[.val (.int (2 : Int32)), .val (.int x0), .val (.int x1), .val (.int x2), .val (.int x3), .val (.int x4)] [(.ref b2), (.ref b2)])) _
    refine XS.iconst X2.here hx rfl (hb hby dm2_44) ?_
    show Steps p.tables e below (T2.setTop (mkF m 45 #[.val (.int (2 : Int32)), .val (.int x0), .val (.int x1), .val (.int x2), .val (.int x3), .val (.int x4)] [(.int (2 : Int32)), (.ref b2), (.ref b2)])) _
    exact k
  have kp6 : Keep h0 h2 [] := ((Keep.refl h0 []).ext E2)
  obtain ⟨T5, h5, k5_, X5, e5, E5, A5, st5⟩ := newP X2 hx hZ (hw _ (List.mem_of_getElem? (i := 7) rfl)) e2 (g := (mkF m 45 #[.val (.int (2 : Int32)), .val (.int x0), .val (.int x1), .val (.int x2), .val (.int x3), .val (.int x4)] [(.int (2 : Int32)), (.ref b2), (.ref b2)])) rfl (hb hby dm2_45) rfl (by decide : ¬ ((2 : Int32) < (0 : Int32))) (cap := 2) (by decide : (2 : Int32).toNatClampNeg ≤ 2) (by decide) (by decide) (by decide)
  obtain ⟨b5, g5⟩ : ∃ z, z = h2.size := ⟨_, rfl⟩
  rw [← g5] at A5 st5
  have ne_b2_b5 : b2 ≠ b5 := Nat.ne_of_lt (Nat.lt_of_lt_of_eq A2.lt g5.symm)
  have g_b5 : n0 ≤ b5 := Nat.le_trans Z3 (Nat.le_of_eq g5.symm)
  have sz_b5 : h0.size ≤ b5 := Nat.le_trans kp6.1 (Nat.le_of_eq g5.symm)
  have V5 : Arv Z h5 b5 k5_ .char (2 : Int32) [(.int (0 : Int32)), (.int (0 : Int32))] (.int (0 : Int32)) := (Arv.new A5 (by decide : ¬ ((2 : Int32) < (0 : Int32)))).pad (pad_rep [] (.int (0 : Int32)) 2)
  have k5 : ∀ t, Steps p.tables e below (T5.setTop (mkF m 47 #[.val (.int (2 : Int32)), .val (.int x0), .val (.int x1), .val (.int x2), .val (.int x3), .val (.int x4)] [(.ref b5), (.ref b2), (.ref b2)])) t → Steps p.tables e below (s₁.setTop (entryFrame m #[(.int (2 : Int32)), (.int x0), (.int x1), (.int x2), (.int x3), (.int x4)] 6)) t := fun t k => k4 t (st5 _ k)
  have Z7 : n0 ≤ h5.size := Nat.le_trans Z3 E5.1
  have k8 : ∀ t, Steps p.tables e below (T5.setTop (mkF m 50 #[.val (.int (2 : Int32)), .val (.int x0), .val (.int x1), .val (.int x2), .val (.int x3), .val (.int x4)] [(.int x0), (.int (0 : Int32)), (.ref b5), (.ref b5), (.ref b2), (.ref b2)])) t → Steps p.tables e below (s₁.setTop (entryFrame m #[(.int (2 : Int32)), (.int x0), (.int x1), (.int x2), (.int x3), (.int x4)] 6)) t := by
    intro t k
    refine k5 _ ?_
    show Steps p.tables e below (T5.setTop (mkF m 47 #[.val (.int (2 : Int32)), .val (.int x0), .val (.int x1), .val (.int x2), .val (.int x3), .val (.int x4)] [(.ref b5), (.ref b2), (.ref b2)])) _
    refine XS.dup X5.here hx rfl (hb hby dm2_47) rfl rfl ?_
    show Steps p.tables e below (T5.setTop (mkF m 48 #[.val (.int (2 : Int32)), .val (.int x0), .val (.int x1), .val (.int x2), .val (.int x3), .val (.int x4)] [(.ref b5), (.ref b5), (.ref b2), (.ref b2)])) _
    refine XS.iconst X5.here hx rfl (hb hby dm2_48) ?_
    show Steps p.tables e below (T5.setTop (mkF m 49 #[.val (.int (2 : Int32)), .val (.int x0), .val (.int x1), .val (.int x2), .val (.int x3), .val (.int x4)] [(.int (0 : Int32)), (.ref b5), (.ref b5), (.ref b2), (.ref b2)])) _
    refine XS.iloadN X5.here hx rfl (hb hby dm2_49) rfl ?_
    show Steps p.tables e below (T5.setTop (mkF m 50 #[.val (.int (2 : Int32)), .val (.int x0), .val (.int x1), .val (.int x2), .val (.int x3), .val (.int x4)] [(.int x0), (.int (0 : Int32)), (.ref b5), (.ref b5), (.ref b2), (.ref b2)])) _
    exact k
  obtain ⟨cl9, Ar9, qk9, Sz9, Nn9, Hs9, Gs9⟩ := id V5
  obtain ⟨T10, h10, X10, e10, W10, st10⟩ := stC X5 hx hZ e5 Ar9 (j := (0 : Int32)) (inb_of Sz9 ⟨(by decide : ¬ ((0 : Int32) < (0 : Int32))), (by decide : (0 : Int32) < (2 : Int32))⟩) (g := (mkF m 50 #[.val (.int (2 : Int32)), .val (.int x0), .val (.int x1), .val (.int x2), .val (.int x3), .val (.int x4)] [(.int x0), (.int (0 : Int32)), (.ref b5), (.ref b5), (.ref b2), (.ref b2)])) rfl rfl (hb hby dm2_50)
  have N10 := Fr.snoc X10 N0 g_b5
  have V10 : Arv Z h10 b5 k5_ .char (2 : Int32) [(.int (nar .char x0)), (.int (0 : Int32))] (.int (0 : Int32)) := Arv.set Ar9 qk9 Sz9 Nn9 Hs9 Gs9 (fits_nar_char _) W10 0 rfl (Nat.le_of_ble_eq_true rfl)
  have k10 : ∀ t, Steps p.tables e below (T10.setTop (mkF m 51 #[.val (.int (2 : Int32)), .val (.int x0), .val (.int x1), .val (.int x2), .val (.int x3), .val (.int x4)] [(.ref b5), (.ref b2), (.ref b2)])) t → Steps p.tables e below (s₁.setTop (entryFrame m #[(.int (2 : Int32)), (.int x0), (.int x1), (.int x2), (.int x3), (.int x4)] 6)) t := fun t k => k8 t (st10 _ k)
  have Z11 : n0 ≤ h10.size := Nat.le_trans Z7 (Keep.of_wr W10).1
  rw [own_narc hx0] at V10
  have k12 : ∀ t, Steps p.tables e below (T10.setTop (mkF m 54 #[.val (.int (2 : Int32)), .val (.int x0), .val (.int x1), .val (.int x2), .val (.int x3), .val (.int x4)] [(.int x1), (.int (1 : Int32)), (.ref b5), (.ref b5), (.ref b2), (.ref b2)])) t → Steps p.tables e below (s₁.setTop (entryFrame m #[(.int (2 : Int32)), (.int x0), (.int x1), (.int x2), (.int x3), (.int x4)] 6)) t := by
    intro t k
    refine k10 _ ?_
    show Steps p.tables e below (T10.setTop (mkF m 51 #[.val (.int (2 : Int32)), .val (.int x0), .val (.int x1), .val (.int x2), .val (.int x3), .val (.int x4)] [(.ref b5), (.ref b2), (.ref b2)])) _
    refine XS.dup X10.here hx rfl (hb hby dm2_51) rfl rfl ?_
    show Steps p.tables e below (T10.setTop (mkF m 52 #[.val (.int (2 : Int32)), .val (.int x0), .val (.int x1), .val (.int x2), .val (.int x3), .val (.int x4)] [(.ref b5), (.ref b5), (.ref b2), (.ref b2)])) _
    refine XS.iconst X10.here hx rfl (hb hby dm2_52) ?_
    show Steps p.tables e below (T10.setTop (mkF m 53 #[.val (.int (2 : Int32)), .val (.int x0), .val (.int x1), .val (.int x2), .val (.int x3), .val (.int x4)] [(.int (1 : Int32)), (.ref b5), (.ref b5), (.ref b2), (.ref b2)])) _
    refine XS.iloadN X10.here hx rfl (hb hby dm2_53) rfl ?_
    show Steps p.tables e below (T10.setTop (mkF m 54 #[.val (.int (2 : Int32)), .val (.int x0), .val (.int x1), .val (.int x2), .val (.int x3), .val (.int x4)] [(.int x1), (.int (1 : Int32)), (.ref b5), (.ref b5), (.ref b2), (.ref b2)])) _
    exact k
  obtain ⟨cl13, Ar13, qk13, Sz13, Nn13, Hs13, Gs13⟩ := id V10
  obtain ⟨T14, h14, X14, e14, W14, st14⟩ := stC X10 hx hZ e10 Ar13 (j := (1 : Int32)) (inb_of Sz13 ⟨(by decide : ¬ ((1 : Int32) < (0 : Int32))), (by decide : (1 : Int32) < (2 : Int32))⟩) (g := (mkF m 54 #[.val (.int (2 : Int32)), .val (.int x0), .val (.int x1), .val (.int x2), .val (.int x3), .val (.int x4)] [(.int x1), (.int (1 : Int32)), (.ref b5), (.ref b5), (.ref b2), (.ref b2)])) rfl rfl (hb hby dm2_54)
  have N14 := Fr.snoc X14 N10 g_b5
  have V14 : Arv Z h14 b5 k5_ .char (2 : Int32) [(.int x0), (.int (nar .char x1))] (.int (0 : Int32)) := Arv.set Ar13 qk13 Sz13 Nn13 Hs13 Gs13 (fits_nar_char _) W14 1 rfl (Nat.le_of_ble_eq_true rfl)
  have k14 : ∀ t, Steps p.tables e below (T14.setTop (mkF m 55 #[.val (.int (2 : Int32)), .val (.int x0), .val (.int x1), .val (.int x2), .val (.int x3), .val (.int x4)] [(.ref b5), (.ref b2), (.ref b2)])) t → Steps p.tables e below (s₁.setTop (entryFrame m #[(.int (2 : Int32)), (.int x0), (.int x1), (.int x2), (.int x3), (.int x4)] 6)) t := fun t k => k12 t (st14 _ k)
  have Z15 : n0 ≤ h14.size := Nat.le_trans Z11 (Keep.of_wr W14).1
  rw [own_narc hx1] at V14
  have hpp : ∀ c ∈ ([x0, x1] : List Int32), ¬ c < (0 : Int32) ∧ ¬ (255 : Int32) < c := by
    intro c hc
    simp only [List.mem_cons, List.not_mem_nil, or_false] at hc
    rcases hc with rfl | rfl
    · exact hx0
    · exact hx1
  have f16 := (((A2.ext E5).wr W10).wr W14)
  have f17 := (((F2_value.ext E5).other W10 (Or.inl ne_b2_b5)).other W14 (Or.inl ne_b2_b5))
  have f18 := (((F2_coder.ext E5).other W10 (Or.inl ne_b2_b5)).other W14 (Or.inl ne_b2_b5))
  have od19 : Old Z n0 h14 := ((((XO.ext E2).ext E5).wr W10 g_b5).wr W14 g_b5)
  obtain ⟨_, _, ⟨T20, L20, ck20, nk20⟩, -, X20, ⟨Lc20, hQ20, l20, y20, z20⟩, st20⟩ := X14.specialBack hx (y := (⟨"java/lang/String", "<init>", "([C)V"⟩ : MethodName)) rfl hown (mvT hZ (hw _ (List.mem_of_getElem? (i := 8) rfl))) (mvT hZ (hw _ (List.mem_of_getElem? (i := 9) rfl))) (mvT hZ (hw _ (List.mem_of_getElem? (i := 10) rfl))) (by decide) (StrChars.Road.backV (W := 1) hZ (fun d hd => hw d (own_wNew d hd)) (kI := 4) (hw _ (List.mem_of_getElem? (i := 5) rfl)) (cs := ([x0, x1] : List Int32)) (bs := ([x0, x1] : List Int32).map (fun c => c.toInt8.toInt32)) (n := 2) g_b2 Z15 f16 f17 f18 V14 (S1.ext od19.2) hcs rfl rfl (by decide) (by decide) hpp rfl (by decide) (by decide)) (g := (mkF m 55 #[.val (.int (2 : Int32)), .val (.int x0), .val (.int x1), .val (.int x2), .val (.int x3), .val (.int x4)] [(.ref b5), (.ref b2), (.ref b2)])) rfl (by rw [hml]; rfl) (Steps.refl _) (a := b2) (argsL := [(.ref b5)]) (rest := [(.ref b2)]) (lenOf pd_2 rfl) rfl (by show 2 * 0 + _ ≤ _; exact Nat.le_of_eq rfl) (hb hby dm2_55) (fun _ _ => ⟨rfl, e14, (by decide : 2 + 1 ≤ _), (by decide : 6 + 2 ≤ _)⟩)
  dsimp only [Pt.U, Pt.locs, Pt.cells, Pt.slots] at X20 l20 y20 z20 st20 hQ20
  subst l20 y20 z20
  obtain ⟨rfl, N20q, K20, EE20, FC20, t20, kb20, ht120, ht220, ht320, FV20, VA20⟩ := hQ20
  have N20 := Fr.app N14 N20q
  have k20 : ∀ t, Steps p.tables e below (T20.setTop (mkF m 58 #[.val (.int (2 : Int32)), .val (.int x0), .val (.int x1), .val (.int x2), .val (.int x3), .val (.int x4)] [(.ref b2)])) t → Steps p.tables e below (s₁.setTop (entryFrame m #[(.int (2 : Int32)), (.int x0), (.int x1), (.int x2), (.int x3), (.int x4)] 6)) t := fun t k => k14 t (st20.trans k)
  have Z21 : n0 ≤ T20.heap.size := Nat.le_trans Z15 K20.1
  have TS20 : own_Str Z T20.heap b2 ([x0, x1] : List Int32) := ⟨t20, kb20, EE20, FC20, FV20, VA20, hpp, Nat.le_of_ble_eq_true rfl⟩
  have kp22 : Keep h0 T20.heap [] := ((((kp6.ext E5).wr W10 (Or.inr sz_b5)).wr W14 (Or.inr sz_b5)).trans K20 (allS (Or.inr sz_b2) all0))
  obtain ⟨fs, hr, hrun, hended, hW, hsame⟩ := X20.leave (v := some (.ref b2)) (fun h => by rw [Bd.returns] at h; cases h)
  refine ⟨_, _, k20 _ ?_, hrun, hended, _, _, rfl, ?_, ⟨_, rfl⟩, hW, hsame.mono (Nat.le_of_ble_eq_true rfl) (Nat.le_of_ble_eq_true rfl)⟩
  · exact retOut X20 hx Bd.returns rfl (Or.inr (Or.inr (Or.inr (Or.inr ⟨rfl, rfl, rfl⟩)))) (hb hby dm2_58) hr
  · show QMk2 Z x0 x1 x2 x3 x4 cs h0 n0 _ T20.heap _
    skip
    exact ⟨_, rfl, N20, kp22, TS20⟩
theorem ef_Mk3 (m : MethodId) (x0 : Int32) (x1 : Int32) (x2 : Int32) (x3 : Int32) (x4 : Int32) (x5 : Int32) : entryFrame m #[(.int x0), (.int x1), (.int x2), (.int x3), (.int x4), (.int x5)] 6 = mkF m 0 #[.val (.int x0), .val (.int x1), .val (.int x2), .val (.int x3), .val (.int x4), .val (.int x5)] [] := by first | (simp [entryFrame, mkF, argsToLocals, Value.category]; done) | rfl
def QMk3 (Z : State) (x0 : Int32) (x1 : Int32) (x2 : Int32) (x3 : Int32) (x4 : Int32) (cs : Int32) (h0 : Heap) (n0 : Nat) (v : Option Value) (h : Heap) (L : List Loc) : Prop := ∃ r, v = some (.ref r) ∧ Fr n0 L ∧ Keep h0 h [] ∧ own_Str Z h r [x0, x1, x2]
set_option maxRecDepth 65536 in
set_option maxHeartbeats 40000000 in
theorem rmMk3 (l : Launch) (Z : State) (a0 : Array Value) (hw : ∀ d ∈ tables_1, d.before a0 Z = true) (ws : List Jvm.Cond) (x0 : Int32) (x1 : Int32) (x2 : Int32) (x3 : Int32) (x4 : Int32) (cs : Int32) (h0 : Heap) (n0 : Nat) (Z0 : n0 ≤ h0.size) (hx0 : ¬ x0 < (0 : Int32) ∧ ¬ (255 : Int32) < x0) (hx1 : ¬ x1 < (0 : Int32) ∧ ¬ (255 : Int32) < x1) (hx2 : ¬ x2 < (0 : Int32) ∧ ¬ (255 : Int32) < x2) (hx3 : ¬ x3 < (0 : Int32) ∧ ¬ (255 : Int32) < x3) (hx4 : ¬ x4 < (0 : Int32) ∧ ¬ (255 : Int32) < x4) (S1 : Sta Z Z.heap "java/lang/String" "COMPACT_STRINGS" "Z" (.int cs)) (hcs : ¬ cs = (0 : Int32)) (XO : Old Z n0 h0) :
    MetFree l (⟨"com/example/nogood/nogood/problem/InstanceFormatNamedPinLaw", "make", "(ICCCCC)Ljava/lang/String;"⟩ : MethodName) (head1 (Jvm.Cond.code (⟨"com/example/nogood/nogood/problem/InstanceFormatNamedPinLaw", "make", "(ICCCCC)Ljava/lang/String;"⟩ : MethodName) method_2_code 6 (some (.object "java/lang/String")) :: ws) ({ frames := 4, cells := 3, slots := 10, locals := 66 } : Room)) (fun A_ U => A_ = #[(.int (3 : Int32)), (.int x0), (.int x1), (.int x2), (.int x3), (.int x4)] ∧ Z.Warmed39 U.vm ∧ U.heap = h0) (fun _ _ _ _ _ => True) (fun _ U o U' => ∃ v L, o = .returned v ∧ QMk3 Z x0 x1 x2 x3 x4 cs h0 n0 v U'.heap L ∧ FrameEnd U o U' L ({ frames := 4, cells := 3, slots := 10, locals := 66 } : Room).cells ({ frames := 4, cells := 3, slots := 10, locals := 66 } : Room).slots) := by
  refine MetFree.of_bodySF (plainFor_of_name pn_2) hisR ?_
  intro p e s m args below meth c s₁ Bd hml0 hP hK
  obtain ⟨rfl, hZ, hh⟩ := hP
  have hx := Bd.exec
  have hby := Bd.bytes
  have hml : c.maxLocals = 6 := hml0
  have hown : s.vm.findClass "com/example/nogood/nogood/problem/InstanceFormatNamedPinLaw" = some m.cls := findClass_of_methodNamed Bd.named
  have hnm := (name_of_methodNamed Bd.named Bd.method).1
  have X0 : Stand p l e ({ frames := 4, cells := 3, slots := 10, locals := 66 } : Room) s m #[(.int (3 : Int32)), (.int x0), (.int x1), (.int x2), (.int x3), (.int x4)] below meth c s₁ [] 0 0 := Stand.of_body Bd
  have e0 : s₁.heap = h0 := by rw [← hh, Bd.state]; rfl
  have N0 := Fr.nil n0
  have k0 : ∀ t, Steps p.tables e below (s₁.setTop (mkF m 0 #[.val (.int (3 : Int32)), .val (.int x0), .val (.int x1), .val (.int x2), .val (.int x3), .val (.int x4)] [])) t → Steps p.tables e below (s₁.setTop (entryFrame m #[(.int (3 : Int32)), (.int x0), (.int x1), (.int x2), (.int x3), (.int x4)] 6)) t := fun t k => castTop (ef_Mk3 m ((3 : Int32)) x0 x1 x2 x3 x4) k
  have k1 : ∀ t, Steps p.tables e below (s₁.setTop (mkF m 64 #[.val (.int (3 : Int32)), .val (.int x0), .val (.int x1), .val (.int x2), .val (.int x3), .val (.int x4)] [])) t → Steps p.tables e below (s₁.setTop (entryFrame m #[(.int (3 : Int32)), (.int x0), (.int x1), (.int x2), (.int x3), (.int x4)] 6)) t := by
    intro t k
    refine k0 _ ?_
    show Steps p.tables e below (s₁.setTop (mkF m 0 #[.val (.int (3 : Int32)), .val (.int x0), .val (.int x1), .val (.int x2), .val (.int x3), .val (.int x4)] [])) _
    refine XS.iloadN X0.here hx rfl (hb hby dm2_0) rfl ?_
    show Steps p.tables e below (s₁.setTop (mkF m 1 #[.val (.int (3 : Int32)), .val (.int x0), .val (.int x1), .val (.int x2), .val (.int x3), .val (.int x4)] [(.int (3 : Int32))])) _
    refine XS.ifYes X0.here hx rfl (pc0 := 1) (pc' := 15) rfl (hb hby dm2_1) rfl ((if0 _ _).trans (feq (by decide)).2) (by decide) (by decide) ?_
    show Steps p.tables e below (s₁.setTop (mkF m 15 #[.val (.int (3 : Int32)), .val (.int x0), .val (.int x1), .val (.int x2), .val (.int x3), .val (.int x4)] [])) _
    refine XS.iloadN X0.here hx rfl (hb hby dm2_15) rfl ?_
    show Steps p.tables e below (s₁.setTop (mkF m 16 #[.val (.int (3 : Int32)), .val (.int x0), .val (.int x1), .val (.int x2), .val (.int x3), .val (.int x4)] [(.int (3 : Int32))])) _
    refine XS.iconst X0.here hx rfl (hb hby dm2_16) ?_
    show Steps p.tables e below (s₁.setTop (mkF m 17 #[.val (.int (3 : Int32)), .val (.int x0), .val (.int x1), .val (.int x2), .val (.int x3), .val (.int x4)] [(.int (1 : Int32)), (.int (3 : Int32))])) _
    refine XS.icmpYes X0.here hx rfl (pc0 := 17) (pc' := 35) rfl (hb hby dm2_17) rfl (feq (by decide)).2 (by decide) (by decide) ?_
    show Steps p.tables e below (s₁.setTop (mkF m 35 #[.val (.int (3 : Int32)), .val (.int x0), .val (.int x1), .val (.int x2), .val (.int x3), .val (.int x4)] [])) _
    refine XS.iloadN X0.here hx rfl (hb hby dm2_35) rfl ?_
    show Steps p.tables e below (s₁.setTop (mkF m 36 #[.val (.int (3 : Int32)), .val (.int x0), .val (.int x1), .val (.int x2), .val (.int x3), .val (.int x4)] [(.int (3 : Int32))])) _
    refine XS.iconst X0.here hx rfl (hb hby dm2_36) ?_
    show Steps p.tables e below (s₁.setTop (mkF m 37 #[.val (.int (3 : Int32)), .val (.int x0), .val (.int x1), .val (.int x2), .val (.int x3), .val (.int x4)] [(.int (2 : Int32)), (.int (3 : Int32))])) _
    refine XS.icmpYes X0.here hx rfl (pc0 := 37) (pc' := 59) rfl (hb hby dm2_37) rfl (feq (by decide)).2 (by decide) (by decide) ?_
    show Steps p.tables e below (s₁.setTop (mkF m 59 #[.val (.int (3 : Int32)), .val (.int x0), .val (.int x1), .val (.int x2), .val (.int x3), .val (.int x4)] [])) _
    refine XS.iloadN X0.here hx rfl (hb hby dm2_59) rfl ?_
    show Steps p.tables e below (s₁.setTop (mkF m 60 #[.val (.int (3 : Int32)), .val (.int x0), .val (.int x1), .val (.int x2), .val (.int x3), .val (.int x4)] [(.int (3 : Int32))])) _
    refine XS.iconst X0.here hx rfl (hb hby dm2_60) ?_
    show Steps p.tables e below (s₁.setTop (mkF m 61 #[.val (.int (3 : Int32)), .val (.int x0), .val (.int x1), .val (.int x2), .val (.int x3), .val (.int x4)] [(.int (3 : Int32)), (.int (3 : Int32))])) _
    refine XS.icmpNo X0.here hx rfl (hb hby dm2_61) rfl (teq (by decide)).2 ?_
    show Steps p.tables e below (s₁.setTop (mkF m 64 #[.val (.int (3 : Int32)), .val (.int x0), .val (.int x1), .val (.int x2), .val (.int x3), .val (.int x4)] [])) _
    exact k
  obtain ⟨T2, h2, X2, e2, E2, A2, D2, -, st2⟩ := newO X0 hx hZ hown (hw _ (List.mem_of_getElem? (i := 4) rfl)) (hw _ (List.mem_of_getElem? (i := 5) rfl)) (hw _ (List.mem_of_getElem? (i := 6) rfl)) e0 (g := (mkF m 64 #[.val (.int (3 : Int32)), .val (.int x0), .val (.int x1), .val (.int x2), .val (.int x3), .val (.int x4)] [])) rfl (hb hby dm2_64) (by decide) (by decide)
  obtain ⟨b2, g2⟩ : ∃ z, z = h0.size := ⟨_, rfl⟩
  rw [← g2] at A2 D2 st2
  have g_b2 : n0 ≤ b2 := Nat.le_trans Z0 (Nat.le_of_eq g2.symm)
  have sz_b2 : h0.size ≤ b2 := Nat.le_trans (Keep.refl h0 []).1 (Nat.le_of_eq g2.symm)
  have F2_value : Fld Z h2 b2 "java/lang/String" "value" "[B" .null := D2 (Or.inr (hw _ (List.mem_of_getElem? (i := 20) rfl))) (ty := (.array .byte)) (by decide)
  have F2_coder : Fld Z h2 b2 "java/lang/String" "coder" "B" (.int (0 : Int32)) := D2 (Or.inr (hw _ (List.mem_of_getElem? (i := 21) rfl))) (ty := .byte) (by decide)
  have k2 : ∀ t, Steps p.tables e below (T2.setTop (mkF m 67 #[.val (.int (3 : Int32)), .val (.int x0), .val (.int x1), .val (.int x2), .val (.int x3), .val (.int x4)] [(.ref b2)])) t → Steps p.tables e below (s₁.setTop (entryFrame m #[(.int (3 : Int32)), (.int x0), (.int x1), (.int x2), (.int x3), (.int x4)] 6)) t := fun t k => k1 t (st2 _ k)
  have Z3 : n0 ≤ h2.size := Nat.le_trans Z0 E2.1
  have k4 : ∀ t, Steps p.tables e below (T2.setTop (mkF m 69 #[.val (.int (3 : Int32)), .val (.int x0), .val (.int x1), .val (.int x2), .val (.int x3), .val (.int x4)] [(.int (3 : Int32)), (.ref b2), (.ref b2)])) t → Steps p.tables e below (s₁.setTop (entryFrame m #[(.int (3 : Int32)), (.int x0), (.int x1), (.int x2), (.int x3), (.int x4)] 6)) t := by
    intro t k
    refine k2 _ ?_
    show Steps p.tables e below (T2.setTop (mkF m 67 #[.val (.int (3 : Int32)), .val (.int x0), .val (.int x1), .val (.int x2), .val (.int x3), .val (.int x4)] [(.ref b2)])) _
    refine XS.dup X2.here hx rfl (hb hby dm2_67) rfl rfl ?_
    show Steps p.tables e below (T2.setTop (mkF m 68 #[.val (.int (3 : Int32)), .val (.int x0), .val (.int x1), .val (.int x2), .val (.int x3), .val (.int x4)] [(.ref b2), (.ref b2)])) _
    refine XS.iconst X2.here hx rfl (hb hby dm2_68) ?_
    show Steps p.tables e below (T2.setTop (mkF m 69 #[.val (.int (3 : Int32)), .val (.int x0), .val (.int x1), .val (.int x2), .val (.int x3), .val (.int x4)] [(.int (3 : Int32)), (.ref b2), (.ref b2)])) _
    exact k
  have kp6 : Keep h0 h2 [] := ((Keep.refl h0 []).ext E2)
  obtain ⟨T5, h5, k5_, X5, e5, E5, A5, st5⟩ := newP X2 hx hZ (hw _ (List.mem_of_getElem? (i := 7) rfl)) e2 (g := (mkF m 69 #[.val (.int (3 : Int32)), .val (.int x0), .val (.int x1), .val (.int x2), .val (.int x3), .val (.int x4)] [(.int (3 : Int32)), (.ref b2), (.ref b2)])) rfl (hb hby dm2_69) rfl (by decide : ¬ ((3 : Int32) < (0 : Int32))) (cap := 3) (by decide : (3 : Int32).toNatClampNeg ≤ 3) (by decide) (by decide) (by decide)
  obtain ⟨b5, g5⟩ : ∃ z, z = h2.size := ⟨_, rfl⟩
  rw [← g5] at A5 st5
  have ne_b2_b5 : b2 ≠ b5 := Nat.ne_of_lt (Nat.lt_of_lt_of_eq A2.lt g5.symm)
  have g_b5 : n0 ≤ b5 := Nat.le_trans Z3 (Nat.le_of_eq g5.symm)
  have sz_b5 : h0.size ≤ b5 := Nat.le_trans kp6.1 (Nat.le_of_eq g5.symm)
  have V5 : Arv Z h5 b5 k5_ .char (3 : Int32) [(.int (0 : Int32)), (.int (0 : Int32)), (.int (0 : Int32))] (.int (0 : Int32)) := (Arv.new A5 (by decide : ¬ ((3 : Int32) < (0 : Int32)))).pad (pad_rep [] (.int (0 : Int32)) 3)
  have k5 : ∀ t, Steps p.tables e below (T5.setTop (mkF m 71 #[.val (.int (3 : Int32)), .val (.int x0), .val (.int x1), .val (.int x2), .val (.int x3), .val (.int x4)] [(.ref b5), (.ref b2), (.ref b2)])) t → Steps p.tables e below (s₁.setTop (entryFrame m #[(.int (3 : Int32)), (.int x0), (.int x1), (.int x2), (.int x3), (.int x4)] 6)) t := fun t k => k4 t (st5 _ k)
  have Z7 : n0 ≤ h5.size := Nat.le_trans Z3 E5.1
  have k8 : ∀ t, Steps p.tables e below (T5.setTop (mkF m 74 #[.val (.int (3 : Int32)), .val (.int x0), .val (.int x1), .val (.int x2), .val (.int x3), .val (.int x4)] [(.int x0), (.int (0 : Int32)), (.ref b5), (.ref b5), (.ref b2), (.ref b2)])) t → Steps p.tables e below (s₁.setTop (entryFrame m #[(.int (3 : Int32)), (.int x0), (.int x1), (.int x2), (.int x3), (.int x4)] 6)) t := by
    intro t k
    refine k5 _ ?_
    show Steps p.tables e below (T5.setTop (mkF m 71 #[.val (.int (3 : Int32)), .val (.int x0), .val (.int x1), .val (.int x2), .val (.int x3), .val (.int x4)] [(.ref b5), (.ref b2), (.ref b2)])) _
    refine XS.dup X5.here hx rfl (hb hby dm2_71) rfl rfl ?_
    show Steps p.tables e below (T5.setTop (mkF m 72 #[.val (.int (3 : Int32)), .val (.int x0), .val (.int x1), .val (.int x2), .val (.int x3), .val (.int x4)] [(.ref b5), (.ref b5), (.ref b2), (.ref b2)])) _
    refine XS.iconst X5.here hx rfl (hb hby dm2_72) ?_
    show Steps p.tables e below (T5.setTop (mkF m 73 #[.val (.int (3 : Int32)), .val (.int x0), .val (.int x1), .val (.int x2), .val (.int x3), .val (.int x4)] [(.int (0 : Int32)), (.ref b5), (.ref b5), (.ref b2), (.ref b2)])) _
    refine XS.iloadN X5.here hx rfl (hb hby dm2_73) rfl ?_
    show Steps p.tables e below (T5.setTop (mkF m 74 #[.val (.int (3 : Int32)), .val (.int x0), .val (.int x1), .val (.int x2), .val (.int x3), .val (.int x4)] [(.int x0), (.int (0 : Int32)), (.ref b5), (.ref b5), (.ref b2), (.ref b2)])) _
    exact k
  obtain ⟨cl9, Ar9, qk9, Sz9, Nn9, Hs9, Gs9⟩ := id V5
  obtain ⟨T10, h10, X10, e10, W10, st10⟩ := stC X5 hx hZ e5 Ar9 (j := (0 : Int32)) (inb_of Sz9 ⟨(by decide : ¬ ((0 : Int32) < (0 : Int32))), (by decide : (0 : Int32) < (3 : Int32))⟩) (g := (mkF m 74 #[.val (.int (3 : Int32)), .val (.int x0), .val (.int x1), .val (.int x2), .val (.int x3), .val (.int x4)] [(.int x0), (.int (0 : Int32)), (.ref b5), (.ref b5), (.ref b2), (.ref b2)])) rfl rfl (hb hby dm2_74)
  have N10 := Fr.snoc X10 N0 g_b5
  have V10 : Arv Z h10 b5 k5_ .char (3 : Int32) [(.int (nar .char x0)), (.int (0 : Int32)), (.int (0 : Int32))] (.int (0 : Int32)) := Arv.set Ar9 qk9 Sz9 Nn9 Hs9 Gs9 (fits_nar_char _) W10 0 rfl (Nat.le_of_ble_eq_true rfl)
  have k10 : ∀ t, Steps p.tables e below (T10.setTop (mkF m 75 #[.val (.int (3 : Int32)), .val (.int x0), .val (.int x1), .val (.int x2), .val (.int x3), .val (.int x4)] [(.ref b5), (.ref b2), (.ref b2)])) t → Steps p.tables e below (s₁.setTop (entryFrame m #[(.int (3 : Int32)), (.int x0), (.int x1), (.int x2), (.int x3), (.int x4)] 6)) t := fun t k => k8 t (st10 _ k)
  have Z11 : n0 ≤ h10.size := Nat.le_trans Z7 (Keep.of_wr W10).1
  rw [own_narc hx0] at V10
  have k12 : ∀ t, Steps p.tables e below (T10.setTop (mkF m 78 #[.val (.int (3 : Int32)), .val (.int x0), .val (.int x1), .val (.int x2), .val (.int x3), .val (.int x4)] [(.int x1), (.int (1 : Int32)), (.ref b5), (.ref b5), (.ref b2), (.ref b2)])) t → Steps p.tables e below (s₁.setTop (entryFrame m #[(.int (3 : Int32)), (.int x0), (.int x1), (.int x2), (.int x3), (.int x4)] 6)) t := by
    intro t k
    refine k10 _ ?_
    show Steps p.tables e below (T10.setTop (mkF m 75 #[.val (.int (3 : Int32)), .val (.int x0), .val (.int x1), .val (.int x2), .val (.int x3), .val (.int x4)] [(.ref b5), (.ref b2), (.ref b2)])) _
    refine XS.dup X10.here hx rfl (hb hby dm2_75) rfl rfl ?_
    show Steps p.tables e below (T10.setTop (mkF m 76 #[.val (.int (3 : Int32)), .val (.int x0), .val (.int x1), .val (.int x2), .val (.int x3), .val (.int x4)] [(.ref b5), (.ref b5), (.ref b2), (.ref b2)])) _
    refine XS.iconst X10.here hx rfl (hb hby dm2_76) ?_
    show Steps p.tables e below (T10.setTop (mkF m 77 #[.val (.int (3 : Int32)), .val (.int x0), .val (.int x1), .val (.int x2), .val (.int x3), .val (.int x4)] [(.int (1 : Int32)), (.ref b5), (.ref b5), (.ref b2), (.ref b2)])) _
    refine XS.iloadN X10.here hx rfl (hb hby dm2_77) rfl ?_
    show Steps p.tables e below (T10.setTop (mkF m 78 #[.val (.int (3 : Int32)), .val (.int x0), .val (.int x1), .val (.int x2), .val (.int x3), .val (.int x4)] [(.int x1), (.int (1 : Int32)), (.ref b5), (.ref b5), (.ref b2), (.ref b2)])) _
    exact k
  obtain ⟨cl13, Ar13, qk13, Sz13, Nn13, Hs13, Gs13⟩ := id V10
  obtain ⟨T14, h14, X14, e14, W14, st14⟩ := stC X10 hx hZ e10 Ar13 (j := (1 : Int32)) (inb_of Sz13 ⟨(by decide : ¬ ((1 : Int32) < (0 : Int32))), (by decide : (1 : Int32) < (3 : Int32))⟩) (g := (mkF m 78 #[.val (.int (3 : Int32)), .val (.int x0), .val (.int x1), .val (.int x2), .val (.int x3), .val (.int x4)] [(.int x1), (.int (1 : Int32)), (.ref b5), (.ref b5), (.ref b2), (.ref b2)])) rfl rfl (hb hby dm2_78)
  have N14 := Fr.snoc X14 N10 g_b5
  have V14 : Arv Z h14 b5 k5_ .char (3 : Int32) [(.int x0), (.int (nar .char x1)), (.int (0 : Int32))] (.int (0 : Int32)) := Arv.set Ar13 qk13 Sz13 Nn13 Hs13 Gs13 (fits_nar_char _) W14 1 rfl (Nat.le_of_ble_eq_true rfl)
  have k14 : ∀ t, Steps p.tables e below (T14.setTop (mkF m 79 #[.val (.int (3 : Int32)), .val (.int x0), .val (.int x1), .val (.int x2), .val (.int x3), .val (.int x4)] [(.ref b5), (.ref b2), (.ref b2)])) t → Steps p.tables e below (s₁.setTop (entryFrame m #[(.int (3 : Int32)), (.int x0), (.int x1), (.int x2), (.int x3), (.int x4)] 6)) t := fun t k => k12 t (st14 _ k)
  have Z15 : n0 ≤ h14.size := Nat.le_trans Z11 (Keep.of_wr W14).1
  rw [own_narc hx1] at V14
  have k16 : ∀ t, Steps p.tables e below (T14.setTop (mkF m 82 #[.val (.int (3 : Int32)), .val (.int x0), .val (.int x1), .val (.int x2), .val (.int x3), .val (.int x4)] [(.int x2), (.int (2 : Int32)), (.ref b5), (.ref b5), (.ref b2), (.ref b2)])) t → Steps p.tables e below (s₁.setTop (entryFrame m #[(.int (3 : Int32)), (.int x0), (.int x1), (.int x2), (.int x3), (.int x4)] 6)) t := by
    intro t k
    refine k14 _ ?_
    show Steps p.tables e below (T14.setTop (mkF m 79 #[.val (.int (3 : Int32)), .val (.int x0), .val (.int x1), .val (.int x2), .val (.int x3), .val (.int x4)] [(.ref b5), (.ref b2), (.ref b2)])) _
    refine XS.dup X14.here hx rfl (hb hby dm2_79) rfl rfl ?_
    show Steps p.tables e below (T14.setTop (mkF m 80 #[.val (.int (3 : Int32)), .val (.int x0), .val (.int x1), .val (.int x2), .val (.int x3), .val (.int x4)] [(.ref b5), (.ref b5), (.ref b2), (.ref b2)])) _
    refine XS.iconst X14.here hx rfl (hb hby dm2_80) ?_
    show Steps p.tables e below (T14.setTop (mkF m 81 #[.val (.int (3 : Int32)), .val (.int x0), .val (.int x1), .val (.int x2), .val (.int x3), .val (.int x4)] [(.int (2 : Int32)), (.ref b5), (.ref b5), (.ref b2), (.ref b2)])) _
    refine XS.iloadN X14.here hx rfl (hb hby dm2_81) rfl ?_
    show Steps p.tables e below (T14.setTop (mkF m 82 #[.val (.int (3 : Int32)), .val (.int x0), .val (.int x1), .val (.int x2), .val (.int x3), .val (.int x4)] [(.int x2), (.int (2 : Int32)), (.ref b5), (.ref b5), (.ref b2), (.ref b2)])) _
    exact k
  obtain ⟨cl17, Ar17, qk17, Sz17, Nn17, Hs17, Gs17⟩ := id V14
  obtain ⟨T18, h18, X18, e18, W18, st18⟩ := stC X14 hx hZ e14 Ar17 (j := (2 : Int32)) (inb_of Sz17 ⟨(by decide : ¬ ((2 : Int32) < (0 : Int32))), (by decide : (2 : Int32) < (3 : Int32))⟩) (g := (mkF m 82 #[.val (.int (3 : Int32)), .val (.int x0), .val (.int x1), .val (.int x2), .val (.int x3), .val (.int x4)] [(.int x2), (.int (2 : Int32)), (.ref b5), (.ref b5), (.ref b2), (.ref b2)])) rfl rfl (hb hby dm2_82)
  have N18 := Fr.snoc X18 N14 g_b5
  have V18 : Arv Z h18 b5 k5_ .char (3 : Int32) [(.int x0), (.int x1), (.int (nar .char x2))] (.int (0 : Int32)) := Arv.set Ar17 qk17 Sz17 Nn17 Hs17 Gs17 (fits_nar_char _) W18 2 rfl (Nat.le_of_ble_eq_true rfl)
  have k18 : ∀ t, Steps p.tables e below (T18.setTop (mkF m 83 #[.val (.int (3 : Int32)), .val (.int x0), .val (.int x1), .val (.int x2), .val (.int x3), .val (.int x4)] [(.ref b5), (.ref b2), (.ref b2)])) t → Steps p.tables e below (s₁.setTop (entryFrame m #[(.int (3 : Int32)), (.int x0), (.int x1), (.int x2), (.int x3), (.int x4)] 6)) t := fun t k => k16 t (st18 _ k)
  have Z19 : n0 ≤ h18.size := Nat.le_trans Z15 (Keep.of_wr W18).1
  rw [own_narc hx2] at V18
  have hpp : ∀ c ∈ ([x0, x1, x2] : List Int32), ¬ c < (0 : Int32) ∧ ¬ (255 : Int32) < c := by
    intro c hc
    simp only [List.mem_cons, List.not_mem_nil, or_false] at hc
    rcases hc with rfl | rfl | rfl
    · exact hx0
    · exact hx1
    · exact hx2
  have f20 := ((((A2.ext E5).wr W10).wr W14).wr W18)
  have f21 := ((((F2_value.ext E5).other W10 (Or.inl ne_b2_b5)).other W14 (Or.inl ne_b2_b5)).other W18 (Or.inl ne_b2_b5))
  have f22 := ((((F2_coder.ext E5).other W10 (Or.inl ne_b2_b5)).other W14 (Or.inl ne_b2_b5)).other W18 (Or.inl ne_b2_b5))
  have od23 : Old Z n0 h18 := (((((XO.ext E2).ext E5).wr W10 g_b5).wr W14 g_b5).wr W18 g_b5)
  obtain ⟨_, _, ⟨T24, L24, ck24, nk24⟩, -, X24, ⟨Lc24, hQ24, l24, y24, z24⟩, st24⟩ := X18.specialBack hx (y := (⟨"java/lang/String", "<init>", "([C)V"⟩ : MethodName)) rfl hown (mvT hZ (hw _ (List.mem_of_getElem? (i := 8) rfl))) (mvT hZ (hw _ (List.mem_of_getElem? (i := 9) rfl))) (mvT hZ (hw _ (List.mem_of_getElem? (i := 10) rfl))) (by decide) (StrChars.Road.backV (W := 1) hZ (fun d hd => hw d (own_wNew d hd)) (kI := 4) (hw _ (List.mem_of_getElem? (i := 5) rfl)) (cs := ([x0, x1, x2] : List Int32)) (bs := ([x0, x1, x2] : List Int32).map (fun c => c.toInt8.toInt32)) (n := 3) g_b2 Z19 f20 f21 f22 V18 (S1.ext od23.2) hcs rfl rfl (by decide) (by decide) hpp rfl (by decide) (by decide)) (g := (mkF m 83 #[.val (.int (3 : Int32)), .val (.int x0), .val (.int x1), .val (.int x2), .val (.int x3), .val (.int x4)] [(.ref b5), (.ref b2), (.ref b2)])) rfl (by rw [hml]; rfl) (Steps.refl _) (a := b2) (argsL := [(.ref b5)]) (rest := [(.ref b2)]) (lenOf pd_2 rfl) rfl (by show 2 * 0 + _ ≤ _; exact Nat.le_of_eq rfl) (hb hby dm2_83) (fun _ _ => ⟨rfl, e18, (by decide : 2 + 1 ≤ _), (by decide : 7 + 3 ≤ _)⟩)
  dsimp only [Pt.U, Pt.locs, Pt.cells, Pt.slots] at X24 l24 y24 z24 st24 hQ24
  subst l24 y24 z24
  obtain ⟨rfl, N24q, K24, EE24, FC24, t24, kb24, ht124, ht224, ht324, FV24, VA24⟩ := hQ24
  have N24 := Fr.app N18 N24q
  have k24 : ∀ t, Steps p.tables e below (T24.setTop (mkF m 86 #[.val (.int (3 : Int32)), .val (.int x0), .val (.int x1), .val (.int x2), .val (.int x3), .val (.int x4)] [(.ref b2)])) t → Steps p.tables e below (s₁.setTop (entryFrame m #[(.int (3 : Int32)), (.int x0), (.int x1), (.int x2), (.int x3), (.int x4)] 6)) t := fun t k => k18 t (st24.trans k)
  have Z25 : n0 ≤ T24.heap.size := Nat.le_trans Z19 K24.1
  have TS24 : own_Str Z T24.heap b2 ([x0, x1, x2] : List Int32) := ⟨t24, kb24, EE24, FC24, FV24, VA24, hpp, Nat.le_of_ble_eq_true rfl⟩
  have kp26 : Keep h0 T24.heap [] := (((((kp6.ext E5).wr W10 (Or.inr sz_b5)).wr W14 (Or.inr sz_b5)).wr W18 (Or.inr sz_b5)).trans K24 (allS (Or.inr sz_b2) all0))
  obtain ⟨fs, hr, hrun, hended, hW, hsame⟩ := X24.leave (v := some (.ref b2)) (fun h => by rw [Bd.returns] at h; cases h)
  refine ⟨_, _, k24 _ ?_, hrun, hended, _, _, rfl, ?_, ⟨_, rfl⟩, hW, hsame.mono (Nat.le_of_ble_eq_true rfl) (Nat.le_of_ble_eq_true rfl)⟩
  · exact retOut X24 hx Bd.returns rfl (Or.inr (Or.inr (Or.inr (Or.inr ⟨rfl, rfl, rfl⟩)))) (hb hby dm2_86) hr
  · show QMk3 Z x0 x1 x2 x3 x4 cs h0 n0 _ T24.heap _
    skip
    exact ⟨_, rfl, N24, kp26, TS24⟩
theorem ef_Mk4 (m : MethodId) (x0 : Int32) (x1 : Int32) (x2 : Int32) (x3 : Int32) (x4 : Int32) (x5 : Int32) : entryFrame m #[(.int x0), (.int x1), (.int x2), (.int x3), (.int x4), (.int x5)] 6 = mkF m 0 #[.val (.int x0), .val (.int x1), .val (.int x2), .val (.int x3), .val (.int x4), .val (.int x5)] [] := by first | (simp [entryFrame, mkF, argsToLocals, Value.category]; done) | rfl
def QMk4 (Z : State) (x0 : Int32) (x1 : Int32) (x2 : Int32) (x3 : Int32) (x4 : Int32) (cs : Int32) (h0 : Heap) (n0 : Nat) (v : Option Value) (h : Heap) (L : List Loc) : Prop := ∃ r, v = some (.ref r) ∧ Fr n0 L ∧ Keep h0 h [] ∧ own_Str Z h r [x0, x1, x2, x3]
set_option maxRecDepth 65536 in
set_option maxHeartbeats 40000000 in
theorem rmMk4 (l : Launch) (Z : State) (a0 : Array Value) (hw : ∀ d ∈ tables_1, d.before a0 Z = true) (ws : List Jvm.Cond) (x0 : Int32) (x1 : Int32) (x2 : Int32) (x3 : Int32) (x4 : Int32) (cs : Int32) (h0 : Heap) (n0 : Nat) (Z0 : n0 ≤ h0.size) (hx0 : ¬ x0 < (0 : Int32) ∧ ¬ (255 : Int32) < x0) (hx1 : ¬ x1 < (0 : Int32) ∧ ¬ (255 : Int32) < x1) (hx2 : ¬ x2 < (0 : Int32) ∧ ¬ (255 : Int32) < x2) (hx3 : ¬ x3 < (0 : Int32) ∧ ¬ (255 : Int32) < x3) (hx4 : ¬ x4 < (0 : Int32) ∧ ¬ (255 : Int32) < x4) (S1 : Sta Z Z.heap "java/lang/String" "COMPACT_STRINGS" "Z" (.int cs)) (hcs : ¬ cs = (0 : Int32)) (XO : Old Z n0 h0) :
    MetFree l (⟨"com/example/nogood/nogood/problem/InstanceFormatNamedPinLaw", "make", "(ICCCCC)Ljava/lang/String;"⟩ : MethodName) (head1 (Jvm.Cond.code (⟨"com/example/nogood/nogood/problem/InstanceFormatNamedPinLaw", "make", "(ICCCCC)Ljava/lang/String;"⟩ : MethodName) method_2_code 6 (some (.object "java/lang/String")) :: ws) ({ frames := 4, cells := 3, slots := 12, locals := 66 } : Room)) (fun A_ U => A_ = #[(.int (4 : Int32)), (.int x0), (.int x1), (.int x2), (.int x3), (.int x4)] ∧ Z.Warmed39 U.vm ∧ U.heap = h0) (fun _ _ _ _ _ => True) (fun _ U o U' => ∃ v L, o = .returned v ∧ QMk4 Z x0 x1 x2 x3 x4 cs h0 n0 v U'.heap L ∧ FrameEnd U o U' L ({ frames := 4, cells := 3, slots := 12, locals := 66 } : Room).cells ({ frames := 4, cells := 3, slots := 12, locals := 66 } : Room).slots) := by
  refine MetFree.of_bodySF (plainFor_of_name pn_2) hisR ?_
  intro p e s m args below meth c s₁ Bd hml0 hP hK
  obtain ⟨rfl, hZ, hh⟩ := hP
  have hx := Bd.exec
  have hby := Bd.bytes
  have hml : c.maxLocals = 6 := hml0
  have hown : s.vm.findClass "com/example/nogood/nogood/problem/InstanceFormatNamedPinLaw" = some m.cls := findClass_of_methodNamed Bd.named
  have hnm := (name_of_methodNamed Bd.named Bd.method).1
  have X0 : Stand p l e ({ frames := 4, cells := 3, slots := 12, locals := 66 } : Room) s m #[(.int (4 : Int32)), (.int x0), (.int x1), (.int x2), (.int x3), (.int x4)] below meth c s₁ [] 0 0 := Stand.of_body Bd
  have e0 : s₁.heap = h0 := by rw [← hh, Bd.state]; rfl
  have N0 := Fr.nil n0
  have k0 : ∀ t, Steps p.tables e below (s₁.setTop (mkF m 0 #[.val (.int (4 : Int32)), .val (.int x0), .val (.int x1), .val (.int x2), .val (.int x3), .val (.int x4)] [])) t → Steps p.tables e below (s₁.setTop (entryFrame m #[(.int (4 : Int32)), (.int x0), (.int x1), (.int x2), (.int x3), (.int x4)] 6)) t := fun t k => castTop (ef_Mk4 m ((4 : Int32)) x0 x1 x2 x3 x4) k
  have k1 : ∀ t, Steps p.tables e below (s₁.setTop (mkF m 92 #[.val (.int (4 : Int32)), .val (.int x0), .val (.int x1), .val (.int x2), .val (.int x3), .val (.int x4)] [])) t → Steps p.tables e below (s₁.setTop (entryFrame m #[(.int (4 : Int32)), (.int x0), (.int x1), (.int x2), (.int x3), (.int x4)] 6)) t := by
    intro t k
    refine k0 _ ?_
    show Steps p.tables e below (s₁.setTop (mkF m 0 #[.val (.int (4 : Int32)), .val (.int x0), .val (.int x1), .val (.int x2), .val (.int x3), .val (.int x4)] [])) _
    refine XS.iloadN X0.here hx rfl (hb hby dm2_0) rfl ?_
    show Steps p.tables e below (s₁.setTop (mkF m 1 #[.val (.int (4 : Int32)), .val (.int x0), .val (.int x1), .val (.int x2), .val (.int x3), .val (.int x4)] [(.int (4 : Int32))])) _
    refine XS.ifYes X0.here hx rfl (pc0 := 1) (pc' := 15) rfl (hb hby dm2_1) rfl ((if0 _ _).trans (feq (by decide)).2) (by decide) (by decide) ?_
    show Steps p.tables e below (s₁.setTop (mkF m 15 #[.val (.int (4 : Int32)), .val (.int x0), .val (.int x1), .val (.int x2), .val (.int x3), .val (.int x4)] [])) _
    refine XS.iloadN X0.here hx rfl (hb hby dm2_15) rfl ?_
    show Steps p.tables e below (s₁.setTop (mkF m 16 #[.val (.int (4 : Int32)), .val (.int x0), .val (.int x1), .val (.int x2), .val (.int x3), .val (.int x4)] [(.int (4 : Int32))])) _
    refine XS.iconst X0.here hx rfl (hb hby dm2_16) ?_
    show Steps p.tables e below (s₁.setTop (mkF m 17 #[.val (.int (4 : Int32)), .val (.int x0), .val (.int x1), .val (.int x2), .val (.int x3), .val (.int x4)] [(.int (1 : Int32)), (.int (4 : Int32))])) _
    refine XS.icmpYes X0.here hx rfl (pc0 := 17) (pc' := 35) rfl (hb hby dm2_17) rfl (feq (by decide)).2 (by decide) (by decide) ?_
    show Steps p.tables e below (s₁.setTop (mkF m 35 #[.val (.int (4 : Int32)), .val (.int x0), .val (.int x1), .val (.int x2), .val (.int x3), .val (.int x4)] [])) _
    refine XS.iloadN X0.here hx rfl (hb hby dm2_35) rfl ?_
    show Steps p.tables e below (s₁.setTop (mkF m 36 #[.val (.int (4 : Int32)), .val (.int x0), .val (.int x1), .val (.int x2), .val (.int x3), .val (.int x4)] [(.int (4 : Int32))])) _
    refine XS.iconst X0.here hx rfl (hb hby dm2_36) ?_
    show Steps p.tables e below (s₁.setTop (mkF m 37 #[.val (.int (4 : Int32)), .val (.int x0), .val (.int x1), .val (.int x2), .val (.int x3), .val (.int x4)] [(.int (2 : Int32)), (.int (4 : Int32))])) _
    refine XS.icmpYes X0.here hx rfl (pc0 := 37) (pc' := 59) rfl (hb hby dm2_37) rfl (feq (by decide)).2 (by decide) (by decide) ?_
    show Steps p.tables e below (s₁.setTop (mkF m 59 #[.val (.int (4 : Int32)), .val (.int x0), .val (.int x1), .val (.int x2), .val (.int x3), .val (.int x4)] [])) _
    refine XS.iloadN X0.here hx rfl (hb hby dm2_59) rfl ?_
    show Steps p.tables e below (s₁.setTop (mkF m 60 #[.val (.int (4 : Int32)), .val (.int x0), .val (.int x1), .val (.int x2), .val (.int x3), .val (.int x4)] [(.int (4 : Int32))])) _
    refine XS.iconst X0.here hx rfl (hb hby dm2_60) ?_
    show Steps p.tables e below (s₁.setTop (mkF m 61 #[.val (.int (4 : Int32)), .val (.int x0), .val (.int x1), .val (.int x2), .val (.int x3), .val (.int x4)] [(.int (3 : Int32)), (.int (4 : Int32))])) _
    refine XS.icmpYes X0.here hx rfl (pc0 := 61) (pc' := 87) rfl (hb hby dm2_61) rfl (feq (by decide)).2 (by decide) (by decide) ?_
    show Steps p.tables e below (s₁.setTop (mkF m 87 #[.val (.int (4 : Int32)), .val (.int x0), .val (.int x1), .val (.int x2), .val (.int x3), .val (.int x4)] [])) _
    refine XS.iloadN X0.here hx rfl (hb hby dm2_87) rfl ?_
    show Steps p.tables e below (s₁.setTop (mkF m 88 #[.val (.int (4 : Int32)), .val (.int x0), .val (.int x1), .val (.int x2), .val (.int x3), .val (.int x4)] [(.int (4 : Int32))])) _
    refine XS.iconst X0.here hx rfl (hb hby dm2_88) ?_
    show Steps p.tables e below (s₁.setTop (mkF m 89 #[.val (.int (4 : Int32)), .val (.int x0), .val (.int x1), .val (.int x2), .val (.int x3), .val (.int x4)] [(.int (4 : Int32)), (.int (4 : Int32))])) _
    refine XS.icmpNo X0.here hx rfl (hb hby dm2_89) rfl (teq (by decide)).2 ?_
    show Steps p.tables e below (s₁.setTop (mkF m 92 #[.val (.int (4 : Int32)), .val (.int x0), .val (.int x1), .val (.int x2), .val (.int x3), .val (.int x4)] [])) _
    exact k
  obtain ⟨T2, h2, X2, e2, E2, A2, D2, -, st2⟩ := newO X0 hx hZ hown (hw _ (List.mem_of_getElem? (i := 4) rfl)) (hw _ (List.mem_of_getElem? (i := 5) rfl)) (hw _ (List.mem_of_getElem? (i := 6) rfl)) e0 (g := (mkF m 92 #[.val (.int (4 : Int32)), .val (.int x0), .val (.int x1), .val (.int x2), .val (.int x3), .val (.int x4)] [])) rfl (hb hby dm2_92) (by decide) (by decide)
  obtain ⟨b2, g2⟩ : ∃ z, z = h0.size := ⟨_, rfl⟩
  rw [← g2] at A2 D2 st2
  have g_b2 : n0 ≤ b2 := Nat.le_trans Z0 (Nat.le_of_eq g2.symm)
  have sz_b2 : h0.size ≤ b2 := Nat.le_trans (Keep.refl h0 []).1 (Nat.le_of_eq g2.symm)
  have F2_value : Fld Z h2 b2 "java/lang/String" "value" "[B" .null := D2 (Or.inr (hw _ (List.mem_of_getElem? (i := 20) rfl))) (ty := (.array .byte)) (by decide)
  have F2_coder : Fld Z h2 b2 "java/lang/String" "coder" "B" (.int (0 : Int32)) := D2 (Or.inr (hw _ (List.mem_of_getElem? (i := 21) rfl))) (ty := .byte) (by decide)
  have k2 : ∀ t, Steps p.tables e below (T2.setTop (mkF m 95 #[.val (.int (4 : Int32)), .val (.int x0), .val (.int x1), .val (.int x2), .val (.int x3), .val (.int x4)] [(.ref b2)])) t → Steps p.tables e below (s₁.setTop (entryFrame m #[(.int (4 : Int32)), (.int x0), (.int x1), (.int x2), (.int x3), (.int x4)] 6)) t := fun t k => k1 t (st2 _ k)
  have Z3 : n0 ≤ h2.size := Nat.le_trans Z0 E2.1
  have k4 : ∀ t, Steps p.tables e below (T2.setTop (mkF m 97 #[.val (.int (4 : Int32)), .val (.int x0), .val (.int x1), .val (.int x2), .val (.int x3), .val (.int x4)] [(.int (4 : Int32)), (.ref b2), (.ref b2)])) t → Steps p.tables e below (s₁.setTop (entryFrame m #[(.int (4 : Int32)), (.int x0), (.int x1), (.int x2), (.int x3), (.int x4)] 6)) t := by
    intro t k
    refine k2 _ ?_
    show Steps p.tables e below (T2.setTop (mkF m 95 #[.val (.int (4 : Int32)), .val (.int x0), .val (.int x1), .val (.int x2), .val (.int x3), .val (.int x4)] [(.ref b2)])) _
    refine XS.dup X2.here hx rfl (hb hby dm2_95) rfl rfl ?_
    show Steps p.tables e below (T2.setTop (mkF m 96 #[.val (.int (4 : Int32)), .val (.int x0), .val (.int x1), .val (.int x2), .val (.int x3), .val (.int x4)] [(.ref b2), (.ref b2)])) _
    refine XS.iconst X2.here hx rfl (hb hby dm2_96) ?_
    show Steps p.tables e below (T2.setTop (mkF m 97 #[.val (.int (4 : Int32)), .val (.int x0), .val (.int x1), .val (.int x2), .val (.int x3), .val (.int x4)] [(.int (4 : Int32)), (.ref b2), (.ref b2)])) _
    exact k
  have kp6 : Keep h0 h2 [] := ((Keep.refl h0 []).ext E2)
  obtain ⟨T5, h5, k5_, X5, e5, E5, A5, st5⟩ := newP X2 hx hZ (hw _ (List.mem_of_getElem? (i := 7) rfl)) e2 (g := (mkF m 97 #[.val (.int (4 : Int32)), .val (.int x0), .val (.int x1), .val (.int x2), .val (.int x3), .val (.int x4)] [(.int (4 : Int32)), (.ref b2), (.ref b2)])) rfl (hb hby dm2_97) rfl (by decide : ¬ ((4 : Int32) < (0 : Int32))) (cap := 4) (by decide : (4 : Int32).toNatClampNeg ≤ 4) (by decide) (by decide) (by decide)
  obtain ⟨b5, g5⟩ : ∃ z, z = h2.size := ⟨_, rfl⟩
  rw [← g5] at A5 st5
  have ne_b2_b5 : b2 ≠ b5 := Nat.ne_of_lt (Nat.lt_of_lt_of_eq A2.lt g5.symm)
  have g_b5 : n0 ≤ b5 := Nat.le_trans Z3 (Nat.le_of_eq g5.symm)
  have sz_b5 : h0.size ≤ b5 := Nat.le_trans kp6.1 (Nat.le_of_eq g5.symm)
  have V5 : Arv Z h5 b5 k5_ .char (4 : Int32) [(.int (0 : Int32)), (.int (0 : Int32)), (.int (0 : Int32)), (.int (0 : Int32))] (.int (0 : Int32)) := (Arv.new A5 (by decide : ¬ ((4 : Int32) < (0 : Int32)))).pad (pad_rep [] (.int (0 : Int32)) 4)
  have k5 : ∀ t, Steps p.tables e below (T5.setTop (mkF m 99 #[.val (.int (4 : Int32)), .val (.int x0), .val (.int x1), .val (.int x2), .val (.int x3), .val (.int x4)] [(.ref b5), (.ref b2), (.ref b2)])) t → Steps p.tables e below (s₁.setTop (entryFrame m #[(.int (4 : Int32)), (.int x0), (.int x1), (.int x2), (.int x3), (.int x4)] 6)) t := fun t k => k4 t (st5 _ k)
  have Z7 : n0 ≤ h5.size := Nat.le_trans Z3 E5.1
  have k8 : ∀ t, Steps p.tables e below (T5.setTop (mkF m 102 #[.val (.int (4 : Int32)), .val (.int x0), .val (.int x1), .val (.int x2), .val (.int x3), .val (.int x4)] [(.int x0), (.int (0 : Int32)), (.ref b5), (.ref b5), (.ref b2), (.ref b2)])) t → Steps p.tables e below (s₁.setTop (entryFrame m #[(.int (4 : Int32)), (.int x0), (.int x1), (.int x2), (.int x3), (.int x4)] 6)) t := by
    intro t k
    refine k5 _ ?_
    show Steps p.tables e below (T5.setTop (mkF m 99 #[.val (.int (4 : Int32)), .val (.int x0), .val (.int x1), .val (.int x2), .val (.int x3), .val (.int x4)] [(.ref b5), (.ref b2), (.ref b2)])) _
    refine XS.dup X5.here hx rfl (hb hby dm2_99) rfl rfl ?_
    show Steps p.tables e below (T5.setTop (mkF m 100 #[.val (.int (4 : Int32)), .val (.int x0), .val (.int x1), .val (.int x2), .val (.int x3), .val (.int x4)] [(.ref b5), (.ref b5), (.ref b2), (.ref b2)])) _
    refine XS.iconst X5.here hx rfl (hb hby dm2_100) ?_
    show Steps p.tables e below (T5.setTop (mkF m 101 #[.val (.int (4 : Int32)), .val (.int x0), .val (.int x1), .val (.int x2), .val (.int x3), .val (.int x4)] [(.int (0 : Int32)), (.ref b5), (.ref b5), (.ref b2), (.ref b2)])) _
    refine XS.iloadN X5.here hx rfl (hb hby dm2_101) rfl ?_
    show Steps p.tables e below (T5.setTop (mkF m 102 #[.val (.int (4 : Int32)), .val (.int x0), .val (.int x1), .val (.int x2), .val (.int x3), .val (.int x4)] [(.int x0), (.int (0 : Int32)), (.ref b5), (.ref b5), (.ref b2), (.ref b2)])) _
    exact k
  obtain ⟨cl9, Ar9, qk9, Sz9, Nn9, Hs9, Gs9⟩ := id V5
  obtain ⟨T10, h10, X10, e10, W10, st10⟩ := stC X5 hx hZ e5 Ar9 (j := (0 : Int32)) (inb_of Sz9 ⟨(by decide : ¬ ((0 : Int32) < (0 : Int32))), (by decide : (0 : Int32) < (4 : Int32))⟩) (g := (mkF m 102 #[.val (.int (4 : Int32)), .val (.int x0), .val (.int x1), .val (.int x2), .val (.int x3), .val (.int x4)] [(.int x0), (.int (0 : Int32)), (.ref b5), (.ref b5), (.ref b2), (.ref b2)])) rfl rfl (hb hby dm2_102)
  have N10 := Fr.snoc X10 N0 g_b5
  have V10 : Arv Z h10 b5 k5_ .char (4 : Int32) [(.int (nar .char x0)), (.int (0 : Int32)), (.int (0 : Int32)), (.int (0 : Int32))] (.int (0 : Int32)) := Arv.set Ar9 qk9 Sz9 Nn9 Hs9 Gs9 (fits_nar_char _) W10 0 rfl (Nat.le_of_ble_eq_true rfl)
  have k10 : ∀ t, Steps p.tables e below (T10.setTop (mkF m 103 #[.val (.int (4 : Int32)), .val (.int x0), .val (.int x1), .val (.int x2), .val (.int x3), .val (.int x4)] [(.ref b5), (.ref b2), (.ref b2)])) t → Steps p.tables e below (s₁.setTop (entryFrame m #[(.int (4 : Int32)), (.int x0), (.int x1), (.int x2), (.int x3), (.int x4)] 6)) t := fun t k => k8 t (st10 _ k)
  have Z11 : n0 ≤ h10.size := Nat.le_trans Z7 (Keep.of_wr W10).1
  rw [own_narc hx0] at V10
  have k12 : ∀ t, Steps p.tables e below (T10.setTop (mkF m 106 #[.val (.int (4 : Int32)), .val (.int x0), .val (.int x1), .val (.int x2), .val (.int x3), .val (.int x4)] [(.int x1), (.int (1 : Int32)), (.ref b5), (.ref b5), (.ref b2), (.ref b2)])) t → Steps p.tables e below (s₁.setTop (entryFrame m #[(.int (4 : Int32)), (.int x0), (.int x1), (.int x2), (.int x3), (.int x4)] 6)) t := by
    intro t k
    refine k10 _ ?_
    show Steps p.tables e below (T10.setTop (mkF m 103 #[.val (.int (4 : Int32)), .val (.int x0), .val (.int x1), .val (.int x2), .val (.int x3), .val (.int x4)] [(.ref b5), (.ref b2), (.ref b2)])) _
    refine XS.dup X10.here hx rfl (hb hby dm2_103) rfl rfl ?_
    show Steps p.tables e below (T10.setTop (mkF m 104 #[.val (.int (4 : Int32)), .val (.int x0), .val (.int x1), .val (.int x2), .val (.int x3), .val (.int x4)] [(.ref b5), (.ref b5), (.ref b2), (.ref b2)])) _
    refine XS.iconst X10.here hx rfl (hb hby dm2_104) ?_
    show Steps p.tables e below (T10.setTop (mkF m 105 #[.val (.int (4 : Int32)), .val (.int x0), .val (.int x1), .val (.int x2), .val (.int x3), .val (.int x4)] [(.int (1 : Int32)), (.ref b5), (.ref b5), (.ref b2), (.ref b2)])) _
    refine XS.iloadN X10.here hx rfl (hb hby dm2_105) rfl ?_
    show Steps p.tables e below (T10.setTop (mkF m 106 #[.val (.int (4 : Int32)), .val (.int x0), .val (.int x1), .val (.int x2), .val (.int x3), .val (.int x4)] [(.int x1), (.int (1 : Int32)), (.ref b5), (.ref b5), (.ref b2), (.ref b2)])) _
    exact k
  obtain ⟨cl13, Ar13, qk13, Sz13, Nn13, Hs13, Gs13⟩ := id V10
  obtain ⟨T14, h14, X14, e14, W14, st14⟩ := stC X10 hx hZ e10 Ar13 (j := (1 : Int32)) (inb_of Sz13 ⟨(by decide : ¬ ((1 : Int32) < (0 : Int32))), (by decide : (1 : Int32) < (4 : Int32))⟩) (g := (mkF m 106 #[.val (.int (4 : Int32)), .val (.int x0), .val (.int x1), .val (.int x2), .val (.int x3), .val (.int x4)] [(.int x1), (.int (1 : Int32)), (.ref b5), (.ref b5), (.ref b2), (.ref b2)])) rfl rfl (hb hby dm2_106)
  have N14 := Fr.snoc X14 N10 g_b5
  have V14 : Arv Z h14 b5 k5_ .char (4 : Int32) [(.int x0), (.int (nar .char x1)), (.int (0 : Int32)), (.int (0 : Int32))] (.int (0 : Int32)) := Arv.set Ar13 qk13 Sz13 Nn13 Hs13 Gs13 (fits_nar_char _) W14 1 rfl (Nat.le_of_ble_eq_true rfl)
  have k14 : ∀ t, Steps p.tables e below (T14.setTop (mkF m 107 #[.val (.int (4 : Int32)), .val (.int x0), .val (.int x1), .val (.int x2), .val (.int x3), .val (.int x4)] [(.ref b5), (.ref b2), (.ref b2)])) t → Steps p.tables e below (s₁.setTop (entryFrame m #[(.int (4 : Int32)), (.int x0), (.int x1), (.int x2), (.int x3), (.int x4)] 6)) t := fun t k => k12 t (st14 _ k)
  have Z15 : n0 ≤ h14.size := Nat.le_trans Z11 (Keep.of_wr W14).1
  rw [own_narc hx1] at V14
  have k16 : ∀ t, Steps p.tables e below (T14.setTop (mkF m 110 #[.val (.int (4 : Int32)), .val (.int x0), .val (.int x1), .val (.int x2), .val (.int x3), .val (.int x4)] [(.int x2), (.int (2 : Int32)), (.ref b5), (.ref b5), (.ref b2), (.ref b2)])) t → Steps p.tables e below (s₁.setTop (entryFrame m #[(.int (4 : Int32)), (.int x0), (.int x1), (.int x2), (.int x3), (.int x4)] 6)) t := by
    intro t k
    refine k14 _ ?_
    show Steps p.tables e below (T14.setTop (mkF m 107 #[.val (.int (4 : Int32)), .val (.int x0), .val (.int x1), .val (.int x2), .val (.int x3), .val (.int x4)] [(.ref b5), (.ref b2), (.ref b2)])) _
    refine XS.dup X14.here hx rfl (hb hby dm2_107) rfl rfl ?_
    show Steps p.tables e below (T14.setTop (mkF m 108 #[.val (.int (4 : Int32)), .val (.int x0), .val (.int x1), .val (.int x2), .val (.int x3), .val (.int x4)] [(.ref b5), (.ref b5), (.ref b2), (.ref b2)])) _
    refine XS.iconst X14.here hx rfl (hb hby dm2_108) ?_
    show Steps p.tables e below (T14.setTop (mkF m 109 #[.val (.int (4 : Int32)), .val (.int x0), .val (.int x1), .val (.int x2), .val (.int x3), .val (.int x4)] [(.int (2 : Int32)), (.ref b5), (.ref b5), (.ref b2), (.ref b2)])) _
    refine XS.iloadN X14.here hx rfl (hb hby dm2_109) rfl ?_
    show Steps p.tables e below (T14.setTop (mkF m 110 #[.val (.int (4 : Int32)), .val (.int x0), .val (.int x1), .val (.int x2), .val (.int x3), .val (.int x4)] [(.int x2), (.int (2 : Int32)), (.ref b5), (.ref b5), (.ref b2), (.ref b2)])) _
    exact k
  obtain ⟨cl17, Ar17, qk17, Sz17, Nn17, Hs17, Gs17⟩ := id V14
  obtain ⟨T18, h18, X18, e18, W18, st18⟩ := stC X14 hx hZ e14 Ar17 (j := (2 : Int32)) (inb_of Sz17 ⟨(by decide : ¬ ((2 : Int32) < (0 : Int32))), (by decide : (2 : Int32) < (4 : Int32))⟩) (g := (mkF m 110 #[.val (.int (4 : Int32)), .val (.int x0), .val (.int x1), .val (.int x2), .val (.int x3), .val (.int x4)] [(.int x2), (.int (2 : Int32)), (.ref b5), (.ref b5), (.ref b2), (.ref b2)])) rfl rfl (hb hby dm2_110)
  have N18 := Fr.snoc X18 N14 g_b5
  have V18 : Arv Z h18 b5 k5_ .char (4 : Int32) [(.int x0), (.int x1), (.int (nar .char x2)), (.int (0 : Int32))] (.int (0 : Int32)) := Arv.set Ar17 qk17 Sz17 Nn17 Hs17 Gs17 (fits_nar_char _) W18 2 rfl (Nat.le_of_ble_eq_true rfl)
  have k18 : ∀ t, Steps p.tables e below (T18.setTop (mkF m 111 #[.val (.int (4 : Int32)), .val (.int x0), .val (.int x1), .val (.int x2), .val (.int x3), .val (.int x4)] [(.ref b5), (.ref b2), (.ref b2)])) t → Steps p.tables e below (s₁.setTop (entryFrame m #[(.int (4 : Int32)), (.int x0), (.int x1), (.int x2), (.int x3), (.int x4)] 6)) t := fun t k => k16 t (st18 _ k)
  have Z19 : n0 ≤ h18.size := Nat.le_trans Z15 (Keep.of_wr W18).1
  rw [own_narc hx2] at V18
  have k20 : ∀ t, Steps p.tables e below (T18.setTop (mkF m 115 #[.val (.int (4 : Int32)), .val (.int x0), .val (.int x1), .val (.int x2), .val (.int x3), .val (.int x4)] [(.int x3), (.int (3 : Int32)), (.ref b5), (.ref b5), (.ref b2), (.ref b2)])) t → Steps p.tables e below (s₁.setTop (entryFrame m #[(.int (4 : Int32)), (.int x0), (.int x1), (.int x2), (.int x3), (.int x4)] 6)) t := by
    intro t k
    refine k18 _ ?_
    show Steps p.tables e below (T18.setTop (mkF m 111 #[.val (.int (4 : Int32)), .val (.int x0), .val (.int x1), .val (.int x2), .val (.int x3), .val (.int x4)] [(.ref b5), (.ref b2), (.ref b2)])) _
    refine XS.dup X18.here hx rfl (hb hby dm2_111) rfl rfl ?_
    show Steps p.tables e below (T18.setTop (mkF m 112 #[.val (.int (4 : Int32)), .val (.int x0), .val (.int x1), .val (.int x2), .val (.int x3), .val (.int x4)] [(.ref b5), (.ref b5), (.ref b2), (.ref b2)])) _
    refine XS.iconst X18.here hx rfl (hb hby dm2_112) ?_
    show Steps p.tables e below (T18.setTop (mkF m 113 #[.val (.int (4 : Int32)), .val (.int x0), .val (.int x1), .val (.int x2), .val (.int x3), .val (.int x4)] [(.int (3 : Int32)), (.ref b5), (.ref b5), (.ref b2), (.ref b2)])) _
    refine XS.iload X18.here hx rfl (hb hby dm2_113) rfl ?_
    show Steps p.tables e below (T18.setTop (mkF m 115 #[.val (.int (4 : Int32)), .val (.int x0), .val (.int x1), .val (.int x2), .val (.int x3), .val (.int x4)] [(.int x3), (.int (3 : Int32)), (.ref b5), (.ref b5), (.ref b2), (.ref b2)])) _
    exact k
  obtain ⟨cl21, Ar21, qk21, Sz21, Nn21, Hs21, Gs21⟩ := id V18
  obtain ⟨T22, h22, X22, e22, W22, st22⟩ := stC X18 hx hZ e18 Ar21 (j := (3 : Int32)) (inb_of Sz21 ⟨(by decide : ¬ ((3 : Int32) < (0 : Int32))), (by decide : (3 : Int32) < (4 : Int32))⟩) (g := (mkF m 115 #[.val (.int (4 : Int32)), .val (.int x0), .val (.int x1), .val (.int x2), .val (.int x3), .val (.int x4)] [(.int x3), (.int (3 : Int32)), (.ref b5), (.ref b5), (.ref b2), (.ref b2)])) rfl rfl (hb hby dm2_115)
  have N22 := Fr.snoc X22 N18 g_b5
  have V22 : Arv Z h22 b5 k5_ .char (4 : Int32) [(.int x0), (.int x1), (.int x2), (.int (nar .char x3))] (.int (0 : Int32)) := Arv.set Ar21 qk21 Sz21 Nn21 Hs21 Gs21 (fits_nar_char _) W22 3 rfl (Nat.le_of_ble_eq_true rfl)
  have k22 : ∀ t, Steps p.tables e below (T22.setTop (mkF m 116 #[.val (.int (4 : Int32)), .val (.int x0), .val (.int x1), .val (.int x2), .val (.int x3), .val (.int x4)] [(.ref b5), (.ref b2), (.ref b2)])) t → Steps p.tables e below (s₁.setTop (entryFrame m #[(.int (4 : Int32)), (.int x0), (.int x1), (.int x2), (.int x3), (.int x4)] 6)) t := fun t k => k20 t (st22 _ k)
  have Z23 : n0 ≤ h22.size := Nat.le_trans Z19 (Keep.of_wr W22).1
  rw [own_narc hx3] at V22
  have hpp : ∀ c ∈ ([x0, x1, x2, x3] : List Int32), ¬ c < (0 : Int32) ∧ ¬ (255 : Int32) < c := by
    intro c hc
    simp only [List.mem_cons, List.not_mem_nil, or_false] at hc
    rcases hc with rfl | rfl | rfl | rfl
    · exact hx0
    · exact hx1
    · exact hx2
    · exact hx3
  have f24 := (((((A2.ext E5).wr W10).wr W14).wr W18).wr W22)
  have f25 := (((((F2_value.ext E5).other W10 (Or.inl ne_b2_b5)).other W14 (Or.inl ne_b2_b5)).other W18 (Or.inl ne_b2_b5)).other W22 (Or.inl ne_b2_b5))
  have f26 := (((((F2_coder.ext E5).other W10 (Or.inl ne_b2_b5)).other W14 (Or.inl ne_b2_b5)).other W18 (Or.inl ne_b2_b5)).other W22 (Or.inl ne_b2_b5))
  have od27 : Old Z n0 h22 := ((((((XO.ext E2).ext E5).wr W10 g_b5).wr W14 g_b5).wr W18 g_b5).wr W22 g_b5)
  obtain ⟨_, _, ⟨T28, L28, ck28, nk28⟩, -, X28, ⟨Lc28, hQ28, l28, y28, z28⟩, st28⟩ := X22.specialBack hx (y := (⟨"java/lang/String", "<init>", "([C)V"⟩ : MethodName)) rfl hown (mvT hZ (hw _ (List.mem_of_getElem? (i := 8) rfl))) (mvT hZ (hw _ (List.mem_of_getElem? (i := 9) rfl))) (mvT hZ (hw _ (List.mem_of_getElem? (i := 10) rfl))) (by decide) (StrChars.Road.backV (W := 1) hZ (fun d hd => hw d (own_wNew d hd)) (kI := 4) (hw _ (List.mem_of_getElem? (i := 5) rfl)) (cs := ([x0, x1, x2, x3] : List Int32)) (bs := ([x0, x1, x2, x3] : List Int32).map (fun c => c.toInt8.toInt32)) (n := 4) g_b2 Z23 f24 f25 f26 V22 (S1.ext od27.2) hcs rfl rfl (by decide) (by decide) hpp rfl (by decide) (by decide)) (g := (mkF m 116 #[.val (.int (4 : Int32)), .val (.int x0), .val (.int x1), .val (.int x2), .val (.int x3), .val (.int x4)] [(.ref b5), (.ref b2), (.ref b2)])) rfl (by rw [hml]; rfl) (Steps.refl _) (a := b2) (argsL := [(.ref b5)]) (rest := [(.ref b2)]) (lenOf pd_2 rfl) rfl (by show 2 * 0 + _ ≤ _; exact Nat.le_of_eq rfl) (hb hby dm2_116) (fun _ _ => ⟨rfl, e22, (by decide : 2 + 1 ≤ _), (by decide : 8 + 4 ≤ _)⟩)
  dsimp only [Pt.U, Pt.locs, Pt.cells, Pt.slots] at X28 l28 y28 z28 st28 hQ28
  subst l28 y28 z28
  obtain ⟨rfl, N28q, K28, EE28, FC28, t28, kb28, ht128, ht228, ht328, FV28, VA28⟩ := hQ28
  have N28 := Fr.app N22 N28q
  have k28 : ∀ t, Steps p.tables e below (T28.setTop (mkF m 119 #[.val (.int (4 : Int32)), .val (.int x0), .val (.int x1), .val (.int x2), .val (.int x3), .val (.int x4)] [(.ref b2)])) t → Steps p.tables e below (s₁.setTop (entryFrame m #[(.int (4 : Int32)), (.int x0), (.int x1), (.int x2), (.int x3), (.int x4)] 6)) t := fun t k => k22 t (st28.trans k)
  have Z29 : n0 ≤ T28.heap.size := Nat.le_trans Z23 K28.1
  have TS28 : own_Str Z T28.heap b2 ([x0, x1, x2, x3] : List Int32) := ⟨t28, kb28, EE28, FC28, FV28, VA28, hpp, Nat.le_of_ble_eq_true rfl⟩
  have kp30 : Keep h0 T28.heap [] := ((((((kp6.ext E5).wr W10 (Or.inr sz_b5)).wr W14 (Or.inr sz_b5)).wr W18 (Or.inr sz_b5)).wr W22 (Or.inr sz_b5)).trans K28 (allS (Or.inr sz_b2) all0))
  obtain ⟨fs, hr, hrun, hended, hW, hsame⟩ := X28.leave (v := some (.ref b2)) (fun h => by rw [Bd.returns] at h; cases h)
  refine ⟨_, _, k28 _ ?_, hrun, hended, _, _, rfl, ?_, ⟨_, rfl⟩, hW, hsame.mono (Nat.le_of_ble_eq_true rfl) (Nat.le_of_ble_eq_true rfl)⟩
  · exact retOut X28 hx Bd.returns rfl (Or.inr (Or.inr (Or.inr (Or.inr ⟨rfl, rfl, rfl⟩)))) (hb hby dm2_119) hr
  · show QMk4 Z x0 x1 x2 x3 x4 cs h0 n0 _ T28.heap _
    skip
    exact ⟨_, rfl, N28, kp30, TS28⟩
theorem ef_Mk5 (m : MethodId) (x0 : Int32) (x1 : Int32) (x2 : Int32) (x3 : Int32) (x4 : Int32) (x5 : Int32) : entryFrame m #[(.int x0), (.int x1), (.int x2), (.int x3), (.int x4), (.int x5)] 6 = mkF m 0 #[.val (.int x0), .val (.int x1), .val (.int x2), .val (.int x3), .val (.int x4), .val (.int x5)] [] := by first | (simp [entryFrame, mkF, argsToLocals, Value.category]; done) | rfl
def QMk5 (Z : State) (x0 : Int32) (x1 : Int32) (x2 : Int32) (x3 : Int32) (x4 : Int32) (cs : Int32) (h0 : Heap) (n0 : Nat) (v : Option Value) (h : Heap) (L : List Loc) : Prop := ∃ r, v = some (.ref r) ∧ Fr n0 L ∧ Keep h0 h [] ∧ own_Str Z h r [x0, x1, x2, x3, x4]
set_option maxRecDepth 65536 in
set_option maxHeartbeats 40000000 in
theorem rmMk5 (l : Launch) (Z : State) (a0 : Array Value) (hw : ∀ d ∈ tables_1, d.before a0 Z = true) (ws : List Jvm.Cond) (x0 : Int32) (x1 : Int32) (x2 : Int32) (x3 : Int32) (x4 : Int32) (cs : Int32) (h0 : Heap) (n0 : Nat) (Z0 : n0 ≤ h0.size) (hx0 : ¬ x0 < (0 : Int32) ∧ ¬ (255 : Int32) < x0) (hx1 : ¬ x1 < (0 : Int32) ∧ ¬ (255 : Int32) < x1) (hx2 : ¬ x2 < (0 : Int32) ∧ ¬ (255 : Int32) < x2) (hx3 : ¬ x3 < (0 : Int32) ∧ ¬ (255 : Int32) < x3) (hx4 : ¬ x4 < (0 : Int32) ∧ ¬ (255 : Int32) < x4) (S1 : Sta Z Z.heap "java/lang/String" "COMPACT_STRINGS" "Z" (.int cs)) (hcs : ¬ cs = (0 : Int32)) (XO : Old Z n0 h0) :
    MetFree l (⟨"com/example/nogood/nogood/problem/InstanceFormatNamedPinLaw", "make", "(ICCCCC)Ljava/lang/String;"⟩ : MethodName) (head1 (Jvm.Cond.code (⟨"com/example/nogood/nogood/problem/InstanceFormatNamedPinLaw", "make", "(ICCCCC)Ljava/lang/String;"⟩ : MethodName) method_2_code 6 (some (.object "java/lang/String")) :: ws) ({ frames := 4, cells := 3, slots := 14, locals := 66 } : Room)) (fun A_ U => A_ = #[(.int (5 : Int32)), (.int x0), (.int x1), (.int x2), (.int x3), (.int x4)] ∧ Z.Warmed39 U.vm ∧ U.heap = h0) (fun _ _ _ _ _ => True) (fun _ U o U' => ∃ v L, o = .returned v ∧ QMk5 Z x0 x1 x2 x3 x4 cs h0 n0 v U'.heap L ∧ FrameEnd U o U' L ({ frames := 4, cells := 3, slots := 14, locals := 66 } : Room).cells ({ frames := 4, cells := 3, slots := 14, locals := 66 } : Room).slots) := by
  refine MetFree.of_bodySF (plainFor_of_name pn_2) hisR ?_
  intro p e s m args below meth c s₁ Bd hml0 hP hK
  obtain ⟨rfl, hZ, hh⟩ := hP
  have hx := Bd.exec
  have hby := Bd.bytes
  have hml : c.maxLocals = 6 := hml0
  have hown : s.vm.findClass "com/example/nogood/nogood/problem/InstanceFormatNamedPinLaw" = some m.cls := findClass_of_methodNamed Bd.named
  have hnm := (name_of_methodNamed Bd.named Bd.method).1
  have X0 : Stand p l e ({ frames := 4, cells := 3, slots := 14, locals := 66 } : Room) s m #[(.int (5 : Int32)), (.int x0), (.int x1), (.int x2), (.int x3), (.int x4)] below meth c s₁ [] 0 0 := Stand.of_body Bd
  have e0 : s₁.heap = h0 := by rw [← hh, Bd.state]; rfl
  have N0 := Fr.nil n0
  have k0 : ∀ t, Steps p.tables e below (s₁.setTop (mkF m 0 #[.val (.int (5 : Int32)), .val (.int x0), .val (.int x1), .val (.int x2), .val (.int x3), .val (.int x4)] [])) t → Steps p.tables e below (s₁.setTop (entryFrame m #[(.int (5 : Int32)), (.int x0), (.int x1), (.int x2), (.int x3), (.int x4)] 6)) t := fun t k => castTop (ef_Mk5 m ((5 : Int32)) x0 x1 x2 x3 x4) k
  have k1 : ∀ t, Steps p.tables e below (s₁.setTop (mkF m 120 #[.val (.int (5 : Int32)), .val (.int x0), .val (.int x1), .val (.int x2), .val (.int x3), .val (.int x4)] [])) t → Steps p.tables e below (s₁.setTop (entryFrame m #[(.int (5 : Int32)), (.int x0), (.int x1), (.int x2), (.int x3), (.int x4)] 6)) t := by
    intro t k
    refine k0 _ ?_
    show Steps p.tables e below (s₁.setTop (mkF m 0 #[.val (.int (5 : Int32)), .val (.int x0), .val (.int x1), .val (.int x2), .val (.int x3), .val (.int x4)] [])) _
    refine XS.iloadN X0.here hx rfl (hb hby dm2_0) rfl ?_
    show Steps p.tables e below (s₁.setTop (mkF m 1 #[.val (.int (5 : Int32)), .val (.int x0), .val (.int x1), .val (.int x2), .val (.int x3), .val (.int x4)] [(.int (5 : Int32))])) _
    refine XS.ifYes X0.here hx rfl (pc0 := 1) (pc' := 15) rfl (hb hby dm2_1) rfl ((if0 _ _).trans (feq (by decide)).2) (by decide) (by decide) ?_
    show Steps p.tables e below (s₁.setTop (mkF m 15 #[.val (.int (5 : Int32)), .val (.int x0), .val (.int x1), .val (.int x2), .val (.int x3), .val (.int x4)] [])) _
    refine XS.iloadN X0.here hx rfl (hb hby dm2_15) rfl ?_
    show Steps p.tables e below (s₁.setTop (mkF m 16 #[.val (.int (5 : Int32)), .val (.int x0), .val (.int x1), .val (.int x2), .val (.int x3), .val (.int x4)] [(.int (5 : Int32))])) _
    refine XS.iconst X0.here hx rfl (hb hby dm2_16) ?_
    show Steps p.tables e below (s₁.setTop (mkF m 17 #[.val (.int (5 : Int32)), .val (.int x0), .val (.int x1), .val (.int x2), .val (.int x3), .val (.int x4)] [(.int (1 : Int32)), (.int (5 : Int32))])) _
    refine XS.icmpYes X0.here hx rfl (pc0 := 17) (pc' := 35) rfl (hb hby dm2_17) rfl (feq (by decide)).2 (by decide) (by decide) ?_
    show Steps p.tables e below (s₁.setTop (mkF m 35 #[.val (.int (5 : Int32)), .val (.int x0), .val (.int x1), .val (.int x2), .val (.int x3), .val (.int x4)] [])) _
    refine XS.iloadN X0.here hx rfl (hb hby dm2_35) rfl ?_
    show Steps p.tables e below (s₁.setTop (mkF m 36 #[.val (.int (5 : Int32)), .val (.int x0), .val (.int x1), .val (.int x2), .val (.int x3), .val (.int x4)] [(.int (5 : Int32))])) _
    refine XS.iconst X0.here hx rfl (hb hby dm2_36) ?_
    show Steps p.tables e below (s₁.setTop (mkF m 37 #[.val (.int (5 : Int32)), .val (.int x0), .val (.int x1), .val (.int x2), .val (.int x3), .val (.int x4)] [(.int (2 : Int32)), (.int (5 : Int32))])) _
    refine XS.icmpYes X0.here hx rfl (pc0 := 37) (pc' := 59) rfl (hb hby dm2_37) rfl (feq (by decide)).2 (by decide) (by decide) ?_
    show Steps p.tables e below (s₁.setTop (mkF m 59 #[.val (.int (5 : Int32)), .val (.int x0), .val (.int x1), .val (.int x2), .val (.int x3), .val (.int x4)] [])) _
    refine XS.iloadN X0.here hx rfl (hb hby dm2_59) rfl ?_
    show Steps p.tables e below (s₁.setTop (mkF m 60 #[.val (.int (5 : Int32)), .val (.int x0), .val (.int x1), .val (.int x2), .val (.int x3), .val (.int x4)] [(.int (5 : Int32))])) _
    refine XS.iconst X0.here hx rfl (hb hby dm2_60) ?_
    show Steps p.tables e below (s₁.setTop (mkF m 61 #[.val (.int (5 : Int32)), .val (.int x0), .val (.int x1), .val (.int x2), .val (.int x3), .val (.int x4)] [(.int (3 : Int32)), (.int (5 : Int32))])) _
    refine XS.icmpYes X0.here hx rfl (pc0 := 61) (pc' := 87) rfl (hb hby dm2_61) rfl (feq (by decide)).2 (by decide) (by decide) ?_
    show Steps p.tables e below (s₁.setTop (mkF m 87 #[.val (.int (5 : Int32)), .val (.int x0), .val (.int x1), .val (.int x2), .val (.int x3), .val (.int x4)] [])) _
    refine XS.iloadN X0.here hx rfl (hb hby dm2_87) rfl ?_
    show Steps p.tables e below (s₁.setTop (mkF m 88 #[.val (.int (5 : Int32)), .val (.int x0), .val (.int x1), .val (.int x2), .val (.int x3), .val (.int x4)] [(.int (5 : Int32))])) _
    refine XS.iconst X0.here hx rfl (hb hby dm2_88) ?_
    show Steps p.tables e below (s₁.setTop (mkF m 89 #[.val (.int (5 : Int32)), .val (.int x0), .val (.int x1), .val (.int x2), .val (.int x3), .val (.int x4)] [(.int (4 : Int32)), (.int (5 : Int32))])) _
    refine XS.icmpYes X0.here hx rfl (pc0 := 89) (pc' := 120) rfl (hb hby dm2_89) rfl (feq (by decide)).2 (by decide) (by decide) ?_
    show Steps p.tables e below (s₁.setTop (mkF m 120 #[.val (.int (5 : Int32)), .val (.int x0), .val (.int x1), .val (.int x2), .val (.int x3), .val (.int x4)] [])) _
    exact k
  obtain ⟨T2, h2, X2, e2, E2, A2, D2, -, st2⟩ := newO X0 hx hZ hown (hw _ (List.mem_of_getElem? (i := 4) rfl)) (hw _ (List.mem_of_getElem? (i := 5) rfl)) (hw _ (List.mem_of_getElem? (i := 6) rfl)) e0 (g := (mkF m 120 #[.val (.int (5 : Int32)), .val (.int x0), .val (.int x1), .val (.int x2), .val (.int x3), .val (.int x4)] [])) rfl (hb hby dm2_120) (by decide) (by decide)
  obtain ⟨b2, g2⟩ : ∃ z, z = h0.size := ⟨_, rfl⟩
  rw [← g2] at A2 D2 st2
  have g_b2 : n0 ≤ b2 := Nat.le_trans Z0 (Nat.le_of_eq g2.symm)
  have sz_b2 : h0.size ≤ b2 := Nat.le_trans (Keep.refl h0 []).1 (Nat.le_of_eq g2.symm)
  have F2_value : Fld Z h2 b2 "java/lang/String" "value" "[B" .null := D2 (Or.inr (hw _ (List.mem_of_getElem? (i := 20) rfl))) (ty := (.array .byte)) (by decide)
  have F2_coder : Fld Z h2 b2 "java/lang/String" "coder" "B" (.int (0 : Int32)) := D2 (Or.inr (hw _ (List.mem_of_getElem? (i := 21) rfl))) (ty := .byte) (by decide)
  have k2 : ∀ t, Steps p.tables e below (T2.setTop (mkF m 123 #[.val (.int (5 : Int32)), .val (.int x0), .val (.int x1), .val (.int x2), .val (.int x3), .val (.int x4)] [(.ref b2)])) t → Steps p.tables e below (s₁.setTop (entryFrame m #[(.int (5 : Int32)), (.int x0), (.int x1), (.int x2), (.int x3), (.int x4)] 6)) t := fun t k => k1 t (st2 _ k)
  have Z3 : n0 ≤ h2.size := Nat.le_trans Z0 E2.1
  have k4 : ∀ t, Steps p.tables e below (T2.setTop (mkF m 125 #[.val (.int (5 : Int32)), .val (.int x0), .val (.int x1), .val (.int x2), .val (.int x3), .val (.int x4)] [(.int (5 : Int32)), (.ref b2), (.ref b2)])) t → Steps p.tables e below (s₁.setTop (entryFrame m #[(.int (5 : Int32)), (.int x0), (.int x1), (.int x2), (.int x3), (.int x4)] 6)) t := by
    intro t k
    refine k2 _ ?_
    show Steps p.tables e below (T2.setTop (mkF m 123 #[.val (.int (5 : Int32)), .val (.int x0), .val (.int x1), .val (.int x2), .val (.int x3), .val (.int x4)] [(.ref b2)])) _
    refine XS.dup X2.here hx rfl (hb hby dm2_123) rfl rfl ?_
    show Steps p.tables e below (T2.setTop (mkF m 124 #[.val (.int (5 : Int32)), .val (.int x0), .val (.int x1), .val (.int x2), .val (.int x3), .val (.int x4)] [(.ref b2), (.ref b2)])) _
    refine XS.iconst X2.here hx rfl (hb hby dm2_124) ?_
    show Steps p.tables e below (T2.setTop (mkF m 125 #[.val (.int (5 : Int32)), .val (.int x0), .val (.int x1), .val (.int x2), .val (.int x3), .val (.int x4)] [(.int (5 : Int32)), (.ref b2), (.ref b2)])) _
    exact k
  have kp6 : Keep h0 h2 [] := ((Keep.refl h0 []).ext E2)
  obtain ⟨T5, h5, k5_, X5, e5, E5, A5, st5⟩ := newP X2 hx hZ (hw _ (List.mem_of_getElem? (i := 7) rfl)) e2 (g := (mkF m 125 #[.val (.int (5 : Int32)), .val (.int x0), .val (.int x1), .val (.int x2), .val (.int x3), .val (.int x4)] [(.int (5 : Int32)), (.ref b2), (.ref b2)])) rfl (hb hby dm2_125) rfl (by decide : ¬ ((5 : Int32) < (0 : Int32))) (cap := 5) (by decide : (5 : Int32).toNatClampNeg ≤ 5) (by decide) (by decide) (by decide)
  obtain ⟨b5, g5⟩ : ∃ z, z = h2.size := ⟨_, rfl⟩
  rw [← g5] at A5 st5
  have ne_b2_b5 : b2 ≠ b5 := Nat.ne_of_lt (Nat.lt_of_lt_of_eq A2.lt g5.symm)
  have g_b5 : n0 ≤ b5 := Nat.le_trans Z3 (Nat.le_of_eq g5.symm)
  have sz_b5 : h0.size ≤ b5 := Nat.le_trans kp6.1 (Nat.le_of_eq g5.symm)
  have V5 : Arv Z h5 b5 k5_ .char (5 : Int32) [(.int (0 : Int32)), (.int (0 : Int32)), (.int (0 : Int32)), (.int (0 : Int32)), (.int (0 : Int32))] (.int (0 : Int32)) := (Arv.new A5 (by decide : ¬ ((5 : Int32) < (0 : Int32)))).pad (pad_rep [] (.int (0 : Int32)) 5)
  have k5 : ∀ t, Steps p.tables e below (T5.setTop (mkF m 127 #[.val (.int (5 : Int32)), .val (.int x0), .val (.int x1), .val (.int x2), .val (.int x3), .val (.int x4)] [(.ref b5), (.ref b2), (.ref b2)])) t → Steps p.tables e below (s₁.setTop (entryFrame m #[(.int (5 : Int32)), (.int x0), (.int x1), (.int x2), (.int x3), (.int x4)] 6)) t := fun t k => k4 t (st5 _ k)
  have Z7 : n0 ≤ h5.size := Nat.le_trans Z3 E5.1
  have k8 : ∀ t, Steps p.tables e below (T5.setTop (mkF m 130 #[.val (.int (5 : Int32)), .val (.int x0), .val (.int x1), .val (.int x2), .val (.int x3), .val (.int x4)] [(.int x0), (.int (0 : Int32)), (.ref b5), (.ref b5), (.ref b2), (.ref b2)])) t → Steps p.tables e below (s₁.setTop (entryFrame m #[(.int (5 : Int32)), (.int x0), (.int x1), (.int x2), (.int x3), (.int x4)] 6)) t := by
    intro t k
    refine k5 _ ?_
    show Steps p.tables e below (T5.setTop (mkF m 127 #[.val (.int (5 : Int32)), .val (.int x0), .val (.int x1), .val (.int x2), .val (.int x3), .val (.int x4)] [(.ref b5), (.ref b2), (.ref b2)])) _
    refine XS.dup X5.here hx rfl (hb hby dm2_127) rfl rfl ?_
    show Steps p.tables e below (T5.setTop (mkF m 128 #[.val (.int (5 : Int32)), .val (.int x0), .val (.int x1), .val (.int x2), .val (.int x3), .val (.int x4)] [(.ref b5), (.ref b5), (.ref b2), (.ref b2)])) _
    refine XS.iconst X5.here hx rfl (hb hby dm2_128) ?_
    show Steps p.tables e below (T5.setTop (mkF m 129 #[.val (.int (5 : Int32)), .val (.int x0), .val (.int x1), .val (.int x2), .val (.int x3), .val (.int x4)] [(.int (0 : Int32)), (.ref b5), (.ref b5), (.ref b2), (.ref b2)])) _
    refine XS.iloadN X5.here hx rfl (hb hby dm2_129) rfl ?_
    show Steps p.tables e below (T5.setTop (mkF m 130 #[.val (.int (5 : Int32)), .val (.int x0), .val (.int x1), .val (.int x2), .val (.int x3), .val (.int x4)] [(.int x0), (.int (0 : Int32)), (.ref b5), (.ref b5), (.ref b2), (.ref b2)])) _
    exact k
  obtain ⟨cl9, Ar9, qk9, Sz9, Nn9, Hs9, Gs9⟩ := id V5
  obtain ⟨T10, h10, X10, e10, W10, st10⟩ := stC X5 hx hZ e5 Ar9 (j := (0 : Int32)) (inb_of Sz9 ⟨(by decide : ¬ ((0 : Int32) < (0 : Int32))), (by decide : (0 : Int32) < (5 : Int32))⟩) (g := (mkF m 130 #[.val (.int (5 : Int32)), .val (.int x0), .val (.int x1), .val (.int x2), .val (.int x3), .val (.int x4)] [(.int x0), (.int (0 : Int32)), (.ref b5), (.ref b5), (.ref b2), (.ref b2)])) rfl rfl (hb hby dm2_130)
  have N10 := Fr.snoc X10 N0 g_b5
  have V10 : Arv Z h10 b5 k5_ .char (5 : Int32) [(.int (nar .char x0)), (.int (0 : Int32)), (.int (0 : Int32)), (.int (0 : Int32)), (.int (0 : Int32))] (.int (0 : Int32)) := Arv.set Ar9 qk9 Sz9 Nn9 Hs9 Gs9 (fits_nar_char _) W10 0 rfl (Nat.le_of_ble_eq_true rfl)
  have k10 : ∀ t, Steps p.tables e below (T10.setTop (mkF m 131 #[.val (.int (5 : Int32)), .val (.int x0), .val (.int x1), .val (.int x2), .val (.int x3), .val (.int x4)] [(.ref b5), (.ref b2), (.ref b2)])) t → Steps p.tables e below (s₁.setTop (entryFrame m #[(.int (5 : Int32)), (.int x0), (.int x1), (.int x2), (.int x3), (.int x4)] 6)) t := fun t k => k8 t (st10 _ k)
  have Z11 : n0 ≤ h10.size := Nat.le_trans Z7 (Keep.of_wr W10).1
  rw [own_narc hx0] at V10
  have k12 : ∀ t, Steps p.tables e below (T10.setTop (mkF m 134 #[.val (.int (5 : Int32)), .val (.int x0), .val (.int x1), .val (.int x2), .val (.int x3), .val (.int x4)] [(.int x1), (.int (1 : Int32)), (.ref b5), (.ref b5), (.ref b2), (.ref b2)])) t → Steps p.tables e below (s₁.setTop (entryFrame m #[(.int (5 : Int32)), (.int x0), (.int x1), (.int x2), (.int x3), (.int x4)] 6)) t := by
    intro t k
    refine k10 _ ?_
    show Steps p.tables e below (T10.setTop (mkF m 131 #[.val (.int (5 : Int32)), .val (.int x0), .val (.int x1), .val (.int x2), .val (.int x3), .val (.int x4)] [(.ref b5), (.ref b2), (.ref b2)])) _
    refine XS.dup X10.here hx rfl (hb hby dm2_131) rfl rfl ?_
    show Steps p.tables e below (T10.setTop (mkF m 132 #[.val (.int (5 : Int32)), .val (.int x0), .val (.int x1), .val (.int x2), .val (.int x3), .val (.int x4)] [(.ref b5), (.ref b5), (.ref b2), (.ref b2)])) _
    refine XS.iconst X10.here hx rfl (hb hby dm2_132) ?_
    show Steps p.tables e below (T10.setTop (mkF m 133 #[.val (.int (5 : Int32)), .val (.int x0), .val (.int x1), .val (.int x2), .val (.int x3), .val (.int x4)] [(.int (1 : Int32)), (.ref b5), (.ref b5), (.ref b2), (.ref b2)])) _
    refine XS.iloadN X10.here hx rfl (hb hby dm2_133) rfl ?_
    show Steps p.tables e below (T10.setTop (mkF m 134 #[.val (.int (5 : Int32)), .val (.int x0), .val (.int x1), .val (.int x2), .val (.int x3), .val (.int x4)] [(.int x1), (.int (1 : Int32)), (.ref b5), (.ref b5), (.ref b2), (.ref b2)])) _
    exact k
  obtain ⟨cl13, Ar13, qk13, Sz13, Nn13, Hs13, Gs13⟩ := id V10
  obtain ⟨T14, h14, X14, e14, W14, st14⟩ := stC X10 hx hZ e10 Ar13 (j := (1 : Int32)) (inb_of Sz13 ⟨(by decide : ¬ ((1 : Int32) < (0 : Int32))), (by decide : (1 : Int32) < (5 : Int32))⟩) (g := (mkF m 134 #[.val (.int (5 : Int32)), .val (.int x0), .val (.int x1), .val (.int x2), .val (.int x3), .val (.int x4)] [(.int x1), (.int (1 : Int32)), (.ref b5), (.ref b5), (.ref b2), (.ref b2)])) rfl rfl (hb hby dm2_134)
  have N14 := Fr.snoc X14 N10 g_b5
  have V14 : Arv Z h14 b5 k5_ .char (5 : Int32) [(.int x0), (.int (nar .char x1)), (.int (0 : Int32)), (.int (0 : Int32)), (.int (0 : Int32))] (.int (0 : Int32)) := Arv.set Ar13 qk13 Sz13 Nn13 Hs13 Gs13 (fits_nar_char _) W14 1 rfl (Nat.le_of_ble_eq_true rfl)
  have k14 : ∀ t, Steps p.tables e below (T14.setTop (mkF m 135 #[.val (.int (5 : Int32)), .val (.int x0), .val (.int x1), .val (.int x2), .val (.int x3), .val (.int x4)] [(.ref b5), (.ref b2), (.ref b2)])) t → Steps p.tables e below (s₁.setTop (entryFrame m #[(.int (5 : Int32)), (.int x0), (.int x1), (.int x2), (.int x3), (.int x4)] 6)) t := fun t k => k12 t (st14 _ k)
  have Z15 : n0 ≤ h14.size := Nat.le_trans Z11 (Keep.of_wr W14).1
  rw [own_narc hx1] at V14
  have k16 : ∀ t, Steps p.tables e below (T14.setTop (mkF m 138 #[.val (.int (5 : Int32)), .val (.int x0), .val (.int x1), .val (.int x2), .val (.int x3), .val (.int x4)] [(.int x2), (.int (2 : Int32)), (.ref b5), (.ref b5), (.ref b2), (.ref b2)])) t → Steps p.tables e below (s₁.setTop (entryFrame m #[(.int (5 : Int32)), (.int x0), (.int x1), (.int x2), (.int x3), (.int x4)] 6)) t := by
    intro t k
    refine k14 _ ?_
    show Steps p.tables e below (T14.setTop (mkF m 135 #[.val (.int (5 : Int32)), .val (.int x0), .val (.int x1), .val (.int x2), .val (.int x3), .val (.int x4)] [(.ref b5), (.ref b2), (.ref b2)])) _
    refine XS.dup X14.here hx rfl (hb hby dm2_135) rfl rfl ?_
    show Steps p.tables e below (T14.setTop (mkF m 136 #[.val (.int (5 : Int32)), .val (.int x0), .val (.int x1), .val (.int x2), .val (.int x3), .val (.int x4)] [(.ref b5), (.ref b5), (.ref b2), (.ref b2)])) _
    refine XS.iconst X14.here hx rfl (hb hby dm2_136) ?_
    show Steps p.tables e below (T14.setTop (mkF m 137 #[.val (.int (5 : Int32)), .val (.int x0), .val (.int x1), .val (.int x2), .val (.int x3), .val (.int x4)] [(.int (2 : Int32)), (.ref b5), (.ref b5), (.ref b2), (.ref b2)])) _
    refine XS.iloadN X14.here hx rfl (hb hby dm2_137) rfl ?_
    show Steps p.tables e below (T14.setTop (mkF m 138 #[.val (.int (5 : Int32)), .val (.int x0), .val (.int x1), .val (.int x2), .val (.int x3), .val (.int x4)] [(.int x2), (.int (2 : Int32)), (.ref b5), (.ref b5), (.ref b2), (.ref b2)])) _
    exact k
  obtain ⟨cl17, Ar17, qk17, Sz17, Nn17, Hs17, Gs17⟩ := id V14
  obtain ⟨T18, h18, X18, e18, W18, st18⟩ := stC X14 hx hZ e14 Ar17 (j := (2 : Int32)) (inb_of Sz17 ⟨(by decide : ¬ ((2 : Int32) < (0 : Int32))), (by decide : (2 : Int32) < (5 : Int32))⟩) (g := (mkF m 138 #[.val (.int (5 : Int32)), .val (.int x0), .val (.int x1), .val (.int x2), .val (.int x3), .val (.int x4)] [(.int x2), (.int (2 : Int32)), (.ref b5), (.ref b5), (.ref b2), (.ref b2)])) rfl rfl (hb hby dm2_138)
  have N18 := Fr.snoc X18 N14 g_b5
  have V18 : Arv Z h18 b5 k5_ .char (5 : Int32) [(.int x0), (.int x1), (.int (nar .char x2)), (.int (0 : Int32)), (.int (0 : Int32))] (.int (0 : Int32)) := Arv.set Ar17 qk17 Sz17 Nn17 Hs17 Gs17 (fits_nar_char _) W18 2 rfl (Nat.le_of_ble_eq_true rfl)
  have k18 : ∀ t, Steps p.tables e below (T18.setTop (mkF m 139 #[.val (.int (5 : Int32)), .val (.int x0), .val (.int x1), .val (.int x2), .val (.int x3), .val (.int x4)] [(.ref b5), (.ref b2), (.ref b2)])) t → Steps p.tables e below (s₁.setTop (entryFrame m #[(.int (5 : Int32)), (.int x0), (.int x1), (.int x2), (.int x3), (.int x4)] 6)) t := fun t k => k16 t (st18 _ k)
  have Z19 : n0 ≤ h18.size := Nat.le_trans Z15 (Keep.of_wr W18).1
  rw [own_narc hx2] at V18
  have k20 : ∀ t, Steps p.tables e below (T18.setTop (mkF m 143 #[.val (.int (5 : Int32)), .val (.int x0), .val (.int x1), .val (.int x2), .val (.int x3), .val (.int x4)] [(.int x3), (.int (3 : Int32)), (.ref b5), (.ref b5), (.ref b2), (.ref b2)])) t → Steps p.tables e below (s₁.setTop (entryFrame m #[(.int (5 : Int32)), (.int x0), (.int x1), (.int x2), (.int x3), (.int x4)] 6)) t := by
    intro t k
    refine k18 _ ?_
    show Steps p.tables e below (T18.setTop (mkF m 139 #[.val (.int (5 : Int32)), .val (.int x0), .val (.int x1), .val (.int x2), .val (.int x3), .val (.int x4)] [(.ref b5), (.ref b2), (.ref b2)])) _
    refine XS.dup X18.here hx rfl (hb hby dm2_139) rfl rfl ?_
    show Steps p.tables e below (T18.setTop (mkF m 140 #[.val (.int (5 : Int32)), .val (.int x0), .val (.int x1), .val (.int x2), .val (.int x3), .val (.int x4)] [(.ref b5), (.ref b5), (.ref b2), (.ref b2)])) _
    refine XS.iconst X18.here hx rfl (hb hby dm2_140) ?_
    show Steps p.tables e below (T18.setTop (mkF m 141 #[.val (.int (5 : Int32)), .val (.int x0), .val (.int x1), .val (.int x2), .val (.int x3), .val (.int x4)] [(.int (3 : Int32)), (.ref b5), (.ref b5), (.ref b2), (.ref b2)])) _
    refine XS.iload X18.here hx rfl (hb hby dm2_141) rfl ?_
    show Steps p.tables e below (T18.setTop (mkF m 143 #[.val (.int (5 : Int32)), .val (.int x0), .val (.int x1), .val (.int x2), .val (.int x3), .val (.int x4)] [(.int x3), (.int (3 : Int32)), (.ref b5), (.ref b5), (.ref b2), (.ref b2)])) _
    exact k
  obtain ⟨cl21, Ar21, qk21, Sz21, Nn21, Hs21, Gs21⟩ := id V18
  obtain ⟨T22, h22, X22, e22, W22, st22⟩ := stC X18 hx hZ e18 Ar21 (j := (3 : Int32)) (inb_of Sz21 ⟨(by decide : ¬ ((3 : Int32) < (0 : Int32))), (by decide : (3 : Int32) < (5 : Int32))⟩) (g := (mkF m 143 #[.val (.int (5 : Int32)), .val (.int x0), .val (.int x1), .val (.int x2), .val (.int x3), .val (.int x4)] [(.int x3), (.int (3 : Int32)), (.ref b5), (.ref b5), (.ref b2), (.ref b2)])) rfl rfl (hb hby dm2_143)
  have N22 := Fr.snoc X22 N18 g_b5
  have V22 : Arv Z h22 b5 k5_ .char (5 : Int32) [(.int x0), (.int x1), (.int x2), (.int (nar .char x3)), (.int (0 : Int32))] (.int (0 : Int32)) := Arv.set Ar21 qk21 Sz21 Nn21 Hs21 Gs21 (fits_nar_char _) W22 3 rfl (Nat.le_of_ble_eq_true rfl)
  have k22 : ∀ t, Steps p.tables e below (T22.setTop (mkF m 144 #[.val (.int (5 : Int32)), .val (.int x0), .val (.int x1), .val (.int x2), .val (.int x3), .val (.int x4)] [(.ref b5), (.ref b2), (.ref b2)])) t → Steps p.tables e below (s₁.setTop (entryFrame m #[(.int (5 : Int32)), (.int x0), (.int x1), (.int x2), (.int x3), (.int x4)] 6)) t := fun t k => k20 t (st22 _ k)
  have Z23 : n0 ≤ h22.size := Nat.le_trans Z19 (Keep.of_wr W22).1
  rw [own_narc hx3] at V22
  have k24 : ∀ t, Steps p.tables e below (T22.setTop (mkF m 148 #[.val (.int (5 : Int32)), .val (.int x0), .val (.int x1), .val (.int x2), .val (.int x3), .val (.int x4)] [(.int x4), (.int (4 : Int32)), (.ref b5), (.ref b5), (.ref b2), (.ref b2)])) t → Steps p.tables e below (s₁.setTop (entryFrame m #[(.int (5 : Int32)), (.int x0), (.int x1), (.int x2), (.int x3), (.int x4)] 6)) t := by
    intro t k
    refine k22 _ ?_
    show Steps p.tables e below (T22.setTop (mkF m 144 #[.val (.int (5 : Int32)), .val (.int x0), .val (.int x1), .val (.int x2), .val (.int x3), .val (.int x4)] [(.ref b5), (.ref b2), (.ref b2)])) _
    refine XS.dup X22.here hx rfl (hb hby dm2_144) rfl rfl ?_
    show Steps p.tables e below (T22.setTop (mkF m 145 #[.val (.int (5 : Int32)), .val (.int x0), .val (.int x1), .val (.int x2), .val (.int x3), .val (.int x4)] [(.ref b5), (.ref b5), (.ref b2), (.ref b2)])) _
    refine XS.iconst X22.here hx rfl (hb hby dm2_145) ?_
    show Steps p.tables e below (T22.setTop (mkF m 146 #[.val (.int (5 : Int32)), .val (.int x0), .val (.int x1), .val (.int x2), .val (.int x3), .val (.int x4)] [(.int (4 : Int32)), (.ref b5), (.ref b5), (.ref b2), (.ref b2)])) _
    refine XS.iload X22.here hx rfl (hb hby dm2_146) rfl ?_
    show Steps p.tables e below (T22.setTop (mkF m 148 #[.val (.int (5 : Int32)), .val (.int x0), .val (.int x1), .val (.int x2), .val (.int x3), .val (.int x4)] [(.int x4), (.int (4 : Int32)), (.ref b5), (.ref b5), (.ref b2), (.ref b2)])) _
    exact k
  obtain ⟨cl25, Ar25, qk25, Sz25, Nn25, Hs25, Gs25⟩ := id V22
  obtain ⟨T26, h26, X26, e26, W26, st26⟩ := stC X22 hx hZ e22 Ar25 (j := (4 : Int32)) (inb_of Sz25 ⟨(by decide : ¬ ((4 : Int32) < (0 : Int32))), (by decide : (4 : Int32) < (5 : Int32))⟩) (g := (mkF m 148 #[.val (.int (5 : Int32)), .val (.int x0), .val (.int x1), .val (.int x2), .val (.int x3), .val (.int x4)] [(.int x4), (.int (4 : Int32)), (.ref b5), (.ref b5), (.ref b2), (.ref b2)])) rfl rfl (hb hby dm2_148)
  have N26 := Fr.snoc X26 N22 g_b5
  have V26 : Arv Z h26 b5 k5_ .char (5 : Int32) [(.int x0), (.int x1), (.int x2), (.int x3), (.int (nar .char x4))] (.int (0 : Int32)) := Arv.set Ar25 qk25 Sz25 Nn25 Hs25 Gs25 (fits_nar_char _) W26 4 rfl (Nat.le_of_ble_eq_true rfl)
  have k26 : ∀ t, Steps p.tables e below (T26.setTop (mkF m 149 #[.val (.int (5 : Int32)), .val (.int x0), .val (.int x1), .val (.int x2), .val (.int x3), .val (.int x4)] [(.ref b5), (.ref b2), (.ref b2)])) t → Steps p.tables e below (s₁.setTop (entryFrame m #[(.int (5 : Int32)), (.int x0), (.int x1), (.int x2), (.int x3), (.int x4)] 6)) t := fun t k => k24 t (st26 _ k)
  have Z27 : n0 ≤ h26.size := Nat.le_trans Z23 (Keep.of_wr W26).1
  rw [own_narc hx4] at V26
  have hpp : ∀ c ∈ ([x0, x1, x2, x3, x4] : List Int32), ¬ c < (0 : Int32) ∧ ¬ (255 : Int32) < c := by
    intro c hc
    simp only [List.mem_cons, List.not_mem_nil, or_false] at hc
    rcases hc with rfl | rfl | rfl | rfl | rfl
    · exact hx0
    · exact hx1
    · exact hx2
    · exact hx3
    · exact hx4
  have f28 := ((((((A2.ext E5).wr W10).wr W14).wr W18).wr W22).wr W26)
  have f29 := ((((((F2_value.ext E5).other W10 (Or.inl ne_b2_b5)).other W14 (Or.inl ne_b2_b5)).other W18 (Or.inl ne_b2_b5)).other W22 (Or.inl ne_b2_b5)).other W26 (Or.inl ne_b2_b5))
  have f30 := ((((((F2_coder.ext E5).other W10 (Or.inl ne_b2_b5)).other W14 (Or.inl ne_b2_b5)).other W18 (Or.inl ne_b2_b5)).other W22 (Or.inl ne_b2_b5)).other W26 (Or.inl ne_b2_b5))
  have od31 : Old Z n0 h26 := (((((((XO.ext E2).ext E5).wr W10 g_b5).wr W14 g_b5).wr W18 g_b5).wr W22 g_b5).wr W26 g_b5)
  obtain ⟨_, _, ⟨T32, L32, ck32, nk32⟩, -, X32, ⟨Lc32, hQ32, l32, y32, z32⟩, st32⟩ := X26.specialBack hx (y := (⟨"java/lang/String", "<init>", "([C)V"⟩ : MethodName)) rfl hown (mvT hZ (hw _ (List.mem_of_getElem? (i := 8) rfl))) (mvT hZ (hw _ (List.mem_of_getElem? (i := 9) rfl))) (mvT hZ (hw _ (List.mem_of_getElem? (i := 10) rfl))) (by decide) (StrChars.Road.backV (W := 1) hZ (fun d hd => hw d (own_wNew d hd)) (kI := 4) (hw _ (List.mem_of_getElem? (i := 5) rfl)) (cs := ([x0, x1, x2, x3, x4] : List Int32)) (bs := ([x0, x1, x2, x3, x4] : List Int32).map (fun c => c.toInt8.toInt32)) (n := 5) g_b2 Z27 f28 f29 f30 V26 (S1.ext od31.2) hcs rfl rfl (by decide) (by decide) hpp rfl (by decide) (by decide)) (g := (mkF m 149 #[.val (.int (5 : Int32)), .val (.int x0), .val (.int x1), .val (.int x2), .val (.int x3), .val (.int x4)] [(.ref b5), (.ref b2), (.ref b2)])) rfl (by rw [hml]; rfl) (Steps.refl _) (a := b2) (argsL := [(.ref b5)]) (rest := [(.ref b2)]) (lenOf pd_2 rfl) rfl (by show 2 * 0 + _ ≤ _; exact Nat.le_of_eq rfl) (hb hby dm2_149) (fun _ _ => ⟨rfl, e26, (by decide : 2 + 1 ≤ _), (by decide : 9 + 5 ≤ _)⟩)
  dsimp only [Pt.U, Pt.locs, Pt.cells, Pt.slots] at X32 l32 y32 z32 st32 hQ32
  subst l32 y32 z32
  obtain ⟨rfl, N32q, K32, EE32, FC32, t32, kb32, ht132, ht232, ht332, FV32, VA32⟩ := hQ32
  have N32 := Fr.app N26 N32q
  have k32 : ∀ t, Steps p.tables e below (T32.setTop (mkF m 152 #[.val (.int (5 : Int32)), .val (.int x0), .val (.int x1), .val (.int x2), .val (.int x3), .val (.int x4)] [(.ref b2)])) t → Steps p.tables e below (s₁.setTop (entryFrame m #[(.int (5 : Int32)), (.int x0), (.int x1), (.int x2), (.int x3), (.int x4)] 6)) t := fun t k => k26 t (st32.trans k)
  have Z33 : n0 ≤ T32.heap.size := Nat.le_trans Z27 K32.1
  have TS32 : own_Str Z T32.heap b2 ([x0, x1, x2, x3, x4] : List Int32) := ⟨t32, kb32, EE32, FC32, FV32, VA32, hpp, Nat.le_of_ble_eq_true rfl⟩
  have kp34 : Keep h0 T32.heap [] := (((((((kp6.ext E5).wr W10 (Or.inr sz_b5)).wr W14 (Or.inr sz_b5)).wr W18 (Or.inr sz_b5)).wr W22 (Or.inr sz_b5)).wr W26 (Or.inr sz_b5)).trans K32 (allS (Or.inr sz_b2) all0))
  obtain ⟨fs, hr, hrun, hended, hW, hsame⟩ := X32.leave (v := some (.ref b2)) (fun h => by rw [Bd.returns] at h; cases h)
  refine ⟨_, _, k32 _ ?_, hrun, hended, _, _, rfl, ?_, ⟨_, rfl⟩, hW, hsame.mono (Nat.le_of_ble_eq_true rfl) (Nat.le_of_ble_eq_true rfl)⟩
  · exact retOut X32 hx Bd.returns rfl (Or.inr (Or.inr (Or.inr (Or.inr ⟨rfl, rfl, rfl⟩)))) (hb hby dm2_152) hr
  · show QMk5 Z x0 x1 x2 x3 x4 cs h0 n0 _ T32.heap _
    skip
    exact ⟨_, rfl, N32, kp34, TS32⟩
theorem ef_S4 (m : MethodId) (x0 : Addr) (x1 : Addr) (x2 : Int32) (x3 : Int32) : entryFrame m #[(.ref x0), (.ref x1), (.int x2), (.int x3), .null] 6 = mkF m 0 #[.val (.ref x0), .val (.ref x1), .val (.int x2), .val (.int x3), .val .null, .unset] [] := by first | (simp [entryFrame, mkF, argsToLocals, Value.category]; done) | rfl
def QS4 (Z : State) (ob : Addr) (q : Addr) (h0 : Heap) (n0 : Nat) (v : Option Value) (h : Heap) (L : List Loc) : Prop := v = none ∧ Fr n0 L ∧ Keep h0 h [ob] ∧ own_Str Z h ob []
set_option maxRecDepth 65536 in
set_option maxHeartbeats 40000000 in
theorem rmS4 (l : Launch) (Z : State) (a0 : Array Value) (hw : ∀ d ∈ tables_1, d.before a0 Z = true) (ws : List Jvm.Cond) (ob : Addr) (q : Addr) (h0 : Heap) (n0 : Nat) (Z0 : n0 ≤ h0.size) (EE : Exa Z h0 ob "java/lang/String") (go : n0 ≤ ob) (FV : Fld Z h0 ob "java/lang/String" "value" "[B" .null) (FC : Fld Z h0 ob "java/lang/String" "coder" "B" (.int (0 : Int32))) :
    MetFree l (⟨"java/lang/String", "<init>", "([CIILjava/lang/Void;)V"⟩ : MethodName) (head1 (Jvm.Cond.code (⟨"java/lang/String", "<init>", "([CIILjava/lang/Void;)V"⟩ : MethodName) jdk_42_method_149_code 6 none :: ws) ({ frames := 1, cells := 4, slots := 8, locals := 13 } : Room)) (fun A_ U => A_ = #[(.ref ob), (.ref q), (.int (0 : Int32)), (.int (0 : Int32)), .null] ∧ Z.Warmed39 U.vm ∧ U.heap = h0 ∧ CHv Z own_EL U.vm h0) (fun _ _ _ _ _ => True) (fun _ U o U' => ∃ v L, o = .returned v ∧ QS4 Z ob q h0 n0 v U'.heap L ∧ CHr Z own_EL U.vm U.heap U'.vm U'.heap ∧ ReturnedEndW U o U' L ({ frames := 1, cells := 4, slots := 8, locals := 13 } : Room).cells ({ frames := 1, cells := 4, slots := 8, locals := 13 } : Room).slots) := by
  refine MetFree.of_bodySF (plainFor_of_name pn_1) hisR ?_
  intro p e s m args below meth c s₁ Bd hml0 hP hK
  obtain ⟨rfl, hZ, hh, hch0⟩ := hP
  have hx := Bd.exec
  have hby := Bd.bytes
  have hml : c.maxLocals = 6 := hml0
  have hown : s.vm.findClass "java/lang/String" = some m.cls := findClass_of_methodNamed Bd.named
  have hnm := (name_of_methodNamed Bd.named Bd.method).1
  have X0 : Stand p l e ({ frames := 1, cells := 4, slots := 8, locals := 13 } : Room) s m #[(.ref ob), (.ref q), (.int (0 : Int32)), (.int (0 : Int32)), .null] below meth c s₁ [] 0 0 := Stand.of_body Bd
  have e0 : s₁.heap = h0 := by rw [← hh, Bd.state]; rfl
  have N0 := Fr.nil n0
  have k0 : ∀ t, Steps p.tables e below (s₁.setTop (mkF m 0 #[.val (.ref ob), .val (.ref q), .val (.int (0 : Int32)), .val (.int (0 : Int32)), .val .null, .unset] [])) t → Steps p.tables e below (s₁.setTop (entryFrame m #[(.ref ob), (.ref q), (.int (0 : Int32)), (.int (0 : Int32)), .null] 6)) t := fun t k => castTop (ef_S4 m ob q ((0 : Int32)) ((0 : Int32))) k
  have k1 : ∀ t, Steps p.tables e below (s₁.setTop (mkF m 1 #[.val (.ref ob), .val (.ref q), .val (.int (0 : Int32)), .val (.int (0 : Int32)), .val .null, .unset] [(.ref ob)])) t → Steps p.tables e below (s₁.setTop (entryFrame m #[(.ref ob), (.ref q), (.int (0 : Int32)), (.int (0 : Int32)), .null] 6)) t := by
    intro t k
    refine k0 _ ?_
    show Steps p.tables e below (s₁.setTop (mkF m 0 #[.val (.ref ob), .val (.ref q), .val (.int (0 : Int32)), .val (.int (0 : Int32)), .val .null, .unset] [])) _
    refine XS.aloadN X0.here hx rfl (hb hby djdk_42_m149_0) rfl rfl ?_
    show Steps p.tables e below (s₁.setTop (mkF m 1 #[.val (.ref ob), .val (.ref q), .val (.int (0 : Int32)), .val (.int (0 : Int32)), .val .null, .unset] [(.ref ob)])) _
    exact k
  obtain ⟨T2, X2, e2, st2⟩ := initO X0 hx hZ hown (hw _ (List.mem_of_getElem? (i := 15) rfl)) (hw _ (List.mem_of_getElem? (i := 16) rfl)) (hw _ (List.mem_of_getElem? (i := 17) rfl)) e0 (g := (mkF m 1 #[.val (.ref ob), .val (.ref q), .val (.int (0 : Int32)), .val (.int (0 : Int32)), .val .null, .unset] [(.ref ob)])) rfl (by rw [hml]; rfl) rfl (hb hby djdk_42_m149_1) (by decide) (W := 0) (by show 2 * 0 + _ ≤ _; exact Nat.le_of_eq rfl) (by decide)
  have k2 : ∀ t, Steps p.tables e below (T2.setTop (mkF m 4 #[.val (.ref ob), .val (.ref q), .val (.int (0 : Int32)), .val (.int (0 : Int32)), .val .null, .unset] [])) t → Steps p.tables e below (s₁.setTop (entryFrame m #[(.ref ob), (.ref q), (.int (0 : Int32)), (.int (0 : Int32)), .null] 6)) t := fun t k => k1 t (st2 _ k)
  have k3 : ∀ t, Steps p.tables e below (T2.setTop (mkF m 9 #[.val (.ref ob), .val (.ref q), .val (.int (0 : Int32)), .val (.int (0 : Int32)), .val .null, .unset] [(.ref ob)])) t → Steps p.tables e below (s₁.setTop (entryFrame m #[(.ref ob), (.ref q), (.int (0 : Int32)), (.int (0 : Int32)), .null] 6)) t := by
    intro t k
    refine k2 _ ?_
    show Steps p.tables e below (T2.setTop (mkF m 4 #[.val (.ref ob), .val (.ref q), .val (.int (0 : Int32)), .val (.int (0 : Int32)), .val .null, .unset] [])) _
    refine XS.iloadN X2.here hx rfl (hb hby djdk_42_m149_4) rfl ?_
    show Steps p.tables e below (T2.setTop (mkF m 5 #[.val (.ref ob), .val (.ref q), .val (.int (0 : Int32)), .val (.int (0 : Int32)), .val .null, .unset] [(.int (0 : Int32))])) _
    refine XS.ifNo X2.here hx rfl (hb hby djdk_42_m149_5) rfl ((if0 _ _).trans (teq (rfl : (0 : Int32) = 0)).2) ?_
    show Steps p.tables e below (T2.setTop (mkF m 8 #[.val (.ref ob), .val (.ref q), .val (.int (0 : Int32)), .val (.int (0 : Int32)), .val .null, .unset] [])) _
    refine XS.aloadN X2.here hx rfl (hb hby djdk_42_m149_8) rfl rfl ?_
    show Steps p.tables e below (T2.setTop (mkF m 9 #[.val (.ref ob), .val (.ref q), .val (.int (0 : Int32)), .val (.int (0 : Int32)), .val .null, .unset] [(.ref ob)])) _
    exact k
  obtain ⟨a4_, T4, h4, ks4, bb4, kb4, X4, e4, E4, hS4, hk4, hZ, hown, A4, Fc4, Fv4, V4, -, -, hC4, -, hsf4, st4⟩ := ldcCH (s := s) (vm0 := s.vm) X2 hx hZ hown (hw _ (List.mem_of_getElem? (i := 18) rfl)) (fun d hd => hw d (own_strAt d hd)) e2 ((State.WarmedH.refl s).since 0) (Nat.zero_le _) (own_EW hw) (List.mem_of_getElem? (i := 0) rfl) (CHr.refl hch0).1 (vs := []) (z := (0 : Int32)) (by decide +kernel) (by decide) (by decide) (g := (mkF m 9 #[.val (.ref ob), .val (.ref q), .val (.int (0 : Int32)), .val (.int (0 : Int32)), .val .null, .unset] [(.ref ob)])) rfl (hb hby djdk_42_m149_9) (n := 0) (by decide +kernel) (by decide) (by decide) (by decide)
  have k4 : ∀ t, Steps p.tables e below (T4.setTop (mkF m 11 #[.val (.ref ob), .val (.ref q), .val (.int (0 : Int32)), .val (.int (0 : Int32)), .val .null, .unset] [(.ref a4_), (.ref ob)])) t → Steps p.tables e below (s₁.setTop (entryFrame m #[(.ref ob), (.ref q), (.int (0 : Int32)), (.int (0 : Int32)), .null] 6)) t := fun t k => k3 t (st4 _ k)
  have Z5 : n0 ≤ h4.size := Nat.le_trans Z0 E4.1
  have ch6 : CHr Z own_EL s.vm h0 T4.vm h4 := (CHr.refl hch0).trans hC4
  have f7 := (EE.ext E4)
  have f8 := (FV.ext E4)
  have sf1 : Safe Z own_EL T4.vm h4 ob := own_safe hw hZ.alike f7 f8
  have ne1 := hsf4 ob sf1
  obtain ⟨T9, X9, e9, st9⟩ := getF X4 hx hZ hown (host := "") (Or.inl (hw _ (List.mem_of_getElem? (i := 24) rfl))) Via.refl e4 Fv4 (g := (mkF m 11 #[.val (.ref ob), .val (.ref q), .val (.int (0 : Int32)), .val (.int (0 : Int32)), .val .null, .unset] [(.ref a4_), (.ref ob)])) rfl rfl (hb hby djdk_42_m149_11)
  have k9 : ∀ t, Steps p.tables e below (T9.setTop (mkF m 14 #[.val (.ref ob), .val (.ref q), .val (.int (0 : Int32)), .val (.int (0 : Int32)), .val .null, .unset] [(.ref bb4), (.ref ob)])) t → Steps p.tables e below (s₁.setTop (entryFrame m #[(.ref ob), (.ref q), (.int (0 : Int32)), (.int (0 : Int32)), .null] 6)) t := fun t k => k4 t (st9 _ k)
  obtain ⟨T10, h10, X10, e10, W10, st10⟩ := putF X9 hx hZ hown (host := "") (Or.inl (hw _ (List.mem_of_getElem? (i := 24) rfl))) Via.refl e9 f8 f7 (Or.inr ⟨(hw _ (List.mem_of_getElem? (i := 20) rfl)), rfl, hnm⟩) (hw _ (List.mem_of_getElem? (i := 5) rfl)) (ty := (.array .byte)) (by decide) rfl rfl (g := (mkF m 14 #[.val (.ref ob), .val (.ref q), .val (.int (0 : Int32)), .val (.int (0 : Int32)), .val .null, .unset] [(.ref bb4), (.ref ob)])) rfl rfl (hb hby djdk_42_m149_14)
  have N10 := Fr.snoc X10 N0 go
  have Fw10 := f8.same W10
  have k10 : ∀ t, Steps p.tables e below (T10.setTop (mkF m 17 #[.val (.ref ob), .val (.ref q), .val (.int (0 : Int32)), .val (.int (0 : Int32)), .val .null, .unset] [])) t → Steps p.tables e below (s₁.setTop (entryFrame m #[(.ref ob), (.ref q), (.int (0 : Int32)), (.int (0 : Int32)), .null] 6)) t := fun t k => k9 t (st10 _ k)
  have Z11 : n0 ≤ h10.size := Nat.le_trans Z5 (Keep.of_wr W10).1
  have zk11 : ks4 ≤ h10.size := Nat.le_trans hk4 (Keep.of_wr W10).1
  have ch12 : CHr Z own_EL s.vm h0 T4.vm h10 := ch6.trans (CHr.wr W10 sf1 ch6.1)
  have sf2 : Safe Z own_EL T4.vm h10 ob := Safe.wr W10 sf1 ch6.1 sf1
  have f13 := (f7.wr W10)
  have lt2 := f13.lt
  have k14 : ∀ t, Steps p.tables e below (T10.setTop (mkF m 18 #[.val (.ref ob), .val (.ref q), .val (.int (0 : Int32)), .val (.int (0 : Int32)), .val .null, .unset] [(.ref ob)])) t → Steps p.tables e below (s₁.setTop (entryFrame m #[(.ref ob), (.ref q), (.int (0 : Int32)), (.int (0 : Int32)), .null] 6)) t := by
    intro t k
    refine k10 _ ?_
    show Steps p.tables e below (T10.setTop (mkF m 17 #[.val (.ref ob), .val (.ref q), .val (.int (0 : Int32)), .val (.int (0 : Int32)), .val .null, .unset] [])) _
    refine XS.aloadN X10.here hx rfl (hb hby djdk_42_m149_17) rfl rfl ?_
    show Steps p.tables e below (T10.setTop (mkF m 18 #[.val (.ref ob), .val (.ref q), .val (.int (0 : Int32)), .val (.int (0 : Int32)), .val .null, .unset] [(.ref ob)])) _
    exact k
  obtain ⟨a15_, T15, h15, ks15, bb15, kb15, X15, e15, E15, hS15, hk15, hZ, hown, A15, Fc15, Fv15, V15, -, -, hC15, -, hsf15, st15⟩ := ldcCH (s := s) (vm0 := T4.vm) X10 hx hZ hown (hw _ (List.mem_of_getElem? (i := 18) rfl)) (fun d hd => hw d (own_strAt d hd)) e10 hS4 zk11 (own_EW hw) (List.mem_of_getElem? (i := 0) rfl) ch12.1 (vs := []) (z := (0 : Int32)) (by decide +kernel) (by decide) (by decide) (g := (mkF m 18 #[.val (.ref ob), .val (.ref q), .val (.int (0 : Int32)), .val (.int (0 : Int32)), .val .null, .unset] [(.ref ob)])) rfl (hb hby djdk_42_m149_18) (n := 0) (by decide +kernel) (by decide) (by decide) (by decide)
  have k15 : ∀ t, Steps p.tables e below (T15.setTop (mkF m 20 #[.val (.ref ob), .val (.ref q), .val (.int (0 : Int32)), .val (.int (0 : Int32)), .val .null, .unset] [(.ref a15_), (.ref ob)])) t → Steps p.tables e below (s₁.setTop (entryFrame m #[(.ref ob), (.ref q), (.int (0 : Int32)), (.int (0 : Int32)), .null] 6)) t := fun t k => k14 t (st15 _ k)
  have Z16 : n0 ≤ h15.size := Nat.le_trans Z11 E15.1
  have ch17 : CHr Z own_EL s.vm h0 T15.vm h15 := ch12.trans hC15
  have sf3 := CHr.safe hC15 lt2 sf2
  have ne3 := hsf15 ob sf3
  obtain ⟨T18, X18, e18, st18⟩ := getF X15 hx hZ hown (host := "") (Or.inl (hw _ (List.mem_of_getElem? (i := 25) rfl))) Via.refl e15 Fc15 (g := (mkF m 20 #[.val (.ref ob), .val (.ref q), .val (.int (0 : Int32)), .val (.int (0 : Int32)), .val .null, .unset] [(.ref a15_), (.ref ob)])) rfl rfl (hb hby djdk_42_m149_20)
  have k18 : ∀ t, Steps p.tables e below (T18.setTop (mkF m 23 #[.val (.ref ob), .val (.ref q), .val (.int (0 : Int32)), .val (.int (0 : Int32)), .val .null, .unset] [(.int (0 : Int32)), (.ref ob)])) t → Steps p.tables e below (s₁.setTop (entryFrame m #[(.ref ob), (.ref q), (.int (0 : Int32)), (.int (0 : Int32)), .null] 6)) t := fun t k => k15 t (st18 _ k)
  have f20 := (((FC.ext E4).other W10 (Or.inr (slot_ne (Or.inr (hw _ (List.mem_of_getElem? (i := 21) rfl))) (Or.inr (hw _ (List.mem_of_getElem? (i := 20) rfl))) (by decide) (t := .byte) (t' := (.array .byte)) (by decide) (by decide)))).ext E15)
  have f21 := (f13.ext E15)
  obtain ⟨T19, h19, X19, e19, W19, st19⟩ := putFN X18 hx hZ hown (hw _ (List.mem_of_getElem? (i := 25) rfl)) Via.refl e18 f20 f21 (Or.inr ⟨(hw _ (List.mem_of_getElem? (i := 21) rfl)), rfl, hnm⟩) (hw _ (List.mem_of_getElem? (i := 5) rfl)) (ty := .byte) (v' := (.int (nar .byte (0 : Int32)))) (by decide) rfl (fits_nar_byte _) (g := (mkF m 23 #[.val (.ref ob), .val (.ref q), .val (.int (0 : Int32)), .val (.int (0 : Int32)), .val .null, .unset] [(.int (0 : Int32)), (.ref ob)])) rfl rfl (hb hby djdk_42_m149_23)
  have N19 := Fr.snoc X19 N10 go
  have Fw19 := f20.same W19
  have k19 : ∀ t, Steps p.tables e below (T19.setTop (mkF m 26 #[.val (.ref ob), .val (.ref q), .val (.int (0 : Int32)), .val (.int (0 : Int32)), .val .null, .unset] [])) t → Steps p.tables e below (s₁.setTop (entryFrame m #[(.ref ob), (.ref q), (.int (0 : Int32)), (.int (0 : Int32)), .null] 6)) t := fun t k => k18 t (st19 _ k)
  have Z22 : n0 ≤ h19.size := Nat.le_trans Z16 (Keep.of_wr W19).1
  have zk22 : ks15 ≤ h19.size := Nat.le_trans hk15 (Keep.of_wr W19).1
  have ch23 : CHr Z own_EL s.vm h0 T15.vm h19 := ch17.trans (CHr.wr W19 sf3 ch17.1)
  have kp24 : Keep h0 h19 [ob] := (((((Keep.refl h0 [ob]).ext E4).wr W10 (Or.inl (List.mem_of_getElem? (i := 0) rfl))).ext E15).wr W19 (Or.inl (List.mem_of_getElem? (i := 0) rfl)))
  have f25 := (f21.wr W19)
  have f26 := ((Fw10.ext E15).other W19 (Or.inr (slot_ne (Or.inr (hw _ (List.mem_of_getElem? (i := 20) rfl))) (Or.inr (hw _ (List.mem_of_getElem? (i := 21) rfl))) (by decide) (t := (.array .byte)) (t' := .byte) (by decide) (by decide))))
  have f27 := (((V4.other W10 ne1.2.symm).ext E15).other W19 ne1.2.symm)
  obtain ⟨fs, hr, hrun, hended, hWe⟩ := Stand.leaveW (s := s) (vm₁ := T15.vm) X19 (n := ks15) hS15 (by rw [e19]; exact zk22) (v := none) (fun h => rfl)
  refine ⟨_, _, k19 _ ?_, hrun, hended, _, _, rfl, ?_, ?_, hWe.1, hWe.2.1, hWe.2.2.1, hWe.2.2.2.mono (Nat.le_of_ble_eq_true rfl) (Nat.le_of_ble_eq_true rfl)⟩
  · exact X19.returnOut hx Bd.returns (hb hby djdk_42_m149_26) hr
  · show QS4 Z ob q h0 n0 _ T19.heap _
    rw [e19]
    exact ⟨rfl, N19, kp24, ⟨bb4, kb4, f25, Fw19, f26, f27, (by simp), (by decide)⟩⟩
  · show CHr Z own_EL s.vm s.heap T19.vm T19.heap
    rw [hh, e19]
    exact ch23.trans (CHv.at (s := s) (vm0 := T15.vm) X19 hZ (own_EW hw) ch23.1)
theorem ef_S1 (m : MethodId) (x0 : Addr) (x1 : Addr) : entryFrame m #[(.ref x0), (.ref x1)] 2 = mkF m 0 #[.val (.ref x0), .val (.ref x1)] [] := by first | (simp [entryFrame, mkF, argsToLocals, Value.category]; done) | rfl
def QS1 (Z : State) (ob : Addr) (q : Addr) (kq : ClassId) (h0 : Heap) (n0 : Nat) (v : Option Value) (h : Heap) (L : List Loc) : Prop := v = none ∧ Fr n0 L ∧ Keep h0 h [ob] ∧ own_Str Z h ob []
set_option maxRecDepth 65536 in
set_option maxHeartbeats 40000000 in
theorem rmS1 (l : Launch) (Z : State) (a0 : Array Value) (hw : ∀ d ∈ tables_1, d.before a0 Z = true) (ws : List Jvm.Cond) (ob : Addr) (q : Addr) (kq : ClassId) (h0 : Heap) (n0 : Nat) (Z0 : n0 ≤ h0.size) (EE : Exa Z h0 ob "java/lang/String") (go : n0 ≤ ob) (FV : Fld Z h0 ob "java/lang/String" "value" "[B" .null) (FC : Fld Z h0 ob "java/lang/String" "coder" "B" (.int (0 : Int32))) (VQ : Arv Z h0 q kq .char (0 : Int32) [] (.int (0 : Int32))) :
    MetFree l (⟨"java/lang/String", "<init>", "([C)V"⟩ : MethodName) (head1 (Jvm.Cond.code (⟨"java/lang/String", "<init>", "([C)V"⟩ : MethodName) jdk_42_method_3_code 2 none :: ws) ({ frames := 2, cells := 4, slots := 8, locals := 30 } : Room)) (fun A_ U => A_ = #[(.ref ob), (.ref q)] ∧ Z.Warmed39 U.vm ∧ U.heap = h0 ∧ CHv Z own_EL U.vm h0) (fun _ _ _ _ _ => True) (fun _ U o U' => ∃ v L, o = .returned v ∧ QS1 Z ob q kq h0 n0 v U'.heap L ∧ CHr Z own_EL U.vm U.heap U'.vm U'.heap ∧ ReturnedEndW U o U' L ({ frames := 2, cells := 4, slots := 8, locals := 30 } : Room).cells ({ frames := 2, cells := 4, slots := 8, locals := 30 } : Room).slots) := by
  refine MetFree.of_bodySF (plainFor_of_name pn_1) hisR ?_
  intro p e s m args below meth c s₁ Bd hml0 hP hK
  obtain ⟨rfl, hZ, hh, hch0⟩ := hP
  have hx := Bd.exec
  have hby := Bd.bytes
  have hml : c.maxLocals = 2 := hml0
  have hown : s.vm.findClass "java/lang/String" = some m.cls := findClass_of_methodNamed Bd.named
  have hnm := (name_of_methodNamed Bd.named Bd.method).1
  have X0 : Stand p l e ({ frames := 2, cells := 4, slots := 8, locals := 30 } : Room) s m #[(.ref ob), (.ref q)] below meth c s₁ [] 0 0 := Stand.of_body Bd
  have e0 : s₁.heap = h0 := by rw [← hh, Bd.state]; rfl
  have N0 := Fr.nil n0
  have k0 : ∀ t, Steps p.tables e below (s₁.setTop (mkF m 0 #[.val (.ref ob), .val (.ref q)] [])) t → Steps p.tables e below (s₁.setTop (entryFrame m #[(.ref ob), (.ref q)] 2)) t := fun t k => castTop (ef_S1 m ob q) k
  obtain ⟨cl1, Ar1, qk1, Sz1, Nn1, Hs1, Gs1⟩ := id VQ
  have k2 : ∀ t, Steps p.tables e below (s₁.setTop (mkF m 6 #[.val (.ref ob), .val (.ref q)] [.null, (.int (0 : Int32)), (.int (0 : Int32)), (.ref q), (.ref ob)])) t → Steps p.tables e below (s₁.setTop (entryFrame m #[(.ref ob), (.ref q)] 2)) t := by
    intro t k
    refine k0 _ ?_
    show Steps p.tables e below (s₁.setTop (mkF m 0 #[.val (.ref ob), .val (.ref q)] [])) _
    refine XS.aloadN X0.here hx rfl (hb hby djdk_42_m3_0) rfl rfl ?_
    show Steps p.tables e below (s₁.setTop (mkF m 1 #[.val (.ref ob), .val (.ref q)] [(.ref ob)])) _
    refine XS.aloadN X0.here hx rfl (hb hby djdk_42_m3_1) rfl rfl ?_
    show Steps p.tables e below (s₁.setTop (mkF m 2 #[.val (.ref ob), .val (.ref q)] [(.ref q), (.ref ob)])) _
    refine XS.iconst X0.here hx rfl (hb hby djdk_42_m3_2) ?_
    show Steps p.tables e below (s₁.setTop (mkF m 3 #[.val (.ref ob), .val (.ref q)] [(.int (0 : Int32)), (.ref q), (.ref ob)])) _
    refine XS.aloadN X0.here hx rfl (hb hby djdk_42_m3_3) rfl rfl ?_
    show Steps p.tables e below (s₁.setTop (mkF m 4 #[.val (.ref ob), .val (.ref q)] [(.ref q), (.int (0 : Int32)), (.ref q), (.ref ob)])) _
    refine X0.arraylength hx (by rw [e0]; exact Ar1.1) (State.isArrayOf_alike hZ.alike Ar1.2.1) (g := (mkF m 4 #[.val (.ref ob), .val (.ref q)] [(.ref q), (.int (0 : Int32)), (.ref q), (.ref ob)])) rfl rfl (hb hby djdk_42_m3_4) _ ?_
    rw [len_of Sz1 Nn1]
    show Steps p.tables e below (s₁.setTop (mkF m 5 #[.val (.ref ob), .val (.ref q)] [(.int (0 : Int32)), (.int (0 : Int32)), (.ref q), (.ref ob)])) _
    refine XS.aconstNull X0.here hx rfl (hb hby djdk_42_m3_5) ?_
    show Steps p.tables e below (s₁.setTop (mkF m 6 #[.val (.ref ob), .val (.ref q)] [.null, (.int (0 : Int32)), (.int (0 : Int32)), (.ref q), (.ref ob)])) _
    exact k
  obtain ⟨_, _, ⟨T3, L3, ck3, nk3⟩, -, X3, hS3, gr3, ⟨Lc3, hQ3, l3, y3, z3, hC3⟩, st3⟩ := Stand.specialBackS (s := s.setVm s.vm) X0 hx (y := (⟨"java/lang/String", "<init>", "([CIILjava/lang/Void;)V"⟩ : MethodName)) rfl hown (mvT hZ (hw _ (List.mem_of_getElem? (i := 11) rfl))) (mvT hZ (hw _ (List.mem_of_getElem? (i := 12) rfl))) (mvT hZ (hw _ (List.mem_of_getElem? (i := 14) rfl))) (by decide) (backOfSH (s := s) (W := 0) (rmS4 l Z a0 hw [] ob q h0 n0 Z0 EE go FV FC) hZ (hw _ (List.mem_of_getElem? (i := 14) rfl)) (hw _ (List.mem_of_getElem? (i := 6) rfl)) (by decide) (by decide) (own_EW hw) (CHr.refl hch0).1) (g := (mkF m 6 #[.val (.ref ob), .val (.ref q)] [.null, (.int (0 : Int32)), (.int (0 : Int32)), (.ref q), (.ref ob)])) rfl (by rw [hml]; rfl) (Steps.refl _) (a := ob) (argsL := [(.ref q), (.int (0 : Int32)), (.int (0 : Int32)), .null]) (rest := []) (lenOf pd_3 rfl) rfl (by show 2 * 0 + _ ≤ _; exact Nat.le_of_eq rfl) (hb hby djdk_42_m3_6) (fun _ _ => ⟨rfl, e0, (by decide : 0 + 4 ≤ _), (by decide : 0 + 8 ≤ _)⟩)
  dsimp only [Pt.U, Pt.locs, Pt.cells, Pt.slots] at X3 l3 y3 z3 st3 hQ3 hS3 gr3 hC3
  subst l3 y3 z3
  obtain ⟨rfl, N3q, K3, TS3⟩ := hQ3
  have N3 := Fr.app N0 N3q
  obtain ⟨X3, hSn3, hZ, hown⟩ := rebS (s := s) (vm0 := s.vm) (vm1 := T3.vm) ((State.WarmedH.refl s).since 0) (by rw [e0]; exact (Nat.zero_le _)) X3 hS3 gr3 hZ hown
  have k3 : ∀ t, Steps p.tables e below (T3.setTop (mkF m 9 #[.val (.ref ob), .val (.ref q)] [])) t → Steps p.tables e below (s₁.setTop (entryFrame m #[(.ref ob), (.ref q)] 2)) t := fun t k => k2 t (st3.trans k)
  have Z4 : n0 ≤ T3.heap.size := Nat.le_trans Z0 K3.1
  have ch5 : CHr Z own_EL s.vm h0 T3.vm T3.heap := (CHr.refl hch0).trans hC3
  have kp6 : Keep h0 T3.heap [ob] := ((Keep.refl h0 [ob]).trans K3 (allS (Or.inl (List.mem_of_getElem? (i := 0) rfl)) all0))
  obtain ⟨fs, hr, hrun, hended, hWe⟩ := Stand.leaveW (s := s) (vm₁ := T3.vm) X3 (n := T3.heap.size) hSn3 (Nat.le_refl _) (v := none) (fun h => rfl)
  refine ⟨_, _, k3 _ ?_, hrun, hended, _, _, rfl, ?_, ?_, hWe.1, hWe.2.1, hWe.2.2.1, hWe.2.2.2.mono (Nat.le_of_ble_eq_true rfl) (Nat.le_of_ble_eq_true rfl)⟩
  · exact X3.returnOut hx Bd.returns (hb hby djdk_42_m3_9) hr
  · show QS1 Z ob q kq h0 n0 _ T3.heap _
    skip
    exact ⟨rfl, N3, kp6, TS3⟩
  · show CHr Z own_EL s.vm s.heap T3.vm T3.heap
    rw [hh]
    exact ch5.trans (CHv.at (s := s) (vm0 := T3.vm) X3 hZ (own_EW hw) ch5.1)
theorem ef_Mk0 (m : MethodId) (x0 : Int32) (x1 : Int32) (x2 : Int32) (x3 : Int32) (x4 : Int32) (x5 : Int32) : entryFrame m #[(.int x0), (.int x1), (.int x2), (.int x3), (.int x4), (.int x5)] 6 = mkF m 0 #[.val (.int x0), .val (.int x1), .val (.int x2), .val (.int x3), .val (.int x4), .val (.int x5)] [] := by first | (simp [entryFrame, mkF, argsToLocals, Value.category]; done) | rfl
def QMk0 (Z : State) (x0 : Int32) (x1 : Int32) (x2 : Int32) (x3 : Int32) (x4 : Int32) (h0 : Heap) (n0 : Nat) (v : Option Value) (h : Heap) (L : List Loc) : Prop := ∃ r, v = some (.ref r) ∧ Fr n0 L ∧ Keep h0 h [] ∧ own_Str Z h r []
set_option maxRecDepth 65536 in
set_option maxHeartbeats 40000000 in
theorem rmMk0 (l : Launch) (Z : State) (a0 : Array Value) (hw : ∀ d ∈ tables_1, d.before a0 Z = true) (ws : List Jvm.Cond) (x0 : Int32) (x1 : Int32) (x2 : Int32) (x3 : Int32) (x4 : Int32) (h0 : Heap) (n0 : Nat) (Z0 : n0 ≤ h0.size)  :
    MetFree l (⟨"com/example/nogood/nogood/problem/InstanceFormatNamedPinLaw", "make", "(ICCCCC)Ljava/lang/String;"⟩ : MethodName) (head1 (Jvm.Cond.code (⟨"com/example/nogood/nogood/problem/InstanceFormatNamedPinLaw", "make", "(ICCCCC)Ljava/lang/String;"⟩ : MethodName) method_2_code 6 (some (.object "java/lang/String")) :: ws) ({ frames := 3, cells := 6, slots := 12, locals := 44 } : Room)) (fun A_ U => A_ = #[(.int (0 : Int32)), (.int x0), (.int x1), (.int x2), (.int x3), (.int x4)] ∧ Z.Warmed39 U.vm ∧ U.heap = h0 ∧ CHv Z own_EL U.vm h0) (fun _ _ _ _ _ => True) (fun _ U o U' => ∃ v L, o = .returned v ∧ QMk0 Z x0 x1 x2 x3 x4 h0 n0 v U'.heap L ∧ CHr Z own_EL U.vm U.heap U'.vm U'.heap ∧ ReturnedEndW U o U' L ({ frames := 3, cells := 6, slots := 12, locals := 44 } : Room).cells ({ frames := 3, cells := 6, slots := 12, locals := 44 } : Room).slots) := by
  refine MetFree.of_bodySF (plainFor_of_name pn_2) hisR ?_
  intro p e s m args below meth c s₁ Bd hml0 hP hK
  obtain ⟨rfl, hZ, hh, hch0⟩ := hP
  have hx := Bd.exec
  have hby := Bd.bytes
  have hml : c.maxLocals = 6 := hml0
  have hown : s.vm.findClass "com/example/nogood/nogood/problem/InstanceFormatNamedPinLaw" = some m.cls := findClass_of_methodNamed Bd.named
  have hnm := (name_of_methodNamed Bd.named Bd.method).1
  have X0 : Stand p l e ({ frames := 3, cells := 6, slots := 12, locals := 44 } : Room) s m #[(.int (0 : Int32)), (.int x0), (.int x1), (.int x2), (.int x3), (.int x4)] below meth c s₁ [] 0 0 := Stand.of_body Bd
  have e0 : s₁.heap = h0 := by rw [← hh, Bd.state]; rfl
  have N0 := Fr.nil n0
  have k0 : ∀ t, Steps p.tables e below (s₁.setTop (mkF m 0 #[.val (.int (0 : Int32)), .val (.int x0), .val (.int x1), .val (.int x2), .val (.int x3), .val (.int x4)] [])) t → Steps p.tables e below (s₁.setTop (entryFrame m #[(.int (0 : Int32)), (.int x0), (.int x1), (.int x2), (.int x3), (.int x4)] 6)) t := fun t k => castTop (ef_Mk0 m ((0 : Int32)) x0 x1 x2 x3 x4) k
  have k1 : ∀ t, Steps p.tables e below (s₁.setTop (mkF m 4 #[.val (.int (0 : Int32)), .val (.int x0), .val (.int x1), .val (.int x2), .val (.int x3), .val (.int x4)] [])) t → Steps p.tables e below (s₁.setTop (entryFrame m #[(.int (0 : Int32)), (.int x0), (.int x1), (.int x2), (.int x3), (.int x4)] 6)) t := by
    intro t k
    refine k0 _ ?_
    show Steps p.tables e below (s₁.setTop (mkF m 0 #[.val (.int (0 : Int32)), .val (.int x0), .val (.int x1), .val (.int x2), .val (.int x3), .val (.int x4)] [])) _
    refine XS.iloadN X0.here hx rfl (hb hby dm2_0) rfl ?_
    show Steps p.tables e below (s₁.setTop (mkF m 1 #[.val (.int (0 : Int32)), .val (.int x0), .val (.int x1), .val (.int x2), .val (.int x3), .val (.int x4)] [(.int (0 : Int32))])) _
    refine XS.ifNo X0.here hx rfl (hb hby dm2_1) rfl ((if0 _ _).trans (teq (rfl : (0 : Int32) = 0)).2) ?_
    show Steps p.tables e below (s₁.setTop (mkF m 4 #[.val (.int (0 : Int32)), .val (.int x0), .val (.int x1), .val (.int x2), .val (.int x3), .val (.int x4)] [])) _
    exact k
  obtain ⟨T2, h2, X2, e2, E2, A2, D2, -, st2⟩ := newO X0 hx hZ hown (hw _ (List.mem_of_getElem? (i := 4) rfl)) (hw _ (List.mem_of_getElem? (i := 5) rfl)) (hw _ (List.mem_of_getElem? (i := 6) rfl)) e0 (g := (mkF m 4 #[.val (.int (0 : Int32)), .val (.int x0), .val (.int x1), .val (.int x2), .val (.int x3), .val (.int x4)] [])) rfl (hb hby dm2_4) (by decide) (by decide)
  obtain ⟨b2, g2⟩ : ∃ z, z = h0.size := ⟨_, rfl⟩
  rw [← g2] at A2 D2 st2
  have g_b2 : n0 ≤ b2 := Nat.le_trans Z0 (Nat.le_of_eq g2.symm)
  have sz_b2 : h0.size ≤ b2 := Nat.le_trans (Keep.refl h0 []).1 (Nat.le_of_eq g2.symm)
  have F2_value : Fld Z h2 b2 "java/lang/String" "value" "[B" .null := D2 (Or.inr (hw _ (List.mem_of_getElem? (i := 20) rfl))) (ty := (.array .byte)) (by decide)
  have F2_coder : Fld Z h2 b2 "java/lang/String" "coder" "B" (.int (0 : Int32)) := D2 (Or.inr (hw _ (List.mem_of_getElem? (i := 21) rfl))) (ty := .byte) (by decide)
  have k2 : ∀ t, Steps p.tables e below (T2.setTop (mkF m 7 #[.val (.int (0 : Int32)), .val (.int x0), .val (.int x1), .val (.int x2), .val (.int x3), .val (.int x4)] [(.ref b2)])) t → Steps p.tables e below (s₁.setTop (entryFrame m #[(.int (0 : Int32)), (.int x0), (.int x1), (.int x2), (.int x3), (.int x4)] 6)) t := fun t k => k1 t (st2 _ k)
  have Z3 : n0 ≤ h2.size := Nat.le_trans Z0 E2.1
  have ch4 : CHr Z own_EL s.vm h0 s.vm h2 := (CHr.refl hch0).trans (CHr.ext E2 (CHr.refl hch0).1)
  have k5 : ∀ t, Steps p.tables e below (T2.setTop (mkF m 9 #[.val (.int (0 : Int32)), .val (.int x0), .val (.int x1), .val (.int x2), .val (.int x3), .val (.int x4)] [(.int (0 : Int32)), (.ref b2), (.ref b2)])) t → Steps p.tables e below (s₁.setTop (entryFrame m #[(.int (0 : Int32)), (.int x0), (.int x1), (.int x2), (.int x3), (.int x4)] 6)) t := by
    intro t k
    refine k2 _ ?_
    show Steps p.tables e below (T2.setTop (mkF m 7 #[.val (.int (0 : Int32)), .val (.int x0), .val (.int x1), .val (.int x2), .val (.int x3), .val (.int x4)] [(.ref b2)])) _
    refine XS.dup X2.here hx rfl (hb hby dm2_7) rfl rfl ?_
    show Steps p.tables e below (T2.setTop (mkF m 8 #[.val (.int (0 : Int32)), .val (.int x0), .val (.int x1), .val (.int x2), .val (.int x3), .val (.int x4)] [(.ref b2), (.ref b2)])) _
    refine XS.iconst X2.here hx rfl (hb hby dm2_8) ?_
    show Steps p.tables e below (T2.setTop (mkF m 9 #[.val (.int (0 : Int32)), .val (.int x0), .val (.int x1), .val (.int x2), .val (.int x3), .val (.int x4)] [(.int (0 : Int32)), (.ref b2), (.ref b2)])) _
    exact k
  have kp7 : Keep h0 h2 [] := ((Keep.refl h0 []).ext E2)
  obtain ⟨T6, h6, k6_, X6, e6, E6, A6, st6⟩ := newP X2 hx hZ (hw _ (List.mem_of_getElem? (i := 7) rfl)) e2 (g := (mkF m 9 #[.val (.int (0 : Int32)), .val (.int x0), .val (.int x1), .val (.int x2), .val (.int x3), .val (.int x4)] [(.int (0 : Int32)), (.ref b2), (.ref b2)])) rfl (hb hby dm2_9) rfl (by decide : ¬ ((0 : Int32) < (0 : Int32))) (cap := 0) (by decide : (0 : Int32).toNatClampNeg ≤ 0) (by decide) (by decide) (by decide)
  obtain ⟨b6, g6⟩ : ∃ z, z = h2.size := ⟨_, rfl⟩
  rw [← g6] at A6 st6
  have ne_b2_b6 : b2 ≠ b6 := Nat.ne_of_lt (Nat.lt_of_lt_of_eq A2.lt g6.symm)
  have g_b6 : n0 ≤ b6 := Nat.le_trans Z3 (Nat.le_of_eq g6.symm)
  have sz_b6 : h0.size ≤ b6 := Nat.le_trans kp7.1 (Nat.le_of_eq g6.symm)
  have V6 : Arv Z h6 b6 k6_ .char (0 : Int32) [] (.int (0 : Int32)) := (Arv.new A6 (by decide : ¬ ((0 : Int32) < (0 : Int32)))).pad (pad_rep [] (.int (0 : Int32)) 0)
  have k6 : ∀ t, Steps p.tables e below (T6.setTop (mkF m 11 #[.val (.int (0 : Int32)), .val (.int x0), .val (.int x1), .val (.int x2), .val (.int x3), .val (.int x4)] [(.ref b6), (.ref b2), (.ref b2)])) t → Steps p.tables e below (s₁.setTop (entryFrame m #[(.int (0 : Int32)), (.int x0), (.int x1), (.int x2), (.int x3), (.int x4)] 6)) t := fun t k => k5 t (st6 _ k)
  have Z8 : n0 ≤ h6.size := Nat.le_trans Z3 E6.1
  have ch9 : CHr Z own_EL s.vm h0 s.vm h6 := ch4.trans (CHr.ext E6 ch4.1)
  have f10 := (A2.ext E6)
  have f11 := (F2_value.ext E6)
  have f12 := (F2_coder.ext E6)
  obtain ⟨_, _, ⟨T13, L13, ck13, nk13⟩, -, X13, hS13, gr13, ⟨Lc13, hQ13, l13, y13, z13, hC13⟩, st13⟩ := Stand.specialBackS (s := s.setVm s.vm) X6 hx (y := (⟨"java/lang/String", "<init>", "([C)V"⟩ : MethodName)) rfl hown (mvT hZ (hw _ (List.mem_of_getElem? (i := 8) rfl))) (mvT hZ (hw _ (List.mem_of_getElem? (i := 9) rfl))) (mvT hZ (hw _ (List.mem_of_getElem? (i := 10) rfl))) (by decide) (backOfSH (s := s) (W := 1) (rmS1 l Z a0 hw [] b2 b6 k6_ h6 n0 Z8 f10 g_b2 f11 f12 V6) hZ (hw _ (List.mem_of_getElem? (i := 10) rfl)) (hw _ (List.mem_of_getElem? (i := 6) rfl)) (by decide) (by decide) (own_EW hw) ch9.1) (g := (mkF m 11 #[.val (.int (0 : Int32)), .val (.int x0), .val (.int x1), .val (.int x2), .val (.int x3), .val (.int x4)] [(.ref b6), (.ref b2), (.ref b2)])) rfl (by rw [hml]; rfl) (Steps.refl _) (a := b2) (argsL := [(.ref b6)]) (rest := [(.ref b2)]) (lenOf pd_2 rfl) rfl (by show 2 * 0 + _ ≤ _; exact Nat.le_of_eq rfl) (hb hby dm2_11) (fun _ _ => ⟨rfl, e6, (by decide : 2 + 4 ≤ _), (by decide : 4 + 8 ≤ _)⟩)
  dsimp only [Pt.U, Pt.locs, Pt.cells, Pt.slots] at X13 l13 y13 z13 st13 hQ13 hS13 gr13 hC13
  subst l13 y13 z13
  obtain ⟨rfl, N13q, K13, TS13⟩ := hQ13
  have N13 := Fr.app N0 N13q
  obtain ⟨X13, hSn13, hZ, hown⟩ := rebS (s := s) (vm0 := s.vm) (vm1 := T13.vm) ((State.WarmedH.refl s).since 0) (by rw [e6]; exact (Nat.zero_le _)) X13 hS13 gr13 hZ hown
  have k13 : ∀ t, Steps p.tables e below (T13.setTop (mkF m 14 #[.val (.int (0 : Int32)), .val (.int x0), .val (.int x1), .val (.int x2), .val (.int x3), .val (.int x4)] [(.ref b2)])) t → Steps p.tables e below (s₁.setTop (entryFrame m #[(.int (0 : Int32)), (.int x0), (.int x1), (.int x2), (.int x3), (.int x4)] 6)) t := fun t k => k6 t (st13.trans k)
  have Z14 : n0 ≤ T13.heap.size := Nat.le_trans Z8 K13.1
  have ch15 : CHr Z own_EL s.vm h0 T13.vm T13.heap := ch9.trans hC13
  have kp16 : Keep h0 T13.heap [] := ((kp7.ext E6).trans K13 (allS (Or.inr sz_b2) all0))
  obtain ⟨fs, hr, hrun, hended, hWe⟩ := Stand.leaveW (s := s) (vm₁ := T13.vm) X13 (n := T13.heap.size) hSn13 (Nat.le_refl _) (v := some (.ref b2)) (fun h => by rw [Bd.returns] at h; cases h)
  refine ⟨_, _, k13 _ ?_, hrun, hended, _, _, rfl, ?_, ?_, hWe.1, hWe.2.1, hWe.2.2.1, hWe.2.2.2.mono (Nat.le_of_ble_eq_true rfl) (Nat.le_of_ble_eq_true rfl)⟩
  · exact retOut X13 hx Bd.returns rfl (Or.inr (Or.inr (Or.inr (Or.inr ⟨rfl, rfl, rfl⟩)))) (hb hby dm2_14) hr
  · show QMk0 Z x0 x1 x2 x3 x4 h0 n0 _ T13.heap _
    skip
    exact ⟨_, rfl, N13, kp16, TS13⟩
  · show CHr Z own_EL s.vm s.heap T13.vm T13.heap
    rw [hh]
    exact ch15.trans (CHv.at (s := s) (vm0 := T13.vm) X13 hZ (own_EW hw) ch15.1)
theorem ef_0 (m : MethodId) (x0 : Int32) (x1 : Int32) (x2 : Int32) (x3 : Int32) (x4 : Int32) (x5 : Int32) : entryFrame m #[(.int x0), (.int x1), (.int x2), (.int x3), (.int x4), (.int x5)] maxLocals = mkF m 0 #[.val (.int x0), .val (.int x1), .val (.int x2), .val (.int x3), .val (.int x4), .val (.int x5), .unset, .unset, .unset, .unset, .unset, .unset, .unset, .unset, .unset, .unset, .unset, .unset, .unset, .unset] [] := by first | (simp [entryFrame, mkF, argsToLocals, Value.category, maxLocals]; done) | rfl
def Q0 (Z : State) (p1 : Int32) (p2 : Int32) (p3 : Int32) (p4 : Int32) (p5 : Int32) (p6 : Int32) (va : Addr) (kv : ClassId) (aD : Addr) (aI : Addr) (kD : Addr) (kI : Addr) (cs : Int32) (vF : Value) (h0 : Heap) (n0 : Nat) (v : Option Value) (h : Heap) (L : List Loc) : Prop := v = some (.int 1) ∧ Fr n0 L
set_option maxRecDepth 65536 in
set_option maxHeartbeats 40000000 in
theorem rm0 (l : Launch) (Z : State) (a0 : Array Value) (hw : ∀ d ∈ tables_1, d.before a0 Z = true) (ws : List Jvm.Cond) (p1 : Int32) (p2 : Int32) (p3 : Int32) (p4 : Int32) (p5 : Int32) (p6 : Int32) (va : Addr) (kv : ClassId) (aD : Addr) (aI : Addr) (kD : Addr) (kI : Addr) (cs : Int32) (vF : Value) (h0 : Heap) (n0 : Nat) (Z0 : n0 ≤ h0.size) (S_V : Sta Z Z.heap "com/example/nogood/nogood/problem/InstanceFormat" "$VALUES" "[Lcom/example/nogood/nogood/problem/InstanceFormat;" (.ref va)) (VV : Arv Z Z.heap va kv (.object "com/example/nogood/nogood/problem/InstanceFormat") (2 : Int32) [.ref aD, .ref aI] .null) (EV : Exa Z Z.heap va "[Lcom/example/nogood/nogood/problem/InstanceFormat;") (XO : Old Z n0 h0) (FD : Fld Z Z.heap aD "com/example/nogood/nogood/problem/InstanceFormat" "keyword" "Ljava/lang/String;" (.ref kD)) (FI : Fld Z Z.heap aI "com/example/nogood/nogood/problem/InstanceFormat" "keyword" "Ljava/lang/String;" (.ref kI)) (TD : own_Str Z Z.heap kD [(100 : Int32), (99 : Int32), (115 : Int32), (112 : Int32)]) (TI : own_Str Z Z.heap kI [(101 : Int32), (100 : Int32), (103 : Int32), (101 : Int32)]) (S1 : Sta Z Z.heap "java/lang/String" "COMPACT_STRINGS" "Z" (.int cs)) (hcs : ¬ cs = (0 : Int32)) (S2 : Sta Z Z.heap "jdk/internal/util/Preconditions" "SIOOBE_FORMATTER" "Ljava/util/function/BiFunction;" vF) (rF : vF.isRef = true) (S_D : Sta Z Z.heap "com/example/nogood/nogood/problem/InstanceFormat" "DCSP" "Lcom/example/nogood/nogood/problem/InstanceFormat;" (.ref aD)) (S_I : Sta Z Z.heap "com/example/nogood/nogood/problem/InstanceFormat" "DIMACS" "Lcom/example/nogood/nogood/problem/InstanceFormat;" (.ref aI)) :
    MetFree l x (head1 (Jvm.Cond.code x code maxLocals ret :: ws) room_1) (fun A_ U => A_ = #[(.int p1), (.int p2), (.int p3), (.int p4), (.int p5), (.int p6)] ∧ Z.Warmed39 U.vm ∧ U.heap = h0 ∧ CHv Z own_EL U.vm h0) (fun _ _ _ _ _ => True) (fun _ U o U' => ∃ v L, o = .returned v ∧ Q0 Z p1 p2 p3 p4 p5 p6 va kv aD aI kD kI cs vF h0 n0 v U'.heap L ∧ ReturnedEndW U o U' L 24 1152) := by
  refine MetFree.of_bodySF (plainFor_of_name pn_2) hisR ?_
  intro p e s m args below meth c s₁ Bd hml0 hP hK
  obtain ⟨rfl, hZ, hh, hch0⟩ := hP
  have hx := Bd.exec
  have hby := Bd.bytes
  have hml : c.maxLocals = 20 := hml0
  have hown : s.vm.findClass "com/example/nogood/nogood/problem/InstanceFormatNamedPinLaw" = some m.cls := findClass_of_methodNamed Bd.named
  have hnm := (name_of_methodNamed Bd.named Bd.method).1
  have X0 : Stand p l e room_1 s m #[(.int p1), (.int p2), (.int p3), (.int p4), (.int p5), (.int p6)] below meth c s₁ [] 0 0 := Stand.of_body Bd
  have e0 : s₁.heap = h0 := by rw [← hh, Bd.state]; rfl
  have N0 := Fr.nil n0
  have k0 : ∀ t, Steps p.tables e below (s₁.setTop (mkF m 0 #[.val (.int p1), .val (.int p2), .val (.int p3), .val (.int p4), .val (.int p5), .val (.int p6), .unset, .unset, .unset, .unset, .unset, .unset, .unset, .unset, .unset, .unset, .unset, .unset, .unset, .unset] [])) t → Steps p.tables e below (s₁.setTop (entryFrame m #[(.int p1), (.int p2), (.int p3), (.int p4), (.int p5), (.int p6)] maxLocals)) t := fun t k => castTop (ef_0 m p1 p2 p3 p4 p5 p6) k
  refine Classical.byContradiction fun hG => ?_
  have k1 : ∀ t, Steps p.tables e below (s₁.setTop (mkF m 5 #[.val (.int p1), .val (.int p2), .val (.int p3), .val (.int p4), .val (.int p5), .val (.int p6), .val (.int (p1 &&& (3 : Int32))), .unset, .unset, .unset, .unset, .unset, .unset, .unset, .unset, .unset, .unset, .unset, .unset, .unset] [])) t → Steps p.tables e below (s₁.setTop (entryFrame m #[(.int p1), (.int p2), (.int p3), (.int p4), (.int p5), (.int p6)] maxLocals)) t := by
    intro t k
    refine k0 _ ?_
    show Steps p.tables e below (s₁.setTop (mkF m 0 #[.val (.int p1), .val (.int p2), .val (.int p3), .val (.int p4), .val (.int p5), .val (.int p6), .unset, .unset, .unset, .unset, .unset, .unset, .unset, .unset, .unset, .unset, .unset, .unset, .unset, .unset] [])) _
    refine XS.iloadN X0.here hx rfl (hb hby at_0) rfl ?_
    show Steps p.tables e below (s₁.setTop (mkF m 1 #[.val (.int p1), .val (.int p2), .val (.int p3), .val (.int p4), .val (.int p5), .val (.int p6), .unset, .unset, .unset, .unset, .unset, .unset, .unset, .unset, .unset, .unset, .unset, .unset, .unset, .unset] [(.int p1)])) _
    refine XS.iconst X0.here hx rfl (hb hby at_1) ?_
    show Steps p.tables e below (s₁.setTop (mkF m 2 #[.val (.int p1), .val (.int p2), .val (.int p3), .val (.int p4), .val (.int p5), .val (.int p6), .unset, .unset, .unset, .unset, .unset, .unset, .unset, .unset, .unset, .unset, .unset, .unset, .unset, .unset] [(.int (3 : Int32)), (.int p1)])) _
    refine XS.iand X0.here hx rfl (hb hby at_2) rfl ?_
    show Steps p.tables e below (s₁.setTop (mkF m 3 #[.val (.int p1), .val (.int p2), .val (.int p3), .val (.int p4), .val (.int p5), .val (.int p6), .unset, .unset, .unset, .unset, .unset, .unset, .unset, .unset, .unset, .unset, .unset, .unset, .unset, .unset] [(.int (p1 &&& (3 : Int32)))])) _
    refine XS.istore X0.here hx rfl (hb hby at_3) rfl (l' := #[.val (.int p1), .val (.int p2), .val (.int p3), .val (.int p4), .val (.int p5), .val (.int p6), .val (.int (p1 &&& (3 : Int32))), .unset, .unset, .unset, .unset, .unset, .unset, .unset, .unset, .unset, .unset, .unset, .unset, .unset]) rfl ?_
    show Steps p.tables e below (s₁.setTop (mkF m 5 #[.val (.int p1), .val (.int p2), .val (.int p3), .val (.int p4), .val (.int p5), .val (.int p6), .val (.int (p1 &&& (3 : Int32))), .unset, .unset, .unset, .unset, .unset, .unset, .unset, .unset, .unset, .unset, .unset, .unset, .unset] [])) _
    exact k
  obtain ⟨kd, eq_kd⟩ : ∃ z : Int32, z = (p1 &&& (3 : Int32)) := ⟨_, rfl⟩
  rw [← eq_kd] at k1
  have k2 : ∀ t, Steps p.tables e below (s₁.setTop (mkF m 12 #[.val (.int p1), .val (.int p2), .val (.int p3), .val (.int p4), .val (.int p5), .val (.int p6), .val (.int kd), .val (.int (((p1.toUInt32 >>> ((2 : Int32) &&& 31).toUInt32).toInt32) &&& (3 : Int32))), .unset, .unset, .unset, .unset, .unset, .unset, .unset, .unset, .unset, .unset, .unset, .unset] [])) t → Steps p.tables e below (s₁.setTop (entryFrame m #[(.int p1), (.int p2), (.int p3), (.int p4), (.int p5), (.int p6)] maxLocals)) t := by
    intro t k
    refine k1 _ ?_
    show Steps p.tables e below (s₁.setTop (mkF m 5 #[.val (.int p1), .val (.int p2), .val (.int p3), .val (.int p4), .val (.int p5), .val (.int p6), .val (.int kd), .unset, .unset, .unset, .unset, .unset, .unset, .unset, .unset, .unset, .unset, .unset, .unset, .unset] [])) _
    refine XS.iloadN X0.here hx rfl (hb hby at_5) rfl ?_
    show Steps p.tables e below (s₁.setTop (mkF m 6 #[.val (.int p1), .val (.int p2), .val (.int p3), .val (.int p4), .val (.int p5), .val (.int p6), .val (.int kd), .unset, .unset, .unset, .unset, .unset, .unset, .unset, .unset, .unset, .unset, .unset, .unset, .unset] [(.int p1)])) _
    refine XS.iconst X0.here hx rfl (hb hby at_6) ?_
    show Steps p.tables e below (s₁.setTop (mkF m 7 #[.val (.int p1), .val (.int p2), .val (.int p3), .val (.int p4), .val (.int p5), .val (.int p6), .val (.int kd), .unset, .unset, .unset, .unset, .unset, .unset, .unset, .unset, .unset, .unset, .unset, .unset, .unset] [(.int (2 : Int32)), (.int p1)])) _
    refine XS.iushr X0.here hx rfl (hb hby at_7) rfl ?_
    show Steps p.tables e below (s₁.setTop (mkF m 8 #[.val (.int p1), .val (.int p2), .val (.int p3), .val (.int p4), .val (.int p5), .val (.int p6), .val (.int kd), .unset, .unset, .unset, .unset, .unset, .unset, .unset, .unset, .unset, .unset, .unset, .unset, .unset] [(.int ((p1.toUInt32 >>> ((2 : Int32) &&& 31).toUInt32).toInt32))])) _
    refine XS.iconst X0.here hx rfl (hb hby at_8) ?_
    show Steps p.tables e below (s₁.setTop (mkF m 9 #[.val (.int p1), .val (.int p2), .val (.int p3), .val (.int p4), .val (.int p5), .val (.int p6), .val (.int kd), .unset, .unset, .unset, .unset, .unset, .unset, .unset, .unset, .unset, .unset, .unset, .unset, .unset] [(.int (3 : Int32)), (.int ((p1.toUInt32 >>> ((2 : Int32) &&& 31).toUInt32).toInt32))])) _
    refine XS.iand X0.here hx rfl (hb hby at_9) rfl ?_
    show Steps p.tables e below (s₁.setTop (mkF m 10 #[.val (.int p1), .val (.int p2), .val (.int p3), .val (.int p4), .val (.int p5), .val (.int p6), .val (.int kd), .unset, .unset, .unset, .unset, .unset, .unset, .unset, .unset, .unset, .unset, .unset, .unset, .unset] [(.int (((p1.toUInt32 >>> ((2 : Int32) &&& 31).toUInt32).toInt32) &&& (3 : Int32)))])) _
    refine XS.istore X0.here hx rfl (hb hby at_10) rfl (l' := #[.val (.int p1), .val (.int p2), .val (.int p3), .val (.int p4), .val (.int p5), .val (.int p6), .val (.int kd), .val (.int (((p1.toUInt32 >>> ((2 : Int32) &&& 31).toUInt32).toInt32) &&& (3 : Int32))), .unset, .unset, .unset, .unset, .unset, .unset, .unset, .unset, .unset, .unset, .unset, .unset]) rfl ?_
    show Steps p.tables e below (s₁.setTop (mkF m 12 #[.val (.int p1), .val (.int p2), .val (.int p3), .val (.int p4), .val (.int p5), .val (.int p6), .val (.int kd), .val (.int (((p1.toUInt32 >>> ((2 : Int32) &&& 31).toUInt32).toInt32) &&& (3 : Int32))), .unset, .unset, .unset, .unset, .unset, .unset, .unset, .unset, .unset, .unset, .unset, .unset] [])) _
    exact k
  obtain ⟨ps, eq_ps⟩ : ∃ z : Int32, z = (((p1.toUInt32 >>> ((2 : Int32) &&& 31).toUInt32).toInt32) &&& (3 : Int32)) := ⟨_, rfl⟩
  rw [← eq_ps] at k2
  obtain ⟨mu, eq_mu⟩ : ∃ z : Int32, z = (if (((p1.toUInt32 >>> ((4 : Int32) &&& 31).toUInt32).toInt32) &&& (1 : Int32)) = (0 : Int32) then (0 : Int32) else (1 : Int32)) := ⟨_, rfl⟩
  have k4 : ∀ t, Steps p.tables e below (s₁.setTop (mkF m 25 #[.val (.int p1), .val (.int p2), .val (.int p3), .val (.int p4), .val (.int p5), .val (.int p6), .val (.int kd), .val (.int ps), .unset, .unset, .unset, .unset, .unset, .unset, .unset, .unset, .unset, .unset, .unset, .unset] [(.int mu)])) t → Steps p.tables e below (s₁.setTop (entryFrame m #[(.int p1), (.int p2), (.int p3), (.int p4), (.int p5), (.int p6)] maxLocals)) t := by
    intro t k
    refine k2 _ ?_
    show Steps p.tables e below (s₁.setTop (mkF m 12 #[.val (.int p1), .val (.int p2), .val (.int p3), .val (.int p4), .val (.int p5), .val (.int p6), .val (.int kd), .val (.int ps), .unset, .unset, .unset, .unset, .unset, .unset, .unset, .unset, .unset, .unset, .unset, .unset] [])) _
    refine XS.iloadN X0.here hx rfl (hb hby at_12) rfl ?_
    show Steps p.tables e below (s₁.setTop (mkF m 13 #[.val (.int p1), .val (.int p2), .val (.int p3), .val (.int p4), .val (.int p5), .val (.int p6), .val (.int kd), .val (.int ps), .unset, .unset, .unset, .unset, .unset, .unset, .unset, .unset, .unset, .unset, .unset, .unset] [(.int p1)])) _
    refine XS.iconst X0.here hx rfl (hb hby at_13) ?_
    show Steps p.tables e below (s₁.setTop (mkF m 14 #[.val (.int p1), .val (.int p2), .val (.int p3), .val (.int p4), .val (.int p5), .val (.int p6), .val (.int kd), .val (.int ps), .unset, .unset, .unset, .unset, .unset, .unset, .unset, .unset, .unset, .unset, .unset, .unset] [(.int (4 : Int32)), (.int p1)])) _
    refine XS.iushr X0.here hx rfl (hb hby at_14) rfl ?_
    show Steps p.tables e below (s₁.setTop (mkF m 15 #[.val (.int p1), .val (.int p2), .val (.int p3), .val (.int p4), .val (.int p5), .val (.int p6), .val (.int kd), .val (.int ps), .unset, .unset, .unset, .unset, .unset, .unset, .unset, .unset, .unset, .unset, .unset, .unset] [(.int ((p1.toUInt32 >>> ((4 : Int32) &&& 31).toUInt32).toInt32))])) _
    refine XS.iconst X0.here hx rfl (hb hby at_15) ?_
    show Steps p.tables e below (s₁.setTop (mkF m 16 #[.val (.int p1), .val (.int p2), .val (.int p3), .val (.int p4), .val (.int p5), .val (.int p6), .val (.int kd), .val (.int ps), .unset, .unset, .unset, .unset, .unset, .unset, .unset, .unset, .unset, .unset, .unset, .unset] [(.int (1 : Int32)), (.int ((p1.toUInt32 >>> ((4 : Int32) &&& 31).toUInt32).toInt32))])) _
    refine XS.iand X0.here hx rfl (hb hby at_16) rfl ?_
    show Steps p.tables e below (s₁.setTop (mkF m 17 #[.val (.int p1), .val (.int p2), .val (.int p3), .val (.int p4), .val (.int p5), .val (.int p6), .val (.int kd), .val (.int ps), .unset, .unset, .unset, .unset, .unset, .unset, .unset, .unset, .unset, .unset, .unset, .unset] [(.int (((p1.toUInt32 >>> ((4 : Int32) &&& 31).toUInt32).toInt32) &&& (1 : Int32)))])) _
    by_cases hc3_17 : (((p1.toUInt32 >>> ((4 : Int32) &&& 31).toUInt32).toInt32) &&& (1 : Int32)) = (0 : Int32)
    · rw [show mu = (0 : Int32) by rw [eq_mu, if_pos hc3_17]] at k
      show Steps p.tables e below (s₁.setTop (mkF m 17 #[.val (.int p1), .val (.int p2), .val (.int p3), .val (.int p4), .val (.int p5), .val (.int p6), .val (.int kd), .val (.int ps), .unset, .unset, .unset, .unset, .unset, .unset, .unset, .unset, .unset, .unset, .unset, .unset] [(.int (((p1.toUInt32 >>> ((4 : Int32) &&& 31).toUInt32).toInt32) &&& (1 : Int32)))])) _
      refine XS.ifYes X0.here hx rfl (pc0 := 17) (pc' := 24) rfl (hb hby at_17) rfl ((if0 _ _).trans (teq hc3_17).1) (by decide) (by decide) ?_
      show Steps p.tables e below (s₁.setTop (mkF m 24 #[.val (.int p1), .val (.int p2), .val (.int p3), .val (.int p4), .val (.int p5), .val (.int p6), .val (.int kd), .val (.int ps), .unset, .unset, .unset, .unset, .unset, .unset, .unset, .unset, .unset, .unset, .unset, .unset] [])) _
      refine XS.iconst X0.here hx rfl (hb hby at_24) ?_
      show Steps p.tables e below (s₁.setTop (mkF m 25 #[.val (.int p1), .val (.int p2), .val (.int p3), .val (.int p4), .val (.int p5), .val (.int p6), .val (.int kd), .val (.int ps), .unset, .unset, .unset, .unset, .unset, .unset, .unset, .unset, .unset, .unset, .unset, .unset] [(.int (0 : Int32))])) _
      exact k
    · rw [show mu = (1 : Int32) by rw [eq_mu, if_neg hc3_17]] at k
      show Steps p.tables e below (s₁.setTop (mkF m 17 #[.val (.int p1), .val (.int p2), .val (.int p3), .val (.int p4), .val (.int p5), .val (.int p6), .val (.int kd), .val (.int ps), .unset, .unset, .unset, .unset, .unset, .unset, .unset, .unset, .unset, .unset, .unset, .unset] [(.int (((p1.toUInt32 >>> ((4 : Int32) &&& 31).toUInt32).toInt32) &&& (1 : Int32)))])) _
      refine XS.ifNo X0.here hx rfl (hb hby at_17) rfl ((if0 _ _).trans (feq hc3_17).1) ?_
      show Steps p.tables e below (s₁.setTop (mkF m 20 #[.val (.int p1), .val (.int p2), .val (.int p3), .val (.int p4), .val (.int p5), .val (.int p6), .val (.int kd), .val (.int ps), .unset, .unset, .unset, .unset, .unset, .unset, .unset, .unset, .unset, .unset, .unset, .unset] [])) _
      refine XS.iconst X0.here hx rfl (hb hby at_20) ?_
      show Steps p.tables e below (s₁.setTop (mkF m 21 #[.val (.int p1), .val (.int p2), .val (.int p3), .val (.int p4), .val (.int p5), .val (.int p6), .val (.int kd), .val (.int ps), .unset, .unset, .unset, .unset, .unset, .unset, .unset, .unset, .unset, .unset, .unset, .unset] [(.int (1 : Int32))])) _
      refine XS.goto X0.here hx rfl (pc0 := 21) (pc' := 25) rfl (hb hby at_21) (by decide) (by decide) ?_
      show Steps p.tables e below (s₁.setTop (mkF m 25 #[.val (.int p1), .val (.int p2), .val (.int p3), .val (.int p4), .val (.int p5), .val (.int p6), .val (.int kd), .val (.int ps), .unset, .unset, .unset, .unset, .unset, .unset, .unset, .unset, .unset, .unset, .unset, .unset] [(.int (1 : Int32))])) _
      exact k
  have k5 : ∀ t, Steps p.tables e below (s₁.setTop (mkF m 35 #[.val (.int p1), .val (.int p2), .val (.int p3), .val (.int p4), .val (.int p5), .val (.int p6), .val (.int kd), .val (.int ps), .val (.int mu), .val (.int ((p2 &&& (255 : Int32)).toUInt32.toUInt16.toUInt32.toInt32)), .unset, .unset, .unset, .unset, .unset, .unset, .unset, .unset, .unset, .unset] [])) t → Steps p.tables e below (s₁.setTop (entryFrame m #[(.int p1), (.int p2), (.int p3), (.int p4), (.int p5), (.int p6)] maxLocals)) t := by
    intro t k
    refine k4 _ ?_
    show Steps p.tables e below (s₁.setTop (mkF m 25 #[.val (.int p1), .val (.int p2), .val (.int p3), .val (.int p4), .val (.int p5), .val (.int p6), .val (.int kd), .val (.int ps), .unset, .unset, .unset, .unset, .unset, .unset, .unset, .unset, .unset, .unset, .unset, .unset] [(.int mu)])) _
    refine XS.istore X0.here hx rfl (hb hby at_25) rfl (l' := #[.val (.int p1), .val (.int p2), .val (.int p3), .val (.int p4), .val (.int p5), .val (.int p6), .val (.int kd), .val (.int ps), .val (.int mu), .unset, .unset, .unset, .unset, .unset, .unset, .unset, .unset, .unset, .unset, .unset]) rfl ?_
    show Steps p.tables e below (s₁.setTop (mkF m 27 #[.val (.int p1), .val (.int p2), .val (.int p3), .val (.int p4), .val (.int p5), .val (.int p6), .val (.int kd), .val (.int ps), .val (.int mu), .unset, .unset, .unset, .unset, .unset, .unset, .unset, .unset, .unset, .unset, .unset] [])) _
    refine XS.iloadN X0.here hx rfl (hb hby at_27) rfl ?_
    show Steps p.tables e below (s₁.setTop (mkF m 28 #[.val (.int p1), .val (.int p2), .val (.int p3), .val (.int p4), .val (.int p5), .val (.int p6), .val (.int kd), .val (.int ps), .val (.int mu), .unset, .unset, .unset, .unset, .unset, .unset, .unset, .unset, .unset, .unset, .unset] [(.int p2)])) _
    refine XS.sipush X0.here hx rfl (hb hby at_28) ?_
    show Steps p.tables e below (s₁.setTop (mkF m 31 #[.val (.int p1), .val (.int p2), .val (.int p3), .val (.int p4), .val (.int p5), .val (.int p6), .val (.int kd), .val (.int ps), .val (.int mu), .unset, .unset, .unset, .unset, .unset, .unset, .unset, .unset, .unset, .unset, .unset] [(.int (255 : Int32)), (.int p2)])) _
    refine XS.iand X0.here hx rfl (hb hby at_31) rfl ?_
    show Steps p.tables e below (s₁.setTop (mkF m 32 #[.val (.int p1), .val (.int p2), .val (.int p3), .val (.int p4), .val (.int p5), .val (.int p6), .val (.int kd), .val (.int ps), .val (.int mu), .unset, .unset, .unset, .unset, .unset, .unset, .unset, .unset, .unset, .unset, .unset] [(.int (p2 &&& (255 : Int32)))])) _
    refine XS.i2c X0.here hx rfl (hb hby at_32) rfl ?_
    show Steps p.tables e below (s₁.setTop (mkF m 33 #[.val (.int p1), .val (.int p2), .val (.int p3), .val (.int p4), .val (.int p5), .val (.int p6), .val (.int kd), .val (.int ps), .val (.int mu), .unset, .unset, .unset, .unset, .unset, .unset, .unset, .unset, .unset, .unset, .unset] [(.int ((p2 &&& (255 : Int32)).toUInt32.toUInt16.toUInt32.toInt32))])) _
    refine XS.istore X0.here hx rfl (hb hby at_33) rfl (l' := #[.val (.int p1), .val (.int p2), .val (.int p3), .val (.int p4), .val (.int p5), .val (.int p6), .val (.int kd), .val (.int ps), .val (.int mu), .val (.int ((p2 &&& (255 : Int32)).toUInt32.toUInt16.toUInt32.toInt32)), .unset, .unset, .unset, .unset, .unset, .unset, .unset, .unset, .unset, .unset]) rfl ?_
    show Steps p.tables e below (s₁.setTop (mkF m 35 #[.val (.int p1), .val (.int p2), .val (.int p3), .val (.int p4), .val (.int p5), .val (.int p6), .val (.int kd), .val (.int ps), .val (.int mu), .val (.int ((p2 &&& (255 : Int32)).toUInt32.toUInt16.toUInt32.toInt32)), .unset, .unset, .unset, .unset, .unset, .unset, .unset, .unset, .unset, .unset] [])) _
    exact k
  obtain ⟨x0, eq_x0⟩ : ∃ z : Int32, z = ((p2 &&& (255 : Int32)).toUInt32.toUInt16.toUInt32.toInt32) := ⟨_, rfl⟩
  rw [← eq_x0] at k5
  have hx0 : ¬ x0 < (0 : Int32) ∧ ¬ (255 : Int32) < x0 := by rw [eq_x0, own_i2c]; exact own_255 p2
  have k6 : ∀ t, Steps p.tables e below (s₁.setTop (mkF m 43 #[.val (.int p1), .val (.int p2), .val (.int p3), .val (.int p4), .val (.int p5), .val (.int p6), .val (.int kd), .val (.int ps), .val (.int mu), .val (.int x0), .val (.int ((p3 &&& (255 : Int32)).toUInt32.toUInt16.toUInt32.toInt32)), .unset, .unset, .unset, .unset, .unset, .unset, .unset, .unset, .unset] [])) t → Steps p.tables e below (s₁.setTop (entryFrame m #[(.int p1), (.int p2), (.int p3), (.int p4), (.int p5), (.int p6)] maxLocals)) t := by
    intro t k
    refine k5 _ ?_
    show Steps p.tables e below (s₁.setTop (mkF m 35 #[.val (.int p1), .val (.int p2), .val (.int p3), .val (.int p4), .val (.int p5), .val (.int p6), .val (.int kd), .val (.int ps), .val (.int mu), .val (.int x0), .unset, .unset, .unset, .unset, .unset, .unset, .unset, .unset, .unset, .unset] [])) _
    refine XS.iloadN X0.here hx rfl (hb hby at_35) rfl ?_
    show Steps p.tables e below (s₁.setTop (mkF m 36 #[.val (.int p1), .val (.int p2), .val (.int p3), .val (.int p4), .val (.int p5), .val (.int p6), .val (.int kd), .val (.int ps), .val (.int mu), .val (.int x0), .unset, .unset, .unset, .unset, .unset, .unset, .unset, .unset, .unset, .unset] [(.int p3)])) _
    refine XS.sipush X0.here hx rfl (hb hby at_36) ?_
    show Steps p.tables e below (s₁.setTop (mkF m 39 #[.val (.int p1), .val (.int p2), .val (.int p3), .val (.int p4), .val (.int p5), .val (.int p6), .val (.int kd), .val (.int ps), .val (.int mu), .val (.int x0), .unset, .unset, .unset, .unset, .unset, .unset, .unset, .unset, .unset, .unset] [(.int (255 : Int32)), (.int p3)])) _
    refine XS.iand X0.here hx rfl (hb hby at_39) rfl ?_
    show Steps p.tables e below (s₁.setTop (mkF m 40 #[.val (.int p1), .val (.int p2), .val (.int p3), .val (.int p4), .val (.int p5), .val (.int p6), .val (.int kd), .val (.int ps), .val (.int mu), .val (.int x0), .unset, .unset, .unset, .unset, .unset, .unset, .unset, .unset, .unset, .unset] [(.int (p3 &&& (255 : Int32)))])) _
    refine XS.i2c X0.here hx rfl (hb hby at_40) rfl ?_
    show Steps p.tables e below (s₁.setTop (mkF m 41 #[.val (.int p1), .val (.int p2), .val (.int p3), .val (.int p4), .val (.int p5), .val (.int p6), .val (.int kd), .val (.int ps), .val (.int mu), .val (.int x0), .unset, .unset, .unset, .unset, .unset, .unset, .unset, .unset, .unset, .unset] [(.int ((p3 &&& (255 : Int32)).toUInt32.toUInt16.toUInt32.toInt32))])) _
    refine XS.istore X0.here hx rfl (hb hby at_41) rfl (l' := #[.val (.int p1), .val (.int p2), .val (.int p3), .val (.int p4), .val (.int p5), .val (.int p6), .val (.int kd), .val (.int ps), .val (.int mu), .val (.int x0), .val (.int ((p3 &&& (255 : Int32)).toUInt32.toUInt16.toUInt32.toInt32)), .unset, .unset, .unset, .unset, .unset, .unset, .unset, .unset, .unset]) rfl ?_
    show Steps p.tables e below (s₁.setTop (mkF m 43 #[.val (.int p1), .val (.int p2), .val (.int p3), .val (.int p4), .val (.int p5), .val (.int p6), .val (.int kd), .val (.int ps), .val (.int mu), .val (.int x0), .val (.int ((p3 &&& (255 : Int32)).toUInt32.toUInt16.toUInt32.toInt32)), .unset, .unset, .unset, .unset, .unset, .unset, .unset, .unset, .unset] [])) _
    exact k
  obtain ⟨x1, eq_x1⟩ : ∃ z : Int32, z = ((p3 &&& (255 : Int32)).toUInt32.toUInt16.toUInt32.toInt32) := ⟨_, rfl⟩
  rw [← eq_x1] at k6
  have hx1 : ¬ x1 < (0 : Int32) ∧ ¬ (255 : Int32) < x1 := by rw [eq_x1, own_i2c]; exact own_255 p3
  have k7 : ∀ t, Steps p.tables e below (s₁.setTop (mkF m 51 #[.val (.int p1), .val (.int p2), .val (.int p3), .val (.int p4), .val (.int p5), .val (.int p6), .val (.int kd), .val (.int ps), .val (.int mu), .val (.int x0), .val (.int x1), .val (.int ((p4 &&& (255 : Int32)).toUInt32.toUInt16.toUInt32.toInt32)), .unset, .unset, .unset, .unset, .unset, .unset, .unset, .unset] [])) t → Steps p.tables e below (s₁.setTop (entryFrame m #[(.int p1), (.int p2), (.int p3), (.int p4), (.int p5), (.int p6)] maxLocals)) t := by
    intro t k
    refine k6 _ ?_
    show Steps p.tables e below (s₁.setTop (mkF m 43 #[.val (.int p1), .val (.int p2), .val (.int p3), .val (.int p4), .val (.int p5), .val (.int p6), .val (.int kd), .val (.int ps), .val (.int mu), .val (.int x0), .val (.int x1), .unset, .unset, .unset, .unset, .unset, .unset, .unset, .unset, .unset] [])) _
    refine XS.iloadN X0.here hx rfl (hb hby at_43) rfl ?_
    show Steps p.tables e below (s₁.setTop (mkF m 44 #[.val (.int p1), .val (.int p2), .val (.int p3), .val (.int p4), .val (.int p5), .val (.int p6), .val (.int kd), .val (.int ps), .val (.int mu), .val (.int x0), .val (.int x1), .unset, .unset, .unset, .unset, .unset, .unset, .unset, .unset, .unset] [(.int p4)])) _
    refine XS.sipush X0.here hx rfl (hb hby at_44) ?_
    show Steps p.tables e below (s₁.setTop (mkF m 47 #[.val (.int p1), .val (.int p2), .val (.int p3), .val (.int p4), .val (.int p5), .val (.int p6), .val (.int kd), .val (.int ps), .val (.int mu), .val (.int x0), .val (.int x1), .unset, .unset, .unset, .unset, .unset, .unset, .unset, .unset, .unset] [(.int (255 : Int32)), (.int p4)])) _
    refine XS.iand X0.here hx rfl (hb hby at_47) rfl ?_
    show Steps p.tables e below (s₁.setTop (mkF m 48 #[.val (.int p1), .val (.int p2), .val (.int p3), .val (.int p4), .val (.int p5), .val (.int p6), .val (.int kd), .val (.int ps), .val (.int mu), .val (.int x0), .val (.int x1), .unset, .unset, .unset, .unset, .unset, .unset, .unset, .unset, .unset] [(.int (p4 &&& (255 : Int32)))])) _
    refine XS.i2c X0.here hx rfl (hb hby at_48) rfl ?_
    show Steps p.tables e below (s₁.setTop (mkF m 49 #[.val (.int p1), .val (.int p2), .val (.int p3), .val (.int p4), .val (.int p5), .val (.int p6), .val (.int kd), .val (.int ps), .val (.int mu), .val (.int x0), .val (.int x1), .unset, .unset, .unset, .unset, .unset, .unset, .unset, .unset, .unset] [(.int ((p4 &&& (255 : Int32)).toUInt32.toUInt16.toUInt32.toInt32))])) _
    refine XS.istore X0.here hx rfl (hb hby at_49) rfl (l' := #[.val (.int p1), .val (.int p2), .val (.int p3), .val (.int p4), .val (.int p5), .val (.int p6), .val (.int kd), .val (.int ps), .val (.int mu), .val (.int x0), .val (.int x1), .val (.int ((p4 &&& (255 : Int32)).toUInt32.toUInt16.toUInt32.toInt32)), .unset, .unset, .unset, .unset, .unset, .unset, .unset, .unset]) rfl ?_
    show Steps p.tables e below (s₁.setTop (mkF m 51 #[.val (.int p1), .val (.int p2), .val (.int p3), .val (.int p4), .val (.int p5), .val (.int p6), .val (.int kd), .val (.int ps), .val (.int mu), .val (.int x0), .val (.int x1), .val (.int ((p4 &&& (255 : Int32)).toUInt32.toUInt16.toUInt32.toInt32)), .unset, .unset, .unset, .unset, .unset, .unset, .unset, .unset] [])) _
    exact k
  obtain ⟨x2, eq_x2⟩ : ∃ z : Int32, z = ((p4 &&& (255 : Int32)).toUInt32.toUInt16.toUInt32.toInt32) := ⟨_, rfl⟩
  rw [← eq_x2] at k7
  have hx2 : ¬ x2 < (0 : Int32) ∧ ¬ (255 : Int32) < x2 := by rw [eq_x2, own_i2c]; exact own_255 p4
  have k8 : ∀ t, Steps p.tables e below (s₁.setTop (mkF m 60 #[.val (.int p1), .val (.int p2), .val (.int p3), .val (.int p4), .val (.int p5), .val (.int p6), .val (.int kd), .val (.int ps), .val (.int mu), .val (.int x0), .val (.int x1), .val (.int x2), .val (.int ((p5 &&& (255 : Int32)).toUInt32.toUInt16.toUInt32.toInt32)), .unset, .unset, .unset, .unset, .unset, .unset, .unset] [])) t → Steps p.tables e below (s₁.setTop (entryFrame m #[(.int p1), (.int p2), (.int p3), (.int p4), (.int p5), (.int p6)] maxLocals)) t := by
    intro t k
    refine k7 _ ?_
    show Steps p.tables e below (s₁.setTop (mkF m 51 #[.val (.int p1), .val (.int p2), .val (.int p3), .val (.int p4), .val (.int p5), .val (.int p6), .val (.int kd), .val (.int ps), .val (.int mu), .val (.int x0), .val (.int x1), .val (.int x2), .unset, .unset, .unset, .unset, .unset, .unset, .unset, .unset] [])) _
    refine XS.iload X0.here hx rfl (hb hby at_51) rfl ?_
    show Steps p.tables e below (s₁.setTop (mkF m 53 #[.val (.int p1), .val (.int p2), .val (.int p3), .val (.int p4), .val (.int p5), .val (.int p6), .val (.int kd), .val (.int ps), .val (.int mu), .val (.int x0), .val (.int x1), .val (.int x2), .unset, .unset, .unset, .unset, .unset, .unset, .unset, .unset] [(.int p5)])) _
    refine XS.sipush X0.here hx rfl (hb hby at_53) ?_
    show Steps p.tables e below (s₁.setTop (mkF m 56 #[.val (.int p1), .val (.int p2), .val (.int p3), .val (.int p4), .val (.int p5), .val (.int p6), .val (.int kd), .val (.int ps), .val (.int mu), .val (.int x0), .val (.int x1), .val (.int x2), .unset, .unset, .unset, .unset, .unset, .unset, .unset, .unset] [(.int (255 : Int32)), (.int p5)])) _
    refine XS.iand X0.here hx rfl (hb hby at_56) rfl ?_
    show Steps p.tables e below (s₁.setTop (mkF m 57 #[.val (.int p1), .val (.int p2), .val (.int p3), .val (.int p4), .val (.int p5), .val (.int p6), .val (.int kd), .val (.int ps), .val (.int mu), .val (.int x0), .val (.int x1), .val (.int x2), .unset, .unset, .unset, .unset, .unset, .unset, .unset, .unset] [(.int (p5 &&& (255 : Int32)))])) _
    refine XS.i2c X0.here hx rfl (hb hby at_57) rfl ?_
    show Steps p.tables e below (s₁.setTop (mkF m 58 #[.val (.int p1), .val (.int p2), .val (.int p3), .val (.int p4), .val (.int p5), .val (.int p6), .val (.int kd), .val (.int ps), .val (.int mu), .val (.int x0), .val (.int x1), .val (.int x2), .unset, .unset, .unset, .unset, .unset, .unset, .unset, .unset] [(.int ((p5 &&& (255 : Int32)).toUInt32.toUInt16.toUInt32.toInt32))])) _
    refine XS.istore X0.here hx rfl (hb hby at_58) rfl (l' := #[.val (.int p1), .val (.int p2), .val (.int p3), .val (.int p4), .val (.int p5), .val (.int p6), .val (.int kd), .val (.int ps), .val (.int mu), .val (.int x0), .val (.int x1), .val (.int x2), .val (.int ((p5 &&& (255 : Int32)).toUInt32.toUInt16.toUInt32.toInt32)), .unset, .unset, .unset, .unset, .unset, .unset, .unset]) rfl ?_
    show Steps p.tables e below (s₁.setTop (mkF m 60 #[.val (.int p1), .val (.int p2), .val (.int p3), .val (.int p4), .val (.int p5), .val (.int p6), .val (.int kd), .val (.int ps), .val (.int mu), .val (.int x0), .val (.int x1), .val (.int x2), .val (.int ((p5 &&& (255 : Int32)).toUInt32.toUInt16.toUInt32.toInt32)), .unset, .unset, .unset, .unset, .unset, .unset, .unset] [])) _
    exact k
  obtain ⟨x3, eq_x3⟩ : ∃ z : Int32, z = ((p5 &&& (255 : Int32)).toUInt32.toUInt16.toUInt32.toInt32) := ⟨_, rfl⟩
  rw [← eq_x3] at k8
  have hx3 : ¬ x3 < (0 : Int32) ∧ ¬ (255 : Int32) < x3 := by rw [eq_x3, own_i2c]; exact own_255 p5
  have k9 : ∀ t, Steps p.tables e below (s₁.setTop (mkF m 69 #[.val (.int p1), .val (.int p2), .val (.int p3), .val (.int p4), .val (.int p5), .val (.int p6), .val (.int kd), .val (.int ps), .val (.int mu), .val (.int x0), .val (.int x1), .val (.int x2), .val (.int x3), .val (.int ((p6 &&& (255 : Int32)).toUInt32.toUInt16.toUInt32.toInt32)), .unset, .unset, .unset, .unset, .unset, .unset] [])) t → Steps p.tables e below (s₁.setTop (entryFrame m #[(.int p1), (.int p2), (.int p3), (.int p4), (.int p5), (.int p6)] maxLocals)) t := by
    intro t k
    refine k8 _ ?_
    show Steps p.tables e below (s₁.setTop (mkF m 60 #[.val (.int p1), .val (.int p2), .val (.int p3), .val (.int p4), .val (.int p5), .val (.int p6), .val (.int kd), .val (.int ps), .val (.int mu), .val (.int x0), .val (.int x1), .val (.int x2), .val (.int x3), .unset, .unset, .unset, .unset, .unset, .unset, .unset] [])) _
    refine XS.iload X0.here hx rfl (hb hby at_60) rfl ?_
    show Steps p.tables e below (s₁.setTop (mkF m 62 #[.val (.int p1), .val (.int p2), .val (.int p3), .val (.int p4), .val (.int p5), .val (.int p6), .val (.int kd), .val (.int ps), .val (.int mu), .val (.int x0), .val (.int x1), .val (.int x2), .val (.int x3), .unset, .unset, .unset, .unset, .unset, .unset, .unset] [(.int p6)])) _
    refine XS.sipush X0.here hx rfl (hb hby at_62) ?_
    show Steps p.tables e below (s₁.setTop (mkF m 65 #[.val (.int p1), .val (.int p2), .val (.int p3), .val (.int p4), .val (.int p5), .val (.int p6), .val (.int kd), .val (.int ps), .val (.int mu), .val (.int x0), .val (.int x1), .val (.int x2), .val (.int x3), .unset, .unset, .unset, .unset, .unset, .unset, .unset] [(.int (255 : Int32)), (.int p6)])) _
    refine XS.iand X0.here hx rfl (hb hby at_65) rfl ?_
    show Steps p.tables e below (s₁.setTop (mkF m 66 #[.val (.int p1), .val (.int p2), .val (.int p3), .val (.int p4), .val (.int p5), .val (.int p6), .val (.int kd), .val (.int ps), .val (.int mu), .val (.int x0), .val (.int x1), .val (.int x2), .val (.int x3), .unset, .unset, .unset, .unset, .unset, .unset, .unset] [(.int (p6 &&& (255 : Int32)))])) _
    refine XS.i2c X0.here hx rfl (hb hby at_66) rfl ?_
    show Steps p.tables e below (s₁.setTop (mkF m 67 #[.val (.int p1), .val (.int p2), .val (.int p3), .val (.int p4), .val (.int p5), .val (.int p6), .val (.int kd), .val (.int ps), .val (.int mu), .val (.int x0), .val (.int x1), .val (.int x2), .val (.int x3), .unset, .unset, .unset, .unset, .unset, .unset, .unset] [(.int ((p6 &&& (255 : Int32)).toUInt32.toUInt16.toUInt32.toInt32))])) _
    refine XS.istore X0.here hx rfl (hb hby at_67) rfl (l' := #[.val (.int p1), .val (.int p2), .val (.int p3), .val (.int p4), .val (.int p5), .val (.int p6), .val (.int kd), .val (.int ps), .val (.int mu), .val (.int x0), .val (.int x1), .val (.int x2), .val (.int x3), .val (.int ((p6 &&& (255 : Int32)).toUInt32.toUInt16.toUInt32.toInt32)), .unset, .unset, .unset, .unset, .unset, .unset]) rfl ?_
    show Steps p.tables e below (s₁.setTop (mkF m 69 #[.val (.int p1), .val (.int p2), .val (.int p3), .val (.int p4), .val (.int p5), .val (.int p6), .val (.int kd), .val (.int ps), .val (.int mu), .val (.int x0), .val (.int x1), .val (.int x2), .val (.int x3), .val (.int ((p6 &&& (255 : Int32)).toUInt32.toUInt16.toUInt32.toInt32)), .unset, .unset, .unset, .unset, .unset, .unset] [])) _
    exact k
  obtain ⟨x4, eq_x4⟩ : ∃ z : Int32, z = ((p6 &&& (255 : Int32)).toUInt32.toUInt16.toUInt32.toInt32) := ⟨_, rfl⟩
  rw [← eq_x4] at k9
  have hx4 : ¬ x4 < (0 : Int32) ∧ ¬ (255 : Int32) < x4 := by rw [eq_x4, own_i2c]; exact own_255 p6
  have tail : ∀ (T : State) (lo : List Loc) (vmz : Vm) (kz : Nat) (r : Addr) (chs : List Int32) (z15 : Slot), One z15 → Stand p l e room_1 (s.setVm vmz) m #[(.int p1), (.int p2), (.int p3), (.int p4), (.int p5), (.int p6)] below meth c T lo 12 200 → s.Since vmz kz → kz ≤ T.heap.size → Z.Warmed39 (s.setVm vmz).vm → (s.setVm vmz).vm.findClass "com/example/nogood/nogood/problem/InstanceFormatNamedPinLaw" = some m.cls → Fr n0 lo → n0 ≤ T.heap.size → Old Z n0 T.heap → own_Str Z T.heap r chs → chs.length ≤ 5 → (∀ t, Steps p.tables e below (T.setTop (mkF m 205 #[.val (.int p1), .val (.int p2), .val (.int p3), .val (.int p4), .val (.int p5), .val (.int p6), .val (.int kd), .val (.int ps), .val (.int mu), .val (.int x0), .val (.int x1), .val (.int x2), .val (.int x3), .val (.int x4), .val (.ref r), z15, .unset, .unset, .unset, .unset] [])) t → Steps p.tables e below (s₁.setTop (entryFrame m #[(.int p1), (.int p2), (.int p3), (.int p4), (.int p5), (.int p6)] maxLocals)) t) → False := by
    intro T lo vmz kz r chs z15 hz15 X hS hkz hZ hown NL Zt od TS hl5 kT
    have k10 : ∀ t, Steps p.tables e below (T.setTop (mkF m 215 #[.val (.int p1), .val (.int p2), .val (.int p3), .val (.int p4), .val (.int p5), .val (.int p6), .val (.int kd), .val (.int ps), .val (.int mu), .val (.int x0), .val (.int x1), .val (.int x2), .val (.int x3), .val (.int x4), .val (.ref r), .val .null, .unset, .unset, .unset, .unset] [(.ref r)])) t → Steps p.tables e below (s₁.setTop (entryFrame m #[(.int p1), (.int p2), (.int p3), (.int p4), (.int p5), (.int p6)] maxLocals)) t := by
      intro t k
      refine kT _ ?_
      show Steps p.tables e below (T.setTop (mkF m 205 #[.val (.int p1), .val (.int p2), .val (.int p3), .val (.int p4), .val (.int p5), .val (.int p6), .val (.int kd), .val (.int ps), .val (.int mu), .val (.int x0), .val (.int x1), .val (.int x2), .val (.int x3), .val (.int x4), .val (.ref r), z15, .unset, .unset, .unset, .unset] [])) _
      refine XS.aconstNull X.here hx rfl (hb hby at_205) ?_
      show Steps p.tables e below (T.setTop (mkF m 206 #[.val (.int p1), .val (.int p2), .val (.int p3), .val (.int p4), .val (.int p5), .val (.int p6), .val (.int kd), .val (.int ps), .val (.int mu), .val (.int x0), .val (.int x1), .val (.int x2), .val (.int x3), .val (.int x4), .val (.ref r), z15, .unset, .unset, .unset, .unset] [.null])) _
      refine XS.astore X.here hx rfl (hb hby at_206) rfl rfl (l' := #[.val (.int p1), .val (.int p2), .val (.int p3), .val (.int p4), .val (.int p5), .val (.int p6), .val (.int kd), .val (.int ps), .val (.int mu), .val (.int x0), .val (.int x1), .val (.int x2), .val (.int x3), .val (.int x4), .val (.ref r), .val .null, .unset, .unset, .unset, .unset]) (os0_206 hz15) ?_
      show Steps p.tables e below (T.setTop (mkF m 208 #[.val (.int p1), .val (.int p2), .val (.int p3), .val (.int p4), .val (.int p5), .val (.int p6), .val (.int kd), .val (.int ps), .val (.int mu), .val (.int x0), .val (.int x1), .val (.int x2), .val (.int x3), .val (.int x4), .val (.ref r), .val .null, .unset, .unset, .unset, .unset] [])) _
      refine XS.aload X.here hx rfl (hb hby at_208) rfl rfl ?_
      show Steps p.tables e below (T.setTop (mkF m 210 #[.val (.int p1), .val (.int p2), .val (.int p3), .val (.int p4), .val (.int p5), .val (.int p6), .val (.int kd), .val (.int ps), .val (.int mu), .val (.int x0), .val (.int x1), .val (.int x2), .val (.int x3), .val (.int x4), .val (.ref r), .val .null, .unset, .unset, .unset, .unset] [(.ref r)])) _
      refine XS.ifnullNo X.here hx rfl (hb hby at_210) rfl ?_
      show Steps p.tables e below (T.setTop (mkF m 213 #[.val (.int p1), .val (.int p2), .val (.int p3), .val (.int p4), .val (.int p5), .val (.int p6), .val (.int kd), .val (.int ps), .val (.int mu), .val (.int x0), .val (.int x1), .val (.int x2), .val (.int x3), .val (.int x4), .val (.ref r), .val .null, .unset, .unset, .unset, .unset] [])) _
      refine XS.aload X.here hx rfl (hb hby at_213) rfl rfl ?_
      show Steps p.tables e below (T.setTop (mkF m 215 #[.val (.int p1), .val (.int p2), .val (.int p3), .val (.int p4), .val (.int p5), .val (.int p6), .val (.int kd), .val (.int ps), .val (.int mu), .val (.int x0), .val (.int x1), .val (.int x2), .val (.int x3), .val (.int x4), .val (.ref r), .val .null, .unset, .unset, .unset, .unset] [(.ref r)])) _
      exact k
    obtain ⟨cq11, kq11, q11a, q11b, q11c⟩ := isOf hZ rfl (own_Str.exa TS)
    obtain ⟨_, _, ⟨T11, L11, ck11, nk11⟩, -, X11, ⟨Lc11, hQ11, l11, y11, z11⟩, st11⟩ := X.virtualBack hx (y := (⟨"java/lang/String", "length", "()I"⟩ : MethodName)) (z := (⟨"java/lang/String", "length", "()I"⟩ : MethodName)) hown (mvT hZ (hw _ (List.mem_of_getElem? (i := 26) rfl))) (mvT hZ (hw _ (List.mem_of_getElem? (i := 27) rfl))) (notFace_of_selects (args := #[]) (mvT hZ (hw _ (List.mem_of_getElem? (i := 29) rfl)))) (mvT hZ (hw _ (List.mem_of_getElem? (i := 29) rfl))) (mvT hZ (hw _ (List.mem_of_getElem? (i := 28) rfl))) (by decide) (own_lenB (W := 0) (s := s.setVm vmz) hZ hw TS (S1.ext od.2) hcs (by decide) (by decide)) q11a q11c (g := (mkF m 215 #[.val (.int p1), .val (.int p2), .val (.int p3), .val (.int p4), .val (.int p5), .val (.int p6), .val (.int kd), .val (.int ps), .val (.int mu), .val (.int x0), .val (.int x1), .val (.int x2), .val (.int x3), .val (.int x4), .val (.ref r), .val .null, .unset, .unset, .unset, .unset] [(.ref r)])) rfl (by rw [hml]; rfl) (Steps.refl _) (argsL := []) (rest := []) (lenOf pd_4 rfl) rfl (by show 2 * 0 + _ ≤ _; exact Nat.le_of_eq rfl) (hb hby at_215) (fun _ _ => ⟨rfl, rfl, (by decide : 12 + 0 ≤ _), (by decide : 200 + 0 ≤ _)⟩)
    dsimp only [Pt.U, Pt.locs, Pt.cells, Pt.slots] at X11 l11 y11 z11 st11 hQ11
    subst l11 y11 z11
    obtain ⟨rfl, rfl, e11⟩ := hQ11
    have N11 := Fr.app NL (Fr.nil n0)
    have k11 : ∀ t, Steps p.tables e below (T11.setTop (mkF m 218 #[.val (.int p1), .val (.int p2), .val (.int p3), .val (.int p4), .val (.int p5), .val (.int p6), .val (.int kd), .val (.int ps), .val (.int mu), .val (.int x0), .val (.int x1), .val (.int x2), .val (.int x3), .val (.int x4), .val (.ref r), .val .null, .unset, .unset, .unset, .unset] [(.int (Int32.ofNat chs.length))])) t → Steps p.tables e below (s₁.setTop (entryFrame m #[(.int p1), (.int p2), (.int p3), (.int p4), (.int p5), (.int p6)] maxLocals)) t := fun t k => k10 t (st11.trans k)
    have k12 : ∀ t, Steps p.tables e below (T11.setTop (mkF m 219 #[.val (.int p1), .val (.int p2), .val (.int p3), .val (.int p4), .val (.int p5), .val (.int p6), .val (.int kd), .val (.int ps), .val (.int mu), .val (.int x0), .val (.int x1), .val (.int x2), .val (.int x3), .val (.int x4), .val (.ref r), .val .null, .unset, .unset, .unset, .unset] [(.int (4 : Int32)), (.int (Int32.ofNat chs.length))])) t → Steps p.tables e below (s₁.setTop (entryFrame m #[(.int p1), (.int p2), (.int p3), (.int p4), (.int p5), (.int p6)] maxLocals)) t := by
      intro t k
      refine k11 _ ?_
      show Steps p.tables e below (T11.setTop (mkF m 218 #[.val (.int p1), .val (.int p2), .val (.int p3), .val (.int p4), .val (.int p5), .val (.int p6), .val (.int kd), .val (.int ps), .val (.int mu), .val (.int x0), .val (.int x1), .val (.int x2), .val (.int x3), .val (.int x4), .val (.ref r), .val .null, .unset, .unset, .unset, .unset] [(.int (Int32.ofNat chs.length))])) _
      refine XS.iconst X11.here hx rfl (hb hby at_218) ?_
      show Steps p.tables e below (T11.setTop (mkF m 219 #[.val (.int p1), .val (.int p2), .val (.int p3), .val (.int p4), .val (.int p5), .val (.int p6), .val (.int kd), .val (.int ps), .val (.int mu), .val (.int x0), .val (.int x1), .val (.int x2), .val (.int x3), .val (.int x4), .val (.ref r), .val .null, .unset, .unset, .unset, .unset] [(.int (4 : Int32)), (.int (Int32.ofNat chs.length))])) _
      exact k
    by_cases hl4 : (Int32.ofNat chs.length) = (4 : Int32)
    · have k13 : ∀ t, Steps p.tables e below (T11.setTop (mkF m 222 #[.val (.int p1), .val (.int p2), .val (.int p3), .val (.int p4), .val (.int p5), .val (.int p6), .val (.int kd), .val (.int ps), .val (.int mu), .val (.int x0), .val (.int x1), .val (.int x2), .val (.int x3), .val (.int x4), .val (.ref r), .val .null, .unset, .unset, .unset, .unset] [])) t → Steps p.tables e below (s₁.setTop (entryFrame m #[(.int p1), (.int p2), (.int p3), (.int p4), (.int p5), (.int p6)] maxLocals)) t := by
        intro t k
        refine k12 _ ?_
        show Steps p.tables e below (T11.setTop (mkF m 219 #[.val (.int p1), .val (.int p2), .val (.int p3), .val (.int p4), .val (.int p5), .val (.int p6), .val (.int kd), .val (.int ps), .val (.int mu), .val (.int x0), .val (.int x1), .val (.int x2), .val (.int x3), .val (.int x4), .val (.ref r), .val .null, .unset, .unset, .unset, .unset] [(.int (4 : Int32)), (.int (Int32.ofNat chs.length))])) _
        refine XS.icmpNo X11.here hx rfl (hb hby at_219) rfl (teq hl4).2 ?_
        show Steps p.tables e below (T11.setTop (mkF m 222 #[.val (.int p1), .val (.int p2), .val (.int p3), .val (.int p4), .val (.int p5), .val (.int p6), .val (.int kd), .val (.int ps), .val (.int mu), .val (.int x0), .val (.int x1), .val (.int x2), .val (.int x3), .val (.int x4), .val (.ref r), .val .null, .unset, .unset, .unset, .unset] [])) _
        exact k
      obtain ⟨c0, c1, c2, c3, rfl⟩ := own_four ((own_ofNat4 hl5).mp hl4)
      have k14 : ∀ t, Steps p.tables e below (T11.setTop (mkF m 225 #[.val (.int p1), .val (.int p2), .val (.int p3), .val (.int p4), .val (.int p5), .val (.int p6), .val (.int kd), .val (.int ps), .val (.int mu), .val (.int x0), .val (.int x1), .val (.int x2), .val (.int x3), .val (.int x4), .val (.ref r), .val .null, .unset, .unset, .unset, .unset] [(.int (0 : Int32)), (.ref r)])) t → Steps p.tables e below (s₁.setTop (entryFrame m #[(.int p1), (.int p2), (.int p3), (.int p4), (.int p5), (.int p6)] maxLocals)) t := by
        intro t k
        refine k13 _ ?_
        show Steps p.tables e below (T11.setTop (mkF m 222 #[.val (.int p1), .val (.int p2), .val (.int p3), .val (.int p4), .val (.int p5), .val (.int p6), .val (.int kd), .val (.int ps), .val (.int mu), .val (.int x0), .val (.int x1), .val (.int x2), .val (.int x3), .val (.int x4), .val (.ref r), .val .null, .unset, .unset, .unset, .unset] [])) _
        refine XS.aload X11.here hx rfl (hb hby at_222) rfl rfl ?_
        show Steps p.tables e below (T11.setTop (mkF m 224 #[.val (.int p1), .val (.int p2), .val (.int p3), .val (.int p4), .val (.int p5), .val (.int p6), .val (.int kd), .val (.int ps), .val (.int mu), .val (.int x0), .val (.int x1), .val (.int x2), .val (.int x3), .val (.int x4), .val (.ref r), .val .null, .unset, .unset, .unset, .unset] [(.ref r)])) _
        refine XS.iconst X11.here hx rfl (hb hby at_224) ?_
        show Steps p.tables e below (T11.setTop (mkF m 225 #[.val (.int p1), .val (.int p2), .val (.int p3), .val (.int p4), .val (.int p5), .val (.int p6), .val (.int kd), .val (.int ps), .val (.int mu), .val (.int x0), .val (.int x1), .val (.int x2), .val (.int x3), .val (.int x4), .val (.ref r), .val .null, .unset, .unset, .unset, .unset] [(.int (0 : Int32)), (.ref r)])) _
        exact k
      obtain ⟨cq15, kq15, q15a, q15b, q15c⟩ := isOf hZ e11 (own_Str.exa TS)
      obtain ⟨_, _, ⟨T15, L15, ck15, nk15⟩, -, X15, ⟨Lc15, hQ15, l15, y15, z15⟩, st15⟩ := X11.virtualBack hx (y := (⟨"java/lang/String", "charAt", "(I)C"⟩ : MethodName)) (z := (⟨"java/lang/String", "charAt", "(I)C"⟩ : MethodName)) hown (mvT hZ (hw _ (List.mem_of_getElem? (i := 80) rfl))) (mvT hZ (hw _ (List.mem_of_getElem? (i := 81) rfl))) (notFace_of_selects (args := #[]) (mvT hZ (hw _ (List.mem_of_getElem? (i := 83) rfl)))) (mvT hZ (hw _ (List.mem_of_getElem? (i := 83) rfl))) (mvT hZ (hw _ (List.mem_of_getElem? (i := 82) rfl))) (by decide) (own_chB (W := 0) (s := s.setVm vmz) hZ hw TS (S1.ext od.2) hcs (S2.ext od.2) rF (i := 0) (j := (0 : Int32)) (Nat.le_of_ble_eq_true rfl) rfl (by decide) (by decide)) q15a q15c (g := (mkF m 225 #[.val (.int p1), .val (.int p2), .val (.int p3), .val (.int p4), .val (.int p5), .val (.int p6), .val (.int kd), .val (.int ps), .val (.int mu), .val (.int x0), .val (.int x1), .val (.int x2), .val (.int x3), .val (.int x4), .val (.ref r), .val .null, .unset, .unset, .unset, .unset] [(.int (0 : Int32)), (.ref r)])) rfl (by rw [hml]; rfl) (Steps.refl _) (argsL := [(.int (0 : Int32))]) (rest := []) (lenOf pd_5 rfl) rfl (by show 2 * 0 + _ ≤ _; exact Nat.le_of_eq rfl) (hb hby at_225) (fun _ _ => ⟨rfl, e11, (by decide : 12 + 0 ≤ _), (by decide : 200 + 0 ≤ _)⟩)
      dsimp only [Pt.U, Pt.locs, Pt.cells, Pt.slots] at X15 l15 y15 z15 st15 hQ15
      subst l15 y15 z15
      obtain ⟨rfl, rfl, e15⟩ := hQ15
      have N15 := Fr.app N11 (Fr.nil n0)
      have k15 : ∀ t, Steps p.tables e below (T15.setTop (mkF m 228 #[.val (.int p1), .val (.int p2), .val (.int p3), .val (.int p4), .val (.int p5), .val (.int p6), .val (.int kd), .val (.int ps), .val (.int mu), .val (.int x0), .val (.int x1), .val (.int x2), .val (.int x3), .val (.int x4), .val (.ref r), .val .null, .unset, .unset, .unset, .unset] [(.int c0)])) t → Steps p.tables e below (s₁.setTop (entryFrame m #[(.int p1), (.int p2), (.int p3), (.int p4), (.int p5), (.int p6)] maxLocals)) t := fun t k => k14 t (st15.trans k)
      have k16 : ∀ t, Steps p.tables e below (T15.setTop (mkF m 233 #[.val (.int p1), .val (.int p2), .val (.int p3), .val (.int p4), .val (.int p5), .val (.int p6), .val (.int kd), .val (.int ps), .val (.int mu), .val (.int x0), .val (.int x1), .val (.int x2), .val (.int x3), .val (.int x4), .val (.ref r), .val .null, .val (.int c0), .unset, .unset, .unset] [(.int (1 : Int32)), (.ref r)])) t → Steps p.tables e below (s₁.setTop (entryFrame m #[(.int p1), (.int p2), (.int p3), (.int p4), (.int p5), (.int p6)] maxLocals)) t := by
        intro t k
        refine k15 _ ?_
        show Steps p.tables e below (T15.setTop (mkF m 228 #[.val (.int p1), .val (.int p2), .val (.int p3), .val (.int p4), .val (.int p5), .val (.int p6), .val (.int kd), .val (.int ps), .val (.int mu), .val (.int x0), .val (.int x1), .val (.int x2), .val (.int x3), .val (.int x4), .val (.ref r), .val .null, .unset, .unset, .unset, .unset] [(.int c0)])) _
        refine XS.istore X15.here hx rfl (hb hby at_228) rfl (l' := #[.val (.int p1), .val (.int p2), .val (.int p3), .val (.int p4), .val (.int p5), .val (.int p6), .val (.int kd), .val (.int ps), .val (.int mu), .val (.int x0), .val (.int x1), .val (.int x2), .val (.int x3), .val (.int x4), .val (.ref r), .val .null, .val (.int c0), .unset, .unset, .unset]) rfl ?_
        show Steps p.tables e below (T15.setTop (mkF m 230 #[.val (.int p1), .val (.int p2), .val (.int p3), .val (.int p4), .val (.int p5), .val (.int p6), .val (.int kd), .val (.int ps), .val (.int mu), .val (.int x0), .val (.int x1), .val (.int x2), .val (.int x3), .val (.int x4), .val (.ref r), .val .null, .val (.int c0), .unset, .unset, .unset] [])) _
        refine XS.aload X15.here hx rfl (hb hby at_230) rfl rfl ?_
        show Steps p.tables e below (T15.setTop (mkF m 232 #[.val (.int p1), .val (.int p2), .val (.int p3), .val (.int p4), .val (.int p5), .val (.int p6), .val (.int kd), .val (.int ps), .val (.int mu), .val (.int x0), .val (.int x1), .val (.int x2), .val (.int x3), .val (.int x4), .val (.ref r), .val .null, .val (.int c0), .unset, .unset, .unset] [(.ref r)])) _
        refine XS.iconst X15.here hx rfl (hb hby at_232) ?_
        show Steps p.tables e below (T15.setTop (mkF m 233 #[.val (.int p1), .val (.int p2), .val (.int p3), .val (.int p4), .val (.int p5), .val (.int p6), .val (.int kd), .val (.int ps), .val (.int mu), .val (.int x0), .val (.int x1), .val (.int x2), .val (.int x3), .val (.int x4), .val (.ref r), .val .null, .val (.int c0), .unset, .unset, .unset] [(.int (1 : Int32)), (.ref r)])) _
        exact k
      obtain ⟨cq17, kq17, q17a, q17b, q17c⟩ := isOf hZ e15 (own_Str.exa TS)
      obtain ⟨_, _, ⟨T17, L17, ck17, nk17⟩, -, X17, ⟨Lc17, hQ17, l17, y17, z17⟩, st17⟩ := X15.virtualBack hx (y := (⟨"java/lang/String", "charAt", "(I)C"⟩ : MethodName)) (z := (⟨"java/lang/String", "charAt", "(I)C"⟩ : MethodName)) hown (mvT hZ (hw _ (List.mem_of_getElem? (i := 80) rfl))) (mvT hZ (hw _ (List.mem_of_getElem? (i := 81) rfl))) (notFace_of_selects (args := #[]) (mvT hZ (hw _ (List.mem_of_getElem? (i := 83) rfl)))) (mvT hZ (hw _ (List.mem_of_getElem? (i := 83) rfl))) (mvT hZ (hw _ (List.mem_of_getElem? (i := 82) rfl))) (by decide) (own_chB (W := 0) (s := s.setVm vmz) hZ hw TS (S1.ext od.2) hcs (S2.ext od.2) rF (i := 1) (j := (1 : Int32)) (Nat.le_of_ble_eq_true rfl) rfl (by decide) (by decide)) q17a q17c (g := (mkF m 233 #[.val (.int p1), .val (.int p2), .val (.int p3), .val (.int p4), .val (.int p5), .val (.int p6), .val (.int kd), .val (.int ps), .val (.int mu), .val (.int x0), .val (.int x1), .val (.int x2), .val (.int x3), .val (.int x4), .val (.ref r), .val .null, .val (.int c0), .unset, .unset, .unset] [(.int (1 : Int32)), (.ref r)])) rfl (by rw [hml]; rfl) (Steps.refl _) (argsL := [(.int (1 : Int32))]) (rest := []) (lenOf pd_5 rfl) rfl (by show 2 * 0 + _ ≤ _; exact Nat.le_of_eq rfl) (hb hby at_233) (fun _ _ => ⟨rfl, e15, (by decide : 12 + 0 ≤ _), (by decide : 200 + 0 ≤ _)⟩)
      dsimp only [Pt.U, Pt.locs, Pt.cells, Pt.slots] at X17 l17 y17 z17 st17 hQ17
      subst l17 y17 z17
      obtain ⟨rfl, rfl, e17⟩ := hQ17
      have N17 := Fr.app N15 (Fr.nil n0)
      have k17 : ∀ t, Steps p.tables e below (T17.setTop (mkF m 236 #[.val (.int p1), .val (.int p2), .val (.int p3), .val (.int p4), .val (.int p5), .val (.int p6), .val (.int kd), .val (.int ps), .val (.int mu), .val (.int x0), .val (.int x1), .val (.int x2), .val (.int x3), .val (.int x4), .val (.ref r), .val .null, .val (.int c0), .unset, .unset, .unset] [(.int c1)])) t → Steps p.tables e below (s₁.setTop (entryFrame m #[(.int p1), (.int p2), (.int p3), (.int p4), (.int p5), (.int p6)] maxLocals)) t := fun t k => k16 t (st17.trans k)
      have k18 : ∀ t, Steps p.tables e below (T17.setTop (mkF m 241 #[.val (.int p1), .val (.int p2), .val (.int p3), .val (.int p4), .val (.int p5), .val (.int p6), .val (.int kd), .val (.int ps), .val (.int mu), .val (.int x0), .val (.int x1), .val (.int x2), .val (.int x3), .val (.int x4), .val (.ref r), .val .null, .val (.int c0), .val (.int c1), .unset, .unset] [(.int (2 : Int32)), (.ref r)])) t → Steps p.tables e below (s₁.setTop (entryFrame m #[(.int p1), (.int p2), (.int p3), (.int p4), (.int p5), (.int p6)] maxLocals)) t := by
        intro t k
        refine k17 _ ?_
        show Steps p.tables e below (T17.setTop (mkF m 236 #[.val (.int p1), .val (.int p2), .val (.int p3), .val (.int p4), .val (.int p5), .val (.int p6), .val (.int kd), .val (.int ps), .val (.int mu), .val (.int x0), .val (.int x1), .val (.int x2), .val (.int x3), .val (.int x4), .val (.ref r), .val .null, .val (.int c0), .unset, .unset, .unset] [(.int c1)])) _
        refine XS.istore X17.here hx rfl (hb hby at_236) rfl (l' := #[.val (.int p1), .val (.int p2), .val (.int p3), .val (.int p4), .val (.int p5), .val (.int p6), .val (.int kd), .val (.int ps), .val (.int mu), .val (.int x0), .val (.int x1), .val (.int x2), .val (.int x3), .val (.int x4), .val (.ref r), .val .null, .val (.int c0), .val (.int c1), .unset, .unset]) rfl ?_
        show Steps p.tables e below (T17.setTop (mkF m 238 #[.val (.int p1), .val (.int p2), .val (.int p3), .val (.int p4), .val (.int p5), .val (.int p6), .val (.int kd), .val (.int ps), .val (.int mu), .val (.int x0), .val (.int x1), .val (.int x2), .val (.int x3), .val (.int x4), .val (.ref r), .val .null, .val (.int c0), .val (.int c1), .unset, .unset] [])) _
        refine XS.aload X17.here hx rfl (hb hby at_238) rfl rfl ?_
        show Steps p.tables e below (T17.setTop (mkF m 240 #[.val (.int p1), .val (.int p2), .val (.int p3), .val (.int p4), .val (.int p5), .val (.int p6), .val (.int kd), .val (.int ps), .val (.int mu), .val (.int x0), .val (.int x1), .val (.int x2), .val (.int x3), .val (.int x4), .val (.ref r), .val .null, .val (.int c0), .val (.int c1), .unset, .unset] [(.ref r)])) _
        refine XS.iconst X17.here hx rfl (hb hby at_240) ?_
        show Steps p.tables e below (T17.setTop (mkF m 241 #[.val (.int p1), .val (.int p2), .val (.int p3), .val (.int p4), .val (.int p5), .val (.int p6), .val (.int kd), .val (.int ps), .val (.int mu), .val (.int x0), .val (.int x1), .val (.int x2), .val (.int x3), .val (.int x4), .val (.ref r), .val .null, .val (.int c0), .val (.int c1), .unset, .unset] [(.int (2 : Int32)), (.ref r)])) _
        exact k
      obtain ⟨cq19, kq19, q19a, q19b, q19c⟩ := isOf hZ e17 (own_Str.exa TS)
      obtain ⟨_, _, ⟨T19, L19, ck19, nk19⟩, -, X19, ⟨Lc19, hQ19, l19, y19, z19⟩, st19⟩ := X17.virtualBack hx (y := (⟨"java/lang/String", "charAt", "(I)C"⟩ : MethodName)) (z := (⟨"java/lang/String", "charAt", "(I)C"⟩ : MethodName)) hown (mvT hZ (hw _ (List.mem_of_getElem? (i := 80) rfl))) (mvT hZ (hw _ (List.mem_of_getElem? (i := 81) rfl))) (notFace_of_selects (args := #[]) (mvT hZ (hw _ (List.mem_of_getElem? (i := 83) rfl)))) (mvT hZ (hw _ (List.mem_of_getElem? (i := 83) rfl))) (mvT hZ (hw _ (List.mem_of_getElem? (i := 82) rfl))) (by decide) (own_chB (W := 0) (s := s.setVm vmz) hZ hw TS (S1.ext od.2) hcs (S2.ext od.2) rF (i := 2) (j := (2 : Int32)) (Nat.le_of_ble_eq_true rfl) rfl (by decide) (by decide)) q19a q19c (g := (mkF m 241 #[.val (.int p1), .val (.int p2), .val (.int p3), .val (.int p4), .val (.int p5), .val (.int p6), .val (.int kd), .val (.int ps), .val (.int mu), .val (.int x0), .val (.int x1), .val (.int x2), .val (.int x3), .val (.int x4), .val (.ref r), .val .null, .val (.int c0), .val (.int c1), .unset, .unset] [(.int (2 : Int32)), (.ref r)])) rfl (by rw [hml]; rfl) (Steps.refl _) (argsL := [(.int (2 : Int32))]) (rest := []) (lenOf pd_5 rfl) rfl (by show 2 * 0 + _ ≤ _; exact Nat.le_of_eq rfl) (hb hby at_241) (fun _ _ => ⟨rfl, e17, (by decide : 12 + 0 ≤ _), (by decide : 200 + 0 ≤ _)⟩)
      dsimp only [Pt.U, Pt.locs, Pt.cells, Pt.slots] at X19 l19 y19 z19 st19 hQ19
      subst l19 y19 z19
      obtain ⟨rfl, rfl, e19⟩ := hQ19
      have N19 := Fr.app N17 (Fr.nil n0)
      have k19 : ∀ t, Steps p.tables e below (T19.setTop (mkF m 244 #[.val (.int p1), .val (.int p2), .val (.int p3), .val (.int p4), .val (.int p5), .val (.int p6), .val (.int kd), .val (.int ps), .val (.int mu), .val (.int x0), .val (.int x1), .val (.int x2), .val (.int x3), .val (.int x4), .val (.ref r), .val .null, .val (.int c0), .val (.int c1), .unset, .unset] [(.int c2)])) t → Steps p.tables e below (s₁.setTop (entryFrame m #[(.int p1), (.int p2), (.int p3), (.int p4), (.int p5), (.int p6)] maxLocals)) t := fun t k => k18 t (st19.trans k)
      have k20 : ∀ t, Steps p.tables e below (T19.setTop (mkF m 249 #[.val (.int p1), .val (.int p2), .val (.int p3), .val (.int p4), .val (.int p5), .val (.int p6), .val (.int kd), .val (.int ps), .val (.int mu), .val (.int x0), .val (.int x1), .val (.int x2), .val (.int x3), .val (.int x4), .val (.ref r), .val .null, .val (.int c0), .val (.int c1), .val (.int c2), .unset] [(.int (3 : Int32)), (.ref r)])) t → Steps p.tables e below (s₁.setTop (entryFrame m #[(.int p1), (.int p2), (.int p3), (.int p4), (.int p5), (.int p6)] maxLocals)) t := by
        intro t k
        refine k19 _ ?_
        show Steps p.tables e below (T19.setTop (mkF m 244 #[.val (.int p1), .val (.int p2), .val (.int p3), .val (.int p4), .val (.int p5), .val (.int p6), .val (.int kd), .val (.int ps), .val (.int mu), .val (.int x0), .val (.int x1), .val (.int x2), .val (.int x3), .val (.int x4), .val (.ref r), .val .null, .val (.int c0), .val (.int c1), .unset, .unset] [(.int c2)])) _
        refine XS.istore X19.here hx rfl (hb hby at_244) rfl (l' := #[.val (.int p1), .val (.int p2), .val (.int p3), .val (.int p4), .val (.int p5), .val (.int p6), .val (.int kd), .val (.int ps), .val (.int mu), .val (.int x0), .val (.int x1), .val (.int x2), .val (.int x3), .val (.int x4), .val (.ref r), .val .null, .val (.int c0), .val (.int c1), .val (.int c2), .unset]) rfl ?_
        show Steps p.tables e below (T19.setTop (mkF m 246 #[.val (.int p1), .val (.int p2), .val (.int p3), .val (.int p4), .val (.int p5), .val (.int p6), .val (.int kd), .val (.int ps), .val (.int mu), .val (.int x0), .val (.int x1), .val (.int x2), .val (.int x3), .val (.int x4), .val (.ref r), .val .null, .val (.int c0), .val (.int c1), .val (.int c2), .unset] [])) _
        refine XS.aload X19.here hx rfl (hb hby at_246) rfl rfl ?_
        show Steps p.tables e below (T19.setTop (mkF m 248 #[.val (.int p1), .val (.int p2), .val (.int p3), .val (.int p4), .val (.int p5), .val (.int p6), .val (.int kd), .val (.int ps), .val (.int mu), .val (.int x0), .val (.int x1), .val (.int x2), .val (.int x3), .val (.int x4), .val (.ref r), .val .null, .val (.int c0), .val (.int c1), .val (.int c2), .unset] [(.ref r)])) _
        refine XS.iconst X19.here hx rfl (hb hby at_248) ?_
        show Steps p.tables e below (T19.setTop (mkF m 249 #[.val (.int p1), .val (.int p2), .val (.int p3), .val (.int p4), .val (.int p5), .val (.int p6), .val (.int kd), .val (.int ps), .val (.int mu), .val (.int x0), .val (.int x1), .val (.int x2), .val (.int x3), .val (.int x4), .val (.ref r), .val .null, .val (.int c0), .val (.int c1), .val (.int c2), .unset] [(.int (3 : Int32)), (.ref r)])) _
        exact k
      obtain ⟨cq21, kq21, q21a, q21b, q21c⟩ := isOf hZ e19 (own_Str.exa TS)
      obtain ⟨_, _, ⟨T21, L21, ck21, nk21⟩, -, X21, ⟨Lc21, hQ21, l21, y21, z21⟩, st21⟩ := X19.virtualBack hx (y := (⟨"java/lang/String", "charAt", "(I)C"⟩ : MethodName)) (z := (⟨"java/lang/String", "charAt", "(I)C"⟩ : MethodName)) hown (mvT hZ (hw _ (List.mem_of_getElem? (i := 80) rfl))) (mvT hZ (hw _ (List.mem_of_getElem? (i := 81) rfl))) (notFace_of_selects (args := #[]) (mvT hZ (hw _ (List.mem_of_getElem? (i := 83) rfl)))) (mvT hZ (hw _ (List.mem_of_getElem? (i := 83) rfl))) (mvT hZ (hw _ (List.mem_of_getElem? (i := 82) rfl))) (by decide) (own_chB (W := 0) (s := s.setVm vmz) hZ hw TS (S1.ext od.2) hcs (S2.ext od.2) rF (i := 3) (j := (3 : Int32)) (Nat.le_of_ble_eq_true rfl) rfl (by decide) (by decide)) q21a q21c (g := (mkF m 249 #[.val (.int p1), .val (.int p2), .val (.int p3), .val (.int p4), .val (.int p5), .val (.int p6), .val (.int kd), .val (.int ps), .val (.int mu), .val (.int x0), .val (.int x1), .val (.int x2), .val (.int x3), .val (.int x4), .val (.ref r), .val .null, .val (.int c0), .val (.int c1), .val (.int c2), .unset] [(.int (3 : Int32)), (.ref r)])) rfl (by rw [hml]; rfl) (Steps.refl _) (argsL := [(.int (3 : Int32))]) (rest := []) (lenOf pd_5 rfl) rfl (by show 2 * 0 + _ ≤ _; exact Nat.le_of_eq rfl) (hb hby at_249) (fun _ _ => ⟨rfl, e19, (by decide : 12 + 0 ≤ _), (by decide : 200 + 0 ≤ _)⟩)
      dsimp only [Pt.U, Pt.locs, Pt.cells, Pt.slots] at X21 l21 y21 z21 st21 hQ21
      subst l21 y21 z21
      obtain ⟨rfl, rfl, e21⟩ := hQ21
      have N21 := Fr.app N19 (Fr.nil n0)
      have k21 : ∀ t, Steps p.tables e below (T21.setTop (mkF m 252 #[.val (.int p1), .val (.int p2), .val (.int p3), .val (.int p4), .val (.int p5), .val (.int p6), .val (.int kd), .val (.int ps), .val (.int mu), .val (.int x0), .val (.int x1), .val (.int x2), .val (.int x3), .val (.int x4), .val (.ref r), .val .null, .val (.int c0), .val (.int c1), .val (.int c2), .unset] [(.int c3)])) t → Steps p.tables e below (s₁.setTop (entryFrame m #[(.int p1), (.int p2), (.int p3), (.int p4), (.int p5), (.int p6)] maxLocals)) t := fun t k => k20 t (st21.trans k)
      have k22 : ∀ t, Steps p.tables e below (T21.setTop (mkF m 258 #[.val (.int p1), .val (.int p2), .val (.int p3), .val (.int p4), .val (.int p5), .val (.int p6), .val (.int kd), .val (.int ps), .val (.int mu), .val (.int x0), .val (.int x1), .val (.int x2), .val (.int x3), .val (.int x4), .val (.ref r), .val .null, .val (.int c0), .val (.int c1), .val (.int c2), .val (.int c3)] [(.int (100 : Int32)), (.int c0)])) t → Steps p.tables e below (s₁.setTop (entryFrame m #[(.int p1), (.int p2), (.int p3), (.int p4), (.int p5), (.int p6)] maxLocals)) t := by
        intro t k
        refine k21 _ ?_
        show Steps p.tables e below (T21.setTop (mkF m 252 #[.val (.int p1), .val (.int p2), .val (.int p3), .val (.int p4), .val (.int p5), .val (.int p6), .val (.int kd), .val (.int ps), .val (.int mu), .val (.int x0), .val (.int x1), .val (.int x2), .val (.int x3), .val (.int x4), .val (.ref r), .val .null, .val (.int c0), .val (.int c1), .val (.int c2), .unset] [(.int c3)])) _
        refine XS.istore X21.here hx rfl (hb hby at_252) rfl (l' := #[.val (.int p1), .val (.int p2), .val (.int p3), .val (.int p4), .val (.int p5), .val (.int p6), .val (.int kd), .val (.int ps), .val (.int mu), .val (.int x0), .val (.int x1), .val (.int x2), .val (.int x3), .val (.int x4), .val (.ref r), .val .null, .val (.int c0), .val (.int c1), .val (.int c2), .val (.int c3)]) rfl ?_
        show Steps p.tables e below (T21.setTop (mkF m 254 #[.val (.int p1), .val (.int p2), .val (.int p3), .val (.int p4), .val (.int p5), .val (.int p6), .val (.int kd), .val (.int ps), .val (.int mu), .val (.int x0), .val (.int x1), .val (.int x2), .val (.int x3), .val (.int x4), .val (.ref r), .val .null, .val (.int c0), .val (.int c1), .val (.int c2), .val (.int c3)] [])) _
        refine XS.iload X21.here hx rfl (hb hby at_254) rfl ?_
        show Steps p.tables e below (T21.setTop (mkF m 256 #[.val (.int p1), .val (.int p2), .val (.int p3), .val (.int p4), .val (.int p5), .val (.int p6), .val (.int kd), .val (.int ps), .val (.int mu), .val (.int x0), .val (.int x1), .val (.int x2), .val (.int x3), .val (.int x4), .val (.ref r), .val .null, .val (.int c0), .val (.int c1), .val (.int c2), .val (.int c3)] [(.int c0)])) _
        refine XS.bipush X21.here hx rfl (hb hby at_256) ?_
        show Steps p.tables e below (T21.setTop (mkF m 258 #[.val (.int p1), .val (.int p2), .val (.int p3), .val (.int p4), .val (.int p5), .val (.int p6), .val (.int kd), .val (.int ps), .val (.int mu), .val (.int x0), .val (.int x1), .val (.int x2), .val (.int x3), .val (.int x4), .val (.ref r), .val .null, .val (.int c0), .val (.int c1), .val (.int c2), .val (.int c3)] [(.int (100 : Int32)), (.int c0)])) _
        exact k
      by_cases hD : c0 = (100 : Int32) ∧ c1 = (99 : Int32) ∧ c2 = (115 : Int32) ∧ c3 = (112 : Int32)
      · skip
        have k23 : ∀ t, Steps p.tables e below (T21.setTop (mkF m 282 #[.val (.int p1), .val (.int p2), .val (.int p3), .val (.int p4), .val (.int p5), .val (.int p6), .val (.int kd), .val (.int ps), .val (.int mu), .val (.int x0), .val (.int x1), .val (.int x2), .val (.int x3), .val (.int x4), .val (.ref r), .val .null, .val (.int c0), .val (.int c1), .val (.int c2), .val (.int c3)] [])) t → Steps p.tables e below (s₁.setTop (entryFrame m #[(.int p1), (.int p2), (.int p3), (.int p4), (.int p5), (.int p6)] maxLocals)) t := by
          intro t k
          refine k22 _ ?_
          show Steps p.tables e below (T21.setTop (mkF m 258 #[.val (.int p1), .val (.int p2), .val (.int p3), .val (.int p4), .val (.int p5), .val (.int p6), .val (.int kd), .val (.int ps), .val (.int mu), .val (.int x0), .val (.int x1), .val (.int x2), .val (.int x3), .val (.int x4), .val (.ref r), .val .null, .val (.int c0), .val (.int c1), .val (.int c2), .val (.int c3)] [(.int (100 : Int32)), (.int c0)])) _
          refine XS.icmpNo X21.here hx rfl (hb hby at_258) rfl (teq hD.1).2 ?_
          show Steps p.tables e below (T21.setTop (mkF m 261 #[.val (.int p1), .val (.int p2), .val (.int p3), .val (.int p4), .val (.int p5), .val (.int p6), .val (.int kd), .val (.int ps), .val (.int mu), .val (.int x0), .val (.int x1), .val (.int x2), .val (.int x3), .val (.int x4), .val (.ref r), .val .null, .val (.int c0), .val (.int c1), .val (.int c2), .val (.int c3)] [])) _
          refine XS.iload X21.here hx rfl (hb hby at_261) rfl ?_
          show Steps p.tables e below (T21.setTop (mkF m 263 #[.val (.int p1), .val (.int p2), .val (.int p3), .val (.int p4), .val (.int p5), .val (.int p6), .val (.int kd), .val (.int ps), .val (.int mu), .val (.int x0), .val (.int x1), .val (.int x2), .val (.int x3), .val (.int x4), .val (.ref r), .val .null, .val (.int c0), .val (.int c1), .val (.int c2), .val (.int c3)] [(.int c1)])) _
          refine XS.bipush X21.here hx rfl (hb hby at_263) ?_
          show Steps p.tables e below (T21.setTop (mkF m 265 #[.val (.int p1), .val (.int p2), .val (.int p3), .val (.int p4), .val (.int p5), .val (.int p6), .val (.int kd), .val (.int ps), .val (.int mu), .val (.int x0), .val (.int x1), .val (.int x2), .val (.int x3), .val (.int x4), .val (.ref r), .val .null, .val (.int c0), .val (.int c1), .val (.int c2), .val (.int c3)] [(.int (99 : Int32)), (.int c1)])) _
          refine XS.icmpNo X21.here hx rfl (hb hby at_265) rfl (teq hD.2.1).2 ?_
          show Steps p.tables e below (T21.setTop (mkF m 268 #[.val (.int p1), .val (.int p2), .val (.int p3), .val (.int p4), .val (.int p5), .val (.int p6), .val (.int kd), .val (.int ps), .val (.int mu), .val (.int x0), .val (.int x1), .val (.int x2), .val (.int x3), .val (.int x4), .val (.ref r), .val .null, .val (.int c0), .val (.int c1), .val (.int c2), .val (.int c3)] [])) _
          refine XS.iload X21.here hx rfl (hb hby at_268) rfl ?_
          show Steps p.tables e below (T21.setTop (mkF m 270 #[.val (.int p1), .val (.int p2), .val (.int p3), .val (.int p4), .val (.int p5), .val (.int p6), .val (.int kd), .val (.int ps), .val (.int mu), .val (.int x0), .val (.int x1), .val (.int x2), .val (.int x3), .val (.int x4), .val (.ref r), .val .null, .val (.int c0), .val (.int c1), .val (.int c2), .val (.int c3)] [(.int c2)])) _
          refine XS.bipush X21.here hx rfl (hb hby at_270) ?_
          show Steps p.tables e below (T21.setTop (mkF m 272 #[.val (.int p1), .val (.int p2), .val (.int p3), .val (.int p4), .val (.int p5), .val (.int p6), .val (.int kd), .val (.int ps), .val (.int mu), .val (.int x0), .val (.int x1), .val (.int x2), .val (.int x3), .val (.int x4), .val (.ref r), .val .null, .val (.int c0), .val (.int c1), .val (.int c2), .val (.int c3)] [(.int (115 : Int32)), (.int c2)])) _
          refine XS.icmpNo X21.here hx rfl (hb hby at_272) rfl (teq hD.2.2.1).2 ?_
          show Steps p.tables e below (T21.setTop (mkF m 275 #[.val (.int p1), .val (.int p2), .val (.int p3), .val (.int p4), .val (.int p5), .val (.int p6), .val (.int kd), .val (.int ps), .val (.int mu), .val (.int x0), .val (.int x1), .val (.int x2), .val (.int x3), .val (.int x4), .val (.ref r), .val .null, .val (.int c0), .val (.int c1), .val (.int c2), .val (.int c3)] [])) _
          refine XS.iload X21.here hx rfl (hb hby at_275) rfl ?_
          show Steps p.tables e below (T21.setTop (mkF m 277 #[.val (.int p1), .val (.int p2), .val (.int p3), .val (.int p4), .val (.int p5), .val (.int p6), .val (.int kd), .val (.int ps), .val (.int mu), .val (.int x0), .val (.int x1), .val (.int x2), .val (.int x3), .val (.int x4), .val (.ref r), .val .null, .val (.int c0), .val (.int c1), .val (.int c2), .val (.int c3)] [(.int c3)])) _
          refine XS.bipush X21.here hx rfl (hb hby at_277) ?_
          show Steps p.tables e below (T21.setTop (mkF m 279 #[.val (.int p1), .val (.int p2), .val (.int p3), .val (.int p4), .val (.int p5), .val (.int p6), .val (.int kd), .val (.int ps), .val (.int mu), .val (.int x0), .val (.int x1), .val (.int x2), .val (.int x3), .val (.int x4), .val (.ref r), .val .null, .val (.int c0), .val (.int c1), .val (.int c2), .val (.int c3)] [(.int (112 : Int32)), (.int c3)])) _
          refine XS.icmpNo X21.here hx rfl (hb hby at_279) rfl (teq hD.2.2.2).2 ?_
          show Steps p.tables e below (T21.setTop (mkF m 282 #[.val (.int p1), .val (.int p2), .val (.int p3), .val (.int p4), .val (.int p5), .val (.int p6), .val (.int kd), .val (.int ps), .val (.int mu), .val (.int x0), .val (.int x1), .val (.int x2), .val (.int x3), .val (.int x4), .val (.ref r), .val .null, .val (.int c0), .val (.int c1), .val (.int c2), .val (.int c3)] [])) _
          exact k
        obtain ⟨T24, X24, e24, st24⟩ := getS (host := "") X21 hx hZ hown (hw _ (List.mem_of_getElem? (i := 101) rfl)) Via.refl e21 (S_D.ext od.2) (g := (mkF m 282 #[.val (.int p1), .val (.int p2), .val (.int p3), .val (.int p4), .val (.int p5), .val (.int p6), .val (.int kd), .val (.int ps), .val (.int mu), .val (.int x0), .val (.int x1), .val (.int x2), .val (.int x3), .val (.int x4), .val (.ref r), .val .null, .val (.int c0), .val (.int c1), .val (.int c2), .val (.int c3)] [])) rfl (hb hby at_282)
        have k24 : ∀ t, Steps p.tables e below (T24.setTop (mkF m 285 #[.val (.int p1), .val (.int p2), .val (.int p3), .val (.int p4), .val (.int p5), .val (.int p6), .val (.int kd), .val (.int ps), .val (.int mu), .val (.int x0), .val (.int x1), .val (.int x2), .val (.int x3), .val (.int x4), .val (.ref r), .val .null, .val (.int c0), .val (.int c1), .val (.int c2), .val (.int c3)] [(.ref aD)])) t → Steps p.tables e below (s₁.setTop (entryFrame m #[(.int p1), (.int p2), (.int p3), (.int p4), (.int p5), (.int p6)] maxLocals)) t := fun t k => k23 t (st24 _ k)
        have k25 : ∀ t, Steps p.tables e below (T24.setTop (mkF m 325 #[.val (.int p1), .val (.int p2), .val (.int p3), .val (.int p4), .val (.int p5), .val (.int p6), .val (.int kd), .val (.int ps), .val (.int mu), .val (.int x0), .val (.int x1), .val (.int x2), .val (.int x3), .val (.int x4), .val (.ref r), .val (.ref aD), .val (.int c0), .val (.int c1), .val (.int c2), .val (.int c3)] [(.ref r)])) t → Steps p.tables e below (s₁.setTop (entryFrame m #[(.int p1), (.int p2), (.int p3), (.int p4), (.int p5), (.int p6)] maxLocals)) t := by
          intro t k
          refine k24 _ ?_
          show Steps p.tables e below (T24.setTop (mkF m 285 #[.val (.int p1), .val (.int p2), .val (.int p3), .val (.int p4), .val (.int p5), .val (.int p6), .val (.int kd), .val (.int ps), .val (.int mu), .val (.int x0), .val (.int x1), .val (.int x2), .val (.int x3), .val (.int x4), .val (.ref r), .val .null, .val (.int c0), .val (.int c1), .val (.int c2), .val (.int c3)] [(.ref aD)])) _
          refine XS.astore X24.here hx rfl (hb hby at_285) rfl rfl (l' := #[.val (.int p1), .val (.int p2), .val (.int p3), .val (.int p4), .val (.int p5), .val (.int p6), .val (.int kd), .val (.int ps), .val (.int mu), .val (.int x0), .val (.int x1), .val (.int x2), .val (.int x3), .val (.int x4), .val (.ref r), .val (.ref aD), .val (.int c0), .val (.int c1), .val (.int c2), .val (.int c3)]) rfl ?_
          show Steps p.tables e below (T24.setTop (mkF m 287 #[.val (.int p1), .val (.int p2), .val (.int p3), .val (.int p4), .val (.int p5), .val (.int p6), .val (.int kd), .val (.int ps), .val (.int mu), .val (.int x0), .val (.int x1), .val (.int x2), .val (.int x3), .val (.int x4), .val (.ref r), .val (.ref aD), .val (.int c0), .val (.int c1), .val (.int c2), .val (.int c3)] [])) _
          refine XS.goto X24.here hx rfl (pc0 := 287) (pc' := 323) rfl (hb hby at_287) (by decide) (by decide) ?_
          show Steps p.tables e below (T24.setTop (mkF m 323 #[.val (.int p1), .val (.int p2), .val (.int p3), .val (.int p4), .val (.int p5), .val (.int p6), .val (.int kd), .val (.int ps), .val (.int mu), .val (.int x0), .val (.int x1), .val (.int x2), .val (.int x3), .val (.int x4), .val (.ref r), .val (.ref aD), .val (.int c0), .val (.int c1), .val (.int c2), .val (.int c3)] [])) _
          refine XS.aload X24.here hx rfl (hb hby at_323) rfl rfl ?_
          show Steps p.tables e below (T24.setTop (mkF m 325 #[.val (.int p1), .val (.int p2), .val (.int p3), .val (.int p4), .val (.int p5), .val (.int p6), .val (.int kd), .val (.int ps), .val (.int mu), .val (.int x0), .val (.int x1), .val (.int x2), .val (.int x3), .val (.int x4), .val (.ref r), .val (.ref aD), .val (.int c0), .val (.int c1), .val (.int c2), .val (.int c3)] [(.ref r)])) _
          exact k
        obtain ⟨_, _, ⟨T26, L26, ck26, nk26⟩, -, X26, ⟨Lc26, hQ26, l26, y26, z26⟩, st26⟩ := Jvm.LawKit.callS X24 hx (y := (⟨"com/example/nogood/nogood/problem/InstanceFormat", "named", "(Ljava/lang/String;)Lcom/example/nogood/nogood/problem/InstanceFormat;"⟩ : MethodName)) hown (mvT hZ (hw _ (List.mem_of_getElem? (i := 37) rfl))) (mvT hZ (hw _ (List.mem_of_getElem? (i := 38) rfl))) (mvT hZ (hw _ (List.mem_of_getElem? (i := 39) rfl))) (mvT hZ (hw _ (List.mem_of_getElem? (i := 40) rfl))) (by decide) (backOf (W := 0) (rmNamS l Z a0 hw [] r [c0, c1, c2, c3] va kv aD aI kD kI cs T.heap n0 Zt S_V VV EV od FD FI TD TI S1 hcs TS) hZ (hw _ (List.mem_of_getElem? (i := 40) rfl)) (hw _ (List.mem_of_getElem? (i := 39) rfl)) (by decide) (by decide)) (g := (mkF m 325 #[.val (.int p1), .val (.int p2), .val (.int p3), .val (.int p4), .val (.int p5), .val (.int p6), .val (.int kd), .val (.int ps), .val (.int mu), .val (.int x0), .val (.int x1), .val (.int x2), .val (.int x3), .val (.int x4), .val (.ref r), .val (.ref aD), .val (.int c0), .val (.int c1), .val (.int c2), .val (.int c3)] [(.ref r)])) rfl (by rw [hml]; rfl) (argsL := [(.ref r)]) (rest := []) (lenOf pd_6 rfl) rfl (by show 2 * 0 + _ ≤ _; exact Nat.le_of_eq rfl) (hb hby at_325) (fun _ _ => ⟨rfl, e24, (by decide : 12 + 1 ≤ _), (by decide : 200 + 2 ≤ _)⟩)
        dsimp only [Pt.U, Pt.locs, Pt.cells, Pt.slots] at X26 l26 y26 z26 st26 hQ26
        subst l26 y26 z26
        obtain ⟨rfl, N26q, K26⟩ := hQ26
        have N26 := Fr.app N21 N26q
        have k26 : ∀ t, Steps p.tables e below (T26.setTop (mkF m 328 #[.val (.int p1), .val (.int p2), .val (.int p3), .val (.int p4), .val (.int p5), .val (.int p6), .val (.int kd), .val (.int ps), .val (.int mu), .val (.int x0), .val (.int x1), .val (.int x2), .val (.int x3), .val (.int x4), .val (.ref r), .val (.ref aD), .val (.int c0), .val (.int c1), .val (.int c2), .val (.int c3)] [(own_nm [c0, c1, c2, c3] aD aI)])) t → Steps p.tables e below (s₁.setTop (entryFrame m #[(.int p1), (.int p2), (.int p3), (.int p4), (.int p5), (.int p6)] maxLocals)) t := fun t k => k25 t (st26 _ k)
        have Z27 : n0 ≤ T26.heap.size := Nat.le_trans Zt K26.1
        have zk27 : kz ≤ T26.heap.size := Nat.le_trans hkz K26.1
        rw [show own_nm [c0, c1, c2, c3] aD aI = .ref aD by rw [hD.1, hD.2.1, hD.2.2.1, hD.2.2.2]; exact own_nm_D] at k26
        have k28 : ∀ t, Steps p.tables e below (T26.setTop (mkF m 338 #[.val (.int p1), .val (.int p2), .val (.int p3), .val (.int p4), .val (.int p5), .val (.int p6), .val (.int kd), .val (.int ps), .val (.int mu), .val (.int x0), .val (.int x1), .val (.int x2), .val (.int x3), .val (.int x4), .val (.ref r), .val (.ref aD), .val (.int c0), .val (.int c1), .val (.int c2), .val (.int c3)] [(.int (1 : Int32))])) t → Steps p.tables e below (s₁.setTop (entryFrame m #[(.int p1), (.int p2), (.int p3), (.int p4), (.int p5), (.int p6)] maxLocals)) t := by
          intro t k
          refine k26 _ ?_
          show Steps p.tables e below (T26.setTop (mkF m 328 #[.val (.int p1), .val (.int p2), .val (.int p3), .val (.int p4), .val (.int p5), .val (.int p6), .val (.int kd), .val (.int ps), .val (.int mu), .val (.int x0), .val (.int x1), .val (.int x2), .val (.int x3), .val (.int x4), .val (.ref r), .val (.ref aD), .val (.int c0), .val (.int c1), .val (.int c2), .val (.int c3)] [(.ref aD)])) _
          refine XS.aload X26.here hx rfl (hb hby at_328) rfl rfl ?_
          show Steps p.tables e below (T26.setTop (mkF m 330 #[.val (.int p1), .val (.int p2), .val (.int p3), .val (.int p4), .val (.int p5), .val (.int p6), .val (.int kd), .val (.int ps), .val (.int mu), .val (.int x0), .val (.int x1), .val (.int x2), .val (.int x3), .val (.int x4), .val (.ref r), .val (.ref aD), .val (.int c0), .val (.int c1), .val (.int c2), .val (.int c3)] [(.ref aD), (.ref aD)])) _
          refine Jvm.RoadKit.acmp (g := (mkF m 330 #[.val (.int p1), .val (.int p2), .val (.int p3), .val (.int p4), .val (.int p5), .val (.int p6), .val (.int kd), .val (.int ps), .val (.int mu), .val (.int x0), .val (.int x1), .val (.int x2), .val (.int x3), .val (.int x4), .val (.ref r), .val (.ref aD), .val (.int c0), .val (.int c1), .val (.int c2), .val (.int c3)] [(.ref aD), (.ref aD)])) X26 hx rfl rfl rfl (pc0 := 330) (pc' := 333) (same := true) rfl (hb hby at_330) rfl (decide_eq_true (congrArg Value.ref rfl)) (by decide) (by decide) ?_
          show Steps p.tables e below (T26.setTop (mkF m 333 #[.val (.int p1), .val (.int p2), .val (.int p3), .val (.int p4), .val (.int p5), .val (.int p6), .val (.int kd), .val (.int ps), .val (.int mu), .val (.int x0), .val (.int x1), .val (.int x2), .val (.int x3), .val (.int x4), .val (.ref r), .val (.ref aD), .val (.int c0), .val (.int c1), .val (.int c2), .val (.int c3)] [])) _
          refine XS.iconst X26.here hx rfl (hb hby at_333) ?_
          show Steps p.tables e below (T26.setTop (mkF m 334 #[.val (.int p1), .val (.int p2), .val (.int p3), .val (.int p4), .val (.int p5), .val (.int p6), .val (.int kd), .val (.int ps), .val (.int mu), .val (.int x0), .val (.int x1), .val (.int x2), .val (.int x3), .val (.int x4), .val (.ref r), .val (.ref aD), .val (.int c0), .val (.int c1), .val (.int c2), .val (.int c3)] [(.int (1 : Int32))])) _
          refine XS.goto X26.here hx rfl (pc0 := 334) (pc' := 338) rfl (hb hby at_334) (by decide) (by decide) ?_
          show Steps p.tables e below (T26.setTop (mkF m 338 #[.val (.int p1), .val (.int p2), .val (.int p3), .val (.int p4), .val (.int p5), .val (.int p6), .val (.int kd), .val (.int ps), .val (.int mu), .val (.int x0), .val (.int x1), .val (.int x2), .val (.int x3), .val (.int x4), .val (.ref r), .val (.ref aD), .val (.int c0), .val (.int c1), .val (.int c2), .val (.int c3)] [(.int (1 : Int32))])) _
          exact k
        obtain ⟨fs, hr, hrun, hended, hWe⟩ := Stand.leaveW (s := s) (vm₁ := vmz) X26 (n := kz) hS zk27 (v := some (.int (1 : Int32))) (fun h => by rw [Bd.returns] at h; cases h)
        refine hG ⟨_, _, k28 _ ?_, hrun, hended, _, _, rfl, ?_, hWe.1, hWe.2.1, hWe.2.2.1, hWe.2.2.2.mono (Nat.le_of_ble_eq_true rfl) (Nat.le_of_ble_eq_true rfl)⟩
        · exact retN X26 hx (t := .boolean) Bd.returns (by simp) (hb hby at_338) hr
        · show Q0 Z p1 p2 p3 p4 p5 p6 va kv aD aI kD kI cs vF h0 n0 _ T26.heap _
          skip
          exact ⟨rfl, N26⟩
      · skip
        have k33 : ∀ t, Steps p.tables e below (T21.setTop (mkF m 290 #[.val (.int p1), .val (.int p2), .val (.int p3), .val (.int p4), .val (.int p5), .val (.int p6), .val (.int kd), .val (.int ps), .val (.int mu), .val (.int x0), .val (.int x1), .val (.int x2), .val (.int x3), .val (.int x4), .val (.ref r), .val .null, .val (.int c0), .val (.int c1), .val (.int c2), .val (.int c3)] [])) t → Steps p.tables e below (s₁.setTop (entryFrame m #[(.int p1), (.int p2), (.int p3), (.int p4), (.int p5), (.int p6)] maxLocals)) t := by
          intro t k
          refine k22 _ ?_
          by_cases hc29_258 : c0 = (100 : Int32)
          · show Steps p.tables e below (T21.setTop (mkF m 258 #[.val (.int p1), .val (.int p2), .val (.int p3), .val (.int p4), .val (.int p5), .val (.int p6), .val (.int kd), .val (.int ps), .val (.int mu), .val (.int x0), .val (.int x1), .val (.int x2), .val (.int x3), .val (.int x4), .val (.ref r), .val .null, .val (.int c0), .val (.int c1), .val (.int c2), .val (.int c3)] [(.int (100 : Int32)), (.int c0)])) _
            refine XS.icmpNo X21.here hx rfl (hb hby at_258) rfl (teq hc29_258).2 ?_
            show Steps p.tables e below (T21.setTop (mkF m 261 #[.val (.int p1), .val (.int p2), .val (.int p3), .val (.int p4), .val (.int p5), .val (.int p6), .val (.int kd), .val (.int ps), .val (.int mu), .val (.int x0), .val (.int x1), .val (.int x2), .val (.int x3), .val (.int x4), .val (.ref r), .val .null, .val (.int c0), .val (.int c1), .val (.int c2), .val (.int c3)] [])) _
            refine XS.iload X21.here hx rfl (hb hby at_261) rfl ?_
            show Steps p.tables e below (T21.setTop (mkF m 263 #[.val (.int p1), .val (.int p2), .val (.int p3), .val (.int p4), .val (.int p5), .val (.int p6), .val (.int kd), .val (.int ps), .val (.int mu), .val (.int x0), .val (.int x1), .val (.int x2), .val (.int x3), .val (.int x4), .val (.ref r), .val .null, .val (.int c0), .val (.int c1), .val (.int c2), .val (.int c3)] [(.int c1)])) _
            refine XS.bipush X21.here hx rfl (hb hby at_263) ?_
            show Steps p.tables e below (T21.setTop (mkF m 265 #[.val (.int p1), .val (.int p2), .val (.int p3), .val (.int p4), .val (.int p5), .val (.int p6), .val (.int kd), .val (.int ps), .val (.int mu), .val (.int x0), .val (.int x1), .val (.int x2), .val (.int x3), .val (.int x4), .val (.ref r), .val .null, .val (.int c0), .val (.int c1), .val (.int c2), .val (.int c3)] [(.int (99 : Int32)), (.int c1)])) _
            by_cases hc30_265 : c1 = (99 : Int32)
            · show Steps p.tables e below (T21.setTop (mkF m 265 #[.val (.int p1), .val (.int p2), .val (.int p3), .val (.int p4), .val (.int p5), .val (.int p6), .val (.int kd), .val (.int ps), .val (.int mu), .val (.int x0), .val (.int x1), .val (.int x2), .val (.int x3), .val (.int x4), .val (.ref r), .val .null, .val (.int c0), .val (.int c1), .val (.int c2), .val (.int c3)] [(.int (99 : Int32)), (.int c1)])) _
              refine XS.icmpNo X21.here hx rfl (hb hby at_265) rfl (teq hc30_265).2 ?_
              show Steps p.tables e below (T21.setTop (mkF m 268 #[.val (.int p1), .val (.int p2), .val (.int p3), .val (.int p4), .val (.int p5), .val (.int p6), .val (.int kd), .val (.int ps), .val (.int mu), .val (.int x0), .val (.int x1), .val (.int x2), .val (.int x3), .val (.int x4), .val (.ref r), .val .null, .val (.int c0), .val (.int c1), .val (.int c2), .val (.int c3)] [])) _
              refine XS.iload X21.here hx rfl (hb hby at_268) rfl ?_
              show Steps p.tables e below (T21.setTop (mkF m 270 #[.val (.int p1), .val (.int p2), .val (.int p3), .val (.int p4), .val (.int p5), .val (.int p6), .val (.int kd), .val (.int ps), .val (.int mu), .val (.int x0), .val (.int x1), .val (.int x2), .val (.int x3), .val (.int x4), .val (.ref r), .val .null, .val (.int c0), .val (.int c1), .val (.int c2), .val (.int c3)] [(.int c2)])) _
              refine XS.bipush X21.here hx rfl (hb hby at_270) ?_
              show Steps p.tables e below (T21.setTop (mkF m 272 #[.val (.int p1), .val (.int p2), .val (.int p3), .val (.int p4), .val (.int p5), .val (.int p6), .val (.int kd), .val (.int ps), .val (.int mu), .val (.int x0), .val (.int x1), .val (.int x2), .val (.int x3), .val (.int x4), .val (.ref r), .val .null, .val (.int c0), .val (.int c1), .val (.int c2), .val (.int c3)] [(.int (115 : Int32)), (.int c2)])) _
              by_cases hc31_272 : c2 = (115 : Int32)
              · show Steps p.tables e below (T21.setTop (mkF m 272 #[.val (.int p1), .val (.int p2), .val (.int p3), .val (.int p4), .val (.int p5), .val (.int p6), .val (.int kd), .val (.int ps), .val (.int mu), .val (.int x0), .val (.int x1), .val (.int x2), .val (.int x3), .val (.int x4), .val (.ref r), .val .null, .val (.int c0), .val (.int c1), .val (.int c2), .val (.int c3)] [(.int (115 : Int32)), (.int c2)])) _
                refine XS.icmpNo X21.here hx rfl (hb hby at_272) rfl (teq hc31_272).2 ?_
                show Steps p.tables e below (T21.setTop (mkF m 275 #[.val (.int p1), .val (.int p2), .val (.int p3), .val (.int p4), .val (.int p5), .val (.int p6), .val (.int kd), .val (.int ps), .val (.int mu), .val (.int x0), .val (.int x1), .val (.int x2), .val (.int x3), .val (.int x4), .val (.ref r), .val .null, .val (.int c0), .val (.int c1), .val (.int c2), .val (.int c3)] [])) _
                refine XS.iload X21.here hx rfl (hb hby at_275) rfl ?_
                show Steps p.tables e below (T21.setTop (mkF m 277 #[.val (.int p1), .val (.int p2), .val (.int p3), .val (.int p4), .val (.int p5), .val (.int p6), .val (.int kd), .val (.int ps), .val (.int mu), .val (.int x0), .val (.int x1), .val (.int x2), .val (.int x3), .val (.int x4), .val (.ref r), .val .null, .val (.int c0), .val (.int c1), .val (.int c2), .val (.int c3)] [(.int c3)])) _
                refine XS.bipush X21.here hx rfl (hb hby at_277) ?_
                show Steps p.tables e below (T21.setTop (mkF m 279 #[.val (.int p1), .val (.int p2), .val (.int p3), .val (.int p4), .val (.int p5), .val (.int p6), .val (.int kd), .val (.int ps), .val (.int mu), .val (.int x0), .val (.int x1), .val (.int x2), .val (.int x3), .val (.int x4), .val (.ref r), .val .null, .val (.int c0), .val (.int c1), .val (.int c2), .val (.int c3)] [(.int (112 : Int32)), (.int c3)])) _
                by_cases hc32_279 : c3 = (112 : Int32)
                · exact absurd ⟨hc29_258, hc30_265, hc31_272, hc32_279⟩ hD
                · show Steps p.tables e below (T21.setTop (mkF m 279 #[.val (.int p1), .val (.int p2), .val (.int p3), .val (.int p4), .val (.int p5), .val (.int p6), .val (.int kd), .val (.int ps), .val (.int mu), .val (.int x0), .val (.int x1), .val (.int x2), .val (.int x3), .val (.int x4), .val (.ref r), .val .null, .val (.int c0), .val (.int c1), .val (.int c2), .val (.int c3)] [(.int (112 : Int32)), (.int c3)])) _
                  refine XS.icmpYes X21.here hx rfl (pc0 := 279) (pc' := 290) rfl (hb hby at_279) rfl (feq hc32_279).2 (by decide) (by decide) ?_
                  show Steps p.tables e below (T21.setTop (mkF m 290 #[.val (.int p1), .val (.int p2), .val (.int p3), .val (.int p4), .val (.int p5), .val (.int p6), .val (.int kd), .val (.int ps), .val (.int mu), .val (.int x0), .val (.int x1), .val (.int x2), .val (.int x3), .val (.int x4), .val (.ref r), .val .null, .val (.int c0), .val (.int c1), .val (.int c2), .val (.int c3)] [])) _
                  exact k
              · show Steps p.tables e below (T21.setTop (mkF m 272 #[.val (.int p1), .val (.int p2), .val (.int p3), .val (.int p4), .val (.int p5), .val (.int p6), .val (.int kd), .val (.int ps), .val (.int mu), .val (.int x0), .val (.int x1), .val (.int x2), .val (.int x3), .val (.int x4), .val (.ref r), .val .null, .val (.int c0), .val (.int c1), .val (.int c2), .val (.int c3)] [(.int (115 : Int32)), (.int c2)])) _
                refine XS.icmpYes X21.here hx rfl (pc0 := 272) (pc' := 290) rfl (hb hby at_272) rfl (feq hc31_272).2 (by decide) (by decide) ?_
                show Steps p.tables e below (T21.setTop (mkF m 290 #[.val (.int p1), .val (.int p2), .val (.int p3), .val (.int p4), .val (.int p5), .val (.int p6), .val (.int kd), .val (.int ps), .val (.int mu), .val (.int x0), .val (.int x1), .val (.int x2), .val (.int x3), .val (.int x4), .val (.ref r), .val .null, .val (.int c0), .val (.int c1), .val (.int c2), .val (.int c3)] [])) _
                exact k
            · show Steps p.tables e below (T21.setTop (mkF m 265 #[.val (.int p1), .val (.int p2), .val (.int p3), .val (.int p4), .val (.int p5), .val (.int p6), .val (.int kd), .val (.int ps), .val (.int mu), .val (.int x0), .val (.int x1), .val (.int x2), .val (.int x3), .val (.int x4), .val (.ref r), .val .null, .val (.int c0), .val (.int c1), .val (.int c2), .val (.int c3)] [(.int (99 : Int32)), (.int c1)])) _
              refine XS.icmpYes X21.here hx rfl (pc0 := 265) (pc' := 290) rfl (hb hby at_265) rfl (feq hc30_265).2 (by decide) (by decide) ?_
              show Steps p.tables e below (T21.setTop (mkF m 290 #[.val (.int p1), .val (.int p2), .val (.int p3), .val (.int p4), .val (.int p5), .val (.int p6), .val (.int kd), .val (.int ps), .val (.int mu), .val (.int x0), .val (.int x1), .val (.int x2), .val (.int x3), .val (.int x4), .val (.ref r), .val .null, .val (.int c0), .val (.int c1), .val (.int c2), .val (.int c3)] [])) _
              exact k
          · show Steps p.tables e below (T21.setTop (mkF m 258 #[.val (.int p1), .val (.int p2), .val (.int p3), .val (.int p4), .val (.int p5), .val (.int p6), .val (.int kd), .val (.int ps), .val (.int mu), .val (.int x0), .val (.int x1), .val (.int x2), .val (.int x3), .val (.int x4), .val (.ref r), .val .null, .val (.int c0), .val (.int c1), .val (.int c2), .val (.int c3)] [(.int (100 : Int32)), (.int c0)])) _
            refine XS.icmpYes X21.here hx rfl (pc0 := 258) (pc' := 290) rfl (hb hby at_258) rfl (feq hc29_258).2 (by decide) (by decide) ?_
            show Steps p.tables e below (T21.setTop (mkF m 290 #[.val (.int p1), .val (.int p2), .val (.int p3), .val (.int p4), .val (.int p5), .val (.int p6), .val (.int kd), .val (.int ps), .val (.int mu), .val (.int x0), .val (.int x1), .val (.int x2), .val (.int x3), .val (.int x4), .val (.ref r), .val .null, .val (.int c0), .val (.int c1), .val (.int c2), .val (.int c3)] [])) _
            exact k
        by_cases hI : c0 = (101 : Int32) ∧ c1 = (100 : Int32) ∧ c2 = (103 : Int32) ∧ c3 = (101 : Int32)
        · skip
          have k34 : ∀ t, Steps p.tables e below (T21.setTop (mkF m 318 #[.val (.int p1), .val (.int p2), .val (.int p3), .val (.int p4), .val (.int p5), .val (.int p6), .val (.int kd), .val (.int ps), .val (.int mu), .val (.int x0), .val (.int x1), .val (.int x2), .val (.int x3), .val (.int x4), .val (.ref r), .val .null, .val (.int c0), .val (.int c1), .val (.int c2), .val (.int c3)] [])) t → Steps p.tables e below (s₁.setTop (entryFrame m #[(.int p1), (.int p2), (.int p3), (.int p4), (.int p5), (.int p6)] maxLocals)) t := by
            intro t k
            refine k33 _ ?_
            show Steps p.tables e below (T21.setTop (mkF m 290 #[.val (.int p1), .val (.int p2), .val (.int p3), .val (.int p4), .val (.int p5), .val (.int p6), .val (.int kd), .val (.int ps), .val (.int mu), .val (.int x0), .val (.int x1), .val (.int x2), .val (.int x3), .val (.int x4), .val (.ref r), .val .null, .val (.int c0), .val (.int c1), .val (.int c2), .val (.int c3)] [])) _
            refine XS.iload X21.here hx rfl (hb hby at_290) rfl ?_
            show Steps p.tables e below (T21.setTop (mkF m 292 #[.val (.int p1), .val (.int p2), .val (.int p3), .val (.int p4), .val (.int p5), .val (.int p6), .val (.int kd), .val (.int ps), .val (.int mu), .val (.int x0), .val (.int x1), .val (.int x2), .val (.int x3), .val (.int x4), .val (.ref r), .val .null, .val (.int c0), .val (.int c1), .val (.int c2), .val (.int c3)] [(.int c0)])) _
            refine XS.bipush X21.here hx rfl (hb hby at_292) ?_
            show Steps p.tables e below (T21.setTop (mkF m 294 #[.val (.int p1), .val (.int p2), .val (.int p3), .val (.int p4), .val (.int p5), .val (.int p6), .val (.int kd), .val (.int ps), .val (.int mu), .val (.int x0), .val (.int x1), .val (.int x2), .val (.int x3), .val (.int x4), .val (.ref r), .val .null, .val (.int c0), .val (.int c1), .val (.int c2), .val (.int c3)] [(.int (101 : Int32)), (.int c0)])) _
            refine XS.icmpNo X21.here hx rfl (hb hby at_294) rfl (teq hI.1).2 ?_
            show Steps p.tables e below (T21.setTop (mkF m 297 #[.val (.int p1), .val (.int p2), .val (.int p3), .val (.int p4), .val (.int p5), .val (.int p6), .val (.int kd), .val (.int ps), .val (.int mu), .val (.int x0), .val (.int x1), .val (.int x2), .val (.int x3), .val (.int x4), .val (.ref r), .val .null, .val (.int c0), .val (.int c1), .val (.int c2), .val (.int c3)] [])) _
            refine XS.iload X21.here hx rfl (hb hby at_297) rfl ?_
            show Steps p.tables e below (T21.setTop (mkF m 299 #[.val (.int p1), .val (.int p2), .val (.int p3), .val (.int p4), .val (.int p5), .val (.int p6), .val (.int kd), .val (.int ps), .val (.int mu), .val (.int x0), .val (.int x1), .val (.int x2), .val (.int x3), .val (.int x4), .val (.ref r), .val .null, .val (.int c0), .val (.int c1), .val (.int c2), .val (.int c3)] [(.int c1)])) _
            refine XS.bipush X21.here hx rfl (hb hby at_299) ?_
            show Steps p.tables e below (T21.setTop (mkF m 301 #[.val (.int p1), .val (.int p2), .val (.int p3), .val (.int p4), .val (.int p5), .val (.int p6), .val (.int kd), .val (.int ps), .val (.int mu), .val (.int x0), .val (.int x1), .val (.int x2), .val (.int x3), .val (.int x4), .val (.ref r), .val .null, .val (.int c0), .val (.int c1), .val (.int c2), .val (.int c3)] [(.int (100 : Int32)), (.int c1)])) _
            refine XS.icmpNo X21.here hx rfl (hb hby at_301) rfl (teq hI.2.1).2 ?_
            show Steps p.tables e below (T21.setTop (mkF m 304 #[.val (.int p1), .val (.int p2), .val (.int p3), .val (.int p4), .val (.int p5), .val (.int p6), .val (.int kd), .val (.int ps), .val (.int mu), .val (.int x0), .val (.int x1), .val (.int x2), .val (.int x3), .val (.int x4), .val (.ref r), .val .null, .val (.int c0), .val (.int c1), .val (.int c2), .val (.int c3)] [])) _
            refine XS.iload X21.here hx rfl (hb hby at_304) rfl ?_
            show Steps p.tables e below (T21.setTop (mkF m 306 #[.val (.int p1), .val (.int p2), .val (.int p3), .val (.int p4), .val (.int p5), .val (.int p6), .val (.int kd), .val (.int ps), .val (.int mu), .val (.int x0), .val (.int x1), .val (.int x2), .val (.int x3), .val (.int x4), .val (.ref r), .val .null, .val (.int c0), .val (.int c1), .val (.int c2), .val (.int c3)] [(.int c2)])) _
            refine XS.bipush X21.here hx rfl (hb hby at_306) ?_
            show Steps p.tables e below (T21.setTop (mkF m 308 #[.val (.int p1), .val (.int p2), .val (.int p3), .val (.int p4), .val (.int p5), .val (.int p6), .val (.int kd), .val (.int ps), .val (.int mu), .val (.int x0), .val (.int x1), .val (.int x2), .val (.int x3), .val (.int x4), .val (.ref r), .val .null, .val (.int c0), .val (.int c1), .val (.int c2), .val (.int c3)] [(.int (103 : Int32)), (.int c2)])) _
            refine XS.icmpNo X21.here hx rfl (hb hby at_308) rfl (teq hI.2.2.1).2 ?_
            show Steps p.tables e below (T21.setTop (mkF m 311 #[.val (.int p1), .val (.int p2), .val (.int p3), .val (.int p4), .val (.int p5), .val (.int p6), .val (.int kd), .val (.int ps), .val (.int mu), .val (.int x0), .val (.int x1), .val (.int x2), .val (.int x3), .val (.int x4), .val (.ref r), .val .null, .val (.int c0), .val (.int c1), .val (.int c2), .val (.int c3)] [])) _
            refine XS.iload X21.here hx rfl (hb hby at_311) rfl ?_
            show Steps p.tables e below (T21.setTop (mkF m 313 #[.val (.int p1), .val (.int p2), .val (.int p3), .val (.int p4), .val (.int p5), .val (.int p6), .val (.int kd), .val (.int ps), .val (.int mu), .val (.int x0), .val (.int x1), .val (.int x2), .val (.int x3), .val (.int x4), .val (.ref r), .val .null, .val (.int c0), .val (.int c1), .val (.int c2), .val (.int c3)] [(.int c3)])) _
            refine XS.bipush X21.here hx rfl (hb hby at_313) ?_
            show Steps p.tables e below (T21.setTop (mkF m 315 #[.val (.int p1), .val (.int p2), .val (.int p3), .val (.int p4), .val (.int p5), .val (.int p6), .val (.int kd), .val (.int ps), .val (.int mu), .val (.int x0), .val (.int x1), .val (.int x2), .val (.int x3), .val (.int x4), .val (.ref r), .val .null, .val (.int c0), .val (.int c1), .val (.int c2), .val (.int c3)] [(.int (101 : Int32)), (.int c3)])) _
            refine XS.icmpNo X21.here hx rfl (hb hby at_315) rfl (teq hI.2.2.2).2 ?_
            show Steps p.tables e below (T21.setTop (mkF m 318 #[.val (.int p1), .val (.int p2), .val (.int p3), .val (.int p4), .val (.int p5), .val (.int p6), .val (.int kd), .val (.int ps), .val (.int mu), .val (.int x0), .val (.int x1), .val (.int x2), .val (.int x3), .val (.int x4), .val (.ref r), .val .null, .val (.int c0), .val (.int c1), .val (.int c2), .val (.int c3)] [])) _
            exact k
          obtain ⟨T35, X35, e35, st35⟩ := getS (host := "") X21 hx hZ hown (hw _ (List.mem_of_getElem? (i := 102) rfl)) Via.refl e21 (S_I.ext od.2) (g := (mkF m 318 #[.val (.int p1), .val (.int p2), .val (.int p3), .val (.int p4), .val (.int p5), .val (.int p6), .val (.int kd), .val (.int ps), .val (.int mu), .val (.int x0), .val (.int x1), .val (.int x2), .val (.int x3), .val (.int x4), .val (.ref r), .val .null, .val (.int c0), .val (.int c1), .val (.int c2), .val (.int c3)] [])) rfl (hb hby at_318)
          have k35 : ∀ t, Steps p.tables e below (T35.setTop (mkF m 321 #[.val (.int p1), .val (.int p2), .val (.int p3), .val (.int p4), .val (.int p5), .val (.int p6), .val (.int kd), .val (.int ps), .val (.int mu), .val (.int x0), .val (.int x1), .val (.int x2), .val (.int x3), .val (.int x4), .val (.ref r), .val .null, .val (.int c0), .val (.int c1), .val (.int c2), .val (.int c3)] [(.ref aI)])) t → Steps p.tables e below (s₁.setTop (entryFrame m #[(.int p1), (.int p2), (.int p3), (.int p4), (.int p5), (.int p6)] maxLocals)) t := fun t k => k34 t (st35 _ k)
          have k36 : ∀ t, Steps p.tables e below (T35.setTop (mkF m 325 #[.val (.int p1), .val (.int p2), .val (.int p3), .val (.int p4), .val (.int p5), .val (.int p6), .val (.int kd), .val (.int ps), .val (.int mu), .val (.int x0), .val (.int x1), .val (.int x2), .val (.int x3), .val (.int x4), .val (.ref r), .val (.ref aI), .val (.int c0), .val (.int c1), .val (.int c2), .val (.int c3)] [(.ref r)])) t → Steps p.tables e below (s₁.setTop (entryFrame m #[(.int p1), (.int p2), (.int p3), (.int p4), (.int p5), (.int p6)] maxLocals)) t := by
            intro t k
            refine k35 _ ?_
            show Steps p.tables e below (T35.setTop (mkF m 321 #[.val (.int p1), .val (.int p2), .val (.int p3), .val (.int p4), .val (.int p5), .val (.int p6), .val (.int kd), .val (.int ps), .val (.int mu), .val (.int x0), .val (.int x1), .val (.int x2), .val (.int x3), .val (.int x4), .val (.ref r), .val .null, .val (.int c0), .val (.int c1), .val (.int c2), .val (.int c3)] [(.ref aI)])) _
            refine XS.astore X35.here hx rfl (hb hby at_321) rfl rfl (l' := #[.val (.int p1), .val (.int p2), .val (.int p3), .val (.int p4), .val (.int p5), .val (.int p6), .val (.int kd), .val (.int ps), .val (.int mu), .val (.int x0), .val (.int x1), .val (.int x2), .val (.int x3), .val (.int x4), .val (.ref r), .val (.ref aI), .val (.int c0), .val (.int c1), .val (.int c2), .val (.int c3)]) rfl ?_
            show Steps p.tables e below (T35.setTop (mkF m 323 #[.val (.int p1), .val (.int p2), .val (.int p3), .val (.int p4), .val (.int p5), .val (.int p6), .val (.int kd), .val (.int ps), .val (.int mu), .val (.int x0), .val (.int x1), .val (.int x2), .val (.int x3), .val (.int x4), .val (.ref r), .val (.ref aI), .val (.int c0), .val (.int c1), .val (.int c2), .val (.int c3)] [])) _
            refine XS.aload X35.here hx rfl (hb hby at_323) rfl rfl ?_
            show Steps p.tables e below (T35.setTop (mkF m 325 #[.val (.int p1), .val (.int p2), .val (.int p3), .val (.int p4), .val (.int p5), .val (.int p6), .val (.int kd), .val (.int ps), .val (.int mu), .val (.int x0), .val (.int x1), .val (.int x2), .val (.int x3), .val (.int x4), .val (.ref r), .val (.ref aI), .val (.int c0), .val (.int c1), .val (.int c2), .val (.int c3)] [(.ref r)])) _
            exact k
          obtain ⟨_, _, ⟨T37, L37, ck37, nk37⟩, -, X37, ⟨Lc37, hQ37, l37, y37, z37⟩, st37⟩ := Jvm.LawKit.callS X35 hx (y := (⟨"com/example/nogood/nogood/problem/InstanceFormat", "named", "(Ljava/lang/String;)Lcom/example/nogood/nogood/problem/InstanceFormat;"⟩ : MethodName)) hown (mvT hZ (hw _ (List.mem_of_getElem? (i := 37) rfl))) (mvT hZ (hw _ (List.mem_of_getElem? (i := 38) rfl))) (mvT hZ (hw _ (List.mem_of_getElem? (i := 39) rfl))) (mvT hZ (hw _ (List.mem_of_getElem? (i := 40) rfl))) (by decide) (backOf (W := 0) (rmNamS l Z a0 hw [] r [c0, c1, c2, c3] va kv aD aI kD kI cs T.heap n0 Zt S_V VV EV od FD FI TD TI S1 hcs TS) hZ (hw _ (List.mem_of_getElem? (i := 40) rfl)) (hw _ (List.mem_of_getElem? (i := 39) rfl)) (by decide) (by decide)) (g := (mkF m 325 #[.val (.int p1), .val (.int p2), .val (.int p3), .val (.int p4), .val (.int p5), .val (.int p6), .val (.int kd), .val (.int ps), .val (.int mu), .val (.int x0), .val (.int x1), .val (.int x2), .val (.int x3), .val (.int x4), .val (.ref r), .val (.ref aI), .val (.int c0), .val (.int c1), .val (.int c2), .val (.int c3)] [(.ref r)])) rfl (by rw [hml]; rfl) (argsL := [(.ref r)]) (rest := []) (lenOf pd_6 rfl) rfl (by show 2 * 0 + _ ≤ _; exact Nat.le_of_eq rfl) (hb hby at_325) (fun _ _ => ⟨rfl, e35, (by decide : 12 + 1 ≤ _), (by decide : 200 + 2 ≤ _)⟩)
          dsimp only [Pt.U, Pt.locs, Pt.cells, Pt.slots] at X37 l37 y37 z37 st37 hQ37
          subst l37 y37 z37
          obtain ⟨rfl, N37q, K37⟩ := hQ37
          have N37 := Fr.app N21 N37q
          have k37 : ∀ t, Steps p.tables e below (T37.setTop (mkF m 328 #[.val (.int p1), .val (.int p2), .val (.int p3), .val (.int p4), .val (.int p5), .val (.int p6), .val (.int kd), .val (.int ps), .val (.int mu), .val (.int x0), .val (.int x1), .val (.int x2), .val (.int x3), .val (.int x4), .val (.ref r), .val (.ref aI), .val (.int c0), .val (.int c1), .val (.int c2), .val (.int c3)] [(own_nm [c0, c1, c2, c3] aD aI)])) t → Steps p.tables e below (s₁.setTop (entryFrame m #[(.int p1), (.int p2), (.int p3), (.int p4), (.int p5), (.int p6)] maxLocals)) t := fun t k => k36 t (st37 _ k)
          have Z38 : n0 ≤ T37.heap.size := Nat.le_trans Zt K37.1
          have zk38 : kz ≤ T37.heap.size := Nat.le_trans hkz K37.1
          rw [show own_nm [c0, c1, c2, c3] aD aI = .ref aI by rw [hI.1, hI.2.1, hI.2.2.1, hI.2.2.2]; exact own_nm_I] at k37
          have k39 : ∀ t, Steps p.tables e below (T37.setTop (mkF m 338 #[.val (.int p1), .val (.int p2), .val (.int p3), .val (.int p4), .val (.int p5), .val (.int p6), .val (.int kd), .val (.int ps), .val (.int mu), .val (.int x0), .val (.int x1), .val (.int x2), .val (.int x3), .val (.int x4), .val (.ref r), .val (.ref aI), .val (.int c0), .val (.int c1), .val (.int c2), .val (.int c3)] [(.int (1 : Int32))])) t → Steps p.tables e below (s₁.setTop (entryFrame m #[(.int p1), (.int p2), (.int p3), (.int p4), (.int p5), (.int p6)] maxLocals)) t := by
            intro t k
            refine k37 _ ?_
            show Steps p.tables e below (T37.setTop (mkF m 328 #[.val (.int p1), .val (.int p2), .val (.int p3), .val (.int p4), .val (.int p5), .val (.int p6), .val (.int kd), .val (.int ps), .val (.int mu), .val (.int x0), .val (.int x1), .val (.int x2), .val (.int x3), .val (.int x4), .val (.ref r), .val (.ref aI), .val (.int c0), .val (.int c1), .val (.int c2), .val (.int c3)] [(.ref aI)])) _
            refine XS.aload X37.here hx rfl (hb hby at_328) rfl rfl ?_
            show Steps p.tables e below (T37.setTop (mkF m 330 #[.val (.int p1), .val (.int p2), .val (.int p3), .val (.int p4), .val (.int p5), .val (.int p6), .val (.int kd), .val (.int ps), .val (.int mu), .val (.int x0), .val (.int x1), .val (.int x2), .val (.int x3), .val (.int x4), .val (.ref r), .val (.ref aI), .val (.int c0), .val (.int c1), .val (.int c2), .val (.int c3)] [(.ref aI), (.ref aI)])) _
            refine Jvm.RoadKit.acmp (g := (mkF m 330 #[.val (.int p1), .val (.int p2), .val (.int p3), .val (.int p4), .val (.int p5), .val (.int p6), .val (.int kd), .val (.int ps), .val (.int mu), .val (.int x0), .val (.int x1), .val (.int x2), .val (.int x3), .val (.int x4), .val (.ref r), .val (.ref aI), .val (.int c0), .val (.int c1), .val (.int c2), .val (.int c3)] [(.ref aI), (.ref aI)])) X37 hx rfl rfl rfl (pc0 := 330) (pc' := 333) (same := true) rfl (hb hby at_330) rfl (decide_eq_true (congrArg Value.ref rfl)) (by decide) (by decide) ?_
            show Steps p.tables e below (T37.setTop (mkF m 333 #[.val (.int p1), .val (.int p2), .val (.int p3), .val (.int p4), .val (.int p5), .val (.int p6), .val (.int kd), .val (.int ps), .val (.int mu), .val (.int x0), .val (.int x1), .val (.int x2), .val (.int x3), .val (.int x4), .val (.ref r), .val (.ref aI), .val (.int c0), .val (.int c1), .val (.int c2), .val (.int c3)] [])) _
            refine XS.iconst X37.here hx rfl (hb hby at_333) ?_
            show Steps p.tables e below (T37.setTop (mkF m 334 #[.val (.int p1), .val (.int p2), .val (.int p3), .val (.int p4), .val (.int p5), .val (.int p6), .val (.int kd), .val (.int ps), .val (.int mu), .val (.int x0), .val (.int x1), .val (.int x2), .val (.int x3), .val (.int x4), .val (.ref r), .val (.ref aI), .val (.int c0), .val (.int c1), .val (.int c2), .val (.int c3)] [(.int (1 : Int32))])) _
            refine XS.goto X37.here hx rfl (pc0 := 334) (pc' := 338) rfl (hb hby at_334) (by decide) (by decide) ?_
            show Steps p.tables e below (T37.setTop (mkF m 338 #[.val (.int p1), .val (.int p2), .val (.int p3), .val (.int p4), .val (.int p5), .val (.int p6), .val (.int kd), .val (.int ps), .val (.int mu), .val (.int x0), .val (.int x1), .val (.int x2), .val (.int x3), .val (.int x4), .val (.ref r), .val (.ref aI), .val (.int c0), .val (.int c1), .val (.int c2), .val (.int c3)] [(.int (1 : Int32))])) _
            exact k
          obtain ⟨fs, hr, hrun, hended, hWe⟩ := Stand.leaveW (s := s) (vm₁ := vmz) X37 (n := kz) hS zk38 (v := some (.int (1 : Int32))) (fun h => by rw [Bd.returns] at h; cases h)
          refine hG ⟨_, _, k39 _ ?_, hrun, hended, _, _, rfl, ?_, hWe.1, hWe.2.1, hWe.2.2.1, hWe.2.2.2.mono (Nat.le_of_ble_eq_true rfl) (Nat.le_of_ble_eq_true rfl)⟩
          · exact retN X37 hx (t := .boolean) Bd.returns (by simp) (hb hby at_338) hr
          · show Q0 Z p1 p2 p3 p4 p5 p6 va kv aD aI kD kI cs vF h0 n0 _ T37.heap _
            skip
            exact ⟨rfl, N37⟩
        · skip
          have k44 : ∀ t, Steps p.tables e below (T21.setTop (mkF m 323 #[.val (.int p1), .val (.int p2), .val (.int p3), .val (.int p4), .val (.int p5), .val (.int p6), .val (.int kd), .val (.int ps), .val (.int mu), .val (.int x0), .val (.int x1), .val (.int x2), .val (.int x3), .val (.int x4), .val (.ref r), .val .null, .val (.int c0), .val (.int c1), .val (.int c2), .val (.int c3)] [])) t → Steps p.tables e below (s₁.setTop (entryFrame m #[(.int p1), (.int p2), (.int p3), (.int p4), (.int p5), (.int p6)] maxLocals)) t := by
            intro t k
            refine k33 _ ?_
            show Steps p.tables e below (T21.setTop (mkF m 290 #[.val (.int p1), .val (.int p2), .val (.int p3), .val (.int p4), .val (.int p5), .val (.int p6), .val (.int kd), .val (.int ps), .val (.int mu), .val (.int x0), .val (.int x1), .val (.int x2), .val (.int x3), .val (.int x4), .val (.ref r), .val .null, .val (.int c0), .val (.int c1), .val (.int c2), .val (.int c3)] [])) _
            refine XS.iload X21.here hx rfl (hb hby at_290) rfl ?_
            show Steps p.tables e below (T21.setTop (mkF m 292 #[.val (.int p1), .val (.int p2), .val (.int p3), .val (.int p4), .val (.int p5), .val (.int p6), .val (.int kd), .val (.int ps), .val (.int mu), .val (.int x0), .val (.int x1), .val (.int x2), .val (.int x3), .val (.int x4), .val (.ref r), .val .null, .val (.int c0), .val (.int c1), .val (.int c2), .val (.int c3)] [(.int c0)])) _
            refine XS.bipush X21.here hx rfl (hb hby at_292) ?_
            show Steps p.tables e below (T21.setTop (mkF m 294 #[.val (.int p1), .val (.int p2), .val (.int p3), .val (.int p4), .val (.int p5), .val (.int p6), .val (.int kd), .val (.int ps), .val (.int mu), .val (.int x0), .val (.int x1), .val (.int x2), .val (.int x3), .val (.int x4), .val (.ref r), .val .null, .val (.int c0), .val (.int c1), .val (.int c2), .val (.int c3)] [(.int (101 : Int32)), (.int c0)])) _
            by_cases hc40_294 : c0 = (101 : Int32)
            · show Steps p.tables e below (T21.setTop (mkF m 294 #[.val (.int p1), .val (.int p2), .val (.int p3), .val (.int p4), .val (.int p5), .val (.int p6), .val (.int kd), .val (.int ps), .val (.int mu), .val (.int x0), .val (.int x1), .val (.int x2), .val (.int x3), .val (.int x4), .val (.ref r), .val .null, .val (.int c0), .val (.int c1), .val (.int c2), .val (.int c3)] [(.int (101 : Int32)), (.int c0)])) _
              refine XS.icmpNo X21.here hx rfl (hb hby at_294) rfl (teq hc40_294).2 ?_
              show Steps p.tables e below (T21.setTop (mkF m 297 #[.val (.int p1), .val (.int p2), .val (.int p3), .val (.int p4), .val (.int p5), .val (.int p6), .val (.int kd), .val (.int ps), .val (.int mu), .val (.int x0), .val (.int x1), .val (.int x2), .val (.int x3), .val (.int x4), .val (.ref r), .val .null, .val (.int c0), .val (.int c1), .val (.int c2), .val (.int c3)] [])) _
              refine XS.iload X21.here hx rfl (hb hby at_297) rfl ?_
              show Steps p.tables e below (T21.setTop (mkF m 299 #[.val (.int p1), .val (.int p2), .val (.int p3), .val (.int p4), .val (.int p5), .val (.int p6), .val (.int kd), .val (.int ps), .val (.int mu), .val (.int x0), .val (.int x1), .val (.int x2), .val (.int x3), .val (.int x4), .val (.ref r), .val .null, .val (.int c0), .val (.int c1), .val (.int c2), .val (.int c3)] [(.int c1)])) _
              refine XS.bipush X21.here hx rfl (hb hby at_299) ?_
              show Steps p.tables e below (T21.setTop (mkF m 301 #[.val (.int p1), .val (.int p2), .val (.int p3), .val (.int p4), .val (.int p5), .val (.int p6), .val (.int kd), .val (.int ps), .val (.int mu), .val (.int x0), .val (.int x1), .val (.int x2), .val (.int x3), .val (.int x4), .val (.ref r), .val .null, .val (.int c0), .val (.int c1), .val (.int c2), .val (.int c3)] [(.int (100 : Int32)), (.int c1)])) _
              by_cases hc41_301 : c1 = (100 : Int32)
              · show Steps p.tables e below (T21.setTop (mkF m 301 #[.val (.int p1), .val (.int p2), .val (.int p3), .val (.int p4), .val (.int p5), .val (.int p6), .val (.int kd), .val (.int ps), .val (.int mu), .val (.int x0), .val (.int x1), .val (.int x2), .val (.int x3), .val (.int x4), .val (.ref r), .val .null, .val (.int c0), .val (.int c1), .val (.int c2), .val (.int c3)] [(.int (100 : Int32)), (.int c1)])) _
                refine XS.icmpNo X21.here hx rfl (hb hby at_301) rfl (teq hc41_301).2 ?_
                show Steps p.tables e below (T21.setTop (mkF m 304 #[.val (.int p1), .val (.int p2), .val (.int p3), .val (.int p4), .val (.int p5), .val (.int p6), .val (.int kd), .val (.int ps), .val (.int mu), .val (.int x0), .val (.int x1), .val (.int x2), .val (.int x3), .val (.int x4), .val (.ref r), .val .null, .val (.int c0), .val (.int c1), .val (.int c2), .val (.int c3)] [])) _
                refine XS.iload X21.here hx rfl (hb hby at_304) rfl ?_
                show Steps p.tables e below (T21.setTop (mkF m 306 #[.val (.int p1), .val (.int p2), .val (.int p3), .val (.int p4), .val (.int p5), .val (.int p6), .val (.int kd), .val (.int ps), .val (.int mu), .val (.int x0), .val (.int x1), .val (.int x2), .val (.int x3), .val (.int x4), .val (.ref r), .val .null, .val (.int c0), .val (.int c1), .val (.int c2), .val (.int c3)] [(.int c2)])) _
                refine XS.bipush X21.here hx rfl (hb hby at_306) ?_
                show Steps p.tables e below (T21.setTop (mkF m 308 #[.val (.int p1), .val (.int p2), .val (.int p3), .val (.int p4), .val (.int p5), .val (.int p6), .val (.int kd), .val (.int ps), .val (.int mu), .val (.int x0), .val (.int x1), .val (.int x2), .val (.int x3), .val (.int x4), .val (.ref r), .val .null, .val (.int c0), .val (.int c1), .val (.int c2), .val (.int c3)] [(.int (103 : Int32)), (.int c2)])) _
                by_cases hc42_308 : c2 = (103 : Int32)
                · show Steps p.tables e below (T21.setTop (mkF m 308 #[.val (.int p1), .val (.int p2), .val (.int p3), .val (.int p4), .val (.int p5), .val (.int p6), .val (.int kd), .val (.int ps), .val (.int mu), .val (.int x0), .val (.int x1), .val (.int x2), .val (.int x3), .val (.int x4), .val (.ref r), .val .null, .val (.int c0), .val (.int c1), .val (.int c2), .val (.int c3)] [(.int (103 : Int32)), (.int c2)])) _
                  refine XS.icmpNo X21.here hx rfl (hb hby at_308) rfl (teq hc42_308).2 ?_
                  show Steps p.tables e below (T21.setTop (mkF m 311 #[.val (.int p1), .val (.int p2), .val (.int p3), .val (.int p4), .val (.int p5), .val (.int p6), .val (.int kd), .val (.int ps), .val (.int mu), .val (.int x0), .val (.int x1), .val (.int x2), .val (.int x3), .val (.int x4), .val (.ref r), .val .null, .val (.int c0), .val (.int c1), .val (.int c2), .val (.int c3)] [])) _
                  refine XS.iload X21.here hx rfl (hb hby at_311) rfl ?_
                  show Steps p.tables e below (T21.setTop (mkF m 313 #[.val (.int p1), .val (.int p2), .val (.int p3), .val (.int p4), .val (.int p5), .val (.int p6), .val (.int kd), .val (.int ps), .val (.int mu), .val (.int x0), .val (.int x1), .val (.int x2), .val (.int x3), .val (.int x4), .val (.ref r), .val .null, .val (.int c0), .val (.int c1), .val (.int c2), .val (.int c3)] [(.int c3)])) _
                  refine XS.bipush X21.here hx rfl (hb hby at_313) ?_
                  show Steps p.tables e below (T21.setTop (mkF m 315 #[.val (.int p1), .val (.int p2), .val (.int p3), .val (.int p4), .val (.int p5), .val (.int p6), .val (.int kd), .val (.int ps), .val (.int mu), .val (.int x0), .val (.int x1), .val (.int x2), .val (.int x3), .val (.int x4), .val (.ref r), .val .null, .val (.int c0), .val (.int c1), .val (.int c2), .val (.int c3)] [(.int (101 : Int32)), (.int c3)])) _
                  by_cases hc43_315 : c3 = (101 : Int32)
                  · exact absurd ⟨hc40_294, hc41_301, hc42_308, hc43_315⟩ hI
                  · show Steps p.tables e below (T21.setTop (mkF m 315 #[.val (.int p1), .val (.int p2), .val (.int p3), .val (.int p4), .val (.int p5), .val (.int p6), .val (.int kd), .val (.int ps), .val (.int mu), .val (.int x0), .val (.int x1), .val (.int x2), .val (.int x3), .val (.int x4), .val (.ref r), .val .null, .val (.int c0), .val (.int c1), .val (.int c2), .val (.int c3)] [(.int (101 : Int32)), (.int c3)])) _
                    refine XS.icmpYes X21.here hx rfl (pc0 := 315) (pc' := 323) rfl (hb hby at_315) rfl (feq hc43_315).2 (by decide) (by decide) ?_
                    show Steps p.tables e below (T21.setTop (mkF m 323 #[.val (.int p1), .val (.int p2), .val (.int p3), .val (.int p4), .val (.int p5), .val (.int p6), .val (.int kd), .val (.int ps), .val (.int mu), .val (.int x0), .val (.int x1), .val (.int x2), .val (.int x3), .val (.int x4), .val (.ref r), .val .null, .val (.int c0), .val (.int c1), .val (.int c2), .val (.int c3)] [])) _
                    exact k
                · show Steps p.tables e below (T21.setTop (mkF m 308 #[.val (.int p1), .val (.int p2), .val (.int p3), .val (.int p4), .val (.int p5), .val (.int p6), .val (.int kd), .val (.int ps), .val (.int mu), .val (.int x0), .val (.int x1), .val (.int x2), .val (.int x3), .val (.int x4), .val (.ref r), .val .null, .val (.int c0), .val (.int c1), .val (.int c2), .val (.int c3)] [(.int (103 : Int32)), (.int c2)])) _
                  refine XS.icmpYes X21.here hx rfl (pc0 := 308) (pc' := 323) rfl (hb hby at_308) rfl (feq hc42_308).2 (by decide) (by decide) ?_
                  show Steps p.tables e below (T21.setTop (mkF m 323 #[.val (.int p1), .val (.int p2), .val (.int p3), .val (.int p4), .val (.int p5), .val (.int p6), .val (.int kd), .val (.int ps), .val (.int mu), .val (.int x0), .val (.int x1), .val (.int x2), .val (.int x3), .val (.int x4), .val (.ref r), .val .null, .val (.int c0), .val (.int c1), .val (.int c2), .val (.int c3)] [])) _
                  exact k
              · show Steps p.tables e below (T21.setTop (mkF m 301 #[.val (.int p1), .val (.int p2), .val (.int p3), .val (.int p4), .val (.int p5), .val (.int p6), .val (.int kd), .val (.int ps), .val (.int mu), .val (.int x0), .val (.int x1), .val (.int x2), .val (.int x3), .val (.int x4), .val (.ref r), .val .null, .val (.int c0), .val (.int c1), .val (.int c2), .val (.int c3)] [(.int (100 : Int32)), (.int c1)])) _
                refine XS.icmpYes X21.here hx rfl (pc0 := 301) (pc' := 323) rfl (hb hby at_301) rfl (feq hc41_301).2 (by decide) (by decide) ?_
                show Steps p.tables e below (T21.setTop (mkF m 323 #[.val (.int p1), .val (.int p2), .val (.int p3), .val (.int p4), .val (.int p5), .val (.int p6), .val (.int kd), .val (.int ps), .val (.int mu), .val (.int x0), .val (.int x1), .val (.int x2), .val (.int x3), .val (.int x4), .val (.ref r), .val .null, .val (.int c0), .val (.int c1), .val (.int c2), .val (.int c3)] [])) _
                exact k
            · show Steps p.tables e below (T21.setTop (mkF m 294 #[.val (.int p1), .val (.int p2), .val (.int p3), .val (.int p4), .val (.int p5), .val (.int p6), .val (.int kd), .val (.int ps), .val (.int mu), .val (.int x0), .val (.int x1), .val (.int x2), .val (.int x3), .val (.int x4), .val (.ref r), .val .null, .val (.int c0), .val (.int c1), .val (.int c2), .val (.int c3)] [(.int (101 : Int32)), (.int c0)])) _
              refine XS.icmpYes X21.here hx rfl (pc0 := 294) (pc' := 323) rfl (hb hby at_294) rfl (feq hc40_294).2 (by decide) (by decide) ?_
              show Steps p.tables e below (T21.setTop (mkF m 323 #[.val (.int p1), .val (.int p2), .val (.int p3), .val (.int p4), .val (.int p5), .val (.int p6), .val (.int kd), .val (.int ps), .val (.int mu), .val (.int x0), .val (.int x1), .val (.int x2), .val (.int x3), .val (.int x4), .val (.ref r), .val .null, .val (.int c0), .val (.int c1), .val (.int c2), .val (.int c3)] [])) _
              exact k
          have k45 : ∀ t, Steps p.tables e below (T21.setTop (mkF m 325 #[.val (.int p1), .val (.int p2), .val (.int p3), .val (.int p4), .val (.int p5), .val (.int p6), .val (.int kd), .val (.int ps), .val (.int mu), .val (.int x0), .val (.int x1), .val (.int x2), .val (.int x3), .val (.int x4), .val (.ref r), .val .null, .val (.int c0), .val (.int c1), .val (.int c2), .val (.int c3)] [(.ref r)])) t → Steps p.tables e below (s₁.setTop (entryFrame m #[(.int p1), (.int p2), (.int p3), (.int p4), (.int p5), (.int p6)] maxLocals)) t := by
            intro t k
            refine k44 _ ?_
            show Steps p.tables e below (T21.setTop (mkF m 323 #[.val (.int p1), .val (.int p2), .val (.int p3), .val (.int p4), .val (.int p5), .val (.int p6), .val (.int kd), .val (.int ps), .val (.int mu), .val (.int x0), .val (.int x1), .val (.int x2), .val (.int x3), .val (.int x4), .val (.ref r), .val .null, .val (.int c0), .val (.int c1), .val (.int c2), .val (.int c3)] [])) _
            refine XS.aload X21.here hx rfl (hb hby at_323) rfl rfl ?_
            show Steps p.tables e below (T21.setTop (mkF m 325 #[.val (.int p1), .val (.int p2), .val (.int p3), .val (.int p4), .val (.int p5), .val (.int p6), .val (.int kd), .val (.int ps), .val (.int mu), .val (.int x0), .val (.int x1), .val (.int x2), .val (.int x3), .val (.int x4), .val (.ref r), .val .null, .val (.int c0), .val (.int c1), .val (.int c2), .val (.int c3)] [(.ref r)])) _
            exact k
          obtain ⟨_, _, ⟨T46, L46, ck46, nk46⟩, -, X46, ⟨Lc46, hQ46, l46, y46, z46⟩, st46⟩ := Jvm.LawKit.callS X21 hx (y := (⟨"com/example/nogood/nogood/problem/InstanceFormat", "named", "(Ljava/lang/String;)Lcom/example/nogood/nogood/problem/InstanceFormat;"⟩ : MethodName)) hown (mvT hZ (hw _ (List.mem_of_getElem? (i := 37) rfl))) (mvT hZ (hw _ (List.mem_of_getElem? (i := 38) rfl))) (mvT hZ (hw _ (List.mem_of_getElem? (i := 39) rfl))) (mvT hZ (hw _ (List.mem_of_getElem? (i := 40) rfl))) (by decide) (backOf (W := 0) (rmNamS l Z a0 hw [] r [c0, c1, c2, c3] va kv aD aI kD kI cs T.heap n0 Zt S_V VV EV od FD FI TD TI S1 hcs TS) hZ (hw _ (List.mem_of_getElem? (i := 40) rfl)) (hw _ (List.mem_of_getElem? (i := 39) rfl)) (by decide) (by decide)) (g := (mkF m 325 #[.val (.int p1), .val (.int p2), .val (.int p3), .val (.int p4), .val (.int p5), .val (.int p6), .val (.int kd), .val (.int ps), .val (.int mu), .val (.int x0), .val (.int x1), .val (.int x2), .val (.int x3), .val (.int x4), .val (.ref r), .val .null, .val (.int c0), .val (.int c1), .val (.int c2), .val (.int c3)] [(.ref r)])) rfl (by rw [hml]; rfl) (argsL := [(.ref r)]) (rest := []) (lenOf pd_6 rfl) rfl (by show 2 * 0 + _ ≤ _; exact Nat.le_of_eq rfl) (hb hby at_325) (fun _ _ => ⟨rfl, e21, (by decide : 12 + 1 ≤ _), (by decide : 200 + 2 ≤ _)⟩)
          dsimp only [Pt.U, Pt.locs, Pt.cells, Pt.slots] at X46 l46 y46 z46 st46 hQ46
          subst l46 y46 z46
          obtain ⟨rfl, N46q, K46⟩ := hQ46
          have N46 := Fr.app N21 N46q
          have k46 : ∀ t, Steps p.tables e below (T46.setTop (mkF m 328 #[.val (.int p1), .val (.int p2), .val (.int p3), .val (.int p4), .val (.int p5), .val (.int p6), .val (.int kd), .val (.int ps), .val (.int mu), .val (.int x0), .val (.int x1), .val (.int x2), .val (.int x3), .val (.int x4), .val (.ref r), .val .null, .val (.int c0), .val (.int c1), .val (.int c2), .val (.int c3)] [(own_nm [c0, c1, c2, c3] aD aI)])) t → Steps p.tables e below (s₁.setTop (entryFrame m #[(.int p1), (.int p2), (.int p3), (.int p4), (.int p5), (.int p6)] maxLocals)) t := fun t k => k45 t (st46 _ k)
          have Z47 : n0 ≤ T46.heap.size := Nat.le_trans Zt K46.1
          have zk47 : kz ≤ T46.heap.size := Nat.le_trans hkz K46.1
          rw [own_nm_null (fun q => hD (by injection q with q0 q; injection q with q1 q; injection q with q2 q; injection q with q3 q; exact ⟨q0.symm, q1.symm, q2.symm, q3.symm⟩)) (fun q => hI (by injection q with q0 q; injection q with q1 q; injection q with q2 q; injection q with q3 q; exact ⟨q0.symm, q1.symm, q2.symm, q3.symm⟩))] at k46
          have k48 : ∀ t, Steps p.tables e below (T46.setTop (mkF m 338 #[.val (.int p1), .val (.int p2), .val (.int p3), .val (.int p4), .val (.int p5), .val (.int p6), .val (.int kd), .val (.int ps), .val (.int mu), .val (.int x0), .val (.int x1), .val (.int x2), .val (.int x3), .val (.int x4), .val (.ref r), .val .null, .val (.int c0), .val (.int c1), .val (.int c2), .val (.int c3)] [(.int (1 : Int32))])) t → Steps p.tables e below (s₁.setTop (entryFrame m #[(.int p1), (.int p2), (.int p3), (.int p4), (.int p5), (.int p6)] maxLocals)) t := by
            intro t k
            refine k46 _ ?_
            show Steps p.tables e below (T46.setTop (mkF m 328 #[.val (.int p1), .val (.int p2), .val (.int p3), .val (.int p4), .val (.int p5), .val (.int p6), .val (.int kd), .val (.int ps), .val (.int mu), .val (.int x0), .val (.int x1), .val (.int x2), .val (.int x3), .val (.int x4), .val (.ref r), .val .null, .val (.int c0), .val (.int c1), .val (.int c2), .val (.int c3)] [.null])) _
            refine XS.aload X46.here hx rfl (hb hby at_328) rfl rfl ?_
            show Steps p.tables e below (T46.setTop (mkF m 330 #[.val (.int p1), .val (.int p2), .val (.int p3), .val (.int p4), .val (.int p5), .val (.int p6), .val (.int kd), .val (.int ps), .val (.int mu), .val (.int x0), .val (.int x1), .val (.int x2), .val (.int x3), .val (.int x4), .val (.ref r), .val .null, .val (.int c0), .val (.int c1), .val (.int c2), .val (.int c3)] [.null, .null])) _
            refine Jvm.RoadKit.acmp (g := (mkF m 330 #[.val (.int p1), .val (.int p2), .val (.int p3), .val (.int p4), .val (.int p5), .val (.int p6), .val (.int kd), .val (.int ps), .val (.int mu), .val (.int x0), .val (.int x1), .val (.int x2), .val (.int x3), .val (.int x4), .val (.ref r), .val .null, .val (.int c0), .val (.int c1), .val (.int c2), .val (.int c3)] [.null, .null])) X46 hx rfl rfl rfl (pc0 := 330) (pc' := 333) (same := true) rfl (hb hby at_330) rfl (decide_eq_true rfl) (by decide) (by decide) ?_
            show Steps p.tables e below (T46.setTop (mkF m 333 #[.val (.int p1), .val (.int p2), .val (.int p3), .val (.int p4), .val (.int p5), .val (.int p6), .val (.int kd), .val (.int ps), .val (.int mu), .val (.int x0), .val (.int x1), .val (.int x2), .val (.int x3), .val (.int x4), .val (.ref r), .val .null, .val (.int c0), .val (.int c1), .val (.int c2), .val (.int c3)] [])) _
            refine XS.iconst X46.here hx rfl (hb hby at_333) ?_
            show Steps p.tables e below (T46.setTop (mkF m 334 #[.val (.int p1), .val (.int p2), .val (.int p3), .val (.int p4), .val (.int p5), .val (.int p6), .val (.int kd), .val (.int ps), .val (.int mu), .val (.int x0), .val (.int x1), .val (.int x2), .val (.int x3), .val (.int x4), .val (.ref r), .val .null, .val (.int c0), .val (.int c1), .val (.int c2), .val (.int c3)] [(.int (1 : Int32))])) _
            refine XS.goto X46.here hx rfl (pc0 := 334) (pc' := 338) rfl (hb hby at_334) (by decide) (by decide) ?_
            show Steps p.tables e below (T46.setTop (mkF m 338 #[.val (.int p1), .val (.int p2), .val (.int p3), .val (.int p4), .val (.int p5), .val (.int p6), .val (.int kd), .val (.int ps), .val (.int mu), .val (.int x0), .val (.int x1), .val (.int x2), .val (.int x3), .val (.int x4), .val (.ref r), .val .null, .val (.int c0), .val (.int c1), .val (.int c2), .val (.int c3)] [(.int (1 : Int32))])) _
            exact k
          obtain ⟨fs, hr, hrun, hended, hWe⟩ := Stand.leaveW (s := s) (vm₁ := vmz) X46 (n := kz) hS zk47 (v := some (.int (1 : Int32))) (fun h => by rw [Bd.returns] at h; cases h)
          refine hG ⟨_, _, k48 _ ?_, hrun, hended, _, _, rfl, ?_, hWe.1, hWe.2.1, hWe.2.2.1, hWe.2.2.2.mono (Nat.le_of_ble_eq_true rfl) (Nat.le_of_ble_eq_true rfl)⟩
          · exact retN X46 hx (t := .boolean) Bd.returns (by simp) (hb hby at_338) hr
          · show Q0 Z p1 p2 p3 p4 p5 p6 va kv aD aI kD kI cs vF h0 n0 _ T46.heap _
            skip
            exact ⟨rfl, N46⟩
    · have hne : ¬ chs.length = 4 := fun q => hl4 ((own_ofNat4 hl5).mpr q)
      have k49 : ∀ t, Steps p.tables e below (T11.setTop (mkF m 325 #[.val (.int p1), .val (.int p2), .val (.int p3), .val (.int p4), .val (.int p5), .val (.int p6), .val (.int kd), .val (.int ps), .val (.int mu), .val (.int x0), .val (.int x1), .val (.int x2), .val (.int x3), .val (.int x4), .val (.ref r), .val .null, .unset, .unset, .unset, .unset] [(.ref r)])) t → Steps p.tables e below (s₁.setTop (entryFrame m #[(.int p1), (.int p2), (.int p3), (.int p4), (.int p5), (.int p6)] maxLocals)) t := by
        intro t k
        refine k12 _ ?_
        show Steps p.tables e below (T11.setTop (mkF m 219 #[.val (.int p1), .val (.int p2), .val (.int p3), .val (.int p4), .val (.int p5), .val (.int p6), .val (.int kd), .val (.int ps), .val (.int mu), .val (.int x0), .val (.int x1), .val (.int x2), .val (.int x3), .val (.int x4), .val (.ref r), .val .null, .unset, .unset, .unset, .unset] [(.int (4 : Int32)), (.int (Int32.ofNat chs.length))])) _
        refine XS.icmpYes X11.here hx rfl (pc0 := 219) (pc' := 323) rfl (hb hby at_219) rfl (feq hl4).2 (by decide) (by decide) ?_
        show Steps p.tables e below (T11.setTop (mkF m 323 #[.val (.int p1), .val (.int p2), .val (.int p3), .val (.int p4), .val (.int p5), .val (.int p6), .val (.int kd), .val (.int ps), .val (.int mu), .val (.int x0), .val (.int x1), .val (.int x2), .val (.int x3), .val (.int x4), .val (.ref r), .val .null, .unset, .unset, .unset, .unset] [])) _
        refine XS.aload X11.here hx rfl (hb hby at_323) rfl rfl ?_
        show Steps p.tables e below (T11.setTop (mkF m 325 #[.val (.int p1), .val (.int p2), .val (.int p3), .val (.int p4), .val (.int p5), .val (.int p6), .val (.int kd), .val (.int ps), .val (.int mu), .val (.int x0), .val (.int x1), .val (.int x2), .val (.int x3), .val (.int x4), .val (.ref r), .val .null, .unset, .unset, .unset, .unset] [(.ref r)])) _
        exact k
      obtain ⟨_, _, ⟨T50, L50, ck50, nk50⟩, -, X50, ⟨Lc50, hQ50, l50, y50, z50⟩, st50⟩ := Jvm.LawKit.callS X11 hx (y := (⟨"com/example/nogood/nogood/problem/InstanceFormat", "named", "(Ljava/lang/String;)Lcom/example/nogood/nogood/problem/InstanceFormat;"⟩ : MethodName)) hown (mvT hZ (hw _ (List.mem_of_getElem? (i := 37) rfl))) (mvT hZ (hw _ (List.mem_of_getElem? (i := 38) rfl))) (mvT hZ (hw _ (List.mem_of_getElem? (i := 39) rfl))) (mvT hZ (hw _ (List.mem_of_getElem? (i := 40) rfl))) (by decide) (backOf (W := 0) (rmNamS l Z a0 hw [] r chs va kv aD aI kD kI cs T.heap n0 Zt S_V VV EV od FD FI TD TI S1 hcs TS) hZ (hw _ (List.mem_of_getElem? (i := 40) rfl)) (hw _ (List.mem_of_getElem? (i := 39) rfl)) (by decide) (by decide)) (g := (mkF m 325 #[.val (.int p1), .val (.int p2), .val (.int p3), .val (.int p4), .val (.int p5), .val (.int p6), .val (.int kd), .val (.int ps), .val (.int mu), .val (.int x0), .val (.int x1), .val (.int x2), .val (.int x3), .val (.int x4), .val (.ref r), .val .null, .unset, .unset, .unset, .unset] [(.ref r)])) rfl (by rw [hml]; rfl) (argsL := [(.ref r)]) (rest := []) (lenOf pd_6 rfl) rfl (by show 2 * 0 + _ ≤ _; exact Nat.le_of_eq rfl) (hb hby at_325) (fun _ _ => ⟨rfl, e11, (by decide : 12 + 1 ≤ _), (by decide : 200 + 2 ≤ _)⟩)
      dsimp only [Pt.U, Pt.locs, Pt.cells, Pt.slots] at X50 l50 y50 z50 st50 hQ50
      subst l50 y50 z50
      obtain ⟨rfl, N50q, K50⟩ := hQ50
      have N50 := Fr.app N11 N50q
      have k50 : ∀ t, Steps p.tables e below (T50.setTop (mkF m 328 #[.val (.int p1), .val (.int p2), .val (.int p3), .val (.int p4), .val (.int p5), .val (.int p6), .val (.int kd), .val (.int ps), .val (.int mu), .val (.int x0), .val (.int x1), .val (.int x2), .val (.int x3), .val (.int x4), .val (.ref r), .val .null, .unset, .unset, .unset, .unset] [(own_nm chs aD aI)])) t → Steps p.tables e below (s₁.setTop (entryFrame m #[(.int p1), (.int p2), (.int p3), (.int p4), (.int p5), (.int p6)] maxLocals)) t := fun t k => k49 t (st50 _ k)
      have Z51 : n0 ≤ T50.heap.size := Nat.le_trans Zt K50.1
      have zk51 : kz ≤ T50.heap.size := Nat.le_trans hkz K50.1
      rw [own_nm_null (fun q => hne (by rw [← q]; rfl)) (fun q => hne (by rw [← q]; rfl))] at k50
      have k52 : ∀ t, Steps p.tables e below (T50.setTop (mkF m 338 #[.val (.int p1), .val (.int p2), .val (.int p3), .val (.int p4), .val (.int p5), .val (.int p6), .val (.int kd), .val (.int ps), .val (.int mu), .val (.int x0), .val (.int x1), .val (.int x2), .val (.int x3), .val (.int x4), .val (.ref r), .val .null, .unset, .unset, .unset, .unset] [(.int (1 : Int32))])) t → Steps p.tables e below (s₁.setTop (entryFrame m #[(.int p1), (.int p2), (.int p3), (.int p4), (.int p5), (.int p6)] maxLocals)) t := by
        intro t k
        refine k50 _ ?_
        show Steps p.tables e below (T50.setTop (mkF m 328 #[.val (.int p1), .val (.int p2), .val (.int p3), .val (.int p4), .val (.int p5), .val (.int p6), .val (.int kd), .val (.int ps), .val (.int mu), .val (.int x0), .val (.int x1), .val (.int x2), .val (.int x3), .val (.int x4), .val (.ref r), .val .null, .unset, .unset, .unset, .unset] [.null])) _
        refine XS.aload X50.here hx rfl (hb hby at_328) rfl rfl ?_
        show Steps p.tables e below (T50.setTop (mkF m 330 #[.val (.int p1), .val (.int p2), .val (.int p3), .val (.int p4), .val (.int p5), .val (.int p6), .val (.int kd), .val (.int ps), .val (.int mu), .val (.int x0), .val (.int x1), .val (.int x2), .val (.int x3), .val (.int x4), .val (.ref r), .val .null, .unset, .unset, .unset, .unset] [.null, .null])) _
        refine Jvm.RoadKit.acmp (g := (mkF m 330 #[.val (.int p1), .val (.int p2), .val (.int p3), .val (.int p4), .val (.int p5), .val (.int p6), .val (.int kd), .val (.int ps), .val (.int mu), .val (.int x0), .val (.int x1), .val (.int x2), .val (.int x3), .val (.int x4), .val (.ref r), .val .null, .unset, .unset, .unset, .unset] [.null, .null])) X50 hx rfl rfl rfl (pc0 := 330) (pc' := 333) (same := true) rfl (hb hby at_330) rfl (decide_eq_true rfl) (by decide) (by decide) ?_
        show Steps p.tables e below (T50.setTop (mkF m 333 #[.val (.int p1), .val (.int p2), .val (.int p3), .val (.int p4), .val (.int p5), .val (.int p6), .val (.int kd), .val (.int ps), .val (.int mu), .val (.int x0), .val (.int x1), .val (.int x2), .val (.int x3), .val (.int x4), .val (.ref r), .val .null, .unset, .unset, .unset, .unset] [])) _
        refine XS.iconst X50.here hx rfl (hb hby at_333) ?_
        show Steps p.tables e below (T50.setTop (mkF m 334 #[.val (.int p1), .val (.int p2), .val (.int p3), .val (.int p4), .val (.int p5), .val (.int p6), .val (.int kd), .val (.int ps), .val (.int mu), .val (.int x0), .val (.int x1), .val (.int x2), .val (.int x3), .val (.int x4), .val (.ref r), .val .null, .unset, .unset, .unset, .unset] [(.int (1 : Int32))])) _
        refine XS.goto X50.here hx rfl (pc0 := 334) (pc' := 338) rfl (hb hby at_334) (by decide) (by decide) ?_
        show Steps p.tables e below (T50.setTop (mkF m 338 #[.val (.int p1), .val (.int p2), .val (.int p3), .val (.int p4), .val (.int p5), .val (.int p6), .val (.int kd), .val (.int ps), .val (.int mu), .val (.int x0), .val (.int x1), .val (.int x2), .val (.int x3), .val (.int x4), .val (.ref r), .val .null, .unset, .unset, .unset, .unset] [(.int (1 : Int32))])) _
        exact k
      obtain ⟨fs, hr, hrun, hended, hWe⟩ := Stand.leaveW (s := s) (vm₁ := vmz) X50 (n := kz) hS zk51 (v := some (.int (1 : Int32))) (fun h => by rw [Bd.returns] at h; cases h)
      refine hG ⟨_, _, k52 _ ?_, hrun, hended, _, _, rfl, ?_, hWe.1, hWe.2.1, hWe.2.2.1, hWe.2.2.2.mono (Nat.le_of_ble_eq_true rfl) (Nat.le_of_ble_eq_true rfl)⟩
      · exact retN X50 hx (t := .boolean) Bd.returns (by simp) (hb hby at_338) hr
      · show Q0 Z p1 p2 p3 p4 p5 p6 va kv aD aI kD kI cs vF h0 n0 _ T50.heap _
        skip
        exact ⟨rfl, N50⟩
  have k53 : ∀ t, Steps p.tables e below (s₁.setTop (mkF m 71 #[.val (.int p1), .val (.int p2), .val (.int p3), .val (.int p4), .val (.int p5), .val (.int p6), .val (.int kd), .val (.int ps), .val (.int mu), .val (.int x0), .val (.int x1), .val (.int x2), .val (.int x3), .val (.int x4), .unset, .unset, .unset, .unset, .unset, .unset] [(.int kd)])) t → Steps p.tables e below (s₁.setTop (entryFrame m #[(.int p1), (.int p2), (.int p3), (.int p4), (.int p5), (.int p6)] maxLocals)) t := by
    intro t k
    refine k9 _ ?_
    show Steps p.tables e below (s₁.setTop (mkF m 69 #[.val (.int p1), .val (.int p2), .val (.int p3), .val (.int p4), .val (.int p5), .val (.int p6), .val (.int kd), .val (.int ps), .val (.int mu), .val (.int x0), .val (.int x1), .val (.int x2), .val (.int x3), .val (.int x4), .unset, .unset, .unset, .unset, .unset, .unset] [])) _
    refine XS.iload X0.here hx rfl (hb hby at_69) rfl ?_
    show Steps p.tables e below (s₁.setTop (mkF m 71 #[.val (.int p1), .val (.int p2), .val (.int p3), .val (.int p4), .val (.int p5), .val (.int p6), .val (.int kd), .val (.int ps), .val (.int mu), .val (.int x0), .val (.int x1), .val (.int x2), .val (.int x3), .val (.int x4), .unset, .unset, .unset, .unset, .unset, .unset] [(.int kd)])) _
    exact k
  by_cases hk0 : kd = (0 : Int32)
  · have k54 : ∀ t, Steps p.tables e below (s₁.setTop (mkF m 85 #[.val (.int p1), .val (.int p2), .val (.int p3), .val (.int p4), .val (.int p5), .val (.int p6), .val (.int kd), .val (.int ps), .val (.int mu), .val (.int x0), .val (.int x1), .val (.int x2), .val (.int x3), .val (.int x4), .unset, .val (.int ((((p1.toUInt32 >>> ((5 : Int32) &&& 31).toUInt32).toInt32) &&& (7 : Int32)) % (6 : Int32))), .unset, .unset, .unset, .unset] [])) t → Steps p.tables e below (s₁.setTop (entryFrame m #[(.int p1), (.int p2), (.int p3), (.int p4), (.int p5), (.int p6)] maxLocals)) t := by
      intro t k
      refine k53 _ ?_
      show Steps p.tables e below (s₁.setTop (mkF m 71 #[.val (.int p1), .val (.int p2), .val (.int p3), .val (.int p4), .val (.int p5), .val (.int p6), .val (.int kd), .val (.int ps), .val (.int mu), .val (.int x0), .val (.int x1), .val (.int x2), .val (.int x3), .val (.int x4), .unset, .unset, .unset, .unset, .unset, .unset] [(.int kd)])) _
      refine XS.ifNo X0.here hx rfl (hb hby at_71) rfl ((if0 _ _).trans (teq hk0).2) ?_
      show Steps p.tables e below (s₁.setTop (mkF m 74 #[.val (.int p1), .val (.int p2), .val (.int p3), .val (.int p4), .val (.int p5), .val (.int p6), .val (.int kd), .val (.int ps), .val (.int mu), .val (.int x0), .val (.int x1), .val (.int x2), .val (.int x3), .val (.int x4), .unset, .unset, .unset, .unset, .unset, .unset] [])) _
      refine XS.iloadN X0.here hx rfl (hb hby at_74) rfl ?_
      show Steps p.tables e below (s₁.setTop (mkF m 75 #[.val (.int p1), .val (.int p2), .val (.int p3), .val (.int p4), .val (.int p5), .val (.int p6), .val (.int kd), .val (.int ps), .val (.int mu), .val (.int x0), .val (.int x1), .val (.int x2), .val (.int x3), .val (.int x4), .unset, .unset, .unset, .unset, .unset, .unset] [(.int p1)])) _
      refine XS.iconst X0.here hx rfl (hb hby at_75) ?_
      show Steps p.tables e below (s₁.setTop (mkF m 76 #[.val (.int p1), .val (.int p2), .val (.int p3), .val (.int p4), .val (.int p5), .val (.int p6), .val (.int kd), .val (.int ps), .val (.int mu), .val (.int x0), .val (.int x1), .val (.int x2), .val (.int x3), .val (.int x4), .unset, .unset, .unset, .unset, .unset, .unset] [(.int (5 : Int32)), (.int p1)])) _
      refine XS.iushr X0.here hx rfl (hb hby at_76) rfl ?_
      show Steps p.tables e below (s₁.setTop (mkF m 77 #[.val (.int p1), .val (.int p2), .val (.int p3), .val (.int p4), .val (.int p5), .val (.int p6), .val (.int kd), .val (.int ps), .val (.int mu), .val (.int x0), .val (.int x1), .val (.int x2), .val (.int x3), .val (.int x4), .unset, .unset, .unset, .unset, .unset, .unset] [(.int ((p1.toUInt32 >>> ((5 : Int32) &&& 31).toUInt32).toInt32))])) _
      refine XS.bipush X0.here hx rfl (hb hby at_77) ?_
      show Steps p.tables e below (s₁.setTop (mkF m 79 #[.val (.int p1), .val (.int p2), .val (.int p3), .val (.int p4), .val (.int p5), .val (.int p6), .val (.int kd), .val (.int ps), .val (.int mu), .val (.int x0), .val (.int x1), .val (.int x2), .val (.int x3), .val (.int x4), .unset, .unset, .unset, .unset, .unset, .unset] [(.int (7 : Int32)), (.int ((p1.toUInt32 >>> ((5 : Int32) &&& 31).toUInt32).toInt32))])) _
      refine XS.iand X0.here hx rfl (hb hby at_79) rfl ?_
      show Steps p.tables e below (s₁.setTop (mkF m 80 #[.val (.int p1), .val (.int p2), .val (.int p3), .val (.int p4), .val (.int p5), .val (.int p6), .val (.int kd), .val (.int ps), .val (.int mu), .val (.int x0), .val (.int x1), .val (.int x2), .val (.int x3), .val (.int x4), .unset, .unset, .unset, .unset, .unset, .unset] [(.int (((p1.toUInt32 >>> ((5 : Int32) &&& 31).toUInt32).toInt32) &&& (7 : Int32)))])) _
      refine XS.bipush X0.here hx rfl (hb hby at_80) ?_
      show Steps p.tables e below (s₁.setTop (mkF m 82 #[.val (.int p1), .val (.int p2), .val (.int p3), .val (.int p4), .val (.int p5), .val (.int p6), .val (.int kd), .val (.int ps), .val (.int mu), .val (.int x0), .val (.int x1), .val (.int x2), .val (.int x3), .val (.int x4), .unset, .unset, .unset, .unset, .unset, .unset] [(.int (6 : Int32)), (.int (((p1.toUInt32 >>> ((5 : Int32) &&& 31).toUInt32).toInt32) &&& (7 : Int32)))])) _
      refine iremM X0 hx rfl (hb hby at_82) rfl (by decide) ?_
      show Steps p.tables e below (s₁.setTop (mkF m 83 #[.val (.int p1), .val (.int p2), .val (.int p3), .val (.int p4), .val (.int p5), .val (.int p6), .val (.int kd), .val (.int ps), .val (.int mu), .val (.int x0), .val (.int x1), .val (.int x2), .val (.int x3), .val (.int x4), .unset, .unset, .unset, .unset, .unset, .unset] [(.int ((((p1.toUInt32 >>> ((5 : Int32) &&& 31).toUInt32).toInt32) &&& (7 : Int32)) % (6 : Int32)))])) _
      refine XS.istore X0.here hx rfl (hb hby at_83) rfl (l' := #[.val (.int p1), .val (.int p2), .val (.int p3), .val (.int p4), .val (.int p5), .val (.int p6), .val (.int kd), .val (.int ps), .val (.int mu), .val (.int x0), .val (.int x1), .val (.int x2), .val (.int x3), .val (.int x4), .unset, .val (.int ((((p1.toUInt32 >>> ((5 : Int32) &&& 31).toUInt32).toInt32) &&& (7 : Int32)) % (6 : Int32))), .unset, .unset, .unset, .unset]) rfl ?_
      show Steps p.tables e below (s₁.setTop (mkF m 85 #[.val (.int p1), .val (.int p2), .val (.int p3), .val (.int p4), .val (.int p5), .val (.int p6), .val (.int kd), .val (.int ps), .val (.int mu), .val (.int x0), .val (.int x1), .val (.int x2), .val (.int x3), .val (.int x4), .unset, .val (.int ((((p1.toUInt32 >>> ((5 : Int32) &&& 31).toUInt32).toInt32) &&& (7 : Int32)) % (6 : Int32))), .unset, .unset, .unset, .unset] [])) _
      exact k
    obtain ⟨nn, eq_nn⟩ : ∃ z : Int32, z = ((((p1.toUInt32 >>> ((5 : Int32) &&& 31).toUInt32).toInt32) &&& (7 : Int32)) % (6 : Int32)) := ⟨_, rfl⟩
    rw [← eq_nn] at k54
    have h6 : nn = 0 ∨ nn = 1 ∨ nn = 2 ∨ nn = 3 ∨ nn = 4 ∨ nn = 5 := by rw [eq_nn]; exact own_mod6 _
    clear eq_nn
    rcases h6 with rfl | rfl | rfl | rfl | rfl | rfl
    · skip
      have k55 : ∀ t, Steps p.tables e below (s₁.setTop (mkF m 97 #[.val (.int p1), .val (.int p2), .val (.int p3), .val (.int p4), .val (.int p5), .val (.int p6), .val (.int kd), .val (.int ps), .val (.int mu), .val (.int x0), .val (.int x1), .val (.int x2), .val (.int x3), .val (.int x4), .unset, .val (.int (0 : Int32)), .unset, .unset, .unset, .unset] [(.int x4), (.int x3), (.int x2), (.int x1), (.int x0), (.int (0 : Int32))])) t → Steps p.tables e below (s₁.setTop (entryFrame m #[(.int p1), (.int p2), (.int p3), (.int p4), (.int p5), (.int p6)] maxLocals)) t := by
        intro t k
        refine k54 _ ?_
        show Steps p.tables e below (s₁.setTop (mkF m 85 #[.val (.int p1), .val (.int p2), .val (.int p3), .val (.int p4), .val (.int p5), .val (.int p6), .val (.int kd), .val (.int ps), .val (.int mu), .val (.int x0), .val (.int x1), .val (.int x2), .val (.int x3), .val (.int x4), .unset, .val (.int (0 : Int32)), .unset, .unset, .unset, .unset] [])) _
        refine XS.iload X0.here hx rfl (hb hby at_85) rfl ?_
        show Steps p.tables e below (s₁.setTop (mkF m 87 #[.val (.int p1), .val (.int p2), .val (.int p3), .val (.int p4), .val (.int p5), .val (.int p6), .val (.int kd), .val (.int ps), .val (.int mu), .val (.int x0), .val (.int x1), .val (.int x2), .val (.int x3), .val (.int x4), .unset, .val (.int (0 : Int32)), .unset, .unset, .unset, .unset] [(.int (0 : Int32))])) _
        refine XS.iload X0.here hx rfl (hb hby at_87) rfl ?_
        show Steps p.tables e below (s₁.setTop (mkF m 89 #[.val (.int p1), .val (.int p2), .val (.int p3), .val (.int p4), .val (.int p5), .val (.int p6), .val (.int kd), .val (.int ps), .val (.int mu), .val (.int x0), .val (.int x1), .val (.int x2), .val (.int x3), .val (.int x4), .unset, .val (.int (0 : Int32)), .unset, .unset, .unset, .unset] [(.int x0), (.int (0 : Int32))])) _
        refine XS.iload X0.here hx rfl (hb hby at_89) rfl ?_
        show Steps p.tables e below (s₁.setTop (mkF m 91 #[.val (.int p1), .val (.int p2), .val (.int p3), .val (.int p4), .val (.int p5), .val (.int p6), .val (.int kd), .val (.int ps), .val (.int mu), .val (.int x0), .val (.int x1), .val (.int x2), .val (.int x3), .val (.int x4), .unset, .val (.int (0 : Int32)), .unset, .unset, .unset, .unset] [(.int x1), (.int x0), (.int (0 : Int32))])) _
        refine XS.iload X0.here hx rfl (hb hby at_91) rfl ?_
        show Steps p.tables e below (s₁.setTop (mkF m 93 #[.val (.int p1), .val (.int p2), .val (.int p3), .val (.int p4), .val (.int p5), .val (.int p6), .val (.int kd), .val (.int ps), .val (.int mu), .val (.int x0), .val (.int x1), .val (.int x2), .val (.int x3), .val (.int x4), .unset, .val (.int (0 : Int32)), .unset, .unset, .unset, .unset] [(.int x2), (.int x1), (.int x0), (.int (0 : Int32))])) _
        refine XS.iload X0.here hx rfl (hb hby at_93) rfl ?_
        show Steps p.tables e below (s₁.setTop (mkF m 95 #[.val (.int p1), .val (.int p2), .val (.int p3), .val (.int p4), .val (.int p5), .val (.int p6), .val (.int kd), .val (.int ps), .val (.int mu), .val (.int x0), .val (.int x1), .val (.int x2), .val (.int x3), .val (.int x4), .unset, .val (.int (0 : Int32)), .unset, .unset, .unset, .unset] [(.int x3), (.int x2), (.int x1), (.int x0), (.int (0 : Int32))])) _
        refine XS.iload X0.here hx rfl (hb hby at_95) rfl ?_
        show Steps p.tables e below (s₁.setTop (mkF m 97 #[.val (.int p1), .val (.int p2), .val (.int p3), .val (.int p4), .val (.int p5), .val (.int p6), .val (.int kd), .val (.int ps), .val (.int mu), .val (.int x0), .val (.int x1), .val (.int x2), .val (.int x3), .val (.int x4), .unset, .val (.int (0 : Int32)), .unset, .unset, .unset, .unset] [(.int x4), (.int x3), (.int x2), (.int x1), (.int x0), (.int (0 : Int32))])) _
        exact k
      obtain ⟨_, _, ⟨T56, L56, ck56, nk56⟩, -, X56, hS56, gr56, ⟨Lc56, hQ56, l56, y56, z56, hC56⟩, st56⟩ := callSS (s := s.setVm s.vm) X0 hx (y := (⟨"com/example/nogood/nogood/problem/InstanceFormatNamedPinLaw", "make", "(ICCCCC)Ljava/lang/String;"⟩ : MethodName)) hown (mvT hZ (hw _ (List.mem_of_getElem? (i := 0) rfl))) (mvT hZ (hw _ (List.mem_of_getElem? (i := 1) rfl))) (mvT hZ (hw _ (List.mem_of_getElem? (i := 2) rfl))) (mvT hZ (hw _ (List.mem_of_getElem? (i := 3) rfl))) (by decide) (backOfSH (s := s) (W := 0) (rmMk0 l Z a0 hw [] x0 x1 x2 x3 x4 h0 n0 Z0) hZ (hw _ (List.mem_of_getElem? (i := 3) rfl)) (hw _ (List.mem_of_getElem? (i := 2) rfl)) (by decide) (by decide) (own_EW hw) (CHr.refl hch0).1) (g := (mkF m 97 #[.val (.int p1), .val (.int p2), .val (.int p3), .val (.int p4), .val (.int p5), .val (.int p6), .val (.int kd), .val (.int ps), .val (.int mu), .val (.int x0), .val (.int x1), .val (.int x2), .val (.int x3), .val (.int x4), .unset, .val (.int (0 : Int32)), .unset, .unset, .unset, .unset] [(.int x4), (.int x3), (.int x2), (.int x1), (.int x0), (.int (0 : Int32))])) rfl (by rw [hml]; rfl) (argsL := [(.int (0 : Int32)), (.int x0), (.int x1), (.int x2), (.int x3), (.int x4)]) (rest := []) (lenOf pd_7 rfl) rfl (by show 2 * 0 + _ ≤ _; exact Nat.le_of_eq rfl) (hb hby at_97) (fun _ _ => ⟨rfl, e0, (by decide : 0 + 6 ≤ _), (by decide : 0 + 12 ≤ _)⟩)
      dsimp only [Pt.U, Pt.locs, Pt.cells, Pt.slots] at X56 l56 y56 z56 st56 hQ56 hS56 gr56 hC56
      subst l56 y56 z56
      obtain ⟨r56, rfl, N56q, K56, TS56⟩ := hQ56
      have N56 := Fr.app N0 N56q
      obtain ⟨X56, hSn56, hZ, hown⟩ := rebS (s := s) (vm0 := s.vm) (vm1 := T56.vm) ((State.WarmedH.refl s).since 0) (by rw [e0]; exact (Nat.zero_le _)) X56 hS56 gr56 hZ hown
      have k56 : ∀ t, Steps p.tables e below (T56.setTop (mkF m 100 #[.val (.int p1), .val (.int p2), .val (.int p3), .val (.int p4), .val (.int p5), .val (.int p6), .val (.int kd), .val (.int ps), .val (.int mu), .val (.int x0), .val (.int x1), .val (.int x2), .val (.int x3), .val (.int x4), .unset, .val (.int (0 : Int32)), .unset, .unset, .unset, .unset] [(.ref r56)])) t → Steps p.tables e below (s₁.setTop (entryFrame m #[(.int p1), (.int p2), (.int p3), (.int p4), (.int p5), (.int p6)] maxLocals)) t := fun t k => k55 t (st56.trans k)
      have Z57 : n0 ≤ T56.heap.size := Nat.le_trans Z0 K56.1
      have k58 : ∀ t, Steps p.tables e below (T56.setTop (mkF m 205 #[.val (.int p1), .val (.int p2), .val (.int p3), .val (.int p4), .val (.int p5), .val (.int p6), .val (.int kd), .val (.int ps), .val (.int mu), .val (.int x0), .val (.int x1), .val (.int x2), .val (.int x3), .val (.int x4), .val (.ref r56), .val (.int (0 : Int32)), .unset, .unset, .unset, .unset] [])) t → Steps p.tables e below (s₁.setTop (entryFrame m #[(.int p1), (.int p2), (.int p3), (.int p4), (.int p5), (.int p6)] maxLocals)) t := by
        intro t k
        refine k56 _ ?_
        show Steps p.tables e below (T56.setTop (mkF m 100 #[.val (.int p1), .val (.int p2), .val (.int p3), .val (.int p4), .val (.int p5), .val (.int p6), .val (.int kd), .val (.int ps), .val (.int mu), .val (.int x0), .val (.int x1), .val (.int x2), .val (.int x3), .val (.int x4), .unset, .val (.int (0 : Int32)), .unset, .unset, .unset, .unset] [(.ref r56)])) _
        refine XS.astore X56.here hx rfl (hb hby at_100) rfl rfl (l' := #[.val (.int p1), .val (.int p2), .val (.int p3), .val (.int p4), .val (.int p5), .val (.int p6), .val (.int kd), .val (.int ps), .val (.int mu), .val (.int x0), .val (.int x1), .val (.int x2), .val (.int x3), .val (.int x4), .val (.ref r56), .val (.int (0 : Int32)), .unset, .unset, .unset, .unset]) rfl ?_
        show Steps p.tables e below (T56.setTop (mkF m 102 #[.val (.int p1), .val (.int p2), .val (.int p3), .val (.int p4), .val (.int p5), .val (.int p6), .val (.int kd), .val (.int ps), .val (.int mu), .val (.int x0), .val (.int x1), .val (.int x2), .val (.int x3), .val (.int x4), .val (.ref r56), .val (.int (0 : Int32)), .unset, .unset, .unset, .unset] [])) _
        refine XS.goto X56.here hx rfl (pc0 := 102) (pc' := 205) rfl (hb hby at_102) (by decide) (by decide) ?_
        show Steps p.tables e below (T56.setTop (mkF m 205 #[.val (.int p1), .val (.int p2), .val (.int p3), .val (.int p4), .val (.int p5), .val (.int p6), .val (.int kd), .val (.int ps), .val (.int mu), .val (.int x0), .val (.int x1), .val (.int x2), .val (.int x3), .val (.int x4), .val (.ref r56), .val (.int (0 : Int32)), .unset, .unset, .unset, .unset] [])) _
        exact k
      have od59 : Old Z n0 T56.heap := (XO.keep K56 all0)
      exact tail T56 _ T56.vm T56.heap.size r56 [] (.val (.int (0 : Int32))) (One.val rfl) (Stand.more X56 (by decide) (by decide)) hSn56 (Nat.le_refl _) hZ hown N56 Z57 od59 TS56 (Nat.le_of_ble_eq_true rfl) k58
    · skip
      have k60 : ∀ t, Steps p.tables e below (s₁.setTop (mkF m 97 #[.val (.int p1), .val (.int p2), .val (.int p3), .val (.int p4), .val (.int p5), .val (.int p6), .val (.int kd), .val (.int ps), .val (.int mu), .val (.int x0), .val (.int x1), .val (.int x2), .val (.int x3), .val (.int x4), .unset, .val (.int (1 : Int32)), .unset, .unset, .unset, .unset] [(.int x4), (.int x3), (.int x2), (.int x1), (.int x0), (.int (1 : Int32))])) t → Steps p.tables e below (s₁.setTop (entryFrame m #[(.int p1), (.int p2), (.int p3), (.int p4), (.int p5), (.int p6)] maxLocals)) t := by
        intro t k
        refine k54 _ ?_
        show Steps p.tables e below (s₁.setTop (mkF m 85 #[.val (.int p1), .val (.int p2), .val (.int p3), .val (.int p4), .val (.int p5), .val (.int p6), .val (.int kd), .val (.int ps), .val (.int mu), .val (.int x0), .val (.int x1), .val (.int x2), .val (.int x3), .val (.int x4), .unset, .val (.int (1 : Int32)), .unset, .unset, .unset, .unset] [])) _
        refine XS.iload X0.here hx rfl (hb hby at_85) rfl ?_
        show Steps p.tables e below (s₁.setTop (mkF m 87 #[.val (.int p1), .val (.int p2), .val (.int p3), .val (.int p4), .val (.int p5), .val (.int p6), .val (.int kd), .val (.int ps), .val (.int mu), .val (.int x0), .val (.int x1), .val (.int x2), .val (.int x3), .val (.int x4), .unset, .val (.int (1 : Int32)), .unset, .unset, .unset, .unset] [(.int (1 : Int32))])) _
        refine XS.iload X0.here hx rfl (hb hby at_87) rfl ?_
        show Steps p.tables e below (s₁.setTop (mkF m 89 #[.val (.int p1), .val (.int p2), .val (.int p3), .val (.int p4), .val (.int p5), .val (.int p6), .val (.int kd), .val (.int ps), .val (.int mu), .val (.int x0), .val (.int x1), .val (.int x2), .val (.int x3), .val (.int x4), .unset, .val (.int (1 : Int32)), .unset, .unset, .unset, .unset] [(.int x0), (.int (1 : Int32))])) _
        refine XS.iload X0.here hx rfl (hb hby at_89) rfl ?_
        show Steps p.tables e below (s₁.setTop (mkF m 91 #[.val (.int p1), .val (.int p2), .val (.int p3), .val (.int p4), .val (.int p5), .val (.int p6), .val (.int kd), .val (.int ps), .val (.int mu), .val (.int x0), .val (.int x1), .val (.int x2), .val (.int x3), .val (.int x4), .unset, .val (.int (1 : Int32)), .unset, .unset, .unset, .unset] [(.int x1), (.int x0), (.int (1 : Int32))])) _
        refine XS.iload X0.here hx rfl (hb hby at_91) rfl ?_
        show Steps p.tables e below (s₁.setTop (mkF m 93 #[.val (.int p1), .val (.int p2), .val (.int p3), .val (.int p4), .val (.int p5), .val (.int p6), .val (.int kd), .val (.int ps), .val (.int mu), .val (.int x0), .val (.int x1), .val (.int x2), .val (.int x3), .val (.int x4), .unset, .val (.int (1 : Int32)), .unset, .unset, .unset, .unset] [(.int x2), (.int x1), (.int x0), (.int (1 : Int32))])) _
        refine XS.iload X0.here hx rfl (hb hby at_93) rfl ?_
        show Steps p.tables e below (s₁.setTop (mkF m 95 #[.val (.int p1), .val (.int p2), .val (.int p3), .val (.int p4), .val (.int p5), .val (.int p6), .val (.int kd), .val (.int ps), .val (.int mu), .val (.int x0), .val (.int x1), .val (.int x2), .val (.int x3), .val (.int x4), .unset, .val (.int (1 : Int32)), .unset, .unset, .unset, .unset] [(.int x3), (.int x2), (.int x1), (.int x0), (.int (1 : Int32))])) _
        refine XS.iload X0.here hx rfl (hb hby at_95) rfl ?_
        show Steps p.tables e below (s₁.setTop (mkF m 97 #[.val (.int p1), .val (.int p2), .val (.int p3), .val (.int p4), .val (.int p5), .val (.int p6), .val (.int kd), .val (.int ps), .val (.int mu), .val (.int x0), .val (.int x1), .val (.int x2), .val (.int x3), .val (.int x4), .unset, .val (.int (1 : Int32)), .unset, .unset, .unset, .unset] [(.int x4), (.int x3), (.int x2), (.int x1), (.int x0), (.int (1 : Int32))])) _
        exact k
      obtain ⟨_, _, ⟨T61, L61, ck61, nk61⟩, -, X61, ⟨Lc61, hQ61, l61, y61, z61⟩, st61⟩ := Jvm.LawKit.callS X0 hx (y := (⟨"com/example/nogood/nogood/problem/InstanceFormatNamedPinLaw", "make", "(ICCCCC)Ljava/lang/String;"⟩ : MethodName)) hown (mvT hZ (hw _ (List.mem_of_getElem? (i := 0) rfl))) (mvT hZ (hw _ (List.mem_of_getElem? (i := 1) rfl))) (mvT hZ (hw _ (List.mem_of_getElem? (i := 2) rfl))) (mvT hZ (hw _ (List.mem_of_getElem? (i := 3) rfl))) (by decide) (backOf (W := 0) (rmMk1 l Z a0 hw [] x0 x1 x2 x3 x4 cs h0 n0 Z0 hx0 hx1 hx2 hx3 hx4 S1 hcs XO) hZ (hw _ (List.mem_of_getElem? (i := 3) rfl)) (hw _ (List.mem_of_getElem? (i := 2) rfl)) (by decide) (by decide)) (g := (mkF m 97 #[.val (.int p1), .val (.int p2), .val (.int p3), .val (.int p4), .val (.int p5), .val (.int p6), .val (.int kd), .val (.int ps), .val (.int mu), .val (.int x0), .val (.int x1), .val (.int x2), .val (.int x3), .val (.int x4), .unset, .val (.int (1 : Int32)), .unset, .unset, .unset, .unset] [(.int x4), (.int x3), (.int x2), (.int x1), (.int x0), (.int (1 : Int32))])) rfl (by rw [hml]; rfl) (argsL := [(.int (1 : Int32)), (.int x0), (.int x1), (.int x2), (.int x3), (.int x4)]) (rest := []) (lenOf pd_7 rfl) rfl (by show 2 * 0 + _ ≤ _; exact Nat.le_of_eq rfl) (hb hby at_97) (fun _ _ => ⟨rfl, e0, (by decide : 0 + 3 ≤ _), (by decide : 0 + 6 ≤ _)⟩)
      dsimp only [Pt.U, Pt.locs, Pt.cells, Pt.slots] at X61 l61 y61 z61 st61 hQ61
      subst l61 y61 z61
      obtain ⟨r61, rfl, N61q, K61, TS61⟩ := hQ61
      have N61 := Fr.app N0 N61q
      have k61 : ∀ t, Steps p.tables e below (T61.setTop (mkF m 100 #[.val (.int p1), .val (.int p2), .val (.int p3), .val (.int p4), .val (.int p5), .val (.int p6), .val (.int kd), .val (.int ps), .val (.int mu), .val (.int x0), .val (.int x1), .val (.int x2), .val (.int x3), .val (.int x4), .unset, .val (.int (1 : Int32)), .unset, .unset, .unset, .unset] [(.ref r61)])) t → Steps p.tables e below (s₁.setTop (entryFrame m #[(.int p1), (.int p2), (.int p3), (.int p4), (.int p5), (.int p6)] maxLocals)) t := fun t k => k60 t (st61 _ k)
      have Z62 : n0 ≤ T61.heap.size := Nat.le_trans Z0 K61.1
      have k63 : ∀ t, Steps p.tables e below (T61.setTop (mkF m 205 #[.val (.int p1), .val (.int p2), .val (.int p3), .val (.int p4), .val (.int p5), .val (.int p6), .val (.int kd), .val (.int ps), .val (.int mu), .val (.int x0), .val (.int x1), .val (.int x2), .val (.int x3), .val (.int x4), .val (.ref r61), .val (.int (1 : Int32)), .unset, .unset, .unset, .unset] [])) t → Steps p.tables e below (s₁.setTop (entryFrame m #[(.int p1), (.int p2), (.int p3), (.int p4), (.int p5), (.int p6)] maxLocals)) t := by
        intro t k
        refine k61 _ ?_
        show Steps p.tables e below (T61.setTop (mkF m 100 #[.val (.int p1), .val (.int p2), .val (.int p3), .val (.int p4), .val (.int p5), .val (.int p6), .val (.int kd), .val (.int ps), .val (.int mu), .val (.int x0), .val (.int x1), .val (.int x2), .val (.int x3), .val (.int x4), .unset, .val (.int (1 : Int32)), .unset, .unset, .unset, .unset] [(.ref r61)])) _
        refine XS.astore X61.here hx rfl (hb hby at_100) rfl rfl (l' := #[.val (.int p1), .val (.int p2), .val (.int p3), .val (.int p4), .val (.int p5), .val (.int p6), .val (.int kd), .val (.int ps), .val (.int mu), .val (.int x0), .val (.int x1), .val (.int x2), .val (.int x3), .val (.int x4), .val (.ref r61), .val (.int (1 : Int32)), .unset, .unset, .unset, .unset]) rfl ?_
        show Steps p.tables e below (T61.setTop (mkF m 102 #[.val (.int p1), .val (.int p2), .val (.int p3), .val (.int p4), .val (.int p5), .val (.int p6), .val (.int kd), .val (.int ps), .val (.int mu), .val (.int x0), .val (.int x1), .val (.int x2), .val (.int x3), .val (.int x4), .val (.ref r61), .val (.int (1 : Int32)), .unset, .unset, .unset, .unset] [])) _
        refine XS.goto X61.here hx rfl (pc0 := 102) (pc' := 205) rfl (hb hby at_102) (by decide) (by decide) ?_
        show Steps p.tables e below (T61.setTop (mkF m 205 #[.val (.int p1), .val (.int p2), .val (.int p3), .val (.int p4), .val (.int p5), .val (.int p6), .val (.int kd), .val (.int ps), .val (.int mu), .val (.int x0), .val (.int x1), .val (.int x2), .val (.int x3), .val (.int x4), .val (.ref r61), .val (.int (1 : Int32)), .unset, .unset, .unset, .unset] [])) _
        exact k
      have od64 : Old Z n0 T61.heap := (XO.keep K61 all0)
      exact tail T61 _ s.vm 0 r61 [x0] (.val (.int (1 : Int32))) (One.val rfl) (Stand.more X61 (by decide) (by decide)) ((State.WarmedH.refl s).since 0) (Nat.zero_le _) hZ hown N61 Z62 od64 TS61 (Nat.le_of_ble_eq_true rfl) k63
    · skip
      have k65 : ∀ t, Steps p.tables e below (s₁.setTop (mkF m 97 #[.val (.int p1), .val (.int p2), .val (.int p3), .val (.int p4), .val (.int p5), .val (.int p6), .val (.int kd), .val (.int ps), .val (.int mu), .val (.int x0), .val (.int x1), .val (.int x2), .val (.int x3), .val (.int x4), .unset, .val (.int (2 : Int32)), .unset, .unset, .unset, .unset] [(.int x4), (.int x3), (.int x2), (.int x1), (.int x0), (.int (2 : Int32))])) t → Steps p.tables e below (s₁.setTop (entryFrame m #[(.int p1), (.int p2), (.int p3), (.int p4), (.int p5), (.int p6)] maxLocals)) t := by
        intro t k
        refine k54 _ ?_
        show Steps p.tables e below (s₁.setTop (mkF m 85 #[.val (.int p1), .val (.int p2), .val (.int p3), .val (.int p4), .val (.int p5), .val (.int p6), .val (.int kd), .val (.int ps), .val (.int mu), .val (.int x0), .val (.int x1), .val (.int x2), .val (.int x3), .val (.int x4), .unset, .val (.int (2 : Int32)), .unset, .unset, .unset, .unset] [])) _
        refine XS.iload X0.here hx rfl (hb hby at_85) rfl ?_
        show Steps p.tables e below (s₁.setTop (mkF m 87 #[.val (.int p1), .val (.int p2), .val (.int p3), .val (.int p4), .val (.int p5), .val (.int p6), .val (.int kd), .val (.int ps), .val (.int mu), .val (.int x0), .val (.int x1), .val (.int x2), .val (.int x3), .val (.int x4), .unset, .val (.int (2 : Int32)), .unset, .unset, .unset, .unset] [(.int (2 : Int32))])) _
        refine XS.iload X0.here hx rfl (hb hby at_87) rfl ?_
        show Steps p.tables e below (s₁.setTop (mkF m 89 #[.val (.int p1), .val (.int p2), .val (.int p3), .val (.int p4), .val (.int p5), .val (.int p6), .val (.int kd), .val (.int ps), .val (.int mu), .val (.int x0), .val (.int x1), .val (.int x2), .val (.int x3), .val (.int x4), .unset, .val (.int (2 : Int32)), .unset, .unset, .unset, .unset] [(.int x0), (.int (2 : Int32))])) _
        refine XS.iload X0.here hx rfl (hb hby at_89) rfl ?_
        show Steps p.tables e below (s₁.setTop (mkF m 91 #[.val (.int p1), .val (.int p2), .val (.int p3), .val (.int p4), .val (.int p5), .val (.int p6), .val (.int kd), .val (.int ps), .val (.int mu), .val (.int x0), .val (.int x1), .val (.int x2), .val (.int x3), .val (.int x4), .unset, .val (.int (2 : Int32)), .unset, .unset, .unset, .unset] [(.int x1), (.int x0), (.int (2 : Int32))])) _
        refine XS.iload X0.here hx rfl (hb hby at_91) rfl ?_
        show Steps p.tables e below (s₁.setTop (mkF m 93 #[.val (.int p1), .val (.int p2), .val (.int p3), .val (.int p4), .val (.int p5), .val (.int p6), .val (.int kd), .val (.int ps), .val (.int mu), .val (.int x0), .val (.int x1), .val (.int x2), .val (.int x3), .val (.int x4), .unset, .val (.int (2 : Int32)), .unset, .unset, .unset, .unset] [(.int x2), (.int x1), (.int x0), (.int (2 : Int32))])) _
        refine XS.iload X0.here hx rfl (hb hby at_93) rfl ?_
        show Steps p.tables e below (s₁.setTop (mkF m 95 #[.val (.int p1), .val (.int p2), .val (.int p3), .val (.int p4), .val (.int p5), .val (.int p6), .val (.int kd), .val (.int ps), .val (.int mu), .val (.int x0), .val (.int x1), .val (.int x2), .val (.int x3), .val (.int x4), .unset, .val (.int (2 : Int32)), .unset, .unset, .unset, .unset] [(.int x3), (.int x2), (.int x1), (.int x0), (.int (2 : Int32))])) _
        refine XS.iload X0.here hx rfl (hb hby at_95) rfl ?_
        show Steps p.tables e below (s₁.setTop (mkF m 97 #[.val (.int p1), .val (.int p2), .val (.int p3), .val (.int p4), .val (.int p5), .val (.int p6), .val (.int kd), .val (.int ps), .val (.int mu), .val (.int x0), .val (.int x1), .val (.int x2), .val (.int x3), .val (.int x4), .unset, .val (.int (2 : Int32)), .unset, .unset, .unset, .unset] [(.int x4), (.int x3), (.int x2), (.int x1), (.int x0), (.int (2 : Int32))])) _
        exact k
      obtain ⟨_, _, ⟨T66, L66, ck66, nk66⟩, -, X66, ⟨Lc66, hQ66, l66, y66, z66⟩, st66⟩ := Jvm.LawKit.callS X0 hx (y := (⟨"com/example/nogood/nogood/problem/InstanceFormatNamedPinLaw", "make", "(ICCCCC)Ljava/lang/String;"⟩ : MethodName)) hown (mvT hZ (hw _ (List.mem_of_getElem? (i := 0) rfl))) (mvT hZ (hw _ (List.mem_of_getElem? (i := 1) rfl))) (mvT hZ (hw _ (List.mem_of_getElem? (i := 2) rfl))) (mvT hZ (hw _ (List.mem_of_getElem? (i := 3) rfl))) (by decide) (backOf (W := 0) (rmMk2 l Z a0 hw [] x0 x1 x2 x3 x4 cs h0 n0 Z0 hx0 hx1 hx2 hx3 hx4 S1 hcs XO) hZ (hw _ (List.mem_of_getElem? (i := 3) rfl)) (hw _ (List.mem_of_getElem? (i := 2) rfl)) (by decide) (by decide)) (g := (mkF m 97 #[.val (.int p1), .val (.int p2), .val (.int p3), .val (.int p4), .val (.int p5), .val (.int p6), .val (.int kd), .val (.int ps), .val (.int mu), .val (.int x0), .val (.int x1), .val (.int x2), .val (.int x3), .val (.int x4), .unset, .val (.int (2 : Int32)), .unset, .unset, .unset, .unset] [(.int x4), (.int x3), (.int x2), (.int x1), (.int x0), (.int (2 : Int32))])) rfl (by rw [hml]; rfl) (argsL := [(.int (2 : Int32)), (.int x0), (.int x1), (.int x2), (.int x3), (.int x4)]) (rest := []) (lenOf pd_7 rfl) rfl (by show 2 * 0 + _ ≤ _; exact Nat.le_of_eq rfl) (hb hby at_97) (fun _ _ => ⟨rfl, e0, (by decide : 0 + 3 ≤ _), (by decide : 0 + 8 ≤ _)⟩)
      dsimp only [Pt.U, Pt.locs, Pt.cells, Pt.slots] at X66 l66 y66 z66 st66 hQ66
      subst l66 y66 z66
      obtain ⟨r66, rfl, N66q, K66, TS66⟩ := hQ66
      have N66 := Fr.app N0 N66q
      have k66 : ∀ t, Steps p.tables e below (T66.setTop (mkF m 100 #[.val (.int p1), .val (.int p2), .val (.int p3), .val (.int p4), .val (.int p5), .val (.int p6), .val (.int kd), .val (.int ps), .val (.int mu), .val (.int x0), .val (.int x1), .val (.int x2), .val (.int x3), .val (.int x4), .unset, .val (.int (2 : Int32)), .unset, .unset, .unset, .unset] [(.ref r66)])) t → Steps p.tables e below (s₁.setTop (entryFrame m #[(.int p1), (.int p2), (.int p3), (.int p4), (.int p5), (.int p6)] maxLocals)) t := fun t k => k65 t (st66 _ k)
      have Z67 : n0 ≤ T66.heap.size := Nat.le_trans Z0 K66.1
      have k68 : ∀ t, Steps p.tables e below (T66.setTop (mkF m 205 #[.val (.int p1), .val (.int p2), .val (.int p3), .val (.int p4), .val (.int p5), .val (.int p6), .val (.int kd), .val (.int ps), .val (.int mu), .val (.int x0), .val (.int x1), .val (.int x2), .val (.int x3), .val (.int x4), .val (.ref r66), .val (.int (2 : Int32)), .unset, .unset, .unset, .unset] [])) t → Steps p.tables e below (s₁.setTop (entryFrame m #[(.int p1), (.int p2), (.int p3), (.int p4), (.int p5), (.int p6)] maxLocals)) t := by
        intro t k
        refine k66 _ ?_
        show Steps p.tables e below (T66.setTop (mkF m 100 #[.val (.int p1), .val (.int p2), .val (.int p3), .val (.int p4), .val (.int p5), .val (.int p6), .val (.int kd), .val (.int ps), .val (.int mu), .val (.int x0), .val (.int x1), .val (.int x2), .val (.int x3), .val (.int x4), .unset, .val (.int (2 : Int32)), .unset, .unset, .unset, .unset] [(.ref r66)])) _
        refine XS.astore X66.here hx rfl (hb hby at_100) rfl rfl (l' := #[.val (.int p1), .val (.int p2), .val (.int p3), .val (.int p4), .val (.int p5), .val (.int p6), .val (.int kd), .val (.int ps), .val (.int mu), .val (.int x0), .val (.int x1), .val (.int x2), .val (.int x3), .val (.int x4), .val (.ref r66), .val (.int (2 : Int32)), .unset, .unset, .unset, .unset]) rfl ?_
        show Steps p.tables e below (T66.setTop (mkF m 102 #[.val (.int p1), .val (.int p2), .val (.int p3), .val (.int p4), .val (.int p5), .val (.int p6), .val (.int kd), .val (.int ps), .val (.int mu), .val (.int x0), .val (.int x1), .val (.int x2), .val (.int x3), .val (.int x4), .val (.ref r66), .val (.int (2 : Int32)), .unset, .unset, .unset, .unset] [])) _
        refine XS.goto X66.here hx rfl (pc0 := 102) (pc' := 205) rfl (hb hby at_102) (by decide) (by decide) ?_
        show Steps p.tables e below (T66.setTop (mkF m 205 #[.val (.int p1), .val (.int p2), .val (.int p3), .val (.int p4), .val (.int p5), .val (.int p6), .val (.int kd), .val (.int ps), .val (.int mu), .val (.int x0), .val (.int x1), .val (.int x2), .val (.int x3), .val (.int x4), .val (.ref r66), .val (.int (2 : Int32)), .unset, .unset, .unset, .unset] [])) _
        exact k
      have od69 : Old Z n0 T66.heap := (XO.keep K66 all0)
      exact tail T66 _ s.vm 0 r66 [x0, x1] (.val (.int (2 : Int32))) (One.val rfl) (Stand.more X66 (by decide) (by decide)) ((State.WarmedH.refl s).since 0) (Nat.zero_le _) hZ hown N66 Z67 od69 TS66 (Nat.le_of_ble_eq_true rfl) k68
    · skip
      have k70 : ∀ t, Steps p.tables e below (s₁.setTop (mkF m 97 #[.val (.int p1), .val (.int p2), .val (.int p3), .val (.int p4), .val (.int p5), .val (.int p6), .val (.int kd), .val (.int ps), .val (.int mu), .val (.int x0), .val (.int x1), .val (.int x2), .val (.int x3), .val (.int x4), .unset, .val (.int (3 : Int32)), .unset, .unset, .unset, .unset] [(.int x4), (.int x3), (.int x2), (.int x1), (.int x0), (.int (3 : Int32))])) t → Steps p.tables e below (s₁.setTop (entryFrame m #[(.int p1), (.int p2), (.int p3), (.int p4), (.int p5), (.int p6)] maxLocals)) t := by
        intro t k
        refine k54 _ ?_
        show Steps p.tables e below (s₁.setTop (mkF m 85 #[.val (.int p1), .val (.int p2), .val (.int p3), .val (.int p4), .val (.int p5), .val (.int p6), .val (.int kd), .val (.int ps), .val (.int mu), .val (.int x0), .val (.int x1), .val (.int x2), .val (.int x3), .val (.int x4), .unset, .val (.int (3 : Int32)), .unset, .unset, .unset, .unset] [])) _
        refine XS.iload X0.here hx rfl (hb hby at_85) rfl ?_
        show Steps p.tables e below (s₁.setTop (mkF m 87 #[.val (.int p1), .val (.int p2), .val (.int p3), .val (.int p4), .val (.int p5), .val (.int p6), .val (.int kd), .val (.int ps), .val (.int mu), .val (.int x0), .val (.int x1), .val (.int x2), .val (.int x3), .val (.int x4), .unset, .val (.int (3 : Int32)), .unset, .unset, .unset, .unset] [(.int (3 : Int32))])) _
        refine XS.iload X0.here hx rfl (hb hby at_87) rfl ?_
        show Steps p.tables e below (s₁.setTop (mkF m 89 #[.val (.int p1), .val (.int p2), .val (.int p3), .val (.int p4), .val (.int p5), .val (.int p6), .val (.int kd), .val (.int ps), .val (.int mu), .val (.int x0), .val (.int x1), .val (.int x2), .val (.int x3), .val (.int x4), .unset, .val (.int (3 : Int32)), .unset, .unset, .unset, .unset] [(.int x0), (.int (3 : Int32))])) _
        refine XS.iload X0.here hx rfl (hb hby at_89) rfl ?_
        show Steps p.tables e below (s₁.setTop (mkF m 91 #[.val (.int p1), .val (.int p2), .val (.int p3), .val (.int p4), .val (.int p5), .val (.int p6), .val (.int kd), .val (.int ps), .val (.int mu), .val (.int x0), .val (.int x1), .val (.int x2), .val (.int x3), .val (.int x4), .unset, .val (.int (3 : Int32)), .unset, .unset, .unset, .unset] [(.int x1), (.int x0), (.int (3 : Int32))])) _
        refine XS.iload X0.here hx rfl (hb hby at_91) rfl ?_
        show Steps p.tables e below (s₁.setTop (mkF m 93 #[.val (.int p1), .val (.int p2), .val (.int p3), .val (.int p4), .val (.int p5), .val (.int p6), .val (.int kd), .val (.int ps), .val (.int mu), .val (.int x0), .val (.int x1), .val (.int x2), .val (.int x3), .val (.int x4), .unset, .val (.int (3 : Int32)), .unset, .unset, .unset, .unset] [(.int x2), (.int x1), (.int x0), (.int (3 : Int32))])) _
        refine XS.iload X0.here hx rfl (hb hby at_93) rfl ?_
        show Steps p.tables e below (s₁.setTop (mkF m 95 #[.val (.int p1), .val (.int p2), .val (.int p3), .val (.int p4), .val (.int p5), .val (.int p6), .val (.int kd), .val (.int ps), .val (.int mu), .val (.int x0), .val (.int x1), .val (.int x2), .val (.int x3), .val (.int x4), .unset, .val (.int (3 : Int32)), .unset, .unset, .unset, .unset] [(.int x3), (.int x2), (.int x1), (.int x0), (.int (3 : Int32))])) _
        refine XS.iload X0.here hx rfl (hb hby at_95) rfl ?_
        show Steps p.tables e below (s₁.setTop (mkF m 97 #[.val (.int p1), .val (.int p2), .val (.int p3), .val (.int p4), .val (.int p5), .val (.int p6), .val (.int kd), .val (.int ps), .val (.int mu), .val (.int x0), .val (.int x1), .val (.int x2), .val (.int x3), .val (.int x4), .unset, .val (.int (3 : Int32)), .unset, .unset, .unset, .unset] [(.int x4), (.int x3), (.int x2), (.int x1), (.int x0), (.int (3 : Int32))])) _
        exact k
      obtain ⟨_, _, ⟨T71, L71, ck71, nk71⟩, -, X71, ⟨Lc71, hQ71, l71, y71, z71⟩, st71⟩ := Jvm.LawKit.callS X0 hx (y := (⟨"com/example/nogood/nogood/problem/InstanceFormatNamedPinLaw", "make", "(ICCCCC)Ljava/lang/String;"⟩ : MethodName)) hown (mvT hZ (hw _ (List.mem_of_getElem? (i := 0) rfl))) (mvT hZ (hw _ (List.mem_of_getElem? (i := 1) rfl))) (mvT hZ (hw _ (List.mem_of_getElem? (i := 2) rfl))) (mvT hZ (hw _ (List.mem_of_getElem? (i := 3) rfl))) (by decide) (backOf (W := 0) (rmMk3 l Z a0 hw [] x0 x1 x2 x3 x4 cs h0 n0 Z0 hx0 hx1 hx2 hx3 hx4 S1 hcs XO) hZ (hw _ (List.mem_of_getElem? (i := 3) rfl)) (hw _ (List.mem_of_getElem? (i := 2) rfl)) (by decide) (by decide)) (g := (mkF m 97 #[.val (.int p1), .val (.int p2), .val (.int p3), .val (.int p4), .val (.int p5), .val (.int p6), .val (.int kd), .val (.int ps), .val (.int mu), .val (.int x0), .val (.int x1), .val (.int x2), .val (.int x3), .val (.int x4), .unset, .val (.int (3 : Int32)), .unset, .unset, .unset, .unset] [(.int x4), (.int x3), (.int x2), (.int x1), (.int x0), (.int (3 : Int32))])) rfl (by rw [hml]; rfl) (argsL := [(.int (3 : Int32)), (.int x0), (.int x1), (.int x2), (.int x3), (.int x4)]) (rest := []) (lenOf pd_7 rfl) rfl (by show 2 * 0 + _ ≤ _; exact Nat.le_of_eq rfl) (hb hby at_97) (fun _ _ => ⟨rfl, e0, (by decide : 0 + 3 ≤ _), (by decide : 0 + 10 ≤ _)⟩)
      dsimp only [Pt.U, Pt.locs, Pt.cells, Pt.slots] at X71 l71 y71 z71 st71 hQ71
      subst l71 y71 z71
      obtain ⟨r71, rfl, N71q, K71, TS71⟩ := hQ71
      have N71 := Fr.app N0 N71q
      have k71 : ∀ t, Steps p.tables e below (T71.setTop (mkF m 100 #[.val (.int p1), .val (.int p2), .val (.int p3), .val (.int p4), .val (.int p5), .val (.int p6), .val (.int kd), .val (.int ps), .val (.int mu), .val (.int x0), .val (.int x1), .val (.int x2), .val (.int x3), .val (.int x4), .unset, .val (.int (3 : Int32)), .unset, .unset, .unset, .unset] [(.ref r71)])) t → Steps p.tables e below (s₁.setTop (entryFrame m #[(.int p1), (.int p2), (.int p3), (.int p4), (.int p5), (.int p6)] maxLocals)) t := fun t k => k70 t (st71 _ k)
      have Z72 : n0 ≤ T71.heap.size := Nat.le_trans Z0 K71.1
      have k73 : ∀ t, Steps p.tables e below (T71.setTop (mkF m 205 #[.val (.int p1), .val (.int p2), .val (.int p3), .val (.int p4), .val (.int p5), .val (.int p6), .val (.int kd), .val (.int ps), .val (.int mu), .val (.int x0), .val (.int x1), .val (.int x2), .val (.int x3), .val (.int x4), .val (.ref r71), .val (.int (3 : Int32)), .unset, .unset, .unset, .unset] [])) t → Steps p.tables e below (s₁.setTop (entryFrame m #[(.int p1), (.int p2), (.int p3), (.int p4), (.int p5), (.int p6)] maxLocals)) t := by
        intro t k
        refine k71 _ ?_
        show Steps p.tables e below (T71.setTop (mkF m 100 #[.val (.int p1), .val (.int p2), .val (.int p3), .val (.int p4), .val (.int p5), .val (.int p6), .val (.int kd), .val (.int ps), .val (.int mu), .val (.int x0), .val (.int x1), .val (.int x2), .val (.int x3), .val (.int x4), .unset, .val (.int (3 : Int32)), .unset, .unset, .unset, .unset] [(.ref r71)])) _
        refine XS.astore X71.here hx rfl (hb hby at_100) rfl rfl (l' := #[.val (.int p1), .val (.int p2), .val (.int p3), .val (.int p4), .val (.int p5), .val (.int p6), .val (.int kd), .val (.int ps), .val (.int mu), .val (.int x0), .val (.int x1), .val (.int x2), .val (.int x3), .val (.int x4), .val (.ref r71), .val (.int (3 : Int32)), .unset, .unset, .unset, .unset]) rfl ?_
        show Steps p.tables e below (T71.setTop (mkF m 102 #[.val (.int p1), .val (.int p2), .val (.int p3), .val (.int p4), .val (.int p5), .val (.int p6), .val (.int kd), .val (.int ps), .val (.int mu), .val (.int x0), .val (.int x1), .val (.int x2), .val (.int x3), .val (.int x4), .val (.ref r71), .val (.int (3 : Int32)), .unset, .unset, .unset, .unset] [])) _
        refine XS.goto X71.here hx rfl (pc0 := 102) (pc' := 205) rfl (hb hby at_102) (by decide) (by decide) ?_
        show Steps p.tables e below (T71.setTop (mkF m 205 #[.val (.int p1), .val (.int p2), .val (.int p3), .val (.int p4), .val (.int p5), .val (.int p6), .val (.int kd), .val (.int ps), .val (.int mu), .val (.int x0), .val (.int x1), .val (.int x2), .val (.int x3), .val (.int x4), .val (.ref r71), .val (.int (3 : Int32)), .unset, .unset, .unset, .unset] [])) _
        exact k
      have od74 : Old Z n0 T71.heap := (XO.keep K71 all0)
      exact tail T71 _ s.vm 0 r71 [x0, x1, x2] (.val (.int (3 : Int32))) (One.val rfl) (Stand.more X71 (by decide) (by decide)) ((State.WarmedH.refl s).since 0) (Nat.zero_le _) hZ hown N71 Z72 od74 TS71 (Nat.le_of_ble_eq_true rfl) k73
    · skip
      have k75 : ∀ t, Steps p.tables e below (s₁.setTop (mkF m 97 #[.val (.int p1), .val (.int p2), .val (.int p3), .val (.int p4), .val (.int p5), .val (.int p6), .val (.int kd), .val (.int ps), .val (.int mu), .val (.int x0), .val (.int x1), .val (.int x2), .val (.int x3), .val (.int x4), .unset, .val (.int (4 : Int32)), .unset, .unset, .unset, .unset] [(.int x4), (.int x3), (.int x2), (.int x1), (.int x0), (.int (4 : Int32))])) t → Steps p.tables e below (s₁.setTop (entryFrame m #[(.int p1), (.int p2), (.int p3), (.int p4), (.int p5), (.int p6)] maxLocals)) t := by
        intro t k
        refine k54 _ ?_
        show Steps p.tables e below (s₁.setTop (mkF m 85 #[.val (.int p1), .val (.int p2), .val (.int p3), .val (.int p4), .val (.int p5), .val (.int p6), .val (.int kd), .val (.int ps), .val (.int mu), .val (.int x0), .val (.int x1), .val (.int x2), .val (.int x3), .val (.int x4), .unset, .val (.int (4 : Int32)), .unset, .unset, .unset, .unset] [])) _
        refine XS.iload X0.here hx rfl (hb hby at_85) rfl ?_
        show Steps p.tables e below (s₁.setTop (mkF m 87 #[.val (.int p1), .val (.int p2), .val (.int p3), .val (.int p4), .val (.int p5), .val (.int p6), .val (.int kd), .val (.int ps), .val (.int mu), .val (.int x0), .val (.int x1), .val (.int x2), .val (.int x3), .val (.int x4), .unset, .val (.int (4 : Int32)), .unset, .unset, .unset, .unset] [(.int (4 : Int32))])) _
        refine XS.iload X0.here hx rfl (hb hby at_87) rfl ?_
        show Steps p.tables e below (s₁.setTop (mkF m 89 #[.val (.int p1), .val (.int p2), .val (.int p3), .val (.int p4), .val (.int p5), .val (.int p6), .val (.int kd), .val (.int ps), .val (.int mu), .val (.int x0), .val (.int x1), .val (.int x2), .val (.int x3), .val (.int x4), .unset, .val (.int (4 : Int32)), .unset, .unset, .unset, .unset] [(.int x0), (.int (4 : Int32))])) _
        refine XS.iload X0.here hx rfl (hb hby at_89) rfl ?_
        show Steps p.tables e below (s₁.setTop (mkF m 91 #[.val (.int p1), .val (.int p2), .val (.int p3), .val (.int p4), .val (.int p5), .val (.int p6), .val (.int kd), .val (.int ps), .val (.int mu), .val (.int x0), .val (.int x1), .val (.int x2), .val (.int x3), .val (.int x4), .unset, .val (.int (4 : Int32)), .unset, .unset, .unset, .unset] [(.int x1), (.int x0), (.int (4 : Int32))])) _
        refine XS.iload X0.here hx rfl (hb hby at_91) rfl ?_
        show Steps p.tables e below (s₁.setTop (mkF m 93 #[.val (.int p1), .val (.int p2), .val (.int p3), .val (.int p4), .val (.int p5), .val (.int p6), .val (.int kd), .val (.int ps), .val (.int mu), .val (.int x0), .val (.int x1), .val (.int x2), .val (.int x3), .val (.int x4), .unset, .val (.int (4 : Int32)), .unset, .unset, .unset, .unset] [(.int x2), (.int x1), (.int x0), (.int (4 : Int32))])) _
        refine XS.iload X0.here hx rfl (hb hby at_93) rfl ?_
        show Steps p.tables e below (s₁.setTop (mkF m 95 #[.val (.int p1), .val (.int p2), .val (.int p3), .val (.int p4), .val (.int p5), .val (.int p6), .val (.int kd), .val (.int ps), .val (.int mu), .val (.int x0), .val (.int x1), .val (.int x2), .val (.int x3), .val (.int x4), .unset, .val (.int (4 : Int32)), .unset, .unset, .unset, .unset] [(.int x3), (.int x2), (.int x1), (.int x0), (.int (4 : Int32))])) _
        refine XS.iload X0.here hx rfl (hb hby at_95) rfl ?_
        show Steps p.tables e below (s₁.setTop (mkF m 97 #[.val (.int p1), .val (.int p2), .val (.int p3), .val (.int p4), .val (.int p5), .val (.int p6), .val (.int kd), .val (.int ps), .val (.int mu), .val (.int x0), .val (.int x1), .val (.int x2), .val (.int x3), .val (.int x4), .unset, .val (.int (4 : Int32)), .unset, .unset, .unset, .unset] [(.int x4), (.int x3), (.int x2), (.int x1), (.int x0), (.int (4 : Int32))])) _
        exact k
      obtain ⟨_, _, ⟨T76, L76, ck76, nk76⟩, -, X76, ⟨Lc76, hQ76, l76, y76, z76⟩, st76⟩ := Jvm.LawKit.callS X0 hx (y := (⟨"com/example/nogood/nogood/problem/InstanceFormatNamedPinLaw", "make", "(ICCCCC)Ljava/lang/String;"⟩ : MethodName)) hown (mvT hZ (hw _ (List.mem_of_getElem? (i := 0) rfl))) (mvT hZ (hw _ (List.mem_of_getElem? (i := 1) rfl))) (mvT hZ (hw _ (List.mem_of_getElem? (i := 2) rfl))) (mvT hZ (hw _ (List.mem_of_getElem? (i := 3) rfl))) (by decide) (backOf (W := 0) (rmMk4 l Z a0 hw [] x0 x1 x2 x3 x4 cs h0 n0 Z0 hx0 hx1 hx2 hx3 hx4 S1 hcs XO) hZ (hw _ (List.mem_of_getElem? (i := 3) rfl)) (hw _ (List.mem_of_getElem? (i := 2) rfl)) (by decide) (by decide)) (g := (mkF m 97 #[.val (.int p1), .val (.int p2), .val (.int p3), .val (.int p4), .val (.int p5), .val (.int p6), .val (.int kd), .val (.int ps), .val (.int mu), .val (.int x0), .val (.int x1), .val (.int x2), .val (.int x3), .val (.int x4), .unset, .val (.int (4 : Int32)), .unset, .unset, .unset, .unset] [(.int x4), (.int x3), (.int x2), (.int x1), (.int x0), (.int (4 : Int32))])) rfl (by rw [hml]; rfl) (argsL := [(.int (4 : Int32)), (.int x0), (.int x1), (.int x2), (.int x3), (.int x4)]) (rest := []) (lenOf pd_7 rfl) rfl (by show 2 * 0 + _ ≤ _; exact Nat.le_of_eq rfl) (hb hby at_97) (fun _ _ => ⟨rfl, e0, (by decide : 0 + 3 ≤ _), (by decide : 0 + 12 ≤ _)⟩)
      dsimp only [Pt.U, Pt.locs, Pt.cells, Pt.slots] at X76 l76 y76 z76 st76 hQ76
      subst l76 y76 z76
      obtain ⟨r76, rfl, N76q, K76, TS76⟩ := hQ76
      have N76 := Fr.app N0 N76q
      have k76 : ∀ t, Steps p.tables e below (T76.setTop (mkF m 100 #[.val (.int p1), .val (.int p2), .val (.int p3), .val (.int p4), .val (.int p5), .val (.int p6), .val (.int kd), .val (.int ps), .val (.int mu), .val (.int x0), .val (.int x1), .val (.int x2), .val (.int x3), .val (.int x4), .unset, .val (.int (4 : Int32)), .unset, .unset, .unset, .unset] [(.ref r76)])) t → Steps p.tables e below (s₁.setTop (entryFrame m #[(.int p1), (.int p2), (.int p3), (.int p4), (.int p5), (.int p6)] maxLocals)) t := fun t k => k75 t (st76 _ k)
      have Z77 : n0 ≤ T76.heap.size := Nat.le_trans Z0 K76.1
      have k78 : ∀ t, Steps p.tables e below (T76.setTop (mkF m 205 #[.val (.int p1), .val (.int p2), .val (.int p3), .val (.int p4), .val (.int p5), .val (.int p6), .val (.int kd), .val (.int ps), .val (.int mu), .val (.int x0), .val (.int x1), .val (.int x2), .val (.int x3), .val (.int x4), .val (.ref r76), .val (.int (4 : Int32)), .unset, .unset, .unset, .unset] [])) t → Steps p.tables e below (s₁.setTop (entryFrame m #[(.int p1), (.int p2), (.int p3), (.int p4), (.int p5), (.int p6)] maxLocals)) t := by
        intro t k
        refine k76 _ ?_
        show Steps p.tables e below (T76.setTop (mkF m 100 #[.val (.int p1), .val (.int p2), .val (.int p3), .val (.int p4), .val (.int p5), .val (.int p6), .val (.int kd), .val (.int ps), .val (.int mu), .val (.int x0), .val (.int x1), .val (.int x2), .val (.int x3), .val (.int x4), .unset, .val (.int (4 : Int32)), .unset, .unset, .unset, .unset] [(.ref r76)])) _
        refine XS.astore X76.here hx rfl (hb hby at_100) rfl rfl (l' := #[.val (.int p1), .val (.int p2), .val (.int p3), .val (.int p4), .val (.int p5), .val (.int p6), .val (.int kd), .val (.int ps), .val (.int mu), .val (.int x0), .val (.int x1), .val (.int x2), .val (.int x3), .val (.int x4), .val (.ref r76), .val (.int (4 : Int32)), .unset, .unset, .unset, .unset]) rfl ?_
        show Steps p.tables e below (T76.setTop (mkF m 102 #[.val (.int p1), .val (.int p2), .val (.int p3), .val (.int p4), .val (.int p5), .val (.int p6), .val (.int kd), .val (.int ps), .val (.int mu), .val (.int x0), .val (.int x1), .val (.int x2), .val (.int x3), .val (.int x4), .val (.ref r76), .val (.int (4 : Int32)), .unset, .unset, .unset, .unset] [])) _
        refine XS.goto X76.here hx rfl (pc0 := 102) (pc' := 205) rfl (hb hby at_102) (by decide) (by decide) ?_
        show Steps p.tables e below (T76.setTop (mkF m 205 #[.val (.int p1), .val (.int p2), .val (.int p3), .val (.int p4), .val (.int p5), .val (.int p6), .val (.int kd), .val (.int ps), .val (.int mu), .val (.int x0), .val (.int x1), .val (.int x2), .val (.int x3), .val (.int x4), .val (.ref r76), .val (.int (4 : Int32)), .unset, .unset, .unset, .unset] [])) _
        exact k
      have od79 : Old Z n0 T76.heap := (XO.keep K76 all0)
      exact tail T76 _ s.vm 0 r76 [x0, x1, x2, x3] (.val (.int (4 : Int32))) (One.val rfl) (Stand.more X76 (by decide) (by decide)) ((State.WarmedH.refl s).since 0) (Nat.zero_le _) hZ hown N76 Z77 od79 TS76 (Nat.le_of_ble_eq_true rfl) k78
    · skip
      have k80 : ∀ t, Steps p.tables e below (s₁.setTop (mkF m 97 #[.val (.int p1), .val (.int p2), .val (.int p3), .val (.int p4), .val (.int p5), .val (.int p6), .val (.int kd), .val (.int ps), .val (.int mu), .val (.int x0), .val (.int x1), .val (.int x2), .val (.int x3), .val (.int x4), .unset, .val (.int (5 : Int32)), .unset, .unset, .unset, .unset] [(.int x4), (.int x3), (.int x2), (.int x1), (.int x0), (.int (5 : Int32))])) t → Steps p.tables e below (s₁.setTop (entryFrame m #[(.int p1), (.int p2), (.int p3), (.int p4), (.int p5), (.int p6)] maxLocals)) t := by
        intro t k
        refine k54 _ ?_
        show Steps p.tables e below (s₁.setTop (mkF m 85 #[.val (.int p1), .val (.int p2), .val (.int p3), .val (.int p4), .val (.int p5), .val (.int p6), .val (.int kd), .val (.int ps), .val (.int mu), .val (.int x0), .val (.int x1), .val (.int x2), .val (.int x3), .val (.int x4), .unset, .val (.int (5 : Int32)), .unset, .unset, .unset, .unset] [])) _
        refine XS.iload X0.here hx rfl (hb hby at_85) rfl ?_
        show Steps p.tables e below (s₁.setTop (mkF m 87 #[.val (.int p1), .val (.int p2), .val (.int p3), .val (.int p4), .val (.int p5), .val (.int p6), .val (.int kd), .val (.int ps), .val (.int mu), .val (.int x0), .val (.int x1), .val (.int x2), .val (.int x3), .val (.int x4), .unset, .val (.int (5 : Int32)), .unset, .unset, .unset, .unset] [(.int (5 : Int32))])) _
        refine XS.iload X0.here hx rfl (hb hby at_87) rfl ?_
        show Steps p.tables e below (s₁.setTop (mkF m 89 #[.val (.int p1), .val (.int p2), .val (.int p3), .val (.int p4), .val (.int p5), .val (.int p6), .val (.int kd), .val (.int ps), .val (.int mu), .val (.int x0), .val (.int x1), .val (.int x2), .val (.int x3), .val (.int x4), .unset, .val (.int (5 : Int32)), .unset, .unset, .unset, .unset] [(.int x0), (.int (5 : Int32))])) _
        refine XS.iload X0.here hx rfl (hb hby at_89) rfl ?_
        show Steps p.tables e below (s₁.setTop (mkF m 91 #[.val (.int p1), .val (.int p2), .val (.int p3), .val (.int p4), .val (.int p5), .val (.int p6), .val (.int kd), .val (.int ps), .val (.int mu), .val (.int x0), .val (.int x1), .val (.int x2), .val (.int x3), .val (.int x4), .unset, .val (.int (5 : Int32)), .unset, .unset, .unset, .unset] [(.int x1), (.int x0), (.int (5 : Int32))])) _
        refine XS.iload X0.here hx rfl (hb hby at_91) rfl ?_
        show Steps p.tables e below (s₁.setTop (mkF m 93 #[.val (.int p1), .val (.int p2), .val (.int p3), .val (.int p4), .val (.int p5), .val (.int p6), .val (.int kd), .val (.int ps), .val (.int mu), .val (.int x0), .val (.int x1), .val (.int x2), .val (.int x3), .val (.int x4), .unset, .val (.int (5 : Int32)), .unset, .unset, .unset, .unset] [(.int x2), (.int x1), (.int x0), (.int (5 : Int32))])) _
        refine XS.iload X0.here hx rfl (hb hby at_93) rfl ?_
        show Steps p.tables e below (s₁.setTop (mkF m 95 #[.val (.int p1), .val (.int p2), .val (.int p3), .val (.int p4), .val (.int p5), .val (.int p6), .val (.int kd), .val (.int ps), .val (.int mu), .val (.int x0), .val (.int x1), .val (.int x2), .val (.int x3), .val (.int x4), .unset, .val (.int (5 : Int32)), .unset, .unset, .unset, .unset] [(.int x3), (.int x2), (.int x1), (.int x0), (.int (5 : Int32))])) _
        refine XS.iload X0.here hx rfl (hb hby at_95) rfl ?_
        show Steps p.tables e below (s₁.setTop (mkF m 97 #[.val (.int p1), .val (.int p2), .val (.int p3), .val (.int p4), .val (.int p5), .val (.int p6), .val (.int kd), .val (.int ps), .val (.int mu), .val (.int x0), .val (.int x1), .val (.int x2), .val (.int x3), .val (.int x4), .unset, .val (.int (5 : Int32)), .unset, .unset, .unset, .unset] [(.int x4), (.int x3), (.int x2), (.int x1), (.int x0), (.int (5 : Int32))])) _
        exact k
      obtain ⟨_, _, ⟨T81, L81, ck81, nk81⟩, -, X81, ⟨Lc81, hQ81, l81, y81, z81⟩, st81⟩ := Jvm.LawKit.callS X0 hx (y := (⟨"com/example/nogood/nogood/problem/InstanceFormatNamedPinLaw", "make", "(ICCCCC)Ljava/lang/String;"⟩ : MethodName)) hown (mvT hZ (hw _ (List.mem_of_getElem? (i := 0) rfl))) (mvT hZ (hw _ (List.mem_of_getElem? (i := 1) rfl))) (mvT hZ (hw _ (List.mem_of_getElem? (i := 2) rfl))) (mvT hZ (hw _ (List.mem_of_getElem? (i := 3) rfl))) (by decide) (backOf (W := 0) (rmMk5 l Z a0 hw [] x0 x1 x2 x3 x4 cs h0 n0 Z0 hx0 hx1 hx2 hx3 hx4 S1 hcs XO) hZ (hw _ (List.mem_of_getElem? (i := 3) rfl)) (hw _ (List.mem_of_getElem? (i := 2) rfl)) (by decide) (by decide)) (g := (mkF m 97 #[.val (.int p1), .val (.int p2), .val (.int p3), .val (.int p4), .val (.int p5), .val (.int p6), .val (.int kd), .val (.int ps), .val (.int mu), .val (.int x0), .val (.int x1), .val (.int x2), .val (.int x3), .val (.int x4), .unset, .val (.int (5 : Int32)), .unset, .unset, .unset, .unset] [(.int x4), (.int x3), (.int x2), (.int x1), (.int x0), (.int (5 : Int32))])) rfl (by rw [hml]; rfl) (argsL := [(.int (5 : Int32)), (.int x0), (.int x1), (.int x2), (.int x3), (.int x4)]) (rest := []) (lenOf pd_7 rfl) rfl (by show 2 * 0 + _ ≤ _; exact Nat.le_of_eq rfl) (hb hby at_97) (fun _ _ => ⟨rfl, e0, (by decide : 0 + 3 ≤ _), (by decide : 0 + 14 ≤ _)⟩)
      dsimp only [Pt.U, Pt.locs, Pt.cells, Pt.slots] at X81 l81 y81 z81 st81 hQ81
      subst l81 y81 z81
      obtain ⟨r81, rfl, N81q, K81, TS81⟩ := hQ81
      have N81 := Fr.app N0 N81q
      have k81 : ∀ t, Steps p.tables e below (T81.setTop (mkF m 100 #[.val (.int p1), .val (.int p2), .val (.int p3), .val (.int p4), .val (.int p5), .val (.int p6), .val (.int kd), .val (.int ps), .val (.int mu), .val (.int x0), .val (.int x1), .val (.int x2), .val (.int x3), .val (.int x4), .unset, .val (.int (5 : Int32)), .unset, .unset, .unset, .unset] [(.ref r81)])) t → Steps p.tables e below (s₁.setTop (entryFrame m #[(.int p1), (.int p2), (.int p3), (.int p4), (.int p5), (.int p6)] maxLocals)) t := fun t k => k80 t (st81 _ k)
      have Z82 : n0 ≤ T81.heap.size := Nat.le_trans Z0 K81.1
      have k83 : ∀ t, Steps p.tables e below (T81.setTop (mkF m 205 #[.val (.int p1), .val (.int p2), .val (.int p3), .val (.int p4), .val (.int p5), .val (.int p6), .val (.int kd), .val (.int ps), .val (.int mu), .val (.int x0), .val (.int x1), .val (.int x2), .val (.int x3), .val (.int x4), .val (.ref r81), .val (.int (5 : Int32)), .unset, .unset, .unset, .unset] [])) t → Steps p.tables e below (s₁.setTop (entryFrame m #[(.int p1), (.int p2), (.int p3), (.int p4), (.int p5), (.int p6)] maxLocals)) t := by
        intro t k
        refine k81 _ ?_
        show Steps p.tables e below (T81.setTop (mkF m 100 #[.val (.int p1), .val (.int p2), .val (.int p3), .val (.int p4), .val (.int p5), .val (.int p6), .val (.int kd), .val (.int ps), .val (.int mu), .val (.int x0), .val (.int x1), .val (.int x2), .val (.int x3), .val (.int x4), .unset, .val (.int (5 : Int32)), .unset, .unset, .unset, .unset] [(.ref r81)])) _
        refine XS.astore X81.here hx rfl (hb hby at_100) rfl rfl (l' := #[.val (.int p1), .val (.int p2), .val (.int p3), .val (.int p4), .val (.int p5), .val (.int p6), .val (.int kd), .val (.int ps), .val (.int mu), .val (.int x0), .val (.int x1), .val (.int x2), .val (.int x3), .val (.int x4), .val (.ref r81), .val (.int (5 : Int32)), .unset, .unset, .unset, .unset]) rfl ?_
        show Steps p.tables e below (T81.setTop (mkF m 102 #[.val (.int p1), .val (.int p2), .val (.int p3), .val (.int p4), .val (.int p5), .val (.int p6), .val (.int kd), .val (.int ps), .val (.int mu), .val (.int x0), .val (.int x1), .val (.int x2), .val (.int x3), .val (.int x4), .val (.ref r81), .val (.int (5 : Int32)), .unset, .unset, .unset, .unset] [])) _
        refine XS.goto X81.here hx rfl (pc0 := 102) (pc' := 205) rfl (hb hby at_102) (by decide) (by decide) ?_
        show Steps p.tables e below (T81.setTop (mkF m 205 #[.val (.int p1), .val (.int p2), .val (.int p3), .val (.int p4), .val (.int p5), .val (.int p6), .val (.int kd), .val (.int ps), .val (.int mu), .val (.int x0), .val (.int x1), .val (.int x2), .val (.int x3), .val (.int x4), .val (.ref r81), .val (.int (5 : Int32)), .unset, .unset, .unset, .unset] [])) _
        exact k
      have od84 : Old Z n0 T81.heap := (XO.keep K81 all0)
      exact tail T81 _ s.vm 0 r81 [x0, x1, x2, x3, x4] (.val (.int (5 : Int32))) (One.val rfl) (Stand.more X81 (by decide) (by decide)) ((State.WarmedH.refl s).since 0) (Nat.zero_le _) hZ hown N81 Z82 od84 TS81 (Nat.le_of_ble_eq_true rfl) k83
  · have k85 : ∀ t, Steps p.tables e below (s₁.setTop (mkF m 108 #[.val (.int p1), .val (.int p2), .val (.int p3), .val (.int p4), .val (.int p5), .val (.int p6), .val (.int kd), .val (.int ps), .val (.int mu), .val (.int x0), .val (.int x1), .val (.int x2), .val (.int x3), .val (.int x4), .unset, .unset, .unset, .unset, .unset, .unset] [(.int (1 : Int32)), (.int kd)])) t → Steps p.tables e below (s₁.setTop (entryFrame m #[(.int p1), (.int p2), (.int p3), (.int p4), (.int p5), (.int p6)] maxLocals)) t := by
      intro t k
      refine k53 _ ?_
      show Steps p.tables e below (s₁.setTop (mkF m 71 #[.val (.int p1), .val (.int p2), .val (.int p3), .val (.int p4), .val (.int p5), .val (.int p6), .val (.int kd), .val (.int ps), .val (.int mu), .val (.int x0), .val (.int x1), .val (.int x2), .val (.int x3), .val (.int x4), .unset, .unset, .unset, .unset, .unset, .unset] [(.int kd)])) _
      refine XS.ifYes X0.here hx rfl (pc0 := 71) (pc' := 105) rfl (hb hby at_71) rfl ((if0 _ _).trans (feq hk0).2) (by decide) (by decide) ?_
      show Steps p.tables e below (s₁.setTop (mkF m 105 #[.val (.int p1), .val (.int p2), .val (.int p3), .val (.int p4), .val (.int p5), .val (.int p6), .val (.int kd), .val (.int ps), .val (.int mu), .val (.int x0), .val (.int x1), .val (.int x2), .val (.int x3), .val (.int x4), .unset, .unset, .unset, .unset, .unset, .unset] [])) _
      refine XS.iload X0.here hx rfl (hb hby at_105) rfl ?_
      show Steps p.tables e below (s₁.setTop (mkF m 107 #[.val (.int p1), .val (.int p2), .val (.int p3), .val (.int p4), .val (.int p5), .val (.int p6), .val (.int kd), .val (.int ps), .val (.int mu), .val (.int x0), .val (.int x1), .val (.int x2), .val (.int x3), .val (.int x4), .unset, .unset, .unset, .unset, .unset, .unset] [(.int kd)])) _
      refine XS.iconst X0.here hx rfl (hb hby at_107) ?_
      show Steps p.tables e below (s₁.setTop (mkF m 108 #[.val (.int p1), .val (.int p2), .val (.int p3), .val (.int p4), .val (.int p5), .val (.int p6), .val (.int kd), .val (.int ps), .val (.int mu), .val (.int x0), .val (.int x1), .val (.int x2), .val (.int x3), .val (.int x4), .unset, .unset, .unset, .unset, .unset, .unset] [(.int (1 : Int32)), (.int kd)])) _
      exact k
    by_cases hk1 : kd = (1 : Int32)
    · have k86 : ∀ t, Steps p.tables e below (s₁.setTop (mkF m 124 #[.val (.int p1), .val (.int p2), .val (.int p3), .val (.int p4), .val (.int p5), .val (.int p6), .val (.int kd), .val (.int ps), .val (.int mu), .val (.int x0), .val (.int x1), .val (.int x2), .val (.int x3), .val (.int x4), .unset, .unset, .unset, .unset, .unset, .unset] [(.int (4 : Int32))])) t → Steps p.tables e below (s₁.setTop (entryFrame m #[(.int p1), (.int p2), (.int p3), (.int p4), (.int p5), (.int p6)] maxLocals)) t := by
        intro t k
        refine k85 _ ?_
        show Steps p.tables e below (s₁.setTop (mkF m 108 #[.val (.int p1), .val (.int p2), .val (.int p3), .val (.int p4), .val (.int p5), .val (.int p6), .val (.int kd), .val (.int ps), .val (.int mu), .val (.int x0), .val (.int x1), .val (.int x2), .val (.int x3), .val (.int x4), .unset, .unset, .unset, .unset, .unset, .unset] [(.int (1 : Int32)), (.int kd)])) _
        refine XS.icmpYes X0.here hx rfl (pc0 := 108) (pc' := 117) rfl (hb hby at_108) rfl (teq hk1).1 (by decide) (by decide) ?_
        show Steps p.tables e below (s₁.setTop (mkF m 117 #[.val (.int p1), .val (.int p2), .val (.int p3), .val (.int p4), .val (.int p5), .val (.int p6), .val (.int kd), .val (.int ps), .val (.int mu), .val (.int x0), .val (.int x1), .val (.int x2), .val (.int x3), .val (.int x4), .unset, .unset, .unset, .unset, .unset, .unset] [])) _
        refine XS.iload X0.here hx rfl (hb hby at_117) rfl ?_
        show Steps p.tables e below (s₁.setTop (mkF m 119 #[.val (.int p1), .val (.int p2), .val (.int p3), .val (.int p4), .val (.int p5), .val (.int p6), .val (.int kd), .val (.int ps), .val (.int mu), .val (.int x0), .val (.int x1), .val (.int x2), .val (.int x3), .val (.int x4), .unset, .unset, .unset, .unset, .unset, .unset] [(.int kd)])) _
        refine XS.iconst X0.here hx rfl (hb hby at_119) ?_
        show Steps p.tables e below (s₁.setTop (mkF m 120 #[.val (.int p1), .val (.int p2), .val (.int p3), .val (.int p4), .val (.int p5), .val (.int p6), .val (.int kd), .val (.int ps), .val (.int mu), .val (.int x0), .val (.int x1), .val (.int x2), .val (.int x3), .val (.int x4), .unset, .unset, .unset, .unset, .unset, .unset] [(.int (1 : Int32)), (.int kd)])) _
        refine XS.icmpNo X0.here hx rfl (hb hby at_120) rfl (teq hk1).2 ?_
        show Steps p.tables e below (s₁.setTop (mkF m 123 #[.val (.int p1), .val (.int p2), .val (.int p3), .val (.int p4), .val (.int p5), .val (.int p6), .val (.int kd), .val (.int ps), .val (.int mu), .val (.int x0), .val (.int x1), .val (.int x2), .val (.int x3), .val (.int x4), .unset, .unset, .unset, .unset, .unset, .unset] [])) _
        refine XS.iconst X0.here hx rfl (hb hby at_123) ?_
        show Steps p.tables e below (s₁.setTop (mkF m 124 #[.val (.int p1), .val (.int p2), .val (.int p3), .val (.int p4), .val (.int p5), .val (.int p6), .val (.int kd), .val (.int ps), .val (.int mu), .val (.int x0), .val (.int x1), .val (.int x2), .val (.int x3), .val (.int x4), .unset, .unset, .unset, .unset, .unset, .unset] [(.int (4 : Int32))])) _
        exact k
      obtain ⟨T87, h87, k87_, X87, e87, E87, A87, st87⟩ := newP X0 hx hZ (hw _ (List.mem_of_getElem? (i := 7) rfl)) e0 (g := (mkF m 124 #[.val (.int p1), .val (.int p2), .val (.int p3), .val (.int p4), .val (.int p5), .val (.int p6), .val (.int kd), .val (.int ps), .val (.int mu), .val (.int x0), .val (.int x1), .val (.int x2), .val (.int x3), .val (.int x4), .unset, .unset, .unset, .unset, .unset, .unset] [(.int (4 : Int32))])) rfl (hb hby at_124) rfl (by decide : ¬ ((4 : Int32) < (0 : Int32))) (cap := 4) (by decide : (4 : Int32).toNatClampNeg ≤ 4) (by decide) (by decide) (by decide)
      obtain ⟨b87, g87⟩ : ∃ z, z = h0.size := ⟨_, rfl⟩
      rw [← g87] at A87 st87
      have g_b87 : n0 ≤ b87 := Nat.le_trans Z0 (Nat.le_of_eq g87.symm)
      have sz_b87 : h0.size ≤ b87 := Nat.le_trans (Keep.refl h0 []).1 (Nat.le_of_eq g87.symm)
      have V87 : Arv Z h87 b87 k87_ .char (4 : Int32) [(.int (0 : Int32)), (.int (0 : Int32)), (.int (0 : Int32)), (.int (0 : Int32))] (.int (0 : Int32)) := (Arv.new A87 (by decide : ¬ ((4 : Int32) < (0 : Int32)))).pad (pad_rep [] (.int (0 : Int32)) 4)
      have k87 : ∀ t, Steps p.tables e below (T87.setTop (mkF m 126 #[.val (.int p1), .val (.int p2), .val (.int p3), .val (.int p4), .val (.int p5), .val (.int p6), .val (.int kd), .val (.int ps), .val (.int mu), .val (.int x0), .val (.int x1), .val (.int x2), .val (.int x3), .val (.int x4), .unset, .unset, .unset, .unset, .unset, .unset] [(.ref b87)])) t → Steps p.tables e below (s₁.setTop (entryFrame m #[(.int p1), (.int p2), (.int p3), (.int p4), (.int p5), (.int p6)] maxLocals)) t := fun t k => k86 t (st87 _ k)
      have Z88 : n0 ≤ h87.size := Nat.le_trans Z0 E87.1
      have k89 : ∀ t, Steps p.tables e below (T87.setTop (mkF m 130 #[.val (.int p1), .val (.int p2), .val (.int p3), .val (.int p4), .val (.int p5), .val (.int p6), .val (.int kd), .val (.int ps), .val (.int mu), .val (.int x0), .val (.int x1), .val (.int x2), .val (.int x3), .val (.int x4), .unset, .unset, .unset, .unset, .unset, .unset] [(.int (100 : Int32)), (.int (0 : Int32)), (.ref b87), (.ref b87)])) t → Steps p.tables e below (s₁.setTop (entryFrame m #[(.int p1), (.int p2), (.int p3), (.int p4), (.int p5), (.int p6)] maxLocals)) t := by
        intro t k
        refine k87 _ ?_
        show Steps p.tables e below (T87.setTop (mkF m 126 #[.val (.int p1), .val (.int p2), .val (.int p3), .val (.int p4), .val (.int p5), .val (.int p6), .val (.int kd), .val (.int ps), .val (.int mu), .val (.int x0), .val (.int x1), .val (.int x2), .val (.int x3), .val (.int x4), .unset, .unset, .unset, .unset, .unset, .unset] [(.ref b87)])) _
        refine XS.dup X87.here hx rfl (hb hby at_126) rfl rfl ?_
        show Steps p.tables e below (T87.setTop (mkF m 127 #[.val (.int p1), .val (.int p2), .val (.int p3), .val (.int p4), .val (.int p5), .val (.int p6), .val (.int kd), .val (.int ps), .val (.int mu), .val (.int x0), .val (.int x1), .val (.int x2), .val (.int x3), .val (.int x4), .unset, .unset, .unset, .unset, .unset, .unset] [(.ref b87), (.ref b87)])) _
        refine XS.iconst X87.here hx rfl (hb hby at_127) ?_
        show Steps p.tables e below (T87.setTop (mkF m 128 #[.val (.int p1), .val (.int p2), .val (.int p3), .val (.int p4), .val (.int p5), .val (.int p6), .val (.int kd), .val (.int ps), .val (.int mu), .val (.int x0), .val (.int x1), .val (.int x2), .val (.int x3), .val (.int x4), .unset, .unset, .unset, .unset, .unset, .unset] [(.int (0 : Int32)), (.ref b87), (.ref b87)])) _
        refine XS.bipush X87.here hx rfl (hb hby at_128) ?_
        show Steps p.tables e below (T87.setTop (mkF m 130 #[.val (.int p1), .val (.int p2), .val (.int p3), .val (.int p4), .val (.int p5), .val (.int p6), .val (.int kd), .val (.int ps), .val (.int mu), .val (.int x0), .val (.int x1), .val (.int x2), .val (.int x3), .val (.int x4), .unset, .unset, .unset, .unset, .unset, .unset] [(.int (100 : Int32)), (.int (0 : Int32)), (.ref b87), (.ref b87)])) _
        exact k
      obtain ⟨cl90, Ar90, qk90, Sz90, Nn90, Hs90, Gs90⟩ := id V87
      obtain ⟨T91, h91, X91, e91, W91, st91⟩ := stC X87 hx hZ e87 Ar90 (j := (0 : Int32)) (inb_of Sz90 ⟨(by decide : ¬ ((0 : Int32) < (0 : Int32))), (by decide : (0 : Int32) < (4 : Int32))⟩) (g := (mkF m 130 #[.val (.int p1), .val (.int p2), .val (.int p3), .val (.int p4), .val (.int p5), .val (.int p6), .val (.int kd), .val (.int ps), .val (.int mu), .val (.int x0), .val (.int x1), .val (.int x2), .val (.int x3), .val (.int x4), .unset, .unset, .unset, .unset, .unset, .unset] [(.int (100 : Int32)), (.int (0 : Int32)), (.ref b87), (.ref b87)])) rfl rfl (hb hby at_130)
      have N91 := Fr.snoc X91 N0 g_b87
      have V91 : Arv Z h91 b87 k87_ .char (4 : Int32) [(.int (100 : Int32)), (.int (0 : Int32)), (.int (0 : Int32)), (.int (0 : Int32))] (.int (0 : Int32)) := Arv.set Ar90 qk90 Sz90 Nn90 Hs90 Gs90 (fits_nar_char _) W91 0 rfl (Nat.le_of_ble_eq_true rfl)
      have k91 : ∀ t, Steps p.tables e below (T91.setTop (mkF m 131 #[.val (.int p1), .val (.int p2), .val (.int p3), .val (.int p4), .val (.int p5), .val (.int p6), .val (.int kd), .val (.int ps), .val (.int mu), .val (.int x0), .val (.int x1), .val (.int x2), .val (.int x3), .val (.int x4), .unset, .unset, .unset, .unset, .unset, .unset] [(.ref b87)])) t → Steps p.tables e below (s₁.setTop (entryFrame m #[(.int p1), (.int p2), (.int p3), (.int p4), (.int p5), (.int p6)] maxLocals)) t := fun t k => k89 t (st91 _ k)
      have Z92 : n0 ≤ h91.size := Nat.le_trans Z88 (Keep.of_wr W91).1
      have k93 : ∀ t, Steps p.tables e below (T91.setTop (mkF m 135 #[.val (.int p1), .val (.int p2), .val (.int p3), .val (.int p4), .val (.int p5), .val (.int p6), .val (.int kd), .val (.int ps), .val (.int mu), .val (.int x0), .val (.int x1), .val (.int x2), .val (.int x3), .val (.int x4), .unset, .unset, .unset, .unset, .unset, .unset] [(.int (99 : Int32)), (.int (1 : Int32)), (.ref b87), (.ref b87)])) t → Steps p.tables e below (s₁.setTop (entryFrame m #[(.int p1), (.int p2), (.int p3), (.int p4), (.int p5), (.int p6)] maxLocals)) t := by
        intro t k
        refine k91 _ ?_
        show Steps p.tables e below (T91.setTop (mkF m 131 #[.val (.int p1), .val (.int p2), .val (.int p3), .val (.int p4), .val (.int p5), .val (.int p6), .val (.int kd), .val (.int ps), .val (.int mu), .val (.int x0), .val (.int x1), .val (.int x2), .val (.int x3), .val (.int x4), .unset, .unset, .unset, .unset, .unset, .unset] [(.ref b87)])) _
        refine XS.dup X91.here hx rfl (hb hby at_131) rfl rfl ?_
        show Steps p.tables e below (T91.setTop (mkF m 132 #[.val (.int p1), .val (.int p2), .val (.int p3), .val (.int p4), .val (.int p5), .val (.int p6), .val (.int kd), .val (.int ps), .val (.int mu), .val (.int x0), .val (.int x1), .val (.int x2), .val (.int x3), .val (.int x4), .unset, .unset, .unset, .unset, .unset, .unset] [(.ref b87), (.ref b87)])) _
        refine XS.iconst X91.here hx rfl (hb hby at_132) ?_
        show Steps p.tables e below (T91.setTop (mkF m 133 #[.val (.int p1), .val (.int p2), .val (.int p3), .val (.int p4), .val (.int p5), .val (.int p6), .val (.int kd), .val (.int ps), .val (.int mu), .val (.int x0), .val (.int x1), .val (.int x2), .val (.int x3), .val (.int x4), .unset, .unset, .unset, .unset, .unset, .unset] [(.int (1 : Int32)), (.ref b87), (.ref b87)])) _
        refine XS.bipush X91.here hx rfl (hb hby at_133) ?_
        show Steps p.tables e below (T91.setTop (mkF m 135 #[.val (.int p1), .val (.int p2), .val (.int p3), .val (.int p4), .val (.int p5), .val (.int p6), .val (.int kd), .val (.int ps), .val (.int mu), .val (.int x0), .val (.int x1), .val (.int x2), .val (.int x3), .val (.int x4), .unset, .unset, .unset, .unset, .unset, .unset] [(.int (99 : Int32)), (.int (1 : Int32)), (.ref b87), (.ref b87)])) _
        exact k
      obtain ⟨cl94, Ar94, qk94, Sz94, Nn94, Hs94, Gs94⟩ := id V91
      obtain ⟨T95, h95, X95, e95, W95, st95⟩ := stC X91 hx hZ e91 Ar94 (j := (1 : Int32)) (inb_of Sz94 ⟨(by decide : ¬ ((1 : Int32) < (0 : Int32))), (by decide : (1 : Int32) < (4 : Int32))⟩) (g := (mkF m 135 #[.val (.int p1), .val (.int p2), .val (.int p3), .val (.int p4), .val (.int p5), .val (.int p6), .val (.int kd), .val (.int ps), .val (.int mu), .val (.int x0), .val (.int x1), .val (.int x2), .val (.int x3), .val (.int x4), .unset, .unset, .unset, .unset, .unset, .unset] [(.int (99 : Int32)), (.int (1 : Int32)), (.ref b87), (.ref b87)])) rfl rfl (hb hby at_135)
      have N95 := Fr.snoc X95 N91 g_b87
      have V95 : Arv Z h95 b87 k87_ .char (4 : Int32) [(.int (100 : Int32)), (.int (99 : Int32)), (.int (0 : Int32)), (.int (0 : Int32))] (.int (0 : Int32)) := Arv.set Ar94 qk94 Sz94 Nn94 Hs94 Gs94 (fits_nar_char _) W95 1 rfl (Nat.le_of_ble_eq_true rfl)
      have k95 : ∀ t, Steps p.tables e below (T95.setTop (mkF m 136 #[.val (.int p1), .val (.int p2), .val (.int p3), .val (.int p4), .val (.int p5), .val (.int p6), .val (.int kd), .val (.int ps), .val (.int mu), .val (.int x0), .val (.int x1), .val (.int x2), .val (.int x3), .val (.int x4), .unset, .unset, .unset, .unset, .unset, .unset] [(.ref b87)])) t → Steps p.tables e below (s₁.setTop (entryFrame m #[(.int p1), (.int p2), (.int p3), (.int p4), (.int p5), (.int p6)] maxLocals)) t := fun t k => k93 t (st95 _ k)
      have Z96 : n0 ≤ h95.size := Nat.le_trans Z92 (Keep.of_wr W95).1
      have k97 : ∀ t, Steps p.tables e below (T95.setTop (mkF m 140 #[.val (.int p1), .val (.int p2), .val (.int p3), .val (.int p4), .val (.int p5), .val (.int p6), .val (.int kd), .val (.int ps), .val (.int mu), .val (.int x0), .val (.int x1), .val (.int x2), .val (.int x3), .val (.int x4), .unset, .unset, .unset, .unset, .unset, .unset] [(.int (115 : Int32)), (.int (2 : Int32)), (.ref b87), (.ref b87)])) t → Steps p.tables e below (s₁.setTop (entryFrame m #[(.int p1), (.int p2), (.int p3), (.int p4), (.int p5), (.int p6)] maxLocals)) t := by
        intro t k
        refine k95 _ ?_
        show Steps p.tables e below (T95.setTop (mkF m 136 #[.val (.int p1), .val (.int p2), .val (.int p3), .val (.int p4), .val (.int p5), .val (.int p6), .val (.int kd), .val (.int ps), .val (.int mu), .val (.int x0), .val (.int x1), .val (.int x2), .val (.int x3), .val (.int x4), .unset, .unset, .unset, .unset, .unset, .unset] [(.ref b87)])) _
        refine XS.dup X95.here hx rfl (hb hby at_136) rfl rfl ?_
        show Steps p.tables e below (T95.setTop (mkF m 137 #[.val (.int p1), .val (.int p2), .val (.int p3), .val (.int p4), .val (.int p5), .val (.int p6), .val (.int kd), .val (.int ps), .val (.int mu), .val (.int x0), .val (.int x1), .val (.int x2), .val (.int x3), .val (.int x4), .unset, .unset, .unset, .unset, .unset, .unset] [(.ref b87), (.ref b87)])) _
        refine XS.iconst X95.here hx rfl (hb hby at_137) ?_
        show Steps p.tables e below (T95.setTop (mkF m 138 #[.val (.int p1), .val (.int p2), .val (.int p3), .val (.int p4), .val (.int p5), .val (.int p6), .val (.int kd), .val (.int ps), .val (.int mu), .val (.int x0), .val (.int x1), .val (.int x2), .val (.int x3), .val (.int x4), .unset, .unset, .unset, .unset, .unset, .unset] [(.int (2 : Int32)), (.ref b87), (.ref b87)])) _
        refine XS.bipush X95.here hx rfl (hb hby at_138) ?_
        show Steps p.tables e below (T95.setTop (mkF m 140 #[.val (.int p1), .val (.int p2), .val (.int p3), .val (.int p4), .val (.int p5), .val (.int p6), .val (.int kd), .val (.int ps), .val (.int mu), .val (.int x0), .val (.int x1), .val (.int x2), .val (.int x3), .val (.int x4), .unset, .unset, .unset, .unset, .unset, .unset] [(.int (115 : Int32)), (.int (2 : Int32)), (.ref b87), (.ref b87)])) _
        exact k
      obtain ⟨cl98, Ar98, qk98, Sz98, Nn98, Hs98, Gs98⟩ := id V95
      obtain ⟨T99, h99, X99, e99, W99, st99⟩ := stC X95 hx hZ e95 Ar98 (j := (2 : Int32)) (inb_of Sz98 ⟨(by decide : ¬ ((2 : Int32) < (0 : Int32))), (by decide : (2 : Int32) < (4 : Int32))⟩) (g := (mkF m 140 #[.val (.int p1), .val (.int p2), .val (.int p3), .val (.int p4), .val (.int p5), .val (.int p6), .val (.int kd), .val (.int ps), .val (.int mu), .val (.int x0), .val (.int x1), .val (.int x2), .val (.int x3), .val (.int x4), .unset, .unset, .unset, .unset, .unset, .unset] [(.int (115 : Int32)), (.int (2 : Int32)), (.ref b87), (.ref b87)])) rfl rfl (hb hby at_140)
      have N99 := Fr.snoc X99 N95 g_b87
      have V99 : Arv Z h99 b87 k87_ .char (4 : Int32) [(.int (100 : Int32)), (.int (99 : Int32)), (.int (115 : Int32)), (.int (0 : Int32))] (.int (0 : Int32)) := Arv.set Ar98 qk98 Sz98 Nn98 Hs98 Gs98 (fits_nar_char _) W99 2 rfl (Nat.le_of_ble_eq_true rfl)
      have k99 : ∀ t, Steps p.tables e below (T99.setTop (mkF m 141 #[.val (.int p1), .val (.int p2), .val (.int p3), .val (.int p4), .val (.int p5), .val (.int p6), .val (.int kd), .val (.int ps), .val (.int mu), .val (.int x0), .val (.int x1), .val (.int x2), .val (.int x3), .val (.int x4), .unset, .unset, .unset, .unset, .unset, .unset] [(.ref b87)])) t → Steps p.tables e below (s₁.setTop (entryFrame m #[(.int p1), (.int p2), (.int p3), (.int p4), (.int p5), (.int p6)] maxLocals)) t := fun t k => k97 t (st99 _ k)
      have Z100 : n0 ≤ h99.size := Nat.le_trans Z96 (Keep.of_wr W99).1
      have k101 : ∀ t, Steps p.tables e below (T99.setTop (mkF m 145 #[.val (.int p1), .val (.int p2), .val (.int p3), .val (.int p4), .val (.int p5), .val (.int p6), .val (.int kd), .val (.int ps), .val (.int mu), .val (.int x0), .val (.int x1), .val (.int x2), .val (.int x3), .val (.int x4), .unset, .unset, .unset, .unset, .unset, .unset] [(.int (112 : Int32)), (.int (3 : Int32)), (.ref b87), (.ref b87)])) t → Steps p.tables e below (s₁.setTop (entryFrame m #[(.int p1), (.int p2), (.int p3), (.int p4), (.int p5), (.int p6)] maxLocals)) t := by
        intro t k
        refine k99 _ ?_
        show Steps p.tables e below (T99.setTop (mkF m 141 #[.val (.int p1), .val (.int p2), .val (.int p3), .val (.int p4), .val (.int p5), .val (.int p6), .val (.int kd), .val (.int ps), .val (.int mu), .val (.int x0), .val (.int x1), .val (.int x2), .val (.int x3), .val (.int x4), .unset, .unset, .unset, .unset, .unset, .unset] [(.ref b87)])) _
        refine XS.dup X99.here hx rfl (hb hby at_141) rfl rfl ?_
        show Steps p.tables e below (T99.setTop (mkF m 142 #[.val (.int p1), .val (.int p2), .val (.int p3), .val (.int p4), .val (.int p5), .val (.int p6), .val (.int kd), .val (.int ps), .val (.int mu), .val (.int x0), .val (.int x1), .val (.int x2), .val (.int x3), .val (.int x4), .unset, .unset, .unset, .unset, .unset, .unset] [(.ref b87), (.ref b87)])) _
        refine XS.iconst X99.here hx rfl (hb hby at_142) ?_
        show Steps p.tables e below (T99.setTop (mkF m 143 #[.val (.int p1), .val (.int p2), .val (.int p3), .val (.int p4), .val (.int p5), .val (.int p6), .val (.int kd), .val (.int ps), .val (.int mu), .val (.int x0), .val (.int x1), .val (.int x2), .val (.int x3), .val (.int x4), .unset, .unset, .unset, .unset, .unset, .unset] [(.int (3 : Int32)), (.ref b87), (.ref b87)])) _
        refine XS.bipush X99.here hx rfl (hb hby at_143) ?_
        show Steps p.tables e below (T99.setTop (mkF m 145 #[.val (.int p1), .val (.int p2), .val (.int p3), .val (.int p4), .val (.int p5), .val (.int p6), .val (.int kd), .val (.int ps), .val (.int mu), .val (.int x0), .val (.int x1), .val (.int x2), .val (.int x3), .val (.int x4), .unset, .unset, .unset, .unset, .unset, .unset] [(.int (112 : Int32)), (.int (3 : Int32)), (.ref b87), (.ref b87)])) _
        exact k
      obtain ⟨cl102, Ar102, qk102, Sz102, Nn102, Hs102, Gs102⟩ := id V99
      obtain ⟨T103, h103, X103, e103, W103, st103⟩ := stC X99 hx hZ e99 Ar102 (j := (3 : Int32)) (inb_of Sz102 ⟨(by decide : ¬ ((3 : Int32) < (0 : Int32))), (by decide : (3 : Int32) < (4 : Int32))⟩) (g := (mkF m 145 #[.val (.int p1), .val (.int p2), .val (.int p3), .val (.int p4), .val (.int p5), .val (.int p6), .val (.int kd), .val (.int ps), .val (.int mu), .val (.int x0), .val (.int x1), .val (.int x2), .val (.int x3), .val (.int x4), .unset, .unset, .unset, .unset, .unset, .unset] [(.int (112 : Int32)), (.int (3 : Int32)), (.ref b87), (.ref b87)])) rfl rfl (hb hby at_145)
      have N103 := Fr.snoc X103 N99 g_b87
      have V103 : Arv Z h103 b87 k87_ .char (4 : Int32) [(.int (100 : Int32)), (.int (99 : Int32)), (.int (115 : Int32)), (.int (112 : Int32))] (.int (0 : Int32)) := Arv.set Ar102 qk102 Sz102 Nn102 Hs102 Gs102 (fits_nar_char _) W103 3 rfl (Nat.le_of_ble_eq_true rfl)
      have k103 : ∀ t, Steps p.tables e below (T103.setTop (mkF m 146 #[.val (.int p1), .val (.int p2), .val (.int p3), .val (.int p4), .val (.int p5), .val (.int p6), .val (.int kd), .val (.int ps), .val (.int mu), .val (.int x0), .val (.int x1), .val (.int x2), .val (.int x3), .val (.int x4), .unset, .unset, .unset, .unset, .unset, .unset] [(.ref b87)])) t → Steps p.tables e below (s₁.setTop (entryFrame m #[(.int p1), (.int p2), (.int p3), (.int p4), (.int p5), (.int p6)] maxLocals)) t := fun t k => k101 t (st103 _ k)
      have Z104 : n0 ≤ h103.size := Nat.le_trans Z100 (Keep.of_wr W103).1
      have k105 : ∀ t, Steps p.tables e below (T103.setTop (mkF m 178 #[.val (.int p1), .val (.int p2), .val (.int p3), .val (.int p4), .val (.int p5), .val (.int p6), .val (.int kd), .val (.int ps), .val (.int mu), .val (.int x0), .val (.int x1), .val (.int x2), .val (.int x3), .val (.int x4), .unset, .val (.ref b87), .unset, .unset, .unset, .unset] [(.int mu)])) t → Steps p.tables e below (s₁.setTop (entryFrame m #[(.int p1), (.int p2), (.int p3), (.int p4), (.int p5), (.int p6)] maxLocals)) t := by
        intro t k
        refine k103 _ ?_
        show Steps p.tables e below (T103.setTop (mkF m 146 #[.val (.int p1), .val (.int p2), .val (.int p3), .val (.int p4), .val (.int p5), .val (.int p6), .val (.int kd), .val (.int ps), .val (.int mu), .val (.int x0), .val (.int x1), .val (.int x2), .val (.int x3), .val (.int x4), .unset, .unset, .unset, .unset, .unset, .unset] [(.ref b87)])) _
        refine XS.astore X103.here hx rfl (hb hby at_146) rfl rfl (l' := #[.val (.int p1), .val (.int p2), .val (.int p3), .val (.int p4), .val (.int p5), .val (.int p6), .val (.int kd), .val (.int ps), .val (.int mu), .val (.int x0), .val (.int x1), .val (.int x2), .val (.int x3), .val (.int x4), .unset, .val (.ref b87), .unset, .unset, .unset, .unset]) rfl ?_
        show Steps p.tables e below (T103.setTop (mkF m 148 #[.val (.int p1), .val (.int p2), .val (.int p3), .val (.int p4), .val (.int p5), .val (.int p6), .val (.int kd), .val (.int ps), .val (.int mu), .val (.int x0), .val (.int x1), .val (.int x2), .val (.int x3), .val (.int x4), .unset, .val (.ref b87), .unset, .unset, .unset, .unset] [])) _
        refine XS.goto X103.here hx rfl (pc0 := 148) (pc' := 176) rfl (hb hby at_148) (by decide) (by decide) ?_
        show Steps p.tables e below (T103.setTop (mkF m 176 #[.val (.int p1), .val (.int p2), .val (.int p3), .val (.int p4), .val (.int p5), .val (.int p6), .val (.int kd), .val (.int ps), .val (.int mu), .val (.int x0), .val (.int x1), .val (.int x2), .val (.int x3), .val (.int x4), .unset, .val (.ref b87), .unset, .unset, .unset, .unset] [])) _
        refine XS.iload X103.here hx rfl (hb hby at_176) rfl ?_
        show Steps p.tables e below (T103.setTop (mkF m 178 #[.val (.int p1), .val (.int p2), .val (.int p3), .val (.int p4), .val (.int p5), .val (.int p6), .val (.int kd), .val (.int ps), .val (.int mu), .val (.int x0), .val (.int x1), .val (.int x2), .val (.int x3), .val (.int x4), .unset, .val (.ref b87), .unset, .unset, .unset, .unset] [(.int mu)])) _
        exact k
      by_cases hmu : mu = (0 : Int32)
      · have k106 : ∀ t, Steps p.tables e below (T103.setTop (mkF m 188 #[.val (.int p1), .val (.int p2), .val (.int p3), .val (.int p4), .val (.int p5), .val (.int p6), .val (.int kd), .val (.int ps), .val (.int mu), .val (.int x0), .val (.int x1), .val (.int x2), .val (.int x3), .val (.int x4), .unset, .val (.ref b87), .unset, .unset, .unset, .unset] [])) t → Steps p.tables e below (s₁.setTop (entryFrame m #[(.int p1), (.int p2), (.int p3), (.int p4), (.int p5), (.int p6)] maxLocals)) t := by
          intro t k
          refine k105 _ ?_
          show Steps p.tables e below (T103.setTop (mkF m 178 #[.val (.int p1), .val (.int p2), .val (.int p3), .val (.int p4), .val (.int p5), .val (.int p6), .val (.int kd), .val (.int ps), .val (.int mu), .val (.int x0), .val (.int x1), .val (.int x2), .val (.int x3), .val (.int x4), .unset, .val (.ref b87), .unset, .unset, .unset, .unset] [(.int mu)])) _
          refine XS.ifYes X103.here hx rfl (pc0 := 178) (pc' := 188) rfl (hb hby at_178) rfl ((if0 _ _).trans (teq hmu).1) (by decide) (by decide) ?_
          show Steps p.tables e below (T103.setTop (mkF m 188 #[.val (.int p1), .val (.int p2), .val (.int p3), .val (.int p4), .val (.int p5), .val (.int p6), .val (.int kd), .val (.int ps), .val (.int mu), .val (.int x0), .val (.int x1), .val (.int x2), .val (.int x3), .val (.int x4), .unset, .val (.ref b87), .unset, .unset, .unset, .unset] [])) _
          exact k
        have kp108 : Keep h0 h103 [] := ((((((Keep.refl h0 []).ext E87).wr W91 (Or.inr sz_b87)).wr W95 (Or.inr sz_b87)).wr W99 (Or.inr sz_b87)).wr W103 (Or.inr sz_b87))
        obtain ⟨T107, h107, X107, e107, E107, A107, D107, -, st107⟩ := newO X103 hx hZ hown (hw _ (List.mem_of_getElem? (i := 4) rfl)) (hw _ (List.mem_of_getElem? (i := 5) rfl)) (hw _ (List.mem_of_getElem? (i := 6) rfl)) e103 (g := (mkF m 188 #[.val (.int p1), .val (.int p2), .val (.int p3), .val (.int p4), .val (.int p5), .val (.int p6), .val (.int kd), .val (.int ps), .val (.int mu), .val (.int x0), .val (.int x1), .val (.int x2), .val (.int x3), .val (.int x4), .unset, .val (.ref b87), .unset, .unset, .unset, .unset] [])) rfl (hb hby at_188) (by decide) (by decide)
        obtain ⟨b107, g107⟩ : ∃ z, z = h103.size := ⟨_, rfl⟩
        rw [← g107] at A107 D107 st107
        have ne_b87_b107 : b87 ≠ b107 := Nat.ne_of_lt (Nat.lt_of_lt_of_eq V103.lt g107.symm)
        have g_b107 : n0 ≤ b107 := Nat.le_trans Z104 (Nat.le_of_eq g107.symm)
        have sz_b107 : h0.size ≤ b107 := Nat.le_trans kp108.1 (Nat.le_of_eq g107.symm)
        have F107_value : Fld Z h107 b107 "java/lang/String" "value" "[B" .null := D107 (Or.inr (hw _ (List.mem_of_getElem? (i := 20) rfl))) (ty := (.array .byte)) (by decide)
        have F107_coder : Fld Z h107 b107 "java/lang/String" "coder" "B" (.int (0 : Int32)) := D107 (Or.inr (hw _ (List.mem_of_getElem? (i := 21) rfl))) (ty := .byte) (by decide)
        have k107 : ∀ t, Steps p.tables e below (T107.setTop (mkF m 191 #[.val (.int p1), .val (.int p2), .val (.int p3), .val (.int p4), .val (.int p5), .val (.int p6), .val (.int kd), .val (.int ps), .val (.int mu), .val (.int x0), .val (.int x1), .val (.int x2), .val (.int x3), .val (.int x4), .unset, .val (.ref b87), .unset, .unset, .unset, .unset] [(.ref b107)])) t → Steps p.tables e below (s₁.setTop (entryFrame m #[(.int p1), (.int p2), (.int p3), (.int p4), (.int p5), (.int p6)] maxLocals)) t := fun t k => k106 t (st107 _ k)
        have Z109 : n0 ≤ h107.size := Nat.le_trans Z104 E107.1
        have hpp : ∀ c ∈ ([(100 : Int32), (99 : Int32), (115 : Int32), (112 : Int32)] : List Int32), ¬ c < (0 : Int32) ∧ ¬ (255 : Int32) < c := by
          intro c hc
          simp only [List.mem_cons, List.not_mem_nil, or_false] at hc
          rcases hc with rfl | rfl | rfl | rfl
          · exact (by decide)
          · exact (by decide)
          · exact (by decide)
          · exact (by decide)
        have f110 := (V103.ext E107)
        have od111 : Old Z n0 h107 := ((((((XO.ext E87).wr W91 g_b87).wr W95 g_b87).wr W99 g_b87).wr W103 g_b87).ext E107)
        have k112 : ∀ t, Steps p.tables e below (T107.setTop (mkF m 194 #[.val (.int p1), .val (.int p2), .val (.int p3), .val (.int p4), .val (.int p5), .val (.int p6), .val (.int kd), .val (.int ps), .val (.int mu), .val (.int x0), .val (.int x1), .val (.int x2), .val (.int x3), .val (.int x4), .unset, .val (.ref b87), .unset, .unset, .unset, .unset] [(.ref b87), (.ref b107), (.ref b107)])) t → Steps p.tables e below (s₁.setTop (entryFrame m #[(.int p1), (.int p2), (.int p3), (.int p4), (.int p5), (.int p6)] maxLocals)) t := by
          intro t k
          refine k107 _ ?_
          show Steps p.tables e below (T107.setTop (mkF m 191 #[.val (.int p1), .val (.int p2), .val (.int p3), .val (.int p4), .val (.int p5), .val (.int p6), .val (.int kd), .val (.int ps), .val (.int mu), .val (.int x0), .val (.int x1), .val (.int x2), .val (.int x3), .val (.int x4), .unset, .val (.ref b87), .unset, .unset, .unset, .unset] [(.ref b107)])) _
          refine XS.dup X107.here hx rfl (hb hby at_191) rfl rfl ?_
          show Steps p.tables e below (T107.setTop (mkF m 192 #[.val (.int p1), .val (.int p2), .val (.int p3), .val (.int p4), .val (.int p5), .val (.int p6), .val (.int kd), .val (.int ps), .val (.int mu), .val (.int x0), .val (.int x1), .val (.int x2), .val (.int x3), .val (.int x4), .unset, .val (.ref b87), .unset, .unset, .unset, .unset] [(.ref b107), (.ref b107)])) _
          refine XS.aload X107.here hx rfl (hb hby at_192) rfl rfl ?_
          show Steps p.tables e below (T107.setTop (mkF m 194 #[.val (.int p1), .val (.int p2), .val (.int p3), .val (.int p4), .val (.int p5), .val (.int p6), .val (.int kd), .val (.int ps), .val (.int mu), .val (.int x0), .val (.int x1), .val (.int x2), .val (.int x3), .val (.int x4), .unset, .val (.ref b87), .unset, .unset, .unset, .unset] [(.ref b87), (.ref b107), (.ref b107)])) _
          exact k
        obtain ⟨_, _, ⟨T113, L113, ck113, nk113⟩, -, X113, ⟨Lc113, hQ113, l113, y113, z113⟩, st113⟩ := X107.specialBack hx (y := (⟨"java/lang/String", "<init>", "([C)V"⟩ : MethodName)) rfl hown (mvT hZ (hw _ (List.mem_of_getElem? (i := 8) rfl))) (mvT hZ (hw _ (List.mem_of_getElem? (i := 9) rfl))) (mvT hZ (hw _ (List.mem_of_getElem? (i := 10) rfl))) (by decide) (StrChars.Road.backV (W := 1) hZ (fun d hd => hw d (own_wNew d hd)) (kI := 4) (hw _ (List.mem_of_getElem? (i := 5) rfl)) (cs := ([(100 : Int32), (99 : Int32), (115 : Int32), (112 : Int32)] : List Int32)) (bs := ([(100 : Int32), (99 : Int32), (115 : Int32), (112 : Int32)] : List Int32).map (fun c => c.toInt8.toInt32)) (n := 4) g_b107 Z109 A107 F107_value F107_coder f110 (S1.ext od111.2) hcs rfl rfl (by decide) (by decide) hpp rfl (by decide) (by decide)) (g := (mkF m 194 #[.val (.int p1), .val (.int p2), .val (.int p3), .val (.int p4), .val (.int p5), .val (.int p6), .val (.int kd), .val (.int ps), .val (.int mu), .val (.int x0), .val (.int x1), .val (.int x2), .val (.int x3), .val (.int x4), .unset, .val (.ref b87), .unset, .unset, .unset, .unset] [(.ref b87), (.ref b107), (.ref b107)])) rfl (by rw [hml]; rfl) (Steps.refl _) (a := b107) (argsL := [(.ref b87)]) (rest := [(.ref b107)]) (lenOf pd_2 rfl) rfl (by show 2 * 0 + _ ≤ _; exact Nat.le_of_eq rfl) (hb hby at_194) (fun _ _ => ⟨rfl, e107, (by decide : 2 + 1 ≤ _), (by decide : 8 + 4 ≤ _)⟩)
        dsimp only [Pt.U, Pt.locs, Pt.cells, Pt.slots] at X113 l113 y113 z113 st113 hQ113
        subst l113 y113 z113
        obtain ⟨rfl, N113q, K113, EE113, FC113, t113, kb113, ht1113, ht2113, ht3113, FV113, VA113⟩ := hQ113
        have N113 := Fr.app N103 N113q
        have k113 : ∀ t, Steps p.tables e below (T113.setTop (mkF m 197 #[.val (.int p1), .val (.int p2), .val (.int p3), .val (.int p4), .val (.int p5), .val (.int p6), .val (.int kd), .val (.int ps), .val (.int mu), .val (.int x0), .val (.int x1), .val (.int x2), .val (.int x3), .val (.int x4), .unset, .val (.ref b87), .unset, .unset, .unset, .unset] [(.ref b107)])) t → Steps p.tables e below (s₁.setTop (entryFrame m #[(.int p1), (.int p2), (.int p3), (.int p4), (.int p5), (.int p6)] maxLocals)) t := fun t k => k112 t (st113.trans k)
        have Z114 : n0 ≤ T113.heap.size := Nat.le_trans Z109 K113.1
        have TS113 : own_Str Z T113.heap b107 ([(100 : Int32), (99 : Int32), (115 : Int32), (112 : Int32)] : List Int32) := ⟨t113, kb113, EE113, FC113, FV113, VA113, hpp, Nat.le_of_ble_eq_true rfl⟩
        have k115 : ∀ t, Steps p.tables e below (T113.setTop (mkF m 205 #[.val (.int p1), .val (.int p2), .val (.int p3), .val (.int p4), .val (.int p5), .val (.int p6), .val (.int kd), .val (.int ps), .val (.int mu), .val (.int x0), .val (.int x1), .val (.int x2), .val (.int x3), .val (.int x4), .val (.ref b107), .val (.ref b87), .unset, .unset, .unset, .unset] [])) t → Steps p.tables e below (s₁.setTop (entryFrame m #[(.int p1), (.int p2), (.int p3), (.int p4), (.int p5), (.int p6)] maxLocals)) t := by
          intro t k
          refine k113 _ ?_
          show Steps p.tables e below (T113.setTop (mkF m 197 #[.val (.int p1), .val (.int p2), .val (.int p3), .val (.int p4), .val (.int p5), .val (.int p6), .val (.int kd), .val (.int ps), .val (.int mu), .val (.int x0), .val (.int x1), .val (.int x2), .val (.int x3), .val (.int x4), .unset, .val (.ref b87), .unset, .unset, .unset, .unset] [(.ref b107)])) _
          refine XS.astore X113.here hx rfl (hb hby at_197) rfl rfl (l' := #[.val (.int p1), .val (.int p2), .val (.int p3), .val (.int p4), .val (.int p5), .val (.int p6), .val (.int kd), .val (.int ps), .val (.int mu), .val (.int x0), .val (.int x1), .val (.int x2), .val (.int x3), .val (.int x4), .val (.ref b107), .val (.ref b87), .unset, .unset, .unset, .unset]) rfl ?_
          show Steps p.tables e below (T113.setTop (mkF m 199 #[.val (.int p1), .val (.int p2), .val (.int p3), .val (.int p4), .val (.int p5), .val (.int p6), .val (.int kd), .val (.int ps), .val (.int mu), .val (.int x0), .val (.int x1), .val (.int x2), .val (.int x3), .val (.int x4), .val (.ref b107), .val (.ref b87), .unset, .unset, .unset, .unset] [])) _
          refine XS.goto X113.here hx rfl (pc0 := 199) (pc' := 205) rfl (hb hby at_199) (by decide) (by decide) ?_
          show Steps p.tables e below (T113.setTop (mkF m 205 #[.val (.int p1), .val (.int p2), .val (.int p3), .val (.int p4), .val (.int p5), .val (.int p6), .val (.int kd), .val (.int ps), .val (.int mu), .val (.int x0), .val (.int x1), .val (.int x2), .val (.int x3), .val (.int x4), .val (.ref b107), .val (.ref b87), .unset, .unset, .unset, .unset] [])) _
          exact k
        have od116 : Old Z n0 T113.heap := (od111.keep K113 (allS g_b107 all0))
        exact tail T113 _ s.vm 0 b107 [(100 : Int32), (99 : Int32), (115 : Int32), (112 : Int32)] (.val (.ref b87)) (One.val rfl) (Stand.more X113 (by decide) (by decide)) ((State.WarmedH.refl s).since 0) (Nat.zero_le _) hZ hown N113 Z114 od116 TS113 (Nat.le_of_ble_eq_true rfl) k115
      · have k117 : ∀ t, Steps p.tables e below (T103.setTop (mkF m 187 #[.val (.int p1), .val (.int p2), .val (.int p3), .val (.int p4), .val (.int p5), .val (.int p6), .val (.int kd), .val (.int ps), .val (.int mu), .val (.int x0), .val (.int x1), .val (.int x2), .val (.int x3), .val (.int x4), .unset, .val (.ref b87), .unset, .unset, .unset, .unset] [(.int x0), (.int ps), (.ref b87)])) t → Steps p.tables e below (s₁.setTop (entryFrame m #[(.int p1), (.int p2), (.int p3), (.int p4), (.int p5), (.int p6)] maxLocals)) t := by
          intro t k
          refine k105 _ ?_
          show Steps p.tables e below (T103.setTop (mkF m 178 #[.val (.int p1), .val (.int p2), .val (.int p3), .val (.int p4), .val (.int p5), .val (.int p6), .val (.int kd), .val (.int ps), .val (.int mu), .val (.int x0), .val (.int x1), .val (.int x2), .val (.int x3), .val (.int x4), .unset, .val (.ref b87), .unset, .unset, .unset, .unset] [(.int mu)])) _
          refine XS.ifNo X103.here hx rfl (hb hby at_178) rfl ((if0 _ _).trans (feq hmu).1) ?_
          show Steps p.tables e below (T103.setTop (mkF m 181 #[.val (.int p1), .val (.int p2), .val (.int p3), .val (.int p4), .val (.int p5), .val (.int p6), .val (.int kd), .val (.int ps), .val (.int mu), .val (.int x0), .val (.int x1), .val (.int x2), .val (.int x3), .val (.int x4), .unset, .val (.ref b87), .unset, .unset, .unset, .unset] [])) _
          refine XS.aload X103.here hx rfl (hb hby at_181) rfl rfl ?_
          show Steps p.tables e below (T103.setTop (mkF m 183 #[.val (.int p1), .val (.int p2), .val (.int p3), .val (.int p4), .val (.int p5), .val (.int p6), .val (.int kd), .val (.int ps), .val (.int mu), .val (.int x0), .val (.int x1), .val (.int x2), .val (.int x3), .val (.int x4), .unset, .val (.ref b87), .unset, .unset, .unset, .unset] [(.ref b87)])) _
          refine XS.iload X103.here hx rfl (hb hby at_183) rfl ?_
          show Steps p.tables e below (T103.setTop (mkF m 185 #[.val (.int p1), .val (.int p2), .val (.int p3), .val (.int p4), .val (.int p5), .val (.int p6), .val (.int kd), .val (.int ps), .val (.int mu), .val (.int x0), .val (.int x1), .val (.int x2), .val (.int x3), .val (.int x4), .unset, .val (.ref b87), .unset, .unset, .unset, .unset] [(.int ps), (.ref b87)])) _
          refine XS.iload X103.here hx rfl (hb hby at_185) rfl ?_
          show Steps p.tables e below (T103.setTop (mkF m 187 #[.val (.int p1), .val (.int p2), .val (.int p3), .val (.int p4), .val (.int p5), .val (.int p6), .val (.int kd), .val (.int ps), .val (.int mu), .val (.int x0), .val (.int x1), .val (.int x2), .val (.int x3), .val (.int x4), .unset, .val (.ref b87), .unset, .unset, .unset, .unset] [(.int x0), (.int ps), (.ref b87)])) _
          exact k
        have h4 : ps = 0 ∨ ps = 1 ∨ ps = 2 ∨ ps = 3 := by rw [eq_ps]; exact own_and3 _
        clear eq_ps
        rcases h4 with rfl | rfl | rfl | rfl
        · skip
          obtain ⟨cl118, Ar118, qk118, Sz118, Nn118, Hs118, Gs118⟩ := id V103
          obtain ⟨T119, h119, X119, e119, W119, st119⟩ := stC X103 hx hZ e103 Ar118 (j := (0 : Int32)) (inb_of Sz118 ⟨(by decide : ¬ ((0 : Int32) < (0 : Int32))), (by decide : (0 : Int32) < (4 : Int32))⟩) (g := (mkF m 187 #[.val (.int p1), .val (.int p2), .val (.int p3), .val (.int p4), .val (.int p5), .val (.int p6), .val (.int kd), .val (.int (0 : Int32)), .val (.int mu), .val (.int x0), .val (.int x1), .val (.int x2), .val (.int x3), .val (.int x4), .unset, .val (.ref b87), .unset, .unset, .unset, .unset] [(.int x0), (.int (0 : Int32)), (.ref b87)])) rfl rfl (hb hby at_187)
          have N119 := Fr.snoc X119 N103 g_b87
          have V119 : Arv Z h119 b87 k87_ .char (4 : Int32) [(.int (nar .char x0)), (.int (99 : Int32)), (.int (115 : Int32)), (.int (112 : Int32))] (.int (0 : Int32)) := Arv.set Ar118 qk118 Sz118 Nn118 Hs118 Gs118 (fits_nar_char _) W119 0 rfl (Nat.le_of_ble_eq_true rfl)
          have k119 : ∀ t, Steps p.tables e below (T119.setTop (mkF m 188 #[.val (.int p1), .val (.int p2), .val (.int p3), .val (.int p4), .val (.int p5), .val (.int p6), .val (.int kd), .val (.int (0 : Int32)), .val (.int mu), .val (.int x0), .val (.int x1), .val (.int x2), .val (.int x3), .val (.int x4), .unset, .val (.ref b87), .unset, .unset, .unset, .unset] [])) t → Steps p.tables e below (s₁.setTop (entryFrame m #[(.int p1), (.int p2), (.int p3), (.int p4), (.int p5), (.int p6)] maxLocals)) t := fun t k => k117 t (st119 _ k)
          have Z120 : n0 ≤ h119.size := Nat.le_trans Z104 (Keep.of_wr W119).1
          rw [own_narc hx0] at V119
          have kp122 : Keep h0 h119 [] := (((((((Keep.refl h0 []).ext E87).wr W91 (Or.inr sz_b87)).wr W95 (Or.inr sz_b87)).wr W99 (Or.inr sz_b87)).wr W103 (Or.inr sz_b87)).wr W119 (Or.inr sz_b87))
          obtain ⟨T121, h121, X121, e121, E121, A121, D121, -, st121⟩ := newO X119 hx hZ hown (hw _ (List.mem_of_getElem? (i := 4) rfl)) (hw _ (List.mem_of_getElem? (i := 5) rfl)) (hw _ (List.mem_of_getElem? (i := 6) rfl)) e119 (g := (mkF m 188 #[.val (.int p1), .val (.int p2), .val (.int p3), .val (.int p4), .val (.int p5), .val (.int p6), .val (.int kd), .val (.int (0 : Int32)), .val (.int mu), .val (.int x0), .val (.int x1), .val (.int x2), .val (.int x3), .val (.int x4), .unset, .val (.ref b87), .unset, .unset, .unset, .unset] [])) rfl (hb hby at_188) (by decide) (by decide)
          obtain ⟨b121, g121⟩ : ∃ z, z = h119.size := ⟨_, rfl⟩
          rw [← g121] at A121 D121 st121
          have ne_b87_b121 : b87 ≠ b121 := Nat.ne_of_lt (Nat.lt_of_lt_of_eq V119.lt g121.symm)
          have g_b121 : n0 ≤ b121 := Nat.le_trans Z120 (Nat.le_of_eq g121.symm)
          have sz_b121 : h0.size ≤ b121 := Nat.le_trans kp122.1 (Nat.le_of_eq g121.symm)
          have F121_value : Fld Z h121 b121 "java/lang/String" "value" "[B" .null := D121 (Or.inr (hw _ (List.mem_of_getElem? (i := 20) rfl))) (ty := (.array .byte)) (by decide)
          have F121_coder : Fld Z h121 b121 "java/lang/String" "coder" "B" (.int (0 : Int32)) := D121 (Or.inr (hw _ (List.mem_of_getElem? (i := 21) rfl))) (ty := .byte) (by decide)
          have k121 : ∀ t, Steps p.tables e below (T121.setTop (mkF m 191 #[.val (.int p1), .val (.int p2), .val (.int p3), .val (.int p4), .val (.int p5), .val (.int p6), .val (.int kd), .val (.int (0 : Int32)), .val (.int mu), .val (.int x0), .val (.int x1), .val (.int x2), .val (.int x3), .val (.int x4), .unset, .val (.ref b87), .unset, .unset, .unset, .unset] [(.ref b121)])) t → Steps p.tables e below (s₁.setTop (entryFrame m #[(.int p1), (.int p2), (.int p3), (.int p4), (.int p5), (.int p6)] maxLocals)) t := fun t k => k119 t (st121 _ k)
          have Z123 : n0 ≤ h121.size := Nat.le_trans Z120 E121.1
          have hpp : ∀ c ∈ ([x0, (99 : Int32), (115 : Int32), (112 : Int32)] : List Int32), ¬ c < (0 : Int32) ∧ ¬ (255 : Int32) < c := by
            intro c hc
            simp only [List.mem_cons, List.not_mem_nil, or_false] at hc
            rcases hc with rfl | rfl | rfl | rfl
            · exact hx0
            · exact (by decide)
            · exact (by decide)
            · exact (by decide)
          have f124 := (V119.ext E121)
          have od125 : Old Z n0 h121 := (((((((XO.ext E87).wr W91 g_b87).wr W95 g_b87).wr W99 g_b87).wr W103 g_b87).wr W119 g_b87).ext E121)
          have k126 : ∀ t, Steps p.tables e below (T121.setTop (mkF m 194 #[.val (.int p1), .val (.int p2), .val (.int p3), .val (.int p4), .val (.int p5), .val (.int p6), .val (.int kd), .val (.int (0 : Int32)), .val (.int mu), .val (.int x0), .val (.int x1), .val (.int x2), .val (.int x3), .val (.int x4), .unset, .val (.ref b87), .unset, .unset, .unset, .unset] [(.ref b87), (.ref b121), (.ref b121)])) t → Steps p.tables e below (s₁.setTop (entryFrame m #[(.int p1), (.int p2), (.int p3), (.int p4), (.int p5), (.int p6)] maxLocals)) t := by
            intro t k
            refine k121 _ ?_
            show Steps p.tables e below (T121.setTop (mkF m 191 #[.val (.int p1), .val (.int p2), .val (.int p3), .val (.int p4), .val (.int p5), .val (.int p6), .val (.int kd), .val (.int (0 : Int32)), .val (.int mu), .val (.int x0), .val (.int x1), .val (.int x2), .val (.int x3), .val (.int x4), .unset, .val (.ref b87), .unset, .unset, .unset, .unset] [(.ref b121)])) _
            refine XS.dup X121.here hx rfl (hb hby at_191) rfl rfl ?_
            show Steps p.tables e below (T121.setTop (mkF m 192 #[.val (.int p1), .val (.int p2), .val (.int p3), .val (.int p4), .val (.int p5), .val (.int p6), .val (.int kd), .val (.int (0 : Int32)), .val (.int mu), .val (.int x0), .val (.int x1), .val (.int x2), .val (.int x3), .val (.int x4), .unset, .val (.ref b87), .unset, .unset, .unset, .unset] [(.ref b121), (.ref b121)])) _
            refine XS.aload X121.here hx rfl (hb hby at_192) rfl rfl ?_
            show Steps p.tables e below (T121.setTop (mkF m 194 #[.val (.int p1), .val (.int p2), .val (.int p3), .val (.int p4), .val (.int p5), .val (.int p6), .val (.int kd), .val (.int (0 : Int32)), .val (.int mu), .val (.int x0), .val (.int x1), .val (.int x2), .val (.int x3), .val (.int x4), .unset, .val (.ref b87), .unset, .unset, .unset, .unset] [(.ref b87), (.ref b121), (.ref b121)])) _
            exact k
          obtain ⟨_, _, ⟨T127, L127, ck127, nk127⟩, -, X127, ⟨Lc127, hQ127, l127, y127, z127⟩, st127⟩ := X121.specialBack hx (y := (⟨"java/lang/String", "<init>", "([C)V"⟩ : MethodName)) rfl hown (mvT hZ (hw _ (List.mem_of_getElem? (i := 8) rfl))) (mvT hZ (hw _ (List.mem_of_getElem? (i := 9) rfl))) (mvT hZ (hw _ (List.mem_of_getElem? (i := 10) rfl))) (by decide) (StrChars.Road.backV (W := 1) hZ (fun d hd => hw d (own_wNew d hd)) (kI := 4) (hw _ (List.mem_of_getElem? (i := 5) rfl)) (cs := ([x0, (99 : Int32), (115 : Int32), (112 : Int32)] : List Int32)) (bs := ([x0, (99 : Int32), (115 : Int32), (112 : Int32)] : List Int32).map (fun c => c.toInt8.toInt32)) (n := 4) g_b121 Z123 A121 F121_value F121_coder f124 (S1.ext od125.2) hcs rfl rfl (by decide) (by decide) hpp rfl (by decide) (by decide)) (g := (mkF m 194 #[.val (.int p1), .val (.int p2), .val (.int p3), .val (.int p4), .val (.int p5), .val (.int p6), .val (.int kd), .val (.int (0 : Int32)), .val (.int mu), .val (.int x0), .val (.int x1), .val (.int x2), .val (.int x3), .val (.int x4), .unset, .val (.ref b87), .unset, .unset, .unset, .unset] [(.ref b87), (.ref b121), (.ref b121)])) rfl (by rw [hml]; rfl) (Steps.refl _) (a := b121) (argsL := [(.ref b87)]) (rest := [(.ref b121)]) (lenOf pd_2 rfl) rfl (by show 2 * 0 + _ ≤ _; exact Nat.le_of_eq rfl) (hb hby at_194) (fun _ _ => ⟨rfl, e121, (by decide : 2 + 1 ≤ _), (by decide : 8 + 4 ≤ _)⟩)
          dsimp only [Pt.U, Pt.locs, Pt.cells, Pt.slots] at X127 l127 y127 z127 st127 hQ127
          subst l127 y127 z127
          obtain ⟨rfl, N127q, K127, EE127, FC127, t127, kb127, ht1127, ht2127, ht3127, FV127, VA127⟩ := hQ127
          have N127 := Fr.app N119 N127q
          have k127 : ∀ t, Steps p.tables e below (T127.setTop (mkF m 197 #[.val (.int p1), .val (.int p2), .val (.int p3), .val (.int p4), .val (.int p5), .val (.int p6), .val (.int kd), .val (.int (0 : Int32)), .val (.int mu), .val (.int x0), .val (.int x1), .val (.int x2), .val (.int x3), .val (.int x4), .unset, .val (.ref b87), .unset, .unset, .unset, .unset] [(.ref b121)])) t → Steps p.tables e below (s₁.setTop (entryFrame m #[(.int p1), (.int p2), (.int p3), (.int p4), (.int p5), (.int p6)] maxLocals)) t := fun t k => k126 t (st127.trans k)
          have Z128 : n0 ≤ T127.heap.size := Nat.le_trans Z123 K127.1
          have TS127 : own_Str Z T127.heap b121 ([x0, (99 : Int32), (115 : Int32), (112 : Int32)] : List Int32) := ⟨t127, kb127, EE127, FC127, FV127, VA127, hpp, Nat.le_of_ble_eq_true rfl⟩
          have k129 : ∀ t, Steps p.tables e below (T127.setTop (mkF m 205 #[.val (.int p1), .val (.int p2), .val (.int p3), .val (.int p4), .val (.int p5), .val (.int p6), .val (.int kd), .val (.int (0 : Int32)), .val (.int mu), .val (.int x0), .val (.int x1), .val (.int x2), .val (.int x3), .val (.int x4), .val (.ref b121), .val (.ref b87), .unset, .unset, .unset, .unset] [])) t → Steps p.tables e below (s₁.setTop (entryFrame m #[(.int p1), (.int p2), (.int p3), (.int p4), (.int p5), (.int p6)] maxLocals)) t := by
            intro t k
            refine k127 _ ?_
            show Steps p.tables e below (T127.setTop (mkF m 197 #[.val (.int p1), .val (.int p2), .val (.int p3), .val (.int p4), .val (.int p5), .val (.int p6), .val (.int kd), .val (.int (0 : Int32)), .val (.int mu), .val (.int x0), .val (.int x1), .val (.int x2), .val (.int x3), .val (.int x4), .unset, .val (.ref b87), .unset, .unset, .unset, .unset] [(.ref b121)])) _
            refine XS.astore X127.here hx rfl (hb hby at_197) rfl rfl (l' := #[.val (.int p1), .val (.int p2), .val (.int p3), .val (.int p4), .val (.int p5), .val (.int p6), .val (.int kd), .val (.int (0 : Int32)), .val (.int mu), .val (.int x0), .val (.int x1), .val (.int x2), .val (.int x3), .val (.int x4), .val (.ref b121), .val (.ref b87), .unset, .unset, .unset, .unset]) rfl ?_
            show Steps p.tables e below (T127.setTop (mkF m 199 #[.val (.int p1), .val (.int p2), .val (.int p3), .val (.int p4), .val (.int p5), .val (.int p6), .val (.int kd), .val (.int (0 : Int32)), .val (.int mu), .val (.int x0), .val (.int x1), .val (.int x2), .val (.int x3), .val (.int x4), .val (.ref b121), .val (.ref b87), .unset, .unset, .unset, .unset] [])) _
            refine XS.goto X127.here hx rfl (pc0 := 199) (pc' := 205) rfl (hb hby at_199) (by decide) (by decide) ?_
            show Steps p.tables e below (T127.setTop (mkF m 205 #[.val (.int p1), .val (.int p2), .val (.int p3), .val (.int p4), .val (.int p5), .val (.int p6), .val (.int kd), .val (.int (0 : Int32)), .val (.int mu), .val (.int x0), .val (.int x1), .val (.int x2), .val (.int x3), .val (.int x4), .val (.ref b121), .val (.ref b87), .unset, .unset, .unset, .unset] [])) _
            exact k
          have od130 : Old Z n0 T127.heap := (od125.keep K127 (allS g_b121 all0))
          exact tail T127 _ s.vm 0 b121 [x0, (99 : Int32), (115 : Int32), (112 : Int32)] (.val (.ref b87)) (One.val rfl) (Stand.more X127 (by decide) (by decide)) ((State.WarmedH.refl s).since 0) (Nat.zero_le _) hZ hown N127 Z128 od130 TS127 (Nat.le_of_ble_eq_true rfl) k129
        · skip
          obtain ⟨cl131, Ar131, qk131, Sz131, Nn131, Hs131, Gs131⟩ := id V103
          obtain ⟨T132, h132, X132, e132, W132, st132⟩ := stC X103 hx hZ e103 Ar131 (j := (1 : Int32)) (inb_of Sz131 ⟨(by decide : ¬ ((1 : Int32) < (0 : Int32))), (by decide : (1 : Int32) < (4 : Int32))⟩) (g := (mkF m 187 #[.val (.int p1), .val (.int p2), .val (.int p3), .val (.int p4), .val (.int p5), .val (.int p6), .val (.int kd), .val (.int (1 : Int32)), .val (.int mu), .val (.int x0), .val (.int x1), .val (.int x2), .val (.int x3), .val (.int x4), .unset, .val (.ref b87), .unset, .unset, .unset, .unset] [(.int x0), (.int (1 : Int32)), (.ref b87)])) rfl rfl (hb hby at_187)
          have N132 := Fr.snoc X132 N103 g_b87
          have V132 : Arv Z h132 b87 k87_ .char (4 : Int32) [(.int (100 : Int32)), (.int (nar .char x0)), (.int (115 : Int32)), (.int (112 : Int32))] (.int (0 : Int32)) := Arv.set Ar131 qk131 Sz131 Nn131 Hs131 Gs131 (fits_nar_char _) W132 1 rfl (Nat.le_of_ble_eq_true rfl)
          have k132 : ∀ t, Steps p.tables e below (T132.setTop (mkF m 188 #[.val (.int p1), .val (.int p2), .val (.int p3), .val (.int p4), .val (.int p5), .val (.int p6), .val (.int kd), .val (.int (1 : Int32)), .val (.int mu), .val (.int x0), .val (.int x1), .val (.int x2), .val (.int x3), .val (.int x4), .unset, .val (.ref b87), .unset, .unset, .unset, .unset] [])) t → Steps p.tables e below (s₁.setTop (entryFrame m #[(.int p1), (.int p2), (.int p3), (.int p4), (.int p5), (.int p6)] maxLocals)) t := fun t k => k117 t (st132 _ k)
          have Z133 : n0 ≤ h132.size := Nat.le_trans Z104 (Keep.of_wr W132).1
          rw [own_narc hx0] at V132
          have kp135 : Keep h0 h132 [] := (((((((Keep.refl h0 []).ext E87).wr W91 (Or.inr sz_b87)).wr W95 (Or.inr sz_b87)).wr W99 (Or.inr sz_b87)).wr W103 (Or.inr sz_b87)).wr W132 (Or.inr sz_b87))
          obtain ⟨T134, h134, X134, e134, E134, A134, D134, -, st134⟩ := newO X132 hx hZ hown (hw _ (List.mem_of_getElem? (i := 4) rfl)) (hw _ (List.mem_of_getElem? (i := 5) rfl)) (hw _ (List.mem_of_getElem? (i := 6) rfl)) e132 (g := (mkF m 188 #[.val (.int p1), .val (.int p2), .val (.int p3), .val (.int p4), .val (.int p5), .val (.int p6), .val (.int kd), .val (.int (1 : Int32)), .val (.int mu), .val (.int x0), .val (.int x1), .val (.int x2), .val (.int x3), .val (.int x4), .unset, .val (.ref b87), .unset, .unset, .unset, .unset] [])) rfl (hb hby at_188) (by decide) (by decide)
          obtain ⟨b134, g134⟩ : ∃ z, z = h132.size := ⟨_, rfl⟩
          rw [← g134] at A134 D134 st134
          have ne_b87_b134 : b87 ≠ b134 := Nat.ne_of_lt (Nat.lt_of_lt_of_eq V132.lt g134.symm)
          have g_b134 : n0 ≤ b134 := Nat.le_trans Z133 (Nat.le_of_eq g134.symm)
          have sz_b134 : h0.size ≤ b134 := Nat.le_trans kp135.1 (Nat.le_of_eq g134.symm)
          have F134_value : Fld Z h134 b134 "java/lang/String" "value" "[B" .null := D134 (Or.inr (hw _ (List.mem_of_getElem? (i := 20) rfl))) (ty := (.array .byte)) (by decide)
          have F134_coder : Fld Z h134 b134 "java/lang/String" "coder" "B" (.int (0 : Int32)) := D134 (Or.inr (hw _ (List.mem_of_getElem? (i := 21) rfl))) (ty := .byte) (by decide)
          have k134 : ∀ t, Steps p.tables e below (T134.setTop (mkF m 191 #[.val (.int p1), .val (.int p2), .val (.int p3), .val (.int p4), .val (.int p5), .val (.int p6), .val (.int kd), .val (.int (1 : Int32)), .val (.int mu), .val (.int x0), .val (.int x1), .val (.int x2), .val (.int x3), .val (.int x4), .unset, .val (.ref b87), .unset, .unset, .unset, .unset] [(.ref b134)])) t → Steps p.tables e below (s₁.setTop (entryFrame m #[(.int p1), (.int p2), (.int p3), (.int p4), (.int p5), (.int p6)] maxLocals)) t := fun t k => k132 t (st134 _ k)
          have Z136 : n0 ≤ h134.size := Nat.le_trans Z133 E134.1
          have hpp : ∀ c ∈ ([(100 : Int32), x0, (115 : Int32), (112 : Int32)] : List Int32), ¬ c < (0 : Int32) ∧ ¬ (255 : Int32) < c := by
            intro c hc
            simp only [List.mem_cons, List.not_mem_nil, or_false] at hc
            rcases hc with rfl | rfl | rfl | rfl
            · exact (by decide)
            · exact hx0
            · exact (by decide)
            · exact (by decide)
          have f137 := (V132.ext E134)
          have od138 : Old Z n0 h134 := (((((((XO.ext E87).wr W91 g_b87).wr W95 g_b87).wr W99 g_b87).wr W103 g_b87).wr W132 g_b87).ext E134)
          have k139 : ∀ t, Steps p.tables e below (T134.setTop (mkF m 194 #[.val (.int p1), .val (.int p2), .val (.int p3), .val (.int p4), .val (.int p5), .val (.int p6), .val (.int kd), .val (.int (1 : Int32)), .val (.int mu), .val (.int x0), .val (.int x1), .val (.int x2), .val (.int x3), .val (.int x4), .unset, .val (.ref b87), .unset, .unset, .unset, .unset] [(.ref b87), (.ref b134), (.ref b134)])) t → Steps p.tables e below (s₁.setTop (entryFrame m #[(.int p1), (.int p2), (.int p3), (.int p4), (.int p5), (.int p6)] maxLocals)) t := by
            intro t k
            refine k134 _ ?_
            show Steps p.tables e below (T134.setTop (mkF m 191 #[.val (.int p1), .val (.int p2), .val (.int p3), .val (.int p4), .val (.int p5), .val (.int p6), .val (.int kd), .val (.int (1 : Int32)), .val (.int mu), .val (.int x0), .val (.int x1), .val (.int x2), .val (.int x3), .val (.int x4), .unset, .val (.ref b87), .unset, .unset, .unset, .unset] [(.ref b134)])) _
            refine XS.dup X134.here hx rfl (hb hby at_191) rfl rfl ?_
            show Steps p.tables e below (T134.setTop (mkF m 192 #[.val (.int p1), .val (.int p2), .val (.int p3), .val (.int p4), .val (.int p5), .val (.int p6), .val (.int kd), .val (.int (1 : Int32)), .val (.int mu), .val (.int x0), .val (.int x1), .val (.int x2), .val (.int x3), .val (.int x4), .unset, .val (.ref b87), .unset, .unset, .unset, .unset] [(.ref b134), (.ref b134)])) _
            refine XS.aload X134.here hx rfl (hb hby at_192) rfl rfl ?_
            show Steps p.tables e below (T134.setTop (mkF m 194 #[.val (.int p1), .val (.int p2), .val (.int p3), .val (.int p4), .val (.int p5), .val (.int p6), .val (.int kd), .val (.int (1 : Int32)), .val (.int mu), .val (.int x0), .val (.int x1), .val (.int x2), .val (.int x3), .val (.int x4), .unset, .val (.ref b87), .unset, .unset, .unset, .unset] [(.ref b87), (.ref b134), (.ref b134)])) _
            exact k
          obtain ⟨_, _, ⟨T140, L140, ck140, nk140⟩, -, X140, ⟨Lc140, hQ140, l140, y140, z140⟩, st140⟩ := X134.specialBack hx (y := (⟨"java/lang/String", "<init>", "([C)V"⟩ : MethodName)) rfl hown (mvT hZ (hw _ (List.mem_of_getElem? (i := 8) rfl))) (mvT hZ (hw _ (List.mem_of_getElem? (i := 9) rfl))) (mvT hZ (hw _ (List.mem_of_getElem? (i := 10) rfl))) (by decide) (StrChars.Road.backV (W := 1) hZ (fun d hd => hw d (own_wNew d hd)) (kI := 4) (hw _ (List.mem_of_getElem? (i := 5) rfl)) (cs := ([(100 : Int32), x0, (115 : Int32), (112 : Int32)] : List Int32)) (bs := ([(100 : Int32), x0, (115 : Int32), (112 : Int32)] : List Int32).map (fun c => c.toInt8.toInt32)) (n := 4) g_b134 Z136 A134 F134_value F134_coder f137 (S1.ext od138.2) hcs rfl rfl (by decide) (by decide) hpp rfl (by decide) (by decide)) (g := (mkF m 194 #[.val (.int p1), .val (.int p2), .val (.int p3), .val (.int p4), .val (.int p5), .val (.int p6), .val (.int kd), .val (.int (1 : Int32)), .val (.int mu), .val (.int x0), .val (.int x1), .val (.int x2), .val (.int x3), .val (.int x4), .unset, .val (.ref b87), .unset, .unset, .unset, .unset] [(.ref b87), (.ref b134), (.ref b134)])) rfl (by rw [hml]; rfl) (Steps.refl _) (a := b134) (argsL := [(.ref b87)]) (rest := [(.ref b134)]) (lenOf pd_2 rfl) rfl (by show 2 * 0 + _ ≤ _; exact Nat.le_of_eq rfl) (hb hby at_194) (fun _ _ => ⟨rfl, e134, (by decide : 2 + 1 ≤ _), (by decide : 8 + 4 ≤ _)⟩)
          dsimp only [Pt.U, Pt.locs, Pt.cells, Pt.slots] at X140 l140 y140 z140 st140 hQ140
          subst l140 y140 z140
          obtain ⟨rfl, N140q, K140, EE140, FC140, t140, kb140, ht1140, ht2140, ht3140, FV140, VA140⟩ := hQ140
          have N140 := Fr.app N132 N140q
          have k140 : ∀ t, Steps p.tables e below (T140.setTop (mkF m 197 #[.val (.int p1), .val (.int p2), .val (.int p3), .val (.int p4), .val (.int p5), .val (.int p6), .val (.int kd), .val (.int (1 : Int32)), .val (.int mu), .val (.int x0), .val (.int x1), .val (.int x2), .val (.int x3), .val (.int x4), .unset, .val (.ref b87), .unset, .unset, .unset, .unset] [(.ref b134)])) t → Steps p.tables e below (s₁.setTop (entryFrame m #[(.int p1), (.int p2), (.int p3), (.int p4), (.int p5), (.int p6)] maxLocals)) t := fun t k => k139 t (st140.trans k)
          have Z141 : n0 ≤ T140.heap.size := Nat.le_trans Z136 K140.1
          have TS140 : own_Str Z T140.heap b134 ([(100 : Int32), x0, (115 : Int32), (112 : Int32)] : List Int32) := ⟨t140, kb140, EE140, FC140, FV140, VA140, hpp, Nat.le_of_ble_eq_true rfl⟩
          have k142 : ∀ t, Steps p.tables e below (T140.setTop (mkF m 205 #[.val (.int p1), .val (.int p2), .val (.int p3), .val (.int p4), .val (.int p5), .val (.int p6), .val (.int kd), .val (.int (1 : Int32)), .val (.int mu), .val (.int x0), .val (.int x1), .val (.int x2), .val (.int x3), .val (.int x4), .val (.ref b134), .val (.ref b87), .unset, .unset, .unset, .unset] [])) t → Steps p.tables e below (s₁.setTop (entryFrame m #[(.int p1), (.int p2), (.int p3), (.int p4), (.int p5), (.int p6)] maxLocals)) t := by
            intro t k
            refine k140 _ ?_
            show Steps p.tables e below (T140.setTop (mkF m 197 #[.val (.int p1), .val (.int p2), .val (.int p3), .val (.int p4), .val (.int p5), .val (.int p6), .val (.int kd), .val (.int (1 : Int32)), .val (.int mu), .val (.int x0), .val (.int x1), .val (.int x2), .val (.int x3), .val (.int x4), .unset, .val (.ref b87), .unset, .unset, .unset, .unset] [(.ref b134)])) _
            refine XS.astore X140.here hx rfl (hb hby at_197) rfl rfl (l' := #[.val (.int p1), .val (.int p2), .val (.int p3), .val (.int p4), .val (.int p5), .val (.int p6), .val (.int kd), .val (.int (1 : Int32)), .val (.int mu), .val (.int x0), .val (.int x1), .val (.int x2), .val (.int x3), .val (.int x4), .val (.ref b134), .val (.ref b87), .unset, .unset, .unset, .unset]) rfl ?_
            show Steps p.tables e below (T140.setTop (mkF m 199 #[.val (.int p1), .val (.int p2), .val (.int p3), .val (.int p4), .val (.int p5), .val (.int p6), .val (.int kd), .val (.int (1 : Int32)), .val (.int mu), .val (.int x0), .val (.int x1), .val (.int x2), .val (.int x3), .val (.int x4), .val (.ref b134), .val (.ref b87), .unset, .unset, .unset, .unset] [])) _
            refine XS.goto X140.here hx rfl (pc0 := 199) (pc' := 205) rfl (hb hby at_199) (by decide) (by decide) ?_
            show Steps p.tables e below (T140.setTop (mkF m 205 #[.val (.int p1), .val (.int p2), .val (.int p3), .val (.int p4), .val (.int p5), .val (.int p6), .val (.int kd), .val (.int (1 : Int32)), .val (.int mu), .val (.int x0), .val (.int x1), .val (.int x2), .val (.int x3), .val (.int x4), .val (.ref b134), .val (.ref b87), .unset, .unset, .unset, .unset] [])) _
            exact k
          have od143 : Old Z n0 T140.heap := (od138.keep K140 (allS g_b134 all0))
          exact tail T140 _ s.vm 0 b134 [(100 : Int32), x0, (115 : Int32), (112 : Int32)] (.val (.ref b87)) (One.val rfl) (Stand.more X140 (by decide) (by decide)) ((State.WarmedH.refl s).since 0) (Nat.zero_le _) hZ hown N140 Z141 od143 TS140 (Nat.le_of_ble_eq_true rfl) k142
        · skip
          obtain ⟨cl144, Ar144, qk144, Sz144, Nn144, Hs144, Gs144⟩ := id V103
          obtain ⟨T145, h145, X145, e145, W145, st145⟩ := stC X103 hx hZ e103 Ar144 (j := (2 : Int32)) (inb_of Sz144 ⟨(by decide : ¬ ((2 : Int32) < (0 : Int32))), (by decide : (2 : Int32) < (4 : Int32))⟩) (g := (mkF m 187 #[.val (.int p1), .val (.int p2), .val (.int p3), .val (.int p4), .val (.int p5), .val (.int p6), .val (.int kd), .val (.int (2 : Int32)), .val (.int mu), .val (.int x0), .val (.int x1), .val (.int x2), .val (.int x3), .val (.int x4), .unset, .val (.ref b87), .unset, .unset, .unset, .unset] [(.int x0), (.int (2 : Int32)), (.ref b87)])) rfl rfl (hb hby at_187)
          have N145 := Fr.snoc X145 N103 g_b87
          have V145 : Arv Z h145 b87 k87_ .char (4 : Int32) [(.int (100 : Int32)), (.int (99 : Int32)), (.int (nar .char x0)), (.int (112 : Int32))] (.int (0 : Int32)) := Arv.set Ar144 qk144 Sz144 Nn144 Hs144 Gs144 (fits_nar_char _) W145 2 rfl (Nat.le_of_ble_eq_true rfl)
          have k145 : ∀ t, Steps p.tables e below (T145.setTop (mkF m 188 #[.val (.int p1), .val (.int p2), .val (.int p3), .val (.int p4), .val (.int p5), .val (.int p6), .val (.int kd), .val (.int (2 : Int32)), .val (.int mu), .val (.int x0), .val (.int x1), .val (.int x2), .val (.int x3), .val (.int x4), .unset, .val (.ref b87), .unset, .unset, .unset, .unset] [])) t → Steps p.tables e below (s₁.setTop (entryFrame m #[(.int p1), (.int p2), (.int p3), (.int p4), (.int p5), (.int p6)] maxLocals)) t := fun t k => k117 t (st145 _ k)
          have Z146 : n0 ≤ h145.size := Nat.le_trans Z104 (Keep.of_wr W145).1
          rw [own_narc hx0] at V145
          have kp148 : Keep h0 h145 [] := (((((((Keep.refl h0 []).ext E87).wr W91 (Or.inr sz_b87)).wr W95 (Or.inr sz_b87)).wr W99 (Or.inr sz_b87)).wr W103 (Or.inr sz_b87)).wr W145 (Or.inr sz_b87))
          obtain ⟨T147, h147, X147, e147, E147, A147, D147, -, st147⟩ := newO X145 hx hZ hown (hw _ (List.mem_of_getElem? (i := 4) rfl)) (hw _ (List.mem_of_getElem? (i := 5) rfl)) (hw _ (List.mem_of_getElem? (i := 6) rfl)) e145 (g := (mkF m 188 #[.val (.int p1), .val (.int p2), .val (.int p3), .val (.int p4), .val (.int p5), .val (.int p6), .val (.int kd), .val (.int (2 : Int32)), .val (.int mu), .val (.int x0), .val (.int x1), .val (.int x2), .val (.int x3), .val (.int x4), .unset, .val (.ref b87), .unset, .unset, .unset, .unset] [])) rfl (hb hby at_188) (by decide) (by decide)
          obtain ⟨b147, g147⟩ : ∃ z, z = h145.size := ⟨_, rfl⟩
          rw [← g147] at A147 D147 st147
          have ne_b87_b147 : b87 ≠ b147 := Nat.ne_of_lt (Nat.lt_of_lt_of_eq V145.lt g147.symm)
          have g_b147 : n0 ≤ b147 := Nat.le_trans Z146 (Nat.le_of_eq g147.symm)
          have sz_b147 : h0.size ≤ b147 := Nat.le_trans kp148.1 (Nat.le_of_eq g147.symm)
          have F147_value : Fld Z h147 b147 "java/lang/String" "value" "[B" .null := D147 (Or.inr (hw _ (List.mem_of_getElem? (i := 20) rfl))) (ty := (.array .byte)) (by decide)
          have F147_coder : Fld Z h147 b147 "java/lang/String" "coder" "B" (.int (0 : Int32)) := D147 (Or.inr (hw _ (List.mem_of_getElem? (i := 21) rfl))) (ty := .byte) (by decide)
          have k147 : ∀ t, Steps p.tables e below (T147.setTop (mkF m 191 #[.val (.int p1), .val (.int p2), .val (.int p3), .val (.int p4), .val (.int p5), .val (.int p6), .val (.int kd), .val (.int (2 : Int32)), .val (.int mu), .val (.int x0), .val (.int x1), .val (.int x2), .val (.int x3), .val (.int x4), .unset, .val (.ref b87), .unset, .unset, .unset, .unset] [(.ref b147)])) t → Steps p.tables e below (s₁.setTop (entryFrame m #[(.int p1), (.int p2), (.int p3), (.int p4), (.int p5), (.int p6)] maxLocals)) t := fun t k => k145 t (st147 _ k)
          have Z149 : n0 ≤ h147.size := Nat.le_trans Z146 E147.1
          have hpp : ∀ c ∈ ([(100 : Int32), (99 : Int32), x0, (112 : Int32)] : List Int32), ¬ c < (0 : Int32) ∧ ¬ (255 : Int32) < c := by
            intro c hc
            simp only [List.mem_cons, List.not_mem_nil, or_false] at hc
            rcases hc with rfl | rfl | rfl | rfl
            · exact (by decide)
            · exact (by decide)
            · exact hx0
            · exact (by decide)
          have f150 := (V145.ext E147)
          have od151 : Old Z n0 h147 := (((((((XO.ext E87).wr W91 g_b87).wr W95 g_b87).wr W99 g_b87).wr W103 g_b87).wr W145 g_b87).ext E147)
          have k152 : ∀ t, Steps p.tables e below (T147.setTop (mkF m 194 #[.val (.int p1), .val (.int p2), .val (.int p3), .val (.int p4), .val (.int p5), .val (.int p6), .val (.int kd), .val (.int (2 : Int32)), .val (.int mu), .val (.int x0), .val (.int x1), .val (.int x2), .val (.int x3), .val (.int x4), .unset, .val (.ref b87), .unset, .unset, .unset, .unset] [(.ref b87), (.ref b147), (.ref b147)])) t → Steps p.tables e below (s₁.setTop (entryFrame m #[(.int p1), (.int p2), (.int p3), (.int p4), (.int p5), (.int p6)] maxLocals)) t := by
            intro t k
            refine k147 _ ?_
            show Steps p.tables e below (T147.setTop (mkF m 191 #[.val (.int p1), .val (.int p2), .val (.int p3), .val (.int p4), .val (.int p5), .val (.int p6), .val (.int kd), .val (.int (2 : Int32)), .val (.int mu), .val (.int x0), .val (.int x1), .val (.int x2), .val (.int x3), .val (.int x4), .unset, .val (.ref b87), .unset, .unset, .unset, .unset] [(.ref b147)])) _
            refine XS.dup X147.here hx rfl (hb hby at_191) rfl rfl ?_
            show Steps p.tables e below (T147.setTop (mkF m 192 #[.val (.int p1), .val (.int p2), .val (.int p3), .val (.int p4), .val (.int p5), .val (.int p6), .val (.int kd), .val (.int (2 : Int32)), .val (.int mu), .val (.int x0), .val (.int x1), .val (.int x2), .val (.int x3), .val (.int x4), .unset, .val (.ref b87), .unset, .unset, .unset, .unset] [(.ref b147), (.ref b147)])) _
            refine XS.aload X147.here hx rfl (hb hby at_192) rfl rfl ?_
            show Steps p.tables e below (T147.setTop (mkF m 194 #[.val (.int p1), .val (.int p2), .val (.int p3), .val (.int p4), .val (.int p5), .val (.int p6), .val (.int kd), .val (.int (2 : Int32)), .val (.int mu), .val (.int x0), .val (.int x1), .val (.int x2), .val (.int x3), .val (.int x4), .unset, .val (.ref b87), .unset, .unset, .unset, .unset] [(.ref b87), (.ref b147), (.ref b147)])) _
            exact k
          obtain ⟨_, _, ⟨T153, L153, ck153, nk153⟩, -, X153, ⟨Lc153, hQ153, l153, y153, z153⟩, st153⟩ := X147.specialBack hx (y := (⟨"java/lang/String", "<init>", "([C)V"⟩ : MethodName)) rfl hown (mvT hZ (hw _ (List.mem_of_getElem? (i := 8) rfl))) (mvT hZ (hw _ (List.mem_of_getElem? (i := 9) rfl))) (mvT hZ (hw _ (List.mem_of_getElem? (i := 10) rfl))) (by decide) (StrChars.Road.backV (W := 1) hZ (fun d hd => hw d (own_wNew d hd)) (kI := 4) (hw _ (List.mem_of_getElem? (i := 5) rfl)) (cs := ([(100 : Int32), (99 : Int32), x0, (112 : Int32)] : List Int32)) (bs := ([(100 : Int32), (99 : Int32), x0, (112 : Int32)] : List Int32).map (fun c => c.toInt8.toInt32)) (n := 4) g_b147 Z149 A147 F147_value F147_coder f150 (S1.ext od151.2) hcs rfl rfl (by decide) (by decide) hpp rfl (by decide) (by decide)) (g := (mkF m 194 #[.val (.int p1), .val (.int p2), .val (.int p3), .val (.int p4), .val (.int p5), .val (.int p6), .val (.int kd), .val (.int (2 : Int32)), .val (.int mu), .val (.int x0), .val (.int x1), .val (.int x2), .val (.int x3), .val (.int x4), .unset, .val (.ref b87), .unset, .unset, .unset, .unset] [(.ref b87), (.ref b147), (.ref b147)])) rfl (by rw [hml]; rfl) (Steps.refl _) (a := b147) (argsL := [(.ref b87)]) (rest := [(.ref b147)]) (lenOf pd_2 rfl) rfl (by show 2 * 0 + _ ≤ _; exact Nat.le_of_eq rfl) (hb hby at_194) (fun _ _ => ⟨rfl, e147, (by decide : 2 + 1 ≤ _), (by decide : 8 + 4 ≤ _)⟩)
          dsimp only [Pt.U, Pt.locs, Pt.cells, Pt.slots] at X153 l153 y153 z153 st153 hQ153
          subst l153 y153 z153
          obtain ⟨rfl, N153q, K153, EE153, FC153, t153, kb153, ht1153, ht2153, ht3153, FV153, VA153⟩ := hQ153
          have N153 := Fr.app N145 N153q
          have k153 : ∀ t, Steps p.tables e below (T153.setTop (mkF m 197 #[.val (.int p1), .val (.int p2), .val (.int p3), .val (.int p4), .val (.int p5), .val (.int p6), .val (.int kd), .val (.int (2 : Int32)), .val (.int mu), .val (.int x0), .val (.int x1), .val (.int x2), .val (.int x3), .val (.int x4), .unset, .val (.ref b87), .unset, .unset, .unset, .unset] [(.ref b147)])) t → Steps p.tables e below (s₁.setTop (entryFrame m #[(.int p1), (.int p2), (.int p3), (.int p4), (.int p5), (.int p6)] maxLocals)) t := fun t k => k152 t (st153.trans k)
          have Z154 : n0 ≤ T153.heap.size := Nat.le_trans Z149 K153.1
          have TS153 : own_Str Z T153.heap b147 ([(100 : Int32), (99 : Int32), x0, (112 : Int32)] : List Int32) := ⟨t153, kb153, EE153, FC153, FV153, VA153, hpp, Nat.le_of_ble_eq_true rfl⟩
          have k155 : ∀ t, Steps p.tables e below (T153.setTop (mkF m 205 #[.val (.int p1), .val (.int p2), .val (.int p3), .val (.int p4), .val (.int p5), .val (.int p6), .val (.int kd), .val (.int (2 : Int32)), .val (.int mu), .val (.int x0), .val (.int x1), .val (.int x2), .val (.int x3), .val (.int x4), .val (.ref b147), .val (.ref b87), .unset, .unset, .unset, .unset] [])) t → Steps p.tables e below (s₁.setTop (entryFrame m #[(.int p1), (.int p2), (.int p3), (.int p4), (.int p5), (.int p6)] maxLocals)) t := by
            intro t k
            refine k153 _ ?_
            show Steps p.tables e below (T153.setTop (mkF m 197 #[.val (.int p1), .val (.int p2), .val (.int p3), .val (.int p4), .val (.int p5), .val (.int p6), .val (.int kd), .val (.int (2 : Int32)), .val (.int mu), .val (.int x0), .val (.int x1), .val (.int x2), .val (.int x3), .val (.int x4), .unset, .val (.ref b87), .unset, .unset, .unset, .unset] [(.ref b147)])) _
            refine XS.astore X153.here hx rfl (hb hby at_197) rfl rfl (l' := #[.val (.int p1), .val (.int p2), .val (.int p3), .val (.int p4), .val (.int p5), .val (.int p6), .val (.int kd), .val (.int (2 : Int32)), .val (.int mu), .val (.int x0), .val (.int x1), .val (.int x2), .val (.int x3), .val (.int x4), .val (.ref b147), .val (.ref b87), .unset, .unset, .unset, .unset]) rfl ?_
            show Steps p.tables e below (T153.setTop (mkF m 199 #[.val (.int p1), .val (.int p2), .val (.int p3), .val (.int p4), .val (.int p5), .val (.int p6), .val (.int kd), .val (.int (2 : Int32)), .val (.int mu), .val (.int x0), .val (.int x1), .val (.int x2), .val (.int x3), .val (.int x4), .val (.ref b147), .val (.ref b87), .unset, .unset, .unset, .unset] [])) _
            refine XS.goto X153.here hx rfl (pc0 := 199) (pc' := 205) rfl (hb hby at_199) (by decide) (by decide) ?_
            show Steps p.tables e below (T153.setTop (mkF m 205 #[.val (.int p1), .val (.int p2), .val (.int p3), .val (.int p4), .val (.int p5), .val (.int p6), .val (.int kd), .val (.int (2 : Int32)), .val (.int mu), .val (.int x0), .val (.int x1), .val (.int x2), .val (.int x3), .val (.int x4), .val (.ref b147), .val (.ref b87), .unset, .unset, .unset, .unset] [])) _
            exact k
          have od156 : Old Z n0 T153.heap := (od151.keep K153 (allS g_b147 all0))
          exact tail T153 _ s.vm 0 b147 [(100 : Int32), (99 : Int32), x0, (112 : Int32)] (.val (.ref b87)) (One.val rfl) (Stand.more X153 (by decide) (by decide)) ((State.WarmedH.refl s).since 0) (Nat.zero_le _) hZ hown N153 Z154 od156 TS153 (Nat.le_of_ble_eq_true rfl) k155
        · skip
          obtain ⟨cl157, Ar157, qk157, Sz157, Nn157, Hs157, Gs157⟩ := id V103
          obtain ⟨T158, h158, X158, e158, W158, st158⟩ := stC X103 hx hZ e103 Ar157 (j := (3 : Int32)) (inb_of Sz157 ⟨(by decide : ¬ ((3 : Int32) < (0 : Int32))), (by decide : (3 : Int32) < (4 : Int32))⟩) (g := (mkF m 187 #[.val (.int p1), .val (.int p2), .val (.int p3), .val (.int p4), .val (.int p5), .val (.int p6), .val (.int kd), .val (.int (3 : Int32)), .val (.int mu), .val (.int x0), .val (.int x1), .val (.int x2), .val (.int x3), .val (.int x4), .unset, .val (.ref b87), .unset, .unset, .unset, .unset] [(.int x0), (.int (3 : Int32)), (.ref b87)])) rfl rfl (hb hby at_187)
          have N158 := Fr.snoc X158 N103 g_b87
          have V158 : Arv Z h158 b87 k87_ .char (4 : Int32) [(.int (100 : Int32)), (.int (99 : Int32)), (.int (115 : Int32)), (.int (nar .char x0))] (.int (0 : Int32)) := Arv.set Ar157 qk157 Sz157 Nn157 Hs157 Gs157 (fits_nar_char _) W158 3 rfl (Nat.le_of_ble_eq_true rfl)
          have k158 : ∀ t, Steps p.tables e below (T158.setTop (mkF m 188 #[.val (.int p1), .val (.int p2), .val (.int p3), .val (.int p4), .val (.int p5), .val (.int p6), .val (.int kd), .val (.int (3 : Int32)), .val (.int mu), .val (.int x0), .val (.int x1), .val (.int x2), .val (.int x3), .val (.int x4), .unset, .val (.ref b87), .unset, .unset, .unset, .unset] [])) t → Steps p.tables e below (s₁.setTop (entryFrame m #[(.int p1), (.int p2), (.int p3), (.int p4), (.int p5), (.int p6)] maxLocals)) t := fun t k => k117 t (st158 _ k)
          have Z159 : n0 ≤ h158.size := Nat.le_trans Z104 (Keep.of_wr W158).1
          rw [own_narc hx0] at V158
          have kp161 : Keep h0 h158 [] := (((((((Keep.refl h0 []).ext E87).wr W91 (Or.inr sz_b87)).wr W95 (Or.inr sz_b87)).wr W99 (Or.inr sz_b87)).wr W103 (Or.inr sz_b87)).wr W158 (Or.inr sz_b87))
          obtain ⟨T160, h160, X160, e160, E160, A160, D160, -, st160⟩ := newO X158 hx hZ hown (hw _ (List.mem_of_getElem? (i := 4) rfl)) (hw _ (List.mem_of_getElem? (i := 5) rfl)) (hw _ (List.mem_of_getElem? (i := 6) rfl)) e158 (g := (mkF m 188 #[.val (.int p1), .val (.int p2), .val (.int p3), .val (.int p4), .val (.int p5), .val (.int p6), .val (.int kd), .val (.int (3 : Int32)), .val (.int mu), .val (.int x0), .val (.int x1), .val (.int x2), .val (.int x3), .val (.int x4), .unset, .val (.ref b87), .unset, .unset, .unset, .unset] [])) rfl (hb hby at_188) (by decide) (by decide)
          obtain ⟨b160, g160⟩ : ∃ z, z = h158.size := ⟨_, rfl⟩
          rw [← g160] at A160 D160 st160
          have ne_b87_b160 : b87 ≠ b160 := Nat.ne_of_lt (Nat.lt_of_lt_of_eq V158.lt g160.symm)
          have g_b160 : n0 ≤ b160 := Nat.le_trans Z159 (Nat.le_of_eq g160.symm)
          have sz_b160 : h0.size ≤ b160 := Nat.le_trans kp161.1 (Nat.le_of_eq g160.symm)
          have F160_value : Fld Z h160 b160 "java/lang/String" "value" "[B" .null := D160 (Or.inr (hw _ (List.mem_of_getElem? (i := 20) rfl))) (ty := (.array .byte)) (by decide)
          have F160_coder : Fld Z h160 b160 "java/lang/String" "coder" "B" (.int (0 : Int32)) := D160 (Or.inr (hw _ (List.mem_of_getElem? (i := 21) rfl))) (ty := .byte) (by decide)
          have k160 : ∀ t, Steps p.tables e below (T160.setTop (mkF m 191 #[.val (.int p1), .val (.int p2), .val (.int p3), .val (.int p4), .val (.int p5), .val (.int p6), .val (.int kd), .val (.int (3 : Int32)), .val (.int mu), .val (.int x0), .val (.int x1), .val (.int x2), .val (.int x3), .val (.int x4), .unset, .val (.ref b87), .unset, .unset, .unset, .unset] [(.ref b160)])) t → Steps p.tables e below (s₁.setTop (entryFrame m #[(.int p1), (.int p2), (.int p3), (.int p4), (.int p5), (.int p6)] maxLocals)) t := fun t k => k158 t (st160 _ k)
          have Z162 : n0 ≤ h160.size := Nat.le_trans Z159 E160.1
          have hpp : ∀ c ∈ ([(100 : Int32), (99 : Int32), (115 : Int32), x0] : List Int32), ¬ c < (0 : Int32) ∧ ¬ (255 : Int32) < c := by
            intro c hc
            simp only [List.mem_cons, List.not_mem_nil, or_false] at hc
            rcases hc with rfl | rfl | rfl | rfl
            · exact (by decide)
            · exact (by decide)
            · exact (by decide)
            · exact hx0
          have f163 := (V158.ext E160)
          have od164 : Old Z n0 h160 := (((((((XO.ext E87).wr W91 g_b87).wr W95 g_b87).wr W99 g_b87).wr W103 g_b87).wr W158 g_b87).ext E160)
          have k165 : ∀ t, Steps p.tables e below (T160.setTop (mkF m 194 #[.val (.int p1), .val (.int p2), .val (.int p3), .val (.int p4), .val (.int p5), .val (.int p6), .val (.int kd), .val (.int (3 : Int32)), .val (.int mu), .val (.int x0), .val (.int x1), .val (.int x2), .val (.int x3), .val (.int x4), .unset, .val (.ref b87), .unset, .unset, .unset, .unset] [(.ref b87), (.ref b160), (.ref b160)])) t → Steps p.tables e below (s₁.setTop (entryFrame m #[(.int p1), (.int p2), (.int p3), (.int p4), (.int p5), (.int p6)] maxLocals)) t := by
            intro t k
            refine k160 _ ?_
            show Steps p.tables e below (T160.setTop (mkF m 191 #[.val (.int p1), .val (.int p2), .val (.int p3), .val (.int p4), .val (.int p5), .val (.int p6), .val (.int kd), .val (.int (3 : Int32)), .val (.int mu), .val (.int x0), .val (.int x1), .val (.int x2), .val (.int x3), .val (.int x4), .unset, .val (.ref b87), .unset, .unset, .unset, .unset] [(.ref b160)])) _
            refine XS.dup X160.here hx rfl (hb hby at_191) rfl rfl ?_
            show Steps p.tables e below (T160.setTop (mkF m 192 #[.val (.int p1), .val (.int p2), .val (.int p3), .val (.int p4), .val (.int p5), .val (.int p6), .val (.int kd), .val (.int (3 : Int32)), .val (.int mu), .val (.int x0), .val (.int x1), .val (.int x2), .val (.int x3), .val (.int x4), .unset, .val (.ref b87), .unset, .unset, .unset, .unset] [(.ref b160), (.ref b160)])) _
            refine XS.aload X160.here hx rfl (hb hby at_192) rfl rfl ?_
            show Steps p.tables e below (T160.setTop (mkF m 194 #[.val (.int p1), .val (.int p2), .val (.int p3), .val (.int p4), .val (.int p5), .val (.int p6), .val (.int kd), .val (.int (3 : Int32)), .val (.int mu), .val (.int x0), .val (.int x1), .val (.int x2), .val (.int x3), .val (.int x4), .unset, .val (.ref b87), .unset, .unset, .unset, .unset] [(.ref b87), (.ref b160), (.ref b160)])) _
            exact k
          obtain ⟨_, _, ⟨T166, L166, ck166, nk166⟩, -, X166, ⟨Lc166, hQ166, l166, y166, z166⟩, st166⟩ := X160.specialBack hx (y := (⟨"java/lang/String", "<init>", "([C)V"⟩ : MethodName)) rfl hown (mvT hZ (hw _ (List.mem_of_getElem? (i := 8) rfl))) (mvT hZ (hw _ (List.mem_of_getElem? (i := 9) rfl))) (mvT hZ (hw _ (List.mem_of_getElem? (i := 10) rfl))) (by decide) (StrChars.Road.backV (W := 1) hZ (fun d hd => hw d (own_wNew d hd)) (kI := 4) (hw _ (List.mem_of_getElem? (i := 5) rfl)) (cs := ([(100 : Int32), (99 : Int32), (115 : Int32), x0] : List Int32)) (bs := ([(100 : Int32), (99 : Int32), (115 : Int32), x0] : List Int32).map (fun c => c.toInt8.toInt32)) (n := 4) g_b160 Z162 A160 F160_value F160_coder f163 (S1.ext od164.2) hcs rfl rfl (by decide) (by decide) hpp rfl (by decide) (by decide)) (g := (mkF m 194 #[.val (.int p1), .val (.int p2), .val (.int p3), .val (.int p4), .val (.int p5), .val (.int p6), .val (.int kd), .val (.int (3 : Int32)), .val (.int mu), .val (.int x0), .val (.int x1), .val (.int x2), .val (.int x3), .val (.int x4), .unset, .val (.ref b87), .unset, .unset, .unset, .unset] [(.ref b87), (.ref b160), (.ref b160)])) rfl (by rw [hml]; rfl) (Steps.refl _) (a := b160) (argsL := [(.ref b87)]) (rest := [(.ref b160)]) (lenOf pd_2 rfl) rfl (by show 2 * 0 + _ ≤ _; exact Nat.le_of_eq rfl) (hb hby at_194) (fun _ _ => ⟨rfl, e160, (by decide : 2 + 1 ≤ _), (by decide : 8 + 4 ≤ _)⟩)
          dsimp only [Pt.U, Pt.locs, Pt.cells, Pt.slots] at X166 l166 y166 z166 st166 hQ166
          subst l166 y166 z166
          obtain ⟨rfl, N166q, K166, EE166, FC166, t166, kb166, ht1166, ht2166, ht3166, FV166, VA166⟩ := hQ166
          have N166 := Fr.app N158 N166q
          have k166 : ∀ t, Steps p.tables e below (T166.setTop (mkF m 197 #[.val (.int p1), .val (.int p2), .val (.int p3), .val (.int p4), .val (.int p5), .val (.int p6), .val (.int kd), .val (.int (3 : Int32)), .val (.int mu), .val (.int x0), .val (.int x1), .val (.int x2), .val (.int x3), .val (.int x4), .unset, .val (.ref b87), .unset, .unset, .unset, .unset] [(.ref b160)])) t → Steps p.tables e below (s₁.setTop (entryFrame m #[(.int p1), (.int p2), (.int p3), (.int p4), (.int p5), (.int p6)] maxLocals)) t := fun t k => k165 t (st166.trans k)
          have Z167 : n0 ≤ T166.heap.size := Nat.le_trans Z162 K166.1
          have TS166 : own_Str Z T166.heap b160 ([(100 : Int32), (99 : Int32), (115 : Int32), x0] : List Int32) := ⟨t166, kb166, EE166, FC166, FV166, VA166, hpp, Nat.le_of_ble_eq_true rfl⟩
          have k168 : ∀ t, Steps p.tables e below (T166.setTop (mkF m 205 #[.val (.int p1), .val (.int p2), .val (.int p3), .val (.int p4), .val (.int p5), .val (.int p6), .val (.int kd), .val (.int (3 : Int32)), .val (.int mu), .val (.int x0), .val (.int x1), .val (.int x2), .val (.int x3), .val (.int x4), .val (.ref b160), .val (.ref b87), .unset, .unset, .unset, .unset] [])) t → Steps p.tables e below (s₁.setTop (entryFrame m #[(.int p1), (.int p2), (.int p3), (.int p4), (.int p5), (.int p6)] maxLocals)) t := by
            intro t k
            refine k166 _ ?_
            show Steps p.tables e below (T166.setTop (mkF m 197 #[.val (.int p1), .val (.int p2), .val (.int p3), .val (.int p4), .val (.int p5), .val (.int p6), .val (.int kd), .val (.int (3 : Int32)), .val (.int mu), .val (.int x0), .val (.int x1), .val (.int x2), .val (.int x3), .val (.int x4), .unset, .val (.ref b87), .unset, .unset, .unset, .unset] [(.ref b160)])) _
            refine XS.astore X166.here hx rfl (hb hby at_197) rfl rfl (l' := #[.val (.int p1), .val (.int p2), .val (.int p3), .val (.int p4), .val (.int p5), .val (.int p6), .val (.int kd), .val (.int (3 : Int32)), .val (.int mu), .val (.int x0), .val (.int x1), .val (.int x2), .val (.int x3), .val (.int x4), .val (.ref b160), .val (.ref b87), .unset, .unset, .unset, .unset]) rfl ?_
            show Steps p.tables e below (T166.setTop (mkF m 199 #[.val (.int p1), .val (.int p2), .val (.int p3), .val (.int p4), .val (.int p5), .val (.int p6), .val (.int kd), .val (.int (3 : Int32)), .val (.int mu), .val (.int x0), .val (.int x1), .val (.int x2), .val (.int x3), .val (.int x4), .val (.ref b160), .val (.ref b87), .unset, .unset, .unset, .unset] [])) _
            refine XS.goto X166.here hx rfl (pc0 := 199) (pc' := 205) rfl (hb hby at_199) (by decide) (by decide) ?_
            show Steps p.tables e below (T166.setTop (mkF m 205 #[.val (.int p1), .val (.int p2), .val (.int p3), .val (.int p4), .val (.int p5), .val (.int p6), .val (.int kd), .val (.int (3 : Int32)), .val (.int mu), .val (.int x0), .val (.int x1), .val (.int x2), .val (.int x3), .val (.int x4), .val (.ref b160), .val (.ref b87), .unset, .unset, .unset, .unset] [])) _
            exact k
          have od169 : Old Z n0 T166.heap := (od164.keep K166 (allS g_b160 all0))
          exact tail T166 _ s.vm 0 b160 [(100 : Int32), (99 : Int32), (115 : Int32), x0] (.val (.ref b87)) (One.val rfl) (Stand.more X166 (by decide) (by decide)) ((State.WarmedH.refl s).since 0) (Nat.zero_le _) hZ hown N166 Z167 od169 TS166 (Nat.le_of_ble_eq_true rfl) k168
    · have k170 : ∀ t, Steps p.tables e below (s₁.setTop (mkF m 114 #[.val (.int p1), .val (.int p2), .val (.int p3), .val (.int p4), .val (.int p5), .val (.int p6), .val (.int kd), .val (.int ps), .val (.int mu), .val (.int x0), .val (.int x1), .val (.int x2), .val (.int x3), .val (.int x4), .unset, .unset, .unset, .unset, .unset, .unset] [(.int (2 : Int32)), (.int kd)])) t → Steps p.tables e below (s₁.setTop (entryFrame m #[(.int p1), (.int p2), (.int p3), (.int p4), (.int p5), (.int p6)] maxLocals)) t := by
        intro t k
        refine k85 _ ?_
        show Steps p.tables e below (s₁.setTop (mkF m 108 #[.val (.int p1), .val (.int p2), .val (.int p3), .val (.int p4), .val (.int p5), .val (.int p6), .val (.int kd), .val (.int ps), .val (.int mu), .val (.int x0), .val (.int x1), .val (.int x2), .val (.int x3), .val (.int x4), .unset, .unset, .unset, .unset, .unset, .unset] [(.int (1 : Int32)), (.int kd)])) _
        refine XS.icmpNo X0.here hx rfl (hb hby at_108) rfl (feq hk1).1 ?_
        show Steps p.tables e below (s₁.setTop (mkF m 111 #[.val (.int p1), .val (.int p2), .val (.int p3), .val (.int p4), .val (.int p5), .val (.int p6), .val (.int kd), .val (.int ps), .val (.int mu), .val (.int x0), .val (.int x1), .val (.int x2), .val (.int x3), .val (.int x4), .unset, .unset, .unset, .unset, .unset, .unset] [])) _
        refine XS.iload X0.here hx rfl (hb hby at_111) rfl ?_
        show Steps p.tables e below (s₁.setTop (mkF m 113 #[.val (.int p1), .val (.int p2), .val (.int p3), .val (.int p4), .val (.int p5), .val (.int p6), .val (.int kd), .val (.int ps), .val (.int mu), .val (.int x0), .val (.int x1), .val (.int x2), .val (.int x3), .val (.int x4), .unset, .unset, .unset, .unset, .unset, .unset] [(.int kd)])) _
        refine XS.iconst X0.here hx rfl (hb hby at_113) ?_
        show Steps p.tables e below (s₁.setTop (mkF m 114 #[.val (.int p1), .val (.int p2), .val (.int p3), .val (.int p4), .val (.int p5), .val (.int p6), .val (.int kd), .val (.int ps), .val (.int mu), .val (.int x0), .val (.int x1), .val (.int x2), .val (.int x3), .val (.int x4), .unset, .unset, .unset, .unset, .unset, .unset] [(.int (2 : Int32)), (.int kd)])) _
        exact k
      by_cases hk2 : kd = (2 : Int32)
      · have k171 : ∀ t, Steps p.tables e below (s₁.setTop (mkF m 152 #[.val (.int p1), .val (.int p2), .val (.int p3), .val (.int p4), .val (.int p5), .val (.int p6), .val (.int kd), .val (.int ps), .val (.int mu), .val (.int x0), .val (.int x1), .val (.int x2), .val (.int x3), .val (.int x4), .unset, .unset, .unset, .unset, .unset, .unset] [(.int (4 : Int32))])) t → Steps p.tables e below (s₁.setTop (entryFrame m #[(.int p1), (.int p2), (.int p3), (.int p4), (.int p5), (.int p6)] maxLocals)) t := by
          intro t k
          refine k170 _ ?_
          show Steps p.tables e below (s₁.setTop (mkF m 114 #[.val (.int p1), .val (.int p2), .val (.int p3), .val (.int p4), .val (.int p5), .val (.int p6), .val (.int kd), .val (.int ps), .val (.int mu), .val (.int x0), .val (.int x1), .val (.int x2), .val (.int x3), .val (.int x4), .unset, .unset, .unset, .unset, .unset, .unset] [(.int (2 : Int32)), (.int kd)])) _
          refine XS.icmpNo X0.here hx rfl (hb hby at_114) rfl (teq hk2).2 ?_
          show Steps p.tables e below (s₁.setTop (mkF m 117 #[.val (.int p1), .val (.int p2), .val (.int p3), .val (.int p4), .val (.int p5), .val (.int p6), .val (.int kd), .val (.int ps), .val (.int mu), .val (.int x0), .val (.int x1), .val (.int x2), .val (.int x3), .val (.int x4), .unset, .unset, .unset, .unset, .unset, .unset] [])) _
          refine XS.iload X0.here hx rfl (hb hby at_117) rfl ?_
          show Steps p.tables e below (s₁.setTop (mkF m 119 #[.val (.int p1), .val (.int p2), .val (.int p3), .val (.int p4), .val (.int p5), .val (.int p6), .val (.int kd), .val (.int ps), .val (.int mu), .val (.int x0), .val (.int x1), .val (.int x2), .val (.int x3), .val (.int x4), .unset, .unset, .unset, .unset, .unset, .unset] [(.int kd)])) _
          refine XS.iconst X0.here hx rfl (hb hby at_119) ?_
          show Steps p.tables e below (s₁.setTop (mkF m 120 #[.val (.int p1), .val (.int p2), .val (.int p3), .val (.int p4), .val (.int p5), .val (.int p6), .val (.int kd), .val (.int ps), .val (.int mu), .val (.int x0), .val (.int x1), .val (.int x2), .val (.int x3), .val (.int x4), .unset, .unset, .unset, .unset, .unset, .unset] [(.int (1 : Int32)), (.int kd)])) _
          refine XS.icmpYes X0.here hx rfl (pc0 := 120) (pc' := 151) rfl (hb hby at_120) rfl (feq hk1).2 (by decide) (by decide) ?_
          show Steps p.tables e below (s₁.setTop (mkF m 151 #[.val (.int p1), .val (.int p2), .val (.int p3), .val (.int p4), .val (.int p5), .val (.int p6), .val (.int kd), .val (.int ps), .val (.int mu), .val (.int x0), .val (.int x1), .val (.int x2), .val (.int x3), .val (.int x4), .unset, .unset, .unset, .unset, .unset, .unset] [])) _
          refine XS.iconst X0.here hx rfl (hb hby at_151) ?_
          show Steps p.tables e below (s₁.setTop (mkF m 152 #[.val (.int p1), .val (.int p2), .val (.int p3), .val (.int p4), .val (.int p5), .val (.int p6), .val (.int kd), .val (.int ps), .val (.int mu), .val (.int x0), .val (.int x1), .val (.int x2), .val (.int x3), .val (.int x4), .unset, .unset, .unset, .unset, .unset, .unset] [(.int (4 : Int32))])) _
          exact k
        obtain ⟨T172, h172, k172_, X172, e172, E172, A172, st172⟩ := newP X0 hx hZ (hw _ (List.mem_of_getElem? (i := 7) rfl)) e0 (g := (mkF m 152 #[.val (.int p1), .val (.int p2), .val (.int p3), .val (.int p4), .val (.int p5), .val (.int p6), .val (.int kd), .val (.int ps), .val (.int mu), .val (.int x0), .val (.int x1), .val (.int x2), .val (.int x3), .val (.int x4), .unset, .unset, .unset, .unset, .unset, .unset] [(.int (4 : Int32))])) rfl (hb hby at_152) rfl (by decide : ¬ ((4 : Int32) < (0 : Int32))) (cap := 4) (by decide : (4 : Int32).toNatClampNeg ≤ 4) (by decide) (by decide) (by decide)
        obtain ⟨b172, g172⟩ : ∃ z, z = h0.size := ⟨_, rfl⟩
        rw [← g172] at A172 st172
        have g_b172 : n0 ≤ b172 := Nat.le_trans Z0 (Nat.le_of_eq g172.symm)
        have sz_b172 : h0.size ≤ b172 := Nat.le_trans (Keep.refl h0 []).1 (Nat.le_of_eq g172.symm)
        have V172 : Arv Z h172 b172 k172_ .char (4 : Int32) [(.int (0 : Int32)), (.int (0 : Int32)), (.int (0 : Int32)), (.int (0 : Int32))] (.int (0 : Int32)) := (Arv.new A172 (by decide : ¬ ((4 : Int32) < (0 : Int32)))).pad (pad_rep [] (.int (0 : Int32)) 4)
        have k172 : ∀ t, Steps p.tables e below (T172.setTop (mkF m 154 #[.val (.int p1), .val (.int p2), .val (.int p3), .val (.int p4), .val (.int p5), .val (.int p6), .val (.int kd), .val (.int ps), .val (.int mu), .val (.int x0), .val (.int x1), .val (.int x2), .val (.int x3), .val (.int x4), .unset, .unset, .unset, .unset, .unset, .unset] [(.ref b172)])) t → Steps p.tables e below (s₁.setTop (entryFrame m #[(.int p1), (.int p2), (.int p3), (.int p4), (.int p5), (.int p6)] maxLocals)) t := fun t k => k171 t (st172 _ k)
        have Z173 : n0 ≤ h172.size := Nat.le_trans Z0 E172.1
        have k174 : ∀ t, Steps p.tables e below (T172.setTop (mkF m 158 #[.val (.int p1), .val (.int p2), .val (.int p3), .val (.int p4), .val (.int p5), .val (.int p6), .val (.int kd), .val (.int ps), .val (.int mu), .val (.int x0), .val (.int x1), .val (.int x2), .val (.int x3), .val (.int x4), .unset, .unset, .unset, .unset, .unset, .unset] [(.int (101 : Int32)), (.int (0 : Int32)), (.ref b172), (.ref b172)])) t → Steps p.tables e below (s₁.setTop (entryFrame m #[(.int p1), (.int p2), (.int p3), (.int p4), (.int p5), (.int p6)] maxLocals)) t := by
          intro t k
          refine k172 _ ?_
          show Steps p.tables e below (T172.setTop (mkF m 154 #[.val (.int p1), .val (.int p2), .val (.int p3), .val (.int p4), .val (.int p5), .val (.int p6), .val (.int kd), .val (.int ps), .val (.int mu), .val (.int x0), .val (.int x1), .val (.int x2), .val (.int x3), .val (.int x4), .unset, .unset, .unset, .unset, .unset, .unset] [(.ref b172)])) _
          refine XS.dup X172.here hx rfl (hb hby at_154) rfl rfl ?_
          show Steps p.tables e below (T172.setTop (mkF m 155 #[.val (.int p1), .val (.int p2), .val (.int p3), .val (.int p4), .val (.int p5), .val (.int p6), .val (.int kd), .val (.int ps), .val (.int mu), .val (.int x0), .val (.int x1), .val (.int x2), .val (.int x3), .val (.int x4), .unset, .unset, .unset, .unset, .unset, .unset] [(.ref b172), (.ref b172)])) _
          refine XS.iconst X172.here hx rfl (hb hby at_155) ?_
          show Steps p.tables e below (T172.setTop (mkF m 156 #[.val (.int p1), .val (.int p2), .val (.int p3), .val (.int p4), .val (.int p5), .val (.int p6), .val (.int kd), .val (.int ps), .val (.int mu), .val (.int x0), .val (.int x1), .val (.int x2), .val (.int x3), .val (.int x4), .unset, .unset, .unset, .unset, .unset, .unset] [(.int (0 : Int32)), (.ref b172), (.ref b172)])) _
          refine XS.bipush X172.here hx rfl (hb hby at_156) ?_
          show Steps p.tables e below (T172.setTop (mkF m 158 #[.val (.int p1), .val (.int p2), .val (.int p3), .val (.int p4), .val (.int p5), .val (.int p6), .val (.int kd), .val (.int ps), .val (.int mu), .val (.int x0), .val (.int x1), .val (.int x2), .val (.int x3), .val (.int x4), .unset, .unset, .unset, .unset, .unset, .unset] [(.int (101 : Int32)), (.int (0 : Int32)), (.ref b172), (.ref b172)])) _
          exact k
        obtain ⟨cl175, Ar175, qk175, Sz175, Nn175, Hs175, Gs175⟩ := id V172
        obtain ⟨T176, h176, X176, e176, W176, st176⟩ := stC X172 hx hZ e172 Ar175 (j := (0 : Int32)) (inb_of Sz175 ⟨(by decide : ¬ ((0 : Int32) < (0 : Int32))), (by decide : (0 : Int32) < (4 : Int32))⟩) (g := (mkF m 158 #[.val (.int p1), .val (.int p2), .val (.int p3), .val (.int p4), .val (.int p5), .val (.int p6), .val (.int kd), .val (.int ps), .val (.int mu), .val (.int x0), .val (.int x1), .val (.int x2), .val (.int x3), .val (.int x4), .unset, .unset, .unset, .unset, .unset, .unset] [(.int (101 : Int32)), (.int (0 : Int32)), (.ref b172), (.ref b172)])) rfl rfl (hb hby at_158)
        have N176 := Fr.snoc X176 N0 g_b172
        have V176 : Arv Z h176 b172 k172_ .char (4 : Int32) [(.int (101 : Int32)), (.int (0 : Int32)), (.int (0 : Int32)), (.int (0 : Int32))] (.int (0 : Int32)) := Arv.set Ar175 qk175 Sz175 Nn175 Hs175 Gs175 (fits_nar_char _) W176 0 rfl (Nat.le_of_ble_eq_true rfl)
        have k176 : ∀ t, Steps p.tables e below (T176.setTop (mkF m 159 #[.val (.int p1), .val (.int p2), .val (.int p3), .val (.int p4), .val (.int p5), .val (.int p6), .val (.int kd), .val (.int ps), .val (.int mu), .val (.int x0), .val (.int x1), .val (.int x2), .val (.int x3), .val (.int x4), .unset, .unset, .unset, .unset, .unset, .unset] [(.ref b172)])) t → Steps p.tables e below (s₁.setTop (entryFrame m #[(.int p1), (.int p2), (.int p3), (.int p4), (.int p5), (.int p6)] maxLocals)) t := fun t k => k174 t (st176 _ k)
        have Z177 : n0 ≤ h176.size := Nat.le_trans Z173 (Keep.of_wr W176).1
        have k178 : ∀ t, Steps p.tables e below (T176.setTop (mkF m 163 #[.val (.int p1), .val (.int p2), .val (.int p3), .val (.int p4), .val (.int p5), .val (.int p6), .val (.int kd), .val (.int ps), .val (.int mu), .val (.int x0), .val (.int x1), .val (.int x2), .val (.int x3), .val (.int x4), .unset, .unset, .unset, .unset, .unset, .unset] [(.int (100 : Int32)), (.int (1 : Int32)), (.ref b172), (.ref b172)])) t → Steps p.tables e below (s₁.setTop (entryFrame m #[(.int p1), (.int p2), (.int p3), (.int p4), (.int p5), (.int p6)] maxLocals)) t := by
          intro t k
          refine k176 _ ?_
          show Steps p.tables e below (T176.setTop (mkF m 159 #[.val (.int p1), .val (.int p2), .val (.int p3), .val (.int p4), .val (.int p5), .val (.int p6), .val (.int kd), .val (.int ps), .val (.int mu), .val (.int x0), .val (.int x1), .val (.int x2), .val (.int x3), .val (.int x4), .unset, .unset, .unset, .unset, .unset, .unset] [(.ref b172)])) _
          refine XS.dup X176.here hx rfl (hb hby at_159) rfl rfl ?_
          show Steps p.tables e below (T176.setTop (mkF m 160 #[.val (.int p1), .val (.int p2), .val (.int p3), .val (.int p4), .val (.int p5), .val (.int p6), .val (.int kd), .val (.int ps), .val (.int mu), .val (.int x0), .val (.int x1), .val (.int x2), .val (.int x3), .val (.int x4), .unset, .unset, .unset, .unset, .unset, .unset] [(.ref b172), (.ref b172)])) _
          refine XS.iconst X176.here hx rfl (hb hby at_160) ?_
          show Steps p.tables e below (T176.setTop (mkF m 161 #[.val (.int p1), .val (.int p2), .val (.int p3), .val (.int p4), .val (.int p5), .val (.int p6), .val (.int kd), .val (.int ps), .val (.int mu), .val (.int x0), .val (.int x1), .val (.int x2), .val (.int x3), .val (.int x4), .unset, .unset, .unset, .unset, .unset, .unset] [(.int (1 : Int32)), (.ref b172), (.ref b172)])) _
          refine XS.bipush X176.here hx rfl (hb hby at_161) ?_
          show Steps p.tables e below (T176.setTop (mkF m 163 #[.val (.int p1), .val (.int p2), .val (.int p3), .val (.int p4), .val (.int p5), .val (.int p6), .val (.int kd), .val (.int ps), .val (.int mu), .val (.int x0), .val (.int x1), .val (.int x2), .val (.int x3), .val (.int x4), .unset, .unset, .unset, .unset, .unset, .unset] [(.int (100 : Int32)), (.int (1 : Int32)), (.ref b172), (.ref b172)])) _
          exact k
        obtain ⟨cl179, Ar179, qk179, Sz179, Nn179, Hs179, Gs179⟩ := id V176
        obtain ⟨T180, h180, X180, e180, W180, st180⟩ := stC X176 hx hZ e176 Ar179 (j := (1 : Int32)) (inb_of Sz179 ⟨(by decide : ¬ ((1 : Int32) < (0 : Int32))), (by decide : (1 : Int32) < (4 : Int32))⟩) (g := (mkF m 163 #[.val (.int p1), .val (.int p2), .val (.int p3), .val (.int p4), .val (.int p5), .val (.int p6), .val (.int kd), .val (.int ps), .val (.int mu), .val (.int x0), .val (.int x1), .val (.int x2), .val (.int x3), .val (.int x4), .unset, .unset, .unset, .unset, .unset, .unset] [(.int (100 : Int32)), (.int (1 : Int32)), (.ref b172), (.ref b172)])) rfl rfl (hb hby at_163)
        have N180 := Fr.snoc X180 N176 g_b172
        have V180 : Arv Z h180 b172 k172_ .char (4 : Int32) [(.int (101 : Int32)), (.int (100 : Int32)), (.int (0 : Int32)), (.int (0 : Int32))] (.int (0 : Int32)) := Arv.set Ar179 qk179 Sz179 Nn179 Hs179 Gs179 (fits_nar_char _) W180 1 rfl (Nat.le_of_ble_eq_true rfl)
        have k180 : ∀ t, Steps p.tables e below (T180.setTop (mkF m 164 #[.val (.int p1), .val (.int p2), .val (.int p3), .val (.int p4), .val (.int p5), .val (.int p6), .val (.int kd), .val (.int ps), .val (.int mu), .val (.int x0), .val (.int x1), .val (.int x2), .val (.int x3), .val (.int x4), .unset, .unset, .unset, .unset, .unset, .unset] [(.ref b172)])) t → Steps p.tables e below (s₁.setTop (entryFrame m #[(.int p1), (.int p2), (.int p3), (.int p4), (.int p5), (.int p6)] maxLocals)) t := fun t k => k178 t (st180 _ k)
        have Z181 : n0 ≤ h180.size := Nat.le_trans Z177 (Keep.of_wr W180).1
        have k182 : ∀ t, Steps p.tables e below (T180.setTop (mkF m 168 #[.val (.int p1), .val (.int p2), .val (.int p3), .val (.int p4), .val (.int p5), .val (.int p6), .val (.int kd), .val (.int ps), .val (.int mu), .val (.int x0), .val (.int x1), .val (.int x2), .val (.int x3), .val (.int x4), .unset, .unset, .unset, .unset, .unset, .unset] [(.int (103 : Int32)), (.int (2 : Int32)), (.ref b172), (.ref b172)])) t → Steps p.tables e below (s₁.setTop (entryFrame m #[(.int p1), (.int p2), (.int p3), (.int p4), (.int p5), (.int p6)] maxLocals)) t := by
          intro t k
          refine k180 _ ?_
          show Steps p.tables e below (T180.setTop (mkF m 164 #[.val (.int p1), .val (.int p2), .val (.int p3), .val (.int p4), .val (.int p5), .val (.int p6), .val (.int kd), .val (.int ps), .val (.int mu), .val (.int x0), .val (.int x1), .val (.int x2), .val (.int x3), .val (.int x4), .unset, .unset, .unset, .unset, .unset, .unset] [(.ref b172)])) _
          refine XS.dup X180.here hx rfl (hb hby at_164) rfl rfl ?_
          show Steps p.tables e below (T180.setTop (mkF m 165 #[.val (.int p1), .val (.int p2), .val (.int p3), .val (.int p4), .val (.int p5), .val (.int p6), .val (.int kd), .val (.int ps), .val (.int mu), .val (.int x0), .val (.int x1), .val (.int x2), .val (.int x3), .val (.int x4), .unset, .unset, .unset, .unset, .unset, .unset] [(.ref b172), (.ref b172)])) _
          refine XS.iconst X180.here hx rfl (hb hby at_165) ?_
          show Steps p.tables e below (T180.setTop (mkF m 166 #[.val (.int p1), .val (.int p2), .val (.int p3), .val (.int p4), .val (.int p5), .val (.int p6), .val (.int kd), .val (.int ps), .val (.int mu), .val (.int x0), .val (.int x1), .val (.int x2), .val (.int x3), .val (.int x4), .unset, .unset, .unset, .unset, .unset, .unset] [(.int (2 : Int32)), (.ref b172), (.ref b172)])) _
          refine XS.bipush X180.here hx rfl (hb hby at_166) ?_
          show Steps p.tables e below (T180.setTop (mkF m 168 #[.val (.int p1), .val (.int p2), .val (.int p3), .val (.int p4), .val (.int p5), .val (.int p6), .val (.int kd), .val (.int ps), .val (.int mu), .val (.int x0), .val (.int x1), .val (.int x2), .val (.int x3), .val (.int x4), .unset, .unset, .unset, .unset, .unset, .unset] [(.int (103 : Int32)), (.int (2 : Int32)), (.ref b172), (.ref b172)])) _
          exact k
        obtain ⟨cl183, Ar183, qk183, Sz183, Nn183, Hs183, Gs183⟩ := id V180
        obtain ⟨T184, h184, X184, e184, W184, st184⟩ := stC X180 hx hZ e180 Ar183 (j := (2 : Int32)) (inb_of Sz183 ⟨(by decide : ¬ ((2 : Int32) < (0 : Int32))), (by decide : (2 : Int32) < (4 : Int32))⟩) (g := (mkF m 168 #[.val (.int p1), .val (.int p2), .val (.int p3), .val (.int p4), .val (.int p5), .val (.int p6), .val (.int kd), .val (.int ps), .val (.int mu), .val (.int x0), .val (.int x1), .val (.int x2), .val (.int x3), .val (.int x4), .unset, .unset, .unset, .unset, .unset, .unset] [(.int (103 : Int32)), (.int (2 : Int32)), (.ref b172), (.ref b172)])) rfl rfl (hb hby at_168)
        have N184 := Fr.snoc X184 N180 g_b172
        have V184 : Arv Z h184 b172 k172_ .char (4 : Int32) [(.int (101 : Int32)), (.int (100 : Int32)), (.int (103 : Int32)), (.int (0 : Int32))] (.int (0 : Int32)) := Arv.set Ar183 qk183 Sz183 Nn183 Hs183 Gs183 (fits_nar_char _) W184 2 rfl (Nat.le_of_ble_eq_true rfl)
        have k184 : ∀ t, Steps p.tables e below (T184.setTop (mkF m 169 #[.val (.int p1), .val (.int p2), .val (.int p3), .val (.int p4), .val (.int p5), .val (.int p6), .val (.int kd), .val (.int ps), .val (.int mu), .val (.int x0), .val (.int x1), .val (.int x2), .val (.int x3), .val (.int x4), .unset, .unset, .unset, .unset, .unset, .unset] [(.ref b172)])) t → Steps p.tables e below (s₁.setTop (entryFrame m #[(.int p1), (.int p2), (.int p3), (.int p4), (.int p5), (.int p6)] maxLocals)) t := fun t k => k182 t (st184 _ k)
        have Z185 : n0 ≤ h184.size := Nat.le_trans Z181 (Keep.of_wr W184).1
        have k186 : ∀ t, Steps p.tables e below (T184.setTop (mkF m 173 #[.val (.int p1), .val (.int p2), .val (.int p3), .val (.int p4), .val (.int p5), .val (.int p6), .val (.int kd), .val (.int ps), .val (.int mu), .val (.int x0), .val (.int x1), .val (.int x2), .val (.int x3), .val (.int x4), .unset, .unset, .unset, .unset, .unset, .unset] [(.int (101 : Int32)), (.int (3 : Int32)), (.ref b172), (.ref b172)])) t → Steps p.tables e below (s₁.setTop (entryFrame m #[(.int p1), (.int p2), (.int p3), (.int p4), (.int p5), (.int p6)] maxLocals)) t := by
          intro t k
          refine k184 _ ?_
          show Steps p.tables e below (T184.setTop (mkF m 169 #[.val (.int p1), .val (.int p2), .val (.int p3), .val (.int p4), .val (.int p5), .val (.int p6), .val (.int kd), .val (.int ps), .val (.int mu), .val (.int x0), .val (.int x1), .val (.int x2), .val (.int x3), .val (.int x4), .unset, .unset, .unset, .unset, .unset, .unset] [(.ref b172)])) _
          refine XS.dup X184.here hx rfl (hb hby at_169) rfl rfl ?_
          show Steps p.tables e below (T184.setTop (mkF m 170 #[.val (.int p1), .val (.int p2), .val (.int p3), .val (.int p4), .val (.int p5), .val (.int p6), .val (.int kd), .val (.int ps), .val (.int mu), .val (.int x0), .val (.int x1), .val (.int x2), .val (.int x3), .val (.int x4), .unset, .unset, .unset, .unset, .unset, .unset] [(.ref b172), (.ref b172)])) _
          refine XS.iconst X184.here hx rfl (hb hby at_170) ?_
          show Steps p.tables e below (T184.setTop (mkF m 171 #[.val (.int p1), .val (.int p2), .val (.int p3), .val (.int p4), .val (.int p5), .val (.int p6), .val (.int kd), .val (.int ps), .val (.int mu), .val (.int x0), .val (.int x1), .val (.int x2), .val (.int x3), .val (.int x4), .unset, .unset, .unset, .unset, .unset, .unset] [(.int (3 : Int32)), (.ref b172), (.ref b172)])) _
          refine XS.bipush X184.here hx rfl (hb hby at_171) ?_
          show Steps p.tables e below (T184.setTop (mkF m 173 #[.val (.int p1), .val (.int p2), .val (.int p3), .val (.int p4), .val (.int p5), .val (.int p6), .val (.int kd), .val (.int ps), .val (.int mu), .val (.int x0), .val (.int x1), .val (.int x2), .val (.int x3), .val (.int x4), .unset, .unset, .unset, .unset, .unset, .unset] [(.int (101 : Int32)), (.int (3 : Int32)), (.ref b172), (.ref b172)])) _
          exact k
        obtain ⟨cl187, Ar187, qk187, Sz187, Nn187, Hs187, Gs187⟩ := id V184
        obtain ⟨T188, h188, X188, e188, W188, st188⟩ := stC X184 hx hZ e184 Ar187 (j := (3 : Int32)) (inb_of Sz187 ⟨(by decide : ¬ ((3 : Int32) < (0 : Int32))), (by decide : (3 : Int32) < (4 : Int32))⟩) (g := (mkF m 173 #[.val (.int p1), .val (.int p2), .val (.int p3), .val (.int p4), .val (.int p5), .val (.int p6), .val (.int kd), .val (.int ps), .val (.int mu), .val (.int x0), .val (.int x1), .val (.int x2), .val (.int x3), .val (.int x4), .unset, .unset, .unset, .unset, .unset, .unset] [(.int (101 : Int32)), (.int (3 : Int32)), (.ref b172), (.ref b172)])) rfl rfl (hb hby at_173)
        have N188 := Fr.snoc X188 N184 g_b172
        have V188 : Arv Z h188 b172 k172_ .char (4 : Int32) [(.int (101 : Int32)), (.int (100 : Int32)), (.int (103 : Int32)), (.int (101 : Int32))] (.int (0 : Int32)) := Arv.set Ar187 qk187 Sz187 Nn187 Hs187 Gs187 (fits_nar_char _) W188 3 rfl (Nat.le_of_ble_eq_true rfl)
        have k188 : ∀ t, Steps p.tables e below (T188.setTop (mkF m 174 #[.val (.int p1), .val (.int p2), .val (.int p3), .val (.int p4), .val (.int p5), .val (.int p6), .val (.int kd), .val (.int ps), .val (.int mu), .val (.int x0), .val (.int x1), .val (.int x2), .val (.int x3), .val (.int x4), .unset, .unset, .unset, .unset, .unset, .unset] [(.ref b172)])) t → Steps p.tables e below (s₁.setTop (entryFrame m #[(.int p1), (.int p2), (.int p3), (.int p4), (.int p5), (.int p6)] maxLocals)) t := fun t k => k186 t (st188 _ k)
        have Z189 : n0 ≤ h188.size := Nat.le_trans Z185 (Keep.of_wr W188).1
        have k190 : ∀ t, Steps p.tables e below (T188.setTop (mkF m 178 #[.val (.int p1), .val (.int p2), .val (.int p3), .val (.int p4), .val (.int p5), .val (.int p6), .val (.int kd), .val (.int ps), .val (.int mu), .val (.int x0), .val (.int x1), .val (.int x2), .val (.int x3), .val (.int x4), .unset, .val (.ref b172), .unset, .unset, .unset, .unset] [(.int mu)])) t → Steps p.tables e below (s₁.setTop (entryFrame m #[(.int p1), (.int p2), (.int p3), (.int p4), (.int p5), (.int p6)] maxLocals)) t := by
          intro t k
          refine k188 _ ?_
          show Steps p.tables e below (T188.setTop (mkF m 174 #[.val (.int p1), .val (.int p2), .val (.int p3), .val (.int p4), .val (.int p5), .val (.int p6), .val (.int kd), .val (.int ps), .val (.int mu), .val (.int x0), .val (.int x1), .val (.int x2), .val (.int x3), .val (.int x4), .unset, .unset, .unset, .unset, .unset, .unset] [(.ref b172)])) _
          refine XS.astore X188.here hx rfl (hb hby at_174) rfl rfl (l' := #[.val (.int p1), .val (.int p2), .val (.int p3), .val (.int p4), .val (.int p5), .val (.int p6), .val (.int kd), .val (.int ps), .val (.int mu), .val (.int x0), .val (.int x1), .val (.int x2), .val (.int x3), .val (.int x4), .unset, .val (.ref b172), .unset, .unset, .unset, .unset]) rfl ?_
          show Steps p.tables e below (T188.setTop (mkF m 176 #[.val (.int p1), .val (.int p2), .val (.int p3), .val (.int p4), .val (.int p5), .val (.int p6), .val (.int kd), .val (.int ps), .val (.int mu), .val (.int x0), .val (.int x1), .val (.int x2), .val (.int x3), .val (.int x4), .unset, .val (.ref b172), .unset, .unset, .unset, .unset] [])) _
          refine XS.iload X188.here hx rfl (hb hby at_176) rfl ?_
          show Steps p.tables e below (T188.setTop (mkF m 178 #[.val (.int p1), .val (.int p2), .val (.int p3), .val (.int p4), .val (.int p5), .val (.int p6), .val (.int kd), .val (.int ps), .val (.int mu), .val (.int x0), .val (.int x1), .val (.int x2), .val (.int x3), .val (.int x4), .unset, .val (.ref b172), .unset, .unset, .unset, .unset] [(.int mu)])) _
          exact k
        by_cases hmu : mu = (0 : Int32)
        · have k191 : ∀ t, Steps p.tables e below (T188.setTop (mkF m 188 #[.val (.int p1), .val (.int p2), .val (.int p3), .val (.int p4), .val (.int p5), .val (.int p6), .val (.int kd), .val (.int ps), .val (.int mu), .val (.int x0), .val (.int x1), .val (.int x2), .val (.int x3), .val (.int x4), .unset, .val (.ref b172), .unset, .unset, .unset, .unset] [])) t → Steps p.tables e below (s₁.setTop (entryFrame m #[(.int p1), (.int p2), (.int p3), (.int p4), (.int p5), (.int p6)] maxLocals)) t := by
            intro t k
            refine k190 _ ?_
            show Steps p.tables e below (T188.setTop (mkF m 178 #[.val (.int p1), .val (.int p2), .val (.int p3), .val (.int p4), .val (.int p5), .val (.int p6), .val (.int kd), .val (.int ps), .val (.int mu), .val (.int x0), .val (.int x1), .val (.int x2), .val (.int x3), .val (.int x4), .unset, .val (.ref b172), .unset, .unset, .unset, .unset] [(.int mu)])) _
            refine XS.ifYes X188.here hx rfl (pc0 := 178) (pc' := 188) rfl (hb hby at_178) rfl ((if0 _ _).trans (teq hmu).1) (by decide) (by decide) ?_
            show Steps p.tables e below (T188.setTop (mkF m 188 #[.val (.int p1), .val (.int p2), .val (.int p3), .val (.int p4), .val (.int p5), .val (.int p6), .val (.int kd), .val (.int ps), .val (.int mu), .val (.int x0), .val (.int x1), .val (.int x2), .val (.int x3), .val (.int x4), .unset, .val (.ref b172), .unset, .unset, .unset, .unset] [])) _
            exact k
          have kp193 : Keep h0 h188 [] := ((((((Keep.refl h0 []).ext E172).wr W176 (Or.inr sz_b172)).wr W180 (Or.inr sz_b172)).wr W184 (Or.inr sz_b172)).wr W188 (Or.inr sz_b172))
          obtain ⟨T192, h192, X192, e192, E192, A192, D192, -, st192⟩ := newO X188 hx hZ hown (hw _ (List.mem_of_getElem? (i := 4) rfl)) (hw _ (List.mem_of_getElem? (i := 5) rfl)) (hw _ (List.mem_of_getElem? (i := 6) rfl)) e188 (g := (mkF m 188 #[.val (.int p1), .val (.int p2), .val (.int p3), .val (.int p4), .val (.int p5), .val (.int p6), .val (.int kd), .val (.int ps), .val (.int mu), .val (.int x0), .val (.int x1), .val (.int x2), .val (.int x3), .val (.int x4), .unset, .val (.ref b172), .unset, .unset, .unset, .unset] [])) rfl (hb hby at_188) (by decide) (by decide)
          obtain ⟨b192, g192⟩ : ∃ z, z = h188.size := ⟨_, rfl⟩
          rw [← g192] at A192 D192 st192
          have ne_b172_b192 : b172 ≠ b192 := Nat.ne_of_lt (Nat.lt_of_lt_of_eq V188.lt g192.symm)
          have g_b192 : n0 ≤ b192 := Nat.le_trans Z189 (Nat.le_of_eq g192.symm)
          have sz_b192 : h0.size ≤ b192 := Nat.le_trans kp193.1 (Nat.le_of_eq g192.symm)
          have F192_value : Fld Z h192 b192 "java/lang/String" "value" "[B" .null := D192 (Or.inr (hw _ (List.mem_of_getElem? (i := 20) rfl))) (ty := (.array .byte)) (by decide)
          have F192_coder : Fld Z h192 b192 "java/lang/String" "coder" "B" (.int (0 : Int32)) := D192 (Or.inr (hw _ (List.mem_of_getElem? (i := 21) rfl))) (ty := .byte) (by decide)
          have k192 : ∀ t, Steps p.tables e below (T192.setTop (mkF m 191 #[.val (.int p1), .val (.int p2), .val (.int p3), .val (.int p4), .val (.int p5), .val (.int p6), .val (.int kd), .val (.int ps), .val (.int mu), .val (.int x0), .val (.int x1), .val (.int x2), .val (.int x3), .val (.int x4), .unset, .val (.ref b172), .unset, .unset, .unset, .unset] [(.ref b192)])) t → Steps p.tables e below (s₁.setTop (entryFrame m #[(.int p1), (.int p2), (.int p3), (.int p4), (.int p5), (.int p6)] maxLocals)) t := fun t k => k191 t (st192 _ k)
          have Z194 : n0 ≤ h192.size := Nat.le_trans Z189 E192.1
          have hpp : ∀ c ∈ ([(101 : Int32), (100 : Int32), (103 : Int32), (101 : Int32)] : List Int32), ¬ c < (0 : Int32) ∧ ¬ (255 : Int32) < c := by
            intro c hc
            simp only [List.mem_cons, List.not_mem_nil, or_false] at hc
            rcases hc with rfl | rfl | rfl | rfl
            · exact (by decide)
            · exact (by decide)
            · exact (by decide)
            · exact (by decide)
          have f195 := (V188.ext E192)
          have od196 : Old Z n0 h192 := ((((((XO.ext E172).wr W176 g_b172).wr W180 g_b172).wr W184 g_b172).wr W188 g_b172).ext E192)
          have k197 : ∀ t, Steps p.tables e below (T192.setTop (mkF m 194 #[.val (.int p1), .val (.int p2), .val (.int p3), .val (.int p4), .val (.int p5), .val (.int p6), .val (.int kd), .val (.int ps), .val (.int mu), .val (.int x0), .val (.int x1), .val (.int x2), .val (.int x3), .val (.int x4), .unset, .val (.ref b172), .unset, .unset, .unset, .unset] [(.ref b172), (.ref b192), (.ref b192)])) t → Steps p.tables e below (s₁.setTop (entryFrame m #[(.int p1), (.int p2), (.int p3), (.int p4), (.int p5), (.int p6)] maxLocals)) t := by
            intro t k
            refine k192 _ ?_
            show Steps p.tables e below (T192.setTop (mkF m 191 #[.val (.int p1), .val (.int p2), .val (.int p3), .val (.int p4), .val (.int p5), .val (.int p6), .val (.int kd), .val (.int ps), .val (.int mu), .val (.int x0), .val (.int x1), .val (.int x2), .val (.int x3), .val (.int x4), .unset, .val (.ref b172), .unset, .unset, .unset, .unset] [(.ref b192)])) _
            refine XS.dup X192.here hx rfl (hb hby at_191) rfl rfl ?_
            show Steps p.tables e below (T192.setTop (mkF m 192 #[.val (.int p1), .val (.int p2), .val (.int p3), .val (.int p4), .val (.int p5), .val (.int p6), .val (.int kd), .val (.int ps), .val (.int mu), .val (.int x0), .val (.int x1), .val (.int x2), .val (.int x3), .val (.int x4), .unset, .val (.ref b172), .unset, .unset, .unset, .unset] [(.ref b192), (.ref b192)])) _
            refine XS.aload X192.here hx rfl (hb hby at_192) rfl rfl ?_
            show Steps p.tables e below (T192.setTop (mkF m 194 #[.val (.int p1), .val (.int p2), .val (.int p3), .val (.int p4), .val (.int p5), .val (.int p6), .val (.int kd), .val (.int ps), .val (.int mu), .val (.int x0), .val (.int x1), .val (.int x2), .val (.int x3), .val (.int x4), .unset, .val (.ref b172), .unset, .unset, .unset, .unset] [(.ref b172), (.ref b192), (.ref b192)])) _
            exact k
          obtain ⟨_, _, ⟨T198, L198, ck198, nk198⟩, -, X198, ⟨Lc198, hQ198, l198, y198, z198⟩, st198⟩ := X192.specialBack hx (y := (⟨"java/lang/String", "<init>", "([C)V"⟩ : MethodName)) rfl hown (mvT hZ (hw _ (List.mem_of_getElem? (i := 8) rfl))) (mvT hZ (hw _ (List.mem_of_getElem? (i := 9) rfl))) (mvT hZ (hw _ (List.mem_of_getElem? (i := 10) rfl))) (by decide) (StrChars.Road.backV (W := 1) hZ (fun d hd => hw d (own_wNew d hd)) (kI := 4) (hw _ (List.mem_of_getElem? (i := 5) rfl)) (cs := ([(101 : Int32), (100 : Int32), (103 : Int32), (101 : Int32)] : List Int32)) (bs := ([(101 : Int32), (100 : Int32), (103 : Int32), (101 : Int32)] : List Int32).map (fun c => c.toInt8.toInt32)) (n := 4) g_b192 Z194 A192 F192_value F192_coder f195 (S1.ext od196.2) hcs rfl rfl (by decide) (by decide) hpp rfl (by decide) (by decide)) (g := (mkF m 194 #[.val (.int p1), .val (.int p2), .val (.int p3), .val (.int p4), .val (.int p5), .val (.int p6), .val (.int kd), .val (.int ps), .val (.int mu), .val (.int x0), .val (.int x1), .val (.int x2), .val (.int x3), .val (.int x4), .unset, .val (.ref b172), .unset, .unset, .unset, .unset] [(.ref b172), (.ref b192), (.ref b192)])) rfl (by rw [hml]; rfl) (Steps.refl _) (a := b192) (argsL := [(.ref b172)]) (rest := [(.ref b192)]) (lenOf pd_2 rfl) rfl (by show 2 * 0 + _ ≤ _; exact Nat.le_of_eq rfl) (hb hby at_194) (fun _ _ => ⟨rfl, e192, (by decide : 2 + 1 ≤ _), (by decide : 8 + 4 ≤ _)⟩)
          dsimp only [Pt.U, Pt.locs, Pt.cells, Pt.slots] at X198 l198 y198 z198 st198 hQ198
          subst l198 y198 z198
          obtain ⟨rfl, N198q, K198, EE198, FC198, t198, kb198, ht1198, ht2198, ht3198, FV198, VA198⟩ := hQ198
          have N198 := Fr.app N188 N198q
          have k198 : ∀ t, Steps p.tables e below (T198.setTop (mkF m 197 #[.val (.int p1), .val (.int p2), .val (.int p3), .val (.int p4), .val (.int p5), .val (.int p6), .val (.int kd), .val (.int ps), .val (.int mu), .val (.int x0), .val (.int x1), .val (.int x2), .val (.int x3), .val (.int x4), .unset, .val (.ref b172), .unset, .unset, .unset, .unset] [(.ref b192)])) t → Steps p.tables e below (s₁.setTop (entryFrame m #[(.int p1), (.int p2), (.int p3), (.int p4), (.int p5), (.int p6)] maxLocals)) t := fun t k => k197 t (st198.trans k)
          have Z199 : n0 ≤ T198.heap.size := Nat.le_trans Z194 K198.1
          have TS198 : own_Str Z T198.heap b192 ([(101 : Int32), (100 : Int32), (103 : Int32), (101 : Int32)] : List Int32) := ⟨t198, kb198, EE198, FC198, FV198, VA198, hpp, Nat.le_of_ble_eq_true rfl⟩
          have k200 : ∀ t, Steps p.tables e below (T198.setTop (mkF m 205 #[.val (.int p1), .val (.int p2), .val (.int p3), .val (.int p4), .val (.int p5), .val (.int p6), .val (.int kd), .val (.int ps), .val (.int mu), .val (.int x0), .val (.int x1), .val (.int x2), .val (.int x3), .val (.int x4), .val (.ref b192), .val (.ref b172), .unset, .unset, .unset, .unset] [])) t → Steps p.tables e below (s₁.setTop (entryFrame m #[(.int p1), (.int p2), (.int p3), (.int p4), (.int p5), (.int p6)] maxLocals)) t := by
            intro t k
            refine k198 _ ?_
            show Steps p.tables e below (T198.setTop (mkF m 197 #[.val (.int p1), .val (.int p2), .val (.int p3), .val (.int p4), .val (.int p5), .val (.int p6), .val (.int kd), .val (.int ps), .val (.int mu), .val (.int x0), .val (.int x1), .val (.int x2), .val (.int x3), .val (.int x4), .unset, .val (.ref b172), .unset, .unset, .unset, .unset] [(.ref b192)])) _
            refine XS.astore X198.here hx rfl (hb hby at_197) rfl rfl (l' := #[.val (.int p1), .val (.int p2), .val (.int p3), .val (.int p4), .val (.int p5), .val (.int p6), .val (.int kd), .val (.int ps), .val (.int mu), .val (.int x0), .val (.int x1), .val (.int x2), .val (.int x3), .val (.int x4), .val (.ref b192), .val (.ref b172), .unset, .unset, .unset, .unset]) rfl ?_
            show Steps p.tables e below (T198.setTop (mkF m 199 #[.val (.int p1), .val (.int p2), .val (.int p3), .val (.int p4), .val (.int p5), .val (.int p6), .val (.int kd), .val (.int ps), .val (.int mu), .val (.int x0), .val (.int x1), .val (.int x2), .val (.int x3), .val (.int x4), .val (.ref b192), .val (.ref b172), .unset, .unset, .unset, .unset] [])) _
            refine XS.goto X198.here hx rfl (pc0 := 199) (pc' := 205) rfl (hb hby at_199) (by decide) (by decide) ?_
            show Steps p.tables e below (T198.setTop (mkF m 205 #[.val (.int p1), .val (.int p2), .val (.int p3), .val (.int p4), .val (.int p5), .val (.int p6), .val (.int kd), .val (.int ps), .val (.int mu), .val (.int x0), .val (.int x1), .val (.int x2), .val (.int x3), .val (.int x4), .val (.ref b192), .val (.ref b172), .unset, .unset, .unset, .unset] [])) _
            exact k
          have od201 : Old Z n0 T198.heap := (od196.keep K198 (allS g_b192 all0))
          exact tail T198 _ s.vm 0 b192 [(101 : Int32), (100 : Int32), (103 : Int32), (101 : Int32)] (.val (.ref b172)) (One.val rfl) (Stand.more X198 (by decide) (by decide)) ((State.WarmedH.refl s).since 0) (Nat.zero_le _) hZ hown N198 Z199 od201 TS198 (Nat.le_of_ble_eq_true rfl) k200
        · have k202 : ∀ t, Steps p.tables e below (T188.setTop (mkF m 187 #[.val (.int p1), .val (.int p2), .val (.int p3), .val (.int p4), .val (.int p5), .val (.int p6), .val (.int kd), .val (.int ps), .val (.int mu), .val (.int x0), .val (.int x1), .val (.int x2), .val (.int x3), .val (.int x4), .unset, .val (.ref b172), .unset, .unset, .unset, .unset] [(.int x0), (.int ps), (.ref b172)])) t → Steps p.tables e below (s₁.setTop (entryFrame m #[(.int p1), (.int p2), (.int p3), (.int p4), (.int p5), (.int p6)] maxLocals)) t := by
            intro t k
            refine k190 _ ?_
            show Steps p.tables e below (T188.setTop (mkF m 178 #[.val (.int p1), .val (.int p2), .val (.int p3), .val (.int p4), .val (.int p5), .val (.int p6), .val (.int kd), .val (.int ps), .val (.int mu), .val (.int x0), .val (.int x1), .val (.int x2), .val (.int x3), .val (.int x4), .unset, .val (.ref b172), .unset, .unset, .unset, .unset] [(.int mu)])) _
            refine XS.ifNo X188.here hx rfl (hb hby at_178) rfl ((if0 _ _).trans (feq hmu).1) ?_
            show Steps p.tables e below (T188.setTop (mkF m 181 #[.val (.int p1), .val (.int p2), .val (.int p3), .val (.int p4), .val (.int p5), .val (.int p6), .val (.int kd), .val (.int ps), .val (.int mu), .val (.int x0), .val (.int x1), .val (.int x2), .val (.int x3), .val (.int x4), .unset, .val (.ref b172), .unset, .unset, .unset, .unset] [])) _
            refine XS.aload X188.here hx rfl (hb hby at_181) rfl rfl ?_
            show Steps p.tables e below (T188.setTop (mkF m 183 #[.val (.int p1), .val (.int p2), .val (.int p3), .val (.int p4), .val (.int p5), .val (.int p6), .val (.int kd), .val (.int ps), .val (.int mu), .val (.int x0), .val (.int x1), .val (.int x2), .val (.int x3), .val (.int x4), .unset, .val (.ref b172), .unset, .unset, .unset, .unset] [(.ref b172)])) _
            refine XS.iload X188.here hx rfl (hb hby at_183) rfl ?_
            show Steps p.tables e below (T188.setTop (mkF m 185 #[.val (.int p1), .val (.int p2), .val (.int p3), .val (.int p4), .val (.int p5), .val (.int p6), .val (.int kd), .val (.int ps), .val (.int mu), .val (.int x0), .val (.int x1), .val (.int x2), .val (.int x3), .val (.int x4), .unset, .val (.ref b172), .unset, .unset, .unset, .unset] [(.int ps), (.ref b172)])) _
            refine XS.iload X188.here hx rfl (hb hby at_185) rfl ?_
            show Steps p.tables e below (T188.setTop (mkF m 187 #[.val (.int p1), .val (.int p2), .val (.int p3), .val (.int p4), .val (.int p5), .val (.int p6), .val (.int kd), .val (.int ps), .val (.int mu), .val (.int x0), .val (.int x1), .val (.int x2), .val (.int x3), .val (.int x4), .unset, .val (.ref b172), .unset, .unset, .unset, .unset] [(.int x0), (.int ps), (.ref b172)])) _
            exact k
          have h4 : ps = 0 ∨ ps = 1 ∨ ps = 2 ∨ ps = 3 := by rw [eq_ps]; exact own_and3 _
          clear eq_ps
          rcases h4 with rfl | rfl | rfl | rfl
          · skip
            obtain ⟨cl203, Ar203, qk203, Sz203, Nn203, Hs203, Gs203⟩ := id V188
            obtain ⟨T204, h204, X204, e204, W204, st204⟩ := stC X188 hx hZ e188 Ar203 (j := (0 : Int32)) (inb_of Sz203 ⟨(by decide : ¬ ((0 : Int32) < (0 : Int32))), (by decide : (0 : Int32) < (4 : Int32))⟩) (g := (mkF m 187 #[.val (.int p1), .val (.int p2), .val (.int p3), .val (.int p4), .val (.int p5), .val (.int p6), .val (.int kd), .val (.int (0 : Int32)), .val (.int mu), .val (.int x0), .val (.int x1), .val (.int x2), .val (.int x3), .val (.int x4), .unset, .val (.ref b172), .unset, .unset, .unset, .unset] [(.int x0), (.int (0 : Int32)), (.ref b172)])) rfl rfl (hb hby at_187)
            have N204 := Fr.snoc X204 N188 g_b172
            have V204 : Arv Z h204 b172 k172_ .char (4 : Int32) [(.int (nar .char x0)), (.int (100 : Int32)), (.int (103 : Int32)), (.int (101 : Int32))] (.int (0 : Int32)) := Arv.set Ar203 qk203 Sz203 Nn203 Hs203 Gs203 (fits_nar_char _) W204 0 rfl (Nat.le_of_ble_eq_true rfl)
            have k204 : ∀ t, Steps p.tables e below (T204.setTop (mkF m 188 #[.val (.int p1), .val (.int p2), .val (.int p3), .val (.int p4), .val (.int p5), .val (.int p6), .val (.int kd), .val (.int (0 : Int32)), .val (.int mu), .val (.int x0), .val (.int x1), .val (.int x2), .val (.int x3), .val (.int x4), .unset, .val (.ref b172), .unset, .unset, .unset, .unset] [])) t → Steps p.tables e below (s₁.setTop (entryFrame m #[(.int p1), (.int p2), (.int p3), (.int p4), (.int p5), (.int p6)] maxLocals)) t := fun t k => k202 t (st204 _ k)
            have Z205 : n0 ≤ h204.size := Nat.le_trans Z189 (Keep.of_wr W204).1
            rw [own_narc hx0] at V204
            have kp207 : Keep h0 h204 [] := (((((((Keep.refl h0 []).ext E172).wr W176 (Or.inr sz_b172)).wr W180 (Or.inr sz_b172)).wr W184 (Or.inr sz_b172)).wr W188 (Or.inr sz_b172)).wr W204 (Or.inr sz_b172))
            obtain ⟨T206, h206, X206, e206, E206, A206, D206, -, st206⟩ := newO X204 hx hZ hown (hw _ (List.mem_of_getElem? (i := 4) rfl)) (hw _ (List.mem_of_getElem? (i := 5) rfl)) (hw _ (List.mem_of_getElem? (i := 6) rfl)) e204 (g := (mkF m 188 #[.val (.int p1), .val (.int p2), .val (.int p3), .val (.int p4), .val (.int p5), .val (.int p6), .val (.int kd), .val (.int (0 : Int32)), .val (.int mu), .val (.int x0), .val (.int x1), .val (.int x2), .val (.int x3), .val (.int x4), .unset, .val (.ref b172), .unset, .unset, .unset, .unset] [])) rfl (hb hby at_188) (by decide) (by decide)
            obtain ⟨b206, g206⟩ : ∃ z, z = h204.size := ⟨_, rfl⟩
            rw [← g206] at A206 D206 st206
            have ne_b172_b206 : b172 ≠ b206 := Nat.ne_of_lt (Nat.lt_of_lt_of_eq V204.lt g206.symm)
            have g_b206 : n0 ≤ b206 := Nat.le_trans Z205 (Nat.le_of_eq g206.symm)
            have sz_b206 : h0.size ≤ b206 := Nat.le_trans kp207.1 (Nat.le_of_eq g206.symm)
            have F206_value : Fld Z h206 b206 "java/lang/String" "value" "[B" .null := D206 (Or.inr (hw _ (List.mem_of_getElem? (i := 20) rfl))) (ty := (.array .byte)) (by decide)
            have F206_coder : Fld Z h206 b206 "java/lang/String" "coder" "B" (.int (0 : Int32)) := D206 (Or.inr (hw _ (List.mem_of_getElem? (i := 21) rfl))) (ty := .byte) (by decide)
            have k206 : ∀ t, Steps p.tables e below (T206.setTop (mkF m 191 #[.val (.int p1), .val (.int p2), .val (.int p3), .val (.int p4), .val (.int p5), .val (.int p6), .val (.int kd), .val (.int (0 : Int32)), .val (.int mu), .val (.int x0), .val (.int x1), .val (.int x2), .val (.int x3), .val (.int x4), .unset, .val (.ref b172), .unset, .unset, .unset, .unset] [(.ref b206)])) t → Steps p.tables e below (s₁.setTop (entryFrame m #[(.int p1), (.int p2), (.int p3), (.int p4), (.int p5), (.int p6)] maxLocals)) t := fun t k => k204 t (st206 _ k)
            have Z208 : n0 ≤ h206.size := Nat.le_trans Z205 E206.1
            have hpp : ∀ c ∈ ([x0, (100 : Int32), (103 : Int32), (101 : Int32)] : List Int32), ¬ c < (0 : Int32) ∧ ¬ (255 : Int32) < c := by
              intro c hc
              simp only [List.mem_cons, List.not_mem_nil, or_false] at hc
              rcases hc with rfl | rfl | rfl | rfl
              · exact hx0
              · exact (by decide)
              · exact (by decide)
              · exact (by decide)
            have f209 := (V204.ext E206)
            have od210 : Old Z n0 h206 := (((((((XO.ext E172).wr W176 g_b172).wr W180 g_b172).wr W184 g_b172).wr W188 g_b172).wr W204 g_b172).ext E206)
            have k211 : ∀ t, Steps p.tables e below (T206.setTop (mkF m 194 #[.val (.int p1), .val (.int p2), .val (.int p3), .val (.int p4), .val (.int p5), .val (.int p6), .val (.int kd), .val (.int (0 : Int32)), .val (.int mu), .val (.int x0), .val (.int x1), .val (.int x2), .val (.int x3), .val (.int x4), .unset, .val (.ref b172), .unset, .unset, .unset, .unset] [(.ref b172), (.ref b206), (.ref b206)])) t → Steps p.tables e below (s₁.setTop (entryFrame m #[(.int p1), (.int p2), (.int p3), (.int p4), (.int p5), (.int p6)] maxLocals)) t := by
              intro t k
              refine k206 _ ?_
              show Steps p.tables e below (T206.setTop (mkF m 191 #[.val (.int p1), .val (.int p2), .val (.int p3), .val (.int p4), .val (.int p5), .val (.int p6), .val (.int kd), .val (.int (0 : Int32)), .val (.int mu), .val (.int x0), .val (.int x1), .val (.int x2), .val (.int x3), .val (.int x4), .unset, .val (.ref b172), .unset, .unset, .unset, .unset] [(.ref b206)])) _
              refine XS.dup X206.here hx rfl (hb hby at_191) rfl rfl ?_
              show Steps p.tables e below (T206.setTop (mkF m 192 #[.val (.int p1), .val (.int p2), .val (.int p3), .val (.int p4), .val (.int p5), .val (.int p6), .val (.int kd), .val (.int (0 : Int32)), .val (.int mu), .val (.int x0), .val (.int x1), .val (.int x2), .val (.int x3), .val (.int x4), .unset, .val (.ref b172), .unset, .unset, .unset, .unset] [(.ref b206), (.ref b206)])) _
              refine XS.aload X206.here hx rfl (hb hby at_192) rfl rfl ?_
              show Steps p.tables e below (T206.setTop (mkF m 194 #[.val (.int p1), .val (.int p2), .val (.int p3), .val (.int p4), .val (.int p5), .val (.int p6), .val (.int kd), .val (.int (0 : Int32)), .val (.int mu), .val (.int x0), .val (.int x1), .val (.int x2), .val (.int x3), .val (.int x4), .unset, .val (.ref b172), .unset, .unset, .unset, .unset] [(.ref b172), (.ref b206), (.ref b206)])) _
              exact k
            obtain ⟨_, _, ⟨T212, L212, ck212, nk212⟩, -, X212, ⟨Lc212, hQ212, l212, y212, z212⟩, st212⟩ := X206.specialBack hx (y := (⟨"java/lang/String", "<init>", "([C)V"⟩ : MethodName)) rfl hown (mvT hZ (hw _ (List.mem_of_getElem? (i := 8) rfl))) (mvT hZ (hw _ (List.mem_of_getElem? (i := 9) rfl))) (mvT hZ (hw _ (List.mem_of_getElem? (i := 10) rfl))) (by decide) (StrChars.Road.backV (W := 1) hZ (fun d hd => hw d (own_wNew d hd)) (kI := 4) (hw _ (List.mem_of_getElem? (i := 5) rfl)) (cs := ([x0, (100 : Int32), (103 : Int32), (101 : Int32)] : List Int32)) (bs := ([x0, (100 : Int32), (103 : Int32), (101 : Int32)] : List Int32).map (fun c => c.toInt8.toInt32)) (n := 4) g_b206 Z208 A206 F206_value F206_coder f209 (S1.ext od210.2) hcs rfl rfl (by decide) (by decide) hpp rfl (by decide) (by decide)) (g := (mkF m 194 #[.val (.int p1), .val (.int p2), .val (.int p3), .val (.int p4), .val (.int p5), .val (.int p6), .val (.int kd), .val (.int (0 : Int32)), .val (.int mu), .val (.int x0), .val (.int x1), .val (.int x2), .val (.int x3), .val (.int x4), .unset, .val (.ref b172), .unset, .unset, .unset, .unset] [(.ref b172), (.ref b206), (.ref b206)])) rfl (by rw [hml]; rfl) (Steps.refl _) (a := b206) (argsL := [(.ref b172)]) (rest := [(.ref b206)]) (lenOf pd_2 rfl) rfl (by show 2 * 0 + _ ≤ _; exact Nat.le_of_eq rfl) (hb hby at_194) (fun _ _ => ⟨rfl, e206, (by decide : 2 + 1 ≤ _), (by decide : 8 + 4 ≤ _)⟩)
            dsimp only [Pt.U, Pt.locs, Pt.cells, Pt.slots] at X212 l212 y212 z212 st212 hQ212
            subst l212 y212 z212
            obtain ⟨rfl, N212q, K212, EE212, FC212, t212, kb212, ht1212, ht2212, ht3212, FV212, VA212⟩ := hQ212
            have N212 := Fr.app N204 N212q
            have k212 : ∀ t, Steps p.tables e below (T212.setTop (mkF m 197 #[.val (.int p1), .val (.int p2), .val (.int p3), .val (.int p4), .val (.int p5), .val (.int p6), .val (.int kd), .val (.int (0 : Int32)), .val (.int mu), .val (.int x0), .val (.int x1), .val (.int x2), .val (.int x3), .val (.int x4), .unset, .val (.ref b172), .unset, .unset, .unset, .unset] [(.ref b206)])) t → Steps p.tables e below (s₁.setTop (entryFrame m #[(.int p1), (.int p2), (.int p3), (.int p4), (.int p5), (.int p6)] maxLocals)) t := fun t k => k211 t (st212.trans k)
            have Z213 : n0 ≤ T212.heap.size := Nat.le_trans Z208 K212.1
            have TS212 : own_Str Z T212.heap b206 ([x0, (100 : Int32), (103 : Int32), (101 : Int32)] : List Int32) := ⟨t212, kb212, EE212, FC212, FV212, VA212, hpp, Nat.le_of_ble_eq_true rfl⟩
            have k214 : ∀ t, Steps p.tables e below (T212.setTop (mkF m 205 #[.val (.int p1), .val (.int p2), .val (.int p3), .val (.int p4), .val (.int p5), .val (.int p6), .val (.int kd), .val (.int (0 : Int32)), .val (.int mu), .val (.int x0), .val (.int x1), .val (.int x2), .val (.int x3), .val (.int x4), .val (.ref b206), .val (.ref b172), .unset, .unset, .unset, .unset] [])) t → Steps p.tables e below (s₁.setTop (entryFrame m #[(.int p1), (.int p2), (.int p3), (.int p4), (.int p5), (.int p6)] maxLocals)) t := by
              intro t k
              refine k212 _ ?_
              show Steps p.tables e below (T212.setTop (mkF m 197 #[.val (.int p1), .val (.int p2), .val (.int p3), .val (.int p4), .val (.int p5), .val (.int p6), .val (.int kd), .val (.int (0 : Int32)), .val (.int mu), .val (.int x0), .val (.int x1), .val (.int x2), .val (.int x3), .val (.int x4), .unset, .val (.ref b172), .unset, .unset, .unset, .unset] [(.ref b206)])) _
              refine XS.astore X212.here hx rfl (hb hby at_197) rfl rfl (l' := #[.val (.int p1), .val (.int p2), .val (.int p3), .val (.int p4), .val (.int p5), .val (.int p6), .val (.int kd), .val (.int (0 : Int32)), .val (.int mu), .val (.int x0), .val (.int x1), .val (.int x2), .val (.int x3), .val (.int x4), .val (.ref b206), .val (.ref b172), .unset, .unset, .unset, .unset]) rfl ?_
              show Steps p.tables e below (T212.setTop (mkF m 199 #[.val (.int p1), .val (.int p2), .val (.int p3), .val (.int p4), .val (.int p5), .val (.int p6), .val (.int kd), .val (.int (0 : Int32)), .val (.int mu), .val (.int x0), .val (.int x1), .val (.int x2), .val (.int x3), .val (.int x4), .val (.ref b206), .val (.ref b172), .unset, .unset, .unset, .unset] [])) _
              refine XS.goto X212.here hx rfl (pc0 := 199) (pc' := 205) rfl (hb hby at_199) (by decide) (by decide) ?_
              show Steps p.tables e below (T212.setTop (mkF m 205 #[.val (.int p1), .val (.int p2), .val (.int p3), .val (.int p4), .val (.int p5), .val (.int p6), .val (.int kd), .val (.int (0 : Int32)), .val (.int mu), .val (.int x0), .val (.int x1), .val (.int x2), .val (.int x3), .val (.int x4), .val (.ref b206), .val (.ref b172), .unset, .unset, .unset, .unset] [])) _
              exact k
            have od215 : Old Z n0 T212.heap := (od210.keep K212 (allS g_b206 all0))
            exact tail T212 _ s.vm 0 b206 [x0, (100 : Int32), (103 : Int32), (101 : Int32)] (.val (.ref b172)) (One.val rfl) (Stand.more X212 (by decide) (by decide)) ((State.WarmedH.refl s).since 0) (Nat.zero_le _) hZ hown N212 Z213 od215 TS212 (Nat.le_of_ble_eq_true rfl) k214
          · skip
            obtain ⟨cl216, Ar216, qk216, Sz216, Nn216, Hs216, Gs216⟩ := id V188
            obtain ⟨T217, h217, X217, e217, W217, st217⟩ := stC X188 hx hZ e188 Ar216 (j := (1 : Int32)) (inb_of Sz216 ⟨(by decide : ¬ ((1 : Int32) < (0 : Int32))), (by decide : (1 : Int32) < (4 : Int32))⟩) (g := (mkF m 187 #[.val (.int p1), .val (.int p2), .val (.int p3), .val (.int p4), .val (.int p5), .val (.int p6), .val (.int kd), .val (.int (1 : Int32)), .val (.int mu), .val (.int x0), .val (.int x1), .val (.int x2), .val (.int x3), .val (.int x4), .unset, .val (.ref b172), .unset, .unset, .unset, .unset] [(.int x0), (.int (1 : Int32)), (.ref b172)])) rfl rfl (hb hby at_187)
            have N217 := Fr.snoc X217 N188 g_b172
            have V217 : Arv Z h217 b172 k172_ .char (4 : Int32) [(.int (101 : Int32)), (.int (nar .char x0)), (.int (103 : Int32)), (.int (101 : Int32))] (.int (0 : Int32)) := Arv.set Ar216 qk216 Sz216 Nn216 Hs216 Gs216 (fits_nar_char _) W217 1 rfl (Nat.le_of_ble_eq_true rfl)
            have k217 : ∀ t, Steps p.tables e below (T217.setTop (mkF m 188 #[.val (.int p1), .val (.int p2), .val (.int p3), .val (.int p4), .val (.int p5), .val (.int p6), .val (.int kd), .val (.int (1 : Int32)), .val (.int mu), .val (.int x0), .val (.int x1), .val (.int x2), .val (.int x3), .val (.int x4), .unset, .val (.ref b172), .unset, .unset, .unset, .unset] [])) t → Steps p.tables e below (s₁.setTop (entryFrame m #[(.int p1), (.int p2), (.int p3), (.int p4), (.int p5), (.int p6)] maxLocals)) t := fun t k => k202 t (st217 _ k)
            have Z218 : n0 ≤ h217.size := Nat.le_trans Z189 (Keep.of_wr W217).1
            rw [own_narc hx0] at V217
            have kp220 : Keep h0 h217 [] := (((((((Keep.refl h0 []).ext E172).wr W176 (Or.inr sz_b172)).wr W180 (Or.inr sz_b172)).wr W184 (Or.inr sz_b172)).wr W188 (Or.inr sz_b172)).wr W217 (Or.inr sz_b172))
            obtain ⟨T219, h219, X219, e219, E219, A219, D219, -, st219⟩ := newO X217 hx hZ hown (hw _ (List.mem_of_getElem? (i := 4) rfl)) (hw _ (List.mem_of_getElem? (i := 5) rfl)) (hw _ (List.mem_of_getElem? (i := 6) rfl)) e217 (g := (mkF m 188 #[.val (.int p1), .val (.int p2), .val (.int p3), .val (.int p4), .val (.int p5), .val (.int p6), .val (.int kd), .val (.int (1 : Int32)), .val (.int mu), .val (.int x0), .val (.int x1), .val (.int x2), .val (.int x3), .val (.int x4), .unset, .val (.ref b172), .unset, .unset, .unset, .unset] [])) rfl (hb hby at_188) (by decide) (by decide)
            obtain ⟨b219, g219⟩ : ∃ z, z = h217.size := ⟨_, rfl⟩
            rw [← g219] at A219 D219 st219
            have ne_b172_b219 : b172 ≠ b219 := Nat.ne_of_lt (Nat.lt_of_lt_of_eq V217.lt g219.symm)
            have g_b219 : n0 ≤ b219 := Nat.le_trans Z218 (Nat.le_of_eq g219.symm)
            have sz_b219 : h0.size ≤ b219 := Nat.le_trans kp220.1 (Nat.le_of_eq g219.symm)
            have F219_value : Fld Z h219 b219 "java/lang/String" "value" "[B" .null := D219 (Or.inr (hw _ (List.mem_of_getElem? (i := 20) rfl))) (ty := (.array .byte)) (by decide)
            have F219_coder : Fld Z h219 b219 "java/lang/String" "coder" "B" (.int (0 : Int32)) := D219 (Or.inr (hw _ (List.mem_of_getElem? (i := 21) rfl))) (ty := .byte) (by decide)
            have k219 : ∀ t, Steps p.tables e below (T219.setTop (mkF m 191 #[.val (.int p1), .val (.int p2), .val (.int p3), .val (.int p4), .val (.int p5), .val (.int p6), .val (.int kd), .val (.int (1 : Int32)), .val (.int mu), .val (.int x0), .val (.int x1), .val (.int x2), .val (.int x3), .val (.int x4), .unset, .val (.ref b172), .unset, .unset, .unset, .unset] [(.ref b219)])) t → Steps p.tables e below (s₁.setTop (entryFrame m #[(.int p1), (.int p2), (.int p3), (.int p4), (.int p5), (.int p6)] maxLocals)) t := fun t k => k217 t (st219 _ k)
            have Z221 : n0 ≤ h219.size := Nat.le_trans Z218 E219.1
            have hpp : ∀ c ∈ ([(101 : Int32), x0, (103 : Int32), (101 : Int32)] : List Int32), ¬ c < (0 : Int32) ∧ ¬ (255 : Int32) < c := by
              intro c hc
              simp only [List.mem_cons, List.not_mem_nil, or_false] at hc
              rcases hc with rfl | rfl | rfl | rfl
              · exact (by decide)
              · exact hx0
              · exact (by decide)
              · exact (by decide)
            have f222 := (V217.ext E219)
            have od223 : Old Z n0 h219 := (((((((XO.ext E172).wr W176 g_b172).wr W180 g_b172).wr W184 g_b172).wr W188 g_b172).wr W217 g_b172).ext E219)
            have k224 : ∀ t, Steps p.tables e below (T219.setTop (mkF m 194 #[.val (.int p1), .val (.int p2), .val (.int p3), .val (.int p4), .val (.int p5), .val (.int p6), .val (.int kd), .val (.int (1 : Int32)), .val (.int mu), .val (.int x0), .val (.int x1), .val (.int x2), .val (.int x3), .val (.int x4), .unset, .val (.ref b172), .unset, .unset, .unset, .unset] [(.ref b172), (.ref b219), (.ref b219)])) t → Steps p.tables e below (s₁.setTop (entryFrame m #[(.int p1), (.int p2), (.int p3), (.int p4), (.int p5), (.int p6)] maxLocals)) t := by
              intro t k
              refine k219 _ ?_
              show Steps p.tables e below (T219.setTop (mkF m 191 #[.val (.int p1), .val (.int p2), .val (.int p3), .val (.int p4), .val (.int p5), .val (.int p6), .val (.int kd), .val (.int (1 : Int32)), .val (.int mu), .val (.int x0), .val (.int x1), .val (.int x2), .val (.int x3), .val (.int x4), .unset, .val (.ref b172), .unset, .unset, .unset, .unset] [(.ref b219)])) _
              refine XS.dup X219.here hx rfl (hb hby at_191) rfl rfl ?_
              show Steps p.tables e below (T219.setTop (mkF m 192 #[.val (.int p1), .val (.int p2), .val (.int p3), .val (.int p4), .val (.int p5), .val (.int p6), .val (.int kd), .val (.int (1 : Int32)), .val (.int mu), .val (.int x0), .val (.int x1), .val (.int x2), .val (.int x3), .val (.int x4), .unset, .val (.ref b172), .unset, .unset, .unset, .unset] [(.ref b219), (.ref b219)])) _
              refine XS.aload X219.here hx rfl (hb hby at_192) rfl rfl ?_
              show Steps p.tables e below (T219.setTop (mkF m 194 #[.val (.int p1), .val (.int p2), .val (.int p3), .val (.int p4), .val (.int p5), .val (.int p6), .val (.int kd), .val (.int (1 : Int32)), .val (.int mu), .val (.int x0), .val (.int x1), .val (.int x2), .val (.int x3), .val (.int x4), .unset, .val (.ref b172), .unset, .unset, .unset, .unset] [(.ref b172), (.ref b219), (.ref b219)])) _
              exact k
            obtain ⟨_, _, ⟨T225, L225, ck225, nk225⟩, -, X225, ⟨Lc225, hQ225, l225, y225, z225⟩, st225⟩ := X219.specialBack hx (y := (⟨"java/lang/String", "<init>", "([C)V"⟩ : MethodName)) rfl hown (mvT hZ (hw _ (List.mem_of_getElem? (i := 8) rfl))) (mvT hZ (hw _ (List.mem_of_getElem? (i := 9) rfl))) (mvT hZ (hw _ (List.mem_of_getElem? (i := 10) rfl))) (by decide) (StrChars.Road.backV (W := 1) hZ (fun d hd => hw d (own_wNew d hd)) (kI := 4) (hw _ (List.mem_of_getElem? (i := 5) rfl)) (cs := ([(101 : Int32), x0, (103 : Int32), (101 : Int32)] : List Int32)) (bs := ([(101 : Int32), x0, (103 : Int32), (101 : Int32)] : List Int32).map (fun c => c.toInt8.toInt32)) (n := 4) g_b219 Z221 A219 F219_value F219_coder f222 (S1.ext od223.2) hcs rfl rfl (by decide) (by decide) hpp rfl (by decide) (by decide)) (g := (mkF m 194 #[.val (.int p1), .val (.int p2), .val (.int p3), .val (.int p4), .val (.int p5), .val (.int p6), .val (.int kd), .val (.int (1 : Int32)), .val (.int mu), .val (.int x0), .val (.int x1), .val (.int x2), .val (.int x3), .val (.int x4), .unset, .val (.ref b172), .unset, .unset, .unset, .unset] [(.ref b172), (.ref b219), (.ref b219)])) rfl (by rw [hml]; rfl) (Steps.refl _) (a := b219) (argsL := [(.ref b172)]) (rest := [(.ref b219)]) (lenOf pd_2 rfl) rfl (by show 2 * 0 + _ ≤ _; exact Nat.le_of_eq rfl) (hb hby at_194) (fun _ _ => ⟨rfl, e219, (by decide : 2 + 1 ≤ _), (by decide : 8 + 4 ≤ _)⟩)
            dsimp only [Pt.U, Pt.locs, Pt.cells, Pt.slots] at X225 l225 y225 z225 st225 hQ225
            subst l225 y225 z225
            obtain ⟨rfl, N225q, K225, EE225, FC225, t225, kb225, ht1225, ht2225, ht3225, FV225, VA225⟩ := hQ225
            have N225 := Fr.app N217 N225q
            have k225 : ∀ t, Steps p.tables e below (T225.setTop (mkF m 197 #[.val (.int p1), .val (.int p2), .val (.int p3), .val (.int p4), .val (.int p5), .val (.int p6), .val (.int kd), .val (.int (1 : Int32)), .val (.int mu), .val (.int x0), .val (.int x1), .val (.int x2), .val (.int x3), .val (.int x4), .unset, .val (.ref b172), .unset, .unset, .unset, .unset] [(.ref b219)])) t → Steps p.tables e below (s₁.setTop (entryFrame m #[(.int p1), (.int p2), (.int p3), (.int p4), (.int p5), (.int p6)] maxLocals)) t := fun t k => k224 t (st225.trans k)
            have Z226 : n0 ≤ T225.heap.size := Nat.le_trans Z221 K225.1
            have TS225 : own_Str Z T225.heap b219 ([(101 : Int32), x0, (103 : Int32), (101 : Int32)] : List Int32) := ⟨t225, kb225, EE225, FC225, FV225, VA225, hpp, Nat.le_of_ble_eq_true rfl⟩
            have k227 : ∀ t, Steps p.tables e below (T225.setTop (mkF m 205 #[.val (.int p1), .val (.int p2), .val (.int p3), .val (.int p4), .val (.int p5), .val (.int p6), .val (.int kd), .val (.int (1 : Int32)), .val (.int mu), .val (.int x0), .val (.int x1), .val (.int x2), .val (.int x3), .val (.int x4), .val (.ref b219), .val (.ref b172), .unset, .unset, .unset, .unset] [])) t → Steps p.tables e below (s₁.setTop (entryFrame m #[(.int p1), (.int p2), (.int p3), (.int p4), (.int p5), (.int p6)] maxLocals)) t := by
              intro t k
              refine k225 _ ?_
              show Steps p.tables e below (T225.setTop (mkF m 197 #[.val (.int p1), .val (.int p2), .val (.int p3), .val (.int p4), .val (.int p5), .val (.int p6), .val (.int kd), .val (.int (1 : Int32)), .val (.int mu), .val (.int x0), .val (.int x1), .val (.int x2), .val (.int x3), .val (.int x4), .unset, .val (.ref b172), .unset, .unset, .unset, .unset] [(.ref b219)])) _
              refine XS.astore X225.here hx rfl (hb hby at_197) rfl rfl (l' := #[.val (.int p1), .val (.int p2), .val (.int p3), .val (.int p4), .val (.int p5), .val (.int p6), .val (.int kd), .val (.int (1 : Int32)), .val (.int mu), .val (.int x0), .val (.int x1), .val (.int x2), .val (.int x3), .val (.int x4), .val (.ref b219), .val (.ref b172), .unset, .unset, .unset, .unset]) rfl ?_
              show Steps p.tables e below (T225.setTop (mkF m 199 #[.val (.int p1), .val (.int p2), .val (.int p3), .val (.int p4), .val (.int p5), .val (.int p6), .val (.int kd), .val (.int (1 : Int32)), .val (.int mu), .val (.int x0), .val (.int x1), .val (.int x2), .val (.int x3), .val (.int x4), .val (.ref b219), .val (.ref b172), .unset, .unset, .unset, .unset] [])) _
              refine XS.goto X225.here hx rfl (pc0 := 199) (pc' := 205) rfl (hb hby at_199) (by decide) (by decide) ?_
              show Steps p.tables e below (T225.setTop (mkF m 205 #[.val (.int p1), .val (.int p2), .val (.int p3), .val (.int p4), .val (.int p5), .val (.int p6), .val (.int kd), .val (.int (1 : Int32)), .val (.int mu), .val (.int x0), .val (.int x1), .val (.int x2), .val (.int x3), .val (.int x4), .val (.ref b219), .val (.ref b172), .unset, .unset, .unset, .unset] [])) _
              exact k
            have od228 : Old Z n0 T225.heap := (od223.keep K225 (allS g_b219 all0))
            exact tail T225 _ s.vm 0 b219 [(101 : Int32), x0, (103 : Int32), (101 : Int32)] (.val (.ref b172)) (One.val rfl) (Stand.more X225 (by decide) (by decide)) ((State.WarmedH.refl s).since 0) (Nat.zero_le _) hZ hown N225 Z226 od228 TS225 (Nat.le_of_ble_eq_true rfl) k227
          · skip
            obtain ⟨cl229, Ar229, qk229, Sz229, Nn229, Hs229, Gs229⟩ := id V188
            obtain ⟨T230, h230, X230, e230, W230, st230⟩ := stC X188 hx hZ e188 Ar229 (j := (2 : Int32)) (inb_of Sz229 ⟨(by decide : ¬ ((2 : Int32) < (0 : Int32))), (by decide : (2 : Int32) < (4 : Int32))⟩) (g := (mkF m 187 #[.val (.int p1), .val (.int p2), .val (.int p3), .val (.int p4), .val (.int p5), .val (.int p6), .val (.int kd), .val (.int (2 : Int32)), .val (.int mu), .val (.int x0), .val (.int x1), .val (.int x2), .val (.int x3), .val (.int x4), .unset, .val (.ref b172), .unset, .unset, .unset, .unset] [(.int x0), (.int (2 : Int32)), (.ref b172)])) rfl rfl (hb hby at_187)
            have N230 := Fr.snoc X230 N188 g_b172
            have V230 : Arv Z h230 b172 k172_ .char (4 : Int32) [(.int (101 : Int32)), (.int (100 : Int32)), (.int (nar .char x0)), (.int (101 : Int32))] (.int (0 : Int32)) := Arv.set Ar229 qk229 Sz229 Nn229 Hs229 Gs229 (fits_nar_char _) W230 2 rfl (Nat.le_of_ble_eq_true rfl)
            have k230 : ∀ t, Steps p.tables e below (T230.setTop (mkF m 188 #[.val (.int p1), .val (.int p2), .val (.int p3), .val (.int p4), .val (.int p5), .val (.int p6), .val (.int kd), .val (.int (2 : Int32)), .val (.int mu), .val (.int x0), .val (.int x1), .val (.int x2), .val (.int x3), .val (.int x4), .unset, .val (.ref b172), .unset, .unset, .unset, .unset] [])) t → Steps p.tables e below (s₁.setTop (entryFrame m #[(.int p1), (.int p2), (.int p3), (.int p4), (.int p5), (.int p6)] maxLocals)) t := fun t k => k202 t (st230 _ k)
            have Z231 : n0 ≤ h230.size := Nat.le_trans Z189 (Keep.of_wr W230).1
            rw [own_narc hx0] at V230
            have kp233 : Keep h0 h230 [] := (((((((Keep.refl h0 []).ext E172).wr W176 (Or.inr sz_b172)).wr W180 (Or.inr sz_b172)).wr W184 (Or.inr sz_b172)).wr W188 (Or.inr sz_b172)).wr W230 (Or.inr sz_b172))
            obtain ⟨T232, h232, X232, e232, E232, A232, D232, -, st232⟩ := newO X230 hx hZ hown (hw _ (List.mem_of_getElem? (i := 4) rfl)) (hw _ (List.mem_of_getElem? (i := 5) rfl)) (hw _ (List.mem_of_getElem? (i := 6) rfl)) e230 (g := (mkF m 188 #[.val (.int p1), .val (.int p2), .val (.int p3), .val (.int p4), .val (.int p5), .val (.int p6), .val (.int kd), .val (.int (2 : Int32)), .val (.int mu), .val (.int x0), .val (.int x1), .val (.int x2), .val (.int x3), .val (.int x4), .unset, .val (.ref b172), .unset, .unset, .unset, .unset] [])) rfl (hb hby at_188) (by decide) (by decide)
            obtain ⟨b232, g232⟩ : ∃ z, z = h230.size := ⟨_, rfl⟩
            rw [← g232] at A232 D232 st232
            have ne_b172_b232 : b172 ≠ b232 := Nat.ne_of_lt (Nat.lt_of_lt_of_eq V230.lt g232.symm)
            have g_b232 : n0 ≤ b232 := Nat.le_trans Z231 (Nat.le_of_eq g232.symm)
            have sz_b232 : h0.size ≤ b232 := Nat.le_trans kp233.1 (Nat.le_of_eq g232.symm)
            have F232_value : Fld Z h232 b232 "java/lang/String" "value" "[B" .null := D232 (Or.inr (hw _ (List.mem_of_getElem? (i := 20) rfl))) (ty := (.array .byte)) (by decide)
            have F232_coder : Fld Z h232 b232 "java/lang/String" "coder" "B" (.int (0 : Int32)) := D232 (Or.inr (hw _ (List.mem_of_getElem? (i := 21) rfl))) (ty := .byte) (by decide)
            have k232 : ∀ t, Steps p.tables e below (T232.setTop (mkF m 191 #[.val (.int p1), .val (.int p2), .val (.int p3), .val (.int p4), .val (.int p5), .val (.int p6), .val (.int kd), .val (.int (2 : Int32)), .val (.int mu), .val (.int x0), .val (.int x1), .val (.int x2), .val (.int x3), .val (.int x4), .unset, .val (.ref b172), .unset, .unset, .unset, .unset] [(.ref b232)])) t → Steps p.tables e below (s₁.setTop (entryFrame m #[(.int p1), (.int p2), (.int p3), (.int p4), (.int p5), (.int p6)] maxLocals)) t := fun t k => k230 t (st232 _ k)
            have Z234 : n0 ≤ h232.size := Nat.le_trans Z231 E232.1
            have hpp : ∀ c ∈ ([(101 : Int32), (100 : Int32), x0, (101 : Int32)] : List Int32), ¬ c < (0 : Int32) ∧ ¬ (255 : Int32) < c := by
              intro c hc
              simp only [List.mem_cons, List.not_mem_nil, or_false] at hc
              rcases hc with rfl | rfl | rfl | rfl
              · exact (by decide)
              · exact (by decide)
              · exact hx0
              · exact (by decide)
            have f235 := (V230.ext E232)
            have od236 : Old Z n0 h232 := (((((((XO.ext E172).wr W176 g_b172).wr W180 g_b172).wr W184 g_b172).wr W188 g_b172).wr W230 g_b172).ext E232)
            have k237 : ∀ t, Steps p.tables e below (T232.setTop (mkF m 194 #[.val (.int p1), .val (.int p2), .val (.int p3), .val (.int p4), .val (.int p5), .val (.int p6), .val (.int kd), .val (.int (2 : Int32)), .val (.int mu), .val (.int x0), .val (.int x1), .val (.int x2), .val (.int x3), .val (.int x4), .unset, .val (.ref b172), .unset, .unset, .unset, .unset] [(.ref b172), (.ref b232), (.ref b232)])) t → Steps p.tables e below (s₁.setTop (entryFrame m #[(.int p1), (.int p2), (.int p3), (.int p4), (.int p5), (.int p6)] maxLocals)) t := by
              intro t k
              refine k232 _ ?_
              show Steps p.tables e below (T232.setTop (mkF m 191 #[.val (.int p1), .val (.int p2), .val (.int p3), .val (.int p4), .val (.int p5), .val (.int p6), .val (.int kd), .val (.int (2 : Int32)), .val (.int mu), .val (.int x0), .val (.int x1), .val (.int x2), .val (.int x3), .val (.int x4), .unset, .val (.ref b172), .unset, .unset, .unset, .unset] [(.ref b232)])) _
              refine XS.dup X232.here hx rfl (hb hby at_191) rfl rfl ?_
              show Steps p.tables e below (T232.setTop (mkF m 192 #[.val (.int p1), .val (.int p2), .val (.int p3), .val (.int p4), .val (.int p5), .val (.int p6), .val (.int kd), .val (.int (2 : Int32)), .val (.int mu), .val (.int x0), .val (.int x1), .val (.int x2), .val (.int x3), .val (.int x4), .unset, .val (.ref b172), .unset, .unset, .unset, .unset] [(.ref b232), (.ref b232)])) _
              refine XS.aload X232.here hx rfl (hb hby at_192) rfl rfl ?_
              show Steps p.tables e below (T232.setTop (mkF m 194 #[.val (.int p1), .val (.int p2), .val (.int p3), .val (.int p4), .val (.int p5), .val (.int p6), .val (.int kd), .val (.int (2 : Int32)), .val (.int mu), .val (.int x0), .val (.int x1), .val (.int x2), .val (.int x3), .val (.int x4), .unset, .val (.ref b172), .unset, .unset, .unset, .unset] [(.ref b172), (.ref b232), (.ref b232)])) _
              exact k
            obtain ⟨_, _, ⟨T238, L238, ck238, nk238⟩, -, X238, ⟨Lc238, hQ238, l238, y238, z238⟩, st238⟩ := X232.specialBack hx (y := (⟨"java/lang/String", "<init>", "([C)V"⟩ : MethodName)) rfl hown (mvT hZ (hw _ (List.mem_of_getElem? (i := 8) rfl))) (mvT hZ (hw _ (List.mem_of_getElem? (i := 9) rfl))) (mvT hZ (hw _ (List.mem_of_getElem? (i := 10) rfl))) (by decide) (StrChars.Road.backV (W := 1) hZ (fun d hd => hw d (own_wNew d hd)) (kI := 4) (hw _ (List.mem_of_getElem? (i := 5) rfl)) (cs := ([(101 : Int32), (100 : Int32), x0, (101 : Int32)] : List Int32)) (bs := ([(101 : Int32), (100 : Int32), x0, (101 : Int32)] : List Int32).map (fun c => c.toInt8.toInt32)) (n := 4) g_b232 Z234 A232 F232_value F232_coder f235 (S1.ext od236.2) hcs rfl rfl (by decide) (by decide) hpp rfl (by decide) (by decide)) (g := (mkF m 194 #[.val (.int p1), .val (.int p2), .val (.int p3), .val (.int p4), .val (.int p5), .val (.int p6), .val (.int kd), .val (.int (2 : Int32)), .val (.int mu), .val (.int x0), .val (.int x1), .val (.int x2), .val (.int x3), .val (.int x4), .unset, .val (.ref b172), .unset, .unset, .unset, .unset] [(.ref b172), (.ref b232), (.ref b232)])) rfl (by rw [hml]; rfl) (Steps.refl _) (a := b232) (argsL := [(.ref b172)]) (rest := [(.ref b232)]) (lenOf pd_2 rfl) rfl (by show 2 * 0 + _ ≤ _; exact Nat.le_of_eq rfl) (hb hby at_194) (fun _ _ => ⟨rfl, e232, (by decide : 2 + 1 ≤ _), (by decide : 8 + 4 ≤ _)⟩)
            dsimp only [Pt.U, Pt.locs, Pt.cells, Pt.slots] at X238 l238 y238 z238 st238 hQ238
            subst l238 y238 z238
            obtain ⟨rfl, N238q, K238, EE238, FC238, t238, kb238, ht1238, ht2238, ht3238, FV238, VA238⟩ := hQ238
            have N238 := Fr.app N230 N238q
            have k238 : ∀ t, Steps p.tables e below (T238.setTop (mkF m 197 #[.val (.int p1), .val (.int p2), .val (.int p3), .val (.int p4), .val (.int p5), .val (.int p6), .val (.int kd), .val (.int (2 : Int32)), .val (.int mu), .val (.int x0), .val (.int x1), .val (.int x2), .val (.int x3), .val (.int x4), .unset, .val (.ref b172), .unset, .unset, .unset, .unset] [(.ref b232)])) t → Steps p.tables e below (s₁.setTop (entryFrame m #[(.int p1), (.int p2), (.int p3), (.int p4), (.int p5), (.int p6)] maxLocals)) t := fun t k => k237 t (st238.trans k)
            have Z239 : n0 ≤ T238.heap.size := Nat.le_trans Z234 K238.1
            have TS238 : own_Str Z T238.heap b232 ([(101 : Int32), (100 : Int32), x0, (101 : Int32)] : List Int32) := ⟨t238, kb238, EE238, FC238, FV238, VA238, hpp, Nat.le_of_ble_eq_true rfl⟩
            have k240 : ∀ t, Steps p.tables e below (T238.setTop (mkF m 205 #[.val (.int p1), .val (.int p2), .val (.int p3), .val (.int p4), .val (.int p5), .val (.int p6), .val (.int kd), .val (.int (2 : Int32)), .val (.int mu), .val (.int x0), .val (.int x1), .val (.int x2), .val (.int x3), .val (.int x4), .val (.ref b232), .val (.ref b172), .unset, .unset, .unset, .unset] [])) t → Steps p.tables e below (s₁.setTop (entryFrame m #[(.int p1), (.int p2), (.int p3), (.int p4), (.int p5), (.int p6)] maxLocals)) t := by
              intro t k
              refine k238 _ ?_
              show Steps p.tables e below (T238.setTop (mkF m 197 #[.val (.int p1), .val (.int p2), .val (.int p3), .val (.int p4), .val (.int p5), .val (.int p6), .val (.int kd), .val (.int (2 : Int32)), .val (.int mu), .val (.int x0), .val (.int x1), .val (.int x2), .val (.int x3), .val (.int x4), .unset, .val (.ref b172), .unset, .unset, .unset, .unset] [(.ref b232)])) _
              refine XS.astore X238.here hx rfl (hb hby at_197) rfl rfl (l' := #[.val (.int p1), .val (.int p2), .val (.int p3), .val (.int p4), .val (.int p5), .val (.int p6), .val (.int kd), .val (.int (2 : Int32)), .val (.int mu), .val (.int x0), .val (.int x1), .val (.int x2), .val (.int x3), .val (.int x4), .val (.ref b232), .val (.ref b172), .unset, .unset, .unset, .unset]) rfl ?_
              show Steps p.tables e below (T238.setTop (mkF m 199 #[.val (.int p1), .val (.int p2), .val (.int p3), .val (.int p4), .val (.int p5), .val (.int p6), .val (.int kd), .val (.int (2 : Int32)), .val (.int mu), .val (.int x0), .val (.int x1), .val (.int x2), .val (.int x3), .val (.int x4), .val (.ref b232), .val (.ref b172), .unset, .unset, .unset, .unset] [])) _
              refine XS.goto X238.here hx rfl (pc0 := 199) (pc' := 205) rfl (hb hby at_199) (by decide) (by decide) ?_
              show Steps p.tables e below (T238.setTop (mkF m 205 #[.val (.int p1), .val (.int p2), .val (.int p3), .val (.int p4), .val (.int p5), .val (.int p6), .val (.int kd), .val (.int (2 : Int32)), .val (.int mu), .val (.int x0), .val (.int x1), .val (.int x2), .val (.int x3), .val (.int x4), .val (.ref b232), .val (.ref b172), .unset, .unset, .unset, .unset] [])) _
              exact k
            have od241 : Old Z n0 T238.heap := (od236.keep K238 (allS g_b232 all0))
            exact tail T238 _ s.vm 0 b232 [(101 : Int32), (100 : Int32), x0, (101 : Int32)] (.val (.ref b172)) (One.val rfl) (Stand.more X238 (by decide) (by decide)) ((State.WarmedH.refl s).since 0) (Nat.zero_le _) hZ hown N238 Z239 od241 TS238 (Nat.le_of_ble_eq_true rfl) k240
          · skip
            obtain ⟨cl242, Ar242, qk242, Sz242, Nn242, Hs242, Gs242⟩ := id V188
            obtain ⟨T243, h243, X243, e243, W243, st243⟩ := stC X188 hx hZ e188 Ar242 (j := (3 : Int32)) (inb_of Sz242 ⟨(by decide : ¬ ((3 : Int32) < (0 : Int32))), (by decide : (3 : Int32) < (4 : Int32))⟩) (g := (mkF m 187 #[.val (.int p1), .val (.int p2), .val (.int p3), .val (.int p4), .val (.int p5), .val (.int p6), .val (.int kd), .val (.int (3 : Int32)), .val (.int mu), .val (.int x0), .val (.int x1), .val (.int x2), .val (.int x3), .val (.int x4), .unset, .val (.ref b172), .unset, .unset, .unset, .unset] [(.int x0), (.int (3 : Int32)), (.ref b172)])) rfl rfl (hb hby at_187)
            have N243 := Fr.snoc X243 N188 g_b172
            have V243 : Arv Z h243 b172 k172_ .char (4 : Int32) [(.int (101 : Int32)), (.int (100 : Int32)), (.int (103 : Int32)), (.int (nar .char x0))] (.int (0 : Int32)) := Arv.set Ar242 qk242 Sz242 Nn242 Hs242 Gs242 (fits_nar_char _) W243 3 rfl (Nat.le_of_ble_eq_true rfl)
            have k243 : ∀ t, Steps p.tables e below (T243.setTop (mkF m 188 #[.val (.int p1), .val (.int p2), .val (.int p3), .val (.int p4), .val (.int p5), .val (.int p6), .val (.int kd), .val (.int (3 : Int32)), .val (.int mu), .val (.int x0), .val (.int x1), .val (.int x2), .val (.int x3), .val (.int x4), .unset, .val (.ref b172), .unset, .unset, .unset, .unset] [])) t → Steps p.tables e below (s₁.setTop (entryFrame m #[(.int p1), (.int p2), (.int p3), (.int p4), (.int p5), (.int p6)] maxLocals)) t := fun t k => k202 t (st243 _ k)
            have Z244 : n0 ≤ h243.size := Nat.le_trans Z189 (Keep.of_wr W243).1
            rw [own_narc hx0] at V243
            have kp246 : Keep h0 h243 [] := (((((((Keep.refl h0 []).ext E172).wr W176 (Or.inr sz_b172)).wr W180 (Or.inr sz_b172)).wr W184 (Or.inr sz_b172)).wr W188 (Or.inr sz_b172)).wr W243 (Or.inr sz_b172))
            obtain ⟨T245, h245, X245, e245, E245, A245, D245, -, st245⟩ := newO X243 hx hZ hown (hw _ (List.mem_of_getElem? (i := 4) rfl)) (hw _ (List.mem_of_getElem? (i := 5) rfl)) (hw _ (List.mem_of_getElem? (i := 6) rfl)) e243 (g := (mkF m 188 #[.val (.int p1), .val (.int p2), .val (.int p3), .val (.int p4), .val (.int p5), .val (.int p6), .val (.int kd), .val (.int (3 : Int32)), .val (.int mu), .val (.int x0), .val (.int x1), .val (.int x2), .val (.int x3), .val (.int x4), .unset, .val (.ref b172), .unset, .unset, .unset, .unset] [])) rfl (hb hby at_188) (by decide) (by decide)
            obtain ⟨b245, g245⟩ : ∃ z, z = h243.size := ⟨_, rfl⟩
            rw [← g245] at A245 D245 st245
            have ne_b172_b245 : b172 ≠ b245 := Nat.ne_of_lt (Nat.lt_of_lt_of_eq V243.lt g245.symm)
            have g_b245 : n0 ≤ b245 := Nat.le_trans Z244 (Nat.le_of_eq g245.symm)
            have sz_b245 : h0.size ≤ b245 := Nat.le_trans kp246.1 (Nat.le_of_eq g245.symm)
            have F245_value : Fld Z h245 b245 "java/lang/String" "value" "[B" .null := D245 (Or.inr (hw _ (List.mem_of_getElem? (i := 20) rfl))) (ty := (.array .byte)) (by decide)
            have F245_coder : Fld Z h245 b245 "java/lang/String" "coder" "B" (.int (0 : Int32)) := D245 (Or.inr (hw _ (List.mem_of_getElem? (i := 21) rfl))) (ty := .byte) (by decide)
            have k245 : ∀ t, Steps p.tables e below (T245.setTop (mkF m 191 #[.val (.int p1), .val (.int p2), .val (.int p3), .val (.int p4), .val (.int p5), .val (.int p6), .val (.int kd), .val (.int (3 : Int32)), .val (.int mu), .val (.int x0), .val (.int x1), .val (.int x2), .val (.int x3), .val (.int x4), .unset, .val (.ref b172), .unset, .unset, .unset, .unset] [(.ref b245)])) t → Steps p.tables e below (s₁.setTop (entryFrame m #[(.int p1), (.int p2), (.int p3), (.int p4), (.int p5), (.int p6)] maxLocals)) t := fun t k => k243 t (st245 _ k)
            have Z247 : n0 ≤ h245.size := Nat.le_trans Z244 E245.1
            have hpp : ∀ c ∈ ([(101 : Int32), (100 : Int32), (103 : Int32), x0] : List Int32), ¬ c < (0 : Int32) ∧ ¬ (255 : Int32) < c := by
              intro c hc
              simp only [List.mem_cons, List.not_mem_nil, or_false] at hc
              rcases hc with rfl | rfl | rfl | rfl
              · exact (by decide)
              · exact (by decide)
              · exact (by decide)
              · exact hx0
            have f248 := (V243.ext E245)
            have od249 : Old Z n0 h245 := (((((((XO.ext E172).wr W176 g_b172).wr W180 g_b172).wr W184 g_b172).wr W188 g_b172).wr W243 g_b172).ext E245)
            have k250 : ∀ t, Steps p.tables e below (T245.setTop (mkF m 194 #[.val (.int p1), .val (.int p2), .val (.int p3), .val (.int p4), .val (.int p5), .val (.int p6), .val (.int kd), .val (.int (3 : Int32)), .val (.int mu), .val (.int x0), .val (.int x1), .val (.int x2), .val (.int x3), .val (.int x4), .unset, .val (.ref b172), .unset, .unset, .unset, .unset] [(.ref b172), (.ref b245), (.ref b245)])) t → Steps p.tables e below (s₁.setTop (entryFrame m #[(.int p1), (.int p2), (.int p3), (.int p4), (.int p5), (.int p6)] maxLocals)) t := by
              intro t k
              refine k245 _ ?_
              show Steps p.tables e below (T245.setTop (mkF m 191 #[.val (.int p1), .val (.int p2), .val (.int p3), .val (.int p4), .val (.int p5), .val (.int p6), .val (.int kd), .val (.int (3 : Int32)), .val (.int mu), .val (.int x0), .val (.int x1), .val (.int x2), .val (.int x3), .val (.int x4), .unset, .val (.ref b172), .unset, .unset, .unset, .unset] [(.ref b245)])) _
              refine XS.dup X245.here hx rfl (hb hby at_191) rfl rfl ?_
              show Steps p.tables e below (T245.setTop (mkF m 192 #[.val (.int p1), .val (.int p2), .val (.int p3), .val (.int p4), .val (.int p5), .val (.int p6), .val (.int kd), .val (.int (3 : Int32)), .val (.int mu), .val (.int x0), .val (.int x1), .val (.int x2), .val (.int x3), .val (.int x4), .unset, .val (.ref b172), .unset, .unset, .unset, .unset] [(.ref b245), (.ref b245)])) _
              refine XS.aload X245.here hx rfl (hb hby at_192) rfl rfl ?_
              show Steps p.tables e below (T245.setTop (mkF m 194 #[.val (.int p1), .val (.int p2), .val (.int p3), .val (.int p4), .val (.int p5), .val (.int p6), .val (.int kd), .val (.int (3 : Int32)), .val (.int mu), .val (.int x0), .val (.int x1), .val (.int x2), .val (.int x3), .val (.int x4), .unset, .val (.ref b172), .unset, .unset, .unset, .unset] [(.ref b172), (.ref b245), (.ref b245)])) _
              exact k
            obtain ⟨_, _, ⟨T251, L251, ck251, nk251⟩, -, X251, ⟨Lc251, hQ251, l251, y251, z251⟩, st251⟩ := X245.specialBack hx (y := (⟨"java/lang/String", "<init>", "([C)V"⟩ : MethodName)) rfl hown (mvT hZ (hw _ (List.mem_of_getElem? (i := 8) rfl))) (mvT hZ (hw _ (List.mem_of_getElem? (i := 9) rfl))) (mvT hZ (hw _ (List.mem_of_getElem? (i := 10) rfl))) (by decide) (StrChars.Road.backV (W := 1) hZ (fun d hd => hw d (own_wNew d hd)) (kI := 4) (hw _ (List.mem_of_getElem? (i := 5) rfl)) (cs := ([(101 : Int32), (100 : Int32), (103 : Int32), x0] : List Int32)) (bs := ([(101 : Int32), (100 : Int32), (103 : Int32), x0] : List Int32).map (fun c => c.toInt8.toInt32)) (n := 4) g_b245 Z247 A245 F245_value F245_coder f248 (S1.ext od249.2) hcs rfl rfl (by decide) (by decide) hpp rfl (by decide) (by decide)) (g := (mkF m 194 #[.val (.int p1), .val (.int p2), .val (.int p3), .val (.int p4), .val (.int p5), .val (.int p6), .val (.int kd), .val (.int (3 : Int32)), .val (.int mu), .val (.int x0), .val (.int x1), .val (.int x2), .val (.int x3), .val (.int x4), .unset, .val (.ref b172), .unset, .unset, .unset, .unset] [(.ref b172), (.ref b245), (.ref b245)])) rfl (by rw [hml]; rfl) (Steps.refl _) (a := b245) (argsL := [(.ref b172)]) (rest := [(.ref b245)]) (lenOf pd_2 rfl) rfl (by show 2 * 0 + _ ≤ _; exact Nat.le_of_eq rfl) (hb hby at_194) (fun _ _ => ⟨rfl, e245, (by decide : 2 + 1 ≤ _), (by decide : 8 + 4 ≤ _)⟩)
            dsimp only [Pt.U, Pt.locs, Pt.cells, Pt.slots] at X251 l251 y251 z251 st251 hQ251
            subst l251 y251 z251
            obtain ⟨rfl, N251q, K251, EE251, FC251, t251, kb251, ht1251, ht2251, ht3251, FV251, VA251⟩ := hQ251
            have N251 := Fr.app N243 N251q
            have k251 : ∀ t, Steps p.tables e below (T251.setTop (mkF m 197 #[.val (.int p1), .val (.int p2), .val (.int p3), .val (.int p4), .val (.int p5), .val (.int p6), .val (.int kd), .val (.int (3 : Int32)), .val (.int mu), .val (.int x0), .val (.int x1), .val (.int x2), .val (.int x3), .val (.int x4), .unset, .val (.ref b172), .unset, .unset, .unset, .unset] [(.ref b245)])) t → Steps p.tables e below (s₁.setTop (entryFrame m #[(.int p1), (.int p2), (.int p3), (.int p4), (.int p5), (.int p6)] maxLocals)) t := fun t k => k250 t (st251.trans k)
            have Z252 : n0 ≤ T251.heap.size := Nat.le_trans Z247 K251.1
            have TS251 : own_Str Z T251.heap b245 ([(101 : Int32), (100 : Int32), (103 : Int32), x0] : List Int32) := ⟨t251, kb251, EE251, FC251, FV251, VA251, hpp, Nat.le_of_ble_eq_true rfl⟩
            have k253 : ∀ t, Steps p.tables e below (T251.setTop (mkF m 205 #[.val (.int p1), .val (.int p2), .val (.int p3), .val (.int p4), .val (.int p5), .val (.int p6), .val (.int kd), .val (.int (3 : Int32)), .val (.int mu), .val (.int x0), .val (.int x1), .val (.int x2), .val (.int x3), .val (.int x4), .val (.ref b245), .val (.ref b172), .unset, .unset, .unset, .unset] [])) t → Steps p.tables e below (s₁.setTop (entryFrame m #[(.int p1), (.int p2), (.int p3), (.int p4), (.int p5), (.int p6)] maxLocals)) t := by
              intro t k
              refine k251 _ ?_
              show Steps p.tables e below (T251.setTop (mkF m 197 #[.val (.int p1), .val (.int p2), .val (.int p3), .val (.int p4), .val (.int p5), .val (.int p6), .val (.int kd), .val (.int (3 : Int32)), .val (.int mu), .val (.int x0), .val (.int x1), .val (.int x2), .val (.int x3), .val (.int x4), .unset, .val (.ref b172), .unset, .unset, .unset, .unset] [(.ref b245)])) _
              refine XS.astore X251.here hx rfl (hb hby at_197) rfl rfl (l' := #[.val (.int p1), .val (.int p2), .val (.int p3), .val (.int p4), .val (.int p5), .val (.int p6), .val (.int kd), .val (.int (3 : Int32)), .val (.int mu), .val (.int x0), .val (.int x1), .val (.int x2), .val (.int x3), .val (.int x4), .val (.ref b245), .val (.ref b172), .unset, .unset, .unset, .unset]) rfl ?_
              show Steps p.tables e below (T251.setTop (mkF m 199 #[.val (.int p1), .val (.int p2), .val (.int p3), .val (.int p4), .val (.int p5), .val (.int p6), .val (.int kd), .val (.int (3 : Int32)), .val (.int mu), .val (.int x0), .val (.int x1), .val (.int x2), .val (.int x3), .val (.int x4), .val (.ref b245), .val (.ref b172), .unset, .unset, .unset, .unset] [])) _
              refine XS.goto X251.here hx rfl (pc0 := 199) (pc' := 205) rfl (hb hby at_199) (by decide) (by decide) ?_
              show Steps p.tables e below (T251.setTop (mkF m 205 #[.val (.int p1), .val (.int p2), .val (.int p3), .val (.int p4), .val (.int p5), .val (.int p6), .val (.int kd), .val (.int (3 : Int32)), .val (.int mu), .val (.int x0), .val (.int x1), .val (.int x2), .val (.int x3), .val (.int x4), .val (.ref b245), .val (.ref b172), .unset, .unset, .unset, .unset] [])) _
              exact k
            have od254 : Old Z n0 T251.heap := (od249.keep K251 (allS g_b245 all0))
            exact tail T251 _ s.vm 0 b245 [(101 : Int32), (100 : Int32), (103 : Int32), x0] (.val (.ref b172)) (One.val rfl) (Stand.more X251 (by decide) (by decide)) ((State.WarmedH.refl s).since 0) (Nat.zero_le _) hZ hown N251 Z252 od254 TS251 (Nat.le_of_ble_eq_true rfl) k253
      · have k255 : ∀ t, Steps p.tables e below (s₁.setTop (mkF m 325 #[.val (.int p1), .val (.int p2), .val (.int p3), .val (.int p4), .val (.int p5), .val (.int p6), .val (.int kd), .val (.int ps), .val (.int mu), .val (.int x0), .val (.int x1), .val (.int x2), .val (.int x3), .val (.int x4), .val .null, .val .null, .unset, .unset, .unset, .unset] [.null])) t → Steps p.tables e below (s₁.setTop (entryFrame m #[(.int p1), (.int p2), (.int p3), (.int p4), (.int p5), (.int p6)] maxLocals)) t := by
          intro t k
          refine k170 _ ?_
          show Steps p.tables e below (s₁.setTop (mkF m 114 #[.val (.int p1), .val (.int p2), .val (.int p3), .val (.int p4), .val (.int p5), .val (.int p6), .val (.int kd), .val (.int ps), .val (.int mu), .val (.int x0), .val (.int x1), .val (.int x2), .val (.int x3), .val (.int x4), .unset, .unset, .unset, .unset, .unset, .unset] [(.int (2 : Int32)), (.int kd)])) _
          refine XS.icmpYes X0.here hx rfl (pc0 := 114) (pc' := 202) rfl (hb hby at_114) rfl (feq hk2).2 (by decide) (by decide) ?_
          show Steps p.tables e below (s₁.setTop (mkF m 202 #[.val (.int p1), .val (.int p2), .val (.int p3), .val (.int p4), .val (.int p5), .val (.int p6), .val (.int kd), .val (.int ps), .val (.int mu), .val (.int x0), .val (.int x1), .val (.int x2), .val (.int x3), .val (.int x4), .unset, .unset, .unset, .unset, .unset, .unset] [])) _
          refine XS.aconstNull X0.here hx rfl (hb hby at_202) ?_
          show Steps p.tables e below (s₁.setTop (mkF m 203 #[.val (.int p1), .val (.int p2), .val (.int p3), .val (.int p4), .val (.int p5), .val (.int p6), .val (.int kd), .val (.int ps), .val (.int mu), .val (.int x0), .val (.int x1), .val (.int x2), .val (.int x3), .val (.int x4), .unset, .unset, .unset, .unset, .unset, .unset] [.null])) _
          refine XS.astore X0.here hx rfl (hb hby at_203) rfl rfl (l' := #[.val (.int p1), .val (.int p2), .val (.int p3), .val (.int p4), .val (.int p5), .val (.int p6), .val (.int kd), .val (.int ps), .val (.int mu), .val (.int x0), .val (.int x1), .val (.int x2), .val (.int x3), .val (.int x4), .val .null, .unset, .unset, .unset, .unset, .unset]) rfl ?_
          show Steps p.tables e below (s₁.setTop (mkF m 205 #[.val (.int p1), .val (.int p2), .val (.int p3), .val (.int p4), .val (.int p5), .val (.int p6), .val (.int kd), .val (.int ps), .val (.int mu), .val (.int x0), .val (.int x1), .val (.int x2), .val (.int x3), .val (.int x4), .val .null, .unset, .unset, .unset, .unset, .unset] [])) _
          refine XS.aconstNull X0.here hx rfl (hb hby at_205) ?_
          show Steps p.tables e below (s₁.setTop (mkF m 206 #[.val (.int p1), .val (.int p2), .val (.int p3), .val (.int p4), .val (.int p5), .val (.int p6), .val (.int kd), .val (.int ps), .val (.int mu), .val (.int x0), .val (.int x1), .val (.int x2), .val (.int x3), .val (.int x4), .val .null, .unset, .unset, .unset, .unset, .unset] [.null])) _
          refine XS.astore X0.here hx rfl (hb hby at_206) rfl rfl (l' := #[.val (.int p1), .val (.int p2), .val (.int p3), .val (.int p4), .val (.int p5), .val (.int p6), .val (.int kd), .val (.int ps), .val (.int mu), .val (.int x0), .val (.int x1), .val (.int x2), .val (.int x3), .val (.int x4), .val .null, .val .null, .unset, .unset, .unset, .unset]) rfl ?_
          show Steps p.tables e below (s₁.setTop (mkF m 208 #[.val (.int p1), .val (.int p2), .val (.int p3), .val (.int p4), .val (.int p5), .val (.int p6), .val (.int kd), .val (.int ps), .val (.int mu), .val (.int x0), .val (.int x1), .val (.int x2), .val (.int x3), .val (.int x4), .val .null, .val .null, .unset, .unset, .unset, .unset] [])) _
          refine XS.aload X0.here hx rfl (hb hby at_208) rfl rfl ?_
          show Steps p.tables e below (s₁.setTop (mkF m 210 #[.val (.int p1), .val (.int p2), .val (.int p3), .val (.int p4), .val (.int p5), .val (.int p6), .val (.int kd), .val (.int ps), .val (.int mu), .val (.int x0), .val (.int x1), .val (.int x2), .val (.int x3), .val (.int x4), .val .null, .val .null, .unset, .unset, .unset, .unset] [.null])) _
          refine XS.ifnullYes X0.here hx rfl (pc0 := 210) (pc' := 323) rfl (hb hby at_210) rfl (by decide) (by decide) ?_
          show Steps p.tables e below (s₁.setTop (mkF m 323 #[.val (.int p1), .val (.int p2), .val (.int p3), .val (.int p4), .val (.int p5), .val (.int p6), .val (.int kd), .val (.int ps), .val (.int mu), .val (.int x0), .val (.int x1), .val (.int x2), .val (.int x3), .val (.int x4), .val .null, .val .null, .unset, .unset, .unset, .unset] [])) _
          refine XS.aload X0.here hx rfl (hb hby at_323) rfl rfl ?_
          show Steps p.tables e below (s₁.setTop (mkF m 325 #[.val (.int p1), .val (.int p2), .val (.int p3), .val (.int p4), .val (.int p5), .val (.int p6), .val (.int kd), .val (.int ps), .val (.int mu), .val (.int x0), .val (.int x1), .val (.int x2), .val (.int x3), .val (.int x4), .val .null, .val .null, .unset, .unset, .unset, .unset] [.null])) _
          exact k
        obtain ⟨_, _, ⟨T256, L256, ck256, nk256⟩, -, X256, ⟨Lc256, hQ256, l256, y256, z256⟩, st256⟩ := Jvm.LawKit.callS X0 hx (y := (⟨"com/example/nogood/nogood/problem/InstanceFormat", "named", "(Ljava/lang/String;)Lcom/example/nogood/nogood/problem/InstanceFormat;"⟩ : MethodName)) hown (mvT hZ (hw _ (List.mem_of_getElem? (i := 37) rfl))) (mvT hZ (hw _ (List.mem_of_getElem? (i := 38) rfl))) (mvT hZ (hw _ (List.mem_of_getElem? (i := 39) rfl))) (mvT hZ (hw _ (List.mem_of_getElem? (i := 40) rfl))) (by decide) (backOf (W := 0) (rmNamN l Z a0 hw [] va kv aD aI kD kI cs h0 n0 Z0 S_V VV EV XO FD FI TD TI S1 hcs) hZ (hw _ (List.mem_of_getElem? (i := 40) rfl)) (hw _ (List.mem_of_getElem? (i := 39) rfl)) (by decide) (by decide)) (g := (mkF m 325 #[.val (.int p1), .val (.int p2), .val (.int p3), .val (.int p4), .val (.int p5), .val (.int p6), .val (.int kd), .val (.int ps), .val (.int mu), .val (.int x0), .val (.int x1), .val (.int x2), .val (.int x3), .val (.int x4), .val .null, .val .null, .unset, .unset, .unset, .unset] [.null])) rfl (by rw [hml]; rfl) (argsL := [.null]) (rest := []) (lenOf pd_6 rfl) rfl (by show 2 * 0 + _ ≤ _; exact Nat.le_of_eq rfl) (hb hby at_325) (fun _ _ => ⟨rfl, e0, (by decide : 0 + 1 ≤ _), (by decide : 0 + 2 ≤ _)⟩)
        dsimp only [Pt.U, Pt.locs, Pt.cells, Pt.slots] at X256 l256 y256 z256 st256 hQ256
        subst l256 y256 z256
        obtain ⟨rfl, N256q, K256⟩ := hQ256
        have N256 := Fr.app N0 N256q
        have k256 : ∀ t, Steps p.tables e below (T256.setTop (mkF m 328 #[.val (.int p1), .val (.int p2), .val (.int p3), .val (.int p4), .val (.int p5), .val (.int p6), .val (.int kd), .val (.int ps), .val (.int mu), .val (.int x0), .val (.int x1), .val (.int x2), .val (.int x3), .val (.int x4), .val .null, .val .null, .unset, .unset, .unset, .unset] [.null])) t → Steps p.tables e below (s₁.setTop (entryFrame m #[(.int p1), (.int p2), (.int p3), (.int p4), (.int p5), (.int p6)] maxLocals)) t := fun t k => k255 t (st256 _ k)
        have Z257 : n0 ≤ T256.heap.size := Nat.le_trans Z0 K256.1
        have k258 : ∀ t, Steps p.tables e below (T256.setTop (mkF m 338 #[.val (.int p1), .val (.int p2), .val (.int p3), .val (.int p4), .val (.int p5), .val (.int p6), .val (.int kd), .val (.int ps), .val (.int mu), .val (.int x0), .val (.int x1), .val (.int x2), .val (.int x3), .val (.int x4), .val .null, .val .null, .unset, .unset, .unset, .unset] [(.int (1 : Int32))])) t → Steps p.tables e below (s₁.setTop (entryFrame m #[(.int p1), (.int p2), (.int p3), (.int p4), (.int p5), (.int p6)] maxLocals)) t := by
          intro t k
          refine k256 _ ?_
          show Steps p.tables e below (T256.setTop (mkF m 328 #[.val (.int p1), .val (.int p2), .val (.int p3), .val (.int p4), .val (.int p5), .val (.int p6), .val (.int kd), .val (.int ps), .val (.int mu), .val (.int x0), .val (.int x1), .val (.int x2), .val (.int x3), .val (.int x4), .val .null, .val .null, .unset, .unset, .unset, .unset] [.null])) _
          refine XS.aload X256.here hx rfl (hb hby at_328) rfl rfl ?_
          show Steps p.tables e below (T256.setTop (mkF m 330 #[.val (.int p1), .val (.int p2), .val (.int p3), .val (.int p4), .val (.int p5), .val (.int p6), .val (.int kd), .val (.int ps), .val (.int mu), .val (.int x0), .val (.int x1), .val (.int x2), .val (.int x3), .val (.int x4), .val .null, .val .null, .unset, .unset, .unset, .unset] [.null, .null])) _
          refine Jvm.RoadKit.acmp (g := (mkF m 330 #[.val (.int p1), .val (.int p2), .val (.int p3), .val (.int p4), .val (.int p5), .val (.int p6), .val (.int kd), .val (.int ps), .val (.int mu), .val (.int x0), .val (.int x1), .val (.int x2), .val (.int x3), .val (.int x4), .val .null, .val .null, .unset, .unset, .unset, .unset] [.null, .null])) X256 hx rfl rfl rfl (pc0 := 330) (pc' := 333) (same := true) rfl (hb hby at_330) rfl (decide_eq_true rfl) (by decide) (by decide) ?_
          show Steps p.tables e below (T256.setTop (mkF m 333 #[.val (.int p1), .val (.int p2), .val (.int p3), .val (.int p4), .val (.int p5), .val (.int p6), .val (.int kd), .val (.int ps), .val (.int mu), .val (.int x0), .val (.int x1), .val (.int x2), .val (.int x3), .val (.int x4), .val .null, .val .null, .unset, .unset, .unset, .unset] [])) _
          refine XS.iconst X256.here hx rfl (hb hby at_333) ?_
          show Steps p.tables e below (T256.setTop (mkF m 334 #[.val (.int p1), .val (.int p2), .val (.int p3), .val (.int p4), .val (.int p5), .val (.int p6), .val (.int kd), .val (.int ps), .val (.int mu), .val (.int x0), .val (.int x1), .val (.int x2), .val (.int x3), .val (.int x4), .val .null, .val .null, .unset, .unset, .unset, .unset] [(.int (1 : Int32))])) _
          refine XS.goto X256.here hx rfl (pc0 := 334) (pc' := 338) rfl (hb hby at_334) (by decide) (by decide) ?_
          show Steps p.tables e below (T256.setTop (mkF m 338 #[.val (.int p1), .val (.int p2), .val (.int p3), .val (.int p4), .val (.int p5), .val (.int p6), .val (.int kd), .val (.int ps), .val (.int mu), .val (.int x0), .val (.int x1), .val (.int x2), .val (.int x3), .val (.int x4), .val .null, .val .null, .unset, .unset, .unset, .unset] [(.int (1 : Int32))])) _
          exact k
        obtain ⟨fs, hr, hrun, hended, hWe⟩ := Stand.leaveW (s := s) (vm₁ := s.vm) X256 (n := 0) ((State.WarmedH.refl s).since 0) (Nat.zero_le _) (v := some (.int (1 : Int32))) (fun h => by rw [Bd.returns] at h; cases h)
        refine hG ⟨_, _, k258 _ ?_, hrun, hended, _, _, rfl, ?_, hWe.1, hWe.2.1, hWe.2.2.1, hWe.2.2.2.mono (Nat.le_of_ble_eq_true rfl) (Nat.le_of_ble_eq_true rfl)⟩
        · exact retN X256 hx (t := .boolean) Bd.returns (by simp) (hb hby at_338) hr
        · show Q0 Z p1 p2 p3 p4 p5 p6 va kv aD aI kD kI cs vF h0 n0 _ T256.heap _
          skip
          exact ⟨rfl, N256⟩
set_option maxRecDepth 65536 in
set_option maxHeartbeats 40000000 in
theorem comes_1 {Post : Tables → Env → Array Value → State → Outcome → State → Prop} (hpost : ∀ tb e args s v u, (limb_1_1.after args s (.returned v) u = true ∧ limb_1_2.after args s (.returned v) u = true ∧ True) → ReturnedEndW s (.returned v) u (Jvm.fieldLocs frame_1_writes args s ++ Jvm.arrayLocs frame_1_arrays args s ++ Jvm.staticLocs frame_1_statics s) 24 1152 → Post tb e args s (.returned v) u) :
    ArmFor flags0 classFile x code maxLocals ret World_1 tables_1 room_1 Calls_1 rest_1 Pre_1 Post := by
  intro l hfl _ _ p e ha hc hk s m args below hf hA hF happ hP
  obtain ⟨hcalls, hrest, hpre⟩ := hP
  obtain ⟨-, -, -, hnamed, -, -, -, hat⟩ := (Spec.applies_iff hf).mp happ
  obtain ⟨hg, hn⟩ := and_e (Cond.before_iff.mp (show (Jvm.Cond.and given_1 narrow_1).before args s = true from hpre))
  obtain ⟨hcnt, hr0⟩ := and_e hg
  obtain ⟨hi0, hr1⟩ := and_e hr0
  obtain ⟨hi1, hr2⟩ := and_e hr1
  obtain ⟨hi2, hr3⟩ := and_e hr2
  obtain ⟨hi3, hr4⟩ := and_e hr3
  obtain ⟨hi4, hr5⟩ := and_e hr4
  have hi5 := hr5
  obtain ⟨w0, w1, w2, w3, w4, w5, rfl⟩ : ∃ w0 w1 w2 w3 w4 w5 : Value, args = #[w0, w1, w2, w3, w4, w5] := by
    have hs : args.size = 6 := by simpa [Cond.value, given_1] using hcnt
    obtain ⟨L⟩ := args
    match L, hs with
    | [w0, w1, w2, w3, w4, w5], _ => exact ⟨w0, w1, w2, w3, w4, w5, rfl⟩
  have hw := fun d (hd : d ∈ tables_1) => atoms_spec (ws := Jvm.Cond.code x code maxLocals ret :: tables_1) hat d (List.mem_cons_of_mem _ hd)
  have hfit : Fit s := fun {y c} hc i hi => by
    obtain ⟨ha, rfl⟩ := Array.getElem?_eq_some_iff.mp hc
    have q := List.all_eq_true.mp ((Array.all_eq_true_iff_forall_mem.mp hF) _ (Array.getElem_mem ha)) i (List.mem_range.mpr hi)
    simpa [Array.getElem?_eq_getElem hi] using q
  obtain ⟨hsets, hown0⟩ := atoms_of _ (rest_1_c_eq ▸ (show rest_1_c.before _ s = true from hrest))
  obtain ⟨i0, ei0⟩ := is_v hi0
  obtain rfl : w0 = (.int i0) := Option.some.inj ei0
  obtain ⟨i1, ei1⟩ := is_v hi1
  obtain rfl : w1 = (.int i1) := Option.some.inj ei1
  obtain ⟨i2, ei2⟩ := is_v hi2
  obtain rfl : w2 = (.int i2) := Option.some.inj ei2
  obtain ⟨i3, ei3⟩ := is_v hi3
  obtain rfl : w3 = (.int i3) := Option.some.inj ei3
  obtain ⟨i4, ei4⟩ := is_v hi4
  obtain rfl : w4 = (.int i4) := Option.some.inj ei4
  obtain ⟨i5, ei5⟩ := is_v hi5
  obtain rfl : w5 = (.int i5) := Option.some.inj ei5
  have n5 := not_v (Cond.before_iff.mp (hsets _ (List.mem_of_getElem? (i := 2) rfl)))
  obtain ⟨cs, ecs⟩ := is_v (Cond.before_iff.mp (hsets _ (List.mem_of_getElem? (i := 1) rfl)))
  have S1 : Sta s s.heap "java/lang/String" "COMPACT_STRINGS" "Z" (.int cs) := Sta.start ecs (Or.inl (hsets _ (List.mem_of_getElem? (i := 0) rfl)))
  have hcs : ¬ (cs = (0 : Int32)) := gotF (Cond.eq_ints ecs (Term.int_eval (0))) n5
  obtain ⟨vF, eF, rF⟩ := isR_v (Cond.before_iff.mp (hsets _ (List.mem_of_getElem? (i := 8) rfl)))
  have S2 : Sta s s.heap "jdk/internal/util/Preconditions" "SIOOBE_FORMATTER" "Ljava/util/function/BiFunction;" vF := Sta.start eF (Or.inl (hsets _ (List.mem_of_getElem? (i := 7) rfl)))
  have hcw : Jvm.Lit.compactW.before _ s = true := hsets _ (List.mem_of_getElem? (i := 2) rfl)
  obtain ⟨n_0, hn_1⟩ := and_e hn
  obtain ⟨n_1, hn_2⟩ := and_e hn_1
  obtain ⟨n_2, hn_3⟩ := and_e hn_2
  obtain ⟨n_3, hn_4⟩ := and_e hn_3
  obtain ⟨n_4, hn_5⟩ := and_e hn_4
  obtain ⟨n_5, hn_6⟩ := and_e hn_5
  obtain ⟨n_6, hn_7⟩ := and_e hn_6
  obtain ⟨n_7, hn_8⟩ := and_e hn_7
  obtain ⟨n_8, hn_9⟩ := and_e hn_8
  obtain ⟨n_9, hn_10⟩ := and_e hn_9
  obtain ⟨n_10, hn_11⟩ := and_e hn_10
  obtain ⟨n_11, hn_12⟩ := and_e hn_11
  obtain ⟨n_12, hn_13⟩ := and_e hn_12
  obtain ⟨n_13, hn_14⟩ := and_e hn_13
  obtain ⟨n_14, hn_15⟩ := and_e hn_14
  obtain ⟨n_15, hn_16⟩ := and_e hn_15
  obtain ⟨n_16, hn_17⟩ := and_e hn_16
  obtain ⟨n_17, hn_18⟩ := and_e hn_17
  obtain ⟨n_18, hn_19⟩ := and_e hn_18
  obtain ⟨n_19, hn_20⟩ := and_e hn_19
  obtain ⟨n_20, hn_21⟩ := and_e hn_20
  obtain ⟨n_21, hn_22⟩ := and_e hn_21
  have n_22 := hn_22
  obtain ⟨aD, evD⟩ := exa_v n_3
  obtain ⟨aI, evI⟩ := exa_v n_5
  obtain ⟨va, evV⟩ := arr_v n_0
  obtain ⟨clV, AV⟩ := Arr.start evV n_0
  obtain ⟨qV1, qV2⟩ := own_len evV AV n_2
  have HV : HasL clV 0 [.ref aD, .ref aI] := ⟨(elem_in (own_eqref n_4 evD) evV rfl AV.1).2, (elem_in (own_eqref n_6 evI) evV rfl AV.1).2, trivial⟩
  have VV := Arv.start (dv := .null) hfit AV qV1 qV2 (by decide) rfl HV
  have EV := Exa.start evV n_1
  obtain ⟨kD, ekD, TD⟩ := own_kw hfit n_7 n_8 n_9 n_10 n_15 n_16 n_17 n_18 (by decide) (by decide)
  obtain ⟨kI, ekI, TI⟩ := own_kw hfit n_11 n_12 n_13 n_14 n_19 n_20 n_21 n_22 (by decide) (by decide)
  have FD := own_fieldR evD ekD
  have FI := own_fieldR evI ekI
  have S_V : Sta s s.heap "com/example/nogood/nogood/problem/InstanceFormat" "$VALUES" "[Lcom/example/nogood/nogood/problem/InstanceFormat;" (.ref va) := Sta.start evV (Or.inr ⟨(hw _ (List.mem_of_getElem? (i := 39) rfl)), (hw _ (List.mem_of_getElem? (i := 45) rfl))⟩)
  have S_D : Sta s s.heap "com/example/nogood/nogood/problem/InstanceFormat" "DCSP" "Lcom/example/nogood/nogood/problem/InstanceFormat;" (.ref aD) := Sta.start evD (Or.inr ⟨(hw _ (List.mem_of_getElem? (i := 39) rfl)), (hw _ (List.mem_of_getElem? (i := 53) rfl))⟩)
  have S_I : Sta s s.heap "com/example/nogood/nogood/problem/InstanceFormat" "DIMACS" "Lcom/example/nogood/nogood/problem/InstanceFormat;" (.ref aI) := Sta.start evI (Or.inr ⟨(hw _ (List.mem_of_getElem? (i := 39) rfl)), (hw _ (List.mem_of_getElem? (i := 54) rfl))⟩)
  have hheld : ∀ p ∈ own_EL, Jvm.Lit.constHeld s p.1 p.2 := (show ∀ p ∈ consts_1, Jvm.Lit.constHeld s p.1 p.2 from (show call_1_1 _ _ _ s ∧ True from hcalls).1)
  have hCH : CHv s own_EL s.vm s.heap := CHv.start (own_EW hw) hheld hcw (hw _ (List.mem_of_getElem? (i := 19) rfl)) (hw _ (List.mem_of_getElem? (i := 5) rfl))
  obtain ⟨n, o, h1, h2, h3, _, L, rfl, ⟨rfl, N⟩, hq⟩ := rm0 l s _ hw tables_1 i0 i1 i2 i3 i4 i5 va clV.cls aD aI kD kI cs vF s.heap s.heap.size (Nat.le_refl _) S_V VV EV (Old.start s) FD FI TD TI S1 hcs S2 rF S_D S_I p e ha hc hk s m _ below hf ((Spec.applies_iff_loose hf).mp happ).1 ⟨rfl, State.Warmed39.refl s, rfl, hCH⟩ trivial
  refine ⟨n, _, h1, h2, h3, hpost _ _ _ _ _ _ ⟨Cond.after_iff.mpr rfl, Cond.after_iff.mpr (eq_i res_at (Term.int_eval (1)) rfl), trivial⟩ ⟨hq.1, hq.2.1, hq.2.2.1, (hq.2.2.2.sift fun y hy => Or.inr (N y hy)).mono (by decide) (by decide)⟩⟩
theorem main_1_1 : Claimed_1_1 := comes_1 fun _ _ _ _ _ _ h hF => ⟨h.1, hF⟩
theorem main_1_2 : Claimed_1_2 := comes_1 fun _ _ _ _ _ _ h hF => ⟨h.2.1, hF⟩
end Jvm.Pilot.@@N@@
namespace Jvm.Pilot.@@N@@
open Jvm Jvm.ClassFile Sem Op Lib Jvm.Free Jvm.Stand Jvm.Pilot.@@N@@.Jvm.D
/-! MADE BY PROGRAM (witnessworld.py) out of the Statement's table words and the real class files: 22 classes; the members and pool entries that the words name. The judged class is class 1, her method 2. -/
namespace start1
open Jvm.ClassFile
def u (s : String) : CpInfo := .utf8 (stringToUtf16 s)
/-- a pool by its gaps: so many unusable entries, then the entry; so many at the end -/
def gap : Nat → List CpInfo → List CpInfo
  | 0, r => r
  | n + 1, r => .unusable :: gap n r
def poolList (es : List (Nat × CpInfo)) (last : Nat) : List CpInfo := es.foldr (fun e r => gap e.1 (e.2 :: r)) (gap last [])
def pool (es : List (Nat × CpInfo)) (last : Nat) : Array CpInfo := ⟨poolList es last⟩
def fileOf (pool : Array CpInfo) (this : Nat) (attrs : Array Attribute := #[]) (ms : Array MethodInfo := #[]) (fl : Nat := 33) (sup : Nat := 0) (ifs : Array Nat := #[]) (fds : Array FieldInfo := #[]) : ClassFile where
  minorVersion := 0
  majorVersion := 65
  constantPool := pool
  accessFlags := fl
  thisClass := this
  superClass := sup
  interfaces := ifs
  fields := fds
  methods := ms
  attributes := attrs
def plain (name : String) (sup : Option ClassId) : Class where
  name := name
  kind := .ordinary
  loader := none
  accessFlags := 33
  super := sup
  interfaces := #[]
  cf := none
  fields := #[]
  methods := #[]
  instanceTypes := #[]
  staticTypes := #[]
  resolved := #[]
  callSites := []
  init := .initialized
  statics := none
  mirror := none

def pool0 : Array CpInfo := pool [(5, u "<init>"), (0, u "()V"), (1, .class_ 10), (1, u "java/lang/Object"), (85, u "clone"), (0, u "()Ljava/lang/Object;")] 26

def k0c0 : Code := { maxStack := 0, maxLocals := 1, code := object_method_1_code, exceptionTable := #[], attributes := #[] }
def k0m0 : Method := { name := "<init>", desc := "()V", sig := { parameters := [], returnType := none }, accessFlags := 1, code := some k0c0 }
def k0m1 : Method := { name := "clone", desc := "()Ljava/lang/Object;", sig := { parameters := [], returnType := some (.object "java/lang/Object") }, accessFlags := 260, code := none }
/-- java/lang/Object -/
def k0 : Class := { plain "java/lang/Object" none with
  accessFlags := 33
  interfaces := #[]
  cf := some (fileOf pool0 8 #[] #[{ accessFlags := 1, nameIndex := 5, descriptorIndex := 6, attributes := #[] }, { accessFlags := 260, nameIndex := 96, descriptorIndex := 97, attributes := #[] }] 33 0 #[] #[])
  fields := #[]
  methods := #[k0m0, k0m1]
  instanceTypes := #[]
  staticTypes := #[]
  resolved := Array.replicate 124 none
  statics := none }

def pool1 : Array CpInfo := pool [(2, .class_ 4), (1, u "java/lang/Object"), (0, u "<init>"), (0, u "()V"), (0, .class_ 8), (0, u "java/lang/String"), (0, .methodref 7 10), (0, .nameAndType 5 11), (0, u "([C)V"), (0, .methodref 13 14), (0, .class_ 15), (0, .nameAndType 16 17), (0, u "com/example/nogood/nogood/problem/InstanceFormatNamedPinLaw"), (0, u "make"), (0, u "(ICCCCC)Ljava/lang/String;"), (0, .methodref 7 19), (0, .nameAndType 20 21), (0, u "length"), (0, u "()I"), (0, .methodref 7 23), (0, .nameAndType 24 25), (0, u "charAt"), (0, u "(I)C"), (0, .fieldref 27 28), (0, .class_ 29), (0, .nameAndType 30 31), (0, u "com/example/nogood/nogood/problem/InstanceFormat"), (0, u "DCSP"), (0, u "Lcom/example/nogood/nogood/problem/InstanceFormat;"), (0, .fieldref 27 33), (0, .nameAndType 34 31), (0, u "DIMACS"), (0, .methodref 27 36), (0, .nameAndType 37 38), (0, u "named"), (0, u "(Ljava/lang/String;)Lcom/example/nogood/nogood/problem/InstanceFormat;"), (3, u "law"), (0, u "(IIIIII)Z")] 4

def k1m0 : Method := { name := "<init>", desc := "()V", sig := { parameters := [], returnType := none }, accessFlags := 1, code := none }
def k1c1 : Code := { maxStack := 6, maxLocals := 6, code := method_2_code, exceptionTable := #[], attributes := #[] }
def k1m1 : Method := { name := "make", desc := "(ICCCCC)Ljava/lang/String;", sig := { parameters := [.int, .char, .char, .char, .char, .char], returnType := some (.object "java/lang/String") }, accessFlags := 10, code := some k1c1 }
def k1c2 : Code := { maxStack := 6, maxLocals := 20, code := code, exceptionTable := #[], attributes := #[] }
def k1m2 : Method := { name := "law", desc := "(IIIIII)Z", sig := { parameters := [.int, .int, .int, .int, .int, .int], returnType := some .boolean }, accessFlags := 9, code := some k1c2 }
/-- com/example/nogood/nogood/problem/InstanceFormatNamedPinLaw -/
def k1 : Class := { plain "com/example/nogood/nogood/problem/InstanceFormatNamedPinLaw" (some 0) with
  accessFlags := 49
  interfaces := #[]
  cf := some (fileOf pool1 13 #[] #[{ accessFlags := 1, nameIndex := 5, descriptorIndex := 6, attributes := #[] }, { accessFlags := 10, nameIndex := 16, descriptorIndex := 17, attributes := #[] }, { accessFlags := 9, nameIndex := 42, descriptorIndex := 43, attributes := #[] }] 49 2 #[] #[])
  fields := #[]
  methods := #[k1m0, k1m1, k1m2]
  instanceTypes := #[]
  staticTypes := #[]
  resolved := Array.replicate 48 none
  statics := none }

def pool2 : Array CpInfo := pool [(1, .class_ 2), (0, u "java/io/Serializable"), (0, .class_ 4), (0, u "java/lang/Object")] 2

/-- java/io/Serializable -/
def k2 : Class := { plain "java/io/Serializable" (some 0) with
  accessFlags := 1537
  interfaces := #[]
  cf := some (fileOf pool2 1 #[] #[] 1537 3 #[] #[])
  fields := #[]
  methods := #[]
  instanceTypes := #[]
  staticTypes := #[]
  resolved := Array.replicate 7 none
  statics := none }

def pool3 : Array CpInfo := pool [(1, .class_ 2), (0, u "java/lang/Comparable"), (0, .class_ 4), (0, u "java/lang/Object")] 7

/-- java/lang/Comparable -/
def k3 : Class := { plain "java/lang/Comparable" (some 0) with
  accessFlags := 1537
  interfaces := #[]
  cf := some (fileOf pool3 1 #[] #[] 1537 3 #[] #[])
  fields := #[]
  methods := #[]
  instanceTypes := #[]
  staticTypes := #[]
  resolved := Array.replicate 12 none
  statics := none }

def pool4 : Array CpInfo := pool [(2, .class_ 4), (1, u "java/lang/CharSequence"), (42, .class_ 48), (0, u "java/lang/CharSequence$1CodePointIterator"), (10, .class_ 60), (0, u "java/lang/CharSequence$1CharIterator"), (5, .class_ 67), (0, u "java/lang/Object")] 63

/-- java/lang/CharSequence -/
def k4 : Class := { plain "java/lang/CharSequence" (some 0) with
  accessFlags := 1537
  interfaces := #[]
  cf := some (fileOf pool4 2 #[.nestMembers #[47, 59]] #[] 1537 66 #[] #[])
  fields := #[]
  methods := #[]
  instanceTypes := #[]
  staticTypes := #[]
  resolved := Array.replicate 131 none
  statics := none }

def pool5 : Array CpInfo := pool [(1, .class_ 2), (0, u "java/lang/constant/Constable"), (0, .class_ 4), (0, u "java/lang/Object")] 6

/-- java/lang/constant/Constable -/
def k5 : Class := { plain "java/lang/constant/Constable" (some 0) with
  accessFlags := 1537
  interfaces := #[]
  cf := some (fileOf pool5 1 #[] #[] 1537 3 #[] #[])
  fields := #[]
  methods := #[]
  instanceTypes := #[]
  staticTypes := #[]
  resolved := Array.replicate 11 none
  statics := none }

def pool6 : Array CpInfo := pool [(1, .class_ 2), (0, u "java/lang/constant/ConstantDesc"), (0, .class_ 4), (0, u "java/lang/Object")] 32

/-- java/lang/constant/ConstantDesc -/
def k6 : Class := { plain "java/lang/constant/ConstantDesc" (some 0) with
  accessFlags := 1537
  interfaces := #[]
  cf := some (fileOf pool6 1 #[] #[] 1537 3 #[] #[])
  fields := #[]
  methods := #[]
  instanceTypes := #[]
  staticTypes := #[]
  resolved := Array.replicate 37 none
  statics := none }

def pool7 : Array CpInfo := pool [(1, .methodref 2 3), (0, .class_ 4), (0, .nameAndType 5 6), (0, u "java/lang/Object"), (0, u "<init>"), (0, u "()V"), (0, .string 8), (0, u ""), (0, .fieldref 10 11), (0, .class_ 12), (0, .nameAndType 13 14), (0, u "java/lang/String"), (0, u "value"), (0, u "[B"), (0, .fieldref 10 16), (0, .nameAndType 17 18), (0, u "coder"), (0, u "B"), (2, u "hash"), (0, u "I"), (2, u "hashIsZero"), (0, u "Z"), (0, .methodref 10 28), (0, .nameAndType 5 29), (0, u "([CIILjava/lang/Void;)V"), (8, .fieldref 10 39), (0, .nameAndType 40 26), (0, u "COMPACT_STRINGS"), (1, .class_ 44), (1, u "java/lang/StringUTF16"), (0, u "compress"), (1, .methodref 42 48), (0, .nameAndType 49 50), (0, u "coderFromArrayLen"), (0, u "([BI)B"), (56, .class_ 109), (1, u "java/lang/StringLatin1"), (32, u "()Z"), (34, .methodref 42 178), (0, .nameAndType 45 179), (0, u "([CII)[B"), (154, u "()I"), (0, .methodref 10 336), (0, .nameAndType 17 337), (0, u "()B"), (25, u "([BI)C"), (27, u "(II)V"), (35, u "(I)C"), (64, .methodref 10 493), (0, .nameAndType 494 142), (0, u "isLatin1"), (0, .methodref 107 496), (0, .nameAndType 497 363), (0, u "charAt"), (3, u "checkIndex"), (5, u "length"), (33, .methodref 107 542), (0, .nameAndType 543 544), (0, u "equals"), (0, u "([B[B)Z"), (28, u "(Ljava/lang/Object;)Z"), (1, .class_ 576), (0, u "java/lang/CharSequence"), (22, u "CASE_INSENSITIVE_ORDER"), (0, u "Ljava/util/Comparator;"), (409, u "([C)V"), (42, .fieldref 1054 1055), (0, .class_ 1056), (0, .nameAndType 1057 1058), (0, u "jdk/internal/util/Preconditions"), (0, u "SIOOBE_FORMATTER"), (0, u "Ljava/util/function/BiFunction;"), (0, .methodref 1054 1060), (0, .nameAndType 501 1061), (0, u "(IILjava/util/function/BiFunction;)I"), (39, u "serialPersistentFields"), (0, u "[Ljava/io/ObjectStreamField;"), (0, .class_ 1104), (0, u "java/lang/String$CaseInsensitiveComparator"), (1, .class_ 1107), (0, u "java/io/Serializable"), (0, .class_ 1109), (0, u "java/lang/Comparable"), (0, .class_ 1111), (0, u "java/lang/constant/Constable"), (0, .class_ 1113), (0, u "java/lang/constant/ConstantDesc"), (2, u "serialVersionUID"), (0, u "J"), (3, u "REPL"), (0, u "C"), (2, u "LATIN1"), (1, u "UTF16")] 323

def k7m0 : Method := { name := "<init>", desc := "()V", sig := { parameters := [], returnType := none }, accessFlags := 1, code := none }
def k7c1 : Code := { maxStack := 5, maxLocals := 2, code := jdk_42_method_3_code, exceptionTable := #[], attributes := #[] }
def k7m1 : Method := { name := "<init>", desc := "([C)V", sig := { parameters := [(.array .char)], returnType := none }, accessFlags := 1, code := some k7c1 }
def k7c2 : Code := { maxStack := 2, maxLocals := 1, code := jdk_42_method_54_code, exceptionTable := #[], attributes := #[] }
def k7m2 : Method := { name := "length", desc := "()I", sig := { parameters := [], returnType := some .int }, accessFlags := 1, code := some k7c2 }
def k7c3 : Code := { maxStack := 2, maxLocals := 2, code := jdk_42_method_56_code, exceptionTable := #[], attributes := #[] }
def k7m3 : Method := { name := "charAt", desc := "(I)C", sig := { parameters := [.int], returnType := some .char }, accessFlags := 1, code := some k7c3 }
def k7c4 : Code := { maxStack := 2, maxLocals := 3, code := jdk_42_method_66_code, exceptionTable := #[], attributes := #[] }
def k7m4 : Method := { name := "equals", desc := "(Ljava/lang/Object;)Z", sig := { parameters := [(.object "java/lang/Object")], returnType := some .boolean }, accessFlags := 1, code := some k7c4 }
def k7c5 : Code := { maxStack := 4, maxLocals := 6, code := jdk_42_method_149_code, exceptionTable := #[], attributes := #[] }
def k7m5 : Method := { name := "<init>", desc := "([CIILjava/lang/Void;)V", sig := { parameters := [(.array .char), .int, .int, (.object "java/lang/Void")], returnType := none }, accessFlags := 2, code := some k7c5 }
def k7c6 : Code := { maxStack := 1, maxLocals := 1, code := jdk_42_method_152_code, exceptionTable := #[], attributes := #[] }
def k7m6 : Method := { name := "coder", desc := "()B", sig := { parameters := [], returnType := some .byte }, accessFlags := 0, code := some k7c6 }
def k7c7 : Code := { maxStack := 1, maxLocals := 1, code := jdk_42_method_154_code, exceptionTable := #[], attributes := #[] }
def k7m7 : Method := { name := "isLatin1", desc := "()Z", sig := { parameters := [], returnType := some .boolean }, accessFlags := 0, code := some k7c7 }
def k7c8 : Code := { maxStack := 3, maxLocals := 2, code := jdk_42_method_155_code, exceptionTable := #[], attributes := #[] }
def k7m8 : Method := { name := "checkIndex", desc := "(II)V", sig := { parameters := [.int, .int], returnType := none }, accessFlags := 8, code := some k7c8 }
/-- java/lang/String -/
def k7 : Class := { plain "java/lang/String" (some 0) with
  accessFlags := 49
  interfaces := #[2, 3, 4, 5, 6]
  cf := some (fileOf pool7 10 #[.nestMembers #[1103]] #[{ accessFlags := 1, nameIndex := 5, descriptorIndex := 6, attributes := #[] }, { accessFlags := 1, nameIndex := 5, descriptorIndex := 1010, attributes := #[] }, { accessFlags := 1, nameIndex := 507, descriptorIndex := 334, attributes := #[] }, { accessFlags := 1, nameIndex := 497, descriptorIndex := 427, attributes := #[] }, { accessFlags := 1, nameIndex := 543, descriptorIndex := 573, attributes := #[] }, { accessFlags := 2, nameIndex := 5, descriptorIndex := 29, attributes := #[] }, { accessFlags := 0, nameIndex := 17, descriptorIndex := 337, attributes := #[] }, { accessFlags := 0, nameIndex := 494, descriptorIndex := 142, attributes := #[] }, { accessFlags := 8, nameIndex := 501, descriptorIndex := 391, attributes := #[] }] 49 2 #[1106, 1108, 575, 1110, 1112] #[{ accessFlags := 18, nameIndex := 13, descriptorIndex := 14, attributes := #[] }, { accessFlags := 18, nameIndex := 17, descriptorIndex := 18, attributes := #[] }, { accessFlags := 2, nameIndex := 21, descriptorIndex := 22, attributes := #[] }, { accessFlags := 2, nameIndex := 25, descriptorIndex := 26, attributes := #[] }, { accessFlags := 26, nameIndex := 1116, descriptorIndex := 1117, attributes := #[] }, { accessFlags := 24, nameIndex := 40, descriptorIndex := 26, attributes := #[] }, { accessFlags := 26, nameIndex := 1101, descriptorIndex := 1102, attributes := #[] }, { accessFlags := 26, nameIndex := 1121, descriptorIndex := 1122, attributes := #[] }, { accessFlags := 25, nameIndex := 599, descriptorIndex := 600, attributes := #[] }, { accessFlags := 24, nameIndex := 1125, descriptorIndex := 18, attributes := #[] }, { accessFlags := 24, nameIndex := 1127, descriptorIndex := 18, attributes := #[] }])
  fields := #[{ name := "value", type := (.array .byte), accessFlags := 18, slot := 0, constantValue := 0 }, { name := "coder", type := .byte, accessFlags := 18, slot := 1, constantValue := 0 }, { name := "hash", type := .int, accessFlags := 2, slot := 2, constantValue := 0 }, { name := "hashIsZero", type := .boolean, accessFlags := 2, slot := 3, constantValue := 0 }, { name := "serialVersionUID", type := .long, accessFlags := 26, slot := 0, constantValue := 0 }, { name := "COMPACT_STRINGS", type := .boolean, accessFlags := 24, slot := 1, constantValue := 0 }, { name := "serialPersistentFields", type := (.array (.object "java/io/ObjectStreamField")), accessFlags := 26, slot := 2, constantValue := 0 }, { name := "REPL", type := .char, accessFlags := 26, slot := 3, constantValue := 0 }, { name := "CASE_INSENSITIVE_ORDER", type := (.object "java/util/Comparator"), accessFlags := 25, slot := 4, constantValue := 0 }, { name := "LATIN1", type := .byte, accessFlags := 24, slot := 5, constantValue := 0 }, { name := "UTF16", type := .byte, accessFlags := 24, slot := 6, constantValue := 0 }]
  methods := #[k7m0, k7m1, k7m2, k7m3, k7m4, k7m5, k7m6, k7m7, k7m8]
  instanceTypes := #[(.array .byte), .byte, .int, .boolean]
  staticTypes := #[.long, .boolean, (.array (.object "java/io/ObjectStreamField")), .char, (.object "java/util/Comparator"), .byte, .byte]
  resolved := Array.replicate 1451 none
  statics := some 0 }

def pool8 : Array CpInfo := pool [(2, .class_ 4), (1, u "java/lang/Enum"), (0, u "name"), (0, u "Ljava/lang/String;"), (2, u "ordinal"), (0, u "I"), (1, .class_ 14), (1, u "java/lang/Object"), (4, u "hash"), (86, .class_ 108), (1, u "java/lang/Enum$EnumDesc"), (2, .class_ 112), (0, u "java/lang/constant/Constable"), (0, .class_ 114), (0, u "java/lang/Comparable"), (0, .class_ 116), (0, u "java/io/Serializable")] 87

/-- java/lang/Enum -/
def k8 : Class := { plain "java/lang/Enum" (some 0) with
  accessFlags := 1057
  interfaces := #[5, 3, 2]
  cf := some (fileOf pool8 2 #[.nestMembers #[106]] #[] 1057 12 #[111, 113, 115] #[{ accessFlags := 18, nameIndex := 5, descriptorIndex := 6, attributes := #[] }, { accessFlags := 18, nameIndex := 9, descriptorIndex := 10, attributes := #[] }, { accessFlags := 2, nameIndex := 19, descriptorIndex := 10, attributes := #[] }])
  fields := #[{ name := "name", type := (.object "java/lang/String"), accessFlags := 18, slot := 0, constantValue := 0 }, { name := "ordinal", type := .int, accessFlags := 18, slot := 1, constantValue := 0 }, { name := "hash", type := .int, accessFlags := 2, slot := 2, constantValue := 0 }]
  methods := #[]
  instanceTypes := #[(.object "java/lang/String"), .int, .int]
  staticTypes := #[]
  resolved := Array.replicate 204 none
  statics := none }

def pool9 : Array CpInfo := pool [(1, .class_ 2), (0, u "com/example/nogood/nogood/problem/InstanceFormat"), (2, u "DCSP"), (0, u "Lcom/example/nogood/nogood/problem/InstanceFormat;"), (2, u "DIMACS"), (0, .fieldref 1 11), (0, .nameAndType 12 13), (0, u "$VALUES"), (0, u "[Lcom/example/nogood/nogood/problem/InstanceFormat;"), (0, .methodref 15 16), (0, .class_ 13), (0, .nameAndType 17 18), (0, u "clone"), (0, u "()Ljava/lang/Object;"), (1, .class_ 22), (1, u "java/lang/Enum"), (6, .fieldref 1 30), (0, .nameAndType 31 32), (0, u "keyword"), (0, u "Ljava/lang/String;"), (6, u "header"), (2, u "variable"), (2, u "variables"), (2, u "counted"), (0, .methodref 1 50), (0, .nameAndType 51 52), (0, u "values"), (0, u "()[Lcom/example/nogood/nogood/problem/InstanceFormat;"), (0, .methodref 54 55), (0, .class_ 56), (0, .nameAndType 57 58), (0, u "java/lang/String"), (0, u "equals"), (0, u "(Ljava/lang/Object;)Z"), (28, u "(Ljava/lang/String;)Lcom/example/nogood/nogood/problem/InstanceFormat;"), (3, u "named")] 22

def k9c0 : Code := { maxStack := 1, maxLocals := 0, code := prog_29_method_1_code, exceptionTable := #[], attributes := #[] }
def k9m0 : Method := { name := "values", desc := "()[Lcom/example/nogood/nogood/problem/InstanceFormat;", sig := { parameters := [], returnType := some (.array (.object "com/example/nogood/nogood/problem/InstanceFormat")) }, accessFlags := 9, code := some k9c0 }
def k9c1 : Code := { maxStack := 2, maxLocals := 5, code := prog_29_method_4_code, exceptionTable := #[], attributes := #[] }
def k9m1 : Method := { name := "named", desc := "(Ljava/lang/String;)Lcom/example/nogood/nogood/problem/InstanceFormat;", sig := { parameters := [(.object "java/lang/String")], returnType := some (.object "com/example/nogood/nogood/problem/InstanceFormat") }, accessFlags := 8, code := some k9c1 }
/-- com/example/nogood/nogood/problem/InstanceFormat -/
def k9 : Class := { plain "com/example/nogood/nogood/problem/InstanceFormat" (some 8) with
  accessFlags := 16433
  interfaces := #[]
  cf := some (fileOf pool9 1 #[] #[{ accessFlags := 9, nameIndex := 51, descriptorIndex := 52, attributes := #[] }, { accessFlags := 8, nameIndex := 91, descriptorIndex := 87, attributes := #[] }] 16433 20 #[] #[{ accessFlags := 16409, nameIndex := 5, descriptorIndex := 6, attributes := #[] }, { accessFlags := 16409, nameIndex := 9, descriptorIndex := 6, attributes := #[] }, { accessFlags := 18, nameIndex := 31, descriptorIndex := 32, attributes := #[] }, { accessFlags := 18, nameIndex := 39, descriptorIndex := 32, attributes := #[] }, { accessFlags := 18, nameIndex := 42, descriptorIndex := 32, attributes := #[] }, { accessFlags := 18, nameIndex := 45, descriptorIndex := 32, attributes := #[] }, { accessFlags := 18, nameIndex := 48, descriptorIndex := 32, attributes := #[] }, { accessFlags := 4122, nameIndex := 12, descriptorIndex := 13, attributes := #[] }])
  fields := #[{ name := "DCSP", type := (.object "com/example/nogood/nogood/problem/InstanceFormat"), accessFlags := 16409, slot := 0, constantValue := 0 }, { name := "DIMACS", type := (.object "com/example/nogood/nogood/problem/InstanceFormat"), accessFlags := 16409, slot := 1, constantValue := 0 }, { name := "keyword", type := (.object "java/lang/String"), accessFlags := 18, slot := 3, constantValue := 0 }, { name := "header", type := (.object "java/lang/String"), accessFlags := 18, slot := 4, constantValue := 0 }, { name := "variable", type := (.object "java/lang/String"), accessFlags := 18, slot := 5, constantValue := 0 }, { name := "variables", type := (.object "java/lang/String"), accessFlags := 18, slot := 6, constantValue := 0 }, { name := "counted", type := (.object "java/lang/String"), accessFlags := 18, slot := 7, constantValue := 0 }, { name := "$VALUES", type := (.array (.object "com/example/nogood/nogood/problem/InstanceFormat")), accessFlags := 4122, slot := 2, constantValue := 0 }]
  methods := #[k9m0, k9m1]
  instanceTypes := #[(.object "java/lang/String"), .int, .int, (.object "java/lang/String"), (.object "java/lang/String"), (.object "java/lang/String"), (.object "java/lang/String"), (.object "java/lang/String")]
  staticTypes := #[(.object "com/example/nogood/nogood/problem/InstanceFormat"), (.object "com/example/nogood/nogood/problem/InstanceFormat"), (.array (.object "com/example/nogood/nogood/problem/InstanceFormat"))]
  resolved := Array.replicate 114 none
  statics := some 1 }

def pool10 : Array CpInfo := pool [(1, .class_ 2), (0, u "java/lang/Cloneable"), (0, .class_ 4), (0, u "java/lang/Object")] 2

/-- java/lang/Cloneable -/
def k10 : Class := { plain "java/lang/Cloneable" (some 0) with
  accessFlags := 1537
  interfaces := #[]
  cf := some (fileOf pool10 1 #[] #[] 1537 3 #[] #[])
  fields := #[]
  methods := #[]
  instanceTypes := #[]
  staticTypes := #[]
  resolved := Array.replicate 7 none
  statics := none }

def pool11 : Array CpInfo := pool [(1, .class_ 2), (0, u "java/lang/String"), (1, .class_ 6), (1, u "java/lang/Object"), (0, u "<init>"), (0, u "()V"), (0, .methodref 1 10), (0, .nameAndType 11 12), (0, u "checkIndex"), (0, u "(II)V"), (1, .class_ 16), (1, u "java/lang/StringLatin1"), (36, u "([BI)C"), (67, u "$assertionsDisabled"), (0, u "Z"), (98, .class_ 223), (1, u "java/lang/StringLatin1$LinesSpliterator"), (28, u "charAt"), (28, u "equals"), (0, u "([B[B)Z"), (107, .class_ 391), (0, u "java/lang/StringLatin1$CharsSpliterator")] 3

def k11m0 : Method := { name := "<init>", desc := "()V", sig := { parameters := [], returnType := none }, accessFlags := 0, code := none }
def k11c1 : Code := { maxStack := 2, maxLocals := 2, code := jdk_43_method_2_code, exceptionTable := #[], attributes := #[] }
def k11m1 : Method := { name := "charAt", desc := "([BI)C", sig := { parameters := [(.array .byte), .int], returnType := some .char }, accessFlags := 9, code := some k11c1 }
def k11c2 : Code := { maxStack := 3, maxLocals := 3, code := jdk_43_method_13_code, exceptionTable := #[], attributes := #[] }
def k11m2 : Method := { name := "equals", desc := "([B[B)Z", sig := { parameters := [(.array .byte), (.array .byte)], returnType := some .boolean }, accessFlags := 9, code := some k11c2 }
/-- java/lang/StringLatin1 -/
def k11 : Class := { plain "java/lang/StringLatin1" (some 0) with
  accessFlags := 48
  interfaces := #[]
  cf := some (fileOf pool11 14 #[.nestMembers #[390, 221]] #[{ accessFlags := 0, nameIndex := 7, descriptorIndex := 8, attributes := #[] }, { accessFlags := 9, nameIndex := 252, descriptorIndex := 53, attributes := #[] }, { accessFlags := 9, nameIndex := 281, descriptorIndex := 282, attributes := #[] }] 48 4 #[] #[{ accessFlags := 4120, nameIndex := 121, descriptorIndex := 122, attributes := #[] }])
  fields := #[{ name := "$assertionsDisabled", type := .boolean, accessFlags := 4120, slot := 0, constantValue := 0 }]
  methods := #[k11m0, k11m1, k11m2]
  instanceTypes := #[]
  staticTypes := #[.boolean]
  resolved := Array.replicate 395 none
  statics := none }

def pool12 : Array CpInfo := pool [(6, .class_ 8), (1, u "java/lang/Object"), (0, u "<init>"), (0, u "()V"), (1, .class_ 14), (1, u "java/lang/StringUTF16"), (31, u "$assertionsDisabled"), (0, u "Z"), (13, u "HI_BYTE_SHIFT"), (0, u "I"), (2, u "LO_BYTE_SHIFT"), (49, .methodref 12 116), (0, .nameAndType 117 118), (0, u "compress"), (0, u "([CI[BII)I"), (3, u "([CII)[B"), (138, u "coderFromArrayLen"), (0, u "([BI)B"), (106, .class_ 371), (1, u "java/lang/StringUTF16$LinesSpliterator"), (58, u "MAX_LENGTH"), (196, .class_ 628), (0, u "java/lang/StringUTF16$CodePointsSpliterator"), (0, .class_ 630), (0, u "java/lang/StringUTF16$CharsSpliterator")] 4

def k12m0 : Method := { name := "<init>", desc := "()V", sig := { parameters := [], returnType := none }, accessFlags := 0, code := none }
def k12c1 : Code := { maxStack := 2, maxLocals := 2, code := jdk_52_method_15_code, exceptionTable := #[], attributes := #[] }
def k12m1 : Method := { name := "coderFromArrayLen", desc := "([BI)B", sig := { parameters := [(.array .byte), .int], returnType := some .byte }, accessFlags := 8, code := some k12c1 }
def k12c2 : Code := { maxStack := 5, maxLocals := 6, code := jdk_52_method_16_code, exceptionTable := #[], attributes := #[] }
def k12m2 : Method := { name := "compress", desc := "([CII)[B", sig := { parameters := [(.array .char), .int, .int], returnType := some (.array .byte) }, accessFlags := 9, code := some k12c2 }
def k12c3 : Code := { maxStack := 3, maxLocals := 7, code := jdk_52_method_21_code, exceptionTable := #[], attributes := #[] }
def k12m3 : Method := { name := "compress", desc := "([CI[BII)I", sig := { parameters := [(.array .char), .int, (.array .byte), .int, .int], returnType := some .int }, accessFlags := 9, code := some k12c3 }
/-- java/lang/StringUTF16 -/
def k12 : Class := { plain "java/lang/StringUTF16" (some 0) with
  accessFlags := 48
  interfaces := #[]
  cf := some (fileOf pool12 12 #[.nestMembers #[627, 629, 369]] #[{ accessFlags := 0, nameIndex := 9, descriptorIndex := 10, attributes := #[] }, { accessFlags := 8, nameIndex := 261, descriptorIndex := 262, attributes := #[] }, { accessFlags := 9, nameIndex := 117, descriptorIndex := 122, attributes := #[] }, { accessFlags := 9, nameIndex := 117, descriptorIndex := 118, attributes := #[] }] 48 6 #[] #[{ accessFlags := 26, nameIndex := 61, descriptorIndex := 62, attributes := #[] }, { accessFlags := 26, nameIndex := 65, descriptorIndex := 62, attributes := #[] }, { accessFlags := 24, nameIndex := 430, descriptorIndex := 62, attributes := #[] }, { accessFlags := 4120, nameIndex := 46, descriptorIndex := 47, attributes := #[] }])
  fields := #[{ name := "HI_BYTE_SHIFT", type := .int, accessFlags := 26, slot := 0, constantValue := 0 }, { name := "LO_BYTE_SHIFT", type := .int, accessFlags := 26, slot := 1, constantValue := 0 }, { name := "MAX_LENGTH", type := .int, accessFlags := 24, slot := 2, constantValue := 0 }, { name := "$assertionsDisabled", type := .boolean, accessFlags := 4120, slot := 3, constantValue := 0 }]
  methods := #[k12m0, k12m1, k12m2, k12m3]
  instanceTypes := #[]
  staticTypes := #[.int, .int, .int, .boolean]
  resolved := Array.replicate 635 none
  statics := none }

def pool13 : Array CpInfo := pool [(2, .class_ 4), (1, u "java/lang/Object"), (0, u "<init>"), (0, u "()V"), (17, .class_ 26), (1, u "jdk/internal/util/Preconditions"), (6, u "checkIndex"), (21, .class_ 56), (0, u "jdk/internal/util/Preconditions$4"), (57, .class_ 115), (0, u "jdk/internal/util/Preconditions$1"), (7, u "SIOOBE_FORMATTER"), (0, u "Ljava/util/function/BiFunction;"), (0, .class_ 126), (0, u "jdk/internal/util/Preconditions$2"), (3, u "AIOOBE_FORMATTER"), (0, .class_ 132), (0, u "jdk/internal/util/Preconditions$3"), (3, u "IOOBE_FORMATTER"), (41, u "(IILjava/util/function/BiFunction;)I")] 15

def k13m0 : Method := { name := "<init>", desc := "()V", sig := { parameters := [], returnType := none }, accessFlags := 1, code := none }
def k13c1 : Code := { maxStack := 3, maxLocals := 3, code := jdk_41_method_11_code, exceptionTable := #[], attributes := #[] }
def k13m1 : Method := { name := "checkIndex", desc := "(IILjava/util/function/BiFunction;)I", sig := { parameters := [.int, .int, (.object "java/util/function/BiFunction")], returnType := some .int }, accessFlags := 9, code := some k13c1 }
/-- jdk/internal/util/Preconditions -/
def k13 : Class := { plain "jdk/internal/util/Preconditions" (some 0) with
  accessFlags := 33
  interfaces := #[]
  cf := some (fileOf pool13 24 #[.nestMembers #[55, 131, 125, 114]] #[{ accessFlags := 1, nameIndex := 5, descriptorIndex := 6, attributes := #[] }, { accessFlags := 9, nameIndex := 33, descriptorIndex := 178, attributes := #[] }] 33 2 #[] #[{ accessFlags := 25, nameIndex := 123, descriptorIndex := 124, attributes := #[] }, { accessFlags := 25, nameIndex := 130, descriptorIndex := 124, attributes := #[] }, { accessFlags := 25, nameIndex := 136, descriptorIndex := 124, attributes := #[] }])
  fields := #[{ name := "SIOOBE_FORMATTER", type := (.object "java/util/function/BiFunction"), accessFlags := 25, slot := 0, constantValue := 0 }, { name := "AIOOBE_FORMATTER", type := (.object "java/util/function/BiFunction"), accessFlags := 25, slot := 1, constantValue := 0 }, { name := "IOOBE_FORMATTER", type := (.object "java/util/function/BiFunction"), accessFlags := 25, slot := 2, constantValue := 0 }]
  methods := #[k13m0, k13m1]
  instanceTypes := #[]
  staticTypes := #[(.object "java/util/function/BiFunction"), (.object "java/util/function/BiFunction"), (.object "java/util/function/BiFunction")]
  resolved := Array.replicate 194 none
  statics := some 2 }

def pool14 : Array CpInfo := pool [(9, u "<init>"), (6, .class_ 18), (1, u "java/lang/Object"), (0, u "()V"), (1, .class_ 23), (1, u "jdk/internal/util/ArraysSupport"), (0, u "LOG2_ARRAY_LONG_INDEX_SCALE"), (0, u "I"), (2, u "U"), (0, u "Ljdk/internal/misc/Unsafe;"), (8, u "BIG_ENDIAN"), (0, u "Z"), (8, u "LOG2_BYTE_BIT_SIZE"), (4, u "LOG2_ARRAY_INT_INDEX_SCALE"), (54, u "JLA"), (0, u "Ljdk/internal/access/JavaLangAccess;"), (11, u "LOG2_ARRAY_BOOLEAN_INDEX_SCALE"), (9, u "LOG2_ARRAY_BYTE_INDEX_SCALE"), (5, u "LOG2_ARRAY_CHAR_INDEX_SCALE"), (5, u "LOG2_ARRAY_SHORT_INDEX_SCALE"), (18, u "LOG2_ARRAY_FLOAT_INDEX_SCALE"), (24, u "LOG2_ARRAY_DOUBLE_INDEX_SCALE"), (89, u "T_BOOLEAN"), (2, u "T_CHAR"), (1, u "T_FLOAT"), (1, u "T_DOUBLE"), (1, u "T_BYTE"), (1, u "T_SHORT"), (1, u "T_INT"), (1, u "T_LONG"), (1, u "SOFT_MAX_ARRAY_LENGTH")] 83

def k14m0 : Method := { name := "<init>", desc := "()V", sig := { parameters := [], returnType := none }, accessFlags := 2, code := none }
/-- jdk/internal/util/ArraysSupport -/
def k14 : Class := { plain "jdk/internal/util/ArraysSupport" (some 0) with
  accessFlags := 33
  interfaces := #[]
  cf := some (fileOf pool14 21 #[] #[{ accessFlags := 2, nameIndex := 9, descriptorIndex := 19, attributes := #[] }] 33 16 #[] #[{ accessFlags := 24, nameIndex := 28, descriptorIndex := 29, attributes := #[] }, { accessFlags := 26, nameIndex := 38, descriptorIndex := 39, attributes := #[] }, { accessFlags := 25, nameIndex := 121, descriptorIndex := 25, attributes := #[] }, { accessFlags := 25, nameIndex := 131, descriptorIndex := 25, attributes := #[] }, { accessFlags := 25, nameIndex := 137, descriptorIndex := 25, attributes := #[] }, { accessFlags := 25, nameIndex := 143, descriptorIndex := 25, attributes := #[] }, { accessFlags := 25, nameIndex := 53, descriptorIndex := 25, attributes := #[] }, { accessFlags := 25, nameIndex := 24, descriptorIndex := 25, attributes := #[] }, { accessFlags := 25, nameIndex := 162, descriptorIndex := 25, attributes := #[] }, { accessFlags := 25, nameIndex := 187, descriptorIndex := 25, attributes := #[] }, { accessFlags := 26, nameIndex := 48, descriptorIndex := 25, attributes := #[] }, { accessFlags := 25, nameIndex := 277, descriptorIndex := 25, attributes := #[] }, { accessFlags := 25, nameIndex := 280, descriptorIndex := 25, attributes := #[] }, { accessFlags := 25, nameIndex := 282, descriptorIndex := 25, attributes := #[] }, { accessFlags := 25, nameIndex := 284, descriptorIndex := 25, attributes := #[] }, { accessFlags := 25, nameIndex := 286, descriptorIndex := 25, attributes := #[] }, { accessFlags := 25, nameIndex := 288, descriptorIndex := 25, attributes := #[] }, { accessFlags := 25, nameIndex := 290, descriptorIndex := 25, attributes := #[] }, { accessFlags := 25, nameIndex := 292, descriptorIndex := 25, attributes := #[] }, { accessFlags := 26, nameIndex := 108, descriptorIndex := 109, attributes := #[] }, { accessFlags := 25, nameIndex := 294, descriptorIndex := 25, attributes := #[] }])
  fields := #[{ name := "U", type := (.object "jdk/internal/misc/Unsafe"), accessFlags := 24, slot := 0, constantValue := 0 }, { name := "BIG_ENDIAN", type := .boolean, accessFlags := 26, slot := 1, constantValue := 0 }, { name := "LOG2_ARRAY_BOOLEAN_INDEX_SCALE", type := .int, accessFlags := 25, slot := 2, constantValue := 0 }, { name := "LOG2_ARRAY_BYTE_INDEX_SCALE", type := .int, accessFlags := 25, slot := 3, constantValue := 0 }, { name := "LOG2_ARRAY_CHAR_INDEX_SCALE", type := .int, accessFlags := 25, slot := 4, constantValue := 0 }, { name := "LOG2_ARRAY_SHORT_INDEX_SCALE", type := .int, accessFlags := 25, slot := 5, constantValue := 0 }, { name := "LOG2_ARRAY_INT_INDEX_SCALE", type := .int, accessFlags := 25, slot := 6, constantValue := 0 }, { name := "LOG2_ARRAY_LONG_INDEX_SCALE", type := .int, accessFlags := 25, slot := 7, constantValue := 0 }, { name := "LOG2_ARRAY_FLOAT_INDEX_SCALE", type := .int, accessFlags := 25, slot := 8, constantValue := 0 }, { name := "LOG2_ARRAY_DOUBLE_INDEX_SCALE", type := .int, accessFlags := 25, slot := 9, constantValue := 0 }, { name := "LOG2_BYTE_BIT_SIZE", type := .int, accessFlags := 26, slot := 10, constantValue := 0 }, { name := "T_BOOLEAN", type := .int, accessFlags := 25, slot := 11, constantValue := 0 }, { name := "T_CHAR", type := .int, accessFlags := 25, slot := 12, constantValue := 0 }, { name := "T_FLOAT", type := .int, accessFlags := 25, slot := 13, constantValue := 0 }, { name := "T_DOUBLE", type := .int, accessFlags := 25, slot := 14, constantValue := 0 }, { name := "T_BYTE", type := .int, accessFlags := 25, slot := 15, constantValue := 0 }, { name := "T_SHORT", type := .int, accessFlags := 25, slot := 16, constantValue := 0 }, { name := "T_INT", type := .int, accessFlags := 25, slot := 17, constantValue := 0 }, { name := "T_LONG", type := .int, accessFlags := 25, slot := 18, constantValue := 0 }, { name := "JLA", type := (.object "jdk/internal/access/JavaLangAccess"), accessFlags := 26, slot := 19, constantValue := 0 }, { name := "SOFT_MAX_ARRAY_LENGTH", type := .int, accessFlags := 25, slot := 20, constantValue := 0 }]
  methods := #[k14m0]
  instanceTypes := #[]
  staticTypes := #[(.object "jdk/internal/misc/Unsafe"), .boolean, .int, .int, .int, .int, .int, .int, .int, .int, .int, .int, .int, .int, .int, .int, .int, .int, .int, (.object "jdk/internal/access/JavaLangAccess"), .int]
  resolved := Array.replicate 378 none
  statics := none }

/-- the primitive byte -/
def k15 : Class := { plain "byte" none with kind := .primitive 'B', accessFlags := 0x411 }
/-- [B -/
def k16 : Class := { plain "[B" (some 0) with kind := .array 15 .byte, interfaces := #[10, 2], accessFlags := 1041 }

/-- the primitive char -/
def k17 : Class := { plain "char" none with kind := .primitive 'C', accessFlags := 0x411 }
/-- [C -/
def k18 : Class := { plain "[C" (some 0) with kind := .array 17 .char, interfaces := #[10, 2], accessFlags := 1041 }

/-- the primitive int -/
def k19 : Class := { plain "int" none with kind := .primitive 'I', accessFlags := 0x411 }
/-- [I -/
def k20 : Class := { plain "[I" (some 0) with kind := .array 19 .int, interfaces := #[10, 2], accessFlags := 1041 }

/-- [Lcom/example/nogood/nogood/problem/InstanceFormat; -/
def k21 : Class := { plain "[Lcom/example/nogood/nogood/problem/InstanceFormat;" (some 0) with kind := .array 9 (.object "com/example/nogood/nogood/problem/InstanceFormat"), interfaces := #[10, 2], accessFlags := 1041 }

def heap : Heap := #[{ cls := 7, slots := #[.long 0, .int 1, .null, .int 0, .null, .int 0, .int 0], vm := .statics 7 },
  { cls := 9, slots := #[.ref 4, .ref 5, .ref 3], vm := .statics 9 },
  { cls := 13, slots := #[.null, .null, .null], vm := .statics 13 },
  { cls := 21, slots := #[.ref 4, .ref 5], vm := .none },
  { cls := 9, slots := #[.null, .int 0, .int 0, .ref 6, .null, .null, .null, .null], vm := .none },
  { cls := 9, slots := #[.null, .int 1, .int 0, .ref 7, .null, .null, .null, .null], vm := .none },
  { cls := 7, slots := #[.ref 8, .int 0, .int 0, .int 0], vm := .none },
  { cls := 7, slots := #[.ref 9, .int 0, .int 0, .int 0], vm := .none },
  { cls := 16, slots := #[.int 100, .int 99, .int 115, .int 112], vm := .none },
  { cls := 16, slots := #[.int 101, .int 100, .int 103, .int 101], vm := .none }]
def classes : Array Class := #[k0, k1, k2, k3, k4, k5, k6, k7, k8, k9, k10, k11, k12, k13, k14, k15, k16, k17, k18, k19, k20, k21]
def interned : List (Array UInt16 × Addr) := []
def slotsUsed : Nat := 47
def theMethod : MethodId := ⟨1, 2⟩
def args0 : Array Value := #[.int 5, .int 5, .int 5, .int 5, .int 5, .int 5]
def aboutOver (below : List Frame) : State where
  vm := { classes := classes, interned := interned.toArray }
  heap := heap
  slotsUsed := slotsUsed
  threads := #[{ frames := .invoking theMethod args0 :: below }]
def below0 : List Frame := [.native { method := ⟨0, 0⟩, args := #[] }]
def about1 : State := aboutOver below0
def p0 : Program := .bare "" "" ""
def e0 : Env := launch0.env 0 0 0
theorem w_frames : about1.frames = Frame.invoking theMethod args0 :: below0 := rfl
set_option maxRecDepth 65536 in
theorem w_args : argsFit about1.vm theMethod args0 = true := by decide +kernel
set_option maxRecDepth 65536 in
theorem w_heap : heapFits about1 = true := by decide +kernel
set_option maxRecDepth 65536 in
theorem w_runnable : about1.curStatus? = some .runnable := by decide +kernel
set_option maxRecDepth 65536 in
theorem w_alone : about1.alone = true := by decide +kernel
set_option maxRecDepth 65536 in
theorem w_named : about1.methodNamed? x = some theMethod := by decide +kernel
set_option maxRecDepth 65536 in
theorem w_hears : about1.hears theMethod below0 = true := by decide +kernel
set_option maxRecDepth 65536 in
theorem w_ripe : about1.ripe theMethod args0 below0 = true := by decide +kernel
theorem w_running : about1.status = .running := rfl
set_option maxRecDepth 65536 in
theorem w_room : about1.hasRoom e0.platform room_1 = true :=
  launch0.hasRoom_least _ room_1 (by decide +kernel) (by decide +kernel) (by decide +kernel) (by decide +kernel) (by decide +kernel) (by decide +kernel)
theorem allAtoms_all (ts : List Jvm.Cond) (a : Array Jvm.Value) (st : Jvm.State) : (allAtoms ts).before a st = ts.all (fun c => c.before a st) := by
  induction ts with
  | nil => rfl
  | cons c t ih =>
    show (Jvm.Cond.and c (allAtoms t)).before a st = _
    rw [Jvm.Cond.before_and, ih, List.all_cons]
def words1 : List Jvm.Cond := Jvm.Cond.code x code maxLocals ret :: tables_1
/-- a 'code' word, met by the world's own term for the bytes: nothing is compared byte by byte -/
theorem code_word {y : MethodName} {bytes : ByteArray} {mx : Nat} {rt : Option FieldType} {a : Array Value} {s : State} {m : MethodId} {meth : Method} {c : Code} (h1 : s.methodNamed? y = some m) (h2 : s.vm.method? m = some meth) (h3 : meth.code = some c) (h4 : c.code = bytes)
    (h5 : (c.maxLocals == mx && c.exceptionTable.isEmpty && decide (c.maxStack ≤ mostOperands) && decide (meth.sig.returnType = rt) && !meth.locks && decide (parseMethodDescriptor y.desc = some meth.sig)) = true) : (Jvm.Cond.code y bytes mx rt).before a s = true := by
  simp only [Bool.and_eq_true, beq_iff_eq, Bool.not_eq_true', decide_eq_true_eq] at h5
  obtain ⟨⟨⟨⟨⟨g1, g2⟩, g3⟩, g4⟩, g5⟩, g6⟩ := h5
  simp [Cond.before, Cond.holds, Cond.value, h1, h2, h3, h4, g1, g2, g3, g4, g5, g6]
def isCode : Jvm.Cond → Bool
  | .code _ _ _ _ => true
  | _ => false
theorem all_split {L : List Jvm.Cond} {P : Jvm.Cond → Bool} (h1 : L.all (fun c => isCode c || P c) = true) (h2 : ∀ c ∈ L.filter isCode, P c = true) : L.all P = true := by
  refine List.all_eq_true.mpr fun c hc => ?_
  have h := List.all_eq_true.mp h1 c hc
  rcases Bool.eq_false_or_eq_true (isCode c) with hi | hi
  · exact h2 c (List.mem_filter.mpr ⟨hc, hi⟩)
  · simpa [hi] using h
set_option maxRecDepth 65536 in
theorem w_c0 : (Jvm.Cond.code x code maxLocals ret).before args0 about1 = true := code_word (m := ⟨1, 2⟩) (meth := k1m2) (c := k1c2) (by decide +kernel) rfl rfl rfl (by decide +kernel)
set_option maxRecDepth 65536 in
theorem w_c1 : (Jvm.Cond.code ({ cls := "com/example/nogood/nogood/problem/InstanceFormatNamedPinLaw", name := "make", desc := "(ICCCCC)Ljava/lang/String;" } : Jvm.MethodName) method_2_code (6 : Nat) (Option.some (Jvm.ClassFile.FieldType.object "java/lang/String"))).before args0 about1 = true := code_word (m := ⟨1, 1⟩) (meth := k1m1) (c := k1c1) (by decide +kernel) rfl rfl rfl (by decide +kernel)
set_option maxRecDepth 65536 in
theorem w_c2 : (Jvm.Cond.code ({ cls := "java/lang/String", name := "<init>", desc := "([C)V" } : Jvm.MethodName) jdk_42_method_3_code (2 : Nat) (Option.none : Option Jvm.ClassFile.FieldType)).before args0 about1 = true := code_word (m := ⟨7, 1⟩) (meth := k7m1) (c := k7c1) (by decide +kernel) rfl rfl rfl (by decide +kernel)
set_option maxRecDepth 65536 in
theorem w_c3 : (Jvm.Cond.code ({ cls := "java/lang/String", name := "<init>", desc := "([CIILjava/lang/Void;)V" } : Jvm.MethodName) jdk_42_method_149_code (6 : Nat) (Option.none : Option Jvm.ClassFile.FieldType)).before args0 about1 = true := code_word (m := ⟨7, 5⟩) (meth := k7m5) (c := k7c5) (by decide +kernel) rfl rfl rfl (by decide +kernel)
set_option maxRecDepth 65536 in
theorem w_c4 : (Jvm.Cond.code ({ cls := "java/lang/Object", name := "<init>", desc := "()V" } : Jvm.MethodName) object_method_1_code (1 : Nat) (Option.none : Option Jvm.ClassFile.FieldType)).before args0 about1 = true := code_word (m := ⟨0, 0⟩) (meth := k0m0) (c := k0c0) (by decide +kernel) rfl rfl rfl (by decide +kernel)
set_option maxRecDepth 65536 in
theorem w_c5 : (Jvm.Cond.code ({ cls := "java/lang/String", name := "length", desc := "()I" } : Jvm.MethodName) jdk_42_method_54_code (1 : Nat) (Option.some Jvm.ClassFile.FieldType.int)).before args0 about1 = true := code_word (m := ⟨7, 2⟩) (meth := k7m2) (c := k7c2) (by decide +kernel) rfl rfl rfl (by decide +kernel)
set_option maxRecDepth 65536 in
theorem w_c6 : (Jvm.Cond.code ({ cls := "java/lang/String", name := "coder", desc := "()B" } : Jvm.MethodName) jdk_42_method_152_code (1 : Nat) (Option.some Jvm.ClassFile.FieldType.byte)).before args0 about1 = true := code_word (m := ⟨7, 6⟩) (meth := k7m6) (c := k7c6) (by decide +kernel) rfl rfl rfl (by decide +kernel)
set_option maxRecDepth 65536 in
theorem w_c7 : (Jvm.Cond.code ({ cls := "com/example/nogood/nogood/problem/InstanceFormat", name := "named", desc := "(Ljava/lang/String;)Lcom/example/nogood/nogood/problem/InstanceFormat;" } : Jvm.MethodName) prog_29_method_4_code (5 : Nat) (Option.some (Jvm.ClassFile.FieldType.object "com/example/nogood/nogood/problem/InstanceFormat"))).before args0 about1 = true := code_word (m := ⟨9, 1⟩) (meth := k9m1) (c := k9c1) (by decide +kernel) rfl rfl rfl (by decide +kernel)
set_option maxRecDepth 65536 in
theorem w_c8 : (Jvm.Cond.code ({ cls := "com/example/nogood/nogood/problem/InstanceFormat", name := "values", desc := "()[Lcom/example/nogood/nogood/problem/InstanceFormat;" } : Jvm.MethodName) prog_29_method_1_code (0 : Nat) (Option.some (Jvm.ClassFile.FieldType.array (Jvm.ClassFile.FieldType.object "com/example/nogood/nogood/problem/InstanceFormat")))).before args0 about1 = true := code_word (m := ⟨9, 0⟩) (meth := k9m0) (c := k9c0) (by decide +kernel) rfl rfl rfl (by decide +kernel)
set_option maxRecDepth 65536 in
theorem w_c9 : (Jvm.Cond.code ({ cls := "java/lang/String", name := "equals", desc := "(Ljava/lang/Object;)Z" } : Jvm.MethodName) jdk_42_method_66_code (3 : Nat) (Option.some Jvm.ClassFile.FieldType.boolean)).before args0 about1 = true := code_word (m := ⟨7, 4⟩) (meth := k7m4) (c := k7c4) (by decide +kernel) rfl rfl rfl (by decide +kernel)
set_option maxRecDepth 65536 in
theorem w_c10 : (Jvm.Cond.code ({ cls := "java/lang/StringLatin1", name := "equals", desc := "([B[B)Z" } : Jvm.MethodName) jdk_43_method_13_code (3 : Nat) (Option.some Jvm.ClassFile.FieldType.boolean)).before args0 about1 = true := code_word (m := ⟨11, 2⟩) (meth := k11m2) (c := k11c2) (by decide +kernel) rfl rfl rfl (by decide +kernel)
set_option maxRecDepth 65536 in
theorem w_c11 : (Jvm.Cond.code ({ cls := "java/lang/StringUTF16", name := "compress", desc := "([CII)[B" } : Jvm.MethodName) jdk_52_method_16_code (6 : Nat) (Option.some (Jvm.ClassFile.FieldType.array Jvm.ClassFile.FieldType.byte))).before args0 about1 = true := code_word (m := ⟨12, 2⟩) (meth := k12m2) (c := k12c2) (by decide +kernel) rfl rfl rfl (by decide +kernel)
set_option maxRecDepth 65536 in
theorem w_c12 : (Jvm.Cond.code ({ cls := "java/lang/StringUTF16", name := "compress", desc := "([CI[BII)I" } : Jvm.MethodName) jdk_52_method_21_code (7 : Nat) (Option.some Jvm.ClassFile.FieldType.int)).before args0 about1 = true := code_word (m := ⟨12, 3⟩) (meth := k12m3) (c := k12c3) (by decide +kernel) rfl rfl rfl (by decide +kernel)
set_option maxRecDepth 65536 in
theorem w_c13 : (Jvm.Cond.code ({ cls := "java/lang/StringUTF16", name := "coderFromArrayLen", desc := "([BI)B" } : Jvm.MethodName) jdk_52_method_15_code (2 : Nat) (Option.some Jvm.ClassFile.FieldType.byte)).before args0 about1 = true := code_word (m := ⟨12, 1⟩) (meth := k12m1) (c := k12c1) (by decide +kernel) rfl rfl rfl (by decide +kernel)
set_option maxRecDepth 65536 in
theorem w_c14 : (Jvm.Cond.code ({ cls := "java/lang/String", name := "charAt", desc := "(I)C" } : Jvm.MethodName) jdk_42_method_56_code (2 : Nat) (Option.some Jvm.ClassFile.FieldType.char)).before args0 about1 = true := code_word (m := ⟨7, 3⟩) (meth := k7m3) (c := k7c3) (by decide +kernel) rfl rfl rfl (by decide +kernel)
set_option maxRecDepth 65536 in
theorem w_c15 : (Jvm.Cond.code ({ cls := "java/lang/String", name := "isLatin1", desc := "()Z" } : Jvm.MethodName) jdk_42_method_154_code (1 : Nat) (Option.some Jvm.ClassFile.FieldType.boolean)).before args0 about1 = true := code_word (m := ⟨7, 7⟩) (meth := k7m7) (c := k7c7) (by decide +kernel) rfl rfl rfl (by decide +kernel)
set_option maxRecDepth 65536 in
theorem w_c16 : (Jvm.Cond.code ({ cls := "java/lang/StringLatin1", name := "charAt", desc := "([BI)C" } : Jvm.MethodName) jdk_43_method_2_code (2 : Nat) (Option.some Jvm.ClassFile.FieldType.char)).before args0 about1 = true := code_word (m := ⟨11, 1⟩) (meth := k11m1) (c := k11c1) (by decide +kernel) rfl rfl rfl (by decide +kernel)
set_option maxRecDepth 65536 in
theorem w_c17 : (Jvm.Cond.code ({ cls := "java/lang/String", name := "checkIndex", desc := "(II)V" } : Jvm.MethodName) jdk_42_method_155_code (2 : Nat) (Option.none : Option Jvm.ClassFile.FieldType)).before args0 about1 = true := code_word (m := ⟨7, 8⟩) (meth := k7m8) (c := k7c8) (by decide +kernel) rfl rfl rfl (by decide +kernel)
set_option maxRecDepth 65536 in
theorem w_c18 : (Jvm.Cond.code ({ cls := "jdk/internal/util/Preconditions", name := "checkIndex", desc := "(IILjava/util/function/BiFunction;)I" } : Jvm.MethodName) jdk_41_method_11_code (3 : Nat) (Option.some Jvm.ClassFile.FieldType.int)).before args0 about1 = true := code_word (m := ⟨13, 1⟩) (meth := k13m1) (c := k13c1) (by decide +kernel) rfl rfl rfl (by decide +kernel)
def codes1 : List Jvm.Cond := [Jvm.Cond.code x code maxLocals ret, Jvm.Cond.code ({ cls := "com/example/nogood/nogood/problem/InstanceFormatNamedPinLaw", name := "make", desc := "(ICCCCC)Ljava/lang/String;" } : Jvm.MethodName) method_2_code (6 : Nat) (Option.some (Jvm.ClassFile.FieldType.object "java/lang/String")), Jvm.Cond.code ({ cls := "java/lang/String", name := "<init>", desc := "([C)V" } : Jvm.MethodName) jdk_42_method_3_code (2 : Nat) (Option.none : Option Jvm.ClassFile.FieldType), Jvm.Cond.code ({ cls := "java/lang/String", name := "<init>", desc := "([CIILjava/lang/Void;)V" } : Jvm.MethodName) jdk_42_method_149_code (6 : Nat) (Option.none : Option Jvm.ClassFile.FieldType), Jvm.Cond.code ({ cls := "java/lang/Object", name := "<init>", desc := "()V" } : Jvm.MethodName) object_method_1_code (1 : Nat) (Option.none : Option Jvm.ClassFile.FieldType), Jvm.Cond.code ({ cls := "java/lang/String", name := "length", desc := "()I" } : Jvm.MethodName) jdk_42_method_54_code (1 : Nat) (Option.some Jvm.ClassFile.FieldType.int), Jvm.Cond.code ({ cls := "java/lang/String", name := "coder", desc := "()B" } : Jvm.MethodName) jdk_42_method_152_code (1 : Nat) (Option.some Jvm.ClassFile.FieldType.byte), Jvm.Cond.code ({ cls := "com/example/nogood/nogood/problem/InstanceFormat", name := "named", desc := "(Ljava/lang/String;)Lcom/example/nogood/nogood/problem/InstanceFormat;" } : Jvm.MethodName) prog_29_method_4_code (5 : Nat) (Option.some (Jvm.ClassFile.FieldType.object "com/example/nogood/nogood/problem/InstanceFormat")), Jvm.Cond.code ({ cls := "com/example/nogood/nogood/problem/InstanceFormat", name := "values", desc := "()[Lcom/example/nogood/nogood/problem/InstanceFormat;" } : Jvm.MethodName) prog_29_method_1_code (0 : Nat) (Option.some (Jvm.ClassFile.FieldType.array (Jvm.ClassFile.FieldType.object "com/example/nogood/nogood/problem/InstanceFormat"))), Jvm.Cond.code ({ cls := "java/lang/String", name := "equals", desc := "(Ljava/lang/Object;)Z" } : Jvm.MethodName) jdk_42_method_66_code (3 : Nat) (Option.some Jvm.ClassFile.FieldType.boolean), Jvm.Cond.code ({ cls := "java/lang/StringLatin1", name := "equals", desc := "([B[B)Z" } : Jvm.MethodName) jdk_43_method_13_code (3 : Nat) (Option.some Jvm.ClassFile.FieldType.boolean), Jvm.Cond.code ({ cls := "java/lang/StringUTF16", name := "compress", desc := "([CII)[B" } : Jvm.MethodName) jdk_52_method_16_code (6 : Nat) (Option.some (Jvm.ClassFile.FieldType.array Jvm.ClassFile.FieldType.byte)), Jvm.Cond.code ({ cls := "java/lang/StringUTF16", name := "compress", desc := "([CI[BII)I" } : Jvm.MethodName) jdk_52_method_21_code (7 : Nat) (Option.some Jvm.ClassFile.FieldType.int), Jvm.Cond.code ({ cls := "java/lang/StringUTF16", name := "coderFromArrayLen", desc := "([BI)B" } : Jvm.MethodName) jdk_52_method_15_code (2 : Nat) (Option.some Jvm.ClassFile.FieldType.byte), Jvm.Cond.code ({ cls := "java/lang/String", name := "charAt", desc := "(I)C" } : Jvm.MethodName) jdk_42_method_56_code (2 : Nat) (Option.some Jvm.ClassFile.FieldType.char), Jvm.Cond.code ({ cls := "java/lang/String", name := "isLatin1", desc := "()Z" } : Jvm.MethodName) jdk_42_method_154_code (1 : Nat) (Option.some Jvm.ClassFile.FieldType.boolean), Jvm.Cond.code ({ cls := "java/lang/StringLatin1", name := "charAt", desc := "([BI)C" } : Jvm.MethodName) jdk_43_method_2_code (2 : Nat) (Option.some Jvm.ClassFile.FieldType.char), Jvm.Cond.code ({ cls := "java/lang/String", name := "checkIndex", desc := "(II)V" } : Jvm.MethodName) jdk_42_method_155_code (2 : Nat) (Option.none : Option Jvm.ClassFile.FieldType), Jvm.Cond.code ({ cls := "jdk/internal/util/Preconditions", name := "checkIndex", desc := "(IILjava/util/function/BiFunction;)I" } : Jvm.MethodName) jdk_41_method_11_code (3 : Nat) (Option.some Jvm.ClassFile.FieldType.int)]
set_option maxRecDepth 65536 in
theorem codes_eq : words1.filter isCode = codes1 := rfl
theorem w_codes : ∀ c ∈ words1.filter isCode, c.before args0 about1 = true := by
  rw [codes_eq]
  intro c hc
  simp only [codes1, List.mem_cons, List.not_mem_nil, or_false] at hc
  rcases hc with rfl | rfl | rfl | rfl | rfl | rfl | rfl | rfl | rfl | rfl | rfl | rfl | rfl | rfl | rfl | rfl | rfl | rfl | rfl
  · exact w_c0
  · exact w_c1
  · exact w_c2
  · exact w_c3
  · exact w_c4
  · exact w_c5
  · exact w_c6
  · exact w_c7
  · exact w_c8
  · exact w_c9
  · exact w_c10
  · exact w_c11
  · exact w_c12
  · exact w_c13
  · exact w_c14
  · exact w_c15
  · exact w_c16
  · exact w_c17
  · exact w_c18
set_option maxRecDepth 65536 in
theorem w_t1 : (words1.take 24).all (fun c => isCode c || c.before args0 about1) = true := by decide +kernel
set_option maxRecDepth 65536 in
theorem w_t2 : ((words1.drop 24).take 24).all (fun c => isCode c || c.before args0 about1) = true := by decide +kernel
set_option maxRecDepth 65536 in
theorem w_t3 : (((words1.drop 24).drop 24).take 24).all (fun c => isCode c || c.before args0 about1) = true := by decide +kernel
set_option maxRecDepth 65536 in
theorem w_t4 : ((((words1.drop 24).drop 24).drop 24).take 24).all (fun c => isCode c || c.before args0 about1) = true := by decide +kernel
set_option maxRecDepth 65536 in
theorem w_t5 : ((((words1.drop 24).drop 24).drop 24).drop 24).all (fun c => isCode c || c.before args0 about1) = true := by decide +kernel
theorem w_tables : (allAtoms (Jvm.Cond.code x code maxLocals ret :: tables_1)).before args0 about1 = true := by
  rw [allAtoms_all]
  show words1.all (fun c => c.before args0 about1) = true
  refine all_split ?_ w_codes
  rw [← List.take_append_drop 24 words1, List.all_append, w_t1, ← List.take_append_drop 24 (words1.drop 24), List.all_append, w_t2, ← List.take_append_drop 24 ((words1.drop 24).drop 24), List.all_append, w_t3, ← List.take_append_drop 24 (((words1.drop 24).drop 24).drop 24), List.all_append, w_t4, w_t5]
  rfl
set_option maxRecDepth 65536 in
theorem w_rest : rest_1_c.before args0 about1 = true := by decide +kernel
set_option maxRecDepth 65536 in
theorem w_case : (Jvm.Cond.and given_1 narrow_1).before args0 about1 = true := by decide +kernel
set_option maxRecDepth 65536 in
theorem w_consts : constsHeld consts_1 about1 := Jvm.Lit.constsHeldB_iff.mp (by decide +kernel)
theorem w_applies : (headSpec (Jvm.Cond.code x code maxLocals ret :: tables_1) room_1).applies x e0.platform about1 = true :=
  (Spec.applies_iff w_frames).mpr ⟨w_running, w_runnable, w_alone, w_named, w_hears, w_ripe, w_room, w_tables⟩
theorem atStart : AtStart classFile x code maxLocals ret World_1 tables_1 room_1 Calls_1 rest_1 Pre_1 launch0 p0 e0 about1 theMethod args0 below0 :=
  ⟨lists_1, trivial, launch0.admits_env _ _ _, launch0.least_env, fairChoices_fair.cas, fairChoices_fair.clock, w_frames, w_args, w_heap, w_applies, ⟨w_consts, trivial⟩, w_rest, w_case⟩
end start1
theorem witness_1 : WitnessClaimed_1 := ⟨start1.p0, start1.e0, start1.about1, start1.theMethod, start1.args0, start1.below0, start1.atStart⟩
end Jvm.Pilot.@@N@@
