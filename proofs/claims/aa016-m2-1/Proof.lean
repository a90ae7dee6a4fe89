import JvmDerived
import JvmDerived.Pilot.@@N@@Statement
import JvmDerived.Pilot.@@N@@Code
set_option linter.unusedVariables false
set_option linter.unusedSimpArgs false
namespace Jvm.RoadKit
open Sem ClassFile Op Lib Jvm.Stand Jvm.Free Jvm.LawKit
section New
variable {p : Program} {l : Launch} {e : Env} {R : Room} {s : State} {m : MethodId} {args : Array Value} {below : List Frame} {meth : Method} {c : Code} {T : State} {locs : List Loc} {cells slots : Nat}
theorem retI (X : Stand p l e R s m args below meth c T locs cells slots) (hx : p.tables.exec = Jvm.exec) {pc : Nat} {Ls : Array Slot} {z : Int32} {rest : List Value} (hret : meth.sig.returnType = some .int) (hd : decode c.code pc = .ok (.ireturn, 1)) {fs : List Frame}
    (hl : ∀ (f : JFrame) (acts : List Action), f.method = m → f.locked = none → f.entered = [] → (doReturn e (T.setTop f) acts (some (.int z))).1 = T.setFrames fs) : Steps p.tables e below (T.setTop (mkF m pc Ls (.int z :: rest))) (T.setFrames fs) := by
  have hm' : T.vm.method? m = some meth := X.method'
  have hn : narrow .int (.int z) = .int z := rfl
  show Steps p.tables e below (T.setTop { method := m, pc := pc, locals := Ls, stack := _ :: rest, locked := none }) _
  jvm_step X.here [X.here.top, hx, hd, hm', hret, hn]
  first | (intro acts; rw [hl _ acts rfl rfl rfl]) | rw [hl _ _ rfl rfl rfl]
  exact Steps.refl _
theorem own_lremM {g : JFrame} {target : State} (X : Stand p l e R s m args below meth c T locs cells slots) (hx : p.tables.exec = Jvm.exec) (hg : g.method = m) {x y : Int64} {rest : List Value} (hd : decode c.code g.pc = .ok (.lrem, 1)) (hs : g.stack = .long y :: .long x :: rest) (hy : y ≠ 0)
    (hr : Steps p.tables e below (T.setTop { g with pc := g.pc + 1, stack := .long (x % y) :: rest }) target) : Steps p.tables e below (T.setTop g) target := by
  have q : x - x / y * y = x % y := lrem_mod x y
  exact XS.lrem X.here hx hg hd hs hy (by rw [q]; exact hr)
theorem own_nz {z : Int32} (h : z = 0 ∨ z = 1) : nar .boolean z = z := by rcases h with rfl | rfl <;> rfl
theorem own_cat1 {v : Value} (h : v.isRef = true) : v.category = 1 := by rcases ref_cases h with rfl | ⟨a, rfl⟩ <;> rfl
end New
end Jvm.RoadKit
/- laws to paste: Road.backV, Road.lenW, Road.chN, Road.codOf (cut by pick.py; bodies as the Statement names them) -/
namespace Jvm.Pilot.@@N@@
namespace StrChars
open Jvm Sem ClassFile Op Lib Jvm.Stand Jvm.Free.XT Jvm.Free.ALB Jvm.Free.JM Jvm.Free
open Jvm.Lib.Cold (StaticIs)
/-- a char array whose places are chars -/
def Ch (a : Addr) (A : Cell) (U : State) : Prop := Arr .char a A U ∧ Typed .char A
theorem Ch.mv {a : Addr} {A : Cell} {U U' : State} (h : Ch a A U) (hal : U.vm.Alike U'.vm) (hh : U'.heap = U.heap) : Ch a A U' := ⟨h.1.mv hal hh, h.2⟩
theorem Ch.keep {a : Addr} {A : Cell} {U U' : State} (h : Ch a A U) (hal : U.vm.Alike U'.vm) (hk : U'.heap[a]? = some A) : Ch a A U' := ⟨h.1.keep hal hk, h.2⟩
/-- what place i of a char[]'s cell holds -/
def cv (A : Cell) (i : Nat) : Int32 := match A.slots[i]? with | some (.int x) => x | _ => 0
theorem Ch.get {a : Addr} {A : Cell} {U : State} (h : Ch a A U) {i : Nat} (hi : i < A.slots.size) : A.slots[i]? = some (.int (cv A i)) := by
  have e := Array.getElem?_eq_getElem hi
  have f := h.2 i _ e
  unfold cv; rw [e]
  generalize A.slots[i] = v at f
  cases v <;> simp [fits] at f ⊢
/-- the byte that i2b leaves of a char -/
def lo8 (x : Int32) : Int32 := x.toInt8.toInt32
theorem fits_lo8 (y : Int32) : fits .byte (.int (lo8 y)) = true := by
  have h1 := y.toInt8.le_toInt
  have h2 := y.toInt8.toInt_lt
  simp only [lo8, fits, Bool.and_eq_true, decide_eq_true_eq, Int32.le_iff_toInt_le, Int8.toInt_toInt32, show (-128 : Int32).toInt = -128 from by decide, show (127 : Int32).toInt = 127 from by decide]
  omega
/-- A' is A but that each place j of lo .. hi - 1 holds f j -/
def Laid (A A' : Cell) (lo hi : Nat) (f : Nat → Value) : Prop := A'.cls = A.cls ∧ A'.vm = A.vm ∧ A'.slots.size = A.slots.size ∧ ∀ i, A'.slots[i]? = if lo ≤ i ∧ i < hi then some (f i) else A.slots[i]?
theorem Laid.zero (A : Cell) (lo : Nat) (f : Nat → Value) : Laid A A lo (lo + 0) f := ⟨rfl, rfl, rfl, fun i => by rw [if_neg (by omega)]⟩
theorem Laid.step {A Ak : Cell} {lo k : Nat} {f : Nat → Value} {v : Value} (h : Laid A Ak lo k f) (hlo : lo ≤ k) (hk : k < Ak.slots.size) (hv : v = f k) : Laid A (Ak.setSlot k v) lo (k + 1) f := by
  refine ⟨h.1, h.2.1, by simpa [Cell.setSlot] using h.2.2.1, fun i => ?_⟩
  by_cases e : k = i
  · subst e; rw [Cell.slots_setSlot_self v hk, if_pos (by omega), hv]
  · rw [Cell.slots_setSlot_ne v e, h.2.2.2 i]
    by_cases q : lo ≤ i ∧ i < k
    · rw [if_pos q, if_pos (by omega)]
    · rw [if_neg q, if_neg (by omega)]
def U16 : String := "java/lang/StringUTF16"
namespace Cmp5
def yN : MethodName := ⟨"java/lang/StringUTF16", "compress", "([CI[BII)I"⟩
abbrev yB : ByteArray := jdk_52_method_21_code
theorem d0 : decode yB 0 = .ok (.iconst 0, 1) := by decide +kernel
theorem d1 : decode yB 1 = .ok (.istore 5, 2) := by decide +kernel
theorem d3 : decode yB 3 = .ok (.iload 5, 2) := by decide +kernel
theorem d5 : decode yB 5 = .ok (.iload 4, 2) := by decide +kernel
theorem d7 : decode yB 7 = .ok (.if_icmp (.ge) 37, 3) := by decide +kernel
theorem d10 : decode yB 10 = .ok (.aload_n 0, 1) := by decide +kernel
theorem d11 : decode yB 11 = .ok (.iload_n 1, 1) := by decide +kernel
theorem d12 : decode yB 12 = .ok (.caload, 1) := by decide +kernel
theorem d13 : decode yB 13 = .ok (.istore 6, 2) := by decide +kernel
theorem d15 : decode yB 15 = .ok (.iload 6, 2) := by decide +kernel
theorem d17 : decode yB 17 = .ok (.sipush 255, 3) := by decide +kernel
theorem d20 : decode yB 20 = .ok (.if_icmp (.le) 6, 3) := by decide +kernel
theorem d26 : decode yB 26 = .ok (.aload_n 2, 1) := by decide +kernel
theorem d27 : decode yB 27 = .ok (.iload_n 3, 1) := by decide +kernel
theorem d28 : decode yB 28 = .ok (.iload 6, 2) := by decide +kernel
theorem d30 : decode yB 30 = .ok (.i2b, 1) := by decide +kernel
theorem d31 : decode yB 31 = .ok (.bastore, 1) := by decide +kernel
theorem d32 : decode yB 32 = .ok (.iinc 1 1, 3) := by decide +kernel
theorem d35 : decode yB 35 = .ok (.iinc 3 1, 3) := by decide +kernel
theorem d38 : decode yB 38 = .ok (.iinc 5 1, 3) := by decide +kernel
theorem d41 : decode yB 41 = .ok (.goto (-38), 3) := by decide +kernel
theorem d44 : decode yB 44 = .ok (.iload 4, 2) := by decide +kernel
theorem d46 : decode yB 46 = .ok (.ireturn, 1) := by decide +kernel
def site : List Cond := []
def tab : Cond := tabOf yN yB 7 (some .int) site
def P (b : Addr) (A : Cell) (d : Addr) (B : Cell) (o q len : Nat) (args : Array Value) (s : State) : Prop := args = #[.ref b, .int (Int32.ofNat o), .ref d, .int (Int32.ofNat q), .int (Int32.ofNat len)] ∧ Ch b A s ∧ Arr .byte d B s ∧ b ≠ d ∧ o + len ≤ A.slots.size ∧ q + len ≤ B.slots.size ∧ ∀ i, i < len → ¬ 255 < cv A (o + i)
def E (b : Addr) (A : Cell) (d : Addr) (B : Cell) (o q len : Nat) (r : Option Value) (s u : State) : Prop := r = some (.int (Int32.ofNat len)) ∧ ∃ B', Put d B' s u ∧ Laid B B' q (q + len) (fun j => Value.int (lo8 (cv A (o + (j - q)))))
/-- no char of the range above 255: len; the places written hold each char's low byte -/
theorem law (l : Launch) (b : Addr) (A : Cell) (d : Addr) (B : Cell) (o q len : Nat) : Law l yN 5 5 0 0 yB 7 (some .int) site (P b A d B o q len) (E b A d B o q len) (copyLocs d q len) 0 0 := by
  refine Law.of_walk (plainFor_of_name (by decide +kernel)) (by decide +kernel) (by decide +kernel) (by decide) (fun _ _ h => by rw [h.1]; rfl) (fun _ U U' hal hh h => ⟨h.1, h.2.1.mv hal hh, h.2.2.1.mv hal hh, h.2.2.2⟩) (fun r U U' V V' h1 hal h2 h => ⟨h.1, h.2.elim fun B' q => ⟨B', q.1.mv h1 h2, q.2⟩⟩) ?_
  intro p e s m args below meth c s₁ X0 hexec hbytes hml hret hlk hnm hown hh0 W hP
  obtain ⟨rfl, hA, hB, hne, l1, l2, hp⟩ := hP
  have c1 : Steps p.tables e below (s₁.setTop (entryFrame m #[.ref b, .int (Int32.ofNat o), .ref d, .int (Int32.ofNat q), .int (Int32.ofNat len)] 7)) (s₁.setTop (mkF m 0 #[.val (.ref b), .val (.int (Int32.ofNat o)), .val (.ref d), .val (.int (Int32.ofNat q)), .val (.int (Int32.ofNat len)), .unset, .unset] [])) := entry rfl
  have hA0 := hA.1.mv X0.warmed.alike hh0
  have hB0 := hB.mv X0.warmed.alike hh0
  have a31 := hA.1.2.2.2
  have c2 : Steps p.tables e below (s₁.setTop (entryFrame m #[.ref b, .int (Int32.ofNat o), .ref d, .int (Int32.ofNat q), .int (Int32.ofNat len)] 7)) (s₁.setTop (mkF m 3 #[.val (.ref b), .val (.int (Int32.ofNat o)), .val (.ref d), .val (.int (Int32.ofNat q)), .val (.int (Int32.ofNat len)), .val (.int 0), .unset] [])) := c1.trans (by
    refine iconstV X0.here hexec rfl 0 (hb hbytes d0) (by decide) ?_
    refine XS.istore X0.here hexec rfl (hb hbytes d1) rfl rfl ?_
    exact Steps.refl _)
  have loop : ∀ (r i : Nat), i + r = len → ∀ (z : Slot), (z = .unset ∨ ∃ w, z = .val w ∧ w.category = 1) → ∀ (Tl : State) (Bk : Cell), Stand p l e { frames := 0, locals := 0, cells := 0, slots := 0 } s m #[.ref b, .int (Int32.ofNat o), .ref d, .int (Int32.ofNat q), .int (Int32.ofNat len)] below meth c Tl ([] ++ copyLocs d q i) 0 0 → Put d Bk s₁ Tl → Laid B Bk q (q + i) (fun j => Value.int (lo8 (cv A (o + (j - q))))) →
      Steps p.tables e below (s₁.setTop (entryFrame m #[.ref b, .int (Int32.ofNat o), .ref d, .int (Int32.ofNat q), .int (Int32.ofNat len)] 7)) (Tl.setTop (mkF m 3 #[.val (.ref b), .val (.int (Int32.ofNat (o + i))), .val (.ref d), .val (.int (Int32.ofNat (q + i))), .val (.int (Int32.ofNat len)), .val (.int (Int32.ofNat i)), z] [])) → ∃ (T' : State) (B' : Cell) (z' : Slot), Stand p l e { frames := 0, locals := 0, cells := 0, slots := 0 } s m #[.ref b, .int (Int32.ofNat o), .ref d, .int (Int32.ofNat q), .int (Int32.ofNat len)] below meth c T' ([] ++ copyLocs d q len) 0 0 ∧ Put d B' s₁ T' ∧ Laid B B' q (q + len) (fun j => Value.int (lo8 (cv A (o + (j - q))))) ∧
      Steps p.tables e below (s₁.setTop (entryFrame m #[.ref b, .int (Int32.ofNat o), .ref d, .int (Int32.ofNat q), .int (Int32.ofNat len)] 7)) (T'.setTop (mkF m 3 #[.val (.ref b), .val (.int (Int32.ofNat (o + len))), .val (.ref d), .val (.int (Int32.ofNat (q + len))), .val (.int (Int32.ofNat len)), .val (.int (Int32.ofNat len)), z'] [])) := by
    intro r
    induction r with
    | zero =>
      intro i hi z hz Tl Bk Xl pl fl cl
      have hil : i = len := by omega
      rw [hil] at Xl fl cl
      exact ⟨Tl, Bk, z, Xl, pl, fl, cl⟩
    | succ r ih =>
      intro i hi z hz Tl Bk Xl pl fl cl
      have all := X0.warmed.alike.symm.trans Xl.warmed.alike
      have hAl := hA0.keep all (pl.other hne hA0.1)
      have hBk := hB0.like all pl.1 fl.1 fl.2.1 fl.2.2.1
      have hlt : q + i < Bk.slots.size := by rw [fl.2.2.1]; omega
      have c3 : Steps p.tables e below (s₁.setTop (entryFrame m #[.ref b, .int (Int32.ofNat o), .ref d, .int (Int32.ofNat q), .int (Int32.ofNat len)] 7)) (Tl.setTop (mkF m 12 #[.val (.ref b), .val (.int (Int32.ofNat (o + i))), .val (.ref d), .val (.int (Int32.ofNat (q + i))), .val (.int (Int32.ofNat len)), .val (.int (Int32.ofNat i)), z] [.int (Int32.ofNat (o + i)), .ref b])) := cl.trans (by
        refine XS.iload Xl.here hexec rfl (hb hbytes d3) rfl ?_
        refine XS.iload Xl.here hexec rfl (hb hbytes d5) rfl ?_
        refine XS.icmpNo Xl.here hexec rfl (hb hbytes d7) rfl (ii_ge_f (lt32 (by omega) (by omega))) ?_
        refine XS.aloadN Xl.here hexec rfl (hb hbytes d10) rfl rfl ?_
        refine XS.iloadN Xl.here hexec rfl (hb hbytes d11) rfl ?_
        exact Steps.refl _)
      have c4 : Steps p.tables e below (s₁.setTop (entryFrame m #[.ref b, .int (Int32.ofNat o), .ref d, .int (Int32.ofNat q), .int (Int32.ofNat len)] 7)) (Tl.setTop (mkF m 13 #[.val (.ref b), .val (.int (Int32.ofNat (o + i))), .val (.ref d), .val (.int (Int32.ofNat (q + i))), .val (.int (Int32.ofNat len)), .val (.int (Int32.ofNat i)), z] [.int (cv A (o + i))])) := c3.trans (by
        refine Xl.aget hexec hAl rfl (hA.get (i := o + i) (by omega)) rfl rfl (hb hbytes d12) ?_
        exact Steps.refl _)
      have c5 : Steps p.tables e below (s₁.setTop (entryFrame m #[.ref b, .int (Int32.ofNat o), .ref d, .int (Int32.ofNat q), .int (Int32.ofNat len)] 7)) (Tl.setTop (mkF m 15 #[.val (.ref b), .val (.int (Int32.ofNat (o + i))), .val (.ref d), .val (.int (Int32.ofNat (q + i))), .val (.int (Int32.ofNat len)), .val (.int (Int32.ofNat i)), .val (.int (cv A (o + i)))] [])) := c4.trans (by
        refine XS.istoreS Xl.here hexec rfl (hb hbytes d13) rfl rfl hz ?_
        exact Steps.refl _)
      have c6 : Steps p.tables e below (s₁.setTop (entryFrame m #[.ref b, .int (Int32.ofNat o), .ref d, .int (Int32.ofNat q), .int (Int32.ofNat len)] 7)) (Tl.setTop (mkF m 31 #[.val (.ref b), .val (.int (Int32.ofNat (o + i))), .val (.ref d), .val (.int (Int32.ofNat (q + i))), .val (.int (Int32.ofNat len)), .val (.int (Int32.ofNat i)), .val (.int (cv A (o + i)))] [.int (lo8 (cv A (o + i))), .int (Int32.ofNat (q + i)), .ref d])) := c5.trans (by
        refine XS.iload Xl.here hexec rfl (hb hbytes d15) rfl ?_
        refine sipushV Xl.here hexec rfl 255 (hb hbytes d17) (by decide) ?_
        refine XS.icmpYes Xl.here hexec rfl (pc0 := 20) rfl (hb hbytes d20) rfl (ii_le_t (hp i (by omega))) (by decide) rfl ?_
        refine XS.aloadN Xl.here hexec rfl (hb hbytes d26) rfl rfl ?_
        refine XS.iloadN Xl.here hexec rfl (hb hbytes d27) rfl ?_
        refine XS.iload Xl.here hexec rfl (hb hbytes d28) rfl ?_
        refine i2b Xl.here hexec rfl (hb hbytes d30) rfl ?_
        exact Steps.refl _)
      obtain ⟨T7, X7, p7, st7⟩ := Xl.aput hexec hBk rfl hlt rfl (fits_lo8 (cv A (o + i))) (g := (mkF m 31 #[.val (.ref b), .val (.int (Int32.ofNat (o + i))), .val (.ref d), .val (.int (Int32.ofNat (q + i))), .val (.int (Int32.ofNat len)), .val (.int (Int32.ofNat i)), .val (.int (cv A (o + i)))] [.int (lo8 (cv A (o + i))), .int (Int32.ofNat (q + i)), .ref d])) rfl (rest := []) rfl (hb hbytes d31)
      have c8 : Steps p.tables e below (s₁.setTop (entryFrame m #[.ref b, .int (Int32.ofNat o), .ref d, .int (Int32.ofNat q), .int (Int32.ofNat len)] 7)) (T7.setTop (mkF m 32 #[.val (.ref b), .val (.int (Int32.ofNat (o + i))), .val (.ref d), .val (.int (Int32.ofNat (q + i))), .val (.int (Int32.ofNat len)), .val (.int (Int32.ofNat i)), .val (.int (cv A (o + i)))] [])) := c6.trans (st7 _ (Steps.refl _))
      have c9 : Steps p.tables e below (s₁.setTop (entryFrame m #[.ref b, .int (Int32.ofNat o), .ref d, .int (Int32.ofNat q), .int (Int32.ofNat len)] 7)) (T7.setTop (mkF m 3 #[.val (.ref b), .val (.int (Int32.ofNat (o + i) + 1)), .val (.ref d), .val (.int (Int32.ofNat (q + i) + 1)), .val (.int (Int32.ofNat len)), .val (.int (Int32.ofNat i + 1)), .val (.int (cv A (o + i)))] [])) := c8.trans (by
        refine iincV X7.here hexec rfl 1 (hb hbytes d32) (by decide) rfl rfl ?_
        refine iincV X7.here hexec rfl 1 (hb hbytes d35) (by decide) rfl rfl ?_
        refine iincV X7.here hexec rfl 1 (hb hbytes d38) (by decide) rfl rfl ?_
        refine XS.goto X7.here hexec rfl (pc0 := 41) rfl (hb hbytes d41) (by decide) rfl ?_
        exact Steps.refl _)
      have c10 : Steps p.tables e below (s₁.setTop (entryFrame m #[.ref b, .int (Int32.ofNat o), .ref d, .int (Int32.ofNat q), .int (Int32.ofNat len)] 7)) (T7.setTop (mkF m 3 #[.val (.ref b), .val (.int (Int32.ofNat (o + (i + 1)))), .val (.ref d), .val (.int (Int32.ofNat (q + (i + 1)))), .val (.int (Int32.ofNat len)), .val (.int (Int32.ofNat (i + 1))), .val (.int (cv A (o + i)))] [])) := by
        have := c9
        rw [succ32, succ32, succ32] at this
        exact this
      exact ih (i + 1) (by omega) _ (Or.inr ⟨_, rfl, rfl⟩) T7 _ (by rw [copyLocs_step, ← List.append_assoc]; exact X7) (pl.trans p7) (fl.step (by omega) hlt (by simp)) c10
  obtain ⟨T9, B9, z9, X9, p9, f9, g9⟩ := loop len 0 (by omega) .unset (Or.inl rfl) s₁ B (by simpa [copyLocs] using X0) ⟨hB0.1, fun _ _ => rfl, rfl⟩ (Laid.zero _ _ _) c2
  have c11 : Steps p.tables e below (s₁.setTop (entryFrame m #[.ref b, .int (Int32.ofNat o), .ref d, .int (Int32.ofNat q), .int (Int32.ofNat len)] 7)) (T9.setTop (mkF m 46 #[.val (.ref b), .val (.int (Int32.ofNat (o + len))), .val (.ref d), .val (.int (Int32.ofNat (q + len))), .val (.int (Int32.ofNat len)), .val (.int (Int32.ofNat len)), z9] [.int (Int32.ofNat len)])) := g9.trans (by
    refine XS.iload X9.here hexec rfl (hb hbytes d3) rfl ?_
    refine XS.iload X9.here hexec rfl (hb hbytes d5) rfl ?_
    refine XS.icmpYes X9.here hexec rfl (pc0 := 7) rfl (hb hbytes d7) rfl (ii_ge_t (nlt32 (by omega) (Nat.le_refl _))) (by decide) rfl ?_
    refine XS.iload X9.here hexec rfl (hb hbytes d44) rfl ?_
    exact Steps.refl _)
  exact ⟨T9, some (.int (Int32.ofNat len)), _, _, _, X9, by simp, rfl, rfl, (fun h => by cases h), ⟨rfl, B9, p9.from hh0, f9⟩, fun fs hl => c11.trans (X9.ireturnOut hexec hret rfl (Or.inl rfl) (hb hbytes d46) hl)⟩
end Cmp5
namespace Cmp3
def yN : MethodName := ⟨"java/lang/StringUTF16", "compress", "([CII)[B"⟩
abbrev yB : ByteArray := jdk_52_method_16_code
theorem d0 : decode yB 0 = .ok (.iload_n 2, 1) := by decide +kernel
theorem d1 : decode yB 1 = .ok (.newarray .byte, 2) := by decide +kernel
theorem d3 : decode yB 3 = .ok (.astore_n 3, 1) := by decide +kernel
theorem d4 : decode yB 4 = .ok (.aload_n 0, 1) := by decide +kernel
theorem d5 : decode yB 5 = .ok (.iload_n 1, 1) := by decide +kernel
theorem d6 : decode yB 6 = .ok (.aload_n 3, 1) := by decide +kernel
theorem d7 : decode yB 7 = .ok (.iconst 0, 1) := by decide +kernel
theorem d8 : decode yB 8 = .ok (.iload_n 2, 1) := by decide +kernel
theorem d9 : decode yB 9 = .ok (.invokestatic 115, 3) := by decide +kernel
theorem d12 : decode yB 12 = .ok (.istore 4, 2) := by decide +kernel
theorem d14 : decode yB 14 = .ok (.iload 4, 2) := by decide +kernel
theorem d16 : decode yB 16 = .ok (.iload_n 2, 1) := by decide +kernel
theorem d17 : decode yB 17 = .ok (.if_icmp (.eq) 40, 3) := by decide +kernel
theorem d57 : decode yB 57 = .ok (.aload_n 3, 1) := by decide +kernel
theorem d58 : decode yB 58 = .ok (.areturn, 1) := by decide +kernel
def site : List Cond := [.arrayClass .byte, Cmp5.tab] ++ staticW U16 115 Cmp5.yN
def tab : Cond := tabOf yN yB 6 (some (.array .byte)) site
def P (b : Addr) (A : Cell) (o len : Nat) (args : Array Value) (s : State) : Prop := args = #[.ref b, .int (Int32.ofNat o), .int (Int32.ofNat len)] ∧ Ch b A s ∧ o + len ≤ A.slots.size ∧ len ≤ 536870912 ∧ ∀ i, i < len → ¬ 255 < cv A (o + i)
def E (b : Addr) (A : Cell) (o len : Nat) (r : Option Value) (s u : State) : Prop := NewArr .byte "[B" len (fun j => .int (lo8 (cv A (o + j)))) r s u ∧ u.heap.size = s.heap.size + 1
/-- no char of the range above 255: a new byte[] of their low bytes -/
theorem law (l : Launch) (b : Addr) (A : Cell) (o len : Nat) : Law l yN 3 3 1 18 yB 6 (some (.array .byte)) site (P b A o len) (E b A o len) [] 1 len := by
  refine Law.of_walk (plainFor_of_name (by decide +kernel)) (by decide +kernel) (by decide +kernel) (by decide) (fun _ _ h => by rw [h.1]; rfl) (fun _ U U' hal hh h => ⟨h.1, h.2.1.mv hal hh, h.2.2⟩) (fun r U U' V V' h1 hal h2 h => ⟨NewArr.mv r U U' V V' h1 hal h2 h.1, by rw [h1, h2]; exact h.2⟩) ?_
  intro p e s m args below meth c s₁ X0 hexec hbytes hml hret hlk hnm hown hh0 W hP
  obtain ⟨rfl, hA, l1, l2, hp⟩ := hP
  have a31 := hA.1.2.2.2
  have c1 : Steps p.tables e below (s₁.setTop (entryFrame m #[.ref b, .int (Int32.ofNat o), .int (Int32.ofNat len)] 6)) (s₁.setTop (mkF m 0 #[.val (.ref b), .val (.int (Int32.ofNat o)), .val (.int (Int32.ofNat len)), .unset, .unset, .unset] [])) := entry rfl
  have c2 : Steps p.tables e below (s₁.setTop (entryFrame m #[.ref b, .int (Int32.ofNat o), .int (Int32.ofNat len)] 6)) (s₁.setTop (mkF m 1 #[.val (.ref b), .val (.int (Int32.ofNat o)), .val (.int (Int32.ofNat len)), .unset, .unset, .unset] [.int (Int32.ofNat len)])) := c1.trans (by
    refine XS.iloadN X0.here hexec rfl (hb hbytes d0) rfl ?_
    exact Steps.refl _)
  obtain ⟨T3, B3, X3, ba3, bs3, bv3, bh3, bf3, st3⟩ := X0.anew hexec (atype := .byte) (wk W (.arrayClass .byte)) rfl (by show len * 1 ≤ _; omega) (by omega) (g := (mkF m 1 #[.val (.ref b), .val (.int (Int32.ofNat o)), .val (.int (Int32.ofNat len)), .unset, .unset, .unset] [.int (Int32.ofNat len)])) rfl (hb hbytes d1) (rest := []) rfl (Nat.le_refl _) (by show 0 + len ≤ len; omega)
  rw [hh0] at ba3 st3
  have kp3 : XT.Kept s T3 := (XT.Kept.of_eq hh0).push bh3
  have hA3 := hA.keep X3.warmed.alike (kp3 _ _ hA.1.1)
  have hne : b ≠ s.heap.size := hA.1.ne
  have c4 : Steps p.tables e below (s₁.setTop (entryFrame m #[.ref b, .int (Int32.ofNat o), .int (Int32.ofNat len)] 6)) (T3.setTop (mkF m 3 #[.val (.ref b), .val (.int (Int32.ofNat o)), .val (.int (Int32.ofNat len)), .unset, .unset, .unset] [.ref s.heap.size])) := c2.trans (st3 _ (Steps.refl _))
  have c5 : Steps p.tables e below (s₁.setTop (entryFrame m #[.ref b, .int (Int32.ofNat o), .int (Int32.ofNat len)] 6)) (T3.setTop (mkF m 9 #[.val (.ref b), .val (.int (Int32.ofNat o)), .val (.int (Int32.ofNat len)), .val (.ref s.heap.size), .unset, .unset] [.int (Int32.ofNat len), .int 0, .ref s.heap.size, .int (Int32.ofNat o), .ref b])) := c4.trans (by
    refine XS.astoreN X3.here hexec rfl (hb hbytes d3) rfl rfl rfl ?_
    refine XS.aloadN X3.here hexec rfl (hb hbytes d4) rfl rfl ?_
    refine XS.iloadN X3.here hexec rfl (hb hbytes d5) rfl ?_
    refine XS.aloadN X3.here hexec rfl (hb hbytes d6) rfl rfl ?_
    refine iconstV X3.here hexec rfl 0 (hb hbytes d7) (by decide) ?_
    refine XS.iloadN X3.here hexec rfl (hb hbytes d8) rfl ?_
    exact Steps.refl _)
  obtain ⟨v6, T6, X6, E6, g6⟩ := X3.callS hexec (Cmp5.law l b A s.heap.size B3 o 0 len) hown (wks W (staticW U16 115 Cmp5.yN)) (wk W Cmp5.tab) (W := 0) (Nat.le_of_ble_eq_true rfl) (Nat.le_of_ble_eq_true rfl) (Nat.le_refl _) (by show 0 + len + 0 ≤ len; omega) (g := (mkF m 9 #[.val (.ref b), .val (.int (Int32.ofNat o)), .val (.int (Int32.ofNat len)), .val (.ref s.heap.size), .unset, .unset] [.int (Int32.ofNat len), .int (Int32.ofNat 0), .ref s.heap.size, .int (Int32.ofNat o), .ref b])) rfl (by rw [hml]; rfl) c5 (argsL := [.ref b, .int (Int32.ofNat o), .ref s.heap.size, .int (Int32.ofNat 0), .int (Int32.ofNat len)]) (rest := []) rfl rfl (by show 2 * 0 + 0 ≤ _; decide) (hb hbytes d9) (⟨rfl, hA3, ba3, hne, l1, by rw [bs3]; simp, hp⟩)
  obtain ⟨rfl, B6, p6, f6⟩ := E6
  have c7 : Steps p.tables e below (s₁.setTop (entryFrame m #[.ref b, .int (Int32.ofNat o), .int (Int32.ofNat len)] 6)) (T6.setTop (mkF m 12 #[.val (.ref b), .val (.int (Int32.ofNat o)), .val (.int (Int32.ofNat len)), .val (.ref s.heap.size), .unset, .unset] [.int (Int32.ofNat len)])) := g6
  have c8 : Steps p.tables e below (s₁.setTop (entryFrame m #[.ref b, .int (Int32.ofNat o), .int (Int32.ofNat len)] 6)) (T6.setTop (mkF m 58 #[.val (.ref b), .val (.int (Int32.ofNat o)), .val (.int (Int32.ofNat len)), .val (.ref s.heap.size), .val (.int (Int32.ofNat len)), .unset] [.ref s.heap.size])) := c7.trans (by
    refine XS.istore X6.here hexec rfl (hb hbytes d12) rfl rfl ?_
    refine XS.iload X6.here hexec rfl (hb hbytes d14) rfl ?_
    refine XS.iloadN X6.here hexec rfl (hb hbytes d16) rfl ?_
    refine XS.icmpYes X6.here hexec rfl (pc0 := 17) rfl (hb hbytes d17) rfl (ii_eq_t rfl) (by decide) rfl ?_
    refine XS.aloadN X6.here hexec rfl (hb hbytes d57) rfl rfl ?_
    exact Steps.refl _)
  have X8 := X6.wide (L' := []) (cells' := 1) (slots' := len) (fun x hx hlt => by
    simp only [List.nil_append, copyLocs, List.mem_map, List.mem_range] at hx
    obtain ⟨i, -, rfl⟩ := hx
    exact absurd hlt (Nat.lt_irrefl _)) (Nat.le_refl _) (by omega)
  exact ⟨T6, some (.ref s.heap.size), _, _, _, X8, rfl, rfl, rfl, (fun h => by cases h), ⟨⟨rfl, B6, ba3.like (X3.warmed.alike.symm.trans X6.warmed.alike) p6.1 f6.1 f6.2.1 f6.2.2.1, f6.2.1.trans bv3, by rw [X6.warmed.alike.findClass, f6.1]; exact bf3, by rw [f6.2.2.1, bs3]; simp, fun j hj => by rw [f6.2.2.2 j, if_pos (by omega)]; rfl, kp3.put p6 (Nat.le_refl _)⟩, by rw [p6.2.2, bh3, hh0]; simp⟩, fun fs hl => c8.trans (X8.areturnOut hexec rfl hret rfl (hb hbytes d58) hl)⟩
end Cmp3
namespace CodL
def yN : MethodName := ⟨"java/lang/StringUTF16", "coderFromArrayLen", "([BI)B"⟩
abbrev yB : ByteArray := jdk_52_method_15_code
theorem d0 : decode yB 0 = .ok (.iload_n 1, 1) := by decide +kernel
theorem d1 : decode yB 1 = .ok (.aload_n 0, 1) := by decide +kernel
theorem d2 : decode yB 2 = .ok (.arraylength, 1) := by decide +kernel
theorem d3 : decode yB 3 = .ok (.isub, 1) := by decide +kernel
theorem d4 : decode yB 4 = .ok (.bipush 31, 2) := by decide +kernel
theorem d6 : decode yB 6 = .ok (.iushr, 1) := by decide +kernel
theorem d7 : decode yB 7 = .ok (.i2b, 1) := by decide +kernel
theorem d8 : decode yB 8 = .ok (.ireturn, 1) := by decide +kernel
def site : List Cond := []
def tab : Cond := tabOf yN yB 2 (some .byte) site
def P (d : Addr) (B : Cell) (args : Array Value) (s : State) : Prop := args = #[.ref d, .int (Int32.ofNat B.slots.size)] ∧ Arr .byte d B s
def E (r : Option Value) (s u : State) : Prop := XT.PureE (some (.int 0)) r s u
/-- an array as long as the number of chars: LATIN1 -/
theorem law (l : Launch) (d : Addr) (B : Cell) : Law l yN 2 2 0 0 yB 2 (some .byte) site (P d B) E [] 0 0 := by
  refine Law.of_walk (plainFor_of_name (by decide +kernel)) (by decide +kernel) (by decide +kernel) (by decide) (fun _ _ h => by rw [h.1]; rfl) (fun _ U U' hal hh h => ⟨h.1, h.2.mv hal hh⟩) (fun r U U' V V' h1 hal h2 h => XT.PureE.mv r U U' V V' h1 hal h2 h) ?_
  intro p e s m args below meth c s₁ X0 hexec hbytes hml hret hlk hnm hown hh0 W hP
  obtain ⟨rfl, hB⟩ := hP
  have hB0 := hB.mv X0.warmed.alike hh0
  have c1 : Steps p.tables e below (s₁.setTop (entryFrame m #[.ref d, .int (Int32.ofNat B.slots.size)] 2)) (s₁.setTop (mkF m 0 #[.val (.ref d), .val (.int (Int32.ofNat B.slots.size))] [])) := entry rfl
  have c2 : Steps p.tables e below (s₁.setTop (entryFrame m #[.ref d, .int (Int32.ofNat B.slots.size)] 2)) (s₁.setTop (mkF m 2 #[.val (.ref d), .val (.int (Int32.ofNat B.slots.size))] [.ref d, .int (Int32.ofNat B.slots.size)])) := c1.trans (by
    refine XS.iloadN X0.here hexec rfl (hb hbytes d0) rfl ?_
    refine XS.aloadN X0.here hexec rfl (hb hbytes d1) rfl rfl ?_
    exact Steps.refl _)
  have c3 : Steps p.tables e below (s₁.setTop (entryFrame m #[.ref d, .int (Int32.ofNat B.slots.size)] 2)) (s₁.setTop (mkF m 8 #[.val (.ref d), .val (.int (Int32.ofNat B.slots.size))] [.int (lo8 (ushr (Int32.ofNat B.slots.size - Int32.ofNat B.slots.size) 31))])) := c2.trans (by
    refine X0.alen hexec hB0 rfl rfl (hb hbytes d2) ?_
    refine XS.isub X0.here hexec rfl (hb hbytes d3) rfl ?_
    refine bipushV X0.here hexec rfl 31 (hb hbytes d4) (by decide) ?_
    refine iushr X0.here hexec rfl (hb hbytes d6) rfl ?_
    refine i2b X0.here hexec rfl (hb hbytes d7) rfl ?_
    exact Steps.refl _)
  have e0 : lo8 (ushr (Int32.ofNat B.slots.size - Int32.ofNat B.slots.size) 31) = 0 := by rw [Int32.sub_self]; decide
  rw [e0] at c3
  exact ⟨s₁, some (.int 0), _, _, _, X0, rfl, rfl, rfl, (fun h => by cases h), ⟨rfl, hh0⟩, fun fs hl => c3.trans (X0.ireturnOut hexec hret rfl (Or.inr (Or.inr (Or.inl rfl))) (hb hbytes d8) hl)⟩
end CodL
/-- the String at a is Latin-1 over a new byte[] (the heap's one new cell): the low bytes of the len chars of A from o on; every cell but a is kept -/
def Got (a : Addr) (D : Cell) (fV fC : Field) (A : Cell) (o len : Nat) (r : Option Value) (s u : State) : Prop := r = none ∧ ∃ D' V : Cell, Blank "java/lang/String" a D' u ∧ Same D D' [fV.slot, fC.slot] ∧ D'.slots[fV.slot]? = some (.ref s.heap.size) ∧ D'.slots[fC.slot]? = some (.int 0) ∧ Arr .byte s.heap.size V u ∧ V.vm = .none ∧ u.vm.findClass "[B" = some V.cls ∧ V.slots.size = len ∧ (∀ j, j < len → V.slots[j]? = some (.int (lo8 (cv A (o + j))))) ∧ (∀ (y : Addr) (c : Cell), y ≠ a → s.heap[y]? = some c → u.heap[y]? = some c) ∧ u.heap.size = s.heap.size + 1
theorem Got.mv {a : Addr} {D A : Cell} {fV fC : Field} {o len : Nat} : ∀ r (U U' V V' : State), U'.heap = U.heap → V.vm.Alike V'.vm → V'.heap = V.heap → Got a D fV fC A o len r U V → Got a D fV fC A o len r U' V' :=
  fun r U U' V V' h1 hal h2 ⟨e0, D', X, a1, a2, a3, a4, a5, a6, a7, a8, a9, a10, a11⟩ => ⟨e0, D', X, a1.mv hal h2, a2, by rw [h1]; exact a3, a4, by rw [h1]; exact a5.mv hal h2, a6, by rw [hal.findClass]; exact a7, a8, a9, by rw [h1, h2]; exact a10, by rw [h1, h2]; exact a11⟩
namespace New4
def yN : MethodName := ⟨"java/lang/String", "<init>", "([CIILjava/lang/Void;)V"⟩
abbrev yB : ByteArray := jdk_42_method_149_code
theorem d0 : decode yB 0 = .ok (.aload_n 0, 1) := by decide +kernel
theorem d1 : decode yB 1 = .ok (.invokespecial 1, 3) := by decide +kernel
theorem d4 : decode yB 4 = .ok (.iload_n 3, 1) := by decide +kernel
theorem d5 : decode yB 5 = .ok (.ifCond (.ne) 22, 3) := by decide +kernel
theorem d27 : decode yB 27 = .ok (.getstatic 38, 3) := by decide +kernel
theorem d30 : decode yB 30 = .ok (.ifCond (.eq) 28, 3) := by decide +kernel
theorem d33 : decode yB 33 = .ok (.aload_n 1, 1) := by decide +kernel
theorem d34 : decode yB 34 = .ok (.iload_n 2, 1) := by decide +kernel
theorem d35 : decode yB 35 = .ok (.iload_n 3, 1) := by decide +kernel
theorem d36 : decode yB 36 = .ok (.invokestatic 177, 3) := by decide +kernel
theorem d39 : decode yB 39 = .ok (.astore 5, 2) := by decide +kernel
theorem d41 : decode yB 41 = .ok (.aload_n 0, 1) := by decide +kernel
theorem d42 : decode yB 42 = .ok (.aload 5, 2) := by decide +kernel
theorem d44 : decode yB 44 = .ok (.iload_n 3, 1) := by decide +kernel
theorem d45 : decode yB 45 = .ok (.invokestatic 47, 3) := by decide +kernel
theorem d48 : decode yB 48 = .ok (.putfield 15, 3) := by decide +kernel
theorem d51 : decode yB 51 = .ok (.aload_n 0, 1) := by decide +kernel
theorem d52 : decode yB 52 = .ok (.aload 5, 2) := by decide +kernel
theorem d54 : decode yB 54 = .ok (.putfield 9, 3) := by decide +kernel
theorem d57 : decode yB 57 = .ok (.return_, 1) := by decide +kernel
def site : List Cond := [.fieldLink "java/lang/String" 38 "java/lang/String" "COMPACT_STRINGS" "Z", Cmp3.tab, CodL.tab, .laysFinal "java/lang/String" "java/lang/String" "value" "[B", .fieldLink "java/lang/String" 9 "java/lang/String" "value" "[B", .laysFinal "java/lang/String" "java/lang/String" "coder" "B", .fieldLink "java/lang/String" 15 "java/lang/String" "coder" "B"] ++ objW "java/lang/String" 1 ++ staticW "java/lang/String" 177 Cmp3.yN ++ staticW "java/lang/String" 47 CodL.yN
def tab : Cond := tabOf yN yB 6 none site
def P (a : Addr) (D : Cell) (fV fC : Field) (b : Addr) (A : Cell) (z : Int32) (o len : Nat) (args : Array Value) (s : State) : Prop := args = #[.ref a, .ref b, .int (Int32.ofNat o), .int (Int32.ofNat len), .null] ∧ Blank "java/lang/String" a D s ∧ Found "java/lang/String" "value" "[B" fV s ∧ Found "java/lang/String" "coder" "B" fC s ∧ Ch b A s ∧ StaticIs s "java/lang/String" "COMPACT_STRINGS" "Z" (.int z) ∧ ¬ z = 0 ∧ 0 < len ∧ o + len ≤ A.slots.size ∧ len ≤ 536870912 ∧ ∀ i, i < len → ¬ 255 < cv A (o + i)
def E (a : Addr) (D : Cell) (fV fC : Field) (A : Cell) (o len : Nat) (r : Option Value) (s u : State) : Prop := Got a D fV fC A o len r s u
/-- len > 0, no char of the range above 255: a Latin-1 String of their low bytes -/
theorem law (l : Launch) (a : Addr) (D : Cell) (fV fC : Field) (b : Addr) (A : Cell) (z : Int32) (o len : Nat) : Law l yN 5 4 2 35 yB 6 none site (P a D fV fC b A z o len) (E a D fV fC A o len) [⟨a, fC.slot⟩, ⟨a, fV.slot⟩] 1 len := by
  refine Law.of_walk (plainFor_of_name (by decide +kernel)) (by decide +kernel) (by decide +kernel) (by decide) (fun _ _ h => by rw [h.1]; rfl) (fun _ U U' hal hh h => ⟨h.1, h.2.1.mv hal hh, h.2.2.1.al hal, h.2.2.2.1.al hal, h.2.2.2.2.1.mv hal hh, h.2.2.2.2.2.1.there hal hh, h.2.2.2.2.2.2⟩) (fun r U U' V V' h1 hal h2 h => Got.mv r U U' V V' h1 hal h2 h) ?_
  intro p e s m args below meth c s₁ X0 hexec hbytes hml hret hlk hnm hown hh0 W hP
  obtain ⟨rfl, hB, f1, f2, hA, s1, hz, l0, l1, l2, hp⟩ := hP
  have a31 := hA.1.2.2.2
  have c1 : Steps p.tables e below (s₁.setTop (entryFrame m #[.ref a, .ref b, .int (Int32.ofNat o), .int (Int32.ofNat len), .null] 6)) (s₁.setTop (mkF m 0 #[.val (.ref a), .val (.ref b), .val (.int (Int32.ofNat o)), .val (.int (Int32.ofNat len)), .val .null, .unset] [])) := entry rfl
  have c2 : Steps p.tables e below (s₁.setTop (entryFrame m #[.ref a, .ref b, .int (Int32.ofNat o), .int (Int32.ofNat len), .null] 6)) (s₁.setTop (mkF m 1 #[.val (.ref a), .val (.ref b), .val (.int (Int32.ofNat o)), .val (.int (Int32.ofNat len)), .val .null, .unset] [.ref a])) := c1.trans (by
    refine XS.aloadN X0.here hexec rfl (hb hbytes d0) rfl rfl ?_
    exact Steps.refl _)
  obtain ⟨T3, X3, q3, st3⟩ := X0.oinit hexec hown (wks W (objW "java/lang/String" 1)) (g := (mkF m 1 #[.val (.ref a), .val (.ref b), .val (.int (Int32.ofNat o)), .val (.int (Int32.ofNat len)), .val .null, .unset] [.ref a])) rfl (by rw [hml]; rfl) (rest := []) rfl (hb hbytes d1) (W := 0) (by show 2 * 0 + 0 ≤ _; decide) (Nat.le_of_ble_eq_true rfl) (Nat.le_of_ble_eq_true rfl)
  have hh3 := q3.trans hh0
  have c4 : Steps p.tables e below (s₁.setTop (entryFrame m #[.ref a, .ref b, .int (Int32.ofNat o), .int (Int32.ofNat len), .null] 6)) (T3.setTop (mkF m 27 #[.val (.ref a), .val (.ref b), .val (.int (Int32.ofNat o)), .val (.int (Int32.ofNat len)), .val .null, .unset] [])) := (c2.trans (st3 _ (Steps.refl _))).trans (by
    refine XS.iloadN X3.here hexec rfl (hb hbytes d4) rfl ?_
    refine XS.ifYes X3.here hexec rfl (pc0 := 5) rfl (hb hbytes d5) rfl (i0_ne_t (nz32 (by omega) l0)) (by decide) rfl ?_
    exact Steps.refl _)
  obtain ⟨T5, X5, q5, st5⟩ := X3.sget hexec hown (wk W (.fieldLink "java/lang/String" 38 "java/lang/String" "COMPACT_STRINGS" "Z")) s1 (fun _ _ h => by rw [hh3]; exact h) (g := (mkF m 27 #[.val (.ref a), .val (.ref b), .val (.int (Int32.ofNat o)), .val (.int (Int32.ofNat len)), .val .null, .unset] [])) rfl (hb hbytes d27)
  have hh5 := q5.trans hh3
  have c6 : Steps p.tables e below (s₁.setTop (entryFrame m #[.ref a, .ref b, .int (Int32.ofNat o), .int (Int32.ofNat len), .null] 6)) (T5.setTop (mkF m 30 #[.val (.ref a), .val (.ref b), .val (.int (Int32.ofNat o)), .val (.int (Int32.ofNat len)), .val .null, .unset] [.int z])) := c4.trans (st5 _ (Steps.refl _))
  have c7 : Steps p.tables e below (s₁.setTop (entryFrame m #[.ref a, .ref b, .int (Int32.ofNat o), .int (Int32.ofNat len), .null] 6)) (T5.setTop (mkF m 36 #[.val (.ref a), .val (.ref b), .val (.int (Int32.ofNat o)), .val (.int (Int32.ofNat len)), .val .null, .unset] [.int (Int32.ofNat len), .int (Int32.ofNat o), .ref b])) := c6.trans (by
    refine XS.ifNo X5.here hexec rfl (hb hbytes d30) rfl (i0_eq_f hz) ?_
    refine XS.aloadN X5.here hexec rfl (hb hbytes d33) rfl rfl ?_
    refine XS.iloadN X5.here hexec rfl (hb hbytes d34) rfl ?_
    refine XS.iloadN X5.here hexec rfl (hb hbytes d35) rfl ?_
    exact Steps.refl _)
  obtain ⟨v8, T8, X8, E8, g8⟩ := X5.callS hexec (Cmp3.law l b A o len) hown (wks W (staticW "java/lang/String" 177 Cmp3.yN)) (wk W Cmp3.tab) (W := 0) (Nat.le_of_ble_eq_true rfl) (Nat.le_of_ble_eq_true rfl) (Nat.le_refl _) (by show 0 + len ≤ len; omega) (g := (mkF m 36 #[.val (.ref a), .val (.ref b), .val (.int (Int32.ofNat o)), .val (.int (Int32.ofNat len)), .val .null, .unset] [.int (Int32.ofNat len), .int (Int32.ofNat o), .ref b])) rfl (by rw [hml]; rfl) c7 (argsL := [.ref b, .int (Int32.ofNat o), .int (Int32.ofNat len)]) (rest := []) rfl rfl (by show 2 * 0 + 0 ≤ _; decide) (hb hbytes d36) (⟨rfl, hA.mv X5.warmed.alike hh5, l1, l2, hp⟩)
  obtain ⟨e8, z8⟩ := E8
  obtain ⟨rfl, N, n1, n2, n3, n4, n5, n6⟩ := NewArr.mv _ T5 s _ _ hh5.symm (Vm.Alike.refl _) rfl e8
  rw [hh5] at z8
  have hB1 := hB.keep X8.warmed.alike (n6 _ _ hB.1)
  have hne : s.heap.size ≠ a := (Nat.ne_of_lt (Array.getElem?_eq_some_iff.mp hB.1).1).symm
  have c9 : Steps p.tables e below (s₁.setTop (entryFrame m #[.ref a, .ref b, .int (Int32.ofNat o), .int (Int32.ofNat len), .null] 6)) (T8.setTop (mkF m 39 #[.val (.ref a), .val (.ref b), .val (.int (Int32.ofNat o)), .val (.int (Int32.ofNat len)), .val .null, .unset] [.ref s.heap.size])) := g8
  have c10 : Steps p.tables e below (s₁.setTop (entryFrame m #[.ref a, .ref b, .int (Int32.ofNat o), .int (Int32.ofNat len), .null] 6)) (T8.setTop (mkF m 45 #[.val (.ref a), .val (.ref b), .val (.int (Int32.ofNat o)), .val (.int (Int32.ofNat len)), .val .null, .val (.ref s.heap.size)] [.int (Int32.ofNat N.slots.size), .ref s.heap.size, .ref a])) := by
    have hc : Steps p.tables e below (s₁.setTop (entryFrame m #[.ref a, .ref b, .int (Int32.ofNat o), .int (Int32.ofNat len), .null] 6)) (T8.setTop (mkF m 45 #[.val (.ref a), .val (.ref b), .val (.int (Int32.ofNat o)), .val (.int (Int32.ofNat len)), .val .null, .val (.ref s.heap.size)] [.int (Int32.ofNat len), .ref s.heap.size, .ref a])) := c9.trans (by
      refine XS.astore X8.here hexec rfl (hb hbytes d39) rfl rfl rfl ?_
      refine XS.aloadN X8.here hexec rfl (hb hbytes d41) rfl rfl ?_
      refine XS.aload X8.here hexec rfl (hb hbytes d42) rfl rfl ?_
      refine XS.iloadN X8.here hexec rfl (hb hbytes d44) rfl ?_
      exact Steps.refl _)
    rw [n4]; exact hc
  obtain ⟨v11, T11, X11, E11, g11⟩ := X8.callS hexec (CodL.law l s.heap.size N) hown (wks W (staticW "java/lang/String" 47 CodL.yN)) (wk W CodL.tab) (W := 1) (Nat.le_of_ble_eq_true rfl) (Nat.le_of_ble_eq_true rfl) (Nat.le_refl _) (by show 0 + len + 0 ≤ len; omega) (g := (mkF m 45 #[.val (.ref a), .val (.ref b), .val (.int (Int32.ofNat o)), .val (.int (Int32.ofNat len)), .val .null, .val (.ref s.heap.size)] [.int (Int32.ofNat N.slots.size), .ref s.heap.size, .ref a])) rfl (by rw [hml]; rfl) c10 (argsL := [.ref s.heap.size, .int (Int32.ofNat N.slots.size)]) (rest := [.ref a]) rfl rfl (by show 2 * 0 + (1 + 0) ≤ _; decide) (hb hbytes d45) (⟨rfl, n1⟩)
  obtain ⟨rfl, q11⟩ := E11
  have hB11 := hB1.mv (X8.warmed.alike.symm.trans X11.warmed.alike) q11
  have c12 : Steps p.tables e below (s₁.setTop (entryFrame m #[.ref a, .ref b, .int (Int32.ofNat o), .int (Int32.ofNat len), .null] 6)) (T11.setTop (mkF m 48 #[.val (.ref a), .val (.ref b), .val (.int (Int32.ofNat o)), .val (.int (Int32.ofNat len)), .val .null, .val (.ref s.heap.size)] [.int 0, .ref a])) := g11
  obtain ⟨T13, X13, p13, bl13, sl13, st13⟩ := X11.finit hexec hown (wk W (.fieldLink "java/lang/String" 15 "java/lang/String" "coder" "B")) (Or.inr ⟨_, (wk W (.laysFinal "java/lang/String" "java/lang/String" "coder" "B"))⟩) (Or.inl ⟨rfl, hnm⟩) f2 (Or.inl rfl) hB11 (t := .byte) (by decide +kernel) rfl (g := (mkF m 48 #[.val (.ref a), .val (.ref b), .val (.int (Int32.ofNat o)), .val (.int (Int32.ofNat len)), .val .null, .val (.ref s.heap.size)] [.int 0, .ref a])) rfl (rest := []) rfl (hb hbytes d48)
  have c14 : Steps p.tables e below (s₁.setTop (entryFrame m #[.ref a, .ref b, .int (Int32.ofNat o), .int (Int32.ofNat len), .null] 6)) (T13.setTop (mkF m 54 #[.val (.ref a), .val (.ref b), .val (.int (Int32.ofNat o)), .val (.int (Int32.ofNat len)), .val .null, .val (.ref s.heap.size)] [.ref s.heap.size, .ref a])) := (c12.trans (st13 _ (Steps.refl _))).trans (by
    refine XS.aloadN X13.here hexec rfl (hb hbytes d51) rfl rfl ?_
    refine XS.aload X13.here hexec rfl (hb hbytes d52) rfl rfl ?_
    exact Steps.refl _)
  obtain ⟨T15, X15, p15, bl15, sl15, st15⟩ := X13.finit hexec hown (wk W (.fieldLink "java/lang/String" 9 "java/lang/String" "value" "[B")) (Or.inr ⟨_, (wk W (.laysFinal "java/lang/String" "java/lang/String" "value" "[B"))⟩) (Or.inl ⟨rfl, hnm⟩) f1 (Or.inl rfl) bl13 (t := (.array .byte)) (by decide +kernel) rfl (g := (mkF m 54 #[.val (.ref a), .val (.ref b), .val (.int (Int32.ofNat o)), .val (.int (Int32.ofNat len)), .val .null, .val (.ref s.heap.size)] [.ref s.heap.size, .ref a])) rfl (rest := []) rfl (hb hbytes d54)
  have c16 : Steps p.tables e below (s₁.setTop (entryFrame m #[.ref a, .ref b, .int (Int32.ofNat o), .int (Int32.ofNat len), .null] 6)) (T15.setTop (mkF m 57 #[.val (.ref a), .val (.ref b), .val (.int (Int32.ofNat o)), .val (.int (Int32.ofNat len)), .val .null, .val (.ref s.heap.size)] [])) := c14.trans (st15 _ (Steps.refl _))
  have ap := apart (Or.inr ⟨_, (wk W (.laysFinal "java/lang/String" "java/lang/String" "value" "[B"))⟩) (Or.inr ⟨_, (wk W (.laysFinal "java/lang/String" "java/lang/String" "coder" "B"))⟩) f1 f2 (t₁ := .array .byte) (t₂ := .byte) (by decide +kernel) (by decide +kernel) (by decide)
  have al := X8.warmed.alike.symm.trans X15.warmed.alike
  have n7 : T11.heap[s.heap.size]? = some N := by rw [q11]; exact n1.1
  exact ⟨T15, none, _, _, _, X15, by simp, rfl, by omega, (fun _ => rfl), ⟨rfl, _, N, bl15, ((Same.refl D _).set _ (by simp)).set _ (by simp), sl15, (Cell.slots_setSlot_ne _ ap).trans sl13, n1.keep al (p15.other hne (p13.other hne n7)), n2, by rw [al.findClass]; exact n3, n4, n5, fun y c h1 h2 => p15.other h1 (p13.other h1 (by rw [q11]; exact n6 y c h2)), by rw [p15.2.2, p13.2.2, q11]; exact z8⟩, fun fs hl => c16.trans (X15.returnOut hexec hret (hb hbytes d57) hl)⟩
end New4
namespace New1
def yN : MethodName := ⟨"java/lang/String", "<init>", "([C)V"⟩
abbrev yB : ByteArray := jdk_42_method_3_code
theorem d0 : decode yB 0 = .ok (.aload_n 0, 1) := by decide +kernel
theorem d1 : decode yB 1 = .ok (.aload_n 1, 1) := by decide +kernel
theorem d2 : decode yB 2 = .ok (.iconst 0, 1) := by decide +kernel
theorem d3 : decode yB 3 = .ok (.aload_n 1, 1) := by decide +kernel
theorem d4 : decode yB 4 = .ok (.arraylength, 1) := by decide +kernel
theorem d5 : decode yB 5 = .ok (.aconst_null, 1) := by decide +kernel
theorem d6 : decode yB 6 = .ok (.invokespecial 27, 3) := by decide +kernel
theorem d9 : decode yB 9 = .ok (.return_, 1) := by decide +kernel
def site : List Cond := [New4.tab] ++ initW "java/lang/String" 27 New4.yN
def tab : Cond := tabOf yN yB 2 none site
def P (a : Addr) (D : Cell) (fV fC : Field) (b : Addr) (A : Cell) (z : Int32) (args : Array Value) (s : State) : Prop := args = #[.ref a, .ref b] ∧ Blank "java/lang/String" a D s ∧ Found "java/lang/String" "value" "[B" fV s ∧ Found "java/lang/String" "coder" "B" fC s ∧ Ch b A s ∧ StaticIs s "java/lang/String" "COMPACT_STRINGS" "Z" (.int z) ∧ ¬ z = 0 ∧ 0 < A.slots.size ∧ A.slots.size ≤ 536870912 ∧ ∀ i, i < A.slots.size → ¬ 255 < cv A i
def E (a : Addr) (D : Cell) (fV fC : Field) (A : Cell) (r : Option Value) (s u : State) : Prop := Got a D fV fC A 0 A.slots.size r s u
/-- new String(chars), not empty, no char above 255: a Latin-1 String of their low bytes -/
theorem law (l : Launch) (a : Addr) (D : Cell) (fV fC : Field) (b : Addr) (A : Cell) (z : Int32) : Law l yN 2 1 3 52 yB 2 none site (P a D fV fC b A z) (E a D fV fC A) [⟨a, fC.slot⟩, ⟨a, fV.slot⟩] 1 A.slots.size := by
  refine Law.of_walk (plainFor_of_name (by decide +kernel)) (by decide +kernel) (by decide +kernel) (by decide) (fun _ _ h => by rw [h.1]; rfl) (fun _ U U' hal hh h => ⟨h.1, h.2.1.mv hal hh, h.2.2.1.al hal, h.2.2.2.1.al hal, h.2.2.2.2.1.mv hal hh, h.2.2.2.2.2.1.there hal hh, h.2.2.2.2.2.2⟩) (fun r U U' V V' h1 hal h2 h => Got.mv r U U' V V' h1 hal h2 h) ?_
  intro p e s m args below meth c s₁ X0 hexec hbytes hml hret hlk hnm hown hh0 W hP
  obtain ⟨rfl, hB, f1, f2, hA, s1, hz, l0, l2, hp⟩ := hP
  have c1 : Steps p.tables e below (s₁.setTop (entryFrame m #[.ref a, .ref b] 2)) (s₁.setTop (mkF m 0 #[.val (.ref a), .val (.ref b)] [])) := entry rfl
  have c2 : Steps p.tables e below (s₁.setTop (entryFrame m #[.ref a, .ref b] 2)) (s₁.setTop (mkF m 6 #[.val (.ref a), .val (.ref b)] [.null, .int (Int32.ofNat A.slots.size), .int 0, .ref b, .ref a])) := c1.trans (by
    refine XS.aloadN X0.here hexec rfl (hb hbytes d0) rfl rfl ?_
    refine XS.aloadN X0.here hexec rfl (hb hbytes d1) rfl rfl ?_
    refine iconstV X0.here hexec rfl 0 (hb hbytes d2) (by decide) ?_
    refine XS.aloadN X0.here hexec rfl (hb hbytes d3) rfl rfl ?_
    refine X0.alen hexec (hA.1.mv X0.warmed.alike hh0) rfl rfl (hb hbytes d4) ?_
    refine XS.aconstNull X0.here hexec rfl (hb hbytes d5) ?_
    exact Steps.refl _)
  obtain ⟨v3, T3, X3, E3, g3⟩ := X0.callN hexec (New4.law l a D fV fC b A z 0 A.slots.size) rfl hown (wks W (initW "java/lang/String" 27 New4.yN)) (W New4.tab (by simp only [site, List.mem_cons, List.mem_append, true_or, or_true])) (W := 0) (Nat.le_of_ble_eq_true rfl) (Nat.le_of_ble_eq_true rfl) (Nat.le_refl _) (by show 0 + A.slots.size ≤ A.slots.size; omega) (g := (mkF m 6 #[.val (.ref a), .val (.ref b)] [.null, .int (Int32.ofNat A.slots.size), .int (Int32.ofNat 0), .ref b, .ref a])) rfl (by rw [hml]; rfl) c2 (argsL := [.ref b, .int (Int32.ofNat 0), .int (Int32.ofNat A.slots.size), .null]) (rest := []) rfl rfl (by show 2 * 0 + 0 ≤ _; decide) (hb hbytes d6) (⟨rfl, hB.mv X0.warmed.alike hh0, f1.al X0.warmed.alike, f2.al X0.warmed.alike, hA.mv X0.warmed.alike hh0, s1.there X0.warmed.alike hh0, hz, l0, by omega, l2, fun i hi => by rw [Nat.zero_add]; exact hp i hi⟩)
  have e0 := Got.mv _ s₁ s _ _ hh0.symm (Vm.Alike.refl _) rfl E3
  obtain rfl := e0.1
  have c4 : Steps p.tables e below (s₁.setTop (entryFrame m #[.ref a, .ref b] 2)) (T3.setTop (mkF m 9 #[.val (.ref a), .val (.ref b)] [])) := g3
  exact ⟨T3, none, _, _, _, X3, by simp, rfl, by omega, (fun _ => rfl), e0, fun fs hl => c4.trans (X3.returnOut hexec hret (hb hbytes d9) hl)⟩
theorem pays {l : Launch} {R : Room} {p : Program} {e : Env} {below : List Frame} {s : State} {sargs : Array Value} {len W : Nat} (a : Addr) (D : Cell) (fV fC : Field) (b : Addr) (A : Cell) (z : Int32) (htab : tab.before sargs s = true) (hfr : 4 ≤ R.frames) (hlo : W + 65 ≤ R.locals) :
    Back l R p e below s sargs yN len W (fun A₁ a₁ => A₁.cells + 1 ≤ R.cells ∧ A₁.slots + A.slots.size ≤ R.slots ∧ P a D fV fC b A z a₁ A₁.U) (fun A₁ _ v₁ B₁ => E a D fV fC A v₁ A₁.U B₁.U ∧ B₁.locs = A₁.locs ++ [⟨a, fC.slot⟩, ⟨a, fV.slot⟩] ∧ B₁.cells = A₁.cells + 1 ∧ B₁.slots = A₁.slots + A.slots.size) :=
  (law l a D fV fC b A z).pays htab hfr (by omega)
end New1
/-- the byte, read back as charAt reads it, is the char -/
theorem lo8_mask {x : Int32} (h0 : ¬ x < 0) (h1 : ¬ 255 < x) : lo8 x &&& 255 = x := by
  have t : ∀ k : Fin 256, lo8 (Int32.ofNat k.val) &&& 255 = Int32.ofNat k.val := by decide +kernel
  rw [Int32.lt_iff_toInt_lt] at h0 h1
  have e0 : (0 : Int32).toInt = 0 := rfl
  have e1 : (255 : Int32).toInt = 255 := rfl
  obtain ⟨k, hk⟩ : ∃ k : Nat, x.toInt = k := ⟨x.toInt.toNat, by omega⟩
  have hx : x = Int32.ofNat k := Int32.toInt_inj.mp (by rw [hk, Int32.toInt_ofNat_small (by omega)])
  rw [hx]
  exact t ⟨k, by omega⟩
end StrChars
namespace StrChars.Road
open Jvm Sem ClassFile Op Lib Jvm.Stand Jvm.Free Jvm.Free.XT
open Jvm.Lib.Cold (StaticIs)
abbrev ST : String := "java/lang/String"
/-- every table word that New1's law asks, flat -/
abbrev words : List Jvm.Cond := [.code New1.yN New1.yB 2 none, .initialized ST, .methodLink ST 27 New4.yN, .instanceMethod New4.yN,
  .code New4.yN New4.yB 6 none, .fieldLink ST 38 ST "COMPACT_STRINGS" "Z", .laysFinal ST ST "value" "[B", .fieldLink ST 9 ST "value" "[B", .laysFinal ST ST "coder" "B", .fieldLink ST 15 ST "coder" "B",
  .methodLink ST 1 Lib.objectInit, .instanceMethod Lib.objectInit, .code Lib.objectInit ⟨#[0xb1]⟩ 1 none, .methodLink ST 177 Cmp3.yN, .static Cmp3.yN, .methodLink ST 47 CodL.yN, .static CodL.yN,
  .code Cmp3.yN Cmp3.yB 6 (some (.array .byte)), .initialized U16, .arrayClass .byte, .methodLink U16 115 Cmp5.yN, .static Cmp5.yN, .code Cmp5.yN Cmp5.yB 7 (some .int), .code CodL.yN CodL.yB 2 (some .byte)]
theorem tab_of {a : Array Value} {s : State} (h : ∀ w ∈ words, w.before a s = true) : New1.tab.before a s = true := by
  have h5 : Cmp5.tab.before a s = true := unparts (wk h (.code Cmp5.yN Cmp5.yB 7 (some .int))) (wks h (.initialized Cmp5.yN.cls :: Cmp5.site))
  have hc : CodL.tab.before a s = true := unparts (wk h (.code CodL.yN CodL.yB 2 (some .byte))) (wks h (.initialized CodL.yN.cls :: CodL.site))
  have q5 : ∀ w ∈ Cmp5.tab :: words, w.before a s = true := fun w hw => (List.mem_cons.mp hw).elim (fun e => e ▸ h5) (h w)
  have h3 : Cmp3.tab.before a s = true := unparts (wk q5 (.code Cmp3.yN Cmp3.yB 6 (some (.array .byte)))) (wks q5 (.initialized Cmp3.yN.cls :: Cmp3.site))
  have q3 : ∀ w ∈ Cmp3.tab :: CodL.tab :: words, w.before a s = true := fun w hw => (List.mem_cons.mp hw).elim (fun e => e ▸ h3) fun hw => (List.mem_cons.mp hw).elim (fun e => e ▸ hc) (h w)
  have h4 : New4.tab.before a s = true := unparts (wk q3 (.code New4.yN New4.yB 6 none)) (wks q3 (.initialized New4.yN.cls :: New4.site))
  have q4 : ∀ w ∈ New4.tab :: words, w.before a s = true := fun w hw => (List.mem_cons.mp hw).elim (fun e => e ▸ h4) (h w)
  exact unparts (wk q4 (.code New1.yN New1.yB 2 none)) (wks q4 (.initialized New1.yN.cls :: New1.site))
/-- the words ride from the start Z to the walk's own state -/
theorem moved {Z s : State} {a0 args : Array Value} (hZ : Z.Warmed39 s.vm) (hw : ∀ d ∈ words, d.before a0 Z = true) : ∀ d ∈ words, d.before args s = true := fun d hd => by
  have q := hw d hd
  have t : ∀ d ∈ words, d = .arrayClass .byte ∨ (d.onTables && d.keepsFace) = true := by decide +kernel
  rcases t d hd with rfl | t
  · exact RoadKit.mvA hZ q
  · exact RoadKit.mv hZ q t
/-- WHAT COMES BACK, over the tables of the start Z: h the heap at the call, h' behind it -/
def Q (Z : State) (x : Addr) (A : Cell) (h : Heap) (v : Option Value) (h' : Heap) (L : List Loc) : Prop := v = none ∧ (∀ y ∈ L, y.base = x) ∧ RoadKit.Keep h h' [x] ∧ h'.size = h.size + 1 ∧ RoadKit.Exa Z h' x ST ∧ RoadKit.Fld Z h' x ST "value" "[B" (.ref h.size) ∧ RoadKit.Fld Z h' x ST "coder" "B" (.int 0) ∧
  (∃ V : Cell, RoadKit.Arr Z h' h.size V .byte ∧ V.vm = .none ∧ Z.vm.findClass "[B" = some V.cls ∧ V.slots.size = A.slots.size ∧ ∀ j, j < A.slots.size → V.slots[j]? = some (.int (lo8 (cv A j)))) ∧
  ∀ (O n d : String) (w : Value), RoadKit.Fld Z h x O n d w → RoadKit.slotOf Z O n d ≠ RoadKit.slotOf Z ST "value" "[B" → RoadKit.slotOf Z O n d ≠ RoadKit.slotOf Z ST "coder" "B" → RoadKit.Fld Z h' x O n d w
/-- **new String(chars) AT A CALL, IN THE ROAD'S FORM**: for specialBack behind newO: x the fresh String, b the char[] with the cell A -/
theorem back {p : Program} {l : Launch} {e : Env} {R : Room} {s : State} {args : Array Value} {below : List Frame} {len W : Nat} {Z : State} {a0 : Array Value} {h : Heap} (hZ : Z.Warmed39 s.vm) (hw : ∀ d ∈ words, d.before a0 Z = true) {kI : Nat} (wi : (Jvm.Cond.instantiable ST kI).before a0 Z = true)
    {x b : Addr} {A : Cell} {z : Int32} {v0 c0 : Value} (E : RoadKit.Exa Z h x ST) (V : RoadKit.Fld Z h x ST "value" "[B" v0) (C : RoadKit.Fld Z h x ST "coder" "B" c0) (K : RoadKit.Arr Z h b A .char) (hty : Typed .char A) (S : RoadKit.Sta Z h ST "COMPACT_STRINGS" "Z" (.int z)) (hz : ¬ z = 0)
    (l0 : 0 < A.slots.size) (l2 : A.slots.size ≤ 536870912) (hp : ∀ i, i < A.slots.size → ¬ 255 < cv A i) (hfr : 4 ≤ R.frames) (hlo : W + 65 ≤ R.locals) :
    Back l R p e below s args New1.yN len W (fun P a => a = #[.ref x, .ref b] ∧ P.U.heap = h ∧ P.cells + 1 ≤ R.cells ∧ P.slots + A.slots.size ≤ R.slots)
      (fun P _ v B => ∃ L, Q Z x A h v B.U.heap L ∧ B.locs = P.locs ++ L ∧ B.cells = P.cells + 1 ∧ B.slots = P.slots + A.slots.size) := by
  intro m meth c P g ig mk a X hg hsize hdg hW hn hp'
  obtain ⟨rfl, rfl, r1, r2⟩ := hp'
  have al : Z.vm.Alike P.U.vm := hZ.alike.trans X.warmed.alike
  obtain ⟨D, cfV, kV, iV, fV, hD, gV, stV, knV, obV, asV, slV⟩ := id V
  obtain ⟨D', cfC, kC, iC, fC, hD', gC, stC, -, -, asC, slC⟩ := id C
  cases hD.symm.trans hD'
  obtain ⟨D2, kD, e1, e2, e3, e4, e5⟩ := id E
  cases hD.symm.trans e1
  obtain ⟨c2, k2, i1, i2, i3, -⟩ := Cond.instantiable_spec wi
  cases e2.symm.trans i1
  cases e3.symm.trans i2
  obtain ⟨kU, u1, u2⟩ := al.2.2 _ _ e3
  have hB : Blank ST x D P.U := ⟨hD, ⟨knV, fun q hq => by rw [hq] at obV; cases obV⟩, by rw [al.findClass]; exact e2, kU, u1, by rw [u2]; exact i3, by rw [u2]; exact e5 i3⟩
  have F1 : Found ST "value" "[B" fV P.U := ⟨SBG.found_only al ⟨cfV, kV, iV, gV⟩, stV⟩
  have F2 : Found ST "coder" "B" fC P.U := ⟨SBG.found_only al ⟨cfC, kC, iC, gC⟩, stC⟩
  have hA : Ch b A P.U := ⟨⟨K.1, State.isArrayOf_alike al K.2.1, K.2.2, by omega⟩, hty⟩
  have hS : StaticIs P.U ST "COMPACT_STRINGS" "Z" (.int z) := by
    obtain ⟨cfS, iS, kS, fS, st, cS, t1, t2, t3, t4, t5, t6, t7⟩ := S
    exact StaticIs.there (s := { Z with heap := P.U.heap }) ⟨cfS, iS, kS, fS, st, cS, t1, t2, t3, t4, t5, (fun q => by rw [q] at t6; cases t6), t7⟩ al rfl
  obtain ⟨v, B, X', ⟨⟨hv, E', V', q1, q2, q3, q4, q5, q6, q7, q8, q9, q10, q11⟩, hl, hc, hs⟩, st⟩ := New1.pays x D fV fC b A z (tab_of (moved hZ hw)) hfr hlo m meth c P g ig mk _ X hg hsize hdg hW hn ⟨r1, r2, rfl, hB, F1, F2, hA, hS, hz, l0, l2, hp⟩
  have al' : Z.vm.Alike B.U.vm := hZ.alike.trans X'.warmed.alike
  have hsz : E'.slots.size = D.slots.size := by
    obtain ⟨-, -, -, kB, w1, w2, w3⟩ := q1
    obtain ⟨kB', y1, y2⟩ := al'.2.2 _ _ e3
    rw [q2.2.1] at w1
    cases w1.symm.trans y1
    rw [w3, e5 i3, y2]
  refine ⟨v, B, X', ⟨_, ⟨hv, ?_, ⟨by omega, fun y cy hy hn' => q10 y cy (by simpa using hn') hy, fun y cy hy => ?_⟩, q11, ⟨E', _, q1.1, by rw [q2.2.1]; exact e2, by rw [q2.2.1]; exact e3, by rw [q2.1]; exact obV, fun _ => by rw [hsz]; exact e5 i3⟩,
    ⟨E', cfV, kV, iV, fV, q1.1, gV, stV, by rw [q2.1]; exact knV, by rw [q2.1]; exact obV, by rw [q2.2.1]; exact asV, q3⟩, ⟨E', cfC, kC, iC, fC, q1.1, gC, stC, by rw [q2.1]; exact knV, by rw [q2.1]; exact obV, by rw [q2.2.1]; exact asC, q4⟩,
    ⟨V', ⟨q5.1, State.isArrayOf_alike al'.symm q5.2.1, q5.2.2.1⟩, q6, by rw [← al'.findClass]; exact q7, q8, fun j hj => by have := q9 j hj; rwa [Nat.zero_add] at this⟩, fun O n d w F n1 n2 => ?_⟩, hl, hc, hs⟩, st⟩
  · intro y hy
    simp only [List.mem_cons, List.not_mem_nil, or_false] at hy
    rcases hy with rfl | rfl <;> rfl
  · by_cases q : y = x
    · subst q
      cases hD.symm.trans hy
      exact ⟨E', q1.1, q2.2.1, q2.1, hsz⟩
    · exact ⟨cy, q10 y cy q hy, rfl, rfl, rfl⟩
  · obtain ⟨D3, cf, k, i, f, g1, g2, g3, g4, g5, g6, g7⟩ := F
    cases hD.symm.trans g1
    simp only [RoadKit.slotOf, g2, gV, gC, Option.map_some, Option.getD_some] at n1 n2
    exact ⟨E', cf, k, i, f, q1.1, g2, g3, by rw [q2.1]; exact g4, by rw [q2.1]; exact g5, by rw [q2.2.1]; exact g6, by rw [q2.2.2 f.slot (by simp [n1, n2])]; exact g7⟩
end StrChars.Road
namespace StrChars.Road
open Jvm Sem ClassFile Op Lib Jvm.Stand Jvm.Free Jvm.Free.XT
/-- WHAT COMES BACK, the byte[] as a list of values -/
def QA (Z : State) (x : Addr) (zn : Int32) (cs : List Int32) (h : Heap) (v : Option Value) (h' : Heap) (L : List Loc) : Prop := v = none ∧ (∀ y ∈ L, y.base = x) ∧ RoadKit.Keep h h' [x] ∧ h'.size = h.size + 1 ∧ RoadKit.Exa Z h' x ST ∧ RoadKit.Fld Z h' x ST "value" "[B" (.ref h.size) ∧ RoadKit.Fld Z h' x ST "coder" "B" (.int 0) ∧
  (∃ kb, Z.vm.findClass "[B" = some kb ∧ RoadKit.Arv Z h' h.size kb .byte zn (cs.map fun c => .int (lo8 c)) (.int 0)) ∧
  ∀ (O n d : String) (w : Value), RoadKit.Fld Z h x O n d w → RoadKit.slotOf Z O n d ≠ RoadKit.slotOf Z ST "value" "[B" → RoadKit.slotOf Z O n d ≠ RoadKit.slotOf Z ST "coder" "B" → RoadKit.Fld Z h' x O n d w
/-- **new String(chars) AT A CALL, THE ARRAYS AS LISTS**: the char[] at b holds cs, not empty, no char above 255 -/
theorem backArv {p : Program} {l : Launch} {e : Env} {R : Room} {s : State} {args : Array Value} {below : List Frame} {len W : Nat} {Z : State} {a0 : Array Value} {h : Heap} (hZ : Z.Warmed39 s.vm) (hw : ∀ d ∈ words, d.before a0 Z = true) {kI : Nat} (wi : (Jvm.Cond.instantiable ST kI).before a0 Z = true)
    {x b : Addr} {k : ClassId} {zn z : Int32} {cs : List Int32} {dv v0 c0 : Value} (E : RoadKit.Exa Z h x ST) (V : RoadKit.Fld Z h x ST "value" "[B" v0) (C : RoadKit.Fld Z h x ST "coder" "B" c0) (K : RoadKit.Arv Z h b k .char zn (cs.map Value.int) dv) (S : RoadKit.Sta Z h ST "COMPACT_STRINGS" "Z" (.int z)) (hz : ¬ z = 0)
    (hlen : zn.toNatClampNeg = cs.length) (h0 : 0 < cs.length) (hbig : cs.length ≤ 536870912) (hall : ∀ c ∈ cs, ¬ 255 < c) (hfr : 4 ≤ R.frames) (hlo : W + 65 ≤ R.locals) :
    Back l R p e below s args New1.yN len W (fun P a => a = #[.ref x, .ref b] ∧ P.U.heap = h ∧ P.cells + 1 ≤ R.cells ∧ P.slots + cs.length ≤ R.slots)
      (fun P _ v B => ∃ L, QA Z x zn cs h v B.U.heap L ∧ B.locs = P.locs ++ L ∧ B.cells = P.cells + 1 ∧ B.slots = P.slots + cs.length) := by
  obtain ⟨A, K1, K2, K3, K4, K5, K6⟩ := K
  have e : A.slots.size = cs.length := K3.trans hlen
  have hat : ∀ (i : Nat) (hi : i < cs.length), A.slots[i]? = some (.int cs[i]) := fun i hi => by rw [K5 i (by omega)]; simp [List.getD_eq_getElem?_getD, hi]
  have hcv : ∀ (i : Nat) (hi : i < cs.length), cv A i = cs[i] := fun i hi => by unfold cv; rw [hat i hi]
  have hty : Typed .char A := fun i v hv => by
    have hi : i < A.slots.size := (Array.getElem?_eq_some_iff.mp hv).1
    have q := K5 i hi
    rw [hv] at q
    rw [Option.some.inj q]
    exact K6 i hi
  refine Back.mono (back hZ hw wi E V C K1 hty S hz (by omega) (by omega) (fun i hi => by rw [hcv i (by omega)]; exact hall _ (List.getElem_mem _)) hfr hlo) (fun P a hp => ⟨hp.1, hp.2.1, hp.2.2.1, by rw [e]; exact hp.2.2.2⟩) (fun P a v B hp hq => ?_)
  obtain ⟨L, ⟨q1, q2, q3, q4, q5, q6, q7, ⟨V', v1, v2, v3, v4, v5⟩, q9⟩, hl, hc, hs⟩ := hq
  refine ⟨L, ⟨q1, q2, q3, q4, q5, q6, q7, ⟨V'.cls, v3, V', v1, rfl, by rw [v4, e, hlen], K4, fun i hi => ?_, fun i hi => ?_⟩, q9⟩, hl, hc, by rw [hs, e]⟩
  · have hi' : i < cs.length := by omega
    rw [v5 i (by omega), hcv i hi']; simp [List.getD_eq_getElem?_getD, hi']
  · have hi' : i < cs.length := by omega
    simp only [List.getD_eq_getElem?_getD, List.getElem?_map, List.getElem?_eq_getElem hi', Option.map_some, Option.getD_some]
    exact fits_lo8 _
end StrChars.Road
namespace StrChars.Road
open Jvm Sem ClassFile Op Lib Jvm.Stand Jvm.Free Jvm.Free.XT
/-- WHAT COMES BACK, in the writer's own shape -/
def QV (Z : State) (x : Addr) (N : Int32) (bs : List Int32) (h : Heap) (n0 : Nat) (v : Option Value) (h' : Heap) (L : List Loc) : Prop := v = none ∧ RoadKit.Fr n0 L ∧ RoadKit.Keep h h' [x] ∧ RoadKit.Exa Z h' x ST ∧ RoadKit.Fld Z h' x ST "coder" "B" (.int 0) ∧
  ∃ (t : Addr) (kb : ClassId), n0 ≤ t ∧ h.size ≤ t ∧ ¬ t = x ∧ RoadKit.Fld Z h' x ST "value" "[B" (.ref t) ∧ RoadKit.Arv Z h' t kb .byte N (bs.map Value.int) (.int 0)
/-- **new String(chars) AT A CALL, FOR THE WRITER**: a char[] of n known ints, each 0 to 255 -/
theorem backV {p : Program} {l : Launch} {e : Env} {R : Room} {s : State} {args : Array Value} {below : List Frame} {len W : Nat} {Z : State} {a0 : Array Value} {h : Heap} (hZ : Z.Warmed39 s.vm) (hw : ∀ d ∈ words, d.before a0 Z = true) {kI : Nat} (wi : (Jvm.Cond.instantiable ST kI).before a0 Z = true)
    {x b : Addr} {kC : ClassId} {cs bs : List Int32} {d v0 c0 : Value} {z N : Int32} {n n0 : Nat} (hx0 : n0 ≤ x) (hh0 : n0 ≤ h.size) (E : RoadKit.Exa Z h x ST) (V : RoadKit.Fld Z h x ST "value" "[B" v0) (C : RoadKit.Fld Z h x ST "coder" "B" c0) (K : RoadKit.Arv Z h b kC .char N (cs.map Value.int) d) (S : RoadKit.Sta Z h ST "COMPACT_STRINGS" "Z" (.int z)) (hz : ¬ z = 0)
    (hn : cs.length = n) (hN : N = Int32.ofNat n) (l0 : 0 < n) (l2 : n ≤ 4000) (hp : ∀ c ∈ cs, ¬ c < 0 ∧ ¬ (255 : Int32) < c) (hb : bs = cs.map (fun c => c.toInt8.toInt32)) (hfr : 4 ≤ R.frames) (hlo : W + 65 ≤ R.locals) :
    Back l R p e below s args (⟨"java/lang/String", "<init>", "([C)V"⟩ : MethodName) len W (fun P a => a = #[.ref x, .ref b] ∧ P.U.heap = h ∧ P.cells + 1 ≤ R.cells ∧ P.slots + n ≤ R.slots)
      (fun P _ v B => ∃ L, QV Z x N bs h n0 v B.U.heap L ∧ B.locs = P.locs ++ L ∧ B.cells = P.cells + 1 ∧ B.slots = P.slots + n) := by
  subst hn hN hb
  refine Back.mono (backArv hZ hw wi E V C K S hz (n32 (by omega)) l0 (by omega) (fun c hc => (hp c hc).2) hfr hlo) (fun P a hp => hp) (fun P a v B hp hq => ?_)
  obtain ⟨L, ⟨q1, q2, q3, q4, q5, q6, q7, ⟨kb, v1, v2⟩, q9⟩, hl, hc, hs⟩ := hq
  exact ⟨L, ⟨q1, fun y hy => by rw [q2 y hy]; exact hx0, q3, q5, q7, h.size, kb, hh0, Nat.le_refl _, Nat.ne_of_gt E.lt, q6, by rw [List.map_map]; exact v2⟩, hl, hc, hs⟩
end StrChars.Road
namespace StrChars
open Jvm Sem ClassFile Op Lib Jvm.Stand Jvm.Free.XT Jvm.Free.ALB Jvm.Free.JM Jvm.Free
open Jvm.Lib.Cold (StaticIs)
def hi8 (x : Int32) : Int32 := lo8 (x >>> ((8 : Int32) &&& 31))
/-- what StringUTF16.getChar makes of two bytes -/
def pairCh (u v : Int32) : Int32 := (((u &&& 255) <<< ((0 : Int32) &&& 31)) ||| ((v &&& 255) <<< ((8 : Int32) &&& 31))).toUInt32.toUInt16.toUInt32.toInt32
theorem shr0 (c : Int32) : c >>> ((0 : Int32) &&& 31) = c := by
  have e : ((0 : Int32) &&& 31) = 0 := by decide
  rw [e]
  apply Int32.toBitVec_inj.mp
  rw [Int32.toBitVec_shiftRight]
  have e1 : ((0 : Int32).toBitVec.smod 32) = 0#32 := by decide
  rw [e1, BitVec.sshiftRight_eq']
  exact BitVec.sshiftRight_zero
theorem lo8_and (x : Int32) : (lo8 x &&& 255).toBitVec.toNat = x.toBitVec.toNat % 256 := by
  have h : (lo8 x).toBitVec = (x.toBitVec.signExtend 8).signExtend 32 := by rw [lo8, Int8.toBitVec_toInt32, Int32.toBitVec_toInt8]
  rw [Int32.toBitVec_and, BitVec.toNat_and, h]
  have e : ((x.toBitVec.signExtend 8).signExtend 32).toNat % 256 = x.toBitVec.toNat % 256 := by
    rw [BitVec.toNat_signExtend]
    have hlt := x.toBitVec.isLt
    simp only [BitVec.toNat_setWidth, BitVec.toNat_signExtend]
    split <;> split <;> omega
  rw [← e]
  exact Nat.and_two_pow_sub_one_eq_mod _ 8
theorem pair_says {c : Int32} (h0 : ¬ c < 0) (h1 : ¬ 65535 < c) : pairCh (lo8 c) (hi8 c) = c := by
  rw [Int32.lt_iff_toInt_lt] at h0 h1
  have e0 : (0 : Int32).toInt = 0 := rfl
  have e1 : (65535 : Int32).toInt = 65535 := rfl
  have hc : c.toInt = c.toBitVec.toNat := by
    have := c.toBitVec.isLt
    have e : c.toInt = c.toBitVec.toInt := rfl
    rw [e] at h0 h1
    rw [e]
    rw [BitVec.toInt_eq_toNat_cond] at h0 h1 ⊢
    split at h0 <;> split <;> omega
  have hn : c.toBitVec.toNat < 65536 := by omega
  have a1 := lo8_and c
  have a2 : (hi8 c &&& 255).toBitVec.toNat = c.toBitVec.toNat / 256 := by
    rw [hi8, lo8_and]
    have e : ((8 : Int32) &&& 31) = 8 := by decide
    rw [e, Int32.toBitVec_shiftRight]
    have e2 : ((8 : Int32).toBitVec.smod 32) = 8#32 := by decide
    rw [e2, BitVec.sshiftRight_eq', BitVec.toNat_sshiftRight_of_msb_false (by rw [BitVec.msb_eq_false_iff_two_mul_lt]; omega)]
    show c.toBitVec.toNat >>> 8 % 256 = _
    rw [Nat.shiftRight_eq_div_pow]
    omega
  unfold pairCh
  apply Int32.toBitVec_inj.mp
  apply BitVec.eq_of_toNat_eq
  have f0 : ((0 : Int32) &&& 31) = 0 := by decide
  have f8 : ((8 : Int32) &&& 31) = 8 := by decide
  rw [f0, f8]
  have g : (((lo8 c &&& 255) <<< (0 : Int32)) ||| ((hi8 c &&& 255) <<< (8 : Int32))).toBitVec.toNat = c.toBitVec.toNat := by
    rw [Int32.toBitVec_or, Int32.toBitVec_shiftLeft, Int32.toBitVec_shiftLeft]
    have s0 : ((0 : Int32).toBitVec.smod 32) = 0#32 := by decide
    have s8 : ((8 : Int32).toBitVec.smod 32) = 8#32 := by decide
    rw [s0, s8, BitVec.toNat_or]
    simp only [BitVec.shiftLeft_eq', BitVec.toNat_shiftLeft, a1, a2]
    show (c.toBitVec.toNat % 256) <<< 0 % 2 ^ 32 ||| (c.toBitVec.toNat / 256) <<< 8 % 2 ^ 32 = _
    rw [Nat.shiftLeft_zero, Nat.mod_eq_of_lt (show c.toBitVec.toNat % 256 < 2 ^ 32 by omega), Nat.mod_eq_of_lt (show (c.toBitVec.toNat / 256) <<< 8 < 2 ^ 32 by rw [Nat.shiftLeft_eq]; omega), Nat.or_comm, ← Nat.shiftLeft_add_eq_or_of_lt (by omega), Nat.shiftLeft_eq]
    omega
  show BitVec.toNat (((((lo8 c &&& 255) <<< (0 : Int32)) ||| ((hi8 c &&& 255) <<< (8 : Int32))).toBitVec.setWidth 16).setWidth 32) = _
  rw [BitVec.toNat_setWidth, BitVec.toNat_setWidth, g]
  omega
end StrChars
namespace StrChars
open Jvm Sem ClassFile Op Lib Jvm.Stand Jvm.Free.XT Jvm.Free.ALB Jvm.Free.JM Jvm.Free
open Jvm.Lib.Cold (StaticIs)
theorem shr1 {n : Nat} (h : 2 * n < 2 ^ 31) : Int32.ofNat (2 * n) >>> ((1 : Int32) &&& 31) = Int32.ofNat n := by
  have e : ((1 : Int32) &&& 31) = 1 := by decide
  rw [e]
  apply Int32.toBitVec_inj.mp
  rw [Int32.toBitVec_shiftRight]
  have e1 : ((1 : Int32).toBitVec.smod 32) = 1#32 := by decide
  have hm : (BitVec.ofNat 32 (2 * n)).toNat = 2 * n := by rw [BitVec.toNat_ofNat, Nat.mod_eq_of_lt (by omega)]
  rw [e1, BitVec.sshiftRight_eq']
  apply BitVec.eq_of_toNat_eq
  show ((BitVec.ofNat 32 (2 * n)).sshiftRight 1).toNat = (BitVec.ofNat 32 n).toNat
  rw [BitVec.toNat_sshiftRight_of_msb_false (by rw [BitVec.msb_eq_false_iff_two_mul_lt, hm]; omega), hm, BitVec.toNat_ofNat, Nat.shiftRight_eq_div_pow]
  omega
/-- charAt's cast of a byte read back -/
def chr8 (u : Int32) : Int32 := (u &&& 255).toUInt32.toUInt16.toUInt32.toInt32
theorem chr8_lo8 {c : Int32} (h0 : ¬ c < 0) (h1 : ¬ 255 < c) : chr8 (lo8 c) = c := by
  have t : ∀ k : Fin 256, (Int32.ofNat k.val).toUInt32.toUInt16.toUInt32.toInt32 = Int32.ofNat k.val := by decide +kernel
  unfold chr8
  rw [lo8_mask h0 h1]
  rw [Int32.lt_iff_toInt_lt] at h0 h1
  have e0 : (0 : Int32).toInt = 0 := rfl
  have e1 : (255 : Int32).toInt = 255 := rfl
  obtain ⟨k, hk⟩ : ∃ k : Nat, c.toInt = k := ⟨c.toInt.toNat, by omega⟩
  have hx : c = Int32.ofNat k := Int32.toInt_inj.mp (by rw [hk, Int32.toInt_ofNat_small (by omega)])
  rw [hx]
  exact t ⟨k, by omega⟩
theorem narrow_ch {c : Int32} (h0 : ¬ c < 0) (h1 : ¬ 65535 < c) : narrow .char (.int c) = .int c := by
  have q : narrow .char (.int (pairCh (lo8 c) (hi8 c))) = .int (pairCh (lo8 c) (hi8 c)) := narrow_c _
  rwa [pair_says h0 h1] at q
/-- the array's cell V codes the n chars f 0 .. f (n - 1) by the coder cd, as the JDK does: coder 1 just where some char is above 255 -/
def Cod (cd : Int32) (n : Nat) (f : Nat → Int32) (V : Cell) : Prop := (cd = 0 ∧ V.slots.size = n ∧ ∀ j, j < n → V.slots[j]? = some (.int (lo8 (f j))) ∧ ¬ 255 < f j) ∨ (cd = 1 ∧ V.slots.size = 2 * n ∧ (∀ j, j < n → V.slots[2 * j]? = some (.int (lo8 (f j))) ∧ V.slots[2 * j + 1]? = some (.int (hi8 (f j)))) ∧ ∃ j, j < n ∧ 255 < f j)
theorem Cod.cd {cd : Int32} {n : Nat} {f : Nat → Int32} {V : Cell} (h : Cod cd n f V) : cd = 0 ∨ cd = 1 := h.imp (fun q => q.1) fun q => q.1
theorem Cod.len {cd : Int32} {n : Nat} {f : Nat → Int32} {V : Cell} (h : Cod cd n f V) (hs : V.slots.size < 2 ^ 31) : Int32.ofNat V.slots.size >>> (cd &&& 31) = Int32.ofNat n := by
  rcases h with ⟨rfl, h, -⟩ | ⟨rfl, h, -⟩
  · rw [shr0, h]
  · rw [h, shr1 (by omega)]
/-- **x is a String of the n chars f 0 .. f (n - 1)**, Latin-1 or UTF-16; its array at t has the cell V -/
def Txt (x t : Addr) (V : Cell) (cd : Int32) (n : Nat) (f : Nat → Int32) (U : State) : Prop := Exact "java/lang/String" x U ∧ Has x "java/lang/String" "value" "[B" (.ref t) U ∧ Has x "java/lang/String" "coder" "B" (.int cd) U ∧ XT.Arr .byte t V U ∧ Cod cd n f V ∧ ∀ j, j < n → ¬ f j < 0 ∧ ¬ 65535 < f j
theorem Txt.mv {x t : Addr} {V : Cell} {cd : Int32} {n : Nat} {f : Nat → Int32} {U U' : State} (h : Txt x t V cd n f U) (hal : U.vm.Alike U'.vm) (hh : U'.heap = U.heap) : Txt x t V cd n f U' := ⟨h.1.mv hal hh, h.2.1.mv hal hh, h.2.2.1.mv hal hh, h.2.2.2.1.mv hal hh, h.2.2.2.2⟩
namespace Cdr
def yN : MethodName := ⟨"java/lang/String", "coder", "()B"⟩
abbrev yB : ByteArray := jdk_42_method_152_code
theorem d0 : decode yB 0 = .ok (.getstatic 38, 3) := by decide +kernel
theorem d3 : decode yB 3 = .ok (.ifCond (.eq) 10, 3) := by decide +kernel
theorem d6 : decode yB 6 = .ok (.aload_n 0, 1) := by decide +kernel
theorem d7 : decode yB 7 = .ok (.getfield 15, 3) := by decide +kernel
theorem d10 : decode yB 10 = .ok (.goto 4, 3) := by decide +kernel
theorem d14 : decode yB 14 = .ok (.ireturn, 1) := by decide +kernel
def site : List Cond := [.fieldLink "java/lang/String" 38 "java/lang/String" "COMPACT_STRINGS" "Z", .fieldLink "java/lang/String" 15 "java/lang/String" "coder" "B"]
def tab : Cond := tabOf yN yB 1 (some .byte) site
def P (x : Addr) (cd z : Int32) (args : Array Value) (s : State) : Prop := args = #[.ref x] ∧ Has x "java/lang/String" "coder" "B" (.int cd) s ∧ (cd = 0 ∨ cd = 1) ∧ StaticIs s "java/lang/String" "COMPACT_STRINGS" "Z" (.int z) ∧ ¬ z = 0
def E (cd : Int32) (r : Option Value) (s u : State) : Prop := XT.PureE (some (.int cd)) r s u
theorem law (l : Launch) (x : Addr) (cd z : Int32) : Law l yN 1 0 0 0 yB 1 (some .byte) site (P x cd z) (E cd) [] 0 0 := by
  refine Law.of_walk (plainFor_of_name (by decide +kernel)) (by decide +kernel) (by decide +kernel) (by decide) (fun _ _ h => by rw [h.1]; rfl) (fun _ U U' hal hh h => ⟨h.1, h.2.1.mv hal hh, h.2.2.1, h.2.2.2.1.there hal hh, h.2.2.2.2⟩) (fun r U U' V V' h1 hal h2 h => XT.PureE.mv r U U' V V' h1 hal h2 h) ?_
  intro p e s m args below meth c s₁ X0 hexec hbytes hml hret hlk hnm hown hh0 W hP
  obtain ⟨rfl, hx, hc, s1, hz⟩ := hP
  have c1 : Steps p.tables e below (s₁.setTop (entryFrame m #[.ref x] 1)) (s₁.setTop (mkF m 0 #[.val (.ref x)] [])) := entry rfl
  obtain ⟨T2, X2, q2, st2⟩ := X0.sget hexec hown (wk W (.fieldLink "java/lang/String" 38 "java/lang/String" "COMPACT_STRINGS" "Z")) s1 (fun _ _ h => by rw [hh0]; exact h) (g := (mkF m 0 #[.val (.ref x)] [])) rfl (hb hbytes d0)
  have hh2 := q2.trans hh0
  have c3 : Steps p.tables e below (s₁.setTop (entryFrame m #[.ref x] 1)) (T2.setTop (mkF m 7 #[.val (.ref x)] [.ref x])) := (c1.trans (st2 _ (Steps.refl _))).trans (by
    refine XS.ifNo X2.here hexec rfl (hb hbytes d3) rfl (i0_eq_f hz) ?_
    refine XS.aloadN X2.here hexec rfl (hb hbytes d6) rfl rfl ?_
    exact Steps.refl _)
  obtain ⟨T4, X4, q4, st4⟩ := X2.hget hexec hown (wk W (.fieldLink "java/lang/String" 15 "java/lang/String" "coder" "B")) (hx.mv X2.warmed.alike hh2) (g := (mkF m 7 #[.val (.ref x)] [.ref x])) rfl (rest := []) rfl (hb hbytes d7)
  have c5 : Steps p.tables e below (s₁.setTop (entryFrame m #[.ref x] 1)) (T4.setTop (mkF m 14 #[.val (.ref x)] [.int cd])) := (c3.trans (st4 _ (Steps.refl _))).trans (by
    refine XS.goto X4.here hexec rfl (pc0 := 10) rfl (hb hbytes d10) (by decide) rfl ?_
    exact Steps.refl _)
  exact ⟨T4, some (.int cd), _, _, _, X4, rfl, rfl, rfl, (fun h => by cases h), ⟨rfl, q4.trans hh2⟩, fun fs hl => c5.trans (X4.ireturnOut hexec hret (by rcases hc with rfl | rfl <;> rfl) (Or.inr (Or.inr (Or.inl rfl))) (hb hbytes d14) hl)⟩
end Cdr
namespace Len
def yN : MethodName := ⟨"java/lang/String", "length", "()I"⟩
abbrev yB : ByteArray := jdk_42_method_54_code
theorem d0 : decode yB 0 = .ok (.aload_n 0, 1) := by decide +kernel
theorem d1 : decode yB 1 = .ok (.getfield 9, 3) := by decide +kernel
theorem d4 : decode yB 4 = .ok (.arraylength, 1) := by decide +kernel
theorem d5 : decode yB 5 = .ok (.aload_n 0, 1) := by decide +kernel
theorem d6 : decode yB 6 = .ok (.invokevirtual 335, 3) := by decide +kernel
theorem d9 : decode yB 9 = .ok (.ishr, 1) := by decide +kernel
theorem d10 : decode yB 10 = .ok (.ireturn, 1) := by decide +kernel
def site : List Cond := [.fieldLink "java/lang/String" 9 "java/lang/String" "value" "[B", Cdr.tab] ++ virtW "java/lang/String" 335 "java/lang/String" Cdr.yN Cdr.yN
def tab : Cond := tabOf yN yB 1 (some .int) site
def P (x t : Addr) (V : Cell) (cd : Int32) (n : Nat) (f : Nat → Int32) (z : Int32) (args : Array Value) (s : State) : Prop := args = #[.ref x] ∧ Txt x t V cd n f s ∧ StaticIs s "java/lang/String" "COMPACT_STRINGS" "Z" (.int z) ∧ ¬ z = 0
def E (n : Nat) (r : Option Value) (s u : State) : Prop := XT.PureE (some (.int (Int32.ofNat n))) r s u
/-- length() of a String of n chars, in either coding -/
theorem law (l : Launch) (x t : Addr) (V : Cell) (cd : Int32) (n : Nat) (f : Nat → Int32) (z : Int32) : Law l yN 1 0 1 13 yB 1 (some .int) site (P x t V cd n f z) (E n) [] 0 0 := by
  refine Law.of_walk (plainFor_of_name (by decide +kernel)) (by decide +kernel) (by decide +kernel) (by decide) (fun _ _ h => by rw [h.1]; rfl) (fun _ U U' hal hh h => ⟨h.1, h.2.1.mv hal hh, h.2.2.1.there hal hh, h.2.2.2⟩) (fun r U U' V V' h1 hal h2 h => XT.PureE.mv r U U' V V' h1 hal h2 h) ?_
  intro p e s m args below meth c s₁ X0 hexec hbytes hml hret hlk hnm hown hh0 W hP
  obtain ⟨rfl, hx, s1, hz⟩ := hP
  have v31 := hx.2.2.2.1.2.2.2
  have c1 : Steps p.tables e below (s₁.setTop (entryFrame m #[.ref x] 1)) (s₁.setTop (mkF m 1 #[.val (.ref x)] [.ref x])) := Steps.trans (entry rfl) (by
    show Steps p.tables e below (s₁.setTop (mkF m 0 #[.val (.ref x)] [])) _
    refine XS.aloadN X0.here hexec rfl (hb hbytes d0) rfl rfl ?_
    exact Steps.refl _)
  obtain ⟨T2, X2, q2, st2⟩ := X0.hget hexec hown (wk W (.fieldLink "java/lang/String" 9 "java/lang/String" "value" "[B")) (hx.mv X0.warmed.alike hh0).2.1 (g := (mkF m 1 #[.val (.ref x)] [.ref x])) rfl (rest := []) rfl (hb hbytes d1)
  have hh2 := q2.trans hh0
  have hx2 := hx.mv X2.warmed.alike hh2
  have c3 : Steps p.tables e below (s₁.setTop (entryFrame m #[.ref x] 1)) (T2.setTop (mkF m 6 #[.val (.ref x)] [.ref x, .int (Int32.ofNat V.slots.size)])) := (c1.trans (st2 _ (Steps.refl _))).trans (by
    refine X2.alen hexec hx2.2.2.2.1 rfl rfl (hb hbytes d4) ?_
    refine XS.aloadN X2.here hexec rfl (hb hbytes d5) rfl rfl ?_
    exact Steps.refl _)
  obtain ⟨v4, T4, X4, E4, g4⟩ := X2.callV hexec (Cdr.law l x cd z) hown (wks W (virtW "java/lang/String" 335 "java/lang/String" Cdr.yN Cdr.yN)) rfl (by decide) (wk W Cdr.tab) (W := 1) (Nat.le_of_ble_eq_true rfl) (Nat.le_of_ble_eq_true rfl) (Nat.le_refl _) (Nat.le_refl _) (hx2.1.fc X2.warmed.alike) hx2.1.is (g := (mkF m 6 #[.val (.ref x)] [.ref x, .int (Int32.ofNat V.slots.size)])) rfl (by rw [hml]; rfl) c3 (argsL := []) (rest := [.int (Int32.ofNat V.slots.size)]) rfl rfl (by show 2 * 0 + (1 + 0) ≤ _; decide) (hb hbytes d6) (⟨rfl, hx2.2.2.1, hx.2.2.2.2.1.cd, s1.there X2.warmed.alike hh2, hz⟩)
  obtain ⟨rfl, q4⟩ := E4
  have c5 : Steps p.tables e below (s₁.setTop (entryFrame m #[.ref x] 1)) (T4.setTop (mkF m 10 #[.val (.ref x)] [.int (Int32.ofNat V.slots.size >>> (cd &&& 31))])) := Steps.trans g4 (by
    refine ishr X4.here hexec rfl (hb hbytes d9) rfl ?_
    exact Steps.refl _)
  rw [hx.2.2.2.2.1.len v31] at c5
  exact ⟨T4, some (.int (Int32.ofNat n)), _, _, _, X4, rfl, rfl, rfl, (fun h => by cases h), ⟨rfl, q4.trans hh2⟩, fun fs hl => c5.trans (X4.ireturnOut hexec hret rfl (Or.inl rfl) (hb hbytes d10) hl)⟩
theorem pays {l : Launch} {R : Room} {p : Program} {e : Env} {below : List Frame} {s : State} {sargs : Array Value} {len W : Nat} (x t : Addr) (V : Cell) (cd : Int32) (n : Nat) (f : Nat → Int32) (z : Int32) (htab : tab.before sargs s = true) (hfr : 2 ≤ R.frames) (hlo : W + 25 ≤ R.locals) :
    Back l R p e below s sargs yN len W (fun A₁ a₁ => A₁.cells + 0 ≤ R.cells ∧ A₁.slots + 0 ≤ R.slots ∧ P x t V cd n f z a₁ A₁.U) (fun A₁ _ v₁ B₁ => E n v₁ A₁.U B₁.U ∧ B₁.locs = A₁.locs ++ [] ∧ B₁.cells = A₁.cells + 0 ∧ B₁.slots = A₁.slots + 0) :=
  (law l x t V cd n f z).pays htab hfr (by omega)
end Len
namespace IsL
def yN : MethodName := ⟨"java/lang/String", "isLatin1", "()Z"⟩
abbrev yB : ByteArray := jdk_42_method_154_code
theorem d0 : decode yB 0 = .ok (.getstatic 38, 3) := by decide +kernel
theorem d3 : decode yB 3 = .ok (.ifCond (.eq) 14, 3) := by decide +kernel
theorem d6 : decode yB 6 = .ok (.aload_n 0, 1) := by decide +kernel
theorem d7 : decode yB 7 = .ok (.getfield 15, 3) := by decide +kernel
theorem d10 : decode yB 10 = .ok (.ifCond (.ne) 7, 3) := by decide +kernel
theorem d13 : decode yB 13 = .ok (.iconst 1, 1) := by decide +kernel
theorem d14 : decode yB 14 = .ok (.goto 4, 3) := by decide +kernel
theorem d17 : decode yB 17 = .ok (.iconst 0, 1) := by decide +kernel
theorem d18 : decode yB 18 = .ok (.ireturn, 1) := by decide +kernel
def site : List Cond := [.fieldLink "java/lang/String" 38 "java/lang/String" "COMPACT_STRINGS" "Z", .fieldLink "java/lang/String" 15 "java/lang/String" "coder" "B"]
def tab : Cond := tabOf yN yB 1 (some .boolean) site
def P (x : Addr) (cd z : Int32) (args : Array Value) (s : State) : Prop := args = #[.ref x] ∧ Has x "java/lang/String" "coder" "B" (.int cd) s ∧ (cd = 0 ∨ cd = 1) ∧ StaticIs s "java/lang/String" "COMPACT_STRINGS" "Z" (.int z) ∧ ¬ z = 0
def E (cd : Int32) (r : Option Value) (s u : State) : Prop := XT.PureE (some (.int (1 - cd))) r s u
theorem law (l : Launch) (x : Addr) (cd z : Int32) : Law l yN 1 0 0 0 yB 1 (some .boolean) site (P x cd z) (E cd) [] 0 0 := by
  refine Law.of_walk (plainFor_of_name (by decide +kernel)) (by decide +kernel) (by decide +kernel) (by decide) (fun _ _ h => by rw [h.1]; rfl) (fun _ U U' hal hh h => ⟨h.1, h.2.1.mv hal hh, h.2.2.1, h.2.2.2.1.there hal hh, h.2.2.2.2⟩) (fun r U U' V V' h1 hal h2 h => XT.PureE.mv r U U' V V' h1 hal h2 h) ?_
  intro p e s m args below meth c s₁ X0 hexec hbytes hml hret hlk hnm hown hh0 W hP
  obtain ⟨rfl, hx, hc, s1, hz⟩ := hP
  have c1 : Steps p.tables e below (s₁.setTop (entryFrame m #[.ref x] 1)) (s₁.setTop (mkF m 0 #[.val (.ref x)] [])) := entry rfl
  obtain ⟨T2, X2, q2, st2⟩ := X0.sget hexec hown (wk W (.fieldLink "java/lang/String" 38 "java/lang/String" "COMPACT_STRINGS" "Z")) s1 (fun _ _ h => by rw [hh0]; exact h) (g := (mkF m 0 #[.val (.ref x)] [])) rfl (hb hbytes d0)
  have hh2 := q2.trans hh0
  have c3 : Steps p.tables e below (s₁.setTop (entryFrame m #[.ref x] 1)) (T2.setTop (mkF m 7 #[.val (.ref x)] [.ref x])) := (c1.trans (st2 _ (Steps.refl _))).trans (by
    refine XS.ifNo X2.here hexec rfl (hb hbytes d3) rfl (i0_eq_f hz) ?_
    refine XS.aloadN X2.here hexec rfl (hb hbytes d6) rfl rfl ?_
    exact Steps.refl _)
  obtain ⟨T4, X4, q4, st4⟩ := X2.hget hexec hown (wk W (.fieldLink "java/lang/String" 15 "java/lang/String" "coder" "B")) (hx.mv X2.warmed.alike hh2) (g := (mkF m 7 #[.val (.ref x)] [.ref x])) rfl (rest := []) rfl (hb hbytes d7)
  have c5 : Steps p.tables e below (s₁.setTop (entryFrame m #[.ref x] 1)) (T4.setTop (mkF m 10 #[.val (.ref x)] [.int cd])) := c3.trans (st4 _ (Steps.refl _))
  have c6 : Steps p.tables e below (s₁.setTop (entryFrame m #[.ref x] 1)) (T4.setTop (mkF m 18 #[.val (.ref x)] [.int (1 - cd)])) := by
    rcases hc with rfl | rfl
    · exact c5.trans (by
        refine XS.ifNo X4.here hexec rfl (hb hbytes d10) rfl (i0_ne_f rfl) ?_
        refine iconstV X4.here hexec rfl 1 (hb hbytes d13) (by decide) ?_
        refine XS.goto X4.here hexec rfl (pc0 := 14) rfl (hb hbytes d14) (by decide) rfl ?_
        exact Steps.refl _)
    · exact c5.trans (by
        refine XS.ifYes X4.here hexec rfl (pc0 := 10) rfl (hb hbytes d10) rfl (i0_ne_t (by decide)) (by decide) rfl ?_
        refine iconstV X4.here hexec rfl 0 (hb hbytes d17) (by decide) ?_
        exact Steps.refl _)
  exact ⟨T4, some (.int (1 - cd)), _, _, _, X4, rfl, rfl, rfl, (fun h => by cases h), ⟨rfl, q4.trans hh2⟩, fun fs hl => c6.trans (X4.ireturnOut hexec hret (by rcases hc with rfl | rfl <;> rfl) (Or.inr (Or.inl rfl)) (hb hbytes d18) hl)⟩
end IsL
namespace LChA
def yN : MethodName := ⟨"java/lang/StringLatin1", "charAt", "([BI)C"⟩
abbrev yB : ByteArray := jdk_43_method_2_code
theorem d0 : decode yB 0 = .ok (.iload_n 1, 1) := by decide +kernel
theorem d1 : decode yB 1 = .ok (.aload_n 0, 1) := by decide +kernel
theorem d2 : decode yB 2 = .ok (.arraylength, 1) := by decide +kernel
theorem d3 : decode yB 3 = .ok (.invokestatic 9, 3) := by decide +kernel
theorem d6 : decode yB 6 = .ok (.aload_n 0, 1) := by decide +kernel
theorem d7 : decode yB 7 = .ok (.iload_n 1, 1) := by decide +kernel
theorem d8 : decode yB 8 = .ok (.baload, 1) := by decide +kernel
theorem d9 : decode yB 9 = .ok (.sipush 255, 3) := by decide +kernel
theorem d12 : decode yB 12 = .ok (.iand, 1) := by decide +kernel
theorem d13 : decode yB 13 = .ok (.i2c, 1) := by decide +kernel
theorem d14 : decode yB 14 = .ok (.ireturn, 1) := by decide +kernel
def site : List Cond := [JO.Str_checkIndex.tab] ++ staticW "java/lang/StringLatin1" 9 JO.Str_checkIndex.yN
def tab : Cond := tabOf yN yB 2 (some .char) site
def P (t : Addr) (V : Cell) (i : Nat) (u : Int32) (fm : Value) (args : Array Value) (s : State) : Prop := args = #[.ref t, .int (Int32.ofNat i)] ∧ XT.Arr .byte t V s ∧ V.slots[i]? = some (.int u) ∧ (StaticIs s "jdk/internal/util/Preconditions" "SIOOBE_FORMATTER" "Ljava/util/function/BiFunction;" fm ∧ fm.isRef = true)
def E (u : Int32) (r : Option Value) (s w : State) : Prop := XT.PureE (some (.int (chr8 u))) r s w
theorem law (l : Launch) (t : Addr) (V : Cell) (i : Nat) (u : Int32) (fm : Value) : Law l yN 2 2 2 27 yB 2 (some .char) site (P t V i u fm) (E u) [] 0 0 := by
  refine Law.of_walk (plainFor_of_name (by decide +kernel)) (by decide +kernel) (by decide +kernel) (by decide) (fun _ _ h => by rw [h.1]; rfl) (fun _ U U' hal hh h => ⟨h.1, h.2.1.mv hal hh, h.2.2.1, h.2.2.2.1.there hal hh, h.2.2.2.2⟩) (fun r U U' V V' h1 hal h2 h => XT.PureE.mv r U U' V V' h1 hal h2 h) ?_
  intro p e s m args below meth c s₁ X0 hexec hbytes hml hret hlk hnm hown hh0 W hP
  obtain ⟨rfl, hV, hu, s1, rf⟩ := hP
  have v31 := hV.2.2.2
  have hi : i < V.slots.size := (Array.getElem?_eq_some_iff.mp hu).1
  have c1 : Steps p.tables e below (s₁.setTop (entryFrame m #[.ref t, .int (Int32.ofNat i)] 2)) (s₁.setTop (mkF m 0 #[.val (.ref t), .val (.int (Int32.ofNat i))] [])) := entry rfl
  have c2 : Steps p.tables e below (s₁.setTop (entryFrame m #[.ref t, .int (Int32.ofNat i)] 2)) (s₁.setTop (mkF m 3 #[.val (.ref t), .val (.int (Int32.ofNat i))] [.int (Int32.ofNat V.slots.size), .int (Int32.ofNat i)])) := c1.trans (by
    refine XS.iloadN X0.here hexec rfl (hb hbytes d0) rfl ?_
    refine XS.aloadN X0.here hexec rfl (hb hbytes d1) rfl rfl ?_
    refine X0.alen hexec (hV.mv X0.warmed.alike hh0) rfl rfl (hb hbytes d2) ?_
    exact Steps.refl _)
  obtain ⟨v3, T3, X3, E3, g3⟩ := X0.callS hexec (JO.Str_checkIndex.law l (Int32.ofNat i) (Int32.ofNat V.slots.size) fm) hown (wks W (staticW "java/lang/StringLatin1" 9 JO.Str_checkIndex.yN)) (wk W JO.Str_checkIndex.tab) (W := 0) (Nat.le_of_ble_eq_true rfl) (Nat.le_of_ble_eq_true rfl) (Nat.le_refl _) (Nat.le_refl _) (g := (mkF m 3 #[.val (.ref t), .val (.int (Int32.ofNat i))] [.int (Int32.ofNat V.slots.size), .int (Int32.ofNat i)])) rfl (by rw [hml]; rfl) c2 (argsL := [.int (Int32.ofNat i), .int (Int32.ofNat V.slots.size)]) (rest := []) rfl rfl (by show 2 * 0 + 0 ≤ _; decide) (hb hbytes d3) (⟨rfl, rf, s1.there X0.warmed.alike hh0, Int32.ofNat_not_neg (by omega), lt32 v31 hi⟩)
  obtain ⟨rfl, q3⟩ := E3
  have hh3 := q3.trans hh0
  have c4 : Steps p.tables e below (s₁.setTop (entryFrame m #[.ref t, .int (Int32.ofNat i)] 2)) (T3.setTop (mkF m 14 #[.val (.ref t), .val (.int (Int32.ofNat i))] [.int (chr8 u)])) := Steps.trans g3 (by
    refine XS.aloadN X3.here hexec rfl (hb hbytes d6) rfl rfl ?_
    refine XS.iloadN X3.here hexec rfl (hb hbytes d7) rfl ?_
    refine X3.aget hexec (hV.mv X3.warmed.alike hh3) rfl hu rfl rfl (hb hbytes d8) ?_
    refine sipushV X3.here hexec rfl 255 (hb hbytes d9) (by decide) ?_
    refine XS.iand X3.here hexec rfl (hb hbytes d12) rfl ?_
    refine i2c X3.here hexec rfl (hb hbytes d13) rfl ?_
    exact Steps.refl _)
  exact ⟨T3, some (.int (chr8 u)), _, _, _, X3, rfl, rfl, rfl, (fun h => by cases h), ⟨rfl, hh3⟩, fun fs hl => c4.trans (X3.ireturnOut hexec hret (narrow_c _) (Or.inr (Or.inr (Or.inr (Or.inl rfl)))) (hb hbytes d14) hl)⟩
end LChA
end StrChars
namespace StrChars.Road
open Jvm Sem ClassFile Op Lib Jvm.Stand Jvm.Free Jvm.Free.XT
open Jvm.Lib.Cold (StaticIs)
theorem consq {a : Array Value} {s : State} {c : Jvm.Cond} {L : List Jvm.Cond} (h0 : c.before a s = true) (h : ∀ w ∈ L, w.before a s = true) : ∀ w ∈ c :: L, w.before a s = true := fun w hw => (List.mem_cons.mp hw).elim (fun e => e ▸ h0) (h w)
/-- the words of String.length(), either coding -/
abbrev wordsLen : List Jvm.Cond := [.code Len.yN Len.yB 1 (some .int), .initialized ST, .fieldLink ST 9 ST "value" "[B", .fieldLink ST 38 ST "COMPACT_STRINGS" "Z", .fieldLink ST 15 ST "coder" "B", .code Cdr.yN Cdr.yB 1 (some .byte), .methodLink ST 335 Cdr.yN, .declares Cdr.yN, .selects ST Cdr.yN Cdr.yN, .instanceMethod Cdr.yN]
theorem tabLen_of {a : Array Value} {s : State} (h : ∀ w ∈ wordsLen, w.before a s = true) : Len.tab.before a s = true := by
  have hc : Cdr.tab.before a s = true := unparts (wk h (.code Cdr.yN Cdr.yB 1 (some .byte))) (wks h (.initialized Cdr.yN.cls :: Cdr.site))
  have q := consq hc h
  exact unparts (wk q (.code Len.yN Len.yB 1 (some .int))) (wks q (.initialized Len.yN.cls :: Len.site))
theorem movedLen {Z s : State} {a0 args : Array Value} (hZ : Z.Warmed39 s.vm) (hw : ∀ d ∈ wordsLen, d.before a0 Z = true) : ∀ d ∈ wordsLen, d.before args s = true := fun d hd => by
  have q := hw d hd
  have t : ∀ d ∈ wordsLen, d = .arrayClass .byte ∨ (d.onTables && d.keepsFace) = true := by decide +kernel
  rcases t d hd with rfl | t
  · exact RoadKit.mvA hZ q
  · exact RoadKit.mv hZ q t
/-- the bytes of the chars cs, low before high -/
def wideBytes : List Int32 → List Value
  | [] => []
  | c :: cs => .int (lo8 c) :: .int (hi8 c) :: wideBytes cs
theorem wide_lo (d : Value) : ∀ (cs : List Int32) (j : Nat), j < cs.length → (wideBytes cs).getD (2 * j) d = .int (lo8 (cs.getD j 0))
  | [], j, h => absurd h (Nat.not_lt_zero j)
  | c :: cs, 0, _ => rfl
  | c :: cs, j + 1, h => by
    have q := wide_lo d cs j (by simpa using h)
    rw [show 2 * (j + 1) = 2 * j + 1 + 1 from by omega]
    simpa [wideBytes] using q
theorem wide_hi (d : Value) : ∀ (cs : List Int32) (j : Nat), j < cs.length → (wideBytes cs).getD (2 * j + 1) d = .int (hi8 (cs.getD j 0))
  | [], j, h => absurd h (Nat.not_lt_zero j)
  | c :: cs, 0, _ => rfl
  | c :: cs, j + 1, h => by
    have q := wide_hi d cs j (by simpa using h)
    rw [show 2 * (j + 1) + 1 = 2 * j + 1 + 1 + 1 from by omega]
    simpa [wideBytes] using q
theorem low_at (d : Value) (cs : List Int32) (j : Nat) (h : j < cs.length) : (cs.map fun c => Value.int (lo8 c)).getD j d = .int (lo8 (cs.getD j 0)) := by
  simp [List.getD_eq_getElem?_getD, h]
/-- an array of N2 bytes vs codes the chars cs by the coder cd -/
def CodA (cs : List Int32) (cd N2 : Int32) (vs : List Value) : Prop := (cd = 0 ∧ N2 = Int32.ofNat cs.length ∧ vs = (cs.map fun c => Value.int (lo8 c)) ∧ ∀ c ∈ cs, ¬ 255 < c) ∨ (cd = 1 ∧ N2 = Int32.ofNat (2 * cs.length) ∧ vs = wideBytes cs ∧ ∃ c ∈ cs, 255 < c)
theorem CodA.cod {cs : List Int32} {cd N2 : Int32} {vs : List Value} {V : Cell} (h : CodA cs cd N2 vs) (hn : 2 * cs.length < 2 ^ 31) (hs : V.slots.size = N2.toNatClampNeg) (hv : RoadKit.Has V vs (.int 0)) : Cod cd cs.length (fun j => cs.getD j 0) V := by
  rcases h with ⟨rfl, rfl, rfl, h⟩ | ⟨rfl, rfl, rfl, c, hc, hw⟩
  · rw [n32 (by omega)] at hs
    exact Or.inl ⟨rfl, hs, fun j hj => ⟨by rw [hv j (by omega), low_at _ _ _ hj], by
      have e : cs.getD j 0 = cs[j] := by simp [List.getD_eq_getElem?_getD, hj]
      show ¬ 255 < cs.getD j 0
      rw [e]; exact h _ (List.getElem_mem _)⟩⟩
  · rw [n32 (by omega)] at hs
    obtain ⟨j, hj, rfl⟩ := List.getElem_of_mem hc
    exact Or.inr ⟨rfl, hs, fun j hj => ⟨by rw [hv _ (by omega), wide_lo _ _ _ hj], by rw [hv _ (by omega), wide_hi _ _ _ hj]⟩, j, hj, by
      have e : cs.getD j 0 = cs[j] := by simp [List.getD_eq_getElem?_getD, hj]
      show 255 < cs.getD j 0
      rw [e]; exact hw⟩
/-- an object of exactly java/lang/String, its two fields found: as the laws ask it -/
theorem strObj {Z U : State} {a0 : Array Value} {kI : Nat} (wi : (Jvm.Cond.instantiable ST kI).before a0 Z = true) (al : Z.vm.Alike U.vm) {x : Addr} {v0 c0 : Value} (E : RoadKit.Exa Z U.heap x ST) (V : RoadKit.Fld Z U.heap x ST "value" "[B" v0) (C : RoadKit.Fld Z U.heap x ST "coder" "B" c0) :
    ∃ (D : Cell) (fV fC : Field), Blank ST x D U ∧ Found ST "value" "[B" fV U ∧ Found ST "coder" "B" fC U ∧ D.slots[fV.slot]? = some v0 ∧ D.slots[fC.slot]? = some c0 ∧ RoadKit.slotOf Z ST "value" "[B" = fV.slot ∧ RoadKit.slotOf Z ST "coder" "B" = fC.slot := by
  obtain ⟨D, cfV, kV, iV, fV, hD, gV, stV, knV, obV, asV, slV⟩ := V
  obtain ⟨D', cfC, kC, iC, fC, hD', gC, stC, -, -, asC, slC⟩ := C
  cases hD.symm.trans hD'
  obtain ⟨D2, kD, e1, e2, e3, e4, e5⟩ := E
  cases hD.symm.trans e1
  obtain ⟨c2, k2, i1, i2, i3, -⟩ := Cond.instantiable_spec wi
  cases e2.symm.trans i1
  cases e3.symm.trans i2
  obtain ⟨kU, u1, u2⟩ := al.2.2 _ _ e3
  exact ⟨D, fV, fC, ⟨hD, ⟨knV, fun q hq => by rw [hq] at obV; cases obV⟩, by rw [al.findClass]; exact e2, kU, u1, by rw [u2]; exact i3, by rw [u2]; exact e5 i3⟩, ⟨SBG.found_only al ⟨cfV, kV, iV, gV⟩, stV⟩, ⟨SBG.found_only al ⟨cfC, kC, iC, gC⟩, stC⟩, slV, slC, by simp [RoadKit.slotOf, gV], by simp [RoadKit.slotOf, gC]⟩
theorem sta_is {Z U : State} (al : Z.vm.Alike U.vm) {C n d : String} {v : Value} (S : RoadKit.Sta Z U.heap C n d v) : StaticIs U C n d v := by
  obtain ⟨cfS, iS, kS, fS, st, cS, t1, t2, t3, t4, t5, t6, t7⟩ := S
  exact StaticIs.there (s := { Z with heap := U.heap }) ⟨cfS, iS, kS, fS, st, cS, t1, t2, t3, t4, t5, (fun q => by rw [q] at t6; cases t6), t7⟩ al rfl
/-- **length() OF SUCH A STRING** -/
theorem lenW {p : Program} {l : Launch} {e : Env} {R : Room} {s : State} {args : Array Value} {below : List Frame} {len W : Nat} {Z : State} {a0 : Array Value} {h : Heap} (hZ : Z.Warmed39 s.vm) (hw : ∀ d ∈ wordsLen, d.before a0 Z = true) {kI : Nat} (wi : (Jvm.Cond.instantiable ST kI).before a0 Z = true)
    {x t : Addr} {kb : ClassId} {cs : List Int32} {cd N2 z : Int32} {vs : List Value} (E : RoadKit.Exa Z h x ST) (V : RoadKit.Fld Z h x ST "value" "[B" (.ref t)) (C : RoadKit.Fld Z h x ST "coder" "B" (.int cd)) (K : RoadKit.Arv Z h t kb .byte N2 vs (.int 0)) (hc : CodA cs cd N2 vs) (hb : ∀ c ∈ cs, ¬ c < 0 ∧ ¬ (65535 : Int32) < c)
    (S : RoadKit.Sta Z h ST "COMPACT_STRINGS" "Z" (.int z)) (hz : ¬ z = 0) (l2 : cs.length ≤ 4000) (hfr : 2 ≤ R.frames) (hlo : W + 25 ≤ R.locals) :
    Back l R p e below s args (⟨"java/lang/String", "length", "()I"⟩ : MethodName) len W (fun P a => a = #[.ref x] ∧ P.U.heap = h ∧ P.cells + 0 ≤ R.cells ∧ P.slots + 0 ≤ R.slots)
      (fun P _ v B => ∃ L, (v = some (.int (Int32.ofNat cs.length)) ∧ L = [] ∧ B.U.heap = h) ∧ B.locs = P.locs ++ L ∧ B.cells = P.cells + 0 ∧ B.slots = P.slots + 0) := by
  obtain ⟨A, K1, K2, K3, K4, K5, K6⟩ := K
  have hcod := hc.cod (by omega) K3 K5
  intro m meth c P g ig mk a X hg hsize hdg hW hn hp'
  obtain ⟨rfl, rfl, r1, r2⟩ := hp'
  have al : Z.vm.Alike P.U.vm := hZ.alike.trans X.warmed.alike
  obtain ⟨D, fV, fC, hB, F1, F2, g1, g2, -, -⟩ := strObj wi al E V C
  have hx : Txt x t A cd cs.length (fun j => cs.getD j 0) P.U := ⟨⟨_, hB.2.2.1, D, hB.1, rfl, by cases q : D.vm <;> first | rfl | exact absurd q (hB.2.1.2 _)⟩, Has.of hB F1 g1, Has.of hB F2 g2, ⟨K1.1, State.isArrayOf_alike al K1.2.1, K1.2.2, by rcases hcod with ⟨-, q, -⟩ | ⟨-, q, -⟩ <;> omega⟩, hcod, fun j hj => by
    have e : cs.getD j 0 = cs[j] := by simp [List.getD_eq_getElem?_getD, hj]
    show ¬ cs.getD j 0 < 0 ∧ ¬ 65535 < cs.getD j 0
    rw [e]; exact hb _ (List.getElem_mem _)⟩
  obtain ⟨v, B, X', ⟨⟨hv, hh⟩, hl, hk, hs⟩, st⟩ := Len.pays x t A cd cs.length (fun j => cs.getD j 0) z (tabLen_of (movedLen hZ hw)) hfr hlo m meth c P g ig mk _ X hg hsize hdg hW hn ⟨r1, r2, rfl, hx, sta_is al S, hz⟩
  exact ⟨v, B, X', ⟨[], ⟨hv, rfl, hh⟩, hl, hk, hs⟩, st⟩
end StrChars.Road
namespace StrChars.Road
open Jvm Sem ClassFile Op Lib Jvm.Stand Jvm.Free Jvm.Free.XT
open Jvm.Lib.Cold (StaticIs)
/-- the road's facts of a String, as the laws ask it -/
theorem txt_of {Z U : State} {a0 : Array Value} {kI : Nat} (wi : (Jvm.Cond.instantiable ST kI).before a0 Z = true) (al : Z.vm.Alike U.vm) {x t : Addr} {kb : ClassId} {cs : List Int32} {cd N2 : Int32} {vs : List Value} (E : RoadKit.Exa Z U.heap x ST) (V : RoadKit.Fld Z U.heap x ST "value" "[B" (.ref t)) (C : RoadKit.Fld Z U.heap x ST "coder" "B" (.int cd)) (K : RoadKit.Arv Z U.heap t kb .byte N2 vs (.int 0)) (hc : CodA cs cd N2 vs) (hb : ∀ c ∈ cs, ¬ c < 0 ∧ ¬ (65535 : Int32) < c) (l2 : cs.length ≤ 4000) :
    ∃ A, Txt x t A cd cs.length (fun j => cs.getD j 0) U := by
  obtain ⟨A, K1, K2, K3, K4, K5, K6⟩ := K
  have hcod := hc.cod (by omega) K3 K5
  obtain ⟨D, fV, fC, hB, F1, F2, g1, g2, -, -⟩ := strObj wi al E V C
  exact ⟨A, ⟨_, hB.2.2.1, D, hB.1, rfl, by cases q : D.vm <;> first | rfl | exact absurd q (hB.2.1.2 _)⟩, Has.of hB F1 g1, Has.of hB F2 g2, ⟨K1.1, State.isArrayOf_alike al K1.2.1, K1.2.2, by rcases hcod with ⟨-, q, -⟩ | ⟨-, q, -⟩ <;> omega⟩, hcod, fun j hj => by
    have e : cs.getD j 0 = cs[j] := by simp [List.getD_eq_getElem?_getD, hj]
    show ¬ cs.getD j 0 < 0 ∧ ¬ 65535 < cs.getD j 0
    rw [e]; exact hb _ (List.getElem_mem _)⟩
end StrChars.Road
namespace StrChars
open Jvm Sem ClassFile Op Lib Jvm.Stand Jvm.Free.XT Jvm.Free.ALB Jvm.Free.JM Jvm.Free
open Jvm.Lib.Cold (StaticIs)
namespace ChN
def yN : MethodName := ⟨"java/lang/String", "charAt", "(I)C"⟩
abbrev yB : ByteArray := jdk_42_method_56_code
theorem d0 : decode yB 0 = .ok (.aload_n 0, 1) := by decide +kernel
theorem d1 : decode yB 1 = .ok (.invokevirtual 492, 3) := by decide +kernel
theorem d4 : decode yB 4 = .ok (.ifCond (.eq) 12, 3) := by decide +kernel
theorem d7 : decode yB 7 = .ok (.aload_n 0, 1) := by decide +kernel
theorem d8 : decode yB 8 = .ok (.getfield 9, 3) := by decide +kernel
theorem d11 : decode yB 11 = .ok (.iload_n 1, 1) := by decide +kernel
theorem d12 : decode yB 12 = .ok (.invokestatic 495, 3) := by decide +kernel
theorem d15 : decode yB 15 = .ok (.ireturn, 1) := by decide +kernel
def site : List Cond := [.fieldLink "java/lang/String" 9 "java/lang/String" "value" "[B", IsL.tab, LChA.tab] ++ virtW "java/lang/String" 492 "java/lang/String" IsL.yN IsL.yN ++ staticW "java/lang/String" 495 LChA.yN
def tab : Cond := tabOf yN yB 2 (some .char) site
def P (x t : Addr) (V : Cell) (n : Nat) (f : Nat → Int32) (z : Int32) (fm : Value) (i : Nat) (args : Array Value) (s : State) : Prop := args = #[.ref x, .int (Int32.ofNat i)] ∧ Txt x t V 0 n f s ∧ i < n ∧ StaticIs s "java/lang/String" "COMPACT_STRINGS" "Z" (.int z) ∧ ¬ z = 0 ∧ StaticIs s "jdk/internal/util/Preconditions" "SIOOBE_FORMATTER" "Ljava/util/function/BiFunction;" fm ∧ fm.isRef = true
def E (f : Nat → Int32) (i : Nat) (r : Option Value) (s u : State) : Prop := XT.PureE (some (.int (f i))) r s u
/-- charAt(i) of a Latin-1 String of n chars, i < n: f i -/
theorem law (l : Launch) (x t : Addr) (V : Cell) (n : Nat) (f : Nat → Int32) (z : Int32) (fm : Value) (i : Nat) : Law l yN 2 1 3 40 yB 2 (some .char) site (P x t V n f z fm i) (E f i) [] 0 0 := by
  refine Law.of_walk (plainFor_of_name (by decide +kernel)) (by decide +kernel) (by decide +kernel) (by decide) (fun _ _ h => by rw [h.1]; rfl) (fun _ U U' hal hh h => ⟨h.1, h.2.1.mv hal hh, h.2.2.1, h.2.2.2.1.there hal hh, h.2.2.2.2.1, h.2.2.2.2.2.1.there hal hh, h.2.2.2.2.2.2⟩) (fun r U U' V V' h1 hal h2 h => XT.PureE.mv r U U' V V' h1 hal h2 h) ?_
  intro p e s m args below meth c s₁ X0 hexec hbytes hml hret hlk hnm hown hh0 W hP
  obtain ⟨rfl, hx, hi, s1, hz, s3, rf⟩ := hP
  have v31 := hx.2.2.2.1.2.2.2
  have hr := hx.2.2.2.2.2 i hi
  have hx0 := hx.mv X0.warmed.alike hh0
  have c1 : Steps p.tables e below (s₁.setTop (entryFrame m #[.ref x, .int (Int32.ofNat i)] 2)) (s₁.setTop (mkF m 1 #[.val (.ref x), .val (.int (Int32.ofNat i))] [.ref x])) := Steps.trans (entry rfl) (by
    show Steps p.tables e below (s₁.setTop (mkF m 0 #[.val (.ref x), .val (.int (Int32.ofNat i))] [])) _
    refine XS.aloadN X0.here hexec rfl (hb hbytes d0) rfl rfl ?_
    exact Steps.refl _)
  obtain ⟨v2, T2, X2, E2, g2⟩ := X0.callV hexec (IsL.law l x 0 z) hown (wks W (virtW "java/lang/String" 492 "java/lang/String" IsL.yN IsL.yN)) rfl (by decide) (wk W IsL.tab) (W := 0) (Nat.le_of_ble_eq_true rfl) (Nat.le_of_ble_eq_true rfl) (Nat.le_refl _) (Nat.le_refl _) (hx0.1.fc X0.warmed.alike) hx0.1.is (g := (mkF m 1 #[.val (.ref x), .val (.int (Int32.ofNat i))] [.ref x])) rfl (by rw [hml]; rfl) c1 (argsL := []) (rest := []) rfl rfl (by show 2 * 0 + 0 ≤ _; decide) (hb hbytes d1) (⟨rfl, hx0.2.2.1, hx.2.2.2.2.1.cd, s1.there X0.warmed.alike hh0, hz⟩)
  obtain ⟨rfl, q2⟩ := E2
  have hh2 := q2.trans hh0
  have hx2 := hx.mv X2.warmed.alike hh2
  obtain ⟨-, k1, k2⟩ | ⟨k0, -⟩ := hx.2.2.2.2.1
  · have c3 : Steps p.tables e below (s₁.setTop (entryFrame m #[.ref x, .int (Int32.ofNat i)] 2)) (T2.setTop (mkF m 8 #[.val (.ref x), .val (.int (Int32.ofNat i))] [.ref x])) := Steps.trans g2 (by
      refine XS.ifNo X2.here hexec rfl (hb hbytes d4) rfl (i0_eq_f (by decide)) ?_
      refine XS.aloadN X2.here hexec rfl (hb hbytes d7) rfl rfl ?_
      exact Steps.refl _)
    obtain ⟨T4, X4, q4, st4⟩ := X2.hget hexec hown (wk W (.fieldLink "java/lang/String" 9 "java/lang/String" "value" "[B")) hx2.2.1 (g := (mkF m 8 #[.val (.ref x), .val (.int (Int32.ofNat i))] [.ref x])) rfl (rest := []) rfl (hb hbytes d8)
    have hh4 := q4.trans hh2
    have c5 : Steps p.tables e below (s₁.setTop (entryFrame m #[.ref x, .int (Int32.ofNat i)] 2)) (T4.setTop (mkF m 12 #[.val (.ref x), .val (.int (Int32.ofNat i))] [.int (Int32.ofNat i), .ref t])) := (c3.trans (st4 _ (Steps.refl _))).trans (by
      refine XS.iloadN X4.here hexec rfl (hb hbytes d11) rfl ?_
      exact Steps.refl _)
    obtain ⟨v6, T6, X6, E6, g6⟩ := X4.callS hexec (LChA.law l t V i (lo8 (f i)) fm) hown (wks W (staticW "java/lang/String" 495 LChA.yN)) (wk W LChA.tab) (W := 0) (Nat.le_of_ble_eq_true rfl) (Nat.le_of_ble_eq_true rfl) (Nat.le_refl _) (Nat.le_refl _) (g := (mkF m 12 #[.val (.ref x), .val (.int (Int32.ofNat i))] [.int (Int32.ofNat i), .ref t])) rfl (by rw [hml]; rfl) c5 (argsL := [.ref t, .int (Int32.ofNat i)]) (rest := []) rfl rfl (by show 2 * 0 + 0 ≤ _; decide) (hb hbytes d12) (⟨rfl, hx.2.2.2.1.mv X4.warmed.alike hh4, (k2 i hi).1, s3.there X4.warmed.alike hh4, rf⟩)
    obtain ⟨rfl, q6⟩ := E6
    rw [chr8_lo8 hr.1 (k2 i hi).2] at g6
    exact ⟨T6, some (.int (f i)), _, _, _, X6, rfl, rfl, rfl, (fun h => by cases h), ⟨rfl, q6.trans hh4⟩, fun fs hl => Steps.trans g6 (X6.ireturnOut hexec hret (narrow_ch hr.1 hr.2) (Or.inr (Or.inr (Or.inr (Or.inl rfl)))) (hb hbytes d15) hl)⟩
  · exact absurd k0 (by decide)
theorem pays {l : Launch} {R : Room} {p : Program} {e : Env} {below : List Frame} {s : State} {sargs : Array Value} {len W : Nat} (x t : Addr) (V : Cell) (n : Nat) (f : Nat → Int32) (z : Int32) (fm : Value) (i : Nat) (htab : tab.before sargs s = true) (hfr : 4 ≤ R.frames) (hlo : W + 53 ≤ R.locals) :
    Back l R p e below s sargs yN len W (fun A₁ a₁ => A₁.cells + 0 ≤ R.cells ∧ A₁.slots + 0 ≤ R.slots ∧ P x t V n f z fm i a₁ A₁.U) (fun A₁ _ v₁ B₁ => E f i v₁ A₁.U B₁.U ∧ B₁.locs = A₁.locs ++ [] ∧ B₁.cells = A₁.cells + 0 ∧ B₁.slots = A₁.slots + 0) :=
  (law l x t V n f z fm i).pays htab hfr (by omega)
end ChN
end StrChars
namespace StrChars.Road
open Jvm Sem ClassFile Op Lib Jvm.Stand Jvm.Free Jvm.Free.XT
open Jvm.Lib.Cold (StaticIs)
/-- the words of String.charAt(int), the Latin-1 road alone -/
abbrev wordsChN : List Jvm.Cond := [.code ChN.yN ChN.yB 2 (some .char), .initialized ST, .fieldLink ST 9 ST "value" "[B", .fieldLink ST 38 ST "COMPACT_STRINGS" "Z", .fieldLink ST 15 ST "coder" "B", .code IsL.yN IsL.yB 1 (some .boolean), .methodLink ST 492 IsL.yN, .declares IsL.yN, .selects ST IsL.yN IsL.yN, .instanceMethod IsL.yN,
  .methodLink ST 495 LChA.yN, .static LChA.yN, .code LChA.yN LChA.yB 2 (some .char), .initialized "java/lang/StringLatin1", .methodLink "java/lang/StringLatin1" 9 JO.Str_checkIndex.yN, .static JO.Str_checkIndex.yN, .code JO.Str_checkIndex.yN JO.Str_checkIndex.yB 2 none,
  .fieldLink ST 1053 "jdk/internal/util/Preconditions" "SIOOBE_FORMATTER" "Ljava/util/function/BiFunction;", .methodLink ST 1059 JC.PreCheck.yN, .static JC.PreCheck.yN, .code JC.PreCheck.yN JC.PreCheck.yB 3 (some .int), .initialized "jdk/internal/util/Preconditions"]
theorem tabChN_of {a : Array Value} {s : State} (h : ∀ w ∈ wordsChN, w.before a s = true) : ChN.tab.before a s = true := by
  have hp : JC.PreCheck.tab.before a s = true := unparts (wk h (.code JC.PreCheck.yN JC.PreCheck.yB 3 (some .int))) (wks h (.initialized JC.PreCheck.yN.cls :: JC.PreCheck.site))
  have qk := consq hp h
  have hk : JO.Str_checkIndex.tab.before a s = true := unparts (wk qk (.code JO.Str_checkIndex.yN JO.Str_checkIndex.yB 2 none)) (wks qk (.initialized JO.Str_checkIndex.yN.cls :: JO.Str_checkIndex.site))
  have ql := consq hk h
  have hl : LChA.tab.before a s = true := unparts (wk ql (.code LChA.yN LChA.yB 2 (some .char))) (wks ql (.initialized LChA.yN.cls :: LChA.site))
  have hi : IsL.tab.before a s = true := unparts (wk h (.code IsL.yN IsL.yB 1 (some .boolean))) (wks h (.initialized IsL.yN.cls :: IsL.site))
  have q := consq hi (consq hl h)
  exact unparts (wk q (.code ChN.yN ChN.yB 2 (some .char))) (wks q (.initialized ChN.yN.cls :: ChN.site))
theorem movedChN {Z s : State} {a0 args : Array Value} (hZ : Z.Warmed39 s.vm) (hw : ∀ d ∈ wordsChN, d.before a0 Z = true) : ∀ d ∈ wordsChN, d.before args s = true := fun d hd => by
  have t : ∀ d ∈ wordsChN, (d.onTables && d.keepsFace) = true := by decide +kernel
  exact RoadKit.mv hZ (hw d hd) (t d hd)
/-- **charAt(i) OF A LATIN-1 STRING**, i < n: the char -/
theorem chN {p : Program} {l : Launch} {e : Env} {R : Room} {s : State} {args : Array Value} {below : List Frame} {len W : Nat} {Z : State} {a0 : Array Value} {h : Heap} (hZ : Z.Warmed39 s.vm) (hw : ∀ d ∈ wordsChN, d.before a0 Z = true) {kI : Nat} (wi : (Jvm.Cond.instantiable ST kI).before a0 Z = true)
    {x t : Addr} {kb : ClassId} {cs : List Int32} {N2 z : Int32} {vs : List Value} {fm : Value} {i : Nat} {j : Int32} (E : RoadKit.Exa Z h x ST) (V : RoadKit.Fld Z h x ST "value" "[B" (.ref t)) (C : RoadKit.Fld Z h x ST "coder" "B" (.int 0)) (K : RoadKit.Arv Z h t kb .byte N2 vs (.int 0)) (hc : CodA cs 0 N2 vs) (hb : ∀ c ∈ cs, ¬ c < 0 ∧ ¬ (65535 : Int32) < c)
    (S : RoadKit.Sta Z h ST "COMPACT_STRINGS" "Z" (.int z)) (hz : ¬ z = 0) (F : RoadKit.Sta Z h "jdk/internal/util/Preconditions" "SIOOBE_FORMATTER" "Ljava/util/function/BiFunction;" fm) (rf : fm.isRef = true) (l2 : cs.length ≤ 4000) (hi : i < cs.length) (hj : j = Int32.ofNat i) (hfr : 4 ≤ R.frames) (hlo : W + 53 ≤ R.locals) :
    Back l R p e below s args (⟨"java/lang/String", "charAt", "(I)C"⟩ : MethodName) len W (fun P a => a = #[.ref x, .int j] ∧ P.U.heap = h ∧ P.cells + 0 ≤ R.cells ∧ P.slots + 0 ≤ R.slots)
      (fun P _ v B => ∃ L, (v = some (.int (cs.getD i 0)) ∧ L = [] ∧ B.U.heap = h) ∧ B.locs = P.locs ++ L ∧ B.cells = P.cells + 0 ∧ B.slots = P.slots + 0) := by
  subst hj
  intro m meth c P g ig mk a X hg hsize hdg hW hn hp'
  obtain ⟨rfl, rfl, r1, r2⟩ := hp'
  have al : Z.vm.Alike P.U.vm := hZ.alike.trans X.warmed.alike
  obtain ⟨A, hx⟩ := txt_of wi al E V C K hc hb l2
  obtain ⟨v, B, X', ⟨⟨hv, hh⟩, hl, hk, hs⟩, st⟩ := ChN.pays x t A cs.length (fun j => cs.getD j 0) z fm i (tabChN_of (movedChN hZ hw)) hfr hlo m meth c P g ig mk _ X hg hsize hdg hW hn ⟨r1, r2, rfl, hx, hi, sta_is al S, hz, sta_is al F, rf⟩
  exact ⟨v, B, X', ⟨[], ⟨hv, rfl, hh⟩, hl, hk, hs⟩, st⟩
/-- what backV says of its String, as the contracts of this text ask it: cs's low bytes, coder 0 -/
theorem codOf {cs : List Int32} {n : Nat} (hn : cs.length = n) (hb : ∀ c ∈ cs, ¬ 255 < c) : CodA cs 0 (Int32.ofNat n) ((cs.map lo8).map Value.int) := Or.inl ⟨rfl, by rw [hn], by simp [List.map_map, Function.comp_def], hb⟩
end StrChars.Road
end Jvm.Pilot.@@N@@
namespace Jvm.Pilot.@@N@@
open Jvm Jvm.ClassFile Sem Op Lib Jvm.Free Jvm.Stand Jvm.LawKit Jvm.RoadKit Bundle Jvm.Pilot.@@N@@.Jvm.D
theorem own_q {Z : State} {a0 : Array Value} (hw : ∀ d ∈ tables_1, d.before a0 Z = true) (i : Nat) {d : Jvm.Cond} (h : tables_1[i]? = some d) : d.before a0 Z = true := hw d (List.mem_of_getElem? h)
def own_EL : List (String × Nat) := [("java/lang/String", 7)]
theorem own_strAt : ∀ d ∈ Bundle.stringAtoms, d ∈ tables_1 := by decide +kernel
theorem own_wNew : ∀ d ∈ StrChars.Road.words, d ∈ tables_1 := by decide +kernel
theorem own_wLen : ∀ d ∈ StrChars.Road.wordsLen, d ∈ tables_1 := by decide +kernel
theorem own_wCh : ∀ d ∈ StrChars.Road.wordsChN, d ∈ tables_1 := by decide +kernel
def own_Str (Z : State) (h : Heap) (a : Addr) (chs : List Int32) : Prop := ∃ (t : Addr) (kb : ClassId), Exa Z h a "java/lang/String" ∧ Fld Z h a "java/lang/String" "coder" "B" (.int (0 : Int32)) ∧ Fld Z h a "java/lang/String" "value" "[B" (.ref t) ∧ Arv Z h t kb .byte (Int32.ofNat chs.length) ((chs.map StrChars.lo8).map Value.int) (.int (0 : Int32)) ∧ (∀ c ∈ chs, ¬ c < (0 : Int32) ∧ ¬ (255 : Int32) < c) ∧ chs.length ≤ 4000
section OwnS
variable {p : Program} {l : Launch} {e : Env} {R : Room} {s : State} {args : Array Value} {below : List Frame} {len W : Nat} {Z : State} {a0 : Array Value} {h : Heap} {x : Addr} {chs : List Int32}
theorem own_EW (hw : ∀ d ∈ tables_1, d.before a0 Z = true) : EW Z a0 own_EL := EW.cons (hw _ (List.mem_of_getElem? (i := 19) rfl)) (by decide +kernel) EW.nil
theorem own_Str.exa (S : own_Str Z h x chs) : Exa Z h x "java/lang/String" := by obtain ⟨t, kb, E, -⟩ := S; exact E
theorem own_Str.ext {h' : Heap} (S : own_Str Z h x chs) (E : Ext h h') : own_Str Z h' x chs := by
  obtain ⟨t, kb, E1, E2, E3, E4, r⟩ := S
  exact ⟨t, kb, E1.ext E, E2.ext E, E3.ext E, E4.ext E, r⟩
theorem own_Str.keep0 {h' : Heap} (S : own_Str Z h x chs) (K : Keep h h' []) : own_Str Z h' x chs := by
  obtain ⟨t, kb, E1, E2, E3, E4, r⟩ := S
  exact ⟨t, kb, E1.keep K, E2.keep K nin0, E3.keep K nin0, E4.keep K nin0, r⟩
theorem own_up (hp : ∀ c ∈ chs, ¬ c < (0 : Int32) ∧ ¬ (255 : Int32) < c) : ∀ c ∈ chs, ¬ c < (0 : Int32) ∧ ¬ (65535 : Int32) < c := fun c hc => ⟨(hp c hc).1, fun q => (hp c hc).2 (by
  rw [Int32.lt_iff_toInt_lt] at *
  have e1 : (65535 : Int32).toInt = 65535 := rfl
  have e2 : (255 : Int32).toInt = 255 := rfl
  omega)⟩
theorem own_lenB (hZ : Z.Warmed39 s.vm) (hw : ∀ d ∈ tables_1, d.before a0 Z = true) (S : own_Str Z h x chs) {z : Int32} (S1 : Sta Z h "java/lang/String" "COMPACT_STRINGS" "Z" (.int z)) (hz : ¬ z = (0 : Int32)) (hfr : 2 ≤ R.frames) (hlo : W + 25 ≤ R.locals) :
    Back l R p e below s args (⟨"java/lang/String", "length", "()I"⟩ : MethodName) len W (fun P a => a = #[.ref x] ∧ P.U.heap = h ∧ P.cells + 0 ≤ R.cells ∧ P.slots + 0 ≤ R.slots)
      (fun P _ v B => ∃ L, (v = some (.int (Int32.ofNat chs.length)) ∧ L = [] ∧ B.U.heap = h) ∧ B.locs = P.locs ++ L ∧ B.cells = P.cells + 0 ∧ B.slots = P.slots + 0) := by
  obtain ⟨t, kb, E1, E2, E3, E4, hp, l2⟩ := S
  exact StrChars.Road.lenW hZ (fun d hd => hw d (own_wLen d hd)) (kI := 4) (hw _ (List.mem_of_getElem? (i := 7) rfl)) E1 E3 E2 E4 (StrChars.Road.codOf (n := chs.length) rfl (fun c hc => (hp c hc).2)) (own_up hp) S1 hz l2 hfr hlo
theorem own_chB (hZ : Z.Warmed39 s.vm) (hw : ∀ d ∈ tables_1, d.before a0 Z = true) (S : own_Str Z h x chs) {z : Int32} (S1 : Sta Z h "java/lang/String" "COMPACT_STRINGS" "Z" (.int z)) (hz : ¬ z = (0 : Int32)) {fm : Value} (S2 : Sta Z h "jdk/internal/util/Preconditions" "SIOOBE_FORMATTER" "Ljava/util/function/BiFunction;" fm) (rf : fm.isRef = true) {i : Nat} {j : Int32} (hi : i < chs.length) (hj : j = Int32.ofNat i) (hfr : 4 ≤ R.frames) (hlo : W + 53 ≤ R.locals) :
    Back l R p e below s args (⟨"java/lang/String", "charAt", "(I)C"⟩ : MethodName) len W (fun P a => a = #[.ref x, .int j] ∧ P.U.heap = h ∧ P.cells + 0 ≤ R.cells ∧ P.slots + 0 ≤ R.slots)
      (fun P _ v B => ∃ L, (v = some (.int (chs.getD i 0)) ∧ L = [] ∧ B.U.heap = h) ∧ B.locs = P.locs ++ L ∧ B.cells = P.cells + 0 ∧ B.slots = P.slots + 0) := by
  obtain ⟨t, kb, E1, E2, E3, E4, hp, l2⟩ := S
  exact StrChars.Road.chN hZ (fun d hd => hw d (own_wCh d hd)) (kI := 4) (hw _ (List.mem_of_getElem? (i := 7) rfl)) E1 E3 E2 E4 (StrChars.Road.codOf (n := chs.length) rfl (fun c hc => (hp c hc).2)) (own_up hp) S1 hz S2 rf l2 hi hj hfr hlo
def own_b (A B : List Int32) : Int32 := if A = B then (1 : Int32) else (0 : Int32)
theorem own_safe {vm : Vm} {EL : List (String × Nat)} (hw : ∀ d ∈ tables_1, d.before a0 Z = true) (hal : Z.vm.Alike vm) (E : Exa Z h x "java/lang/String") (F : Fld Z h x "java/lang/String" "value" "[B" .null) : Safe Z EL vm h x := fun B => by
  obtain ⟨c2, k2, i1, i2, i3, -⟩ := Cond.instantiable_spec (hw _ (List.mem_of_getElem? (i := 7) rfl))
  obtain ⟨cell, k, e1, e2, e3, -, -⟩ := E
  cases e2.symm.trans i1
  cases e3.symm.trans i2
  obtain ⟨p, -, u, a, -, q, -, G, rfl | rfl⟩ := B
  · obtain ⟨cell', cf, kf, i, f, f1, f2, f3, f4, f5, f6, f7⟩ := F
    obtain ⟨cS, ⟨⟨s1, s2, s3, ⟨cv, kv, iv, s4, s4'⟩, s5, s6, s7, s8, s9⟩, hfS, hcS⟩, r⟩ := G
    obtain ⟨kv', z4⟩ := ff_back (U := Wst Z vm h) hal s4
    cases f2.symm.trans z4
    cases (show h[q.sa]? = some q.sC from s1).symm.trans f1
    have := s8.symm.trans f7
    cases this
  · obtain ⟨cS, ⟨⟨s1, s2, s3, s4, s5, s6, s7, s8, s9, s10, ⟨-, kB, hkB, compB, hkindB⟩, s12⟩, hfS, hcS⟩, r⟩ := G
    cases (show h[q.sd]? = some q.SA from s10).symm.trans e1
    obtain ⟨k', z1, z2⟩ := hal.2.2 _ _ e3
    cases (show vm.classes[q.SA.cls]? = some kB from hkB).symm.trans z1
    rw [z2] at hkindB
    have := i3.symm.trans hkindB
    cases this
theorem own_narc {u : Int32} (h : ¬ u < (0 : Int32) ∧ ¬ (255 : Int32) < u) : nar .char u = u := by
  have q := i2c_mask u
  have m : u &&& (255 : Int32) = u := by
    apply Int32.toInt_inj.mp
    have h1 := c_mask u 255 8 (by decide) (by decide +kernel)
    rw [Int32.lt_iff_toInt_lt, Int32.lt_iff_toInt_lt] at h
    have e1 : (0 : Int32).toInt = 0 := rfl
    have e2 : (255 : Int32).toInt = 255 := rfl
    rw [h1, show ((2 ^ 8 : Nat) : Int) = 256 from rfl]
    omega
  rw [m] at q
  exact q
theorem own_i2c (u : Int32) : (u &&& (255 : Int32)).toUInt32.toUInt16.toUInt32.toInt32 = u &&& (255 : Int32) := i2c_mask u
theorem own_255 (u : Int32) : ¬ (u &&& (255 : Int32)) < (0 : Int32) ∧ ¬ (255 : Int32) < (u &&& (255 : Int32)) := by
  have h1 := c_mask u 255 8 (by decide) (by decide +kernel)
  rw [Int32.lt_iff_toInt_lt, Int32.lt_iff_toInt_lt, h1, show ((2 ^ 8 : Nat) : Int) = 256 from rfl]
  have e1 : (0 : Int32).toInt = 0 := rfl
  have e2 : (255 : Int32).toInt = 255 := rfl
  omega
end OwnS
def own_min (x y : Int32) : Int32 := if y < x then y else x
def own_max (x y : Int32) : Int32 := if x < y then y else x
def own_I (bd : List Nat) : List Value := bd.map fun n => Value.int (Int32.ofNat n)
theorem own_tN {n : Nat} (h : n < 2147483648) : (Int32.ofNat n).toInt = n := Int32.toInt_ofNat_small h
theorem own_clampN {n : Nat} (h : n < 2147483648) : (Int32.ofNat n).toNatClampNeg = n := by
  simp only [Int32.toNatClampNeg, own_tN h]; rfl
theorem own_getI (bd : List Nat) (i : Nat) : (own_I bd).getD i (.int (0 : Int32)) = .int (Int32.ofNat (bd.getD i 0)) := by
  simp only [own_I, List.getD, List.getElem?_map]
  cases bd[i]? <;> rfl
theorem own_setI (bd : List Nat) (i n : Nat) : (own_I bd).set i (.int (Int32.ofNat n)) = own_I (bd.set i n) := by
  simp only [own_I, List.map_set]
theorem own_lenI (bd : List Nat) : (own_I bd).length = bd.length := by simp [own_I]
theorem own_add1 (n : Nat) : Int32.ofNat n + (1 : Int32) = Int32.ofNat (n + 1) := (Jvm.LawKit.inc_ofNat n).symm
theorem own_eqN {x : Int32} {n : Nat} (h : n < 2147483648) (e : x.toInt = n) : x = Int32.ofNat n := Int32.toInt_inj.mp (by rw [e, own_tN h])
theorem own_addN {a b : Nat} (h : a + b < 2147483648) : Int32.ofNat a + Int32.ofNat b = Int32.ofNat (a + b) := by
  apply own_eqN h
  have h1 := c_iadd (Int32.ofNat a) (Int32.ofNat b)
  have h2 := rng32 (Int32.ofNat a + Int32.ofNat b)
  rw [own_tN (by omega), own_tN (by omega)] at h1
  generalize (Int32.ofNat a + Int32.ofNat b).toInt = z at *
  omega
theorem own_subN {a b : Nat} (h : b ≤ a) (h' : a < 2147483648) : Int32.ofNat a - Int32.ofNat b = Int32.ofNat (a - b) := by
  apply own_eqN (by omega)
  have h1 := c_isub (Int32.ofNat a) (Int32.ofNat b)
  have h2 := rng32 (Int32.ofNat a - Int32.ofNat b)
  rw [own_tN (by omega), own_tN (by omega)] at h1
  generalize (Int32.ofNat a - Int32.ofNat b).toInt = z at *
  omega
theorem own_mulN {a b : Nat} (h : a * b < 2147483648) (ha : a < 2147483648) (hb : b < 2147483648) : Int32.ofNat a * Int32.ofNat b = Int32.ofNat (a * b) := by
  apply own_eqN h
  have h1 := c_imul (Int32.ofNat a) (Int32.ofNat b)
  have h2 := rng32 (Int32.ofNat a * Int32.ofNat b)
  rw [own_tN ha, own_tN hb] at h1
  have h3 : ((a * b : Nat) : Int) = (a : Int) * (b : Int) := Int.natCast_mul a b
  rw [← h3] at h1
  generalize (Int32.ofNat a * Int32.ofNat b).toInt = z at *
  generalize a * b = m at *
  omega
theorem own_ltN {a b : Nat} (ha : a < 2147483648) (hb : b < 2147483648) : Int32.ofNat a < Int32.ofNat b ↔ a < b := by
  rw [Int32.lt_iff_toInt_lt, own_tN ha, own_tN hb]; omega
theorem own_minN {x y : Nat} (hx : x < 2147483648) (hy : y < 2147483648) : own_min (Int32.ofNat x) (Int32.ofNat y) = Int32.ofNat (min x y) := by
  unfold own_min
  by_cases q : y < x
  · rw [if_pos ((own_ltN hy hx).mpr q), Nat.min_eq_right (by omega)]
  · rw [if_neg (fun r => q ((own_ltN hy hx).mp r)), Nat.min_eq_left (by omega)]
theorem own_addb (n : Nat) (P : Prop) [Decidable P] : Int32.ofNat n + (if P then (0 : Int32) else (1 : Int32)) = Int32.ofNat (n + if P then 0 else 1) := by
  by_cases q : P
  · rw [if_pos q, if_pos q]; show Int32.ofNat n + 0 = _; rw [Int32.add_zero]; rfl
  · rw [if_neg q, if_neg q]; exact own_add1 n
def own_dc (x1 x2 x3 x4 : Nat) (p q : Prop) [Decidable p] [Decidable q] : Nat := if q then min (min (min (x1 + if p then 0 else 1) (x2 + 1)) (x3 + 1)) (x4 + 1) else min (min (x1 + if p then 0 else 1) (x2 + 1)) (x3 + 1)
theorem own_dc_le {x1 x2 x3 x4 B : Nat} {p q : Prop} [Decidable p] [Decidable q] (h : x2 ≤ B) : own_dc x1 x2 x3 x4 p q ≤ B + 1 := by
  unfold own_dc; split <;> omega
theorem own_set_le {bd : List Nat} {i n B : Nat} (h : ∀ k, bd.getD k 0 ≤ B) (hn : n ≤ B + 1) : ∀ k, (bd.set i n).getD k 0 ≤ B + 1 := fun k => by
  have := h k
  simp only [List.getD, List.getElem?_set] at *
  split
  · split
    · exact hn
    · simp
  · omega
def own_ED (Z : State) (h : Heap) (a r ba ta : Addr) (kb kt : ClassId) (li : Nat) (chs : List Int32) (bd : List Nat) (ty : List Int32) (len : Nat) : Prop := Exa Z h a "com/example/catchment/catchment/linkage/EditDistance" ∧ Fld Z h a "com/example/catchment/catchment/linkage/EditDistance" "value" "Ljava/lang/String;" (.ref r) ∧ Fld Z h a "com/example/catchment/catchment/linkage/EditDistance" "limit" "I" (.int (Int32.ofNat li)) ∧ Fld Z h a "com/example/catchment/catchment/linkage/EditDistance" "over" "I" (.int (Int32.ofNat (li + 1))) ∧ Fld Z h a "com/example/catchment/catchment/linkage/EditDistance" "width" "I" (.int (Int32.ofNat (2 * li + 1))) ∧ Fld Z h a "com/example/catchment/catchment/linkage/EditDistance" "band" "[I" (.ref ba) ∧ Fld Z h a "com/example/catchment/catchment/linkage/EditDistance" "typed" "[C" (.ref ta) ∧ Fld Z h a "com/example/catchment/catchment/linkage/EditDistance" "length" "I" (.int (Int32.ofNat len)) ∧ Arv Z h ba kb .int (Int32.ofNat bd.length) (own_I bd) (.int (0 : Int32)) ∧ Arv Z h ta kt .char (Int32.ofNat ty.length) (ty.map Value.int) (.int (0 : Int32)) ∧ own_Str Z h r chs
section OwnED
variable {Z : State} {a0 : Array Value} {h h' : Heap} {a r ba ta : Addr} {kb kt : ClassId} {li : Nat} {chs : List Int32} {bd : List Nat} {ty : List Int32} {len : Nat}
theorem own_neTy {t b : Addr} {k1 k2 : ClassId} {t1 t2 : FieldType} {z1 z2 : Int32} {v1 v2 : List Value} {d1 d2 : Value} (A : Arv Z h t k1 t1 z1 v1 d1) (B : Arv Z h b k2 t2 z2 v2 d2) (hne : t1 ≠ t2) : t ≠ b := fun e => by
  subst e
  obtain ⟨c1, A1, -⟩ := A
  obtain ⟨c2, B1, -⟩ := B
  cases A1.1.symm.trans B1.1
  obtain ⟨-, k, hk, comp, hkind⟩ := A1.2.1
  obtain ⟨-, k', hk', comp', hkind'⟩ := B1.2.1
  cases hk.symm.trans hk'
  have := hkind.symm.trans hkind'
  injection this with _ e
  exact hne e
theorem own_Str.wr {x b : Addr} {sl : Nat} {v : Value} (S : own_Str Z h x chs) (W : Wr h h' b sl v) (hx : x ≠ b) (ht : ∀ {t kb z vs d}, Arv Z h t kb .byte z vs d → t ≠ b) : own_Str Z h' x chs := by
  obtain ⟨t, kb, E1, E2, E3, E4, q⟩ := S
  exact ⟨t, kb, E1.wr W, E2.other W (Or.inl hx), E3.other W (Or.inl hx), E4.other W (ht E4), q⟩
theorem own_neObj {x : Addr} {C D : String} (E : Exa Z h a C) (F : Exa Z h x D) (hn : C ≠ D) : a ≠ x := ne_exa E F hn
theorem own_ED.wrBand (hw : ∀ d ∈ tables_1, d.before a0 Z = true) (D : own_ED Z h a r ba ta kb kt li chs bd ty len) {j : Int32} {idx n : Nat} (hj : j.toNatClampNeg = idx) (hi : idx < bd.length) (W : Wr h h' ba j.toNatClampNeg (.int (Int32.ofNat n))) : own_ED Z h' a r ba ta kb kt li chs (bd.set idx n) ty len := by
  obtain ⟨E, F1, F2, F3, F4, F5, F6, F7, VB, VT, S⟩ := D
  have n1 : a ≠ ba := E.neArv VB (own_q hw 28 rfl)
  have n2 : ta ≠ ba := own_neTy VT VB (by decide)
  have n3 : r ≠ ba := S.exa.neArv VB (own_q hw 7 rfl)
  have S' := S.wr W n3 (fun A => own_neTy A VB (by decide))
  refine ⟨E.wr W, F1.other W (Or.inl n1), F2.other W (Or.inl n1), F3.other W (Or.inl n1), F4.other W (Or.inl n1), F5.other W (Or.inl n1), F6.other W (Or.inl n1), F7.other W (Or.inl n1), ?_, VT.other W n2, S'⟩
  obtain ⟨c, A, q1, q2, q3, H, G⟩ := VB
  rw [← own_setI, List.length_set]
  exact Arv.set A q1 q2 q3 H G rfl W idx hj (by rw [own_lenI]; exact hi)
theorem own_ED.wrTyped (hw : ∀ d ∈ tables_1, d.before a0 Z = true) (D : own_ED Z h a r ba ta kb kt li chs bd ty len) {j : Int32} {idx : Nat} {ch : Int32} (hc : ¬ ch < (0 : Int32) ∧ ¬ (255 : Int32) < ch) (hj : j.toNatClampNeg = idx) (hi : idx < ty.length) (W : Wr h h' ta j.toNatClampNeg (.int (nar .char ch))) : own_ED Z h' a r ba ta kb kt li chs bd (ty.set idx ch) len := by
  obtain ⟨E, F1, F2, F3, F4, F5, F6, F7, VB, VT, S⟩ := D
  have n1 : a ≠ ta := E.neArv VT (own_q hw 28 rfl)
  have n2 : ba ≠ ta := own_neTy VB VT (by decide)
  have n3 : r ≠ ta := S.exa.neArv VT (own_q hw 7 rfl)
  have S' := S.wr W n3 (fun A => own_neTy A VT (by decide))
  refine ⟨E.wr W, F1.other W (Or.inl n1), F2.other W (Or.inl n1), F3.other W (Or.inl n1), F4.other W (Or.inl n1), F5.other W (Or.inl n1), F6.other W (Or.inl n1), F7.other W (Or.inl n1), VB.other W n2, ?_, S'⟩
  obtain ⟨c, A, q1, q2, q3, H, G⟩ := VT
  have V := Arv.set A q1 q2 q3 H G (fits_nar_char ch) W idx hj (by rw [List.length_map]; exact hi)
  rw [own_narc hc] at V
  rw [List.length_set, List.map_set]
  exact V
theorem own_ED.wrLen (hw : ∀ d ∈ tables_1, d.before a0 Z = true) (D : own_ED Z h a r ba ta kb kt li chs bd ty len) {n : Nat} (W : Wr h h' a (Jvm.RoadKit.slotOf Z "com/example/catchment/catchment/linkage/EditDistance" "length" "I") (.int (Int32.ofNat n))) : own_ED Z h' a r ba ta kb kt li chs bd ty n := by
  obtain ⟨E, F1, F2, F3, F4, F5, F6, F7, VB, VT, S⟩ := D
  have n1 : a ≠ ba := E.neArv VB (own_q hw 28 rfl)
  have n2 : a ≠ ta := E.neArv VT (own_q hw 28 rfl)
  have n3 : r ≠ a := ne_exa S.exa E (by decide)
  have S' := S.wr W n3 (fun A => (E.neArv A (own_q hw 28 rfl)).symm)
  exact ⟨E.wr W, F1.other W (Or.inr (slot_ne (Or.inr (own_q hw 35 rfl)) (Or.inl (own_q hw 63 rfl)) (by decide) (t := (.object "java/lang/String")) (t' := .int) (by decide) (by decide))), F2.other W (Or.inr (slot_ne (Or.inr (own_q hw 37 rfl)) (Or.inl (own_q hw 63 rfl)) (by decide) (t := .int) (t' := .int) (by decide) (by decide))), F3.other W (Or.inr (slot_ne (Or.inr (own_q hw 39 rfl)) (Or.inl (own_q hw 63 rfl)) (by decide) (t := .int) (t' := .int) (by decide) (by decide))), F4.other W (Or.inr (slot_ne (Or.inr (own_q hw 41 rfl)) (Or.inl (own_q hw 63 rfl)) (by decide) (t := .int) (t' := .int) (by decide) (by decide))), F5.other W (Or.inr (slot_ne (Or.inl (own_q hw 56 rfl)) (Or.inl (own_q hw 63 rfl)) (by decide) (t := (.array .int)) (t' := .int) (by decide) (by decide))), F6.other W (Or.inr (slot_ne (Or.inl (own_q hw 54 rfl)) (Or.inl (own_q hw 63 rfl)) (by decide) (t := (.array .char)) (t' := .int) (by decide) (by decide))), F7.same W, VB.other W n1.symm, VT.other W n2.symm, S'⟩
theorem own_ED.keepOut {ws : List Addr} (D : own_ED Z h a r ba ta kb kt li chs bd ty len) (K : Keep h h' []) : own_ED Z h' a r ba ta kb kt li chs bd ty len := by
  obtain ⟨E, F1, F2, F3, F4, F5, F6, F7, VB, VT, S⟩ := D
  exact ⟨E.keep K, F1.keep K nin0, F2.keep K nin0, F3.keep K nin0, F4.keep K nin0, F5.keep K nin0, F6.keep K nin0, F7.keep K nin0, VB.keep K nin0, VT.keep K nin0, S.keep0 K⟩
end OwnED
def own_beyN (li : Nat) (b : List Nat) (kept : Nat) : Bool := (List.range (2 * li + 1)).all fun k => decide (li < b.getD (kept * (2 * li + 1) + k) 0)
theorem own_bey_no {li kept k : Nat} {b : List Nat} (hk : k < 2 * li + 1) (h : ¬ li < b.getD (kept * (2 * li + 1) + k) 0) : own_beyN li b kept = false := by
  rw [own_beyN, List.all_eq_false]
  exact ⟨k, List.mem_range.mpr hk, by simpa using h⟩
theorem own_bey_yes {li kept : Nat} {b : List Nat} (h : ∀ k, k < 2 * li + 1 → li < b.getD (kept * (2 * li + 1) + k) 0) : own_beyN li b kept = true := by
  rw [own_beyN, List.all_eq_true]
  intro k hk
  simpa using h k (List.mem_range.mp hk)
def own_initV (li vl k : Nat) : Nat := if k < li ∨ li + vl < k then li + 1 else k - li
def own_ifill (li vl : Nat) : Nat → List Nat → List Nat
  | 0, b => b
  | k + 1, b => (own_ifill li vl k b).set k (own_initV li vl k)
theorem own_ifill_len (li vl : Nat) (b : List Nat) : ∀ k, (own_ifill li vl k b).length = b.length
  | 0 => rfl
  | k + 1 => by rw [own_ifill, List.length_set]; exact own_ifill_len li vl b k
theorem own_mono {p : Program} {l : Launch} {e : Env} {R : Room} {s : State} {m : MethodId} {args : Array Value} {below : List Frame} {meth : Method} {c : Code} {T : State} {locs : List Loc} {c1 s1 c2 s2 : Nat} (X : Stand p l e R s m args below meth c T locs c1 s1) (h1 : c1 ≤ c2) (h2 : s1 ≤ s2) : Stand p l e R s m args below meth c T locs c2 s2 := { X with same := X.same.mono h1 h2 }
theorem own_rangeGet (dv : Value) : ∀ (vs : List Value), ((List.range vs.length).map fun i => vs.getD i dv) = vs := fun vs => by
  apply List.ext_getElem
  · simp
  · intro i h1 h2
    simp [List.getD, List.getElem?_eq_getElem h2]
theorem own_cpL {vs : List Value} {dv : Value} {nn : Nat} {z : Int32} (hz : z.toNatClampNeg = vs.length) : ((List.replicate nn dv).take (0 : Int32).toNatClampNeg ++ ((List.range z.toNatClampNeg).map fun i => vs.getD ((0 : Int32).toNatClampNeg + i) dv) ++ (List.replicate nn dv).drop ((0 : Int32).toNatClampNeg + z.toNatClampNeg)) = vs ++ List.replicate (nn - vs.length) dv := by
  have e0 : (0 : Int32).toNatClampNeg = 0 := rfl
  rw [hz, e0]
  simp only [Nat.zero_add, List.take_zero, List.nil_append, List.drop_replicate]
  rw [own_rangeGet]
theorem own_ifc {P Q : Prop} [Decidable P] [Decidable Q] (h : P ↔ Q) : (if P then (0 : Nat) else 1) = (if Q then 0 else 1) := by
  by_cases q : P
  · rw [if_pos q, if_pos (h.mp q)]
  · rw [if_neg q, if_neg (fun r => q (h.mpr r))]
def own_cA (li i : Nat) (e1 : List Bool) (b : List Nat) (k : Nat) : Nat := b.getD (i * (2 * li + 1) - (2 * li + 1) + k) 0 + (if e1.getD (i + k - li - 1) false = true then 0 else 1)
def own_cB (li i : Nat) (b : List Nat) (k x : Nat) : Nat := if k + 1 < 2 * li + 1 then min x (b.getD (i * (2 * li + 1) - (2 * li + 1) + k + 1) 0 + 1) else x
def own_cC (li i : Nat) (b : List Nat) (k x : Nat) : Nat := if 0 < k then min x (b.getD (i * (2 * li + 1) + k - 1) 0 + 1) else x
def own_cD (li i : Nat) (e1 e0 : List Bool) (b : List Nat) (k x : Nat) : Nat := if 1 < i ∧ 1 < i + k - li ∧ e1.getD (i + k - li - 2) false = true ∧ e0.getD (i + k - li - 1) false = true then min x (b.getD (i * (2 * li + 1) - 2 * (2 * li + 1) + k) 0 + 1) else x
def own_cellN (li i : Nat) (e1 e0 : List Bool) (b : List Nat) (k : Nat) : Nat := min (own_cD li i e1 e0 b k (own_cC li i b k (own_cB li i b k (own_cA li i e1 b k)))) (li + 1)
def own_valN (li i vl : Nat) (e1 e0 : List Bool) (b : List Nat) (k : Nat) : Nat :=
  if i + k < li then li + 1 else if i + k = li then i else if i + k ≤ li + vl then own_cellN li i e1 e0 b k else li + 1
def own_fillN (li i vl : Nat) (e1 e0 : List Bool) : Nat → List Nat → List Nat
  | 0, b => b
  | k + 1, b => (own_fillN li i vl e1 e0 k b).set (i * (2 * li + 1) + k) (own_valN li i vl e1 e0 (own_fillN li i vl e1 e0 k b) k)
theorem own_fill_len (li i vl : Nat) (e1 e0 : List Bool) (b : List Nat) : ∀ k, (own_fillN li i vl e1 e0 k b).length = b.length
  | 0 => rfl
  | k + 1 => by rw [own_fillN, List.length_set]; exact own_fill_len li i vl e1 e0 b k
theorem own_val_le {li i vl : Nat} {e1 e0 : List Bool} {b : List Nat} {k : Nat} (h1 : li ≤ 3) (h2 : i ≤ 4) : own_valN li i vl e1 e0 b k ≤ 4 := by
  have h : own_cellN li i e1 e0 b k ≤ li + 1 := Nat.min_le_right _ _
  unfold own_valN
  split
  · omega
  · split
    · omega
    · split <;> omega
theorem own_set_le4 {bd : List Nat} {i n B : Nat} (h : ∀ k, bd.getD k 0 ≤ B) (hn : n ≤ B) : ∀ k, (bd.set i n).getD k 0 ≤ B := fun k => by
  have := h k
  simp only [List.getD, List.getElem?_set] at *
  split
  · split
    · exact hn
    · simp
  · omega
theorem own_fill_le {li i vl : Nat} {e1 e0 : List Bool} {b : List Nat} (h1 : li ≤ 3) (h2 : i ≤ 4) (h : ∀ k, b.getD k 0 ≤ 4) : ∀ m k, (own_fillN li i vl e1 e0 m b).getD k 0 ≤ 4
  | 0 => h
  | m + 1 => by rw [own_fillN]; exact own_set_le4 (own_fill_le h1 h2 h m) (own_val_le h1 h2)
def own_growT (len : Nat) (ty : List Int32) : List Int32 := if len = ty.length then ty ++ List.replicate (ty.length * 2 - ty.length) 0 else ty
def own_growB (li len cap : Nat) (bd : List Nat) : List Nat := if len = cap then bd ++ List.replicate ((cap * 2 + 1) * (2 * li + 1) - bd.length) 0 else bd
theorem own_growT_len {len : Nat} {ty : List Int32} (h1 : len ≤ ty.length) (h2 : 1 ≤ ty.length) (h3 : len ≤ 2) (h4 : ty.length ≤ 7) : len < (own_growT len ty).length ∧ (own_growT len ty).length ≤ 7 := by
  unfold own_growT
  split
  · rw [List.length_append, List.length_replicate]; omega
  · omega
theorem own_growB_len {li len : Nat} {bd : List Nat} {ty : List Int32} (hb : bd.length = (ty.length + 1) * (2 * li + 1)) : (own_growB li len ty.length bd).length = ((own_growT len ty).length + 1) * (2 * li + 1) := by
  unfold own_growB own_growT
  split
  · rw [List.length_append, List.length_replicate, List.length_append, List.length_replicate, hb]
    have : (ty.length + 1) * (2 * li + 1) ≤ (ty.length * 2 + 1) * (2 * li + 1) := Nat.mul_le_mul_right _ (by omega)
    rw [Nat.add_sub_cancel' this]
    congr 1
    omega
  · exact hb
theorem own_growB_le {li len cap : Nat} {bd : List Nat} {B : Nat} (h : ∀ k, bd.getD k 0 ≤ B) : ∀ k, (own_growB li len cap bd).getD k 0 ≤ B := fun k => by
  have := h k
  unfold own_growB
  split
  · simp only [List.getD, List.getElem?_append] at *
    split
    · exact this
    · rw [List.getElem?_replicate]; split <;> simp
  · exact this
theorem own_tyGet {len : Nat} {ty : List Int32} {ch : Int32} (h1 : len ≤ ty.length) (h : 1 ≤ len) : ((own_growT len ty).set len ch).getD (len - 1) 0 = ty.getD (len - 1) 0 := by
  unfold own_growT
  split
  · simp only [List.getD, List.getElem?_set, List.getElem?_append]
    rw [if_neg (by omega), if_pos (by omega)]
  · simp only [List.getD, List.getElem?_set]
    rw [if_neg (by omega)]
theorem own_getC (l : List Int32) (i : Nat) : (l.map Value.int).getD i (.int (0 : Int32)) = .int (l.getD i 0) := by
  simp only [List.getD, List.getElem?_map]
  cases l[i]? <;> rfl
theorem own_inb {x n : Nat} (h : x < n) (hn : n < 2147483648) : ¬ Int32.ofNat x < (0 : Int32) ∧ Int32.ofNat x < Int32.ofNat n := ⟨by rw [Int32.lt_iff_toInt_lt, own_tN (by omega)]; have e0 : (0 : Int32).toInt = 0 := rfl; omega, by rw [own_ltN (by omega) hn]; exact h⟩
theorem own_sub1 {a : Nat} (h : 1 ≤ a) (h' : a < 2147483648) : Int32.ofNat a - (1 : Int32) = Int32.ofNat (a - 1) := own_subN (b := 1) h h'
theorem own_sub2 {a : Nat} (h : 2 ≤ a) (h' : a < 2147483648) : Int32.ofNat a - (2 : Int32) = Int32.ofNat (a - 2) := own_subN (b := 2) h h'
theorem own_subT {a b : Nat} (ha : a ≤ 100000) (hb : b ≤ 100000) : (Int32.ofNat a - Int32.ofNat b).toInt = (a : Int) - b := by
  have h1 := c_isub (Int32.ofNat a) (Int32.ofNat b)
  have h2 := rng32 (Int32.ofNat a - Int32.ofNat b)
  rw [own_tN (by omega), own_tN (by omega)] at h1
  generalize (Int32.ofNat a - Int32.ofNat b).toInt = z at *
  omega
theorem own_saT {a b d : Nat} (ha : a ≤ 100000) (hb : b ≤ 100000) (hd : d ≤ 100000) : (Int32.ofNat a - Int32.ofNat b + Int32.ofNat d).toInt = (a : Int) - b + d := by
  have h1 := c_iadd (Int32.ofNat a - Int32.ofNat b) (Int32.ofNat d)
  have h2 := rng32 (Int32.ofNat a - Int32.ofNat b + Int32.ofNat d)
  rw [own_subT ha hb, own_tN (by omega)] at h1
  generalize (Int32.ofNat a - Int32.ofNat b + Int32.ofNat d).toInt = z at *
  omega
theorem own_jN {i li k : Nat} (hi : i ≤ 1000) (hl : li ≤ 1000) (hk : k ≤ 1000) (h : li ≤ i + k) : Int32.ofNat i - Int32.ofNat li + Int32.ofNat k = Int32.ofNat (i + k - li) := own_eqN (by omega) (by rw [own_saT (by omega) (by omega) (by omega)]; omega)
theorem own_maxS {a b : Nat} (ha : a ≤ 1000) (hb : b ≤ 1000) : own_max (0 : Int32) (Int32.ofNat a - Int32.ofNat b) = Int32.ofNat (a - b) := by
  have h1 := own_subT (a := a) (b := b) (by omega) (by omega)
  have e0 : (0 : Int32).toInt = 0 := rfl
  unfold own_max
  split
  · rename_i q; rw [Int32.lt_iff_toInt_lt, h1, e0] at q; exact own_eqN (by omega) (by rw [h1]; omega)
  · rename_i q; rw [Int32.lt_iff_toInt_lt, h1, e0] at q; exact own_eqN (by omega) (by rw [e0]; omega)
theorem own_toL {li vl i : Nat} (h1 : li ≤ 1000) (h2 : vl ≤ 1000) (h3 : i ≤ 1000) : (own_min (Int32.ofNat (2 * li)) (Int32.ofNat vl - Int32.ofNat i + Int32.ofNat li)).toInt = min ((2 * li : Nat) : Int) ((vl : Int) - i + li) := by
  have h4 := own_saT (a := vl) (b := i) (d := li) (by omega) (by omega) (by omega)
  have h5 := own_tN (n := 2 * li) (by omega)
  unfold own_min
  split
  · rename_i q; rw [Int32.lt_iff_toInt_lt, h4, h5] at q; rw [h4]; omega
  · rename_i q; rw [Int32.lt_iff_toInt_lt, h4, h5] at q; rw [h5]; omega
theorem own_narb (u : Int32) : nar .byte u.toInt8.toInt32 = StrChars.lo8 u := by simp [nar, StrChars.lo8]
def own_stC (li vl : Nat) : Nat → Nat
  | 0 => vl + (li + 1)
  | k + 1 => if k = own_stC li vl k then own_stC li vl k * 2 else own_stC li vl k
def own_stT (li vl : Nat) (ts : List Int32) : Nat → List Int32
  | 0 => List.replicate (vl + (li + 1)) 0
  | k + 1 => (own_growT k (own_stT li vl ts k)).set k (ts.getD k 0)
def own_stB (li vl : Nat) (E : List (List Bool)) : Nat → List Nat
  | 0 => own_ifill li vl (2 * li + 1) (List.replicate ((vl + (li + 1) + 1) * (2 * li + 1)) 0)
  | k + 1 => own_fillN li (k + 1) vl (E.getD k []) (E.getD (k - 1) []) (2 * li + 1) (own_growB li k (own_stC li vl k) (own_stB li vl E k))
theorem own_stT_len (li vl : Nat) (ts : List Int32) : ∀ k, (own_stT li vl ts k).length = own_stC li vl k
  | 0 => by rw [own_stT, List.length_replicate]; rfl
  | k + 1 => by
    have h := own_stT_len li vl ts k
    rw [own_stT, List.length_set, own_growT, own_stC, h]
    split
    · rw [List.length_append, List.length_replicate, h]; omega
    · exact h
theorem own_stC_b {li vl : Nat} (h1 : li ≤ 3) (h2 : vl ≤ 3) : ∀ k, k ≤ 3 → k ≤ own_stC li vl k ∧ 1 ≤ own_stC li vl k ∧ own_stC li vl k ≤ 7
  | 0, _ => by rw [own_stC]; omega
  | k + 1, h => by
    have q := own_stC_b h1 h2 k (by omega)
    rw [own_stC]
    split <;> omega
theorem own_stT_get (li vl : Nat) (ts : List Int32) (k : Nat) (h : k ≤ own_stC li vl k) (h1 : 1 ≤ own_stC li vl k) : (own_stT li vl ts (k + 1)).getD k 0 = ts.getD k 0 := by
  have hl := own_stT_len li vl ts k
  have q : k < (own_growT k (own_stT li vl ts k)).length := by
    rw [own_growT]
    split
    · rw [List.length_append, List.length_replicate]; omega
    · omega
  rw [own_stT, List.getD, List.getElem?_set, if_pos rfl, if_pos q]; rfl
theorem own_ifill_le {li vl : Nat} {b : List Nat} (h1 : li ≤ 3) (h : ∀ k, b.getD k 0 ≤ 4) : ∀ m, m ≤ 2 * li + 1 → ∀ k, (own_ifill li vl m b).getD k 0 ≤ 4
  | 0, _ => h
  | m + 1, hm => by
    rw [own_ifill]
    refine own_set_le4 (own_ifill_le h1 h m (by omega)) ?_
    unfold own_initV
    split <;> omega
theorem own_rep0 (n k : Nat) : (List.replicate n 0).getD k 0 = 0 := by
  rw [List.getD, List.getElem?_replicate]; split <;> rfl
theorem own_stB_b {li vl : Nat} {E : List (List Bool)} (h1 : li ≤ 3) (h2 : vl ≤ 3) : ∀ k, k ≤ 3 → (own_stB li vl E k).length = (own_stC li vl k + 1) * (2 * li + 1) ∧ ∀ j, (own_stB li vl E k).getD j 0 ≤ 4
  | 0, _ => by
    refine ⟨by rw [own_stB, own_ifill_len, List.length_replicate]; rfl, ?_⟩
    rw [own_stB]
    exact own_ifill_le h1 (fun k => by rw [own_rep0]; omega) _ (Nat.le_refl _)
  | k + 1, h => by
    obtain ⟨q1, q2⟩ := own_stB_b (E := E) h1 h2 k (by omega)
    have hl := own_stT_len li vl [] k
    refine ⟨?_, ?_⟩
    · rw [own_stB, own_fill_len, ← hl, own_growB_len (by rw [q1, hl])]
      have := own_stT_len li vl [] (k + 1)
      rw [own_stT, List.length_set] at this
      rw [this]
    · rw [own_stB]
      exact own_fill_le h1 (by omega) (own_growB_le q2) _
theorem own_fill_get (li i vl : Nat) (e1 e0 : List Bool) (b : List Nat) {j : Nat} (hj : j < i * (2 * li + 1)) : ∀ k, (own_fillN li i vl e1 e0 k b).getD j 0 = b.getD j 0
  | 0 => rfl
  | k + 1 => by
    rw [own_fillN, List.getD, List.getElem?_set, if_neg (by omega)]
    exact own_fill_get li i vl e1 e0 b hj k
theorem own_grow_get (li k c : Nat) (b : List Nat) (j : Nat) : (own_growB li k c b).getD j 0 = b.getD j 0 := by
  unfold own_growB
  split
  · rw [List.getD, List.getElem?_append]
    split
    · rfl
    · rw [← List.getD, own_rep0, List.getD, List.getElem?_eq_none (by omega)]; rfl
  · rfl
theorem own_stB_get (li vl : Nat) (E : List (List Bool)) (kept d : Nat) {j : Nat} (hj : j < (kept + 1) * (2 * li + 1)) : (own_stB li vl E (kept + d)).getD j 0 = (own_stB li vl E kept).getD j 0 := by
  induction d with
  | zero => rfl
  | succ d ih =>
    rw [show kept + (d + 1) = (kept + d) + 1 from rfl, own_stB, own_fill_get _ _ _ _ _ _ (Nat.lt_of_lt_of_le hj (Nat.mul_le_mul_right _ (by omega))), own_grow_get]
    exact ih
theorem own_bey_row {li vl n kept : Nat} {E : List (List Bool)} (h : kept ≤ n) : own_beyN li (own_stB li vl E n) kept = own_beyN li (own_stB li vl E kept) kept := by
  obtain ⟨d, rfl⟩ := Nat.le.dest h
  unfold own_beyN
  apply Bool.eq_iff_iff.mpr
  simp only [List.all_eq_true, List.mem_range]
  constructor
  · intro q k hk
    have := q k hk
    rwa [own_stB_get li vl E kept d (by have : (kept + 1) * (2 * li + 1) = kept * (2 * li + 1) + (2 * li + 1) := Nat.succ_mul _ _; omega)] at this
  · intro q k hk
    rw [own_stB_get li vl E kept d (by have : (kept + 1) * (2 * li + 1) = kept * (2 * li + 1) + (2 * li + 1) := Nat.succ_mul _ _; omega)]
    exact q k hk
def own_dcB (x1 x2 x3 x4 : Nat) (p q : Bool) : Nat := min (min (min (x1 + cond p 0 1) (x2 + 1)) (x3 + 1)) (cond q (x4 + 1) 100)
theorem own_dc_eq {x1 x2 x3 x4 : Nat} {p q : Prop} [Decidable p] [Decidable q] (h1 : x1 ≤ 50) : own_dc x1 x2 x3 x4 p q = own_dcB x1 x2 x3 x4 (decide p) (decide q) := by
  unfold own_dc own_dcB
  by_cases hp : p <;> by_cases hq : q <;> simp only [hp, hq, if_true, if_false, decide_true, decide_false, cond_true, cond_false] <;> omega
def own_dr (d : List Nat) (E : List (List Bool)) (i j : Nat) : List Nat :=
  d.set (i * 4 + j) (own_dcB (d.getD ((i - 1) * 4 + (j - 1)) 0) (d.getD ((i - 1) * 4 + j) 0) (d.getD (i * 4 + (j - 1)) 0) (d.getD ((i - 2) * 4 + (j - 2)) 0) ((E.getD (i - 1) []).getD (j - 1) false) (decide (1 < i) && decide (1 < j) && (E.getD (i - 1) []).getD (j - 2) false && (E.getD (i - 2) []).getD (j - 1) false))
def own_dd (E : List (List Bool)) : List Nat :=
  own_dr (own_dr (own_dr (own_dr (own_dr (own_dr (own_dr (own_dr (own_dr [0, 1, 2, 3, 1, 0, 0, 0, 2, 0, 0, 0, 3, 0, 0, 0] E 1 1) E 1 2) E 1 3) E 2 1) E 2 2) E 2 3) E 3 1) E 3 2) E 3 3
def own_m (d : List Nat) (kept vl : Nat) : Nat :=
  if vl < 1 then d.getD (kept * 4) 0 else if vl < 2 then min (d.getD (kept * 4) 0) (d.getD (kept * 4 + 1) 0) else
    if vl < 3 then min (min (d.getD (kept * 4) 0) (d.getD (kept * 4 + 1) 0)) (d.getD (kept * 4 + 2) 0) else min (min (min (d.getD (kept * 4) 0) (d.getD (kept * 4 + 1) 0)) (d.getD (kept * 4 + 2) 0)) (d.getD (kept * 4 + 3) 0)
def own_ok (li vl kept : Nat) (E : List (List Bool)) : Bool := own_beyN li (own_stB li vl E kept) kept == decide (li < own_m (own_dd E) kept vl)
theorem own_ok0 : ∀ li, li < 4 → ∀ vl, vl < 4 → own_ok li vl 0 [] = true := by decide +kernel
theorem own_ok1 : ∀ a b c : Bool, ∀ li, li < 4 → ∀ vl, vl < 4 → own_ok li vl 1 [[a, b, c]] = true := by decide +kernel
theorem own_ok2 : ∀ a b c d e f : Bool, ∀ li, li < 4 → ∀ vl, vl < 4 → own_ok li vl 2 [[a, b, c], [d, e, f]] = true := by decide +kernel
theorem own_val_congr {li i vl : Nat} {e1 e0 e1' e0' : List Bool} {b : List Nat} {k : Nat} (h1 : ∀ j, j < vl → e1.getD j false = e1'.getD j false) (h0 : ∀ j, j < vl → e0.getD j false = e0'.getD j false) : own_valN li i vl e1 e0 b k = own_valN li i vl e1' e0' b k := by
  unfold own_valN
  split
  · rfl
  · split
    · rfl
    · split
      · have q1 := h1 (i + k - li - 1) (by omega)
        have q2 := h1 (i + k - li - 2) (by omega)
        have q3 := h0 (i + k - li - 1) (by omega)
        unfold own_cellN own_cD own_cA
        rw [q1, q2, q3]
      · rfl
theorem own_fill_congr {li i vl : Nat} {e1 e0 e1' e0' : List Bool} {b : List Nat} (h1 : ∀ j, j < vl → e1.getD j false = e1'.getD j false) (h0 : ∀ j, j < vl → e0.getD j false = e0'.getD j false) : ∀ k, own_fillN li i vl e1 e0 k b = own_fillN li i vl e1' e0' k b
  | 0 => rfl
  | k + 1 => by rw [own_fillN, own_fillN, own_fill_congr h1 h0 k, own_val_congr h1 h0]
theorem own_stB_congr {li vl : Nat} {E E' : List (List Bool)} (h : ∀ r j, j < vl → (E.getD r []).getD j false = (E'.getD r []).getD j false) : ∀ k, own_stB li vl E k = own_stB li vl E' k
  | 0 => rfl
  | k + 1 => by rw [own_stB, own_stB, own_stB_congr h k, own_fill_congr (h k) (h (k - 1))]
theorem own_gs (l : List Nat) (p x q : Nat) : (l.set p x).getD q 0 = if p = q then (if p < l.length then x else 0) else l.getD q 0 := by
  rw [List.getD, List.getElem?_set]
  split
  · split <;> rfl
  · rfl
def own_R (vl : Nat) (d d' : List Nat) : Prop := d.length = 16 ∧ d'.length = 16 ∧ ∀ i j, i ≤ 3 → j ≤ vl → j ≤ 3 → d.getD (i * 4 + j) 0 = d'.getD (i * 4 + j) 0
theorem own_R_dr {vl i j : Nat} {d d' : List Nat} {E E' : List (List Bool)} (h : ∀ r j, j < vl → (E.getD r []).getD j false = (E'.getD r []).getD j false) (hi : 1 ≤ i ∧ i ≤ 3) (hj : 1 ≤ j ∧ j ≤ 3) (R : own_R vl d d') : own_R vl (own_dr d E i j) (own_dr d' E' i j) := by
  obtain ⟨l1, l2, R⟩ := R
  refine ⟨by rw [own_dr, List.length_set]; exact l1, by rw [own_dr, List.length_set]; exact l2, fun i' j' a1 a2 a3 => ?_⟩
  have Q := R i' j' a1 a2 a3
  unfold own_dr
  rw [own_gs, own_gs]
  by_cases q : i * 4 + j = i' * 4 + j'
  · rw [if_pos q, if_pos q, if_pos (by omega), if_pos (by omega)]
    rw [R (i - 1) (j - 1) (by omega) (by omega) (by omega), R (i - 1) j (by omega) (by omega) (by omega), R i (j - 1) (by omega) (by omega) (by omega), R (i - 2) (j - 2) (by omega) (by omega) (by omega), h (i - 1) (j - 1) (by omega), h (i - 1) (j - 2) (by omega), h (i - 2) (j - 1) (by omega)]
  · rw [if_neg q, if_neg q]
    exact Q
theorem own_R_m {vl kept : Nat} {d d' : List Nat} (R : own_R vl d d') (hk : kept ≤ 3) : own_m d kept vl = own_m d' kept vl := by
  have q0 := R.2.2 kept 0 hk (by omega) (by omega)
  rw [Nat.add_zero] at q0
  unfold own_m
  rw [q0]
  split
  · rfl
  · rw [R.2.2 kept 1 hk (by omega) (by omega)]
    split
    · rfl
    · rw [R.2.2 kept 2 hk (by omega) (by omega)]
      split
      · rfl
      · rw [R.2.2 kept 3 hk (by omega) (by omega)]
theorem own_ok_congr {li vl : Nat} {E E' : List (List Bool)} (h : ∀ r j, j < vl → (E.getD r []).getD j false = (E'.getD r []).getD j false) : own_ok li vl 3 E = own_ok li vl 3 E' := by
  have R : own_R vl (own_dd E) (own_dd E') := by
    unfold own_dd
    refine own_R_dr h (by decide) (by decide) (own_R_dr h (by decide) (by decide) (own_R_dr h (by decide) (by decide) (own_R_dr h (by decide) (by decide) (own_R_dr h (by decide) (by decide) (own_R_dr h (by decide) (by decide) (own_R_dr h (by decide) (by decide) (own_R_dr h (by decide) (by decide) (own_R_dr h (by decide) (by decide) ⟨rfl, rfl, fun _ _ _ _ _ => rfl⟩))))))))
  rw [own_ok, own_ok, own_stB_congr h, own_R_m R (by decide)]
theorem own_ok33 : ∀ a b c d e f g h i : Bool, ∀ li, li < 4 → own_ok li 3 3 [[a, b, c], [d, e, f], [g, h, i]] = true := by decide +kernel
theorem own_ok32 : ∀ a b d e g h : Bool, ∀ li, li < 4 → own_ok li 2 3 [[a, b], [d, e], [g, h]] = true := by decide +kernel
theorem own_ok31 : ∀ a d g : Bool, ∀ li, li < 4 → own_ok li 1 3 [[a], [d], [g]] = true := by decide +kernel
theorem own_ok30 : ∀ li, li < 4 → own_ok li 0 3 [] = true := by decide +kernel
theorem own_r3 {x y z : List Bool} {x' y' z' : List Bool} {vl : Nat} (h1 : ∀ j, j < vl → x.getD j false = x'.getD j false) (h2 : ∀ j, j < vl → y.getD j false = y'.getD j false) (h3 : ∀ j, j < vl → z.getD j false = z'.getD j false) : ∀ r j, j < vl → ([x, y, z].getD r []).getD j false = ([x', y', z'].getD r []).getD j false
  | 0, j, hj => h1 j hj
  | 1, j, hj => h2 j hj
  | 2, j, hj => h3 j hj
  | _ + 3, _, _ => rfl
theorem own_j2 {a b c : Bool} : ∀ j, j < 2 → [a, b, c].getD j false = [a, b].getD j false
  | 0, _ => rfl
  | 1, _ => rfl
  | j + 2, h => absurd h (by omega)
theorem own_j1 {a b c : Bool} : ∀ j, j < 1 → [a, b, c].getD j false = [a].getD j false
  | 0, _ => rfl
  | j + 1, h => absurd h (by omega)
theorem own_ok3 (a b c d e f g h i : Bool) (li : Nat) (hl : li < 4) (vl : Nat) (hv : vl < 4) : own_ok li vl 3 [[a, b, c], [d, e, f], [g, h, i]] = true := by
  have q : vl = 0 ∨ vl = 1 ∨ vl = 2 ∨ vl = 3 := by omega
  rcases q with rfl | rfl | rfl | rfl
  · rw [own_ok_congr (E' := []) (fun _ j hj => absurd hj (Nat.not_lt_zero j))]; exact own_ok30 li hl
  · rw [own_ok_congr (own_r3 own_j1 own_j1 own_j1)]; exact own_ok31 a d g li hl
  · rw [own_ok_congr (own_r3 own_j2 own_j2 own_j2)]; exact own_ok32 a b d e g h li hl
  · exact own_ok33 a b c d e f g h i li hl
theorem own_mset (d : List Nat) (kept vl p x : Nat) (h : kept * 4 + 3 < p) : own_m (d.set p x) kept vl = own_m d kept vl := by
  have q : ∀ j, j ≤ 3 → (d.set p x).getD (kept * 4 + j) 0 = d.getD (kept * 4 + j) 0 := fun j hj => by
    rw [List.getD, List.getElem?_set, if_neg (by omega)]; rfl
  have q0 := q 0 (by omega)
  rw [Nat.add_zero] at q0
  unfold own_m
  rw [q0, q 1 (by omega), q 2 (by omega), q 3 (by omega)]
theorem own_drC {d : List Nat} {E E' : List (List Bool)} {i j : Nat} (h1 : E.getD (i - 1) [] = E'.getD (i - 1) []) (h2 : E.getD (i - 2) [] = E'.getD (i - 2) []) : own_dr d E i j = own_dr d E' i j := by
  unfold own_dr; rw [h1, h2]
def own_d0 (_E : List (List Bool)) : List Nat := [0, 1, 2, 3, 1, 0, 0, 0, 2, 0, 0, 0, 3, 0, 0, 0]
theorem own_dd0 (E : List (List Bool)) (vl : Nat) : own_m (own_dd E) 0 vl = own_m (own_d0 E) 0 vl := by
  rw [own_dd, own_dr, own_mset _ _ _ _ _ (by decide), own_dr, own_mset _ _ _ _ _ (by decide), own_dr, own_mset _ _ _ _ _ (by decide), own_dr, own_mset _ _ _ _ _ (by decide), own_dr, own_mset _ _ _ _ _ (by decide), own_dr, own_mset _ _ _ _ _ (by decide), own_dr, own_mset _ _ _ _ _ (by decide), own_dr, own_mset _ _ _ _ _ (by decide), own_dr, own_mset _ _ _ _ _ (by decide)]
  rfl
theorem own_m0 (r0 r1 r2 : List Bool) (vl : Nat) : own_m (own_dd [r0, r1, r2]) 0 vl = own_m (own_dd []) 0 vl := by
  rw [own_dd0, own_dd0]
  rfl
def own_d1 (E : List (List Bool)) : List Nat := (own_dr (own_dr (own_dr [0, 1, 2, 3, 1, 0, 0, 0, 2, 0, 0, 0, 3, 0, 0, 0] E 1 1) E 1 2) E 1 3)
theorem own_dd1 (E : List (List Bool)) (vl : Nat) : own_m (own_dd E) 1 vl = own_m (own_d1 E) 1 vl := by
  rw [own_dd, own_dr, own_mset _ _ _ _ _ (by decide), own_dr, own_mset _ _ _ _ _ (by decide), own_dr, own_mset _ _ _ _ _ (by decide), own_dr, own_mset _ _ _ _ _ (by decide), own_dr, own_mset _ _ _ _ _ (by decide), own_dr, own_mset _ _ _ _ _ (by decide)]
  rfl
theorem own_m1 (r0 r1 r2 : List Bool) (vl : Nat) : own_m (own_dd [r0, r1, r2]) 1 vl = own_m (own_dd [r0]) 1 vl := by
  rw [own_dd1, own_dd1]
  unfold own_d1
  rw [own_drC (E := [r0, r1, r2]) (E' := [r0]) (i := 1) (j := 1) rfl rfl, own_drC (E := [r0, r1, r2]) (E' := [r0]) (i := 1) (j := 2) rfl rfl, own_drC (E := [r0, r1, r2]) (E' := [r0]) (i := 1) (j := 3) rfl rfl]
def own_d2 (E : List (List Bool)) : List Nat := (own_dr (own_dr (own_dr (own_dr (own_dr (own_dr [0, 1, 2, 3, 1, 0, 0, 0, 2, 0, 0, 0, 3, 0, 0, 0] E 1 1) E 1 2) E 1 3) E 2 1) E 2 2) E 2 3)
theorem own_dd2 (E : List (List Bool)) (vl : Nat) : own_m (own_dd E) 2 vl = own_m (own_d2 E) 2 vl := by
  rw [own_dd, own_dr, own_mset _ _ _ _ _ (by decide), own_dr, own_mset _ _ _ _ _ (by decide), own_dr, own_mset _ _ _ _ _ (by decide)]
  rfl
theorem own_m2 (r0 r1 r2 : List Bool) (vl : Nat) : own_m (own_dd [r0, r1, r2]) 2 vl = own_m (own_dd [r0, r1]) 2 vl := by
  rw [own_dd2, own_dd2]
  unfold own_d2
  rw [own_drC (E := [r0, r1, r2]) (E' := [r0, r1]) (i := 1) (j := 1) rfl rfl, own_drC (E := [r0, r1, r2]) (E' := [r0, r1]) (i := 1) (j := 2) rfl rfl, own_drC (E := [r0, r1, r2]) (E' := [r0, r1]) (i := 1) (j := 3) rfl rfl, own_drC (E := [r0, r1, r2]) (E' := [r0, r1]) (i := 2) (j := 1) rfl rfl, own_drC (E := [r0, r1, r2]) (E' := [r0, r1]) (i := 2) (j := 2) rfl rfl, own_drC (E := [r0, r1, r2]) (E' := [r0, r1]) (i := 2) (j := 3) rfl rfl]
def own_row (t v0 v1 v2 : Int32) : List Bool := [decide (t = v0), decide (t = v1), decide (t = v2)]
def own_E (t0 t1 t2 v0 v1 v2 : Int32) : List (List Bool) := [own_row t0 v0 v1 v2, own_row t1 v0 v1 v2, own_row t2 v0 v1 v2]
theorem own_plain {li vl n kept : Nat} (h1 : li ≤ 3) (h2 : vl ≤ 3) (hn : n ≤ 3) (hk : kept ≤ n) (t0 t1 t2 v0 v1 v2 : Int32) : own_beyN li (own_stB li vl (own_E t0 t1 t2 v0 v1 v2) n) kept = decide (li < own_m (own_dd (own_E t0 t1 t2 v0 v1 v2)) kept vl) := by
  rw [own_bey_row hk, own_E]
  have q : kept = 0 ∨ kept = 1 ∨ kept = 2 ∨ kept = 3 := by omega
  rcases q with rfl | rfl | rfl | rfl
  · have := own_ok0 li (by omega) vl (by omega)
    rw [own_ok, beq_iff_eq] at this
    rw [own_m0]
    exact this
  · have := own_ok1 (decide (t0 = v0)) (decide (t0 = v1)) (decide (t0 = v2)) li (by omega) vl (by omega)
    rw [own_ok, beq_iff_eq] at this
    rw [own_m1]
    exact this
  · have := own_ok2 (decide (t0 = v0)) (decide (t0 = v1)) (decide (t0 = v2)) (decide (t1 = v0)) (decide (t1 = v1)) (decide (t1 = v2)) li (by omega) vl (by omega)
    rw [own_ok, beq_iff_eq] at this
    rw [own_m2]
    exact this
  · have := own_ok3 (decide (t0 = v0)) (decide (t0 = v1)) (decide (t0 = v2)) (decide (t1 = v0)) (decide (t1 = v1)) (decide (t1 = v2)) (decide (t2 = v0)) (decide (t2 = v1)) (decide (t2 = v2)) li (by omega) vl (by omega)
    rw [own_ok, beq_iff_eq] at this
    exact this
theorem own_dcB_le {x1 x2 x3 x4 B : Nat} {p q : Bool} (h : x2 ≤ B) : own_dcB x1 x2 x3 x4 p q ≤ B + 1 := by unfold own_dcB; omega
theorem own_dr_le {d : List Nat} {E : List (List Bool)} {i j B : Nat} (h : ∀ k, d.getD k 0 ≤ B) : ∀ k, (own_dr d E i j).getD k 0 ≤ B + 1 := by
  rw [own_dr]
  exact own_set_le h (own_dcB_le (h _))
theorem own_dr_len {d : List Nat} {E : List (List Bool)} {i j : Nat} : (own_dr d E i j).length = d.length := by rw [own_dr, List.length_set]
theorem own_dr11 {d : List Nat} (h : ∀ k, d.getD k 0 ≤ 50) (t0 t1 t2 v0 v1 v2 : Int32) : d.set 5 (own_dc (d.getD 0 0) (d.getD 1 0) (d.getD 4 0) 0 (t0 = v0) (False)) = own_dr d (own_E t0 t1 t2 v0 v1 v2) 1 1 := by
  rw [own_dc_eq (h _)]; rfl
theorem own_dr12 {d : List Nat} (h : ∀ k, d.getD k 0 ≤ 50) (t0 t1 t2 v0 v1 v2 : Int32) : d.set 6 (own_dc (d.getD 1 0) (d.getD 2 0) (d.getD 5 0) 0 (t0 = v1) (False)) = own_dr d (own_E t0 t1 t2 v0 v1 v2) 1 2 := by
  rw [own_dc_eq (h _)]; rfl
theorem own_dr13 {d : List Nat} (h : ∀ k, d.getD k 0 ≤ 50) (t0 t1 t2 v0 v1 v2 : Int32) : d.set 7 (own_dc (d.getD 2 0) (d.getD 3 0) (d.getD 6 0) 0 (t0 = v2) (False)) = own_dr d (own_E t0 t1 t2 v0 v1 v2) 1 3 := by
  rw [own_dc_eq (h _)]; rfl
theorem own_dr21 {d : List Nat} (h : ∀ k, d.getD k 0 ≤ 50) (t0 t1 t2 v0 v1 v2 : Int32) : d.set 9 (own_dc (d.getD 4 0) (d.getD 5 0) (d.getD 8 0) 0 (t1 = v0) (False)) = own_dr d (own_E t0 t1 t2 v0 v1 v2) 2 1 := by
  rw [own_dc_eq (h _)]; rfl
theorem own_dr22 {d : List Nat} (h : ∀ k, d.getD k 0 ≤ 50) (t0 t1 t2 v0 v1 v2 : Int32) : d.set 10 (own_dc (d.getD 5 0) (d.getD 6 0) (d.getD 9 0) (d.getD 0 0) (t1 = v1) (t1 = v0 ∧ t0 = v1)) = own_dr d (own_E t0 t1 t2 v0 v1 v2) 2 2 := by
  rw [own_dc_eq (h _), Bool.decide_and]; rfl
theorem own_dr23 {d : List Nat} (h : ∀ k, d.getD k 0 ≤ 50) (t0 t1 t2 v0 v1 v2 : Int32) : d.set 11 (own_dc (d.getD 6 0) (d.getD 7 0) (d.getD 10 0) (d.getD 1 0) (t1 = v2) (t1 = v1 ∧ t0 = v2)) = own_dr d (own_E t0 t1 t2 v0 v1 v2) 2 3 := by
  rw [own_dc_eq (h _), Bool.decide_and]; rfl
theorem own_dr31 {d : List Nat} (h : ∀ k, d.getD k 0 ≤ 50) (t0 t1 t2 v0 v1 v2 : Int32) : d.set 13 (own_dc (d.getD 8 0) (d.getD 9 0) (d.getD 12 0) 0 (t2 = v0) (False)) = own_dr d (own_E t0 t1 t2 v0 v1 v2) 3 1 := by
  rw [own_dc_eq (h _)]; rfl
theorem own_dr32 {d : List Nat} (h : ∀ k, d.getD k 0 ≤ 50) (t0 t1 t2 v0 v1 v2 : Int32) : d.set 14 (own_dc (d.getD 9 0) (d.getD 10 0) (d.getD 13 0) (d.getD 4 0) (t2 = v1) (t2 = v0 ∧ t1 = v1)) = own_dr d (own_E t0 t1 t2 v0 v1 v2) 3 2 := by
  rw [own_dc_eq (h _), Bool.decide_and]; rfl
theorem own_dr33 {d : List Nat} (h : ∀ k, d.getD k 0 ≤ 50) (t0 t1 t2 v0 v1 v2 : Int32) : d.set 15 (own_dc (d.getD 10 0) (d.getD 11 0) (d.getD 14 0) (d.getD 5 0) (t2 = v2) (t2 = v1 ∧ t1 = v2)) = own_dr d (own_E t0 t1 t2 v0 v1 v2) 3 3 := by
  rw [own_dc_eq (h _), Bool.decide_and]; rfl
theorem own_and3N (u : Int32) : ∃ z : Nat, z ≤ 3 ∧ (u &&& (3 : Int32)) = Int32.ofNat z := by
  have h1 := c_mask u 3 2 (by decide) (by decide +kernel)
  rw [show ((2 ^ 2 : Nat) : Int) = 4 from rfl] at h1
  generalize u.toInt = y at h1
  exact ⟨(y % 4).toNat, by omega, own_eqN (by omega) (by rw [h1]; omega)⟩
theorem own_remK {ku n : Nat} (h1 : ku ≤ 3) (h2 : n ≤ 3) : ∃ z : Nat, z ≤ n ∧ (Int32.ofNat ku % Int32.ofNat (n + 1)) = Int32.ofNat z := by
  have q1 : ku = 0 ∨ ku = 1 ∨ ku = 2 ∨ ku = 3 := by omega
  have q2 : n = 0 ∨ n = 1 ∨ n = 2 ∨ n = 3 := by omega
  refine ⟨ku % (n + 1), by have := Nat.mod_lt ku (show n + 1 > 0 by omega); omega, ?_⟩
  rcases q1 with rfl | rfl | rfl | rfl <;> rcases q2 with rfl | rfl | rfl | rfl <;> decide
theorem own_nzN {n : Nat} (h : n ≤ 3) : Int32.ofNat (n + 1) ≠ (0 : Int32) := by
  have q2 : n = 0 ∨ n = 1 ∨ n = 2 ∨ n = 3 := by omega
  rcases q2 with rfl | rfl | rfl | rfl <;> decide
theorem own_rowE {t v0 v1 v2 : Int32} {chs : List Int32} (h3 : chs.length ≤ 3) (hc : ∀ j, j < chs.length → chs.getD j 0 = [v0, v1, v2].getD j 0) : ∀ j, j < chs.length → ((own_row t v0 v1 v2).getD j false = true ↔ t = chs.getD j 0) := fun j hj => by
  rw [hc j hj]
  have q : j = 0 ∨ j = 1 ∨ j = 2 := by omega
  rcases q with rfl | rfl | rfl <;> exact decide_eq_true_iff
theorem own_memz {x a b c m nz : Nat} (h : x ∈ [a, b, c] ∨ m ≤ x) (ha : nz ≤ a) (hb : nz ≤ b) (hc : nz ≤ c) (hm : nz ≤ m) : nz ≤ x := by
  rcases h with h | h
  · simp only [List.mem_cons, List.not_mem_nil, or_false] at h
    rcases h with rfl | rfl | rfl <;> assumption
  · omega
theorem own_d0le : ∀ k, ([0, 1, 2, 3, 1, 0, 0, 0, 2, 0, 0, 0, 3, 0, 0, 0] : List Nat).getD k 0 ≤ 3 := fun k => by
  by_cases h : k < 16
  · have q : ∀ k, k < 16 → ([0, 1, 2, 3, 1, 0, 0, 0, 2, 0, 0, 0, 3, 0, 0, 0] : List Nat).getD k 0 ≤ 3 := by decide
    exact q k h
  · rw [List.getD, List.getElem?_eq_none (show ([0, 1, 2, 3, 1, 0, 0, 0, 2, 0, 0, 0, 3, 0, 0, 0] : List Nat).length ≤ k from Nat.le_of_not_lt h)]
    exact Nat.zero_le _
theorem own_hc0 {v0 v1 v2 : Int32} : ∀ j, j < 0 → ([] : List Int32).getD j 0 = [v0, v1, v2].getD j 0 := fun j hj => absurd hj (Nat.not_lt_zero j)
theorem own_hc1 {v0 v1 v2 : Int32} : ∀ j, j < 1 → [v0].getD j 0 = [v0, v1, v2].getD j 0
  | 0, _ => rfl
  | j + 1, h => absurd h (by omega)
theorem own_hc2 {v0 v1 v2 : Int32} : ∀ j, j < 2 → [v0, v1].getD j 0 = [v0, v1, v2].getD j 0
  | 0, _ => rfl
  | 1, _ => rfl
  | j + 2, h => absurd h (by omega)
theorem own_hc3 {v0 v1 v2 : Int32} : ∀ j, j < 3 → [v0, v1, v2].getD j 0 = [v0, v1, v2].getD j 0 := fun _ _ => rfl
theorem pd_16 : parseMethodDescriptor "(ICCC)Ljava/lang/String;" = some ⟨[.int, .char, .char, .char], some (.object "java/lang/String")⟩ := by decide +kernel
theorem pd_15 : parseMethodDescriptor "(C)V" = some ⟨[.char], none⟩ := by decide +kernel
theorem pd_14 : parseMethodDescriptor "([I[C[CII)V" = some ⟨[(.array .int), (.array .char), (.array .char), .int, .int], none⟩ := by decide +kernel
theorem pd_13 : parseMethodDescriptor "()Z" = some ⟨[], some .boolean⟩ := by decide +kernel
theorem pd_12 : parseMethodDescriptor "(I)V" = some ⟨[.int], none⟩ := by decide +kernel
theorem pd_11 : parseMethodDescriptor "(Ljava/lang/String;I)V" = some ⟨[(.object "java/lang/String"), .int], none⟩ := by decide +kernel
theorem dm3_14 : decode method_3_code 14 = .ok (.areturn, 1) := by decide +kernel
theorem dm3_11 : decode method_3_code 11 = .ok (.invokespecial 42, 3) := by decide +kernel
theorem dm3_9 : decode method_3_code 9 = .ok (.newarray .char, 2) := by decide +kernel
theorem dm3_8 : decode method_3_code 8 = .ok (.iconst 0, 1) := by decide +kernel
theorem dm3_7 : decode method_3_code 7 = .ok (.dup, 1) := by decide +kernel
theorem dm3_4 : decode method_3_code 4 = .ok (.new 40, 3) := by decide +kernel
theorem djdk_42_m3_9 : decode jdk_42_method_3_code 9 = .ok (.return_, 1) := by decide +kernel
theorem djdk_42_m3_6 : decode jdk_42_method_3_code 6 = .ok (.invokespecial 27, 3) := by decide +kernel
theorem djdk_42_m3_5 : decode jdk_42_method_3_code 5 = .ok (.aconst_null, 1) := by decide +kernel
theorem djdk_42_m3_4 : decode jdk_42_method_3_code 4 = .ok (.arraylength, 1) := by decide +kernel
theorem djdk_42_m3_3 : decode jdk_42_method_3_code 3 = .ok (.aload_n 1, 1) := by decide +kernel
theorem djdk_42_m3_2 : decode jdk_42_method_3_code 2 = .ok (.iconst 0, 1) := by decide +kernel
theorem djdk_42_m3_1 : decode jdk_42_method_3_code 1 = .ok (.aload_n 1, 1) := by decide +kernel
theorem djdk_42_m3_0 : decode jdk_42_method_3_code 0 = .ok (.aload_n 0, 1) := by decide +kernel
theorem pd_10 : parseMethodDescriptor "([CIILjava/lang/Void;)V" = some ⟨[(.array .char), .int, .int, (.object "java/lang/Void")], none⟩ := by decide +kernel
theorem djdk_42_m149_26 : decode jdk_42_method_149_code 26 = .ok (.return_, 1) := by decide +kernel
theorem djdk_42_m149_23 : decode jdk_42_method_149_code 23 = .ok (.putfield 15, 3) := by decide +kernel
theorem djdk_42_m149_20 : decode jdk_42_method_149_code 20 = .ok (.getfield 15, 3) := by decide +kernel
theorem djdk_42_m149_18 : decode jdk_42_method_149_code 18 = .ok (.ldc 7, 2) := by decide +kernel
theorem djdk_42_m149_17 : decode jdk_42_method_149_code 17 = .ok (.aload_n 0, 1) := by decide +kernel
theorem djdk_42_m149_14 : decode jdk_42_method_149_code 14 = .ok (.putfield 9, 3) := by decide +kernel
theorem djdk_42_m149_11 : decode jdk_42_method_149_code 11 = .ok (.getfield 9, 3) := by decide +kernel
theorem djdk_42_m149_9 : decode jdk_42_method_149_code 9 = .ok (.ldc 7, 2) := by decide +kernel
theorem djdk_42_m149_8 : decode jdk_42_method_149_code 8 = .ok (.aload_n 0, 1) := by decide +kernel
theorem djdk_42_m149_5 : decode jdk_42_method_149_code 5 = .ok (.ifCond .ne 22, 3) := by decide +kernel
theorem djdk_42_m149_4 : decode jdk_42_method_149_code 4 = .ok (.iload_n 3, 1) := by decide +kernel
theorem djdk_42_m149_1 : decode jdk_42_method_149_code 1 = .ok (.invokespecial 1, 3) := by decide +kernel
theorem djdk_42_m149_0 : decode jdk_42_method_149_code 0 = .ok (.aload_n 0, 1) := by decide +kernel
theorem dm3_24 : decode method_3_code 24 = .ok (.areturn, 1) := by decide +kernel
theorem dm3_21 : decode method_3_code 21 = .ok (.invokestatic 45, 3) := by decide +kernel
theorem dm3_20 : decode method_3_code 20 = .ok (.iload_n 1, 1) := by decide +kernel
theorem pd_9 : parseMethodDescriptor "(C)Ljava/lang/String;" = some ⟨[.char], some (.object "java/lang/String")⟩ := by decide +kernel
theorem djdk_42_m139_25 : decode jdk_42_method_139_code 25 = .ok (.areturn, 1) := by decide +kernel
theorem djdk_42_m139_22 : decode jdk_42_method_139_code 22 = .ok (.invokespecial 209, 3) := by decide +kernel
theorem djdk_42_m139_21 : decode jdk_42_method_139_code 21 = .ok (.iconst 0, 1) := by decide +kernel
theorem djdk_42_m139_18 : decode jdk_42_method_139_code 18 = .ok (.invokestatic 1018, 3) := by decide +kernel
theorem djdk_42_m139_17 : decode jdk_42_method_139_code 17 = .ok (.iload_n 0, 1) := by decide +kernel
theorem djdk_42_m139_16 : decode jdk_42_method_139_code 16 = .ok (.dup, 1) := by decide +kernel
theorem djdk_42_m139_13 : decode jdk_42_method_139_code 13 = .ok (.new 10, 3) := by decide +kernel
theorem djdk_42_m139_10 : decode jdk_42_method_139_code 10 = .ok (.ifCond .eq 16, 3) := by decide +kernel
theorem djdk_42_m139_7 : decode jdk_42_method_139_code 7 = .ok (.invokestatic 1015, 3) := by decide +kernel
theorem djdk_42_m139_6 : decode jdk_42_method_139_code 6 = .ok (.iload_n 0, 1) := by decide +kernel
theorem djdk_42_m139_3 : decode jdk_42_method_139_code 3 = .ok (.ifCond .eq 23, 3) := by decide +kernel
theorem djdk_42_m139_0 : decode jdk_42_method_139_code 0 = .ok (.getstatic 38, 3) := by decide +kernel
theorem pd_8 : parseMethodDescriptor "([BB)V" = some ⟨[(.array .byte), .byte], none⟩ := by decide +kernel
theorem pd_7 : parseMethodDescriptor "(C)[B" = some ⟨[.char], some (.array .byte)⟩ := by decide +kernel
theorem pd_6 : parseMethodDescriptor "(C)Z" = some ⟨[.char], some .boolean⟩ := by decide +kernel
theorem djdk_42_m151_14 : decode jdk_42_method_151_code 14 = .ok (.return_, 1) := by decide +kernel
theorem djdk_42_m151_11 : decode jdk_42_method_151_code 11 = .ok (.putfield 15, 3) := by decide +kernel
theorem djdk_42_m151_10 : decode jdk_42_method_151_code 10 = .ok (.iload_n 2, 1) := by decide +kernel
theorem djdk_42_m151_9 : decode jdk_42_method_151_code 9 = .ok (.aload_n 0, 1) := by decide +kernel
theorem djdk_42_m151_6 : decode jdk_42_method_151_code 6 = .ok (.putfield 9, 3) := by decide +kernel
theorem djdk_42_m151_5 : decode jdk_42_method_151_code 5 = .ok (.aload_n 1, 1) := by decide +kernel
theorem djdk_42_m151_4 : decode jdk_42_method_151_code 4 = .ok (.aload_n 0, 1) := by decide +kernel
theorem djdk_42_m151_1 : decode jdk_42_method_151_code 1 = .ok (.invokespecial 1, 3) := by decide +kernel
theorem djdk_42_m151_0 : decode jdk_42_method_151_code 0 = .ok (.aload_n 0, 1) := by decide +kernel
theorem pn_4 : plainName "java/lang/String" = true := by first | (simp [plainName, overriddenIn]; done) | decide +kernel
theorem djdk_43_m46_8 : decode jdk_43_method_46_code 8 = .ok (.areturn, 1) := by decide +kernel
theorem djdk_43_m46_7 : decode jdk_43_method_46_code 7 = .ok (.bastore, 1) := by decide +kernel
theorem djdk_43_m46_6 : decode jdk_43_method_46_code 6 = .ok (.i2b, 1) := by decide +kernel
theorem djdk_43_m46_5 : decode jdk_43_method_46_code 5 = .ok (.iload_n 0, 1) := by decide +kernel
theorem djdk_43_m46_4 : decode jdk_43_method_46_code 4 = .ok (.iconst 0, 1) := by decide +kernel
theorem djdk_43_m46_3 : decode jdk_43_method_46_code 3 = .ok (.dup, 1) := by decide +kernel
theorem djdk_43_m46_1 : decode jdk_43_method_46_code 1 = .ok (.newarray .byte, 2) := by decide +kernel
theorem djdk_43_m46_0 : decode jdk_43_method_46_code 0 = .ok (.iconst 1, 1) := by decide +kernel
theorem djdk_43_m3_12 : decode jdk_43_method_3_code 12 = .ok (.ireturn, 1) := by decide +kernel
theorem djdk_43_m3_8 : decode jdk_43_method_3_code 8 = .ok (.goto 4, 3) := by decide +kernel
theorem djdk_43_m3_7 : decode jdk_43_method_3_code 7 = .ok (.iconst 1, 1) := by decide +kernel
theorem djdk_43_m3_4 : decode jdk_43_method_3_code 4 = .ok (.if_icmp .gt 7, 3) := by decide +kernel
theorem djdk_43_m3_1 : decode jdk_43_method_3_code 1 = .ok (.sipush 255, 3) := by decide +kernel
theorem djdk_43_m3_0 : decode jdk_43_method_3_code 0 = .ok (.iload_n 0, 1) := by decide +kernel
theorem pn_3 : plainName "java/lang/StringLatin1" = true := by first | (simp [plainName, overriddenIn]; done) | decide +kernel
theorem dm3_71 : decode method_3_code 71 = .ok (.areturn, 1) := by decide +kernel
theorem dm3_68 : decode method_3_code 68 = .ok (.invokespecial 42, 3) := by decide +kernel
theorem dm3_67 : decode method_3_code 67 = .ok (.castore, 1) := by decide +kernel
theorem dm3_66 : decode method_3_code 66 = .ok (.iload_n 3, 1) := by decide +kernel
theorem dm3_65 : decode method_3_code 65 = .ok (.iconst 2, 1) := by decide +kernel
theorem dm3_64 : decode method_3_code 64 = .ok (.dup, 1) := by decide +kernel
theorem dm3_63 : decode method_3_code 63 = .ok (.castore, 1) := by decide +kernel
theorem dm3_62 : decode method_3_code 62 = .ok (.iload_n 2, 1) := by decide +kernel
theorem dm3_61 : decode method_3_code 61 = .ok (.iconst 1, 1) := by decide +kernel
theorem dm3_60 : decode method_3_code 60 = .ok (.dup, 1) := by decide +kernel
theorem dm3_59 : decode method_3_code 59 = .ok (.castore, 1) := by decide +kernel
theorem dm3_58 : decode method_3_code 58 = .ok (.iload_n 1, 1) := by decide +kernel
theorem dm3_57 : decode method_3_code 57 = .ok (.iconst 0, 1) := by decide +kernel
theorem dm3_56 : decode method_3_code 56 = .ok (.dup, 1) := by decide +kernel
theorem dm3_54 : decode method_3_code 54 = .ok (.newarray .char, 2) := by decide +kernel
theorem dm3_53 : decode method_3_code 53 = .ok (.iconst 3, 1) := by decide +kernel
theorem dm3_52 : decode method_3_code 52 = .ok (.dup, 1) := by decide +kernel
theorem dm3_49 : decode method_3_code 49 = .ok (.new 40, 3) := by decide +kernel
theorem dm3_48 : decode method_3_code 48 = .ok (.areturn, 1) := by decide +kernel
theorem dm3_45 : decode method_3_code 45 = .ok (.invokespecial 42, 3) := by decide +kernel
theorem dm3_44 : decode method_3_code 44 = .ok (.castore, 1) := by decide +kernel
theorem dm3_43 : decode method_3_code 43 = .ok (.iload_n 2, 1) := by decide +kernel
theorem dm3_42 : decode method_3_code 42 = .ok (.iconst 1, 1) := by decide +kernel
theorem dm3_41 : decode method_3_code 41 = .ok (.dup, 1) := by decide +kernel
theorem dm3_40 : decode method_3_code 40 = .ok (.castore, 1) := by decide +kernel
theorem dm3_39 : decode method_3_code 39 = .ok (.iload_n 1, 1) := by decide +kernel
theorem dm3_38 : decode method_3_code 38 = .ok (.iconst 0, 1) := by decide +kernel
theorem dm3_37 : decode method_3_code 37 = .ok (.dup, 1) := by decide +kernel
theorem dm3_35 : decode method_3_code 35 = .ok (.newarray .char, 2) := by decide +kernel
theorem dm3_34 : decode method_3_code 34 = .ok (.iconst 2, 1) := by decide +kernel
theorem dm3_33 : decode method_3_code 33 = .ok (.dup, 1) := by decide +kernel
theorem dm3_30 : decode method_3_code 30 = .ok (.new 40, 3) := by decide +kernel
theorem dm3_27 : decode method_3_code 27 = .ok (.if_icmp .ne 22, 3) := by decide +kernel
theorem dm3_26 : decode method_3_code 26 = .ok (.iconst 2, 1) := by decide +kernel
theorem dm3_25 : decode method_3_code 25 = .ok (.iload_n 0, 1) := by decide +kernel
theorem dm3_17 : decode method_3_code 17 = .ok (.if_icmp .ne 8, 3) := by decide +kernel
theorem dm3_16 : decode method_3_code 16 = .ok (.iconst 1, 1) := by decide +kernel
theorem dm3_15 : decode method_3_code 15 = .ok (.iload_n 0, 1) := by decide +kernel
theorem dm3_1 : decode method_3_code 1 = .ok (.ifCond .ne 14, 3) := by decide +kernel
theorem dm3_0 : decode method_3_code 0 = .ok (.iload_n 0, 1) := by decide +kernel
theorem pd_5 : parseMethodDescriptor "([C)V" = some ⟨[(.array .char)], none⟩ := by decide +kernel
theorem dp23_m9_50 : decode prog_23_method_9_code 50 = .ok (.putfield 33, 3) := by decide +kernel
theorem dp23_m9_47 : decode prog_23_method_9_code 47 = .ok (.invokestatic 104, 3) := by decide +kernel
theorem dp23_m9_46 : decode prog_23_method_9_code 46 = .ok (.imul, 1) := by decide +kernel
theorem dp23_m9_43 : decode prog_23_method_9_code 43 = .ok (.getfield 20, 3) := by decide +kernel
theorem dp23_m9_42 : decode prog_23_method_9_code 42 = .ok (.aload_n 0, 1) := by decide +kernel
theorem dp23_m9_41 : decode prog_23_method_9_code 41 = .ok (.iadd, 1) := by decide +kernel
theorem dp23_m9_40 : decode prog_23_method_9_code 40 = .ok (.iconst 1, 1) := by decide +kernel
theorem dp23_m9_39 : decode prog_23_method_9_code 39 = .ok (.arraylength, 1) := by decide +kernel
theorem dp23_m9_36 : decode prog_23_method_9_code 36 = .ok (.getfield 29, 3) := by decide +kernel
theorem dp23_m9_35 : decode prog_23_method_9_code 35 = .ok (.aload_n 0, 1) := by decide +kernel
theorem dp23_m9_32 : decode prog_23_method_9_code 32 = .ok (.getfield 33, 3) := by decide +kernel
theorem dp23_m9_31 : decode prog_23_method_9_code 31 = .ok (.aload_n 0, 1) := by decide +kernel
theorem dp23_m9_30 : decode prog_23_method_9_code 30 = .ok (.aload_n 0, 1) := by decide +kernel
theorem dp23_m9_27 : decode prog_23_method_9_code 27 = .ok (.putfield 29, 3) := by decide +kernel
theorem dp23_m9_24 : decode prog_23_method_9_code 24 = .ok (.invokestatic 98, 3) := by decide +kernel
theorem dp23_m9_23 : decode prog_23_method_9_code 23 = .ok (.imul, 1) := by decide +kernel
theorem dp23_m9_22 : decode prog_23_method_9_code 22 = .ok (.iconst 2, 1) := by decide +kernel
theorem dp23_m9_21 : decode prog_23_method_9_code 21 = .ok (.arraylength, 1) := by decide +kernel
theorem dp23_m9_18 : decode prog_23_method_9_code 18 = .ok (.getfield 29, 3) := by decide +kernel
theorem dp23_m9_17 : decode prog_23_method_9_code 17 = .ok (.aload_n 0, 1) := by decide +kernel
theorem dp23_m9_14 : decode prog_23_method_9_code 14 = .ok (.getfield 29, 3) := by decide +kernel
theorem dp23_m9_13 : decode prog_23_method_9_code 13 = .ok (.aload_n 0, 1) := by decide +kernel
theorem dp23_m9_12 : decode prog_23_method_9_code 12 = .ok (.aload_n 0, 1) := by decide +kernel
theorem dp23_m9_9 : decode prog_23_method_9_code 9 = .ok (.if_icmp .ne 44, 3) := by decide +kernel
theorem dp23_m9_8 : decode prog_23_method_9_code 8 = .ok (.arraylength, 1) := by decide +kernel
theorem dp23_m9_5 : decode prog_23_method_9_code 5 = .ok (.getfield 29, 3) := by decide +kernel
theorem dp23_m9_4 : decode prog_23_method_9_code 4 = .ok (.aload_n 0, 1) := by decide +kernel
theorem dp23_m9_1 : decode prog_23_method_9_code 1 = .ok (.getfield 96, 3) := by decide +kernel
theorem dp23_m9_0 : decode prog_23_method_9_code 0 = .ok (.aload_n 0, 1) := by decide +kernel
theorem dp23_m9_153 : decode prog_23_method_9_code 153 = .ok (.goto (-23), 3) := by decide +kernel
theorem dp23_m9_150 : decode prog_23_method_9_code 150 = .ok (.iinc 7 1, 3) := by decide +kernel
theorem dp23_m9_149 : decode prog_23_method_9_code 149 = .ok (.iastore, 1) := by decide +kernel
theorem dp23_m9_146 : decode prog_23_method_9_code 146 = .ok (.getfield 17, 3) := by decide +kernel
theorem dp23_m9_145 : decode prog_23_method_9_code 145 = .ok (.aload_n 0, 1) := by decide +kernel
theorem dp23_m9_144 : decode prog_23_method_9_code 144 = .ok (.iadd, 1) := by decide +kernel
theorem dp23_m9_142 : decode prog_23_method_9_code 142 = .ok (.iload 7, 2) := by decide +kernel
theorem dp23_m9_141 : decode prog_23_method_9_code 141 = .ok (.iload_n 3, 1) := by decide +kernel
theorem dp23_m9_138 : decode prog_23_method_9_code 138 = .ok (.getfield 33, 3) := by decide +kernel
theorem dp23_m9_137 : decode prog_23_method_9_code 137 = .ok (.aload_n 0, 1) := by decide +kernel
theorem dp23_m9_184 : decode prog_23_method_9_code 184 = .ok (.iinc 7 1, 3) := by decide +kernel
theorem dp23_m9_183 : decode prog_23_method_9_code 183 = .ok (.iastore, 1) := by decide +kernel
theorem dp23_m9_182 : decode prog_23_method_9_code 182 = .ok (.iload_n 2, 1) := by decide +kernel
theorem dp23_m9_181 : decode prog_23_method_9_code 181 = .ok (.iadd, 1) := by decide +kernel
theorem dp23_m9_179 : decode prog_23_method_9_code 179 = .ok (.iload 7, 2) := by decide +kernel
theorem dp23_m9_178 : decode prog_23_method_9_code 178 = .ok (.iload_n 3, 1) := by decide +kernel
theorem dp23_m9_175 : decode prog_23_method_9_code 175 = .ok (.getfield 33, 3) := by decide +kernel
theorem dp23_m9_174 : decode prog_23_method_9_code 174 = .ok (.aload_n 0, 1) := by decide +kernel
theorem dp23_m9_171 : decode prog_23_method_9_code 171 = .ok (.if_icmp .gt 16, 3) := by decide +kernel
theorem dp23_m9_169 : decode prog_23_method_9_code 169 = .ok (.iload 6, 2) := by decide +kernel
theorem dp23_m9_167 : decode prog_23_method_9_code 167 = .ok (.iload 7, 2) := by decide +kernel
theorem dp23_m9_164 : decode prog_23_method_9_code 164 = .ok (.if_icmp .ne 23, 3) := by decide +kernel
theorem dp23_m9_163 : decode prog_23_method_9_code 163 = .ok (.isub, 1) := by decide +kernel
theorem dp23_m9_162 : decode prog_23_method_9_code 162 = .ok (.iload_n 2, 1) := by decide +kernel
theorem dp23_m9_159 : decode prog_23_method_9_code 159 = .ok (.getfield 13, 3) := by decide +kernel
theorem dp23_m9_158 : decode prog_23_method_9_code 158 = .ok (.aload_n 0, 1) := by decide +kernel
theorem dp23_m9_156 : decode prog_23_method_9_code 156 = .ok (.iload 7, 2) := by decide +kernel
theorem dp23_m9_134 : decode prog_23_method_9_code 134 = .ok (.if_icmp .ge 22, 3) := by decide +kernel
theorem dp23_m9_132 : decode prog_23_method_9_code 132 = .ok (.iload 5, 2) := by decide +kernel
theorem dp23_m9_130 : decode prog_23_method_9_code 130 = .ok (.iload 7, 2) := by decide +kernel
theorem dp23_m9_268 : decode prog_23_method_9_code 268 = .ok (.istore 9, 2) := by decide +kernel
theorem dp23_m9_265 : decode prog_23_method_9_code 265 = .ok (.invokestatic 59, 3) := by decide +kernel
theorem dp23_m9_264 : decode prog_23_method_9_code 264 = .ok (.iadd, 1) := by decide +kernel
theorem dp23_m9_263 : decode prog_23_method_9_code 263 = .ok (.iconst 1, 1) := by decide +kernel
theorem dp23_m9_262 : decode prog_23_method_9_code 262 = .ok (.iaload, 1) := by decide +kernel
theorem dp23_m9_261 : decode prog_23_method_9_code 261 = .ok (.iadd, 1) := by decide +kernel
theorem dp23_m9_260 : decode prog_23_method_9_code 260 = .ok (.iconst 1, 1) := by decide +kernel
theorem dp23_m9_259 : decode prog_23_method_9_code 259 = .ok (.iadd, 1) := by decide +kernel
theorem dp23_m9_257 : decode prog_23_method_9_code 257 = .ok (.iload 7, 2) := by decide +kernel
theorem dp23_m9_255 : decode prog_23_method_9_code 255 = .ok (.iload 4, 2) := by decide +kernel
theorem dp23_m9_252 : decode prog_23_method_9_code 252 = .ok (.getfield 33, 3) := by decide +kernel
theorem dp23_m9_251 : decode prog_23_method_9_code 251 = .ok (.aload_n 0, 1) := by decide +kernel
theorem dp23_m9_249 : decode prog_23_method_9_code 249 = .ok (.iload 9, 2) := by decide +kernel
theorem dp23_m9_246 : decode prog_23_method_9_code 246 = .ok (.if_icmp .ge 24, 3) := by decide +kernel
theorem dp23_m9_243 : decode prog_23_method_9_code 243 = .ok (.getfield 20, 3) := by decide +kernel
theorem dp23_m9_242 : decode prog_23_method_9_code 242 = .ok (.aload_n 0, 1) := by decide +kernel
theorem dp23_m9_241 : decode prog_23_method_9_code 241 = .ok (.iadd, 1) := by decide +kernel
theorem dp23_m9_240 : decode prog_23_method_9_code 240 = .ok (.iconst 1, 1) := by decide +kernel
theorem dp23_m9_238 : decode prog_23_method_9_code 238 = .ok (.iload 7, 2) := by decide +kernel
theorem osTyp_236 {z0 : Value} {z1 : Value} {z2 : Value} {z3 : Value} {z4 : Value} {z5 : Value} {z6 : Value} {z7 : Value} {z8 : Value} {z9 : Slot} {v : Int32} (h : One z9) : storeLocals #[.val z0, .val z1, .val z2, .val z3, .val z4, .val z5, .val z6, .val z7, .val z8, z9] 9 (.int v) = some #[.val z0, .val z1, .val z2, .val z3, .val z4, .val z5, .val z6, .val z7, .val z8, .val (.int v)] := by
  rcases h with rfl | ⟨w, rfl, hw⟩
  · rfl
  · cases w <;> first | rfl | (simp [Value.category] at hw)
theorem dp23_m9_236 : decode prog_23_method_9_code 236 = .ok (.istore 9, 2) := by decide +kernel
theorem dp23_m9_235 : decode prog_23_method_9_code 235 = .ok (.iadd, 1) := by decide +kernel
theorem dp23_m9_234 : decode prog_23_method_9_code 234 = .ok (.iconst 1, 1) := by decide +kernel
theorem dp23_m9_231 : decode prog_23_method_9_code 231 = .ok (.goto 4, 3) := by decide +kernel
theorem dp23_m9_230 : decode prog_23_method_9_code 230 = .ok (.iconst 0, 1) := by decide +kernel
theorem dp23_m9_227 : decode prog_23_method_9_code 227 = .ok (.if_icmp .ne 7, 3) := by decide +kernel
theorem dp23_m9_224 : decode prog_23_method_9_code 224 = .ok (.invokevirtual 78, 3) := by decide +kernel
theorem dp23_m9_223 : decode prog_23_method_9_code 223 = .ok (.isub, 1) := by decide +kernel
theorem dp23_m9_222 : decode prog_23_method_9_code 222 = .ok (.iconst 1, 1) := by decide +kernel
theorem dp23_m9_220 : decode prog_23_method_9_code 220 = .ok (.iload 8, 2) := by decide +kernel
theorem dp23_m9_217 : decode prog_23_method_9_code 217 = .ok (.getfield 7, 3) := by decide +kernel
theorem dp23_m9_216 : decode prog_23_method_9_code 216 = .ok (.aload_n 0, 1) := by decide +kernel
theorem dp23_m9_215 : decode prog_23_method_9_code 215 = .ok (.iload_n 1, 1) := by decide +kernel
theorem dp23_m9_214 : decode prog_23_method_9_code 214 = .ok (.iaload, 1) := by decide +kernel
theorem dp23_m9_213 : decode prog_23_method_9_code 213 = .ok (.iadd, 1) := by decide +kernel
theorem dp23_m9_211 : decode prog_23_method_9_code 211 = .ok (.iload 7, 2) := by decide +kernel
theorem dp23_m9_209 : decode prog_23_method_9_code 209 = .ok (.iload 4, 2) := by decide +kernel
theorem dp23_m9_206 : decode prog_23_method_9_code 206 = .ok (.getfield 33, 3) := by decide +kernel
theorem dp23_m9_205 : decode prog_23_method_9_code 205 = .ok (.aload_n 0, 1) := by decide +kernel
theorem osTyp_203 {z0 : Value} {z1 : Value} {z2 : Value} {z3 : Value} {z4 : Value} {z5 : Value} {z6 : Value} {z7 : Value} {z8 : Slot} {z9 : Slot} {v : Int32} (h : One z8) : storeLocals #[.val z0, .val z1, .val z2, .val z3, .val z4, .val z5, .val z6, .val z7, z8, z9] 8 (.int v) = some #[.val z0, .val z1, .val z2, .val z3, .val z4, .val z5, .val z6, .val z7, .val (.int v), z9] := by
  rcases h with rfl | ⟨w, rfl, hw⟩
  · rfl
  · cases w <;> first | rfl | (simp [Value.category] at hw)
theorem dp23_m9_203 : decode prog_23_method_9_code 203 = .ok (.istore 8, 2) := by decide +kernel
theorem dp23_m9_202 : decode prog_23_method_9_code 202 = .ok (.iadd, 1) := by decide +kernel
theorem dp23_m9_200 : decode prog_23_method_9_code 200 = .ok (.iload 7, 2) := by decide +kernel
theorem dp23_m9_199 : decode prog_23_method_9_code 199 = .ok (.isub, 1) := by decide +kernel
theorem dp23_m9_196 : decode prog_23_method_9_code 196 = .ok (.getfield 13, 3) := by decide +kernel
theorem dp23_m9_195 : decode prog_23_method_9_code 195 = .ok (.aload_n 0, 1) := by decide +kernel
theorem dp23_m9_194 : decode prog_23_method_9_code 194 = .ok (.iload_n 2, 1) := by decide +kernel
theorem dp23_m9_293 : decode prog_23_method_9_code 293 = .ok (.istore 9, 2) := by decide +kernel
theorem dp23_m9_290 : decode prog_23_method_9_code 290 = .ok (.invokestatic 59, 3) := by decide +kernel
theorem dp23_m9_289 : decode prog_23_method_9_code 289 = .ok (.iadd, 1) := by decide +kernel
theorem dp23_m9_288 : decode prog_23_method_9_code 288 = .ok (.iconst 1, 1) := by decide +kernel
theorem dp23_m9_287 : decode prog_23_method_9_code 287 = .ok (.iaload, 1) := by decide +kernel
theorem dp23_m9_286 : decode prog_23_method_9_code 286 = .ok (.isub, 1) := by decide +kernel
theorem dp23_m9_285 : decode prog_23_method_9_code 285 = .ok (.iconst 1, 1) := by decide +kernel
theorem dp23_m9_284 : decode prog_23_method_9_code 284 = .ok (.iadd, 1) := by decide +kernel
theorem dp23_m9_282 : decode prog_23_method_9_code 282 = .ok (.iload 7, 2) := by decide +kernel
theorem dp23_m9_281 : decode prog_23_method_9_code 281 = .ok (.iload_n 3, 1) := by decide +kernel
theorem dp23_m9_278 : decode prog_23_method_9_code 278 = .ok (.getfield 33, 3) := by decide +kernel
theorem dp23_m9_277 : decode prog_23_method_9_code 277 = .ok (.aload_n 0, 1) := by decide +kernel
theorem dp23_m9_275 : decode prog_23_method_9_code 275 = .ok (.iload 9, 2) := by decide +kernel
theorem dp23_m9_272 : decode prog_23_method_9_code 272 = .ok (.ifCond .le 23, 3) := by decide +kernel
theorem dp23_m9_270 : decode prog_23_method_9_code 270 = .ok (.iload 7, 2) := by decide +kernel
theorem dp23_m9_366 : decode prog_23_method_9_code 366 = .ok (.istore 9, 2) := by decide +kernel
theorem dp23_m9_363 : decode prog_23_method_9_code 363 = .ok (.invokestatic 59, 3) := by decide +kernel
theorem dp23_m9_362 : decode prog_23_method_9_code 362 = .ok (.iadd, 1) := by decide +kernel
theorem dp23_m9_361 : decode prog_23_method_9_code 361 = .ok (.iconst 1, 1) := by decide +kernel
theorem dp23_m9_360 : decode prog_23_method_9_code 360 = .ok (.iaload, 1) := by decide +kernel
theorem dp23_m9_359 : decode prog_23_method_9_code 359 = .ok (.iadd, 1) := by decide +kernel
theorem dp23_m9_357 : decode prog_23_method_9_code 357 = .ok (.iload 7, 2) := by decide +kernel
theorem dp23_m9_356 : decode prog_23_method_9_code 356 = .ok (.isub, 1) := by decide +kernel
theorem dp23_m9_355 : decode prog_23_method_9_code 355 = .ok (.imul, 1) := by decide +kernel
theorem dp23_m9_352 : decode prog_23_method_9_code 352 = .ok (.getfield 20, 3) := by decide +kernel
theorem dp23_m9_351 : decode prog_23_method_9_code 351 = .ok (.aload_n 0, 1) := by decide +kernel
theorem dp23_m9_350 : decode prog_23_method_9_code 350 = .ok (.iconst 2, 1) := by decide +kernel
theorem dp23_m9_349 : decode prog_23_method_9_code 349 = .ok (.iload_n 3, 1) := by decide +kernel
theorem dp23_m9_346 : decode prog_23_method_9_code 346 = .ok (.getfield 33, 3) := by decide +kernel
theorem dp23_m9_345 : decode prog_23_method_9_code 345 = .ok (.aload_n 0, 1) := by decide +kernel
theorem dp23_m9_343 : decode prog_23_method_9_code 343 = .ok (.iload 9, 2) := by decide +kernel
theorem dp23_m9_340 : decode prog_23_method_9_code 340 = .ok (.if_icmp .ne 28, 3) := by decide +kernel
theorem dp23_m9_337 : decode prog_23_method_9_code 337 = .ok (.invokevirtual 78, 3) := by decide +kernel
theorem dp23_m9_336 : decode prog_23_method_9_code 336 = .ok (.isub, 1) := by decide +kernel
theorem dp23_m9_335 : decode prog_23_method_9_code 335 = .ok (.iconst 1, 1) := by decide +kernel
theorem dp23_m9_333 : decode prog_23_method_9_code 333 = .ok (.iload 8, 2) := by decide +kernel
theorem dp23_m9_330 : decode prog_23_method_9_code 330 = .ok (.getfield 7, 3) := by decide +kernel
theorem dp23_m9_329 : decode prog_23_method_9_code 329 = .ok (.aload_n 0, 1) := by decide +kernel
theorem dp23_m9_328 : decode prog_23_method_9_code 328 = .ok (.caload, 1) := by decide +kernel
theorem dp23_m9_327 : decode prog_23_method_9_code 327 = .ok (.isub, 1) := by decide +kernel
theorem dp23_m9_326 : decode prog_23_method_9_code 326 = .ok (.iconst 2, 1) := by decide +kernel
theorem dp23_m9_325 : decode prog_23_method_9_code 325 = .ok (.iload_n 2, 1) := by decide +kernel
theorem dp23_m9_322 : decode prog_23_method_9_code 322 = .ok (.getfield 29, 3) := by decide +kernel
theorem dp23_m9_321 : decode prog_23_method_9_code 321 = .ok (.aload_n 0, 1) := by decide +kernel
theorem dp23_m9_318 : decode prog_23_method_9_code 318 = .ok (.if_icmp .ne 50, 3) := by decide +kernel
theorem dp23_m9_315 : decode prog_23_method_9_code 315 = .ok (.invokevirtual 78, 3) := by decide +kernel
theorem dp23_m9_314 : decode prog_23_method_9_code 314 = .ok (.isub, 1) := by decide +kernel
theorem dp23_m9_313 : decode prog_23_method_9_code 313 = .ok (.iconst 2, 1) := by decide +kernel
theorem dp23_m9_311 : decode prog_23_method_9_code 311 = .ok (.iload 8, 2) := by decide +kernel
theorem dp23_m9_308 : decode prog_23_method_9_code 308 = .ok (.getfield 7, 3) := by decide +kernel
theorem dp23_m9_307 : decode prog_23_method_9_code 307 = .ok (.aload_n 0, 1) := by decide +kernel
theorem dp23_m9_306 : decode prog_23_method_9_code 306 = .ok (.iload_n 1, 1) := by decide +kernel
theorem dp23_m9_303 : decode prog_23_method_9_code 303 = .ok (.if_icmp .le 65, 3) := by decide +kernel
theorem dp23_m9_302 : decode prog_23_method_9_code 302 = .ok (.iconst 1, 1) := by decide +kernel
theorem dp23_m9_300 : decode prog_23_method_9_code 300 = .ok (.iload 8, 2) := by decide +kernel
theorem dp23_m9_297 : decode prog_23_method_9_code 297 = .ok (.if_icmp .le 71, 3) := by decide +kernel
theorem dp23_m9_296 : decode prog_23_method_9_code 296 = .ok (.iconst 1, 1) := by decide +kernel
theorem dp23_m9_295 : decode prog_23_method_9_code 295 = .ok (.iload_n 2, 1) := by decide +kernel
theorem dp23_m9_389 : decode prog_23_method_9_code 389 = .ok (.goto (-202), 3) := by decide +kernel
theorem dp23_m9_386 : decode prog_23_method_9_code 386 = .ok (.iinc 7 1, 3) := by decide +kernel
theorem dp23_m9_385 : decode prog_23_method_9_code 385 = .ok (.iastore, 1) := by decide +kernel
theorem dp23_m9_382 : decode prog_23_method_9_code 382 = .ok (.invokestatic 59, 3) := by decide +kernel
theorem dp23_m9_379 : decode prog_23_method_9_code 379 = .ok (.getfield 17, 3) := by decide +kernel
theorem dp23_m9_378 : decode prog_23_method_9_code 378 = .ok (.aload_n 0, 1) := by decide +kernel
theorem dp23_m9_376 : decode prog_23_method_9_code 376 = .ok (.iload 9, 2) := by decide +kernel
theorem dp23_m9_375 : decode prog_23_method_9_code 375 = .ok (.iadd, 1) := by decide +kernel
theorem dp23_m9_373 : decode prog_23_method_9_code 373 = .ok (.iload 7, 2) := by decide +kernel
theorem dp23_m9_372 : decode prog_23_method_9_code 372 = .ok (.iload_n 3, 1) := by decide +kernel
theorem dp23_m9_369 : decode prog_23_method_9_code 369 = .ok (.getfield 33, 3) := by decide +kernel
theorem dp23_m9_368 : decode prog_23_method_9_code 368 = .ok (.aload_n 0, 1) := by decide +kernel
theorem dp23_m9_191 : decode prog_23_method_9_code 191 = .ok (.if_icmp .gt 201, 3) := by decide +kernel
theorem dp23_m9_189 : decode prog_23_method_9_code 189 = .ok (.iload 6, 2) := by decide +kernel
theorem dp23_m9_187 : decode prog_23_method_9_code 187 = .ok (.iload 7, 2) := by decide +kernel
theorem dp23_m9_417 : decode prog_23_method_9_code 417 = .ok (.goto (-25), 3) := by decide +kernel
theorem dp23_m9_414 : decode prog_23_method_9_code 414 = .ok (.iinc 7 1, 3) := by decide +kernel
theorem dp23_m9_413 : decode prog_23_method_9_code 413 = .ok (.iastore, 1) := by decide +kernel
theorem dp23_m9_410 : decode prog_23_method_9_code 410 = .ok (.getfield 17, 3) := by decide +kernel
theorem dp23_m9_409 : decode prog_23_method_9_code 409 = .ok (.aload_n 0, 1) := by decide +kernel
theorem dp23_m9_408 : decode prog_23_method_9_code 408 = .ok (.iadd, 1) := by decide +kernel
theorem dp23_m9_406 : decode prog_23_method_9_code 406 = .ok (.iload 7, 2) := by decide +kernel
theorem dp23_m9_405 : decode prog_23_method_9_code 405 = .ok (.iload_n 3, 1) := by decide +kernel
theorem dp23_m9_402 : decode prog_23_method_9_code 402 = .ok (.getfield 33, 3) := by decide +kernel
theorem dp23_m9_401 : decode prog_23_method_9_code 401 = .ok (.aload_n 0, 1) := by decide +kernel
theorem dp23_m9_420 : decode prog_23_method_9_code 420 = .ok (.return_, 1) := by decide +kernel
theorem dp23_m9_398 : decode prog_23_method_9_code 398 = .ok (.if_icmp .ge 22, 3) := by decide +kernel
theorem dp23_m9_395 : decode prog_23_method_9_code 395 = .ok (.getfield 20, 3) := by decide +kernel
theorem dp23_m9_394 : decode prog_23_method_9_code 394 = .ok (.aload_n 0, 1) := by decide +kernel
theorem dp23_m9_392 : decode prog_23_method_9_code 392 = .ok (.iload 7, 2) := by decide +kernel
theorem dp23_m9_128 : decode prog_23_method_9_code 128 = .ok (.istore 7, 2) := by decide +kernel
theorem dp23_m9_127 : decode prog_23_method_9_code 127 = .ok (.iconst 0, 1) := by decide +kernel
theorem dp23_m9_125 : decode prog_23_method_9_code 125 = .ok (.istore 6, 2) := by decide +kernel
theorem dp23_m9_122 : decode prog_23_method_9_code 122 = .ok (.invokestatic 59, 3) := by decide +kernel
theorem dp23_m9_121 : decode prog_23_method_9_code 121 = .ok (.iadd, 1) := by decide +kernel
theorem dp23_m9_118 : decode prog_23_method_9_code 118 = .ok (.getfield 13, 3) := by decide +kernel
theorem dp23_m9_117 : decode prog_23_method_9_code 117 = .ok (.aload_n 0, 1) := by decide +kernel
theorem dp23_m9_116 : decode prog_23_method_9_code 116 = .ok (.isub, 1) := by decide +kernel
theorem dp23_m9_115 : decode prog_23_method_9_code 115 = .ok (.iload_n 2, 1) := by decide +kernel
theorem dp23_m9_112 : decode prog_23_method_9_code 112 = .ok (.invokevirtual 23, 3) := by decide +kernel
theorem dp23_m9_109 : decode prog_23_method_9_code 109 = .ok (.getfield 7, 3) := by decide +kernel
theorem dp23_m9_108 : decode prog_23_method_9_code 108 = .ok (.aload_n 0, 1) := by decide +kernel
theorem dp23_m9_107 : decode prog_23_method_9_code 107 = .ok (.isub, 1) := by decide +kernel
theorem dp23_m9_106 : decode prog_23_method_9_code 106 = .ok (.iconst 1, 1) := by decide +kernel
theorem dp23_m9_103 : decode prog_23_method_9_code 103 = .ok (.getfield 20, 3) := by decide +kernel
theorem dp23_m9_102 : decode prog_23_method_9_code 102 = .ok (.aload_n 0, 1) := by decide +kernel
theorem dp23_m9_100 : decode prog_23_method_9_code 100 = .ok (.istore 5, 2) := by decide +kernel
theorem dp23_m9_97 : decode prog_23_method_9_code 97 = .ok (.invokestatic 107, 3) := by decide +kernel
theorem dp23_m9_96 : decode prog_23_method_9_code 96 = .ok (.isub, 1) := by decide +kernel
theorem dp23_m9_95 : decode prog_23_method_9_code 95 = .ok (.iload_n 2, 1) := by decide +kernel
theorem dp23_m9_92 : decode prog_23_method_9_code 92 = .ok (.getfield 13, 3) := by decide +kernel
theorem dp23_m9_91 : decode prog_23_method_9_code 91 = .ok (.aload_n 0, 1) := by decide +kernel
theorem dp23_m9_90 : decode prog_23_method_9_code 90 = .ok (.iconst 0, 1) := by decide +kernel
theorem dp23_m9_88 : decode prog_23_method_9_code 88 = .ok (.istore 4, 2) := by decide +kernel
theorem dp23_m9_87 : decode prog_23_method_9_code 87 = .ok (.isub, 1) := by decide +kernel
theorem dp23_m9_84 : decode prog_23_method_9_code 84 = .ok (.getfield 20, 3) := by decide +kernel
theorem dp23_m9_83 : decode prog_23_method_9_code 83 = .ok (.aload_n 0, 1) := by decide +kernel
theorem dp23_m9_82 : decode prog_23_method_9_code 82 = .ok (.iload_n 3, 1) := by decide +kernel
theorem dp23_m9_81 : decode prog_23_method_9_code 81 = .ok (.istore_n 3, 1) := by decide +kernel
theorem dp23_m9_80 : decode prog_23_method_9_code 80 = .ok (.imul, 1) := by decide +kernel
theorem dp23_m9_77 : decode prog_23_method_9_code 77 = .ok (.getfield 20, 3) := by decide +kernel
theorem dp23_m9_76 : decode prog_23_method_9_code 76 = .ok (.aload_n 0, 1) := by decide +kernel
theorem dp23_m9_75 : decode prog_23_method_9_code 75 = .ok (.iload_n 2, 1) := by decide +kernel
theorem dp23_m9_74 : decode prog_23_method_9_code 74 = .ok (.istore_n 2, 1) := by decide +kernel
theorem dp23_m9_71 : decode prog_23_method_9_code 71 = .ok (.getfield 96, 3) := by decide +kernel
theorem dp23_m9_70 : decode prog_23_method_9_code 70 = .ok (.aload_n 0, 1) := by decide +kernel
theorem dp23_m9_69 : decode prog_23_method_9_code 69 = .ok (.castore, 1) := by decide +kernel
theorem dp23_m9_68 : decode prog_23_method_9_code 68 = .ok (.iload_n 1, 1) := by decide +kernel
theorem dp23_m9_65 : decode prog_23_method_9_code 65 = .ok (.putfield 96, 3) := by decide +kernel
theorem dp23_m9_64 : decode prog_23_method_9_code 64 = .ok (.iadd, 1) := by decide +kernel
theorem dp23_m9_63 : decode prog_23_method_9_code 63 = .ok (.iconst 1, 1) := by decide +kernel
theorem dp23_m9_62 : decode prog_23_method_9_code 62 = .ok (.dup_x1, 1) := by decide +kernel
theorem dp23_m9_59 : decode prog_23_method_9_code 59 = .ok (.getfield 96, 3) := by decide +kernel
theorem dp23_m9_58 : decode prog_23_method_9_code 58 = .ok (.dup, 1) := by decide +kernel
theorem dp23_m9_57 : decode prog_23_method_9_code 57 = .ok (.aload_n 0, 1) := by decide +kernel
theorem dp23_m9_54 : decode prog_23_method_9_code 54 = .ok (.getfield 29, 3) := by decide +kernel
theorem dp23_m9_53 : decode prog_23_method_9_code 53 = .ok (.aload_n 0, 1) := by decide +kernel
theorem pd_4 : parseMethodDescriptor "([II)[I" = some ⟨[(.array .int), .int], some (.array .int)⟩ := by decide +kernel
theorem pd_3 : parseMethodDescriptor "([CI)[C" = some ⟨[(.array .char), .int], some (.array .char)⟩ := by decide +kernel
theorem pd_2 : parseMethodDescriptor "(I)C" = some ⟨[.int], some .char⟩ := by decide +kernel
theorem djdk_65_m123_32 : decode jdk_65_method_123_code 32 = .ok (.areturn, 1) := by decide +kernel
theorem djdk_65_m123_31 : decode jdk_65_method_123_code 31 = .ok (.aload_n 2, 1) := by decide +kernel
theorem djdk_65_m123_28 : decode jdk_65_method_123_code 28 = .ok (.invokestatic 150, 3) := by decide +kernel
theorem djdk_65_m123_25 : decode jdk_65_method_123_code 25 = .ok (.invokestatic 304, 3) := by decide +kernel
theorem djdk_65_m123_24 : decode jdk_65_method_123_code 24 = .ok (.iload_n 1, 1) := by decide +kernel
theorem djdk_65_m123_23 : decode jdk_65_method_123_code 23 = .ok (.arraylength, 1) := by decide +kernel
theorem djdk_65_m123_22 : decode jdk_65_method_123_code 22 = .ok (.aload_n 0, 1) := by decide +kernel
theorem djdk_65_m123_21 : decode jdk_65_method_123_code 21 = .ok (.iconst 0, 1) := by decide +kernel
theorem djdk_65_m123_20 : decode jdk_65_method_123_code 20 = .ok (.aload_n 2, 1) := by decide +kernel
theorem djdk_65_m123_19 : decode jdk_65_method_123_code 19 = .ok (.iconst 0, 1) := by decide +kernel
theorem djdk_65_m123_18 : decode jdk_65_method_123_code 18 = .ok (.aload_n 0, 1) := by decide +kernel
theorem djdk_65_m123_17 : decode jdk_65_method_123_code 17 = .ok (.astore_n 2, 1) := by decide +kernel
theorem djdk_65_m123_15 : decode jdk_65_method_123_code 15 = .ok (.newarray .int, 2) := by decide +kernel
theorem djdk_65_m123_14 : decode jdk_65_method_123_code 14 = .ok (.iload_n 1, 1) := by decide +kernel
theorem djdk_65_m123_3 : decode jdk_65_method_123_code 3 = .ok (.if_icmp .ne 11, 3) := by decide +kernel
theorem djdk_65_m123_2 : decode jdk_65_method_123_code 2 = .ok (.arraylength, 1) := by decide +kernel
theorem djdk_65_m123_1 : decode jdk_65_method_123_code 1 = .ok (.aload_n 0, 1) := by decide +kernel
theorem djdk_65_m123_0 : decode jdk_65_method_123_code 0 = .ok (.iload_n 1, 1) := by decide +kernel
theorem djdk_65_m125_32 : decode jdk_65_method_125_code 32 = .ok (.areturn, 1) := by decide +kernel
theorem djdk_65_m125_31 : decode jdk_65_method_125_code 31 = .ok (.aload_n 2, 1) := by decide +kernel
theorem djdk_65_m125_28 : decode jdk_65_method_125_code 28 = .ok (.invokestatic 150, 3) := by decide +kernel
theorem djdk_65_m125_25 : decode jdk_65_method_125_code 25 = .ok (.invokestatic 304, 3) := by decide +kernel
theorem djdk_65_m125_24 : decode jdk_65_method_125_code 24 = .ok (.iload_n 1, 1) := by decide +kernel
theorem djdk_65_m125_23 : decode jdk_65_method_125_code 23 = .ok (.arraylength, 1) := by decide +kernel
theorem djdk_65_m125_22 : decode jdk_65_method_125_code 22 = .ok (.aload_n 0, 1) := by decide +kernel
theorem djdk_65_m125_21 : decode jdk_65_method_125_code 21 = .ok (.iconst 0, 1) := by decide +kernel
theorem djdk_65_m125_20 : decode jdk_65_method_125_code 20 = .ok (.aload_n 2, 1) := by decide +kernel
theorem djdk_65_m125_19 : decode jdk_65_method_125_code 19 = .ok (.iconst 0, 1) := by decide +kernel
theorem djdk_65_m125_18 : decode jdk_65_method_125_code 18 = .ok (.aload_n 0, 1) := by decide +kernel
theorem djdk_65_m125_17 : decode jdk_65_method_125_code 17 = .ok (.astore_n 2, 1) := by decide +kernel
theorem djdk_65_m125_15 : decode jdk_65_method_125_code 15 = .ok (.newarray .char, 2) := by decide +kernel
theorem djdk_65_m125_14 : decode jdk_65_method_125_code 14 = .ok (.iload_n 1, 1) := by decide +kernel
theorem djdk_65_m125_3 : decode jdk_65_method_125_code 3 = .ok (.if_icmp .ne 11, 3) := by decide +kernel
theorem djdk_65_m125_2 : decode jdk_65_method_125_code 2 = .ok (.arraylength, 1) := by decide +kernel
theorem djdk_65_m125_1 : decode jdk_65_method_125_code 1 = .ok (.aload_n 0, 1) := by decide +kernel
theorem djdk_65_m125_0 : decode jdk_65_method_125_code 0 = .ok (.iload_n 1, 1) := by decide +kernel
theorem pn_2 : plainName "java/util/Arrays" = true := by first | (simp [plainName, overriddenIn]; done) | decide +kernel
theorem dp23_m1_104 : decode prog_23_method_1_code 104 = .ok (.iload 4, 2) := by decide +kernel
theorem dp23_m1_94 : decode prog_23_method_1_code 94 = .ok (.if_icmp .le 10, 3) := by decide +kernel
theorem dp23_m1_91 : decode prog_23_method_1_code 91 = .ok (.invokevirtual 23, 3) := by decide +kernel
theorem dp23_m1_90 : decode prog_23_method_1_code 90 = .ok (.aload_n 1, 1) := by decide +kernel
theorem dp23_m1_88 : decode prog_23_method_1_code 88 = .ok (.iload 4, 2) := by decide +kernel
theorem dp23_m1_110 : decode prog_23_method_1_code 110 = .ok (.goto (-45), 3) := by decide +kernel
theorem dp23_m1_107 : decode prog_23_method_1_code 107 = .ok (.iinc 3 1, 3) := by decide +kernel
theorem dp23_m1_106 : decode prog_23_method_1_code 106 = .ok (.iastore, 1) := by decide +kernel
theorem dp23_m1_101 : decode prog_23_method_1_code 101 = .ok (.goto 5, 3) := by decide +kernel
theorem dp23_m1_98 : decode prog_23_method_1_code 98 = .ok (.getfield 17, 3) := by decide +kernel
theorem dp23_m1_97 : decode prog_23_method_1_code 97 = .ok (.aload_n 0, 1) := by decide +kernel
theorem dp23_m1_85 : decode prog_23_method_1_code 85 = .ok (.ifCond .lt 12, 3) := by decide +kernel
theorem dp23_m1_83 : decode prog_23_method_1_code 83 = .ok (.iload 4, 2) := by decide +kernel
theorem dp23_m1_82 : decode prog_23_method_1_code 82 = .ok (.iload_n 3, 1) := by decide +kernel
theorem dp23_m1_79 : decode prog_23_method_1_code 79 = .ok (.getfield 33, 3) := by decide +kernel
theorem dp23_m1_78 : decode prog_23_method_1_code 78 = .ok (.aload_n 0, 1) := by decide +kernel
theorem osIni_76 {z0 : Value} {z1 : Value} {z2 : Value} {z3 : Value} {z4 : Slot} {v : Int32} (h : One z4) : storeLocals #[.val z0, .val z1, .val z2, .val z3, z4] 4 (.int v) = some #[.val z0, .val z1, .val z2, .val z3, .val (.int v)] := by
  rcases h with rfl | ⟨w, rfl, hw⟩
  · rfl
  · cases w <;> first | rfl | (simp [Value.category] at hw)
theorem dp23_m1_76 : decode prog_23_method_1_code 76 = .ok (.istore 4, 2) := by decide +kernel
theorem dp23_m1_75 : decode prog_23_method_1_code 75 = .ok (.isub, 1) := by decide +kernel
theorem dp23_m1_74 : decode prog_23_method_1_code 74 = .ok (.iload_n 2, 1) := by decide +kernel
theorem dp23_m1_73 : decode prog_23_method_1_code 73 = .ok (.iload_n 3, 1) := by decide +kernel
theorem dp23_m1_113 : decode prog_23_method_1_code 113 = .ok (.return_, 1) := by decide +kernel
theorem dp23_m1_70 : decode prog_23_method_1_code 70 = .ok (.if_icmp .ge 43, 3) := by decide +kernel
theorem dp23_m1_67 : decode prog_23_method_1_code 67 = .ok (.getfield 20, 3) := by decide +kernel
theorem dp23_m1_66 : decode prog_23_method_1_code 66 = .ok (.aload_n 0, 1) := by decide +kernel
theorem dp23_m1_65 : decode prog_23_method_1_code 65 = .ok (.iload_n 3, 1) := by decide +kernel
theorem dp23_m1_64 : decode prog_23_method_1_code 64 = .ok (.istore_n 3, 1) := by decide +kernel
theorem dp23_m1_63 : decode prog_23_method_1_code 63 = .ok (.iconst 0, 1) := by decide +kernel
theorem dp23_m1_60 : decode prog_23_method_1_code 60 = .ok (.putfield 33, 3) := by decide +kernel
theorem dp23_m1_58 : decode prog_23_method_1_code 58 = .ok (.newarray .int, 2) := by decide +kernel
theorem dp23_m1_57 : decode prog_23_method_1_code 57 = .ok (.imul, 1) := by decide +kernel
theorem dp23_m1_54 : decode prog_23_method_1_code 54 = .ok (.getfield 20, 3) := by decide +kernel
theorem dp23_m1_53 : decode prog_23_method_1_code 53 = .ok (.aload_n 0, 1) := by decide +kernel
theorem dp23_m1_52 : decode prog_23_method_1_code 52 = .ok (.iadd, 1) := by decide +kernel
theorem dp23_m1_51 : decode prog_23_method_1_code 51 = .ok (.iconst 1, 1) := by decide +kernel
theorem dp23_m1_50 : decode prog_23_method_1_code 50 = .ok (.arraylength, 1) := by decide +kernel
theorem dp23_m1_47 : decode prog_23_method_1_code 47 = .ok (.getfield 29, 3) := by decide +kernel
theorem dp23_m1_46 : decode prog_23_method_1_code 46 = .ok (.aload_n 0, 1) := by decide +kernel
theorem dp23_m1_45 : decode prog_23_method_1_code 45 = .ok (.aload_n 0, 1) := by decide +kernel
theorem dp23_m1_42 : decode prog_23_method_1_code 42 = .ok (.putfield 29, 3) := by decide +kernel
theorem dp23_m1_40 : decode prog_23_method_1_code 40 = .ok (.newarray .char, 2) := by decide +kernel
theorem dp23_m1_39 : decode prog_23_method_1_code 39 = .ok (.iadd, 1) := by decide +kernel
theorem dp23_m1_36 : decode prog_23_method_1_code 36 = .ok (.getfield 17, 3) := by decide +kernel
theorem dp23_m1_35 : decode prog_23_method_1_code 35 = .ok (.aload_n 0, 1) := by decide +kernel
theorem dp23_m1_32 : decode prog_23_method_1_code 32 = .ok (.invokevirtual 23, 3) := by decide +kernel
theorem dp23_m1_31 : decode prog_23_method_1_code 31 = .ok (.aload_n 1, 1) := by decide +kernel
theorem dp23_m1_30 : decode prog_23_method_1_code 30 = .ok (.aload_n 0, 1) := by decide +kernel
theorem dp23_m1_27 : decode prog_23_method_1_code 27 = .ok (.putfield 20, 3) := by decide +kernel
theorem dp23_m1_26 : decode prog_23_method_1_code 26 = .ok (.iadd, 1) := by decide +kernel
theorem dp23_m1_25 : decode prog_23_method_1_code 25 = .ok (.iconst 1, 1) := by decide +kernel
theorem dp23_m1_24 : decode prog_23_method_1_code 24 = .ok (.imul, 1) := by decide +kernel
theorem dp23_m1_23 : decode prog_23_method_1_code 23 = .ok (.iload_n 2, 1) := by decide +kernel
theorem dp23_m1_22 : decode prog_23_method_1_code 22 = .ok (.iconst 2, 1) := by decide +kernel
theorem dp23_m1_21 : decode prog_23_method_1_code 21 = .ok (.aload_n 0, 1) := by decide +kernel
theorem dp23_m1_18 : decode prog_23_method_1_code 18 = .ok (.putfield 17, 3) := by decide +kernel
theorem dp23_m1_17 : decode prog_23_method_1_code 17 = .ok (.iadd, 1) := by decide +kernel
theorem dp23_m1_16 : decode prog_23_method_1_code 16 = .ok (.iconst 1, 1) := by decide +kernel
theorem dp23_m1_15 : decode prog_23_method_1_code 15 = .ok (.iload_n 2, 1) := by decide +kernel
theorem dp23_m1_14 : decode prog_23_method_1_code 14 = .ok (.aload_n 0, 1) := by decide +kernel
theorem dp23_m1_11 : decode prog_23_method_1_code 11 = .ok (.putfield 13, 3) := by decide +kernel
theorem dp23_m1_10 : decode prog_23_method_1_code 10 = .ok (.iload_n 2, 1) := by decide +kernel
theorem dp23_m1_9 : decode prog_23_method_1_code 9 = .ok (.aload_n 0, 1) := by decide +kernel
theorem dp23_m1_6 : decode prog_23_method_1_code 6 = .ok (.putfield 7, 3) := by decide +kernel
theorem dp23_m1_5 : decode prog_23_method_1_code 5 = .ok (.aload_n 1, 1) := by decide +kernel
theorem dp23_m1_4 : decode prog_23_method_1_code 4 = .ok (.aload_n 0, 1) := by decide +kernel
theorem dp23_m1_1 : decode prog_23_method_1_code 1 = .ok (.invokespecial 1, 3) := by decide +kernel
theorem dp23_m1_0 : decode prog_23_method_1_code 0 = .ok (.aload_n 0, 1) := by decide +kernel
theorem pd_1 : parseMethodDescriptor "()I" = some ⟨[], some .int⟩ := by decide +kernel
theorem dp23_m12_36 : decode prog_23_method_12_code 36 = .ok (.ireturn, 1) := by decide +kernel
theorem dp23_m12_35 : decode prog_23_method_12_code 35 = .ok (.iconst 0, 1) := by decide +kernel
theorem dp23_m12_40 : decode prog_23_method_12_code 40 = .ok (.goto (-28), 3) := by decide +kernel
theorem dp23_m12_37 : decode prog_23_method_12_code 37 = .ok (.iinc 2 1, 3) := by decide +kernel
theorem dp23_m12_32 : decode prog_23_method_12_code 32 = .ok (.if_icmp .gt 5, 3) := by decide +kernel
theorem dp23_m12_29 : decode prog_23_method_12_code 29 = .ok (.getfield 13, 3) := by decide +kernel
theorem dp23_m12_28 : decode prog_23_method_12_code 28 = .ok (.aload_n 0, 1) := by decide +kernel
theorem dp23_m12_27 : decode prog_23_method_12_code 27 = .ok (.iaload, 1) := by decide +kernel
theorem dp23_m12_26 : decode prog_23_method_12_code 26 = .ok (.iadd, 1) := by decide +kernel
theorem dp23_m12_25 : decode prog_23_method_12_code 25 = .ok (.iload_n 2, 1) := by decide +kernel
theorem dp23_m12_24 : decode prog_23_method_12_code 24 = .ok (.iload_n 1, 1) := by decide +kernel
theorem dp23_m12_21 : decode prog_23_method_12_code 21 = .ok (.getfield 33, 3) := by decide +kernel
theorem dp23_m12_20 : decode prog_23_method_12_code 20 = .ok (.aload_n 0, 1) := by decide +kernel
theorem dp23_m12_44 : decode prog_23_method_12_code 44 = .ok (.ireturn, 1) := by decide +kernel
theorem dp23_m12_43 : decode prog_23_method_12_code 43 = .ok (.iconst 1, 1) := by decide +kernel
theorem dp23_m12_17 : decode prog_23_method_12_code 17 = .ok (.if_icmp .ge 26, 3) := by decide +kernel
theorem dp23_m12_14 : decode prog_23_method_12_code 14 = .ok (.getfield 20, 3) := by decide +kernel
theorem dp23_m12_13 : decode prog_23_method_12_code 13 = .ok (.aload_n 0, 1) := by decide +kernel
theorem dp23_m12_12 : decode prog_23_method_12_code 12 = .ok (.iload_n 2, 1) := by decide +kernel
theorem dp23_m12_11 : decode prog_23_method_12_code 11 = .ok (.istore_n 2, 1) := by decide +kernel
theorem dp23_m12_10 : decode prog_23_method_12_code 10 = .ok (.iconst 0, 1) := by decide +kernel
theorem dp23_m12_9 : decode prog_23_method_12_code 9 = .ok (.istore_n 1, 1) := by decide +kernel
theorem dp23_m12_8 : decode prog_23_method_12_code 8 = .ok (.imul, 1) := by decide +kernel
theorem dp23_m12_5 : decode prog_23_method_12_code 5 = .ok (.getfield 20, 3) := by decide +kernel
theorem dp23_m12_4 : decode prog_23_method_12_code 4 = .ok (.aload_n 0, 1) := by decide +kernel
theorem dp23_m12_1 : decode prog_23_method_12_code 1 = .ok (.getfield 96, 3) := by decide +kernel
theorem dp23_m12_0 : decode prog_23_method_12_code 0 = .ok (.aload_n 0, 1) := by decide +kernel
theorem dp23_m10_35 : decode prog_23_method_10_code 35 = .ok (.return_, 1) := by decide +kernel
theorem dp23_m10_32 : decode prog_23_method_10_code 32 = .ok (.putfield 96, 3) := by decide +kernel
theorem dp23_m10_31 : decode prog_23_method_10_code 31 = .ok (.iload_n 1, 1) := by decide +kernel
theorem dp23_m10_30 : decode prog_23_method_10_code 30 = .ok (.aload_n 0, 1) := by decide +kernel
theorem dp23_m10_9 : decode prog_23_method_10_code 9 = .ok (.if_icmp .le 21, 3) := by decide +kernel
theorem dp23_m10_6 : decode prog_23_method_10_code 6 = .ok (.getfield 96, 3) := by decide +kernel
theorem dp23_m10_5 : decode prog_23_method_10_code 5 = .ok (.aload_n 0, 1) := by decide +kernel
theorem dp23_m10_4 : decode prog_23_method_10_code 4 = .ok (.iload_n 1, 1) := by decide +kernel
theorem dp23_m10_1 : decode prog_23_method_10_code 1 = .ok (.ifCond .lt 11, 3) := by decide +kernel
theorem dp23_m10_0 : decode prog_23_method_10_code 0 = .ok (.iload_n 1, 1) := by decide +kernel
theorem pn_1 : plainName "com/example/catchment/catchment/linkage/EditDistance" = true := by first | (simp [plainName, overriddenIn]; done) | decide +kernel
theorem dm4_130 : decode method_4_code 130 = .ok (.istore 5, 2) := by decide +kernel
theorem dm4_127 : decode method_4_code 127 = .ok (.invokestatic 34, 3) := by decide +kernel
theorem dm4_126 : decode method_4_code 126 = .ok (.iadd, 1) := by decide +kernel
theorem dm4_125 : decode method_4_code 125 = .ok (.iconst 1, 1) := by decide +kernel
theorem dm4_124 : decode method_4_code 124 = .ok (.iaload, 1) := by decide +kernel
theorem dm4_123 : decode method_4_code 123 = .ok (.isub, 1) := by decide +kernel
theorem dm4_122 : decode method_4_code 122 = .ok (.iconst 2, 1) := by decide +kernel
theorem dm4_121 : decode method_4_code 121 = .ok (.iadd, 1) := by decide +kernel
theorem dm4_119 : decode method_4_code 119 = .ok (.iload 4, 2) := by decide +kernel
theorem dm4_118 : decode method_4_code 118 = .ok (.imul, 1) := by decide +kernel
theorem dm4_117 : decode method_4_code 117 = .ok (.iconst 4, 1) := by decide +kernel
theorem dm4_116 : decode method_4_code 116 = .ok (.isub, 1) := by decide +kernel
theorem dm4_115 : decode method_4_code 115 = .ok (.iconst 2, 1) := by decide +kernel
theorem dm4_114 : decode method_4_code 114 = .ok (.iload_n 3, 1) := by decide +kernel
theorem dm4_113 : decode method_4_code 113 = .ok (.aload_n 0, 1) := by decide +kernel
theorem dm4_111 : decode method_4_code 111 = .ok (.iload 5, 2) := by decide +kernel
theorem dm4_108 : decode method_4_code 108 = .ok (.if_icmp .ne 24, 3) := by decide +kernel
theorem dm4_107 : decode method_4_code 107 = .ok (.caload, 1) := by decide +kernel
theorem dm4_106 : decode method_4_code 106 = .ok (.isub, 1) := by decide +kernel
theorem dm4_105 : decode method_4_code 105 = .ok (.iconst 1, 1) := by decide +kernel
theorem dm4_103 : decode method_4_code 103 = .ok (.iload 4, 2) := by decide +kernel
theorem dm4_102 : decode method_4_code 102 = .ok (.aload_n 2, 1) := by decide +kernel
theorem dm4_101 : decode method_4_code 101 = .ok (.caload, 1) := by decide +kernel
theorem dm4_100 : decode method_4_code 100 = .ok (.isub, 1) := by decide +kernel
theorem dm4_99 : decode method_4_code 99 = .ok (.iconst 2, 1) := by decide +kernel
theorem dm4_98 : decode method_4_code 98 = .ok (.iload_n 3, 1) := by decide +kernel
theorem dm4_97 : decode method_4_code 97 = .ok (.aload_n 1, 1) := by decide +kernel
theorem dm4_94 : decode method_4_code 94 = .ok (.if_icmp .ne 38, 3) := by decide +kernel
theorem dm4_93 : decode method_4_code 93 = .ok (.caload, 1) := by decide +kernel
theorem dm4_92 : decode method_4_code 92 = .ok (.isub, 1) := by decide +kernel
theorem dm4_91 : decode method_4_code 91 = .ok (.iconst 2, 1) := by decide +kernel
theorem dm4_89 : decode method_4_code 89 = .ok (.iload 4, 2) := by decide +kernel
theorem dm4_88 : decode method_4_code 88 = .ok (.aload_n 2, 1) := by decide +kernel
theorem dm4_87 : decode method_4_code 87 = .ok (.caload, 1) := by decide +kernel
theorem dm4_86 : decode method_4_code 86 = .ok (.isub, 1) := by decide +kernel
theorem dm4_85 : decode method_4_code 85 = .ok (.iconst 1, 1) := by decide +kernel
theorem dm4_84 : decode method_4_code 84 = .ok (.iload_n 3, 1) := by decide +kernel
theorem dm4_83 : decode method_4_code 83 = .ok (.aload_n 1, 1) := by decide +kernel
theorem dm4_80 : decode method_4_code 80 = .ok (.if_icmp .le 52, 3) := by decide +kernel
theorem dm4_79 : decode method_4_code 79 = .ok (.iconst 1, 1) := by decide +kernel
theorem dm4_77 : decode method_4_code 77 = .ok (.iload 4, 2) := by decide +kernel
theorem dm4_142 : decode method_4_code 142 = .ok (.return_, 1) := by decide +kernel
theorem dm4_141 : decode method_4_code 141 = .ok (.iastore, 1) := by decide +kernel
theorem dm4_139 : decode method_4_code 139 = .ok (.iload 5, 2) := by decide +kernel
theorem dm4_138 : decode method_4_code 138 = .ok (.iadd, 1) := by decide +kernel
theorem dm4_136 : decode method_4_code 136 = .ok (.iload 4, 2) := by decide +kernel
theorem dm4_135 : decode method_4_code 135 = .ok (.imul, 1) := by decide +kernel
theorem dm4_134 : decode method_4_code 134 = .ok (.iconst 4, 1) := by decide +kernel
theorem dm4_133 : decode method_4_code 133 = .ok (.iload_n 3, 1) := by decide +kernel
theorem dm4_132 : decode method_4_code 132 = .ok (.aload_n 0, 1) := by decide +kernel
theorem dm4_74 : decode method_4_code 74 = .ok (.if_icmp .le 58, 3) := by decide +kernel
theorem dm4_73 : decode method_4_code 73 = .ok (.iconst 1, 1) := by decide +kernel
theorem dm4_72 : decode method_4_code 72 = .ok (.iload_n 3, 1) := by decide +kernel
theorem dm4_70 : decode method_4_code 70 = .ok (.istore 5, 2) := by decide +kernel
theorem dm4_67 : decode method_4_code 67 = .ok (.invokestatic 34, 3) := by decide +kernel
theorem dm4_66 : decode method_4_code 66 = .ok (.iadd, 1) := by decide +kernel
theorem dm4_65 : decode method_4_code 65 = .ok (.iconst 1, 1) := by decide +kernel
theorem dm4_64 : decode method_4_code 64 = .ok (.iaload, 1) := by decide +kernel
theorem dm4_63 : decode method_4_code 63 = .ok (.isub, 1) := by decide +kernel
theorem dm4_62 : decode method_4_code 62 = .ok (.iconst 1, 1) := by decide +kernel
theorem dm4_61 : decode method_4_code 61 = .ok (.iadd, 1) := by decide +kernel
theorem dm4_59 : decode method_4_code 59 = .ok (.iload 4, 2) := by decide +kernel
theorem dm4_58 : decode method_4_code 58 = .ok (.imul, 1) := by decide +kernel
theorem dm4_57 : decode method_4_code 57 = .ok (.iconst 4, 1) := by decide +kernel
theorem dm4_56 : decode method_4_code 56 = .ok (.iload_n 3, 1) := by decide +kernel
theorem dm4_55 : decode method_4_code 55 = .ok (.aload_n 0, 1) := by decide +kernel
theorem dm4_53 : decode method_4_code 53 = .ok (.iload 5, 2) := by decide +kernel
theorem dm4_51 : decode method_4_code 51 = .ok (.istore 5, 2) := by decide +kernel
theorem dm4_48 : decode method_4_code 48 = .ok (.invokestatic 34, 3) := by decide +kernel
theorem dm4_47 : decode method_4_code 47 = .ok (.iadd, 1) := by decide +kernel
theorem dm4_46 : decode method_4_code 46 = .ok (.iconst 1, 1) := by decide +kernel
theorem dm4_45 : decode method_4_code 45 = .ok (.iaload, 1) := by decide +kernel
theorem dm4_44 : decode method_4_code 44 = .ok (.iadd, 1) := by decide +kernel
theorem dm4_42 : decode method_4_code 42 = .ok (.iload 4, 2) := by decide +kernel
theorem dm4_41 : decode method_4_code 41 = .ok (.imul, 1) := by decide +kernel
theorem dm4_40 : decode method_4_code 40 = .ok (.iconst 4, 1) := by decide +kernel
theorem dm4_39 : decode method_4_code 39 = .ok (.isub, 1) := by decide +kernel
theorem dm4_38 : decode method_4_code 38 = .ok (.iconst 1, 1) := by decide +kernel
theorem dm4_37 : decode method_4_code 37 = .ok (.iload_n 3, 1) := by decide +kernel
theorem dm4_36 : decode method_4_code 36 = .ok (.aload_n 0, 1) := by decide +kernel
theorem dm4_34 : decode method_4_code 34 = .ok (.iload 5, 2) := by decide +kernel
theorem dm4_32 : decode method_4_code 32 = .ok (.istore 5, 2) := by decide +kernel
theorem dm4_31 : decode method_4_code 31 = .ok (.iadd, 1) := by decide +kernel
theorem dm4_30 : decode method_4_code 30 = .ok (.iconst 1, 1) := by decide +kernel
theorem dm4_27 : decode method_4_code 27 = .ok (.goto 4, 3) := by decide +kernel
theorem dm4_26 : decode method_4_code 26 = .ok (.iconst 0, 1) := by decide +kernel
theorem dm4_23 : decode method_4_code 23 = .ok (.if_icmp .ne 7, 3) := by decide +kernel
theorem dm4_22 : decode method_4_code 22 = .ok (.caload, 1) := by decide +kernel
theorem dm4_21 : decode method_4_code 21 = .ok (.isub, 1) := by decide +kernel
theorem dm4_20 : decode method_4_code 20 = .ok (.iconst 1, 1) := by decide +kernel
theorem dm4_18 : decode method_4_code 18 = .ok (.iload 4, 2) := by decide +kernel
theorem dm4_17 : decode method_4_code 17 = .ok (.aload_n 2, 1) := by decide +kernel
theorem dm4_16 : decode method_4_code 16 = .ok (.caload, 1) := by decide +kernel
theorem dm4_15 : decode method_4_code 15 = .ok (.isub, 1) := by decide +kernel
theorem dm4_14 : decode method_4_code 14 = .ok (.iconst 1, 1) := by decide +kernel
theorem dm4_13 : decode method_4_code 13 = .ok (.iload_n 3, 1) := by decide +kernel
theorem dm4_12 : decode method_4_code 12 = .ok (.aload_n 1, 1) := by decide +kernel
theorem dm4_11 : decode method_4_code 11 = .ok (.iaload, 1) := by decide +kernel
theorem dm4_10 : decode method_4_code 10 = .ok (.isub, 1) := by decide +kernel
theorem dm4_9 : decode method_4_code 9 = .ok (.iconst 1, 1) := by decide +kernel
theorem dm4_8 : decode method_4_code 8 = .ok (.iadd, 1) := by decide +kernel
theorem dm4_6 : decode method_4_code 6 = .ok (.iload 4, 2) := by decide +kernel
theorem dm4_5 : decode method_4_code 5 = .ok (.imul, 1) := by decide +kernel
theorem dm4_4 : decode method_4_code 4 = .ok (.iconst 4, 1) := by decide +kernel
theorem dm4_3 : decode method_4_code 3 = .ok (.isub, 1) := by decide +kernel
theorem dm4_2 : decode method_4_code 2 = .ok (.iconst 1, 1) := by decide +kernel
theorem dm4_1 : decode method_4_code 1 = .ok (.iload_n 3, 1) := by decide +kernel
theorem dm4_0 : decode method_4_code 0 = .ok (.aload_n 0, 1) := by decide +kernel
theorem pd_0 : parseMethodDescriptor "(II)I" = some ⟨[.int, .int], some .int⟩ := by decide +kernel
theorem pn_0 : plainName "com/example/catchment/catchment/linkage/EditDistanceBeyondPinLaw" = true := by first | (simp [plainName, overriddenIn]; done) | decide +kernel
theorem djdk_29_m65_10 : decode jdk_29_method_65_code 10 = .ok (.ireturn, 1) := by decide +kernel
theorem djdk_29_m65_6 : decode jdk_29_method_65_code 6 = .ok (.goto 4, 3) := by decide +kernel
theorem djdk_29_m65_5 : decode jdk_29_method_65_code 5 = .ok (.iload_n 0, 1) := by decide +kernel
theorem djdk_29_m65_9 : decode jdk_29_method_65_code 9 = .ok (.iload_n 1, 1) := by decide +kernel
theorem djdk_29_m65_2 : decode jdk_29_method_65_code 2 = .ok (.if_icmp .lt 7, 3) := by decide +kernel
theorem djdk_29_m65_1 : decode jdk_29_method_65_code 1 = .ok (.iload_n 1, 1) := by decide +kernel
theorem djdk_29_m65_0 : decode jdk_29_method_65_code 0 = .ok (.iload_n 0, 1) := by decide +kernel
theorem djdk_29_m69_10 : decode jdk_29_method_69_code 10 = .ok (.ireturn, 1) := by decide +kernel
theorem djdk_29_m69_6 : decode jdk_29_method_69_code 6 = .ok (.goto 4, 3) := by decide +kernel
theorem djdk_29_m69_5 : decode jdk_29_method_69_code 5 = .ok (.iload_n 0, 1) := by decide +kernel
theorem djdk_29_m69_9 : decode jdk_29_method_69_code 9 = .ok (.iload_n 1, 1) := by decide +kernel
theorem djdk_29_m69_2 : decode jdk_29_method_69_code 2 = .ok (.if_icmp .gt 7, 3) := by decide +kernel
theorem djdk_29_m69_1 : decode jdk_29_method_69_code 1 = .ok (.iload_n 1, 1) := by decide +kernel
theorem djdk_29_m69_0 : decode jdk_29_method_69_code 0 = .ok (.iload_n 0, 1) := by decide +kernel
theorem ef_Min (m : MethodId) (x0 : Int32) (x1 : Int32) : entryFrame m #[(.int x0), (.int x1)] 2 = mkF m 0 #[iv x0, iv x1] [] := by first | (simp [entryFrame, mkF, argsToLocals, Value.category]; done) | rfl
def QMin (Z : State) (u1 : Int32) (u2 : Int32) (h0 : Heap) (n0 : Nat) (v : Option Value) (h : Heap) (L : List Loc) : Prop := v = some (.int (own_min u1 u2)) ∧ Fr n0 L ∧ h = h0
set_option maxRecDepth 65536 in
set_option maxHeartbeats 40000000 in
theorem rmMin (l : Launch) (Z : State) (a0 : Array Value) (hw : ∀ d ∈ tables_1, d.before a0 Z = true) (ws : List Jvm.Cond) (u1 : Int32) (u2 : Int32) (h0 : Heap) (n0 : Nat) (Z0 : n0 ≤ h0.size)  :
    MetFree l (⟨"java/lang/Math", "min", "(II)I"⟩ : MethodName) (head1 (Jvm.Cond.code (⟨"java/lang/Math", "min", "(II)I"⟩ : MethodName) jdk_29_method_69_code 2 (some .int) :: ws) ({ frames := 0, cells := 0, slots := 0, locals := 0 } : Room)) (fun A_ U => A_ = #[(.int u1), (.int u2)] ∧ Z.Warmed39 U.vm ∧ U.heap = h0) (fun _ _ _ _ _ => True) (fun _ U o U' => ∃ v L, o = .returned v ∧ QMin Z u1 u2 h0 n0 v U'.heap L ∧ FrameEnd U o U' L ({ frames := 0, cells := 0, slots := 0, locals := 0 } : Room).cells ({ frames := 0, cells := 0, slots := 0, locals := 0 } : Room).slots) := by
  refine MetFree.of_bodySF (Jvm.Free.JP.mathPlain rfl (by decide +kernel)) hisR ?_
  intro p e s m args below meth c s₁ Bd hml0 hP hK
  obtain ⟨rfl, hZ, hh⟩ := hP
  have hx := Bd.exec
  have hby := Bd.bytes
  have hml : c.maxLocals = 2 := hml0
  have hown : s.vm.findClass "java/lang/Math" = some m.cls := findClass_of_methodNamed Bd.named
  have hnm := (name_of_methodNamed Bd.named Bd.method).1
  have X0 : Stand p l e ({ frames := 0, cells := 0, slots := 0, locals := 0 } : Room) s m #[(.int u1), (.int u2)] below meth c s₁ [] 0 0 := Stand.of_body Bd
  have e0 : s₁.heap = h0 := by rw [← hh, Bd.state]; rfl
  have N0 := Fr.nil n0
  obtain ⟨F0, eF0⟩ : ∃ f : JFrame, f = entryFrame m #[(.int u1), (.int u2)] 2 := ⟨_, rfl⟩
  have k0 : Goes p e below s₁ F0 s₁ (mkF m 0 #[iv u1, iv u2] []) := fun t k => by subst eF0; exact castTop (ef_Min m u1 u2) k
  obtain ⟨r, eq_r⟩ : ∃ z : Int32, z = (if u2 < u1 then u2 else u1) := ⟨_, rfl⟩
  have k2 : Goes p e below s₁ F0 s₁ (mkF m 10 #[iv u1, iv u2] [(.int r)]) := by
    intro t k
    refine k0 _ ?_
    skip
    refine XS.iloadN X0.here hx rfl (hb hby djdk_29_m69_0) rfl ?_
    refine XS.iloadN X0.here hx rfl (hb hby djdk_29_m69_1) rfl ?_
    by_cases hc1_2 : u2 < u1
    · rw [show r = u2 by rw [eq_r, if_pos hc1_2]] at k
      skip
      refine XS.icmpYes X0.here hx rfl (pc0 := 2) (pc' := 9) rfl (hb hby djdk_29_m69_2) rfl (tlt hc1_2).2.2.1 (by decide) (by decide) ?_
      refine XS.iloadN X0.here hx rfl (hb hby djdk_29_m69_9) rfl ?_
      exact k
    · rw [show r = u1 by rw [eq_r, if_neg hc1_2]] at k
      skip
      refine XS.icmpNo X0.here hx rfl (hb hby djdk_29_m69_2) rfl (flt hc1_2).2.2.1 ?_
      refine XS.iloadN X0.here hx rfl (hb hby djdk_29_m69_5) rfl ?_
      refine XS.goto X0.here hx rfl (pc0 := 6) (pc' := 10) rfl (hb hby djdk_29_m69_6) (by decide) (by decide) ?_
      exact k
  subst eF0
  obtain ⟨fs, hr, hrun, hended, hW, hsame⟩ := X0.leave (v := some (.int r)) (fun h => by rw [Bd.returns] at h; cases h)
  refine ⟨_, _, k2 _ ?_, hrun, hended, _, _, rfl, ?_, ⟨_, rfl⟩, hW, hsame.mono (Nat.le_of_ble_eq_true rfl) (Nat.le_of_ble_eq_true rfl)⟩
  · exact retI X0 hx Bd.returns (hb hby djdk_29_m69_10) hr
  · show QMin Z u1 u2 h0 n0 _ s₁.heap _
    rw [e0]
    exact ⟨congrArg (fun z => some (Value.int z)) eq_r, N0, rfl⟩
theorem ef_Max (m : MethodId) (x0 : Int32) (x1 : Int32) : entryFrame m #[(.int x0), (.int x1)] 2 = mkF m 0 #[iv x0, iv x1] [] := by first | (simp [entryFrame, mkF, argsToLocals, Value.category]; done) | rfl
def QMax (Z : State) (u1 : Int32) (u2 : Int32) (h0 : Heap) (n0 : Nat) (v : Option Value) (h : Heap) (L : List Loc) : Prop := v = some (.int (own_max u1 u2)) ∧ Fr n0 L ∧ h = h0
set_option maxRecDepth 65536 in
set_option maxHeartbeats 40000000 in
theorem rmMax (l : Launch) (Z : State) (a0 : Array Value) (hw : ∀ d ∈ tables_1, d.before a0 Z = true) (ws : List Jvm.Cond) (u1 : Int32) (u2 : Int32) (h0 : Heap) (n0 : Nat) (Z0 : n0 ≤ h0.size)  :
    MetFree l (⟨"java/lang/Math", "max", "(II)I"⟩ : MethodName) (head1 (Jvm.Cond.code (⟨"java/lang/Math", "max", "(II)I"⟩ : MethodName) jdk_29_method_65_code 2 (some .int) :: ws) ({ frames := 0, cells := 0, slots := 0, locals := 0 } : Room)) (fun A_ U => A_ = #[(.int u1), (.int u2)] ∧ Z.Warmed39 U.vm ∧ U.heap = h0) (fun _ _ _ _ _ => True) (fun _ U o U' => ∃ v L, o = .returned v ∧ QMax Z u1 u2 h0 n0 v U'.heap L ∧ FrameEnd U o U' L ({ frames := 0, cells := 0, slots := 0, locals := 0 } : Room).cells ({ frames := 0, cells := 0, slots := 0, locals := 0 } : Room).slots) := by
  refine MetFree.of_bodySF (Jvm.Free.JP.mathPlain rfl (by decide +kernel)) hisR ?_
  intro p e s m args below meth c s₁ Bd hml0 hP hK
  obtain ⟨rfl, hZ, hh⟩ := hP
  have hx := Bd.exec
  have hby := Bd.bytes
  have hml : c.maxLocals = 2 := hml0
  have hown : s.vm.findClass "java/lang/Math" = some m.cls := findClass_of_methodNamed Bd.named
  have hnm := (name_of_methodNamed Bd.named Bd.method).1
  have X0 : Stand p l e ({ frames := 0, cells := 0, slots := 0, locals := 0 } : Room) s m #[(.int u1), (.int u2)] below meth c s₁ [] 0 0 := Stand.of_body Bd
  have e0 : s₁.heap = h0 := by rw [← hh, Bd.state]; rfl
  have N0 := Fr.nil n0
  obtain ⟨F0, eF0⟩ : ∃ f : JFrame, f = entryFrame m #[(.int u1), (.int u2)] 2 := ⟨_, rfl⟩
  have k0 : Goes p e below s₁ F0 s₁ (mkF m 0 #[iv u1, iv u2] []) := fun t k => by subst eF0; exact castTop (ef_Max m u1 u2) k
  obtain ⟨r, eq_r⟩ : ∃ z : Int32, z = (if u1 < u2 then u2 else u1) := ⟨_, rfl⟩
  have k2 : Goes p e below s₁ F0 s₁ (mkF m 10 #[iv u1, iv u2] [(.int r)]) := by
    intro t k
    refine k0 _ ?_
    skip
    refine XS.iloadN X0.here hx rfl (hb hby djdk_29_m65_0) rfl ?_
    refine XS.iloadN X0.here hx rfl (hb hby djdk_29_m65_1) rfl ?_
    by_cases hc1_2 : u1 < u2
    · rw [show r = u2 by rw [eq_r, if_pos hc1_2]] at k
      skip
      refine XS.icmpYes X0.here hx rfl (pc0 := 2) (pc' := 9) rfl (hb hby djdk_29_m65_2) rfl (tlt hc1_2).1 (by decide) (by decide) ?_
      refine XS.iloadN X0.here hx rfl (hb hby djdk_29_m65_9) rfl ?_
      exact k
    · rw [show r = u1 by rw [eq_r, if_neg hc1_2]] at k
      skip
      refine XS.icmpNo X0.here hx rfl (hb hby djdk_29_m65_2) rfl (flt hc1_2).1 ?_
      refine XS.iloadN X0.here hx rfl (hb hby djdk_29_m65_5) rfl ?_
      refine XS.goto X0.here hx rfl (pc0 := 6) (pc' := 10) rfl (hb hby djdk_29_m65_6) (by decide) (by decide) ?_
      exact k
  subst eF0
  obtain ⟨fs, hr, hrun, hended, hW, hsame⟩ := X0.leave (v := some (.int r)) (fun h => by rw [Bd.returns] at h; cases h)
  refine ⟨_, _, k2 _ ?_, hrun, hended, _, _, rfl, ?_, ⟨_, rfl⟩, hW, hsame.mono (Nat.le_of_ble_eq_true rfl) (Nat.le_of_ble_eq_true rfl)⟩
  · exact retI X0 hx Bd.returns (hb hby djdk_29_m65_10) hr
  · show QMax Z u1 u2 h0 n0 _ s₁.heap _
    rw [e0]
    exact ⟨congrArg (fun z => some (Value.int z)) eq_r, N0, rfl⟩
theorem ef_Ce11 (m : MethodId) (x0 : Addr) (x1 : Addr) (x2 : Addr) (x3 : Int32) (x4 : Int32) : entryFrame m #[(.ref x0), (.ref x1), (.ref x2), (.int x3), (.int x4)] 6 = mkF m 0 #[rv x0, rv x1, rv x2, iv x3, iv x4, .unset] [] := by first | (simp [entryFrame, mkF, argsToLocals, Value.category]; done) | rfl
def QCe11 (Z : State) (d : Addr) (ta : Addr) (va : Addr) (kd : ClassId) (kt : ClassId) (kv : ClassId) (dl : List Nat) (B : Nat) (t0 : Int32) (t1 : Int32) (t2 : Int32) (v0 : Int32) (v1 : Int32) (v2 : Int32) (h0 : Heap) (n0 : Nat) (v : Option Value) (h : Heap) (L : List Loc) : Prop := v = none ∧ Fr n0 L ∧ Keep h0 h [d] ∧ Arv Z h d kd .int (16 : Int32) (own_I (dl.set 5 (own_dc (dl.getD 0 0) (dl.getD 1 0) (dl.getD 4 0) 0 (t0 = v0) (False)))) (.int (0 : Int32))
set_option maxRecDepth 65536 in
set_option maxHeartbeats 40000000 in
theorem rmCe11 (l : Launch) (Z : State) (a0 : Array Value) (hw : ∀ d ∈ tables_1, d.before a0 Z = true) (ws : List Jvm.Cond) (d : Addr) (ta : Addr) (va : Addr) (kd : ClassId) (kt : ClassId) (kv : ClassId) (dl : List Nat) (B : Nat) (t0 : Int32) (t1 : Int32) (t2 : Int32) (v0 : Int32) (v1 : Int32) (v2 : Int32) (h0 : Heap) (n0 : Nat) (Z0 : n0 ≤ h0.size) (VD : Arv Z h0 d kd .int (16 : Int32) (own_I dl) (.int (0 : Int32))) (VT : Arv Z h0 ta kt .char (3 : Int32) [(.int t0), (.int t1), (.int t2)] (.int (0 : Int32))) (VW : Arv Z h0 va kv .char (3 : Int32) [(.int v0), (.int v1), (.int v2)] (.int (0 : Int32))) (hl : dl.length = 16) (hB : ∀ k, dl.getD k 0 ≤ B) (hB1 : B ≤ 100) (gd : n0 ≤ d) :
    MetFree l (⟨"com/example/catchment/catchment/linkage/EditDistanceBeyondPinLaw", "cell", "([I[C[CII)V"⟩ : MethodName) (head1 (Jvm.Cond.code (⟨"com/example/catchment/catchment/linkage/EditDistanceBeyondPinLaw", "cell", "([I[C[CII)V"⟩ : MethodName) method_4_code 6 none :: ws) ({ frames := 1, cells := 0, slots := 0, locals := 17 } : Room)) (fun A_ U => A_ = #[(.ref d), (.ref ta), (.ref va), (.int (1 : Int32)), (.int (1 : Int32))] ∧ Z.Warmed39 U.vm ∧ U.heap = h0) (fun _ _ _ _ _ => True) (fun _ U o U' => ∃ v L, o = .returned v ∧ QCe11 Z d ta va kd kt kv dl B t0 t1 t2 v0 v1 v2 h0 n0 v U'.heap L ∧ FrameEnd U o U' L ({ frames := 1, cells := 0, slots := 0, locals := 17 } : Room).cells ({ frames := 1, cells := 0, slots := 0, locals := 17 } : Room).slots) := by
  refine MetFree.of_bodySF (plainFor_of_name pn_0) hisR ?_
  intro p e s m args below meth c s₁ Bd hml0 hP hK
  obtain ⟨rfl, hZ, hh⟩ := hP
  have hx := Bd.exec
  have hby := Bd.bytes
  have hml : c.maxLocals = 6 := hml0
  have hown : s.vm.findClass "com/example/catchment/catchment/linkage/EditDistanceBeyondPinLaw" = some m.cls := findClass_of_methodNamed Bd.named
  have hnm := (name_of_methodNamed Bd.named Bd.method).1
  have X0 : Stand p l e ({ frames := 1, cells := 0, slots := 0, locals := 17 } : Room) s m #[(.ref d), (.ref ta), (.ref va), (.int (1 : Int32)), (.int (1 : Int32))] below meth c s₁ [] 0 0 := Stand.of_body Bd
  have e0 : s₁.heap = h0 := by rw [← hh, Bd.state]; rfl
  have N0 := Fr.nil n0
  obtain ⟨F0, eF0⟩ : ∃ f : JFrame, f = entryFrame m #[(.ref d), (.ref ta), (.ref va), (.int (1 : Int32)), (.int (1 : Int32))] 6 := ⟨_, rfl⟩
  have k0 : Goes p e below s₁ F0 s₁ (mkF m 0 #[rv d, rv ta, rv va, iv (1 : Int32), iv (1 : Int32), .unset] []) := fun t k => by subst eF0; exact castTop (ef_Ce11 m d ta va ((1 : Int32)) ((1 : Int32))) k
  have hb0 := hB 0
  have hb1 := hB 1
  have hb4 := hB 4
  obtain ⟨cl1, Ar1, qk1, Sz1, Nn1, Hs1, Gs1⟩ := id VD
  obtain ⟨cl2, Ar2, qk2, Sz2, Nn2, Hs2, Gs2⟩ := id VT
  obtain ⟨cl3, Ar3, qk3, Sz3, Nn3, Hs3, Gs3⟩ := id VW
  obtain ⟨c0, eq_c0⟩ : ∃ z : Int32, z = (if t0 = v0 then (0 : Int32) else (1 : Int32)) := ⟨_, rfl⟩
  have k5 : Goes p e below s₁ F0 s₁ (mkF m 31 #[rv d, rv ta, rv va, iv (1 : Int32), iv (1 : Int32), .unset] [(.int c0), (.int (Int32.ofNat (dl.getD 0 0)))]) := by
    intro t k
    refine k0 _ ?_
    skip
    refine XS.aloadN X0.here hx rfl (hb hby dm4_0) rfl rfl ?_
    refine XS.iloadN X0.here hx rfl (hb hby dm4_1) rfl ?_
    refine XS.iconst X0.here hx rfl (hb hby dm4_2) ?_
    refine XS.isub X0.here hx rfl (hb hby dm4_3) rfl ?_
    refine XS.iconst X0.here hx rfl (hb hby dm4_4) ?_
    refine XS.imul X0.here hx rfl (hb hby dm4_5) rfl ?_
    refine XS.iload X0.here hx rfl (hb hby dm4_6) rfl ?_
    refine XS.iadd X0.here hx rfl (hb hby dm4_8) rfl ?_
    refine XS.iconst X0.here hx rfl (hb hby dm4_9) ?_
    refine XS.isub X0.here hx rfl (hb hby dm4_10) rfl ?_
    refine X0.iaload hx (j := (0 : Int32)) (v := (.int (Int32.ofNat (dl.getD 0 0)))) (by rw [e0]; exact Ar1.1) (State.isArrayOf_alike hZ.alike Ar1.2.1) Ar1.2.2 (inb_of Sz1 (by decide)) (Has.at Hs1 (inb_of Sz1 (by decide)) (own_getI dl 0)) (g := (mkF m 11 #[rv d, rv ta, rv va, iv (1 : Int32), iv (1 : Int32), .unset] [(.int (0 : Int32)), (.ref d)])) rfl rfl (hb hby dm4_11) _ ?_
    refine XS.aloadN X0.here hx rfl (hb hby dm4_12) rfl rfl ?_
    refine XS.iloadN X0.here hx rfl (hb hby dm4_13) rfl ?_
    refine XS.iconst X0.here hx rfl (hb hby dm4_14) ?_
    refine XS.isub X0.here hx rfl (hb hby dm4_15) rfl ?_
    refine X0.caload hx (j := (0 : Int32)) (v := (.int t0)) (by rw [e0]; exact Ar2.1) (State.isArrayOf_alike hZ.alike Ar2.2.1) Ar2.2.2 (inb_of Sz2 (by decide)) (Has.at Hs2 (inb_of Sz2 (by decide)) rfl) (g := (mkF m 16 #[rv d, rv ta, rv va, iv (1 : Int32), iv (1 : Int32), .unset] [(.int (0 : Int32)), (.ref ta), (.int (Int32.ofNat (dl.getD 0 0)))])) rfl rfl (hb hby dm4_16) _ ?_
    refine XS.aloadN X0.here hx rfl (hb hby dm4_17) rfl rfl ?_
    refine XS.iload X0.here hx rfl (hb hby dm4_18) rfl ?_
    refine XS.iconst X0.here hx rfl (hb hby dm4_20) ?_
    refine XS.isub X0.here hx rfl (hb hby dm4_21) rfl ?_
    refine X0.caload hx (j := (0 : Int32)) (v := (.int v0)) (by rw [e0]; exact Ar3.1) (State.isArrayOf_alike hZ.alike Ar3.2.1) Ar3.2.2 (inb_of Sz3 (by decide)) (Has.at Hs3 (inb_of Sz3 (by decide)) rfl) (g := (mkF m 22 #[rv d, rv ta, rv va, iv (1 : Int32), iv (1 : Int32), .unset] [(.int (0 : Int32)), (.ref va), (.int t0), (.int (Int32.ofNat (dl.getD 0 0)))])) rfl rfl (hb hby dm4_22) _ ?_
    by_cases hc4_23 : t0 = v0
    · rw [show c0 = (0 : Int32) by rw [eq_c0, if_pos hc4_23]] at k
      skip
      refine XS.icmpNo X0.here hx rfl (hb hby dm4_23) rfl (teq hc4_23).2 ?_
      refine XS.iconst X0.here hx rfl (hb hby dm4_26) ?_
      refine XS.goto X0.here hx rfl (pc0 := 27) (pc' := 31) rfl (hb hby dm4_27) (by decide) (by decide) ?_
      exact k
    · rw [show c0 = (1 : Int32) by rw [eq_c0, if_neg hc4_23]] at k
      skip
      refine XS.icmpYes X0.here hx rfl (pc0 := 23) (pc' := 30) rfl (hb hby dm4_23) rfl (feq hc4_23).2 (by decide) (by decide) ?_
      refine XS.iconst X0.here hx rfl (hb hby dm4_30) ?_
      exact k
  have k6 : Goes p e below s₁ F0 s₁ (mkF m 32 #[rv d, rv ta, rv va, iv (1 : Int32), iv (1 : Int32), .unset] [(.int ((Int32.ofNat (dl.getD 0 0)) + c0))]) := by
    intro t k
    refine k5 _ ?_
    skip
    refine XS.iadd X0.here hx rfl (hb hby dm4_31) rfl ?_
    exact k
  rw [eq_c0, own_addb] at k6
  obtain ⟨y0, ey0⟩ : ∃ z : Nat, z = ((dl.getD 0 0) + if t0 = v0 then 0 else 1) := ⟨_, rfl⟩
  rw [← ey0] at k6
  have hy0 : y0 ≤ B + 1 := by rw [ey0]; split <;> omega
  obtain ⟨cl7, Ar7, qk7, Sz7, Nn7, Hs7, Gs7⟩ := id VD
  have k8 : Goes p e below s₁ F0 s₁ (mkF m 48 #[rv d, rv ta, rv va, iv (1 : Int32), iv (1 : Int32), iv (Int32.ofNat y0)] [(.int ((Int32.ofNat (dl.getD 1 0)) + (1 : Int32))), (.int (Int32.ofNat y0))]) := by
    intro t k
    refine k6 _ ?_
    skip
    refine XS.istore X0.here hx rfl (hb hby dm4_32) rfl (l' := #[rv d, rv ta, rv va, iv (1 : Int32), iv (1 : Int32), iv (Int32.ofNat y0)]) rfl ?_
    refine XS.iload X0.here hx rfl (hb hby dm4_34) rfl ?_
    refine XS.aloadN X0.here hx rfl (hb hby dm4_36) rfl rfl ?_
    refine XS.iloadN X0.here hx rfl (hb hby dm4_37) rfl ?_
    refine XS.iconst X0.here hx rfl (hb hby dm4_38) ?_
    refine XS.isub X0.here hx rfl (hb hby dm4_39) rfl ?_
    refine XS.iconst X0.here hx rfl (hb hby dm4_40) ?_
    refine XS.imul X0.here hx rfl (hb hby dm4_41) rfl ?_
    refine XS.iload X0.here hx rfl (hb hby dm4_42) rfl ?_
    refine XS.iadd X0.here hx rfl (hb hby dm4_44) rfl ?_
    refine X0.iaload hx (j := (1 : Int32)) (v := (.int (Int32.ofNat (dl.getD 1 0)))) (by rw [e0]; exact Ar7.1) (State.isArrayOf_alike hZ.alike Ar7.2.1) Ar7.2.2 (inb_of Sz7 (by decide)) (Has.at Hs7 (inb_of Sz7 (by decide)) (own_getI dl 1)) (g := (mkF m 45 #[rv d, rv ta, rv va, iv (1 : Int32), iv (1 : Int32), iv (Int32.ofNat y0)] [(.int (1 : Int32)), (.ref d), (.int (Int32.ofNat y0))])) rfl rfl (hb hby dm4_45) _ ?_
    refine XS.iconst X0.here hx rfl (hb hby dm4_46) ?_
    refine XS.iadd X0.here hx rfl (hb hby dm4_47) rfl ?_
    exact k
  rw [show ((Int32.ofNat (dl.getD 1 0)) + (1 : Int32)) = (Int32.ofNat ((dl.getD 1 0) + 1)) from own_add1 _] at k8
  obtain ⟨_, _, ⟨T9, L9, ck9, nk9⟩, -, X9, ⟨Lc9, hQ9, l9, y9, z9⟩, st9⟩ := Jvm.LawKit.callS X0 hx (y := (⟨"java/lang/Math", "min", "(II)I"⟩ : MethodName)) hown (mvT hZ (own_q hw 72 rfl)) (mvT hZ (own_q hw 73 rfl)) (mvT hZ (own_q hw 74 rfl)) (mvT hZ (own_q hw 75 rfl)) (by decide) (backOf (W := 0) (rmMin l Z a0 hw [] (Int32.ofNat y0) (Int32.ofNat ((dl.getD 1 0) + 1)) h0 n0 Z0) hZ (own_q hw 75 rfl) (own_q hw 74 rfl) (by decide) (by decide)) (g := (mkF m 48 #[rv d, rv ta, rv va, iv (1 : Int32), iv (1 : Int32), iv (Int32.ofNat y0)] [(.int (Int32.ofNat ((dl.getD 1 0) + 1))), (.int (Int32.ofNat y0))])) rfl (by rw [hml]; rfl) (argsL := [(.int (Int32.ofNat y0)), (.int (Int32.ofNat ((dl.getD 1 0) + 1)))]) (rest := []) (lenOf pd_0 rfl) rfl (by show 2 * 0 + _ ≤ _; exact Nat.le_of_eq rfl) (hb hby dm4_48) (fun _ _ => ⟨rfl, e0, (by decide : 0 + 0 ≤ _), (by decide : 0 + 0 ≤ _)⟩)
  dsimp only [Pt.U, Pt.locs, Pt.cells, Pt.slots] at X9 l9 y9 z9 st9 hQ9
  subst l9 y9 z9
  obtain ⟨rfl, N9q, e9⟩ := hQ9
  have N9 := Fr.app N0 N9q
  have k9 : Goes p e below s₁ F0 T9 (mkF m 51 #[rv d, rv ta, rv va, iv (1 : Int32), iv (1 : Int32), iv (Int32.ofNat y0)] [(.int (own_min (Int32.ofNat y0) (Int32.ofNat ((dl.getD 1 0) + 1))))]) := fun t k => k8 t (st9 _ k)
  rw [show (own_min (Int32.ofNat y0) (Int32.ofNat ((dl.getD 1 0) + 1))) = (Int32.ofNat (min y0 ((dl.getD 1 0) + 1))) from own_minN (by omega) (by omega)] at k9
  obtain ⟨y1, ey1⟩ : ∃ z : Nat, z = (min y0 ((dl.getD 1 0) + 1)) := ⟨_, rfl⟩
  rw [← ey1] at k9
  have hy1 : y1 ≤ B + 1 := by rw [ey1]; omega
  obtain ⟨cl10, Ar10, qk10, Sz10, Nn10, Hs10, Gs10⟩ := id VD
  have k11 : Goes p e below s₁ F0 T9 (mkF m 67 #[rv d, rv ta, rv va, iv (1 : Int32), iv (1 : Int32), iv (Int32.ofNat y1)] [(.int ((Int32.ofNat (dl.getD 4 0)) + (1 : Int32))), (.int (Int32.ofNat y1))]) := by
    intro t k
    refine k9 _ ?_
    skip
    refine XS.istore X9.here hx rfl (hb hby dm4_51) rfl (l' := #[rv d, rv ta, rv va, iv (1 : Int32), iv (1 : Int32), iv (Int32.ofNat y1)]) rfl ?_
    refine XS.iload X9.here hx rfl (hb hby dm4_53) rfl ?_
    refine XS.aloadN X9.here hx rfl (hb hby dm4_55) rfl rfl ?_
    refine XS.iloadN X9.here hx rfl (hb hby dm4_56) rfl ?_
    refine XS.iconst X9.here hx rfl (hb hby dm4_57) ?_
    refine XS.imul X9.here hx rfl (hb hby dm4_58) rfl ?_
    refine XS.iload X9.here hx rfl (hb hby dm4_59) rfl ?_
    refine XS.iadd X9.here hx rfl (hb hby dm4_61) rfl ?_
    refine XS.iconst X9.here hx rfl (hb hby dm4_62) ?_
    refine XS.isub X9.here hx rfl (hb hby dm4_63) rfl ?_
    refine X9.iaload hx (j := (4 : Int32)) (v := (.int (Int32.ofNat (dl.getD 4 0)))) (by rw [e9]; exact Ar10.1) (State.isArrayOf_alike hZ.alike Ar10.2.1) Ar10.2.2 (inb_of Sz10 (by decide)) (Has.at Hs10 (inb_of Sz10 (by decide)) (own_getI dl 4)) (g := (mkF m 64 #[rv d, rv ta, rv va, iv (1 : Int32), iv (1 : Int32), iv (Int32.ofNat y1)] [(.int (4 : Int32)), (.ref d), (.int (Int32.ofNat y1))])) rfl rfl (hb hby dm4_64) _ ?_
    refine XS.iconst X9.here hx rfl (hb hby dm4_65) ?_
    refine XS.iadd X9.here hx rfl (hb hby dm4_66) rfl ?_
    exact k
  rw [show ((Int32.ofNat (dl.getD 4 0)) + (1 : Int32)) = (Int32.ofNat ((dl.getD 4 0) + 1)) from own_add1 _] at k11
  obtain ⟨_, _, ⟨T12, L12, ck12, nk12⟩, -, X12, ⟨Lc12, hQ12, l12, y12, z12⟩, st12⟩ := Jvm.LawKit.callS X9 hx (y := (⟨"java/lang/Math", "min", "(II)I"⟩ : MethodName)) hown (mvT hZ (own_q hw 72 rfl)) (mvT hZ (own_q hw 73 rfl)) (mvT hZ (own_q hw 74 rfl)) (mvT hZ (own_q hw 75 rfl)) (by decide) (backOf (W := 0) (rmMin l Z a0 hw [] (Int32.ofNat y1) (Int32.ofNat ((dl.getD 4 0) + 1)) h0 n0 Z0) hZ (own_q hw 75 rfl) (own_q hw 74 rfl) (by decide) (by decide)) (g := (mkF m 67 #[rv d, rv ta, rv va, iv (1 : Int32), iv (1 : Int32), iv (Int32.ofNat y1)] [(.int (Int32.ofNat ((dl.getD 4 0) + 1))), (.int (Int32.ofNat y1))])) rfl (by rw [hml]; rfl) (argsL := [(.int (Int32.ofNat y1)), (.int (Int32.ofNat ((dl.getD 4 0) + 1)))]) (rest := []) (lenOf pd_0 rfl) rfl (by show 2 * 0 + _ ≤ _; exact Nat.le_of_eq rfl) (hb hby dm4_67) (fun _ _ => ⟨rfl, e9, (by decide : 0 + 0 ≤ _), (by decide : 0 + 0 ≤ _)⟩)
  dsimp only [Pt.U, Pt.locs, Pt.cells, Pt.slots] at X12 l12 y12 z12 st12 hQ12
  subst l12 y12 z12
  obtain ⟨rfl, N12q, e12⟩ := hQ12
  have N12 := Fr.app N9 N12q
  have k12 : Goes p e below s₁ F0 T12 (mkF m 70 #[rv d, rv ta, rv va, iv (1 : Int32), iv (1 : Int32), iv (Int32.ofNat y1)] [(.int (own_min (Int32.ofNat y1) (Int32.ofNat ((dl.getD 4 0) + 1))))]) := fun t k => k11 t (st12 _ k)
  rw [show (own_min (Int32.ofNat y1) (Int32.ofNat ((dl.getD 4 0) + 1))) = (Int32.ofNat (min y1 ((dl.getD 4 0) + 1))) from own_minN (by omega) (by omega)] at k12
  obtain ⟨y2, ey2⟩ : ∃ z : Nat, z = (min y1 ((dl.getD 4 0) + 1)) := ⟨_, rfl⟩
  rw [← ey2] at k12
  have hy2 : y2 ≤ B + 1 := by rw [ey2]; omega
  have k13 : Goes p e below s₁ F0 T12 (mkF m 141 #[rv d, rv ta, rv va, iv (1 : Int32), iv (1 : Int32), iv (Int32.ofNat y2)] [(.int (Int32.ofNat y2)), (.int (5 : Int32)), (.ref d)]) := by
    intro t k
    refine k12 _ ?_
    skip
    refine XS.istore X12.here hx rfl (hb hby dm4_70) rfl (l' := #[rv d, rv ta, rv va, iv (1 : Int32), iv (1 : Int32), iv (Int32.ofNat y2)]) rfl ?_
    refine XS.iloadN X12.here hx rfl (hb hby dm4_72) rfl ?_
    refine XS.iconst X12.here hx rfl (hb hby dm4_73) ?_
    refine XS.icmpYes X12.here hx rfl (pc0 := 74) (pc' := 132) rfl (hb hby dm4_74) rfl (flt (by decide)).2.2.2 (by decide) (by decide) ?_
    refine XS.aloadN X12.here hx rfl (hb hby dm4_132) rfl rfl ?_
    refine XS.iloadN X12.here hx rfl (hb hby dm4_133) rfl ?_
    refine XS.iconst X12.here hx rfl (hb hby dm4_134) ?_
    refine XS.imul X12.here hx rfl (hb hby dm4_135) rfl ?_
    refine XS.iload X12.here hx rfl (hb hby dm4_136) rfl ?_
    refine XS.iadd X12.here hx rfl (hb hby dm4_138) rfl ?_
    refine XS.iload X12.here hx rfl (hb hby dm4_139) rfl ?_
    exact k
  have hnew : (own_dc (dl.getD 0 0) (dl.getD 1 0) (dl.getD 4 0) 0 (t0 = v0) (False)) = y2 := by rw [ey2, ey1, ey0]; simp [own_dc]
  obtain ⟨cl14, Ar14, qk14, Sz14, Nn14, Hs14, Gs14⟩ := id VD
  obtain ⟨T15, h15, X15, e15, W15, st15⟩ := stI X12 hx hZ e12 Ar14 (j := (5 : Int32)) (inb_of Sz14 (by decide)) (g := (mkF m 141 #[rv d, rv ta, rv va, iv (1 : Int32), iv (1 : Int32), iv (Int32.ofNat y2)] [(.int (Int32.ofNat y2)), (.int (5 : Int32)), (.ref d)])) rfl rfl (hb hby dm4_141)
  have N15 := Fr.snoc X15 N12 gd
  have V15 : Arv Z h15 d kd .int (16 : Int32) (own_I (dl.set 5 y2)) (.int (0 : Int32)) := by
    rw [← own_setI]
    exact Arv.set Ar14 qk14 Sz14 Nn14 Hs14 Gs14 rfl W15 5 rfl (by rw [own_lenI, hl]; decide)
  have k15 : Goes p e below s₁ F0 T15 (mkF m 142 #[rv d, rv ta, rv va, iv (1 : Int32), iv (1 : Int32), iv (Int32.ofNat y2)] []) := fun t k => k13 t (st15 _ k)
  have Z16 : n0 ≤ h15.size := Nat.le_trans Z0 (Keep.of_wr W15).1
  have kp17 : Keep h0 h15 [d] := ((Keep.refl h0 [d]).wr W15 (Or.inl (List.mem_of_getElem? (i := 0) rfl)))
  subst eF0
  obtain ⟨fs, hr, hrun, hended, hW, hsame⟩ := X15.leave (v := none) (fun h => rfl)
  refine ⟨_, _, k15 _ ?_, hrun, hended, _, _, rfl, ?_, ⟨_, rfl⟩, hW, hsame.mono (Nat.le_of_ble_eq_true rfl) (Nat.le_of_ble_eq_true rfl)⟩
  · exact X15.returnOut hx Bd.returns (hb hby dm4_142) hr
  · show QCe11 Z d ta va kd kt kv dl B t0 t1 t2 v0 v1 v2 h0 n0 _ T15.heap _
    rw [e15]
    exact ⟨rfl, N15, kp17, by rw [hnew]; exact V15⟩
theorem ef_Ce12 (m : MethodId) (x0 : Addr) (x1 : Addr) (x2 : Addr) (x3 : Int32) (x4 : Int32) : entryFrame m #[(.ref x0), (.ref x1), (.ref x2), (.int x3), (.int x4)] 6 = mkF m 0 #[rv x0, rv x1, rv x2, iv x3, iv x4, .unset] [] := by first | (simp [entryFrame, mkF, argsToLocals, Value.category]; done) | rfl
def QCe12 (Z : State) (d : Addr) (ta : Addr) (va : Addr) (kd : ClassId) (kt : ClassId) (kv : ClassId) (dl : List Nat) (B : Nat) (t0 : Int32) (t1 : Int32) (t2 : Int32) (v0 : Int32) (v1 : Int32) (v2 : Int32) (h0 : Heap) (n0 : Nat) (v : Option Value) (h : Heap) (L : List Loc) : Prop := v = none ∧ Fr n0 L ∧ Keep h0 h [d] ∧ Arv Z h d kd .int (16 : Int32) (own_I (dl.set 6 (own_dc (dl.getD 1 0) (dl.getD 2 0) (dl.getD 5 0) 0 (t0 = v1) (False)))) (.int (0 : Int32))
set_option maxRecDepth 65536 in
set_option maxHeartbeats 40000000 in
theorem rmCe12 (l : Launch) (Z : State) (a0 : Array Value) (hw : ∀ d ∈ tables_1, d.before a0 Z = true) (ws : List Jvm.Cond) (d : Addr) (ta : Addr) (va : Addr) (kd : ClassId) (kt : ClassId) (kv : ClassId) (dl : List Nat) (B : Nat) (t0 : Int32) (t1 : Int32) (t2 : Int32) (v0 : Int32) (v1 : Int32) (v2 : Int32) (h0 : Heap) (n0 : Nat) (Z0 : n0 ≤ h0.size) (VD : Arv Z h0 d kd .int (16 : Int32) (own_I dl) (.int (0 : Int32))) (VT : Arv Z h0 ta kt .char (3 : Int32) [(.int t0), (.int t1), (.int t2)] (.int (0 : Int32))) (VW : Arv Z h0 va kv .char (3 : Int32) [(.int v0), (.int v1), (.int v2)] (.int (0 : Int32))) (hl : dl.length = 16) (hB : ∀ k, dl.getD k 0 ≤ B) (hB1 : B ≤ 100) (gd : n0 ≤ d) :
    MetFree l (⟨"com/example/catchment/catchment/linkage/EditDistanceBeyondPinLaw", "cell", "([I[C[CII)V"⟩ : MethodName) (head1 (Jvm.Cond.code (⟨"com/example/catchment/catchment/linkage/EditDistanceBeyondPinLaw", "cell", "([I[C[CII)V"⟩ : MethodName) method_4_code 6 none :: ws) ({ frames := 1, cells := 0, slots := 0, locals := 17 } : Room)) (fun A_ U => A_ = #[(.ref d), (.ref ta), (.ref va), (.int (1 : Int32)), (.int (2 : Int32))] ∧ Z.Warmed39 U.vm ∧ U.heap = h0) (fun _ _ _ _ _ => True) (fun _ U o U' => ∃ v L, o = .returned v ∧ QCe12 Z d ta va kd kt kv dl B t0 t1 t2 v0 v1 v2 h0 n0 v U'.heap L ∧ FrameEnd U o U' L ({ frames := 1, cells := 0, slots := 0, locals := 17 } : Room).cells ({ frames := 1, cells := 0, slots := 0, locals := 17 } : Room).slots) := by
  refine MetFree.of_bodySF (plainFor_of_name pn_0) hisR ?_
  intro p e s m args below meth c s₁ Bd hml0 hP hK
  obtain ⟨rfl, hZ, hh⟩ := hP
  have hx := Bd.exec
  have hby := Bd.bytes
  have hml : c.maxLocals = 6 := hml0
  have hown : s.vm.findClass "com/example/catchment/catchment/linkage/EditDistanceBeyondPinLaw" = some m.cls := findClass_of_methodNamed Bd.named
  have hnm := (name_of_methodNamed Bd.named Bd.method).1
  have X0 : Stand p l e ({ frames := 1, cells := 0, slots := 0, locals := 17 } : Room) s m #[(.ref d), (.ref ta), (.ref va), (.int (1 : Int32)), (.int (2 : Int32))] below meth c s₁ [] 0 0 := Stand.of_body Bd
  have e0 : s₁.heap = h0 := by rw [← hh, Bd.state]; rfl
  have N0 := Fr.nil n0
  obtain ⟨F0, eF0⟩ : ∃ f : JFrame, f = entryFrame m #[(.ref d), (.ref ta), (.ref va), (.int (1 : Int32)), (.int (2 : Int32))] 6 := ⟨_, rfl⟩
  have k0 : Goes p e below s₁ F0 s₁ (mkF m 0 #[rv d, rv ta, rv va, iv (1 : Int32), iv (2 : Int32), .unset] []) := fun t k => by subst eF0; exact castTop (ef_Ce12 m d ta va ((1 : Int32)) ((2 : Int32))) k
  have hb1 := hB 1
  have hb2 := hB 2
  have hb5 := hB 5
  obtain ⟨cl1, Ar1, qk1, Sz1, Nn1, Hs1, Gs1⟩ := id VD
  obtain ⟨cl2, Ar2, qk2, Sz2, Nn2, Hs2, Gs2⟩ := id VT
  obtain ⟨cl3, Ar3, qk3, Sz3, Nn3, Hs3, Gs3⟩ := id VW
  obtain ⟨c0, eq_c0⟩ : ∃ z : Int32, z = (if t0 = v1 then (0 : Int32) else (1 : Int32)) := ⟨_, rfl⟩
  have k5 : Goes p e below s₁ F0 s₁ (mkF m 31 #[rv d, rv ta, rv va, iv (1 : Int32), iv (2 : Int32), .unset] [(.int c0), (.int (Int32.ofNat (dl.getD 1 0)))]) := by
    intro t k
    refine k0 _ ?_
    skip
    refine XS.aloadN X0.here hx rfl (hb hby dm4_0) rfl rfl ?_
    refine XS.iloadN X0.here hx rfl (hb hby dm4_1) rfl ?_
    refine XS.iconst X0.here hx rfl (hb hby dm4_2) ?_
    refine XS.isub X0.here hx rfl (hb hby dm4_3) rfl ?_
    refine XS.iconst X0.here hx rfl (hb hby dm4_4) ?_
    refine XS.imul X0.here hx rfl (hb hby dm4_5) rfl ?_
    refine XS.iload X0.here hx rfl (hb hby dm4_6) rfl ?_
    refine XS.iadd X0.here hx rfl (hb hby dm4_8) rfl ?_
    refine XS.iconst X0.here hx rfl (hb hby dm4_9) ?_
    refine XS.isub X0.here hx rfl (hb hby dm4_10) rfl ?_
    refine X0.iaload hx (j := (1 : Int32)) (v := (.int (Int32.ofNat (dl.getD 1 0)))) (by rw [e0]; exact Ar1.1) (State.isArrayOf_alike hZ.alike Ar1.2.1) Ar1.2.2 (inb_of Sz1 (by decide)) (Has.at Hs1 (inb_of Sz1 (by decide)) (own_getI dl 1)) (g := (mkF m 11 #[rv d, rv ta, rv va, iv (1 : Int32), iv (2 : Int32), .unset] [(.int (1 : Int32)), (.ref d)])) rfl rfl (hb hby dm4_11) _ ?_
    refine XS.aloadN X0.here hx rfl (hb hby dm4_12) rfl rfl ?_
    refine XS.iloadN X0.here hx rfl (hb hby dm4_13) rfl ?_
    refine XS.iconst X0.here hx rfl (hb hby dm4_14) ?_
    refine XS.isub X0.here hx rfl (hb hby dm4_15) rfl ?_
    refine X0.caload hx (j := (0 : Int32)) (v := (.int t0)) (by rw [e0]; exact Ar2.1) (State.isArrayOf_alike hZ.alike Ar2.2.1) Ar2.2.2 (inb_of Sz2 (by decide)) (Has.at Hs2 (inb_of Sz2 (by decide)) rfl) (g := (mkF m 16 #[rv d, rv ta, rv va, iv (1 : Int32), iv (2 : Int32), .unset] [(.int (0 : Int32)), (.ref ta), (.int (Int32.ofNat (dl.getD 1 0)))])) rfl rfl (hb hby dm4_16) _ ?_
    refine XS.aloadN X0.here hx rfl (hb hby dm4_17) rfl rfl ?_
    refine XS.iload X0.here hx rfl (hb hby dm4_18) rfl ?_
    refine XS.iconst X0.here hx rfl (hb hby dm4_20) ?_
    refine XS.isub X0.here hx rfl (hb hby dm4_21) rfl ?_
    refine X0.caload hx (j := (1 : Int32)) (v := (.int v1)) (by rw [e0]; exact Ar3.1) (State.isArrayOf_alike hZ.alike Ar3.2.1) Ar3.2.2 (inb_of Sz3 (by decide)) (Has.at Hs3 (inb_of Sz3 (by decide)) rfl) (g := (mkF m 22 #[rv d, rv ta, rv va, iv (1 : Int32), iv (2 : Int32), .unset] [(.int (1 : Int32)), (.ref va), (.int t0), (.int (Int32.ofNat (dl.getD 1 0)))])) rfl rfl (hb hby dm4_22) _ ?_
    by_cases hc4_23 : t0 = v1
    · rw [show c0 = (0 : Int32) by rw [eq_c0, if_pos hc4_23]] at k
      skip
      refine XS.icmpNo X0.here hx rfl (hb hby dm4_23) rfl (teq hc4_23).2 ?_
      refine XS.iconst X0.here hx rfl (hb hby dm4_26) ?_
      refine XS.goto X0.here hx rfl (pc0 := 27) (pc' := 31) rfl (hb hby dm4_27) (by decide) (by decide) ?_
      exact k
    · rw [show c0 = (1 : Int32) by rw [eq_c0, if_neg hc4_23]] at k
      skip
      refine XS.icmpYes X0.here hx rfl (pc0 := 23) (pc' := 30) rfl (hb hby dm4_23) rfl (feq hc4_23).2 (by decide) (by decide) ?_
      refine XS.iconst X0.here hx rfl (hb hby dm4_30) ?_
      exact k
  have k6 : Goes p e below s₁ F0 s₁ (mkF m 32 #[rv d, rv ta, rv va, iv (1 : Int32), iv (2 : Int32), .unset] [(.int ((Int32.ofNat (dl.getD 1 0)) + c0))]) := by
    intro t k
    refine k5 _ ?_
    skip
    refine XS.iadd X0.here hx rfl (hb hby dm4_31) rfl ?_
    exact k
  rw [eq_c0, own_addb] at k6
  obtain ⟨y0, ey0⟩ : ∃ z : Nat, z = ((dl.getD 1 0) + if t0 = v1 then 0 else 1) := ⟨_, rfl⟩
  rw [← ey0] at k6
  have hy0 : y0 ≤ B + 1 := by rw [ey0]; split <;> omega
  obtain ⟨cl7, Ar7, qk7, Sz7, Nn7, Hs7, Gs7⟩ := id VD
  have k8 : Goes p e below s₁ F0 s₁ (mkF m 48 #[rv d, rv ta, rv va, iv (1 : Int32), iv (2 : Int32), iv (Int32.ofNat y0)] [(.int ((Int32.ofNat (dl.getD 2 0)) + (1 : Int32))), (.int (Int32.ofNat y0))]) := by
    intro t k
    refine k6 _ ?_
    skip
    refine XS.istore X0.here hx rfl (hb hby dm4_32) rfl (l' := #[rv d, rv ta, rv va, iv (1 : Int32), iv (2 : Int32), iv (Int32.ofNat y0)]) rfl ?_
    refine XS.iload X0.here hx rfl (hb hby dm4_34) rfl ?_
    refine XS.aloadN X0.here hx rfl (hb hby dm4_36) rfl rfl ?_
    refine XS.iloadN X0.here hx rfl (hb hby dm4_37) rfl ?_
    refine XS.iconst X0.here hx rfl (hb hby dm4_38) ?_
    refine XS.isub X0.here hx rfl (hb hby dm4_39) rfl ?_
    refine XS.iconst X0.here hx rfl (hb hby dm4_40) ?_
    refine XS.imul X0.here hx rfl (hb hby dm4_41) rfl ?_
    refine XS.iload X0.here hx rfl (hb hby dm4_42) rfl ?_
    refine XS.iadd X0.here hx rfl (hb hby dm4_44) rfl ?_
    refine X0.iaload hx (j := (2 : Int32)) (v := (.int (Int32.ofNat (dl.getD 2 0)))) (by rw [e0]; exact Ar7.1) (State.isArrayOf_alike hZ.alike Ar7.2.1) Ar7.2.2 (inb_of Sz7 (by decide)) (Has.at Hs7 (inb_of Sz7 (by decide)) (own_getI dl 2)) (g := (mkF m 45 #[rv d, rv ta, rv va, iv (1 : Int32), iv (2 : Int32), iv (Int32.ofNat y0)] [(.int (2 : Int32)), (.ref d), (.int (Int32.ofNat y0))])) rfl rfl (hb hby dm4_45) _ ?_
    refine XS.iconst X0.here hx rfl (hb hby dm4_46) ?_
    refine XS.iadd X0.here hx rfl (hb hby dm4_47) rfl ?_
    exact k
  rw [show ((Int32.ofNat (dl.getD 2 0)) + (1 : Int32)) = (Int32.ofNat ((dl.getD 2 0) + 1)) from own_add1 _] at k8
  obtain ⟨_, _, ⟨T9, L9, ck9, nk9⟩, -, X9, ⟨Lc9, hQ9, l9, y9, z9⟩, st9⟩ := Jvm.LawKit.callS X0 hx (y := (⟨"java/lang/Math", "min", "(II)I"⟩ : MethodName)) hown (mvT hZ (own_q hw 72 rfl)) (mvT hZ (own_q hw 73 rfl)) (mvT hZ (own_q hw 74 rfl)) (mvT hZ (own_q hw 75 rfl)) (by decide) (backOf (W := 0) (rmMin l Z a0 hw [] (Int32.ofNat y0) (Int32.ofNat ((dl.getD 2 0) + 1)) h0 n0 Z0) hZ (own_q hw 75 rfl) (own_q hw 74 rfl) (by decide) (by decide)) (g := (mkF m 48 #[rv d, rv ta, rv va, iv (1 : Int32), iv (2 : Int32), iv (Int32.ofNat y0)] [(.int (Int32.ofNat ((dl.getD 2 0) + 1))), (.int (Int32.ofNat y0))])) rfl (by rw [hml]; rfl) (argsL := [(.int (Int32.ofNat y0)), (.int (Int32.ofNat ((dl.getD 2 0) + 1)))]) (rest := []) (lenOf pd_0 rfl) rfl (by show 2 * 0 + _ ≤ _; exact Nat.le_of_eq rfl) (hb hby dm4_48) (fun _ _ => ⟨rfl, e0, (by decide : 0 + 0 ≤ _), (by decide : 0 + 0 ≤ _)⟩)
  dsimp only [Pt.U, Pt.locs, Pt.cells, Pt.slots] at X9 l9 y9 z9 st9 hQ9
  subst l9 y9 z9
  obtain ⟨rfl, N9q, e9⟩ := hQ9
  have N9 := Fr.app N0 N9q
  have k9 : Goes p e below s₁ F0 T9 (mkF m 51 #[rv d, rv ta, rv va, iv (1 : Int32), iv (2 : Int32), iv (Int32.ofNat y0)] [(.int (own_min (Int32.ofNat y0) (Int32.ofNat ((dl.getD 2 0) + 1))))]) := fun t k => k8 t (st9 _ k)
  rw [show (own_min (Int32.ofNat y0) (Int32.ofNat ((dl.getD 2 0) + 1))) = (Int32.ofNat (min y0 ((dl.getD 2 0) + 1))) from own_minN (by omega) (by omega)] at k9
  obtain ⟨y1, ey1⟩ : ∃ z : Nat, z = (min y0 ((dl.getD 2 0) + 1)) := ⟨_, rfl⟩
  rw [← ey1] at k9
  have hy1 : y1 ≤ B + 1 := by rw [ey1]; omega
  obtain ⟨cl10, Ar10, qk10, Sz10, Nn10, Hs10, Gs10⟩ := id VD
  have k11 : Goes p e below s₁ F0 T9 (mkF m 67 #[rv d, rv ta, rv va, iv (1 : Int32), iv (2 : Int32), iv (Int32.ofNat y1)] [(.int ((Int32.ofNat (dl.getD 5 0)) + (1 : Int32))), (.int (Int32.ofNat y1))]) := by
    intro t k
    refine k9 _ ?_
    skip
    refine XS.istore X9.here hx rfl (hb hby dm4_51) rfl (l' := #[rv d, rv ta, rv va, iv (1 : Int32), iv (2 : Int32), iv (Int32.ofNat y1)]) rfl ?_
    refine XS.iload X9.here hx rfl (hb hby dm4_53) rfl ?_
    refine XS.aloadN X9.here hx rfl (hb hby dm4_55) rfl rfl ?_
    refine XS.iloadN X9.here hx rfl (hb hby dm4_56) rfl ?_
    refine XS.iconst X9.here hx rfl (hb hby dm4_57) ?_
    refine XS.imul X9.here hx rfl (hb hby dm4_58) rfl ?_
    refine XS.iload X9.here hx rfl (hb hby dm4_59) rfl ?_
    refine XS.iadd X9.here hx rfl (hb hby dm4_61) rfl ?_
    refine XS.iconst X9.here hx rfl (hb hby dm4_62) ?_
    refine XS.isub X9.here hx rfl (hb hby dm4_63) rfl ?_
    refine X9.iaload hx (j := (5 : Int32)) (v := (.int (Int32.ofNat (dl.getD 5 0)))) (by rw [e9]; exact Ar10.1) (State.isArrayOf_alike hZ.alike Ar10.2.1) Ar10.2.2 (inb_of Sz10 (by decide)) (Has.at Hs10 (inb_of Sz10 (by decide)) (own_getI dl 5)) (g := (mkF m 64 #[rv d, rv ta, rv va, iv (1 : Int32), iv (2 : Int32), iv (Int32.ofNat y1)] [(.int (5 : Int32)), (.ref d), (.int (Int32.ofNat y1))])) rfl rfl (hb hby dm4_64) _ ?_
    refine XS.iconst X9.here hx rfl (hb hby dm4_65) ?_
    refine XS.iadd X9.here hx rfl (hb hby dm4_66) rfl ?_
    exact k
  rw [show ((Int32.ofNat (dl.getD 5 0)) + (1 : Int32)) = (Int32.ofNat ((dl.getD 5 0) + 1)) from own_add1 _] at k11
  obtain ⟨_, _, ⟨T12, L12, ck12, nk12⟩, -, X12, ⟨Lc12, hQ12, l12, y12, z12⟩, st12⟩ := Jvm.LawKit.callS X9 hx (y := (⟨"java/lang/Math", "min", "(II)I"⟩ : MethodName)) hown (mvT hZ (own_q hw 72 rfl)) (mvT hZ (own_q hw 73 rfl)) (mvT hZ (own_q hw 74 rfl)) (mvT hZ (own_q hw 75 rfl)) (by decide) (backOf (W := 0) (rmMin l Z a0 hw [] (Int32.ofNat y1) (Int32.ofNat ((dl.getD 5 0) + 1)) h0 n0 Z0) hZ (own_q hw 75 rfl) (own_q hw 74 rfl) (by decide) (by decide)) (g := (mkF m 67 #[rv d, rv ta, rv va, iv (1 : Int32), iv (2 : Int32), iv (Int32.ofNat y1)] [(.int (Int32.ofNat ((dl.getD 5 0) + 1))), (.int (Int32.ofNat y1))])) rfl (by rw [hml]; rfl) (argsL := [(.int (Int32.ofNat y1)), (.int (Int32.ofNat ((dl.getD 5 0) + 1)))]) (rest := []) (lenOf pd_0 rfl) rfl (by show 2 * 0 + _ ≤ _; exact Nat.le_of_eq rfl) (hb hby dm4_67) (fun _ _ => ⟨rfl, e9, (by decide : 0 + 0 ≤ _), (by decide : 0 + 0 ≤ _)⟩)
  dsimp only [Pt.U, Pt.locs, Pt.cells, Pt.slots] at X12 l12 y12 z12 st12 hQ12
  subst l12 y12 z12
  obtain ⟨rfl, N12q, e12⟩ := hQ12
  have N12 := Fr.app N9 N12q
  have k12 : Goes p e below s₁ F0 T12 (mkF m 70 #[rv d, rv ta, rv va, iv (1 : Int32), iv (2 : Int32), iv (Int32.ofNat y1)] [(.int (own_min (Int32.ofNat y1) (Int32.ofNat ((dl.getD 5 0) + 1))))]) := fun t k => k11 t (st12 _ k)
  rw [show (own_min (Int32.ofNat y1) (Int32.ofNat ((dl.getD 5 0) + 1))) = (Int32.ofNat (min y1 ((dl.getD 5 0) + 1))) from own_minN (by omega) (by omega)] at k12
  obtain ⟨y2, ey2⟩ : ∃ z : Nat, z = (min y1 ((dl.getD 5 0) + 1)) := ⟨_, rfl⟩
  rw [← ey2] at k12
  have hy2 : y2 ≤ B + 1 := by rw [ey2]; omega
  have k13 : Goes p e below s₁ F0 T12 (mkF m 141 #[rv d, rv ta, rv va, iv (1 : Int32), iv (2 : Int32), iv (Int32.ofNat y2)] [(.int (Int32.ofNat y2)), (.int (6 : Int32)), (.ref d)]) := by
    intro t k
    refine k12 _ ?_
    skip
    refine XS.istore X12.here hx rfl (hb hby dm4_70) rfl (l' := #[rv d, rv ta, rv va, iv (1 : Int32), iv (2 : Int32), iv (Int32.ofNat y2)]) rfl ?_
    refine XS.iloadN X12.here hx rfl (hb hby dm4_72) rfl ?_
    refine XS.iconst X12.here hx rfl (hb hby dm4_73) ?_
    refine XS.icmpYes X12.here hx rfl (pc0 := 74) (pc' := 132) rfl (hb hby dm4_74) rfl (flt (by decide)).2.2.2 (by decide) (by decide) ?_
    refine XS.aloadN X12.here hx rfl (hb hby dm4_132) rfl rfl ?_
    refine XS.iloadN X12.here hx rfl (hb hby dm4_133) rfl ?_
    refine XS.iconst X12.here hx rfl (hb hby dm4_134) ?_
    refine XS.imul X12.here hx rfl (hb hby dm4_135) rfl ?_
    refine XS.iload X12.here hx rfl (hb hby dm4_136) rfl ?_
    refine XS.iadd X12.here hx rfl (hb hby dm4_138) rfl ?_
    refine XS.iload X12.here hx rfl (hb hby dm4_139) rfl ?_
    exact k
  have hnew : (own_dc (dl.getD 1 0) (dl.getD 2 0) (dl.getD 5 0) 0 (t0 = v1) (False)) = y2 := by rw [ey2, ey1, ey0]; simp [own_dc]
  obtain ⟨cl14, Ar14, qk14, Sz14, Nn14, Hs14, Gs14⟩ := id VD
  obtain ⟨T15, h15, X15, e15, W15, st15⟩ := stI X12 hx hZ e12 Ar14 (j := (6 : Int32)) (inb_of Sz14 (by decide)) (g := (mkF m 141 #[rv d, rv ta, rv va, iv (1 : Int32), iv (2 : Int32), iv (Int32.ofNat y2)] [(.int (Int32.ofNat y2)), (.int (6 : Int32)), (.ref d)])) rfl rfl (hb hby dm4_141)
  have N15 := Fr.snoc X15 N12 gd
  have V15 : Arv Z h15 d kd .int (16 : Int32) (own_I (dl.set 6 y2)) (.int (0 : Int32)) := by
    rw [← own_setI]
    exact Arv.set Ar14 qk14 Sz14 Nn14 Hs14 Gs14 rfl W15 6 rfl (by rw [own_lenI, hl]; decide)
  have k15 : Goes p e below s₁ F0 T15 (mkF m 142 #[rv d, rv ta, rv va, iv (1 : Int32), iv (2 : Int32), iv (Int32.ofNat y2)] []) := fun t k => k13 t (st15 _ k)
  have Z16 : n0 ≤ h15.size := Nat.le_trans Z0 (Keep.of_wr W15).1
  have kp17 : Keep h0 h15 [d] := ((Keep.refl h0 [d]).wr W15 (Or.inl (List.mem_of_getElem? (i := 0) rfl)))
  subst eF0
  obtain ⟨fs, hr, hrun, hended, hW, hsame⟩ := X15.leave (v := none) (fun h => rfl)
  refine ⟨_, _, k15 _ ?_, hrun, hended, _, _, rfl, ?_, ⟨_, rfl⟩, hW, hsame.mono (Nat.le_of_ble_eq_true rfl) (Nat.le_of_ble_eq_true rfl)⟩
  · exact X15.returnOut hx Bd.returns (hb hby dm4_142) hr
  · show QCe12 Z d ta va kd kt kv dl B t0 t1 t2 v0 v1 v2 h0 n0 _ T15.heap _
    rw [e15]
    exact ⟨rfl, N15, kp17, by rw [hnew]; exact V15⟩
theorem ef_Ce13 (m : MethodId) (x0 : Addr) (x1 : Addr) (x2 : Addr) (x3 : Int32) (x4 : Int32) : entryFrame m #[(.ref x0), (.ref x1), (.ref x2), (.int x3), (.int x4)] 6 = mkF m 0 #[rv x0, rv x1, rv x2, iv x3, iv x4, .unset] [] := by first | (simp [entryFrame, mkF, argsToLocals, Value.category]; done) | rfl
def QCe13 (Z : State) (d : Addr) (ta : Addr) (va : Addr) (kd : ClassId) (kt : ClassId) (kv : ClassId) (dl : List Nat) (B : Nat) (t0 : Int32) (t1 : Int32) (t2 : Int32) (v0 : Int32) (v1 : Int32) (v2 : Int32) (h0 : Heap) (n0 : Nat) (v : Option Value) (h : Heap) (L : List Loc) : Prop := v = none ∧ Fr n0 L ∧ Keep h0 h [d] ∧ Arv Z h d kd .int (16 : Int32) (own_I (dl.set 7 (own_dc (dl.getD 2 0) (dl.getD 3 0) (dl.getD 6 0) 0 (t0 = v2) (False)))) (.int (0 : Int32))
set_option maxRecDepth 65536 in
set_option maxHeartbeats 40000000 in
theorem rmCe13 (l : Launch) (Z : State) (a0 : Array Value) (hw : ∀ d ∈ tables_1, d.before a0 Z = true) (ws : List Jvm.Cond) (d : Addr) (ta : Addr) (va : Addr) (kd : ClassId) (kt : ClassId) (kv : ClassId) (dl : List Nat) (B : Nat) (t0 : Int32) (t1 : Int32) (t2 : Int32) (v0 : Int32) (v1 : Int32) (v2 : Int32) (h0 : Heap) (n0 : Nat) (Z0 : n0 ≤ h0.size) (VD : Arv Z h0 d kd .int (16 : Int32) (own_I dl) (.int (0 : Int32))) (VT : Arv Z h0 ta kt .char (3 : Int32) [(.int t0), (.int t1), (.int t2)] (.int (0 : Int32))) (VW : Arv Z h0 va kv .char (3 : Int32) [(.int v0), (.int v1), (.int v2)] (.int (0 : Int32))) (hl : dl.length = 16) (hB : ∀ k, dl.getD k 0 ≤ B) (hB1 : B ≤ 100) (gd : n0 ≤ d) :
    MetFree l (⟨"com/example/catchment/catchment/linkage/EditDistanceBeyondPinLaw", "cell", "([I[C[CII)V"⟩ : MethodName) (head1 (Jvm.Cond.code (⟨"com/example/catchment/catchment/linkage/EditDistanceBeyondPinLaw", "cell", "([I[C[CII)V"⟩ : MethodName) method_4_code 6 none :: ws) ({ frames := 1, cells := 0, slots := 0, locals := 17 } : Room)) (fun A_ U => A_ = #[(.ref d), (.ref ta), (.ref va), (.int (1 : Int32)), (.int (3 : Int32))] ∧ Z.Warmed39 U.vm ∧ U.heap = h0) (fun _ _ _ _ _ => True) (fun _ U o U' => ∃ v L, o = .returned v ∧ QCe13 Z d ta va kd kt kv dl B t0 t1 t2 v0 v1 v2 h0 n0 v U'.heap L ∧ FrameEnd U o U' L ({ frames := 1, cells := 0, slots := 0, locals := 17 } : Room).cells ({ frames := 1, cells := 0, slots := 0, locals := 17 } : Room).slots) := by
  refine MetFree.of_bodySF (plainFor_of_name pn_0) hisR ?_
  intro p e s m args below meth c s₁ Bd hml0 hP hK
  obtain ⟨rfl, hZ, hh⟩ := hP
  have hx := Bd.exec
  have hby := Bd.bytes
  have hml : c.maxLocals = 6 := hml0
  have hown : s.vm.findClass "com/example/catchment/catchment/linkage/EditDistanceBeyondPinLaw" = some m.cls := findClass_of_methodNamed Bd.named
  have hnm := (name_of_methodNamed Bd.named Bd.method).1
  have X0 : Stand p l e ({ frames := 1, cells := 0, slots := 0, locals := 17 } : Room) s m #[(.ref d), (.ref ta), (.ref va), (.int (1 : Int32)), (.int (3 : Int32))] below meth c s₁ [] 0 0 := Stand.of_body Bd
  have e0 : s₁.heap = h0 := by rw [← hh, Bd.state]; rfl
  have N0 := Fr.nil n0
  obtain ⟨F0, eF0⟩ : ∃ f : JFrame, f = entryFrame m #[(.ref d), (.ref ta), (.ref va), (.int (1 : Int32)), (.int (3 : Int32))] 6 := ⟨_, rfl⟩
  have k0 : Goes p e below s₁ F0 s₁ (mkF m 0 #[rv d, rv ta, rv va, iv (1 : Int32), iv (3 : Int32), .unset] []) := fun t k => by subst eF0; exact castTop (ef_Ce13 m d ta va ((1 : Int32)) ((3 : Int32))) k
  have hb2 := hB 2
  have hb3 := hB 3
  have hb6 := hB 6
  obtain ⟨cl1, Ar1, qk1, Sz1, Nn1, Hs1, Gs1⟩ := id VD
  obtain ⟨cl2, Ar2, qk2, Sz2, Nn2, Hs2, Gs2⟩ := id VT
  obtain ⟨cl3, Ar3, qk3, Sz3, Nn3, Hs3, Gs3⟩ := id VW
  obtain ⟨c0, eq_c0⟩ : ∃ z : Int32, z = (if t0 = v2 then (0 : Int32) else (1 : Int32)) := ⟨_, rfl⟩
  have k5 : Goes p e below s₁ F0 s₁ (mkF m 31 #[rv d, rv ta, rv va, iv (1 : Int32), iv (3 : Int32), .unset] [(.int c0), (.int (Int32.ofNat (dl.getD 2 0)))]) := by
    intro t k
    refine k0 _ ?_
    skip
    refine XS.aloadN X0.here hx rfl (hb hby dm4_0) rfl rfl ?_
    refine XS.iloadN X0.here hx rfl (hb hby dm4_1) rfl ?_
    refine XS.iconst X0.here hx rfl (hb hby dm4_2) ?_
    refine XS.isub X0.here hx rfl (hb hby dm4_3) rfl ?_
    refine XS.iconst X0.here hx rfl (hb hby dm4_4) ?_
    refine XS.imul X0.here hx rfl (hb hby dm4_5) rfl ?_
    refine XS.iload X0.here hx rfl (hb hby dm4_6) rfl ?_
    refine XS.iadd X0.here hx rfl (hb hby dm4_8) rfl ?_
    refine XS.iconst X0.here hx rfl (hb hby dm4_9) ?_
    refine XS.isub X0.here hx rfl (hb hby dm4_10) rfl ?_
    refine X0.iaload hx (j := (2 : Int32)) (v := (.int (Int32.ofNat (dl.getD 2 0)))) (by rw [e0]; exact Ar1.1) (State.isArrayOf_alike hZ.alike Ar1.2.1) Ar1.2.2 (inb_of Sz1 (by decide)) (Has.at Hs1 (inb_of Sz1 (by decide)) (own_getI dl 2)) (g := (mkF m 11 #[rv d, rv ta, rv va, iv (1 : Int32), iv (3 : Int32), .unset] [(.int (2 : Int32)), (.ref d)])) rfl rfl (hb hby dm4_11) _ ?_
    refine XS.aloadN X0.here hx rfl (hb hby dm4_12) rfl rfl ?_
    refine XS.iloadN X0.here hx rfl (hb hby dm4_13) rfl ?_
    refine XS.iconst X0.here hx rfl (hb hby dm4_14) ?_
    refine XS.isub X0.here hx rfl (hb hby dm4_15) rfl ?_
    refine X0.caload hx (j := (0 : Int32)) (v := (.int t0)) (by rw [e0]; exact Ar2.1) (State.isArrayOf_alike hZ.alike Ar2.2.1) Ar2.2.2 (inb_of Sz2 (by decide)) (Has.at Hs2 (inb_of Sz2 (by decide)) rfl) (g := (mkF m 16 #[rv d, rv ta, rv va, iv (1 : Int32), iv (3 : Int32), .unset] [(.int (0 : Int32)), (.ref ta), (.int (Int32.ofNat (dl.getD 2 0)))])) rfl rfl (hb hby dm4_16) _ ?_
    refine XS.aloadN X0.here hx rfl (hb hby dm4_17) rfl rfl ?_
    refine XS.iload X0.here hx rfl (hb hby dm4_18) rfl ?_
    refine XS.iconst X0.here hx rfl (hb hby dm4_20) ?_
    refine XS.isub X0.here hx rfl (hb hby dm4_21) rfl ?_
    refine X0.caload hx (j := (2 : Int32)) (v := (.int v2)) (by rw [e0]; exact Ar3.1) (State.isArrayOf_alike hZ.alike Ar3.2.1) Ar3.2.2 (inb_of Sz3 (by decide)) (Has.at Hs3 (inb_of Sz3 (by decide)) rfl) (g := (mkF m 22 #[rv d, rv ta, rv va, iv (1 : Int32), iv (3 : Int32), .unset] [(.int (2 : Int32)), (.ref va), (.int t0), (.int (Int32.ofNat (dl.getD 2 0)))])) rfl rfl (hb hby dm4_22) _ ?_
    by_cases hc4_23 : t0 = v2
    · rw [show c0 = (0 : Int32) by rw [eq_c0, if_pos hc4_23]] at k
      skip
      refine XS.icmpNo X0.here hx rfl (hb hby dm4_23) rfl (teq hc4_23).2 ?_
      refine XS.iconst X0.here hx rfl (hb hby dm4_26) ?_
      refine XS.goto X0.here hx rfl (pc0 := 27) (pc' := 31) rfl (hb hby dm4_27) (by decide) (by decide) ?_
      exact k
    · rw [show c0 = (1 : Int32) by rw [eq_c0, if_neg hc4_23]] at k
      skip
      refine XS.icmpYes X0.here hx rfl (pc0 := 23) (pc' := 30) rfl (hb hby dm4_23) rfl (feq hc4_23).2 (by decide) (by decide) ?_
      refine XS.iconst X0.here hx rfl (hb hby dm4_30) ?_
      exact k
  have k6 : Goes p e below s₁ F0 s₁ (mkF m 32 #[rv d, rv ta, rv va, iv (1 : Int32), iv (3 : Int32), .unset] [(.int ((Int32.ofNat (dl.getD 2 0)) + c0))]) := by
    intro t k
    refine k5 _ ?_
    skip
    refine XS.iadd X0.here hx rfl (hb hby dm4_31) rfl ?_
    exact k
  rw [eq_c0, own_addb] at k6
  obtain ⟨y0, ey0⟩ : ∃ z : Nat, z = ((dl.getD 2 0) + if t0 = v2 then 0 else 1) := ⟨_, rfl⟩
  rw [← ey0] at k6
  have hy0 : y0 ≤ B + 1 := by rw [ey0]; split <;> omega
  obtain ⟨cl7, Ar7, qk7, Sz7, Nn7, Hs7, Gs7⟩ := id VD
  have k8 : Goes p e below s₁ F0 s₁ (mkF m 48 #[rv d, rv ta, rv va, iv (1 : Int32), iv (3 : Int32), iv (Int32.ofNat y0)] [(.int ((Int32.ofNat (dl.getD 3 0)) + (1 : Int32))), (.int (Int32.ofNat y0))]) := by
    intro t k
    refine k6 _ ?_
    skip
    refine XS.istore X0.here hx rfl (hb hby dm4_32) rfl (l' := #[rv d, rv ta, rv va, iv (1 : Int32), iv (3 : Int32), iv (Int32.ofNat y0)]) rfl ?_
    refine XS.iload X0.here hx rfl (hb hby dm4_34) rfl ?_
    refine XS.aloadN X0.here hx rfl (hb hby dm4_36) rfl rfl ?_
    refine XS.iloadN X0.here hx rfl (hb hby dm4_37) rfl ?_
    refine XS.iconst X0.here hx rfl (hb hby dm4_38) ?_
    refine XS.isub X0.here hx rfl (hb hby dm4_39) rfl ?_
    refine XS.iconst X0.here hx rfl (hb hby dm4_40) ?_
    refine XS.imul X0.here hx rfl (hb hby dm4_41) rfl ?_
    refine XS.iload X0.here hx rfl (hb hby dm4_42) rfl ?_
    refine XS.iadd X0.here hx rfl (hb hby dm4_44) rfl ?_
    refine X0.iaload hx (j := (3 : Int32)) (v := (.int (Int32.ofNat (dl.getD 3 0)))) (by rw [e0]; exact Ar7.1) (State.isArrayOf_alike hZ.alike Ar7.2.1) Ar7.2.2 (inb_of Sz7 (by decide)) (Has.at Hs7 (inb_of Sz7 (by decide)) (own_getI dl 3)) (g := (mkF m 45 #[rv d, rv ta, rv va, iv (1 : Int32), iv (3 : Int32), iv (Int32.ofNat y0)] [(.int (3 : Int32)), (.ref d), (.int (Int32.ofNat y0))])) rfl rfl (hb hby dm4_45) _ ?_
    refine XS.iconst X0.here hx rfl (hb hby dm4_46) ?_
    refine XS.iadd X0.here hx rfl (hb hby dm4_47) rfl ?_
    exact k
  rw [show ((Int32.ofNat (dl.getD 3 0)) + (1 : Int32)) = (Int32.ofNat ((dl.getD 3 0) + 1)) from own_add1 _] at k8
  obtain ⟨_, _, ⟨T9, L9, ck9, nk9⟩, -, X9, ⟨Lc9, hQ9, l9, y9, z9⟩, st9⟩ := Jvm.LawKit.callS X0 hx (y := (⟨"java/lang/Math", "min", "(II)I"⟩ : MethodName)) hown (mvT hZ (own_q hw 72 rfl)) (mvT hZ (own_q hw 73 rfl)) (mvT hZ (own_q hw 74 rfl)) (mvT hZ (own_q hw 75 rfl)) (by decide) (backOf (W := 0) (rmMin l Z a0 hw [] (Int32.ofNat y0) (Int32.ofNat ((dl.getD 3 0) + 1)) h0 n0 Z0) hZ (own_q hw 75 rfl) (own_q hw 74 rfl) (by decide) (by decide)) (g := (mkF m 48 #[rv d, rv ta, rv va, iv (1 : Int32), iv (3 : Int32), iv (Int32.ofNat y0)] [(.int (Int32.ofNat ((dl.getD 3 0) + 1))), (.int (Int32.ofNat y0))])) rfl (by rw [hml]; rfl) (argsL := [(.int (Int32.ofNat y0)), (.int (Int32.ofNat ((dl.getD 3 0) + 1)))]) (rest := []) (lenOf pd_0 rfl) rfl (by show 2 * 0 + _ ≤ _; exact Nat.le_of_eq rfl) (hb hby dm4_48) (fun _ _ => ⟨rfl, e0, (by decide : 0 + 0 ≤ _), (by decide : 0 + 0 ≤ _)⟩)
  dsimp only [Pt.U, Pt.locs, Pt.cells, Pt.slots] at X9 l9 y9 z9 st9 hQ9
  subst l9 y9 z9
  obtain ⟨rfl, N9q, e9⟩ := hQ9
  have N9 := Fr.app N0 N9q
  have k9 : Goes p e below s₁ F0 T9 (mkF m 51 #[rv d, rv ta, rv va, iv (1 : Int32), iv (3 : Int32), iv (Int32.ofNat y0)] [(.int (own_min (Int32.ofNat y0) (Int32.ofNat ((dl.getD 3 0) + 1))))]) := fun t k => k8 t (st9 _ k)
  rw [show (own_min (Int32.ofNat y0) (Int32.ofNat ((dl.getD 3 0) + 1))) = (Int32.ofNat (min y0 ((dl.getD 3 0) + 1))) from own_minN (by omega) (by omega)] at k9
  obtain ⟨y1, ey1⟩ : ∃ z : Nat, z = (min y0 ((dl.getD 3 0) + 1)) := ⟨_, rfl⟩
  rw [← ey1] at k9
  have hy1 : y1 ≤ B + 1 := by rw [ey1]; omega
  obtain ⟨cl10, Ar10, qk10, Sz10, Nn10, Hs10, Gs10⟩ := id VD
  have k11 : Goes p e below s₁ F0 T9 (mkF m 67 #[rv d, rv ta, rv va, iv (1 : Int32), iv (3 : Int32), iv (Int32.ofNat y1)] [(.int ((Int32.ofNat (dl.getD 6 0)) + (1 : Int32))), (.int (Int32.ofNat y1))]) := by
    intro t k
    refine k9 _ ?_
    skip
    refine XS.istore X9.here hx rfl (hb hby dm4_51) rfl (l' := #[rv d, rv ta, rv va, iv (1 : Int32), iv (3 : Int32), iv (Int32.ofNat y1)]) rfl ?_
    refine XS.iload X9.here hx rfl (hb hby dm4_53) rfl ?_
    refine XS.aloadN X9.here hx rfl (hb hby dm4_55) rfl rfl ?_
    refine XS.iloadN X9.here hx rfl (hb hby dm4_56) rfl ?_
    refine XS.iconst X9.here hx rfl (hb hby dm4_57) ?_
    refine XS.imul X9.here hx rfl (hb hby dm4_58) rfl ?_
    refine XS.iload X9.here hx rfl (hb hby dm4_59) rfl ?_
    refine XS.iadd X9.here hx rfl (hb hby dm4_61) rfl ?_
    refine XS.iconst X9.here hx rfl (hb hby dm4_62) ?_
    refine XS.isub X9.here hx rfl (hb hby dm4_63) rfl ?_
    refine X9.iaload hx (j := (6 : Int32)) (v := (.int (Int32.ofNat (dl.getD 6 0)))) (by rw [e9]; exact Ar10.1) (State.isArrayOf_alike hZ.alike Ar10.2.1) Ar10.2.2 (inb_of Sz10 (by decide)) (Has.at Hs10 (inb_of Sz10 (by decide)) (own_getI dl 6)) (g := (mkF m 64 #[rv d, rv ta, rv va, iv (1 : Int32), iv (3 : Int32), iv (Int32.ofNat y1)] [(.int (6 : Int32)), (.ref d), (.int (Int32.ofNat y1))])) rfl rfl (hb hby dm4_64) _ ?_
    refine XS.iconst X9.here hx rfl (hb hby dm4_65) ?_
    refine XS.iadd X9.here hx rfl (hb hby dm4_66) rfl ?_
    exact k
  rw [show ((Int32.ofNat (dl.getD 6 0)) + (1 : Int32)) = (Int32.ofNat ((dl.getD 6 0) + 1)) from own_add1 _] at k11
  obtain ⟨_, _, ⟨T12, L12, ck12, nk12⟩, -, X12, ⟨Lc12, hQ12, l12, y12, z12⟩, st12⟩ := Jvm.LawKit.callS X9 hx (y := (⟨"java/lang/Math", "min", "(II)I"⟩ : MethodName)) hown (mvT hZ (own_q hw 72 rfl)) (mvT hZ (own_q hw 73 rfl)) (mvT hZ (own_q hw 74 rfl)) (mvT hZ (own_q hw 75 rfl)) (by decide) (backOf (W := 0) (rmMin l Z a0 hw [] (Int32.ofNat y1) (Int32.ofNat ((dl.getD 6 0) + 1)) h0 n0 Z0) hZ (own_q hw 75 rfl) (own_q hw 74 rfl) (by decide) (by decide)) (g := (mkF m 67 #[rv d, rv ta, rv va, iv (1 : Int32), iv (3 : Int32), iv (Int32.ofNat y1)] [(.int (Int32.ofNat ((dl.getD 6 0) + 1))), (.int (Int32.ofNat y1))])) rfl (by rw [hml]; rfl) (argsL := [(.int (Int32.ofNat y1)), (.int (Int32.ofNat ((dl.getD 6 0) + 1)))]) (rest := []) (lenOf pd_0 rfl) rfl (by show 2 * 0 + _ ≤ _; exact Nat.le_of_eq rfl) (hb hby dm4_67) (fun _ _ => ⟨rfl, e9, (by decide : 0 + 0 ≤ _), (by decide : 0 + 0 ≤ _)⟩)
  dsimp only [Pt.U, Pt.locs, Pt.cells, Pt.slots] at X12 l12 y12 z12 st12 hQ12
  subst l12 y12 z12
  obtain ⟨rfl, N12q, e12⟩ := hQ12
  have N12 := Fr.app N9 N12q
  have k12 : Goes p e below s₁ F0 T12 (mkF m 70 #[rv d, rv ta, rv va, iv (1 : Int32), iv (3 : Int32), iv (Int32.ofNat y1)] [(.int (own_min (Int32.ofNat y1) (Int32.ofNat ((dl.getD 6 0) + 1))))]) := fun t k => k11 t (st12 _ k)
  rw [show (own_min (Int32.ofNat y1) (Int32.ofNat ((dl.getD 6 0) + 1))) = (Int32.ofNat (min y1 ((dl.getD 6 0) + 1))) from own_minN (by omega) (by omega)] at k12
  obtain ⟨y2, ey2⟩ : ∃ z : Nat, z = (min y1 ((dl.getD 6 0) + 1)) := ⟨_, rfl⟩
  rw [← ey2] at k12
  have hy2 : y2 ≤ B + 1 := by rw [ey2]; omega
  have k13 : Goes p e below s₁ F0 T12 (mkF m 141 #[rv d, rv ta, rv va, iv (1 : Int32), iv (3 : Int32), iv (Int32.ofNat y2)] [(.int (Int32.ofNat y2)), (.int (7 : Int32)), (.ref d)]) := by
    intro t k
    refine k12 _ ?_
    skip
    refine XS.istore X12.here hx rfl (hb hby dm4_70) rfl (l' := #[rv d, rv ta, rv va, iv (1 : Int32), iv (3 : Int32), iv (Int32.ofNat y2)]) rfl ?_
    refine XS.iloadN X12.here hx rfl (hb hby dm4_72) rfl ?_
    refine XS.iconst X12.here hx rfl (hb hby dm4_73) ?_
    refine XS.icmpYes X12.here hx rfl (pc0 := 74) (pc' := 132) rfl (hb hby dm4_74) rfl (flt (by decide)).2.2.2 (by decide) (by decide) ?_
    refine XS.aloadN X12.here hx rfl (hb hby dm4_132) rfl rfl ?_
    refine XS.iloadN X12.here hx rfl (hb hby dm4_133) rfl ?_
    refine XS.iconst X12.here hx rfl (hb hby dm4_134) ?_
    refine XS.imul X12.here hx rfl (hb hby dm4_135) rfl ?_
    refine XS.iload X12.here hx rfl (hb hby dm4_136) rfl ?_
    refine XS.iadd X12.here hx rfl (hb hby dm4_138) rfl ?_
    refine XS.iload X12.here hx rfl (hb hby dm4_139) rfl ?_
    exact k
  have hnew : (own_dc (dl.getD 2 0) (dl.getD 3 0) (dl.getD 6 0) 0 (t0 = v2) (False)) = y2 := by rw [ey2, ey1, ey0]; simp [own_dc]
  obtain ⟨cl14, Ar14, qk14, Sz14, Nn14, Hs14, Gs14⟩ := id VD
  obtain ⟨T15, h15, X15, e15, W15, st15⟩ := stI X12 hx hZ e12 Ar14 (j := (7 : Int32)) (inb_of Sz14 (by decide)) (g := (mkF m 141 #[rv d, rv ta, rv va, iv (1 : Int32), iv (3 : Int32), iv (Int32.ofNat y2)] [(.int (Int32.ofNat y2)), (.int (7 : Int32)), (.ref d)])) rfl rfl (hb hby dm4_141)
  have N15 := Fr.snoc X15 N12 gd
  have V15 : Arv Z h15 d kd .int (16 : Int32) (own_I (dl.set 7 y2)) (.int (0 : Int32)) := by
    rw [← own_setI]
    exact Arv.set Ar14 qk14 Sz14 Nn14 Hs14 Gs14 rfl W15 7 rfl (by rw [own_lenI, hl]; decide)
  have k15 : Goes p e below s₁ F0 T15 (mkF m 142 #[rv d, rv ta, rv va, iv (1 : Int32), iv (3 : Int32), iv (Int32.ofNat y2)] []) := fun t k => k13 t (st15 _ k)
  have Z16 : n0 ≤ h15.size := Nat.le_trans Z0 (Keep.of_wr W15).1
  have kp17 : Keep h0 h15 [d] := ((Keep.refl h0 [d]).wr W15 (Or.inl (List.mem_of_getElem? (i := 0) rfl)))
  subst eF0
  obtain ⟨fs, hr, hrun, hended, hW, hsame⟩ := X15.leave (v := none) (fun h => rfl)
  refine ⟨_, _, k15 _ ?_, hrun, hended, _, _, rfl, ?_, ⟨_, rfl⟩, hW, hsame.mono (Nat.le_of_ble_eq_true rfl) (Nat.le_of_ble_eq_true rfl)⟩
  · exact X15.returnOut hx Bd.returns (hb hby dm4_142) hr
  · show QCe13 Z d ta va kd kt kv dl B t0 t1 t2 v0 v1 v2 h0 n0 _ T15.heap _
    rw [e15]
    exact ⟨rfl, N15, kp17, by rw [hnew]; exact V15⟩
theorem ef_Ce21 (m : MethodId) (x0 : Addr) (x1 : Addr) (x2 : Addr) (x3 : Int32) (x4 : Int32) : entryFrame m #[(.ref x0), (.ref x1), (.ref x2), (.int x3), (.int x4)] 6 = mkF m 0 #[rv x0, rv x1, rv x2, iv x3, iv x4, .unset] [] := by first | (simp [entryFrame, mkF, argsToLocals, Value.category]; done) | rfl
def QCe21 (Z : State) (d : Addr) (ta : Addr) (va : Addr) (kd : ClassId) (kt : ClassId) (kv : ClassId) (dl : List Nat) (B : Nat) (t0 : Int32) (t1 : Int32) (t2 : Int32) (v0 : Int32) (v1 : Int32) (v2 : Int32) (h0 : Heap) (n0 : Nat) (v : Option Value) (h : Heap) (L : List Loc) : Prop := v = none ∧ Fr n0 L ∧ Keep h0 h [d] ∧ Arv Z h d kd .int (16 : Int32) (own_I (dl.set 9 (own_dc (dl.getD 4 0) (dl.getD 5 0) (dl.getD 8 0) 0 (t1 = v0) (False)))) (.int (0 : Int32))
set_option maxRecDepth 65536 in
set_option maxHeartbeats 40000000 in
theorem rmCe21 (l : Launch) (Z : State) (a0 : Array Value) (hw : ∀ d ∈ tables_1, d.before a0 Z = true) (ws : List Jvm.Cond) (d : Addr) (ta : Addr) (va : Addr) (kd : ClassId) (kt : ClassId) (kv : ClassId) (dl : List Nat) (B : Nat) (t0 : Int32) (t1 : Int32) (t2 : Int32) (v0 : Int32) (v1 : Int32) (v2 : Int32) (h0 : Heap) (n0 : Nat) (Z0 : n0 ≤ h0.size) (VD : Arv Z h0 d kd .int (16 : Int32) (own_I dl) (.int (0 : Int32))) (VT : Arv Z h0 ta kt .char (3 : Int32) [(.int t0), (.int t1), (.int t2)] (.int (0 : Int32))) (VW : Arv Z h0 va kv .char (3 : Int32) [(.int v0), (.int v1), (.int v2)] (.int (0 : Int32))) (hl : dl.length = 16) (hB : ∀ k, dl.getD k 0 ≤ B) (hB1 : B ≤ 100) (gd : n0 ≤ d) :
    MetFree l (⟨"com/example/catchment/catchment/linkage/EditDistanceBeyondPinLaw", "cell", "([I[C[CII)V"⟩ : MethodName) (head1 (Jvm.Cond.code (⟨"com/example/catchment/catchment/linkage/EditDistanceBeyondPinLaw", "cell", "([I[C[CII)V"⟩ : MethodName) method_4_code 6 none :: ws) ({ frames := 1, cells := 0, slots := 0, locals := 17 } : Room)) (fun A_ U => A_ = #[(.ref d), (.ref ta), (.ref va), (.int (2 : Int32)), (.int (1 : Int32))] ∧ Z.Warmed39 U.vm ∧ U.heap = h0) (fun _ _ _ _ _ => True) (fun _ U o U' => ∃ v L, o = .returned v ∧ QCe21 Z d ta va kd kt kv dl B t0 t1 t2 v0 v1 v2 h0 n0 v U'.heap L ∧ FrameEnd U o U' L ({ frames := 1, cells := 0, slots := 0, locals := 17 } : Room).cells ({ frames := 1, cells := 0, slots := 0, locals := 17 } : Room).slots) := by
  refine MetFree.of_bodySF (plainFor_of_name pn_0) hisR ?_
  intro p e s m args below meth c s₁ Bd hml0 hP hK
  obtain ⟨rfl, hZ, hh⟩ := hP
  have hx := Bd.exec
  have hby := Bd.bytes
  have hml : c.maxLocals = 6 := hml0
  have hown : s.vm.findClass "com/example/catchment/catchment/linkage/EditDistanceBeyondPinLaw" = some m.cls := findClass_of_methodNamed Bd.named
  have hnm := (name_of_methodNamed Bd.named Bd.method).1
  have X0 : Stand p l e ({ frames := 1, cells := 0, slots := 0, locals := 17 } : Room) s m #[(.ref d), (.ref ta), (.ref va), (.int (2 : Int32)), (.int (1 : Int32))] below meth c s₁ [] 0 0 := Stand.of_body Bd
  have e0 : s₁.heap = h0 := by rw [← hh, Bd.state]; rfl
  have N0 := Fr.nil n0
  obtain ⟨F0, eF0⟩ : ∃ f : JFrame, f = entryFrame m #[(.ref d), (.ref ta), (.ref va), (.int (2 : Int32)), (.int (1 : Int32))] 6 := ⟨_, rfl⟩
  have k0 : Goes p e below s₁ F0 s₁ (mkF m 0 #[rv d, rv ta, rv va, iv (2 : Int32), iv (1 : Int32), .unset] []) := fun t k => by subst eF0; exact castTop (ef_Ce21 m d ta va ((2 : Int32)) ((1 : Int32))) k
  have hb8 := hB 8
  have hb4 := hB 4
  have hb5 := hB 5
  obtain ⟨cl1, Ar1, qk1, Sz1, Nn1, Hs1, Gs1⟩ := id VD
  obtain ⟨cl2, Ar2, qk2, Sz2, Nn2, Hs2, Gs2⟩ := id VT
  obtain ⟨cl3, Ar3, qk3, Sz3, Nn3, Hs3, Gs3⟩ := id VW
  obtain ⟨c0, eq_c0⟩ : ∃ z : Int32, z = (if t1 = v0 then (0 : Int32) else (1 : Int32)) := ⟨_, rfl⟩
  have k5 : Goes p e below s₁ F0 s₁ (mkF m 31 #[rv d, rv ta, rv va, iv (2 : Int32), iv (1 : Int32), .unset] [(.int c0), (.int (Int32.ofNat (dl.getD 4 0)))]) := by
    intro t k
    refine k0 _ ?_
    skip
    refine XS.aloadN X0.here hx rfl (hb hby dm4_0) rfl rfl ?_
    refine XS.iloadN X0.here hx rfl (hb hby dm4_1) rfl ?_
    refine XS.iconst X0.here hx rfl (hb hby dm4_2) ?_
    refine XS.isub X0.here hx rfl (hb hby dm4_3) rfl ?_
    refine XS.iconst X0.here hx rfl (hb hby dm4_4) ?_
    refine XS.imul X0.here hx rfl (hb hby dm4_5) rfl ?_
    refine XS.iload X0.here hx rfl (hb hby dm4_6) rfl ?_
    refine XS.iadd X0.here hx rfl (hb hby dm4_8) rfl ?_
    refine XS.iconst X0.here hx rfl (hb hby dm4_9) ?_
    refine XS.isub X0.here hx rfl (hb hby dm4_10) rfl ?_
    refine X0.iaload hx (j := (4 : Int32)) (v := (.int (Int32.ofNat (dl.getD 4 0)))) (by rw [e0]; exact Ar1.1) (State.isArrayOf_alike hZ.alike Ar1.2.1) Ar1.2.2 (inb_of Sz1 (by decide)) (Has.at Hs1 (inb_of Sz1 (by decide)) (own_getI dl 4)) (g := (mkF m 11 #[rv d, rv ta, rv va, iv (2 : Int32), iv (1 : Int32), .unset] [(.int (4 : Int32)), (.ref d)])) rfl rfl (hb hby dm4_11) _ ?_
    refine XS.aloadN X0.here hx rfl (hb hby dm4_12) rfl rfl ?_
    refine XS.iloadN X0.here hx rfl (hb hby dm4_13) rfl ?_
    refine XS.iconst X0.here hx rfl (hb hby dm4_14) ?_
    refine XS.isub X0.here hx rfl (hb hby dm4_15) rfl ?_
    refine X0.caload hx (j := (1 : Int32)) (v := (.int t1)) (by rw [e0]; exact Ar2.1) (State.isArrayOf_alike hZ.alike Ar2.2.1) Ar2.2.2 (inb_of Sz2 (by decide)) (Has.at Hs2 (inb_of Sz2 (by decide)) rfl) (g := (mkF m 16 #[rv d, rv ta, rv va, iv (2 : Int32), iv (1 : Int32), .unset] [(.int (1 : Int32)), (.ref ta), (.int (Int32.ofNat (dl.getD 4 0)))])) rfl rfl (hb hby dm4_16) _ ?_
    refine XS.aloadN X0.here hx rfl (hb hby dm4_17) rfl rfl ?_
    refine XS.iload X0.here hx rfl (hb hby dm4_18) rfl ?_
    refine XS.iconst X0.here hx rfl (hb hby dm4_20) ?_
    refine XS.isub X0.here hx rfl (hb hby dm4_21) rfl ?_
    refine X0.caload hx (j := (0 : Int32)) (v := (.int v0)) (by rw [e0]; exact Ar3.1) (State.isArrayOf_alike hZ.alike Ar3.2.1) Ar3.2.2 (inb_of Sz3 (by decide)) (Has.at Hs3 (inb_of Sz3 (by decide)) rfl) (g := (mkF m 22 #[rv d, rv ta, rv va, iv (2 : Int32), iv (1 : Int32), .unset] [(.int (0 : Int32)), (.ref va), (.int t1), (.int (Int32.ofNat (dl.getD 4 0)))])) rfl rfl (hb hby dm4_22) _ ?_
    by_cases hc4_23 : t1 = v0
    · rw [show c0 = (0 : Int32) by rw [eq_c0, if_pos hc4_23]] at k
      skip
      refine XS.icmpNo X0.here hx rfl (hb hby dm4_23) rfl (teq hc4_23).2 ?_
      refine XS.iconst X0.here hx rfl (hb hby dm4_26) ?_
      refine XS.goto X0.here hx rfl (pc0 := 27) (pc' := 31) rfl (hb hby dm4_27) (by decide) (by decide) ?_
      exact k
    · rw [show c0 = (1 : Int32) by rw [eq_c0, if_neg hc4_23]] at k
      skip
      refine XS.icmpYes X0.here hx rfl (pc0 := 23) (pc' := 30) rfl (hb hby dm4_23) rfl (feq hc4_23).2 (by decide) (by decide) ?_
      refine XS.iconst X0.here hx rfl (hb hby dm4_30) ?_
      exact k
  have k6 : Goes p e below s₁ F0 s₁ (mkF m 32 #[rv d, rv ta, rv va, iv (2 : Int32), iv (1 : Int32), .unset] [(.int ((Int32.ofNat (dl.getD 4 0)) + c0))]) := by
    intro t k
    refine k5 _ ?_
    skip
    refine XS.iadd X0.here hx rfl (hb hby dm4_31) rfl ?_
    exact k
  rw [eq_c0, own_addb] at k6
  obtain ⟨y0, ey0⟩ : ∃ z : Nat, z = ((dl.getD 4 0) + if t1 = v0 then 0 else 1) := ⟨_, rfl⟩
  rw [← ey0] at k6
  have hy0 : y0 ≤ B + 1 := by rw [ey0]; split <;> omega
  obtain ⟨cl7, Ar7, qk7, Sz7, Nn7, Hs7, Gs7⟩ := id VD
  have k8 : Goes p e below s₁ F0 s₁ (mkF m 48 #[rv d, rv ta, rv va, iv (2 : Int32), iv (1 : Int32), iv (Int32.ofNat y0)] [(.int ((Int32.ofNat (dl.getD 5 0)) + (1 : Int32))), (.int (Int32.ofNat y0))]) := by
    intro t k
    refine k6 _ ?_
    skip
    refine XS.istore X0.here hx rfl (hb hby dm4_32) rfl (l' := #[rv d, rv ta, rv va, iv (2 : Int32), iv (1 : Int32), iv (Int32.ofNat y0)]) rfl ?_
    refine XS.iload X0.here hx rfl (hb hby dm4_34) rfl ?_
    refine XS.aloadN X0.here hx rfl (hb hby dm4_36) rfl rfl ?_
    refine XS.iloadN X0.here hx rfl (hb hby dm4_37) rfl ?_
    refine XS.iconst X0.here hx rfl (hb hby dm4_38) ?_
    refine XS.isub X0.here hx rfl (hb hby dm4_39) rfl ?_
    refine XS.iconst X0.here hx rfl (hb hby dm4_40) ?_
    refine XS.imul X0.here hx rfl (hb hby dm4_41) rfl ?_
    refine XS.iload X0.here hx rfl (hb hby dm4_42) rfl ?_
    refine XS.iadd X0.here hx rfl (hb hby dm4_44) rfl ?_
    refine X0.iaload hx (j := (5 : Int32)) (v := (.int (Int32.ofNat (dl.getD 5 0)))) (by rw [e0]; exact Ar7.1) (State.isArrayOf_alike hZ.alike Ar7.2.1) Ar7.2.2 (inb_of Sz7 (by decide)) (Has.at Hs7 (inb_of Sz7 (by decide)) (own_getI dl 5)) (g := (mkF m 45 #[rv d, rv ta, rv va, iv (2 : Int32), iv (1 : Int32), iv (Int32.ofNat y0)] [(.int (5 : Int32)), (.ref d), (.int (Int32.ofNat y0))])) rfl rfl (hb hby dm4_45) _ ?_
    refine XS.iconst X0.here hx rfl (hb hby dm4_46) ?_
    refine XS.iadd X0.here hx rfl (hb hby dm4_47) rfl ?_
    exact k
  rw [show ((Int32.ofNat (dl.getD 5 0)) + (1 : Int32)) = (Int32.ofNat ((dl.getD 5 0) + 1)) from own_add1 _] at k8
  obtain ⟨_, _, ⟨T9, L9, ck9, nk9⟩, -, X9, ⟨Lc9, hQ9, l9, y9, z9⟩, st9⟩ := Jvm.LawKit.callS X0 hx (y := (⟨"java/lang/Math", "min", "(II)I"⟩ : MethodName)) hown (mvT hZ (own_q hw 72 rfl)) (mvT hZ (own_q hw 73 rfl)) (mvT hZ (own_q hw 74 rfl)) (mvT hZ (own_q hw 75 rfl)) (by decide) (backOf (W := 0) (rmMin l Z a0 hw [] (Int32.ofNat y0) (Int32.ofNat ((dl.getD 5 0) + 1)) h0 n0 Z0) hZ (own_q hw 75 rfl) (own_q hw 74 rfl) (by decide) (by decide)) (g := (mkF m 48 #[rv d, rv ta, rv va, iv (2 : Int32), iv (1 : Int32), iv (Int32.ofNat y0)] [(.int (Int32.ofNat ((dl.getD 5 0) + 1))), (.int (Int32.ofNat y0))])) rfl (by rw [hml]; rfl) (argsL := [(.int (Int32.ofNat y0)), (.int (Int32.ofNat ((dl.getD 5 0) + 1)))]) (rest := []) (lenOf pd_0 rfl) rfl (by show 2 * 0 + _ ≤ _; exact Nat.le_of_eq rfl) (hb hby dm4_48) (fun _ _ => ⟨rfl, e0, (by decide : 0 + 0 ≤ _), (by decide : 0 + 0 ≤ _)⟩)
  dsimp only [Pt.U, Pt.locs, Pt.cells, Pt.slots] at X9 l9 y9 z9 st9 hQ9
  subst l9 y9 z9
  obtain ⟨rfl, N9q, e9⟩ := hQ9
  have N9 := Fr.app N0 N9q
  have k9 : Goes p e below s₁ F0 T9 (mkF m 51 #[rv d, rv ta, rv va, iv (2 : Int32), iv (1 : Int32), iv (Int32.ofNat y0)] [(.int (own_min (Int32.ofNat y0) (Int32.ofNat ((dl.getD 5 0) + 1))))]) := fun t k => k8 t (st9 _ k)
  rw [show (own_min (Int32.ofNat y0) (Int32.ofNat ((dl.getD 5 0) + 1))) = (Int32.ofNat (min y0 ((dl.getD 5 0) + 1))) from own_minN (by omega) (by omega)] at k9
  obtain ⟨y1, ey1⟩ : ∃ z : Nat, z = (min y0 ((dl.getD 5 0) + 1)) := ⟨_, rfl⟩
  rw [← ey1] at k9
  have hy1 : y1 ≤ B + 1 := by rw [ey1]; omega
  obtain ⟨cl10, Ar10, qk10, Sz10, Nn10, Hs10, Gs10⟩ := id VD
  have k11 : Goes p e below s₁ F0 T9 (mkF m 67 #[rv d, rv ta, rv va, iv (2 : Int32), iv (1 : Int32), iv (Int32.ofNat y1)] [(.int ((Int32.ofNat (dl.getD 8 0)) + (1 : Int32))), (.int (Int32.ofNat y1))]) := by
    intro t k
    refine k9 _ ?_
    skip
    refine XS.istore X9.here hx rfl (hb hby dm4_51) rfl (l' := #[rv d, rv ta, rv va, iv (2 : Int32), iv (1 : Int32), iv (Int32.ofNat y1)]) rfl ?_
    refine XS.iload X9.here hx rfl (hb hby dm4_53) rfl ?_
    refine XS.aloadN X9.here hx rfl (hb hby dm4_55) rfl rfl ?_
    refine XS.iloadN X9.here hx rfl (hb hby dm4_56) rfl ?_
    refine XS.iconst X9.here hx rfl (hb hby dm4_57) ?_
    refine XS.imul X9.here hx rfl (hb hby dm4_58) rfl ?_
    refine XS.iload X9.here hx rfl (hb hby dm4_59) rfl ?_
    refine XS.iadd X9.here hx rfl (hb hby dm4_61) rfl ?_
    refine XS.iconst X9.here hx rfl (hb hby dm4_62) ?_
    refine XS.isub X9.here hx rfl (hb hby dm4_63) rfl ?_
    refine X9.iaload hx (j := (8 : Int32)) (v := (.int (Int32.ofNat (dl.getD 8 0)))) (by rw [e9]; exact Ar10.1) (State.isArrayOf_alike hZ.alike Ar10.2.1) Ar10.2.2 (inb_of Sz10 (by decide)) (Has.at Hs10 (inb_of Sz10 (by decide)) (own_getI dl 8)) (g := (mkF m 64 #[rv d, rv ta, rv va, iv (2 : Int32), iv (1 : Int32), iv (Int32.ofNat y1)] [(.int (8 : Int32)), (.ref d), (.int (Int32.ofNat y1))])) rfl rfl (hb hby dm4_64) _ ?_
    refine XS.iconst X9.here hx rfl (hb hby dm4_65) ?_
    refine XS.iadd X9.here hx rfl (hb hby dm4_66) rfl ?_
    exact k
  rw [show ((Int32.ofNat (dl.getD 8 0)) + (1 : Int32)) = (Int32.ofNat ((dl.getD 8 0) + 1)) from own_add1 _] at k11
  obtain ⟨_, _, ⟨T12, L12, ck12, nk12⟩, -, X12, ⟨Lc12, hQ12, l12, y12, z12⟩, st12⟩ := Jvm.LawKit.callS X9 hx (y := (⟨"java/lang/Math", "min", "(II)I"⟩ : MethodName)) hown (mvT hZ (own_q hw 72 rfl)) (mvT hZ (own_q hw 73 rfl)) (mvT hZ (own_q hw 74 rfl)) (mvT hZ (own_q hw 75 rfl)) (by decide) (backOf (W := 0) (rmMin l Z a0 hw [] (Int32.ofNat y1) (Int32.ofNat ((dl.getD 8 0) + 1)) h0 n0 Z0) hZ (own_q hw 75 rfl) (own_q hw 74 rfl) (by decide) (by decide)) (g := (mkF m 67 #[rv d, rv ta, rv va, iv (2 : Int32), iv (1 : Int32), iv (Int32.ofNat y1)] [(.int (Int32.ofNat ((dl.getD 8 0) + 1))), (.int (Int32.ofNat y1))])) rfl (by rw [hml]; rfl) (argsL := [(.int (Int32.ofNat y1)), (.int (Int32.ofNat ((dl.getD 8 0) + 1)))]) (rest := []) (lenOf pd_0 rfl) rfl (by show 2 * 0 + _ ≤ _; exact Nat.le_of_eq rfl) (hb hby dm4_67) (fun _ _ => ⟨rfl, e9, (by decide : 0 + 0 ≤ _), (by decide : 0 + 0 ≤ _)⟩)
  dsimp only [Pt.U, Pt.locs, Pt.cells, Pt.slots] at X12 l12 y12 z12 st12 hQ12
  subst l12 y12 z12
  obtain ⟨rfl, N12q, e12⟩ := hQ12
  have N12 := Fr.app N9 N12q
  have k12 : Goes p e below s₁ F0 T12 (mkF m 70 #[rv d, rv ta, rv va, iv (2 : Int32), iv (1 : Int32), iv (Int32.ofNat y1)] [(.int (own_min (Int32.ofNat y1) (Int32.ofNat ((dl.getD 8 0) + 1))))]) := fun t k => k11 t (st12 _ k)
  rw [show (own_min (Int32.ofNat y1) (Int32.ofNat ((dl.getD 8 0) + 1))) = (Int32.ofNat (min y1 ((dl.getD 8 0) + 1))) from own_minN (by omega) (by omega)] at k12
  obtain ⟨y2, ey2⟩ : ∃ z : Nat, z = (min y1 ((dl.getD 8 0) + 1)) := ⟨_, rfl⟩
  rw [← ey2] at k12
  have hy2 : y2 ≤ B + 1 := by rw [ey2]; omega
  have k13 : Goes p e below s₁ F0 T12 (mkF m 141 #[rv d, rv ta, rv va, iv (2 : Int32), iv (1 : Int32), iv (Int32.ofNat y2)] [(.int (Int32.ofNat y2)), (.int (9 : Int32)), (.ref d)]) := by
    intro t k
    refine k12 _ ?_
    skip
    refine XS.istore X12.here hx rfl (hb hby dm4_70) rfl (l' := #[rv d, rv ta, rv va, iv (2 : Int32), iv (1 : Int32), iv (Int32.ofNat y2)]) rfl ?_
    refine XS.iloadN X12.here hx rfl (hb hby dm4_72) rfl ?_
    refine XS.iconst X12.here hx rfl (hb hby dm4_73) ?_
    refine XS.icmpNo X12.here hx rfl (hb hby dm4_74) rfl (tlt (by decide)).2.2.2 ?_
    refine XS.iload X12.here hx rfl (hb hby dm4_77) rfl ?_
    refine XS.iconst X12.here hx rfl (hb hby dm4_79) ?_
    refine XS.icmpYes X12.here hx rfl (pc0 := 80) (pc' := 132) rfl (hb hby dm4_80) rfl (flt (by decide)).2.2.2 (by decide) (by decide) ?_
    refine XS.aloadN X12.here hx rfl (hb hby dm4_132) rfl rfl ?_
    refine XS.iloadN X12.here hx rfl (hb hby dm4_133) rfl ?_
    refine XS.iconst X12.here hx rfl (hb hby dm4_134) ?_
    refine XS.imul X12.here hx rfl (hb hby dm4_135) rfl ?_
    refine XS.iload X12.here hx rfl (hb hby dm4_136) rfl ?_
    refine XS.iadd X12.here hx rfl (hb hby dm4_138) rfl ?_
    refine XS.iload X12.here hx rfl (hb hby dm4_139) rfl ?_
    exact k
  have hnew : (own_dc (dl.getD 4 0) (dl.getD 5 0) (dl.getD 8 0) 0 (t1 = v0) (False)) = y2 := by rw [ey2, ey1, ey0]; simp [own_dc]
  obtain ⟨cl14, Ar14, qk14, Sz14, Nn14, Hs14, Gs14⟩ := id VD
  obtain ⟨T15, h15, X15, e15, W15, st15⟩ := stI X12 hx hZ e12 Ar14 (j := (9 : Int32)) (inb_of Sz14 (by decide)) (g := (mkF m 141 #[rv d, rv ta, rv va, iv (2 : Int32), iv (1 : Int32), iv (Int32.ofNat y2)] [(.int (Int32.ofNat y2)), (.int (9 : Int32)), (.ref d)])) rfl rfl (hb hby dm4_141)
  have N15 := Fr.snoc X15 N12 gd
  have V15 : Arv Z h15 d kd .int (16 : Int32) (own_I (dl.set 9 y2)) (.int (0 : Int32)) := by
    rw [← own_setI]
    exact Arv.set Ar14 qk14 Sz14 Nn14 Hs14 Gs14 rfl W15 9 rfl (by rw [own_lenI, hl]; decide)
  have k15 : Goes p e below s₁ F0 T15 (mkF m 142 #[rv d, rv ta, rv va, iv (2 : Int32), iv (1 : Int32), iv (Int32.ofNat y2)] []) := fun t k => k13 t (st15 _ k)
  have Z16 : n0 ≤ h15.size := Nat.le_trans Z0 (Keep.of_wr W15).1
  have kp17 : Keep h0 h15 [d] := ((Keep.refl h0 [d]).wr W15 (Or.inl (List.mem_of_getElem? (i := 0) rfl)))
  subst eF0
  obtain ⟨fs, hr, hrun, hended, hW, hsame⟩ := X15.leave (v := none) (fun h => rfl)
  refine ⟨_, _, k15 _ ?_, hrun, hended, _, _, rfl, ?_, ⟨_, rfl⟩, hW, hsame.mono (Nat.le_of_ble_eq_true rfl) (Nat.le_of_ble_eq_true rfl)⟩
  · exact X15.returnOut hx Bd.returns (hb hby dm4_142) hr
  · show QCe21 Z d ta va kd kt kv dl B t0 t1 t2 v0 v1 v2 h0 n0 _ T15.heap _
    rw [e15]
    exact ⟨rfl, N15, kp17, by rw [hnew]; exact V15⟩
theorem ef_Ce22 (m : MethodId) (x0 : Addr) (x1 : Addr) (x2 : Addr) (x3 : Int32) (x4 : Int32) : entryFrame m #[(.ref x0), (.ref x1), (.ref x2), (.int x3), (.int x4)] 6 = mkF m 0 #[rv x0, rv x1, rv x2, iv x3, iv x4, .unset] [] := by first | (simp [entryFrame, mkF, argsToLocals, Value.category]; done) | rfl
def QCe22 (Z : State) (d : Addr) (ta : Addr) (va : Addr) (kd : ClassId) (kt : ClassId) (kv : ClassId) (dl : List Nat) (B : Nat) (t0 : Int32) (t1 : Int32) (t2 : Int32) (v0 : Int32) (v1 : Int32) (v2 : Int32) (h0 : Heap) (n0 : Nat) (v : Option Value) (h : Heap) (L : List Loc) : Prop := v = none ∧ Fr n0 L ∧ Keep h0 h [d] ∧ Arv Z h d kd .int (16 : Int32) (own_I (dl.set 10 (own_dc (dl.getD 5 0) (dl.getD 6 0) (dl.getD 9 0) (dl.getD 0 0) (t1 = v1) (t1 = v0 ∧ t0 = v1)))) (.int (0 : Int32))
set_option maxRecDepth 65536 in
set_option maxHeartbeats 40000000 in
theorem rmCe22 (l : Launch) (Z : State) (a0 : Array Value) (hw : ∀ d ∈ tables_1, d.before a0 Z = true) (ws : List Jvm.Cond) (d : Addr) (ta : Addr) (va : Addr) (kd : ClassId) (kt : ClassId) (kv : ClassId) (dl : List Nat) (B : Nat) (t0 : Int32) (t1 : Int32) (t2 : Int32) (v0 : Int32) (v1 : Int32) (v2 : Int32) (h0 : Heap) (n0 : Nat) (Z0 : n0 ≤ h0.size) (VD : Arv Z h0 d kd .int (16 : Int32) (own_I dl) (.int (0 : Int32))) (VT : Arv Z h0 ta kt .char (3 : Int32) [(.int t0), (.int t1), (.int t2)] (.int (0 : Int32))) (VW : Arv Z h0 va kv .char (3 : Int32) [(.int v0), (.int v1), (.int v2)] (.int (0 : Int32))) (hl : dl.length = 16) (hB : ∀ k, dl.getD k 0 ≤ B) (hB1 : B ≤ 100) (gd : n0 ≤ d) :
    MetFree l (⟨"com/example/catchment/catchment/linkage/EditDistanceBeyondPinLaw", "cell", "([I[C[CII)V"⟩ : MethodName) (head1 (Jvm.Cond.code (⟨"com/example/catchment/catchment/linkage/EditDistanceBeyondPinLaw", "cell", "([I[C[CII)V"⟩ : MethodName) method_4_code 6 none :: ws) ({ frames := 1, cells := 0, slots := 0, locals := 17 } : Room)) (fun A_ U => A_ = #[(.ref d), (.ref ta), (.ref va), (.int (2 : Int32)), (.int (2 : Int32))] ∧ Z.Warmed39 U.vm ∧ U.heap = h0) (fun _ _ _ _ _ => True) (fun _ U o U' => ∃ v L, o = .returned v ∧ QCe22 Z d ta va kd kt kv dl B t0 t1 t2 v0 v1 v2 h0 n0 v U'.heap L ∧ FrameEnd U o U' L ({ frames := 1, cells := 0, slots := 0, locals := 17 } : Room).cells ({ frames := 1, cells := 0, slots := 0, locals := 17 } : Room).slots) := by
  refine MetFree.of_bodySF (plainFor_of_name pn_0) hisR ?_
  intro p e s m args below meth c s₁ Bd hml0 hP hK
  obtain ⟨rfl, hZ, hh⟩ := hP
  have hx := Bd.exec
  have hby := Bd.bytes
  have hml : c.maxLocals = 6 := hml0
  have hown : s.vm.findClass "com/example/catchment/catchment/linkage/EditDistanceBeyondPinLaw" = some m.cls := findClass_of_methodNamed Bd.named
  have hnm := (name_of_methodNamed Bd.named Bd.method).1
  have X0 : Stand p l e ({ frames := 1, cells := 0, slots := 0, locals := 17 } : Room) s m #[(.ref d), (.ref ta), (.ref va), (.int (2 : Int32)), (.int (2 : Int32))] below meth c s₁ [] 0 0 := Stand.of_body Bd
  have e0 : s₁.heap = h0 := by rw [← hh, Bd.state]; rfl
  have N0 := Fr.nil n0
  obtain ⟨F0, eF0⟩ : ∃ f : JFrame, f = entryFrame m #[(.ref d), (.ref ta), (.ref va), (.int (2 : Int32)), (.int (2 : Int32))] 6 := ⟨_, rfl⟩
  have k0 : Goes p e below s₁ F0 s₁ (mkF m 0 #[rv d, rv ta, rv va, iv (2 : Int32), iv (2 : Int32), .unset] []) := fun t k => by subst eF0; exact castTop (ef_Ce22 m d ta va ((2 : Int32)) ((2 : Int32))) k
  have hb0 := hB 0
  have hb9 := hB 9
  have hb5 := hB 5
  have hb6 := hB 6
  obtain ⟨cl1, Ar1, qk1, Sz1, Nn1, Hs1, Gs1⟩ := id VD
  obtain ⟨cl2, Ar2, qk2, Sz2, Nn2, Hs2, Gs2⟩ := id VT
  obtain ⟨cl3, Ar3, qk3, Sz3, Nn3, Hs3, Gs3⟩ := id VW
  obtain ⟨c0, eq_c0⟩ : ∃ z : Int32, z = (if t1 = v1 then (0 : Int32) else (1 : Int32)) := ⟨_, rfl⟩
  have k5 : Goes p e below s₁ F0 s₁ (mkF m 31 #[rv d, rv ta, rv va, iv (2 : Int32), iv (2 : Int32), .unset] [(.int c0), (.int (Int32.ofNat (dl.getD 5 0)))]) := by
    intro t k
    refine k0 _ ?_
    skip
    refine XS.aloadN X0.here hx rfl (hb hby dm4_0) rfl rfl ?_
    refine XS.iloadN X0.here hx rfl (hb hby dm4_1) rfl ?_
    refine XS.iconst X0.here hx rfl (hb hby dm4_2) ?_
    refine XS.isub X0.here hx rfl (hb hby dm4_3) rfl ?_
    refine XS.iconst X0.here hx rfl (hb hby dm4_4) ?_
    refine XS.imul X0.here hx rfl (hb hby dm4_5) rfl ?_
    refine XS.iload X0.here hx rfl (hb hby dm4_6) rfl ?_
    refine XS.iadd X0.here hx rfl (hb hby dm4_8) rfl ?_
    refine XS.iconst X0.here hx rfl (hb hby dm4_9) ?_
    refine XS.isub X0.here hx rfl (hb hby dm4_10) rfl ?_
    refine X0.iaload hx (j := (5 : Int32)) (v := (.int (Int32.ofNat (dl.getD 5 0)))) (by rw [e0]; exact Ar1.1) (State.isArrayOf_alike hZ.alike Ar1.2.1) Ar1.2.2 (inb_of Sz1 (by decide)) (Has.at Hs1 (inb_of Sz1 (by decide)) (own_getI dl 5)) (g := (mkF m 11 #[rv d, rv ta, rv va, iv (2 : Int32), iv (2 : Int32), .unset] [(.int (5 : Int32)), (.ref d)])) rfl rfl (hb hby dm4_11) _ ?_
    refine XS.aloadN X0.here hx rfl (hb hby dm4_12) rfl rfl ?_
    refine XS.iloadN X0.here hx rfl (hb hby dm4_13) rfl ?_
    refine XS.iconst X0.here hx rfl (hb hby dm4_14) ?_
    refine XS.isub X0.here hx rfl (hb hby dm4_15) rfl ?_
    refine X0.caload hx (j := (1 : Int32)) (v := (.int t1)) (by rw [e0]; exact Ar2.1) (State.isArrayOf_alike hZ.alike Ar2.2.1) Ar2.2.2 (inb_of Sz2 (by decide)) (Has.at Hs2 (inb_of Sz2 (by decide)) rfl) (g := (mkF m 16 #[rv d, rv ta, rv va, iv (2 : Int32), iv (2 : Int32), .unset] [(.int (1 : Int32)), (.ref ta), (.int (Int32.ofNat (dl.getD 5 0)))])) rfl rfl (hb hby dm4_16) _ ?_
    refine XS.aloadN X0.here hx rfl (hb hby dm4_17) rfl rfl ?_
    refine XS.iload X0.here hx rfl (hb hby dm4_18) rfl ?_
    refine XS.iconst X0.here hx rfl (hb hby dm4_20) ?_
    refine XS.isub X0.here hx rfl (hb hby dm4_21) rfl ?_
    refine X0.caload hx (j := (1 : Int32)) (v := (.int v1)) (by rw [e0]; exact Ar3.1) (State.isArrayOf_alike hZ.alike Ar3.2.1) Ar3.2.2 (inb_of Sz3 (by decide)) (Has.at Hs3 (inb_of Sz3 (by decide)) rfl) (g := (mkF m 22 #[rv d, rv ta, rv va, iv (2 : Int32), iv (2 : Int32), .unset] [(.int (1 : Int32)), (.ref va), (.int t1), (.int (Int32.ofNat (dl.getD 5 0)))])) rfl rfl (hb hby dm4_22) _ ?_
    by_cases hc4_23 : t1 = v1
    · rw [show c0 = (0 : Int32) by rw [eq_c0, if_pos hc4_23]] at k
      skip
      refine XS.icmpNo X0.here hx rfl (hb hby dm4_23) rfl (teq hc4_23).2 ?_
      refine XS.iconst X0.here hx rfl (hb hby dm4_26) ?_
      refine XS.goto X0.here hx rfl (pc0 := 27) (pc' := 31) rfl (hb hby dm4_27) (by decide) (by decide) ?_
      exact k
    · rw [show c0 = (1 : Int32) by rw [eq_c0, if_neg hc4_23]] at k
      skip
      refine XS.icmpYes X0.here hx rfl (pc0 := 23) (pc' := 30) rfl (hb hby dm4_23) rfl (feq hc4_23).2 (by decide) (by decide) ?_
      refine XS.iconst X0.here hx rfl (hb hby dm4_30) ?_
      exact k
  have k6 : Goes p e below s₁ F0 s₁ (mkF m 32 #[rv d, rv ta, rv va, iv (2 : Int32), iv (2 : Int32), .unset] [(.int ((Int32.ofNat (dl.getD 5 0)) + c0))]) := by
    intro t k
    refine k5 _ ?_
    skip
    refine XS.iadd X0.here hx rfl (hb hby dm4_31) rfl ?_
    exact k
  rw [eq_c0, own_addb] at k6
  obtain ⟨y0, ey0⟩ : ∃ z : Nat, z = ((dl.getD 5 0) + if t1 = v1 then 0 else 1) := ⟨_, rfl⟩
  rw [← ey0] at k6
  have hy0 : y0 ≤ B + 1 := by rw [ey0]; split <;> omega
  obtain ⟨cl7, Ar7, qk7, Sz7, Nn7, Hs7, Gs7⟩ := id VD
  have k8 : Goes p e below s₁ F0 s₁ (mkF m 48 #[rv d, rv ta, rv va, iv (2 : Int32), iv (2 : Int32), iv (Int32.ofNat y0)] [(.int ((Int32.ofNat (dl.getD 6 0)) + (1 : Int32))), (.int (Int32.ofNat y0))]) := by
    intro t k
    refine k6 _ ?_
    skip
    refine XS.istore X0.here hx rfl (hb hby dm4_32) rfl (l' := #[rv d, rv ta, rv va, iv (2 : Int32), iv (2 : Int32), iv (Int32.ofNat y0)]) rfl ?_
    refine XS.iload X0.here hx rfl (hb hby dm4_34) rfl ?_
    refine XS.aloadN X0.here hx rfl (hb hby dm4_36) rfl rfl ?_
    refine XS.iloadN X0.here hx rfl (hb hby dm4_37) rfl ?_
    refine XS.iconst X0.here hx rfl (hb hby dm4_38) ?_
    refine XS.isub X0.here hx rfl (hb hby dm4_39) rfl ?_
    refine XS.iconst X0.here hx rfl (hb hby dm4_40) ?_
    refine XS.imul X0.here hx rfl (hb hby dm4_41) rfl ?_
    refine XS.iload X0.here hx rfl (hb hby dm4_42) rfl ?_
    refine XS.iadd X0.here hx rfl (hb hby dm4_44) rfl ?_
    refine X0.iaload hx (j := (6 : Int32)) (v := (.int (Int32.ofNat (dl.getD 6 0)))) (by rw [e0]; exact Ar7.1) (State.isArrayOf_alike hZ.alike Ar7.2.1) Ar7.2.2 (inb_of Sz7 (by decide)) (Has.at Hs7 (inb_of Sz7 (by decide)) (own_getI dl 6)) (g := (mkF m 45 #[rv d, rv ta, rv va, iv (2 : Int32), iv (2 : Int32), iv (Int32.ofNat y0)] [(.int (6 : Int32)), (.ref d), (.int (Int32.ofNat y0))])) rfl rfl (hb hby dm4_45) _ ?_
    refine XS.iconst X0.here hx rfl (hb hby dm4_46) ?_
    refine XS.iadd X0.here hx rfl (hb hby dm4_47) rfl ?_
    exact k
  rw [show ((Int32.ofNat (dl.getD 6 0)) + (1 : Int32)) = (Int32.ofNat ((dl.getD 6 0) + 1)) from own_add1 _] at k8
  obtain ⟨_, _, ⟨T9, L9, ck9, nk9⟩, -, X9, ⟨Lc9, hQ9, l9, y9, z9⟩, st9⟩ := Jvm.LawKit.callS X0 hx (y := (⟨"java/lang/Math", "min", "(II)I"⟩ : MethodName)) hown (mvT hZ (own_q hw 72 rfl)) (mvT hZ (own_q hw 73 rfl)) (mvT hZ (own_q hw 74 rfl)) (mvT hZ (own_q hw 75 rfl)) (by decide) (backOf (W := 0) (rmMin l Z a0 hw [] (Int32.ofNat y0) (Int32.ofNat ((dl.getD 6 0) + 1)) h0 n0 Z0) hZ (own_q hw 75 rfl) (own_q hw 74 rfl) (by decide) (by decide)) (g := (mkF m 48 #[rv d, rv ta, rv va, iv (2 : Int32), iv (2 : Int32), iv (Int32.ofNat y0)] [(.int (Int32.ofNat ((dl.getD 6 0) + 1))), (.int (Int32.ofNat y0))])) rfl (by rw [hml]; rfl) (argsL := [(.int (Int32.ofNat y0)), (.int (Int32.ofNat ((dl.getD 6 0) + 1)))]) (rest := []) (lenOf pd_0 rfl) rfl (by show 2 * 0 + _ ≤ _; exact Nat.le_of_eq rfl) (hb hby dm4_48) (fun _ _ => ⟨rfl, e0, (by decide : 0 + 0 ≤ _), (by decide : 0 + 0 ≤ _)⟩)
  dsimp only [Pt.U, Pt.locs, Pt.cells, Pt.slots] at X9 l9 y9 z9 st9 hQ9
  subst l9 y9 z9
  obtain ⟨rfl, N9q, e9⟩ := hQ9
  have N9 := Fr.app N0 N9q
  have k9 : Goes p e below s₁ F0 T9 (mkF m 51 #[rv d, rv ta, rv va, iv (2 : Int32), iv (2 : Int32), iv (Int32.ofNat y0)] [(.int (own_min (Int32.ofNat y0) (Int32.ofNat ((dl.getD 6 0) + 1))))]) := fun t k => k8 t (st9 _ k)
  rw [show (own_min (Int32.ofNat y0) (Int32.ofNat ((dl.getD 6 0) + 1))) = (Int32.ofNat (min y0 ((dl.getD 6 0) + 1))) from own_minN (by omega) (by omega)] at k9
  obtain ⟨y1, ey1⟩ : ∃ z : Nat, z = (min y0 ((dl.getD 6 0) + 1)) := ⟨_, rfl⟩
  rw [← ey1] at k9
  have hy1 : y1 ≤ B + 1 := by rw [ey1]; omega
  obtain ⟨cl10, Ar10, qk10, Sz10, Nn10, Hs10, Gs10⟩ := id VD
  have k11 : Goes p e below s₁ F0 T9 (mkF m 67 #[rv d, rv ta, rv va, iv (2 : Int32), iv (2 : Int32), iv (Int32.ofNat y1)] [(.int ((Int32.ofNat (dl.getD 9 0)) + (1 : Int32))), (.int (Int32.ofNat y1))]) := by
    intro t k
    refine k9 _ ?_
    skip
    refine XS.istore X9.here hx rfl (hb hby dm4_51) rfl (l' := #[rv d, rv ta, rv va, iv (2 : Int32), iv (2 : Int32), iv (Int32.ofNat y1)]) rfl ?_
    refine XS.iload X9.here hx rfl (hb hby dm4_53) rfl ?_
    refine XS.aloadN X9.here hx rfl (hb hby dm4_55) rfl rfl ?_
    refine XS.iloadN X9.here hx rfl (hb hby dm4_56) rfl ?_
    refine XS.iconst X9.here hx rfl (hb hby dm4_57) ?_
    refine XS.imul X9.here hx rfl (hb hby dm4_58) rfl ?_
    refine XS.iload X9.here hx rfl (hb hby dm4_59) rfl ?_
    refine XS.iadd X9.here hx rfl (hb hby dm4_61) rfl ?_
    refine XS.iconst X9.here hx rfl (hb hby dm4_62) ?_
    refine XS.isub X9.here hx rfl (hb hby dm4_63) rfl ?_
    refine X9.iaload hx (j := (9 : Int32)) (v := (.int (Int32.ofNat (dl.getD 9 0)))) (by rw [e9]; exact Ar10.1) (State.isArrayOf_alike hZ.alike Ar10.2.1) Ar10.2.2 (inb_of Sz10 (by decide)) (Has.at Hs10 (inb_of Sz10 (by decide)) (own_getI dl 9)) (g := (mkF m 64 #[rv d, rv ta, rv va, iv (2 : Int32), iv (2 : Int32), iv (Int32.ofNat y1)] [(.int (9 : Int32)), (.ref d), (.int (Int32.ofNat y1))])) rfl rfl (hb hby dm4_64) _ ?_
    refine XS.iconst X9.here hx rfl (hb hby dm4_65) ?_
    refine XS.iadd X9.here hx rfl (hb hby dm4_66) rfl ?_
    exact k
  rw [show ((Int32.ofNat (dl.getD 9 0)) + (1 : Int32)) = (Int32.ofNat ((dl.getD 9 0) + 1)) from own_add1 _] at k11
  obtain ⟨_, _, ⟨T12, L12, ck12, nk12⟩, -, X12, ⟨Lc12, hQ12, l12, y12, z12⟩, st12⟩ := Jvm.LawKit.callS X9 hx (y := (⟨"java/lang/Math", "min", "(II)I"⟩ : MethodName)) hown (mvT hZ (own_q hw 72 rfl)) (mvT hZ (own_q hw 73 rfl)) (mvT hZ (own_q hw 74 rfl)) (mvT hZ (own_q hw 75 rfl)) (by decide) (backOf (W := 0) (rmMin l Z a0 hw [] (Int32.ofNat y1) (Int32.ofNat ((dl.getD 9 0) + 1)) h0 n0 Z0) hZ (own_q hw 75 rfl) (own_q hw 74 rfl) (by decide) (by decide)) (g := (mkF m 67 #[rv d, rv ta, rv va, iv (2 : Int32), iv (2 : Int32), iv (Int32.ofNat y1)] [(.int (Int32.ofNat ((dl.getD 9 0) + 1))), (.int (Int32.ofNat y1))])) rfl (by rw [hml]; rfl) (argsL := [(.int (Int32.ofNat y1)), (.int (Int32.ofNat ((dl.getD 9 0) + 1)))]) (rest := []) (lenOf pd_0 rfl) rfl (by show 2 * 0 + _ ≤ _; exact Nat.le_of_eq rfl) (hb hby dm4_67) (fun _ _ => ⟨rfl, e9, (by decide : 0 + 0 ≤ _), (by decide : 0 + 0 ≤ _)⟩)
  dsimp only [Pt.U, Pt.locs, Pt.cells, Pt.slots] at X12 l12 y12 z12 st12 hQ12
  subst l12 y12 z12
  obtain ⟨rfl, N12q, e12⟩ := hQ12
  have N12 := Fr.app N9 N12q
  have k12 : Goes p e below s₁ F0 T12 (mkF m 70 #[rv d, rv ta, rv va, iv (2 : Int32), iv (2 : Int32), iv (Int32.ofNat y1)] [(.int (own_min (Int32.ofNat y1) (Int32.ofNat ((dl.getD 9 0) + 1))))]) := fun t k => k11 t (st12 _ k)
  rw [show (own_min (Int32.ofNat y1) (Int32.ofNat ((dl.getD 9 0) + 1))) = (Int32.ofNat (min y1 ((dl.getD 9 0) + 1))) from own_minN (by omega) (by omega)] at k12
  obtain ⟨y2, ey2⟩ : ∃ z : Nat, z = (min y1 ((dl.getD 9 0) + 1)) := ⟨_, rfl⟩
  rw [← ey2] at k12
  have hy2 : y2 ≤ B + 1 := by rw [ey2]; omega
  obtain ⟨cl13, Ar13, qk13, Sz13, Nn13, Hs13, Gs13⟩ := id VT
  obtain ⟨cl14, Ar14, qk14, Sz14, Nn14, Hs14, Gs14⟩ := id VW
  have k15 : Goes p e below s₁ F0 T12 (mkF m 94 #[rv d, rv ta, rv va, iv (2 : Int32), iv (2 : Int32), iv (Int32.ofNat y2)] [(.int v0), (.int t1)]) := by
    intro t k
    refine k12 _ ?_
    skip
    refine XS.istore X12.here hx rfl (hb hby dm4_70) rfl (l' := #[rv d, rv ta, rv va, iv (2 : Int32), iv (2 : Int32), iv (Int32.ofNat y2)]) rfl ?_
    refine XS.iloadN X12.here hx rfl (hb hby dm4_72) rfl ?_
    refine XS.iconst X12.here hx rfl (hb hby dm4_73) ?_
    refine XS.icmpNo X12.here hx rfl (hb hby dm4_74) rfl (tlt (by decide)).2.2.2 ?_
    refine XS.iload X12.here hx rfl (hb hby dm4_77) rfl ?_
    refine XS.iconst X12.here hx rfl (hb hby dm4_79) ?_
    refine XS.icmpNo X12.here hx rfl (hb hby dm4_80) rfl (tlt (by decide)).2.2.2 ?_
    refine XS.aloadN X12.here hx rfl (hb hby dm4_83) rfl rfl ?_
    refine XS.iloadN X12.here hx rfl (hb hby dm4_84) rfl ?_
    refine XS.iconst X12.here hx rfl (hb hby dm4_85) ?_
    refine XS.isub X12.here hx rfl (hb hby dm4_86) rfl ?_
    refine X12.caload hx (j := (1 : Int32)) (v := (.int t1)) (by rw [e12]; exact Ar13.1) (State.isArrayOf_alike hZ.alike Ar13.2.1) Ar13.2.2 (inb_of Sz13 (by decide)) (Has.at Hs13 (inb_of Sz13 (by decide)) rfl) (g := (mkF m 87 #[rv d, rv ta, rv va, iv (2 : Int32), iv (2 : Int32), iv (Int32.ofNat y2)] [(.int (1 : Int32)), (.ref ta)])) rfl rfl (hb hby dm4_87) _ ?_
    refine XS.aloadN X12.here hx rfl (hb hby dm4_88) rfl rfl ?_
    refine XS.iload X12.here hx rfl (hb hby dm4_89) rfl ?_
    refine XS.iconst X12.here hx rfl (hb hby dm4_91) ?_
    refine XS.isub X12.here hx rfl (hb hby dm4_92) rfl ?_
    refine X12.caload hx (j := (0 : Int32)) (v := (.int v0)) (by rw [e12]; exact Ar14.1) (State.isArrayOf_alike hZ.alike Ar14.2.1) Ar14.2.2 (inb_of Sz14 (by decide)) (Has.at Hs14 (inb_of Sz14 (by decide)) rfl) (g := (mkF m 93 #[rv d, rv ta, rv va, iv (2 : Int32), iv (2 : Int32), iv (Int32.ofNat y2)] [(.int (0 : Int32)), (.ref va), (.int t1)])) rfl rfl (hb hby dm4_93) _ ?_
    exact k
  by_cases hq1 : t1 = v0
  · obtain ⟨cl16, Ar16, qk16, Sz16, Nn16, Hs16, Gs16⟩ := id VT
    obtain ⟨cl17, Ar17, qk17, Sz17, Nn17, Hs17, Gs17⟩ := id VW
    have k18 : Goes p e below s₁ F0 T12 (mkF m 108 #[rv d, rv ta, rv va, iv (2 : Int32), iv (2 : Int32), iv (Int32.ofNat y2)] [(.int v1), (.int t0)]) := by
      intro t k
      refine k15 _ ?_
      skip
      refine XS.icmpNo X12.here hx rfl (hb hby dm4_94) rfl (teq hq1).2 ?_
      refine XS.aloadN X12.here hx rfl (hb hby dm4_97) rfl rfl ?_
      refine XS.iloadN X12.here hx rfl (hb hby dm4_98) rfl ?_
      refine XS.iconst X12.here hx rfl (hb hby dm4_99) ?_
      refine XS.isub X12.here hx rfl (hb hby dm4_100) rfl ?_
      refine X12.caload hx (j := (0 : Int32)) (v := (.int t0)) (by rw [e12]; exact Ar16.1) (State.isArrayOf_alike hZ.alike Ar16.2.1) Ar16.2.2 (inb_of Sz16 (by decide)) (Has.at Hs16 (inb_of Sz16 (by decide)) rfl) (g := (mkF m 101 #[rv d, rv ta, rv va, iv (2 : Int32), iv (2 : Int32), iv (Int32.ofNat y2)] [(.int (0 : Int32)), (.ref ta)])) rfl rfl (hb hby dm4_101) _ ?_
      refine XS.aloadN X12.here hx rfl (hb hby dm4_102) rfl rfl ?_
      refine XS.iload X12.here hx rfl (hb hby dm4_103) rfl ?_
      refine XS.iconst X12.here hx rfl (hb hby dm4_105) ?_
      refine XS.isub X12.here hx rfl (hb hby dm4_106) rfl ?_
      refine X12.caload hx (j := (1 : Int32)) (v := (.int v1)) (by rw [e12]; exact Ar17.1) (State.isArrayOf_alike hZ.alike Ar17.2.1) Ar17.2.2 (inb_of Sz17 (by decide)) (Has.at Hs17 (inb_of Sz17 (by decide)) rfl) (g := (mkF m 107 #[rv d, rv ta, rv va, iv (2 : Int32), iv (2 : Int32), iv (Int32.ofNat y2)] [(.int (1 : Int32)), (.ref va), (.int t0)])) rfl rfl (hb hby dm4_107) _ ?_
      exact k
    by_cases hq2 : t0 = v1
    · obtain ⟨cl19, Ar19, qk19, Sz19, Nn19, Hs19, Gs19⟩ := id VD
      have k20 : Goes p e below s₁ F0 T12 (mkF m 127 #[rv d, rv ta, rv va, iv (2 : Int32), iv (2 : Int32), iv (Int32.ofNat y2)] [(.int ((Int32.ofNat (dl.getD 0 0)) + (1 : Int32))), (.int (Int32.ofNat y2))]) := by
        intro t k
        refine k18 _ ?_
        skip
        refine XS.icmpNo X12.here hx rfl (hb hby dm4_108) rfl (teq hq2).2 ?_
        refine XS.iload X12.here hx rfl (hb hby dm4_111) rfl ?_
        refine XS.aloadN X12.here hx rfl (hb hby dm4_113) rfl rfl ?_
        refine XS.iloadN X12.here hx rfl (hb hby dm4_114) rfl ?_
        refine XS.iconst X12.here hx rfl (hb hby dm4_115) ?_
        refine XS.isub X12.here hx rfl (hb hby dm4_116) rfl ?_
        refine XS.iconst X12.here hx rfl (hb hby dm4_117) ?_
        refine XS.imul X12.here hx rfl (hb hby dm4_118) rfl ?_
        refine XS.iload X12.here hx rfl (hb hby dm4_119) rfl ?_
        refine XS.iadd X12.here hx rfl (hb hby dm4_121) rfl ?_
        refine XS.iconst X12.here hx rfl (hb hby dm4_122) ?_
        refine XS.isub X12.here hx rfl (hb hby dm4_123) rfl ?_
        refine X12.iaload hx (j := (0 : Int32)) (v := (.int (Int32.ofNat (dl.getD 0 0)))) (by rw [e12]; exact Ar19.1) (State.isArrayOf_alike hZ.alike Ar19.2.1) Ar19.2.2 (inb_of Sz19 (by decide)) (Has.at Hs19 (inb_of Sz19 (by decide)) (own_getI dl 0)) (g := (mkF m 124 #[rv d, rv ta, rv va, iv (2 : Int32), iv (2 : Int32), iv (Int32.ofNat y2)] [(.int (0 : Int32)), (.ref d), (.int (Int32.ofNat y2))])) rfl rfl (hb hby dm4_124) _ ?_
        refine XS.iconst X12.here hx rfl (hb hby dm4_125) ?_
        refine XS.iadd X12.here hx rfl (hb hby dm4_126) rfl ?_
        exact k
      rw [show ((Int32.ofNat (dl.getD 0 0)) + (1 : Int32)) = (Int32.ofNat ((dl.getD 0 0) + 1)) from own_add1 _] at k20
      obtain ⟨_, _, ⟨T21, L21, ck21, nk21⟩, -, X21, ⟨Lc21, hQ21, l21, y21, z21⟩, st21⟩ := Jvm.LawKit.callS X12 hx (y := (⟨"java/lang/Math", "min", "(II)I"⟩ : MethodName)) hown (mvT hZ (own_q hw 72 rfl)) (mvT hZ (own_q hw 73 rfl)) (mvT hZ (own_q hw 74 rfl)) (mvT hZ (own_q hw 75 rfl)) (by decide) (backOf (W := 0) (rmMin l Z a0 hw [] (Int32.ofNat y2) (Int32.ofNat ((dl.getD 0 0) + 1)) h0 n0 Z0) hZ (own_q hw 75 rfl) (own_q hw 74 rfl) (by decide) (by decide)) (g := (mkF m 127 #[rv d, rv ta, rv va, iv (2 : Int32), iv (2 : Int32), iv (Int32.ofNat y2)] [(.int (Int32.ofNat ((dl.getD 0 0) + 1))), (.int (Int32.ofNat y2))])) rfl (by rw [hml]; rfl) (argsL := [(.int (Int32.ofNat y2)), (.int (Int32.ofNat ((dl.getD 0 0) + 1)))]) (rest := []) (lenOf pd_0 rfl) rfl (by show 2 * 0 + _ ≤ _; exact Nat.le_of_eq rfl) (hb hby dm4_127) (fun _ _ => ⟨rfl, e12, (by decide : 0 + 0 ≤ _), (by decide : 0 + 0 ≤ _)⟩)
      dsimp only [Pt.U, Pt.locs, Pt.cells, Pt.slots] at X21 l21 y21 z21 st21 hQ21
      subst l21 y21 z21
      obtain ⟨rfl, N21q, e21⟩ := hQ21
      have N21 := Fr.app N12 N21q
      have k21 : Goes p e below s₁ F0 T21 (mkF m 130 #[rv d, rv ta, rv va, iv (2 : Int32), iv (2 : Int32), iv (Int32.ofNat y2)] [(.int (own_min (Int32.ofNat y2) (Int32.ofNat ((dl.getD 0 0) + 1))))]) := fun t k => k20 t (st21 _ k)
      rw [show (own_min (Int32.ofNat y2) (Int32.ofNat ((dl.getD 0 0) + 1))) = (Int32.ofNat (min y2 ((dl.getD 0 0) + 1))) from own_minN (by omega) (by omega)] at k21
      obtain ⟨y3, ey3⟩ : ∃ z : Nat, z = (min y2 ((dl.getD 0 0) + 1)) := ⟨_, rfl⟩
      rw [← ey3] at k21
      have hy3 : y3 ≤ B + 1 := by rw [ey3]; omega
      have k22 : Goes p e below s₁ F0 T21 (mkF m 141 #[rv d, rv ta, rv va, iv (2 : Int32), iv (2 : Int32), iv (Int32.ofNat y3)] [(.int (Int32.ofNat y3)), (.int (10 : Int32)), (.ref d)]) := by
        intro t k
        refine k21 _ ?_
        skip
        refine XS.istore X21.here hx rfl (hb hby dm4_130) rfl (l' := #[rv d, rv ta, rv va, iv (2 : Int32), iv (2 : Int32), iv (Int32.ofNat y3)]) rfl ?_
        refine XS.aloadN X21.here hx rfl (hb hby dm4_132) rfl rfl ?_
        refine XS.iloadN X21.here hx rfl (hb hby dm4_133) rfl ?_
        refine XS.iconst X21.here hx rfl (hb hby dm4_134) ?_
        refine XS.imul X21.here hx rfl (hb hby dm4_135) rfl ?_
        refine XS.iload X21.here hx rfl (hb hby dm4_136) rfl ?_
        refine XS.iadd X21.here hx rfl (hb hby dm4_138) rfl ?_
        refine XS.iload X21.here hx rfl (hb hby dm4_139) rfl ?_
        exact k
      have hnew : (own_dc (dl.getD 5 0) (dl.getD 6 0) (dl.getD 9 0) (dl.getD 0 0) (t1 = v1) (t1 = v0 ∧ t0 = v1)) = y3 := by rw [ey3, ey2, ey1, ey0, own_dc, if_pos ⟨hq1, hq2⟩]
      obtain ⟨cl23, Ar23, qk23, Sz23, Nn23, Hs23, Gs23⟩ := id VD
      obtain ⟨T24, h24, X24, e24, W24, st24⟩ := stI X21 hx hZ e21 Ar23 (j := (10 : Int32)) (inb_of Sz23 (by decide)) (g := (mkF m 141 #[rv d, rv ta, rv va, iv (2 : Int32), iv (2 : Int32), iv (Int32.ofNat y3)] [(.int (Int32.ofNat y3)), (.int (10 : Int32)), (.ref d)])) rfl rfl (hb hby dm4_141)
      have N24 := Fr.snoc X24 N21 gd
      have V24 : Arv Z h24 d kd .int (16 : Int32) (own_I (dl.set 10 y3)) (.int (0 : Int32)) := by
        rw [← own_setI]
        exact Arv.set Ar23 qk23 Sz23 Nn23 Hs23 Gs23 rfl W24 10 rfl (by rw [own_lenI, hl]; decide)
      have k24 : Goes p e below s₁ F0 T24 (mkF m 142 #[rv d, rv ta, rv va, iv (2 : Int32), iv (2 : Int32), iv (Int32.ofNat y3)] []) := fun t k => k22 t (st24 _ k)
      have Z25 : n0 ≤ h24.size := Nat.le_trans Z0 (Keep.of_wr W24).1
      have kp26 : Keep h0 h24 [d] := ((Keep.refl h0 [d]).wr W24 (Or.inl (List.mem_of_getElem? (i := 0) rfl)))
      subst eF0
      obtain ⟨fs, hr, hrun, hended, hW, hsame⟩ := X24.leave (v := none) (fun h => rfl)
      refine ⟨_, _, k24 _ ?_, hrun, hended, _, _, rfl, ?_, ⟨_, rfl⟩, hW, hsame.mono (Nat.le_of_ble_eq_true rfl) (Nat.le_of_ble_eq_true rfl)⟩
      · exact X24.returnOut hx Bd.returns (hb hby dm4_142) hr
      · show QCe22 Z d ta va kd kt kv dl B t0 t1 t2 v0 v1 v2 h0 n0 _ T24.heap _
        rw [e24]
        exact ⟨rfl, N24, kp26, by rw [hnew]; exact V24⟩
    · have k27 : Goes p e below s₁ F0 T12 (mkF m 141 #[rv d, rv ta, rv va, iv (2 : Int32), iv (2 : Int32), iv (Int32.ofNat y2)] [(.int (Int32.ofNat y2)), (.int (10 : Int32)), (.ref d)]) := by
        intro t k
        refine k18 _ ?_
        skip
        refine XS.icmpYes X12.here hx rfl (pc0 := 108) (pc' := 132) rfl (hb hby dm4_108) rfl (feq hq2).2 (by decide) (by decide) ?_
        refine XS.aloadN X12.here hx rfl (hb hby dm4_132) rfl rfl ?_
        refine XS.iloadN X12.here hx rfl (hb hby dm4_133) rfl ?_
        refine XS.iconst X12.here hx rfl (hb hby dm4_134) ?_
        refine XS.imul X12.here hx rfl (hb hby dm4_135) rfl ?_
        refine XS.iload X12.here hx rfl (hb hby dm4_136) rfl ?_
        refine XS.iadd X12.here hx rfl (hb hby dm4_138) rfl ?_
        refine XS.iload X12.here hx rfl (hb hby dm4_139) rfl ?_
        exact k
      have hnew : (own_dc (dl.getD 5 0) (dl.getD 6 0) (dl.getD 9 0) (dl.getD 0 0) (t1 = v1) (t1 = v0 ∧ t0 = v1)) = y2 := by rw [ey2, ey1, ey0, own_dc, if_neg (fun q => hq2 q.2)]
      obtain ⟨cl28, Ar28, qk28, Sz28, Nn28, Hs28, Gs28⟩ := id VD
      obtain ⟨T29, h29, X29, e29, W29, st29⟩ := stI X12 hx hZ e12 Ar28 (j := (10 : Int32)) (inb_of Sz28 (by decide)) (g := (mkF m 141 #[rv d, rv ta, rv va, iv (2 : Int32), iv (2 : Int32), iv (Int32.ofNat y2)] [(.int (Int32.ofNat y2)), (.int (10 : Int32)), (.ref d)])) rfl rfl (hb hby dm4_141)
      have N29 := Fr.snoc X29 N12 gd
      have V29 : Arv Z h29 d kd .int (16 : Int32) (own_I (dl.set 10 y2)) (.int (0 : Int32)) := by
        rw [← own_setI]
        exact Arv.set Ar28 qk28 Sz28 Nn28 Hs28 Gs28 rfl W29 10 rfl (by rw [own_lenI, hl]; decide)
      have k29 : Goes p e below s₁ F0 T29 (mkF m 142 #[rv d, rv ta, rv va, iv (2 : Int32), iv (2 : Int32), iv (Int32.ofNat y2)] []) := fun t k => k27 t (st29 _ k)
      have Z30 : n0 ≤ h29.size := Nat.le_trans Z0 (Keep.of_wr W29).1
      have kp31 : Keep h0 h29 [d] := ((Keep.refl h0 [d]).wr W29 (Or.inl (List.mem_of_getElem? (i := 0) rfl)))
      subst eF0
      obtain ⟨fs, hr, hrun, hended, hW, hsame⟩ := X29.leave (v := none) (fun h => rfl)
      refine ⟨_, _, k29 _ ?_, hrun, hended, _, _, rfl, ?_, ⟨_, rfl⟩, hW, hsame.mono (Nat.le_of_ble_eq_true rfl) (Nat.le_of_ble_eq_true rfl)⟩
      · exact X29.returnOut hx Bd.returns (hb hby dm4_142) hr
      · show QCe22 Z d ta va kd kt kv dl B t0 t1 t2 v0 v1 v2 h0 n0 _ T29.heap _
        rw [e29]
        exact ⟨rfl, N29, kp31, by rw [hnew]; exact V29⟩
  · have k32 : Goes p e below s₁ F0 T12 (mkF m 141 #[rv d, rv ta, rv va, iv (2 : Int32), iv (2 : Int32), iv (Int32.ofNat y2)] [(.int (Int32.ofNat y2)), (.int (10 : Int32)), (.ref d)]) := by
      intro t k
      refine k15 _ ?_
      skip
      refine XS.icmpYes X12.here hx rfl (pc0 := 94) (pc' := 132) rfl (hb hby dm4_94) rfl (feq hq1).2 (by decide) (by decide) ?_
      refine XS.aloadN X12.here hx rfl (hb hby dm4_132) rfl rfl ?_
      refine XS.iloadN X12.here hx rfl (hb hby dm4_133) rfl ?_
      refine XS.iconst X12.here hx rfl (hb hby dm4_134) ?_
      refine XS.imul X12.here hx rfl (hb hby dm4_135) rfl ?_
      refine XS.iload X12.here hx rfl (hb hby dm4_136) rfl ?_
      refine XS.iadd X12.here hx rfl (hb hby dm4_138) rfl ?_
      refine XS.iload X12.here hx rfl (hb hby dm4_139) rfl ?_
      exact k
    have hnew : (own_dc (dl.getD 5 0) (dl.getD 6 0) (dl.getD 9 0) (dl.getD 0 0) (t1 = v1) (t1 = v0 ∧ t0 = v1)) = y2 := by rw [ey2, ey1, ey0, own_dc, if_neg (fun q => hq1 q.1)]
    obtain ⟨cl33, Ar33, qk33, Sz33, Nn33, Hs33, Gs33⟩ := id VD
    obtain ⟨T34, h34, X34, e34, W34, st34⟩ := stI X12 hx hZ e12 Ar33 (j := (10 : Int32)) (inb_of Sz33 (by decide)) (g := (mkF m 141 #[rv d, rv ta, rv va, iv (2 : Int32), iv (2 : Int32), iv (Int32.ofNat y2)] [(.int (Int32.ofNat y2)), (.int (10 : Int32)), (.ref d)])) rfl rfl (hb hby dm4_141)
    have N34 := Fr.snoc X34 N12 gd
    have V34 : Arv Z h34 d kd .int (16 : Int32) (own_I (dl.set 10 y2)) (.int (0 : Int32)) := by
      rw [← own_setI]
      exact Arv.set Ar33 qk33 Sz33 Nn33 Hs33 Gs33 rfl W34 10 rfl (by rw [own_lenI, hl]; decide)
    have k34 : Goes p e below s₁ F0 T34 (mkF m 142 #[rv d, rv ta, rv va, iv (2 : Int32), iv (2 : Int32), iv (Int32.ofNat y2)] []) := fun t k => k32 t (st34 _ k)
    have Z35 : n0 ≤ h34.size := Nat.le_trans Z0 (Keep.of_wr W34).1
    have kp36 : Keep h0 h34 [d] := ((Keep.refl h0 [d]).wr W34 (Or.inl (List.mem_of_getElem? (i := 0) rfl)))
    subst eF0
    obtain ⟨fs, hr, hrun, hended, hW, hsame⟩ := X34.leave (v := none) (fun h => rfl)
    refine ⟨_, _, k34 _ ?_, hrun, hended, _, _, rfl, ?_, ⟨_, rfl⟩, hW, hsame.mono (Nat.le_of_ble_eq_true rfl) (Nat.le_of_ble_eq_true rfl)⟩
    · exact X34.returnOut hx Bd.returns (hb hby dm4_142) hr
    · show QCe22 Z d ta va kd kt kv dl B t0 t1 t2 v0 v1 v2 h0 n0 _ T34.heap _
      rw [e34]
      exact ⟨rfl, N34, kp36, by rw [hnew]; exact V34⟩
theorem ef_Ce23 (m : MethodId) (x0 : Addr) (x1 : Addr) (x2 : Addr) (x3 : Int32) (x4 : Int32) : entryFrame m #[(.ref x0), (.ref x1), (.ref x2), (.int x3), (.int x4)] 6 = mkF m 0 #[rv x0, rv x1, rv x2, iv x3, iv x4, .unset] [] := by first | (simp [entryFrame, mkF, argsToLocals, Value.category]; done) | rfl
def QCe23 (Z : State) (d : Addr) (ta : Addr) (va : Addr) (kd : ClassId) (kt : ClassId) (kv : ClassId) (dl : List Nat) (B : Nat) (t0 : Int32) (t1 : Int32) (t2 : Int32) (v0 : Int32) (v1 : Int32) (v2 : Int32) (h0 : Heap) (n0 : Nat) (v : Option Value) (h : Heap) (L : List Loc) : Prop := v = none ∧ Fr n0 L ∧ Keep h0 h [d] ∧ Arv Z h d kd .int (16 : Int32) (own_I (dl.set 11 (own_dc (dl.getD 6 0) (dl.getD 7 0) (dl.getD 10 0) (dl.getD 1 0) (t1 = v2) (t1 = v1 ∧ t0 = v2)))) (.int (0 : Int32))
set_option maxRecDepth 65536 in
set_option maxHeartbeats 40000000 in
theorem rmCe23 (l : Launch) (Z : State) (a0 : Array Value) (hw : ∀ d ∈ tables_1, d.before a0 Z = true) (ws : List Jvm.Cond) (d : Addr) (ta : Addr) (va : Addr) (kd : ClassId) (kt : ClassId) (kv : ClassId) (dl : List Nat) (B : Nat) (t0 : Int32) (t1 : Int32) (t2 : Int32) (v0 : Int32) (v1 : Int32) (v2 : Int32) (h0 : Heap) (n0 : Nat) (Z0 : n0 ≤ h0.size) (VD : Arv Z h0 d kd .int (16 : Int32) (own_I dl) (.int (0 : Int32))) (VT : Arv Z h0 ta kt .char (3 : Int32) [(.int t0), (.int t1), (.int t2)] (.int (0 : Int32))) (VW : Arv Z h0 va kv .char (3 : Int32) [(.int v0), (.int v1), (.int v2)] (.int (0 : Int32))) (hl : dl.length = 16) (hB : ∀ k, dl.getD k 0 ≤ B) (hB1 : B ≤ 100) (gd : n0 ≤ d) :
    MetFree l (⟨"com/example/catchment/catchment/linkage/EditDistanceBeyondPinLaw", "cell", "([I[C[CII)V"⟩ : MethodName) (head1 (Jvm.Cond.code (⟨"com/example/catchment/catchment/linkage/EditDistanceBeyondPinLaw", "cell", "([I[C[CII)V"⟩ : MethodName) method_4_code 6 none :: ws) ({ frames := 1, cells := 0, slots := 0, locals := 17 } : Room)) (fun A_ U => A_ = #[(.ref d), (.ref ta), (.ref va), (.int (2 : Int32)), (.int (3 : Int32))] ∧ Z.Warmed39 U.vm ∧ U.heap = h0) (fun _ _ _ _ _ => True) (fun _ U o U' => ∃ v L, o = .returned v ∧ QCe23 Z d ta va kd kt kv dl B t0 t1 t2 v0 v1 v2 h0 n0 v U'.heap L ∧ FrameEnd U o U' L ({ frames := 1, cells := 0, slots := 0, locals := 17 } : Room).cells ({ frames := 1, cells := 0, slots := 0, locals := 17 } : Room).slots) := by
  refine MetFree.of_bodySF (plainFor_of_name pn_0) hisR ?_
  intro p e s m args below meth c s₁ Bd hml0 hP hK
  obtain ⟨rfl, hZ, hh⟩ := hP
  have hx := Bd.exec
  have hby := Bd.bytes
  have hml : c.maxLocals = 6 := hml0
  have hown : s.vm.findClass "com/example/catchment/catchment/linkage/EditDistanceBeyondPinLaw" = some m.cls := findClass_of_methodNamed Bd.named
  have hnm := (name_of_methodNamed Bd.named Bd.method).1
  have X0 : Stand p l e ({ frames := 1, cells := 0, slots := 0, locals := 17 } : Room) s m #[(.ref d), (.ref ta), (.ref va), (.int (2 : Int32)), (.int (3 : Int32))] below meth c s₁ [] 0 0 := Stand.of_body Bd
  have e0 : s₁.heap = h0 := by rw [← hh, Bd.state]; rfl
  have N0 := Fr.nil n0
  obtain ⟨F0, eF0⟩ : ∃ f : JFrame, f = entryFrame m #[(.ref d), (.ref ta), (.ref va), (.int (2 : Int32)), (.int (3 : Int32))] 6 := ⟨_, rfl⟩
  have k0 : Goes p e below s₁ F0 s₁ (mkF m 0 #[rv d, rv ta, rv va, iv (2 : Int32), iv (3 : Int32), .unset] []) := fun t k => by subst eF0; exact castTop (ef_Ce23 m d ta va ((2 : Int32)) ((3 : Int32))) k
  have hb1 := hB 1
  have hb10 := hB 10
  have hb6 := hB 6
  have hb7 := hB 7
  obtain ⟨cl1, Ar1, qk1, Sz1, Nn1, Hs1, Gs1⟩ := id VD
  obtain ⟨cl2, Ar2, qk2, Sz2, Nn2, Hs2, Gs2⟩ := id VT
  obtain ⟨cl3, Ar3, qk3, Sz3, Nn3, Hs3, Gs3⟩ := id VW
  obtain ⟨c0, eq_c0⟩ : ∃ z : Int32, z = (if t1 = v2 then (0 : Int32) else (1 : Int32)) := ⟨_, rfl⟩
  have k5 : Goes p e below s₁ F0 s₁ (mkF m 31 #[rv d, rv ta, rv va, iv (2 : Int32), iv (3 : Int32), .unset] [(.int c0), (.int (Int32.ofNat (dl.getD 6 0)))]) := by
    intro t k
    refine k0 _ ?_
    skip
    refine XS.aloadN X0.here hx rfl (hb hby dm4_0) rfl rfl ?_
    refine XS.iloadN X0.here hx rfl (hb hby dm4_1) rfl ?_
    refine XS.iconst X0.here hx rfl (hb hby dm4_2) ?_
    refine XS.isub X0.here hx rfl (hb hby dm4_3) rfl ?_
    refine XS.iconst X0.here hx rfl (hb hby dm4_4) ?_
    refine XS.imul X0.here hx rfl (hb hby dm4_5) rfl ?_
    refine XS.iload X0.here hx rfl (hb hby dm4_6) rfl ?_
    refine XS.iadd X0.here hx rfl (hb hby dm4_8) rfl ?_
    refine XS.iconst X0.here hx rfl (hb hby dm4_9) ?_
    refine XS.isub X0.here hx rfl (hb hby dm4_10) rfl ?_
    refine X0.iaload hx (j := (6 : Int32)) (v := (.int (Int32.ofNat (dl.getD 6 0)))) (by rw [e0]; exact Ar1.1) (State.isArrayOf_alike hZ.alike Ar1.2.1) Ar1.2.2 (inb_of Sz1 (by decide)) (Has.at Hs1 (inb_of Sz1 (by decide)) (own_getI dl 6)) (g := (mkF m 11 #[rv d, rv ta, rv va, iv (2 : Int32), iv (3 : Int32), .unset] [(.int (6 : Int32)), (.ref d)])) rfl rfl (hb hby dm4_11) _ ?_
    refine XS.aloadN X0.here hx rfl (hb hby dm4_12) rfl rfl ?_
    refine XS.iloadN X0.here hx rfl (hb hby dm4_13) rfl ?_
    refine XS.iconst X0.here hx rfl (hb hby dm4_14) ?_
    refine XS.isub X0.here hx rfl (hb hby dm4_15) rfl ?_
    refine X0.caload hx (j := (1 : Int32)) (v := (.int t1)) (by rw [e0]; exact Ar2.1) (State.isArrayOf_alike hZ.alike Ar2.2.1) Ar2.2.2 (inb_of Sz2 (by decide)) (Has.at Hs2 (inb_of Sz2 (by decide)) rfl) (g := (mkF m 16 #[rv d, rv ta, rv va, iv (2 : Int32), iv (3 : Int32), .unset] [(.int (1 : Int32)), (.ref ta), (.int (Int32.ofNat (dl.getD 6 0)))])) rfl rfl (hb hby dm4_16) _ ?_
    refine XS.aloadN X0.here hx rfl (hb hby dm4_17) rfl rfl ?_
    refine XS.iload X0.here hx rfl (hb hby dm4_18) rfl ?_
    refine XS.iconst X0.here hx rfl (hb hby dm4_20) ?_
    refine XS.isub X0.here hx rfl (hb hby dm4_21) rfl ?_
    refine X0.caload hx (j := (2 : Int32)) (v := (.int v2)) (by rw [e0]; exact Ar3.1) (State.isArrayOf_alike hZ.alike Ar3.2.1) Ar3.2.2 (inb_of Sz3 (by decide)) (Has.at Hs3 (inb_of Sz3 (by decide)) rfl) (g := (mkF m 22 #[rv d, rv ta, rv va, iv (2 : Int32), iv (3 : Int32), .unset] [(.int (2 : Int32)), (.ref va), (.int t1), (.int (Int32.ofNat (dl.getD 6 0)))])) rfl rfl (hb hby dm4_22) _ ?_
    by_cases hc4_23 : t1 = v2
    · rw [show c0 = (0 : Int32) by rw [eq_c0, if_pos hc4_23]] at k
      skip
      refine XS.icmpNo X0.here hx rfl (hb hby dm4_23) rfl (teq hc4_23).2 ?_
      refine XS.iconst X0.here hx rfl (hb hby dm4_26) ?_
      refine XS.goto X0.here hx rfl (pc0 := 27) (pc' := 31) rfl (hb hby dm4_27) (by decide) (by decide) ?_
      exact k
    · rw [show c0 = (1 : Int32) by rw [eq_c0, if_neg hc4_23]] at k
      skip
      refine XS.icmpYes X0.here hx rfl (pc0 := 23) (pc' := 30) rfl (hb hby dm4_23) rfl (feq hc4_23).2 (by decide) (by decide) ?_
      refine XS.iconst X0.here hx rfl (hb hby dm4_30) ?_
      exact k
  have k6 : Goes p e below s₁ F0 s₁ (mkF m 32 #[rv d, rv ta, rv va, iv (2 : Int32), iv (3 : Int32), .unset] [(.int ((Int32.ofNat (dl.getD 6 0)) + c0))]) := by
    intro t k
    refine k5 _ ?_
    skip
    refine XS.iadd X0.here hx rfl (hb hby dm4_31) rfl ?_
    exact k
  rw [eq_c0, own_addb] at k6
  obtain ⟨y0, ey0⟩ : ∃ z : Nat, z = ((dl.getD 6 0) + if t1 = v2 then 0 else 1) := ⟨_, rfl⟩
  rw [← ey0] at k6
  have hy0 : y0 ≤ B + 1 := by rw [ey0]; split <;> omega
  obtain ⟨cl7, Ar7, qk7, Sz7, Nn7, Hs7, Gs7⟩ := id VD
  have k8 : Goes p e below s₁ F0 s₁ (mkF m 48 #[rv d, rv ta, rv va, iv (2 : Int32), iv (3 : Int32), iv (Int32.ofNat y0)] [(.int ((Int32.ofNat (dl.getD 7 0)) + (1 : Int32))), (.int (Int32.ofNat y0))]) := by
    intro t k
    refine k6 _ ?_
    skip
    refine XS.istore X0.here hx rfl (hb hby dm4_32) rfl (l' := #[rv d, rv ta, rv va, iv (2 : Int32), iv (3 : Int32), iv (Int32.ofNat y0)]) rfl ?_
    refine XS.iload X0.here hx rfl (hb hby dm4_34) rfl ?_
    refine XS.aloadN X0.here hx rfl (hb hby dm4_36) rfl rfl ?_
    refine XS.iloadN X0.here hx rfl (hb hby dm4_37) rfl ?_
    refine XS.iconst X0.here hx rfl (hb hby dm4_38) ?_
    refine XS.isub X0.here hx rfl (hb hby dm4_39) rfl ?_
    refine XS.iconst X0.here hx rfl (hb hby dm4_40) ?_
    refine XS.imul X0.here hx rfl (hb hby dm4_41) rfl ?_
    refine XS.iload X0.here hx rfl (hb hby dm4_42) rfl ?_
    refine XS.iadd X0.here hx rfl (hb hby dm4_44) rfl ?_
    refine X0.iaload hx (j := (7 : Int32)) (v := (.int (Int32.ofNat (dl.getD 7 0)))) (by rw [e0]; exact Ar7.1) (State.isArrayOf_alike hZ.alike Ar7.2.1) Ar7.2.2 (inb_of Sz7 (by decide)) (Has.at Hs7 (inb_of Sz7 (by decide)) (own_getI dl 7)) (g := (mkF m 45 #[rv d, rv ta, rv va, iv (2 : Int32), iv (3 : Int32), iv (Int32.ofNat y0)] [(.int (7 : Int32)), (.ref d), (.int (Int32.ofNat y0))])) rfl rfl (hb hby dm4_45) _ ?_
    refine XS.iconst X0.here hx rfl (hb hby dm4_46) ?_
    refine XS.iadd X0.here hx rfl (hb hby dm4_47) rfl ?_
    exact k
  rw [show ((Int32.ofNat (dl.getD 7 0)) + (1 : Int32)) = (Int32.ofNat ((dl.getD 7 0) + 1)) from own_add1 _] at k8
  obtain ⟨_, _, ⟨T9, L9, ck9, nk9⟩, -, X9, ⟨Lc9, hQ9, l9, y9, z9⟩, st9⟩ := Jvm.LawKit.callS X0 hx (y := (⟨"java/lang/Math", "min", "(II)I"⟩ : MethodName)) hown (mvT hZ (own_q hw 72 rfl)) (mvT hZ (own_q hw 73 rfl)) (mvT hZ (own_q hw 74 rfl)) (mvT hZ (own_q hw 75 rfl)) (by decide) (backOf (W := 0) (rmMin l Z a0 hw [] (Int32.ofNat y0) (Int32.ofNat ((dl.getD 7 0) + 1)) h0 n0 Z0) hZ (own_q hw 75 rfl) (own_q hw 74 rfl) (by decide) (by decide)) (g := (mkF m 48 #[rv d, rv ta, rv va, iv (2 : Int32), iv (3 : Int32), iv (Int32.ofNat y0)] [(.int (Int32.ofNat ((dl.getD 7 0) + 1))), (.int (Int32.ofNat y0))])) rfl (by rw [hml]; rfl) (argsL := [(.int (Int32.ofNat y0)), (.int (Int32.ofNat ((dl.getD 7 0) + 1)))]) (rest := []) (lenOf pd_0 rfl) rfl (by show 2 * 0 + _ ≤ _; exact Nat.le_of_eq rfl) (hb hby dm4_48) (fun _ _ => ⟨rfl, e0, (by decide : 0 + 0 ≤ _), (by decide : 0 + 0 ≤ _)⟩)
  dsimp only [Pt.U, Pt.locs, Pt.cells, Pt.slots] at X9 l9 y9 z9 st9 hQ9
  subst l9 y9 z9
  obtain ⟨rfl, N9q, e9⟩ := hQ9
  have N9 := Fr.app N0 N9q
  have k9 : Goes p e below s₁ F0 T9 (mkF m 51 #[rv d, rv ta, rv va, iv (2 : Int32), iv (3 : Int32), iv (Int32.ofNat y0)] [(.int (own_min (Int32.ofNat y0) (Int32.ofNat ((dl.getD 7 0) + 1))))]) := fun t k => k8 t (st9 _ k)
  rw [show (own_min (Int32.ofNat y0) (Int32.ofNat ((dl.getD 7 0) + 1))) = (Int32.ofNat (min y0 ((dl.getD 7 0) + 1))) from own_minN (by omega) (by omega)] at k9
  obtain ⟨y1, ey1⟩ : ∃ z : Nat, z = (min y0 ((dl.getD 7 0) + 1)) := ⟨_, rfl⟩
  rw [← ey1] at k9
  have hy1 : y1 ≤ B + 1 := by rw [ey1]; omega
  obtain ⟨cl10, Ar10, qk10, Sz10, Nn10, Hs10, Gs10⟩ := id VD
  have k11 : Goes p e below s₁ F0 T9 (mkF m 67 #[rv d, rv ta, rv va, iv (2 : Int32), iv (3 : Int32), iv (Int32.ofNat y1)] [(.int ((Int32.ofNat (dl.getD 10 0)) + (1 : Int32))), (.int (Int32.ofNat y1))]) := by
    intro t k
    refine k9 _ ?_
    skip
    refine XS.istore X9.here hx rfl (hb hby dm4_51) rfl (l' := #[rv d, rv ta, rv va, iv (2 : Int32), iv (3 : Int32), iv (Int32.ofNat y1)]) rfl ?_
    refine XS.iload X9.here hx rfl (hb hby dm4_53) rfl ?_
    refine XS.aloadN X9.here hx rfl (hb hby dm4_55) rfl rfl ?_
    refine XS.iloadN X9.here hx rfl (hb hby dm4_56) rfl ?_
    refine XS.iconst X9.here hx rfl (hb hby dm4_57) ?_
    refine XS.imul X9.here hx rfl (hb hby dm4_58) rfl ?_
    refine XS.iload X9.here hx rfl (hb hby dm4_59) rfl ?_
    refine XS.iadd X9.here hx rfl (hb hby dm4_61) rfl ?_
    refine XS.iconst X9.here hx rfl (hb hby dm4_62) ?_
    refine XS.isub X9.here hx rfl (hb hby dm4_63) rfl ?_
    refine X9.iaload hx (j := (10 : Int32)) (v := (.int (Int32.ofNat (dl.getD 10 0)))) (by rw [e9]; exact Ar10.1) (State.isArrayOf_alike hZ.alike Ar10.2.1) Ar10.2.2 (inb_of Sz10 (by decide)) (Has.at Hs10 (inb_of Sz10 (by decide)) (own_getI dl 10)) (g := (mkF m 64 #[rv d, rv ta, rv va, iv (2 : Int32), iv (3 : Int32), iv (Int32.ofNat y1)] [(.int (10 : Int32)), (.ref d), (.int (Int32.ofNat y1))])) rfl rfl (hb hby dm4_64) _ ?_
    refine XS.iconst X9.here hx rfl (hb hby dm4_65) ?_
    refine XS.iadd X9.here hx rfl (hb hby dm4_66) rfl ?_
    exact k
  rw [show ((Int32.ofNat (dl.getD 10 0)) + (1 : Int32)) = (Int32.ofNat ((dl.getD 10 0) + 1)) from own_add1 _] at k11
  obtain ⟨_, _, ⟨T12, L12, ck12, nk12⟩, -, X12, ⟨Lc12, hQ12, l12, y12, z12⟩, st12⟩ := Jvm.LawKit.callS X9 hx (y := (⟨"java/lang/Math", "min", "(II)I"⟩ : MethodName)) hown (mvT hZ (own_q hw 72 rfl)) (mvT hZ (own_q hw 73 rfl)) (mvT hZ (own_q hw 74 rfl)) (mvT hZ (own_q hw 75 rfl)) (by decide) (backOf (W := 0) (rmMin l Z a0 hw [] (Int32.ofNat y1) (Int32.ofNat ((dl.getD 10 0) + 1)) h0 n0 Z0) hZ (own_q hw 75 rfl) (own_q hw 74 rfl) (by decide) (by decide)) (g := (mkF m 67 #[rv d, rv ta, rv va, iv (2 : Int32), iv (3 : Int32), iv (Int32.ofNat y1)] [(.int (Int32.ofNat ((dl.getD 10 0) + 1))), (.int (Int32.ofNat y1))])) rfl (by rw [hml]; rfl) (argsL := [(.int (Int32.ofNat y1)), (.int (Int32.ofNat ((dl.getD 10 0) + 1)))]) (rest := []) (lenOf pd_0 rfl) rfl (by show 2 * 0 + _ ≤ _; exact Nat.le_of_eq rfl) (hb hby dm4_67) (fun _ _ => ⟨rfl, e9, (by decide : 0 + 0 ≤ _), (by decide : 0 + 0 ≤ _)⟩)
  dsimp only [Pt.U, Pt.locs, Pt.cells, Pt.slots] at X12 l12 y12 z12 st12 hQ12
  subst l12 y12 z12
  obtain ⟨rfl, N12q, e12⟩ := hQ12
  have N12 := Fr.app N9 N12q
  have k12 : Goes p e below s₁ F0 T12 (mkF m 70 #[rv d, rv ta, rv va, iv (2 : Int32), iv (3 : Int32), iv (Int32.ofNat y1)] [(.int (own_min (Int32.ofNat y1) (Int32.ofNat ((dl.getD 10 0) + 1))))]) := fun t k => k11 t (st12 _ k)
  rw [show (own_min (Int32.ofNat y1) (Int32.ofNat ((dl.getD 10 0) + 1))) = (Int32.ofNat (min y1 ((dl.getD 10 0) + 1))) from own_minN (by omega) (by omega)] at k12
  obtain ⟨y2, ey2⟩ : ∃ z : Nat, z = (min y1 ((dl.getD 10 0) + 1)) := ⟨_, rfl⟩
  rw [← ey2] at k12
  have hy2 : y2 ≤ B + 1 := by rw [ey2]; omega
  obtain ⟨cl13, Ar13, qk13, Sz13, Nn13, Hs13, Gs13⟩ := id VT
  obtain ⟨cl14, Ar14, qk14, Sz14, Nn14, Hs14, Gs14⟩ := id VW
  have k15 : Goes p e below s₁ F0 T12 (mkF m 94 #[rv d, rv ta, rv va, iv (2 : Int32), iv (3 : Int32), iv (Int32.ofNat y2)] [(.int v1), (.int t1)]) := by
    intro t k
    refine k12 _ ?_
    skip
    refine XS.istore X12.here hx rfl (hb hby dm4_70) rfl (l' := #[rv d, rv ta, rv va, iv (2 : Int32), iv (3 : Int32), iv (Int32.ofNat y2)]) rfl ?_
    refine XS.iloadN X12.here hx rfl (hb hby dm4_72) rfl ?_
    refine XS.iconst X12.here hx rfl (hb hby dm4_73) ?_
    refine XS.icmpNo X12.here hx rfl (hb hby dm4_74) rfl (tlt (by decide)).2.2.2 ?_
    refine XS.iload X12.here hx rfl (hb hby dm4_77) rfl ?_
    refine XS.iconst X12.here hx rfl (hb hby dm4_79) ?_
    refine XS.icmpNo X12.here hx rfl (hb hby dm4_80) rfl (tlt (by decide)).2.2.2 ?_
    refine XS.aloadN X12.here hx rfl (hb hby dm4_83) rfl rfl ?_
    refine XS.iloadN X12.here hx rfl (hb hby dm4_84) rfl ?_
    refine XS.iconst X12.here hx rfl (hb hby dm4_85) ?_
    refine XS.isub X12.here hx rfl (hb hby dm4_86) rfl ?_
    refine X12.caload hx (j := (1 : Int32)) (v := (.int t1)) (by rw [e12]; exact Ar13.1) (State.isArrayOf_alike hZ.alike Ar13.2.1) Ar13.2.2 (inb_of Sz13 (by decide)) (Has.at Hs13 (inb_of Sz13 (by decide)) rfl) (g := (mkF m 87 #[rv d, rv ta, rv va, iv (2 : Int32), iv (3 : Int32), iv (Int32.ofNat y2)] [(.int (1 : Int32)), (.ref ta)])) rfl rfl (hb hby dm4_87) _ ?_
    refine XS.aloadN X12.here hx rfl (hb hby dm4_88) rfl rfl ?_
    refine XS.iload X12.here hx rfl (hb hby dm4_89) rfl ?_
    refine XS.iconst X12.here hx rfl (hb hby dm4_91) ?_
    refine XS.isub X12.here hx rfl (hb hby dm4_92) rfl ?_
    refine X12.caload hx (j := (1 : Int32)) (v := (.int v1)) (by rw [e12]; exact Ar14.1) (State.isArrayOf_alike hZ.alike Ar14.2.1) Ar14.2.2 (inb_of Sz14 (by decide)) (Has.at Hs14 (inb_of Sz14 (by decide)) rfl) (g := (mkF m 93 #[rv d, rv ta, rv va, iv (2 : Int32), iv (3 : Int32), iv (Int32.ofNat y2)] [(.int (1 : Int32)), (.ref va), (.int t1)])) rfl rfl (hb hby dm4_93) _ ?_
    exact k
  by_cases hq1 : t1 = v1
  · obtain ⟨cl16, Ar16, qk16, Sz16, Nn16, Hs16, Gs16⟩ := id VT
    obtain ⟨cl17, Ar17, qk17, Sz17, Nn17, Hs17, Gs17⟩ := id VW
    have k18 : Goes p e below s₁ F0 T12 (mkF m 108 #[rv d, rv ta, rv va, iv (2 : Int32), iv (3 : Int32), iv (Int32.ofNat y2)] [(.int v2), (.int t0)]) := by
      intro t k
      refine k15 _ ?_
      skip
      refine XS.icmpNo X12.here hx rfl (hb hby dm4_94) rfl (teq hq1).2 ?_
      refine XS.aloadN X12.here hx rfl (hb hby dm4_97) rfl rfl ?_
      refine XS.iloadN X12.here hx rfl (hb hby dm4_98) rfl ?_
      refine XS.iconst X12.here hx rfl (hb hby dm4_99) ?_
      refine XS.isub X12.here hx rfl (hb hby dm4_100) rfl ?_
      refine X12.caload hx (j := (0 : Int32)) (v := (.int t0)) (by rw [e12]; exact Ar16.1) (State.isArrayOf_alike hZ.alike Ar16.2.1) Ar16.2.2 (inb_of Sz16 (by decide)) (Has.at Hs16 (inb_of Sz16 (by decide)) rfl) (g := (mkF m 101 #[rv d, rv ta, rv va, iv (2 : Int32), iv (3 : Int32), iv (Int32.ofNat y2)] [(.int (0 : Int32)), (.ref ta)])) rfl rfl (hb hby dm4_101) _ ?_
      refine XS.aloadN X12.here hx rfl (hb hby dm4_102) rfl rfl ?_
      refine XS.iload X12.here hx rfl (hb hby dm4_103) rfl ?_
      refine XS.iconst X12.here hx rfl (hb hby dm4_105) ?_
      refine XS.isub X12.here hx rfl (hb hby dm4_106) rfl ?_
      refine X12.caload hx (j := (2 : Int32)) (v := (.int v2)) (by rw [e12]; exact Ar17.1) (State.isArrayOf_alike hZ.alike Ar17.2.1) Ar17.2.2 (inb_of Sz17 (by decide)) (Has.at Hs17 (inb_of Sz17 (by decide)) rfl) (g := (mkF m 107 #[rv d, rv ta, rv va, iv (2 : Int32), iv (3 : Int32), iv (Int32.ofNat y2)] [(.int (2 : Int32)), (.ref va), (.int t0)])) rfl rfl (hb hby dm4_107) _ ?_
      exact k
    by_cases hq2 : t0 = v2
    · obtain ⟨cl19, Ar19, qk19, Sz19, Nn19, Hs19, Gs19⟩ := id VD
      have k20 : Goes p e below s₁ F0 T12 (mkF m 127 #[rv d, rv ta, rv va, iv (2 : Int32), iv (3 : Int32), iv (Int32.ofNat y2)] [(.int ((Int32.ofNat (dl.getD 1 0)) + (1 : Int32))), (.int (Int32.ofNat y2))]) := by
        intro t k
        refine k18 _ ?_
        skip
        refine XS.icmpNo X12.here hx rfl (hb hby dm4_108) rfl (teq hq2).2 ?_
        refine XS.iload X12.here hx rfl (hb hby dm4_111) rfl ?_
        refine XS.aloadN X12.here hx rfl (hb hby dm4_113) rfl rfl ?_
        refine XS.iloadN X12.here hx rfl (hb hby dm4_114) rfl ?_
        refine XS.iconst X12.here hx rfl (hb hby dm4_115) ?_
        refine XS.isub X12.here hx rfl (hb hby dm4_116) rfl ?_
        refine XS.iconst X12.here hx rfl (hb hby dm4_117) ?_
        refine XS.imul X12.here hx rfl (hb hby dm4_118) rfl ?_
        refine XS.iload X12.here hx rfl (hb hby dm4_119) rfl ?_
        refine XS.iadd X12.here hx rfl (hb hby dm4_121) rfl ?_
        refine XS.iconst X12.here hx rfl (hb hby dm4_122) ?_
        refine XS.isub X12.here hx rfl (hb hby dm4_123) rfl ?_
        refine X12.iaload hx (j := (1 : Int32)) (v := (.int (Int32.ofNat (dl.getD 1 0)))) (by rw [e12]; exact Ar19.1) (State.isArrayOf_alike hZ.alike Ar19.2.1) Ar19.2.2 (inb_of Sz19 (by decide)) (Has.at Hs19 (inb_of Sz19 (by decide)) (own_getI dl 1)) (g := (mkF m 124 #[rv d, rv ta, rv va, iv (2 : Int32), iv (3 : Int32), iv (Int32.ofNat y2)] [(.int (1 : Int32)), (.ref d), (.int (Int32.ofNat y2))])) rfl rfl (hb hby dm4_124) _ ?_
        refine XS.iconst X12.here hx rfl (hb hby dm4_125) ?_
        refine XS.iadd X12.here hx rfl (hb hby dm4_126) rfl ?_
        exact k
      rw [show ((Int32.ofNat (dl.getD 1 0)) + (1 : Int32)) = (Int32.ofNat ((dl.getD 1 0) + 1)) from own_add1 _] at k20
      obtain ⟨_, _, ⟨T21, L21, ck21, nk21⟩, -, X21, ⟨Lc21, hQ21, l21, y21, z21⟩, st21⟩ := Jvm.LawKit.callS X12 hx (y := (⟨"java/lang/Math", "min", "(II)I"⟩ : MethodName)) hown (mvT hZ (own_q hw 72 rfl)) (mvT hZ (own_q hw 73 rfl)) (mvT hZ (own_q hw 74 rfl)) (mvT hZ (own_q hw 75 rfl)) (by decide) (backOf (W := 0) (rmMin l Z a0 hw [] (Int32.ofNat y2) (Int32.ofNat ((dl.getD 1 0) + 1)) h0 n0 Z0) hZ (own_q hw 75 rfl) (own_q hw 74 rfl) (by decide) (by decide)) (g := (mkF m 127 #[rv d, rv ta, rv va, iv (2 : Int32), iv (3 : Int32), iv (Int32.ofNat y2)] [(.int (Int32.ofNat ((dl.getD 1 0) + 1))), (.int (Int32.ofNat y2))])) rfl (by rw [hml]; rfl) (argsL := [(.int (Int32.ofNat y2)), (.int (Int32.ofNat ((dl.getD 1 0) + 1)))]) (rest := []) (lenOf pd_0 rfl) rfl (by show 2 * 0 + _ ≤ _; exact Nat.le_of_eq rfl) (hb hby dm4_127) (fun _ _ => ⟨rfl, e12, (by decide : 0 + 0 ≤ _), (by decide : 0 + 0 ≤ _)⟩)
      dsimp only [Pt.U, Pt.locs, Pt.cells, Pt.slots] at X21 l21 y21 z21 st21 hQ21
      subst l21 y21 z21
      obtain ⟨rfl, N21q, e21⟩ := hQ21
      have N21 := Fr.app N12 N21q
      have k21 : Goes p e below s₁ F0 T21 (mkF m 130 #[rv d, rv ta, rv va, iv (2 : Int32), iv (3 : Int32), iv (Int32.ofNat y2)] [(.int (own_min (Int32.ofNat y2) (Int32.ofNat ((dl.getD 1 0) + 1))))]) := fun t k => k20 t (st21 _ k)
      rw [show (own_min (Int32.ofNat y2) (Int32.ofNat ((dl.getD 1 0) + 1))) = (Int32.ofNat (min y2 ((dl.getD 1 0) + 1))) from own_minN (by omega) (by omega)] at k21
      obtain ⟨y3, ey3⟩ : ∃ z : Nat, z = (min y2 ((dl.getD 1 0) + 1)) := ⟨_, rfl⟩
      rw [← ey3] at k21
      have hy3 : y3 ≤ B + 1 := by rw [ey3]; omega
      have k22 : Goes p e below s₁ F0 T21 (mkF m 141 #[rv d, rv ta, rv va, iv (2 : Int32), iv (3 : Int32), iv (Int32.ofNat y3)] [(.int (Int32.ofNat y3)), (.int (11 : Int32)), (.ref d)]) := by
        intro t k
        refine k21 _ ?_
        skip
        refine XS.istore X21.here hx rfl (hb hby dm4_130) rfl (l' := #[rv d, rv ta, rv va, iv (2 : Int32), iv (3 : Int32), iv (Int32.ofNat y3)]) rfl ?_
        refine XS.aloadN X21.here hx rfl (hb hby dm4_132) rfl rfl ?_
        refine XS.iloadN X21.here hx rfl (hb hby dm4_133) rfl ?_
        refine XS.iconst X21.here hx rfl (hb hby dm4_134) ?_
        refine XS.imul X21.here hx rfl (hb hby dm4_135) rfl ?_
        refine XS.iload X21.here hx rfl (hb hby dm4_136) rfl ?_
        refine XS.iadd X21.here hx rfl (hb hby dm4_138) rfl ?_
        refine XS.iload X21.here hx rfl (hb hby dm4_139) rfl ?_
        exact k
      have hnew : (own_dc (dl.getD 6 0) (dl.getD 7 0) (dl.getD 10 0) (dl.getD 1 0) (t1 = v2) (t1 = v1 ∧ t0 = v2)) = y3 := by rw [ey3, ey2, ey1, ey0, own_dc, if_pos ⟨hq1, hq2⟩]
      obtain ⟨cl23, Ar23, qk23, Sz23, Nn23, Hs23, Gs23⟩ := id VD
      obtain ⟨T24, h24, X24, e24, W24, st24⟩ := stI X21 hx hZ e21 Ar23 (j := (11 : Int32)) (inb_of Sz23 (by decide)) (g := (mkF m 141 #[rv d, rv ta, rv va, iv (2 : Int32), iv (3 : Int32), iv (Int32.ofNat y3)] [(.int (Int32.ofNat y3)), (.int (11 : Int32)), (.ref d)])) rfl rfl (hb hby dm4_141)
      have N24 := Fr.snoc X24 N21 gd
      have V24 : Arv Z h24 d kd .int (16 : Int32) (own_I (dl.set 11 y3)) (.int (0 : Int32)) := by
        rw [← own_setI]
        exact Arv.set Ar23 qk23 Sz23 Nn23 Hs23 Gs23 rfl W24 11 rfl (by rw [own_lenI, hl]; decide)
      have k24 : Goes p e below s₁ F0 T24 (mkF m 142 #[rv d, rv ta, rv va, iv (2 : Int32), iv (3 : Int32), iv (Int32.ofNat y3)] []) := fun t k => k22 t (st24 _ k)
      have Z25 : n0 ≤ h24.size := Nat.le_trans Z0 (Keep.of_wr W24).1
      have kp26 : Keep h0 h24 [d] := ((Keep.refl h0 [d]).wr W24 (Or.inl (List.mem_of_getElem? (i := 0) rfl)))
      subst eF0
      obtain ⟨fs, hr, hrun, hended, hW, hsame⟩ := X24.leave (v := none) (fun h => rfl)
      refine ⟨_, _, k24 _ ?_, hrun, hended, _, _, rfl, ?_, ⟨_, rfl⟩, hW, hsame.mono (Nat.le_of_ble_eq_true rfl) (Nat.le_of_ble_eq_true rfl)⟩
      · exact X24.returnOut hx Bd.returns (hb hby dm4_142) hr
      · show QCe23 Z d ta va kd kt kv dl B t0 t1 t2 v0 v1 v2 h0 n0 _ T24.heap _
        rw [e24]
        exact ⟨rfl, N24, kp26, by rw [hnew]; exact V24⟩
    · have k27 : Goes p e below s₁ F0 T12 (mkF m 141 #[rv d, rv ta, rv va, iv (2 : Int32), iv (3 : Int32), iv (Int32.ofNat y2)] [(.int (Int32.ofNat y2)), (.int (11 : Int32)), (.ref d)]) := by
        intro t k
        refine k18 _ ?_
        skip
        refine XS.icmpYes X12.here hx rfl (pc0 := 108) (pc' := 132) rfl (hb hby dm4_108) rfl (feq hq2).2 (by decide) (by decide) ?_
        refine XS.aloadN X12.here hx rfl (hb hby dm4_132) rfl rfl ?_
        refine XS.iloadN X12.here hx rfl (hb hby dm4_133) rfl ?_
        refine XS.iconst X12.here hx rfl (hb hby dm4_134) ?_
        refine XS.imul X12.here hx rfl (hb hby dm4_135) rfl ?_
        refine XS.iload X12.here hx rfl (hb hby dm4_136) rfl ?_
        refine XS.iadd X12.here hx rfl (hb hby dm4_138) rfl ?_
        refine XS.iload X12.here hx rfl (hb hby dm4_139) rfl ?_
        exact k
      have hnew : (own_dc (dl.getD 6 0) (dl.getD 7 0) (dl.getD 10 0) (dl.getD 1 0) (t1 = v2) (t1 = v1 ∧ t0 = v2)) = y2 := by rw [ey2, ey1, ey0, own_dc, if_neg (fun q => hq2 q.2)]
      obtain ⟨cl28, Ar28, qk28, Sz28, Nn28, Hs28, Gs28⟩ := id VD
      obtain ⟨T29, h29, X29, e29, W29, st29⟩ := stI X12 hx hZ e12 Ar28 (j := (11 : Int32)) (inb_of Sz28 (by decide)) (g := (mkF m 141 #[rv d, rv ta, rv va, iv (2 : Int32), iv (3 : Int32), iv (Int32.ofNat y2)] [(.int (Int32.ofNat y2)), (.int (11 : Int32)), (.ref d)])) rfl rfl (hb hby dm4_141)
      have N29 := Fr.snoc X29 N12 gd
      have V29 : Arv Z h29 d kd .int (16 : Int32) (own_I (dl.set 11 y2)) (.int (0 : Int32)) := by
        rw [← own_setI]
        exact Arv.set Ar28 qk28 Sz28 Nn28 Hs28 Gs28 rfl W29 11 rfl (by rw [own_lenI, hl]; decide)
      have k29 : Goes p e below s₁ F0 T29 (mkF m 142 #[rv d, rv ta, rv va, iv (2 : Int32), iv (3 : Int32), iv (Int32.ofNat y2)] []) := fun t k => k27 t (st29 _ k)
      have Z30 : n0 ≤ h29.size := Nat.le_trans Z0 (Keep.of_wr W29).1
      have kp31 : Keep h0 h29 [d] := ((Keep.refl h0 [d]).wr W29 (Or.inl (List.mem_of_getElem? (i := 0) rfl)))
      subst eF0
      obtain ⟨fs, hr, hrun, hended, hW, hsame⟩ := X29.leave (v := none) (fun h => rfl)
      refine ⟨_, _, k29 _ ?_, hrun, hended, _, _, rfl, ?_, ⟨_, rfl⟩, hW, hsame.mono (Nat.le_of_ble_eq_true rfl) (Nat.le_of_ble_eq_true rfl)⟩
      · exact X29.returnOut hx Bd.returns (hb hby dm4_142) hr
      · show QCe23 Z d ta va kd kt kv dl B t0 t1 t2 v0 v1 v2 h0 n0 _ T29.heap _
        rw [e29]
        exact ⟨rfl, N29, kp31, by rw [hnew]; exact V29⟩
  · have k32 : Goes p e below s₁ F0 T12 (mkF m 141 #[rv d, rv ta, rv va, iv (2 : Int32), iv (3 : Int32), iv (Int32.ofNat y2)] [(.int (Int32.ofNat y2)), (.int (11 : Int32)), (.ref d)]) := by
      intro t k
      refine k15 _ ?_
      skip
      refine XS.icmpYes X12.here hx rfl (pc0 := 94) (pc' := 132) rfl (hb hby dm4_94) rfl (feq hq1).2 (by decide) (by decide) ?_
      refine XS.aloadN X12.here hx rfl (hb hby dm4_132) rfl rfl ?_
      refine XS.iloadN X12.here hx rfl (hb hby dm4_133) rfl ?_
      refine XS.iconst X12.here hx rfl (hb hby dm4_134) ?_
      refine XS.imul X12.here hx rfl (hb hby dm4_135) rfl ?_
      refine XS.iload X12.here hx rfl (hb hby dm4_136) rfl ?_
      refine XS.iadd X12.here hx rfl (hb hby dm4_138) rfl ?_
      refine XS.iload X12.here hx rfl (hb hby dm4_139) rfl ?_
      exact k
    have hnew : (own_dc (dl.getD 6 0) (dl.getD 7 0) (dl.getD 10 0) (dl.getD 1 0) (t1 = v2) (t1 = v1 ∧ t0 = v2)) = y2 := by rw [ey2, ey1, ey0, own_dc, if_neg (fun q => hq1 q.1)]
    obtain ⟨cl33, Ar33, qk33, Sz33, Nn33, Hs33, Gs33⟩ := id VD
    obtain ⟨T34, h34, X34, e34, W34, st34⟩ := stI X12 hx hZ e12 Ar33 (j := (11 : Int32)) (inb_of Sz33 (by decide)) (g := (mkF m 141 #[rv d, rv ta, rv va, iv (2 : Int32), iv (3 : Int32), iv (Int32.ofNat y2)] [(.int (Int32.ofNat y2)), (.int (11 : Int32)), (.ref d)])) rfl rfl (hb hby dm4_141)
    have N34 := Fr.snoc X34 N12 gd
    have V34 : Arv Z h34 d kd .int (16 : Int32) (own_I (dl.set 11 y2)) (.int (0 : Int32)) := by
      rw [← own_setI]
      exact Arv.set Ar33 qk33 Sz33 Nn33 Hs33 Gs33 rfl W34 11 rfl (by rw [own_lenI, hl]; decide)
    have k34 : Goes p e below s₁ F0 T34 (mkF m 142 #[rv d, rv ta, rv va, iv (2 : Int32), iv (3 : Int32), iv (Int32.ofNat y2)] []) := fun t k => k32 t (st34 _ k)
    have Z35 : n0 ≤ h34.size := Nat.le_trans Z0 (Keep.of_wr W34).1
    have kp36 : Keep h0 h34 [d] := ((Keep.refl h0 [d]).wr W34 (Or.inl (List.mem_of_getElem? (i := 0) rfl)))
    subst eF0
    obtain ⟨fs, hr, hrun, hended, hW, hsame⟩ := X34.leave (v := none) (fun h => rfl)
    refine ⟨_, _, k34 _ ?_, hrun, hended, _, _, rfl, ?_, ⟨_, rfl⟩, hW, hsame.mono (Nat.le_of_ble_eq_true rfl) (Nat.le_of_ble_eq_true rfl)⟩
    · exact X34.returnOut hx Bd.returns (hb hby dm4_142) hr
    · show QCe23 Z d ta va kd kt kv dl B t0 t1 t2 v0 v1 v2 h0 n0 _ T34.heap _
      rw [e34]
      exact ⟨rfl, N34, kp36, by rw [hnew]; exact V34⟩
theorem ef_Ce31 (m : MethodId) (x0 : Addr) (x1 : Addr) (x2 : Addr) (x3 : Int32) (x4 : Int32) : entryFrame m #[(.ref x0), (.ref x1), (.ref x2), (.int x3), (.int x4)] 6 = mkF m 0 #[rv x0, rv x1, rv x2, iv x3, iv x4, .unset] [] := by first | (simp [entryFrame, mkF, argsToLocals, Value.category]; done) | rfl
def QCe31 (Z : State) (d : Addr) (ta : Addr) (va : Addr) (kd : ClassId) (kt : ClassId) (kv : ClassId) (dl : List Nat) (B : Nat) (t0 : Int32) (t1 : Int32) (t2 : Int32) (v0 : Int32) (v1 : Int32) (v2 : Int32) (h0 : Heap) (n0 : Nat) (v : Option Value) (h : Heap) (L : List Loc) : Prop := v = none ∧ Fr n0 L ∧ Keep h0 h [d] ∧ Arv Z h d kd .int (16 : Int32) (own_I (dl.set 13 (own_dc (dl.getD 8 0) (dl.getD 9 0) (dl.getD 12 0) 0 (t2 = v0) (False)))) (.int (0 : Int32))
set_option maxRecDepth 65536 in
set_option maxHeartbeats 40000000 in
theorem rmCe31 (l : Launch) (Z : State) (a0 : Array Value) (hw : ∀ d ∈ tables_1, d.before a0 Z = true) (ws : List Jvm.Cond) (d : Addr) (ta : Addr) (va : Addr) (kd : ClassId) (kt : ClassId) (kv : ClassId) (dl : List Nat) (B : Nat) (t0 : Int32) (t1 : Int32) (t2 : Int32) (v0 : Int32) (v1 : Int32) (v2 : Int32) (h0 : Heap) (n0 : Nat) (Z0 : n0 ≤ h0.size) (VD : Arv Z h0 d kd .int (16 : Int32) (own_I dl) (.int (0 : Int32))) (VT : Arv Z h0 ta kt .char (3 : Int32) [(.int t0), (.int t1), (.int t2)] (.int (0 : Int32))) (VW : Arv Z h0 va kv .char (3 : Int32) [(.int v0), (.int v1), (.int v2)] (.int (0 : Int32))) (hl : dl.length = 16) (hB : ∀ k, dl.getD k 0 ≤ B) (hB1 : B ≤ 100) (gd : n0 ≤ d) :
    MetFree l (⟨"com/example/catchment/catchment/linkage/EditDistanceBeyondPinLaw", "cell", "([I[C[CII)V"⟩ : MethodName) (head1 (Jvm.Cond.code (⟨"com/example/catchment/catchment/linkage/EditDistanceBeyondPinLaw", "cell", "([I[C[CII)V"⟩ : MethodName) method_4_code 6 none :: ws) ({ frames := 1, cells := 0, slots := 0, locals := 17 } : Room)) (fun A_ U => A_ = #[(.ref d), (.ref ta), (.ref va), (.int (3 : Int32)), (.int (1 : Int32))] ∧ Z.Warmed39 U.vm ∧ U.heap = h0) (fun _ _ _ _ _ => True) (fun _ U o U' => ∃ v L, o = .returned v ∧ QCe31 Z d ta va kd kt kv dl B t0 t1 t2 v0 v1 v2 h0 n0 v U'.heap L ∧ FrameEnd U o U' L ({ frames := 1, cells := 0, slots := 0, locals := 17 } : Room).cells ({ frames := 1, cells := 0, slots := 0, locals := 17 } : Room).slots) := by
  refine MetFree.of_bodySF (plainFor_of_name pn_0) hisR ?_
  intro p e s m args below meth c s₁ Bd hml0 hP hK
  obtain ⟨rfl, hZ, hh⟩ := hP
  have hx := Bd.exec
  have hby := Bd.bytes
  have hml : c.maxLocals = 6 := hml0
  have hown : s.vm.findClass "com/example/catchment/catchment/linkage/EditDistanceBeyondPinLaw" = some m.cls := findClass_of_methodNamed Bd.named
  have hnm := (name_of_methodNamed Bd.named Bd.method).1
  have X0 : Stand p l e ({ frames := 1, cells := 0, slots := 0, locals := 17 } : Room) s m #[(.ref d), (.ref ta), (.ref va), (.int (3 : Int32)), (.int (1 : Int32))] below meth c s₁ [] 0 0 := Stand.of_body Bd
  have e0 : s₁.heap = h0 := by rw [← hh, Bd.state]; rfl
  have N0 := Fr.nil n0
  obtain ⟨F0, eF0⟩ : ∃ f : JFrame, f = entryFrame m #[(.ref d), (.ref ta), (.ref va), (.int (3 : Int32)), (.int (1 : Int32))] 6 := ⟨_, rfl⟩
  have k0 : Goes p e below s₁ F0 s₁ (mkF m 0 #[rv d, rv ta, rv va, iv (3 : Int32), iv (1 : Int32), .unset] []) := fun t k => by subst eF0; exact castTop (ef_Ce31 m d ta va ((3 : Int32)) ((1 : Int32))) k
  have hb8 := hB 8
  have hb9 := hB 9
  have hb12 := hB 12
  obtain ⟨cl1, Ar1, qk1, Sz1, Nn1, Hs1, Gs1⟩ := id VD
  obtain ⟨cl2, Ar2, qk2, Sz2, Nn2, Hs2, Gs2⟩ := id VT
  obtain ⟨cl3, Ar3, qk3, Sz3, Nn3, Hs3, Gs3⟩ := id VW
  obtain ⟨c0, eq_c0⟩ : ∃ z : Int32, z = (if t2 = v0 then (0 : Int32) else (1 : Int32)) := ⟨_, rfl⟩
  have k5 : Goes p e below s₁ F0 s₁ (mkF m 31 #[rv d, rv ta, rv va, iv (3 : Int32), iv (1 : Int32), .unset] [(.int c0), (.int (Int32.ofNat (dl.getD 8 0)))]) := by
    intro t k
    refine k0 _ ?_
    skip
    refine XS.aloadN X0.here hx rfl (hb hby dm4_0) rfl rfl ?_
    refine XS.iloadN X0.here hx rfl (hb hby dm4_1) rfl ?_
    refine XS.iconst X0.here hx rfl (hb hby dm4_2) ?_
    refine XS.isub X0.here hx rfl (hb hby dm4_3) rfl ?_
    refine XS.iconst X0.here hx rfl (hb hby dm4_4) ?_
    refine XS.imul X0.here hx rfl (hb hby dm4_5) rfl ?_
    refine XS.iload X0.here hx rfl (hb hby dm4_6) rfl ?_
    refine XS.iadd X0.here hx rfl (hb hby dm4_8) rfl ?_
    refine XS.iconst X0.here hx rfl (hb hby dm4_9) ?_
    refine XS.isub X0.here hx rfl (hb hby dm4_10) rfl ?_
    refine X0.iaload hx (j := (8 : Int32)) (v := (.int (Int32.ofNat (dl.getD 8 0)))) (by rw [e0]; exact Ar1.1) (State.isArrayOf_alike hZ.alike Ar1.2.1) Ar1.2.2 (inb_of Sz1 (by decide)) (Has.at Hs1 (inb_of Sz1 (by decide)) (own_getI dl 8)) (g := (mkF m 11 #[rv d, rv ta, rv va, iv (3 : Int32), iv (1 : Int32), .unset] [(.int (8 : Int32)), (.ref d)])) rfl rfl (hb hby dm4_11) _ ?_
    refine XS.aloadN X0.here hx rfl (hb hby dm4_12) rfl rfl ?_
    refine XS.iloadN X0.here hx rfl (hb hby dm4_13) rfl ?_
    refine XS.iconst X0.here hx rfl (hb hby dm4_14) ?_
    refine XS.isub X0.here hx rfl (hb hby dm4_15) rfl ?_
    refine X0.caload hx (j := (2 : Int32)) (v := (.int t2)) (by rw [e0]; exact Ar2.1) (State.isArrayOf_alike hZ.alike Ar2.2.1) Ar2.2.2 (inb_of Sz2 (by decide)) (Has.at Hs2 (inb_of Sz2 (by decide)) rfl) (g := (mkF m 16 #[rv d, rv ta, rv va, iv (3 : Int32), iv (1 : Int32), .unset] [(.int (2 : Int32)), (.ref ta), (.int (Int32.ofNat (dl.getD 8 0)))])) rfl rfl (hb hby dm4_16) _ ?_
    refine XS.aloadN X0.here hx rfl (hb hby dm4_17) rfl rfl ?_
    refine XS.iload X0.here hx rfl (hb hby dm4_18) rfl ?_
    refine XS.iconst X0.here hx rfl (hb hby dm4_20) ?_
    refine XS.isub X0.here hx rfl (hb hby dm4_21) rfl ?_
    refine X0.caload hx (j := (0 : Int32)) (v := (.int v0)) (by rw [e0]; exact Ar3.1) (State.isArrayOf_alike hZ.alike Ar3.2.1) Ar3.2.2 (inb_of Sz3 (by decide)) (Has.at Hs3 (inb_of Sz3 (by decide)) rfl) (g := (mkF m 22 #[rv d, rv ta, rv va, iv (3 : Int32), iv (1 : Int32), .unset] [(.int (0 : Int32)), (.ref va), (.int t2), (.int (Int32.ofNat (dl.getD 8 0)))])) rfl rfl (hb hby dm4_22) _ ?_
    by_cases hc4_23 : t2 = v0
    · rw [show c0 = (0 : Int32) by rw [eq_c0, if_pos hc4_23]] at k
      skip
      refine XS.icmpNo X0.here hx rfl (hb hby dm4_23) rfl (teq hc4_23).2 ?_
      refine XS.iconst X0.here hx rfl (hb hby dm4_26) ?_
      refine XS.goto X0.here hx rfl (pc0 := 27) (pc' := 31) rfl (hb hby dm4_27) (by decide) (by decide) ?_
      exact k
    · rw [show c0 = (1 : Int32) by rw [eq_c0, if_neg hc4_23]] at k
      skip
      refine XS.icmpYes X0.here hx rfl (pc0 := 23) (pc' := 30) rfl (hb hby dm4_23) rfl (feq hc4_23).2 (by decide) (by decide) ?_
      refine XS.iconst X0.here hx rfl (hb hby dm4_30) ?_
      exact k
  have k6 : Goes p e below s₁ F0 s₁ (mkF m 32 #[rv d, rv ta, rv va, iv (3 : Int32), iv (1 : Int32), .unset] [(.int ((Int32.ofNat (dl.getD 8 0)) + c0))]) := by
    intro t k
    refine k5 _ ?_
    skip
    refine XS.iadd X0.here hx rfl (hb hby dm4_31) rfl ?_
    exact k
  rw [eq_c0, own_addb] at k6
  obtain ⟨y0, ey0⟩ : ∃ z : Nat, z = ((dl.getD 8 0) + if t2 = v0 then 0 else 1) := ⟨_, rfl⟩
  rw [← ey0] at k6
  have hy0 : y0 ≤ B + 1 := by rw [ey0]; split <;> omega
  obtain ⟨cl7, Ar7, qk7, Sz7, Nn7, Hs7, Gs7⟩ := id VD
  have k8 : Goes p e below s₁ F0 s₁ (mkF m 48 #[rv d, rv ta, rv va, iv (3 : Int32), iv (1 : Int32), iv (Int32.ofNat y0)] [(.int ((Int32.ofNat (dl.getD 9 0)) + (1 : Int32))), (.int (Int32.ofNat y0))]) := by
    intro t k
    refine k6 _ ?_
    skip
    refine XS.istore X0.here hx rfl (hb hby dm4_32) rfl (l' := #[rv d, rv ta, rv va, iv (3 : Int32), iv (1 : Int32), iv (Int32.ofNat y0)]) rfl ?_
    refine XS.iload X0.here hx rfl (hb hby dm4_34) rfl ?_
    refine XS.aloadN X0.here hx rfl (hb hby dm4_36) rfl rfl ?_
    refine XS.iloadN X0.here hx rfl (hb hby dm4_37) rfl ?_
    refine XS.iconst X0.here hx rfl (hb hby dm4_38) ?_
    refine XS.isub X0.here hx rfl (hb hby dm4_39) rfl ?_
    refine XS.iconst X0.here hx rfl (hb hby dm4_40) ?_
    refine XS.imul X0.here hx rfl (hb hby dm4_41) rfl ?_
    refine XS.iload X0.here hx rfl (hb hby dm4_42) rfl ?_
    refine XS.iadd X0.here hx rfl (hb hby dm4_44) rfl ?_
    refine X0.iaload hx (j := (9 : Int32)) (v := (.int (Int32.ofNat (dl.getD 9 0)))) (by rw [e0]; exact Ar7.1) (State.isArrayOf_alike hZ.alike Ar7.2.1) Ar7.2.2 (inb_of Sz7 (by decide)) (Has.at Hs7 (inb_of Sz7 (by decide)) (own_getI dl 9)) (g := (mkF m 45 #[rv d, rv ta, rv va, iv (3 : Int32), iv (1 : Int32), iv (Int32.ofNat y0)] [(.int (9 : Int32)), (.ref d), (.int (Int32.ofNat y0))])) rfl rfl (hb hby dm4_45) _ ?_
    refine XS.iconst X0.here hx rfl (hb hby dm4_46) ?_
    refine XS.iadd X0.here hx rfl (hb hby dm4_47) rfl ?_
    exact k
  rw [show ((Int32.ofNat (dl.getD 9 0)) + (1 : Int32)) = (Int32.ofNat ((dl.getD 9 0) + 1)) from own_add1 _] at k8
  obtain ⟨_, _, ⟨T9, L9, ck9, nk9⟩, -, X9, ⟨Lc9, hQ9, l9, y9, z9⟩, st9⟩ := Jvm.LawKit.callS X0 hx (y := (⟨"java/lang/Math", "min", "(II)I"⟩ : MethodName)) hown (mvT hZ (own_q hw 72 rfl)) (mvT hZ (own_q hw 73 rfl)) (mvT hZ (own_q hw 74 rfl)) (mvT hZ (own_q hw 75 rfl)) (by decide) (backOf (W := 0) (rmMin l Z a0 hw [] (Int32.ofNat y0) (Int32.ofNat ((dl.getD 9 0) + 1)) h0 n0 Z0) hZ (own_q hw 75 rfl) (own_q hw 74 rfl) (by decide) (by decide)) (g := (mkF m 48 #[rv d, rv ta, rv va, iv (3 : Int32), iv (1 : Int32), iv (Int32.ofNat y0)] [(.int (Int32.ofNat ((dl.getD 9 0) + 1))), (.int (Int32.ofNat y0))])) rfl (by rw [hml]; rfl) (argsL := [(.int (Int32.ofNat y0)), (.int (Int32.ofNat ((dl.getD 9 0) + 1)))]) (rest := []) (lenOf pd_0 rfl) rfl (by show 2 * 0 + _ ≤ _; exact Nat.le_of_eq rfl) (hb hby dm4_48) (fun _ _ => ⟨rfl, e0, (by decide : 0 + 0 ≤ _), (by decide : 0 + 0 ≤ _)⟩)
  dsimp only [Pt.U, Pt.locs, Pt.cells, Pt.slots] at X9 l9 y9 z9 st9 hQ9
  subst l9 y9 z9
  obtain ⟨rfl, N9q, e9⟩ := hQ9
  have N9 := Fr.app N0 N9q
  have k9 : Goes p e below s₁ F0 T9 (mkF m 51 #[rv d, rv ta, rv va, iv (3 : Int32), iv (1 : Int32), iv (Int32.ofNat y0)] [(.int (own_min (Int32.ofNat y0) (Int32.ofNat ((dl.getD 9 0) + 1))))]) := fun t k => k8 t (st9 _ k)
  rw [show (own_min (Int32.ofNat y0) (Int32.ofNat ((dl.getD 9 0) + 1))) = (Int32.ofNat (min y0 ((dl.getD 9 0) + 1))) from own_minN (by omega) (by omega)] at k9
  obtain ⟨y1, ey1⟩ : ∃ z : Nat, z = (min y0 ((dl.getD 9 0) + 1)) := ⟨_, rfl⟩
  rw [← ey1] at k9
  have hy1 : y1 ≤ B + 1 := by rw [ey1]; omega
  obtain ⟨cl10, Ar10, qk10, Sz10, Nn10, Hs10, Gs10⟩ := id VD
  have k11 : Goes p e below s₁ F0 T9 (mkF m 67 #[rv d, rv ta, rv va, iv (3 : Int32), iv (1 : Int32), iv (Int32.ofNat y1)] [(.int ((Int32.ofNat (dl.getD 12 0)) + (1 : Int32))), (.int (Int32.ofNat y1))]) := by
    intro t k
    refine k9 _ ?_
    skip
    refine XS.istore X9.here hx rfl (hb hby dm4_51) rfl (l' := #[rv d, rv ta, rv va, iv (3 : Int32), iv (1 : Int32), iv (Int32.ofNat y1)]) rfl ?_
    refine XS.iload X9.here hx rfl (hb hby dm4_53) rfl ?_
    refine XS.aloadN X9.here hx rfl (hb hby dm4_55) rfl rfl ?_
    refine XS.iloadN X9.here hx rfl (hb hby dm4_56) rfl ?_
    refine XS.iconst X9.here hx rfl (hb hby dm4_57) ?_
    refine XS.imul X9.here hx rfl (hb hby dm4_58) rfl ?_
    refine XS.iload X9.here hx rfl (hb hby dm4_59) rfl ?_
    refine XS.iadd X9.here hx rfl (hb hby dm4_61) rfl ?_
    refine XS.iconst X9.here hx rfl (hb hby dm4_62) ?_
    refine XS.isub X9.here hx rfl (hb hby dm4_63) rfl ?_
    refine X9.iaload hx (j := (12 : Int32)) (v := (.int (Int32.ofNat (dl.getD 12 0)))) (by rw [e9]; exact Ar10.1) (State.isArrayOf_alike hZ.alike Ar10.2.1) Ar10.2.2 (inb_of Sz10 (by decide)) (Has.at Hs10 (inb_of Sz10 (by decide)) (own_getI dl 12)) (g := (mkF m 64 #[rv d, rv ta, rv va, iv (3 : Int32), iv (1 : Int32), iv (Int32.ofNat y1)] [(.int (12 : Int32)), (.ref d), (.int (Int32.ofNat y1))])) rfl rfl (hb hby dm4_64) _ ?_
    refine XS.iconst X9.here hx rfl (hb hby dm4_65) ?_
    refine XS.iadd X9.here hx rfl (hb hby dm4_66) rfl ?_
    exact k
  rw [show ((Int32.ofNat (dl.getD 12 0)) + (1 : Int32)) = (Int32.ofNat ((dl.getD 12 0) + 1)) from own_add1 _] at k11
  obtain ⟨_, _, ⟨T12, L12, ck12, nk12⟩, -, X12, ⟨Lc12, hQ12, l12, y12, z12⟩, st12⟩ := Jvm.LawKit.callS X9 hx (y := (⟨"java/lang/Math", "min", "(II)I"⟩ : MethodName)) hown (mvT hZ (own_q hw 72 rfl)) (mvT hZ (own_q hw 73 rfl)) (mvT hZ (own_q hw 74 rfl)) (mvT hZ (own_q hw 75 rfl)) (by decide) (backOf (W := 0) (rmMin l Z a0 hw [] (Int32.ofNat y1) (Int32.ofNat ((dl.getD 12 0) + 1)) h0 n0 Z0) hZ (own_q hw 75 rfl) (own_q hw 74 rfl) (by decide) (by decide)) (g := (mkF m 67 #[rv d, rv ta, rv va, iv (3 : Int32), iv (1 : Int32), iv (Int32.ofNat y1)] [(.int (Int32.ofNat ((dl.getD 12 0) + 1))), (.int (Int32.ofNat y1))])) rfl (by rw [hml]; rfl) (argsL := [(.int (Int32.ofNat y1)), (.int (Int32.ofNat ((dl.getD 12 0) + 1)))]) (rest := []) (lenOf pd_0 rfl) rfl (by show 2 * 0 + _ ≤ _; exact Nat.le_of_eq rfl) (hb hby dm4_67) (fun _ _ => ⟨rfl, e9, (by decide : 0 + 0 ≤ _), (by decide : 0 + 0 ≤ _)⟩)
  dsimp only [Pt.U, Pt.locs, Pt.cells, Pt.slots] at X12 l12 y12 z12 st12 hQ12
  subst l12 y12 z12
  obtain ⟨rfl, N12q, e12⟩ := hQ12
  have N12 := Fr.app N9 N12q
  have k12 : Goes p e below s₁ F0 T12 (mkF m 70 #[rv d, rv ta, rv va, iv (3 : Int32), iv (1 : Int32), iv (Int32.ofNat y1)] [(.int (own_min (Int32.ofNat y1) (Int32.ofNat ((dl.getD 12 0) + 1))))]) := fun t k => k11 t (st12 _ k)
  rw [show (own_min (Int32.ofNat y1) (Int32.ofNat ((dl.getD 12 0) + 1))) = (Int32.ofNat (min y1 ((dl.getD 12 0) + 1))) from own_minN (by omega) (by omega)] at k12
  obtain ⟨y2, ey2⟩ : ∃ z : Nat, z = (min y1 ((dl.getD 12 0) + 1)) := ⟨_, rfl⟩
  rw [← ey2] at k12
  have hy2 : y2 ≤ B + 1 := by rw [ey2]; omega
  have k13 : Goes p e below s₁ F0 T12 (mkF m 141 #[rv d, rv ta, rv va, iv (3 : Int32), iv (1 : Int32), iv (Int32.ofNat y2)] [(.int (Int32.ofNat y2)), (.int (13 : Int32)), (.ref d)]) := by
    intro t k
    refine k12 _ ?_
    skip
    refine XS.istore X12.here hx rfl (hb hby dm4_70) rfl (l' := #[rv d, rv ta, rv va, iv (3 : Int32), iv (1 : Int32), iv (Int32.ofNat y2)]) rfl ?_
    refine XS.iloadN X12.here hx rfl (hb hby dm4_72) rfl ?_
    refine XS.iconst X12.here hx rfl (hb hby dm4_73) ?_
    refine XS.icmpNo X12.here hx rfl (hb hby dm4_74) rfl (tlt (by decide)).2.2.2 ?_
    refine XS.iload X12.here hx rfl (hb hby dm4_77) rfl ?_
    refine XS.iconst X12.here hx rfl (hb hby dm4_79) ?_
    refine XS.icmpYes X12.here hx rfl (pc0 := 80) (pc' := 132) rfl (hb hby dm4_80) rfl (flt (by decide)).2.2.2 (by decide) (by decide) ?_
    refine XS.aloadN X12.here hx rfl (hb hby dm4_132) rfl rfl ?_
    refine XS.iloadN X12.here hx rfl (hb hby dm4_133) rfl ?_
    refine XS.iconst X12.here hx rfl (hb hby dm4_134) ?_
    refine XS.imul X12.here hx rfl (hb hby dm4_135) rfl ?_
    refine XS.iload X12.here hx rfl (hb hby dm4_136) rfl ?_
    refine XS.iadd X12.here hx rfl (hb hby dm4_138) rfl ?_
    refine XS.iload X12.here hx rfl (hb hby dm4_139) rfl ?_
    exact k
  have hnew : (own_dc (dl.getD 8 0) (dl.getD 9 0) (dl.getD 12 0) 0 (t2 = v0) (False)) = y2 := by rw [ey2, ey1, ey0]; simp [own_dc]
  obtain ⟨cl14, Ar14, qk14, Sz14, Nn14, Hs14, Gs14⟩ := id VD
  obtain ⟨T15, h15, X15, e15, W15, st15⟩ := stI X12 hx hZ e12 Ar14 (j := (13 : Int32)) (inb_of Sz14 (by decide)) (g := (mkF m 141 #[rv d, rv ta, rv va, iv (3 : Int32), iv (1 : Int32), iv (Int32.ofNat y2)] [(.int (Int32.ofNat y2)), (.int (13 : Int32)), (.ref d)])) rfl rfl (hb hby dm4_141)
  have N15 := Fr.snoc X15 N12 gd
  have V15 : Arv Z h15 d kd .int (16 : Int32) (own_I (dl.set 13 y2)) (.int (0 : Int32)) := by
    rw [← own_setI]
    exact Arv.set Ar14 qk14 Sz14 Nn14 Hs14 Gs14 rfl W15 13 rfl (by rw [own_lenI, hl]; decide)
  have k15 : Goes p e below s₁ F0 T15 (mkF m 142 #[rv d, rv ta, rv va, iv (3 : Int32), iv (1 : Int32), iv (Int32.ofNat y2)] []) := fun t k => k13 t (st15 _ k)
  have Z16 : n0 ≤ h15.size := Nat.le_trans Z0 (Keep.of_wr W15).1
  have kp17 : Keep h0 h15 [d] := ((Keep.refl h0 [d]).wr W15 (Or.inl (List.mem_of_getElem? (i := 0) rfl)))
  subst eF0
  obtain ⟨fs, hr, hrun, hended, hW, hsame⟩ := X15.leave (v := none) (fun h => rfl)
  refine ⟨_, _, k15 _ ?_, hrun, hended, _, _, rfl, ?_, ⟨_, rfl⟩, hW, hsame.mono (Nat.le_of_ble_eq_true rfl) (Nat.le_of_ble_eq_true rfl)⟩
  · exact X15.returnOut hx Bd.returns (hb hby dm4_142) hr
  · show QCe31 Z d ta va kd kt kv dl B t0 t1 t2 v0 v1 v2 h0 n0 _ T15.heap _
    rw [e15]
    exact ⟨rfl, N15, kp17, by rw [hnew]; exact V15⟩
theorem ef_Ce32 (m : MethodId) (x0 : Addr) (x1 : Addr) (x2 : Addr) (x3 : Int32) (x4 : Int32) : entryFrame m #[(.ref x0), (.ref x1), (.ref x2), (.int x3), (.int x4)] 6 = mkF m 0 #[rv x0, rv x1, rv x2, iv x3, iv x4, .unset] [] := by first | (simp [entryFrame, mkF, argsToLocals, Value.category]; done) | rfl
def QCe32 (Z : State) (d : Addr) (ta : Addr) (va : Addr) (kd : ClassId) (kt : ClassId) (kv : ClassId) (dl : List Nat) (B : Nat) (t0 : Int32) (t1 : Int32) (t2 : Int32) (v0 : Int32) (v1 : Int32) (v2 : Int32) (h0 : Heap) (n0 : Nat) (v : Option Value) (h : Heap) (L : List Loc) : Prop := v = none ∧ Fr n0 L ∧ Keep h0 h [d] ∧ Arv Z h d kd .int (16 : Int32) (own_I (dl.set 14 (own_dc (dl.getD 9 0) (dl.getD 10 0) (dl.getD 13 0) (dl.getD 4 0) (t2 = v1) (t2 = v0 ∧ t1 = v1)))) (.int (0 : Int32))
set_option maxRecDepth 65536 in
set_option maxHeartbeats 40000000 in
theorem rmCe32 (l : Launch) (Z : State) (a0 : Array Value) (hw : ∀ d ∈ tables_1, d.before a0 Z = true) (ws : List Jvm.Cond) (d : Addr) (ta : Addr) (va : Addr) (kd : ClassId) (kt : ClassId) (kv : ClassId) (dl : List Nat) (B : Nat) (t0 : Int32) (t1 : Int32) (t2 : Int32) (v0 : Int32) (v1 : Int32) (v2 : Int32) (h0 : Heap) (n0 : Nat) (Z0 : n0 ≤ h0.size) (VD : Arv Z h0 d kd .int (16 : Int32) (own_I dl) (.int (0 : Int32))) (VT : Arv Z h0 ta kt .char (3 : Int32) [(.int t0), (.int t1), (.int t2)] (.int (0 : Int32))) (VW : Arv Z h0 va kv .char (3 : Int32) [(.int v0), (.int v1), (.int v2)] (.int (0 : Int32))) (hl : dl.length = 16) (hB : ∀ k, dl.getD k 0 ≤ B) (hB1 : B ≤ 100) (gd : n0 ≤ d) :
    MetFree l (⟨"com/example/catchment/catchment/linkage/EditDistanceBeyondPinLaw", "cell", "([I[C[CII)V"⟩ : MethodName) (head1 (Jvm.Cond.code (⟨"com/example/catchment/catchment/linkage/EditDistanceBeyondPinLaw", "cell", "([I[C[CII)V"⟩ : MethodName) method_4_code 6 none :: ws) ({ frames := 1, cells := 0, slots := 0, locals := 17 } : Room)) (fun A_ U => A_ = #[(.ref d), (.ref ta), (.ref va), (.int (3 : Int32)), (.int (2 : Int32))] ∧ Z.Warmed39 U.vm ∧ U.heap = h0) (fun _ _ _ _ _ => True) (fun _ U o U' => ∃ v L, o = .returned v ∧ QCe32 Z d ta va kd kt kv dl B t0 t1 t2 v0 v1 v2 h0 n0 v U'.heap L ∧ FrameEnd U o U' L ({ frames := 1, cells := 0, slots := 0, locals := 17 } : Room).cells ({ frames := 1, cells := 0, slots := 0, locals := 17 } : Room).slots) := by
  refine MetFree.of_bodySF (plainFor_of_name pn_0) hisR ?_
  intro p e s m args below meth c s₁ Bd hml0 hP hK
  obtain ⟨rfl, hZ, hh⟩ := hP
  have hx := Bd.exec
  have hby := Bd.bytes
  have hml : c.maxLocals = 6 := hml0
  have hown : s.vm.findClass "com/example/catchment/catchment/linkage/EditDistanceBeyondPinLaw" = some m.cls := findClass_of_methodNamed Bd.named
  have hnm := (name_of_methodNamed Bd.named Bd.method).1
  have X0 : Stand p l e ({ frames := 1, cells := 0, slots := 0, locals := 17 } : Room) s m #[(.ref d), (.ref ta), (.ref va), (.int (3 : Int32)), (.int (2 : Int32))] below meth c s₁ [] 0 0 := Stand.of_body Bd
  have e0 : s₁.heap = h0 := by rw [← hh, Bd.state]; rfl
  have N0 := Fr.nil n0
  obtain ⟨F0, eF0⟩ : ∃ f : JFrame, f = entryFrame m #[(.ref d), (.ref ta), (.ref va), (.int (3 : Int32)), (.int (2 : Int32))] 6 := ⟨_, rfl⟩
  have k0 : Goes p e below s₁ F0 s₁ (mkF m 0 #[rv d, rv ta, rv va, iv (3 : Int32), iv (2 : Int32), .unset] []) := fun t k => by subst eF0; exact castTop (ef_Ce32 m d ta va ((3 : Int32)) ((2 : Int32))) k
  have hb9 := hB 9
  have hb10 := hB 10
  have hb4 := hB 4
  have hb13 := hB 13
  obtain ⟨cl1, Ar1, qk1, Sz1, Nn1, Hs1, Gs1⟩ := id VD
  obtain ⟨cl2, Ar2, qk2, Sz2, Nn2, Hs2, Gs2⟩ := id VT
  obtain ⟨cl3, Ar3, qk3, Sz3, Nn3, Hs3, Gs3⟩ := id VW
  obtain ⟨c0, eq_c0⟩ : ∃ z : Int32, z = (if t2 = v1 then (0 : Int32) else (1 : Int32)) := ⟨_, rfl⟩
  have k5 : Goes p e below s₁ F0 s₁ (mkF m 31 #[rv d, rv ta, rv va, iv (3 : Int32), iv (2 : Int32), .unset] [(.int c0), (.int (Int32.ofNat (dl.getD 9 0)))]) := by
    intro t k
    refine k0 _ ?_
    skip
    refine XS.aloadN X0.here hx rfl (hb hby dm4_0) rfl rfl ?_
    refine XS.iloadN X0.here hx rfl (hb hby dm4_1) rfl ?_
    refine XS.iconst X0.here hx rfl (hb hby dm4_2) ?_
    refine XS.isub X0.here hx rfl (hb hby dm4_3) rfl ?_
    refine XS.iconst X0.here hx rfl (hb hby dm4_4) ?_
    refine XS.imul X0.here hx rfl (hb hby dm4_5) rfl ?_
    refine XS.iload X0.here hx rfl (hb hby dm4_6) rfl ?_
    refine XS.iadd X0.here hx rfl (hb hby dm4_8) rfl ?_
    refine XS.iconst X0.here hx rfl (hb hby dm4_9) ?_
    refine XS.isub X0.here hx rfl (hb hby dm4_10) rfl ?_
    refine X0.iaload hx (j := (9 : Int32)) (v := (.int (Int32.ofNat (dl.getD 9 0)))) (by rw [e0]; exact Ar1.1) (State.isArrayOf_alike hZ.alike Ar1.2.1) Ar1.2.2 (inb_of Sz1 (by decide)) (Has.at Hs1 (inb_of Sz1 (by decide)) (own_getI dl 9)) (g := (mkF m 11 #[rv d, rv ta, rv va, iv (3 : Int32), iv (2 : Int32), .unset] [(.int (9 : Int32)), (.ref d)])) rfl rfl (hb hby dm4_11) _ ?_
    refine XS.aloadN X0.here hx rfl (hb hby dm4_12) rfl rfl ?_
    refine XS.iloadN X0.here hx rfl (hb hby dm4_13) rfl ?_
    refine XS.iconst X0.here hx rfl (hb hby dm4_14) ?_
    refine XS.isub X0.here hx rfl (hb hby dm4_15) rfl ?_
    refine X0.caload hx (j := (2 : Int32)) (v := (.int t2)) (by rw [e0]; exact Ar2.1) (State.isArrayOf_alike hZ.alike Ar2.2.1) Ar2.2.2 (inb_of Sz2 (by decide)) (Has.at Hs2 (inb_of Sz2 (by decide)) rfl) (g := (mkF m 16 #[rv d, rv ta, rv va, iv (3 : Int32), iv (2 : Int32), .unset] [(.int (2 : Int32)), (.ref ta), (.int (Int32.ofNat (dl.getD 9 0)))])) rfl rfl (hb hby dm4_16) _ ?_
    refine XS.aloadN X0.here hx rfl (hb hby dm4_17) rfl rfl ?_
    refine XS.iload X0.here hx rfl (hb hby dm4_18) rfl ?_
    refine XS.iconst X0.here hx rfl (hb hby dm4_20) ?_
    refine XS.isub X0.here hx rfl (hb hby dm4_21) rfl ?_
    refine X0.caload hx (j := (1 : Int32)) (v := (.int v1)) (by rw [e0]; exact Ar3.1) (State.isArrayOf_alike hZ.alike Ar3.2.1) Ar3.2.2 (inb_of Sz3 (by decide)) (Has.at Hs3 (inb_of Sz3 (by decide)) rfl) (g := (mkF m 22 #[rv d, rv ta, rv va, iv (3 : Int32), iv (2 : Int32), .unset] [(.int (1 : Int32)), (.ref va), (.int t2), (.int (Int32.ofNat (dl.getD 9 0)))])) rfl rfl (hb hby dm4_22) _ ?_
    by_cases hc4_23 : t2 = v1
    · rw [show c0 = (0 : Int32) by rw [eq_c0, if_pos hc4_23]] at k
      skip
      refine XS.icmpNo X0.here hx rfl (hb hby dm4_23) rfl (teq hc4_23).2 ?_
      refine XS.iconst X0.here hx rfl (hb hby dm4_26) ?_
      refine XS.goto X0.here hx rfl (pc0 := 27) (pc' := 31) rfl (hb hby dm4_27) (by decide) (by decide) ?_
      exact k
    · rw [show c0 = (1 : Int32) by rw [eq_c0, if_neg hc4_23]] at k
      skip
      refine XS.icmpYes X0.here hx rfl (pc0 := 23) (pc' := 30) rfl (hb hby dm4_23) rfl (feq hc4_23).2 (by decide) (by decide) ?_
      refine XS.iconst X0.here hx rfl (hb hby dm4_30) ?_
      exact k
  have k6 : Goes p e below s₁ F0 s₁ (mkF m 32 #[rv d, rv ta, rv va, iv (3 : Int32), iv (2 : Int32), .unset] [(.int ((Int32.ofNat (dl.getD 9 0)) + c0))]) := by
    intro t k
    refine k5 _ ?_
    skip
    refine XS.iadd X0.here hx rfl (hb hby dm4_31) rfl ?_
    exact k
  rw [eq_c0, own_addb] at k6
  obtain ⟨y0, ey0⟩ : ∃ z : Nat, z = ((dl.getD 9 0) + if t2 = v1 then 0 else 1) := ⟨_, rfl⟩
  rw [← ey0] at k6
  have hy0 : y0 ≤ B + 1 := by rw [ey0]; split <;> omega
  obtain ⟨cl7, Ar7, qk7, Sz7, Nn7, Hs7, Gs7⟩ := id VD
  have k8 : Goes p e below s₁ F0 s₁ (mkF m 48 #[rv d, rv ta, rv va, iv (3 : Int32), iv (2 : Int32), iv (Int32.ofNat y0)] [(.int ((Int32.ofNat (dl.getD 10 0)) + (1 : Int32))), (.int (Int32.ofNat y0))]) := by
    intro t k
    refine k6 _ ?_
    skip
    refine XS.istore X0.here hx rfl (hb hby dm4_32) rfl (l' := #[rv d, rv ta, rv va, iv (3 : Int32), iv (2 : Int32), iv (Int32.ofNat y0)]) rfl ?_
    refine XS.iload X0.here hx rfl (hb hby dm4_34) rfl ?_
    refine XS.aloadN X0.here hx rfl (hb hby dm4_36) rfl rfl ?_
    refine XS.iloadN X0.here hx rfl (hb hby dm4_37) rfl ?_
    refine XS.iconst X0.here hx rfl (hb hby dm4_38) ?_
    refine XS.isub X0.here hx rfl (hb hby dm4_39) rfl ?_
    refine XS.iconst X0.here hx rfl (hb hby dm4_40) ?_
    refine XS.imul X0.here hx rfl (hb hby dm4_41) rfl ?_
    refine XS.iload X0.here hx rfl (hb hby dm4_42) rfl ?_
    refine XS.iadd X0.here hx rfl (hb hby dm4_44) rfl ?_
    refine X0.iaload hx (j := (10 : Int32)) (v := (.int (Int32.ofNat (dl.getD 10 0)))) (by rw [e0]; exact Ar7.1) (State.isArrayOf_alike hZ.alike Ar7.2.1) Ar7.2.2 (inb_of Sz7 (by decide)) (Has.at Hs7 (inb_of Sz7 (by decide)) (own_getI dl 10)) (g := (mkF m 45 #[rv d, rv ta, rv va, iv (3 : Int32), iv (2 : Int32), iv (Int32.ofNat y0)] [(.int (10 : Int32)), (.ref d), (.int (Int32.ofNat y0))])) rfl rfl (hb hby dm4_45) _ ?_
    refine XS.iconst X0.here hx rfl (hb hby dm4_46) ?_
    refine XS.iadd X0.here hx rfl (hb hby dm4_47) rfl ?_
    exact k
  rw [show ((Int32.ofNat (dl.getD 10 0)) + (1 : Int32)) = (Int32.ofNat ((dl.getD 10 0) + 1)) from own_add1 _] at k8
  obtain ⟨_, _, ⟨T9, L9, ck9, nk9⟩, -, X9, ⟨Lc9, hQ9, l9, y9, z9⟩, st9⟩ := Jvm.LawKit.callS X0 hx (y := (⟨"java/lang/Math", "min", "(II)I"⟩ : MethodName)) hown (mvT hZ (own_q hw 72 rfl)) (mvT hZ (own_q hw 73 rfl)) (mvT hZ (own_q hw 74 rfl)) (mvT hZ (own_q hw 75 rfl)) (by decide) (backOf (W := 0) (rmMin l Z a0 hw [] (Int32.ofNat y0) (Int32.ofNat ((dl.getD 10 0) + 1)) h0 n0 Z0) hZ (own_q hw 75 rfl) (own_q hw 74 rfl) (by decide) (by decide)) (g := (mkF m 48 #[rv d, rv ta, rv va, iv (3 : Int32), iv (2 : Int32), iv (Int32.ofNat y0)] [(.int (Int32.ofNat ((dl.getD 10 0) + 1))), (.int (Int32.ofNat y0))])) rfl (by rw [hml]; rfl) (argsL := [(.int (Int32.ofNat y0)), (.int (Int32.ofNat ((dl.getD 10 0) + 1)))]) (rest := []) (lenOf pd_0 rfl) rfl (by show 2 * 0 + _ ≤ _; exact Nat.le_of_eq rfl) (hb hby dm4_48) (fun _ _ => ⟨rfl, e0, (by decide : 0 + 0 ≤ _), (by decide : 0 + 0 ≤ _)⟩)
  dsimp only [Pt.U, Pt.locs, Pt.cells, Pt.slots] at X9 l9 y9 z9 st9 hQ9
  subst l9 y9 z9
  obtain ⟨rfl, N9q, e9⟩ := hQ9
  have N9 := Fr.app N0 N9q
  have k9 : Goes p e below s₁ F0 T9 (mkF m 51 #[rv d, rv ta, rv va, iv (3 : Int32), iv (2 : Int32), iv (Int32.ofNat y0)] [(.int (own_min (Int32.ofNat y0) (Int32.ofNat ((dl.getD 10 0) + 1))))]) := fun t k => k8 t (st9 _ k)
  rw [show (own_min (Int32.ofNat y0) (Int32.ofNat ((dl.getD 10 0) + 1))) = (Int32.ofNat (min y0 ((dl.getD 10 0) + 1))) from own_minN (by omega) (by omega)] at k9
  obtain ⟨y1, ey1⟩ : ∃ z : Nat, z = (min y0 ((dl.getD 10 0) + 1)) := ⟨_, rfl⟩
  rw [← ey1] at k9
  have hy1 : y1 ≤ B + 1 := by rw [ey1]; omega
  obtain ⟨cl10, Ar10, qk10, Sz10, Nn10, Hs10, Gs10⟩ := id VD
  have k11 : Goes p e below s₁ F0 T9 (mkF m 67 #[rv d, rv ta, rv va, iv (3 : Int32), iv (2 : Int32), iv (Int32.ofNat y1)] [(.int ((Int32.ofNat (dl.getD 13 0)) + (1 : Int32))), (.int (Int32.ofNat y1))]) := by
    intro t k
    refine k9 _ ?_
    skip
    refine XS.istore X9.here hx rfl (hb hby dm4_51) rfl (l' := #[rv d, rv ta, rv va, iv (3 : Int32), iv (2 : Int32), iv (Int32.ofNat y1)]) rfl ?_
    refine XS.iload X9.here hx rfl (hb hby dm4_53) rfl ?_
    refine XS.aloadN X9.here hx rfl (hb hby dm4_55) rfl rfl ?_
    refine XS.iloadN X9.here hx rfl (hb hby dm4_56) rfl ?_
    refine XS.iconst X9.here hx rfl (hb hby dm4_57) ?_
    refine XS.imul X9.here hx rfl (hb hby dm4_58) rfl ?_
    refine XS.iload X9.here hx rfl (hb hby dm4_59) rfl ?_
    refine XS.iadd X9.here hx rfl (hb hby dm4_61) rfl ?_
    refine XS.iconst X9.here hx rfl (hb hby dm4_62) ?_
    refine XS.isub X9.here hx rfl (hb hby dm4_63) rfl ?_
    refine X9.iaload hx (j := (13 : Int32)) (v := (.int (Int32.ofNat (dl.getD 13 0)))) (by rw [e9]; exact Ar10.1) (State.isArrayOf_alike hZ.alike Ar10.2.1) Ar10.2.2 (inb_of Sz10 (by decide)) (Has.at Hs10 (inb_of Sz10 (by decide)) (own_getI dl 13)) (g := (mkF m 64 #[rv d, rv ta, rv va, iv (3 : Int32), iv (2 : Int32), iv (Int32.ofNat y1)] [(.int (13 : Int32)), (.ref d), (.int (Int32.ofNat y1))])) rfl rfl (hb hby dm4_64) _ ?_
    refine XS.iconst X9.here hx rfl (hb hby dm4_65) ?_
    refine XS.iadd X9.here hx rfl (hb hby dm4_66) rfl ?_
    exact k
  rw [show ((Int32.ofNat (dl.getD 13 0)) + (1 : Int32)) = (Int32.ofNat ((dl.getD 13 0) + 1)) from own_add1 _] at k11
  obtain ⟨_, _, ⟨T12, L12, ck12, nk12⟩, -, X12, ⟨Lc12, hQ12, l12, y12, z12⟩, st12⟩ := Jvm.LawKit.callS X9 hx (y := (⟨"java/lang/Math", "min", "(II)I"⟩ : MethodName)) hown (mvT hZ (own_q hw 72 rfl)) (mvT hZ (own_q hw 73 rfl)) (mvT hZ (own_q hw 74 rfl)) (mvT hZ (own_q hw 75 rfl)) (by decide) (backOf (W := 0) (rmMin l Z a0 hw [] (Int32.ofNat y1) (Int32.ofNat ((dl.getD 13 0) + 1)) h0 n0 Z0) hZ (own_q hw 75 rfl) (own_q hw 74 rfl) (by decide) (by decide)) (g := (mkF m 67 #[rv d, rv ta, rv va, iv (3 : Int32), iv (2 : Int32), iv (Int32.ofNat y1)] [(.int (Int32.ofNat ((dl.getD 13 0) + 1))), (.int (Int32.ofNat y1))])) rfl (by rw [hml]; rfl) (argsL := [(.int (Int32.ofNat y1)), (.int (Int32.ofNat ((dl.getD 13 0) + 1)))]) (rest := []) (lenOf pd_0 rfl) rfl (by show 2 * 0 + _ ≤ _; exact Nat.le_of_eq rfl) (hb hby dm4_67) (fun _ _ => ⟨rfl, e9, (by decide : 0 + 0 ≤ _), (by decide : 0 + 0 ≤ _)⟩)
  dsimp only [Pt.U, Pt.locs, Pt.cells, Pt.slots] at X12 l12 y12 z12 st12 hQ12
  subst l12 y12 z12
  obtain ⟨rfl, N12q, e12⟩ := hQ12
  have N12 := Fr.app N9 N12q
  have k12 : Goes p e below s₁ F0 T12 (mkF m 70 #[rv d, rv ta, rv va, iv (3 : Int32), iv (2 : Int32), iv (Int32.ofNat y1)] [(.int (own_min (Int32.ofNat y1) (Int32.ofNat ((dl.getD 13 0) + 1))))]) := fun t k => k11 t (st12 _ k)
  rw [show (own_min (Int32.ofNat y1) (Int32.ofNat ((dl.getD 13 0) + 1))) = (Int32.ofNat (min y1 ((dl.getD 13 0) + 1))) from own_minN (by omega) (by omega)] at k12
  obtain ⟨y2, ey2⟩ : ∃ z : Nat, z = (min y1 ((dl.getD 13 0) + 1)) := ⟨_, rfl⟩
  rw [← ey2] at k12
  have hy2 : y2 ≤ B + 1 := by rw [ey2]; omega
  obtain ⟨cl13, Ar13, qk13, Sz13, Nn13, Hs13, Gs13⟩ := id VT
  obtain ⟨cl14, Ar14, qk14, Sz14, Nn14, Hs14, Gs14⟩ := id VW
  have k15 : Goes p e below s₁ F0 T12 (mkF m 94 #[rv d, rv ta, rv va, iv (3 : Int32), iv (2 : Int32), iv (Int32.ofNat y2)] [(.int v0), (.int t2)]) := by
    intro t k
    refine k12 _ ?_
    skip
    refine XS.istore X12.here hx rfl (hb hby dm4_70) rfl (l' := #[rv d, rv ta, rv va, iv (3 : Int32), iv (2 : Int32), iv (Int32.ofNat y2)]) rfl ?_
    refine XS.iloadN X12.here hx rfl (hb hby dm4_72) rfl ?_
    refine XS.iconst X12.here hx rfl (hb hby dm4_73) ?_
    refine XS.icmpNo X12.here hx rfl (hb hby dm4_74) rfl (tlt (by decide)).2.2.2 ?_
    refine XS.iload X12.here hx rfl (hb hby dm4_77) rfl ?_
    refine XS.iconst X12.here hx rfl (hb hby dm4_79) ?_
    refine XS.icmpNo X12.here hx rfl (hb hby dm4_80) rfl (tlt (by decide)).2.2.2 ?_
    refine XS.aloadN X12.here hx rfl (hb hby dm4_83) rfl rfl ?_
    refine XS.iloadN X12.here hx rfl (hb hby dm4_84) rfl ?_
    refine XS.iconst X12.here hx rfl (hb hby dm4_85) ?_
    refine XS.isub X12.here hx rfl (hb hby dm4_86) rfl ?_
    refine X12.caload hx (j := (2 : Int32)) (v := (.int t2)) (by rw [e12]; exact Ar13.1) (State.isArrayOf_alike hZ.alike Ar13.2.1) Ar13.2.2 (inb_of Sz13 (by decide)) (Has.at Hs13 (inb_of Sz13 (by decide)) rfl) (g := (mkF m 87 #[rv d, rv ta, rv va, iv (3 : Int32), iv (2 : Int32), iv (Int32.ofNat y2)] [(.int (2 : Int32)), (.ref ta)])) rfl rfl (hb hby dm4_87) _ ?_
    refine XS.aloadN X12.here hx rfl (hb hby dm4_88) rfl rfl ?_
    refine XS.iload X12.here hx rfl (hb hby dm4_89) rfl ?_
    refine XS.iconst X12.here hx rfl (hb hby dm4_91) ?_
    refine XS.isub X12.here hx rfl (hb hby dm4_92) rfl ?_
    refine X12.caload hx (j := (0 : Int32)) (v := (.int v0)) (by rw [e12]; exact Ar14.1) (State.isArrayOf_alike hZ.alike Ar14.2.1) Ar14.2.2 (inb_of Sz14 (by decide)) (Has.at Hs14 (inb_of Sz14 (by decide)) rfl) (g := (mkF m 93 #[rv d, rv ta, rv va, iv (3 : Int32), iv (2 : Int32), iv (Int32.ofNat y2)] [(.int (0 : Int32)), (.ref va), (.int t2)])) rfl rfl (hb hby dm4_93) _ ?_
    exact k
  by_cases hq1 : t2 = v0
  · obtain ⟨cl16, Ar16, qk16, Sz16, Nn16, Hs16, Gs16⟩ := id VT
    obtain ⟨cl17, Ar17, qk17, Sz17, Nn17, Hs17, Gs17⟩ := id VW
    have k18 : Goes p e below s₁ F0 T12 (mkF m 108 #[rv d, rv ta, rv va, iv (3 : Int32), iv (2 : Int32), iv (Int32.ofNat y2)] [(.int v1), (.int t1)]) := by
      intro t k
      refine k15 _ ?_
      skip
      refine XS.icmpNo X12.here hx rfl (hb hby dm4_94) rfl (teq hq1).2 ?_
      refine XS.aloadN X12.here hx rfl (hb hby dm4_97) rfl rfl ?_
      refine XS.iloadN X12.here hx rfl (hb hby dm4_98) rfl ?_
      refine XS.iconst X12.here hx rfl (hb hby dm4_99) ?_
      refine XS.isub X12.here hx rfl (hb hby dm4_100) rfl ?_
      refine X12.caload hx (j := (1 : Int32)) (v := (.int t1)) (by rw [e12]; exact Ar16.1) (State.isArrayOf_alike hZ.alike Ar16.2.1) Ar16.2.2 (inb_of Sz16 (by decide)) (Has.at Hs16 (inb_of Sz16 (by decide)) rfl) (g := (mkF m 101 #[rv d, rv ta, rv va, iv (3 : Int32), iv (2 : Int32), iv (Int32.ofNat y2)] [(.int (1 : Int32)), (.ref ta)])) rfl rfl (hb hby dm4_101) _ ?_
      refine XS.aloadN X12.here hx rfl (hb hby dm4_102) rfl rfl ?_
      refine XS.iload X12.here hx rfl (hb hby dm4_103) rfl ?_
      refine XS.iconst X12.here hx rfl (hb hby dm4_105) ?_
      refine XS.isub X12.here hx rfl (hb hby dm4_106) rfl ?_
      refine X12.caload hx (j := (1 : Int32)) (v := (.int v1)) (by rw [e12]; exact Ar17.1) (State.isArrayOf_alike hZ.alike Ar17.2.1) Ar17.2.2 (inb_of Sz17 (by decide)) (Has.at Hs17 (inb_of Sz17 (by decide)) rfl) (g := (mkF m 107 #[rv d, rv ta, rv va, iv (3 : Int32), iv (2 : Int32), iv (Int32.ofNat y2)] [(.int (1 : Int32)), (.ref va), (.int t1)])) rfl rfl (hb hby dm4_107) _ ?_
      exact k
    by_cases hq2 : t1 = v1
    · obtain ⟨cl19, Ar19, qk19, Sz19, Nn19, Hs19, Gs19⟩ := id VD
      have k20 : Goes p e below s₁ F0 T12 (mkF m 127 #[rv d, rv ta, rv va, iv (3 : Int32), iv (2 : Int32), iv (Int32.ofNat y2)] [(.int ((Int32.ofNat (dl.getD 4 0)) + (1 : Int32))), (.int (Int32.ofNat y2))]) := by
        intro t k
        refine k18 _ ?_
        skip
        refine XS.icmpNo X12.here hx rfl (hb hby dm4_108) rfl (teq hq2).2 ?_
        refine XS.iload X12.here hx rfl (hb hby dm4_111) rfl ?_
        refine XS.aloadN X12.here hx rfl (hb hby dm4_113) rfl rfl ?_
        refine XS.iloadN X12.here hx rfl (hb hby dm4_114) rfl ?_
        refine XS.iconst X12.here hx rfl (hb hby dm4_115) ?_
        refine XS.isub X12.here hx rfl (hb hby dm4_116) rfl ?_
        refine XS.iconst X12.here hx rfl (hb hby dm4_117) ?_
        refine XS.imul X12.here hx rfl (hb hby dm4_118) rfl ?_
        refine XS.iload X12.here hx rfl (hb hby dm4_119) rfl ?_
        refine XS.iadd X12.here hx rfl (hb hby dm4_121) rfl ?_
        refine XS.iconst X12.here hx rfl (hb hby dm4_122) ?_
        refine XS.isub X12.here hx rfl (hb hby dm4_123) rfl ?_
        refine X12.iaload hx (j := (4 : Int32)) (v := (.int (Int32.ofNat (dl.getD 4 0)))) (by rw [e12]; exact Ar19.1) (State.isArrayOf_alike hZ.alike Ar19.2.1) Ar19.2.2 (inb_of Sz19 (by decide)) (Has.at Hs19 (inb_of Sz19 (by decide)) (own_getI dl 4)) (g := (mkF m 124 #[rv d, rv ta, rv va, iv (3 : Int32), iv (2 : Int32), iv (Int32.ofNat y2)] [(.int (4 : Int32)), (.ref d), (.int (Int32.ofNat y2))])) rfl rfl (hb hby dm4_124) _ ?_
        refine XS.iconst X12.here hx rfl (hb hby dm4_125) ?_
        refine XS.iadd X12.here hx rfl (hb hby dm4_126) rfl ?_
        exact k
      rw [show ((Int32.ofNat (dl.getD 4 0)) + (1 : Int32)) = (Int32.ofNat ((dl.getD 4 0) + 1)) from own_add1 _] at k20
      obtain ⟨_, _, ⟨T21, L21, ck21, nk21⟩, -, X21, ⟨Lc21, hQ21, l21, y21, z21⟩, st21⟩ := Jvm.LawKit.callS X12 hx (y := (⟨"java/lang/Math", "min", "(II)I"⟩ : MethodName)) hown (mvT hZ (own_q hw 72 rfl)) (mvT hZ (own_q hw 73 rfl)) (mvT hZ (own_q hw 74 rfl)) (mvT hZ (own_q hw 75 rfl)) (by decide) (backOf (W := 0) (rmMin l Z a0 hw [] (Int32.ofNat y2) (Int32.ofNat ((dl.getD 4 0) + 1)) h0 n0 Z0) hZ (own_q hw 75 rfl) (own_q hw 74 rfl) (by decide) (by decide)) (g := (mkF m 127 #[rv d, rv ta, rv va, iv (3 : Int32), iv (2 : Int32), iv (Int32.ofNat y2)] [(.int (Int32.ofNat ((dl.getD 4 0) + 1))), (.int (Int32.ofNat y2))])) rfl (by rw [hml]; rfl) (argsL := [(.int (Int32.ofNat y2)), (.int (Int32.ofNat ((dl.getD 4 0) + 1)))]) (rest := []) (lenOf pd_0 rfl) rfl (by show 2 * 0 + _ ≤ _; exact Nat.le_of_eq rfl) (hb hby dm4_127) (fun _ _ => ⟨rfl, e12, (by decide : 0 + 0 ≤ _), (by decide : 0 + 0 ≤ _)⟩)
      dsimp only [Pt.U, Pt.locs, Pt.cells, Pt.slots] at X21 l21 y21 z21 st21 hQ21
      subst l21 y21 z21
      obtain ⟨rfl, N21q, e21⟩ := hQ21
      have N21 := Fr.app N12 N21q
      have k21 : Goes p e below s₁ F0 T21 (mkF m 130 #[rv d, rv ta, rv va, iv (3 : Int32), iv (2 : Int32), iv (Int32.ofNat y2)] [(.int (own_min (Int32.ofNat y2) (Int32.ofNat ((dl.getD 4 0) + 1))))]) := fun t k => k20 t (st21 _ k)
      rw [show (own_min (Int32.ofNat y2) (Int32.ofNat ((dl.getD 4 0) + 1))) = (Int32.ofNat (min y2 ((dl.getD 4 0) + 1))) from own_minN (by omega) (by omega)] at k21
      obtain ⟨y3, ey3⟩ : ∃ z : Nat, z = (min y2 ((dl.getD 4 0) + 1)) := ⟨_, rfl⟩
      rw [← ey3] at k21
      have hy3 : y3 ≤ B + 1 := by rw [ey3]; omega
      have k22 : Goes p e below s₁ F0 T21 (mkF m 141 #[rv d, rv ta, rv va, iv (3 : Int32), iv (2 : Int32), iv (Int32.ofNat y3)] [(.int (Int32.ofNat y3)), (.int (14 : Int32)), (.ref d)]) := by
        intro t k
        refine k21 _ ?_
        skip
        refine XS.istore X21.here hx rfl (hb hby dm4_130) rfl (l' := #[rv d, rv ta, rv va, iv (3 : Int32), iv (2 : Int32), iv (Int32.ofNat y3)]) rfl ?_
        refine XS.aloadN X21.here hx rfl (hb hby dm4_132) rfl rfl ?_
        refine XS.iloadN X21.here hx rfl (hb hby dm4_133) rfl ?_
        refine XS.iconst X21.here hx rfl (hb hby dm4_134) ?_
        refine XS.imul X21.here hx rfl (hb hby dm4_135) rfl ?_
        refine XS.iload X21.here hx rfl (hb hby dm4_136) rfl ?_
        refine XS.iadd X21.here hx rfl (hb hby dm4_138) rfl ?_
        refine XS.iload X21.here hx rfl (hb hby dm4_139) rfl ?_
        exact k
      have hnew : (own_dc (dl.getD 9 0) (dl.getD 10 0) (dl.getD 13 0) (dl.getD 4 0) (t2 = v1) (t2 = v0 ∧ t1 = v1)) = y3 := by rw [ey3, ey2, ey1, ey0, own_dc, if_pos ⟨hq1, hq2⟩]
      obtain ⟨cl23, Ar23, qk23, Sz23, Nn23, Hs23, Gs23⟩ := id VD
      obtain ⟨T24, h24, X24, e24, W24, st24⟩ := stI X21 hx hZ e21 Ar23 (j := (14 : Int32)) (inb_of Sz23 (by decide)) (g := (mkF m 141 #[rv d, rv ta, rv va, iv (3 : Int32), iv (2 : Int32), iv (Int32.ofNat y3)] [(.int (Int32.ofNat y3)), (.int (14 : Int32)), (.ref d)])) rfl rfl (hb hby dm4_141)
      have N24 := Fr.snoc X24 N21 gd
      have V24 : Arv Z h24 d kd .int (16 : Int32) (own_I (dl.set 14 y3)) (.int (0 : Int32)) := by
        rw [← own_setI]
        exact Arv.set Ar23 qk23 Sz23 Nn23 Hs23 Gs23 rfl W24 14 rfl (by rw [own_lenI, hl]; decide)
      have k24 : Goes p e below s₁ F0 T24 (mkF m 142 #[rv d, rv ta, rv va, iv (3 : Int32), iv (2 : Int32), iv (Int32.ofNat y3)] []) := fun t k => k22 t (st24 _ k)
      have Z25 : n0 ≤ h24.size := Nat.le_trans Z0 (Keep.of_wr W24).1
      have kp26 : Keep h0 h24 [d] := ((Keep.refl h0 [d]).wr W24 (Or.inl (List.mem_of_getElem? (i := 0) rfl)))
      subst eF0
      obtain ⟨fs, hr, hrun, hended, hW, hsame⟩ := X24.leave (v := none) (fun h => rfl)
      refine ⟨_, _, k24 _ ?_, hrun, hended, _, _, rfl, ?_, ⟨_, rfl⟩, hW, hsame.mono (Nat.le_of_ble_eq_true rfl) (Nat.le_of_ble_eq_true rfl)⟩
      · exact X24.returnOut hx Bd.returns (hb hby dm4_142) hr
      · show QCe32 Z d ta va kd kt kv dl B t0 t1 t2 v0 v1 v2 h0 n0 _ T24.heap _
        rw [e24]
        exact ⟨rfl, N24, kp26, by rw [hnew]; exact V24⟩
    · have k27 : Goes p e below s₁ F0 T12 (mkF m 141 #[rv d, rv ta, rv va, iv (3 : Int32), iv (2 : Int32), iv (Int32.ofNat y2)] [(.int (Int32.ofNat y2)), (.int (14 : Int32)), (.ref d)]) := by
        intro t k
        refine k18 _ ?_
        skip
        refine XS.icmpYes X12.here hx rfl (pc0 := 108) (pc' := 132) rfl (hb hby dm4_108) rfl (feq hq2).2 (by decide) (by decide) ?_
        refine XS.aloadN X12.here hx rfl (hb hby dm4_132) rfl rfl ?_
        refine XS.iloadN X12.here hx rfl (hb hby dm4_133) rfl ?_
        refine XS.iconst X12.here hx rfl (hb hby dm4_134) ?_
        refine XS.imul X12.here hx rfl (hb hby dm4_135) rfl ?_
        refine XS.iload X12.here hx rfl (hb hby dm4_136) rfl ?_
        refine XS.iadd X12.here hx rfl (hb hby dm4_138) rfl ?_
        refine XS.iload X12.here hx rfl (hb hby dm4_139) rfl ?_
        exact k
      have hnew : (own_dc (dl.getD 9 0) (dl.getD 10 0) (dl.getD 13 0) (dl.getD 4 0) (t2 = v1) (t2 = v0 ∧ t1 = v1)) = y2 := by rw [ey2, ey1, ey0, own_dc, if_neg (fun q => hq2 q.2)]
      obtain ⟨cl28, Ar28, qk28, Sz28, Nn28, Hs28, Gs28⟩ := id VD
      obtain ⟨T29, h29, X29, e29, W29, st29⟩ := stI X12 hx hZ e12 Ar28 (j := (14 : Int32)) (inb_of Sz28 (by decide)) (g := (mkF m 141 #[rv d, rv ta, rv va, iv (3 : Int32), iv (2 : Int32), iv (Int32.ofNat y2)] [(.int (Int32.ofNat y2)), (.int (14 : Int32)), (.ref d)])) rfl rfl (hb hby dm4_141)
      have N29 := Fr.snoc X29 N12 gd
      have V29 : Arv Z h29 d kd .int (16 : Int32) (own_I (dl.set 14 y2)) (.int (0 : Int32)) := by
        rw [← own_setI]
        exact Arv.set Ar28 qk28 Sz28 Nn28 Hs28 Gs28 rfl W29 14 rfl (by rw [own_lenI, hl]; decide)
      have k29 : Goes p e below s₁ F0 T29 (mkF m 142 #[rv d, rv ta, rv va, iv (3 : Int32), iv (2 : Int32), iv (Int32.ofNat y2)] []) := fun t k => k27 t (st29 _ k)
      have Z30 : n0 ≤ h29.size := Nat.le_trans Z0 (Keep.of_wr W29).1
      have kp31 : Keep h0 h29 [d] := ((Keep.refl h0 [d]).wr W29 (Or.inl (List.mem_of_getElem? (i := 0) rfl)))
      subst eF0
      obtain ⟨fs, hr, hrun, hended, hW, hsame⟩ := X29.leave (v := none) (fun h => rfl)
      refine ⟨_, _, k29 _ ?_, hrun, hended, _, _, rfl, ?_, ⟨_, rfl⟩, hW, hsame.mono (Nat.le_of_ble_eq_true rfl) (Nat.le_of_ble_eq_true rfl)⟩
      · exact X29.returnOut hx Bd.returns (hb hby dm4_142) hr
      · show QCe32 Z d ta va kd kt kv dl B t0 t1 t2 v0 v1 v2 h0 n0 _ T29.heap _
        rw [e29]
        exact ⟨rfl, N29, kp31, by rw [hnew]; exact V29⟩
  · have k32 : Goes p e below s₁ F0 T12 (mkF m 141 #[rv d, rv ta, rv va, iv (3 : Int32), iv (2 : Int32), iv (Int32.ofNat y2)] [(.int (Int32.ofNat y2)), (.int (14 : Int32)), (.ref d)]) := by
      intro t k
      refine k15 _ ?_
      skip
      refine XS.icmpYes X12.here hx rfl (pc0 := 94) (pc' := 132) rfl (hb hby dm4_94) rfl (feq hq1).2 (by decide) (by decide) ?_
      refine XS.aloadN X12.here hx rfl (hb hby dm4_132) rfl rfl ?_
      refine XS.iloadN X12.here hx rfl (hb hby dm4_133) rfl ?_
      refine XS.iconst X12.here hx rfl (hb hby dm4_134) ?_
      refine XS.imul X12.here hx rfl (hb hby dm4_135) rfl ?_
      refine XS.iload X12.here hx rfl (hb hby dm4_136) rfl ?_
      refine XS.iadd X12.here hx rfl (hb hby dm4_138) rfl ?_
      refine XS.iload X12.here hx rfl (hb hby dm4_139) rfl ?_
      exact k
    have hnew : (own_dc (dl.getD 9 0) (dl.getD 10 0) (dl.getD 13 0) (dl.getD 4 0) (t2 = v1) (t2 = v0 ∧ t1 = v1)) = y2 := by rw [ey2, ey1, ey0, own_dc, if_neg (fun q => hq1 q.1)]
    obtain ⟨cl33, Ar33, qk33, Sz33, Nn33, Hs33, Gs33⟩ := id VD
    obtain ⟨T34, h34, X34, e34, W34, st34⟩ := stI X12 hx hZ e12 Ar33 (j := (14 : Int32)) (inb_of Sz33 (by decide)) (g := (mkF m 141 #[rv d, rv ta, rv va, iv (3 : Int32), iv (2 : Int32), iv (Int32.ofNat y2)] [(.int (Int32.ofNat y2)), (.int (14 : Int32)), (.ref d)])) rfl rfl (hb hby dm4_141)
    have N34 := Fr.snoc X34 N12 gd
    have V34 : Arv Z h34 d kd .int (16 : Int32) (own_I (dl.set 14 y2)) (.int (0 : Int32)) := by
      rw [← own_setI]
      exact Arv.set Ar33 qk33 Sz33 Nn33 Hs33 Gs33 rfl W34 14 rfl (by rw [own_lenI, hl]; decide)
    have k34 : Goes p e below s₁ F0 T34 (mkF m 142 #[rv d, rv ta, rv va, iv (3 : Int32), iv (2 : Int32), iv (Int32.ofNat y2)] []) := fun t k => k32 t (st34 _ k)
    have Z35 : n0 ≤ h34.size := Nat.le_trans Z0 (Keep.of_wr W34).1
    have kp36 : Keep h0 h34 [d] := ((Keep.refl h0 [d]).wr W34 (Or.inl (List.mem_of_getElem? (i := 0) rfl)))
    subst eF0
    obtain ⟨fs, hr, hrun, hended, hW, hsame⟩ := X34.leave (v := none) (fun h => rfl)
    refine ⟨_, _, k34 _ ?_, hrun, hended, _, _, rfl, ?_, ⟨_, rfl⟩, hW, hsame.mono (Nat.le_of_ble_eq_true rfl) (Nat.le_of_ble_eq_true rfl)⟩
    · exact X34.returnOut hx Bd.returns (hb hby dm4_142) hr
    · show QCe32 Z d ta va kd kt kv dl B t0 t1 t2 v0 v1 v2 h0 n0 _ T34.heap _
      rw [e34]
      exact ⟨rfl, N34, kp36, by rw [hnew]; exact V34⟩
theorem ef_Ce33 (m : MethodId) (x0 : Addr) (x1 : Addr) (x2 : Addr) (x3 : Int32) (x4 : Int32) : entryFrame m #[(.ref x0), (.ref x1), (.ref x2), (.int x3), (.int x4)] 6 = mkF m 0 #[rv x0, rv x1, rv x2, iv x3, iv x4, .unset] [] := by first | (simp [entryFrame, mkF, argsToLocals, Value.category]; done) | rfl
def QCe33 (Z : State) (d : Addr) (ta : Addr) (va : Addr) (kd : ClassId) (kt : ClassId) (kv : ClassId) (dl : List Nat) (B : Nat) (t0 : Int32) (t1 : Int32) (t2 : Int32) (v0 : Int32) (v1 : Int32) (v2 : Int32) (h0 : Heap) (n0 : Nat) (v : Option Value) (h : Heap) (L : List Loc) : Prop := v = none ∧ Fr n0 L ∧ Keep h0 h [d] ∧ Arv Z h d kd .int (16 : Int32) (own_I (dl.set 15 (own_dc (dl.getD 10 0) (dl.getD 11 0) (dl.getD 14 0) (dl.getD 5 0) (t2 = v2) (t2 = v1 ∧ t1 = v2)))) (.int (0 : Int32))
set_option maxRecDepth 65536 in
set_option maxHeartbeats 40000000 in
theorem rmCe33 (l : Launch) (Z : State) (a0 : Array Value) (hw : ∀ d ∈ tables_1, d.before a0 Z = true) (ws : List Jvm.Cond) (d : Addr) (ta : Addr) (va : Addr) (kd : ClassId) (kt : ClassId) (kv : ClassId) (dl : List Nat) (B : Nat) (t0 : Int32) (t1 : Int32) (t2 : Int32) (v0 : Int32) (v1 : Int32) (v2 : Int32) (h0 : Heap) (n0 : Nat) (Z0 : n0 ≤ h0.size) (VD : Arv Z h0 d kd .int (16 : Int32) (own_I dl) (.int (0 : Int32))) (VT : Arv Z h0 ta kt .char (3 : Int32) [(.int t0), (.int t1), (.int t2)] (.int (0 : Int32))) (VW : Arv Z h0 va kv .char (3 : Int32) [(.int v0), (.int v1), (.int v2)] (.int (0 : Int32))) (hl : dl.length = 16) (hB : ∀ k, dl.getD k 0 ≤ B) (hB1 : B ≤ 100) (gd : n0 ≤ d) :
    MetFree l (⟨"com/example/catchment/catchment/linkage/EditDistanceBeyondPinLaw", "cell", "([I[C[CII)V"⟩ : MethodName) (head1 (Jvm.Cond.code (⟨"com/example/catchment/catchment/linkage/EditDistanceBeyondPinLaw", "cell", "([I[C[CII)V"⟩ : MethodName) method_4_code 6 none :: ws) ({ frames := 1, cells := 0, slots := 0, locals := 17 } : Room)) (fun A_ U => A_ = #[(.ref d), (.ref ta), (.ref va), (.int (3 : Int32)), (.int (3 : Int32))] ∧ Z.Warmed39 U.vm ∧ U.heap = h0) (fun _ _ _ _ _ => True) (fun _ U o U' => ∃ v L, o = .returned v ∧ QCe33 Z d ta va kd kt kv dl B t0 t1 t2 v0 v1 v2 h0 n0 v U'.heap L ∧ FrameEnd U o U' L ({ frames := 1, cells := 0, slots := 0, locals := 17 } : Room).cells ({ frames := 1, cells := 0, slots := 0, locals := 17 } : Room).slots) := by
  refine MetFree.of_bodySF (plainFor_of_name pn_0) hisR ?_
  intro p e s m args below meth c s₁ Bd hml0 hP hK
  obtain ⟨rfl, hZ, hh⟩ := hP
  have hx := Bd.exec
  have hby := Bd.bytes
  have hml : c.maxLocals = 6 := hml0
  have hown : s.vm.findClass "com/example/catchment/catchment/linkage/EditDistanceBeyondPinLaw" = some m.cls := findClass_of_methodNamed Bd.named
  have hnm := (name_of_methodNamed Bd.named Bd.method).1
  have X0 : Stand p l e ({ frames := 1, cells := 0, slots := 0, locals := 17 } : Room) s m #[(.ref d), (.ref ta), (.ref va), (.int (3 : Int32)), (.int (3 : Int32))] below meth c s₁ [] 0 0 := Stand.of_body Bd
  have e0 : s₁.heap = h0 := by rw [← hh, Bd.state]; rfl
  have N0 := Fr.nil n0
  obtain ⟨F0, eF0⟩ : ∃ f : JFrame, f = entryFrame m #[(.ref d), (.ref ta), (.ref va), (.int (3 : Int32)), (.int (3 : Int32))] 6 := ⟨_, rfl⟩
  have k0 : Goes p e below s₁ F0 s₁ (mkF m 0 #[rv d, rv ta, rv va, iv (3 : Int32), iv (3 : Int32), .unset] []) := fun t k => by subst eF0; exact castTop (ef_Ce33 m d ta va ((3 : Int32)) ((3 : Int32))) k
  have hb10 := hB 10
  have hb11 := hB 11
  have hb5 := hB 5
  have hb14 := hB 14
  obtain ⟨cl1, Ar1, qk1, Sz1, Nn1, Hs1, Gs1⟩ := id VD
  obtain ⟨cl2, Ar2, qk2, Sz2, Nn2, Hs2, Gs2⟩ := id VT
  obtain ⟨cl3, Ar3, qk3, Sz3, Nn3, Hs3, Gs3⟩ := id VW
  obtain ⟨c0, eq_c0⟩ : ∃ z : Int32, z = (if t2 = v2 then (0 : Int32) else (1 : Int32)) := ⟨_, rfl⟩
  have k5 : Goes p e below s₁ F0 s₁ (mkF m 31 #[rv d, rv ta, rv va, iv (3 : Int32), iv (3 : Int32), .unset] [(.int c0), (.int (Int32.ofNat (dl.getD 10 0)))]) := by
    intro t k
    refine k0 _ ?_
    skip
    refine XS.aloadN X0.here hx rfl (hb hby dm4_0) rfl rfl ?_
    refine XS.iloadN X0.here hx rfl (hb hby dm4_1) rfl ?_
    refine XS.iconst X0.here hx rfl (hb hby dm4_2) ?_
    refine XS.isub X0.here hx rfl (hb hby dm4_3) rfl ?_
    refine XS.iconst X0.here hx rfl (hb hby dm4_4) ?_
    refine XS.imul X0.here hx rfl (hb hby dm4_5) rfl ?_
    refine XS.iload X0.here hx rfl (hb hby dm4_6) rfl ?_
    refine XS.iadd X0.here hx rfl (hb hby dm4_8) rfl ?_
    refine XS.iconst X0.here hx rfl (hb hby dm4_9) ?_
    refine XS.isub X0.here hx rfl (hb hby dm4_10) rfl ?_
    refine X0.iaload hx (j := (10 : Int32)) (v := (.int (Int32.ofNat (dl.getD 10 0)))) (by rw [e0]; exact Ar1.1) (State.isArrayOf_alike hZ.alike Ar1.2.1) Ar1.2.2 (inb_of Sz1 (by decide)) (Has.at Hs1 (inb_of Sz1 (by decide)) (own_getI dl 10)) (g := (mkF m 11 #[rv d, rv ta, rv va, iv (3 : Int32), iv (3 : Int32), .unset] [(.int (10 : Int32)), (.ref d)])) rfl rfl (hb hby dm4_11) _ ?_
    refine XS.aloadN X0.here hx rfl (hb hby dm4_12) rfl rfl ?_
    refine XS.iloadN X0.here hx rfl (hb hby dm4_13) rfl ?_
    refine XS.iconst X0.here hx rfl (hb hby dm4_14) ?_
    refine XS.isub X0.here hx rfl (hb hby dm4_15) rfl ?_
    refine X0.caload hx (j := (2 : Int32)) (v := (.int t2)) (by rw [e0]; exact Ar2.1) (State.isArrayOf_alike hZ.alike Ar2.2.1) Ar2.2.2 (inb_of Sz2 (by decide)) (Has.at Hs2 (inb_of Sz2 (by decide)) rfl) (g := (mkF m 16 #[rv d, rv ta, rv va, iv (3 : Int32), iv (3 : Int32), .unset] [(.int (2 : Int32)), (.ref ta), (.int (Int32.ofNat (dl.getD 10 0)))])) rfl rfl (hb hby dm4_16) _ ?_
    refine XS.aloadN X0.here hx rfl (hb hby dm4_17) rfl rfl ?_
    refine XS.iload X0.here hx rfl (hb hby dm4_18) rfl ?_
    refine XS.iconst X0.here hx rfl (hb hby dm4_20) ?_
    refine XS.isub X0.here hx rfl (hb hby dm4_21) rfl ?_
    refine X0.caload hx (j := (2 : Int32)) (v := (.int v2)) (by rw [e0]; exact Ar3.1) (State.isArrayOf_alike hZ.alike Ar3.2.1) Ar3.2.2 (inb_of Sz3 (by decide)) (Has.at Hs3 (inb_of Sz3 (by decide)) rfl) (g := (mkF m 22 #[rv d, rv ta, rv va, iv (3 : Int32), iv (3 : Int32), .unset] [(.int (2 : Int32)), (.ref va), (.int t2), (.int (Int32.ofNat (dl.getD 10 0)))])) rfl rfl (hb hby dm4_22) _ ?_
    by_cases hc4_23 : t2 = v2
    · rw [show c0 = (0 : Int32) by rw [eq_c0, if_pos hc4_23]] at k
      skip
      refine XS.icmpNo X0.here hx rfl (hb hby dm4_23) rfl (teq hc4_23).2 ?_
      refine XS.iconst X0.here hx rfl (hb hby dm4_26) ?_
      refine XS.goto X0.here hx rfl (pc0 := 27) (pc' := 31) rfl (hb hby dm4_27) (by decide) (by decide) ?_
      exact k
    · rw [show c0 = (1 : Int32) by rw [eq_c0, if_neg hc4_23]] at k
      skip
      refine XS.icmpYes X0.here hx rfl (pc0 := 23) (pc' := 30) rfl (hb hby dm4_23) rfl (feq hc4_23).2 (by decide) (by decide) ?_
      refine XS.iconst X0.here hx rfl (hb hby dm4_30) ?_
      exact k
  have k6 : Goes p e below s₁ F0 s₁ (mkF m 32 #[rv d, rv ta, rv va, iv (3 : Int32), iv (3 : Int32), .unset] [(.int ((Int32.ofNat (dl.getD 10 0)) + c0))]) := by
    intro t k
    refine k5 _ ?_
    skip
    refine XS.iadd X0.here hx rfl (hb hby dm4_31) rfl ?_
    exact k
  rw [eq_c0, own_addb] at k6
  obtain ⟨y0, ey0⟩ : ∃ z : Nat, z = ((dl.getD 10 0) + if t2 = v2 then 0 else 1) := ⟨_, rfl⟩
  rw [← ey0] at k6
  have hy0 : y0 ≤ B + 1 := by rw [ey0]; split <;> omega
  obtain ⟨cl7, Ar7, qk7, Sz7, Nn7, Hs7, Gs7⟩ := id VD
  have k8 : Goes p e below s₁ F0 s₁ (mkF m 48 #[rv d, rv ta, rv va, iv (3 : Int32), iv (3 : Int32), iv (Int32.ofNat y0)] [(.int ((Int32.ofNat (dl.getD 11 0)) + (1 : Int32))), (.int (Int32.ofNat y0))]) := by
    intro t k
    refine k6 _ ?_
    skip
    refine XS.istore X0.here hx rfl (hb hby dm4_32) rfl (l' := #[rv d, rv ta, rv va, iv (3 : Int32), iv (3 : Int32), iv (Int32.ofNat y0)]) rfl ?_
    refine XS.iload X0.here hx rfl (hb hby dm4_34) rfl ?_
    refine XS.aloadN X0.here hx rfl (hb hby dm4_36) rfl rfl ?_
    refine XS.iloadN X0.here hx rfl (hb hby dm4_37) rfl ?_
    refine XS.iconst X0.here hx rfl (hb hby dm4_38) ?_
    refine XS.isub X0.here hx rfl (hb hby dm4_39) rfl ?_
    refine XS.iconst X0.here hx rfl (hb hby dm4_40) ?_
    refine XS.imul X0.here hx rfl (hb hby dm4_41) rfl ?_
    refine XS.iload X0.here hx rfl (hb hby dm4_42) rfl ?_
    refine XS.iadd X0.here hx rfl (hb hby dm4_44) rfl ?_
    refine X0.iaload hx (j := (11 : Int32)) (v := (.int (Int32.ofNat (dl.getD 11 0)))) (by rw [e0]; exact Ar7.1) (State.isArrayOf_alike hZ.alike Ar7.2.1) Ar7.2.2 (inb_of Sz7 (by decide)) (Has.at Hs7 (inb_of Sz7 (by decide)) (own_getI dl 11)) (g := (mkF m 45 #[rv d, rv ta, rv va, iv (3 : Int32), iv (3 : Int32), iv (Int32.ofNat y0)] [(.int (11 : Int32)), (.ref d), (.int (Int32.ofNat y0))])) rfl rfl (hb hby dm4_45) _ ?_
    refine XS.iconst X0.here hx rfl (hb hby dm4_46) ?_
    refine XS.iadd X0.here hx rfl (hb hby dm4_47) rfl ?_
    exact k
  rw [show ((Int32.ofNat (dl.getD 11 0)) + (1 : Int32)) = (Int32.ofNat ((dl.getD 11 0) + 1)) from own_add1 _] at k8
  obtain ⟨_, _, ⟨T9, L9, ck9, nk9⟩, -, X9, ⟨Lc9, hQ9, l9, y9, z9⟩, st9⟩ := Jvm.LawKit.callS X0 hx (y := (⟨"java/lang/Math", "min", "(II)I"⟩ : MethodName)) hown (mvT hZ (own_q hw 72 rfl)) (mvT hZ (own_q hw 73 rfl)) (mvT hZ (own_q hw 74 rfl)) (mvT hZ (own_q hw 75 rfl)) (by decide) (backOf (W := 0) (rmMin l Z a0 hw [] (Int32.ofNat y0) (Int32.ofNat ((dl.getD 11 0) + 1)) h0 n0 Z0) hZ (own_q hw 75 rfl) (own_q hw 74 rfl) (by decide) (by decide)) (g := (mkF m 48 #[rv d, rv ta, rv va, iv (3 : Int32), iv (3 : Int32), iv (Int32.ofNat y0)] [(.int (Int32.ofNat ((dl.getD 11 0) + 1))), (.int (Int32.ofNat y0))])) rfl (by rw [hml]; rfl) (argsL := [(.int (Int32.ofNat y0)), (.int (Int32.ofNat ((dl.getD 11 0) + 1)))]) (rest := []) (lenOf pd_0 rfl) rfl (by show 2 * 0 + _ ≤ _; exact Nat.le_of_eq rfl) (hb hby dm4_48) (fun _ _ => ⟨rfl, e0, (by decide : 0 + 0 ≤ _), (by decide : 0 + 0 ≤ _)⟩)
  dsimp only [Pt.U, Pt.locs, Pt.cells, Pt.slots] at X9 l9 y9 z9 st9 hQ9
  subst l9 y9 z9
  obtain ⟨rfl, N9q, e9⟩ := hQ9
  have N9 := Fr.app N0 N9q
  have k9 : Goes p e below s₁ F0 T9 (mkF m 51 #[rv d, rv ta, rv va, iv (3 : Int32), iv (3 : Int32), iv (Int32.ofNat y0)] [(.int (own_min (Int32.ofNat y0) (Int32.ofNat ((dl.getD 11 0) + 1))))]) := fun t k => k8 t (st9 _ k)
  rw [show (own_min (Int32.ofNat y0) (Int32.ofNat ((dl.getD 11 0) + 1))) = (Int32.ofNat (min y0 ((dl.getD 11 0) + 1))) from own_minN (by omega) (by omega)] at k9
  obtain ⟨y1, ey1⟩ : ∃ z : Nat, z = (min y0 ((dl.getD 11 0) + 1)) := ⟨_, rfl⟩
  rw [← ey1] at k9
  have hy1 : y1 ≤ B + 1 := by rw [ey1]; omega
  obtain ⟨cl10, Ar10, qk10, Sz10, Nn10, Hs10, Gs10⟩ := id VD
  have k11 : Goes p e below s₁ F0 T9 (mkF m 67 #[rv d, rv ta, rv va, iv (3 : Int32), iv (3 : Int32), iv (Int32.ofNat y1)] [(.int ((Int32.ofNat (dl.getD 14 0)) + (1 : Int32))), (.int (Int32.ofNat y1))]) := by
    intro t k
    refine k9 _ ?_
    skip
    refine XS.istore X9.here hx rfl (hb hby dm4_51) rfl (l' := #[rv d, rv ta, rv va, iv (3 : Int32), iv (3 : Int32), iv (Int32.ofNat y1)]) rfl ?_
    refine XS.iload X9.here hx rfl (hb hby dm4_53) rfl ?_
    refine XS.aloadN X9.here hx rfl (hb hby dm4_55) rfl rfl ?_
    refine XS.iloadN X9.here hx rfl (hb hby dm4_56) rfl ?_
    refine XS.iconst X9.here hx rfl (hb hby dm4_57) ?_
    refine XS.imul X9.here hx rfl (hb hby dm4_58) rfl ?_
    refine XS.iload X9.here hx rfl (hb hby dm4_59) rfl ?_
    refine XS.iadd X9.here hx rfl (hb hby dm4_61) rfl ?_
    refine XS.iconst X9.here hx rfl (hb hby dm4_62) ?_
    refine XS.isub X9.here hx rfl (hb hby dm4_63) rfl ?_
    refine X9.iaload hx (j := (14 : Int32)) (v := (.int (Int32.ofNat (dl.getD 14 0)))) (by rw [e9]; exact Ar10.1) (State.isArrayOf_alike hZ.alike Ar10.2.1) Ar10.2.2 (inb_of Sz10 (by decide)) (Has.at Hs10 (inb_of Sz10 (by decide)) (own_getI dl 14)) (g := (mkF m 64 #[rv d, rv ta, rv va, iv (3 : Int32), iv (3 : Int32), iv (Int32.ofNat y1)] [(.int (14 : Int32)), (.ref d), (.int (Int32.ofNat y1))])) rfl rfl (hb hby dm4_64) _ ?_
    refine XS.iconst X9.here hx rfl (hb hby dm4_65) ?_
    refine XS.iadd X9.here hx rfl (hb hby dm4_66) rfl ?_
    exact k
  rw [show ((Int32.ofNat (dl.getD 14 0)) + (1 : Int32)) = (Int32.ofNat ((dl.getD 14 0) + 1)) from own_add1 _] at k11
  obtain ⟨_, _, ⟨T12, L12, ck12, nk12⟩, -, X12, ⟨Lc12, hQ12, l12, y12, z12⟩, st12⟩ := Jvm.LawKit.callS X9 hx (y := (⟨"java/lang/Math", "min", "(II)I"⟩ : MethodName)) hown (mvT hZ (own_q hw 72 rfl)) (mvT hZ (own_q hw 73 rfl)) (mvT hZ (own_q hw 74 rfl)) (mvT hZ (own_q hw 75 rfl)) (by decide) (backOf (W := 0) (rmMin l Z a0 hw [] (Int32.ofNat y1) (Int32.ofNat ((dl.getD 14 0) + 1)) h0 n0 Z0) hZ (own_q hw 75 rfl) (own_q hw 74 rfl) (by decide) (by decide)) (g := (mkF m 67 #[rv d, rv ta, rv va, iv (3 : Int32), iv (3 : Int32), iv (Int32.ofNat y1)] [(.int (Int32.ofNat ((dl.getD 14 0) + 1))), (.int (Int32.ofNat y1))])) rfl (by rw [hml]; rfl) (argsL := [(.int (Int32.ofNat y1)), (.int (Int32.ofNat ((dl.getD 14 0) + 1)))]) (rest := []) (lenOf pd_0 rfl) rfl (by show 2 * 0 + _ ≤ _; exact Nat.le_of_eq rfl) (hb hby dm4_67) (fun _ _ => ⟨rfl, e9, (by decide : 0 + 0 ≤ _), (by decide : 0 + 0 ≤ _)⟩)
  dsimp only [Pt.U, Pt.locs, Pt.cells, Pt.slots] at X12 l12 y12 z12 st12 hQ12
  subst l12 y12 z12
  obtain ⟨rfl, N12q, e12⟩ := hQ12
  have N12 := Fr.app N9 N12q
  have k12 : Goes p e below s₁ F0 T12 (mkF m 70 #[rv d, rv ta, rv va, iv (3 : Int32), iv (3 : Int32), iv (Int32.ofNat y1)] [(.int (own_min (Int32.ofNat y1) (Int32.ofNat ((dl.getD 14 0) + 1))))]) := fun t k => k11 t (st12 _ k)
  rw [show (own_min (Int32.ofNat y1) (Int32.ofNat ((dl.getD 14 0) + 1))) = (Int32.ofNat (min y1 ((dl.getD 14 0) + 1))) from own_minN (by omega) (by omega)] at k12
  obtain ⟨y2, ey2⟩ : ∃ z : Nat, z = (min y1 ((dl.getD 14 0) + 1)) := ⟨_, rfl⟩
  rw [← ey2] at k12
  have hy2 : y2 ≤ B + 1 := by rw [ey2]; omega
  obtain ⟨cl13, Ar13, qk13, Sz13, Nn13, Hs13, Gs13⟩ := id VT
  obtain ⟨cl14, Ar14, qk14, Sz14, Nn14, Hs14, Gs14⟩ := id VW
  have k15 : Goes p e below s₁ F0 T12 (mkF m 94 #[rv d, rv ta, rv va, iv (3 : Int32), iv (3 : Int32), iv (Int32.ofNat y2)] [(.int v1), (.int t2)]) := by
    intro t k
    refine k12 _ ?_
    skip
    refine XS.istore X12.here hx rfl (hb hby dm4_70) rfl (l' := #[rv d, rv ta, rv va, iv (3 : Int32), iv (3 : Int32), iv (Int32.ofNat y2)]) rfl ?_
    refine XS.iloadN X12.here hx rfl (hb hby dm4_72) rfl ?_
    refine XS.iconst X12.here hx rfl (hb hby dm4_73) ?_
    refine XS.icmpNo X12.here hx rfl (hb hby dm4_74) rfl (tlt (by decide)).2.2.2 ?_
    refine XS.iload X12.here hx rfl (hb hby dm4_77) rfl ?_
    refine XS.iconst X12.here hx rfl (hb hby dm4_79) ?_
    refine XS.icmpNo X12.here hx rfl (hb hby dm4_80) rfl (tlt (by decide)).2.2.2 ?_
    refine XS.aloadN X12.here hx rfl (hb hby dm4_83) rfl rfl ?_
    refine XS.iloadN X12.here hx rfl (hb hby dm4_84) rfl ?_
    refine XS.iconst X12.here hx rfl (hb hby dm4_85) ?_
    refine XS.isub X12.here hx rfl (hb hby dm4_86) rfl ?_
    refine X12.caload hx (j := (2 : Int32)) (v := (.int t2)) (by rw [e12]; exact Ar13.1) (State.isArrayOf_alike hZ.alike Ar13.2.1) Ar13.2.2 (inb_of Sz13 (by decide)) (Has.at Hs13 (inb_of Sz13 (by decide)) rfl) (g := (mkF m 87 #[rv d, rv ta, rv va, iv (3 : Int32), iv (3 : Int32), iv (Int32.ofNat y2)] [(.int (2 : Int32)), (.ref ta)])) rfl rfl (hb hby dm4_87) _ ?_
    refine XS.aloadN X12.here hx rfl (hb hby dm4_88) rfl rfl ?_
    refine XS.iload X12.here hx rfl (hb hby dm4_89) rfl ?_
    refine XS.iconst X12.here hx rfl (hb hby dm4_91) ?_
    refine XS.isub X12.here hx rfl (hb hby dm4_92) rfl ?_
    refine X12.caload hx (j := (1 : Int32)) (v := (.int v1)) (by rw [e12]; exact Ar14.1) (State.isArrayOf_alike hZ.alike Ar14.2.1) Ar14.2.2 (inb_of Sz14 (by decide)) (Has.at Hs14 (inb_of Sz14 (by decide)) rfl) (g := (mkF m 93 #[rv d, rv ta, rv va, iv (3 : Int32), iv (3 : Int32), iv (Int32.ofNat y2)] [(.int (1 : Int32)), (.ref va), (.int t2)])) rfl rfl (hb hby dm4_93) _ ?_
    exact k
  by_cases hq1 : t2 = v1
  · obtain ⟨cl16, Ar16, qk16, Sz16, Nn16, Hs16, Gs16⟩ := id VT
    obtain ⟨cl17, Ar17, qk17, Sz17, Nn17, Hs17, Gs17⟩ := id VW
    have k18 : Goes p e below s₁ F0 T12 (mkF m 108 #[rv d, rv ta, rv va, iv (3 : Int32), iv (3 : Int32), iv (Int32.ofNat y2)] [(.int v2), (.int t1)]) := by
      intro t k
      refine k15 _ ?_
      skip
      refine XS.icmpNo X12.here hx rfl (hb hby dm4_94) rfl (teq hq1).2 ?_
      refine XS.aloadN X12.here hx rfl (hb hby dm4_97) rfl rfl ?_
      refine XS.iloadN X12.here hx rfl (hb hby dm4_98) rfl ?_
      refine XS.iconst X12.here hx rfl (hb hby dm4_99) ?_
      refine XS.isub X12.here hx rfl (hb hby dm4_100) rfl ?_
      refine X12.caload hx (j := (1 : Int32)) (v := (.int t1)) (by rw [e12]; exact Ar16.1) (State.isArrayOf_alike hZ.alike Ar16.2.1) Ar16.2.2 (inb_of Sz16 (by decide)) (Has.at Hs16 (inb_of Sz16 (by decide)) rfl) (g := (mkF m 101 #[rv d, rv ta, rv va, iv (3 : Int32), iv (3 : Int32), iv (Int32.ofNat y2)] [(.int (1 : Int32)), (.ref ta)])) rfl rfl (hb hby dm4_101) _ ?_
      refine XS.aloadN X12.here hx rfl (hb hby dm4_102) rfl rfl ?_
      refine XS.iload X12.here hx rfl (hb hby dm4_103) rfl ?_
      refine XS.iconst X12.here hx rfl (hb hby dm4_105) ?_
      refine XS.isub X12.here hx rfl (hb hby dm4_106) rfl ?_
      refine X12.caload hx (j := (2 : Int32)) (v := (.int v2)) (by rw [e12]; exact Ar17.1) (State.isArrayOf_alike hZ.alike Ar17.2.1) Ar17.2.2 (inb_of Sz17 (by decide)) (Has.at Hs17 (inb_of Sz17 (by decide)) rfl) (g := (mkF m 107 #[rv d, rv ta, rv va, iv (3 : Int32), iv (3 : Int32), iv (Int32.ofNat y2)] [(.int (2 : Int32)), (.ref va), (.int t1)])) rfl rfl (hb hby dm4_107) _ ?_
      exact k
    by_cases hq2 : t1 = v2
    · obtain ⟨cl19, Ar19, qk19, Sz19, Nn19, Hs19, Gs19⟩ := id VD
      have k20 : Goes p e below s₁ F0 T12 (mkF m 127 #[rv d, rv ta, rv va, iv (3 : Int32), iv (3 : Int32), iv (Int32.ofNat y2)] [(.int ((Int32.ofNat (dl.getD 5 0)) + (1 : Int32))), (.int (Int32.ofNat y2))]) := by
        intro t k
        refine k18 _ ?_
        skip
        refine XS.icmpNo X12.here hx rfl (hb hby dm4_108) rfl (teq hq2).2 ?_
        refine XS.iload X12.here hx rfl (hb hby dm4_111) rfl ?_
        refine XS.aloadN X12.here hx rfl (hb hby dm4_113) rfl rfl ?_
        refine XS.iloadN X12.here hx rfl (hb hby dm4_114) rfl ?_
        refine XS.iconst X12.here hx rfl (hb hby dm4_115) ?_
        refine XS.isub X12.here hx rfl (hb hby dm4_116) rfl ?_
        refine XS.iconst X12.here hx rfl (hb hby dm4_117) ?_
        refine XS.imul X12.here hx rfl (hb hby dm4_118) rfl ?_
        refine XS.iload X12.here hx rfl (hb hby dm4_119) rfl ?_
        refine XS.iadd X12.here hx rfl (hb hby dm4_121) rfl ?_
        refine XS.iconst X12.here hx rfl (hb hby dm4_122) ?_
        refine XS.isub X12.here hx rfl (hb hby dm4_123) rfl ?_
        refine X12.iaload hx (j := (5 : Int32)) (v := (.int (Int32.ofNat (dl.getD 5 0)))) (by rw [e12]; exact Ar19.1) (State.isArrayOf_alike hZ.alike Ar19.2.1) Ar19.2.2 (inb_of Sz19 (by decide)) (Has.at Hs19 (inb_of Sz19 (by decide)) (own_getI dl 5)) (g := (mkF m 124 #[rv d, rv ta, rv va, iv (3 : Int32), iv (3 : Int32), iv (Int32.ofNat y2)] [(.int (5 : Int32)), (.ref d), (.int (Int32.ofNat y2))])) rfl rfl (hb hby dm4_124) _ ?_
        refine XS.iconst X12.here hx rfl (hb hby dm4_125) ?_
        refine XS.iadd X12.here hx rfl (hb hby dm4_126) rfl ?_
        exact k
      rw [show ((Int32.ofNat (dl.getD 5 0)) + (1 : Int32)) = (Int32.ofNat ((dl.getD 5 0) + 1)) from own_add1 _] at k20
      obtain ⟨_, _, ⟨T21, L21, ck21, nk21⟩, -, X21, ⟨Lc21, hQ21, l21, y21, z21⟩, st21⟩ := Jvm.LawKit.callS X12 hx (y := (⟨"java/lang/Math", "min", "(II)I"⟩ : MethodName)) hown (mvT hZ (own_q hw 72 rfl)) (mvT hZ (own_q hw 73 rfl)) (mvT hZ (own_q hw 74 rfl)) (mvT hZ (own_q hw 75 rfl)) (by decide) (backOf (W := 0) (rmMin l Z a0 hw [] (Int32.ofNat y2) (Int32.ofNat ((dl.getD 5 0) + 1)) h0 n0 Z0) hZ (own_q hw 75 rfl) (own_q hw 74 rfl) (by decide) (by decide)) (g := (mkF m 127 #[rv d, rv ta, rv va, iv (3 : Int32), iv (3 : Int32), iv (Int32.ofNat y2)] [(.int (Int32.ofNat ((dl.getD 5 0) + 1))), (.int (Int32.ofNat y2))])) rfl (by rw [hml]; rfl) (argsL := [(.int (Int32.ofNat y2)), (.int (Int32.ofNat ((dl.getD 5 0) + 1)))]) (rest := []) (lenOf pd_0 rfl) rfl (by show 2 * 0 + _ ≤ _; exact Nat.le_of_eq rfl) (hb hby dm4_127) (fun _ _ => ⟨rfl, e12, (by decide : 0 + 0 ≤ _), (by decide : 0 + 0 ≤ _)⟩)
      dsimp only [Pt.U, Pt.locs, Pt.cells, Pt.slots] at X21 l21 y21 z21 st21 hQ21
      subst l21 y21 z21
      obtain ⟨rfl, N21q, e21⟩ := hQ21
      have N21 := Fr.app N12 N21q
      have k21 : Goes p e below s₁ F0 T21 (mkF m 130 #[rv d, rv ta, rv va, iv (3 : Int32), iv (3 : Int32), iv (Int32.ofNat y2)] [(.int (own_min (Int32.ofNat y2) (Int32.ofNat ((dl.getD 5 0) + 1))))]) := fun t k => k20 t (st21 _ k)
      rw [show (own_min (Int32.ofNat y2) (Int32.ofNat ((dl.getD 5 0) + 1))) = (Int32.ofNat (min y2 ((dl.getD 5 0) + 1))) from own_minN (by omega) (by omega)] at k21
      obtain ⟨y3, ey3⟩ : ∃ z : Nat, z = (min y2 ((dl.getD 5 0) + 1)) := ⟨_, rfl⟩
      rw [← ey3] at k21
      have hy3 : y3 ≤ B + 1 := by rw [ey3]; omega
      have k22 : Goes p e below s₁ F0 T21 (mkF m 141 #[rv d, rv ta, rv va, iv (3 : Int32), iv (3 : Int32), iv (Int32.ofNat y3)] [(.int (Int32.ofNat y3)), (.int (15 : Int32)), (.ref d)]) := by
        intro t k
        refine k21 _ ?_
        skip
        refine XS.istore X21.here hx rfl (hb hby dm4_130) rfl (l' := #[rv d, rv ta, rv va, iv (3 : Int32), iv (3 : Int32), iv (Int32.ofNat y3)]) rfl ?_
        refine XS.aloadN X21.here hx rfl (hb hby dm4_132) rfl rfl ?_
        refine XS.iloadN X21.here hx rfl (hb hby dm4_133) rfl ?_
        refine XS.iconst X21.here hx rfl (hb hby dm4_134) ?_
        refine XS.imul X21.here hx rfl (hb hby dm4_135) rfl ?_
        refine XS.iload X21.here hx rfl (hb hby dm4_136) rfl ?_
        refine XS.iadd X21.here hx rfl (hb hby dm4_138) rfl ?_
        refine XS.iload X21.here hx rfl (hb hby dm4_139) rfl ?_
        exact k
      have hnew : (own_dc (dl.getD 10 0) (dl.getD 11 0) (dl.getD 14 0) (dl.getD 5 0) (t2 = v2) (t2 = v1 ∧ t1 = v2)) = y3 := by rw [ey3, ey2, ey1, ey0, own_dc, if_pos ⟨hq1, hq2⟩]
      obtain ⟨cl23, Ar23, qk23, Sz23, Nn23, Hs23, Gs23⟩ := id VD
      obtain ⟨T24, h24, X24, e24, W24, st24⟩ := stI X21 hx hZ e21 Ar23 (j := (15 : Int32)) (inb_of Sz23 (by decide)) (g := (mkF m 141 #[rv d, rv ta, rv va, iv (3 : Int32), iv (3 : Int32), iv (Int32.ofNat y3)] [(.int (Int32.ofNat y3)), (.int (15 : Int32)), (.ref d)])) rfl rfl (hb hby dm4_141)
      have N24 := Fr.snoc X24 N21 gd
      have V24 : Arv Z h24 d kd .int (16 : Int32) (own_I (dl.set 15 y3)) (.int (0 : Int32)) := by
        rw [← own_setI]
        exact Arv.set Ar23 qk23 Sz23 Nn23 Hs23 Gs23 rfl W24 15 rfl (by rw [own_lenI, hl]; decide)
      have k24 : Goes p e below s₁ F0 T24 (mkF m 142 #[rv d, rv ta, rv va, iv (3 : Int32), iv (3 : Int32), iv (Int32.ofNat y3)] []) := fun t k => k22 t (st24 _ k)
      have Z25 : n0 ≤ h24.size := Nat.le_trans Z0 (Keep.of_wr W24).1
      have kp26 : Keep h0 h24 [d] := ((Keep.refl h0 [d]).wr W24 (Or.inl (List.mem_of_getElem? (i := 0) rfl)))
      subst eF0
      obtain ⟨fs, hr, hrun, hended, hW, hsame⟩ := X24.leave (v := none) (fun h => rfl)
      refine ⟨_, _, k24 _ ?_, hrun, hended, _, _, rfl, ?_, ⟨_, rfl⟩, hW, hsame.mono (Nat.le_of_ble_eq_true rfl) (Nat.le_of_ble_eq_true rfl)⟩
      · exact X24.returnOut hx Bd.returns (hb hby dm4_142) hr
      · show QCe33 Z d ta va kd kt kv dl B t0 t1 t2 v0 v1 v2 h0 n0 _ T24.heap _
        rw [e24]
        exact ⟨rfl, N24, kp26, by rw [hnew]; exact V24⟩
    · have k27 : Goes p e below s₁ F0 T12 (mkF m 141 #[rv d, rv ta, rv va, iv (3 : Int32), iv (3 : Int32), iv (Int32.ofNat y2)] [(.int (Int32.ofNat y2)), (.int (15 : Int32)), (.ref d)]) := by
        intro t k
        refine k18 _ ?_
        skip
        refine XS.icmpYes X12.here hx rfl (pc0 := 108) (pc' := 132) rfl (hb hby dm4_108) rfl (feq hq2).2 (by decide) (by decide) ?_
        refine XS.aloadN X12.here hx rfl (hb hby dm4_132) rfl rfl ?_
        refine XS.iloadN X12.here hx rfl (hb hby dm4_133) rfl ?_
        refine XS.iconst X12.here hx rfl (hb hby dm4_134) ?_
        refine XS.imul X12.here hx rfl (hb hby dm4_135) rfl ?_
        refine XS.iload X12.here hx rfl (hb hby dm4_136) rfl ?_
        refine XS.iadd X12.here hx rfl (hb hby dm4_138) rfl ?_
        refine XS.iload X12.here hx rfl (hb hby dm4_139) rfl ?_
        exact k
      have hnew : (own_dc (dl.getD 10 0) (dl.getD 11 0) (dl.getD 14 0) (dl.getD 5 0) (t2 = v2) (t2 = v1 ∧ t1 = v2)) = y2 := by rw [ey2, ey1, ey0, own_dc, if_neg (fun q => hq2 q.2)]
      obtain ⟨cl28, Ar28, qk28, Sz28, Nn28, Hs28, Gs28⟩ := id VD
      obtain ⟨T29, h29, X29, e29, W29, st29⟩ := stI X12 hx hZ e12 Ar28 (j := (15 : Int32)) (inb_of Sz28 (by decide)) (g := (mkF m 141 #[rv d, rv ta, rv va, iv (3 : Int32), iv (3 : Int32), iv (Int32.ofNat y2)] [(.int (Int32.ofNat y2)), (.int (15 : Int32)), (.ref d)])) rfl rfl (hb hby dm4_141)
      have N29 := Fr.snoc X29 N12 gd
      have V29 : Arv Z h29 d kd .int (16 : Int32) (own_I (dl.set 15 y2)) (.int (0 : Int32)) := by
        rw [← own_setI]
        exact Arv.set Ar28 qk28 Sz28 Nn28 Hs28 Gs28 rfl W29 15 rfl (by rw [own_lenI, hl]; decide)
      have k29 : Goes p e below s₁ F0 T29 (mkF m 142 #[rv d, rv ta, rv va, iv (3 : Int32), iv (3 : Int32), iv (Int32.ofNat y2)] []) := fun t k => k27 t (st29 _ k)
      have Z30 : n0 ≤ h29.size := Nat.le_trans Z0 (Keep.of_wr W29).1
      have kp31 : Keep h0 h29 [d] := ((Keep.refl h0 [d]).wr W29 (Or.inl (List.mem_of_getElem? (i := 0) rfl)))
      subst eF0
      obtain ⟨fs, hr, hrun, hended, hW, hsame⟩ := X29.leave (v := none) (fun h => rfl)
      refine ⟨_, _, k29 _ ?_, hrun, hended, _, _, rfl, ?_, ⟨_, rfl⟩, hW, hsame.mono (Nat.le_of_ble_eq_true rfl) (Nat.le_of_ble_eq_true rfl)⟩
      · exact X29.returnOut hx Bd.returns (hb hby dm4_142) hr
      · show QCe33 Z d ta va kd kt kv dl B t0 t1 t2 v0 v1 v2 h0 n0 _ T29.heap _
        rw [e29]
        exact ⟨rfl, N29, kp31, by rw [hnew]; exact V29⟩
  · have k32 : Goes p e below s₁ F0 T12 (mkF m 141 #[rv d, rv ta, rv va, iv (3 : Int32), iv (3 : Int32), iv (Int32.ofNat y2)] [(.int (Int32.ofNat y2)), (.int (15 : Int32)), (.ref d)]) := by
      intro t k
      refine k15 _ ?_
      skip
      refine XS.icmpYes X12.here hx rfl (pc0 := 94) (pc' := 132) rfl (hb hby dm4_94) rfl (feq hq1).2 (by decide) (by decide) ?_
      refine XS.aloadN X12.here hx rfl (hb hby dm4_132) rfl rfl ?_
      refine XS.iloadN X12.here hx rfl (hb hby dm4_133) rfl ?_
      refine XS.iconst X12.here hx rfl (hb hby dm4_134) ?_
      refine XS.imul X12.here hx rfl (hb hby dm4_135) rfl ?_
      refine XS.iload X12.here hx rfl (hb hby dm4_136) rfl ?_
      refine XS.iadd X12.here hx rfl (hb hby dm4_138) rfl ?_
      refine XS.iload X12.here hx rfl (hb hby dm4_139) rfl ?_
      exact k
    have hnew : (own_dc (dl.getD 10 0) (dl.getD 11 0) (dl.getD 14 0) (dl.getD 5 0) (t2 = v2) (t2 = v1 ∧ t1 = v2)) = y2 := by rw [ey2, ey1, ey0, own_dc, if_neg (fun q => hq1 q.1)]
    obtain ⟨cl33, Ar33, qk33, Sz33, Nn33, Hs33, Gs33⟩ := id VD
    obtain ⟨T34, h34, X34, e34, W34, st34⟩ := stI X12 hx hZ e12 Ar33 (j := (15 : Int32)) (inb_of Sz33 (by decide)) (g := (mkF m 141 #[rv d, rv ta, rv va, iv (3 : Int32), iv (3 : Int32), iv (Int32.ofNat y2)] [(.int (Int32.ofNat y2)), (.int (15 : Int32)), (.ref d)])) rfl rfl (hb hby dm4_141)
    have N34 := Fr.snoc X34 N12 gd
    have V34 : Arv Z h34 d kd .int (16 : Int32) (own_I (dl.set 15 y2)) (.int (0 : Int32)) := by
      rw [← own_setI]
      exact Arv.set Ar33 qk33 Sz33 Nn33 Hs33 Gs33 rfl W34 15 rfl (by rw [own_lenI, hl]; decide)
    have k34 : Goes p e below s₁ F0 T34 (mkF m 142 #[rv d, rv ta, rv va, iv (3 : Int32), iv (3 : Int32), iv (Int32.ofNat y2)] []) := fun t k => k32 t (st34 _ k)
    have Z35 : n0 ≤ h34.size := Nat.le_trans Z0 (Keep.of_wr W34).1
    have kp36 : Keep h0 h34 [d] := ((Keep.refl h0 [d]).wr W34 (Or.inl (List.mem_of_getElem? (i := 0) rfl)))
    subst eF0
    obtain ⟨fs, hr, hrun, hended, hW, hsame⟩ := X34.leave (v := none) (fun h => rfl)
    refine ⟨_, _, k34 _ ?_, hrun, hended, _, _, rfl, ?_, ⟨_, rfl⟩, hW, hsame.mono (Nat.le_of_ble_eq_true rfl) (Nat.le_of_ble_eq_true rfl)⟩
    · exact X34.returnOut hx Bd.returns (hb hby dm4_142) hr
    · show QCe33 Z d ta va kd kt kv dl B t0 t1 t2 v0 v1 v2 h0 n0 _ T34.heap _
      rw [e34]
      exact ⟨rfl, N34, kp36, by rw [hnew]; exact V34⟩
theorem ef_Era (m : MethodId) (x0 : Addr) (x1 : Int32) : entryFrame m #[(.ref x0), (.int x1)] 2 = mkF m 0 #[rv x0, iv x1] [] := by first | (simp [entryFrame, mkF, argsToLocals, Value.category]; done) | rfl
def QEra (Z : State) (a : Addr) (kp : Nat) (r : Addr) (ba : Addr) (ta : Addr) (kb : ClassId) (kt : ClassId) (li : Nat) (chs : List Int32) (bd : List Nat) (ty : List Int32) (len : Nat) (h0 : Heap) (n0 : Nat) (v : Option Value) (h : Heap) (L : List Loc) : Prop := v = none ∧ Fr n0 L ∧ Keep h0 h [a] ∧ own_ED Z h a r ba ta kb kt li chs bd ty kp
set_option maxRecDepth 65536 in
set_option maxHeartbeats 40000000 in
theorem rmEra (l : Launch) (Z : State) (a0 : Array Value) (hw : ∀ d ∈ tables_1, d.before a0 Z = true) (ws : List Jvm.Cond) (a : Addr) (kp : Nat) (r : Addr) (ba : Addr) (ta : Addr) (kb : ClassId) (kt : ClassId) (li : Nat) (chs : List Int32) (bd : List Nat) (ty : List Int32) (len : Nat) (h0 : Heap) (n0 : Nat) (Z0 : n0 ≤ h0.size) (DD : own_ED Z h0 a r ba ta kb kt li chs bd ty len) (ga : n0 ≤ a) (hk : kp ≤ len) (hs : len ≤ 1000) :
    MetFree l (⟨"com/example/catchment/catchment/linkage/EditDistance", "eraseTo", "(I)V"⟩ : MethodName) (head1 (Jvm.Cond.code (⟨"com/example/catchment/catchment/linkage/EditDistance", "eraseTo", "(I)V"⟩ : MethodName) prog_23_method_10_code 2 none :: ws) ({ frames := 0, cells := 0, slots := 0, locals := 0 } : Room)) (fun A_ U => A_ = #[(.ref a), (.int (Int32.ofNat kp))] ∧ Z.Warmed39 U.vm ∧ U.heap = h0) (fun _ _ _ _ _ => True) (fun _ U o U' => ∃ v L, o = .returned v ∧ QEra Z a kp r ba ta kb kt li chs bd ty len h0 n0 v U'.heap L ∧ FrameEnd U o U' L ({ frames := 0, cells := 0, slots := 0, locals := 0 } : Room).cells ({ frames := 0, cells := 0, slots := 0, locals := 0 } : Room).slots) := by
  refine MetFree.of_bodySF (plainFor_of_name pn_1) hisR ?_
  intro p e s m args below meth c s₁ Bd hml0 hP hK
  obtain ⟨rfl, hZ, hh⟩ := hP
  have hx := Bd.exec
  have hby := Bd.bytes
  have hml : c.maxLocals = 2 := hml0
  have hown : s.vm.findClass "com/example/catchment/catchment/linkage/EditDistance" = some m.cls := findClass_of_methodNamed Bd.named
  have hnm := (name_of_methodNamed Bd.named Bd.method).1
  have X0 : Stand p l e ({ frames := 0, cells := 0, slots := 0, locals := 0 } : Room) s m #[(.ref a), (.int (Int32.ofNat kp))] below meth c s₁ [] 0 0 := Stand.of_body Bd
  have e0 : s₁.heap = h0 := by rw [← hh, Bd.state]; rfl
  have N0 := Fr.nil n0
  obtain ⟨F0, eF0⟩ : ∃ f : JFrame, f = entryFrame m #[(.ref a), (.int (Int32.ofNat kp))] 2 := ⟨_, rfl⟩
  have k0 : Goes p e below s₁ F0 s₁ (mkF m 0 #[rv a, iv (Int32.ofNat kp)] []) := fun t k => by subst eF0; exact castTop (ef_Era m a ((Int32.ofNat kp))) k
  obtain ⟨De1, Df1_0, Df1_1, Df1_2, Df1_3, Df1_4, Df1_5, Df1_6, Vb1, Vt1, Sr1⟩ := id DD
  have k2 : Goes p e below s₁ F0 s₁ (mkF m 6 #[rv a, iv (Int32.ofNat kp)] [(.ref a), (.int (Int32.ofNat kp))]) := by
    intro t k
    refine k0 _ ?_
    skip
    refine XS.iloadN X0.here hx rfl (hb hby dp23_m10_0) rfl ?_
    refine XS.ifNo X0.here hx rfl (hb hby dp23_m10_1) rfl ((if0 _ _).trans (flt (by rw [Int32.lt_iff_toInt_lt, own_tN (by omega)]; have e0 : (0 : Int32).toInt = 0 := rfl; omega)).1) ?_
    refine XS.iloadN X0.here hx rfl (hb hby dp23_m10_4) rfl ?_
    refine XS.aloadN X0.here hx rfl (hb hby dp23_m10_5) rfl rfl ?_
    exact k
  obtain ⟨T3, X3, e3, st3⟩ := getF X0 hx hZ hown (host := "") (Or.inl (own_q hw 62 rfl)) Via.refl e0 Df1_6 (g := (mkF m 6 #[rv a, iv (Int32.ofNat kp)] [(.ref a), (.int (Int32.ofNat kp))])) rfl rfl (hb hby dp23_m10_6)
  have k3 : Goes p e below s₁ F0 T3 (mkF m 9 #[rv a, iv (Int32.ofNat kp)] [(.int (Int32.ofNat len)), (.int (Int32.ofNat kp))]) := fun t k => k2 t (st3 _ k)
  have k4 : Goes p e below s₁ F0 T3 (mkF m 32 #[rv a, iv (Int32.ofNat kp)] [(.int (Int32.ofNat kp)), (.ref a)]) := by
    intro t k
    refine k3 _ ?_
    skip
    refine XS.icmpYes X3.here hx rfl (pc0 := 9) (pc' := 30) rfl (hb hby dp23_m10_9) rfl (flt (by rw [own_ltN (by omega) (by omega)]; omega)).2.2.2 (by decide) (by decide) ?_
    refine XS.aloadN X3.here hx rfl (hb hby dp23_m10_30) rfl rfl ?_
    refine XS.iloadN X3.here hx rfl (hb hby dp23_m10_31) rfl ?_
    exact k
  obtain ⟨T5, h5, X5, e5, W5, st5⟩ := putF X3 hx hZ hown (host := "") (Or.inl (own_q hw 62 rfl)) Via.refl e3 Df1_6 De1 (Or.inl (own_q hw 63 rfl)) (own_q hw 28 rfl) (ty := .int) (by decide) rfl rfl (g := (mkF m 32 #[rv a, iv (Int32.ofNat kp)] [(.int (Int32.ofNat kp)), (.ref a)])) rfl rfl (hb hby dp23_m10_32)
  have N5 := Fr.snoc X5 N0 ga
  have Fw5 := Df1_6.same W5
  have k5 : Goes p e below s₁ F0 T5 (mkF m 35 #[rv a, iv (Int32.ofNat kp)] []) := fun t k => k4 t (st5 _ k)
  have Z6 : n0 ≤ h5.size := Nat.le_trans Z0 (Keep.of_wr W5).1
  have kp7 : Keep h0 h5 [a] := ((Keep.refl h0 [a]).wr W5 (Or.inl (List.mem_of_getElem? (i := 0) rfl)))
  subst eF0
  obtain ⟨fs, hr, hrun, hended, hW, hsame⟩ := X5.leave (v := none) (fun h => rfl)
  refine ⟨_, _, k5 _ ?_, hrun, hended, _, _, rfl, ?_, ⟨_, rfl⟩, hW, hsame.mono (Nat.le_of_ble_eq_true rfl) (Nat.le_of_ble_eq_true rfl)⟩
  · exact X5.returnOut hx Bd.returns (hb hby dp23_m10_35) hr
  · show QEra Z a kp r ba ta kb kt li chs bd ty len h0 n0 _ T5.heap _
    rw [e5]
    exact ⟨rfl, N5, kp7, own_ED.wrLen hw DD W5⟩
theorem ef_Bey (m : MethodId) (x0 : Addr) : entryFrame m #[(.ref x0)] 3 = mkF m 0 #[rv x0, .unset, .unset] [] := by first | (simp [entryFrame, mkF, argsToLocals, Value.category]; done) | rfl
def QBey (Z : State) (a : Addr) (r : Addr) (ba : Addr) (ta : Addr) (kb : ClassId) (kt : ClassId) (li : Nat) (chs : List Int32) (bd : List Nat) (ty : List Int32) (len : Nat) (h0 : Heap) (n0 : Nat) (v : Option Value) (h : Heap) (L : List Loc) : Prop := v = some (.int (if own_beyN li bd len = true then (1 : Int32) else (0 : Int32))) ∧ Fr n0 L ∧ h = h0
set_option maxRecDepth 65536 in
set_option maxHeartbeats 40000000 in
theorem rmBey (l : Launch) (Z : State) (a0 : Array Value) (hw : ∀ d ∈ tables_1, d.before a0 Z = true) (ws : List Jvm.Cond) (a : Addr) (r : Addr) (ba : Addr) (ta : Addr) (kb : ClassId) (kt : ClassId) (li : Nat) (chs : List Int32) (bd : List Nat) (ty : List Int32) (len : Nat) (h0 : Heap) (n0 : Nat) (Z0 : n0 ≤ h0.size) (DD : own_ED Z h0 a r ba ta kb kt li chs bd ty len) (hli : li ≤ 3) (hlen : (len + 1) * (2 * li + 1) ≤ bd.length) (hl3 : len ≤ 3) (hbl : bd.length ≤ 1000) (hB : ∀ k, bd.getD k 0 ≤ 100) :
    MetFree l (⟨"com/example/catchment/catchment/linkage/EditDistance", "beyond", "()Z"⟩ : MethodName) (head1 (Jvm.Cond.code (⟨"com/example/catchment/catchment/linkage/EditDistance", "beyond", "()Z"⟩ : MethodName) prog_23_method_12_code 3 (some .boolean) :: ws) ({ frames := 0, cells := 0, slots := 0, locals := 0 } : Room)) (fun A_ U => A_ = #[(.ref a)] ∧ Z.Warmed39 U.vm ∧ U.heap = h0) (fun _ _ _ _ _ => True) (fun _ U o U' => ∃ v L, o = .returned v ∧ QBey Z a r ba ta kb kt li chs bd ty len h0 n0 v U'.heap L ∧ FrameEnd U o U' L ({ frames := 0, cells := 0, slots := 0, locals := 0 } : Room).cells ({ frames := 0, cells := 0, slots := 0, locals := 0 } : Room).slots) := by
  refine MetFree.of_bodySF (plainFor_of_name pn_1) hisR ?_
  intro p e s m args below meth c s₁ Bd hml0 hP hK
  obtain ⟨rfl, hZ, hh⟩ := hP
  have hx := Bd.exec
  have hby := Bd.bytes
  have hml : c.maxLocals = 3 := hml0
  have hown : s.vm.findClass "com/example/catchment/catchment/linkage/EditDistance" = some m.cls := findClass_of_methodNamed Bd.named
  have hnm := (name_of_methodNamed Bd.named Bd.method).1
  have X0 : Stand p l e ({ frames := 0, cells := 0, slots := 0, locals := 0 } : Room) s m #[(.ref a)] below meth c s₁ [] 0 0 := Stand.of_body Bd
  have e0 : s₁.heap = h0 := by rw [← hh, Bd.state]; rfl
  have N0 := Fr.nil n0
  obtain ⟨F0, eF0⟩ : ∃ f : JFrame, f = entryFrame m #[(.ref a)] 3 := ⟨_, rfl⟩
  have k0 : Goes p e below s₁ F0 s₁ (mkF m 0 #[rv a, .unset, .unset] []) := fun t k => by subst eF0; exact castTop (ef_Bey m a) k
  obtain ⟨De1, Df1_0, Df1_1, Df1_2, Df1_3, Df1_4, Df1_5, Df1_6, Vb1, Vt1, Sr1⟩ := id DD
  refine Classical.byContradiction fun hG => ?_
  have k2 : Goes p e below s₁ F0 s₁ (mkF m 1 #[rv a, .unset, .unset] [(.ref a)]) := by
    intro t k
    refine k0 _ ?_
    skip
    refine XS.aloadN X0.here hx rfl (hb hby dp23_m12_0) rfl rfl ?_
    exact k
  obtain ⟨T3, X3, e3, st3⟩ := getF X0 hx hZ hown (host := "") (Or.inl (own_q hw 62 rfl)) Via.refl e0 Df1_6 (g := (mkF m 1 #[rv a, .unset, .unset] [(.ref a)])) rfl rfl (hb hby dp23_m12_1)
  have k3 : Goes p e below s₁ F0 T3 (mkF m 4 #[rv a, .unset, .unset] [(.int (Int32.ofNat len))]) := fun t k => k2 t (st3 _ k)
  have k4 : Goes p e below s₁ F0 T3 (mkF m 5 #[rv a, .unset, .unset] [(.ref a), (.int (Int32.ofNat len))]) := by
    intro t k
    refine k3 _ ?_
    skip
    refine XS.aloadN X3.here hx rfl (hb hby dp23_m12_4) rfl rfl ?_
    exact k
  obtain ⟨T5, X5, e5, st5⟩ := getF X3 hx hZ hown (host := "") (Or.inl (own_q hw 40 rfl)) Via.refl e3 Df1_3 (g := (mkF m 5 #[rv a, .unset, .unset] [(.ref a), (.int (Int32.ofNat len))])) rfl rfl (hb hby dp23_m12_5)
  have k5 : Goes p e below s₁ F0 T5 (mkF m 8 #[rv a, .unset, .unset] [(.int (Int32.ofNat (2 * li + 1))), (.int (Int32.ofNat len))]) := fun t k => k4 t (st5 _ k)
  have k6 : Goes p e below s₁ F0 T5 (mkF m 9 #[rv a, .unset, .unset] [(.int ((Int32.ofNat len) * (Int32.ofNat (2 * li + 1))))]) := by
    intro t k
    refine k5 _ ?_
    skip
    refine XS.imul X5.here hx rfl (hb hby dp23_m12_8) rfl ?_
    exact k
  rw [own_mulN (by have h1 : len * (2 * li + 1) ≤ 3 * 7 := Nat.mul_le_mul hl3 (by omega); omega) (by omega) (by omega)] at k6
  have k7 : Goes p e below s₁ F0 T5 (mkF m 12 #[rv a, iv (Int32.ofNat (len * (2 * li + 1))), iv (0 : Int32)] []) := by
    intro t k
    refine k6 _ ?_
    skip
    refine XS.istoreN X5.here hx rfl (hb hby dp23_m12_9) rfl (l' := #[rv a, iv (Int32.ofNat (len * (2 * li + 1))), .unset]) rfl ?_
    refine XS.iconst X5.here hx rfl (hb hby dp23_m12_10) ?_
    refine XS.istoreN X5.here hx rfl (hb hby dp23_m12_11) rfl (l' := #[rv a, iv (Int32.ofNat (len * (2 * li + 1))), iv (0 : Int32)]) rfl ?_
    exact k
  have loop : ∀ (kk : Nat) (T : State) (lo : List Loc) (i : Int32) (nk : Nat), i = Int32.ofNat nk → nk + kk = 2 * li + 1 → (∀ k, k < nk → li < bd.getD (len * (2 * li + 1) + k) 0) → Stand p l e ({ frames := 0, cells := 0, slots := 0, locals := 0 } : Room) s m #[(.ref a)] below meth c T lo 0 0 → T.heap = h0 → Fr n0 lo → Goes p e below s₁ F0 T (mkF m 12 #[rv a, iv (Int32.ofNat (len * (2 * li + 1))), iv i] []) → False := by
    intro kk
    induction kk with
    | zero =>
      intro T lo i nk hi hk hall X eT NL kT
      have k8 : Goes p e below s₁ F0 T (mkF m 14 #[rv a, iv (Int32.ofNat (len * (2 * li + 1))), iv i] [(.ref a), (.int i)]) := by
        intro t k
        refine kT _ ?_
        skip
        refine XS.iloadN X.here hx rfl (hb hby dp23_m12_12) rfl ?_
        refine XS.aloadN X.here hx rfl (hb hby dp23_m12_13) rfl rfl ?_
        exact k
      obtain ⟨T9, X9, e9, st9⟩ := getF X hx hZ hown (host := "") (Or.inl (own_q hw 40 rfl)) Via.refl eT Df1_3 (g := (mkF m 14 #[rv a, iv (Int32.ofNat (len * (2 * li + 1))), iv i] [(.ref a), (.int i)])) rfl rfl (hb hby dp23_m12_14)
      have k9 : Goes p e below s₁ F0 T9 (mkF m 17 #[rv a, iv (Int32.ofNat (len * (2 * li + 1))), iv i] [(.int (Int32.ofNat (2 * li + 1))), (.int i)]) := fun t k => k8 t (st9 _ k)
      have hc : ¬ i < Int32.ofNat (2 * li + 1) := by rw [hi, own_ltN (by omega) (by omega)]; omega
      have hbe : own_beyN li bd len = true := own_bey_yes (fun k hk2 => hall k (by omega))
      have k10 : Goes p e below s₁ F0 T9 (mkF m 44 #[rv a, iv (Int32.ofNat (len * (2 * li + 1))), iv i] [(.int (1 : Int32))]) := by
        intro t k
        refine k9 _ ?_
        skip
        refine XS.icmpYes X9.here hx rfl (pc0 := 17) (pc' := 43) rfl (hb hby dp23_m12_17) rfl (flt hc).2.1 (by decide) (by decide) ?_
        refine XS.iconst X9.here hx rfl (hb hby dp23_m12_43) ?_
        exact k
      subst eF0
      have hnar : nar .boolean (1 : Int32) = (1 : Int32) := rfl
      obtain ⟨fs, hr, hrun, hended, hW, hsame⟩ := X9.leave (v := some (.int (1 : Int32))) (fun h => by rw [Bd.returns] at h; cases h)
      refine hG ⟨_, _, k10 _ ?_, hrun, hended, _, _, rfl, ?_, ⟨_, rfl⟩, hW, hsame.mono (Nat.le_of_ble_eq_true rfl) (Nat.le_of_ble_eq_true rfl)⟩
      · exact retN X9 hx (t := .boolean) Bd.returns (by simp) (hb hby dp23_m12_44) (fun f acts q1 q2 q3 => by rw [hnar]; exact hr f acts q1 q2 q3)
      · show QBey Z a r ba ta kb kt li chs bd ty len h0 n0 _ T9.heap _
        rw [e9]
        exact ⟨by rw [if_pos hbe], NL, rfl⟩
    | succ kk ih =>
      intro T lo i nk hi hk hall X eT NL kT
      have k11 : Goes p e below s₁ F0 T (mkF m 14 #[rv a, iv (Int32.ofNat (len * (2 * li + 1))), iv i] [(.ref a), (.int i)]) := by
        intro t k
        refine kT _ ?_
        skip
        refine XS.iloadN X.here hx rfl (hb hby dp23_m12_12) rfl ?_
        refine XS.aloadN X.here hx rfl (hb hby dp23_m12_13) rfl rfl ?_
        exact k
      obtain ⟨T12, X12, e12, st12⟩ := getF X hx hZ hown (host := "") (Or.inl (own_q hw 40 rfl)) Via.refl eT Df1_3 (g := (mkF m 14 #[rv a, iv (Int32.ofNat (len * (2 * li + 1))), iv i] [(.ref a), (.int i)])) rfl rfl (hb hby dp23_m12_14)
      have k12 : Goes p e below s₁ F0 T12 (mkF m 17 #[rv a, iv (Int32.ofNat (len * (2 * li + 1))), iv i] [(.int (Int32.ofNat (2 * li + 1))), (.int i)]) := fun t k => k11 t (st12 _ k)
      have hc : i < Int32.ofNat (2 * li + 1) := by rw [hi, own_ltN (by omega) (by omega)]; omega
      have hx1 : (len + 1) * (2 * li + 1) = len * (2 * li + 1) + (2 * li + 1) := Nat.succ_mul _ _
      have k13 : Goes p e below s₁ F0 T12 (mkF m 21 #[rv a, iv (Int32.ofNat (len * (2 * li + 1))), iv i] [(.ref a)]) := by
        intro t k
        refine k12 _ ?_
        skip
        refine XS.icmpNo X12.here hx rfl (hb hby dp23_m12_17) rfl (tlt hc).2.1 ?_
        refine XS.aloadN X12.here hx rfl (hb hby dp23_m12_20) rfl rfl ?_
        exact k
      obtain ⟨T14, X14, e14, st14⟩ := getF X12 hx hZ hown (host := "") (Or.inl (own_q hw 55 rfl)) Via.refl e12 Df1_4 (g := (mkF m 21 #[rv a, iv (Int32.ofNat (len * (2 * li + 1))), iv i] [(.ref a)])) rfl rfl (hb hby dp23_m12_21)
      have k14 : Goes p e below s₁ F0 T14 (mkF m 24 #[rv a, iv (Int32.ofNat (len * (2 * li + 1))), iv i] [(.ref ba)]) := fun t k => k13 t (st14 _ k)
      have k15 : Goes p e below s₁ F0 T14 (mkF m 27 #[rv a, iv (Int32.ofNat (len * (2 * li + 1))), iv i] [(.int ((Int32.ofNat (len * (2 * li + 1))) + i)), (.ref ba)]) := by
        intro t k
        refine k14 _ ?_
        skip
        refine XS.iloadN X14.here hx rfl (hb hby dp23_m12_24) rfl ?_
        refine XS.iloadN X14.here hx rfl (hb hby dp23_m12_25) rfl ?_
        refine XS.iadd X14.here hx rfl (hb hby dp23_m12_26) rfl ?_
        exact k
      rw [show Int32.ofNat (len * (2 * li + 1)) + i = Int32.ofNat (len * (2 * li + 1) + nk) from by rw [hi, own_addN (by omega)]] at k15
      have hin : ¬ Int32.ofNat (len * (2 * li + 1) + nk) < (0 : Int32) ∧ Int32.ofNat (len * (2 * li + 1) + nk) < Int32.ofNat bd.length := ⟨by rw [Int32.lt_iff_toInt_lt, own_tN (by omega)]; have e0 : (0 : Int32).toInt = 0 := rfl; omega, by rw [own_ltN (by omega) (by omega)]; omega⟩
      have hbk := hB (len * (2 * li + 1) + nk)
      obtain ⟨cl16, Ar16, qk16, Sz16, Nn16, Hs16, Gs16⟩ := id Vb1
      have k17 : Goes p e below s₁ F0 T14 (mkF m 29 #[rv a, iv (Int32.ofNat (len * (2 * li + 1))), iv i] [(.ref a), (.int (Int32.ofNat (bd.getD (len * (2 * li + 1) + nk) 0)))]) := by
        intro t k
        refine k15 _ ?_
        skip
        refine X14.iaload hx (j := (Int32.ofNat (len * (2 * li + 1) + nk))) (v := (.int (Int32.ofNat (bd.getD (len * (2 * li + 1) + nk) 0)))) (by rw [e14]; exact Ar16.1) (State.isArrayOf_alike hZ.alike Ar16.2.1) Ar16.2.2 (inb_of Sz16 hin) (Has.at Hs16 (inb_of Sz16 hin) (by rw [own_clampN (by omega)]; exact own_getI bd _)) (g := (mkF m 27 #[rv a, iv (Int32.ofNat (len * (2 * li + 1))), iv i] [(.int (Int32.ofNat (len * (2 * li + 1) + nk))), (.ref ba)])) rfl rfl (hb hby dp23_m12_27) _ ?_
        refine XS.aloadN X14.here hx rfl (hb hby dp23_m12_28) rfl rfl ?_
        exact k
      obtain ⟨T18, X18, e18, st18⟩ := getF X14 hx hZ hown (host := "") (Or.inl (own_q hw 36 rfl)) Via.refl e14 Df1_1 (g := (mkF m 29 #[rv a, iv (Int32.ofNat (len * (2 * li + 1))), iv i] [(.ref a), (.int (Int32.ofNat (bd.getD (len * (2 * li + 1) + nk) 0)))])) rfl rfl (hb hby dp23_m12_29)
      have k18 : Goes p e below s₁ F0 T18 (mkF m 32 #[rv a, iv (Int32.ofNat (len * (2 * li + 1))), iv i] [(.int (Int32.ofNat li)), (.int (Int32.ofNat (bd.getD (len * (2 * li + 1) + nk) 0)))]) := fun t k => k17 t (st18 _ k)
      by_cases hgt : (Int32.ofNat li) < (Int32.ofNat (bd.getD (len * (2 * li + 1) + nk) 0))
      · have hlt : li < bd.getD (len * (2 * li + 1) + nk) 0 := by rw [own_ltN (by omega) (by omega)] at hgt; exact hgt
        have k19 : Goes p e below s₁ F0 T18 (mkF m 12 #[rv a, iv (Int32.ofNat (len * (2 * li + 1))), iv (i + (1 : Int32))] []) := by
          intro t k
          refine k18 _ ?_
          skip
          refine XS.icmpYes X18.here hx rfl (pc0 := 32) (pc' := 37) rfl (hb hby dp23_m12_32) rfl (tlt hgt).2.2.1 (by decide) (by decide) ?_
          refine XS.iinc X18.here hx rfl (hb hby dp23_m12_37) rfl (l' := #[rv a, iv (Int32.ofNat (len * (2 * li + 1))), iv (i + (1 : Int32))]) rfl ?_
          refine XS.goto X18.here hx rfl (pc0 := 40) (pc' := 12) rfl (hb hby dp23_m12_40) (by decide) (by decide) ?_
          exact k
        refine ih T18 _ _ (nk + 1) (by rw [hi]; exact own_add1 nk) (by omega) (fun k hk2 => ?_) X18 e18 NL k19
        rcases Nat.lt_succ_iff_lt_or_eq.mp hk2 with q | q
        · exact hall k q
        · rw [q]; exact hlt
      · have hlt : ¬ li < bd.getD (len * (2 * li + 1) + nk) 0 := by rw [own_ltN (by omega) (by omega)] at hgt; exact hgt
        have hbe : own_beyN li bd len = false := own_bey_no (by omega) hlt
        have k20 : Goes p e below s₁ F0 T18 (mkF m 36 #[rv a, iv (Int32.ofNat (len * (2 * li + 1))), iv i] [(.int (0 : Int32))]) := by
          intro t k
          refine k18 _ ?_
          skip
          refine XS.icmpNo X18.here hx rfl (hb hby dp23_m12_32) rfl (flt hgt).2.2.1 ?_
          refine XS.iconst X18.here hx rfl (hb hby dp23_m12_35) ?_
          exact k
        subst eF0
        have hnar : nar .boolean (0 : Int32) = (0 : Int32) := rfl
        obtain ⟨fs, hr, hrun, hended, hW, hsame⟩ := X18.leave (v := some (.int (0 : Int32))) (fun h => by rw [Bd.returns] at h; cases h)
        refine hG ⟨_, _, k20 _ ?_, hrun, hended, _, _, rfl, ?_, ⟨_, rfl⟩, hW, hsame.mono (Nat.le_of_ble_eq_true rfl) (Nat.le_of_ble_eq_true rfl)⟩
        · exact retN X18 hx (t := .boolean) Bd.returns (by simp) (hb hby dp23_m12_36) (fun f acts q1 q2 q3 => by rw [hnar]; exact hr f acts q1 q2 q3)
        · show QBey Z a r ba ta kb kt li chs bd ty len h0 n0 _ T18.heap _
          rw [e18]
          exact ⟨by rw [hbe]; rfl, NL, rfl⟩
  exact loop (2 * li + 1) T5 [] _ 0 rfl (by omega) (fun k hk => absurd hk (Nat.not_lt_zero _)) X5 e5 N0 k7
theorem ef_Ini (m : MethodId) (x0 : Addr) (x1 : Addr) (x2 : Int32) : entryFrame m #[(.ref x0), (.ref x1), (.int x2)] 5 = mkF m 0 #[rv x0, rv x1, iv x2, .unset, .unset] [] := by first | (simp [entryFrame, mkF, argsToLocals, Value.category]; done) | rfl
def QIni (Z : State) (a : Addr) (r : Addr) (li : Nat) (chs : List Int32) (cs : Int32) (h0 : Heap) (n0 : Nat) (v : Option Value) (h : Heap) (L : List Loc) : Prop := v = none ∧ Fr n0 L ∧ Keep h0 h [a] ∧ ∃ ba ta kb kt, n0 ≤ ba ∧ n0 ≤ ta ∧ h0.size ≤ ba ∧ h0.size ≤ ta ∧ own_ED Z h a r ba ta kb kt li chs (own_ifill li chs.length (2 * li + 1) (List.replicate ((chs.length + (li + 1) + 1) * (2 * li + 1)) 0)) (List.replicate (chs.length + (li + 1)) (0 : Int32)) 0
set_option maxRecDepth 65536 in
set_option maxHeartbeats 40000000 in
theorem rmIni (l : Launch) (Z : State) (a0 : Array Value) (hw : ∀ d ∈ tables_1, d.before a0 Z = true) (ws : List Jvm.Cond) (a : Addr) (r : Addr) (li : Nat) (chs : List Int32) (cs : Int32) (h0 : Heap) (n0 : Nat) (Z0 : n0 ≤ h0.size) (EE : Exa Z h0 a "com/example/catchment/catchment/linkage/EditDistance") (ga : n0 ≤ a) (F_value : Fld Z h0 a "com/example/catchment/catchment/linkage/EditDistance" "value" "Ljava/lang/String;" .null) (F_limit : Fld Z h0 a "com/example/catchment/catchment/linkage/EditDistance" "limit" "I" (.int (0 : Int32))) (F_over : Fld Z h0 a "com/example/catchment/catchment/linkage/EditDistance" "over" "I" (.int (0 : Int32))) (F_width : Fld Z h0 a "com/example/catchment/catchment/linkage/EditDistance" "width" "I" (.int (0 : Int32))) (F_band : Fld Z h0 a "com/example/catchment/catchment/linkage/EditDistance" "band" "[I" .null) (F_typed : Fld Z h0 a "com/example/catchment/catchment/linkage/EditDistance" "typed" "[C" .null) (F_length : Fld Z h0 a "com/example/catchment/catchment/linkage/EditDistance" "length" "I" (.int (0 : Int32))) (TS : own_Str Z h0 r chs) (hli : li ≤ 3) (hv : chs.length ≤ 3) (S1 : Sta Z Z.heap "java/lang/String" "COMPACT_STRINGS" "Z" (.int cs)) (hcs : ¬ cs = (0 : Int32)) (XO : Old Z n0 h0) :
    MetFree l (⟨"com/example/catchment/catchment/linkage/EditDistance", "<init>", "(Ljava/lang/String;I)V"⟩ : MethodName) (head1 (Jvm.Cond.code (⟨"com/example/catchment/catchment/linkage/EditDistance", "<init>", "(Ljava/lang/String;I)V"⟩ : MethodName) prog_23_method_1_code 5 none :: ws) ({ frames := 2, cells := 2, slots := 64, locals := 40 } : Room)) (fun A_ U => A_ = #[(.ref a), (.ref r), (.int (Int32.ofNat li))] ∧ Z.Warmed39 U.vm ∧ U.heap = h0) (fun _ _ _ _ _ => True) (fun _ U o U' => ∃ v L, o = .returned v ∧ QIni Z a r li chs cs h0 n0 v U'.heap L ∧ FrameEnd U o U' L ({ frames := 2, cells := 2, slots := 64, locals := 40 } : Room).cells ({ frames := 2, cells := 2, slots := 64, locals := 40 } : Room).slots) := by
  refine MetFree.of_bodySF (plainFor_of_name pn_1) hisR ?_
  intro p e s m args below meth c s₁ Bd hml0 hP hK
  obtain ⟨rfl, hZ, hh⟩ := hP
  have hx := Bd.exec
  have hby := Bd.bytes
  have hml : c.maxLocals = 5 := hml0
  have hown : s.vm.findClass "com/example/catchment/catchment/linkage/EditDistance" = some m.cls := findClass_of_methodNamed Bd.named
  have hnm := (name_of_methodNamed Bd.named Bd.method).1
  have X0 : Stand p l e ({ frames := 2, cells := 2, slots := 64, locals := 40 } : Room) s m #[(.ref a), (.ref r), (.int (Int32.ofNat li))] below meth c s₁ [] 0 0 := Stand.of_body Bd
  have e0 : s₁.heap = h0 := by rw [← hh, Bd.state]; rfl
  have N0 := Fr.nil n0
  obtain ⟨F0, eF0⟩ : ∃ f : JFrame, f = entryFrame m #[(.ref a), (.ref r), (.int (Int32.ofNat li))] 5 := ⟨_, rfl⟩
  have k0 : Goes p e below s₁ F0 s₁ (mkF m 0 #[rv a, rv r, iv (Int32.ofNat li), .unset, .unset] []) := fun t k => by subst eF0; exact castTop (ef_Ini m a r ((Int32.ofNat li))) k
  have k1 : Goes p e below s₁ F0 s₁ (mkF m 1 #[rv a, rv r, iv (Int32.ofNat li), .unset, .unset] [(.ref a)]) := by
    intro t k
    refine k0 _ ?_
    skip
    refine XS.aloadN X0.here hx rfl (hb hby dp23_m1_0) rfl rfl ?_
    exact k
  obtain ⟨T2, X2, e2, st2⟩ := initO X0 hx hZ hown (own_q hw 33 rfl) (own_q hw 17 rfl) (own_q hw 18 rfl) e0 (g := (mkF m 1 #[rv a, rv r, iv (Int32.ofNat li), .unset, .unset] [(.ref a)])) rfl (by rw [hml]; rfl) rfl (hb hby dp23_m1_1) (by decide) (W := 0) (by show 2 * 0 + _ ≤ _; exact Nat.le_of_eq rfl) (by decide)
  have k2 : Goes p e below s₁ F0 T2 (mkF m 4 #[rv a, rv r, iv (Int32.ofNat li), .unset, .unset] []) := fun t k => k1 t (st2 _ k)
  refine Classical.byContradiction fun hG => ?_
  have k3 : Goes p e below s₁ F0 T2 (mkF m 6 #[rv a, rv r, iv (Int32.ofNat li), .unset, .unset] [(.ref r), (.ref a)]) := by
    intro t k
    refine k2 _ ?_
    skip
    refine XS.aloadN X2.here hx rfl (hb hby dp23_m1_4) rfl rfl ?_
    refine XS.aloadN X2.here hx rfl (hb hby dp23_m1_5) rfl rfl ?_
    exact k
  obtain ⟨T4, h4, X4, e4, W4, st4⟩ := putF X2 hx hZ hown (host := "") (Or.inl (own_q hw 34 rfl)) Via.refl e2 F_value EE (Or.inr ⟨(own_q hw 35 rfl), rfl, hnm⟩) (own_q hw 28 rfl) (ty := (.object "java/lang/String")) (by decide) rfl rfl (g := (mkF m 6 #[rv a, rv r, iv (Int32.ofNat li), .unset, .unset] [(.ref r), (.ref a)])) rfl rfl (hb hby dp23_m1_6)
  have N4 := Fr.snoc X4 N0 ga
  have Fw4 := F_value.same W4
  have k4 : Goes p e below s₁ F0 T4 (mkF m 9 #[rv a, rv r, iv (Int32.ofNat li), .unset, .unset] []) := fun t k => k3 t (st4 _ k)
  have Z5 : n0 ≤ h4.size := Nat.le_trans Z0 (Keep.of_wr W4).1
  have Ts6 := own_Str.wr TS W4 (ne_exa (own_Str.exa TS) EE (by decide)) (fun A => (Exa.neArv EE A (own_q hw 28 rfl)).symm)
  have f7 := (EE.wr W4)
  have k8 : Goes p e below s₁ F0 T4 (mkF m 11 #[rv a, rv r, iv (Int32.ofNat li), .unset, .unset] [(.int (Int32.ofNat li)), (.ref a)]) := by
    intro t k
    refine k4 _ ?_
    skip
    refine XS.aloadN X4.here hx rfl (hb hby dp23_m1_9) rfl rfl ?_
    refine XS.iloadN X4.here hx rfl (hb hby dp23_m1_10) rfl ?_
    exact k
  have f10 := (F_limit.other W4 (Or.inr (slot_ne (Or.inr (own_q hw 37 rfl)) (Or.inr (own_q hw 35 rfl)) (by decide) (t := .int) (t' := (.object "java/lang/String")) (by decide) (by decide))))
  obtain ⟨T9, h9, X9, e9, W9, st9⟩ := putF X4 hx hZ hown (host := "") (Or.inl (own_q hw 36 rfl)) Via.refl e4 f10 f7 (Or.inr ⟨(own_q hw 37 rfl), rfl, hnm⟩) (own_q hw 28 rfl) (ty := .int) (by decide) rfl rfl (g := (mkF m 11 #[rv a, rv r, iv (Int32.ofNat li), .unset, .unset] [(.int (Int32.ofNat li)), (.ref a)])) rfl rfl (hb hby dp23_m1_11)
  have N9 := Fr.snoc X9 N4 ga
  have Fw9 := f10.same W9
  have k9 : Goes p e below s₁ F0 T9 (mkF m 14 #[rv a, rv r, iv (Int32.ofNat li), .unset, .unset] []) := fun t k => k8 t (st9 _ k)
  have Z11 : n0 ≤ h9.size := Nat.le_trans Z5 (Keep.of_wr W9).1
  have Ts12 := own_Str.wr Ts6 W9 (ne_exa (own_Str.exa Ts6) f7 (by decide)) (fun A => (Exa.neArv f7 A (own_q hw 28 rfl)).symm)
  have k13 : Goes p e below s₁ F0 T9 (mkF m 18 #[rv a, rv r, iv (Int32.ofNat li), .unset, .unset] [(.int ((Int32.ofNat li) + (1 : Int32))), (.ref a)]) := by
    intro t k
    refine k9 _ ?_
    skip
    refine XS.aloadN X9.here hx rfl (hb hby dp23_m1_14) rfl rfl ?_
    refine XS.iloadN X9.here hx rfl (hb hby dp23_m1_15) rfl ?_
    refine XS.iconst X9.here hx rfl (hb hby dp23_m1_16) ?_
    refine XS.iadd X9.here hx rfl (hb hby dp23_m1_17) rfl ?_
    exact k
  rw [show ((Int32.ofNat li) + (1 : Int32)) = (Int32.ofNat (li + 1)) from own_add1 li] at k13
  have f14 := (f7.wr W9)
  have f16 := ((F_over.other W4 (Or.inr (slot_ne (Or.inr (own_q hw 39 rfl)) (Or.inr (own_q hw 35 rfl)) (by decide) (t := .int) (t' := (.object "java/lang/String")) (by decide) (by decide)))).other W9 (Or.inr (slot_ne (Or.inr (own_q hw 39 rfl)) (Or.inr (own_q hw 37 rfl)) (by decide) (t := .int) (t' := .int) (by decide) (by decide))))
  obtain ⟨T15, h15, X15, e15, W15, st15⟩ := putF X9 hx hZ hown (host := "") (Or.inl (own_q hw 38 rfl)) Via.refl e9 f16 f14 (Or.inr ⟨(own_q hw 39 rfl), rfl, hnm⟩) (own_q hw 28 rfl) (ty := .int) (by decide) rfl rfl (g := (mkF m 18 #[rv a, rv r, iv (Int32.ofNat li), .unset, .unset] [(.int (Int32.ofNat (li + 1))), (.ref a)])) rfl rfl (hb hby dp23_m1_18)
  have N15 := Fr.snoc X15 N9 ga
  have Fw15 := f16.same W15
  have k15 : Goes p e below s₁ F0 T15 (mkF m 21 #[rv a, rv r, iv (Int32.ofNat li), .unset, .unset] []) := fun t k => k13 t (st15 _ k)
  have Z17 : n0 ≤ h15.size := Nat.le_trans Z11 (Keep.of_wr W15).1
  have Ts18 := own_Str.wr Ts12 W15 (ne_exa (own_Str.exa Ts12) f14 (by decide)) (fun A => (Exa.neArv f14 A (own_q hw 28 rfl)).symm)
  have k19 : Goes p e below s₁ F0 T15 (mkF m 27 #[rv a, rv r, iv (Int32.ofNat li), .unset, .unset] [(.int (((2 : Int32) * (Int32.ofNat li)) + (1 : Int32))), (.ref a)]) := by
    intro t k
    refine k15 _ ?_
    skip
    refine XS.aloadN X15.here hx rfl (hb hby dp23_m1_21) rfl rfl ?_
    refine XS.iconst X15.here hx rfl (hb hby dp23_m1_22) ?_
    refine XS.iloadN X15.here hx rfl (hb hby dp23_m1_23) rfl ?_
    refine XS.imul X15.here hx rfl (hb hby dp23_m1_24) rfl ?_
    refine XS.iconst X15.here hx rfl (hb hby dp23_m1_25) ?_
    refine XS.iadd X15.here hx rfl (hb hby dp23_m1_26) rfl ?_
    exact k
  rw [show (((2 : Int32) * (Int32.ofNat li)) + (1 : Int32)) = (Int32.ofNat (2 * li + 1)) from (by rw [show (2 : Int32) = Int32.ofNat 2 from rfl, own_mulN (by omega) (by omega) (by omega), own_add1])] at k19
  have f20 := (f14.wr W15)
  have f22 := (((F_width.other W4 (Or.inr (slot_ne (Or.inr (own_q hw 41 rfl)) (Or.inr (own_q hw 35 rfl)) (by decide) (t := .int) (t' := (.object "java/lang/String")) (by decide) (by decide)))).other W9 (Or.inr (slot_ne (Or.inr (own_q hw 41 rfl)) (Or.inr (own_q hw 37 rfl)) (by decide) (t := .int) (t' := .int) (by decide) (by decide)))).other W15 (Or.inr (slot_ne (Or.inr (own_q hw 41 rfl)) (Or.inr (own_q hw 39 rfl)) (by decide) (t := .int) (t' := .int) (by decide) (by decide))))
  obtain ⟨T21, h21, X21, e21, W21, st21⟩ := putF X15 hx hZ hown (host := "") (Or.inl (own_q hw 40 rfl)) Via.refl e15 f22 f20 (Or.inr ⟨(own_q hw 41 rfl), rfl, hnm⟩) (own_q hw 28 rfl) (ty := .int) (by decide) rfl rfl (g := (mkF m 27 #[rv a, rv r, iv (Int32.ofNat li), .unset, .unset] [(.int (Int32.ofNat (2 * li + 1))), (.ref a)])) rfl rfl (hb hby dp23_m1_27)
  have N21 := Fr.snoc X21 N15 ga
  have Fw21 := f22.same W21
  have k21 : Goes p e below s₁ F0 T21 (mkF m 30 #[rv a, rv r, iv (Int32.ofNat li), .unset, .unset] []) := fun t k => k19 t (st21 _ k)
  have Z23 : n0 ≤ h21.size := Nat.le_trans Z17 (Keep.of_wr W21).1
  have Ts24 := own_Str.wr Ts18 W21 (ne_exa (own_Str.exa Ts18) f20 (by decide)) (fun A => (Exa.neArv f20 A (own_q hw 28 rfl)).symm)
  have od25 : Old Z n0 h21 := ((((XO.wr W4 ga).wr W9 ga).wr W15 ga).wr W21 ga)
  have k26 : Goes p e below s₁ F0 T21 (mkF m 32 #[rv a, rv r, iv (Int32.ofNat li), .unset, .unset] [(.ref r), (.ref a)]) := by
    intro t k
    refine k21 _ ?_
    skip
    refine XS.aloadN X21.here hx rfl (hb hby dp23_m1_30) rfl rfl ?_
    refine XS.aloadN X21.here hx rfl (hb hby dp23_m1_31) rfl rfl ?_
    exact k
  obtain ⟨cq27, kq27, q27a, q27b, q27c⟩ := isOf hZ e21 (own_Str.exa Ts24)
  obtain ⟨_, _, ⟨T27, L27, ck27, nk27⟩, -, X27, ⟨Lc27, hQ27, l27, y27, z27⟩, st27⟩ := X21.virtualBack hx (y := (⟨"java/lang/String", "length", "()I"⟩ : MethodName)) (z := (⟨"java/lang/String", "length", "()I"⟩ : MethodName)) hown (mvT hZ (own_q hw 42 rfl)) (mvT hZ (own_q hw 43 rfl)) (notFace_of_selects (args := #[]) (mvT hZ (own_q hw 45 rfl))) (mvT hZ (own_q hw 45 rfl)) (mvT hZ (own_q hw 44 rfl)) (by decide) (own_lenB (W := 1) hZ hw Ts24 (S1.ext od25.2) hcs (by decide) (by decide)) q27a q27c (g := (mkF m 32 #[rv a, rv r, iv (Int32.ofNat li), .unset, .unset] [(.ref r), (.ref a)])) rfl (by rw [hml]; rfl) (Steps.refl _) (argsL := []) (rest := [(.ref a)]) (lenOf pd_1 rfl) rfl (by show 2 * 0 + _ ≤ _; exact Nat.le_of_eq rfl) (hb hby dp23_m1_32) (fun _ _ => ⟨rfl, e21, (by decide : 0 + 0 ≤ _), (by decide : 0 + 0 ≤ _)⟩)
  dsimp only [Pt.U, Pt.locs, Pt.cells, Pt.slots] at X27 l27 y27 z27 st27 hQ27
  subst l27 y27 z27
  obtain ⟨rfl, rfl, e27⟩ := hQ27
  have N27 := Fr.app N21 (Fr.nil n0)
  have k27 : Goes p e below s₁ F0 T27 (mkF m 35 #[rv a, rv r, iv (Int32.ofNat li), .unset, .unset] [(.int (Int32.ofNat chs.length)), (.ref a)]) := fun t k => k26 t (st27.trans k)
  have k28 : Goes p e below s₁ F0 T27 (mkF m 36 #[rv a, rv r, iv (Int32.ofNat li), .unset, .unset] [(.ref a), (.int (Int32.ofNat chs.length)), (.ref a)]) := by
    intro t k
    refine k27 _ ?_
    skip
    refine XS.aloadN X27.here hx rfl (hb hby dp23_m1_35) rfl rfl ?_
    exact k
  have f30 := (Fw15.other W21 (Or.inr (slot_ne (Or.inr (own_q hw 39 rfl)) (Or.inr (own_q hw 41 rfl)) (by decide) (t := .int) (t' := .int) (by decide) (by decide))))
  obtain ⟨T29, X29, e29, st29⟩ := getF X27 hx hZ hown (host := "") (Or.inl (own_q hw 38 rfl)) Via.refl e27 f30 (g := (mkF m 36 #[rv a, rv r, iv (Int32.ofNat li), .unset, .unset] [(.ref a), (.int (Int32.ofNat chs.length)), (.ref a)])) rfl rfl (hb hby dp23_m1_36)
  have k29 : Goes p e below s₁ F0 T29 (mkF m 39 #[rv a, rv r, iv (Int32.ofNat li), .unset, .unset] [(.int (Int32.ofNat (li + 1))), (.int (Int32.ofNat chs.length)), (.ref a)]) := fun t k => k28 t (st29 _ k)
  have k31 : Goes p e below s₁ F0 T29 (mkF m 40 #[rv a, rv r, iv (Int32.ofNat li), .unset, .unset] [(.int ((Int32.ofNat chs.length) + (Int32.ofNat (li + 1)))), (.ref a)]) := by
    intro t k
    refine k29 _ ?_
    skip
    refine XS.iadd X29.here hx rfl (hb hby dp23_m1_39) rfl ?_
    exact k
  rw [show ((Int32.ofNat chs.length) + (Int32.ofNat (li + 1))) = (Int32.ofNat (chs.length + (li + 1))) from own_addN (by omega)] at k31
  have f33 := (f20.wr W21)
  have kp34 : Keep h0 h21 [a] := (((((Keep.refl h0 [a]).wr W4 (Or.inl (List.mem_of_getElem? (i := 0) rfl))).wr W9 (Or.inl (List.mem_of_getElem? (i := 0) rfl))).wr W15 (Or.inl (List.mem_of_getElem? (i := 0) rfl))).wr W21 (Or.inl (List.mem_of_getElem? (i := 0) rfl)))
  have hnn32 : ¬ ((Int32.ofNat (chs.length + (li + 1))) < (0 : Int32)) := by rw [Int32.lt_iff_toInt_lt, own_tN (by omega)]; have e0 : (0 : Int32).toInt = 0 := rfl; omega
  obtain ⟨T32, h32, k32_, X32, e32, E32, A32, st32⟩ := newP X29 hx hZ (own_q hw 0 rfl) e29 (g := (mkF m 40 #[rv a, rv r, iv (Int32.ofNat li), .unset, .unset] [(.int (Int32.ofNat (chs.length + (li + 1)))), (.ref a)])) rfl (hb hby dp23_m1_40) rfl hnn32 (cap := 7) (by rw [own_clampN (by omega)]; omega) (by decide) (by decide) (by decide)
  obtain ⟨b32, g32⟩ : ∃ z, z = h21.size := ⟨_, rfl⟩
  rw [← g32] at A32 st32
  have ne_a_b32 : a ≠ b32 := Nat.ne_of_lt (Nat.lt_of_lt_of_eq f33.lt g32.symm)
  have ne_r_b32 : r ≠ b32 := Nat.ne_of_lt (Nat.lt_of_lt_of_eq (own_Str.exa Ts24).lt g32.symm)
  have g_b32 : n0 ≤ b32 := Nat.le_trans Z23 (Nat.le_of_eq g32.symm)
  have sz_b32 : h0.size ≤ b32 := Nat.le_trans kp34.1 (Nat.le_of_eq g32.symm)
  have V32 : Arv Z h32 b32 k32_ .char (Int32.ofNat (chs.length + (li + 1))) (List.replicate (chs.length + (li + 1)) (.int (0 : Int32))) (.int (0 : Int32)) := (Arv.new A32 hnn32).pad (pad_rep [] (.int (0 : Int32)) (chs.length + (li + 1)))
  have k32 : Goes p e below s₁ F0 T32 (mkF m 42 #[rv a, rv r, iv (Int32.ofNat li), .unset, .unset] [(.ref b32), (.ref a)]) := fun t k => k31 t (st32 _ k)
  have Z35 : n0 ≤ h32.size := Nat.le_trans Z23 E32.1
  have f36 := (Ts24.ext E32)
  have f37 := (f33.ext E32)
  have f39 := (((((F_typed.other W4 (Or.inr (slot_ne (Or.inl (own_q hw 54 rfl)) (Or.inr (own_q hw 35 rfl)) (by decide) (t := (.array .char)) (t' := (.object "java/lang/String")) (by decide) (by decide)))).other W9 (Or.inr (slot_ne (Or.inl (own_q hw 54 rfl)) (Or.inr (own_q hw 37 rfl)) (by decide) (t := (.array .char)) (t' := .int) (by decide) (by decide)))).other W15 (Or.inr (slot_ne (Or.inl (own_q hw 54 rfl)) (Or.inr (own_q hw 39 rfl)) (by decide) (t := (.array .char)) (t' := .int) (by decide) (by decide)))).other W21 (Or.inr (slot_ne (Or.inl (own_q hw 54 rfl)) (Or.inr (own_q hw 41 rfl)) (by decide) (t := (.array .char)) (t' := .int) (by decide) (by decide)))).ext E32)
  obtain ⟨T38, h38, X38, e38, W38, st38⟩ := putF X32 hx hZ hown (host := "") (Or.inl (own_q hw 53 rfl)) Via.refl e32 f39 f37 (Or.inl (own_q hw 54 rfl)) (own_q hw 28 rfl) (ty := (.array .char)) (by decide) rfl rfl (g := (mkF m 42 #[rv a, rv r, iv (Int32.ofNat li), .unset, .unset] [(.ref b32), (.ref a)])) rfl rfl (hb hby dp23_m1_42)
  have N38 := Fr.snoc X38 N27 ga
  have Fw38 := f39.same W38
  have k38 : Goes p e below s₁ F0 T38 (mkF m 45 #[rv a, rv r, iv (Int32.ofNat li), .unset, .unset] []) := fun t k => k32 t (st38 _ k)
  have Z40 : n0 ≤ h38.size := Nat.le_trans Z35 (Keep.of_wr W38).1
  have Ts41 := own_Str.wr f36 W38 (ne_exa (own_Str.exa f36) f37 (by decide)) (fun A => (Exa.neArv f37 A (own_q hw 28 rfl)).symm)
  have k42 : Goes p e below s₁ F0 T38 (mkF m 47 #[rv a, rv r, iv (Int32.ofNat li), .unset, .unset] [(.ref a), (.ref a)]) := by
    intro t k
    refine k38 _ ?_
    skip
    refine XS.aloadN X38.here hx rfl (hb hby dp23_m1_45) rfl rfl ?_
    refine XS.aloadN X38.here hx rfl (hb hby dp23_m1_46) rfl rfl ?_
    exact k
  obtain ⟨T43, X43, e43, st43⟩ := getF X38 hx hZ hown (host := "") (Or.inl (own_q hw 53 rfl)) Via.refl e38 Fw38 (g := (mkF m 47 #[rv a, rv r, iv (Int32.ofNat li), .unset, .unset] [(.ref a), (.ref a)])) rfl rfl (hb hby dp23_m1_47)
  have k43 : Goes p e below s₁ F0 T43 (mkF m 50 #[rv a, rv r, iv (Int32.ofNat li), .unset, .unset] [(.ref b32), (.ref a)]) := fun t k => k42 t (st43 _ k)
  have f44 := (V32.other W38 ne_a_b32.symm)
  obtain ⟨cl45, Ar45, qk45, Sz45, Nn45, Hs45, Gs45⟩ := id f44
  have k46 : Goes p e below s₁ F0 T43 (mkF m 53 #[rv a, rv r, iv (Int32.ofNat li), .unset, .unset] [(.int ((Int32.ofNat (chs.length + (li + 1))) + (1 : Int32))), (.ref a)]) := by
    intro t k
    refine k43 _ ?_
    skip
    refine X43.arraylength hx (by rw [e43]; exact Ar45.1) (State.isArrayOf_alike hZ.alike Ar45.2.1) (g := (mkF m 50 #[rv a, rv r, iv (Int32.ofNat li), .unset, .unset] [(.ref b32), (.ref a)])) rfl rfl (hb hby dp23_m1_50) _ ?_
    rw [len_of Sz45 Nn45]
    refine XS.iconst X43.here hx rfl (hb hby dp23_m1_51) ?_
    refine XS.iadd X43.here hx rfl (hb hby dp23_m1_52) rfl ?_
    exact k
  rw [show ((Int32.ofNat (chs.length + (li + 1))) + (1 : Int32)) = (Int32.ofNat (chs.length + (li + 1) + 1)) from own_add1 _] at k46
  have k47 : Goes p e below s₁ F0 T43 (mkF m 54 #[rv a, rv r, iv (Int32.ofNat li), .unset, .unset] [(.ref a), (.int (Int32.ofNat (chs.length + (li + 1) + 1))), (.ref a)]) := by
    intro t k
    refine k46 _ ?_
    skip
    refine XS.aloadN X43.here hx rfl (hb hby dp23_m1_53) rfl rfl ?_
    exact k
  have f49 := ((Fw21.ext E32).other W38 (Or.inr (slot_ne (Or.inr (own_q hw 41 rfl)) (Or.inl (own_q hw 54 rfl)) (by decide) (t := .int) (t' := (.array .char)) (by decide) (by decide))))
  obtain ⟨T48, X48, e48, st48⟩ := getF X43 hx hZ hown (host := "") (Or.inl (own_q hw 40 rfl)) Via.refl e43 f49 (g := (mkF m 54 #[rv a, rv r, iv (Int32.ofNat li), .unset, .unset] [(.ref a), (.int (Int32.ofNat (chs.length + (li + 1) + 1))), (.ref a)])) rfl rfl (hb hby dp23_m1_54)
  have k48 : Goes p e below s₁ F0 T48 (mkF m 57 #[rv a, rv r, iv (Int32.ofNat li), .unset, .unset] [(.int (Int32.ofNat (2 * li + 1))), (.int (Int32.ofNat (chs.length + (li + 1) + 1))), (.ref a)]) := fun t k => k47 t (st48 _ k)
  have hM : (chs.length + (li + 1) + 1) * (2 * li + 1) ≤ 8 * 7 := Nat.mul_le_mul (by omega) (by omega)
  have k50 : Goes p e below s₁ F0 T48 (mkF m 58 #[rv a, rv r, iv (Int32.ofNat li), .unset, .unset] [(.int ((Int32.ofNat (chs.length + (li + 1) + 1)) * (Int32.ofNat (2 * li + 1)))), (.ref a)]) := by
    intro t k
    refine k48 _ ?_
    skip
    refine XS.imul X48.here hx rfl (hb hby dp23_m1_57) rfl ?_
    exact k
  rw [show ((Int32.ofNat (chs.length + (li + 1) + 1)) * (Int32.ofNat (2 * li + 1))) = (Int32.ofNat ((chs.length + (li + 1) + 1) * (2 * li + 1))) from own_mulN (by omega) (by omega) (by omega)] at k50
  have f52 := (f37.wr W38)
  have kp53 : Keep h0 h38 [a] := ((kp34.ext E32).wr W38 (Or.inl (List.mem_of_getElem? (i := 0) rfl)))
  have hnn51 : ¬ ((Int32.ofNat ((chs.length + (li + 1) + 1) * (2 * li + 1))) < (0 : Int32)) := by rw [Int32.lt_iff_toInt_lt, own_tN (by omega)]; have e0 : (0 : Int32).toInt = 0 := rfl; omega
  obtain ⟨T51, h51, k51_, X51, e51, E51, A51, st51⟩ := newP X48 hx hZ (own_q hw 1 rfl) e48 (g := (mkF m 58 #[rv a, rv r, iv (Int32.ofNat li), .unset, .unset] [(.int (Int32.ofNat ((chs.length + (li + 1) + 1) * (2 * li + 1)))), (.ref a)])) rfl (hb hby dp23_m1_58) rfl hnn51 (cap := 56) (by rw [own_clampN (by omega)]; omega) (by decide) (by decide) (by decide)
  obtain ⟨b51, g51⟩ : ∃ z, z = h38.size := ⟨_, rfl⟩
  rw [← g51] at A51 st51
  have ne_a_b51 : a ≠ b51 := Nat.ne_of_lt (Nat.lt_of_lt_of_eq f52.lt g51.symm)
  have ne_r_b51 : r ≠ b51 := Nat.ne_of_lt (Nat.lt_of_lt_of_eq (own_Str.exa Ts41).lt g51.symm)
  have ne_b32_b51 : b32 ≠ b51 := Nat.ne_of_lt (Nat.lt_of_lt_of_eq f44.lt g51.symm)
  have g_b51 : n0 ≤ b51 := Nat.le_trans Z40 (Nat.le_of_eq g51.symm)
  have sz_b51 : h0.size ≤ b51 := Nat.le_trans kp53.1 (Nat.le_of_eq g51.symm)
  have V51 : Arv Z h51 b51 k51_ .int (Int32.ofNat ((chs.length + (li + 1) + 1) * (2 * li + 1))) (List.replicate ((chs.length + (li + 1) + 1) * (2 * li + 1)) (.int (0 : Int32))) (.int (0 : Int32)) := (Arv.new A51 hnn51).pad (pad_rep [] (.int (0 : Int32)) ((chs.length + (li + 1) + 1) * (2 * li + 1)))
  have k51 : Goes p e below s₁ F0 T51 (mkF m 60 #[rv a, rv r, iv (Int32.ofNat li), .unset, .unset] [(.ref b51), (.ref a)]) := fun t k => k50 t (st51 _ k)
  have Z54 : n0 ≤ h51.size := Nat.le_trans Z40 E51.1
  have f55 := (Ts41.ext E51)
  have f56 := (f52.ext E51)
  have f58 := (((((((F_band.other W4 (Or.inr (slot_ne (Or.inl (own_q hw 56 rfl)) (Or.inr (own_q hw 35 rfl)) (by decide) (t := (.array .int)) (t' := (.object "java/lang/String")) (by decide) (by decide)))).other W9 (Or.inr (slot_ne (Or.inl (own_q hw 56 rfl)) (Or.inr (own_q hw 37 rfl)) (by decide) (t := (.array .int)) (t' := .int) (by decide) (by decide)))).other W15 (Or.inr (slot_ne (Or.inl (own_q hw 56 rfl)) (Or.inr (own_q hw 39 rfl)) (by decide) (t := (.array .int)) (t' := .int) (by decide) (by decide)))).other W21 (Or.inr (slot_ne (Or.inl (own_q hw 56 rfl)) (Or.inr (own_q hw 41 rfl)) (by decide) (t := (.array .int)) (t' := .int) (by decide) (by decide)))).ext E32).other W38 (Or.inr (slot_ne (Or.inl (own_q hw 56 rfl)) (Or.inl (own_q hw 54 rfl)) (by decide) (t := (.array .int)) (t' := (.array .char)) (by decide) (by decide)))).ext E51)
  obtain ⟨T57, h57, X57, e57, W57, st57⟩ := putF X51 hx hZ hown (host := "") (Or.inl (own_q hw 55 rfl)) Via.refl e51 f58 f56 (Or.inl (own_q hw 56 rfl)) (own_q hw 28 rfl) (ty := (.array .int)) (by decide) rfl rfl (g := (mkF m 60 #[rv a, rv r, iv (Int32.ofNat li), .unset, .unset] [(.ref b51), (.ref a)])) rfl rfl (hb hby dp23_m1_60)
  have N57 := Fr.snoc X57 N38 ga
  have Fw57 := f58.same W57
  have k57 : Goes p e below s₁ F0 T57 (mkF m 63 #[rv a, rv r, iv (Int32.ofNat li), .unset, .unset] []) := fun t k => k51 t (st57 _ k)
  have Z59 : n0 ≤ h57.size := Nat.le_trans Z54 (Keep.of_wr W57).1
  have Ts60 := own_Str.wr f55 W57 (ne_exa (own_Str.exa f55) f56 (by decide)) (fun A => (Exa.neArv f56 A (own_q hw 28 rfl)).symm)
  have k61 : Goes p e below s₁ F0 T57 (mkF m 65 #[rv a, rv r, iv (Int32.ofNat li), iv (0 : Int32), .unset] []) := by
    intro t k
    refine k57 _ ?_
    skip
    refine XS.iconst X57.here hx rfl (hb hby dp23_m1_63) ?_
    refine XS.istoreN X57.here hx rfl (hb hby dp23_m1_64) rfl (l' := #[rv a, rv r, iv (Int32.ofNat li), iv (0 : Int32), .unset]) rfl ?_
    exact k
  have f62 := (((((((Fw4.other W9 (Or.inr (slot_ne (Or.inr (own_q hw 35 rfl)) (Or.inr (own_q hw 37 rfl)) (by decide) (t := (.object "java/lang/String")) (t' := .int) (by decide) (by decide)))).other W15 (Or.inr (slot_ne (Or.inr (own_q hw 35 rfl)) (Or.inr (own_q hw 39 rfl)) (by decide) (t := (.object "java/lang/String")) (t' := .int) (by decide) (by decide)))).other W21 (Or.inr (slot_ne (Or.inr (own_q hw 35 rfl)) (Or.inr (own_q hw 41 rfl)) (by decide) (t := (.object "java/lang/String")) (t' := .int) (by decide) (by decide)))).ext E32).other W38 (Or.inr (slot_ne (Or.inr (own_q hw 35 rfl)) (Or.inl (own_q hw 54 rfl)) (by decide) (t := (.object "java/lang/String")) (t' := (.array .char)) (by decide) (by decide)))).ext E51).other W57 (Or.inr (slot_ne (Or.inr (own_q hw 35 rfl)) (Or.inl (own_q hw 56 rfl)) (by decide) (t := (.object "java/lang/String")) (t' := (.array .int)) (by decide) (by decide))))
  have f63 := ((((((Fw9.other W15 (Or.inr (slot_ne (Or.inr (own_q hw 37 rfl)) (Or.inr (own_q hw 39 rfl)) (by decide) (t := .int) (t' := .int) (by decide) (by decide)))).other W21 (Or.inr (slot_ne (Or.inr (own_q hw 37 rfl)) (Or.inr (own_q hw 41 rfl)) (by decide) (t := .int) (t' := .int) (by decide) (by decide)))).ext E32).other W38 (Or.inr (slot_ne (Or.inr (own_q hw 37 rfl)) (Or.inl (own_q hw 54 rfl)) (by decide) (t := .int) (t' := (.array .char)) (by decide) (by decide)))).ext E51).other W57 (Or.inr (slot_ne (Or.inr (own_q hw 37 rfl)) (Or.inl (own_q hw 56 rfl)) (by decide) (t := .int) (t' := (.array .int)) (by decide) (by decide))))
  have f64 := ((((f30.ext E32).other W38 (Or.inr (slot_ne (Or.inr (own_q hw 39 rfl)) (Or.inl (own_q hw 54 rfl)) (by decide) (t := .int) (t' := (.array .char)) (by decide) (by decide)))).ext E51).other W57 (Or.inr (slot_ne (Or.inr (own_q hw 39 rfl)) (Or.inl (own_q hw 56 rfl)) (by decide) (t := .int) (t' := (.array .int)) (by decide) (by decide))))
  have f65 := ((f49.ext E51).other W57 (Or.inr (slot_ne (Or.inr (own_q hw 41 rfl)) (Or.inl (own_q hw 56 rfl)) (by decide) (t := .int) (t' := (.array .int)) (by decide) (by decide))))
  have f66 := ((Fw38.ext E51).other W57 (Or.inr (slot_ne (Or.inl (own_q hw 54 rfl)) (Or.inl (own_q hw 56 rfl)) (by decide) (t := (.array .char)) (t' := (.array .int)) (by decide) (by decide))))
  have f67 := ((((((((F_length.other W4 (Or.inr (slot_ne (Or.inl (own_q hw 63 rfl)) (Or.inr (own_q hw 35 rfl)) (by decide) (t := .int) (t' := (.object "java/lang/String")) (by decide) (by decide)))).other W9 (Or.inr (slot_ne (Or.inl (own_q hw 63 rfl)) (Or.inr (own_q hw 37 rfl)) (by decide) (t := .int) (t' := .int) (by decide) (by decide)))).other W15 (Or.inr (slot_ne (Or.inl (own_q hw 63 rfl)) (Or.inr (own_q hw 39 rfl)) (by decide) (t := .int) (t' := .int) (by decide) (by decide)))).other W21 (Or.inr (slot_ne (Or.inl (own_q hw 63 rfl)) (Or.inr (own_q hw 41 rfl)) (by decide) (t := .int) (t' := .int) (by decide) (by decide)))).ext E32).other W38 (Or.inr (slot_ne (Or.inl (own_q hw 63 rfl)) (Or.inl (own_q hw 54 rfl)) (by decide) (t := .int) (t' := (.array .char)) (by decide) (by decide)))).ext E51).other W57 (Or.inr (slot_ne (Or.inl (own_q hw 63 rfl)) (Or.inl (own_q hw 56 rfl)) (by decide) (t := .int) (t' := (.array .int)) (by decide) (by decide))))
  have f68 := (f56.wr W57)
  have f69 := (V51.other W57 ne_a_b51.symm)
  have f70 := ((f44.ext E51).other W57 ne_a_b32.symm)
  have D0 : own_ED Z h57 a r b51 b32 k51_ k32_ li chs (own_ifill li chs.length 0 (List.replicate ((chs.length + (li + 1) + 1) * (2 * li + 1)) 0)) (List.replicate (chs.length + (li + 1)) (0 : Int32)) 0 := by
    refine ⟨f68, f62 , f63 , f64 , f65 , Fw57 , f66 , f67, ?_, ?_, Ts60⟩
    · rw [own_ifill, List.length_replicate, own_I, List.map_replicate]; exact f69
    · rw [List.length_replicate, List.map_replicate]; exact f70
  have kp71 : Keep h0 h57 [a] := ((kp53.ext E51).wr W57 (Or.inl (List.mem_of_getElem? (i := 0) rfl)))
  have K0 := kp71
  have od72 : Old Z n0 h57 := ((((od25.ext E32).wr W38 ga).ext E51).wr W57 ga)
  have O0 := od72
  have loop : ∀ (kk : Nat) (T : State) (lo : List Loc) (i : Int32) (nk : Nat) (z4 : Slot), One z4 → i = Int32.ofNat nk → nk + kk = 2 * li + 1 → Stand p l e ({ frames := 2, cells := 2, slots := 64, locals := 40 } : Room) s m #[(.ref a), (.ref r), (.int (Int32.ofNat li))] below meth c T lo 2 63 → Fr n0 lo → n0 ≤ T.heap.size → Old Z n0 T.heap → Keep h0 T.heap [a] → own_ED Z T.heap a r b51 b32 k51_ k32_ li chs (own_ifill li chs.length nk (List.replicate ((chs.length + (li + 1) + 1) * (2 * li + 1)) 0)) (List.replicate (chs.length + (li + 1)) (0 : Int32)) 0 → Goes p e below s₁ F0 T (mkF m 65 #[rv a, rv r, iv (Int32.ofNat li), iv i, z4] []) → False := by
    intro kk
    induction kk with
    | zero =>
      intro T lo i nk z4 hz4 hi hk X NL Zt Ot Kt Dt kT
      obtain ⟨De73, Df73_0, Df73_1, Df73_2, Df73_3, Df73_4, Df73_5, Df73_6, Vb73, Vt73, Sr73⟩ := id Dt
      have k74 : Goes p e below s₁ F0 T (mkF m 67 #[rv a, rv r, iv (Int32.ofNat li), iv i, z4] [(.ref a), (.int i)]) := by
        intro t k
        refine kT _ ?_
        skip
        refine XS.iloadN X.here hx rfl (hb hby dp23_m1_65) rfl ?_
        refine XS.aloadN X.here hx rfl (hb hby dp23_m1_66) rfl rfl ?_
        exact k
      obtain ⟨T75, X75, e75, st75⟩ := getF X hx hZ hown (host := "") (Or.inl (own_q hw 40 rfl)) Via.refl rfl Df73_3 (g := (mkF m 67 #[rv a, rv r, iv (Int32.ofNat li), iv i, z4] [(.ref a), (.int i)])) rfl rfl (hb hby dp23_m1_67)
      have k75 : Goes p e below s₁ F0 T75 (mkF m 70 #[rv a, rv r, iv (Int32.ofNat li), iv i, z4] [(.int (Int32.ofNat (2 * li + 1))), (.int i)]) := fun t k => k74 t (st75 _ k)
      have hc : ¬ i < Int32.ofNat (2 * li + 1) := by rw [hi, own_ltN (by omega) (by omega)]; omega
      have ek : nk = 2 * li + 1 := by omega
      have k76 : Goes p e below s₁ F0 T75 (mkF m 113 #[rv a, rv r, iv (Int32.ofNat li), iv i, z4] []) := by
        intro t k
        refine k75 _ ?_
        skip
        refine XS.icmpYes X75.here hx rfl (pc0 := 70) (pc' := 113) rfl (hb hby dp23_m1_70) rfl (flt hc).2.1 (by decide) (by decide) ?_
        exact k
      rw [ek] at Dt
      subst eF0
      obtain ⟨fs, hr, hrun, hended, hW, hsame⟩ := X75.leave (v := none) (fun h => rfl)
      refine hG ⟨_, _, k76 _ ?_, hrun, hended, _, _, rfl, ?_, ⟨_, rfl⟩, hW, hsame.mono (Nat.le_of_ble_eq_true rfl) (Nat.le_of_ble_eq_true rfl)⟩
      · exact X75.returnOut hx Bd.returns (hb hby dp23_m1_113) hr
      · show QIni Z a r li chs cs h0 n0 _ T75.heap _
        rw [e75]
        exact ⟨rfl, NL, Kt, b51, b32, k51_, k32_, g_b51, g_b32, sz_b51, sz_b32, Dt⟩
    | succ kk ih =>
      intro T lo i nk z4 hz4 hi hk X NL Zt Ot Kt Dt kT
      obtain ⟨De77, Df77_0, Df77_1, Df77_2, Df77_3, Df77_4, Df77_5, Df77_6, Vb77, Vt77, Sr77⟩ := id Dt
      have k78 : Goes p e below s₁ F0 T (mkF m 67 #[rv a, rv r, iv (Int32.ofNat li), iv i, z4] [(.ref a), (.int i)]) := by
        intro t k
        refine kT _ ?_
        skip
        refine XS.iloadN X.here hx rfl (hb hby dp23_m1_65) rfl ?_
        refine XS.aloadN X.here hx rfl (hb hby dp23_m1_66) rfl rfl ?_
        exact k
      obtain ⟨T79, X79, e79, st79⟩ := getF X hx hZ hown (host := "") (Or.inl (own_q hw 40 rfl)) Via.refl rfl Df77_3 (g := (mkF m 67 #[rv a, rv r, iv (Int32.ofNat li), iv i, z4] [(.ref a), (.int i)])) rfl rfl (hb hby dp23_m1_67)
      have k79 : Goes p e below s₁ F0 T79 (mkF m 70 #[rv a, rv r, iv (Int32.ofNat li), iv i, z4] [(.int (Int32.ofNat (2 * li + 1))), (.int i)]) := fun t k => k78 t (st79 _ k)
      have hc : i < Int32.ofNat (2 * li + 1) := by rw [hi, own_ltN (by omega) (by omega)]; omega
      have hlb : (own_ifill li chs.length nk (List.replicate ((chs.length + (li + 1) + 1) * (2 * li + 1)) 0)).length = (chs.length + (li + 1) + 1) * (2 * li + 1) := by rw [own_ifill_len, List.length_replicate]
      have hMw : 2 * li + 1 ≤ (chs.length + (li + 1) + 1) * (2 * li + 1) := Nat.le_mul_of_pos_left _ (by omega)
      have hM : (chs.length + (li + 1) + 1) * (2 * li + 1) ≤ 8 * 7 := Nat.mul_le_mul (by omega) (by omega)
      have hin : ¬ i < (0 : Int32) ∧ i < Int32.ofNat (own_ifill li chs.length nk (List.replicate ((chs.length + (li + 1) + 1) * (2 * li + 1)) 0)).length := ⟨by rw [hi, Int32.lt_iff_toInt_lt, own_tN (by omega)]; have e0 : (0 : Int32).toInt = 0 := rfl; omega, by rw [hi, hlb, own_ltN (by omega) (by omega)]; omega⟩
      have hj : i.toNatClampNeg = nk := by rw [hi, own_clampN (by omega)]
      have hji : (i - Int32.ofNat li).toInt = (nk : Int) - li := by
        have h1 := c_isub i (Int32.ofNat li)
        have h2 := rng32 (i - Int32.ofNat li)
        have h3 : i.toInt = nk := by rw [hi, own_tN (by omega)]
        rw [h3, own_tN (by omega)] at h1
        generalize (i - Int32.ofNat li).toInt = y at *
        omega
      have k80 : Goes p e below s₁ F0 T79 (mkF m 76 #[rv a, rv r, iv (Int32.ofNat li), iv i, z4] [(.int (i - (Int32.ofNat li)))]) := by
        intro t k
        refine k79 _ ?_
        skip
        refine XS.icmpNo X79.here hx rfl (hb hby dp23_m1_70) rfl (tlt hc).2.1 ?_
        refine XS.iloadN X79.here hx rfl (hb hby dp23_m1_73) rfl ?_
        refine XS.iloadN X79.here hx rfl (hb hby dp23_m1_74) rfl ?_
        refine XS.isub X79.here hx rfl (hb hby dp23_m1_75) rfl ?_
        exact k
      obtain ⟨jv, eq_jv⟩ : ∃ z : Int32, z = (i - (Int32.ofNat li)) := ⟨_, rfl⟩
      rw [← eq_jv] at k80
      rw [← eq_jv] at hji
      have k81 : Goes p e below s₁ F0 T79 (mkF m 79 #[rv a, rv r, iv (Int32.ofNat li), iv i, iv jv] [(.ref a)]) := by
        intro t k
        refine k80 _ ?_
        skip
        refine XS.istore X79.here hx rfl (hb hby dp23_m1_76) rfl (l' := #[rv a, rv r, iv (Int32.ofNat li), iv i, iv jv]) (osIni_76 hz4) ?_
        refine XS.aloadN X79.here hx rfl (hb hby dp23_m1_78) rfl rfl ?_
        exact k
      obtain ⟨T82, X82, e82, st82⟩ := getF X79 hx hZ hown (host := "") (Or.inl (own_q hw 55 rfl)) Via.refl e79 Df77_4 (g := (mkF m 79 #[rv a, rv r, iv (Int32.ofNat li), iv i, iv jv] [(.ref a)])) rfl rfl (hb hby dp23_m1_79)
      have k82 : Goes p e below s₁ F0 T82 (mkF m 82 #[rv a, rv r, iv (Int32.ofNat li), iv i, iv jv] [(.ref b51)]) := fun t k => k81 t (st82 _ k)
      have k83 : Goes p e below s₁ F0 T82 (mkF m 85 #[rv a, rv r, iv (Int32.ofNat li), iv i, iv jv] [(.int jv), (.int i), (.ref b51)]) := by
        intro t k
        refine k82 _ ?_
        skip
        refine XS.iloadN X82.here hx rfl (hb hby dp23_m1_82) rfl ?_
        refine XS.iload X82.here hx rfl (hb hby dp23_m1_83) rfl ?_
        exact k
      by_cases hneg : jv < (0 : Int32)
      · have hlt : nk < li := by rw [Int32.lt_iff_toInt_lt, hji] at hneg; have e0 : (0 : Int32).toInt = 0 := rfl; omega
        have k84 : Goes p e below s₁ F0 T82 (mkF m 98 #[rv a, rv r, iv (Int32.ofNat li), iv i, iv jv] [(.ref a), (.int i), (.ref b51)]) := by
          intro t k
          refine k83 _ ?_
          skip
          refine XS.ifYes X82.here hx rfl (pc0 := 85) (pc' := 97) rfl (hb hby dp23_m1_85) rfl ((if0 _ _).trans (tlt hneg).1) (by decide) (by decide) ?_
          refine XS.aloadN X82.here hx rfl (hb hby dp23_m1_97) rfl rfl ?_
          exact k
        obtain ⟨T85, X85, e85, st85⟩ := getF X82 hx hZ hown (host := "") (Or.inl (own_q hw 38 rfl)) Via.refl e82 Df77_2 (g := (mkF m 98 #[rv a, rv r, iv (Int32.ofNat li), iv i, iv jv] [(.ref a), (.int i), (.ref b51)])) rfl rfl (hb hby dp23_m1_98)
        have k85 : Goes p e below s₁ F0 T85 (mkF m 101 #[rv a, rv r, iv (Int32.ofNat li), iv i, iv jv] [(.int (Int32.ofNat (li + 1))), (.int i), (.ref b51)]) := fun t k => k84 t (st85 _ k)
        have k86 : Goes p e below s₁ F0 T85 (mkF m 106 #[rv a, rv r, iv (Int32.ofNat li), iv i, iv jv] [(.int (Int32.ofNat (li + 1))), (.int i), (.ref b51)]) := by
          intro t k
          refine k85 _ ?_
          skip
          refine XS.goto X85.here hx rfl (pc0 := 101) (pc' := 106) rfl (hb hby dp23_m1_101) (by decide) (by decide) ?_
          exact k
        have hval : own_initV li chs.length nk = li + 1 := by rw [own_initV, if_pos (Or.inl hlt)]
        rw [← hval] at k86
        obtain ⟨cl87, Ar87, qk87, Sz87, Nn87, Hs87, Gs87⟩ := id Vb77
        obtain ⟨T88, h88, X88, e88, W88, st88⟩ := stI X85 hx hZ e85 Ar87 (j := i) (inb_of Sz87 hin) (g := (mkF m 106 #[rv a, rv r, iv (Int32.ofNat li), iv i, iv jv] [(.int (Int32.ofNat (own_initV li chs.length nk))), (.int i), (.ref b51)])) rfl rfl (hb hby dp23_m1_106)
        have N88 := Fr.snoc X88 NL g_b51
        have D88 := own_ED.wrBand hw Dt (n := (own_initV li chs.length nk)) hj (by rw [hlb]; omega) W88
        have k88 : Goes p e below s₁ F0 T88 (mkF m 107 #[rv a, rv r, iv (Int32.ofNat li), iv i, iv jv] []) := fun t k => k86 t (st88 _ k)
        have Z89 : n0 ≤ h88.size := Nat.le_trans Zt (Keep.of_wr W88).1
        have kp90 : Keep h0 h88 [a] := (Kt.wr W88 (Or.inr sz_b51))
        have od91 : Old Z n0 h88 := (Ot.wr W88 g_b51)
        have k92 : Goes p e below s₁ F0 T88 (mkF m 65 #[rv a, rv r, iv (Int32.ofNat li), iv (i + (1 : Int32)), iv jv] []) := by
          intro t k
          refine k88 _ ?_
          skip
          refine XS.iinc X88.here hx rfl (hb hby dp23_m1_107) rfl (l' := #[rv a, rv r, iv (Int32.ofNat li), iv (i + (1 : Int32)), iv jv]) rfl ?_
          refine XS.goto X88.here hx rfl (pc0 := 110) (pc' := 65) rfl (hb hby dp23_m1_110) (by decide) (by decide) ?_
          exact k
        exact ih T88 _ _ (nk + 1) _ (One.val (w := .int jv) rfl) (by rw [hi]; exact own_add1 nk) (by omega) X88 N88 (by rw [e88]; exact Z89) (by rw [e88]; exact od91) (by rw [e88]; exact kp90) (by rw [e88]; exact D88) k92
      · have hle : li ≤ nk := by rw [Int32.lt_iff_toInt_lt, hji] at hneg; have e0 : (0 : Int32).toInt = 0 := rfl; omega
        have hjv : jv = Int32.ofNat (nk - li) := own_eqN (by omega) (by rw [hji]; omega)
        have k93 : Goes p e below s₁ F0 T82 (mkF m 91 #[rv a, rv r, iv (Int32.ofNat li), iv i, iv jv] [(.ref r), (.int jv), (.int i), (.ref b51)]) := by
          intro t k
          refine k83 _ ?_
          skip
          refine XS.ifNo X82.here hx rfl (hb hby dp23_m1_85) rfl ((if0 _ _).trans (flt hneg).1) ?_
          refine XS.iload X82.here hx rfl (hb hby dp23_m1_88) rfl ?_
          refine XS.aloadN X82.here hx rfl (hb hby dp23_m1_90) rfl rfl ?_
          exact k
        obtain ⟨cq94, kq94, q94a, q94b, q94c⟩ := isOf hZ e82 (own_Str.exa Sr77)
        obtain ⟨_, _, ⟨T94, L94, ck94, nk94⟩, -, X94, ⟨Lc94, hQ94, l94, y94, z94⟩, st94⟩ := X82.virtualBack hx (y := (⟨"java/lang/String", "length", "()I"⟩ : MethodName)) (z := (⟨"java/lang/String", "length", "()I"⟩ : MethodName)) hown (mvT hZ (own_q hw 42 rfl)) (mvT hZ (own_q hw 43 rfl)) (notFace_of_selects (args := #[]) (mvT hZ (own_q hw 45 rfl))) (mvT hZ (own_q hw 45 rfl)) (mvT hZ (own_q hw 44 rfl)) (by decide) (own_lenB (W := 3) hZ hw Sr77 (S1.ext Ot.2) hcs (by decide) (by decide)) q94a q94c (g := (mkF m 91 #[rv a, rv r, iv (Int32.ofNat li), iv i, iv jv] [(.ref r), (.int jv), (.int i), (.ref b51)])) rfl (by rw [hml]; rfl) (Steps.refl _) (argsL := []) (rest := [(.int jv), (.int i), (.ref b51)]) (lenOf pd_1 rfl) rfl (by show 2 * 0 + _ ≤ _; exact Nat.le_of_eq rfl) (hb hby dp23_m1_91) (fun _ _ => ⟨rfl, e82, (by decide : 2 + 0 ≤ _), (by decide : 63 + 0 ≤ _)⟩)
        dsimp only [Pt.U, Pt.locs, Pt.cells, Pt.slots] at X94 l94 y94 z94 st94 hQ94
        subst l94 y94 z94
        obtain ⟨rfl, rfl, e94⟩ := hQ94
        have N94 := Fr.app NL (Fr.nil n0)
        have k94 : Goes p e below s₁ F0 T94 (mkF m 94 #[rv a, rv r, iv (Int32.ofNat li), iv i, iv jv] [(.int (Int32.ofNat chs.length)), (.int jv), (.int i), (.ref b51)]) := fun t k => k93 t (st94.trans k)
        by_cases hbig : (Int32.ofNat chs.length) < jv
        · have hbg : li + chs.length < nk := by rw [hjv, own_ltN (by omega) (by omega)] at hbig; omega
          have k95 : Goes p e below s₁ F0 T94 (mkF m 98 #[rv a, rv r, iv (Int32.ofNat li), iv i, iv jv] [(.ref a), (.int i), (.ref b51)]) := by
            intro t k
            refine k94 _ ?_
            skip
            refine XS.icmpNo X94.here hx rfl (hb hby dp23_m1_94) rfl (tlt hbig).2.2.2 ?_
            refine XS.aloadN X94.here hx rfl (hb hby dp23_m1_97) rfl rfl ?_
            exact k
          obtain ⟨T96, X96, e96, st96⟩ := getF X94 hx hZ hown (host := "") (Or.inl (own_q hw 38 rfl)) Via.refl e94 Df77_2 (g := (mkF m 98 #[rv a, rv r, iv (Int32.ofNat li), iv i, iv jv] [(.ref a), (.int i), (.ref b51)])) rfl rfl (hb hby dp23_m1_98)
          have k96 : Goes p e below s₁ F0 T96 (mkF m 101 #[rv a, rv r, iv (Int32.ofNat li), iv i, iv jv] [(.int (Int32.ofNat (li + 1))), (.int i), (.ref b51)]) := fun t k => k95 t (st96 _ k)
          have k97 : Goes p e below s₁ F0 T96 (mkF m 106 #[rv a, rv r, iv (Int32.ofNat li), iv i, iv jv] [(.int (Int32.ofNat (li + 1))), (.int i), (.ref b51)]) := by
            intro t k
            refine k96 _ ?_
            skip
            refine XS.goto X96.here hx rfl (pc0 := 101) (pc' := 106) rfl (hb hby dp23_m1_101) (by decide) (by decide) ?_
            exact k
          have hval : own_initV li chs.length nk = li + 1 := by rw [own_initV, if_pos (Or.inr hbg)]
          rw [← hval] at k97
          obtain ⟨cl98, Ar98, qk98, Sz98, Nn98, Hs98, Gs98⟩ := id Vb77
          obtain ⟨T99, h99, X99, e99, W99, st99⟩ := stI X96 hx hZ e96 Ar98 (j := i) (inb_of Sz98 hin) (g := (mkF m 106 #[rv a, rv r, iv (Int32.ofNat li), iv i, iv jv] [(.int (Int32.ofNat (own_initV li chs.length nk))), (.int i), (.ref b51)])) rfl rfl (hb hby dp23_m1_106)
          have N99 := Fr.snoc X99 N94 g_b51
          have D99 := own_ED.wrBand hw Dt (n := (own_initV li chs.length nk)) hj (by rw [hlb]; omega) W99
          have k99 : Goes p e below s₁ F0 T99 (mkF m 107 #[rv a, rv r, iv (Int32.ofNat li), iv i, iv jv] []) := fun t k => k97 t (st99 _ k)
          have Z100 : n0 ≤ h99.size := Nat.le_trans Zt (Keep.of_wr W99).1
          have kp101 : Keep h0 h99 [a] := (Kt.wr W99 (Or.inr sz_b51))
          have od102 : Old Z n0 h99 := (Ot.wr W99 g_b51)
          have k103 : Goes p e below s₁ F0 T99 (mkF m 65 #[rv a, rv r, iv (Int32.ofNat li), iv (i + (1 : Int32)), iv jv] []) := by
            intro t k
            refine k99 _ ?_
            skip
            refine XS.iinc X99.here hx rfl (hb hby dp23_m1_107) rfl (l' := #[rv a, rv r, iv (Int32.ofNat li), iv (i + (1 : Int32)), iv jv]) rfl ?_
            refine XS.goto X99.here hx rfl (pc0 := 110) (pc' := 65) rfl (hb hby dp23_m1_110) (by decide) (by decide) ?_
            exact k
          exact ih T99 _ _ (nk + 1) _ (One.val (w := .int jv) rfl) (by rw [hi]; exact own_add1 nk) (by omega) X99 N99 (by rw [e99]; exact Z100) (by rw [e99]; exact od102) (by rw [e99]; exact kp101) (by rw [e99]; exact D99) k103
        · have k104 : Goes p e below s₁ F0 T94 (mkF m 106 #[rv a, rv r, iv (Int32.ofNat li), iv i, iv jv] [(.int jv), (.int i), (.ref b51)]) := by
            intro t k
            refine k94 _ ?_
            skip
            refine XS.icmpYes X94.here hx rfl (pc0 := 94) (pc' := 104) rfl (hb hby dp23_m1_94) rfl (flt hbig).2.2.2 (by decide) (by decide) ?_
            refine XS.iload X94.here hx rfl (hb hby dp23_m1_104) rfl ?_
            exact k
          rw [hjv, own_ltN (by omega) (by omega)] at hbig
          have hjs : (Value.int jv) = .int (Int32.ofNat (own_initV li chs.length nk)) := by rw [hjv, own_initV, if_neg (by omega)]
          rw [show [Value.int jv, .int i, .ref b51] = [.int (Int32.ofNat (own_initV li chs.length nk)), .int i, .ref b51] by rw [hjs]] at k104
          obtain ⟨cl105, Ar105, qk105, Sz105, Nn105, Hs105, Gs105⟩ := id Vb77
          obtain ⟨T106, h106, X106, e106, W106, st106⟩ := stI X94 hx hZ e94 Ar105 (j := i) (inb_of Sz105 hin) (g := (mkF m 106 #[rv a, rv r, iv (Int32.ofNat li), iv i, iv jv] [(.int (Int32.ofNat (own_initV li chs.length nk))), (.int i), (.ref b51)])) rfl rfl (hb hby dp23_m1_106)
          have N106 := Fr.snoc X106 N94 g_b51
          have D106 := own_ED.wrBand hw Dt (n := (own_initV li chs.length nk)) hj (by rw [hlb]; omega) W106
          have k106 : Goes p e below s₁ F0 T106 (mkF m 107 #[rv a, rv r, iv (Int32.ofNat li), iv i, iv jv] []) := fun t k => k104 t (st106 _ k)
          have Z107 : n0 ≤ h106.size := Nat.le_trans Zt (Keep.of_wr W106).1
          have kp108 : Keep h0 h106 [a] := (Kt.wr W106 (Or.inr sz_b51))
          have od109 : Old Z n0 h106 := (Ot.wr W106 g_b51)
          have k110 : Goes p e below s₁ F0 T106 (mkF m 65 #[rv a, rv r, iv (Int32.ofNat li), iv (i + (1 : Int32)), iv jv] []) := by
            intro t k
            refine k106 _ ?_
            skip
            refine XS.iinc X106.here hx rfl (hb hby dp23_m1_107) rfl (l' := #[rv a, rv r, iv (Int32.ofNat li), iv (i + (1 : Int32)), iv jv]) rfl ?_
            refine XS.goto X106.here hx rfl (pc0 := 110) (pc' := 65) rfl (hb hby dp23_m1_110) (by decide) (by decide) ?_
            exact k
          exact ih T106 _ _ (nk + 1) _ (One.val (w := .int jv) rfl) (by rw [hi]; exact own_add1 nk) (by omega) X106 N106 (by rw [e106]; exact Z107) (by rw [e106]; exact od109) (by rw [e106]; exact kp108) (by rw [e106]; exact D106) k110
  exact loop (2 * li + 1) T57 _ _ 0 .unset One.u rfl (by omega) X57 N57 (by rw [e57]; exact Z59) (by rw [e57]; exact O0) (by rw [e57]; exact K0) (by rw [e57]; exact D0) k61
theorem ef_CpC (m : MethodId) (x0 : Addr) (x1 : Int32) : entryFrame m #[(.ref x0), (.int x1)] 3 = mkF m 0 #[rv x0, iv x1, .unset] [] := by first | (simp [entryFrame, mkF, argsToLocals, Value.category]; done) | rfl
def QCpC (Z : State) (x : Addr) (nn : Nat) (kx : ClassId) (xs : List Int32) (h0 : Heap) (n0 : Nat) (v : Option Value) (h : Heap) (L : List Loc) : Prop := ∃ b kb, v = some (.ref b) ∧ Fr n0 L ∧ Keep h0 h [] ∧ h0.size ≤ b ∧ n0 ≤ b ∧ Arv Z h b kb .char (Int32.ofNat nn) (((xs ++ List.replicate (nn - xs.length) 0).map Value.int)) (.int (0 : Int32))
set_option maxRecDepth 65536 in
set_option maxHeartbeats 40000000 in
theorem rmCpC (l : Launch) (Z : State) (a0 : Array Value) (hw : ∀ d ∈ tables_1, d.before a0 Z = true) (ws : List Jvm.Cond) (x : Addr) (nn : Nat) (kx : ClassId) (xs : List Int32) (h0 : Heap) (n0 : Nat) (Z0 : n0 ≤ h0.size) (VX : Arv Z h0 x kx .char (Int32.ofNat xs.length) ((xs.map Value.int)) (.int (0 : Int32))) (hlt : xs.length < nn) (hnn : nn ≤ 4) :
    MetFree l (⟨"java/util/Arrays", "copyOf", "([CI)[C"⟩ : MethodName) (head1 (Jvm.Cond.code (⟨"java/util/Arrays", "copyOf", "([CI)[C"⟩ : MethodName) jdk_65_method_125_code 3 (some (.array .char)) :: ws) ({ frames := 1, cells := 1, slots := 4, locals := 18 } : Room)) (fun A_ U => A_ = #[(.ref x), (.int (Int32.ofNat nn))] ∧ Z.Warmed39 U.vm ∧ U.heap = h0) (fun _ _ _ _ _ => True) (fun _ U o U' => ∃ v L, o = .returned v ∧ QCpC Z x nn kx xs h0 n0 v U'.heap L ∧ FrameEnd U o U' L ({ frames := 1, cells := 1, slots := 4, locals := 18 } : Room).cells ({ frames := 1, cells := 1, slots := 4, locals := 18 } : Room).slots) := by
  refine MetFree.of_bodySF (plainFor_of_name pn_2) hisR ?_
  intro p e s m args below meth c s₁ Bd hml0 hP hK
  obtain ⟨rfl, hZ, hh⟩ := hP
  have hx := Bd.exec
  have hby := Bd.bytes
  have hml : c.maxLocals = 3 := hml0
  have hown : s.vm.findClass "java/util/Arrays" = some m.cls := findClass_of_methodNamed Bd.named
  have hnm := (name_of_methodNamed Bd.named Bd.method).1
  have X0 : Stand p l e ({ frames := 1, cells := 1, slots := 4, locals := 18 } : Room) s m #[(.ref x), (.int (Int32.ofNat nn))] below meth c s₁ [] 0 0 := Stand.of_body Bd
  have e0 : s₁.heap = h0 := by rw [← hh, Bd.state]; rfl
  have N0 := Fr.nil n0
  obtain ⟨F0, eF0⟩ : ∃ f : JFrame, f = entryFrame m #[(.ref x), (.int (Int32.ofNat nn))] 3 := ⟨_, rfl⟩
  have k0 : Goes p e below s₁ F0 s₁ (mkF m 0 #[rv x, iv (Int32.ofNat nn), .unset] []) := fun t k => by subst eF0; exact castTop (ef_CpC m x ((Int32.ofNat nn))) k
  obtain ⟨cl1, Ar1, qk1, Sz1, Nn1, Hs1, Gs1⟩ := id VX
  have k2 : Goes p e below s₁ F0 s₁ (mkF m 15 #[rv x, iv (Int32.ofNat nn), .unset] [(.int (Int32.ofNat nn))]) := by
    intro t k
    refine k0 _ ?_
    skip
    refine XS.iloadN X0.here hx rfl (hb hby djdk_65_m125_0) rfl ?_
    refine XS.aloadN X0.here hx rfl (hb hby djdk_65_m125_1) rfl rfl ?_
    refine X0.arraylength hx (by rw [e0]; exact Ar1.1) (State.isArrayOf_alike hZ.alike Ar1.2.1) (g := (mkF m 2 #[rv x, iv (Int32.ofNat nn), .unset] [(.ref x), (.int (Int32.ofNat nn))])) rfl rfl (hb hby djdk_65_m125_2) _ ?_
    rw [len_of Sz1 Nn1]
    refine XS.icmpYes X0.here hx rfl (pc0 := 3) (pc' := 14) rfl (hb hby djdk_65_m125_3) rfl (feq (fun q => by have q' := congrArg Int32.toInt q; rw [own_tN (by omega), own_tN (by omega)] at q'; omega)).2 (by decide) (by decide) ?_
    refine XS.iloadN X0.here hx rfl (hb hby djdk_65_m125_14) rfl ?_
    exact k
  have hnn3 : ¬ ((Int32.ofNat nn) < (0 : Int32)) := by rw [Int32.lt_iff_toInt_lt, own_tN (by omega)]; have e0 : (0 : Int32).toInt = 0 := rfl; omega
  obtain ⟨T3, h3, k3_, X3, e3, E3, A3, st3⟩ := newP X0 hx hZ (own_q hw 0 rfl) e0 (g := (mkF m 15 #[rv x, iv (Int32.ofNat nn), .unset] [(.int (Int32.ofNat nn))])) rfl (hb hby djdk_65_m125_15) rfl hnn3 (cap := 4) (by rw [own_clampN (by omega)]; omega) (by decide) (by decide) (by decide)
  obtain ⟨b3, g3⟩ : ∃ z, z = h0.size := ⟨_, rfl⟩
  rw [← g3] at A3 st3
  have ne_x_b3 : x ≠ b3 := Nat.ne_of_lt (Nat.lt_of_lt_of_eq VX.lt g3.symm)
  have g_b3 : n0 ≤ b3 := Nat.le_trans Z0 (Nat.le_of_eq g3.symm)
  have sz_b3 : h0.size ≤ b3 := Nat.le_trans (Keep.refl h0 []).1 (Nat.le_of_eq g3.symm)
  have V3 : Arv Z h3 b3 k3_ .char (Int32.ofNat nn) (List.replicate (nn) (.int (0 : Int32))) (.int (0 : Int32)) := (Arv.new A3 hnn3).pad (pad_rep [] (.int (0 : Int32)) (nn))
  have k3 : Goes p e below s₁ F0 T3 (mkF m 17 #[rv x, iv (Int32.ofNat nn), .unset] [(.ref b3)]) := fun t k => k2 t (st3 _ k)
  have Z4 : n0 ≤ h3.size := Nat.le_trans Z0 E3.1
  have f5 := (VX.ext E3)
  obtain ⟨cl6, Ar6, qk6, Sz6, Nn6, Hs6, Gs6⟩ := id f5
  have k7 : Goes p e below s₁ F0 T3 (mkF m 25 #[rv x, iv (Int32.ofNat nn), rv b3] [(.int (Int32.ofNat nn)), (.int (Int32.ofNat xs.length)), (.int (0 : Int32)), (.ref b3), (.int (0 : Int32)), (.ref x)]) := by
    intro t k
    refine k3 _ ?_
    skip
    refine XS.astoreN X3.here hx rfl (hb hby djdk_65_m125_17) rfl rfl (l' := #[rv x, iv (Int32.ofNat nn), rv b3]) rfl ?_
    refine XS.aloadN X3.here hx rfl (hb hby djdk_65_m125_18) rfl rfl ?_
    refine XS.iconst X3.here hx rfl (hb hby djdk_65_m125_19) ?_
    refine XS.aloadN X3.here hx rfl (hb hby djdk_65_m125_20) rfl rfl ?_
    refine XS.iconst X3.here hx rfl (hb hby djdk_65_m125_21) ?_
    refine XS.aloadN X3.here hx rfl (hb hby djdk_65_m125_22) rfl rfl ?_
    refine X3.arraylength hx (by rw [e3]; exact Ar6.1) (State.isArrayOf_alike hZ.alike Ar6.2.1) (g := (mkF m 23 #[rv x, iv (Int32.ofNat nn), rv b3] [(.ref x), (.int (0 : Int32)), (.ref b3), (.int (0 : Int32)), (.ref x)])) rfl rfl (hb hby djdk_65_m125_23) _ ?_
    rw [len_of Sz6 Nn6]
    refine XS.iloadN X3.here hx rfl (hb hby djdk_65_m125_24) rfl ?_
    exact k
  obtain ⟨_, _, ⟨T8, L8, ck8, nk8⟩, -, X8, ⟨Lc8, hQ8, l8, y8, z8⟩, st8⟩ := Jvm.LawKit.callS X3 hx (y := (⟨"java/lang/Math", "min", "(II)I"⟩ : MethodName)) hown (mvT hZ (own_q hw 134 rfl)) (mvT hZ (own_q hw 73 rfl)) (mvT hZ (own_q hw 74 rfl)) (mvT hZ (own_q hw 75 rfl)) (by decide) (backOf (W := 4) (rmMin l Z a0 hw [] (Int32.ofNat xs.length) (Int32.ofNat nn) h3 n0 Z4) hZ (own_q hw 75 rfl) (own_q hw 74 rfl) (by decide) (by decide)) (g := (mkF m 25 #[rv x, iv (Int32.ofNat nn), rv b3] [(.int (Int32.ofNat nn)), (.int (Int32.ofNat xs.length)), (.int (0 : Int32)), (.ref b3), (.int (0 : Int32)), (.ref x)])) rfl (by rw [hml]; rfl) (argsL := [(.int (Int32.ofNat xs.length)), (.int (Int32.ofNat nn))]) (rest := [(.int (0 : Int32)), (.ref b3), (.int (0 : Int32)), (.ref x)]) (lenOf pd_0 rfl) rfl (by show 2 * 0 + _ ≤ _; exact Nat.le_of_eq rfl) (hb hby djdk_65_m125_25) (fun _ _ => ⟨rfl, e3, (by decide : 1 + 0 ≤ _), (by decide : 4 + 0 ≤ _)⟩)
  dsimp only [Pt.U, Pt.locs, Pt.cells, Pt.slots] at X8 l8 y8 z8 st8 hQ8
  subst l8 y8 z8
  obtain ⟨rfl, N8q, e8⟩ := hQ8
  have N8 := Fr.app N0 N8q
  have k8 : Goes p e below s₁ F0 T8 (mkF m 28 #[rv x, iv (Int32.ofNat nn), rv b3] [(.int (own_min (Int32.ofNat xs.length) (Int32.ofNat nn))), (.int (0 : Int32)), (.ref b3), (.int (0 : Int32)), (.ref x)]) := fun t k => k7 t (st8 _ k)
  rw [show (own_min (Int32.ofNat xs.length) (Int32.ofNat nn)) = (Int32.ofNat xs.length) from (own_minN (by omega) (by omega)).trans (congrArg Int32.ofNat (Nat.min_eq_left (by omega)))] at k8
  have hcl : (Int32.ofNat xs.length).toNatClampNeg = xs.length := own_clampN (by omega)
  have hcn : (Int32.ofNat nn).toNatClampNeg = nn := own_clampN (by omega)
  have hz0 : (0 : Int32).toNatClampNeg = 0 := rfl
  have hnl : ¬ Int32.ofNat xs.length < (0 : Int32) := by rw [Int32.lt_iff_toInt_lt, own_tN (by omega)]; have e0 : (0 : Int32).toInt = 0 := rfl; omega
  have hmx : ((xs.map Value.int)).length = xs.length := by simp [own_I]
  obtain ⟨T9, h9, L9, X9, e9, N9, K9, V9, st9⟩ := cpA X8 hx hZ hown (own_q hw 135 rfl) (own_q hw 138 rfl) (own_q hw 136 rfl) (own_q hw 137 rfl) e8 f5 V3 (Or.inl ⟨rfl, rfl⟩) (sp := (0 : Int32)) (dp := (0 : Int32)) (nn := Int32.ofNat xs.length) (by decide) (by decide) hnl (by rw [hz0, Nat.zero_add]; exact Nat.le_refl _) (by rw [hz0, hcl, hcn]; omega) rfl (by rw [hz0, hcl, List.length_replicate]; omega) N8 g_b3 (g := (mkF m 28 #[rv x, iv (Int32.ofNat nn), rv b3] [(.int (Int32.ofNat xs.length)), (.int (0 : Int32)), (.ref b3), (.int (0 : Int32)), (.ref x)])) rfl (by rw [hml]; rfl) rfl (hb hby djdk_65_m125_28) (by decide) (W := 0) (by show 2 * 0 + _ ≤ _; exact Nat.le_of_eq rfl) (by decide +kernel)
  rw [own_cpL (vs := (xs.map Value.int)) (by rw [hcl, hmx])] at V9
  have k9 : Goes p e below s₁ F0 T9 (mkF m 31 #[rv x, iv (Int32.ofNat nn), rv b3] []) := fun t k => k8 t (st9 _ k)
  have Z10 : n0 ≤ h9.size := Nat.le_trans Z4 K9.1
  have kp11 : Keep h0 h9 [] := (((Keep.refl h0 []).ext E3).trans K9 (allS (Or.inr sz_b3) all0))
  have hv : (xs.map Value.int) ++ List.replicate (nn - ((xs.map Value.int)).length) (.int (0 : Int32)) = ((xs ++ List.replicate (nn - xs.length) 0).map Value.int) := by rw [hmx]; simp [own_I]
  rw [hv] at V9
  have k12 : Goes p e below s₁ F0 T9 (mkF m 32 #[rv x, iv (Int32.ofNat nn), rv b3] [(.ref b3)]) := by
    intro t k
    refine k9 _ ?_
    skip
    refine XS.aloadN X9.here hx rfl (hb hby djdk_65_m125_31) rfl rfl ?_
    exact k
  subst eF0
  obtain ⟨fs, hr, hrun, hended, hW, hsame⟩ := X9.leave (v := some (.ref b3)) (fun h => by rw [Bd.returns] at h; cases h)
  refine ⟨_, _, k12 _ ?_, hrun, hended, _, _, rfl, ?_, ⟨_, rfl⟩, hW, hsame.mono (Nat.le_of_ble_eq_true rfl) (Nat.le_of_ble_eq_true rfl)⟩
  · exact retOut X9 hx Bd.returns rfl (Or.inr (Or.inr (Or.inr (Or.inr ⟨rfl, rfl, rfl⟩)))) (hb hby djdk_65_m125_32) hr
  · show QCpC Z x nn kx xs h0 n0 _ T9.heap _
    rw [e9]
    exact ⟨b3, _, rfl, N9, kp11, sz_b3, g_b3, V9⟩
theorem ef_CpI (m : MethodId) (x0 : Addr) (x1 : Int32) : entryFrame m #[(.ref x0), (.int x1)] 3 = mkF m 0 #[rv x0, iv x1, .unset] [] := by first | (simp [entryFrame, mkF, argsToLocals, Value.category]; done) | rfl
def QCpI (Z : State) (x : Addr) (nn : Nat) (kx : ClassId) (xs : List Nat) (h0 : Heap) (n0 : Nat) (v : Option Value) (h : Heap) (L : List Loc) : Prop := ∃ b kb, v = some (.ref b) ∧ Fr n0 L ∧ Keep h0 h [] ∧ h0.size ≤ b ∧ n0 ≤ b ∧ Arv Z h b kb .int (Int32.ofNat nn) ((own_I (xs ++ List.replicate (nn - xs.length) 0))) (.int (0 : Int32))
set_option maxRecDepth 65536 in
set_option maxHeartbeats 40000000 in
theorem rmCpI (l : Launch) (Z : State) (a0 : Array Value) (hw : ∀ d ∈ tables_1, d.before a0 Z = true) (ws : List Jvm.Cond) (x : Addr) (nn : Nat) (kx : ClassId) (xs : List Nat) (h0 : Heap) (n0 : Nat) (Z0 : n0 ≤ h0.size) (VX : Arv Z h0 x kx .int (Int32.ofNat xs.length) ((own_I xs)) (.int (0 : Int32))) (hlt : xs.length < nn) (hnn : nn ≤ 35) :
    MetFree l (⟨"java/util/Arrays", "copyOf", "([II)[I"⟩ : MethodName) (head1 (Jvm.Cond.code (⟨"java/util/Arrays", "copyOf", "([II)[I"⟩ : MethodName) jdk_65_method_123_code 3 (some (.array .int)) :: ws) ({ frames := 1, cells := 1, slots := 35, locals := 18 } : Room)) (fun A_ U => A_ = #[(.ref x), (.int (Int32.ofNat nn))] ∧ Z.Warmed39 U.vm ∧ U.heap = h0) (fun _ _ _ _ _ => True) (fun _ U o U' => ∃ v L, o = .returned v ∧ QCpI Z x nn kx xs h0 n0 v U'.heap L ∧ FrameEnd U o U' L ({ frames := 1, cells := 1, slots := 35, locals := 18 } : Room).cells ({ frames := 1, cells := 1, slots := 35, locals := 18 } : Room).slots) := by
  refine MetFree.of_bodySF (plainFor_of_name pn_2) hisR ?_
  intro p e s m args below meth c s₁ Bd hml0 hP hK
  obtain ⟨rfl, hZ, hh⟩ := hP
  have hx := Bd.exec
  have hby := Bd.bytes
  have hml : c.maxLocals = 3 := hml0
  have hown : s.vm.findClass "java/util/Arrays" = some m.cls := findClass_of_methodNamed Bd.named
  have hnm := (name_of_methodNamed Bd.named Bd.method).1
  have X0 : Stand p l e ({ frames := 1, cells := 1, slots := 35, locals := 18 } : Room) s m #[(.ref x), (.int (Int32.ofNat nn))] below meth c s₁ [] 0 0 := Stand.of_body Bd
  have e0 : s₁.heap = h0 := by rw [← hh, Bd.state]; rfl
  have N0 := Fr.nil n0
  obtain ⟨F0, eF0⟩ : ∃ f : JFrame, f = entryFrame m #[(.ref x), (.int (Int32.ofNat nn))] 3 := ⟨_, rfl⟩
  have k0 : Goes p e below s₁ F0 s₁ (mkF m 0 #[rv x, iv (Int32.ofNat nn), .unset] []) := fun t k => by subst eF0; exact castTop (ef_CpI m x ((Int32.ofNat nn))) k
  obtain ⟨cl1, Ar1, qk1, Sz1, Nn1, Hs1, Gs1⟩ := id VX
  have k2 : Goes p e below s₁ F0 s₁ (mkF m 15 #[rv x, iv (Int32.ofNat nn), .unset] [(.int (Int32.ofNat nn))]) := by
    intro t k
    refine k0 _ ?_
    skip
    refine XS.iloadN X0.here hx rfl (hb hby djdk_65_m123_0) rfl ?_
    refine XS.aloadN X0.here hx rfl (hb hby djdk_65_m123_1) rfl rfl ?_
    refine X0.arraylength hx (by rw [e0]; exact Ar1.1) (State.isArrayOf_alike hZ.alike Ar1.2.1) (g := (mkF m 2 #[rv x, iv (Int32.ofNat nn), .unset] [(.ref x), (.int (Int32.ofNat nn))])) rfl rfl (hb hby djdk_65_m123_2) _ ?_
    rw [len_of Sz1 Nn1]
    refine XS.icmpYes X0.here hx rfl (pc0 := 3) (pc' := 14) rfl (hb hby djdk_65_m123_3) rfl (feq (fun q => by have q' := congrArg Int32.toInt q; rw [own_tN (by omega), own_tN (by omega)] at q'; omega)).2 (by decide) (by decide) ?_
    refine XS.iloadN X0.here hx rfl (hb hby djdk_65_m123_14) rfl ?_
    exact k
  have hnn3 : ¬ ((Int32.ofNat nn) < (0 : Int32)) := by rw [Int32.lt_iff_toInt_lt, own_tN (by omega)]; have e0 : (0 : Int32).toInt = 0 := rfl; omega
  obtain ⟨T3, h3, k3_, X3, e3, E3, A3, st3⟩ := newP X0 hx hZ (own_q hw 1 rfl) e0 (g := (mkF m 15 #[rv x, iv (Int32.ofNat nn), .unset] [(.int (Int32.ofNat nn))])) rfl (hb hby djdk_65_m123_15) rfl hnn3 (cap := 35) (by rw [own_clampN (by omega)]; omega) (by decide) (by decide) (by decide)
  obtain ⟨b3, g3⟩ : ∃ z, z = h0.size := ⟨_, rfl⟩
  rw [← g3] at A3 st3
  have ne_x_b3 : x ≠ b3 := Nat.ne_of_lt (Nat.lt_of_lt_of_eq VX.lt g3.symm)
  have g_b3 : n0 ≤ b3 := Nat.le_trans Z0 (Nat.le_of_eq g3.symm)
  have sz_b3 : h0.size ≤ b3 := Nat.le_trans (Keep.refl h0 []).1 (Nat.le_of_eq g3.symm)
  have V3 : Arv Z h3 b3 k3_ .int (Int32.ofNat nn) (List.replicate (nn) (.int (0 : Int32))) (.int (0 : Int32)) := (Arv.new A3 hnn3).pad (pad_rep [] (.int (0 : Int32)) (nn))
  have k3 : Goes p e below s₁ F0 T3 (mkF m 17 #[rv x, iv (Int32.ofNat nn), .unset] [(.ref b3)]) := fun t k => k2 t (st3 _ k)
  have Z4 : n0 ≤ h3.size := Nat.le_trans Z0 E3.1
  have f5 := (VX.ext E3)
  obtain ⟨cl6, Ar6, qk6, Sz6, Nn6, Hs6, Gs6⟩ := id f5
  have k7 : Goes p e below s₁ F0 T3 (mkF m 25 #[rv x, iv (Int32.ofNat nn), rv b3] [(.int (Int32.ofNat nn)), (.int (Int32.ofNat xs.length)), (.int (0 : Int32)), (.ref b3), (.int (0 : Int32)), (.ref x)]) := by
    intro t k
    refine k3 _ ?_
    skip
    refine XS.astoreN X3.here hx rfl (hb hby djdk_65_m123_17) rfl rfl (l' := #[rv x, iv (Int32.ofNat nn), rv b3]) rfl ?_
    refine XS.aloadN X3.here hx rfl (hb hby djdk_65_m123_18) rfl rfl ?_
    refine XS.iconst X3.here hx rfl (hb hby djdk_65_m123_19) ?_
    refine XS.aloadN X3.here hx rfl (hb hby djdk_65_m123_20) rfl rfl ?_
    refine XS.iconst X3.here hx rfl (hb hby djdk_65_m123_21) ?_
    refine XS.aloadN X3.here hx rfl (hb hby djdk_65_m123_22) rfl rfl ?_
    refine X3.arraylength hx (by rw [e3]; exact Ar6.1) (State.isArrayOf_alike hZ.alike Ar6.2.1) (g := (mkF m 23 #[rv x, iv (Int32.ofNat nn), rv b3] [(.ref x), (.int (0 : Int32)), (.ref b3), (.int (0 : Int32)), (.ref x)])) rfl rfl (hb hby djdk_65_m123_23) _ ?_
    rw [len_of Sz6 Nn6]
    refine XS.iloadN X3.here hx rfl (hb hby djdk_65_m123_24) rfl ?_
    exact k
  obtain ⟨_, _, ⟨T8, L8, ck8, nk8⟩, -, X8, ⟨Lc8, hQ8, l8, y8, z8⟩, st8⟩ := Jvm.LawKit.callS X3 hx (y := (⟨"java/lang/Math", "min", "(II)I"⟩ : MethodName)) hown (mvT hZ (own_q hw 134 rfl)) (mvT hZ (own_q hw 73 rfl)) (mvT hZ (own_q hw 74 rfl)) (mvT hZ (own_q hw 75 rfl)) (by decide) (backOf (W := 4) (rmMin l Z a0 hw [] (Int32.ofNat xs.length) (Int32.ofNat nn) h3 n0 Z4) hZ (own_q hw 75 rfl) (own_q hw 74 rfl) (by decide) (by decide)) (g := (mkF m 25 #[rv x, iv (Int32.ofNat nn), rv b3] [(.int (Int32.ofNat nn)), (.int (Int32.ofNat xs.length)), (.int (0 : Int32)), (.ref b3), (.int (0 : Int32)), (.ref x)])) rfl (by rw [hml]; rfl) (argsL := [(.int (Int32.ofNat xs.length)), (.int (Int32.ofNat nn))]) (rest := [(.int (0 : Int32)), (.ref b3), (.int (0 : Int32)), (.ref x)]) (lenOf pd_0 rfl) rfl (by show 2 * 0 + _ ≤ _; exact Nat.le_of_eq rfl) (hb hby djdk_65_m123_25) (fun _ _ => ⟨rfl, e3, (by decide : 1 + 0 ≤ _), (by decide : 35 + 0 ≤ _)⟩)
  dsimp only [Pt.U, Pt.locs, Pt.cells, Pt.slots] at X8 l8 y8 z8 st8 hQ8
  subst l8 y8 z8
  obtain ⟨rfl, N8q, e8⟩ := hQ8
  have N8 := Fr.app N0 N8q
  have k8 : Goes p e below s₁ F0 T8 (mkF m 28 #[rv x, iv (Int32.ofNat nn), rv b3] [(.int (own_min (Int32.ofNat xs.length) (Int32.ofNat nn))), (.int (0 : Int32)), (.ref b3), (.int (0 : Int32)), (.ref x)]) := fun t k => k7 t (st8 _ k)
  rw [show (own_min (Int32.ofNat xs.length) (Int32.ofNat nn)) = (Int32.ofNat xs.length) from (own_minN (by omega) (by omega)).trans (congrArg Int32.ofNat (Nat.min_eq_left (by omega)))] at k8
  have hcl : (Int32.ofNat xs.length).toNatClampNeg = xs.length := own_clampN (by omega)
  have hcn : (Int32.ofNat nn).toNatClampNeg = nn := own_clampN (by omega)
  have hz0 : (0 : Int32).toNatClampNeg = 0 := rfl
  have hnl : ¬ Int32.ofNat xs.length < (0 : Int32) := by rw [Int32.lt_iff_toInt_lt, own_tN (by omega)]; have e0 : (0 : Int32).toInt = 0 := rfl; omega
  have hmx : ((own_I xs)).length = xs.length := by simp [own_I]
  obtain ⟨T9, h9, L9, X9, e9, N9, K9, V9, st9⟩ := cpA X8 hx hZ hown (own_q hw 135 rfl) (own_q hw 138 rfl) (own_q hw 136 rfl) (own_q hw 137 rfl) e8 f5 V3 (Or.inl ⟨rfl, rfl⟩) (sp := (0 : Int32)) (dp := (0 : Int32)) (nn := Int32.ofNat xs.length) (by decide) (by decide) hnl (by rw [hz0, Nat.zero_add]; exact Nat.le_refl _) (by rw [hz0, hcl, hcn]; omega) rfl (by rw [hz0, hcl, List.length_replicate]; omega) N8 g_b3 (g := (mkF m 28 #[rv x, iv (Int32.ofNat nn), rv b3] [(.int (Int32.ofNat xs.length)), (.int (0 : Int32)), (.ref b3), (.int (0 : Int32)), (.ref x)])) rfl (by rw [hml]; rfl) rfl (hb hby djdk_65_m123_28) (by decide) (W := 0) (by show 2 * 0 + _ ≤ _; exact Nat.le_of_eq rfl) (by decide +kernel)
  rw [own_cpL (vs := (own_I xs)) (by rw [hcl, hmx])] at V9
  have k9 : Goes p e below s₁ F0 T9 (mkF m 31 #[rv x, iv (Int32.ofNat nn), rv b3] []) := fun t k => k8 t (st9 _ k)
  have Z10 : n0 ≤ h9.size := Nat.le_trans Z4 K9.1
  have kp11 : Keep h0 h9 [] := (((Keep.refl h0 []).ext E3).trans K9 (allS (Or.inr sz_b3) all0))
  have hv : (own_I xs) ++ List.replicate (nn - ((own_I xs)).length) (.int (0 : Int32)) = (own_I (xs ++ List.replicate (nn - xs.length) 0)) := by rw [hmx]; simp [own_I]
  rw [hv] at V9
  have k12 : Goes p e below s₁ F0 T9 (mkF m 32 #[rv x, iv (Int32.ofNat nn), rv b3] [(.ref b3)]) := by
    intro t k
    refine k9 _ ?_
    skip
    refine XS.aloadN X9.here hx rfl (hb hby djdk_65_m123_31) rfl rfl ?_
    exact k
  subst eF0
  obtain ⟨fs, hr, hrun, hended, hW, hsame⟩ := X9.leave (v := some (.ref b3)) (fun h => by rw [Bd.returns] at h; cases h)
  refine ⟨_, _, k12 _ ?_, hrun, hended, _, _, rfl, ?_, ⟨_, rfl⟩, hW, hsame.mono (Nat.le_of_ble_eq_true rfl) (Nat.le_of_ble_eq_true rfl)⟩
  · exact retOut X9 hx Bd.returns rfl (Or.inr (Or.inr (Or.inr (Or.inr ⟨rfl, rfl, rfl⟩)))) (hb hby djdk_65_m123_32) hr
  · show QCpI Z x nn kx xs h0 n0 _ T9.heap _
    rw [e9]
    exact ⟨b3, _, rfl, N9, kp11, sz_b3, g_b3, V9⟩
theorem ef_Typ (m : MethodId) (x0 : Addr) (x1 : Int32) : entryFrame m #[(.ref x0), (.int x1)] 10 = mkF m 0 #[rv x0, iv x1, .unset, .unset, .unset, .unset, .unset, .unset, .unset, .unset] [] := by first | (simp [entryFrame, mkF, argsToLocals, Value.category]; done) | rfl
def QTyp (Z : State) (a : Addr) (ch : Int32) (r : Addr) (ba : Addr) (ta : Addr) (kb : ClassId) (kt : ClassId) (li : Nat) (chs : List Int32) (bd : List Nat) (ty : List Int32) (len : Nat) (eqa : List Bool) (eqb : List Bool) (cs : Int32) (vF : Value) (h0 : Heap) (n0 : Nat) (v : Option Value) (h : Heap) (L : List Loc) : Prop := v = none ∧ Fr n0 L ∧ Keep h0 h [a, ba, ta] ∧ ∃ ba' ta' kb' kt', (ba' ∈ [a, ba, ta] ∨ h0.size ≤ ba') ∧ (ta' ∈ [a, ba, ta] ∨ h0.size ≤ ta') ∧ n0 ≤ ba' ∧ n0 ≤ ta' ∧ own_ED Z h a r ba' ta' kb' kt' li chs (own_fillN li (len + 1) chs.length eqa eqb (2 * li + 1) (own_growB li len ty.length bd)) ((own_growT len ty).set len ch) (len + 1)
set_option maxRecDepth 65536 in
set_option maxHeartbeats 40000000 in
theorem rmTyp (l : Launch) (Z : State) (a0 : Array Value) (hw : ∀ d ∈ tables_1, d.before a0 Z = true) (ws : List Jvm.Cond) (a : Addr) (ch : Int32) (r : Addr) (ba : Addr) (ta : Addr) (kb : ClassId) (kt : ClassId) (li : Nat) (chs : List Int32) (bd : List Nat) (ty : List Int32) (len : Nat) (eqa : List Bool) (eqb : List Bool) (cs : Int32) (vF : Value) (h0 : Heap) (n0 : Nat) (Z0 : n0 ≤ h0.size) (DD : own_ED Z h0 a r ba ta kb kt li chs bd ty len) (ga : n0 ≤ a) (gba : n0 ≤ ba) (gta : n0 ≤ ta) (hli : li ≤ 3) (hv : chs.length ≤ 3) (hlen : len ≤ 2) (hle : len ≤ ty.length) (ht1 : 1 ≤ ty.length) (ht7 : ty.length ≤ 7) (hbl : bd.length = (ty.length + 1) * (2 * li + 1)) (hB : ∀ k, bd.getD k 0 ≤ 4) (hch : ¬ ch < (0 : Int32) ∧ ¬ (255 : Int32) < ch) (hE1 : ∀ j, j < chs.length → (eqa.getD j false = true ↔ ch = chs.getD j 0)) (hE0 : 1 ≤ len → ∀ j, j < chs.length → (eqb.getD j false = true ↔ ty.getD (len - 1) 0 = chs.getD j 0)) (S1 : Sta Z Z.heap "java/lang/String" "COMPACT_STRINGS" "Z" (.int cs)) (hcs : ¬ cs = (0 : Int32)) (S2 : Sta Z Z.heap "jdk/internal/util/Preconditions" "SIOOBE_FORMATTER" "Ljava/util/function/BiFunction;" vF) (rF : vF.isRef = true) (XO : Old Z n0 h0) :
    MetFree l (⟨"com/example/catchment/catchment/linkage/EditDistance", "type", "(C)V"⟩ : MethodName) (head1 (Jvm.Cond.code (⟨"com/example/catchment/catchment/linkage/EditDistance", "type", "(C)V"⟩ : MethodName) prog_23_method_9_code 10 none :: ws) ({ frames := 5, cells := 2, slots := 39, locals := 80 } : Room)) (fun A_ U => A_ = #[(.ref a), (.int ch)] ∧ Z.Warmed39 U.vm ∧ U.heap = h0) (fun _ _ _ _ _ => True) (fun _ U o U' => ∃ v L, o = .returned v ∧ QTyp Z a ch r ba ta kb kt li chs bd ty len eqa eqb cs vF h0 n0 v U'.heap L ∧ FrameEnd U o U' L ({ frames := 5, cells := 2, slots := 39, locals := 80 } : Room).cells ({ frames := 5, cells := 2, slots := 39, locals := 80 } : Room).slots) := by
  refine MetFree.of_bodySF (plainFor_of_name pn_1) hisR ?_
  intro p e s m args below meth c s₁ Bd hml0 hP hK
  obtain ⟨rfl, hZ, hh⟩ := hP
  have hx := Bd.exec
  have hby := Bd.bytes
  have hml : c.maxLocals = 10 := hml0
  have hown : s.vm.findClass "com/example/catchment/catchment/linkage/EditDistance" = some m.cls := findClass_of_methodNamed Bd.named
  have hnm := (name_of_methodNamed Bd.named Bd.method).1
  have X0 : Stand p l e ({ frames := 5, cells := 2, slots := 39, locals := 80 } : Room) s m #[(.ref a), (.int ch)] below meth c s₁ [] 0 0 := Stand.of_body Bd
  have e0 : s₁.heap = h0 := by rw [← hh, Bd.state]; rfl
  have N0 := Fr.nil n0
  obtain ⟨F0, eF0⟩ : ∃ f : JFrame, f = entryFrame m #[(.ref a), (.int ch)] 10 := ⟨_, rfl⟩
  have k0 : Goes p e below s₁ F0 s₁ (mkF m 0 #[rv a, iv ch, .unset, .unset, .unset, .unset, .unset, .unset, .unset, .unset] []) := fun t k => by subst eF0; exact castTop (ef_Typ m a ch) k
  refine Classical.byContradiction fun hG => ?_
  obtain ⟨hl1, hl7⟩ := own_growT_len hle ht1 hlen ht7
  have hl8 := own_growB_len (li := li) (len := len) (bd := bd) (ty := ty) hbl
  have hB4 := own_growB_le (li := li) (len := len) (cap := ty.length) hB
  have hty := fun (h : 1 ≤ len) => own_tyGet (ch := ch) hle h
  obtain ⟨bD, ebD⟩ : ∃ z, z = (own_growB li len ty.length bd) := ⟨_, rfl⟩
  obtain ⟨tY, etY⟩ : ∃ z, z = (own_growT len ty) := ⟨_, rfl⟩
  rw [← ebD] at hl8 hB4
  rw [← etY] at hl1 hl7 hl8 hty
  have hR : (len + 1) * (2 * li + 1) + (2 * li + 1) ≤ bD.length := by rw [hl8, ← Nat.succ_mul]; exact Nat.mul_le_mul_right _ (by omega)
  have hRb : bD.length ≤ 1000 := by rw [hl8]; exact Nat.le_trans (Nat.mul_le_mul (show tY.length + 1 ≤ 8 by omega) (show 2 * li + 1 ≤ 7 by omega)) (by decide)
  have hR1 : (len + 1) * (2 * li + 1) = len * (2 * li + 1) + (2 * li + 1) := Nat.succ_mul _ _
  have hR2 : 1 ≤ len → 2 * (2 * li + 1) ≤ (len + 1) * (2 * li + 1) := fun h => Nat.mul_le_mul_right _ (by omega)
  have j53 : ∀ (T : State) (lo : List Loc) (hh : Heap) (bA tA : Addr) (kB kT' : ClassId), bA ∈ [a, ba, ta] ∨ h0.size ≤ bA → tA ∈ [a, ba, ta] ∨ h0.size ≤ tA → n0 ≤ bA → n0 ≤ tA → n0 ≤ hh.size → Old Z n0 hh → Keep h0 hh [a, ba, ta] → own_ED Z hh a r bA tA kB kT' li chs bD tY len → Stand p l e ({ frames := 5, cells := 2, slots := 39, locals := 80 } : Room) s m #[(.ref a), (.int ch)] below meth c T lo 2 39 → Fr n0 lo → T.heap = hh → Goes p e below s₁ F0 T (mkF m 53 #[rv a, iv ch, .unset, .unset, .unset, .unset, .unset, .unset, .unset, .unset] []) → False := by
    intro T lo hh bA tA kB kT' hbA htA gbA gtA Zt Ot Kt Dt X NL eT kT
    obtain ⟨De1, Df1_0, Df1_1, Df1_2, Df1_3, Df1_4, Df1_5, Df1_6, Vb1, Vt1, Sr1⟩ := id Dt
    have k2 : Goes p e below s₁ F0 T (mkF m 54 #[rv a, iv ch, .unset, .unset, .unset, .unset, .unset, .unset, .unset, .unset] [(.ref a)]) := by
      intro t k
      refine kT _ ?_
      skip
      refine XS.aloadN X.here hx rfl (hb hby dp23_m9_53) rfl rfl ?_
      exact k
    obtain ⟨T3, X3, e3, st3⟩ := getF X hx hZ hown (host := "") (Or.inl (own_q hw 53 rfl)) Via.refl eT Df1_5 (g := (mkF m 54 #[rv a, iv ch, .unset, .unset, .unset, .unset, .unset, .unset, .unset, .unset] [(.ref a)])) rfl rfl (hb hby dp23_m9_54)
    have k3 : Goes p e below s₁ F0 T3 (mkF m 57 #[rv a, iv ch, .unset, .unset, .unset, .unset, .unset, .unset, .unset, .unset] [(.ref tA)]) := fun t k => k2 t (st3 _ k)
    have k4 : Goes p e below s₁ F0 T3 (mkF m 59 #[rv a, iv ch, .unset, .unset, .unset, .unset, .unset, .unset, .unset, .unset] [(.ref a), (.ref a), (.ref tA)]) := by
      intro t k
      refine k3 _ ?_
      skip
      refine XS.aloadN X3.here hx rfl (hb hby dp23_m9_57) rfl rfl ?_
      refine XS.dup X3.here hx rfl (hb hby dp23_m9_58) rfl rfl ?_
      exact k
    obtain ⟨T5, X5, e5, st5⟩ := getF X3 hx hZ hown (host := "") (Or.inl (own_q hw 62 rfl)) Via.refl e3 Df1_6 (g := (mkF m 59 #[rv a, iv ch, .unset, .unset, .unset, .unset, .unset, .unset, .unset, .unset] [(.ref a), (.ref a), (.ref tA)])) rfl rfl (hb hby dp23_m9_59)
    have k5 : Goes p e below s₁ F0 T5 (mkF m 62 #[rv a, iv ch, .unset, .unset, .unset, .unset, .unset, .unset, .unset, .unset] [(.int (Int32.ofNat len)), (.ref a), (.ref tA)]) := fun t k => k4 t (st5 _ k)
    have k6 : Goes p e below s₁ F0 T5 (mkF m 65 #[rv a, iv ch, .unset, .unset, .unset, .unset, .unset, .unset, .unset, .unset] [(.int ((Int32.ofNat len) + (1 : Int32))), (.ref a), (.int (Int32.ofNat len)), (.ref tA)]) := by
      intro t k
      refine k5 _ ?_
      skip
      refine XS.dupX1 X5.here hx rfl (hb hby dp23_m9_62) rfl rfl rfl ?_
      refine XS.iconst X5.here hx rfl (hb hby dp23_m9_63) ?_
      refine XS.iadd X5.here hx rfl (hb hby dp23_m9_64) rfl ?_
      exact k
    rw [show ((Int32.ofNat len) + (1 : Int32)) = (Int32.ofNat (len + 1)) from own_add1 len] at k6
    obtain ⟨T7, h7, X7, e7, W7, st7⟩ := putF X5 hx hZ hown (host := "") (Or.inl (own_q hw 62 rfl)) Via.refl e5 Df1_6 De1 (Or.inl (own_q hw 63 rfl)) (own_q hw 28 rfl) (ty := .int) (by decide) rfl rfl (g := (mkF m 65 #[rv a, iv ch, .unset, .unset, .unset, .unset, .unset, .unset, .unset, .unset] [(.int (Int32.ofNat (len + 1))), (.ref a), (.int (Int32.ofNat len)), (.ref tA)])) rfl rfl (hb hby dp23_m9_65)
    have N7 := Fr.snoc X7 NL ga
    have Fw7 := Df1_6.same W7
    have k7 : Goes p e below s₁ F0 T7 (mkF m 68 #[rv a, iv ch, .unset, .unset, .unset, .unset, .unset, .unset, .unset, .unset] [(.int (Int32.ofNat len)), (.ref tA)]) := fun t k => k6 t (st7 _ k)
    have Z8 : n0 ≤ h7.size := Nat.le_trans Zt (Keep.of_wr W7).1
    have D1 := own_ED.wrLen hw Dt W7
    obtain ⟨De9, Df9_0, Df9_1, Df9_2, Df9_3, Df9_4, Df9_5, Df9_6, Vb9, Vt9, Sr9⟩ := id D1
    have k10 : Goes p e below s₁ F0 T7 (mkF m 69 #[rv a, iv ch, .unset, .unset, .unset, .unset, .unset, .unset, .unset, .unset] [(.int ch), (.int (Int32.ofNat len)), (.ref tA)]) := by
      intro t k
      refine k7 _ ?_
      skip
      refine XS.iloadN X7.here hx rfl (hb hby dp23_m9_68) rfl ?_
      exact k
    obtain ⟨cl11, Ar11, qk11, Sz11, Nn11, Hs11, Gs11⟩ := id Vt9
    have hin0 := own_inb hl1 (by omega)
    obtain ⟨T12, h12, X12, e12, W12, st12⟩ := stC X7 hx hZ e7 Ar11 (j := Int32.ofNat len) (inb_of Sz11 hin0) (g := (mkF m 69 #[rv a, iv ch, .unset, .unset, .unset, .unset, .unset, .unset, .unset, .unset] [(.int ch), (.int (Int32.ofNat len)), (.ref tA)])) rfl rfl (hb hby dp23_m9_69)
    have N12 := Fr.snoc X12 N7 gtA
    have D2 := own_ED.wrTyped hw D1 hch (own_clampN (by omega)) hl1 W12
    have k12 : Goes p e below s₁ F0 T12 (mkF m 70 #[rv a, iv ch, .unset, .unset, .unset, .unset, .unset, .unset, .unset, .unset] []) := fun t k => k10 t (st12 _ k)
    have Z13 : n0 ≤ h12.size := Nat.le_trans Z8 (Keep.of_wr W12).1
    obtain ⟨De14, Df14_0, Df14_1, Df14_2, Df14_3, Df14_4, Df14_5, Df14_6, Vb14, Vt14, Sr14⟩ := id D2
    have k15 : Goes p e below s₁ F0 T12 (mkF m 71 #[rv a, iv ch, .unset, .unset, .unset, .unset, .unset, .unset, .unset, .unset] [(.ref a)]) := by
      intro t k
      refine k12 _ ?_
      skip
      refine XS.aloadN X12.here hx rfl (hb hby dp23_m9_70) rfl rfl ?_
      exact k
    obtain ⟨T16, X16, e16, st16⟩ := getF X12 hx hZ hown (host := "") (Or.inl (own_q hw 62 rfl)) Via.refl e12 Df14_6 (g := (mkF m 71 #[rv a, iv ch, .unset, .unset, .unset, .unset, .unset, .unset, .unset, .unset] [(.ref a)])) rfl rfl (hb hby dp23_m9_71)
    have k16 : Goes p e below s₁ F0 T16 (mkF m 74 #[rv a, iv ch, .unset, .unset, .unset, .unset, .unset, .unset, .unset, .unset] [(.int (Int32.ofNat (len + 1)))]) := fun t k => k15 t (st16 _ k)
    have k17 : Goes p e below s₁ F0 T16 (mkF m 77 #[rv a, iv ch, iv (Int32.ofNat (len + 1)), .unset, .unset, .unset, .unset, .unset, .unset, .unset] [(.ref a), (.int (Int32.ofNat (len + 1)))]) := by
      intro t k
      refine k16 _ ?_
      skip
      refine XS.istoreN X16.here hx rfl (hb hby dp23_m9_74) rfl (l' := #[rv a, iv ch, iv (Int32.ofNat (len + 1)), .unset, .unset, .unset, .unset, .unset, .unset, .unset]) rfl ?_
      refine XS.iloadN X16.here hx rfl (hb hby dp23_m9_75) rfl ?_
      refine XS.aloadN X16.here hx rfl (hb hby dp23_m9_76) rfl rfl ?_
      exact k
    obtain ⟨T18, X18, e18, st18⟩ := getF X16 hx hZ hown (host := "") (Or.inl (own_q hw 40 rfl)) Via.refl e16 Df14_3 (g := (mkF m 77 #[rv a, iv ch, iv (Int32.ofNat (len + 1)), .unset, .unset, .unset, .unset, .unset, .unset, .unset] [(.ref a), (.int (Int32.ofNat (len + 1)))])) rfl rfl (hb hby dp23_m9_77)
    have k18 : Goes p e below s₁ F0 T18 (mkF m 80 #[rv a, iv ch, iv (Int32.ofNat (len + 1)), .unset, .unset, .unset, .unset, .unset, .unset, .unset] [(.int (Int32.ofNat (2 * li + 1))), (.int (Int32.ofNat (len + 1)))]) := fun t k => k17 t (st18 _ k)
    have k19 : Goes p e below s₁ F0 T18 (mkF m 81 #[rv a, iv ch, iv (Int32.ofNat (len + 1)), .unset, .unset, .unset, .unset, .unset, .unset, .unset] [(.int ((Int32.ofNat (len + 1)) * (Int32.ofNat (2 * li + 1))))]) := by
      intro t k
      refine k18 _ ?_
      skip
      refine XS.imul X18.here hx rfl (hb hby dp23_m9_80) rfl ?_
      exact k
    rw [show ((Int32.ofNat (len + 1)) * (Int32.ofNat (2 * li + 1))) = (Int32.ofNat ((len + 1) * (2 * li + 1))) from own_mulN (by omega) (by omega) (by omega)] at k19
    have k20 : Goes p e below s₁ F0 T18 (mkF m 84 #[rv a, iv ch, iv (Int32.ofNat (len + 1)), iv (Int32.ofNat ((len + 1) * (2 * li + 1))), .unset, .unset, .unset, .unset, .unset, .unset] [(.ref a), (.int (Int32.ofNat ((len + 1) * (2 * li + 1))))]) := by
      intro t k
      refine k19 _ ?_
      skip
      refine XS.istoreN X18.here hx rfl (hb hby dp23_m9_81) rfl (l' := #[rv a, iv ch, iv (Int32.ofNat (len + 1)), iv (Int32.ofNat ((len + 1) * (2 * li + 1))), .unset, .unset, .unset, .unset, .unset, .unset]) rfl ?_
      refine XS.iloadN X18.here hx rfl (hb hby dp23_m9_82) rfl ?_
      refine XS.aloadN X18.here hx rfl (hb hby dp23_m9_83) rfl rfl ?_
      exact k
    obtain ⟨T21, X21, e21, st21⟩ := getF X18 hx hZ hown (host := "") (Or.inl (own_q hw 40 rfl)) Via.refl e18 Df14_3 (g := (mkF m 84 #[rv a, iv ch, iv (Int32.ofNat (len + 1)), iv (Int32.ofNat ((len + 1) * (2 * li + 1))), .unset, .unset, .unset, .unset, .unset, .unset] [(.ref a), (.int (Int32.ofNat ((len + 1) * (2 * li + 1))))])) rfl rfl (hb hby dp23_m9_84)
    have k21 : Goes p e below s₁ F0 T21 (mkF m 87 #[rv a, iv ch, iv (Int32.ofNat (len + 1)), iv (Int32.ofNat ((len + 1) * (2 * li + 1))), .unset, .unset, .unset, .unset, .unset, .unset] [(.int (Int32.ofNat (2 * li + 1))), (.int (Int32.ofNat ((len + 1) * (2 * li + 1))))]) := fun t k => k20 t (st21 _ k)
    have k22 : Goes p e below s₁ F0 T21 (mkF m 88 #[rv a, iv ch, iv (Int32.ofNat (len + 1)), iv (Int32.ofNat ((len + 1) * (2 * li + 1))), .unset, .unset, .unset, .unset, .unset, .unset] [(.int ((Int32.ofNat ((len + 1) * (2 * li + 1))) - (Int32.ofNat (2 * li + 1))))]) := by
      intro t k
      refine k21 _ ?_
      skip
      refine XS.isub X21.here hx rfl (hb hby dp23_m9_87) rfl ?_
      exact k
    rw [show ((Int32.ofNat ((len + 1) * (2 * li + 1))) - (Int32.ofNat (2 * li + 1))) = (Int32.ofNat ((len + 1) * (2 * li + 1) - (2 * li + 1))) from own_subN (by omega) (by omega)] at k22
    have k23 : Goes p e below s₁ F0 T21 (mkF m 92 #[rv a, iv ch, iv (Int32.ofNat (len + 1)), iv (Int32.ofNat ((len + 1) * (2 * li + 1))), iv (Int32.ofNat ((len + 1) * (2 * li + 1) - (2 * li + 1))), .unset, .unset, .unset, .unset, .unset] [(.ref a), (.int (0 : Int32))]) := by
      intro t k
      refine k22 _ ?_
      skip
      refine XS.istore X21.here hx rfl (hb hby dp23_m9_88) rfl (l' := #[rv a, iv ch, iv (Int32.ofNat (len + 1)), iv (Int32.ofNat ((len + 1) * (2 * li + 1))), iv (Int32.ofNat ((len + 1) * (2 * li + 1) - (2 * li + 1))), .unset, .unset, .unset, .unset, .unset]) rfl ?_
      refine XS.iconst X21.here hx rfl (hb hby dp23_m9_90) ?_
      refine XS.aloadN X21.here hx rfl (hb hby dp23_m9_91) rfl rfl ?_
      exact k
    obtain ⟨T24, X24, e24, st24⟩ := getF X21 hx hZ hown (host := "") (Or.inl (own_q hw 36 rfl)) Via.refl e21 Df14_1 (g := (mkF m 92 #[rv a, iv ch, iv (Int32.ofNat (len + 1)), iv (Int32.ofNat ((len + 1) * (2 * li + 1))), iv (Int32.ofNat ((len + 1) * (2 * li + 1) - (2 * li + 1))), .unset, .unset, .unset, .unset, .unset] [(.ref a), (.int (0 : Int32))])) rfl rfl (hb hby dp23_m9_92)
    have k24 : Goes p e below s₁ F0 T24 (mkF m 95 #[rv a, iv ch, iv (Int32.ofNat (len + 1)), iv (Int32.ofNat ((len + 1) * (2 * li + 1))), iv (Int32.ofNat ((len + 1) * (2 * li + 1) - (2 * li + 1))), .unset, .unset, .unset, .unset, .unset] [(.int (Int32.ofNat li)), (.int (0 : Int32))]) := fun t k => k23 t (st24 _ k)
    have k25 : Goes p e below s₁ F0 T24 (mkF m 97 #[rv a, iv ch, iv (Int32.ofNat (len + 1)), iv (Int32.ofNat ((len + 1) * (2 * li + 1))), iv (Int32.ofNat ((len + 1) * (2 * li + 1) - (2 * li + 1))), .unset, .unset, .unset, .unset, .unset] [(.int ((Int32.ofNat li) - (Int32.ofNat (len + 1)))), (.int (0 : Int32))]) := by
      intro t k
      refine k24 _ ?_
      skip
      refine XS.iloadN X24.here hx rfl (hb hby dp23_m9_95) rfl ?_
      refine XS.isub X24.here hx rfl (hb hby dp23_m9_96) rfl ?_
      exact k
    obtain ⟨_, _, ⟨T26, L26, ck26, nk26⟩, -, X26, ⟨Lc26, hQ26, l26, y26, z26⟩, st26⟩ := Jvm.LawKit.callS X24 hx (y := (⟨"java/lang/Math", "max", "(II)I"⟩ : MethodName)) hown (mvT hZ (own_q hw 105 rfl)) (mvT hZ (own_q hw 106 rfl)) (mvT hZ (own_q hw 74 rfl)) (mvT hZ (own_q hw 107 rfl)) (by decide) (backOf (W := 0) (rmMax l Z a0 hw [] (0 : Int32) (Int32.ofNat li - Int32.ofNat (len + 1)) h12 n0 Z13) hZ (own_q hw 107 rfl) (own_q hw 74 rfl) (by decide) (by decide)) (g := (mkF m 97 #[rv a, iv ch, iv (Int32.ofNat (len + 1)), iv (Int32.ofNat ((len + 1) * (2 * li + 1))), iv (Int32.ofNat ((len + 1) * (2 * li + 1) - (2 * li + 1))), .unset, .unset, .unset, .unset, .unset] [(.int ((Int32.ofNat li) - (Int32.ofNat (len + 1)))), (.int (0 : Int32))])) rfl (by rw [hml]; rfl) (argsL := [(.int (0 : Int32)), (.int ((Int32.ofNat li) - (Int32.ofNat (len + 1))))]) (rest := []) (lenOf pd_0 rfl) rfl (by show 2 * 0 + _ ≤ _; exact Nat.le_of_eq rfl) (hb hby dp23_m9_97) (fun _ _ => ⟨rfl, e24, (by decide : 2 + 0 ≤ _), (by decide : 39 + 0 ≤ _)⟩)
    dsimp only [Pt.U, Pt.locs, Pt.cells, Pt.slots] at X26 l26 y26 z26 st26 hQ26
    subst l26 y26 z26
    obtain ⟨rfl, N26q, e26⟩ := hQ26
    have N26 := Fr.app N12 N26q
    have k26 : Goes p e below s₁ F0 T26 (mkF m 100 #[rv a, iv ch, iv (Int32.ofNat (len + 1)), iv (Int32.ofNat ((len + 1) * (2 * li + 1))), iv (Int32.ofNat ((len + 1) * (2 * li + 1) - (2 * li + 1))), .unset, .unset, .unset, .unset, .unset] [(.int (own_max (0 : Int32) (Int32.ofNat li - Int32.ofNat (len + 1))))]) := fun t k => k25 t (st26 _ k)
    rw [show (own_max (0 : Int32) (Int32.ofNat li - Int32.ofNat (len + 1))) = (Int32.ofNat (li - (len + 1))) from own_maxS (by omega) (by omega)] at k26
    have k27 : Goes p e below s₁ F0 T26 (mkF m 103 #[rv a, iv ch, iv (Int32.ofNat (len + 1)), iv (Int32.ofNat ((len + 1) * (2 * li + 1))), iv (Int32.ofNat ((len + 1) * (2 * li + 1) - (2 * li + 1))), iv (Int32.ofNat (li - (len + 1))), .unset, .unset, .unset, .unset] [(.ref a)]) := by
      intro t k
      refine k26 _ ?_
      skip
      refine XS.istore X26.here hx rfl (hb hby dp23_m9_100) rfl (l' := #[rv a, iv ch, iv (Int32.ofNat (len + 1)), iv (Int32.ofNat ((len + 1) * (2 * li + 1))), iv (Int32.ofNat ((len + 1) * (2 * li + 1) - (2 * li + 1))), iv (Int32.ofNat (li - (len + 1))), .unset, .unset, .unset, .unset]) rfl ?_
      refine XS.aloadN X26.here hx rfl (hb hby dp23_m9_102) rfl rfl ?_
      exact k
    obtain ⟨T28, X28, e28, st28⟩ := getF X26 hx hZ hown (host := "") (Or.inl (own_q hw 40 rfl)) Via.refl e26 Df14_3 (g := (mkF m 103 #[rv a, iv ch, iv (Int32.ofNat (len + 1)), iv (Int32.ofNat ((len + 1) * (2 * li + 1))), iv (Int32.ofNat ((len + 1) * (2 * li + 1) - (2 * li + 1))), iv (Int32.ofNat (li - (len + 1))), .unset, .unset, .unset, .unset] [(.ref a)])) rfl rfl (hb hby dp23_m9_103)
    have k28 : Goes p e below s₁ F0 T28 (mkF m 106 #[rv a, iv ch, iv (Int32.ofNat (len + 1)), iv (Int32.ofNat ((len + 1) * (2 * li + 1))), iv (Int32.ofNat ((len + 1) * (2 * li + 1) - (2 * li + 1))), iv (Int32.ofNat (li - (len + 1))), .unset, .unset, .unset, .unset] [(.int (Int32.ofNat (2 * li + 1)))]) := fun t k => k27 t (st28 _ k)
    have k29 : Goes p e below s₁ F0 T28 (mkF m 108 #[rv a, iv ch, iv (Int32.ofNat (len + 1)), iv (Int32.ofNat ((len + 1) * (2 * li + 1))), iv (Int32.ofNat ((len + 1) * (2 * li + 1) - (2 * li + 1))), iv (Int32.ofNat (li - (len + 1))), .unset, .unset, .unset, .unset] [(.int ((Int32.ofNat (2 * li + 1)) - (1 : Int32)))]) := by
      intro t k
      refine k28 _ ?_
      skip
      refine XS.iconst X28.here hx rfl (hb hby dp23_m9_106) ?_
      refine XS.isub X28.here hx rfl (hb hby dp23_m9_107) rfl ?_
      exact k
    rw [show ((Int32.ofNat (2 * li + 1)) - (1 : Int32)) = (Int32.ofNat (2 * li)) from own_sub1 (by omega) (by omega)] at k29
    have k30 : Goes p e below s₁ F0 T28 (mkF m 109 #[rv a, iv ch, iv (Int32.ofNat (len + 1)), iv (Int32.ofNat ((len + 1) * (2 * li + 1))), iv (Int32.ofNat ((len + 1) * (2 * li + 1) - (2 * li + 1))), iv (Int32.ofNat (li - (len + 1))), .unset, .unset, .unset, .unset] [(.ref a), (.int (Int32.ofNat (2 * li)))]) := by
      intro t k
      refine k29 _ ?_
      skip
      refine XS.aloadN X28.here hx rfl (hb hby dp23_m9_108) rfl rfl ?_
      exact k
    obtain ⟨T31, X31, e31, st31⟩ := getF X28 hx hZ hown (host := "") (Or.inl (own_q hw 34 rfl)) Via.refl e28 Df14_0 (g := (mkF m 109 #[rv a, iv ch, iv (Int32.ofNat (len + 1)), iv (Int32.ofNat ((len + 1) * (2 * li + 1))), iv (Int32.ofNat ((len + 1) * (2 * li + 1) - (2 * li + 1))), iv (Int32.ofNat (li - (len + 1))), .unset, .unset, .unset, .unset] [(.ref a), (.int (Int32.ofNat (2 * li)))])) rfl rfl (hb hby dp23_m9_109)
    have k31 : Goes p e below s₁ F0 T31 (mkF m 112 #[rv a, iv ch, iv (Int32.ofNat (len + 1)), iv (Int32.ofNat ((len + 1) * (2 * li + 1))), iv (Int32.ofNat ((len + 1) * (2 * li + 1) - (2 * li + 1))), iv (Int32.ofNat (li - (len + 1))), .unset, .unset, .unset, .unset] [(.ref r), (.int (Int32.ofNat (2 * li)))]) := fun t k => k30 t (st31 _ k)
    have od32 : Old Z n0 h12 := ((Ot.wr W7 ga).wr W12 gtA)
    obtain ⟨cq33, kq33, q33a, q33b, q33c⟩ := isOf hZ e31 (own_Str.exa Sr14)
    obtain ⟨_, _, ⟨T33, L33, ck33, nk33⟩, -, X33, ⟨Lc33, hQ33, l33, y33, z33⟩, st33⟩ := X31.virtualBack hx (y := (⟨"java/lang/String", "length", "()I"⟩ : MethodName)) (z := (⟨"java/lang/String", "length", "()I"⟩ : MethodName)) hown (mvT hZ (own_q hw 42 rfl)) (mvT hZ (own_q hw 43 rfl)) (notFace_of_selects (args := #[]) (mvT hZ (own_q hw 45 rfl))) (mvT hZ (own_q hw 45 rfl)) (mvT hZ (own_q hw 44 rfl)) (by decide) (own_lenB (W := 1) hZ hw Sr14 (S1.ext od32.2) hcs (by decide) (by decide)) q33a q33c (g := (mkF m 112 #[rv a, iv ch, iv (Int32.ofNat (len + 1)), iv (Int32.ofNat ((len + 1) * (2 * li + 1))), iv (Int32.ofNat ((len + 1) * (2 * li + 1) - (2 * li + 1))), iv (Int32.ofNat (li - (len + 1))), .unset, .unset, .unset, .unset] [(.ref r), (.int (Int32.ofNat (2 * li)))])) rfl (by rw [hml]; rfl) (Steps.refl _) (argsL := []) (rest := [(.int (Int32.ofNat (2 * li)))]) (lenOf pd_1 rfl) rfl (by show 2 * 0 + _ ≤ _; exact Nat.le_of_eq rfl) (hb hby dp23_m9_112) (fun _ _ => ⟨rfl, e31, (by decide : 2 + 0 ≤ _), (by decide : 39 + 0 ≤ _)⟩)
    dsimp only [Pt.U, Pt.locs, Pt.cells, Pt.slots] at X33 l33 y33 z33 st33 hQ33
    subst l33 y33 z33
    obtain ⟨rfl, rfl, e33⟩ := hQ33
    have N33 := Fr.app N26 (Fr.nil n0)
    have k33 : Goes p e below s₁ F0 T33 (mkF m 115 #[rv a, iv ch, iv (Int32.ofNat (len + 1)), iv (Int32.ofNat ((len + 1) * (2 * li + 1))), iv (Int32.ofNat ((len + 1) * (2 * li + 1) - (2 * li + 1))), iv (Int32.ofNat (li - (len + 1))), .unset, .unset, .unset, .unset] [(.int (Int32.ofNat chs.length)), (.int (Int32.ofNat (2 * li)))]) := fun t k => k31 t (st33.trans k)
    have k34 : Goes p e below s₁ F0 T33 (mkF m 118 #[rv a, iv ch, iv (Int32.ofNat (len + 1)), iv (Int32.ofNat ((len + 1) * (2 * li + 1))), iv (Int32.ofNat ((len + 1) * (2 * li + 1) - (2 * li + 1))), iv (Int32.ofNat (li - (len + 1))), .unset, .unset, .unset, .unset] [(.ref a), (.int ((Int32.ofNat chs.length) - (Int32.ofNat (len + 1)))), (.int (Int32.ofNat (2 * li)))]) := by
      intro t k
      refine k33 _ ?_
      skip
      refine XS.iloadN X33.here hx rfl (hb hby dp23_m9_115) rfl ?_
      refine XS.isub X33.here hx rfl (hb hby dp23_m9_116) rfl ?_
      refine XS.aloadN X33.here hx rfl (hb hby dp23_m9_117) rfl rfl ?_
      exact k
    obtain ⟨T35, X35, e35, st35⟩ := getF X33 hx hZ hown (host := "") (Or.inl (own_q hw 36 rfl)) Via.refl e33 Df14_1 (g := (mkF m 118 #[rv a, iv ch, iv (Int32.ofNat (len + 1)), iv (Int32.ofNat ((len + 1) * (2 * li + 1))), iv (Int32.ofNat ((len + 1) * (2 * li + 1) - (2 * li + 1))), iv (Int32.ofNat (li - (len + 1))), .unset, .unset, .unset, .unset] [(.ref a), (.int ((Int32.ofNat chs.length) - (Int32.ofNat (len + 1)))), (.int (Int32.ofNat (2 * li)))])) rfl rfl (hb hby dp23_m9_118)
    have k35 : Goes p e below s₁ F0 T35 (mkF m 121 #[rv a, iv ch, iv (Int32.ofNat (len + 1)), iv (Int32.ofNat ((len + 1) * (2 * li + 1))), iv (Int32.ofNat ((len + 1) * (2 * li + 1) - (2 * li + 1))), iv (Int32.ofNat (li - (len + 1))), .unset, .unset, .unset, .unset] [(.int (Int32.ofNat li)), (.int ((Int32.ofNat chs.length) - (Int32.ofNat (len + 1)))), (.int (Int32.ofNat (2 * li)))]) := fun t k => k34 t (st35 _ k)
    have k36 : Goes p e below s₁ F0 T35 (mkF m 122 #[rv a, iv ch, iv (Int32.ofNat (len + 1)), iv (Int32.ofNat ((len + 1) * (2 * li + 1))), iv (Int32.ofNat ((len + 1) * (2 * li + 1) - (2 * li + 1))), iv (Int32.ofNat (li - (len + 1))), .unset, .unset, .unset, .unset] [(.int (((Int32.ofNat chs.length) - (Int32.ofNat (len + 1))) + (Int32.ofNat li))), (.int (Int32.ofNat (2 * li)))]) := by
      intro t k
      refine k35 _ ?_
      skip
      refine XS.iadd X35.here hx rfl (hb hby dp23_m9_121) rfl ?_
      exact k
    obtain ⟨_, _, ⟨T37, L37, ck37, nk37⟩, -, X37, ⟨Lc37, hQ37, l37, y37, z37⟩, st37⟩ := Jvm.LawKit.callS X35 hx (y := (⟨"java/lang/Math", "min", "(II)I"⟩ : MethodName)) hown (mvT hZ (own_q hw 108 rfl)) (mvT hZ (own_q hw 73 rfl)) (mvT hZ (own_q hw 74 rfl)) (mvT hZ (own_q hw 75 rfl)) (by decide) (backOf (W := 0) (rmMin l Z a0 hw [] (Int32.ofNat (2 * li)) (Int32.ofNat chs.length - Int32.ofNat (len + 1) + Int32.ofNat li) h12 n0 Z13) hZ (own_q hw 75 rfl) (own_q hw 74 rfl) (by decide) (by decide)) (g := (mkF m 122 #[rv a, iv ch, iv (Int32.ofNat (len + 1)), iv (Int32.ofNat ((len + 1) * (2 * li + 1))), iv (Int32.ofNat ((len + 1) * (2 * li + 1) - (2 * li + 1))), iv (Int32.ofNat (li - (len + 1))), .unset, .unset, .unset, .unset] [(.int (((Int32.ofNat chs.length) - (Int32.ofNat (len + 1))) + (Int32.ofNat li))), (.int (Int32.ofNat (2 * li)))])) rfl (by rw [hml]; rfl) (argsL := [(.int (Int32.ofNat (2 * li))), (.int (((Int32.ofNat chs.length) - (Int32.ofNat (len + 1))) + (Int32.ofNat li)))]) (rest := []) (lenOf pd_0 rfl) rfl (by show 2 * 0 + _ ≤ _; exact Nat.le_of_eq rfl) (hb hby dp23_m9_122) (fun _ _ => ⟨rfl, e35, (by decide : 2 + 0 ≤ _), (by decide : 39 + 0 ≤ _)⟩)
    dsimp only [Pt.U, Pt.locs, Pt.cells, Pt.slots] at X37 l37 y37 z37 st37 hQ37
    subst l37 y37 z37
    obtain ⟨rfl, N37q, e37⟩ := hQ37
    have N37 := Fr.app N33 N37q
    have k37 : Goes p e below s₁ F0 T37 (mkF m 125 #[rv a, iv ch, iv (Int32.ofNat (len + 1)), iv (Int32.ofNat ((len + 1) * (2 * li + 1))), iv (Int32.ofNat ((len + 1) * (2 * li + 1) - (2 * li + 1))), iv (Int32.ofNat (li - (len + 1))), .unset, .unset, .unset, .unset] [(.int (own_min (Int32.ofNat (2 * li)) (Int32.ofNat chs.length - Int32.ofNat (len + 1) + Int32.ofNat li)))]) := fun t k => k36 t (st37 _ k)
    obtain ⟨to, eq_to⟩ : ∃ z : Int32, z = (own_min (Int32.ofNat (2 * li)) (Int32.ofNat chs.length - Int32.ofNat (len + 1) + Int32.ofNat li)) := ⟨_, rfl⟩
    rw [← eq_to] at k37
    have hto : to.toInt = min ((2 * li : Nat) : Int) ((chs.length : Int) - ((len + 1 : Nat) : Int) + li) := by rw [eq_to]; exact own_toL (by omega) (by omega) (by omega)
    have k38 : Goes p e below s₁ F0 T37 (mkF m 130 #[rv a, iv ch, iv (Int32.ofNat (len + 1)), iv (Int32.ofNat ((len + 1) * (2 * li + 1))), iv (Int32.ofNat ((len + 1) * (2 * li + 1) - (2 * li + 1))), iv (Int32.ofNat (li - (len + 1))), iv to, iv (0 : Int32), .unset, .unset] []) := by
      intro t k
      refine k37 _ ?_
      skip
      refine XS.istore X37.here hx rfl (hb hby dp23_m9_125) rfl (l' := #[rv a, iv ch, iv (Int32.ofNat (len + 1)), iv (Int32.ofNat ((len + 1) * (2 * li + 1))), iv (Int32.ofNat ((len + 1) * (2 * li + 1) - (2 * li + 1))), iv (Int32.ofNat (li - (len + 1))), iv to, .unset, .unset, .unset]) rfl ?_
      refine XS.iconst X37.here hx rfl (hb hby dp23_m9_127) ?_
      refine XS.istore X37.here hx rfl (hb hby dp23_m9_128) rfl (l' := #[rv a, iv ch, iv (Int32.ofNat (len + 1)), iv (Int32.ofNat ((len + 1) * (2 * li + 1))), iv (Int32.ofNat ((len + 1) * (2 * li + 1) - (2 * li + 1))), iv (Int32.ofNat (li - (len + 1))), iv to, iv (0 : Int32), .unset, .unset]) rfl ?_
      exact k
    have kp39 : Keep h0 h12 [a, ba, ta] := ((Kt.wr W7 (Or.inl (List.mem_of_getElem? (i := 0) rfl))).wr W12 htA)
    have K0 := kp39
    have O0 := od32
    have loop3 : ∀ (kk : Nat) (hh : Heap) (T : State) (lo : List Loc) (i7 : Int32) (nk : Nat) (z8 z9 : Slot), One z8 → One z9 → i7 = Int32.ofNat nk → nk + kk = 2 * li + 1 → (nk < 2 * li + 1 → li + chs.length < len + 1 + nk) → n0 ≤ hh.size → Old Z n0 hh → Keep h0 hh [a, ba, ta] → own_ED Z hh a r bA tA kB kT' li chs (own_fillN li (len + 1) chs.length eqa eqb nk bD) (tY.set len ch) (len + 1) → Stand p l e ({ frames := 5, cells := 2, slots := 39, locals := 80 } : Room) s m #[(.ref a), (.int ch)] below meth c T lo 2 39 → Fr n0 lo → T.heap = hh → Goes p e below s₁ F0 T (mkF m 392 #[rv a, iv ch, iv (Int32.ofNat (len + 1)), iv (Int32.ofNat ((len + 1) * (2 * li + 1))), iv (Int32.ofNat ((len + 1) * (2 * li + 1) - (2 * li + 1))), iv (Int32.ofNat (li - (len + 1))), iv to, iv i7, z8, z9] []) → False := by
      intro kk
      induction kk with
      | zero =>
        intro hh T lo i7 nk z8 z9 hz8 hz9 hi hk hx3 Zt Ot Kt Dt X NL eT kT
        have hlb : (own_fillN li (len + 1) chs.length eqa eqb nk bD).length = bD.length := own_fill_len _ _ _ _ _ _ _
        obtain ⟨De40, Df40_0, Df40_1, Df40_2, Df40_3, Df40_4, Df40_5, Df40_6, Vb40, Vt40, Sr40⟩ := id Dt
        have k41 : Goes p e below s₁ F0 T (mkF m 395 #[rv a, iv ch, iv (Int32.ofNat (len + 1)), iv (Int32.ofNat ((len + 1) * (2 * li + 1))), iv (Int32.ofNat ((len + 1) * (2 * li + 1) - (2 * li + 1))), iv (Int32.ofNat (li - (len + 1))), iv to, iv i7, z8, z9] [(.ref a), (.int i7)]) := by
          intro t k
          refine kT _ ?_
          skip
          refine XS.iload X.here hx rfl (hb hby dp23_m9_392) rfl ?_
          refine XS.aloadN X.here hx rfl (hb hby dp23_m9_394) rfl rfl ?_
          exact k
        obtain ⟨T42, X42, e42, st42⟩ := getF X hx hZ hown (host := "") (Or.inl (own_q hw 40 rfl)) Via.refl eT Df40_3 (g := (mkF m 395 #[rv a, iv ch, iv (Int32.ofNat (len + 1)), iv (Int32.ofNat ((len + 1) * (2 * li + 1))), iv (Int32.ofNat ((len + 1) * (2 * li + 1) - (2 * li + 1))), iv (Int32.ofNat (li - (len + 1))), iv to, iv i7, z8, z9] [(.ref a), (.int i7)])) rfl rfl (hb hby dp23_m9_395)
        have k42 : Goes p e below s₁ F0 T42 (mkF m 398 #[rv a, iv ch, iv (Int32.ofNat (len + 1)), iv (Int32.ofNat ((len + 1) * (2 * li + 1))), iv (Int32.ofNat ((len + 1) * (2 * li + 1) - (2 * li + 1))), iv (Int32.ofNat (li - (len + 1))), iv to, iv i7, z8, z9] [(.int (Int32.ofNat (2 * li + 1))), (.int i7)]) := fun t k => k41 t (st42 _ k)
        have k43 : Goes p e below s₁ F0 T42 (mkF m 420 #[rv a, iv ch, iv (Int32.ofNat (len + 1)), iv (Int32.ofNat ((len + 1) * (2 * li + 1))), iv (Int32.ofNat ((len + 1) * (2 * li + 1) - (2 * li + 1))), iv (Int32.ofNat (li - (len + 1))), iv to, iv i7, z8, z9] []) := by
          intro t k
          refine k42 _ ?_
          skip
          refine XS.icmpYes X42.here hx rfl (pc0 := 398) (pc' := 420) rfl (hb hby dp23_m9_398) rfl (flt (by rw [hi, own_ltN (by omega) (by omega)]; omega)).2.1 (by decide) (by decide) ?_
          exact k
        have ek : nk = 2 * li + 1 := by omega
        rw [ek, ebD, etY] at Dt
        subst eF0
        obtain ⟨fs, hr, hrun, hended, hW, hsame⟩ := X42.leave (v := none) (fun h => rfl)
        refine hG ⟨_, _, k43 _ ?_, hrun, hended, _, _, rfl, ?_, ⟨_, rfl⟩, hW, hsame.mono (Nat.le_of_ble_eq_true rfl) (Nat.le_of_ble_eq_true rfl)⟩
        · exact X42.returnOut hx Bd.returns (hb hby dp23_m9_420) hr
        · show QTyp Z a ch r ba ta kb kt li chs bd ty len eqa eqb cs vF h0 n0 _ T42.heap _
          rw [e42]
          exact ⟨rfl, NL, Kt, bA, tA, kB, kT', hbA, htA, gbA, gtA, Dt⟩
      | succ kk ih =>
        intro hh T lo i7 nk z8 z9 hz8 hz9 hi hk hx3 Zt Ot Kt Dt X NL eT kT
        have hlb : (own_fillN li (len + 1) chs.length eqa eqb nk bD).length = bD.length := own_fill_len _ _ _ _ _ _ _
        obtain ⟨De44, Df44_0, Df44_1, Df44_2, Df44_3, Df44_4, Df44_5, Df44_6, Vb44, Vt44, Sr44⟩ := id Dt
        have k45 : Goes p e below s₁ F0 T (mkF m 395 #[rv a, iv ch, iv (Int32.ofNat (len + 1)), iv (Int32.ofNat ((len + 1) * (2 * li + 1))), iv (Int32.ofNat ((len + 1) * (2 * li + 1) - (2 * li + 1))), iv (Int32.ofNat (li - (len + 1))), iv to, iv i7, z8, z9] [(.ref a), (.int i7)]) := by
          intro t k
          refine kT _ ?_
          skip
          refine XS.iload X.here hx rfl (hb hby dp23_m9_392) rfl ?_
          refine XS.aloadN X.here hx rfl (hb hby dp23_m9_394) rfl rfl ?_
          exact k
        obtain ⟨T46, X46, e46, st46⟩ := getF X hx hZ hown (host := "") (Or.inl (own_q hw 40 rfl)) Via.refl eT Df44_3 (g := (mkF m 395 #[rv a, iv ch, iv (Int32.ofNat (len + 1)), iv (Int32.ofNat ((len + 1) * (2 * li + 1))), iv (Int32.ofNat ((len + 1) * (2 * li + 1) - (2 * li + 1))), iv (Int32.ofNat (li - (len + 1))), iv to, iv i7, z8, z9] [(.ref a), (.int i7)])) rfl rfl (hb hby dp23_m9_395)
        have k46 : Goes p e below s₁ F0 T46 (mkF m 398 #[rv a, iv ch, iv (Int32.ofNat (len + 1)), iv (Int32.ofNat ((len + 1) * (2 * li + 1))), iv (Int32.ofNat ((len + 1) * (2 * li + 1) - (2 * li + 1))), iv (Int32.ofNat (li - (len + 1))), iv to, iv i7, z8, z9] [(.int (Int32.ofNat (2 * li + 1))), (.int i7)]) := fun t k => k45 t (st46 _ k)
        have k47 : Goes p e below s₁ F0 T46 (mkF m 402 #[rv a, iv ch, iv (Int32.ofNat (len + 1)), iv (Int32.ofNat ((len + 1) * (2 * li + 1))), iv (Int32.ofNat ((len + 1) * (2 * li + 1) - (2 * li + 1))), iv (Int32.ofNat (li - (len + 1))), iv to, iv i7, z8, z9] [(.ref a)]) := by
          intro t k
          refine k46 _ ?_
          skip
          refine XS.icmpNo X46.here hx rfl (hb hby dp23_m9_398) rfl (tlt (by rw [hi, own_ltN (by omega) (by omega)]; omega)).2.1 ?_
          refine XS.aloadN X46.here hx rfl (hb hby dp23_m9_401) rfl rfl ?_
          exact k
        obtain ⟨T48, X48, e48, st48⟩ := getF X46 hx hZ hown (host := "") (Or.inl (own_q hw 55 rfl)) Via.refl e46 Df44_4 (g := (mkF m 402 #[rv a, iv ch, iv (Int32.ofNat (len + 1)), iv (Int32.ofNat ((len + 1) * (2 * li + 1))), iv (Int32.ofNat ((len + 1) * (2 * li + 1) - (2 * li + 1))), iv (Int32.ofNat (li - (len + 1))), iv to, iv i7, z8, z9] [(.ref a)])) rfl rfl (hb hby dp23_m9_402)
        have k48 : Goes p e below s₁ F0 T48 (mkF m 405 #[rv a, iv ch, iv (Int32.ofNat (len + 1)), iv (Int32.ofNat ((len + 1) * (2 * li + 1))), iv (Int32.ofNat ((len + 1) * (2 * li + 1) - (2 * li + 1))), iv (Int32.ofNat (li - (len + 1))), iv to, iv i7, z8, z9] [(.ref bA)]) := fun t k => k47 t (st48 _ k)
        have k49 : Goes p e below s₁ F0 T48 (mkF m 409 #[rv a, iv ch, iv (Int32.ofNat (len + 1)), iv (Int32.ofNat ((len + 1) * (2 * li + 1))), iv (Int32.ofNat ((len + 1) * (2 * li + 1) - (2 * li + 1))), iv (Int32.ofNat (li - (len + 1))), iv to, iv i7, z8, z9] [(.int ((Int32.ofNat ((len + 1) * (2 * li + 1))) + i7)), (.ref bA)]) := by
          intro t k
          refine k48 _ ?_
          skip
          refine XS.iloadN X48.here hx rfl (hb hby dp23_m9_405) rfl ?_
          refine XS.iload X48.here hx rfl (hb hby dp23_m9_406) rfl ?_
          refine XS.iadd X48.here hx rfl (hb hby dp23_m9_408) rfl ?_
          exact k
        rw [show ((Int32.ofNat ((len + 1) * (2 * li + 1))) + i7) = (Int32.ofNat ((len + 1) * (2 * li + 1) + nk)) from by rw [hi]; exact own_addN (by omega)] at k49
        have k50 : Goes p e below s₁ F0 T48 (mkF m 410 #[rv a, iv ch, iv (Int32.ofNat (len + 1)), iv (Int32.ofNat ((len + 1) * (2 * li + 1))), iv (Int32.ofNat ((len + 1) * (2 * li + 1) - (2 * li + 1))), iv (Int32.ofNat (li - (len + 1))), iv to, iv i7, z8, z9] [(.ref a), (.int (Int32.ofNat ((len + 1) * (2 * li + 1) + nk))), (.ref bA)]) := by
          intro t k
          refine k49 _ ?_
          skip
          refine XS.aloadN X48.here hx rfl (hb hby dp23_m9_409) rfl rfl ?_
          exact k
        obtain ⟨T51, X51, e51, st51⟩ := getF X48 hx hZ hown (host := "") (Or.inl (own_q hw 38 rfl)) Via.refl e48 Df44_2 (g := (mkF m 410 #[rv a, iv ch, iv (Int32.ofNat (len + 1)), iv (Int32.ofNat ((len + 1) * (2 * li + 1))), iv (Int32.ofNat ((len + 1) * (2 * li + 1) - (2 * li + 1))), iv (Int32.ofNat (li - (len + 1))), iv to, iv i7, z8, z9] [(.ref a), (.int (Int32.ofNat ((len + 1) * (2 * li + 1) + nk))), (.ref bA)])) rfl rfl (hb hby dp23_m9_410)
        have k51 : Goes p e below s₁ F0 T51 (mkF m 413 #[rv a, iv ch, iv (Int32.ofNat (len + 1)), iv (Int32.ofNat ((len + 1) * (2 * li + 1))), iv (Int32.ofNat ((len + 1) * (2 * li + 1) - (2 * li + 1))), iv (Int32.ofNat (li - (len + 1))), iv to, iv i7, z8, z9] [(.int (Int32.ofNat (li + 1))), (.int (Int32.ofNat ((len + 1) * (2 * li + 1) + nk))), (.ref bA)]) := fun t k => k50 t (st51 _ k)
        have hval : (own_valN li (len + 1) chs.length eqa eqb (own_fillN li (len + 1) chs.length eqa eqb nk bD) nk) = (li + 1) := by rw [own_valN, if_neg (by have := hx3 (by omega); omega), if_neg (by have := hx3 (by omega); omega), if_neg (by have := hx3 (by omega); omega)]
        rw [show [(Value.int (Int32.ofNat (li + 1))), (Value.int (Int32.ofNat ((len + 1) * (2 * li + 1) + nk))), (Value.ref bA)] = [(.int (Int32.ofNat (own_valN li (len + 1) chs.length eqa eqb (own_fillN li (len + 1) chs.length eqa eqb nk bD) nk))), (.int (Int32.ofNat ((len + 1) * (2 * li + 1) + nk))), (.ref bA)] by rw [hval]] at k51
        have hin := own_inb (x := (len + 1) * (2 * li + 1) + nk) (n := (own_fillN li (len + 1) chs.length eqa eqb nk bD).length) (by rw [hlb]; omega) (by rw [hlb]; omega)
        obtain ⟨cl52, Ar52, qk52, Sz52, Nn52, Hs52, Gs52⟩ := id Vb44
        obtain ⟨T53, h53, X53, e53, W53, st53⟩ := stI X51 hx hZ e51 Ar52 (j := (Int32.ofNat ((len + 1) * (2 * li + 1) + nk))) (inb_of Sz52 hin) (g := (mkF m 413 #[rv a, iv ch, iv (Int32.ofNat (len + 1)), iv (Int32.ofNat ((len + 1) * (2 * li + 1))), iv (Int32.ofNat ((len + 1) * (2 * li + 1) - (2 * li + 1))), iv (Int32.ofNat (li - (len + 1))), iv to, iv i7, z8, z9] [(.int (Int32.ofNat (own_valN li (len + 1) chs.length eqa eqb (own_fillN li (len + 1) chs.length eqa eqb nk bD) nk))), (.int (Int32.ofNat ((len + 1) * (2 * li + 1) + nk))), (.ref bA)])) rfl rfl (hb hby dp23_m9_413)
        have N53 := Fr.snoc X53 NL gbA
        have D53 := own_ED.wrBand hw Dt (n := (own_valN li (len + 1) chs.length eqa eqb (own_fillN li (len + 1) chs.length eqa eqb nk bD) nk)) (own_clampN (by omega)) (by rw [hlb]; omega) W53
        have k53 : Goes p e below s₁ F0 T53 (mkF m 414 #[rv a, iv ch, iv (Int32.ofNat (len + 1)), iv (Int32.ofNat ((len + 1) * (2 * li + 1))), iv (Int32.ofNat ((len + 1) * (2 * li + 1) - (2 * li + 1))), iv (Int32.ofNat (li - (len + 1))), iv to, iv i7, z8, z9] []) := fun t k => k51 t (st53 _ k)
        have Z54 : n0 ≤ h53.size := Nat.le_trans Zt (Keep.of_wr W53).1
        have kp55 : Keep h0 h53 [a, ba, ta] := (Kt.wr W53 hbA)
        have od56 : Old Z n0 h53 := (Ot.wr W53 gbA)
        have k57 : Goes p e below s₁ F0 T53 (mkF m 392 #[rv a, iv ch, iv (Int32.ofNat (len + 1)), iv (Int32.ofNat ((len + 1) * (2 * li + 1))), iv (Int32.ofNat ((len + 1) * (2 * li + 1) - (2 * li + 1))), iv (Int32.ofNat (li - (len + 1))), iv to, iv (i7 + (1 : Int32)), z8, z9] []) := by
          intro t k
          refine k53 _ ?_
          skip
          refine XS.iinc X53.here hx rfl (hb hby dp23_m9_414) rfl (l' := #[rv a, iv ch, iv (Int32.ofNat (len + 1)), iv (Int32.ofNat ((len + 1) * (2 * li + 1))), iv (Int32.ofNat ((len + 1) * (2 * li + 1) - (2 * li + 1))), iv (Int32.ofNat (li - (len + 1))), iv to, iv (i7 + (1 : Int32)), z8, z9]) rfl ?_
          refine XS.goto X53.here hx rfl (pc0 := 417) (pc' := 392) rfl (hb hby dp23_m9_417) (by decide) (by decide) ?_
          exact k
        exact ih  h53 T53 _ _ (nk + 1) _ _ hz8 hz9 (by rw [hi]; exact own_add1 nk) (by omega) (fun h => by have := hx3 (by omega); omega) Z54 od56 kp55 D53 X53 N53 e53 k57
    have loop2 : ∀ (kk : Nat) (hh : Heap) (T : State) (lo : List Loc) (i7 : Int32) (nk : Nat) (z8 z9 : Slot), One z8 → One z9 → i7 = Int32.ofNat nk → nk + kk = 2 * li + 1 → li < len + 1 + nk → n0 ≤ hh.size → Old Z n0 hh → Keep h0 hh [a, ba, ta] → own_ED Z hh a r bA tA kB kT' li chs (own_fillN li (len + 1) chs.length eqa eqb nk bD) (tY.set len ch) (len + 1) → Stand p l e ({ frames := 5, cells := 2, slots := 39, locals := 80 } : Room) s m #[(.ref a), (.int ch)] below meth c T lo 2 39 → Fr n0 lo → T.heap = hh → Goes p e below s₁ F0 T (mkF m 187 #[rv a, iv ch, iv (Int32.ofNat (len + 1)), iv (Int32.ofNat ((len + 1) * (2 * li + 1))), iv (Int32.ofNat ((len + 1) * (2 * li + 1) - (2 * li + 1))), iv (Int32.ofNat (li - (len + 1))), iv to, iv i7, z8, z9] []) → False := by
      intro kk
      induction kk with
      | zero =>
        intro hh T lo i7 nk z8 z9 hz8 hz9 hi hk hx2 Zt Ot Kt Dt X NL eT kT
        have hlb : (own_fillN li (len + 1) chs.length eqa eqb nk bD).length = bD.length := own_fill_len _ _ _ _ _ _ _
        obtain ⟨De58, Df58_0, Df58_1, Df58_2, Df58_3, Df58_4, Df58_5, Df58_6, Vb58, Vt58, Sr58⟩ := id Dt
        have hc2 : to < i7 := by rw [Int32.lt_iff_toInt_lt, hto, hi, own_tN (by omega)]; omega
        have k59 : Goes p e below s₁ F0 T (mkF m 392 #[rv a, iv ch, iv (Int32.ofNat (len + 1)), iv (Int32.ofNat ((len + 1) * (2 * li + 1))), iv (Int32.ofNat ((len + 1) * (2 * li + 1) - (2 * li + 1))), iv (Int32.ofNat (li - (len + 1))), iv to, iv i7, z8, z9] []) := by
          intro t k
          refine kT _ ?_
          skip
          refine XS.iload X.here hx rfl (hb hby dp23_m9_187) rfl ?_
          refine XS.iload X.here hx rfl (hb hby dp23_m9_189) rfl ?_
          refine XS.icmpYes X.here hx rfl (pc0 := 191) (pc' := 392) rfl (hb hby dp23_m9_191) rfl (tlt hc2).2.2.1 (by decide) (by decide) ?_
          exact k
        exact loop3 (2 * li + 1 - nk) hh T _ _ nk _ _ hz8 hz9 hi (by omega) (fun h => by rw [Int32.lt_iff_toInt_lt, hto, hi, own_tN (by omega)] at hc2; omega) Zt Ot Kt Dt X NL eT k59
      | succ kk ih =>
        intro hh T lo i7 nk z8 z9 hz8 hz9 hi hk hx2 Zt Ot Kt Dt X NL eT kT
        have hlb : (own_fillN li (len + 1) chs.length eqa eqb nk bD).length = bD.length := own_fill_len _ _ _ _ _ _ _
        obtain ⟨De60, Df60_0, Df60_1, Df60_2, Df60_3, Df60_4, Df60_5, Df60_6, Vb60, Vt60, Sr60⟩ := id Dt
        have k61 : Goes p e below s₁ F0 T (mkF m 191 #[rv a, iv ch, iv (Int32.ofNat (len + 1)), iv (Int32.ofNat ((len + 1) * (2 * li + 1))), iv (Int32.ofNat ((len + 1) * (2 * li + 1) - (2 * li + 1))), iv (Int32.ofNat (li - (len + 1))), iv to, iv i7, z8, z9] [(.int to), (.int i7)]) := by
          intro t k
          refine kT _ ?_
          skip
          refine XS.iload X.here hx rfl (hb hby dp23_m9_187) rfl ?_
          refine XS.iload X.here hx rfl (hb hby dp23_m9_189) rfl ?_
          exact k
        by_cases hc2 : to < i7
        · have k62 : Goes p e below s₁ F0 T (mkF m 392 #[rv a, iv ch, iv (Int32.ofNat (len + 1)), iv (Int32.ofNat ((len + 1) * (2 * li + 1))), iv (Int32.ofNat ((len + 1) * (2 * li + 1) - (2 * li + 1))), iv (Int32.ofNat (li - (len + 1))), iv to, iv i7, z8, z9] []) := by
            intro t k
            refine k61 _ ?_
            skip
            refine XS.icmpYes X.here hx rfl (pc0 := 191) (pc' := 392) rfl (hb hby dp23_m9_191) rfl (tlt hc2).2.2.1 (by decide) (by decide) ?_
            exact k
          exact loop3 (2 * li + 1 - nk) hh T _ _ nk _ _ hz8 hz9 hi (by omega) (fun h => by rw [Int32.lt_iff_toInt_lt, hto, hi, own_tN (by omega)] at hc2; omega) Zt Ot Kt Dt X NL eT k62
        · have hnk : nk ≤ 2 * li ∧ len + 1 + nk ≤ li + chs.length := by rw [Int32.lt_iff_toInt_lt, hto, hi, own_tN (by omega)] at hc2; omega
          have hBk := own_fill_le (li := li) (i := len + 1) (vl := chs.length) (e1 := eqa) (e0 := eqb) hli (by omega) hB4 nk
          obtain ⟨bN, ebN⟩ : ∃ z, z = (own_fillN li (len + 1) chs.length eqa eqb nk bD) := ⟨_, rfl⟩
          have hBn : ∀ k, bN.getD k 0 ≤ 4 := by rw [ebN]; exact hBk
          obtain ⟨xA, exA⟩ : ∃ z, z = own_cA li (len + 1) eqa bN nk := ⟨_, rfl⟩
          obtain ⟨xB, exB⟩ : ∃ z, z = own_cB li (len + 1) bN nk xA := ⟨_, rfl⟩
          obtain ⟨xC, exC⟩ : ∃ z, z = own_cC li (len + 1) bN nk xB := ⟨_, rfl⟩
          obtain ⟨xD, exD⟩ : ∃ z, z = own_cD li (len + 1) eqa eqb bN nk xC := ⟨_, rfl⟩
          have hxA : xA ≤ 5 := by rw [exA, own_cA]; have := hBn ((len + 1) * (2 * li + 1) - (2 * li + 1) + nk); split <;> omega
          have hxB : xB ≤ 5 := by rw [exB, own_cB]; split <;> omega
          have hxC : xC ≤ 5 := by rw [exC, own_cC]; split <;> omega
          have hxD : xD ≤ 5 := by rw [exD, own_cD]; split <;> omega
          have hcell : own_cellN li (len + 1) eqa eqb (own_fillN li (len + 1) chs.length eqa eqb nk bD) nk = min xD (li + 1) := by rw [exD, exC, exB, exA, ebN]; rfl
          have k63 : Goes p e below s₁ F0 T (mkF m 194 #[rv a, iv ch, iv (Int32.ofNat (len + 1)), iv (Int32.ofNat ((len + 1) * (2 * li + 1))), iv (Int32.ofNat ((len + 1) * (2 * li + 1) - (2 * li + 1))), iv (Int32.ofNat (li - (len + 1))), iv to, iv i7, z8, z9] []) := by
            intro t k
            refine k61 _ ?_
            skip
            refine XS.icmpNo X.here hx rfl (hb hby dp23_m9_191) rfl (flt hc2).2.2.1 ?_
            exact k
          have j368 : ∀ (T : State) (lo : List Loc) , Stand p l e ({ frames := 5, cells := 2, slots := 39, locals := 80 } : Room) s m #[(.ref a), (.int ch)] below meth c T lo 2 39 → Fr n0 lo → T.heap = hh → Goes p e below s₁ F0 T (mkF m 368 #[rv a, iv ch, iv (Int32.ofNat (len + 1)), iv (Int32.ofNat ((len + 1) * (2 * li + 1))), iv (Int32.ofNat ((len + 1) * (2 * li + 1) - (2 * li + 1))), iv (Int32.ofNat (li - (len + 1))), iv to, iv i7, iv (Int32.ofNat (len + 1 + nk - li)), iv (Int32.ofNat xD)] []) → False := by
            intro T lo  X NL eT kT
            have k64 : Goes p e below s₁ F0 T (mkF m 369 #[rv a, iv ch, iv (Int32.ofNat (len + 1)), iv (Int32.ofNat ((len + 1) * (2 * li + 1))), iv (Int32.ofNat ((len + 1) * (2 * li + 1) - (2 * li + 1))), iv (Int32.ofNat (li - (len + 1))), iv to, iv i7, iv (Int32.ofNat (len + 1 + nk - li)), iv (Int32.ofNat xD)] [(.ref a)]) := by
              intro t k
              refine kT _ ?_
              skip
              refine XS.aloadN X.here hx rfl (hb hby dp23_m9_368) rfl rfl ?_
              exact k
            obtain ⟨T65, X65, e65, st65⟩ := getF X hx hZ hown (host := "") (Or.inl (own_q hw 55 rfl)) Via.refl eT Df60_4 (g := (mkF m 369 #[rv a, iv ch, iv (Int32.ofNat (len + 1)), iv (Int32.ofNat ((len + 1) * (2 * li + 1))), iv (Int32.ofNat ((len + 1) * (2 * li + 1) - (2 * li + 1))), iv (Int32.ofNat (li - (len + 1))), iv to, iv i7, iv (Int32.ofNat (len + 1 + nk - li)), iv (Int32.ofNat xD)] [(.ref a)])) rfl rfl (hb hby dp23_m9_369)
            have k65 : Goes p e below s₁ F0 T65 (mkF m 372 #[rv a, iv ch, iv (Int32.ofNat (len + 1)), iv (Int32.ofNat ((len + 1) * (2 * li + 1))), iv (Int32.ofNat ((len + 1) * (2 * li + 1) - (2 * li + 1))), iv (Int32.ofNat (li - (len + 1))), iv to, iv i7, iv (Int32.ofNat (len + 1 + nk - li)), iv (Int32.ofNat xD)] [(.ref bA)]) := fun t k => k64 t (st65 _ k)
            have k66 : Goes p e below s₁ F0 T65 (mkF m 376 #[rv a, iv ch, iv (Int32.ofNat (len + 1)), iv (Int32.ofNat ((len + 1) * (2 * li + 1))), iv (Int32.ofNat ((len + 1) * (2 * li + 1) - (2 * li + 1))), iv (Int32.ofNat (li - (len + 1))), iv to, iv i7, iv (Int32.ofNat (len + 1 + nk - li)), iv (Int32.ofNat xD)] [(.int ((Int32.ofNat ((len + 1) * (2 * li + 1))) + i7)), (.ref bA)]) := by
              intro t k
              refine k65 _ ?_
              skip
              refine XS.iloadN X65.here hx rfl (hb hby dp23_m9_372) rfl ?_
              refine XS.iload X65.here hx rfl (hb hby dp23_m9_373) rfl ?_
              refine XS.iadd X65.here hx rfl (hb hby dp23_m9_375) rfl ?_
              exact k
            rw [show ((Int32.ofNat ((len + 1) * (2 * li + 1))) + i7) = (Int32.ofNat ((len + 1) * (2 * li + 1) + nk)) from by rw [hi]; exact own_addN (by omega)] at k66
            have k67 : Goes p e below s₁ F0 T65 (mkF m 379 #[rv a, iv ch, iv (Int32.ofNat (len + 1)), iv (Int32.ofNat ((len + 1) * (2 * li + 1))), iv (Int32.ofNat ((len + 1) * (2 * li + 1) - (2 * li + 1))), iv (Int32.ofNat (li - (len + 1))), iv to, iv i7, iv (Int32.ofNat (len + 1 + nk - li)), iv (Int32.ofNat xD)] [(.ref a), (.int (Int32.ofNat xD)), (.int (Int32.ofNat ((len + 1) * (2 * li + 1) + nk))), (.ref bA)]) := by
              intro t k
              refine k66 _ ?_
              skip
              refine XS.iload X65.here hx rfl (hb hby dp23_m9_376) rfl ?_
              refine XS.aloadN X65.here hx rfl (hb hby dp23_m9_378) rfl rfl ?_
              exact k
            obtain ⟨T68, X68, e68, st68⟩ := getF X65 hx hZ hown (host := "") (Or.inl (own_q hw 38 rfl)) Via.refl e65 Df60_2 (g := (mkF m 379 #[rv a, iv ch, iv (Int32.ofNat (len + 1)), iv (Int32.ofNat ((len + 1) * (2 * li + 1))), iv (Int32.ofNat ((len + 1) * (2 * li + 1) - (2 * li + 1))), iv (Int32.ofNat (li - (len + 1))), iv to, iv i7, iv (Int32.ofNat (len + 1 + nk - li)), iv (Int32.ofNat xD)] [(.ref a), (.int (Int32.ofNat xD)), (.int (Int32.ofNat ((len + 1) * (2 * li + 1) + nk))), (.ref bA)])) rfl rfl (hb hby dp23_m9_379)
            have k68 : Goes p e below s₁ F0 T68 (mkF m 382 #[rv a, iv ch, iv (Int32.ofNat (len + 1)), iv (Int32.ofNat ((len + 1) * (2 * li + 1))), iv (Int32.ofNat ((len + 1) * (2 * li + 1) - (2 * li + 1))), iv (Int32.ofNat (li - (len + 1))), iv to, iv i7, iv (Int32.ofNat (len + 1 + nk - li)), iv (Int32.ofNat xD)] [(.int (Int32.ofNat (li + 1))), (.int (Int32.ofNat xD)), (.int (Int32.ofNat ((len + 1) * (2 * li + 1) + nk))), (.ref bA)]) := fun t k => k67 t (st68 _ k)
            obtain ⟨_, _, ⟨T69, L69, ck69, nk69⟩, -, X69, ⟨Lc69, hQ69, l69, y69, z69⟩, st69⟩ := Jvm.LawKit.callS X68 hx (y := (⟨"java/lang/Math", "min", "(II)I"⟩ : MethodName)) hown (mvT hZ (own_q hw 108 rfl)) (mvT hZ (own_q hw 73 rfl)) (mvT hZ (own_q hw 74 rfl)) (mvT hZ (own_q hw 75 rfl)) (by decide) (backOf (W := 2) (rmMin l Z a0 hw [] (Int32.ofNat xD) (Int32.ofNat (li + 1)) hh n0 Zt) hZ (own_q hw 75 rfl) (own_q hw 74 rfl) (by decide) (by decide)) (g := (mkF m 382 #[rv a, iv ch, iv (Int32.ofNat (len + 1)), iv (Int32.ofNat ((len + 1) * (2 * li + 1))), iv (Int32.ofNat ((len + 1) * (2 * li + 1) - (2 * li + 1))), iv (Int32.ofNat (li - (len + 1))), iv to, iv i7, iv (Int32.ofNat (len + 1 + nk - li)), iv (Int32.ofNat xD)] [(.int (Int32.ofNat (li + 1))), (.int (Int32.ofNat xD)), (.int (Int32.ofNat ((len + 1) * (2 * li + 1) + nk))), (.ref bA)])) rfl (by rw [hml]; rfl) (argsL := [(.int (Int32.ofNat xD)), (.int (Int32.ofNat (li + 1)))]) (rest := [(.int (Int32.ofNat ((len + 1) * (2 * li + 1) + nk))), (.ref bA)]) (lenOf pd_0 rfl) rfl (by show 2 * 0 + _ ≤ _; exact Nat.le_of_eq rfl) (hb hby dp23_m9_382) (fun _ _ => ⟨rfl, e68, (by decide : 2 + 0 ≤ _), (by decide : 39 + 0 ≤ _)⟩)
            dsimp only [Pt.U, Pt.locs, Pt.cells, Pt.slots] at X69 l69 y69 z69 st69 hQ69
            subst l69 y69 z69
            obtain ⟨rfl, N69q, e69⟩ := hQ69
            have N69 := Fr.app NL N69q
            have k69 : Goes p e below s₁ F0 T69 (mkF m 385 #[rv a, iv ch, iv (Int32.ofNat (len + 1)), iv (Int32.ofNat ((len + 1) * (2 * li + 1))), iv (Int32.ofNat ((len + 1) * (2 * li + 1) - (2 * li + 1))), iv (Int32.ofNat (li - (len + 1))), iv to, iv i7, iv (Int32.ofNat (len + 1 + nk - li)), iv (Int32.ofNat xD)] [(.int (own_min (Int32.ofNat xD) (Int32.ofNat (li + 1)))), (.int (Int32.ofNat ((len + 1) * (2 * li + 1) + nk))), (.ref bA)]) := fun t k => k68 t (st69 _ k)
            rw [show (own_min (Int32.ofNat xD) (Int32.ofNat (li + 1))) = (Int32.ofNat (min xD (li + 1))) from own_minN (by omega) (by omega)] at k69
            have hval : (own_valN li (len + 1) chs.length eqa eqb (own_fillN li (len + 1) chs.length eqa eqb nk bD) nk) = (min xD (li + 1)) := by rw [own_valN, if_neg (by omega), if_neg (by omega), if_pos (by omega), hcell]
            rw [show [(Value.int (Int32.ofNat (min xD (li + 1)))), (Value.int (Int32.ofNat ((len + 1) * (2 * li + 1) + nk))), (Value.ref bA)] = [(.int (Int32.ofNat (own_valN li (len + 1) chs.length eqa eqb (own_fillN li (len + 1) chs.length eqa eqb nk bD) nk))), (.int (Int32.ofNat ((len + 1) * (2 * li + 1) + nk))), (.ref bA)] by rw [hval]] at k69
            have hin := own_inb (x := (len + 1) * (2 * li + 1) + nk) (n := (own_fillN li (len + 1) chs.length eqa eqb nk bD).length) (by rw [hlb]; omega) (by rw [hlb]; omega)
            obtain ⟨cl70, Ar70, qk70, Sz70, Nn70, Hs70, Gs70⟩ := id Vb60
            obtain ⟨T71, h71, X71, e71, W71, st71⟩ := stI X69 hx hZ e69 Ar70 (j := (Int32.ofNat ((len + 1) * (2 * li + 1) + nk))) (inb_of Sz70 hin) (g := (mkF m 385 #[rv a, iv ch, iv (Int32.ofNat (len + 1)), iv (Int32.ofNat ((len + 1) * (2 * li + 1))), iv (Int32.ofNat ((len + 1) * (2 * li + 1) - (2 * li + 1))), iv (Int32.ofNat (li - (len + 1))), iv to, iv i7, iv (Int32.ofNat (len + 1 + nk - li)), iv (Int32.ofNat xD)] [(.int (Int32.ofNat (own_valN li (len + 1) chs.length eqa eqb (own_fillN li (len + 1) chs.length eqa eqb nk bD) nk))), (.int (Int32.ofNat ((len + 1) * (2 * li + 1) + nk))), (.ref bA)])) rfl rfl (hb hby dp23_m9_385)
            have N71 := Fr.snoc X71 N69 gbA
            have D71 := own_ED.wrBand hw Dt (n := (own_valN li (len + 1) chs.length eqa eqb (own_fillN li (len + 1) chs.length eqa eqb nk bD) nk)) (own_clampN (by omega)) (by rw [hlb]; omega) W71
            have k71 : Goes p e below s₁ F0 T71 (mkF m 386 #[rv a, iv ch, iv (Int32.ofNat (len + 1)), iv (Int32.ofNat ((len + 1) * (2 * li + 1))), iv (Int32.ofNat ((len + 1) * (2 * li + 1) - (2 * li + 1))), iv (Int32.ofNat (li - (len + 1))), iv to, iv i7, iv (Int32.ofNat (len + 1 + nk - li)), iv (Int32.ofNat xD)] []) := fun t k => k69 t (st71 _ k)
            have Z72 : n0 ≤ h71.size := Nat.le_trans Zt (Keep.of_wr W71).1
            have kp73 : Keep h0 h71 [a, ba, ta] := (Kt.wr W71 hbA)
            have od74 : Old Z n0 h71 := (Ot.wr W71 gbA)
            have k75 : Goes p e below s₁ F0 T71 (mkF m 187 #[rv a, iv ch, iv (Int32.ofNat (len + 1)), iv (Int32.ofNat ((len + 1) * (2 * li + 1))), iv (Int32.ofNat ((len + 1) * (2 * li + 1) - (2 * li + 1))), iv (Int32.ofNat (li - (len + 1))), iv to, iv (i7 + (1 : Int32)), iv (Int32.ofNat (len + 1 + nk - li)), iv (Int32.ofNat xD)] []) := by
              intro t k
              refine k71 _ ?_
              skip
              refine XS.iinc X71.here hx rfl (hb hby dp23_m9_386) rfl (l' := #[rv a, iv ch, iv (Int32.ofNat (len + 1)), iv (Int32.ofNat ((len + 1) * (2 * li + 1))), iv (Int32.ofNat ((len + 1) * (2 * li + 1) - (2 * li + 1))), iv (Int32.ofNat (li - (len + 1))), iv to, iv (i7 + (1 : Int32)), iv (Int32.ofNat (len + 1 + nk - li)), iv (Int32.ofNat xD)]) rfl ?_
              refine XS.goto X71.here hx rfl (pc0 := 389) (pc' := 187) rfl (hb hby dp23_m9_389) (by decide) (by decide) ?_
              exact k
            exact ih  h71 T71 _ _ (nk + 1) _ _ (One.val (w := .int (Int32.ofNat (len + 1 + nk - li))) rfl) (One.val (w := .int (Int32.ofNat xD)) rfl) (by rw [hi]; exact own_add1 nk) (by omega) (by omega) Z72 od74 kp73 D71 X71 N71 e71 k75
          have j295 : ∀ (T : State) (lo : List Loc) , Stand p l e ({ frames := 5, cells := 2, slots := 39, locals := 80 } : Room) s m #[(.ref a), (.int ch)] below meth c T lo 2 39 → Fr n0 lo → T.heap = hh → Goes p e below s₁ F0 T (mkF m 295 #[rv a, iv ch, iv (Int32.ofNat (len + 1)), iv (Int32.ofNat ((len + 1) * (2 * li + 1))), iv (Int32.ofNat ((len + 1) * (2 * li + 1) - (2 * li + 1))), iv (Int32.ofNat (li - (len + 1))), iv to, iv i7, iv (Int32.ofNat (len + 1 + nk - li)), iv (Int32.ofNat xC)] []) → False := by
            intro T lo  X NL eT kT
            have k76 : Goes p e below s₁ F0 T (mkF m 297 #[rv a, iv ch, iv (Int32.ofNat (len + 1)), iv (Int32.ofNat ((len + 1) * (2 * li + 1))), iv (Int32.ofNat ((len + 1) * (2 * li + 1) - (2 * li + 1))), iv (Int32.ofNat (li - (len + 1))), iv to, iv i7, iv (Int32.ofNat (len + 1 + nk - li)), iv (Int32.ofNat xC)] [(.int (1 : Int32)), (.int (Int32.ofNat (len + 1)))]) := by
              intro t k
              refine kT _ ?_
              skip
              refine XS.iloadN X.here hx rfl (hb hby dp23_m9_295) rfl ?_
              refine XS.iconst X.here hx rfl (hb hby dp23_m9_296) ?_
              exact k
            by_cases h1i : (1 : Int32) < (Int32.ofNat (len + 1))
            · have hi1 : 1 < len + 1 := by rw [show (1 : Int32) = Int32.ofNat 1 from rfl, own_ltN (by omega) (by omega)] at h1i; exact h1i
              have k77 : Goes p e below s₁ F0 T (mkF m 303 #[rv a, iv ch, iv (Int32.ofNat (len + 1)), iv (Int32.ofNat ((len + 1) * (2 * li + 1))), iv (Int32.ofNat ((len + 1) * (2 * li + 1) - (2 * li + 1))), iv (Int32.ofNat (li - (len + 1))), iv to, iv i7, iv (Int32.ofNat (len + 1 + nk - li)), iv (Int32.ofNat xC)] [(.int (1 : Int32)), (.int (Int32.ofNat (len + 1 + nk - li)))]) := by
                intro t k
                refine k76 _ ?_
                skip
                refine XS.icmpNo X.here hx rfl (hb hby dp23_m9_297) rfl (tlt h1i).2.2.2 ?_
                refine XS.iload X.here hx rfl (hb hby dp23_m9_300) rfl ?_
                refine XS.iconst X.here hx rfl (hb hby dp23_m9_302) ?_
                exact k
              by_cases h1j : (1 : Int32) < (Int32.ofNat (len + 1 + nk - li))
              · have hj1 : 1 < (len + 1 + nk - li) := by rw [show (1 : Int32) = Int32.ofNat 1 from rfl, own_ltN (by omega) (by omega)] at h1j; exact h1j
                have k78 : Goes p e below s₁ F0 T (mkF m 308 #[rv a, iv ch, iv (Int32.ofNat (len + 1)), iv (Int32.ofNat ((len + 1) * (2 * li + 1))), iv (Int32.ofNat ((len + 1) * (2 * li + 1) - (2 * li + 1))), iv (Int32.ofNat (li - (len + 1))), iv to, iv i7, iv (Int32.ofNat (len + 1 + nk - li)), iv (Int32.ofNat xC)] [(.ref a), (.int ch)]) := by
                  intro t k
                  refine k77 _ ?_
                  skip
                  refine XS.icmpNo X.here hx rfl (hb hby dp23_m9_303) rfl (tlt h1j).2.2.2 ?_
                  refine XS.iloadN X.here hx rfl (hb hby dp23_m9_306) rfl ?_
                  refine XS.aloadN X.here hx rfl (hb hby dp23_m9_307) rfl rfl ?_
                  exact k
                obtain ⟨T79, X79, e79, st79⟩ := getF X hx hZ hown (host := "") (Or.inl (own_q hw 34 rfl)) Via.refl eT Df60_0 (g := (mkF m 308 #[rv a, iv ch, iv (Int32.ofNat (len + 1)), iv (Int32.ofNat ((len + 1) * (2 * li + 1))), iv (Int32.ofNat ((len + 1) * (2 * li + 1) - (2 * li + 1))), iv (Int32.ofNat (li - (len + 1))), iv to, iv i7, iv (Int32.ofNat (len + 1 + nk - li)), iv (Int32.ofNat xC)] [(.ref a), (.int ch)])) rfl rfl (hb hby dp23_m9_308)
                have k79 : Goes p e below s₁ F0 T79 (mkF m 311 #[rv a, iv ch, iv (Int32.ofNat (len + 1)), iv (Int32.ofNat ((len + 1) * (2 * li + 1))), iv (Int32.ofNat ((len + 1) * (2 * li + 1) - (2 * li + 1))), iv (Int32.ofNat (li - (len + 1))), iv to, iv i7, iv (Int32.ofNat (len + 1 + nk - li)), iv (Int32.ofNat xC)] [(.ref r), (.int ch)]) := fun t k => k78 t (st79 _ k)
                have k80 : Goes p e below s₁ F0 T79 (mkF m 315 #[rv a, iv ch, iv (Int32.ofNat (len + 1)), iv (Int32.ofNat ((len + 1) * (2 * li + 1))), iv (Int32.ofNat ((len + 1) * (2 * li + 1) - (2 * li + 1))), iv (Int32.ofNat (li - (len + 1))), iv to, iv i7, iv (Int32.ofNat (len + 1 + nk - li)), iv (Int32.ofNat xC)] [(.int ((Int32.ofNat (len + 1 + nk - li)) - (2 : Int32))), (.ref r), (.int ch)]) := by
                  intro t k
                  refine k79 _ ?_
                  skip
                  refine XS.iload X79.here hx rfl (hb hby dp23_m9_311) rfl ?_
                  refine XS.iconst X79.here hx rfl (hb hby dp23_m9_313) ?_
                  refine XS.isub X79.here hx rfl (hb hby dp23_m9_314) rfl ?_
                  exact k
                rw [show ((Int32.ofNat (len + 1 + nk - li)) - (2 : Int32)) = (Int32.ofNat ((len + 1 + nk - li) - 2)) from own_sub2 (by omega) (by omega)] at k80
                obtain ⟨cq81, kq81, q81a, q81b, q81c⟩ := isOf hZ e79 (own_Str.exa Sr60)
                obtain ⟨_, _, ⟨T81, L81, ck81, nk81⟩, -, X81, ⟨Lc81, hQ81, l81, y81, z81⟩, st81⟩ := X79.virtualBack hx (y := (⟨"java/lang/String", "charAt", "(I)C"⟩ : MethodName)) (z := (⟨"java/lang/String", "charAt", "(I)C"⟩ : MethodName)) hown (mvT hZ (own_q hw 109 rfl)) (mvT hZ (own_q hw 110 rfl)) (notFace_of_selects (args := #[]) (mvT hZ (own_q hw 112 rfl))) (mvT hZ (own_q hw 112 rfl)) (mvT hZ (own_q hw 111 rfl)) (by decide) (own_chB (W := 1) hZ hw Sr60 (S1.ext Ot.2) hcs (S2.ext Ot.2) rF (i := (len + 1 + nk - li) - 2) (j := Int32.ofNat ((len + 1 + nk - li) - 2)) (by omega) rfl (by decide) (by decide)) q81a q81c (g := (mkF m 315 #[rv a, iv ch, iv (Int32.ofNat (len + 1)), iv (Int32.ofNat ((len + 1) * (2 * li + 1))), iv (Int32.ofNat ((len + 1) * (2 * li + 1) - (2 * li + 1))), iv (Int32.ofNat (li - (len + 1))), iv to, iv i7, iv (Int32.ofNat (len + 1 + nk - li)), iv (Int32.ofNat xC)] [(.int (Int32.ofNat ((len + 1 + nk - li) - 2))), (.ref r), (.int ch)])) rfl (by rw [hml]; rfl) (Steps.refl _) (argsL := [(.int (Int32.ofNat ((len + 1 + nk - li) - 2)))]) (rest := [(.int ch)]) (lenOf pd_2 rfl) rfl (by show 2 * 0 + _ ≤ _; exact Nat.le_of_eq rfl) (hb hby dp23_m9_315) (fun _ _ => ⟨rfl, e79, (by decide : 2 + 0 ≤ _), (by decide : 39 + 0 ≤ _)⟩)
                dsimp only [Pt.U, Pt.locs, Pt.cells, Pt.slots] at X81 l81 y81 z81 st81 hQ81
                subst l81 y81 z81
                obtain ⟨rfl, rfl, e81⟩ := hQ81
                have N81 := Fr.app NL (Fr.nil n0)
                have k81 : Goes p e below s₁ F0 T81 (mkF m 318 #[rv a, iv ch, iv (Int32.ofNat (len + 1)), iv (Int32.ofNat ((len + 1) * (2 * li + 1))), iv (Int32.ofNat ((len + 1) * (2 * li + 1) - (2 * li + 1))), iv (Int32.ofNat (li - (len + 1))), iv to, iv i7, iv (Int32.ofNat (len + 1 + nk - li)), iv (Int32.ofNat xC)] [(.int (chs.getD ((len + 1 + nk - li) - 2) 0)), (.int ch)]) := fun t k => k80 t (st81.trans k)
                by_cases hq1 : ch = (chs.getD ((len + 1 + nk - li) - 2) 0)
                · have k82 : Goes p e below s₁ F0 T81 (mkF m 322 #[rv a, iv ch, iv (Int32.ofNat (len + 1)), iv (Int32.ofNat ((len + 1) * (2 * li + 1))), iv (Int32.ofNat ((len + 1) * (2 * li + 1) - (2 * li + 1))), iv (Int32.ofNat (li - (len + 1))), iv to, iv i7, iv (Int32.ofNat (len + 1 + nk - li)), iv (Int32.ofNat xC)] [(.ref a)]) := by
                    intro t k
                    refine k81 _ ?_
                    skip
                    refine XS.icmpNo X81.here hx rfl (hb hby dp23_m9_318) rfl (teq hq1).2 ?_
                    refine XS.aloadN X81.here hx rfl (hb hby dp23_m9_321) rfl rfl ?_
                    exact k
                  obtain ⟨T83, X83, e83, st83⟩ := getF X81 hx hZ hown (host := "") (Or.inl (own_q hw 53 rfl)) Via.refl e81 Df60_5 (g := (mkF m 322 #[rv a, iv ch, iv (Int32.ofNat (len + 1)), iv (Int32.ofNat ((len + 1) * (2 * li + 1))), iv (Int32.ofNat ((len + 1) * (2 * li + 1) - (2 * li + 1))), iv (Int32.ofNat (li - (len + 1))), iv to, iv i7, iv (Int32.ofNat (len + 1 + nk - li)), iv (Int32.ofNat xC)] [(.ref a)])) rfl rfl (hb hby dp23_m9_322)
                  have k83 : Goes p e below s₁ F0 T83 (mkF m 325 #[rv a, iv ch, iv (Int32.ofNat (len + 1)), iv (Int32.ofNat ((len + 1) * (2 * li + 1))), iv (Int32.ofNat ((len + 1) * (2 * li + 1) - (2 * li + 1))), iv (Int32.ofNat (li - (len + 1))), iv to, iv i7, iv (Int32.ofNat (len + 1 + nk - li)), iv (Int32.ofNat xC)] [(.ref tA)]) := fun t k => k82 t (st83 _ k)
                  have k84 : Goes p e below s₁ F0 T83 (mkF m 328 #[rv a, iv ch, iv (Int32.ofNat (len + 1)), iv (Int32.ofNat ((len + 1) * (2 * li + 1))), iv (Int32.ofNat ((len + 1) * (2 * li + 1) - (2 * li + 1))), iv (Int32.ofNat (li - (len + 1))), iv to, iv i7, iv (Int32.ofNat (len + 1 + nk - li)), iv (Int32.ofNat xC)] [(.int ((Int32.ofNat (len + 1)) - (2 : Int32))), (.ref tA)]) := by
                    intro t k
                    refine k83 _ ?_
                    skip
                    refine XS.iloadN X83.here hx rfl (hb hby dp23_m9_325) rfl ?_
                    refine XS.iconst X83.here hx rfl (hb hby dp23_m9_326) ?_
                    refine XS.isub X83.here hx rfl (hb hby dp23_m9_327) rfl ?_
                    exact k
                  rw [show ((Int32.ofNat (len + 1)) - (2 : Int32)) = (Int32.ofNat (len + 1 - 2)) from own_sub2 (by omega) (by omega)] at k84
                  have hlt2 : (tY.set len ch).length = tY.length := List.length_set ..
                  have hin9 := own_inb (x := len + 1 - 2) (n := (tY.set len ch).length) (by rw [hlt2]; omega) (by rw [hlt2]; omega)
                  obtain ⟨cl85, Ar85, qk85, Sz85, Nn85, Hs85, Gs85⟩ := id Vt60
                  have k86 : Goes p e below s₁ F0 T83 (mkF m 330 #[rv a, iv ch, iv (Int32.ofNat (len + 1)), iv (Int32.ofNat ((len + 1) * (2 * li + 1))), iv (Int32.ofNat ((len + 1) * (2 * li + 1) - (2 * li + 1))), iv (Int32.ofNat (li - (len + 1))), iv to, iv i7, iv (Int32.ofNat (len + 1 + nk - li)), iv (Int32.ofNat xC)] [(.ref a), (.int ((tY.set len ch).getD (len + 1 - 2) 0))]) := by
                    intro t k
                    refine k84 _ ?_
                    skip
                    refine X83.caload hx (j := (Int32.ofNat (len + 1 - 2))) (v := (.int ((tY.set len ch).getD (len + 1 - 2) 0))) (by rw [e83]; exact Ar85.1) (State.isArrayOf_alike hZ.alike Ar85.2.1) Ar85.2.2 (inb_of Sz85 hin9) (Has.at Hs85 (inb_of Sz85 hin9) (by rw [own_clampN (by omega)]; exact own_getC _ _)) (g := (mkF m 328 #[rv a, iv ch, iv (Int32.ofNat (len + 1)), iv (Int32.ofNat ((len + 1) * (2 * li + 1))), iv (Int32.ofNat ((len + 1) * (2 * li + 1) - (2 * li + 1))), iv (Int32.ofNat (li - (len + 1))), iv to, iv i7, iv (Int32.ofNat (len + 1 + nk - li)), iv (Int32.ofNat xC)] [(.int (Int32.ofNat (len + 1 - 2))), (.ref tA)])) rfl rfl (hb hby dp23_m9_328) _ ?_
                    refine XS.aloadN X83.here hx rfl (hb hby dp23_m9_329) rfl rfl ?_
                    exact k
                  obtain ⟨T87, X87, e87, st87⟩ := getF X83 hx hZ hown (host := "") (Or.inl (own_q hw 34 rfl)) Via.refl e83 Df60_0 (g := (mkF m 330 #[rv a, iv ch, iv (Int32.ofNat (len + 1)), iv (Int32.ofNat ((len + 1) * (2 * li + 1))), iv (Int32.ofNat ((len + 1) * (2 * li + 1) - (2 * li + 1))), iv (Int32.ofNat (li - (len + 1))), iv to, iv i7, iv (Int32.ofNat (len + 1 + nk - li)), iv (Int32.ofNat xC)] [(.ref a), (.int ((tY.set len ch).getD (len + 1 - 2) 0))])) rfl rfl (hb hby dp23_m9_330)
                  have k87 : Goes p e below s₁ F0 T87 (mkF m 333 #[rv a, iv ch, iv (Int32.ofNat (len + 1)), iv (Int32.ofNat ((len + 1) * (2 * li + 1))), iv (Int32.ofNat ((len + 1) * (2 * li + 1) - (2 * li + 1))), iv (Int32.ofNat (li - (len + 1))), iv to, iv i7, iv (Int32.ofNat (len + 1 + nk - li)), iv (Int32.ofNat xC)] [(.ref r), (.int ((tY.set len ch).getD (len + 1 - 2) 0))]) := fun t k => k86 t (st87 _ k)
                  have k88 : Goes p e below s₁ F0 T87 (mkF m 337 #[rv a, iv ch, iv (Int32.ofNat (len + 1)), iv (Int32.ofNat ((len + 1) * (2 * li + 1))), iv (Int32.ofNat ((len + 1) * (2 * li + 1) - (2 * li + 1))), iv (Int32.ofNat (li - (len + 1))), iv to, iv i7, iv (Int32.ofNat (len + 1 + nk - li)), iv (Int32.ofNat xC)] [(.int ((Int32.ofNat (len + 1 + nk - li)) - (1 : Int32))), (.ref r), (.int ((tY.set len ch).getD (len + 1 - 2) 0))]) := by
                    intro t k
                    refine k87 _ ?_
                    skip
                    refine XS.iload X87.here hx rfl (hb hby dp23_m9_333) rfl ?_
                    refine XS.iconst X87.here hx rfl (hb hby dp23_m9_335) ?_
                    refine XS.isub X87.here hx rfl (hb hby dp23_m9_336) rfl ?_
                    exact k
                  rw [show ((Int32.ofNat (len + 1 + nk - li)) - (1 : Int32)) = (Int32.ofNat ((len + 1 + nk - li) - 1)) from own_sub1 (by omega) (by omega)] at k88
                  obtain ⟨cq89, kq89, q89a, q89b, q89c⟩ := isOf hZ e87 (own_Str.exa Sr60)
                  obtain ⟨_, _, ⟨T89, L89, ck89, nk89⟩, -, X89, ⟨Lc89, hQ89, l89, y89, z89⟩, st89⟩ := X87.virtualBack hx (y := (⟨"java/lang/String", "charAt", "(I)C"⟩ : MethodName)) (z := (⟨"java/lang/String", "charAt", "(I)C"⟩ : MethodName)) hown (mvT hZ (own_q hw 109 rfl)) (mvT hZ (own_q hw 110 rfl)) (notFace_of_selects (args := #[]) (mvT hZ (own_q hw 112 rfl))) (mvT hZ (own_q hw 112 rfl)) (mvT hZ (own_q hw 111 rfl)) (by decide) (own_chB (W := 1) hZ hw Sr60 (S1.ext Ot.2) hcs (S2.ext Ot.2) rF (i := (len + 1 + nk - li) - 1) (j := Int32.ofNat ((len + 1 + nk - li) - 1)) (by omega) rfl (by decide) (by decide)) q89a q89c (g := (mkF m 337 #[rv a, iv ch, iv (Int32.ofNat (len + 1)), iv (Int32.ofNat ((len + 1) * (2 * li + 1))), iv (Int32.ofNat ((len + 1) * (2 * li + 1) - (2 * li + 1))), iv (Int32.ofNat (li - (len + 1))), iv to, iv i7, iv (Int32.ofNat (len + 1 + nk - li)), iv (Int32.ofNat xC)] [(.int (Int32.ofNat ((len + 1 + nk - li) - 1))), (.ref r), (.int ((tY.set len ch).getD (len + 1 - 2) 0))])) rfl (by rw [hml]; rfl) (Steps.refl _) (argsL := [(.int (Int32.ofNat ((len + 1 + nk - li) - 1)))]) (rest := [(.int ((tY.set len ch).getD (len + 1 - 2) 0))]) (lenOf pd_2 rfl) rfl (by show 2 * 0 + _ ≤ _; exact Nat.le_of_eq rfl) (hb hby dp23_m9_337) (fun _ _ => ⟨rfl, e87, (by decide : 2 + 0 ≤ _), (by decide : 39 + 0 ≤ _)⟩)
                  dsimp only [Pt.U, Pt.locs, Pt.cells, Pt.slots] at X89 l89 y89 z89 st89 hQ89
                  subst l89 y89 z89
                  obtain ⟨rfl, rfl, e89⟩ := hQ89
                  have N89 := Fr.app N81 (Fr.nil n0)
                  have k89 : Goes p e below s₁ F0 T89 (mkF m 340 #[rv a, iv ch, iv (Int32.ofNat (len + 1)), iv (Int32.ofNat ((len + 1) * (2 * li + 1))), iv (Int32.ofNat ((len + 1) * (2 * li + 1) - (2 * li + 1))), iv (Int32.ofNat (li - (len + 1))), iv to, iv i7, iv (Int32.ofNat (len + 1 + nk - li)), iv (Int32.ofNat xC)] [(.int (chs.getD ((len + 1 + nk - li) - 1) 0)), (.int ((tY.set len ch).getD (len + 1 - 2) 0))]) := fun t k => k88 t (st89.trans k)
                  have hy0 : (tY.set len ch).getD (len + 1 - 2) 0 = ty.getD (len - 1) 0 := hty (by omega)
                  by_cases hq2 : ((tY.set len ch).getD (len + 1 - 2) 0) = (chs.getD ((len + 1 + nk - li) - 1) 0)
                  · have hr2 := hR2 (by omega)
                    have k90 : Goes p e below s₁ F0 T89 (mkF m 346 #[rv a, iv ch, iv (Int32.ofNat (len + 1)), iv (Int32.ofNat ((len + 1) * (2 * li + 1))), iv (Int32.ofNat ((len + 1) * (2 * li + 1) - (2 * li + 1))), iv (Int32.ofNat (li - (len + 1))), iv to, iv i7, iv (Int32.ofNat (len + 1 + nk - li)), iv (Int32.ofNat xC)] [(.ref a), (.int (Int32.ofNat xC))]) := by
                      intro t k
                      refine k89 _ ?_
                      skip
                      refine XS.icmpNo X89.here hx rfl (hb hby dp23_m9_340) rfl (teq hq2).2 ?_
                      refine XS.iload X89.here hx rfl (hb hby dp23_m9_343) rfl ?_
                      refine XS.aloadN X89.here hx rfl (hb hby dp23_m9_345) rfl rfl ?_
                      exact k
                    obtain ⟨T91, X91, e91, st91⟩ := getF X89 hx hZ hown (host := "") (Or.inl (own_q hw 55 rfl)) Via.refl e89 Df60_4 (g := (mkF m 346 #[rv a, iv ch, iv (Int32.ofNat (len + 1)), iv (Int32.ofNat ((len + 1) * (2 * li + 1))), iv (Int32.ofNat ((len + 1) * (2 * li + 1) - (2 * li + 1))), iv (Int32.ofNat (li - (len + 1))), iv to, iv i7, iv (Int32.ofNat (len + 1 + nk - li)), iv (Int32.ofNat xC)] [(.ref a), (.int (Int32.ofNat xC))])) rfl rfl (hb hby dp23_m9_346)
                    have k91 : Goes p e below s₁ F0 T91 (mkF m 349 #[rv a, iv ch, iv (Int32.ofNat (len + 1)), iv (Int32.ofNat ((len + 1) * (2 * li + 1))), iv (Int32.ofNat ((len + 1) * (2 * li + 1) - (2 * li + 1))), iv (Int32.ofNat (li - (len + 1))), iv to, iv i7, iv (Int32.ofNat (len + 1 + nk - li)), iv (Int32.ofNat xC)] [(.ref bA), (.int (Int32.ofNat xC))]) := fun t k => k90 t (st91 _ k)
                    have k92 : Goes p e below s₁ F0 T91 (mkF m 352 #[rv a, iv ch, iv (Int32.ofNat (len + 1)), iv (Int32.ofNat ((len + 1) * (2 * li + 1))), iv (Int32.ofNat ((len + 1) * (2 * li + 1) - (2 * li + 1))), iv (Int32.ofNat (li - (len + 1))), iv to, iv i7, iv (Int32.ofNat (len + 1 + nk - li)), iv (Int32.ofNat xC)] [(.ref a), (.int (2 : Int32)), (.int (Int32.ofNat ((len + 1) * (2 * li + 1)))), (.ref bA), (.int (Int32.ofNat xC))]) := by
                      intro t k
                      refine k91 _ ?_
                      skip
                      refine XS.iloadN X91.here hx rfl (hb hby dp23_m9_349) rfl ?_
                      refine XS.iconst X91.here hx rfl (hb hby dp23_m9_350) ?_
                      refine XS.aloadN X91.here hx rfl (hb hby dp23_m9_351) rfl rfl ?_
                      exact k
                    obtain ⟨T93, X93, e93, st93⟩ := getF X91 hx hZ hown (host := "") (Or.inl (own_q hw 40 rfl)) Via.refl e91 Df60_3 (g := (mkF m 352 #[rv a, iv ch, iv (Int32.ofNat (len + 1)), iv (Int32.ofNat ((len + 1) * (2 * li + 1))), iv (Int32.ofNat ((len + 1) * (2 * li + 1) - (2 * li + 1))), iv (Int32.ofNat (li - (len + 1))), iv to, iv i7, iv (Int32.ofNat (len + 1 + nk - li)), iv (Int32.ofNat xC)] [(.ref a), (.int (2 : Int32)), (.int (Int32.ofNat ((len + 1) * (2 * li + 1)))), (.ref bA), (.int (Int32.ofNat xC))])) rfl rfl (hb hby dp23_m9_352)
                    have k93 : Goes p e below s₁ F0 T93 (mkF m 355 #[rv a, iv ch, iv (Int32.ofNat (len + 1)), iv (Int32.ofNat ((len + 1) * (2 * li + 1))), iv (Int32.ofNat ((len + 1) * (2 * li + 1) - (2 * li + 1))), iv (Int32.ofNat (li - (len + 1))), iv to, iv i7, iv (Int32.ofNat (len + 1 + nk - li)), iv (Int32.ofNat xC)] [(.int (Int32.ofNat (2 * li + 1))), (.int (2 : Int32)), (.int (Int32.ofNat ((len + 1) * (2 * li + 1)))), (.ref bA), (.int (Int32.ofNat xC))]) := fun t k => k92 t (st93 _ k)
                    have k94 : Goes p e below s₁ F0 T93 (mkF m 356 #[rv a, iv ch, iv (Int32.ofNat (len + 1)), iv (Int32.ofNat ((len + 1) * (2 * li + 1))), iv (Int32.ofNat ((len + 1) * (2 * li + 1) - (2 * li + 1))), iv (Int32.ofNat (li - (len + 1))), iv to, iv i7, iv (Int32.ofNat (len + 1 + nk - li)), iv (Int32.ofNat xC)] [(.int ((2 : Int32) * (Int32.ofNat (2 * li + 1)))), (.int (Int32.ofNat ((len + 1) * (2 * li + 1)))), (.ref bA), (.int (Int32.ofNat xC))]) := by
                      intro t k
                      refine k93 _ ?_
                      skip
                      refine XS.imul X93.here hx rfl (hb hby dp23_m9_355) rfl ?_
                      exact k
                    rw [show ((2 : Int32) * (Int32.ofNat (2 * li + 1))) = (Int32.ofNat (2 * (2 * li + 1))) from by rw [show (2 : Int32) = Int32.ofNat 2 from rfl]; exact own_mulN (by omega) (by omega) (by omega)] at k94
                    have k95 : Goes p e below s₁ F0 T93 (mkF m 357 #[rv a, iv ch, iv (Int32.ofNat (len + 1)), iv (Int32.ofNat ((len + 1) * (2 * li + 1))), iv (Int32.ofNat ((len + 1) * (2 * li + 1) - (2 * li + 1))), iv (Int32.ofNat (li - (len + 1))), iv to, iv i7, iv (Int32.ofNat (len + 1 + nk - li)), iv (Int32.ofNat xC)] [(.int ((Int32.ofNat ((len + 1) * (2 * li + 1))) - (Int32.ofNat (2 * (2 * li + 1))))), (.ref bA), (.int (Int32.ofNat xC))]) := by
                      intro t k
                      refine k94 _ ?_
                      skip
                      refine XS.isub X93.here hx rfl (hb hby dp23_m9_356) rfl ?_
                      exact k
                    rw [show ((Int32.ofNat ((len + 1) * (2 * li + 1))) - (Int32.ofNat (2 * (2 * li + 1)))) = (Int32.ofNat ((len + 1) * (2 * li + 1) - 2 * (2 * li + 1))) from own_subN (by omega) (by omega)] at k95
                    have k96 : Goes p e below s₁ F0 T93 (mkF m 360 #[rv a, iv ch, iv (Int32.ofNat (len + 1)), iv (Int32.ofNat ((len + 1) * (2 * li + 1))), iv (Int32.ofNat ((len + 1) * (2 * li + 1) - (2 * li + 1))), iv (Int32.ofNat (li - (len + 1))), iv to, iv i7, iv (Int32.ofNat (len + 1 + nk - li)), iv (Int32.ofNat xC)] [(.int ((Int32.ofNat ((len + 1) * (2 * li + 1) - 2 * (2 * li + 1))) + i7)), (.ref bA), (.int (Int32.ofNat xC))]) := by
                      intro t k
                      refine k95 _ ?_
                      skip
                      refine XS.iload X93.here hx rfl (hb hby dp23_m9_357) rfl ?_
                      refine XS.iadd X93.here hx rfl (hb hby dp23_m9_359) rfl ?_
                      exact k
                    rw [show ((Int32.ofNat ((len + 1) * (2 * li + 1) - 2 * (2 * li + 1))) + i7) = (Int32.ofNat ((len + 1) * (2 * li + 1) - 2 * (2 * li + 1) + nk)) from by rw [hi]; exact own_addN (by omega)] at k96
                    have hb360 := hBn ((len + 1) * (2 * li + 1) - 2 * (2 * li + 1) + nk)
                    have hin360 := own_inb (x := (len + 1) * (2 * li + 1) - 2 * (2 * li + 1) + nk) (n := (own_fillN li (len + 1) chs.length eqa eqb nk bD).length) (by rw [hlb]; omega) (by rw [hlb]; omega)
                    obtain ⟨cl97, Ar97, qk97, Sz97, Nn97, Hs97, Gs97⟩ := id Vb60
                    have k98 : Goes p e below s₁ F0 T93 (mkF m 363 #[rv a, iv ch, iv (Int32.ofNat (len + 1)), iv (Int32.ofNat ((len + 1) * (2 * li + 1))), iv (Int32.ofNat ((len + 1) * (2 * li + 1) - (2 * li + 1))), iv (Int32.ofNat (li - (len + 1))), iv to, iv i7, iv (Int32.ofNat (len + 1 + nk - li)), iv (Int32.ofNat xC)] [(.int ((Int32.ofNat (bN.getD ((len + 1) * (2 * li + 1) - 2 * (2 * li + 1) + nk) 0)) + (1 : Int32))), (.int (Int32.ofNat xC))]) := by
                      intro t k
                      refine k96 _ ?_
                      skip
                      refine X93.iaload hx (j := (Int32.ofNat ((len + 1) * (2 * li + 1) - 2 * (2 * li + 1) + nk))) (v := (.int (Int32.ofNat (bN.getD ((len + 1) * (2 * li + 1) - 2 * (2 * li + 1) + nk) 0)))) (by rw [e93]; exact Ar97.1) (State.isArrayOf_alike hZ.alike Ar97.2.1) Ar97.2.2 (inb_of Sz97 hin360) (Has.at Hs97 (inb_of Sz97 hin360) (by rw [own_clampN (by omega), ebN]; exact own_getI _ _)) (g := (mkF m 360 #[rv a, iv ch, iv (Int32.ofNat (len + 1)), iv (Int32.ofNat ((len + 1) * (2 * li + 1))), iv (Int32.ofNat ((len + 1) * (2 * li + 1) - (2 * li + 1))), iv (Int32.ofNat (li - (len + 1))), iv to, iv i7, iv (Int32.ofNat (len + 1 + nk - li)), iv (Int32.ofNat xC)] [(.int (Int32.ofNat ((len + 1) * (2 * li + 1) - 2 * (2 * li + 1) + nk))), (.ref bA), (.int (Int32.ofNat xC))])) rfl rfl (hb hby dp23_m9_360) _ ?_
                      refine XS.iconst X93.here hx rfl (hb hby dp23_m9_361) ?_
                      refine XS.iadd X93.here hx rfl (hb hby dp23_m9_362) rfl ?_
                      exact k
                    rw [show ((Int32.ofNat (bN.getD ((len + 1) * (2 * li + 1) - 2 * (2 * li + 1) + nk) 0)) + (1 : Int32)) = (Int32.ofNat (bN.getD ((len + 1) * (2 * li + 1) - 2 * (2 * li + 1) + nk) 0 + 1)) from own_add1 _] at k98
                    obtain ⟨_, _, ⟨T99, L99, ck99, nk99⟩, -, X99, ⟨Lc99, hQ99, l99, y99, z99⟩, st99⟩ := Jvm.LawKit.callS X93 hx (y := (⟨"java/lang/Math", "min", "(II)I"⟩ : MethodName)) hown (mvT hZ (own_q hw 108 rfl)) (mvT hZ (own_q hw 73 rfl)) (mvT hZ (own_q hw 74 rfl)) (mvT hZ (own_q hw 75 rfl)) (by decide) (backOf (W := 0) (rmMin l Z a0 hw [] (Int32.ofNat xC) (Int32.ofNat (bN.getD ((len + 1) * (2 * li + 1) - 2 * (2 * li + 1) + nk) 0 + 1)) hh n0 Zt) hZ (own_q hw 75 rfl) (own_q hw 74 rfl) (by decide) (by decide)) (g := (mkF m 363 #[rv a, iv ch, iv (Int32.ofNat (len + 1)), iv (Int32.ofNat ((len + 1) * (2 * li + 1))), iv (Int32.ofNat ((len + 1) * (2 * li + 1) - (2 * li + 1))), iv (Int32.ofNat (li - (len + 1))), iv to, iv i7, iv (Int32.ofNat (len + 1 + nk - li)), iv (Int32.ofNat xC)] [(.int (Int32.ofNat (bN.getD ((len + 1) * (2 * li + 1) - 2 * (2 * li + 1) + nk) 0 + 1))), (.int (Int32.ofNat xC))])) rfl (by rw [hml]; rfl) (argsL := [(.int (Int32.ofNat xC)), (.int (Int32.ofNat (bN.getD ((len + 1) * (2 * li + 1) - 2 * (2 * li + 1) + nk) 0 + 1)))]) (rest := []) (lenOf pd_0 rfl) rfl (by show 2 * 0 + _ ≤ _; exact Nat.le_of_eq rfl) (hb hby dp23_m9_363) (fun _ _ => ⟨rfl, e93, (by decide : 2 + 0 ≤ _), (by decide : 39 + 0 ≤ _)⟩)
                    dsimp only [Pt.U, Pt.locs, Pt.cells, Pt.slots] at X99 l99 y99 z99 st99 hQ99
                    subst l99 y99 z99
                    obtain ⟨rfl, N99q, e99⟩ := hQ99
                    have N99 := Fr.app N89 N99q
                    have k99 : Goes p e below s₁ F0 T99 (mkF m 366 #[rv a, iv ch, iv (Int32.ofNat (len + 1)), iv (Int32.ofNat ((len + 1) * (2 * li + 1))), iv (Int32.ofNat ((len + 1) * (2 * li + 1) - (2 * li + 1))), iv (Int32.ofNat (li - (len + 1))), iv to, iv i7, iv (Int32.ofNat (len + 1 + nk - li)), iv (Int32.ofNat xC)] [(.int (own_min (Int32.ofNat xC) (Int32.ofNat (bN.getD ((len + 1) * (2 * li + 1) - 2 * (2 * li + 1) + nk) 0 + 1))))]) := fun t k => k98 t (st99 _ k)
                    rw [show (own_min (Int32.ofNat xC) (Int32.ofNat (bN.getD ((len + 1) * (2 * li + 1) - 2 * (2 * li + 1) + nk) 0 + 1))) = (Int32.ofNat xD) from (own_minN (by omega) (by omega)).trans (congrArg Int32.ofNat (by rw [exD, own_cD, if_pos ⟨hi1, hj1, (hE1 _ (by omega)).mpr hq1, (hE0 (by omega) _ (by omega)).mpr (by rw [← hy0]; exact hq2)⟩]))] at k99
                    have k100 : Goes p e below s₁ F0 T99 (mkF m 368 #[rv a, iv ch, iv (Int32.ofNat (len + 1)), iv (Int32.ofNat ((len + 1) * (2 * li + 1))), iv (Int32.ofNat ((len + 1) * (2 * li + 1) - (2 * li + 1))), iv (Int32.ofNat (li - (len + 1))), iv to, iv i7, iv (Int32.ofNat (len + 1 + nk - li)), iv (Int32.ofNat xD)] []) := by
                      intro t k
                      refine k99 _ ?_
                      skip
                      refine XS.istore X99.here hx rfl (hb hby dp23_m9_366) rfl (l' := #[rv a, iv ch, iv (Int32.ofNat (len + 1)), iv (Int32.ofNat ((len + 1) * (2 * li + 1))), iv (Int32.ofNat ((len + 1) * (2 * li + 1) - (2 * li + 1))), iv (Int32.ofNat (li - (len + 1))), iv to, iv i7, iv (Int32.ofNat (len + 1 + nk - li)), iv (Int32.ofNat xD)]) rfl ?_
                      exact k
                    exact j368 T99 _  X99 N99 e99 k100
                  · have k101 : Goes p e below s₁ F0 T89 (mkF m 368 #[rv a, iv ch, iv (Int32.ofNat (len + 1)), iv (Int32.ofNat ((len + 1) * (2 * li + 1))), iv (Int32.ofNat ((len + 1) * (2 * li + 1) - (2 * li + 1))), iv (Int32.ofNat (li - (len + 1))), iv to, iv i7, iv (Int32.ofNat (len + 1 + nk - li)), iv (Int32.ofNat xC)] []) := by
                      intro t k
                      refine k89 _ ?_
                      skip
                      refine XS.icmpYes X89.here hx rfl (pc0 := 340) (pc' := 368) rfl (hb hby dp23_m9_340) rfl (feq hq2).2 (by decide) (by decide) ?_
                      exact k
                    have hxx : xD = xC := by rw [exD, own_cD]; exact if_neg (fun q => hq2 (by rw [hy0]; exact (hE0 (by omega) _ (by omega)).mp q.2.2.2))
                    rw [← hxx] at k101
                    exact j368 T89 _  X89 N89 e89 k101
                · have k102 : Goes p e below s₁ F0 T81 (mkF m 368 #[rv a, iv ch, iv (Int32.ofNat (len + 1)), iv (Int32.ofNat ((len + 1) * (2 * li + 1))), iv (Int32.ofNat ((len + 1) * (2 * li + 1) - (2 * li + 1))), iv (Int32.ofNat (li - (len + 1))), iv to, iv i7, iv (Int32.ofNat (len + 1 + nk - li)), iv (Int32.ofNat xC)] []) := by
                    intro t k
                    refine k81 _ ?_
                    skip
                    refine XS.icmpYes X81.here hx rfl (pc0 := 318) (pc' := 368) rfl (hb hby dp23_m9_318) rfl (feq hq1).2 (by decide) (by decide) ?_
                    exact k
                  have hxx : xD = xC := by rw [exD, own_cD]; exact if_neg (fun q => hq1 ((hE1 _ (by omega)).mp q.2.2.1))
                  rw [← hxx] at k102
                  exact j368 T81 _  X81 N81 e81 k102
              · have k103 : Goes p e below s₁ F0 T (mkF m 368 #[rv a, iv ch, iv (Int32.ofNat (len + 1)), iv (Int32.ofNat ((len + 1) * (2 * li + 1))), iv (Int32.ofNat ((len + 1) * (2 * li + 1) - (2 * li + 1))), iv (Int32.ofNat (li - (len + 1))), iv to, iv i7, iv (Int32.ofNat (len + 1 + nk - li)), iv (Int32.ofNat xC)] []) := by
                  intro t k
                  refine k77 _ ?_
                  skip
                  refine XS.icmpYes X.here hx rfl (pc0 := 303) (pc' := 368) rfl (hb hby dp23_m9_303) rfl (flt h1j).2.2.2 (by decide) (by decide) ?_
                  exact k
                have hxx : xD = xC := by rw [exD, own_cD]; exact if_neg (fun q => h1j (by rw [show (1 : Int32) = Int32.ofNat 1 from rfl, own_ltN (by omega) (by omega)]; exact q.2.1))
                rw [← hxx] at k103
                exact j368 T _  X NL eT k103
            · have k104 : Goes p e below s₁ F0 T (mkF m 368 #[rv a, iv ch, iv (Int32.ofNat (len + 1)), iv (Int32.ofNat ((len + 1) * (2 * li + 1))), iv (Int32.ofNat ((len + 1) * (2 * li + 1) - (2 * li + 1))), iv (Int32.ofNat (li - (len + 1))), iv to, iv i7, iv (Int32.ofNat (len + 1 + nk - li)), iv (Int32.ofNat xC)] []) := by
                intro t k
                refine k76 _ ?_
                skip
                refine XS.icmpYes X.here hx rfl (pc0 := 297) (pc' := 368) rfl (hb hby dp23_m9_297) rfl (flt h1i).2.2.2 (by decide) (by decide) ?_
                exact k
              have hxx : xD = xC := by rw [exD, own_cD]; exact if_neg (fun q => h1i (by rw [show (1 : Int32) = Int32.ofNat 1 from rfl, own_ltN (by omega) (by omega)]; exact q.1))
              rw [← hxx] at k104
              exact j368 T _  X NL eT k104
          have j270 : ∀ (T : State) (lo : List Loc) , Stand p l e ({ frames := 5, cells := 2, slots := 39, locals := 80 } : Room) s m #[(.ref a), (.int ch)] below meth c T lo 2 39 → Fr n0 lo → T.heap = hh → Goes p e below s₁ F0 T (mkF m 270 #[rv a, iv ch, iv (Int32.ofNat (len + 1)), iv (Int32.ofNat ((len + 1) * (2 * li + 1))), iv (Int32.ofNat ((len + 1) * (2 * li + 1) - (2 * li + 1))), iv (Int32.ofNat (li - (len + 1))), iv to, iv i7, iv (Int32.ofNat (len + 1 + nk - li)), iv (Int32.ofNat xB)] []) → False := by
            intro T lo  X NL eT kT
            have k105 : Goes p e below s₁ F0 T (mkF m 272 #[rv a, iv ch, iv (Int32.ofNat (len + 1)), iv (Int32.ofNat ((len + 1) * (2 * li + 1))), iv (Int32.ofNat ((len + 1) * (2 * li + 1) - (2 * li + 1))), iv (Int32.ofNat (li - (len + 1))), iv to, iv i7, iv (Int32.ofNat (len + 1 + nk - li)), iv (Int32.ofNat xB)] [(.int i7)]) := by
              intro t k
              refine kT _ ?_
              skip
              refine XS.iload X.here hx rfl (hb hby dp23_m9_270) rfl ?_
              exact k
            by_cases h0k : (0 : Int32) < i7
            · have hk0 : 0 < nk := by rw [hi, show (0 : Int32) = Int32.ofNat 0 from rfl, own_ltN (by omega) (by omega)] at h0k; exact h0k
              have k106 : Goes p e below s₁ F0 T (mkF m 278 #[rv a, iv ch, iv (Int32.ofNat (len + 1)), iv (Int32.ofNat ((len + 1) * (2 * li + 1))), iv (Int32.ofNat ((len + 1) * (2 * li + 1) - (2 * li + 1))), iv (Int32.ofNat (li - (len + 1))), iv to, iv i7, iv (Int32.ofNat (len + 1 + nk - li)), iv (Int32.ofNat xB)] [(.ref a), (.int (Int32.ofNat xB))]) := by
                intro t k
                refine k105 _ ?_
                skip
                refine XS.ifNo X.here hx rfl (hb hby dp23_m9_272) rfl ((if0 _ _).trans (tlt h0k).2.2.2) ?_
                refine XS.iload X.here hx rfl (hb hby dp23_m9_275) rfl ?_
                refine XS.aloadN X.here hx rfl (hb hby dp23_m9_277) rfl rfl ?_
                exact k
              obtain ⟨T107, X107, e107, st107⟩ := getF X hx hZ hown (host := "") (Or.inl (own_q hw 55 rfl)) Via.refl eT Df60_4 (g := (mkF m 278 #[rv a, iv ch, iv (Int32.ofNat (len + 1)), iv (Int32.ofNat ((len + 1) * (2 * li + 1))), iv (Int32.ofNat ((len + 1) * (2 * li + 1) - (2 * li + 1))), iv (Int32.ofNat (li - (len + 1))), iv to, iv i7, iv (Int32.ofNat (len + 1 + nk - li)), iv (Int32.ofNat xB)] [(.ref a), (.int (Int32.ofNat xB))])) rfl rfl (hb hby dp23_m9_278)
              have k107 : Goes p e below s₁ F0 T107 (mkF m 281 #[rv a, iv ch, iv (Int32.ofNat (len + 1)), iv (Int32.ofNat ((len + 1) * (2 * li + 1))), iv (Int32.ofNat ((len + 1) * (2 * li + 1) - (2 * li + 1))), iv (Int32.ofNat (li - (len + 1))), iv to, iv i7, iv (Int32.ofNat (len + 1 + nk - li)), iv (Int32.ofNat xB)] [(.ref bA), (.int (Int32.ofNat xB))]) := fun t k => k106 t (st107 _ k)
              have k108 : Goes p e below s₁ F0 T107 (mkF m 285 #[rv a, iv ch, iv (Int32.ofNat (len + 1)), iv (Int32.ofNat ((len + 1) * (2 * li + 1))), iv (Int32.ofNat ((len + 1) * (2 * li + 1) - (2 * li + 1))), iv (Int32.ofNat (li - (len + 1))), iv to, iv i7, iv (Int32.ofNat (len + 1 + nk - li)), iv (Int32.ofNat xB)] [(.int ((Int32.ofNat ((len + 1) * (2 * li + 1))) + i7)), (.ref bA), (.int (Int32.ofNat xB))]) := by
                intro t k
                refine k107 _ ?_
                skip
                refine XS.iloadN X107.here hx rfl (hb hby dp23_m9_281) rfl ?_
                refine XS.iload X107.here hx rfl (hb hby dp23_m9_282) rfl ?_
                refine XS.iadd X107.here hx rfl (hb hby dp23_m9_284) rfl ?_
                exact k
              rw [show ((Int32.ofNat ((len + 1) * (2 * li + 1))) + i7) = (Int32.ofNat ((len + 1) * (2 * li + 1) + nk)) from by rw [hi]; exact own_addN (by omega)] at k108
              have k109 : Goes p e below s₁ F0 T107 (mkF m 287 #[rv a, iv ch, iv (Int32.ofNat (len + 1)), iv (Int32.ofNat ((len + 1) * (2 * li + 1))), iv (Int32.ofNat ((len + 1) * (2 * li + 1) - (2 * li + 1))), iv (Int32.ofNat (li - (len + 1))), iv to, iv i7, iv (Int32.ofNat (len + 1 + nk - li)), iv (Int32.ofNat xB)] [(.int ((Int32.ofNat ((len + 1) * (2 * li + 1) + nk)) - (1 : Int32))), (.ref bA), (.int (Int32.ofNat xB))]) := by
                intro t k
                refine k108 _ ?_
                skip
                refine XS.iconst X107.here hx rfl (hb hby dp23_m9_285) ?_
                refine XS.isub X107.here hx rfl (hb hby dp23_m9_286) rfl ?_
                exact k
              rw [show ((Int32.ofNat ((len + 1) * (2 * li + 1) + nk)) - (1 : Int32)) = (Int32.ofNat ((len + 1) * (2 * li + 1) + nk - 1)) from own_sub1 (by omega) (by omega)] at k109
              have hb287 := hBn ((len + 1) * (2 * li + 1) + nk - 1)
              have hin287 := own_inb (x := (len + 1) * (2 * li + 1) + nk - 1) (n := (own_fillN li (len + 1) chs.length eqa eqb nk bD).length) (by rw [hlb]; omega) (by rw [hlb]; omega)
              obtain ⟨cl110, Ar110, qk110, Sz110, Nn110, Hs110, Gs110⟩ := id Vb60
              have k111 : Goes p e below s₁ F0 T107 (mkF m 290 #[rv a, iv ch, iv (Int32.ofNat (len + 1)), iv (Int32.ofNat ((len + 1) * (2 * li + 1))), iv (Int32.ofNat ((len + 1) * (2 * li + 1) - (2 * li + 1))), iv (Int32.ofNat (li - (len + 1))), iv to, iv i7, iv (Int32.ofNat (len + 1 + nk - li)), iv (Int32.ofNat xB)] [(.int ((Int32.ofNat (bN.getD ((len + 1) * (2 * li + 1) + nk - 1) 0)) + (1 : Int32))), (.int (Int32.ofNat xB))]) := by
                intro t k
                refine k109 _ ?_
                skip
                refine X107.iaload hx (j := (Int32.ofNat ((len + 1) * (2 * li + 1) + nk - 1))) (v := (.int (Int32.ofNat (bN.getD ((len + 1) * (2 * li + 1) + nk - 1) 0)))) (by rw [e107]; exact Ar110.1) (State.isArrayOf_alike hZ.alike Ar110.2.1) Ar110.2.2 (inb_of Sz110 hin287) (Has.at Hs110 (inb_of Sz110 hin287) (by rw [own_clampN (by omega), ebN]; exact own_getI _ _)) (g := (mkF m 287 #[rv a, iv ch, iv (Int32.ofNat (len + 1)), iv (Int32.ofNat ((len + 1) * (2 * li + 1))), iv (Int32.ofNat ((len + 1) * (2 * li + 1) - (2 * li + 1))), iv (Int32.ofNat (li - (len + 1))), iv to, iv i7, iv (Int32.ofNat (len + 1 + nk - li)), iv (Int32.ofNat xB)] [(.int (Int32.ofNat ((len + 1) * (2 * li + 1) + nk - 1))), (.ref bA), (.int (Int32.ofNat xB))])) rfl rfl (hb hby dp23_m9_287) _ ?_
                refine XS.iconst X107.here hx rfl (hb hby dp23_m9_288) ?_
                refine XS.iadd X107.here hx rfl (hb hby dp23_m9_289) rfl ?_
                exact k
              rw [show ((Int32.ofNat (bN.getD ((len + 1) * (2 * li + 1) + nk - 1) 0)) + (1 : Int32)) = (Int32.ofNat (bN.getD ((len + 1) * (2 * li + 1) + nk - 1) 0 + 1)) from own_add1 _] at k111
              obtain ⟨_, _, ⟨T112, L112, ck112, nk112⟩, -, X112, ⟨Lc112, hQ112, l112, y112, z112⟩, st112⟩ := Jvm.LawKit.callS X107 hx (y := (⟨"java/lang/Math", "min", "(II)I"⟩ : MethodName)) hown (mvT hZ (own_q hw 108 rfl)) (mvT hZ (own_q hw 73 rfl)) (mvT hZ (own_q hw 74 rfl)) (mvT hZ (own_q hw 75 rfl)) (by decide) (backOf (W := 0) (rmMin l Z a0 hw [] (Int32.ofNat xB) (Int32.ofNat (bN.getD ((len + 1) * (2 * li + 1) + nk - 1) 0 + 1)) hh n0 Zt) hZ (own_q hw 75 rfl) (own_q hw 74 rfl) (by decide) (by decide)) (g := (mkF m 290 #[rv a, iv ch, iv (Int32.ofNat (len + 1)), iv (Int32.ofNat ((len + 1) * (2 * li + 1))), iv (Int32.ofNat ((len + 1) * (2 * li + 1) - (2 * li + 1))), iv (Int32.ofNat (li - (len + 1))), iv to, iv i7, iv (Int32.ofNat (len + 1 + nk - li)), iv (Int32.ofNat xB)] [(.int (Int32.ofNat (bN.getD ((len + 1) * (2 * li + 1) + nk - 1) 0 + 1))), (.int (Int32.ofNat xB))])) rfl (by rw [hml]; rfl) (argsL := [(.int (Int32.ofNat xB)), (.int (Int32.ofNat (bN.getD ((len + 1) * (2 * li + 1) + nk - 1) 0 + 1)))]) (rest := []) (lenOf pd_0 rfl) rfl (by show 2 * 0 + _ ≤ _; exact Nat.le_of_eq rfl) (hb hby dp23_m9_290) (fun _ _ => ⟨rfl, e107, (by decide : 2 + 0 ≤ _), (by decide : 39 + 0 ≤ _)⟩)
              dsimp only [Pt.U, Pt.locs, Pt.cells, Pt.slots] at X112 l112 y112 z112 st112 hQ112
              subst l112 y112 z112
              obtain ⟨rfl, N112q, e112⟩ := hQ112
              have N112 := Fr.app NL N112q
              have k112 : Goes p e below s₁ F0 T112 (mkF m 293 #[rv a, iv ch, iv (Int32.ofNat (len + 1)), iv (Int32.ofNat ((len + 1) * (2 * li + 1))), iv (Int32.ofNat ((len + 1) * (2 * li + 1) - (2 * li + 1))), iv (Int32.ofNat (li - (len + 1))), iv to, iv i7, iv (Int32.ofNat (len + 1 + nk - li)), iv (Int32.ofNat xB)] [(.int (own_min (Int32.ofNat xB) (Int32.ofNat (bN.getD ((len + 1) * (2 * li + 1) + nk - 1) 0 + 1))))]) := fun t k => k111 t (st112 _ k)
              rw [show (own_min (Int32.ofNat xB) (Int32.ofNat (bN.getD ((len + 1) * (2 * li + 1) + nk - 1) 0 + 1))) = (Int32.ofNat xC) from (own_minN (by omega) (by omega)).trans (congrArg Int32.ofNat (by rw [exC, own_cC, if_pos hk0]))] at k112
              have k113 : Goes p e below s₁ F0 T112 (mkF m 295 #[rv a, iv ch, iv (Int32.ofNat (len + 1)), iv (Int32.ofNat ((len + 1) * (2 * li + 1))), iv (Int32.ofNat ((len + 1) * (2 * li + 1) - (2 * li + 1))), iv (Int32.ofNat (li - (len + 1))), iv to, iv i7, iv (Int32.ofNat (len + 1 + nk - li)), iv (Int32.ofNat xC)] []) := by
                intro t k
                refine k112 _ ?_
                skip
                refine XS.istore X112.here hx rfl (hb hby dp23_m9_293) rfl (l' := #[rv a, iv ch, iv (Int32.ofNat (len + 1)), iv (Int32.ofNat ((len + 1) * (2 * li + 1))), iv (Int32.ofNat ((len + 1) * (2 * li + 1) - (2 * li + 1))), iv (Int32.ofNat (li - (len + 1))), iv to, iv i7, iv (Int32.ofNat (len + 1 + nk - li)), iv (Int32.ofNat xC)]) rfl ?_
                exact k
              exact j295 T112 _  X112 N112 e112 k113
            · have k114 : Goes p e below s₁ F0 T (mkF m 295 #[rv a, iv ch, iv (Int32.ofNat (len + 1)), iv (Int32.ofNat ((len + 1) * (2 * li + 1))), iv (Int32.ofNat ((len + 1) * (2 * li + 1) - (2 * li + 1))), iv (Int32.ofNat (li - (len + 1))), iv to, iv i7, iv (Int32.ofNat (len + 1 + nk - li)), iv (Int32.ofNat xB)] []) := by
                intro t k
                refine k105 _ ?_
                skip
                refine XS.ifYes X.here hx rfl (pc0 := 272) (pc' := 295) rfl (hb hby dp23_m9_272) rfl ((if0 _ _).trans (flt h0k).2.2.2) (by decide) (by decide) ?_
                exact k
              have hk0 : ¬ 0 < nk := by rw [hi, show (0 : Int32) = Int32.ofNat 0 from rfl, own_ltN (by omega) (by omega)] at h0k; exact h0k
              have hxx : xC = xB := by rw [exC, own_cC, if_neg hk0]
              rw [← hxx] at k114
              exact j295 T _  X NL eT k114
          have k115 : Goes p e below s₁ F0 T (mkF m 196 #[rv a, iv ch, iv (Int32.ofNat (len + 1)), iv (Int32.ofNat ((len + 1) * (2 * li + 1))), iv (Int32.ofNat ((len + 1) * (2 * li + 1) - (2 * li + 1))), iv (Int32.ofNat (li - (len + 1))), iv to, iv i7, z8, z9] [(.ref a), (.int (Int32.ofNat (len + 1)))]) := by
            intro t k
            refine k63 _ ?_
            skip
            refine XS.iloadN X.here hx rfl (hb hby dp23_m9_194) rfl ?_
            refine XS.aloadN X.here hx rfl (hb hby dp23_m9_195) rfl rfl ?_
            exact k
          obtain ⟨T116, X116, e116, st116⟩ := getF X hx hZ hown (host := "") (Or.inl (own_q hw 36 rfl)) Via.refl eT Df60_1 (g := (mkF m 196 #[rv a, iv ch, iv (Int32.ofNat (len + 1)), iv (Int32.ofNat ((len + 1) * (2 * li + 1))), iv (Int32.ofNat ((len + 1) * (2 * li + 1) - (2 * li + 1))), iv (Int32.ofNat (li - (len + 1))), iv to, iv i7, z8, z9] [(.ref a), (.int (Int32.ofNat (len + 1)))])) rfl rfl (hb hby dp23_m9_196)
          have k116 : Goes p e below s₁ F0 T116 (mkF m 199 #[rv a, iv ch, iv (Int32.ofNat (len + 1)), iv (Int32.ofNat ((len + 1) * (2 * li + 1))), iv (Int32.ofNat ((len + 1) * (2 * li + 1) - (2 * li + 1))), iv (Int32.ofNat (li - (len + 1))), iv to, iv i7, z8, z9] [(.int (Int32.ofNat li)), (.int (Int32.ofNat (len + 1)))]) := fun t k => k115 t (st116 _ k)
          have k117 : Goes p e below s₁ F0 T116 (mkF m 203 #[rv a, iv ch, iv (Int32.ofNat (len + 1)), iv (Int32.ofNat ((len + 1) * (2 * li + 1))), iv (Int32.ofNat ((len + 1) * (2 * li + 1) - (2 * li + 1))), iv (Int32.ofNat (li - (len + 1))), iv to, iv i7, z8, z9] [(.int (((Int32.ofNat (len + 1)) - (Int32.ofNat li)) + i7))]) := by
            intro t k
            refine k116 _ ?_
            skip
            refine XS.isub X116.here hx rfl (hb hby dp23_m9_199) rfl ?_
            refine XS.iload X116.here hx rfl (hb hby dp23_m9_200) rfl ?_
            refine XS.iadd X116.here hx rfl (hb hby dp23_m9_202) rfl ?_
            exact k
          rw [show Int32.ofNat (len + 1) - Int32.ofNat li + i7 = Int32.ofNat (len + 1 + nk - li) from by rw [hi]; exact own_jN (by omega) (by omega) (by omega) (by omega)] at k117
          have k118 : Goes p e below s₁ F0 T116 (mkF m 206 #[rv a, iv ch, iv (Int32.ofNat (len + 1)), iv (Int32.ofNat ((len + 1) * (2 * li + 1))), iv (Int32.ofNat ((len + 1) * (2 * li + 1) - (2 * li + 1))), iv (Int32.ofNat (li - (len + 1))), iv to, iv i7, iv (Int32.ofNat (len + 1 + nk - li)), z9] [(.ref a)]) := by
            intro t k
            refine k117 _ ?_
            skip
            refine XS.istore X116.here hx rfl (hb hby dp23_m9_203) rfl (l' := #[rv a, iv ch, iv (Int32.ofNat (len + 1)), iv (Int32.ofNat ((len + 1) * (2 * li + 1))), iv (Int32.ofNat ((len + 1) * (2 * li + 1) - (2 * li + 1))), iv (Int32.ofNat (li - (len + 1))), iv to, iv i7, iv (Int32.ofNat (len + 1 + nk - li)), z9]) (osTyp_203 hz8) ?_
            refine XS.aloadN X116.here hx rfl (hb hby dp23_m9_205) rfl rfl ?_
            exact k
          obtain ⟨T119, X119, e119, st119⟩ := getF X116 hx hZ hown (host := "") (Or.inl (own_q hw 55 rfl)) Via.refl e116 Df60_4 (g := (mkF m 206 #[rv a, iv ch, iv (Int32.ofNat (len + 1)), iv (Int32.ofNat ((len + 1) * (2 * li + 1))), iv (Int32.ofNat ((len + 1) * (2 * li + 1) - (2 * li + 1))), iv (Int32.ofNat (li - (len + 1))), iv to, iv i7, iv (Int32.ofNat (len + 1 + nk - li)), z9] [(.ref a)])) rfl rfl (hb hby dp23_m9_206)
          have k119 : Goes p e below s₁ F0 T119 (mkF m 209 #[rv a, iv ch, iv (Int32.ofNat (len + 1)), iv (Int32.ofNat ((len + 1) * (2 * li + 1))), iv (Int32.ofNat ((len + 1) * (2 * li + 1) - (2 * li + 1))), iv (Int32.ofNat (li - (len + 1))), iv to, iv i7, iv (Int32.ofNat (len + 1 + nk - li)), z9] [(.ref bA)]) := fun t k => k118 t (st119 _ k)
          have k120 : Goes p e below s₁ F0 T119 (mkF m 214 #[rv a, iv ch, iv (Int32.ofNat (len + 1)), iv (Int32.ofNat ((len + 1) * (2 * li + 1))), iv (Int32.ofNat ((len + 1) * (2 * li + 1) - (2 * li + 1))), iv (Int32.ofNat (li - (len + 1))), iv to, iv i7, iv (Int32.ofNat (len + 1 + nk - li)), z9] [(.int ((Int32.ofNat ((len + 1) * (2 * li + 1) - (2 * li + 1))) + i7)), (.ref bA)]) := by
            intro t k
            refine k119 _ ?_
            skip
            refine XS.iload X119.here hx rfl (hb hby dp23_m9_209) rfl ?_
            refine XS.iload X119.here hx rfl (hb hby dp23_m9_211) rfl ?_
            refine XS.iadd X119.here hx rfl (hb hby dp23_m9_213) rfl ?_
            exact k
          rw [show ((Int32.ofNat ((len + 1) * (2 * li + 1) - (2 * li + 1))) + i7) = (Int32.ofNat ((len + 1) * (2 * li + 1) - (2 * li + 1) + nk)) from by rw [hi]; exact own_addN (by omega)] at k120
          have hb214 := hBn ((len + 1) * (2 * li + 1) - (2 * li + 1) + nk)
          have hin214 := own_inb (x := (len + 1) * (2 * li + 1) - (2 * li + 1) + nk) (n := (own_fillN li (len + 1) chs.length eqa eqb nk bD).length) (by rw [hlb]; omega) (by rw [hlb]; omega)
          obtain ⟨cl121, Ar121, qk121, Sz121, Nn121, Hs121, Gs121⟩ := id Vb60
          have k122 : Goes p e below s₁ F0 T119 (mkF m 217 #[rv a, iv ch, iv (Int32.ofNat (len + 1)), iv (Int32.ofNat ((len + 1) * (2 * li + 1))), iv (Int32.ofNat ((len + 1) * (2 * li + 1) - (2 * li + 1))), iv (Int32.ofNat (li - (len + 1))), iv to, iv i7, iv (Int32.ofNat (len + 1 + nk - li)), z9] [(.ref a), (.int ch), (.int (Int32.ofNat (bN.getD ((len + 1) * (2 * li + 1) - (2 * li + 1) + nk) 0)))]) := by
            intro t k
            refine k120 _ ?_
            skip
            refine X119.iaload hx (j := (Int32.ofNat ((len + 1) * (2 * li + 1) - (2 * li + 1) + nk))) (v := (.int (Int32.ofNat (bN.getD ((len + 1) * (2 * li + 1) - (2 * li + 1) + nk) 0)))) (by rw [e119]; exact Ar121.1) (State.isArrayOf_alike hZ.alike Ar121.2.1) Ar121.2.2 (inb_of Sz121 hin214) (Has.at Hs121 (inb_of Sz121 hin214) (by rw [own_clampN (by omega), ebN]; exact own_getI _ _)) (g := (mkF m 214 #[rv a, iv ch, iv (Int32.ofNat (len + 1)), iv (Int32.ofNat ((len + 1) * (2 * li + 1))), iv (Int32.ofNat ((len + 1) * (2 * li + 1) - (2 * li + 1))), iv (Int32.ofNat (li - (len + 1))), iv to, iv i7, iv (Int32.ofNat (len + 1 + nk - li)), z9] [(.int (Int32.ofNat ((len + 1) * (2 * li + 1) - (2 * li + 1) + nk))), (.ref bA)])) rfl rfl (hb hby dp23_m9_214) _ ?_
            refine XS.iloadN X119.here hx rfl (hb hby dp23_m9_215) rfl ?_
            refine XS.aloadN X119.here hx rfl (hb hby dp23_m9_216) rfl rfl ?_
            exact k
          obtain ⟨T123, X123, e123, st123⟩ := getF X119 hx hZ hown (host := "") (Or.inl (own_q hw 34 rfl)) Via.refl e119 Df60_0 (g := (mkF m 217 #[rv a, iv ch, iv (Int32.ofNat (len + 1)), iv (Int32.ofNat ((len + 1) * (2 * li + 1))), iv (Int32.ofNat ((len + 1) * (2 * li + 1) - (2 * li + 1))), iv (Int32.ofNat (li - (len + 1))), iv to, iv i7, iv (Int32.ofNat (len + 1 + nk - li)), z9] [(.ref a), (.int ch), (.int (Int32.ofNat (bN.getD ((len + 1) * (2 * li + 1) - (2 * li + 1) + nk) 0)))])) rfl rfl (hb hby dp23_m9_217)
          have k123 : Goes p e below s₁ F0 T123 (mkF m 220 #[rv a, iv ch, iv (Int32.ofNat (len + 1)), iv (Int32.ofNat ((len + 1) * (2 * li + 1))), iv (Int32.ofNat ((len + 1) * (2 * li + 1) - (2 * li + 1))), iv (Int32.ofNat (li - (len + 1))), iv to, iv i7, iv (Int32.ofNat (len + 1 + nk - li)), z9] [(.ref r), (.int ch), (.int (Int32.ofNat (bN.getD ((len + 1) * (2 * li + 1) - (2 * li + 1) + nk) 0)))]) := fun t k => k122 t (st123 _ k)
          have k124 : Goes p e below s₁ F0 T123 (mkF m 224 #[rv a, iv ch, iv (Int32.ofNat (len + 1)), iv (Int32.ofNat ((len + 1) * (2 * li + 1))), iv (Int32.ofNat ((len + 1) * (2 * li + 1) - (2 * li + 1))), iv (Int32.ofNat (li - (len + 1))), iv to, iv i7, iv (Int32.ofNat (len + 1 + nk - li)), z9] [(.int ((Int32.ofNat (len + 1 + nk - li)) - (1 : Int32))), (.ref r), (.int ch), (.int (Int32.ofNat (bN.getD ((len + 1) * (2 * li + 1) - (2 * li + 1) + nk) 0)))]) := by
            intro t k
            refine k123 _ ?_
            skip
            refine XS.iload X123.here hx rfl (hb hby dp23_m9_220) rfl ?_
            refine XS.iconst X123.here hx rfl (hb hby dp23_m9_222) ?_
            refine XS.isub X123.here hx rfl (hb hby dp23_m9_223) rfl ?_
            exact k
          rw [show ((Int32.ofNat (len + 1 + nk - li)) - (1 : Int32)) = (Int32.ofNat ((len + 1 + nk - li) - 1)) from own_sub1 (by omega) (by omega)] at k124
          obtain ⟨cq125, kq125, q125a, q125b, q125c⟩ := isOf hZ e123 (own_Str.exa Sr60)
          obtain ⟨_, _, ⟨T125, L125, ck125, nk125⟩, -, X125, ⟨Lc125, hQ125, l125, y125, z125⟩, st125⟩ := X123.virtualBack hx (y := (⟨"java/lang/String", "charAt", "(I)C"⟩ : MethodName)) (z := (⟨"java/lang/String", "charAt", "(I)C"⟩ : MethodName)) hown (mvT hZ (own_q hw 109 rfl)) (mvT hZ (own_q hw 110 rfl)) (notFace_of_selects (args := #[]) (mvT hZ (own_q hw 112 rfl))) (mvT hZ (own_q hw 112 rfl)) (mvT hZ (own_q hw 111 rfl)) (by decide) (own_chB (W := 2) hZ hw Sr60 (S1.ext Ot.2) hcs (S2.ext Ot.2) rF (i := (len + 1 + nk - li) - 1) (j := Int32.ofNat ((len + 1 + nk - li) - 1)) (by omega) rfl (by decide) (by decide)) q125a q125c (g := (mkF m 224 #[rv a, iv ch, iv (Int32.ofNat (len + 1)), iv (Int32.ofNat ((len + 1) * (2 * li + 1))), iv (Int32.ofNat ((len + 1) * (2 * li + 1) - (2 * li + 1))), iv (Int32.ofNat (li - (len + 1))), iv to, iv i7, iv (Int32.ofNat (len + 1 + nk - li)), z9] [(.int (Int32.ofNat ((len + 1 + nk - li) - 1))), (.ref r), (.int ch), (.int (Int32.ofNat (bN.getD ((len + 1) * (2 * li + 1) - (2 * li + 1) + nk) 0)))])) rfl (by rw [hml]; rfl) (Steps.refl _) (argsL := [(.int (Int32.ofNat ((len + 1 + nk - li) - 1)))]) (rest := [(.int ch), (.int (Int32.ofNat (bN.getD ((len + 1) * (2 * li + 1) - (2 * li + 1) + nk) 0)))]) (lenOf pd_2 rfl) rfl (by show 2 * 0 + _ ≤ _; exact Nat.le_of_eq rfl) (hb hby dp23_m9_224) (fun _ _ => ⟨rfl, e123, (by decide : 2 + 0 ≤ _), (by decide : 39 + 0 ≤ _)⟩)
          dsimp only [Pt.U, Pt.locs, Pt.cells, Pt.slots] at X125 l125 y125 z125 st125 hQ125
          subst l125 y125 z125
          obtain ⟨rfl, rfl, e125⟩ := hQ125
          have N125 := Fr.app NL (Fr.nil n0)
          have k125 : Goes p e below s₁ F0 T125 (mkF m 227 #[rv a, iv ch, iv (Int32.ofNat (len + 1)), iv (Int32.ofNat ((len + 1) * (2 * li + 1))), iv (Int32.ofNat ((len + 1) * (2 * li + 1) - (2 * li + 1))), iv (Int32.ofNat (li - (len + 1))), iv to, iv i7, iv (Int32.ofNat (len + 1 + nk - li)), z9] [(.int (chs.getD ((len + 1 + nk - li) - 1) 0)), (.int ch), (.int (Int32.ofNat (bN.getD ((len + 1) * (2 * li + 1) - (2 * li + 1) + nk) 0)))]) := fun t k => k124 t (st125.trans k)
          obtain ⟨c0, eq_c0⟩ : ∃ z : Int32, z = (if ch = (chs.getD ((len + 1 + nk - li) - 1) 0) then (0 : Int32) else (1 : Int32)) := ⟨_, rfl⟩
          have k127 : Goes p e below s₁ F0 T125 (mkF m 235 #[rv a, iv ch, iv (Int32.ofNat (len + 1)), iv (Int32.ofNat ((len + 1) * (2 * li + 1))), iv (Int32.ofNat ((len + 1) * (2 * li + 1) - (2 * li + 1))), iv (Int32.ofNat (li - (len + 1))), iv to, iv i7, iv (Int32.ofNat (len + 1 + nk - li)), z9] [(.int c0), (.int (Int32.ofNat (bN.getD ((len + 1) * (2 * li + 1) - (2 * li + 1) + nk) 0)))]) := by
            intro t k
            refine k125 _ ?_
            by_cases hc126_227 : ch = (chs.getD ((len + 1 + nk - li) - 1) 0)
            · rw [show c0 = (0 : Int32) by rw [eq_c0, if_pos hc126_227]] at k
              skip
              refine XS.icmpNo X125.here hx rfl (hb hby dp23_m9_227) rfl (teq hc126_227).2 ?_
              refine XS.iconst X125.here hx rfl (hb hby dp23_m9_230) ?_
              refine XS.goto X125.here hx rfl (pc0 := 231) (pc' := 235) rfl (hb hby dp23_m9_231) (by decide) (by decide) ?_
              exact k
            · rw [show c0 = (1 : Int32) by rw [eq_c0, if_neg hc126_227]] at k
              skip
              refine XS.icmpYes X125.here hx rfl (pc0 := 227) (pc' := 234) rfl (hb hby dp23_m9_227) rfl (feq hc126_227).2 (by decide) (by decide) ?_
              refine XS.iconst X125.here hx rfl (hb hby dp23_m9_234) ?_
              exact k
          have k128 : Goes p e below s₁ F0 T125 (mkF m 236 #[rv a, iv ch, iv (Int32.ofNat (len + 1)), iv (Int32.ofNat ((len + 1) * (2 * li + 1))), iv (Int32.ofNat ((len + 1) * (2 * li + 1) - (2 * li + 1))), iv (Int32.ofNat (li - (len + 1))), iv to, iv i7, iv (Int32.ofNat (len + 1 + nk - li)), z9] [(.int ((Int32.ofNat (bN.getD ((len + 1) * (2 * li + 1) - (2 * li + 1) + nk) 0)) + c0))]) := by
            intro t k
            refine k127 _ ?_
            skip
            refine XS.iadd X125.here hx rfl (hb hby dp23_m9_235) rfl ?_
            exact k
          rw [eq_c0, own_addb] at k128
          rw [show (Int32.ofNat (bN.getD ((len + 1) * (2 * li + 1) - (2 * li + 1) + nk) 0 + if ch = chs.getD ((len + 1 + nk - li) - 1) 0 then 0 else 1)) = (Int32.ofNat xA) from congrArg Int32.ofNat (by rw [exA, own_cA]; exact congrArg (bN.getD ((len + 1) * (2 * li + 1) - (2 * li + 1) + nk) 0 + ·) (own_ifc (hE1 _ (by omega)).symm))] at k128
          have k129 : Goes p e below s₁ F0 T125 (mkF m 242 #[rv a, iv ch, iv (Int32.ofNat (len + 1)), iv (Int32.ofNat ((len + 1) * (2 * li + 1))), iv (Int32.ofNat ((len + 1) * (2 * li + 1) - (2 * li + 1))), iv (Int32.ofNat (li - (len + 1))), iv to, iv i7, iv (Int32.ofNat (len + 1 + nk - li)), iv (Int32.ofNat xA)] [(.int (i7 + (1 : Int32)))]) := by
            intro t k
            refine k128 _ ?_
            skip
            refine XS.istore X125.here hx rfl (hb hby dp23_m9_236) rfl (l' := #[rv a, iv ch, iv (Int32.ofNat (len + 1)), iv (Int32.ofNat ((len + 1) * (2 * li + 1))), iv (Int32.ofNat ((len + 1) * (2 * li + 1) - (2 * li + 1))), iv (Int32.ofNat (li - (len + 1))), iv to, iv i7, iv (Int32.ofNat (len + 1 + nk - li)), iv (Int32.ofNat xA)]) (osTyp_236 hz9) ?_
            refine XS.iload X125.here hx rfl (hb hby dp23_m9_238) rfl ?_
            refine XS.iconst X125.here hx rfl (hb hby dp23_m9_240) ?_
            refine XS.iadd X125.here hx rfl (hb hby dp23_m9_241) rfl ?_
            exact k
          rw [show (i7 + (1 : Int32)) = (Int32.ofNat (nk + 1)) from by rw [hi]; exact own_add1 nk] at k129
          have k130 : Goes p e below s₁ F0 T125 (mkF m 243 #[rv a, iv ch, iv (Int32.ofNat (len + 1)), iv (Int32.ofNat ((len + 1) * (2 * li + 1))), iv (Int32.ofNat ((len + 1) * (2 * li + 1) - (2 * li + 1))), iv (Int32.ofNat (li - (len + 1))), iv to, iv i7, iv (Int32.ofNat (len + 1 + nk - li)), iv (Int32.ofNat xA)] [(.ref a), (.int (Int32.ofNat (nk + 1)))]) := by
            intro t k
            refine k129 _ ?_
            skip
            refine XS.aloadN X125.here hx rfl (hb hby dp23_m9_242) rfl rfl ?_
            exact k
          obtain ⟨T131, X131, e131, st131⟩ := getF X125 hx hZ hown (host := "") (Or.inl (own_q hw 40 rfl)) Via.refl e125 Df60_3 (g := (mkF m 243 #[rv a, iv ch, iv (Int32.ofNat (len + 1)), iv (Int32.ofNat ((len + 1) * (2 * li + 1))), iv (Int32.ofNat ((len + 1) * (2 * li + 1) - (2 * li + 1))), iv (Int32.ofNat (li - (len + 1))), iv to, iv i7, iv (Int32.ofNat (len + 1 + nk - li)), iv (Int32.ofNat xA)] [(.ref a), (.int (Int32.ofNat (nk + 1)))])) rfl rfl (hb hby dp23_m9_243)
          have k131 : Goes p e below s₁ F0 T131 (mkF m 246 #[rv a, iv ch, iv (Int32.ofNat (len + 1)), iv (Int32.ofNat ((len + 1) * (2 * li + 1))), iv (Int32.ofNat ((len + 1) * (2 * li + 1) - (2 * li + 1))), iv (Int32.ofNat (li - (len + 1))), iv to, iv i7, iv (Int32.ofNat (len + 1 + nk - li)), iv (Int32.ofNat xA)] [(.int (Int32.ofNat (2 * li + 1))), (.int (Int32.ofNat (nk + 1)))]) := fun t k => k130 t (st131 _ k)
          by_cases hw1 : (Int32.ofNat (nk + 1)) < (Int32.ofNat (2 * li + 1))
          · have hkw : nk + 1 < 2 * li + 1 := by rw [own_ltN (by omega) (by omega)] at hw1; exact hw1
            have k132 : Goes p e below s₁ F0 T131 (mkF m 252 #[rv a, iv ch, iv (Int32.ofNat (len + 1)), iv (Int32.ofNat ((len + 1) * (2 * li + 1))), iv (Int32.ofNat ((len + 1) * (2 * li + 1) - (2 * li + 1))), iv (Int32.ofNat (li - (len + 1))), iv to, iv i7, iv (Int32.ofNat (len + 1 + nk - li)), iv (Int32.ofNat xA)] [(.ref a), (.int (Int32.ofNat xA))]) := by
              intro t k
              refine k131 _ ?_
              skip
              refine XS.icmpNo X131.here hx rfl (hb hby dp23_m9_246) rfl (tlt hw1).2.1 ?_
              refine XS.iload X131.here hx rfl (hb hby dp23_m9_249) rfl ?_
              refine XS.aloadN X131.here hx rfl (hb hby dp23_m9_251) rfl rfl ?_
              exact k
            obtain ⟨T133, X133, e133, st133⟩ := getF X131 hx hZ hown (host := "") (Or.inl (own_q hw 55 rfl)) Via.refl e131 Df60_4 (g := (mkF m 252 #[rv a, iv ch, iv (Int32.ofNat (len + 1)), iv (Int32.ofNat ((len + 1) * (2 * li + 1))), iv (Int32.ofNat ((len + 1) * (2 * li + 1) - (2 * li + 1))), iv (Int32.ofNat (li - (len + 1))), iv to, iv i7, iv (Int32.ofNat (len + 1 + nk - li)), iv (Int32.ofNat xA)] [(.ref a), (.int (Int32.ofNat xA))])) rfl rfl (hb hby dp23_m9_252)
            have k133 : Goes p e below s₁ F0 T133 (mkF m 255 #[rv a, iv ch, iv (Int32.ofNat (len + 1)), iv (Int32.ofNat ((len + 1) * (2 * li + 1))), iv (Int32.ofNat ((len + 1) * (2 * li + 1) - (2 * li + 1))), iv (Int32.ofNat (li - (len + 1))), iv to, iv i7, iv (Int32.ofNat (len + 1 + nk - li)), iv (Int32.ofNat xA)] [(.ref bA), (.int (Int32.ofNat xA))]) := fun t k => k132 t (st133 _ k)
            have k134 : Goes p e below s₁ F0 T133 (mkF m 260 #[rv a, iv ch, iv (Int32.ofNat (len + 1)), iv (Int32.ofNat ((len + 1) * (2 * li + 1))), iv (Int32.ofNat ((len + 1) * (2 * li + 1) - (2 * li + 1))), iv (Int32.ofNat (li - (len + 1))), iv to, iv i7, iv (Int32.ofNat (len + 1 + nk - li)), iv (Int32.ofNat xA)] [(.int ((Int32.ofNat ((len + 1) * (2 * li + 1) - (2 * li + 1))) + i7)), (.ref bA), (.int (Int32.ofNat xA))]) := by
              intro t k
              refine k133 _ ?_
              skip
              refine XS.iload X133.here hx rfl (hb hby dp23_m9_255) rfl ?_
              refine XS.iload X133.here hx rfl (hb hby dp23_m9_257) rfl ?_
              refine XS.iadd X133.here hx rfl (hb hby dp23_m9_259) rfl ?_
              exact k
            rw [show ((Int32.ofNat ((len + 1) * (2 * li + 1) - (2 * li + 1))) + i7) = (Int32.ofNat ((len + 1) * (2 * li + 1) - (2 * li + 1) + nk)) from by rw [hi]; exact own_addN (by omega)] at k134
            have k135 : Goes p e below s₁ F0 T133 (mkF m 262 #[rv a, iv ch, iv (Int32.ofNat (len + 1)), iv (Int32.ofNat ((len + 1) * (2 * li + 1))), iv (Int32.ofNat ((len + 1) * (2 * li + 1) - (2 * li + 1))), iv (Int32.ofNat (li - (len + 1))), iv to, iv i7, iv (Int32.ofNat (len + 1 + nk - li)), iv (Int32.ofNat xA)] [(.int ((Int32.ofNat ((len + 1) * (2 * li + 1) - (2 * li + 1) + nk)) + (1 : Int32))), (.ref bA), (.int (Int32.ofNat xA))]) := by
              intro t k
              refine k134 _ ?_
              skip
              refine XS.iconst X133.here hx rfl (hb hby dp23_m9_260) ?_
              refine XS.iadd X133.here hx rfl (hb hby dp23_m9_261) rfl ?_
              exact k
            rw [show ((Int32.ofNat ((len + 1) * (2 * li + 1) - (2 * li + 1) + nk)) + (1 : Int32)) = (Int32.ofNat ((len + 1) * (2 * li + 1) - (2 * li + 1) + nk + 1)) from own_add1 _] at k135
            have hb262 := hBn ((len + 1) * (2 * li + 1) - (2 * li + 1) + nk + 1)
            have hin262 := own_inb (x := (len + 1) * (2 * li + 1) - (2 * li + 1) + nk + 1) (n := (own_fillN li (len + 1) chs.length eqa eqb nk bD).length) (by rw [hlb]; omega) (by rw [hlb]; omega)
            obtain ⟨cl136, Ar136, qk136, Sz136, Nn136, Hs136, Gs136⟩ := id Vb60
            have k137 : Goes p e below s₁ F0 T133 (mkF m 265 #[rv a, iv ch, iv (Int32.ofNat (len + 1)), iv (Int32.ofNat ((len + 1) * (2 * li + 1))), iv (Int32.ofNat ((len + 1) * (2 * li + 1) - (2 * li + 1))), iv (Int32.ofNat (li - (len + 1))), iv to, iv i7, iv (Int32.ofNat (len + 1 + nk - li)), iv (Int32.ofNat xA)] [(.int ((Int32.ofNat (bN.getD ((len + 1) * (2 * li + 1) - (2 * li + 1) + nk + 1) 0)) + (1 : Int32))), (.int (Int32.ofNat xA))]) := by
              intro t k
              refine k135 _ ?_
              skip
              refine X133.iaload hx (j := (Int32.ofNat ((len + 1) * (2 * li + 1) - (2 * li + 1) + nk + 1))) (v := (.int (Int32.ofNat (bN.getD ((len + 1) * (2 * li + 1) - (2 * li + 1) + nk + 1) 0)))) (by rw [e133]; exact Ar136.1) (State.isArrayOf_alike hZ.alike Ar136.2.1) Ar136.2.2 (inb_of Sz136 hin262) (Has.at Hs136 (inb_of Sz136 hin262) (by rw [own_clampN (by omega), ebN]; exact own_getI _ _)) (g := (mkF m 262 #[rv a, iv ch, iv (Int32.ofNat (len + 1)), iv (Int32.ofNat ((len + 1) * (2 * li + 1))), iv (Int32.ofNat ((len + 1) * (2 * li + 1) - (2 * li + 1))), iv (Int32.ofNat (li - (len + 1))), iv to, iv i7, iv (Int32.ofNat (len + 1 + nk - li)), iv (Int32.ofNat xA)] [(.int (Int32.ofNat ((len + 1) * (2 * li + 1) - (2 * li + 1) + nk + 1))), (.ref bA), (.int (Int32.ofNat xA))])) rfl rfl (hb hby dp23_m9_262) _ ?_
              refine XS.iconst X133.here hx rfl (hb hby dp23_m9_263) ?_
              refine XS.iadd X133.here hx rfl (hb hby dp23_m9_264) rfl ?_
              exact k
            rw [show ((Int32.ofNat (bN.getD ((len + 1) * (2 * li + 1) - (2 * li + 1) + nk + 1) 0)) + (1 : Int32)) = (Int32.ofNat (bN.getD ((len + 1) * (2 * li + 1) - (2 * li + 1) + nk + 1) 0 + 1)) from own_add1 _] at k137
            obtain ⟨_, _, ⟨T138, L138, ck138, nk138⟩, -, X138, ⟨Lc138, hQ138, l138, y138, z138⟩, st138⟩ := Jvm.LawKit.callS X133 hx (y := (⟨"java/lang/Math", "min", "(II)I"⟩ : MethodName)) hown (mvT hZ (own_q hw 108 rfl)) (mvT hZ (own_q hw 73 rfl)) (mvT hZ (own_q hw 74 rfl)) (mvT hZ (own_q hw 75 rfl)) (by decide) (backOf (W := 0) (rmMin l Z a0 hw [] (Int32.ofNat xA) (Int32.ofNat (bN.getD ((len + 1) * (2 * li + 1) - (2 * li + 1) + nk + 1) 0 + 1)) hh n0 Zt) hZ (own_q hw 75 rfl) (own_q hw 74 rfl) (by decide) (by decide)) (g := (mkF m 265 #[rv a, iv ch, iv (Int32.ofNat (len + 1)), iv (Int32.ofNat ((len + 1) * (2 * li + 1))), iv (Int32.ofNat ((len + 1) * (2 * li + 1) - (2 * li + 1))), iv (Int32.ofNat (li - (len + 1))), iv to, iv i7, iv (Int32.ofNat (len + 1 + nk - li)), iv (Int32.ofNat xA)] [(.int (Int32.ofNat (bN.getD ((len + 1) * (2 * li + 1) - (2 * li + 1) + nk + 1) 0 + 1))), (.int (Int32.ofNat xA))])) rfl (by rw [hml]; rfl) (argsL := [(.int (Int32.ofNat xA)), (.int (Int32.ofNat (bN.getD ((len + 1) * (2 * li + 1) - (2 * li + 1) + nk + 1) 0 + 1)))]) (rest := []) (lenOf pd_0 rfl) rfl (by show 2 * 0 + _ ≤ _; exact Nat.le_of_eq rfl) (hb hby dp23_m9_265) (fun _ _ => ⟨rfl, e133, (by decide : 2 + 0 ≤ _), (by decide : 39 + 0 ≤ _)⟩)
            dsimp only [Pt.U, Pt.locs, Pt.cells, Pt.slots] at X138 l138 y138 z138 st138 hQ138
            subst l138 y138 z138
            obtain ⟨rfl, N138q, e138⟩ := hQ138
            have N138 := Fr.app N125 N138q
            have k138 : Goes p e below s₁ F0 T138 (mkF m 268 #[rv a, iv ch, iv (Int32.ofNat (len + 1)), iv (Int32.ofNat ((len + 1) * (2 * li + 1))), iv (Int32.ofNat ((len + 1) * (2 * li + 1) - (2 * li + 1))), iv (Int32.ofNat (li - (len + 1))), iv to, iv i7, iv (Int32.ofNat (len + 1 + nk - li)), iv (Int32.ofNat xA)] [(.int (own_min (Int32.ofNat xA) (Int32.ofNat (bN.getD ((len + 1) * (2 * li + 1) - (2 * li + 1) + nk + 1) 0 + 1))))]) := fun t k => k137 t (st138 _ k)
            rw [show (own_min (Int32.ofNat xA) (Int32.ofNat (bN.getD ((len + 1) * (2 * li + 1) - (2 * li + 1) + nk + 1) 0 + 1))) = (Int32.ofNat xB) from (own_minN (by omega) (by omega)).trans (congrArg Int32.ofNat (by rw [exB, own_cB, if_pos hkw]))] at k138
            have k139 : Goes p e below s₁ F0 T138 (mkF m 270 #[rv a, iv ch, iv (Int32.ofNat (len + 1)), iv (Int32.ofNat ((len + 1) * (2 * li + 1))), iv (Int32.ofNat ((len + 1) * (2 * li + 1) - (2 * li + 1))), iv (Int32.ofNat (li - (len + 1))), iv to, iv i7, iv (Int32.ofNat (len + 1 + nk - li)), iv (Int32.ofNat xB)] []) := by
              intro t k
              refine k138 _ ?_
              skip
              refine XS.istore X138.here hx rfl (hb hby dp23_m9_268) rfl (l' := #[rv a, iv ch, iv (Int32.ofNat (len + 1)), iv (Int32.ofNat ((len + 1) * (2 * li + 1))), iv (Int32.ofNat ((len + 1) * (2 * li + 1) - (2 * li + 1))), iv (Int32.ofNat (li - (len + 1))), iv to, iv i7, iv (Int32.ofNat (len + 1 + nk - li)), iv (Int32.ofNat xB)]) rfl ?_
              exact k
            exact j270 T138 _  X138 N138 e138 k139
          · have k140 : Goes p e below s₁ F0 T131 (mkF m 270 #[rv a, iv ch, iv (Int32.ofNat (len + 1)), iv (Int32.ofNat ((len + 1) * (2 * li + 1))), iv (Int32.ofNat ((len + 1) * (2 * li + 1) - (2 * li + 1))), iv (Int32.ofNat (li - (len + 1))), iv to, iv i7, iv (Int32.ofNat (len + 1 + nk - li)), iv (Int32.ofNat xA)] []) := by
              intro t k
              refine k131 _ ?_
              skip
              refine XS.icmpYes X131.here hx rfl (pc0 := 246) (pc' := 270) rfl (hb hby dp23_m9_246) rfl (flt hw1).2.1 (by decide) (by decide) ?_
              exact k
            have hkw : ¬ nk + 1 < 2 * li + 1 := by rw [own_ltN (by omega) (by omega)] at hw1; exact hw1
            have hxx : xB = xA := by rw [exB, own_cB, if_neg hkw]
            rw [← hxx] at k140
            exact j270 T131 _  X131 N125 e131 k140
    have loop1 : ∀ (kk : Nat) (hh : Heap) (T : State) (lo : List Loc) (i7 : Int32) (nk : Nat) (z8 z9 : Slot), One z8 → One z9 → i7 = Int32.ofNat nk → nk + kk = li - (len + 1) → True → n0 ≤ hh.size → Old Z n0 hh → Keep h0 hh [a, ba, ta] → own_ED Z hh a r bA tA kB kT' li chs (own_fillN li (len + 1) chs.length eqa eqb nk bD) (tY.set len ch) (len + 1) → Stand p l e ({ frames := 5, cells := 2, slots := 39, locals := 80 } : Room) s m #[(.ref a), (.int ch)] below meth c T lo 2 39 → Fr n0 lo → T.heap = hh → Goes p e below s₁ F0 T (mkF m 130 #[rv a, iv ch, iv (Int32.ofNat (len + 1)), iv (Int32.ofNat ((len + 1) * (2 * li + 1))), iv (Int32.ofNat ((len + 1) * (2 * li + 1) - (2 * li + 1))), iv (Int32.ofNat (li - (len + 1))), iv to, iv i7, z8, z9] []) → False := by
      intro kk
      induction kk with
      | zero =>
        intro hh T lo i7 nk z8 z9 hz8 hz9 hi hk _hT Zt Ot Kt Dt X NL eT kT
        have hlb : (own_fillN li (len + 1) chs.length eqa eqb nk bD).length = bD.length := own_fill_len _ _ _ _ _ _ _
        obtain ⟨De141, Df141_0, Df141_1, Df141_2, Df141_3, Df141_4, Df141_5, Df141_6, Vb141, Vt141, Sr141⟩ := id Dt
        have k142 : Goes p e below s₁ F0 T (mkF m 159 #[rv a, iv ch, iv (Int32.ofNat (len + 1)), iv (Int32.ofNat ((len + 1) * (2 * li + 1))), iv (Int32.ofNat ((len + 1) * (2 * li + 1) - (2 * li + 1))), iv (Int32.ofNat (li - (len + 1))), iv to, iv i7, z8, z9] [(.ref a), (.int i7)]) := by
          intro t k
          refine kT _ ?_
          skip
          refine XS.iload X.here hx rfl (hb hby dp23_m9_130) rfl ?_
          refine XS.iload X.here hx rfl (hb hby dp23_m9_132) rfl ?_
          refine XS.icmpYes X.here hx rfl (pc0 := 134) (pc' := 156) rfl (hb hby dp23_m9_134) rfl (flt (by rw [hi, own_ltN (by omega) (by omega)]; omega)).2.1 (by decide) (by decide) ?_
          refine XS.iload X.here hx rfl (hb hby dp23_m9_156) rfl ?_
          refine XS.aloadN X.here hx rfl (hb hby dp23_m9_158) rfl rfl ?_
          exact k
        obtain ⟨T143, X143, e143, st143⟩ := getF X hx hZ hown (host := "") (Or.inl (own_q hw 36 rfl)) Via.refl eT Df141_1 (g := (mkF m 159 #[rv a, iv ch, iv (Int32.ofNat (len + 1)), iv (Int32.ofNat ((len + 1) * (2 * li + 1))), iv (Int32.ofNat ((len + 1) * (2 * li + 1) - (2 * li + 1))), iv (Int32.ofNat (li - (len + 1))), iv to, iv i7, z8, z9] [(.ref a), (.int i7)])) rfl rfl (hb hby dp23_m9_159)
        have k143 : Goes p e below s₁ F0 T143 (mkF m 162 #[rv a, iv ch, iv (Int32.ofNat (len + 1)), iv (Int32.ofNat ((len + 1) * (2 * li + 1))), iv (Int32.ofNat ((len + 1) * (2 * li + 1) - (2 * li + 1))), iv (Int32.ofNat (li - (len + 1))), iv to, iv i7, z8, z9] [(.int (Int32.ofNat li)), (.int i7)]) := fun t k => k142 t (st143 _ k)
        have k144 : Goes p e below s₁ F0 T143 (mkF m 164 #[rv a, iv ch, iv (Int32.ofNat (len + 1)), iv (Int32.ofNat ((len + 1) * (2 * li + 1))), iv (Int32.ofNat ((len + 1) * (2 * li + 1) - (2 * li + 1))), iv (Int32.ofNat (li - (len + 1))), iv to, iv i7, z8, z9] [(.int ((Int32.ofNat li) - (Int32.ofNat (len + 1)))), (.int i7)]) := by
          intro t k
          refine k143 _ ?_
          skip
          refine XS.iloadN X143.here hx rfl (hb hby dp23_m9_162) rfl ?_
          refine XS.isub X143.here hx rfl (hb hby dp23_m9_163) rfl ?_
          exact k
        by_cases heq : i7 = ((Int32.ofNat li) - (Int32.ofNat (len + 1)))
        · have hq : nk + (len + 1) = li := by have q := congrArg Int32.toInt heq; rw [own_subT (by omega) (by omega), hi, own_tN (by omega)] at q; omega
          have k145 : Goes p e below s₁ F0 T143 (mkF m 175 #[rv a, iv ch, iv (Int32.ofNat (len + 1)), iv (Int32.ofNat ((len + 1) * (2 * li + 1))), iv (Int32.ofNat ((len + 1) * (2 * li + 1) - (2 * li + 1))), iv (Int32.ofNat (li - (len + 1))), iv to, iv i7, z8, z9] [(.ref a)]) := by
            intro t k
            refine k144 _ ?_
            skip
            refine XS.icmpNo X143.here hx rfl (hb hby dp23_m9_164) rfl (teq heq).2 ?_
            refine XS.iload X143.here hx rfl (hb hby dp23_m9_167) rfl ?_
            refine XS.iload X143.here hx rfl (hb hby dp23_m9_169) rfl ?_
            refine XS.icmpNo X143.here hx rfl (hb hby dp23_m9_171) rfl (flt (by rw [Int32.lt_iff_toInt_lt, hto, hi, own_tN (by omega)]; omega)).2.2.1 ?_
            refine XS.aloadN X143.here hx rfl (hb hby dp23_m9_174) rfl rfl ?_
            exact k
          obtain ⟨T146, X146, e146, st146⟩ := getF X143 hx hZ hown (host := "") (Or.inl (own_q hw 55 rfl)) Via.refl e143 Df141_4 (g := (mkF m 175 #[rv a, iv ch, iv (Int32.ofNat (len + 1)), iv (Int32.ofNat ((len + 1) * (2 * li + 1))), iv (Int32.ofNat ((len + 1) * (2 * li + 1) - (2 * li + 1))), iv (Int32.ofNat (li - (len + 1))), iv to, iv i7, z8, z9] [(.ref a)])) rfl rfl (hb hby dp23_m9_175)
          have k146 : Goes p e below s₁ F0 T146 (mkF m 178 #[rv a, iv ch, iv (Int32.ofNat (len + 1)), iv (Int32.ofNat ((len + 1) * (2 * li + 1))), iv (Int32.ofNat ((len + 1) * (2 * li + 1) - (2 * li + 1))), iv (Int32.ofNat (li - (len + 1))), iv to, iv i7, z8, z9] [(.ref bA)]) := fun t k => k145 t (st146 _ k)
          have k147 : Goes p e below s₁ F0 T146 (mkF m 182 #[rv a, iv ch, iv (Int32.ofNat (len + 1)), iv (Int32.ofNat ((len + 1) * (2 * li + 1))), iv (Int32.ofNat ((len + 1) * (2 * li + 1) - (2 * li + 1))), iv (Int32.ofNat (li - (len + 1))), iv to, iv i7, z8, z9] [(.int ((Int32.ofNat ((len + 1) * (2 * li + 1))) + i7)), (.ref bA)]) := by
            intro t k
            refine k146 _ ?_
            skip
            refine XS.iloadN X146.here hx rfl (hb hby dp23_m9_178) rfl ?_
            refine XS.iload X146.here hx rfl (hb hby dp23_m9_179) rfl ?_
            refine XS.iadd X146.here hx rfl (hb hby dp23_m9_181) rfl ?_
            exact k
          rw [show ((Int32.ofNat ((len + 1) * (2 * li + 1))) + i7) = (Int32.ofNat ((len + 1) * (2 * li + 1) + nk)) from by rw [hi]; exact own_addN (by omega)] at k147
          have k148 : Goes p e below s₁ F0 T146 (mkF m 183 #[rv a, iv ch, iv (Int32.ofNat (len + 1)), iv (Int32.ofNat ((len + 1) * (2 * li + 1))), iv (Int32.ofNat ((len + 1) * (2 * li + 1) - (2 * li + 1))), iv (Int32.ofNat (li - (len + 1))), iv to, iv i7, z8, z9] [(.int (Int32.ofNat (len + 1))), (.int (Int32.ofNat ((len + 1) * (2 * li + 1) + nk))), (.ref bA)]) := by
            intro t k
            refine k147 _ ?_
            skip
            refine XS.iloadN X146.here hx rfl (hb hby dp23_m9_182) rfl ?_
            exact k
          have hval : (own_valN li (len + 1) chs.length eqa eqb (own_fillN li (len + 1) chs.length eqa eqb nk bD) nk) = (len + 1) := by rw [own_valN, if_neg (by omega), if_pos (by omega)]
          rw [show [(Value.int (Int32.ofNat (len + 1))), (Value.int (Int32.ofNat ((len + 1) * (2 * li + 1) + nk))), (Value.ref bA)] = [(.int (Int32.ofNat (own_valN li (len + 1) chs.length eqa eqb (own_fillN li (len + 1) chs.length eqa eqb nk bD) nk))), (.int (Int32.ofNat ((len + 1) * (2 * li + 1) + nk))), (.ref bA)] by rw [hval]] at k148
          have hin := own_inb (x := (len + 1) * (2 * li + 1) + nk) (n := (own_fillN li (len + 1) chs.length eqa eqb nk bD).length) (by rw [hlb]; omega) (by rw [hlb]; omega)
          obtain ⟨cl149, Ar149, qk149, Sz149, Nn149, Hs149, Gs149⟩ := id Vb141
          obtain ⟨T150, h150, X150, e150, W150, st150⟩ := stI X146 hx hZ e146 Ar149 (j := (Int32.ofNat ((len + 1) * (2 * li + 1) + nk))) (inb_of Sz149 hin) (g := (mkF m 183 #[rv a, iv ch, iv (Int32.ofNat (len + 1)), iv (Int32.ofNat ((len + 1) * (2 * li + 1))), iv (Int32.ofNat ((len + 1) * (2 * li + 1) - (2 * li + 1))), iv (Int32.ofNat (li - (len + 1))), iv to, iv i7, z8, z9] [(.int (Int32.ofNat (own_valN li (len + 1) chs.length eqa eqb (own_fillN li (len + 1) chs.length eqa eqb nk bD) nk))), (.int (Int32.ofNat ((len + 1) * (2 * li + 1) + nk))), (.ref bA)])) rfl rfl (hb hby dp23_m9_183)
          have N150 := Fr.snoc X150 NL gbA
          have D150 := own_ED.wrBand hw Dt (n := (own_valN li (len + 1) chs.length eqa eqb (own_fillN li (len + 1) chs.length eqa eqb nk bD) nk)) (own_clampN (by omega)) (by rw [hlb]; omega) W150
          have k150 : Goes p e below s₁ F0 T150 (mkF m 184 #[rv a, iv ch, iv (Int32.ofNat (len + 1)), iv (Int32.ofNat ((len + 1) * (2 * li + 1))), iv (Int32.ofNat ((len + 1) * (2 * li + 1) - (2 * li + 1))), iv (Int32.ofNat (li - (len + 1))), iv to, iv i7, z8, z9] []) := fun t k => k148 t (st150 _ k)
          have Z151 : n0 ≤ h150.size := Nat.le_trans Zt (Keep.of_wr W150).1
          have kp152 : Keep h0 h150 [a, ba, ta] := (Kt.wr W150 hbA)
          have od153 : Old Z n0 h150 := (Ot.wr W150 gbA)
          have k154 : Goes p e below s₁ F0 T150 (mkF m 187 #[rv a, iv ch, iv (Int32.ofNat (len + 1)), iv (Int32.ofNat ((len + 1) * (2 * li + 1))), iv (Int32.ofNat ((len + 1) * (2 * li + 1) - (2 * li + 1))), iv (Int32.ofNat (li - (len + 1))), iv to, iv (i7 + (1 : Int32)), z8, z9] []) := by
            intro t k
            refine k150 _ ?_
            skip
            refine XS.iinc X150.here hx rfl (hb hby dp23_m9_184) rfl (l' := #[rv a, iv ch, iv (Int32.ofNat (len + 1)), iv (Int32.ofNat ((len + 1) * (2 * li + 1))), iv (Int32.ofNat ((len + 1) * (2 * li + 1) - (2 * li + 1))), iv (Int32.ofNat (li - (len + 1))), iv to, iv (i7 + (1 : Int32)), z8, z9]) rfl ?_
            exact k
          exact loop2 (2 * li + 1 - (nk + 1)) h150 T150 _ _ (nk + 1) _ _ hz8 hz9 (by rw [hi]; exact own_add1 nk) (by omega) (by omega) Z151 od153 kp152 D150 X150 N150 e150 k154
        · have hq : ¬ nk + (len + 1) = li := fun q => heq (by rw [hi]; exact (own_eqN (n := nk) (by omega) (by rw [own_subT (by omega) (by omega)]; omega)).symm)
          have k155 : Goes p e below s₁ F0 T143 (mkF m 187 #[rv a, iv ch, iv (Int32.ofNat (len + 1)), iv (Int32.ofNat ((len + 1) * (2 * li + 1))), iv (Int32.ofNat ((len + 1) * (2 * li + 1) - (2 * li + 1))), iv (Int32.ofNat (li - (len + 1))), iv to, iv i7, z8, z9] []) := by
            intro t k
            refine k144 _ ?_
            skip
            refine XS.icmpYes X143.here hx rfl (pc0 := 164) (pc' := 187) rfl (hb hby dp23_m9_164) rfl (feq heq).2 (by decide) (by decide) ?_
            exact k
          exact loop2 (2 * li + 1 - nk) hh T143 _ _ nk _ _ hz8 hz9 hi (by omega) (by omega) Zt Ot Kt Dt X143 NL e143 k155
      | succ kk ih =>
        intro hh T lo i7 nk z8 z9 hz8 hz9 hi hk _hT Zt Ot Kt Dt X NL eT kT
        have hlb : (own_fillN li (len + 1) chs.length eqa eqb nk bD).length = bD.length := own_fill_len _ _ _ _ _ _ _
        obtain ⟨De156, Df156_0, Df156_1, Df156_2, Df156_3, Df156_4, Df156_5, Df156_6, Vb156, Vt156, Sr156⟩ := id Dt
        have k157 : Goes p e below s₁ F0 T (mkF m 138 #[rv a, iv ch, iv (Int32.ofNat (len + 1)), iv (Int32.ofNat ((len + 1) * (2 * li + 1))), iv (Int32.ofNat ((len + 1) * (2 * li + 1) - (2 * li + 1))), iv (Int32.ofNat (li - (len + 1))), iv to, iv i7, z8, z9] [(.ref a)]) := by
          intro t k
          refine kT _ ?_
          skip
          refine XS.iload X.here hx rfl (hb hby dp23_m9_130) rfl ?_
          refine XS.iload X.here hx rfl (hb hby dp23_m9_132) rfl ?_
          refine XS.icmpNo X.here hx rfl (hb hby dp23_m9_134) rfl (tlt (by rw [hi, own_ltN (by omega) (by omega)]; omega)).2.1 ?_
          refine XS.aloadN X.here hx rfl (hb hby dp23_m9_137) rfl rfl ?_
          exact k
        obtain ⟨T158, X158, e158, st158⟩ := getF X hx hZ hown (host := "") (Or.inl (own_q hw 55 rfl)) Via.refl eT Df156_4 (g := (mkF m 138 #[rv a, iv ch, iv (Int32.ofNat (len + 1)), iv (Int32.ofNat ((len + 1) * (2 * li + 1))), iv (Int32.ofNat ((len + 1) * (2 * li + 1) - (2 * li + 1))), iv (Int32.ofNat (li - (len + 1))), iv to, iv i7, z8, z9] [(.ref a)])) rfl rfl (hb hby dp23_m9_138)
        have k158 : Goes p e below s₁ F0 T158 (mkF m 141 #[rv a, iv ch, iv (Int32.ofNat (len + 1)), iv (Int32.ofNat ((len + 1) * (2 * li + 1))), iv (Int32.ofNat ((len + 1) * (2 * li + 1) - (2 * li + 1))), iv (Int32.ofNat (li - (len + 1))), iv to, iv i7, z8, z9] [(.ref bA)]) := fun t k => k157 t (st158 _ k)
        have k159 : Goes p e below s₁ F0 T158 (mkF m 145 #[rv a, iv ch, iv (Int32.ofNat (len + 1)), iv (Int32.ofNat ((len + 1) * (2 * li + 1))), iv (Int32.ofNat ((len + 1) * (2 * li + 1) - (2 * li + 1))), iv (Int32.ofNat (li - (len + 1))), iv to, iv i7, z8, z9] [(.int ((Int32.ofNat ((len + 1) * (2 * li + 1))) + i7)), (.ref bA)]) := by
          intro t k
          refine k158 _ ?_
          skip
          refine XS.iloadN X158.here hx rfl (hb hby dp23_m9_141) rfl ?_
          refine XS.iload X158.here hx rfl (hb hby dp23_m9_142) rfl ?_
          refine XS.iadd X158.here hx rfl (hb hby dp23_m9_144) rfl ?_
          exact k
        rw [show ((Int32.ofNat ((len + 1) * (2 * li + 1))) + i7) = (Int32.ofNat ((len + 1) * (2 * li + 1) + nk)) from by rw [hi]; exact own_addN (by omega)] at k159
        have k160 : Goes p e below s₁ F0 T158 (mkF m 146 #[rv a, iv ch, iv (Int32.ofNat (len + 1)), iv (Int32.ofNat ((len + 1) * (2 * li + 1))), iv (Int32.ofNat ((len + 1) * (2 * li + 1) - (2 * li + 1))), iv (Int32.ofNat (li - (len + 1))), iv to, iv i7, z8, z9] [(.ref a), (.int (Int32.ofNat ((len + 1) * (2 * li + 1) + nk))), (.ref bA)]) := by
          intro t k
          refine k159 _ ?_
          skip
          refine XS.aloadN X158.here hx rfl (hb hby dp23_m9_145) rfl rfl ?_
          exact k
        obtain ⟨T161, X161, e161, st161⟩ := getF X158 hx hZ hown (host := "") (Or.inl (own_q hw 38 rfl)) Via.refl e158 Df156_2 (g := (mkF m 146 #[rv a, iv ch, iv (Int32.ofNat (len + 1)), iv (Int32.ofNat ((len + 1) * (2 * li + 1))), iv (Int32.ofNat ((len + 1) * (2 * li + 1) - (2 * li + 1))), iv (Int32.ofNat (li - (len + 1))), iv to, iv i7, z8, z9] [(.ref a), (.int (Int32.ofNat ((len + 1) * (2 * li + 1) + nk))), (.ref bA)])) rfl rfl (hb hby dp23_m9_146)
        have k161 : Goes p e below s₁ F0 T161 (mkF m 149 #[rv a, iv ch, iv (Int32.ofNat (len + 1)), iv (Int32.ofNat ((len + 1) * (2 * li + 1))), iv (Int32.ofNat ((len + 1) * (2 * li + 1) - (2 * li + 1))), iv (Int32.ofNat (li - (len + 1))), iv to, iv i7, z8, z9] [(.int (Int32.ofNat (li + 1))), (.int (Int32.ofNat ((len + 1) * (2 * li + 1) + nk))), (.ref bA)]) := fun t k => k160 t (st161 _ k)
        have hval : (own_valN li (len + 1) chs.length eqa eqb (own_fillN li (len + 1) chs.length eqa eqb nk bD) nk) = (li + 1) := by rw [own_valN, if_pos (by omega)]
        rw [show [(Value.int (Int32.ofNat (li + 1))), (Value.int (Int32.ofNat ((len + 1) * (2 * li + 1) + nk))), (Value.ref bA)] = [(.int (Int32.ofNat (own_valN li (len + 1) chs.length eqa eqb (own_fillN li (len + 1) chs.length eqa eqb nk bD) nk))), (.int (Int32.ofNat ((len + 1) * (2 * li + 1) + nk))), (.ref bA)] by rw [hval]] at k161
        have hin := own_inb (x := (len + 1) * (2 * li + 1) + nk) (n := (own_fillN li (len + 1) chs.length eqa eqb nk bD).length) (by rw [hlb]; omega) (by rw [hlb]; omega)
        obtain ⟨cl162, Ar162, qk162, Sz162, Nn162, Hs162, Gs162⟩ := id Vb156
        obtain ⟨T163, h163, X163, e163, W163, st163⟩ := stI X161 hx hZ e161 Ar162 (j := (Int32.ofNat ((len + 1) * (2 * li + 1) + nk))) (inb_of Sz162 hin) (g := (mkF m 149 #[rv a, iv ch, iv (Int32.ofNat (len + 1)), iv (Int32.ofNat ((len + 1) * (2 * li + 1))), iv (Int32.ofNat ((len + 1) * (2 * li + 1) - (2 * li + 1))), iv (Int32.ofNat (li - (len + 1))), iv to, iv i7, z8, z9] [(.int (Int32.ofNat (own_valN li (len + 1) chs.length eqa eqb (own_fillN li (len + 1) chs.length eqa eqb nk bD) nk))), (.int (Int32.ofNat ((len + 1) * (2 * li + 1) + nk))), (.ref bA)])) rfl rfl (hb hby dp23_m9_149)
        have N163 := Fr.snoc X163 NL gbA
        have D163 := own_ED.wrBand hw Dt (n := (own_valN li (len + 1) chs.length eqa eqb (own_fillN li (len + 1) chs.length eqa eqb nk bD) nk)) (own_clampN (by omega)) (by rw [hlb]; omega) W163
        have k163 : Goes p e below s₁ F0 T163 (mkF m 150 #[rv a, iv ch, iv (Int32.ofNat (len + 1)), iv (Int32.ofNat ((len + 1) * (2 * li + 1))), iv (Int32.ofNat ((len + 1) * (2 * li + 1) - (2 * li + 1))), iv (Int32.ofNat (li - (len + 1))), iv to, iv i7, z8, z9] []) := fun t k => k161 t (st163 _ k)
        have Z164 : n0 ≤ h163.size := Nat.le_trans Zt (Keep.of_wr W163).1
        have kp165 : Keep h0 h163 [a, ba, ta] := (Kt.wr W163 hbA)
        have od166 : Old Z n0 h163 := (Ot.wr W163 gbA)
        have k167 : Goes p e below s₁ F0 T163 (mkF m 130 #[rv a, iv ch, iv (Int32.ofNat (len + 1)), iv (Int32.ofNat ((len + 1) * (2 * li + 1))), iv (Int32.ofNat ((len + 1) * (2 * li + 1) - (2 * li + 1))), iv (Int32.ofNat (li - (len + 1))), iv to, iv (i7 + (1 : Int32)), z8, z9] []) := by
          intro t k
          refine k163 _ ?_
          skip
          refine XS.iinc X163.here hx rfl (hb hby dp23_m9_150) rfl (l' := #[rv a, iv ch, iv (Int32.ofNat (len + 1)), iv (Int32.ofNat ((len + 1) * (2 * li + 1))), iv (Int32.ofNat ((len + 1) * (2 * li + 1) - (2 * li + 1))), iv (Int32.ofNat (li - (len + 1))), iv to, iv (i7 + (1 : Int32)), z8, z9]) rfl ?_
          refine XS.goto X163.here hx rfl (pc0 := 153) (pc' := 130) rfl (hb hby dp23_m9_153) (by decide) (by decide) ?_
          exact k
        exact ih  h163 T163 _ _ (nk + 1) _ _ hz8 hz9 (by rw [hi]; exact own_add1 nk) (by omega) trivial Z164 od166 kp165 D163 X163 N163 e163 k167
    exact loop1 (li - (len + 1)) h12 T37 _ _ 0 _ _ One.u One.u rfl (by omega) trivial Z13 O0 K0 D2 X37 N37 e37 k38
  obtain ⟨De168, Df168_0, Df168_1, Df168_2, Df168_3, Df168_4, Df168_5, Df168_6, Vb168, Vt168, Sr168⟩ := id DD
  have ne_a_ba : a ≠ ba := De168.neArv Vb168 (own_q hw 28 rfl)
  have ne_a_ta : a ≠ ta := De168.neArv Vt168 (own_q hw 28 rfl)
  have k169 : Goes p e below s₁ F0 s₁ (mkF m 1 #[rv a, iv ch, .unset, .unset, .unset, .unset, .unset, .unset, .unset, .unset] [(.ref a)]) := by
    intro t k
    refine k0 _ ?_
    skip
    refine XS.aloadN X0.here hx rfl (hb hby dp23_m9_0) rfl rfl ?_
    exact k
  obtain ⟨T170, X170, e170, st170⟩ := getF X0 hx hZ hown (host := "") (Or.inl (own_q hw 62 rfl)) Via.refl e0 Df168_6 (g := (mkF m 1 #[rv a, iv ch, .unset, .unset, .unset, .unset, .unset, .unset, .unset, .unset] [(.ref a)])) rfl rfl (hb hby dp23_m9_1)
  have k170 : Goes p e below s₁ F0 T170 (mkF m 4 #[rv a, iv ch, .unset, .unset, .unset, .unset, .unset, .unset, .unset, .unset] [(.int (Int32.ofNat len))]) := fun t k => k169 t (st170 _ k)
  have k171 : Goes p e below s₁ F0 T170 (mkF m 5 #[rv a, iv ch, .unset, .unset, .unset, .unset, .unset, .unset, .unset, .unset] [(.ref a), (.int (Int32.ofNat len))]) := by
    intro t k
    refine k170 _ ?_
    skip
    refine XS.aloadN X170.here hx rfl (hb hby dp23_m9_4) rfl rfl ?_
    exact k
  obtain ⟨T172, X172, e172, st172⟩ := getF X170 hx hZ hown (host := "") (Or.inl (own_q hw 53 rfl)) Via.refl e170 Df168_5 (g := (mkF m 5 #[rv a, iv ch, .unset, .unset, .unset, .unset, .unset, .unset, .unset, .unset] [(.ref a), (.int (Int32.ofNat len))])) rfl rfl (hb hby dp23_m9_5)
  have k172 : Goes p e below s₁ F0 T172 (mkF m 8 #[rv a, iv ch, .unset, .unset, .unset, .unset, .unset, .unset, .unset, .unset] [(.ref ta), (.int (Int32.ofNat len))]) := fun t k => k171 t (st172 _ k)
  obtain ⟨cl173, Ar173, qk173, Sz173, Nn173, Hs173, Gs173⟩ := id Vt168
  have k174 : Goes p e below s₁ F0 T172 (mkF m 9 #[rv a, iv ch, .unset, .unset, .unset, .unset, .unset, .unset, .unset, .unset] [(.int (Int32.ofNat ty.length)), (.int (Int32.ofNat len))]) := by
    intro t k
    refine k172 _ ?_
    skip
    refine X172.arraylength hx (by rw [e172]; exact Ar173.1) (State.isArrayOf_alike hZ.alike Ar173.2.1) (g := (mkF m 8 #[rv a, iv ch, .unset, .unset, .unset, .unset, .unset, .unset, .unset, .unset] [(.ref ta), (.int (Int32.ofNat len))])) rfl rfl (hb hby dp23_m9_8) _ ?_
    rw [len_of Sz173 Nn173]
    exact k
  by_cases hg : (Int32.ofNat len) = (Int32.ofNat ty.length)
  · have hnl : len = ty.length := by have q := congrArg Int32.toInt hg; rw [own_tN (by omega), own_tN (by omega)] at q; omega
    have k175 : Goes p e below s₁ F0 T172 (mkF m 14 #[rv a, iv ch, .unset, .unset, .unset, .unset, .unset, .unset, .unset, .unset] [(.ref a), (.ref a)]) := by
      intro t k
      refine k174 _ ?_
      skip
      refine XS.icmpNo X172.here hx rfl (hb hby dp23_m9_9) rfl (teq hg).2 ?_
      refine XS.aloadN X172.here hx rfl (hb hby dp23_m9_12) rfl rfl ?_
      refine XS.aloadN X172.here hx rfl (hb hby dp23_m9_13) rfl rfl ?_
      exact k
    obtain ⟨T176, X176, e176, st176⟩ := getF X172 hx hZ hown (host := "") (Or.inl (own_q hw 53 rfl)) Via.refl e172 Df168_5 (g := (mkF m 14 #[rv a, iv ch, .unset, .unset, .unset, .unset, .unset, .unset, .unset, .unset] [(.ref a), (.ref a)])) rfl rfl (hb hby dp23_m9_14)
    have k176 : Goes p e below s₁ F0 T176 (mkF m 17 #[rv a, iv ch, .unset, .unset, .unset, .unset, .unset, .unset, .unset, .unset] [(.ref ta), (.ref a)]) := fun t k => k175 t (st176 _ k)
    have k177 : Goes p e below s₁ F0 T176 (mkF m 18 #[rv a, iv ch, .unset, .unset, .unset, .unset, .unset, .unset, .unset, .unset] [(.ref a), (.ref ta), (.ref a)]) := by
      intro t k
      refine k176 _ ?_
      skip
      refine XS.aloadN X176.here hx rfl (hb hby dp23_m9_17) rfl rfl ?_
      exact k
    obtain ⟨T178, X178, e178, st178⟩ := getF X176 hx hZ hown (host := "") (Or.inl (own_q hw 53 rfl)) Via.refl e176 Df168_5 (g := (mkF m 18 #[rv a, iv ch, .unset, .unset, .unset, .unset, .unset, .unset, .unset, .unset] [(.ref a), (.ref ta), (.ref a)])) rfl rfl (hb hby dp23_m9_18)
    have k178 : Goes p e below s₁ F0 T178 (mkF m 21 #[rv a, iv ch, .unset, .unset, .unset, .unset, .unset, .unset, .unset, .unset] [(.ref ta), (.ref ta), (.ref a)]) := fun t k => k177 t (st178 _ k)
    obtain ⟨cl179, Ar179, qk179, Sz179, Nn179, Hs179, Gs179⟩ := id Vt168
    have k180 : Goes p e below s₁ F0 T178 (mkF m 24 #[rv a, iv ch, .unset, .unset, .unset, .unset, .unset, .unset, .unset, .unset] [(.int ((Int32.ofNat ty.length) * (2 : Int32))), (.ref ta), (.ref a)]) := by
      intro t k
      refine k178 _ ?_
      skip
      refine X178.arraylength hx (by rw [e178]; exact Ar179.1) (State.isArrayOf_alike hZ.alike Ar179.2.1) (g := (mkF m 21 #[rv a, iv ch, .unset, .unset, .unset, .unset, .unset, .unset, .unset, .unset] [(.ref ta), (.ref ta), (.ref a)])) rfl rfl (hb hby dp23_m9_21) _ ?_
      rw [len_of Sz179 Nn179]
      refine XS.iconst X178.here hx rfl (hb hby dp23_m9_22) ?_
      refine XS.imul X178.here hx rfl (hb hby dp23_m9_23) rfl ?_
      exact k
    rw [show ((Int32.ofNat ty.length) * (2 : Int32)) = (Int32.ofNat (ty.length * 2)) from own_mulN (b := 2) (by omega) (by omega) (by omega)] at k180
    obtain ⟨_, _, ⟨T181, L181, ck181, nk181⟩, -, X181, ⟨Lc181, hQ181, l181, y181, z181⟩, st181⟩ := Jvm.LawKit.callS X178 hx (y := (⟨"java/util/Arrays", "copyOf", "([CI)[C"⟩ : MethodName)) hown (mvT hZ (own_q hw 130 rfl)) (mvT hZ (own_q hw 131 rfl)) (mvT hZ (own_q hw 132 rfl)) (mvT hZ (own_q hw 133 rfl)) (by decide) (backOf (W := 1) (rmCpC l Z a0 hw [] ta (ty.length * 2) kt ty h0 n0 Z0 Vt168 (by omega) (by omega)) hZ (own_q hw 133 rfl) (own_q hw 132 rfl) (by decide) (by decide)) (g := (mkF m 24 #[rv a, iv ch, .unset, .unset, .unset, .unset, .unset, .unset, .unset, .unset] [(.int (Int32.ofNat (ty.length * 2))), (.ref ta), (.ref a)])) rfl (by rw [hml]; rfl) (argsL := [(.ref ta), (.int (Int32.ofNat (ty.length * 2)))]) (rest := [(.ref a)]) (lenOf pd_3 rfl) rfl (by show 2 * 0 + _ ≤ _; exact Nat.le_of_eq rfl) (hb hby dp23_m9_24) (fun _ _ => ⟨rfl, e178, (by decide : 0 + 1 ≤ _), (by decide : 0 + 4 ≤ _)⟩)
    dsimp only [Pt.U, Pt.locs, Pt.cells, Pt.slots] at X181 l181 y181 z181 st181 hQ181
    subst l181 y181 z181
    obtain ⟨b181, kb181, rfl, N181q, K181, sz181, gb181, V181⟩ := hQ181
    have N181 := Fr.app N0 N181q
    have k181 : Goes p e below s₁ F0 T181 (mkF m 27 #[rv a, iv ch, .unset, .unset, .unset, .unset, .unset, .unset, .unset, .unset] [(.ref b181), (.ref a)]) := fun t k => k180 t (st181 _ k)
    have Z182 : n0 ≤ T181.heap.size := Nat.le_trans Z0 K181.1
    have s1_ : h0.size ≤ b181 := Nat.le_trans (Keep.refl h0 [a, ba, ta]).1 sz181
    have ne1_ : a ≠ b181 := Nat.ne_of_lt (Nat.lt_of_lt_of_le De168.lt s1_)
    have f183 := (Sr168.keep0 K181)
    have f184 := (De168.keep K181)
    have f186 := (Df168_5.keep K181 nin0)
    obtain ⟨T185, h185, X185, e185, W185, st185⟩ := putF X181 hx hZ hown (host := "") (Or.inl (own_q hw 53 rfl)) Via.refl rfl f186 f184 (Or.inl (own_q hw 54 rfl)) (own_q hw 28 rfl) (ty := (.array .char)) (by decide) rfl rfl (g := (mkF m 27 #[rv a, iv ch, .unset, .unset, .unset, .unset, .unset, .unset, .unset, .unset] [(.ref b181), (.ref a)])) rfl rfl (hb hby dp23_m9_27)
    have N185 := Fr.snoc X185 N181 ga
    have Fw185 := f186.same W185
    have k185 : Goes p e below s₁ F0 T185 (mkF m 30 #[rv a, iv ch, .unset, .unset, .unset, .unset, .unset, .unset, .unset, .unset] []) := fun t k => k181 t (st185 _ k)
    have Z187 : n0 ≤ h185.size := Nat.le_trans Z182 (Keep.of_wr W185).1
    have Ts188 := own_Str.wr f183 W185 (ne_exa (own_Str.exa f183) f184 (by decide)) (fun A => (Exa.neArv f184 A (own_q hw 28 rfl)).symm)
    have k189 : Goes p e below s₁ F0 T185 (mkF m 32 #[rv a, iv ch, .unset, .unset, .unset, .unset, .unset, .unset, .unset, .unset] [(.ref a), (.ref a)]) := by
      intro t k
      refine k185 _ ?_
      skip
      refine XS.aloadN X185.here hx rfl (hb hby dp23_m9_30) rfl rfl ?_
      refine XS.aloadN X185.here hx rfl (hb hby dp23_m9_31) rfl rfl ?_
      exact k
    have f191 := ((Df168_4.keep K181 nin0).other W185 (Or.inr (slot_ne (Or.inl (own_q hw 56 rfl)) (Or.inl (own_q hw 54 rfl)) (by decide) (t := (.array .int)) (t' := (.array .char)) (by decide) (by decide))))
    obtain ⟨T190, X190, e190, st190⟩ := getF X185 hx hZ hown (host := "") (Or.inl (own_q hw 55 rfl)) Via.refl e185 f191 (g := (mkF m 32 #[rv a, iv ch, .unset, .unset, .unset, .unset, .unset, .unset, .unset, .unset] [(.ref a), (.ref a)])) rfl rfl (hb hby dp23_m9_32)
    have k190 : Goes p e below s₁ F0 T190 (mkF m 35 #[rv a, iv ch, .unset, .unset, .unset, .unset, .unset, .unset, .unset, .unset] [(.ref ba), (.ref a)]) := fun t k => k189 t (st190 _ k)
    have k192 : Goes p e below s₁ F0 T190 (mkF m 36 #[rv a, iv ch, .unset, .unset, .unset, .unset, .unset, .unset, .unset, .unset] [(.ref a), (.ref ba), (.ref a)]) := by
      intro t k
      refine k190 _ ?_
      skip
      refine XS.aloadN X190.here hx rfl (hb hby dp23_m9_35) rfl rfl ?_
      exact k
    obtain ⟨T193, X193, e193, st193⟩ := getF X190 hx hZ hown (host := "") (Or.inl (own_q hw 53 rfl)) Via.refl e190 Fw185 (g := (mkF m 36 #[rv a, iv ch, .unset, .unset, .unset, .unset, .unset, .unset, .unset, .unset] [(.ref a), (.ref ba), (.ref a)])) rfl rfl (hb hby dp23_m9_36)
    have k193 : Goes p e below s₁ F0 T193 (mkF m 39 #[rv a, iv ch, .unset, .unset, .unset, .unset, .unset, .unset, .unset, .unset] [(.ref b181), (.ref ba), (.ref a)]) := fun t k => k192 t (st193 _ k)
    have f194 := (V181.other W185 ne1_.symm)
    obtain ⟨cl195, Ar195, qk195, Sz195, Nn195, Hs195, Gs195⟩ := id f194
    have k196 : Goes p e below s₁ F0 T193 (mkF m 42 #[rv a, iv ch, .unset, .unset, .unset, .unset, .unset, .unset, .unset, .unset] [(.int ((Int32.ofNat (ty.length * 2)) + (1 : Int32))), (.ref ba), (.ref a)]) := by
      intro t k
      refine k193 _ ?_
      skip
      refine X193.arraylength hx (by rw [e193]; exact Ar195.1) (State.isArrayOf_alike hZ.alike Ar195.2.1) (g := (mkF m 39 #[rv a, iv ch, .unset, .unset, .unset, .unset, .unset, .unset, .unset, .unset] [(.ref b181), (.ref ba), (.ref a)])) rfl rfl (hb hby dp23_m9_39) _ ?_
      rw [len_of Sz195 Nn195]
      refine XS.iconst X193.here hx rfl (hb hby dp23_m9_40) ?_
      refine XS.iadd X193.here hx rfl (hb hby dp23_m9_41) rfl ?_
      exact k
    rw [show ((Int32.ofNat (ty.length * 2)) + (1 : Int32)) = (Int32.ofNat (ty.length * 2 + 1)) from own_add1 _] at k196
    have k197 : Goes p e below s₁ F0 T193 (mkF m 43 #[rv a, iv ch, .unset, .unset, .unset, .unset, .unset, .unset, .unset, .unset] [(.ref a), (.int (Int32.ofNat (ty.length * 2 + 1))), (.ref ba), (.ref a)]) := by
      intro t k
      refine k196 _ ?_
      skip
      refine XS.aloadN X193.here hx rfl (hb hby dp23_m9_42) rfl rfl ?_
      exact k
    have f199 := ((Df168_3.keep K181 nin0).other W185 (Or.inr (slot_ne (Or.inr (own_q hw 41 rfl)) (Or.inl (own_q hw 54 rfl)) (by decide) (t := .int) (t' := (.array .char)) (by decide) (by decide))))
    obtain ⟨T198, X198, e198, st198⟩ := getF X193 hx hZ hown (host := "") (Or.inl (own_q hw 40 rfl)) Via.refl e193 f199 (g := (mkF m 43 #[rv a, iv ch, .unset, .unset, .unset, .unset, .unset, .unset, .unset, .unset] [(.ref a), (.int (Int32.ofNat (ty.length * 2 + 1))), (.ref ba), (.ref a)])) rfl rfl (hb hby dp23_m9_43)
    have k198 : Goes p e below s₁ F0 T198 (mkF m 46 #[rv a, iv ch, .unset, .unset, .unset, .unset, .unset, .unset, .unset, .unset] [(.int (Int32.ofNat (2 * li + 1))), (.int (Int32.ofNat (ty.length * 2 + 1))), (.ref ba), (.ref a)]) := fun t k => k197 t (st198 _ k)
    have hM : (ty.length * 2 + 1) * (2 * li + 1) ≤ 5 * 7 := Nat.mul_le_mul (by omega) (by omega)
    have k200 : Goes p e below s₁ F0 T198 (mkF m 47 #[rv a, iv ch, .unset, .unset, .unset, .unset, .unset, .unset, .unset, .unset] [(.int ((Int32.ofNat (ty.length * 2 + 1)) * (Int32.ofNat (2 * li + 1)))), (.ref ba), (.ref a)]) := by
      intro t k
      refine k198 _ ?_
      skip
      refine XS.imul X198.here hx rfl (hb hby dp23_m9_46) rfl ?_
      exact k
    rw [show ((Int32.ofNat (ty.length * 2 + 1)) * (Int32.ofNat (2 * li + 1))) = (Int32.ofNat ((ty.length * 2 + 1) * (2 * li + 1))) from own_mulN (by omega) (by omega) (by omega)] at k200
    have hM2 : bd.length < (ty.length * 2 + 1) * (2 * li + 1) := by rw [hbl]; exact Nat.mul_lt_mul_of_pos_right (by omega) (by omega)
    have kp201 : Keep h0 h185 [a, ba, ta] := (((Keep.refl h0 [a, ba, ta]).trans K181 all0).wr W185 (Or.inl (List.mem_of_getElem? (i := 0) rfl)))
    have f202 := ((Vb168.keep K181 nin0).other W185 ne_a_ba.symm)
    obtain ⟨_, _, ⟨T203, L203, ck203, nk203⟩, -, X203, ⟨Lc203, hQ203, l203, y203, z203⟩, st203⟩ := Jvm.LawKit.callS X198 hx (y := (⟨"java/util/Arrays", "copyOf", "([II)[I"⟩ : MethodName)) hown (mvT hZ (own_q hw 139 rfl)) (mvT hZ (own_q hw 140 rfl)) (mvT hZ (own_q hw 132 rfl)) (mvT hZ (own_q hw 141 rfl)) (by decide) (backOf (W := 1) (rmCpI l Z a0 hw [] ba ((ty.length * 2 + 1) * (2 * li + 1)) kb bd h185 n0 Z187 f202 hM2 (by omega)) hZ (own_q hw 141 rfl) (own_q hw 132 rfl) (by decide) (by decide)) (g := (mkF m 47 #[rv a, iv ch, .unset, .unset, .unset, .unset, .unset, .unset, .unset, .unset] [(.int (Int32.ofNat ((ty.length * 2 + 1) * (2 * li + 1)))), (.ref ba), (.ref a)])) rfl (by rw [hml]; rfl) (argsL := [(.ref ba), (.int (Int32.ofNat ((ty.length * 2 + 1) * (2 * li + 1))))]) (rest := [(.ref a)]) (lenOf pd_4 rfl) rfl (by show 2 * 0 + _ ≤ _; exact Nat.le_of_eq rfl) (hb hby dp23_m9_47) (fun _ _ => ⟨rfl, e198, (by decide : 1 + 1 ≤ _), (by decide : 4 + 35 ≤ _)⟩)
    dsimp only [Pt.U, Pt.locs, Pt.cells, Pt.slots] at X203 l203 y203 z203 st203 hQ203
    subst l203 y203 z203
    obtain ⟨b203, kb203, rfl, N203q, K203, sz203, gb203, V203⟩ := hQ203
    have N203 := Fr.app N185 N203q
    have k203 : Goes p e below s₁ F0 T203 (mkF m 50 #[rv a, iv ch, .unset, .unset, .unset, .unset, .unset, .unset, .unset, .unset] [(.ref b203), (.ref a)]) := fun t k => k200 t (st203 _ k)
    have Z204 : n0 ≤ T203.heap.size := Nat.le_trans Z187 K203.1
    have s2_ : h0.size ≤ b203 := Nat.le_trans kp201.1 sz203
    have ne2_ : a ≠ b203 := Nat.ne_of_lt (Nat.lt_of_lt_of_le De168.lt s2_)
    have f205 := (Ts188.keep0 K203)
    have f206 := ((f184.wr W185).keep K203)
    have f208 := (f191.keep K203 nin0)
    obtain ⟨T207, h207, X207, e207, W207, st207⟩ := putF X203 hx hZ hown (host := "") (Or.inl (own_q hw 55 rfl)) Via.refl rfl f208 f206 (Or.inl (own_q hw 56 rfl)) (own_q hw 28 rfl) (ty := (.array .int)) (by decide) rfl rfl (g := (mkF m 50 #[rv a, iv ch, .unset, .unset, .unset, .unset, .unset, .unset, .unset, .unset] [(.ref b203), (.ref a)])) rfl rfl (hb hby dp23_m9_50)
    have N207 := Fr.snoc X207 N203 ga
    have Fw207 := f208.same W207
    have k207 : Goes p e below s₁ F0 T207 (mkF m 53 #[rv a, iv ch, .unset, .unset, .unset, .unset, .unset, .unset, .unset, .unset] []) := fun t k => k203 t (st207 _ k)
    have Z209 : n0 ≤ h207.size := Nat.le_trans Z204 (Keep.of_wr W207).1
    have Ts210 := own_Str.wr f205 W207 (ne_exa (own_Str.exa f205) f206 (by decide)) (fun A => (Exa.neArv f206 A (own_q hw 28 rfl)).symm)
    have f211 := ((((Df168_0.keep K181 nin0).other W185 (Or.inr (slot_ne (Or.inr (own_q hw 35 rfl)) (Or.inl (own_q hw 54 rfl)) (by decide) (t := (.object "java/lang/String")) (t' := (.array .char)) (by decide) (by decide)))).keep K203 nin0).other W207 (Or.inr (slot_ne (Or.inr (own_q hw 35 rfl)) (Or.inl (own_q hw 56 rfl)) (by decide) (t := (.object "java/lang/String")) (t' := (.array .int)) (by decide) (by decide))))
    have f212 := ((((Df168_1.keep K181 nin0).other W185 (Or.inr (slot_ne (Or.inr (own_q hw 37 rfl)) (Or.inl (own_q hw 54 rfl)) (by decide) (t := .int) (t' := (.array .char)) (by decide) (by decide)))).keep K203 nin0).other W207 (Or.inr (slot_ne (Or.inr (own_q hw 37 rfl)) (Or.inl (own_q hw 56 rfl)) (by decide) (t := .int) (t' := (.array .int)) (by decide) (by decide))))
    have f213 := ((((Df168_2.keep K181 nin0).other W185 (Or.inr (slot_ne (Or.inr (own_q hw 39 rfl)) (Or.inl (own_q hw 54 rfl)) (by decide) (t := .int) (t' := (.array .char)) (by decide) (by decide)))).keep K203 nin0).other W207 (Or.inr (slot_ne (Or.inr (own_q hw 39 rfl)) (Or.inl (own_q hw 56 rfl)) (by decide) (t := .int) (t' := (.array .int)) (by decide) (by decide))))
    have f214 := ((f199.keep K203 nin0).other W207 (Or.inr (slot_ne (Or.inr (own_q hw 41 rfl)) (Or.inl (own_q hw 56 rfl)) (by decide) (t := .int) (t' := (.array .int)) (by decide) (by decide))))
    have f215 := ((Fw185.keep K203 nin0).other W207 (Or.inr (slot_ne (Or.inl (own_q hw 54 rfl)) (Or.inl (own_q hw 56 rfl)) (by decide) (t := (.array .char)) (t' := (.array .int)) (by decide) (by decide))))
    have f216 := ((((Df168_6.keep K181 nin0).other W185 (Or.inr (slot_ne (Or.inl (own_q hw 63 rfl)) (Or.inl (own_q hw 54 rfl)) (by decide) (t := .int) (t' := (.array .char)) (by decide) (by decide)))).keep K203 nin0).other W207 (Or.inr (slot_ne (Or.inl (own_q hw 63 rfl)) (Or.inl (own_q hw 56 rfl)) (by decide) (t := .int) (t' := (.array .int)) (by decide) (by decide))))
    have f217 := (f206.wr W207)
    have f218 := (V203.other W207 ne2_.symm)
    have f219 := ((f194.keep K203 nin0).other W207 ne1_.symm)
    have kp220 : Keep h0 h207 [a, ba, ta] := ((kp201.trans K203 all0).wr W207 (Or.inl (List.mem_of_getElem? (i := 0) rfl)))
    have od221 : Old Z n0 h207 := ((((XO.keep K181 all0).wr W185 ga).keep K203 all0).wr W207 ga)
    have eb : bD = bd ++ List.replicate ((ty.length * 2 + 1) * (2 * li + 1) - bd.length) 0 := by rw [ebD, own_growB, if_pos hnl]
    have et : tY = ty ++ List.replicate (ty.length * 2 - ty.length) 0 := by rw [etY, own_growT, if_pos hnl]
    have elb : bD.length = (ty.length * 2 + 1) * (2 * li + 1) := by rw [eb, List.length_append, List.length_replicate]; omega
    have elt : tY.length = ty.length * 2 := by rw [et, List.length_append, List.length_replicate]; omega
    have D0 : own_ED Z h207 a r b203 b181 kb203 kb181 li chs bD tY len := by
      refine ⟨f217, f211 , f212 , f213 , f214 , Fw207 , f215 , f216, ?_, ?_, Ts210⟩
      · rw [elb, eb]; exact f218
      · rw [elt, et]; exact f219
    exact j53 T207 _ h207 b203 b181 _ _ (Or.inr s2_) (Or.inr s1_) gb203 gb181 Z209 od221 kp220 D0 (own_mono X207 (by decide) (by decide)) N207 e207 k207
  · have k222 : Goes p e below s₁ F0 T172 (mkF m 53 #[rv a, iv ch, .unset, .unset, .unset, .unset, .unset, .unset, .unset, .unset] []) := by
      intro t k
      refine k174 _ ?_
      skip
      refine XS.icmpYes X172.here hx rfl (pc0 := 9) (pc' := 53) rfl (hb hby dp23_m9_9) rfl (feq hg).2 (by decide) (by decide) ?_
      exact k
    have hnl : ¬ len = ty.length := fun q => hg (by rw [q])
    have eb : bD = bd := by rw [ebD, own_growB, if_neg hnl]
    have et : tY = ty := by rw [etY, own_growT, if_neg hnl]
    exact j53 T172 _ h0 ba ta kb kt (Or.inl (List.mem_of_getElem? (i := 1) rfl)) (Or.inl (List.mem_of_getElem? (i := 2) rfl)) gba gta Z0 XO (Keep.refl h0 _) (by rw [eb, et]; exact DD) (own_mono X172 (by decide) (by decide)) N0 e172 k222
theorem ef_Mk2 (m : MethodId) (x0 : Int32) (x1 : Int32) (x2 : Int32) (x3 : Int32) : entryFrame m #[(.int x0), (.int x1), (.int x2), (.int x3)] 4 = mkF m 0 #[iv x0, iv x1, iv x2, iv x3] [] := by first | (simp [entryFrame, mkF, argsToLocals, Value.category]; done) | rfl
def QMk2 (Z : State) (x0 : Int32) (x1 : Int32) (x2 : Int32) (cs : Int32) (h0 : Heap) (n0 : Nat) (v : Option Value) (h : Heap) (L : List Loc) : Prop := ∃ r, v = some (.ref r) ∧ Fr n0 L ∧ Keep h0 h [] ∧ own_Str Z h r [x0, x1]
set_option maxRecDepth 65536 in
set_option maxHeartbeats 40000000 in
theorem rmMk2 (l : Launch) (Z : State) (a0 : Array Value) (hw : ∀ d ∈ tables_1, d.before a0 Z = true) (ws : List Jvm.Cond) (x0 : Int32) (x1 : Int32) (x2 : Int32) (cs : Int32) (h0 : Heap) (n0 : Nat) (Z0 : n0 ≤ h0.size) (hx0 : ¬ x0 < (0 : Int32) ∧ ¬ (255 : Int32) < x0) (hx1 : ¬ x1 < (0 : Int32) ∧ ¬ (255 : Int32) < x1) (hx2 : ¬ x2 < (0 : Int32) ∧ ¬ (255 : Int32) < x2) (S1 : Sta Z Z.heap "java/lang/String" "COMPACT_STRINGS" "Z" (.int cs)) (hcs : ¬ cs = (0 : Int32)) (XO : Old Z n0 h0) :
    MetFree l (⟨"com/example/catchment/catchment/linkage/EditDistanceBeyondPinLaw", "str", "(ICCC)Ljava/lang/String;"⟩ : MethodName) (head1 (Jvm.Cond.code (⟨"com/example/catchment/catchment/linkage/EditDistanceBeyondPinLaw", "str", "(ICCC)Ljava/lang/String;"⟩ : MethodName) method_3_code 4 (some (.object "java/lang/String")) :: ws) ({ frames := 4, cells := 3, slots := 8, locals := 66 } : Room)) (fun A_ U => A_ = #[(.int (2 : Int32)), (.int x0), (.int x1), (.int x2)] ∧ Z.Warmed39 U.vm ∧ U.heap = h0) (fun _ _ _ _ _ => True) (fun _ U o U' => ∃ v L, o = .returned v ∧ QMk2 Z x0 x1 x2 cs h0 n0 v U'.heap L ∧ FrameEnd U o U' L ({ frames := 4, cells := 3, slots := 8, locals := 66 } : Room).cells ({ frames := 4, cells := 3, slots := 8, locals := 66 } : Room).slots) := by
  refine MetFree.of_bodySF (plainFor_of_name pn_0) hisR ?_
  intro p e s m args below meth c s₁ Bd hml0 hP hK
  obtain ⟨rfl, hZ, hh⟩ := hP
  have hx := Bd.exec
  have hby := Bd.bytes
  have hml : c.maxLocals = 4 := hml0
  have hown : s.vm.findClass "com/example/catchment/catchment/linkage/EditDistanceBeyondPinLaw" = some m.cls := findClass_of_methodNamed Bd.named
  have hnm := (name_of_methodNamed Bd.named Bd.method).1
  have X0 : Stand p l e ({ frames := 4, cells := 3, slots := 8, locals := 66 } : Room) s m #[(.int (2 : Int32)), (.int x0), (.int x1), (.int x2)] below meth c s₁ [] 0 0 := Stand.of_body Bd
  have e0 : s₁.heap = h0 := by rw [← hh, Bd.state]; rfl
  have N0 := Fr.nil n0
  obtain ⟨F0, eF0⟩ : ∃ f : JFrame, f = entryFrame m #[(.int (2 : Int32)), (.int x0), (.int x1), (.int x2)] 4 := ⟨_, rfl⟩
  have k0 : Goes p e below s₁ F0 s₁ (mkF m 0 #[iv (2 : Int32), iv x0, iv x1, iv x2] []) := fun t k => by subst eF0; exact castTop (ef_Mk2 m ((2 : Int32)) x0 x1 x2) k
  have k1 : Goes p e below s₁ F0 s₁ (mkF m 30 #[iv (2 : Int32), iv x0, iv x1, iv x2] []) := by
    intro t k
    refine k0 _ ?_
    skip
    refine XS.iloadN X0.here hx rfl (hb hby dm3_0) rfl ?_
    refine XS.ifYes X0.here hx rfl (pc0 := 1) (pc' := 15) rfl (hb hby dm3_1) rfl ((if0 _ _).trans (feq (by decide)).2) (by decide) (by decide) ?_
    refine XS.iloadN X0.here hx rfl (hb hby dm3_15) rfl ?_
    refine XS.iconst X0.here hx rfl (hb hby dm3_16) ?_
    refine XS.icmpYes X0.here hx rfl (pc0 := 17) (pc' := 25) rfl (hb hby dm3_17) rfl (feq (by decide)).2 (by decide) (by decide) ?_
    refine XS.iloadN X0.here hx rfl (hb hby dm3_25) rfl ?_
    refine XS.iconst X0.here hx rfl (hb hby dm3_26) ?_
    refine XS.icmpNo X0.here hx rfl (hb hby dm3_27) rfl (teq (by decide)).2 ?_
    exact k
  obtain ⟨T2, h2, X2, e2, E2, A2, D2, -, st2⟩ := newO X0 hx hZ hown (own_q hw 6 rfl) (own_q hw 7 rfl) (own_q hw 8 rfl) e0 (g := (mkF m 30 #[iv (2 : Int32), iv x0, iv x1, iv x2] [])) rfl (hb hby dm3_30) (by decide) (by decide)
  obtain ⟨b2, g2⟩ : ∃ z, z = h0.size := ⟨_, rfl⟩
  rw [← g2] at A2 D2 st2
  have g_b2 : n0 ≤ b2 := Nat.le_trans Z0 (Nat.le_of_eq g2.symm)
  have sz_b2 : h0.size ≤ b2 := Nat.le_trans (Keep.refl h0 []).1 (Nat.le_of_eq g2.symm)
  have F2_value : Fld Z h2 b2 "java/lang/String" "value" "[B" .null := D2 (Or.inr (own_q hw 21 rfl)) (ty := (.array .byte)) (by decide)
  have F2_coder : Fld Z h2 b2 "java/lang/String" "coder" "B" (.int (0 : Int32)) := D2 (Or.inr (own_q hw 22 rfl)) (ty := .byte) (by decide)
  have k2 : Goes p e below s₁ F0 T2 (mkF m 33 #[iv (2 : Int32), iv x0, iv x1, iv x2] [(.ref b2)]) := fun t k => k1 t (st2 _ k)
  have Z3 : n0 ≤ h2.size := Nat.le_trans Z0 E2.1
  have k4 : Goes p e below s₁ F0 T2 (mkF m 35 #[iv (2 : Int32), iv x0, iv x1, iv x2] [(.int (2 : Int32)), (.ref b2), (.ref b2)]) := by
    intro t k
    refine k2 _ ?_
    skip
    refine XS.dup X2.here hx rfl (hb hby dm3_33) rfl rfl ?_
    refine XS.iconst X2.here hx rfl (hb hby dm3_34) ?_
    exact k
  have kp6 : Keep h0 h2 [] := ((Keep.refl h0 []).ext E2)
  obtain ⟨T5, h5, k5_, X5, e5, E5, A5, st5⟩ := newP X2 hx hZ (own_q hw 0 rfl) e2 (g := (mkF m 35 #[iv (2 : Int32), iv x0, iv x1, iv x2] [(.int (2 : Int32)), (.ref b2), (.ref b2)])) rfl (hb hby dm3_35) rfl (by decide : ¬ ((2 : Int32) < (0 : Int32))) (cap := 2) (by decide : (2 : Int32).toNatClampNeg ≤ 2) (by decide) (by decide) (by decide)
  obtain ⟨b5, g5⟩ : ∃ z, z = h2.size := ⟨_, rfl⟩
  rw [← g5] at A5 st5
  have ne_b2_b5 : b2 ≠ b5 := Nat.ne_of_lt (Nat.lt_of_lt_of_eq A2.lt g5.symm)
  have g_b5 : n0 ≤ b5 := Nat.le_trans Z3 (Nat.le_of_eq g5.symm)
  have sz_b5 : h0.size ≤ b5 := Nat.le_trans kp6.1 (Nat.le_of_eq g5.symm)
  have V5 : Arv Z h5 b5 k5_ .char (2 : Int32) [(.int (0 : Int32)), (.int (0 : Int32))] (.int (0 : Int32)) := (Arv.new A5 (by decide : ¬ ((2 : Int32) < (0 : Int32)))).pad (pad_rep [] (.int (0 : Int32)) 2)
  have k5 : Goes p e below s₁ F0 T5 (mkF m 37 #[iv (2 : Int32), iv x0, iv x1, iv x2] [(.ref b5), (.ref b2), (.ref b2)]) := fun t k => k4 t (st5 _ k)
  have Z7 : n0 ≤ h5.size := Nat.le_trans Z3 E5.1
  have k8 : Goes p e below s₁ F0 T5 (mkF m 40 #[iv (2 : Int32), iv x0, iv x1, iv x2] [(.int x0), (.int (0 : Int32)), (.ref b5), (.ref b5), (.ref b2), (.ref b2)]) := by
    intro t k
    refine k5 _ ?_
    skip
    refine XS.dup X5.here hx rfl (hb hby dm3_37) rfl rfl ?_
    refine XS.iconst X5.here hx rfl (hb hby dm3_38) ?_
    refine XS.iloadN X5.here hx rfl (hb hby dm3_39) rfl ?_
    exact k
  obtain ⟨cl9, Ar9, qk9, Sz9, Nn9, Hs9, Gs9⟩ := id V5
  obtain ⟨T10, h10, X10, e10, W10, st10⟩ := stC X5 hx hZ e5 Ar9 (j := (0 : Int32)) (inb_of Sz9 (by decide)) (g := (mkF m 40 #[iv (2 : Int32), iv x0, iv x1, iv x2] [(.int x0), (.int (0 : Int32)), (.ref b5), (.ref b5), (.ref b2), (.ref b2)])) rfl rfl (hb hby dm3_40)
  have N10 := Fr.snoc X10 N0 g_b5
  have V10 : Arv Z h10 b5 k5_ .char (2 : Int32) [(.int (nar .char x0)), (.int (0 : Int32))] (.int (0 : Int32)) := Arv.set Ar9 qk9 Sz9 Nn9 Hs9 Gs9 (fits_nar_char _) W10 0 rfl (Nat.le_of_ble_eq_true rfl)
  have k10 : Goes p e below s₁ F0 T10 (mkF m 41 #[iv (2 : Int32), iv x0, iv x1, iv x2] [(.ref b5), (.ref b2), (.ref b2)]) := fun t k => k8 t (st10 _ k)
  have Z11 : n0 ≤ h10.size := Nat.le_trans Z7 (Keep.of_wr W10).1
  rw [own_narc hx0] at V10
  have k12 : Goes p e below s₁ F0 T10 (mkF m 44 #[iv (2 : Int32), iv x0, iv x1, iv x2] [(.int x1), (.int (1 : Int32)), (.ref b5), (.ref b5), (.ref b2), (.ref b2)]) := by
    intro t k
    refine k10 _ ?_
    skip
    refine XS.dup X10.here hx rfl (hb hby dm3_41) rfl rfl ?_
    refine XS.iconst X10.here hx rfl (hb hby dm3_42) ?_
    refine XS.iloadN X10.here hx rfl (hb hby dm3_43) rfl ?_
    exact k
  obtain ⟨cl13, Ar13, qk13, Sz13, Nn13, Hs13, Gs13⟩ := id V10
  obtain ⟨T14, h14, X14, e14, W14, st14⟩ := stC X10 hx hZ e10 Ar13 (j := (1 : Int32)) (inb_of Sz13 (by decide)) (g := (mkF m 44 #[iv (2 : Int32), iv x0, iv x1, iv x2] [(.int x1), (.int (1 : Int32)), (.ref b5), (.ref b5), (.ref b2), (.ref b2)])) rfl rfl (hb hby dm3_44)
  have N14 := Fr.snoc X14 N10 g_b5
  have V14 : Arv Z h14 b5 k5_ .char (2 : Int32) [(.int x0), (.int (nar .char x1))] (.int (0 : Int32)) := Arv.set Ar13 qk13 Sz13 Nn13 Hs13 Gs13 (fits_nar_char _) W14 1 rfl (Nat.le_of_ble_eq_true rfl)
  have k14 : Goes p e below s₁ F0 T14 (mkF m 45 #[iv (2 : Int32), iv x0, iv x1, iv x2] [(.ref b5), (.ref b2), (.ref b2)]) := fun t k => k12 t (st14 _ k)
  have Z15 : n0 ≤ h14.size := Nat.le_trans Z11 (Keep.of_wr W14).1
  rw [own_narc hx1] at V14
  have hpp : ∀ c ∈ ([x0, x1] : List Int32), ¬ c < (0 : Int32) ∧ ¬ (255 : Int32) < c := by
    intro c hc
    simp only [List.mem_cons, List.not_mem_nil, or_false] at hc
    rcases hc with rfl | rfl
    · exact hx0
    · exact hx1
  have f16 := (((A2.ext E5).wr W10).wr W14)
  have f17 := (((F2_value.ext E5).other W10 (Or.inl ne_b2_b5)).other W14 (Or.inl ne_b2_b5))
  have f18 := (((F2_coder.ext E5).other W10 (Or.inl ne_b2_b5)).other W14 (Or.inl ne_b2_b5))
  have od19 : Old Z n0 h14 := ((((XO.ext E2).ext E5).wr W10 g_b5).wr W14 g_b5)
  obtain ⟨_, _, ⟨T20, L20, ck20, nk20⟩, -, X20, ⟨Lc20, hQ20, l20, y20, z20⟩, st20⟩ := X14.specialBack hx (y := (⟨"java/lang/String", "<init>", "([C)V"⟩ : MethodName)) rfl hown (mvT hZ (own_q hw 9 rfl)) (mvT hZ (own_q hw 10 rfl)) (mvT hZ (own_q hw 11 rfl)) (by decide) (StrChars.Road.backV (W := 1) hZ (fun d hd => hw d (own_wNew d hd)) (kI := 4) (own_q hw 7 rfl) (cs := ([x0, x1] : List Int32)) (bs := ([x0, x1] : List Int32).map (fun c => c.toInt8.toInt32)) (n := 2) g_b2 Z15 f16 f17 f18 V14 (S1.ext od19.2) hcs rfl rfl (by decide) (by decide) hpp rfl (by decide) (by decide)) (g := (mkF m 45 #[iv (2 : Int32), iv x0, iv x1, iv x2] [(.ref b5), (.ref b2), (.ref b2)])) rfl (by rw [hml]; rfl) (Steps.refl _) (a := b2) (argsL := [(.ref b5)]) (rest := [(.ref b2)]) (lenOf pd_5 rfl) rfl (by show 2 * 0 + _ ≤ _; exact Nat.le_of_eq rfl) (hb hby dm3_45) (fun _ _ => ⟨rfl, e14, (by decide : 2 + 1 ≤ _), (by decide : 6 + 2 ≤ _)⟩)
  dsimp only [Pt.U, Pt.locs, Pt.cells, Pt.slots] at X20 l20 y20 z20 st20 hQ20
  subst l20 y20 z20
  obtain ⟨rfl, N20q, K20, EE20, FC20, t20, kb20, ht120, ht220, ht320, FV20, VA20⟩ := hQ20
  have N20 := Fr.app N14 N20q
  have k20 : Goes p e below s₁ F0 T20 (mkF m 48 #[iv (2 : Int32), iv x0, iv x1, iv x2] [(.ref b2)]) := fun t k => k14 t (st20.trans k)
  have Z21 : n0 ≤ T20.heap.size := Nat.le_trans Z15 K20.1
  have TS20 : own_Str Z T20.heap b2 ([x0, x1] : List Int32) := ⟨t20, kb20, EE20, FC20, FV20, VA20, hpp, Nat.le_of_ble_eq_true rfl⟩
  have kp22 : Keep h0 T20.heap [] := ((((kp6.ext E5).wr W10 (Or.inr sz_b5)).wr W14 (Or.inr sz_b5)).trans K20 (allS (Or.inr sz_b2) all0))
  subst eF0
  obtain ⟨fs, hr, hrun, hended, hW, hsame⟩ := X20.leave (v := some (.ref b2)) (fun h => by rw [Bd.returns] at h; cases h)
  refine ⟨_, _, k20 _ ?_, hrun, hended, _, _, rfl, ?_, ⟨_, rfl⟩, hW, hsame.mono (Nat.le_of_ble_eq_true rfl) (Nat.le_of_ble_eq_true rfl)⟩
  · exact retOut X20 hx Bd.returns rfl (Or.inr (Or.inr (Or.inr (Or.inr ⟨rfl, rfl, rfl⟩)))) (hb hby dm3_48) hr
  · show QMk2 Z x0 x1 x2 cs h0 n0 _ T20.heap _
    skip
    exact ⟨_, rfl, N20, kp22, TS20⟩
theorem ef_Mk3 (m : MethodId) (x0 : Int32) (x1 : Int32) (x2 : Int32) (x3 : Int32) : entryFrame m #[(.int x0), (.int x1), (.int x2), (.int x3)] 4 = mkF m 0 #[iv x0, iv x1, iv x2, iv x3] [] := by first | (simp [entryFrame, mkF, argsToLocals, Value.category]; done) | rfl
def QMk3 (Z : State) (x0 : Int32) (x1 : Int32) (x2 : Int32) (cs : Int32) (h0 : Heap) (n0 : Nat) (v : Option Value) (h : Heap) (L : List Loc) : Prop := ∃ r, v = some (.ref r) ∧ Fr n0 L ∧ Keep h0 h [] ∧ own_Str Z h r [x0, x1, x2]
set_option maxRecDepth 65536 in
set_option maxHeartbeats 40000000 in
theorem rmMk3 (l : Launch) (Z : State) (a0 : Array Value) (hw : ∀ d ∈ tables_1, d.before a0 Z = true) (ws : List Jvm.Cond) (x0 : Int32) (x1 : Int32) (x2 : Int32) (cs : Int32) (h0 : Heap) (n0 : Nat) (Z0 : n0 ≤ h0.size) (hx0 : ¬ x0 < (0 : Int32) ∧ ¬ (255 : Int32) < x0) (hx1 : ¬ x1 < (0 : Int32) ∧ ¬ (255 : Int32) < x1) (hx2 : ¬ x2 < (0 : Int32) ∧ ¬ (255 : Int32) < x2) (S1 : Sta Z Z.heap "java/lang/String" "COMPACT_STRINGS" "Z" (.int cs)) (hcs : ¬ cs = (0 : Int32)) (XO : Old Z n0 h0) :
    MetFree l (⟨"com/example/catchment/catchment/linkage/EditDistanceBeyondPinLaw", "str", "(ICCC)Ljava/lang/String;"⟩ : MethodName) (head1 (Jvm.Cond.code (⟨"com/example/catchment/catchment/linkage/EditDistanceBeyondPinLaw", "str", "(ICCC)Ljava/lang/String;"⟩ : MethodName) method_3_code 4 (some (.object "java/lang/String")) :: ws) ({ frames := 4, cells := 3, slots := 10, locals := 66 } : Room)) (fun A_ U => A_ = #[(.int (3 : Int32)), (.int x0), (.int x1), (.int x2)] ∧ Z.Warmed39 U.vm ∧ U.heap = h0) (fun _ _ _ _ _ => True) (fun _ U o U' => ∃ v L, o = .returned v ∧ QMk3 Z x0 x1 x2 cs h0 n0 v U'.heap L ∧ FrameEnd U o U' L ({ frames := 4, cells := 3, slots := 10, locals := 66 } : Room).cells ({ frames := 4, cells := 3, slots := 10, locals := 66 } : Room).slots) := by
  refine MetFree.of_bodySF (plainFor_of_name pn_0) hisR ?_
  intro p e s m args below meth c s₁ Bd hml0 hP hK
  obtain ⟨rfl, hZ, hh⟩ := hP
  have hx := Bd.exec
  have hby := Bd.bytes
  have hml : c.maxLocals = 4 := hml0
  have hown : s.vm.findClass "com/example/catchment/catchment/linkage/EditDistanceBeyondPinLaw" = some m.cls := findClass_of_methodNamed Bd.named
  have hnm := (name_of_methodNamed Bd.named Bd.method).1
  have X0 : Stand p l e ({ frames := 4, cells := 3, slots := 10, locals := 66 } : Room) s m #[(.int (3 : Int32)), (.int x0), (.int x1), (.int x2)] below meth c s₁ [] 0 0 := Stand.of_body Bd
  have e0 : s₁.heap = h0 := by rw [← hh, Bd.state]; rfl
  have N0 := Fr.nil n0
  obtain ⟨F0, eF0⟩ : ∃ f : JFrame, f = entryFrame m #[(.int (3 : Int32)), (.int x0), (.int x1), (.int x2)] 4 := ⟨_, rfl⟩
  have k0 : Goes p e below s₁ F0 s₁ (mkF m 0 #[iv (3 : Int32), iv x0, iv x1, iv x2] []) := fun t k => by subst eF0; exact castTop (ef_Mk3 m ((3 : Int32)) x0 x1 x2) k
  have k1 : Goes p e below s₁ F0 s₁ (mkF m 49 #[iv (3 : Int32), iv x0, iv x1, iv x2] []) := by
    intro t k
    refine k0 _ ?_
    skip
    refine XS.iloadN X0.here hx rfl (hb hby dm3_0) rfl ?_
    refine XS.ifYes X0.here hx rfl (pc0 := 1) (pc' := 15) rfl (hb hby dm3_1) rfl ((if0 _ _).trans (feq (by decide)).2) (by decide) (by decide) ?_
    refine XS.iloadN X0.here hx rfl (hb hby dm3_15) rfl ?_
    refine XS.iconst X0.here hx rfl (hb hby dm3_16) ?_
    refine XS.icmpYes X0.here hx rfl (pc0 := 17) (pc' := 25) rfl (hb hby dm3_17) rfl (feq (by decide)).2 (by decide) (by decide) ?_
    refine XS.iloadN X0.here hx rfl (hb hby dm3_25) rfl ?_
    refine XS.iconst X0.here hx rfl (hb hby dm3_26) ?_
    refine XS.icmpYes X0.here hx rfl (pc0 := 27) (pc' := 49) rfl (hb hby dm3_27) rfl (feq (by decide)).2 (by decide) (by decide) ?_
    exact k
  obtain ⟨T2, h2, X2, e2, E2, A2, D2, -, st2⟩ := newO X0 hx hZ hown (own_q hw 6 rfl) (own_q hw 7 rfl) (own_q hw 8 rfl) e0 (g := (mkF m 49 #[iv (3 : Int32), iv x0, iv x1, iv x2] [])) rfl (hb hby dm3_49) (by decide) (by decide)
  obtain ⟨b2, g2⟩ : ∃ z, z = h0.size := ⟨_, rfl⟩
  rw [← g2] at A2 D2 st2
  have g_b2 : n0 ≤ b2 := Nat.le_trans Z0 (Nat.le_of_eq g2.symm)
  have sz_b2 : h0.size ≤ b2 := Nat.le_trans (Keep.refl h0 []).1 (Nat.le_of_eq g2.symm)
  have F2_value : Fld Z h2 b2 "java/lang/String" "value" "[B" .null := D2 (Or.inr (own_q hw 21 rfl)) (ty := (.array .byte)) (by decide)
  have F2_coder : Fld Z h2 b2 "java/lang/String" "coder" "B" (.int (0 : Int32)) := D2 (Or.inr (own_q hw 22 rfl)) (ty := .byte) (by decide)
  have k2 : Goes p e below s₁ F0 T2 (mkF m 52 #[iv (3 : Int32), iv x0, iv x1, iv x2] [(.ref b2)]) := fun t k => k1 t (st2 _ k)
  have Z3 : n0 ≤ h2.size := Nat.le_trans Z0 E2.1
  have k4 : Goes p e below s₁ F0 T2 (mkF m 54 #[iv (3 : Int32), iv x0, iv x1, iv x2] [(.int (3 : Int32)), (.ref b2), (.ref b2)]) := by
    intro t k
    refine k2 _ ?_
    skip
    refine XS.dup X2.here hx rfl (hb hby dm3_52) rfl rfl ?_
    refine XS.iconst X2.here hx rfl (hb hby dm3_53) ?_
    exact k
  have kp6 : Keep h0 h2 [] := ((Keep.refl h0 []).ext E2)
  obtain ⟨T5, h5, k5_, X5, e5, E5, A5, st5⟩ := newP X2 hx hZ (own_q hw 0 rfl) e2 (g := (mkF m 54 #[iv (3 : Int32), iv x0, iv x1, iv x2] [(.int (3 : Int32)), (.ref b2), (.ref b2)])) rfl (hb hby dm3_54) rfl (by decide : ¬ ((3 : Int32) < (0 : Int32))) (cap := 3) (by decide : (3 : Int32).toNatClampNeg ≤ 3) (by decide) (by decide) (by decide)
  obtain ⟨b5, g5⟩ : ∃ z, z = h2.size := ⟨_, rfl⟩
  rw [← g5] at A5 st5
  have ne_b2_b5 : b2 ≠ b5 := Nat.ne_of_lt (Nat.lt_of_lt_of_eq A2.lt g5.symm)
  have g_b5 : n0 ≤ b5 := Nat.le_trans Z3 (Nat.le_of_eq g5.symm)
  have sz_b5 : h0.size ≤ b5 := Nat.le_trans kp6.1 (Nat.le_of_eq g5.symm)
  have V5 : Arv Z h5 b5 k5_ .char (3 : Int32) [(.int (0 : Int32)), (.int (0 : Int32)), (.int (0 : Int32))] (.int (0 : Int32)) := (Arv.new A5 (by decide : ¬ ((3 : Int32) < (0 : Int32)))).pad (pad_rep [] (.int (0 : Int32)) 3)
  have k5 : Goes p e below s₁ F0 T5 (mkF m 56 #[iv (3 : Int32), iv x0, iv x1, iv x2] [(.ref b5), (.ref b2), (.ref b2)]) := fun t k => k4 t (st5 _ k)
  have Z7 : n0 ≤ h5.size := Nat.le_trans Z3 E5.1
  have k8 : Goes p e below s₁ F0 T5 (mkF m 59 #[iv (3 : Int32), iv x0, iv x1, iv x2] [(.int x0), (.int (0 : Int32)), (.ref b5), (.ref b5), (.ref b2), (.ref b2)]) := by
    intro t k
    refine k5 _ ?_
    skip
    refine XS.dup X5.here hx rfl (hb hby dm3_56) rfl rfl ?_
    refine XS.iconst X5.here hx rfl (hb hby dm3_57) ?_
    refine XS.iloadN X5.here hx rfl (hb hby dm3_58) rfl ?_
    exact k
  obtain ⟨cl9, Ar9, qk9, Sz9, Nn9, Hs9, Gs9⟩ := id V5
  obtain ⟨T10, h10, X10, e10, W10, st10⟩ := stC X5 hx hZ e5 Ar9 (j := (0 : Int32)) (inb_of Sz9 (by decide)) (g := (mkF m 59 #[iv (3 : Int32), iv x0, iv x1, iv x2] [(.int x0), (.int (0 : Int32)), (.ref b5), (.ref b5), (.ref b2), (.ref b2)])) rfl rfl (hb hby dm3_59)
  have N10 := Fr.snoc X10 N0 g_b5
  have V10 : Arv Z h10 b5 k5_ .char (3 : Int32) [(.int (nar .char x0)), (.int (0 : Int32)), (.int (0 : Int32))] (.int (0 : Int32)) := Arv.set Ar9 qk9 Sz9 Nn9 Hs9 Gs9 (fits_nar_char _) W10 0 rfl (Nat.le_of_ble_eq_true rfl)
  have k10 : Goes p e below s₁ F0 T10 (mkF m 60 #[iv (3 : Int32), iv x0, iv x1, iv x2] [(.ref b5), (.ref b2), (.ref b2)]) := fun t k => k8 t (st10 _ k)
  have Z11 : n0 ≤ h10.size := Nat.le_trans Z7 (Keep.of_wr W10).1
  rw [own_narc hx0] at V10
  have k12 : Goes p e below s₁ F0 T10 (mkF m 63 #[iv (3 : Int32), iv x0, iv x1, iv x2] [(.int x1), (.int (1 : Int32)), (.ref b5), (.ref b5), (.ref b2), (.ref b2)]) := by
    intro t k
    refine k10 _ ?_
    skip
    refine XS.dup X10.here hx rfl (hb hby dm3_60) rfl rfl ?_
    refine XS.iconst X10.here hx rfl (hb hby dm3_61) ?_
    refine XS.iloadN X10.here hx rfl (hb hby dm3_62) rfl ?_
    exact k
  obtain ⟨cl13, Ar13, qk13, Sz13, Nn13, Hs13, Gs13⟩ := id V10
  obtain ⟨T14, h14, X14, e14, W14, st14⟩ := stC X10 hx hZ e10 Ar13 (j := (1 : Int32)) (inb_of Sz13 (by decide)) (g := (mkF m 63 #[iv (3 : Int32), iv x0, iv x1, iv x2] [(.int x1), (.int (1 : Int32)), (.ref b5), (.ref b5), (.ref b2), (.ref b2)])) rfl rfl (hb hby dm3_63)
  have N14 := Fr.snoc X14 N10 g_b5
  have V14 : Arv Z h14 b5 k5_ .char (3 : Int32) [(.int x0), (.int (nar .char x1)), (.int (0 : Int32))] (.int (0 : Int32)) := Arv.set Ar13 qk13 Sz13 Nn13 Hs13 Gs13 (fits_nar_char _) W14 1 rfl (Nat.le_of_ble_eq_true rfl)
  have k14 : Goes p e below s₁ F0 T14 (mkF m 64 #[iv (3 : Int32), iv x0, iv x1, iv x2] [(.ref b5), (.ref b2), (.ref b2)]) := fun t k => k12 t (st14 _ k)
  have Z15 : n0 ≤ h14.size := Nat.le_trans Z11 (Keep.of_wr W14).1
  rw [own_narc hx1] at V14
  have k16 : Goes p e below s₁ F0 T14 (mkF m 67 #[iv (3 : Int32), iv x0, iv x1, iv x2] [(.int x2), (.int (2 : Int32)), (.ref b5), (.ref b5), (.ref b2), (.ref b2)]) := by
    intro t k
    refine k14 _ ?_
    skip
    refine XS.dup X14.here hx rfl (hb hby dm3_64) rfl rfl ?_
    refine XS.iconst X14.here hx rfl (hb hby dm3_65) ?_
    refine XS.iloadN X14.here hx rfl (hb hby dm3_66) rfl ?_
    exact k
  obtain ⟨cl17, Ar17, qk17, Sz17, Nn17, Hs17, Gs17⟩ := id V14
  obtain ⟨T18, h18, X18, e18, W18, st18⟩ := stC X14 hx hZ e14 Ar17 (j := (2 : Int32)) (inb_of Sz17 (by decide)) (g := (mkF m 67 #[iv (3 : Int32), iv x0, iv x1, iv x2] [(.int x2), (.int (2 : Int32)), (.ref b5), (.ref b5), (.ref b2), (.ref b2)])) rfl rfl (hb hby dm3_67)
  have N18 := Fr.snoc X18 N14 g_b5
  have V18 : Arv Z h18 b5 k5_ .char (3 : Int32) [(.int x0), (.int x1), (.int (nar .char x2))] (.int (0 : Int32)) := Arv.set Ar17 qk17 Sz17 Nn17 Hs17 Gs17 (fits_nar_char _) W18 2 rfl (Nat.le_of_ble_eq_true rfl)
  have k18 : Goes p e below s₁ F0 T18 (mkF m 68 #[iv (3 : Int32), iv x0, iv x1, iv x2] [(.ref b5), (.ref b2), (.ref b2)]) := fun t k => k16 t (st18 _ k)
  have Z19 : n0 ≤ h18.size := Nat.le_trans Z15 (Keep.of_wr W18).1
  rw [own_narc hx2] at V18
  have hpp : ∀ c ∈ ([x0, x1, x2] : List Int32), ¬ c < (0 : Int32) ∧ ¬ (255 : Int32) < c := by
    intro c hc
    simp only [List.mem_cons, List.not_mem_nil, or_false] at hc
    rcases hc with rfl | rfl | rfl
    · exact hx0
    · exact hx1
    · exact hx2
  have f20 := ((((A2.ext E5).wr W10).wr W14).wr W18)
  have f21 := ((((F2_value.ext E5).other W10 (Or.inl ne_b2_b5)).other W14 (Or.inl ne_b2_b5)).other W18 (Or.inl ne_b2_b5))
  have f22 := ((((F2_coder.ext E5).other W10 (Or.inl ne_b2_b5)).other W14 (Or.inl ne_b2_b5)).other W18 (Or.inl ne_b2_b5))
  have od23 : Old Z n0 h18 := (((((XO.ext E2).ext E5).wr W10 g_b5).wr W14 g_b5).wr W18 g_b5)
  obtain ⟨_, _, ⟨T24, L24, ck24, nk24⟩, -, X24, ⟨Lc24, hQ24, l24, y24, z24⟩, st24⟩ := X18.specialBack hx (y := (⟨"java/lang/String", "<init>", "([C)V"⟩ : MethodName)) rfl hown (mvT hZ (own_q hw 9 rfl)) (mvT hZ (own_q hw 10 rfl)) (mvT hZ (own_q hw 11 rfl)) (by decide) (StrChars.Road.backV (W := 1) hZ (fun d hd => hw d (own_wNew d hd)) (kI := 4) (own_q hw 7 rfl) (cs := ([x0, x1, x2] : List Int32)) (bs := ([x0, x1, x2] : List Int32).map (fun c => c.toInt8.toInt32)) (n := 3) g_b2 Z19 f20 f21 f22 V18 (S1.ext od23.2) hcs rfl rfl (by decide) (by decide) hpp rfl (by decide) (by decide)) (g := (mkF m 68 #[iv (3 : Int32), iv x0, iv x1, iv x2] [(.ref b5), (.ref b2), (.ref b2)])) rfl (by rw [hml]; rfl) (Steps.refl _) (a := b2) (argsL := [(.ref b5)]) (rest := [(.ref b2)]) (lenOf pd_5 rfl) rfl (by show 2 * 0 + _ ≤ _; exact Nat.le_of_eq rfl) (hb hby dm3_68) (fun _ _ => ⟨rfl, e18, (by decide : 2 + 1 ≤ _), (by decide : 7 + 3 ≤ _)⟩)
  dsimp only [Pt.U, Pt.locs, Pt.cells, Pt.slots] at X24 l24 y24 z24 st24 hQ24
  subst l24 y24 z24
  obtain ⟨rfl, N24q, K24, EE24, FC24, t24, kb24, ht124, ht224, ht324, FV24, VA24⟩ := hQ24
  have N24 := Fr.app N18 N24q
  have k24 : Goes p e below s₁ F0 T24 (mkF m 71 #[iv (3 : Int32), iv x0, iv x1, iv x2] [(.ref b2)]) := fun t k => k18 t (st24.trans k)
  have Z25 : n0 ≤ T24.heap.size := Nat.le_trans Z19 K24.1
  have TS24 : own_Str Z T24.heap b2 ([x0, x1, x2] : List Int32) := ⟨t24, kb24, EE24, FC24, FV24, VA24, hpp, Nat.le_of_ble_eq_true rfl⟩
  have kp26 : Keep h0 T24.heap [] := (((((kp6.ext E5).wr W10 (Or.inr sz_b5)).wr W14 (Or.inr sz_b5)).wr W18 (Or.inr sz_b5)).trans K24 (allS (Or.inr sz_b2) all0))
  subst eF0
  obtain ⟨fs, hr, hrun, hended, hW, hsame⟩ := X24.leave (v := some (.ref b2)) (fun h => by rw [Bd.returns] at h; cases h)
  refine ⟨_, _, k24 _ ?_, hrun, hended, _, _, rfl, ?_, ⟨_, rfl⟩, hW, hsame.mono (Nat.le_of_ble_eq_true rfl) (Nat.le_of_ble_eq_true rfl)⟩
  · exact retOut X24 hx Bd.returns rfl (Or.inr (Or.inr (Or.inr (Or.inr ⟨rfl, rfl, rfl⟩)))) (hb hby dm3_71) hr
  · show QMk3 Z x0 x1 x2 cs h0 n0 _ T24.heap _
    skip
    exact ⟨_, rfl, N24, kp26, TS24⟩
theorem ef_CE (m : MethodId) (x0 : Int32) : entryFrame m #[(.int x0)] 1 = mkF m 0 #[iv x0] [] := by first | (simp [entryFrame, mkF, argsToLocals, Value.category]; done) | rfl
def QCE (Z : State) (x0 : Int32) (h0 : Heap) (n0 : Nat) (v : Option Value) (h : Heap) (L : List Loc) : Prop := v = some (.int 1) ∧ Fr n0 L ∧ h = h0
set_option maxRecDepth 65536 in
set_option maxHeartbeats 40000000 in
theorem rmCE (l : Launch) (Z : State) (a0 : Array Value) (hw : ∀ d ∈ tables_1, d.before a0 Z = true) (ws : List Jvm.Cond) (x0 : Int32) (h0 : Heap) (n0 : Nat) (Z0 : n0 ≤ h0.size) (hx0 : ¬ x0 < (0 : Int32) ∧ ¬ (255 : Int32) < x0) :
    MetFree l (⟨"java/lang/StringLatin1", "canEncode", "(C)Z"⟩ : MethodName) (head1 (Jvm.Cond.code (⟨"java/lang/StringLatin1", "canEncode", "(C)Z"⟩ : MethodName) jdk_43_method_3_code 1 (some .boolean) :: ws) ({ frames := 0, cells := 0, slots := 0, locals := 0 } : Room)) (fun A_ U => A_ = #[(.int x0)] ∧ Z.Warmed39 U.vm ∧ U.heap = h0) (fun _ _ _ _ _ => True) (fun _ U o U' => ∃ v L, o = .returned v ∧ QCE Z x0 h0 n0 v U'.heap L ∧ FrameEnd U o U' L ({ frames := 0, cells := 0, slots := 0, locals := 0 } : Room).cells ({ frames := 0, cells := 0, slots := 0, locals := 0 } : Room).slots) := by
  refine MetFree.of_bodySF (plainFor_of_name pn_3) hisR ?_
  intro p e s m args below meth c s₁ Bd hml0 hP hK
  obtain ⟨rfl, hZ, hh⟩ := hP
  have hx := Bd.exec
  have hby := Bd.bytes
  have hml : c.maxLocals = 1 := hml0
  have hown : s.vm.findClass "java/lang/StringLatin1" = some m.cls := findClass_of_methodNamed Bd.named
  have hnm := (name_of_methodNamed Bd.named Bd.method).1
  have X0 : Stand p l e ({ frames := 0, cells := 0, slots := 0, locals := 0 } : Room) s m #[(.int x0)] below meth c s₁ [] 0 0 := Stand.of_body Bd
  have e0 : s₁.heap = h0 := by rw [← hh, Bd.state]; rfl
  have N0 := Fr.nil n0
  obtain ⟨F0, eF0⟩ : ∃ f : JFrame, f = entryFrame m #[(.int x0)] 1 := ⟨_, rfl⟩
  have k0 : Goes p e below s₁ F0 s₁ (mkF m 0 #[iv x0] []) := fun t k => by subst eF0; exact castTop (ef_CE m x0) k
  have k1 : Goes p e below s₁ F0 s₁ (mkF m 12 #[iv x0] [(.int (1 : Int32))]) := by
    intro t k
    refine k0 _ ?_
    skip
    refine XS.iloadN X0.here hx rfl (hb hby djdk_43_m3_0) rfl ?_
    refine XS.sipush X0.here hx rfl (hb hby djdk_43_m3_1) ?_
    refine XS.icmpNo X0.here hx rfl (hb hby djdk_43_m3_4) rfl (flt hx0.2).2.2.1 ?_
    refine XS.iconst X0.here hx rfl (hb hby djdk_43_m3_7) ?_
    refine XS.goto X0.here hx rfl (pc0 := 8) (pc' := 12) rfl (hb hby djdk_43_m3_8) (by decide) (by decide) ?_
    exact k
  subst eF0
  have hnar : nar .boolean (1 : Int32) = (1 : Int32) := rfl
  obtain ⟨fs, hr, hrun, hended, hW, hsame⟩ := X0.leave (v := some (.int (1 : Int32))) (fun h => by rw [Bd.returns] at h; cases h)
  refine ⟨_, _, k1 _ ?_, hrun, hended, _, _, rfl, ?_, ⟨_, rfl⟩, hW, hsame.mono (Nat.le_of_ble_eq_true rfl) (Nat.le_of_ble_eq_true rfl)⟩
  · exact retN X0 hx (t := .boolean) Bd.returns (by simp) (hb hby djdk_43_m3_12) (fun f acts q1 q2 q3 => by rw [hnar]; exact hr f acts q1 q2 q3)
  · show QCE Z x0 h0 n0 _ s₁.heap _
    rw [e0]
    exact ⟨rfl, N0, rfl⟩
theorem ef_TB (m : MethodId) (x0 : Int32) : entryFrame m #[(.int x0)] 1 = mkF m 0 #[iv x0] [] := by first | (simp [entryFrame, mkF, argsToLocals, Value.category]; done) | rfl
def QTB (Z : State) (x0 : Int32) (h0 : Heap) (n0 : Nat) (v : Option Value) (h : Heap) (L : List Loc) : Prop := ∃ b kb, v = some (.ref b) ∧ Fr n0 L ∧ Keep h0 h [] ∧ h0.size ≤ b ∧ n0 ≤ b ∧ Arv Z h b kb .byte (1 : Int32) [(.int (nar .byte x0.toInt8.toInt32))] (.int (0 : Int32))
set_option maxRecDepth 65536 in
set_option maxHeartbeats 40000000 in
theorem rmTB (l : Launch) (Z : State) (a0 : Array Value) (hw : ∀ d ∈ tables_1, d.before a0 Z = true) (ws : List Jvm.Cond) (x0 : Int32) (h0 : Heap) (n0 : Nat) (Z0 : n0 ≤ h0.size)  :
    MetFree l (⟨"java/lang/StringLatin1", "toBytes", "(C)[B"⟩ : MethodName) (head1 (Jvm.Cond.code (⟨"java/lang/StringLatin1", "toBytes", "(C)[B"⟩ : MethodName) jdk_43_method_46_code 1 (some (.array .byte)) :: ws) ({ frames := 0, cells := 1, slots := 1, locals := 0 } : Room)) (fun A_ U => A_ = #[(.int x0)] ∧ Z.Warmed39 U.vm ∧ U.heap = h0) (fun _ _ _ _ _ => True) (fun _ U o U' => ∃ v L, o = .returned v ∧ QTB Z x0 h0 n0 v U'.heap L ∧ FrameEnd U o U' L ({ frames := 0, cells := 1, slots := 1, locals := 0 } : Room).cells ({ frames := 0, cells := 1, slots := 1, locals := 0 } : Room).slots) := by
  refine MetFree.of_bodySF (plainFor_of_name pn_3) hisR ?_
  intro p e s m args below meth c s₁ Bd hml0 hP hK
  obtain ⟨rfl, hZ, hh⟩ := hP
  have hx := Bd.exec
  have hby := Bd.bytes
  have hml : c.maxLocals = 1 := hml0
  have hown : s.vm.findClass "java/lang/StringLatin1" = some m.cls := findClass_of_methodNamed Bd.named
  have hnm := (name_of_methodNamed Bd.named Bd.method).1
  have X0 : Stand p l e ({ frames := 0, cells := 1, slots := 1, locals := 0 } : Room) s m #[(.int x0)] below meth c s₁ [] 0 0 := Stand.of_body Bd
  have e0 : s₁.heap = h0 := by rw [← hh, Bd.state]; rfl
  have N0 := Fr.nil n0
  obtain ⟨F0, eF0⟩ : ∃ f : JFrame, f = entryFrame m #[(.int x0)] 1 := ⟨_, rfl⟩
  have k0 : Goes p e below s₁ F0 s₁ (mkF m 0 #[iv x0] []) := fun t k => by subst eF0; exact castTop (ef_TB m x0) k
  have k1 : Goes p e below s₁ F0 s₁ (mkF m 1 #[iv x0] [(.int (1 : Int32))]) := by
    intro t k
    refine k0 _ ?_
    skip
    refine XS.iconst X0.here hx rfl (hb hby djdk_43_m46_0) ?_
    exact k
  obtain ⟨T2, h2, k2_, X2, e2, E2, A2, st2⟩ := newP X0 hx hZ (own_q hw 20 rfl) e0 (g := (mkF m 1 #[iv x0] [(.int (1 : Int32))])) rfl (hb hby djdk_43_m46_1) rfl (by decide : ¬ ((1 : Int32) < (0 : Int32))) (cap := 1) (by decide : (1 : Int32).toNatClampNeg ≤ 1) (by decide) (by decide) (by decide)
  obtain ⟨b2, g2⟩ : ∃ z, z = h0.size := ⟨_, rfl⟩
  rw [← g2] at A2 st2
  have g_b2 : n0 ≤ b2 := Nat.le_trans Z0 (Nat.le_of_eq g2.symm)
  have sz_b2 : h0.size ≤ b2 := Nat.le_trans (Keep.refl h0 []).1 (Nat.le_of_eq g2.symm)
  have V2 : Arv Z h2 b2 k2_ .byte (1 : Int32) [(.int (0 : Int32))] (.int (0 : Int32)) := (Arv.new A2 (by decide : ¬ ((1 : Int32) < (0 : Int32)))).pad (pad_rep [] (.int (0 : Int32)) 1)
  have k2 : Goes p e below s₁ F0 T2 (mkF m 3 #[iv x0] [(.ref b2)]) := fun t k => k1 t (st2 _ k)
  have Z3 : n0 ≤ h2.size := Nat.le_trans Z0 E2.1
  have k4 : Goes p e below s₁ F0 T2 (mkF m 7 #[iv x0] [(.int (x0.toInt8.toInt32)), (.int (0 : Int32)), (.ref b2), (.ref b2)]) := by
    intro t k
    refine k2 _ ?_
    skip
    refine XS.dup X2.here hx rfl (hb hby djdk_43_m46_3) rfl rfl ?_
    refine XS.iconst X2.here hx rfl (hb hby djdk_43_m46_4) ?_
    refine XS.iloadN X2.here hx rfl (hb hby djdk_43_m46_5) rfl ?_
    refine XS.i2b X2.here hx rfl (hb hby djdk_43_m46_6) rfl ?_
    exact k
  obtain ⟨cl5, Ar5, qk5, Sz5, Nn5, Hs5, Gs5⟩ := id V2
  obtain ⟨T6, h6, X6, e6, W6, st6⟩ := stB X2 hx hZ e2 Ar5 (j := (0 : Int32)) (inb_of Sz5 (by decide)) (g := (mkF m 7 #[iv x0] [(.int (x0.toInt8.toInt32)), (.int (0 : Int32)), (.ref b2), (.ref b2)])) rfl rfl (hb hby djdk_43_m46_7)
  have N6 := Fr.snoc X6 N0 g_b2
  have V6 : Arv Z h6 b2 k2_ .byte (1 : Int32) [(.int (nar .byte (x0.toInt8.toInt32)))] (.int (0 : Int32)) := Arv.set Ar5 qk5 Sz5 Nn5 Hs5 Gs5 (fits_nar_byte _) W6 0 rfl (Nat.le_of_ble_eq_true rfl)
  have k6 : Goes p e below s₁ F0 T6 (mkF m 8 #[iv x0] [(.ref b2)]) := fun t k => k4 t (st6 _ k)
  have Z7 : n0 ≤ h6.size := Nat.le_trans Z3 (Keep.of_wr W6).1
  have kp8 : Keep h0 h6 [] := (((Keep.refl h0 []).ext E2).wr W6 (Or.inr sz_b2))
  subst eF0
  obtain ⟨fs, hr, hrun, hended, hW, hsame⟩ := X6.leave (v := some (.ref b2)) (fun h => by rw [Bd.returns] at h; cases h)
  refine ⟨_, _, k6 _ ?_, hrun, hended, _, _, rfl, ?_, ⟨_, rfl⟩, hW, hsame.mono (Nat.le_of_ble_eq_true rfl) (Nat.le_of_ble_eq_true rfl)⟩
  · exact retOut X6 hx Bd.returns rfl (Or.inr (Or.inr (Or.inr (Or.inr ⟨rfl, rfl, rfl⟩)))) (hb hby djdk_43_m46_8) hr
  · show QTB Z x0 h0 n0 _ T6.heap _
    rw [e6]
    exact ⟨_, _, rfl, N6, kp8, sz_b2, g_b2, V6⟩
theorem ef_SB (m : MethodId) (x0 : Addr) (x1 : Addr) (x2 : Int32) : entryFrame m #[(.ref x0), (.ref x1), (.int x2)] 3 = mkF m 0 #[rv x0, rv x1, iv x2] [] := by first | (simp [entryFrame, mkF, argsToLocals, Value.category]; done) | rfl
def QSB (Z : State) (ob : Addr) (tb : Addr) (kt : ClassId) (x0 : Int32) (h0 : Heap) (n0 : Nat) (v : Option Value) (h : Heap) (L : List Loc) : Prop := v = none ∧ Fr n0 L ∧ Keep h0 h [ob] ∧ own_Str Z h ob [x0]
set_option maxRecDepth 65536 in
set_option maxHeartbeats 40000000 in
theorem rmSB (l : Launch) (Z : State) (a0 : Array Value) (hw : ∀ d ∈ tables_1, d.before a0 Z = true) (ws : List Jvm.Cond) (ob : Addr) (tb : Addr) (kt : ClassId) (x0 : Int32) (h0 : Heap) (n0 : Nat) (Z0 : n0 ≤ h0.size) (EE : Exa Z h0 ob "java/lang/String") (go : n0 ≤ ob) (FV : Fld Z h0 ob "java/lang/String" "value" "[B" .null) (FC : Fld Z h0 ob "java/lang/String" "coder" "B" (.int (0 : Int32))) (VT : Arv Z h0 tb kt .byte (1 : Int32) [(.int (nar .byte x0.toInt8.toInt32))] (.int (0 : Int32))) (hx0 : ¬ x0 < (0 : Int32) ∧ ¬ (255 : Int32) < x0) :
    MetFree l (⟨"java/lang/String", "<init>", "([BB)V"⟩ : MethodName) (head1 (Jvm.Cond.code (⟨"java/lang/String", "<init>", "([BB)V"⟩ : MethodName) jdk_42_method_151_code 3 none :: ws) ({ frames := 1, cells := 0, slots := 0, locals := 12 } : Room)) (fun A_ U => A_ = #[(.ref ob), (.ref tb), (.int (0 : Int32))] ∧ Z.Warmed39 U.vm ∧ U.heap = h0) (fun _ _ _ _ _ => True) (fun _ U o U' => ∃ v L, o = .returned v ∧ QSB Z ob tb kt x0 h0 n0 v U'.heap L ∧ FrameEnd U o U' L ({ frames := 1, cells := 0, slots := 0, locals := 12 } : Room).cells ({ frames := 1, cells := 0, slots := 0, locals := 12 } : Room).slots) := by
  refine MetFree.of_bodySF (plainFor_of_name pn_4) hisR ?_
  intro p e s m args below meth c s₁ Bd hml0 hP hK
  obtain ⟨rfl, hZ, hh⟩ := hP
  have hx := Bd.exec
  have hby := Bd.bytes
  have hml : c.maxLocals = 3 := hml0
  have hown : s.vm.findClass "java/lang/String" = some m.cls := findClass_of_methodNamed Bd.named
  have hnm := (name_of_methodNamed Bd.named Bd.method).1
  have X0 : Stand p l e ({ frames := 1, cells := 0, slots := 0, locals := 12 } : Room) s m #[(.ref ob), (.ref tb), (.int (0 : Int32))] below meth c s₁ [] 0 0 := Stand.of_body Bd
  have e0 : s₁.heap = h0 := by rw [← hh, Bd.state]; rfl
  have N0 := Fr.nil n0
  obtain ⟨F0, eF0⟩ : ∃ f : JFrame, f = entryFrame m #[(.ref ob), (.ref tb), (.int (0 : Int32))] 3 := ⟨_, rfl⟩
  have k0 : Goes p e below s₁ F0 s₁ (mkF m 0 #[rv ob, rv tb, iv (0 : Int32)] []) := fun t k => by subst eF0; exact castTop (ef_SB m ob tb ((0 : Int32))) k
  have ne_ := EE.neArv VT (own_q hw 7 rfl)
  have k1 : Goes p e below s₁ F0 s₁ (mkF m 1 #[rv ob, rv tb, iv (0 : Int32)] [(.ref ob)]) := by
    intro t k
    refine k0 _ ?_
    skip
    refine XS.aloadN X0.here hx rfl (hb hby djdk_42_m151_0) rfl rfl ?_
    exact k
  obtain ⟨T2, X2, e2, st2⟩ := initO X0 hx hZ hown (own_q hw 16 rfl) (own_q hw 17 rfl) (own_q hw 18 rfl) e0 (g := (mkF m 1 #[rv ob, rv tb, iv (0 : Int32)] [(.ref ob)])) rfl (by rw [hml]; rfl) rfl (hb hby djdk_42_m151_1) (by decide) (W := 0) (by show 2 * 0 + _ ≤ _; exact Nat.le_of_eq rfl) (by decide)
  have k2 : Goes p e below s₁ F0 T2 (mkF m 4 #[rv ob, rv tb, iv (0 : Int32)] []) := fun t k => k1 t (st2 _ k)
  have k3 : Goes p e below s₁ F0 T2 (mkF m 6 #[rv ob, rv tb, iv (0 : Int32)] [(.ref tb), (.ref ob)]) := by
    intro t k
    refine k2 _ ?_
    skip
    refine XS.aloadN X2.here hx rfl (hb hby djdk_42_m151_4) rfl rfl ?_
    refine XS.aloadN X2.here hx rfl (hb hby djdk_42_m151_5) rfl rfl ?_
    exact k
  obtain ⟨T4, h4, X4, e4, W4, st4⟩ := putF X2 hx hZ hown (host := "") (Or.inl (own_q hw 25 rfl)) Via.refl e2 FV EE (Or.inr ⟨(own_q hw 21 rfl), rfl, hnm⟩) (own_q hw 7 rfl) (ty := (.array .byte)) (by decide) rfl rfl (g := (mkF m 6 #[rv ob, rv tb, iv (0 : Int32)] [(.ref tb), (.ref ob)])) rfl rfl (hb hby djdk_42_m151_6)
  have N4 := Fr.snoc X4 N0 go
  have Fw4 := FV.same W4
  have k4 : Goes p e below s₁ F0 T4 (mkF m 9 #[rv ob, rv tb, iv (0 : Int32)] []) := fun t k => k3 t (st4 _ k)
  have Z5 : n0 ≤ h4.size := Nat.le_trans Z0 (Keep.of_wr W4).1
  have k6 : Goes p e below s₁ F0 T4 (mkF m 11 #[rv ob, rv tb, iv (0 : Int32)] [(.int (0 : Int32)), (.ref ob)]) := by
    intro t k
    refine k4 _ ?_
    skip
    refine XS.aloadN X4.here hx rfl (hb hby djdk_42_m151_9) rfl rfl ?_
    refine XS.iloadN X4.here hx rfl (hb hby djdk_42_m151_10) rfl ?_
    exact k
  have f8 := (FC.other W4 (Or.inr (slot_ne (Or.inr (own_q hw 22 rfl)) (Or.inr (own_q hw 21 rfl)) (by decide) (t := .byte) (t' := (.array .byte)) (by decide) (by decide))))
  have f9 := (EE.wr W4)
  obtain ⟨T7, h7, X7, e7, W7, st7⟩ := putFN X4 hx hZ hown (own_q hw 26 rfl) Via.refl e4 f8 f9 (Or.inr ⟨(own_q hw 22 rfl), rfl, hnm⟩) (own_q hw 7 rfl) (ty := .byte) (v' := (.int (nar .byte (0 : Int32)))) (by decide) rfl (fits_nar_byte _) (g := (mkF m 11 #[rv ob, rv tb, iv (0 : Int32)] [(.int (0 : Int32)), (.ref ob)])) rfl rfl (hb hby djdk_42_m151_11)
  have N7 := Fr.snoc X7 N4 go
  have Fw7 := f8.same W7
  have k7 : Goes p e below s₁ F0 T7 (mkF m 14 #[rv ob, rv tb, iv (0 : Int32)] []) := fun t k => k6 t (st7 _ k)
  have Z10 : n0 ≤ h7.size := Nat.le_trans Z5 (Keep.of_wr W7).1
  have kp11 : Keep h0 h7 [ob] := (((Keep.refl h0 [ob]).wr W4 (Or.inl (List.mem_of_getElem? (i := 0) rfl))).wr W7 (Or.inl (List.mem_of_getElem? (i := 0) rfl)))
  have f12 := (f9.wr W7)
  have f13 := (Fw4.other W7 (Or.inr (slot_ne (Or.inr (own_q hw 21 rfl)) (Or.inr (own_q hw 22 rfl)) (by decide) (t := (.array .byte)) (t' := .byte) (by decide) (by decide))))
  have f14 := ((VT.other W4 ne_.symm).other W7 ne_.symm)
  subst eF0
  obtain ⟨fs, hr, hrun, hended, hW, hsame⟩ := X7.leave (v := none) (fun h => rfl)
  refine ⟨_, _, k7 _ ?_, hrun, hended, _, _, rfl, ?_, ⟨_, rfl⟩, hW, hsame.mono (Nat.le_of_ble_eq_true rfl) (Nat.le_of_ble_eq_true rfl)⟩
  · exact X7.returnOut hx Bd.returns (hb hby djdk_42_m151_14) hr
  · show QSB Z ob tb kt x0 h0 n0 _ T7.heap _
    rw [e7]
    exact ⟨rfl, N7, kp11, tb, kt, f12, Fw7, f13, (by have V := f14; rw [own_narb] at V; exact V), (fun c hc => by rw [List.mem_singleton.mp hc]; exact hx0), Nat.le_of_ble_eq_true rfl⟩
theorem ef_VO (m : MethodId) (x0 : Int32) : entryFrame m #[(.int x0)] 1 = mkF m 0 #[iv x0] [] := by first | (simp [entryFrame, mkF, argsToLocals, Value.category]; done) | rfl
def QVO (Z : State) (x0 : Int32) (cs : Int32) (h0 : Heap) (n0 : Nat) (v : Option Value) (h : Heap) (L : List Loc) : Prop := ∃ r, v = some (.ref r) ∧ Fr n0 L ∧ Keep h0 h [] ∧ own_Str Z h r [x0]
set_option maxRecDepth 65536 in
set_option maxHeartbeats 40000000 in
theorem rmVO (l : Launch) (Z : State) (a0 : Array Value) (hw : ∀ d ∈ tables_1, d.before a0 Z = true) (ws : List Jvm.Cond) (x0 : Int32) (cs : Int32) (h0 : Heap) (n0 : Nat) (Z0 : n0 ≤ h0.size) (hx0 : ¬ x0 < (0 : Int32) ∧ ¬ (255 : Int32) < x0) (S1 : Sta Z Z.heap "java/lang/String" "COMPACT_STRINGS" "Z" (.int cs)) (hcs : ¬ cs = (0 : Int32)) (XO : Old Z n0 h0) :
    MetFree l (⟨"java/lang/String", "valueOf", "(C)Ljava/lang/String;"⟩ : MethodName) (head1 (Jvm.Cond.code (⟨"java/lang/String", "valueOf", "(C)Ljava/lang/String;"⟩ : MethodName) jdk_42_method_139_code 1 (some (.object "java/lang/String")) :: ws) ({ frames := 2, cells := 2, slots := 5, locals := 30 } : Room)) (fun A_ U => A_ = #[(.int x0)] ∧ Z.Warmed39 U.vm ∧ U.heap = h0) (fun _ _ _ _ _ => True) (fun _ U o U' => ∃ v L, o = .returned v ∧ QVO Z x0 cs h0 n0 v U'.heap L ∧ FrameEnd U o U' L ({ frames := 2, cells := 2, slots := 5, locals := 30 } : Room).cells ({ frames := 2, cells := 2, slots := 5, locals := 30 } : Room).slots) := by
  refine MetFree.of_bodySF (plainFor_of_name pn_4) hisR ?_
  intro p e s m args below meth c s₁ Bd hml0 hP hK
  obtain ⟨rfl, hZ, hh⟩ := hP
  have hx := Bd.exec
  have hby := Bd.bytes
  have hml : c.maxLocals = 1 := hml0
  have hown : s.vm.findClass "java/lang/String" = some m.cls := findClass_of_methodNamed Bd.named
  have hnm := (name_of_methodNamed Bd.named Bd.method).1
  have X0 : Stand p l e ({ frames := 2, cells := 2, slots := 5, locals := 30 } : Room) s m #[(.int x0)] below meth c s₁ [] 0 0 := Stand.of_body Bd
  have e0 : s₁.heap = h0 := by rw [← hh, Bd.state]; rfl
  have N0 := Fr.nil n0
  obtain ⟨F0, eF0⟩ : ∃ f : JFrame, f = entryFrame m #[(.int x0)] 1 := ⟨_, rfl⟩
  have k0 : Goes p e below s₁ F0 s₁ (mkF m 0 #[iv x0] []) := fun t k => by subst eF0; exact castTop (ef_VO m x0) k
  obtain ⟨T1, X1, e1, st1⟩ := getS (host := "") X0 hx hZ hown (own_q hw 52 rfl) Via.refl e0 (S1.ext XO.2) (g := (mkF m 0 #[iv x0] [])) rfl (hb hby djdk_42_m139_0)
  have k1 : Goes p e below s₁ F0 T1 (mkF m 3 #[iv x0] [(.int cs)]) := fun t k => k0 t (st1 _ k)
  have k2 : Goes p e below s₁ F0 T1 (mkF m 7 #[iv x0] [(.int x0)]) := by
    intro t k
    refine k1 _ ?_
    skip
    refine XS.ifNo X1.here hx rfl (hb hby djdk_42_m139_3) rfl ((if0 _ _).trans (feq hcs).1) ?_
    refine XS.iloadN X1.here hx rfl (hb hby djdk_42_m139_6) rfl ?_
    exact k
  obtain ⟨_, _, ⟨T3, L3, ck3, nk3⟩, -, X3, ⟨Lc3, hQ3, l3, y3, z3⟩, st3⟩ := Jvm.LawKit.callS X1 hx (y := (⟨"java/lang/StringLatin1", "canEncode", "(C)Z"⟩ : MethodName)) hown (mvT hZ (own_q hw 89 rfl)) (mvT hZ (own_q hw 90 rfl)) (mvT hZ (own_q hw 91 rfl)) (mvT hZ (own_q hw 92 rfl)) (by decide) (backOf (W := 0) (rmCE l Z a0 hw [] x0 h0 n0 Z0 hx0) hZ (own_q hw 92 rfl) (own_q hw 91 rfl) (by decide) (by decide)) (g := (mkF m 7 #[iv x0] [(.int x0)])) rfl (by rw [hml]; rfl) (argsL := [(.int x0)]) (rest := []) (lenOf pd_6 rfl) rfl (by show 2 * 0 + _ ≤ _; exact Nat.le_of_eq rfl) (hb hby djdk_42_m139_7) (fun _ _ => ⟨rfl, e1, (by decide : 0 + 0 ≤ _), (by decide : 0 + 0 ≤ _)⟩)
  dsimp only [Pt.U, Pt.locs, Pt.cells, Pt.slots] at X3 l3 y3 z3 st3 hQ3
  subst l3 y3 z3
  obtain ⟨rfl, N3q, e3⟩ := hQ3
  have N3 := Fr.app N0 N3q
  have k3 : Goes p e below s₁ F0 T3 (mkF m 10 #[iv x0] [(.int (1 : Int32))]) := fun t k => k2 t (st3 _ k)
  have k4 : Goes p e below s₁ F0 T3 (mkF m 13 #[iv x0] []) := by
    intro t k
    refine k3 _ ?_
    skip
    refine XS.ifNo X3.here hx rfl (hb hby djdk_42_m139_10) rfl ((if0 _ _).trans (feq (by decide)).1) ?_
    exact k
  obtain ⟨T5, h5, X5, e5, E5, A5, D5, -, st5⟩ := newO X3 hx hZ hown (own_q hw 93 rfl) (own_q hw 7 rfl) (own_q hw 8 rfl) e3 (g := (mkF m 13 #[iv x0] [])) rfl (hb hby djdk_42_m139_13) (by decide) (by decide)
  obtain ⟨b5, g5⟩ : ∃ z, z = h0.size := ⟨_, rfl⟩
  rw [← g5] at A5 D5 st5
  have g_b5 : n0 ≤ b5 := Nat.le_trans Z0 (Nat.le_of_eq g5.symm)
  have sz_b5 : h0.size ≤ b5 := Nat.le_trans (Keep.refl h0 []).1 (Nat.le_of_eq g5.symm)
  have F5_value : Fld Z h5 b5 "java/lang/String" "value" "[B" .null := D5 (Or.inr (own_q hw 21 rfl)) (ty := (.array .byte)) (by decide)
  have F5_coder : Fld Z h5 b5 "java/lang/String" "coder" "B" (.int (0 : Int32)) := D5 (Or.inr (own_q hw 22 rfl)) (ty := .byte) (by decide)
  have k5 : Goes p e below s₁ F0 T5 (mkF m 16 #[iv x0] [(.ref b5)]) := fun t k => k4 t (st5 _ k)
  have Z6 : n0 ≤ h5.size := Nat.le_trans Z0 E5.1
  have kp7 : Keep h0 h5 [] := ((Keep.refl h0 []).ext E5)
  have k8 : Goes p e below s₁ F0 T5 (mkF m 18 #[iv x0] [(.int x0), (.ref b5), (.ref b5)]) := by
    intro t k
    refine k5 _ ?_
    skip
    refine XS.dup X5.here hx rfl (hb hby djdk_42_m139_16) rfl rfl ?_
    refine XS.iloadN X5.here hx rfl (hb hby djdk_42_m139_17) rfl ?_
    exact k
  obtain ⟨_, _, ⟨T9, L9, ck9, nk9⟩, -, X9, ⟨Lc9, hQ9, l9, y9, z9⟩, st9⟩ := Jvm.LawKit.callS X5 hx (y := (⟨"java/lang/StringLatin1", "toBytes", "(C)[B"⟩ : MethodName)) hown (mvT hZ (own_q hw 94 rfl)) (mvT hZ (own_q hw 95 rfl)) (mvT hZ (own_q hw 91 rfl)) (mvT hZ (own_q hw 96 rfl)) (by decide) (backOf (W := 2) (rmTB l Z a0 hw [] x0 h5 n0 Z6) hZ (own_q hw 96 rfl) (own_q hw 91 rfl) (by decide) (by decide)) (g := (mkF m 18 #[iv x0] [(.int x0), (.ref b5), (.ref b5)])) rfl (by rw [hml]; rfl) (argsL := [(.int x0)]) (rest := [(.ref b5), (.ref b5)]) (lenOf pd_7 rfl) rfl (by show 2 * 0 + _ ≤ _; exact Nat.le_of_eq rfl) (hb hby djdk_42_m139_18) (fun _ _ => ⟨rfl, e5, (by decide : 1 + 1 ≤ _), (by decide : 4 + 1 ≤ _)⟩)
  dsimp only [Pt.U, Pt.locs, Pt.cells, Pt.slots] at X9 l9 y9 z9 st9 hQ9
  subst l9 y9 z9
  obtain ⟨b9, kb9, rfl, N9q, K9, sz9, gb9, V9⟩ := hQ9
  have N9 := Fr.app N3 N9q
  have k9 : Goes p e below s₁ F0 T9 (mkF m 21 #[iv x0] [(.ref b9), (.ref b5), (.ref b5)]) := fun t k => k8 t (st9 _ k)
  have Z10 : n0 ≤ T9.heap.size := Nat.le_trans Z6 K9.1
  have f11 := (A5.keep K9)
  have f12 := (F5_value.keep K9 nin0)
  have f13 := (F5_coder.keep K9 nin0)
  have k14 : Goes p e below s₁ F0 T9 (mkF m 22 #[iv x0] [(.int (0 : Int32)), (.ref b9), (.ref b5), (.ref b5)]) := by
    intro t k
    refine k9 _ ?_
    skip
    refine XS.iconst X9.here hx rfl (hb hby djdk_42_m139_21) ?_
    exact k
  obtain ⟨_, _, ⟨T15, L15, ck15, nk15⟩, -, X15, ⟨Lc15, hQ15, l15, y15, z15⟩, st15⟩ := X9.specialBack hx (y := (⟨"java/lang/String", "<init>", "([BB)V"⟩ : MethodName)) rfl hown (mvT hZ (own_q hw 97 rfl)) (mvT hZ (own_q hw 98 rfl)) (mvT hZ (own_q hw 99 rfl)) (by decide) (backOf (W := 1) (rmSB l Z a0 hw [] b5 b9 kb9 x0 T9.heap n0 Z10 f11 g_b5 f12 f13 V9 hx0) hZ (own_q hw 99 rfl) (own_q hw 8 rfl) (by decide) (by decide)) (g := (mkF m 22 #[iv x0] [(.int (0 : Int32)), (.ref b9), (.ref b5), (.ref b5)])) rfl (by rw [hml]; rfl) (Steps.refl _) (a := b5) (argsL := [(.ref b9), (.int (0 : Int32))]) (rest := [(.ref b5)]) (lenOf pd_8 rfl) rfl (by show 2 * 0 + _ ≤ _; exact Nat.le_of_eq rfl) (hb hby djdk_42_m139_22) (fun _ _ => ⟨rfl, rfl, (by decide : 2 + 0 ≤ _), (by decide : 5 + 0 ≤ _)⟩)
  dsimp only [Pt.U, Pt.locs, Pt.cells, Pt.slots] at X15 l15 y15 z15 st15 hQ15
  subst l15 y15 z15
  obtain ⟨rfl, N15q, K15, TS15⟩ := hQ15
  have N15 := Fr.app N9 N15q
  have k15 : Goes p e below s₁ F0 T15 (mkF m 25 #[iv x0] [(.ref b5)]) := fun t k => k14 t (st15.trans k)
  have Z16 : n0 ≤ T15.heap.size := Nat.le_trans Z10 K15.1
  have kp17 : Keep h0 T15.heap [] := ((kp7.trans K9 all0).trans K15 (allS (Or.inr sz_b5) all0))
  subst eF0
  obtain ⟨fs, hr, hrun, hended, hW, hsame⟩ := X15.leave (v := some (.ref b5)) (fun h => by rw [Bd.returns] at h; cases h)
  refine ⟨_, _, k15 _ ?_, hrun, hended, _, _, rfl, ?_, ⟨_, rfl⟩, hW, hsame.mono (Nat.le_of_ble_eq_true rfl) (Nat.le_of_ble_eq_true rfl)⟩
  · exact retOut X15 hx Bd.returns rfl (Or.inr (Or.inr (Or.inr (Or.inr ⟨rfl, rfl, rfl⟩)))) (hb hby djdk_42_m139_25) hr
  · show QVO Z x0 cs h0 n0 _ T15.heap _
    skip
    exact ⟨_, rfl, N15, kp17, TS15⟩
theorem ef_Mk1 (m : MethodId) (x0 : Int32) (x1 : Int32) (x2 : Int32) (x3 : Int32) : entryFrame m #[(.int x0), (.int x1), (.int x2), (.int x3)] 4 = mkF m 0 #[iv x0, iv x1, iv x2, iv x3] [] := by first | (simp [entryFrame, mkF, argsToLocals, Value.category]; done) | rfl
def QMk1 (Z : State) (x0 : Int32) (x1 : Int32) (x2 : Int32) (cs : Int32) (h0 : Heap) (n0 : Nat) (v : Option Value) (h : Heap) (L : List Loc) : Prop := ∃ r, v = some (.ref r) ∧ Fr n0 L ∧ Keep h0 h [] ∧ own_Str Z h r [x0]
set_option maxRecDepth 65536 in
set_option maxHeartbeats 40000000 in
theorem rmMk1 (l : Launch) (Z : State) (a0 : Array Value) (hw : ∀ d ∈ tables_1, d.before a0 Z = true) (ws : List Jvm.Cond) (x0 : Int32) (x1 : Int32) (x2 : Int32) (cs : Int32) (h0 : Heap) (n0 : Nat) (Z0 : n0 ≤ h0.size) (hx0 : ¬ x0 < (0 : Int32) ∧ ¬ (255 : Int32) < x0) (hx1 : ¬ x1 < (0 : Int32) ∧ ¬ (255 : Int32) < x1) (hx2 : ¬ x2 < (0 : Int32) ∧ ¬ (255 : Int32) < x2) (S1 : Sta Z Z.heap "java/lang/String" "COMPACT_STRINGS" "Z" (.int cs)) (hcs : ¬ cs = (0 : Int32)) (XO : Old Z n0 h0) :
    MetFree l (⟨"com/example/catchment/catchment/linkage/EditDistanceBeyondPinLaw", "str", "(ICCC)Ljava/lang/String;"⟩ : MethodName) (head1 (Jvm.Cond.code (⟨"com/example/catchment/catchment/linkage/EditDistanceBeyondPinLaw", "str", "(ICCC)Ljava/lang/String;"⟩ : MethodName) method_3_code 4 (some (.object "java/lang/String")) :: ws) ({ frames := 3, cells := 2, slots := 5, locals := 50 } : Room)) (fun A_ U => A_ = #[(.int (1 : Int32)), (.int x0), (.int x1), (.int x2)] ∧ Z.Warmed39 U.vm ∧ U.heap = h0) (fun _ _ _ _ _ => True) (fun _ U o U' => ∃ v L, o = .returned v ∧ QMk1 Z x0 x1 x2 cs h0 n0 v U'.heap L ∧ FrameEnd U o U' L ({ frames := 3, cells := 2, slots := 5, locals := 50 } : Room).cells ({ frames := 3, cells := 2, slots := 5, locals := 50 } : Room).slots) := by
  refine MetFree.of_bodySF (plainFor_of_name pn_0) hisR ?_
  intro p e s m args below meth c s₁ Bd hml0 hP hK
  obtain ⟨rfl, hZ, hh⟩ := hP
  have hx := Bd.exec
  have hby := Bd.bytes
  have hml : c.maxLocals = 4 := hml0
  have hown : s.vm.findClass "com/example/catchment/catchment/linkage/EditDistanceBeyondPinLaw" = some m.cls := findClass_of_methodNamed Bd.named
  have hnm := (name_of_methodNamed Bd.named Bd.method).1
  have X0 : Stand p l e ({ frames := 3, cells := 2, slots := 5, locals := 50 } : Room) s m #[(.int (1 : Int32)), (.int x0), (.int x1), (.int x2)] below meth c s₁ [] 0 0 := Stand.of_body Bd
  have e0 : s₁.heap = h0 := by rw [← hh, Bd.state]; rfl
  have N0 := Fr.nil n0
  obtain ⟨F0, eF0⟩ : ∃ f : JFrame, f = entryFrame m #[(.int (1 : Int32)), (.int x0), (.int x1), (.int x2)] 4 := ⟨_, rfl⟩
  have k0 : Goes p e below s₁ F0 s₁ (mkF m 0 #[iv (1 : Int32), iv x0, iv x1, iv x2] []) := fun t k => by subst eF0; exact castTop (ef_Mk1 m ((1 : Int32)) x0 x1 x2) k
  have k1 : Goes p e below s₁ F0 s₁ (mkF m 21 #[iv (1 : Int32), iv x0, iv x1, iv x2] [(.int x0)]) := by
    intro t k
    refine k0 _ ?_
    skip
    refine XS.iloadN X0.here hx rfl (hb hby dm3_0) rfl ?_
    refine XS.ifYes X0.here hx rfl (pc0 := 1) (pc' := 15) rfl (hb hby dm3_1) rfl ((if0 _ _).trans (feq (by decide)).2) (by decide) (by decide) ?_
    refine XS.iloadN X0.here hx rfl (hb hby dm3_15) rfl ?_
    refine XS.iconst X0.here hx rfl (hb hby dm3_16) ?_
    refine XS.icmpNo X0.here hx rfl (hb hby dm3_17) rfl (teq (by decide)).2 ?_
    refine XS.iloadN X0.here hx rfl (hb hby dm3_20) rfl ?_
    exact k
  obtain ⟨_, _, ⟨T2, L2, ck2, nk2⟩, -, X2, ⟨Lc2, hQ2, l2, y2, z2⟩, st2⟩ := Jvm.LawKit.callS X0 hx (y := (⟨"java/lang/String", "valueOf", "(C)Ljava/lang/String;"⟩ : MethodName)) hown (mvT hZ (own_q hw 86 rfl)) (mvT hZ (own_q hw 87 rfl)) (mvT hZ (own_q hw 8 rfl)) (mvT hZ (own_q hw 88 rfl)) (by decide) (backOf (W := 0) (rmVO l Z a0 hw [] x0 cs h0 n0 Z0 hx0 S1 hcs XO) hZ (own_q hw 88 rfl) (own_q hw 8 rfl) (by decide) (by decide)) (g := (mkF m 21 #[iv (1 : Int32), iv x0, iv x1, iv x2] [(.int x0)])) rfl (by rw [hml]; rfl) (argsL := [(.int x0)]) (rest := []) (lenOf pd_9 rfl) rfl (by show 2 * 0 + _ ≤ _; exact Nat.le_of_eq rfl) (hb hby dm3_21) (fun _ _ => ⟨rfl, e0, (by decide : 0 + 2 ≤ _), (by decide : 0 + 5 ≤ _)⟩)
  dsimp only [Pt.U, Pt.locs, Pt.cells, Pt.slots] at X2 l2 y2 z2 st2 hQ2
  subst l2 y2 z2
  obtain ⟨r2, rfl, N2q, K2, TS2⟩ := hQ2
  have N2 := Fr.app N0 N2q
  have k2 : Goes p e below s₁ F0 T2 (mkF m 24 #[iv (1 : Int32), iv x0, iv x1, iv x2] [(.ref r2)]) := fun t k => k1 t (st2 _ k)
  have Z3 : n0 ≤ T2.heap.size := Nat.le_trans Z0 K2.1
  have kp4 : Keep h0 T2.heap [] := ((Keep.refl h0 []).trans K2 all0)
  subst eF0
  obtain ⟨fs, hr, hrun, hended, hW, hsame⟩ := X2.leave (v := some (.ref r2)) (fun h => by rw [Bd.returns] at h; cases h)
  refine ⟨_, _, k2 _ ?_, hrun, hended, _, _, rfl, ?_, ⟨_, rfl⟩, hW, hsame.mono (Nat.le_of_ble_eq_true rfl) (Nat.le_of_ble_eq_true rfl)⟩
  · exact retOut X2 hx Bd.returns rfl (Or.inr (Or.inr (Or.inr (Or.inr ⟨rfl, rfl, rfl⟩)))) (hb hby dm3_24) hr
  · show QMk1 Z x0 x1 x2 cs h0 n0 _ T2.heap _
    skip
    exact ⟨_, rfl, N2, kp4, TS2⟩
theorem ef_S4 (m : MethodId) (x0 : Addr) (x1 : Addr) (x2 : Int32) (x3 : Int32) : entryFrame m #[(.ref x0), (.ref x1), (.int x2), (.int x3), .null] 6 = mkF m 0 #[rv x0, rv x1, iv x2, iv x3, .val .null, .unset] [] := by first | (simp [entryFrame, mkF, argsToLocals, Value.category]; done) | rfl
def QS4 (Z : State) (ob : Addr) (q : Addr) (h0 : Heap) (n0 : Nat) (v : Option Value) (h : Heap) (L : List Loc) : Prop := v = none ∧ Fr n0 L ∧ Keep h0 h [ob] ∧ own_Str Z h ob []
set_option maxRecDepth 65536 in
set_option maxHeartbeats 40000000 in
theorem rmS4 (l : Launch) (Z : State) (a0 : Array Value) (hw : ∀ d ∈ tables_1, d.before a0 Z = true) (ws : List Jvm.Cond) (ob : Addr) (q : Addr) (h0 : Heap) (n0 : Nat) (Z0 : n0 ≤ h0.size) (EE : Exa Z h0 ob "java/lang/String") (go : n0 ≤ ob) (FV : Fld Z h0 ob "java/lang/String" "value" "[B" .null) (FC : Fld Z h0 ob "java/lang/String" "coder" "B" (.int (0 : Int32))) :
    MetFree l (⟨"java/lang/String", "<init>", "([CIILjava/lang/Void;)V"⟩ : MethodName) (head1 (Jvm.Cond.code (⟨"java/lang/String", "<init>", "([CIILjava/lang/Void;)V"⟩ : MethodName) jdk_42_method_149_code 6 none :: ws) ({ frames := 1, cells := 4, slots := 8, locals := 13 } : Room)) (fun A_ U => A_ = #[(.ref ob), (.ref q), (.int (0 : Int32)), (.int (0 : Int32)), .null] ∧ Z.Warmed39 U.vm ∧ U.heap = h0 ∧ CHv Z own_EL U.vm h0) (fun _ _ _ _ _ => True) (fun _ U o U' => ∃ v L, o = .returned v ∧ QS4 Z ob q h0 n0 v U'.heap L ∧ CHr Z own_EL U.vm U.heap U'.vm U'.heap ∧ ReturnedEndW U o U' L ({ frames := 1, cells := 4, slots := 8, locals := 13 } : Room).cells ({ frames := 1, cells := 4, slots := 8, locals := 13 } : Room).slots) := by
  refine MetFree.of_bodySF (plainFor_of_name pn_4) hisR ?_
  intro p e s m args below meth c s₁ Bd hml0 hP hK
  obtain ⟨rfl, hZ, hh, hch0⟩ := hP
  have hx := Bd.exec
  have hby := Bd.bytes
  have hml : c.maxLocals = 6 := hml0
  have hown : s.vm.findClass "java/lang/String" = some m.cls := findClass_of_methodNamed Bd.named
  have hnm := (name_of_methodNamed Bd.named Bd.method).1
  have X0 : Stand p l e ({ frames := 1, cells := 4, slots := 8, locals := 13 } : Room) s m #[(.ref ob), (.ref q), (.int (0 : Int32)), (.int (0 : Int32)), .null] below meth c s₁ [] 0 0 := Stand.of_body Bd
  have e0 : s₁.heap = h0 := by rw [← hh, Bd.state]; rfl
  have N0 := Fr.nil n0
  obtain ⟨F0, eF0⟩ : ∃ f : JFrame, f = entryFrame m #[(.ref ob), (.ref q), (.int (0 : Int32)), (.int (0 : Int32)), .null] 6 := ⟨_, rfl⟩
  have k0 : Goes p e below s₁ F0 s₁ (mkF m 0 #[rv ob, rv q, iv (0 : Int32), iv (0 : Int32), .val .null, .unset] []) := fun t k => by subst eF0; exact castTop (ef_S4 m ob q ((0 : Int32)) ((0 : Int32))) k
  have k1 : Goes p e below s₁ F0 s₁ (mkF m 1 #[rv ob, rv q, iv (0 : Int32), iv (0 : Int32), .val .null, .unset] [(.ref ob)]) := by
    intro t k
    refine k0 _ ?_
    skip
    refine XS.aloadN X0.here hx rfl (hb hby djdk_42_m149_0) rfl rfl ?_
    exact k
  obtain ⟨T2, X2, e2, st2⟩ := initO X0 hx hZ hown (own_q hw 16 rfl) (own_q hw 17 rfl) (own_q hw 18 rfl) e0 (g := (mkF m 1 #[rv ob, rv q, iv (0 : Int32), iv (0 : Int32), .val .null, .unset] [(.ref ob)])) rfl (by rw [hml]; rfl) rfl (hb hby djdk_42_m149_1) (by decide) (W := 0) (by show 2 * 0 + _ ≤ _; exact Nat.le_of_eq rfl) (by decide)
  have k2 : Goes p e below s₁ F0 T2 (mkF m 4 #[rv ob, rv q, iv (0 : Int32), iv (0 : Int32), .val .null, .unset] []) := fun t k => k1 t (st2 _ k)
  have k3 : Goes p e below s₁ F0 T2 (mkF m 9 #[rv ob, rv q, iv (0 : Int32), iv (0 : Int32), .val .null, .unset] [(.ref ob)]) := by
    intro t k
    refine k2 _ ?_
    skip
    refine XS.iloadN X2.here hx rfl (hb hby djdk_42_m149_4) rfl ?_
    refine XS.ifNo X2.here hx rfl (hb hby djdk_42_m149_5) rfl ((if0 _ _).trans (teq (rfl : (0 : Int32) = 0)).2) ?_
    refine XS.aloadN X2.here hx rfl (hb hby djdk_42_m149_8) rfl rfl ?_
    exact k
  obtain ⟨a4_, T4, h4, ks4, bb4, kb4, X4, e4, E4, hS4, hk4, hZ, hown, A4, Fc4, Fv4, V4, -, -, hC4, -, hsf4, st4⟩ := ldcCH (s := s) (vm0 := s.vm) X2 hx hZ hown (own_q hw 19 rfl) (fun d hd => hw d (own_strAt d hd)) e2 ((State.WarmedH.refl s).since 0) (Nat.zero_le _) (own_EW hw) (List.mem_of_getElem? (i := 0) rfl) (CHr.refl hch0).1 (vs := []) (z := (0 : Int32)) (by decide +kernel) (by decide) (by decide) (g := (mkF m 9 #[rv ob, rv q, iv (0 : Int32), iv (0 : Int32), .val .null, .unset] [(.ref ob)])) rfl (hb hby djdk_42_m149_9) (n := 0) (by decide +kernel) (by decide) (by decide) (by decide)
  have k4 : Goes p e below s₁ F0 T4 (mkF m 11 #[rv ob, rv q, iv (0 : Int32), iv (0 : Int32), .val .null, .unset] [(.ref a4_), (.ref ob)]) := fun t k => k3 t (st4 _ k)
  have Z5 : n0 ≤ h4.size := Nat.le_trans Z0 E4.1
  have ch6 : CHr Z own_EL s.vm h0 T4.vm h4 := (CHr.refl hch0).trans hC4
  have f7 := (EE.ext E4)
  have f8 := (FV.ext E4)
  have sf1 : Safe Z own_EL T4.vm h4 ob := own_safe hw hZ.alike f7 f8
  have ne1 := hsf4 ob sf1
  obtain ⟨T9, X9, e9, st9⟩ := getF X4 hx hZ hown (host := "") (Or.inl (own_q hw 25 rfl)) Via.refl e4 Fv4 (g := (mkF m 11 #[rv ob, rv q, iv (0 : Int32), iv (0 : Int32), .val .null, .unset] [(.ref a4_), (.ref ob)])) rfl rfl (hb hby djdk_42_m149_11)
  have k9 : Goes p e below s₁ F0 T9 (mkF m 14 #[rv ob, rv q, iv (0 : Int32), iv (0 : Int32), .val .null, .unset] [(.ref bb4), (.ref ob)]) := fun t k => k4 t (st9 _ k)
  obtain ⟨T10, h10, X10, e10, W10, st10⟩ := putF X9 hx hZ hown (host := "") (Or.inl (own_q hw 25 rfl)) Via.refl e9 f8 f7 (Or.inr ⟨(own_q hw 21 rfl), rfl, hnm⟩) (own_q hw 7 rfl) (ty := (.array .byte)) (by decide) rfl rfl (g := (mkF m 14 #[rv ob, rv q, iv (0 : Int32), iv (0 : Int32), .val .null, .unset] [(.ref bb4), (.ref ob)])) rfl rfl (hb hby djdk_42_m149_14)
  have N10 := Fr.snoc X10 N0 go
  have Fw10 := f8.same W10
  have k10 : Goes p e below s₁ F0 T10 (mkF m 17 #[rv ob, rv q, iv (0 : Int32), iv (0 : Int32), .val .null, .unset] []) := fun t k => k9 t (st10 _ k)
  have Z11 : n0 ≤ h10.size := Nat.le_trans Z5 (Keep.of_wr W10).1
  have zk11 : ks4 ≤ h10.size := Nat.le_trans hk4 (Keep.of_wr W10).1
  have ch12 : CHr Z own_EL s.vm h0 T4.vm h10 := ch6.trans (CHr.wr W10 sf1 ch6.1)
  have sf2 : Safe Z own_EL T4.vm h10 ob := Safe.wr W10 sf1 ch6.1 sf1
  have f13 := (f7.wr W10)
  have lt2 := f13.lt
  have k14 : Goes p e below s₁ F0 T10 (mkF m 18 #[rv ob, rv q, iv (0 : Int32), iv (0 : Int32), .val .null, .unset] [(.ref ob)]) := by
    intro t k
    refine k10 _ ?_
    skip
    refine XS.aloadN X10.here hx rfl (hb hby djdk_42_m149_17) rfl rfl ?_
    exact k
  obtain ⟨a15_, T15, h15, ks15, bb15, kb15, X15, e15, E15, hS15, hk15, hZ, hown, A15, Fc15, Fv15, V15, -, -, hC15, -, hsf15, st15⟩ := ldcCH (s := s) (vm0 := T4.vm) X10 hx hZ hown (own_q hw 19 rfl) (fun d hd => hw d (own_strAt d hd)) e10 hS4 zk11 (own_EW hw) (List.mem_of_getElem? (i := 0) rfl) ch12.1 (vs := []) (z := (0 : Int32)) (by decide +kernel) (by decide) (by decide) (g := (mkF m 18 #[rv ob, rv q, iv (0 : Int32), iv (0 : Int32), .val .null, .unset] [(.ref ob)])) rfl (hb hby djdk_42_m149_18) (n := 0) (by decide +kernel) (by decide) (by decide) (by decide)
  have k15 : Goes p e below s₁ F0 T15 (mkF m 20 #[rv ob, rv q, iv (0 : Int32), iv (0 : Int32), .val .null, .unset] [(.ref a15_), (.ref ob)]) := fun t k => k14 t (st15 _ k)
  have Z16 : n0 ≤ h15.size := Nat.le_trans Z11 E15.1
  have ch17 : CHr Z own_EL s.vm h0 T15.vm h15 := ch12.trans hC15
  have sf3 := CHr.safe hC15 lt2 sf2
  have ne3 := hsf15 ob sf3
  obtain ⟨T18, X18, e18, st18⟩ := getF X15 hx hZ hown (host := "") (Or.inl (own_q hw 26 rfl)) Via.refl e15 Fc15 (g := (mkF m 20 #[rv ob, rv q, iv (0 : Int32), iv (0 : Int32), .val .null, .unset] [(.ref a15_), (.ref ob)])) rfl rfl (hb hby djdk_42_m149_20)
  have k18 : Goes p e below s₁ F0 T18 (mkF m 23 #[rv ob, rv q, iv (0 : Int32), iv (0 : Int32), .val .null, .unset] [(.int (0 : Int32)), (.ref ob)]) := fun t k => k15 t (st18 _ k)
  have f20 := (((FC.ext E4).other W10 (Or.inr (slot_ne (Or.inr (own_q hw 22 rfl)) (Or.inr (own_q hw 21 rfl)) (by decide) (t := .byte) (t' := (.array .byte)) (by decide) (by decide)))).ext E15)
  have f21 := (f13.ext E15)
  obtain ⟨T19, h19, X19, e19, W19, st19⟩ := putFN X18 hx hZ hown (own_q hw 26 rfl) Via.refl e18 f20 f21 (Or.inr ⟨(own_q hw 22 rfl), rfl, hnm⟩) (own_q hw 7 rfl) (ty := .byte) (v' := (.int (nar .byte (0 : Int32)))) (by decide) rfl (fits_nar_byte _) (g := (mkF m 23 #[rv ob, rv q, iv (0 : Int32), iv (0 : Int32), .val .null, .unset] [(.int (0 : Int32)), (.ref ob)])) rfl rfl (hb hby djdk_42_m149_23)
  have N19 := Fr.snoc X19 N10 go
  have Fw19 := f20.same W19
  have k19 : Goes p e below s₁ F0 T19 (mkF m 26 #[rv ob, rv q, iv (0 : Int32), iv (0 : Int32), .val .null, .unset] []) := fun t k => k18 t (st19 _ k)
  have Z22 : n0 ≤ h19.size := Nat.le_trans Z16 (Keep.of_wr W19).1
  have zk22 : ks15 ≤ h19.size := Nat.le_trans hk15 (Keep.of_wr W19).1
  have ch23 : CHr Z own_EL s.vm h0 T15.vm h19 := ch17.trans (CHr.wr W19 sf3 ch17.1)
  have kp24 : Keep h0 h19 [ob] := (((((Keep.refl h0 [ob]).ext E4).wr W10 (Or.inl (List.mem_of_getElem? (i := 0) rfl))).ext E15).wr W19 (Or.inl (List.mem_of_getElem? (i := 0) rfl)))
  have f25 := (f21.wr W19)
  have f26 := ((Fw10.ext E15).other W19 (Or.inr (slot_ne (Or.inr (own_q hw 21 rfl)) (Or.inr (own_q hw 22 rfl)) (by decide) (t := (.array .byte)) (t' := .byte) (by decide) (by decide))))
  have f27 := (((V4.other W10 ne1.2.symm).ext E15).other W19 ne1.2.symm)
  subst eF0
  obtain ⟨fs, hr, hrun, hended, hWe⟩ := Stand.leaveW (s := s) (vm₁ := T15.vm) X19 (n := ks15) hS15 (by rw [e19]; exact zk22) (v := none) (fun h => rfl)
  refine ⟨_, _, k19 _ ?_, hrun, hended, _, _, rfl, ?_, ?_, hWe.1, hWe.2.1, hWe.2.2.1, hWe.2.2.2.mono (Nat.le_of_ble_eq_true rfl) (Nat.le_of_ble_eq_true rfl)⟩
  · exact X19.returnOut hx Bd.returns (hb hby djdk_42_m149_26) hr
  · show QS4 Z ob q h0 n0 _ T19.heap _
    rw [e19]
    exact ⟨rfl, N19, kp24, ⟨bb4, kb4, f25, Fw19, f26, f27, (by simp), (by decide)⟩⟩
  · show CHr Z own_EL s.vm s.heap T19.vm T19.heap
    rw [hh, e19]
    exact ch23.trans (CHv.at (s := s) (vm0 := T15.vm) X19 hZ (own_EW hw) ch23.1)
theorem ef_S1 (m : MethodId) (x0 : Addr) (x1 : Addr) : entryFrame m #[(.ref x0), (.ref x1)] 2 = mkF m 0 #[rv x0, rv x1] [] := by first | (simp [entryFrame, mkF, argsToLocals, Value.category]; done) | rfl
def QS1 (Z : State) (ob : Addr) (q : Addr) (kq : ClassId) (h0 : Heap) (n0 : Nat) (v : Option Value) (h : Heap) (L : List Loc) : Prop := v = none ∧ Fr n0 L ∧ Keep h0 h [ob] ∧ own_Str Z h ob []
set_option maxRecDepth 65536 in
set_option maxHeartbeats 40000000 in
theorem rmS1 (l : Launch) (Z : State) (a0 : Array Value) (hw : ∀ d ∈ tables_1, d.before a0 Z = true) (ws : List Jvm.Cond) (ob : Addr) (q : Addr) (kq : ClassId) (h0 : Heap) (n0 : Nat) (Z0 : n0 ≤ h0.size) (EE : Exa Z h0 ob "java/lang/String") (go : n0 ≤ ob) (FV : Fld Z h0 ob "java/lang/String" "value" "[B" .null) (FC : Fld Z h0 ob "java/lang/String" "coder" "B" (.int (0 : Int32))) (VQ : Arv Z h0 q kq .char (0 : Int32) [] (.int (0 : Int32))) :
    MetFree l (⟨"java/lang/String", "<init>", "([C)V"⟩ : MethodName) (head1 (Jvm.Cond.code (⟨"java/lang/String", "<init>", "([C)V"⟩ : MethodName) jdk_42_method_3_code 2 none :: ws) ({ frames := 2, cells := 4, slots := 8, locals := 30 } : Room)) (fun A_ U => A_ = #[(.ref ob), (.ref q)] ∧ Z.Warmed39 U.vm ∧ U.heap = h0 ∧ CHv Z own_EL U.vm h0) (fun _ _ _ _ _ => True) (fun _ U o U' => ∃ v L, o = .returned v ∧ QS1 Z ob q kq h0 n0 v U'.heap L ∧ CHr Z own_EL U.vm U.heap U'.vm U'.heap ∧ ReturnedEndW U o U' L ({ frames := 2, cells := 4, slots := 8, locals := 30 } : Room).cells ({ frames := 2, cells := 4, slots := 8, locals := 30 } : Room).slots) := by
  refine MetFree.of_bodySF (plainFor_of_name pn_4) hisR ?_
  intro p e s m args below meth c s₁ Bd hml0 hP hK
  obtain ⟨rfl, hZ, hh, hch0⟩ := hP
  have hx := Bd.exec
  have hby := Bd.bytes
  have hml : c.maxLocals = 2 := hml0
  have hown : s.vm.findClass "java/lang/String" = some m.cls := findClass_of_methodNamed Bd.named
  have hnm := (name_of_methodNamed Bd.named Bd.method).1
  have X0 : Stand p l e ({ frames := 2, cells := 4, slots := 8, locals := 30 } : Room) s m #[(.ref ob), (.ref q)] below meth c s₁ [] 0 0 := Stand.of_body Bd
  have e0 : s₁.heap = h0 := by rw [← hh, Bd.state]; rfl
  have N0 := Fr.nil n0
  obtain ⟨F0, eF0⟩ : ∃ f : JFrame, f = entryFrame m #[(.ref ob), (.ref q)] 2 := ⟨_, rfl⟩
  have k0 : Goes p e below s₁ F0 s₁ (mkF m 0 #[rv ob, rv q] []) := fun t k => by subst eF0; exact castTop (ef_S1 m ob q) k
  obtain ⟨cl1, Ar1, qk1, Sz1, Nn1, Hs1, Gs1⟩ := id VQ
  have k2 : Goes p e below s₁ F0 s₁ (mkF m 6 #[rv ob, rv q] [.null, (.int (0 : Int32)), (.int (0 : Int32)), (.ref q), (.ref ob)]) := by
    intro t k
    refine k0 _ ?_
    skip
    refine XS.aloadN X0.here hx rfl (hb hby djdk_42_m3_0) rfl rfl ?_
    refine XS.aloadN X0.here hx rfl (hb hby djdk_42_m3_1) rfl rfl ?_
    refine XS.iconst X0.here hx rfl (hb hby djdk_42_m3_2) ?_
    refine XS.aloadN X0.here hx rfl (hb hby djdk_42_m3_3) rfl rfl ?_
    refine X0.arraylength hx (by rw [e0]; exact Ar1.1) (State.isArrayOf_alike hZ.alike Ar1.2.1) (g := (mkF m 4 #[rv ob, rv q] [(.ref q), (.int (0 : Int32)), (.ref q), (.ref ob)])) rfl rfl (hb hby djdk_42_m3_4) _ ?_
    rw [len_of Sz1 Nn1]
    refine XS.aconstNull X0.here hx rfl (hb hby djdk_42_m3_5) ?_
    exact k
  obtain ⟨_, _, ⟨T3, L3, ck3, nk3⟩, -, X3, hS3, gr3, ⟨Lc3, hQ3, l3, y3, z3, hC3⟩, st3⟩ := Stand.specialBackS (s := s.setVm s.vm) X0 hx (y := (⟨"java/lang/String", "<init>", "([CIILjava/lang/Void;)V"⟩ : MethodName)) rfl hown (mvT hZ (own_q hw 12 rfl)) (mvT hZ (own_q hw 13 rfl)) (mvT hZ (own_q hw 15 rfl)) (by decide) (backOfSH (s := s) (W := 0) (rmS4 l Z a0 hw [] ob q h0 n0 Z0 EE go FV FC) hZ (own_q hw 15 rfl) (own_q hw 8 rfl) (by decide) (by decide) (own_EW hw) (CHr.refl hch0).1) (g := (mkF m 6 #[rv ob, rv q] [.null, (.int (0 : Int32)), (.int (0 : Int32)), (.ref q), (.ref ob)])) rfl (by rw [hml]; rfl) (Steps.refl _) (a := ob) (argsL := [(.ref q), (.int (0 : Int32)), (.int (0 : Int32)), .null]) (rest := []) (lenOf pd_10 rfl) rfl (by show 2 * 0 + _ ≤ _; exact Nat.le_of_eq rfl) (hb hby djdk_42_m3_6) (fun _ _ => ⟨rfl, e0, (by decide : 0 + 4 ≤ _), (by decide : 0 + 8 ≤ _)⟩)
  dsimp only [Pt.U, Pt.locs, Pt.cells, Pt.slots] at X3 l3 y3 z3 st3 hQ3 hS3 gr3 hC3
  subst l3 y3 z3
  obtain ⟨rfl, N3q, K3, TS3⟩ := hQ3
  have N3 := Fr.app N0 N3q
  obtain ⟨X3, hSn3, hZ, hown⟩ := rebS (s := s) (vm0 := s.vm) (vm1 := T3.vm) ((State.WarmedH.refl s).since 0) (by rw [e0]; exact (Nat.zero_le _)) X3 hS3 gr3 hZ hown
  have k3 : Goes p e below s₁ F0 T3 (mkF m 9 #[rv ob, rv q] []) := fun t k => k2 t (st3.trans k)
  have Z4 : n0 ≤ T3.heap.size := Nat.le_trans Z0 K3.1
  have ch5 : CHr Z own_EL s.vm h0 T3.vm T3.heap := (CHr.refl hch0).trans hC3
  have kp6 : Keep h0 T3.heap [ob] := ((Keep.refl h0 [ob]).trans K3 (allS (Or.inl (List.mem_of_getElem? (i := 0) rfl)) all0))
  subst eF0
  obtain ⟨fs, hr, hrun, hended, hWe⟩ := Stand.leaveW (s := s) (vm₁ := T3.vm) X3 (n := T3.heap.size) hSn3 (Nat.le_refl _) (v := none) (fun h => rfl)
  refine ⟨_, _, k3 _ ?_, hrun, hended, _, _, rfl, ?_, ?_, hWe.1, hWe.2.1, hWe.2.2.1, hWe.2.2.2.mono (Nat.le_of_ble_eq_true rfl) (Nat.le_of_ble_eq_true rfl)⟩
  · exact X3.returnOut hx Bd.returns (hb hby djdk_42_m3_9) hr
  · show QS1 Z ob q kq h0 n0 _ T3.heap _
    skip
    exact ⟨rfl, N3, kp6, TS3⟩
  · show CHr Z own_EL s.vm s.heap T3.vm T3.heap
    rw [hh]
    exact ch5.trans (CHv.at (s := s) (vm0 := T3.vm) X3 hZ (own_EW hw) ch5.1)
theorem ef_Mk0 (m : MethodId) (x0 : Int32) (x1 : Int32) (x2 : Int32) (x3 : Int32) : entryFrame m #[(.int x0), (.int x1), (.int x2), (.int x3)] 4 = mkF m 0 #[iv x0, iv x1, iv x2, iv x3] [] := by first | (simp [entryFrame, mkF, argsToLocals, Value.category]; done) | rfl
def QMk0 (Z : State) (x0 : Int32) (x1 : Int32) (x2 : Int32) (h0 : Heap) (n0 : Nat) (v : Option Value) (h : Heap) (L : List Loc) : Prop := ∃ r, v = some (.ref r) ∧ Fr n0 L ∧ Keep h0 h [] ∧ own_Str Z h r []
set_option maxRecDepth 65536 in
set_option maxHeartbeats 40000000 in
theorem rmMk0 (l : Launch) (Z : State) (a0 : Array Value) (hw : ∀ d ∈ tables_1, d.before a0 Z = true) (ws : List Jvm.Cond) (x0 : Int32) (x1 : Int32) (x2 : Int32) (h0 : Heap) (n0 : Nat) (Z0 : n0 ≤ h0.size)  :
    MetFree l (⟨"com/example/catchment/catchment/linkage/EditDistanceBeyondPinLaw", "str", "(ICCC)Ljava/lang/String;"⟩ : MethodName) (head1 (Jvm.Cond.code (⟨"com/example/catchment/catchment/linkage/EditDistanceBeyondPinLaw", "str", "(ICCC)Ljava/lang/String;"⟩ : MethodName) method_3_code 4 (some (.object "java/lang/String")) :: ws) ({ frames := 3, cells := 6, slots := 12, locals := 44 } : Room)) (fun A_ U => A_ = #[(.int (0 : Int32)), (.int x0), (.int x1), (.int x2)] ∧ Z.Warmed39 U.vm ∧ U.heap = h0 ∧ CHv Z own_EL U.vm h0) (fun _ _ _ _ _ => True) (fun _ U o U' => ∃ v L, o = .returned v ∧ QMk0 Z x0 x1 x2 h0 n0 v U'.heap L ∧ CHr Z own_EL U.vm U.heap U'.vm U'.heap ∧ ReturnedEndW U o U' L ({ frames := 3, cells := 6, slots := 12, locals := 44 } : Room).cells ({ frames := 3, cells := 6, slots := 12, locals := 44 } : Room).slots) := by
  refine MetFree.of_bodySF (plainFor_of_name pn_0) hisR ?_
  intro p e s m args below meth c s₁ Bd hml0 hP hK
  obtain ⟨rfl, hZ, hh, hch0⟩ := hP
  have hx := Bd.exec
  have hby := Bd.bytes
  have hml : c.maxLocals = 4 := hml0
  have hown : s.vm.findClass "com/example/catchment/catchment/linkage/EditDistanceBeyondPinLaw" = some m.cls := findClass_of_methodNamed Bd.named
  have hnm := (name_of_methodNamed Bd.named Bd.method).1
  have X0 : Stand p l e ({ frames := 3, cells := 6, slots := 12, locals := 44 } : Room) s m #[(.int (0 : Int32)), (.int x0), (.int x1), (.int x2)] below meth c s₁ [] 0 0 := Stand.of_body Bd
  have e0 : s₁.heap = h0 := by rw [← hh, Bd.state]; rfl
  have N0 := Fr.nil n0
  obtain ⟨F0, eF0⟩ : ∃ f : JFrame, f = entryFrame m #[(.int (0 : Int32)), (.int x0), (.int x1), (.int x2)] 4 := ⟨_, rfl⟩
  have k0 : Goes p e below s₁ F0 s₁ (mkF m 0 #[iv (0 : Int32), iv x0, iv x1, iv x2] []) := fun t k => by subst eF0; exact castTop (ef_Mk0 m ((0 : Int32)) x0 x1 x2) k
  have k1 : Goes p e below s₁ F0 s₁ (mkF m 4 #[iv (0 : Int32), iv x0, iv x1, iv x2] []) := by
    intro t k
    refine k0 _ ?_
    skip
    refine XS.iloadN X0.here hx rfl (hb hby dm3_0) rfl ?_
    refine XS.ifNo X0.here hx rfl (hb hby dm3_1) rfl ((if0 _ _).trans (teq (rfl : (0 : Int32) = 0)).2) ?_
    exact k
  obtain ⟨T2, h2, X2, e2, E2, A2, D2, -, st2⟩ := newO X0 hx hZ hown (own_q hw 6 rfl) (own_q hw 7 rfl) (own_q hw 8 rfl) e0 (g := (mkF m 4 #[iv (0 : Int32), iv x0, iv x1, iv x2] [])) rfl (hb hby dm3_4) (by decide) (by decide)
  obtain ⟨b2, g2⟩ : ∃ z, z = h0.size := ⟨_, rfl⟩
  rw [← g2] at A2 D2 st2
  have g_b2 : n0 ≤ b2 := Nat.le_trans Z0 (Nat.le_of_eq g2.symm)
  have sz_b2 : h0.size ≤ b2 := Nat.le_trans (Keep.refl h0 []).1 (Nat.le_of_eq g2.symm)
  have F2_value : Fld Z h2 b2 "java/lang/String" "value" "[B" .null := D2 (Or.inr (own_q hw 21 rfl)) (ty := (.array .byte)) (by decide)
  have F2_coder : Fld Z h2 b2 "java/lang/String" "coder" "B" (.int (0 : Int32)) := D2 (Or.inr (own_q hw 22 rfl)) (ty := .byte) (by decide)
  have k2 : Goes p e below s₁ F0 T2 (mkF m 7 #[iv (0 : Int32), iv x0, iv x1, iv x2] [(.ref b2)]) := fun t k => k1 t (st2 _ k)
  have Z3 : n0 ≤ h2.size := Nat.le_trans Z0 E2.1
  have ch4 : CHr Z own_EL s.vm h0 s.vm h2 := (CHr.refl hch0).trans (CHr.ext E2 (CHr.refl hch0).1)
  have k5 : Goes p e below s₁ F0 T2 (mkF m 9 #[iv (0 : Int32), iv x0, iv x1, iv x2] [(.int (0 : Int32)), (.ref b2), (.ref b2)]) := by
    intro t k
    refine k2 _ ?_
    skip
    refine XS.dup X2.here hx rfl (hb hby dm3_7) rfl rfl ?_
    refine XS.iconst X2.here hx rfl (hb hby dm3_8) ?_
    exact k
  have kp7 : Keep h0 h2 [] := ((Keep.refl h0 []).ext E2)
  obtain ⟨T6, h6, k6_, X6, e6, E6, A6, st6⟩ := newP X2 hx hZ (own_q hw 0 rfl) e2 (g := (mkF m 9 #[iv (0 : Int32), iv x0, iv x1, iv x2] [(.int (0 : Int32)), (.ref b2), (.ref b2)])) rfl (hb hby dm3_9) rfl (by decide : ¬ ((0 : Int32) < (0 : Int32))) (cap := 0) (by decide : (0 : Int32).toNatClampNeg ≤ 0) (by decide) (by decide) (by decide)
  obtain ⟨b6, g6⟩ : ∃ z, z = h2.size := ⟨_, rfl⟩
  rw [← g6] at A6 st6
  have ne_b2_b6 : b2 ≠ b6 := Nat.ne_of_lt (Nat.lt_of_lt_of_eq A2.lt g6.symm)
  have g_b6 : n0 ≤ b6 := Nat.le_trans Z3 (Nat.le_of_eq g6.symm)
  have sz_b6 : h0.size ≤ b6 := Nat.le_trans kp7.1 (Nat.le_of_eq g6.symm)
  have V6 : Arv Z h6 b6 k6_ .char (0 : Int32) [] (.int (0 : Int32)) := (Arv.new A6 (by decide : ¬ ((0 : Int32) < (0 : Int32)))).pad (pad_rep [] (.int (0 : Int32)) 0)
  have k6 : Goes p e below s₁ F0 T6 (mkF m 11 #[iv (0 : Int32), iv x0, iv x1, iv x2] [(.ref b6), (.ref b2), (.ref b2)]) := fun t k => k5 t (st6 _ k)
  have Z8 : n0 ≤ h6.size := Nat.le_trans Z3 E6.1
  have ch9 : CHr Z own_EL s.vm h0 s.vm h6 := ch4.trans (CHr.ext E6 ch4.1)
  have f10 := (A2.ext E6)
  have f11 := (F2_value.ext E6)
  have f12 := (F2_coder.ext E6)
  obtain ⟨_, _, ⟨T13, L13, ck13, nk13⟩, -, X13, hS13, gr13, ⟨Lc13, hQ13, l13, y13, z13, hC13⟩, st13⟩ := Stand.specialBackS (s := s.setVm s.vm) X6 hx (y := (⟨"java/lang/String", "<init>", "([C)V"⟩ : MethodName)) rfl hown (mvT hZ (own_q hw 9 rfl)) (mvT hZ (own_q hw 10 rfl)) (mvT hZ (own_q hw 11 rfl)) (by decide) (backOfSH (s := s) (W := 1) (rmS1 l Z a0 hw [] b2 b6 k6_ h6 n0 Z8 f10 g_b2 f11 f12 V6) hZ (own_q hw 11 rfl) (own_q hw 8 rfl) (by decide) (by decide) (own_EW hw) ch9.1) (g := (mkF m 11 #[iv (0 : Int32), iv x0, iv x1, iv x2] [(.ref b6), (.ref b2), (.ref b2)])) rfl (by rw [hml]; rfl) (Steps.refl _) (a := b2) (argsL := [(.ref b6)]) (rest := [(.ref b2)]) (lenOf pd_5 rfl) rfl (by show 2 * 0 + _ ≤ _; exact Nat.le_of_eq rfl) (hb hby dm3_11) (fun _ _ => ⟨rfl, e6, (by decide : 2 + 4 ≤ _), (by decide : 4 + 8 ≤ _)⟩)
  dsimp only [Pt.U, Pt.locs, Pt.cells, Pt.slots] at X13 l13 y13 z13 st13 hQ13 hS13 gr13 hC13
  subst l13 y13 z13
  obtain ⟨rfl, N13q, K13, TS13⟩ := hQ13
  have N13 := Fr.app N0 N13q
  obtain ⟨X13, hSn13, hZ, hown⟩ := rebS (s := s) (vm0 := s.vm) (vm1 := T13.vm) ((State.WarmedH.refl s).since 0) (by rw [e6]; exact (Nat.zero_le _)) X13 hS13 gr13 hZ hown
  have k13 : Goes p e below s₁ F0 T13 (mkF m 14 #[iv (0 : Int32), iv x0, iv x1, iv x2] [(.ref b2)]) := fun t k => k6 t (st13.trans k)
  have Z14 : n0 ≤ T13.heap.size := Nat.le_trans Z8 K13.1
  have ch15 : CHr Z own_EL s.vm h0 T13.vm T13.heap := ch9.trans hC13
  have kp16 : Keep h0 T13.heap [] := ((kp7.ext E6).trans K13 (allS (Or.inr sz_b2) all0))
  subst eF0
  obtain ⟨fs, hr, hrun, hended, hWe⟩ := Stand.leaveW (s := s) (vm₁ := T13.vm) X13 (n := T13.heap.size) hSn13 (Nat.le_refl _) (v := some (.ref b2)) (fun h => by rw [Bd.returns] at h; cases h)
  refine ⟨_, _, k13 _ ?_, hrun, hended, _, _, rfl, ?_, ?_, hWe.1, hWe.2.1, hWe.2.2.1, hWe.2.2.2.mono (Nat.le_of_ble_eq_true rfl) (Nat.le_of_ble_eq_true rfl)⟩
  · exact retOut X13 hx Bd.returns rfl (Or.inr (Or.inr (Or.inr (Or.inr ⟨rfl, rfl, rfl⟩)))) (hb hby dm3_14) hr
  · show QMk0 Z x0 x1 x2 h0 n0 _ T13.heap _
    skip
    exact ⟨_, rfl, N13, kp16, TS13⟩
  · show CHr Z own_EL s.vm s.heap T13.vm T13.heap
    rw [hh]
    exact ch15.trans (CHv.at (s := s) (vm0 := T13.vm) X13 hZ (own_EW hw) ch15.1)
theorem ef_0 (m : MethodId) (x0 : Int32) (x1 : Int32) (x2 : Int32) : entryFrame m #[(.int x0), (.int x1), (.int x2)] maxLocals = mkF m 0 #[iv x0, iv x1, iv x2, .unset, .unset, .unset, .unset, .unset, .unset, .unset, .unset, .unset, .unset, .unset, .unset, .unset, .unset, .unset, .unset, .unset, .unset] [] := by first | (simp [entryFrame, mkF, argsToLocals, Value.category, maxLocals]; done) | rfl
def Q0 (Z : State) (p1 : Int32) (p2 : Int32) (p3 : Int32) (cs : Int32) (vF : Value) (h0 : Heap) (n0 : Nat) (v : Option Value) (h : Heap) (L : List Loc) : Prop := v = some (.int 1) ∧ Fr n0 L
set_option maxRecDepth 65536 in
set_option maxHeartbeats 40000000 in
theorem rm0 (l : Launch) (Z : State) (a0 : Array Value) (hw : ∀ d ∈ tables_1, d.before a0 Z = true) (ws : List Jvm.Cond) (p1 : Int32) (p2 : Int32) (p3 : Int32) (cs : Int32) (vF : Value) (h0 : Heap) (n0 : Nat) (Z0 : n0 ≤ h0.size) (S1 : Sta Z Z.heap "java/lang/String" "COMPACT_STRINGS" "Z" (.int cs)) (hcs : ¬ cs = (0 : Int32)) (XO : Old Z n0 h0) (S2 : Sta Z Z.heap "jdk/internal/util/Preconditions" "SIOOBE_FORMATTER" "Ljava/util/function/BiFunction;" vF) (rF : vF.isRef = true) :
    MetFree l x (head1 (Jvm.Cond.code x code maxLocals ret :: ws) room_1) (fun A_ U => A_ = #[(.int p1), (.int p2), (.int p3)] ∧ Z.Warmed39 U.vm ∧ U.heap = h0 ∧ CHv Z own_EL U.vm h0) (fun _ _ _ _ _ => True) (fun _ U o U' => ∃ v L, o = .returned v ∧ Q0 Z p1 p2 p3 cs vF h0 n0 v U'.heap L ∧ ReturnedEndW U o U' L 40 1344) := by
  refine MetFree.of_bodySF (plainFor_of_name pn_0) hisR ?_
  intro p e s m args below meth c s₁ Bd hml0 hP hK
  obtain ⟨rfl, hZ, hh, hch0⟩ := hP
  have hx := Bd.exec
  have hby := Bd.bytes
  have hml : c.maxLocals = 21 := hml0
  have hown : s.vm.findClass "com/example/catchment/catchment/linkage/EditDistanceBeyondPinLaw" = some m.cls := findClass_of_methodNamed Bd.named
  have hnm := (name_of_methodNamed Bd.named Bd.method).1
  have X0 : Stand p l e room_1 s m #[(.int p1), (.int p2), (.int p3)] below meth c s₁ [] 0 0 := Stand.of_body Bd
  have e0 : s₁.heap = h0 := by rw [← hh, Bd.state]; rfl
  have N0 := Fr.nil n0
  obtain ⟨F0, eF0⟩ : ∃ f : JFrame, f = entryFrame m #[(.int p1), (.int p2), (.int p3)] maxLocals := ⟨_, rfl⟩
  have k0 : Goes p e below s₁ F0 s₁ (mkF m 0 #[iv p1, iv p2, iv p3, .unset, .unset, .unset, .unset, .unset, .unset, .unset, .unset, .unset, .unset, .unset, .unset, .unset, .unset, .unset, .unset, .unset, .unset] []) := fun t k => by subst eF0; exact castTop (ef_0 m p1 p2 p3) k
  refine Classical.byContradiction fun hG => ?_
  have k1 : Goes p e below s₁ F0 s₁ (mkF m 3 #[iv p1, iv p2, iv p3, .unset, .unset, .unset, .unset, .unset, .unset, .unset, .unset, .unset, .unset, .unset, .unset, .unset, .unset, .unset, .unset, .unset, .unset] [(.int (p3 &&& (3 : Int32)))]) := by
    intro t k
    refine k0 _ ?_
    skip
    refine XS.iloadN X0.here hx rfl (hb hby at_0) rfl ?_
    refine XS.iconst X0.here hx rfl (hb hby at_1) ?_
    refine XS.iand X0.here hx rfl (hb hby at_2) rfl ?_
    exact k
  obtain ⟨li, hli, eli⟩ : ∃ z : Nat, z ≤ 3 ∧ (p3 &&& (3 : Int32)) = Int32.ofNat z := own_and3N _
  rw [eli] at k1
  clear eli
  have k2 : Goes p e below s₁ F0 s₁ (mkF m 9 #[iv p1, iv p2, iv p3, iv (Int32.ofNat li), .unset, .unset, .unset, .unset, .unset, .unset, .unset, .unset, .unset, .unset, .unset, .unset, .unset, .unset, .unset, .unset, .unset] [(.int (((p3.toUInt32 >>> ((2 : Int32) &&& 31).toUInt32).toInt32) &&& (3 : Int32)))]) := by
    intro t k
    refine k1 _ ?_
    skip
    refine XS.istoreN X0.here hx rfl (hb hby at_3) rfl (l' := #[iv p1, iv p2, iv p3, iv (Int32.ofNat li), .unset, .unset, .unset, .unset, .unset, .unset, .unset, .unset, .unset, .unset, .unset, .unset, .unset, .unset, .unset, .unset, .unset]) rfl ?_
    refine XS.iloadN X0.here hx rfl (hb hby at_4) rfl ?_
    refine XS.iconst X0.here hx rfl (hb hby at_5) ?_
    refine XS.iushr X0.here hx rfl (hb hby at_6) rfl ?_
    refine XS.iconst X0.here hx rfl (hb hby at_7) ?_
    refine XS.iand X0.here hx rfl (hb hby at_8) rfl ?_
    exact k
  obtain ⟨vl, hvl, evl⟩ : ∃ z : Nat, z ≤ 3 ∧ (((p3.toUInt32 >>> ((2 : Int32) &&& 31).toUInt32).toInt32) &&& (3 : Int32)) = Int32.ofNat z := own_and3N _
  rw [evl] at k2
  clear evl
  have k3 : Goes p e below s₁ F0 s₁ (mkF m 16 #[iv p1, iv p2, iv p3, iv (Int32.ofNat li), iv (Int32.ofNat vl), .unset, .unset, .unset, .unset, .unset, .unset, .unset, .unset, .unset, .unset, .unset, .unset, .unset, .unset, .unset, .unset] [(.int (((p3.toUInt32 >>> ((4 : Int32) &&& 31).toUInt32).toInt32) &&& (3 : Int32)))]) := by
    intro t k
    refine k2 _ ?_
    skip
    refine XS.istore X0.here hx rfl (hb hby at_9) rfl (l' := #[iv p1, iv p2, iv p3, iv (Int32.ofNat li), iv (Int32.ofNat vl), .unset, .unset, .unset, .unset, .unset, .unset, .unset, .unset, .unset, .unset, .unset, .unset, .unset, .unset, .unset, .unset]) rfl ?_
    refine XS.iloadN X0.here hx rfl (hb hby at_11) rfl ?_
    refine XS.iconst X0.here hx rfl (hb hby at_12) ?_
    refine XS.iushr X0.here hx rfl (hb hby at_13) rfl ?_
    refine XS.iconst X0.here hx rfl (hb hby at_14) ?_
    refine XS.iand X0.here hx rfl (hb hby at_15) rfl ?_
    exact k
  obtain ⟨nt, hnt, ent⟩ : ∃ z : Nat, z ≤ 3 ∧ (((p3.toUInt32 >>> ((4 : Int32) &&& 31).toUInt32).toInt32) &&& (3 : Int32)) = Int32.ofNat z := own_and3N _
  rw [ent] at k3
  clear ent
  have k4 : Goes p e below s₁ F0 s₁ (mkF m 24 #[iv p1, iv p2, iv p3, iv (Int32.ofNat li), iv (Int32.ofNat vl), iv (Int32.ofNat nt), .unset, .unset, .unset, .unset, .unset, .unset, .unset, .unset, .unset, .unset, .unset, .unset, .unset, .unset, .unset] [(.int (((p3.toUInt32 >>> ((6 : Int32) &&& 31).toUInt32).toInt32) &&& (3 : Int32)))]) := by
    intro t k
    refine k3 _ ?_
    skip
    refine XS.istore X0.here hx rfl (hb hby at_16) rfl (l' := #[iv p1, iv p2, iv p3, iv (Int32.ofNat li), iv (Int32.ofNat vl), iv (Int32.ofNat nt), .unset, .unset, .unset, .unset, .unset, .unset, .unset, .unset, .unset, .unset, .unset, .unset, .unset, .unset, .unset]) rfl ?_
    refine XS.iloadN X0.here hx rfl (hb hby at_18) rfl ?_
    refine XS.bipush X0.here hx rfl (hb hby at_19) ?_
    refine XS.iushr X0.here hx rfl (hb hby at_21) rfl ?_
    refine XS.iconst X0.here hx rfl (hb hby at_22) ?_
    refine XS.iand X0.here hx rfl (hb hby at_23) rfl ?_
    exact k
  obtain ⟨ku, hku, eku⟩ : ∃ z : Nat, z ≤ 3 ∧ (((p3.toUInt32 >>> ((6 : Int32) &&& 31).toUInt32).toInt32) &&& (3 : Int32)) = Int32.ofNat z := own_and3N _
  rw [eku] at k4
  clear eku
  have k5 : Goes p e below s₁ F0 s₁ (mkF m 28 #[iv p1, iv p2, iv p3, iv (Int32.ofNat li), iv (Int32.ofNat vl), iv (Int32.ofNat nt), .unset, .unset, .unset, .unset, .unset, .unset, .unset, .unset, .unset, .unset, .unset, .unset, .unset, .unset, .unset] [(.int ((Int32.ofNat nt) + (1 : Int32))), (.int (Int32.ofNat ku))]) := by
    intro t k
    refine k4 _ ?_
    skip
    refine XS.iload X0.here hx rfl (hb hby at_24) rfl ?_
    refine XS.iconst X0.here hx rfl (hb hby at_26) ?_
    refine XS.iadd X0.here hx rfl (hb hby at_27) rfl ?_
    exact k
  rw [show ((Int32.ofNat nt) + (1 : Int32)) = (Int32.ofNat (nt + 1)) from own_add1 nt] at k5
  have hnz := own_nzN hnt
  have k6 : Goes p e below s₁ F0 s₁ (mkF m 29 #[iv p1, iv p2, iv p3, iv (Int32.ofNat li), iv (Int32.ofNat vl), iv (Int32.ofNat nt), .unset, .unset, .unset, .unset, .unset, .unset, .unset, .unset, .unset, .unset, .unset, .unset, .unset, .unset, .unset] [(.int ((Int32.ofNat ku) % (Int32.ofNat (nt + 1))))]) := by
    intro t k
    refine k5 _ ?_
    skip
    refine iremM X0 hx rfl (hb hby at_28) rfl hnz ?_
    exact k
  obtain ⟨kp, hkp, ekp⟩ : ∃ z : Nat, z ≤ nt ∧ ((Int32.ofNat ku) % (Int32.ofNat (nt + 1))) = Int32.ofNat z := own_remK hku hnt
  rw [ekp] at k6
  clear ekp
  have k7 : Goes p e below s₁ F0 s₁ (mkF m 39 #[iv p1, iv p2, iv p3, iv (Int32.ofNat li), iv (Int32.ofNat vl), iv (Int32.ofNat nt), iv (Int32.ofNat kp), iv ((p1 &&& (255 : Int32)).toUInt32.toUInt16.toUInt32.toInt32), .unset, .unset, .unset, .unset, .unset, .unset, .unset, .unset, .unset, .unset, .unset, .unset, .unset] []) := by
    intro t k
    refine k6 _ ?_
    skip
    refine XS.istore X0.here hx rfl (hb hby at_29) rfl (l' := #[iv p1, iv p2, iv p3, iv (Int32.ofNat li), iv (Int32.ofNat vl), iv (Int32.ofNat nt), iv (Int32.ofNat kp), .unset, .unset, .unset, .unset, .unset, .unset, .unset, .unset, .unset, .unset, .unset, .unset, .unset, .unset]) rfl ?_
    refine XS.iloadN X0.here hx rfl (hb hby at_31) rfl ?_
    refine XS.sipush X0.here hx rfl (hb hby at_32) ?_
    refine XS.iand X0.here hx rfl (hb hby at_35) rfl ?_
    refine XS.i2c X0.here hx rfl (hb hby at_36) rfl ?_
    refine XS.istore X0.here hx rfl (hb hby at_37) rfl (l' := #[iv p1, iv p2, iv p3, iv (Int32.ofNat li), iv (Int32.ofNat vl), iv (Int32.ofNat nt), iv (Int32.ofNat kp), iv ((p1 &&& (255 : Int32)).toUInt32.toUInt16.toUInt32.toInt32), .unset, .unset, .unset, .unset, .unset, .unset, .unset, .unset, .unset, .unset, .unset, .unset, .unset]) rfl ?_
    exact k
  obtain ⟨v0, eq_v0⟩ : ∃ z : Int32, z = ((p1 &&& (255 : Int32)).toUInt32.toUInt16.toUInt32.toInt32) := ⟨_, rfl⟩
  rw [← eq_v0] at k7
  have hv0 : ¬ v0 < (0 : Int32) ∧ ¬ (255 : Int32) < v0 := by rw [eq_v0, own_i2c]; exact own_255 _
  clear eq_v0
  have k8 : Goes p e below s₁ F0 s₁ (mkF m 50 #[iv p1, iv p2, iv p3, iv (Int32.ofNat li), iv (Int32.ofNat vl), iv (Int32.ofNat nt), iv (Int32.ofNat kp), iv v0, iv ((((p1.toUInt32 >>> ((8 : Int32) &&& 31).toUInt32).toInt32) &&& (255 : Int32)).toUInt32.toUInt16.toUInt32.toInt32), .unset, .unset, .unset, .unset, .unset, .unset, .unset, .unset, .unset, .unset, .unset, .unset] []) := by
    intro t k
    refine k7 _ ?_
    skip
    refine XS.iloadN X0.here hx rfl (hb hby at_39) rfl ?_
    refine XS.bipush X0.here hx rfl (hb hby at_40) ?_
    refine XS.iushr X0.here hx rfl (hb hby at_42) rfl ?_
    refine XS.sipush X0.here hx rfl (hb hby at_43) ?_
    refine XS.iand X0.here hx rfl (hb hby at_46) rfl ?_
    refine XS.i2c X0.here hx rfl (hb hby at_47) rfl ?_
    refine XS.istore X0.here hx rfl (hb hby at_48) rfl (l' := #[iv p1, iv p2, iv p3, iv (Int32.ofNat li), iv (Int32.ofNat vl), iv (Int32.ofNat nt), iv (Int32.ofNat kp), iv v0, iv ((((p1.toUInt32 >>> ((8 : Int32) &&& 31).toUInt32).toInt32) &&& (255 : Int32)).toUInt32.toUInt16.toUInt32.toInt32), .unset, .unset, .unset, .unset, .unset, .unset, .unset, .unset, .unset, .unset, .unset, .unset]) rfl ?_
    exact k
  obtain ⟨v1, eq_v1⟩ : ∃ z : Int32, z = ((((p1.toUInt32 >>> ((8 : Int32) &&& 31).toUInt32).toInt32) &&& (255 : Int32)).toUInt32.toUInt16.toUInt32.toInt32) := ⟨_, rfl⟩
  rw [← eq_v1] at k8
  have hv1 : ¬ v1 < (0 : Int32) ∧ ¬ (255 : Int32) < v1 := by rw [eq_v1, own_i2c]; exact own_255 _
  clear eq_v1
  have k9 : Goes p e below s₁ F0 s₁ (mkF m 61 #[iv p1, iv p2, iv p3, iv (Int32.ofNat li), iv (Int32.ofNat vl), iv (Int32.ofNat nt), iv (Int32.ofNat kp), iv v0, iv v1, iv ((((p1.toUInt32 >>> ((16 : Int32) &&& 31).toUInt32).toInt32) &&& (255 : Int32)).toUInt32.toUInt16.toUInt32.toInt32), .unset, .unset, .unset, .unset, .unset, .unset, .unset, .unset, .unset, .unset, .unset] []) := by
    intro t k
    refine k8 _ ?_
    skip
    refine XS.iloadN X0.here hx rfl (hb hby at_50) rfl ?_
    refine XS.bipush X0.here hx rfl (hb hby at_51) ?_
    refine XS.iushr X0.here hx rfl (hb hby at_53) rfl ?_
    refine XS.sipush X0.here hx rfl (hb hby at_54) ?_
    refine XS.iand X0.here hx rfl (hb hby at_57) rfl ?_
    refine XS.i2c X0.here hx rfl (hb hby at_58) rfl ?_
    refine XS.istore X0.here hx rfl (hb hby at_59) rfl (l' := #[iv p1, iv p2, iv p3, iv (Int32.ofNat li), iv (Int32.ofNat vl), iv (Int32.ofNat nt), iv (Int32.ofNat kp), iv v0, iv v1, iv ((((p1.toUInt32 >>> ((16 : Int32) &&& 31).toUInt32).toInt32) &&& (255 : Int32)).toUInt32.toUInt16.toUInt32.toInt32), .unset, .unset, .unset, .unset, .unset, .unset, .unset, .unset, .unset, .unset, .unset]) rfl ?_
    exact k
  obtain ⟨v2, eq_v2⟩ : ∃ z : Int32, z = ((((p1.toUInt32 >>> ((16 : Int32) &&& 31).toUInt32).toInt32) &&& (255 : Int32)).toUInt32.toUInt16.toUInt32.toInt32) := ⟨_, rfl⟩
  rw [← eq_v2] at k9
  have hv2 : ¬ v2 < (0 : Int32) ∧ ¬ (255 : Int32) < v2 := by rw [eq_v2, own_i2c]; exact own_255 _
  clear eq_v2
  have k10 : Goes p e below s₁ F0 s₁ (mkF m 69 #[iv p1, iv p2, iv p3, iv (Int32.ofNat li), iv (Int32.ofNat vl), iv (Int32.ofNat nt), iv (Int32.ofNat kp), iv v0, iv v1, iv v2, iv ((p2 &&& (255 : Int32)).toUInt32.toUInt16.toUInt32.toInt32), .unset, .unset, .unset, .unset, .unset, .unset, .unset, .unset, .unset, .unset] []) := by
    intro t k
    refine k9 _ ?_
    skip
    refine XS.iloadN X0.here hx rfl (hb hby at_61) rfl ?_
    refine XS.sipush X0.here hx rfl (hb hby at_62) ?_
    refine XS.iand X0.here hx rfl (hb hby at_65) rfl ?_
    refine XS.i2c X0.here hx rfl (hb hby at_66) rfl ?_
    refine XS.istore X0.here hx rfl (hb hby at_67) rfl (l' := #[iv p1, iv p2, iv p3, iv (Int32.ofNat li), iv (Int32.ofNat vl), iv (Int32.ofNat nt), iv (Int32.ofNat kp), iv v0, iv v1, iv v2, iv ((p2 &&& (255 : Int32)).toUInt32.toUInt16.toUInt32.toInt32), .unset, .unset, .unset, .unset, .unset, .unset, .unset, .unset, .unset, .unset]) rfl ?_
    exact k
  obtain ⟨t0, eq_t0⟩ : ∃ z : Int32, z = ((p2 &&& (255 : Int32)).toUInt32.toUInt16.toUInt32.toInt32) := ⟨_, rfl⟩
  rw [← eq_t0] at k10
  have ht0 : ¬ t0 < (0 : Int32) ∧ ¬ (255 : Int32) < t0 := by rw [eq_t0, own_i2c]; exact own_255 _
  clear eq_t0
  have k11 : Goes p e below s₁ F0 s₁ (mkF m 80 #[iv p1, iv p2, iv p3, iv (Int32.ofNat li), iv (Int32.ofNat vl), iv (Int32.ofNat nt), iv (Int32.ofNat kp), iv v0, iv v1, iv v2, iv t0, iv ((((p2.toUInt32 >>> ((8 : Int32) &&& 31).toUInt32).toInt32) &&& (255 : Int32)).toUInt32.toUInt16.toUInt32.toInt32), .unset, .unset, .unset, .unset, .unset, .unset, .unset, .unset, .unset] []) := by
    intro t k
    refine k10 _ ?_
    skip
    refine XS.iloadN X0.here hx rfl (hb hby at_69) rfl ?_
    refine XS.bipush X0.here hx rfl (hb hby at_70) ?_
    refine XS.iushr X0.here hx rfl (hb hby at_72) rfl ?_
    refine XS.sipush X0.here hx rfl (hb hby at_73) ?_
    refine XS.iand X0.here hx rfl (hb hby at_76) rfl ?_
    refine XS.i2c X0.here hx rfl (hb hby at_77) rfl ?_
    refine XS.istore X0.here hx rfl (hb hby at_78) rfl (l' := #[iv p1, iv p2, iv p3, iv (Int32.ofNat li), iv (Int32.ofNat vl), iv (Int32.ofNat nt), iv (Int32.ofNat kp), iv v0, iv v1, iv v2, iv t0, iv ((((p2.toUInt32 >>> ((8 : Int32) &&& 31).toUInt32).toInt32) &&& (255 : Int32)).toUInt32.toUInt16.toUInt32.toInt32), .unset, .unset, .unset, .unset, .unset, .unset, .unset, .unset, .unset]) rfl ?_
    exact k
  obtain ⟨t1, eq_t1⟩ : ∃ z : Int32, z = ((((p2.toUInt32 >>> ((8 : Int32) &&& 31).toUInt32).toInt32) &&& (255 : Int32)).toUInt32.toUInt16.toUInt32.toInt32) := ⟨_, rfl⟩
  rw [← eq_t1] at k11
  have ht1 : ¬ t1 < (0 : Int32) ∧ ¬ (255 : Int32) < t1 := by rw [eq_t1, own_i2c]; exact own_255 _
  clear eq_t1
  have k12 : Goes p e below s₁ F0 s₁ (mkF m 91 #[iv p1, iv p2, iv p3, iv (Int32.ofNat li), iv (Int32.ofNat vl), iv (Int32.ofNat nt), iv (Int32.ofNat kp), iv v0, iv v1, iv v2, iv t0, iv t1, iv ((((p2.toUInt32 >>> ((16 : Int32) &&& 31).toUInt32).toInt32) &&& (255 : Int32)).toUInt32.toUInt16.toUInt32.toInt32), .unset, .unset, .unset, .unset, .unset, .unset, .unset, .unset] []) := by
    intro t k
    refine k11 _ ?_
    skip
    refine XS.iloadN X0.here hx rfl (hb hby at_80) rfl ?_
    refine XS.bipush X0.here hx rfl (hb hby at_81) ?_
    refine XS.iushr X0.here hx rfl (hb hby at_83) rfl ?_
    refine XS.sipush X0.here hx rfl (hb hby at_84) ?_
    refine XS.iand X0.here hx rfl (hb hby at_87) rfl ?_
    refine XS.i2c X0.here hx rfl (hb hby at_88) rfl ?_
    refine XS.istore X0.here hx rfl (hb hby at_89) rfl (l' := #[iv p1, iv p2, iv p3, iv (Int32.ofNat li), iv (Int32.ofNat vl), iv (Int32.ofNat nt), iv (Int32.ofNat kp), iv v0, iv v1, iv v2, iv t0, iv t1, iv ((((p2.toUInt32 >>> ((16 : Int32) &&& 31).toUInt32).toInt32) &&& (255 : Int32)).toUInt32.toUInt16.toUInt32.toInt32), .unset, .unset, .unset, .unset, .unset, .unset, .unset, .unset]) rfl ?_
    exact k
  obtain ⟨t2, eq_t2⟩ : ∃ z : Int32, z = ((((p2.toUInt32 >>> ((16 : Int32) &&& 31).toUInt32).toInt32) &&& (255 : Int32)).toUInt32.toUInt16.toUInt32.toInt32) := ⟨_, rfl⟩
  rw [← eq_t2] at k12
  have ht2 : ¬ t2 < (0 : Int32) ∧ ¬ (255 : Int32) < t2 := by rw [eq_t2, own_i2c]; exact own_255 _
  clear eq_t2
  have k13 : Goes p e below s₁ F0 s₁ (mkF m 92 #[iv p1, iv p2, iv p3, iv (Int32.ofNat li), iv (Int32.ofNat vl), iv (Int32.ofNat nt), iv (Int32.ofNat kp), iv v0, iv v1, iv v2, iv t0, iv t1, iv t2, .unset, .unset, .unset, .unset, .unset, .unset, .unset, .unset] [(.int (3 : Int32))]) := by
    intro t k
    refine k12 _ ?_
    skip
    refine XS.iconst X0.here hx rfl (hb hby at_91) ?_
    exact k
  obtain ⟨T14, h14, k14_, X14, e14, E14, A14, st14⟩ := newP X0 hx hZ (own_q hw 0 rfl) e0 (g := (mkF m 92 #[iv p1, iv p2, iv p3, iv (Int32.ofNat li), iv (Int32.ofNat vl), iv (Int32.ofNat nt), iv (Int32.ofNat kp), iv v0, iv v1, iv v2, iv t0, iv t1, iv t2, .unset, .unset, .unset, .unset, .unset, .unset, .unset, .unset] [(.int (3 : Int32))])) rfl (hb hby at_92) rfl (by decide : ¬ ((3 : Int32) < (0 : Int32))) (cap := 3) (by decide : (3 : Int32).toNatClampNeg ≤ 3) (by decide) (by decide) (by decide)
  obtain ⟨b14, g14⟩ : ∃ z, z = h0.size := ⟨_, rfl⟩
  rw [← g14] at A14 st14
  have g_b14 : n0 ≤ b14 := Nat.le_trans Z0 (Nat.le_of_eq g14.symm)
  have sz_b14 : h0.size ≤ b14 := Nat.le_trans (Keep.refl h0 []).1 (Nat.le_of_eq g14.symm)
  have V14 : Arv Z h14 b14 k14_ .char (3 : Int32) [(.int (0 : Int32)), (.int (0 : Int32)), (.int (0 : Int32))] (.int (0 : Int32)) := (Arv.new A14 (by decide : ¬ ((3 : Int32) < (0 : Int32)))).pad (pad_rep [] (.int (0 : Int32)) 3)
  have k14 : Goes p e below s₁ F0 T14 (mkF m 94 #[iv p1, iv p2, iv p3, iv (Int32.ofNat li), iv (Int32.ofNat vl), iv (Int32.ofNat nt), iv (Int32.ofNat kp), iv v0, iv v1, iv v2, iv t0, iv t1, iv t2, .unset, .unset, .unset, .unset, .unset, .unset, .unset, .unset] [(.ref b14)]) := fun t k => k13 t (st14 _ k)
  have Z15 : n0 ≤ h14.size := Nat.le_trans Z0 E14.1
  have k16 : Goes p e below s₁ F0 T14 (mkF m 98 #[iv p1, iv p2, iv p3, iv (Int32.ofNat li), iv (Int32.ofNat vl), iv (Int32.ofNat nt), iv (Int32.ofNat kp), iv v0, iv v1, iv v2, iv t0, iv t1, iv t2, .unset, .unset, .unset, .unset, .unset, .unset, .unset, .unset] [(.int v0), (.int (0 : Int32)), (.ref b14), (.ref b14)]) := by
    intro t k
    refine k14 _ ?_
    skip
    refine XS.dup X14.here hx rfl (hb hby at_94) rfl rfl ?_
    refine XS.iconst X14.here hx rfl (hb hby at_95) ?_
    refine XS.iload X14.here hx rfl (hb hby at_96) rfl ?_
    exact k
  obtain ⟨cl17, Ar17, qk17, Sz17, Nn17, Hs17, Gs17⟩ := id V14
  obtain ⟨T18, h18, X18, e18, W18, st18⟩ := stC X14 hx hZ e14 Ar17 (j := (0 : Int32)) (inb_of Sz17 (by decide)) (g := (mkF m 98 #[iv p1, iv p2, iv p3, iv (Int32.ofNat li), iv (Int32.ofNat vl), iv (Int32.ofNat nt), iv (Int32.ofNat kp), iv v0, iv v1, iv v2, iv t0, iv t1, iv t2, .unset, .unset, .unset, .unset, .unset, .unset, .unset, .unset] [(.int v0), (.int (0 : Int32)), (.ref b14), (.ref b14)])) rfl rfl (hb hby at_98)
  have N18 := Fr.snoc X18 N0 g_b14
  have V18 : Arv Z h18 b14 k14_ .char (3 : Int32) [(.int (nar .char v0)), (.int (0 : Int32)), (.int (0 : Int32))] (.int (0 : Int32)) := Arv.set Ar17 qk17 Sz17 Nn17 Hs17 Gs17 (fits_nar_char _) W18 0 rfl (Nat.le_of_ble_eq_true rfl)
  have k18 : Goes p e below s₁ F0 T18 (mkF m 99 #[iv p1, iv p2, iv p3, iv (Int32.ofNat li), iv (Int32.ofNat vl), iv (Int32.ofNat nt), iv (Int32.ofNat kp), iv v0, iv v1, iv v2, iv t0, iv t1, iv t2, .unset, .unset, .unset, .unset, .unset, .unset, .unset, .unset] [(.ref b14)]) := fun t k => k16 t (st18 _ k)
  have Z19 : n0 ≤ h18.size := Nat.le_trans Z15 (Keep.of_wr W18).1
  rw [own_narc hv0] at V18
  have k20 : Goes p e below s₁ F0 T18 (mkF m 103 #[iv p1, iv p2, iv p3, iv (Int32.ofNat li), iv (Int32.ofNat vl), iv (Int32.ofNat nt), iv (Int32.ofNat kp), iv v0, iv v1, iv v2, iv t0, iv t1, iv t2, .unset, .unset, .unset, .unset, .unset, .unset, .unset, .unset] [(.int v1), (.int (1 : Int32)), (.ref b14), (.ref b14)]) := by
    intro t k
    refine k18 _ ?_
    skip
    refine XS.dup X18.here hx rfl (hb hby at_99) rfl rfl ?_
    refine XS.iconst X18.here hx rfl (hb hby at_100) ?_
    refine XS.iload X18.here hx rfl (hb hby at_101) rfl ?_
    exact k
  obtain ⟨cl21, Ar21, qk21, Sz21, Nn21, Hs21, Gs21⟩ := id V18
  obtain ⟨T22, h22, X22, e22, W22, st22⟩ := stC X18 hx hZ e18 Ar21 (j := (1 : Int32)) (inb_of Sz21 (by decide)) (g := (mkF m 103 #[iv p1, iv p2, iv p3, iv (Int32.ofNat li), iv (Int32.ofNat vl), iv (Int32.ofNat nt), iv (Int32.ofNat kp), iv v0, iv v1, iv v2, iv t0, iv t1, iv t2, .unset, .unset, .unset, .unset, .unset, .unset, .unset, .unset] [(.int v1), (.int (1 : Int32)), (.ref b14), (.ref b14)])) rfl rfl (hb hby at_103)
  have N22 := Fr.snoc X22 N18 g_b14
  have V22 : Arv Z h22 b14 k14_ .char (3 : Int32) [(.int v0), (.int (nar .char v1)), (.int (0 : Int32))] (.int (0 : Int32)) := Arv.set Ar21 qk21 Sz21 Nn21 Hs21 Gs21 (fits_nar_char _) W22 1 rfl (Nat.le_of_ble_eq_true rfl)
  have k22 : Goes p e below s₁ F0 T22 (mkF m 104 #[iv p1, iv p2, iv p3, iv (Int32.ofNat li), iv (Int32.ofNat vl), iv (Int32.ofNat nt), iv (Int32.ofNat kp), iv v0, iv v1, iv v2, iv t0, iv t1, iv t2, .unset, .unset, .unset, .unset, .unset, .unset, .unset, .unset] [(.ref b14)]) := fun t k => k20 t (st22 _ k)
  have Z23 : n0 ≤ h22.size := Nat.le_trans Z19 (Keep.of_wr W22).1
  rw [own_narc hv1] at V22
  have k24 : Goes p e below s₁ F0 T22 (mkF m 108 #[iv p1, iv p2, iv p3, iv (Int32.ofNat li), iv (Int32.ofNat vl), iv (Int32.ofNat nt), iv (Int32.ofNat kp), iv v0, iv v1, iv v2, iv t0, iv t1, iv t2, .unset, .unset, .unset, .unset, .unset, .unset, .unset, .unset] [(.int v2), (.int (2 : Int32)), (.ref b14), (.ref b14)]) := by
    intro t k
    refine k22 _ ?_
    skip
    refine XS.dup X22.here hx rfl (hb hby at_104) rfl rfl ?_
    refine XS.iconst X22.here hx rfl (hb hby at_105) ?_
    refine XS.iload X22.here hx rfl (hb hby at_106) rfl ?_
    exact k
  obtain ⟨cl25, Ar25, qk25, Sz25, Nn25, Hs25, Gs25⟩ := id V22
  obtain ⟨T26, h26, X26, e26, W26, st26⟩ := stC X22 hx hZ e22 Ar25 (j := (2 : Int32)) (inb_of Sz25 (by decide)) (g := (mkF m 108 #[iv p1, iv p2, iv p3, iv (Int32.ofNat li), iv (Int32.ofNat vl), iv (Int32.ofNat nt), iv (Int32.ofNat kp), iv v0, iv v1, iv v2, iv t0, iv t1, iv t2, .unset, .unset, .unset, .unset, .unset, .unset, .unset, .unset] [(.int v2), (.int (2 : Int32)), (.ref b14), (.ref b14)])) rfl rfl (hb hby at_108)
  have N26 := Fr.snoc X26 N22 g_b14
  have V26 : Arv Z h26 b14 k14_ .char (3 : Int32) [(.int v0), (.int v1), (.int (nar .char v2))] (.int (0 : Int32)) := Arv.set Ar25 qk25 Sz25 Nn25 Hs25 Gs25 (fits_nar_char _) W26 2 rfl (Nat.le_of_ble_eq_true rfl)
  have k26 : Goes p e below s₁ F0 T26 (mkF m 109 #[iv p1, iv p2, iv p3, iv (Int32.ofNat li), iv (Int32.ofNat vl), iv (Int32.ofNat nt), iv (Int32.ofNat kp), iv v0, iv v1, iv v2, iv t0, iv t1, iv t2, .unset, .unset, .unset, .unset, .unset, .unset, .unset, .unset] [(.ref b14)]) := fun t k => k24 t (st26 _ k)
  have Z27 : n0 ≤ h26.size := Nat.le_trans Z23 (Keep.of_wr W26).1
  rw [own_narc hv2] at V26
  have k28 : Goes p e below s₁ F0 T26 (mkF m 112 #[iv p1, iv p2, iv p3, iv (Int32.ofNat li), iv (Int32.ofNat vl), iv (Int32.ofNat nt), iv (Int32.ofNat kp), iv v0, iv v1, iv v2, iv t0, iv t1, iv t2, rv b14, .unset, .unset, .unset, .unset, .unset, .unset, .unset] [(.int (3 : Int32))]) := by
    intro t k
    refine k26 _ ?_
    skip
    refine XS.astore X26.here hx rfl (hb hby at_109) rfl rfl (l' := #[iv p1, iv p2, iv p3, iv (Int32.ofNat li), iv (Int32.ofNat vl), iv (Int32.ofNat nt), iv (Int32.ofNat kp), iv v0, iv v1, iv v2, iv t0, iv t1, iv t2, rv b14, .unset, .unset, .unset, .unset, .unset, .unset, .unset]) rfl ?_
    refine XS.iconst X26.here hx rfl (hb hby at_111) ?_
    exact k
  have kp30 : Keep h0 h26 [] := (((((Keep.refl h0 []).ext E14).wr W18 (Or.inr sz_b14)).wr W22 (Or.inr sz_b14)).wr W26 (Or.inr sz_b14))
  obtain ⟨T29, h29, k29_, X29, e29, E29, A29, st29⟩ := newP X26 hx hZ (own_q hw 0 rfl) e26 (g := (mkF m 112 #[iv p1, iv p2, iv p3, iv (Int32.ofNat li), iv (Int32.ofNat vl), iv (Int32.ofNat nt), iv (Int32.ofNat kp), iv v0, iv v1, iv v2, iv t0, iv t1, iv t2, rv b14, .unset, .unset, .unset, .unset, .unset, .unset, .unset] [(.int (3 : Int32))])) rfl (hb hby at_112) rfl (by decide : ¬ ((3 : Int32) < (0 : Int32))) (cap := 3) (by decide : (3 : Int32).toNatClampNeg ≤ 3) (by decide) (by decide) (by decide)
  obtain ⟨b29, g29⟩ : ∃ z, z = h26.size := ⟨_, rfl⟩
  rw [← g29] at A29 st29
  have ne_b14_b29 : b14 ≠ b29 := Nat.ne_of_lt (Nat.lt_of_lt_of_eq V26.lt g29.symm)
  have g_b29 : n0 ≤ b29 := Nat.le_trans Z27 (Nat.le_of_eq g29.symm)
  have sz_b29 : h0.size ≤ b29 := Nat.le_trans kp30.1 (Nat.le_of_eq g29.symm)
  have V29 : Arv Z h29 b29 k29_ .char (3 : Int32) [(.int (0 : Int32)), (.int (0 : Int32)), (.int (0 : Int32))] (.int (0 : Int32)) := (Arv.new A29 (by decide : ¬ ((3 : Int32) < (0 : Int32)))).pad (pad_rep [] (.int (0 : Int32)) 3)
  have k29 : Goes p e below s₁ F0 T29 (mkF m 114 #[iv p1, iv p2, iv p3, iv (Int32.ofNat li), iv (Int32.ofNat vl), iv (Int32.ofNat nt), iv (Int32.ofNat kp), iv v0, iv v1, iv v2, iv t0, iv t1, iv t2, rv b14, .unset, .unset, .unset, .unset, .unset, .unset, .unset] [(.ref b29)]) := fun t k => k28 t (st29 _ k)
  have Z31 : n0 ≤ h29.size := Nat.le_trans Z27 E29.1
  have k32 : Goes p e below s₁ F0 T29 (mkF m 118 #[iv p1, iv p2, iv p3, iv (Int32.ofNat li), iv (Int32.ofNat vl), iv (Int32.ofNat nt), iv (Int32.ofNat kp), iv v0, iv v1, iv v2, iv t0, iv t1, iv t2, rv b14, .unset, .unset, .unset, .unset, .unset, .unset, .unset] [(.int t0), (.int (0 : Int32)), (.ref b29), (.ref b29)]) := by
    intro t k
    refine k29 _ ?_
    skip
    refine XS.dup X29.here hx rfl (hb hby at_114) rfl rfl ?_
    refine XS.iconst X29.here hx rfl (hb hby at_115) ?_
    refine XS.iload X29.here hx rfl (hb hby at_116) rfl ?_
    exact k
  obtain ⟨cl33, Ar33, qk33, Sz33, Nn33, Hs33, Gs33⟩ := id V29
  obtain ⟨T34, h34, X34, e34, W34, st34⟩ := stC X29 hx hZ e29 Ar33 (j := (0 : Int32)) (inb_of Sz33 (by decide)) (g := (mkF m 118 #[iv p1, iv p2, iv p3, iv (Int32.ofNat li), iv (Int32.ofNat vl), iv (Int32.ofNat nt), iv (Int32.ofNat kp), iv v0, iv v1, iv v2, iv t0, iv t1, iv t2, rv b14, .unset, .unset, .unset, .unset, .unset, .unset, .unset] [(.int t0), (.int (0 : Int32)), (.ref b29), (.ref b29)])) rfl rfl (hb hby at_118)
  have N34 := Fr.snoc X34 N26 g_b29
  have V34 : Arv Z h34 b29 k29_ .char (3 : Int32) [(.int (nar .char t0)), (.int (0 : Int32)), (.int (0 : Int32))] (.int (0 : Int32)) := Arv.set Ar33 qk33 Sz33 Nn33 Hs33 Gs33 (fits_nar_char _) W34 0 rfl (Nat.le_of_ble_eq_true rfl)
  have k34 : Goes p e below s₁ F0 T34 (mkF m 119 #[iv p1, iv p2, iv p3, iv (Int32.ofNat li), iv (Int32.ofNat vl), iv (Int32.ofNat nt), iv (Int32.ofNat kp), iv v0, iv v1, iv v2, iv t0, iv t1, iv t2, rv b14, .unset, .unset, .unset, .unset, .unset, .unset, .unset] [(.ref b29)]) := fun t k => k32 t (st34 _ k)
  have Z35 : n0 ≤ h34.size := Nat.le_trans Z31 (Keep.of_wr W34).1
  rw [own_narc ht0] at V34
  have k36 : Goes p e below s₁ F0 T34 (mkF m 123 #[iv p1, iv p2, iv p3, iv (Int32.ofNat li), iv (Int32.ofNat vl), iv (Int32.ofNat nt), iv (Int32.ofNat kp), iv v0, iv v1, iv v2, iv t0, iv t1, iv t2, rv b14, .unset, .unset, .unset, .unset, .unset, .unset, .unset] [(.int t1), (.int (1 : Int32)), (.ref b29), (.ref b29)]) := by
    intro t k
    refine k34 _ ?_
    skip
    refine XS.dup X34.here hx rfl (hb hby at_119) rfl rfl ?_
    refine XS.iconst X34.here hx rfl (hb hby at_120) ?_
    refine XS.iload X34.here hx rfl (hb hby at_121) rfl ?_
    exact k
  obtain ⟨cl37, Ar37, qk37, Sz37, Nn37, Hs37, Gs37⟩ := id V34
  obtain ⟨T38, h38, X38, e38, W38, st38⟩ := stC X34 hx hZ e34 Ar37 (j := (1 : Int32)) (inb_of Sz37 (by decide)) (g := (mkF m 123 #[iv p1, iv p2, iv p3, iv (Int32.ofNat li), iv (Int32.ofNat vl), iv (Int32.ofNat nt), iv (Int32.ofNat kp), iv v0, iv v1, iv v2, iv t0, iv t1, iv t2, rv b14, .unset, .unset, .unset, .unset, .unset, .unset, .unset] [(.int t1), (.int (1 : Int32)), (.ref b29), (.ref b29)])) rfl rfl (hb hby at_123)
  have N38 := Fr.snoc X38 N34 g_b29
  have V38 : Arv Z h38 b29 k29_ .char (3 : Int32) [(.int t0), (.int (nar .char t1)), (.int (0 : Int32))] (.int (0 : Int32)) := Arv.set Ar37 qk37 Sz37 Nn37 Hs37 Gs37 (fits_nar_char _) W38 1 rfl (Nat.le_of_ble_eq_true rfl)
  have k38 : Goes p e below s₁ F0 T38 (mkF m 124 #[iv p1, iv p2, iv p3, iv (Int32.ofNat li), iv (Int32.ofNat vl), iv (Int32.ofNat nt), iv (Int32.ofNat kp), iv v0, iv v1, iv v2, iv t0, iv t1, iv t2, rv b14, .unset, .unset, .unset, .unset, .unset, .unset, .unset] [(.ref b29)]) := fun t k => k36 t (st38 _ k)
  have Z39 : n0 ≤ h38.size := Nat.le_trans Z35 (Keep.of_wr W38).1
  rw [own_narc ht1] at V38
  have k40 : Goes p e below s₁ F0 T38 (mkF m 128 #[iv p1, iv p2, iv p3, iv (Int32.ofNat li), iv (Int32.ofNat vl), iv (Int32.ofNat nt), iv (Int32.ofNat kp), iv v0, iv v1, iv v2, iv t0, iv t1, iv t2, rv b14, .unset, .unset, .unset, .unset, .unset, .unset, .unset] [(.int t2), (.int (2 : Int32)), (.ref b29), (.ref b29)]) := by
    intro t k
    refine k38 _ ?_
    skip
    refine XS.dup X38.here hx rfl (hb hby at_124) rfl rfl ?_
    refine XS.iconst X38.here hx rfl (hb hby at_125) ?_
    refine XS.iload X38.here hx rfl (hb hby at_126) rfl ?_
    exact k
  obtain ⟨cl41, Ar41, qk41, Sz41, Nn41, Hs41, Gs41⟩ := id V38
  obtain ⟨T42, h42, X42, e42, W42, st42⟩ := stC X38 hx hZ e38 Ar41 (j := (2 : Int32)) (inb_of Sz41 (by decide)) (g := (mkF m 128 #[iv p1, iv p2, iv p3, iv (Int32.ofNat li), iv (Int32.ofNat vl), iv (Int32.ofNat nt), iv (Int32.ofNat kp), iv v0, iv v1, iv v2, iv t0, iv t1, iv t2, rv b14, .unset, .unset, .unset, .unset, .unset, .unset, .unset] [(.int t2), (.int (2 : Int32)), (.ref b29), (.ref b29)])) rfl rfl (hb hby at_128)
  have N42 := Fr.snoc X42 N38 g_b29
  have V42 : Arv Z h42 b29 k29_ .char (3 : Int32) [(.int t0), (.int t1), (.int (nar .char t2))] (.int (0 : Int32)) := Arv.set Ar41 qk41 Sz41 Nn41 Hs41 Gs41 (fits_nar_char _) W42 2 rfl (Nat.le_of_ble_eq_true rfl)
  have k42 : Goes p e below s₁ F0 T42 (mkF m 129 #[iv p1, iv p2, iv p3, iv (Int32.ofNat li), iv (Int32.ofNat vl), iv (Int32.ofNat nt), iv (Int32.ofNat kp), iv v0, iv v1, iv v2, iv t0, iv t1, iv t2, rv b14, .unset, .unset, .unset, .unset, .unset, .unset, .unset] [(.ref b29)]) := fun t k => k40 t (st42 _ k)
  have Z43 : n0 ≤ h42.size := Nat.le_trans Z39 (Keep.of_wr W42).1
  rw [own_narc ht2] at V42
  have k44 : Goes p e below s₁ F0 T42 (mkF m 133 #[iv p1, iv p2, iv p3, iv (Int32.ofNat li), iv (Int32.ofNat vl), iv (Int32.ofNat nt), iv (Int32.ofNat kp), iv v0, iv v1, iv v2, iv t0, iv t1, iv t2, rv b14, rv b29, .unset, .unset, .unset, .unset, .unset, .unset] [(.int (16 : Int32))]) := by
    intro t k
    refine k42 _ ?_
    skip
    refine XS.astore X42.here hx rfl (hb hby at_129) rfl rfl (l' := #[iv p1, iv p2, iv p3, iv (Int32.ofNat li), iv (Int32.ofNat vl), iv (Int32.ofNat nt), iv (Int32.ofNat kp), iv v0, iv v1, iv v2, iv t0, iv t1, iv t2, rv b14, rv b29, .unset, .unset, .unset, .unset, .unset, .unset]) rfl ?_
    refine XS.bipush X42.here hx rfl (hb hby at_131) ?_
    exact k
  have f46 := ((((V26.ext E29).other W34 ne_b14_b29).other W38 ne_b14_b29).other W42 ne_b14_b29)
  have kp47 : Keep h0 h42 [] := ((((kp30.ext E29).wr W34 (Or.inr sz_b29)).wr W38 (Or.inr sz_b29)).wr W42 (Or.inr sz_b29))
  obtain ⟨T45, h45, k45_, X45, e45, E45, A45, st45⟩ := newP X42 hx hZ (own_q hw 1 rfl) e42 (g := (mkF m 133 #[iv p1, iv p2, iv p3, iv (Int32.ofNat li), iv (Int32.ofNat vl), iv (Int32.ofNat nt), iv (Int32.ofNat kp), iv v0, iv v1, iv v2, iv t0, iv t1, iv t2, rv b14, rv b29, .unset, .unset, .unset, .unset, .unset, .unset] [(.int (16 : Int32))])) rfl (hb hby at_133) rfl (by decide : ¬ ((16 : Int32) < (0 : Int32))) (cap := 16) (by decide : (16 : Int32).toNatClampNeg ≤ 16) (by decide) (by decide) (by decide)
  obtain ⟨b45, g45⟩ : ∃ z, z = h42.size := ⟨_, rfl⟩
  rw [← g45] at A45 st45
  have ne_b14_b45 : b14 ≠ b45 := Nat.ne_of_lt (Nat.lt_of_lt_of_eq f46.lt g45.symm)
  have ne_b29_b45 : b29 ≠ b45 := Nat.ne_of_lt (Nat.lt_of_lt_of_eq V42.lt g45.symm)
  have g_b45 : n0 ≤ b45 := Nat.le_trans Z43 (Nat.le_of_eq g45.symm)
  have sz_b45 : h0.size ≤ b45 := Nat.le_trans kp47.1 (Nat.le_of_eq g45.symm)
  have V45 : Arv Z h45 b45 k45_ .int (16 : Int32) [(.int (0 : Int32)), (.int (0 : Int32)), (.int (0 : Int32)), (.int (0 : Int32)), (.int (0 : Int32)), (.int (0 : Int32)), (.int (0 : Int32)), (.int (0 : Int32)), (.int (0 : Int32)), (.int (0 : Int32)), (.int (0 : Int32)), (.int (0 : Int32)), (.int (0 : Int32)), (.int (0 : Int32)), (.int (0 : Int32)), (.int (0 : Int32))] (.int (0 : Int32)) := (Arv.new A45 (by decide : ¬ ((16 : Int32) < (0 : Int32)))).pad (pad_rep [] (.int (0 : Int32)) 16)
  have k45 : Goes p e below s₁ F0 T45 (mkF m 135 #[iv p1, iv p2, iv p3, iv (Int32.ofNat li), iv (Int32.ofNat vl), iv (Int32.ofNat nt), iv (Int32.ofNat kp), iv v0, iv v1, iv v2, iv t0, iv t1, iv t2, rv b14, rv b29, .unset, .unset, .unset, .unset, .unset, .unset] [(.ref b45)]) := fun t k => k44 t (st45 _ k)
  have Z48 : n0 ≤ h45.size := Nat.le_trans Z43 E45.1
  have k49 : Goes p e below s₁ F0 T45 (mkF m 145 #[iv p1, iv p2, iv p3, iv (Int32.ofNat li), iv (Int32.ofNat vl), iv (Int32.ofNat nt), iv (Int32.ofNat kp), iv v0, iv v1, iv v2, iv t0, iv t1, iv t2, rv b14, rv b29, rv b45, .unset, .unset, .unset, .unset, .unset] [(.int v2), (.int v1), (.int v0), (.int (Int32.ofNat vl))]) := by
    intro t k
    refine k45 _ ?_
    skip
    refine XS.astore X45.here hx rfl (hb hby at_135) rfl rfl (l' := #[iv p1, iv p2, iv p3, iv (Int32.ofNat li), iv (Int32.ofNat vl), iv (Int32.ofNat nt), iv (Int32.ofNat kp), iv v0, iv v1, iv v2, iv t0, iv t1, iv t2, rv b14, rv b29, rv b45, .unset, .unset, .unset, .unset, .unset]) rfl ?_
    refine XS.iload X45.here hx rfl (hb hby at_137) rfl ?_
    refine XS.iload X45.here hx rfl (hb hby at_139) rfl ?_
    refine XS.iload X45.here hx rfl (hb hby at_141) rfl ?_
    refine XS.iload X45.here hx rfl (hb hby at_143) rfl ?_
    exact k
  have kp50 : Keep h0 h45 [] := (kp47.ext E45)
  have ch51 : CHr Z own_EL s.vm h0 s.vm h45 := (CHr.refl hch0).trans (CHr.keep kp50 (by intro x hx'; cases hx') (CHr.refl hch0).1)
  have tail : ∀ (T : State) (lo : List Loc) (vmz : Vm) (kz : Nat) (r : Addr) (chs : List Int32), Stand p l e room_1 (s.setVm vmz) m #[(.int p1), (.int p2), (.int p3)] below meth c T lo 10 60 → s.Since vmz kz → kz ≤ T.heap.size → Z.Warmed39 (s.setVm vmz).vm → (s.setVm vmz).vm.findClass "com/example/catchment/catchment/linkage/EditDistanceBeyondPinLaw" = some m.cls → Fr n0 lo → n0 ≤ T.heap.size → Old Z n0 T.heap → Keep h0 T.heap [] → own_Str Z T.heap r chs → chs.length = vl → (∀ j, j < vl → chs.getD j 0 = [v0, v1, v2].getD j 0) → Arv Z T.heap b14 k14_ .char (3 : Int32) [(.int v0), (.int v1), (.int v2)] (.int (0 : Int32)) → Arv Z T.heap b29 k29_ .char (3 : Int32) [(.int t0), (.int t1), (.int t2)] (.int (0 : Int32)) → Arv Z T.heap b45 k45_ .int (16 : Int32) [(.int (0 : Int32)), (.int (0 : Int32)), (.int (0 : Int32)), (.int (0 : Int32)), (.int (0 : Int32)), (.int (0 : Int32)), (.int (0 : Int32)), (.int (0 : Int32)), (.int (0 : Int32)), (.int (0 : Int32)), (.int (0 : Int32)), (.int (0 : Int32)), (.int (0 : Int32)), (.int (0 : Int32)), (.int (0 : Int32)), (.int (0 : Int32))] (.int (0 : Int32)) → Goes p e below s₁ F0 T (mkF m 150 #[iv p1, iv p2, iv p3, iv (Int32.ofNat li), iv (Int32.ofNat vl), iv (Int32.ofNat nt), iv (Int32.ofNat kp), iv v0, iv v1, iv v2, iv t0, iv t1, iv t2, rv b14, rv b29, rv b45, rv r, .unset, .unset, .unset, .unset] []) → False := by
    intro T lo vmz kz r chs X hS hkz hZ hown NL Zt od Kt TS hl hc VV VT VD kT
    subst hl
    obtain ⟨nz, enz⟩ : ∃ z, z = T.heap.size := ⟨_, rfl⟩
    have l_b14 : b14 < nz := by rw [enz]; exact VV.lt
    have l_b29 : b29 < nz := by rw [enz]; exact VT.lt
    have l_b45 : b45 < nz := by rw [enz]; exact VD.lt
    obtain ⟨T52, h52, X52, e52, E52, A52, D52, -, st52⟩ := newO X hx hZ hown (own_q hw 27 rfl) (own_q hw 28 rfl) (own_q hw 29 rfl) rfl (g := (mkF m 150 #[iv p1, iv p2, iv p3, iv (Int32.ofNat li), iv (Int32.ofNat chs.length), iv (Int32.ofNat nt), iv (Int32.ofNat kp), iv v0, iv v1, iv v2, iv t0, iv t1, iv t2, rv b14, rv b29, rv b45, rv r, .unset, .unset, .unset, .unset] [])) rfl (hb hby at_150) (by decide) (by decide)
    obtain ⟨b52, g52⟩ : ∃ z, z = T.heap.size := ⟨_, rfl⟩
    rw [← g52] at A52 D52 st52
    have ne_r_b52 : r ≠ b52 := Nat.ne_of_lt (Nat.lt_of_lt_of_eq (own_Str.exa TS).lt g52.symm)
    have ne_b14_b52 : b14 ≠ b52 := Nat.ne_of_lt (Nat.lt_of_lt_of_eq VV.lt g52.symm)
    have ne_b29_b52 : b29 ≠ b52 := Nat.ne_of_lt (Nat.lt_of_lt_of_eq VT.lt g52.symm)
    have ne_b45_b52 : b45 ≠ b52 := Nat.ne_of_lt (Nat.lt_of_lt_of_eq VD.lt g52.symm)
    have g_b52 : n0 ≤ b52 := Nat.le_trans Zt (Nat.le_of_eq g52.symm)
    have sz_b52 : h0.size ≤ b52 := Nat.le_trans Kt.1 (Nat.le_of_eq g52.symm)
    have F52_value : Fld Z h52 b52 "com/example/catchment/catchment/linkage/EditDistance" "value" "Ljava/lang/String;" .null := D52 (Or.inr (own_q hw 35 rfl)) (ty := (.object "java/lang/String")) (by decide)
    have F52_limit : Fld Z h52 b52 "com/example/catchment/catchment/linkage/EditDistance" "limit" "I" (.int (0 : Int32)) := D52 (Or.inr (own_q hw 37 rfl)) (ty := .int) (by decide)
    have F52_over : Fld Z h52 b52 "com/example/catchment/catchment/linkage/EditDistance" "over" "I" (.int (0 : Int32)) := D52 (Or.inr (own_q hw 39 rfl)) (ty := .int) (by decide)
    have F52_width : Fld Z h52 b52 "com/example/catchment/catchment/linkage/EditDistance" "width" "I" (.int (0 : Int32)) := D52 (Or.inr (own_q hw 41 rfl)) (ty := .int) (by decide)
    have F52_typed : Fld Z h52 b52 "com/example/catchment/catchment/linkage/EditDistance" "typed" "[C" .null := D52 (Or.inl (own_q hw 54 rfl)) (ty := (.array .char)) (by decide)
    have F52_band : Fld Z h52 b52 "com/example/catchment/catchment/linkage/EditDistance" "band" "[I" .null := D52 (Or.inl (own_q hw 56 rfl)) (ty := (.array .int)) (by decide)
    have F52_length : Fld Z h52 b52 "com/example/catchment/catchment/linkage/EditDistance" "length" "I" (.int (0 : Int32)) := D52 (Or.inl (own_q hw 63 rfl)) (ty := .int) (by decide)
    have k52 : Goes p e below s₁ F0 T52 (mkF m 153 #[iv p1, iv p2, iv p3, iv (Int32.ofNat li), iv (Int32.ofNat chs.length), iv (Int32.ofNat nt), iv (Int32.ofNat kp), iv v0, iv v1, iv v2, iv t0, iv t1, iv t2, rv b14, rv b29, rv b45, rv r, .unset, .unset, .unset, .unset] [(.ref b52)]) := fun t k => kT t (st52 _ k)
    have Z53 : n0 ≤ h52.size := Nat.le_trans Zt E52.1
    have zk53 : kz ≤ h52.size := Nat.le_trans hkz E52.1
    have zA : nz ≤ b52 := by rw [enz]; exact Nat.le_of_eq g52.symm
    have zh0 : nz ≤ h52.size := by rw [enz]; exact E52.1
    have f54 := (TS.ext E52)
    have od55 : Old Z n0 h52 := (od.ext E52)
    have k56 : Goes p e below s₁ F0 T52 (mkF m 157 #[iv p1, iv p2, iv p3, iv (Int32.ofNat li), iv (Int32.ofNat chs.length), iv (Int32.ofNat nt), iv (Int32.ofNat kp), iv v0, iv v1, iv v2, iv t0, iv t1, iv t2, rv b14, rv b29, rv b45, rv r, .unset, .unset, .unset, .unset] [(.int (Int32.ofNat li)), (.ref r), (.ref b52), (.ref b52)]) := by
      intro t k
      refine k52 _ ?_
      skip
      refine XS.dup X52.here hx rfl (hb hby at_153) rfl rfl ?_
      refine XS.aload X52.here hx rfl (hb hby at_154) rfl rfl ?_
      refine XS.iloadN X52.here hx rfl (hb hby at_156) rfl ?_
      exact k
    obtain ⟨_, _, ⟨T57, L57, ck57, nk57⟩, -, X57, ⟨Lc57, hQ57, l57, y57, z57⟩, st57⟩ := X52.specialBack hx (y := (⟨"com/example/catchment/catchment/linkage/EditDistance", "<init>", "(Ljava/lang/String;I)V"⟩ : MethodName)) rfl hown (mvT hZ (own_q hw 30 rfl)) (mvT hZ (own_q hw 31 rfl)) (mvT hZ (own_q hw 32 rfl)) (by decide) (backOf (W := 1) (rmIni l Z a0 hw [] b52 r li chs cs h52 n0 Z53 A52 g_b52 F52_value F52_limit F52_over F52_width F52_band F52_typed F52_length f54 hli hvl S1 hcs od55) hZ (own_q hw 32 rfl) (own_q hw 29 rfl) (by decide) (by decide)) (g := (mkF m 157 #[iv p1, iv p2, iv p3, iv (Int32.ofNat li), iv (Int32.ofNat chs.length), iv (Int32.ofNat nt), iv (Int32.ofNat kp), iv v0, iv v1, iv v2, iv t0, iv t1, iv t2, rv b14, rv b29, rv b45, rv r, .unset, .unset, .unset, .unset] [(.int (Int32.ofNat li)), (.ref r), (.ref b52), (.ref b52)])) rfl (by rw [hml]; rfl) (Steps.refl _) (a := b52) (argsL := [(.ref r), (.int (Int32.ofNat li))]) (rest := [(.ref b52)]) (lenOf pd_11 rfl) rfl (by show 2 * 0 + _ ≤ _; exact Nat.le_of_eq rfl) (hb hby at_157) (fun _ _ => ⟨rfl, e52, (by decide : 11 + 2 ≤ _), (by decide : 67 + 64 ≤ _)⟩)
    dsimp only [Pt.U, Pt.locs, Pt.cells, Pt.slots] at X57 l57 y57 z57 st57 hQ57
    subst l57 y57 z57
    obtain ⟨rfl, N57q, K57, bA57, tA57, kB57, kT57, gB57, gT57, sB57, sT57, D57⟩ := hQ57
    have N57 := Fr.app NL N57q
    have k57 : Goes p e below s₁ F0 T57 (mkF m 160 #[iv p1, iv p2, iv p3, iv (Int32.ofNat li), iv (Int32.ofNat chs.length), iv (Int32.ofNat nt), iv (Int32.ofNat kp), iv v0, iv v1, iv v2, iv t0, iv t1, iv t2, rv b14, rv b29, rv b45, rv r, .unset, .unset, .unset, .unset] [(.ref b52)]) := fun t k => k56 t (st57.trans k)
    have Z58 : n0 ≤ T57.heap.size := Nat.le_trans Z53 K57.1
    have zk58 : kz ≤ T57.heap.size := Nat.le_trans zk53 K57.1
    have zB57 : nz ≤ bA57 := Nat.le_trans zh0 sB57
    have zT57 : nz ≤ tA57 := Nat.le_trans zh0 sT57
    have zh1 : nz ≤ T57.heap.size := Nat.le_trans zh0 K57.1
    have DD0 : own_ED Z T57.heap b52 r bA57 tA57 kB57 kT57 li chs (own_stB li chs.length (own_E t0 t1 t2 v0 v1 v2) 0) (own_stT li chs.length [t0, t1, t2] 0) 0 := D57
    have k59 : Goes p e below s₁ F0 T57 (mkF m 162 #[iv p1, iv p2, iv p3, iv (Int32.ofNat li), iv (Int32.ofNat chs.length), iv (Int32.ofNat nt), iv (Int32.ofNat kp), iv v0, iv v1, iv v2, iv t0, iv t1, iv t2, rv b14, rv b29, rv b45, rv r, rv b52, .unset, .unset, .unset] []) := by
      intro t k
      refine k57 _ ?_
      skip
      refine XS.astore X57.here hx rfl (hb hby at_160) rfl rfl (l' := #[iv p1, iv p2, iv p3, iv (Int32.ofNat li), iv (Int32.ofNat chs.length), iv (Int32.ofNat nt), iv (Int32.ofNat kp), iv v0, iv v1, iv v2, iv t0, iv t1, iv t2, rv b14, rv b29, rv b45, rv r, rv b52, .unset, .unset, .unset]) rfl ?_
      exact k
    have j201 : ∀ (T : State) (lo : List Loc) (hh : Heap) (bA tA : Addr) (kB kT' : ClassId), n0 ≤ hh.size → kz ≤ hh.size → Arv Z hh b14 k14_ .char (3 : Int32) [(.int v0), (.int v1), (.int v2)] (.int (0 : Int32)) → Arv Z hh b29 k29_ .char (3 : Int32) [(.int t0), (.int t1), (.int t2)] (.int (0 : Int32)) → Arv Z hh b45 k45_ .int (16 : Int32) [(.int (0 : Int32)), (.int (0 : Int32)), (.int (0 : Int32)), (.int (0 : Int32)), (.int (0 : Int32)), (.int (0 : Int32)), (.int (0 : Int32)), (.int (0 : Int32)), (.int (0 : Int32)), (.int (0 : Int32)), (.int (0 : Int32)), (.int (0 : Int32)), (.int (0 : Int32)), (.int (0 : Int32)), (.int (0 : Int32)), (.int (0 : Int32))] (.int (0 : Int32)) → own_ED Z hh b52 r bA tA kB kT' li chs (own_stB li chs.length (own_E t0 t1 t2 v0 v1 v2) nt) (own_stT li chs.length [t0, t1, t2] nt) nt → Stand p l e room_1 (s.setVm vmz) m #[(.int p1), (.int p2), (.int p3)] below meth c T lo 20 400 → Fr n0 lo → T.heap = hh → Goes p e below s₁ F0 T (mkF m 201 #[iv p1, iv p2, iv p3, iv (Int32.ofNat li), iv (Int32.ofNat chs.length), iv (Int32.ofNat nt), iv (Int32.ofNat kp), iv v0, iv v1, iv v2, iv t0, iv t1, iv t2, rv b14, rv b29, rv b45, rv r, rv b52, .unset, .unset, .unset] []) → False := by
      intro T lo hh bA tA kB kT' Zj hkj VV VT VD Dj X NL eT kT
      obtain ⟨c1, c2, c3⟩ := own_stC_b hli hvl nt hnt
      obtain ⟨b1, b2⟩ := own_stB_b (E := (own_E t0 t1 t2 v0 v1 v2)) hli hvl nt hnt
      have k60 : Goes p e below s₁ F0 T (mkF m 205 #[iv p1, iv p2, iv p3, iv (Int32.ofNat li), iv (Int32.ofNat chs.length), iv (Int32.ofNat nt), iv (Int32.ofNat kp), iv v0, iv v1, iv v2, iv t0, iv t1, iv t2, rv b14, rv b29, rv b45, rv r, rv b52, .unset, .unset, .unset] [(.int (Int32.ofNat kp)), (.ref b52)]) := by
        intro t k
        refine kT _ ?_
        skip
        refine XS.aload X.here hx rfl (hb hby at_201) rfl rfl ?_
        refine XS.iload X.here hx rfl (hb hby at_203) rfl ?_
        exact k
      obtain ⟨cq61, kq61, q61a, q61b, q61c⟩ := isOf hZ eT Dj.1
      obtain ⟨_, _, ⟨T61, L61, ck61, nk61⟩, -, X61, ⟨Lc61, hQ61, l61, y61, z61⟩, st61⟩ := X.virtualBack hx (y := (⟨"com/example/catchment/catchment/linkage/EditDistance", "eraseTo", "(I)V"⟩ : MethodName)) (z := (⟨"com/example/catchment/catchment/linkage/EditDistance", "eraseTo", "(I)V"⟩ : MethodName)) hown (mvT hZ (own_q hw 57 rfl)) (mvT hZ (own_q hw 58 rfl)) (notFace_of_selects (args := #[]) (mvT hZ (own_q hw 60 rfl))) (mvT hZ (own_q hw 60 rfl)) (mvT hZ (own_q hw 59 rfl)) (by decide) (backOf (W := 0) (rmEra l Z a0 hw [] b52 kp r bA tA kB kT' li chs (own_stB li chs.length (own_E t0 t1 t2 v0 v1 v2) nt) (own_stT li chs.length [t0, t1, t2] nt) nt hh n0 Zj Dj g_b52 hkp (by omega)) hZ (own_q hw 61 rfl) (own_q hw 29 rfl) (by decide) (by decide)) q61a q61c (g := (mkF m 205 #[iv p1, iv p2, iv p3, iv (Int32.ofNat li), iv (Int32.ofNat chs.length), iv (Int32.ofNat nt), iv (Int32.ofNat kp), iv v0, iv v1, iv v2, iv t0, iv t1, iv t2, rv b14, rv b29, rv b45, rv r, rv b52, .unset, .unset, .unset] [(.int (Int32.ofNat kp)), (.ref b52)])) rfl (by rw [hml]; rfl) (Steps.refl _) (argsL := [(.int (Int32.ofNat kp))]) (rest := []) (lenOf pd_12 rfl) rfl (by show 2 * 0 + _ ≤ _; exact Nat.le_of_eq rfl) (hb hby at_205) (fun _ _ => ⟨rfl, eT, (by decide : 20 + 0 ≤ _), (by decide : 400 + 0 ≤ _)⟩)
      dsimp only [Pt.U, Pt.locs, Pt.cells, Pt.slots] at X61 l61 y61 z61 st61 hQ61
      subst l61 y61 z61
      obtain ⟨rfl, N61q, K61, D61⟩ := hQ61
      have N61 := Fr.app NL N61q
      have k61 : Goes p e below s₁ F0 T61 (mkF m 208 #[iv p1, iv p2, iv p3, iv (Int32.ofNat li), iv (Int32.ofNat chs.length), iv (Int32.ofNat nt), iv (Int32.ofNat kp), iv v0, iv v1, iv v2, iv t0, iv t1, iv t2, rv b14, rv b29, rv b45, rv r, rv b52, .unset, .unset, .unset] []) := fun t k => k60 t (st61.trans k)
      have Z62 : n0 ≤ T61.heap.size := Nat.le_trans Zj K61.1
      have zk62 : kz ≤ T61.heap.size := Nat.le_trans hkj K61.1
      have hq1 : (kp + 1) * (2 * li + 1) ≤ (own_stB li chs.length (own_E t0 t1 t2 v0 v1 v2) nt).length := by rw [b1]; exact Nat.mul_le_mul_right _ (by omega)
      have hq2 : (own_stB li chs.length (own_E t0 t1 t2 v0 v1 v2) nt).length ≤ 1000 := by rw [b1]; exact Nat.le_trans (Nat.mul_le_mul (show own_stC li chs.length nt + 1 ≤ 8 by omega) (show 2 * li + 1 ≤ 7 by omega)) (by decide)
      have k63 : Goes p e below s₁ F0 T61 (mkF m 210 #[iv p1, iv p2, iv p3, iv (Int32.ofNat li), iv (Int32.ofNat chs.length), iv (Int32.ofNat nt), iv (Int32.ofNat kp), iv v0, iv v1, iv v2, iv t0, iv t1, iv t2, rv b14, rv b29, rv b45, rv r, rv b52, .unset, .unset, .unset] [(.ref b52)]) := by
        intro t k
        refine k61 _ ?_
        skip
        refine XS.aload X61.here hx rfl (hb hby at_208) rfl rfl ?_
        exact k
      have f65 := (Dj.1.keep K61)
      obtain ⟨cq64, kq64, q64a, q64b, q64c⟩ := isOf hZ rfl f65
      obtain ⟨_, _, ⟨T64, L64, ck64, nk64⟩, -, X64, ⟨Lc64, hQ64, l64, y64, z64⟩, st64⟩ := X61.virtualBack hx (y := (⟨"com/example/catchment/catchment/linkage/EditDistance", "beyond", "()Z"⟩ : MethodName)) (z := (⟨"com/example/catchment/catchment/linkage/EditDistance", "beyond", "()Z"⟩ : MethodName)) hown (mvT hZ (own_q hw 64 rfl)) (mvT hZ (own_q hw 65 rfl)) (notFace_of_selects (args := #[]) (mvT hZ (own_q hw 67 rfl))) (mvT hZ (own_q hw 67 rfl)) (mvT hZ (own_q hw 66 rfl)) (by decide) (backOf (W := 0) (rmBey l Z a0 hw [] b52 r bA tA kB kT' li chs (own_stB li chs.length (own_E t0 t1 t2 v0 v1 v2) nt) (own_stT li chs.length [t0, t1, t2] nt) kp T61.heap n0 Z62 D61 hli hq1 (by omega) hq2 (fun k => Nat.le_trans (b2 k) (by decide))) hZ (own_q hw 68 rfl) (own_q hw 29 rfl) (by decide) (by decide)) q64a q64c (g := (mkF m 210 #[iv p1, iv p2, iv p3, iv (Int32.ofNat li), iv (Int32.ofNat chs.length), iv (Int32.ofNat nt), iv (Int32.ofNat kp), iv v0, iv v1, iv v2, iv t0, iv t1, iv t2, rv b14, rv b29, rv b45, rv r, rv b52, .unset, .unset, .unset] [(.ref b52)])) rfl (by rw [hml]; rfl) (Steps.refl _) (argsL := []) (rest := []) (lenOf pd_13 rfl) rfl (by show 2 * 0 + _ ≤ _; exact Nat.le_of_eq rfl) (hb hby at_210) (fun _ _ => ⟨rfl, rfl, (by decide : 20 + 0 ≤ _), (by decide : 400 + 0 ≤ _)⟩)
      dsimp only [Pt.U, Pt.locs, Pt.cells, Pt.slots] at X64 l64 y64 z64 st64 hQ64
      subst l64 y64 z64
      obtain ⟨rfl, N64q, e64⟩ := hQ64
      have N64 := Fr.app N61 N64q
      have k64 : Goes p e below s₁ F0 T64 (mkF m 213 #[iv p1, iv p2, iv p3, iv (Int32.ofNat li), iv (Int32.ofNat chs.length), iv (Int32.ofNat nt), iv (Int32.ofNat kp), iv v0, iv v1, iv v2, iv t0, iv t1, iv t2, rv b14, rv b29, rv b45, rv r, rv b52, .unset, .unset, .unset] [(.int (if own_beyN li (own_stB li chs.length (own_E t0 t1 t2 v0 v1 v2) nt) kp = true then (1 : Int32) else (0 : Int32)))]) := fun t k => k63 t (st64.trans k)
      obtain ⟨got, eq_got⟩ : ∃ z : Int32, z = (if own_beyN li (own_stB li chs.length (own_E t0 t1 t2 v0 v1 v2) nt) kp = true then (1 : Int32) else (0 : Int32)) := ⟨_, rfl⟩
      rw [← eq_got] at k64
      have k66 : Goes p e below s₁ F0 T64 (mkF m 219 #[iv p1, iv p2, iv p3, iv (Int32.ofNat li), iv (Int32.ofNat chs.length), iv (Int32.ofNat nt), iv (Int32.ofNat kp), iv v0, iv v1, iv v2, iv t0, iv t1, iv t2, rv b14, rv b29, rv b45, rv r, rv b52, iv got, .unset, .unset] [(.int (0 : Int32)), (.int (0 : Int32)), (.ref b45)]) := by
        intro t k
        refine k64 _ ?_
        skip
        refine XS.istore X64.here hx rfl (hb hby at_213) rfl (l' := #[iv p1, iv p2, iv p3, iv (Int32.ofNat li), iv (Int32.ofNat chs.length), iv (Int32.ofNat nt), iv (Int32.ofNat kp), iv v0, iv v1, iv v2, iv t0, iv t1, iv t2, rv b14, rv b29, rv b45, rv r, rv b52, iv got, .unset, .unset]) rfl ?_
        refine XS.aload X64.here hx rfl (hb hby at_215) rfl rfl ?_
        refine XS.iconst X64.here hx rfl (hb hby at_217) ?_
        refine XS.iconst X64.here hx rfl (hb hby at_218) ?_
        exact k
      have f67 := (VD.keep K61 (ninS ne_b45_b52 nin0))
      obtain ⟨cl68, Ar68, qk68, Sz68, Nn68, Hs68, Gs68⟩ := id f67
      obtain ⟨T69, h69, X69, e69, W69, st69⟩ := stI X64 hx hZ e64 Ar68 (j := (0 : Int32)) (inb_of Sz68 (by decide)) (g := (mkF m 219 #[iv p1, iv p2, iv p3, iv (Int32.ofNat li), iv (Int32.ofNat chs.length), iv (Int32.ofNat nt), iv (Int32.ofNat kp), iv v0, iv v1, iv v2, iv t0, iv t1, iv t2, rv b14, rv b29, rv b45, rv r, rv b52, iv got, .unset, .unset] [(.int (0 : Int32)), (.int (0 : Int32)), (.ref b45)])) rfl rfl (hb hby at_219)
      have N69 := Fr.snoc X69 N64 g_b45
      have V69 : Arv Z h69 b45 k45_ .int (16 : Int32) [(.int (0 : Int32)), (.int (0 : Int32)), (.int (0 : Int32)), (.int (0 : Int32)), (.int (0 : Int32)), (.int (0 : Int32)), (.int (0 : Int32)), (.int (0 : Int32)), (.int (0 : Int32)), (.int (0 : Int32)), (.int (0 : Int32)), (.int (0 : Int32)), (.int (0 : Int32)), (.int (0 : Int32)), (.int (0 : Int32)), (.int (0 : Int32))] (.int (0 : Int32)) := Arv.set Ar68 qk68 Sz68 Nn68 Hs68 Gs68 rfl W69 0 rfl (Nat.le_of_ble_eq_true rfl)
      have k69 : Goes p e below s₁ F0 T69 (mkF m 220 #[iv p1, iv p2, iv p3, iv (Int32.ofNat li), iv (Int32.ofNat chs.length), iv (Int32.ofNat nt), iv (Int32.ofNat kp), iv v0, iv v1, iv v2, iv t0, iv t1, iv t2, rv b14, rv b29, rv b45, rv r, rv b52, iv got, .unset, .unset] []) := fun t k => k66 t (st69 _ k)
      have Z70 : n0 ≤ h69.size := Nat.le_trans Z62 (Keep.of_wr W69).1
      have zk70 : kz ≤ h69.size := Nat.le_trans zk62 (Keep.of_wr W69).1
      have k71 : Goes p e below s₁ F0 T69 (mkF m 224 #[iv p1, iv p2, iv p3, iv (Int32.ofNat li), iv (Int32.ofNat chs.length), iv (Int32.ofNat nt), iv (Int32.ofNat kp), iv v0, iv v1, iv v2, iv t0, iv t1, iv t2, rv b14, rv b29, rv b45, rv r, rv b52, iv got, .unset, .unset] [(.int (1 : Int32)), (.int (1 : Int32)), (.ref b45)]) := by
        intro t k
        refine k69 _ ?_
        skip
        refine XS.aload X69.here hx rfl (hb hby at_220) rfl rfl ?_
        refine XS.iconst X69.here hx rfl (hb hby at_222) ?_
        refine XS.iconst X69.here hx rfl (hb hby at_223) ?_
        exact k
      obtain ⟨cl72, Ar72, qk72, Sz72, Nn72, Hs72, Gs72⟩ := id V69
      obtain ⟨T73, h73, X73, e73, W73, st73⟩ := stI X69 hx hZ e69 Ar72 (j := (1 : Int32)) (inb_of Sz72 (by decide)) (g := (mkF m 224 #[iv p1, iv p2, iv p3, iv (Int32.ofNat li), iv (Int32.ofNat chs.length), iv (Int32.ofNat nt), iv (Int32.ofNat kp), iv v0, iv v1, iv v2, iv t0, iv t1, iv t2, rv b14, rv b29, rv b45, rv r, rv b52, iv got, .unset, .unset] [(.int (1 : Int32)), (.int (1 : Int32)), (.ref b45)])) rfl rfl (hb hby at_224)
      have N73 := Fr.snoc X73 N69 g_b45
      have V73 : Arv Z h73 b45 k45_ .int (16 : Int32) [(.int (0 : Int32)), (.int (1 : Int32)), (.int (0 : Int32)), (.int (0 : Int32)), (.int (0 : Int32)), (.int (0 : Int32)), (.int (0 : Int32)), (.int (0 : Int32)), (.int (0 : Int32)), (.int (0 : Int32)), (.int (0 : Int32)), (.int (0 : Int32)), (.int (0 : Int32)), (.int (0 : Int32)), (.int (0 : Int32)), (.int (0 : Int32))] (.int (0 : Int32)) := Arv.set Ar72 qk72 Sz72 Nn72 Hs72 Gs72 rfl W73 1 rfl (Nat.le_of_ble_eq_true rfl)
      have k73 : Goes p e below s₁ F0 T73 (mkF m 225 #[iv p1, iv p2, iv p3, iv (Int32.ofNat li), iv (Int32.ofNat chs.length), iv (Int32.ofNat nt), iv (Int32.ofNat kp), iv v0, iv v1, iv v2, iv t0, iv t1, iv t2, rv b14, rv b29, rv b45, rv r, rv b52, iv got, .unset, .unset] []) := fun t k => k71 t (st73 _ k)
      have Z74 : n0 ≤ h73.size := Nat.le_trans Z70 (Keep.of_wr W73).1
      have zk74 : kz ≤ h73.size := Nat.le_trans zk70 (Keep.of_wr W73).1
      have k75 : Goes p e below s₁ F0 T73 (mkF m 229 #[iv p1, iv p2, iv p3, iv (Int32.ofNat li), iv (Int32.ofNat chs.length), iv (Int32.ofNat nt), iv (Int32.ofNat kp), iv v0, iv v1, iv v2, iv t0, iv t1, iv t2, rv b14, rv b29, rv b45, rv r, rv b52, iv got, .unset, .unset] [(.int (2 : Int32)), (.int (2 : Int32)), (.ref b45)]) := by
        intro t k
        refine k73 _ ?_
        skip
        refine XS.aload X73.here hx rfl (hb hby at_225) rfl rfl ?_
        refine XS.iconst X73.here hx rfl (hb hby at_227) ?_
        refine XS.iconst X73.here hx rfl (hb hby at_228) ?_
        exact k
      obtain ⟨cl76, Ar76, qk76, Sz76, Nn76, Hs76, Gs76⟩ := id V73
      obtain ⟨T77, h77, X77, e77, W77, st77⟩ := stI X73 hx hZ e73 Ar76 (j := (2 : Int32)) (inb_of Sz76 (by decide)) (g := (mkF m 229 #[iv p1, iv p2, iv p3, iv (Int32.ofNat li), iv (Int32.ofNat chs.length), iv (Int32.ofNat nt), iv (Int32.ofNat kp), iv v0, iv v1, iv v2, iv t0, iv t1, iv t2, rv b14, rv b29, rv b45, rv r, rv b52, iv got, .unset, .unset] [(.int (2 : Int32)), (.int (2 : Int32)), (.ref b45)])) rfl rfl (hb hby at_229)
      have N77 := Fr.snoc X77 N73 g_b45
      have V77 : Arv Z h77 b45 k45_ .int (16 : Int32) [(.int (0 : Int32)), (.int (1 : Int32)), (.int (2 : Int32)), (.int (0 : Int32)), (.int (0 : Int32)), (.int (0 : Int32)), (.int (0 : Int32)), (.int (0 : Int32)), (.int (0 : Int32)), (.int (0 : Int32)), (.int (0 : Int32)), (.int (0 : Int32)), (.int (0 : Int32)), (.int (0 : Int32)), (.int (0 : Int32)), (.int (0 : Int32))] (.int (0 : Int32)) := Arv.set Ar76 qk76 Sz76 Nn76 Hs76 Gs76 rfl W77 2 rfl (Nat.le_of_ble_eq_true rfl)
      have k77 : Goes p e below s₁ F0 T77 (mkF m 230 #[iv p1, iv p2, iv p3, iv (Int32.ofNat li), iv (Int32.ofNat chs.length), iv (Int32.ofNat nt), iv (Int32.ofNat kp), iv v0, iv v1, iv v2, iv t0, iv t1, iv t2, rv b14, rv b29, rv b45, rv r, rv b52, iv got, .unset, .unset] []) := fun t k => k75 t (st77 _ k)
      have Z78 : n0 ≤ h77.size := Nat.le_trans Z74 (Keep.of_wr W77).1
      have zk78 : kz ≤ h77.size := Nat.le_trans zk74 (Keep.of_wr W77).1
      have k79 : Goes p e below s₁ F0 T77 (mkF m 234 #[iv p1, iv p2, iv p3, iv (Int32.ofNat li), iv (Int32.ofNat chs.length), iv (Int32.ofNat nt), iv (Int32.ofNat kp), iv v0, iv v1, iv v2, iv t0, iv t1, iv t2, rv b14, rv b29, rv b45, rv r, rv b52, iv got, .unset, .unset] [(.int (3 : Int32)), (.int (3 : Int32)), (.ref b45)]) := by
        intro t k
        refine k77 _ ?_
        skip
        refine XS.aload X77.here hx rfl (hb hby at_230) rfl rfl ?_
        refine XS.iconst X77.here hx rfl (hb hby at_232) ?_
        refine XS.iconst X77.here hx rfl (hb hby at_233) ?_
        exact k
      obtain ⟨cl80, Ar80, qk80, Sz80, Nn80, Hs80, Gs80⟩ := id V77
      obtain ⟨T81, h81, X81, e81, W81, st81⟩ := stI X77 hx hZ e77 Ar80 (j := (3 : Int32)) (inb_of Sz80 (by decide)) (g := (mkF m 234 #[iv p1, iv p2, iv p3, iv (Int32.ofNat li), iv (Int32.ofNat chs.length), iv (Int32.ofNat nt), iv (Int32.ofNat kp), iv v0, iv v1, iv v2, iv t0, iv t1, iv t2, rv b14, rv b29, rv b45, rv r, rv b52, iv got, .unset, .unset] [(.int (3 : Int32)), (.int (3 : Int32)), (.ref b45)])) rfl rfl (hb hby at_234)
      have N81 := Fr.snoc X81 N77 g_b45
      have V81 : Arv Z h81 b45 k45_ .int (16 : Int32) [(.int (0 : Int32)), (.int (1 : Int32)), (.int (2 : Int32)), (.int (3 : Int32)), (.int (0 : Int32)), (.int (0 : Int32)), (.int (0 : Int32)), (.int (0 : Int32)), (.int (0 : Int32)), (.int (0 : Int32)), (.int (0 : Int32)), (.int (0 : Int32)), (.int (0 : Int32)), (.int (0 : Int32)), (.int (0 : Int32)), (.int (0 : Int32))] (.int (0 : Int32)) := Arv.set Ar80 qk80 Sz80 Nn80 Hs80 Gs80 rfl W81 3 rfl (Nat.le_of_ble_eq_true rfl)
      have k81 : Goes p e below s₁ F0 T81 (mkF m 235 #[iv p1, iv p2, iv p3, iv (Int32.ofNat li), iv (Int32.ofNat chs.length), iv (Int32.ofNat nt), iv (Int32.ofNat kp), iv v0, iv v1, iv v2, iv t0, iv t1, iv t2, rv b14, rv b29, rv b45, rv r, rv b52, iv got, .unset, .unset] []) := fun t k => k79 t (st81 _ k)
      have Z82 : n0 ≤ h81.size := Nat.le_trans Z78 (Keep.of_wr W81).1
      have zk82 : kz ≤ h81.size := Nat.le_trans zk78 (Keep.of_wr W81).1
      have k83 : Goes p e below s₁ F0 T81 (mkF m 239 #[iv p1, iv p2, iv p3, iv (Int32.ofNat li), iv (Int32.ofNat chs.length), iv (Int32.ofNat nt), iv (Int32.ofNat kp), iv v0, iv v1, iv v2, iv t0, iv t1, iv t2, rv b14, rv b29, rv b45, rv r, rv b52, iv got, .unset, .unset] [(.int (1 : Int32)), (.int (4 : Int32)), (.ref b45)]) := by
        intro t k
        refine k81 _ ?_
        skip
        refine XS.aload X81.here hx rfl (hb hby at_235) rfl rfl ?_
        refine XS.iconst X81.here hx rfl (hb hby at_237) ?_
        refine XS.iconst X81.here hx rfl (hb hby at_238) ?_
        exact k
      obtain ⟨cl84, Ar84, qk84, Sz84, Nn84, Hs84, Gs84⟩ := id V81
      obtain ⟨T85, h85, X85, e85, W85, st85⟩ := stI X81 hx hZ e81 Ar84 (j := (4 : Int32)) (inb_of Sz84 (by decide)) (g := (mkF m 239 #[iv p1, iv p2, iv p3, iv (Int32.ofNat li), iv (Int32.ofNat chs.length), iv (Int32.ofNat nt), iv (Int32.ofNat kp), iv v0, iv v1, iv v2, iv t0, iv t1, iv t2, rv b14, rv b29, rv b45, rv r, rv b52, iv got, .unset, .unset] [(.int (1 : Int32)), (.int (4 : Int32)), (.ref b45)])) rfl rfl (hb hby at_239)
      have N85 := Fr.snoc X85 N81 g_b45
      have V85 : Arv Z h85 b45 k45_ .int (16 : Int32) [(.int (0 : Int32)), (.int (1 : Int32)), (.int (2 : Int32)), (.int (3 : Int32)), (.int (1 : Int32)), (.int (0 : Int32)), (.int (0 : Int32)), (.int (0 : Int32)), (.int (0 : Int32)), (.int (0 : Int32)), (.int (0 : Int32)), (.int (0 : Int32)), (.int (0 : Int32)), (.int (0 : Int32)), (.int (0 : Int32)), (.int (0 : Int32))] (.int (0 : Int32)) := Arv.set Ar84 qk84 Sz84 Nn84 Hs84 Gs84 rfl W85 4 rfl (Nat.le_of_ble_eq_true rfl)
      have k85 : Goes p e below s₁ F0 T85 (mkF m 240 #[iv p1, iv p2, iv p3, iv (Int32.ofNat li), iv (Int32.ofNat chs.length), iv (Int32.ofNat nt), iv (Int32.ofNat kp), iv v0, iv v1, iv v2, iv t0, iv t1, iv t2, rv b14, rv b29, rv b45, rv r, rv b52, iv got, .unset, .unset] []) := fun t k => k83 t (st85 _ k)
      have Z86 : n0 ≤ h85.size := Nat.le_trans Z82 (Keep.of_wr W85).1
      have zk86 : kz ≤ h85.size := Nat.le_trans zk82 (Keep.of_wr W85).1
      have k87 : Goes p e below s₁ F0 T85 (mkF m 245 #[iv p1, iv p2, iv p3, iv (Int32.ofNat li), iv (Int32.ofNat chs.length), iv (Int32.ofNat nt), iv (Int32.ofNat kp), iv v0, iv v1, iv v2, iv t0, iv t1, iv t2, rv b14, rv b29, rv b45, rv r, rv b52, iv got, .unset, .unset] [(.int (2 : Int32)), (.int (8 : Int32)), (.ref b45)]) := by
        intro t k
        refine k85 _ ?_
        skip
        refine XS.aload X85.here hx rfl (hb hby at_240) rfl rfl ?_
        refine XS.bipush X85.here hx rfl (hb hby at_242) ?_
        refine XS.iconst X85.here hx rfl (hb hby at_244) ?_
        exact k
      obtain ⟨cl88, Ar88, qk88, Sz88, Nn88, Hs88, Gs88⟩ := id V85
      obtain ⟨T89, h89, X89, e89, W89, st89⟩ := stI X85 hx hZ e85 Ar88 (j := (8 : Int32)) (inb_of Sz88 (by decide)) (g := (mkF m 245 #[iv p1, iv p2, iv p3, iv (Int32.ofNat li), iv (Int32.ofNat chs.length), iv (Int32.ofNat nt), iv (Int32.ofNat kp), iv v0, iv v1, iv v2, iv t0, iv t1, iv t2, rv b14, rv b29, rv b45, rv r, rv b52, iv got, .unset, .unset] [(.int (2 : Int32)), (.int (8 : Int32)), (.ref b45)])) rfl rfl (hb hby at_245)
      have N89 := Fr.snoc X89 N85 g_b45
      have V89 : Arv Z h89 b45 k45_ .int (16 : Int32) [(.int (0 : Int32)), (.int (1 : Int32)), (.int (2 : Int32)), (.int (3 : Int32)), (.int (1 : Int32)), (.int (0 : Int32)), (.int (0 : Int32)), (.int (0 : Int32)), (.int (2 : Int32)), (.int (0 : Int32)), (.int (0 : Int32)), (.int (0 : Int32)), (.int (0 : Int32)), (.int (0 : Int32)), (.int (0 : Int32)), (.int (0 : Int32))] (.int (0 : Int32)) := Arv.set Ar88 qk88 Sz88 Nn88 Hs88 Gs88 rfl W89 8 rfl (Nat.le_of_ble_eq_true rfl)
      have k89 : Goes p e below s₁ F0 T89 (mkF m 246 #[iv p1, iv p2, iv p3, iv (Int32.ofNat li), iv (Int32.ofNat chs.length), iv (Int32.ofNat nt), iv (Int32.ofNat kp), iv v0, iv v1, iv v2, iv t0, iv t1, iv t2, rv b14, rv b29, rv b45, rv r, rv b52, iv got, .unset, .unset] []) := fun t k => k87 t (st89 _ k)
      have Z90 : n0 ≤ h89.size := Nat.le_trans Z86 (Keep.of_wr W89).1
      have zk90 : kz ≤ h89.size := Nat.le_trans zk86 (Keep.of_wr W89).1
      have k91 : Goes p e below s₁ F0 T89 (mkF m 251 #[iv p1, iv p2, iv p3, iv (Int32.ofNat li), iv (Int32.ofNat chs.length), iv (Int32.ofNat nt), iv (Int32.ofNat kp), iv v0, iv v1, iv v2, iv t0, iv t1, iv t2, rv b14, rv b29, rv b45, rv r, rv b52, iv got, .unset, .unset] [(.int (3 : Int32)), (.int (12 : Int32)), (.ref b45)]) := by
        intro t k
        refine k89 _ ?_
        skip
        refine XS.aload X89.here hx rfl (hb hby at_246) rfl rfl ?_
        refine XS.bipush X89.here hx rfl (hb hby at_248) ?_
        refine XS.iconst X89.here hx rfl (hb hby at_250) ?_
        exact k
      obtain ⟨cl92, Ar92, qk92, Sz92, Nn92, Hs92, Gs92⟩ := id V89
      obtain ⟨T93, h93, X93, e93, W93, st93⟩ := stI X89 hx hZ e89 Ar92 (j := (12 : Int32)) (inb_of Sz92 (by decide)) (g := (mkF m 251 #[iv p1, iv p2, iv p3, iv (Int32.ofNat li), iv (Int32.ofNat chs.length), iv (Int32.ofNat nt), iv (Int32.ofNat kp), iv v0, iv v1, iv v2, iv t0, iv t1, iv t2, rv b14, rv b29, rv b45, rv r, rv b52, iv got, .unset, .unset] [(.int (3 : Int32)), (.int (12 : Int32)), (.ref b45)])) rfl rfl (hb hby at_251)
      have N93 := Fr.snoc X93 N89 g_b45
      have V93 : Arv Z h93 b45 k45_ .int (16 : Int32) [(.int (0 : Int32)), (.int (1 : Int32)), (.int (2 : Int32)), (.int (3 : Int32)), (.int (1 : Int32)), (.int (0 : Int32)), (.int (0 : Int32)), (.int (0 : Int32)), (.int (2 : Int32)), (.int (0 : Int32)), (.int (0 : Int32)), (.int (0 : Int32)), (.int (3 : Int32)), (.int (0 : Int32)), (.int (0 : Int32)), (.int (0 : Int32))] (.int (0 : Int32)) := Arv.set Ar92 qk92 Sz92 Nn92 Hs92 Gs92 rfl W93 12 rfl (Nat.le_of_ble_eq_true rfl)
      have k93 : Goes p e below s₁ F0 T93 (mkF m 252 #[iv p1, iv p2, iv p3, iv (Int32.ofNat li), iv (Int32.ofNat chs.length), iv (Int32.ofNat nt), iv (Int32.ofNat kp), iv v0, iv v1, iv v2, iv t0, iv t1, iv t2, rv b14, rv b29, rv b45, rv r, rv b52, iv got, .unset, .unset] []) := fun t k => k91 t (st93 _ k)
      have Z94 : n0 ≤ h93.size := Nat.le_trans Z90 (Keep.of_wr W93).1
      have zk94 : kz ≤ h93.size := Nat.le_trans zk90 (Keep.of_wr W93).1
      obtain ⟨dl0, ed0⟩ : ∃ z : List Nat, z = [0, 1, 2, 3, 1, 0, 0, 0, 2, 0, 0, 0, 3, 0, 0, 0] := ⟨_, rfl⟩
      have Vd0 : Arv Z h93 b45 k45_ .int (16 : Int32) (own_I dl0) (.int (0 : Int32)) := by rw [ed0]; exact V93
      have ll0 : dl0.length = 16 := by rw [ed0]; rfl
      have lb0 : ∀ k, dl0.getD k 0 ≤ 3 := by rw [ed0]; exact own_d0le
      have f95 := ((((((((VT.keep K61 (ninS ne_b29_b52 nin0)).other W69 ne_b29_b45).other W73 ne_b29_b45).other W77 ne_b29_b45).other W81 ne_b29_b45).other W85 ne_b29_b45).other W89 ne_b29_b45).other W93 ne_b29_b45)
      have f96 := ((((((((VV.keep K61 (ninS ne_b14_b52 nin0)).other W69 ne_b14_b45).other W73 ne_b14_b45).other W77 ne_b14_b45).other W81 ne_b14_b45).other W85 ne_b14_b45).other W89 ne_b14_b45).other W93 ne_b14_b45)
      have k97 : Goes p e below s₁ F0 T93 (mkF m 260 #[iv p1, iv p2, iv p3, iv (Int32.ofNat li), iv (Int32.ofNat chs.length), iv (Int32.ofNat nt), iv (Int32.ofNat kp), iv v0, iv v1, iv v2, iv t0, iv t1, iv t2, rv b14, rv b29, rv b45, rv r, rv b52, iv got, .unset, .unset] [(.int (1 : Int32)), (.int (1 : Int32)), (.ref b14), (.ref b29), (.ref b45)]) := by
        intro t k
        refine k93 _ ?_
        skip
        refine XS.aload X93.here hx rfl (hb hby at_252) rfl rfl ?_
        refine XS.aload X93.here hx rfl (hb hby at_254) rfl rfl ?_
        refine XS.aload X93.here hx rfl (hb hby at_256) rfl rfl ?_
        refine XS.iconst X93.here hx rfl (hb hby at_258) ?_
        refine XS.iconst X93.here hx rfl (hb hby at_259) ?_
        exact k
      obtain ⟨_, _, ⟨T98, L98, ck98, nk98⟩, -, X98, ⟨Lc98, hQ98, l98, y98, z98⟩, st98⟩ := Jvm.LawKit.callS X93 hx (y := (⟨"com/example/catchment/catchment/linkage/EditDistanceBeyondPinLaw", "cell", "([I[C[CII)V"⟩ : MethodName)) hown (mvT hZ (own_q hw 69 rfl)) (mvT hZ (own_q hw 70 rfl)) (mvT hZ (own_q hw 4 rfl)) (mvT hZ (own_q hw 71 rfl)) (by decide) (backOf (W := 0) (rmCe11 l Z a0 hw [] b45 b29 b14 k45_ k29_ k14_ dl0 3 t0 t1 t2 v0 v1 v2 h93 n0 Z94 Vd0 f95 f96 ll0 lb0 (by decide) g_b45) hZ (own_q hw 71 rfl) (own_q hw 4 rfl) (by decide) (by decide)) (g := (mkF m 260 #[iv p1, iv p2, iv p3, iv (Int32.ofNat li), iv (Int32.ofNat chs.length), iv (Int32.ofNat nt), iv (Int32.ofNat kp), iv v0, iv v1, iv v2, iv t0, iv t1, iv t2, rv b14, rv b29, rv b45, rv r, rv b52, iv got, .unset, .unset] [(.int (1 : Int32)), (.int (1 : Int32)), (.ref b14), (.ref b29), (.ref b45)])) rfl (by rw [hml]; rfl) (argsL := [(.ref b45), (.ref b29), (.ref b14), (.int (1 : Int32)), (.int (1 : Int32))]) (rest := []) (lenOf pd_14 rfl) rfl (by show 2 * 0 + _ ≤ _; exact Nat.le_of_eq rfl) (hb hby at_260) (fun _ _ => ⟨rfl, e93, (by decide : 20 + 0 ≤ _), (by decide : 400 + 0 ≤ _)⟩)
      dsimp only [Pt.U, Pt.locs, Pt.cells, Pt.slots] at X98 l98 y98 z98 st98 hQ98
      subst l98 y98 z98
      obtain ⟨rfl, N98q, K98, V98⟩ := hQ98
      have N98 := Fr.app N93 N98q
      have k98 : Goes p e below s₁ F0 T98 (mkF m 263 #[iv p1, iv p2, iv p3, iv (Int32.ofNat li), iv (Int32.ofNat chs.length), iv (Int32.ofNat nt), iv (Int32.ofNat kp), iv v0, iv v1, iv v2, iv t0, iv t1, iv t2, rv b14, rv b29, rv b45, rv r, rv b52, iv got, .unset, .unset] []) := fun t k => k97 t (st98 _ k)
      have Z99 : n0 ≤ T98.heap.size := Nat.le_trans Z94 K98.1
      have zk99 : kz ≤ T98.heap.size := Nat.le_trans zk94 K98.1
      obtain ⟨dl1, ed1⟩ : ∃ z : List Nat, z = own_dr dl0 (own_E t0 t1 t2 v0 v1 v2) 1 1 := ⟨_, rfl⟩
      rw [own_dr11 (fun k => Nat.le_trans (lb0 k) (by decide)) t0 t1 t2 v0 v1 v2, ← ed1] at V98
      have ll1 : dl1.length = 16 := by rw [ed1, own_dr_len]; exact ll0
      have lb1 : ∀ k, dl1.getD k 0 ≤ 4 := by rw [ed1]; exact own_dr_le lb0
      have f100 := (f95.keep K98 (ninS ne_b29_b45 nin0))
      have f101 := (f96.keep K98 (ninS ne_b14_b45 nin0))
      have k102 : Goes p e below s₁ F0 T98 (mkF m 271 #[iv p1, iv p2, iv p3, iv (Int32.ofNat li), iv (Int32.ofNat chs.length), iv (Int32.ofNat nt), iv (Int32.ofNat kp), iv v0, iv v1, iv v2, iv t0, iv t1, iv t2, rv b14, rv b29, rv b45, rv r, rv b52, iv got, .unset, .unset] [(.int (2 : Int32)), (.int (1 : Int32)), (.ref b14), (.ref b29), (.ref b45)]) := by
        intro t k
        refine k98 _ ?_
        skip
        refine XS.aload X98.here hx rfl (hb hby at_263) rfl rfl ?_
        refine XS.aload X98.here hx rfl (hb hby at_265) rfl rfl ?_
        refine XS.aload X98.here hx rfl (hb hby at_267) rfl rfl ?_
        refine XS.iconst X98.here hx rfl (hb hby at_269) ?_
        refine XS.iconst X98.here hx rfl (hb hby at_270) ?_
        exact k
      obtain ⟨_, _, ⟨T103, L103, ck103, nk103⟩, -, X103, ⟨Lc103, hQ103, l103, y103, z103⟩, st103⟩ := Jvm.LawKit.callS X98 hx (y := (⟨"com/example/catchment/catchment/linkage/EditDistanceBeyondPinLaw", "cell", "([I[C[CII)V"⟩ : MethodName)) hown (mvT hZ (own_q hw 69 rfl)) (mvT hZ (own_q hw 70 rfl)) (mvT hZ (own_q hw 4 rfl)) (mvT hZ (own_q hw 71 rfl)) (by decide) (backOf (W := 0) (rmCe12 l Z a0 hw [] b45 b29 b14 k45_ k29_ k14_ dl1 4 t0 t1 t2 v0 v1 v2 T98.heap n0 Z99 V98 f100 f101 ll1 lb1 (by decide) g_b45) hZ (own_q hw 71 rfl) (own_q hw 4 rfl) (by decide) (by decide)) (g := (mkF m 271 #[iv p1, iv p2, iv p3, iv (Int32.ofNat li), iv (Int32.ofNat chs.length), iv (Int32.ofNat nt), iv (Int32.ofNat kp), iv v0, iv v1, iv v2, iv t0, iv t1, iv t2, rv b14, rv b29, rv b45, rv r, rv b52, iv got, .unset, .unset] [(.int (2 : Int32)), (.int (1 : Int32)), (.ref b14), (.ref b29), (.ref b45)])) rfl (by rw [hml]; rfl) (argsL := [(.ref b45), (.ref b29), (.ref b14), (.int (1 : Int32)), (.int (2 : Int32))]) (rest := []) (lenOf pd_14 rfl) rfl (by show 2 * 0 + _ ≤ _; exact Nat.le_of_eq rfl) (hb hby at_271) (fun _ _ => ⟨rfl, rfl, (by decide : 20 + 0 ≤ _), (by decide : 400 + 0 ≤ _)⟩)
      dsimp only [Pt.U, Pt.locs, Pt.cells, Pt.slots] at X103 l103 y103 z103 st103 hQ103
      subst l103 y103 z103
      obtain ⟨rfl, N103q, K103, V103⟩ := hQ103
      have N103 := Fr.app N98 N103q
      have k103 : Goes p e below s₁ F0 T103 (mkF m 274 #[iv p1, iv p2, iv p3, iv (Int32.ofNat li), iv (Int32.ofNat chs.length), iv (Int32.ofNat nt), iv (Int32.ofNat kp), iv v0, iv v1, iv v2, iv t0, iv t1, iv t2, rv b14, rv b29, rv b45, rv r, rv b52, iv got, .unset, .unset] []) := fun t k => k102 t (st103 _ k)
      have Z104 : n0 ≤ T103.heap.size := Nat.le_trans Z99 K103.1
      have zk104 : kz ≤ T103.heap.size := Nat.le_trans zk99 K103.1
      obtain ⟨dl2, ed2⟩ : ∃ z : List Nat, z = own_dr dl1 (own_E t0 t1 t2 v0 v1 v2) 1 2 := ⟨_, rfl⟩
      rw [own_dr12 (fun k => Nat.le_trans (lb1 k) (by decide)) t0 t1 t2 v0 v1 v2, ← ed2] at V103
      have ll2 : dl2.length = 16 := by rw [ed2, own_dr_len]; exact ll1
      have lb2 : ∀ k, dl2.getD k 0 ≤ 5 := by rw [ed2]; exact own_dr_le lb1
      have f105 := (f100.keep K103 (ninS ne_b29_b45 nin0))
      have f106 := (f101.keep K103 (ninS ne_b14_b45 nin0))
      have k107 : Goes p e below s₁ F0 T103 (mkF m 282 #[iv p1, iv p2, iv p3, iv (Int32.ofNat li), iv (Int32.ofNat chs.length), iv (Int32.ofNat nt), iv (Int32.ofNat kp), iv v0, iv v1, iv v2, iv t0, iv t1, iv t2, rv b14, rv b29, rv b45, rv r, rv b52, iv got, .unset, .unset] [(.int (3 : Int32)), (.int (1 : Int32)), (.ref b14), (.ref b29), (.ref b45)]) := by
        intro t k
        refine k103 _ ?_
        skip
        refine XS.aload X103.here hx rfl (hb hby at_274) rfl rfl ?_
        refine XS.aload X103.here hx rfl (hb hby at_276) rfl rfl ?_
        refine XS.aload X103.here hx rfl (hb hby at_278) rfl rfl ?_
        refine XS.iconst X103.here hx rfl (hb hby at_280) ?_
        refine XS.iconst X103.here hx rfl (hb hby at_281) ?_
        exact k
      obtain ⟨_, _, ⟨T108, L108, ck108, nk108⟩, -, X108, ⟨Lc108, hQ108, l108, y108, z108⟩, st108⟩ := Jvm.LawKit.callS X103 hx (y := (⟨"com/example/catchment/catchment/linkage/EditDistanceBeyondPinLaw", "cell", "([I[C[CII)V"⟩ : MethodName)) hown (mvT hZ (own_q hw 69 rfl)) (mvT hZ (own_q hw 70 rfl)) (mvT hZ (own_q hw 4 rfl)) (mvT hZ (own_q hw 71 rfl)) (by decide) (backOf (W := 0) (rmCe13 l Z a0 hw [] b45 b29 b14 k45_ k29_ k14_ dl2 5 t0 t1 t2 v0 v1 v2 T103.heap n0 Z104 V103 f105 f106 ll2 lb2 (by decide) g_b45) hZ (own_q hw 71 rfl) (own_q hw 4 rfl) (by decide) (by decide)) (g := (mkF m 282 #[iv p1, iv p2, iv p3, iv (Int32.ofNat li), iv (Int32.ofNat chs.length), iv (Int32.ofNat nt), iv (Int32.ofNat kp), iv v0, iv v1, iv v2, iv t0, iv t1, iv t2, rv b14, rv b29, rv b45, rv r, rv b52, iv got, .unset, .unset] [(.int (3 : Int32)), (.int (1 : Int32)), (.ref b14), (.ref b29), (.ref b45)])) rfl (by rw [hml]; rfl) (argsL := [(.ref b45), (.ref b29), (.ref b14), (.int (1 : Int32)), (.int (3 : Int32))]) (rest := []) (lenOf pd_14 rfl) rfl (by show 2 * 0 + _ ≤ _; exact Nat.le_of_eq rfl) (hb hby at_282) (fun _ _ => ⟨rfl, rfl, (by decide : 20 + 0 ≤ _), (by decide : 400 + 0 ≤ _)⟩)
      dsimp only [Pt.U, Pt.locs, Pt.cells, Pt.slots] at X108 l108 y108 z108 st108 hQ108
      subst l108 y108 z108
      obtain ⟨rfl, N108q, K108, V108⟩ := hQ108
      have N108 := Fr.app N103 N108q
      have k108 : Goes p e below s₁ F0 T108 (mkF m 285 #[iv p1, iv p2, iv p3, iv (Int32.ofNat li), iv (Int32.ofNat chs.length), iv (Int32.ofNat nt), iv (Int32.ofNat kp), iv v0, iv v1, iv v2, iv t0, iv t1, iv t2, rv b14, rv b29, rv b45, rv r, rv b52, iv got, .unset, .unset] []) := fun t k => k107 t (st108 _ k)
      have Z109 : n0 ≤ T108.heap.size := Nat.le_trans Z104 K108.1
      have zk109 : kz ≤ T108.heap.size := Nat.le_trans zk104 K108.1
      obtain ⟨dl3, ed3⟩ : ∃ z : List Nat, z = own_dr dl2 (own_E t0 t1 t2 v0 v1 v2) 1 3 := ⟨_, rfl⟩
      rw [own_dr13 (fun k => Nat.le_trans (lb2 k) (by decide)) t0 t1 t2 v0 v1 v2, ← ed3] at V108
      have ll3 : dl3.length = 16 := by rw [ed3, own_dr_len]; exact ll2
      have lb3 : ∀ k, dl3.getD k 0 ≤ 6 := by rw [ed3]; exact own_dr_le lb2
      have f110 := (f105.keep K108 (ninS ne_b29_b45 nin0))
      have f111 := (f106.keep K108 (ninS ne_b14_b45 nin0))
      have k112 : Goes p e below s₁ F0 T108 (mkF m 293 #[iv p1, iv p2, iv p3, iv (Int32.ofNat li), iv (Int32.ofNat chs.length), iv (Int32.ofNat nt), iv (Int32.ofNat kp), iv v0, iv v1, iv v2, iv t0, iv t1, iv t2, rv b14, rv b29, rv b45, rv r, rv b52, iv got, .unset, .unset] [(.int (1 : Int32)), (.int (2 : Int32)), (.ref b14), (.ref b29), (.ref b45)]) := by
        intro t k
        refine k108 _ ?_
        skip
        refine XS.aload X108.here hx rfl (hb hby at_285) rfl rfl ?_
        refine XS.aload X108.here hx rfl (hb hby at_287) rfl rfl ?_
        refine XS.aload X108.here hx rfl (hb hby at_289) rfl rfl ?_
        refine XS.iconst X108.here hx rfl (hb hby at_291) ?_
        refine XS.iconst X108.here hx rfl (hb hby at_292) ?_
        exact k
      obtain ⟨_, _, ⟨T113, L113, ck113, nk113⟩, -, X113, ⟨Lc113, hQ113, l113, y113, z113⟩, st113⟩ := Jvm.LawKit.callS X108 hx (y := (⟨"com/example/catchment/catchment/linkage/EditDistanceBeyondPinLaw", "cell", "([I[C[CII)V"⟩ : MethodName)) hown (mvT hZ (own_q hw 69 rfl)) (mvT hZ (own_q hw 70 rfl)) (mvT hZ (own_q hw 4 rfl)) (mvT hZ (own_q hw 71 rfl)) (by decide) (backOf (W := 0) (rmCe21 l Z a0 hw [] b45 b29 b14 k45_ k29_ k14_ dl3 6 t0 t1 t2 v0 v1 v2 T108.heap n0 Z109 V108 f110 f111 ll3 lb3 (by decide) g_b45) hZ (own_q hw 71 rfl) (own_q hw 4 rfl) (by decide) (by decide)) (g := (mkF m 293 #[iv p1, iv p2, iv p3, iv (Int32.ofNat li), iv (Int32.ofNat chs.length), iv (Int32.ofNat nt), iv (Int32.ofNat kp), iv v0, iv v1, iv v2, iv t0, iv t1, iv t2, rv b14, rv b29, rv b45, rv r, rv b52, iv got, .unset, .unset] [(.int (1 : Int32)), (.int (2 : Int32)), (.ref b14), (.ref b29), (.ref b45)])) rfl (by rw [hml]; rfl) (argsL := [(.ref b45), (.ref b29), (.ref b14), (.int (2 : Int32)), (.int (1 : Int32))]) (rest := []) (lenOf pd_14 rfl) rfl (by show 2 * 0 + _ ≤ _; exact Nat.le_of_eq rfl) (hb hby at_293) (fun _ _ => ⟨rfl, rfl, (by decide : 20 + 0 ≤ _), (by decide : 400 + 0 ≤ _)⟩)
      dsimp only [Pt.U, Pt.locs, Pt.cells, Pt.slots] at X113 l113 y113 z113 st113 hQ113
      subst l113 y113 z113
      obtain ⟨rfl, N113q, K113, V113⟩ := hQ113
      have N113 := Fr.app N108 N113q
      have k113 : Goes p e below s₁ F0 T113 (mkF m 296 #[iv p1, iv p2, iv p3, iv (Int32.ofNat li), iv (Int32.ofNat chs.length), iv (Int32.ofNat nt), iv (Int32.ofNat kp), iv v0, iv v1, iv v2, iv t0, iv t1, iv t2, rv b14, rv b29, rv b45, rv r, rv b52, iv got, .unset, .unset] []) := fun t k => k112 t (st113 _ k)
      have Z114 : n0 ≤ T113.heap.size := Nat.le_trans Z109 K113.1
      have zk114 : kz ≤ T113.heap.size := Nat.le_trans zk109 K113.1
      obtain ⟨dl4, ed4⟩ : ∃ z : List Nat, z = own_dr dl3 (own_E t0 t1 t2 v0 v1 v2) 2 1 := ⟨_, rfl⟩
      rw [own_dr21 (fun k => Nat.le_trans (lb3 k) (by decide)) t0 t1 t2 v0 v1 v2, ← ed4] at V113
      have ll4 : dl4.length = 16 := by rw [ed4, own_dr_len]; exact ll3
      have lb4 : ∀ k, dl4.getD k 0 ≤ 7 := by rw [ed4]; exact own_dr_le lb3
      have f115 := (f110.keep K113 (ninS ne_b29_b45 nin0))
      have f116 := (f111.keep K113 (ninS ne_b14_b45 nin0))
      have k117 : Goes p e below s₁ F0 T113 (mkF m 304 #[iv p1, iv p2, iv p3, iv (Int32.ofNat li), iv (Int32.ofNat chs.length), iv (Int32.ofNat nt), iv (Int32.ofNat kp), iv v0, iv v1, iv v2, iv t0, iv t1, iv t2, rv b14, rv b29, rv b45, rv r, rv b52, iv got, .unset, .unset] [(.int (2 : Int32)), (.int (2 : Int32)), (.ref b14), (.ref b29), (.ref b45)]) := by
        intro t k
        refine k113 _ ?_
        skip
        refine XS.aload X113.here hx rfl (hb hby at_296) rfl rfl ?_
        refine XS.aload X113.here hx rfl (hb hby at_298) rfl rfl ?_
        refine XS.aload X113.here hx rfl (hb hby at_300) rfl rfl ?_
        refine XS.iconst X113.here hx rfl (hb hby at_302) ?_
        refine XS.iconst X113.here hx rfl (hb hby at_303) ?_
        exact k
      obtain ⟨_, _, ⟨T118, L118, ck118, nk118⟩, -, X118, ⟨Lc118, hQ118, l118, y118, z118⟩, st118⟩ := Jvm.LawKit.callS X113 hx (y := (⟨"com/example/catchment/catchment/linkage/EditDistanceBeyondPinLaw", "cell", "([I[C[CII)V"⟩ : MethodName)) hown (mvT hZ (own_q hw 69 rfl)) (mvT hZ (own_q hw 70 rfl)) (mvT hZ (own_q hw 4 rfl)) (mvT hZ (own_q hw 71 rfl)) (by decide) (backOf (W := 0) (rmCe22 l Z a0 hw [] b45 b29 b14 k45_ k29_ k14_ dl4 7 t0 t1 t2 v0 v1 v2 T113.heap n0 Z114 V113 f115 f116 ll4 lb4 (by decide) g_b45) hZ (own_q hw 71 rfl) (own_q hw 4 rfl) (by decide) (by decide)) (g := (mkF m 304 #[iv p1, iv p2, iv p3, iv (Int32.ofNat li), iv (Int32.ofNat chs.length), iv (Int32.ofNat nt), iv (Int32.ofNat kp), iv v0, iv v1, iv v2, iv t0, iv t1, iv t2, rv b14, rv b29, rv b45, rv r, rv b52, iv got, .unset, .unset] [(.int (2 : Int32)), (.int (2 : Int32)), (.ref b14), (.ref b29), (.ref b45)])) rfl (by rw [hml]; rfl) (argsL := [(.ref b45), (.ref b29), (.ref b14), (.int (2 : Int32)), (.int (2 : Int32))]) (rest := []) (lenOf pd_14 rfl) rfl (by show 2 * 0 + _ ≤ _; exact Nat.le_of_eq rfl) (hb hby at_304) (fun _ _ => ⟨rfl, rfl, (by decide : 20 + 0 ≤ _), (by decide : 400 + 0 ≤ _)⟩)
      dsimp only [Pt.U, Pt.locs, Pt.cells, Pt.slots] at X118 l118 y118 z118 st118 hQ118
      subst l118 y118 z118
      obtain ⟨rfl, N118q, K118, V118⟩ := hQ118
      have N118 := Fr.app N113 N118q
      have k118 : Goes p e below s₁ F0 T118 (mkF m 307 #[iv p1, iv p2, iv p3, iv (Int32.ofNat li), iv (Int32.ofNat chs.length), iv (Int32.ofNat nt), iv (Int32.ofNat kp), iv v0, iv v1, iv v2, iv t0, iv t1, iv t2, rv b14, rv b29, rv b45, rv r, rv b52, iv got, .unset, .unset] []) := fun t k => k117 t (st118 _ k)
      have Z119 : n0 ≤ T118.heap.size := Nat.le_trans Z114 K118.1
      have zk119 : kz ≤ T118.heap.size := Nat.le_trans zk114 K118.1
      obtain ⟨dl5, ed5⟩ : ∃ z : List Nat, z = own_dr dl4 (own_E t0 t1 t2 v0 v1 v2) 2 2 := ⟨_, rfl⟩
      rw [own_dr22 (fun k => Nat.le_trans (lb4 k) (by decide)) t0 t1 t2 v0 v1 v2, ← ed5] at V118
      have ll5 : dl5.length = 16 := by rw [ed5, own_dr_len]; exact ll4
      have lb5 : ∀ k, dl5.getD k 0 ≤ 8 := by rw [ed5]; exact own_dr_le lb4
      have f120 := (f115.keep K118 (ninS ne_b29_b45 nin0))
      have f121 := (f116.keep K118 (ninS ne_b14_b45 nin0))
      have k122 : Goes p e below s₁ F0 T118 (mkF m 315 #[iv p1, iv p2, iv p3, iv (Int32.ofNat li), iv (Int32.ofNat chs.length), iv (Int32.ofNat nt), iv (Int32.ofNat kp), iv v0, iv v1, iv v2, iv t0, iv t1, iv t2, rv b14, rv b29, rv b45, rv r, rv b52, iv got, .unset, .unset] [(.int (3 : Int32)), (.int (2 : Int32)), (.ref b14), (.ref b29), (.ref b45)]) := by
        intro t k
        refine k118 _ ?_
        skip
        refine XS.aload X118.here hx rfl (hb hby at_307) rfl rfl ?_
        refine XS.aload X118.here hx rfl (hb hby at_309) rfl rfl ?_
        refine XS.aload X118.here hx rfl (hb hby at_311) rfl rfl ?_
        refine XS.iconst X118.here hx rfl (hb hby at_313) ?_
        refine XS.iconst X118.here hx rfl (hb hby at_314) ?_
        exact k
      obtain ⟨_, _, ⟨T123, L123, ck123, nk123⟩, -, X123, ⟨Lc123, hQ123, l123, y123, z123⟩, st123⟩ := Jvm.LawKit.callS X118 hx (y := (⟨"com/example/catchment/catchment/linkage/EditDistanceBeyondPinLaw", "cell", "([I[C[CII)V"⟩ : MethodName)) hown (mvT hZ (own_q hw 69 rfl)) (mvT hZ (own_q hw 70 rfl)) (mvT hZ (own_q hw 4 rfl)) (mvT hZ (own_q hw 71 rfl)) (by decide) (backOf (W := 0) (rmCe23 l Z a0 hw [] b45 b29 b14 k45_ k29_ k14_ dl5 8 t0 t1 t2 v0 v1 v2 T118.heap n0 Z119 V118 f120 f121 ll5 lb5 (by decide) g_b45) hZ (own_q hw 71 rfl) (own_q hw 4 rfl) (by decide) (by decide)) (g := (mkF m 315 #[iv p1, iv p2, iv p3, iv (Int32.ofNat li), iv (Int32.ofNat chs.length), iv (Int32.ofNat nt), iv (Int32.ofNat kp), iv v0, iv v1, iv v2, iv t0, iv t1, iv t2, rv b14, rv b29, rv b45, rv r, rv b52, iv got, .unset, .unset] [(.int (3 : Int32)), (.int (2 : Int32)), (.ref b14), (.ref b29), (.ref b45)])) rfl (by rw [hml]; rfl) (argsL := [(.ref b45), (.ref b29), (.ref b14), (.int (2 : Int32)), (.int (3 : Int32))]) (rest := []) (lenOf pd_14 rfl) rfl (by show 2 * 0 + _ ≤ _; exact Nat.le_of_eq rfl) (hb hby at_315) (fun _ _ => ⟨rfl, rfl, (by decide : 20 + 0 ≤ _), (by decide : 400 + 0 ≤ _)⟩)
      dsimp only [Pt.U, Pt.locs, Pt.cells, Pt.slots] at X123 l123 y123 z123 st123 hQ123
      subst l123 y123 z123
      obtain ⟨rfl, N123q, K123, V123⟩ := hQ123
      have N123 := Fr.app N118 N123q
      have k123 : Goes p e below s₁ F0 T123 (mkF m 318 #[iv p1, iv p2, iv p3, iv (Int32.ofNat li), iv (Int32.ofNat chs.length), iv (Int32.ofNat nt), iv (Int32.ofNat kp), iv v0, iv v1, iv v2, iv t0, iv t1, iv t2, rv b14, rv b29, rv b45, rv r, rv b52, iv got, .unset, .unset] []) := fun t k => k122 t (st123 _ k)
      have Z124 : n0 ≤ T123.heap.size := Nat.le_trans Z119 K123.1
      have zk124 : kz ≤ T123.heap.size := Nat.le_trans zk119 K123.1
      obtain ⟨dl6, ed6⟩ : ∃ z : List Nat, z = own_dr dl5 (own_E t0 t1 t2 v0 v1 v2) 2 3 := ⟨_, rfl⟩
      rw [own_dr23 (fun k => Nat.le_trans (lb5 k) (by decide)) t0 t1 t2 v0 v1 v2, ← ed6] at V123
      have ll6 : dl6.length = 16 := by rw [ed6, own_dr_len]; exact ll5
      have lb6 : ∀ k, dl6.getD k 0 ≤ 9 := by rw [ed6]; exact own_dr_le lb5
      have f125 := (f120.keep K123 (ninS ne_b29_b45 nin0))
      have f126 := (f121.keep K123 (ninS ne_b14_b45 nin0))
      have k127 : Goes p e below s₁ F0 T123 (mkF m 326 #[iv p1, iv p2, iv p3, iv (Int32.ofNat li), iv (Int32.ofNat chs.length), iv (Int32.ofNat nt), iv (Int32.ofNat kp), iv v0, iv v1, iv v2, iv t0, iv t1, iv t2, rv b14, rv b29, rv b45, rv r, rv b52, iv got, .unset, .unset] [(.int (1 : Int32)), (.int (3 : Int32)), (.ref b14), (.ref b29), (.ref b45)]) := by
        intro t k
        refine k123 _ ?_
        skip
        refine XS.aload X123.here hx rfl (hb hby at_318) rfl rfl ?_
        refine XS.aload X123.here hx rfl (hb hby at_320) rfl rfl ?_
        refine XS.aload X123.here hx rfl (hb hby at_322) rfl rfl ?_
        refine XS.iconst X123.here hx rfl (hb hby at_324) ?_
        refine XS.iconst X123.here hx rfl (hb hby at_325) ?_
        exact k
      obtain ⟨_, _, ⟨T128, L128, ck128, nk128⟩, -, X128, ⟨Lc128, hQ128, l128, y128, z128⟩, st128⟩ := Jvm.LawKit.callS X123 hx (y := (⟨"com/example/catchment/catchment/linkage/EditDistanceBeyondPinLaw", "cell", "([I[C[CII)V"⟩ : MethodName)) hown (mvT hZ (own_q hw 69 rfl)) (mvT hZ (own_q hw 70 rfl)) (mvT hZ (own_q hw 4 rfl)) (mvT hZ (own_q hw 71 rfl)) (by decide) (backOf (W := 0) (rmCe31 l Z a0 hw [] b45 b29 b14 k45_ k29_ k14_ dl6 9 t0 t1 t2 v0 v1 v2 T123.heap n0 Z124 V123 f125 f126 ll6 lb6 (by decide) g_b45) hZ (own_q hw 71 rfl) (own_q hw 4 rfl) (by decide) (by decide)) (g := (mkF m 326 #[iv p1, iv p2, iv p3, iv (Int32.ofNat li), iv (Int32.ofNat chs.length), iv (Int32.ofNat nt), iv (Int32.ofNat kp), iv v0, iv v1, iv v2, iv t0, iv t1, iv t2, rv b14, rv b29, rv b45, rv r, rv b52, iv got, .unset, .unset] [(.int (1 : Int32)), (.int (3 : Int32)), (.ref b14), (.ref b29), (.ref b45)])) rfl (by rw [hml]; rfl) (argsL := [(.ref b45), (.ref b29), (.ref b14), (.int (3 : Int32)), (.int (1 : Int32))]) (rest := []) (lenOf pd_14 rfl) rfl (by show 2 * 0 + _ ≤ _; exact Nat.le_of_eq rfl) (hb hby at_326) (fun _ _ => ⟨rfl, rfl, (by decide : 20 + 0 ≤ _), (by decide : 400 + 0 ≤ _)⟩)
      dsimp only [Pt.U, Pt.locs, Pt.cells, Pt.slots] at X128 l128 y128 z128 st128 hQ128
      subst l128 y128 z128
      obtain ⟨rfl, N128q, K128, V128⟩ := hQ128
      have N128 := Fr.app N123 N128q
      have k128 : Goes p e below s₁ F0 T128 (mkF m 329 #[iv p1, iv p2, iv p3, iv (Int32.ofNat li), iv (Int32.ofNat chs.length), iv (Int32.ofNat nt), iv (Int32.ofNat kp), iv v0, iv v1, iv v2, iv t0, iv t1, iv t2, rv b14, rv b29, rv b45, rv r, rv b52, iv got, .unset, .unset] []) := fun t k => k127 t (st128 _ k)
      have Z129 : n0 ≤ T128.heap.size := Nat.le_trans Z124 K128.1
      have zk129 : kz ≤ T128.heap.size := Nat.le_trans zk124 K128.1
      obtain ⟨dl7, ed7⟩ : ∃ z : List Nat, z = own_dr dl6 (own_E t0 t1 t2 v0 v1 v2) 3 1 := ⟨_, rfl⟩
      rw [own_dr31 (fun k => Nat.le_trans (lb6 k) (by decide)) t0 t1 t2 v0 v1 v2, ← ed7] at V128
      have ll7 : dl7.length = 16 := by rw [ed7, own_dr_len]; exact ll6
      have lb7 : ∀ k, dl7.getD k 0 ≤ 10 := by rw [ed7]; exact own_dr_le lb6
      have f130 := (f125.keep K128 (ninS ne_b29_b45 nin0))
      have f131 := (f126.keep K128 (ninS ne_b14_b45 nin0))
      have k132 : Goes p e below s₁ F0 T128 (mkF m 337 #[iv p1, iv p2, iv p3, iv (Int32.ofNat li), iv (Int32.ofNat chs.length), iv (Int32.ofNat nt), iv (Int32.ofNat kp), iv v0, iv v1, iv v2, iv t0, iv t1, iv t2, rv b14, rv b29, rv b45, rv r, rv b52, iv got, .unset, .unset] [(.int (2 : Int32)), (.int (3 : Int32)), (.ref b14), (.ref b29), (.ref b45)]) := by
        intro t k
        refine k128 _ ?_
        skip
        refine XS.aload X128.here hx rfl (hb hby at_329) rfl rfl ?_
        refine XS.aload X128.here hx rfl (hb hby at_331) rfl rfl ?_
        refine XS.aload X128.here hx rfl (hb hby at_333) rfl rfl ?_
        refine XS.iconst X128.here hx rfl (hb hby at_335) ?_
        refine XS.iconst X128.here hx rfl (hb hby at_336) ?_
        exact k
      obtain ⟨_, _, ⟨T133, L133, ck133, nk133⟩, -, X133, ⟨Lc133, hQ133, l133, y133, z133⟩, st133⟩ := Jvm.LawKit.callS X128 hx (y := (⟨"com/example/catchment/catchment/linkage/EditDistanceBeyondPinLaw", "cell", "([I[C[CII)V"⟩ : MethodName)) hown (mvT hZ (own_q hw 69 rfl)) (mvT hZ (own_q hw 70 rfl)) (mvT hZ (own_q hw 4 rfl)) (mvT hZ (own_q hw 71 rfl)) (by decide) (backOf (W := 0) (rmCe32 l Z a0 hw [] b45 b29 b14 k45_ k29_ k14_ dl7 10 t0 t1 t2 v0 v1 v2 T128.heap n0 Z129 V128 f130 f131 ll7 lb7 (by decide) g_b45) hZ (own_q hw 71 rfl) (own_q hw 4 rfl) (by decide) (by decide)) (g := (mkF m 337 #[iv p1, iv p2, iv p3, iv (Int32.ofNat li), iv (Int32.ofNat chs.length), iv (Int32.ofNat nt), iv (Int32.ofNat kp), iv v0, iv v1, iv v2, iv t0, iv t1, iv t2, rv b14, rv b29, rv b45, rv r, rv b52, iv got, .unset, .unset] [(.int (2 : Int32)), (.int (3 : Int32)), (.ref b14), (.ref b29), (.ref b45)])) rfl (by rw [hml]; rfl) (argsL := [(.ref b45), (.ref b29), (.ref b14), (.int (3 : Int32)), (.int (2 : Int32))]) (rest := []) (lenOf pd_14 rfl) rfl (by show 2 * 0 + _ ≤ _; exact Nat.le_of_eq rfl) (hb hby at_337) (fun _ _ => ⟨rfl, rfl, (by decide : 20 + 0 ≤ _), (by decide : 400 + 0 ≤ _)⟩)
      dsimp only [Pt.U, Pt.locs, Pt.cells, Pt.slots] at X133 l133 y133 z133 st133 hQ133
      subst l133 y133 z133
      obtain ⟨rfl, N133q, K133, V133⟩ := hQ133
      have N133 := Fr.app N128 N133q
      have k133 : Goes p e below s₁ F0 T133 (mkF m 340 #[iv p1, iv p2, iv p3, iv (Int32.ofNat li), iv (Int32.ofNat chs.length), iv (Int32.ofNat nt), iv (Int32.ofNat kp), iv v0, iv v1, iv v2, iv t0, iv t1, iv t2, rv b14, rv b29, rv b45, rv r, rv b52, iv got, .unset, .unset] []) := fun t k => k132 t (st133 _ k)
      have Z134 : n0 ≤ T133.heap.size := Nat.le_trans Z129 K133.1
      have zk134 : kz ≤ T133.heap.size := Nat.le_trans zk129 K133.1
      obtain ⟨dl8, ed8⟩ : ∃ z : List Nat, z = own_dr dl7 (own_E t0 t1 t2 v0 v1 v2) 3 2 := ⟨_, rfl⟩
      rw [own_dr32 (fun k => Nat.le_trans (lb7 k) (by decide)) t0 t1 t2 v0 v1 v2, ← ed8] at V133
      have ll8 : dl8.length = 16 := by rw [ed8, own_dr_len]; exact ll7
      have lb8 : ∀ k, dl8.getD k 0 ≤ 11 := by rw [ed8]; exact own_dr_le lb7
      have f135 := (f130.keep K133 (ninS ne_b29_b45 nin0))
      have f136 := (f131.keep K133 (ninS ne_b14_b45 nin0))
      have k137 : Goes p e below s₁ F0 T133 (mkF m 348 #[iv p1, iv p2, iv p3, iv (Int32.ofNat li), iv (Int32.ofNat chs.length), iv (Int32.ofNat nt), iv (Int32.ofNat kp), iv v0, iv v1, iv v2, iv t0, iv t1, iv t2, rv b14, rv b29, rv b45, rv r, rv b52, iv got, .unset, .unset] [(.int (3 : Int32)), (.int (3 : Int32)), (.ref b14), (.ref b29), (.ref b45)]) := by
        intro t k
        refine k133 _ ?_
        skip
        refine XS.aload X133.here hx rfl (hb hby at_340) rfl rfl ?_
        refine XS.aload X133.here hx rfl (hb hby at_342) rfl rfl ?_
        refine XS.aload X133.here hx rfl (hb hby at_344) rfl rfl ?_
        refine XS.iconst X133.here hx rfl (hb hby at_346) ?_
        refine XS.iconst X133.here hx rfl (hb hby at_347) ?_
        exact k
      obtain ⟨_, _, ⟨T138, L138, ck138, nk138⟩, -, X138, ⟨Lc138, hQ138, l138, y138, z138⟩, st138⟩ := Jvm.LawKit.callS X133 hx (y := (⟨"com/example/catchment/catchment/linkage/EditDistanceBeyondPinLaw", "cell", "([I[C[CII)V"⟩ : MethodName)) hown (mvT hZ (own_q hw 69 rfl)) (mvT hZ (own_q hw 70 rfl)) (mvT hZ (own_q hw 4 rfl)) (mvT hZ (own_q hw 71 rfl)) (by decide) (backOf (W := 0) (rmCe33 l Z a0 hw [] b45 b29 b14 k45_ k29_ k14_ dl8 11 t0 t1 t2 v0 v1 v2 T133.heap n0 Z134 V133 f135 f136 ll8 lb8 (by decide) g_b45) hZ (own_q hw 71 rfl) (own_q hw 4 rfl) (by decide) (by decide)) (g := (mkF m 348 #[iv p1, iv p2, iv p3, iv (Int32.ofNat li), iv (Int32.ofNat chs.length), iv (Int32.ofNat nt), iv (Int32.ofNat kp), iv v0, iv v1, iv v2, iv t0, iv t1, iv t2, rv b14, rv b29, rv b45, rv r, rv b52, iv got, .unset, .unset] [(.int (3 : Int32)), (.int (3 : Int32)), (.ref b14), (.ref b29), (.ref b45)])) rfl (by rw [hml]; rfl) (argsL := [(.ref b45), (.ref b29), (.ref b14), (.int (3 : Int32)), (.int (3 : Int32))]) (rest := []) (lenOf pd_14 rfl) rfl (by show 2 * 0 + _ ≤ _; exact Nat.le_of_eq rfl) (hb hby at_348) (fun _ _ => ⟨rfl, rfl, (by decide : 20 + 0 ≤ _), (by decide : 400 + 0 ≤ _)⟩)
      dsimp only [Pt.U, Pt.locs, Pt.cells, Pt.slots] at X138 l138 y138 z138 st138 hQ138
      subst l138 y138 z138
      obtain ⟨rfl, N138q, K138, V138⟩ := hQ138
      have N138 := Fr.app N133 N138q
      have k138 : Goes p e below s₁ F0 T138 (mkF m 351 #[iv p1, iv p2, iv p3, iv (Int32.ofNat li), iv (Int32.ofNat chs.length), iv (Int32.ofNat nt), iv (Int32.ofNat kp), iv v0, iv v1, iv v2, iv t0, iv t1, iv t2, rv b14, rv b29, rv b45, rv r, rv b52, iv got, .unset, .unset] []) := fun t k => k137 t (st138 _ k)
      have Z139 : n0 ≤ T138.heap.size := Nat.le_trans Z134 K138.1
      have zk139 : kz ≤ T138.heap.size := Nat.le_trans zk134 K138.1
      obtain ⟨dl9, ed9⟩ : ∃ z : List Nat, z = own_dr dl8 (own_E t0 t1 t2 v0 v1 v2) 3 3 := ⟨_, rfl⟩
      rw [own_dr33 (fun k => Nat.le_trans (lb8 k) (by decide)) t0 t1 t2 v0 v1 v2, ← ed9] at V138
      have ll9 : dl9.length = 16 := by rw [ed9, own_dr_len]; exact ll8
      have lb9 : ∀ k, dl9.getD k 0 ≤ 12 := by rw [ed9]; exact own_dr_le lb8
      have hd9 : dl9 = own_dd (own_E t0 t1 t2 v0 v1 v2) := by rw [own_dd, ed9, ed8, ed7, ed6, ed5, ed4, ed3, ed2, ed1, ed0]
      have hpl := own_plain hli hvl hnt hkp t0 t1 t2 v0 v1 v2
      rw [← hd9] at hpl
      have k140 : Goes p e below s₁ F0 T138 (mkF m 355 #[iv p1, iv p2, iv p3, iv (Int32.ofNat li), iv (Int32.ofNat chs.length), iv (Int32.ofNat nt), iv (Int32.ofNat kp), iv v0, iv v1, iv v2, iv t0, iv t1, iv t2, rv b14, rv b29, rv b45, rv r, rv b52, iv got, .unset, .unset] [(.int ((Int32.ofNat kp) * (4 : Int32)))]) := by
        intro t k
        refine k138 _ ?_
        skip
        refine XS.iload X138.here hx rfl (hb hby at_351) rfl ?_
        refine XS.iconst X138.here hx rfl (hb hby at_353) ?_
        refine XS.imul X138.here hx rfl (hb hby at_354) rfl ?_
        exact k
      rw [show ((Int32.ofNat kp) * (4 : Int32)) = (Int32.ofNat (kp * 4)) from by rw [show (4 : Int32) = Int32.ofNat 4 from rfl]; exact own_mulN (by omega) (by omega) (by omega)] at k140
      have hin0 : ¬ Int32.ofNat (kp * 4) < (0 : Int32) ∧ Int32.ofNat (kp * 4) < (16 : Int32) := own_inb (n := 16) (by omega) (by decide)
      have hg0 := lb9 (kp * 4)
      have hin1 : ¬ Int32.ofNat (kp * 4 + 1) < (0 : Int32) ∧ Int32.ofNat (kp * 4 + 1) < (16 : Int32) := own_inb (n := 16) (by omega) (by decide)
      have hg1 := lb9 (kp * 4 + 1)
      have hin2 : ¬ Int32.ofNat (kp * 4 + 2) < (0 : Int32) ∧ Int32.ofNat (kp * 4 + 2) < (16 : Int32) := own_inb (n := 16) (by omega) (by decide)
      have hg2 := lb9 (kp * 4 + 2)
      have hin3 : ¬ Int32.ofNat (kp * 4 + 3) < (0 : Int32) ∧ Int32.ofNat (kp * 4 + 3) < (16 : Int32) := own_inb (n := 16) (by omega) (by decide)
      have hg3 := lb9 (kp * 4 + 3)
      obtain ⟨cl141, Ar141, qk141, Sz141, Nn141, Hs141, Gs141⟩ := id V138
      have k142 : Goes p e below s₁ F0 T138 (mkF m 364 #[iv p1, iv p2, iv p3, iv (Int32.ofNat li), iv (Int32.ofNat chs.length), iv (Int32.ofNat nt), iv (Int32.ofNat kp), iv v0, iv v1, iv v2, iv t0, iv t1, iv t2, rv b14, rv b29, rv b45, rv r, rv b52, iv got, iv (Int32.ofNat (kp * 4)), iv (Int32.ofNat (dl9.getD (kp * 4) 0))] []) := by
        intro t k
        refine k140 _ ?_
        skip
        refine XS.istore X138.here hx rfl (hb hby at_355) rfl (l' := #[iv p1, iv p2, iv p3, iv (Int32.ofNat li), iv (Int32.ofNat chs.length), iv (Int32.ofNat nt), iv (Int32.ofNat kp), iv v0, iv v1, iv v2, iv t0, iv t1, iv t2, rv b14, rv b29, rv b45, rv r, rv b52, iv got, iv (Int32.ofNat (kp * 4)), .unset]) rfl ?_
        refine XS.aload X138.here hx rfl (hb hby at_357) rfl rfl ?_
        refine XS.iload X138.here hx rfl (hb hby at_359) rfl ?_
        refine X138.iaload hx (j := (Int32.ofNat (kp * 4))) (v := (.int (Int32.ofNat (dl9.getD (kp * 4) 0)))) Ar141.1 (State.isArrayOf_alike hZ.alike Ar141.2.1) Ar141.2.2 (inb_of Sz141 hin0) (Has.at Hs141 (inb_of Sz141 hin0) (by rw [own_clampN (by omega)]; exact own_getI _ _)) (g := (mkF m 361 #[iv p1, iv p2, iv p3, iv (Int32.ofNat li), iv (Int32.ofNat chs.length), iv (Int32.ofNat nt), iv (Int32.ofNat kp), iv v0, iv v1, iv v2, iv t0, iv t1, iv t2, rv b14, rv b29, rv b45, rv r, rv b52, iv got, iv (Int32.ofNat (kp * 4)), .unset] [(.int (Int32.ofNat (kp * 4))), (.ref b45)])) rfl rfl (hb hby at_361) _ ?_
        refine XS.istore X138.here hx rfl (hb hby at_362) rfl (l' := #[iv p1, iv p2, iv p3, iv (Int32.ofNat li), iv (Int32.ofNat chs.length), iv (Int32.ofNat nt), iv (Int32.ofNat kp), iv v0, iv v1, iv v2, iv t0, iv t1, iv t2, rv b14, rv b29, rv b45, rv r, rv b52, iv got, iv (Int32.ofNat (kp * 4)), iv (Int32.ofNat (dl9.getD (kp * 4) 0))]) rfl ?_
        exact k
      have j424 : ∀ (T : State) (lo : List Loc) (mm : Nat), mm = own_m dl9 kp chs.length → mm ≤ 100 → Stand p l e room_1 (s.setVm vmz) m #[(.int p1), (.int p2), (.int p3)] below meth c T lo 20 400 → Fr n0 lo → T.heap = T138.heap → Goes p e below s₁ F0 T (mkF m 424 #[iv p1, iv p2, iv p3, iv (Int32.ofNat li), iv (Int32.ofNat chs.length), iv (Int32.ofNat nt), iv (Int32.ofNat kp), iv v0, iv v1, iv v2, iv t0, iv t1, iv t2, rv b14, rv b29, rv b45, rv r, rv b52, iv got, iv (Int32.ofNat (kp * 4)), iv (Int32.ofNat mm)] []) → False := by
        intro T lo mm hm hmb X NL eT kT
        have k143 : Goes p e below s₁ F0 T (mkF m 429 #[iv p1, iv p2, iv p3, iv (Int32.ofNat li), iv (Int32.ofNat chs.length), iv (Int32.ofNat nt), iv (Int32.ofNat kp), iv v0, iv v1, iv v2, iv t0, iv t1, iv t2, rv b14, rv b29, rv b45, rv r, rv b52, iv got, iv (Int32.ofNat (kp * 4)), iv (Int32.ofNat mm)] [(.int (Int32.ofNat li)), (.int (Int32.ofNat mm)), (.int got)]) := by
          intro t k
          refine kT _ ?_
          skip
          refine XS.iload X.here hx rfl (hb hby at_424) rfl ?_
          refine XS.iload X.here hx rfl (hb hby at_426) rfl ?_
          refine XS.iloadN X.here hx rfl (hb hby at_428) rfl ?_
          exact k
        by_cases hlm : (Int32.ofNat li) < (Int32.ofNat mm)
        · have hlt : li < mm := by rw [own_ltN (by omega) (by omega)] at hlm; exact hlm
          have hgot : got = (1 : Int32) := by rw [eq_got, hpl, ← hm, if_pos (decide_eq_true hlt)]
          have k144 : Goes p e below s₁ F0 T (mkF m 445 #[iv p1, iv p2, iv p3, iv (Int32.ofNat li), iv (Int32.ofNat chs.length), iv (Int32.ofNat nt), iv (Int32.ofNat kp), iv v0, iv v1, iv v2, iv t0, iv t1, iv t2, rv b14, rv b29, rv b45, rv r, rv b52, iv got, iv (Int32.ofNat (kp * 4)), iv (Int32.ofNat mm)] [(.int (1 : Int32))]) := by
            intro t k
            refine k143 _ ?_
            skip
            refine XS.icmpNo X.here hx rfl (hb hby at_429) rfl (tlt hlm).2.2.2 ?_
            refine XS.iconst X.here hx rfl (hb hby at_432) ?_
            refine XS.goto X.here hx rfl (pc0 := 433) (pc' := 437) rfl (hb hby at_433) (by decide) (by decide) ?_
            refine XS.icmpNo X.here hx rfl (hb hby at_437) rfl (teq hgot).2 ?_
            refine XS.iconst X.here hx rfl (hb hby at_440) ?_
            refine XS.goto X.here hx rfl (pc0 := 441) (pc' := 445) rfl (hb hby at_441) (by decide) (by decide) ?_
            exact k
          subst eF0
          obtain ⟨fs, hr, hrun, hended, hWe⟩ := Stand.leaveW (s := s) (vm₁ := vmz) X (n := kz) hS (by rw [eT]; exact zk139) (v := some (.int (1 : Int32))) (fun h => by rw [Bd.returns] at h; cases h)
          refine hG ⟨_, _, k144 _ ?_, hrun, hended, _, _, rfl, ?_, hWe.1, hWe.2.1, hWe.2.2.1, hWe.2.2.2.mono (Nat.le_of_ble_eq_true rfl) (Nat.le_of_ble_eq_true rfl)⟩
          · exact retN X hx (t := .boolean) Bd.returns (by simp) (hb hby at_445) hr
          · show Q0 Z p1 p2 p3 cs vF h0 n0 _ T.heap _
            rw [eT]
            exact ⟨rfl, NL⟩
        · have hlt : ¬ li < mm := by rw [own_ltN (by omega) (by omega)] at hlm; exact hlm
          have hgot : got = (0 : Int32) := by rw [eq_got, hpl, ← hm, if_neg (by simpa using hlt)]
          have k145 : Goes p e below s₁ F0 T (mkF m 445 #[iv p1, iv p2, iv p3, iv (Int32.ofNat li), iv (Int32.ofNat chs.length), iv (Int32.ofNat nt), iv (Int32.ofNat kp), iv v0, iv v1, iv v2, iv t0, iv t1, iv t2, rv b14, rv b29, rv b45, rv r, rv b52, iv got, iv (Int32.ofNat (kp * 4)), iv (Int32.ofNat mm)] [(.int (1 : Int32))]) := by
            intro t k
            refine k143 _ ?_
            skip
            refine XS.icmpYes X.here hx rfl (pc0 := 429) (pc' := 436) rfl (hb hby at_429) rfl (flt hlm).2.2.2 (by decide) (by decide) ?_
            refine XS.iconst X.here hx rfl (hb hby at_436) ?_
            refine XS.icmpNo X.here hx rfl (hb hby at_437) rfl (teq hgot).2 ?_
            refine XS.iconst X.here hx rfl (hb hby at_440) ?_
            refine XS.goto X.here hx rfl (pc0 := 441) (pc' := 445) rfl (hb hby at_441) (by decide) (by decide) ?_
            exact k
          subst eF0
          obtain ⟨fs, hr, hrun, hended, hWe⟩ := Stand.leaveW (s := s) (vm₁ := vmz) X (n := kz) hS (by rw [eT]; exact zk139) (v := some (.int (1 : Int32))) (fun h => by rw [Bd.returns] at h; cases h)
          refine hG ⟨_, _, k145 _ ?_, hrun, hended, _, _, rfl, ?_, hWe.1, hWe.2.1, hWe.2.2.1, hWe.2.2.2.mono (Nat.le_of_ble_eq_true rfl) (Nat.le_of_ble_eq_true rfl)⟩
          · exact retN X hx (t := .boolean) Bd.returns (by simp) (hb hby at_445) hr
          · show Q0 Z p1 p2 p3 cs vF h0 n0 _ T.heap _
            rw [eT]
            exact ⟨rfl, NL⟩
      have k146 : Goes p e below s₁ F0 T138 (mkF m 367 #[iv p1, iv p2, iv p3, iv (Int32.ofNat li), iv (Int32.ofNat chs.length), iv (Int32.ofNat nt), iv (Int32.ofNat kp), iv v0, iv v1, iv v2, iv t0, iv t1, iv t2, rv b14, rv b29, rv b45, rv r, rv b52, iv got, iv (Int32.ofNat (kp * 4)), iv (Int32.ofNat (dl9.getD (kp * 4) 0))] [(.int (1 : Int32)), (.int (Int32.ofNat chs.length))]) := by
        intro t k
        refine k142 _ ?_
        skip
        refine XS.iload X138.here hx rfl (hb hby at_364) rfl ?_
        refine XS.iconst X138.here hx rfl (hb hby at_366) ?_
        exact k
      by_cases hw1 : (Int32.ofNat chs.length) < (1 : Int32)
      · have hv1_ : chs.length < 1 := by rw [show (1 : Int32) = Int32.ofNat 1 from rfl, own_ltN (by omega) (by omega)] at hw1; exact hw1
        have k147 : Goes p e below s₁ F0 T138 (mkF m 424 #[iv p1, iv p2, iv p3, iv (Int32.ofNat li), iv (Int32.ofNat chs.length), iv (Int32.ofNat nt), iv (Int32.ofNat kp), iv v0, iv v1, iv v2, iv t0, iv t1, iv t2, rv b14, rv b29, rv b45, rv r, rv b52, iv got, iv (Int32.ofNat (kp * 4)), iv (Int32.ofNat (dl9.getD (kp * 4) 0))] []) := by
          intro t k
          refine k146 _ ?_
          skip
          refine XS.icmpYes X138.here hx rfl (pc0 := 367) (pc' := 384) rfl (hb hby at_367) rfl (tlt hw1).1 (by decide) (by decide) ?_
          refine XS.iload X138.here hx rfl (hb hby at_384) rfl ?_
          refine XS.iconst X138.here hx rfl (hb hby at_386) ?_
          refine XS.icmpYes X138.here hx rfl (pc0 := 387) (pc' := 404) rfl (hb hby at_387) rfl (tlt (show Int32.ofNat chs.length < (2 : Int32) by rw [show (2 : Int32) = Int32.ofNat 2 from rfl, own_ltN (by omega) (by omega)]; omega)).1 (by decide) (by decide) ?_
          refine XS.iload X138.here hx rfl (hb hby at_404) rfl ?_
          refine XS.iconst X138.here hx rfl (hb hby at_406) ?_
          refine XS.icmpYes X138.here hx rfl (pc0 := 407) (pc' := 424) rfl (hb hby at_407) rfl (tlt (show Int32.ofNat chs.length < (3 : Int32) by rw [show (3 : Int32) = Int32.ofNat 3 from rfl, own_ltN (by omega) (by omega)]; omega)).1 (by decide) (by decide) ?_
          exact k
        exact j424 T138 _ (dl9.getD (kp * 4) 0) (by rw [own_m, if_pos (by omega)]) (by omega) X138 N138 rfl k147
      · have hv1_ : ¬ chs.length < 1 := by rw [show (1 : Int32) = Int32.ofNat 1 from rfl, own_ltN (by omega) (by omega)] at hw1; exact hw1
        have k148 : Goes p e below s₁ F0 T138 (mkF m 378 #[iv p1, iv p2, iv p3, iv (Int32.ofNat li), iv (Int32.ofNat chs.length), iv (Int32.ofNat nt), iv (Int32.ofNat kp), iv v0, iv v1, iv v2, iv t0, iv t1, iv t2, rv b14, rv b29, rv b45, rv r, rv b52, iv got, iv (Int32.ofNat (kp * 4)), iv (Int32.ofNat (dl9.getD (kp * 4) 0))] [(.int ((Int32.ofNat (kp * 4)) + (1 : Int32))), (.ref b45), (.int (Int32.ofNat (dl9.getD (kp * 4) 0)))]) := by
          intro t k
          refine k146 _ ?_
          skip
          refine XS.icmpNo X138.here hx rfl (hb hby at_367) rfl (flt hw1).1 ?_
          refine XS.iload X138.here hx rfl (hb hby at_370) rfl ?_
          refine XS.aload X138.here hx rfl (hb hby at_372) rfl rfl ?_
          refine XS.iload X138.here hx rfl (hb hby at_374) rfl ?_
          refine XS.iconst X138.here hx rfl (hb hby at_376) ?_
          refine XS.iadd X138.here hx rfl (hb hby at_377) rfl ?_
          exact k
        rw [show ((Int32.ofNat (kp * 4)) + (1 : Int32)) = (Int32.ofNat (kp * 4 + 1)) from own_addN (b := 1) (by omega)] at k148
        obtain ⟨cl149, Ar149, qk149, Sz149, Nn149, Hs149, Gs149⟩ := id V138
        have k150 : Goes p e below s₁ F0 T138 (mkF m 379 #[iv p1, iv p2, iv p3, iv (Int32.ofNat li), iv (Int32.ofNat chs.length), iv (Int32.ofNat nt), iv (Int32.ofNat kp), iv v0, iv v1, iv v2, iv t0, iv t1, iv t2, rv b14, rv b29, rv b45, rv r, rv b52, iv got, iv (Int32.ofNat (kp * 4)), iv (Int32.ofNat (dl9.getD (kp * 4) 0))] [(.int (Int32.ofNat (dl9.getD (kp * 4 + 1) 0))), (.int (Int32.ofNat (dl9.getD (kp * 4) 0)))]) := by
          intro t k
          refine k148 _ ?_
          skip
          refine X138.iaload hx (j := (Int32.ofNat (kp * 4 + 1))) (v := (.int (Int32.ofNat (dl9.getD (kp * 4 + 1) 0)))) Ar149.1 (State.isArrayOf_alike hZ.alike Ar149.2.1) Ar149.2.2 (inb_of Sz149 hin1) (Has.at Hs149 (inb_of Sz149 hin1) (by rw [own_clampN (by omega)]; exact own_getI _ _)) (g := (mkF m 378 #[iv p1, iv p2, iv p3, iv (Int32.ofNat li), iv (Int32.ofNat chs.length), iv (Int32.ofNat nt), iv (Int32.ofNat kp), iv v0, iv v1, iv v2, iv t0, iv t1, iv t2, rv b14, rv b29, rv b45, rv r, rv b52, iv got, iv (Int32.ofNat (kp * 4)), iv (Int32.ofNat (dl9.getD (kp * 4) 0))] [(.int (Int32.ofNat (kp * 4 + 1))), (.ref b45), (.int (Int32.ofNat (dl9.getD (kp * 4) 0)))])) rfl rfl (hb hby at_378) _ ?_
          exact k
        obtain ⟨_, _, ⟨T151, L151, ck151, nk151⟩, -, X151, ⟨Lc151, hQ151, l151, y151, z151⟩, st151⟩ := Jvm.LawKit.callS X138 hx (y := (⟨"java/lang/Math", "min", "(II)I"⟩ : MethodName)) hown (mvT hZ (own_q hw 72 rfl)) (mvT hZ (own_q hw 73 rfl)) (mvT hZ (own_q hw 74 rfl)) (mvT hZ (own_q hw 75 rfl)) (by decide) (backOf (W := 0) (rmMin l Z a0 hw [] (Int32.ofNat (dl9.getD (kp * 4) 0)) (Int32.ofNat (dl9.getD (kp * 4 + 1) 0)) T138.heap n0 Z139) hZ (own_q hw 75 rfl) (own_q hw 74 rfl) (by decide) (by decide)) (g := (mkF m 379 #[iv p1, iv p2, iv p3, iv (Int32.ofNat li), iv (Int32.ofNat chs.length), iv (Int32.ofNat nt), iv (Int32.ofNat kp), iv v0, iv v1, iv v2, iv t0, iv t1, iv t2, rv b14, rv b29, rv b45, rv r, rv b52, iv got, iv (Int32.ofNat (kp * 4)), iv (Int32.ofNat (dl9.getD (kp * 4) 0))] [(.int (Int32.ofNat (dl9.getD (kp * 4 + 1) 0))), (.int (Int32.ofNat (dl9.getD (kp * 4) 0)))])) rfl (by rw [hml]; rfl) (argsL := [(.int (Int32.ofNat (dl9.getD (kp * 4) 0))), (.int (Int32.ofNat (dl9.getD (kp * 4 + 1) 0)))]) (rest := []) (lenOf pd_0 rfl) rfl (by show 2 * 0 + _ ≤ _; exact Nat.le_of_eq rfl) (hb hby at_379) (fun _ _ => ⟨rfl, rfl, (by decide : 20 + 0 ≤ _), (by decide : 400 + 0 ≤ _)⟩)
        dsimp only [Pt.U, Pt.locs, Pt.cells, Pt.slots] at X151 l151 y151 z151 st151 hQ151
        subst l151 y151 z151
        obtain ⟨rfl, N151q, e151⟩ := hQ151
        have N151 := Fr.app N138 N151q
        have k151 : Goes p e below s₁ F0 T151 (mkF m 382 #[iv p1, iv p2, iv p3, iv (Int32.ofNat li), iv (Int32.ofNat chs.length), iv (Int32.ofNat nt), iv (Int32.ofNat kp), iv v0, iv v1, iv v2, iv t0, iv t1, iv t2, rv b14, rv b29, rv b45, rv r, rv b52, iv got, iv (Int32.ofNat (kp * 4)), iv (Int32.ofNat (dl9.getD (kp * 4) 0))] [(.int (own_min (Int32.ofNat (dl9.getD (kp * 4) 0)) (Int32.ofNat (dl9.getD (kp * 4 + 1) 0))))]) := fun t k => k150 t (st151 _ k)
        rw [show (own_min (Int32.ofNat (dl9.getD (kp * 4) 0)) (Int32.ofNat (dl9.getD (kp * 4 + 1) 0))) = (Int32.ofNat (min (dl9.getD (kp * 4) 0) (dl9.getD (kp * 4 + 1) 0))) from own_minN (by omega) (by omega)] at k151
        have k152 : Goes p e below s₁ F0 T151 (mkF m 387 #[iv p1, iv p2, iv p3, iv (Int32.ofNat li), iv (Int32.ofNat chs.length), iv (Int32.ofNat nt), iv (Int32.ofNat kp), iv v0, iv v1, iv v2, iv t0, iv t1, iv t2, rv b14, rv b29, rv b45, rv r, rv b52, iv got, iv (Int32.ofNat (kp * 4)), iv (Int32.ofNat (min (dl9.getD (kp * 4) 0) (dl9.getD (kp * 4 + 1) 0)))] [(.int (2 : Int32)), (.int (Int32.ofNat chs.length))]) := by
          intro t k
          refine k151 _ ?_
          skip
          refine XS.istore X151.here hx rfl (hb hby at_382) rfl (l' := #[iv p1, iv p2, iv p3, iv (Int32.ofNat li), iv (Int32.ofNat chs.length), iv (Int32.ofNat nt), iv (Int32.ofNat kp), iv v0, iv v1, iv v2, iv t0, iv t1, iv t2, rv b14, rv b29, rv b45, rv r, rv b52, iv got, iv (Int32.ofNat (kp * 4)), iv (Int32.ofNat (min (dl9.getD (kp * 4) 0) (dl9.getD (kp * 4 + 1) 0)))]) rfl ?_
          refine XS.iload X151.here hx rfl (hb hby at_384) rfl ?_
          refine XS.iconst X151.here hx rfl (hb hby at_386) ?_
          exact k
        by_cases hw2 : (Int32.ofNat chs.length) < (2 : Int32)
        · have hv2_ : chs.length < 2 := by rw [show (2 : Int32) = Int32.ofNat 2 from rfl, own_ltN (by omega) (by omega)] at hw2; exact hw2
          have k153 : Goes p e below s₁ F0 T151 (mkF m 424 #[iv p1, iv p2, iv p3, iv (Int32.ofNat li), iv (Int32.ofNat chs.length), iv (Int32.ofNat nt), iv (Int32.ofNat kp), iv v0, iv v1, iv v2, iv t0, iv t1, iv t2, rv b14, rv b29, rv b45, rv r, rv b52, iv got, iv (Int32.ofNat (kp * 4)), iv (Int32.ofNat (min (dl9.getD (kp * 4) 0) (dl9.getD (kp * 4 + 1) 0)))] []) := by
            intro t k
            refine k152 _ ?_
            skip
            refine XS.icmpYes X151.here hx rfl (pc0 := 387) (pc' := 404) rfl (hb hby at_387) rfl (tlt hw2).1 (by decide) (by decide) ?_
            refine XS.iload X151.here hx rfl (hb hby at_404) rfl ?_
            refine XS.iconst X151.here hx rfl (hb hby at_406) ?_
            refine XS.icmpYes X151.here hx rfl (pc0 := 407) (pc' := 424) rfl (hb hby at_407) rfl (tlt (show Int32.ofNat chs.length < (3 : Int32) by rw [show (3 : Int32) = Int32.ofNat 3 from rfl, own_ltN (by omega) (by omega)]; omega)).1 (by decide) (by decide) ?_
            exact k
          exact j424 T151 _ (min (dl9.getD (kp * 4) 0) (dl9.getD (kp * 4 + 1) 0)) (by rw [own_m, if_neg (by omega), if_pos (by omega)]) (by omega) X151 N151 e151 k153
        · have hv2_ : ¬ chs.length < 2 := by rw [show (2 : Int32) = Int32.ofNat 2 from rfl, own_ltN (by omega) (by omega)] at hw2; exact hw2
          have k154 : Goes p e below s₁ F0 T151 (mkF m 398 #[iv p1, iv p2, iv p3, iv (Int32.ofNat li), iv (Int32.ofNat chs.length), iv (Int32.ofNat nt), iv (Int32.ofNat kp), iv v0, iv v1, iv v2, iv t0, iv t1, iv t2, rv b14, rv b29, rv b45, rv r, rv b52, iv got, iv (Int32.ofNat (kp * 4)), iv (Int32.ofNat (min (dl9.getD (kp * 4) 0) (dl9.getD (kp * 4 + 1) 0)))] [(.int ((Int32.ofNat (kp * 4)) + (2 : Int32))), (.ref b45), (.int (Int32.ofNat (min (dl9.getD (kp * 4) 0) (dl9.getD (kp * 4 + 1) 0))))]) := by
            intro t k
            refine k152 _ ?_
            skip
            refine XS.icmpNo X151.here hx rfl (hb hby at_387) rfl (flt hw2).1 ?_
            refine XS.iload X151.here hx rfl (hb hby at_390) rfl ?_
            refine XS.aload X151.here hx rfl (hb hby at_392) rfl rfl ?_
            refine XS.iload X151.here hx rfl (hb hby at_394) rfl ?_
            refine XS.iconst X151.here hx rfl (hb hby at_396) ?_
            refine XS.iadd X151.here hx rfl (hb hby at_397) rfl ?_
            exact k
          rw [show ((Int32.ofNat (kp * 4)) + (2 : Int32)) = (Int32.ofNat (kp * 4 + 2)) from own_addN (b := 2) (by omega)] at k154
          obtain ⟨cl155, Ar155, qk155, Sz155, Nn155, Hs155, Gs155⟩ := id V138
          have k156 : Goes p e below s₁ F0 T151 (mkF m 399 #[iv p1, iv p2, iv p3, iv (Int32.ofNat li), iv (Int32.ofNat chs.length), iv (Int32.ofNat nt), iv (Int32.ofNat kp), iv v0, iv v1, iv v2, iv t0, iv t1, iv t2, rv b14, rv b29, rv b45, rv r, rv b52, iv got, iv (Int32.ofNat (kp * 4)), iv (Int32.ofNat (min (dl9.getD (kp * 4) 0) (dl9.getD (kp * 4 + 1) 0)))] [(.int (Int32.ofNat (dl9.getD (kp * 4 + 2) 0))), (.int (Int32.ofNat (min (dl9.getD (kp * 4) 0) (dl9.getD (kp * 4 + 1) 0))))]) := by
            intro t k
            refine k154 _ ?_
            skip
            refine X151.iaload hx (j := (Int32.ofNat (kp * 4 + 2))) (v := (.int (Int32.ofNat (dl9.getD (kp * 4 + 2) 0)))) (by rw [e151]; exact Ar155.1) (State.isArrayOf_alike hZ.alike Ar155.2.1) Ar155.2.2 (inb_of Sz155 hin2) (Has.at Hs155 (inb_of Sz155 hin2) (by rw [own_clampN (by omega)]; exact own_getI _ _)) (g := (mkF m 398 #[iv p1, iv p2, iv p3, iv (Int32.ofNat li), iv (Int32.ofNat chs.length), iv (Int32.ofNat nt), iv (Int32.ofNat kp), iv v0, iv v1, iv v2, iv t0, iv t1, iv t2, rv b14, rv b29, rv b45, rv r, rv b52, iv got, iv (Int32.ofNat (kp * 4)), iv (Int32.ofNat (min (dl9.getD (kp * 4) 0) (dl9.getD (kp * 4 + 1) 0)))] [(.int (Int32.ofNat (kp * 4 + 2))), (.ref b45), (.int (Int32.ofNat (min (dl9.getD (kp * 4) 0) (dl9.getD (kp * 4 + 1) 0))))])) rfl rfl (hb hby at_398) _ ?_
            exact k
          obtain ⟨_, _, ⟨T157, L157, ck157, nk157⟩, -, X157, ⟨Lc157, hQ157, l157, y157, z157⟩, st157⟩ := Jvm.LawKit.callS X151 hx (y := (⟨"java/lang/Math", "min", "(II)I"⟩ : MethodName)) hown (mvT hZ (own_q hw 72 rfl)) (mvT hZ (own_q hw 73 rfl)) (mvT hZ (own_q hw 74 rfl)) (mvT hZ (own_q hw 75 rfl)) (by decide) (backOf (W := 0) (rmMin l Z a0 hw [] (Int32.ofNat (min (dl9.getD (kp * 4) 0) (dl9.getD (kp * 4 + 1) 0))) (Int32.ofNat (dl9.getD (kp * 4 + 2) 0)) T138.heap n0 Z139) hZ (own_q hw 75 rfl) (own_q hw 74 rfl) (by decide) (by decide)) (g := (mkF m 399 #[iv p1, iv p2, iv p3, iv (Int32.ofNat li), iv (Int32.ofNat chs.length), iv (Int32.ofNat nt), iv (Int32.ofNat kp), iv v0, iv v1, iv v2, iv t0, iv t1, iv t2, rv b14, rv b29, rv b45, rv r, rv b52, iv got, iv (Int32.ofNat (kp * 4)), iv (Int32.ofNat (min (dl9.getD (kp * 4) 0) (dl9.getD (kp * 4 + 1) 0)))] [(.int (Int32.ofNat (dl9.getD (kp * 4 + 2) 0))), (.int (Int32.ofNat (min (dl9.getD (kp * 4) 0) (dl9.getD (kp * 4 + 1) 0))))])) rfl (by rw [hml]; rfl) (argsL := [(.int (Int32.ofNat (min (dl9.getD (kp * 4) 0) (dl9.getD (kp * 4 + 1) 0)))), (.int (Int32.ofNat (dl9.getD (kp * 4 + 2) 0)))]) (rest := []) (lenOf pd_0 rfl) rfl (by show 2 * 0 + _ ≤ _; exact Nat.le_of_eq rfl) (hb hby at_399) (fun _ _ => ⟨rfl, e151, (by decide : 20 + 0 ≤ _), (by decide : 400 + 0 ≤ _)⟩)
          dsimp only [Pt.U, Pt.locs, Pt.cells, Pt.slots] at X157 l157 y157 z157 st157 hQ157
          subst l157 y157 z157
          obtain ⟨rfl, N157q, e157⟩ := hQ157
          have N157 := Fr.app N151 N157q
          have k157 : Goes p e below s₁ F0 T157 (mkF m 402 #[iv p1, iv p2, iv p3, iv (Int32.ofNat li), iv (Int32.ofNat chs.length), iv (Int32.ofNat nt), iv (Int32.ofNat kp), iv v0, iv v1, iv v2, iv t0, iv t1, iv t2, rv b14, rv b29, rv b45, rv r, rv b52, iv got, iv (Int32.ofNat (kp * 4)), iv (Int32.ofNat (min (dl9.getD (kp * 4) 0) (dl9.getD (kp * 4 + 1) 0)))] [(.int (own_min (Int32.ofNat (min (dl9.getD (kp * 4) 0) (dl9.getD (kp * 4 + 1) 0))) (Int32.ofNat (dl9.getD (kp * 4 + 2) 0))))]) := fun t k => k156 t (st157 _ k)
          rw [show (own_min (Int32.ofNat (min (dl9.getD (kp * 4) 0) (dl9.getD (kp * 4 + 1) 0))) (Int32.ofNat (dl9.getD (kp * 4 + 2) 0))) = (Int32.ofNat (min (min (dl9.getD (kp * 4) 0) (dl9.getD (kp * 4 + 1) 0)) (dl9.getD (kp * 4 + 2) 0))) from own_minN (by omega) (by omega)] at k157
          have k158 : Goes p e below s₁ F0 T157 (mkF m 407 #[iv p1, iv p2, iv p3, iv (Int32.ofNat li), iv (Int32.ofNat chs.length), iv (Int32.ofNat nt), iv (Int32.ofNat kp), iv v0, iv v1, iv v2, iv t0, iv t1, iv t2, rv b14, rv b29, rv b45, rv r, rv b52, iv got, iv (Int32.ofNat (kp * 4)), iv (Int32.ofNat (min (min (dl9.getD (kp * 4) 0) (dl9.getD (kp * 4 + 1) 0)) (dl9.getD (kp * 4 + 2) 0)))] [(.int (3 : Int32)), (.int (Int32.ofNat chs.length))]) := by
            intro t k
            refine k157 _ ?_
            skip
            refine XS.istore X157.here hx rfl (hb hby at_402) rfl (l' := #[iv p1, iv p2, iv p3, iv (Int32.ofNat li), iv (Int32.ofNat chs.length), iv (Int32.ofNat nt), iv (Int32.ofNat kp), iv v0, iv v1, iv v2, iv t0, iv t1, iv t2, rv b14, rv b29, rv b45, rv r, rv b52, iv got, iv (Int32.ofNat (kp * 4)), iv (Int32.ofNat (min (min (dl9.getD (kp * 4) 0) (dl9.getD (kp * 4 + 1) 0)) (dl9.getD (kp * 4 + 2) 0)))]) rfl ?_
            refine XS.iload X157.here hx rfl (hb hby at_404) rfl ?_
            refine XS.iconst X157.here hx rfl (hb hby at_406) ?_
            exact k
          by_cases hw3 : (Int32.ofNat chs.length) < (3 : Int32)
          · have hv3_ : chs.length < 3 := by rw [show (3 : Int32) = Int32.ofNat 3 from rfl, own_ltN (by omega) (by omega)] at hw3; exact hw3
            have k159 : Goes p e below s₁ F0 T157 (mkF m 424 #[iv p1, iv p2, iv p3, iv (Int32.ofNat li), iv (Int32.ofNat chs.length), iv (Int32.ofNat nt), iv (Int32.ofNat kp), iv v0, iv v1, iv v2, iv t0, iv t1, iv t2, rv b14, rv b29, rv b45, rv r, rv b52, iv got, iv (Int32.ofNat (kp * 4)), iv (Int32.ofNat (min (min (dl9.getD (kp * 4) 0) (dl9.getD (kp * 4 + 1) 0)) (dl9.getD (kp * 4 + 2) 0)))] []) := by
              intro t k
              refine k158 _ ?_
              skip
              refine XS.icmpYes X157.here hx rfl (pc0 := 407) (pc' := 424) rfl (hb hby at_407) rfl (tlt hw3).1 (by decide) (by decide) ?_
              exact k
            exact j424 T157 _ (min (min (dl9.getD (kp * 4) 0) (dl9.getD (kp * 4 + 1) 0)) (dl9.getD (kp * 4 + 2) 0)) (by rw [own_m, if_neg (by omega), if_neg (by omega), if_pos (by omega)]) (by omega) X157 N157 e157 k159
          · have hv3_ : ¬ chs.length < 3 := by rw [show (3 : Int32) = Int32.ofNat 3 from rfl, own_ltN (by omega) (by omega)] at hw3; exact hw3
            have k160 : Goes p e below s₁ F0 T157 (mkF m 418 #[iv p1, iv p2, iv p3, iv (Int32.ofNat li), iv (Int32.ofNat chs.length), iv (Int32.ofNat nt), iv (Int32.ofNat kp), iv v0, iv v1, iv v2, iv t0, iv t1, iv t2, rv b14, rv b29, rv b45, rv r, rv b52, iv got, iv (Int32.ofNat (kp * 4)), iv (Int32.ofNat (min (min (dl9.getD (kp * 4) 0) (dl9.getD (kp * 4 + 1) 0)) (dl9.getD (kp * 4 + 2) 0)))] [(.int ((Int32.ofNat (kp * 4)) + (3 : Int32))), (.ref b45), (.int (Int32.ofNat (min (min (dl9.getD (kp * 4) 0) (dl9.getD (kp * 4 + 1) 0)) (dl9.getD (kp * 4 + 2) 0))))]) := by
              intro t k
              refine k158 _ ?_
              skip
              refine XS.icmpNo X157.here hx rfl (hb hby at_407) rfl (flt hw3).1 ?_
              refine XS.iload X157.here hx rfl (hb hby at_410) rfl ?_
              refine XS.aload X157.here hx rfl (hb hby at_412) rfl rfl ?_
              refine XS.iload X157.here hx rfl (hb hby at_414) rfl ?_
              refine XS.iconst X157.here hx rfl (hb hby at_416) ?_
              refine XS.iadd X157.here hx rfl (hb hby at_417) rfl ?_
              exact k
            rw [show ((Int32.ofNat (kp * 4)) + (3 : Int32)) = (Int32.ofNat (kp * 4 + 3)) from own_addN (b := 3) (by omega)] at k160
            obtain ⟨cl161, Ar161, qk161, Sz161, Nn161, Hs161, Gs161⟩ := id V138
            have k162 : Goes p e below s₁ F0 T157 (mkF m 419 #[iv p1, iv p2, iv p3, iv (Int32.ofNat li), iv (Int32.ofNat chs.length), iv (Int32.ofNat nt), iv (Int32.ofNat kp), iv v0, iv v1, iv v2, iv t0, iv t1, iv t2, rv b14, rv b29, rv b45, rv r, rv b52, iv got, iv (Int32.ofNat (kp * 4)), iv (Int32.ofNat (min (min (dl9.getD (kp * 4) 0) (dl9.getD (kp * 4 + 1) 0)) (dl9.getD (kp * 4 + 2) 0)))] [(.int (Int32.ofNat (dl9.getD (kp * 4 + 3) 0))), (.int (Int32.ofNat (min (min (dl9.getD (kp * 4) 0) (dl9.getD (kp * 4 + 1) 0)) (dl9.getD (kp * 4 + 2) 0))))]) := by
              intro t k
              refine k160 _ ?_
              skip
              refine X157.iaload hx (j := (Int32.ofNat (kp * 4 + 3))) (v := (.int (Int32.ofNat (dl9.getD (kp * 4 + 3) 0)))) (by rw [e157]; exact Ar161.1) (State.isArrayOf_alike hZ.alike Ar161.2.1) Ar161.2.2 (inb_of Sz161 hin3) (Has.at Hs161 (inb_of Sz161 hin3) (by rw [own_clampN (by omega)]; exact own_getI _ _)) (g := (mkF m 418 #[iv p1, iv p2, iv p3, iv (Int32.ofNat li), iv (Int32.ofNat chs.length), iv (Int32.ofNat nt), iv (Int32.ofNat kp), iv v0, iv v1, iv v2, iv t0, iv t1, iv t2, rv b14, rv b29, rv b45, rv r, rv b52, iv got, iv (Int32.ofNat (kp * 4)), iv (Int32.ofNat (min (min (dl9.getD (kp * 4) 0) (dl9.getD (kp * 4 + 1) 0)) (dl9.getD (kp * 4 + 2) 0)))] [(.int (Int32.ofNat (kp * 4 + 3))), (.ref b45), (.int (Int32.ofNat (min (min (dl9.getD (kp * 4) 0) (dl9.getD (kp * 4 + 1) 0)) (dl9.getD (kp * 4 + 2) 0))))])) rfl rfl (hb hby at_418) _ ?_
              exact k
            obtain ⟨_, _, ⟨T163, L163, ck163, nk163⟩, -, X163, ⟨Lc163, hQ163, l163, y163, z163⟩, st163⟩ := Jvm.LawKit.callS X157 hx (y := (⟨"java/lang/Math", "min", "(II)I"⟩ : MethodName)) hown (mvT hZ (own_q hw 72 rfl)) (mvT hZ (own_q hw 73 rfl)) (mvT hZ (own_q hw 74 rfl)) (mvT hZ (own_q hw 75 rfl)) (by decide) (backOf (W := 0) (rmMin l Z a0 hw [] (Int32.ofNat (min (min (dl9.getD (kp * 4) 0) (dl9.getD (kp * 4 + 1) 0)) (dl9.getD (kp * 4 + 2) 0))) (Int32.ofNat (dl9.getD (kp * 4 + 3) 0)) T138.heap n0 Z139) hZ (own_q hw 75 rfl) (own_q hw 74 rfl) (by decide) (by decide)) (g := (mkF m 419 #[iv p1, iv p2, iv p3, iv (Int32.ofNat li), iv (Int32.ofNat chs.length), iv (Int32.ofNat nt), iv (Int32.ofNat kp), iv v0, iv v1, iv v2, iv t0, iv t1, iv t2, rv b14, rv b29, rv b45, rv r, rv b52, iv got, iv (Int32.ofNat (kp * 4)), iv (Int32.ofNat (min (min (dl9.getD (kp * 4) 0) (dl9.getD (kp * 4 + 1) 0)) (dl9.getD (kp * 4 + 2) 0)))] [(.int (Int32.ofNat (dl9.getD (kp * 4 + 3) 0))), (.int (Int32.ofNat (min (min (dl9.getD (kp * 4) 0) (dl9.getD (kp * 4 + 1) 0)) (dl9.getD (kp * 4 + 2) 0))))])) rfl (by rw [hml]; rfl) (argsL := [(.int (Int32.ofNat (min (min (dl9.getD (kp * 4) 0) (dl9.getD (kp * 4 + 1) 0)) (dl9.getD (kp * 4 + 2) 0)))), (.int (Int32.ofNat (dl9.getD (kp * 4 + 3) 0)))]) (rest := []) (lenOf pd_0 rfl) rfl (by show 2 * 0 + _ ≤ _; exact Nat.le_of_eq rfl) (hb hby at_419) (fun _ _ => ⟨rfl, e157, (by decide : 20 + 0 ≤ _), (by decide : 400 + 0 ≤ _)⟩)
            dsimp only [Pt.U, Pt.locs, Pt.cells, Pt.slots] at X163 l163 y163 z163 st163 hQ163
            subst l163 y163 z163
            obtain ⟨rfl, N163q, e163⟩ := hQ163
            have N163 := Fr.app N157 N163q
            have k163 : Goes p e below s₁ F0 T163 (mkF m 422 #[iv p1, iv p2, iv p3, iv (Int32.ofNat li), iv (Int32.ofNat chs.length), iv (Int32.ofNat nt), iv (Int32.ofNat kp), iv v0, iv v1, iv v2, iv t0, iv t1, iv t2, rv b14, rv b29, rv b45, rv r, rv b52, iv got, iv (Int32.ofNat (kp * 4)), iv (Int32.ofNat (min (min (dl9.getD (kp * 4) 0) (dl9.getD (kp * 4 + 1) 0)) (dl9.getD (kp * 4 + 2) 0)))] [(.int (own_min (Int32.ofNat (min (min (dl9.getD (kp * 4) 0) (dl9.getD (kp * 4 + 1) 0)) (dl9.getD (kp * 4 + 2) 0))) (Int32.ofNat (dl9.getD (kp * 4 + 3) 0))))]) := fun t k => k162 t (st163 _ k)
            rw [show (own_min (Int32.ofNat (min (min (dl9.getD (kp * 4) 0) (dl9.getD (kp * 4 + 1) 0)) (dl9.getD (kp * 4 + 2) 0))) (Int32.ofNat (dl9.getD (kp * 4 + 3) 0))) = (Int32.ofNat (min (min (min (dl9.getD (kp * 4) 0) (dl9.getD (kp * 4 + 1) 0)) (dl9.getD (kp * 4 + 2) 0)) (dl9.getD (kp * 4 + 3) 0))) from own_minN (by omega) (by omega)] at k163
            have k164 : Goes p e below s₁ F0 T163 (mkF m 424 #[iv p1, iv p2, iv p3, iv (Int32.ofNat li), iv (Int32.ofNat chs.length), iv (Int32.ofNat nt), iv (Int32.ofNat kp), iv v0, iv v1, iv v2, iv t0, iv t1, iv t2, rv b14, rv b29, rv b45, rv r, rv b52, iv got, iv (Int32.ofNat (kp * 4)), iv (Int32.ofNat (min (min (min (dl9.getD (kp * 4) 0) (dl9.getD (kp * 4 + 1) 0)) (dl9.getD (kp * 4 + 2) 0)) (dl9.getD (kp * 4 + 3) 0)))] []) := by
              intro t k
              refine k163 _ ?_
              skip
              refine XS.istore X163.here hx rfl (hb hby at_422) rfl (l' := #[iv p1, iv p2, iv p3, iv (Int32.ofNat li), iv (Int32.ofNat chs.length), iv (Int32.ofNat nt), iv (Int32.ofNat kp), iv v0, iv v1, iv v2, iv t0, iv t1, iv t2, rv b14, rv b29, rv b45, rv r, rv b52, iv got, iv (Int32.ofNat (kp * 4)), iv (Int32.ofNat (min (min (min (dl9.getD (kp * 4) 0) (dl9.getD (kp * 4 + 1) 0)) (dl9.getD (kp * 4 + 2) 0)) (dl9.getD (kp * 4 + 3) 0)))]) rfl ?_
              exact k
            exact j424 T163 _ (min (min (min (dl9.getD (kp * 4) 0) (dl9.getD (kp * 4 + 1) 0)) (dl9.getD (kp * 4 + 2) 0)) (dl9.getD (kp * 4 + 3) 0)) (by rw [own_m, if_neg (by omega), if_neg (by omega), if_neg (by omega)]) (by omega) X163 N163 e163 k164
    have k165 : Goes p e below s₁ F0 T57 (mkF m 165 #[iv p1, iv p2, iv p3, iv (Int32.ofNat li), iv (Int32.ofNat chs.length), iv (Int32.ofNat nt), iv (Int32.ofNat kp), iv v0, iv v1, iv v2, iv t0, iv t1, iv t2, rv b14, rv b29, rv b45, rv r, rv b52, .unset, .unset, .unset] [(.int (1 : Int32)), (.int (Int32.ofNat nt))]) := by
      intro t k
      refine k59 _ ?_
      skip
      refine XS.iload X57.here hx rfl (hb hby at_162) rfl ?_
      refine XS.iconst X57.here hx rfl (hb hby at_164) ?_
      exact k
    by_cases hn0 : (Int32.ofNat nt) < (1 : Int32)
    · have hnk : nt = 0 := by rw [show (1 : Int32) = Int32.ofNat 1 from rfl, own_ltN (by omega) (by omega)] at hn0; omega
      have k166 : Goes p e below s₁ F0 T57 (mkF m 201 #[iv p1, iv p2, iv p3, iv (Int32.ofNat li), iv (Int32.ofNat chs.length), iv (Int32.ofNat nt), iv (Int32.ofNat kp), iv v0, iv v1, iv v2, iv t0, iv t1, iv t2, rv b14, rv b29, rv b45, rv r, rv b52, .unset, .unset, .unset] []) := by
        intro t k
        refine k165 _ ?_
        skip
        refine XS.icmpYes X57.here hx rfl (pc0 := 165) (pc' := 175) rfl (hb hby at_165) rfl (tlt hn0).1 (by decide) (by decide) ?_
        refine XS.iload X57.here hx rfl (hb hby at_175) rfl ?_
        refine XS.iconst X57.here hx rfl (hb hby at_177) ?_
        refine XS.icmpYes X57.here hx rfl (pc0 := 178) (pc' := 188) rfl (hb hby at_178) rfl (tlt (show Int32.ofNat nt < (2 : Int32) by rw [show (2 : Int32) = Int32.ofNat 2 from rfl, own_ltN (by omega) (by omega)]; omega)).1 (by decide) (by decide) ?_
        refine XS.iload X57.here hx rfl (hb hby at_188) rfl ?_
        refine XS.iconst X57.here hx rfl (hb hby at_190) ?_
        refine XS.icmpYes X57.here hx rfl (pc0 := 191) (pc' := 201) rfl (hb hby at_191) rfl (tlt (show Int32.ofNat nt < (3 : Int32) by rw [show (3 : Int32) = Int32.ofNat 3 from rfl, own_ltN (by omega) (by omega)]; omega)).1 (by decide) (by decide) ?_
        exact k
      have f167 := ((VV.ext E52).keep K57 (ninS ne_b14_b52 nin0))
      have f168 := ((VT.ext E52).keep K57 (ninS ne_b29_b52 nin0))
      have f169 := ((VD.ext E52).keep K57 (ninS ne_b45_b52 nin0))
      exact j201 T57 _ T57.heap bA57 tA57 kB57 kT57 Z58 zk58 f167 f168 f169 (by rw [hnk]; exact DD0) (Stand.more X57 (by decide) (by decide)) N57 rfl k166
    · have hnk0 : ¬ nt < 1 := by rw [show (1 : Int32) = Int32.ofNat 1 from rfl, own_ltN (by omega) (by omega)] at hn0; exact hn0
      obtain ⟨c1, c2, c3⟩ := own_stC_b hli hvl 0 (by decide)
      obtain ⟨b1, b2⟩ := own_stB_b (E := (own_E t0 t1 t2 v0 v1 v2)) hli hvl 0 (by decide)
      have tl := own_stT_len li chs.length [t0, t1, t2] 0
      have c1_ := c1
      have c2_ := c2
      have od170 : Old Z n0 T57.heap := (od55.keep K57 (allS g_b52 all0))
      have k171 : Goes p e below s₁ F0 T57 (mkF m 172 #[iv p1, iv p2, iv p3, iv (Int32.ofNat li), iv (Int32.ofNat chs.length), iv (Int32.ofNat nt), iv (Int32.ofNat kp), iv v0, iv v1, iv v2, iv t0, iv t1, iv t2, rv b14, rv b29, rv b45, rv r, rv b52, .unset, .unset, .unset] [(.int t0), (.ref b52)]) := by
        intro t k
        refine k165 _ ?_
        skip
        refine XS.icmpNo X57.here hx rfl (hb hby at_165) rfl (flt hn0).1 ?_
        refine XS.aload X57.here hx rfl (hb hby at_168) rfl rfl ?_
        refine XS.iload X57.here hx rfl (hb hby at_170) rfl ?_
        exact k
      have f173 := (A52.keep K57)
      obtain ⟨cq172, kq172, q172a, q172b, q172c⟩ := isOf hZ rfl f173
      obtain ⟨_, _, ⟨T172, L172, ck172, nk172⟩, -, X172, ⟨Lc172, hQ172, l172, y172, z172⟩, st172⟩ := X57.virtualBack hx (y := (⟨"com/example/catchment/catchment/linkage/EditDistance", "type", "(C)V"⟩ : MethodName)) (z := (⟨"com/example/catchment/catchment/linkage/EditDistance", "type", "(C)V"⟩ : MethodName)) hown (mvT hZ (own_q hw 100 rfl)) (mvT hZ (own_q hw 101 rfl)) (notFace_of_selects (args := #[]) (mvT hZ (own_q hw 103 rfl))) (mvT hZ (own_q hw 103 rfl)) (mvT hZ (own_q hw 102 rfl)) (by decide) (backOf (W := 0) (rmTyp l Z a0 hw [] b52 t0 r bA57 tA57 kB57 kT57 li chs (own_stB li chs.length (own_E t0 t1 t2 v0 v1 v2) 0) (own_stT li chs.length [t0, t1, t2] 0) 0 ((own_E t0 t1 t2 v0 v1 v2).getD 0 []) ((own_E t0 t1 t2 v0 v1 v2).getD (0 - 1) []) cs vF T57.heap n0 Z58 DD0 g_b52 gB57 gT57 hli hvl (by decide) (by rw [tl]; exact c1) (by rw [tl]; exact c2) (by rw [tl]; exact c3) (by rw [tl]; exact b1) b2 ht0 (own_rowE hvl hc) (fun h => absurd h (by decide)) S1 hcs S2 rF od170) hZ (own_q hw 104 rfl) (own_q hw 29 rfl) (by decide) (by decide)) q172a q172c (g := (mkF m 172 #[iv p1, iv p2, iv p3, iv (Int32.ofNat li), iv (Int32.ofNat chs.length), iv (Int32.ofNat nt), iv (Int32.ofNat kp), iv v0, iv v1, iv v2, iv t0, iv t1, iv t2, rv b14, rv b29, rv b45, rv r, rv b52, .unset, .unset, .unset] [(.int t0), (.ref b52)])) rfl (by rw [hml]; rfl) (Steps.refl _) (argsL := [(.int t0)]) (rest := []) (lenOf pd_15 rfl) rfl (by show 2 * 0 + _ ≤ _; exact Nat.le_of_eq rfl) (hb hby at_172) (fun _ _ => ⟨rfl, rfl, (by decide : 13 + 2 ≤ _), (by decide : 131 + 39 ≤ _)⟩)
      dsimp only [Pt.U, Pt.locs, Pt.cells, Pt.slots] at X172 l172 y172 z172 st172 hQ172
      subst l172 y172 z172
      obtain ⟨rfl, N172q, K172, bA172, tA172, kB172, kT172, mB172, mT172, gB172, gT172, D172⟩ := hQ172
      have N172 := Fr.app N57 N172q
      have k172 : Goes p e below s₁ F0 T172 (mkF m 175 #[iv p1, iv p2, iv p3, iv (Int32.ofNat li), iv (Int32.ofNat chs.length), iv (Int32.ofNat nt), iv (Int32.ofNat kp), iv v0, iv v1, iv v2, iv t0, iv t1, iv t2, rv b14, rv b29, rv b45, rv r, rv b52, .unset, .unset, .unset] []) := fun t k => k171 t (st172.trans k)
      have Z174 : n0 ≤ T172.heap.size := Nat.le_trans Z58 K172.1
      have zk174 : kz ≤ T172.heap.size := Nat.le_trans zk58 K172.1
      have zB172 : nz ≤ bA172 := own_memz mB172 zA zB57 zT57 zh1
      have zT172 : nz ≤ tA172 := own_memz mT172 zA zB57 zT57 zh1
      have zh172 : nz ≤ T172.heap.size := Nat.le_trans zh1 K172.1
      rw [tl] at D172
      have DD172 : own_ED Z T172.heap b52 r bA172 tA172 kB172 kT172 li chs (own_stB li chs.length (own_E t0 t1 t2 v0 v1 v2) 1) (own_stT li chs.length [t0, t1, t2] 1) 1 := D172
      have k175 : Goes p e below s₁ F0 T172 (mkF m 178 #[iv p1, iv p2, iv p3, iv (Int32.ofNat li), iv (Int32.ofNat chs.length), iv (Int32.ofNat nt), iv (Int32.ofNat kp), iv v0, iv v1, iv v2, iv t0, iv t1, iv t2, rv b14, rv b29, rv b45, rv r, rv b52, .unset, .unset, .unset] [(.int (2 : Int32)), (.int (Int32.ofNat nt))]) := by
        intro t k
        refine k172 _ ?_
        skip
        refine XS.iload X172.here hx rfl (hb hby at_175) rfl ?_
        refine XS.iconst X172.here hx rfl (hb hby at_177) ?_
        exact k
      by_cases hn1 : (Int32.ofNat nt) < (2 : Int32)
      · have hnk : nt = 1 := by rw [show (2 : Int32) = Int32.ofNat 2 from rfl, own_ltN (by omega) (by omega)] at hn1; omega
        have k176 : Goes p e below s₁ F0 T172 (mkF m 201 #[iv p1, iv p2, iv p3, iv (Int32.ofNat li), iv (Int32.ofNat chs.length), iv (Int32.ofNat nt), iv (Int32.ofNat kp), iv v0, iv v1, iv v2, iv t0, iv t1, iv t2, rv b14, rv b29, rv b45, rv r, rv b52, .unset, .unset, .unset] []) := by
          intro t k
          refine k175 _ ?_
          skip
          refine XS.icmpYes X172.here hx rfl (pc0 := 178) (pc' := 188) rfl (hb hby at_178) rfl (tlt hn1).1 (by decide) (by decide) ?_
          refine XS.iload X172.here hx rfl (hb hby at_188) rfl ?_
          refine XS.iconst X172.here hx rfl (hb hby at_190) ?_
          refine XS.icmpYes X172.here hx rfl (pc0 := 191) (pc' := 201) rfl (hb hby at_191) rfl (tlt (show Int32.ofNat nt < (3 : Int32) by rw [show (3 : Int32) = Int32.ofNat 3 from rfl, own_ltN (by omega) (by omega)]; omega)).1 (by decide) (by decide) ?_
          exact k
        have f177 := (((VV.ext E52).keep K57 (ninS ne_b14_b52 nin0)).keep K172 (ninS ne_b14_b52 (ninS (Nat.ne_of_lt (Nat.lt_of_lt_of_le l_b14 zB57)) (ninS (Nat.ne_of_lt (Nat.lt_of_lt_of_le l_b14 zT57)) nin0))))
        have f178 := (((VT.ext E52).keep K57 (ninS ne_b29_b52 nin0)).keep K172 (ninS ne_b29_b52 (ninS (Nat.ne_of_lt (Nat.lt_of_lt_of_le l_b29 zB57)) (ninS (Nat.ne_of_lt (Nat.lt_of_lt_of_le l_b29 zT57)) nin0))))
        have f179 := (((VD.ext E52).keep K57 (ninS ne_b45_b52 nin0)).keep K172 (ninS ne_b45_b52 (ninS (Nat.ne_of_lt (Nat.lt_of_lt_of_le l_b45 zB57)) (ninS (Nat.ne_of_lt (Nat.lt_of_lt_of_le l_b45 zT57)) nin0))))
        exact j201 T172 _ T172.heap bA172 tA172 kB172 kT172 Z174 zk174 f177 f178 f179 (by rw [hnk]; exact DD172) (Stand.more X172 (by decide) (by decide)) N172 rfl k176
      · have hnk1 : ¬ nt < 2 := by rw [show (2 : Int32) = Int32.ofNat 2 from rfl, own_ltN (by omega) (by omega)] at hn1; exact hn1
        obtain ⟨c1, c2, c3⟩ := own_stC_b hli hvl 1 (by decide)
        obtain ⟨b1, b2⟩ := own_stB_b (E := (own_E t0 t1 t2 v0 v1 v2)) hli hvl 1 (by decide)
        have tl := own_stT_len li chs.length [t0, t1, t2] 1
        have hy : (own_stT li chs.length [t0, t1, t2] 1).getD (1 - 1) 0 = t0 := own_stT_get li chs.length [t0, t1, t2] 0 c1_ c2_
        have c1_ := c1
        have c2_ := c2
        have od180 : Old Z n0 T172.heap := (od170.keep K172 (allS g_b52 (allS gB57 (allS gT57 all0))))
        have k181 : Goes p e below s₁ F0 T172 (mkF m 185 #[iv p1, iv p2, iv p3, iv (Int32.ofNat li), iv (Int32.ofNat chs.length), iv (Int32.ofNat nt), iv (Int32.ofNat kp), iv v0, iv v1, iv v2, iv t0, iv t1, iv t2, rv b14, rv b29, rv b45, rv r, rv b52, .unset, .unset, .unset] [(.int t1), (.ref b52)]) := by
          intro t k
          refine k175 _ ?_
          skip
          refine XS.icmpNo X172.here hx rfl (hb hby at_178) rfl (flt hn1).1 ?_
          refine XS.aload X172.here hx rfl (hb hby at_181) rfl rfl ?_
          refine XS.iload X172.here hx rfl (hb hby at_183) rfl ?_
          exact k
        have f183 := (f173.keep K172)
        obtain ⟨cq182, kq182, q182a, q182b, q182c⟩ := isOf hZ rfl f183
        obtain ⟨_, _, ⟨T182, L182, ck182, nk182⟩, -, X182, ⟨Lc182, hQ182, l182, y182, z182⟩, st182⟩ := X172.virtualBack hx (y := (⟨"com/example/catchment/catchment/linkage/EditDistance", "type", "(C)V"⟩ : MethodName)) (z := (⟨"com/example/catchment/catchment/linkage/EditDistance", "type", "(C)V"⟩ : MethodName)) hown (mvT hZ (own_q hw 100 rfl)) (mvT hZ (own_q hw 101 rfl)) (notFace_of_selects (args := #[]) (mvT hZ (own_q hw 103 rfl))) (mvT hZ (own_q hw 103 rfl)) (mvT hZ (own_q hw 102 rfl)) (by decide) (backOf (W := 0) (rmTyp l Z a0 hw [] b52 t1 r bA172 tA172 kB172 kT172 li chs (own_stB li chs.length (own_E t0 t1 t2 v0 v1 v2) 1) (own_stT li chs.length [t0, t1, t2] 1) 1 ((own_E t0 t1 t2 v0 v1 v2).getD 1 []) ((own_E t0 t1 t2 v0 v1 v2).getD (1 - 1) []) cs vF T172.heap n0 Z174 DD172 g_b52 gB172 gT172 hli hvl (by decide) (by rw [tl]; exact c1) (by rw [tl]; exact c2) (by rw [tl]; exact c3) (by rw [tl]; exact b1) b2 ht1 (own_rowE hvl hc) (fun _ j hj => by rw [hy]; exact own_rowE hvl hc j hj) S1 hcs S2 rF od180) hZ (own_q hw 104 rfl) (own_q hw 29 rfl) (by decide) (by decide)) q182a q182c (g := (mkF m 185 #[iv p1, iv p2, iv p3, iv (Int32.ofNat li), iv (Int32.ofNat chs.length), iv (Int32.ofNat nt), iv (Int32.ofNat kp), iv v0, iv v1, iv v2, iv t0, iv t1, iv t2, rv b14, rv b29, rv b45, rv r, rv b52, .unset, .unset, .unset] [(.int t1), (.ref b52)])) rfl (by rw [hml]; rfl) (Steps.refl _) (argsL := [(.int t1)]) (rest := []) (lenOf pd_15 rfl) rfl (by show 2 * 0 + _ ≤ _; exact Nat.le_of_eq rfl) (hb hby at_185) (fun _ _ => ⟨rfl, rfl, (by decide : 15 + 2 ≤ _), (by decide : 170 + 39 ≤ _)⟩)
        dsimp only [Pt.U, Pt.locs, Pt.cells, Pt.slots] at X182 l182 y182 z182 st182 hQ182
        subst l182 y182 z182
        obtain ⟨rfl, N182q, K182, bA182, tA182, kB182, kT182, mB182, mT182, gB182, gT182, D182⟩ := hQ182
        have N182 := Fr.app N172 N182q
        have k182 : Goes p e below s₁ F0 T182 (mkF m 188 #[iv p1, iv p2, iv p3, iv (Int32.ofNat li), iv (Int32.ofNat chs.length), iv (Int32.ofNat nt), iv (Int32.ofNat kp), iv v0, iv v1, iv v2, iv t0, iv t1, iv t2, rv b14, rv b29, rv b45, rv r, rv b52, .unset, .unset, .unset] []) := fun t k => k181 t (st182.trans k)
        have Z184 : n0 ≤ T182.heap.size := Nat.le_trans Z174 K182.1
        have zk184 : kz ≤ T182.heap.size := Nat.le_trans zk174 K182.1
        have zB182 : nz ≤ bA182 := own_memz mB182 zA zB172 zT172 zh172
        have zT182 : nz ≤ tA182 := own_memz mT182 zA zB172 zT172 zh172
        have zh182 : nz ≤ T182.heap.size := Nat.le_trans zh172 K182.1
        rw [tl] at D182
        have DD182 : own_ED Z T182.heap b52 r bA182 tA182 kB182 kT182 li chs (own_stB li chs.length (own_E t0 t1 t2 v0 v1 v2) 2) (own_stT li chs.length [t0, t1, t2] 2) 2 := D182
        have k185 : Goes p e below s₁ F0 T182 (mkF m 191 #[iv p1, iv p2, iv p3, iv (Int32.ofNat li), iv (Int32.ofNat chs.length), iv (Int32.ofNat nt), iv (Int32.ofNat kp), iv v0, iv v1, iv v2, iv t0, iv t1, iv t2, rv b14, rv b29, rv b45, rv r, rv b52, .unset, .unset, .unset] [(.int (3 : Int32)), (.int (Int32.ofNat nt))]) := by
          intro t k
          refine k182 _ ?_
          skip
          refine XS.iload X182.here hx rfl (hb hby at_188) rfl ?_
          refine XS.iconst X182.here hx rfl (hb hby at_190) ?_
          exact k
        by_cases hn2 : (Int32.ofNat nt) < (3 : Int32)
        · have hnk : nt = 2 := by rw [show (3 : Int32) = Int32.ofNat 3 from rfl, own_ltN (by omega) (by omega)] at hn2; omega
          have k186 : Goes p e below s₁ F0 T182 (mkF m 201 #[iv p1, iv p2, iv p3, iv (Int32.ofNat li), iv (Int32.ofNat chs.length), iv (Int32.ofNat nt), iv (Int32.ofNat kp), iv v0, iv v1, iv v2, iv t0, iv t1, iv t2, rv b14, rv b29, rv b45, rv r, rv b52, .unset, .unset, .unset] []) := by
            intro t k
            refine k185 _ ?_
            skip
            refine XS.icmpYes X182.here hx rfl (pc0 := 191) (pc' := 201) rfl (hb hby at_191) rfl (tlt hn2).1 (by decide) (by decide) ?_
            exact k
          have f187 := ((((VV.ext E52).keep K57 (ninS ne_b14_b52 nin0)).keep K172 (ninS ne_b14_b52 (ninS (Nat.ne_of_lt (Nat.lt_of_lt_of_le l_b14 zB57)) (ninS (Nat.ne_of_lt (Nat.lt_of_lt_of_le l_b14 zT57)) nin0)))).keep K182 (ninS ne_b14_b52 (ninS (Nat.ne_of_lt (Nat.lt_of_lt_of_le l_b14 zB172)) (ninS (Nat.ne_of_lt (Nat.lt_of_lt_of_le l_b14 zT172)) nin0))))
          have f188 := ((((VT.ext E52).keep K57 (ninS ne_b29_b52 nin0)).keep K172 (ninS ne_b29_b52 (ninS (Nat.ne_of_lt (Nat.lt_of_lt_of_le l_b29 zB57)) (ninS (Nat.ne_of_lt (Nat.lt_of_lt_of_le l_b29 zT57)) nin0)))).keep K182 (ninS ne_b29_b52 (ninS (Nat.ne_of_lt (Nat.lt_of_lt_of_le l_b29 zB172)) (ninS (Nat.ne_of_lt (Nat.lt_of_lt_of_le l_b29 zT172)) nin0))))
          have f189 := ((((VD.ext E52).keep K57 (ninS ne_b45_b52 nin0)).keep K172 (ninS ne_b45_b52 (ninS (Nat.ne_of_lt (Nat.lt_of_lt_of_le l_b45 zB57)) (ninS (Nat.ne_of_lt (Nat.lt_of_lt_of_le l_b45 zT57)) nin0)))).keep K182 (ninS ne_b45_b52 (ninS (Nat.ne_of_lt (Nat.lt_of_lt_of_le l_b45 zB172)) (ninS (Nat.ne_of_lt (Nat.lt_of_lt_of_le l_b45 zT172)) nin0))))
          exact j201 T182 _ T182.heap bA182 tA182 kB182 kT182 Z184 zk184 f187 f188 f189 (by rw [hnk]; exact DD182) (Stand.more X182 (by decide) (by decide)) N182 rfl k186
        · have hnk2 : ¬ nt < 3 := by rw [show (3 : Int32) = Int32.ofNat 3 from rfl, own_ltN (by omega) (by omega)] at hn2; exact hn2
          obtain ⟨c1, c2, c3⟩ := own_stC_b hli hvl 2 (by decide)
          obtain ⟨b1, b2⟩ := own_stB_b (E := (own_E t0 t1 t2 v0 v1 v2)) hli hvl 2 (by decide)
          have tl := own_stT_len li chs.length [t0, t1, t2] 2
          have hy : (own_stT li chs.length [t0, t1, t2] 2).getD (2 - 1) 0 = t1 := own_stT_get li chs.length [t0, t1, t2] 1 c1_ c2_
          have c1_ := c1
          have c2_ := c2
          have od190 : Old Z n0 T182.heap := (od180.keep K182 (allS g_b52 (allS gB172 (allS gT172 all0))))
          have k191 : Goes p e below s₁ F0 T182 (mkF m 198 #[iv p1, iv p2, iv p3, iv (Int32.ofNat li), iv (Int32.ofNat chs.length), iv (Int32.ofNat nt), iv (Int32.ofNat kp), iv v0, iv v1, iv v2, iv t0, iv t1, iv t2, rv b14, rv b29, rv b45, rv r, rv b52, .unset, .unset, .unset] [(.int t2), (.ref b52)]) := by
            intro t k
            refine k185 _ ?_
            skip
            refine XS.icmpNo X182.here hx rfl (hb hby at_191) rfl (flt hn2).1 ?_
            refine XS.aload X182.here hx rfl (hb hby at_194) rfl rfl ?_
            refine XS.iload X182.here hx rfl (hb hby at_196) rfl ?_
            exact k
          have f193 := (f183.keep K182)
          obtain ⟨cq192, kq192, q192a, q192b, q192c⟩ := isOf hZ rfl f193
          obtain ⟨_, _, ⟨T192, L192, ck192, nk192⟩, -, X192, ⟨Lc192, hQ192, l192, y192, z192⟩, st192⟩ := X182.virtualBack hx (y := (⟨"com/example/catchment/catchment/linkage/EditDistance", "type", "(C)V"⟩ : MethodName)) (z := (⟨"com/example/catchment/catchment/linkage/EditDistance", "type", "(C)V"⟩ : MethodName)) hown (mvT hZ (own_q hw 100 rfl)) (mvT hZ (own_q hw 101 rfl)) (notFace_of_selects (args := #[]) (mvT hZ (own_q hw 103 rfl))) (mvT hZ (own_q hw 103 rfl)) (mvT hZ (own_q hw 102 rfl)) (by decide) (backOf (W := 0) (rmTyp l Z a0 hw [] b52 t2 r bA182 tA182 kB182 kT182 li chs (own_stB li chs.length (own_E t0 t1 t2 v0 v1 v2) 2) (own_stT li chs.length [t0, t1, t2] 2) 2 ((own_E t0 t1 t2 v0 v1 v2).getD 2 []) ((own_E t0 t1 t2 v0 v1 v2).getD (2 - 1) []) cs vF T182.heap n0 Z184 DD182 g_b52 gB182 gT182 hli hvl (by decide) (by rw [tl]; exact c1) (by rw [tl]; exact c2) (by rw [tl]; exact c3) (by rw [tl]; exact b1) b2 ht2 (own_rowE hvl hc) (fun _ j hj => by rw [hy]; exact own_rowE hvl hc j hj) S1 hcs S2 rF od190) hZ (own_q hw 104 rfl) (own_q hw 29 rfl) (by decide) (by decide)) q192a q192c (g := (mkF m 198 #[iv p1, iv p2, iv p3, iv (Int32.ofNat li), iv (Int32.ofNat chs.length), iv (Int32.ofNat nt), iv (Int32.ofNat kp), iv v0, iv v1, iv v2, iv t0, iv t1, iv t2, rv b14, rv b29, rv b45, rv r, rv b52, .unset, .unset, .unset] [(.int t2), (.ref b52)])) rfl (by rw [hml]; rfl) (Steps.refl _) (argsL := [(.int t2)]) (rest := []) (lenOf pd_15 rfl) rfl (by show 2 * 0 + _ ≤ _; exact Nat.le_of_eq rfl) (hb hby at_198) (fun _ _ => ⟨rfl, rfl, (by decide : 17 + 2 ≤ _), (by decide : 209 + 39 ≤ _)⟩)
          dsimp only [Pt.U, Pt.locs, Pt.cells, Pt.slots] at X192 l192 y192 z192 st192 hQ192
          subst l192 y192 z192
          obtain ⟨rfl, N192q, K192, bA192, tA192, kB192, kT192, mB192, mT192, gB192, gT192, D192⟩ := hQ192
          have N192 := Fr.app N182 N192q
          have k192 : Goes p e below s₁ F0 T192 (mkF m 201 #[iv p1, iv p2, iv p3, iv (Int32.ofNat li), iv (Int32.ofNat chs.length), iv (Int32.ofNat nt), iv (Int32.ofNat kp), iv v0, iv v1, iv v2, iv t0, iv t1, iv t2, rv b14, rv b29, rv b45, rv r, rv b52, .unset, .unset, .unset] []) := fun t k => k191 t (st192.trans k)
          have Z194 : n0 ≤ T192.heap.size := Nat.le_trans Z184 K192.1
          have zk194 : kz ≤ T192.heap.size := Nat.le_trans zk184 K192.1
          have zB192 : nz ≤ bA192 := own_memz mB192 zA zB182 zT182 zh182
          have zT192 : nz ≤ tA192 := own_memz mT192 zA zB182 zT182 zh182
          have zh192 : nz ≤ T192.heap.size := Nat.le_trans zh182 K192.1
          rw [tl] at D192
          have DD192 : own_ED Z T192.heap b52 r bA192 tA192 kB192 kT192 li chs (own_stB li chs.length (own_E t0 t1 t2 v0 v1 v2) 3) (own_stT li chs.length [t0, t1, t2] 3) 3 := D192
          have hnk : nt = 3 := by omega
          have f195 := (((((VV.ext E52).keep K57 (ninS ne_b14_b52 nin0)).keep K172 (ninS ne_b14_b52 (ninS (Nat.ne_of_lt (Nat.lt_of_lt_of_le l_b14 zB57)) (ninS (Nat.ne_of_lt (Nat.lt_of_lt_of_le l_b14 zT57)) nin0)))).keep K182 (ninS ne_b14_b52 (ninS (Nat.ne_of_lt (Nat.lt_of_lt_of_le l_b14 zB172)) (ninS (Nat.ne_of_lt (Nat.lt_of_lt_of_le l_b14 zT172)) nin0)))).keep K192 (ninS ne_b14_b52 (ninS (Nat.ne_of_lt (Nat.lt_of_lt_of_le l_b14 zB182)) (ninS (Nat.ne_of_lt (Nat.lt_of_lt_of_le l_b14 zT182)) nin0))))
          have f196 := (((((VT.ext E52).keep K57 (ninS ne_b29_b52 nin0)).keep K172 (ninS ne_b29_b52 (ninS (Nat.ne_of_lt (Nat.lt_of_lt_of_le l_b29 zB57)) (ninS (Nat.ne_of_lt (Nat.lt_of_lt_of_le l_b29 zT57)) nin0)))).keep K182 (ninS ne_b29_b52 (ninS (Nat.ne_of_lt (Nat.lt_of_lt_of_le l_b29 zB172)) (ninS (Nat.ne_of_lt (Nat.lt_of_lt_of_le l_b29 zT172)) nin0)))).keep K192 (ninS ne_b29_b52 (ninS (Nat.ne_of_lt (Nat.lt_of_lt_of_le l_b29 zB182)) (ninS (Nat.ne_of_lt (Nat.lt_of_lt_of_le l_b29 zT182)) nin0))))
          have f197 := (((((VD.ext E52).keep K57 (ninS ne_b45_b52 nin0)).keep K172 (ninS ne_b45_b52 (ninS (Nat.ne_of_lt (Nat.lt_of_lt_of_le l_b45 zB57)) (ninS (Nat.ne_of_lt (Nat.lt_of_lt_of_le l_b45 zT57)) nin0)))).keep K182 (ninS ne_b45_b52 (ninS (Nat.ne_of_lt (Nat.lt_of_lt_of_le l_b45 zB172)) (ninS (Nat.ne_of_lt (Nat.lt_of_lt_of_le l_b45 zT172)) nin0)))).keep K192 (ninS ne_b45_b52 (ninS (Nat.ne_of_lt (Nat.lt_of_lt_of_le l_b45 zB182)) (ninS (Nat.ne_of_lt (Nat.lt_of_lt_of_le l_b45 zT182)) nin0))))
          exact j201 T192 _ T192.heap bA192 tA192 kB192 kT192 Z194 zk194 f195 f196 f197 (by rw [hnk]; exact DD192) (Stand.more X192 (by decide) (by decide)) N192 rfl k192
  have h4 : vl = 0 ∨ vl = 1 ∨ vl = 2 ∨ vl = 3 := by omega
  rcases h4 with rfl | rfl | rfl | rfl
  · skip
    rw [show Int32.ofNat 0 = (0 : Int32) from rfl] at k49
    obtain ⟨_, _, ⟨T198, L198, ck198, nk198⟩, -, X198, hS198, gr198, ⟨Lc198, hQ198, l198, y198, z198, hC198⟩, st198⟩ := callSS (s := s.setVm s.vm) X45 hx (y := (⟨"com/example/catchment/catchment/linkage/EditDistanceBeyondPinLaw", "str", "(ICCC)Ljava/lang/String;"⟩ : MethodName)) hown (mvT hZ (own_q hw 2 rfl)) (mvT hZ (own_q hw 3 rfl)) (mvT hZ (own_q hw 4 rfl)) (mvT hZ (own_q hw 5 rfl)) (by decide) (backOfSH (s := s) (W := 0) (rmMk0 l Z a0 hw [] v0 v1 v2 h45 n0 Z48) hZ (own_q hw 5 rfl) (own_q hw 4 rfl) (by decide) (by decide) (own_EW hw) ch51.1) (g := (mkF m 145 #[iv p1, iv p2, iv p3, iv (Int32.ofNat li), iv (0 : Int32), iv (Int32.ofNat nt), iv (Int32.ofNat kp), iv v0, iv v1, iv v2, iv t0, iv t1, iv t2, rv b14, rv b29, rv b45, .unset, .unset, .unset, .unset, .unset] [(.int v2), (.int v1), (.int v0), (.int (0 : Int32))])) rfl (by rw [hml]; rfl) (argsL := [(.int (0 : Int32)), (.int v0), (.int v1), (.int v2)]) (rest := []) (lenOf pd_16 rfl) rfl (by show 2 * 0 + _ ≤ _; exact Nat.le_of_eq rfl) (hb hby at_145) (fun _ _ => ⟨rfl, e45, (by decide : 3 + 6 ≤ _), (by decide : 22 + 12 ≤ _)⟩)
    dsimp only [Pt.U, Pt.locs, Pt.cells, Pt.slots] at X198 l198 y198 z198 st198 hQ198 hS198 gr198 hC198
    subst l198 y198 z198
    obtain ⟨r198, rfl, N198q, K198, TS198⟩ := hQ198
    have N198 := Fr.app N42 N198q
    obtain ⟨X198, hSn198, hZ, hown⟩ := rebS (s := s) (vm0 := s.vm) (vm1 := T198.vm) ((State.WarmedH.refl s).since 0) (by rw [e45]; exact (Nat.zero_le _)) X198 hS198 gr198 hZ hown
    have k198 : Goes p e below s₁ F0 T198 (mkF m 148 #[iv p1, iv p2, iv p3, iv (Int32.ofNat li), iv (0 : Int32), iv (Int32.ofNat nt), iv (Int32.ofNat kp), iv v0, iv v1, iv v2, iv t0, iv t1, iv t2, rv b14, rv b29, rv b45, .unset, .unset, .unset, .unset, .unset] [(.ref r198)]) := fun t k => k49 t (st198.trans k)
    have Z199 : n0 ≤ T198.heap.size := Nat.le_trans Z48 K198.1
    have k200 : Goes p e below s₁ F0 T198 (mkF m 150 #[iv p1, iv p2, iv p3, iv (Int32.ofNat li), iv (0 : Int32), iv (Int32.ofNat nt), iv (Int32.ofNat kp), iv v0, iv v1, iv v2, iv t0, iv t1, iv t2, rv b14, rv b29, rv b45, rv r198, .unset, .unset, .unset, .unset] []) := by
      intro t k
      refine k198 _ ?_
      skip
      refine XS.astore X198.here hx rfl (hb hby at_148) rfl rfl (l' := #[iv p1, iv p2, iv p3, iv (Int32.ofNat li), iv (0 : Int32), iv (Int32.ofNat nt), iv (Int32.ofNat kp), iv v0, iv v1, iv v2, iv t0, iv t1, iv t2, rv b14, rv b29, rv b45, rv r198, .unset, .unset, .unset, .unset]) rfl ?_
      exact k
    have f201 := ((f46.ext E45).keep K198 nin0)
    have f202 := ((V42.ext E45).keep K198 nin0)
    have f203 := (V45.keep K198 nin0)
    have od204 : Old Z n0 T198.heap := ((((((((((XO.ext E14).wr W18 g_b14).wr W22 g_b14).wr W26 g_b14).ext E29).wr W34 g_b29).wr W38 g_b29).wr W42 g_b29).ext E45).keep K198 all0)
    have kp205 : Keep h0 T198.heap [] := (kp50.trans K198 all0)
    exact tail T198 _ T198.vm T198.heap.size r198 [] (Stand.more X198 (by decide) (by decide)) hSn198 (Nat.le_refl _) hZ hown N198 Z199 od204 kp205 TS198 rfl own_hc0 f201 f202 f203 k200
  · skip
    rw [show Int32.ofNat 1 = (1 : Int32) from rfl] at k49
    have od206 : Old Z n0 h45 := (((((((((XO.ext E14).wr W18 g_b14).wr W22 g_b14).wr W26 g_b14).ext E29).wr W34 g_b29).wr W38 g_b29).wr W42 g_b29).ext E45)
    obtain ⟨_, _, ⟨T207, L207, ck207, nk207⟩, -, X207, ⟨Lc207, hQ207, l207, y207, z207⟩, st207⟩ := Jvm.LawKit.callS X45 hx (y := (⟨"com/example/catchment/catchment/linkage/EditDistanceBeyondPinLaw", "str", "(ICCC)Ljava/lang/String;"⟩ : MethodName)) hown (mvT hZ (own_q hw 2 rfl)) (mvT hZ (own_q hw 3 rfl)) (mvT hZ (own_q hw 4 rfl)) (mvT hZ (own_q hw 5 rfl)) (by decide) (backOf (W := 0) (rmMk1 l Z a0 hw [] v0 v1 v2 cs h45 n0 Z48 hv0 hv1 hv2 S1 hcs od206) hZ (own_q hw 5 rfl) (own_q hw 4 rfl) (by decide) (by decide)) (g := (mkF m 145 #[iv p1, iv p2, iv p3, iv (Int32.ofNat li), iv (1 : Int32), iv (Int32.ofNat nt), iv (Int32.ofNat kp), iv v0, iv v1, iv v2, iv t0, iv t1, iv t2, rv b14, rv b29, rv b45, .unset, .unset, .unset, .unset, .unset] [(.int v2), (.int v1), (.int v0), (.int (1 : Int32))])) rfl (by rw [hml]; rfl) (argsL := [(.int (1 : Int32)), (.int v0), (.int v1), (.int v2)]) (rest := []) (lenOf pd_16 rfl) rfl (by show 2 * 0 + _ ≤ _; exact Nat.le_of_eq rfl) (hb hby at_145) (fun _ _ => ⟨rfl, e45, (by decide : 3 + 2 ≤ _), (by decide : 22 + 5 ≤ _)⟩)
    dsimp only [Pt.U, Pt.locs, Pt.cells, Pt.slots] at X207 l207 y207 z207 st207 hQ207
    subst l207 y207 z207
    obtain ⟨r207, rfl, N207q, K207, TS207⟩ := hQ207
    have N207 := Fr.app N42 N207q
    have k207 : Goes p e below s₁ F0 T207 (mkF m 148 #[iv p1, iv p2, iv p3, iv (Int32.ofNat li), iv (1 : Int32), iv (Int32.ofNat nt), iv (Int32.ofNat kp), iv v0, iv v1, iv v2, iv t0, iv t1, iv t2, rv b14, rv b29, rv b45, .unset, .unset, .unset, .unset, .unset] [(.ref r207)]) := fun t k => k49 t (st207 _ k)
    have Z208 : n0 ≤ T207.heap.size := Nat.le_trans Z48 K207.1
    have k209 : Goes p e below s₁ F0 T207 (mkF m 150 #[iv p1, iv p2, iv p3, iv (Int32.ofNat li), iv (1 : Int32), iv (Int32.ofNat nt), iv (Int32.ofNat kp), iv v0, iv v1, iv v2, iv t0, iv t1, iv t2, rv b14, rv b29, rv b45, rv r207, .unset, .unset, .unset, .unset] []) := by
      intro t k
      refine k207 _ ?_
      skip
      refine XS.astore X207.here hx rfl (hb hby at_148) rfl rfl (l' := #[iv p1, iv p2, iv p3, iv (Int32.ofNat li), iv (1 : Int32), iv (Int32.ofNat nt), iv (Int32.ofNat kp), iv v0, iv v1, iv v2, iv t0, iv t1, iv t2, rv b14, rv b29, rv b45, rv r207, .unset, .unset, .unset, .unset]) rfl ?_
      exact k
    have f210 := ((f46.ext E45).keep K207 nin0)
    have f211 := ((V42.ext E45).keep K207 nin0)
    have f212 := (V45.keep K207 nin0)
    have od213 : Old Z n0 T207.heap := (od206.keep K207 all0)
    have kp214 : Keep h0 T207.heap [] := (kp50.trans K207 all0)
    exact tail T207 _ s.vm 0 r207 [v0] (Stand.more X207 (by decide) (by decide)) ((State.WarmedH.refl s).since 0) (Nat.zero_le _) hZ hown N207 Z208 od213 kp214 TS207 rfl own_hc1 f210 f211 f212 k209
  · skip
    rw [show Int32.ofNat 2 = (2 : Int32) from rfl] at k49
    have od215 : Old Z n0 h45 := (((((((((XO.ext E14).wr W18 g_b14).wr W22 g_b14).wr W26 g_b14).ext E29).wr W34 g_b29).wr W38 g_b29).wr W42 g_b29).ext E45)
    obtain ⟨_, _, ⟨T216, L216, ck216, nk216⟩, -, X216, ⟨Lc216, hQ216, l216, y216, z216⟩, st216⟩ := Jvm.LawKit.callS X45 hx (y := (⟨"com/example/catchment/catchment/linkage/EditDistanceBeyondPinLaw", "str", "(ICCC)Ljava/lang/String;"⟩ : MethodName)) hown (mvT hZ (own_q hw 2 rfl)) (mvT hZ (own_q hw 3 rfl)) (mvT hZ (own_q hw 4 rfl)) (mvT hZ (own_q hw 5 rfl)) (by decide) (backOf (W := 0) (rmMk2 l Z a0 hw [] v0 v1 v2 cs h45 n0 Z48 hv0 hv1 hv2 S1 hcs od215) hZ (own_q hw 5 rfl) (own_q hw 4 rfl) (by decide) (by decide)) (g := (mkF m 145 #[iv p1, iv p2, iv p3, iv (Int32.ofNat li), iv (2 : Int32), iv (Int32.ofNat nt), iv (Int32.ofNat kp), iv v0, iv v1, iv v2, iv t0, iv t1, iv t2, rv b14, rv b29, rv b45, .unset, .unset, .unset, .unset, .unset] [(.int v2), (.int v1), (.int v0), (.int (2 : Int32))])) rfl (by rw [hml]; rfl) (argsL := [(.int (2 : Int32)), (.int v0), (.int v1), (.int v2)]) (rest := []) (lenOf pd_16 rfl) rfl (by show 2 * 0 + _ ≤ _; exact Nat.le_of_eq rfl) (hb hby at_145) (fun _ _ => ⟨rfl, e45, (by decide : 3 + 3 ≤ _), (by decide : 22 + 8 ≤ _)⟩)
    dsimp only [Pt.U, Pt.locs, Pt.cells, Pt.slots] at X216 l216 y216 z216 st216 hQ216
    subst l216 y216 z216
    obtain ⟨r216, rfl, N216q, K216, TS216⟩ := hQ216
    have N216 := Fr.app N42 N216q
    have k216 : Goes p e below s₁ F0 T216 (mkF m 148 #[iv p1, iv p2, iv p3, iv (Int32.ofNat li), iv (2 : Int32), iv (Int32.ofNat nt), iv (Int32.ofNat kp), iv v0, iv v1, iv v2, iv t0, iv t1, iv t2, rv b14, rv b29, rv b45, .unset, .unset, .unset, .unset, .unset] [(.ref r216)]) := fun t k => k49 t (st216 _ k)
    have Z217 : n0 ≤ T216.heap.size := Nat.le_trans Z48 K216.1
    have k218 : Goes p e below s₁ F0 T216 (mkF m 150 #[iv p1, iv p2, iv p3, iv (Int32.ofNat li), iv (2 : Int32), iv (Int32.ofNat nt), iv (Int32.ofNat kp), iv v0, iv v1, iv v2, iv t0, iv t1, iv t2, rv b14, rv b29, rv b45, rv r216, .unset, .unset, .unset, .unset] []) := by
      intro t k
      refine k216 _ ?_
      skip
      refine XS.astore X216.here hx rfl (hb hby at_148) rfl rfl (l' := #[iv p1, iv p2, iv p3, iv (Int32.ofNat li), iv (2 : Int32), iv (Int32.ofNat nt), iv (Int32.ofNat kp), iv v0, iv v1, iv v2, iv t0, iv t1, iv t2, rv b14, rv b29, rv b45, rv r216, .unset, .unset, .unset, .unset]) rfl ?_
      exact k
    have f219 := ((f46.ext E45).keep K216 nin0)
    have f220 := ((V42.ext E45).keep K216 nin0)
    have f221 := (V45.keep K216 nin0)
    have od222 : Old Z n0 T216.heap := (od215.keep K216 all0)
    have kp223 : Keep h0 T216.heap [] := (kp50.trans K216 all0)
    exact tail T216 _ s.vm 0 r216 [v0, v1] (Stand.more X216 (by decide) (by decide)) ((State.WarmedH.refl s).since 0) (Nat.zero_le _) hZ hown N216 Z217 od222 kp223 TS216 rfl own_hc2 f219 f220 f221 k218
  · skip
    rw [show Int32.ofNat 3 = (3 : Int32) from rfl] at k49
    have od224 : Old Z n0 h45 := (((((((((XO.ext E14).wr W18 g_b14).wr W22 g_b14).wr W26 g_b14).ext E29).wr W34 g_b29).wr W38 g_b29).wr W42 g_b29).ext E45)
    obtain ⟨_, _, ⟨T225, L225, ck225, nk225⟩, -, X225, ⟨Lc225, hQ225, l225, y225, z225⟩, st225⟩ := Jvm.LawKit.callS X45 hx (y := (⟨"com/example/catchment/catchment/linkage/EditDistanceBeyondPinLaw", "str", "(ICCC)Ljava/lang/String;"⟩ : MethodName)) hown (mvT hZ (own_q hw 2 rfl)) (mvT hZ (own_q hw 3 rfl)) (mvT hZ (own_q hw 4 rfl)) (mvT hZ (own_q hw 5 rfl)) (by decide) (backOf (W := 0) (rmMk3 l Z a0 hw [] v0 v1 v2 cs h45 n0 Z48 hv0 hv1 hv2 S1 hcs od224) hZ (own_q hw 5 rfl) (own_q hw 4 rfl) (by decide) (by decide)) (g := (mkF m 145 #[iv p1, iv p2, iv p3, iv (Int32.ofNat li), iv (3 : Int32), iv (Int32.ofNat nt), iv (Int32.ofNat kp), iv v0, iv v1, iv v2, iv t0, iv t1, iv t2, rv b14, rv b29, rv b45, .unset, .unset, .unset, .unset, .unset] [(.int v2), (.int v1), (.int v0), (.int (3 : Int32))])) rfl (by rw [hml]; rfl) (argsL := [(.int (3 : Int32)), (.int v0), (.int v1), (.int v2)]) (rest := []) (lenOf pd_16 rfl) rfl (by show 2 * 0 + _ ≤ _; exact Nat.le_of_eq rfl) (hb hby at_145) (fun _ _ => ⟨rfl, e45, (by decide : 3 + 3 ≤ _), (by decide : 22 + 10 ≤ _)⟩)
    dsimp only [Pt.U, Pt.locs, Pt.cells, Pt.slots] at X225 l225 y225 z225 st225 hQ225
    subst l225 y225 z225
    obtain ⟨r225, rfl, N225q, K225, TS225⟩ := hQ225
    have N225 := Fr.app N42 N225q
    have k225 : Goes p e below s₁ F0 T225 (mkF m 148 #[iv p1, iv p2, iv p3, iv (Int32.ofNat li), iv (3 : Int32), iv (Int32.ofNat nt), iv (Int32.ofNat kp), iv v0, iv v1, iv v2, iv t0, iv t1, iv t2, rv b14, rv b29, rv b45, .unset, .unset, .unset, .unset, .unset] [(.ref r225)]) := fun t k => k49 t (st225 _ k)
    have Z226 : n0 ≤ T225.heap.size := Nat.le_trans Z48 K225.1
    have k227 : Goes p e below s₁ F0 T225 (mkF m 150 #[iv p1, iv p2, iv p3, iv (Int32.ofNat li), iv (3 : Int32), iv (Int32.ofNat nt), iv (Int32.ofNat kp), iv v0, iv v1, iv v2, iv t0, iv t1, iv t2, rv b14, rv b29, rv b45, rv r225, .unset, .unset, .unset, .unset] []) := by
      intro t k
      refine k225 _ ?_
      skip
      refine XS.astore X225.here hx rfl (hb hby at_148) rfl rfl (l' := #[iv p1, iv p2, iv p3, iv (Int32.ofNat li), iv (3 : Int32), iv (Int32.ofNat nt), iv (Int32.ofNat kp), iv v0, iv v1, iv v2, iv t0, iv t1, iv t2, rv b14, rv b29, rv b45, rv r225, .unset, .unset, .unset, .unset]) rfl ?_
      exact k
    have f228 := ((f46.ext E45).keep K225 nin0)
    have f229 := ((V42.ext E45).keep K225 nin0)
    have f230 := (V45.keep K225 nin0)
    have od231 : Old Z n0 T225.heap := (od224.keep K225 all0)
    have kp232 : Keep h0 T225.heap [] := (kp50.trans K225 all0)
    exact tail T225 _ s.vm 0 r225 [v0, v1, v2] (Stand.more X225 (by decide) (by decide)) ((State.WarmedH.refl s).since 0) (Nat.zero_le _) hZ hown N225 Z226 od231 kp232 TS225 rfl own_hc3 f228 f229 f230 k227
set_option maxRecDepth 65536 in
set_option maxHeartbeats 40000000 in
theorem comes_1 {Post : Tables → Env → Array Value → State → Outcome → State → Prop} (hpost : ∀ tb e args s v u, (limb_1_1.after args s (.returned v) u = true ∧ limb_1_2.after args s (.returned v) u = true ∧ True) → ReturnedEndW s (.returned v) u (Jvm.fieldLocs frame_1_writes args s ++ Jvm.arrayLocs frame_1_arrays args s ++ Jvm.staticLocs frame_1_statics s) 40 1344 → Post tb e args s (.returned v) u) :
    ArmFor flags0 classFile x code maxLocals ret World_1 tables_1 room_1 Calls_1 rest_1 Pre_1 Post := by
  intro l hfl _ _ p e ha hc hk s m args below hf hA hF happ hP
  obtain ⟨hcalls, hrest, hpre⟩ := hP
  obtain ⟨-, -, -, hnamed, -, -, -, hat⟩ := (Spec.applies_iff hf).mp happ
  obtain ⟨hg, hn⟩ := and_e (Cond.before_iff.mp (show (Jvm.Cond.and given_1 narrow_1).before args s = true from hpre))
  obtain ⟨hcnt, hr0⟩ := and_e hg
  obtain ⟨hi0, hr1⟩ := and_e hr0
  obtain ⟨hi1, hr2⟩ := and_e hr1
  have hi2 := hr2
  obtain ⟨w0, w1, w2, rfl⟩ : ∃ w0 w1 w2 : Value, args = #[w0, w1, w2] := by
    have hs : args.size = 3 := by simpa [Cond.value, given_1] using hcnt
    obtain ⟨L⟩ := args
    match L, hs with
    | [w0, w1, w2], _ => exact ⟨w0, w1, w2, rfl⟩
  have hw := fun d (hd : d ∈ tables_1) => atoms_spec (ws := Jvm.Cond.code x code maxLocals ret :: tables_1) hat d (List.mem_cons_of_mem _ hd)
  have hfit : Fit s := fun {y c} hc i hi => by
    obtain ⟨ha, rfl⟩ := Array.getElem?_eq_some_iff.mp hc
    have q := List.all_eq_true.mp ((Array.all_eq_true_iff_forall_mem.mp hF) _ (Array.getElem_mem ha)) i (List.mem_range.mpr hi)
    simpa [Array.getElem?_eq_getElem hi] using q
  obtain ⟨hsets, hown0⟩ := atoms_of _ (rest_1_c_eq ▸ (show rest_1_c.before _ s = true from hrest))
  obtain ⟨i0, ei0⟩ := is_v hi0
  obtain rfl : w0 = (.int i0) := Option.some.inj ei0
  obtain ⟨i1, ei1⟩ := is_v hi1
  obtain rfl : w1 = (.int i1) := Option.some.inj ei1
  obtain ⟨i2, ei2⟩ := is_v hi2
  obtain rfl : w2 = (.int i2) := Option.some.inj ei2
  have n5 := not_v (Cond.before_iff.mp (hsets _ (List.mem_of_getElem? (i := 2) rfl)))
  obtain ⟨cs, ecs⟩ := is_v (Cond.before_iff.mp (hsets _ (List.mem_of_getElem? (i := 1) rfl)))
  have S1 : Sta s s.heap "java/lang/String" "COMPACT_STRINGS" "Z" (.int cs) := Sta.start ecs (Or.inl (hsets _ (List.mem_of_getElem? (i := 0) rfl)))
  have hcs : ¬ (cs = (0 : Int32)) := gotF (Cond.eq_ints ecs (Term.int_eval (0))) n5
  obtain ⟨vF, eF, rF⟩ := isR_v (Cond.before_iff.mp (hsets _ (List.mem_of_getElem? (i := 8) rfl)))
  have S2 : Sta s s.heap "jdk/internal/util/Preconditions" "SIOOBE_FORMATTER" "Ljava/util/function/BiFunction;" vF := Sta.start eF (Or.inl (hsets _ (List.mem_of_getElem? (i := 7) rfl)))
  have hcw : Jvm.Lit.compactW.before _ s = true := hsets _ (List.mem_of_getElem? (i := 2) rfl)
  have hheld : ∀ p ∈ own_EL, Jvm.Lit.constHeld s p.1 p.2 := (show ∀ p ∈ consts_1, Jvm.Lit.constHeld s p.1 p.2 from (show call_1_1 _ _ _ s ∧ True from hcalls).1)
  have hCH : CHv s own_EL s.vm s.heap := CHv.start (own_EW hw) hheld hcw (own_q hw 20 rfl) (own_q hw 7 rfl)
  obtain ⟨n, o, h1, h2, h3, _, L, rfl, ⟨rfl, N⟩, hq⟩ := rm0 l s _ hw tables_1 i0 i1 i2 cs vF s.heap s.heap.size (Nat.le_refl _) S1 hcs (Old.start s) S2 rF p e ha hc hk s m _ below hf ((Spec.applies_iff_loose hf).mp happ).1 ⟨rfl, State.Warmed39.refl s, rfl, hCH⟩ trivial
  refine ⟨n, _, h1, h2, h3, hpost _ _ _ _ _ _ ⟨Cond.after_iff.mpr rfl, Cond.after_iff.mpr (eq_i res_at (Term.int_eval (1)) rfl), trivial⟩ ⟨hq.1, hq.2.1, hq.2.2.1, (hq.2.2.2.sift fun y hy => Or.inr (N y hy)).mono (by decide) (by decide)⟩⟩
theorem main_1_1 : Claimed_1_1 := comes_1 fun _ _ _ _ _ _ h hF => ⟨h.1, hF⟩
theorem main_1_2 : Claimed_1_2 := comes_1 fun _ _ _ _ _ _ h hF => ⟨h.2.1, hF⟩
end Jvm.Pilot.@@N@@
namespace Jvm.Pilot.@@N@@
open Jvm Jvm.ClassFile Sem Op Lib Jvm.Free Jvm.Stand Jvm.Pilot.@@N@@.Jvm.D
/-! MADE BY PROGRAM (witnessworld.py) out of the Statement's table words and the real class files: 23 classes; the members and pool entries that the words name. The judged class is class 1, her method 1. -/
namespace start1
open Jvm.ClassFile
def u (s : String) : CpInfo := .utf8 (stringToUtf16 s)
/-- a pool by its gaps: so many unusable entries, then the entry; so many at the end -/
def gap : Nat → List CpInfo → List CpInfo
  | 0, r => r
  | n + 1, r => .unusable :: gap n r
def poolList (es : List (Nat × CpInfo)) (last : Nat) : List CpInfo := es.foldr (fun e r => gap e.1 (e.2 :: r)) (gap last [])
def pool (es : List (Nat × CpInfo)) (last : Nat) : Array CpInfo := ⟨poolList es last⟩
def fileOf (pool : Array CpInfo) (this : Nat) (attrs : Array Attribute := #[]) (ms : Array MethodInfo := #[]) (fl : Nat := 33) (sup : Nat := 0) (ifs : Array Nat := #[]) (fds : Array FieldInfo := #[]) : ClassFile where
  minorVersion := 0
  majorVersion := 65
  constantPool := pool
  accessFlags := fl
  thisClass := this
  superClass := sup
  interfaces := ifs
  fields := fds
  methods := ms
  attributes := attrs
def plain (name : String) (sup : Option ClassId) : Class where
  name := name
  kind := .ordinary
  loader := none
  accessFlags := 33
  super := sup
  interfaces := #[]
  cf := none
  fields := #[]
  methods := #[]
  instanceTypes := #[]
  staticTypes := #[]
  resolved := #[]
  callSites := []
  init := .initialized
  statics := none
  mirror := none

def pool0 : Array CpInfo := pool [(5, u "<init>"), (0, u "()V"), (1, .class_ 10), (1, u "java/lang/Object")] 113

def k0c0 : Code := { maxStack := 0, maxLocals := 1, code := object_method_1_code, exceptionTable := #[], attributes := #[] }
def k0m0 : Method := { name := "<init>", desc := "()V", sig := { parameters := [], returnType := none }, accessFlags := 1, code := some k0c0 }
/-- java/lang/Object -/
def k0 : Class := { plain "java/lang/Object" none with
  accessFlags := 33
  interfaces := #[]
  cf := some (fileOf pool0 8 #[] #[{ accessFlags := 1, nameIndex := 5, descriptorIndex := 6, attributes := #[] }] 33 0 #[] #[])
  fields := #[]
  methods := #[k0m0]
  instanceTypes := #[]
  staticTypes := #[]
  resolved := Array.replicate 124 none
  statics := none }

def pool1 : Array CpInfo := pool [(2, .class_ 4), (1, u "java/lang/Object"), (0, u "<init>"), (0, u "()V"), (0, .methodref 8 9), (0, .class_ 10), (0, .nameAndType 11 12), (0, u "com/example/catchment/catchment/linkage/EditDistanceBeyondPinLaw"), (0, u "str"), (0, u "(ICCC)Ljava/lang/String;"), (0, .class_ 14), (0, u "com/example/catchment/catchment/linkage/EditDistance"), (0, .methodref 13 16), (0, .nameAndType 5 17), (0, u "(Ljava/lang/String;I)V"), (0, .methodref 13 19), (0, .nameAndType 20 21), (0, u "type"), (0, u "(C)V"), (0, .methodref 13 23), (0, .nameAndType 24 25), (0, u "eraseTo"), (0, u "(I)V"), (0, .methodref 13 27), (0, .nameAndType 28 29), (0, u "beyond"), (0, u "()Z"), (0, .methodref 8 31), (0, .nameAndType 32 33), (0, u "cell"), (0, u "([I[C[CII)V"), (0, .methodref 35 36), (0, .class_ 37), (0, .nameAndType 38 39), (0, u "java/lang/Math"), (0, u "min"), (0, u "(II)I"), (0, .class_ 41), (0, u "java/lang/String"), (0, .methodref 40 43), (0, .nameAndType 5 44), (0, u "([C)V"), (0, .methodref 40 46), (0, .nameAndType 47 48), (0, u "valueOf"), (0, u "(C)Ljava/lang/String;"), (2, u "law"), (0, u "(III)Z")] 7

def k1m0 : Method := { name := "<init>", desc := "()V", sig := { parameters := [], returnType := none }, accessFlags := 1, code := none }
def k1c1 : Code := { maxStack := 5, maxLocals := 21, code := code, exceptionTable := #[], attributes := #[] }
def k1m1 : Method := { name := "law", desc := "(III)Z", sig := { parameters := [.int, .int, .int], returnType := some .boolean }, accessFlags := 9, code := some k1c1 }
def k1c2 : Code := { maxStack := 6, maxLocals := 4, code := method_3_code, exceptionTable := #[], attributes := #[] }
def k1m2 : Method := { name := "str", desc := "(ICCC)Ljava/lang/String;", sig := { parameters := [.int, .char, .char, .char], returnType := some (.object "java/lang/String") }, accessFlags := 10, code := some k1c2 }
def k1c3 : Code := { maxStack := 5, maxLocals := 6, code := method_4_code, exceptionTable := #[], attributes := #[] }
def k1m3 : Method := { name := "cell", desc := "([I[C[CII)V", sig := { parameters := [(.array .int), (.array .char), (.array .char), .int, .int], returnType := none }, accessFlags := 10, code := some k1c3 }
/-- com/example/catchment/catchment/linkage/EditDistanceBeyondPinLaw -/
def k1 : Class := { plain "com/example/catchment/catchment/linkage/EditDistanceBeyondPinLaw" (some 0) with
  accessFlags := 49
  interfaces := #[]
  cf := some (fileOf pool1 8 #[] #[{ accessFlags := 1, nameIndex := 5, descriptorIndex := 6, attributes := #[] }, { accessFlags := 9, nameIndex := 51, descriptorIndex := 52, attributes := #[] }, { accessFlags := 10, nameIndex := 11, descriptorIndex := 12, attributes := #[] }, { accessFlags := 10, nameIndex := 32, descriptorIndex := 33, attributes := #[] }] 49 2 #[] #[])
  fields := #[]
  methods := #[k1m0, k1m1, k1m2, k1m3]
  instanceTypes := #[]
  staticTypes := #[]
  resolved := Array.replicate 60 none
  statics := none }

def pool2 : Array CpInfo := pool [(1, .class_ 2), (0, u "java/io/Serializable"), (0, .class_ 4), (0, u "java/lang/Object")] 2

/-- java/io/Serializable -/
def k2 : Class := { plain "java/io/Serializable" (some 0) with
  accessFlags := 1537
  interfaces := #[]
  cf := some (fileOf pool2 1 #[] #[] 1537 3 #[] #[])
  fields := #[]
  methods := #[]
  instanceTypes := #[]
  staticTypes := #[]
  resolved := Array.replicate 7 none
  statics := none }

def pool3 : Array CpInfo := pool [(1, .class_ 2), (0, u "java/lang/Comparable"), (0, .class_ 4), (0, u "java/lang/Object")] 7

/-- java/lang/Comparable -/
def k3 : Class := { plain "java/lang/Comparable" (some 0) with
  accessFlags := 1537
  interfaces := #[]
  cf := some (fileOf pool3 1 #[] #[] 1537 3 #[] #[])
  fields := #[]
  methods := #[]
  instanceTypes := #[]
  staticTypes := #[]
  resolved := Array.replicate 12 none
  statics := none }

def pool4 : Array CpInfo := pool [(2, .class_ 4), (1, u "java/lang/CharSequence"), (42, .class_ 48), (0, u "java/lang/CharSequence$1CodePointIterator"), (10, .class_ 60), (0, u "java/lang/CharSequence$1CharIterator"), (5, .class_ 67), (0, u "java/lang/Object")] 63

/-- java/lang/CharSequence -/
def k4 : Class := { plain "java/lang/CharSequence" (some 0) with
  accessFlags := 1537
  interfaces := #[]
  cf := some (fileOf pool4 2 #[.nestMembers #[47, 59]] #[] 1537 66 #[] #[])
  fields := #[]
  methods := #[]
  instanceTypes := #[]
  staticTypes := #[]
  resolved := Array.replicate 131 none
  statics := none }

def pool5 : Array CpInfo := pool [(1, .class_ 2), (0, u "java/lang/constant/Constable"), (0, .class_ 4), (0, u "java/lang/Object")] 6

/-- java/lang/constant/Constable -/
def k5 : Class := { plain "java/lang/constant/Constable" (some 0) with
  accessFlags := 1537
  interfaces := #[]
  cf := some (fileOf pool5 1 #[] #[] 1537 3 #[] #[])
  fields := #[]
  methods := #[]
  instanceTypes := #[]
  staticTypes := #[]
  resolved := Array.replicate 11 none
  statics := none }

def pool6 : Array CpInfo := pool [(1, .class_ 2), (0, u "java/lang/constant/ConstantDesc"), (0, .class_ 4), (0, u "java/lang/Object")] 32

/-- java/lang/constant/ConstantDesc -/
def k6 : Class := { plain "java/lang/constant/ConstantDesc" (some 0) with
  accessFlags := 1537
  interfaces := #[]
  cf := some (fileOf pool6 1 #[] #[] 1537 3 #[] #[])
  fields := #[]
  methods := #[]
  instanceTypes := #[]
  staticTypes := #[]
  resolved := Array.replicate 37 none
  statics := none }

def pool7 : Array CpInfo := pool [(1, .methodref 2 3), (0, .class_ 4), (0, .nameAndType 5 6), (0, u "java/lang/Object"), (0, u "<init>"), (0, u "()V"), (0, .string 8), (0, u ""), (0, .fieldref 10 11), (0, .class_ 12), (0, .nameAndType 13 14), (0, u "java/lang/String"), (0, u "value"), (0, u "[B"), (0, .fieldref 10 16), (0, .nameAndType 17 18), (0, u "coder"), (0, u "B"), (2, u "hash"), (0, u "I"), (2, u "hashIsZero"), (0, u "Z"), (0, .methodref 10 28), (0, .nameAndType 5 29), (0, u "([CIILjava/lang/Void;)V"), (8, .fieldref 10 39), (0, .nameAndType 40 26), (0, u "COMPACT_STRINGS"), (1, .class_ 44), (1, u "java/lang/StringUTF16"), (0, u "compress"), (1, .methodref 42 48), (0, .nameAndType 49 50), (0, u "coderFromArrayLen"), (0, u "([BI)B"), (2, u "toBytes"), (53, .class_ 109), (1, u "java/lang/StringLatin1"), (32, u "()Z"), (34, .methodref 42 178), (0, .nameAndType 45 179), (0, u "([CII)[B"), (29, .methodref 10 210), (0, .nameAndType 5 211), (0, u "([BB)V"), (122, u "()I"), (0, .methodref 10 336), (0, .nameAndType 17 337), (0, u "()B"), (25, u "([BI)C"), (5, u "(C)Z"), (21, u "(II)V"), (35, u "(I)C"), (64, .methodref 10 493), (0, .nameAndType 494 142), (0, u "isLatin1"), (0, .methodref 107 496), (0, .nameAndType 497 363), (0, u "charAt"), (3, u "checkIndex"), (5, u "length"), (67, .class_ 576), (0, u "java/lang/CharSequence"), (22, u "CASE_INSENSITIVE_ORDER"), (0, u "Ljava/util/Comparator;"), (181, u "valueOf"), (0, u "(C)Ljava/lang/String;"), (226, u "([C)V"), (4, .methodref 107 1016), (0, .nameAndType 1017 369), (0, u "canEncode"), (0, .methodref 107 1019), (0, .nameAndType 53 1020), (0, u "(C)[B"), (32, .fieldref 1054 1055), (0, .class_ 1056), (0, .nameAndType 1057 1058), (0, u "jdk/internal/util/Preconditions"), (0, u "SIOOBE_FORMATTER"), (0, u "Ljava/util/function/BiFunction;"), (0, .methodref 1054 1060), (0, .nameAndType 501 1061), (0, u "(IILjava/util/function/BiFunction;)I"), (39, u "serialPersistentFields"), (0, u "[Ljava/io/ObjectStreamField;"), (0, .class_ 1104), (0, u "java/lang/String$CaseInsensitiveComparator"), (1, .class_ 1107), (0, u "java/io/Serializable"), (0, .class_ 1109), (0, u "java/lang/Comparable"), (0, .class_ 1111), (0, u "java/lang/constant/Constable"), (0, .class_ 1113), (0, u "java/lang/constant/ConstantDesc"), (2, u "serialVersionUID"), (0, u "J"), (3, u "REPL"), (0, u "C"), (2, u "LATIN1"), (1, u "UTF16")] 323

def k7m0 : Method := { name := "<init>", desc := "()V", sig := { parameters := [], returnType := none }, accessFlags := 1, code := none }
def k7c1 : Code := { maxStack := 5, maxLocals := 2, code := jdk_42_method_3_code, exceptionTable := #[], attributes := #[] }
def k7m1 : Method := { name := "<init>", desc := "([C)V", sig := { parameters := [(.array .char)], returnType := none }, accessFlags := 1, code := some k7c1 }
def k7c2 : Code := { maxStack := 2, maxLocals := 1, code := jdk_42_method_54_code, exceptionTable := #[], attributes := #[] }
def k7m2 : Method := { name := "length", desc := "()I", sig := { parameters := [], returnType := some .int }, accessFlags := 1, code := some k7c2 }
def k7c3 : Code := { maxStack := 2, maxLocals := 2, code := jdk_42_method_56_code, exceptionTable := #[], attributes := #[] }
def k7m3 : Method := { name := "charAt", desc := "(I)C", sig := { parameters := [.int], returnType := some .char }, accessFlags := 1, code := some k7c3 }
def k7c4 : Code := { maxStack := 4, maxLocals := 1, code := jdk_42_method_139_code, exceptionTable := #[], attributes := #[] }
def k7m4 : Method := { name := "valueOf", desc := "(C)Ljava/lang/String;", sig := { parameters := [.char], returnType := some (.object "java/lang/String") }, accessFlags := 9, code := some k7c4 }
def k7c5 : Code := { maxStack := 4, maxLocals := 6, code := jdk_42_method_149_code, exceptionTable := #[], attributes := #[] }
def k7m5 : Method := { name := "<init>", desc := "([CIILjava/lang/Void;)V", sig := { parameters := [(.array .char), .int, .int, (.object "java/lang/Void")], returnType := none }, accessFlags := 2, code := some k7c5 }
def k7c6 : Code := { maxStack := 2, maxLocals := 3, code := jdk_42_method_151_code, exceptionTable := #[], attributes := #[] }
def k7m6 : Method := { name := "<init>", desc := "([BB)V", sig := { parameters := [(.array .byte), .byte], returnType := none }, accessFlags := 0, code := some k7c6 }
def k7c7 : Code := { maxStack := 1, maxLocals := 1, code := jdk_42_method_152_code, exceptionTable := #[], attributes := #[] }
def k7m7 : Method := { name := "coder", desc := "()B", sig := { parameters := [], returnType := some .byte }, accessFlags := 0, code := some k7c7 }
def k7c8 : Code := { maxStack := 1, maxLocals := 1, code := jdk_42_method_154_code, exceptionTable := #[], attributes := #[] }
def k7m8 : Method := { name := "isLatin1", desc := "()Z", sig := { parameters := [], returnType := some .boolean }, accessFlags := 0, code := some k7c8 }
def k7c9 : Code := { maxStack := 3, maxLocals := 2, code := jdk_42_method_155_code, exceptionTable := #[], attributes := #[] }
def k7m9 : Method := { name := "checkIndex", desc := "(II)V", sig := { parameters := [.int, .int], returnType := none }, accessFlags := 8, code := some k7c9 }
/-- java/lang/String -/
def k7 : Class := { plain "java/lang/String" (some 0) with
  accessFlags := 49
  interfaces := #[2, 3, 4, 5, 6]
  cf := some (fileOf pool7 10 #[.nestMembers #[1103]] #[{ accessFlags := 1, nameIndex := 5, descriptorIndex := 6, attributes := #[] }, { accessFlags := 1, nameIndex := 5, descriptorIndex := 1010, attributes := #[] }, { accessFlags := 1, nameIndex := 507, descriptorIndex := 334, attributes := #[] }, { accessFlags := 1, nameIndex := 497, descriptorIndex := 427, attributes := #[] }, { accessFlags := 9, nameIndex := 782, descriptorIndex := 783, attributes := #[] }, { accessFlags := 2, nameIndex := 5, descriptorIndex := 29, attributes := #[] }, { accessFlags := 0, nameIndex := 5, descriptorIndex := 211, attributes := #[] }, { accessFlags := 0, nameIndex := 17, descriptorIndex := 337, attributes := #[] }, { accessFlags := 0, nameIndex := 494, descriptorIndex := 142, attributes := #[] }, { accessFlags := 8, nameIndex := 501, descriptorIndex := 391, attributes := #[] }] 49 2 #[1106, 1108, 575, 1110, 1112] #[{ accessFlags := 18, nameIndex := 13, descriptorIndex := 14, attributes := #[] }, { accessFlags := 18, nameIndex := 17, descriptorIndex := 18, attributes := #[] }, { accessFlags := 2, nameIndex := 21, descriptorIndex := 22, attributes := #[] }, { accessFlags := 2, nameIndex := 25, descriptorIndex := 26, attributes := #[] }, { accessFlags := 26, nameIndex := 1116, descriptorIndex := 1117, attributes := #[] }, { accessFlags := 24, nameIndex := 40, descriptorIndex := 26, attributes := #[] }, { accessFlags := 26, nameIndex := 1101, descriptorIndex := 1102, attributes := #[] }, { accessFlags := 26, nameIndex := 1121, descriptorIndex := 1122, attributes := #[] }, { accessFlags := 25, nameIndex := 599, descriptorIndex := 600, attributes := #[] }, { accessFlags := 24, nameIndex := 1125, descriptorIndex := 18, attributes := #[] }, { accessFlags := 24, nameIndex := 1127, descriptorIndex := 18, attributes := #[] }])
  fields := #[{ name := "value", type := (.array .byte), accessFlags := 18, slot := 0, constantValue := 0 }, { name := "coder", type := .byte, accessFlags := 18, slot := 1, constantValue := 0 }, { name := "hash", type := .int, accessFlags := 2, slot := 2, constantValue := 0 }, { name := "hashIsZero", type := .boolean, accessFlags := 2, slot := 3, constantValue := 0 }, { name := "serialVersionUID", type := .long, accessFlags := 26, slot := 0, constantValue := 0 }, { name := "COMPACT_STRINGS", type := .boolean, accessFlags := 24, slot := 1, constantValue := 0 }, { name := "serialPersistentFields", type := (.array (.object "java/io/ObjectStreamField")), accessFlags := 26, slot := 2, constantValue := 0 }, { name := "REPL", type := .char, accessFlags := 26, slot := 3, constantValue := 0 }, { name := "CASE_INSENSITIVE_ORDER", type := (.object "java/util/Comparator"), accessFlags := 25, slot := 4, constantValue := 0 }, { name := "LATIN1", type := .byte, accessFlags := 24, slot := 5, constantValue := 0 }, { name := "UTF16", type := .byte, accessFlags := 24, slot := 6, constantValue := 0 }]
  methods := #[k7m0, k7m1, k7m2, k7m3, k7m4, k7m5, k7m6, k7m7, k7m8, k7m9]
  instanceTypes := #[(.array .byte), .byte, .int, .boolean]
  staticTypes := #[.long, .boolean, (.array (.object "java/io/ObjectStreamField")), .char, (.object "java/util/Comparator"), .byte, .byte]
  resolved := Array.replicate 1451 none
  statics := some 0 }

def pool8 : Array CpInfo := pool [(1, .methodref 2 3), (0, .class_ 4), (0, .nameAndType 5 6), (0, u "java/lang/Object"), (0, u "<init>"), (0, u "()V"), (0, .fieldref 8 9), (0, .class_ 10), (0, .nameAndType 11 12), (0, u "com/example/catchment/catchment/linkage/EditDistance"), (0, u "value"), (0, u "Ljava/lang/String;"), (0, .fieldref 8 14), (0, .nameAndType 15 16), (0, u "limit"), (0, u "I"), (0, .fieldref 8 18), (0, .nameAndType 19 16), (0, u "over"), (0, .fieldref 8 21), (0, .nameAndType 22 16), (0, u "width"), (0, .methodref 24 25), (0, .class_ 26), (0, .nameAndType 27 28), (0, u "java/lang/String"), (0, u "length"), (0, u "()I"), (0, .fieldref 8 30), (0, .nameAndType 31 32), (0, u "typed"), (0, u "[C"), (0, .fieldref 8 34), (0, .nameAndType 35 36), (0, u "band"), (0, u "[I"), (1, .class_ 40), (1, u "java/lang/Math"), (18, .methodref 38 60), (0, .nameAndType 61 62), (0, u "min"), (0, u "(II)I"), (13, u "FIRST_ERRORS"), (0, u "[[I"), (0, .methodref 24 79), (0, .nameAndType 80 81), (0, u "charAt"), (0, u "(I)C"), (2, u "(Ljava/lang/String;I)V"), (2, u "type"), (0, u "(C)V"), (2, u "beyond"), (0, u "()Z"), (3, .fieldref 8 97), (0, .nameAndType 27 16), (0, .methodref 99 100), (0, .class_ 101), (0, .nameAndType 102 103), (0, u "java/util/Arrays"), (0, u "copyOf"), (0, u "([CI)[C"), (0, .methodref 99 105), (0, .nameAndType 102 106), (0, u "([II)[I"), (0, .methodref 38 108), (0, .nameAndType 109 62), (0, u "max"), (15, u "eraseTo"), (0, u "(I)V")] 20

def k8c0 : Code := { maxStack := 4, maxLocals := 5, code := prog_23_method_1_code, exceptionTable := #[], attributes := #[] }
def k8m0 : Method := { name := "<init>", desc := "(Ljava/lang/String;I)V", sig := { parameters := [(.object "java/lang/String"), .int], returnType := none }, accessFlags := 0, code := some k8c0 }
def k8c1 : Code := { maxStack := 5, maxLocals := 10, code := prog_23_method_9_code, exceptionTable := #[], attributes := #[] }
def k8m1 : Method := { name := "type", desc := "(C)V", sig := { parameters := [.char], returnType := none }, accessFlags := 0, code := some k8c1 }
def k8c2 : Code := { maxStack := 4, maxLocals := 2, code := prog_23_method_10_code, exceptionTable := #[], attributes := #[] }
def k8m2 : Method := { name := "eraseTo", desc := "(I)V", sig := { parameters := [.int], returnType := none }, accessFlags := 0, code := some k8c2 }
def k8c3 : Code := { maxStack := 3, maxLocals := 3, code := prog_23_method_12_code, exceptionTable := #[], attributes := #[] }
def k8m3 : Method := { name := "beyond", desc := "()Z", sig := { parameters := [], returnType := some .boolean }, accessFlags := 0, code := some k8c3 }
/-- com/example/catchment/catchment/linkage/EditDistance -/
def k8 : Class := { plain "com/example/catchment/catchment/linkage/EditDistance" (some 0) with
  accessFlags := 48
  interfaces := #[]
  cf := some (fileOf pool8 8 #[] #[{ accessFlags := 0, nameIndex := 5, descriptorIndex := 84, attributes := #[] }, { accessFlags := 0, nameIndex := 87, descriptorIndex := 88, attributes := #[] }, { accessFlags := 0, nameIndex := 125, descriptorIndex := 126, attributes := #[] }, { accessFlags := 0, nameIndex := 91, descriptorIndex := 92, attributes := #[] }] 48 2 #[] #[{ accessFlags := 26, nameIndex := 76, descriptorIndex := 77, attributes := #[] }, { accessFlags := 18, nameIndex := 11, descriptorIndex := 12, attributes := #[] }, { accessFlags := 18, nameIndex := 15, descriptorIndex := 16, attributes := #[] }, { accessFlags := 18, nameIndex := 19, descriptorIndex := 16, attributes := #[] }, { accessFlags := 18, nameIndex := 22, descriptorIndex := 16, attributes := #[] }, { accessFlags := 2, nameIndex := 35, descriptorIndex := 36, attributes := #[] }, { accessFlags := 2, nameIndex := 31, descriptorIndex := 32, attributes := #[] }, { accessFlags := 2, nameIndex := 27, descriptorIndex := 16, attributes := #[] }])
  fields := #[{ name := "FIRST_ERRORS", type := (.array (.array .int)), accessFlags := 26, slot := 0, constantValue := 0 }, { name := "value", type := (.object "java/lang/String"), accessFlags := 18, slot := 0, constantValue := 0 }, { name := "limit", type := .int, accessFlags := 18, slot := 1, constantValue := 0 }, { name := "over", type := .int, accessFlags := 18, slot := 2, constantValue := 0 }, { name := "width", type := .int, accessFlags := 18, slot := 3, constantValue := 0 }, { name := "band", type := (.array .int), accessFlags := 2, slot := 4, constantValue := 0 }, { name := "typed", type := (.array .char), accessFlags := 2, slot := 5, constantValue := 0 }, { name := "length", type := .int, accessFlags := 2, slot := 6, constantValue := 0 }]
  methods := #[k8m0, k8m1, k8m2, k8m3]
  instanceTypes := #[(.object "java/lang/String"), .int, .int, .int, (.array .int), (.array .char), .int]
  staticTypes := #[(.array (.array .int))]
  resolved := Array.replicate 147 none
  statics := none }

def pool9 : Array CpInfo := pool [(1, .class_ 2), (0, u "java/lang/Math"), (1, .class_ 6), (1, u "java/lang/Object"), (0, u "<init>"), (0, u "()V"), (89, .class_ 100), (1, u "java/lang/Math$RandomNumberGeneratorHolder"), (71, u "negativeZeroFloatBits"), (0, u "J"), (2, u "negativeZeroDoubleBits"), (21, u "max"), (2, u "min"), (43, u "$assertionsDisabled"), (0, u "Z"), (88, u "(II)I"), (2, u "twoToTheDoubleScaleDown"), (0, u "D"), (4, u "twoToTheDoubleScaleUp"), (9, u "E"), (3, u "PI"), (2, u "TAU"), (2, u "DEGREES_TO_RADIANS"), (0, u "RADIANS_TO_DEGREES")] 94

def k9m0 : Method := { name := "<init>", desc := "()V", sig := { parameters := [], returnType := none }, accessFlags := 2, code := none }
def k9c1 : Code := { maxStack := 2, maxLocals := 2, code := jdk_29_method_65_code, exceptionTable := #[], attributes := #[] }
def k9m1 : Method := { name := "max", desc := "(II)I", sig := { parameters := [.int, .int], returnType := some .int }, accessFlags := 9, code := some k9c1 }
def k9c2 : Code := { maxStack := 2, maxLocals := 2, code := jdk_29_method_69_code, exceptionTable := #[], attributes := #[] }
def k9m2 : Method := { name := "min", desc := "(II)I", sig := { parameters := [.int, .int], returnType := some .int }, accessFlags := 9, code := some k9c2 }
/-- java/lang/Math -/
def k9 : Class := { plain "java/lang/Math" (some 0) with
  accessFlags := 49
  interfaces := #[]
  cf := some (fileOf pool9 1 #[.nestMembers #[98]] #[{ accessFlags := 2, nameIndex := 7, descriptorIndex := 8, attributes := #[] }, { accessFlags := 9, nameIndex := 198, descriptorIndex := 335, attributes := #[] }, { accessFlags := 9, nameIndex := 201, descriptorIndex := 335, attributes := #[] }] 49 4 #[] #[{ accessFlags := 25, nameIndex := 354, descriptorIndex := 339, attributes := #[] }, { accessFlags := 25, nameIndex := 358, descriptorIndex := 339, attributes := #[] }, { accessFlags := 25, nameIndex := 361, descriptorIndex := 339, attributes := #[] }, { accessFlags := 26, nameIndex := 364, descriptorIndex := 339, attributes := #[] }, { accessFlags := 26, nameIndex := 365, descriptorIndex := 339, attributes := #[] }, { accessFlags := 26, nameIndex := 172, descriptorIndex := 173, attributes := #[] }, { accessFlags := 26, nameIndex := 176, descriptorIndex := 173, attributes := #[] }, { accessFlags := 8, nameIndex := 344, descriptorIndex := 339, attributes := #[] }, { accessFlags := 8, nameIndex := 338, descriptorIndex := 339, attributes := #[] }, { accessFlags := 4120, nameIndex := 245, descriptorIndex := 246, attributes := #[] }])
  fields := #[{ name := "E", type := .double, accessFlags := 25, slot := 0, constantValue := 0 }, { name := "PI", type := .double, accessFlags := 25, slot := 1, constantValue := 0 }, { name := "TAU", type := .double, accessFlags := 25, slot := 2, constantValue := 0 }, { name := "DEGREES_TO_RADIANS", type := .double, accessFlags := 26, slot := 3, constantValue := 0 }, { name := "RADIANS_TO_DEGREES", type := .double, accessFlags := 26, slot := 4, constantValue := 0 }, { name := "negativeZeroFloatBits", type := .long, accessFlags := 26, slot := 5, constantValue := 0 }, { name := "negativeZeroDoubleBits", type := .long, accessFlags := 26, slot := 6, constantValue := 0 }, { name := "twoToTheDoubleScaleUp", type := .double, accessFlags := 8, slot := 7, constantValue := 0 }, { name := "twoToTheDoubleScaleDown", type := .double, accessFlags := 8, slot := 8, constantValue := 0 }, { name := "$assertionsDisabled", type := .boolean, accessFlags := 4120, slot := 9, constantValue := 0 }]
  methods := #[k9m0, k9m1, k9m2]
  instanceTypes := #[]
  staticTypes := #[.double, .double, .double, .double, .double, .long, .long, .double, .double, .boolean]
  resolved := Array.replicate 460 none
  statics := none }

def pool10 : Array CpInfo := pool [(6, .class_ 8), (1, u "java/lang/Object"), (0, u "<init>"), (0, u "()V"), (1, .class_ 14), (1, u "java/lang/StringUTF16"), (31, u "$assertionsDisabled"), (0, u "Z"), (13, u "HI_BYTE_SHIFT"), (0, u "I"), (2, u "LO_BYTE_SHIFT"), (49, .methodref 12 116), (0, .nameAndType 117 118), (0, u "compress"), (0, u "([CI[BII)I"), (3, u "([CII)[B"), (138, u "coderFromArrayLen"), (0, u "([BI)B"), (106, .class_ 371), (1, u "java/lang/StringUTF16$LinesSpliterator"), (58, u "MAX_LENGTH"), (196, .class_ 628), (0, u "java/lang/StringUTF16$CodePointsSpliterator"), (0, .class_ 630), (0, u "java/lang/StringUTF16$CharsSpliterator")] 4

def k10m0 : Method := { name := "<init>", desc := "()V", sig := { parameters := [], returnType := none }, accessFlags := 0, code := none }
def k10c1 : Code := { maxStack := 2, maxLocals := 2, code := jdk_52_method_15_code, exceptionTable := #[], attributes := #[] }
def k10m1 : Method := { name := "coderFromArrayLen", desc := "([BI)B", sig := { parameters := [(.array .byte), .int], returnType := some .byte }, accessFlags := 8, code := some k10c1 }
def k10c2 : Code := { maxStack := 5, maxLocals := 6, code := jdk_52_method_16_code, exceptionTable := #[], attributes := #[] }
def k10m2 : Method := { name := "compress", desc := "([CII)[B", sig := { parameters := [(.array .char), .int, .int], returnType := some (.array .byte) }, accessFlags := 9, code := some k10c2 }
def k10c3 : Code := { maxStack := 3, maxLocals := 7, code := jdk_52_method_21_code, exceptionTable := #[], attributes := #[] }
def k10m3 : Method := { name := "compress", desc := "([CI[BII)I", sig := { parameters := [(.array .char), .int, (.array .byte), .int, .int], returnType := some .int }, accessFlags := 9, code := some k10c3 }
/-- java/lang/StringUTF16 -/
def k10 : Class := { plain "java/lang/StringUTF16" (some 0) with
  accessFlags := 48
  interfaces := #[]
  cf := some (fileOf pool10 12 #[.nestMembers #[627, 629, 369]] #[{ accessFlags := 0, nameIndex := 9, descriptorIndex := 10, attributes := #[] }, { accessFlags := 8, nameIndex := 261, descriptorIndex := 262, attributes := #[] }, { accessFlags := 9, nameIndex := 117, descriptorIndex := 122, attributes := #[] }, { accessFlags := 9, nameIndex := 117, descriptorIndex := 118, attributes := #[] }] 48 6 #[] #[{ accessFlags := 26, nameIndex := 61, descriptorIndex := 62, attributes := #[] }, { accessFlags := 26, nameIndex := 65, descriptorIndex := 62, attributes := #[] }, { accessFlags := 24, nameIndex := 430, descriptorIndex := 62, attributes := #[] }, { accessFlags := 4120, nameIndex := 46, descriptorIndex := 47, attributes := #[] }])
  fields := #[{ name := "HI_BYTE_SHIFT", type := .int, accessFlags := 26, slot := 0, constantValue := 0 }, { name := "LO_BYTE_SHIFT", type := .int, accessFlags := 26, slot := 1, constantValue := 0 }, { name := "MAX_LENGTH", type := .int, accessFlags := 24, slot := 2, constantValue := 0 }, { name := "$assertionsDisabled", type := .boolean, accessFlags := 4120, slot := 3, constantValue := 0 }]
  methods := #[k10m0, k10m1, k10m2, k10m3]
  instanceTypes := #[]
  staticTypes := #[.int, .int, .int, .boolean]
  resolved := Array.replicate 635 none
  statics := none }

def pool11 : Array CpInfo := pool [(1, .class_ 2), (0, u "java/lang/String"), (1, .class_ 6), (1, u "java/lang/Object"), (0, u "<init>"), (0, u "()V"), (0, .methodref 1 10), (0, .nameAndType 11 12), (0, u "checkIndex"), (0, u "(II)V"), (1, .class_ 16), (1, u "java/lang/StringLatin1"), (36, u "([BI)C"), (36, u "canEncode"), (14, u "(C)Z"), (15, u "$assertionsDisabled"), (0, u "Z"), (98, .class_ 223), (1, u "java/lang/StringLatin1$LinesSpliterator"), (28, u "charAt"), (127, u "toBytes"), (1, u "(C)[B"), (7, .class_ 391), (0, u "java/lang/StringLatin1$CharsSpliterator")] 3

def k11m0 : Method := { name := "<init>", desc := "()V", sig := { parameters := [], returnType := none }, accessFlags := 0, code := none }
def k11c1 : Code := { maxStack := 2, maxLocals := 2, code := jdk_43_method_2_code, exceptionTable := #[], attributes := #[] }
def k11m1 : Method := { name := "charAt", desc := "([BI)C", sig := { parameters := [(.array .byte), .int], returnType := some .char }, accessFlags := 9, code := some k11c1 }
def k11c2 : Code := { maxStack := 2, maxLocals := 1, code := jdk_43_method_3_code, exceptionTable := #[], attributes := #[] }
def k11m2 : Method := { name := "canEncode", desc := "(C)Z", sig := { parameters := [.char], returnType := some .boolean }, accessFlags := 9, code := some k11c2 }
def k11c3 : Code := { maxStack := 4, maxLocals := 1, code := jdk_43_method_46_code, exceptionTable := #[], attributes := #[] }
def k11m3 : Method := { name := "toBytes", desc := "(C)[B", sig := { parameters := [.char], returnType := some (.array .byte) }, accessFlags := 9, code := some k11c3 }
/-- java/lang/StringLatin1 -/
def k11 : Class := { plain "java/lang/StringLatin1" (some 0) with
  accessFlags := 48
  interfaces := #[]
  cf := some (fileOf pool11 14 #[.nestMembers #[390, 221]] #[{ accessFlags := 0, nameIndex := 7, descriptorIndex := 8, attributes := #[] }, { accessFlags := 9, nameIndex := 252, descriptorIndex := 53, attributes := #[] }, { accessFlags := 9, nameIndex := 90, descriptorIndex := 105, attributes := #[] }, { accessFlags := 9, nameIndex := 380, descriptorIndex := 382, attributes := #[] }] 48 4 #[] #[{ accessFlags := 4120, nameIndex := 121, descriptorIndex := 122, attributes := #[] }])
  fields := #[{ name := "$assertionsDisabled", type := .boolean, accessFlags := 4120, slot := 0, constantValue := 0 }]
  methods := #[k11m0, k11m1, k11m2, k11m3]
  instanceTypes := #[]
  staticTypes := #[.boolean]
  resolved := Array.replicate 395 none
  statics := none }

def pool12 : Array CpInfo := pool [(2, .class_ 4), (1, u "java/lang/Object"), (0, u "<init>"), (0, u "()V"), (17, .class_ 26), (1, u "jdk/internal/util/Preconditions"), (6, u "checkIndex"), (21, .class_ 56), (0, u "jdk/internal/util/Preconditions$4"), (57, .class_ 115), (0, u "jdk/internal/util/Preconditions$1"), (7, u "SIOOBE_FORMATTER"), (0, u "Ljava/util/function/BiFunction;"), (0, .class_ 126), (0, u "jdk/internal/util/Preconditions$2"), (3, u "AIOOBE_FORMATTER"), (0, .class_ 132), (0, u "jdk/internal/util/Preconditions$3"), (3, u "IOOBE_FORMATTER"), (41, u "(IILjava/util/function/BiFunction;)I")] 15

def k12m0 : Method := { name := "<init>", desc := "()V", sig := { parameters := [], returnType := none }, accessFlags := 1, code := none }
def k12c1 : Code := { maxStack := 3, maxLocals := 3, code := jdk_41_method_11_code, exceptionTable := #[], attributes := #[] }
def k12m1 : Method := { name := "checkIndex", desc := "(IILjava/util/function/BiFunction;)I", sig := { parameters := [.int, .int, (.object "java/util/function/BiFunction")], returnType := some .int }, accessFlags := 9, code := some k12c1 }
/-- jdk/internal/util/Preconditions -/
def k12 : Class := { plain "jdk/internal/util/Preconditions" (some 0) with
  accessFlags := 33
  interfaces := #[]
  cf := some (fileOf pool12 24 #[.nestMembers #[55, 131, 125, 114]] #[{ accessFlags := 1, nameIndex := 5, descriptorIndex := 6, attributes := #[] }, { accessFlags := 9, nameIndex := 33, descriptorIndex := 178, attributes := #[] }] 33 2 #[] #[{ accessFlags := 25, nameIndex := 123, descriptorIndex := 124, attributes := #[] }, { accessFlags := 25, nameIndex := 130, descriptorIndex := 124, attributes := #[] }, { accessFlags := 25, nameIndex := 136, descriptorIndex := 124, attributes := #[] }])
  fields := #[{ name := "SIOOBE_FORMATTER", type := (.object "java/util/function/BiFunction"), accessFlags := 25, slot := 0, constantValue := 0 }, { name := "AIOOBE_FORMATTER", type := (.object "java/util/function/BiFunction"), accessFlags := 25, slot := 1, constantValue := 0 }, { name := "IOOBE_FORMATTER", type := (.object "java/util/function/BiFunction"), accessFlags := 25, slot := 2, constantValue := 0 }]
  methods := #[k12m0, k12m1]
  instanceTypes := #[]
  staticTypes := #[(.object "java/util/function/BiFunction"), (.object "java/util/function/BiFunction"), (.object "java/util/function/BiFunction")]
  resolved := Array.replicate 194 none
  statics := some 1 }

def pool13 : Array CpInfo := pool [(2, .class_ 4), (1, u "java/lang/Object"), (0, u "<init>"), (0, u "()V"), (7, .class_ 16), (1, u "java/util/Arrays"), (57, .class_ 76), (1, u "java/util/Arrays$NaturalOrder"), (36, .class_ 115), (1, u "java/util/Arrays$LegacyMergeSort"), (1, u "Z"), (32, .methodref 151 152), (0, .class_ 153), (0, .nameAndType 154 155), (0, u "java/lang/System"), (0, u "arraycopy"), (0, u "(Ljava/lang/Object;ILjava/lang/Object;II)V"), (146, u "copyOf"), (1, .methodref 305 306), (0, .class_ 307), (0, .nameAndType 308 309), (0, u "java/lang/Math"), (0, u "min"), (0, u "(II)I"), (65, .class_ 376), (0, u "java/util/Arrays$ArrayList"), (68, u "$assertionsDisabled"), (269, u "MIN_ARRAY_SORT_GRAN"), (0, u "I"), (2, u "INSERTIONSORT_THRESHOLD"), (151, u "([II)[I"), (1, u "([CI)[C"), (101, .class_ 976), (0, u "java/util/Arrays$ArrayItr")] 52

def k13m0 : Method := { name := "<init>", desc := "()V", sig := { parameters := [], returnType := none }, accessFlags := 2, code := none }
def k13c1 : Code := { maxStack := 6, maxLocals := 3, code := jdk_65_method_123_code, exceptionTable := #[], attributes := #[] }
def k13m1 : Method := { name := "copyOf", desc := "([II)[I", sig := { parameters := [(.array .int), .int], returnType := some (.array .int) }, accessFlags := 9, code := some k13c1 }
def k13c2 : Code := { maxStack := 6, maxLocals := 3, code := jdk_65_method_125_code, exceptionTable := #[], attributes := #[] }
def k13m2 : Method := { name := "copyOf", desc := "([CI)[C", sig := { parameters := [(.array .char), .int], returnType := some (.array .char) }, accessFlags := 9, code := some k13c2 }
/-- java/util/Arrays -/
def k13 : Class := { plain "java/util/Arrays" (some 0) with
  accessFlags := 49
  interfaces := #[]
  cf := some (fileOf pool13 14 #[.nestMembers #[975, 375, 113, 74]] #[{ accessFlags := 2, nameIndex := 5, descriptorIndex := 6, attributes := #[] }, { accessFlags := 9, nameIndex := 302, descriptorIndex := 871, attributes := #[] }, { accessFlags := 9, nameIndex := 302, descriptorIndex := 873, attributes := #[] }] 49 2 #[] #[{ accessFlags := 26, nameIndex := 715, descriptorIndex := 716, attributes := #[] }, { accessFlags := 26, nameIndex := 719, descriptorIndex := 716, attributes := #[] }, { accessFlags := 4120, nameIndex := 445, descriptorIndex := 117, attributes := #[] }])
  fields := #[{ name := "MIN_ARRAY_SORT_GRAN", type := .int, accessFlags := 26, slot := 0, constantValue := 0 }, { name := "INSERTIONSORT_THRESHOLD", type := .int, accessFlags := 26, slot := 1, constantValue := 0 }, { name := "$assertionsDisabled", type := .boolean, accessFlags := 4120, slot := 2, constantValue := 0 }]
  methods := #[k13m0, k13m1, k13m2]
  instanceTypes := #[]
  staticTypes := #[.int, .int, .boolean]
  resolved := Array.replicate 1029 none
  statics := none }

def pool14 : Array CpInfo := pool [(2, .class_ 4), (1, u "java/lang/Object"), (0, u "<init>"), (0, u "()V"), (1, .class_ 10), (1, u "java/lang/System"), (0, u "allowSecurityManager"), (0, u "I"), (16, u "cons"), (0, u "Ljava/io/Console;"), (77, .class_ 110), (1, u "java/lang/System$CallersHolder"), (43, u "initialErrStream"), (0, u "Ljava/io/PrintStream;"), (19, u "security"), (0, u "Ljava/lang/SecurityManager;"), (31, .class_ 209), (0, u "java/lang/System$1"), (7, u "props"), (0, u "Ljava/util/Properties;"), (2, u "lineSeparator"), (0, u "Ljava/lang/String;"), (96, .class_ 321), (1, u "java/lang/System$LoggerFinder"), (5, .class_ 328), (0, u "java/lang/System$Logger"), (67, u "err"), (2, u "out"), (91, u "notSupportedJnuEncoding"), (15, u "in"), (17, u "initialIn"), (0, u "Ljava/io/InputStream;"), (35, u "bootLayer"), (0, u "Ljava/lang/ModuleLayer;"), (99, .class_ 664), (0, u "java/lang/System$2"), (9, u "NEVER"), (2, u "MAYBE"), (49, u "arraycopy"), (0, u "(Ljava/lang/Object;ILjava/lang/Object;II)V"), (72, .class_ 802), (0, u "java/lang/System$Logger$Level")] 31

def k14m0 : Method := { name := "<init>", desc := "()V", sig := { parameters := [], returnType := none }, accessFlags := 2, code := none }
def k14m1 : Method := { name := "arraycopy", desc := "(Ljava/lang/Object;ILjava/lang/Object;II)V", sig := { parameters := [(.object "java/lang/Object"), .int, (.object "java/lang/Object"), .int, .int], returnType := none }, accessFlags := 265, code := none }
/-- java/lang/System -/
def k14 : Class := { plain "java/lang/System" (some 0) with
  accessFlags := 49
  interfaces := #[]
  cf := some (fileOf pool14 8 #[.nestMembers #[319, 327, 801, 108, 663, 208]] #[{ accessFlags := 2, nameIndex := 5, descriptorIndex := 6, attributes := #[] }, { accessFlags := 265, nameIndex := 727, descriptorIndex := 728, attributes := #[] }] 49 2 #[] #[{ accessFlags := 25, nameIndex := 507, descriptorIndex := 526, attributes := #[] }, { accessFlags := 25, nameIndex := 399, descriptorIndex := 155, attributes := #[] }, { accessFlags := 25, nameIndex := 396, descriptorIndex := 155, attributes := #[] }, { accessFlags := 10, nameIndex := 525, descriptorIndex := 526, attributes := #[] }, { accessFlags := 26, nameIndex := 674, descriptorIndex := 12, attributes := #[] }, { accessFlags := 26, nameIndex := 677, descriptorIndex := 12, attributes := #[] }, { accessFlags := 10, nameIndex := 11, descriptorIndex := 12, attributes := #[] }, { accessFlags := 74, nameIndex := 175, descriptorIndex := 176, attributes := #[] }, { accessFlags := 10, nameIndex := 491, descriptorIndex := 222, attributes := #[] }, { accessFlags := 74, nameIndex := 29, descriptorIndex := 30, attributes := #[] }, { accessFlags := 74, nameIndex := 154, descriptorIndex := 155, attributes := #[] }, { accessFlags := 10, nameIndex := 217, descriptorIndex := 218, attributes := #[] }, { accessFlags := 10, nameIndex := 221, descriptorIndex := 222, attributes := #[] }, { accessFlags := 8, nameIndex := 562, descriptorIndex := 563, attributes := #[] }])
  fields := #[{ name := "in", type := (.object "java/io/InputStream"), accessFlags := 25, slot := 0, constantValue := 0 }, { name := "out", type := (.object "java/io/PrintStream"), accessFlags := 25, slot := 1, constantValue := 0 }, { name := "err", type := (.object "java/io/PrintStream"), accessFlags := 25, slot := 2, constantValue := 0 }, { name := "initialIn", type := (.object "java/io/InputStream"), accessFlags := 10, slot := 3, constantValue := 0 }, { name := "NEVER", type := .int, accessFlags := 26, slot := 4, constantValue := 0 }, { name := "MAYBE", type := .int, accessFlags := 26, slot := 5, constantValue := 0 }, { name := "allowSecurityManager", type := .int, accessFlags := 10, slot := 6, constantValue := 0 }, { name := "security", type := (.object "java/lang/SecurityManager"), accessFlags := 74, slot := 7, constantValue := 0 }, { name := "notSupportedJnuEncoding", type := (.object "java/lang/String"), accessFlags := 10, slot := 8, constantValue := 0 }, { name := "cons", type := (.object "java/io/Console"), accessFlags := 74, slot := 9, constantValue := 0 }, { name := "initialErrStream", type := (.object "java/io/PrintStream"), accessFlags := 74, slot := 10, constantValue := 0 }, { name := "props", type := (.object "java/util/Properties"), accessFlags := 10, slot := 11, constantValue := 0 }, { name := "lineSeparator", type := (.object "java/lang/String"), accessFlags := 10, slot := 12, constantValue := 0 }, { name := "bootLayer", type := (.object "java/lang/ModuleLayer"), accessFlags := 8, slot := 13, constantValue := 0 }]
  methods := #[k14m0, k14m1]
  instanceTypes := #[]
  staticTypes := #[(.object "java/io/InputStream"), (.object "java/io/PrintStream"), (.object "java/io/PrintStream"), (.object "java/io/InputStream"), .int, .int, .int, (.object "java/lang/SecurityManager"), (.object "java/lang/String"), (.object "java/io/Console"), (.object "java/io/PrintStream"), (.object "java/util/Properties"), (.object "java/lang/String"), (.object "java/lang/ModuleLayer")]
  resolved := Array.replicate 834 none
  statics := none }

def pool15 : Array CpInfo := pool [(9, u "<init>"), (6, .class_ 18), (1, u "java/lang/Object"), (0, u "()V"), (1, .class_ 23), (1, u "jdk/internal/util/ArraysSupport"), (0, u "LOG2_ARRAY_LONG_INDEX_SCALE"), (0, u "I"), (2, u "U"), (0, u "Ljdk/internal/misc/Unsafe;"), (8, u "BIG_ENDIAN"), (0, u "Z"), (8, u "LOG2_BYTE_BIT_SIZE"), (4, u "LOG2_ARRAY_INT_INDEX_SCALE"), (54, u "JLA"), (0, u "Ljdk/internal/access/JavaLangAccess;"), (11, u "LOG2_ARRAY_BOOLEAN_INDEX_SCALE"), (9, u "LOG2_ARRAY_BYTE_INDEX_SCALE"), (5, u "LOG2_ARRAY_CHAR_INDEX_SCALE"), (5, u "LOG2_ARRAY_SHORT_INDEX_SCALE"), (18, u "LOG2_ARRAY_FLOAT_INDEX_SCALE"), (24, u "LOG2_ARRAY_DOUBLE_INDEX_SCALE"), (89, u "T_BOOLEAN"), (2, u "T_CHAR"), (1, u "T_FLOAT"), (1, u "T_DOUBLE"), (1, u "T_BYTE"), (1, u "T_SHORT"), (1, u "T_INT"), (1, u "T_LONG"), (1, u "SOFT_MAX_ARRAY_LENGTH")] 83

def k15m0 : Method := { name := "<init>", desc := "()V", sig := { parameters := [], returnType := none }, accessFlags := 2, code := none }
/-- jdk/internal/util/ArraysSupport -/
def k15 : Class := { plain "jdk/internal/util/ArraysSupport" (some 0) with
  accessFlags := 33
  interfaces := #[]
  cf := some (fileOf pool15 21 #[] #[{ accessFlags := 2, nameIndex := 9, descriptorIndex := 19, attributes := #[] }] 33 16 #[] #[{ accessFlags := 24, nameIndex := 28, descriptorIndex := 29, attributes := #[] }, { accessFlags := 26, nameIndex := 38, descriptorIndex := 39, attributes := #[] }, { accessFlags := 25, nameIndex := 121, descriptorIndex := 25, attributes := #[] }, { accessFlags := 25, nameIndex := 131, descriptorIndex := 25, attributes := #[] }, { accessFlags := 25, nameIndex := 137, descriptorIndex := 25, attributes := #[] }, { accessFlags := 25, nameIndex := 143, descriptorIndex := 25, attributes := #[] }, { accessFlags := 25, nameIndex := 53, descriptorIndex := 25, attributes := #[] }, { accessFlags := 25, nameIndex := 24, descriptorIndex := 25, attributes := #[] }, { accessFlags := 25, nameIndex := 162, descriptorIndex := 25, attributes := #[] }, { accessFlags := 25, nameIndex := 187, descriptorIndex := 25, attributes := #[] }, { accessFlags := 26, nameIndex := 48, descriptorIndex := 25, attributes := #[] }, { accessFlags := 25, nameIndex := 277, descriptorIndex := 25, attributes := #[] }, { accessFlags := 25, nameIndex := 280, descriptorIndex := 25, attributes := #[] }, { accessFlags := 25, nameIndex := 282, descriptorIndex := 25, attributes := #[] }, { accessFlags := 25, nameIndex := 284, descriptorIndex := 25, attributes := #[] }, { accessFlags := 25, nameIndex := 286, descriptorIndex := 25, attributes := #[] }, { accessFlags := 25, nameIndex := 288, descriptorIndex := 25, attributes := #[] }, { accessFlags := 25, nameIndex := 290, descriptorIndex := 25, attributes := #[] }, { accessFlags := 25, nameIndex := 292, descriptorIndex := 25, attributes := #[] }, { accessFlags := 26, nameIndex := 108, descriptorIndex := 109, attributes := #[] }, { accessFlags := 25, nameIndex := 294, descriptorIndex := 25, attributes := #[] }])
  fields := #[{ name := "U", type := (.object "jdk/internal/misc/Unsafe"), accessFlags := 24, slot := 0, constantValue := 0 }, { name := "BIG_ENDIAN", type := .boolean, accessFlags := 26, slot := 1, constantValue := 0 }, { name := "LOG2_ARRAY_BOOLEAN_INDEX_SCALE", type := .int, accessFlags := 25, slot := 2, constantValue := 0 }, { name := "LOG2_ARRAY_BYTE_INDEX_SCALE", type := .int, accessFlags := 25, slot := 3, constantValue := 0 }, { name := "LOG2_ARRAY_CHAR_INDEX_SCALE", type := .int, accessFlags := 25, slot := 4, constantValue := 0 }, { name := "LOG2_ARRAY_SHORT_INDEX_SCALE", type := .int, accessFlags := 25, slot := 5, constantValue := 0 }, { name := "LOG2_ARRAY_INT_INDEX_SCALE", type := .int, accessFlags := 25, slot := 6, constantValue := 0 }, { name := "LOG2_ARRAY_LONG_INDEX_SCALE", type := .int, accessFlags := 25, slot := 7, constantValue := 0 }, { name := "LOG2_ARRAY_FLOAT_INDEX_SCALE", type := .int, accessFlags := 25, slot := 8, constantValue := 0 }, { name := "LOG2_ARRAY_DOUBLE_INDEX_SCALE", type := .int, accessFlags := 25, slot := 9, constantValue := 0 }, { name := "LOG2_BYTE_BIT_SIZE", type := .int, accessFlags := 26, slot := 10, constantValue := 0 }, { name := "T_BOOLEAN", type := .int, accessFlags := 25, slot := 11, constantValue := 0 }, { name := "T_CHAR", type := .int, accessFlags := 25, slot := 12, constantValue := 0 }, { name := "T_FLOAT", type := .int, accessFlags := 25, slot := 13, constantValue := 0 }, { name := "T_DOUBLE", type := .int, accessFlags := 25, slot := 14, constantValue := 0 }, { name := "T_BYTE", type := .int, accessFlags := 25, slot := 15, constantValue := 0 }, { name := "T_SHORT", type := .int, accessFlags := 25, slot := 16, constantValue := 0 }, { name := "T_INT", type := .int, accessFlags := 25, slot := 17, constantValue := 0 }, { name := "T_LONG", type := .int, accessFlags := 25, slot := 18, constantValue := 0 }, { name := "JLA", type := (.object "jdk/internal/access/JavaLangAccess"), accessFlags := 26, slot := 19, constantValue := 0 }, { name := "SOFT_MAX_ARRAY_LENGTH", type := .int, accessFlags := 25, slot := 20, constantValue := 0 }]
  methods := #[k15m0]
  instanceTypes := #[]
  staticTypes := #[(.object "jdk/internal/misc/Unsafe"), .boolean, .int, .int, .int, .int, .int, .int, .int, .int, .int, .int, .int, .int, .int, .int, .int, .int, .int, (.object "jdk/internal/access/JavaLangAccess"), .int]
  resolved := Array.replicate 378 none
  statics := none }

def pool16 : Array CpInfo := pool [(1, u "java/lang/Cloneable"), (0, .class_ 1), (0, u "java/lang/Object"), (0, .class_ 3)] 3

/-- java/lang/Cloneable -/
def k16 : Class := { plain "java/lang/Cloneable" (some 0) with
  accessFlags := 1537
  interfaces := #[]
  cf := some (fileOf pool16 2 #[] #[] 1537 4 #[] #[])
  fields := #[]
  methods := #[]
  instanceTypes := #[]
  staticTypes := #[]
  resolved := Array.replicate 8 none
  statics := none }

/-- the primitive byte -/
def k17 : Class := { plain "byte" none with kind := .primitive 'B', accessFlags := 0x411 }
/-- [B -/
def k18 : Class := { plain "[B" (some 0) with kind := .array 17 .byte, interfaces := #[16, 2], accessFlags := 1041 }

/-- the primitive char -/
def k19 : Class := { plain "char" none with kind := .primitive 'C', accessFlags := 0x411 }
/-- [C -/
def k20 : Class := { plain "[C" (some 0) with kind := .array 19 .char, interfaces := #[16, 2], accessFlags := 1041 }

/-- the primitive int -/
def k21 : Class := { plain "int" none with kind := .primitive 'I', accessFlags := 0x411 }
/-- [I -/
def k22 : Class := { plain "[I" (some 0) with kind := .array 21 .int, interfaces := #[16, 2], accessFlags := 1041 }

def heap : Heap := #[{ cls := 7, slots := #[.long 0, .int 1, .null, .int 0, .null, .int 0, .int 0], vm := .statics 7 },
  { cls := 12, slots := #[.null, .null, .null], vm := .statics 12 }]
def classes : Array Class := #[k0, k1, k2, k3, k4, k5, k6, k7, k8, k9, k10, k11, k12, k13, k14, k15, k16, k17, k18, k19, k20, k21, k22]
def interned : List (Array UInt16 × Addr) := []
def slotsUsed : Nat := 10
def theMethod : MethodId := ⟨1, 1⟩
def args0 : Array Value := #[.int 5, .int 6, .int 7]
def aboutOver (below : List Frame) : State where
  vm := { classes := classes, interned := interned.toArray }
  heap := heap
  slotsUsed := slotsUsed
  threads := #[{ frames := .invoking theMethod args0 :: below }]
def below0 : List Frame := [.native { method := ⟨0, 0⟩, args := #[] }]
def about1 : State := aboutOver below0
def p0 : Program := .bare "" "" ""
def e0 : Env := launch0.env 0 0 0
theorem w_frames : about1.frames = Frame.invoking theMethod args0 :: below0 := rfl
set_option maxRecDepth 65536 in
theorem w_args : argsFit about1.vm theMethod args0 = true := by decide +kernel
set_option maxRecDepth 65536 in
theorem w_heap : heapFits about1 = true := by decide +kernel
set_option maxRecDepth 65536 in
theorem w_runnable : about1.curStatus? = some .runnable := by decide +kernel
set_option maxRecDepth 65536 in
theorem w_alone : about1.alone = true := by decide +kernel
set_option maxRecDepth 65536 in
theorem w_named : about1.methodNamed? x = some theMethod := by decide +kernel
set_option maxRecDepth 65536 in
theorem w_hears : about1.hears theMethod below0 = true := by decide +kernel
set_option maxRecDepth 65536 in
theorem w_ripe : about1.ripe theMethod args0 below0 = true := by decide +kernel
theorem w_running : about1.status = .running := rfl
set_option maxRecDepth 65536 in
theorem w_room : about1.hasRoom e0.platform room_1 = true :=
  launch0.hasRoom_least _ room_1 (by decide +kernel) (by decide +kernel) (by decide +kernel) (by decide +kernel) (by decide +kernel) (by decide +kernel)
theorem allAtoms_all (ts : List Jvm.Cond) (a : Array Jvm.Value) (st : Jvm.State) : (allAtoms ts).before a st = ts.all (fun c => c.before a st) := by
  induction ts with
  | nil => rfl
  | cons c t ih =>
    show (Jvm.Cond.and c (allAtoms t)).before a st = _
    rw [Jvm.Cond.before_and, ih, List.all_cons]
def words1 : List Jvm.Cond := Jvm.Cond.code x code maxLocals ret :: tables_1
/-- a 'code' word, met by the world's own term for the bytes: nothing is compared byte by byte -/
theorem code_word {y : MethodName} {bytes : ByteArray} {mx : Nat} {rt : Option FieldType} {a : Array Value} {s : State} {m : MethodId} {meth : Method} {c : Code} (h1 : s.methodNamed? y = some m) (h2 : s.vm.method? m = some meth) (h3 : meth.code = some c) (h4 : c.code = bytes)
    (h5 : (c.maxLocals == mx && c.exceptionTable.isEmpty && decide (c.maxStack ≤ mostOperands) && decide (meth.sig.returnType = rt) && !meth.locks && decide (parseMethodDescriptor y.desc = some meth.sig)) = true) : (Jvm.Cond.code y bytes mx rt).before a s = true := by
  simp only [Bool.and_eq_true, beq_iff_eq, Bool.not_eq_true', decide_eq_true_eq] at h5
  obtain ⟨⟨⟨⟨⟨g1, g2⟩, g3⟩, g4⟩, g5⟩, g6⟩ := h5
  simp [Cond.before, Cond.holds, Cond.value, h1, h2, h3, h4, g1, g2, g3, g4, g5, g6]
def isCode : Jvm.Cond → Bool
  | .code _ _ _ _ => true
  | _ => false
theorem all_split {L : List Jvm.Cond} {P : Jvm.Cond → Bool} (h1 : L.all (fun c => isCode c || P c) = true) (h2 : ∀ c ∈ L.filter isCode, P c = true) : L.all P = true := by
  refine List.all_eq_true.mpr fun c hc => ?_
  have h := List.all_eq_true.mp h1 c hc
  rcases Bool.eq_false_or_eq_true (isCode c) with hi | hi
  · exact h2 c (List.mem_filter.mpr ⟨hc, hi⟩)
  · simpa [hi] using h
set_option maxRecDepth 65536 in
theorem w_c0 : (Jvm.Cond.code x code maxLocals ret).before args0 about1 = true := code_word (m := ⟨1, 1⟩) (meth := k1m1) (c := k1c1) (by decide +kernel) rfl rfl rfl (by decide +kernel)
set_option maxRecDepth 65536 in
theorem w_c1 : (Jvm.Cond.code ({ cls := "com/example/catchment/catchment/linkage/EditDistanceBeyondPinLaw", name := "str", desc := "(ICCC)Ljava/lang/String;" } : Jvm.MethodName) method_3_code (4 : Nat) (Option.some (Jvm.ClassFile.FieldType.object "java/lang/String"))).before args0 about1 = true := code_word (m := ⟨1, 2⟩) (meth := k1m2) (c := k1c2) (by decide +kernel) rfl rfl rfl (by decide +kernel)
set_option maxRecDepth 65536 in
theorem w_c2 : (Jvm.Cond.code ({ cls := "java/lang/String", name := "<init>", desc := "([C)V" } : Jvm.MethodName) jdk_42_method_3_code (2 : Nat) (Option.none : Option Jvm.ClassFile.FieldType)).before args0 about1 = true := code_word (m := ⟨7, 1⟩) (meth := k7m1) (c := k7c1) (by decide +kernel) rfl rfl rfl (by decide +kernel)
set_option maxRecDepth 65536 in
theorem w_c3 : (Jvm.Cond.code ({ cls := "java/lang/String", name := "<init>", desc := "([CIILjava/lang/Void;)V" } : Jvm.MethodName) jdk_42_method_149_code (6 : Nat) (Option.none : Option Jvm.ClassFile.FieldType)).before args0 about1 = true := code_word (m := ⟨7, 5⟩) (meth := k7m5) (c := k7c5) (by decide +kernel) rfl rfl rfl (by decide +kernel)
set_option maxRecDepth 65536 in
theorem w_c4 : (Jvm.Cond.code ({ cls := "java/lang/Object", name := "<init>", desc := "()V" } : Jvm.MethodName) object_method_1_code (1 : Nat) (Option.none : Option Jvm.ClassFile.FieldType)).before args0 about1 = true := code_word (m := ⟨0, 0⟩) (meth := k0m0) (c := k0c0) (by decide +kernel) rfl rfl rfl (by decide +kernel)
set_option maxRecDepth 65536 in
theorem w_c5 : (Jvm.Cond.code ({ cls := "com/example/catchment/catchment/linkage/EditDistance", name := "<init>", desc := "(Ljava/lang/String;I)V" } : Jvm.MethodName) prog_23_method_1_code (5 : Nat) (Option.none : Option Jvm.ClassFile.FieldType)).before args0 about1 = true := code_word (m := ⟨8, 0⟩) (meth := k8m0) (c := k8c0) (by decide +kernel) rfl rfl rfl (by decide +kernel)
set_option maxRecDepth 65536 in
theorem w_c6 : (Jvm.Cond.code ({ cls := "java/lang/String", name := "length", desc := "()I" } : Jvm.MethodName) jdk_42_method_54_code (1 : Nat) (Option.some Jvm.ClassFile.FieldType.int)).before args0 about1 = true := code_word (m := ⟨7, 2⟩) (meth := k7m2) (c := k7c2) (by decide +kernel) rfl rfl rfl (by decide +kernel)
set_option maxRecDepth 65536 in
theorem w_c7 : (Jvm.Cond.code ({ cls := "java/lang/String", name := "coder", desc := "()B" } : Jvm.MethodName) jdk_42_method_152_code (1 : Nat) (Option.some Jvm.ClassFile.FieldType.byte)).before args0 about1 = true := code_word (m := ⟨7, 7⟩) (meth := k7m7) (c := k7c7) (by decide +kernel) rfl rfl rfl (by decide +kernel)
set_option maxRecDepth 65536 in
theorem w_c8 : (Jvm.Cond.code ({ cls := "com/example/catchment/catchment/linkage/EditDistance", name := "eraseTo", desc := "(I)V" } : Jvm.MethodName) prog_23_method_10_code (2 : Nat) (Option.none : Option Jvm.ClassFile.FieldType)).before args0 about1 = true := code_word (m := ⟨8, 2⟩) (meth := k8m2) (c := k8c2) (by decide +kernel) rfl rfl rfl (by decide +kernel)
set_option maxRecDepth 65536 in
theorem w_c9 : (Jvm.Cond.code ({ cls := "com/example/catchment/catchment/linkage/EditDistance", name := "beyond", desc := "()Z" } : Jvm.MethodName) prog_23_method_12_code (3 : Nat) (Option.some Jvm.ClassFile.FieldType.boolean)).before args0 about1 = true := code_word (m := ⟨8, 3⟩) (meth := k8m3) (c := k8c3) (by decide +kernel) rfl rfl rfl (by decide +kernel)
set_option maxRecDepth 65536 in
theorem w_c10 : (Jvm.Cond.code ({ cls := "com/example/catchment/catchment/linkage/EditDistanceBeyondPinLaw", name := "cell", desc := "([I[C[CII)V" } : Jvm.MethodName) method_4_code (6 : Nat) (Option.none : Option Jvm.ClassFile.FieldType)).before args0 about1 = true := code_word (m := ⟨1, 3⟩) (meth := k1m3) (c := k1c3) (by decide +kernel) rfl rfl rfl (by decide +kernel)
set_option maxRecDepth 65536 in
theorem w_c11 : (Jvm.Cond.code ({ cls := "java/lang/Math", name := "min", desc := "(II)I" } : Jvm.MethodName) jdk_29_method_69_code (2 : Nat) (Option.some Jvm.ClassFile.FieldType.int)).before args0 about1 = true := code_word (m := ⟨9, 2⟩) (meth := k9m2) (c := k9c2) (by decide +kernel) rfl rfl rfl (by decide +kernel)
set_option maxRecDepth 65536 in
theorem w_c12 : (Jvm.Cond.code ({ cls := "java/lang/StringUTF16", name := "compress", desc := "([CII)[B" } : Jvm.MethodName) jdk_52_method_16_code (6 : Nat) (Option.some (Jvm.ClassFile.FieldType.array Jvm.ClassFile.FieldType.byte))).before args0 about1 = true := code_word (m := ⟨10, 2⟩) (meth := k10m2) (c := k10c2) (by decide +kernel) rfl rfl rfl (by decide +kernel)
set_option maxRecDepth 65536 in
theorem w_c13 : (Jvm.Cond.code ({ cls := "java/lang/StringUTF16", name := "compress", desc := "([CI[BII)I" } : Jvm.MethodName) jdk_52_method_21_code (7 : Nat) (Option.some Jvm.ClassFile.FieldType.int)).before args0 about1 = true := code_word (m := ⟨10, 3⟩) (meth := k10m3) (c := k10c3) (by decide +kernel) rfl rfl rfl (by decide +kernel)
set_option maxRecDepth 65536 in
theorem w_c14 : (Jvm.Cond.code ({ cls := "java/lang/StringUTF16", name := "coderFromArrayLen", desc := "([BI)B" } : Jvm.MethodName) jdk_52_method_15_code (2 : Nat) (Option.some Jvm.ClassFile.FieldType.byte)).before args0 about1 = true := code_word (m := ⟨10, 1⟩) (meth := k10m1) (c := k10c1) (by decide +kernel) rfl rfl rfl (by decide +kernel)
set_option maxRecDepth 65536 in
theorem w_c15 : (Jvm.Cond.code ({ cls := "java/lang/String", name := "valueOf", desc := "(C)Ljava/lang/String;" } : Jvm.MethodName) jdk_42_method_139_code (1 : Nat) (Option.some (Jvm.ClassFile.FieldType.object "java/lang/String"))).before args0 about1 = true := code_word (m := ⟨7, 4⟩) (meth := k7m4) (c := k7c4) (by decide +kernel) rfl rfl rfl (by decide +kernel)
set_option maxRecDepth 65536 in
theorem w_c16 : (Jvm.Cond.code ({ cls := "java/lang/StringLatin1", name := "canEncode", desc := "(C)Z" } : Jvm.MethodName) jdk_43_method_3_code (1 : Nat) (Option.some Jvm.ClassFile.FieldType.boolean)).before args0 about1 = true := code_word (m := ⟨11, 2⟩) (meth := k11m2) (c := k11c2) (by decide +kernel) rfl rfl rfl (by decide +kernel)
set_option maxRecDepth 65536 in
theorem w_c17 : (Jvm.Cond.code ({ cls := "java/lang/StringLatin1", name := "toBytes", desc := "(C)[B" } : Jvm.MethodName) jdk_43_method_46_code (1 : Nat) (Option.some (Jvm.ClassFile.FieldType.array Jvm.ClassFile.FieldType.byte))).before args0 about1 = true := code_word (m := ⟨11, 3⟩) (meth := k11m3) (c := k11c3) (by decide +kernel) rfl rfl rfl (by decide +kernel)
set_option maxRecDepth 65536 in
theorem w_c18 : (Jvm.Cond.code ({ cls := "java/lang/String", name := "<init>", desc := "([BB)V" } : Jvm.MethodName) jdk_42_method_151_code (3 : Nat) (Option.none : Option Jvm.ClassFile.FieldType)).before args0 about1 = true := code_word (m := ⟨7, 6⟩) (meth := k7m6) (c := k7c6) (by decide +kernel) rfl rfl rfl (by decide +kernel)
set_option maxRecDepth 65536 in
theorem w_c19 : (Jvm.Cond.code ({ cls := "com/example/catchment/catchment/linkage/EditDistance", name := "type", desc := "(C)V" } : Jvm.MethodName) prog_23_method_9_code (10 : Nat) (Option.none : Option Jvm.ClassFile.FieldType)).before args0 about1 = true := code_word (m := ⟨8, 1⟩) (meth := k8m1) (c := k8c1) (by decide +kernel) rfl rfl rfl (by decide +kernel)
set_option maxRecDepth 65536 in
theorem w_c20 : (Jvm.Cond.code ({ cls := "java/lang/Math", name := "max", desc := "(II)I" } : Jvm.MethodName) jdk_29_method_65_code (2 : Nat) (Option.some Jvm.ClassFile.FieldType.int)).before args0 about1 = true := code_word (m := ⟨9, 1⟩) (meth := k9m1) (c := k9c1) (by decide +kernel) rfl rfl rfl (by decide +kernel)
set_option maxRecDepth 65536 in
theorem w_c21 : (Jvm.Cond.code ({ cls := "java/lang/String", name := "charAt", desc := "(I)C" } : Jvm.MethodName) jdk_42_method_56_code (2 : Nat) (Option.some Jvm.ClassFile.FieldType.char)).before args0 about1 = true := code_word (m := ⟨7, 3⟩) (meth := k7m3) (c := k7c3) (by decide +kernel) rfl rfl rfl (by decide +kernel)
set_option maxRecDepth 65536 in
theorem w_c22 : (Jvm.Cond.code ({ cls := "java/lang/String", name := "isLatin1", desc := "()Z" } : Jvm.MethodName) jdk_42_method_154_code (1 : Nat) (Option.some Jvm.ClassFile.FieldType.boolean)).before args0 about1 = true := code_word (m := ⟨7, 8⟩) (meth := k7m8) (c := k7c8) (by decide +kernel) rfl rfl rfl (by decide +kernel)
set_option maxRecDepth 65536 in
theorem w_c23 : (Jvm.Cond.code ({ cls := "java/lang/StringLatin1", name := "charAt", desc := "([BI)C" } : Jvm.MethodName) jdk_43_method_2_code (2 : Nat) (Option.some Jvm.ClassFile.FieldType.char)).before args0 about1 = true := code_word (m := ⟨11, 1⟩) (meth := k11m1) (c := k11c1) (by decide +kernel) rfl rfl rfl (by decide +kernel)
set_option maxRecDepth 65536 in
theorem w_c24 : (Jvm.Cond.code ({ cls := "java/lang/String", name := "checkIndex", desc := "(II)V" } : Jvm.MethodName) jdk_42_method_155_code (2 : Nat) (Option.none : Option Jvm.ClassFile.FieldType)).before args0 about1 = true := code_word (m := ⟨7, 9⟩) (meth := k7m9) (c := k7c9) (by decide +kernel) rfl rfl rfl (by decide +kernel)
set_option maxRecDepth 65536 in
theorem w_c25 : (Jvm.Cond.code ({ cls := "jdk/internal/util/Preconditions", name := "checkIndex", desc := "(IILjava/util/function/BiFunction;)I" } : Jvm.MethodName) jdk_41_method_11_code (3 : Nat) (Option.some Jvm.ClassFile.FieldType.int)).before args0 about1 = true := code_word (m := ⟨12, 1⟩) (meth := k12m1) (c := k12c1) (by decide +kernel) rfl rfl rfl (by decide +kernel)
set_option maxRecDepth 65536 in
theorem w_c26 : (Jvm.Cond.code ({ cls := "java/util/Arrays", name := "copyOf", desc := "([CI)[C" } : Jvm.MethodName) jdk_65_method_125_code (3 : Nat) (Option.some (Jvm.ClassFile.FieldType.array Jvm.ClassFile.FieldType.char))).before args0 about1 = true := code_word (m := ⟨13, 2⟩) (meth := k13m2) (c := k13c2) (by decide +kernel) rfl rfl rfl (by decide +kernel)
set_option maxRecDepth 65536 in
theorem w_c27 : (Jvm.Cond.code ({ cls := "java/util/Arrays", name := "copyOf", desc := "([II)[I" } : Jvm.MethodName) jdk_65_method_123_code (3 : Nat) (Option.some (Jvm.ClassFile.FieldType.array Jvm.ClassFile.FieldType.int))).before args0 about1 = true := code_word (m := ⟨13, 1⟩) (meth := k13m1) (c := k13c1) (by decide +kernel) rfl rfl rfl (by decide +kernel)
def codes1 : List Jvm.Cond := [Jvm.Cond.code x code maxLocals ret, Jvm.Cond.code ({ cls := "com/example/catchment/catchment/linkage/EditDistanceBeyondPinLaw", name := "str", desc := "(ICCC)Ljava/lang/String;" } : Jvm.MethodName) method_3_code (4 : Nat) (Option.some (Jvm.ClassFile.FieldType.object "java/lang/String")), Jvm.Cond.code ({ cls := "java/lang/String", name := "<init>", desc := "([C)V" } : Jvm.MethodName) jdk_42_method_3_code (2 : Nat) (Option.none : Option Jvm.ClassFile.FieldType), Jvm.Cond.code ({ cls := "java/lang/String", name := "<init>", desc := "([CIILjava/lang/Void;)V" } : Jvm.MethodName) jdk_42_method_149_code (6 : Nat) (Option.none : Option Jvm.ClassFile.FieldType), Jvm.Cond.code ({ cls := "java/lang/Object", name := "<init>", desc := "()V" } : Jvm.MethodName) object_method_1_code (1 : Nat) (Option.none : Option Jvm.ClassFile.FieldType), Jvm.Cond.code ({ cls := "com/example/catchment/catchment/linkage/EditDistance", name := "<init>", desc := "(Ljava/lang/String;I)V" } : Jvm.MethodName) prog_23_method_1_code (5 : Nat) (Option.none : Option Jvm.ClassFile.FieldType), Jvm.Cond.code ({ cls := "java/lang/String", name := "length", desc := "()I" } : Jvm.MethodName) jdk_42_method_54_code (1 : Nat) (Option.some Jvm.ClassFile.FieldType.int), Jvm.Cond.code ({ cls := "java/lang/String", name := "coder", desc := "()B" } : Jvm.MethodName) jdk_42_method_152_code (1 : Nat) (Option.some Jvm.ClassFile.FieldType.byte), Jvm.Cond.code ({ cls := "com/example/catchment/catchment/linkage/EditDistance", name := "eraseTo", desc := "(I)V" } : Jvm.MethodName) prog_23_method_10_code (2 : Nat) (Option.none : Option Jvm.ClassFile.FieldType), Jvm.Cond.code ({ cls := "com/example/catchment/catchment/linkage/EditDistance", name := "beyond", desc := "()Z" } : Jvm.MethodName) prog_23_method_12_code (3 : Nat) (Option.some Jvm.ClassFile.FieldType.boolean), Jvm.Cond.code ({ cls := "com/example/catchment/catchment/linkage/EditDistanceBeyondPinLaw", name := "cell", desc := "([I[C[CII)V" } : Jvm.MethodName) method_4_code (6 : Nat) (Option.none : Option Jvm.ClassFile.FieldType), Jvm.Cond.code ({ cls := "java/lang/Math", name := "min", desc := "(II)I" } : Jvm.MethodName) jdk_29_method_69_code (2 : Nat) (Option.some Jvm.ClassFile.FieldType.int), Jvm.Cond.code ({ cls := "java/lang/StringUTF16", name := "compress", desc := "([CII)[B" } : Jvm.MethodName) jdk_52_method_16_code (6 : Nat) (Option.some (Jvm.ClassFile.FieldType.array Jvm.ClassFile.FieldType.byte)), Jvm.Cond.code ({ cls := "java/lang/StringUTF16", name := "compress", desc := "([CI[BII)I" } : Jvm.MethodName) jdk_52_method_21_code (7 : Nat) (Option.some Jvm.ClassFile.FieldType.int), Jvm.Cond.code ({ cls := "java/lang/StringUTF16", name := "coderFromArrayLen", desc := "([BI)B" } : Jvm.MethodName) jdk_52_method_15_code (2 : Nat) (Option.some Jvm.ClassFile.FieldType.byte), Jvm.Cond.code ({ cls := "java/lang/String", name := "valueOf", desc := "(C)Ljava/lang/String;" } : Jvm.MethodName) jdk_42_method_139_code (1 : Nat) (Option.some (Jvm.ClassFile.FieldType.object "java/lang/String")), Jvm.Cond.code ({ cls := "java/lang/StringLatin1", name := "canEncode", desc := "(C)Z" } : Jvm.MethodName) jdk_43_method_3_code (1 : Nat) (Option.some Jvm.ClassFile.FieldType.boolean), Jvm.Cond.code ({ cls := "java/lang/StringLatin1", name := "toBytes", desc := "(C)[B" } : Jvm.MethodName) jdk_43_method_46_code (1 : Nat) (Option.some (Jvm.ClassFile.FieldType.array Jvm.ClassFile.FieldType.byte)), Jvm.Cond.code ({ cls := "java/lang/String", name := "<init>", desc := "([BB)V" } : Jvm.MethodName) jdk_42_method_151_code (3 : Nat) (Option.none : Option Jvm.ClassFile.FieldType), Jvm.Cond.code ({ cls := "com/example/catchment/catchment/linkage/EditDistance", name := "type", desc := "(C)V" } : Jvm.MethodName) prog_23_method_9_code (10 : Nat) (Option.none : Option Jvm.ClassFile.FieldType), Jvm.Cond.code ({ cls := "java/lang/Math", name := "max", desc := "(II)I" } : Jvm.MethodName) jdk_29_method_65_code (2 : Nat) (Option.some Jvm.ClassFile.FieldType.int), Jvm.Cond.code ({ cls := "java/lang/String", name := "charAt", desc := "(I)C" } : Jvm.MethodName) jdk_42_method_56_code (2 : Nat) (Option.some Jvm.ClassFile.FieldType.char), Jvm.Cond.code ({ cls := "java/lang/String", name := "isLatin1", desc := "()Z" } : Jvm.MethodName) jdk_42_method_154_code (1 : Nat) (Option.some Jvm.ClassFile.FieldType.boolean), Jvm.Cond.code ({ cls := "java/lang/StringLatin1", name := "charAt", desc := "([BI)C" } : Jvm.MethodName) jdk_43_method_2_code (2 : Nat) (Option.some Jvm.ClassFile.FieldType.char), Jvm.Cond.code ({ cls := "java/lang/String", name := "checkIndex", desc := "(II)V" } : Jvm.MethodName) jdk_42_method_155_code (2 : Nat) (Option.none : Option Jvm.ClassFile.FieldType), Jvm.Cond.code ({ cls := "jdk/internal/util/Preconditions", name := "checkIndex", desc := "(IILjava/util/function/BiFunction;)I" } : Jvm.MethodName) jdk_41_method_11_code (3 : Nat) (Option.some Jvm.ClassFile.FieldType.int), Jvm.Cond.code ({ cls := "java/util/Arrays", name := "copyOf", desc := "([CI)[C" } : Jvm.MethodName) jdk_65_method_125_code (3 : Nat) (Option.some (Jvm.ClassFile.FieldType.array Jvm.ClassFile.FieldType.char)), Jvm.Cond.code ({ cls := "java/util/Arrays", name := "copyOf", desc := "([II)[I" } : Jvm.MethodName) jdk_65_method_123_code (3 : Nat) (Option.some (Jvm.ClassFile.FieldType.array Jvm.ClassFile.FieldType.int))]
set_option maxRecDepth 65536 in
theorem codes_eq : words1.filter isCode = codes1 := rfl
theorem w_codes : ∀ c ∈ words1.filter isCode, c.before args0 about1 = true := by
  rw [codes_eq]
  intro c hc
  simp only [codes1, List.mem_cons, List.not_mem_nil, or_false] at hc
  rcases hc with rfl | rfl | rfl | rfl | rfl | rfl | rfl | rfl | rfl | rfl | rfl | rfl | rfl | rfl | rfl | rfl | rfl | rfl | rfl | rfl | rfl | rfl | rfl | rfl | rfl | rfl | rfl | rfl
  · exact w_c0
  · exact w_c1
  · exact w_c2
  · exact w_c3
  · exact w_c4
  · exact w_c5
  · exact w_c6
  · exact w_c7
  · exact w_c8
  · exact w_c9
  · exact w_c10
  · exact w_c11
  · exact w_c12
  · exact w_c13
  · exact w_c14
  · exact w_c15
  · exact w_c16
  · exact w_c17
  · exact w_c18
  · exact w_c19
  · exact w_c20
  · exact w_c21
  · exact w_c22
  · exact w_c23
  · exact w_c24
  · exact w_c25
  · exact w_c26
  · exact w_c27
set_option maxRecDepth 65536 in
theorem w_t1 : (words1.take 24).all (fun c => isCode c || c.before args0 about1) = true := by decide +kernel
set_option maxRecDepth 65536 in
theorem w_t2 : ((words1.drop 24).take 24).all (fun c => isCode c || c.before args0 about1) = true := by decide +kernel
set_option maxRecDepth 65536 in
theorem w_t3 : (((words1.drop 24).drop 24).take 24).all (fun c => isCode c || c.before args0 about1) = true := by decide +kernel
set_option maxRecDepth 65536 in
theorem w_t4 : ((((words1.drop 24).drop 24).drop 24).take 24).all (fun c => isCode c || c.before args0 about1) = true := by decide +kernel
set_option maxRecDepth 65536 in
theorem w_t5 : (((((words1.drop 24).drop 24).drop 24).drop 24).take 24).all (fun c => isCode c || c.before args0 about1) = true := by decide +kernel
set_option maxRecDepth 65536 in
theorem w_t6 : (((((words1.drop 24).drop 24).drop 24).drop 24).drop 24).all (fun c => isCode c || c.before args0 about1) = true := by decide +kernel
theorem w_tables : (allAtoms (Jvm.Cond.code x code maxLocals ret :: tables_1)).before args0 about1 = true := by
  rw [allAtoms_all]
  show words1.all (fun c => c.before args0 about1) = true
  refine all_split ?_ w_codes
  rw [← List.take_append_drop 24 words1, List.all_append, w_t1, ← List.take_append_drop 24 (words1.drop 24), List.all_append, w_t2, ← List.take_append_drop 24 ((words1.drop 24).drop 24), List.all_append, w_t3, ← List.take_append_drop 24 (((words1.drop 24).drop 24).drop 24), List.all_append, w_t4, ← List.take_append_drop 24 ((((words1.drop 24).drop 24).drop 24).drop 24), List.all_append, w_t5, w_t6]
  rfl
set_option maxRecDepth 65536 in
theorem w_rest : rest_1_c.before args0 about1 = true := by decide +kernel
set_option maxRecDepth 65536 in
theorem w_case : (Jvm.Cond.and given_1 narrow_1).before args0 about1 = true := by decide +kernel
set_option maxRecDepth 65536 in
theorem w_consts : constsHeld consts_1 about1 := Jvm.Lit.constsHeldB_iff.mp (by decide +kernel)
theorem w_applies : (headSpec (Jvm.Cond.code x code maxLocals ret :: tables_1) room_1).applies x e0.platform about1 = true :=
  (Spec.applies_iff w_frames).mpr ⟨w_running, w_runnable, w_alone, w_named, w_hears, w_ripe, w_room, w_tables⟩
theorem atStart : AtStart classFile x code maxLocals ret World_1 tables_1 room_1 Calls_1 rest_1 Pre_1 launch0 p0 e0 about1 theMethod args0 below0 :=
  ⟨lists_1, trivial, launch0.admits_env _ _ _, launch0.least_env, fairChoices_fair.cas, fairChoices_fair.clock, w_frames, w_args, w_heap, w_applies, ⟨w_consts, trivial⟩, w_rest, w_case⟩
end start1
theorem witness_1 : WitnessClaimed_1 := ⟨start1.p0, start1.e0, start1.about1, start1.theMethod, start1.args0, start1.below0, start1.atStart⟩
end Jvm.Pilot.@@N@@
