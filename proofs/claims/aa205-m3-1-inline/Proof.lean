import JvmDerived
import JvmDerived.Pilot.@@N@@Statement
import JvmDerived.Pilot.@@N@@Code
set_option linter.unusedVariables false
set_option linter.unusedSimpArgs false
/- laws to paste: Road.backV, Road.lenW, Road.chN, Road.codOf (cut by pick.py; bodies as the Statement names them) -/
namespace Jvm.Pilot.@@N@@
namespace StrChars
open Jvm Sem ClassFile Op Lib Jvm.Stand Jvm.Free.XT Jvm.Free.ALB Jvm.Free.JM Jvm.Free
open Jvm.Lib.Cold (StaticIs)
/-- a char array whose places are chars -/
def Ch (a : Addr) (A : Cell) (U : State) : Prop := Arr .char a A U ∧ Typed .char A
theorem Ch.mv {a : Addr} {A : Cell} {U U' : State} (h : Ch a A U) (hal : U.vm.Alike U'.vm) (hh : U'.heap = U.heap) : Ch a A U' := ⟨h.1.mv hal hh, h.2⟩
theorem Ch.keep {a : Addr} {A : Cell} {U U' : State} (h : Ch a A U) (hal : U.vm.Alike U'.vm) (hk : U'.heap[a]? = some A) : Ch a A U' := ⟨h.1.keep hal hk, h.2⟩
/-- what place i of a char[]'s cell holds -/
def cv (A : Cell) (i : Nat) : Int32 := match A.slots[i]? with | some (.int x) => x | _ => 0
theorem Ch.get {a : Addr} {A : Cell} {U : State} (h : Ch a A U) {i : Nat} (hi : i < A.slots.size) : A.slots[i]? = some (.int (cv A i)) := by
  have e := Array.getElem?_eq_getElem hi
  have f := h.2 i _ e
  unfold cv; rw [e]
  generalize A.slots[i] = v at f
  cases v <;> simp [fits] at f ⊢
/-- the byte that i2b leaves of a char -/
def lo8 (x : Int32) : Int32 := x.toInt8.toInt32
theorem fits_lo8 (y : Int32) : fits .byte (.int (lo8 y)) = true := by
  have h1 := y.toInt8.le_toInt
  have h2 := y.toInt8.toInt_lt
  simp only [lo8, fits, Bool.and_eq_true, decide_eq_true_eq, Int32.le_iff_toInt_le, Int8.toInt_toInt32, show (-128 : Int32).toInt = -128 from by decide, show (127 : Int32).toInt = 127 from by decide]
  omega
/-- A' is A but that each place j of lo .. hi - 1 holds f j -/
def Laid (A A' : Cell) (lo hi : Nat) (f : Nat → Value) : Prop := A'.cls = A.cls ∧ A'.vm = A.vm ∧ A'.slots.size = A.slots.size ∧ ∀ i, A'.slots[i]? = if lo ≤ i ∧ i < hi then some (f i) else A.slots[i]?
theorem Laid.zero (A : Cell) (lo : Nat) (f : Nat → Value) : Laid A A lo (lo + 0) f := ⟨rfl, rfl, rfl, fun i => by rw [if_neg (by omega)]⟩
theorem Laid.step {A Ak : Cell} {lo k : Nat} {f : Nat → Value} {v : Value} (h : Laid A Ak lo k f) (hlo : lo ≤ k) (hk : k < Ak.slots.size) (hv : v = f k) : Laid A (Ak.setSlot k v) lo (k + 1) f := by
  refine ⟨h.1, h.2.1, by simpa [Cell.setSlot] using h.2.2.1, fun i => ?_⟩
  by_cases e : k = i
  · subst e; rw [Cell.slots_setSlot_self v hk, if_pos (by omega), hv]
  · rw [Cell.slots_setSlot_ne v e, h.2.2.2 i]
    by_cases q : lo ≤ i ∧ i < k
    · rw [if_pos q, if_pos (by omega)]
    · rw [if_neg q, if_neg (by omega)]
def U16 : String := "java/lang/StringUTF16"
namespace Cmp5
def yN : MethodName := ⟨"java/lang/StringUTF16", "compress", "([CI[BII)I"⟩
abbrev yB : ByteArray := jdk_52_method_21_code
theorem d0 : decode yB 0 = .ok (.iconst 0, 1) := by decide +kernel
theorem d1 : decode yB 1 = .ok (.istore 5, 2) := by decide +kernel
theorem d3 : decode yB 3 = .ok (.iload 5, 2) := by decide +kernel
theorem d5 : decode yB 5 = .ok (.iload 4, 2) := by decide +kernel
theorem d7 : decode yB 7 = .ok (.if_icmp (.ge) 37, 3) := by decide +kernel
theorem d10 : decode yB 10 = .ok (.aload_n 0, 1) := by decide +kernel
theorem d11 : decode yB 11 = .ok (.iload_n 1, 1) := by decide +kernel
theorem d12 : decode yB 12 = .ok (.caload, 1) := by decide +kernel
theorem d13 : decode yB 13 = .ok (.istore 6, 2) := by decide +kernel
theorem d15 : decode yB 15 = .ok (.iload 6, 2) := by decide +kernel
theorem d17 : decode yB 17 = .ok (.sipush 255, 3) := by decide +kernel
theorem d20 : decode yB 20 = .ok (.if_icmp (.le) 6, 3) := by decide +kernel
theorem d26 : decode yB 26 = .ok (.aload_n 2, 1) := by decide +kernel
theorem d27 : decode yB 27 = .ok (.iload_n 3, 1) := by decide +kernel
theorem d28 : decode yB 28 = .ok (.iload 6, 2) := by decide +kernel
theorem d30 : decode yB 30 = .ok (.i2b, 1) := by decide +kernel
theorem d31 : decode yB 31 = .ok (.bastore, 1) := by decide +kernel
theorem d32 : decode yB 32 = .ok (.iinc 1 1, 3) := by decide +kernel
theorem d35 : decode yB 35 = .ok (.iinc 3 1, 3) := by decide +kernel
theorem d38 : decode yB 38 = .ok (.iinc 5 1, 3) := by decide +kernel
theorem d41 : decode yB 41 = .ok (.goto (-38), 3) := by decide +kernel
theorem d44 : decode yB 44 = .ok (.iload 4, 2) := by decide +kernel
theorem d46 : decode yB 46 = .ok (.ireturn, 1) := by decide +kernel
def site : List Cond := []
def tab : Cond := tabOf yN yB 7 (some .int) site
def P (b : Addr) (A : Cell) (d : Addr) (B : Cell) (o q len : Nat) (args : Array Value) (s : State) : Prop := args = #[.ref b, .int (Int32.ofNat o), .ref d, .int (Int32.ofNat q), .int (Int32.ofNat len)] ∧ Ch b A s ∧ Arr .byte d B s ∧ b ≠ d ∧ o + len ≤ A.slots.size ∧ q + len ≤ B.slots.size ∧ ∀ i, i < len → ¬ 255 < cv A (o + i)
def E (b : Addr) (A : Cell) (d : Addr) (B : Cell) (o q len : Nat) (r : Option Value) (s u : State) : Prop := r = some (.int (Int32.ofNat len)) ∧ ∃ B', Put d B' s u ∧ Laid B B' q (q + len) (fun j => Value.int (lo8 (cv A (o + (j - q)))))
/-- no char of the range above 255: len; the places written hold each char's low byte -/
theorem law (l : Launch) (b : Addr) (A : Cell) (d : Addr) (B : Cell) (o q len : Nat) : Law l yN 5 5 0 0 yB 7 (some .int) site (P b A d B o q len) (E b A d B o q len) (copyLocs d q len) 0 0 := by
  refine Law.of_walk (plainFor_of_name (by decide +kernel)) (by decide +kernel) (by decide +kernel) (by decide) (fun _ _ h => by rw [h.1]; rfl) (fun _ U U' hal hh h => ⟨h.1, h.2.1.mv hal hh, h.2.2.1.mv hal hh, h.2.2.2⟩) (fun r U U' V V' h1 hal h2 h => ⟨h.1, h.2.elim fun B' q => ⟨B', q.1.mv h1 h2, q.2⟩⟩) ?_
  intro p e s m args below meth c s₁ X0 hexec hbytes hml hret hlk hnm hown hh0 W hP
  obtain ⟨rfl, hA, hB, hne, l1, l2, hp⟩ := hP
  have c1 : Steps p.tables e below (s₁.setTop (entryFrame m #[.ref b, .int (Int32.ofNat o), .ref d, .int (Int32.ofNat q), .int (Int32.ofNat len)] 7)) (s₁.setTop (mkF m 0 #[.val (.ref b), .val (.int (Int32.ofNat o)), .val (.ref d), .val (.int (Int32.ofNat q)), .val (.int (Int32.ofNat len)), .unset, .unset] [])) := entry rfl
  have hA0 := hA.1.mv X0.warmed.alike hh0
  have hB0 := hB.mv X0.warmed.alike hh0
  have a31 := hA.1.2.2.2
  have c2 : Steps p.tables e below (s₁.setTop (entryFrame m #[.ref b, .int (Int32.ofNat o), .ref d, .int (Int32.ofNat q), .int (Int32.ofNat len)] 7)) (s₁.setTop (mkF m 3 #[.val (.ref b), .val (.int (Int32.ofNat o)), .val (.ref d), .val (.int (Int32.ofNat q)), .val (.int (Int32.ofNat len)), .val (.int 0), .unset] [])) := c1.trans (by
    refine iconstV X0.here hexec rfl 0 (hb hbytes d0) (by decide) ?_
    refine XS.istore X0.here hexec rfl (hb hbytes d1) rfl rfl ?_
    exact Steps.refl _)
  have loop : ∀ (r i : Nat), i + r = len → ∀ (z : Slot), (z = .unset ∨ ∃ w, z = .val w ∧ w.category = 1) → ∀ (Tl : State) (Bk : Cell), Stand p l e { frames := 0, locals := 0, cells := 0, slots := 0 } s m #[.ref b, .int (Int32.ofNat o), .ref d, .int (Int32.ofNat q), .int (Int32.ofNat len)] below meth c Tl ([] ++ copyLocs d q i) 0 0 → Put d Bk s₁ Tl → Laid B Bk q (q + i) (fun j => Value.int (lo8 (cv A (o + (j - q))))) →
      Steps p.tables e below (s₁.setTop (entryFrame m #[.ref b, .int (Int32.ofNat o), .ref d, .int (Int32.ofNat q), .int (Int32.ofNat len)] 7)) (Tl.setTop (mkF m 3 #[.val (.ref b), .val (.int (Int32.ofNat (o + i))), .val (.ref d), .val (.int (Int32.ofNat (q + i))), .val (.int (Int32.ofNat len)), .val (.int (Int32.ofNat i)), z] [])) → ∃ (T' : State) (B' : Cell) (z' : Slot), Stand p l e { frames := 0, locals := 0, cells := 0, slots := 0 } s m #[.ref b, .int (Int32.ofNat o), .ref d, .int (Int32.ofNat q), .int (Int32.ofNat len)] below meth c T' ([] ++ copyLocs d q len) 0 0 ∧ Put d B' s₁ T' ∧ Laid B B' q (q + len) (fun j => Value.int (lo8 (cv A (o + (j - q))))) ∧
      Steps p.tables e below (s₁.setTop (entryFrame m #[.ref b, .int (Int32.ofNat o), .ref d, .int (Int32.ofNat q), .int (Int32.ofNat len)] 7)) (T'.setTop (mkF m 3 #[.val (.ref b), .val (.int (Int32.ofNat (o + len))), .val (.ref d), .val (.int (Int32.ofNat (q + len))), .val (.int (Int32.ofNat len)), .val (.int (Int32.ofNat len)), z'] [])) := by
    intro r
    induction r with
    | zero =>
      intro i hi z hz Tl Bk Xl pl fl cl
      have hil : i = len := by omega
      rw [hil] at Xl fl cl
      exact ⟨Tl, Bk, z, Xl, pl, fl, cl⟩
    | succ r ih =>
      intro i hi z hz Tl Bk Xl pl fl cl
      have all := X0.warmed.alike.symm.trans Xl.warmed.alike
      have hAl := hA0.keep all (pl.other hne hA0.1)
      have hBk := hB0.like all pl.1 fl.1 fl.2.1 fl.2.2.1
      have hlt : q + i < Bk.slots.size := by rw [fl.2.2.1]; omega
      have c3 : Steps p.tables e below (s₁.setTop (entryFrame m #[.ref b, .int (Int32.ofNat o), .ref d, .int (Int32.ofNat q), .int (Int32.ofNat len)] 7)) (Tl.setTop (mkF m 12 #[.val (.ref b), .val (.int (Int32.ofNat (o + i))), .val (.ref d), .val (.int (Int32.ofNat (q + i))), .val (.int (Int32.ofNat len)), .val (.int (Int32.ofNat i)), z] [.int (Int32.ofNat (o + i)), .ref b])) := cl.trans (by
        refine XS.iload Xl.here hexec rfl (hb hbytes d3) rfl ?_
        refine XS.iload Xl.here hexec rfl (hb hbytes d5) rfl ?_
        refine XS.icmpNo Xl.here hexec rfl (hb hbytes d7) rfl (ii_ge_f (lt32 (by omega) (by omega))) ?_
        refine XS.aloadN Xl.here hexec rfl (hb hbytes d10) rfl rfl ?_
        refine XS.iloadN Xl.here hexec rfl (hb hbytes d11) rfl ?_
        exact Steps.refl _)
      have c4 : Steps p.tables e below (s₁.setTop (entryFrame m #[.ref b, .int (Int32.ofNat o), .ref d, .int (Int32.ofNat q), .int (Int32.ofNat len)] 7)) (Tl.setTop (mkF m 13 #[.val (.ref b), .val (.int (Int32.ofNat (o + i))), .val (.ref d), .val (.int (Int32.ofNat (q + i))), .val (.int (Int32.ofNat len)), .val (.int (Int32.ofNat i)), z] [.int (cv A (o + i))])) := c3.trans (by
        refine Xl.aget hexec hAl rfl (hA.get (i := o + i) (by omega)) rfl rfl (hb hbytes d12) ?_
        exact Steps.refl _)
      have c5 : Steps p.tables e below (s₁.setTop (entryFrame m #[.ref b, .int (Int32.ofNat o), .ref d, .int (Int32.ofNat q), .int (Int32.ofNat len)] 7)) (Tl.setTop (mkF m 15 #[.val (.ref b), .val (.int (Int32.ofNat (o + i))), .val (.ref d), .val (.int (Int32.ofNat (q + i))), .val (.int (Int32.ofNat len)), .val (.int (Int32.ofNat i)), .val (.int (cv A (o + i)))] [])) := c4.trans (by
        refine XS.istoreS Xl.here hexec rfl (hb hbytes d13) rfl rfl hz ?_
        exact Steps.refl _)
      have c6 : Steps p.tables e below (s₁.setTop (entryFrame m #[.ref b, .int (Int32.ofNat o), .ref d, .int (Int32.ofNat q), .int (Int32.ofNat len)] 7)) (Tl.setTop (mkF m 31 #[.val (.ref b), .val (.int (Int32.ofNat (o + i))), .val (.ref d), .val (.int (Int32.ofNat (q + i))), .val (.int (Int32.ofNat len)), .val (.int (Int32.ofNat i)), .val (.int (cv A (o + i)))] [.int (lo8 (cv A (o + i))), .int (Int32.ofNat (q + i)), .ref d])) := c5.trans (by
        refine XS.iload Xl.here hexec rfl (hb hbytes d15) rfl ?_
        refine sipushV Xl.here hexec rfl 255 (hb hbytes d17) (by decide) ?_
        refine XS.icmpYes Xl.here hexec rfl (pc0 := 20) rfl (hb hbytes d20) rfl (ii_le_t (hp i (by omega))) (by decide) rfl ?_
        refine XS.aloadN Xl.here hexec rfl (hb hbytes d26) rfl rfl ?_
        refine XS.iloadN Xl.here hexec rfl (hb hbytes d27) rfl ?_
        refine XS.iload Xl.here hexec rfl (hb hbytes d28) rfl ?_
        refine i2b Xl.here hexec rfl (hb hbytes d30) rfl ?_
        exact Steps.refl _)
      obtain ⟨T7, X7, p7, st7⟩ := Xl.aput hexec hBk rfl hlt rfl (fits_lo8 (cv A (o + i))) (g := (mkF m 31 #[.val (.ref b), .val (.int (Int32.ofNat (o + i))), .val (.ref d), .val (.int (Int32.ofNat (q + i))), .val (.int (Int32.ofNat len)), .val (.int (Int32.ofNat i)), .val (.int (cv A (o + i)))] [.int (lo8 (cv A (o + i))), .int (Int32.ofNat (q + i)), .ref d])) rfl (rest := []) rfl (hb hbytes d31)
      have c8 : Steps p.tables e below (s₁.setTop (entryFrame m #[.ref b, .int (Int32.ofNat o), .ref d, .int (Int32.ofNat q), .int (Int32.ofNat len)] 7)) (T7.setTop (mkF m 32 #[.val (.ref b), .val (.int (Int32.ofNat (o + i))), .val (.ref d), .val (.int (Int32.ofNat (q + i))), .val (.int (Int32.ofNat len)), .val (.int (Int32.ofNat i)), .val (.int (cv A (o + i)))] [])) := c6.trans (st7 _ (Steps.refl _))
      have c9 : Steps p.tables e below (s₁.setTop (entryFrame m #[.ref b, .int (Int32.ofNat o), .ref d, .int (Int32.ofNat q), .int (Int32.ofNat len)] 7)) (T7.setTop (mkF m 3 #[.val (.ref b), .val (.int (Int32.ofNat (o + i) + 1)), .val (.ref d), .val (.int (Int32.ofNat (q + i) + 1)), .val (.int (Int32.ofNat len)), .val (.int (Int32.ofNat i + 1)), .val (.int (cv A (o + i)))] [])) := c8.trans (by
        refine iincV X7.here hexec rfl 1 (hb hbytes d32) (by decide) rfl rfl ?_
        refine iincV X7.here hexec rfl 1 (hb hbytes d35) (by decide) rfl rfl ?_
        refine iincV X7.here hexec rfl 1 (hb hbytes d38) (by decide) rfl rfl ?_
        refine XS.goto X7.here hexec rfl (pc0 := 41) rfl (hb hbytes d41) (by decide) rfl ?_
        exact Steps.refl _)
      have c10 : Steps p.tables e below (s₁.setTop (entryFrame m #[.ref b, .int (Int32.ofNat o), .ref d, .int (Int32.ofNat q), .int (Int32.ofNat len)] 7)) (T7.setTop (mkF m 3 #[.val (.ref b), .val (.int (Int32.ofNat (o + (i + 1)))), .val (.ref d), .val (.int (Int32.ofNat (q + (i + 1)))), .val (.int (Int32.ofNat len)), .val (.int (Int32.ofNat (i + 1))), .val (.int (cv A (o + i)))] [])) := by
        have := c9
        rw [succ32, succ32, succ32] at this
        exact this
      exact ih (i + 1) (by omega) _ (Or.inr ⟨_, rfl, rfl⟩) T7 _ (by rw [copyLocs_step, ← List.append_assoc]; exact X7) (pl.trans p7) (fl.step (by omega) hlt (by simp)) c10
  obtain ⟨T9, B9, z9, X9, p9, f9, g9⟩ := loop len 0 (by omega) .unset (Or.inl rfl) s₁ B (by simpa [copyLocs] using X0) ⟨hB0.1, fun _ _ => rfl, rfl⟩ (Laid.zero _ _ _) c2
  have c11 : Steps p.tables e below (s₁.setTop (entryFrame m #[.ref b, .int (Int32.ofNat o), .ref d, .int (Int32.ofNat q), .int (Int32.ofNat len)] 7)) (T9.setTop (mkF m 46 #[.val (.ref b), .val (.int (Int32.ofNat (o + len))), .val (.ref d), .val (.int (Int32.ofNat (q + len))), .val (.int (Int32.ofNat len)), .val (.int (Int32.ofNat len)), z9] [.int (Int32.ofNat len)])) := g9.trans (by
    refine XS.iload X9.here hexec rfl (hb hbytes d3) rfl ?_
    refine XS.iload X9.here hexec rfl (hb hbytes d5) rfl ?_
    refine XS.icmpYes X9.here hexec rfl (pc0 := 7) rfl (hb hbytes d7) rfl (ii_ge_t (nlt32 (by omega) (Nat.le_refl _))) (by decide) rfl ?_
    refine XS.iload X9.here hexec rfl (hb hbytes d44) rfl ?_
    exact Steps.refl _)
  exact ⟨T9, some (.int (Int32.ofNat len)), _, _, _, X9, by simp, rfl, rfl, (fun h => by cases h), ⟨rfl, B9, p9.from hh0, f9⟩, fun fs hl => c11.trans (X9.ireturnOut hexec hret rfl (Or.inl rfl) (hb hbytes d46) hl)⟩
end Cmp5
namespace Cmp3
def yN : MethodName := ⟨"java/lang/StringUTF16", "compress", "([CII)[B"⟩
abbrev yB : ByteArray := jdk_52_method_16_code
theorem d0 : decode yB 0 = .ok (.iload_n 2, 1) := by decide +kernel
theorem d1 : decode yB 1 = .ok (.newarray .byte, 2) := by decide +kernel
theorem d3 : decode yB 3 = .ok (.astore_n 3, 1) := by decide +kernel
theorem d4 : decode yB 4 = .ok (.aload_n 0, 1) := by decide +kernel
theorem d5 : decode yB 5 = .ok (.iload_n 1, 1) := by decide +kernel
theorem d6 : decode yB 6 = .ok (.aload_n 3, 1) := by decide +kernel
theorem d7 : decode yB 7 = .ok (.iconst 0, 1) := by decide +kernel
theorem d8 : decode yB 8 = .ok (.iload_n 2, 1) := by decide +kernel
theorem d9 : decode yB 9 = .ok (.invokestatic 115, 3) := by decide +kernel
theorem d12 : decode yB 12 = .ok (.istore 4, 2) := by decide +kernel
theorem d14 : decode yB 14 = .ok (.iload 4, 2) := by decide +kernel
theorem d16 : decode yB 16 = .ok (.iload_n 2, 1) := by decide +kernel
theorem d17 : decode yB 17 = .ok (.if_icmp (.eq) 40, 3) := by decide +kernel
theorem d57 : decode yB 57 = .ok (.aload_n 3, 1) := by decide +kernel
theorem d58 : decode yB 58 = .ok (.areturn, 1) := by decide +kernel
def site : List Cond := [.arrayClass .byte, Cmp5.tab] ++ staticW U16 115 Cmp5.yN
def tab : Cond := tabOf yN yB 6 (some (.array .byte)) site
def P (b : Addr) (A : Cell) (o len : Nat) (args : Array Value) (s : State) : Prop := args = #[.ref b, .int (Int32.ofNat o), .int (Int32.ofNat len)] ∧ Ch b A s ∧ o + len ≤ A.slots.size ∧ len ≤ 536870912 ∧ ∀ i, i < len → ¬ 255 < cv A (o + i)
def E (b : Addr) (A : Cell) (o len : Nat) (r : Option Value) (s u : State) : Prop := NewArr .byte "[B" len (fun j => .int (lo8 (cv A (o + j)))) r s u ∧ u.heap.size = s.heap.size + 1
/-- no char of the range above 255: a new byte[] of their low bytes -/
theorem law (l : Launch) (b : Addr) (A : Cell) (o len : Nat) : Law l yN 3 3 1 18 yB 6 (some (.array .byte)) site (P b A o len) (E b A o len) [] 1 len := by
  refine Law.of_walk (plainFor_of_name (by decide +kernel)) (by decide +kernel) (by decide +kernel) (by decide) (fun _ _ h => by rw [h.1]; rfl) (fun _ U U' hal hh h => ⟨h.1, h.2.1.mv hal hh, h.2.2⟩) (fun r U U' V V' h1 hal h2 h => ⟨NewArr.mv r U U' V V' h1 hal h2 h.1, by rw [h1, h2]; exact h.2⟩) ?_
  intro p e s m args below meth c s₁ X0 hexec hbytes hml hret hlk hnm hown hh0 W hP
  obtain ⟨rfl, hA, l1, l2, hp⟩ := hP
  have a31 := hA.1.2.2.2
  have c1 : Steps p.tables e below (s₁.setTop (entryFrame m #[.ref b, .int (Int32.ofNat o), .int (Int32.ofNat len)] 6)) (s₁.setTop (mkF m 0 #[.val (.ref b), .val (.int (Int32.ofNat o)), .val (.int (Int32.ofNat len)), .unset, .unset, .unset] [])) := entry rfl
  have c2 : Steps p.tables e below (s₁.setTop (entryFrame m #[.ref b, .int (Int32.ofNat o), .int (Int32.ofNat len)] 6)) (s₁.setTop (mkF m 1 #[.val (.ref b), .val (.int (Int32.ofNat o)), .val (.int (Int32.ofNat len)), .unset, .unset, .unset] [.int (Int32.ofNat len)])) := c1.trans (by
    refine XS.iloadN X0.here hexec rfl (hb hbytes d0) rfl ?_
    exact Steps.refl _)
  obtain ⟨T3, B3, X3, ba3, bs3, bv3, bh3, bf3, st3⟩ := X0.anew hexec (atype := .byte) (wk W (.arrayClass .byte)) rfl (by show len * 1 ≤ _; omega) (by omega) (g := (mkF m 1 #[.val (.ref b), .val (.int (Int32.ofNat o)), .val (.int (Int32.ofNat len)), .unset, .unset, .unset] [.int (Int32.ofNat len)])) rfl (hb hbytes d1) (rest := []) rfl (Nat.le_refl _) (by show 0 + len ≤ len; omega)
  rw [hh0] at ba3 st3
  have kp3 : XT.Kept s T3 := (XT.Kept.of_eq hh0).push bh3
  have hA3 := hA.keep X3.warmed.alike (kp3 _ _ hA.1.1)
  have hne : b ≠ s.heap.size := hA.1.ne
  have c4 : Steps p.tables e below (s₁.setTop (entryFrame m #[.ref b, .int (Int32.ofNat o), .int (Int32.ofNat len)] 6)) (T3.setTop (mkF m 3 #[.val (.ref b), .val (.int (Int32.ofNat o)), .val (.int (Int32.ofNat len)), .unset, .unset, .unset] [.ref s.heap.size])) := c2.trans (st3 _ (Steps.refl _))
  have c5 : Steps p.tables e below (s₁.setTop (entryFrame m #[.ref b, .int (Int32.ofNat o), .int (Int32.ofNat len)] 6)) (T3.setTop (mkF m 9 #[.val (.ref b), .val (.int (Int32.ofNat o)), .val (.int (Int32.ofNat len)), .val (.ref s.heap.size), .unset, .unset] [.int (Int32.ofNat len), .int 0, .ref s.heap.size, .int (Int32.ofNat o), .ref b])) := c4.trans (by
    refine XS.astoreN X3.here hexec rfl (hb hbytes d3) rfl rfl rfl ?_
    refine XS.aloadN X3.here hexec rfl (hb hbytes d4) rfl rfl ?_
    refine XS.iloadN X3.here hexec rfl (hb hbytes d5) rfl ?_
    refine XS.aloadN X3.here hexec rfl (hb hbytes d6) rfl rfl ?_
    refine iconstV X3.here hexec rfl 0 (hb hbytes d7) (by decide) ?_
    refine XS.iloadN X3.here hexec rfl (hb hbytes d8) rfl ?_
    exact Steps.refl _)
  obtain ⟨v6, T6, X6, E6, g6⟩ := X3.callS hexec (Cmp5.law l b A s.heap.size B3 o 0 len) hown (wks W (staticW U16 115 Cmp5.yN)) (wk W Cmp5.tab) (W := 0) (Nat.le_of_ble_eq_true rfl) (Nat.le_of_ble_eq_true rfl) (Nat.le_refl _) (by show 0 + len + 0 ≤ len; omega) (g := (mkF m 9 #[.val (.ref b), .val (.int (Int32.ofNat o)), .val (.int (Int32.ofNat len)), .val (.ref s.heap.size), .unset, .unset] [.int (Int32.ofNat len), .int (Int32.ofNat 0), .ref s.heap.size, .int (Int32.ofNat o), .ref b])) rfl (by rw [hml]; rfl) c5 (argsL := [.ref b, .int (Int32.ofNat o), .ref s.heap.size, .int (Int32.ofNat 0), .int (Int32.ofNat len)]) (rest := []) rfl rfl (by show 2 * 0 + 0 ≤ _; decide) (hb hbytes d9) (⟨rfl, hA3, ba3, hne, l1, by rw [bs3]; simp, hp⟩)
  obtain ⟨rfl, B6, p6, f6⟩ := E6
  have c7 : Steps p.tables e below (s₁.setTop (entryFrame m #[.ref b, .int (Int32.ofNat o), .int (Int32.ofNat len)] 6)) (T6.setTop (mkF m 12 #[.val (.ref b), .val (.int (Int32.ofNat o)), .val (.int (Int32.ofNat len)), .val (.ref s.heap.size), .unset, .unset] [.int (Int32.ofNat len)])) := g6
  have c8 : Steps p.tables e below (s₁.setTop (entryFrame m #[.ref b, .int (Int32.ofNat o), .int (Int32.ofNat len)] 6)) (T6.setTop (mkF m 58 #[.val (.ref b), .val (.int (Int32.ofNat o)), .val (.int (Int32.ofNat len)), .val (.ref s.heap.size), .val (.int (Int32.ofNat len)), .unset] [.ref s.heap.size])) := c7.trans (by
    refine XS.istore X6.here hexec rfl (hb hbytes d12) rfl rfl ?_
    refine XS.iload X6.here hexec rfl (hb hbytes d14) rfl ?_
    refine XS.iloadN X6.here hexec rfl (hb hbytes d16) rfl ?_
    refine XS.icmpYes X6.here hexec rfl (pc0 := 17) rfl (hb hbytes d17) rfl (ii_eq_t rfl) (by decide) rfl ?_
    refine XS.aloadN X6.here hexec rfl (hb hbytes d57) rfl rfl ?_
    exact Steps.refl _)
  have X8 := X6.wide (L' := []) (cells' := 1) (slots' := len) (fun x hx hlt => by
    simp only [List.nil_append, copyLocs, List.mem_map, List.mem_range] at hx
    obtain ⟨i, -, rfl⟩ := hx
    exact absurd hlt (Nat.lt_irrefl _)) (Nat.le_refl _) (by omega)
  exact ⟨T6, some (.ref s.heap.size), _, _, _, X8, rfl, rfl, rfl, (fun h => by cases h), ⟨⟨rfl, B6, ba3.like (X3.warmed.alike.symm.trans X6.warmed.alike) p6.1 f6.1 f6.2.1 f6.2.2.1, f6.2.1.trans bv3, by rw [X6.warmed.alike.findClass, f6.1]; exact bf3, by rw [f6.2.2.1, bs3]; simp, fun j hj => by rw [f6.2.2.2 j, if_pos (by omega)]; rfl, kp3.put p6 (Nat.le_refl _)⟩, by rw [p6.2.2, bh3, hh0]; simp⟩, fun fs hl => c8.trans (X8.areturnOut hexec rfl hret rfl (hb hbytes d58) hl)⟩
end Cmp3
namespace CodL
def yN : MethodName := ⟨"java/lang/StringUTF16", "coderFromArrayLen", "([BI)B"⟩
abbrev yB : ByteArray := jdk_52_method_15_code
theorem d0 : decode yB 0 = .ok (.iload_n 1, 1) := by decide +kernel
theorem d1 : decode yB 1 = .ok (.aload_n 0, 1) := by decide +kernel
theorem d2 : decode yB 2 = .ok (.arraylength, 1) := by decide +kernel
theorem d3 : decode yB 3 = .ok (.isub, 1) := by decide +kernel
theorem d4 : decode yB 4 = .ok (.bipush 31, 2) := by decide +kernel
theorem d6 : decode yB 6 = .ok (.iushr, 1) := by decide +kernel
theorem d7 : decode yB 7 = .ok (.i2b, 1) := by decide +kernel
theorem d8 : decode yB 8 = .ok (.ireturn, 1) := by decide +kernel
def site : List Cond := []
def tab : Cond := tabOf yN yB 2 (some .byte) site
def P (d : Addr) (B : Cell) (args : Array Value) (s : State) : Prop := args = #[.ref d, .int (Int32.ofNat B.slots.size)] ∧ Arr .byte d B s
def E (r : Option Value) (s u : State) : Prop := XT.PureE (some (.int 0)) r s u
/-- an array as long as the number of chars: LATIN1 -/
theorem law (l : Launch) (d : Addr) (B : Cell) : Law l yN 2 2 0 0 yB 2 (some .byte) site (P d B) E [] 0 0 := by
  refine Law.of_walk (plainFor_of_name (by decide +kernel)) (by decide +kernel) (by decide +kernel) (by decide) (fun _ _ h => by rw [h.1]; rfl) (fun _ U U' hal hh h => ⟨h.1, h.2.mv hal hh⟩) (fun r U U' V V' h1 hal h2 h => XT.PureE.mv r U U' V V' h1 hal h2 h) ?_
  intro p e s m args below meth c s₁ X0 hexec hbytes hml hret hlk hnm hown hh0 W hP
  obtain ⟨rfl, hB⟩ := hP
  have hB0 := hB.mv X0.warmed.alike hh0
  have c1 : Steps p.tables e below (s₁.setTop (entryFrame m #[.ref d, .int (Int32.ofNat B.slots.size)] 2)) (s₁.setTop (mkF m 0 #[.val (.ref d), .val (.int (Int32.ofNat B.slots.size))] [])) := entry rfl
  have c2 : Steps p.tables e below (s₁.setTop (entryFrame m #[.ref d, .int (Int32.ofNat B.slots.size)] 2)) (s₁.setTop (mkF m 2 #[.val (.ref d), .val (.int (Int32.ofNat B.slots.size))] [.ref d, .int (Int32.ofNat B.slots.size)])) := c1.trans (by
    refine XS.iloadN X0.here hexec rfl (hb hbytes d0) rfl ?_
    refine XS.aloadN X0.here hexec rfl (hb hbytes d1) rfl rfl ?_
    exact Steps.refl _)
  have c3 : Steps p.tables e below (s₁.setTop (entryFrame m #[.ref d, .int (Int32.ofNat B.slots.size)] 2)) (s₁.setTop (mkF m 8 #[.val (.ref d), .val (.int (Int32.ofNat B.slots.size))] [.int (lo8 (ushr (Int32.ofNat B.slots.size - Int32.ofNat B.slots.size) 31))])) := c2.trans (by
    refine X0.alen hexec hB0 rfl rfl (hb hbytes d2) ?_
    refine XS.isub X0.here hexec rfl (hb hbytes d3) rfl ?_
    refine bipushV X0.here hexec rfl 31 (hb hbytes d4) (by decide) ?_
    refine iushr X0.here hexec rfl (hb hbytes d6) rfl ?_
    refine i2b X0.here hexec rfl (hb hbytes d7) rfl ?_
    exact Steps.refl _)
  have e0 : lo8 (ushr (Int32.ofNat B.slots.size - Int32.ofNat B.slots.size) 31) = 0 := by rw [Int32.sub_self]; decide
  rw [e0] at c3
  exact ⟨s₁, some (.int 0), _, _, _, X0, rfl, rfl, rfl, (fun h => by cases h), ⟨rfl, hh0⟩, fun fs hl => c3.trans (X0.ireturnOut hexec hret rfl (Or.inr (Or.inr (Or.inl rfl))) (hb hbytes d8) hl)⟩
end CodL
/-- the String at a is Latin-1 over a new byte[] (the heap's one new cell): the low bytes of the len chars of A from o on; every cell but a is kept -/
def Got (a : Addr) (D : Cell) (fV fC : Field) (A : Cell) (o len : Nat) (r : Option Value) (s u : State) : Prop := r = none ∧ ∃ D' V : Cell, Blank "java/lang/String" a D' u ∧ Same D D' [fV.slot, fC.slot] ∧ D'.slots[fV.slot]? = some (.ref s.heap.size) ∧ D'.slots[fC.slot]? = some (.int 0) ∧ Arr .byte s.heap.size V u ∧ V.vm = .none ∧ u.vm.findClass "[B" = some V.cls ∧ V.slots.size = len ∧ (∀ j, j < len → V.slots[j]? = some (.int (lo8 (cv A (o + j))))) ∧ (∀ (y : Addr) (c : Cell), y ≠ a → s.heap[y]? = some c → u.heap[y]? = some c) ∧ u.heap.size = s.heap.size + 1
theorem Got.mv {a : Addr} {D A : Cell} {fV fC : Field} {o len : Nat} : ∀ r (U U' V V' : State), U'.heap = U.heap → V.vm.Alike V'.vm → V'.heap = V.heap → Got a D fV fC A o len r U V → Got a D fV fC A o len r U' V' :=
  fun r U U' V V' h1 hal h2 ⟨e0, D', X, a1, a2, a3, a4, a5, a6, a7, a8, a9, a10, a11⟩ => ⟨e0, D', X, a1.mv hal h2, a2, by rw [h1]; exact a3, a4, by rw [h1]; exact a5.mv hal h2, a6, by rw [hal.findClass]; exact a7, a8, a9, by rw [h1, h2]; exact a10, by rw [h1, h2]; exact a11⟩
namespace New4
def yN : MethodName := ⟨"java/lang/String", "<init>", "([CIILjava/lang/Void;)V"⟩
abbrev yB : ByteArray := jdk_42_method_149_code
theorem d0 : decode yB 0 = .ok (.aload_n 0, 1) := by decide +kernel
theorem d1 : decode yB 1 = .ok (.invokespecial 1, 3) := by decide +kernel
theorem d4 : decode yB 4 = .ok (.iload_n 3, 1) := by decide +kernel
theorem d5 : decode yB 5 = .ok (.ifCond (.ne) 22, 3) := by decide +kernel
theorem d27 : decode yB 27 = .ok (.getstatic 38, 3) := by decide +kernel
theorem d30 : decode yB 30 = .ok (.ifCond (.eq) 28, 3) := by decide +kernel
theorem d33 : decode yB 33 = .ok (.aload_n 1, 1) := by decide +kernel
theorem d34 : decode yB 34 = .ok (.iload_n 2, 1) := by decide +kernel
theorem d35 : decode yB 35 = .ok (.iload_n 3, 1) := by decide +kernel
theorem d36 : decode yB 36 = .ok (.invokestatic 177, 3) := by decide +kernel
theorem d39 : decode yB 39 = .ok (.astore 5, 2) := by decide +kernel
theorem d41 : decode yB 41 = .ok (.aload_n 0, 1) := by decide +kernel
theorem d42 : decode yB 42 = .ok (.aload 5, 2) := by decide +kernel
theorem d44 : decode yB 44 = .ok (.iload_n 3, 1) := by decide +kernel
theorem d45 : decode yB 45 = .ok (.invokestatic 47, 3) := by decide +kernel
theorem d48 : decode yB 48 = .ok (.putfield 15, 3) := by decide +kernel
theorem d51 : decode yB 51 = .ok (.aload_n 0, 1) := by decide +kernel
theorem d52 : decode yB 52 = .ok (.aload 5, 2) := by decide +kernel
theorem d54 : decode yB 54 = .ok (.putfield 9, 3) := by decide +kernel
theorem d57 : decode yB 57 = .ok (.return_, 1) := by decide +kernel
def site : List Cond := [.fieldLink "java/lang/String" 38 "java/lang/String" "COMPACT_STRINGS" "Z", Cmp3.tab, CodL.tab, .laysFinal "java/lang/String" "java/lang/String" "value" "[B", .fieldLink "java/lang/String" 9 "java/lang/String" "value" "[B", .laysFinal "java/lang/String" "java/lang/String" "coder" "B", .fieldLink "java/lang/String" 15 "java/lang/String" "coder" "B"] ++ objW "java/lang/String" 1 ++ staticW "java/lang/String" 177 Cmp3.yN ++ staticW "java/lang/String" 47 CodL.yN
def tab : Cond := tabOf yN yB 6 none site
def P (a : Addr) (D : Cell) (fV fC : Field) (b : Addr) (A : Cell) (z : Int32) (o len : Nat) (args : Array Value) (s : State) : Prop := args = #[.ref a, .ref b, .int (Int32.ofNat o), .int (Int32.ofNat len), .null] ∧ Blank "java/lang/String" a D s ∧ Found "java/lang/String" "value" "[B" fV s ∧ Found "java/lang/String" "coder" "B" fC s ∧ Ch b A s ∧ StaticIs s "java/lang/String" "COMPACT_STRINGS" "Z" (.int z) ∧ ¬ z = 0 ∧ 0 < len ∧ o + len ≤ A.slots.size ∧ len ≤ 536870912 ∧ ∀ i, i < len → ¬ 255 < cv A (o + i)
def E (a : Addr) (D : Cell) (fV fC : Field) (A : Cell) (o len : Nat) (r : Option Value) (s u : State) : Prop := Got a D fV fC A o len r s u
/-- len > 0, no char of the range above 255: a Latin-1 String of their low bytes -/
theorem law (l : Launch) (a : Addr) (D : Cell) (fV fC : Field) (b : Addr) (A : Cell) (z : Int32) (o len : Nat) : Law l yN 5 4 2 35 yB 6 none site (P a D fV fC b A z o len) (E a D fV fC A o len) [⟨a, fC.slot⟩, ⟨a, fV.slot⟩] 1 len := by
  refine Law.of_walk (plainFor_of_name (by decide +kernel)) (by decide +kernel) (by decide +kernel) (by decide) (fun _ _ h => by rw [h.1]; rfl) (fun _ U U' hal hh h => ⟨h.1, h.2.1.mv hal hh, h.2.2.1.al hal, h.2.2.2.1.al hal, h.2.2.2.2.1.mv hal hh, h.2.2.2.2.2.1.there hal hh, h.2.2.2.2.2.2⟩) (fun r U U' V V' h1 hal h2 h => Got.mv r U U' V V' h1 hal h2 h) ?_
  intro p e s m args below meth c s₁ X0 hexec hbytes hml hret hlk hnm hown hh0 W hP
  obtain ⟨rfl, hB, f1, f2, hA, s1, hz, l0, l1, l2, hp⟩ := hP
  have a31 := hA.1.2.2.2
  have c1 : Steps p.tables e below (s₁.setTop (entryFrame m #[.ref a, .ref b, .int (Int32.ofNat o), .int (Int32.ofNat len), .null] 6)) (s₁.setTop (mkF m 0 #[.val (.ref a), .val (.ref b), .val (.int (Int32.ofNat o)), .val (.int (Int32.ofNat len)), .val .null, .unset] [])) := entry rfl
  have c2 : Steps p.tables e below (s₁.setTop (entryFrame m #[.ref a, .ref b, .int (Int32.ofNat o), .int (Int32.ofNat len), .null] 6)) (s₁.setTop (mkF m 1 #[.val (.ref a), .val (.ref b), .val (.int (Int32.ofNat o)), .val (.int (Int32.ofNat len)), .val .null, .unset] [.ref a])) := c1.trans (by
    refine XS.aloadN X0.here hexec rfl (hb hbytes d0) rfl rfl ?_
    exact Steps.refl _)
  obtain ⟨T3, X3, q3, st3⟩ := X0.oinit hexec hown (wks W (objW "java/lang/String" 1)) (g := (mkF m 1 #[.val (.ref a), .val (.ref b), .val (.int (Int32.ofNat o)), .val (.int (Int32.ofNat len)), .val .null, .unset] [.ref a])) rfl (by rw [hml]; rfl) (rest := []) rfl (hb hbytes d1) (W := 0) (by show 2 * 0 + 0 ≤ _; decide) (Nat.le_of_ble_eq_true rfl) (Nat.le_of_ble_eq_true rfl)
  have hh3 := q3.trans hh0
  have c4 : Steps p.tables e below (s₁.setTop (entryFrame m #[.ref a, .ref b, .int (Int32.ofNat o), .int (Int32.ofNat len), .null] 6)) (T3.setTop (mkF m 27 #[.val (.ref a), .val (.ref b), .val (.int (Int32.ofNat o)), .val (.int (Int32.ofNat len)), .val .null, .unset] [])) := (c2.trans (st3 _ (Steps.refl _))).trans (by
    refine XS.iloadN X3.here hexec rfl (hb hbytes d4) rfl ?_
    refine XS.ifYes X3.here hexec rfl (pc0 := 5) rfl (hb hbytes d5) rfl (i0_ne_t (nz32 (by omega) l0)) (by decide) rfl ?_
    exact Steps.refl _)
  obtain ⟨T5, X5, q5, st5⟩ := X3.sget hexec hown (wk W (.fieldLink "java/lang/String" 38 "java/lang/String" "COMPACT_STRINGS" "Z")) s1 (fun _ _ h => by rw [hh3]; exact h) (g := (mkF m 27 #[.val (.ref a), .val (.ref b), .val (.int (Int32.ofNat o)), .val (.int (Int32.ofNat len)), .val .null, .unset] [])) rfl (hb hbytes d27)
  have hh5 := q5.trans hh3
  have c6 : Steps p.tables e below (s₁.setTop (entryFrame m #[.ref a, .ref b, .int (Int32.ofNat o), .int (Int32.ofNat len), .null] 6)) (T5.setTop (mkF m 30 #[.val (.ref a), .val (.ref b), .val (.int (Int32.ofNat o)), .val (.int (Int32.ofNat len)), .val .null, .unset] [.int z])) := c4.trans (st5 _ (Steps.refl _))
  have c7 : Steps p.tables e below (s₁.setTop (entryFrame m #[.ref a, .ref b, .int (Int32.ofNat o), .int (Int32.ofNat len), .null] 6)) (T5.setTop (mkF m 36 #[.val (.ref a), .val (.ref b), .val (.int (Int32.ofNat o)), .val (.int (Int32.ofNat len)), .val .null, .unset] [.int (Int32.ofNat len), .int (Int32.ofNat o), .ref b])) := c6.trans (by
    refine XS.ifNo X5.here hexec rfl (hb hbytes d30) rfl (i0_eq_f hz) ?_
    refine XS.aloadN X5.here hexec rfl (hb hbytes d33) rfl rfl ?_
    refine XS.iloadN X5.here hexec rfl (hb hbytes d34) rfl ?_
    refine XS.iloadN X5.here hexec rfl (hb hbytes d35) rfl ?_
    exact Steps.refl _)
  obtain ⟨v8, T8, X8, E8, g8⟩ := X5.callS hexec (Cmp3.law l b A o len) hown (wks W (staticW "java/lang/String" 177 Cmp3.yN)) (wk W Cmp3.tab) (W := 0) (Nat.le_of_ble_eq_true rfl) (Nat.le_of_ble_eq_true rfl) (Nat.le_refl _) (by show 0 + len ≤ len; omega) (g := (mkF m 36 #[.val (.ref a), .val (.ref b), .val (.int (Int32.ofNat o)), .val (.int (Int32.ofNat len)), .val .null, .unset] [.int (Int32.ofNat len), .int (Int32.ofNat o), .ref b])) rfl (by rw [hml]; rfl) c7 (argsL := [.ref b, .int (Int32.ofNat o), .int (Int32.ofNat len)]) (rest := []) rfl rfl (by show 2 * 0 + 0 ≤ _; decide) (hb hbytes d36) (⟨rfl, hA.mv X5.warmed.alike hh5, l1, l2, hp⟩)
  obtain ⟨e8, z8⟩ := E8
  obtain ⟨rfl, N, n1, n2, n3, n4, n5, n6⟩ := NewArr.mv _ T5 s _ _ hh5.symm (Vm.Alike.refl _) rfl e8
  rw [hh5] at z8
  have hB1 := hB.keep X8.warmed.alike (n6 _ _ hB.1)
  have hne : s.heap.size ≠ a := (Nat.ne_of_lt (Array.getElem?_eq_some_iff.mp hB.1).1).symm
  have c9 : Steps p.tables e below (s₁.setTop (entryFrame m #[.ref a, .ref b, .int (Int32.ofNat o), .int (Int32.ofNat len), .null] 6)) (T8.setTop (mkF m 39 #[.val (.ref a), .val (.ref b), .val (.int (Int32.ofNat o)), .val (.int (Int32.ofNat len)), .val .null, .unset] [.ref s.heap.size])) := g8
  have c10 : Steps p.tables e below (s₁.setTop (entryFrame m #[.ref a, .ref b, .int (Int32.ofNat o), .int (Int32.ofNat len), .null] 6)) (T8.setTop (mkF m 45 #[.val (.ref a), .val (.ref b), .val (.int (Int32.ofNat o)), .val (.int (Int32.ofNat len)), .val .null, .val (.ref s.heap.size)] [.int (Int32.ofNat N.slots.size), .ref s.heap.size, .ref a])) := by
    have hc : Steps p.tables e below (s₁.setTop (entryFrame m #[.ref a, .ref b, .int (Int32.ofNat o), .int (Int32.ofNat len), .null] 6)) (T8.setTop (mkF m 45 #[.val (.ref a), .val (.ref b), .val (.int (Int32.ofNat o)), .val (.int (Int32.ofNat len)), .val .null, .val (.ref s.heap.size)] [.int (Int32.ofNat len), .ref s.heap.size, .ref a])) := c9.trans (by
      refine XS.astore X8.here hexec rfl (hb hbytes d39) rfl rfl rfl ?_
      refine XS.aloadN X8.here hexec rfl (hb hbytes d41) rfl rfl ?_
      refine XS.aload X8.here hexec rfl (hb hbytes d42) rfl rfl ?_
      refine XS.iloadN X8.here hexec rfl (hb hbytes d44) rfl ?_
      exact Steps.refl _)
    rw [n4]; exact hc
  obtain ⟨v11, T11, X11, E11, g11⟩ := X8.callS hexec (CodL.law l s.heap.size N) hown (wks W (staticW "java/lang/String" 47 CodL.yN)) (wk W CodL.tab) (W := 1) (Nat.le_of_ble_eq_true rfl) (Nat.le_of_ble_eq_true rfl) (Nat.le_refl _) (by show 0 + len + 0 ≤ len; omega) (g := (mkF m 45 #[.val (.ref a), .val (.ref b), .val (.int (Int32.ofNat o)), .val (.int (Int32.ofNat len)), .val .null, .val (.ref s.heap.size)] [.int (Int32.ofNat N.slots.size), .ref s.heap.size, .ref a])) rfl (by rw [hml]; rfl) c10 (argsL := [.ref s.heap.size, .int (Int32.ofNat N.slots.size)]) (rest := [.ref a]) rfl rfl (by show 2 * 0 + (1 + 0) ≤ _; decide) (hb hbytes d45) (⟨rfl, n1⟩)
  obtain ⟨rfl, q11⟩ := E11
  have hB11 := hB1.mv (X8.warmed.alike.symm.trans X11.warmed.alike) q11
  have c12 : Steps p.tables e below (s₁.setTop (entryFrame m #[.ref a, .ref b, .int (Int32.ofNat o), .int (Int32.ofNat len), .null] 6)) (T11.setTop (mkF m 48 #[.val (.ref a), .val (.ref b), .val (.int (Int32.ofNat o)), .val (.int (Int32.ofNat len)), .val .null, .val (.ref s.heap.size)] [.int 0, .ref a])) := g11
  obtain ⟨T13, X13, p13, bl13, sl13, st13⟩ := X11.finit hexec hown (wk W (.fieldLink "java/lang/String" 15 "java/lang/String" "coder" "B")) (Or.inr ⟨_, (wk W (.laysFinal "java/lang/String" "java/lang/String" "coder" "B"))⟩) (Or.inl ⟨rfl, hnm⟩) f2 (Or.inl rfl) hB11 (t := .byte) (by decide +kernel) rfl (g := (mkF m 48 #[.val (.ref a), .val (.ref b), .val (.int (Int32.ofNat o)), .val (.int (Int32.ofNat len)), .val .null, .val (.ref s.heap.size)] [.int 0, .ref a])) rfl (rest := []) rfl (hb hbytes d48)
  have c14 : Steps p.tables e below (s₁.setTop (entryFrame m #[.ref a, .ref b, .int (Int32.ofNat o), .int (Int32.ofNat len), .null] 6)) (T13.setTop (mkF m 54 #[.val (.ref a), .val (.ref b), .val (.int (Int32.ofNat o)), .val (.int (Int32.ofNat len)), .val .null, .val (.ref s.heap.size)] [.ref s.heap.size, .ref a])) := (c12.trans (st13 _ (Steps.refl _))).trans (by
    refine XS.aloadN X13.here hexec rfl (hb hbytes d51) rfl rfl ?_
    refine XS.aload X13.here hexec rfl (hb hbytes d52) rfl rfl ?_
    exact Steps.refl _)
  obtain ⟨T15, X15, p15, bl15, sl15, st15⟩ := X13.finit hexec hown (wk W (.fieldLink "java/lang/String" 9 "java/lang/String" "value" "[B")) (Or.inr ⟨_, (wk W (.laysFinal "java/lang/String" "java/lang/String" "value" "[B"))⟩) (Or.inl ⟨rfl, hnm⟩) f1 (Or.inl rfl) bl13 (t := (.array .byte)) (by decide +kernel) rfl (g := (mkF m 54 #[.val (.ref a), .val (.ref b), .val (.int (Int32.ofNat o)), .val (.int (Int32.ofNat len)), .val .null, .val (.ref s.heap.size)] [.ref s.heap.size, .ref a])) rfl (rest := []) rfl (hb hbytes d54)
  have c16 : Steps p.tables e below (s₁.setTop (entryFrame m #[.ref a, .ref b, .int (Int32.ofNat o), .int (Int32.ofNat len), .null] 6)) (T15.setTop (mkF m 57 #[.val (.ref a), .val (.ref b), .val (.int (Int32.ofNat o)), .val (.int (Int32.ofNat len)), .val .null, .val (.ref s.heap.size)] [])) := c14.trans (st15 _ (Steps.refl _))
  have ap := apart (Or.inr ⟨_, (wk W (.laysFinal "java/lang/String" "java/lang/String" "value" "[B"))⟩) (Or.inr ⟨_, (wk W (.laysFinal "java/lang/String" "java/lang/String" "coder" "B"))⟩) f1 f2 (t₁ := .array .byte) (t₂ := .byte) (by decide +kernel) (by decide +kernel) (by decide)
  have al := X8.warmed.alike.symm.trans X15.warmed.alike
  have n7 : T11.heap[s.heap.size]? = some N := by rw [q11]; exact n1.1
  exact ⟨T15, none, _, _, _, X15, by simp, rfl, by omega, (fun _ => rfl), ⟨rfl, _, N, bl15, ((Same.refl D _).set _ (by simp)).set _ (by simp), sl15, (Cell.slots_setSlot_ne _ ap).trans sl13, n1.keep al (p15.other hne (p13.other hne n7)), n2, by rw [al.findClass]; exact n3, n4, n5, fun y c h1 h2 => p15.other h1 (p13.other h1 (by rw [q11]; exact n6 y c h2)), by rw [p15.2.2, p13.2.2, q11]; exact z8⟩, fun fs hl => c16.trans (X15.returnOut hexec hret (hb hbytes d57) hl)⟩
end New4
namespace New1
def yN : MethodName := ⟨"java/lang/String", "<init>", "([C)V"⟩
abbrev yB : ByteArray := jdk_42_method_3_code
theorem d0 : decode yB 0 = .ok (.aload_n 0, 1) := by decide +kernel
theorem d1 : decode yB 1 = .ok (.aload_n 1, 1) := by decide +kernel
theorem d2 : decode yB 2 = .ok (.iconst 0, 1) := by decide +kernel
theorem d3 : decode yB 3 = .ok (.aload_n 1, 1) := by decide +kernel
theorem d4 : decode yB 4 = .ok (.arraylength, 1) := by decide +kernel
theorem d5 : decode yB 5 = .ok (.aconst_null, 1) := by decide +kernel
theorem d6 : decode yB 6 = .ok (.invokespecial 27, 3) := by decide +kernel
theorem d9 : decode yB 9 = .ok (.return_, 1) := by decide +kernel
def site : List Cond := [New4.tab] ++ initW "java/lang/String" 27 New4.yN
def tab : Cond := tabOf yN yB 2 none site
def P (a : Addr) (D : Cell) (fV fC : Field) (b : Addr) (A : Cell) (z : Int32) (args : Array Value) (s : State) : Prop := args = #[.ref a, .ref b] ∧ Blank "java/lang/String" a D s ∧ Found "java/lang/String" "value" "[B" fV s ∧ Found "java/lang/String" "coder" "B" fC s ∧ Ch b A s ∧ StaticIs s "java/lang/String" "COMPACT_STRINGS" "Z" (.int z) ∧ ¬ z = 0 ∧ 0 < A.slots.size ∧ A.slots.size ≤ 536870912 ∧ ∀ i, i < A.slots.size → ¬ 255 < cv A i
def E (a : Addr) (D : Cell) (fV fC : Field) (A : Cell) (r : Option Value) (s u : State) : Prop := Got a D fV fC A 0 A.slots.size r s u
/-- new String(chars), not empty, no char above 255: a Latin-1 String of their low bytes -/
theorem law (l : Launch) (a : Addr) (D : Cell) (fV fC : Field) (b : Addr) (A : Cell) (z : Int32) : Law l yN 2 1 3 52 yB 2 none site (P a D fV fC b A z) (E a D fV fC A) [⟨a, fC.slot⟩, ⟨a, fV.slot⟩] 1 A.slots.size := by
  refine Law.of_walk (plainFor_of_name (by decide +kernel)) (by decide +kernel) (by decide +kernel) (by decide) (fun _ _ h => by rw [h.1]; rfl) (fun _ U U' hal hh h => ⟨h.1, h.2.1.mv hal hh, h.2.2.1.al hal, h.2.2.2.1.al hal, h.2.2.2.2.1.mv hal hh, h.2.2.2.2.2.1.there hal hh, h.2.2.2.2.2.2⟩) (fun r U U' V V' h1 hal h2 h => Got.mv r U U' V V' h1 hal h2 h) ?_
  intro p e s m args below meth c s₁ X0 hexec hbytes hml hret hlk hnm hown hh0 W hP
  obtain ⟨rfl, hB, f1, f2, hA, s1, hz, l0, l2, hp⟩ := hP
  have c1 : Steps p.tables e below (s₁.setTop (entryFrame m #[.ref a, .ref b] 2)) (s₁.setTop (mkF m 0 #[.val (.ref a), .val (.ref b)] [])) := entry rfl
  have c2 : Steps p.tables e below (s₁.setTop (entryFrame m #[.ref a, .ref b] 2)) (s₁.setTop (mkF m 6 #[.val (.ref a), .val (.ref b)] [.null, .int (Int32.ofNat A.slots.size), .int 0, .ref b, .ref a])) := c1.trans (by
    refine XS.aloadN X0.here hexec rfl (hb hbytes d0) rfl rfl ?_
    refine XS.aloadN X0.here hexec rfl (hb hbytes d1) rfl rfl ?_
    refine iconstV X0.here hexec rfl 0 (hb hbytes d2) (by decide) ?_
    refine XS.aloadN X0.here hexec rfl (hb hbytes d3) rfl rfl ?_
    refine X0.alen hexec (hA.1.mv X0.warmed.alike hh0) rfl rfl (hb hbytes d4) ?_
    refine XS.aconstNull X0.here hexec rfl (hb hbytes d5) ?_
    exact Steps.refl _)
  obtain ⟨v3, T3, X3, E3, g3⟩ := X0.callN hexec (New4.law l a D fV fC b A z 0 A.slots.size) rfl hown (wks W (initW "java/lang/String" 27 New4.yN)) (W New4.tab (by simp only [site, List.mem_cons, List.mem_append, true_or, or_true])) (W := 0) (Nat.le_of_ble_eq_true rfl) (Nat.le_of_ble_eq_true rfl) (Nat.le_refl _) (by show 0 + A.slots.size ≤ A.slots.size; omega) (g := (mkF m 6 #[.val (.ref a), .val (.ref b)] [.null, .int (Int32.ofNat A.slots.size), .int (Int32.ofNat 0), .ref b, .ref a])) rfl (by rw [hml]; rfl) c2 (argsL := [.ref b, .int (Int32.ofNat 0), .int (Int32.ofNat A.slots.size), .null]) (rest := []) rfl rfl (by show 2 * 0 + 0 ≤ _; decide) (hb hbytes d6) (⟨rfl, hB.mv X0.warmed.alike hh0, f1.al X0.warmed.alike, f2.al X0.warmed.alike, hA.mv X0.warmed.alike hh0, s1.there X0.warmed.alike hh0, hz, l0, by omega, l2, fun i hi => by rw [Nat.zero_add]; exact hp i hi⟩)
  have e0 := Got.mv _ s₁ s _ _ hh0.symm (Vm.Alike.refl _) rfl E3
  obtain rfl := e0.1
  have c4 : Steps p.tables e below (s₁.setTop (entryFrame m #[.ref a, .ref b] 2)) (T3.setTop (mkF m 9 #[.val (.ref a), .val (.ref b)] [])) := g3
  exact ⟨T3, none, _, _, _, X3, by simp, rfl, by omega, (fun _ => rfl), e0, fun fs hl => c4.trans (X3.returnOut hexec hret (hb hbytes d9) hl)⟩
theorem pays {l : Launch} {R : Room} {p : Program} {e : Env} {below : List Frame} {s : State} {sargs : Array Value} {len W : Nat} (a : Addr) (D : Cell) (fV fC : Field) (b : Addr) (A : Cell) (z : Int32) (htab : tab.before sargs s = true) (hfr : 4 ≤ R.frames) (hlo : W + 65 ≤ R.locals) :
    Back l R p e below s sargs yN len W (fun A₁ a₁ => A₁.cells + 1 ≤ R.cells ∧ A₁.slots + A.slots.size ≤ R.slots ∧ P a D fV fC b A z a₁ A₁.U) (fun A₁ _ v₁ B₁ => E a D fV fC A v₁ A₁.U B₁.U ∧ B₁.locs = A₁.locs ++ [⟨a, fC.slot⟩, ⟨a, fV.slot⟩] ∧ B₁.cells = A₁.cells + 1 ∧ B₁.slots = A₁.slots + A.slots.size) :=
  (law l a D fV fC b A z).pays htab hfr (by omega)
end New1
/-- the byte, read back as charAt reads it, is the char -/
theorem lo8_mask {x : Int32} (h0 : ¬ x < 0) (h1 : ¬ 255 < x) : lo8 x &&& 255 = x := by
  have t : ∀ k : Fin 256, lo8 (Int32.ofNat k.val) &&& 255 = Int32.ofNat k.val := by decide +kernel
  rw [Int32.lt_iff_toInt_lt] at h0 h1
  have e0 : (0 : Int32).toInt = 0 := rfl
  have e1 : (255 : Int32).toInt = 255 := rfl
  obtain ⟨k, hk⟩ : ∃ k : Nat, x.toInt = k := ⟨x.toInt.toNat, by omega⟩
  have hx : x = Int32.ofNat k := Int32.toInt_inj.mp (by rw [hk, Int32.toInt_ofNat_small (by omega)])
  rw [hx]
  exact t ⟨k, by omega⟩
end StrChars
namespace StrChars.Road
open Jvm Sem ClassFile Op Lib Jvm.Stand Jvm.Free Jvm.Free.XT
open Jvm.Lib.Cold (StaticIs)
abbrev ST : String := "java/lang/String"
/-- every table word that New1's law asks, flat -/
abbrev words : List Jvm.Cond := [.code New1.yN New1.yB 2 none, .initialized ST, .methodLink ST 27 New4.yN, .instanceMethod New4.yN,
  .code New4.yN New4.yB 6 none, .fieldLink ST 38 ST "COMPACT_STRINGS" "Z", .laysFinal ST ST "value" "[B", .fieldLink ST 9 ST "value" "[B", .laysFinal ST ST "coder" "B", .fieldLink ST 15 ST "coder" "B",
  .methodLink ST 1 Lib.objectInit, .instanceMethod Lib.objectInit, .code Lib.objectInit ⟨#[0xb1]⟩ 1 none, .methodLink ST 177 Cmp3.yN, .static Cmp3.yN, .methodLink ST 47 CodL.yN, .static CodL.yN,
  .code Cmp3.yN Cmp3.yB 6 (some (.array .byte)), .initialized U16, .arrayClass .byte, .methodLink U16 115 Cmp5.yN, .static Cmp5.yN, .code Cmp5.yN Cmp5.yB 7 (some .int), .code CodL.yN CodL.yB 2 (some .byte)]
theorem tab_of {a : Array Value} {s : State} (h : ∀ w ∈ words, w.before a s = true) : New1.tab.before a s = true := by
  have h5 : Cmp5.tab.before a s = true := unparts (wk h (.code Cmp5.yN Cmp5.yB 7 (some .int))) (wks h (.initialized Cmp5.yN.cls :: Cmp5.site))
  have hc : CodL.tab.before a s = true := unparts (wk h (.code CodL.yN CodL.yB 2 (some .byte))) (wks h (.initialized CodL.yN.cls :: CodL.site))
  have q5 : ∀ w ∈ Cmp5.tab :: words, w.before a s = true := fun w hw => (List.mem_cons.mp hw).elim (fun e => e ▸ h5) (h w)
  have h3 : Cmp3.tab.before a s = true := unparts (wk q5 (.code Cmp3.yN Cmp3.yB 6 (some (.array .byte)))) (wks q5 (.initialized Cmp3.yN.cls :: Cmp3.site))
  have q3 : ∀ w ∈ Cmp3.tab :: CodL.tab :: words, w.before a s = true := fun w hw => (List.mem_cons.mp hw).elim (fun e => e ▸ h3) fun hw => (List.mem_cons.mp hw).elim (fun e => e ▸ hc) (h w)
  have h4 : New4.tab.before a s = true := unparts (wk q3 (.code New4.yN New4.yB 6 none)) (wks q3 (.initialized New4.yN.cls :: New4.site))
  have q4 : ∀ w ∈ New4.tab :: words, w.before a s = true := fun w hw => (List.mem_cons.mp hw).elim (fun e => e ▸ h4) (h w)
  exact unparts (wk q4 (.code New1.yN New1.yB 2 none)) (wks q4 (.initialized New1.yN.cls :: New1.site))
/-- the words ride from the start Z to the walk's own state -/
theorem moved {Z s : State} {a0 args : Array Value} (hZ : Z.Warmed39 s.vm) (hw : ∀ d ∈ words, d.before a0 Z = true) : ∀ d ∈ words, d.before args s = true := fun d hd => by
  have q := hw d hd
  have t : ∀ d ∈ words, d = .arrayClass .byte ∨ (d.onTables && d.keepsFace) = true := by decide +kernel
  rcases t d hd with rfl | t
  · exact RoadKit.mvA hZ q
  · exact RoadKit.mv hZ q t
/-- WHAT COMES BACK, over the tables of the start Z: h the heap at the call, h' behind it -/
def Q (Z : State) (x : Addr) (A : Cell) (h : Heap) (v : Option Value) (h' : Heap) (L : List Loc) : Prop := v = none ∧ (∀ y ∈ L, y.base = x) ∧ RoadKit.Keep h h' [x] ∧ h'.size = h.size + 1 ∧ RoadKit.Exa Z h' x ST ∧ RoadKit.Fld Z h' x ST "value" "[B" (.ref h.size) ∧ RoadKit.Fld Z h' x ST "coder" "B" (.int 0) ∧
  (∃ V : Cell, RoadKit.Arr Z h' h.size V .byte ∧ V.vm = .none ∧ Z.vm.findClass "[B" = some V.cls ∧ V.slots.size = A.slots.size ∧ ∀ j, j < A.slots.size → V.slots[j]? = some (.int (lo8 (cv A j)))) ∧
  ∀ (O n d : String) (w : Value), RoadKit.Fld Z h x O n d w → RoadKit.slotOf Z O n d ≠ RoadKit.slotOf Z ST "value" "[B" → RoadKit.slotOf Z O n d ≠ RoadKit.slotOf Z ST "coder" "B" → RoadKit.Fld Z h' x O n d w
/-- **new String(chars) AT A CALL, IN THE ROAD'S FORM**: for specialBack behind newO: x the fresh String, b the char[] with the cell A -/
theorem back {p : Program} {l : Launch} {e : Env} {R : Room} {s : State} {args : Array Value} {below : List Frame} {len W : Nat} {Z : State} {a0 : Array Value} {h : Heap} (hZ : Z.Warmed39 s.vm) (hw : ∀ d ∈ words, d.before a0 Z = true) {kI : Nat} (wi : (Jvm.Cond.instantiable ST kI).before a0 Z = true)
    {x b : Addr} {A : Cell} {z : Int32} {v0 c0 : Value} (E : RoadKit.Exa Z h x ST) (V : RoadKit.Fld Z h x ST "value" "[B" v0) (C : RoadKit.Fld Z h x ST "coder" "B" c0) (K : RoadKit.Arr Z h b A .char) (hty : Typed .char A) (S : RoadKit.Sta Z h ST "COMPACT_STRINGS" "Z" (.int z)) (hz : ¬ z = 0)
    (l0 : 0 < A.slots.size) (l2 : A.slots.size ≤ 536870912) (hp : ∀ i, i < A.slots.size → ¬ 255 < cv A i) (hfr : 4 ≤ R.frames) (hlo : W + 65 ≤ R.locals) :
    Back l R p e below s args New1.yN len W (fun P a => a = #[.ref x, .ref b] ∧ P.U.heap = h ∧ P.cells + 1 ≤ R.cells ∧ P.slots + A.slots.size ≤ R.slots)
      (fun P _ v B => ∃ L, Q Z x A h v B.U.heap L ∧ B.locs = P.locs ++ L ∧ B.cells = P.cells + 1 ∧ B.slots = P.slots + A.slots.size) := by
  intro m meth c P g ig mk a X hg hsize hdg hW hn hp'
  obtain ⟨rfl, rfl, r1, r2⟩ := hp'
  have al : Z.vm.Alike P.U.vm := hZ.alike.trans X.warmed.alike
  obtain ⟨D, cfV, kV, iV, fV, hD, gV, stV, knV, obV, asV, slV⟩ := id V
  obtain ⟨D', cfC, kC, iC, fC, hD', gC, stC, -, -, asC, slC⟩ := id C
  cases hD.symm.trans hD'
  obtain ⟨D2, kD, e1, e2, e3, e4, e5⟩ := id E
  cases hD.symm.trans e1
  obtain ⟨c2, k2, i1, i2, i3, -⟩ := Cond.instantiable_spec wi
  cases e2.symm.trans i1
  cases e3.symm.trans i2
  obtain ⟨kU, u1, u2⟩ := al.2.2 _ _ e3
  have hB : Blank ST x D P.U := ⟨hD, ⟨knV, fun q hq => by rw [hq] at obV; cases obV⟩, by rw [al.findClass]; exact e2, kU, u1, by rw [u2]; exact i3, by rw [u2]; exact e5 i3⟩
  have F1 : Found ST "value" "[B" fV P.U := ⟨SBG.found_only al ⟨cfV, kV, iV, gV⟩, stV⟩
  have F2 : Found ST "coder" "B" fC P.U := ⟨SBG.found_only al ⟨cfC, kC, iC, gC⟩, stC⟩
  have hA : Ch b A P.U := ⟨⟨K.1, State.isArrayOf_alike al K.2.1, K.2.2, by omega⟩, hty⟩
  have hS : StaticIs P.U ST "COMPACT_STRINGS" "Z" (.int z) := by
    obtain ⟨cfS, iS, kS, fS, st, cS, t1, t2, t3, t4, t5, t6, t7⟩ := S
    exact StaticIs.there (s := { Z with heap := P.U.heap }) ⟨cfS, iS, kS, fS, st, cS, t1, t2, t3, t4, t5, (fun q => by rw [q] at t6; cases t6), t7⟩ al rfl
  obtain ⟨v, B, X', ⟨⟨hv, E', V', q1, q2, q3, q4, q5, q6, q7, q8, q9, q10, q11⟩, hl, hc, hs⟩, st⟩ := New1.pays x D fV fC b A z (tab_of (moved hZ hw)) hfr hlo m meth c P g ig mk _ X hg hsize hdg hW hn ⟨r1, r2, rfl, hB, F1, F2, hA, hS, hz, l0, l2, hp⟩
  have al' : Z.vm.Alike B.U.vm := hZ.alike.trans X'.warmed.alike
  have hsz : E'.slots.size = D.slots.size := by
    obtain ⟨-, -, -, kB, w1, w2, w3⟩ := q1
    obtain ⟨kB', y1, y2⟩ := al'.2.2 _ _ e3
    rw [q2.2.1] at w1
    cases w1.symm.trans y1
    rw [w3, e5 i3, y2]
  refine ⟨v, B, X', ⟨_, ⟨hv, ?_, ⟨by omega, fun y cy hy hn' => q10 y cy (by simpa using hn') hy, fun y cy hy => ?_⟩, q11, ⟨E', _, q1.1, by rw [q2.2.1]; exact e2, by rw [q2.2.1]; exact e3, by rw [q2.1]; exact obV, fun _ => by rw [hsz]; exact e5 i3⟩,
    ⟨E', cfV, kV, iV, fV, q1.1, gV, stV, by rw [q2.1]; exact knV, by rw [q2.1]; exact obV, by rw [q2.2.1]; exact asV, q3⟩, ⟨E', cfC, kC, iC, fC, q1.1, gC, stC, by rw [q2.1]; exact knV, by rw [q2.1]; exact obV, by rw [q2.2.1]; exact asC, q4⟩,
    ⟨V', ⟨q5.1, State.isArrayOf_alike al'.symm q5.2.1, q5.2.2.1⟩, q6, by rw [← al'.findClass]; exact q7, q8, fun j hj => by have := q9 j hj; rwa [Nat.zero_add] at this⟩, fun O n d w F n1 n2 => ?_⟩, hl, hc, hs⟩, st⟩
  · intro y hy
    simp only [List.mem_cons, List.not_mem_nil, or_false] at hy
    rcases hy with rfl | rfl <;> rfl
  · by_cases q : y = x
    · subst q
      cases hD.symm.trans hy
      exact ⟨E', q1.1, q2.2.1, q2.1, hsz⟩
    · exact ⟨cy, q10 y cy q hy, rfl, rfl, rfl⟩
  · obtain ⟨D3, cf, k, i, f, g1, g2, g3, g4, g5, g6, g7⟩ := F
    cases hD.symm.trans g1
    simp only [RoadKit.slotOf, g2, gV, gC, Option.map_some, Option.getD_some] at n1 n2
    exact ⟨E', cf, k, i, f, q1.1, g2, g3, by rw [q2.1]; exact g4, by rw [q2.1]; exact g5, by rw [q2.2.1]; exact g6, by rw [q2.2.2 f.slot (by simp [n1, n2])]; exact g7⟩
end StrChars.Road
namespace StrChars.Road
open Jvm Sem ClassFile Op Lib Jvm.Stand Jvm.Free Jvm.Free.XT
/-- WHAT COMES BACK, the byte[] as a list of values -/
def QA (Z : State) (x : Addr) (zn : Int32) (cs : List Int32) (h : Heap) (v : Option Value) (h' : Heap) (L : List Loc) : Prop := v = none ∧ (∀ y ∈ L, y.base = x) ∧ RoadKit.Keep h h' [x] ∧ h'.size = h.size + 1 ∧ RoadKit.Exa Z h' x ST ∧ RoadKit.Fld Z h' x ST "value" "[B" (.ref h.size) ∧ RoadKit.Fld Z h' x ST "coder" "B" (.int 0) ∧
  (∃ kb, Z.vm.findClass "[B" = some kb ∧ RoadKit.Arv Z h' h.size kb .byte zn (cs.map fun c => .int (lo8 c)) (.int 0)) ∧
  ∀ (O n d : String) (w : Value), RoadKit.Fld Z h x O n d w → RoadKit.slotOf Z O n d ≠ RoadKit.slotOf Z ST "value" "[B" → RoadKit.slotOf Z O n d ≠ RoadKit.slotOf Z ST "coder" "B" → RoadKit.Fld Z h' x O n d w
/-- **new String(chars) AT A CALL, THE ARRAYS AS LISTS**: the char[] at b holds cs, not empty, no char above 255 -/
theorem backArv {p : Program} {l : Launch} {e : Env} {R : Room} {s : State} {args : Array Value} {below : List Frame} {len W : Nat} {Z : State} {a0 : Array Value} {h : Heap} (hZ : Z.Warmed39 s.vm) (hw : ∀ d ∈ words, d.before a0 Z = true) {kI : Nat} (wi : (Jvm.Cond.instantiable ST kI).before a0 Z = true)
    {x b : Addr} {k : ClassId} {zn z : Int32} {cs : List Int32} {dv v0 c0 : Value} (E : RoadKit.Exa Z h x ST) (V : RoadKit.Fld Z h x ST "value" "[B" v0) (C : RoadKit.Fld Z h x ST "coder" "B" c0) (K : RoadKit.Arv Z h b k .char zn (cs.map Value.int) dv) (S : RoadKit.Sta Z h ST "COMPACT_STRINGS" "Z" (.int z)) (hz : ¬ z = 0)
    (hlen : zn.toNatClampNeg = cs.length) (h0 : 0 < cs.length) (hbig : cs.length ≤ 536870912) (hall : ∀ c ∈ cs, ¬ 255 < c) (hfr : 4 ≤ R.frames) (hlo : W + 65 ≤ R.locals) :
    Back l R p e below s args New1.yN len W (fun P a => a = #[.ref x, .ref b] ∧ P.U.heap = h ∧ P.cells + 1 ≤ R.cells ∧ P.slots + cs.length ≤ R.slots)
      (fun P _ v B => ∃ L, QA Z x zn cs h v B.U.heap L ∧ B.locs = P.locs ++ L ∧ B.cells = P.cells + 1 ∧ B.slots = P.slots + cs.length) := by
  obtain ⟨A, K1, K2, K3, K4, K5, K6⟩ := K
  have e : A.slots.size = cs.length := K3.trans hlen
  have hat : ∀ (i : Nat) (hi : i < cs.length), A.slots[i]? = some (.int cs[i]) := fun i hi => by rw [K5 i (by omega)]; simp [List.getD_eq_getElem?_getD, hi]
  have hcv : ∀ (i : Nat) (hi : i < cs.length), cv A i = cs[i] := fun i hi => by unfold cv; rw [hat i hi]
  have hty : Typed .char A := fun i v hv => by
    have hi : i < A.slots.size := (Array.getElem?_eq_some_iff.mp hv).1
    have q := K5 i hi
    rw [hv] at q
    rw [Option.some.inj q]
    exact K6 i hi
  refine Back.mono (back hZ hw wi E V C K1 hty S hz (by omega) (by omega) (fun i hi => by rw [hcv i (by omega)]; exact hall _ (List.getElem_mem _)) hfr hlo) (fun P a hp => ⟨hp.1, hp.2.1, hp.2.2.1, by rw [e]; exact hp.2.2.2⟩) (fun P a v B hp hq => ?_)
  obtain ⟨L, ⟨q1, q2, q3, q4, q5, q6, q7, ⟨V', v1, v2, v3, v4, v5⟩, q9⟩, hl, hc, hs⟩ := hq
  refine ⟨L, ⟨q1, q2, q3, q4, q5, q6, q7, ⟨V'.cls, v3, V', v1, rfl, by rw [v4, e, hlen], K4, fun i hi => ?_, fun i hi => ?_⟩, q9⟩, hl, hc, by rw [hs, e]⟩
  · have hi' : i < cs.length := by omega
    rw [v5 i (by omega), hcv i hi']; simp [List.getD_eq_getElem?_getD, hi']
  · have hi' : i < cs.length := by omega
    simp only [List.getD_eq_getElem?_getD, List.getElem?_map, List.getElem?_eq_getElem hi', Option.map_some, Option.getD_some]
    exact fits_lo8 _
end StrChars.Road
namespace StrChars.Road
open Jvm Sem ClassFile Op Lib Jvm.Stand Jvm.Free Jvm.Free.XT
/-- WHAT COMES BACK, in the writer's own shape -/
def QV (Z : State) (x : Addr) (N : Int32) (bs : List Int32) (h : Heap) (n0 : Nat) (v : Option Value) (h' : Heap) (L : List Loc) : Prop := v = none ∧ RoadKit.Fr n0 L ∧ RoadKit.Keep h h' [x] ∧ RoadKit.Exa Z h' x ST ∧ RoadKit.Fld Z h' x ST "coder" "B" (.int 0) ∧
  ∃ (t : Addr) (kb : ClassId), n0 ≤ t ∧ h.size ≤ t ∧ ¬ t = x ∧ RoadKit.Fld Z h' x ST "value" "[B" (.ref t) ∧ RoadKit.Arv Z h' t kb .byte N (bs.map Value.int) (.int 0)
/-- **new String(chars) AT A CALL, FOR THE WRITER**: a char[] of n known ints, each 0 to 255 -/
theorem backV {p : Program} {l : Launch} {e : Env} {R : Room} {s : State} {args : Array Value} {below : List Frame} {len W : Nat} {Z : State} {a0 : Array Value} {h : Heap} (hZ : Z.Warmed39 s.vm) (hw : ∀ d ∈ words, d.before a0 Z = true) {kI : Nat} (wi : (Jvm.Cond.instantiable ST kI).before a0 Z = true)
    {x b : Addr} {kC : ClassId} {cs bs : List Int32} {d v0 c0 : Value} {z N : Int32} {n n0 : Nat} (hx0 : n0 ≤ x) (hh0 : n0 ≤ h.size) (E : RoadKit.Exa Z h x ST) (V : RoadKit.Fld Z h x ST "value" "[B" v0) (C : RoadKit.Fld Z h x ST "coder" "B" c0) (K : RoadKit.Arv Z h b kC .char N (cs.map Value.int) d) (S : RoadKit.Sta Z h ST "COMPACT_STRINGS" "Z" (.int z)) (hz : ¬ z = 0)
    (hn : cs.length = n) (hN : N = Int32.ofNat n) (l0 : 0 < n) (l2 : n ≤ 4000) (hp : ∀ c ∈ cs, ¬ c < 0 ∧ ¬ (255 : Int32) < c) (hb : bs = cs.map (fun c => c.toInt8.toInt32)) (hfr : 4 ≤ R.frames) (hlo : W + 65 ≤ R.locals) :
    Back l R p e below s args (⟨"java/lang/String", "<init>", "([C)V"⟩ : MethodName) len W (fun P a => a = #[.ref x, .ref b] ∧ P.U.heap = h ∧ P.cells + 1 ≤ R.cells ∧ P.slots + n ≤ R.slots)
      (fun P _ v B => ∃ L, QV Z x N bs h n0 v B.U.heap L ∧ B.locs = P.locs ++ L ∧ B.cells = P.cells + 1 ∧ B.slots = P.slots + n) := by
  subst hn hN hb
  refine Back.mono (backArv hZ hw wi E V C K S hz (n32 (by omega)) l0 (by omega) (fun c hc => (hp c hc).2) hfr hlo) (fun P a hp => hp) (fun P a v B hp hq => ?_)
  obtain ⟨L, ⟨q1, q2, q3, q4, q5, q6, q7, ⟨kb, v1, v2⟩, q9⟩, hl, hc, hs⟩ := hq
  exact ⟨L, ⟨q1, fun y hy => by rw [q2 y hy]; exact hx0, q3, q5, q7, h.size, kb, hh0, Nat.le_refl _, Nat.ne_of_gt E.lt, q6, by rw [List.map_map]; exact v2⟩, hl, hc, hs⟩
end StrChars.Road
namespace StrChars
open Jvm Sem ClassFile Op Lib Jvm.Stand Jvm.Free.XT Jvm.Free.ALB Jvm.Free.JM Jvm.Free
open Jvm.Lib.Cold (StaticIs)
def hi8 (x : Int32) : Int32 := lo8 (x >>> ((8 : Int32) &&& 31))
/-- what StringUTF16.getChar makes of two bytes -/
def pairCh (u v : Int32) : Int32 := (((u &&& 255) <<< ((0 : Int32) &&& 31)) ||| ((v &&& 255) <<< ((8 : Int32) &&& 31))).toUInt32.toUInt16.toUInt32.toInt32
theorem shr0 (c : Int32) : c >>> ((0 : Int32) &&& 31) = c := by
  have e : ((0 : Int32) &&& 31) = 0 := by decide
  rw [e]
  apply Int32.toBitVec_inj.mp
  rw [Int32.toBitVec_shiftRight]
  have e1 : ((0 : Int32).toBitVec.smod 32) = 0#32 := by decide
  rw [e1, BitVec.sshiftRight_eq']
  exact BitVec.sshiftRight_zero
theorem lo8_and (x : Int32) : (lo8 x &&& 255).toBitVec.toNat = x.toBitVec.toNat % 256 := by
  have h : (lo8 x).toBitVec = (x.toBitVec.signExtend 8).signExtend 32 := by rw [lo8, Int8.toBitVec_toInt32, Int32.toBitVec_toInt8]
  rw [Int32.toBitVec_and, BitVec.toNat_and, h]
  have e : ((x.toBitVec.signExtend 8).signExtend 32).toNat % 256 = x.toBitVec.toNat % 256 := by
    rw [BitVec.toNat_signExtend]
    have hlt := x.toBitVec.isLt
    simp only [BitVec.toNat_setWidth, BitVec.toNat_signExtend]
    split <;> split <;> omega
  rw [← e]
  exact Nat.and_two_pow_sub_one_eq_mod _ 8
theorem pair_says {c : Int32} (h0 : ¬ c < 0) (h1 : ¬ 65535 < c) : pairCh (lo8 c) (hi8 c) = c := by
  rw [Int32.lt_iff_toInt_lt] at h0 h1
  have e0 : (0 : Int32).toInt = 0 := rfl
  have e1 : (65535 : Int32).toInt = 65535 := rfl
  have hc : c.toInt = c.toBitVec.toNat := by
    have := c.toBitVec.isLt
    have e : c.toInt = c.toBitVec.toInt := rfl
    rw [e] at h0 h1
    rw [e]
    rw [BitVec.toInt_eq_toNat_cond] at h0 h1 ⊢
    split at h0 <;> split <;> omega
  have hn : c.toBitVec.toNat < 65536 := by omega
  have a1 := lo8_and c
  have a2 : (hi8 c &&& 255).toBitVec.toNat = c.toBitVec.toNat / 256 := by
    rw [hi8, lo8_and]
    have e : ((8 : Int32) &&& 31) = 8 := by decide
    rw [e, Int32.toBitVec_shiftRight]
    have e2 : ((8 : Int32).toBitVec.smod 32) = 8#32 := by decide
    rw [e2, BitVec.sshiftRight_eq', BitVec.toNat_sshiftRight_of_msb_false (by rw [BitVec.msb_eq_false_iff_two_mul_lt]; omega)]
    show c.toBitVec.toNat >>> 8 % 256 = _
    rw [Nat.shiftRight_eq_div_pow]
    omega
  unfold pairCh
  apply Int32.toBitVec_inj.mp
  apply BitVec.eq_of_toNat_eq
  have f0 : ((0 : Int32) &&& 31) = 0 := by decide
  have f8 : ((8 : Int32) &&& 31) = 8 := by decide
  rw [f0, f8]
  have g : (((lo8 c &&& 255) <<< (0 : Int32)) ||| ((hi8 c &&& 255) <<< (8 : Int32))).toBitVec.toNat = c.toBitVec.toNat := by
    rw [Int32.toBitVec_or, Int32.toBitVec_shiftLeft, Int32.toBitVec_shiftLeft]
    have s0 : ((0 : Int32).toBitVec.smod 32) = 0#32 := by decide
    have s8 : ((8 : Int32).toBitVec.smod 32) = 8#32 := by decide
    rw [s0, s8, BitVec.toNat_or]
    simp only [BitVec.shiftLeft_eq', BitVec.toNat_shiftLeft, a1, a2]
    show (c.toBitVec.toNat % 256) <<< 0 % 2 ^ 32 ||| (c.toBitVec.toNat / 256) <<< 8 % 2 ^ 32 = _
    rw [Nat.shiftLeft_zero, Nat.mod_eq_of_lt (show c.toBitVec.toNat % 256 < 2 ^ 32 by omega), Nat.mod_eq_of_lt (show (c.toBitVec.toNat / 256) <<< 8 < 2 ^ 32 by rw [Nat.shiftLeft_eq]; omega), Nat.or_comm, ← Nat.shiftLeft_add_eq_or_of_lt (by omega), Nat.shiftLeft_eq]
    omega
  show BitVec.toNat (((((lo8 c &&& 255) <<< (0 : Int32)) ||| ((hi8 c &&& 255) <<< (8 : Int32))).toBitVec.setWidth 16).setWidth 32) = _
  rw [BitVec.toNat_setWidth, BitVec.toNat_setWidth, g]
  omega
end StrChars
namespace StrChars
open Jvm Sem ClassFile Op Lib Jvm.Stand Jvm.Free.XT Jvm.Free.ALB Jvm.Free.JM Jvm.Free
open Jvm.Lib.Cold (StaticIs)
theorem shr1 {n : Nat} (h : 2 * n < 2 ^ 31) : Int32.ofNat (2 * n) >>> ((1 : Int32) &&& 31) = Int32.ofNat n := by
  have e : ((1 : Int32) &&& 31) = 1 := by decide
  rw [e]
  apply Int32.toBitVec_inj.mp
  rw [Int32.toBitVec_shiftRight]
  have e1 : ((1 : Int32).toBitVec.smod 32) = 1#32 := by decide
  have hm : (BitVec.ofNat 32 (2 * n)).toNat = 2 * n := by rw [BitVec.toNat_ofNat, Nat.mod_eq_of_lt (by omega)]
  rw [e1, BitVec.sshiftRight_eq']
  apply BitVec.eq_of_toNat_eq
  show ((BitVec.ofNat 32 (2 * n)).sshiftRight 1).toNat = (BitVec.ofNat 32 n).toNat
  rw [BitVec.toNat_sshiftRight_of_msb_false (by rw [BitVec.msb_eq_false_iff_two_mul_lt, hm]; omega), hm, BitVec.toNat_ofNat, Nat.shiftRight_eq_div_pow]
  omega
/-- charAt's cast of a byte read back -/
def chr8 (u : Int32) : Int32 := (u &&& 255).toUInt32.toUInt16.toUInt32.toInt32
theorem chr8_lo8 {c : Int32} (h0 : ¬ c < 0) (h1 : ¬ 255 < c) : chr8 (lo8 c) = c := by
  have t : ∀ k : Fin 256, (Int32.ofNat k.val).toUInt32.toUInt16.toUInt32.toInt32 = Int32.ofNat k.val := by decide +kernel
  unfold chr8
  rw [lo8_mask h0 h1]
  rw [Int32.lt_iff_toInt_lt] at h0 h1
  have e0 : (0 : Int32).toInt = 0 := rfl
  have e1 : (255 : Int32).toInt = 255 := rfl
  obtain ⟨k, hk⟩ : ∃ k : Nat, c.toInt = k := ⟨c.toInt.toNat, by omega⟩
  have hx : c = Int32.ofNat k := Int32.toInt_inj.mp (by rw [hk, Int32.toInt_ofNat_small (by omega)])
  rw [hx]
  exact t ⟨k, by omega⟩
theorem narrow_ch {c : Int32} (h0 : ¬ c < 0) (h1 : ¬ 65535 < c) : narrow .char (.int c) = .int c := by
  have q : narrow .char (.int (pairCh (lo8 c) (hi8 c))) = .int (pairCh (lo8 c) (hi8 c)) := narrow_c _
  rwa [pair_says h0 h1] at q
/-- the array's cell V codes the n chars f 0 .. f (n - 1) by the coder cd, as the JDK does: coder 1 just where some char is above 255 -/
def Cod (cd : Int32) (n : Nat) (f : Nat → Int32) (V : Cell) : Prop := (cd = 0 ∧ V.slots.size = n ∧ ∀ j, j < n → V.slots[j]? = some (.int (lo8 (f j))) ∧ ¬ 255 < f j) ∨ (cd = 1 ∧ V.slots.size = 2 * n ∧ (∀ j, j < n → V.slots[2 * j]? = some (.int (lo8 (f j))) ∧ V.slots[2 * j + 1]? = some (.int (hi8 (f j)))) ∧ ∃ j, j < n ∧ 255 < f j)
theorem Cod.cd {cd : Int32} {n : Nat} {f : Nat → Int32} {V : Cell} (h : Cod cd n f V) : cd = 0 ∨ cd = 1 := h.imp (fun q => q.1) fun q => q.1
theorem Cod.len {cd : Int32} {n : Nat} {f : Nat → Int32} {V : Cell} (h : Cod cd n f V) (hs : V.slots.size < 2 ^ 31) : Int32.ofNat V.slots.size >>> (cd &&& 31) = Int32.ofNat n := by
  rcases h with ⟨rfl, h, -⟩ | ⟨rfl, h, -⟩
  · rw [shr0, h]
  · rw [h, shr1 (by omega)]
/-- **x is a String of the n chars f 0 .. f (n - 1)**, Latin-1 or UTF-16; its array at t has the cell V -/
def Txt (x t : Addr) (V : Cell) (cd : Int32) (n : Nat) (f : Nat → Int32) (U : State) : Prop := Exact "java/lang/String" x U ∧ Has x "java/lang/String" "value" "[B" (.ref t) U ∧ Has x "java/lang/String" "coder" "B" (.int cd) U ∧ XT.Arr .byte t V U ∧ Cod cd n f V ∧ ∀ j, j < n → ¬ f j < 0 ∧ ¬ 65535 < f j
theorem Txt.mv {x t : Addr} {V : Cell} {cd : Int32} {n : Nat} {f : Nat → Int32} {U U' : State} (h : Txt x t V cd n f U) (hal : U.vm.Alike U'.vm) (hh : U'.heap = U.heap) : Txt x t V cd n f U' := ⟨h.1.mv hal hh, h.2.1.mv hal hh, h.2.2.1.mv hal hh, h.2.2.2.1.mv hal hh, h.2.2.2.2⟩
namespace Cdr
def yN : MethodName := ⟨"java/lang/String", "coder", "()B"⟩
abbrev yB : ByteArray := jdk_42_method_152_code
theorem d0 : decode yB 0 = .ok (.getstatic 38, 3) := by decide +kernel
theorem d3 : decode yB 3 = .ok (.ifCond (.eq) 10, 3) := by decide +kernel
theorem d6 : decode yB 6 = .ok (.aload_n 0, 1) := by decide +kernel
theorem d7 : decode yB 7 = .ok (.getfield 15, 3) := by decide +kernel
theorem d10 : decode yB 10 = .ok (.goto 4, 3) := by decide +kernel
theorem d14 : decode yB 14 = .ok (.ireturn, 1) := by decide +kernel
def site : List Cond := [.fieldLink "java/lang/String" 38 "java/lang/String" "COMPACT_STRINGS" "Z", .fieldLink "java/lang/String" 15 "java/lang/String" "coder" "B"]
def tab : Cond := tabOf yN yB 1 (some .byte) site
def P (x : Addr) (cd z : Int32) (args : Array Value) (s : State) : Prop := args = #[.ref x] ∧ Has x "java/lang/String" "coder" "B" (.int cd) s ∧ (cd = 0 ∨ cd = 1) ∧ StaticIs s "java/lang/String" "COMPACT_STRINGS" "Z" (.int z) ∧ ¬ z = 0
def E (cd : Int32) (r : Option Value) (s u : State) : Prop := XT.PureE (some (.int cd)) r s u
theorem law (l : Launch) (x : Addr) (cd z : Int32) : Law l yN 1 0 0 0 yB 1 (some .byte) site (P x cd z) (E cd) [] 0 0 := by
  refine Law.of_walk (plainFor_of_name (by decide +kernel)) (by decide +kernel) (by decide +kernel) (by decide) (fun _ _ h => by rw [h.1]; rfl) (fun _ U U' hal hh h => ⟨h.1, h.2.1.mv hal hh, h.2.2.1, h.2.2.2.1.there hal hh, h.2.2.2.2⟩) (fun r U U' V V' h1 hal h2 h => XT.PureE.mv r U U' V V' h1 hal h2 h) ?_
  intro p e s m args below meth c s₁ X0 hexec hbytes hml hret hlk hnm hown hh0 W hP
  obtain ⟨rfl, hx, hc, s1, hz⟩ := hP
  have c1 : Steps p.tables e below (s₁.setTop (entryFrame m #[.ref x] 1)) (s₁.setTop (mkF m 0 #[.val (.ref x)] [])) := entry rfl
  obtain ⟨T2, X2, q2, st2⟩ := X0.sget hexec hown (wk W (.fieldLink "java/lang/String" 38 "java/lang/String" "COMPACT_STRINGS" "Z")) s1 (fun _ _ h => by rw [hh0]; exact h) (g := (mkF m 0 #[.val (.ref x)] [])) rfl (hb hbytes d0)
  have hh2 := q2.trans hh0
  have c3 : Steps p.tables e below (s₁.setTop (entryFrame m #[.ref x] 1)) (T2.setTop (mkF m 7 #[.val (.ref x)] [.ref x])) := (c1.trans (st2 _ (Steps.refl _))).trans (by
    refine XS.ifNo X2.here hexec rfl (hb hbytes d3) rfl (i0_eq_f hz) ?_
    refine XS.aloadN X2.here hexec rfl (hb hbytes d6) rfl rfl ?_
    exact Steps.refl _)
  obtain ⟨T4, X4, q4, st4⟩ := X2.hget hexec hown (wk W (.fieldLink "java/lang/String" 15 "java/lang/String" "coder" "B")) (hx.mv X2.warmed.alike hh2) (g := (mkF m 7 #[.val (.ref x)] [.ref x])) rfl (rest := []) rfl (hb hbytes d7)
  have c5 : Steps p.tables e below (s₁.setTop (entryFrame m #[.ref x] 1)) (T4.setTop (mkF m 14 #[.val (.ref x)] [.int cd])) := (c3.trans (st4 _ (Steps.refl _))).trans (by
    refine XS.goto X4.here hexec rfl (pc0 := 10) rfl (hb hbytes d10) (by decide) rfl ?_
    exact Steps.refl _)
  exact ⟨T4, some (.int cd), _, _, _, X4, rfl, rfl, rfl, (fun h => by cases h), ⟨rfl, q4.trans hh2⟩, fun fs hl => c5.trans (X4.ireturnOut hexec hret (by rcases hc with rfl | rfl <;> rfl) (Or.inr (Or.inr (Or.inl rfl))) (hb hbytes d14) hl)⟩
end Cdr
namespace Len
def yN : MethodName := ⟨"java/lang/String", "length", "()I"⟩
abbrev yB : ByteArray := jdk_42_method_54_code
theorem d0 : decode yB 0 = .ok (.aload_n 0, 1) := by decide +kernel
theorem d1 : decode yB 1 = .ok (.getfield 9, 3) := by decide +kernel
theorem d4 : decode yB 4 = .ok (.arraylength, 1) := by decide +kernel
theorem d5 : decode yB 5 = .ok (.aload_n 0, 1) := by decide +kernel
theorem d6 : decode yB 6 = .ok (.invokevirtual 335, 3) := by decide +kernel
theorem d9 : decode yB 9 = .ok (.ishr, 1) := by decide +kernel
theorem d10 : decode yB 10 = .ok (.ireturn, 1) := by decide +kernel
def site : List Cond := [.fieldLink "java/lang/String" 9 "java/lang/String" "value" "[B", Cdr.tab] ++ virtW "java/lang/String" 335 "java/lang/String" Cdr.yN Cdr.yN
def tab : Cond := tabOf yN yB 1 (some .int) site
def P (x t : Addr) (V : Cell) (cd : Int32) (n : Nat) (f : Nat → Int32) (z : Int32) (args : Array Value) (s : State) : Prop := args = #[.ref x] ∧ Txt x t V cd n f s ∧ StaticIs s "java/lang/String" "COMPACT_STRINGS" "Z" (.int z) ∧ ¬ z = 0
def E (n : Nat) (r : Option Value) (s u : State) : Prop := XT.PureE (some (.int (Int32.ofNat n))) r s u
/-- length() of a String of n chars, in either coding -/
theorem law (l : Launch) (x t : Addr) (V : Cell) (cd : Int32) (n : Nat) (f : Nat → Int32) (z : Int32) : Law l yN 1 0 1 13 yB 1 (some .int) site (P x t V cd n f z) (E n) [] 0 0 := by
  refine Law.of_walk (plainFor_of_name (by decide +kernel)) (by decide +kernel) (by decide +kernel) (by decide) (fun _ _ h => by rw [h.1]; rfl) (fun _ U U' hal hh h => ⟨h.1, h.2.1.mv hal hh, h.2.2.1.there hal hh, h.2.2.2⟩) (fun r U U' V V' h1 hal h2 h => XT.PureE.mv r U U' V V' h1 hal h2 h) ?_
  intro p e s m args below meth c s₁ X0 hexec hbytes hml hret hlk hnm hown hh0 W hP
  obtain ⟨rfl, hx, s1, hz⟩ := hP
  have v31 := hx.2.2.2.1.2.2.2
  have c1 : Steps p.tables e below (s₁.setTop (entryFrame m #[.ref x] 1)) (s₁.setTop (mkF m 1 #[.val (.ref x)] [.ref x])) := Steps.trans (entry rfl) (by
    show Steps p.tables e below (s₁.setTop (mkF m 0 #[.val (.ref x)] [])) _
    refine XS.aloadN X0.here hexec rfl (hb hbytes d0) rfl rfl ?_
    exact Steps.refl _)
  obtain ⟨T2, X2, q2, st2⟩ := X0.hget hexec hown (wk W (.fieldLink "java/lang/String" 9 "java/lang/String" "value" "[B")) (hx.mv X0.warmed.alike hh0).2.1 (g := (mkF m 1 #[.val (.ref x)] [.ref x])) rfl (rest := []) rfl (hb hbytes d1)
  have hh2 := q2.trans hh0
  have hx2 := hx.mv X2.warmed.alike hh2
  have c3 : Steps p.tables e below (s₁.setTop (entryFrame m #[.ref x] 1)) (T2.setTop (mkF m 6 #[.val (.ref x)] [.ref x, .int (Int32.ofNat V.slots.size)])) := (c1.trans (st2 _ (Steps.refl _))).trans (by
    refine X2.alen hexec hx2.2.2.2.1 rfl rfl (hb hbytes d4) ?_
    refine XS.aloadN X2.here hexec rfl (hb hbytes d5) rfl rfl ?_
    exact Steps.refl _)
  obtain ⟨v4, T4, X4, E4, g4⟩ := X2.callV hexec (Cdr.law l x cd z) hown (wks W (virtW "java/lang/String" 335 "java/lang/String" Cdr.yN Cdr.yN)) rfl (by decide) (wk W Cdr.tab) (W := 1) (Nat.le_of_ble_eq_true rfl) (Nat.le_of_ble_eq_true rfl) (Nat.le_refl _) (Nat.le_refl _) (hx2.1.fc X2.warmed.alike) hx2.1.is (g := (mkF m 6 #[.val (.ref x)] [.ref x, .int (Int32.ofNat V.slots.size)])) rfl (by rw [hml]; rfl) c3 (argsL := []) (rest := [.int (Int32.ofNat V.slots.size)]) rfl rfl (by show 2 * 0 + (1 + 0) ≤ _; decide) (hb hbytes d6) (⟨rfl, hx2.2.2.1, hx.2.2.2.2.1.cd, s1.there X2.warmed.alike hh2, hz⟩)
  obtain ⟨rfl, q4⟩ := E4
  have c5 : Steps p.tables e below (s₁.setTop (entryFrame m #[.ref x] 1)) (T4.setTop (mkF m 10 #[.val (.ref x)] [.int (Int32.ofNat V.slots.size >>> (cd &&& 31))])) := Steps.trans g4 (by
    refine ishr X4.here hexec rfl (hb hbytes d9) rfl ?_
    exact Steps.refl _)
  rw [hx.2.2.2.2.1.len v31] at c5
  exact ⟨T4, some (.int (Int32.ofNat n)), _, _, _, X4, rfl, rfl, rfl, (fun h => by cases h), ⟨rfl, q4.trans hh2⟩, fun fs hl => c5.trans (X4.ireturnOut hexec hret rfl (Or.inl rfl) (hb hbytes d10) hl)⟩
theorem pays {l : Launch} {R : Room} {p : Program} {e : Env} {below : List Frame} {s : State} {sargs : Array Value} {len W : Nat} (x t : Addr) (V : Cell) (cd : Int32) (n : Nat) (f : Nat → Int32) (z : Int32) (htab : tab.before sargs s = true) (hfr : 2 ≤ R.frames) (hlo : W + 25 ≤ R.locals) :
    Back l R p e below s sargs yN len W (fun A₁ a₁ => A₁.cells + 0 ≤ R.cells ∧ A₁.slots + 0 ≤ R.slots ∧ P x t V cd n f z a₁ A₁.U) (fun A₁ _ v₁ B₁ => E n v₁ A₁.U B₁.U ∧ B₁.locs = A₁.locs ++ [] ∧ B₁.cells = A₁.cells + 0 ∧ B₁.slots = A₁.slots + 0) :=
  (law l x t V cd n f z).pays htab hfr (by omega)
end Len
namespace IsL
def yN : MethodName := ⟨"java/lang/String", "isLatin1", "()Z"⟩
abbrev yB : ByteArray := jdk_42_method_154_code
theorem d0 : decode yB 0 = .ok (.getstatic 38, 3) := by decide +kernel
theorem d3 : decode yB 3 = .ok (.ifCond (.eq) 14, 3) := by decide +kernel
theorem d6 : decode yB 6 = .ok (.aload_n 0, 1) := by decide +kernel
theorem d7 : decode yB 7 = .ok (.getfield 15, 3) := by decide +kernel
theorem d10 : decode yB 10 = .ok (.ifCond (.ne) 7, 3) := by decide +kernel
theorem d13 : decode yB 13 = .ok (.iconst 1, 1) := by decide +kernel
theorem d14 : decode yB 14 = .ok (.goto 4, 3) := by decide +kernel
theorem d17 : decode yB 17 = .ok (.iconst 0, 1) := by decide +kernel
theorem d18 : decode yB 18 = .ok (.ireturn, 1) := by decide +kernel
def site : List Cond := [.fieldLink "java/lang/String" 38 "java/lang/String" "COMPACT_STRINGS" "Z", .fieldLink "java/lang/String" 15 "java/lang/String" "coder" "B"]
def tab : Cond := tabOf yN yB 1 (some .boolean) site
def P (x : Addr) (cd z : Int32) (args : Array Value) (s : State) : Prop := args = #[.ref x] ∧ Has x "java/lang/String" "coder" "B" (.int cd) s ∧ (cd = 0 ∨ cd = 1) ∧ StaticIs s "java/lang/String" "COMPACT_STRINGS" "Z" (.int z) ∧ ¬ z = 0
def E (cd : Int32) (r : Option Value) (s u : State) : Prop := XT.PureE (some (.int (1 - cd))) r s u
theorem law (l : Launch) (x : Addr) (cd z : Int32) : Law l yN 1 0 0 0 yB 1 (some .boolean) site (P x cd z) (E cd) [] 0 0 := by
  refine Law.of_walk (plainFor_of_name (by decide +kernel)) (by decide +kernel) (by decide +kernel) (by decide) (fun _ _ h => by rw [h.1]; rfl) (fun _ U U' hal hh h => ⟨h.1, h.2.1.mv hal hh, h.2.2.1, h.2.2.2.1.there hal hh, h.2.2.2.2⟩) (fun r U U' V V' h1 hal h2 h => XT.PureE.mv r U U' V V' h1 hal h2 h) ?_
  intro p e s m args below meth c s₁ X0 hexec hbytes hml hret hlk hnm hown hh0 W hP
  obtain ⟨rfl, hx, hc, s1, hz⟩ := hP
  have c1 : Steps p.tables e below (s₁.setTop (entryFrame m #[.ref x] 1)) (s₁.setTop (mkF m 0 #[.val (.ref x)] [])) := entry rfl
  obtain ⟨T2, X2, q2, st2⟩ := X0.sget hexec hown (wk W (.fieldLink "java/lang/String" 38 "java/lang/String" "COMPACT_STRINGS" "Z")) s1 (fun _ _ h => by rw [hh0]; exact h) (g := (mkF m 0 #[.val (.ref x)] [])) rfl (hb hbytes d0)
  have hh2 := q2.trans hh0
  have c3 : Steps p.tables e below (s₁.setTop (entryFrame m #[.ref x] 1)) (T2.setTop (mkF m 7 #[.val (.ref x)] [.ref x])) := (c1.trans (st2 _ (Steps.refl _))).trans (by
    refine XS.ifNo X2.here hexec rfl (hb hbytes d3) rfl (i0_eq_f hz) ?_
    refine XS.aloadN X2.here hexec rfl (hb hbytes d6) rfl rfl ?_
    exact Steps.refl _)
  obtain ⟨T4, X4, q4, st4⟩ := X2.hget hexec hown (wk W (.fieldLink "java/lang/String" 15 "java/lang/String" "coder" "B")) (hx.mv X2.warmed.alike hh2) (g := (mkF m 7 #[.val (.ref x)] [.ref x])) rfl (rest := []) rfl (hb hbytes d7)
  have c5 : Steps p.tables e below (s₁.setTop (entryFrame m #[.ref x] 1)) (T4.setTop (mkF m 10 #[.val (.ref x)] [.int cd])) := c3.trans (st4 _ (Steps.refl _))
  have c6 : Steps p.tables e below (s₁.setTop (entryFrame m #[.ref x] 1)) (T4.setTop (mkF m 18 #[.val (.ref x)] [.int (1 - cd)])) := by
    rcases hc with rfl | rfl
    · exact c5.trans (by
        refine XS.ifNo X4.here hexec rfl (hb hbytes d10) rfl (i0_ne_f rfl) ?_
        refine iconstV X4.here hexec rfl 1 (hb hbytes d13) (by decide) ?_
        refine XS.goto X4.here hexec rfl (pc0 := 14) rfl (hb hbytes d14) (by decide) rfl ?_
        exact Steps.refl _)
    · exact c5.trans (by
        refine XS.ifYes X4.here hexec rfl (pc0 := 10) rfl (hb hbytes d10) rfl (i0_ne_t (by decide)) (by decide) rfl ?_
        refine iconstV X4.here hexec rfl 0 (hb hbytes d17) (by decide) ?_
        exact Steps.refl _)
  exact ⟨T4, some (.int (1 - cd)), _, _, _, X4, rfl, rfl, rfl, (fun h => by cases h), ⟨rfl, q4.trans hh2⟩, fun fs hl => c6.trans (X4.ireturnOut hexec hret (by rcases hc with rfl | rfl <;> rfl) (Or.inr (Or.inl rfl)) (hb hbytes d18) hl)⟩
end IsL
namespace LChA
def yN : MethodName := ⟨"java/lang/StringLatin1", "charAt", "([BI)C"⟩
abbrev yB : ByteArray := jdk_43_method_2_code
theorem d0 : decode yB 0 = .ok (.iload_n 1, 1) := by decide +kernel
theorem d1 : decode yB 1 = .ok (.aload_n 0, 1) := by decide +kernel
theorem d2 : decode yB 2 = .ok (.arraylength, 1) := by decide +kernel
theorem d3 : decode yB 3 = .ok (.invokestatic 9, 3) := by decide +kernel
theorem d6 : decode yB 6 = .ok (.aload_n 0, 1) := by decide +kernel
theorem d7 : decode yB 7 = .ok (.iload_n 1, 1) := by decide +kernel
theorem d8 : decode yB 8 = .ok (.baload, 1) := by decide +kernel
theorem d9 : decode yB 9 = .ok (.sipush 255, 3) := by decide +kernel
theorem d12 : decode yB 12 = .ok (.iand, 1) := by decide +kernel
theorem d13 : decode yB 13 = .ok (.i2c, 1) := by decide +kernel
theorem d14 : decode yB 14 = .ok (.ireturn, 1) := by decide +kernel
def site : List Cond := [JO.Str_checkIndex.tab] ++ staticW "java/lang/StringLatin1" 9 JO.Str_checkIndex.yN
def tab : Cond := tabOf yN yB 2 (some .char) site
def P (t : Addr) (V : Cell) (i : Nat) (u : Int32) (fm : Value) (args : Array Value) (s : State) : Prop := args = #[.ref t, .int (Int32.ofNat i)] ∧ XT.Arr .byte t V s ∧ V.slots[i]? = some (.int u) ∧ (StaticIs s "jdk/internal/util/Preconditions" "SIOOBE_FORMATTER" "Ljava/util/function/BiFunction;" fm ∧ fm.isRef = true)
def E (u : Int32) (r : Option Value) (s w : State) : Prop := XT.PureE (some (.int (chr8 u))) r s w
theorem law (l : Launch) (t : Addr) (V : Cell) (i : Nat) (u : Int32) (fm : Value) : Law l yN 2 2 2 27 yB 2 (some .char) site (P t V i u fm) (E u) [] 0 0 := by
  refine Law.of_walk (plainFor_of_name (by decide +kernel)) (by decide +kernel) (by decide +kernel) (by decide) (fun _ _ h => by rw [h.1]; rfl) (fun _ U U' hal hh h => ⟨h.1, h.2.1.mv hal hh, h.2.2.1, h.2.2.2.1.there hal hh, h.2.2.2.2⟩) (fun r U U' V V' h1 hal h2 h => XT.PureE.mv r U U' V V' h1 hal h2 h) ?_
  intro p e s m args below meth c s₁ X0 hexec hbytes hml hret hlk hnm hown hh0 W hP
  obtain ⟨rfl, hV, hu, s1, rf⟩ := hP
  have v31 := hV.2.2.2
  have hi : i < V.slots.size := (Array.getElem?_eq_some_iff.mp hu).1
  have c1 : Steps p.tables e below (s₁.setTop (entryFrame m #[.ref t, .int (Int32.ofNat i)] 2)) (s₁.setTop (mkF m 0 #[.val (.ref t), .val (.int (Int32.ofNat i))] [])) := entry rfl
  have c2 : Steps p.tables e below (s₁.setTop (entryFrame m #[.ref t, .int (Int32.ofNat i)] 2)) (s₁.setTop (mkF m 3 #[.val (.ref t), .val (.int (Int32.ofNat i))] [.int (Int32.ofNat V.slots.size), .int (Int32.ofNat i)])) := c1.trans (by
    refine XS.iloadN X0.here hexec rfl (hb hbytes d0) rfl ?_
    refine XS.aloadN X0.here hexec rfl (hb hbytes d1) rfl rfl ?_
    refine X0.alen hexec (hV.mv X0.warmed.alike hh0) rfl rfl (hb hbytes d2) ?_
    exact Steps.refl _)
  obtain ⟨v3, T3, X3, E3, g3⟩ := X0.callS hexec (JO.Str_checkIndex.law l (Int32.ofNat i) (Int32.ofNat V.slots.size) fm) hown (wks W (staticW "java/lang/StringLatin1" 9 JO.Str_checkIndex.yN)) (wk W JO.Str_checkIndex.tab) (W := 0) (Nat.le_of_ble_eq_true rfl) (Nat.le_of_ble_eq_true rfl) (Nat.le_refl _) (Nat.le_refl _) (g := (mkF m 3 #[.val (.ref t), .val (.int (Int32.ofNat i))] [.int (Int32.ofNat V.slots.size), .int (Int32.ofNat i)])) rfl (by rw [hml]; rfl) c2 (argsL := [.int (Int32.ofNat i), .int (Int32.ofNat V.slots.size)]) (rest := []) rfl rfl (by show 2 * 0 + 0 ≤ _; decide) (hb hbytes d3) (⟨rfl, rf, s1.there X0.warmed.alike hh0, Int32.ofNat_not_neg (by omega), lt32 v31 hi⟩)
  obtain ⟨rfl, q3⟩ := E3
  have hh3 := q3.trans hh0
  have c4 : Steps p.tables e below (s₁.setTop (entryFrame m #[.ref t, .int (Int32.ofNat i)] 2)) (T3.setTop (mkF m 14 #[.val (.ref t), .val (.int (Int32.ofNat i))] [.int (chr8 u)])) := Steps.trans g3 (by
    refine XS.aloadN X3.here hexec rfl (hb hbytes d6) rfl rfl ?_
    refine XS.iloadN X3.here hexec rfl (hb hbytes d7) rfl ?_
    refine X3.aget hexec (hV.mv X3.warmed.alike hh3) rfl hu rfl rfl (hb hbytes d8) ?_
    refine sipushV X3.here hexec rfl 255 (hb hbytes d9) (by decide) ?_
    refine XS.iand X3.here hexec rfl (hb hbytes d12) rfl ?_
    refine i2c X3.here hexec rfl (hb hbytes d13) rfl ?_
    exact Steps.refl _)
  exact ⟨T3, some (.int (chr8 u)), _, _, _, X3, rfl, rfl, rfl, (fun h => by cases h), ⟨rfl, hh3⟩, fun fs hl => c4.trans (X3.ireturnOut hexec hret (narrow_c _) (Or.inr (Or.inr (Or.inr (Or.inl rfl)))) (hb hbytes d14) hl)⟩
end LChA
end StrChars
namespace StrChars.Road
open Jvm Sem ClassFile Op Lib Jvm.Stand Jvm.Free Jvm.Free.XT
open Jvm.Lib.Cold (StaticIs)
theorem consq {a : Array Value} {s : State} {c : Jvm.Cond} {L : List Jvm.Cond} (h0 : c.before a s = true) (h : ∀ w ∈ L, w.before a s = true) : ∀ w ∈ c :: L, w.before a s = true := fun w hw => (List.mem_cons.mp hw).elim (fun e => e ▸ h0) (h w)
/-- the words of String.length(), either coding -/
abbrev wordsLen : List Jvm.Cond := [.code Len.yN Len.yB 1 (some .int), .initialized ST, .fieldLink ST 9 ST "value" "[B", .fieldLink ST 38 ST "COMPACT_STRINGS" "Z", .fieldLink ST 15 ST "coder" "B", .code Cdr.yN Cdr.yB 1 (some .byte), .methodLink ST 335 Cdr.yN, .declares Cdr.yN, .selects ST Cdr.yN Cdr.yN, .instanceMethod Cdr.yN]
theorem tabLen_of {a : Array Value} {s : State} (h : ∀ w ∈ wordsLen, w.before a s = true) : Len.tab.before a s = true := by
  have hc : Cdr.tab.before a s = true := unparts (wk h (.code Cdr.yN Cdr.yB 1 (some .byte))) (wks h (.initialized Cdr.yN.cls :: Cdr.site))
  have q := consq hc h
  exact unparts (wk q (.code Len.yN Len.yB 1 (some .int))) (wks q (.initialized Len.yN.cls :: Len.site))
theorem movedLen {Z s : State} {a0 args : Array Value} (hZ : Z.Warmed39 s.vm) (hw : ∀ d ∈ wordsLen, d.before a0 Z = true) : ∀ d ∈ wordsLen, d.before args s = true := fun d hd => by
  have q := hw d hd
  have t : ∀ d ∈ wordsLen, d = .arrayClass .byte ∨ (d.onTables && d.keepsFace) = true := by decide +kernel
  rcases t d hd with rfl | t
  · exact RoadKit.mvA hZ q
  · exact RoadKit.mv hZ q t
/-- the bytes of the chars cs, low before high -/
def wideBytes : List Int32 → List Value
  | [] => []
  | c :: cs => .int (lo8 c) :: .int (hi8 c) :: wideBytes cs
theorem wide_lo (d : Value) : ∀ (cs : List Int32) (j : Nat), j < cs.length → (wideBytes cs).getD (2 * j) d = .int (lo8 (cs.getD j 0))
  | [], j, h => absurd h (Nat.not_lt_zero j)
  | c :: cs, 0, _ => rfl
  | c :: cs, j + 1, h => by
    have q := wide_lo d cs j (by simpa using h)
    rw [show 2 * (j + 1) = 2 * j + 1 + 1 from by omega]
    simpa [wideBytes] using q
theorem wide_hi (d : Value) : ∀ (cs : List Int32) (j : Nat), j < cs.length → (wideBytes cs).getD (2 * j + 1) d = .int (hi8 (cs.getD j 0))
  | [], j, h => absurd h (Nat.not_lt_zero j)
  | c :: cs, 0, _ => rfl
  | c :: cs, j + 1, h => by
    have q := wide_hi d cs j (by simpa using h)
    rw [show 2 * (j + 1) + 1 = 2 * j + 1 + 1 + 1 from by omega]
    simpa [wideBytes] using q
theorem low_at (d : Value) (cs : List Int32) (j : Nat) (h : j < cs.length) : (cs.map fun c => Value.int (lo8 c)).getD j d = .int (lo8 (cs.getD j 0)) := by
  simp [List.getD_eq_getElem?_getD, h]
/-- an array of N2 bytes vs codes the chars cs by the coder cd -/
def CodA (cs : List Int32) (cd N2 : Int32) (vs : List Value) : Prop := (cd = 0 ∧ N2 = Int32.ofNat cs.length ∧ vs = (cs.map fun c => Value.int (lo8 c)) ∧ ∀ c ∈ cs, ¬ 255 < c) ∨ (cd = 1 ∧ N2 = Int32.ofNat (2 * cs.length) ∧ vs = wideBytes cs ∧ ∃ c ∈ cs, 255 < c)
theorem CodA.cod {cs : List Int32} {cd N2 : Int32} {vs : List Value} {V : Cell} (h : CodA cs cd N2 vs) (hn : 2 * cs.length < 2 ^ 31) (hs : V.slots.size = N2.toNatClampNeg) (hv : RoadKit.Has V vs (.int 0)) : Cod cd cs.length (fun j => cs.getD j 0) V := by
  rcases h with ⟨rfl, rfl, rfl, h⟩ | ⟨rfl, rfl, rfl, c, hc, hw⟩
  · rw [n32 (by omega)] at hs
    exact Or.inl ⟨rfl, hs, fun j hj => ⟨by rw [hv j (by omega), low_at _ _ _ hj], by
      have e : cs.getD j 0 = cs[j] := by simp [List.getD_eq_getElem?_getD, hj]
      show ¬ 255 < cs.getD j 0
      rw [e]; exact h _ (List.getElem_mem _)⟩⟩
  · rw [n32 (by omega)] at hs
    obtain ⟨j, hj, rfl⟩ := List.getElem_of_mem hc
    exact Or.inr ⟨rfl, hs, fun j hj => ⟨by rw [hv _ (by omega), wide_lo _ _ _ hj], by rw [hv _ (by omega), wide_hi _ _ _ hj]⟩, j, hj, by
      have e : cs.getD j 0 = cs[j] := by simp [List.getD_eq_getElem?_getD, hj]
      show 255 < cs.getD j 0
      rw [e]; exact hw⟩
/-- an object of exactly java/lang/String, its two fields found: as the laws ask it -/
theorem strObj {Z U : State} {a0 : Array Value} {kI : Nat} (wi : (Jvm.Cond.instantiable ST kI).before a0 Z = true) (al : Z.vm.Alike U.vm) {x : Addr} {v0 c0 : Value} (E : RoadKit.Exa Z U.heap x ST) (V : RoadKit.Fld Z U.heap x ST "value" "[B" v0) (C : RoadKit.Fld Z U.heap x ST "coder" "B" c0) :
    ∃ (D : Cell) (fV fC : Field), Blank ST x D U ∧ Found ST "value" "[B" fV U ∧ Found ST "coder" "B" fC U ∧ D.slots[fV.slot]? = some v0 ∧ D.slots[fC.slot]? = some c0 ∧ RoadKit.slotOf Z ST "value" "[B" = fV.slot ∧ RoadKit.slotOf Z ST "coder" "B" = fC.slot := by
  obtain ⟨D, cfV, kV, iV, fV, hD, gV, stV, knV, obV, asV, slV⟩ := V
  obtain ⟨D', cfC, kC, iC, fC, hD', gC, stC, -, -, asC, slC⟩ := C
  cases hD.symm.trans hD'
  obtain ⟨D2, kD, e1, e2, e3, e4, e5⟩ := E
  cases hD.symm.trans e1
  obtain ⟨c2, k2, i1, i2, i3, -⟩ := Cond.instantiable_spec wi
  cases e2.symm.trans i1
  cases e3.symm.trans i2
  obtain ⟨kU, u1, u2⟩ := al.2.2 _ _ e3
  exact ⟨D, fV, fC, ⟨hD, ⟨knV, fun q hq => by rw [hq] at obV; cases obV⟩, by rw [al.findClass]; exact e2, kU, u1, by rw [u2]; exact i3, by rw [u2]; exact e5 i3⟩, ⟨SBG.found_only al ⟨cfV, kV, iV, gV⟩, stV⟩, ⟨SBG.found_only al ⟨cfC, kC, iC, gC⟩, stC⟩, slV, slC, by simp [RoadKit.slotOf, gV], by simp [RoadKit.slotOf, gC]⟩
theorem sta_is {Z U : State} (al : Z.vm.Alike U.vm) {C n d : String} {v : Value} (S : RoadKit.Sta Z U.heap C n d v) : StaticIs U C n d v := by
  obtain ⟨cfS, iS, kS, fS, st, cS, t1, t2, t3, t4, t5, t6, t7⟩ := S
  exact StaticIs.there (s := { Z with heap := U.heap }) ⟨cfS, iS, kS, fS, st, cS, t1, t2, t3, t4, t5, (fun q => by rw [q] at t6; cases t6), t7⟩ al rfl
/-- **length() OF SUCH A STRING** -/
theorem lenW {p : Program} {l : Launch} {e : Env} {R : Room} {s : State} {args : Array Value} {below : List Frame} {len W : Nat} {Z : State} {a0 : Array Value} {h : Heap} (hZ : Z.Warmed39 s.vm) (hw : ∀ d ∈ wordsLen, d.before a0 Z = true) {kI : Nat} (wi : (Jvm.Cond.instantiable ST kI).before a0 Z = true)
    {x t : Addr} {kb : ClassId} {cs : List Int32} {cd N2 z : Int32} {vs : List Value} (E : RoadKit.Exa Z h x ST) (V : RoadKit.Fld Z h x ST "value" "[B" (.ref t)) (C : RoadKit.Fld Z h x ST "coder" "B" (.int cd)) (K : RoadKit.Arv Z h t kb .byte N2 vs (.int 0)) (hc : CodA cs cd N2 vs) (hb : ∀ c ∈ cs, ¬ c < 0 ∧ ¬ (65535 : Int32) < c)
    (S : RoadKit.Sta Z h ST "COMPACT_STRINGS" "Z" (.int z)) (hz : ¬ z = 0) (l2 : cs.length ≤ 4000) (hfr : 2 ≤ R.frames) (hlo : W + 25 ≤ R.locals) :
    Back l R p e below s args (⟨"java/lang/String", "length", "()I"⟩ : MethodName) len W (fun P a => a = #[.ref x] ∧ P.U.heap = h ∧ P.cells + 0 ≤ R.cells ∧ P.slots + 0 ≤ R.slots)
      (fun P _ v B => ∃ L, (v = some (.int (Int32.ofNat cs.length)) ∧ L = [] ∧ B.U.heap = h) ∧ B.locs = P.locs ++ L ∧ B.cells = P.cells + 0 ∧ B.slots = P.slots + 0) := by
  obtain ⟨A, K1, K2, K3, K4, K5, K6⟩ := K
  have hcod := hc.cod (by omega) K3 K5
  intro m meth c P g ig mk a X hg hsize hdg hW hn hp'
  obtain ⟨rfl, rfl, r1, r2⟩ := hp'
  have al : Z.vm.Alike P.U.vm := hZ.alike.trans X.warmed.alike
  obtain ⟨D, fV, fC, hB, F1, F2, g1, g2, -, -⟩ := strObj wi al E V C
  have hx : Txt x t A cd cs.length (fun j => cs.getD j 0) P.U := ⟨⟨_, hB.2.2.1, D, hB.1, rfl, by cases q : D.vm <;> first | rfl | exact absurd q (hB.2.1.2 _)⟩, Has.of hB F1 g1, Has.of hB F2 g2, ⟨K1.1, State.isArrayOf_alike al K1.2.1, K1.2.2, by rcases hcod with ⟨-, q, -⟩ | ⟨-, q, -⟩ <;> omega⟩, hcod, fun j hj => by
    have e : cs.getD j 0 = cs[j] := by simp [List.getD_eq_getElem?_getD, hj]
    show ¬ cs.getD j 0 < 0 ∧ ¬ 65535 < cs.getD j 0
    rw [e]; exact hb _ (List.getElem_mem _)⟩
  obtain ⟨v, B, X', ⟨⟨hv, hh⟩, hl, hk, hs⟩, st⟩ := Len.pays x t A cd cs.length (fun j => cs.getD j 0) z (tabLen_of (movedLen hZ hw)) hfr hlo m meth c P g ig mk _ X hg hsize hdg hW hn ⟨r1, r2, rfl, hx, sta_is al S, hz⟩
  exact ⟨v, B, X', ⟨[], ⟨hv, rfl, hh⟩, hl, hk, hs⟩, st⟩
end StrChars.Road
namespace StrChars.Road
open Jvm Sem ClassFile Op Lib Jvm.Stand Jvm.Free Jvm.Free.XT
open Jvm.Lib.Cold (StaticIs)
/-- the road's facts of a String, as the laws ask it -/
theorem txt_of {Z U : State} {a0 : Array Value} {kI : Nat} (wi : (Jvm.Cond.instantiable ST kI).before a0 Z = true) (al : Z.vm.Alike U.vm) {x t : Addr} {kb : ClassId} {cs : List Int32} {cd N2 : Int32} {vs : List Value} (E : RoadKit.Exa Z U.heap x ST) (V : RoadKit.Fld Z U.heap x ST "value" "[B" (.ref t)) (C : RoadKit.Fld Z U.heap x ST "coder" "B" (.int cd)) (K : RoadKit.Arv Z U.heap t kb .byte N2 vs (.int 0)) (hc : CodA cs cd N2 vs) (hb : ∀ c ∈ cs, ¬ c < 0 ∧ ¬ (65535 : Int32) < c) (l2 : cs.length ≤ 4000) :
    ∃ A, Txt x t A cd cs.length (fun j => cs.getD j 0) U := by
  obtain ⟨A, K1, K2, K3, K4, K5, K6⟩ := K
  have hcod := hc.cod (by omega) K3 K5
  obtain ⟨D, fV, fC, hB, F1, F2, g1, g2, -, -⟩ := strObj wi al E V C
  exact ⟨A, ⟨_, hB.2.2.1, D, hB.1, rfl, by cases q : D.vm <;> first | rfl | exact absurd q (hB.2.1.2 _)⟩, Has.of hB F1 g1, Has.of hB F2 g2, ⟨K1.1, State.isArrayOf_alike al K1.2.1, K1.2.2, by rcases hcod with ⟨-, q, -⟩ | ⟨-, q, -⟩ <;> omega⟩, hcod, fun j hj => by
    have e : cs.getD j 0 = cs[j] := by simp [List.getD_eq_getElem?_getD, hj]
    show ¬ cs.getD j 0 < 0 ∧ ¬ 65535 < cs.getD j 0
    rw [e]; exact hb _ (List.getElem_mem _)⟩
end StrChars.Road
namespace StrChars
open Jvm Sem ClassFile Op Lib Jvm.Stand Jvm.Free.XT Jvm.Free.ALB Jvm.Free.JM Jvm.Free
open Jvm.Lib.Cold (StaticIs)
namespace ChN
def yN : MethodName := ⟨"java/lang/String", "charAt", "(I)C"⟩
abbrev yB : ByteArray := jdk_42_method_56_code
theorem d0 : decode yB 0 = .ok (.aload_n 0, 1) := by decide +kernel
theorem d1 : decode yB 1 = .ok (.invokevirtual 492, 3) := by decide +kernel
theorem d4 : decode yB 4 = .ok (.ifCond (.eq) 12, 3) := by decide +kernel
theorem d7 : decode yB 7 = .ok (.aload_n 0, 1) := by decide +kernel
theorem d8 : decode yB 8 = .ok (.getfield 9, 3) := by decide +kernel
theorem d11 : decode yB 11 = .ok (.iload_n 1, 1) := by decide +kernel
theorem d12 : decode yB 12 = .ok (.invokestatic 495, 3) := by decide +kernel
theorem d15 : decode yB 15 = .ok (.ireturn, 1) := by decide +kernel
def site : List Cond := [.fieldLink "java/lang/String" 9 "java/lang/String" "value" "[B", IsL.tab, LChA.tab] ++ virtW "java/lang/String" 492 "java/lang/String" IsL.yN IsL.yN ++ staticW "java/lang/String" 495 LChA.yN
def tab : Cond := tabOf yN yB 2 (some .char) site
def P (x t : Addr) (V : Cell) (n : Nat) (f : Nat → Int32) (z : Int32) (fm : Value) (i : Nat) (args : Array Value) (s : State) : Prop := args = #[.ref x, .int (Int32.ofNat i)] ∧ Txt x t V 0 n f s ∧ i < n ∧ StaticIs s "java/lang/String" "COMPACT_STRINGS" "Z" (.int z) ∧ ¬ z = 0 ∧ StaticIs s "jdk/internal/util/Preconditions" "SIOOBE_FORMATTER" "Ljava/util/function/BiFunction;" fm ∧ fm.isRef = true
def E (f : Nat → Int32) (i : Nat) (r : Option Value) (s u : State) : Prop := XT.PureE (some (.int (f i))) r s u
/-- charAt(i) of a Latin-1 String of n chars, i < n: f i -/
theorem law (l : Launch) (x t : Addr) (V : Cell) (n : Nat) (f : Nat → Int32) (z : Int32) (fm : Value) (i : Nat) : Law l yN 2 1 3 40 yB 2 (some .char) site (P x t V n f z fm i) (E f i) [] 0 0 := by
  refine Law.of_walk (plainFor_of_name (by decide +kernel)) (by decide +kernel) (by decide +kernel) (by decide) (fun _ _ h => by rw [h.1]; rfl) (fun _ U U' hal hh h => ⟨h.1, h.2.1.mv hal hh, h.2.2.1, h.2.2.2.1.there hal hh, h.2.2.2.2.1, h.2.2.2.2.2.1.there hal hh, h.2.2.2.2.2.2⟩) (fun r U U' V V' h1 hal h2 h => XT.PureE.mv r U U' V V' h1 hal h2 h) ?_
  intro p e s m args below meth c s₁ X0 hexec hbytes hml hret hlk hnm hown hh0 W hP
  obtain ⟨rfl, hx, hi, s1, hz, s3, rf⟩ := hP
  have v31 := hx.2.2.2.1.2.2.2
  have hr := hx.2.2.2.2.2 i hi
  have hx0 := hx.mv X0.warmed.alike hh0
  have c1 : Steps p.tables e below (s₁.setTop (entryFrame m #[.ref x, .int (Int32.ofNat i)] 2)) (s₁.setTop (mkF m 1 #[.val (.ref x), .val (.int (Int32.ofNat i))] [.ref x])) := Steps.trans (entry rfl) (by
    show Steps p.tables e below (s₁.setTop (mkF m 0 #[.val (.ref x), .val (.int (Int32.ofNat i))] [])) _
    refine XS.aloadN X0.here hexec rfl (hb hbytes d0) rfl rfl ?_
    exact Steps.refl _)
  obtain ⟨v2, T2, X2, E2, g2⟩ := X0.callV hexec (IsL.law l x 0 z) hown (wks W (virtW "java/lang/String" 492 "java/lang/String" IsL.yN IsL.yN)) rfl (by decide) (wk W IsL.tab) (W := 0) (Nat.le_of_ble_eq_true rfl) (Nat.le_of_ble_eq_true rfl) (Nat.le_refl _) (Nat.le_refl _) (hx0.1.fc X0.warmed.alike) hx0.1.is (g := (mkF m 1 #[.val (.ref x), .val (.int (Int32.ofNat i))] [.ref x])) rfl (by rw [hml]; rfl) c1 (argsL := []) (rest := []) rfl rfl (by show 2 * 0 + 0 ≤ _; decide) (hb hbytes d1) (⟨rfl, hx0.2.2.1, hx.2.2.2.2.1.cd, s1.there X0.warmed.alike hh0, hz⟩)
  obtain ⟨rfl, q2⟩ := E2
  have hh2 := q2.trans hh0
  have hx2 := hx.mv X2.warmed.alike hh2
  obtain ⟨-, k1, k2⟩ | ⟨k0, -⟩ := hx.2.2.2.2.1
  · have c3 : Steps p.tables e below (s₁.setTop (entryFrame m #[.ref x, .int (Int32.ofNat i)] 2)) (T2.setTop (mkF m 8 #[.val (.ref x), .val (.int (Int32.ofNat i))] [.ref x])) := Steps.trans g2 (by
      refine XS.ifNo X2.here hexec rfl (hb hbytes d4) rfl (i0_eq_f (by decide)) ?_
      refine XS.aloadN X2.here hexec rfl (hb hbytes d7) rfl rfl ?_
      exact Steps.refl _)
    obtain ⟨T4, X4, q4, st4⟩ := X2.hget hexec hown (wk W (.fieldLink "java/lang/String" 9 "java/lang/String" "value" "[B")) hx2.2.1 (g := (mkF m 8 #[.val (.ref x), .val (.int (Int32.ofNat i))] [.ref x])) rfl (rest := []) rfl (hb hbytes d8)
    have hh4 := q4.trans hh2
    have c5 : Steps p.tables e below (s₁.setTop (entryFrame m #[.ref x, .int (Int32.ofNat i)] 2)) (T4.setTop (mkF m 12 #[.val (.ref x), .val (.int (Int32.ofNat i))] [.int (Int32.ofNat i), .ref t])) := (c3.trans (st4 _ (Steps.refl _))).trans (by
      refine XS.iloadN X4.here hexec rfl (hb hbytes d11) rfl ?_
      exact Steps.refl _)
    obtain ⟨v6, T6, X6, E6, g6⟩ := X4.callS hexec (LChA.law l t V i (lo8 (f i)) fm) hown (wks W (staticW "java/lang/String" 495 LChA.yN)) (wk W LChA.tab) (W := 0) (Nat.le_of_ble_eq_true rfl) (Nat.le_of_ble_eq_true rfl) (Nat.le_refl _) (Nat.le_refl _) (g := (mkF m 12 #[.val (.ref x), .val (.int (Int32.ofNat i))] [.int (Int32.ofNat i), .ref t])) rfl (by rw [hml]; rfl) c5 (argsL := [.ref t, .int (Int32.ofNat i)]) (rest := []) rfl rfl (by show 2 * 0 + 0 ≤ _; decide) (hb hbytes d12) (⟨rfl, hx.2.2.2.1.mv X4.warmed.alike hh4, (k2 i hi).1, s3.there X4.warmed.alike hh4, rf⟩)
    obtain ⟨rfl, q6⟩ := E6
    rw [chr8_lo8 hr.1 (k2 i hi).2] at g6
    exact ⟨T6, some (.int (f i)), _, _, _, X6, rfl, rfl, rfl, (fun h => by cases h), ⟨rfl, q6.trans hh4⟩, fun fs hl => Steps.trans g6 (X6.ireturnOut hexec hret (narrow_ch hr.1 hr.2) (Or.inr (Or.inr (Or.inr (Or.inl rfl)))) (hb hbytes d15) hl)⟩
  · exact absurd k0 (by decide)
theorem pays {l : Launch} {R : Room} {p : Program} {e : Env} {below : List Frame} {s : State} {sargs : Array Value} {len W : Nat} (x t : Addr) (V : Cell) (n : Nat) (f : Nat → Int32) (z : Int32) (fm : Value) (i : Nat) (htab : tab.before sargs s = true) (hfr : 4 ≤ R.frames) (hlo : W + 53 ≤ R.locals) :
    Back l R p e below s sargs yN len W (fun A₁ a₁ => A₁.cells + 0 ≤ R.cells ∧ A₁.slots + 0 ≤ R.slots ∧ P x t V n f z fm i a₁ A₁.U) (fun A₁ _ v₁ B₁ => E f i v₁ A₁.U B₁.U ∧ B₁.locs = A₁.locs ++ [] ∧ B₁.cells = A₁.cells + 0 ∧ B₁.slots = A₁.slots + 0) :=
  (law l x t V n f z fm i).pays htab hfr (by omega)
end ChN
end StrChars
namespace StrChars.Road
open Jvm Sem ClassFile Op Lib Jvm.Stand Jvm.Free Jvm.Free.XT
open Jvm.Lib.Cold (StaticIs)
/-- the words of String.charAt(int), the Latin-1 road alone -/
abbrev wordsChN : List Jvm.Cond := [.code ChN.yN ChN.yB 2 (some .char), .initialized ST, .fieldLink ST 9 ST "value" "[B", .fieldLink ST 38 ST "COMPACT_STRINGS" "Z", .fieldLink ST 15 ST "coder" "B", .code IsL.yN IsL.yB 1 (some .boolean), .methodLink ST 492 IsL.yN, .declares IsL.yN, .selects ST IsL.yN IsL.yN, .instanceMethod IsL.yN,
  .methodLink ST 495 LChA.yN, .static LChA.yN, .code LChA.yN LChA.yB 2 (some .char), .initialized "java/lang/StringLatin1", .methodLink "java/lang/StringLatin1" 9 JO.Str_checkIndex.yN, .static JO.Str_checkIndex.yN, .code JO.Str_checkIndex.yN JO.Str_checkIndex.yB 2 none,
  .fieldLink ST 1053 "jdk/internal/util/Preconditions" "SIOOBE_FORMATTER" "Ljava/util/function/BiFunction;", .methodLink ST 1059 JC.PreCheck.yN, .static JC.PreCheck.yN, .code JC.PreCheck.yN JC.PreCheck.yB 3 (some .int), .initialized "jdk/internal/util/Preconditions"]
theorem tabChN_of {a : Array Value} {s : State} (h : ∀ w ∈ wordsChN, w.before a s = true) : ChN.tab.before a s = true := by
  have hp : JC.PreCheck.tab.before a s = true := unparts (wk h (.code JC.PreCheck.yN JC.PreCheck.yB 3 (some .int))) (wks h (.initialized JC.PreCheck.yN.cls :: JC.PreCheck.site))
  have qk := consq hp h
  have hk : JO.Str_checkIndex.tab.before a s = true := unparts (wk qk (.code JO.Str_checkIndex.yN JO.Str_checkIndex.yB 2 none)) (wks qk (.initialized JO.Str_checkIndex.yN.cls :: JO.Str_checkIndex.site))
  have ql := consq hk h
  have hl : LChA.tab.before a s = true := unparts (wk ql (.code LChA.yN LChA.yB 2 (some .char))) (wks ql (.initialized LChA.yN.cls :: LChA.site))
  have hi : IsL.tab.before a s = true := unparts (wk h (.code IsL.yN IsL.yB 1 (some .boolean))) (wks h (.initialized IsL.yN.cls :: IsL.site))
  have q := consq hi (consq hl h)
  exact unparts (wk q (.code ChN.yN ChN.yB 2 (some .char))) (wks q (.initialized ChN.yN.cls :: ChN.site))
theorem movedChN {Z s : State} {a0 args : Array Value} (hZ : Z.Warmed39 s.vm) (hw : ∀ d ∈ wordsChN, d.before a0 Z = true) : ∀ d ∈ wordsChN, d.before args s = true := fun d hd => by
  have t : ∀ d ∈ wordsChN, (d.onTables && d.keepsFace) = true := by decide +kernel
  exact RoadKit.mv hZ (hw d hd) (t d hd)
/-- **charAt(i) OF A LATIN-1 STRING**, i < n: the char -/
theorem chN {p : Program} {l : Launch} {e : Env} {R : Room} {s : State} {args : Array Value} {below : List Frame} {len W : Nat} {Z : State} {a0 : Array Value} {h : Heap} (hZ : Z.Warmed39 s.vm) (hw : ∀ d ∈ wordsChN, d.before a0 Z = true) {kI : Nat} (wi : (Jvm.Cond.instantiable ST kI).before a0 Z = true)
    {x t : Addr} {kb : ClassId} {cs : List Int32} {N2 z : Int32} {vs : List Value} {fm : Value} {i : Nat} {j : Int32} (E : RoadKit.Exa Z h x ST) (V : RoadKit.Fld Z h x ST "value" "[B" (.ref t)) (C : RoadKit.Fld Z h x ST "coder" "B" (.int 0)) (K : RoadKit.Arv Z h t kb .byte N2 vs (.int 0)) (hc : CodA cs 0 N2 vs) (hb : ∀ c ∈ cs, ¬ c < 0 ∧ ¬ (65535 : Int32) < c)
    (S : RoadKit.Sta Z h ST "COMPACT_STRINGS" "Z" (.int z)) (hz : ¬ z = 0) (F : RoadKit.Sta Z h "jdk/internal/util/Preconditions" "SIOOBE_FORMATTER" "Ljava/util/function/BiFunction;" fm) (rf : fm.isRef = true) (l2 : cs.length ≤ 4000) (hi : i < cs.length) (hj : j = Int32.ofNat i) (hfr : 4 ≤ R.frames) (hlo : W + 53 ≤ R.locals) :
    Back l R p e below s args (⟨"java/lang/String", "charAt", "(I)C"⟩ : MethodName) len W (fun P a => a = #[.ref x, .int j] ∧ P.U.heap = h ∧ P.cells + 0 ≤ R.cells ∧ P.slots + 0 ≤ R.slots)
      (fun P _ v B => ∃ L, (v = some (.int (cs.getD i 0)) ∧ L = [] ∧ B.U.heap = h) ∧ B.locs = P.locs ++ L ∧ B.cells = P.cells + 0 ∧ B.slots = P.slots + 0) := by
  subst hj
  intro m meth c P g ig mk a X hg hsize hdg hW hn hp'
  obtain ⟨rfl, rfl, r1, r2⟩ := hp'
  have al : Z.vm.Alike P.U.vm := hZ.alike.trans X.warmed.alike
  obtain ⟨A, hx⟩ := txt_of wi al E V C K hc hb l2
  obtain ⟨v, B, X', ⟨⟨hv, hh⟩, hl, hk, hs⟩, st⟩ := ChN.pays x t A cs.length (fun j => cs.getD j 0) z fm i (tabChN_of (movedChN hZ hw)) hfr hlo m meth c P g ig mk _ X hg hsize hdg hW hn ⟨r1, r2, rfl, hx, hi, sta_is al S, hz, sta_is al F, rf⟩
  exact ⟨v, B, X', ⟨[], ⟨hv, rfl, hh⟩, hl, hk, hs⟩, st⟩
/-- what backV says of its String, as the contracts of this text ask it: cs's low bytes, coder 0 -/
theorem codOf {cs : List Int32} {n : Nat} (hn : cs.length = n) (hb : ∀ c ∈ cs, ¬ 255 < c) : CodA cs 0 (Int32.ofNat n) ((cs.map lo8).map Value.int) := Or.inl ⟨rfl, by rw [hn], by simp [List.map_map, Function.comp_def], hb⟩
end StrChars.Road
end Jvm.Pilot.@@N@@

namespace Jvm.Pilot.@@N@@
open Jvm Jvm.ClassFile Sem Op Lib Jvm.Free Jvm.Stand Jvm.LawKit Jvm.RoadKit Bundle Jvm.Pilot.@@N@@.Jvm.D
section Kit
variable {p : Program} {l : Launch} {e : Env} {R : Room} {s : State} {m : MethodId} {args : Array Value} {below : List Frame} {meth : Method} {c : Code} {Z : State} {EL : List (String × Nat)} {own : String} {n0 : Nat} {bk : Addr → Prop} {h : Heap} {cells slots : Nat} {g g' : JFrame} {a0 : Array Value} {Q : Option Value → Heap → (Addr → Prop) → Prop}
/-- what a walk leaves: its answer, its heap, what may be booked -/
def EndW (s : State) (R : Room) (Z : State) (EL : List (String × Nat)) (n0 : Nat) (Q : Option Value → Heap → (Addr → Prop) → Prop) (o : Outcome) (U : State) : Prop :=
  ∃ v L bk', o = .returned v ∧ (Q v U.heap bk' ∧ Fr n0 L ∧ Old Z n0 U.heap ∧ CHv Z EL U.vm U.heap ∧ ∀ y, Bk Z EL U.vm U.heap y → bk' y) ∧ ReturnedEndW s o U L R.cells R.slots
/-- where a walk stands -/
def Pos (p : Program) (l : Launch) (e : Env) (R : Room) (s : State) (m : MethodId) (args : Array Value) (below : List Frame) (meth : Method) (c : Code) (Z : State) (EL : List (String × Nat)) (own : String) (n0 : Nat) (bk : Addr → Prop) (h : Heap) (cells slots : Nat) (vm0 : Vm) (T : State) (locs : List Loc) : Prop :=
  Stand p l e R (s.setVm vm0) m args below meth c T locs cells slots ∧ T.heap = h ∧ (∃ k0, s.Since vm0 k0 ∧ k0 ≤ h.size) ∧ Z.Warmed39 vm0 ∧ vm0.findClass own = some m.cls ∧ Fr n0 locs ∧ Old Z n0 h ∧ CHv Z EL vm0 h ∧ (∀ y, Bk Z EL vm0 h y → bk y) ∧ ∃ a0, EW Z a0 EL
/-- from here the walk ends, and leaves Q -/
def Run (p : Program) (l : Launch) (e : Env) (R : Room) (s : State) (m : MethodId) (args : Array Value) (below : List Frame) (meth : Method) (c : Code) (Z : State) (EL : List (String × Nat)) (own : String) (n0 : Nat) (bk : Addr → Prop) (h : Heap) (cells slots : Nat) (g : JFrame) (Q : Option Value → Heap → (Addr → Prop) → Prop) : Prop :=
  ∀ vm0 T locs, Pos p l e R s m args below meth c Z EL own n0 bk h cells slots vm0 T locs → ∃ U o, Steps p.tables e below (T.setTop g) U ∧ U.status = .running ∧ Ended U below o ∧ EndW s R Z EL n0 Q o U
/-- a body's contract -/
def Met (l : Launch) (Z : State) (EL : List (String × Nat)) (n0 : Nat) (bk : Addr → Prop) (y : MethodName) (bytes : ByteArray) (maxL : Nat) (ret : Option FieldType) (rm : Room) (as' : Array Value) (h : Heap) (Q : Option Value → Heap → (Addr → Prop) → Prop) (ws : List Jvm.Cond) : Prop :=
  MetFree l y (head1 (Jvm.Cond.code y bytes maxL ret :: ws) rm) (fun a U => a = as' ∧ Z.Warmed39 U.vm ∧ U.heap = h ∧ CHv Z EL U.vm h ∧ ∀ x, Bk Z EL U.vm h x → bk x) (fun _ _ _ _ _ => True) (fun _ U o U' => EndW U rm Z EL n0 Q o U')
theorem end_mono {s t : State} {o : Outcome} {L : List Loc} {k n k' n' : Nat} (H : ReturnedEndW s o t L k n) (hk : k ≤ k') (hn : n ≤ n') : ReturnedEndW s o t L k' n' := ⟨H.1, H.2.1, H.2.2.1, H.2.2.2.mono hk hn⟩
theorem Met.of {y : MethodName} {bytes : ByteArray} {maxL : Nat} {ret : Option FieldType} {rm : Room} {as' : Array Value} {ws : List Jvm.Cond} (hp : plainFor y = true) (hO : Old Z n0 h) (hE : EW Z a0 EL)
    (H : ∀ p e s m below meth c, p.tables.exec = Jvm.exec → c.code = bytes → c.maxLocals = maxL → meth.sig.returnType = ret → meth.locks = false → meth.name = y.name → Run p l e rm s m as' below meth c Z EL y.cls n0 bk h 0 0 (entryFrame m as' maxL) Q) : Met l Z EL n0 bk y bytes maxL ret rm as' h Q ws := by
  refine MetFree.of_bodySF hp hisR ?_
  intro p e s m args below meth c s₁ Bd hml hP hK
  obtain ⟨rfl, hZ, hh, hC, hB⟩ := hP
  have e0 : s₁.heap = h := by rw [← hh, Bd.state]; rfl
  exact H p e s m below meth c Bd.exec Bd.bytes hml Bd.returns Bd.notSynchronized (name_of_methodNamed Bd.named Bd.method).1 s.vm s₁ [] ⟨Stand.of_body Bd, e0, ⟨0, (State.WarmedH.refl s).since _, Nat.zero_le _⟩, hZ, findClass_of_methodNamed Bd.named, Fr.nil _, hO, hC, hB, _, hE⟩
/-- one pure step -/
theorem k_pure (st : ∀ T, At T m c below → ∀ t, Steps p.tables e below (T.setTop g') t → Steps p.tables e below (T.setTop g) t)
    (k : Run p l e R s m args below meth c Z EL own n0 bk h cells slots g' Q) : Run p l e R s m args below meth c Z EL own n0 bk h cells slots g Q := fun vm0 T locs P => by
  obtain ⟨U, o, h1, r⟩ := k vm0 T locs P
  exact ⟨U, o, st T P.1.here _ h1, r⟩
theorem k_cast (q : g = g') (k : Run p l e R s m args below meth c Z EL own n0 bk h cells slots g' Q) : Run p l e R s m args below meth c Z EL own n0 bk h cells slots g Q := q ▸ k
theorem k_more {cells' slots' : Nat} (hc : cells ≤ cells') (hs : slots ≤ slots') (k : Run p l e R s m args below meth c Z EL own n0 bk h cells' slots' g Q) : Run p l e R s m args below meth c Z EL own n0 bk h cells slots g Q := fun vm0 T locs P => k vm0 T locs ⟨P.1.more hc hs, P.2⟩
/-- one step that looks at the tables or the heap and moves no cell -/
theorem k_still (st : ∀ s' T locs, Stand p l e R s' m args below meth c T locs cells slots → T.heap = h → Z.Warmed39 s'.vm → s'.vm.findClass own = some m.cls → ∃ T', Stand p l e R s' m args below meth c T' locs cells slots ∧ T'.heap = h ∧ ∀ t, Steps p.tables e below (T'.setTop g') t → Steps p.tables e below (T.setTop g) t)
    (k : Run p l e R s m args below meth c Z EL own n0 bk h cells slots g' Q) : Run p l e R s m args below meth c Z EL own n0 bk h cells slots g Q := fun vm0 T locs P => by
  obtain ⟨X, e1, hS, hZ, ho, N, O, C, B, hE⟩ := P
  obtain ⟨T', X', e2, st'⟩ := st _ T locs X e1 hZ ho
  obtain ⟨U, o, h1, r⟩ := k vm0 T' locs ⟨X', e2, hS, hZ, ho, N, O, C, B, hE⟩
  exact ⟨U, o, st' _ h1, r⟩
/-- one step that makes cells -/
theorem k_grow {kc ks : Nat} {F : Heap → JFrame → Prop} (st : ∀ s' T locs, Stand p l e R s' m args below meth c T locs cells slots → T.heap = h → Z.Warmed39 s'.vm → s'.vm.findClass own = some m.cls → ∃ T' h' g', Stand p l e R s' m args below meth c T' locs (cells + kc) (slots + ks) ∧ T'.heap = h' ∧ Ext h h' ∧ F h' g' ∧ ∀ t, Steps p.tables e below (T'.setTop g') t → Steps p.tables e below (T.setTop g) t)
    (k : ∀ h' g', Old Z n0 h' → Ext h h' → F h' g' → Run p l e R s m args below meth c Z EL own n0 bk h' (cells + kc) (slots + ks) g' Q) : Run p l e R s m args below meth c Z EL own n0 bk h cells slots g Q := fun vm0 T locs P => by
  obtain ⟨X, e1, ⟨k0, hS, hk⟩, hZ, ho, N, O, C, B, hE⟩ := P
  obtain ⟨T', h', g', X', e2, E, hF, st'⟩ := st _ T locs X e1 hZ ho
  have hC := CHr.ext E C
  obtain ⟨U, o, h1, r⟩ := k h' g' (O.ext E) E hF vm0 T' locs ⟨X', e2, ⟨k0, hS, Nat.le_trans hk E.1⟩, hZ, ho, N, O.ext E, hC.1, fun y q => B y ((C.step fun _ _ _ q => E.2 _ _ q).2 y q), hE⟩
  exact ⟨U, o, st' _ h1, r⟩
/-- one step that writes one place of a cell that is ours -/
theorem k_write {a : Addr} {sl : Nat} {v : Value} (ge : n0 ≤ a) (nb : ¬ bk a)
    (st : ∀ s' T locs, Stand p l e R s' m args below meth c T locs cells slots → T.heap = h → Z.Warmed39 s'.vm → s'.vm.findClass own = some m.cls → ∃ T' h', Stand p l e R s' m args below meth c T' (locs ++ [⟨a, sl⟩]) cells slots ∧ T'.heap = h' ∧ Wr h h' a sl v ∧ ∀ t, Steps p.tables e below (T'.setTop g') t → Steps p.tables e below (T.setTop g) t)
    (k : ∀ h', Old Z n0 h' → Wr h h' a sl v → Run p l e R s m args below meth c Z EL own n0 bk h' cells slots g' Q) : Run p l e R s m args below meth c Z EL own n0 bk h cells slots g Q := fun vm0 T locs P => by
  obtain ⟨X, e1, ⟨k0, hS, hk⟩, hZ, ho, N, O, C, B, hE⟩ := P
  obtain ⟨T', h', X', e2, W, st'⟩ := st _ T locs X e1 hZ ho
  have sa : Safe Z EL vm0 h a := fun q => nb (B a q)
  have hC := C.wrStep W sa
  obtain ⟨U, o, h1, r⟩ := k h' (O.wr W ge) W vm0 T' _ ⟨X', e2, ⟨k0, hS, by rw [W.size]; exact hk⟩, hZ, ho, Fr.snoc X' N ge, O.wr W ge, hC.1, fun y q => B y (hC.2 y q), hE⟩
  exact ⟨U, o, st' _ h1, r⟩
/-- the end of a walk -/
theorem k_end {v : Option Value} (hlk : meth.locks = false) (hv : meth.sig.returnType = none → v = none) (hc : cells ≤ R.cells) (hs : slots ≤ R.slots) (hQ : Q v h bk)
    (st : ∀ s' T locs fs, Stand p l e R s' m args below meth c T locs cells slots → (∀ (f : JFrame) (acts : List Action), f.method = m → f.locked = none → f.entered = [] → (doReturn e (T.setTop f) acts v).1 = T.setFrames fs) → Steps p.tables e below (T.setTop g) (T.setFrames fs)) :
    Run p l e R s m args below meth c Z EL own n0 bk h cells slots g Q := fun vm0 T locs P => by
  obtain ⟨X, e1, ⟨k0, hS, hk⟩, hZ, ho, N, O, C, B, a0, hE⟩ := P
  obtain ⟨fs, hr, hrun, hended, hW⟩ := X.leaveW hS (by rw [e1]; exact hk) (v := v) hv hlk
  have A := CHv.at X hZ hE C
  have eh : (T.setFrames fs).heap = h := e1
  refine ⟨_, _, st _ T locs fs X hr, hrun, hended, v, locs, bk, rfl, ⟨?_, N, ?_, ?_, ?_⟩, end_mono hW hc hs⟩
  · rw [eh]; exact hQ
  · rw [eh]; exact O
  · rw [eh]; exact A.1
  · rw [eh]; exact fun y q => (A.2.2 y q).elim (B y) (fun z => absurd (Array.getElem?_eq_some_iff.mp (Bk.there q).choose_spec).1 (Nat.not_lt.mpr z))
/-! the steps -/
theorem k_getF (hx : p.tables.exec = Jvm.exec) {R0 O n d host : String} {index : Nat} (w : (Jvm.Cond.fieldLink own index R0 n d).before a0 Z = true ∨ (Jvm.Cond.fieldLinkNest own index R0 n d host).before a0 Z = true) (via : Via Z R0 O n d) {a : Addr} {v : Value} (F : Fld Z h a O n d v)
    (hg : g.method = m) {rest : List Value} (hs : g.stack = .ref a :: rest) (hd : decode c.code g.pc = .ok (.getfield index, 3)) (k : Run p l e R s m args below meth c Z EL own n0 bk h cells slots { g with pc := g.pc + 3, stack := v :: rest } Q) : Run p l e R s m args below meth c Z EL own n0 bk h cells slots g Q :=
  k_still (fun s' T locs X e1 hZ ho => getF X hx hZ ho w via e1 F hg hs hd) k
theorem k_getS (hx : p.tables.exec = Jvm.exec) {R0 O n d host : String} {index : Nat} (w : (Jvm.Cond.fieldLink own index R0 n d).before a0 Z = true ∨ (Jvm.Cond.fieldLinkNest own index R0 n d host).before a0 Z = true) (via : Via Z R0 O n d) {v : Value} (F : Sta Z h O n d v)
    (hg : g.method = m) (hd : decode c.code g.pc = .ok (.getstatic index, 3)) (k : Run p l e R s m args below meth c Z EL own n0 bk h cells slots { g with pc := g.pc + 3, stack := v :: g.stack } Q) : Run p l e R s m args below meth c Z EL own n0 bk h cells slots g Q :=
  k_still (fun s' T locs X e1 hZ ho => getS2 X hx hZ ho w via e1 F hg hd) k
theorem k_cast' (hx : p.tables.exec = Jvm.exec) {K : String} {index : Nat} (w : (Jvm.Cond.classLink own index K).before a0 Z = true) {a : Addr} (F : Ins Z h a K true) (hg : g.method = m) {rest : List Value} (hs : g.stack = .ref a :: rest) (hd : decode c.code g.pc = .ok (.checkcast index, 3))
    (k : Run p l e R s m args below meth c Z EL own n0 bk h cells slots { g with pc := g.pc + 3 } Q) : Run p l e R s m args below meth c Z EL own n0 bk h cells slots g Q :=
  k_still (fun s' T locs X e1 hZ ho => castY X hx hZ ho w e1 F hg hs hd) k
theorem k_instY (hx : p.tables.exec = Jvm.exec) {K : String} {index : Nat} (w : (Jvm.Cond.classLink own index K).before a0 Z = true) {a : Addr} (F : Ins Z h a K true) (hg : g.method = m) {rest : List Value} (hs : g.stack = .ref a :: rest) (hd : decode c.code g.pc = .ok (.instanceof index, 3))
    (k : Run p l e R s m args below meth c Z EL own n0 bk h cells slots { g with pc := g.pc + 3, stack := .int 1 :: rest } Q) : Run p l e R s m args below meth c Z EL own n0 bk h cells slots g Q :=
  k_still (fun s' T locs X e1 hZ ho => instY X hx hZ ho w e1 F hg hs hd) k
theorem k_instNo (hx : p.tables.exec = Jvm.exec) {K C : String} {index : Nat} (w : (Jvm.Cond.classLink own index K).before a0 Z = true) {a : Addr} (E : Exa Z h a C) (F : ∃ c t, Z.vm.findClass C = some c ∧ Z.vm.findClass K = some t ∧ Z.vm.assignable c t = false) (hg : g.method = m) {rest : List Value} (hs : g.stack = .ref a :: rest) (hd : decode c.code g.pc = .ok (.instanceof index, 3))
    (k : Run p l e R s m args below meth c Z EL own n0 bk h cells slots { g with pc := g.pc + 3, stack := .int 0 :: rest } Q) : Run p l e R s m args below meth c Z EL own n0 bk h cells slots g Q :=
  k_still (fun s' T locs X e1 hZ ho => instNo X hx hZ ho w e1 E F hg hs hd) k
theorem k_initO (hx : p.tables.exec = Jvm.exec) {idx : Nat} (w1 : (Jvm.Cond.methodLink own idx Lib.objectInit).before a0 Z = true) (w2 : (Jvm.Cond.instanceMethod Lib.objectInit).before a0 Z = true) (w3 : (Jvm.Cond.code Lib.objectInit ⟨#[0xb1]⟩ 1 none).before a0 Z = true)
    (hg : g.method = m) (hsize : g.locals.size = c.maxLocals) {a : Addr} {rest : List Value} (hs : g.stack = .ref a :: rest) (hd : decode c.code g.pc = .ok (.invokespecial idx, 3)) (hf : 1 ≤ R.frames) {W : Nat} (hW : 2 * g.monitorRoom + (rest.map fun v => v.category).sum ≤ W) (hl : W + 12 ≤ R.locals)
    (k : Run p l e R s m args below meth c Z EL own n0 bk h cells slots { g with pc := g.pc + 3, stack := rest } Q) : Run p l e R s m args below meth c Z EL own n0 bk h cells slots g Q :=
  k_still (fun s' T locs X e1 hZ ho => initO X hx hZ ho w1 w2 w3 e1 hg hsize hs hd hf hW hl) k
theorem k_ldcI (hx : p.tables.exec = Jvm.exec) {index : Nat} {v : Int32} (w : (Jvm.Cond.constant own index v).before a0 Z = true) (hg : g.method = m) (hd : decode c.code g.pc = .ok (.ldc index, 2))
    (k : Run p l e R s m args below meth c Z EL own n0 bk h cells slots { g with pc := g.pc + 2, stack := .int v :: g.stack } Q) : Run p l e R s m args below meth c Z EL own n0 bk h cells slots g Q :=
  k_still (fun s' T locs X e1 hZ ho => ⟨T, X, e1, fun t => X.ldcInt hx ho (mv hZ w) hg hd t⟩) k
theorem k_ldcWI (hx : p.tables.exec = Jvm.exec) {index : Nat} {v : Int32} (w : (Jvm.Cond.constant own index v).before a0 Z = true) (hg : g.method = m) (hd : decode c.code g.pc = .ok (.ldc_w index, 3))
    (k : Run p l e R s m args below meth c Z EL own n0 bk h cells slots { g with pc := g.pc + 3, stack := .int v :: g.stack } Q) : Run p l e R s m args below meth c Z EL own n0 bk h cells slots g Q :=
  k_still (fun s' T locs X e1 hZ ho => ⟨T, X, e1, fun t => X.ldcWInt hx ho (mv hZ w) hg hd t⟩) k
theorem k_ldc2J (hx : p.tables.exec = Jvm.exec) {index : Nat} {v : Int64} (w : (Jvm.Cond.constantLong own index v).before a0 Z = true) (hg : g.method = m) (hd : decode c.code g.pc = .ok (.ldc2_w index, 3))
    (k : Run p l e R s m args below meth c Z EL own n0 bk h cells slots { g with pc := g.pc + 3, stack := .long v :: g.stack } Q) : Run p l e R s m args below meth c Z EL own n0 bk h cells slots g Q :=
  k_still (fun s' T locs X e1 hZ ho => ⟨T, X, e1, fun t => X.ldc2Long hx ho (mv hZ w) hg hd t⟩) k
theorem k_instNull (hx : p.tables.exec = Jvm.exec) {K : String} {index : Nat} (w : (Jvm.Cond.classLink own index K).before a0 Z = true) (hg : g.method = m) {rest : List Value} (hs : g.stack = .null :: rest) (hd : decode c.code g.pc = .ok (.instanceof index, 3))
    (k : Run p l e R s m args below meth c Z EL own n0 bk h cells slots { g with pc := g.pc + 3, stack := .int 0 :: rest } Q) : Run p l e R s m args below meth c Z EL own n0 bk h cells slots g Q :=
  k_still (fun s' T locs X e1 hZ ho => ⟨T, X, e1, fun t => X.instanceofNull hx hg hs hd t⟩) k
theorem k_newO (hx : p.tables.exec = Jvm.exec) {C : String} {index n : Nat} (w : (Jvm.Cond.classLink own index C).before a0 Z = true) (wi : (Jvm.Cond.instantiable C n).before a0 Z = true) (wz : (Jvm.Cond.initialized C).before a0 Z = true)
    (hg : g.method = m) (hd : decode c.code g.pc = .ok (.new index, 3)) (hc : cells + 1 ≤ R.cells) (hl : slots + n ≤ R.slots)
    (k : ∀ h' a, a = h.size → Old Z n0 h' → Ext h h' → Exa Z h' a C → (∀ {O nm d : String} {ty : FieldType}, RoadKit.Laid Z a0 C O nm d → parseFieldDescriptor d = some ty → Fld Z h' a O nm d (defaultValue ty)) → (∃ cell : Cell, h'[a]? = some cell ∧ cell.vm = .none ∧ cell.monitor = {}) →
      Run p l e R s m args below meth c Z EL own n0 bk h' (cells + 1) (slots + n) { g with pc := g.pc + 3, stack := .ref a :: g.stack } Q) : Run p l e R s m args below meth c Z EL own n0 bk h cells slots g Q :=
  k_grow (F := fun h' g' => g' = { g with pc := g.pc + 3, stack := .ref h.size :: g.stack } ∧ Exa Z h' h.size C ∧ (∀ {O nm d : String} {ty : FieldType}, RoadKit.Laid Z a0 C O nm d → parseFieldDescriptor d = some ty → Fld Z h' h.size O nm d (defaultValue ty)) ∧ ∃ cell : Cell, h'[h.size]? = some cell ∧ cell.vm = .none ∧ cell.monitor = {})
    (fun s' T locs X e1 hZ ho => by
      obtain ⟨T', h', X', e2, E, A, D, N, st⟩ := newO X hx hZ ho w wi wz e1 hg hd hc hl
      exact ⟨T', h', _, X', e2, E, ⟨rfl, A, D, N⟩, st⟩)
    (fun h' g' O E ⟨q, A, D, N⟩ => by subst q; exact k h' _ rfl O E A D N)
theorem k_newP (hx : p.tables.exec = Jvm.exec) {aty : ArrayType} (w : (Jvm.Cond.arrayClass (newarray.typeOf aty)).before a0 Z = true) (hg : g.method = m) (hd : decode c.code g.pc = .ok (.newarray aty, 2)) {n : Int32} {rest : List Value} (hs : g.stack = .int n :: rest)
    (hn : ¬ n < 0) {cap : Nat} (hcap : n.toNatClampNeg ≤ cap) (hb : cap * 8 ≤ 536870912) (hc : cells + 1 ≤ R.cells) (hl : slots + cap ≤ R.slots) (ad : String) (had : "[" ++ (newarray.typeOf aty).toString = ad)
    (k : ∀ h' a kA, a = h.size → Old Z n0 h' → Ext h h' → Arv Z h' a kA (newarray.typeOf aty) n [] (defaultValue (newarray.typeOf aty)) → Exa Z h' a ad → Run p l e R s m args below meth c Z EL own n0 bk h' (cells + 1) (slots + cap) { g with pc := g.pc + 2, stack := .ref a :: rest } Q) : Run p l e R s m args below meth c Z EL own n0 bk h cells slots g Q :=
  k_grow (F := fun h' g' => g' = { g with pc := g.pc + 2, stack := .ref h.size :: rest } ∧ Exa Z h' h.size ad ∧ ∃ kA, Arv Z h' h.size kA (newarray.typeOf aty) n [] (defaultValue (newarray.typeOf aty)))
    (fun s' T locs X e1 hZ ho => by
      obtain ⟨T', h', cA, X', e2, E, A, D, st⟩ := newPE X hx hZ w e1 hg hd hs hn hcap hb hc hl had
      exact ⟨T', h', _, X', e2, E, ⟨rfl, D, cA, Arv.new A hn⟩, st⟩)
    (fun h' g' O E ⟨q, D, kA, A⟩ => by subst q; exact k h' _ kA rfl O E A D)
theorem k_newR (hx : p.tables.exec = Jvm.exec) {C : String} {index : Nat} (w1 : (Jvm.Cond.classLink own index C).before a0 Z = true) (w2 : (Jvm.Cond.arrayOver (.object C)).before a0 Z = true) (hg : g.method = m) (hd : decode c.code g.pc = .ok (.anewarray index, 3)) {n : Int32} {rest : List Value} (hs : g.stack = .int n :: rest)
    (hn : ¬ n < 0) {cap : Nat} (hcap : n.toNatClampNeg ≤ cap) (hb : cap * 8 ≤ 536870912) (hc : cells + 1 ≤ R.cells) (hl : slots + cap ≤ R.slots) (ad : String) (had : "[" ++ (FieldType.object C).toString = ad)
    (k : ∀ h' a kA, a = h.size → Old Z n0 h' → Ext h h' → Arv Z h' a kA (.object C) n [] .null → Exa Z h' a ad → Ovr Z kA C → Run p l e R s m args below meth c Z EL own n0 bk h' (cells + 1) (slots + cap) { g with pc := g.pc + 3, stack := .ref a :: rest } Q) : Run p l e R s m args below meth c Z EL own n0 bk h cells slots g Q :=
  k_grow (F := fun h' g' => g' = { g with pc := g.pc + 3, stack := .ref h.size :: rest } ∧ Exa Z h' h.size ad ∧ ∃ kA, Arv Z h' h.size kA (.object C) n [] .null ∧ Ovr Z kA C)
    (fun s' T locs X e1 hZ ho => by
      obtain ⟨T', h', cA, X', e2, E, A, D, Ov, st⟩ := newRE X hx hZ ho w1 w2 e1 hg hd hs hn hcap hb hc hl had
      exact ⟨T', h', _, X', e2, E, ⟨rfl, D, cA, Arv.new A hn, Ov⟩, st⟩)
    (fun h' g' O E ⟨q, D, kA, A, Ov⟩ => by subst q; exact k h' _ kA rfl O E A D Ov)
theorem k_putF (hx : p.tables.exec = Jvm.exec) {R0 O n d host C : String} {index kk : Nat} {ty : FieldType} (w : (Jvm.Cond.fieldLink own index R0 n d).before a0 Z = true ∨ (Jvm.Cond.fieldLinkNest own index R0 n d host).before a0 Z = true) (via : Via Z R0 O n d)
    {a : Addr} {v old : Value} (F : Fld Z h a O n d old) (E : Exa Z h a C) (L : (Jvm.Cond.lays C O n d).before a0 Z = true ∨ ((Jvm.Cond.laysFinal C O n d).before a0 Z = true ∧ own = O ∧ meth.name = "<init>")) (wi : (Jvm.Cond.instantiable C kk).before a0 Z = true)
    (hty : parseFieldDescriptor d = some ty) (hn : narrow ty v = v) (hf : fits ty v = true) (ge : n0 ≤ a) (nb : ¬ bk a) (hg : g.method = m) {rest : List Value} (hs : g.stack = v :: .ref a :: rest) (hd : decode c.code g.pc = .ok (.putfield index, 3))
    (k : ∀ h', Old Z n0 h' → Wr h h' a (RoadKit.slotOf Z O n d) v → Run p l e R s m args below meth c Z EL own n0 bk h' cells slots { g with pc := g.pc + 3, stack := rest } Q) : Run p l e R s m args below meth c Z EL own n0 bk h cells slots g Q :=
  k_write ge nb (fun s' T locs X e1 hZ ho => putF X hx hZ ho w via e1 F E L wi hty hn hf hg hs hd) k
theorem k_alen (hx : p.tables.exec = Jvm.exec) {a : Addr} {kA : ClassId} {ty : FieldType} {n : Int32} {vs : List Value} {d : Value} (V : Arv Z h a kA ty n vs d) (hg : g.method = m) {rest : List Value} (hs : g.stack = .ref a :: rest) (hd : decode c.code g.pc = .ok (.arraylength, 1))
    (k : Run p l e R s m args below meth c Z EL own n0 bk h cells slots { g with pc := g.pc + 1, stack := .int n :: rest } Q) : Run p l e R s m args below meth c Z EL own n0 bk h cells slots g Q :=
  k_still (fun s' T locs X e1 hZ ho => ⟨T, X, e1, fun t => by
    obtain ⟨cl, A, -, S, q, -⟩ := V
    have := X.arraylength hx (a := a) (cell := cl) (by rw [e1]; exact A.1) (State.isArrayOf_alike hZ.alike A.2.1) hg hs hd t
    rw [len_of S q] at this; exact this⟩) k
theorem k_aget (hx : p.tables.exec = Jvm.exec) {a : Addr} {kA : ClassId} {ty : FieldType} {n j : Int32} {vs : List Value} {d v : Value} {i : Instr} (V : Arv Z h a kA ty n vs d) (hj : ¬ j < 0 ∧ j < n) (hv : vs.getD j.toNatClampNeg d = v)
    (hi : (i = .iaload ∧ ty = .int) ∨ (i = .laload ∧ ty = .long) ∨ (i = .caload ∧ ty = .char) ∨ (i = .baload ∧ ty = .byte) ∨ (i = .aaload ∧ ty.isReference = true)) (hg : g.method = m) {rest : List Value} (hs : g.stack = .int j :: .ref a :: rest) (hd : decode c.code g.pc = .ok (i, 1))
    (k : Run p l e R s m args below meth c Z EL own n0 bk h cells slots { g with pc := g.pc + 1, stack := v :: rest } Q) : Run p l e R s m args below meth c Z EL own n0 bk h cells slots g Q :=
  k_still (fun s' T locs X e1 hZ ho => ⟨T, X, e1, fun t => by
    obtain ⟨cl, A, -, S, q, H, -⟩ := V
    have A1 : T.heap[a]? = some cl := by rw [e1]; exact A.1
    have A2 := State.isArrayOf_alike hZ.alike A.2.1
    have hin := inb_of S hj
    have hv' := Has.at H hin hv
    rcases hi with ⟨rfl, rfl⟩ | ⟨rfl, rfl⟩ | ⟨rfl, rfl⟩ | ⟨rfl, rfl⟩ | ⟨rfl, ht⟩
    · exact X.iaload hx A1 A2 A.2.2 hin hv' hg hs hd t
    · exact X.laload hx A1 A2 A.2.2 hin hv' hg hs hd t
    · exact X.caload hx A1 A2 A.2.2 hin hv' hg hs hd t
    · exact X.baloadBytes hx A1 A2 A.2.2 hin hv' hg hs hd t
    · exact X.aaload hx A1 A2 ht A.2.2 hin hv' hg hs hd t⟩) k
theorem k_stC (hx : p.tables.exec = Jvm.exec) {a : Addr} {kA : ClassId} {n j x : Int32} {vs : List Value} {d : Value} (V : Arv Z h a kA .char n vs d) (hj : ¬ j < 0 ∧ j < n) (i : Nat) (hi : j.toNatClampNeg = i) (hl : i < vs.length) (ge : n0 ≤ a) (nb : ¬ bk a) (hg : g.method = m) {rest : List Value} (hs : g.stack = .int x :: .int j :: .ref a :: rest) (hd : decode c.code g.pc = .ok (.castore, 1))
    (k : ∀ h', Old Z n0 h' → Wr h h' a j.toNatClampNeg (.int (nar .char x)) → Arv Z h' a kA .char n (vs.set i (.int (nar .char x))) d → Run p l e R s m args below meth c Z EL own n0 bk h' cells slots { g with pc := g.pc + 1, stack := rest } Q) : Run p l e R s m args below meth c Z EL own n0 bk h cells slots g Q := by
  obtain ⟨cl, A, q1, S, q3, H, G⟩ := V
  exact k_write ge nb (fun s' T locs X e1 hZ ho => stC X hx hZ e1 A (inb_of S hj) hg hs hd) fun h' O W => k h' O W (Arv.set A q1 S q3 H G (fits_nar_char _) W i hi hl)
theorem k_stB (hx : p.tables.exec = Jvm.exec) {a : Addr} {kA : ClassId} {n j x : Int32} {vs : List Value} {d : Value} (V : Arv Z h a kA .byte n vs d) (hj : ¬ j < 0 ∧ j < n) (i : Nat) (hi : j.toNatClampNeg = i) (hl : i < vs.length) (ge : n0 ≤ a) (nb : ¬ bk a) (hg : g.method = m) {rest : List Value} (hs : g.stack = .int x :: .int j :: .ref a :: rest) (hd : decode c.code g.pc = .ok (.bastore, 1))
    (k : ∀ h', Old Z n0 h' → Wr h h' a j.toNatClampNeg (.int (nar .byte x)) → Arv Z h' a kA .byte n (vs.set i (.int (nar .byte x))) d → Run p l e R s m args below meth c Z EL own n0 bk h' cells slots { g with pc := g.pc + 1, stack := rest } Q) : Run p l e R s m args below meth c Z EL own n0 bk h cells slots g Q := by
  obtain ⟨cl, A, q1, S, q3, H, G⟩ := V
  exact k_write ge nb (fun s' T locs X e1 hZ ho => stB X hx hZ e1 A (inb_of S hj) hg hs hd) fun h' O W => k h' O W (Arv.set A q1 S q3 H G (fits_nar_byte _) W i hi hl)
theorem k_stR (hx : p.tables.exec = Jvm.exec) {a : Addr} {kA : ClassId} {ty : FieldType} {n j : Int32} {v : Value} {vs : List Value} {d : Value} (V : Arv Z h a kA ty n vs d) (hty : ty.isReference = true) (hfv : fits ty v = true) (F : Sto Z h a v) (hj : ¬ j < 0 ∧ j < n) (i : Nat) (hi : j.toNatClampNeg = i) (hl : i < vs.length) (ge : n0 ≤ a) (nb : ¬ bk a) (hg : g.method = m) {rest : List Value} (hs : g.stack = v :: .int j :: .ref a :: rest) (hd : decode c.code g.pc = .ok (.aastore, 1))
    (k : ∀ h', Old Z n0 h' → Wr h h' a j.toNatClampNeg v → Arv Z h' a kA ty n (vs.set i v) d → Run p l e R s m args below meth c Z EL own n0 bk h' cells slots { g with pc := g.pc + 1, stack := rest } Q) : Run p l e R s m args below meth c Z EL own n0 bk h cells slots g Q := by
  obtain ⟨cl, A, q1, S, q3, H, G⟩ := V
  exact k_write ge nb (fun s' T locs X e1 hZ ho => stR X hx hZ e1 A (inb_of S hj) hty F hg hs hd) fun h' O W => k h' O W (Arv.set A q1 S q3 H G hfv W i hi hl)
/-! the ends -/
theorem k_ret0 (hx : p.tables.exec = Jvm.exec) (hlk : meth.locks = false) (hret : meth.sig.returnType = none) {pc : Nat} {Ls : Array Slot} (hd : decode c.code pc = .ok (.return_, 1)) (hc : cells ≤ R.cells) (hs : slots ≤ R.slots) (hQ : Q none h bk) : Run p l e R s m args below meth c Z EL own n0 bk h cells slots (mkF m pc Ls []) Q :=
  k_end hlk (fun _ => rfl) hc hs hQ fun s' T locs fs X hr => X.returnOut hx hret hd hr
theorem k_retN (hx : p.tables.exec = Jvm.exec) (hlk : meth.locks = false) {t : FieldType} (hret : meth.sig.returnType = some t) (ht : t = .boolean ∨ t = .byte ∨ t = .char ∨ t = .short) {pc : Nat} {Ls : Array Slot} {z : Int32} {rest : List Value} (hd : decode c.code pc = .ok (.ireturn, 1)) (hc : cells ≤ R.cells) (hs : slots ≤ R.slots) (hQ : Q (some (.int (nar t z))) h bk) : Run p l e R s m args below meth c Z EL own n0 bk h cells slots (mkF m pc Ls (.int z :: rest)) Q :=
  k_end hlk (fun q => by rw [hret] at q; cases q) hc hs hQ fun s' T locs fs X hr => retN X hx hret ht hd hr
theorem k_ret (hx : p.tables.exec = Jvm.exec) (hlk : meth.locks = false) {t : FieldType} {w : Value} {i : Instr} (hret : meth.sig.returnType = some t) (hn : narrow t w = w)
    (hi : (i = .ireturn ∧ (t = .int ∨ t = .boolean ∨ t = .byte ∨ t = .char ∨ t = .short) ∧ ∃ z, w = .int z) ∨ (i = .lreturn ∧ t = .long ∧ ∃ z, w = .long z) ∨ (i = .dreturn ∧ t = .double ∧ ∃ z, w = .double z) ∨ (i = .freturn ∧ t = .float ∧ ∃ z, w = .float z) ∨ (i = .areturn ∧ t.isReference = true ∧ w.isRef = true)) {pc : Nat} {Ls : Array Slot} {rest : List Value} (hd : decode c.code pc = .ok (i, 1)) (hc : cells ≤ R.cells) (hs : slots ≤ R.slots) (hQ : Q (some w) h bk) : Run p l e R s m args below meth c Z EL own n0 bk h cells slots (mkF m pc Ls (w :: rest)) Q :=
  k_end hlk (fun q => by rw [hret] at q; cases q) hc hs hQ fun s' T locs fs X hr => retOut X hx hret hn hi hd hr
theorem k_retI (hx : p.tables.exec = Jvm.exec) (hlk : meth.locks = false) (hret : meth.sig.returnType = some .int) {pc : Nat} {Ls : Array Slot} {z : Int32} {rest : List Value} (hd : decode c.code pc = .ok (.ireturn, 1)) (hc : cells ≤ R.cells) (hs : slots ≤ R.slots) (hQ : Q (some (.int z)) h bk) : Run p l e R s m args below meth c Z EL own n0 bk h cells slots (mkF m pc Ls (.int z :: rest)) Q :=
  k_ret hx hlk hret rfl (Or.inl ⟨rfl, Or.inl rfl, z, rfl⟩) hd hc hs hQ
theorem k_retL (hx : p.tables.exec = Jvm.exec) (hlk : meth.locks = false) (hret : meth.sig.returnType = some .long) {pc : Nat} {Ls : Array Slot} {z : Int64} {rest : List Value} (hd : decode c.code pc = .ok (.lreturn, 1)) (hc : cells ≤ R.cells) (hs : slots ≤ R.slots) (hQ : Q (some (.long z)) h bk) : Run p l e R s m args below meth c Z EL own n0 bk h cells slots (mkF m pc Ls (.long z :: rest)) Q :=
  k_ret hx hlk hret rfl (Or.inr (Or.inl ⟨rfl, rfl, z, rfl⟩)) hd hc hs hQ
theorem k_retA (hx : p.tables.exec = Jvm.exec) (hlk : meth.locks = false) {t : FieldType} {w : Value} (hret : meth.sig.returnType = some t) (hn : narrow t w = w) (ht : t.isReference = true) (hw : w.isRef = true) {pc : Nat} {Ls : Array Slot} {rest : List Value} (hd : decode c.code pc = .ok (.areturn, 1)) (hc : cells ≤ R.cells) (hs : slots ≤ R.slots) (hQ : Q (some w) h bk) : Run p l e R s m args below meth c Z EL own n0 bk h cells slots (mkF m pc Ls (w :: rest)) Q :=
  k_ret hx hlk hret hn (Or.inr (Or.inr (Or.inr (Or.inr ⟨rfl, ht, hw⟩)))) hd hc hs hQ
/-! the calls -/
/-- what a callee's law gives to a walk that stands at h -/
def Pays (l : Launch) (R : Room) (p : Program) (e : Env) (below : List Frame) (s : State) (args : Array Value) (Z : State) (EL : List (String × Nat)) (n0 : Nat) (bk : Addr → Prop) (h : Heap) (y : MethodName) (len W kc ks : Nat) (as' : Array Value) (Q : Option Value → Heap → (Addr → Prop) → Prop) : Prop :=
  ∀ vm0, Z.Warmed39 vm0 → (∃ a0, EW Z a0 EL) → Old Z n0 h → CHv Z EL vm0 h → (∀ y, Bk Z EL vm0 h y → bk y) →
    BackS l R p e below (s.setVm vm0) args y len W (fun A a => a = as' ∧ A.U.heap = h ∧ A.cells + kc ≤ R.cells ∧ A.slots + ks ≤ R.slots)
      (fun A _ v B => ∃ L bk', Q v B.U.heap bk' ∧ Fr n0 L ∧ Old Z n0 B.U.heap ∧ CHv Z EL B.U.vm B.U.heap ∧ (∀ y, Bk Z EL B.U.vm B.U.heap y → bk' y) ∧ B.locs = A.locs ++ L ∧ B.cells = A.cells + kc ∧ B.slots = A.slots + ks)
theorem at_bk {T : State} {locs : List Loc} {vm0 : Vm} (X : Stand p l e R (s.setVm vm0) m args below meth c T locs cells slots) (hZ : Z.Warmed39 vm0) (w : EW Z a0 EL) (C : CHv Z EL vm0 h) (B : ∀ y, Bk Z EL vm0 h y → bk y) : CHv Z EL T.vm h ∧ ∀ y, Bk Z EL T.vm h y → bk y := by
  have A := CHv.at X hZ w C
  exact ⟨A.1, fun y q => (A.2.2 y q).elim (B y) (fun z => absurd (Array.getElem?_eq_some_iff.mp (Bk.there q).choose_spec).1 (Nat.not_lt.mpr z))⟩
theorem Pays.of_met {y : MethodName} {bytes : ByteArray} {maxL : Nat} {ret : Option FieldType} {rm : Room} {len W : Nat} {as' : Array Value} {Qc : Option Value → Heap → (Addr → Prop) → Prop} (hM : Met l Z EL n0 bk y bytes maxL ret rm as' h Qc [])
    (wc : (Jvm.Cond.code y bytes maxL ret).before a0 Z = true) (wz : (Jvm.Cond.initialized y.cls).before a0 Z = true) (hf : rm.frames + 1 ≤ R.frames) (hl : W + (maxL + 11) + rm.locals ≤ R.locals) :
    Pays l R p e below s args Z EL n0 bk h y len W rm.cells rm.slots as' Qc := fun vm0 hZ ⟨a1, hEL⟩ hO H hB =>
  BackS.of_freeW (bytes := bytes) (maxL := maxL) (ret := ret) (E := fun _ _ o t L k n => k = rm.cells ∧ n = rm.slots ∧ ∃ v bk', o = .returned v ∧ Qc v t.heap bk' ∧ Fr n0 L ∧ Old Z n0 t.heap ∧ CHv Z EL t.vm t.heap ∧ ∀ y, Bk Z EL t.vm t.heap y → bk' y) hM hf hl
    (fun m meth c A a Y hp => have hU : Z.Warmed39 A.U.vm := wtrans (s := s.setVm vm0) hZ Y.warmed
      ⟨by show (Jvm.Cond.and _ .tt).before a A.U = true; rw [Jvm.Cond.before_and, mv hU wc]; rfl, mv hU wc, mv hU wz, hp.2.2.1, hp.2.2.2⟩)
    (fun m meth c A a g mk Y hp => have r := at_bk Y hZ hEL H hB; ⟨hp.1, wtrans (s := s.setVm vm0) hZ Y.warmed, hp.2.1, r.1, r.2⟩) (fun _ _ _ _ _ _ _ _ _ => trivial)
    (fun _ _ _ _ ⟨v, L, bk', h1, h2, h3⟩ => ⟨L, _, _, h3, rfl, rfl, v, bk', h1, h2⟩)
    (fun m meth c A a g mk v t L k n Y hp _ _ ⟨e1, e2, v', bk', e3, r1, r2, r3, r4, r5⟩ => by
      cases e3; subst e1 e2
      exact ⟨L, bk', r1, r2, r3, r4, r5, rfl, rfl, rfl⟩)
/-- a library law that moves nothing -/
theorem Pays.of_same {y : MethodName} {len W : Nat} {as' : Array Value} {v0 : Option Value} (hK : ∀ s' : State, Z.Warmed39 s'.vm → Back l R p e below s' args y len W (fun P a => a = as' ∧ P.U.heap = h ∧ P.cells + 0 ≤ R.cells ∧ P.slots + 0 ≤ R.slots) (fun P _ v B => ∃ L, (v = v0 ∧ L = [] ∧ B.U.heap = h) ∧ B.locs = P.locs ++ L ∧ B.cells = P.cells + 0 ∧ B.slots = P.slots + 0)) :
    Pays l R p e below s args Z EL n0 bk h y len W 0 0 as' (fun v h' bk' => v = v0 ∧ h = h' ∧ bk = bk') := fun vm0 hZ ⟨a1, hEL⟩ hO H hB => by
  intro m meth c A g ig mk a X hg hsize hdg hW hn hp
  obtain ⟨v, B, X', ⟨L, ⟨q1, q2, q3⟩, q4, q5, q6⟩, hsteps⟩ := hK (s.setVm vm0) hZ m meth c A g ig mk a X hg hsize hdg hW hn hp
  have r := at_bk X' hZ hEL H hB
  refine ⟨v, B, X'.retabled X'.warmed.wide, X'.warmed.since _, by rw [hp.2.1, q3]; exact Nat.le_refl _, ⟨L, bk, ⟨q1, q3.symm, rfl⟩, by rw [q2]; exact Fr.nil _, by rw [q3]; exact hO, by rw [q3]; exact r.1, by rw [q3]; exact r.2, q4, q5, q6⟩, hsteps⟩
theorem ne_of_keep {Z : State} {EL : List (String × Nat)} {vm : Vm} {h h' : Heap} {x : Addr} (K : Keep h h' [x]) (C : CHv Z EL vm h) (nb : ¬ Bk Z EL vm h x) : CHv Z EL vm h' ∧ ∀ y, Bk Z EL vm h' y → Bk Z EL vm h y := C.keepStep K (sfS nb sf0)
/-- a library law that writes one object of ours -/
theorem Pays.of_keep {y : MethodName} {len W kc ks : Nat} {as' : Array Value} {x : Addr} {Qk : Option Value → Heap → List Loc → Prop} (nb : ¬ bk x) (ge : n0 ≤ x) (hq : ∀ v h' L, Qk v h' L → Fr n0 L ∧ Keep h h' [x])
    (hK : ∀ s' : State, Z.Warmed39 s'.vm → Back l R p e below s' args y len W (fun P a => a = as' ∧ P.U.heap = h ∧ P.cells + kc ≤ R.cells ∧ P.slots + ks ≤ R.slots) (fun P _ v B => ∃ L, Qk v B.U.heap L ∧ B.locs = P.locs ++ L ∧ B.cells = P.cells + kc ∧ B.slots = P.slots + ks)) :
    Pays l R p e below s args Z EL n0 bk h y len W kc ks as' (fun v h' bk' => (∃ L, Qk v h' L) ∧ bk = bk') := fun vm0 hZ ⟨a1, hEL⟩ hO H hB => by
  intro m meth c A g ig mk a X hg hsize hdg hW hn hp
  obtain ⟨v, B, X', ⟨L, q1, q4, q5, q6⟩, hsteps⟩ := hK (s.setVm vm0) hZ m meth c A g ig mk a X hg hsize hdg hW hn hp
  obtain ⟨N, K⟩ := hq _ _ _ q1
  have r := at_bk X' hZ hEL H hB
  have r' := ne_of_keep K r.1 (fun q => nb (r.2 x q))
  refine ⟨v, B, X'.retabled X'.warmed.wide, X'.warmed.since _, by rw [hp.2.1]; exact K.1, ⟨L, bk, ⟨⟨L, q1⟩, rfl⟩, N, hO.keep K (allS ge all0), r'.1, fun z q => r.2 z (r'.2 z q), q4, q5, q6⟩, hsteps⟩
/-- behind a call -/
theorem k_back {vm0 : Vm} {T : State} {locs : List Loc} {len kc ks : Nat} {rest : List Value} {Qc : Option Value → Heap → (Addr → Prop) → Prop} (P : Pos p l e R s m args below meth c Z EL own n0 bk h cells slots vm0 T locs)
    (H : ∃ (v : Option Value) (vm₁ : Vm) (B : Pt), (s.setVm vm0).WarmedH vm₁ ∧ Stand p l e R ((s.setVm vm0).setVm B.U.vm) m args below meth c B.U B.locs B.cells B.slots ∧ (s.setVm vm0).Since B.U.vm B.U.heap.size ∧ T.heap.size ≤ B.U.heap.size ∧
      (∃ L bk', Qc v B.U.heap bk' ∧ Fr n0 L ∧ Old Z n0 B.U.heap ∧ CHv Z EL B.U.vm B.U.heap ∧ (∀ y, Bk Z EL B.U.vm B.U.heap y → bk' y) ∧ B.locs = locs ++ L ∧ B.cells = cells + kc ∧ B.slots = slots + ks) ∧ Steps p.tables e below (T.setTop g) (B.U.setTop { g with pc := g.pc + len, stack := v.toList ++ rest }))
    (k : ∀ v h' bk', Old Z n0 h' → h.size ≤ h'.size → Qc v h' bk' → Run p l e R s m args below meth c Z EL own n0 bk' h' (cells + kc) (slots + ks) { g with pc := g.pc + len, stack := v.toList ++ rest } Q) :
    ∃ U o, Steps p.tables e below (T.setTop g) U ∧ U.status = .running ∧ Ended U below o ∧ EndW s R Z EL n0 Q o U := by
  obtain ⟨X, e1, ⟨k0, hS, hk⟩, hZ, ho, N, O, C, B, hE⟩ := P
  obtain ⟨v, vm1, ⟨TB, LB, cB, sB⟩, -, X', hS', hgr, ⟨L, bk', q1, q2, q3, q4, q5, q6, q7, q8⟩, st⟩ := H
  dsimp only [Pt.U, Pt.locs, Pt.cells, Pt.slots] at X' hS' hgr q1 q3 q4 q5 q6 q7 q8 st
  subst q6 q7 q8
  obtain ⟨r1, r2, r3, r4⟩ := rebS hS (by rw [← e1] at hk; exact hk) X' hS' hgr hZ ho
  obtain ⟨U, o, h1, r⟩ := k v TB.heap bk' q3 (by rw [← e1]; exact hgr) q1 TB.vm TB _ ⟨r1, rfl, ⟨_, r2, Nat.le_refl _⟩, r3, r4, Fr.app N q2, q3, q4, q5, hE⟩
  exact ⟨U, o, st.trans h1, r⟩
theorem k_callS (hx : p.tables.exec = Jvm.exec) {index : Nat} {y : MethodName} {bytes : ByteArray} {maxL : Nat} {ret : Option FieldType} (w1 : (Jvm.Cond.methodLink own index y).before a0 Z = true) (w2 : (Jvm.Cond.static y).before a0 Z = true) (w3 : (Jvm.Cond.initialized y.cls).before a0 Z = true) (w4 : (Jvm.Cond.code y bytes maxL ret).before a0 Z = true)
    (hy : y.cls ≠ "java/lang/invoke/MethodHandle" ∧ y.cls ≠ "java/lang/invoke/VarHandle") {W kc ks : Nat} {Qc : Option Value → Heap → (Addr → Prop) → Prop} {argsL rest : List Value} (hK : Pays l R p e below s args Z EL n0 bk h y 3 W kc ks argsL.toArray Qc)
    (hg : g.method = m) (hsize : g.locals.size = c.maxLocals) (hlen : ∀ sig, parseMethodDescriptor y.desc = some sig → argsL.length = sig.parameters.length) (hstack : g.stack = argsL.reverse ++ rest) (hW : 2 * g.monitorRoom + (rest.map fun v => v.category).sum ≤ W) (hd : decode c.code g.pc = .ok (.invokestatic index, 3)) (hc : cells + kc ≤ R.cells) (hs : slots + ks ≤ R.slots)
    (k : ∀ v h' bk', Old Z n0 h' → h.size ≤ h'.size → Qc v h' bk' → Run p l e R s m args below meth c Z EL own n0 bk' h' (cells + kc) (slots + ks) { g with pc := g.pc + 3, stack := v.toList ++ rest } Q) : Run p l e R s m args below meth c Z EL own n0 bk h cells slots g Q := fun vm0 T locs P => by
  have P' := P
  obtain ⟨X, e1, hS, hZ, ho, N, O, C, B, hE⟩ := P'
  exact k_back P (callSS X hx ho (mv hZ w1) (mv hZ w2) (mv hZ w3) (mv hZ w4) hy (hK vm0 hZ hE O C B) hg hsize hlen hstack hW hd fun _ _ => ⟨rfl, e1, hc, hs⟩) k
theorem k_callI (hx : p.tables.exec = Jvm.exec) {index : Nat} {y : MethodName} {bytes : ByteArray} {maxL : Nat} (hy1 : y.name = "<init>") (w1 : (Jvm.Cond.methodLink own index y).before a0 Z = true) (w2 : (Jvm.Cond.instanceMethod y).before a0 Z = true) (w4 : (Jvm.Cond.code y bytes maxL none).before a0 Z = true)
    (hy : y.cls ≠ "java/lang/invoke/MethodHandle" ∧ y.cls ≠ "java/lang/invoke/VarHandle") {W kc ks : Nat} {Qc : Option Value → Heap → (Addr → Prop) → Prop} {a : Addr} {argsL rest : List Value} (hK : Pays l R p e below s args Z EL n0 bk h y 3 W kc ks (.ref a :: argsL).toArray Qc)
    (hg : g.method = m) (hsize : g.locals.size = c.maxLocals) (hlen : ∀ sig, parseMethodDescriptor y.desc = some sig → argsL.length = sig.parameters.length) (hstack : g.stack = argsL.reverse ++ .ref a :: rest) (hW : 2 * g.monitorRoom + (rest.map fun v => v.category).sum ≤ W) (hd : decode c.code g.pc = .ok (.invokespecial index, 3)) (hc : cells + kc ≤ R.cells) (hs : slots + ks ≤ R.slots)
    (k : ∀ v h' bk', Old Z n0 h' → h.size ≤ h'.size → Qc v h' bk' → Run p l e R s m args below meth c Z EL own n0 bk' h' (cells + kc) (slots + ks) { g with pc := g.pc + 3, stack := v.toList ++ rest } Q) : Run p l e R s m args below meth c Z EL own n0 bk h cells slots g Q := fun vm0 T locs P => by
  have P' := P
  obtain ⟨X, e1, hS, hZ, ho, N, O, C, B, hE⟩ := P'
  exact k_back P (X.specialBackS hx hy1 ho (mv hZ w1) (mv hZ w2) (mv hZ w4) hy (hK vm0 hZ hE O C B) hg hsize (Steps.refl _) hlen hstack hW hd fun _ _ => ⟨rfl, e1, hc, hs⟩) k
theorem k_callV (hx : p.tables.exec = Jvm.exec) {index : Nat} {C : String} {y z : MethodName} (w1 : (Jvm.Cond.methodLink own index y).before a0 Z = true) (w2 : (Jvm.Cond.declares y).before a0 Z = true) (nf : ∀ s' : State, Z.Warmed39 s'.vm → NotFace s' y) (w3 : (Jvm.Cond.selects C y z).before a0 Z = true) (w4 : (Jvm.Cond.instanceMethod z).before a0 Z = true)
    (hy : y.cls ≠ "java/lang/invoke/MethodHandle" ∧ y.cls ≠ "java/lang/invoke/VarHandle") {W kc ks : Nat} {Qc : Option Value → Heap → (Addr → Prop) → Prop} {a : Addr} {argsL rest : List Value} (hK : Pays l R p e below s args Z EL n0 bk h z 3 W kc ks (.ref a :: argsL).toArray Qc) (E : Exa Z h a C)
    (hg : g.method = m) (hsize : g.locals.size = c.maxLocals) (hlen : ∀ sig, parseMethodDescriptor y.desc = some sig → argsL.length = sig.parameters.length) (hstack : g.stack = argsL.reverse ++ .ref a :: rest) (hW : 2 * g.monitorRoom + (rest.map fun v => v.category).sum ≤ W) (hd : decode c.code g.pc = .ok (.invokevirtual index, 3)) (hc : cells + kc ≤ R.cells) (hs : slots + ks ≤ R.slots)
    (k : ∀ v h' bk', Old Z n0 h' → h.size ≤ h'.size → Qc v h' bk' → Run p l e R s m args below meth c Z EL own n0 bk' h' (cells + kc) (slots + ks) { g with pc := g.pc + 3, stack := v.toList ++ rest } Q) : Run p l e R s m args below meth c Z EL own n0 bk h cells slots g Q := fun vm0 T locs P => by
  have P' := P
  obtain ⟨X, e1, hS, hZ, ho, N, O, C, B, hE⟩ := P'
  obtain ⟨cq, kq, qa, qb, qc⟩ := isOf (s := s.setVm vm0) hZ e1 E
  exact k_back P (X.virtualBackS hx ho (mv hZ w1) (mv hZ w2) (nf _ hZ) (mv hZ w3) (mv hZ w4) hy (hK vm0 hZ hE O C B) qa qc hg hsize (Steps.refl _) hlen hstack hW hd fun _ _ => ⟨rfl, e1, hc, hs⟩) k
/-- invokevirtual of a method that a class above the named one declares -/
theorem k_callU (hx : p.tables.exec = Jvm.exec) {index : Nat} {C owner : String} {y z : MethodName} (w1 : (Jvm.Cond.methodLink own index y).before a0 Z = true) (w2 : (Jvm.Cond.sameMethod y.cls owner y.name y.desc).before a0 Z = true) (w5 : (Jvm.Cond.declares ⟨owner, y.name, y.desc⟩).before a0 Z = true) (how : owner ≠ "java/lang/invoke/MethodHandle" ∧ owner ≠ "java/lang/invoke/VarHandle") (w3 : (Jvm.Cond.selects C y z).before a0 Z = true) (w4 : (Jvm.Cond.instanceMethod z).before a0 Z = true)
    {W kc ks : Nat} {Qc : Option Value → Heap → (Addr → Prop) → Prop} {a : Addr} {argsL rest : List Value} (hK : Pays l R p e below s args Z EL n0 bk h z 3 W kc ks (.ref a :: argsL).toArray Qc) (E : Exa Z h a C)
    (hg : g.method = m) (hsize : g.locals.size = c.maxLocals) (hlen : ∀ sig, parseMethodDescriptor y.desc = some sig → argsL.length = sig.parameters.length) (hstack : g.stack = argsL.reverse ++ .ref a :: rest) (hW : 2 * g.monitorRoom + (rest.map fun v => v.category).sum ≤ W) (hd : decode c.code g.pc = .ok (.invokevirtual index, 3)) (hc : cells + kc ≤ R.cells) (hs : slots + ks ≤ R.slots)
    (k : ∀ v h' bk', Old Z n0 h' → h.size ≤ h'.size → Qc v h' bk' → Run p l e R s m args below meth c Z EL own n0 bk' h' (cells + kc) (slots + ks) { g with pc := g.pc + 3, stack := v.toList ++ rest } Q) : Run p l e R s m args below meth c Z EL own n0 bk h cells slots g Q := fun vm0 T locs P => by
  have P' := P
  obtain ⟨X, e1, hS, hZ, ho, N, O, C, B, hE⟩ := P'
  obtain ⟨cq, kq, qa, qb, qc⟩ := isOf (s := s.setVm vm0) hZ e1 E
  exact k_back P (X.virtualBackUpS hx ho (mv hZ w1) (mv hZ w2) (mv hZ w5) how (mv hZ w3) (mv hZ w4) (hK vm0 hZ hE O C B) qa qc hg hsize (Steps.refl _) hlen hstack hW hd fun _ _ => ⟨rfl, e1, hc, hs⟩) k
theorem decl_of {y : MethodName} {bytes : ByteArray} {maxL : Nat} {ret : Option FieldType} (w2 : (Jvm.Cond.instanceMethod y).before a0 Z = true) (w4 : (Jvm.Cond.code y bytes maxL ret).before a0 Z = true) : (Jvm.Cond.declares y).before a0 Z = true := by
  obtain ⟨mk, methM, hnamed, hmethM, hst, -⟩ := Jvm.Cond.instanceMethod_spec w2
  obtain ⟨m2, cM, q1, -, -, -, -, -, -, hsig⟩ := Jvm.Cond.code_spec hnamed w4
  cases hmethM.symm.trans q1
  simp [Jvm.Cond.before, Jvm.Cond.holds, Jvm.Cond.value, hnamed, hmethM, hst, hsig]
theorem nf_of' {s' : State} {C : String} {y y' : MethodName} (q : y'.cls = y.cls) (hZ : Z.Warmed39 s'.vm) (w : (Jvm.Cond.selects C y' y').before a0 Z = true) : NotFace s' y := fun r0 h0 => by
  obtain ⟨c2, r2, m2, q1, q2, q3, q4, kP, hkP, hkPi⟩ := Jvm.Cond.selects_spec (mv (args := #[]) hZ w)
  have e1 := findClass_of_methodNamed h0
  have e2 := findClass_of_methodNamed q3
  rw [q] at e2
  rw [show r0.cls = m2.cls from Option.some.inj (e1.symm.trans e2)]
  exact ⟨kP, hkP, hkPi⟩
theorem nf_of {C : String} {y y' : MethodName} (q : y'.cls = y.cls) (w : (Jvm.Cond.selects C y' y').before a0 Z = true) : NotFace Z y := nf_of' q (State.Warmed39.refl Z) w
theorem same_of {y : MethodName} (hy : y.cls ≠ "java/lang/invoke/MethodHandle" ∧ y.cls ≠ "java/lang/invoke/VarHandle") (w : (Jvm.Cond.declares y).before a0 Z = true) (nf : NotFace Z y) : (Jvm.Cond.sameMethod y.cls y.cls y.name y.desc).before a0 Z = true := by
  obtain ⟨mk, methM, hnamed, hmethM, -, -⟩ := Jvm.Cond.declares_spec w
  obtain ⟨kr, hk, hi⟩ := nf mk hnamed
  have e1 := State.methodFound?_of_named hnamed hy
  have e2 := findClass_of_methodNamed hnamed
  have e3 : Z.methodNamed? ⟨y.cls, y.name, y.desc⟩ = some mk := hnamed
  simp [Jvm.Cond.before, Jvm.Cond.holds, Jvm.Cond.value, e1, e2, e3, hk, hi]
/-- invokespecial of a method of the class above -/
theorem k_callX (hx : p.tables.exec = Jvm.exec) {index : Nat} {K : String} {y : MethodName} {bytes : ByteArray} {maxL : Nat} {ret : Option FieldType} (w1 : (Jvm.Cond.methodLink own index y).before a0 Z = true) (w2 : (Jvm.Cond.sameMethod y.cls y.cls y.name y.desc).before a0 Z = true) (w3 : (Jvm.Cond.instanceMethod y).before a0 Z = true) (w4 : (Jvm.Cond.superclass own y.cls).before a0 Z = true) (hn : y.name ≠ "<init>") (wc : (Jvm.Cond.code y bytes maxL ret).before a0 Z = true)
    {W kc ks : Nat} {Qc : Option Value → Heap → (Addr → Prop) → Prop} {a : Addr} {argsL rest : List Value} (hK : Pays l R p e below s args Z EL n0 bk h y 3 W kc ks (.ref a :: argsL).toArray Qc) (E : Ins Z h a K true)
    (hg : g.method = m) (hsize : g.locals.size = c.maxLocals) (hlen : ∀ sig, parseMethodDescriptor y.desc = some sig → argsL.length = sig.parameters.length) (hstack : g.stack = argsL.reverse ++ .ref a :: rest) (hW : 2 * g.monitorRoom + (rest.map fun v => v.category).sum ≤ W) (hd : decode c.code g.pc = .ok (.invokespecial index, 3)) (hc : cells + kc ≤ R.cells) (hs : slots + ks ≤ R.slots)
    (k : ∀ v h' bk', Old Z n0 h' → h.size ≤ h'.size → Qc v h' bk' → Run p l e R s m args below meth c Z EL own n0 bk' h' (cells + kc) (slots + ks) { g with pc := g.pc + 3, stack := v.toList ++ rest } Q) : Run p l e R s m args below meth c Z EL own n0 bk h cells slots g Q := fun vm0 T locs P => by
  have P' := P
  obtain ⟨X, e1, hS, hZ, ho, N, O, C, B, hE⟩ := P'
  exact k_back P (superBackS X hx hZ ho w1 w2 w3 w4 hn (hK vm0 hZ hE O C B) e1 E hg hsize wc hlen hstack hW hd fun _ _ => ⟨rfl, e1, hc, hs⟩) k
/-- invokeinterface -/
theorem k_face (hx : p.tables.exec = Jvm.exec) {index count : Nat} {C : String} {y z : MethodName} (w1 : (Jvm.Cond.methodLink own index y).before a0 Z = true) (w2 : (Jvm.Cond.declares y).before a0 Z = true) (w3 : (Jvm.Cond.interfaceMethod y.cls y.cls y.name y.desc).before a0 Z = true) (w4 : (Jvm.Cond.selects C y z).before a0 Z = true) (w5 : (Jvm.Cond.instanceMethod z).before a0 Z = true) (w6 : (Jvm.Cond.publicMethod z).before a0 Z = true) (w7 : (Jvm.Cond.unhidden C y.name y.desc).before a0 Z = true) (w8 : (Jvm.Cond.castable C y.cls).before a0 Z = true)
    (hfa : ((Jvm.Cond.interfaceMethod y.cls y.cls y.name y.desc).onTables && (Jvm.Cond.interfaceMethod y.cls y.cls y.name y.desc).keepsFace) = true) (hy : y.cls ≠ "java/lang/invoke/MethodHandle" ∧ y.cls ≠ "java/lang/invoke/VarHandle") {W kc ks : Nat} {Qc : Option Value → Heap → (Addr → Prop) → Prop} {a : Addr} {argsL rest : List Value} (hK : Pays l R p e below s args Z EL n0 bk h z 5 W kc ks (.ref a :: argsL).toArray Qc) (E : Exa Z h a C)
    (hg : g.method = m) (hsize : g.locals.size = c.maxLocals) (hlen : ∀ sig, parseMethodDescriptor y.desc = some sig → argsL.length = sig.parameters.length) (hstack : g.stack = argsL.reverse ++ .ref a :: rest) (hW : 2 * g.monitorRoom + (rest.map fun v => v.category).sum ≤ W) (hd : decode c.code g.pc = .ok (.invokeinterface index count, 5)) (hc : cells + kc ≤ R.cells) (hs : slots + ks ≤ R.slots)
    (k : ∀ v h' bk', Old Z n0 h' → h.size ≤ h'.size → Qc v h' bk' → Run p l e R s m args below meth c Z EL own n0 bk' h' (cells + kc) (slots + ks) { g with pc := g.pc + 5, stack := v.toList ++ rest } Q) : Run p l e R s m args below meth c Z EL own n0 bk h cells slots g Q := fun vm0 T locs P => by
  have P' := P
  obtain ⟨X, e1, hS, hZ, ho, N, O, C, B, hE⟩ := P'
  obtain ⟨cq, kq, qa, qb, qc⟩ := isOf (s := s.setVm vm0) hZ e1 E
  exact k_back P (X.interfaceBackS hx ho (mv hZ w1) (mv hZ w2) (mv hZ w3 hfa) (mv hZ w4) (mv hZ w5) (mv hZ w6) (mv hZ w7) (mv hZ w8) hy (hK vm0 hZ hE O C B) qa qb qc hg hsize (Steps.refl _) hlen hstack hW hd fun _ _ => ⟨rfl, e1, hc, hs⟩) k
/-! String constants -/
theorem k_ldcO (hx : p.tables.exec = Jvm.exec) {text : String} {index : Nat} (w : (Jvm.Cond.stringLink own index text).before a0 Z = true) (wS : ∀ a ∈ Bundle.stringAtoms, a.before a0 Z = true) (hg : g.method = m) (hd : decode c.code g.pc = .ok (.ldc index, 2)) {n : Nat} (hn : 4 * text.toList.length ≤ n) (hbig : n ≤ 536870912) (hc : cells + 2 ≤ R.cells) (hl : slots + (n + 4) ≤ R.slots)
    (k : ∀ h' a bk', Old Z n0 h' → Ext h h' → (∀ y, bk' y → bk y ∨ (h.size ≤ y ∧ y < h'.size)) → Run p l e R s m args below meth c Z EL own n0 bk' h' (cells + 2) (slots + (n + 4)) { g with pc := g.pc + 2, stack := .ref a :: g.stack } Q) : Run p l e R s m args below meth c Z EL own n0 bk h cells slots g Q := fun vm0 T locs P => by
  obtain ⟨X, e1, ⟨k0, hS, hk⟩, hZ, ho, N, O, C, B, a1, hE⟩ := P
  obtain ⟨a, T', h', k1, X', e2, E, hS', hk', hZ', ho', hC, -, st⟩ := ldcOH X hx hZ ho w wS e1 hS hk hE C hg hd hn hbig hc hl
  obtain ⟨U, o, h1, r⟩ := k h' a (fun y => bk y ∨ (h.size ≤ y ∧ y < h'.size)) (O.ext E) E (fun _ q => q) T'.vm T' locs ⟨X', e2, ⟨k1, hS', hk'⟩, hZ', ho', N, O.ext E, hC.1, fun y q => (hC.2.2 y q).imp (B y) fun r => ⟨r, (Array.getElem?_eq_some_iff.mp (Bk.there q).choose_spec).1⟩, a1, hE⟩
  exact ⟨U, o, st _ h1, r⟩
/-- where no constant is read -/
theorem k_ldc0 (hEL : EL = []) (hx : p.tables.exec = Jvm.exec) {text : String} {index : Nat} (w : (Jvm.Cond.stringLink own index text).before a0 Z = true) (wS : ∀ a ∈ Bundle.stringAtoms, a.before a0 Z = true) (hg : g.method = m) (hd : decode c.code g.pc = .ok (.ldc index, 2)) {n : Nat} (hn : 4 * text.toList.length ≤ n) (hbig : n ≤ 536870912) (hc : cells + 2 ≤ R.cells) (hl : slots + (n + 4) ≤ R.slots)
    (k : ∀ h' a, Old Z n0 h' → Ext h h' → Run p l e R s m args below meth c Z EL own n0 bk h' (cells + 2) (slots + (n + 4)) { g with pc := g.pc + 2, stack := .ref a :: g.stack } Q) : Run p l e R s m args below meth c Z EL own n0 bk h cells slots g Q := fun vm0 T locs P => by
  subst hEL
  obtain ⟨X, e1, ⟨k0, hS, hk⟩, hZ, ho, N, O, C, B, a1, hE⟩ := P
  obtain ⟨a, T', h', k1, X', e2, E, hS', hk', hZ', ho', hC, -, st⟩ := ldcOH X hx hZ ho w wS e1 hS hk hE C hg hd hn hbig hc hl
  obtain ⟨U, o, h1, r⟩ := k h' a (O.ext E) E T'.vm T' locs ⟨X', e2, ⟨k1, hS', hk'⟩, hZ', ho', N, O.ext E, hC.1, (fun y q => by obtain ⟨p, hp, -⟩ := q; cases hp), a1, hE⟩
  exact ⟨U, o, st _ h1, r⟩
/-- a constant that is read -/
theorem k_ldcC (hx : p.tables.exec = Jvm.exec) {text : String} {index : Nat} (w : (Jvm.Cond.stringLink own index text).before a0 Z = true) (wS : ∀ a ∈ Bundle.stringAtoms, a.before a0 Z = true) (hmem : (own, index) ∈ EL) {vs : List Value} {z : Int32} (ht : (∀ c ∈ text.toList, c.toNat < 256) ∧ text.toList.map (fun c => Value.int (Jvm.Lit.byteI c.toNat.toUInt16)) = vs) (hz : ¬ z < 0) (hzl : z.toNatClampNeg = vs.length)
    (hg : g.method = m) (hd : decode c.code g.pc = .ok (.ldc index, 2)) {n : Nat} (hn : 4 * text.toList.length ≤ n) (hbig : n ≤ 536870912) (hc : cells + 2 ≤ R.cells) (hl : slots + (n + 4) ≤ R.slots)
    (k : ∀ h' a b kb bk', Old Z n0 h' → Ext h h' → (∀ y, bk' y → bk y ∨ (h.size ≤ y ∧ y < h'.size)) → Exa Z h' a "java/lang/String" → Fld Z h' a "java/lang/String" "coder" "B" (.int 0) → Fld Z h' a "java/lang/String" "value" "[B" (.ref b) → Arv Z h' b kb .byte z vs (.int 0) → (∀ x, x < h.size → ¬ bk x → x ≠ a ∧ x ≠ b) →
      Run p l e R s m args below meth c Z EL own n0 bk' h' (cells + 2) (slots + (n + 4)) { g with pc := g.pc + 2, stack := .ref a :: g.stack } Q) : Run p l e R s m args below meth c Z EL own n0 bk h cells slots g Q := fun vm0 T locs P => by
  obtain ⟨X, e1, ⟨k0, hS, hk⟩, hZ, ho, N, O, C, B, a1, hE⟩ := P
  obtain ⟨a, T', h', k1, b, kb, X', e2, E, hS', hk', hZ', ho', r1, r2, r3, r4, -, -, hC, -, r5, st⟩ := ldcCH X hx hZ ho w wS e1 hS hk hE hmem C ht hz hzl hg hd hn hbig hc hl
  obtain ⟨U, o, h1, r⟩ := k h' a b kb (fun y => bk y ∨ (h.size ≤ y ∧ y < h'.size)) (O.ext E) E (fun _ q => q) r1 r2 r3 r4 (fun x lt nb => r5 x fun q => (hC.2.2 x q).elim (fun q => nb (B x q)) fun q => absurd lt (Nat.not_lt.mpr q)) T'.vm T' locs ⟨X', e2, ⟨k1, hS', hk'⟩, hZ', ho', N, O.ext E, hC.1, fun y q => (hC.2.2 y q).imp (B y) fun r => ⟨r, (Array.getElem?_eq_some_iff.mp (Bk.there q).choose_spec).1⟩, a1, hE⟩
  exact ⟨U, o, st _ h1, r⟩
/-! two natives -/
theorem k_cpA (hx : p.tables.exec = Jvm.exec) {index : Nat} (w1 : (Jvm.Cond.methodLink own index Jvm.Stand.acN).before a0 Z = true) (w2 : (Jvm.Cond.native Jvm.Stand.acN).before a0 Z = true) (w3 : (Jvm.Cond.static Jvm.Stand.acN).before a0 Z = true) (w4 : (Jvm.Cond.initialized "java/lang/System").before a0 Z = true)
    {a b : Addr} {ka kb : ClassId} {ty ty' : FieldType} {z z' sp dp nn : Int32} {vs vd us : List Value} {dv dd : Value} (A : Arv Z h a ka ty z vs dv) (B : Arv Z h b kb ty' z' vd dd) (hty : (ty = ty' ∧ refKind ty = false) ∨ (refKind ty = true ∧ refKind ty' = true ∧ StoL Z h b us))
    (h1 : ¬ sp < 0) (h2 : ¬ dp < 0) (h3 : ¬ nn < 0) (h4 : sp.toNatClampNeg + nn.toNatClampNeg ≤ z.toNatClampNeg) (h5 : dp.toNatClampNeg + nn.toNatClampNeg ≤ z'.toNatClampNeg) (hus : us = (List.range nn.toNatClampNeg).map fun i => vs.getD (sp.toNatClampNeg + i) dv) (hvl : dp.toNatClampNeg + nn.toNatClampNeg ≤ vd.length) (ge : n0 ≤ b) (nb : ¬ bk b)
    (hg : g.method = m) (hsize : g.locals.size = c.maxLocals) {rest : List Value} (hs : g.stack = .int nn :: .int dp :: .ref b :: .int sp :: .ref a :: rest) (hd : decode c.code g.pc = .ok (.invokestatic index, 3)) (hf : 1 ≤ R.frames) {W : Nat} (hW : 2 * g.monitorRoom + (rest.map fun v => v.category).sum ≤ W) (hlo : W + (nativeFrameWords "java/lang/System" "arraycopy" 5 + 11) ≤ R.locals)
    (k : ∀ h', Old Z n0 h' → Keep h h' [b] → Arv Z h' b kb ty' z' (vd.take dp.toNatClampNeg ++ us ++ vd.drop (dp.toNatClampNeg + nn.toNatClampNeg)) dd → Run p l e R s m args below meth c Z EL own n0 bk h' cells slots { g with pc := g.pc + 3, stack := rest } Q) : Run p l e R s m args below meth c Z EL own n0 bk h cells slots g Q := fun vm0 T locs P => by
  obtain ⟨X, e1, ⟨k0, hS, hk⟩, hZ, ho, N, O, C, Bb, hE⟩ := P
  obtain ⟨T', h', L, X', e2, N', K, V, st⟩ := cpA X hx hZ ho w1 w2 w3 w4 e1 A B hty h1 h2 h3 h4 h5 hus hvl N ge hg hsize hs hd hf hW hlo
  have r' := ne_of_keep K C (fun q => nb (Bb b q))
  obtain ⟨U, o, q1, r⟩ := k h' (O.keep K (allS ge all0)) K V vm0 T' L ⟨X', e2, ⟨k0, hS, Nat.le_trans hk K.1⟩, hZ, ho, N', O.keep K (allS ge all0), r'.1, fun y q => Bb y (r'.2 y q), hE⟩
  exact ⟨U, o, st _ q1, r⟩
theorem k_clone (hx : p.tables.exec = Jvm.exec) {ad : String} {index : Nat} (w1 : (Jvm.Cond.methodLink own index ⟨ad, "clone", "()Ljava/lang/Object;"⟩).before a0 Z = true) (w2 : (Jvm.Cond.sameMethod ad "java/lang/Object" "clone" "()Ljava/lang/Object;").before a0 Z = true) (w3 : (Jvm.Cond.native ⟨"java/lang/Object", "clone", "()Ljava/lang/Object;"⟩).before a0 Z = true)
    (w4 : (Jvm.Cond.instanceMethod ⟨"java/lang/Object", "clone", "()Ljava/lang/Object;"⟩).before a0 Z = true) (w5 : (Jvm.Cond.selects ad ⟨ad, "clone", "()Ljava/lang/Object;"⟩ ⟨"java/lang/Object", "clone", "()Ljava/lang/Object;"⟩).before a0 Z = true) (w6 : (Jvm.Cond.castable ad "java/lang/Cloneable").before a0 Z = true)
    {a : Addr} {kA : ClassId} {ty : FieldType} {z : Int32} {vs : List Value} {dv : Value} (F : Arv Z h a kA ty z vs dv) (E : Exa Z h a ad) (hg : g.method = m) (hsize : g.locals.size = c.maxLocals) {rest : List Value} (hst : g.stack = .ref a :: rest) (hd : decode c.code g.pc = .ok (.invokevirtual index, 3)) (hf : 1 ≤ R.frames) {W cap : Nat} (hW : 2 * g.monitorRoom + (rest.map fun v => v.category).sum ≤ W) (hl : W + 14 ≤ R.locals) (hcap : z.toNatClampNeg ≤ cap) (hc : cells + 1 ≤ R.cells) (hsl : slots + cap ≤ R.slots)
    (k : ∀ h' a, a = h.size → Old Z n0 h' → Ext h h' → Arv Z h' a kA ty z vs dv → Exa Z h' a ad → Run p l e R s m args below meth c Z EL own n0 bk h' (cells + 1) (slots + cap) { g with pc := g.pc + 3, stack := .ref a :: rest } Q) : Run p l e R s m args below meth c Z EL own n0 bk h cells slots g Q :=
  k_grow (F := fun h' g' => g' = { g with pc := g.pc + 3, stack := .ref h.size :: rest } ∧ Arv Z h' h.size kA ty z vs dv ∧ Exa Z h' h.size ad)
    (fun s' T locs X e1 hZ ho => by
      obtain ⟨T', h', X', e2, E', A, D, st⟩ := cloneH X hx hZ ho w1 w2 w3 w4 w5 w6 e1 (Arv.arh F) E hg hsize hst hd hf hW hl hcap hc hsl
      exact ⟨T', h', _, X', e2, E', ⟨rfl, A, D⟩, st⟩)
    (fun h' g' O E ⟨q, A, D⟩ => by subst q; exact k h' _ rfl O E A D)
end Kit

theorem s_irem {tb : Tables} [Ours tb] {e : Env} {below : List Frame} {T target : State} {m : MethodId} {c : Code} {g : JFrame} (h : At T m c below) (hx : tb.exec = Jvm.exec) (hg : g.method = m) {x y : Int32} {rest : List Value} (hd : decode c.code g.pc = .ok (.irem, 1)) (hs : g.stack = .int y :: .int x :: rest) (hy : y ≠ 0)
    (hr : Steps tb e below (T.setTop { g with pc := g.pc + 1, stack := .int (x % y) :: rest }) target) : Steps tb e below (T.setTop g) target := by
  have q : x - x / y * y = x % y := irem_eq_mod x y
  exact XS.irem h hx hg hd hs hy (by rw [q]; exact hr)
theorem kk0 {ws : List Addr} {n : Nat} : ∀ x ∈ ([] : List Addr), x ∈ ws ∨ n ≤ x := fun _ q => nomatch q
theorem kkS {ws L : List Addr} {n : Nat} {y : Addr} (q : y ∈ ws ∨ n ≤ y) (r : ∀ x ∈ L, x ∈ ws ∨ n ≤ x) : ∀ x ∈ y :: L, x ∈ ws ∨ n ≤ x := fun x z => (List.mem_cons.mp z).elim (fun u => u ▸ q) (r x)
theorem no_asg {Z : State} {a0 : Array Value} {C O K : String} {n : Nat} (w : (Jvm.Cond.superclass C O).before a0 Z = true) (wo : (Jvm.Cond.noSuperclass O).before a0 Z = true) (wk : (Jvm.Cond.instantiable K n).before a0 Z = true) (h1 : C ≠ K) (h2 : O ≠ K) : ∃ c t, Z.vm.findClass C = some c ∧ Z.vm.findClass K = some t ∧ Z.vm.assignable c t = false := by
  obtain ⟨c, hc⟩ := found_sup w
  obtain ⟨cO, k, kO, q1, q2, q3, q4, q5, -⟩ := Jvm.Cond.superclass_spec hc w
  obtain ⟨cO', kO', r1, r2, r3, -⟩ := Jvm.Cond.noSuperclass_spec wo
  cases q1.symm.trans r1
  obtain ⟨t, kt, t1, t2, t3, t4, -⟩ := Jvm.Cond.instantiable_spec wk
  have n1 := ids_ne hc t1 h1
  have n2 := ids_ne q1 t1 h2
  have sub2 : ∀ f, Z.vm.isSubclassAux f cO t = false := fun f => by cases f <;> simp [Vm.isSubclassAux, n2, r2, r3]
  have sub1 : ∀ f, Z.vm.isSubclassAux f c t = false := fun f => by cases f <;> simp [Vm.isSubclassAux, n1, q2, q4, sub2]
  have ti : kt.isInterface = false := by simp only [Bool.or_eq_false_iff] at t4; exact t4.1
  refine ⟨c, t, hc, t1, ?_⟩
  show Z.vm.assignableAux (255 + 1) c t = false
  simp [Vm.assignableAux, n1, q2, t2, q5, t3, ti, Vm.isSubclass, sub1]
/-! from the words of a start to facts on its heap -/
theorem ev_int {args : Array Value} {s : State} {t : Term} {k : Int32} (h : (Jvm.Cond.eq t (.int k)).before args s = true) : t.eval args s none [] s = some (.int k) := by
  obtain ⟨x, y, e1, e2, k1, -⟩ := cmp_v (Or.inl (Cond.before_iff.mp h))
  rw [Term.int_eval] at e2
  cases e2
  cases x with
  | int z => have := gotT (Cond.eq_ints e1 (Term.int_eval k)) (Cond.before_iff.mp h); rw [e1, this]
  | _ => exact absurd k1 (by simp [Kin, Value.isRef])
theorem ev_long {args : Array Value} {s : State} {t : Term} {k : Int64} (h : (Jvm.Cond.eq t (.long k)).before args s = true) : t.eval args s none [] s = some (.long k) := by
  obtain ⟨x, y, e1, e2, k1, -⟩ := cmp_v (Or.inl (Cond.before_iff.mp h))
  rw [long_at] at e2
  cases e2
  cases x with
  | long z => have := gotT (eq_L e1 (long_at k)) (Cond.before_iff.mp h); rw [e1, this]
  | _ => exact absurd k1 (by simp [Kin, Value.isRef])
theorem exa_start {args : Array Value} {s : State} {t : Term} {C : String} (h : (Jvm.Cond.exactly t C).before args s = true) : ∃ a, t.eval args s none [] s = some (.ref a) ∧ Exa s s.heap a C := by
  obtain ⟨a, e⟩ := exa_v (Cond.before_iff.mp h)
  exact ⟨a, e, Exa.start e (Cond.before_iff.mp h)⟩
theorem fld_start {args : Array Value} {s : State} {t : Term} {a : Addr} {C n d : String} {v : Value} (ht : t.eval args s none [] s = some (.ref a)) (hv : (Term.field t C n d).eval args s none [] s = some v) : Fld s s.heap a C n d v := Fld.start (by rw [← fld_at ht]; exact hv)
theorem s_pop2L {tb : Tables} [Ours tb] {e : Env} {below : List Frame} {T target : State} {m : MethodId} {c : Code} {g : JFrame} (h : At T m c below) (hx : tb.exec = Jvm.exec) (hg : g.method = m) {x : Int64} {rest : List Value} (hd : decode c.code g.pc = .ok (.pop2, 1)) (hs : g.stack = .long x :: rest)
    (hr : Steps tb e below (T.setTop { g with pc := g.pc + 1, stack := rest }) target) : Steps tb e below (T.setTop g) target := by
  subst hg
  jvm_step h [h.top, hx, hd, hs, pop2.wp_sem, Value.category]
  exact hr
theorem ne_ad {a b : Addr} (h : @Ne Nat a b) : a ≠ b := h

/-! naturals as ints -/
theorem lt_nat {i n : Nat} (h : i < n) (hn : n ≤ 4000) : Int32.ofNat i < Int32.ofNat n := by
  rw [Int32.lt_iff_toInt_lt, toInt_of rfl (by omega), toInt_of rfl (by omega)]; omega
theorem not_lt_nat {i n : Nat} (h : n ≤ i) (hn : i ≤ 4000) : ¬ Int32.ofNat i < Int32.ofNat n := by
  rw [Int32.lt_iff_toInt_lt, toInt_of rfl (by omega), toInt_of rfl (by omega)]; omega
theorem idx_ok {i n : Nat} (h : i < n) (hn : n ≤ 4000) : ¬ Int32.ofNat i < 0 ∧ Int32.ofNat i < Int32.ofNat n := ⟨not_lt_nat (n := 0) (Nat.zero_le _) (by omega), lt_nat h hn⟩
theorem clampN {i : Nat} (h : i ≤ 4000) : (Int32.ofNat i).toNatClampNeg = i := clamp_of rfl (by omega)
theorem getD_mem (cs : List Int32) (i : Nat) (h : i < cs.length) : cs.getD i 0 ∈ cs := by
  rw [List.getD_eq_getElem?_getD, List.getElem?_eq_getElem h]; exact List.getElem_mem h
theorem getD_int (bs : List Int32) {i : Nat} (h : i ≤ 4000) : (bs.map Value.int).getD (Int32.ofNat i).toNatClampNeg (.int 0) = .int (bs.getD i 0) := by
  rw [clampN h, List.getD_eq_getElem?_getD, List.getD_eq_getElem?_getD, List.getElem?_map]
  cases bs[i]? <;> rfl
theorem take_succ_eq {as bs : List Int32} {i : Nat} (h : as.take i = bs.take i) (ha : i < as.length) (hb : i < bs.length) (e : as.getD i 0 = bs.getD i 0) : as.take (i + 1) = bs.take (i + 1) := by
  rw [List.take_add_one, List.take_add_one, h, List.getElem?_eq_getElem ha, List.getElem?_eq_getElem hb]
  rw [List.getD_eq_getElem?_getD, List.getD_eq_getElem?_getD, List.getElem?_eq_getElem ha, List.getElem?_eq_getElem hb, Option.getD_some, Option.getD_some] at e
  rw [e]
theorem take_ne {as bs : List Int32} {i : Nat} (hi : i < bs.length) (e : ¬ as.getD i 0 = bs.getD i 0) : ¬ as.take bs.length = bs := fun q => e (by
  rw [List.getD_eq_getElem?_getD, List.getD_eq_getElem?_getD]
  have r := congrArg (fun l => l[i]?) q
  simp only [List.getElem?_take, if_pos hi] at r
  rw [r])
/-! words on arrays of the start -/
theorem fit_of {s : State} (hF : (s.heap.all fun c => (List.range c.slots.size).all fun i => match c.slots[i]? with | some v => s.fitsSlot c.cls c.vm i v | none => true) = true) : Fit s := by
  intro x c hc i hi
  obtain ⟨ha, rfl⟩ := Array.getElem?_eq_some_iff.mp hc
  have q := List.all_eq_true.mp ((Array.all_eq_true_iff_forall_mem.mp hF) _ (Array.getElem_mem ha)) i (List.mem_range.mpr hi)
  simpa [Array.getElem?_eq_getElem hi] using q
theorem ev_ref {args : Array Value} {s : State} {t u : Term} {a : Addr} (h : (Jvm.Cond.eq t u).value args s none s [] = some true) (hu : u.eval args s none [] s = some (.ref a)) : t.eval args s none [] s = some (.ref a) := by
  obtain ⟨x, y, e1, e2, k1, k2⟩ := cmp_v (Or.inl h)
  cases hu.symm.trans e2
  have hx : x.isRef = true := by cases x <;> simp_all [Kin, Value.isRef]
  have := gotT (eq_R e1 hu hx rfl) h
  rw [e1, this]
theorem arv_start {args : Array Value} {s : State} {t : Term} {a : Addr} {ty : FieldType} {z : Int32} {vs : List Value} {dv : Value} (hf : Fit s) (ht : t.eval args s none [] s = some (.ref a)) (hx : (Jvm.Cond.arrayOf t ty).value args s none s [] = some true) (hl : (Term.length t).eval args s none [] s = some (.int z)) (hz : ¬ z < 0) (hn : z.toNatClampNeg = vs.length) (H : ∀ cl : Cell, s.heap[a]? = some cl → HasL cl 0 vs) : ∃ k, Arv s s.heap a k ty z vs dv := by
  obtain ⟨cl, A⟩ := Arr.start ht hx
  obtain ⟨b, cell, e1, e2, e3, e4⟩ := Jvm.Lib.length_spec hl
  have eb : a = b := Value.ref.inj (Option.some.inj (ht.symm.trans e1))
  have ec : cell = cl := Option.some.inj (e2.symm.trans (eb ▸ Arr.fin (Vm.Alike.refl _) A))
  have ez : z = cell.slots.size.toInt32 := Value.int.inj e4
  rw [ec] at ez e3
  exact ⟨_, Arv.start hf A e3 ez.symm hz hn (H _ A.1)⟩

def EL1 : List (String × Nat) := [("com/example/tideline/tideline/TableName", 87), ("java/lang/String", 7)]
def Ctx (Z : State) (a0 : Array Value) (G1 : Int32) (G3 : Value) : Prop := (∀ d ∈ tables_1, d.before a0 Z = true) ∧ EW Z a0 EL1 ∧ Sta Z Z.heap "java/lang/String" "COMPACT_STRINGS" "Z" (.int G1) ∧ ¬ (G1 = (0 : Int32)) ∧ Sta Z Z.heap "jdk/internal/util/Preconditions" "SIOOBE_FORMATTER" "Ljava/util/function/BiFunction;" G3 ∧ G3.isRef = true
theorem sa_of {Z : State} {a0 : Array Value} (hw : ∀ d ∈ tables_1, d.before a0 Z = true) : ∀ a ∈ Bundle.stringAtoms, a.before a0 Z = true := fun d hd => hw d ((by decide +kernel : ∀ d ∈ Bundle.stringAtoms, d ∈ tables_1) d hd)
section StrKit
def StrL (Z : State) (h : Heap) (a t : Addr) (kb : ClassId) (cs : List Int32) : Prop := Exa Z h a "java/lang/String" ∧ Fld Z h a "java/lang/String" "coder" "B" (.int 0) ∧ Fld Z h a "java/lang/String" "value" "[B" (.ref t) ∧ Arv Z h t kb .byte (Int32.ofNat cs.length) ((cs.map (fun c => c.toInt8.toInt32)).map Value.int) (.int 0) ∧ (∀ c ∈ cs, ¬ c < 0 ∧ ¬ (255 : Int32) < c) ∧ cs.length ≤ 4000
variable {Z : State} {h h' : Heap} {a t b : Addr} {kb : ClassId} {cs ds : List Int32} {ws : List Addr} {sl : Nat} {v : Value}
theorem StrL.ext (S : StrL Z h a t kb cs) (E : Ext h h') : StrL Z h' a t kb cs := ⟨S.1.ext E, S.2.1.ext E, S.2.2.1.ext E, S.2.2.2.1.ext E, S.2.2.2.2⟩
theorem StrL.other (S : StrL Z h a t kb cs) (W : Wr h h' b sl v) (q1 : a ≠ b) (q2 : t ≠ b) : StrL Z h' a t kb cs := ⟨S.1.wr W, S.2.1.other W (Or.inl q1), S.2.2.1.other W (Or.inl q1), S.2.2.2.1.other W q2, S.2.2.2.2⟩
theorem StrL.keep (S : StrL Z h a t kb cs) (K : Keep h h' ws) (q1 : a ∉ ws) (q2 : t ∉ ws) : StrL Z h' a t kb cs := ⟨S.1.keep K, S.2.1.keep K q1, S.2.2.1.keep K q1, S.2.2.2.1.keep K q2, S.2.2.2.2⟩
theorem StrL.lt1 (S : StrL Z h a t kb cs) : a < h.size := S.1.lt
theorem StrL.lt2 (S : StrL Z h a t kb cs) : t < h.size := S.2.2.2.1.lt
theorem up_ch {cs : List Int32} (h : ∀ c ∈ cs, ¬ c < 0 ∧ ¬ (255 : Int32) < c) : ∀ c ∈ cs, ¬ c < 0 ∧ ¬ (65535 : Int32) < c := fun c hc => ⟨(h c hc).1, fun q => (h c hc).2 (by rw [Int32.lt_iff_toInt_lt] at q ⊢; have e1 : (65535 : Int32).toInt = 65535 := rfl; have e2 : (255 : Int32).toInt = 255 := rfl; omega)⟩
theorem StrL.cod (S : StrL Z h a t kb cs) : StrChars.Road.CodA cs 0 (Int32.ofNat cs.length) ((cs.map (fun c => c.toInt8.toInt32)).map Value.int) := StrChars.Road.codOf rfl (fun c hc => (S.2.2.2.2.1 c hc).2)
variable {p : Program} {l : Launch} {e : Env} {R : Room} {s : State} {args : Array Value} {below : List Frame} {n0 W : Nat} {bk : Addr → Prop} {a0 : Array Value}
theorem Pays.mono {EL : List (String × Nat)} {y : MethodName} {len kc ks : Nat} {as' : Array Value} {Q Q' : Option Value → Heap → (Addr → Prop) → Prop} (hP : Pays l R p e below s args Z EL n0 bk h y len W kc ks as' Q) (hq : ∀ v h' bk', Q v h' bk' → Q' v h' bk') : Pays l R p e below s args Z EL n0 bk h y len W kc ks as' Q' := fun vm0 hZ hE hO hC hB m meth c A g ig mk a X hg hsize hdg hW hn hp => by
  obtain ⟨v, B, X', r1, r2, ⟨L, bk', q1, q2⟩, st⟩ := hP vm0 hZ hE hO hC hB m meth c A g ig mk a X hg hsize hdg hW hn hp
  exact ⟨v, B, X', r1, r2, ⟨L, bk', hq _ _ _ q1, q2⟩, st⟩
theorem pay_len {G1 : Int32} {G3 : Value} (hX : Ctx Z a0 G1 G3) (O : Old Z n0 h) (S : StrL Z h a t kb cs) (hf : 2 ≤ R.frames) (hl : W + 25 ≤ R.locals) : Pays l R p e below s args Z EL1 n0 bk h (⟨"java/lang/String", "length", "()I"⟩ : MethodName) 3 W 0 0 #[.ref a] (fun v h' bk' => v = some (.int (Int32.ofNat cs.length)) ∧ h = h' ∧ bk = bk') :=
  Pays.of_same fun s' hZ => StrChars.Road.lenW hZ (fun d hd => hX.1 d ((by decide +kernel : ∀ d ∈ StrChars.Road.wordsLen, d ∈ tables_1) d hd)) (kI := 4) (hX.1 _ (List.mem_of_getElem? (i := 6) rfl)) S.1 S.2.2.1 S.2.1 S.2.2.2.1 S.cod (up_ch S.2.2.2.2.1) (hX.2.2.1.ext O.2) hX.2.2.2.1 S.2.2.2.2.2 hf hl
theorem pay_ch {G1 : Int32} {G3 : Value} (hX : Ctx Z a0 G1 G3) (O : Old Z n0 h) (S : StrL Z h a t kb cs) (i : Nat) (hi : i < cs.length) {j : Int32} (hj : j = Int32.ofNat i) (hf : 4 ≤ R.frames) (hl : W + 53 ≤ R.locals) : Pays l R p e below s args Z EL1 n0 bk h (⟨"java/lang/String", "charAt", "(I)C"⟩ : MethodName) 3 W 0 0 #[.ref a, .int j] (fun v h' bk' => v = some (.int (cs.getD i 0)) ∧ h = h' ∧ bk = bk') :=
  Pays.of_same fun s' hZ => StrChars.Road.chN hZ (fun d hd => hX.1 d ((by decide +kernel : ∀ d ∈ StrChars.Road.wordsChN, d ∈ tables_1) d hd)) (kI := 4) (hX.1 _ (List.mem_of_getElem? (i := 6) rfl)) S.1 S.2.2.1 S.2.1 S.2.2.2.1 S.cod (up_ch S.2.2.2.2.1) (hX.2.2.1.ext O.2) hX.2.2.2.1 (hX.2.2.2.2.1.ext O.2) hX.2.2.2.2.2 S.2.2.2.2.2 hi hj hf hl
theorem pay_new {G1 : Int32} {G3 : Value} (hX : Ctx Z a0 G1 G3) (O : Old Z n0 h) {x b : Addr} (nb : ¬ bk x) {v0 c0 d : Value} {kC : ClassId} {N : Int32} {cs : List Int32} (E : Exa Z h x "java/lang/String") (V : Fld Z h x "java/lang/String" "value" "[B" v0) (C : Fld Z h x "java/lang/String" "coder" "B" c0) (K : Arv Z h b kC .char N (cs.map Value.int) d) (n : Nat) (hn : cs.length = n) (hN : N = Int32.ofNat n) (l0 : 0 < n) (l2 : n ≤ 4000) (hp : ∀ c ∈ cs, ¬ c < 0 ∧ ¬ (255 : Int32) < c) (ge : n0 ≤ x) (hf : 4 ≤ R.frames) (hl : W + 65 ≤ R.locals) :
    Pays l R p e below s args Z EL1 n0 bk h (⟨"java/lang/String", "<init>", "([C)V"⟩ : MethodName) 3 W 1 n #[.ref x, .ref b] (fun v h' bk' => v = none ∧ bk = bk' ∧ Keep h h' [x] ∧ ∃ (t : Addr) (kb : ClassId), n0 ≤ t ∧ h.size ≤ t ∧ StrL Z h' x t kb cs) :=
  Pays.mono (Pays.of_keep (Qk := StrChars.Road.QV Z x N (cs.map (fun c => c.toInt8.toInt32)) h n0) nb ge (fun v h' L q => ⟨q.2.1, q.2.2.1⟩) fun s' hZ => StrChars.Road.backV hZ (fun d hd => hX.1 d ((by decide +kernel : ∀ d ∈ StrChars.Road.words, d ∈ tables_1) d hd)) (kI := 4) (hX.1 _ (List.mem_of_getElem? (i := 6) rfl)) ge (by rw [← O.1]; exact O.2.1) E V C K (hX.2.2.1.ext O.2) hX.2.2.2.1 hn hN l0 l2 hp rfl hf hl) fun v h' bk' q => by
    obtain ⟨⟨L, q1, q2, q3, q4, q5, t, kb, q6, q7, -, q8, q9⟩, r⟩ := q
    subst hn hN
    exact ⟨q1, r, q3, t, kb, q6, q7, q4, q5, q8, q9, hp, l2⟩
end StrKit

section SbKit
/-- a Latin-1 StringBuilder known by its chars -/
def SbL (Z : State) (h : Heap) (a t : Addr) (kb : ClassId) (N : Nat) (cs : List Int32) : Prop := Exa Z h a "java/lang/StringBuilder" ∧ Fld Z h a "java/lang/AbstractStringBuilder" "coder" "B" (.int 0) ∧ Fld Z h a "java/lang/AbstractStringBuilder" "value" "[B" (.ref t) ∧ Fld Z h a "java/lang/AbstractStringBuilder" "count" "I" (.int (Int32.ofNat cs.length)) ∧ Arv Z h t kb .byte (Int32.ofNat N) ((cs.map (fun c => c.toInt8.toInt32)).map Value.int) (.int 0) ∧ (∀ c ∈ cs, ¬ c < 0 ∧ ¬ (255 : Int32) < c) ∧ cs.length ≤ N ∧ N ≤ 4000 ∧ @Ne Nat a t
variable {Z : State} {h h' : Heap} {a t b : Addr} {kb : ClassId} {N : Nat} {cs ds : List Int32} {ws : List Addr} {sl : Nat} {v : Value}
theorem SbL.ext (S : SbL Z h a t kb N cs) (E : Ext h h') : SbL Z h' a t kb N cs := ⟨S.1.ext E, S.2.1.ext E, S.2.2.1.ext E, S.2.2.2.1.ext E, S.2.2.2.2.1.ext E, S.2.2.2.2.2⟩
theorem SbL.other (S : SbL Z h a t kb N cs) (W : Wr h h' b sl v) (q1 : a ≠ b) (q2 : t ≠ b) : SbL Z h' a t kb N cs := ⟨S.1.wr W, S.2.1.other W (Or.inl q1), S.2.2.1.other W (Or.inl q1), S.2.2.2.1.other W (Or.inl q1), S.2.2.2.2.1.other W q2, S.2.2.2.2.2⟩
theorem SbL.keep (S : SbL Z h a t kb N cs) (K : Keep h h' ws) (q1 : a ∉ ws) (q2 : t ∉ ws) : SbL Z h' a t kb N cs := ⟨S.1.keep K, S.2.1.keep K q1, S.2.2.1.keep K q1, S.2.2.2.1.keep K q1, S.2.2.2.2.1.keep K q2, S.2.2.2.2.2⟩
theorem SbL.lt1 (S : SbL Z h a t kb N cs) : a < h.size := S.1.lt
theorem SbL.lt2 (S : SbL Z h a t kb N cs) : t < h.size := S.2.2.2.2.1.lt
theorem range_getD {L : List Value} {d : Value} : (List.range L.length).map (fun i => L.getD i d) = L := by
  apply List.ext_getElem
  · simp
  · intro i h1 h2; simp [List.getD_eq_getElem?_getD, List.getElem?_eq_getElem h2]
theorem cpy_app {cs ds : List Int32} (h1 : cs.length ≤ 4000) (h2 : ds.length ≤ 4000) :
    (((cs.map (fun c : Int32 => c.toInt8.toInt32)).map Value.int) ++ List.replicate ds.length (Value.int 0)).take (Int32.ofNat cs.length).toNatClampNeg ++ ((List.range (Int32.ofNat ds.length).toNatClampNeg).map fun i => ((ds.map (fun c : Int32 => c.toInt8.toInt32)).map Value.int).getD ((0 : Int32).toNatClampNeg + i) (Value.int 0)) ++ (((cs.map (fun c : Int32 => c.toInt8.toInt32)).map Value.int) ++ List.replicate ds.length (Value.int 0)).drop ((Int32.ofNat cs.length).toNatClampNeg + (Int32.ofNat ds.length).toNatClampNeg) = (((cs ++ ds).map (fun c : Int32 => c.toInt8.toInt32)).map Value.int) := by
  rw [clampN h1, clampN h2]
  have e0 : (0 : Int32).toNatClampNeg = 0 := rfl
  have r := range_getD (L := ((ds.map (fun c : Int32 => c.toInt8.toInt32)).map Value.int)) (d := .int 0)
  simp only [List.length_map] at r
  simp only [e0, Nat.zero_add, r]
  rw [List.take_append_of_le_length (by simp), List.take_of_length_le (by simp), List.drop_of_length_le (by simp)]
  simp
theorem cpy_all {cs : List Int32} (h1 : cs.length ≤ 4000) :
    (([] : List Value) ++ List.replicate cs.length (Value.int 0)).take (0 : Int32).toNatClampNeg ++ ((List.range (Int32.ofNat cs.length).toNatClampNeg).map fun i => ((cs.map (fun c : Int32 => c.toInt8.toInt32)).map Value.int).getD ((0 : Int32).toNatClampNeg + i) (Value.int 0)) ++ (([] : List Value) ++ List.replicate cs.length (Value.int 0)).drop ((0 : Int32).toNatClampNeg + (Int32.ofNat cs.length).toNatClampNeg) = ((cs.map (fun c : Int32 => c.toInt8.toInt32)).map Value.int) := by
  rw [clampN h1]
  have e0 : (0 : Int32).toNatClampNeg = 0 := rfl
  have r := range_getD (L := ((cs.map (fun c : Int32 => c.toInt8.toInt32)).map Value.int)) (d := .int 0)
  simp only [List.length_map] at r
  simp only [e0, Nat.zero_add, r]
  simp
theorem add_len (cs ds : List Int32) : Int32.ofNat cs.length + Int32.ofNat ds.length = Int32.ofNat (cs ++ ds).length := by rw [List.length_append, Int32.ofNat_add]
theorem shl0 (d : Int32) : d <<< ((0 : Int32) &&& 31) = d := by
  rw [show ((0 : Int32) &&& 31) = 0 from rfl]; simp
theorem shr0 (d : Int32) : d >>> ((0 : Int32) &&& 31) = d := by
  rw [show ((0 : Int32) &&& 31) = 0 from rfl]; simp
theorem sub0 (d : Int32) : d - (0 : Int32) = d := by simp
theorem ens_ok {k N : Nat} (h : k ≤ N) (hN : N ≤ 4000) : ¬ (0 : Int32) < (Int32.ofNat k - Int32.ofNat N) := by
  have q := c_isub (Int32.ofNat k) (Int32.ofNat N)
  have r := rng32 (Int32.ofNat k - Int32.ofNat N)
  rw [toInt_of rfl (by omega), toInt_of rfl (by omega)] at q
  rw [Int32.lt_iff_toInt_lt]
  have e1 : (0 : Int32).toInt = 0 := rfl
  omega
theorem ne_nat {a b : Nat} (h : a < b) (hb : b ≤ 4000) : ¬ Int32.ofNat a = Int32.ofNat b := fun q => by
  have := congrArg Int32.toInt q
  rw [toInt_of rfl (by omega), toInt_of rfl (by omega)] at this
  omega
end SbKit


def chv (x i : Int32) : Int32 := nar .char ((((x.toUInt32 >>> ((((8 : Int32) * i) &&& 31)).toUInt32).toInt32) &&& (255 : Int32)).toUInt32.toUInt16.toUInt32.toInt32)
def Dc (c : Int32) : Prop := 0 ≤ c.toInt ∧ c.toInt ≤ 255
theorem dc_of (y : Int32) : Dc (nar .char ((y &&& (255 : Int32)).toUInt32.toUInt16.toUInt32.toInt32)) := by
  have q1 : (y &&& (255 : Int32)).toInt = y.toInt % 256 := c_mask y 255 8 (by decide) (by decide)
  have q2 := c_i2c (y &&& (255 : Int32))
  have q3 : ((nar .char ((y &&& (255 : Int32)).toUInt32.toUInt16.toUInt32.toInt32)).toInt - ((y &&& (255 : Int32)).toUInt32.toUInt16.toUInt32.toInt32).toInt) % 65536 = 0 ∧ 0 ≤ (nar .char ((y &&& (255 : Int32)).toUInt32.toUInt16.toUInt32.toInt32)).toInt ∧ (nar .char ((y &&& (255 : Int32)).toUInt32.toUInt16.toUInt32.toInt32)).toInt < 65536 := c_i2c _
  unfold Dc
  omega
theorem chd (x i : Int32) : Dc (chv x i) := dc_of _
theorem Dc.ch {c : Int32} (r : Dc c) : ¬ c < 0 ∧ ¬ (255 : Int32) < c := by
  unfold Dc at r
  rw [Int32.lt_iff_toInt_lt, Int32.lt_iff_toInt_lt]
  have e1 : (0 : Int32).toInt = 0 := rfl
  have e2 : (255 : Int32).toInt = 255 := rfl
  omega
theorem Dc.nr {c : Int32} (r : Dc c) : nar .char c = c := by
  unfold Dc at r
  have q : ((nar .char c).toInt - c.toInt) % 65536 = 0 ∧ 0 ≤ (nar .char c).toInt ∧ (nar .char c).toInt < 65536 := c_i2c c
  apply Int32.toInt_inj.mp
  omega
theorem gd1 {a : Int32} (g : Dc a) : ∀ c ∈ [a], ¬ c < 0 ∧ ¬ (255 : Int32) < c := by simp only [List.mem_cons, List.not_mem_nil, or_false]; rintro c rfl; exact g.ch
theorem gd2 {a b : Int32} (g : Dc a) (g' : Dc b) : ∀ c ∈ [a, b], ¬ c < 0 ∧ ¬ (255 : Int32) < c := by simp only [List.mem_cons, List.not_mem_nil, or_false]; rintro c (rfl | rfl) <;> first | exact g.ch | exact g'.ch
theorem gd3 {a b d : Int32} (g : Dc a) (g' : Dc b) (g'' : Dc d) : ∀ c ∈ [a, b, d], ¬ c < 0 ∧ ¬ (255 : Int32) < c := by simp only [List.mem_cons, List.not_mem_nil, or_false]; rintro c (rfl | rfl | rfl) <;> first | exact g.ch | exact g'.ch | exact g''.ch
/-- the text that mk makes -/
def Tm (n x : Int32) (cs : List Int32) : Prop := (n = 0 ∧ cs = []) ∨ (n = 1 ∧ cs = [chv x 0]) ∨ (n = 2 ∧ cs = [chv x 0, chv x 1]) ∨ (n = 3 ∧ cs = [chv x 0, chv x 1, chv x 2])
theorem Tm.ex {n : Int32} (x : Int32) (h0 : 0 ≤ n.toInt) (h3 : n.toInt ≤ 3) : ∃ cs, Tm n x cs := by
  rcases (by omega : n.toInt = 0 ∨ n.toInt = 1 ∨ n.toInt = 2 ∨ n.toInt = 3) with h | h | h | h
  · exact ⟨_, Or.inl ⟨Int32.toInt_inj.mp h, rfl⟩⟩
  · exact ⟨_, Or.inr (Or.inl ⟨Int32.toInt_inj.mp h, rfl⟩)⟩
  · exact ⟨_, Or.inr (Or.inr (Or.inl ⟨Int32.toInt_inj.mp h, rfl⟩))⟩
  · exact ⟨_, Or.inr (Or.inr (Or.inr ⟨Int32.toInt_inj.mp h, rfl⟩))⟩
theorem Tm.t0 {n x : Int32} {cs : List Int32} (t : Tm n x cs) (h : n = 0) : [] = cs := by subst h; simp +decide [Tm] at t; exact t.symm
theorem Tm.t1 {n x : Int32} {cs : List Int32} (t : Tm n x cs) (h : n = 1) : [chv x 0] = cs := by subst h; simp +decide [Tm] at t; exact t.symm
theorem Tm.t2 {n x : Int32} {cs : List Int32} (t : Tm n x cs) (h : n = 2) : [chv x 0, chv x 1] = cs := by subst h; simp +decide [Tm] at t; exact t.symm
theorem Tm.t3 {n x : Int32} {cs : List Int32} (t : Tm n x cs) (h0 : ¬ n = 0) (h1 : ¬ n = 1) (h2 : ¬ n = 2) : [chv x 0, chv x 1, chv x 2] = cs := by simp [Tm, h0, h1, h2] at t; exact t.2.symm
theorem Tm.len {n x : Int32} {cs : List Int32} (t : Tm n x cs) : n = Int32.ofNat cs.length ∧ cs.length ≤ 3 := by rcases t with ⟨rfl, rfl⟩ | ⟨rfl, rfl⟩ | ⟨rfl, rfl⟩ | ⟨rfl, rfl⟩ <;> exact ⟨rfl, by simp⟩
/-- a char of r, as the law asks for it -/
def Ask (rs : List Int32) (pos len i e : Int32) : Prop := i < len → ∃ k : Nat, k < rs.length ∧ pos + i = Int32.ofNat k ∧ rs.getD k 0 = e
theorem ask_s {n x : Int32} {ss ts : List Int32} (t : Tm n x ss) : Ask ((([] ++ ss) ++ [(46 : Int32)]) ++ ts) 0 n 0 (chv x 0) ∧ Ask ((([] ++ ss) ++ [(46 : Int32)]) ++ ts) 0 n 1 (chv x 1) ∧ Ask ((([] ++ ss) ++ [(46 : Int32)]) ++ ts) 0 n 2 (chv x 2) := by
  rcases t with ⟨rfl, rfl⟩ | ⟨rfl, rfl⟩ | ⟨rfl, rfl⟩ | ⟨rfl, rfl⟩ <;> refine ⟨fun h => ?_, fun h => ?_, fun h => ?_⟩ <;> first | exact absurd h (by decide) | exact ⟨0, by simp, rfl, by simp⟩ | exact ⟨1, by simp, rfl, by simp⟩ | exact ⟨2, by simp, rfl, by simp⟩
theorem ask_t {n x m y : Int32} {ss ts : List Int32} (t : Tm n x ss) (u : Tm m y ts) : Ask ((([] ++ ss) ++ [(46 : Int32)]) ++ ts) (n + 1) m 0 (chv y 0) ∧ Ask ((([] ++ ss) ++ [(46 : Int32)]) ++ ts) (n + 1) m 1 (chv y 1) ∧ Ask ((([] ++ ss) ++ [(46 : Int32)]) ++ ts) (n + 1) m 2 (chv y 2) := by
  rcases t with ⟨rfl, rfl⟩ | ⟨rfl, rfl⟩ | ⟨rfl, rfl⟩ | ⟨rfl, rfl⟩ <;> rcases u with ⟨rfl, rfl⟩ | ⟨rfl, rfl⟩ | ⟨rfl, rfl⟩ | ⟨rfl, rfl⟩ <;> refine ⟨fun h => ?_, fun h => ?_, fun h => ?_⟩ <;> first | exact absurd h (by decide) | exact ⟨1, by simp, rfl, by simp⟩ | exact ⟨2, by simp, rfl, by simp⟩ | exact ⟨3, by simp, rfl, by simp⟩ | exact ⟨4, by simp, rfl, by simp⟩ | exact ⟨5, by simp, rfl, by simp⟩ | exact ⟨6, by simp, rfl, by simp⟩
theorem dot_at {n x : Int32} {ss ts : List Int32} (t : Tm n x ss) : ((([] ++ ss) ++ [(46 : Int32)]) ++ ts).getD ss.length 0 = 46 := by
  rcases t with ⟨rfl, rfl⟩ | ⟨rfl, rfl⟩ | ⟨rfl, rfl⟩ | ⟨rfl, rfl⟩ <;> simp
theorem len_ok {n x m y : Int32} {ss ts : List Int32} (t : Tm n x ss) (u : Tm m y ts) : Int32.ofNat ((([] ++ ss) ++ [(46 : Int32)]) ++ ts).length = n + 1 + m := by
  rcases t with ⟨rfl, rfl⟩ | ⟨rfl, rfl⟩ | ⟨rfl, rfl⟩ | ⟨rfl, rfl⟩ <;> rcases u with ⟨rfl, rfl⟩ | ⟨rfl, rfl⟩ | ⟨rfl, rfl⟩ | ⟨rfl, rfl⟩ <;> rfl

def Q_chc (Z : State) (G1 : Int32) (G3 : Value) (x : Int32) (i : Int32) (h0 : Heap) (n0 : Nat) (bk : Addr → Prop) (v : Option Value) (h : Heap) (bk' : Addr → Prop) : Prop := v = some (.int (chv x i)) ∧ h0 = h ∧ bk = bk'
theorem d_m_2_0 : decode method_2_code 0 = .ok (.iload_n 0, 1) := by decide +kernel
theorem d_m_2_1 : decode method_2_code 1 = .ok (.bipush 8, 2) := by decide +kernel
theorem d_m_2_3 : decode method_2_code 3 = .ok (.iload_n 1, 1) := by decide +kernel
theorem d_m_2_4 : decode method_2_code 4 = .ok (.imul, 1) := by decide +kernel
theorem d_m_2_5 : decode method_2_code 5 = .ok (.iushr, 1) := by decide +kernel
theorem d_m_2_6 : decode method_2_code 6 = .ok (.sipush 255, 3) := by decide +kernel
theorem d_m_2_9 : decode method_2_code 9 = .ok (.iand, 1) := by decide +kernel
theorem d_m_2_10 : decode method_2_code 10 = .ok (.i2c, 1) := by decide +kernel
theorem d_m_2_11 : decode method_2_code 11 = .ok (.ireturn, 1) := by decide +kernel
abbrev RM_chc : Room := { frames := 0, cells := 0, slots := 0, locals := 0 }
theorem ef_chc (m : MethodId) (x0 : Int32) (x1 : Int32) : entryFrame m #[(.int x0), (.int x1)] 2 = mkF m 0 #[.val (.int x0), .val (.int x1)] [] := by first | (simp [entryFrame, mkF, argsToLocals, Value.category]; done) | rfl
set_option maxRecDepth 65536 in
set_option maxHeartbeats 40000000 in
theorem rm_chc (l : Launch) (Z : State) (a0 : Array Value) (G1 : Int32) (G3 : Value) (hX : Ctx Z a0 G1 G3) (n0 : Nat) (bk : Addr → Prop) (h0 : Heap) (O0 : Old Z n0 h0) (x : Int32) (i : Int32)  (ws : List Jvm.Cond) : Met l Z EL1 n0 bk (⟨"com/example/tideline/tideline/TableNameToStringPinLaw", "ch", "(II)C"⟩ : MethodName) method_2_code 2 (Option.some FieldType.char) RM_chc #[(.int x), (.int i)] h0 (Q_chc Z G1 G3 x i h0 n0 bk) ws := by
  have hX' := hX
  obtain ⟨hw, hE, S1, P1, S3, P3⟩ := hX'
  have hSA := sa_of hw
  have z0 : n0 ≤ h0.size := by rw [← O0.1]; exact O0.2.1
  refine Met.of (by decide +kernel) O0 hE ?_
  intro p e s m below meth c hx hby hml hret hlk hnm
  refine k_cast (ef_chc m x i) ?_
  show Run p l e _ s m _ below meth c Z EL1 _ n0 bk h0 0 0 (mkF m 0 #[.val (.int x), .val (.int i)] []) _
  refine k_pure (g' := (mkF m 1 #[.val (.int x), .val (.int i)] [(.int x)])) (fun TT HH tt kk => XS.iloadN HH hx rfl (hb hby d_m_2_0) rfl kk) ?_
  refine k_pure (g' := (mkF m 3 #[.val (.int x), .val (.int i)] [(.int (8 : Int32)), (.int x)])) (fun TT HH tt kk => XS.bipush HH hx rfl (hb hby d_m_2_1) kk) ?_
  refine k_pure (g' := (mkF m 4 #[.val (.int x), .val (.int i)] [(.int i), (.int (8 : Int32)), (.int x)])) (fun TT HH tt kk => XS.iloadN HH hx rfl (hb hby d_m_2_3) rfl kk) ?_
  refine k_pure (g' := (mkF m 5 #[.val (.int x), .val (.int i)] [(.int ((8 : Int32) * i)), (.int x)])) (fun TT HH tt kk => XS.imul HH hx rfl (hb hby d_m_2_4) rfl kk) ?_
  refine k_pure (g' := (mkF m 6 #[.val (.int x), .val (.int i)] [(.int ((x.toUInt32 >>> (((8 : Int32) * i) &&& 31).toUInt32).toInt32))])) (fun TT HH tt kk => XS.iushr HH hx rfl (hb hby d_m_2_5) rfl kk) ?_
  refine k_pure (g' := (mkF m 9 #[.val (.int x), .val (.int i)] [(.int (255 : Int32)), (.int ((x.toUInt32 >>> (((8 : Int32) * i) &&& 31).toUInt32).toInt32))])) (fun TT HH tt kk => XS.sipush HH hx rfl (hb hby d_m_2_6) kk) ?_
  refine k_pure (g' := (mkF m 10 #[.val (.int x), .val (.int i)] [(.int (((x.toUInt32 >>> (((8 : Int32) * i) &&& 31).toUInt32).toInt32) &&& (255 : Int32)))])) (fun TT HH tt kk => XS.iand HH hx rfl (hb hby d_m_2_9) rfl kk) ?_
  refine k_pure (g' := (mkF m 11 #[.val (.int x), .val (.int i)] [(.int ((((x.toUInt32 >>> (((8 : Int32) * i) &&& 31).toUInt32).toInt32) &&& (255 : Int32)).toUInt32.toUInt16.toUInt32.toInt32))])) (fun TT HH tt kk => XS.i2c HH hx rfl (hb hby d_m_2_10) rfl kk) ?_
  exact k_retN hx hlk hret (by simp) (hb hby d_m_2_11) (by decide) (by decide) ⟨rfl, rfl, rfl⟩
def Q_es2 (Z : State) (G1 : Int32) (G3 : Value) (x : Addr) (q : Addr) (h0 : Heap) (n0 : Nat) (bk : Addr → Prop) (v : Option Value) (h : Heap) (bk' : Addr → Prop) : Prop := ∃ (t : Addr), ∃ (kb : ClassId), v = none ∧ (∀ y, bk' y → bk y ∨ (@LE.le Nat _ (Array.size h0) y ∧ @LT.lt Nat _ y (Array.size h))) ∧ Keep h0 h [x] ∧ (StrL Z h x t kb ([] : List Int32))
theorem d_jdk_42_m_149_0 : decode jdk_42_method_149_code 0 = .ok (.aload_n 0, 1) := by decide +kernel
theorem d_jdk_42_m_149_1 : decode jdk_42_method_149_code 1 = .ok (.invokespecial 1, 3) := by decide +kernel
theorem d_jdk_42_m_149_4 : decode jdk_42_method_149_code 4 = .ok (.iload_n 3, 1) := by decide +kernel
theorem d_jdk_42_m_149_5 : decode jdk_42_method_149_code 5 = .ok (.ifCond .ne 22, 3) := by decide +kernel
theorem d_jdk_42_m_149_8 : decode jdk_42_method_149_code 8 = .ok (.aload_n 0, 1) := by decide +kernel
theorem d_jdk_42_m_149_9 : decode jdk_42_method_149_code 9 = .ok (.ldc 7, 2) := by decide +kernel
theorem d_jdk_42_m_149_11 : decode jdk_42_method_149_code 11 = .ok (.getfield 9, 3) := by decide +kernel
theorem d_jdk_42_m_149_14 : decode jdk_42_method_149_code 14 = .ok (.putfield 9, 3) := by decide +kernel
theorem d_jdk_42_m_149_17 : decode jdk_42_method_149_code 17 = .ok (.aload_n 0, 1) := by decide +kernel
theorem d_jdk_42_m_149_18 : decode jdk_42_method_149_code 18 = .ok (.ldc 7, 2) := by decide +kernel
theorem d_jdk_42_m_149_20 : decode jdk_42_method_149_code 20 = .ok (.getfield 15, 3) := by decide +kernel
theorem d_jdk_42_m_149_23 : decode jdk_42_method_149_code 23 = .ok (.putfield 15, 3) := by decide +kernel
theorem d_jdk_42_m_149_26 : decode jdk_42_method_149_code 26 = .ok (.return_, 1) := by decide +kernel
abbrev RM_es2 : Room := { frames := 1, cells := 4, slots := 8, locals := 12 }
theorem ef_es2 (m : MethodId) (x0 : Addr) (x1 : Addr) (x2 : Int32) (x3 : Int32) : entryFrame m #[(.ref x0), (.ref x1), (.int x2), (.int x3), .null] 6 = mkF m 0 #[.val (.ref x0), .val (.ref x1), .val (.int x2), .val (.int x3), .val .null, .unset] [] := by first | (simp [entryFrame, mkF, argsToLocals, Value.category]; done) | rfl
set_option maxRecDepth 65536 in
set_option maxHeartbeats 40000000 in
theorem rm_es2 (l : Launch) (Z : State) (a0 : Array Value) (G1 : Int32) (G3 : Value) (hX : Ctx Z a0 G1 G3) (n0 : Nat) (bk : Addr → Prop) (h0 : Heap) (O0 : Old Z n0 h0) (x : Addr) (q : Addr) (pf_0 : Exa Z h0 x "java/lang/String") (pf_1 : Fld Z h0 x "java/lang/String" "value" "[B" .null) (pf_2 : Fld Z h0 x "java/lang/String" "coder" "B" (.int (0 : Int32))) (hbl : ∀ y, bk y → @LT.lt Nat _ y (Array.size h0)) (nbx : ¬ bk x) (gx : n0 ≤ x) (ws : List Jvm.Cond) : Met l Z EL1 n0 bk (⟨"java/lang/String", "<init>", "([CIILjava/lang/Void;)V"⟩ : MethodName) jdk_42_method_149_code 6 (Option.none : Option FieldType) RM_es2 #[(.ref x), (.ref q), (.int (0 : Int32)), (.int (0 : Int32)), .null] h0 (Q_es2 Z G1 G3 x q h0 n0 bk) ws := by
  have hX' := hX
  obtain ⟨hw, hE, S1, P1, S3, P3⟩ := hX'
  have hSA := sa_of hw
  have z0 : n0 ≤ h0.size := by rw [← O0.1]; exact O0.2.1
  refine Met.of (by decide +kernel) O0 hE ?_
  intro p e s m below meth c hx hby hml hret hlk hnm
  refine k_cast (ef_es2 m x q (0 : Int32) (0 : Int32)) ?_
  show Run p l e _ s m _ below meth c Z EL1 _ n0 bk h0 0 0 (mkF m 0 #[.val (.ref x), .val (.ref q), .val (.int (0 : Int32)), .val (.int (0 : Int32)), .val .null, .unset] []) _
  have lt_1 : @LT.lt Nat _ x (Array.size h0) := pf_0.lt
  have lt_2 : @LT.lt Nat _ x (Array.size h0) := pf_1.lt
  have lt_3 : @LT.lt Nat _ x (Array.size h0) := pf_2.lt
  refine k_pure (g' := (mkF m 1 #[.val (.ref x), .val (.ref q), .val (.int (0 : Int32)), .val (.int (0 : Int32)), .val .null, .unset] [(.ref x)])) (fun TT HH tt kk => XS.aloadN HH hx rfl (hb hby d_jdk_42_m_149_0) rfl rfl kk) ?_
  refine k_initO hx (hw _ (List.mem_of_getElem? (i := 19) rfl)) (hw _ (List.mem_of_getElem? (i := 20) rfl)) (hw _ (List.mem_of_getElem? (i := 21) rfl)) rfl (by rw [hml]; rfl) rfl (hb hby d_jdk_42_m_149_1) (by decide) (W := 0) (by show 2 * 0 + _ ≤ _; exact Nat.le_of_eq rfl) (by decide) ?_
  show Run p l e _ s m _ below meth c Z EL1 _ n0 bk h0 0 0 (mkF m 4 #[.val (.ref x), .val (.ref q), .val (.int (0 : Int32)), .val (.int (0 : Int32)), .val .null, .unset] []) _
  refine k_pure (g' := (mkF m 5 #[.val (.ref x), .val (.ref q), .val (.int (0 : Int32)), .val (.int (0 : Int32)), .val .null, .unset] [(.int (0 : Int32))])) (fun TT HH tt kk => XS.iloadN HH hx rfl (hb hby d_jdk_42_m_149_4) rfl kk) ?_
  refine k_pure (g' := (mkF m 8 #[.val (.ref x), .val (.ref q), .val (.int (0 : Int32)), .val (.int (0 : Int32)), .val .null, .unset] [])) (fun TT HH tt kk => XS.ifNo HH hx rfl (hb hby d_jdk_42_m_149_5) rfl ((if0 _ _).trans (teq (by decide : ((0 : Int32) = (0 : Int32)))).2) kk) ?_
  refine k_pure (g' := (mkF m 9 #[.val (.ref x), .val (.ref q), .val (.int (0 : Int32)), .val (.int (0 : Int32)), .val .null, .unset] [(.ref x)])) (fun TT HH tt kk => XS.aloadN HH hx rfl (hb hby d_jdk_42_m_149_8) rfl rfl kk) ?_
  refine k_ldcC hx (hw _ (List.mem_of_getElem? (i := 198) rfl)) hSA (by decide +kernel) (z := (Int32.ofNat ([] : List Int32).length)) (vs := ((([] : List Int32).map (fun c => c.toInt8.toInt32)).map Value.int)) (by decide +kernel) (by decide) (by decide +kernel) rfl (hb hby d_jdk_42_m_149_9) (n := 0) (by decide +kernel) (by decide) (by decide) (by decide) ?_
  intro h_4 a_5 a_10 k_11 bk_8 O_6 E_7 hbk_9 X_12 F_13 F_14 V_15 nl_16
  have z_17 := E_7.1
  have lt_18 : @LT.lt Nat _ a_5 (Array.size h_4) := X_12.lt
  have lt_19 : @LT.lt Nat _ a_10 (Array.size h_4) := V_15.lt
  have ne_20 : @Ne Nat x a_5 := (nl_16 x (show @LT.lt Nat _ x (Array.size h0) by omega) nbx).1
  have ne_21 : @Ne Nat x a_10 := (nl_16 x (show @LT.lt Nat _ x (Array.size h0) by omega) nbx).2
  have S_22 : StrL Z h_4 a_5 a_10 k_11 ([] : List Int32) := ⟨X_12, F_13, F_14, V_15, (fun _ q => nomatch q), by decide⟩
  have nb_23 : ¬ bk_8 x := fun q => (hbk_9 _ q).elim nbx (fun r => Nat.not_le_of_lt (show @LT.lt Nat _ x (Array.size h0) by omega) r.1)
  have hbl_24 : ∀ y, bk_8 y → @LT.lt Nat _ y (Array.size h_4) := fun y q => (hbk_9 y q).elim (fun r => Nat.lt_of_lt_of_le (hbl y r) (by omega)) (fun r => r.2)
  have hbs_25 : ∀ y, bk_8 y → bk y ∨ (@LE.le Nat _ (Array.size h0) y ∧ @LT.lt Nat _ y (Array.size h_4)) := fun y q => (hbk_9 y q).imp id (fun r => ⟨Nat.le_trans (by omega) r.1, r.2⟩)
  show Run p l e _ s m _ below meth c Z EL1 _ n0 bk_8 h_4 2 4 (mkF m 11 #[.val (.ref x), .val (.ref q), .val (.int (0 : Int32)), .val (.int (0 : Int32)), .val .null, .unset] [(.ref a_5), (.ref x)]) _
  refine k_getF hx (host := "") (Or.inl (hw _ (List.mem_of_getElem? (i := 36) rfl))) Via.refl S_22.2.2.1 rfl rfl (hb hby d_jdk_42_m_149_11) ?_
  show Run p l e _ s m _ below meth c Z EL1 _ n0 bk_8 h_4 2 4 (mkF m 14 #[.val (.ref x), .val (.ref q), .val (.int (0 : Int32)), .val (.int (0 : Int32)), .val .null, .unset] [(.ref a_10), (.ref x)]) _
  have F_26 : Fld Z h_4 x "java/lang/String" "value" "[B" .null := (pf_1.ext E_7)
  have F_27 : Exa Z h_4 x "java/lang/String" := (pf_0.ext E_7)
  refine k_putF hx (host := "") (Or.inl (hw _ (List.mem_of_getElem? (i := 36) rfl))) Via.refl F_26 F_27 (Or.inr ⟨(hw _ (List.mem_of_getElem? (i := 37) rfl)), rfl, hnm⟩) (hw _ (List.mem_of_getElem? (i := 6) rfl)) (ty := (.array .byte)) (by decide) rfl rfl (by omega) nb_23 rfl rfl (hb hby d_jdk_42_m_149_14) ?_
  intro h_28 O_30 W_29
  have z_31 := W_29.size
  show Run p l e _ s m _ below meth c Z EL1 _ n0 bk_8 h_28 2 4 (mkF m 17 #[.val (.ref x), .val (.ref q), .val (.int (0 : Int32)), .val (.int (0 : Int32)), .val .null, .unset] []) _
  refine k_pure (g' := (mkF m 18 #[.val (.ref x), .val (.ref q), .val (.int (0 : Int32)), .val (.int (0 : Int32)), .val .null, .unset] [(.ref x)])) (fun TT HH tt kk => XS.aloadN HH hx rfl (hb hby d_jdk_42_m_149_17) rfl rfl kk) ?_
  refine k_ldcC hx (hw _ (List.mem_of_getElem? (i := 198) rfl)) hSA (by decide +kernel) (z := (Int32.ofNat ([] : List Int32).length)) (vs := ((([] : List Int32).map (fun c => c.toInt8.toInt32)).map Value.int)) (by decide +kernel) (by decide) (by decide +kernel) rfl (hb hby d_jdk_42_m_149_18) (n := 0) (by decide +kernel) (by decide) (by decide) (by decide) ?_
  intro h_32 a_33 a_38 k_39 bk_36 O_34 E_35 hbk_37 X_40 F_41 F_42 V_43 nl_44
  have z_45 := E_35.1
  have lt_46 : @LT.lt Nat _ a_33 (Array.size h_32) := X_40.lt
  have lt_47 : @LT.lt Nat _ a_38 (Array.size h_32) := V_43.lt
  have ne_48 : @Ne Nat x a_33 := (nl_44 x (show @LT.lt Nat _ x (Array.size h_28) by omega) nb_23).1
  have ne_49 : @Ne Nat x a_38 := (nl_44 x (show @LT.lt Nat _ x (Array.size h_28) by omega) nb_23).2
  have S_50 : StrL Z h_32 a_33 a_38 k_39 ([] : List Int32) := ⟨X_40, F_41, F_42, V_43, (fun _ q => nomatch q), by decide⟩
  have hbl_51 : ∀ y, bk_8 y → @LT.lt Nat _ y (Array.size h_28) := fun y q => Nat.lt_of_lt_of_le (hbl_24 y q) (by omega)
  have nb_52 : ¬ bk_36 x := fun q => (hbk_37 _ q).elim nb_23 (fun r => Nat.not_le_of_lt (show @LT.lt Nat _ x (Array.size h_28) by omega) r.1)
  have hbl_53 : ∀ y, bk_36 y → @LT.lt Nat _ y (Array.size h_32) := fun y q => (hbk_37 y q).elim (fun r => Nat.lt_of_lt_of_le (hbl_51 y r) (by omega)) (fun r => r.2)
  have hbs_54 : ∀ y, bk_36 y → bk y ∨ (@LE.le Nat _ (Array.size h0) y ∧ @LT.lt Nat _ y (Array.size h_32)) := fun y q => (hbk_37 y q).elim (fun r => (hbs_25 y r).imp id (fun t => ⟨t.1, Nat.lt_of_lt_of_le t.2 (by omega)⟩)) (fun r => Or.inr ⟨Nat.le_trans (by omega) r.1, r.2⟩)
  show Run p l e _ s m _ below meth c Z EL1 _ n0 bk_36 h_32 4 8 (mkF m 20 #[.val (.ref x), .val (.ref q), .val (.int (0 : Int32)), .val (.int (0 : Int32)), .val .null, .unset] [(.ref a_33), (.ref x)]) _
  refine k_getF hx (host := "") (Or.inl (hw _ (List.mem_of_getElem? (i := 34) rfl))) Via.refl S_50.2.1 rfl rfl (hb hby d_jdk_42_m_149_20) ?_
  show Run p l e _ s m _ below meth c Z EL1 _ n0 bk_36 h_32 4 8 (mkF m 23 #[.val (.ref x), .val (.ref q), .val (.int (0 : Int32)), .val (.int (0 : Int32)), .val .null, .unset] [(.int (0 : Int32)), (.ref x)]) _
  have F_55 : Fld Z h_32 x "java/lang/String" "coder" "B" (.int (0 : Int32)) := (((pf_2.ext E_7).other W_29 (Or.inr (RoadKit.slot_ne (C := "java/lang/String") (Or.inr (hw _ (List.mem_of_getElem? (i := 35) rfl))) (Or.inr (hw _ (List.mem_of_getElem? (i := 37) rfl))) (by decide) (t := .byte) (t' := (.array .byte)) (by decide) (by decide)))).ext E_35)
  have F_56 : Exa Z h_32 x "java/lang/String" := ((F_27.wr W_29).ext E_35)
  refine k_putF hx (host := "") (Or.inl (hw _ (List.mem_of_getElem? (i := 34) rfl))) Via.refl F_55 F_56 (Or.inr ⟨(hw _ (List.mem_of_getElem? (i := 35) rfl)), rfl, hnm⟩) (hw _ (List.mem_of_getElem? (i := 6) rfl)) (ty := .byte) (by decide) rfl rfl (by omega) nb_52 rfl rfl (hb hby d_jdk_42_m_149_23) ?_
  intro h_57 O_59 W_58
  have z_60 := W_58.size
  show Run p l e _ s m _ below meth c Z EL1 _ n0 bk_36 h_57 4 8 (mkF m 26 #[.val (.ref x), .val (.ref q), .val (.int (0 : Int32)), .val (.int (0 : Int32)), .val .null, .unset] []) _
  have F_61 : Exa Z h_57 x "java/lang/String" := (F_56.wr W_58)
  have F_62 : Fld Z h_57 x "java/lang/String" "value" "[B" (.ref a_10) := (((F_26.same W_29).ext E_35).other W_58 (Or.inr (RoadKit.slot_ne (C := "java/lang/String") (Or.inr (hw _ (List.mem_of_getElem? (i := 37) rfl))) (Or.inr (hw _ (List.mem_of_getElem? (i := 35) rfl))) (by decide) (t := (.array .byte)) (t' := .byte) (by decide) (by decide))))
  have F_63 : Arv Z h_57 a_10 k_11 .byte (Int32.ofNat (([] : List Int32)).length) (((([] : List Int32)).map (fun c => c.toInt8.toInt32)).map Value.int) (.int 0) := (((S_22.2.2.2.1.other W_29 (ne_ad (by omega))).ext E_35).other W_58 (ne_ad (by omega)))
  exact k_ret0 hx hlk hret (hb hby d_jdk_42_m_149_26) (by decide) (by decide) ⟨a_10, k_11, rfl, (fun y q => (hbs_54 y q).imp id (fun t => ⟨t.1, Nat.lt_of_lt_of_le t.2 (by omega)⟩)), (((((Keep.refl _ _).ext E_7).wr W_29 (Or.inl (by simp))).ext E_35).wr W_58 (Or.inl (by simp))), ⟨F_61, (F_55.same W_58), F_62, F_63, (fun _ q => nomatch q), by decide⟩⟩
def Q_es1 (Z : State) (G1 : Int32) (G3 : Value) (x : Addr) (q : Addr) (kq : ClassId) (h0 : Heap) (n0 : Nat) (bk : Addr → Prop) (v : Option Value) (h : Heap) (bk' : Addr → Prop) : Prop := ∃ (t : Addr), ∃ (kb : ClassId), v = none ∧ (∀ y, bk' y → bk y ∨ (@LE.le Nat _ (Array.size h0) y ∧ @LT.lt Nat _ y (Array.size h))) ∧ Keep h0 h [x] ∧ (StrL Z h x t kb ([] : List Int32))
theorem d_jdk_42_m_3_0 : decode jdk_42_method_3_code 0 = .ok (.aload_n 0, 1) := by decide +kernel
theorem d_jdk_42_m_3_1 : decode jdk_42_method_3_code 1 = .ok (.aload_n 1, 1) := by decide +kernel
theorem d_jdk_42_m_3_2 : decode jdk_42_method_3_code 2 = .ok (.iconst 0, 1) := by decide +kernel
theorem d_jdk_42_m_3_3 : decode jdk_42_method_3_code 3 = .ok (.aload_n 1, 1) := by decide +kernel
theorem d_jdk_42_m_3_4 : decode jdk_42_method_3_code 4 = .ok (.arraylength, 1) := by decide +kernel
theorem d_jdk_42_m_3_5 : decode jdk_42_method_3_code 5 = .ok (.aconst_null, 1) := by decide +kernel
theorem d_jdk_42_m_3_6 : decode jdk_42_method_3_code 6 = .ok (.invokespecial 27, 3) := by decide +kernel
theorem pd__28__5b_CIILjava_2f_lang_2f_Void_3b__29_V : parseMethodDescriptor "([CIILjava/lang/Void;)V" = some ⟨[(.array .char), .int, .int, (.object "java/lang/Void")], none⟩ := by decide +kernel
theorem d_jdk_42_m_3_9 : decode jdk_42_method_3_code 9 = .ok (.return_, 1) := by decide +kernel
abbrev RM_es1 : Room := { frames := 2, cells := 4, slots := 8, locals := 29 }
theorem ef_es1 (m : MethodId) (x0 : Addr) (x1 : Addr) : entryFrame m #[(.ref x0), (.ref x1)] 2 = mkF m 0 #[.val (.ref x0), .val (.ref x1)] [] := by first | (simp [entryFrame, mkF, argsToLocals, Value.category]; done) | rfl
set_option maxRecDepth 65536 in
set_option maxHeartbeats 40000000 in
theorem rm_es1 (l : Launch) (Z : State) (a0 : Array Value) (G1 : Int32) (G3 : Value) (hX : Ctx Z a0 G1 G3) (n0 : Nat) (bk : Addr → Prop) (h0 : Heap) (O0 : Old Z n0 h0) (x : Addr) (q : Addr) (kq : ClassId) (pf_0 : Exa Z h0 x "java/lang/String") (pf_1 : Fld Z h0 x "java/lang/String" "value" "[B" .null) (pf_2 : Fld Z h0 x "java/lang/String" "coder" "B" (.int (0 : Int32))) (hbl : ∀ y, bk y → @LT.lt Nat _ y (Array.size h0)) (nbx : ¬ bk x) (gx : n0 ≤ x) (pf_6 : Arv Z h0 q kq .char (0 : Int32) [] (.int (0 : Int32))) (ws : List Jvm.Cond) : Met l Z EL1 n0 bk (⟨"java/lang/String", "<init>", "([C)V"⟩ : MethodName) jdk_42_method_3_code 2 (Option.none : Option FieldType) RM_es1 #[(.ref x), (.ref q)] h0 (Q_es1 Z G1 G3 x q kq h0 n0 bk) ws := by
  have hX' := hX
  obtain ⟨hw, hE, S1, P1, S3, P3⟩ := hX'
  have hSA := sa_of hw
  have z0 : n0 ≤ h0.size := by rw [← O0.1]; exact O0.2.1
  refine Met.of (by decide +kernel) O0 hE ?_
  intro p e s m below meth c hx hby hml hret hlk hnm
  refine k_cast (ef_es1 m x q) ?_
  show Run p l e _ s m _ below meth c Z EL1 _ n0 bk h0 0 0 (mkF m 0 #[.val (.ref x), .val (.ref q)] []) _
  have lt_1 : @LT.lt Nat _ x (Array.size h0) := pf_0.lt
  have lt_2 : @LT.lt Nat _ x (Array.size h0) := pf_1.lt
  have lt_3 : @LT.lt Nat _ x (Array.size h0) := pf_2.lt
  have lt_4 : @LT.lt Nat _ q (Array.size h0) := pf_6.lt
  refine k_pure (g' := (mkF m 1 #[.val (.ref x), .val (.ref q)] [(.ref x)])) (fun TT HH tt kk => XS.aloadN HH hx rfl (hb hby d_jdk_42_m_3_0) rfl rfl kk) ?_
  refine k_pure (g' := (mkF m 2 #[.val (.ref x), .val (.ref q)] [(.ref q), (.ref x)])) (fun TT HH tt kk => XS.aloadN HH hx rfl (hb hby d_jdk_42_m_3_1) rfl rfl kk) ?_
  refine k_pure (g' := (mkF m 3 #[.val (.ref x), .val (.ref q)] [(.int (0 : Int32)), (.ref q), (.ref x)])) (fun TT HH tt kk => XS.iconst HH hx rfl (hb hby d_jdk_42_m_3_2) kk) ?_
  refine k_pure (g' := (mkF m 4 #[.val (.ref x), .val (.ref q)] [(.ref q), (.int (0 : Int32)), (.ref q), (.ref x)])) (fun TT HH tt kk => XS.aloadN HH hx rfl (hb hby d_jdk_42_m_3_3) rfl rfl kk) ?_
  refine k_alen hx pf_6 rfl rfl (hb hby d_jdk_42_m_3_4) ?_
  show Run p l e _ s m _ below meth c Z EL1 _ n0 bk h0 0 0 (mkF m 5 #[.val (.ref x), .val (.ref q)] [(.int (0 : Int32)), (.int (0 : Int32)), (.ref q), (.ref x)]) _
  refine k_pure (g' := (mkF m 6 #[.val (.ref x), .val (.ref q)] [.null, (.int (0 : Int32)), (.int (0 : Int32)), (.ref q), (.ref x)])) (fun TT HH tt kk => XS.aconstNull HH hx rfl (hb hby d_jdk_42_m_3_5) kk) ?_
  refine k_callI hx (y := (⟨"java/lang/String", "<init>", "([CIILjava/lang/Void;)V"⟩ : MethodName)) rfl (hw _ (List.mem_of_getElem? (i := 15) rfl)) (hw _ (List.mem_of_getElem? (i := 16) rfl)) (hw _ (List.mem_of_getElem? (i := 18) rfl)) (by decide) (W := 0) (a := x) (argsL := [(.ref q), (.int (0 : Int32)), (.int (0 : Int32)), .null]) (rest := []) (Pays.of_met (rm_es2 l Z a0 G1 G3 hX n0 bk h0 O0 x q pf_0 pf_1 pf_2 hbl nbx (by omega) []) (hw _ (List.mem_of_getElem? (i := 18) rfl)) (hw _ (List.mem_of_getElem? (i := 7) rfl)) (by decide) (by decide)) rfl (by rw [hml]; rfl) (lenOf pd__28__5b_CIILjava_2f_lang_2f_Void_3b__29_V rfl) rfl (by show 2 * 0 + _ ≤ _; exact Nat.le_of_eq rfl) (hb hby d_jdk_42_m_3_6) (by decide) (by decide) ?_
  intro v_5 h_6 bk_7 O_8 z_9 Q_10
  obtain ⟨a_11, k_12, rfl, hbk_13, K_14, F_15⟩ := Q_10
  have nb_16 : ¬ bk_7 x := fun q => (hbk_13 _ q).elim nbx (fun r => Nat.not_le_of_lt (show @LT.lt Nat _ x (Array.size h0) by omega) r.1)
  have hbl_17 : ∀ y, bk_7 y → @LT.lt Nat _ y (Array.size h_6) := fun y q => (hbk_13 y q).elim (fun r => Nat.lt_of_lt_of_le (hbl y r) (by omega)) (fun r => r.2)
  have hbs_18 : ∀ y, bk_7 y → bk y ∨ (@LE.le Nat _ (Array.size h0) y ∧ @LT.lt Nat _ y (Array.size h_6)) := fun y q => (hbk_13 y q).imp id (fun r => ⟨Nat.le_trans (by omega) r.1, r.2⟩)
  have lt_19 : @LT.lt Nat _ x (Array.size h_6) := F_15.lt1
  have lt_20 : @LT.lt Nat _ a_11 (Array.size h_6) := F_15.lt2
  show Run p l e _ s m _ below meth c Z EL1 _ n0 bk_7 h_6 4 8 (mkF m 9 #[.val (.ref x), .val (.ref q)] []) _
  exact k_ret0 hx hlk hret (hb hby d_jdk_42_m_3_9) (by decide) (by decide) ⟨a_11, k_12, rfl, (fun y q => (hbs_18 y q).imp id (fun t => ⟨t.1, Nat.lt_of_lt_of_le t.2 (by omega)⟩)), ((Keep.refl _ _).trans K_14 (kkS (Or.inl (by simp)) kk0)), F_15⟩
def Q_mk (Z : State) (G1 : Int32) (G3 : Value) (x : Int32) (n : Int32) (cs : List Int32) (h0 : Heap) (n0 : Nat) (bk : Addr → Prop) (v : Option Value) (h : Heap) (bk' : Addr → Prop) : Prop := ∃ (a : Addr), ∃ (t : Addr), ∃ (kb : ClassId), v = some (.ref a) ∧ (∀ y, bk' y → bk y ∨ (@LE.le Nat _ (Array.size h0) y ∧ @LT.lt Nat _ y (Array.size h))) ∧ Keep h0 h [] ∧ (StrL Z h a t kb cs)
theorem d_m_3_0 : decode method_3_code 0 = .ok (.iload_n 1, 1) := by decide +kernel
theorem d_m_3_1 : decode method_3_code 1 = .ok (.ifCond .ne 14, 3) := by decide +kernel
theorem d_m_3_4 : decode method_3_code 4 = .ok (.new 7, 3) := by decide +kernel
theorem d_m_3_7 : decode method_3_code 7 = .ok (.dup, 1) := by decide +kernel
theorem d_m_3_8 : decode method_3_code 8 = .ok (.iconst 0, 1) := by decide +kernel
theorem d_m_3_9 : decode method_3_code 9 = .ok (.newarray .char, 2) := by decide +kernel
theorem d_m_3_11 : decode method_3_code 11 = .ok (.invokespecial 9, 3) := by decide +kernel
theorem pd__28__5b_C_29_V : parseMethodDescriptor "([C)V" = some ⟨[(.array .char)], none⟩ := by decide +kernel
theorem d_m_3_14 : decode method_3_code 14 = .ok (.areturn, 1) := by decide +kernel
theorem d_m_3_15 : decode method_3_code 15 = .ok (.iload_n 1, 1) := by decide +kernel
theorem d_m_3_16 : decode method_3_code 16 = .ok (.iconst 1, 1) := by decide +kernel
theorem d_m_3_17 : decode method_3_code 17 = .ok (.if_icmp .ne 22, 3) := by decide +kernel
theorem d_m_3_20 : decode method_3_code 20 = .ok (.new 7, 3) := by decide +kernel
theorem d_m_3_23 : decode method_3_code 23 = .ok (.dup, 1) := by decide +kernel
theorem d_m_3_24 : decode method_3_code 24 = .ok (.iconst 1, 1) := by decide +kernel
theorem d_m_3_25 : decode method_3_code 25 = .ok (.newarray .char, 2) := by decide +kernel
theorem d_m_3_27 : decode method_3_code 27 = .ok (.dup, 1) := by decide +kernel
theorem d_m_3_28 : decode method_3_code 28 = .ok (.iconst 0, 1) := by decide +kernel
theorem d_m_3_29 : decode method_3_code 29 = .ok (.iload_n 0, 1) := by decide +kernel
theorem d_m_3_30 : decode method_3_code 30 = .ok (.iconst 0, 1) := by decide +kernel
theorem d_m_3_31 : decode method_3_code 31 = .ok (.invokestatic 12, 3) := by decide +kernel
theorem pd__28_II_29_C : parseMethodDescriptor "(II)C" = some ⟨[.int, .int], some .char⟩ := by decide +kernel
theorem d_m_3_34 : decode method_3_code 34 = .ok (.castore, 1) := by decide +kernel
theorem d_m_3_35 : decode method_3_code 35 = .ok (.invokespecial 9, 3) := by decide +kernel
theorem d_m_3_38 : decode method_3_code 38 = .ok (.areturn, 1) := by decide +kernel
theorem d_m_3_39 : decode method_3_code 39 = .ok (.iload_n 1, 1) := by decide +kernel
theorem d_m_3_40 : decode method_3_code 40 = .ok (.iconst 2, 1) := by decide +kernel
theorem d_m_3_41 : decode method_3_code 41 = .ok (.if_icmp .ne 30, 3) := by decide +kernel
theorem d_m_3_44 : decode method_3_code 44 = .ok (.new 7, 3) := by decide +kernel
theorem d_m_3_47 : decode method_3_code 47 = .ok (.dup, 1) := by decide +kernel
theorem d_m_3_48 : decode method_3_code 48 = .ok (.iconst 2, 1) := by decide +kernel
theorem d_m_3_49 : decode method_3_code 49 = .ok (.newarray .char, 2) := by decide +kernel
theorem d_m_3_51 : decode method_3_code 51 = .ok (.dup, 1) := by decide +kernel
theorem d_m_3_52 : decode method_3_code 52 = .ok (.iconst 0, 1) := by decide +kernel
theorem d_m_3_53 : decode method_3_code 53 = .ok (.iload_n 0, 1) := by decide +kernel
theorem d_m_3_54 : decode method_3_code 54 = .ok (.iconst 0, 1) := by decide +kernel
theorem d_m_3_55 : decode method_3_code 55 = .ok (.invokestatic 12, 3) := by decide +kernel
theorem d_m_3_58 : decode method_3_code 58 = .ok (.castore, 1) := by decide +kernel
theorem d_m_3_59 : decode method_3_code 59 = .ok (.dup, 1) := by decide +kernel
theorem d_m_3_60 : decode method_3_code 60 = .ok (.iconst 1, 1) := by decide +kernel
theorem d_m_3_61 : decode method_3_code 61 = .ok (.iload_n 0, 1) := by decide +kernel
theorem d_m_3_62 : decode method_3_code 62 = .ok (.iconst 1, 1) := by decide +kernel
theorem d_m_3_63 : decode method_3_code 63 = .ok (.invokestatic 12, 3) := by decide +kernel
theorem d_m_3_66 : decode method_3_code 66 = .ok (.castore, 1) := by decide +kernel
theorem d_m_3_67 : decode method_3_code 67 = .ok (.invokespecial 9, 3) := by decide +kernel
theorem d_m_3_70 : decode method_3_code 70 = .ok (.areturn, 1) := by decide +kernel
theorem d_m_3_71 : decode method_3_code 71 = .ok (.new 7, 3) := by decide +kernel
theorem d_m_3_74 : decode method_3_code 74 = .ok (.dup, 1) := by decide +kernel
theorem d_m_3_75 : decode method_3_code 75 = .ok (.iconst 3, 1) := by decide +kernel
theorem d_m_3_76 : decode method_3_code 76 = .ok (.newarray .char, 2) := by decide +kernel
theorem d_m_3_78 : decode method_3_code 78 = .ok (.dup, 1) := by decide +kernel
theorem d_m_3_79 : decode method_3_code 79 = .ok (.iconst 0, 1) := by decide +kernel
theorem d_m_3_80 : decode method_3_code 80 = .ok (.iload_n 0, 1) := by decide +kernel
theorem d_m_3_81 : decode method_3_code 81 = .ok (.iconst 0, 1) := by decide +kernel
theorem d_m_3_82 : decode method_3_code 82 = .ok (.invokestatic 12, 3) := by decide +kernel
theorem d_m_3_85 : decode method_3_code 85 = .ok (.castore, 1) := by decide +kernel
theorem d_m_3_86 : decode method_3_code 86 = .ok (.dup, 1) := by decide +kernel
theorem d_m_3_87 : decode method_3_code 87 = .ok (.iconst 1, 1) := by decide +kernel
theorem d_m_3_88 : decode method_3_code 88 = .ok (.iload_n 0, 1) := by decide +kernel
theorem d_m_3_89 : decode method_3_code 89 = .ok (.iconst 1, 1) := by decide +kernel
theorem d_m_3_90 : decode method_3_code 90 = .ok (.invokestatic 12, 3) := by decide +kernel
theorem d_m_3_93 : decode method_3_code 93 = .ok (.castore, 1) := by decide +kernel
theorem d_m_3_94 : decode method_3_code 94 = .ok (.dup, 1) := by decide +kernel
theorem d_m_3_95 : decode method_3_code 95 = .ok (.iconst 2, 1) := by decide +kernel
theorem d_m_3_96 : decode method_3_code 96 = .ok (.iload_n 0, 1) := by decide +kernel
theorem d_m_3_97 : decode method_3_code 97 = .ok (.iconst 2, 1) := by decide +kernel
theorem d_m_3_98 : decode method_3_code 98 = .ok (.invokestatic 12, 3) := by decide +kernel
theorem d_m_3_101 : decode method_3_code 101 = .ok (.castore, 1) := by decide +kernel
theorem d_m_3_102 : decode method_3_code 102 = .ok (.invokespecial 9, 3) := by decide +kernel
theorem d_m_3_105 : decode method_3_code 105 = .ok (.areturn, 1) := by decide +kernel
abbrev RM_mk : Room := { frames := 4, cells := 6, slots := 12, locals := 66 }
theorem ef_mk (m : MethodId) (x0 : Int32) (x1 : Int32) : entryFrame m #[(.int x0), (.int x1)] 2 = mkF m 0 #[.val (.int x0), .val (.int x1)] [] := by first | (simp [entryFrame, mkF, argsToLocals, Value.category]; done) | rfl
set_option maxRecDepth 65536 in
set_option maxHeartbeats 40000000 in
theorem rm_mk (l : Launch) (Z : State) (a0 : Array Value) (G1 : Int32) (G3 : Value) (hX : Ctx Z a0 G1 G3) (n0 : Nat) (bk : Addr → Prop) (h0 : Heap) (O0 : Old Z n0 h0) (x : Int32) (n : Int32) (cs : List Int32) (hbl : ∀ y, bk y → @LT.lt Nat _ y (Array.size h0)) (tx : Tm n x cs) (ws : List Jvm.Cond) : Met l Z EL1 n0 bk (⟨"com/example/tideline/tideline/TableNameToStringPinLaw", "mk", "(II)Ljava/lang/String;"⟩ : MethodName) method_3_code 2 (Option.some (FieldType.object "java/lang/String")) RM_mk #[(.int x), (.int n)] h0 (Q_mk Z G1 G3 x n cs h0 n0 bk) ws := by
  have hX' := hX
  obtain ⟨hw, hE, S1, P1, S3, P3⟩ := hX'
  have hSA := sa_of hw
  have z0 : n0 ≤ h0.size := by rw [← O0.1]; exact O0.2.1
  refine Met.of (by decide +kernel) O0 hE ?_
  intro p e s m below meth c hx hby hml hret hlk hnm
  refine k_cast (ef_mk m x n) ?_
  show Run p l e _ s m _ below meth c Z EL1 _ n0 bk h0 0 0 (mkF m 0 #[.val (.int x), .val (.int n)] []) _
  refine k_pure (g' := (mkF m 1 #[.val (.int x), .val (.int n)] [(.int n)])) (fun TT HH tt kk => XS.iloadN HH hx rfl (hb hby d_m_3_0) rfl kk) ?_
  by_cases c_1 : n = (0 : Int32)
  · refine k_pure (g' := (mkF m 4 #[.val (.int x), .val (.int n)] [])) (fun TT HH tt kk => XS.ifNo HH hx rfl (hb hby d_m_3_1) rfl ((if0 _ _).trans (teq c_1).2) kk) ?_
    refine k_newO hx (hw _ (List.mem_of_getElem? (i := 5) rfl)) (hw _ (List.mem_of_getElem? (i := 6) rfl)) (hw _ (List.mem_of_getElem? (i := 7) rfl)) rfl (hb hby d_m_3_4) (by decide) (by decide) ?_
    intro h_3 a_2 g_9 O_4 E_5 A_6 D_7 U_8
    have z_10 := E_5.1
    have lt_11 : @LT.lt Nat _ a_2 (Array.size h_3) := A_6.lt
    have nb_12 : ¬ bk a_2 := fun q => Nat.not_le_of_lt (hbl _ q) (show @LE.le Nat _ (Array.size h0) a_2 by omega)
    show Run p l e _ s m _ below meth c Z EL1 _ n0 bk h_3 1 4 (mkF m 7 #[.val (.int x), .val (.int n)] [(.ref a_2)]) _
    refine k_pure (g' := (mkF m 8 #[.val (.int x), .val (.int n)] [(.ref a_2), (.ref a_2)])) (fun TT HH tt kk => XS.dup HH hx rfl (hb hby d_m_3_7) rfl rfl kk) ?_
    refine k_pure (g' := (mkF m 9 #[.val (.int x), .val (.int n)] [(.int (0 : Int32)), (.ref a_2), (.ref a_2)])) (fun TT HH tt kk => XS.iconst HH hx rfl (hb hby d_m_3_8) kk) ?_
    refine k_newP hx (hw _ (List.mem_of_getElem? (i := 8) rfl)) rfl (hb hby d_m_3_9) rfl (by decide) (cap := 0) (by decide) (by decide) (by decide) (by decide) "[C" (by decide +kernel) ?_
    intro h_14 a_13 k_15 g_16 O_17 E_18 A_19 X_20
    have z_21 := E_18.1
    have lt_22 : @LT.lt Nat _ a_13 (Array.size h_14) := A_19.lt
    have V_23 : Arv Z h_14 a_13 k_15 .char (0 : Int32) [] (.int (0 : Int32)) := Arv.pad A_19 (pad_rep [] (.int (0 : Int32)) 0)
    have hbl_24 : ∀ y, bk y → @LT.lt Nat _ y (Array.size h_3) := fun y q => Nat.lt_of_lt_of_le (hbl y q) (by omega)
    have nb_25 : ¬ bk a_13 := fun q => Nat.not_le_of_lt (hbl_24 _ q) (show @LE.le Nat _ (Array.size h_3) a_13 by omega)
    show Run p l e _ s m _ below meth c Z EL1 _ n0 bk h_14 2 4 (mkF m 11 #[.val (.int x), .val (.int n)] [(.ref a_13), (.ref a_2), (.ref a_2)]) _
    have F_26 : Exa Z h_14 a_2 "java/lang/String" := (A_6.ext E_18)
    have F_27 : Fld Z h_14 a_2 "java/lang/String" "value" "[B" .null := ((D_7 (Or.inr (hw _ (List.mem_of_getElem? (i := 37) rfl))) (ty := (.array .byte)) (by decide)).ext E_18)
    have F_28 : Fld Z h_14 a_2 "java/lang/String" "coder" "B" (.int (0 : Int32)) := ((D_7 (Or.inr (hw _ (List.mem_of_getElem? (i := 35) rfl))) (ty := .byte) (by decide)).ext E_18)
    have hbl_29 : ∀ y, bk y → @LT.lt Nat _ y (Array.size h_14) := fun y q => Nat.lt_of_lt_of_le (hbl_24 y q) (by omega)
    refine k_callI hx (y := (⟨"java/lang/String", "<init>", "([C)V"⟩ : MethodName)) rfl (hw _ (List.mem_of_getElem? (i := 12) rfl)) (hw _ (List.mem_of_getElem? (i := 13) rfl)) (hw _ (List.mem_of_getElem? (i := 14) rfl)) (by decide) (W := 1) (a := a_2) (argsL := [(.ref a_13)]) (rest := [(.ref a_2)]) (Pays.of_met (rm_es1 l Z a0 G1 G3 hX n0 bk h_14 O_17 a_2 a_13 k_15 F_26 F_27 F_28 hbl_29 nb_12 (by omega) V_23 []) (hw _ (List.mem_of_getElem? (i := 14) rfl)) (hw _ (List.mem_of_getElem? (i := 7) rfl)) (by decide) (by decide)) rfl (by rw [hml]; rfl) (lenOf pd__28__5b_C_29_V rfl) rfl (by show 2 * 0 + _ ≤ _; exact Nat.le_of_eq rfl) (hb hby d_m_3_11) (by decide) (by decide) ?_
    intro v_30 h_31 bk_32 O_33 z_34 Q_35
    obtain ⟨a_36, k_37, rfl, hbk_38, K_39, F_40⟩ := Q_35
    have nb_41 : ¬ bk_32 a_2 := fun q => (hbk_38 _ q).elim nb_12 (fun r => Nat.not_le_of_lt (show @LT.lt Nat _ a_2 (Array.size h_14) by omega) r.1)
    have nb_42 : ¬ bk_32 a_13 := fun q => (hbk_38 _ q).elim nb_25 (fun r => Nat.not_le_of_lt (show @LT.lt Nat _ a_13 (Array.size h_14) by omega) r.1)
    have hbl_43 : ∀ y, bk_32 y → @LT.lt Nat _ y (Array.size h_31) := fun y q => (hbk_38 y q).elim (fun r => Nat.lt_of_lt_of_le (hbl_29 y r) (by omega)) (fun r => r.2)
    have hbs_44 : ∀ y, bk_32 y → bk y ∨ (@LE.le Nat _ (Array.size h0) y ∧ @LT.lt Nat _ y (Array.size h_31)) := fun y q => (hbk_38 y q).imp id (fun r => ⟨Nat.le_trans (by omega) r.1, r.2⟩)
    have lt_45 : @LT.lt Nat _ a_2 (Array.size h_31) := F_40.lt1
    have lt_46 : @LT.lt Nat _ a_36 (Array.size h_31) := F_40.lt2
    show Run p l e _ s m _ below meth c Z EL1 _ n0 bk_32 h_31 6 12 (mkF m 14 #[.val (.int x), .val (.int n)] [(.ref a_2)]) _
    exact k_retA hx hlk hret rfl rfl rfl (hb hby d_m_3_14) (by decide) (by decide) ⟨a_2, a_36, k_37, rfl, (fun y q => (hbs_44 y q).imp id (fun t => ⟨t.1, Nat.lt_of_lt_of_le t.2 (by omega)⟩)), ((((Keep.refl _ _).ext E_5).ext E_18).trans K_39 (kkS (Or.inr (by omega)) kk0)), (tx.t0 c_1) ▸ F_40⟩
  · refine k_pure (g' := (mkF m 15 #[.val (.int x), .val (.int n)] [])) (fun TT HH tt kk => XS.ifYes HH hx rfl (pc0 := 1) (pc' := 15) rfl (hb hby d_m_3_1) rfl ((if0 _ _).trans (feq c_1).2) (by decide) (by decide) kk) ?_
    refine k_pure (g' := (mkF m 16 #[.val (.int x), .val (.int n)] [(.int n)])) (fun TT HH tt kk => XS.iloadN HH hx rfl (hb hby d_m_3_15) rfl kk) ?_
    refine k_pure (g' := (mkF m 17 #[.val (.int x), .val (.int n)] [(.int (1 : Int32)), (.int n)])) (fun TT HH tt kk => XS.iconst HH hx rfl (hb hby d_m_3_16) kk) ?_
    by_cases c_47 : n = (1 : Int32)
    · refine k_pure (g' := (mkF m 20 #[.val (.int x), .val (.int n)] [])) (fun TT HH tt kk => XS.icmpNo HH hx rfl (hb hby d_m_3_17) rfl (teq c_47).2 kk) ?_
      refine k_newO hx (hw _ (List.mem_of_getElem? (i := 5) rfl)) (hw _ (List.mem_of_getElem? (i := 6) rfl)) (hw _ (List.mem_of_getElem? (i := 7) rfl)) rfl (hb hby d_m_3_20) (by decide) (by decide) ?_
      intro h_49 a_48 g_55 O_50 E_51 A_52 D_53 U_54
      have z_56 := E_51.1
      have lt_57 : @LT.lt Nat _ a_48 (Array.size h_49) := A_52.lt
      have nb_58 : ¬ bk a_48 := fun q => Nat.not_le_of_lt (hbl _ q) (show @LE.le Nat _ (Array.size h0) a_48 by omega)
      show Run p l e _ s m _ below meth c Z EL1 _ n0 bk h_49 1 4 (mkF m 23 #[.val (.int x), .val (.int n)] [(.ref a_48)]) _
      refine k_pure (g' := (mkF m 24 #[.val (.int x), .val (.int n)] [(.ref a_48), (.ref a_48)])) (fun TT HH tt kk => XS.dup HH hx rfl (hb hby d_m_3_23) rfl rfl kk) ?_
      refine k_pure (g' := (mkF m 25 #[.val (.int x), .val (.int n)] [(.int (1 : Int32)), (.ref a_48), (.ref a_48)])) (fun TT HH tt kk => XS.iconst HH hx rfl (hb hby d_m_3_24) kk) ?_
      refine k_newP hx (hw _ (List.mem_of_getElem? (i := 8) rfl)) rfl (hb hby d_m_3_25) rfl (by decide) (cap := 1) (by decide) (by decide) (by decide) (by decide) "[C" (by decide +kernel) ?_
      intro h_60 a_59 k_61 g_62 O_63 E_64 A_65 X_66
      have z_67 := E_64.1
      have lt_68 : @LT.lt Nat _ a_59 (Array.size h_60) := A_65.lt
      have V_69 : Arv Z h_60 a_59 k_61 .char (1 : Int32) [(.int (0 : Int32))] (.int (0 : Int32)) := Arv.pad A_65 (pad_rep [] (.int (0 : Int32)) 1)
      have hbl_70 : ∀ y, bk y → @LT.lt Nat _ y (Array.size h_49) := fun y q => Nat.lt_of_lt_of_le (hbl y q) (by omega)
      have nb_71 : ¬ bk a_59 := fun q => Nat.not_le_of_lt (hbl_70 _ q) (show @LE.le Nat _ (Array.size h_49) a_59 by omega)
      show Run p l e _ s m _ below meth c Z EL1 _ n0 bk h_60 2 5 (mkF m 27 #[.val (.int x), .val (.int n)] [(.ref a_59), (.ref a_48), (.ref a_48)]) _
      refine k_pure (g' := (mkF m 28 #[.val (.int x), .val (.int n)] [(.ref a_59), (.ref a_59), (.ref a_48), (.ref a_48)])) (fun TT HH tt kk => XS.dup HH hx rfl (hb hby d_m_3_27) rfl rfl kk) ?_
      refine k_pure (g' := (mkF m 29 #[.val (.int x), .val (.int n)] [(.int (0 : Int32)), (.ref a_59), (.ref a_59), (.ref a_48), (.ref a_48)])) (fun TT HH tt kk => XS.iconst HH hx rfl (hb hby d_m_3_28) kk) ?_
      refine k_pure (g' := (mkF m 30 #[.val (.int x), .val (.int n)] [(.int x), (.int (0 : Int32)), (.ref a_59), (.ref a_59), (.ref a_48), (.ref a_48)])) (fun TT HH tt kk => XS.iloadN HH hx rfl (hb hby d_m_3_29) rfl kk) ?_
      refine k_pure (g' := (mkF m 31 #[.val (.int x), .val (.int n)] [(.int (0 : Int32)), (.int x), (.int (0 : Int32)), (.ref a_59), (.ref a_59), (.ref a_48), (.ref a_48)])) (fun TT HH tt kk => XS.iconst HH hx rfl (hb hby d_m_3_30) kk) ?_
      refine k_callS hx (y := (⟨"com/example/tideline/tideline/TableNameToStringPinLaw", "ch", "(II)C"⟩ : MethodName)) (hw _ (List.mem_of_getElem? (i := 9) rfl)) (hw _ (List.mem_of_getElem? (i := 10) rfl)) (hw _ (List.mem_of_getElem? (i := 3) rfl)) (hw _ (List.mem_of_getElem? (i := 11) rfl)) (by decide) (W := 5) (argsL := [(.int x), (.int (0 : Int32))]) (rest := [(.int (0 : Int32)), (.ref a_59), (.ref a_59), (.ref a_48), (.ref a_48)]) (Pays.of_met (rm_chc l Z a0 G1 G3 hX n0 bk h_60 O_63 x (0 : Int32)  []) (hw _ (List.mem_of_getElem? (i := 11) rfl)) (hw _ (List.mem_of_getElem? (i := 3) rfl)) (by decide) (by decide)) rfl (by rw [hml]; rfl) (lenOf pd__28_II_29_C rfl) rfl (by show 2 * 0 + _ ≤ _; exact Nat.le_of_eq rfl) (hb hby d_m_3_31) (by decide) (by decide) ?_
      intro v_72 h_73 bk_74 O_75 z_76 Q_77
      obtain ⟨rfl, rfl, rfl⟩ := Q_77
      show Run p l e _ s m _ below meth c Z EL1 _ n0 bk h_60 2 5 (mkF m 34 #[.val (.int x), .val (.int n)] [(.int (chv x (0 : Int32))), (.int (0 : Int32)), (.ref a_59), (.ref a_59), (.ref a_48), (.ref a_48)]) _
      refine k_stC hx V_69 ⟨by decide, by decide⟩ 0 (by decide) (Nat.le_of_ble_eq_true rfl) (by omega) nb_71 rfl rfl (hb hby d_m_3_34) ?_
      intro h_78 O_79 W_80 A_81
      have z_82 := W_80.size
      have V_83 : Arv Z h_78 a_59 k_61 .char (1 : Int32) [(.int (chv x (0 : Int32)))] (.int (0 : Int32)) := by rw [(chd _ _).nr] at A_81; exact A_81
      show Run p l e _ s m _ below meth c Z EL1 _ n0 bk h_78 2 5 (mkF m 35 #[.val (.int x), .val (.int n)] [(.ref a_59), (.ref a_48), (.ref a_48)]) _
      have F_84 : Exa Z h_78 a_48 "java/lang/String" := ((A_52.ext E_64).wr W_80)
      have F_85 : Fld Z h_78 a_48 "java/lang/String" "value" "[B" .null := (((D_53 (Or.inr (hw _ (List.mem_of_getElem? (i := 37) rfl))) (ty := (.array .byte)) (by decide)).ext E_64).other W_80 (Or.inl (ne_ad (by omega))))
      have F_86 : Fld Z h_78 a_48 "java/lang/String" "coder" "B" (.int (0 : Int32)) := (((D_53 (Or.inr (hw _ (List.mem_of_getElem? (i := 35) rfl))) (ty := .byte) (by decide)).ext E_64).other W_80 (Or.inl (ne_ad (by omega))))
      refine k_callI hx (y := (⟨"java/lang/String", "<init>", "([C)V"⟩ : MethodName)) rfl (hw _ (List.mem_of_getElem? (i := 12) rfl)) (hw _ (List.mem_of_getElem? (i := 13) rfl)) (hw _ (List.mem_of_getElem? (i := 14) rfl)) (by decide) (W := 1) (a := a_48) (argsL := [(.ref a_59)]) (rest := [(.ref a_48)]) (pay_new (W := 1) hX O_79 nb_58 (cs := [(chv x (0 : Int32))]) F_84 F_85 F_86 V_83 1 rfl rfl (by decide) (by decide) (gd1 (chd _ _)) (by omega) (by decide) (by decide)) rfl (by rw [hml]; rfl) (lenOf pd__28__5b_C_29_V rfl) rfl (by show 2 * 0 + _ ≤ _; exact Nat.le_of_eq rfl) (hb hby d_m_3_35) (by decide) (by decide) ?_
      intro v_87 h_88 bk_89 O_90 z_91 Q_92
      obtain ⟨rfl, rfl, K_93, a_94, k_95, ge_96, ge_97, S_98⟩ := Q_92
      have lt_99 : @LT.lt Nat _ a_48 (Array.size h_88) := S_98.lt1
      have lt_100 : @LT.lt Nat _ a_94 (Array.size h_88) := S_98.lt2
      show Run p l e _ s m _ below meth c Z EL1 _ n0 bk h_88 3 6 (mkF m 38 #[.val (.int x), .val (.int n)] [(.ref a_48)]) _
      exact k_retA hx hlk hret rfl rfl rfl (hb hby d_m_3_38) (by decide) (by decide) ⟨a_48, a_94, k_95, rfl, (fun y q => Or.inl q), (((((Keep.refl _ _).ext E_51).ext E_64).wr W_80 (Or.inr (by omega))).trans K_93 (kkS (Or.inr (by omega)) kk0)), (tx.t1 c_47) ▸ S_98⟩
    · refine k_pure (g' := (mkF m 39 #[.val (.int x), .val (.int n)] [])) (fun TT HH tt kk => XS.icmpYes HH hx rfl (pc0 := 17) (pc' := 39) rfl (hb hby d_m_3_17) rfl (feq c_47).2 (by decide) (by decide) kk) ?_
      refine k_pure (g' := (mkF m 40 #[.val (.int x), .val (.int n)] [(.int n)])) (fun TT HH tt kk => XS.iloadN HH hx rfl (hb hby d_m_3_39) rfl kk) ?_
      refine k_pure (g' := (mkF m 41 #[.val (.int x), .val (.int n)] [(.int (2 : Int32)), (.int n)])) (fun TT HH tt kk => XS.iconst HH hx rfl (hb hby d_m_3_40) kk) ?_
      by_cases c_101 : n = (2 : Int32)
      · refine k_pure (g' := (mkF m 44 #[.val (.int x), .val (.int n)] [])) (fun TT HH tt kk => XS.icmpNo HH hx rfl (hb hby d_m_3_41) rfl (teq c_101).2 kk) ?_
        refine k_newO hx (hw _ (List.mem_of_getElem? (i := 5) rfl)) (hw _ (List.mem_of_getElem? (i := 6) rfl)) (hw _ (List.mem_of_getElem? (i := 7) rfl)) rfl (hb hby d_m_3_44) (by decide) (by decide) ?_
        intro h_103 a_102 g_109 O_104 E_105 A_106 D_107 U_108
        have z_110 := E_105.1
        have lt_111 : @LT.lt Nat _ a_102 (Array.size h_103) := A_106.lt
        have nb_112 : ¬ bk a_102 := fun q => Nat.not_le_of_lt (hbl _ q) (show @LE.le Nat _ (Array.size h0) a_102 by omega)
        show Run p l e _ s m _ below meth c Z EL1 _ n0 bk h_103 1 4 (mkF m 47 #[.val (.int x), .val (.int n)] [(.ref a_102)]) _
        refine k_pure (g' := (mkF m 48 #[.val (.int x), .val (.int n)] [(.ref a_102), (.ref a_102)])) (fun TT HH tt kk => XS.dup HH hx rfl (hb hby d_m_3_47) rfl rfl kk) ?_
        refine k_pure (g' := (mkF m 49 #[.val (.int x), .val (.int n)] [(.int (2 : Int32)), (.ref a_102), (.ref a_102)])) (fun TT HH tt kk => XS.iconst HH hx rfl (hb hby d_m_3_48) kk) ?_
        refine k_newP hx (hw _ (List.mem_of_getElem? (i := 8) rfl)) rfl (hb hby d_m_3_49) rfl (by decide) (cap := 2) (by decide) (by decide) (by decide) (by decide) "[C" (by decide +kernel) ?_
        intro h_114 a_113 k_115 g_116 O_117 E_118 A_119 X_120
        have z_121 := E_118.1
        have lt_122 : @LT.lt Nat _ a_113 (Array.size h_114) := A_119.lt
        have V_123 : Arv Z h_114 a_113 k_115 .char (2 : Int32) [(.int (0 : Int32)), (.int (0 : Int32))] (.int (0 : Int32)) := Arv.pad A_119 (pad_rep [] (.int (0 : Int32)) 2)
        have hbl_124 : ∀ y, bk y → @LT.lt Nat _ y (Array.size h_103) := fun y q => Nat.lt_of_lt_of_le (hbl y q) (by omega)
        have nb_125 : ¬ bk a_113 := fun q => Nat.not_le_of_lt (hbl_124 _ q) (show @LE.le Nat _ (Array.size h_103) a_113 by omega)
        show Run p l e _ s m _ below meth c Z EL1 _ n0 bk h_114 2 6 (mkF m 51 #[.val (.int x), .val (.int n)] [(.ref a_113), (.ref a_102), (.ref a_102)]) _
        refine k_pure (g' := (mkF m 52 #[.val (.int x), .val (.int n)] [(.ref a_113), (.ref a_113), (.ref a_102), (.ref a_102)])) (fun TT HH tt kk => XS.dup HH hx rfl (hb hby d_m_3_51) rfl rfl kk) ?_
        refine k_pure (g' := (mkF m 53 #[.val (.int x), .val (.int n)] [(.int (0 : Int32)), (.ref a_113), (.ref a_113), (.ref a_102), (.ref a_102)])) (fun TT HH tt kk => XS.iconst HH hx rfl (hb hby d_m_3_52) kk) ?_
        refine k_pure (g' := (mkF m 54 #[.val (.int x), .val (.int n)] [(.int x), (.int (0 : Int32)), (.ref a_113), (.ref a_113), (.ref a_102), (.ref a_102)])) (fun TT HH tt kk => XS.iloadN HH hx rfl (hb hby d_m_3_53) rfl kk) ?_
        refine k_pure (g' := (mkF m 55 #[.val (.int x), .val (.int n)] [(.int (0 : Int32)), (.int x), (.int (0 : Int32)), (.ref a_113), (.ref a_113), (.ref a_102), (.ref a_102)])) (fun TT HH tt kk => XS.iconst HH hx rfl (hb hby d_m_3_54) kk) ?_
        refine k_callS hx (y := (⟨"com/example/tideline/tideline/TableNameToStringPinLaw", "ch", "(II)C"⟩ : MethodName)) (hw _ (List.mem_of_getElem? (i := 9) rfl)) (hw _ (List.mem_of_getElem? (i := 10) rfl)) (hw _ (List.mem_of_getElem? (i := 3) rfl)) (hw _ (List.mem_of_getElem? (i := 11) rfl)) (by decide) (W := 5) (argsL := [(.int x), (.int (0 : Int32))]) (rest := [(.int (0 : Int32)), (.ref a_113), (.ref a_113), (.ref a_102), (.ref a_102)]) (Pays.of_met (rm_chc l Z a0 G1 G3 hX n0 bk h_114 O_117 x (0 : Int32)  []) (hw _ (List.mem_of_getElem? (i := 11) rfl)) (hw _ (List.mem_of_getElem? (i := 3) rfl)) (by decide) (by decide)) rfl (by rw [hml]; rfl) (lenOf pd__28_II_29_C rfl) rfl (by show 2 * 0 + _ ≤ _; exact Nat.le_of_eq rfl) (hb hby d_m_3_55) (by decide) (by decide) ?_
        intro v_126 h_127 bk_128 O_129 z_130 Q_131
        obtain ⟨rfl, rfl, rfl⟩ := Q_131
        show Run p l e _ s m _ below meth c Z EL1 _ n0 bk h_114 2 6 (mkF m 58 #[.val (.int x), .val (.int n)] [(.int (chv x (0 : Int32))), (.int (0 : Int32)), (.ref a_113), (.ref a_113), (.ref a_102), (.ref a_102)]) _
        refine k_stC hx V_123 ⟨by decide, by decide⟩ 0 (by decide) (Nat.le_of_ble_eq_true rfl) (by omega) nb_125 rfl rfl (hb hby d_m_3_58) ?_
        intro h_132 O_133 W_134 A_135
        have z_136 := W_134.size
        have V_137 : Arv Z h_132 a_113 k_115 .char (2 : Int32) [(.int (chv x (0 : Int32))), (.int (0 : Int32))] (.int (0 : Int32)) := by rw [(chd _ _).nr] at A_135; exact A_135
        show Run p l e _ s m _ below meth c Z EL1 _ n0 bk h_132 2 6 (mkF m 59 #[.val (.int x), .val (.int n)] [(.ref a_113), (.ref a_102), (.ref a_102)]) _
        refine k_pure (g' := (mkF m 60 #[.val (.int x), .val (.int n)] [(.ref a_113), (.ref a_113), (.ref a_102), (.ref a_102)])) (fun TT HH tt kk => XS.dup HH hx rfl (hb hby d_m_3_59) rfl rfl kk) ?_
        refine k_pure (g' := (mkF m 61 #[.val (.int x), .val (.int n)] [(.int (1 : Int32)), (.ref a_113), (.ref a_113), (.ref a_102), (.ref a_102)])) (fun TT HH tt kk => XS.iconst HH hx rfl (hb hby d_m_3_60) kk) ?_
        refine k_pure (g' := (mkF m 62 #[.val (.int x), .val (.int n)] [(.int x), (.int (1 : Int32)), (.ref a_113), (.ref a_113), (.ref a_102), (.ref a_102)])) (fun TT HH tt kk => XS.iloadN HH hx rfl (hb hby d_m_3_61) rfl kk) ?_
        refine k_pure (g' := (mkF m 63 #[.val (.int x), .val (.int n)] [(.int (1 : Int32)), (.int x), (.int (1 : Int32)), (.ref a_113), (.ref a_113), (.ref a_102), (.ref a_102)])) (fun TT HH tt kk => XS.iconst HH hx rfl (hb hby d_m_3_62) kk) ?_
        refine k_callS hx (y := (⟨"com/example/tideline/tideline/TableNameToStringPinLaw", "ch", "(II)C"⟩ : MethodName)) (hw _ (List.mem_of_getElem? (i := 9) rfl)) (hw _ (List.mem_of_getElem? (i := 10) rfl)) (hw _ (List.mem_of_getElem? (i := 3) rfl)) (hw _ (List.mem_of_getElem? (i := 11) rfl)) (by decide) (W := 5) (argsL := [(.int x), (.int (1 : Int32))]) (rest := [(.int (1 : Int32)), (.ref a_113), (.ref a_113), (.ref a_102), (.ref a_102)]) (Pays.of_met (rm_chc l Z a0 G1 G3 hX n0 bk h_132 O_133 x (1 : Int32)  []) (hw _ (List.mem_of_getElem? (i := 11) rfl)) (hw _ (List.mem_of_getElem? (i := 3) rfl)) (by decide) (by decide)) rfl (by rw [hml]; rfl) (lenOf pd__28_II_29_C rfl) rfl (by show 2 * 0 + _ ≤ _; exact Nat.le_of_eq rfl) (hb hby d_m_3_63) (by decide) (by decide) ?_
        intro v_138 h_139 bk_140 O_141 z_142 Q_143
        obtain ⟨rfl, rfl, rfl⟩ := Q_143
        show Run p l e _ s m _ below meth c Z EL1 _ n0 bk h_132 2 6 (mkF m 66 #[.val (.int x), .val (.int n)] [(.int (chv x (1 : Int32))), (.int (1 : Int32)), (.ref a_113), (.ref a_113), (.ref a_102), (.ref a_102)]) _
        refine k_stC hx V_137 ⟨by decide, by decide⟩ 1 (by decide) (Nat.le_of_ble_eq_true rfl) (by omega) nb_125 rfl rfl (hb hby d_m_3_66) ?_
        intro h_144 O_145 W_146 A_147
        have z_148 := W_146.size
        have V_149 : Arv Z h_144 a_113 k_115 .char (2 : Int32) [(.int (chv x (0 : Int32))), (.int (chv x (1 : Int32)))] (.int (0 : Int32)) := by rw [(chd _ _).nr] at A_147; exact A_147
        show Run p l e _ s m _ below meth c Z EL1 _ n0 bk h_144 2 6 (mkF m 67 #[.val (.int x), .val (.int n)] [(.ref a_113), (.ref a_102), (.ref a_102)]) _
        have F_150 : Exa Z h_144 a_102 "java/lang/String" := (((A_106.ext E_118).wr W_134).wr W_146)
        have F_151 : Fld Z h_144 a_102 "java/lang/String" "value" "[B" .null := ((((D_107 (Or.inr (hw _ (List.mem_of_getElem? (i := 37) rfl))) (ty := (.array .byte)) (by decide)).ext E_118).other W_134 (Or.inl (ne_ad (by omega)))).other W_146 (Or.inl (ne_ad (by omega))))
        have F_152 : Fld Z h_144 a_102 "java/lang/String" "coder" "B" (.int (0 : Int32)) := ((((D_107 (Or.inr (hw _ (List.mem_of_getElem? (i := 35) rfl))) (ty := .byte) (by decide)).ext E_118).other W_134 (Or.inl (ne_ad (by omega)))).other W_146 (Or.inl (ne_ad (by omega))))
        refine k_callI hx (y := (⟨"java/lang/String", "<init>", "([C)V"⟩ : MethodName)) rfl (hw _ (List.mem_of_getElem? (i := 12) rfl)) (hw _ (List.mem_of_getElem? (i := 13) rfl)) (hw _ (List.mem_of_getElem? (i := 14) rfl)) (by decide) (W := 1) (a := a_102) (argsL := [(.ref a_113)]) (rest := [(.ref a_102)]) (pay_new (W := 1) hX O_145 nb_112 (cs := [(chv x (0 : Int32)), (chv x (1 : Int32))]) F_150 F_151 F_152 V_149 2 rfl rfl (by decide) (by decide) (gd2 (chd _ _) (chd _ _)) (by omega) (by decide) (by decide)) rfl (by rw [hml]; rfl) (lenOf pd__28__5b_C_29_V rfl) rfl (by show 2 * 0 + _ ≤ _; exact Nat.le_of_eq rfl) (hb hby d_m_3_67) (by decide) (by decide) ?_
        intro v_153 h_154 bk_155 O_156 z_157 Q_158
        obtain ⟨rfl, rfl, K_159, a_160, k_161, ge_162, ge_163, S_164⟩ := Q_158
        have lt_165 : @LT.lt Nat _ a_102 (Array.size h_154) := S_164.lt1
        have lt_166 : @LT.lt Nat _ a_160 (Array.size h_154) := S_164.lt2
        show Run p l e _ s m _ below meth c Z EL1 _ n0 bk h_154 3 8 (mkF m 70 #[.val (.int x), .val (.int n)] [(.ref a_102)]) _
        exact k_retA hx hlk hret rfl rfl rfl (hb hby d_m_3_70) (by decide) (by decide) ⟨a_102, a_160, k_161, rfl, (fun y q => Or.inl q), ((((((Keep.refl _ _).ext E_105).ext E_118).wr W_134 (Or.inr (by omega))).wr W_146 (Or.inr (by omega))).trans K_159 (kkS (Or.inr (by omega)) kk0)), (tx.t2 c_101) ▸ S_164⟩
      · refine k_pure (g' := (mkF m 71 #[.val (.int x), .val (.int n)] [])) (fun TT HH tt kk => XS.icmpYes HH hx rfl (pc0 := 41) (pc' := 71) rfl (hb hby d_m_3_41) rfl (feq c_101).2 (by decide) (by decide) kk) ?_
        refine k_newO hx (hw _ (List.mem_of_getElem? (i := 5) rfl)) (hw _ (List.mem_of_getElem? (i := 6) rfl)) (hw _ (List.mem_of_getElem? (i := 7) rfl)) rfl (hb hby d_m_3_71) (by decide) (by decide) ?_
        intro h_168 a_167 g_174 O_169 E_170 A_171 D_172 U_173
        have z_175 := E_170.1
        have lt_176 : @LT.lt Nat _ a_167 (Array.size h_168) := A_171.lt
        have nb_177 : ¬ bk a_167 := fun q => Nat.not_le_of_lt (hbl _ q) (show @LE.le Nat _ (Array.size h0) a_167 by omega)
        show Run p l e _ s m _ below meth c Z EL1 _ n0 bk h_168 1 4 (mkF m 74 #[.val (.int x), .val (.int n)] [(.ref a_167)]) _
        refine k_pure (g' := (mkF m 75 #[.val (.int x), .val (.int n)] [(.ref a_167), (.ref a_167)])) (fun TT HH tt kk => XS.dup HH hx rfl (hb hby d_m_3_74) rfl rfl kk) ?_
        refine k_pure (g' := (mkF m 76 #[.val (.int x), .val (.int n)] [(.int (3 : Int32)), (.ref a_167), (.ref a_167)])) (fun TT HH tt kk => XS.iconst HH hx rfl (hb hby d_m_3_75) kk) ?_
        refine k_newP hx (hw _ (List.mem_of_getElem? (i := 8) rfl)) rfl (hb hby d_m_3_76) rfl (by decide) (cap := 3) (by decide) (by decide) (by decide) (by decide) "[C" (by decide +kernel) ?_
        intro h_179 a_178 k_180 g_181 O_182 E_183 A_184 X_185
        have z_186 := E_183.1
        have lt_187 : @LT.lt Nat _ a_178 (Array.size h_179) := A_184.lt
        have V_188 : Arv Z h_179 a_178 k_180 .char (3 : Int32) [(.int (0 : Int32)), (.int (0 : Int32)), (.int (0 : Int32))] (.int (0 : Int32)) := Arv.pad A_184 (pad_rep [] (.int (0 : Int32)) 3)
        have hbl_189 : ∀ y, bk y → @LT.lt Nat _ y (Array.size h_168) := fun y q => Nat.lt_of_lt_of_le (hbl y q) (by omega)
        have nb_190 : ¬ bk a_178 := fun q => Nat.not_le_of_lt (hbl_189 _ q) (show @LE.le Nat _ (Array.size h_168) a_178 by omega)
        show Run p l e _ s m _ below meth c Z EL1 _ n0 bk h_179 2 7 (mkF m 78 #[.val (.int x), .val (.int n)] [(.ref a_178), (.ref a_167), (.ref a_167)]) _
        refine k_pure (g' := (mkF m 79 #[.val (.int x), .val (.int n)] [(.ref a_178), (.ref a_178), (.ref a_167), (.ref a_167)])) (fun TT HH tt kk => XS.dup HH hx rfl (hb hby d_m_3_78) rfl rfl kk) ?_
        refine k_pure (g' := (mkF m 80 #[.val (.int x), .val (.int n)] [(.int (0 : Int32)), (.ref a_178), (.ref a_178), (.ref a_167), (.ref a_167)])) (fun TT HH tt kk => XS.iconst HH hx rfl (hb hby d_m_3_79) kk) ?_
        refine k_pure (g' := (mkF m 81 #[.val (.int x), .val (.int n)] [(.int x), (.int (0 : Int32)), (.ref a_178), (.ref a_178), (.ref a_167), (.ref a_167)])) (fun TT HH tt kk => XS.iloadN HH hx rfl (hb hby d_m_3_80) rfl kk) ?_
        refine k_pure (g' := (mkF m 82 #[.val (.int x), .val (.int n)] [(.int (0 : Int32)), (.int x), (.int (0 : Int32)), (.ref a_178), (.ref a_178), (.ref a_167), (.ref a_167)])) (fun TT HH tt kk => XS.iconst HH hx rfl (hb hby d_m_3_81) kk) ?_
        refine k_callS hx (y := (⟨"com/example/tideline/tideline/TableNameToStringPinLaw", "ch", "(II)C"⟩ : MethodName)) (hw _ (List.mem_of_getElem? (i := 9) rfl)) (hw _ (List.mem_of_getElem? (i := 10) rfl)) (hw _ (List.mem_of_getElem? (i := 3) rfl)) (hw _ (List.mem_of_getElem? (i := 11) rfl)) (by decide) (W := 5) (argsL := [(.int x), (.int (0 : Int32))]) (rest := [(.int (0 : Int32)), (.ref a_178), (.ref a_178), (.ref a_167), (.ref a_167)]) (Pays.of_met (rm_chc l Z a0 G1 G3 hX n0 bk h_179 O_182 x (0 : Int32)  []) (hw _ (List.mem_of_getElem? (i := 11) rfl)) (hw _ (List.mem_of_getElem? (i := 3) rfl)) (by decide) (by decide)) rfl (by rw [hml]; rfl) (lenOf pd__28_II_29_C rfl) rfl (by show 2 * 0 + _ ≤ _; exact Nat.le_of_eq rfl) (hb hby d_m_3_82) (by decide) (by decide) ?_
        intro v_191 h_192 bk_193 O_194 z_195 Q_196
        obtain ⟨rfl, rfl, rfl⟩ := Q_196
        show Run p l e _ s m _ below meth c Z EL1 _ n0 bk h_179 2 7 (mkF m 85 #[.val (.int x), .val (.int n)] [(.int (chv x (0 : Int32))), (.int (0 : Int32)), (.ref a_178), (.ref a_178), (.ref a_167), (.ref a_167)]) _
        refine k_stC hx V_188 ⟨by decide, by decide⟩ 0 (by decide) (Nat.le_of_ble_eq_true rfl) (by omega) nb_190 rfl rfl (hb hby d_m_3_85) ?_
        intro h_197 O_198 W_199 A_200
        have z_201 := W_199.size
        have V_202 : Arv Z h_197 a_178 k_180 .char (3 : Int32) [(.int (chv x (0 : Int32))), (.int (0 : Int32)), (.int (0 : Int32))] (.int (0 : Int32)) := by rw [(chd _ _).nr] at A_200; exact A_200
        show Run p l e _ s m _ below meth c Z EL1 _ n0 bk h_197 2 7 (mkF m 86 #[.val (.int x), .val (.int n)] [(.ref a_178), (.ref a_167), (.ref a_167)]) _
        refine k_pure (g' := (mkF m 87 #[.val (.int x), .val (.int n)] [(.ref a_178), (.ref a_178), (.ref a_167), (.ref a_167)])) (fun TT HH tt kk => XS.dup HH hx rfl (hb hby d_m_3_86) rfl rfl kk) ?_
        refine k_pure (g' := (mkF m 88 #[.val (.int x), .val (.int n)] [(.int (1 : Int32)), (.ref a_178), (.ref a_178), (.ref a_167), (.ref a_167)])) (fun TT HH tt kk => XS.iconst HH hx rfl (hb hby d_m_3_87) kk) ?_
        refine k_pure (g' := (mkF m 89 #[.val (.int x), .val (.int n)] [(.int x), (.int (1 : Int32)), (.ref a_178), (.ref a_178), (.ref a_167), (.ref a_167)])) (fun TT HH tt kk => XS.iloadN HH hx rfl (hb hby d_m_3_88) rfl kk) ?_
        refine k_pure (g' := (mkF m 90 #[.val (.int x), .val (.int n)] [(.int (1 : Int32)), (.int x), (.int (1 : Int32)), (.ref a_178), (.ref a_178), (.ref a_167), (.ref a_167)])) (fun TT HH tt kk => XS.iconst HH hx rfl (hb hby d_m_3_89) kk) ?_
        refine k_callS hx (y := (⟨"com/example/tideline/tideline/TableNameToStringPinLaw", "ch", "(II)C"⟩ : MethodName)) (hw _ (List.mem_of_getElem? (i := 9) rfl)) (hw _ (List.mem_of_getElem? (i := 10) rfl)) (hw _ (List.mem_of_getElem? (i := 3) rfl)) (hw _ (List.mem_of_getElem? (i := 11) rfl)) (by decide) (W := 5) (argsL := [(.int x), (.int (1 : Int32))]) (rest := [(.int (1 : Int32)), (.ref a_178), (.ref a_178), (.ref a_167), (.ref a_167)]) (Pays.of_met (rm_chc l Z a0 G1 G3 hX n0 bk h_197 O_198 x (1 : Int32)  []) (hw _ (List.mem_of_getElem? (i := 11) rfl)) (hw _ (List.mem_of_getElem? (i := 3) rfl)) (by decide) (by decide)) rfl (by rw [hml]; rfl) (lenOf pd__28_II_29_C rfl) rfl (by show 2 * 0 + _ ≤ _; exact Nat.le_of_eq rfl) (hb hby d_m_3_90) (by decide) (by decide) ?_
        intro v_203 h_204 bk_205 O_206 z_207 Q_208
        obtain ⟨rfl, rfl, rfl⟩ := Q_208
        show Run p l e _ s m _ below meth c Z EL1 _ n0 bk h_197 2 7 (mkF m 93 #[.val (.int x), .val (.int n)] [(.int (chv x (1 : Int32))), (.int (1 : Int32)), (.ref a_178), (.ref a_178), (.ref a_167), (.ref a_167)]) _
        refine k_stC hx V_202 ⟨by decide, by decide⟩ 1 (by decide) (Nat.le_of_ble_eq_true rfl) (by omega) nb_190 rfl rfl (hb hby d_m_3_93) ?_
        intro h_209 O_210 W_211 A_212
        have z_213 := W_211.size
        have V_214 : Arv Z h_209 a_178 k_180 .char (3 : Int32) [(.int (chv x (0 : Int32))), (.int (chv x (1 : Int32))), (.int (0 : Int32))] (.int (0 : Int32)) := by rw [(chd _ _).nr] at A_212; exact A_212
        show Run p l e _ s m _ below meth c Z EL1 _ n0 bk h_209 2 7 (mkF m 94 #[.val (.int x), .val (.int n)] [(.ref a_178), (.ref a_167), (.ref a_167)]) _
        refine k_pure (g' := (mkF m 95 #[.val (.int x), .val (.int n)] [(.ref a_178), (.ref a_178), (.ref a_167), (.ref a_167)])) (fun TT HH tt kk => XS.dup HH hx rfl (hb hby d_m_3_94) rfl rfl kk) ?_
        refine k_pure (g' := (mkF m 96 #[.val (.int x), .val (.int n)] [(.int (2 : Int32)), (.ref a_178), (.ref a_178), (.ref a_167), (.ref a_167)])) (fun TT HH tt kk => XS.iconst HH hx rfl (hb hby d_m_3_95) kk) ?_
        refine k_pure (g' := (mkF m 97 #[.val (.int x), .val (.int n)] [(.int x), (.int (2 : Int32)), (.ref a_178), (.ref a_178), (.ref a_167), (.ref a_167)])) (fun TT HH tt kk => XS.iloadN HH hx rfl (hb hby d_m_3_96) rfl kk) ?_
        refine k_pure (g' := (mkF m 98 #[.val (.int x), .val (.int n)] [(.int (2 : Int32)), (.int x), (.int (2 : Int32)), (.ref a_178), (.ref a_178), (.ref a_167), (.ref a_167)])) (fun TT HH tt kk => XS.iconst HH hx rfl (hb hby d_m_3_97) kk) ?_
        refine k_callS hx (y := (⟨"com/example/tideline/tideline/TableNameToStringPinLaw", "ch", "(II)C"⟩ : MethodName)) (hw _ (List.mem_of_getElem? (i := 9) rfl)) (hw _ (List.mem_of_getElem? (i := 10) rfl)) (hw _ (List.mem_of_getElem? (i := 3) rfl)) (hw _ (List.mem_of_getElem? (i := 11) rfl)) (by decide) (W := 5) (argsL := [(.int x), (.int (2 : Int32))]) (rest := [(.int (2 : Int32)), (.ref a_178), (.ref a_178), (.ref a_167), (.ref a_167)]) (Pays.of_met (rm_chc l Z a0 G1 G3 hX n0 bk h_209 O_210 x (2 : Int32)  []) (hw _ (List.mem_of_getElem? (i := 11) rfl)) (hw _ (List.mem_of_getElem? (i := 3) rfl)) (by decide) (by decide)) rfl (by rw [hml]; rfl) (lenOf pd__28_II_29_C rfl) rfl (by show 2 * 0 + _ ≤ _; exact Nat.le_of_eq rfl) (hb hby d_m_3_98) (by decide) (by decide) ?_
        intro v_215 h_216 bk_217 O_218 z_219 Q_220
        obtain ⟨rfl, rfl, rfl⟩ := Q_220
        show Run p l e _ s m _ below meth c Z EL1 _ n0 bk h_209 2 7 (mkF m 101 #[.val (.int x), .val (.int n)] [(.int (chv x (2 : Int32))), (.int (2 : Int32)), (.ref a_178), (.ref a_178), (.ref a_167), (.ref a_167)]) _
        refine k_stC hx V_214 ⟨by decide, by decide⟩ 2 (by decide) (Nat.le_of_ble_eq_true rfl) (by omega) nb_190 rfl rfl (hb hby d_m_3_101) ?_
        intro h_221 O_222 W_223 A_224
        have z_225 := W_223.size
        have V_226 : Arv Z h_221 a_178 k_180 .char (3 : Int32) [(.int (chv x (0 : Int32))), (.int (chv x (1 : Int32))), (.int (chv x (2 : Int32)))] (.int (0 : Int32)) := by rw [(chd _ _).nr] at A_224; exact A_224
        show Run p l e _ s m _ below meth c Z EL1 _ n0 bk h_221 2 7 (mkF m 102 #[.val (.int x), .val (.int n)] [(.ref a_178), (.ref a_167), (.ref a_167)]) _
        have F_227 : Exa Z h_221 a_167 "java/lang/String" := ((((A_171.ext E_183).wr W_199).wr W_211).wr W_223)
        have F_228 : Fld Z h_221 a_167 "java/lang/String" "value" "[B" .null := (((((D_172 (Or.inr (hw _ (List.mem_of_getElem? (i := 37) rfl))) (ty := (.array .byte)) (by decide)).ext E_183).other W_199 (Or.inl (ne_ad (by omega)))).other W_211 (Or.inl (ne_ad (by omega)))).other W_223 (Or.inl (ne_ad (by omega))))
        have F_229 : Fld Z h_221 a_167 "java/lang/String" "coder" "B" (.int (0 : Int32)) := (((((D_172 (Or.inr (hw _ (List.mem_of_getElem? (i := 35) rfl))) (ty := .byte) (by decide)).ext E_183).other W_199 (Or.inl (ne_ad (by omega)))).other W_211 (Or.inl (ne_ad (by omega)))).other W_223 (Or.inl (ne_ad (by omega))))
        refine k_callI hx (y := (⟨"java/lang/String", "<init>", "([C)V"⟩ : MethodName)) rfl (hw _ (List.mem_of_getElem? (i := 12) rfl)) (hw _ (List.mem_of_getElem? (i := 13) rfl)) (hw _ (List.mem_of_getElem? (i := 14) rfl)) (by decide) (W := 1) (a := a_167) (argsL := [(.ref a_178)]) (rest := [(.ref a_167)]) (pay_new (W := 1) hX O_222 nb_177 (cs := [(chv x (0 : Int32)), (chv x (1 : Int32)), (chv x (2 : Int32))]) F_227 F_228 F_229 V_226 3 rfl rfl (by decide) (by decide) (gd3 (chd _ _) (chd _ _) (chd _ _)) (by omega) (by decide) (by decide)) rfl (by rw [hml]; rfl) (lenOf pd__28__5b_C_29_V rfl) rfl (by show 2 * 0 + _ ≤ _; exact Nat.le_of_eq rfl) (hb hby d_m_3_102) (by decide) (by decide) ?_
        intro v_230 h_231 bk_232 O_233 z_234 Q_235
        obtain ⟨rfl, rfl, K_236, a_237, k_238, ge_239, ge_240, S_241⟩ := Q_235
        have lt_242 : @LT.lt Nat _ a_167 (Array.size h_231) := S_241.lt1
        have lt_243 : @LT.lt Nat _ a_237 (Array.size h_231) := S_241.lt2
        show Run p l e _ s m _ below meth c Z EL1 _ n0 bk h_231 3 10 (mkF m 105 #[.val (.int x), .val (.int n)] [(.ref a_167)]) _
        exact k_retA hx hlk hret rfl rfl rfl (hb hby d_m_3_105) (by decide) (by decide) ⟨a_167, a_237, k_238, rfl, (fun y q => Or.inl q), (((((((Keep.refl _ _).ext E_170).ext E_183).wr W_199 (Or.inr (by omega))).wr W_211 (Or.inr (by omega))).wr W_223 (Or.inr (by omega))).trans K_236 (kkS (Or.inr (by omega)) kk0)), (tx.t3 c_1 c_47 c_101) ▸ S_241⟩
def Q_coder (Z : State) (G1 : Int32) (G3 : Value) (a : Addr) (t : Addr) (kb : ClassId) (cs : List Int32) (h0 : Heap) (n0 : Nat) (bk : Addr → Prop) (v : Option Value) (h : Heap) (bk' : Addr → Prop) : Prop := v = some (.int (0 : Int32)) ∧ h0 = h ∧ bk = bk'
theorem d_jdk_42_m_152_0 : decode jdk_42_method_152_code 0 = .ok (.getstatic 38, 3) := by decide +kernel
theorem d_jdk_42_m_152_3 : decode jdk_42_method_152_code 3 = .ok (.ifCond .eq 10, 3) := by decide +kernel
theorem d_jdk_42_m_152_6 : decode jdk_42_method_152_code 6 = .ok (.aload_n 0, 1) := by decide +kernel
theorem d_jdk_42_m_152_7 : decode jdk_42_method_152_code 7 = .ok (.getfield 15, 3) := by decide +kernel
theorem d_jdk_42_m_152_10 : decode jdk_42_method_152_code 10 = .ok (.goto 4, 3) := by decide +kernel
theorem d_jdk_42_m_152_14 : decode jdk_42_method_152_code 14 = .ok (.ireturn, 1) := by decide +kernel
abbrev RM_coder : Room := { frames := 0, cells := 0, slots := 0, locals := 0 }
theorem ef_coder (m : MethodId) (x0 : Addr) : entryFrame m #[(.ref x0)] 1 = mkF m 0 #[.val (.ref x0)] [] := by first | (simp [entryFrame, mkF, argsToLocals, Value.category]; done) | rfl
set_option maxRecDepth 65536 in
set_option maxHeartbeats 40000000 in
theorem rm_coder (l : Launch) (Z : State) (a0 : Array Value) (G1 : Int32) (G3 : Value) (hX : Ctx Z a0 G1 G3) (n0 : Nat) (bk : Addr → Prop) (h0 : Heap) (O0 : Old Z n0 h0) (a : Addr) (t : Addr) (kb : ClassId) (cs : List Int32) (pf_0 : StrL Z h0 a t kb cs) (ws : List Jvm.Cond) : Met l Z EL1 n0 bk (⟨"java/lang/String", "coder", "()B"⟩ : MethodName) jdk_42_method_152_code 1 (Option.some FieldType.byte) RM_coder #[(.ref a)] h0 (Q_coder Z G1 G3 a t kb cs h0 n0 bk) ws := by
  have hX' := hX
  obtain ⟨hw, hE, S1, P1, S3, P3⟩ := hX'
  have hSA := sa_of hw
  have z0 : n0 ≤ h0.size := by rw [← O0.1]; exact O0.2.1
  refine Met.of (by decide +kernel) O0 hE ?_
  intro p e s m below meth c hx hby hml hret hlk hnm
  refine k_cast (ef_coder m a) ?_
  show Run p l e _ s m _ below meth c Z EL1 _ n0 bk h0 0 0 (mkF m 0 #[.val (.ref a)] []) _
  have lt_1 : @LT.lt Nat _ a (Array.size h0) := pf_0.lt1
  have lt_2 : @LT.lt Nat _ t (Array.size h0) := pf_0.lt2
  refine k_getS hx (host := "") (Or.inl (hw _ (List.mem_of_getElem? (i := 22) rfl))) Via.refl (S1.ext O0.2) rfl (hb hby d_jdk_42_m_152_0) ?_
  show Run p l e _ s m _ below meth c Z EL1 _ n0 bk h0 0 0 (mkF m 3 #[.val (.ref a)] [(.int G1)]) _
  refine k_pure (g' := (mkF m 6 #[.val (.ref a)] [])) (fun TT HH tt kk => XS.ifNo HH hx rfl (hb hby d_jdk_42_m_152_3) rfl ((if0 _ _).trans (feq P1).1) kk) ?_
  refine k_pure (g' := (mkF m 7 #[.val (.ref a)] [(.ref a)])) (fun TT HH tt kk => XS.aloadN HH hx rfl (hb hby d_jdk_42_m_152_6) rfl rfl kk) ?_
  refine k_getF hx (host := "") (Or.inl (hw _ (List.mem_of_getElem? (i := 34) rfl))) Via.refl pf_0.2.1 rfl rfl (hb hby d_jdk_42_m_152_7) ?_
  show Run p l e _ s m _ below meth c Z EL1 _ n0 bk h0 0 0 (mkF m 10 #[.val (.ref a)] [(.int (0 : Int32))]) _
  refine k_pure (g' := (mkF m 14 #[.val (.ref a)] [(.int (0 : Int32))])) (fun TT HH tt kk => XS.goto HH hx rfl (pc0 := 10) (pc' := 14) rfl (hb hby d_jdk_42_m_152_10) (by decide) (by decide) kk) ?_
  exact k_retN hx hlk hret (by simp) (hb hby d_jdk_42_m_152_14) (by decide) (by decide) ⟨rfl, rfl, rfl⟩
def Q_min0 (Z : State) (G1 : Int32) (G3 : Value) (u : Int32) (w : Int32) (h0 : Heap) (n0 : Nat) (bk : Addr → Prop) (v : Option Value) (h : Heap) (bk' : Addr → Prop) : Prop := v = some (.int u) ∧ h0 = h ∧ bk = bk'
theorem d_jdk_29_m_69_0 : decode jdk_29_method_69_code 0 = .ok (.iload_n 0, 1) := by decide +kernel
theorem d_jdk_29_m_69_1 : decode jdk_29_method_69_code 1 = .ok (.iload_n 1, 1) := by decide +kernel
theorem d_jdk_29_m_69_2 : decode jdk_29_method_69_code 2 = .ok (.if_icmp .gt 7, 3) := by decide +kernel
theorem d_jdk_29_m_69_5 : decode jdk_29_method_69_code 5 = .ok (.iload_n 0, 1) := by decide +kernel
theorem d_jdk_29_m_69_6 : decode jdk_29_method_69_code 6 = .ok (.goto 4, 3) := by decide +kernel
theorem d_jdk_29_m_69_10 : decode jdk_29_method_69_code 10 = .ok (.ireturn, 1) := by decide +kernel
abbrev RM_min0 : Room := { frames := 0, cells := 0, slots := 0, locals := 0 }
theorem ef_min0 (m : MethodId) (x0 : Int32) (x1 : Int32) : entryFrame m #[(.int x0), (.int x1)] 2 = mkF m 0 #[.val (.int x0), .val (.int x1)] [] := by first | (simp [entryFrame, mkF, argsToLocals, Value.category]; done) | rfl
set_option maxRecDepth 65536 in
set_option maxHeartbeats 40000000 in
theorem rm_min0 (l : Launch) (Z : State) (a0 : Array Value) (G1 : Int32) (G3 : Value) (hX : Ctx Z a0 G1 G3) (n0 : Nat) (bk : Addr → Prop) (h0 : Heap) (O0 : Old Z n0 h0) (u : Int32) (w : Int32) (h : ¬ w < u) (ws : List Jvm.Cond) : Met l Z EL1 n0 bk (⟨"java/lang/Math", "min", "(II)I"⟩ : MethodName) jdk_29_method_69_code 2 (Option.some FieldType.int) RM_min0 #[(.int u), (.int w)] h0 (Q_min0 Z G1 G3 u w h0 n0 bk) ws := by
  have hX' := hX
  obtain ⟨hw, hE, S1, P1, S3, P3⟩ := hX'
  have hSA := sa_of hw
  have z0 : n0 ≤ h0.size := by rw [← O0.1]; exact O0.2.1
  refine Met.of (by decide +kernel) O0 hE ?_
  intro p e s m below meth c hx hby hml hret hlk hnm
  refine k_cast (ef_min0 m u w) ?_
  show Run p l e _ s m _ below meth c Z EL1 _ n0 bk h0 0 0 (mkF m 0 #[.val (.int u), .val (.int w)] []) _
  refine k_pure (g' := (mkF m 1 #[.val (.int u), .val (.int w)] [(.int u)])) (fun TT HH tt kk => XS.iloadN HH hx rfl (hb hby d_jdk_29_m_69_0) rfl kk) ?_
  refine k_pure (g' := (mkF m 2 #[.val (.int u), .val (.int w)] [(.int w), (.int u)])) (fun TT HH tt kk => XS.iloadN HH hx rfl (hb hby d_jdk_29_m_69_1) rfl kk) ?_
  refine k_pure (g' := (mkF m 5 #[.val (.int u), .val (.int w)] [])) (fun TT HH tt kk => XS.icmpNo HH hx rfl (hb hby d_jdk_29_m_69_2) rfl (flt h).2.2.1 kk) ?_
  refine k_pure (g' := (mkF m 6 #[.val (.int u), .val (.int w)] [(.int u)])) (fun TT HH tt kk => XS.iloadN HH hx rfl (hb hby d_jdk_29_m_69_5) rfl kk) ?_
  refine k_pure (g' := (mkF m 10 #[.val (.int u), .val (.int w)] [(.int u)])) (fun TT HH tt kk => XS.goto HH hx rfl (pc0 := 6) (pc' := 10) rfl (hb hby d_jdk_29_m_69_6) (by decide) (by decide) kk) ?_
  exact k_retI hx hlk hret (hb hby d_jdk_29_m_69_10) (by decide) (by decide) ⟨rfl, rfl, rfl⟩
def Q_min1 (Z : State) (G1 : Int32) (G3 : Value) (u : Int32) (w : Int32) (h0 : Heap) (n0 : Nat) (bk : Addr → Prop) (v : Option Value) (h : Heap) (bk' : Addr → Prop) : Prop := v = some (.int w) ∧ h0 = h ∧ bk = bk'
theorem d_jdk_29_m_69_9 : decode jdk_29_method_69_code 9 = .ok (.iload_n 1, 1) := by decide +kernel
abbrev RM_min1 : Room := { frames := 0, cells := 0, slots := 0, locals := 0 }
theorem ef_min1 (m : MethodId) (x0 : Int32) (x1 : Int32) : entryFrame m #[(.int x0), (.int x1)] 2 = mkF m 0 #[.val (.int x0), .val (.int x1)] [] := by first | (simp [entryFrame, mkF, argsToLocals, Value.category]; done) | rfl
set_option maxRecDepth 65536 in
set_option maxHeartbeats 40000000 in
theorem rm_min1 (l : Launch) (Z : State) (a0 : Array Value) (G1 : Int32) (G3 : Value) (hX : Ctx Z a0 G1 G3) (n0 : Nat) (bk : Addr → Prop) (h0 : Heap) (O0 : Old Z n0 h0) (u : Int32) (w : Int32) (h : w < u) (ws : List Jvm.Cond) : Met l Z EL1 n0 bk (⟨"java/lang/Math", "min", "(II)I"⟩ : MethodName) jdk_29_method_69_code 2 (Option.some FieldType.int) RM_min1 #[(.int u), (.int w)] h0 (Q_min1 Z G1 G3 u w h0 n0 bk) ws := by
  have hX' := hX
  obtain ⟨hw, hE, S1, P1, S3, P3⟩ := hX'
  have hSA := sa_of hw
  have z0 : n0 ≤ h0.size := by rw [← O0.1]; exact O0.2.1
  refine Met.of (by decide +kernel) O0 hE ?_
  intro p e s m below meth c hx hby hml hret hlk hnm
  refine k_cast (ef_min1 m u w) ?_
  show Run p l e _ s m _ below meth c Z EL1 _ n0 bk h0 0 0 (mkF m 0 #[.val (.int u), .val (.int w)] []) _
  refine k_pure (g' := (mkF m 1 #[.val (.int u), .val (.int w)] [(.int u)])) (fun TT HH tt kk => XS.iloadN HH hx rfl (hb hby d_jdk_29_m_69_0) rfl kk) ?_
  refine k_pure (g' := (mkF m 2 #[.val (.int u), .val (.int w)] [(.int w), (.int u)])) (fun TT HH tt kk => XS.iloadN HH hx rfl (hb hby d_jdk_29_m_69_1) rfl kk) ?_
  refine k_pure (g' := (mkF m 9 #[.val (.int u), .val (.int w)] [])) (fun TT HH tt kk => XS.icmpYes HH hx rfl (pc0 := 2) (pc' := 9) rfl (hb hby d_jdk_29_m_69_2) rfl (tlt h).2.2.1 (by decide) (by decide) kk) ?_
  refine k_pure (g' := (mkF m 10 #[.val (.int u), .val (.int w)] [(.int w)])) (fun TT HH tt kk => XS.iloadN HH hx rfl (hb hby d_jdk_29_m_69_9) rfl kk) ?_
  exact k_retI hx hlk hret (hb hby d_jdk_29_m_69_10) (by decide) (by decide) ⟨rfl, rfl, rfl⟩
def Q_asi (Z : State) (G1 : Int32) (G3 : Value) (a : Addr) (h0 : Heap) (n0 : Nat) (bk : Addr → Prop) (v : Option Value) (h : Heap) (bk' : Addr → Prop) : Prop := ∃ (t : Addr), ∃ (kb : ClassId), v = none ∧ bk = bk' ∧ Keep h0 h [a] ∧ (SbL Z h a t kb 16 ([] : List Int32)) ∧ (@LE.le Nat _ (Array.size h0) t) ∧ (¬ bk' t)
theorem d_jdk_68_m_2_0 : decode jdk_68_method_2_code 0 = .ok (.aload_n 0, 1) := by decide +kernel
theorem d_jdk_68_m_2_1 : decode jdk_68_method_2_code 1 = .ok (.invokespecial 3, 3) := by decide +kernel
theorem d_jdk_68_m_2_4 : decode jdk_68_method_2_code 4 = .ok (.getstatic 18, 3) := by decide +kernel
theorem d_jdk_68_m_2_7 : decode jdk_68_method_2_code 7 = .ok (.ifCond .eq 18, 3) := by decide +kernel
theorem d_jdk_68_m_2_10 : decode jdk_68_method_2_code 10 = .ok (.aload_n 0, 1) := by decide +kernel
theorem d_jdk_68_m_2_11 : decode jdk_68_method_2_code 11 = .ok (.iload_n 1, 1) := by decide +kernel
theorem d_jdk_68_m_2_12 : decode jdk_68_method_2_code 12 = .ok (.newarray .byte, 2) := by decide +kernel
theorem d_jdk_68_m_2_14 : decode jdk_68_method_2_code 14 = .ok (.putfield 15, 3) := by decide +kernel
theorem d_jdk_68_m_2_17 : decode jdk_68_method_2_code 17 = .ok (.aload_n 0, 1) := by decide +kernel
theorem d_jdk_68_m_2_18 : decode jdk_68_method_2_code 18 = .ok (.iconst 0, 1) := by decide +kernel
theorem d_jdk_68_m_2_19 : decode jdk_68_method_2_code 19 = .ok (.putfield 22, 3) := by decide +kernel
theorem d_jdk_68_m_2_22 : decode jdk_68_method_2_code 22 = .ok (.goto 16, 3) := by decide +kernel
theorem d_jdk_68_m_2_38 : decode jdk_68_method_2_code 38 = .ok (.return_, 1) := by decide +kernel
abbrev RM_asi : Room := { frames := 1, cells := 1, slots := 16, locals := 12 }
theorem ef_asi (m : MethodId) (x0 : Addr) (x1 : Int32) : entryFrame m #[(.ref x0), (.int x1)] 2 = mkF m 0 #[.val (.ref x0), .val (.int x1)] [] := by first | (simp [entryFrame, mkF, argsToLocals, Value.category]; done) | rfl
set_option maxRecDepth 65536 in
set_option maxHeartbeats 40000000 in
theorem rm_asi (l : Launch) (Z : State) (a0 : Array Value) (G1 : Int32) (G3 : Value) (hX : Ctx Z a0 G1 G3) (n0 : Nat) (bk : Addr → Prop) (h0 : Heap) (O0 : Old Z n0 h0) (a : Addr) (pf_0 : Exa Z h0 a "java/lang/StringBuilder") (pf_1 : Fld Z h0 a "java/lang/AbstractStringBuilder" "value" "[B" .null) (pf_2 : Fld Z h0 a "java/lang/AbstractStringBuilder" "coder" "B" (.int (0 : Int32))) (pf_3 : Fld Z h0 a "java/lang/AbstractStringBuilder" "count" "I" (.int (0 : Int32))) (hbl : ∀ y, bk y → @LT.lt Nat _ y (Array.size h0)) (nba : ¬ bk a) (ga : n0 ≤ a) (ws : List Jvm.Cond) : Met l Z EL1 n0 bk (⟨"java/lang/AbstractStringBuilder", "<init>", "(I)V"⟩ : MethodName) jdk_68_method_2_code 2 (Option.none : Option FieldType) RM_asi #[(.ref a), (.int (16 : Int32))] h0 (Q_asi Z G1 G3 a h0 n0 bk) ws := by
  have hX' := hX
  obtain ⟨hw, hE, S1, P1, S3, P3⟩ := hX'
  have hSA := sa_of hw
  have z0 : n0 ≤ h0.size := by rw [← O0.1]; exact O0.2.1
  refine Met.of (by decide +kernel) O0 hE ?_
  intro p e s m below meth c hx hby hml hret hlk hnm
  refine k_cast (ef_asi m a (16 : Int32)) ?_
  show Run p l e _ s m _ below meth c Z EL1 _ n0 bk h0 0 0 (mkF m 0 #[.val (.ref a), .val (.int (16 : Int32))] []) _
  have lt_1 : @LT.lt Nat _ a (Array.size h0) := pf_0.lt
  have lt_2 : @LT.lt Nat _ a (Array.size h0) := pf_1.lt
  have lt_3 : @LT.lt Nat _ a (Array.size h0) := pf_2.lt
  have lt_4 : @LT.lt Nat _ a (Array.size h0) := pf_3.lt
  refine k_pure (g' := (mkF m 1 #[.val (.ref a), .val (.int (16 : Int32))] [(.ref a)])) (fun TT HH tt kk => XS.aloadN HH hx rfl (hb hby d_jdk_68_m_2_0) rfl rfl kk) ?_
  refine k_initO hx (hw _ (List.mem_of_getElem? (i := 71) rfl)) (hw _ (List.mem_of_getElem? (i := 20) rfl)) (hw _ (List.mem_of_getElem? (i := 21) rfl)) rfl (by rw [hml]; rfl) rfl (hb hby d_jdk_68_m_2_1) (by decide) (W := 0) (by show 2 * 0 + _ ≤ _; exact Nat.le_of_eq rfl) (by decide) ?_
  show Run p l e _ s m _ below meth c Z EL1 _ n0 bk h0 0 0 (mkF m 4 #[.val (.ref a), .val (.int (16 : Int32))] []) _
  refine k_getS hx (host := "") (Or.inl (hw _ (List.mem_of_getElem? (i := 72) rfl))) Via.refl (S1.ext O0.2) rfl (hb hby d_jdk_68_m_2_4) ?_
  show Run p l e _ s m _ below meth c Z EL1 _ n0 bk h0 0 0 (mkF m 7 #[.val (.ref a), .val (.int (16 : Int32))] [(.int G1)]) _
  refine k_pure (g' := (mkF m 10 #[.val (.ref a), .val (.int (16 : Int32))] [])) (fun TT HH tt kk => XS.ifNo HH hx rfl (hb hby d_jdk_68_m_2_7) rfl ((if0 _ _).trans (feq P1).1) kk) ?_
  refine k_pure (g' := (mkF m 11 #[.val (.ref a), .val (.int (16 : Int32))] [(.ref a)])) (fun TT HH tt kk => XS.aloadN HH hx rfl (hb hby d_jdk_68_m_2_10) rfl rfl kk) ?_
  refine k_pure (g' := (mkF m 12 #[.val (.ref a), .val (.int (16 : Int32))] [(.int (16 : Int32)), (.ref a)])) (fun TT HH tt kk => XS.iloadN HH hx rfl (hb hby d_jdk_68_m_2_11) rfl kk) ?_
  refine k_newP hx (hw _ (List.mem_of_getElem? (i := 27) rfl)) rfl (hb hby d_jdk_68_m_2_12) rfl (by decide) (cap := 16) (by decide) (by decide) (by decide) (by decide) "[B" (by decide +kernel) ?_
  intro h_6 a_5 k_7 g_8 O_9 E_10 A_11 X_12
  have z_13 := E_10.1
  have lt_14 : @LT.lt Nat _ a_5 (Array.size h_6) := A_11.lt
  have nb_15 : ¬ bk a_5 := fun q => Nat.not_le_of_lt (hbl _ q) (show @LE.le Nat _ (Array.size h0) a_5 by omega)
  show Run p l e _ s m _ below meth c Z EL1 _ n0 bk h_6 1 16 (mkF m 14 #[.val (.ref a), .val (.int (16 : Int32))] [(.ref a_5), (.ref a)]) _
  have F_16 : Fld Z h_6 a "java/lang/AbstractStringBuilder" "value" "[B" .null := (pf_1.ext E_10)
  have F_17 : Exa Z h_6 a "java/lang/StringBuilder" := (pf_0.ext E_10)
  refine k_putF hx (host := "") (Or.inl (hw _ (List.mem_of_getElem? (i := 73) rfl))) Via.refl F_16 F_17 (Or.inl (hw _ (List.mem_of_getElem? (i := 74) rfl))) (hw _ (List.mem_of_getElem? (i := 60) rfl)) (ty := (.array .byte)) (by decide) rfl rfl (by omega) nba rfl rfl (hb hby d_jdk_68_m_2_14) ?_
  intro h_18 O_20 W_19
  have z_21 := W_19.size
  show Run p l e _ s m _ below meth c Z EL1 _ n0 bk h_18 1 16 (mkF m 17 #[.val (.ref a), .val (.int (16 : Int32))] []) _
  refine k_pure (g' := (mkF m 18 #[.val (.ref a), .val (.int (16 : Int32))] [(.ref a)])) (fun TT HH tt kk => XS.aloadN HH hx rfl (hb hby d_jdk_68_m_2_17) rfl rfl kk) ?_
  refine k_pure (g' := (mkF m 19 #[.val (.ref a), .val (.int (16 : Int32))] [(.int (0 : Int32)), (.ref a)])) (fun TT HH tt kk => XS.iconst HH hx rfl (hb hby d_jdk_68_m_2_18) kk) ?_
  have F_22 : Fld Z h_18 a "java/lang/AbstractStringBuilder" "coder" "B" (.int (0 : Int32)) := ((pf_2.ext E_10).other W_19 (Or.inr (RoadKit.slot_ne (C := "java/lang/StringBuilder") (Or.inl (hw _ (List.mem_of_getElem? (i := 76) rfl))) (Or.inl (hw _ (List.mem_of_getElem? (i := 74) rfl))) (by decide) (t := .byte) (t' := (.array .byte)) (by decide) (by decide))))
  have F_23 : Exa Z h_18 a "java/lang/StringBuilder" := (F_17.wr W_19)
  refine k_putF hx (host := "") (Or.inl (hw _ (List.mem_of_getElem? (i := 75) rfl))) Via.refl F_22 F_23 (Or.inl (hw _ (List.mem_of_getElem? (i := 76) rfl))) (hw _ (List.mem_of_getElem? (i := 60) rfl)) (ty := .byte) (by decide) rfl rfl (by omega) nba rfl rfl (hb hby d_jdk_68_m_2_19) ?_
  intro h_24 O_26 W_25
  have z_27 := W_25.size
  show Run p l e _ s m _ below meth c Z EL1 _ n0 bk h_24 1 16 (mkF m 22 #[.val (.ref a), .val (.int (16 : Int32))] []) _
  refine k_pure (g' := (mkF m 38 #[.val (.ref a), .val (.int (16 : Int32))] [])) (fun TT HH tt kk => XS.goto HH hx rfl (pc0 := 22) (pc' := 38) rfl (hb hby d_jdk_68_m_2_22) (by decide) (by decide) kk) ?_
  have F_28 : Exa Z h_24 a "java/lang/StringBuilder" := (F_23.wr W_25)
  have F_29 : Fld Z h_24 a "java/lang/AbstractStringBuilder" "value" "[B" (.ref a_5) := ((F_16.same W_19).other W_25 (Or.inr (RoadKit.slot_ne (C := "java/lang/StringBuilder") (Or.inl (hw _ (List.mem_of_getElem? (i := 74) rfl))) (Or.inl (hw _ (List.mem_of_getElem? (i := 76) rfl))) (by decide) (t := (.array .byte)) (t' := .byte) (by decide) (by decide))))
  have F_30 : Fld Z h_24 a "java/lang/AbstractStringBuilder" "count" "I" (.int (0 : Int32)) := (((pf_3.ext E_10).other W_19 (Or.inr (RoadKit.slot_ne (C := "java/lang/StringBuilder") (Or.inl (hw _ (List.mem_of_getElem? (i := 98) rfl))) (Or.inl (hw _ (List.mem_of_getElem? (i := 74) rfl))) (by decide) (t := .int) (t' := (.array .byte)) (by decide) (by decide)))).other W_25 (Or.inr (RoadKit.slot_ne (C := "java/lang/StringBuilder") (Or.inl (hw _ (List.mem_of_getElem? (i := 98) rfl))) (Or.inl (hw _ (List.mem_of_getElem? (i := 76) rfl))) (by decide) (t := .int) (t' := .byte) (by decide) (by decide))))
  have F_31 : Arv Z h_24 a_5 k_7 .byte (16 : Int32) [] (.int (0 : Int32)) := ((A_11.other W_19 (ne_ad (by omega))).other W_25 (ne_ad (by omega)))
  exact k_ret0 hx hlk hret (hb hby d_jdk_68_m_2_38) (by decide) (by decide) ⟨a_5, k_7, rfl, rfl, ((((Keep.refl _ _).ext E_10).wr W_19 (Or.inl (by simp))).wr W_25 (Or.inl (by simp))), ⟨F_28, (F_22.same W_25), F_29, F_30, F_31, (fun _ q => nomatch q), by decide, by decide, (show @Ne Nat _ _ by omega)⟩, (by omega), nb_15⟩
def Q_sbi (Z : State) (G1 : Int32) (G3 : Value) (a : Addr) (h0 : Heap) (n0 : Nat) (bk : Addr → Prop) (v : Option Value) (h : Heap) (bk' : Addr → Prop) : Prop := ∃ (t : Addr), ∃ (kb : ClassId), v = none ∧ bk = bk' ∧ Keep h0 h [a] ∧ (SbL Z h a t kb 16 ([] : List Int32)) ∧ (@LE.le Nat _ (Array.size h0) t) ∧ (¬ bk' t)
theorem d_jdk_67_m_1_0 : decode jdk_67_method_1_code 0 = .ok (.aload_n 0, 1) := by decide +kernel
theorem d_jdk_67_m_1_1 : decode jdk_67_method_1_code 1 = .ok (.bipush 16, 2) := by decide +kernel
theorem d_jdk_67_m_1_3 : decode jdk_67_method_1_code 3 = .ok (.invokespecial 1, 3) := by decide +kernel
theorem pd__28_I_29_V : parseMethodDescriptor "(I)V" = some ⟨[.int], none⟩ := by decide +kernel
theorem d_jdk_67_m_1_6 : decode jdk_67_method_1_code 6 = .ok (.return_, 1) := by decide +kernel
abbrev RM_sbi : Room := { frames := 2, cells := 1, slots := 16, locals := 25 }
theorem ef_sbi (m : MethodId) (x0 : Addr) : entryFrame m #[(.ref x0)] 1 = mkF m 0 #[.val (.ref x0)] [] := by first | (simp [entryFrame, mkF, argsToLocals, Value.category]; done) | rfl
set_option maxRecDepth 65536 in
set_option maxHeartbeats 40000000 in
theorem rm_sbi (l : Launch) (Z : State) (a0 : Array Value) (G1 : Int32) (G3 : Value) (hX : Ctx Z a0 G1 G3) (n0 : Nat) (bk : Addr → Prop) (h0 : Heap) (O0 : Old Z n0 h0) (a : Addr) (pf_0 : Exa Z h0 a "java/lang/StringBuilder") (pf_1 : Fld Z h0 a "java/lang/AbstractStringBuilder" "value" "[B" .null) (pf_2 : Fld Z h0 a "java/lang/AbstractStringBuilder" "coder" "B" (.int (0 : Int32))) (pf_3 : Fld Z h0 a "java/lang/AbstractStringBuilder" "count" "I" (.int (0 : Int32))) (hbl : ∀ y, bk y → @LT.lt Nat _ y (Array.size h0)) (nba : ¬ bk a) (ga : n0 ≤ a) (ws : List Jvm.Cond) : Met l Z EL1 n0 bk (⟨"java/lang/StringBuilder", "<init>", "()V"⟩ : MethodName) jdk_67_method_1_code 1 (Option.none : Option FieldType) RM_sbi #[(.ref a)] h0 (Q_sbi Z G1 G3 a h0 n0 bk) ws := by
  have hX' := hX
  obtain ⟨hw, hE, S1, P1, S3, P3⟩ := hX'
  have hSA := sa_of hw
  have z0 : n0 ≤ h0.size := by rw [← O0.1]; exact O0.2.1
  refine Met.of (by decide +kernel) O0 hE ?_
  intro p e s m below meth c hx hby hml hret hlk hnm
  refine k_cast (ef_sbi m a) ?_
  show Run p l e _ s m _ below meth c Z EL1 _ n0 bk h0 0 0 (mkF m 0 #[.val (.ref a)] []) _
  have lt_1 : @LT.lt Nat _ a (Array.size h0) := pf_0.lt
  have lt_2 : @LT.lt Nat _ a (Array.size h0) := pf_1.lt
  have lt_3 : @LT.lt Nat _ a (Array.size h0) := pf_2.lt
  have lt_4 : @LT.lt Nat _ a (Array.size h0) := pf_3.lt
  refine k_pure (g' := (mkF m 1 #[.val (.ref a)] [(.ref a)])) (fun TT HH tt kk => XS.aloadN HH hx rfl (hb hby d_jdk_67_m_1_0) rfl rfl kk) ?_
  refine k_pure (g' := (mkF m 3 #[.val (.ref a)] [(.int (16 : Int32)), (.ref a)])) (fun TT HH tt kk => XS.bipush HH hx rfl (hb hby d_jdk_67_m_1_1) kk) ?_
  refine k_callI hx (y := (⟨"java/lang/AbstractStringBuilder", "<init>", "(I)V"⟩ : MethodName)) rfl (hw _ (List.mem_of_getElem? (i := 65) rfl)) (hw _ (List.mem_of_getElem? (i := 66) rfl)) (hw _ (List.mem_of_getElem? (i := 70) rfl)) (by decide) (W := 0) (a := a) (argsL := [(.int (16 : Int32))]) (rest := []) (Pays.of_met (rm_asi l Z a0 G1 G3 hX n0 bk h0 O0 a pf_0 pf_1 pf_2 pf_3 hbl nba (by omega) []) (hw _ (List.mem_of_getElem? (i := 70) rfl)) (hw _ (List.mem_of_getElem? (i := 69) rfl)) (by decide) (by decide)) rfl (by rw [hml]; rfl) (lenOf pd__28_I_29_V rfl) rfl (by show 2 * 0 + _ ≤ _; exact Nat.le_of_eq rfl) (hb hby d_jdk_67_m_1_3) (by decide) (by decide) ?_
  intro v_5 h_6 bk_7 O_8 z_9 Q_10
  obtain ⟨a_11, k_12, rfl, rfl, K_13, F_14, P_15, P_16⟩ := Q_10
  have ne_17 : @Ne Nat a a_11 := F_14.2.2.2.2.2.2.2.2
  have lt_18 : @LT.lt Nat _ a (Array.size h_6) := F_14.lt1
  have lt_19 : @LT.lt Nat _ a_11 (Array.size h_6) := F_14.lt2
  show Run p l e _ s m _ below meth c Z EL1 _ n0 bk h_6 1 16 (mkF m 6 #[.val (.ref a)] []) _
  exact k_ret0 hx hlk hret (hb hby d_jdk_67_m_1_6) (by decide) (by decide) ⟨a_11, k_12, rfl, rfl, ((Keep.refl _ _).trans K_13 (kkS (Or.inl (by simp)) kk0)), F_14, (by omega), P_16⟩
def Q_eci (Z : State) (G1 : Int32) (G3 : Value) (a : Addr) (t : Addr) (kb : ClassId) (N : Nat) (cs : List Int32) (k : Nat) (h0 : Heap) (n0 : Nat) (bk : Addr → Prop) (v : Option Value) (h : Heap) (bk' : Addr → Prop) : Prop := v = none ∧ h0 = h ∧ bk = bk'
theorem d_jdk_68_m_9_0 : decode jdk_68_method_9_code 0 = .ok (.aload_n 0, 1) := by decide +kernel
theorem d_jdk_68_m_9_1 : decode jdk_68_method_9_code 1 = .ok (.getfield 15, 3) := by decide +kernel
theorem d_jdk_68_m_9_4 : decode jdk_68_method_9_code 4 = .ok (.arraylength, 1) := by decide +kernel
theorem d_jdk_68_m_9_5 : decode jdk_68_method_9_code 5 = .ok (.aload_n 0, 1) := by decide +kernel
theorem d_jdk_68_m_9_6 : decode jdk_68_method_9_code 6 = .ok (.getfield 22, 3) := by decide +kernel
theorem d_jdk_68_m_9_9 : decode jdk_68_method_9_code 9 = .ok (.ishr, 1) := by decide +kernel
theorem d_jdk_68_m_9_10 : decode jdk_68_method_9_code 10 = .ok (.istore_n 2, 1) := by decide +kernel
theorem d_jdk_68_m_9_11 : decode jdk_68_method_9_code 11 = .ok (.iload_n 1, 1) := by decide +kernel
theorem d_jdk_68_m_9_12 : decode jdk_68_method_9_code 12 = .ok (.iload_n 2, 1) := by decide +kernel
theorem d_jdk_68_m_9_13 : decode jdk_68_method_9_code 13 = .ok (.isub, 1) := by decide +kernel
theorem d_jdk_68_m_9_14 : decode jdk_68_method_9_code 14 = .ok (.ifCond .le 24, 3) := by decide +kernel
theorem d_jdk_68_m_9_38 : decode jdk_68_method_9_code 38 = .ok (.return_, 1) := by decide +kernel
abbrev RM_eci : Room := { frames := 0, cells := 0, slots := 0, locals := 0 }
theorem ef_eci (m : MethodId) (x0 : Addr) (x1 : Int32) : entryFrame m #[(.ref x0), (.int x1)] 3 = mkF m 0 #[.val (.ref x0), .val (.int x1), .unset] [] := by first | (simp [entryFrame, mkF, argsToLocals, Value.category]; done) | rfl
set_option maxRecDepth 65536 in
set_option maxHeartbeats 40000000 in
theorem rm_eci (l : Launch) (Z : State) (a0 : Array Value) (G1 : Int32) (G3 : Value) (hX : Ctx Z a0 G1 G3) (n0 : Nat) (bk : Addr → Prop) (h0 : Heap) (O0 : Old Z n0 h0) (a : Addr) (t : Addr) (kb : ClassId) (N : Nat) (cs : List Int32) (k : Nat) (pf_0 : SbL Z h0 a t kb N cs) (hk : k ≤ N) (ws : List Jvm.Cond) : Met l Z EL1 n0 bk (⟨"java/lang/AbstractStringBuilder", "ensureCapacityInternal", "(I)V"⟩ : MethodName) jdk_68_method_9_code 3 (Option.none : Option FieldType) RM_eci #[(.ref a), (.int (Int32.ofNat k))] h0 (Q_eci Z G1 G3 a t kb N cs k h0 n0 bk) ws := by
  have hX' := hX
  obtain ⟨hw, hE, S1, P1, S3, P3⟩ := hX'
  have hSA := sa_of hw
  have z0 : n0 ≤ h0.size := by rw [← O0.1]; exact O0.2.1
  refine Met.of (by decide +kernel) O0 hE ?_
  intro p e s m below meth c hx hby hml hret hlk hnm
  refine k_cast (ef_eci m a (Int32.ofNat k)) ?_
  show Run p l e _ s m _ below meth c Z EL1 _ n0 bk h0 0 0 (mkF m 0 #[.val (.ref a), .val (.int (Int32.ofNat k)), .unset] []) _
  have ne_1 : @Ne Nat a t := pf_0.2.2.2.2.2.2.2.2
  have lt_2 : @LT.lt Nat _ a (Array.size h0) := pf_0.lt1
  have lt_3 : @LT.lt Nat _ t (Array.size h0) := pf_0.lt2
  refine k_pure (g' := (mkF m 1 #[.val (.ref a), .val (.int (Int32.ofNat k)), .unset] [(.ref a)])) (fun TT HH tt kk => XS.aloadN HH hx rfl (hb hby d_jdk_68_m_9_0) rfl rfl kk) ?_
  refine k_getF hx (host := "") (Or.inl (hw _ (List.mem_of_getElem? (i := 73) rfl))) Via.refl pf_0.2.2.1 rfl rfl (hb hby d_jdk_68_m_9_1) ?_
  show Run p l e _ s m _ below meth c Z EL1 _ n0 bk h0 0 0 (mkF m 4 #[.val (.ref a), .val (.int (Int32.ofNat k)), .unset] [(.ref t)]) _
  refine k_alen hx pf_0.2.2.2.2.1 rfl rfl (hb hby d_jdk_68_m_9_4) ?_
  show Run p l e _ s m _ below meth c Z EL1 _ n0 bk h0 0 0 (mkF m 5 #[.val (.ref a), .val (.int (Int32.ofNat k)), .unset] [(.int (Int32.ofNat N))]) _
  refine k_pure (g' := (mkF m 6 #[.val (.ref a), .val (.int (Int32.ofNat k)), .unset] [(.ref a), (.int (Int32.ofNat N))])) (fun TT HH tt kk => XS.aloadN HH hx rfl (hb hby d_jdk_68_m_9_5) rfl rfl kk) ?_
  refine k_getF hx (host := "") (Or.inl (hw _ (List.mem_of_getElem? (i := 75) rfl))) Via.refl pf_0.2.1 rfl rfl (hb hby d_jdk_68_m_9_6) ?_
  show Run p l e _ s m _ below meth c Z EL1 _ n0 bk h0 0 0 (mkF m 9 #[.val (.ref a), .val (.int (Int32.ofNat k)), .unset] [(.int (0 : Int32)), (.int (Int32.ofNat N))]) _
  refine k_pure (g' := (mkF m 10 #[.val (.ref a), .val (.int (Int32.ofNat k)), .unset] [(.int ((Int32.ofNat N) >>> ((0 : Int32) &&& 31)))])) (fun TT HH tt kk => XS.ishr HH hx rfl (hb hby d_jdk_68_m_9_9) rfl kk) ?_
  rw [shr0]
  show Run p l e _ s m _ below meth c Z EL1 _ n0 bk h0 0 0 (mkF m 10 #[.val (.ref a), .val (.int (Int32.ofNat k)), .unset] [(.int (Int32.ofNat N))]) _
  refine k_pure (g' := (mkF m 11 #[.val (.ref a), .val (.int (Int32.ofNat k)), .val (.int (Int32.ofNat N))] [])) (fun TT HH tt kk => XS.istoreN HH hx rfl (hb hby d_jdk_68_m_9_10) rfl (l' := #[.val (.ref a), .val (.int (Int32.ofNat k)), .val (.int (Int32.ofNat N))]) rfl kk) ?_
  refine k_pure (g' := (mkF m 12 #[.val (.ref a), .val (.int (Int32.ofNat k)), .val (.int (Int32.ofNat N))] [(.int (Int32.ofNat k))])) (fun TT HH tt kk => XS.iloadN HH hx rfl (hb hby d_jdk_68_m_9_11) rfl kk) ?_
  refine k_pure (g' := (mkF m 13 #[.val (.ref a), .val (.int (Int32.ofNat k)), .val (.int (Int32.ofNat N))] [(.int (Int32.ofNat N)), (.int (Int32.ofNat k))])) (fun TT HH tt kk => XS.iloadN HH hx rfl (hb hby d_jdk_68_m_9_12) rfl kk) ?_
  refine k_pure (g' := (mkF m 14 #[.val (.ref a), .val (.int (Int32.ofNat k)), .val (.int (Int32.ofNat N))] [(.int ((Int32.ofNat k) - (Int32.ofNat N)))])) (fun TT HH tt kk => XS.isub HH hx rfl (hb hby d_jdk_68_m_9_13) rfl kk) ?_
  refine k_pure (g' := (mkF m 38 #[.val (.ref a), .val (.int (Int32.ofNat k)), .val (.int (Int32.ofNat N))] [])) (fun TT HH tt kk => XS.ifYes HH hx rfl (pc0 := 14) (pc' := 38) rfl (hb hby d_jdk_68_m_9_14) rfl ((if0 _ _).trans (flt (ens_ok hk pf_0.2.2.2.2.2.2.2.1)).2.2.2) (by decide) (by decide) kk) ?_
  exact k_ret0 hx hlk hret (hb hby d_jdk_68_m_9_38) (by decide) (by decide) ⟨rfl, rfl, rfl⟩
def Q_inf (Z : State) (G1 : Int32) (G3 : Value) (a : Addr) (t : Addr) (kb : ClassId) (N : Nat) (cs : List Int32) (b : Addr) (t2 : Addr) (kb2 : ClassId) (ds : List Int32) (h0 : Heap) (n0 : Nat) (bk : Addr → Prop) (v : Option Value) (h : Heap) (bk' : Addr → Prop) : Prop := v = none ∧ h0 = h ∧ bk = bk'
theorem d_jdk_68_m_71_0 : decode jdk_68_method_71_code 0 = .ok (.getstatic 18, 3) := by decide +kernel
theorem d_jdk_68_m_71_3 : decode jdk_68_method_71_code 3 = .ok (.ifCond .eq 18, 3) := by decide +kernel
theorem d_jdk_68_m_71_6 : decode jdk_68_method_71_code 6 = .ok (.aload_n 0, 1) := by decide +kernel
theorem d_jdk_68_m_71_7 : decode jdk_68_method_71_code 7 = .ok (.getfield 22, 3) := by decide +kernel
theorem d_jdk_68_m_71_10 : decode jdk_68_method_71_code 10 = .ok (.aload_n 1, 1) := by decide +kernel
theorem d_jdk_68_m_71_11 : decode jdk_68_method_71_code 11 = .ok (.invokevirtual 40, 3) := by decide +kernel
theorem pd__28__29_B : parseMethodDescriptor "()B" = some ⟨[], some .byte⟩ := by decide +kernel
theorem d_jdk_68_m_71_14 : decode jdk_68_method_71_code 14 = .ok (.if_icmp .eq 7, 3) := by decide +kernel
theorem d_jdk_68_m_71_21 : decode jdk_68_method_71_code 21 = .ok (.return_, 1) := by decide +kernel
abbrev RM_inf : Room := { frames := 1, cells := 0, slots := 0, locals := 13 }
theorem ef_inf (m : MethodId) (x0 : Addr) (x1 : Addr) : entryFrame m #[(.ref x0), (.ref x1)] 2 = mkF m 0 #[.val (.ref x0), .val (.ref x1)] [] := by first | (simp [entryFrame, mkF, argsToLocals, Value.category]; done) | rfl
set_option maxRecDepth 65536 in
set_option maxHeartbeats 40000000 in
theorem rm_inf (l : Launch) (Z : State) (a0 : Array Value) (G1 : Int32) (G3 : Value) (hX : Ctx Z a0 G1 G3) (n0 : Nat) (bk : Addr → Prop) (h0 : Heap) (O0 : Old Z n0 h0) (a : Addr) (t : Addr) (kb : ClassId) (N : Nat) (cs : List Int32) (b : Addr) (t2 : Addr) (kb2 : ClassId) (ds : List Int32) (pf_0 : SbL Z h0 a t kb N cs) (pf_1 : StrL Z h0 b t2 kb2 ds) (ws : List Jvm.Cond) : Met l Z EL1 n0 bk (⟨"java/lang/AbstractStringBuilder", "inflateIfNeededFor", "(Ljava/lang/String;)V"⟩ : MethodName) jdk_68_method_71_code 2 (Option.none : Option FieldType) RM_inf #[(.ref a), (.ref b)] h0 (Q_inf Z G1 G3 a t kb N cs b t2 kb2 ds h0 n0 bk) ws := by
  have hX' := hX
  obtain ⟨hw, hE, S1, P1, S3, P3⟩ := hX'
  have hSA := sa_of hw
  have z0 : n0 ≤ h0.size := by rw [← O0.1]; exact O0.2.1
  refine Met.of (by decide +kernel) O0 hE ?_
  intro p e s m below meth c hx hby hml hret hlk hnm
  refine k_cast (ef_inf m a b) ?_
  show Run p l e _ s m _ below meth c Z EL1 _ n0 bk h0 0 0 (mkF m 0 #[.val (.ref a), .val (.ref b)] []) _
  have ne_1 : @Ne Nat a t := pf_0.2.2.2.2.2.2.2.2
  have lt_2 : @LT.lt Nat _ a (Array.size h0) := pf_0.lt1
  have lt_3 : @LT.lt Nat _ t (Array.size h0) := pf_0.lt2
  have lt_4 : @LT.lt Nat _ b (Array.size h0) := pf_1.lt1
  have lt_5 : @LT.lt Nat _ t2 (Array.size h0) := pf_1.lt2
  refine k_getS hx (host := "") (Or.inl (hw _ (List.mem_of_getElem? (i := 72) rfl))) Via.refl (S1.ext O0.2) rfl (hb hby d_jdk_68_m_71_0) ?_
  show Run p l e _ s m _ below meth c Z EL1 _ n0 bk h0 0 0 (mkF m 3 #[.val (.ref a), .val (.ref b)] [(.int G1)]) _
  refine k_pure (g' := (mkF m 6 #[.val (.ref a), .val (.ref b)] [])) (fun TT HH tt kk => XS.ifNo HH hx rfl (hb hby d_jdk_68_m_71_3) rfl ((if0 _ _).trans (feq P1).1) kk) ?_
  refine k_pure (g' := (mkF m 7 #[.val (.ref a), .val (.ref b)] [(.ref a)])) (fun TT HH tt kk => XS.aloadN HH hx rfl (hb hby d_jdk_68_m_71_6) rfl rfl kk) ?_
  refine k_getF hx (host := "") (Or.inl (hw _ (List.mem_of_getElem? (i := 75) rfl))) Via.refl pf_0.2.1 rfl rfl (hb hby d_jdk_68_m_71_7) ?_
  show Run p l e _ s m _ below meth c Z EL1 _ n0 bk h0 0 0 (mkF m 10 #[.val (.ref a), .val (.ref b)] [(.int (0 : Int32))]) _
  refine k_pure (g' := (mkF m 11 #[.val (.ref a), .val (.ref b)] [(.ref b), (.int (0 : Int32))])) (fun TT HH tt kk => XS.aloadN HH hx rfl (hb hby d_jdk_68_m_71_10) rfl rfl kk) ?_
  refine k_callV hx (y := (⟨"java/lang/String", "coder", "()B"⟩ : MethodName)) (z := (⟨"java/lang/String", "coder", "()B"⟩ : MethodName)) (hw _ (List.mem_of_getElem? (i := 114) rfl)) (hw _ (List.mem_of_getElem? (i := 93) rfl)) (fun s' hZ => notFace_of_selects (args := #[]) (mv hZ (hw _ (List.mem_of_getElem? (i := 95) rfl)))) (hw _ (List.mem_of_getElem? (i := 95) rfl)) (hw _ (List.mem_of_getElem? (i := 94) rfl)) (by decide) (W := 1) (a := b) (argsL := []) (rest := [(.int (0 : Int32))]) (Pays.of_met (rm_coder l Z a0 G1 G3 hX n0 bk h0 O0 b t2 kb2 ds pf_1 []) (hw _ (List.mem_of_getElem? (i := 96) rfl)) (hw _ (List.mem_of_getElem? (i := 7) rfl)) (by decide) (by decide)) pf_1.1 rfl (by rw [hml]; rfl) (lenOf pd__28__29_B rfl) rfl (by show 2 * 0 + _ ≤ _; exact Nat.le_of_eq rfl) (hb hby d_jdk_68_m_71_11) (by decide) (by decide) ?_
  intro v_6 h_7 bk_8 O_9 z_10 Q_11
  obtain ⟨rfl, rfl, rfl⟩ := Q_11
  show Run p l e _ s m _ below meth c Z EL1 _ n0 bk h0 0 0 (mkF m 14 #[.val (.ref a), .val (.ref b)] [(.int (0 : Int32)), (.int (0 : Int32))]) _
  refine k_pure (g' := (mkF m 21 #[.val (.ref a), .val (.ref b)] [])) (fun TT HH tt kk => XS.icmpYes HH hx rfl (pc0 := 14) (pc' := 21) rfl (hb hby d_jdk_68_m_71_14) rfl (teq (by decide : ((0 : Int32) = (0 : Int32)))).1 (by decide) (by decide) kk) ?_
  exact k_ret0 hx hlk hret (hb hby d_jdk_68_m_71_21) (by decide) (by decide) ⟨rfl, rfl, rfl⟩
def Q_gby (Z : State) (G1 : Int32) (G3 : Value) (t : Addr) (kb : ClassId) (N : Nat) (cs : List Int32) (b : Addr) (t2 : Addr) (kb2 : ClassId) (ds : List Int32) (h0 : Heap) (n0 : Nat) (bk : Addr → Prop) (v : Option Value) (h : Heap) (bk' : Addr → Prop) : Prop := v = none ∧ bk = bk' ∧ Keep h0 h [t] ∧ (Arv Z h t kb .byte (Int32.ofNat N) (((cs ++ ds).map (fun c => c.toInt8.toInt32)).map Value.int) (.int 0))
theorem d_jdk_42_m_147_0 : decode jdk_42_method_147_code 0 = .ok (.aload_n 0, 1) := by decide +kernel
theorem d_jdk_42_m_147_1 : decode jdk_42_method_147_code 1 = .ok (.invokevirtual 335, 3) := by decide +kernel
theorem d_jdk_42_m_147_4 : decode jdk_42_method_147_code 4 = .ok (.iload_n 3, 1) := by decide +kernel
theorem d_jdk_42_m_147_5 : decode jdk_42_method_147_code 5 = .ok (.if_icmp .ne 23, 3) := by decide +kernel
theorem d_jdk_42_m_147_8 : decode jdk_42_method_147_code 8 = .ok (.aload_n 0, 1) := by decide +kernel
theorem d_jdk_42_m_147_9 : decode jdk_42_method_147_code 9 = .ok (.getfield 9, 3) := by decide +kernel
theorem d_jdk_42_m_147_12 : decode jdk_42_method_147_code 12 = .ok (.iconst 0, 1) := by decide +kernel
theorem d_jdk_42_m_147_13 : decode jdk_42_method_147_code 13 = .ok (.aload_n 1, 1) := by decide +kernel
theorem d_jdk_42_m_147_14 : decode jdk_42_method_147_code 14 = .ok (.iload_n 2, 1) := by decide +kernel
theorem d_jdk_42_m_147_15 : decode jdk_42_method_147_code 15 = .ok (.iload_n 3, 1) := by decide +kernel
theorem d_jdk_42_m_147_16 : decode jdk_42_method_147_code 16 = .ok (.ishl, 1) := by decide +kernel
theorem d_jdk_42_m_147_17 : decode jdk_42_method_147_code 17 = .ok (.aload_n 0, 1) := by decide +kernel
theorem d_jdk_42_m_147_18 : decode jdk_42_method_147_code 18 = .ok (.getfield 9, 3) := by decide +kernel
theorem d_jdk_42_m_147_21 : decode jdk_42_method_147_code 21 = .ok (.arraylength, 1) := by decide +kernel
theorem d_jdk_42_m_147_22 : decode jdk_42_method_147_code 22 = .ok (.invokestatic 212, 3) := by decide +kernel
theorem d_jdk_42_m_147_25 : decode jdk_42_method_147_code 25 = .ok (.goto 18, 3) := by decide +kernel
theorem d_jdk_42_m_147_43 : decode jdk_42_method_147_code 43 = .ok (.return_, 1) := by decide +kernel
abbrev RM_gby : Room := { frames := 1, cells := 0, slots := 0, locals := 18 }
theorem ef_gby (m : MethodId) (x0 : Addr) (x1 : Addr) (x2 : Int32) (x3 : Int32) : entryFrame m #[(.ref x0), (.ref x1), (.int x2), (.int x3)] 4 = mkF m 0 #[.val (.ref x0), .val (.ref x1), .val (.int x2), .val (.int x3)] [] := by first | (simp [entryFrame, mkF, argsToLocals, Value.category]; done) | rfl
set_option maxRecDepth 65536 in
set_option maxHeartbeats 40000000 in
theorem rm_gby (l : Launch) (Z : State) (a0 : Array Value) (G1 : Int32) (G3 : Value) (hX : Ctx Z a0 G1 G3) (n0 : Nat) (bk : Addr → Prop) (h0 : Heap) (O0 : Old Z n0 h0) (t : Addr) (kb : ClassId) (N : Nat) (cs : List Int32) (b : Addr) (t2 : Addr) (kb2 : ClassId) (ds : List Int32) (pf_0 : StrL Z h0 b t2 kb2 ds) (pf_1 : Arv Z h0 t kb .byte (Int32.ofNat N) (((cs).map (fun c => c.toInt8.toInt32)).map Value.int) (.int 0)) (hl : cs.length + ds.length ≤ N) (hN : N ≤ 4000) (nbt : ¬ bk t) (gt : n0 ≤ t) (ws : List Jvm.Cond) : Met l Z EL1 n0 bk (⟨"java/lang/String", "getBytes", "([BIB)V"⟩ : MethodName) jdk_42_method_147_code 4 (Option.none : Option FieldType) RM_gby #[(.ref b), (.ref t), (.int (Int32.ofNat (cs).length)), (.int (0 : Int32))] h0 (Q_gby Z G1 G3 t kb N cs b t2 kb2 ds h0 n0 bk) ws := by
  have hX' := hX
  obtain ⟨hw, hE, S1, P1, S3, P3⟩ := hX'
  have hSA := sa_of hw
  have z0 : n0 ≤ h0.size := by rw [← O0.1]; exact O0.2.1
  refine Met.of (by decide +kernel) O0 hE ?_
  intro p e s m below meth c hx hby hml hret hlk hnm
  refine k_cast (ef_gby m b t (Int32.ofNat (cs).length) (0 : Int32)) ?_
  show Run p l e _ s m _ below meth c Z EL1 _ n0 bk h0 0 0 (mkF m 0 #[.val (.ref b), .val (.ref t), .val (.int (Int32.ofNat (cs).length)), .val (.int (0 : Int32))] []) _
  have lt_1 : @LT.lt Nat _ b (Array.size h0) := pf_0.lt1
  have lt_2 : @LT.lt Nat _ t2 (Array.size h0) := pf_0.lt2
  have lt_3 : @LT.lt Nat _ t (Array.size h0) := pf_1.lt
  refine k_pure (g' := (mkF m 1 #[.val (.ref b), .val (.ref t), .val (.int (Int32.ofNat (cs).length)), .val (.int (0 : Int32))] [(.ref b)])) (fun TT HH tt kk => XS.aloadN HH hx rfl (hb hby d_jdk_42_m_147_0) rfl rfl kk) ?_
  refine k_callV hx (y := (⟨"java/lang/String", "coder", "()B"⟩ : MethodName)) (z := (⟨"java/lang/String", "coder", "()B"⟩ : MethodName)) (hw _ (List.mem_of_getElem? (i := 92) rfl)) (hw _ (List.mem_of_getElem? (i := 93) rfl)) (fun s' hZ => notFace_of_selects (args := #[]) (mv hZ (hw _ (List.mem_of_getElem? (i := 95) rfl)))) (hw _ (List.mem_of_getElem? (i := 95) rfl)) (hw _ (List.mem_of_getElem? (i := 94) rfl)) (by decide) (W := 0) (a := b) (argsL := []) (rest := []) (Pays.of_met (rm_coder l Z a0 G1 G3 hX n0 bk h0 O0 b t2 kb2 ds pf_0 []) (hw _ (List.mem_of_getElem? (i := 96) rfl)) (hw _ (List.mem_of_getElem? (i := 7) rfl)) (by decide) (by decide)) pf_0.1 rfl (by rw [hml]; rfl) (lenOf pd__28__29_B rfl) rfl (by show 2 * 0 + _ ≤ _; exact Nat.le_of_eq rfl) (hb hby d_jdk_42_m_147_1) (by decide) (by decide) ?_
  intro v_4 h_5 bk_6 O_7 z_8 Q_9
  obtain ⟨rfl, rfl, rfl⟩ := Q_9
  show Run p l e _ s m _ below meth c Z EL1 _ n0 bk h0 0 0 (mkF m 4 #[.val (.ref b), .val (.ref t), .val (.int (Int32.ofNat (cs).length)), .val (.int (0 : Int32))] [(.int (0 : Int32))]) _
  refine k_pure (g' := (mkF m 5 #[.val (.ref b), .val (.ref t), .val (.int (Int32.ofNat (cs).length)), .val (.int (0 : Int32))] [(.int (0 : Int32)), (.int (0 : Int32))])) (fun TT HH tt kk => XS.iloadN HH hx rfl (hb hby d_jdk_42_m_147_4) rfl kk) ?_
  refine k_pure (g' := (mkF m 8 #[.val (.ref b), .val (.ref t), .val (.int (Int32.ofNat (cs).length)), .val (.int (0 : Int32))] [])) (fun TT HH tt kk => XS.icmpNo HH hx rfl (hb hby d_jdk_42_m_147_5) rfl (teq (by decide : ((0 : Int32) = (0 : Int32)))).2 kk) ?_
  refine k_pure (g' := (mkF m 9 #[.val (.ref b), .val (.ref t), .val (.int (Int32.ofNat (cs).length)), .val (.int (0 : Int32))] [(.ref b)])) (fun TT HH tt kk => XS.aloadN HH hx rfl (hb hby d_jdk_42_m_147_8) rfl rfl kk) ?_
  refine k_getF hx (host := "") (Or.inl (hw _ (List.mem_of_getElem? (i := 36) rfl))) Via.refl pf_0.2.2.1 rfl rfl (hb hby d_jdk_42_m_147_9) ?_
  show Run p l e _ s m _ below meth c Z EL1 _ n0 bk h0 0 0 (mkF m 12 #[.val (.ref b), .val (.ref t), .val (.int (Int32.ofNat (cs).length)), .val (.int (0 : Int32))] [(.ref t2)]) _
  refine k_pure (g' := (mkF m 13 #[.val (.ref b), .val (.ref t), .val (.int (Int32.ofNat (cs).length)), .val (.int (0 : Int32))] [(.int (0 : Int32)), (.ref t2)])) (fun TT HH tt kk => XS.iconst HH hx rfl (hb hby d_jdk_42_m_147_12) kk) ?_
  refine k_pure (g' := (mkF m 14 #[.val (.ref b), .val (.ref t), .val (.int (Int32.ofNat (cs).length)), .val (.int (0 : Int32))] [(.ref t), (.int (0 : Int32)), (.ref t2)])) (fun TT HH tt kk => XS.aloadN HH hx rfl (hb hby d_jdk_42_m_147_13) rfl rfl kk) ?_
  refine k_pure (g' := (mkF m 15 #[.val (.ref b), .val (.ref t), .val (.int (Int32.ofNat (cs).length)), .val (.int (0 : Int32))] [(.int (Int32.ofNat (cs).length)), (.ref t), (.int (0 : Int32)), (.ref t2)])) (fun TT HH tt kk => XS.iloadN HH hx rfl (hb hby d_jdk_42_m_147_14) rfl kk) ?_
  refine k_pure (g' := (mkF m 16 #[.val (.ref b), .val (.ref t), .val (.int (Int32.ofNat (cs).length)), .val (.int (0 : Int32))] [(.int (0 : Int32)), (.int (Int32.ofNat (cs).length)), (.ref t), (.int (0 : Int32)), (.ref t2)])) (fun TT HH tt kk => XS.iloadN HH hx rfl (hb hby d_jdk_42_m_147_15) rfl kk) ?_
  refine k_pure (g' := (mkF m 17 #[.val (.ref b), .val (.ref t), .val (.int (Int32.ofNat (cs).length)), .val (.int (0 : Int32))] [(.int ((Int32.ofNat (cs).length) <<< ((0 : Int32) &&& 31))), (.ref t), (.int (0 : Int32)), (.ref t2)])) (fun TT HH tt kk => XS.ishl HH hx rfl (hb hby d_jdk_42_m_147_16) rfl kk) ?_
  rw [shl0]
  show Run p l e _ s m _ below meth c Z EL1 _ n0 bk h0 0 0 (mkF m 17 #[.val (.ref b), .val (.ref t), .val (.int (Int32.ofNat (cs).length)), .val (.int (0 : Int32))] [(.int (Int32.ofNat (cs).length)), (.ref t), (.int (0 : Int32)), (.ref t2)]) _
  refine k_pure (g' := (mkF m 18 #[.val (.ref b), .val (.ref t), .val (.int (Int32.ofNat (cs).length)), .val (.int (0 : Int32))] [(.ref b), (.int (Int32.ofNat (cs).length)), (.ref t), (.int (0 : Int32)), (.ref t2)])) (fun TT HH tt kk => XS.aloadN HH hx rfl (hb hby d_jdk_42_m_147_17) rfl rfl kk) ?_
  refine k_getF hx (host := "") (Or.inl (hw _ (List.mem_of_getElem? (i := 36) rfl))) Via.refl pf_0.2.2.1 rfl rfl (hb hby d_jdk_42_m_147_18) ?_
  show Run p l e _ s m _ below meth c Z EL1 _ n0 bk h0 0 0 (mkF m 21 #[.val (.ref b), .val (.ref t), .val (.int (Int32.ofNat (cs).length)), .val (.int (0 : Int32))] [(.ref t2), (.int (Int32.ofNat (cs).length)), (.ref t), (.int (0 : Int32)), (.ref t2)]) _
  refine k_alen hx pf_0.2.2.2.1 rfl rfl (hb hby d_jdk_42_m_147_21) ?_
  show Run p l e _ s m _ below meth c Z EL1 _ n0 bk h0 0 0 (mkF m 22 #[.val (.ref b), .val (.ref t), .val (.int (Int32.ofNat (cs).length)), .val (.int (0 : Int32))] [(.int (Int32.ofNat (ds).length)), (.int (Int32.ofNat (cs).length)), (.ref t), (.int (0 : Int32)), (.ref t2)]) _
  have B_10 : Arv Z h0 t kb .byte (Int32.ofNat N) (((cs).map (fun c => c.toInt8.toInt32)).map Value.int ++ List.replicate (ds).length (Value.int 0)) (.int 0) := Arv.pad pf_1 (pad_rep _ (.int 0) (ds).length)
  refine k_cpA hx (hw _ (List.mem_of_getElem? (i := 120) rfl)) (hw _ (List.mem_of_getElem? (i := 123) rfl)) (hw _ (List.mem_of_getElem? (i := 121) rfl)) (hw _ (List.mem_of_getElem? (i := 122) rfl)) pf_0.2.2.2.1 B_10 (Or.inl ⟨rfl, rfl⟩) (by decide) (not_lt_nat (n := 0) (Nat.zero_le _) (by omega)) (not_lt_nat (n := 0) (Nat.zero_le _) (by omega)) (Nat.le_of_eq (Nat.zero_add _)) (by rw [clampN (by omega), clampN (by omega), clampN (by omega)]; exact hl) rfl (by rw [clampN (by omega), clampN (by omega)]; simp) (by omega) nbt rfl (by rw [hml]; rfl) rfl (hb hby d_jdk_42_m_147_22) (by decide) (W := 0) (by show 2 * 0 + _ ≤ _; exact Nat.le_of_eq rfl) (by decide) ?_
  intro h_11 O_12 K_13 V_14
  have z_15 := K_13.1
  have V_16 : Arv Z h_11 t kb .byte (Int32.ofNat N) (((cs ++ ds).map (fun c => c.toInt8.toInt32)).map Value.int) (.int 0) := (cpy_app (cs := cs) (ds := ds) (by omega) (by omega)) ▸ V_14
  show Run p l e _ s m _ below meth c Z EL1 _ n0 bk h_11 0 0 (mkF m 25 #[.val (.ref b), .val (.ref t), .val (.int (Int32.ofNat (cs).length)), .val (.int (0 : Int32))] []) _
  refine k_pure (g' := (mkF m 43 #[.val (.ref b), .val (.ref t), .val (.int (Int32.ofNat (cs).length)), .val (.int (0 : Int32))] [])) (fun TT HH tt kk => XS.goto HH hx rfl (pc0 := 25) (pc' := 43) rfl (hb hby d_jdk_42_m_147_25) (by decide) (by decide) kk) ?_
  exact k_ret0 hx hlk hret (hb hby d_jdk_42_m_147_43) (by decide) (by decide) ⟨rfl, rfl, ((Keep.refl _ _).trans K_13 (kkS (Or.inl (by simp)) kk0)), V_16⟩
def Q_psa (Z : State) (G1 : Int32) (G3 : Value) (a : Addr) (t : Addr) (kb : ClassId) (N : Nat) (cs : List Int32) (b : Addr) (t2 : Addr) (kb2 : ClassId) (ds : List Int32) (h0 : Heap) (n0 : Nat) (bk : Addr → Prop) (v : Option Value) (h : Heap) (bk' : Addr → Prop) : Prop := v = none ∧ bk = bk' ∧ Keep h0 h [t] ∧ (Arv Z h t kb .byte (Int32.ofNat N) (((cs ++ ds).map (fun c => c.toInt8.toInt32)).map Value.int) (.int 0))
theorem d_jdk_68_m_73_0 : decode jdk_68_method_73_code 0 = .ok (.aload_n 0, 1) := by decide +kernel
theorem d_jdk_68_m_73_1 : decode jdk_68_method_73_code 1 = .ok (.aload_n 2, 1) := by decide +kernel
theorem d_jdk_68_m_73_2 : decode jdk_68_method_73_code 2 = .ok (.invokevirtual 397, 3) := by decide +kernel
theorem pd__28_Ljava_2f_lang_2f_String_3b__29_V : parseMethodDescriptor "(Ljava/lang/String;)V" = some ⟨[(.object "java/lang/String")], none⟩ := by decide +kernel
theorem d_jdk_68_m_73_5 : decode jdk_68_method_73_code 5 = .ok (.aload_n 2, 1) := by decide +kernel
theorem d_jdk_68_m_73_6 : decode jdk_68_method_73_code 6 = .ok (.aload_n 0, 1) := by decide +kernel
theorem d_jdk_68_m_73_7 : decode jdk_68_method_73_code 7 = .ok (.getfield 15, 3) := by decide +kernel
theorem d_jdk_68_m_73_10 : decode jdk_68_method_73_code 10 = .ok (.iload_n 1, 1) := by decide +kernel
theorem d_jdk_68_m_73_11 : decode jdk_68_method_73_code 11 = .ok (.aload_n 0, 1) := by decide +kernel
theorem d_jdk_68_m_73_12 : decode jdk_68_method_73_code 12 = .ok (.getfield 22, 3) := by decide +kernel
theorem d_jdk_68_m_73_15 : decode jdk_68_method_73_code 15 = .ok (.invokevirtual 399, 3) := by decide +kernel
theorem pd__28__5b_BIB_29_V : parseMethodDescriptor "([BIB)V" = some ⟨[(.array .byte), .int, .byte], none⟩ := by decide +kernel
theorem d_jdk_68_m_73_18 : decode jdk_68_method_73_code 18 = .ok (.return_, 1) := by decide +kernel
abbrev RM_psa : Room := { frames := 2, cells := 0, slots := 0, locals := 33 }
theorem ef_psa (m : MethodId) (x0 : Addr) (x1 : Int32) (x2 : Addr) : entryFrame m #[(.ref x0), (.int x1), (.ref x2)] 3 = mkF m 0 #[.val (.ref x0), .val (.int x1), .val (.ref x2)] [] := by first | (simp [entryFrame, mkF, argsToLocals, Value.category]; done) | rfl
set_option maxRecDepth 65536 in
set_option maxHeartbeats 40000000 in
theorem rm_psa (l : Launch) (Z : State) (a0 : Array Value) (G1 : Int32) (G3 : Value) (hX : Ctx Z a0 G1 G3) (n0 : Nat) (bk : Addr → Prop) (h0 : Heap) (O0 : Old Z n0 h0) (a : Addr) (t : Addr) (kb : ClassId) (N : Nat) (cs : List Int32) (b : Addr) (t2 : Addr) (kb2 : ClassId) (ds : List Int32) (pf_0 : SbL Z h0 a t kb N cs) (pf_1 : StrL Z h0 b t2 kb2 ds) (hl : cs.length + ds.length ≤ N) (nba : ¬ bk a) (nbt : ¬ bk t) (ga : n0 ≤ a) (gt : n0 ≤ t) (ws : List Jvm.Cond) : Met l Z EL1 n0 bk (⟨"java/lang/AbstractStringBuilder", "putStringAt", "(ILjava/lang/String;)V"⟩ : MethodName) jdk_68_method_73_code 3 (Option.none : Option FieldType) RM_psa #[(.ref a), (.int (Int32.ofNat (cs).length)), (.ref b)] h0 (Q_psa Z G1 G3 a t kb N cs b t2 kb2 ds h0 n0 bk) ws := by
  have hX' := hX
  obtain ⟨hw, hE, S1, P1, S3, P3⟩ := hX'
  have hSA := sa_of hw
  have z0 : n0 ≤ h0.size := by rw [← O0.1]; exact O0.2.1
  refine Met.of (by decide +kernel) O0 hE ?_
  intro p e s m below meth c hx hby hml hret hlk hnm
  refine k_cast (ef_psa m a (Int32.ofNat (cs).length) b) ?_
  show Run p l e _ s m _ below meth c Z EL1 _ n0 bk h0 0 0 (mkF m 0 #[.val (.ref a), .val (.int (Int32.ofNat (cs).length)), .val (.ref b)] []) _
  have ne_1 : @Ne Nat a t := pf_0.2.2.2.2.2.2.2.2
  have lt_2 : @LT.lt Nat _ a (Array.size h0) := pf_0.lt1
  have lt_3 : @LT.lt Nat _ t (Array.size h0) := pf_0.lt2
  have lt_4 : @LT.lt Nat _ b (Array.size h0) := pf_1.lt1
  have lt_5 : @LT.lt Nat _ t2 (Array.size h0) := pf_1.lt2
  refine k_pure (g' := (mkF m 1 #[.val (.ref a), .val (.int (Int32.ofNat (cs).length)), .val (.ref b)] [(.ref a)])) (fun TT HH tt kk => XS.aloadN HH hx rfl (hb hby d_jdk_68_m_73_0) rfl rfl kk) ?_
  refine k_pure (g' := (mkF m 2 #[.val (.ref a), .val (.int (Int32.ofNat (cs).length)), .val (.ref b)] [(.ref b), (.ref a)])) (fun TT HH tt kk => XS.aloadN HH hx rfl (hb hby d_jdk_68_m_73_1) rfl rfl kk) ?_
  refine k_callV hx (y := (⟨"java/lang/AbstractStringBuilder", "inflateIfNeededFor", "(Ljava/lang/String;)V"⟩ : MethodName)) (z := (⟨"java/lang/AbstractStringBuilder", "inflateIfNeededFor", "(Ljava/lang/String;)V"⟩ : MethodName)) (hw _ (List.mem_of_getElem? (i := 109) rfl)) (decl_of (hw _ (List.mem_of_getElem? (i := 110) rfl)) (hw _ (List.mem_of_getElem? (i := 113) rfl))) (fun s' hZ => notFace_of_selects (args := #[]) (mv hZ (hw _ (List.mem_of_getElem? (i := 112) rfl)))) (hw _ (List.mem_of_getElem? (i := 112) rfl)) (hw _ (List.mem_of_getElem? (i := 110) rfl)) (by decide) (W := 0) (a := a) (argsL := [(.ref b)]) (rest := []) (Pays.of_met (rm_inf l Z a0 G1 G3 hX n0 bk h0 O0 a t kb N cs b t2 kb2 ds pf_0 pf_1 []) (hw _ (List.mem_of_getElem? (i := 113) rfl)) (hw _ (List.mem_of_getElem? (i := 69) rfl)) (by decide) (by decide)) pf_0.1 rfl (by rw [hml]; rfl) (lenOf pd__28_Ljava_2f_lang_2f_String_3b__29_V rfl) rfl (by show 2 * 0 + _ ≤ _; exact Nat.le_of_eq rfl) (hb hby d_jdk_68_m_73_2) (by decide) (by decide) ?_
  intro v_6 h_7 bk_8 O_9 z_10 Q_11
  obtain ⟨rfl, rfl, rfl⟩ := Q_11
  show Run p l e _ s m _ below meth c Z EL1 _ n0 bk h0 0 0 (mkF m 5 #[.val (.ref a), .val (.int (Int32.ofNat (cs).length)), .val (.ref b)] []) _
  refine k_pure (g' := (mkF m 6 #[.val (.ref a), .val (.int (Int32.ofNat (cs).length)), .val (.ref b)] [(.ref b)])) (fun TT HH tt kk => XS.aloadN HH hx rfl (hb hby d_jdk_68_m_73_5) rfl rfl kk) ?_
  refine k_pure (g' := (mkF m 7 #[.val (.ref a), .val (.int (Int32.ofNat (cs).length)), .val (.ref b)] [(.ref a), (.ref b)])) (fun TT HH tt kk => XS.aloadN HH hx rfl (hb hby d_jdk_68_m_73_6) rfl rfl kk) ?_
  refine k_getF hx (host := "") (Or.inl (hw _ (List.mem_of_getElem? (i := 73) rfl))) Via.refl pf_0.2.2.1 rfl rfl (hb hby d_jdk_68_m_73_7) ?_
  show Run p l e _ s m _ below meth c Z EL1 _ n0 bk h0 0 0 (mkF m 10 #[.val (.ref a), .val (.int (Int32.ofNat (cs).length)), .val (.ref b)] [(.ref t), (.ref b)]) _
  refine k_pure (g' := (mkF m 11 #[.val (.ref a), .val (.int (Int32.ofNat (cs).length)), .val (.ref b)] [(.int (Int32.ofNat (cs).length)), (.ref t), (.ref b)])) (fun TT HH tt kk => XS.iloadN HH hx rfl (hb hby d_jdk_68_m_73_10) rfl kk) ?_
  refine k_pure (g' := (mkF m 12 #[.val (.ref a), .val (.int (Int32.ofNat (cs).length)), .val (.ref b)] [(.ref a), (.int (Int32.ofNat (cs).length)), (.ref t), (.ref b)])) (fun TT HH tt kk => XS.aloadN HH hx rfl (hb hby d_jdk_68_m_73_11) rfl rfl kk) ?_
  refine k_getF hx (host := "") (Or.inl (hw _ (List.mem_of_getElem? (i := 75) rfl))) Via.refl pf_0.2.1 rfl rfl (hb hby d_jdk_68_m_73_12) ?_
  show Run p l e _ s m _ below meth c Z EL1 _ n0 bk h0 0 0 (mkF m 15 #[.val (.ref a), .val (.int (Int32.ofNat (cs).length)), .val (.ref b)] [(.int (0 : Int32)), (.int (Int32.ofNat (cs).length)), (.ref t), (.ref b)]) _
  refine k_callV hx (y := (⟨"java/lang/String", "getBytes", "([BIB)V"⟩ : MethodName)) (z := (⟨"java/lang/String", "getBytes", "([BIB)V"⟩ : MethodName)) (hw _ (List.mem_of_getElem? (i := 115) rfl)) (hw _ (List.mem_of_getElem? (i := 116) rfl)) (fun s' hZ => notFace_of_selects (args := #[]) (mv hZ (hw _ (List.mem_of_getElem? (i := 118) rfl)))) (hw _ (List.mem_of_getElem? (i := 118) rfl)) (hw _ (List.mem_of_getElem? (i := 117) rfl)) (by decide) (W := 0) (a := b) (argsL := [(.ref t), (.int (Int32.ofNat (cs).length)), (.int (0 : Int32))]) (rest := []) (Pays.of_met (rm_gby l Z a0 G1 G3 hX n0 bk h0 O0 t kb N cs b t2 kb2 ds pf_1 pf_0.2.2.2.2.1 hl pf_0.2.2.2.2.2.2.2.1 nbt (by omega) []) (hw _ (List.mem_of_getElem? (i := 119) rfl)) (hw _ (List.mem_of_getElem? (i := 7) rfl)) (by decide) (by decide)) pf_1.1 rfl (by rw [hml]; rfl) (lenOf pd__28__5b_BIB_29_V rfl) rfl (by show 2 * 0 + _ ≤ _; exact Nat.le_of_eq rfl) (hb hby d_jdk_68_m_73_15) (by decide) (by decide) ?_
  intro v_12 h_13 bk_14 O_15 z_16 Q_17
  obtain ⟨rfl, rfl, K_18, F_19⟩ := Q_17
  have lt_20 : @LT.lt Nat _ t (Array.size h_13) := F_19.lt
  show Run p l e _ s m _ below meth c Z EL1 _ n0 bk h_13 0 0 (mkF m 18 #[.val (.ref a), .val (.int (Int32.ofNat (cs).length)), .val (.ref b)] []) _
  exact k_ret0 hx hlk hret (hb hby d_jdk_68_m_73_18) (by decide) (by decide) ⟨rfl, rfl, ((Keep.refl _ _).trans K_18 (kkS (Or.inl (by simp)) kk0)), F_19⟩
def Q_aps (Z : State) (G1 : Int32) (G3 : Value) (a : Addr) (t : Addr) (kb : ClassId) (N : Nat) (cs : List Int32) (b : Addr) (t2 : Addr) (kb2 : ClassId) (ds : List Int32) (h0 : Heap) (n0 : Nat) (bk : Addr → Prop) (v : Option Value) (h : Heap) (bk' : Addr → Prop) : Prop := v = some (.ref a) ∧ bk = bk' ∧ Keep h0 h [a, t] ∧ (SbL Z h a t kb N (cs ++ ds))
theorem d_jdk_68_m_22_0 : decode jdk_68_method_22_code 0 = .ok (.aload_n 1, 1) := by decide +kernel
theorem d_jdk_68_m_22_1 : decode jdk_68_method_22_code 1 = .ok (.ifnonnull 8, 3) := by decide +kernel
theorem d_jdk_68_m_22_9 : decode jdk_68_method_22_code 9 = .ok (.aload_n 1, 1) := by decide +kernel
theorem d_jdk_68_m_22_10 : decode jdk_68_method_22_code 10 = .ok (.invokevirtual 32, 3) := by decide +kernel
theorem pd__28__29_I : parseMethodDescriptor "()I" = some ⟨[], some .int⟩ := by decide +kernel
theorem d_jdk_68_m_22_13 : decode jdk_68_method_22_code 13 = .ok (.istore_n 2, 1) := by decide +kernel
theorem d_jdk_68_m_22_14 : decode jdk_68_method_22_code 14 = .ok (.aload_n 0, 1) := by decide +kernel
theorem d_jdk_68_m_22_15 : decode jdk_68_method_22_code 15 = .ok (.aload_n 0, 1) := by decide +kernel
theorem d_jdk_68_m_22_16 : decode jdk_68_method_22_code 16 = .ok (.getfield 79, 3) := by decide +kernel
theorem d_jdk_68_m_22_19 : decode jdk_68_method_22_code 19 = .ok (.iload_n 2, 1) := by decide +kernel
theorem d_jdk_68_m_22_20 : decode jdk_68_method_22_code 20 = .ok (.iadd, 1) := by decide +kernel
theorem d_jdk_68_m_22_21 : decode jdk_68_method_22_code 21 = .ok (.invokevirtual 100, 3) := by decide +kernel
theorem d_jdk_68_m_22_24 : decode jdk_68_method_22_code 24 = .ok (.aload_n 0, 1) := by decide +kernel
theorem d_jdk_68_m_22_25 : decode jdk_68_method_22_code 25 = .ok (.aload_n 0, 1) := by decide +kernel
theorem d_jdk_68_m_22_26 : decode jdk_68_method_22_code 26 = .ok (.getfield 79, 3) := by decide +kernel
theorem d_jdk_68_m_22_29 : decode jdk_68_method_22_code 29 = .ok (.aload_n 1, 1) := by decide +kernel
theorem d_jdk_68_m_22_30 : decode jdk_68_method_22_code 30 = .ok (.invokevirtual 208, 3) := by decide +kernel
theorem pd__28_ILjava_2f_lang_2f_String_3b__29_V : parseMethodDescriptor "(ILjava/lang/String;)V" = some ⟨[.int, (.object "java/lang/String")], none⟩ := by decide +kernel
theorem d_jdk_68_m_22_33 : decode jdk_68_method_22_code 33 = .ok (.aload_n 0, 1) := by decide +kernel
theorem d_jdk_68_m_22_34 : decode jdk_68_method_22_code 34 = .ok (.dup, 1) := by decide +kernel
theorem d_jdk_68_m_22_35 : decode jdk_68_method_22_code 35 = .ok (.getfield 79, 3) := by decide +kernel
theorem d_jdk_68_m_22_38 : decode jdk_68_method_22_code 38 = .ok (.iload_n 2, 1) := by decide +kernel
theorem d_jdk_68_m_22_39 : decode jdk_68_method_22_code 39 = .ok (.iadd, 1) := by decide +kernel
theorem d_jdk_68_m_22_40 : decode jdk_68_method_22_code 40 = .ok (.putfield 79, 3) := by decide +kernel
theorem d_jdk_68_m_22_43 : decode jdk_68_method_22_code 43 = .ok (.aload_n 0, 1) := by decide +kernel
theorem d_jdk_68_m_22_44 : decode jdk_68_method_22_code 44 = .ok (.areturn, 1) := by decide +kernel
abbrev RM_aps : Room := { frames := 3, cells := 0, slots := 0, locals := 47 }
theorem ef_aps (m : MethodId) (x0 : Addr) (x1 : Addr) : entryFrame m #[(.ref x0), (.ref x1)] 3 = mkF m 0 #[.val (.ref x0), .val (.ref x1), .unset] [] := by first | (simp [entryFrame, mkF, argsToLocals, Value.category]; done) | rfl
set_option maxRecDepth 65536 in
set_option maxHeartbeats 40000000 in
theorem rm_aps (l : Launch) (Z : State) (a0 : Array Value) (G1 : Int32) (G3 : Value) (hX : Ctx Z a0 G1 G3) (n0 : Nat) (bk : Addr → Prop) (h0 : Heap) (O0 : Old Z n0 h0) (a : Addr) (t : Addr) (kb : ClassId) (N : Nat) (cs : List Int32) (b : Addr) (t2 : Addr) (kb2 : ClassId) (ds : List Int32) (pf_0 : SbL Z h0 a t kb N cs) (pf_1 : StrL Z h0 b t2 kb2 ds) (hl : cs.length + ds.length ≤ N) (n1 : @Ne Nat b a) (n2 : @Ne Nat b t) (n3 : @Ne Nat t2 a) (n4 : @Ne Nat t2 t) (nba : ¬ bk a) (nbt : ¬ bk t) (ga : n0 ≤ a) (gt : n0 ≤ t) (ws : List Jvm.Cond) : Met l Z EL1 n0 bk (⟨"java/lang/AbstractStringBuilder", "append", "(Ljava/lang/String;)Ljava/lang/AbstractStringBuilder;"⟩ : MethodName) jdk_68_method_22_code 3 (Option.some (FieldType.object "java/lang/AbstractStringBuilder")) RM_aps #[(.ref a), (.ref b)] h0 (Q_aps Z G1 G3 a t kb N cs b t2 kb2 ds h0 n0 bk) ws := by
  have hX' := hX
  obtain ⟨hw, hE, S1, P1, S3, P3⟩ := hX'
  have hSA := sa_of hw
  have z0 : n0 ≤ h0.size := by rw [← O0.1]; exact O0.2.1
  refine Met.of (by decide +kernel) O0 hE ?_
  intro p e s m below meth c hx hby hml hret hlk hnm
  refine k_cast (ef_aps m a b) ?_
  show Run p l e _ s m _ below meth c Z EL1 _ n0 bk h0 0 0 (mkF m 0 #[.val (.ref a), .val (.ref b), .unset] []) _
  have ne_1 : @Ne Nat a t := pf_0.2.2.2.2.2.2.2.2
  have lt_2 : @LT.lt Nat _ a (Array.size h0) := pf_0.lt1
  have lt_3 : @LT.lt Nat _ t (Array.size h0) := pf_0.lt2
  have lt_4 : @LT.lt Nat _ b (Array.size h0) := pf_1.lt1
  have lt_5 : @LT.lt Nat _ t2 (Array.size h0) := pf_1.lt2
  refine k_pure (g' := (mkF m 1 #[.val (.ref a), .val (.ref b), .unset] [(.ref b)])) (fun TT HH tt kk => XS.aloadN HH hx rfl (hb hby d_jdk_68_m_22_0) rfl rfl kk) ?_
  refine k_pure (g' := (mkF m 9 #[.val (.ref a), .val (.ref b), .unset] [])) (fun TT HH tt kk => XS.ifnonnullYes HH hx rfl (pc0 := 1) (pc' := 9) rfl (hb hby d_jdk_68_m_22_1) rfl (by decide) (by decide) kk) ?_
  refine k_pure (g' := (mkF m 10 #[.val (.ref a), .val (.ref b), .unset] [(.ref b)])) (fun TT HH tt kk => XS.aloadN HH hx rfl (hb hby d_jdk_68_m_22_9) rfl rfl kk) ?_
  refine k_callV hx (y := (⟨"java/lang/String", "length", "()I"⟩ : MethodName)) (z := (⟨"java/lang/String", "length", "()I"⟩ : MethodName)) (hw _ (List.mem_of_getElem? (i := 87) rfl)) (hw _ (List.mem_of_getElem? (i := 88) rfl)) (fun s' hZ => notFace_of_selects (args := #[]) (mv hZ (hw _ (List.mem_of_getElem? (i := 90) rfl)))) (hw _ (List.mem_of_getElem? (i := 90) rfl)) (hw _ (List.mem_of_getElem? (i := 89) rfl)) (by decide) (W := 0) (a := b) (argsL := []) (rest := []) (pay_len (W := 0) hX O0 pf_1 (by decide) (by decide)) pf_1.1 rfl (by rw [hml]; rfl) (lenOf pd__28__29_I rfl) rfl (by show 2 * 0 + _ ≤ _; exact Nat.le_of_eq rfl) (hb hby d_jdk_68_m_22_10) (by decide) (by decide) ?_
  intro v_6 h_7 bk_8 O_9 z_10 Q_11
  obtain ⟨rfl, rfl, rfl⟩ := Q_11
  show Run p l e _ s m _ below meth c Z EL1 _ n0 bk h0 0 0 (mkF m 13 #[.val (.ref a), .val (.ref b), .unset] [(.int (Int32.ofNat (ds).length))]) _
  refine k_pure (g' := (mkF m 14 #[.val (.ref a), .val (.ref b), .val (.int (Int32.ofNat (ds).length))] [])) (fun TT HH tt kk => XS.istoreN HH hx rfl (hb hby d_jdk_68_m_22_13) rfl (l' := #[.val (.ref a), .val (.ref b), .val (.int (Int32.ofNat (ds).length))]) rfl kk) ?_
  refine k_pure (g' := (mkF m 15 #[.val (.ref a), .val (.ref b), .val (.int (Int32.ofNat (ds).length))] [(.ref a)])) (fun TT HH tt kk => XS.aloadN HH hx rfl (hb hby d_jdk_68_m_22_14) rfl rfl kk) ?_
  refine k_pure (g' := (mkF m 16 #[.val (.ref a), .val (.ref b), .val (.int (Int32.ofNat (ds).length))] [(.ref a), (.ref a)])) (fun TT HH tt kk => XS.aloadN HH hx rfl (hb hby d_jdk_68_m_22_15) rfl rfl kk) ?_
  refine k_getF hx (host := "") (Or.inl (hw _ (List.mem_of_getElem? (i := 97) rfl))) Via.refl pf_0.2.2.2.1 rfl rfl (hb hby d_jdk_68_m_22_16) ?_
  show Run p l e _ s m _ below meth c Z EL1 _ n0 bk h0 0 0 (mkF m 19 #[.val (.ref a), .val (.ref b), .val (.int (Int32.ofNat (ds).length))] [(.int (Int32.ofNat (cs).length)), (.ref a)]) _
  refine k_pure (g' := (mkF m 20 #[.val (.ref a), .val (.ref b), .val (.int (Int32.ofNat (ds).length))] [(.int (Int32.ofNat (ds).length)), (.int (Int32.ofNat (cs).length)), (.ref a)])) (fun TT HH tt kk => XS.iloadN HH hx rfl (hb hby d_jdk_68_m_22_19) rfl kk) ?_
  refine k_pure (g' := (mkF m 21 #[.val (.ref a), .val (.ref b), .val (.int (Int32.ofNat (ds).length))] [(.int ((Int32.ofNat (cs).length) + (Int32.ofNat (ds).length))), (.ref a)])) (fun TT HH tt kk => XS.iadd HH hx rfl (hb hby d_jdk_68_m_22_20) rfl kk) ?_
  rw [add_len]
  show Run p l e _ s m _ below meth c Z EL1 _ n0 bk h0 0 0 (mkF m 21 #[.val (.ref a), .val (.ref b), .val (.int (Int32.ofNat (ds).length))] [(.int (Int32.ofNat (cs ++ ds).length)), (.ref a)]) _
  refine k_callV hx (y := (⟨"java/lang/AbstractStringBuilder", "ensureCapacityInternal", "(I)V"⟩ : MethodName)) (z := (⟨"java/lang/AbstractStringBuilder", "ensureCapacityInternal", "(I)V"⟩ : MethodName)) (hw _ (List.mem_of_getElem? (i := 99) rfl)) (decl_of (hw _ (List.mem_of_getElem? (i := 100) rfl)) (hw _ (List.mem_of_getElem? (i := 103) rfl))) (fun s' hZ => notFace_of_selects (args := #[]) (mv hZ (hw _ (List.mem_of_getElem? (i := 102) rfl)))) (hw _ (List.mem_of_getElem? (i := 102) rfl)) (hw _ (List.mem_of_getElem? (i := 100) rfl)) (by decide) (W := 0) (a := a) (argsL := [(.int (Int32.ofNat (cs ++ ds).length))]) (rest := []) (Pays.of_met (rm_eci l Z a0 G1 G3 hX n0 bk h0 O0 a t kb N cs ((cs ++ ds).length) pf_0 (by rw [List.length_append]; exact hl) []) (hw _ (List.mem_of_getElem? (i := 103) rfl)) (hw _ (List.mem_of_getElem? (i := 69) rfl)) (by decide) (by decide)) pf_0.1 rfl (by rw [hml]; rfl) (lenOf pd__28_I_29_V rfl) rfl (by show 2 * 0 + _ ≤ _; exact Nat.le_of_eq rfl) (hb hby d_jdk_68_m_22_21) (by decide) (by decide) ?_
  intro v_12 h_13 bk_14 O_15 z_16 Q_17
  obtain ⟨rfl, rfl, rfl⟩ := Q_17
  show Run p l e _ s m _ below meth c Z EL1 _ n0 bk h0 0 0 (mkF m 24 #[.val (.ref a), .val (.ref b), .val (.int (Int32.ofNat (ds).length))] []) _
  refine k_pure (g' := (mkF m 25 #[.val (.ref a), .val (.ref b), .val (.int (Int32.ofNat (ds).length))] [(.ref a)])) (fun TT HH tt kk => XS.aloadN HH hx rfl (hb hby d_jdk_68_m_22_24) rfl rfl kk) ?_
  refine k_pure (g' := (mkF m 26 #[.val (.ref a), .val (.ref b), .val (.int (Int32.ofNat (ds).length))] [(.ref a), (.ref a)])) (fun TT HH tt kk => XS.aloadN HH hx rfl (hb hby d_jdk_68_m_22_25) rfl rfl kk) ?_
  refine k_getF hx (host := "") (Or.inl (hw _ (List.mem_of_getElem? (i := 97) rfl))) Via.refl pf_0.2.2.2.1 rfl rfl (hb hby d_jdk_68_m_22_26) ?_
  show Run p l e _ s m _ below meth c Z EL1 _ n0 bk h0 0 0 (mkF m 29 #[.val (.ref a), .val (.ref b), .val (.int (Int32.ofNat (ds).length))] [(.int (Int32.ofNat (cs).length)), (.ref a)]) _
  refine k_pure (g' := (mkF m 30 #[.val (.ref a), .val (.ref b), .val (.int (Int32.ofNat (ds).length))] [(.ref b), (.int (Int32.ofNat (cs).length)), (.ref a)])) (fun TT HH tt kk => XS.aloadN HH hx rfl (hb hby d_jdk_68_m_22_29) rfl rfl kk) ?_
  refine k_callV hx (y := (⟨"java/lang/AbstractStringBuilder", "putStringAt", "(ILjava/lang/String;)V"⟩ : MethodName)) (z := (⟨"java/lang/AbstractStringBuilder", "putStringAt", "(ILjava/lang/String;)V"⟩ : MethodName)) (hw _ (List.mem_of_getElem? (i := 104) rfl)) (decl_of (hw _ (List.mem_of_getElem? (i := 105) rfl)) (hw _ (List.mem_of_getElem? (i := 108) rfl))) (fun s' hZ => notFace_of_selects (args := #[]) (mv hZ (hw _ (List.mem_of_getElem? (i := 107) rfl)))) (hw _ (List.mem_of_getElem? (i := 107) rfl)) (hw _ (List.mem_of_getElem? (i := 105) rfl)) (by decide) (W := 0) (a := a) (argsL := [(.int (Int32.ofNat (cs).length)), (.ref b)]) (rest := []) (Pays.of_met (rm_psa l Z a0 G1 G3 hX n0 bk h0 O0 a t kb N cs b t2 kb2 ds pf_0 pf_1 hl nba nbt (by omega) (by omega) []) (hw _ (List.mem_of_getElem? (i := 108) rfl)) (hw _ (List.mem_of_getElem? (i := 69) rfl)) (by decide) (by decide)) pf_0.1 rfl (by rw [hml]; rfl) (lenOf pd__28_ILjava_2f_lang_2f_String_3b__29_V rfl) rfl (by show 2 * 0 + _ ≤ _; exact Nat.le_of_eq rfl) (hb hby d_jdk_68_m_22_30) (by decide) (by decide) ?_
  intro v_18 h_19 bk_20 O_21 z_22 Q_23
  obtain ⟨rfl, rfl, K_24, F_25⟩ := Q_23
  have lt_26 : @LT.lt Nat _ t (Array.size h_19) := F_25.lt
  show Run p l e _ s m _ below meth c Z EL1 _ n0 bk h_19 0 0 (mkF m 33 #[.val (.ref a), .val (.ref b), .val (.int (Int32.ofNat (ds).length))] []) _
  refine k_pure (g' := (mkF m 34 #[.val (.ref a), .val (.ref b), .val (.int (Int32.ofNat (ds).length))] [(.ref a)])) (fun TT HH tt kk => XS.aloadN HH hx rfl (hb hby d_jdk_68_m_22_33) rfl rfl kk) ?_
  refine k_pure (g' := (mkF m 35 #[.val (.ref a), .val (.ref b), .val (.int (Int32.ofNat (ds).length))] [(.ref a), (.ref a)])) (fun TT HH tt kk => XS.dup HH hx rfl (hb hby d_jdk_68_m_22_34) rfl rfl kk) ?_
  have F_27 : Fld Z h_19 a "java/lang/AbstractStringBuilder" "count" "I" (.int (Int32.ofNat (cs).length)) := (pf_0.2.2.2.1.keep K_24 (ninS (ne_ad (by omega)) nin0))
  refine k_getF hx (host := "") (Or.inl (hw _ (List.mem_of_getElem? (i := 97) rfl))) Via.refl F_27 rfl rfl (hb hby d_jdk_68_m_22_35) ?_
  show Run p l e _ s m _ below meth c Z EL1 _ n0 bk h_19 0 0 (mkF m 38 #[.val (.ref a), .val (.ref b), .val (.int (Int32.ofNat (ds).length))] [(.int (Int32.ofNat (cs).length)), (.ref a)]) _
  refine k_pure (g' := (mkF m 39 #[.val (.ref a), .val (.ref b), .val (.int (Int32.ofNat (ds).length))] [(.int (Int32.ofNat (ds).length)), (.int (Int32.ofNat (cs).length)), (.ref a)])) (fun TT HH tt kk => XS.iloadN HH hx rfl (hb hby d_jdk_68_m_22_38) rfl kk) ?_
  refine k_pure (g' := (mkF m 40 #[.val (.ref a), .val (.ref b), .val (.int (Int32.ofNat (ds).length))] [(.int ((Int32.ofNat (cs).length) + (Int32.ofNat (ds).length))), (.ref a)])) (fun TT HH tt kk => XS.iadd HH hx rfl (hb hby d_jdk_68_m_22_39) rfl kk) ?_
  rw [add_len]
  show Run p l e _ s m _ below meth c Z EL1 _ n0 bk h_19 0 0 (mkF m 40 #[.val (.ref a), .val (.ref b), .val (.int (Int32.ofNat (ds).length))] [(.int (Int32.ofNat (cs ++ ds).length)), (.ref a)]) _
  have F_28 : Exa Z h_19 a "java/lang/StringBuilder" := (pf_0.1.keep K_24)
  refine k_putF hx (host := "") (Or.inl (hw _ (List.mem_of_getElem? (i := 97) rfl))) Via.refl F_27 F_28 (Or.inl (hw _ (List.mem_of_getElem? (i := 98) rfl))) (hw _ (List.mem_of_getElem? (i := 60) rfl)) (ty := .int) (by decide) rfl rfl (by omega) nba rfl rfl (hb hby d_jdk_68_m_22_40) ?_
  intro h_29 O_31 W_30
  have z_32 := W_30.size
  show Run p l e _ s m _ below meth c Z EL1 _ n0 bk h_29 0 0 (mkF m 43 #[.val (.ref a), .val (.ref b), .val (.int (Int32.ofNat (ds).length))] []) _
  refine k_pure (g' := (mkF m 44 #[.val (.ref a), .val (.ref b), .val (.int (Int32.ofNat (ds).length))] [(.ref a)])) (fun TT HH tt kk => XS.aloadN HH hx rfl (hb hby d_jdk_68_m_22_43) rfl rfl kk) ?_
  have F_33 : Exa Z h_29 a "java/lang/StringBuilder" := (F_28.wr W_30)
  have F_34 : Fld Z h_29 a "java/lang/AbstractStringBuilder" "coder" "B" (.int (0 : Int32)) := ((pf_0.2.1.keep K_24 (ninS (ne_ad (by omega)) nin0)).other W_30 (Or.inr (RoadKit.slot_ne (C := "java/lang/StringBuilder") (Or.inl (hw _ (List.mem_of_getElem? (i := 76) rfl))) (Or.inl (hw _ (List.mem_of_getElem? (i := 98) rfl))) (by decide) (t := .byte) (t' := .int) (by decide) (by decide))))
  have F_35 : Fld Z h_29 a "java/lang/AbstractStringBuilder" "value" "[B" (.ref t) := ((pf_0.2.2.1.keep K_24 (ninS (ne_ad (by omega)) nin0)).other W_30 (Or.inr (RoadKit.slot_ne (C := "java/lang/StringBuilder") (Or.inl (hw _ (List.mem_of_getElem? (i := 74) rfl))) (Or.inl (hw _ (List.mem_of_getElem? (i := 98) rfl))) (by decide) (t := (.array .byte)) (t' := .int) (by decide) (by decide))))
  have F_36 : Arv Z h_29 t kb .byte (Int32.ofNat N) (((cs ++ ds).map (fun c => c.toInt8.toInt32)).map Value.int) (.int 0) := (F_25.other W_30 (ne_ad (by omega)))
  exact k_retA hx hlk hret rfl rfl rfl (hb hby d_jdk_68_m_22_44) (by decide) (by decide) ⟨rfl, rfl, (((Keep.refl _ _).trans K_24 (kkS (Or.inl (by simp)) kk0)).wr W_30 (Or.inl (by simp))), ⟨F_33, F_34, F_35, (F_27.same W_30), F_36, (fun c hc => (List.mem_append.mp hc).elim (pf_0.2.2.2.2.2.1 c) (pf_1.2.2.2.2.1 c)), (by rw [List.length_append]; exact hl), pf_0.2.2.2.2.2.2.2.1, pf_0.2.2.2.2.2.2.2.2⟩⟩
def Q_sba (Z : State) (G1 : Int32) (G3 : Value) (a : Addr) (t : Addr) (kb : ClassId) (N : Nat) (cs : List Int32) (b : Addr) (t2 : Addr) (kb2 : ClassId) (ds : List Int32) (h0 : Heap) (n0 : Nat) (bk : Addr → Prop) (v : Option Value) (h : Heap) (bk' : Addr → Prop) : Prop := v = some (.ref a) ∧ bk = bk' ∧ Keep h0 h [a, t] ∧ (SbL Z h a t kb N (cs ++ ds))
theorem d_jdk_67_m_7_0 : decode jdk_67_method_7_code 0 = .ok (.aload_n 0, 1) := by decide +kernel
theorem d_jdk_67_m_7_1 : decode jdk_67_method_7_code 1 = .ok (.aload_n 1, 1) := by decide +kernel
theorem d_jdk_67_m_7_2 : decode jdk_67_method_7_code 2 = .ok (.invokespecial 29, 3) := by decide +kernel
theorem pd__28_Ljava_2f_lang_2f_String_3b__29_Ljava_2f_lang_2f_AbstractStringBuilder_3b_ : parseMethodDescriptor "(Ljava/lang/String;)Ljava/lang/AbstractStringBuilder;" = some ⟨[(.object "java/lang/String")], some (.object "java/lang/AbstractStringBuilder")⟩ := by decide +kernel
theorem d_jdk_67_m_7_5 : decode jdk_67_method_7_code 5 = .ok (.pop, 1) := by decide +kernel
theorem d_jdk_67_m_7_6 : decode jdk_67_method_7_code 6 = .ok (.aload_n 0, 1) := by decide +kernel
theorem d_jdk_67_m_7_7 : decode jdk_67_method_7_code 7 = .ok (.areturn, 1) := by decide +kernel
abbrev RM_sba : Room := { frames := 4, cells := 0, slots := 0, locals := 61 }
theorem ef_sba (m : MethodId) (x0 : Addr) (x1 : Addr) : entryFrame m #[(.ref x0), (.ref x1)] 2 = mkF m 0 #[.val (.ref x0), .val (.ref x1)] [] := by first | (simp [entryFrame, mkF, argsToLocals, Value.category]; done) | rfl
set_option maxRecDepth 65536 in
set_option maxHeartbeats 40000000 in
theorem rm_sba (l : Launch) (Z : State) (a0 : Array Value) (G1 : Int32) (G3 : Value) (hX : Ctx Z a0 G1 G3) (n0 : Nat) (bk : Addr → Prop) (h0 : Heap) (O0 : Old Z n0 h0) (a : Addr) (t : Addr) (kb : ClassId) (N : Nat) (cs : List Int32) (b : Addr) (t2 : Addr) (kb2 : ClassId) (ds : List Int32) (pf_0 : SbL Z h0 a t kb N cs) (pf_1 : StrL Z h0 b t2 kb2 ds) (hl : cs.length + ds.length ≤ N) (n1 : @Ne Nat b a) (n2 : @Ne Nat b t) (n3 : @Ne Nat t2 a) (n4 : @Ne Nat t2 t) (nba : ¬ bk a) (nbt : ¬ bk t) (ga : n0 ≤ a) (gt : n0 ≤ t) (ws : List Jvm.Cond) : Met l Z EL1 n0 bk (⟨"java/lang/StringBuilder", "append", "(Ljava/lang/String;)Ljava/lang/StringBuilder;"⟩ : MethodName) jdk_67_method_7_code 2 (Option.some (FieldType.object "java/lang/StringBuilder")) RM_sba #[(.ref a), (.ref b)] h0 (Q_sba Z G1 G3 a t kb N cs b t2 kb2 ds h0 n0 bk) ws := by
  have hX' := hX
  obtain ⟨hw, hE, S1, P1, S3, P3⟩ := hX'
  have hSA := sa_of hw
  have z0 : n0 ≤ h0.size := by rw [← O0.1]; exact O0.2.1
  refine Met.of (by decide +kernel) O0 hE ?_
  intro p e s m below meth c hx hby hml hret hlk hnm
  refine k_cast (ef_sba m a b) ?_
  show Run p l e _ s m _ below meth c Z EL1 _ n0 bk h0 0 0 (mkF m 0 #[.val (.ref a), .val (.ref b)] []) _
  have ne_1 : @Ne Nat a t := pf_0.2.2.2.2.2.2.2.2
  have lt_2 : @LT.lt Nat _ a (Array.size h0) := pf_0.lt1
  have lt_3 : @LT.lt Nat _ t (Array.size h0) := pf_0.lt2
  have lt_4 : @LT.lt Nat _ b (Array.size h0) := pf_1.lt1
  have lt_5 : @LT.lt Nat _ t2 (Array.size h0) := pf_1.lt2
  refine k_pure (g' := (mkF m 1 #[.val (.ref a), .val (.ref b)] [(.ref a)])) (fun TT HH tt kk => XS.aloadN HH hx rfl (hb hby d_jdk_67_m_7_0) rfl rfl kk) ?_
  refine k_pure (g' := (mkF m 2 #[.val (.ref a), .val (.ref b)] [(.ref b), (.ref a)])) (fun TT HH tt kk => XS.aloadN HH hx rfl (hb hby d_jdk_67_m_7_1) rfl rfl kk) ?_
  refine k_callX hx (y := (⟨"java/lang/AbstractStringBuilder", "append", "(Ljava/lang/String;)Ljava/lang/AbstractStringBuilder;"⟩ : MethodName)) (K := "java/lang/StringBuilder") (hw _ (List.mem_of_getElem? (i := 82) rfl)) (same_of (by decide) (hw _ (List.mem_of_getElem? (i := 85) rfl)) (nf_of (y' := (⟨"java/lang/AbstractStringBuilder", "ensureCapacityInternal", "(I)V"⟩ : MethodName)) rfl (hw _ (List.mem_of_getElem? (i := 102) rfl)))) (hw _ (List.mem_of_getElem? (i := 83) rfl)) (hw _ (List.mem_of_getElem? (i := 84) rfl)) (by decide) (hw _ (List.mem_of_getElem? (i := 86) rfl)) (W := 0) (a := a) (argsL := [(.ref b)]) (rest := []) (Pays.of_met (rm_aps l Z a0 G1 G3 hX n0 bk h0 O0 a t kb N cs b t2 kb2 ds pf_0 pf_1 hl (by omega) (by omega) (by omega) (by omega) nba nbt (by omega) (by omega) []) (hw _ (List.mem_of_getElem? (i := 86) rfl)) (hw _ (List.mem_of_getElem? (i := 69) rfl)) (by decide) (by decide)) (Ins.self pf_0.1) rfl (by rw [hml]; rfl) (lenOf pd__28_Ljava_2f_lang_2f_String_3b__29_Ljava_2f_lang_2f_AbstractStringBuilder_3b_ rfl) rfl (by show 2 * 0 + _ ≤ _; exact Nat.le_of_eq rfl) (hb hby d_jdk_67_m_7_2) (by decide) (by decide) ?_
  intro v_6 h_7 bk_8 O_9 z_10 Q_11
  obtain ⟨rfl, rfl, K_12, F_13⟩ := Q_11
  have ne_14 : @Ne Nat a t := F_13.2.2.2.2.2.2.2.2
  have lt_15 : @LT.lt Nat _ a (Array.size h_7) := F_13.lt1
  have lt_16 : @LT.lt Nat _ t (Array.size h_7) := F_13.lt2
  show Run p l e _ s m _ below meth c Z EL1 _ n0 bk h_7 0 0 (mkF m 5 #[.val (.ref a), .val (.ref b)] [(.ref a)]) _
  refine k_pure (g' := (mkF m 6 #[.val (.ref a), .val (.ref b)] [])) (fun TT HH tt kk => XS.pop HH hx rfl (hb hby d_jdk_67_m_7_5) rfl rfl kk) ?_
  refine k_pure (g' := (mkF m 7 #[.val (.ref a), .val (.ref b)] [(.ref a)])) (fun TT HH tt kk => XS.aloadN HH hx rfl (hb hby d_jdk_67_m_7_6) rfl rfl kk) ?_
  exact k_retA hx hlk hret rfl rfl rfl (hb hby d_jdk_67_m_7_7) (by decide) (by decide) ⟨rfl, rfl, ((Keep.refl _ _).trans K_12 (kkS (Or.inl (by simp)) (kkS (Or.inl (by simp)) kk0))), F_13⟩
def Q_gvl (Z : State) (G1 : Int32) (G3 : Value) (a : Addr) (t : Addr) (kb : ClassId) (N : Nat) (cs : List Int32) (h0 : Heap) (n0 : Nat) (bk : Addr → Prop) (v : Option Value) (h : Heap) (bk' : Addr → Prop) : Prop := v = some (.ref t) ∧ h0 = h ∧ bk = bk'
theorem d_jdk_68_m_64_0 : decode jdk_68_method_64_code 0 = .ok (.aload_n 0, 1) := by decide +kernel
theorem d_jdk_68_m_64_1 : decode jdk_68_method_64_code 1 = .ok (.getfield 15, 3) := by decide +kernel
theorem d_jdk_68_m_64_4 : decode jdk_68_method_64_code 4 = .ok (.areturn, 1) := by decide +kernel
abbrev RM_gvl : Room := { frames := 0, cells := 0, slots := 0, locals := 0 }
theorem ef_gvl (m : MethodId) (x0 : Addr) : entryFrame m #[(.ref x0)] 1 = mkF m 0 #[.val (.ref x0)] [] := by first | (simp [entryFrame, mkF, argsToLocals, Value.category]; done) | rfl
set_option maxRecDepth 65536 in
set_option maxHeartbeats 40000000 in
theorem rm_gvl (l : Launch) (Z : State) (a0 : Array Value) (G1 : Int32) (G3 : Value) (hX : Ctx Z a0 G1 G3) (n0 : Nat) (bk : Addr → Prop) (h0 : Heap) (O0 : Old Z n0 h0) (a : Addr) (t : Addr) (kb : ClassId) (N : Nat) (cs : List Int32) (pf_0 : SbL Z h0 a t kb N cs) (ws : List Jvm.Cond) : Met l Z EL1 n0 bk (⟨"java/lang/AbstractStringBuilder", "getValue", "()[B"⟩ : MethodName) jdk_68_method_64_code 1 (Option.some (FieldType.array FieldType.byte)) RM_gvl #[(.ref a)] h0 (Q_gvl Z G1 G3 a t kb N cs h0 n0 bk) ws := by
  have hX' := hX
  obtain ⟨hw, hE, S1, P1, S3, P3⟩ := hX'
  have hSA := sa_of hw
  have z0 : n0 ≤ h0.size := by rw [← O0.1]; exact O0.2.1
  refine Met.of (by decide +kernel) O0 hE ?_
  intro p e s m below meth c hx hby hml hret hlk hnm
  refine k_cast (ef_gvl m a) ?_
  show Run p l e _ s m _ below meth c Z EL1 _ n0 bk h0 0 0 (mkF m 0 #[.val (.ref a)] []) _
  have ne_1 : @Ne Nat a t := pf_0.2.2.2.2.2.2.2.2
  have lt_2 : @LT.lt Nat _ a (Array.size h0) := pf_0.lt1
  have lt_3 : @LT.lt Nat _ t (Array.size h0) := pf_0.lt2
  refine k_pure (g' := (mkF m 1 #[.val (.ref a)] [(.ref a)])) (fun TT HH tt kk => XS.aloadN HH hx rfl (hb hby d_jdk_68_m_64_0) rfl rfl kk) ?_
  refine k_getF hx (host := "") (Or.inl (hw _ (List.mem_of_getElem? (i := 73) rfl))) Via.refl pf_0.2.2.1 rfl rfl (hb hby d_jdk_68_m_64_1) ?_
  show Run p l e _ s m _ below meth c Z EL1 _ n0 bk h0 0 0 (mkF m 4 #[.val (.ref a)] [(.ref t)]) _
  exact k_retA hx hlk hret rfl rfl rfl (hb hby d_jdk_68_m_64_4) (by decide) (by decide) ⟨rfl, rfl, rfl⟩
def Q_asl (Z : State) (G1 : Int32) (G3 : Value) (a : Addr) (t : Addr) (kb : ClassId) (N : Nat) (cs : List Int32) (h0 : Heap) (n0 : Nat) (bk : Addr → Prop) (v : Option Value) (h : Heap) (bk' : Addr → Prop) : Prop := v = some (.int (Int32.ofNat (cs).length)) ∧ h0 = h ∧ bk = bk'
theorem d_jdk_68_m_6_0 : decode jdk_68_method_6_code 0 = .ok (.aload_n 0, 1) := by decide +kernel
theorem d_jdk_68_m_6_1 : decode jdk_68_method_6_code 1 = .ok (.getfield 79, 3) := by decide +kernel
theorem d_jdk_68_m_6_4 : decode jdk_68_method_6_code 4 = .ok (.ireturn, 1) := by decide +kernel
abbrev RM_asl : Room := { frames := 0, cells := 0, slots := 0, locals := 0 }
theorem ef_asl (m : MethodId) (x0 : Addr) : entryFrame m #[(.ref x0)] 1 = mkF m 0 #[.val (.ref x0)] [] := by first | (simp [entryFrame, mkF, argsToLocals, Value.category]; done) | rfl
set_option maxRecDepth 65536 in
set_option maxHeartbeats 40000000 in
theorem rm_asl (l : Launch) (Z : State) (a0 : Array Value) (G1 : Int32) (G3 : Value) (hX : Ctx Z a0 G1 G3) (n0 : Nat) (bk : Addr → Prop) (h0 : Heap) (O0 : Old Z n0 h0) (a : Addr) (t : Addr) (kb : ClassId) (N : Nat) (cs : List Int32) (pf_0 : SbL Z h0 a t kb N cs) (ws : List Jvm.Cond) : Met l Z EL1 n0 bk (⟨"java/lang/AbstractStringBuilder", "length", "()I"⟩ : MethodName) jdk_68_method_6_code 1 (Option.some FieldType.int) RM_asl #[(.ref a)] h0 (Q_asl Z G1 G3 a t kb N cs h0 n0 bk) ws := by
  have hX' := hX
  obtain ⟨hw, hE, S1, P1, S3, P3⟩ := hX'
  have hSA := sa_of hw
  have z0 : n0 ≤ h0.size := by rw [← O0.1]; exact O0.2.1
  refine Met.of (by decide +kernel) O0 hE ?_
  intro p e s m below meth c hx hby hml hret hlk hnm
  refine k_cast (ef_asl m a) ?_
  show Run p l e _ s m _ below meth c Z EL1 _ n0 bk h0 0 0 (mkF m 0 #[.val (.ref a)] []) _
  have ne_1 : @Ne Nat a t := pf_0.2.2.2.2.2.2.2.2
  have lt_2 : @LT.lt Nat _ a (Array.size h0) := pf_0.lt1
  have lt_3 : @LT.lt Nat _ t (Array.size h0) := pf_0.lt2
  refine k_pure (g' := (mkF m 1 #[.val (.ref a)] [(.ref a)])) (fun TT HH tt kk => XS.aloadN HH hx rfl (hb hby d_jdk_68_m_6_0) rfl rfl kk) ?_
  refine k_getF hx (host := "") (Or.inl (hw _ (List.mem_of_getElem? (i := 97) rfl))) Via.refl pf_0.2.2.2.1 rfl rfl (hb hby d_jdk_68_m_6_1) ?_
  show Run p l e _ s m _ below meth c Z EL1 _ n0 bk h0 0 0 (mkF m 4 #[.val (.ref a)] [(.int (Int32.ofNat (cs).length))]) _
  exact k_retI hx hlk hret (hb hby d_jdk_68_m_6_4) (by decide) (by decide) ⟨rfl, rfl, rfl⟩
def Q_sbl (Z : State) (G1 : Int32) (G3 : Value) (a : Addr) (t : Addr) (kb : ClassId) (N : Nat) (cs : List Int32) (h0 : Heap) (n0 : Nat) (bk : Addr → Prop) (v : Option Value) (h : Heap) (bk' : Addr → Prop) : Prop := v = some (.int (Int32.ofNat (cs).length)) ∧ h0 = h ∧ bk = bk'
theorem d_jdk_67_m_93_0 : decode jdk_67_method_93_code 0 = .ok (.aload_n 0, 1) := by decide +kernel
theorem d_jdk_67_m_93_1 : decode jdk_67_method_93_code 1 = .ok (.invokespecial 343, 3) := by decide +kernel
theorem d_jdk_67_m_93_4 : decode jdk_67_method_93_code 4 = .ok (.ireturn, 1) := by decide +kernel
abbrev RM_sbl : Room := { frames := 1, cells := 0, slots := 0, locals := 12 }
theorem ef_sbl (m : MethodId) (x0 : Addr) : entryFrame m #[(.ref x0)] 1 = mkF m 0 #[.val (.ref x0)] [] := by first | (simp [entryFrame, mkF, argsToLocals, Value.category]; done) | rfl
set_option maxRecDepth 65536 in
set_option maxHeartbeats 40000000 in
theorem rm_sbl (l : Launch) (Z : State) (a0 : Array Value) (G1 : Int32) (G3 : Value) (hX : Ctx Z a0 G1 G3) (n0 : Nat) (bk : Addr → Prop) (h0 : Heap) (O0 : Old Z n0 h0) (a : Addr) (t : Addr) (kb : ClassId) (N : Nat) (cs : List Int32) (pf_0 : SbL Z h0 a t kb N cs) (ws : List Jvm.Cond) : Met l Z EL1 n0 bk (⟨"java/lang/StringBuilder", "length", "()I"⟩ : MethodName) jdk_67_method_93_code 1 (Option.some FieldType.int) RM_sbl #[(.ref a)] h0 (Q_sbl Z G1 G3 a t kb N cs h0 n0 bk) ws := by
  have hX' := hX
  obtain ⟨hw, hE, S1, P1, S3, P3⟩ := hX'
  have hSA := sa_of hw
  have z0 : n0 ≤ h0.size := by rw [← O0.1]; exact O0.2.1
  refine Met.of (by decide +kernel) O0 hE ?_
  intro p e s m below meth c hx hby hml hret hlk hnm
  refine k_cast (ef_sbl m a) ?_
  show Run p l e _ s m _ below meth c Z EL1 _ n0 bk h0 0 0 (mkF m 0 #[.val (.ref a)] []) _
  have ne_1 : @Ne Nat a t := pf_0.2.2.2.2.2.2.2.2
  have lt_2 : @LT.lt Nat _ a (Array.size h0) := pf_0.lt1
  have lt_3 : @LT.lt Nat _ t (Array.size h0) := pf_0.lt2
  refine k_pure (g' := (mkF m 1 #[.val (.ref a)] [(.ref a)])) (fun TT HH tt kk => XS.aloadN HH hx rfl (hb hby d_jdk_67_m_93_0) rfl rfl kk) ?_
  refine k_callX hx (y := (⟨"java/lang/AbstractStringBuilder", "length", "()I"⟩ : MethodName)) (K := "java/lang/StringBuilder") (hw _ (List.mem_of_getElem? (i := 150) rfl)) (same_of (by decide) (hw _ (List.mem_of_getElem? (i := 145) rfl)) (nf_of (y' := (⟨"java/lang/AbstractStringBuilder", "ensureCapacityInternal", "(I)V"⟩ : MethodName)) rfl (hw _ (List.mem_of_getElem? (i := 102) rfl)))) (hw _ (List.mem_of_getElem? (i := 146) rfl)) (hw _ (List.mem_of_getElem? (i := 84) rfl)) (by decide) (hw _ (List.mem_of_getElem? (i := 151) rfl)) (W := 0) (a := a) (argsL := []) (rest := []) (Pays.of_met (rm_asl l Z a0 G1 G3 hX n0 bk h0 O0 a t kb N cs pf_0 []) (hw _ (List.mem_of_getElem? (i := 151) rfl)) (hw _ (List.mem_of_getElem? (i := 69) rfl)) (by decide) (by decide)) (Ins.self pf_0.1) rfl (by rw [hml]; rfl) (lenOf pd__28__29_I rfl) rfl (by show 2 * 0 + _ ≤ _; exact Nat.le_of_eq rfl) (hb hby d_jdk_67_m_93_1) (by decide) (by decide) ?_
  intro v_4 h_5 bk_6 O_7 z_8 Q_9
  obtain ⟨rfl, rfl, rfl⟩ := Q_9
  show Run p l e _ s m _ below meth c Z EL1 _ n0 bk h0 0 0 (mkF m 4 #[.val (.ref a)] [(.int (Int32.ofNat (cs).length))]) _
  exact k_retI hx hlk hret (hb hby d_jdk_67_m_93_4) (by decide) (by decide) ⟨rfl, rfl, rfl⟩
def Q_ail (Z : State) (G1 : Int32) (G3 : Value) (a : Addr) (t : Addr) (kb : ClassId) (N : Nat) (cs : List Int32) (h0 : Heap) (n0 : Nat) (bk : Addr → Prop) (v : Option Value) (h : Heap) (bk' : Addr → Prop) : Prop := v = some (.int (1 : Int32)) ∧ h0 = h ∧ bk = bk'
theorem d_jdk_68_m_68_0 : decode jdk_68_method_68_code 0 = .ok (.getstatic 18, 3) := by decide +kernel
theorem d_jdk_68_m_68_3 : decode jdk_68_method_68_code 3 = .ok (.ifCond .eq 14, 3) := by decide +kernel
theorem d_jdk_68_m_68_6 : decode jdk_68_method_68_code 6 = .ok (.aload_n 0, 1) := by decide +kernel
theorem d_jdk_68_m_68_7 : decode jdk_68_method_68_code 7 = .ok (.getfield 22, 3) := by decide +kernel
theorem d_jdk_68_m_68_10 : decode jdk_68_method_68_code 10 = .ok (.ifCond .ne 7, 3) := by decide +kernel
theorem d_jdk_68_m_68_13 : decode jdk_68_method_68_code 13 = .ok (.iconst 1, 1) := by decide +kernel
theorem d_jdk_68_m_68_14 : decode jdk_68_method_68_code 14 = .ok (.goto 4, 3) := by decide +kernel
theorem d_jdk_68_m_68_18 : decode jdk_68_method_68_code 18 = .ok (.ireturn, 1) := by decide +kernel
abbrev RM_ail : Room := { frames := 0, cells := 0, slots := 0, locals := 0 }
theorem ef_ail (m : MethodId) (x0 : Addr) : entryFrame m #[(.ref x0)] 1 = mkF m 0 #[.val (.ref x0)] [] := by first | (simp [entryFrame, mkF, argsToLocals, Value.category]; done) | rfl
set_option maxRecDepth 65536 in
set_option maxHeartbeats 40000000 in
theorem rm_ail (l : Launch) (Z : State) (a0 : Array Value) (G1 : Int32) (G3 : Value) (hX : Ctx Z a0 G1 G3) (n0 : Nat) (bk : Addr → Prop) (h0 : Heap) (O0 : Old Z n0 h0) (a : Addr) (t : Addr) (kb : ClassId) (N : Nat) (cs : List Int32) (pf_0 : SbL Z h0 a t kb N cs) (ws : List Jvm.Cond) : Met l Z EL1 n0 bk (⟨"java/lang/AbstractStringBuilder", "isLatin1", "()Z"⟩ : MethodName) jdk_68_method_68_code 1 (Option.some FieldType.boolean) RM_ail #[(.ref a)] h0 (Q_ail Z G1 G3 a t kb N cs h0 n0 bk) ws := by
  have hX' := hX
  obtain ⟨hw, hE, S1, P1, S3, P3⟩ := hX'
  have hSA := sa_of hw
  have z0 : n0 ≤ h0.size := by rw [← O0.1]; exact O0.2.1
  refine Met.of (by decide +kernel) O0 hE ?_
  intro p e s m below meth c hx hby hml hret hlk hnm
  refine k_cast (ef_ail m a) ?_
  show Run p l e _ s m _ below meth c Z EL1 _ n0 bk h0 0 0 (mkF m 0 #[.val (.ref a)] []) _
  have ne_1 : @Ne Nat a t := pf_0.2.2.2.2.2.2.2.2
  have lt_2 : @LT.lt Nat _ a (Array.size h0) := pf_0.lt1
  have lt_3 : @LT.lt Nat _ t (Array.size h0) := pf_0.lt2
  refine k_getS hx (host := "") (Or.inl (hw _ (List.mem_of_getElem? (i := 72) rfl))) Via.refl (S1.ext O0.2) rfl (hb hby d_jdk_68_m_68_0) ?_
  show Run p l e _ s m _ below meth c Z EL1 _ n0 bk h0 0 0 (mkF m 3 #[.val (.ref a)] [(.int G1)]) _
  refine k_pure (g' := (mkF m 6 #[.val (.ref a)] [])) (fun TT HH tt kk => XS.ifNo HH hx rfl (hb hby d_jdk_68_m_68_3) rfl ((if0 _ _).trans (feq P1).1) kk) ?_
  refine k_pure (g' := (mkF m 7 #[.val (.ref a)] [(.ref a)])) (fun TT HH tt kk => XS.aloadN HH hx rfl (hb hby d_jdk_68_m_68_6) rfl rfl kk) ?_
  refine k_getF hx (host := "") (Or.inl (hw _ (List.mem_of_getElem? (i := 75) rfl))) Via.refl pf_0.2.1 rfl rfl (hb hby d_jdk_68_m_68_7) ?_
  show Run p l e _ s m _ below meth c Z EL1 _ n0 bk h0 0 0 (mkF m 10 #[.val (.ref a)] [(.int (0 : Int32))]) _
  refine k_pure (g' := (mkF m 13 #[.val (.ref a)] [])) (fun TT HH tt kk => XS.ifNo HH hx rfl (hb hby d_jdk_68_m_68_10) rfl ((if0 _ _).trans (teq (by decide : ((0 : Int32) = (0 : Int32)))).2) kk) ?_
  refine k_pure (g' := (mkF m 14 #[.val (.ref a)] [(.int (1 : Int32))])) (fun TT HH tt kk => XS.iconst HH hx rfl (hb hby d_jdk_68_m_68_13) kk) ?_
  refine k_pure (g' := (mkF m 18 #[.val (.ref a)] [(.int (1 : Int32))])) (fun TT HH tt kk => XS.goto HH hx rfl (pc0 := 14) (pc' := 18) rfl (hb hby d_jdk_68_m_68_14) (by decide) (by decide) kk) ?_
  exact k_retN hx hlk hret (by simp) (hb hby d_jdk_68_m_68_18) (by decide) (by decide) ⟨rfl, rfl, rfl⟩
def Q_ckl (Z : State) (G1 : Int32) (G3 : Value) (n : Int32) (h0 : Heap) (n0 : Nat) (bk : Addr → Prop) (v : Option Value) (h : Heap) (bk' : Addr → Prop) : Prop := v = none ∧ h0 = h ∧ bk = bk'
theorem d_jdk_65_m_131_0 : decode jdk_65_method_131_code 0 = .ok (.iload_n 1, 1) := by decide +kernel
theorem d_jdk_65_m_131_1 : decode jdk_65_method_131_code 1 = .ok (.iload_n 0, 1) := by decide +kernel
theorem d_jdk_65_m_131_2 : decode jdk_65_method_131_code 2 = .ok (.if_icmp .ge 35, 3) := by decide +kernel
theorem d_jdk_65_m_131_37 : decode jdk_65_method_131_code 37 = .ok (.return_, 1) := by decide +kernel
abbrev RM_ckl : Room := { frames := 0, cells := 0, slots := 0, locals := 0 }
theorem ef_ckl (m : MethodId) (x0 : Int32) (x1 : Int32) : entryFrame m #[(.int x0), (.int x1)] 2 = mkF m 0 #[.val (.int x0), .val (.int x1)] [] := by first | (simp [entryFrame, mkF, argsToLocals, Value.category]; done) | rfl
set_option maxRecDepth 65536 in
set_option maxHeartbeats 40000000 in
theorem rm_ckl (l : Launch) (Z : State) (a0 : Array Value) (G1 : Int32) (G3 : Value) (hX : Ctx Z a0 G1 G3) (n0 : Nat) (bk : Addr → Prop) (h0 : Heap) (O0 : Old Z n0 h0) (n : Int32) (h : ¬ n < (0 : Int32)) (ws : List Jvm.Cond) : Met l Z EL1 n0 bk (⟨"java/util/Arrays", "checkLength", "(II)V"⟩ : MethodName) jdk_65_method_131_code 2 (Option.none : Option FieldType) RM_ckl #[(.int (0 : Int32)), (.int n)] h0 (Q_ckl Z G1 G3 n h0 n0 bk) ws := by
  have hX' := hX
  obtain ⟨hw, hE, S1, P1, S3, P3⟩ := hX'
  have hSA := sa_of hw
  have z0 : n0 ≤ h0.size := by rw [← O0.1]; exact O0.2.1
  refine Met.of (by decide +kernel) O0 hE ?_
  intro p e s m below meth c hx hby hml hret hlk hnm
  refine k_cast (ef_ckl m (0 : Int32) n) ?_
  show Run p l e _ s m _ below meth c Z EL1 _ n0 bk h0 0 0 (mkF m 0 #[.val (.int (0 : Int32)), .val (.int n)] []) _
  refine k_pure (g' := (mkF m 1 #[.val (.int (0 : Int32)), .val (.int n)] [(.int n)])) (fun TT HH tt kk => XS.iloadN HH hx rfl (hb hby d_jdk_65_m_131_0) rfl kk) ?_
  refine k_pure (g' := (mkF m 2 #[.val (.int (0 : Int32)), .val (.int n)] [(.int (0 : Int32)), (.int n)])) (fun TT HH tt kk => XS.iloadN HH hx rfl (hb hby d_jdk_65_m_131_1) rfl kk) ?_
  refine k_pure (g' := (mkF m 37 #[.val (.int (0 : Int32)), .val (.int n)] [])) (fun TT HH tt kk => XS.icmpYes HH hx rfl (pc0 := 2) (pc' := 37) rfl (hb hby d_jdk_65_m_131_2) rfl (flt h).2.1 (by decide) (by decide) kk) ?_
  exact k_ret0 hx hlk hret (hb hby d_jdk_65_m_131_37) (by decide) (by decide) ⟨rfl, rfl, rfl⟩
def Q_crb (Z : State) (G1 : Int32) (G3 : Value) (t : Addr) (kb : ClassId) (N : Nat) (cs : List Int32) (h0 : Heap) (n0 : Nat) (bk : Addr → Prop) (v : Option Value) (h : Heap) (bk' : Addr → Prop) : Prop := ∃ (u : Addr), ∃ (ku : ClassId), v = some (.ref u) ∧ bk = bk' ∧ Keep h0 h [] ∧ (Arv Z h u ku .byte (Int32.ofNat (cs).length) (((cs).map (fun c => c.toInt8.toInt32)).map Value.int) (.int 0)) ∧ (@LE.le Nat _ (Array.size h0) u)
theorem d_jdk_65_m_133_0 : decode jdk_65_method_133_code 0 = .ok (.iload_n 1, 1) := by decide +kernel
theorem d_jdk_65_m_133_1 : decode jdk_65_method_133_code 1 = .ok (.iload_n 2, 1) := by decide +kernel
theorem d_jdk_65_m_133_2 : decode jdk_65_method_133_code 2 = .ok (.invokestatic 343, 3) := by decide +kernel
theorem pd__28_II_29_V : parseMethodDescriptor "(II)V" = some ⟨[.int, .int], none⟩ := by decide +kernel
theorem d_jdk_65_m_133_5 : decode jdk_65_method_133_code 5 = .ok (.iload_n 2, 1) := by decide +kernel
theorem d_jdk_65_m_133_6 : decode jdk_65_method_133_code 6 = .ok (.iload_n 1, 1) := by decide +kernel
theorem d_jdk_65_m_133_7 : decode jdk_65_method_133_code 7 = .ok (.isub, 1) := by decide +kernel
theorem d_jdk_65_m_133_8 : decode jdk_65_method_133_code 8 = .ok (.istore_n 3, 1) := by decide +kernel
theorem d_jdk_65_m_133_9 : decode jdk_65_method_133_code 9 = .ok (.iload_n 3, 1) := by decide +kernel
theorem d_jdk_65_m_133_10 : decode jdk_65_method_133_code 10 = .ok (.newarray .byte, 2) := by decide +kernel
theorem d_jdk_65_m_133_12 : decode jdk_65_method_133_code 12 = .ok (.astore 4, 2) := by decide +kernel
theorem d_jdk_65_m_133_14 : decode jdk_65_method_133_code 14 = .ok (.aload_n 0, 1) := by decide +kernel
theorem d_jdk_65_m_133_15 : decode jdk_65_method_133_code 15 = .ok (.iload_n 1, 1) := by decide +kernel
theorem d_jdk_65_m_133_16 : decode jdk_65_method_133_code 16 = .ok (.aload 4, 2) := by decide +kernel
theorem d_jdk_65_m_133_18 : decode jdk_65_method_133_code 18 = .ok (.iconst 0, 1) := by decide +kernel
theorem d_jdk_65_m_133_19 : decode jdk_65_method_133_code 19 = .ok (.aload_n 0, 1) := by decide +kernel
theorem d_jdk_65_m_133_20 : decode jdk_65_method_133_code 20 = .ok (.arraylength, 1) := by decide +kernel
theorem d_jdk_65_m_133_21 : decode jdk_65_method_133_code 21 = .ok (.iload_n 1, 1) := by decide +kernel
theorem d_jdk_65_m_133_22 : decode jdk_65_method_133_code 22 = .ok (.isub, 1) := by decide +kernel
theorem d_jdk_65_m_133_23 : decode jdk_65_method_133_code 23 = .ok (.iload_n 3, 1) := by decide +kernel
theorem d_jdk_65_m_133_24 : decode jdk_65_method_133_code 24 = .ok (.invokestatic 304, 3) := by decide +kernel
theorem pd__28_II_29_I : parseMethodDescriptor "(II)I" = some ⟨[.int, .int], some .int⟩ := by decide +kernel
theorem d_jdk_65_m_133_27 : decode jdk_65_method_133_code 27 = .ok (.invokestatic 150, 3) := by decide +kernel
theorem d_jdk_65_m_133_30 : decode jdk_65_method_133_code 30 = .ok (.aload 4, 2) := by decide +kernel
theorem d_jdk_65_m_133_32 : decode jdk_65_method_133_code 32 = .ok (.areturn, 1) := by decide +kernel
abbrev RM_crb : Room := { frames := 1, cells := 1, slots := 15, locals := 18 }
theorem ef_crb (m : MethodId) (x0 : Addr) (x1 : Int32) (x2 : Int32) : entryFrame m #[(.ref x0), (.int x1), (.int x2)] 5 = mkF m 0 #[.val (.ref x0), .val (.int x1), .val (.int x2), .unset, .unset] [] := by first | (simp [entryFrame, mkF, argsToLocals, Value.category]; done) | rfl
set_option maxRecDepth 65536 in
set_option maxHeartbeats 40000000 in
theorem rm_crb (l : Launch) (Z : State) (a0 : Array Value) (G1 : Int32) (G3 : Value) (hX : Ctx Z a0 G1 G3) (n0 : Nat) (bk : Addr → Prop) (h0 : Heap) (O0 : Old Z n0 h0) (t : Addr) (kb : ClassId) (N : Nat) (cs : List Int32) (pf_0 : Arv Z h0 t kb .byte (Int32.ofNat N) (((cs).map (fun c => c.toInt8.toInt32)).map Value.int) (.int 0)) (l1 : cs.length < N) (l2 : N ≤ 4000) (l3 : cs.length ≤ 15) (hbl : ∀ y, bk y → @LT.lt Nat _ y (Array.size h0)) (ws : List Jvm.Cond) : Met l Z EL1 n0 bk (⟨"java/util/Arrays", "copyOfRangeByte", "([BII)[B"⟩ : MethodName) jdk_65_method_133_code 5 (Option.some (FieldType.array FieldType.byte)) RM_crb #[(.ref t), (.int (0 : Int32)), (.int (Int32.ofNat (cs).length))] h0 (Q_crb Z G1 G3 t kb N cs h0 n0 bk) ws := by
  have hX' := hX
  obtain ⟨hw, hE, S1, P1, S3, P3⟩ := hX'
  have hSA := sa_of hw
  have z0 : n0 ≤ h0.size := by rw [← O0.1]; exact O0.2.1
  refine Met.of (by decide +kernel) O0 hE ?_
  intro p e s m below meth c hx hby hml hret hlk hnm
  refine k_cast (ef_crb m t (0 : Int32) (Int32.ofNat (cs).length)) ?_
  show Run p l e _ s m _ below meth c Z EL1 _ n0 bk h0 0 0 (mkF m 0 #[.val (.ref t), .val (.int (0 : Int32)), .val (.int (Int32.ofNat (cs).length)), .unset, .unset] []) _
  have lt_1 : @LT.lt Nat _ t (Array.size h0) := pf_0.lt
  refine k_pure (g' := (mkF m 1 #[.val (.ref t), .val (.int (0 : Int32)), .val (.int (Int32.ofNat (cs).length)), .unset, .unset] [(.int (0 : Int32))])) (fun TT HH tt kk => XS.iloadN HH hx rfl (hb hby d_jdk_65_m_133_0) rfl kk) ?_
  refine k_pure (g' := (mkF m 2 #[.val (.ref t), .val (.int (0 : Int32)), .val (.int (Int32.ofNat (cs).length)), .unset, .unset] [(.int (Int32.ofNat (cs).length)), (.int (0 : Int32))])) (fun TT HH tt kk => XS.iloadN HH hx rfl (hb hby d_jdk_65_m_133_1) rfl kk) ?_
  refine k_callS hx (y := (⟨"java/util/Arrays", "checkLength", "(II)V"⟩ : MethodName)) (hw _ (List.mem_of_getElem? (i := 164) rfl)) (hw _ (List.mem_of_getElem? (i := 165) rfl)) (hw _ (List.mem_of_getElem? (i := 159) rfl)) (hw _ (List.mem_of_getElem? (i := 166) rfl)) (by decide) (W := 0) (argsL := [(.int (0 : Int32)), (.int (Int32.ofNat (cs).length))]) (rest := []) (Pays.of_met (rm_ckl l Z a0 G1 G3 hX n0 bk h0 O0 (Int32.ofNat (cs).length) (not_lt_nat (n := 0) (Nat.zero_le _) (by omega)) []) (hw _ (List.mem_of_getElem? (i := 166) rfl)) (hw _ (List.mem_of_getElem? (i := 159) rfl)) (by decide) (by decide)) rfl (by rw [hml]; rfl) (lenOf pd__28_II_29_V rfl) rfl (by show 2 * 0 + _ ≤ _; exact Nat.le_of_eq rfl) (hb hby d_jdk_65_m_133_2) (by decide) (by decide) ?_
  intro v_2 h_3 bk_4 O_5 z_6 Q_7
  obtain ⟨rfl, rfl, rfl⟩ := Q_7
  show Run p l e _ s m _ below meth c Z EL1 _ n0 bk h0 0 0 (mkF m 5 #[.val (.ref t), .val (.int (0 : Int32)), .val (.int (Int32.ofNat (cs).length)), .unset, .unset] []) _
  refine k_pure (g' := (mkF m 6 #[.val (.ref t), .val (.int (0 : Int32)), .val (.int (Int32.ofNat (cs).length)), .unset, .unset] [(.int (Int32.ofNat (cs).length))])) (fun TT HH tt kk => XS.iloadN HH hx rfl (hb hby d_jdk_65_m_133_5) rfl kk) ?_
  refine k_pure (g' := (mkF m 7 #[.val (.ref t), .val (.int (0 : Int32)), .val (.int (Int32.ofNat (cs).length)), .unset, .unset] [(.int (0 : Int32)), (.int (Int32.ofNat (cs).length))])) (fun TT HH tt kk => XS.iloadN HH hx rfl (hb hby d_jdk_65_m_133_6) rfl kk) ?_
  refine k_pure (g' := (mkF m 8 #[.val (.ref t), .val (.int (0 : Int32)), .val (.int (Int32.ofNat (cs).length)), .unset, .unset] [(.int ((Int32.ofNat (cs).length) - (0 : Int32)))])) (fun TT HH tt kk => XS.isub HH hx rfl (hb hby d_jdk_65_m_133_7) rfl kk) ?_
  rw [sub0]
  show Run p l e _ s m _ below meth c Z EL1 _ n0 bk h0 0 0 (mkF m 8 #[.val (.ref t), .val (.int (0 : Int32)), .val (.int (Int32.ofNat (cs).length)), .unset, .unset] [(.int (Int32.ofNat (cs).length))]) _
  refine k_pure (g' := (mkF m 9 #[.val (.ref t), .val (.int (0 : Int32)), .val (.int (Int32.ofNat (cs).length)), .val (.int (Int32.ofNat (cs).length)), .unset] [])) (fun TT HH tt kk => XS.istoreN HH hx rfl (hb hby d_jdk_65_m_133_8) rfl (l' := #[.val (.ref t), .val (.int (0 : Int32)), .val (.int (Int32.ofNat (cs).length)), .val (.int (Int32.ofNat (cs).length)), .unset]) rfl kk) ?_
  refine k_pure (g' := (mkF m 10 #[.val (.ref t), .val (.int (0 : Int32)), .val (.int (Int32.ofNat (cs).length)), .val (.int (Int32.ofNat (cs).length)), .unset] [(.int (Int32.ofNat (cs).length))])) (fun TT HH tt kk => XS.iloadN HH hx rfl (hb hby d_jdk_65_m_133_9) rfl kk) ?_
  refine k_newP hx (hw _ (List.mem_of_getElem? (i := 27) rfl)) rfl (hb hby d_jdk_65_m_133_10) rfl (not_lt_nat (n := 0) (Nat.zero_le _) (by omega)) (cap := 15) (by rw [clampN (by omega)]; exact l3) (by decide) (by decide) (by decide) "[B" (by decide +kernel) ?_
  intro h_9 a_8 k_10 g_11 O_12 E_13 A_14 X_15
  have z_16 := E_13.1
  have lt_17 : @LT.lt Nat _ a_8 (Array.size h_9) := A_14.lt
  have nb_18 : ¬ bk a_8 := fun q => Nat.not_le_of_lt (hbl _ q) (show @LE.le Nat _ (Array.size h0) a_8 by omega)
  show Run p l e _ s m _ below meth c Z EL1 _ n0 bk h_9 1 15 (mkF m 12 #[.val (.ref t), .val (.int (0 : Int32)), .val (.int (Int32.ofNat (cs).length)), .val (.int (Int32.ofNat (cs).length)), .unset] [(.ref a_8)]) _
  refine k_pure (g' := (mkF m 14 #[.val (.ref t), .val (.int (0 : Int32)), .val (.int (Int32.ofNat (cs).length)), .val (.int (Int32.ofNat (cs).length)), .val (.ref a_8)] [])) (fun TT HH tt kk => XS.astore HH hx rfl (hb hby d_jdk_65_m_133_12) rfl rfl (l' := #[.val (.ref t), .val (.int (0 : Int32)), .val (.int (Int32.ofNat (cs).length)), .val (.int (Int32.ofNat (cs).length)), .val (.ref a_8)]) rfl kk) ?_
  refine k_pure (g' := (mkF m 15 #[.val (.ref t), .val (.int (0 : Int32)), .val (.int (Int32.ofNat (cs).length)), .val (.int (Int32.ofNat (cs).length)), .val (.ref a_8)] [(.ref t)])) (fun TT HH tt kk => XS.aloadN HH hx rfl (hb hby d_jdk_65_m_133_14) rfl rfl kk) ?_
  refine k_pure (g' := (mkF m 16 #[.val (.ref t), .val (.int (0 : Int32)), .val (.int (Int32.ofNat (cs).length)), .val (.int (Int32.ofNat (cs).length)), .val (.ref a_8)] [(.int (0 : Int32)), (.ref t)])) (fun TT HH tt kk => XS.iloadN HH hx rfl (hb hby d_jdk_65_m_133_15) rfl kk) ?_
  refine k_pure (g' := (mkF m 18 #[.val (.ref t), .val (.int (0 : Int32)), .val (.int (Int32.ofNat (cs).length)), .val (.int (Int32.ofNat (cs).length)), .val (.ref a_8)] [(.ref a_8), (.int (0 : Int32)), (.ref t)])) (fun TT HH tt kk => XS.aload HH hx rfl (hb hby d_jdk_65_m_133_16) rfl rfl kk) ?_
  refine k_pure (g' := (mkF m 19 #[.val (.ref t), .val (.int (0 : Int32)), .val (.int (Int32.ofNat (cs).length)), .val (.int (Int32.ofNat (cs).length)), .val (.ref a_8)] [(.int (0 : Int32)), (.ref a_8), (.int (0 : Int32)), (.ref t)])) (fun TT HH tt kk => XS.iconst HH hx rfl (hb hby d_jdk_65_m_133_18) kk) ?_
  refine k_pure (g' := (mkF m 20 #[.val (.ref t), .val (.int (0 : Int32)), .val (.int (Int32.ofNat (cs).length)), .val (.int (Int32.ofNat (cs).length)), .val (.ref a_8)] [(.ref t), (.int (0 : Int32)), (.ref a_8), (.int (0 : Int32)), (.ref t)])) (fun TT HH tt kk => XS.aloadN HH hx rfl (hb hby d_jdk_65_m_133_19) rfl rfl kk) ?_
  have F_19 : Arv Z h_9 t kb .byte (Int32.ofNat N) (((cs).map (fun c => c.toInt8.toInt32)).map Value.int) (.int 0) := (pf_0.ext E_13)
  refine k_alen hx F_19 rfl rfl (hb hby d_jdk_65_m_133_20) ?_
  show Run p l e _ s m _ below meth c Z EL1 _ n0 bk h_9 1 15 (mkF m 21 #[.val (.ref t), .val (.int (0 : Int32)), .val (.int (Int32.ofNat (cs).length)), .val (.int (Int32.ofNat (cs).length)), .val (.ref a_8)] [(.int (Int32.ofNat N)), (.int (0 : Int32)), (.ref a_8), (.int (0 : Int32)), (.ref t)]) _
  refine k_pure (g' := (mkF m 22 #[.val (.ref t), .val (.int (0 : Int32)), .val (.int (Int32.ofNat (cs).length)), .val (.int (Int32.ofNat (cs).length)), .val (.ref a_8)] [(.int (0 : Int32)), (.int (Int32.ofNat N)), (.int (0 : Int32)), (.ref a_8), (.int (0 : Int32)), (.ref t)])) (fun TT HH tt kk => XS.iloadN HH hx rfl (hb hby d_jdk_65_m_133_21) rfl kk) ?_
  refine k_pure (g' := (mkF m 23 #[.val (.ref t), .val (.int (0 : Int32)), .val (.int (Int32.ofNat (cs).length)), .val (.int (Int32.ofNat (cs).length)), .val (.ref a_8)] [(.int ((Int32.ofNat N) - (0 : Int32))), (.int (0 : Int32)), (.ref a_8), (.int (0 : Int32)), (.ref t)])) (fun TT HH tt kk => XS.isub HH hx rfl (hb hby d_jdk_65_m_133_22) rfl kk) ?_
  rw [sub0]
  show Run p l e _ s m _ below meth c Z EL1 _ n0 bk h_9 1 15 (mkF m 23 #[.val (.ref t), .val (.int (0 : Int32)), .val (.int (Int32.ofNat (cs).length)), .val (.int (Int32.ofNat (cs).length)), .val (.ref a_8)] [(.int (Int32.ofNat N)), (.int (0 : Int32)), (.ref a_8), (.int (0 : Int32)), (.ref t)]) _
  refine k_pure (g' := (mkF m 24 #[.val (.ref t), .val (.int (0 : Int32)), .val (.int (Int32.ofNat (cs).length)), .val (.int (Int32.ofNat (cs).length)), .val (.ref a_8)] [(.int (Int32.ofNat (cs).length)), (.int (Int32.ofNat N)), (.int (0 : Int32)), (.ref a_8), (.int (0 : Int32)), (.ref t)])) (fun TT HH tt kk => XS.iloadN HH hx rfl (hb hby d_jdk_65_m_133_23) rfl kk) ?_
  refine k_callS hx (y := (⟨"java/lang/Math", "min", "(II)I"⟩ : MethodName)) (hw _ (List.mem_of_getElem? (i := 167) rfl)) (hw _ (List.mem_of_getElem? (i := 168) rfl)) (hw _ (List.mem_of_getElem? (i := 169) rfl)) (hw _ (List.mem_of_getElem? (i := 170) rfl)) (by decide) (W := 4) (argsL := [(.int (Int32.ofNat N)), (.int (Int32.ofNat (cs).length))]) (rest := [(.int (0 : Int32)), (.ref a_8), (.int (0 : Int32)), (.ref t)]) (Pays.of_met (rm_min1 l Z a0 G1 G3 hX n0 bk h_9 O_12 (Int32.ofNat N) (Int32.ofNat (cs).length) (lt_nat l1 l2) []) (hw _ (List.mem_of_getElem? (i := 170) rfl)) (hw _ (List.mem_of_getElem? (i := 169) rfl)) (by decide) (by decide)) rfl (by rw [hml]; rfl) (lenOf pd__28_II_29_I rfl) rfl (by show 2 * 0 + _ ≤ _; exact Nat.le_of_eq rfl) (hb hby d_jdk_65_m_133_24) (by decide) (by decide) ?_
  intro v_20 h_21 bk_22 O_23 z_24 Q_25
  obtain ⟨rfl, rfl, rfl⟩ := Q_25
  show Run p l e _ s m _ below meth c Z EL1 _ n0 bk h_9 1 15 (mkF m 27 #[.val (.ref t), .val (.int (0 : Int32)), .val (.int (Int32.ofNat (cs).length)), .val (.int (Int32.ofNat (cs).length)), .val (.ref a_8)] [(.int (Int32.ofNat (cs).length)), (.int (0 : Int32)), (.ref a_8), (.int (0 : Int32)), (.ref t)]) _
  have B_26 : Arv Z h_9 a_8 k_10 .byte (Int32.ofNat (cs).length) (([] : List Value) ++ List.replicate (cs).length (Value.int 0)) (.int (0 : Int32)) := Arv.pad A_14 (pad_rep [] (.int 0) (cs).length)
  refine k_cpA hx (hw _ (List.mem_of_getElem? (i := 171) rfl)) (hw _ (List.mem_of_getElem? (i := 123) rfl)) (hw _ (List.mem_of_getElem? (i := 121) rfl)) (hw _ (List.mem_of_getElem? (i := 122) rfl)) F_19 B_26 (Or.inl ⟨rfl, rfl⟩) (by decide) (by decide) (not_lt_nat (n := 0) (Nat.zero_le _) (by omega)) (by rw [clampN (by omega), clampN (by omega)]; exact Nat.le_trans (Nat.le_of_eq (Nat.zero_add _)) (Nat.le_of_lt l1)) (Nat.le_of_eq (Nat.zero_add _)) rfl (by rw [clampN (by omega)]; simp) (by omega) nb_18 rfl (by rw [hml]; rfl) rfl (hb hby d_jdk_65_m_133_27) (by decide) (W := 0) (by show 2 * 0 + _ ≤ _; exact Nat.le_of_eq rfl) (by decide) ?_
  intro h_27 O_28 K_29 V_30
  have z_31 := K_29.1
  have V_32 : Arv Z h_27 a_8 k_10 .byte (Int32.ofNat (cs).length) (((cs).map (fun c => c.toInt8.toInt32)).map Value.int) (.int (0 : Int32)) := (cpy_all (cs := cs) (by omega)) ▸ V_30
  show Run p l e _ s m _ below meth c Z EL1 _ n0 bk h_27 1 15 (mkF m 30 #[.val (.ref t), .val (.int (0 : Int32)), .val (.int (Int32.ofNat (cs).length)), .val (.int (Int32.ofNat (cs).length)), .val (.ref a_8)] []) _
  refine k_pure (g' := (mkF m 32 #[.val (.ref t), .val (.int (0 : Int32)), .val (.int (Int32.ofNat (cs).length)), .val (.int (Int32.ofNat (cs).length)), .val (.ref a_8)] [(.ref a_8)])) (fun TT HH tt kk => XS.aload HH hx rfl (hb hby d_jdk_65_m_133_30) rfl rfl kk) ?_
  exact k_retA hx hlk hret rfl rfl rfl (hb hby d_jdk_65_m_133_32) (by decide) (by decide) ⟨_, _, rfl, rfl, (((Keep.refl _ _).ext E_13).trans K_29 (kkS (Or.inr (by omega)) kk0)), V_32, (by omega)⟩
def Q_cor (Z : State) (G1 : Int32) (G3 : Value) (t : Addr) (kb : ClassId) (N : Nat) (cs : List Int32) (h0 : Heap) (n0 : Nat) (bk : Addr → Prop) (v : Option Value) (h : Heap) (bk' : Addr → Prop) : Prop := ∃ (u : Addr), ∃ (ku : ClassId), v = some (.ref u) ∧ bk = bk' ∧ Keep h0 h [] ∧ (Arv Z h u ku .byte (Int32.ofNat (cs).length) (((cs).map (fun c => c.toInt8.toInt32)).map Value.int) (.int 0)) ∧ (@LE.le Nat _ (Array.size h0) u)
theorem d_jdk_65_m_132_0 : decode jdk_65_method_132_code 0 = .ok (.iload_n 1, 1) := by decide +kernel
theorem d_jdk_65_m_132_1 : decode jdk_65_method_132_code 1 = .ok (.ifCond .ne 9, 3) := by decide +kernel
theorem d_jdk_65_m_132_4 : decode jdk_65_method_132_code 4 = .ok (.iload_n 2, 1) := by decide +kernel
theorem d_jdk_65_m_132_5 : decode jdk_65_method_132_code 5 = .ok (.aload_n 0, 1) := by decide +kernel
theorem d_jdk_65_m_132_6 : decode jdk_65_method_132_code 6 = .ok (.arraylength, 1) := by decide +kernel
theorem d_jdk_65_m_132_7 : decode jdk_65_method_132_code 7 = .ok (.if_icmp .eq 10, 3) := by decide +kernel
theorem d_jdk_65_m_132_10 : decode jdk_65_method_132_code 10 = .ok (.aload_n 0, 1) := by decide +kernel
theorem d_jdk_65_m_132_11 : decode jdk_65_method_132_code 11 = .ok (.iload_n 1, 1) := by decide +kernel
theorem d_jdk_65_m_132_12 : decode jdk_65_method_132_code 12 = .ok (.iload_n 2, 1) := by decide +kernel
theorem d_jdk_65_m_132_13 : decode jdk_65_method_132_code 13 = .ok (.invokestatic 339, 3) := by decide +kernel
theorem pd__28__5b_BII_29__5b_B : parseMethodDescriptor "([BII)[B" = some ⟨[(.array .byte), .int, .int], some (.array .byte)⟩ := by decide +kernel
theorem d_jdk_65_m_132_16 : decode jdk_65_method_132_code 16 = .ok (.areturn, 1) := by decide +kernel
abbrev RM_cor : Room := { frames := 2, cells := 1, slots := 15, locals := 34 }
theorem ef_cor (m : MethodId) (x0 : Addr) (x1 : Int32) (x2 : Int32) : entryFrame m #[(.ref x0), (.int x1), (.int x2)] 3 = mkF m 0 #[.val (.ref x0), .val (.int x1), .val (.int x2)] [] := by first | (simp [entryFrame, mkF, argsToLocals, Value.category]; done) | rfl
set_option maxRecDepth 65536 in
set_option maxHeartbeats 40000000 in
theorem rm_cor (l : Launch) (Z : State) (a0 : Array Value) (G1 : Int32) (G3 : Value) (hX : Ctx Z a0 G1 G3) (n0 : Nat) (bk : Addr → Prop) (h0 : Heap) (O0 : Old Z n0 h0) (t : Addr) (kb : ClassId) (N : Nat) (cs : List Int32) (pf_0 : Arv Z h0 t kb .byte (Int32.ofNat N) (((cs).map (fun c => c.toInt8.toInt32)).map Value.int) (.int 0)) (l1 : cs.length < N) (l2 : N ≤ 4000) (l3 : cs.length ≤ 15) (hbl : ∀ y, bk y → @LT.lt Nat _ y (Array.size h0)) (ws : List Jvm.Cond) : Met l Z EL1 n0 bk (⟨"java/util/Arrays", "copyOfRange", "([BII)[B"⟩ : MethodName) jdk_65_method_132_code 3 (Option.some (FieldType.array FieldType.byte)) RM_cor #[(.ref t), (.int (0 : Int32)), (.int (Int32.ofNat (cs).length))] h0 (Q_cor Z G1 G3 t kb N cs h0 n0 bk) ws := by
  have hX' := hX
  obtain ⟨hw, hE, S1, P1, S3, P3⟩ := hX'
  have hSA := sa_of hw
  have z0 : n0 ≤ h0.size := by rw [← O0.1]; exact O0.2.1
  refine Met.of (by decide +kernel) O0 hE ?_
  intro p e s m below meth c hx hby hml hret hlk hnm
  refine k_cast (ef_cor m t (0 : Int32) (Int32.ofNat (cs).length)) ?_
  show Run p l e _ s m _ below meth c Z EL1 _ n0 bk h0 0 0 (mkF m 0 #[.val (.ref t), .val (.int (0 : Int32)), .val (.int (Int32.ofNat (cs).length))] []) _
  have lt_1 : @LT.lt Nat _ t (Array.size h0) := pf_0.lt
  refine k_pure (g' := (mkF m 1 #[.val (.ref t), .val (.int (0 : Int32)), .val (.int (Int32.ofNat (cs).length))] [(.int (0 : Int32))])) (fun TT HH tt kk => XS.iloadN HH hx rfl (hb hby d_jdk_65_m_132_0) rfl kk) ?_
  refine k_pure (g' := (mkF m 4 #[.val (.ref t), .val (.int (0 : Int32)), .val (.int (Int32.ofNat (cs).length))] [])) (fun TT HH tt kk => XS.ifNo HH hx rfl (hb hby d_jdk_65_m_132_1) rfl ((if0 _ _).trans (teq (by decide : ((0 : Int32) = (0 : Int32)))).2) kk) ?_
  refine k_pure (g' := (mkF m 5 #[.val (.ref t), .val (.int (0 : Int32)), .val (.int (Int32.ofNat (cs).length))] [(.int (Int32.ofNat (cs).length))])) (fun TT HH tt kk => XS.iloadN HH hx rfl (hb hby d_jdk_65_m_132_4) rfl kk) ?_
  refine k_pure (g' := (mkF m 6 #[.val (.ref t), .val (.int (0 : Int32)), .val (.int (Int32.ofNat (cs).length))] [(.ref t), (.int (Int32.ofNat (cs).length))])) (fun TT HH tt kk => XS.aloadN HH hx rfl (hb hby d_jdk_65_m_132_5) rfl rfl kk) ?_
  refine k_alen hx pf_0 rfl rfl (hb hby d_jdk_65_m_132_6) ?_
  show Run p l e _ s m _ below meth c Z EL1 _ n0 bk h0 0 0 (mkF m 7 #[.val (.ref t), .val (.int (0 : Int32)), .val (.int (Int32.ofNat (cs).length))] [(.int (Int32.ofNat N)), (.int (Int32.ofNat (cs).length))]) _
  refine k_pure (g' := (mkF m 10 #[.val (.ref t), .val (.int (0 : Int32)), .val (.int (Int32.ofNat (cs).length))] [])) (fun TT HH tt kk => XS.icmpNo HH hx rfl (hb hby d_jdk_65_m_132_7) rfl (feq (ne_nat l1 l2)).1 kk) ?_
  refine k_pure (g' := (mkF m 11 #[.val (.ref t), .val (.int (0 : Int32)), .val (.int (Int32.ofNat (cs).length))] [(.ref t)])) (fun TT HH tt kk => XS.aloadN HH hx rfl (hb hby d_jdk_65_m_132_10) rfl rfl kk) ?_
  refine k_pure (g' := (mkF m 12 #[.val (.ref t), .val (.int (0 : Int32)), .val (.int (Int32.ofNat (cs).length))] [(.int (0 : Int32)), (.ref t)])) (fun TT HH tt kk => XS.iloadN HH hx rfl (hb hby d_jdk_65_m_132_11) rfl kk) ?_
  refine k_pure (g' := (mkF m 13 #[.val (.ref t), .val (.int (0 : Int32)), .val (.int (Int32.ofNat (cs).length))] [(.int (Int32.ofNat (cs).length)), (.int (0 : Int32)), (.ref t)])) (fun TT HH tt kk => XS.iloadN HH hx rfl (hb hby d_jdk_65_m_132_12) rfl kk) ?_
  refine k_callS hx (y := (⟨"java/util/Arrays", "copyOfRangeByte", "([BII)[B"⟩ : MethodName)) (hw _ (List.mem_of_getElem? (i := 161) rfl)) (hw _ (List.mem_of_getElem? (i := 162) rfl)) (hw _ (List.mem_of_getElem? (i := 159) rfl)) (hw _ (List.mem_of_getElem? (i := 163) rfl)) (by decide) (W := 0) (argsL := [(.ref t), (.int (0 : Int32)), (.int (Int32.ofNat (cs).length))]) (rest := []) (Pays.of_met (rm_crb l Z a0 G1 G3 hX n0 bk h0 O0 t kb N cs pf_0 l1 l2 l3 hbl []) (hw _ (List.mem_of_getElem? (i := 163) rfl)) (hw _ (List.mem_of_getElem? (i := 159) rfl)) (by decide) (by decide)) rfl (by rw [hml]; rfl) (lenOf pd__28__5b_BII_29__5b_B rfl) rfl (by show 2 * 0 + _ ≤ _; exact Nat.le_of_eq rfl) (hb hby d_jdk_65_m_132_13) (by decide) (by decide) ?_
  intro v_2 h_3 bk_4 O_5 z_6 Q_7
  obtain ⟨a_8, k_9, rfl, rfl, K_10, F_11, P_12⟩ := Q_7
  have lt_13 : @LT.lt Nat _ a_8 (Array.size h_3) := F_11.lt
  show Run p l e _ s m _ below meth c Z EL1 _ n0 bk h_3 1 15 (mkF m 16 #[.val (.ref t), .val (.int (0 : Int32)), .val (.int (Int32.ofNat (cs).length))] [(.ref a_8)]) _
  exact k_retA hx hlk hret rfl rfl rfl (hb hby d_jdk_65_m_132_16) (by decide) (by decide) ⟨_, _, rfl, rfl, ((Keep.refl _ _).trans K_10 kk0), F_11, (by omega)⟩
def Q_stb (Z : State) (G1 : Int32) (G3 : Value) (x : Addr) (a : Addr) (t : Addr) (kb : ClassId) (N : Nat) (cs : List Int32) (h0 : Heap) (n0 : Nat) (bk : Addr → Prop) (v : Option Value) (h : Heap) (bk' : Addr → Prop) : Prop := ∃ (u : Addr), ∃ (ku : ClassId), v = none ∧ bk = bk' ∧ Keep h0 h [x] ∧ (StrL Z h x u ku cs)
theorem d_jdk_42_m_150_0 : decode jdk_42_method_150_code 0 = .ok (.aload_n 0, 1) := by decide +kernel
theorem d_jdk_42_m_150_1 : decode jdk_42_method_150_code 1 = .ok (.invokespecial 1, 3) := by decide +kernel
theorem d_jdk_42_m_150_4 : decode jdk_42_method_150_code 4 = .ok (.aload_n 1, 1) := by decide +kernel
theorem d_jdk_42_m_150_5 : decode jdk_42_method_150_code 5 = .ok (.invokevirtual 552, 3) := by decide +kernel
theorem pd__28__29__5b_B : parseMethodDescriptor "()[B" = some ⟨[], some (.array .byte)⟩ := by decide +kernel
theorem d_jdk_42_m_150_8 : decode jdk_42_method_150_code 8 = .ok (.astore_n 3, 1) := by decide +kernel
theorem d_jdk_42_m_150_9 : decode jdk_42_method_150_code 9 = .ok (.aload_n 1, 1) := by decide +kernel
theorem d_jdk_42_m_150_10 : decode jdk_42_method_150_code 10 = .ok (.invokevirtual 549, 3) := by decide +kernel
theorem d_jdk_42_m_150_13 : decode jdk_42_method_150_code 13 = .ok (.istore 4, 2) := by decide +kernel
theorem d_jdk_42_m_150_15 : decode jdk_42_method_150_code 15 = .ok (.aload_n 1, 1) := by decide +kernel
theorem d_jdk_42_m_150_16 : decode jdk_42_method_150_code 16 = .ok (.invokevirtual 1047, 3) := by decide +kernel
theorem pd__28__29_Z : parseMethodDescriptor "()Z" = some ⟨[], some .boolean⟩ := by decide +kernel
theorem d_jdk_42_m_150_19 : decode jdk_42_method_150_code 19 = .ok (.ifCond .eq 22, 3) := by decide +kernel
theorem d_jdk_42_m_150_22 : decode jdk_42_method_150_code 22 = .ok (.aload_n 0, 1) := by decide +kernel
theorem d_jdk_42_m_150_23 : decode jdk_42_method_150_code 23 = .ok (.iconst 0, 1) := by decide +kernel
theorem d_jdk_42_m_150_24 : decode jdk_42_method_150_code 24 = .ok (.putfield 15, 3) := by decide +kernel
theorem d_jdk_42_m_150_27 : decode jdk_42_method_150_code 27 = .ok (.aload_n 0, 1) := by decide +kernel
theorem d_jdk_42_m_150_28 : decode jdk_42_method_150_code 28 = .ok (.aload_n 3, 1) := by decide +kernel
theorem d_jdk_42_m_150_29 : decode jdk_42_method_150_code 29 = .ok (.iconst 0, 1) := by decide +kernel
theorem d_jdk_42_m_150_30 : decode jdk_42_method_150_code 30 = .ok (.iload 4, 2) := by decide +kernel
theorem d_jdk_42_m_150_32 : decode jdk_42_method_150_code 32 = .ok (.invokestatic 54, 3) := by decide +kernel
theorem d_jdk_42_m_150_35 : decode jdk_42_method_150_code 35 = .ok (.putfield 9, 3) := by decide +kernel
theorem d_jdk_42_m_150_38 : decode jdk_42_method_150_code 38 = .ok (.goto 59, 3) := by decide +kernel
theorem d_jdk_42_m_150_97 : decode jdk_42_method_150_code 97 = .ok (.return_, 1) := by decide +kernel
abbrev RM_stb : Room := { frames := 3, cells := 1, slots := 15, locals := 49 }
theorem ef_stb (m : MethodId) (x0 : Addr) (x1 : Addr) : entryFrame m #[(.ref x0), (.ref x1), .null] 5 = mkF m 0 #[.val (.ref x0), .val (.ref x1), .val .null, .unset, .unset] [] := by first | (simp [entryFrame, mkF, argsToLocals, Value.category]; done) | rfl
set_option maxRecDepth 65536 in
set_option maxHeartbeats 40000000 in
theorem rm_stb (l : Launch) (Z : State) (a0 : Array Value) (G1 : Int32) (G3 : Value) (hX : Ctx Z a0 G1 G3) (n0 : Nat) (bk : Addr → Prop) (h0 : Heap) (O0 : Old Z n0 h0) (x : Addr) (a : Addr) (t : Addr) (kb : ClassId) (N : Nat) (cs : List Int32) (pf_0 : Exa Z h0 x "java/lang/String") (pf_1 : Fld Z h0 x "java/lang/String" "value" "[B" .null) (pf_2 : Fld Z h0 x "java/lang/String" "coder" "B" (.int (0 : Int32))) (pf_3 : SbL Z h0 a t kb N cs) (l1 : cs.length < N) (l3 : cs.length ≤ 15) (hbl : ∀ y, bk y → @LT.lt Nat _ y (Array.size h0)) (nbx : ¬ bk x) (gx : n0 ≤ x) (m1 : @Ne Nat x a) (m2 : @Ne Nat x t) (ws : List Jvm.Cond) : Met l Z EL1 n0 bk (⟨"java/lang/String", "<init>", "(Ljava/lang/AbstractStringBuilder;Ljava/lang/Void;)V"⟩ : MethodName) jdk_42_method_150_code 5 (Option.none : Option FieldType) RM_stb #[(.ref x), (.ref a), .null] h0 (Q_stb Z G1 G3 x a t kb N cs h0 n0 bk) ws := by
  have hX' := hX
  obtain ⟨hw, hE, S1, P1, S3, P3⟩ := hX'
  have hSA := sa_of hw
  have z0 : n0 ≤ h0.size := by rw [← O0.1]; exact O0.2.1
  refine Met.of (by decide +kernel) O0 hE ?_
  intro p e s m below meth c hx hby hml hret hlk hnm
  refine k_cast (ef_stb m x a) ?_
  show Run p l e _ s m _ below meth c Z EL1 _ n0 bk h0 0 0 (mkF m 0 #[.val (.ref x), .val (.ref a), .val .null, .unset, .unset] []) _
  have ne_1 : @Ne Nat a t := pf_3.2.2.2.2.2.2.2.2
  have lt_2 : @LT.lt Nat _ x (Array.size h0) := pf_0.lt
  have lt_3 : @LT.lt Nat _ x (Array.size h0) := pf_1.lt
  have lt_4 : @LT.lt Nat _ x (Array.size h0) := pf_2.lt
  have lt_5 : @LT.lt Nat _ a (Array.size h0) := pf_3.lt1
  have lt_6 : @LT.lt Nat _ t (Array.size h0) := pf_3.lt2
  refine k_pure (g' := (mkF m 1 #[.val (.ref x), .val (.ref a), .val .null, .unset, .unset] [(.ref x)])) (fun TT HH tt kk => XS.aloadN HH hx rfl (hb hby d_jdk_42_m_150_0) rfl rfl kk) ?_
  refine k_initO hx (hw _ (List.mem_of_getElem? (i := 19) rfl)) (hw _ (List.mem_of_getElem? (i := 20) rfl)) (hw _ (List.mem_of_getElem? (i := 21) rfl)) rfl (by rw [hml]; rfl) rfl (hb hby d_jdk_42_m_150_1) (by decide) (W := 0) (by show 2 * 0 + _ ≤ _; exact Nat.le_of_eq rfl) (by decide) ?_
  show Run p l e _ s m _ below meth c Z EL1 _ n0 bk h0 0 0 (mkF m 4 #[.val (.ref x), .val (.ref a), .val .null, .unset, .unset] []) _
  refine k_pure (g' := (mkF m 5 #[.val (.ref x), .val (.ref a), .val .null, .unset, .unset] [(.ref a)])) (fun TT HH tt kk => XS.aloadN HH hx rfl (hb hby d_jdk_42_m_150_4) rfl rfl kk) ?_
  refine k_callV hx (y := (⟨"java/lang/AbstractStringBuilder", "getValue", "()[B"⟩ : MethodName)) (z := (⟨"java/lang/AbstractStringBuilder", "getValue", "()[B"⟩ : MethodName)) (hw _ (List.mem_of_getElem? (i := 139) rfl)) (hw _ (List.mem_of_getElem? (i := 140) rfl)) (fun s' hZ => notFace_of_selects (args := #[]) (mv hZ (hw _ (List.mem_of_getElem? (i := 142) rfl)))) (hw _ (List.mem_of_getElem? (i := 142) rfl)) (hw _ (List.mem_of_getElem? (i := 141) rfl)) (by decide) (W := 0) (a := a) (argsL := []) (rest := []) (Pays.of_met (rm_gvl l Z a0 G1 G3 hX n0 bk h0 O0 a t kb N cs pf_3 []) (hw _ (List.mem_of_getElem? (i := 143) rfl)) (hw _ (List.mem_of_getElem? (i := 69) rfl)) (by decide) (by decide)) pf_3.1 rfl (by rw [hml]; rfl) (lenOf pd__28__29__5b_B rfl) rfl (by show 2 * 0 + _ ≤ _; exact Nat.le_of_eq rfl) (hb hby d_jdk_42_m_150_5) (by decide) (by decide) ?_
  intro v_7 h_8 bk_9 O_10 z_11 Q_12
  obtain ⟨rfl, rfl, rfl⟩ := Q_12
  show Run p l e _ s m _ below meth c Z EL1 _ n0 bk h0 0 0 (mkF m 8 #[.val (.ref x), .val (.ref a), .val .null, .unset, .unset] [(.ref t)]) _
  refine k_pure (g' := (mkF m 9 #[.val (.ref x), .val (.ref a), .val .null, .val (.ref t), .unset] [])) (fun TT HH tt kk => XS.astoreN HH hx rfl (hb hby d_jdk_42_m_150_8) rfl rfl (l' := #[.val (.ref x), .val (.ref a), .val .null, .val (.ref t), .unset]) rfl kk) ?_
  refine k_pure (g' := (mkF m 10 #[.val (.ref x), .val (.ref a), .val .null, .val (.ref t), .unset] [(.ref a)])) (fun TT HH tt kk => XS.aloadN HH hx rfl (hb hby d_jdk_42_m_150_9) rfl rfl kk) ?_
  refine k_callV hx (y := (⟨"java/lang/AbstractStringBuilder", "length", "()I"⟩ : MethodName)) (z := (⟨"java/lang/StringBuilder", "length", "()I"⟩ : MethodName)) (hw _ (List.mem_of_getElem? (i := 144) rfl)) (hw _ (List.mem_of_getElem? (i := 145) rfl)) (fun s' hZ => nf_of' (y' := (⟨"java/lang/AbstractStringBuilder", "ensureCapacityInternal", "(I)V"⟩ : MethodName)) rfl hZ (hw _ (List.mem_of_getElem? (i := 102) rfl))) (hw _ (List.mem_of_getElem? (i := 147) rfl)) (hw _ (List.mem_of_getElem? (i := 148) rfl)) (by decide) (W := 0) (a := a) (argsL := []) (rest := []) (Pays.of_met (rm_sbl l Z a0 G1 G3 hX n0 bk h0 O0 a t kb N cs pf_3 []) (hw _ (List.mem_of_getElem? (i := 149) rfl)) (hw _ (List.mem_of_getElem? (i := 61) rfl)) (by decide) (by decide)) pf_3.1 rfl (by rw [hml]; rfl) (lenOf pd__28__29_I rfl) rfl (by show 2 * 0 + _ ≤ _; exact Nat.le_of_eq rfl) (hb hby d_jdk_42_m_150_10) (by decide) (by decide) ?_
  intro v_13 h_14 bk_15 O_16 z_17 Q_18
  obtain ⟨rfl, rfl, rfl⟩ := Q_18
  show Run p l e _ s m _ below meth c Z EL1 _ n0 bk h0 0 0 (mkF m 13 #[.val (.ref x), .val (.ref a), .val .null, .val (.ref t), .unset] [(.int (Int32.ofNat (cs).length))]) _
  refine k_pure (g' := (mkF m 15 #[.val (.ref x), .val (.ref a), .val .null, .val (.ref t), .val (.int (Int32.ofNat (cs).length))] [])) (fun TT HH tt kk => XS.istore HH hx rfl (hb hby d_jdk_42_m_150_13) rfl (l' := #[.val (.ref x), .val (.ref a), .val .null, .val (.ref t), .val (.int (Int32.ofNat (cs).length))]) rfl kk) ?_
  refine k_pure (g' := (mkF m 16 #[.val (.ref x), .val (.ref a), .val .null, .val (.ref t), .val (.int (Int32.ofNat (cs).length))] [(.ref a)])) (fun TT HH tt kk => XS.aloadN HH hx rfl (hb hby d_jdk_42_m_150_15) rfl rfl kk) ?_
  refine k_callV hx (y := (⟨"java/lang/AbstractStringBuilder", "isLatin1", "()Z"⟩ : MethodName)) (z := (⟨"java/lang/AbstractStringBuilder", "isLatin1", "()Z"⟩ : MethodName)) (hw _ (List.mem_of_getElem? (i := 152) rfl)) (hw _ (List.mem_of_getElem? (i := 153) rfl)) (fun s' hZ => notFace_of_selects (args := #[]) (mv hZ (hw _ (List.mem_of_getElem? (i := 155) rfl)))) (hw _ (List.mem_of_getElem? (i := 155) rfl)) (hw _ (List.mem_of_getElem? (i := 154) rfl)) (by decide) (W := 0) (a := a) (argsL := []) (rest := []) (Pays.of_met (rm_ail l Z a0 G1 G3 hX n0 bk h0 O0 a t kb N cs pf_3 []) (hw _ (List.mem_of_getElem? (i := 156) rfl)) (hw _ (List.mem_of_getElem? (i := 69) rfl)) (by decide) (by decide)) pf_3.1 rfl (by rw [hml]; rfl) (lenOf pd__28__29_Z rfl) rfl (by show 2 * 0 + _ ≤ _; exact Nat.le_of_eq rfl) (hb hby d_jdk_42_m_150_16) (by decide) (by decide) ?_
  intro v_19 h_20 bk_21 O_22 z_23 Q_24
  obtain ⟨rfl, rfl, rfl⟩ := Q_24
  show Run p l e _ s m _ below meth c Z EL1 _ n0 bk h0 0 0 (mkF m 19 #[.val (.ref x), .val (.ref a), .val .null, .val (.ref t), .val (.int (Int32.ofNat (cs).length))] [(.int (1 : Int32))]) _
  refine k_pure (g' := (mkF m 22 #[.val (.ref x), .val (.ref a), .val .null, .val (.ref t), .val (.int (Int32.ofNat (cs).length))] [])) (fun TT HH tt kk => XS.ifNo HH hx rfl (hb hby d_jdk_42_m_150_19) rfl ((if0 _ _).trans (feq (by decide : ¬ ((1 : Int32) = (0 : Int32)))).1) kk) ?_
  refine k_pure (g' := (mkF m 23 #[.val (.ref x), .val (.ref a), .val .null, .val (.ref t), .val (.int (Int32.ofNat (cs).length))] [(.ref x)])) (fun TT HH tt kk => XS.aloadN HH hx rfl (hb hby d_jdk_42_m_150_22) rfl rfl kk) ?_
  refine k_pure (g' := (mkF m 24 #[.val (.ref x), .val (.ref a), .val .null, .val (.ref t), .val (.int (Int32.ofNat (cs).length))] [(.int (0 : Int32)), (.ref x)])) (fun TT HH tt kk => XS.iconst HH hx rfl (hb hby d_jdk_42_m_150_23) kk) ?_
  refine k_putF hx (host := "") (Or.inl (hw _ (List.mem_of_getElem? (i := 34) rfl))) Via.refl pf_2 pf_0 (Or.inr ⟨(hw _ (List.mem_of_getElem? (i := 35) rfl)), rfl, hnm⟩) (hw _ (List.mem_of_getElem? (i := 6) rfl)) (ty := .byte) (by decide) rfl rfl (by omega) nbx rfl rfl (hb hby d_jdk_42_m_150_24) ?_
  intro h_25 O_27 W_26
  have z_28 := W_26.size
  show Run p l e _ s m _ below meth c Z EL1 _ n0 bk h_25 0 0 (mkF m 27 #[.val (.ref x), .val (.ref a), .val .null, .val (.ref t), .val (.int (Int32.ofNat (cs).length))] []) _
  refine k_pure (g' := (mkF m 28 #[.val (.ref x), .val (.ref a), .val .null, .val (.ref t), .val (.int (Int32.ofNat (cs).length))] [(.ref x)])) (fun TT HH tt kk => XS.aloadN HH hx rfl (hb hby d_jdk_42_m_150_27) rfl rfl kk) ?_
  refine k_pure (g' := (mkF m 29 #[.val (.ref x), .val (.ref a), .val .null, .val (.ref t), .val (.int (Int32.ofNat (cs).length))] [(.ref t), (.ref x)])) (fun TT HH tt kk => XS.aloadN HH hx rfl (hb hby d_jdk_42_m_150_28) rfl rfl kk) ?_
  refine k_pure (g' := (mkF m 30 #[.val (.ref x), .val (.ref a), .val .null, .val (.ref t), .val (.int (Int32.ofNat (cs).length))] [(.int (0 : Int32)), (.ref t), (.ref x)])) (fun TT HH tt kk => XS.iconst HH hx rfl (hb hby d_jdk_42_m_150_29) kk) ?_
  refine k_pure (g' := (mkF m 32 #[.val (.ref x), .val (.ref a), .val .null, .val (.ref t), .val (.int (Int32.ofNat (cs).length))] [(.int (Int32.ofNat (cs).length)), (.int (0 : Int32)), (.ref t), (.ref x)])) (fun TT HH tt kk => XS.iload HH hx rfl (hb hby d_jdk_42_m_150_30) rfl kk) ?_
  have F_29 : Arv Z h_25 t kb .byte (Int32.ofNat N) (((cs).map (fun c => c.toInt8.toInt32)).map Value.int) (.int 0) := (pf_3.2.2.2.2.1.other W_26 (ne_ad (by omega)))
  have hbl_30 : ∀ y, bk y → @LT.lt Nat _ y (Array.size h_25) := fun y q => Nat.lt_of_lt_of_le (hbl y q) (by omega)
  refine k_callS hx (y := (⟨"java/util/Arrays", "copyOfRange", "([BII)[B"⟩ : MethodName)) (hw _ (List.mem_of_getElem? (i := 157) rfl)) (hw _ (List.mem_of_getElem? (i := 158) rfl)) (hw _ (List.mem_of_getElem? (i := 159) rfl)) (hw _ (List.mem_of_getElem? (i := 160) rfl)) (by decide) (W := 1) (argsL := [(.ref t), (.int (0 : Int32)), (.int (Int32.ofNat (cs).length))]) (rest := [(.ref x)]) (Pays.of_met (rm_cor l Z a0 G1 G3 hX n0 bk h_25 O_27 t kb N cs F_29 l1 pf_3.2.2.2.2.2.2.2.1 l3 hbl_30 []) (hw _ (List.mem_of_getElem? (i := 160) rfl)) (hw _ (List.mem_of_getElem? (i := 159) rfl)) (by decide) (by decide)) rfl (by rw [hml]; rfl) (lenOf pd__28__5b_BII_29__5b_B rfl) rfl (by show 2 * 0 + _ ≤ _; exact Nat.le_of_eq rfl) (hb hby d_jdk_42_m_150_32) (by decide) (by decide) ?_
  intro v_31 h_32 bk_33 O_34 z_35 Q_36
  obtain ⟨a_37, k_38, rfl, rfl, K_39, F_40, P_41⟩ := Q_36
  have lt_42 : @LT.lt Nat _ a_37 (Array.size h_32) := F_40.lt
  show Run p l e _ s m _ below meth c Z EL1 _ n0 bk h_32 1 15 (mkF m 35 #[.val (.ref x), .val (.ref a), .val .null, .val (.ref t), .val (.int (Int32.ofNat (cs).length))] [(.ref a_37), (.ref x)]) _
  have F_43 : Fld Z h_32 x "java/lang/String" "value" "[B" .null := ((pf_1.other W_26 (Or.inr (RoadKit.slot_ne (C := "java/lang/String") (Or.inr (hw _ (List.mem_of_getElem? (i := 37) rfl))) (Or.inr (hw _ (List.mem_of_getElem? (i := 35) rfl))) (by decide) (t := (.array .byte)) (t' := .byte) (by decide) (by decide)))).keep K_39 nin0)
  have F_44 : Exa Z h_32 x "java/lang/String" := ((pf_0.wr W_26).keep K_39)
  refine k_putF hx (host := "") (Or.inl (hw _ (List.mem_of_getElem? (i := 36) rfl))) Via.refl F_43 F_44 (Or.inr ⟨(hw _ (List.mem_of_getElem? (i := 37) rfl)), rfl, hnm⟩) (hw _ (List.mem_of_getElem? (i := 6) rfl)) (ty := (.array .byte)) (by decide) rfl rfl (by omega) nbx rfl rfl (hb hby d_jdk_42_m_150_35) ?_
  intro h_45 O_47 W_46
  have z_48 := W_46.size
  show Run p l e _ s m _ below meth c Z EL1 _ n0 bk h_45 1 15 (mkF m 38 #[.val (.ref x), .val (.ref a), .val .null, .val (.ref t), .val (.int (Int32.ofNat (cs).length))] []) _
  refine k_pure (g' := (mkF m 97 #[.val (.ref x), .val (.ref a), .val .null, .val (.ref t), .val (.int (Int32.ofNat (cs).length))] [])) (fun TT HH tt kk => XS.goto HH hx rfl (pc0 := 38) (pc' := 97) rfl (hb hby d_jdk_42_m_150_38) (by decide) (by decide) kk) ?_
  have F_49 : Exa Z h_45 x "java/lang/String" := (F_44.wr W_46)
  have F_50 : Fld Z h_45 x "java/lang/String" "coder" "B" (.int (0 : Int32)) := (((pf_2.same W_26).keep K_39 nin0).other W_46 (Or.inr (RoadKit.slot_ne (C := "java/lang/String") (Or.inr (hw _ (List.mem_of_getElem? (i := 35) rfl))) (Or.inr (hw _ (List.mem_of_getElem? (i := 37) rfl))) (by decide) (t := .byte) (t' := (.array .byte)) (by decide) (by decide))))
  have F_51 : Arv Z h_45 a_37 k_38 .byte (Int32.ofNat (cs).length) (((cs).map (fun c => c.toInt8.toInt32)).map Value.int) (.int 0) := (F_40.other W_46 (ne_ad (by omega)))
  exact k_ret0 hx hlk hret (hb hby d_jdk_42_m_150_97) (by decide) (by decide) ⟨a_37, k_38, rfl, rfl, ((((Keep.refl _ _).wr W_26 (Or.inl (by simp))).trans K_39 kk0).wr W_46 (Or.inl (by simp))), ⟨F_49, F_50, (F_43.same W_46), F_51, pf_3.2.2.2.2.2.1, Nat.le_trans pf_3.2.2.2.2.2.2.1 pf_3.2.2.2.2.2.2.2.1⟩⟩
def Q_stb1 (Z : State) (G1 : Int32) (G3 : Value) (x : Addr) (a : Addr) (t : Addr) (kb : ClassId) (N : Nat) (cs : List Int32) (h0 : Heap) (n0 : Nat) (bk : Addr → Prop) (v : Option Value) (h : Heap) (bk' : Addr → Prop) : Prop := ∃ (u : Addr), ∃ (ku : ClassId), v = none ∧ bk = bk' ∧ Keep h0 h [x] ∧ (StrL Z h x u ku cs)
theorem d_jdk_42_m_53_0 : decode jdk_42_method_53_code 0 = .ok (.aload_n 0, 1) := by decide +kernel
theorem d_jdk_42_m_53_1 : decode jdk_42_method_53_code 1 = .ok (.aload_n 1, 1) := by decide +kernel
theorem d_jdk_42_m_53_2 : decode jdk_42_method_53_code 2 = .ok (.aconst_null, 1) := by decide +kernel
theorem d_jdk_42_m_53_3 : decode jdk_42_method_53_code 3 = .ok (.invokespecial 489, 3) := by decide +kernel
theorem pd__28_Ljava_2f_lang_2f_AbstractStringBuilder_3b_Ljava_2f_lang_2f_Void_3b__29_V : parseMethodDescriptor "(Ljava/lang/AbstractStringBuilder;Ljava/lang/Void;)V" = some ⟨[(.object "java/lang/AbstractStringBuilder"), (.object "java/lang/Void")], none⟩ := by decide +kernel
theorem d_jdk_42_m_53_6 : decode jdk_42_method_53_code 6 = .ok (.return_, 1) := by decide +kernel
abbrev RM_stb1 : Room := { frames := 4, cells := 1, slots := 15, locals := 65 }
theorem ef_stb1 (m : MethodId) (x0 : Addr) (x1 : Addr) : entryFrame m #[(.ref x0), (.ref x1)] 2 = mkF m 0 #[.val (.ref x0), .val (.ref x1)] [] := by first | (simp [entryFrame, mkF, argsToLocals, Value.category]; done) | rfl
set_option maxRecDepth 65536 in
set_option maxHeartbeats 40000000 in
theorem rm_stb1 (l : Launch) (Z : State) (a0 : Array Value) (G1 : Int32) (G3 : Value) (hX : Ctx Z a0 G1 G3) (n0 : Nat) (bk : Addr → Prop) (h0 : Heap) (O0 : Old Z n0 h0) (x : Addr) (a : Addr) (t : Addr) (kb : ClassId) (N : Nat) (cs : List Int32) (pf_0 : Exa Z h0 x "java/lang/String") (pf_1 : Fld Z h0 x "java/lang/String" "value" "[B" .null) (pf_2 : Fld Z h0 x "java/lang/String" "coder" "B" (.int (0 : Int32))) (pf_3 : SbL Z h0 a t kb N cs) (l1 : cs.length < N) (l3 : cs.length ≤ 15) (hbl : ∀ y, bk y → @LT.lt Nat _ y (Array.size h0)) (nbx : ¬ bk x) (gx : n0 ≤ x) (m1 : @Ne Nat x a) (m2 : @Ne Nat x t) (ws : List Jvm.Cond) : Met l Z EL1 n0 bk (⟨"java/lang/String", "<init>", "(Ljava/lang/StringBuilder;)V"⟩ : MethodName) jdk_42_method_53_code 2 (Option.none : Option FieldType) RM_stb1 #[(.ref x), (.ref a)] h0 (Q_stb1 Z G1 G3 x a t kb N cs h0 n0 bk) ws := by
  have hX' := hX
  obtain ⟨hw, hE, S1, P1, S3, P3⟩ := hX'
  have hSA := sa_of hw
  have z0 : n0 ≤ h0.size := by rw [← O0.1]; exact O0.2.1
  refine Met.of (by decide +kernel) O0 hE ?_
  intro p e s m below meth c hx hby hml hret hlk hnm
  refine k_cast (ef_stb1 m x a) ?_
  show Run p l e _ s m _ below meth c Z EL1 _ n0 bk h0 0 0 (mkF m 0 #[.val (.ref x), .val (.ref a)] []) _
  have ne_1 : @Ne Nat a t := pf_3.2.2.2.2.2.2.2.2
  have lt_2 : @LT.lt Nat _ x (Array.size h0) := pf_0.lt
  have lt_3 : @LT.lt Nat _ x (Array.size h0) := pf_1.lt
  have lt_4 : @LT.lt Nat _ x (Array.size h0) := pf_2.lt
  have lt_5 : @LT.lt Nat _ a (Array.size h0) := pf_3.lt1
  have lt_6 : @LT.lt Nat _ t (Array.size h0) := pf_3.lt2
  refine k_pure (g' := (mkF m 1 #[.val (.ref x), .val (.ref a)] [(.ref x)])) (fun TT HH tt kk => XS.aloadN HH hx rfl (hb hby d_jdk_42_m_53_0) rfl rfl kk) ?_
  refine k_pure (g' := (mkF m 2 #[.val (.ref x), .val (.ref a)] [(.ref a), (.ref x)])) (fun TT HH tt kk => XS.aloadN HH hx rfl (hb hby d_jdk_42_m_53_1) rfl rfl kk) ?_
  refine k_pure (g' := (mkF m 3 #[.val (.ref x), .val (.ref a)] [.null, (.ref a), (.ref x)])) (fun TT HH tt kk => XS.aconstNull HH hx rfl (hb hby d_jdk_42_m_53_2) kk) ?_
  refine k_callI hx (y := (⟨"java/lang/String", "<init>", "(Ljava/lang/AbstractStringBuilder;Ljava/lang/Void;)V"⟩ : MethodName)) rfl (hw _ (List.mem_of_getElem? (i := 136) rfl)) (hw _ (List.mem_of_getElem? (i := 137) rfl)) (hw _ (List.mem_of_getElem? (i := 138) rfl)) (by decide) (W := 0) (a := x) (argsL := [(.ref a), .null]) (rest := []) (Pays.of_met (rm_stb l Z a0 G1 G3 hX n0 bk h0 O0 x a t kb N cs pf_0 pf_1 pf_2 pf_3 l1 l3 hbl nbx (by omega) (by omega) (by omega) []) (hw _ (List.mem_of_getElem? (i := 138) rfl)) (hw _ (List.mem_of_getElem? (i := 7) rfl)) (by decide) (by decide)) rfl (by rw [hml]; rfl) (lenOf pd__28_Ljava_2f_lang_2f_AbstractStringBuilder_3b_Ljava_2f_lang_2f_Void_3b__29_V rfl) rfl (by show 2 * 0 + _ ≤ _; exact Nat.le_of_eq rfl) (hb hby d_jdk_42_m_53_3) (by decide) (by decide) ?_
  intro v_7 h_8 bk_9 O_10 z_11 Q_12
  obtain ⟨a_13, k_14, rfl, rfl, K_15, F_16⟩ := Q_12
  have lt_17 : @LT.lt Nat _ x (Array.size h_8) := F_16.lt1
  have lt_18 : @LT.lt Nat _ a_13 (Array.size h_8) := F_16.lt2
  show Run p l e _ s m _ below meth c Z EL1 _ n0 bk h_8 1 15 (mkF m 6 #[.val (.ref x), .val (.ref a)] []) _
  exact k_ret0 hx hlk hret (hb hby d_jdk_42_m_53_6) (by decide) (by decide) ⟨a_13, k_14, rfl, rfl, ((Keep.refl _ _).trans K_15 (kkS (Or.inl (by simp)) kk0)), F_16⟩
def Q_sts (Z : State) (G1 : Int32) (G3 : Value) (a : Addr) (t : Addr) (kb : ClassId) (N : Nat) (cs : List Int32) (h0 : Heap) (n0 : Nat) (bk : Addr → Prop) (v : Option Value) (h : Heap) (bk' : Addr → Prop) : Prop := ∃ (x : Addr), ∃ (u : Addr), ∃ (ku : ClassId), v = some (.ref x) ∧ bk = bk' ∧ Keep h0 h [] ∧ (StrL Z h x u ku cs)
theorem d_jdk_67_m_42_0 : decode jdk_67_method_42_code 0 = .ok (.new 18, 3) := by decide +kernel
theorem d_jdk_67_m_42_3 : decode jdk_67_method_42_code 3 = .ok (.dup, 1) := by decide +kernel
theorem d_jdk_67_m_42_4 : decode jdk_67_method_42_code 4 = .ok (.aload_n 0, 1) := by decide +kernel
theorem d_jdk_67_m_42_5 : decode jdk_67_method_42_code 5 = .ok (.invokespecial 137, 3) := by decide +kernel
theorem pd__28_Ljava_2f_lang_2f_StringBuilder_3b__29_V : parseMethodDescriptor "(Ljava/lang/StringBuilder;)V" = some ⟨[(.object "java/lang/StringBuilder")], none⟩ := by decide +kernel
theorem d_jdk_67_m_42_8 : decode jdk_67_method_42_code 8 = .ok (.areturn, 1) := by decide +kernel
abbrev RM_sts : Room := { frames := 5, cells := 2, slots := 19, locals := 79 }
theorem ef_sts (m : MethodId) (x0 : Addr) : entryFrame m #[(.ref x0)] 1 = mkF m 0 #[.val (.ref x0)] [] := by first | (simp [entryFrame, mkF, argsToLocals, Value.category]; done) | rfl
set_option maxRecDepth 65536 in
set_option maxHeartbeats 40000000 in
theorem rm_sts (l : Launch) (Z : State) (a0 : Array Value) (G1 : Int32) (G3 : Value) (hX : Ctx Z a0 G1 G3) (n0 : Nat) (bk : Addr → Prop) (h0 : Heap) (O0 : Old Z n0 h0) (a : Addr) (t : Addr) (kb : ClassId) (N : Nat) (cs : List Int32) (pf_0 : SbL Z h0 a t kb N cs) (l1 : cs.length < N) (l3 : cs.length ≤ 15) (hbl : ∀ y, bk y → @LT.lt Nat _ y (Array.size h0)) (ws : List Jvm.Cond) : Met l Z EL1 n0 bk (⟨"java/lang/StringBuilder", "toString", "()Ljava/lang/String;"⟩ : MethodName) jdk_67_method_42_code 1 (Option.some (FieldType.object "java/lang/String")) RM_sts #[(.ref a)] h0 (Q_sts Z G1 G3 a t kb N cs h0 n0 bk) ws := by
  have hX' := hX
  obtain ⟨hw, hE, S1, P1, S3, P3⟩ := hX'
  have hSA := sa_of hw
  have z0 : n0 ≤ h0.size := by rw [← O0.1]; exact O0.2.1
  refine Met.of (by decide +kernel) O0 hE ?_
  intro p e s m below meth c hx hby hml hret hlk hnm
  refine k_cast (ef_sts m a) ?_
  show Run p l e _ s m _ below meth c Z EL1 _ n0 bk h0 0 0 (mkF m 0 #[.val (.ref a)] []) _
  have ne_1 : @Ne Nat a t := pf_0.2.2.2.2.2.2.2.2
  have lt_2 : @LT.lt Nat _ a (Array.size h0) := pf_0.lt1
  have lt_3 : @LT.lt Nat _ t (Array.size h0) := pf_0.lt2
  refine k_newO hx (hw _ (List.mem_of_getElem? (i := 132) rfl)) (hw _ (List.mem_of_getElem? (i := 6) rfl)) (hw _ (List.mem_of_getElem? (i := 7) rfl)) rfl (hb hby d_jdk_67_m_42_0) (by decide) (by decide) ?_
  intro h_5 a_4 g_11 O_6 E_7 A_8 D_9 U_10
  have z_12 := E_7.1
  have lt_13 : @LT.lt Nat _ a_4 (Array.size h_5) := A_8.lt
  have nb_14 : ¬ bk a_4 := fun q => Nat.not_le_of_lt (hbl _ q) (show @LE.le Nat _ (Array.size h0) a_4 by omega)
  show Run p l e _ s m _ below meth c Z EL1 _ n0 bk h_5 1 4 (mkF m 3 #[.val (.ref a)] [(.ref a_4)]) _
  refine k_pure (g' := (mkF m 4 #[.val (.ref a)] [(.ref a_4), (.ref a_4)])) (fun TT HH tt kk => XS.dup HH hx rfl (hb hby d_jdk_67_m_42_3) rfl rfl kk) ?_
  refine k_pure (g' := (mkF m 5 #[.val (.ref a)] [(.ref a), (.ref a_4), (.ref a_4)])) (fun TT HH tt kk => XS.aloadN HH hx rfl (hb hby d_jdk_67_m_42_4) rfl rfl kk) ?_
  have F_15 : SbL Z h_5 a t kb N cs := (pf_0.ext E_7)
  have hbl_16 : ∀ y, bk y → @LT.lt Nat _ y (Array.size h_5) := fun y q => Nat.lt_of_lt_of_le (hbl y q) (by omega)
  refine k_callI hx (y := (⟨"java/lang/String", "<init>", "(Ljava/lang/StringBuilder;)V"⟩ : MethodName)) rfl (hw _ (List.mem_of_getElem? (i := 133) rfl)) (hw _ (List.mem_of_getElem? (i := 134) rfl)) (hw _ (List.mem_of_getElem? (i := 135) rfl)) (by decide) (W := 1) (a := a_4) (argsL := [(.ref a)]) (rest := [(.ref a_4)]) (Pays.of_met (rm_stb1 l Z a0 G1 G3 hX n0 bk h_5 O_6 a_4 a t kb N cs A_8 (D_9 (Or.inr (hw _ (List.mem_of_getElem? (i := 37) rfl))) (ty := (.array .byte)) (by decide)) (D_9 (Or.inr (hw _ (List.mem_of_getElem? (i := 35) rfl))) (ty := .byte) (by decide)) F_15 l1 l3 hbl_16 nb_14 (by omega) (by omega) (by omega) []) (hw _ (List.mem_of_getElem? (i := 135) rfl)) (hw _ (List.mem_of_getElem? (i := 7) rfl)) (by decide) (by decide)) rfl (by rw [hml]; rfl) (lenOf pd__28_Ljava_2f_lang_2f_StringBuilder_3b__29_V rfl) rfl (by show 2 * 0 + _ ≤ _; exact Nat.le_of_eq rfl) (hb hby d_jdk_67_m_42_5) (by decide) (by decide) ?_
  intro v_17 h_18 bk_19 O_20 z_21 Q_22
  obtain ⟨a_23, k_24, rfl, rfl, K_25, F_26⟩ := Q_22
  have lt_27 : @LT.lt Nat _ a_4 (Array.size h_18) := F_26.lt1
  have lt_28 : @LT.lt Nat _ a_23 (Array.size h_18) := F_26.lt2
  show Run p l e _ s m _ below meth c Z EL1 _ n0 bk h_18 2 19 (mkF m 8 #[.val (.ref a)] [(.ref a_4)]) _
  exact k_retA hx hlk hret rfl rfl rfl (hb hby d_jdk_67_m_42_8) (by decide) (by decide) ⟨a_4, a_23, k_24, rfl, rfl, (((Keep.refl _ _).ext E_7).trans K_25 (kkS (Or.inr (by omega)) kk0)), F_26⟩
def Q_rec (Z : State) (G1 : Int32) (G3 : Value) (x : Addr) (h0 : Heap) (n0 : Nat) (bk : Addr → Prop) (v : Option Value) (h : Heap) (bk' : Addr → Prop) : Prop := v = none ∧ h0 = h ∧ bk = bk'
theorem d_jdk_30_m_1_0 : decode jdk_30_method_1_code 0 = .ok (.aload_n 0, 1) := by decide +kernel
theorem d_jdk_30_m_1_1 : decode jdk_30_method_1_code 1 = .ok (.invokespecial 1, 3) := by decide +kernel
theorem d_jdk_30_m_1_4 : decode jdk_30_method_1_code 4 = .ok (.return_, 1) := by decide +kernel
abbrev RM_rec : Room := { frames := 1, cells := 0, slots := 0, locals := 12 }
theorem ef_rec (m : MethodId) (x0 : Addr) : entryFrame m #[(.ref x0)] 1 = mkF m 0 #[.val (.ref x0)] [] := by first | (simp [entryFrame, mkF, argsToLocals, Value.category]; done) | rfl
set_option maxRecDepth 65536 in
set_option maxHeartbeats 40000000 in
theorem rm_rec (l : Launch) (Z : State) (a0 : Array Value) (G1 : Int32) (G3 : Value) (hX : Ctx Z a0 G1 G3) (n0 : Nat) (bk : Addr → Prop) (h0 : Heap) (O0 : Old Z n0 h0) (x : Addr)  (ws : List Jvm.Cond) : Met l Z EL1 n0 bk (⟨"java/lang/Record", "<init>", "()V"⟩ : MethodName) jdk_30_method_1_code 1 (Option.none : Option FieldType) RM_rec #[(.ref x)] h0 (Q_rec Z G1 G3 x h0 n0 bk) ws := by
  have hX' := hX
  obtain ⟨hw, hE, S1, P1, S3, P3⟩ := hX'
  have hSA := sa_of hw
  have z0 : n0 ≤ h0.size := by rw [← O0.1]; exact O0.2.1
  refine Met.of (by decide +kernel) O0 hE ?_
  intro p e s m below meth c hx hby hml hret hlk hnm
  refine k_cast (ef_rec m x) ?_
  show Run p l e _ s m _ below meth c Z EL1 _ n0 bk h0 0 0 (mkF m 0 #[.val (.ref x)] []) _
  refine k_pure (g' := (mkF m 1 #[.val (.ref x)] [(.ref x)])) (fun TT HH tt kk => XS.aloadN HH hx rfl (hb hby d_jdk_30_m_1_0) rfl rfl kk) ?_
  refine k_initO hx (hw _ (List.mem_of_getElem? (i := 49) rfl)) (hw _ (List.mem_of_getElem? (i := 20) rfl)) (hw _ (List.mem_of_getElem? (i := 21) rfl)) rfl (by rw [hml]; rfl) rfl (hb hby d_jdk_30_m_1_1) (by decide) (W := 0) (by show 2 * 0 + _ ≤ _; exact Nat.le_of_eq rfl) (by decide) ?_
  show Run p l e _ s m _ below meth c Z EL1 _ n0 bk h0 0 0 (mkF m 4 #[.val (.ref x)] []) _
  exact k_ret0 hx hlk hret (hb hby d_jdk_30_m_1_4) (by decide) (by decide) ⟨rfl, rfl, rfl⟩
def Q_ini (Z : State) (G1 : Int32) (G3 : Value) (x : Addr) (u : Addr) (w : Addr) (h0 : Heap) (n0 : Nat) (bk : Addr → Prop) (v : Option Value) (h : Heap) (bk' : Addr → Prop) : Prop := v = none ∧ bk = bk' ∧ Keep h0 h [x] ∧ (Exa Z h x "com/example/tideline/tideline/TableName") ∧ (Fld Z h x "com/example/tideline/tideline/TableName" "schema" "Ljava/lang/String;" (.ref u)) ∧ (Fld Z h x "com/example/tideline/tideline/TableName" "table" "Ljava/lang/String;" (.ref w))
theorem d_prog_34_m_1_0 : decode prog_34_method_1_code 0 = .ok (.aload_n 0, 1) := by decide +kernel
theorem d_prog_34_m_1_1 : decode prog_34_method_1_code 1 = .ok (.invokespecial 1, 3) := by decide +kernel
theorem pd__28__29_V : parseMethodDescriptor "()V" = some ⟨[], none⟩ := by decide +kernel
theorem d_prog_34_m_1_4 : decode prog_34_method_1_code 4 = .ok (.aload_n 0, 1) := by decide +kernel
theorem d_prog_34_m_1_5 : decode prog_34_method_1_code 5 = .ok (.aload_n 1, 1) := by decide +kernel
theorem d_prog_34_m_1_6 : decode prog_34_method_1_code 6 = .ok (.putfield 7, 3) := by decide +kernel
theorem d_prog_34_m_1_9 : decode prog_34_method_1_code 9 = .ok (.aload_n 0, 1) := by decide +kernel
theorem d_prog_34_m_1_10 : decode prog_34_method_1_code 10 = .ok (.aload_n 2, 1) := by decide +kernel
theorem d_prog_34_m_1_11 : decode prog_34_method_1_code 11 = .ok (.putfield 13, 3) := by decide +kernel
theorem d_prog_34_m_1_14 : decode prog_34_method_1_code 14 = .ok (.return_, 1) := by decide +kernel
abbrev RM_ini : Room := { frames := 2, cells := 0, slots := 0, locals := 24 }
theorem ef_ini (m : MethodId) (x0 : Addr) (x1 : Addr) (x2 : Addr) : entryFrame m #[(.ref x0), (.ref x1), (.ref x2)] 3 = mkF m 0 #[.val (.ref x0), .val (.ref x1), .val (.ref x2)] [] := by first | (simp [entryFrame, mkF, argsToLocals, Value.category]; done) | rfl
set_option maxRecDepth 65536 in
set_option maxHeartbeats 40000000 in
theorem rm_ini (l : Launch) (Z : State) (a0 : Array Value) (G1 : Int32) (G3 : Value) (hX : Ctx Z a0 G1 G3) (n0 : Nat) (bk : Addr → Prop) (h0 : Heap) (O0 : Old Z n0 h0) (x : Addr) (u : Addr) (w : Addr) (pf_0 : Exa Z h0 x "com/example/tideline/tideline/TableName") (pf_1 : Fld Z h0 x "com/example/tideline/tideline/TableName" "schema" "Ljava/lang/String;" .null) (pf_2 : Fld Z h0 x "com/example/tideline/tideline/TableName" "table" "Ljava/lang/String;" .null) (nbx : ¬ bk x) (gx : n0 ≤ x) (ws : List Jvm.Cond) : Met l Z EL1 n0 bk (⟨"com/example/tideline/tideline/TableName", "<init>", "(Ljava/lang/String;Ljava/lang/String;)V"⟩ : MethodName) prog_34_method_1_code 3 (Option.none : Option FieldType) RM_ini #[(.ref x), (.ref u), (.ref w)] h0 (Q_ini Z G1 G3 x u w h0 n0 bk) ws := by
  have hX' := hX
  obtain ⟨hw, hE, S1, P1, S3, P3⟩ := hX'
  have hSA := sa_of hw
  have z0 : n0 ≤ h0.size := by rw [← O0.1]; exact O0.2.1
  refine Met.of (by decide +kernel) O0 hE ?_
  intro p e s m below meth c hx hby hml hret hlk hnm
  refine k_cast (ef_ini m x u w) ?_
  show Run p l e _ s m _ below meth c Z EL1 _ n0 bk h0 0 0 (mkF m 0 #[.val (.ref x), .val (.ref u), .val (.ref w)] []) _
  have lt_1 : @LT.lt Nat _ x (Array.size h0) := pf_0.lt
  have lt_2 : @LT.lt Nat _ x (Array.size h0) := pf_1.lt
  have lt_3 : @LT.lt Nat _ x (Array.size h0) := pf_2.lt
  refine k_pure (g' := (mkF m 1 #[.val (.ref x), .val (.ref u), .val (.ref w)] [(.ref x)])) (fun TT HH tt kk => XS.aloadN HH hx rfl (hb hby d_prog_34_m_1_0) rfl rfl kk) ?_
  refine k_callI hx (y := (⟨"java/lang/Record", "<init>", "()V"⟩ : MethodName)) rfl (hw _ (List.mem_of_getElem? (i := 44) rfl)) (hw _ (List.mem_of_getElem? (i := 45) rfl)) (hw _ (List.mem_of_getElem? (i := 48) rfl)) (by decide) (W := 0) (a := x) (argsL := []) (rest := []) (Pays.of_met (rm_rec l Z a0 G1 G3 hX n0 bk h0 O0 x  []) (hw _ (List.mem_of_getElem? (i := 48) rfl)) (hw _ (List.mem_of_getElem? (i := 47) rfl)) (by decide) (by decide)) rfl (by rw [hml]; rfl) (lenOf pd__28__29_V rfl) rfl (by show 2 * 0 + _ ≤ _; exact Nat.le_of_eq rfl) (hb hby d_prog_34_m_1_1) (by decide) (by decide) ?_
  intro v_4 h_5 bk_6 O_7 z_8 Q_9
  obtain ⟨rfl, rfl, rfl⟩ := Q_9
  show Run p l e _ s m _ below meth c Z EL1 _ n0 bk h0 0 0 (mkF m 4 #[.val (.ref x), .val (.ref u), .val (.ref w)] []) _
  refine k_pure (g' := (mkF m 5 #[.val (.ref x), .val (.ref u), .val (.ref w)] [(.ref x)])) (fun TT HH tt kk => XS.aloadN HH hx rfl (hb hby d_prog_34_m_1_4) rfl rfl kk) ?_
  refine k_pure (g' := (mkF m 6 #[.val (.ref x), .val (.ref u), .val (.ref w)] [(.ref u), (.ref x)])) (fun TT HH tt kk => XS.aloadN HH hx rfl (hb hby d_prog_34_m_1_5) rfl rfl kk) ?_
  refine k_putF hx (host := "") (Or.inl (hw _ (List.mem_of_getElem? (i := 50) rfl))) Via.refl pf_1 pf_0 (Or.inr ⟨(hw _ (List.mem_of_getElem? (i := 51) rfl)), rfl, hnm⟩) (hw _ (List.mem_of_getElem? (i := 39) rfl)) (ty := (.object "java/lang/String")) (by decide) rfl rfl (by omega) nbx rfl rfl (hb hby d_prog_34_m_1_6) ?_
  intro h_10 O_12 W_11
  have z_13 := W_11.size
  show Run p l e _ s m _ below meth c Z EL1 _ n0 bk h_10 0 0 (mkF m 9 #[.val (.ref x), .val (.ref u), .val (.ref w)] []) _
  refine k_pure (g' := (mkF m 10 #[.val (.ref x), .val (.ref u), .val (.ref w)] [(.ref x)])) (fun TT HH tt kk => XS.aloadN HH hx rfl (hb hby d_prog_34_m_1_9) rfl rfl kk) ?_
  refine k_pure (g' := (mkF m 11 #[.val (.ref x), .val (.ref u), .val (.ref w)] [(.ref w), (.ref x)])) (fun TT HH tt kk => XS.aloadN HH hx rfl (hb hby d_prog_34_m_1_10) rfl rfl kk) ?_
  have F_14 : Fld Z h_10 x "com/example/tideline/tideline/TableName" "table" "Ljava/lang/String;" .null := (pf_2.other W_11 (Or.inr (RoadKit.slot_ne (C := "com/example/tideline/tideline/TableName") (Or.inr (hw _ (List.mem_of_getElem? (i := 53) rfl))) (Or.inr (hw _ (List.mem_of_getElem? (i := 51) rfl))) (by decide) (t := (.object "java/lang/String")) (t' := (.object "java/lang/String")) (by decide) (by decide))))
  have F_15 : Exa Z h_10 x "com/example/tideline/tideline/TableName" := (pf_0.wr W_11)
  refine k_putF hx (host := "") (Or.inl (hw _ (List.mem_of_getElem? (i := 52) rfl))) Via.refl F_14 F_15 (Or.inr ⟨(hw _ (List.mem_of_getElem? (i := 53) rfl)), rfl, hnm⟩) (hw _ (List.mem_of_getElem? (i := 39) rfl)) (ty := (.object "java/lang/String")) (by decide) rfl rfl (by omega) nbx rfl rfl (hb hby d_prog_34_m_1_11) ?_
  intro h_16 O_18 W_17
  have z_19 := W_17.size
  show Run p l e _ s m _ below meth c Z EL1 _ n0 bk h_16 0 0 (mkF m 14 #[.val (.ref x), .val (.ref u), .val (.ref w)] []) _
  have F_20 : Exa Z h_16 x "com/example/tideline/tideline/TableName" := (F_15.wr W_17)
  have F_21 : Fld Z h_16 x "com/example/tideline/tideline/TableName" "schema" "Ljava/lang/String;" (.ref u) := ((pf_1.same W_11).other W_17 (Or.inr (RoadKit.slot_ne (C := "com/example/tideline/tideline/TableName") (Or.inr (hw _ (List.mem_of_getElem? (i := 51) rfl))) (Or.inr (hw _ (List.mem_of_getElem? (i := 53) rfl))) (by decide) (t := (.object "java/lang/String")) (t' := (.object "java/lang/String")) (by decide) (by decide))))
  exact k_ret0 hx hlk hret (hb hby d_prog_34_m_1_14) (by decide) (by decide) ⟨rfl, rfl, (((Keep.refl _ _).wr W_11 (Or.inl (by simp))).wr W_17 (Or.inl (by simp))), F_20, F_21, (F_14.same W_17)⟩
def Q_tos (Z : State) (G1 : Int32) (G3 : Value) (x : Addr) (u : Addr) (u1 : Addr) (k1 : ClassId) (ss : List Int32) (w : Addr) (w1 : Addr) (k2 : ClassId) (ts : List Int32) (h0 : Heap) (n0 : Nat) (bk : Addr → Prop) (v : Option Value) (h : Heap) (bk' : Addr → Prop) : Prop := ∃ (r : Addr), ∃ (r1 : Addr), ∃ (kr : ClassId), v = some (.ref r) ∧ (∀ y, bk' y → bk y ∨ (@LE.le Nat _ (Array.size h0) y ∧ @LT.lt Nat _ y (Array.size h))) ∧ Keep h0 h [] ∧ (StrL Z h r r1 kr (((([] : List Int32) ++ ss) ++ [(46 : Int32)]) ++ ts))
theorem d_prog_34_m_4_0 : decode prog_34_method_4_code 0 = .ok (.new 31, 3) := by decide +kernel
theorem d_prog_34_m_4_3 : decode prog_34_method_4_code 3 = .ok (.dup, 1) := by decide +kernel
theorem d_prog_34_m_4_4 : decode prog_34_method_4_code 4 = .ok (.invokespecial 33, 3) := by decide +kernel
theorem d_prog_34_m_4_7 : decode prog_34_method_4_code 7 = .ok (.aload_n 0, 1) := by decide +kernel
theorem d_prog_34_m_4_8 : decode prog_34_method_4_code 8 = .ok (.getfield 7, 3) := by decide +kernel
theorem d_prog_34_m_4_11 : decode prog_34_method_4_code 11 = .ok (.invokevirtual 36, 3) := by decide +kernel
theorem pd__28_Ljava_2f_lang_2f_String_3b__29_Ljava_2f_lang_2f_StringBuilder_3b_ : parseMethodDescriptor "(Ljava/lang/String;)Ljava/lang/StringBuilder;" = some ⟨[(.object "java/lang/String")], some (.object "java/lang/StringBuilder")⟩ := by decide +kernel
theorem d_prog_34_m_4_14 : decode prog_34_method_4_code 14 = .ok (.ldc 87, 2) := by decide +kernel
theorem d_prog_34_m_4_16 : decode prog_34_method_4_code 16 = .ok (.invokevirtual 36, 3) := by decide +kernel
theorem d_prog_34_m_4_19 : decode prog_34_method_4_code 19 = .ok (.aload_n 0, 1) := by decide +kernel
theorem d_prog_34_m_4_20 : decode prog_34_method_4_code 20 = .ok (.getfield 13, 3) := by decide +kernel
theorem d_prog_34_m_4_23 : decode prog_34_method_4_code 23 = .ok (.invokevirtual 36, 3) := by decide +kernel
theorem d_prog_34_m_4_26 : decode prog_34_method_4_code 26 = .ok (.invokevirtual 42, 3) := by decide +kernel
theorem pd__28__29_Ljava_2f_lang_2f_String_3b_ : parseMethodDescriptor "()Ljava/lang/String;" = some ⟨[], some (.object "java/lang/String")⟩ := by decide +kernel
theorem d_prog_34_m_4_29 : decode prog_34_method_4_code 29 = .ok (.areturn, 1) := by decide +kernel
abbrev RM_tos : Room := { frames := 6, cells := 6, slots := 47, locals := 91 }
theorem ef_tos (m : MethodId) (x0 : Addr) : entryFrame m #[(.ref x0)] 1 = mkF m 0 #[.val (.ref x0)] [] := by first | (simp [entryFrame, mkF, argsToLocals, Value.category]; done) | rfl
set_option maxRecDepth 65536 in
set_option maxHeartbeats 40000000 in
theorem rm_tos (l : Launch) (Z : State) (a0 : Array Value) (G1 : Int32) (G3 : Value) (hX : Ctx Z a0 G1 G3) (n0 : Nat) (bk : Addr → Prop) (h0 : Heap) (O0 : Old Z n0 h0) (x : Addr) (u : Addr) (u1 : Addr) (k1 : ClassId) (ss : List Int32) (w : Addr) (w1 : Addr) (k2 : ClassId) (ts : List Int32) (pf_0 : Exa Z h0 x "com/example/tideline/tideline/TableName") (pf_1 : Fld Z h0 x "com/example/tideline/tideline/TableName" "schema" "Ljava/lang/String;" (.ref u)) (pf_2 : Fld Z h0 x "com/example/tideline/tideline/TableName" "table" "Ljava/lang/String;" (.ref w)) (pf_3 : StrL Z h0 u u1 k1 ss) (pf_4 : StrL Z h0 w w1 k2 ts) (l1 : ss.length ≤ 3) (l2 : ts.length ≤ 3) (hbl : ∀ y, bk y → @LT.lt Nat _ y (Array.size h0)) (ws : List Jvm.Cond) : Met l Z EL1 n0 bk (⟨"com/example/tideline/tideline/TableName", "toString", "()Ljava/lang/String;"⟩ : MethodName) prog_34_method_4_code 1 (Option.some (FieldType.object "java/lang/String")) RM_tos #[(.ref x)] h0 (Q_tos Z G1 G3 x u u1 k1 ss w w1 k2 ts h0 n0 bk) ws := by
  have hX' := hX
  obtain ⟨hw, hE, S1, P1, S3, P3⟩ := hX'
  have hSA := sa_of hw
  have z0 : n0 ≤ h0.size := by rw [← O0.1]; exact O0.2.1
  refine Met.of (by decide +kernel) O0 hE ?_
  intro p e s m below meth c hx hby hml hret hlk hnm
  refine k_cast (ef_tos m x) ?_
  show Run p l e _ s m _ below meth c Z EL1 _ n0 bk h0 0 0 (mkF m 0 #[.val (.ref x)] []) _
  have lt_1 : @LT.lt Nat _ x (Array.size h0) := pf_0.lt
  have lt_2 : @LT.lt Nat _ x (Array.size h0) := pf_1.lt
  have lt_3 : @LT.lt Nat _ x (Array.size h0) := pf_2.lt
  have lt_4 : @LT.lt Nat _ u (Array.size h0) := pf_3.lt1
  have lt_5 : @LT.lt Nat _ u1 (Array.size h0) := pf_3.lt2
  have lt_6 : @LT.lt Nat _ w (Array.size h0) := pf_4.lt1
  have lt_7 : @LT.lt Nat _ w1 (Array.size h0) := pf_4.lt2
  refine k_newO hx (hw _ (List.mem_of_getElem? (i := 59) rfl)) (hw _ (List.mem_of_getElem? (i := 60) rfl)) (hw _ (List.mem_of_getElem? (i := 61) rfl)) rfl (hb hby d_prog_34_m_4_0) (by decide) (by decide) ?_
  intro h_9 a_8 g_15 O_10 E_11 A_12 D_13 U_14
  have z_16 := E_11.1
  have lt_17 : @LT.lt Nat _ a_8 (Array.size h_9) := A_12.lt
  have nb_18 : ¬ bk a_8 := fun q => Nat.not_le_of_lt (hbl _ q) (show @LE.le Nat _ (Array.size h0) a_8 by omega)
  show Run p l e _ s m _ below meth c Z EL1 _ n0 bk h_9 1 4 (mkF m 3 #[.val (.ref x)] [(.ref a_8)]) _
  refine k_pure (g' := (mkF m 4 #[.val (.ref x)] [(.ref a_8), (.ref a_8)])) (fun TT HH tt kk => XS.dup HH hx rfl (hb hby d_prog_34_m_4_3) rfl rfl kk) ?_
  have hbl_19 : ∀ y, bk y → @LT.lt Nat _ y (Array.size h_9) := fun y q => Nat.lt_of_lt_of_le (hbl y q) (by omega)
  refine k_callI hx (y := (⟨"java/lang/StringBuilder", "<init>", "()V"⟩ : MethodName)) rfl (hw _ (List.mem_of_getElem? (i := 62) rfl)) (hw _ (List.mem_of_getElem? (i := 63) rfl)) (hw _ (List.mem_of_getElem? (i := 64) rfl)) (by decide) (W := 1) (a := a_8) (argsL := []) (rest := [(.ref a_8)]) (Pays.of_met (rm_sbi l Z a0 G1 G3 hX n0 bk h_9 O_10 a_8 A_12 (D_13 (Or.inl (hw _ (List.mem_of_getElem? (i := 74) rfl))) (ty := (.array .byte)) (by decide)) (D_13 (Or.inl (hw _ (List.mem_of_getElem? (i := 76) rfl))) (ty := .byte) (by decide)) (D_13 (Or.inl (hw _ (List.mem_of_getElem? (i := 98) rfl))) (ty := .int) (by decide)) hbl_19 nb_18 (by omega) []) (hw _ (List.mem_of_getElem? (i := 64) rfl)) (hw _ (List.mem_of_getElem? (i := 61) rfl)) (by decide) (by decide)) rfl (by rw [hml]; rfl) (lenOf pd__28__29_V rfl) rfl (by show 2 * 0 + _ ≤ _; exact Nat.le_of_eq rfl) (hb hby d_prog_34_m_4_4) (by decide) (by decide) ?_
  intro v_20 h_21 bk_22 O_23 z_24 Q_25
  obtain ⟨a_26, k_27, rfl, rfl, K_28, F_29, P_30, P_31⟩ := Q_25
  have ne_32 : @Ne Nat a_8 a_26 := F_29.2.2.2.2.2.2.2.2
  have lt_33 : @LT.lt Nat _ a_8 (Array.size h_21) := F_29.lt1
  have lt_34 : @LT.lt Nat _ a_26 (Array.size h_21) := F_29.lt2
  show Run p l e _ s m _ below meth c Z EL1 _ n0 bk h_21 2 20 (mkF m 7 #[.val (.ref x)] [(.ref a_8)]) _
  refine k_pure (g' := (mkF m 8 #[.val (.ref x)] [(.ref x), (.ref a_8)])) (fun TT HH tt kk => XS.aloadN HH hx rfl (hb hby d_prog_34_m_4_7) rfl rfl kk) ?_
  have F_35 : Fld Z h_21 x "com/example/tideline/tideline/TableName" "schema" "Ljava/lang/String;" (.ref u) := ((pf_1.ext E_11).keep K_28 (ninS (ne_ad (by omega)) nin0))
  refine k_getF hx (host := "") (Or.inl (hw _ (List.mem_of_getElem? (i := 50) rfl))) Via.refl F_35 rfl rfl (hb hby d_prog_34_m_4_8) ?_
  show Run p l e _ s m _ below meth c Z EL1 _ n0 bk h_21 2 20 (mkF m 11 #[.val (.ref x)] [(.ref u), (.ref a_8)]) _
  have F_36 : StrL Z h_21 u u1 k1 ss := ((pf_3.ext E_11).keep K_28 (ninS (ne_ad (by omega)) nin0) (ninS (ne_ad (by omega)) nin0))
  refine k_callV hx (y := (⟨"java/lang/StringBuilder", "append", "(Ljava/lang/String;)Ljava/lang/StringBuilder;"⟩ : MethodName)) (z := (⟨"java/lang/StringBuilder", "append", "(Ljava/lang/String;)Ljava/lang/StringBuilder;"⟩ : MethodName)) (hw _ (List.mem_of_getElem? (i := 77) rfl)) (hw _ (List.mem_of_getElem? (i := 78) rfl)) (fun s' hZ => notFace_of_selects (args := #[]) (mv hZ (hw _ (List.mem_of_getElem? (i := 80) rfl)))) (hw _ (List.mem_of_getElem? (i := 80) rfl)) (hw _ (List.mem_of_getElem? (i := 79) rfl)) (by decide) (W := 0) (a := a_8) (argsL := [(.ref u)]) (rest := []) (Pays.of_met (rm_sba l Z a0 G1 G3 hX n0 bk h_21 O_23 a_8 a_26 k_27 16 ([] : List Int32) u u1 k1 ss F_29 F_36 (by simp <;> omega) (by omega) (by omega) (by omega) (by omega) nb_18 P_31 (by omega) (by omega) []) (hw _ (List.mem_of_getElem? (i := 81) rfl)) (hw _ (List.mem_of_getElem? (i := 61) rfl)) (by decide) (by decide)) F_29.1 rfl (by rw [hml]; rfl) (lenOf pd__28_Ljava_2f_lang_2f_String_3b__29_Ljava_2f_lang_2f_StringBuilder_3b_ rfl) rfl (by show 2 * 0 + _ ≤ _; exact Nat.le_of_eq rfl) (hb hby d_prog_34_m_4_11) (by decide) (by decide) ?_
  intro v_37 h_38 bk_39 O_40 z_41 Q_42
  obtain ⟨rfl, rfl, K_43, F_44⟩ := Q_42
  have ne_45 : @Ne Nat a_8 a_26 := F_44.2.2.2.2.2.2.2.2
  have lt_46 : @LT.lt Nat _ a_8 (Array.size h_38) := F_44.lt1
  have lt_47 : @LT.lt Nat _ a_26 (Array.size h_38) := F_44.lt2
  show Run p l e _ s m _ below meth c Z EL1 _ n0 bk h_38 2 20 (mkF m 14 #[.val (.ref x)] [(.ref a_8)]) _
  refine k_ldcC hx (hw _ (List.mem_of_getElem? (i := 124) rfl)) hSA (by decide +kernel) (z := (Int32.ofNat [(46 : Int32)].length)) (vs := ([(46 : Int32)].map (fun c => c.toInt8.toInt32)).map Value.int) (by decide +kernel) (by decide) (by decide +kernel) rfl (hb hby d_prog_34_m_4_14) (n := 4) (by decide +kernel) (by decide) (by decide) (by decide) ?_
  intro h_48 a_49 a_54 k_55 bk_52 O_50 E_51 hbk_53 X_56 F_57 F_58 V_59 nl_60
  have z_61 := E_51.1
  have lt_62 : @LT.lt Nat _ a_49 (Array.size h_48) := X_56.lt
  have lt_63 : @LT.lt Nat _ a_54 (Array.size h_48) := V_59.lt
  have ne_64 : @Ne Nat a_8 a_49 := (nl_60 a_8 (show @LT.lt Nat _ a_8 (Array.size h_38) by omega) nb_18).1
  have ne_65 : @Ne Nat a_8 a_54 := (nl_60 a_8 (show @LT.lt Nat _ a_8 (Array.size h_38) by omega) nb_18).2
  have ne_66 : @Ne Nat a_26 a_49 := (nl_60 a_26 (show @LT.lt Nat _ a_26 (Array.size h_38) by omega) P_31).1
  have ne_67 : @Ne Nat a_26 a_54 := (nl_60 a_26 (show @LT.lt Nat _ a_26 (Array.size h_38) by omega) P_31).2
  have S_68 : StrL Z h_48 a_49 a_54 k_55 [(46 : Int32)] := ⟨X_56, F_57, F_58, V_59, by decide, by decide⟩
  have hbl_69 : ∀ y, bk y → @LT.lt Nat _ y (Array.size h_38) := fun y q => Nat.lt_of_lt_of_le (hbl_19 y q) (by omega)
  have nb_70 : ¬ bk_52 a_8 := fun q => (hbk_53 _ q).elim nb_18 (fun r => Nat.not_le_of_lt (show @LT.lt Nat _ a_8 (Array.size h_38) by omega) r.1)
  have nb_71 : ¬ bk_52 a_26 := fun q => (hbk_53 _ q).elim P_31 (fun r => Nat.not_le_of_lt (show @LT.lt Nat _ a_26 (Array.size h_38) by omega) r.1)
  have hbl_72 : ∀ y, bk_52 y → @LT.lt Nat _ y (Array.size h_48) := fun y q => (hbk_53 y q).elim (fun r => Nat.lt_of_lt_of_le (hbl_69 y r) (by omega)) (fun r => r.2)
  have hbs_73 : ∀ y, bk_52 y → bk y ∨ (@LE.le Nat _ (Array.size h0) y ∧ @LT.lt Nat _ y (Array.size h_48)) := fun y q => (hbk_53 y q).imp id (fun r => ⟨Nat.le_trans (by omega) r.1, r.2⟩)
  show Run p l e _ s m _ below meth c Z EL1 _ n0 bk_52 h_48 4 28 (mkF m 16 #[.val (.ref x)] [(.ref a_49), (.ref a_8)]) _
  have F_74 : SbL Z h_48 a_8 a_26 k_27 16 (([] : List Int32) ++ ss) := (F_44.ext E_51)
  have F_75 : Exa Z h_48 a_8 "java/lang/StringBuilder" := (F_44.1.ext E_51)
  refine k_callV hx (y := (⟨"java/lang/StringBuilder", "append", "(Ljava/lang/String;)Ljava/lang/StringBuilder;"⟩ : MethodName)) (z := (⟨"java/lang/StringBuilder", "append", "(Ljava/lang/String;)Ljava/lang/StringBuilder;"⟩ : MethodName)) (hw _ (List.mem_of_getElem? (i := 77) rfl)) (hw _ (List.mem_of_getElem? (i := 78) rfl)) (fun s' hZ => notFace_of_selects (args := #[]) (mv hZ (hw _ (List.mem_of_getElem? (i := 80) rfl)))) (hw _ (List.mem_of_getElem? (i := 80) rfl)) (hw _ (List.mem_of_getElem? (i := 79) rfl)) (by decide) (W := 0) (a := a_8) (argsL := [(.ref a_49)]) (rest := []) (Pays.of_met (rm_sba l Z a0 G1 G3 hX n0 bk_52 h_48 O_50 a_8 a_26 k_27 16 (([] : List Int32) ++ ss) a_49 a_54 k_55 [(46 : Int32)] F_74 S_68 (by simp <;> omega) (by omega) (by omega) (by omega) (by omega) nb_70 nb_71 (by omega) (by omega) []) (hw _ (List.mem_of_getElem? (i := 81) rfl)) (hw _ (List.mem_of_getElem? (i := 61) rfl)) (by decide) (by decide)) F_75 rfl (by rw [hml]; rfl) (lenOf pd__28_Ljava_2f_lang_2f_String_3b__29_Ljava_2f_lang_2f_StringBuilder_3b_ rfl) rfl (by show 2 * 0 + _ ≤ _; exact Nat.le_of_eq rfl) (hb hby d_prog_34_m_4_16) (by decide) (by decide) ?_
  intro v_76 h_77 bk_78 O_79 z_80 Q_81
  obtain ⟨rfl, rfl, K_82, F_83⟩ := Q_81
  have ne_84 : @Ne Nat a_8 a_26 := F_83.2.2.2.2.2.2.2.2
  have lt_85 : @LT.lt Nat _ a_8 (Array.size h_77) := F_83.lt1
  have lt_86 : @LT.lt Nat _ a_26 (Array.size h_77) := F_83.lt2
  show Run p l e _ s m _ below meth c Z EL1 _ n0 bk_52 h_77 4 28 (mkF m 19 #[.val (.ref x)] [(.ref a_8)]) _
  refine k_pure (g' := (mkF m 20 #[.val (.ref x)] [(.ref x), (.ref a_8)])) (fun TT HH tt kk => XS.aloadN HH hx rfl (hb hby d_prog_34_m_4_19) rfl rfl kk) ?_
  have F_87 : Fld Z h_77 x "com/example/tideline/tideline/TableName" "table" "Ljava/lang/String;" (.ref w) := (((((pf_2.ext E_11).keep K_28 (ninS (ne_ad (by omega)) nin0)).keep K_43 (ninS (ne_ad (by omega)) (ninS (ne_ad (by omega)) nin0))).ext E_51).keep K_82 (ninS (ne_ad (by omega)) (ninS (ne_ad (by omega)) nin0)))
  refine k_getF hx (host := "") (Or.inl (hw _ (List.mem_of_getElem? (i := 52) rfl))) Via.refl F_87 rfl rfl (hb hby d_prog_34_m_4_20) ?_
  show Run p l e _ s m _ below meth c Z EL1 _ n0 bk_52 h_77 4 28 (mkF m 23 #[.val (.ref x)] [(.ref w), (.ref a_8)]) _
  have F_88 : StrL Z h_77 w w1 k2 ts := (((((pf_4.ext E_11).keep K_28 (ninS (ne_ad (by omega)) nin0) (ninS (ne_ad (by omega)) nin0)).keep K_43 (ninS (ne_ad (by omega)) (ninS (ne_ad (by omega)) nin0)) (ninS (ne_ad (by omega)) (ninS (ne_ad (by omega)) nin0))).ext E_51).keep K_82 (ninS (ne_ad (by omega)) (ninS (ne_ad (by omega)) nin0)) (ninS (ne_ad (by omega)) (ninS (ne_ad (by omega)) nin0)))
  refine k_callV hx (y := (⟨"java/lang/StringBuilder", "append", "(Ljava/lang/String;)Ljava/lang/StringBuilder;"⟩ : MethodName)) (z := (⟨"java/lang/StringBuilder", "append", "(Ljava/lang/String;)Ljava/lang/StringBuilder;"⟩ : MethodName)) (hw _ (List.mem_of_getElem? (i := 77) rfl)) (hw _ (List.mem_of_getElem? (i := 78) rfl)) (fun s' hZ => notFace_of_selects (args := #[]) (mv hZ (hw _ (List.mem_of_getElem? (i := 80) rfl)))) (hw _ (List.mem_of_getElem? (i := 80) rfl)) (hw _ (List.mem_of_getElem? (i := 79) rfl)) (by decide) (W := 0) (a := a_8) (argsL := [(.ref w)]) (rest := []) (Pays.of_met (rm_sba l Z a0 G1 G3 hX n0 bk_52 h_77 O_79 a_8 a_26 k_27 16 ((([] : List Int32) ++ ss) ++ [(46 : Int32)]) w w1 k2 ts F_83 F_88 (by simp <;> omega) (by omega) (by omega) (by omega) (by omega) nb_70 nb_71 (by omega) (by omega) []) (hw _ (List.mem_of_getElem? (i := 81) rfl)) (hw _ (List.mem_of_getElem? (i := 61) rfl)) (by decide) (by decide)) F_83.1 rfl (by rw [hml]; rfl) (lenOf pd__28_Ljava_2f_lang_2f_String_3b__29_Ljava_2f_lang_2f_StringBuilder_3b_ rfl) rfl (by show 2 * 0 + _ ≤ _; exact Nat.le_of_eq rfl) (hb hby d_prog_34_m_4_23) (by decide) (by decide) ?_
  intro v_89 h_90 bk_91 O_92 z_93 Q_94
  obtain ⟨rfl, rfl, K_95, F_96⟩ := Q_94
  have ne_97 : @Ne Nat a_8 a_26 := F_96.2.2.2.2.2.2.2.2
  have lt_98 : @LT.lt Nat _ a_8 (Array.size h_90) := F_96.lt1
  have lt_99 : @LT.lt Nat _ a_26 (Array.size h_90) := F_96.lt2
  show Run p l e _ s m _ below meth c Z EL1 _ n0 bk_52 h_90 4 28 (mkF m 26 #[.val (.ref x)] [(.ref a_8)]) _
  have hbl_100 : ∀ y, bk_52 y → @LT.lt Nat _ y (Array.size h_90) := fun y q => Nat.lt_of_lt_of_le (hbl_72 y q) (by omega)
  refine k_callV hx (y := (⟨"java/lang/StringBuilder", "toString", "()Ljava/lang/String;"⟩ : MethodName)) (z := (⟨"java/lang/StringBuilder", "toString", "()Ljava/lang/String;"⟩ : MethodName)) (hw _ (List.mem_of_getElem? (i := 127) rfl)) (hw _ (List.mem_of_getElem? (i := 128) rfl)) (fun s' hZ => notFace_of_selects (args := #[]) (mv hZ (hw _ (List.mem_of_getElem? (i := 130) rfl)))) (hw _ (List.mem_of_getElem? (i := 130) rfl)) (hw _ (List.mem_of_getElem? (i := 129) rfl)) (by decide) (W := 0) (a := a_8) (argsL := []) (rest := []) (Pays.of_met (rm_sts l Z a0 G1 G3 hX n0 bk_52 h_90 O_92 a_8 a_26 k_27 16 (((([] : List Int32) ++ ss) ++ [(46 : Int32)]) ++ ts) F_96 (by simp <;> omega) (by simp <;> omega) hbl_100 []) (hw _ (List.mem_of_getElem? (i := 131) rfl)) (hw _ (List.mem_of_getElem? (i := 61) rfl)) (by decide) (by decide)) F_96.1 rfl (by rw [hml]; rfl) (lenOf pd__28__29_Ljava_2f_lang_2f_String_3b_ rfl) rfl (by show 2 * 0 + _ ≤ _; exact Nat.le_of_eq rfl) (hb hby d_prog_34_m_4_26) (by decide) (by decide) ?_
  intro v_101 h_102 bk_103 O_104 z_105 Q_106
  obtain ⟨a_107, a_108, k_109, rfl, rfl, K_110, F_111⟩ := Q_106
  have lt_112 : @LT.lt Nat _ a_107 (Array.size h_102) := F_111.lt1
  have lt_113 : @LT.lt Nat _ a_108 (Array.size h_102) := F_111.lt2
  show Run p l e _ s m _ below meth c Z EL1 _ n0 bk_52 h_102 6 47 (mkF m 29 #[.val (.ref x)] [(.ref a_107)]) _
  exact k_retA hx hlk hret rfl rfl rfl (hb hby d_prog_34_m_4_29) (by decide) (by decide) ⟨a_107, a_108, k_109, rfl, (fun y q => (hbs_73 y q).imp id (fun t => ⟨t.1, Nat.lt_of_lt_of_le t.2 (by omega)⟩)), ((((((((Keep.refl _ _).ext E_11).trans K_28 (kkS (Or.inr (by omega)) kk0)).trans K_43 (kkS (Or.inr (by omega)) (kkS (Or.inr (by omega)) kk0))).ext E_51).trans K_82 (kkS (Or.inr (by omega)) (kkS (Or.inr (by omega)) kk0))).trans K_95 (kkS (Or.inr (by omega)) (kkS (Or.inr (by omega)) kk0))).trans K_110 kk0), F_111⟩
def Q_at (Z : State) (G1 : Int32) (G3 : Value) (a : Addr) (t : Addr) (kb : ClassId) (cs : List Int32) (ps : Int32) (ln : Int32) (i : Int32) (e1 : Int32) (h0 : Heap) (n0 : Nat) (bk : Addr → Prop) (v : Option Value) (h : Heap) (bk' : Addr → Prop) : Prop := v = some (.int (1 : Int32)) ∧ h0 = h ∧ bk = bk'
theorem d_m_4_0 : decode method_4_code 0 = .ok (.iload_n 3, 1) := by decide +kernel
theorem d_m_4_1 : decode method_4_code 1 = .ok (.iload_n 2, 1) := by decide +kernel
theorem d_m_4_2 : decode method_4_code 2 = .ok (.if_icmp .lt 5, 3) := by decide +kernel
theorem d_m_4_7 : decode method_4_code 7 = .ok (.aload_n 0, 1) := by decide +kernel
theorem d_m_4_8 : decode method_4_code 8 = .ok (.iload_n 1, 1) := by decide +kernel
theorem d_m_4_9 : decode method_4_code 9 = .ok (.iload_n 3, 1) := by decide +kernel
theorem d_m_4_10 : decode method_4_code 10 = .ok (.iadd, 1) := by decide +kernel
theorem d_m_4_11 : decode method_4_code 11 = .ok (.invokevirtual 18, 3) := by decide +kernel
theorem pd__28_I_29_C : parseMethodDescriptor "(I)C" = some ⟨[.int], some .char⟩ := by decide +kernel
theorem d_m_4_14 : decode method_4_code 14 = .ok (.iload 4, 2) := by decide +kernel
theorem d_m_4_16 : decode method_4_code 16 = .ok (.if_icmp .ne 7, 3) := by decide +kernel
theorem d_m_4_19 : decode method_4_code 19 = .ok (.iconst 1, 1) := by decide +kernel
theorem d_m_4_20 : decode method_4_code 20 = .ok (.goto 4, 3) := by decide +kernel
theorem d_m_4_24 : decode method_4_code 24 = .ok (.ireturn, 1) := by decide +kernel
theorem d_m_4_5 : decode method_4_code 5 = .ok (.iconst 1, 1) := by decide +kernel
theorem d_m_4_6 : decode method_4_code 6 = .ok (.ireturn, 1) := by decide +kernel
abbrev RM_at : Room := { frames := 4, cells := 0, slots := 0, locals := 53 }
theorem ef_at (m : MethodId) (x0 : Addr) (x1 : Int32) (x2 : Int32) (x3 : Int32) (x4 : Int32) : entryFrame m #[(.ref x0), (.int x1), (.int x2), (.int x3), (.int x4)] 5 = mkF m 0 #[.val (.ref x0), .val (.int x1), .val (.int x2), .val (.int x3), .val (.int x4)] [] := by first | (simp [entryFrame, mkF, argsToLocals, Value.category]; done) | rfl
set_option maxRecDepth 65536 in
set_option maxHeartbeats 40000000 in
theorem rm_at (l : Launch) (Z : State) (a0 : Array Value) (G1 : Int32) (G3 : Value) (hX : Ctx Z a0 G1 G3) (n0 : Nat) (bk : Addr → Prop) (h0 : Heap) (O0 : Old Z n0 h0) (a : Addr) (t : Addr) (kb : ClassId) (cs : List Int32) (ps : Int32) (ln : Int32) (i : Int32) (e1 : Int32) (pf_0 : StrL Z h0 a t kb cs) (hp : Ask cs ps ln i e1) (ws : List Jvm.Cond) : Met l Z EL1 n0 bk (⟨"com/example/tideline/tideline/TableNameToStringPinLaw", "at", "(Ljava/lang/String;IIIC)Z"⟩ : MethodName) method_4_code 5 (Option.some FieldType.boolean) RM_at #[(.ref a), (.int ps), (.int ln), (.int i), (.int e1)] h0 (Q_at Z G1 G3 a t kb cs ps ln i e1 h0 n0 bk) ws := by
  have hX' := hX
  obtain ⟨hw, hE, S1, P1, S3, P3⟩ := hX'
  have hSA := sa_of hw
  have z0 : n0 ≤ h0.size := by rw [← O0.1]; exact O0.2.1
  refine Met.of (by decide +kernel) O0 hE ?_
  intro p e s m below meth c hx hby hml hret hlk hnm
  refine k_cast (ef_at m a ps ln i e1) ?_
  show Run p l e _ s m _ below meth c Z EL1 _ n0 bk h0 0 0 (mkF m 0 #[.val (.ref a), .val (.int ps), .val (.int ln), .val (.int i), .val (.int e1)] []) _
  have lt_1 : @LT.lt Nat _ a (Array.size h0) := pf_0.lt1
  have lt_2 : @LT.lt Nat _ t (Array.size h0) := pf_0.lt2
  refine k_pure (g' := (mkF m 1 #[.val (.ref a), .val (.int ps), .val (.int ln), .val (.int i), .val (.int e1)] [(.int i)])) (fun TT HH tt kk => XS.iloadN HH hx rfl (hb hby d_m_4_0) rfl kk) ?_
  refine k_pure (g' := (mkF m 2 #[.val (.ref a), .val (.int ps), .val (.int ln), .val (.int i), .val (.int e1)] [(.int ln), (.int i)])) (fun TT HH tt kk => XS.iloadN HH hx rfl (hb hby d_m_4_1) rfl kk) ?_
  by_cases c_3 : i < ln
  · refine k_pure (g' := (mkF m 7 #[.val (.ref a), .val (.int ps), .val (.int ln), .val (.int i), .val (.int e1)] [])) (fun TT HH tt kk => XS.icmpYes HH hx rfl (pc0 := 2) (pc' := 7) rfl (hb hby d_m_4_2) rfl (tlt c_3).1 (by decide) (by decide) kk) ?_
    obtain ⟨k, hk1, hk2, hk3⟩ := hp c_3
    refine k_pure (g' := (mkF m 8 #[.val (.ref a), .val (.int ps), .val (.int ln), .val (.int i), .val (.int e1)] [(.ref a)])) (fun TT HH tt kk => XS.aloadN HH hx rfl (hb hby d_m_4_7) rfl rfl kk) ?_
    refine k_pure (g' := (mkF m 9 #[.val (.ref a), .val (.int ps), .val (.int ln), .val (.int i), .val (.int e1)] [(.int ps), (.ref a)])) (fun TT HH tt kk => XS.iloadN HH hx rfl (hb hby d_m_4_8) rfl kk) ?_
    refine k_pure (g' := (mkF m 10 #[.val (.ref a), .val (.int ps), .val (.int ln), .val (.int i), .val (.int e1)] [(.int i), (.int ps), (.ref a)])) (fun TT HH tt kk => XS.iloadN HH hx rfl (hb hby d_m_4_9) rfl kk) ?_
    refine k_pure (g' := (mkF m 11 #[.val (.ref a), .val (.int ps), .val (.int ln), .val (.int i), .val (.int e1)] [(.int (ps + i)), (.ref a)])) (fun TT HH tt kk => XS.iadd HH hx rfl (hb hby d_m_4_10) rfl kk) ?_
    refine k_callV hx (y := (⟨"java/lang/String", "charAt", "(I)C"⟩ : MethodName)) (z := (⟨"java/lang/String", "charAt", "(I)C"⟩ : MethodName)) (hw _ (List.mem_of_getElem? (i := 173) rfl)) (hw _ (List.mem_of_getElem? (i := 174) rfl)) (fun s' hZ => notFace_of_selects (args := #[]) (mv hZ (hw _ (List.mem_of_getElem? (i := 176) rfl)))) (hw _ (List.mem_of_getElem? (i := 176) rfl)) (hw _ (List.mem_of_getElem? (i := 175) rfl)) (by decide) (W := 0) (a := a) (argsL := [(.int (ps + i))]) (rest := []) (pay_ch (W := 0) hX O0 pf_0 k hk1 hk2 (by decide) (by decide)) pf_0.1 rfl (by rw [hml]; rfl) (lenOf pd__28_I_29_C rfl) rfl (by show 2 * 0 + _ ≤ _; exact Nat.le_of_eq rfl) (hb hby d_m_4_11) (by decide) (by decide) ?_
    intro v_4 h_5 bk_6 O_7 z_8 Q_9
    obtain ⟨rfl, rfl, rfl⟩ := Q_9
    show Run p l e _ s m _ below meth c Z EL1 _ n0 bk h0 0 0 (mkF m 14 #[.val (.ref a), .val (.int ps), .val (.int ln), .val (.int i), .val (.int e1)] [(.int ((cs).getD k 0))]) _
    refine k_pure (g' := (mkF m 16 #[.val (.ref a), .val (.int ps), .val (.int ln), .val (.int i), .val (.int e1)] [(.int e1), (.int ((cs).getD k 0))])) (fun TT HH tt kk => XS.iload HH hx rfl (hb hby d_m_4_14) rfl kk) ?_
    refine k_pure (g' := (mkF m 19 #[.val (.ref a), .val (.int ps), .val (.int ln), .val (.int i), .val (.int e1)] [])) (fun TT HH tt kk => XS.icmpNo HH hx rfl (hb hby d_m_4_16) rfl (teq hk3).2 kk) ?_
    refine k_pure (g' := (mkF m 20 #[.val (.ref a), .val (.int ps), .val (.int ln), .val (.int i), .val (.int e1)] [(.int (1 : Int32))])) (fun TT HH tt kk => XS.iconst HH hx rfl (hb hby d_m_4_19) kk) ?_
    refine k_pure (g' := (mkF m 24 #[.val (.ref a), .val (.int ps), .val (.int ln), .val (.int i), .val (.int e1)] [(.int (1 : Int32))])) (fun TT HH tt kk => XS.goto HH hx rfl (pc0 := 20) (pc' := 24) rfl (hb hby d_m_4_20) (by decide) (by decide) kk) ?_
    exact k_retN hx hlk hret (by simp) (hb hby d_m_4_24) (by decide) (by decide) ⟨rfl, rfl, rfl⟩
  · refine k_pure (g' := (mkF m 5 #[.val (.ref a), .val (.int ps), .val (.int ln), .val (.int i), .val (.int e1)] [])) (fun TT HH tt kk => XS.icmpNo HH hx rfl (hb hby d_m_4_2) rfl (flt c_3).1 kk) ?_
    refine k_pure (g' := (mkF m 6 #[.val (.ref a), .val (.int ps), .val (.int ln), .val (.int i), .val (.int e1)] [(.int (1 : Int32))])) (fun TT HH tt kk => XS.iconst HH hx rfl (hb hby d_m_4_5) kk) ?_
    exact k_retN hx hlk hret (by simp) (hb hby d_m_4_6) (by decide) (by decide) ⟨rfl, rfl, rfl⟩
def Q_law (Z : State) (G1 : Int32) (G3 : Value) (s0 : Int32) (sl : Int32) (t0 : Int32) (tl : Int32) (h0 : Heap) (n0 : Nat) (bk : Addr → Prop) (v : Option Value) (h : Heap) (bk' : Addr → Prop) : Prop := v = some (.int (1 : Int32)) ∧ (∀ y, bk' y → bk y ∨ (@LE.le Nat _ (Array.size h0) y ∧ @LT.lt Nat _ y (Array.size h))) ∧ Keep h0 h []
theorem pd__28_II_29_Ljava_2f_lang_2f_String_3b_ : parseMethodDescriptor "(II)Ljava/lang/String;" = some ⟨[.int, .int], some (.object "java/lang/String")⟩ := by decide +kernel
theorem pd__28_Ljava_2f_lang_2f_String_3b_Ljava_2f_lang_2f_String_3b__29_V : parseMethodDescriptor "(Ljava/lang/String;Ljava/lang/String;)V" = some ⟨[(.object "java/lang/String"), (.object "java/lang/String")], none⟩ := by decide +kernel
theorem pd__28_Ljava_2f_lang_2f_String_3b_IIIC_29_Z : parseMethodDescriptor "(Ljava/lang/String;IIIC)Z" = some ⟨[(.object "java/lang/String"), .int, .int, .int, .char], some .boolean⟩ := by decide +kernel
theorem ef_law (m : MethodId) (x0 : Int32) (x1 : Int32) (x2 : Int32) (x3 : Int32) : entryFrame m #[(.int x0), (.int x1), (.int x2), (.int x3)] maxLocals = mkF m 0 #[.val (.int x0), .val (.int x1), .val (.int x2), .val (.int x3), .unset, .unset, .unset, .unset, .unset, .unset] [] := by first | (simp [entryFrame, mkF, argsToLocals, Value.category, maxLocals]; done) | rfl
set_option maxRecDepth 65536 in
set_option maxHeartbeats 40000000 in
theorem rm_law (l : Launch) (Z : State) (a0 : Array Value) (G1 : Int32) (G3 : Value) (hX : Ctx Z a0 G1 G3) (n0 : Nat) (bk : Addr → Prop) (h0 : Heap) (O0 : Old Z n0 h0) (s0 : Int32) (sl : Int32) (t0 : Int32) (tl : Int32) (hbl : ∀ y, bk y → @LT.lt Nat _ y (Array.size h0)) (ws : List Jvm.Cond) : Met l Z EL1 n0 bk Jvm.Pilot.@@N@@.x code maxLocals ret room_1 #[(.int s0), (.int sl), (.int t0), (.int tl)] h0 (Q_law Z G1 G3 s0 sl t0 tl h0 n0 bk) ws := by
  have hX' := hX
  obtain ⟨hw, hE, S1, P1, S3, P3⟩ := hX'
  have hSA := sa_of hw
  have z0 : n0 ≤ h0.size := by rw [← O0.1]; exact O0.2.1
  refine Met.of (by decide +kernel) O0 hE ?_
  intro p e s m below meth c hx hby hml hret hlk hnm
  refine k_cast (ef_law m s0 sl t0 tl) ?_
  show Run p l e _ s m _ below meth c Z EL1 _ n0 bk h0 0 0 (mkF m 0 #[.val (.int s0), .val (.int sl), .val (.int t0), .val (.int tl), .unset, .unset, .unset, .unset, .unset, .unset] []) _
  refine k_pure (g' := (mkF m 1 #[.val (.int s0), .val (.int sl), .val (.int t0), .val (.int tl), .unset, .unset, .unset, .unset, .unset, .unset] [(.int sl)])) (fun TT HH tt kk => XS.iloadN HH hx rfl (hb hby at_0) rfl kk) ?_
  refine k_ldcI hx (hw _ (List.mem_of_getElem? (i := 0) rfl)) rfl (hb hby at_1) ?_
  show Run p l e _ s m _ below meth c Z EL1 _ n0 bk h0 0 0 (mkF m 3 #[.val (.int s0), .val (.int sl), .val (.int t0), .val (.int tl), .unset, .unset, .unset, .unset, .unset, .unset] [(.int (2147483647 : Int32)), (.int sl)]) _
  refine k_pure (g' := (mkF m 4 #[.val (.int s0), .val (.int sl), .val (.int t0), .val (.int tl), .unset, .unset, .unset, .unset, .unset, .unset] [(.int (sl &&& (2147483647 : Int32)))])) (fun TT HH tt kk => XS.iand HH hx rfl (hb hby at_3) rfl kk) ?_
  refine k_pure (g' := (mkF m 5 #[.val (.int s0), .val (.int sl), .val (.int t0), .val (.int tl), .unset, .unset, .unset, .unset, .unset, .unset] [(.int (4 : Int32)), (.int (sl &&& (2147483647 : Int32)))])) (fun TT HH tt kk => XS.iconst HH hx rfl (hb hby at_4) kk) ?_
  refine k_pure (g' := (mkF m 6 #[.val (.int s0), .val (.int sl), .val (.int t0), .val (.int tl), .unset, .unset, .unset, .unset, .unset, .unset] [(.int ((sl &&& (2147483647 : Int32)) % (4 : Int32)))])) (fun TT HH tt kk => s_irem HH hx rfl (hb hby at_5) rfl (by decide) kk) ?_
  refine k_pure (g' := (mkF m 8 #[.val (.int s0), .val (.int sl), .val (.int t0), .val (.int tl), .val (.int ((sl &&& (2147483647 : Int32)) % (4 : Int32))), .unset, .unset, .unset, .unset, .unset] [])) (fun TT HH tt kk => XS.istore HH hx rfl (hb hby at_6) rfl (l' := #[.val (.int s0), .val (.int sl), .val (.int t0), .val (.int tl), .val (.int ((sl &&& (2147483647 : Int32)) % (4 : Int32))), .unset, .unset, .unset, .unset, .unset]) rfl kk) ?_
  obtain ⟨ss, tx1⟩ := Tm.ex (n := ((sl &&& (2147483647 : Int32)) % (4 : Int32))) s0 (by have r0 := rng32 sl; have r1 : (sl &&& (2147483647 : Int32)).toInt = sl.toInt % 2147483648 := (c_mask sl (2147483647 : Int32) 31 (by decide) (by decide)); have r2 := rng32 (sl &&& (2147483647 : Int32)); have r3 := c_irem (sl &&& (2147483647 : Int32)) (4 : Int32) 4 (by decide); have r4 := rng32 ((sl &&& (2147483647 : Int32)) % (4 : Int32)); omega) (by have r0 := rng32 sl; have r1 : (sl &&& (2147483647 : Int32)).toInt = sl.toInt % 2147483648 := (c_mask sl (2147483647 : Int32) 31 (by decide) (by decide)); have r2 := rng32 (sl &&& (2147483647 : Int32)); have r3 := c_irem (sl &&& (2147483647 : Int32)) (4 : Int32) 4 (by decide); have r4 := rng32 ((sl &&& (2147483647 : Int32)) % (4 : Int32)); omega)
  generalize ((sl &&& (2147483647 : Int32)) % (4 : Int32)) = n1 at tx1 ⊢
  show Run p l e _ s m _ below meth c Z EL1 _ n0 bk h0 0 0 (mkF m 8 #[.val (.int s0), .val (.int sl), .val (.int t0), .val (.int tl), .val (.int n1), .unset, .unset, .unset, .unset, .unset] []) _
  refine k_pure (g' := (mkF m 9 #[.val (.int s0), .val (.int sl), .val (.int t0), .val (.int tl), .val (.int n1), .unset, .unset, .unset, .unset, .unset] [(.int tl)])) (fun TT HH tt kk => XS.iloadN HH hx rfl (hb hby at_8) rfl kk) ?_
  refine k_ldcI hx (hw _ (List.mem_of_getElem? (i := 0) rfl)) rfl (hb hby at_9) ?_
  show Run p l e _ s m _ below meth c Z EL1 _ n0 bk h0 0 0 (mkF m 11 #[.val (.int s0), .val (.int sl), .val (.int t0), .val (.int tl), .val (.int n1), .unset, .unset, .unset, .unset, .unset] [(.int (2147483647 : Int32)), (.int tl)]) _
  refine k_pure (g' := (mkF m 12 #[.val (.int s0), .val (.int sl), .val (.int t0), .val (.int tl), .val (.int n1), .unset, .unset, .unset, .unset, .unset] [(.int (tl &&& (2147483647 : Int32)))])) (fun TT HH tt kk => XS.iand HH hx rfl (hb hby at_11) rfl kk) ?_
  refine k_pure (g' := (mkF m 13 #[.val (.int s0), .val (.int sl), .val (.int t0), .val (.int tl), .val (.int n1), .unset, .unset, .unset, .unset, .unset] [(.int (4 : Int32)), (.int (tl &&& (2147483647 : Int32)))])) (fun TT HH tt kk => XS.iconst HH hx rfl (hb hby at_12) kk) ?_
  refine k_pure (g' := (mkF m 14 #[.val (.int s0), .val (.int sl), .val (.int t0), .val (.int tl), .val (.int n1), .unset, .unset, .unset, .unset, .unset] [(.int ((tl &&& (2147483647 : Int32)) % (4 : Int32)))])) (fun TT HH tt kk => s_irem HH hx rfl (hb hby at_13) rfl (by decide) kk) ?_
  refine k_pure (g' := (mkF m 16 #[.val (.int s0), .val (.int sl), .val (.int t0), .val (.int tl), .val (.int n1), .val (.int ((tl &&& (2147483647 : Int32)) % (4 : Int32))), .unset, .unset, .unset, .unset] [])) (fun TT HH tt kk => XS.istore HH hx rfl (hb hby at_14) rfl (l' := #[.val (.int s0), .val (.int sl), .val (.int t0), .val (.int tl), .val (.int n1), .val (.int ((tl &&& (2147483647 : Int32)) % (4 : Int32))), .unset, .unset, .unset, .unset]) rfl kk) ?_
  obtain ⟨ts, tx2⟩ := Tm.ex (n := ((tl &&& (2147483647 : Int32)) % (4 : Int32))) t0 (by have r0 := rng32 tl; have r1 : (tl &&& (2147483647 : Int32)).toInt = tl.toInt % 2147483648 := (c_mask tl (2147483647 : Int32) 31 (by decide) (by decide)); have r2 := rng32 (tl &&& (2147483647 : Int32)); have r3 := c_irem (tl &&& (2147483647 : Int32)) (4 : Int32) 4 (by decide); have r4 := rng32 ((tl &&& (2147483647 : Int32)) % (4 : Int32)); omega) (by have r0 := rng32 tl; have r1 : (tl &&& (2147483647 : Int32)).toInt = tl.toInt % 2147483648 := (c_mask tl (2147483647 : Int32) 31 (by decide) (by decide)); have r2 := rng32 (tl &&& (2147483647 : Int32)); have r3 := c_irem (tl &&& (2147483647 : Int32)) (4 : Int32) 4 (by decide); have r4 := rng32 ((tl &&& (2147483647 : Int32)) % (4 : Int32)); omega)
  generalize ((tl &&& (2147483647 : Int32)) % (4 : Int32)) = n2 at tx2 ⊢
  show Run p l e _ s m _ below meth c Z EL1 _ n0 bk h0 0 0 (mkF m 16 #[.val (.int s0), .val (.int sl), .val (.int t0), .val (.int tl), .val (.int n1), .val (.int n2), .unset, .unset, .unset, .unset] []) _
  refine k_pure (g' := (mkF m 17 #[.val (.int s0), .val (.int sl), .val (.int t0), .val (.int tl), .val (.int n1), .val (.int n2), .unset, .unset, .unset, .unset] [(.int s0)])) (fun TT HH tt kk => XS.iloadN HH hx rfl (hb hby at_16) rfl kk) ?_
  refine k_pure (g' := (mkF m 19 #[.val (.int s0), .val (.int sl), .val (.int t0), .val (.int tl), .val (.int n1), .val (.int n2), .unset, .unset, .unset, .unset] [(.int n1), (.int s0)])) (fun TT HH tt kk => XS.iload HH hx rfl (hb hby at_17) rfl kk) ?_
  refine k_callS hx (y := (⟨"com/example/tideline/tideline/TableNameToStringPinLaw", "mk", "(II)Ljava/lang/String;"⟩ : MethodName)) (hw _ (List.mem_of_getElem? (i := 1) rfl)) (hw _ (List.mem_of_getElem? (i := 2) rfl)) (hw _ (List.mem_of_getElem? (i := 3) rfl)) (hw _ (List.mem_of_getElem? (i := 4) rfl)) (by decide) (W := 0) (argsL := [(.int s0), (.int n1)]) (rest := []) (Pays.of_met (rm_mk l Z a0 G1 G3 hX n0 bk h0 O0 s0 n1 ss hbl tx1 []) (hw _ (List.mem_of_getElem? (i := 4) rfl)) (hw _ (List.mem_of_getElem? (i := 3) rfl)) (by decide) (by decide)) rfl (by rw [hml]; rfl) (lenOf pd__28_II_29_Ljava_2f_lang_2f_String_3b_ rfl) rfl (by show 2 * 0 + _ ≤ _; exact Nat.le_of_eq rfl) (hb hby at_19) (by decide) (by decide) ?_
  intro v_1 h_2 bk_3 O_4 z_5 Q_6
  obtain ⟨a_7, a_8, k_9, rfl, hbk_10, K_11, F_12⟩ := Q_6
  have hbl_13 : ∀ y, bk_3 y → @LT.lt Nat _ y (Array.size h_2) := fun y q => (hbk_10 y q).elim (fun r => Nat.lt_of_lt_of_le (hbl y r) (by omega)) (fun r => r.2)
  have hbs_14 : ∀ y, bk_3 y → bk y ∨ (@LE.le Nat _ (Array.size h0) y ∧ @LT.lt Nat _ y (Array.size h_2)) := fun y q => (hbk_10 y q).imp id (fun r => ⟨Nat.le_trans (by omega) r.1, r.2⟩)
  have lt_15 : @LT.lt Nat _ a_7 (Array.size h_2) := F_12.lt1
  have lt_16 : @LT.lt Nat _ a_8 (Array.size h_2) := F_12.lt2
  show Run p l e _ s m _ below meth c Z EL1 _ n0 bk_3 h_2 6 12 (mkF m 22 #[.val (.int s0), .val (.int sl), .val (.int t0), .val (.int tl), .val (.int n1), .val (.int n2), .unset, .unset, .unset, .unset] [(.ref a_7)]) _
  refine k_pure (g' := (mkF m 24 #[.val (.int s0), .val (.int sl), .val (.int t0), .val (.int tl), .val (.int n1), .val (.int n2), .val (.ref a_7), .unset, .unset, .unset] [])) (fun TT HH tt kk => XS.astore HH hx rfl (hb hby at_22) rfl rfl (l' := #[.val (.int s0), .val (.int sl), .val (.int t0), .val (.int tl), .val (.int n1), .val (.int n2), .val (.ref a_7), .unset, .unset, .unset]) rfl kk) ?_
  refine k_pure (g' := (mkF m 25 #[.val (.int s0), .val (.int sl), .val (.int t0), .val (.int tl), .val (.int n1), .val (.int n2), .val (.ref a_7), .unset, .unset, .unset] [(.int t0)])) (fun TT HH tt kk => XS.iloadN HH hx rfl (hb hby at_24) rfl kk) ?_
  refine k_pure (g' := (mkF m 27 #[.val (.int s0), .val (.int sl), .val (.int t0), .val (.int tl), .val (.int n1), .val (.int n2), .val (.ref a_7), .unset, .unset, .unset] [(.int n2), (.int t0)])) (fun TT HH tt kk => XS.iload HH hx rfl (hb hby at_25) rfl kk) ?_
  refine k_callS hx (y := (⟨"com/example/tideline/tideline/TableNameToStringPinLaw", "mk", "(II)Ljava/lang/String;"⟩ : MethodName)) (hw _ (List.mem_of_getElem? (i := 1) rfl)) (hw _ (List.mem_of_getElem? (i := 2) rfl)) (hw _ (List.mem_of_getElem? (i := 3) rfl)) (hw _ (List.mem_of_getElem? (i := 4) rfl)) (by decide) (W := 0) (argsL := [(.int t0), (.int n2)]) (rest := []) (Pays.of_met (rm_mk l Z a0 G1 G3 hX n0 bk_3 h_2 O_4 t0 n2 ts hbl_13 tx2 []) (hw _ (List.mem_of_getElem? (i := 4) rfl)) (hw _ (List.mem_of_getElem? (i := 3) rfl)) (by decide) (by decide)) rfl (by rw [hml]; rfl) (lenOf pd__28_II_29_Ljava_2f_lang_2f_String_3b_ rfl) rfl (by show 2 * 0 + _ ≤ _; exact Nat.le_of_eq rfl) (hb hby at_27) (by decide) (by decide) ?_
  intro v_17 h_18 bk_19 O_20 z_21 Q_22
  obtain ⟨a_23, a_24, k_25, rfl, hbk_26, K_27, F_28⟩ := Q_22
  have hbl_29 : ∀ y, bk_19 y → @LT.lt Nat _ y (Array.size h_18) := fun y q => (hbk_26 y q).elim (fun r => Nat.lt_of_lt_of_le (hbl_13 y r) (by omega)) (fun r => r.2)
  have hbs_30 : ∀ y, bk_19 y → bk y ∨ (@LE.le Nat _ (Array.size h0) y ∧ @LT.lt Nat _ y (Array.size h_18)) := fun y q => (hbk_26 y q).elim (fun r => (hbs_14 y r).imp id (fun t => ⟨t.1, Nat.lt_of_lt_of_le t.2 (by omega)⟩)) (fun r => Or.inr ⟨Nat.le_trans (by omega) r.1, r.2⟩)
  have lt_31 : @LT.lt Nat _ a_23 (Array.size h_18) := F_28.lt1
  have lt_32 : @LT.lt Nat _ a_24 (Array.size h_18) := F_28.lt2
  show Run p l e _ s m _ below meth c Z EL1 _ n0 bk_19 h_18 12 24 (mkF m 30 #[.val (.int s0), .val (.int sl), .val (.int t0), .val (.int tl), .val (.int n1), .val (.int n2), .val (.ref a_7), .unset, .unset, .unset] [(.ref a_23)]) _
  refine k_pure (g' := (mkF m 32 #[.val (.int s0), .val (.int sl), .val (.int t0), .val (.int tl), .val (.int n1), .val (.int n2), .val (.ref a_7), .val (.ref a_23), .unset, .unset] [])) (fun TT HH tt kk => XS.astore HH hx rfl (hb hby at_30) rfl rfl (l' := #[.val (.int s0), .val (.int sl), .val (.int t0), .val (.int tl), .val (.int n1), .val (.int n2), .val (.ref a_7), .val (.ref a_23), .unset, .unset]) rfl kk) ?_
  refine k_newO hx (hw _ (List.mem_of_getElem? (i := 38) rfl)) (hw _ (List.mem_of_getElem? (i := 39) rfl)) (hw _ (List.mem_of_getElem? (i := 40) rfl)) rfl (hb hby at_32) (by decide) (by decide) ?_
  intro h_34 a_33 g_40 O_35 E_36 A_37 D_38 U_39
  have z_41 := E_36.1
  have lt_42 : @LT.lt Nat _ a_33 (Array.size h_34) := A_37.lt
  have nb_43 : ¬ bk_19 a_33 := fun q => Nat.not_le_of_lt (hbl_29 _ q) (show @LE.le Nat _ (Array.size h_18) a_33 by omega)
  show Run p l e _ s m _ below meth c Z EL1 _ n0 bk_19 h_34 13 26 (mkF m 35 #[.val (.int s0), .val (.int sl), .val (.int t0), .val (.int tl), .val (.int n1), .val (.int n2), .val (.ref a_7), .val (.ref a_23), .unset, .unset] [(.ref a_33)]) _
  refine k_pure (g' := (mkF m 36 #[.val (.int s0), .val (.int sl), .val (.int t0), .val (.int tl), .val (.int n1), .val (.int n2), .val (.ref a_7), .val (.ref a_23), .unset, .unset] [(.ref a_33), (.ref a_33)])) (fun TT HH tt kk => XS.dup HH hx rfl (hb hby at_35) rfl rfl kk) ?_
  refine k_pure (g' := (mkF m 38 #[.val (.int s0), .val (.int sl), .val (.int t0), .val (.int tl), .val (.int n1), .val (.int n2), .val (.ref a_7), .val (.ref a_23), .unset, .unset] [(.ref a_7), (.ref a_33), (.ref a_33)])) (fun TT HH tt kk => XS.aload HH hx rfl (hb hby at_36) rfl rfl kk) ?_
  refine k_pure (g' := (mkF m 40 #[.val (.int s0), .val (.int sl), .val (.int t0), .val (.int tl), .val (.int n1), .val (.int n2), .val (.ref a_7), .val (.ref a_23), .unset, .unset] [(.ref a_23), (.ref a_7), (.ref a_33), (.ref a_33)])) (fun TT HH tt kk => XS.aload HH hx rfl (hb hby at_38) rfl rfl kk) ?_
  refine k_callI hx (y := (⟨"com/example/tideline/tideline/TableName", "<init>", "(Ljava/lang/String;Ljava/lang/String;)V"⟩ : MethodName)) rfl (hw _ (List.mem_of_getElem? (i := 41) rfl)) (hw _ (List.mem_of_getElem? (i := 42) rfl)) (hw _ (List.mem_of_getElem? (i := 43) rfl)) (by decide) (W := 1) (a := a_33) (argsL := [(.ref a_7), (.ref a_23)]) (rest := [(.ref a_33)]) (Pays.of_met (rm_ini l Z a0 G1 G3 hX n0 bk_19 h_34 O_35 a_33 a_7 a_23 A_37 (D_38 (Or.inr (hw _ (List.mem_of_getElem? (i := 51) rfl))) (ty := (.object "java/lang/String")) (by decide)) (D_38 (Or.inr (hw _ (List.mem_of_getElem? (i := 53) rfl))) (ty := (.object "java/lang/String")) (by decide)) nb_43 (by omega) []) (hw _ (List.mem_of_getElem? (i := 43) rfl)) (hw _ (List.mem_of_getElem? (i := 40) rfl)) (by decide) (by decide)) rfl (by rw [hml]; rfl) (lenOf pd__28_Ljava_2f_lang_2f_String_3b_Ljava_2f_lang_2f_String_3b__29_V rfl) rfl (by show 2 * 0 + _ ≤ _; exact Nat.le_of_eq rfl) (hb hby at_40) (by decide) (by decide) ?_
  intro v_44 h_45 bk_46 O_47 z_48 Q_49
  obtain ⟨rfl, rfl, K_50, F_51, F_52, F_53⟩ := Q_49
  have lt_54 : @LT.lt Nat _ a_33 (Array.size h_45) := F_51.lt
  have lt_55 : @LT.lt Nat _ a_33 (Array.size h_45) := F_52.lt
  have lt_56 : @LT.lt Nat _ a_33 (Array.size h_45) := F_53.lt
  show Run p l e _ s m _ below meth c Z EL1 _ n0 bk_19 h_45 13 26 (mkF m 43 #[.val (.int s0), .val (.int sl), .val (.int t0), .val (.int tl), .val (.int n1), .val (.int n2), .val (.ref a_7), .val (.ref a_23), .unset, .unset] [(.ref a_33)]) _
  have F_57 : StrL Z h_45 a_7 a_8 k_9 ss := (((F_12.keep K_27 nin0 nin0).ext E_36).keep K_50 (ninS (ne_ad (by omega)) nin0) (ninS (ne_ad (by omega)) nin0))
  have F_58 : StrL Z h_45 a_23 a_24 k_25 ts := ((F_28.ext E_36).keep K_50 (ninS (ne_ad (by omega)) nin0) (ninS (ne_ad (by omega)) nin0))
  have hbl_59 : ∀ y, bk_19 y → @LT.lt Nat _ y (Array.size h_45) := fun y q => Nat.lt_of_lt_of_le (hbl_29 y q) (by omega)
  refine k_callV hx (y := (⟨"com/example/tideline/tideline/TableName", "toString", "()Ljava/lang/String;"⟩ : MethodName)) (z := (⟨"com/example/tideline/tideline/TableName", "toString", "()Ljava/lang/String;"⟩ : MethodName)) (hw _ (List.mem_of_getElem? (i := 54) rfl)) (hw _ (List.mem_of_getElem? (i := 55) rfl)) (fun s' hZ => notFace_of_selects (args := #[]) (mv hZ (hw _ (List.mem_of_getElem? (i := 57) rfl)))) (hw _ (List.mem_of_getElem? (i := 57) rfl)) (hw _ (List.mem_of_getElem? (i := 56) rfl)) (by decide) (W := 0) (a := a_33) (argsL := []) (rest := []) (Pays.of_met (rm_tos l Z a0 G1 G3 hX n0 bk_19 h_45 O_47 a_33 a_7 a_8 k_9 ss a_23 a_24 k_25 ts F_51 F_52 F_53 F_57 F_58 tx1.len.2 tx2.len.2 hbl_59 []) (hw _ (List.mem_of_getElem? (i := 58) rfl)) (hw _ (List.mem_of_getElem? (i := 40) rfl)) (by decide) (by decide)) F_51 rfl (by rw [hml]; rfl) (lenOf pd__28__29_Ljava_2f_lang_2f_String_3b_ rfl) rfl (by show 2 * 0 + _ ≤ _; exact Nat.le_of_eq rfl) (hb hby at_43) (by decide) (by decide) ?_
  intro v_60 h_61 bk_62 O_63 z_64 Q_65
  obtain ⟨a_66, a_67, k_68, rfl, hbk_69, K_70, F_71⟩ := Q_65
  have nb_72 : ¬ bk_62 a_33 := fun q => (hbk_69 _ q).elim nb_43 (fun r => Nat.not_le_of_lt (show @LT.lt Nat _ a_33 (Array.size h_45) by omega) r.1)
  have hbl_73 : ∀ y, bk_62 y → @LT.lt Nat _ y (Array.size h_61) := fun y q => (hbk_69 y q).elim (fun r => Nat.lt_of_lt_of_le (hbl_59 y r) (by omega)) (fun r => r.2)
  have hbs_74 : ∀ y, bk_62 y → bk y ∨ (@LE.le Nat _ (Array.size h0) y ∧ @LT.lt Nat _ y (Array.size h_61)) := fun y q => (hbk_69 y q).elim (fun r => (hbs_30 y r).imp id (fun t => ⟨t.1, Nat.lt_of_lt_of_le t.2 (by omega)⟩)) (fun r => Or.inr ⟨Nat.le_trans (by omega) r.1, r.2⟩)
  have lt_75 : @LT.lt Nat _ a_66 (Array.size h_61) := F_71.lt1
  have lt_76 : @LT.lt Nat _ a_67 (Array.size h_61) := F_71.lt2
  show Run p l e _ s m _ below meth c Z EL1 _ n0 bk_62 h_61 19 73 (mkF m 46 #[.val (.int s0), .val (.int sl), .val (.int t0), .val (.int tl), .val (.int n1), .val (.int n2), .val (.ref a_7), .val (.ref a_23), .unset, .unset] [(.ref a_66)]) _
  refine k_pure (g' := (mkF m 48 #[.val (.int s0), .val (.int sl), .val (.int t0), .val (.int tl), .val (.int n1), .val (.int n2), .val (.ref a_7), .val (.ref a_23), .val (.ref a_66), .unset] [])) (fun TT HH tt kk => XS.astore HH hx rfl (hb hby at_46) rfl rfl (l' := #[.val (.int s0), .val (.int sl), .val (.int t0), .val (.int tl), .val (.int n1), .val (.int n2), .val (.ref a_7), .val (.ref a_23), .val (.ref a_66), .unset]) rfl kk) ?_
  refine k_pure (g' := (mkF m 50 #[.val (.int s0), .val (.int sl), .val (.int t0), .val (.int tl), .val (.int n1), .val (.int n2), .val (.ref a_7), .val (.ref a_23), .val (.ref a_66), .unset] [(.ref a_66)])) (fun TT HH tt kk => XS.aload HH hx rfl (hb hby at_48) rfl rfl kk) ?_
  refine k_pure (g' := (mkF m 55 #[.val (.int s0), .val (.int sl), .val (.int t0), .val (.int tl), .val (.int n1), .val (.int n2), .val (.ref a_7), .val (.ref a_23), .val (.ref a_66), .unset] [])) (fun TT HH tt kk => XS.ifnonnullYes HH hx rfl (pc0 := 50) (pc' := 55) rfl (hb hby at_50) rfl (by decide) (by decide) kk) ?_
  refine k_pure (g' := (mkF m 57 #[.val (.int s0), .val (.int sl), .val (.int t0), .val (.int tl), .val (.int n1), .val (.int n2), .val (.ref a_7), .val (.ref a_23), .val (.ref a_66), .unset] [(.ref a_66)])) (fun TT HH tt kk => XS.aload HH hx rfl (hb hby at_55) rfl rfl kk) ?_
  refine k_callV hx (y := (⟨"java/lang/String", "length", "()I"⟩ : MethodName)) (z := (⟨"java/lang/String", "length", "()I"⟩ : MethodName)) (hw _ (List.mem_of_getElem? (i := 172) rfl)) (hw _ (List.mem_of_getElem? (i := 88) rfl)) (fun s' hZ => notFace_of_selects (args := #[]) (mv hZ (hw _ (List.mem_of_getElem? (i := 90) rfl)))) (hw _ (List.mem_of_getElem? (i := 90) rfl)) (hw _ (List.mem_of_getElem? (i := 89) rfl)) (by decide) (W := 0) (a := a_66) (argsL := []) (rest := []) (pay_len (W := 0) hX O_63 F_71 (by decide) (by decide)) F_71.1 rfl (by rw [hml]; rfl) (lenOf pd__28__29_I rfl) rfl (by show 2 * 0 + _ ≤ _; exact Nat.le_of_eq rfl) (hb hby at_57) (by decide) (by decide) ?_
  intro v_77 h_78 bk_79 O_80 z_81 Q_82
  obtain ⟨rfl, rfl, rfl⟩ := Q_82
  show Run p l e _ s m _ below meth c Z EL1 _ n0 bk_62 h_61 19 73 (mkF m 60 #[.val (.int s0), .val (.int sl), .val (.int t0), .val (.int tl), .val (.int n1), .val (.int n2), .val (.ref a_7), .val (.ref a_23), .val (.ref a_66), .unset] [(.int (Int32.ofNat ((((([] : List Int32) ++ ss) ++ [(46 : Int32)]) ++ ts)).length))]) _
  refine k_pure (g' := (mkF m 62 #[.val (.int s0), .val (.int sl), .val (.int t0), .val (.int tl), .val (.int n1), .val (.int n2), .val (.ref a_7), .val (.ref a_23), .val (.ref a_66), .unset] [(.int n1), (.int (Int32.ofNat ((((([] : List Int32) ++ ss) ++ [(46 : Int32)]) ++ ts)).length))])) (fun TT HH tt kk => XS.iload HH hx rfl (hb hby at_60) rfl kk) ?_
  refine k_pure (g' := (mkF m 63 #[.val (.int s0), .val (.int sl), .val (.int t0), .val (.int tl), .val (.int n1), .val (.int n2), .val (.ref a_7), .val (.ref a_23), .val (.ref a_66), .unset] [(.int (1 : Int32)), (.int n1), (.int (Int32.ofNat ((((([] : List Int32) ++ ss) ++ [(46 : Int32)]) ++ ts)).length))])) (fun TT HH tt kk => XS.iconst HH hx rfl (hb hby at_62) kk) ?_
  refine k_pure (g' := (mkF m 64 #[.val (.int s0), .val (.int sl), .val (.int t0), .val (.int tl), .val (.int n1), .val (.int n2), .val (.ref a_7), .val (.ref a_23), .val (.ref a_66), .unset] [(.int (n1 + (1 : Int32))), (.int (Int32.ofNat ((((([] : List Int32) ++ ss) ++ [(46 : Int32)]) ++ ts)).length))])) (fun TT HH tt kk => XS.iadd HH hx rfl (hb hby at_63) rfl kk) ?_
  refine k_pure (g' := (mkF m 66 #[.val (.int s0), .val (.int sl), .val (.int t0), .val (.int tl), .val (.int n1), .val (.int n2), .val (.ref a_7), .val (.ref a_23), .val (.ref a_66), .unset] [(.int n2), (.int (n1 + (1 : Int32))), (.int (Int32.ofNat ((((([] : List Int32) ++ ss) ++ [(46 : Int32)]) ++ ts)).length))])) (fun TT HH tt kk => XS.iload HH hx rfl (hb hby at_64) rfl kk) ?_
  refine k_pure (g' := (mkF m 67 #[.val (.int s0), .val (.int sl), .val (.int t0), .val (.int tl), .val (.int n1), .val (.int n2), .val (.ref a_7), .val (.ref a_23), .val (.ref a_66), .unset] [(.int ((n1 + (1 : Int32)) + n2)), (.int (Int32.ofNat ((((([] : List Int32) ++ ss) ++ [(46 : Int32)]) ++ ts)).length))])) (fun TT HH tt kk => XS.iadd HH hx rfl (hb hby at_66) rfl kk) ?_
  refine k_pure (g' := (mkF m 72 #[.val (.int s0), .val (.int sl), .val (.int t0), .val (.int tl), .val (.int n1), .val (.int n2), .val (.ref a_7), .val (.ref a_23), .val (.ref a_66), .unset] [])) (fun TT HH tt kk => XS.icmpYes HH hx rfl (pc0 := 67) (pc' := 72) rfl (hb hby at_67) rfl (teq (len_ok tx1 tx2)).1 (by decide) (by decide) kk) ?_
  refine k_pure (g' := (mkF m 74 #[.val (.int s0), .val (.int sl), .val (.int t0), .val (.int tl), .val (.int n1), .val (.int n2), .val (.ref a_7), .val (.ref a_23), .val (.ref a_66), .unset] [(.ref a_66)])) (fun TT HH tt kk => XS.aload HH hx rfl (hb hby at_72) rfl rfl kk) ?_
  refine k_pure (g' := (mkF m 76 #[.val (.int s0), .val (.int sl), .val (.int t0), .val (.int tl), .val (.int n1), .val (.int n2), .val (.ref a_7), .val (.ref a_23), .val (.ref a_66), .unset] [(.int n1), (.ref a_66)])) (fun TT HH tt kk => XS.iload HH hx rfl (hb hby at_74) rfl kk) ?_
  refine k_callV hx (y := (⟨"java/lang/String", "charAt", "(I)C"⟩ : MethodName)) (z := (⟨"java/lang/String", "charAt", "(I)C"⟩ : MethodName)) (hw _ (List.mem_of_getElem? (i := 173) rfl)) (hw _ (List.mem_of_getElem? (i := 174) rfl)) (fun s' hZ => notFace_of_selects (args := #[]) (mv hZ (hw _ (List.mem_of_getElem? (i := 176) rfl)))) (hw _ (List.mem_of_getElem? (i := 176) rfl)) (hw _ (List.mem_of_getElem? (i := 175) rfl)) (by decide) (W := 0) (a := a_66) (argsL := [(.int n1)]) (rest := []) (pay_ch (W := 0) hX O_63 F_71 ss.length (by simp <;> omega) tx1.len.1 (by decide) (by decide)) F_71.1 rfl (by rw [hml]; rfl) (lenOf pd__28_I_29_C rfl) rfl (by show 2 * 0 + _ ≤ _; exact Nat.le_of_eq rfl) (hb hby at_76) (by decide) (by decide) ?_
  intro v_83 h_84 bk_85 O_86 z_87 Q_88
  obtain ⟨rfl, rfl, rfl⟩ := Q_88
  show Run p l e _ s m _ below meth c Z EL1 _ n0 bk_62 h_61 19 73 (mkF m 79 #[.val (.int s0), .val (.int sl), .val (.int t0), .val (.int tl), .val (.int n1), .val (.int n2), .val (.ref a_7), .val (.ref a_23), .val (.ref a_66), .unset] [(.int (((((([] : List Int32) ++ ss) ++ [(46 : Int32)]) ++ ts)).getD ss.length 0))]) _
  refine k_pure (g' := (mkF m 81 #[.val (.int s0), .val (.int sl), .val (.int t0), .val (.int tl), .val (.int n1), .val (.int n2), .val (.ref a_7), .val (.ref a_23), .val (.ref a_66), .unset] [(.int (46 : Int32)), (.int (((((([] : List Int32) ++ ss) ++ [(46 : Int32)]) ++ ts)).getD ss.length 0))])) (fun TT HH tt kk => XS.bipush HH hx rfl (hb hby at_79) kk) ?_
  refine k_pure (g' := (mkF m 84 #[.val (.int s0), .val (.int sl), .val (.int t0), .val (.int tl), .val (.int n1), .val (.int n2), .val (.ref a_7), .val (.ref a_23), .val (.ref a_66), .unset] [])) (fun TT HH tt kk => XS.icmpNo HH hx rfl (hb hby at_81) rfl (teq (dot_at tx1)).2 kk) ?_
  refine k_pure (g' := (mkF m 85 #[.val (.int s0), .val (.int sl), .val (.int t0), .val (.int tl), .val (.int n1), .val (.int n2), .val (.ref a_7), .val (.ref a_23), .val (.ref a_66), .unset] [(.int (1 : Int32))])) (fun TT HH tt kk => XS.iconst HH hx rfl (hb hby at_84) kk) ?_
  refine k_pure (g' := (mkF m 89 #[.val (.int s0), .val (.int sl), .val (.int t0), .val (.int tl), .val (.int n1), .val (.int n2), .val (.ref a_7), .val (.ref a_23), .val (.ref a_66), .unset] [(.int (1 : Int32))])) (fun TT HH tt kk => XS.goto HH hx rfl (pc0 := 85) (pc' := 89) rfl (hb hby at_85) (by decide) (by decide) kk) ?_
  refine k_pure (g' := (mkF m 91 #[.val (.int s0), .val (.int sl), .val (.int t0), .val (.int tl), .val (.int n1), .val (.int n2), .val (.ref a_7), .val (.ref a_23), .val (.ref a_66), .val (.int (1 : Int32))] [])) (fun TT HH tt kk => XS.istore HH hx rfl (hb hby at_89) rfl (l' := #[.val (.int s0), .val (.int sl), .val (.int t0), .val (.int tl), .val (.int n1), .val (.int n2), .val (.ref a_7), .val (.ref a_23), .val (.ref a_66), .val (.int (1 : Int32))]) rfl kk) ?_
  refine k_pure (g' := (mkF m 93 #[.val (.int s0), .val (.int sl), .val (.int t0), .val (.int tl), .val (.int n1), .val (.int n2), .val (.ref a_7), .val (.ref a_23), .val (.ref a_66), .val (.int (1 : Int32))] [(.int (1 : Int32))])) (fun TT HH tt kk => XS.iload HH hx rfl (hb hby at_91) rfl kk) ?_
  refine k_pure (g' := (mkF m 96 #[.val (.int s0), .val (.int sl), .val (.int t0), .val (.int tl), .val (.int n1), .val (.int n2), .val (.ref a_7), .val (.ref a_23), .val (.ref a_66), .val (.int (1 : Int32))] [])) (fun TT HH tt kk => XS.ifNo HH hx rfl (hb hby at_93) rfl ((if0 _ _).trans (feq (by decide : ¬ ((1 : Int32) = (0 : Int32)))).1) kk) ?_
  refine k_pure (g' := (mkF m 98 #[.val (.int s0), .val (.int sl), .val (.int t0), .val (.int tl), .val (.int n1), .val (.int n2), .val (.ref a_7), .val (.ref a_23), .val (.ref a_66), .val (.int (1 : Int32))] [(.ref a_66)])) (fun TT HH tt kk => XS.aload HH hx rfl (hb hby at_96) rfl rfl kk) ?_
  refine k_pure (g' := (mkF m 99 #[.val (.int s0), .val (.int sl), .val (.int t0), .val (.int tl), .val (.int n1), .val (.int n2), .val (.ref a_7), .val (.ref a_23), .val (.ref a_66), .val (.int (1 : Int32))] [(.int (0 : Int32)), (.ref a_66)])) (fun TT HH tt kk => XS.iconst HH hx rfl (hb hby at_98) kk) ?_
  refine k_pure (g' := (mkF m 101 #[.val (.int s0), .val (.int sl), .val (.int t0), .val (.int tl), .val (.int n1), .val (.int n2), .val (.ref a_7), .val (.ref a_23), .val (.ref a_66), .val (.int (1 : Int32))] [(.int n1), (.int (0 : Int32)), (.ref a_66)])) (fun TT HH tt kk => XS.iload HH hx rfl (hb hby at_99) rfl kk) ?_
  refine k_pure (g' := (mkF m 102 #[.val (.int s0), .val (.int sl), .val (.int t0), .val (.int tl), .val (.int n1), .val (.int n2), .val (.ref a_7), .val (.ref a_23), .val (.ref a_66), .val (.int (1 : Int32))] [(.int (0 : Int32)), (.int n1), (.int (0 : Int32)), (.ref a_66)])) (fun TT HH tt kk => XS.iconst HH hx rfl (hb hby at_101) kk) ?_
  refine k_pure (g' := (mkF m 103 #[.val (.int s0), .val (.int sl), .val (.int t0), .val (.int tl), .val (.int n1), .val (.int n2), .val (.ref a_7), .val (.ref a_23), .val (.ref a_66), .val (.int (1 : Int32))] [(.int s0), (.int (0 : Int32)), (.int n1), (.int (0 : Int32)), (.ref a_66)])) (fun TT HH tt kk => XS.iloadN HH hx rfl (hb hby at_102) rfl kk) ?_
  refine k_pure (g' := (mkF m 104 #[.val (.int s0), .val (.int sl), .val (.int t0), .val (.int tl), .val (.int n1), .val (.int n2), .val (.ref a_7), .val (.ref a_23), .val (.ref a_66), .val (.int (1 : Int32))] [(.int (0 : Int32)), (.int s0), (.int (0 : Int32)), (.int n1), (.int (0 : Int32)), (.ref a_66)])) (fun TT HH tt kk => XS.iconst HH hx rfl (hb hby at_103) kk) ?_
  refine k_callS hx (y := (⟨"com/example/tideline/tideline/TableNameToStringPinLaw", "ch", "(II)C"⟩ : MethodName)) (hw _ (List.mem_of_getElem? (i := 9) rfl)) (hw _ (List.mem_of_getElem? (i := 10) rfl)) (hw _ (List.mem_of_getElem? (i := 3) rfl)) (hw _ (List.mem_of_getElem? (i := 11) rfl)) (by decide) (W := 4) (argsL := [(.int s0), (.int (0 : Int32))]) (rest := [(.int (0 : Int32)), (.int n1), (.int (0 : Int32)), (.ref a_66)]) (Pays.of_met (rm_chc l Z a0 G1 G3 hX n0 bk_62 h_61 O_63 s0 (0 : Int32)  []) (hw _ (List.mem_of_getElem? (i := 11) rfl)) (hw _ (List.mem_of_getElem? (i := 3) rfl)) (by decide) (by decide)) rfl (by rw [hml]; rfl) (lenOf pd__28_II_29_C rfl) rfl (by show 2 * 0 + _ ≤ _; exact Nat.le_of_eq rfl) (hb hby at_104) (by decide) (by decide) ?_
  intro v_89 h_90 bk_91 O_92 z_93 Q_94
  obtain ⟨rfl, rfl, rfl⟩ := Q_94
  show Run p l e _ s m _ below meth c Z EL1 _ n0 bk_62 h_61 19 73 (mkF m 107 #[.val (.int s0), .val (.int sl), .val (.int t0), .val (.int tl), .val (.int n1), .val (.int n2), .val (.ref a_7), .val (.ref a_23), .val (.ref a_66), .val (.int (1 : Int32))] [(.int (chv s0 (0 : Int32))), (.int (0 : Int32)), (.int n1), (.int (0 : Int32)), (.ref a_66)]) _
  refine k_callS hx (y := (⟨"com/example/tideline/tideline/TableNameToStringPinLaw", "at", "(Ljava/lang/String;IIIC)Z"⟩ : MethodName)) (hw _ (List.mem_of_getElem? (i := 195) rfl)) (hw _ (List.mem_of_getElem? (i := 196) rfl)) (hw _ (List.mem_of_getElem? (i := 3) rfl)) (hw _ (List.mem_of_getElem? (i := 197) rfl)) (by decide) (W := 0) (argsL := [(.ref a_66), (.int (0 : Int32)), (.int n1), (.int (0 : Int32)), (.int (chv s0 (0 : Int32)))]) (rest := []) (Pays.of_met (rm_at l Z a0 G1 G3 hX n0 bk_62 h_61 O_63 a_66 a_67 k_68 (((([] : List Int32) ++ ss) ++ [(46 : Int32)]) ++ ts) (0 : Int32) n1 (0 : Int32) (chv s0 (0 : Int32)) F_71 (ask_s tx1).1 []) (hw _ (List.mem_of_getElem? (i := 197) rfl)) (hw _ (List.mem_of_getElem? (i := 3) rfl)) (by decide) (by decide)) rfl (by rw [hml]; rfl) (lenOf pd__28_Ljava_2f_lang_2f_String_3b_IIIC_29_Z rfl) rfl (by show 2 * 0 + _ ≤ _; exact Nat.le_of_eq rfl) (hb hby at_107) (by decide) (by decide) ?_
  intro v_95 h_96 bk_97 O_98 z_99 Q_100
  obtain ⟨rfl, rfl, rfl⟩ := Q_100
  show Run p l e _ s m _ below meth c Z EL1 _ n0 bk_62 h_61 19 73 (mkF m 110 #[.val (.int s0), .val (.int sl), .val (.int t0), .val (.int tl), .val (.int n1), .val (.int n2), .val (.ref a_7), .val (.ref a_23), .val (.ref a_66), .val (.int (1 : Int32))] [(.int (1 : Int32))]) _
  refine k_pure (g' := (mkF m 113 #[.val (.int s0), .val (.int sl), .val (.int t0), .val (.int tl), .val (.int n1), .val (.int n2), .val (.ref a_7), .val (.ref a_23), .val (.ref a_66), .val (.int (1 : Int32))] [])) (fun TT HH tt kk => XS.ifNo HH hx rfl (hb hby at_110) rfl ((if0 _ _).trans (feq (by decide : ¬ ((1 : Int32) = (0 : Int32)))).1) kk) ?_
  refine k_pure (g' := (mkF m 114 #[.val (.int s0), .val (.int sl), .val (.int t0), .val (.int tl), .val (.int n1), .val (.int n2), .val (.ref a_7), .val (.ref a_23), .val (.ref a_66), .val (.int (1 : Int32))] [(.int (1 : Int32))])) (fun TT HH tt kk => XS.iconst HH hx rfl (hb hby at_113) kk) ?_
  refine k_pure (g' := (mkF m 118 #[.val (.int s0), .val (.int sl), .val (.int t0), .val (.int tl), .val (.int n1), .val (.int n2), .val (.ref a_7), .val (.ref a_23), .val (.ref a_66), .val (.int (1 : Int32))] [(.int (1 : Int32))])) (fun TT HH tt kk => XS.goto HH hx rfl (pc0 := 114) (pc' := 118) rfl (hb hby at_114) (by decide) (by decide) kk) ?_
  refine k_pure (g' := (mkF m 120 #[.val (.int s0), .val (.int sl), .val (.int t0), .val (.int tl), .val (.int n1), .val (.int n2), .val (.ref a_7), .val (.ref a_23), .val (.ref a_66), .val (.int (1 : Int32))] [])) (fun TT HH tt kk => XS.istore HH hx rfl (hb hby at_118) rfl (l' := #[.val (.int s0), .val (.int sl), .val (.int t0), .val (.int tl), .val (.int n1), .val (.int n2), .val (.ref a_7), .val (.ref a_23), .val (.ref a_66), .val (.int (1 : Int32))]) rfl kk) ?_
  refine k_pure (g' := (mkF m 122 #[.val (.int s0), .val (.int sl), .val (.int t0), .val (.int tl), .val (.int n1), .val (.int n2), .val (.ref a_7), .val (.ref a_23), .val (.ref a_66), .val (.int (1 : Int32))] [(.int (1 : Int32))])) (fun TT HH tt kk => XS.iload HH hx rfl (hb hby at_120) rfl kk) ?_
  refine k_pure (g' := (mkF m 125 #[.val (.int s0), .val (.int sl), .val (.int t0), .val (.int tl), .val (.int n1), .val (.int n2), .val (.ref a_7), .val (.ref a_23), .val (.ref a_66), .val (.int (1 : Int32))] [])) (fun TT HH tt kk => XS.ifNo HH hx rfl (hb hby at_122) rfl ((if0 _ _).trans (feq (by decide : ¬ ((1 : Int32) = (0 : Int32)))).1) kk) ?_
  refine k_pure (g' := (mkF m 127 #[.val (.int s0), .val (.int sl), .val (.int t0), .val (.int tl), .val (.int n1), .val (.int n2), .val (.ref a_7), .val (.ref a_23), .val (.ref a_66), .val (.int (1 : Int32))] [(.ref a_66)])) (fun TT HH tt kk => XS.aload HH hx rfl (hb hby at_125) rfl rfl kk) ?_
  refine k_pure (g' := (mkF m 128 #[.val (.int s0), .val (.int sl), .val (.int t0), .val (.int tl), .val (.int n1), .val (.int n2), .val (.ref a_7), .val (.ref a_23), .val (.ref a_66), .val (.int (1 : Int32))] [(.int (0 : Int32)), (.ref a_66)])) (fun TT HH tt kk => XS.iconst HH hx rfl (hb hby at_127) kk) ?_
  refine k_pure (g' := (mkF m 130 #[.val (.int s0), .val (.int sl), .val (.int t0), .val (.int tl), .val (.int n1), .val (.int n2), .val (.ref a_7), .val (.ref a_23), .val (.ref a_66), .val (.int (1 : Int32))] [(.int n1), (.int (0 : Int32)), (.ref a_66)])) (fun TT HH tt kk => XS.iload HH hx rfl (hb hby at_128) rfl kk) ?_
  refine k_pure (g' := (mkF m 131 #[.val (.int s0), .val (.int sl), .val (.int t0), .val (.int tl), .val (.int n1), .val (.int n2), .val (.ref a_7), .val (.ref a_23), .val (.ref a_66), .val (.int (1 : Int32))] [(.int (1 : Int32)), (.int n1), (.int (0 : Int32)), (.ref a_66)])) (fun TT HH tt kk => XS.iconst HH hx rfl (hb hby at_130) kk) ?_
  refine k_pure (g' := (mkF m 132 #[.val (.int s0), .val (.int sl), .val (.int t0), .val (.int tl), .val (.int n1), .val (.int n2), .val (.ref a_7), .val (.ref a_23), .val (.ref a_66), .val (.int (1 : Int32))] [(.int s0), (.int (1 : Int32)), (.int n1), (.int (0 : Int32)), (.ref a_66)])) (fun TT HH tt kk => XS.iloadN HH hx rfl (hb hby at_131) rfl kk) ?_
  refine k_pure (g' := (mkF m 133 #[.val (.int s0), .val (.int sl), .val (.int t0), .val (.int tl), .val (.int n1), .val (.int n2), .val (.ref a_7), .val (.ref a_23), .val (.ref a_66), .val (.int (1 : Int32))] [(.int (1 : Int32)), (.int s0), (.int (1 : Int32)), (.int n1), (.int (0 : Int32)), (.ref a_66)])) (fun TT HH tt kk => XS.iconst HH hx rfl (hb hby at_132) kk) ?_
  refine k_callS hx (y := (⟨"com/example/tideline/tideline/TableNameToStringPinLaw", "ch", "(II)C"⟩ : MethodName)) (hw _ (List.mem_of_getElem? (i := 9) rfl)) (hw _ (List.mem_of_getElem? (i := 10) rfl)) (hw _ (List.mem_of_getElem? (i := 3) rfl)) (hw _ (List.mem_of_getElem? (i := 11) rfl)) (by decide) (W := 4) (argsL := [(.int s0), (.int (1 : Int32))]) (rest := [(.int (1 : Int32)), (.int n1), (.int (0 : Int32)), (.ref a_66)]) (Pays.of_met (rm_chc l Z a0 G1 G3 hX n0 bk_62 h_61 O_63 s0 (1 : Int32)  []) (hw _ (List.mem_of_getElem? (i := 11) rfl)) (hw _ (List.mem_of_getElem? (i := 3) rfl)) (by decide) (by decide)) rfl (by rw [hml]; rfl) (lenOf pd__28_II_29_C rfl) rfl (by show 2 * 0 + _ ≤ _; exact Nat.le_of_eq rfl) (hb hby at_133) (by decide) (by decide) ?_
  intro v_101 h_102 bk_103 O_104 z_105 Q_106
  obtain ⟨rfl, rfl, rfl⟩ := Q_106
  show Run p l e _ s m _ below meth c Z EL1 _ n0 bk_62 h_61 19 73 (mkF m 136 #[.val (.int s0), .val (.int sl), .val (.int t0), .val (.int tl), .val (.int n1), .val (.int n2), .val (.ref a_7), .val (.ref a_23), .val (.ref a_66), .val (.int (1 : Int32))] [(.int (chv s0 (1 : Int32))), (.int (1 : Int32)), (.int n1), (.int (0 : Int32)), (.ref a_66)]) _
  refine k_callS hx (y := (⟨"com/example/tideline/tideline/TableNameToStringPinLaw", "at", "(Ljava/lang/String;IIIC)Z"⟩ : MethodName)) (hw _ (List.mem_of_getElem? (i := 195) rfl)) (hw _ (List.mem_of_getElem? (i := 196) rfl)) (hw _ (List.mem_of_getElem? (i := 3) rfl)) (hw _ (List.mem_of_getElem? (i := 197) rfl)) (by decide) (W := 0) (argsL := [(.ref a_66), (.int (0 : Int32)), (.int n1), (.int (1 : Int32)), (.int (chv s0 (1 : Int32)))]) (rest := []) (Pays.of_met (rm_at l Z a0 G1 G3 hX n0 bk_62 h_61 O_63 a_66 a_67 k_68 (((([] : List Int32) ++ ss) ++ [(46 : Int32)]) ++ ts) (0 : Int32) n1 (1 : Int32) (chv s0 (1 : Int32)) F_71 (ask_s tx1).2.1 []) (hw _ (List.mem_of_getElem? (i := 197) rfl)) (hw _ (List.mem_of_getElem? (i := 3) rfl)) (by decide) (by decide)) rfl (by rw [hml]; rfl) (lenOf pd__28_Ljava_2f_lang_2f_String_3b_IIIC_29_Z rfl) rfl (by show 2 * 0 + _ ≤ _; exact Nat.le_of_eq rfl) (hb hby at_136) (by decide) (by decide) ?_
  intro v_107 h_108 bk_109 O_110 z_111 Q_112
  obtain ⟨rfl, rfl, rfl⟩ := Q_112
  show Run p l e _ s m _ below meth c Z EL1 _ n0 bk_62 h_61 19 73 (mkF m 139 #[.val (.int s0), .val (.int sl), .val (.int t0), .val (.int tl), .val (.int n1), .val (.int n2), .val (.ref a_7), .val (.ref a_23), .val (.ref a_66), .val (.int (1 : Int32))] [(.int (1 : Int32))]) _
  refine k_pure (g' := (mkF m 142 #[.val (.int s0), .val (.int sl), .val (.int t0), .val (.int tl), .val (.int n1), .val (.int n2), .val (.ref a_7), .val (.ref a_23), .val (.ref a_66), .val (.int (1 : Int32))] [])) (fun TT HH tt kk => XS.ifNo HH hx rfl (hb hby at_139) rfl ((if0 _ _).trans (feq (by decide : ¬ ((1 : Int32) = (0 : Int32)))).1) kk) ?_
  refine k_pure (g' := (mkF m 143 #[.val (.int s0), .val (.int sl), .val (.int t0), .val (.int tl), .val (.int n1), .val (.int n2), .val (.ref a_7), .val (.ref a_23), .val (.ref a_66), .val (.int (1 : Int32))] [(.int (1 : Int32))])) (fun TT HH tt kk => XS.iconst HH hx rfl (hb hby at_142) kk) ?_
  refine k_pure (g' := (mkF m 147 #[.val (.int s0), .val (.int sl), .val (.int t0), .val (.int tl), .val (.int n1), .val (.int n2), .val (.ref a_7), .val (.ref a_23), .val (.ref a_66), .val (.int (1 : Int32))] [(.int (1 : Int32))])) (fun TT HH tt kk => XS.goto HH hx rfl (pc0 := 143) (pc' := 147) rfl (hb hby at_143) (by decide) (by decide) kk) ?_
  refine k_pure (g' := (mkF m 149 #[.val (.int s0), .val (.int sl), .val (.int t0), .val (.int tl), .val (.int n1), .val (.int n2), .val (.ref a_7), .val (.ref a_23), .val (.ref a_66), .val (.int (1 : Int32))] [])) (fun TT HH tt kk => XS.istore HH hx rfl (hb hby at_147) rfl (l' := #[.val (.int s0), .val (.int sl), .val (.int t0), .val (.int tl), .val (.int n1), .val (.int n2), .val (.ref a_7), .val (.ref a_23), .val (.ref a_66), .val (.int (1 : Int32))]) rfl kk) ?_
  refine k_pure (g' := (mkF m 151 #[.val (.int s0), .val (.int sl), .val (.int t0), .val (.int tl), .val (.int n1), .val (.int n2), .val (.ref a_7), .val (.ref a_23), .val (.ref a_66), .val (.int (1 : Int32))] [(.int (1 : Int32))])) (fun TT HH tt kk => XS.iload HH hx rfl (hb hby at_149) rfl kk) ?_
  refine k_pure (g' := (mkF m 154 #[.val (.int s0), .val (.int sl), .val (.int t0), .val (.int tl), .val (.int n1), .val (.int n2), .val (.ref a_7), .val (.ref a_23), .val (.ref a_66), .val (.int (1 : Int32))] [])) (fun TT HH tt kk => XS.ifNo HH hx rfl (hb hby at_151) rfl ((if0 _ _).trans (feq (by decide : ¬ ((1 : Int32) = (0 : Int32)))).1) kk) ?_
  refine k_pure (g' := (mkF m 156 #[.val (.int s0), .val (.int sl), .val (.int t0), .val (.int tl), .val (.int n1), .val (.int n2), .val (.ref a_7), .val (.ref a_23), .val (.ref a_66), .val (.int (1 : Int32))] [(.ref a_66)])) (fun TT HH tt kk => XS.aload HH hx rfl (hb hby at_154) rfl rfl kk) ?_
  refine k_pure (g' := (mkF m 157 #[.val (.int s0), .val (.int sl), .val (.int t0), .val (.int tl), .val (.int n1), .val (.int n2), .val (.ref a_7), .val (.ref a_23), .val (.ref a_66), .val (.int (1 : Int32))] [(.int (0 : Int32)), (.ref a_66)])) (fun TT HH tt kk => XS.iconst HH hx rfl (hb hby at_156) kk) ?_
  refine k_pure (g' := (mkF m 159 #[.val (.int s0), .val (.int sl), .val (.int t0), .val (.int tl), .val (.int n1), .val (.int n2), .val (.ref a_7), .val (.ref a_23), .val (.ref a_66), .val (.int (1 : Int32))] [(.int n1), (.int (0 : Int32)), (.ref a_66)])) (fun TT HH tt kk => XS.iload HH hx rfl (hb hby at_157) rfl kk) ?_
  refine k_pure (g' := (mkF m 160 #[.val (.int s0), .val (.int sl), .val (.int t0), .val (.int tl), .val (.int n1), .val (.int n2), .val (.ref a_7), .val (.ref a_23), .val (.ref a_66), .val (.int (1 : Int32))] [(.int (2 : Int32)), (.int n1), (.int (0 : Int32)), (.ref a_66)])) (fun TT HH tt kk => XS.iconst HH hx rfl (hb hby at_159) kk) ?_
  refine k_pure (g' := (mkF m 161 #[.val (.int s0), .val (.int sl), .val (.int t0), .val (.int tl), .val (.int n1), .val (.int n2), .val (.ref a_7), .val (.ref a_23), .val (.ref a_66), .val (.int (1 : Int32))] [(.int s0), (.int (2 : Int32)), (.int n1), (.int (0 : Int32)), (.ref a_66)])) (fun TT HH tt kk => XS.iloadN HH hx rfl (hb hby at_160) rfl kk) ?_
  refine k_pure (g' := (mkF m 162 #[.val (.int s0), .val (.int sl), .val (.int t0), .val (.int tl), .val (.int n1), .val (.int n2), .val (.ref a_7), .val (.ref a_23), .val (.ref a_66), .val (.int (1 : Int32))] [(.int (2 : Int32)), (.int s0), (.int (2 : Int32)), (.int n1), (.int (0 : Int32)), (.ref a_66)])) (fun TT HH tt kk => XS.iconst HH hx rfl (hb hby at_161) kk) ?_
  refine k_callS hx (y := (⟨"com/example/tideline/tideline/TableNameToStringPinLaw", "ch", "(II)C"⟩ : MethodName)) (hw _ (List.mem_of_getElem? (i := 9) rfl)) (hw _ (List.mem_of_getElem? (i := 10) rfl)) (hw _ (List.mem_of_getElem? (i := 3) rfl)) (hw _ (List.mem_of_getElem? (i := 11) rfl)) (by decide) (W := 4) (argsL := [(.int s0), (.int (2 : Int32))]) (rest := [(.int (2 : Int32)), (.int n1), (.int (0 : Int32)), (.ref a_66)]) (Pays.of_met (rm_chc l Z a0 G1 G3 hX n0 bk_62 h_61 O_63 s0 (2 : Int32)  []) (hw _ (List.mem_of_getElem? (i := 11) rfl)) (hw _ (List.mem_of_getElem? (i := 3) rfl)) (by decide) (by decide)) rfl (by rw [hml]; rfl) (lenOf pd__28_II_29_C rfl) rfl (by show 2 * 0 + _ ≤ _; exact Nat.le_of_eq rfl) (hb hby at_162) (by decide) (by decide) ?_
  intro v_113 h_114 bk_115 O_116 z_117 Q_118
  obtain ⟨rfl, rfl, rfl⟩ := Q_118
  show Run p l e _ s m _ below meth c Z EL1 _ n0 bk_62 h_61 19 73 (mkF m 165 #[.val (.int s0), .val (.int sl), .val (.int t0), .val (.int tl), .val (.int n1), .val (.int n2), .val (.ref a_7), .val (.ref a_23), .val (.ref a_66), .val (.int (1 : Int32))] [(.int (chv s0 (2 : Int32))), (.int (2 : Int32)), (.int n1), (.int (0 : Int32)), (.ref a_66)]) _
  refine k_callS hx (y := (⟨"com/example/tideline/tideline/TableNameToStringPinLaw", "at", "(Ljava/lang/String;IIIC)Z"⟩ : MethodName)) (hw _ (List.mem_of_getElem? (i := 195) rfl)) (hw _ (List.mem_of_getElem? (i := 196) rfl)) (hw _ (List.mem_of_getElem? (i := 3) rfl)) (hw _ (List.mem_of_getElem? (i := 197) rfl)) (by decide) (W := 0) (argsL := [(.ref a_66), (.int (0 : Int32)), (.int n1), (.int (2 : Int32)), (.int (chv s0 (2 : Int32)))]) (rest := []) (Pays.of_met (rm_at l Z a0 G1 G3 hX n0 bk_62 h_61 O_63 a_66 a_67 k_68 (((([] : List Int32) ++ ss) ++ [(46 : Int32)]) ++ ts) (0 : Int32) n1 (2 : Int32) (chv s0 (2 : Int32)) F_71 (ask_s tx1).2.2 []) (hw _ (List.mem_of_getElem? (i := 197) rfl)) (hw _ (List.mem_of_getElem? (i := 3) rfl)) (by decide) (by decide)) rfl (by rw [hml]; rfl) (lenOf pd__28_Ljava_2f_lang_2f_String_3b_IIIC_29_Z rfl) rfl (by show 2 * 0 + _ ≤ _; exact Nat.le_of_eq rfl) (hb hby at_165) (by decide) (by decide) ?_
  intro v_119 h_120 bk_121 O_122 z_123 Q_124
  obtain ⟨rfl, rfl, rfl⟩ := Q_124
  show Run p l e _ s m _ below meth c Z EL1 _ n0 bk_62 h_61 19 73 (mkF m 168 #[.val (.int s0), .val (.int sl), .val (.int t0), .val (.int tl), .val (.int n1), .val (.int n2), .val (.ref a_7), .val (.ref a_23), .val (.ref a_66), .val (.int (1 : Int32))] [(.int (1 : Int32))]) _
  refine k_pure (g' := (mkF m 171 #[.val (.int s0), .val (.int sl), .val (.int t0), .val (.int tl), .val (.int n1), .val (.int n2), .val (.ref a_7), .val (.ref a_23), .val (.ref a_66), .val (.int (1 : Int32))] [])) (fun TT HH tt kk => XS.ifNo HH hx rfl (hb hby at_168) rfl ((if0 _ _).trans (feq (by decide : ¬ ((1 : Int32) = (0 : Int32)))).1) kk) ?_
  refine k_pure (g' := (mkF m 172 #[.val (.int s0), .val (.int sl), .val (.int t0), .val (.int tl), .val (.int n1), .val (.int n2), .val (.ref a_7), .val (.ref a_23), .val (.ref a_66), .val (.int (1 : Int32))] [(.int (1 : Int32))])) (fun TT HH tt kk => XS.iconst HH hx rfl (hb hby at_171) kk) ?_
  refine k_pure (g' := (mkF m 176 #[.val (.int s0), .val (.int sl), .val (.int t0), .val (.int tl), .val (.int n1), .val (.int n2), .val (.ref a_7), .val (.ref a_23), .val (.ref a_66), .val (.int (1 : Int32))] [(.int (1 : Int32))])) (fun TT HH tt kk => XS.goto HH hx rfl (pc0 := 172) (pc' := 176) rfl (hb hby at_172) (by decide) (by decide) kk) ?_
  refine k_pure (g' := (mkF m 178 #[.val (.int s0), .val (.int sl), .val (.int t0), .val (.int tl), .val (.int n1), .val (.int n2), .val (.ref a_7), .val (.ref a_23), .val (.ref a_66), .val (.int (1 : Int32))] [])) (fun TT HH tt kk => XS.istore HH hx rfl (hb hby at_176) rfl (l' := #[.val (.int s0), .val (.int sl), .val (.int t0), .val (.int tl), .val (.int n1), .val (.int n2), .val (.ref a_7), .val (.ref a_23), .val (.ref a_66), .val (.int (1 : Int32))]) rfl kk) ?_
  refine k_pure (g' := (mkF m 180 #[.val (.int s0), .val (.int sl), .val (.int t0), .val (.int tl), .val (.int n1), .val (.int n2), .val (.ref a_7), .val (.ref a_23), .val (.ref a_66), .val (.int (1 : Int32))] [(.int (1 : Int32))])) (fun TT HH tt kk => XS.iload HH hx rfl (hb hby at_178) rfl kk) ?_
  refine k_pure (g' := (mkF m 183 #[.val (.int s0), .val (.int sl), .val (.int t0), .val (.int tl), .val (.int n1), .val (.int n2), .val (.ref a_7), .val (.ref a_23), .val (.ref a_66), .val (.int (1 : Int32))] [])) (fun TT HH tt kk => XS.ifNo HH hx rfl (hb hby at_180) rfl ((if0 _ _).trans (feq (by decide : ¬ ((1 : Int32) = (0 : Int32)))).1) kk) ?_
  refine k_pure (g' := (mkF m 185 #[.val (.int s0), .val (.int sl), .val (.int t0), .val (.int tl), .val (.int n1), .val (.int n2), .val (.ref a_7), .val (.ref a_23), .val (.ref a_66), .val (.int (1 : Int32))] [(.ref a_66)])) (fun TT HH tt kk => XS.aload HH hx rfl (hb hby at_183) rfl rfl kk) ?_
  refine k_pure (g' := (mkF m 187 #[.val (.int s0), .val (.int sl), .val (.int t0), .val (.int tl), .val (.int n1), .val (.int n2), .val (.ref a_7), .val (.ref a_23), .val (.ref a_66), .val (.int (1 : Int32))] [(.int n1), (.ref a_66)])) (fun TT HH tt kk => XS.iload HH hx rfl (hb hby at_185) rfl kk) ?_
  refine k_pure (g' := (mkF m 188 #[.val (.int s0), .val (.int sl), .val (.int t0), .val (.int tl), .val (.int n1), .val (.int n2), .val (.ref a_7), .val (.ref a_23), .val (.ref a_66), .val (.int (1 : Int32))] [(.int (1 : Int32)), (.int n1), (.ref a_66)])) (fun TT HH tt kk => XS.iconst HH hx rfl (hb hby at_187) kk) ?_
  refine k_pure (g' := (mkF m 189 #[.val (.int s0), .val (.int sl), .val (.int t0), .val (.int tl), .val (.int n1), .val (.int n2), .val (.ref a_7), .val (.ref a_23), .val (.ref a_66), .val (.int (1 : Int32))] [(.int (n1 + (1 : Int32))), (.ref a_66)])) (fun TT HH tt kk => XS.iadd HH hx rfl (hb hby at_188) rfl kk) ?_
  refine k_pure (g' := (mkF m 191 #[.val (.int s0), .val (.int sl), .val (.int t0), .val (.int tl), .val (.int n1), .val (.int n2), .val (.ref a_7), .val (.ref a_23), .val (.ref a_66), .val (.int (1 : Int32))] [(.int n2), (.int (n1 + (1 : Int32))), (.ref a_66)])) (fun TT HH tt kk => XS.iload HH hx rfl (hb hby at_189) rfl kk) ?_
  refine k_pure (g' := (mkF m 192 #[.val (.int s0), .val (.int sl), .val (.int t0), .val (.int tl), .val (.int n1), .val (.int n2), .val (.ref a_7), .val (.ref a_23), .val (.ref a_66), .val (.int (1 : Int32))] [(.int (0 : Int32)), (.int n2), (.int (n1 + (1 : Int32))), (.ref a_66)])) (fun TT HH tt kk => XS.iconst HH hx rfl (hb hby at_191) kk) ?_
  refine k_pure (g' := (mkF m 193 #[.val (.int s0), .val (.int sl), .val (.int t0), .val (.int tl), .val (.int n1), .val (.int n2), .val (.ref a_7), .val (.ref a_23), .val (.ref a_66), .val (.int (1 : Int32))] [(.int t0), (.int (0 : Int32)), (.int n2), (.int (n1 + (1 : Int32))), (.ref a_66)])) (fun TT HH tt kk => XS.iloadN HH hx rfl (hb hby at_192) rfl kk) ?_
  refine k_pure (g' := (mkF m 194 #[.val (.int s0), .val (.int sl), .val (.int t0), .val (.int tl), .val (.int n1), .val (.int n2), .val (.ref a_7), .val (.ref a_23), .val (.ref a_66), .val (.int (1 : Int32))] [(.int (0 : Int32)), (.int t0), (.int (0 : Int32)), (.int n2), (.int (n1 + (1 : Int32))), (.ref a_66)])) (fun TT HH tt kk => XS.iconst HH hx rfl (hb hby at_193) kk) ?_
  refine k_callS hx (y := (⟨"com/example/tideline/tideline/TableNameToStringPinLaw", "ch", "(II)C"⟩ : MethodName)) (hw _ (List.mem_of_getElem? (i := 9) rfl)) (hw _ (List.mem_of_getElem? (i := 10) rfl)) (hw _ (List.mem_of_getElem? (i := 3) rfl)) (hw _ (List.mem_of_getElem? (i := 11) rfl)) (by decide) (W := 4) (argsL := [(.int t0), (.int (0 : Int32))]) (rest := [(.int (0 : Int32)), (.int n2), (.int (n1 + (1 : Int32))), (.ref a_66)]) (Pays.of_met (rm_chc l Z a0 G1 G3 hX n0 bk_62 h_61 O_63 t0 (0 : Int32)  []) (hw _ (List.mem_of_getElem? (i := 11) rfl)) (hw _ (List.mem_of_getElem? (i := 3) rfl)) (by decide) (by decide)) rfl (by rw [hml]; rfl) (lenOf pd__28_II_29_C rfl) rfl (by show 2 * 0 + _ ≤ _; exact Nat.le_of_eq rfl) (hb hby at_194) (by decide) (by decide) ?_
  intro v_125 h_126 bk_127 O_128 z_129 Q_130
  obtain ⟨rfl, rfl, rfl⟩ := Q_130
  show Run p l e _ s m _ below meth c Z EL1 _ n0 bk_62 h_61 19 73 (mkF m 197 #[.val (.int s0), .val (.int sl), .val (.int t0), .val (.int tl), .val (.int n1), .val (.int n2), .val (.ref a_7), .val (.ref a_23), .val (.ref a_66), .val (.int (1 : Int32))] [(.int (chv t0 (0 : Int32))), (.int (0 : Int32)), (.int n2), (.int (n1 + (1 : Int32))), (.ref a_66)]) _
  refine k_callS hx (y := (⟨"com/example/tideline/tideline/TableNameToStringPinLaw", "at", "(Ljava/lang/String;IIIC)Z"⟩ : MethodName)) (hw _ (List.mem_of_getElem? (i := 195) rfl)) (hw _ (List.mem_of_getElem? (i := 196) rfl)) (hw _ (List.mem_of_getElem? (i := 3) rfl)) (hw _ (List.mem_of_getElem? (i := 197) rfl)) (by decide) (W := 0) (argsL := [(.ref a_66), (.int (n1 + (1 : Int32))), (.int n2), (.int (0 : Int32)), (.int (chv t0 (0 : Int32)))]) (rest := []) (Pays.of_met (rm_at l Z a0 G1 G3 hX n0 bk_62 h_61 O_63 a_66 a_67 k_68 (((([] : List Int32) ++ ss) ++ [(46 : Int32)]) ++ ts) (n1 + (1 : Int32)) n2 (0 : Int32) (chv t0 (0 : Int32)) F_71 (ask_t tx1 tx2).1 []) (hw _ (List.mem_of_getElem? (i := 197) rfl)) (hw _ (List.mem_of_getElem? (i := 3) rfl)) (by decide) (by decide)) rfl (by rw [hml]; rfl) (lenOf pd__28_Ljava_2f_lang_2f_String_3b_IIIC_29_Z rfl) rfl (by show 2 * 0 + _ ≤ _; exact Nat.le_of_eq rfl) (hb hby at_197) (by decide) (by decide) ?_
  intro v_131 h_132 bk_133 O_134 z_135 Q_136
  obtain ⟨rfl, rfl, rfl⟩ := Q_136
  show Run p l e _ s m _ below meth c Z EL1 _ n0 bk_62 h_61 19 73 (mkF m 200 #[.val (.int s0), .val (.int sl), .val (.int t0), .val (.int tl), .val (.int n1), .val (.int n2), .val (.ref a_7), .val (.ref a_23), .val (.ref a_66), .val (.int (1 : Int32))] [(.int (1 : Int32))]) _
  refine k_pure (g' := (mkF m 203 #[.val (.int s0), .val (.int sl), .val (.int t0), .val (.int tl), .val (.int n1), .val (.int n2), .val (.ref a_7), .val (.ref a_23), .val (.ref a_66), .val (.int (1 : Int32))] [])) (fun TT HH tt kk => XS.ifNo HH hx rfl (hb hby at_200) rfl ((if0 _ _).trans (feq (by decide : ¬ ((1 : Int32) = (0 : Int32)))).1) kk) ?_
  refine k_pure (g' := (mkF m 204 #[.val (.int s0), .val (.int sl), .val (.int t0), .val (.int tl), .val (.int n1), .val (.int n2), .val (.ref a_7), .val (.ref a_23), .val (.ref a_66), .val (.int (1 : Int32))] [(.int (1 : Int32))])) (fun TT HH tt kk => XS.iconst HH hx rfl (hb hby at_203) kk) ?_
  refine k_pure (g' := (mkF m 208 #[.val (.int s0), .val (.int sl), .val (.int t0), .val (.int tl), .val (.int n1), .val (.int n2), .val (.ref a_7), .val (.ref a_23), .val (.ref a_66), .val (.int (1 : Int32))] [(.int (1 : Int32))])) (fun TT HH tt kk => XS.goto HH hx rfl (pc0 := 204) (pc' := 208) rfl (hb hby at_204) (by decide) (by decide) kk) ?_
  refine k_pure (g' := (mkF m 210 #[.val (.int s0), .val (.int sl), .val (.int t0), .val (.int tl), .val (.int n1), .val (.int n2), .val (.ref a_7), .val (.ref a_23), .val (.ref a_66), .val (.int (1 : Int32))] [])) (fun TT HH tt kk => XS.istore HH hx rfl (hb hby at_208) rfl (l' := #[.val (.int s0), .val (.int sl), .val (.int t0), .val (.int tl), .val (.int n1), .val (.int n2), .val (.ref a_7), .val (.ref a_23), .val (.ref a_66), .val (.int (1 : Int32))]) rfl kk) ?_
  refine k_pure (g' := (mkF m 212 #[.val (.int s0), .val (.int sl), .val (.int t0), .val (.int tl), .val (.int n1), .val (.int n2), .val (.ref a_7), .val (.ref a_23), .val (.ref a_66), .val (.int (1 : Int32))] [(.int (1 : Int32))])) (fun TT HH tt kk => XS.iload HH hx rfl (hb hby at_210) rfl kk) ?_
  refine k_pure (g' := (mkF m 215 #[.val (.int s0), .val (.int sl), .val (.int t0), .val (.int tl), .val (.int n1), .val (.int n2), .val (.ref a_7), .val (.ref a_23), .val (.ref a_66), .val (.int (1 : Int32))] [])) (fun TT HH tt kk => XS.ifNo HH hx rfl (hb hby at_212) rfl ((if0 _ _).trans (feq (by decide : ¬ ((1 : Int32) = (0 : Int32)))).1) kk) ?_
  refine k_pure (g' := (mkF m 217 #[.val (.int s0), .val (.int sl), .val (.int t0), .val (.int tl), .val (.int n1), .val (.int n2), .val (.ref a_7), .val (.ref a_23), .val (.ref a_66), .val (.int (1 : Int32))] [(.ref a_66)])) (fun TT HH tt kk => XS.aload HH hx rfl (hb hby at_215) rfl rfl kk) ?_
  refine k_pure (g' := (mkF m 219 #[.val (.int s0), .val (.int sl), .val (.int t0), .val (.int tl), .val (.int n1), .val (.int n2), .val (.ref a_7), .val (.ref a_23), .val (.ref a_66), .val (.int (1 : Int32))] [(.int n1), (.ref a_66)])) (fun TT HH tt kk => XS.iload HH hx rfl (hb hby at_217) rfl kk) ?_
  refine k_pure (g' := (mkF m 220 #[.val (.int s0), .val (.int sl), .val (.int t0), .val (.int tl), .val (.int n1), .val (.int n2), .val (.ref a_7), .val (.ref a_23), .val (.ref a_66), .val (.int (1 : Int32))] [(.int (1 : Int32)), (.int n1), (.ref a_66)])) (fun TT HH tt kk => XS.iconst HH hx rfl (hb hby at_219) kk) ?_
  refine k_pure (g' := (mkF m 221 #[.val (.int s0), .val (.int sl), .val (.int t0), .val (.int tl), .val (.int n1), .val (.int n2), .val (.ref a_7), .val (.ref a_23), .val (.ref a_66), .val (.int (1 : Int32))] [(.int (n1 + (1 : Int32))), (.ref a_66)])) (fun TT HH tt kk => XS.iadd HH hx rfl (hb hby at_220) rfl kk) ?_
  refine k_pure (g' := (mkF m 223 #[.val (.int s0), .val (.int sl), .val (.int t0), .val (.int tl), .val (.int n1), .val (.int n2), .val (.ref a_7), .val (.ref a_23), .val (.ref a_66), .val (.int (1 : Int32))] [(.int n2), (.int (n1 + (1 : Int32))), (.ref a_66)])) (fun TT HH tt kk => XS.iload HH hx rfl (hb hby at_221) rfl kk) ?_
  refine k_pure (g' := (mkF m 224 #[.val (.int s0), .val (.int sl), .val (.int t0), .val (.int tl), .val (.int n1), .val (.int n2), .val (.ref a_7), .val (.ref a_23), .val (.ref a_66), .val (.int (1 : Int32))] [(.int (1 : Int32)), (.int n2), (.int (n1 + (1 : Int32))), (.ref a_66)])) (fun TT HH tt kk => XS.iconst HH hx rfl (hb hby at_223) kk) ?_
  refine k_pure (g' := (mkF m 225 #[.val (.int s0), .val (.int sl), .val (.int t0), .val (.int tl), .val (.int n1), .val (.int n2), .val (.ref a_7), .val (.ref a_23), .val (.ref a_66), .val (.int (1 : Int32))] [(.int t0), (.int (1 : Int32)), (.int n2), (.int (n1 + (1 : Int32))), (.ref a_66)])) (fun TT HH tt kk => XS.iloadN HH hx rfl (hb hby at_224) rfl kk) ?_
  refine k_pure (g' := (mkF m 226 #[.val (.int s0), .val (.int sl), .val (.int t0), .val (.int tl), .val (.int n1), .val (.int n2), .val (.ref a_7), .val (.ref a_23), .val (.ref a_66), .val (.int (1 : Int32))] [(.int (1 : Int32)), (.int t0), (.int (1 : Int32)), (.int n2), (.int (n1 + (1 : Int32))), (.ref a_66)])) (fun TT HH tt kk => XS.iconst HH hx rfl (hb hby at_225) kk) ?_
  refine k_callS hx (y := (⟨"com/example/tideline/tideline/TableNameToStringPinLaw", "ch", "(II)C"⟩ : MethodName)) (hw _ (List.mem_of_getElem? (i := 9) rfl)) (hw _ (List.mem_of_getElem? (i := 10) rfl)) (hw _ (List.mem_of_getElem? (i := 3) rfl)) (hw _ (List.mem_of_getElem? (i := 11) rfl)) (by decide) (W := 4) (argsL := [(.int t0), (.int (1 : Int32))]) (rest := [(.int (1 : Int32)), (.int n2), (.int (n1 + (1 : Int32))), (.ref a_66)]) (Pays.of_met (rm_chc l Z a0 G1 G3 hX n0 bk_62 h_61 O_63 t0 (1 : Int32)  []) (hw _ (List.mem_of_getElem? (i := 11) rfl)) (hw _ (List.mem_of_getElem? (i := 3) rfl)) (by decide) (by decide)) rfl (by rw [hml]; rfl) (lenOf pd__28_II_29_C rfl) rfl (by show 2 * 0 + _ ≤ _; exact Nat.le_of_eq rfl) (hb hby at_226) (by decide) (by decide) ?_
  intro v_137 h_138 bk_139 O_140 z_141 Q_142
  obtain ⟨rfl, rfl, rfl⟩ := Q_142
  show Run p l e _ s m _ below meth c Z EL1 _ n0 bk_62 h_61 19 73 (mkF m 229 #[.val (.int s0), .val (.int sl), .val (.int t0), .val (.int tl), .val (.int n1), .val (.int n2), .val (.ref a_7), .val (.ref a_23), .val (.ref a_66), .val (.int (1 : Int32))] [(.int (chv t0 (1 : Int32))), (.int (1 : Int32)), (.int n2), (.int (n1 + (1 : Int32))), (.ref a_66)]) _
  refine k_callS hx (y := (⟨"com/example/tideline/tideline/TableNameToStringPinLaw", "at", "(Ljava/lang/String;IIIC)Z"⟩ : MethodName)) (hw _ (List.mem_of_getElem? (i := 195) rfl)) (hw _ (List.mem_of_getElem? (i := 196) rfl)) (hw _ (List.mem_of_getElem? (i := 3) rfl)) (hw _ (List.mem_of_getElem? (i := 197) rfl)) (by decide) (W := 0) (argsL := [(.ref a_66), (.int (n1 + (1 : Int32))), (.int n2), (.int (1 : Int32)), (.int (chv t0 (1 : Int32)))]) (rest := []) (Pays.of_met (rm_at l Z a0 G1 G3 hX n0 bk_62 h_61 O_63 a_66 a_67 k_68 (((([] : List Int32) ++ ss) ++ [(46 : Int32)]) ++ ts) (n1 + (1 : Int32)) n2 (1 : Int32) (chv t0 (1 : Int32)) F_71 (ask_t tx1 tx2).2.1 []) (hw _ (List.mem_of_getElem? (i := 197) rfl)) (hw _ (List.mem_of_getElem? (i := 3) rfl)) (by decide) (by decide)) rfl (by rw [hml]; rfl) (lenOf pd__28_Ljava_2f_lang_2f_String_3b_IIIC_29_Z rfl) rfl (by show 2 * 0 + _ ≤ _; exact Nat.le_of_eq rfl) (hb hby at_229) (by decide) (by decide) ?_
  intro v_143 h_144 bk_145 O_146 z_147 Q_148
  obtain ⟨rfl, rfl, rfl⟩ := Q_148
  show Run p l e _ s m _ below meth c Z EL1 _ n0 bk_62 h_61 19 73 (mkF m 232 #[.val (.int s0), .val (.int sl), .val (.int t0), .val (.int tl), .val (.int n1), .val (.int n2), .val (.ref a_7), .val (.ref a_23), .val (.ref a_66), .val (.int (1 : Int32))] [(.int (1 : Int32))]) _
  refine k_pure (g' := (mkF m 235 #[.val (.int s0), .val (.int sl), .val (.int t0), .val (.int tl), .val (.int n1), .val (.int n2), .val (.ref a_7), .val (.ref a_23), .val (.ref a_66), .val (.int (1 : Int32))] [])) (fun TT HH tt kk => XS.ifNo HH hx rfl (hb hby at_232) rfl ((if0 _ _).trans (feq (by decide : ¬ ((1 : Int32) = (0 : Int32)))).1) kk) ?_
  refine k_pure (g' := (mkF m 236 #[.val (.int s0), .val (.int sl), .val (.int t0), .val (.int tl), .val (.int n1), .val (.int n2), .val (.ref a_7), .val (.ref a_23), .val (.ref a_66), .val (.int (1 : Int32))] [(.int (1 : Int32))])) (fun TT HH tt kk => XS.iconst HH hx rfl (hb hby at_235) kk) ?_
  refine k_pure (g' := (mkF m 240 #[.val (.int s0), .val (.int sl), .val (.int t0), .val (.int tl), .val (.int n1), .val (.int n2), .val (.ref a_7), .val (.ref a_23), .val (.ref a_66), .val (.int (1 : Int32))] [(.int (1 : Int32))])) (fun TT HH tt kk => XS.goto HH hx rfl (pc0 := 236) (pc' := 240) rfl (hb hby at_236) (by decide) (by decide) kk) ?_
  refine k_pure (g' := (mkF m 242 #[.val (.int s0), .val (.int sl), .val (.int t0), .val (.int tl), .val (.int n1), .val (.int n2), .val (.ref a_7), .val (.ref a_23), .val (.ref a_66), .val (.int (1 : Int32))] [])) (fun TT HH tt kk => XS.istore HH hx rfl (hb hby at_240) rfl (l' := #[.val (.int s0), .val (.int sl), .val (.int t0), .val (.int tl), .val (.int n1), .val (.int n2), .val (.ref a_7), .val (.ref a_23), .val (.ref a_66), .val (.int (1 : Int32))]) rfl kk) ?_
  refine k_pure (g' := (mkF m 244 #[.val (.int s0), .val (.int sl), .val (.int t0), .val (.int tl), .val (.int n1), .val (.int n2), .val (.ref a_7), .val (.ref a_23), .val (.ref a_66), .val (.int (1 : Int32))] [(.int (1 : Int32))])) (fun TT HH tt kk => XS.iload HH hx rfl (hb hby at_242) rfl kk) ?_
  refine k_pure (g' := (mkF m 247 #[.val (.int s0), .val (.int sl), .val (.int t0), .val (.int tl), .val (.int n1), .val (.int n2), .val (.ref a_7), .val (.ref a_23), .val (.ref a_66), .val (.int (1 : Int32))] [])) (fun TT HH tt kk => XS.ifNo HH hx rfl (hb hby at_244) rfl ((if0 _ _).trans (feq (by decide : ¬ ((1 : Int32) = (0 : Int32)))).1) kk) ?_
  refine k_pure (g' := (mkF m 249 #[.val (.int s0), .val (.int sl), .val (.int t0), .val (.int tl), .val (.int n1), .val (.int n2), .val (.ref a_7), .val (.ref a_23), .val (.ref a_66), .val (.int (1 : Int32))] [(.ref a_66)])) (fun TT HH tt kk => XS.aload HH hx rfl (hb hby at_247) rfl rfl kk) ?_
  refine k_pure (g' := (mkF m 251 #[.val (.int s0), .val (.int sl), .val (.int t0), .val (.int tl), .val (.int n1), .val (.int n2), .val (.ref a_7), .val (.ref a_23), .val (.ref a_66), .val (.int (1 : Int32))] [(.int n1), (.ref a_66)])) (fun TT HH tt kk => XS.iload HH hx rfl (hb hby at_249) rfl kk) ?_
  refine k_pure (g' := (mkF m 252 #[.val (.int s0), .val (.int sl), .val (.int t0), .val (.int tl), .val (.int n1), .val (.int n2), .val (.ref a_7), .val (.ref a_23), .val (.ref a_66), .val (.int (1 : Int32))] [(.int (1 : Int32)), (.int n1), (.ref a_66)])) (fun TT HH tt kk => XS.iconst HH hx rfl (hb hby at_251) kk) ?_
  refine k_pure (g' := (mkF m 253 #[.val (.int s0), .val (.int sl), .val (.int t0), .val (.int tl), .val (.int n1), .val (.int n2), .val (.ref a_7), .val (.ref a_23), .val (.ref a_66), .val (.int (1 : Int32))] [(.int (n1 + (1 : Int32))), (.ref a_66)])) (fun TT HH tt kk => XS.iadd HH hx rfl (hb hby at_252) rfl kk) ?_
  refine k_pure (g' := (mkF m 255 #[.val (.int s0), .val (.int sl), .val (.int t0), .val (.int tl), .val (.int n1), .val (.int n2), .val (.ref a_7), .val (.ref a_23), .val (.ref a_66), .val (.int (1 : Int32))] [(.int n2), (.int (n1 + (1 : Int32))), (.ref a_66)])) (fun TT HH tt kk => XS.iload HH hx rfl (hb hby at_253) rfl kk) ?_
  refine k_pure (g' := (mkF m 256 #[.val (.int s0), .val (.int sl), .val (.int t0), .val (.int tl), .val (.int n1), .val (.int n2), .val (.ref a_7), .val (.ref a_23), .val (.ref a_66), .val (.int (1 : Int32))] [(.int (2 : Int32)), (.int n2), (.int (n1 + (1 : Int32))), (.ref a_66)])) (fun TT HH tt kk => XS.iconst HH hx rfl (hb hby at_255) kk) ?_
  refine k_pure (g' := (mkF m 257 #[.val (.int s0), .val (.int sl), .val (.int t0), .val (.int tl), .val (.int n1), .val (.int n2), .val (.ref a_7), .val (.ref a_23), .val (.ref a_66), .val (.int (1 : Int32))] [(.int t0), (.int (2 : Int32)), (.int n2), (.int (n1 + (1 : Int32))), (.ref a_66)])) (fun TT HH tt kk => XS.iloadN HH hx rfl (hb hby at_256) rfl kk) ?_
  refine k_pure (g' := (mkF m 258 #[.val (.int s0), .val (.int sl), .val (.int t0), .val (.int tl), .val (.int n1), .val (.int n2), .val (.ref a_7), .val (.ref a_23), .val (.ref a_66), .val (.int (1 : Int32))] [(.int (2 : Int32)), (.int t0), (.int (2 : Int32)), (.int n2), (.int (n1 + (1 : Int32))), (.ref a_66)])) (fun TT HH tt kk => XS.iconst HH hx rfl (hb hby at_257) kk) ?_
  refine k_callS hx (y := (⟨"com/example/tideline/tideline/TableNameToStringPinLaw", "ch", "(II)C"⟩ : MethodName)) (hw _ (List.mem_of_getElem? (i := 9) rfl)) (hw _ (List.mem_of_getElem? (i := 10) rfl)) (hw _ (List.mem_of_getElem? (i := 3) rfl)) (hw _ (List.mem_of_getElem? (i := 11) rfl)) (by decide) (W := 4) (argsL := [(.int t0), (.int (2 : Int32))]) (rest := [(.int (2 : Int32)), (.int n2), (.int (n1 + (1 : Int32))), (.ref a_66)]) (Pays.of_met (rm_chc l Z a0 G1 G3 hX n0 bk_62 h_61 O_63 t0 (2 : Int32)  []) (hw _ (List.mem_of_getElem? (i := 11) rfl)) (hw _ (List.mem_of_getElem? (i := 3) rfl)) (by decide) (by decide)) rfl (by rw [hml]; rfl) (lenOf pd__28_II_29_C rfl) rfl (by show 2 * 0 + _ ≤ _; exact Nat.le_of_eq rfl) (hb hby at_258) (by decide) (by decide) ?_
  intro v_149 h_150 bk_151 O_152 z_153 Q_154
  obtain ⟨rfl, rfl, rfl⟩ := Q_154
  show Run p l e _ s m _ below meth c Z EL1 _ n0 bk_62 h_61 19 73 (mkF m 261 #[.val (.int s0), .val (.int sl), .val (.int t0), .val (.int tl), .val (.int n1), .val (.int n2), .val (.ref a_7), .val (.ref a_23), .val (.ref a_66), .val (.int (1 : Int32))] [(.int (chv t0 (2 : Int32))), (.int (2 : Int32)), (.int n2), (.int (n1 + (1 : Int32))), (.ref a_66)]) _
  refine k_callS hx (y := (⟨"com/example/tideline/tideline/TableNameToStringPinLaw", "at", "(Ljava/lang/String;IIIC)Z"⟩ : MethodName)) (hw _ (List.mem_of_getElem? (i := 195) rfl)) (hw _ (List.mem_of_getElem? (i := 196) rfl)) (hw _ (List.mem_of_getElem? (i := 3) rfl)) (hw _ (List.mem_of_getElem? (i := 197) rfl)) (by decide) (W := 0) (argsL := [(.ref a_66), (.int (n1 + (1 : Int32))), (.int n2), (.int (2 : Int32)), (.int (chv t0 (2 : Int32)))]) (rest := []) (Pays.of_met (rm_at l Z a0 G1 G3 hX n0 bk_62 h_61 O_63 a_66 a_67 k_68 (((([] : List Int32) ++ ss) ++ [(46 : Int32)]) ++ ts) (n1 + (1 : Int32)) n2 (2 : Int32) (chv t0 (2 : Int32)) F_71 (ask_t tx1 tx2).2.2 []) (hw _ (List.mem_of_getElem? (i := 197) rfl)) (hw _ (List.mem_of_getElem? (i := 3) rfl)) (by decide) (by decide)) rfl (by rw [hml]; rfl) (lenOf pd__28_Ljava_2f_lang_2f_String_3b_IIIC_29_Z rfl) rfl (by show 2 * 0 + _ ≤ _; exact Nat.le_of_eq rfl) (hb hby at_261) (by decide) (by decide) ?_
  intro v_155 h_156 bk_157 O_158 z_159 Q_160
  obtain ⟨rfl, rfl, rfl⟩ := Q_160
  show Run p l e _ s m _ below meth c Z EL1 _ n0 bk_62 h_61 19 73 (mkF m 264 #[.val (.int s0), .val (.int sl), .val (.int t0), .val (.int tl), .val (.int n1), .val (.int n2), .val (.ref a_7), .val (.ref a_23), .val (.ref a_66), .val (.int (1 : Int32))] [(.int (1 : Int32))]) _
  refine k_pure (g' := (mkF m 267 #[.val (.int s0), .val (.int sl), .val (.int t0), .val (.int tl), .val (.int n1), .val (.int n2), .val (.ref a_7), .val (.ref a_23), .val (.ref a_66), .val (.int (1 : Int32))] [])) (fun TT HH tt kk => XS.ifNo HH hx rfl (hb hby at_264) rfl ((if0 _ _).trans (feq (by decide : ¬ ((1 : Int32) = (0 : Int32)))).1) kk) ?_
  refine k_pure (g' := (mkF m 268 #[.val (.int s0), .val (.int sl), .val (.int t0), .val (.int tl), .val (.int n1), .val (.int n2), .val (.ref a_7), .val (.ref a_23), .val (.ref a_66), .val (.int (1 : Int32))] [(.int (1 : Int32))])) (fun TT HH tt kk => XS.iconst HH hx rfl (hb hby at_267) kk) ?_
  refine k_pure (g' := (mkF m 272 #[.val (.int s0), .val (.int sl), .val (.int t0), .val (.int tl), .val (.int n1), .val (.int n2), .val (.ref a_7), .val (.ref a_23), .val (.ref a_66), .val (.int (1 : Int32))] [(.int (1 : Int32))])) (fun TT HH tt kk => XS.goto HH hx rfl (pc0 := 268) (pc' := 272) rfl (hb hby at_268) (by decide) (by decide) kk) ?_
  refine k_pure (g' := (mkF m 274 #[.val (.int s0), .val (.int sl), .val (.int t0), .val (.int tl), .val (.int n1), .val (.int n2), .val (.ref a_7), .val (.ref a_23), .val (.ref a_66), .val (.int (1 : Int32))] [])) (fun TT HH tt kk => XS.istore HH hx rfl (hb hby at_272) rfl (l' := #[.val (.int s0), .val (.int sl), .val (.int t0), .val (.int tl), .val (.int n1), .val (.int n2), .val (.ref a_7), .val (.ref a_23), .val (.ref a_66), .val (.int (1 : Int32))]) rfl kk) ?_
  refine k_pure (g' := (mkF m 276 #[.val (.int s0), .val (.int sl), .val (.int t0), .val (.int tl), .val (.int n1), .val (.int n2), .val (.ref a_7), .val (.ref a_23), .val (.ref a_66), .val (.int (1 : Int32))] [(.int (1 : Int32))])) (fun TT HH tt kk => XS.iload HH hx rfl (hb hby at_274) rfl kk) ?_
  exact k_retN hx hlk hret (by simp) (hb hby at_276) (by decide) (by decide) ⟨rfl, (fun y q => (hbs_74 y q).imp id (fun t => ⟨t.1, Nat.lt_of_lt_of_le t.2 (by omega)⟩)), ((((((Keep.refl _ _).trans K_11 kk0).trans K_27 kk0).ext E_36).trans K_50 (kkS (Or.inr (by omega)) kk0)).trans K_70 kk0)⟩
set_option maxRecDepth 65536 in
set_option maxHeartbeats 40000000 in
theorem comes_1 {Post : Tables → Env → Array Value → State → Outcome → State → Prop} (hpost : ∀ tb e args s v u, (limb_1_1.after args s (.returned v) u = true ∧ limb_1_2.after args s (.returned v) u = true ∧ True) → FramedW s (.returned v) u (Jvm.fieldLocs frame_1_writes args s ++ Jvm.arrayLocs frame_1_arrays args s ++ Jvm.staticLocs frame_1_statics s) 40 2240 → Post tb e args s (.returned v) u) :
    ArmFor flags0 classFile x code maxLocals ret World_1 tables_1 room_1 Calls_1 rest_1 Pre_1 Post := by
  intro l hfl _ _ p e ha hc hk s m args below hf hA hF happ hP
  obtain ⟨hcalls, hrest, hpre⟩ := hP
  obtain ⟨-, -, -, hnamed, -, -, -, hat⟩ := (Spec.applies_iff hf).mp happ
  obtain ⟨hg, hn⟩ := and_e (Cond.before_iff.mp (show (Jvm.Cond.and given_1 narrow_1).before args s = true from hpre))
  obtain ⟨q0, r0⟩ := and_e hg
  obtain ⟨q1, r1⟩ := and_e r0
  obtain ⟨q2, r2⟩ := and_e r1
  obtain ⟨q3, r3⟩ := and_e r2
  obtain ⟨w0, w1, w2, w3, rfl⟩ : ∃ w0 w1 w2 w3 : Value, args = #[w0, w1, w2, w3] := by
    have hs : args.size = 4 := by simpa [Cond.value, given_1] using q0
    obtain ⟨L⟩ := args
    match L, hs with
    | [w0, w1, w2, w3], _ => exact ⟨w0, w1, w2, w3, rfl⟩
  have hw := fun d (hd : d ∈ tables_1) => atoms_spec (ws := Jvm.Cond.code x code maxLocals ret :: tables_1) hat d (List.mem_cons_of_mem _ hd)
  obtain ⟨hsets, hown0⟩ := atoms_of _ (rest_1_c_eq ▸ (show rest_1_c.before _ s = true from hrest))
  obtain ⟨i0, e0⟩ := is_v q1
  obtain rfl : w0 = (.int i0) := Option.some.inj e0
  obtain ⟨i1, e1⟩ := is_v q2
  obtain rfl : w1 = (.int i1) := Option.some.inj e1
  obtain ⟨i2, e2⟩ := is_v q3
  obtain rfl : w2 = (.int i2) := Option.some.inj e2
  obtain ⟨i3, e3⟩ := is_v r3
  obtain rfl : w3 = (.int i3) := Option.some.inj e3
  obtain ⟨G1, eG1⟩ := is_v (Cond.before_iff.mp (hsets _ (List.mem_of_getElem? (i := 1) rfl)))
  have S1 : Sta s s.heap "java/lang/String" "COMPACT_STRINGS" "Z" (.int G1) := Sta.start eG1 (Or.inl (hsets _ (List.mem_of_getElem? (i := 0) rfl)))
  have P1 : ¬ (G1 = (0 : Int32)) := gotF (Cond.eq_ints eG1 (Term.int_eval (0))) (not_v (Cond.before_iff.mp (hsets _ (List.mem_of_getElem? (i := 2) rfl))))
  obtain ⟨G3, eG3, P3⟩ := isR_v (Cond.before_iff.mp (hsets _ (List.mem_of_getElem? (i := 8) rfl)))
  have S3 : Sta s s.heap "jdk/internal/util/Preconditions" "SIOOBE_FORMATTER" "Ljava/util/function/BiFunction;" G3 := Sta.start eG3 (Or.inl (hsets _ (List.mem_of_getElem? (i := 7) rfl)))
  have hE : EW s #[(.int i0), (.int i1), (.int i2), (.int i3)] EL1 := (EW.cons (hw _ (List.mem_of_getElem? (i := 124) rfl)) (by decide +kernel) (EW.cons (hw _ (List.mem_of_getElem? (i := 198) rfl)) (by decide +kernel) EW.nil))
  have hCH : CHv s EL1 s.vm s.heap := CHv.start hE (fun p hp => hcalls.1 p ((by decide +kernel : ∀ p ∈ EL1, p ∈ consts_1) p hp)) (hsets _ (List.mem_of_getElem? (i := 2) rfl)) (hw _ (List.mem_of_getElem? (i := 27) rfl)) (hw _ (List.mem_of_getElem? (i := 6) rfl))
  have hX : Ctx s _ G1 G3 := ⟨hw, hE, S1, P1, S3, P3⟩
  obtain ⟨n, o, h1, h2, h3, v, L, bk', rfl, ⟨⟨rfl, -⟩, N, -⟩, hq⟩ := rm_law l s _ G1 G3 hX s.heap.size (Bk s EL1 s.vm s.heap) s.heap (Old.start s) i0 i1 i2 i3 (fun y q => (Array.getElem?_eq_some_iff.mp (Bk.there q).choose_spec).1) tables_1 p e ha hc hk s m _ below hf ((Spec.applies_iff_loose hf).mp happ).1 ⟨rfl, State.Warmed39.refl s, rfl, hCH, (fun _ q => q)⟩ trivial
  refine ⟨n, _, h1, h2, h3, hpost _ _ _ _ _ _ ⟨Cond.after_iff.mpr rfl, Cond.after_iff.mpr (eq_i res_at (Term.int_eval (1)) rfl), trivial⟩ ⟨hq.1, hq.2.1, hq.2.2.1, (hq.2.2.2.sift fun y hy => Or.inr (N y hy)).mono (by decide) (by decide)⟩⟩
theorem main_1_1 : Claimed_1_1 := comes_1 fun _ _ _ _ _ _ h hF => ⟨h.1, hF⟩
theorem main_1_2 : Claimed_1_2 := comes_1 fun _ _ _ _ _ _ h hF => ⟨h.2.1, hF⟩
end Jvm.Pilot.@@N@@
namespace Jvm.Pilot.@@N@@
open Jvm Jvm.ClassFile Sem Op Lib Jvm.Free Jvm.Stand Jvm.Pilot.@@N@@.Jvm.D
/-! MADE BY PROGRAM (witnessworld.py) out of the Statement's table words and the real class files: 27 classes; the members and pool entries that the words name. The judged class is class 1, her method 4. -/
namespace start1
open Jvm.ClassFile
def u (s : String) : CpInfo := .utf8 (stringToUtf16 s)
/-- a pool by its gaps: so many unusable entries, then the entry; so many at the end -/
def gap : Nat → List CpInfo → List CpInfo
  | 0, r => r
  | n + 1, r => .unusable :: gap n r
def poolList (es : List (Nat × CpInfo)) (last : Nat) : List CpInfo := es.foldr (fun e r => gap e.1 (e.2 :: r)) (gap last [])
def pool (es : List (Nat × CpInfo)) (last : Nat) : Array CpInfo := ⟨poolList es last⟩
def fileOf (pool : Array CpInfo) (this : Nat) (attrs : Array Attribute := #[]) (ms : Array MethodInfo := #[]) (fl : Nat := 33) (sup : Nat := 0) (ifs : Array Nat := #[]) (fds : Array FieldInfo := #[]) : ClassFile where
  minorVersion := 0
  majorVersion := 65
  constantPool := pool
  accessFlags := fl
  thisClass := this
  superClass := sup
  interfaces := ifs
  fields := fds
  methods := ms
  attributes := attrs
def plain (name : String) (sup : Option ClassId) : Class where
  name := name
  kind := .ordinary
  loader := none
  accessFlags := 33
  super := sup
  interfaces := #[]
  cf := none
  fields := #[]
  methods := #[]
  instanceTypes := #[]
  staticTypes := #[]
  resolved := #[]
  callSites := []
  init := .initialized
  statics := none
  mirror := none

def pool0 : Array CpInfo := pool [(5, u "<init>"), (0, u "()V"), (1, .class_ 10), (1, u "java/lang/Object")] 113

def k0c0 : Code := { maxStack := 0, maxLocals := 1, code := object_method_1_code, exceptionTable := #[], attributes := #[] }
def k0m0 : Method := { name := "<init>", desc := "()V", sig := { parameters := [], returnType := none }, accessFlags := 1, code := some k0c0 }
/-- java/lang/Object -/
def k0 : Class := { plain "java/lang/Object" none with
  accessFlags := 33
  interfaces := #[]
  cf := some (fileOf pool0 8 #[] #[{ accessFlags := 1, nameIndex := 5, descriptorIndex := 6, attributes := #[] }] 33 0 #[] #[])
  fields := #[]
  methods := #[k0m0]
  instanceTypes := #[]
  staticTypes := #[]
  resolved := Array.replicate 124 none
  statics := none }

def pool1 : Array CpInfo := pool [(2, .class_ 4), (1, u "java/lang/Object"), (0, u "<init>"), (0, u "()V"), (0, .class_ 8), (0, u "java/lang/String"), (0, .methodref 7 10), (0, .nameAndType 5 11), (0, u "([C)V"), (0, .methodref 13 14), (0, .class_ 15), (0, .nameAndType 16 17), (0, u "com/example/tideline/tideline/TableNameToStringPinLaw"), (0, u "ch"), (0, u "(II)C"), (0, .methodref 7 19), (0, .nameAndType 20 21), (0, u "charAt"), (0, u "(I)C"), (0, .integer 2147483647), (0, .methodref 13 24), (0, .nameAndType 25 26), (0, u "mk"), (0, u "(II)Ljava/lang/String;"), (0, .class_ 28), (0, u "com/example/tideline/tideline/TableName"), (0, .methodref 27 30), (0, .nameAndType 5 31), (0, u "(Ljava/lang/String;Ljava/lang/String;)V"), (0, .methodref 27 33), (0, .nameAndType 34 35), (0, u "toString"), (0, u "()Ljava/lang/String;"), (0, .methodref 7 37), (0, .nameAndType 38 39), (0, u "length"), (0, u "()I"), (0, .methodref 13 41), (0, .nameAndType 42 43), (0, u "at"), (0, u "(Ljava/lang/String;IIIC)Z"), (3, u "law"), (0, u "(IIII)Z")] 2

def k1m0 : Method := { name := "<init>", desc := "()V", sig := { parameters := [], returnType := none }, accessFlags := 1, code := none }
def k1c1 : Code := { maxStack := 3, maxLocals := 2, code := method_2_code, exceptionTable := #[], attributes := #[] }
def k1m1 : Method := { name := "ch", desc := "(II)C", sig := { parameters := [.int, .int], returnType := some .char }, accessFlags := 10, code := some k1c1 }
def k1c2 : Code := { maxStack := 7, maxLocals := 2, code := method_3_code, exceptionTable := #[], attributes := #[] }
def k1m2 : Method := { name := "mk", desc := "(II)Ljava/lang/String;", sig := { parameters := [.int, .int], returnType := some (.object "java/lang/String") }, accessFlags := 10, code := some k1c2 }
def k1c3 : Code := { maxStack := 3, maxLocals := 5, code := method_4_code, exceptionTable := #[], attributes := #[] }
def k1m3 : Method := { name := "at", desc := "(Ljava/lang/String;IIIC)Z", sig := { parameters := [(.object "java/lang/String"), .int, .int, .int, .char], returnType := some .boolean }, accessFlags := 10, code := some k1c3 }
def k1c4 : Code := { maxStack := 6, maxLocals := 10, code := code, exceptionTable := #[], attributes := #[] }
def k1m4 : Method := { name := "law", desc := "(IIII)Z", sig := { parameters := [.int, .int, .int, .int], returnType := some .boolean }, accessFlags := 9, code := some k1c4 }
/-- com/example/tideline/tideline/TableNameToStringPinLaw -/
def k1 : Class := { plain "com/example/tideline/tideline/TableNameToStringPinLaw" (some 0) with
  accessFlags := 49
  interfaces := #[]
  cf := some (fileOf pool1 13 #[] #[{ accessFlags := 1, nameIndex := 5, descriptorIndex := 6, attributes := #[] }, { accessFlags := 10, nameIndex := 16, descriptorIndex := 17, attributes := #[] }, { accessFlags := 10, nameIndex := 25, descriptorIndex := 26, attributes := #[] }, { accessFlags := 10, nameIndex := 42, descriptorIndex := 43, attributes := #[] }, { accessFlags := 9, nameIndex := 47, descriptorIndex := 48, attributes := #[] }] 49 2 #[] #[])
  fields := #[]
  methods := #[k1m0, k1m1, k1m2, k1m3, k1m4]
  instanceTypes := #[]
  staticTypes := #[]
  resolved := Array.replicate 51 none
  statics := none }

def pool2 : Array CpInfo := pool [(1, .class_ 2), (0, u "java/io/Serializable"), (0, .class_ 4), (0, u "java/lang/Object")] 2

/-- java/io/Serializable -/
def k2 : Class := { plain "java/io/Serializable" (some 0) with
  accessFlags := 1537
  interfaces := #[]
  cf := some (fileOf pool2 1 #[] #[] 1537 3 #[] #[])
  fields := #[]
  methods := #[]
  instanceTypes := #[]
  staticTypes := #[]
  resolved := Array.replicate 7 none
  statics := none }

def pool3 : Array CpInfo := pool [(1, .class_ 2), (0, u "java/lang/Comparable"), (0, .class_ 4), (0, u "java/lang/Object")] 7

/-- java/lang/Comparable -/
def k3 : Class := { plain "java/lang/Comparable" (some 0) with
  accessFlags := 1537
  interfaces := #[]
  cf := some (fileOf pool3 1 #[] #[] 1537 3 #[] #[])
  fields := #[]
  methods := #[]
  instanceTypes := #[]
  staticTypes := #[]
  resolved := Array.replicate 12 none
  statics := none }

def pool4 : Array CpInfo := pool [(2, .class_ 4), (1, u "java/lang/CharSequence"), (42, .class_ 48), (0, u "java/lang/CharSequence$1CodePointIterator"), (10, .class_ 60), (0, u "java/lang/CharSequence$1CharIterator"), (5, .class_ 67), (0, u "java/lang/Object")] 63

/-- java/lang/CharSequence -/
def k4 : Class := { plain "java/lang/CharSequence" (some 0) with
  accessFlags := 1537
  interfaces := #[]
  cf := some (fileOf pool4 2 #[.nestMembers #[47, 59]] #[] 1537 66 #[] #[])
  fields := #[]
  methods := #[]
  instanceTypes := #[]
  staticTypes := #[]
  resolved := Array.replicate 131 none
  statics := none }

def pool5 : Array CpInfo := pool [(1, .class_ 2), (0, u "java/lang/constant/Constable"), (0, .class_ 4), (0, u "java/lang/Object")] 6

/-- java/lang/constant/Constable -/
def k5 : Class := { plain "java/lang/constant/Constable" (some 0) with
  accessFlags := 1537
  interfaces := #[]
  cf := some (fileOf pool5 1 #[] #[] 1537 3 #[] #[])
  fields := #[]
  methods := #[]
  instanceTypes := #[]
  staticTypes := #[]
  resolved := Array.replicate 11 none
  statics := none }

def pool6 : Array CpInfo := pool [(1, .class_ 2), (0, u "java/lang/constant/ConstantDesc"), (0, .class_ 4), (0, u "java/lang/Object")] 32

/-- java/lang/constant/ConstantDesc -/
def k6 : Class := { plain "java/lang/constant/ConstantDesc" (some 0) with
  accessFlags := 1537
  interfaces := #[]
  cf := some (fileOf pool6 1 #[] #[] 1537 3 #[] #[])
  fields := #[]
  methods := #[]
  instanceTypes := #[]
  staticTypes := #[]
  resolved := Array.replicate 37 none
  statics := none }

def pool7 : Array CpInfo := pool [(1, .methodref 2 3), (0, .class_ 4), (0, .nameAndType 5 6), (0, u "java/lang/Object"), (0, u "<init>"), (0, u "()V"), (0, .string 8), (0, u ""), (0, .fieldref 10 11), (0, .class_ 12), (0, .nameAndType 13 14), (0, u "java/lang/String"), (0, u "value"), (0, u "[B"), (0, .fieldref 10 16), (0, .nameAndType 17 18), (0, u "coder"), (0, u "B"), (2, u "hash"), (0, u "I"), (2, u "hashIsZero"), (0, u "Z"), (0, .methodref 10 28), (0, .nameAndType 5 29), (0, u "([CIILjava/lang/Void;)V"), (8, .fieldref 10 39), (0, .nameAndType 40 26), (0, u "COMPACT_STRINGS"), (1, .class_ 44), (1, u "java/lang/StringUTF16"), (0, u "compress"), (1, .methodref 42 48), (0, .nameAndType 49 50), (0, u "coderFromArrayLen"), (0, u "([BI)B"), (3, .methodref 55 56), (0, .class_ 57), (0, .nameAndType 58 59), (0, u "java/util/Arrays"), (0, u "copyOfRange"), (0, u "([BII)[B"), (47, .class_ 109), (1, u "java/lang/StringLatin1"), (32, u "()Z"), (34, .methodref 42 178), (0, .nameAndType 45 179), (0, u "([CII)[B"), (13, .class_ 195), (1, u "java/lang/System"), (16, .methodref 193 213), (0, .nameAndType 214 215), (0, u "arraycopy"), (0, u "(Ljava/lang/Object;ILjava/lang/Object;II)V"), (118, u "()I"), (0, .methodref 10 336), (0, .nameAndType 17 337), (0, u "()B"), (2, u "()[B"), (22, u "([BI)C"), (27, u "(II)V"), (35, u "(I)C"), (61, .methodref 10 490), (0, .nameAndType 5 491), (0, u "(Ljava/lang/AbstractStringBuilder;Ljava/lang/Void;)V"), (0, .methodref 10 493), (0, .nameAndType 494 142), (0, u "isLatin1"), (0, .methodref 107 496), (0, .nameAndType 497 363), (0, u "charAt"), (3, u "checkIndex"), (4, .nameAndType 507 334), (0, u "length"), (24, u "getBytes"), (16, .methodref 550 506), (0, .class_ 551), (0, u "java/lang/AbstractStringBuilder"), (0, .methodref 550 553), (0, .nameAndType 554 340), (0, u "getValue"), (20, .class_ 576), (0, u "java/lang/CharSequence"), (22, u "CASE_INSENSITIVE_ORDER"), (0, u "Ljava/util/Comparator;"), (220, u "([BIB)V"), (188, u "([C)V"), (36, .methodref 550 493), (5, .fieldref 1054 1055), (0, .class_ 1056), (0, .nameAndType 1057 1058), (0, u "jdk/internal/util/Preconditions"), (0, u "SIOOBE_FORMATTER"), (0, u "Ljava/util/function/BiFunction;"), (0, .methodref 1054 1060), (0, .nameAndType 501 1061), (0, u "(IILjava/util/function/BiFunction;)I"), (39, u "serialPersistentFields"), (0, u "[Ljava/io/ObjectStreamField;"), (0, .class_ 1104), (0, u "java/lang/String$CaseInsensitiveComparator"), (1, .class_ 1107), (0, u "java/io/Serializable"), (0, .class_ 1109), (0, u "java/lang/Comparable"), (0, .class_ 1111), (0, u "java/lang/constant/Constable"), (0, .class_ 1113), (0, u "java/lang/constant/ConstantDesc"), (2, u "serialVersionUID"), (0, u "J"), (3, u "REPL"), (0, u "C"), (2, u "LATIN1"), (1, u "UTF16"), (105, u "(Ljava/lang/StringBuilder;)V")] 217

def k7m0 : Method := { name := "<init>", desc := "()V", sig := { parameters := [], returnType := none }, accessFlags := 1, code := none }
def k7c1 : Code := { maxStack := 5, maxLocals := 2, code := jdk_42_method_3_code, exceptionTable := #[], attributes := #[] }
def k7m1 : Method := { name := "<init>", desc := "([C)V", sig := { parameters := [(.array .char)], returnType := none }, accessFlags := 1, code := some k7c1 }
def k7c2 : Code := { maxStack := 3, maxLocals := 2, code := jdk_42_method_53_code, exceptionTable := #[], attributes := #[] }
def k7m2 : Method := { name := "<init>", desc := "(Ljava/lang/StringBuilder;)V", sig := { parameters := [(.object "java/lang/StringBuilder")], returnType := none }, accessFlags := 1, code := some k7c2 }
def k7c3 : Code := { maxStack := 2, maxLocals := 1, code := jdk_42_method_54_code, exceptionTable := #[], attributes := #[] }
def k7m3 : Method := { name := "length", desc := "()I", sig := { parameters := [], returnType := some .int }, accessFlags := 1, code := some k7c3 }
def k7c4 : Code := { maxStack := 2, maxLocals := 2, code := jdk_42_method_56_code, exceptionTable := #[], attributes := #[] }
def k7m4 : Method := { name := "charAt", desc := "(I)C", sig := { parameters := [.int], returnType := some .char }, accessFlags := 1, code := some k7c4 }
def k7c5 : Code := { maxStack := 5, maxLocals := 4, code := jdk_42_method_147_code, exceptionTable := #[], attributes := #[] }
def k7m5 : Method := { name := "getBytes", desc := "([BIB)V", sig := { parameters := [(.array .byte), .int, .byte], returnType := none }, accessFlags := 0, code := some k7c5 }
def k7c6 : Code := { maxStack := 4, maxLocals := 6, code := jdk_42_method_149_code, exceptionTable := #[], attributes := #[] }
def k7m6 : Method := { name := "<init>", desc := "([CIILjava/lang/Void;)V", sig := { parameters := [(.array .char), .int, .int, (.object "java/lang/Void")], returnType := none }, accessFlags := 2, code := some k7c6 }
def k7c7 : Code := { maxStack := 5, maxLocals := 5, code := jdk_42_method_150_code, exceptionTable := #[], attributes := #[] }
def k7m7 : Method := { name := "<init>", desc := "(Ljava/lang/AbstractStringBuilder;Ljava/lang/Void;)V", sig := { parameters := [(.object "java/lang/AbstractStringBuilder"), (.object "java/lang/Void")], returnType := none }, accessFlags := 0, code := some k7c7 }
def k7c8 : Code := { maxStack := 1, maxLocals := 1, code := jdk_42_method_152_code, exceptionTable := #[], attributes := #[] }
def k7m8 : Method := { name := "coder", desc := "()B", sig := { parameters := [], returnType := some .byte }, accessFlags := 0, code := some k7c8 }
def k7c9 : Code := { maxStack := 1, maxLocals := 1, code := jdk_42_method_154_code, exceptionTable := #[], attributes := #[] }
def k7m9 : Method := { name := "isLatin1", desc := "()Z", sig := { parameters := [], returnType := some .boolean }, accessFlags := 0, code := some k7c9 }
def k7c10 : Code := { maxStack := 3, maxLocals := 2, code := jdk_42_method_155_code, exceptionTable := #[], attributes := #[] }
def k7m10 : Method := { name := "checkIndex", desc := "(II)V", sig := { parameters := [.int, .int], returnType := none }, accessFlags := 8, code := some k7c10 }
/-- java/lang/String -/
def k7 : Class := { plain "java/lang/String" (some 0) with
  accessFlags := 49
  interfaces := #[2, 3, 4, 5, 6]
  cf := some (fileOf pool7 10 #[.nestMembers #[1103]] #[{ accessFlags := 1, nameIndex := 5, descriptorIndex := 6, attributes := #[] }, { accessFlags := 1, nameIndex := 5, descriptorIndex := 1010, attributes := #[] }, { accessFlags := 1, nameIndex := 5, descriptorIndex := 1233, attributes := #[] }, { accessFlags := 1, nameIndex := 507, descriptorIndex := 334, attributes := #[] }, { accessFlags := 1, nameIndex := 497, descriptorIndex := 427, attributes := #[] }, { accessFlags := 0, nameIndex := 532, descriptorIndex := 821, attributes := #[] }, { accessFlags := 2, nameIndex := 5, descriptorIndex := 29, attributes := #[] }, { accessFlags := 0, nameIndex := 5, descriptorIndex := 491, attributes := #[] }, { accessFlags := 0, nameIndex := 17, descriptorIndex := 337, attributes := #[] }, { accessFlags := 0, nameIndex := 494, descriptorIndex := 142, attributes := #[] }, { accessFlags := 8, nameIndex := 501, descriptorIndex := 391, attributes := #[] }] 49 2 #[1106, 1108, 575, 1110, 1112] #[{ accessFlags := 18, nameIndex := 13, descriptorIndex := 14, attributes := #[] }, { accessFlags := 18, nameIndex := 17, descriptorIndex := 18, attributes := #[] }, { accessFlags := 2, nameIndex := 21, descriptorIndex := 22, attributes := #[] }, { accessFlags := 2, nameIndex := 25, descriptorIndex := 26, attributes := #[] }, { accessFlags := 26, nameIndex := 1116, descriptorIndex := 1117, attributes := #[] }, { accessFlags := 24, nameIndex := 40, descriptorIndex := 26, attributes := #[] }, { accessFlags := 26, nameIndex := 1101, descriptorIndex := 1102, attributes := #[] }, { accessFlags := 26, nameIndex := 1121, descriptorIndex := 1122, attributes := #[] }, { accessFlags := 25, nameIndex := 599, descriptorIndex := 600, attributes := #[] }, { accessFlags := 24, nameIndex := 1125, descriptorIndex := 18, attributes := #[] }, { accessFlags := 24, nameIndex := 1127, descriptorIndex := 18, attributes := #[] }])
  fields := #[{ name := "value", type := (.array .byte), accessFlags := 18, slot := 0, constantValue := 0 }, { name := "coder", type := .byte, accessFlags := 18, slot := 1, constantValue := 0 }, { name := "hash", type := .int, accessFlags := 2, slot := 2, constantValue := 0 }, { name := "hashIsZero", type := .boolean, accessFlags := 2, slot := 3, constantValue := 0 }, { name := "serialVersionUID", type := .long, accessFlags := 26, slot := 0, constantValue := 0 }, { name := "COMPACT_STRINGS", type := .boolean, accessFlags := 24, slot := 1, constantValue := 0 }, { name := "serialPersistentFields", type := (.array (.object "java/io/ObjectStreamField")), accessFlags := 26, slot := 2, constantValue := 0 }, { name := "REPL", type := .char, accessFlags := 26, slot := 3, constantValue := 0 }, { name := "CASE_INSENSITIVE_ORDER", type := (.object "java/util/Comparator"), accessFlags := 25, slot := 4, constantValue := 0 }, { name := "LATIN1", type := .byte, accessFlags := 24, slot := 5, constantValue := 0 }, { name := "UTF16", type := .byte, accessFlags := 24, slot := 6, constantValue := 0 }]
  methods := #[k7m0, k7m1, k7m2, k7m3, k7m4, k7m5, k7m6, k7m7, k7m8, k7m9, k7m10]
  instanceTypes := #[(.array .byte), .byte, .int, .boolean]
  staticTypes := #[.long, .boolean, (.array (.object "java/io/ObjectStreamField")), .char, (.object "java/util/Comparator"), .byte, .byte]
  resolved := Array.replicate 1451 none
  statics := some 0 }

def pool8 : Array CpInfo := pool [(6, .class_ 8), (1, u "java/lang/Object"), (0, u "<init>"), (0, u "()V"), (1, .class_ 14), (1, u "java/lang/StringUTF16"), (31, u "$assertionsDisabled"), (0, u "Z"), (13, u "HI_BYTE_SHIFT"), (0, u "I"), (2, u "LO_BYTE_SHIFT"), (49, .methodref 12 116), (0, .nameAndType 117 118), (0, u "compress"), (0, u "([CI[BII)I"), (3, u "([CII)[B"), (138, u "coderFromArrayLen"), (0, u "([BI)B"), (106, .class_ 371), (1, u "java/lang/StringUTF16$LinesSpliterator"), (58, u "MAX_LENGTH"), (196, .class_ 628), (0, u "java/lang/StringUTF16$CodePointsSpliterator"), (0, .class_ 630), (0, u "java/lang/StringUTF16$CharsSpliterator")] 4

def k8m0 : Method := { name := "<init>", desc := "()V", sig := { parameters := [], returnType := none }, accessFlags := 0, code := none }
def k8c1 : Code := { maxStack := 2, maxLocals := 2, code := jdk_52_method_15_code, exceptionTable := #[], attributes := #[] }
def k8m1 : Method := { name := "coderFromArrayLen", desc := "([BI)B", sig := { parameters := [(.array .byte), .int], returnType := some .byte }, accessFlags := 8, code := some k8c1 }
def k8c2 : Code := { maxStack := 5, maxLocals := 6, code := jdk_52_method_16_code, exceptionTable := #[], attributes := #[] }
def k8m2 : Method := { name := "compress", desc := "([CII)[B", sig := { parameters := [(.array .char), .int, .int], returnType := some (.array .byte) }, accessFlags := 9, code := some k8c2 }
def k8c3 : Code := { maxStack := 3, maxLocals := 7, code := jdk_52_method_21_code, exceptionTable := #[], attributes := #[] }
def k8m3 : Method := { name := "compress", desc := "([CI[BII)I", sig := { parameters := [(.array .char), .int, (.array .byte), .int, .int], returnType := some .int }, accessFlags := 9, code := some k8c3 }
/-- java/lang/StringUTF16 -/
def k8 : Class := { plain "java/lang/StringUTF16" (some 0) with
  accessFlags := 48
  interfaces := #[]
  cf := some (fileOf pool8 12 #[.nestMembers #[627, 629, 369]] #[{ accessFlags := 0, nameIndex := 9, descriptorIndex := 10, attributes := #[] }, { accessFlags := 8, nameIndex := 261, descriptorIndex := 262, attributes := #[] }, { accessFlags := 9, nameIndex := 117, descriptorIndex := 122, attributes := #[] }, { accessFlags := 9, nameIndex := 117, descriptorIndex := 118, attributes := #[] }] 48 6 #[] #[{ accessFlags := 26, nameIndex := 61, descriptorIndex := 62, attributes := #[] }, { accessFlags := 26, nameIndex := 65, descriptorIndex := 62, attributes := #[] }, { accessFlags := 24, nameIndex := 430, descriptorIndex := 62, attributes := #[] }, { accessFlags := 4120, nameIndex := 46, descriptorIndex := 47, attributes := #[] }])
  fields := #[{ name := "HI_BYTE_SHIFT", type := .int, accessFlags := 26, slot := 0, constantValue := 0 }, { name := "LO_BYTE_SHIFT", type := .int, accessFlags := 26, slot := 1, constantValue := 0 }, { name := "MAX_LENGTH", type := .int, accessFlags := 24, slot := 2, constantValue := 0 }, { name := "$assertionsDisabled", type := .boolean, accessFlags := 4120, slot := 3, constantValue := 0 }]
  methods := #[k8m0, k8m1, k8m2, k8m3]
  instanceTypes := #[]
  staticTypes := #[.int, .int, .int, .boolean]
  resolved := Array.replicate 635 none
  statics := none }

def pool9 : Array CpInfo := pool [(1, .methodref 2 3), (0, .class_ 4), (0, .nameAndType 5 6), (0, u "java/lang/Object"), (0, u "<init>"), (0, u "()V"), (0, .class_ 8), (0, u "java/lang/Record")] 13

def k9c0 : Code := { maxStack := 1, maxLocals := 1, code := jdk_30_method_1_code, exceptionTable := #[], attributes := #[] }
def k9m0 : Method := { name := "<init>", desc := "()V", sig := { parameters := [], returnType := none }, accessFlags := 4, code := some k9c0 }
/-- java/lang/Record -/
def k9 : Class := { plain "java/lang/Record" (some 0) with
  accessFlags := 1057
  interfaces := #[]
  cf := some (fileOf pool9 7 #[] #[{ accessFlags := 4, nameIndex := 5, descriptorIndex := 6, attributes := #[] }] 1057 2 #[] #[])
  fields := #[]
  methods := #[k9m0]
  instanceTypes := #[]
  staticTypes := #[]
  resolved := Array.replicate 22 none
  statics := none }

def pool10 : Array CpInfo := pool [(1, .methodref 2 3), (0, .class_ 4), (0, .nameAndType 5 6), (0, u "java/lang/Record"), (0, u "<init>"), (0, u "()V"), (0, .fieldref 8 9), (0, .class_ 10), (0, .nameAndType 11 12), (0, u "com/example/tideline/tideline/TableName"), (0, u "schema"), (0, u "Ljava/lang/String;"), (0, .fieldref 8 14), (0, .nameAndType 15 12), (0, u "table"), (15, .class_ 32), (0, u "java/lang/StringBuilder"), (0, .methodref 31 3), (2, .methodref 31 37), (0, .nameAndType 38 39), (0, u "append"), (0, u "(Ljava/lang/String;)Ljava/lang/StringBuilder;"), (2, .methodref 31 43), (0, .nameAndType 44 45), (0, u "toString"), (0, u "()Ljava/lang/String;"), (12, u "(Ljava/lang/String;Ljava/lang/String;)V"), (28, .string 88), (0, u ".")] 39

def k10c0 : Code := { maxStack := 2, maxLocals := 3, code := prog_34_method_1_code, exceptionTable := #[], attributes := #[] }
def k10m0 : Method := { name := "<init>", desc := "(Ljava/lang/String;Ljava/lang/String;)V", sig := { parameters := [(.object "java/lang/String"), (.object "java/lang/String")], returnType := none }, accessFlags := 1, code := some k10c0 }
def k10c1 : Code := { maxStack := 2, maxLocals := 1, code := prog_34_method_4_code, exceptionTable := #[], attributes := #[] }
def k10m1 : Method := { name := "toString", desc := "()Ljava/lang/String;", sig := { parameters := [], returnType := some (.object "java/lang/String") }, accessFlags := 1, code := some k10c1 }
/-- com/example/tideline/tideline/TableName -/
def k10 : Class := { plain "com/example/tideline/tideline/TableName" (some 9) with
  accessFlags := 49
  interfaces := #[]
  cf := some (fileOf pool10 8 #[] #[{ accessFlags := 1, nameIndex := 5, descriptorIndex := 58, attributes := #[] }, { accessFlags := 1, nameIndex := 44, descriptorIndex := 45, attributes := #[] }] 49 2 #[] #[{ accessFlags := 18, nameIndex := 11, descriptorIndex := 12, attributes := #[] }, { accessFlags := 18, nameIndex := 15, descriptorIndex := 12, attributes := #[] }])
  fields := #[{ name := "schema", type := (.object "java/lang/String"), accessFlags := 18, slot := 0, constantValue := 0 }, { name := "table", type := (.object "java/lang/String"), accessFlags := 18, slot := 1, constantValue := 0 }]
  methods := #[k10m0, k10m1]
  instanceTypes := #[(.object "java/lang/String"), (.object "java/lang/String")]
  staticTypes := #[]
  resolved := Array.replicate 128 none
  statics := none }

def pool11 : Array CpInfo := pool [(1, .class_ 2), (0, u "java/lang/Appendable"), (0, .class_ 4), (0, u "java/lang/Object")] 9

/-- java/lang/Appendable -/
def k11 : Class := { plain "java/lang/Appendable" (some 0) with
  accessFlags := 1537
  interfaces := #[]
  cf := some (fileOf pool11 1 #[] #[] 1537 3 #[] #[])
  fields := #[]
  methods := #[]
  instanceTypes := #[]
  staticTypes := #[]
  resolved := Array.replicate 14 none
  statics := none }

def pool12 : Array CpInfo := pool [(1, .class_ 2), (0, u "java/lang/String"), (0, .methodref 4 5), (0, .class_ 6), (0, .nameAndType 7 8), (0, u "java/lang/Object"), (0, u "<init>"), (0, u "()V"), (1, .class_ 12), (1, u "java/lang/AbstractStringBuilder"), (0, u "EMPTYVALUE"), (0, u "[B"), (0, .fieldref 10 16), (0, .nameAndType 17 14), (0, u "value"), (0, .fieldref 1 19), (0, .nameAndType 20 21), (0, u "COMPACT_STRINGS"), (0, u "Z"), (0, .fieldref 10 23), (0, .nameAndType 24 25), (0, u "coder"), (0, u "B"), (6, .methodref 1 33), (0, .nameAndType 34 35), (0, u "length"), (0, u "()I"), (4, .methodref 1 41), (0, .nameAndType 24 42), (0, u "()B"), (2, u "append"), (0, u "(Ljava/lang/String;)Ljava/lang/AbstractStringBuilder;"), (1, .class_ 49), (0, u "java/lang/CharSequence"), (19, u "(Ljava/lang/String;)V"), (5, u "maybeLatin1"), (3, .fieldref 10 80), (0, .nameAndType 81 82), (0, u "count"), (0, u "I"), (2, u "isLatin1"), (0, u "()Z"), (13, .methodref 10 101), (0, .nameAndType 102 103), (0, u "ensureCapacityInternal"), (0, u "(I)V"), (104, .methodref 10 209), (0, .nameAndType 210 211), (0, u "putStringAt"), (0, u "(ILjava/lang/String;)V"), (5, u "inflateIfNeededFor"), (2, .nameAndType 221 222), (0, u "getBytes"), (0, u "([BIB)V"), (174, .methodref 10 398), (0, .nameAndType 217 69), (0, .methodref 1 220), (3, u "()[B"), (40, .class_ 445), (0, u "java/lang/Appendable"), (106, u "getValue")] 56

def k12m0 : Method := { name := "<init>", desc := "()V", sig := { parameters := [], returnType := none }, accessFlags := 0, code := none }
def k12c1 : Code := { maxStack := 2, maxLocals := 2, code := jdk_68_method_2_code, exceptionTable := #[], attributes := #[] }
def k12m1 : Method := { name := "<init>", desc := "(I)V", sig := { parameters := [.int], returnType := none }, accessFlags := 0, code := some k12c1 }
def k12c2 : Code := { maxStack := 1, maxLocals := 1, code := jdk_68_method_6_code, exceptionTable := #[], attributes := #[] }
def k12m2 : Method := { name := "length", desc := "()I", sig := { parameters := [], returnType := some .int }, accessFlags := 1, code := some k12c2 }
def k12c3 : Code := { maxStack := 4, maxLocals := 3, code := jdk_68_method_9_code, exceptionTable := #[], attributes := #[] }
def k12m3 : Method := { name := "ensureCapacityInternal", desc := "(I)V", sig := { parameters := [.int], returnType := none }, accessFlags := 2, code := some k12c3 }
def k12c4 : Code := { maxStack := 3, maxLocals := 3, code := jdk_68_method_22_code, exceptionTable := #[], attributes := #[] }
def k12m4 : Method := { name := "append", desc := "(Ljava/lang/String;)Ljava/lang/AbstractStringBuilder;", sig := { parameters := [(.object "java/lang/String")], returnType := some (.object "java/lang/AbstractStringBuilder") }, accessFlags := 1, code := some k12c4 }
def k12c5 : Code := { maxStack := 1, maxLocals := 1, code := jdk_68_method_64_code, exceptionTable := #[], attributes := #[] }
def k12m5 : Method := { name := "getValue", desc := "()[B", sig := { parameters := [], returnType := some (.array .byte) }, accessFlags := 16, code := some k12c5 }
def k12c6 : Code := { maxStack := 1, maxLocals := 1, code := jdk_68_method_68_code, exceptionTable := #[], attributes := #[] }
def k12m6 : Method := { name := "isLatin1", desc := "()Z", sig := { parameters := [], returnType := some .boolean }, accessFlags := 16, code := some k12c6 }
def k12c7 : Code := { maxStack := 2, maxLocals := 2, code := jdk_68_method_71_code, exceptionTable := #[], attributes := #[] }
def k12m7 : Method := { name := "inflateIfNeededFor", desc := "(Ljava/lang/String;)V", sig := { parameters := [(.object "java/lang/String")], returnType := none }, accessFlags := 2, code := some k12c7 }
def k12c8 : Code := { maxStack := 4, maxLocals := 3, code := jdk_68_method_73_code, exceptionTable := #[], attributes := #[] }
def k12m8 : Method := { name := "putStringAt", desc := "(ILjava/lang/String;)V", sig := { parameters := [.int, (.object "java/lang/String")], returnType := none }, accessFlags := 2, code := some k12c8 }
/-- java/lang/AbstractStringBuilder -/
def k12 : Class := { plain "java/lang/AbstractStringBuilder" (some 0) with
  accessFlags := 1056
  interfaces := #[11, 4]
  cf := some (fileOf pool12 10 #[] #[{ accessFlags := 0, nameIndex := 7, descriptorIndex := 8, attributes := #[] }, { accessFlags := 0, nameIndex := 7, descriptorIndex := 103, attributes := #[] }, { accessFlags := 1, nameIndex := 34, descriptorIndex := 35, attributes := #[] }, { accessFlags := 2, nameIndex := 102, descriptorIndex := 103, attributes := #[] }, { accessFlags := 1, nameIndex := 45, descriptorIndex := 46, attributes := #[] }, { accessFlags := 16, nameIndex := 552, descriptorIndex := 403, attributes := #[] }, { accessFlags := 16, nameIndex := 85, descriptorIndex := 86, attributes := #[] }, { accessFlags := 2, nameIndex := 217, descriptorIndex := 69, attributes := #[] }, { accessFlags := 2, nameIndex := 210, descriptorIndex := 211, attributes := #[] }] 1056 4 #[444, 48] #[{ accessFlags := 0, nameIndex := 17, descriptorIndex := 14, attributes := #[] }, { accessFlags := 0, nameIndex := 24, descriptorIndex := 25, attributes := #[] }, { accessFlags := 0, nameIndex := 75, descriptorIndex := 21, attributes := #[] }, { accessFlags := 0, nameIndex := 81, descriptorIndex := 82, attributes := #[] }, { accessFlags := 26, nameIndex := 13, descriptorIndex := 14, attributes := #[] }])
  fields := #[{ name := "value", type := (.array .byte), accessFlags := 0, slot := 0, constantValue := 0 }, { name := "coder", type := .byte, accessFlags := 0, slot := 1, constantValue := 0 }, { name := "maybeLatin1", type := .boolean, accessFlags := 0, slot := 2, constantValue := 0 }, { name := "count", type := .int, accessFlags := 0, slot := 3, constantValue := 0 }, { name := "EMPTYVALUE", type := (.array .byte), accessFlags := 26, slot := 0, constantValue := 0 }]
  methods := #[k12m0, k12m1, k12m2, k12m3, k12m4, k12m5, k12m6, k12m7, k12m8]
  instanceTypes := #[(.array .byte), .byte, .boolean, .int]
  staticTypes := #[(.array .byte)]
  resolved := Array.replicate 609 none
  statics := none }

def pool13 : Array CpInfo := pool [(1, .methodref 2 3), (0, .class_ 4), (0, .nameAndType 5 6), (0, u "java/lang/AbstractStringBuilder"), (0, u "<init>"), (0, u "(I)V"), (11, .class_ 20), (1, u "java/lang/String"), (3, .class_ 26), (1, u "java/lang/StringBuilder"), (0, u "append"), (0, u "(Ljava/lang/String;)Ljava/lang/StringBuilder;"), (0, .methodref 2 30), (0, .nameAndType 27 31), (0, u "(Ljava/lang/String;)Ljava/lang/AbstractStringBuilder;"), (105, .methodref 18 138), (0, .nameAndType 5 139), (0, u "(Ljava/lang/StringBuilder;)V"), (5, u "()V"), (10, u "()I"), (186, .methodref 2 344), (0, .nameAndType 345 156), (0, u "length"), (3, .class_ 350), (0, u "java/lang/Appendable"), (0, .class_ 352), (0, u "java/io/Serializable"), (0, .class_ 354), (0, u "java/lang/Comparable"), (0, .class_ 356), (0, u "java/lang/CharSequence"), (0, u "serialVersionUID"), (0, u "J"), (40, u "toString"), (0, u "()Ljava/lang/String;")] 21

def k13c0 : Code := { maxStack := 2, maxLocals := 1, code := jdk_67_method_1_code, exceptionTable := #[], attributes := #[] }
def k13m0 : Method := { name := "<init>", desc := "()V", sig := { parameters := [], returnType := none }, accessFlags := 1, code := some k13c0 }
def k13c1 : Code := { maxStack := 2, maxLocals := 2, code := jdk_67_method_7_code, exceptionTable := #[], attributes := #[] }
def k13m1 : Method := { name := "append", desc := "(Ljava/lang/String;)Ljava/lang/StringBuilder;", sig := { parameters := [(.object "java/lang/String")], returnType := some (.object "java/lang/StringBuilder") }, accessFlags := 1, code := some k13c1 }
def k13c2 : Code := { maxStack := 3, maxLocals := 1, code := jdk_67_method_42_code, exceptionTable := #[], attributes := #[] }
def k13m2 : Method := { name := "toString", desc := "()Ljava/lang/String;", sig := { parameters := [], returnType := some (.object "java/lang/String") }, accessFlags := 1, code := some k13c2 }
def k13c3 : Code := { maxStack := 1, maxLocals := 1, code := jdk_67_method_93_code, exceptionTable := #[], attributes := #[] }
def k13m3 : Method := { name := "length", desc := "()I", sig := { parameters := [], returnType := some .int }, accessFlags := 4161, code := some k13c3 }
/-- java/lang/StringBuilder -/
def k13 : Class := { plain "java/lang/StringBuilder" (some 12) with
  accessFlags := 49
  interfaces := #[11, 2, 3, 4]
  cf := some (fileOf pool13 24 #[] #[{ accessFlags := 1, nameIndex := 5, descriptorIndex := 145, attributes := #[] }, { accessFlags := 1, nameIndex := 27, descriptorIndex := 28, attributes := #[] }, { accessFlags := 1, nameIndex := 399, descriptorIndex := 400, attributes := #[] }, { accessFlags := 4161, nameIndex := 345, descriptorIndex := 156, attributes := #[] }] 49 2 #[349, 351, 353, 355] #[{ accessFlags := 24, nameIndex := 357, descriptorIndex := 358, attributes := #[] }])
  fields := #[{ name := "serialVersionUID", type := .long, accessFlags := 24, slot := 0, constantValue := 0 }]
  methods := #[k13m0, k13m1, k13m2, k13m3]
  instanceTypes := #[(.array .byte), .byte, .boolean, .int]
  staticTypes := #[.long]
  resolved := Array.replicate 422 none
  statics := none }

def pool14 : Array CpInfo := pool [(2, .class_ 4), (1, u "java/lang/Object"), (0, u "<init>"), (0, u "()V"), (1, .class_ 10), (1, u "java/lang/System"), (0, u "allowSecurityManager"), (0, u "I"), (16, u "cons"), (0, u "Ljava/io/Console;"), (77, .class_ 110), (1, u "java/lang/System$CallersHolder"), (43, u "initialErrStream"), (0, u "Ljava/io/PrintStream;"), (19, u "security"), (0, u "Ljava/lang/SecurityManager;"), (31, .class_ 209), (0, u "java/lang/System$1"), (7, u "props"), (0, u "Ljava/util/Properties;"), (2, u "lineSeparator"), (0, u "Ljava/lang/String;"), (96, .class_ 321), (1, u "java/lang/System$LoggerFinder"), (5, .class_ 328), (0, u "java/lang/System$Logger"), (67, u "err"), (2, u "out"), (91, u "notSupportedJnuEncoding"), (15, u "in"), (17, u "initialIn"), (0, u "Ljava/io/InputStream;"), (35, u "bootLayer"), (0, u "Ljava/lang/ModuleLayer;"), (99, .class_ 664), (0, u "java/lang/System$2"), (9, u "NEVER"), (2, u "MAYBE"), (49, u "arraycopy"), (0, u "(Ljava/lang/Object;ILjava/lang/Object;II)V"), (72, .class_ 802), (0, u "java/lang/System$Logger$Level")] 31

def k14m0 : Method := { name := "<init>", desc := "()V", sig := { parameters := [], returnType := none }, accessFlags := 2, code := none }
def k14m1 : Method := { name := "arraycopy", desc := "(Ljava/lang/Object;ILjava/lang/Object;II)V", sig := { parameters := [(.object "java/lang/Object"), .int, (.object "java/lang/Object"), .int, .int], returnType := none }, accessFlags := 265, code := none }
/-- java/lang/System -/
def k14 : Class := { plain "java/lang/System" (some 0) with
  accessFlags := 49
  interfaces := #[]
  cf := some (fileOf pool14 8 #[.nestMembers #[319, 327, 801, 108, 663, 208]] #[{ accessFlags := 2, nameIndex := 5, descriptorIndex := 6, attributes := #[] }, { accessFlags := 265, nameIndex := 727, descriptorIndex := 728, attributes := #[] }] 49 2 #[] #[{ accessFlags := 25, nameIndex := 507, descriptorIndex := 526, attributes := #[] }, { accessFlags := 25, nameIndex := 399, descriptorIndex := 155, attributes := #[] }, { accessFlags := 25, nameIndex := 396, descriptorIndex := 155, attributes := #[] }, { accessFlags := 10, nameIndex := 525, descriptorIndex := 526, attributes := #[] }, { accessFlags := 26, nameIndex := 674, descriptorIndex := 12, attributes := #[] }, { accessFlags := 26, nameIndex := 677, descriptorIndex := 12, attributes := #[] }, { accessFlags := 10, nameIndex := 11, descriptorIndex := 12, attributes := #[] }, { accessFlags := 74, nameIndex := 175, descriptorIndex := 176, attributes := #[] }, { accessFlags := 10, nameIndex := 491, descriptorIndex := 222, attributes := #[] }, { accessFlags := 74, nameIndex := 29, descriptorIndex := 30, attributes := #[] }, { accessFlags := 74, nameIndex := 154, descriptorIndex := 155, attributes := #[] }, { accessFlags := 10, nameIndex := 217, descriptorIndex := 218, attributes := #[] }, { accessFlags := 10, nameIndex := 221, descriptorIndex := 222, attributes := #[] }, { accessFlags := 8, nameIndex := 562, descriptorIndex := 563, attributes := #[] }])
  fields := #[{ name := "in", type := (.object "java/io/InputStream"), accessFlags := 25, slot := 0, constantValue := 0 }, { name := "out", type := (.object "java/io/PrintStream"), accessFlags := 25, slot := 1, constantValue := 0 }, { name := "err", type := (.object "java/io/PrintStream"), accessFlags := 25, slot := 2, constantValue := 0 }, { name := "initialIn", type := (.object "java/io/InputStream"), accessFlags := 10, slot := 3, constantValue := 0 }, { name := "NEVER", type := .int, accessFlags := 26, slot := 4, constantValue := 0 }, { name := "MAYBE", type := .int, accessFlags := 26, slot := 5, constantValue := 0 }, { name := "allowSecurityManager", type := .int, accessFlags := 10, slot := 6, constantValue := 0 }, { name := "security", type := (.object "java/lang/SecurityManager"), accessFlags := 74, slot := 7, constantValue := 0 }, { name := "notSupportedJnuEncoding", type := (.object "java/lang/String"), accessFlags := 10, slot := 8, constantValue := 0 }, { name := "cons", type := (.object "java/io/Console"), accessFlags := 74, slot := 9, constantValue := 0 }, { name := "initialErrStream", type := (.object "java/io/PrintStream"), accessFlags := 74, slot := 10, constantValue := 0 }, { name := "props", type := (.object "java/util/Properties"), accessFlags := 10, slot := 11, constantValue := 0 }, { name := "lineSeparator", type := (.object "java/lang/String"), accessFlags := 10, slot := 12, constantValue := 0 }, { name := "bootLayer", type := (.object "java/lang/ModuleLayer"), accessFlags := 8, slot := 13, constantValue := 0 }]
  methods := #[k14m0, k14m1]
  instanceTypes := #[]
  staticTypes := #[(.object "java/io/InputStream"), (.object "java/io/PrintStream"), (.object "java/io/PrintStream"), (.object "java/io/InputStream"), .int, .int, .int, (.object "java/lang/SecurityManager"), (.object "java/lang/String"), (.object "java/io/Console"), (.object "java/io/PrintStream"), (.object "java/util/Properties"), (.object "java/lang/String"), (.object "java/lang/ModuleLayer")]
  resolved := Array.replicate 834 none
  statics := none }

def pool15 : Array CpInfo := pool [(2, .class_ 4), (1, u "java/lang/Object"), (0, u "<init>"), (0, u "()V"), (7, .class_ 16), (1, u "java/util/Arrays"), (57, .class_ 76), (1, u "java/util/Arrays$NaturalOrder"), (36, .class_ 115), (1, u "java/util/Arrays$LegacyMergeSort"), (1, u "Z"), (21, u "copyOfRange"), (10, .methodref 151 152), (0, .class_ 153), (0, .nameAndType 154 155), (0, u "java/lang/System"), (0, u "arraycopy"), (0, u "(Ljava/lang/Object;ILjava/lang/Object;II)V"), (148, .methodref 305 306), (0, .class_ 307), (0, .nameAndType 308 309), (0, u "java/lang/Math"), (0, u "min"), (0, u "(II)I"), (29, .methodref 14 340), (0, .nameAndType 341 342), (0, u "copyOfRangeByte"), (0, u "([BII)[B"), (0, .methodref 14 344), (0, .nameAndType 345 346), (0, u "checkLength"), (0, u "(II)V"), (28, .class_ 376), (0, u "java/util/Arrays$ArrayList"), (68, u "$assertionsDisabled"), (269, u "MIN_ARRAY_SORT_GRAN"), (0, u "I"), (2, u "INSERTIONSORT_THRESHOLD"), (255, .class_ 976), (0, u "java/util/Arrays$ArrayItr")] 52

def k15m0 : Method := { name := "<init>", desc := "()V", sig := { parameters := [], returnType := none }, accessFlags := 2, code := none }
def k15c1 : Code := { maxStack := 4, maxLocals := 2, code := jdk_65_method_131_code, exceptionTable := #[], attributes := #[] }
def k15m1 : Method := { name := "checkLength", desc := "(II)V", sig := { parameters := [.int, .int], returnType := none }, accessFlags := 10, code := some k15c1 }
def k15c2 : Code := { maxStack := 3, maxLocals := 3, code := jdk_65_method_132_code, exceptionTable := #[], attributes := #[] }
def k15m2 : Method := { name := "copyOfRange", desc := "([BII)[B", sig := { parameters := [(.array .byte), .int, .int], returnType := some (.array .byte) }, accessFlags := 9, code := some k15c2 }
def k15c3 : Code := { maxStack := 6, maxLocals := 5, code := jdk_65_method_133_code, exceptionTable := #[], attributes := #[] }
def k15m3 : Method := { name := "copyOfRangeByte", desc := "([BII)[B", sig := { parameters := [(.array .byte), .int, .int], returnType := some (.array .byte) }, accessFlags := 10, code := some k15c3 }
/-- java/util/Arrays -/
def k15 : Class := { plain "java/util/Arrays" (some 0) with
  accessFlags := 49
  interfaces := #[]
  cf := some (fileOf pool15 14 #[.nestMembers #[975, 375, 113, 74]] #[{ accessFlags := 2, nameIndex := 5, descriptorIndex := 6, attributes := #[] }, { accessFlags := 10, nameIndex := 345, descriptorIndex := 346, attributes := #[] }, { accessFlags := 9, nameIndex := 139, descriptorIndex := 342, attributes := #[] }, { accessFlags := 10, nameIndex := 341, descriptorIndex := 342, attributes := #[] }] 49 2 #[] #[{ accessFlags := 26, nameIndex := 715, descriptorIndex := 716, attributes := #[] }, { accessFlags := 26, nameIndex := 719, descriptorIndex := 716, attributes := #[] }, { accessFlags := 4120, nameIndex := 445, descriptorIndex := 117, attributes := #[] }])
  fields := #[{ name := "MIN_ARRAY_SORT_GRAN", type := .int, accessFlags := 26, slot := 0, constantValue := 0 }, { name := "INSERTIONSORT_THRESHOLD", type := .int, accessFlags := 26, slot := 1, constantValue := 0 }, { name := "$assertionsDisabled", type := .boolean, accessFlags := 4120, slot := 2, constantValue := 0 }]
  methods := #[k15m0, k15m1, k15m2, k15m3]
  instanceTypes := #[]
  staticTypes := #[.int, .int, .boolean]
  resolved := Array.replicate 1029 none
  statics := none }

def pool16 : Array CpInfo := pool [(1, .class_ 2), (0, u "java/lang/Math"), (1, .class_ 6), (1, u "java/lang/Object"), (0, u "<init>"), (0, u "()V"), (89, .class_ 100), (1, u "java/lang/Math$RandomNumberGeneratorHolder"), (71, u "negativeZeroFloatBits"), (0, u "J"), (2, u "negativeZeroDoubleBits"), (24, u "min"), (43, u "$assertionsDisabled"), (0, u "Z"), (88, u "(II)I"), (2, u "twoToTheDoubleScaleDown"), (0, u "D"), (4, u "twoToTheDoubleScaleUp"), (9, u "E"), (3, u "PI"), (2, u "TAU"), (2, u "DEGREES_TO_RADIANS"), (0, u "RADIANS_TO_DEGREES")] 94

def k16m0 : Method := { name := "<init>", desc := "()V", sig := { parameters := [], returnType := none }, accessFlags := 2, code := none }
def k16c1 : Code := { maxStack := 2, maxLocals := 2, code := jdk_29_method_69_code, exceptionTable := #[], attributes := #[] }
def k16m1 : Method := { name := "min", desc := "(II)I", sig := { parameters := [.int, .int], returnType := some .int }, accessFlags := 9, code := some k16c1 }
/-- java/lang/Math -/
def k16 : Class := { plain "java/lang/Math" (some 0) with
  accessFlags := 49
  interfaces := #[]
  cf := some (fileOf pool16 1 #[.nestMembers #[98]] #[{ accessFlags := 2, nameIndex := 7, descriptorIndex := 8, attributes := #[] }, { accessFlags := 9, nameIndex := 201, descriptorIndex := 335, attributes := #[] }] 49 4 #[] #[{ accessFlags := 25, nameIndex := 354, descriptorIndex := 339, attributes := #[] }, { accessFlags := 25, nameIndex := 358, descriptorIndex := 339, attributes := #[] }, { accessFlags := 25, nameIndex := 361, descriptorIndex := 339, attributes := #[] }, { accessFlags := 26, nameIndex := 364, descriptorIndex := 339, attributes := #[] }, { accessFlags := 26, nameIndex := 365, descriptorIndex := 339, attributes := #[] }, { accessFlags := 26, nameIndex := 172, descriptorIndex := 173, attributes := #[] }, { accessFlags := 26, nameIndex := 176, descriptorIndex := 173, attributes := #[] }, { accessFlags := 8, nameIndex := 344, descriptorIndex := 339, attributes := #[] }, { accessFlags := 8, nameIndex := 338, descriptorIndex := 339, attributes := #[] }, { accessFlags := 4120, nameIndex := 245, descriptorIndex := 246, attributes := #[] }])
  fields := #[{ name := "E", type := .double, accessFlags := 25, slot := 0, constantValue := 0 }, { name := "PI", type := .double, accessFlags := 25, slot := 1, constantValue := 0 }, { name := "TAU", type := .double, accessFlags := 25, slot := 2, constantValue := 0 }, { name := "DEGREES_TO_RADIANS", type := .double, accessFlags := 26, slot := 3, constantValue := 0 }, { name := "RADIANS_TO_DEGREES", type := .double, accessFlags := 26, slot := 4, constantValue := 0 }, { name := "negativeZeroFloatBits", type := .long, accessFlags := 26, slot := 5, constantValue := 0 }, { name := "negativeZeroDoubleBits", type := .long, accessFlags := 26, slot := 6, constantValue := 0 }, { name := "twoToTheDoubleScaleUp", type := .double, accessFlags := 8, slot := 7, constantValue := 0 }, { name := "twoToTheDoubleScaleDown", type := .double, accessFlags := 8, slot := 8, constantValue := 0 }, { name := "$assertionsDisabled", type := .boolean, accessFlags := 4120, slot := 9, constantValue := 0 }]
  methods := #[k16m0, k16m1]
  instanceTypes := #[]
  staticTypes := #[.double, .double, .double, .double, .double, .long, .long, .double, .double, .boolean]
  resolved := Array.replicate 460 none
  statics := none }

def pool17 : Array CpInfo := pool [(1, .class_ 2), (0, u "java/lang/String"), (1, .class_ 6), (1, u "java/lang/Object"), (0, u "<init>"), (0, u "()V"), (0, .methodref 1 10), (0, .nameAndType 11 12), (0, u "checkIndex"), (0, u "(II)V"), (1, .class_ 16), (1, u "java/lang/StringLatin1"), (36, u "([BI)C"), (67, u "$assertionsDisabled"), (0, u "Z"), (98, .class_ 223), (1, u "java/lang/StringLatin1$LinesSpliterator"), (28, u "charAt"), (137, .class_ 391), (0, u "java/lang/StringLatin1$CharsSpliterator")] 3

def k17m0 : Method := { name := "<init>", desc := "()V", sig := { parameters := [], returnType := none }, accessFlags := 0, code := none }
def k17c1 : Code := { maxStack := 2, maxLocals := 2, code := jdk_43_method_2_code, exceptionTable := #[], attributes := #[] }
def k17m1 : Method := { name := "charAt", desc := "([BI)C", sig := { parameters := [(.array .byte), .int], returnType := some .char }, accessFlags := 9, code := some k17c1 }
/-- java/lang/StringLatin1 -/
def k17 : Class := { plain "java/lang/StringLatin1" (some 0) with
  accessFlags := 48
  interfaces := #[]
  cf := some (fileOf pool17 14 #[.nestMembers #[390, 221]] #[{ accessFlags := 0, nameIndex := 7, descriptorIndex := 8, attributes := #[] }, { accessFlags := 9, nameIndex := 252, descriptorIndex := 53, attributes := #[] }] 48 4 #[] #[{ accessFlags := 4120, nameIndex := 121, descriptorIndex := 122, attributes := #[] }])
  fields := #[{ name := "$assertionsDisabled", type := .boolean, accessFlags := 4120, slot := 0, constantValue := 0 }]
  methods := #[k17m0, k17m1]
  instanceTypes := #[]
  staticTypes := #[.boolean]
  resolved := Array.replicate 395 none
  statics := none }

def pool18 : Array CpInfo := pool [(2, .class_ 4), (1, u "java/lang/Object"), (0, u "<init>"), (0, u "()V"), (17, .class_ 26), (1, u "jdk/internal/util/Preconditions"), (6, u "checkIndex"), (21, .class_ 56), (0, u "jdk/internal/util/Preconditions$4"), (57, .class_ 115), (0, u "jdk/internal/util/Preconditions$1"), (7, u "SIOOBE_FORMATTER"), (0, u "Ljava/util/function/BiFunction;"), (0, .class_ 126), (0, u "jdk/internal/util/Preconditions$2"), (3, u "AIOOBE_FORMATTER"), (0, .class_ 132), (0, u "jdk/internal/util/Preconditions$3"), (3, u "IOOBE_FORMATTER"), (41, u "(IILjava/util/function/BiFunction;)I")] 15

def k18m0 : Method := { name := "<init>", desc := "()V", sig := { parameters := [], returnType := none }, accessFlags := 1, code := none }
def k18c1 : Code := { maxStack := 3, maxLocals := 3, code := jdk_41_method_11_code, exceptionTable := #[], attributes := #[] }
def k18m1 : Method := { name := "checkIndex", desc := "(IILjava/util/function/BiFunction;)I", sig := { parameters := [.int, .int, (.object "java/util/function/BiFunction")], returnType := some .int }, accessFlags := 9, code := some k18c1 }
/-- jdk/internal/util/Preconditions -/
def k18 : Class := { plain "jdk/internal/util/Preconditions" (some 0) with
  accessFlags := 33
  interfaces := #[]
  cf := some (fileOf pool18 24 #[.nestMembers #[55, 131, 125, 114]] #[{ accessFlags := 1, nameIndex := 5, descriptorIndex := 6, attributes := #[] }, { accessFlags := 9, nameIndex := 33, descriptorIndex := 178, attributes := #[] }] 33 2 #[] #[{ accessFlags := 25, nameIndex := 123, descriptorIndex := 124, attributes := #[] }, { accessFlags := 25, nameIndex := 130, descriptorIndex := 124, attributes := #[] }, { accessFlags := 25, nameIndex := 136, descriptorIndex := 124, attributes := #[] }])
  fields := #[{ name := "SIOOBE_FORMATTER", type := (.object "java/util/function/BiFunction"), accessFlags := 25, slot := 0, constantValue := 0 }, { name := "AIOOBE_FORMATTER", type := (.object "java/util/function/BiFunction"), accessFlags := 25, slot := 1, constantValue := 0 }, { name := "IOOBE_FORMATTER", type := (.object "java/util/function/BiFunction"), accessFlags := 25, slot := 2, constantValue := 0 }]
  methods := #[k18m0, k18m1]
  instanceTypes := #[]
  staticTypes := #[(.object "java/util/function/BiFunction"), (.object "java/util/function/BiFunction"), (.object "java/util/function/BiFunction")]
  resolved := Array.replicate 194 none
  statics := some 1 }

def pool19 : Array CpInfo := pool [(9, u "<init>"), (6, .class_ 18), (1, u "java/lang/Object"), (0, u "()V"), (1, .class_ 23), (1, u "jdk/internal/util/ArraysSupport"), (0, u "LOG2_ARRAY_LONG_INDEX_SCALE"), (0, u "I"), (2, u "U"), (0, u "Ljdk/internal/misc/Unsafe;"), (8, u "BIG_ENDIAN"), (0, u "Z"), (8, u "LOG2_BYTE_BIT_SIZE"), (4, u "LOG2_ARRAY_INT_INDEX_SCALE"), (54, u "JLA"), (0, u "Ljdk/internal/access/JavaLangAccess;"), (11, u "LOG2_ARRAY_BOOLEAN_INDEX_SCALE"), (9, u "LOG2_ARRAY_BYTE_INDEX_SCALE"), (5, u "LOG2_ARRAY_CHAR_INDEX_SCALE"), (5, u "LOG2_ARRAY_SHORT_INDEX_SCALE"), (18, u "LOG2_ARRAY_FLOAT_INDEX_SCALE"), (24, u "LOG2_ARRAY_DOUBLE_INDEX_SCALE"), (89, u "T_BOOLEAN"), (2, u "T_CHAR"), (1, u "T_FLOAT"), (1, u "T_DOUBLE"), (1, u "T_BYTE"), (1, u "T_SHORT"), (1, u "T_INT"), (1, u "T_LONG"), (1, u "SOFT_MAX_ARRAY_LENGTH")] 83

def k19m0 : Method := { name := "<init>", desc := "()V", sig := { parameters := [], returnType := none }, accessFlags := 2, code := none }
/-- jdk/internal/util/ArraysSupport -/
def k19 : Class := { plain "jdk/internal/util/ArraysSupport" (some 0) with
  accessFlags := 33
  interfaces := #[]
  cf := some (fileOf pool19 21 #[] #[{ accessFlags := 2, nameIndex := 9, descriptorIndex := 19, attributes := #[] }] 33 16 #[] #[{ accessFlags := 24, nameIndex := 28, descriptorIndex := 29, attributes := #[] }, { accessFlags := 26, nameIndex := 38, descriptorIndex := 39, attributes := #[] }, { accessFlags := 25, nameIndex := 121, descriptorIndex := 25, attributes := #[] }, { accessFlags := 25, nameIndex := 131, descriptorIndex := 25, attributes := #[] }, { accessFlags := 25, nameIndex := 137, descriptorIndex := 25, attributes := #[] }, { accessFlags := 25, nameIndex := 143, descriptorIndex := 25, attributes := #[] }, { accessFlags := 25, nameIndex := 53, descriptorIndex := 25, attributes := #[] }, { accessFlags := 25, nameIndex := 24, descriptorIndex := 25, attributes := #[] }, { accessFlags := 25, nameIndex := 162, descriptorIndex := 25, attributes := #[] }, { accessFlags := 25, nameIndex := 187, descriptorIndex := 25, attributes := #[] }, { accessFlags := 26, nameIndex := 48, descriptorIndex := 25, attributes := #[] }, { accessFlags := 25, nameIndex := 277, descriptorIndex := 25, attributes := #[] }, { accessFlags := 25, nameIndex := 280, descriptorIndex := 25, attributes := #[] }, { accessFlags := 25, nameIndex := 282, descriptorIndex := 25, attributes := #[] }, { accessFlags := 25, nameIndex := 284, descriptorIndex := 25, attributes := #[] }, { accessFlags := 25, nameIndex := 286, descriptorIndex := 25, attributes := #[] }, { accessFlags := 25, nameIndex := 288, descriptorIndex := 25, attributes := #[] }, { accessFlags := 25, nameIndex := 290, descriptorIndex := 25, attributes := #[] }, { accessFlags := 25, nameIndex := 292, descriptorIndex := 25, attributes := #[] }, { accessFlags := 26, nameIndex := 108, descriptorIndex := 109, attributes := #[] }, { accessFlags := 25, nameIndex := 294, descriptorIndex := 25, attributes := #[] }])
  fields := #[{ name := "U", type := (.object "jdk/internal/misc/Unsafe"), accessFlags := 24, slot := 0, constantValue := 0 }, { name := "BIG_ENDIAN", type := .boolean, accessFlags := 26, slot := 1, constantValue := 0 }, { name := "LOG2_ARRAY_BOOLEAN_INDEX_SCALE", type := .int, accessFlags := 25, slot := 2, constantValue := 0 }, { name := "LOG2_ARRAY_BYTE_INDEX_SCALE", type := .int, accessFlags := 25, slot := 3, constantValue := 0 }, { name := "LOG2_ARRAY_CHAR_INDEX_SCALE", type := .int, accessFlags := 25, slot := 4, constantValue := 0 }, { name := "LOG2_ARRAY_SHORT_INDEX_SCALE", type := .int, accessFlags := 25, slot := 5, constantValue := 0 }, { name := "LOG2_ARRAY_INT_INDEX_SCALE", type := .int, accessFlags := 25, slot := 6, constantValue := 0 }, { name := "LOG2_ARRAY_LONG_INDEX_SCALE", type := .int, accessFlags := 25, slot := 7, constantValue := 0 }, { name := "LOG2_ARRAY_FLOAT_INDEX_SCALE", type := .int, accessFlags := 25, slot := 8, constantValue := 0 }, { name := "LOG2_ARRAY_DOUBLE_INDEX_SCALE", type := .int, accessFlags := 25, slot := 9, constantValue := 0 }, { name := "LOG2_BYTE_BIT_SIZE", type := .int, accessFlags := 26, slot := 10, constantValue := 0 }, { name := "T_BOOLEAN", type := .int, accessFlags := 25, slot := 11, constantValue := 0 }, { name := "T_CHAR", type := .int, accessFlags := 25, slot := 12, constantValue := 0 }, { name := "T_FLOAT", type := .int, accessFlags := 25, slot := 13, constantValue := 0 }, { name := "T_DOUBLE", type := .int, accessFlags := 25, slot := 14, constantValue := 0 }, { name := "T_BYTE", type := .int, accessFlags := 25, slot := 15, constantValue := 0 }, { name := "T_SHORT", type := .int, accessFlags := 25, slot := 16, constantValue := 0 }, { name := "T_INT", type := .int, accessFlags := 25, slot := 17, constantValue := 0 }, { name := "T_LONG", type := .int, accessFlags := 25, slot := 18, constantValue := 0 }, { name := "JLA", type := (.object "jdk/internal/access/JavaLangAccess"), accessFlags := 26, slot := 19, constantValue := 0 }, { name := "SOFT_MAX_ARRAY_LENGTH", type := .int, accessFlags := 25, slot := 20, constantValue := 0 }]
  methods := #[k19m0]
  instanceTypes := #[]
  staticTypes := #[(.object "jdk/internal/misc/Unsafe"), .boolean, .int, .int, .int, .int, .int, .int, .int, .int, .int, .int, .int, .int, .int, .int, .int, .int, .int, (.object "jdk/internal/access/JavaLangAccess"), .int]
  resolved := Array.replicate 378 none
  statics := none }

def pool20 : Array CpInfo := pool [(1, u "java/lang/Cloneable"), (0, .class_ 1), (0, u "java/lang/Object"), (0, .class_ 3)] 3

/-- java/lang/Cloneable -/
def k20 : Class := { plain "java/lang/Cloneable" (some 0) with
  accessFlags := 1537
  interfaces := #[]
  cf := some (fileOf pool20 2 #[] #[] 1537 4 #[] #[])
  fields := #[]
  methods := #[]
  instanceTypes := #[]
  staticTypes := #[]
  resolved := Array.replicate 8 none
  statics := none }

/-- the primitive byte -/
def k21 : Class := { plain "byte" none with kind := .primitive 'B', accessFlags := 0x411 }
/-- [B -/
def k22 : Class := { plain "[B" (some 0) with kind := .array 21 .byte, interfaces := #[20, 2], accessFlags := 1041 }

/-- the primitive char -/
def k23 : Class := { plain "char" none with kind := .primitive 'C', accessFlags := 0x411 }
/-- [C -/
def k24 : Class := { plain "[C" (some 0) with kind := .array 23 .char, interfaces := #[20, 2], accessFlags := 1041 }

/-- the primitive int -/
def k25 : Class := { plain "int" none with kind := .primitive 'I', accessFlags := 0x411 }
/-- [I -/
def k26 : Class := { plain "[I" (some 0) with kind := .array 25 .int, interfaces := #[20, 2], accessFlags := 1041 }

def heap : Heap := #[{ cls := 7, slots := #[.long 0, .int 1, .null, .int 0, .null, .int 0, .int 0], vm := .statics 7 },
  { cls := 18, slots := #[.null, .null, .null], vm := .statics 18 }]
def classes : Array Class := #[k0, k1, k2, k3, k4, k5, k6, k7, k8, k9, k10, k11, k12, k13, k14, k15, k16, k17, k18, k19, k20, k21, k22, k23, k24, k25, k26]
def interned : List (Array UInt16 × Addr) := []
def slotsUsed : Nat := 10
def theMethod : MethodId := ⟨1, 4⟩
def args0 : Array Value := #[.int 5, .int 5, .int 5, .int 5]
def aboutOver (below : List Frame) : State where
  vm := { classes := classes, interned := interned.toArray }
  heap := heap
  slotsUsed := slotsUsed
  threads := #[{ frames := .invoking theMethod args0 :: below }]
def below0 : List Frame := [.native { method := ⟨0, 0⟩, args := #[] }]
def about1 : State := aboutOver below0
def p0 : Program := .bare "" "" ""
def e0 : Env := launch0.env 0 0 0
theorem w_frames : about1.frames = Frame.invoking theMethod args0 :: below0 := rfl
set_option maxRecDepth 65536 in
theorem w_args : argsFit about1.vm theMethod args0 = true := by decide +kernel
set_option maxRecDepth 65536 in
theorem w_heap : heapFits about1 = true := by decide +kernel
set_option maxRecDepth 65536 in
theorem w_runnable : about1.curStatus? = some .runnable := by decide +kernel
set_option maxRecDepth 65536 in
theorem w_alone : about1.alone = true := by decide +kernel
set_option maxRecDepth 65536 in
theorem w_named : about1.methodNamed? x = some theMethod := by decide +kernel
set_option maxRecDepth 65536 in
theorem w_hears : about1.hears theMethod below0 = true := by decide +kernel
set_option maxRecDepth 65536 in
theorem w_ripe : about1.ripe theMethod args0 below0 = true := by decide +kernel
theorem w_running : about1.status = .running := rfl
set_option maxRecDepth 65536 in
theorem w_room : about1.hasRoom e0.platform room_1 = true :=
  launch0.hasRoom_least _ room_1 (by decide +kernel) (by decide +kernel) (by decide +kernel) (by decide +kernel) (by decide +kernel) (by decide +kernel)
theorem allAtoms_all (ts : List Jvm.Cond) (a : Array Jvm.Value) (st : Jvm.State) : (allAtoms ts).before a st = ts.all (fun c => c.before a st) := by
  induction ts with
  | nil => rfl
  | cons c t ih =>
    show (Jvm.Cond.and c (allAtoms t)).before a st = _
    rw [Jvm.Cond.before_and, ih, List.all_cons]
def words1 : List Jvm.Cond := Jvm.Cond.code x code maxLocals ret :: tables_1
/-- a 'code' word, met by the world's own term for the bytes: nothing is compared byte by byte -/
theorem code_word {y : MethodName} {bytes : ByteArray} {mx : Nat} {rt : Option FieldType} {a : Array Value} {s : State} {m : MethodId} {meth : Method} {c : Code} (h1 : s.methodNamed? y = some m) (h2 : s.vm.method? m = some meth) (h3 : meth.code = some c) (h4 : c.code = bytes)
    (h5 : (c.maxLocals == mx && c.exceptionTable.isEmpty && decide (c.maxStack ≤ mostOperands) && decide (meth.sig.returnType = rt) && !meth.locks && decide (parseMethodDescriptor y.desc = some meth.sig)) = true) : (Jvm.Cond.code y bytes mx rt).before a s = true := by
  simp only [Bool.and_eq_true, beq_iff_eq, Bool.not_eq_true', decide_eq_true_eq] at h5
  obtain ⟨⟨⟨⟨⟨g1, g2⟩, g3⟩, g4⟩, g5⟩, g6⟩ := h5
  simp [Cond.before, Cond.holds, Cond.value, h1, h2, h3, h4, g1, g2, g3, g4, g5, g6]
def isCode : Jvm.Cond → Bool
  | .code _ _ _ _ => true
  | _ => false
theorem all_split {L : List Jvm.Cond} {P : Jvm.Cond → Bool} (h1 : L.all (fun c => isCode c || P c) = true) (h2 : ∀ c ∈ L.filter isCode, P c = true) : L.all P = true := by
  refine List.all_eq_true.mpr fun c hc => ?_
  have h := List.all_eq_true.mp h1 c hc
  rcases Bool.eq_false_or_eq_true (isCode c) with hi | hi
  · exact h2 c (List.mem_filter.mpr ⟨hc, hi⟩)
  · simpa [hi] using h
set_option maxRecDepth 65536 in
theorem w_c0 : (Jvm.Cond.code x code maxLocals ret).before args0 about1 = true := code_word (m := ⟨1, 4⟩) (meth := k1m4) (c := k1c4) (by decide +kernel) rfl rfl rfl (by decide +kernel)
set_option maxRecDepth 65536 in
theorem w_c1 : (Jvm.Cond.code ({ cls := "com/example/tideline/tideline/TableNameToStringPinLaw", name := "mk", desc := "(II)Ljava/lang/String;" } : Jvm.MethodName) method_3_code (2 : Nat) (Option.some (Jvm.ClassFile.FieldType.object "java/lang/String"))).before args0 about1 = true := code_word (m := ⟨1, 2⟩) (meth := k1m2) (c := k1c2) (by decide +kernel) rfl rfl rfl (by decide +kernel)
set_option maxRecDepth 65536 in
theorem w_c2 : (Jvm.Cond.code ({ cls := "com/example/tideline/tideline/TableNameToStringPinLaw", name := "ch", desc := "(II)C" } : Jvm.MethodName) method_2_code (2 : Nat) (Option.some Jvm.ClassFile.FieldType.char)).before args0 about1 = true := code_word (m := ⟨1, 1⟩) (meth := k1m1) (c := k1c1) (by decide +kernel) rfl rfl rfl (by decide +kernel)
set_option maxRecDepth 65536 in
theorem w_c3 : (Jvm.Cond.code ({ cls := "java/lang/String", name := "<init>", desc := "([C)V" } : Jvm.MethodName) jdk_42_method_3_code (2 : Nat) (Option.none : Option Jvm.ClassFile.FieldType)).before args0 about1 = true := code_word (m := ⟨7, 1⟩) (meth := k7m1) (c := k7c1) (by decide +kernel) rfl rfl rfl (by decide +kernel)
set_option maxRecDepth 65536 in
theorem w_c4 : (Jvm.Cond.code ({ cls := "java/lang/String", name := "<init>", desc := "([CIILjava/lang/Void;)V" } : Jvm.MethodName) jdk_42_method_149_code (6 : Nat) (Option.none : Option Jvm.ClassFile.FieldType)).before args0 about1 = true := code_word (m := ⟨7, 6⟩) (meth := k7m6) (c := k7c6) (by decide +kernel) rfl rfl rfl (by decide +kernel)
set_option maxRecDepth 65536 in
theorem w_c5 : (Jvm.Cond.code ({ cls := "java/lang/Object", name := "<init>", desc := "()V" } : Jvm.MethodName) object_method_1_code (1 : Nat) (Option.none : Option Jvm.ClassFile.FieldType)).before args0 about1 = true := code_word (m := ⟨0, 0⟩) (meth := k0m0) (c := k0c0) (by decide +kernel) rfl rfl rfl (by decide +kernel)
set_option maxRecDepth 65536 in
theorem w_c6 : (Jvm.Cond.code ({ cls := "java/lang/StringUTF16", name := "compress", desc := "([CII)[B" } : Jvm.MethodName) jdk_52_method_16_code (6 : Nat) (Option.some (Jvm.ClassFile.FieldType.array Jvm.ClassFile.FieldType.byte))).before args0 about1 = true := code_word (m := ⟨8, 2⟩) (meth := k8m2) (c := k8c2) (by decide +kernel) rfl rfl rfl (by decide +kernel)
set_option maxRecDepth 65536 in
theorem w_c7 : (Jvm.Cond.code ({ cls := "java/lang/StringUTF16", name := "compress", desc := "([CI[BII)I" } : Jvm.MethodName) jdk_52_method_21_code (7 : Nat) (Option.some Jvm.ClassFile.FieldType.int)).before args0 about1 = true := code_word (m := ⟨8, 3⟩) (meth := k8m3) (c := k8c3) (by decide +kernel) rfl rfl rfl (by decide +kernel)
set_option maxRecDepth 65536 in
theorem w_c8 : (Jvm.Cond.code ({ cls := "java/lang/StringUTF16", name := "coderFromArrayLen", desc := "([BI)B" } : Jvm.MethodName) jdk_52_method_15_code (2 : Nat) (Option.some Jvm.ClassFile.FieldType.byte)).before args0 about1 = true := code_word (m := ⟨8, 1⟩) (meth := k8m1) (c := k8c1) (by decide +kernel) rfl rfl rfl (by decide +kernel)
set_option maxRecDepth 65536 in
theorem w_c9 : (Jvm.Cond.code ({ cls := "com/example/tideline/tideline/TableName", name := "<init>", desc := "(Ljava/lang/String;Ljava/lang/String;)V" } : Jvm.MethodName) prog_34_method_1_code (3 : Nat) (Option.none : Option Jvm.ClassFile.FieldType)).before args0 about1 = true := code_word (m := ⟨10, 0⟩) (meth := k10m0) (c := k10c0) (by decide +kernel) rfl rfl rfl (by decide +kernel)
set_option maxRecDepth 65536 in
theorem w_c10 : (Jvm.Cond.code ({ cls := "java/lang/Record", name := "<init>", desc := "()V" } : Jvm.MethodName) jdk_30_method_1_code (1 : Nat) (Option.none : Option Jvm.ClassFile.FieldType)).before args0 about1 = true := code_word (m := ⟨9, 0⟩) (meth := k9m0) (c := k9c0) (by decide +kernel) rfl rfl rfl (by decide +kernel)
set_option maxRecDepth 65536 in
theorem w_c11 : (Jvm.Cond.code ({ cls := "com/example/tideline/tideline/TableName", name := "toString", desc := "()Ljava/lang/String;" } : Jvm.MethodName) prog_34_method_4_code (1 : Nat) (Option.some (Jvm.ClassFile.FieldType.object "java/lang/String"))).before args0 about1 = true := code_word (m := ⟨10, 1⟩) (meth := k10m1) (c := k10c1) (by decide +kernel) rfl rfl rfl (by decide +kernel)
set_option maxRecDepth 65536 in
theorem w_c12 : (Jvm.Cond.code ({ cls := "java/lang/StringBuilder", name := "<init>", desc := "()V" } : Jvm.MethodName) jdk_67_method_1_code (1 : Nat) (Option.none : Option Jvm.ClassFile.FieldType)).before args0 about1 = true := code_word (m := ⟨13, 0⟩) (meth := k13m0) (c := k13c0) (by decide +kernel) rfl rfl rfl (by decide +kernel)
set_option maxRecDepth 65536 in
theorem w_c13 : (Jvm.Cond.code ({ cls := "java/lang/AbstractStringBuilder", name := "<init>", desc := "(I)V" } : Jvm.MethodName) jdk_68_method_2_code (2 : Nat) (Option.none : Option Jvm.ClassFile.FieldType)).before args0 about1 = true := code_word (m := ⟨12, 1⟩) (meth := k12m1) (c := k12c1) (by decide +kernel) rfl rfl rfl (by decide +kernel)
set_option maxRecDepth 65536 in
theorem w_c14 : (Jvm.Cond.code ({ cls := "java/lang/StringBuilder", name := "append", desc := "(Ljava/lang/String;)Ljava/lang/StringBuilder;" } : Jvm.MethodName) jdk_67_method_7_code (2 : Nat) (Option.some (Jvm.ClassFile.FieldType.object "java/lang/StringBuilder"))).before args0 about1 = true := code_word (m := ⟨13, 1⟩) (meth := k13m1) (c := k13c1) (by decide +kernel) rfl rfl rfl (by decide +kernel)
set_option maxRecDepth 65536 in
theorem w_c15 : (Jvm.Cond.code ({ cls := "java/lang/AbstractStringBuilder", name := "append", desc := "(Ljava/lang/String;)Ljava/lang/AbstractStringBuilder;" } : Jvm.MethodName) jdk_68_method_22_code (3 : Nat) (Option.some (Jvm.ClassFile.FieldType.object "java/lang/AbstractStringBuilder"))).before args0 about1 = true := code_word (m := ⟨12, 4⟩) (meth := k12m4) (c := k12c4) (by decide +kernel) rfl rfl rfl (by decide +kernel)
set_option maxRecDepth 65536 in
theorem w_c16 : (Jvm.Cond.code ({ cls := "java/lang/String", name := "length", desc := "()I" } : Jvm.MethodName) jdk_42_method_54_code (1 : Nat) (Option.some Jvm.ClassFile.FieldType.int)).before args0 about1 = true := code_word (m := ⟨7, 3⟩) (meth := k7m3) (c := k7c3) (by decide +kernel) rfl rfl rfl (by decide +kernel)
set_option maxRecDepth 65536 in
theorem w_c17 : (Jvm.Cond.code ({ cls := "java/lang/String", name := "coder", desc := "()B" } : Jvm.MethodName) jdk_42_method_152_code (1 : Nat) (Option.some Jvm.ClassFile.FieldType.byte)).before args0 about1 = true := code_word (m := ⟨7, 8⟩) (meth := k7m8) (c := k7c8) (by decide +kernel) rfl rfl rfl (by decide +kernel)
set_option maxRecDepth 65536 in
theorem w_c18 : (Jvm.Cond.code ({ cls := "java/lang/AbstractStringBuilder", name := "ensureCapacityInternal", desc := "(I)V" } : Jvm.MethodName) jdk_68_method_9_code (3 : Nat) (Option.none : Option Jvm.ClassFile.FieldType)).before args0 about1 = true := code_word (m := ⟨12, 3⟩) (meth := k12m3) (c := k12c3) (by decide +kernel) rfl rfl rfl (by decide +kernel)
set_option maxRecDepth 65536 in
theorem w_c19 : (Jvm.Cond.code ({ cls := "java/lang/AbstractStringBuilder", name := "putStringAt", desc := "(ILjava/lang/String;)V" } : Jvm.MethodName) jdk_68_method_73_code (3 : Nat) (Option.none : Option Jvm.ClassFile.FieldType)).before args0 about1 = true := code_word (m := ⟨12, 8⟩) (meth := k12m8) (c := k12c8) (by decide +kernel) rfl rfl rfl (by decide +kernel)
set_option maxRecDepth 65536 in
theorem w_c20 : (Jvm.Cond.code ({ cls := "java/lang/AbstractStringBuilder", name := "inflateIfNeededFor", desc := "(Ljava/lang/String;)V" } : Jvm.MethodName) jdk_68_method_71_code (2 : Nat) (Option.none : Option Jvm.ClassFile.FieldType)).before args0 about1 = true := code_word (m := ⟨12, 7⟩) (meth := k12m7) (c := k12c7) (by decide +kernel) rfl rfl rfl (by decide +kernel)
set_option maxRecDepth 65536 in
theorem w_c21 : (Jvm.Cond.code ({ cls := "java/lang/String", name := "getBytes", desc := "([BIB)V" } : Jvm.MethodName) jdk_42_method_147_code (4 : Nat) (Option.none : Option Jvm.ClassFile.FieldType)).before args0 about1 = true := code_word (m := ⟨7, 5⟩) (meth := k7m5) (c := k7c5) (by decide +kernel) rfl rfl rfl (by decide +kernel)
set_option maxRecDepth 65536 in
theorem w_c22 : (Jvm.Cond.code ({ cls := "java/lang/StringBuilder", name := "toString", desc := "()Ljava/lang/String;" } : Jvm.MethodName) jdk_67_method_42_code (1 : Nat) (Option.some (Jvm.ClassFile.FieldType.object "java/lang/String"))).before args0 about1 = true := code_word (m := ⟨13, 2⟩) (meth := k13m2) (c := k13c2) (by decide +kernel) rfl rfl rfl (by decide +kernel)
set_option maxRecDepth 65536 in
theorem w_c23 : (Jvm.Cond.code ({ cls := "java/lang/String", name := "<init>", desc := "(Ljava/lang/StringBuilder;)V" } : Jvm.MethodName) jdk_42_method_53_code (2 : Nat) (Option.none : Option Jvm.ClassFile.FieldType)).before args0 about1 = true := code_word (m := ⟨7, 2⟩) (meth := k7m2) (c := k7c2) (by decide +kernel) rfl rfl rfl (by decide +kernel)
set_option maxRecDepth 65536 in
theorem w_c24 : (Jvm.Cond.code ({ cls := "java/lang/String", name := "<init>", desc := "(Ljava/lang/AbstractStringBuilder;Ljava/lang/Void;)V" } : Jvm.MethodName) jdk_42_method_150_code (5 : Nat) (Option.none : Option Jvm.ClassFile.FieldType)).before args0 about1 = true := code_word (m := ⟨7, 7⟩) (meth := k7m7) (c := k7c7) (by decide +kernel) rfl rfl rfl (by decide +kernel)
set_option maxRecDepth 65536 in
theorem w_c25 : (Jvm.Cond.code ({ cls := "java/lang/AbstractStringBuilder", name := "getValue", desc := "()[B" } : Jvm.MethodName) jdk_68_method_64_code (1 : Nat) (Option.some (Jvm.ClassFile.FieldType.array Jvm.ClassFile.FieldType.byte))).before args0 about1 = true := code_word (m := ⟨12, 5⟩) (meth := k12m5) (c := k12c5) (by decide +kernel) rfl rfl rfl (by decide +kernel)
set_option maxRecDepth 65536 in
theorem w_c26 : (Jvm.Cond.code ({ cls := "java/lang/StringBuilder", name := "length", desc := "()I" } : Jvm.MethodName) jdk_67_method_93_code (1 : Nat) (Option.some Jvm.ClassFile.FieldType.int)).before args0 about1 = true := code_word (m := ⟨13, 3⟩) (meth := k13m3) (c := k13c3) (by decide +kernel) rfl rfl rfl (by decide +kernel)
set_option maxRecDepth 65536 in
theorem w_c27 : (Jvm.Cond.code ({ cls := "java/lang/AbstractStringBuilder", name := "length", desc := "()I" } : Jvm.MethodName) jdk_68_method_6_code (1 : Nat) (Option.some Jvm.ClassFile.FieldType.int)).before args0 about1 = true := code_word (m := ⟨12, 2⟩) (meth := k12m2) (c := k12c2) (by decide +kernel) rfl rfl rfl (by decide +kernel)
set_option maxRecDepth 65536 in
theorem w_c28 : (Jvm.Cond.code ({ cls := "java/lang/AbstractStringBuilder", name := "isLatin1", desc := "()Z" } : Jvm.MethodName) jdk_68_method_68_code (1 : Nat) (Option.some Jvm.ClassFile.FieldType.boolean)).before args0 about1 = true := code_word (m := ⟨12, 6⟩) (meth := k12m6) (c := k12c6) (by decide +kernel) rfl rfl rfl (by decide +kernel)
set_option maxRecDepth 65536 in
theorem w_c29 : (Jvm.Cond.code ({ cls := "java/util/Arrays", name := "copyOfRange", desc := "([BII)[B" } : Jvm.MethodName) jdk_65_method_132_code (3 : Nat) (Option.some (Jvm.ClassFile.FieldType.array Jvm.ClassFile.FieldType.byte))).before args0 about1 = true := code_word (m := ⟨15, 2⟩) (meth := k15m2) (c := k15c2) (by decide +kernel) rfl rfl rfl (by decide +kernel)
set_option maxRecDepth 65536 in
theorem w_c30 : (Jvm.Cond.code ({ cls := "java/util/Arrays", name := "copyOfRangeByte", desc := "([BII)[B" } : Jvm.MethodName) jdk_65_method_133_code (5 : Nat) (Option.some (Jvm.ClassFile.FieldType.array Jvm.ClassFile.FieldType.byte))).before args0 about1 = true := code_word (m := ⟨15, 3⟩) (meth := k15m3) (c := k15c3) (by decide +kernel) rfl rfl rfl (by decide +kernel)
set_option maxRecDepth 65536 in
theorem w_c31 : (Jvm.Cond.code ({ cls := "java/util/Arrays", name := "checkLength", desc := "(II)V" } : Jvm.MethodName) jdk_65_method_131_code (2 : Nat) (Option.none : Option Jvm.ClassFile.FieldType)).before args0 about1 = true := code_word (m := ⟨15, 1⟩) (meth := k15m1) (c := k15c1) (by decide +kernel) rfl rfl rfl (by decide +kernel)
set_option maxRecDepth 65536 in
theorem w_c32 : (Jvm.Cond.code ({ cls := "java/lang/Math", name := "min", desc := "(II)I" } : Jvm.MethodName) jdk_29_method_69_code (2 : Nat) (Option.some Jvm.ClassFile.FieldType.int)).before args0 about1 = true := code_word (m := ⟨16, 1⟩) (meth := k16m1) (c := k16c1) (by decide +kernel) rfl rfl rfl (by decide +kernel)
set_option maxRecDepth 65536 in
theorem w_c33 : (Jvm.Cond.code ({ cls := "java/lang/String", name := "charAt", desc := "(I)C" } : Jvm.MethodName) jdk_42_method_56_code (2 : Nat) (Option.some Jvm.ClassFile.FieldType.char)).before args0 about1 = true := code_word (m := ⟨7, 4⟩) (meth := k7m4) (c := k7c4) (by decide +kernel) rfl rfl rfl (by decide +kernel)
set_option maxRecDepth 65536 in
theorem w_c34 : (Jvm.Cond.code ({ cls := "java/lang/String", name := "isLatin1", desc := "()Z" } : Jvm.MethodName) jdk_42_method_154_code (1 : Nat) (Option.some Jvm.ClassFile.FieldType.boolean)).before args0 about1 = true := code_word (m := ⟨7, 9⟩) (meth := k7m9) (c := k7c9) (by decide +kernel) rfl rfl rfl (by decide +kernel)
set_option maxRecDepth 65536 in
theorem w_c35 : (Jvm.Cond.code ({ cls := "java/lang/StringLatin1", name := "charAt", desc := "([BI)C" } : Jvm.MethodName) jdk_43_method_2_code (2 : Nat) (Option.some Jvm.ClassFile.FieldType.char)).before args0 about1 = true := code_word (m := ⟨17, 1⟩) (meth := k17m1) (c := k17c1) (by decide +kernel) rfl rfl rfl (by decide +kernel)
set_option maxRecDepth 65536 in
theorem w_c36 : (Jvm.Cond.code ({ cls := "java/lang/String", name := "checkIndex", desc := "(II)V" } : Jvm.MethodName) jdk_42_method_155_code (2 : Nat) (Option.none : Option Jvm.ClassFile.FieldType)).before args0 about1 = true := code_word (m := ⟨7, 10⟩) (meth := k7m10) (c := k7c10) (by decide +kernel) rfl rfl rfl (by decide +kernel)
set_option maxRecDepth 65536 in
theorem w_c37 : (Jvm.Cond.code ({ cls := "jdk/internal/util/Preconditions", name := "checkIndex", desc := "(IILjava/util/function/BiFunction;)I" } : Jvm.MethodName) jdk_41_method_11_code (3 : Nat) (Option.some Jvm.ClassFile.FieldType.int)).before args0 about1 = true := code_word (m := ⟨18, 1⟩) (meth := k18m1) (c := k18c1) (by decide +kernel) rfl rfl rfl (by decide +kernel)
set_option maxRecDepth 65536 in
theorem w_c38 : (Jvm.Cond.code ({ cls := "com/example/tideline/tideline/TableNameToStringPinLaw", name := "at", desc := "(Ljava/lang/String;IIIC)Z" } : Jvm.MethodName) method_4_code (5 : Nat) (Option.some Jvm.ClassFile.FieldType.boolean)).before args0 about1 = true := code_word (m := ⟨1, 3⟩) (meth := k1m3) (c := k1c3) (by decide +kernel) rfl rfl rfl (by decide +kernel)
def codes1 : List Jvm.Cond := [Jvm.Cond.code x code maxLocals ret, Jvm.Cond.code ({ cls := "com/example/tideline/tideline/TableNameToStringPinLaw", name := "mk", desc := "(II)Ljava/lang/String;" } : Jvm.MethodName) method_3_code (2 : Nat) (Option.some (Jvm.ClassFile.FieldType.object "java/lang/String")), Jvm.Cond.code ({ cls := "com/example/tideline/tideline/TableNameToStringPinLaw", name := "ch", desc := "(II)C" } : Jvm.MethodName) method_2_code (2 : Nat) (Option.some Jvm.ClassFile.FieldType.char), Jvm.Cond.code ({ cls := "java/lang/String", name := "<init>", desc := "([C)V" } : Jvm.MethodName) jdk_42_method_3_code (2 : Nat) (Option.none : Option Jvm.ClassFile.FieldType), Jvm.Cond.code ({ cls := "java/lang/String", name := "<init>", desc := "([CIILjava/lang/Void;)V" } : Jvm.MethodName) jdk_42_method_149_code (6 : Nat) (Option.none : Option Jvm.ClassFile.FieldType), Jvm.Cond.code ({ cls := "java/lang/Object", name := "<init>", desc := "()V" } : Jvm.MethodName) object_method_1_code (1 : Nat) (Option.none : Option Jvm.ClassFile.FieldType), Jvm.Cond.code ({ cls := "java/lang/StringUTF16", name := "compress", desc := "([CII)[B" } : Jvm.MethodName) jdk_52_method_16_code (6 : Nat) (Option.some (Jvm.ClassFile.FieldType.array Jvm.ClassFile.FieldType.byte)), Jvm.Cond.code ({ cls := "java/lang/StringUTF16", name := "compress", desc := "([CI[BII)I" } : Jvm.MethodName) jdk_52_method_21_code (7 : Nat) (Option.some Jvm.ClassFile.FieldType.int), Jvm.Cond.code ({ cls := "java/lang/StringUTF16", name := "coderFromArrayLen", desc := "([BI)B" } : Jvm.MethodName) jdk_52_method_15_code (2 : Nat) (Option.some Jvm.ClassFile.FieldType.byte), Jvm.Cond.code ({ cls := "com/example/tideline/tideline/TableName", name := "<init>", desc := "(Ljava/lang/String;Ljava/lang/String;)V" } : Jvm.MethodName) prog_34_method_1_code (3 : Nat) (Option.none : Option Jvm.ClassFile.FieldType), Jvm.Cond.code ({ cls := "java/lang/Record", name := "<init>", desc := "()V" } : Jvm.MethodName) jdk_30_method_1_code (1 : Nat) (Option.none : Option Jvm.ClassFile.FieldType), Jvm.Cond.code ({ cls := "com/example/tideline/tideline/TableName", name := "toString", desc := "()Ljava/lang/String;" } : Jvm.MethodName) prog_34_method_4_code (1 : Nat) (Option.some (Jvm.ClassFile.FieldType.object "java/lang/String")), Jvm.Cond.code ({ cls := "java/lang/StringBuilder", name := "<init>", desc := "()V" } : Jvm.MethodName) jdk_67_method_1_code (1 : Nat) (Option.none : Option Jvm.ClassFile.FieldType), Jvm.Cond.code ({ cls := "java/lang/AbstractStringBuilder", name := "<init>", desc := "(I)V" } : Jvm.MethodName) jdk_68_method_2_code (2 : Nat) (Option.none : Option Jvm.ClassFile.FieldType), Jvm.Cond.code ({ cls := "java/lang/StringBuilder", name := "append", desc := "(Ljava/lang/String;)Ljava/lang/StringBuilder;" } : Jvm.MethodName) jdk_67_method_7_code (2 : Nat) (Option.some (Jvm.ClassFile.FieldType.object "java/lang/StringBuilder")), Jvm.Cond.code ({ cls := "java/lang/AbstractStringBuilder", name := "append", desc := "(Ljava/lang/String;)Ljava/lang/AbstractStringBuilder;" } : Jvm.MethodName) jdk_68_method_22_code (3 : Nat) (Option.some (Jvm.ClassFile.FieldType.object "java/lang/AbstractStringBuilder")), Jvm.Cond.code ({ cls := "java/lang/String", name := "length", desc := "()I" } : Jvm.MethodName) jdk_42_method_54_code (1 : Nat) (Option.some Jvm.ClassFile.FieldType.int), Jvm.Cond.code ({ cls := "java/lang/String", name := "coder", desc := "()B" } : Jvm.MethodName) jdk_42_method_152_code (1 : Nat) (Option.some Jvm.ClassFile.FieldType.byte), Jvm.Cond.code ({ cls := "java/lang/AbstractStringBuilder", name := "ensureCapacityInternal", desc := "(I)V" } : Jvm.MethodName) jdk_68_method_9_code (3 : Nat) (Option.none : Option Jvm.ClassFile.FieldType), Jvm.Cond.code ({ cls := "java/lang/AbstractStringBuilder", name := "putStringAt", desc := "(ILjava/lang/String;)V" } : Jvm.MethodName) jdk_68_method_73_code (3 : Nat) (Option.none : Option Jvm.ClassFile.FieldType), Jvm.Cond.code ({ cls := "java/lang/AbstractStringBuilder", name := "inflateIfNeededFor", desc := "(Ljava/lang/String;)V" } : Jvm.MethodName) jdk_68_method_71_code (2 : Nat) (Option.none : Option Jvm.ClassFile.FieldType), Jvm.Cond.code ({ cls := "java/lang/String", name := "getBytes", desc := "([BIB)V" } : Jvm.MethodName) jdk_42_method_147_code (4 : Nat) (Option.none : Option Jvm.ClassFile.FieldType), Jvm.Cond.code ({ cls := "java/lang/StringBuilder", name := "toString", desc := "()Ljava/lang/String;" } : Jvm.MethodName) jdk_67_method_42_code (1 : Nat) (Option.some (Jvm.ClassFile.FieldType.object "java/lang/String")), Jvm.Cond.code ({ cls := "java/lang/String", name := "<init>", desc := "(Ljava/lang/StringBuilder;)V" } : Jvm.MethodName) jdk_42_method_53_code (2 : Nat) (Option.none : Option Jvm.ClassFile.FieldType), Jvm.Cond.code ({ cls := "java/lang/String", name := "<init>", desc := "(Ljava/lang/AbstractStringBuilder;Ljava/lang/Void;)V" } : Jvm.MethodName) jdk_42_method_150_code (5 : Nat) (Option.none : Option Jvm.ClassFile.FieldType), Jvm.Cond.code ({ cls := "java/lang/AbstractStringBuilder", name := "getValue", desc := "()[B" } : Jvm.MethodName) jdk_68_method_64_code (1 : Nat) (Option.some (Jvm.ClassFile.FieldType.array Jvm.ClassFile.FieldType.byte)), Jvm.Cond.code ({ cls := "java/lang/StringBuilder", name := "length", desc := "()I" } : Jvm.MethodName) jdk_67_method_93_code (1 : Nat) (Option.some Jvm.ClassFile.FieldType.int), Jvm.Cond.code ({ cls := "java/lang/AbstractStringBuilder", name := "length", desc := "()I" } : Jvm.MethodName) jdk_68_method_6_code (1 : Nat) (Option.some Jvm.ClassFile.FieldType.int), Jvm.Cond.code ({ cls := "java/lang/AbstractStringBuilder", name := "isLatin1", desc := "()Z" } : Jvm.MethodName) jdk_68_method_68_code (1 : Nat) (Option.some Jvm.ClassFile.FieldType.boolean), Jvm.Cond.code ({ cls := "java/util/Arrays", name := "copyOfRange", desc := "([BII)[B" } : Jvm.MethodName) jdk_65_method_132_code (3 : Nat) (Option.some (Jvm.ClassFile.FieldType.array Jvm.ClassFile.FieldType.byte)), Jvm.Cond.code ({ cls := "java/util/Arrays", name := "copyOfRangeByte", desc := "([BII)[B" } : Jvm.MethodName) jdk_65_method_133_code (5 : Nat) (Option.some (Jvm.ClassFile.FieldType.array Jvm.ClassFile.FieldType.byte)), Jvm.Cond.code ({ cls := "java/util/Arrays", name := "checkLength", desc := "(II)V" } : Jvm.MethodName) jdk_65_method_131_code (2 : Nat) (Option.none : Option Jvm.ClassFile.FieldType), Jvm.Cond.code ({ cls := "java/lang/Math", name := "min", desc := "(II)I" } : Jvm.MethodName) jdk_29_method_69_code (2 : Nat) (Option.some Jvm.ClassFile.FieldType.int), Jvm.Cond.code ({ cls := "java/lang/String", name := "charAt", desc := "(I)C" } : Jvm.MethodName) jdk_42_method_56_code (2 : Nat) (Option.some Jvm.ClassFile.FieldType.char), Jvm.Cond.code ({ cls := "java/lang/String", name := "isLatin1", desc := "()Z" } : Jvm.MethodName) jdk_42_method_154_code (1 : Nat) (Option.some Jvm.ClassFile.FieldType.boolean), Jvm.Cond.code ({ cls := "java/lang/StringLatin1", name := "charAt", desc := "([BI)C" } : Jvm.MethodName) jdk_43_method_2_code (2 : Nat) (Option.some Jvm.ClassFile.FieldType.char), Jvm.Cond.code ({ cls := "java/lang/String", name := "checkIndex", desc := "(II)V" } : Jvm.MethodName) jdk_42_method_155_code (2 : Nat) (Option.none : Option Jvm.ClassFile.FieldType), Jvm.Cond.code ({ cls := "jdk/internal/util/Preconditions", name := "checkIndex", desc := "(IILjava/util/function/BiFunction;)I" } : Jvm.MethodName) jdk_41_method_11_code (3 : Nat) (Option.some Jvm.ClassFile.FieldType.int), Jvm.Cond.code ({ cls := "com/example/tideline/tideline/TableNameToStringPinLaw", name := "at", desc := "(Ljava/lang/String;IIIC)Z" } : Jvm.MethodName) method_4_code (5 : Nat) (Option.some Jvm.ClassFile.FieldType.boolean)]
set_option maxRecDepth 65536 in
theorem codes_eq : words1.filter isCode = codes1 := rfl
theorem w_codes : ∀ c ∈ words1.filter isCode, c.before args0 about1 = true := by
  rw [codes_eq]
  intro c hc
  simp only [codes1, List.mem_cons, List.not_mem_nil, or_false] at hc
  rcases hc with rfl | rfl | rfl | rfl | rfl | rfl | rfl | rfl | rfl | rfl | rfl | rfl | rfl | rfl | rfl | rfl | rfl | rfl | rfl | rfl | rfl | rfl | rfl | rfl | rfl | rfl | rfl | rfl | rfl | rfl | rfl | rfl | rfl | rfl | rfl | rfl | rfl | rfl | rfl
  · exact w_c0
  · exact w_c1
  · exact w_c2
  · exact w_c3
  · exact w_c4
  · exact w_c5
  · exact w_c6
  · exact w_c7
  · exact w_c8
  · exact w_c9
  · exact w_c10
  · exact w_c11
  · exact w_c12
  · exact w_c13
  · exact w_c14
  · exact w_c15
  · exact w_c16
  · exact w_c17
  · exact w_c18
  · exact w_c19
  · exact w_c20
  · exact w_c21
  · exact w_c22
  · exact w_c23
  · exact w_c24
  · exact w_c25
  · exact w_c26
  · exact w_c27
  · exact w_c28
  · exact w_c29
  · exact w_c30
  · exact w_c31
  · exact w_c32
  · exact w_c33
  · exact w_c34
  · exact w_c35
  · exact w_c36
  · exact w_c37
  · exact w_c38
set_option maxRecDepth 65536 in
theorem w_t1 : (words1.take 24).all (fun c => isCode c || c.before args0 about1) = true := by decide +kernel
set_option maxRecDepth 65536 in
theorem w_t2 : ((words1.drop 24).take 24).all (fun c => isCode c || c.before args0 about1) = true := by decide +kernel
set_option maxRecDepth 65536 in
theorem w_t3 : (((words1.drop 24).drop 24).take 24).all (fun c => isCode c || c.before args0 about1) = true := by decide +kernel
set_option maxRecDepth 65536 in
theorem w_t4 : ((((words1.drop 24).drop 24).drop 24).take 24).all (fun c => isCode c || c.before args0 about1) = true := by decide +kernel
set_option maxRecDepth 65536 in
theorem w_t5 : (((((words1.drop 24).drop 24).drop 24).drop 24).take 24).all (fun c => isCode c || c.before args0 about1) = true := by decide +kernel
set_option maxRecDepth 65536 in
theorem w_t6 : ((((((words1.drop 24).drop 24).drop 24).drop 24).drop 24).take 24).all (fun c => isCode c || c.before args0 about1) = true := by decide +kernel
set_option maxRecDepth 65536 in
theorem w_t7 : (((((((words1.drop 24).drop 24).drop 24).drop 24).drop 24).drop 24).take 24).all (fun c => isCode c || c.before args0 about1) = true := by decide +kernel
set_option maxRecDepth 65536 in
theorem w_t8 : ((((((((words1.drop 24).drop 24).drop 24).drop 24).drop 24).drop 24).drop 24).take 24).all (fun c => isCode c || c.before args0 about1) = true := by decide +kernel
set_option maxRecDepth 65536 in
theorem w_t9 : ((((((((words1.drop 24).drop 24).drop 24).drop 24).drop 24).drop 24).drop 24).drop 24).all (fun c => isCode c || c.before args0 about1) = true := by decide +kernel
theorem w_tables : (allAtoms (Jvm.Cond.code x code maxLocals ret :: tables_1)).before args0 about1 = true := by
  rw [allAtoms_all]
  show words1.all (fun c => c.before args0 about1) = true
  refine all_split ?_ w_codes
  rw [← List.take_append_drop 24 words1, List.all_append, w_t1, ← List.take_append_drop 24 (words1.drop 24), List.all_append, w_t2, ← List.take_append_drop 24 ((words1.drop 24).drop 24), List.all_append, w_t3, ← List.take_append_drop 24 (((words1.drop 24).drop 24).drop 24), List.all_append, w_t4, ← List.take_append_drop 24 ((((words1.drop 24).drop 24).drop 24).drop 24), List.all_append, w_t5, ← List.take_append_drop 24 (((((words1.drop 24).drop 24).drop 24).drop 24).drop 24), List.all_append, w_t6, ← List.take_append_drop 24 ((((((words1.drop 24).drop 24).drop 24).drop 24).drop 24).drop 24), List.all_append, w_t7, ← List.take_append_drop 24 (((((((words1.drop 24).drop 24).drop 24).drop 24).drop 24).drop 24).drop 24), List.all_append, w_t8, w_t9]
  rfl
set_option maxRecDepth 65536 in
theorem w_rest : rest_1_c.before args0 about1 = true := by decide +kernel
set_option maxRecDepth 65536 in
theorem w_case : (Jvm.Cond.and given_1 narrow_1).before args0 about1 = true := by decide +kernel
set_option maxRecDepth 65536 in
theorem w_consts : constsHeld consts_1 about1 := Jvm.Lit.constsHeldB_iff.mp (by decide +kernel)
theorem w_applies : (headSpec (Jvm.Cond.code x code maxLocals ret :: tables_1) room_1).applies x e0.platform about1 = true :=
  (Spec.applies_iff w_frames).mpr ⟨w_running, w_runnable, w_alone, w_named, w_hears, w_ripe, w_room, w_tables⟩
theorem atStart : AtStart classFile x code maxLocals ret World_1 tables_1 room_1 Calls_1 rest_1 Pre_1 launch0 p0 e0 about1 theMethod args0 below0 :=
  ⟨lists_1, trivial, launch0.admits_env _ _ _, launch0.least_env, fairChoices_fair.cas, fairChoices_fair.clock, w_frames, w_args, w_heap, w_applies, ⟨w_consts, trivial⟩, w_rest, w_case⟩
end start1
theorem witness_1 : WitnessClaimed_1 := ⟨start1.p0, start1.e0, start1.about1, start1.theMethod, start1.args0, start1.below0, start1.atStart⟩
end Jvm.Pilot.@@N@@
