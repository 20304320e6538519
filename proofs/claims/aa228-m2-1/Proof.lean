import JvmDerived
import JvmDerived.Pilot.@@N@@Statement
import JvmDerived.Pilot.@@N@@Code
set_option linter.unusedVariables false
set_option linter.unusedSimpArgs false
/- laws to paste: Road.backV, Road.eqW, Road.codOf (cut by pick.py; bodies as the Statement names them) -/
namespace Jvm.Pilot.@@N@@
namespace StrChars
open Jvm Sem ClassFile Op Lib Jvm.Stand Jvm.Free.XT Jvm.Free.ALB Jvm.Free.JM Jvm.Free
open Jvm.Lib.Cold (StaticIs)
/-- a char array whose places are chars -/
def Ch (a : Addr) (A : Cell) (U : State) : Prop := Arr .char a A U ∧ Typed .char A
theorem Ch.mv {a : Addr} {A : Cell} {U U' : State} (h : Ch a A U) (hal : U.vm.Alike U'.vm) (hh : U'.heap = U.heap) : Ch a A U' := ⟨h.1.mv hal hh, h.2⟩
theorem Ch.keep {a : Addr} {A : Cell} {U U' : State} (h : Ch a A U) (hal : U.vm.Alike U'.vm) (hk : U'.heap[a]? = some A) : Ch a A U' := ⟨h.1.keep hal hk, h.2⟩
/-- what place i of a char[]'s cell holds -/
def cv (A : Cell) (i : Nat) : Int32 := match A.slots[i]? with | some (.int x) => x | _ => 0
theorem Ch.get {a : Addr} {A : Cell} {U : State} (h : Ch a A U) {i : Nat} (hi : i < A.slots.size) : A.slots[i]? = some (.int (cv A i)) := by
  have e := Array.getElem?_eq_getElem hi
  have f := h.2 i _ e
  unfold cv; rw [e]
  generalize A.slots[i] = v at f
  cases v <;> simp [fits] at f ⊢
/-- the byte that i2b leaves of a char -/
def lo8 (x : Int32) : Int32 := x.toInt8.toInt32
theorem fits_lo8 (y : Int32) : fits .byte (.int (lo8 y)) = true := by
  have h1 := y.toInt8.le_toInt
  have h2 := y.toInt8.toInt_lt
  simp only [lo8, fits, Bool.and_eq_true, decide_eq_true_eq, Int32.le_iff_toInt_le, Int8.toInt_toInt32, show (-128 : Int32).toInt = -128 from by decide, show (127 : Int32).toInt = 127 from by decide]
  omega
/-- A' is A but that each place j of lo .. hi - 1 holds f j -/
def Laid (A A' : Cell) (lo hi : Nat) (f : Nat → Value) : Prop := A'.cls = A.cls ∧ A'.vm = A.vm ∧ A'.slots.size = A.slots.size ∧ ∀ i, A'.slots[i]? = if lo ≤ i ∧ i < hi then some (f i) else A.slots[i]?
theorem Laid.zero (A : Cell) (lo : Nat) (f : Nat → Value) : Laid A A lo (lo + 0) f := ⟨rfl, rfl, rfl, fun i => by rw [if_neg (by omega)]⟩
theorem Laid.step {A Ak : Cell} {lo k : Nat} {f : Nat → Value} {v : Value} (h : Laid A Ak lo k f) (hlo : lo ≤ k) (hk : k < Ak.slots.size) (hv : v = f k) : Laid A (Ak.setSlot k v) lo (k + 1) f := by
  refine ⟨h.1, h.2.1, by simpa [Cell.setSlot] using h.2.2.1, fun i => ?_⟩
  by_cases e : k = i
  · subst e; rw [Cell.slots_setSlot_self v hk, if_pos (by omega), hv]
  · rw [Cell.slots_setSlot_ne v e, h.2.2.2 i]
    by_cases q : lo ≤ i ∧ i < k
    · rw [if_pos q, if_pos (by omega)]
    · rw [if_neg q, if_neg (by omega)]
def U16 : String := "java/lang/StringUTF16"
namespace Cmp5
def yN : MethodName := ⟨"java/lang/StringUTF16", "compress", "([CI[BII)I"⟩
abbrev yB : ByteArray := jdk_52_method_21_code
theorem d0 : decode yB 0 = .ok (.iconst 0, 1) := by decide +kernel
theorem d1 : decode yB 1 = .ok (.istore 5, 2) := by decide +kernel
theorem d3 : decode yB 3 = .ok (.iload 5, 2) := by decide +kernel
theorem d5 : decode yB 5 = .ok (.iload 4, 2) := by decide +kernel
theorem d7 : decode yB 7 = .ok (.if_icmp (.ge) 37, 3) := by decide +kernel
theorem d10 : decode yB 10 = .ok (.aload_n 0, 1) := by decide +kernel
theorem d11 : decode yB 11 = .ok (.iload_n 1, 1) := by decide +kernel
theorem d12 : decode yB 12 = .ok (.caload, 1) := by decide +kernel
theorem d13 : decode yB 13 = .ok (.istore 6, 2) := by decide +kernel
theorem d15 : decode yB 15 = .ok (.iload 6, 2) := by decide +kernel
theorem d17 : decode yB 17 = .ok (.sipush 255, 3) := by decide +kernel
theorem d20 : decode yB 20 = .ok (.if_icmp (.le) 6, 3) := by decide +kernel
theorem d26 : decode yB 26 = .ok (.aload_n 2, 1) := by decide +kernel
theorem d27 : decode yB 27 = .ok (.iload_n 3, 1) := by decide +kernel
theorem d28 : decode yB 28 = .ok (.iload 6, 2) := by decide +kernel
theorem d30 : decode yB 30 = .ok (.i2b, 1) := by decide +kernel
theorem d31 : decode yB 31 = .ok (.bastore, 1) := by decide +kernel
theorem d32 : decode yB 32 = .ok (.iinc 1 1, 3) := by decide +kernel
theorem d35 : decode yB 35 = .ok (.iinc 3 1, 3) := by decide +kernel
theorem d38 : decode yB 38 = .ok (.iinc 5 1, 3) := by decide +kernel
theorem d41 : decode yB 41 = .ok (.goto (-38), 3) := by decide +kernel
theorem d44 : decode yB 44 = .ok (.iload 4, 2) := by decide +kernel
theorem d46 : decode yB 46 = .ok (.ireturn, 1) := by decide +kernel
def site : List Cond := []
def tab : Cond := tabOf yN yB 7 (some .int) site
def P (b : Addr) (A : Cell) (d : Addr) (B : Cell) (o q len : Nat) (args : Array Value) (s : State) : Prop := args = #[.ref b, .int (Int32.ofNat o), .ref d, .int (Int32.ofNat q), .int (Int32.ofNat len)] ∧ Ch b A s ∧ Arr .byte d B s ∧ b ≠ d ∧ o + len ≤ A.slots.size ∧ q + len ≤ B.slots.size ∧ ∀ i, i < len → ¬ 255 < cv A (o + i)
def E (b : Addr) (A : Cell) (d : Addr) (B : Cell) (o q len : Nat) (r : Option Value) (s u : State) : Prop := r = some (.int (Int32.ofNat len)) ∧ ∃ B', Put d B' s u ∧ Laid B B' q (q + len) (fun j => Value.int (lo8 (cv A (o + (j - q)))))
/-- no char of the range above 255: len; the places written hold each char's low byte -/
theorem law (l : Launch) (b : Addr) (A : Cell) (d : Addr) (B : Cell) (o q len : Nat) : Law l yN 5 5 0 0 yB 7 (some .int) site (P b A d B o q len) (E b A d B o q len) (copyLocs d q len) 0 0 := by
  refine Law.of_walk (plainFor_of_name (by decide +kernel)) (by decide +kernel) (by decide +kernel) (by decide) (fun _ _ h => by rw [h.1]; rfl) (fun _ U U' hal hh h => ⟨h.1, h.2.1.mv hal hh, h.2.2.1.mv hal hh, h.2.2.2⟩) (fun r U U' V V' h1 hal h2 h => ⟨h.1, h.2.elim fun B' q => ⟨B', q.1.mv h1 h2, q.2⟩⟩) ?_
  intro p e s m args below meth c s₁ X0 hexec hbytes hml hret hlk hnm hown hh0 W hP
  obtain ⟨rfl, hA, hB, hne, l1, l2, hp⟩ := hP
  have c1 : Steps p.tables e below (s₁.setTop (entryFrame m #[.ref b, .int (Int32.ofNat o), .ref d, .int (Int32.ofNat q), .int (Int32.ofNat len)] 7)) (s₁.setTop (mkF m 0 #[.val (.ref b), .val (.int (Int32.ofNat o)), .val (.ref d), .val (.int (Int32.ofNat q)), .val (.int (Int32.ofNat len)), .unset, .unset] [])) := entry rfl
  have hA0 := hA.1.mv X0.warmed.alike hh0
  have hB0 := hB.mv X0.warmed.alike hh0
  have a31 := hA.1.2.2.2
  have c2 : Steps p.tables e below (s₁.setTop (entryFrame m #[.ref b, .int (Int32.ofNat o), .ref d, .int (Int32.ofNat q), .int (Int32.ofNat len)] 7)) (s₁.setTop (mkF m 3 #[.val (.ref b), .val (.int (Int32.ofNat o)), .val (.ref d), .val (.int (Int32.ofNat q)), .val (.int (Int32.ofNat len)), .val (.int 0), .unset] [])) := c1.trans (by
    refine iconstV X0.here hexec rfl 0 (hb hbytes d0) (by decide) ?_
    refine XS.istore X0.here hexec rfl (hb hbytes d1) rfl rfl ?_
    exact Steps.refl _)
  have loop : ∀ (r i : Nat), i + r = len → ∀ (z : Slot), (z = .unset ∨ ∃ w, z = .val w ∧ w.category = 1) → ∀ (Tl : State) (Bk : Cell), Stand p l e { frames := 0, locals := 0, cells := 0, slots := 0 } s m #[.ref b, .int (Int32.ofNat o), .ref d, .int (Int32.ofNat q), .int (Int32.ofNat len)] below meth c Tl ([] ++ copyLocs d q i) 0 0 → Put d Bk s₁ Tl → Laid B Bk q (q + i) (fun j => Value.int (lo8 (cv A (o + (j - q))))) →
      Steps p.tables e below (s₁.setTop (entryFrame m #[.ref b, .int (Int32.ofNat o), .ref d, .int (Int32.ofNat q), .int (Int32.ofNat len)] 7)) (Tl.setTop (mkF m 3 #[.val (.ref b), .val (.int (Int32.ofNat (o + i))), .val (.ref d), .val (.int (Int32.ofNat (q + i))), .val (.int (Int32.ofNat len)), .val (.int (Int32.ofNat i)), z] [])) → ∃ (T' : State) (B' : Cell) (z' : Slot), Stand p l e { frames := 0, locals := 0, cells := 0, slots := 0 } s m #[.ref b, .int (Int32.ofNat o), .ref d, .int (Int32.ofNat q), .int (Int32.ofNat len)] below meth c T' ([] ++ copyLocs d q len) 0 0 ∧ Put d B' s₁ T' ∧ Laid B B' q (q + len) (fun j => Value.int (lo8 (cv A (o + (j - q))))) ∧
      Steps p.tables e below (s₁.setTop (entryFrame m #[.ref b, .int (Int32.ofNat o), .ref d, .int (Int32.ofNat q), .int (Int32.ofNat len)] 7)) (T'.setTop (mkF m 3 #[.val (.ref b), .val (.int (Int32.ofNat (o + len))), .val (.ref d), .val (.int (Int32.ofNat (q + len))), .val (.int (Int32.ofNat len)), .val (.int (Int32.ofNat len)), z'] [])) := by
    intro r
    induction r with
    | zero =>
      intro i hi z hz Tl Bk Xl pl fl cl
      have hil : i = len := by omega
      rw [hil] at Xl fl cl
      exact ⟨Tl, Bk, z, Xl, pl, fl, cl⟩
    | succ r ih =>
      intro i hi z hz Tl Bk Xl pl fl cl
      have all := X0.warmed.alike.symm.trans Xl.warmed.alike
      have hAl := hA0.keep all (pl.other hne hA0.1)
      have hBk := hB0.like all pl.1 fl.1 fl.2.1 fl.2.2.1
      have hlt : q + i < Bk.slots.size := by rw [fl.2.2.1]; omega
      have c3 : Steps p.tables e below (s₁.setTop (entryFrame m #[.ref b, .int (Int32.ofNat o), .ref d, .int (Int32.ofNat q), .int (Int32.ofNat len)] 7)) (Tl.setTop (mkF m 12 #[.val (.ref b), .val (.int (Int32.ofNat (o + i))), .val (.ref d), .val (.int (Int32.ofNat (q + i))), .val (.int (Int32.ofNat len)), .val (.int (Int32.ofNat i)), z] [.int (Int32.ofNat (o + i)), .ref b])) := cl.trans (by
        refine XS.iload Xl.here hexec rfl (hb hbytes d3) rfl ?_
        refine XS.iload Xl.here hexec rfl (hb hbytes d5) rfl ?_
        refine XS.icmpNo Xl.here hexec rfl (hb hbytes d7) rfl (ii_ge_f (lt32 (by omega) (by omega))) ?_
        refine XS.aloadN Xl.here hexec rfl (hb hbytes d10) rfl rfl ?_
        refine XS.iloadN Xl.here hexec rfl (hb hbytes d11) rfl ?_
        exact Steps.refl _)
      have c4 : Steps p.tables e below (s₁.setTop (entryFrame m #[.ref b, .int (Int32.ofNat o), .ref d, .int (Int32.ofNat q), .int (Int32.ofNat len)] 7)) (Tl.setTop (mkF m 13 #[.val (.ref b), .val (.int (Int32.ofNat (o + i))), .val (.ref d), .val (.int (Int32.ofNat (q + i))), .val (.int (Int32.ofNat len)), .val (.int (Int32.ofNat i)), z] [.int (cv A (o + i))])) := c3.trans (by
        refine Xl.aget hexec hAl rfl (hA.get (i := o + i) (by omega)) rfl rfl (hb hbytes d12) ?_
        exact Steps.refl _)
      have c5 : Steps p.tables e below (s₁.setTop (entryFrame m #[.ref b, .int (Int32.ofNat o), .ref d, .int (Int32.ofNat q), .int (Int32.ofNat len)] 7)) (Tl.setTop (mkF m 15 #[.val (.ref b), .val (.int (Int32.ofNat (o + i))), .val (.ref d), .val (.int (Int32.ofNat (q + i))), .val (.int (Int32.ofNat len)), .val (.int (Int32.ofNat i)), .val (.int (cv A (o + i)))] [])) := c4.trans (by
        refine XS.istoreS Xl.here hexec rfl (hb hbytes d13) rfl rfl hz ?_
        exact Steps.refl _)
      have c6 : Steps p.tables e below (s₁.setTop (entryFrame m #[.ref b, .int (Int32.ofNat o), .ref d, .int (Int32.ofNat q), .int (Int32.ofNat len)] 7)) (Tl.setTop (mkF m 31 #[.val (.ref b), .val (.int (Int32.ofNat (o + i))), .val (.ref d), .val (.int (Int32.ofNat (q + i))), .val (.int (Int32.ofNat len)), .val (.int (Int32.ofNat i)), .val (.int (cv A (o + i)))] [.int (lo8 (cv A (o + i))), .int (Int32.ofNat (q + i)), .ref d])) := c5.trans (by
        refine XS.iload Xl.here hexec rfl (hb hbytes d15) rfl ?_
        refine sipushV Xl.here hexec rfl 255 (hb hbytes d17) (by decide) ?_
        refine XS.icmpYes Xl.here hexec rfl (pc0 := 20) rfl (hb hbytes d20) rfl (ii_le_t (hp i (by omega))) (by decide) rfl ?_
        refine XS.aloadN Xl.here hexec rfl (hb hbytes d26) rfl rfl ?_
        refine XS.iloadN Xl.here hexec rfl (hb hbytes d27) rfl ?_
        refine XS.iload Xl.here hexec rfl (hb hbytes d28) rfl ?_
        refine i2b Xl.here hexec rfl (hb hbytes d30) rfl ?_
        exact Steps.refl _)
      obtain ⟨T7, X7, p7, st7⟩ := Xl.aput hexec hBk rfl hlt rfl (fits_lo8 (cv A (o + i))) (g := (mkF m 31 #[.val (.ref b), .val (.int (Int32.ofNat (o + i))), .val (.ref d), .val (.int (Int32.ofNat (q + i))), .val (.int (Int32.ofNat len)), .val (.int (Int32.ofNat i)), .val (.int (cv A (o + i)))] [.int (lo8 (cv A (o + i))), .int (Int32.ofNat (q + i)), .ref d])) rfl (rest := []) rfl (hb hbytes d31)
      have c8 : Steps p.tables e below (s₁.setTop (entryFrame m #[.ref b, .int (Int32.ofNat o), .ref d, .int (Int32.ofNat q), .int (Int32.ofNat len)] 7)) (T7.setTop (mkF m 32 #[.val (.ref b), .val (.int (Int32.ofNat (o + i))), .val (.ref d), .val (.int (Int32.ofNat (q + i))), .val (.int (Int32.ofNat len)), .val (.int (Int32.ofNat i)), .val (.int (cv A (o + i)))] [])) := c6.trans (st7 _ (Steps.refl _))
      have c9 : Steps p.tables e below (s₁.setTop (entryFrame m #[.ref b, .int (Int32.ofNat o), .ref d, .int (Int32.ofNat q), .int (Int32.ofNat len)] 7)) (T7.setTop (mkF m 3 #[.val (.ref b), .val (.int (Int32.ofNat (o + i) + 1)), .val (.ref d), .val (.int (Int32.ofNat (q + i) + 1)), .val (.int (Int32.ofNat len)), .val (.int (Int32.ofNat i + 1)), .val (.int (cv A (o + i)))] [])) := c8.trans (by
        refine iincV X7.here hexec rfl 1 (hb hbytes d32) (by decide) rfl rfl ?_
        refine iincV X7.here hexec rfl 1 (hb hbytes d35) (by decide) rfl rfl ?_
        refine iincV X7.here hexec rfl 1 (hb hbytes d38) (by decide) rfl rfl ?_
        refine XS.goto X7.here hexec rfl (pc0 := 41) rfl (hb hbytes d41) (by decide) rfl ?_
        exact Steps.refl _)
      have c10 : Steps p.tables e below (s₁.setTop (entryFrame m #[.ref b, .int (Int32.ofNat o), .ref d, .int (Int32.ofNat q), .int (Int32.ofNat len)] 7)) (T7.setTop (mkF m 3 #[.val (.ref b), .val (.int (Int32.ofNat (o + (i + 1)))), .val (.ref d), .val (.int (Int32.ofNat (q + (i + 1)))), .val (.int (Int32.ofNat len)), .val (.int (Int32.ofNat (i + 1))), .val (.int (cv A (o + i)))] [])) := by
        have := c9
        rw [succ32, succ32, succ32] at this
        exact this
      exact ih (i + 1) (by omega) _ (Or.inr ⟨_, rfl, rfl⟩) T7 _ (by rw [copyLocs_step, ← List.append_assoc]; exact X7) (pl.trans p7) (fl.step (by omega) hlt (by simp)) c10
  obtain ⟨T9, B9, z9, X9, p9, f9, g9⟩ := loop len 0 (by omega) .unset (Or.inl rfl) s₁ B (by simpa [copyLocs] using X0) ⟨hB0.1, fun _ _ => rfl, rfl⟩ (Laid.zero _ _ _) c2
  have c11 : Steps p.tables e below (s₁.setTop (entryFrame m #[.ref b, .int (Int32.ofNat o), .ref d, .int (Int32.ofNat q), .int (Int32.ofNat len)] 7)) (T9.setTop (mkF m 46 #[.val (.ref b), .val (.int (Int32.ofNat (o + len))), .val (.ref d), .val (.int (Int32.ofNat (q + len))), .val (.int (Int32.ofNat len)), .val (.int (Int32.ofNat len)), z9] [.int (Int32.ofNat len)])) := g9.trans (by
    refine XS.iload X9.here hexec rfl (hb hbytes d3) rfl ?_
    refine XS.iload X9.here hexec rfl (hb hbytes d5) rfl ?_
    refine XS.icmpYes X9.here hexec rfl (pc0 := 7) rfl (hb hbytes d7) rfl (ii_ge_t (nlt32 (by omega) (Nat.le_refl _))) (by decide) rfl ?_
    refine XS.iload X9.here hexec rfl (hb hbytes d44) rfl ?_
    exact Steps.refl _)
  exact ⟨T9, some (.int (Int32.ofNat len)), _, _, _, X9, by simp, rfl, rfl, (fun h => by cases h), ⟨rfl, B9, p9.from hh0, f9⟩, fun fs hl => c11.trans (X9.ireturnOut hexec hret rfl (Or.inl rfl) (hb hbytes d46) hl)⟩
end Cmp5
namespace Cmp3
def yN : MethodName := ⟨"java/lang/StringUTF16", "compress", "([CII)[B"⟩
abbrev yB : ByteArray := jdk_52_method_16_code
theorem d0 : decode yB 0 = .ok (.iload_n 2, 1) := by decide +kernel
theorem d1 : decode yB 1 = .ok (.newarray .byte, 2) := by decide +kernel
theorem d3 : decode yB 3 = .ok (.astore_n 3, 1) := by decide +kernel
theorem d4 : decode yB 4 = .ok (.aload_n 0, 1) := by decide +kernel
theorem d5 : decode yB 5 = .ok (.iload_n 1, 1) := by decide +kernel
theorem d6 : decode yB 6 = .ok (.aload_n 3, 1) := by decide +kernel
theorem d7 : decode yB 7 = .ok (.iconst 0, 1) := by decide +kernel
theorem d8 : decode yB 8 = .ok (.iload_n 2, 1) := by decide +kernel
theorem d9 : decode yB 9 = .ok (.invokestatic 115, 3) := by decide +kernel
theorem d12 : decode yB 12 = .ok (.istore 4, 2) := by decide +kernel
theorem d14 : decode yB 14 = .ok (.iload 4, 2) := by decide +kernel
theorem d16 : decode yB 16 = .ok (.iload_n 2, 1) := by decide +kernel
theorem d17 : decode yB 17 = .ok (.if_icmp (.eq) 40, 3) := by decide +kernel
theorem d57 : decode yB 57 = .ok (.aload_n 3, 1) := by decide +kernel
theorem d58 : decode yB 58 = .ok (.areturn, 1) := by decide +kernel
def site : List Cond := [.arrayClass .byte, Cmp5.tab] ++ staticW U16 115 Cmp5.yN
def tab : Cond := tabOf yN yB 6 (some (.array .byte)) site
def P (b : Addr) (A : Cell) (o len : Nat) (args : Array Value) (s : State) : Prop := args = #[.ref b, .int (Int32.ofNat o), .int (Int32.ofNat len)] ∧ Ch b A s ∧ o + len ≤ A.slots.size ∧ len ≤ 536870912 ∧ ∀ i, i < len → ¬ 255 < cv A (o + i)
def E (b : Addr) (A : Cell) (o len : Nat) (r : Option Value) (s u : State) : Prop := NewArr .byte "[B" len (fun j => .int (lo8 (cv A (o + j)))) r s u ∧ u.heap.size = s.heap.size + 1
/-- no char of the range above 255: a new byte[] of their low bytes -/
theorem law (l : Launch) (b : Addr) (A : Cell) (o len : Nat) : Law l yN 3 3 1 18 yB 6 (some (.array .byte)) site (P b A o len) (E b A o len) [] 1 len := by
  refine Law.of_walk (plainFor_of_name (by decide +kernel)) (by decide +kernel) (by decide +kernel) (by decide) (fun _ _ h => by rw [h.1]; rfl) (fun _ U U' hal hh h => ⟨h.1, h.2.1.mv hal hh, h.2.2⟩) (fun r U U' V V' h1 hal h2 h => ⟨NewArr.mv r U U' V V' h1 hal h2 h.1, by rw [h1, h2]; exact h.2⟩) ?_
  intro p e s m args below meth c s₁ X0 hexec hbytes hml hret hlk hnm hown hh0 W hP
  obtain ⟨rfl, hA, l1, l2, hp⟩ := hP
  have a31 := hA.1.2.2.2
  have c1 : Steps p.tables e below (s₁.setTop (entryFrame m #[.ref b, .int (Int32.ofNat o), .int (Int32.ofNat len)] 6)) (s₁.setTop (mkF m 0 #[.val (.ref b), .val (.int (Int32.ofNat o)), .val (.int (Int32.ofNat len)), .unset, .unset, .unset] [])) := entry rfl
  have c2 : Steps p.tables e below (s₁.setTop (entryFrame m #[.ref b, .int (Int32.ofNat o), .int (Int32.ofNat len)] 6)) (s₁.setTop (mkF m 1 #[.val (.ref b), .val (.int (Int32.ofNat o)), .val (.int (Int32.ofNat len)), .unset, .unset, .unset] [.int (Int32.ofNat len)])) := c1.trans (by
    refine XS.iloadN X0.here hexec rfl (hb hbytes d0) rfl ?_
    exact Steps.refl _)
  obtain ⟨T3, B3, X3, ba3, bs3, bv3, bh3, bf3, st3⟩ := X0.anew hexec (atype := .byte) (wk W (.arrayClass .byte)) rfl (by show len * 1 ≤ _; omega) (by omega) (g := (mkF m 1 #[.val (.ref b), .val (.int (Int32.ofNat o)), .val (.int (Int32.ofNat len)), .unset, .unset, .unset] [.int (Int32.ofNat len)])) rfl (hb hbytes d1) (rest := []) rfl (Nat.le_refl _) (by show 0 + len ≤ len; omega)
  rw [hh0] at ba3 st3
  have kp3 : XT.Kept s T3 := (XT.Kept.of_eq hh0).push bh3
  have hA3 := hA.keep X3.warmed.alike (kp3 _ _ hA.1.1)
  have hne : b ≠ s.heap.size := hA.1.ne
  have c4 : Steps p.tables e below (s₁.setTop (entryFrame m #[.ref b, .int (Int32.ofNat o), .int (Int32.ofNat len)] 6)) (T3.setTop (mkF m 3 #[.val (.ref b), .val (.int (Int32.ofNat o)), .val (.int (Int32.ofNat len)), .unset, .unset, .unset] [.ref s.heap.size])) := c2.trans (st3 _ (Steps.refl _))
  have c5 : Steps p.tables e below (s₁.setTop (entryFrame m #[.ref b, .int (Int32.ofNat o), .int (Int32.ofNat len)] 6)) (T3.setTop (mkF m 9 #[.val (.ref b), .val (.int (Int32.ofNat o)), .val (.int (Int32.ofNat len)), .val (.ref s.heap.size), .unset, .unset] [.int (Int32.ofNat len), .int 0, .ref s.heap.size, .int (Int32.ofNat o), .ref b])) := c4.trans (by
    refine XS.astoreN X3.here hexec rfl (hb hbytes d3) rfl rfl rfl ?_
    refine XS.aloadN X3.here hexec rfl (hb hbytes d4) rfl rfl ?_
    refine XS.iloadN X3.here hexec rfl (hb hbytes d5) rfl ?_
    refine XS.aloadN X3.here hexec rfl (hb hbytes d6) rfl rfl ?_
    refine iconstV X3.here hexec rfl 0 (hb hbytes d7) (by decide) ?_
    refine XS.iloadN X3.here hexec rfl (hb hbytes d8) rfl ?_
    exact Steps.refl _)
  obtain ⟨v6, T6, X6, E6, g6⟩ := X3.callS hexec (Cmp5.law l b A s.heap.size B3 o 0 len) hown (wks W (staticW U16 115 Cmp5.yN)) (wk W Cmp5.tab) (W := 0) (Nat.le_of_ble_eq_true rfl) (Nat.le_of_ble_eq_true rfl) (Nat.le_refl _) (by show 0 + len + 0 ≤ len; omega) (g := (mkF m 9 #[.val (.ref b), .val (.int (Int32.ofNat o)), .val (.int (Int32.ofNat len)), .val (.ref s.heap.size), .unset, .unset] [.int (Int32.ofNat len), .int (Int32.ofNat 0), .ref s.heap.size, .int (Int32.ofNat o), .ref b])) rfl (by rw [hml]; rfl) c5 (argsL := [.ref b, .int (Int32.ofNat o), .ref s.heap.size, .int (Int32.ofNat 0), .int (Int32.ofNat len)]) (rest := []) rfl rfl (by show 2 * 0 + 0 ≤ _; decide) (hb hbytes d9) (⟨rfl, hA3, ba3, hne, l1, by rw [bs3]; simp, hp⟩)
  obtain ⟨rfl, B6, p6, f6⟩ := E6
  have c7 : Steps p.tables e below (s₁.setTop (entryFrame m #[.ref b, .int (Int32.ofNat o), .int (Int32.ofNat len)] 6)) (T6.setTop (mkF m 12 #[.val (.ref b), .val (.int (Int32.ofNat o)), .val (.int (Int32.ofNat len)), .val (.ref s.heap.size), .unset, .unset] [.int (Int32.ofNat len)])) := g6
  have c8 : Steps p.tables e below (s₁.setTop (entryFrame m #[.ref b, .int (Int32.ofNat o), .int (Int32.ofNat len)] 6)) (T6.setTop (mkF m 58 #[.val (.ref b), .val (.int (Int32.ofNat o)), .val (.int (Int32.ofNat len)), .val (.ref s.heap.size), .val (.int (Int32.ofNat len)), .unset] [.ref s.heap.size])) := c7.trans (by
    refine XS.istore X6.here hexec rfl (hb hbytes d12) rfl rfl ?_
    refine XS.iload X6.here hexec rfl (hb hbytes d14) rfl ?_
    refine XS.iloadN X6.here hexec rfl (hb hbytes d16) rfl ?_
    refine XS.icmpYes X6.here hexec rfl (pc0 := 17) rfl (hb hbytes d17) rfl (ii_eq_t rfl) (by decide) rfl ?_
    refine XS.aloadN X6.here hexec rfl (hb hbytes d57) rfl rfl ?_
    exact Steps.refl _)
  have X8 := X6.wide (L' := []) (cells' := 1) (slots' := len) (fun x hx hlt => by
    simp only [List.nil_append, copyLocs, List.mem_map, List.mem_range] at hx
    obtain ⟨i, -, rfl⟩ := hx
    exact absurd hlt (Nat.lt_irrefl _)) (Nat.le_refl _) (by omega)
  exact ⟨T6, some (.ref s.heap.size), _, _, _, X8, rfl, rfl, rfl, (fun h => by cases h), ⟨⟨rfl, B6, ba3.like (X3.warmed.alike.symm.trans X6.warmed.alike) p6.1 f6.1 f6.2.1 f6.2.2.1, f6.2.1.trans bv3, by rw [X6.warmed.alike.findClass, f6.1]; exact bf3, by rw [f6.2.2.1, bs3]; simp, fun j hj => by rw [f6.2.2.2 j, if_pos (by omega)]; rfl, kp3.put p6 (Nat.le_refl _)⟩, by rw [p6.2.2, bh3, hh0]; simp⟩, fun fs hl => c8.trans (X8.areturnOut hexec rfl hret rfl (hb hbytes d58) hl)⟩
end Cmp3
namespace CodL
def yN : MethodName := ⟨"java/lang/StringUTF16", "coderFromArrayLen", "([BI)B"⟩
abbrev yB : ByteArray := jdk_52_method_15_code
theorem d0 : decode yB 0 = .ok (.iload_n 1, 1) := by decide +kernel
theorem d1 : decode yB 1 = .ok (.aload_n 0, 1) := by decide +kernel
theorem d2 : decode yB 2 = .ok (.arraylength, 1) := by decide +kernel
theorem d3 : decode yB 3 = .ok (.isub, 1) := by decide +kernel
theorem d4 : decode yB 4 = .ok (.bipush 31, 2) := by decide +kernel
theorem d6 : decode yB 6 = .ok (.iushr, 1) := by decide +kernel
theorem d7 : decode yB 7 = .ok (.i2b, 1) := by decide +kernel
theorem d8 : decode yB 8 = .ok (.ireturn, 1) := by decide +kernel
def site : List Cond := []
def tab : Cond := tabOf yN yB 2 (some .byte) site
def P (d : Addr) (B : Cell) (args : Array Value) (s : State) : Prop := args = #[.ref d, .int (Int32.ofNat B.slots.size)] ∧ Arr .byte d B s
def E (r : Option Value) (s u : State) : Prop := XT.PureE (some (.int 0)) r s u
/-- an array as long as the number of chars: LATIN1 -/
theorem law (l : Launch) (d : Addr) (B : Cell) : Law l yN 2 2 0 0 yB 2 (some .byte) site (P d B) E [] 0 0 := by
  refine Law.of_walk (plainFor_of_name (by decide +kernel)) (by decide +kernel) (by decide +kernel) (by decide) (fun _ _ h => by rw [h.1]; rfl) (fun _ U U' hal hh h => ⟨h.1, h.2.mv hal hh⟩) (fun r U U' V V' h1 hal h2 h => XT.PureE.mv r U U' V V' h1 hal h2 h) ?_
  intro p e s m args below meth c s₁ X0 hexec hbytes hml hret hlk hnm hown hh0 W hP
  obtain ⟨rfl, hB⟩ := hP
  have hB0 := hB.mv X0.warmed.alike hh0
  have c1 : Steps p.tables e below (s₁.setTop (entryFrame m #[.ref d, .int (Int32.ofNat B.slots.size)] 2)) (s₁.setTop (mkF m 0 #[.val (.ref d), .val (.int (Int32.ofNat B.slots.size))] [])) := entry rfl
  have c2 : Steps p.tables e below (s₁.setTop (entryFrame m #[.ref d, .int (Int32.ofNat B.slots.size)] 2)) (s₁.setTop (mkF m 2 #[.val (.ref d), .val (.int (Int32.ofNat B.slots.size))] [.ref d, .int (Int32.ofNat B.slots.size)])) := c1.trans (by
    refine XS.iloadN X0.here hexec rfl (hb hbytes d0) rfl ?_
    refine XS.aloadN X0.here hexec rfl (hb hbytes d1) rfl rfl ?_
    exact Steps.refl _)
  have c3 : Steps p.tables e below (s₁.setTop (entryFrame m #[.ref d, .int (Int32.ofNat B.slots.size)] 2)) (s₁.setTop (mkF m 8 #[.val (.ref d), .val (.int (Int32.ofNat B.slots.size))] [.int (lo8 (ushr (Int32.ofNat B.slots.size - Int32.ofNat B.slots.size) 31))])) := c2.trans (by
    refine X0.alen hexec hB0 rfl rfl (hb hbytes d2) ?_
    refine XS.isub X0.here hexec rfl (hb hbytes d3) rfl ?_
    refine bipushV X0.here hexec rfl 31 (hb hbytes d4) (by decide) ?_
    refine iushr X0.here hexec rfl (hb hbytes d6) rfl ?_
    refine i2b X0.here hexec rfl (hb hbytes d7) rfl ?_
    exact Steps.refl _)
  have e0 : lo8 (ushr (Int32.ofNat B.slots.size - Int32.ofNat B.slots.size) 31) = 0 := by rw [Int32.sub_self]; decide
  rw [e0] at c3
  exact ⟨s₁, some (.int 0), _, _, _, X0, rfl, rfl, rfl, (fun h => by cases h), ⟨rfl, hh0⟩, fun fs hl => c3.trans (X0.ireturnOut hexec hret rfl (Or.inr (Or.inr (Or.inl rfl))) (hb hbytes d8) hl)⟩
end CodL
/-- the String at a is Latin-1 over a new byte[] (the heap's one new cell): the low bytes of the len chars of A from o on; every cell but a is kept -/
def Got (a : Addr) (D : Cell) (fV fC : Field) (A : Cell) (o len : Nat) (r : Option Value) (s u : State) : Prop := r = none ∧ ∃ D' V : Cell, Blank "java/lang/String" a D' u ∧ Same D D' [fV.slot, fC.slot] ∧ D'.slots[fV.slot]? = some (.ref s.heap.size) ∧ D'.slots[fC.slot]? = some (.int 0) ∧ Arr .byte s.heap.size V u ∧ V.vm = .none ∧ u.vm.findClass "[B" = some V.cls ∧ V.slots.size = len ∧ (∀ j, j < len → V.slots[j]? = some (.int (lo8 (cv A (o + j))))) ∧ (∀ (y : Addr) (c : Cell), y ≠ a → s.heap[y]? = some c → u.heap[y]? = some c) ∧ u.heap.size = s.heap.size + 1
theorem Got.mv {a : Addr} {D A : Cell} {fV fC : Field} {o len : Nat} : ∀ r (U U' V V' : State), U'.heap = U.heap → V.vm.Alike V'.vm → V'.heap = V.heap → Got a D fV fC A o len r U V → Got a D fV fC A o len r U' V' :=
  fun r U U' V V' h1 hal h2 ⟨e0, D', X, a1, a2, a3, a4, a5, a6, a7, a8, a9, a10, a11⟩ => ⟨e0, D', X, a1.mv hal h2, a2, by rw [h1]; exact a3, a4, by rw [h1]; exact a5.mv hal h2, a6, by rw [hal.findClass]; exact a7, a8, a9, by rw [h1, h2]; exact a10, by rw [h1, h2]; exact a11⟩
namespace New4
def yN : MethodName := ⟨"java/lang/String", "<init>", "([CIILjava/lang/Void;)V"⟩
abbrev yB : ByteArray := jdk_42_method_149_code
theorem d0 : decode yB 0 = .ok (.aload_n 0, 1) := by decide +kernel
theorem d1 : decode yB 1 = .ok (.invokespecial 1, 3) := by decide +kernel
theorem d4 : decode yB 4 = .ok (.iload_n 3, 1) := by decide +kernel
theorem d5 : decode yB 5 = .ok (.ifCond (.ne) 22, 3) := by decide +kernel
theorem d27 : decode yB 27 = .ok (.getstatic 38, 3) := by decide +kernel
theorem d30 : decode yB 30 = .ok (.ifCond (.eq) 28, 3) := by decide +kernel
theorem d33 : decode yB 33 = .ok (.aload_n 1, 1) := by decide +kernel
theorem d34 : decode yB 34 = .ok (.iload_n 2, 1) := by decide +kernel
theorem d35 : decode yB 35 = .ok (.iload_n 3, 1) := by decide +kernel
theorem d36 : decode yB 36 = .ok (.invokestatic 177, 3) := by decide +kernel
theorem d39 : decode yB 39 = .ok (.astore 5, 2) := by decide +kernel
theorem d41 : decode yB 41 = .ok (.aload_n 0, 1) := by decide +kernel
theorem d42 : decode yB 42 = .ok (.aload 5, 2) := by decide +kernel
theorem d44 : decode yB 44 = .ok (.iload_n 3, 1) := by decide +kernel
theorem d45 : decode yB 45 = .ok (.invokestatic 47, 3) := by decide +kernel
theorem d48 : decode yB 48 = .ok (.putfield 15, 3) := by decide +kernel
theorem d51 : decode yB 51 = .ok (.aload_n 0, 1) := by decide +kernel
theorem d52 : decode yB 52 = .ok (.aload 5, 2) := by decide +kernel
theorem d54 : decode yB 54 = .ok (.putfield 9, 3) := by decide +kernel
theorem d57 : decode yB 57 = .ok (.return_, 1) := by decide +kernel
def site : List Cond := [.fieldLink "java/lang/String" 38 "java/lang/String" "COMPACT_STRINGS" "Z", Cmp3.tab, CodL.tab, .laysFinal "java/lang/String" "java/lang/String" "value" "[B", .fieldLink "java/lang/String" 9 "java/lang/String" "value" "[B", .laysFinal "java/lang/String" "java/lang/String" "coder" "B", .fieldLink "java/lang/String" 15 "java/lang/String" "coder" "B"] ++ objW "java/lang/String" 1 ++ staticW "java/lang/String" 177 Cmp3.yN ++ staticW "java/lang/String" 47 CodL.yN
def tab : Cond := tabOf yN yB 6 none site
def P (a : Addr) (D : Cell) (fV fC : Field) (b : Addr) (A : Cell) (z : Int32) (o len : Nat) (args : Array Value) (s : State) : Prop := args = #[.ref a, .ref b, .int (Int32.ofNat o), .int (Int32.ofNat len), .null] ∧ Blank "java/lang/String" a D s ∧ Found "java/lang/String" "value" "[B" fV s ∧ Found "java/lang/String" "coder" "B" fC s ∧ Ch b A s ∧ StaticIs s "java/lang/String" "COMPACT_STRINGS" "Z" (.int z) ∧ ¬ z = 0 ∧ 0 < len ∧ o + len ≤ A.slots.size ∧ len ≤ 536870912 ∧ ∀ i, i < len → ¬ 255 < cv A (o + i)
def E (a : Addr) (D : Cell) (fV fC : Field) (A : Cell) (o len : Nat) (r : Option Value) (s u : State) : Prop := Got a D fV fC A o len r s u
/-- len > 0, no char of the range above 255: a Latin-1 String of their low bytes -/
theorem law (l : Launch) (a : Addr) (D : Cell) (fV fC : Field) (b : Addr) (A : Cell) (z : Int32) (o len : Nat) : Law l yN 5 4 2 35 yB 6 none site (P a D fV fC b A z o len) (E a D fV fC A o len) [⟨a, fC.slot⟩, ⟨a, fV.slot⟩] 1 len := by
  refine Law.of_walk (plainFor_of_name (by decide +kernel)) (by decide +kernel) (by decide +kernel) (by decide) (fun _ _ h => by rw [h.1]; rfl) (fun _ U U' hal hh h => ⟨h.1, h.2.1.mv hal hh, h.2.2.1.al hal, h.2.2.2.1.al hal, h.2.2.2.2.1.mv hal hh, h.2.2.2.2.2.1.there hal hh, h.2.2.2.2.2.2⟩) (fun r U U' V V' h1 hal h2 h => Got.mv r U U' V V' h1 hal h2 h) ?_
  intro p e s m args below meth c s₁ X0 hexec hbytes hml hret hlk hnm hown hh0 W hP
  obtain ⟨rfl, hB, f1, f2, hA, s1, hz, l0, l1, l2, hp⟩ := hP
  have a31 := hA.1.2.2.2
  have c1 : Steps p.tables e below (s₁.setTop (entryFrame m #[.ref a, .ref b, .int (Int32.ofNat o), .int (Int32.ofNat len), .null] 6)) (s₁.setTop (mkF m 0 #[.val (.ref a), .val (.ref b), .val (.int (Int32.ofNat o)), .val (.int (Int32.ofNat len)), .val .null, .unset] [])) := entry rfl
  have c2 : Steps p.tables e below (s₁.setTop (entryFrame m #[.ref a, .ref b, .int (Int32.ofNat o), .int (Int32.ofNat len), .null] 6)) (s₁.setTop (mkF m 1 #[.val (.ref a), .val (.ref b), .val (.int (Int32.ofNat o)), .val (.int (Int32.ofNat len)), .val .null, .unset] [.ref a])) := c1.trans (by
    refine XS.aloadN X0.here hexec rfl (hb hbytes d0) rfl rfl ?_
    exact Steps.refl _)
  obtain ⟨T3, X3, q3, st3⟩ := X0.oinit hexec hown (wks W (objW "java/lang/String" 1)) (g := (mkF m 1 #[.val (.ref a), .val (.ref b), .val (.int (Int32.ofNat o)), .val (.int (Int32.ofNat len)), .val .null, .unset] [.ref a])) rfl (by rw [hml]; rfl) (rest := []) rfl (hb hbytes d1) (W := 0) (by show 2 * 0 + 0 ≤ _; decide) (Nat.le_of_ble_eq_true rfl) (Nat.le_of_ble_eq_true rfl)
  have hh3 := q3.trans hh0
  have c4 : Steps p.tables e below (s₁.setTop (entryFrame m #[.ref a, .ref b, .int (Int32.ofNat o), .int (Int32.ofNat len), .null] 6)) (T3.setTop (mkF m 27 #[.val (.ref a), .val (.ref b), .val (.int (Int32.ofNat o)), .val (.int (Int32.ofNat len)), .val .null, .unset] [])) := (c2.trans (st3 _ (Steps.refl _))).trans (by
    refine XS.iloadN X3.here hexec rfl (hb hbytes d4) rfl ?_
    refine XS.ifYes X3.here hexec rfl (pc0 := 5) rfl (hb hbytes d5) rfl (i0_ne_t (nz32 (by omega) l0)) (by decide) rfl ?_
    exact Steps.refl _)
  obtain ⟨T5, X5, q5, st5⟩ := X3.sget hexec hown (wk W (.fieldLink "java/lang/String" 38 "java/lang/String" "COMPACT_STRINGS" "Z")) s1 (fun _ _ h => by rw [hh3]; exact h) (g := (mkF m 27 #[.val (.ref a), .val (.ref b), .val (.int (Int32.ofNat o)), .val (.int (Int32.ofNat len)), .val .null, .unset] [])) rfl (hb hbytes d27)
  have hh5 := q5.trans hh3
  have c6 : Steps p.tables e below (s₁.setTop (entryFrame m #[.ref a, .ref b, .int (Int32.ofNat o), .int (Int32.ofNat len), .null] 6)) (T5.setTop (mkF m 30 #[.val (.ref a), .val (.ref b), .val (.int (Int32.ofNat o)), .val (.int (Int32.ofNat len)), .val .null, .unset] [.int z])) := c4.trans (st5 _ (Steps.refl _))
  have c7 : Steps p.tables e below (s₁.setTop (entryFrame m #[.ref a, .ref b, .int (Int32.ofNat o), .int (Int32.ofNat len), .null] 6)) (T5.setTop (mkF m 36 #[.val (.ref a), .val (.ref b), .val (.int (Int32.ofNat o)), .val (.int (Int32.ofNat len)), .val .null, .unset] [.int (Int32.ofNat len), .int (Int32.ofNat o), .ref b])) := c6.trans (by
    refine XS.ifNo X5.here hexec rfl (hb hbytes d30) rfl (i0_eq_f hz) ?_
    refine XS.aloadN X5.here hexec rfl (hb hbytes d33) rfl rfl ?_
    refine XS.iloadN X5.here hexec rfl (hb hbytes d34) rfl ?_
    refine XS.iloadN X5.here hexec rfl (hb hbytes d35) rfl ?_
    exact Steps.refl _)
  obtain ⟨v8, T8, X8, E8, g8⟩ := X5.callS hexec (Cmp3.law l b A o len) hown (wks W (staticW "java/lang/String" 177 Cmp3.yN)) (wk W Cmp3.tab) (W := 0) (Nat.le_of_ble_eq_true rfl) (Nat.le_of_ble_eq_true rfl) (Nat.le_refl _) (by show 0 + len ≤ len; omega) (g := (mkF m 36 #[.val (.ref a), .val (.ref b), .val (.int (Int32.ofNat o)), .val (.int (Int32.ofNat len)), .val .null, .unset] [.int (Int32.ofNat len), .int (Int32.ofNat o), .ref b])) rfl (by rw [hml]; rfl) c7 (argsL := [.ref b, .int (Int32.ofNat o), .int (Int32.ofNat len)]) (rest := []) rfl rfl (by show 2 * 0 + 0 ≤ _; decide) (hb hbytes d36) (⟨rfl, hA.mv X5.warmed.alike hh5, l1, l2, hp⟩)
  obtain ⟨e8, z8⟩ := E8
  obtain ⟨rfl, N, n1, n2, n3, n4, n5, n6⟩ := NewArr.mv _ T5 s _ _ hh5.symm (Vm.Alike.refl _) rfl e8
  rw [hh5] at z8
  have hB1 := hB.keep X8.warmed.alike (n6 _ _ hB.1)
  have hne : s.heap.size ≠ a := (Nat.ne_of_lt (Array.getElem?_eq_some_iff.mp hB.1).1).symm
  have c9 : Steps p.tables e below (s₁.setTop (entryFrame m #[.ref a, .ref b, .int (Int32.ofNat o), .int (Int32.ofNat len), .null] 6)) (T8.setTop (mkF m 39 #[.val (.ref a), .val (.ref b), .val (.int (Int32.ofNat o)), .val (.int (Int32.ofNat len)), .val .null, .unset] [.ref s.heap.size])) := g8
  have c10 : Steps p.tables e below (s₁.setTop (entryFrame m #[.ref a, .ref b, .int (Int32.ofNat o), .int (Int32.ofNat len), .null] 6)) (T8.setTop (mkF m 45 #[.val (.ref a), .val (.ref b), .val (.int (Int32.ofNat o)), .val (.int (Int32.ofNat len)), .val .null, .val (.ref s.heap.size)] [.int (Int32.ofNat N.slots.size), .ref s.heap.size, .ref a])) := by
    have hc : Steps p.tables e below (s₁.setTop (entryFrame m #[.ref a, .ref b, .int (Int32.ofNat o), .int (Int32.ofNat len), .null] 6)) (T8.setTop (mkF m 45 #[.val (.ref a), .val (.ref b), .val (.int (Int32.ofNat o)), .val (.int (Int32.ofNat len)), .val .null, .val (.ref s.heap.size)] [.int (Int32.ofNat len), .ref s.heap.size, .ref a])) := c9.trans (by
      refine XS.astore X8.here hexec rfl (hb hbytes d39) rfl rfl rfl ?_
      refine XS.aloadN X8.here hexec rfl (hb hbytes d41) rfl rfl ?_
      refine XS.aload X8.here hexec rfl (hb hbytes d42) rfl rfl ?_
      refine XS.iloadN X8.here hexec rfl (hb hbytes d44) rfl ?_
      exact Steps.refl _)
    rw [n4]; exact hc
  obtain ⟨v11, T11, X11, E11, g11⟩ := X8.callS hexec (CodL.law l s.heap.size N) hown (wks W (staticW "java/lang/String" 47 CodL.yN)) (wk W CodL.tab) (W := 1) (Nat.le_of_ble_eq_true rfl) (Nat.le_of_ble_eq_true rfl) (Nat.le_refl _) (by show 0 + len + 0 ≤ len; omega) (g := (mkF m 45 #[.val (.ref a), .val (.ref b), .val (.int (Int32.ofNat o)), .val (.int (Int32.ofNat len)), .val .null, .val (.ref s.heap.size)] [.int (Int32.ofNat N.slots.size), .ref s.heap.size, .ref a])) rfl (by rw [hml]; rfl) c10 (argsL := [.ref s.heap.size, .int (Int32.ofNat N.slots.size)]) (rest := [.ref a]) rfl rfl (by show 2 * 0 + (1 + 0) ≤ _; decide) (hb hbytes d45) (⟨rfl, n1⟩)
  obtain ⟨rfl, q11⟩ := E11
  have hB11 := hB1.mv (X8.warmed.alike.symm.trans X11.warmed.alike) q11
  have c12 : Steps p.tables e below (s₁.setTop (entryFrame m #[.ref a, .ref b, .int (Int32.ofNat o), .int (Int32.ofNat len), .null] 6)) (T11.setTop (mkF m 48 #[.val (.ref a), .val (.ref b), .val (.int (Int32.ofNat o)), .val (.int (Int32.ofNat len)), .val .null, .val (.ref s.heap.size)] [.int 0, .ref a])) := g11
  obtain ⟨T13, X13, p13, bl13, sl13, st13⟩ := X11.finit hexec hown (wk W (.fieldLink "java/lang/String" 15 "java/lang/String" "coder" "B")) (Or.inr ⟨_, (wk W (.laysFinal "java/lang/String" "java/lang/String" "coder" "B"))⟩) (Or.inl ⟨rfl, hnm⟩) f2 (Or.inl rfl) hB11 (t := .byte) (by decide +kernel) rfl (g := (mkF m 48 #[.val (.ref a), .val (.ref b), .val (.int (Int32.ofNat o)), .val (.int (Int32.ofNat len)), .val .null, .val (.ref s.heap.size)] [.int 0, .ref a])) rfl (rest := []) rfl (hb hbytes d48)
  have c14 : Steps p.tables e below (s₁.setTop (entryFrame m #[.ref a, .ref b, .int (Int32.ofNat o), .int (Int32.ofNat len), .null] 6)) (T13.setTop (mkF m 54 #[.val (.ref a), .val (.ref b), .val (.int (Int32.ofNat o)), .val (.int (Int32.ofNat len)), .val .null, .val (.ref s.heap.size)] [.ref s.heap.size, .ref a])) := (c12.trans (st13 _ (Steps.refl _))).trans (by
    refine XS.aloadN X13.here hexec rfl (hb hbytes d51) rfl rfl ?_
    refine XS.aload X13.here hexec rfl (hb hbytes d52) rfl rfl ?_
    exact Steps.refl _)
  obtain ⟨T15, X15, p15, bl15, sl15, st15⟩ := X13.finit hexec hown (wk W (.fieldLink "java/lang/String" 9 "java/lang/String" "value" "[B")) (Or.inr ⟨_, (wk W (.laysFinal "java/lang/String" "java/lang/String" "value" "[B"))⟩) (Or.inl ⟨rfl, hnm⟩) f1 (Or.inl rfl) bl13 (t := (.array .byte)) (by decide +kernel) rfl (g := (mkF m 54 #[.val (.ref a), .val (.ref b), .val (.int (Int32.ofNat o)), .val (.int (Int32.ofNat len)), .val .null, .val (.ref s.heap.size)] [.ref s.heap.size, .ref a])) rfl (rest := []) rfl (hb hbytes d54)
  have c16 : Steps p.tables e below (s₁.setTop (entryFrame m #[.ref a, .ref b, .int (Int32.ofNat o), .int (Int32.ofNat len), .null] 6)) (T15.setTop (mkF m 57 #[.val (.ref a), .val (.ref b), .val (.int (Int32.ofNat o)), .val (.int (Int32.ofNat len)), .val .null, .val (.ref s.heap.size)] [])) := c14.trans (st15 _ (Steps.refl _))
  have ap := apart (Or.inr ⟨_, (wk W (.laysFinal "java/lang/String" "java/lang/String" "value" "[B"))⟩) (Or.inr ⟨_, (wk W (.laysFinal "java/lang/String" "java/lang/String" "coder" "B"))⟩) f1 f2 (t₁ := .array .byte) (t₂ := .byte) (by decide +kernel) (by decide +kernel) (by decide)
  have al := X8.warmed.alike.symm.trans X15.warmed.alike
  have n7 : T11.heap[s.heap.size]? = some N := by rw [q11]; exact n1.1
  exact ⟨T15, none, _, _, _, X15, by simp, rfl, by omega, (fun _ => rfl), ⟨rfl, _, N, bl15, ((Same.refl D _).set _ (by simp)).set _ (by simp), sl15, (Cell.slots_setSlot_ne _ ap).trans sl13, n1.keep al (p15.other hne (p13.other hne n7)), n2, by rw [al.findClass]; exact n3, n4, n5, fun y c h1 h2 => p15.other h1 (p13.other h1 (by rw [q11]; exact n6 y c h2)), by rw [p15.2.2, p13.2.2, q11]; exact z8⟩, fun fs hl => c16.trans (X15.returnOut hexec hret (hb hbytes d57) hl)⟩
end New4
namespace New1
def yN : MethodName := ⟨"java/lang/String", "<init>", "([C)V"⟩
abbrev yB : ByteArray := jdk_42_method_3_code
theorem d0 : decode yB 0 = .ok (.aload_n 0, 1) := by decide +kernel
theorem d1 : decode yB 1 = .ok (.aload_n 1, 1) := by decide +kernel
theorem d2 : decode yB 2 = .ok (.iconst 0, 1) := by decide +kernel
theorem d3 : decode yB 3 = .ok (.aload_n 1, 1) := by decide +kernel
theorem d4 : decode yB 4 = .ok (.arraylength, 1) := by decide +kernel
theorem d5 : decode yB 5 = .ok (.aconst_null, 1) := by decide +kernel
theorem d6 : decode yB 6 = .ok (.invokespecial 27, 3) := by decide +kernel
theorem d9 : decode yB 9 = .ok (.return_, 1) := by decide +kernel
def site : List Cond := [New4.tab] ++ initW "java/lang/String" 27 New4.yN
def tab : Cond := tabOf yN yB 2 none site
def P (a : Addr) (D : Cell) (fV fC : Field) (b : Addr) (A : Cell) (z : Int32) (args : Array Value) (s : State) : Prop := args = #[.ref a, .ref b] ∧ Blank "java/lang/String" a D s ∧ Found "java/lang/String" "value" "[B" fV s ∧ Found "java/lang/String" "coder" "B" fC s ∧ Ch b A s ∧ StaticIs s "java/lang/String" "COMPACT_STRINGS" "Z" (.int z) ∧ ¬ z = 0 ∧ 0 < A.slots.size ∧ A.slots.size ≤ 536870912 ∧ ∀ i, i < A.slots.size → ¬ 255 < cv A i
def E (a : Addr) (D : Cell) (fV fC : Field) (A : Cell) (r : Option Value) (s u : State) : Prop := Got a D fV fC A 0 A.slots.size r s u
/-- new String(chars), not empty, no char above 255: a Latin-1 String of their low bytes -/
theorem law (l : Launch) (a : Addr) (D : Cell) (fV fC : Field) (b : Addr) (A : Cell) (z : Int32) : Law l yN 2 1 3 52 yB 2 none site (P a D fV fC b A z) (E a D fV fC A) [⟨a, fC.slot⟩, ⟨a, fV.slot⟩] 1 A.slots.size := by
  refine Law.of_walk (plainFor_of_name (by decide +kernel)) (by decide +kernel) (by decide +kernel) (by decide) (fun _ _ h => by rw [h.1]; rfl) (fun _ U U' hal hh h => ⟨h.1, h.2.1.mv hal hh, h.2.2.1.al hal, h.2.2.2.1.al hal, h.2.2.2.2.1.mv hal hh, h.2.2.2.2.2.1.there hal hh, h.2.2.2.2.2.2⟩) (fun r U U' V V' h1 hal h2 h => Got.mv r U U' V V' h1 hal h2 h) ?_
  intro p e s m args below meth c s₁ X0 hexec hbytes hml hret hlk hnm hown hh0 W hP
  obtain ⟨rfl, hB, f1, f2, hA, s1, hz, l0, l2, hp⟩ := hP
  have c1 : Steps p.tables e below (s₁.setTop (entryFrame m #[.ref a, .ref b] 2)) (s₁.setTop (mkF m 0 #[.val (.ref a), .val (.ref b)] [])) := entry rfl
  have c2 : Steps p.tables e below (s₁.setTop (entryFrame m #[.ref a, .ref b] 2)) (s₁.setTop (mkF m 6 #[.val (.ref a), .val (.ref b)] [.null, .int (Int32.ofNat A.slots.size), .int 0, .ref b, .ref a])) := c1.trans (by
    refine XS.aloadN X0.here hexec rfl (hb hbytes d0) rfl rfl ?_
    refine XS.aloadN X0.here hexec rfl (hb hbytes d1) rfl rfl ?_
    refine iconstV X0.here hexec rfl 0 (hb hbytes d2) (by decide) ?_
    refine XS.aloadN X0.here hexec rfl (hb hbytes d3) rfl rfl ?_
    refine X0.alen hexec (hA.1.mv X0.warmed.alike hh0) rfl rfl (hb hbytes d4) ?_
    refine XS.aconstNull X0.here hexec rfl (hb hbytes d5) ?_
    exact Steps.refl _)
  obtain ⟨v3, T3, X3, E3, g3⟩ := X0.callN hexec (New4.law l a D fV fC b A z 0 A.slots.size) rfl hown (wks W (initW "java/lang/String" 27 New4.yN)) (W New4.tab (by simp only [site, List.mem_cons, List.mem_append, true_or, or_true])) (W := 0) (Nat.le_of_ble_eq_true rfl) (Nat.le_of_ble_eq_true rfl) (Nat.le_refl _) (by show 0 + A.slots.size ≤ A.slots.size; omega) (g := (mkF m 6 #[.val (.ref a), .val (.ref b)] [.null, .int (Int32.ofNat A.slots.size), .int (Int32.ofNat 0), .ref b, .ref a])) rfl (by rw [hml]; rfl) c2 (argsL := [.ref b, .int (Int32.ofNat 0), .int (Int32.ofNat A.slots.size), .null]) (rest := []) rfl rfl (by show 2 * 0 + 0 ≤ _; decide) (hb hbytes d6) (⟨rfl, hB.mv X0.warmed.alike hh0, f1.al X0.warmed.alike, f2.al X0.warmed.alike, hA.mv X0.warmed.alike hh0, s1.there X0.warmed.alike hh0, hz, l0, by omega, l2, fun i hi => by rw [Nat.zero_add]; exact hp i hi⟩)
  have e0 := Got.mv _ s₁ s _ _ hh0.symm (Vm.Alike.refl _) rfl E3
  obtain rfl := e0.1
  have c4 : Steps p.tables e below (s₁.setTop (entryFrame m #[.ref a, .ref b] 2)) (T3.setTop (mkF m 9 #[.val (.ref a), .val (.ref b)] [])) := g3
  exact ⟨T3, none, _, _, _, X3, by simp, rfl, by omega, (fun _ => rfl), e0, fun fs hl => c4.trans (X3.returnOut hexec hret (hb hbytes d9) hl)⟩
theorem pays {l : Launch} {R : Room} {p : Program} {e : Env} {below : List Frame} {s : State} {sargs : Array Value} {len W : Nat} (a : Addr) (D : Cell) (fV fC : Field) (b : Addr) (A : Cell) (z : Int32) (htab : tab.before sargs s = true) (hfr : 4 ≤ R.frames) (hlo : W + 65 ≤ R.locals) :
    Back l R p e below s sargs yN len W (fun A₁ a₁ => A₁.cells + 1 ≤ R.cells ∧ A₁.slots + A.slots.size ≤ R.slots ∧ P a D fV fC b A z a₁ A₁.U) (fun A₁ _ v₁ B₁ => E a D fV fC A v₁ A₁.U B₁.U ∧ B₁.locs = A₁.locs ++ [⟨a, fC.slot⟩, ⟨a, fV.slot⟩] ∧ B₁.cells = A₁.cells + 1 ∧ B₁.slots = A₁.slots + A.slots.size) :=
  (law l a D fV fC b A z).pays htab hfr (by omega)
end New1
/-- the byte, read back as charAt reads it, is the char -/
theorem lo8_mask {x : Int32} (h0 : ¬ x < 0) (h1 : ¬ 255 < x) : lo8 x &&& 255 = x := by
  have t : ∀ k : Fin 256, lo8 (Int32.ofNat k.val) &&& 255 = Int32.ofNat k.val := by decide +kernel
  rw [Int32.lt_iff_toInt_lt] at h0 h1
  have e0 : (0 : Int32).toInt = 0 := rfl
  have e1 : (255 : Int32).toInt = 255 := rfl
  obtain ⟨k, hk⟩ : ∃ k : Nat, x.toInt = k := ⟨x.toInt.toNat, by omega⟩
  have hx : x = Int32.ofNat k := Int32.toInt_inj.mp (by rw [hk, Int32.toInt_ofNat_small (by omega)])
  rw [hx]
  exact t ⟨k, by omega⟩
end StrChars
namespace StrChars.Road
open Jvm Sem ClassFile Op Lib Jvm.Stand Jvm.Free Jvm.Free.XT
open Jvm.Lib.Cold (StaticIs)
abbrev ST : String := "java/lang/String"
/-- every table word that New1's law asks, flat -/
abbrev words : List Jvm.Cond := [.code New1.yN New1.yB 2 none, .initialized ST, .methodLink ST 27 New4.yN, .instanceMethod New4.yN,
  .code New4.yN New4.yB 6 none, .fieldLink ST 38 ST "COMPACT_STRINGS" "Z", .laysFinal ST ST "value" "[B", .fieldLink ST 9 ST "value" "[B", .laysFinal ST ST "coder" "B", .fieldLink ST 15 ST "coder" "B",
  .methodLink ST 1 Lib.objectInit, .instanceMethod Lib.objectInit, .code Lib.objectInit ⟨#[0xb1]⟩ 1 none, .methodLink ST 177 Cmp3.yN, .static Cmp3.yN, .methodLink ST 47 CodL.yN, .static CodL.yN,
  .code Cmp3.yN Cmp3.yB 6 (some (.array .byte)), .initialized U16, .arrayClass .byte, .methodLink U16 115 Cmp5.yN, .static Cmp5.yN, .code Cmp5.yN Cmp5.yB 7 (some .int), .code CodL.yN CodL.yB 2 (some .byte)]
theorem tab_of {a : Array Value} {s : State} (h : ∀ w ∈ words, w.before a s = true) : New1.tab.before a s = true := by
  have h5 : Cmp5.tab.before a s = true := unparts (wk h (.code Cmp5.yN Cmp5.yB 7 (some .int))) (wks h (.initialized Cmp5.yN.cls :: Cmp5.site))
  have hc : CodL.tab.before a s = true := unparts (wk h (.code CodL.yN CodL.yB 2 (some .byte))) (wks h (.initialized CodL.yN.cls :: CodL.site))
  have q5 : ∀ w ∈ Cmp5.tab :: words, w.before a s = true := fun w hw => (List.mem_cons.mp hw).elim (fun e => e ▸ h5) (h w)
  have h3 : Cmp3.tab.before a s = true := unparts (wk q5 (.code Cmp3.yN Cmp3.yB 6 (some (.array .byte)))) (wks q5 (.initialized Cmp3.yN.cls :: Cmp3.site))
  have q3 : ∀ w ∈ Cmp3.tab :: CodL.tab :: words, w.before a s = true := fun w hw => (List.mem_cons.mp hw).elim (fun e => e ▸ h3) fun hw => (List.mem_cons.mp hw).elim (fun e => e ▸ hc) (h w)
  have h4 : New4.tab.before a s = true := unparts (wk q3 (.code New4.yN New4.yB 6 none)) (wks q3 (.initialized New4.yN.cls :: New4.site))
  have q4 : ∀ w ∈ New4.tab :: words, w.before a s = true := fun w hw => (List.mem_cons.mp hw).elim (fun e => e ▸ h4) (h w)
  exact unparts (wk q4 (.code New1.yN New1.yB 2 none)) (wks q4 (.initialized New1.yN.cls :: New1.site))
/-- the words ride from the start Z to the walk's own state -/
theorem moved {Z s : State} {a0 args : Array Value} (hZ : Z.Warmed39 s.vm) (hw : ∀ d ∈ words, d.before a0 Z = true) : ∀ d ∈ words, d.before args s = true := fun d hd => by
  have q := hw d hd
  have t : ∀ d ∈ words, d = .arrayClass .byte ∨ (d.onTables && d.keepsFace) = true := by decide +kernel
  rcases t d hd with rfl | t
  · exact RoadKit.mvA hZ q
  · exact RoadKit.mv hZ q t
/-- WHAT COMES BACK, over the tables of the start Z: h the heap at the call, h' behind it -/
def Q (Z : State) (x : Addr) (A : Cell) (h : Heap) (v : Option Value) (h' : Heap) (L : List Loc) : Prop := v = none ∧ (∀ y ∈ L, y.base = x) ∧ RoadKit.Keep h h' [x] ∧ h'.size = h.size + 1 ∧ RoadKit.Exa Z h' x ST ∧ RoadKit.Fld Z h' x ST "value" "[B" (.ref h.size) ∧ RoadKit.Fld Z h' x ST "coder" "B" (.int 0) ∧
  (∃ V : Cell, RoadKit.Arr Z h' h.size V .byte ∧ V.vm = .none ∧ Z.vm.findClass "[B" = some V.cls ∧ V.slots.size = A.slots.size ∧ ∀ j, j < A.slots.size → V.slots[j]? = some (.int (lo8 (cv A j)))) ∧
  ∀ (O n d : String) (w : Value), RoadKit.Fld Z h x O n d w → RoadKit.slotOf Z O n d ≠ RoadKit.slotOf Z ST "value" "[B" → RoadKit.slotOf Z O n d ≠ RoadKit.slotOf Z ST "coder" "B" → RoadKit.Fld Z h' x O n d w
/-- **new String(chars) AT A CALL, IN THE ROAD'S FORM**: for specialBack behind newO: x the fresh String, b the char[] with the cell A -/
theorem back {p : Program} {l : Launch} {e : Env} {R : Room} {s : State} {args : Array Value} {below : List Frame} {len W : Nat} {Z : State} {a0 : Array Value} {h : Heap} (hZ : Z.Warmed39 s.vm) (hw : ∀ d ∈ words, d.before a0 Z = true) {kI : Nat} (wi : (Jvm.Cond.instantiable ST kI).before a0 Z = true)
    {x b : Addr} {A : Cell} {z : Int32} {v0 c0 : Value} (E : RoadKit.Exa Z h x ST) (V : RoadKit.Fld Z h x ST "value" "[B" v0) (C : RoadKit.Fld Z h x ST "coder" "B" c0) (K : RoadKit.Arr Z h b A .char) (hty : Typed .char A) (S : RoadKit.Sta Z h ST "COMPACT_STRINGS" "Z" (.int z)) (hz : ¬ z = 0)
    (l0 : 0 < A.slots.size) (l2 : A.slots.size ≤ 536870912) (hp : ∀ i, i < A.slots.size → ¬ 255 < cv A i) (hfr : 4 ≤ R.frames) (hlo : W + 65 ≤ R.locals) :
    Back l R p e below s args New1.yN len W (fun P a => a = #[.ref x, .ref b] ∧ P.U.heap = h ∧ P.cells + 1 ≤ R.cells ∧ P.slots + A.slots.size ≤ R.slots)
      (fun P _ v B => ∃ L, Q Z x A h v B.U.heap L ∧ B.locs = P.locs ++ L ∧ B.cells = P.cells + 1 ∧ B.slots = P.slots + A.slots.size) := by
  intro m meth c P g ig mk a X hg hsize hdg hW hn hp'
  obtain ⟨rfl, rfl, r1, r2⟩ := hp'
  have al : Z.vm.Alike P.U.vm := hZ.alike.trans X.warmed.alike
  obtain ⟨D, cfV, kV, iV, fV, hD, gV, stV, knV, obV, asV, slV⟩ := id V
  obtain ⟨D', cfC, kC, iC, fC, hD', gC, stC, -, -, asC, slC⟩ := id C
  cases hD.symm.trans hD'
  obtain ⟨D2, kD, e1, e2, e3, e4, e5⟩ := id E
  cases hD.symm.trans e1
  obtain ⟨c2, k2, i1, i2, i3, -⟩ := Cond.instantiable_spec wi
  cases e2.symm.trans i1
  cases e3.symm.trans i2
  obtain ⟨kU, u1, u2⟩ := al.2.2 _ _ e3
  have hB : Blank ST x D P.U := ⟨hD, ⟨knV, fun q hq => by rw [hq] at obV; cases obV⟩, by rw [al.findClass]; exact e2, kU, u1, by rw [u2]; exact i3, by rw [u2]; exact e5 i3⟩
  have F1 : Found ST "value" "[B" fV P.U := ⟨SBG.found_only al ⟨cfV, kV, iV, gV⟩, stV⟩
  have F2 : Found ST "coder" "B" fC P.U := ⟨SBG.found_only al ⟨cfC, kC, iC, gC⟩, stC⟩
  have hA : Ch b A P.U := ⟨⟨K.1, State.isArrayOf_alike al K.2.1, K.2.2, by omega⟩, hty⟩
  have hS : StaticIs P.U ST "COMPACT_STRINGS" "Z" (.int z) := by
    obtain ⟨cfS, iS, kS, fS, st, cS, t1, t2, t3, t4, t5, t6, t7⟩ := S
    exact StaticIs.there (s := { Z with heap := P.U.heap }) ⟨cfS, iS, kS, fS, st, cS, t1, t2, t3, t4, t5, (fun q => by rw [q] at t6; cases t6), t7⟩ al rfl
  obtain ⟨v, B, X', ⟨⟨hv, E', V', q1, q2, q3, q4, q5, q6, q7, q8, q9, q10, q11⟩, hl, hc, hs⟩, st⟩ := New1.pays x D fV fC b A z (tab_of (moved hZ hw)) hfr hlo m meth c P g ig mk _ X hg hsize hdg hW hn ⟨r1, r2, rfl, hB, F1, F2, hA, hS, hz, l0, l2, hp⟩
  have al' : Z.vm.Alike B.U.vm := hZ.alike.trans X'.warmed.alike
  have hsz : E'.slots.size = D.slots.size := by
    obtain ⟨-, -, -, kB, w1, w2, w3⟩ := q1
    obtain ⟨kB', y1, y2⟩ := al'.2.2 _ _ e3
    rw [q2.2.1] at w1
    cases w1.symm.trans y1
    rw [w3, e5 i3, y2]
  refine ⟨v, B, X', ⟨_, ⟨hv, ?_, ⟨by omega, fun y cy hy hn' => q10 y cy (by simpa using hn') hy, fun y cy hy => ?_⟩, q11, ⟨E', _, q1.1, by rw [q2.2.1]; exact e2, by rw [q2.2.1]; exact e3, by rw [q2.1]; exact obV, fun _ => by rw [hsz]; exact e5 i3⟩,
    ⟨E', cfV, kV, iV, fV, q1.1, gV, stV, by rw [q2.1]; exact knV, by rw [q2.1]; exact obV, by rw [q2.2.1]; exact asV, q3⟩, ⟨E', cfC, kC, iC, fC, q1.1, gC, stC, by rw [q2.1]; exact knV, by rw [q2.1]; exact obV, by rw [q2.2.1]; exact asC, q4⟩,
    ⟨V', ⟨q5.1, State.isArrayOf_alike al'.symm q5.2.1, q5.2.2.1⟩, q6, by rw [← al'.findClass]; exact q7, q8, fun j hj => by have := q9 j hj; rwa [Nat.zero_add] at this⟩, fun O n d w F n1 n2 => ?_⟩, hl, hc, hs⟩, st⟩
  · intro y hy
    simp only [List.mem_cons, List.not_mem_nil, or_false] at hy
    rcases hy with rfl | rfl <;> rfl
  · by_cases q : y = x
    · subst q
      cases hD.symm.trans hy
      exact ⟨E', q1.1, q2.2.1, q2.1, hsz⟩
    · exact ⟨cy, q10 y cy q hy, rfl, rfl, rfl⟩
  · obtain ⟨D3, cf, k, i, f, g1, g2, g3, g4, g5, g6, g7⟩ := F
    cases hD.symm.trans g1
    simp only [RoadKit.slotOf, g2, gV, gC, Option.map_some, Option.getD_some] at n1 n2
    exact ⟨E', cf, k, i, f, q1.1, g2, g3, by rw [q2.1]; exact g4, by rw [q2.1]; exact g5, by rw [q2.2.1]; exact g6, by rw [q2.2.2 f.slot (by simp [n1, n2])]; exact g7⟩
end StrChars.Road
namespace StrChars.Road
open Jvm Sem ClassFile Op Lib Jvm.Stand Jvm.Free Jvm.Free.XT
/-- WHAT COMES BACK, the byte[] as a list of values -/
def QA (Z : State) (x : Addr) (zn : Int32) (cs : List Int32) (h : Heap) (v : Option Value) (h' : Heap) (L : List Loc) : Prop := v = none ∧ (∀ y ∈ L, y.base = x) ∧ RoadKit.Keep h h' [x] ∧ h'.size = h.size + 1 ∧ RoadKit.Exa Z h' x ST ∧ RoadKit.Fld Z h' x ST "value" "[B" (.ref h.size) ∧ RoadKit.Fld Z h' x ST "coder" "B" (.int 0) ∧
  (∃ kb, Z.vm.findClass "[B" = some kb ∧ RoadKit.Arv Z h' h.size kb .byte zn (cs.map fun c => .int (lo8 c)) (.int 0)) ∧
  ∀ (O n d : String) (w : Value), RoadKit.Fld Z h x O n d w → RoadKit.slotOf Z O n d ≠ RoadKit.slotOf Z ST "value" "[B" → RoadKit.slotOf Z O n d ≠ RoadKit.slotOf Z ST "coder" "B" → RoadKit.Fld Z h' x O n d w
/-- **new String(chars) AT A CALL, THE ARRAYS AS LISTS**: the char[] at b holds cs, not empty, no char above 255 -/
theorem backArv {p : Program} {l : Launch} {e : Env} {R : Room} {s : State} {args : Array Value} {below : List Frame} {len W : Nat} {Z : State} {a0 : Array Value} {h : Heap} (hZ : Z.Warmed39 s.vm) (hw : ∀ d ∈ words, d.before a0 Z = true) {kI : Nat} (wi : (Jvm.Cond.instantiable ST kI).before a0 Z = true)
    {x b : Addr} {k : ClassId} {zn z : Int32} {cs : List Int32} {dv v0 c0 : Value} (E : RoadKit.Exa Z h x ST) (V : RoadKit.Fld Z h x ST "value" "[B" v0) (C : RoadKit.Fld Z h x ST "coder" "B" c0) (K : RoadKit.Arv Z h b k .char zn (cs.map Value.int) dv) (S : RoadKit.Sta Z h ST "COMPACT_STRINGS" "Z" (.int z)) (hz : ¬ z = 0)
    (hlen : zn.toNatClampNeg = cs.length) (h0 : 0 < cs.length) (hbig : cs.length ≤ 536870912) (hall : ∀ c ∈ cs, ¬ 255 < c) (hfr : 4 ≤ R.frames) (hlo : W + 65 ≤ R.locals) :
    Back l R p e below s args New1.yN len W (fun P a => a = #[.ref x, .ref b] ∧ P.U.heap = h ∧ P.cells + 1 ≤ R.cells ∧ P.slots + cs.length ≤ R.slots)
      (fun P _ v B => ∃ L, QA Z x zn cs h v B.U.heap L ∧ B.locs = P.locs ++ L ∧ B.cells = P.cells + 1 ∧ B.slots = P.slots + cs.length) := by
  obtain ⟨A, K1, K2, K3, K4, K5, K6⟩ := K
  have e : A.slots.size = cs.length := K3.trans hlen
  have hat : ∀ (i : Nat) (hi : i < cs.length), A.slots[i]? = some (.int cs[i]) := fun i hi => by rw [K5 i (by omega)]; simp [List.getD_eq_getElem?_getD, hi]
  have hcv : ∀ (i : Nat) (hi : i < cs.length), cv A i = cs[i] := fun i hi => by unfold cv; rw [hat i hi]
  have hty : Typed .char A := fun i v hv => by
    have hi : i < A.slots.size := (Array.getElem?_eq_some_iff.mp hv).1
    have q := K5 i hi
    rw [hv] at q
    rw [Option.some.inj q]
    exact K6 i hi
  refine Back.mono (back hZ hw wi E V C K1 hty S hz (by omega) (by omega) (fun i hi => by rw [hcv i (by omega)]; exact hall _ (List.getElem_mem _)) hfr hlo) (fun P a hp => ⟨hp.1, hp.2.1, hp.2.2.1, by rw [e]; exact hp.2.2.2⟩) (fun P a v B hp hq => ?_)
  obtain ⟨L, ⟨q1, q2, q3, q4, q5, q6, q7, ⟨V', v1, v2, v3, v4, v5⟩, q9⟩, hl, hc, hs⟩ := hq
  refine ⟨L, ⟨q1, q2, q3, q4, q5, q6, q7, ⟨V'.cls, v3, V', v1, rfl, by rw [v4, e, hlen], K4, fun i hi => ?_, fun i hi => ?_⟩, q9⟩, hl, hc, by rw [hs, e]⟩
  · have hi' : i < cs.length := by omega
    rw [v5 i (by omega), hcv i hi']; simp [List.getD_eq_getElem?_getD, hi']
  · have hi' : i < cs.length := by omega
    simp only [List.getD_eq_getElem?_getD, List.getElem?_map, List.getElem?_eq_getElem hi', Option.map_some, Option.getD_some]
    exact fits_lo8 _
end StrChars.Road
namespace StrChars.Road
open Jvm Sem ClassFile Op Lib Jvm.Stand Jvm.Free Jvm.Free.XT
/-- WHAT COMES BACK, in the writer's own shape -/
def QV (Z : State) (x : Addr) (N : Int32) (bs : List Int32) (h : Heap) (n0 : Nat) (v : Option Value) (h' : Heap) (L : List Loc) : Prop := v = none ∧ RoadKit.Fr n0 L ∧ RoadKit.Keep h h' [x] ∧ RoadKit.Exa Z h' x ST ∧ RoadKit.Fld Z h' x ST "coder" "B" (.int 0) ∧
  ∃ (t : Addr) (kb : ClassId), n0 ≤ t ∧ h.size ≤ t ∧ ¬ t = x ∧ RoadKit.Fld Z h' x ST "value" "[B" (.ref t) ∧ RoadKit.Arv Z h' t kb .byte N (bs.map Value.int) (.int 0)
/-- **new String(chars) AT A CALL, FOR THE WRITER**: a char[] of n known ints, each 0 to 255 -/
theorem backV {p : Program} {l : Launch} {e : Env} {R : Room} {s : State} {args : Array Value} {below : List Frame} {len W : Nat} {Z : State} {a0 : Array Value} {h : Heap} (hZ : Z.Warmed39 s.vm) (hw : ∀ d ∈ words, d.before a0 Z = true) {kI : Nat} (wi : (Jvm.Cond.instantiable ST kI).before a0 Z = true)
    {x b : Addr} {kC : ClassId} {cs bs : List Int32} {d v0 c0 : Value} {z N : Int32} {n n0 : Nat} (hx0 : n0 ≤ x) (hh0 : n0 ≤ h.size) (E : RoadKit.Exa Z h x ST) (V : RoadKit.Fld Z h x ST "value" "[B" v0) (C : RoadKit.Fld Z h x ST "coder" "B" c0) (K : RoadKit.Arv Z h b kC .char N (cs.map Value.int) d) (S : RoadKit.Sta Z h ST "COMPACT_STRINGS" "Z" (.int z)) (hz : ¬ z = 0)
    (hn : cs.length = n) (hN : N = Int32.ofNat n) (l0 : 0 < n) (l2 : n ≤ 4000) (hp : ∀ c ∈ cs, ¬ c < 0 ∧ ¬ (255 : Int32) < c) (hb : bs = cs.map (fun c => c.toInt8.toInt32)) (hfr : 4 ≤ R.frames) (hlo : W + 65 ≤ R.locals) :
    Back l R p e below s args (⟨"java/lang/String", "<init>", "([C)V"⟩ : MethodName) len W (fun P a => a = #[.ref x, .ref b] ∧ P.U.heap = h ∧ P.cells + 1 ≤ R.cells ∧ P.slots + n ≤ R.slots)
      (fun P _ v B => ∃ L, QV Z x N bs h n0 v B.U.heap L ∧ B.locs = P.locs ++ L ∧ B.cells = P.cells + 1 ∧ B.slots = P.slots + n) := by
  subst hn hN hb
  refine Back.mono (backArv hZ hw wi E V C K S hz (n32 (by omega)) l0 (by omega) (fun c hc => (hp c hc).2) hfr hlo) (fun P a hp => hp) (fun P a v B hp hq => ?_)
  obtain ⟨L, ⟨q1, q2, q3, q4, q5, q6, q7, ⟨kb, v1, v2⟩, q9⟩, hl, hc, hs⟩ := hq
  exact ⟨L, ⟨q1, fun y hy => by rw [q2 y hy]; exact hx0, q3, q5, q7, h.size, kb, hh0, Nat.le_refl _, Nat.ne_of_gt E.lt, q6, by rw [List.map_map]; exact v2⟩, hl, hc, hs⟩
end StrChars.Road
namespace StrChars
open Jvm Sem ClassFile Op Lib Jvm.Stand Jvm.Free.XT Jvm.Free.ALB Jvm.Free.JM Jvm.Free
open Jvm.Lib.Cold (StaticIs)
def hi8 (x : Int32) : Int32 := lo8 (x >>> ((8 : Int32) &&& 31))
/-- what StringUTF16.getChar makes of two bytes -/
def pairCh (u v : Int32) : Int32 := (((u &&& 255) <<< ((0 : Int32) &&& 31)) ||| ((v &&& 255) <<< ((8 : Int32) &&& 31))).toUInt32.toUInt16.toUInt32.toInt32
theorem lo8_and (x : Int32) : (lo8 x &&& 255).toBitVec.toNat = x.toBitVec.toNat % 256 := by
  have h : (lo8 x).toBitVec = (x.toBitVec.signExtend 8).signExtend 32 := by rw [lo8, Int8.toBitVec_toInt32, Int32.toBitVec_toInt8]
  rw [Int32.toBitVec_and, BitVec.toNat_and, h]
  have e : ((x.toBitVec.signExtend 8).signExtend 32).toNat % 256 = x.toBitVec.toNat % 256 := by
    rw [BitVec.toNat_signExtend]
    have hlt := x.toBitVec.isLt
    simp only [BitVec.toNat_setWidth, BitVec.toNat_signExtend]
    split <;> split <;> omega
  rw [← e]
  exact Nat.and_two_pow_sub_one_eq_mod _ 8
theorem pair_says {c : Int32} (h0 : ¬ c < 0) (h1 : ¬ 65535 < c) : pairCh (lo8 c) (hi8 c) = c := by
  rw [Int32.lt_iff_toInt_lt] at h0 h1
  have e0 : (0 : Int32).toInt = 0 := rfl
  have e1 : (65535 : Int32).toInt = 65535 := rfl
  have hc : c.toInt = c.toBitVec.toNat := by
    have := c.toBitVec.isLt
    have e : c.toInt = c.toBitVec.toInt := rfl
    rw [e] at h0 h1
    rw [e]
    rw [BitVec.toInt_eq_toNat_cond] at h0 h1 ⊢
    split at h0 <;> split <;> omega
  have hn : c.toBitVec.toNat < 65536 := by omega
  have a1 := lo8_and c
  have a2 : (hi8 c &&& 255).toBitVec.toNat = c.toBitVec.toNat / 256 := by
    rw [hi8, lo8_and]
    have e : ((8 : Int32) &&& 31) = 8 := by decide
    rw [e, Int32.toBitVec_shiftRight]
    have e2 : ((8 : Int32).toBitVec.smod 32) = 8#32 := by decide
    rw [e2, BitVec.sshiftRight_eq', BitVec.toNat_sshiftRight_of_msb_false (by rw [BitVec.msb_eq_false_iff_two_mul_lt]; omega)]
    show c.toBitVec.toNat >>> 8 % 256 = _
    rw [Nat.shiftRight_eq_div_pow]
    omega
  unfold pairCh
  apply Int32.toBitVec_inj.mp
  apply BitVec.eq_of_toNat_eq
  have f0 : ((0 : Int32) &&& 31) = 0 := by decide
  have f8 : ((8 : Int32) &&& 31) = 8 := by decide
  rw [f0, f8]
  have g : (((lo8 c &&& 255) <<< (0 : Int32)) ||| ((hi8 c &&& 255) <<< (8 : Int32))).toBitVec.toNat = c.toBitVec.toNat := by
    rw [Int32.toBitVec_or, Int32.toBitVec_shiftLeft, Int32.toBitVec_shiftLeft]
    have s0 : ((0 : Int32).toBitVec.smod 32) = 0#32 := by decide
    have s8 : ((8 : Int32).toBitVec.smod 32) = 8#32 := by decide
    rw [s0, s8, BitVec.toNat_or]
    simp only [BitVec.shiftLeft_eq', BitVec.toNat_shiftLeft, a1, a2]
    show (c.toBitVec.toNat % 256) <<< 0 % 2 ^ 32 ||| (c.toBitVec.toNat / 256) <<< 8 % 2 ^ 32 = _
    rw [Nat.shiftLeft_zero, Nat.mod_eq_of_lt (show c.toBitVec.toNat % 256 < 2 ^ 32 by omega), Nat.mod_eq_of_lt (show (c.toBitVec.toNat / 256) <<< 8 < 2 ^ 32 by rw [Nat.shiftLeft_eq]; omega), Nat.or_comm, ← Nat.shiftLeft_add_eq_or_of_lt (by omega), Nat.shiftLeft_eq]
    omega
  show BitVec.toNat (((((lo8 c &&& 255) <<< (0 : Int32)) ||| ((hi8 c &&& 255) <<< (8 : Int32))).toBitVec.setWidth 16).setWidth 32) = _
  rw [BitVec.toNat_setWidth, BitVec.toNat_setWidth, g]
  omega
end StrChars
namespace StrChars
open Jvm Sem ClassFile Op Lib Jvm.Stand Jvm.Free.XT Jvm.Free.ALB Jvm.Free.JM Jvm.Free
open Jvm.Lib.Cold (StaticIs)
/-- the array's cell V codes the n chars f 0 .. f (n - 1) by the coder cd, as the JDK does: coder 1 just where some char is above 255 -/
def Cod (cd : Int32) (n : Nat) (f : Nat → Int32) (V : Cell) : Prop := (cd = 0 ∧ V.slots.size = n ∧ ∀ j, j < n → V.slots[j]? = some (.int (lo8 (f j))) ∧ ¬ 255 < f j) ∨ (cd = 1 ∧ V.slots.size = 2 * n ∧ (∀ j, j < n → V.slots[2 * j]? = some (.int (lo8 (f j))) ∧ V.slots[2 * j + 1]? = some (.int (hi8 (f j)))) ∧ ∃ j, j < n ∧ 255 < f j)
/-- **x is a String of the n chars f 0 .. f (n - 1)**, Latin-1 or UTF-16; its array at t has the cell V -/
def Txt (x t : Addr) (V : Cell) (cd : Int32) (n : Nat) (f : Nat → Int32) (U : State) : Prop := Exact "java/lang/String" x U ∧ Has x "java/lang/String" "value" "[B" (.ref t) U ∧ Has x "java/lang/String" "coder" "B" (.int cd) U ∧ XT.Arr .byte t V U ∧ Cod cd n f V ∧ ∀ j, j < n → ¬ f j < 0 ∧ ¬ 65535 < f j
theorem Txt.mv {x t : Addr} {V : Cell} {cd : Int32} {n : Nat} {f : Nat → Int32} {U U' : State} (h : Txt x t V cd n f U) (hal : U.vm.Alike U'.vm) (hh : U'.heap = U.heap) : Txt x t V cd n f U' := ⟨h.1.mv hal hh, h.2.1.mv hal hh, h.2.2.1.mv hal hh, h.2.2.2.1.mv hal hh, h.2.2.2.2⟩
end StrChars
namespace StrChars.Road
open Jvm Sem ClassFile Op Lib Jvm.Stand Jvm.Free Jvm.Free.XT
open Jvm.Lib.Cold (StaticIs)
theorem consq {a : Array Value} {s : State} {c : Jvm.Cond} {L : List Jvm.Cond} (h0 : c.before a s = true) (h : ∀ w ∈ L, w.before a s = true) : ∀ w ∈ c :: L, w.before a s = true := fun w hw => (List.mem_cons.mp hw).elim (fun e => e ▸ h0) (h w)
/-- the bytes of the chars cs, low before high -/
def wideBytes : List Int32 → List Value
  | [] => []
  | c :: cs => .int (lo8 c) :: .int (hi8 c) :: wideBytes cs
theorem wide_lo (d : Value) : ∀ (cs : List Int32) (j : Nat), j < cs.length → (wideBytes cs).getD (2 * j) d = .int (lo8 (cs.getD j 0))
  | [], j, h => absurd h (Nat.not_lt_zero j)
  | c :: cs, 0, _ => rfl
  | c :: cs, j + 1, h => by
    have q := wide_lo d cs j (by simpa using h)
    rw [show 2 * (j + 1) = 2 * j + 1 + 1 from by omega]
    simpa [wideBytes] using q
theorem wide_hi (d : Value) : ∀ (cs : List Int32) (j : Nat), j < cs.length → (wideBytes cs).getD (2 * j + 1) d = .int (hi8 (cs.getD j 0))
  | [], j, h => absurd h (Nat.not_lt_zero j)
  | c :: cs, 0, _ => rfl
  | c :: cs, j + 1, h => by
    have q := wide_hi d cs j (by simpa using h)
    rw [show 2 * (j + 1) + 1 = 2 * j + 1 + 1 + 1 from by omega]
    simpa [wideBytes] using q
theorem low_at (d : Value) (cs : List Int32) (j : Nat) (h : j < cs.length) : (cs.map fun c => Value.int (lo8 c)).getD j d = .int (lo8 (cs.getD j 0)) := by
  simp [List.getD_eq_getElem?_getD, h]
/-- an array of N2 bytes vs codes the chars cs by the coder cd -/
def CodA (cs : List Int32) (cd N2 : Int32) (vs : List Value) : Prop := (cd = 0 ∧ N2 = Int32.ofNat cs.length ∧ vs = (cs.map fun c => Value.int (lo8 c)) ∧ ∀ c ∈ cs, ¬ 255 < c) ∨ (cd = 1 ∧ N2 = Int32.ofNat (2 * cs.length) ∧ vs = wideBytes cs ∧ ∃ c ∈ cs, 255 < c)
theorem CodA.cod {cs : List Int32} {cd N2 : Int32} {vs : List Value} {V : Cell} (h : CodA cs cd N2 vs) (hn : 2 * cs.length < 2 ^ 31) (hs : V.slots.size = N2.toNatClampNeg) (hv : RoadKit.Has V vs (.int 0)) : Cod cd cs.length (fun j => cs.getD j 0) V := by
  rcases h with ⟨rfl, rfl, rfl, h⟩ | ⟨rfl, rfl, rfl, c, hc, hw⟩
  · rw [n32 (by omega)] at hs
    exact Or.inl ⟨rfl, hs, fun j hj => ⟨by rw [hv j (by omega), low_at _ _ _ hj], by
      have e : cs.getD j 0 = cs[j] := by simp [List.getD_eq_getElem?_getD, hj]
      show ¬ 255 < cs.getD j 0
      rw [e]; exact h _ (List.getElem_mem _)⟩⟩
  · rw [n32 (by omega)] at hs
    obtain ⟨j, hj, rfl⟩ := List.getElem_of_mem hc
    exact Or.inr ⟨rfl, hs, fun j hj => ⟨by rw [hv _ (by omega), wide_lo _ _ _ hj], by rw [hv _ (by omega), wide_hi _ _ _ hj]⟩, j, hj, by
      have e : cs.getD j 0 = cs[j] := by simp [List.getD_eq_getElem?_getD, hj]
      show 255 < cs.getD j 0
      rw [e]; exact hw⟩
/-- an object of exactly java/lang/String, its two fields found: as the laws ask it -/
theorem strObj {Z U : State} {a0 : Array Value} {kI : Nat} (wi : (Jvm.Cond.instantiable ST kI).before a0 Z = true) (al : Z.vm.Alike U.vm) {x : Addr} {v0 c0 : Value} (E : RoadKit.Exa Z U.heap x ST) (V : RoadKit.Fld Z U.heap x ST "value" "[B" v0) (C : RoadKit.Fld Z U.heap x ST "coder" "B" c0) :
    ∃ (D : Cell) (fV fC : Field), Blank ST x D U ∧ Found ST "value" "[B" fV U ∧ Found ST "coder" "B" fC U ∧ D.slots[fV.slot]? = some v0 ∧ D.slots[fC.slot]? = some c0 ∧ RoadKit.slotOf Z ST "value" "[B" = fV.slot ∧ RoadKit.slotOf Z ST "coder" "B" = fC.slot := by
  obtain ⟨D, cfV, kV, iV, fV, hD, gV, stV, knV, obV, asV, slV⟩ := V
  obtain ⟨D', cfC, kC, iC, fC, hD', gC, stC, -, -, asC, slC⟩ := C
  cases hD.symm.trans hD'
  obtain ⟨D2, kD, e1, e2, e3, e4, e5⟩ := E
  cases hD.symm.trans e1
  obtain ⟨c2, k2, i1, i2, i3, -⟩ := Cond.instantiable_spec wi
  cases e2.symm.trans i1
  cases e3.symm.trans i2
  obtain ⟨kU, u1, u2⟩ := al.2.2 _ _ e3
  exact ⟨D, fV, fC, ⟨hD, ⟨knV, fun q hq => by rw [hq] at obV; cases obV⟩, by rw [al.findClass]; exact e2, kU, u1, by rw [u2]; exact i3, by rw [u2]; exact e5 i3⟩, ⟨SBG.found_only al ⟨cfV, kV, iV, gV⟩, stV⟩, ⟨SBG.found_only al ⟨cfC, kC, iC, gC⟩, stC⟩, slV, slC, by simp [RoadKit.slotOf, gV], by simp [RoadKit.slotOf, gC]⟩
theorem sta_is {Z U : State} (al : Z.vm.Alike U.vm) {C n d : String} {v : Value} (S : RoadKit.Sta Z U.heap C n d v) : StaticIs U C n d v := by
  obtain ⟨cfS, iS, kS, fS, st, cS, t1, t2, t3, t4, t5, t6, t7⟩ := S
  exact StaticIs.there (s := { Z with heap := U.heap }) ⟨cfS, iS, kS, fS, st, cS, t1, t2, t3, t4, t5, (fun q => by rw [q] at t6; cases t6), t7⟩ al rfl
end StrChars.Road
namespace StrChars
open Jvm Sem ClassFile Op Lib Jvm.Stand Jvm.Free.XT Jvm.Free.ALB Jvm.Free.JM Jvm.Free
open Jvm.Lib.Cold (StaticIs)
/-- what place i of a byte[]'s cell holds -/
def yv (A : Cell) (i : Nat) : Int32 := match A.slots[i]? with | some (.int x) => x | _ => 0
theorem yv_get {a : Addr} {A : Cell} {U : State} (h : XT.Arr .byte a A U) (ht : Typed .byte A) {i : Nat} (hi : i < A.slots.size) : A.slots[i]? = some (.int (yv A i)) := by
  have e := Array.getElem?_eq_getElem hi
  have f := ht i _ e
  unfold yv; rw [e]
  generalize A.slots[i] = v at f
  cases v <;> simp [fits] at f ⊢
/-- the two arrays are equal, place for place -/
def EqC (A B : Cell) : Prop := A.slots.size = B.slots.size ∧ ∀ i, i < A.slots.size → yv A i = yv B i
/-- a boolean that says whether p -/
def Says01 (q : Prop) (r : Option Value) (s u : State) : Prop := ∃ v : Int32, r = some (.int v) ∧ u.heap = s.heap ∧ ((v = 1 ∧ q) ∨ (v = 0 ∧ ¬ q))
theorem Says01.mv {q : Prop} : ∀ r (U U' V V' : State), U'.heap = U.heap → V.vm.Alike V'.vm → V'.heap = V.heap → Says01 q r U V → Says01 q r U' V' :=
  fun r U U' V V' h1 _ h2 ⟨v, a, b, c⟩ => ⟨v, a, by rw [h1, h2]; exact b, c⟩
namespace LEq
def yN : MethodName := ⟨"java/lang/StringLatin1", "equals", "([B[B)Z"⟩
abbrev yB : ByteArray := jdk_43_method_13_code
theorem d0 : decode yB 0 = .ok (.aload_n 0, 1) := by decide +kernel
theorem d1 : decode yB 1 = .ok (.arraylength, 1) := by decide +kernel
theorem d2 : decode yB 2 = .ok (.aload_n 1, 1) := by decide +kernel
theorem d3 : decode yB 3 = .ok (.arraylength, 1) := by decide +kernel
theorem d4 : decode yB 4 = .ok (.if_icmp (.ne) 30, 3) := by decide +kernel
theorem d7 : decode yB 7 = .ok (.iconst 0, 1) := by decide +kernel
theorem d8 : decode yB 8 = .ok (.istore_n 2, 1) := by decide +kernel
theorem d9 : decode yB 9 = .ok (.iload_n 2, 1) := by decide +kernel
theorem d10 : decode yB 10 = .ok (.aload_n 0, 1) := by decide +kernel
theorem d11 : decode yB 11 = .ok (.arraylength, 1) := by decide +kernel
theorem d12 : decode yB 12 = .ok (.if_icmp (.ge) 20, 3) := by decide +kernel
theorem d15 : decode yB 15 = .ok (.aload_n 0, 1) := by decide +kernel
theorem d16 : decode yB 16 = .ok (.iload_n 2, 1) := by decide +kernel
theorem d17 : decode yB 17 = .ok (.baload, 1) := by decide +kernel
theorem d18 : decode yB 18 = .ok (.aload_n 1, 1) := by decide +kernel
theorem d19 : decode yB 19 = .ok (.iload_n 2, 1) := by decide +kernel
theorem d20 : decode yB 20 = .ok (.baload, 1) := by decide +kernel
theorem d21 : decode yB 21 = .ok (.if_icmp (.eq) 5, 3) := by decide +kernel
theorem d24 : decode yB 24 = .ok (.iconst 0, 1) := by decide +kernel
theorem d25 : decode yB 25 = .ok (.ireturn, 1) := by decide +kernel
theorem d26 : decode yB 26 = .ok (.iinc 2 1, 3) := by decide +kernel
theorem d29 : decode yB 29 = .ok (.goto (-20), 3) := by decide +kernel
theorem d32 : decode yB 32 = .ok (.iconst 1, 1) := by decide +kernel
theorem d33 : decode yB 33 = .ok (.ireturn, 1) := by decide +kernel
theorem d34 : decode yB 34 = .ok (.iconst 0, 1) := by decide +kernel
theorem d35 : decode yB 35 = .ok (.ireturn, 1) := by decide +kernel
def site : List Cond := []
def tab : Cond := tabOf yN yB 3 (some .boolean) site
def P (a : Addr) (A : Cell) (b : Addr) (B : Cell) (args : Array Value) (s : State) : Prop := args = #[.ref a, .ref b] ∧ XT.Arr .byte a A s ∧ Typed .byte A ∧ XT.Arr .byte b B s ∧ Typed .byte B
/-- whether two byte[] are equal, place for place -/
theorem law (l : Launch) (a : Addr) (A : Cell) (b : Addr) (B : Cell) : Law l yN 2 2 0 0 yB 3 (some .boolean) site (P a A b B) (Says01 (EqC A B)) [] 0 0 := by
  refine Law.of_walk (plainFor_of_name (by decide +kernel)) (by decide +kernel) (by decide +kernel) (by decide) (fun _ _ h => by rw [h.1]; rfl) (fun _ U U' hal hh h => ⟨h.1, h.2.1.mv hal hh, h.2.2.1, h.2.2.2.1.mv hal hh, h.2.2.2.2⟩) (fun r U U' V V' h1 hal h2 h => Says01.mv r U U' V V' h1 hal h2 h) ?_
  intro p e s m args below meth c s₁ X0 hexec hbytes hml hret hlk hnm hown hh0 W hP
  obtain ⟨rfl, hA, tA, hB, tB⟩ := hP
  have a31 := hA.2.2.2
  have b31 := hB.2.2.2
  have hA0 := hA.mv X0.warmed.alike hh0
  have hB0 := hB.mv X0.warmed.alike hh0
  have c1 : Steps p.tables e below (s₁.setTop (entryFrame m #[.ref a, .ref b] 3)) (s₁.setTop (mkF m 0 #[.val (.ref a), .val (.ref b), .unset] [])) := entry rfl
  have c2 : Steps p.tables e below (s₁.setTop (entryFrame m #[.ref a, .ref b] 3)) (s₁.setTop (mkF m 4 #[.val (.ref a), .val (.ref b), .unset] [.int (Int32.ofNat B.slots.size), .int (Int32.ofNat A.slots.size)])) := c1.trans (by
    refine XS.aloadN X0.here hexec rfl (hb hbytes d0) rfl rfl ?_
    refine X0.alen hexec hA0 rfl rfl (hb hbytes d1) ?_
    refine XS.aloadN X0.here hexec rfl (hb hbytes d2) rfl rfl ?_
    refine X0.alen hexec hB0 rfl rfl (hb hbytes d3) ?_
    exact Steps.refl _)
  by_cases hs : A.slots.size = B.slots.size
  · have c3 : Steps p.tables e below (s₁.setTop (entryFrame m #[.ref a, .ref b] 3)) (s₁.setTop (mkF m 9 #[.val (.ref a), .val (.ref b), .val (.int 0)] [])) := c2.trans (by
      refine XS.icmpNo X0.here hexec rfl (hb hbytes d4) rfl (ii_ne_f (by rw [hs])) ?_
      refine iconstV X0.here hexec rfl 0 (hb hbytes d7) (by decide) ?_
      refine XS.istoreN X0.here hexec rfl (hb hbytes d8) rfl rfl ?_
      exact Steps.refl _)
    have loop : ∀ (r i : Nat), i + r = A.slots.size → (∀ j, j < i → yv A j = yv B j) → Steps p.tables e below (s₁.setTop (entryFrame m #[.ref a, .ref b] 3)) (s₁.setTop (mkF m 9 #[.val (.ref a), .val (.ref b), .val (.int (Int32.ofNat i))] [])) → ∃ (pc : Nat) (Ls : Array Slot) (v : Int32), (pc = 25 ∨ pc = 33) ∧ ((v = 1 ∧ EqC A B) ∨ (v = 0 ∧ ¬ EqC A B)) ∧ Steps p.tables e below (s₁.setTop (entryFrame m #[.ref a, .ref b] 3)) (s₁.setTop (mkF m pc Ls [.int v])) := by
      intro r
      induction r with
      | zero =>
        intro i hi he cl
        exact ⟨33, _, 1, Or.inr rfl, Or.inl ⟨rfl, hs, fun j hj => he j (by omega)⟩, cl.trans (by
          refine XS.iloadN X0.here hexec rfl (hb hbytes d9) rfl ?_
          refine XS.aloadN X0.here hexec rfl (hb hbytes d10) rfl rfl ?_
          refine X0.alen hexec hA0 rfl rfl (hb hbytes d11) ?_
          refine XS.icmpYes X0.here hexec rfl (pc0 := 12) rfl (hb hbytes d12) rfl (ii_ge_t (nlt32 (by omega) (by omega))) (by decide) rfl ?_
          refine iconstV X0.here hexec rfl 1 (hb hbytes d32) (by decide) ?_
          exact Steps.refl _)⟩
      | succ r ih =>
        intro i hi he cl
        have c4 : Steps p.tables e below (s₁.setTop (entryFrame m #[.ref a, .ref b] 3)) (s₁.setTop (mkF m 21 #[.val (.ref a), .val (.ref b), .val (.int (Int32.ofNat i))] [.int (yv B i), .int (yv A i)])) := cl.trans (by
          refine XS.iloadN X0.here hexec rfl (hb hbytes d9) rfl ?_
          refine XS.aloadN X0.here hexec rfl (hb hbytes d10) rfl rfl ?_
          refine X0.alen hexec hA0 rfl rfl (hb hbytes d11) ?_
          refine XS.icmpNo X0.here hexec rfl (hb hbytes d12) rfl (ii_ge_f (lt32 (by omega) (by omega))) ?_
          refine XS.aloadN X0.here hexec rfl (hb hbytes d15) rfl rfl ?_
          refine XS.iloadN X0.here hexec rfl (hb hbytes d16) rfl ?_
          refine X0.aget hexec hA0 rfl (yv_get hA tA (i := i) (by omega)) rfl rfl (hb hbytes d17) ?_
          refine XS.aloadN X0.here hexec rfl (hb hbytes d18) rfl rfl ?_
          refine XS.iloadN X0.here hexec rfl (hb hbytes d19) rfl ?_
          refine X0.aget hexec hB0 rfl (yv_get hB tB (i := i) (by omega)) rfl rfl (hb hbytes d20) ?_
          exact Steps.refl _)
        by_cases hv : yv A i = yv B i
        · have c5 : Steps p.tables e below (s₁.setTop (entryFrame m #[.ref a, .ref b] 3)) (s₁.setTop (mkF m 9 #[.val (.ref a), .val (.ref b), .val (.int (Int32.ofNat i + 1))] [])) := c4.trans (by
            refine XS.icmpYes X0.here hexec rfl (pc0 := 21) rfl (hb hbytes d21) rfl (ii_eq_t hv) (by decide) rfl ?_
            refine iincV X0.here hexec rfl 1 (hb hbytes d26) (by decide) rfl rfl ?_
            refine XS.goto X0.here hexec rfl (pc0 := 29) rfl (hb hbytes d29) (by decide) rfl ?_
            exact Steps.refl _)
          rw [succ32] at c5
          exact ih (i + 1) (by omega) (fun j hj => by
            by_cases e : j = i
            · rw [e]; exact hv
            · exact he j (by omega)) c5
        · exact ⟨25, _, 0, Or.inl rfl, Or.inr ⟨rfl, fun q => hv (q.2 i (by omega))⟩, c4.trans (by
            refine XS.icmpNo X0.here hexec rfl (hb hbytes d21) rfl (ii_eq_f hv) ?_
            refine iconstV X0.here hexec rfl 0 (hb hbytes d24) (by decide) ?_
            exact Steps.refl _)⟩
    obtain ⟨pc, Ls, v, hpc, hv, cz⟩ := loop A.slots.size 0 (by omega) (fun j hj => absurd hj (Nat.not_lt_zero j)) c3
    have nv : narrow .boolean (.int v) = .int v := by rcases hv with ⟨rfl, -⟩ | ⟨rfl, -⟩ <;> rfl
    rcases hpc with rfl | rfl
    · exact ⟨s₁, some (.int v), _, _, _, X0, rfl, rfl, rfl, (fun h => by cases h), ⟨v, rfl, hh0, hv⟩, fun fs hl => cz.trans (X0.ireturnOut hexec hret nv (Or.inr (Or.inl rfl)) (hb hbytes d25) hl)⟩
    · exact ⟨s₁, some (.int v), _, _, _, X0, rfl, rfl, rfl, (fun h => by cases h), ⟨v, rfl, hh0, hv⟩, fun fs hl => cz.trans (X0.ireturnOut hexec hret nv (Or.inr (Or.inl rfl)) (hb hbytes d33) hl)⟩
  · have c3 : Steps p.tables e below (s₁.setTop (entryFrame m #[.ref a, .ref b] 3)) (s₁.setTop (mkF m 35 #[.val (.ref a), .val (.ref b), .unset] [.int 0])) := c2.trans (by
      refine XS.icmpYes X0.here hexec rfl (pc0 := 4) rfl (hb hbytes d4) rfl (ii_ne_t (ne32 a31 b31 hs)) (by decide) rfl ?_
      refine iconstV X0.here hexec rfl 0 (hb hbytes d34) (by decide) ?_
      exact Steps.refl _)
    exact ⟨s₁, some (.int 0), _, _, _, X0, rfl, rfl, rfl, (fun h => by cases h), ⟨0, rfl, hh0, Or.inr ⟨rfl, fun q => hs q.1⟩⟩, fun fs hl => c3.trans (X0.ireturnOut hexec hret rfl (Or.inr (Or.inl rfl)) (hb hbytes d35) hl)⟩
end LEq
theorem Cod.ty {cd : Int32} {n : Nat} {f : Nat → Int32} {V : Cell} (h : Cod cd n f V) : Typed .byte V := fun i v hv => by
  have hi : i < V.slots.size := (Array.getElem?_eq_some_iff.mp hv).1
  rcases h with ⟨-, k1, k2⟩ | ⟨-, k1, k2, -⟩
  · rw [(k2 i (by omega)).1] at hv; cases hv; exact fits_lo8 _
  · rcases Nat.mod_two_eq_zero_or_one i with e | e
    · obtain ⟨j, rfl⟩ : ∃ j, i = 2 * j := ⟨i / 2, by omega⟩
      rw [(k2 j (by omega)).1] at hv; cases hv; exact fits_lo8 _
    · obtain ⟨j, rfl⟩ : ∃ j, i = 2 * j + 1 := ⟨i / 2, by omega⟩
      rw [(k2 j (by omega)).2] at hv; cases hv; exact fits_lo8 _
/-- the same text -/
def SameT (n : Nat) (f : Nat → Int32) (k : Nat) (g : Nat → Int32) : Prop := n = k ∧ ∀ j, j < n → f j = g j
theorem lo8_inj {x y : Int32} (h0 : ¬ x < 0) (h1 : ¬ 255 < x) (k0 : ¬ y < 0) (k1 : ¬ 255 < y) (h : lo8 x = lo8 y) : x = y := by
  rw [← lo8_mask h0 h1, ← lo8_mask k0 k1, h]
/-- arrays coded by one coder are equal just where the texts are -/
theorem Cod.eqv {cd : Int32} {n k : Nat} {f g : Nat → Int32} {V V' : Cell} (h : Cod cd n f V) (h' : Cod cd k g V') (hf : ∀ j, j < n → ¬ f j < 0 ∧ ¬ 65535 < f j) (hg : ∀ j, j < k → ¬ g j < 0 ∧ ¬ 65535 < g j) : EqC V V' ↔ SameT n f k g := by
  have yvv : ∀ {W : Cell} {i : Nat} {x : Int32}, W.slots[i]? = some (.int x) → yv W i = x := fun q => by unfold yv; rw [q]
  rcases h with ⟨rfl, k1, k2⟩ | ⟨rfl, k1, k2, -⟩
  · rcases h' with ⟨-, m1, m2⟩ | ⟨e, -⟩
    · constructor
      · rintro ⟨e1, e2⟩
        refine ⟨by omega, fun j hj => ?_⟩
        have q := e2 j (by omega)
        rw [yvv (k2 j hj).1, yvv (m2 j (by omega)).1] at q
        exact lo8_inj (hf j hj).1 (k2 j hj).2 (hg j (by omega)).1 (m2 j (by omega)).2 q
      · rintro ⟨rfl, e2⟩
        refine ⟨by omega, fun j hj => ?_⟩
        rw [yvv (k2 j (by omega)).1, yvv (m2 j (by omega)).1, e2 j (by omega)]
    · exact absurd e (by decide)
  · rcases h' with ⟨e, -⟩ | ⟨-, m1, m2, -⟩
    · exact absurd e (by decide)
    · constructor
      · rintro ⟨e1, e2⟩
        refine ⟨by omega, fun j hj => ?_⟩
        have q1 := e2 (2 * j) (by omega)
        have q2 := e2 (2 * j + 1) (by omega)
        rw [yvv (k2 j hj).1, yvv (m2 j (by omega)).1] at q1
        rw [yvv (k2 j hj).2, yvv (m2 j (by omega)).2] at q2
        rw [← pair_says (hf j hj).1 (hf j hj).2, ← pair_says (hg j (by omega)).1 (hg j (by omega)).2, q1, q2]
      · rintro ⟨rfl, e2⟩
        refine ⟨by omega, fun i hi => ?_⟩
        rcases Nat.mod_two_eq_zero_or_one i with e | e
        · obtain ⟨j, rfl⟩ : ∃ j, i = 2 * j := ⟨i / 2, by omega⟩
          rw [yvv (k2 j (by omega)).1, yvv (m2 j (by omega)).1, e2 j (by omega)]
        · obtain ⟨j, rfl⟩ : ∃ j, i = 2 * j + 1 := ⟨i / 2, by omega⟩
          rw [yvv (k2 j (by omega)).2, yvv (m2 j (by omega)).2, e2 j (by omega)]
/-- two codings differ: so do the texts -/
theorem Cod.dif {cd cd' : Int32} {n k : Nat} {f g : Nat → Int32} {V V' : Cell} (h : Cod cd n f V) (h' : Cod cd' k g V') (hne : ¬ cd = cd') : ¬ SameT n f k g := by
  rintro ⟨rfl, e⟩
  rcases h with ⟨rfl, -, k2⟩ | ⟨rfl, -, -, j, hj, hw⟩
  · rcases h' with ⟨rfl, -⟩ | ⟨-, -, -, j, hj, hw⟩
    · exact hne rfl
    · exact (k2 j hj).2 (by rw [e j hj]; exact hw)
  · rcases h' with ⟨-, -, m2⟩ | ⟨rfl, -⟩
    · exact (m2 j hj).2 (by rw [← e j hj]; exact hw)
    · exact hne rfl
/-- an object of exactly C is an instance of C -/
theorem cinst {p : Program} {l : Launch} {e : Env} {R : Room} {s : State} {m : MethodId} {args : Array Value} {below : List Frame} {meth : Method} {c : Code} {T : State} {locs : List Loc} {cells slots : Nat} (X : Stand p l e R s m args below meth c T locs cells slots) (hexec : p.tables.exec = Jvm.exec) {own C : String} {index : Nat} (hown : s.vm.findClass own = some m.cls) (hlink : (Cond.classLink own index C).before args s = true) {a : Addr} (hE : Exact C a T)
    {g : JFrame} (hg : g.method = m) {rest : List Value} (hstack : g.stack = .ref a :: rest) (hdg : decode c.code g.pc = .ok (.instanceof index, 3)) :
    ∃ T', Stand p l e R s m args below meth c T' locs cells slots ∧ T'.heap = T.heap ∧ ∀ target, Steps p.tables e below (T'.setTop { g with pc := g.pc + 3, stack := .int 1 :: rest }) target → Steps p.tables e below (T.setTop g) target := by
  obtain ⟨cB, h1, D, h2, h3, h4⟩ := hE
  have h1' : s.vm.findClass C = some cB := by rw [← X.warmed.alike.findClass]; exact h1
  obtain ⟨vm', X', st⟩ := X.instanceofYes hexec hown hlink h2 h4 h1' (by rw [h3]; exact Jvm.Free.SB.assignable_self _ _) hg hstack hdg
  exact ⟨_, X', rfl, st⟩
theorem cself {p : Program} {l : Launch} {e : Env} {R : Room} {s : State} {m : MethodId} {args : Array Value} {below : List Frame} {meth : Method} {c : Code} {T : State} {locs : List Loc} {cells slots : Nat} (X : Stand p l e R s m args below meth c T locs cells slots) (hexec : p.tables.exec = Jvm.exec) {own C : String} {index : Nat} (hown : s.vm.findClass own = some m.cls) (hlink : (Cond.classLink own index C).before args s = true) {a : Addr} (hE : Exact C a T)
    {g : JFrame} (hg : g.method = m) {rest : List Value} (hstack : g.stack = .ref a :: rest) (hdg : decode c.code g.pc = .ok (.checkcast index, 3)) :
    ∃ T', Stand p l e R s m args below meth c T' locs cells slots ∧ T'.heap = T.heap ∧ ∀ target, Steps p.tables e below (T'.setTop { g with pc := g.pc + 3, stack := .ref a :: rest }) target → Steps p.tables e below (T.setTop g) target := by
  obtain ⟨cB, h1, D, h2, h3, h4⟩ := hE
  have h1' : s.vm.findClass C = some cB := by rw [← X.warmed.alike.findClass]; exact h1
  obtain ⟨vm', X', st⟩ := X.checkcastYes hexec hown hlink h2 h4 h1' (by rw [h3]; exact Jvm.Free.SB.assignable_self _ _) hg hstack hdg
  exact ⟨_, X', rfl, fun t h => st t (by rw [← hstack] at h; exact h)⟩
namespace SEq
def yN : MethodName := ⟨"java/lang/String", "equals", "(Ljava/lang/Object;)Z"⟩
abbrev yB : ByteArray := jdk_42_method_66_code
theorem d0 : decode yB 0 = .ok (.aload_n 0, 1) := by decide +kernel
theorem d1 : decode yB 1 = .ok (.aload_n 1, 1) := by decide +kernel
theorem d2 : decode yB 2 = .ok (.if_acmp (.ne) 5, 3) := by decide +kernel
theorem d5 : decode yB 5 = .ok (.iconst 1, 1) := by decide +kernel
theorem d6 : decode yB 6 = .ok (.ireturn, 1) := by decide +kernel
theorem d7 : decode yB 7 = .ok (.aload_n 1, 1) := by decide +kernel
theorem d8 : decode yB 8 = .ok (.instanceof 10, 3) := by decide +kernel
theorem d11 : decode yB 11 = .ok (.ifCond (.eq) 43, 3) := by decide +kernel
theorem d14 : decode yB 14 = .ok (.aload_n 1, 1) := by decide +kernel
theorem d15 : decode yB 15 = .ok (.checkcast 10, 3) := by decide +kernel
theorem d18 : decode yB 18 = .ok (.astore_n 2, 1) := by decide +kernel
theorem d19 : decode yB 19 = .ok (.getstatic 38, 3) := by decide +kernel
theorem d22 : decode yB 22 = .ok (.ifCond (.eq) 14, 3) := by decide +kernel
theorem d25 : decode yB 25 = .ok (.aload_n 0, 1) := by decide +kernel
theorem d26 : decode yB 26 = .ok (.getfield 15, 3) := by decide +kernel
theorem d29 : decode yB 29 = .ok (.aload_n 2, 1) := by decide +kernel
theorem d30 : decode yB 30 = .ok (.getfield 15, 3) := by decide +kernel
theorem d33 : decode yB 33 = .ok (.if_icmp (.ne) 21, 3) := by decide +kernel
theorem d36 : decode yB 36 = .ok (.aload_n 0, 1) := by decide +kernel
theorem d37 : decode yB 37 = .ok (.getfield 9, 3) := by decide +kernel
theorem d40 : decode yB 40 = .ok (.aload_n 2, 1) := by decide +kernel
theorem d41 : decode yB 41 = .ok (.getfield 9, 3) := by decide +kernel
theorem d44 : decode yB 44 = .ok (.invokestatic 541, 3) := by decide +kernel
theorem d47 : decode yB 47 = .ok (.ifCond (.eq) 7, 3) := by decide +kernel
theorem d50 : decode yB 50 = .ok (.iconst 1, 1) := by decide +kernel
theorem d51 : decode yB 51 = .ok (.goto 4, 3) := by decide +kernel
theorem d54 : decode yB 54 = .ok (.iconst 0, 1) := by decide +kernel
theorem d55 : decode yB 55 = .ok (.ireturn, 1) := by decide +kernel
def site : List Cond := [.classLink "java/lang/String" 10 "java/lang/String", .fieldLink "java/lang/String" 38 "java/lang/String" "COMPACT_STRINGS" "Z", .fieldLink "java/lang/String" 15 "java/lang/String" "coder" "B", .fieldLink "java/lang/String" 9 "java/lang/String" "value" "[B", LEq.tab] ++ staticW "java/lang/String" 541 LEq.yN
def tab : Cond := tabOf yN yB 3 (some .boolean) site
def P (x t : Addr) (V : Cell) (cd : Int32) (n : Nat) (f : Nat → Int32) (y t' : Addr) (V' : Cell) (cd' : Int32) (k : Nat) (g : Nat → Int32) (z : Int32) (args : Array Value) (s : State) : Prop := args = #[.ref x, .ref y] ∧ Txt x t V cd n f s ∧ Txt y t' V' cd' k g s ∧ StaticIs s "java/lang/String" "COMPACT_STRINGS" "Z" (.int z) ∧ ¬ z = 0
/-- equals(Object) of two Strings: whether the texts are the same -/
theorem law (l : Launch) (x t : Addr) (V : Cell) (cd : Int32) (n : Nat) (f : Nat → Int32) (y t' : Addr) (V' : Cell) (cd' : Int32) (k : Nat) (g : Nat → Int32) (z : Int32) : Law l yN 2 1 1 14 yB 3 (some .boolean) site (P x t V cd n f y t' V' cd' k g z) (Says01 (SameT n f k g)) [] 0 0 := by
  refine Law.of_walk (plainFor_of_name (by decide +kernel)) (by decide +kernel) (by decide +kernel) (by decide) (fun _ _ h => by rw [h.1]; rfl) (fun _ U U' hal hh h => ⟨h.1, h.2.1.mv hal hh, h.2.2.1.mv hal hh, h.2.2.2.1.there hal hh, h.2.2.2.2⟩) (fun r U U' V V' h1 hal h2 h => Says01.mv r U U' V V' h1 hal h2 h) ?_
  intro p e s m args below meth c s₁ X0 hexec hbytes hml hret hlk hnm hown hh0 W hP
  obtain ⟨rfl, hx, hy, s1, hz⟩ := hP
  have c1 : Steps p.tables e below (s₁.setTop (entryFrame m #[.ref x, .ref y] 3)) (s₁.setTop (mkF m 2 #[.val (.ref x), .val (.ref y), .unset] [.ref y, .ref x])) := Steps.trans (entry rfl) (by
    show Steps p.tables e below (s₁.setTop (mkF m 0 #[.val (.ref x), .val (.ref y), .unset] [])) _
    refine XS.aloadN X0.here hexec rfl (hb hbytes d0) rfl rfl ?_
    refine XS.aloadN X0.here hexec rfl (hb hbytes d1) rfl rfl ?_
    exact Steps.refl _)
  by_cases hxy : x = y
  · have c2 : Steps p.tables e below (s₁.setTop (entryFrame m #[.ref x, .ref y] 3)) (s₁.setTop (mkF m 6 #[.val (.ref x), .val (.ref y), .unset] [.int 1])) := c1.trans (by
      refine acmpNo X0.here hexec rfl (hb hbytes d2) rfl rfl rfl (by simp [acmp, hxy]) ?_
      refine iconstV X0.here hexec rfl 1 (hb hbytes d5) (by decide) ?_
      exact Steps.refl _)
    subst hxy
    have ec : cd = cd' := by
      obtain ⟨D, fd, a1, a2, a3⟩ := hx.2.2.1
      obtain ⟨D', fd', b1, b2, b3⟩ := hy.2.2.1
      cases a1.symm.trans b1
      obtain ⟨q1, q2, q3, q4⟩ := a2.1
      obtain ⟨r1, r2, r3, r4⟩ := b2.1
      cases q4.symm.trans r4
      cases a3.symm.trans b3; rfl
    have et : t = t' := by
      obtain ⟨D, fd, a1, a2, a3⟩ := hx.2.1
      obtain ⟨D', fd', b1, b2, b3⟩ := hy.2.1
      cases a1.symm.trans b1
      obtain ⟨q1, q2, q3, q4⟩ := a2.1
      obtain ⟨r1, r2, r3, r4⟩ := b2.1
      cases q4.symm.trans r4
      cases a3.symm.trans b3; rfl
    subst ec et
    have ev : V = V' := by cases hx.2.2.2.1.1.symm.trans hy.2.2.2.1.1; rfl
    subst ev
    have hs : SameT n f k g := (Cod.eqv hx.2.2.2.2.1 hy.2.2.2.2.1 hx.2.2.2.2.2 hy.2.2.2.2.2).mp ⟨rfl, fun _ _ => rfl⟩
    exact ⟨s₁, some (.int 1), _, _, _, X0, rfl, rfl, rfl, (fun h => by cases h), ⟨1, rfl, hh0, Or.inl ⟨rfl, hs⟩⟩, fun fs hl => c2.trans (X0.ireturnOut hexec hret rfl (Or.inr (Or.inl rfl)) (hb hbytes d6) hl)⟩
  · have c2 : Steps p.tables e below (s₁.setTop (entryFrame m #[.ref x, .ref y] 3)) (s₁.setTop (mkF m 8 #[.val (.ref x), .val (.ref y), .unset] [.ref y])) := c1.trans (by
      refine acmpYes X0.here hexec rfl (pc0 := 2) rfl (hb hbytes d2) rfl rfl rfl (by simp [acmp, hxy]) (by decide) rfl ?_
      refine XS.aloadN X0.here hexec rfl (hb hbytes d7) rfl rfl ?_
      exact Steps.refl _)
    obtain ⟨T3, X3, q3, st3⟩ := cinst X0 hexec hown (wk W (.classLink "java/lang/String" 10 "java/lang/String")) (hy.mv X0.warmed.alike hh0).1 (g := (mkF m 8 #[.val (.ref x), .val (.ref y), .unset] [.ref y])) rfl (rest := []) rfl (hb hbytes d8)
    have hh3 := q3.trans hh0
    have c4 : Steps p.tables e below (s₁.setTop (entryFrame m #[.ref x, .ref y] 3)) (T3.setTop (mkF m 15 #[.val (.ref x), .val (.ref y), .unset] [.ref y])) := (c2.trans (st3 _ (Steps.refl _))).trans (by
      refine XS.ifNo X3.here hexec rfl (hb hbytes d11) rfl (i0_eq_f (by decide)) ?_
      refine XS.aloadN X3.here hexec rfl (hb hbytes d14) rfl rfl ?_
      exact Steps.refl _)
    obtain ⟨T5, X5, q5, st5⟩ := cself X3 hexec hown (wk W (.classLink "java/lang/String" 10 "java/lang/String")) (hy.mv X3.warmed.alike hh3).1 (g := (mkF m 15 #[.val (.ref x), .val (.ref y), .unset] [.ref y])) rfl (rest := []) rfl (hb hbytes d15)
    have hh5 := q5.trans hh3
    have c6 : Steps p.tables e below (s₁.setTop (entryFrame m #[.ref x, .ref y] 3)) (T5.setTop (mkF m 19 #[.val (.ref x), .val (.ref y), .val (.ref y)] [])) := (c4.trans (st5 _ (Steps.refl _))).trans (by
      refine XS.astoreN X5.here hexec rfl (hb hbytes d18) rfl rfl rfl ?_
      exact Steps.refl _)
    obtain ⟨T7, X7, q7, st7⟩ := X5.sget hexec hown (wk W (.fieldLink "java/lang/String" 38 "java/lang/String" "COMPACT_STRINGS" "Z")) s1 (fun _ _ h => by rw [hh5]; exact h) (g := (mkF m 19 #[.val (.ref x), .val (.ref y), .val (.ref y)] [])) rfl (hb hbytes d19)
    have hh7 := q7.trans hh5
    have c8 : Steps p.tables e below (s₁.setTop (entryFrame m #[.ref x, .ref y] 3)) (T7.setTop (mkF m 26 #[.val (.ref x), .val (.ref y), .val (.ref y)] [.ref x])) := (c6.trans (st7 _ (Steps.refl _))).trans (by
      refine XS.ifNo X7.here hexec rfl (hb hbytes d22) rfl (i0_eq_f hz) ?_
      refine XS.aloadN X7.here hexec rfl (hb hbytes d25) rfl rfl ?_
      exact Steps.refl _)
    obtain ⟨T9, X9, q9, st9⟩ := X7.hget hexec hown (wk W (.fieldLink "java/lang/String" 15 "java/lang/String" "coder" "B")) (hx.mv X7.warmed.alike hh7).2.2.1 (g := (mkF m 26 #[.val (.ref x), .val (.ref y), .val (.ref y)] [.ref x])) rfl (rest := []) rfl (hb hbytes d26)
    have hh9 := q9.trans hh7
    have c10 : Steps p.tables e below (s₁.setTop (entryFrame m #[.ref x, .ref y] 3)) (T9.setTop (mkF m 30 #[.val (.ref x), .val (.ref y), .val (.ref y)] [.ref y, .int cd])) := (c8.trans (st9 _ (Steps.refl _))).trans (by
      refine XS.aloadN X9.here hexec rfl (hb hbytes d29) rfl rfl ?_
      exact Steps.refl _)
    obtain ⟨T11, X11, q11, st11⟩ := X9.hget hexec hown (wk W (.fieldLink "java/lang/String" 15 "java/lang/String" "coder" "B")) (hy.mv X9.warmed.alike hh9).2.2.1 (g := (mkF m 30 #[.val (.ref x), .val (.ref y), .val (.ref y)] [.ref y, .int cd])) rfl (rest := [.int cd]) rfl (hb hbytes d30)
    have hh11 := q11.trans hh9
    have c12 : Steps p.tables e below (s₁.setTop (entryFrame m #[.ref x, .ref y] 3)) (T11.setTop (mkF m 33 #[.val (.ref x), .val (.ref y), .val (.ref y)] [.int cd', .int cd])) := c10.trans (st11 _ (Steps.refl _))
    by_cases hcd : cd = cd'
    · subst hcd
      have c13 : Steps p.tables e below (s₁.setTop (entryFrame m #[.ref x, .ref y] 3)) (T11.setTop (mkF m 37 #[.val (.ref x), .val (.ref y), .val (.ref y)] [.ref x])) := c12.trans (by
        refine XS.icmpNo X11.here hexec rfl (hb hbytes d33) rfl (ii_ne_f rfl) ?_
        refine XS.aloadN X11.here hexec rfl (hb hbytes d36) rfl rfl ?_
        exact Steps.refl _)
      obtain ⟨T14, X14, q14, st14⟩ := X11.hget hexec hown (wk W (.fieldLink "java/lang/String" 9 "java/lang/String" "value" "[B")) (hx.mv X11.warmed.alike hh11).2.1 (g := (mkF m 37 #[.val (.ref x), .val (.ref y), .val (.ref y)] [.ref x])) rfl (rest := []) rfl (hb hbytes d37)
      have hh14 := q14.trans hh11
      have c15 : Steps p.tables e below (s₁.setTop (entryFrame m #[.ref x, .ref y] 3)) (T14.setTop (mkF m 41 #[.val (.ref x), .val (.ref y), .val (.ref y)] [.ref y, .ref t])) := (c13.trans (st14 _ (Steps.refl _))).trans (by
        refine XS.aloadN X14.here hexec rfl (hb hbytes d40) rfl rfl ?_
        exact Steps.refl _)
      obtain ⟨T16, X16, q16, st16⟩ := X14.hget hexec hown (wk W (.fieldLink "java/lang/String" 9 "java/lang/String" "value" "[B")) (hy.mv X14.warmed.alike hh14).2.1 (g := (mkF m 41 #[.val (.ref x), .val (.ref y), .val (.ref y)] [.ref y, .ref t])) rfl (rest := [.ref t]) rfl (hb hbytes d41)
      have hh16 := q16.trans hh14
      have c17 : Steps p.tables e below (s₁.setTop (entryFrame m #[.ref x, .ref y] 3)) (T16.setTop (mkF m 44 #[.val (.ref x), .val (.ref y), .val (.ref y)] [.ref t', .ref t])) := c15.trans (st16 _ (Steps.refl _))
      obtain ⟨v18, T18, X18, E18, g18⟩ := X16.callS hexec (LEq.law l t V t' V') hown (wks W (staticW "java/lang/String" 541 LEq.yN)) (wk W LEq.tab) (W := 0) (Nat.le_of_ble_eq_true rfl) (Nat.le_of_ble_eq_true rfl) (Nat.le_refl _) (Nat.le_refl _) (g := (mkF m 44 #[.val (.ref x), .val (.ref y), .val (.ref y)] [.ref t', .ref t])) rfl (by rw [hml]; rfl) c17 (argsL := [.ref t, .ref t']) (rest := []) rfl rfl (by show 2 * 0 + 0 ≤ _; decide) (hb hbytes d44) (⟨rfl, hx.2.2.2.1.mv X16.warmed.alike hh16, hx.2.2.2.2.1.ty, hy.2.2.2.1.mv X16.warmed.alike hh16, hy.2.2.2.2.1.ty⟩)
      obtain ⟨v, rfl, q18, hv⟩ := E18
      have iff := Cod.eqv hx.2.2.2.2.1 hy.2.2.2.2.1 hx.2.2.2.2.2 hy.2.2.2.2.2
      rcases hv with ⟨rfl, he⟩ | ⟨rfl, he⟩
      · have c19 : Steps p.tables e below (s₁.setTop (entryFrame m #[.ref x, .ref y] 3)) (T18.setTop (mkF m 55 #[.val (.ref x), .val (.ref y), .val (.ref y)] [.int 1])) := Steps.trans g18 (by
          refine XS.ifNo X18.here hexec rfl (hb hbytes d47) rfl (i0_eq_f (by decide)) ?_
          refine iconstV X18.here hexec rfl 1 (hb hbytes d50) (by decide) ?_
          refine XS.goto X18.here hexec rfl (pc0 := 51) rfl (hb hbytes d51) (by decide) rfl ?_
          exact Steps.refl _)
        exact ⟨T18, some (.int 1), _, _, _, X18, rfl, rfl, rfl, (fun h => by cases h), ⟨1, rfl, q18.trans hh16, Or.inl ⟨rfl, iff.mp he⟩⟩, fun fs hl => c19.trans (X18.ireturnOut hexec hret rfl (Or.inr (Or.inl rfl)) (hb hbytes d55) hl)⟩
      · have c19 : Steps p.tables e below (s₁.setTop (entryFrame m #[.ref x, .ref y] 3)) (T18.setTop (mkF m 55 #[.val (.ref x), .val (.ref y), .val (.ref y)] [.int 0])) := Steps.trans g18 (by
          refine XS.ifYes X18.here hexec rfl (pc0 := 47) rfl (hb hbytes d47) rfl (i0_eq_t rfl) (by decide) rfl ?_
          refine iconstV X18.here hexec rfl 0 (hb hbytes d54) (by decide) ?_
          exact Steps.refl _)
        exact ⟨T18, some (.int 0), _, _, _, X18, rfl, rfl, rfl, (fun h => by cases h), ⟨0, rfl, q18.trans hh16, Or.inr ⟨rfl, fun q => he (iff.mpr q)⟩⟩, fun fs hl => c19.trans (X18.ireturnOut hexec hret rfl (Or.inr (Or.inl rfl)) (hb hbytes d55) hl)⟩
    · have c13 : Steps p.tables e below (s₁.setTop (entryFrame m #[.ref x, .ref y] 3)) (T11.setTop (mkF m 55 #[.val (.ref x), .val (.ref y), .val (.ref y)] [.int 0])) := c12.trans (by
        refine XS.icmpYes X11.here hexec rfl (pc0 := 33) rfl (hb hbytes d33) rfl (ii_ne_t hcd) (by decide) rfl ?_
        refine iconstV X11.here hexec rfl 0 (hb hbytes d54) (by decide) ?_
        exact Steps.refl _)
      exact ⟨T11, some (.int 0), _, _, _, X11, rfl, rfl, rfl, (fun h => by cases h), ⟨0, rfl, hh11, Or.inr ⟨rfl, Cod.dif hx.2.2.2.2.1 hy.2.2.2.2.1 hcd⟩⟩, fun fs hl => c13.trans (X11.ireturnOut hexec hret rfl (Or.inr (Or.inl rfl)) (hb hbytes d55) hl)⟩
theorem pays {l : Launch} {R : Room} {p : Program} {e : Env} {below : List Frame} {s : State} {sargs : Array Value} {len W : Nat} (x t : Addr) (V : Cell) (cd : Int32) (n : Nat) (f : Nat → Int32) (y t' : Addr) (V' : Cell) (cd' : Int32) (k : Nat) (g : Nat → Int32) (z : Int32) (htab : tab.before sargs s = true) (hfr : 2 ≤ R.frames) (hlo : W + 28 ≤ R.locals) :
    Back l R p e below s sargs yN len W (fun A₁ a₁ => A₁.cells + 0 ≤ R.cells ∧ A₁.slots + 0 ≤ R.slots ∧ P x t V cd n f y t' V' cd' k g z a₁ A₁.U) (fun A₁ _ v₁ B₁ => Says01 (SameT n f k g) v₁ A₁.U B₁.U ∧ B₁.locs = A₁.locs ++ [] ∧ B₁.cells = A₁.cells + 0 ∧ B₁.slots = A₁.slots + 0) :=
  (law l x t V cd n f y t' V' cd' k g z).pays htab hfr (by omega)
end SEq
end StrChars
namespace StrChars.Road
open Jvm Sem ClassFile Op Lib Jvm.Stand Jvm.Free Jvm.Free.XT
open Jvm.Lib.Cold (StaticIs)
/-- the words of String.equals(Object) -/
abbrev wordsEq : List Jvm.Cond := [.code SEq.yN SEq.yB 3 (some .boolean), .initialized ST, .classLink ST 10 ST, .fieldLink ST 38 ST "COMPACT_STRINGS" "Z", .fieldLink ST 15 ST "coder" "B", .fieldLink ST 9 ST "value" "[B", .methodLink ST 541 LEq.yN, .static LEq.yN, .code LEq.yN LEq.yB 3 (some .boolean), .initialized "java/lang/StringLatin1"]
theorem tabEq_of {a : Array Value} {s : State} (h : ∀ w ∈ wordsEq, w.before a s = true) : SEq.tab.before a s = true := by
  have hl : LEq.tab.before a s = true := unparts (wk h (.code LEq.yN LEq.yB 3 (some .boolean))) (wks h (.initialized LEq.yN.cls :: LEq.site))
  have q := consq hl h
  exact unparts (wk q (.code SEq.yN SEq.yB 3 (some .boolean))) (wks q (.initialized SEq.yN.cls :: SEq.site))
theorem movedEq {Z s : State} {a0 args : Array Value} (hZ : Z.Warmed39 s.vm) (hw : ∀ d ∈ wordsEq, d.before a0 Z = true) : ∀ d ∈ wordsEq, d.before args s = true := fun d hd => by
  have t : ∀ d ∈ wordsEq, (d.onTables && d.keepsFace) = true := by decide +kernel
  exact RoadKit.mv hZ (hw d hd) (t d hd)
/-- the road's facts of a String, as the laws ask it -/
theorem txt_of {Z U : State} {a0 : Array Value} {kI : Nat} (wi : (Jvm.Cond.instantiable ST kI).before a0 Z = true) (al : Z.vm.Alike U.vm) {x t : Addr} {kb : ClassId} {cs : List Int32} {cd N2 : Int32} {vs : List Value} (E : RoadKit.Exa Z U.heap x ST) (V : RoadKit.Fld Z U.heap x ST "value" "[B" (.ref t)) (C : RoadKit.Fld Z U.heap x ST "coder" "B" (.int cd)) (K : RoadKit.Arv Z U.heap t kb .byte N2 vs (.int 0)) (hc : CodA cs cd N2 vs) (hb : ∀ c ∈ cs, ¬ c < 0 ∧ ¬ (65535 : Int32) < c) (l2 : cs.length ≤ 4000) :
    ∃ A, Txt x t A cd cs.length (fun j => cs.getD j 0) U := by
  obtain ⟨A, K1, K2, K3, K4, K5, K6⟩ := K
  have hcod := hc.cod (by omega) K3 K5
  obtain ⟨D, fV, fC, hB, F1, F2, g1, g2, -, -⟩ := strObj wi al E V C
  exact ⟨A, ⟨_, hB.2.2.1, D, hB.1, rfl, by cases q : D.vm <;> first | rfl | exact absurd q (hB.2.1.2 _)⟩, Has.of hB F1 g1, Has.of hB F2 g2, ⟨K1.1, State.isArrayOf_alike al K1.2.1, K1.2.2, by rcases hcod with ⟨-, q, -⟩ | ⟨-, q, -⟩ <;> omega⟩, hcod, fun j hj => by
    have e : cs.getD j 0 = cs[j] := by simp [List.getD_eq_getElem?_getD, hj]
    show ¬ cs.getD j 0 < 0 ∧ ¬ 65535 < cs.getD j 0
    rw [e]; exact hb _ (List.getElem_mem _)⟩
theorem same_list (cs ds : List Int32) : SameT cs.length (fun j => cs.getD j 0) ds.length (fun j => ds.getD j 0) ↔ cs = ds := by
  constructor
  · rintro ⟨e, q⟩
    refine List.ext_getElem e fun j h1 h2 => ?_
    have := q j h1
    simpa [List.getD_eq_getElem?_getD, h1, h2] using this
  · rintro rfl
    exact ⟨rfl, fun _ _ => rfl⟩
/-- **equals(Object) OF TWO SUCH STRINGS**: 1 just where the chars are the same -/
theorem eqW {p : Program} {l : Launch} {e : Env} {R : Room} {s : State} {args : Array Value} {below : List Frame} {len W : Nat} {Z : State} {a0 : Array Value} {h : Heap} (hZ : Z.Warmed39 s.vm) (hw : ∀ d ∈ wordsEq, d.before a0 Z = true) {kI : Nat} (wi : (Jvm.Cond.instantiable ST kI).before a0 Z = true)
    {x t : Addr} {kb : ClassId} {cs : List Int32} {cd N2 : Int32} {vs : List Value} (E : RoadKit.Exa Z h x ST) (V : RoadKit.Fld Z h x ST "value" "[B" (.ref t)) (C : RoadKit.Fld Z h x ST "coder" "B" (.int cd)) (K : RoadKit.Arv Z h t kb .byte N2 vs (.int 0)) (hc : CodA cs cd N2 vs) (hb : ∀ c ∈ cs, ¬ c < 0 ∧ ¬ (65535 : Int32) < c) (l2 : cs.length ≤ 4000)
    {y t' : Addr} {kb' : ClassId} {ds : List Int32} {cd' N2' : Int32} {vs' : List Value} (E' : RoadKit.Exa Z h y ST) (V' : RoadKit.Fld Z h y ST "value" "[B" (.ref t')) (C' : RoadKit.Fld Z h y ST "coder" "B" (.int cd')) (K' : RoadKit.Arv Z h t' kb' .byte N2' vs' (.int 0)) (hc' : CodA ds cd' N2' vs') (hb' : ∀ c ∈ ds, ¬ c < 0 ∧ ¬ (65535 : Int32) < c) (l2' : ds.length ≤ 4000)
    {z : Int32} (S : RoadKit.Sta Z h ST "COMPACT_STRINGS" "Z" (.int z)) (hz : ¬ z = 0) (hfr : 2 ≤ R.frames) (hlo : W + 28 ≤ R.locals) :
    Back l R p e below s args (⟨"java/lang/String", "equals", "(Ljava/lang/Object;)Z"⟩ : MethodName) len W (fun P a => a = #[.ref x, .ref y] ∧ P.U.heap = h ∧ P.cells + 0 ≤ R.cells ∧ P.slots + 0 ≤ R.slots)
      (fun P _ v B => ∃ L, (((v = some (.int 1) ∧ cs = ds) ∨ (v = some (.int 0) ∧ ¬ cs = ds)) ∧ L = [] ∧ B.U.heap = h) ∧ B.locs = P.locs ++ L ∧ B.cells = P.cells + 0 ∧ B.slots = P.slots + 0) := by
  intro m meth c P g ig mk a X hg hsize hdg hW hn hp'
  obtain ⟨rfl, rfl, r1, r2⟩ := hp'
  have al : Z.vm.Alike P.U.vm := hZ.alike.trans X.warmed.alike
  obtain ⟨A, hx⟩ := txt_of wi al E V C K hc hb l2
  obtain ⟨A', hy⟩ := txt_of wi al E' V' C' K' hc' hb' l2'
  obtain ⟨v, B, X', ⟨⟨w, hv, hh, hq⟩, hl, hk, hs⟩, st⟩ := SEq.pays x t A cd cs.length (fun j => cs.getD j 0) y t' A' cd' ds.length (fun j => ds.getD j 0) z (tabEq_of (movedEq hZ hw)) hfr hlo m meth c P g ig mk _ X hg hsize hdg hW hn ⟨r1, r2, rfl, hx, hy, sta_is al S, hz⟩
  refine ⟨v, B, X', ⟨[], ⟨?_, rfl, hh⟩, hl, hk, hs⟩, st⟩
  rcases hq with ⟨rfl, q⟩ | ⟨rfl, q⟩
  · exact Or.inl ⟨hv, (same_list cs ds).mp q⟩
  · exact Or.inr ⟨hv, fun e => q ((same_list cs ds).mpr e)⟩
end StrChars.Road
namespace StrChars.Road
open Jvm Sem ClassFile Op Lib Jvm.Stand Jvm.Free Jvm.Free.XT
open Jvm.Lib.Cold (StaticIs)
/-- what backV says of its String, as the contracts of this text ask it: cs's low bytes, coder 0 -/
theorem codOf {cs : List Int32} {n : Nat} (hn : cs.length = n) (hb : ∀ c ∈ cs, ¬ 255 < c) : CodA cs 0 (Int32.ofNat n) ((cs.map lo8).map Value.int) := Or.inl ⟨rfl, by rw [hn], by simp [List.map_map, Function.comp_def], hb⟩
end StrChars.Road
end Jvm.Pilot.@@N@@

namespace Jvm.Pilot.@@N@@
open Jvm Jvm.ClassFile Sem Op Lib Jvm.Free Jvm.Stand Jvm.LawKit Jvm.RoadKit Bundle Jvm.Pilot.@@N@@.Jvm.D
section Kit
variable {p : Program} {l : Launch} {e : Env} {R : Room} {s : State} {m : MethodId} {args : Array Value} {below : List Frame} {meth : Method} {c : Code} {Z : State} {EL : List (String × Nat)} {own : String} {n0 : Nat} {bk : Addr → Prop} {h : Heap} {cells slots : Nat} {g g' : JFrame} {a0 : Array Value} {Q : Option Value → Heap → (Addr → Prop) → Prop}
/-- what a walk leaves: its answer, its heap, what may be booked -/
def EndW (s : State) (R : Room) (Z : State) (EL : List (String × Nat)) (n0 : Nat) (Q : Option Value → Heap → (Addr → Prop) → Prop) (o : Outcome) (U : State) : Prop :=
  ∃ v L bk', o = .returned v ∧ (Q v U.heap bk' ∧ Fr n0 L ∧ Old Z n0 U.heap ∧ CHv Z EL U.vm U.heap ∧ ∀ y, Bk Z EL U.vm U.heap y → bk' y) ∧ ReturnedEndW s o U L R.cells R.slots
/-- where a walk stands -/
def Pos (p : Program) (l : Launch) (e : Env) (R : Room) (s : State) (m : MethodId) (args : Array Value) (below : List Frame) (meth : Method) (c : Code) (Z : State) (EL : List (String × Nat)) (own : String) (n0 : Nat) (bk : Addr → Prop) (h : Heap) (cells slots : Nat) (vm0 : Vm) (T : State) (locs : List Loc) : Prop :=
  Stand p l e R (s.setVm vm0) m args below meth c T locs cells slots ∧ T.heap = h ∧ (∃ k0, s.Since vm0 k0 ∧ k0 ≤ h.size) ∧ Z.Warmed39 vm0 ∧ vm0.findClass own = some m.cls ∧ Fr n0 locs ∧ Old Z n0 h ∧ CHv Z EL vm0 h ∧ (∀ y, Bk Z EL vm0 h y → bk y) ∧ ∃ a0, EW Z a0 EL
/-- from here the walk ends, and leaves Q -/
def Run (p : Program) (l : Launch) (e : Env) (R : Room) (s : State) (m : MethodId) (args : Array Value) (below : List Frame) (meth : Method) (c : Code) (Z : State) (EL : List (String × Nat)) (own : String) (n0 : Nat) (bk : Addr → Prop) (h : Heap) (cells slots : Nat) (g : JFrame) (Q : Option Value → Heap → (Addr → Prop) → Prop) : Prop :=
  ∀ vm0 T locs, Pos p l e R s m args below meth c Z EL own n0 bk h cells slots vm0 T locs → ∃ U o, Steps p.tables e below (T.setTop g) U ∧ U.status = .running ∧ Ended U below o ∧ EndW s R Z EL n0 Q o U
/-- a body's contract -/
def Met (l : Launch) (Z : State) (EL : List (String × Nat)) (n0 : Nat) (bk : Addr → Prop) (y : MethodName) (bytes : ByteArray) (maxL : Nat) (ret : Option FieldType) (rm : Room) (as' : Array Value) (h : Heap) (Q : Option Value → Heap → (Addr → Prop) → Prop) (ws : List Jvm.Cond) : Prop :=
  MetFree l y (head1 (Jvm.Cond.code y bytes maxL ret :: ws) rm) (fun a U => a = as' ∧ Z.Warmed39 U.vm ∧ U.heap = h ∧ CHv Z EL U.vm h ∧ ∀ x, Bk Z EL U.vm h x → bk x) (fun _ _ _ _ _ => True) (fun _ U o U' => EndW U rm Z EL n0 Q o U')
theorem end_mono {s t : State} {o : Outcome} {L : List Loc} {k n k' n' : Nat} (H : ReturnedEndW s o t L k n) (hk : k ≤ k') (hn : n ≤ n') : ReturnedEndW s o t L k' n' := ⟨H.1, H.2.1, H.2.2.1, H.2.2.2.mono hk hn⟩
theorem Met.of {y : MethodName} {bytes : ByteArray} {maxL : Nat} {ret : Option FieldType} {rm : Room} {as' : Array Value} {ws : List Jvm.Cond} (hp : plainFor y = true) (hO : Old Z n0 h) (hE : EW Z a0 EL)
    (H : ∀ p e s m below meth c, p.tables.exec = Jvm.exec → c.code = bytes → c.maxLocals = maxL → meth.sig.returnType = ret → meth.locks = false → meth.name = y.name → Run p l e rm s m as' below meth c Z EL y.cls n0 bk h 0 0 (entryFrame m as' maxL) Q) : Met l Z EL n0 bk y bytes maxL ret rm as' h Q ws := by
  refine MetFree.of_bodySF hp hisR ?_
  intro p e s m args below meth c s₁ Bd hml hP hK
  obtain ⟨rfl, hZ, hh, hC, hB⟩ := hP
  have e0 : s₁.heap = h := by rw [← hh, Bd.state]; rfl
  exact H p e s m below meth c Bd.exec Bd.bytes hml Bd.returns Bd.notSynchronized (name_of_methodNamed Bd.named Bd.method).1 s.vm s₁ [] ⟨Stand.of_body Bd, e0, ⟨0, (State.WarmedH.refl s).since _, Nat.zero_le _⟩, hZ, findClass_of_methodNamed Bd.named, Fr.nil _, hO, hC, hB, _, hE⟩
/-- one pure step -/
theorem k_pure (st : ∀ T, At T m c below → ∀ t, Steps p.tables e below (T.setTop g') t → Steps p.tables e below (T.setTop g) t)
    (k : Run p l e R s m args below meth c Z EL own n0 bk h cells slots g' Q) : Run p l e R s m args below meth c Z EL own n0 bk h cells slots g Q := fun vm0 T locs P => by
  obtain ⟨U, o, h1, r⟩ := k vm0 T locs P
  exact ⟨U, o, st T P.1.here _ h1, r⟩
theorem k_cast (q : g = g') (k : Run p l e R s m args below meth c Z EL own n0 bk h cells slots g' Q) : Run p l e R s m args below meth c Z EL own n0 bk h cells slots g Q := q ▸ k
theorem k_more {cells' slots' : Nat} (hc : cells ≤ cells') (hs : slots ≤ slots') (k : Run p l e R s m args below meth c Z EL own n0 bk h cells' slots' g Q) : Run p l e R s m args below meth c Z EL own n0 bk h cells slots g Q := fun vm0 T locs P => k vm0 T locs ⟨P.1.more hc hs, P.2⟩
/-- one step that looks at the tables or the heap and moves no cell -/
theorem k_still (st : ∀ s' T locs, Stand p l e R s' m args below meth c T locs cells slots → T.heap = h → Z.Warmed39 s'.vm → s'.vm.findClass own = some m.cls → ∃ T', Stand p l e R s' m args below meth c T' locs cells slots ∧ T'.heap = h ∧ ∀ t, Steps p.tables e below (T'.setTop g') t → Steps p.tables e below (T.setTop g) t)
    (k : Run p l e R s m args below meth c Z EL own n0 bk h cells slots g' Q) : Run p l e R s m args below meth c Z EL own n0 bk h cells slots g Q := fun vm0 T locs P => by
  obtain ⟨X, e1, hS, hZ, ho, N, O, C, B, hE⟩ := P
  obtain ⟨T', X', e2, st'⟩ := st _ T locs X e1 hZ ho
  obtain ⟨U, o, h1, r⟩ := k vm0 T' locs ⟨X', e2, hS, hZ, ho, N, O, C, B, hE⟩
  exact ⟨U, o, st' _ h1, r⟩
/-- one step that makes cells -/
theorem k_grow {kc ks : Nat} {F : Heap → JFrame → Prop} (st : ∀ s' T locs, Stand p l e R s' m args below meth c T locs cells slots → T.heap = h → Z.Warmed39 s'.vm → s'.vm.findClass own = some m.cls → ∃ T' h' g', Stand p l e R s' m args below meth c T' locs (cells + kc) (slots + ks) ∧ T'.heap = h' ∧ Ext h h' ∧ F h' g' ∧ ∀ t, Steps p.tables e below (T'.setTop g') t → Steps p.tables e below (T.setTop g) t)
    (k : ∀ h' g', Old Z n0 h' → Ext h h' → F h' g' → Run p l e R s m args below meth c Z EL own n0 bk h' (cells + kc) (slots + ks) g' Q) : Run p l e R s m args below meth c Z EL own n0 bk h cells slots g Q := fun vm0 T locs P => by
  obtain ⟨X, e1, ⟨k0, hS, hk⟩, hZ, ho, N, O, C, B, hE⟩ := P
  obtain ⟨T', h', g', X', e2, E, hF, st'⟩ := st _ T locs X e1 hZ ho
  have hC := CHr.ext E C
  obtain ⟨U, o, h1, r⟩ := k h' g' (O.ext E) E hF vm0 T' locs ⟨X', e2, ⟨k0, hS, Nat.le_trans hk E.1⟩, hZ, ho, N, O.ext E, hC.1, fun y q => B y ((C.step fun _ _ _ q => E.2 _ _ q).2 y q), hE⟩
  exact ⟨U, o, st' _ h1, r⟩
/-- one step that writes one place of a cell that is ours -/
theorem k_write {a : Addr} {sl : Nat} {v : Value} (ge : n0 ≤ a) (nb : ¬ bk a)
    (st : ∀ s' T locs, Stand p l e R s' m args below meth c T locs cells slots → T.heap = h → Z.Warmed39 s'.vm → s'.vm.findClass own = some m.cls → ∃ T' h', Stand p l e R s' m args below meth c T' (locs ++ [⟨a, sl⟩]) cells slots ∧ T'.heap = h' ∧ Wr h h' a sl v ∧ ∀ t, Steps p.tables e below (T'.setTop g') t → Steps p.tables e below (T.setTop g) t)
    (k : ∀ h', Old Z n0 h' → Wr h h' a sl v → Run p l e R s m args below meth c Z EL own n0 bk h' cells slots g' Q) : Run p l e R s m args below meth c Z EL own n0 bk h cells slots g Q := fun vm0 T locs P => by
  obtain ⟨X, e1, ⟨k0, hS, hk⟩, hZ, ho, N, O, C, B, hE⟩ := P
  obtain ⟨T', h', X', e2, W, st'⟩ := st _ T locs X e1 hZ ho
  have sa : Safe Z EL vm0 h a := fun q => nb (B a q)
  have hC := C.wrStep W sa
  obtain ⟨U, o, h1, r⟩ := k h' (O.wr W ge) W vm0 T' _ ⟨X', e2, ⟨k0, hS, by rw [W.size]; exact hk⟩, hZ, ho, Fr.snoc X' N ge, O.wr W ge, hC.1, fun y q => B y (hC.2 y q), hE⟩
  exact ⟨U, o, st' _ h1, r⟩
/-- the end of a walk -/
theorem k_end {v : Option Value} (hlk : meth.locks = false) (hv : meth.sig.returnType = none → v = none) (hc : cells ≤ R.cells) (hs : slots ≤ R.slots) (hQ : Q v h bk)
    (st : ∀ s' T locs fs, Stand p l e R s' m args below meth c T locs cells slots → (∀ (f : JFrame) (acts : List Action), f.method = m → f.locked = none → f.entered = [] → (doReturn e (T.setTop f) acts v).1 = T.setFrames fs) → Steps p.tables e below (T.setTop g) (T.setFrames fs)) :
    Run p l e R s m args below meth c Z EL own n0 bk h cells slots g Q := fun vm0 T locs P => by
  obtain ⟨X, e1, ⟨k0, hS, hk⟩, hZ, ho, N, O, C, B, a0, hE⟩ := P
  obtain ⟨fs, hr, hrun, hended, hW⟩ := X.leaveW hS (by rw [e1]; exact hk) (v := v) hv hlk
  have A := CHv.at X hZ hE C
  have eh : (T.setFrames fs).heap = h := e1
  refine ⟨_, _, st _ T locs fs X hr, hrun, hended, v, locs, bk, rfl, ⟨?_, N, ?_, ?_, ?_⟩, end_mono hW hc hs⟩
  · rw [eh]; exact hQ
  · rw [eh]; exact O
  · rw [eh]; exact A.1
  · rw [eh]; exact fun y q => (A.2.2 y q).elim (B y) (fun z => absurd (Array.getElem?_eq_some_iff.mp (Bk.there q).choose_spec).1 (Nat.not_lt.mpr z))
/-! the steps -/
theorem k_getF (hx : p.tables.exec = Jvm.exec) {R0 O n d host : String} {index : Nat} (w : (Jvm.Cond.fieldLink own index R0 n d).before a0 Z = true ∨ (Jvm.Cond.fieldLinkNest own index R0 n d host).before a0 Z = true) (via : Via Z R0 O n d) {a : Addr} {v : Value} (F : Fld Z h a O n d v)
    (hg : g.method = m) {rest : List Value} (hs : g.stack = .ref a :: rest) (hd : decode c.code g.pc = .ok (.getfield index, 3)) (k : Run p l e R s m args below meth c Z EL own n0 bk h cells slots { g with pc := g.pc + 3, stack := v :: rest } Q) : Run p l e R s m args below meth c Z EL own n0 bk h cells slots g Q :=
  k_still (fun s' T locs X e1 hZ ho => getF X hx hZ ho w via e1 F hg hs hd) k
theorem k_getS (hx : p.tables.exec = Jvm.exec) {R0 O n d host : String} {index : Nat} (w : (Jvm.Cond.fieldLink own index R0 n d).before a0 Z = true ∨ (Jvm.Cond.fieldLinkNest own index R0 n d host).before a0 Z = true) (via : Via Z R0 O n d) {v : Value} (F : Sta Z h O n d v)
    (hg : g.method = m) (hd : decode c.code g.pc = .ok (.getstatic index, 3)) (k : Run p l e R s m args below meth c Z EL own n0 bk h cells slots { g with pc := g.pc + 3, stack := v :: g.stack } Q) : Run p l e R s m args below meth c Z EL own n0 bk h cells slots g Q :=
  k_still (fun s' T locs X e1 hZ ho => getS2 X hx hZ ho w via e1 F hg hd) k
theorem k_cast' (hx : p.tables.exec = Jvm.exec) {K : String} {index : Nat} (w : (Jvm.Cond.classLink own index K).before a0 Z = true) {a : Addr} (F : Ins Z h a K true) (hg : g.method = m) {rest : List Value} (hs : g.stack = .ref a :: rest) (hd : decode c.code g.pc = .ok (.checkcast index, 3))
    (k : Run p l e R s m args below meth c Z EL own n0 bk h cells slots { g with pc := g.pc + 3 } Q) : Run p l e R s m args below meth c Z EL own n0 bk h cells slots g Q :=
  k_still (fun s' T locs X e1 hZ ho => castY X hx hZ ho w e1 F hg hs hd) k
theorem k_instY (hx : p.tables.exec = Jvm.exec) {K : String} {index : Nat} (w : (Jvm.Cond.classLink own index K).before a0 Z = true) {a : Addr} (F : Ins Z h a K true) (hg : g.method = m) {rest : List Value} (hs : g.stack = .ref a :: rest) (hd : decode c.code g.pc = .ok (.instanceof index, 3))
    (k : Run p l e R s m args below meth c Z EL own n0 bk h cells slots { g with pc := g.pc + 3, stack := .int 1 :: rest } Q) : Run p l e R s m args below meth c Z EL own n0 bk h cells slots g Q :=
  k_still (fun s' T locs X e1 hZ ho => instY X hx hZ ho w e1 F hg hs hd) k
theorem k_instNo (hx : p.tables.exec = Jvm.exec) {K C : String} {index : Nat} (w : (Jvm.Cond.classLink own index K).before a0 Z = true) {a : Addr} (E : Exa Z h a C) (F : ∃ c t, Z.vm.findClass C = some c ∧ Z.vm.findClass K = some t ∧ Z.vm.assignable c t = false) (hg : g.method = m) {rest : List Value} (hs : g.stack = .ref a :: rest) (hd : decode c.code g.pc = .ok (.instanceof index, 3))
    (k : Run p l e R s m args below meth c Z EL own n0 bk h cells slots { g with pc := g.pc + 3, stack := .int 0 :: rest } Q) : Run p l e R s m args below meth c Z EL own n0 bk h cells slots g Q :=
  k_still (fun s' T locs X e1 hZ ho => instNo X hx hZ ho w e1 E F hg hs hd) k
theorem k_initO (hx : p.tables.exec = Jvm.exec) {idx : Nat} (w1 : (Jvm.Cond.methodLink own idx Lib.objectInit).before a0 Z = true) (w2 : (Jvm.Cond.instanceMethod Lib.objectInit).before a0 Z = true) (w3 : (Jvm.Cond.code Lib.objectInit ⟨#[0xb1]⟩ 1 none).before a0 Z = true)
    (hg : g.method = m) (hsize : g.locals.size = c.maxLocals) {a : Addr} {rest : List Value} (hs : g.stack = .ref a :: rest) (hd : decode c.code g.pc = .ok (.invokespecial idx, 3)) (hf : 1 ≤ R.frames) {W : Nat} (hW : 2 * g.monitorRoom + (rest.map fun v => v.category).sum ≤ W) (hl : W + 12 ≤ R.locals)
    (k : Run p l e R s m args below meth c Z EL own n0 bk h cells slots { g with pc := g.pc + 3, stack := rest } Q) : Run p l e R s m args below meth c Z EL own n0 bk h cells slots g Q :=
  k_still (fun s' T locs X e1 hZ ho => initO X hx hZ ho w1 w2 w3 e1 hg hsize hs hd hf hW hl) k
theorem k_ldcI (hx : p.tables.exec = Jvm.exec) {index : Nat} {v : Int32} (w : (Jvm.Cond.constant own index v).before a0 Z = true) (hg : g.method = m) (hd : decode c.code g.pc = .ok (.ldc index, 2))
    (k : Run p l e R s m args below meth c Z EL own n0 bk h cells slots { g with pc := g.pc + 2, stack := .int v :: g.stack } Q) : Run p l e R s m args below meth c Z EL own n0 bk h cells slots g Q :=
  k_still (fun s' T locs X e1 hZ ho => ⟨T, X, e1, fun t => X.ldcInt hx ho (mv hZ w) hg hd t⟩) k
theorem k_ldcWI (hx : p.tables.exec = Jvm.exec) {index : Nat} {v : Int32} (w : (Jvm.Cond.constant own index v).before a0 Z = true) (hg : g.method = m) (hd : decode c.code g.pc = .ok (.ldc_w index, 3))
    (k : Run p l e R s m args below meth c Z EL own n0 bk h cells slots { g with pc := g.pc + 3, stack := .int v :: g.stack } Q) : Run p l e R s m args below meth c Z EL own n0 bk h cells slots g Q :=
  k_still (fun s' T locs X e1 hZ ho => ⟨T, X, e1, fun t => X.ldcWInt hx ho (mv hZ w) hg hd t⟩) k
theorem k_ldc2J (hx : p.tables.exec = Jvm.exec) {index : Nat} {v : Int64} (w : (Jvm.Cond.constantLong own index v).before a0 Z = true) (hg : g.method = m) (hd : decode c.code g.pc = .ok (.ldc2_w index, 3))
    (k : Run p l e R s m args below meth c Z EL own n0 bk h cells slots { g with pc := g.pc + 3, stack := .long v :: g.stack } Q) : Run p l e R s m args below meth c Z EL own n0 bk h cells slots g Q :=
  k_still (fun s' T locs X e1 hZ ho => ⟨T, X, e1, fun t => X.ldc2Long hx ho (mv hZ w) hg hd t⟩) k
theorem k_instNull (hx : p.tables.exec = Jvm.exec) {K : String} {index : Nat} (w : (Jvm.Cond.classLink own index K).before a0 Z = true) (hg : g.method = m) {rest : List Value} (hs : g.stack = .null :: rest) (hd : decode c.code g.pc = .ok (.instanceof index, 3))
    (k : Run p l e R s m args below meth c Z EL own n0 bk h cells slots { g with pc := g.pc + 3, stack := .int 0 :: rest } Q) : Run p l e R s m args below meth c Z EL own n0 bk h cells slots g Q :=
  k_still (fun s' T locs X e1 hZ ho => ⟨T, X, e1, fun t => X.instanceofNull hx hg hs hd t⟩) k
theorem k_newO (hx : p.tables.exec = Jvm.exec) {C : String} {index n : Nat} (w : (Jvm.Cond.classLink own index C).before a0 Z = true) (wi : (Jvm.Cond.instantiable C n).before a0 Z = true) (wz : (Jvm.Cond.initialized C).before a0 Z = true)
    (hg : g.method = m) (hd : decode c.code g.pc = .ok (.new index, 3)) (hc : cells + 1 ≤ R.cells) (hl : slots + n ≤ R.slots)
    (k : ∀ h' a, a = h.size → Old Z n0 h' → Ext h h' → Exa Z h' a C → (∀ {O nm d : String} {ty : FieldType}, RoadKit.Laid Z a0 C O nm d → parseFieldDescriptor d = some ty → Fld Z h' a O nm d (defaultValue ty)) → (∃ cell : Cell, h'[a]? = some cell ∧ cell.vm = .none ∧ cell.monitor = {}) →
      Run p l e R s m args below meth c Z EL own n0 bk h' (cells + 1) (slots + n) { g with pc := g.pc + 3, stack := .ref a :: g.stack } Q) : Run p l e R s m args below meth c Z EL own n0 bk h cells slots g Q :=
  k_grow (F := fun h' g' => g' = { g with pc := g.pc + 3, stack := .ref h.size :: g.stack } ∧ Exa Z h' h.size C ∧ (∀ {O nm d : String} {ty : FieldType}, RoadKit.Laid Z a0 C O nm d → parseFieldDescriptor d = some ty → Fld Z h' h.size O nm d (defaultValue ty)) ∧ ∃ cell : Cell, h'[h.size]? = some cell ∧ cell.vm = .none ∧ cell.monitor = {})
    (fun s' T locs X e1 hZ ho => by
      obtain ⟨T', h', X', e2, E, A, D, N, st⟩ := newO X hx hZ ho w wi wz e1 hg hd hc hl
      exact ⟨T', h', _, X', e2, E, ⟨rfl, A, D, N⟩, st⟩)
    (fun h' g' O E ⟨q, A, D, N⟩ => by subst q; exact k h' _ rfl O E A D N)
theorem k_newP (hx : p.tables.exec = Jvm.exec) {aty : ArrayType} (w : (Jvm.Cond.arrayClass (newarray.typeOf aty)).before a0 Z = true) (hg : g.method = m) (hd : decode c.code g.pc = .ok (.newarray aty, 2)) {n : Int32} {rest : List Value} (hs : g.stack = .int n :: rest)
    (hn : ¬ n < 0) {cap : Nat} (hcap : n.toNatClampNeg ≤ cap) (hb : cap * 8 ≤ 536870912) (hc : cells + 1 ≤ R.cells) (hl : slots + cap ≤ R.slots) (ad : String) (had : "[" ++ (newarray.typeOf aty).toString = ad)
    (k : ∀ h' a kA, a = h.size → Old Z n0 h' → Ext h h' → Arv Z h' a kA (newarray.typeOf aty) n [] (defaultValue (newarray.typeOf aty)) → Exa Z h' a ad → Run p l e R s m args below meth c Z EL own n0 bk h' (cells + 1) (slots + cap) { g with pc := g.pc + 2, stack := .ref a :: rest } Q) : Run p l e R s m args below meth c Z EL own n0 bk h cells slots g Q :=
  k_grow (F := fun h' g' => g' = { g with pc := g.pc + 2, stack := .ref h.size :: rest } ∧ Exa Z h' h.size ad ∧ ∃ kA, Arv Z h' h.size kA (newarray.typeOf aty) n [] (defaultValue (newarray.typeOf aty)))
    (fun s' T locs X e1 hZ ho => by
      obtain ⟨T', h', cA, X', e2, E, A, D, st⟩ := newPE X hx hZ w e1 hg hd hs hn hcap hb hc hl had
      exact ⟨T', h', _, X', e2, E, ⟨rfl, D, cA, Arv.new A hn⟩, st⟩)
    (fun h' g' O E ⟨q, D, kA, A⟩ => by subst q; exact k h' _ kA rfl O E A D)
theorem k_newR (hx : p.tables.exec = Jvm.exec) {C : String} {index : Nat} (w1 : (Jvm.Cond.classLink own index C).before a0 Z = true) (w2 : (Jvm.Cond.arrayOver (.object C)).before a0 Z = true) (hg : g.method = m) (hd : decode c.code g.pc = .ok (.anewarray index, 3)) {n : Int32} {rest : List Value} (hs : g.stack = .int n :: rest)
    (hn : ¬ n < 0) {cap : Nat} (hcap : n.toNatClampNeg ≤ cap) (hb : cap * 8 ≤ 536870912) (hc : cells + 1 ≤ R.cells) (hl : slots + cap ≤ R.slots) (ad : String) (had : "[" ++ (FieldType.object C).toString = ad)
    (k : ∀ h' a kA, a = h.size → Old Z n0 h' → Ext h h' → Arv Z h' a kA (.object C) n [] .null → Exa Z h' a ad → Ovr Z kA C → Run p l e R s m args below meth c Z EL own n0 bk h' (cells + 1) (slots + cap) { g with pc := g.pc + 3, stack := .ref a :: rest } Q) : Run p l e R s m args below meth c Z EL own n0 bk h cells slots g Q :=
  k_grow (F := fun h' g' => g' = { g with pc := g.pc + 3, stack := .ref h.size :: rest } ∧ Exa Z h' h.size ad ∧ ∃ kA, Arv Z h' h.size kA (.object C) n [] .null ∧ Ovr Z kA C)
    (fun s' T locs X e1 hZ ho => by
      obtain ⟨T', h', cA, X', e2, E, A, D, Ov, st⟩ := newRE X hx hZ ho w1 w2 e1 hg hd hs hn hcap hb hc hl had
      exact ⟨T', h', _, X', e2, E, ⟨rfl, D, cA, Arv.new A hn, Ov⟩, st⟩)
    (fun h' g' O E ⟨q, D, kA, A, Ov⟩ => by subst q; exact k h' _ kA rfl O E A D Ov)
theorem k_putF (hx : p.tables.exec = Jvm.exec) {R0 O n d host C : String} {index kk : Nat} {ty : FieldType} (w : (Jvm.Cond.fieldLink own index R0 n d).before a0 Z = true ∨ (Jvm.Cond.fieldLinkNest own index R0 n d host).before a0 Z = true) (via : Via Z R0 O n d)
    {a : Addr} {v old : Value} (F : Fld Z h a O n d old) (E : Exa Z h a C) (L : (Jvm.Cond.lays C O n d).before a0 Z = true ∨ ((Jvm.Cond.laysFinal C O n d).before a0 Z = true ∧ own = O ∧ meth.name = "<init>")) (wi : (Jvm.Cond.instantiable C kk).before a0 Z = true)
    (hty : parseFieldDescriptor d = some ty) (hn : narrow ty v = v) (hf : fits ty v = true) (ge : n0 ≤ a) (nb : ¬ bk a) (hg : g.method = m) {rest : List Value} (hs : g.stack = v :: .ref a :: rest) (hd : decode c.code g.pc = .ok (.putfield index, 3))
    (k : ∀ h', Old Z n0 h' → Wr h h' a (RoadKit.slotOf Z O n d) v → Run p l e R s m args below meth c Z EL own n0 bk h' cells slots { g with pc := g.pc + 3, stack := rest } Q) : Run p l e R s m args below meth c Z EL own n0 bk h cells slots g Q :=
  k_write ge nb (fun s' T locs X e1 hZ ho => putF X hx hZ ho w via e1 F E L wi hty hn hf hg hs hd) k
theorem k_alen (hx : p.tables.exec = Jvm.exec) {a : Addr} {kA : ClassId} {ty : FieldType} {n : Int32} {vs : List Value} {d : Value} (V : Arv Z h a kA ty n vs d) (hg : g.method = m) {rest : List Value} (hs : g.stack = .ref a :: rest) (hd : decode c.code g.pc = .ok (.arraylength, 1))
    (k : Run p l e R s m args below meth c Z EL own n0 bk h cells slots { g with pc := g.pc + 1, stack := .int n :: rest } Q) : Run p l e R s m args below meth c Z EL own n0 bk h cells slots g Q :=
  k_still (fun s' T locs X e1 hZ ho => ⟨T, X, e1, fun t => by
    obtain ⟨cl, A, -, S, q, -⟩ := V
    have := X.arraylength hx (a := a) (cell := cl) (by rw [e1]; exact A.1) (State.isArrayOf_alike hZ.alike A.2.1) hg hs hd t
    rw [len_of S q] at this; exact this⟩) k
theorem k_aget (hx : p.tables.exec = Jvm.exec) {a : Addr} {kA : ClassId} {ty : FieldType} {n j : Int32} {vs : List Value} {d v : Value} {i : Instr} (V : Arv Z h a kA ty n vs d) (hj : ¬ j < 0 ∧ j < n) (hv : vs.getD j.toNatClampNeg d = v)
    (hi : (i = .iaload ∧ ty = .int) ∨ (i = .laload ∧ ty = .long) ∨ (i = .caload ∧ ty = .char) ∨ (i = .baload ∧ ty = .byte) ∨ (i = .aaload ∧ ty.isReference = true)) (hg : g.method = m) {rest : List Value} (hs : g.stack = .int j :: .ref a :: rest) (hd : decode c.code g.pc = .ok (i, 1))
    (k : Run p l e R s m args below meth c Z EL own n0 bk h cells slots { g with pc := g.pc + 1, stack := v :: rest } Q) : Run p l e R s m args below meth c Z EL own n0 bk h cells slots g Q :=
  k_still (fun s' T locs X e1 hZ ho => ⟨T, X, e1, fun t => by
    obtain ⟨cl, A, -, S, q, H, -⟩ := V
    have A1 : T.heap[a]? = some cl := by rw [e1]; exact A.1
    have A2 := State.isArrayOf_alike hZ.alike A.2.1
    have hin := inb_of S hj
    have hv' := Has.at H hin hv
    rcases hi with ⟨rfl, rfl⟩ | ⟨rfl, rfl⟩ | ⟨rfl, rfl⟩ | ⟨rfl, rfl⟩ | ⟨rfl, ht⟩
    · exact X.iaload hx A1 A2 A.2.2 hin hv' hg hs hd t
    · exact X.laload hx A1 A2 A.2.2 hin hv' hg hs hd t
    · exact X.caload hx A1 A2 A.2.2 hin hv' hg hs hd t
    · exact X.baloadBytes hx A1 A2 A.2.2 hin hv' hg hs hd t
    · exact X.aaload hx A1 A2 ht A.2.2 hin hv' hg hs hd t⟩) k
theorem k_stC (hx : p.tables.exec = Jvm.exec) {a : Addr} {kA : ClassId} {n j x : Int32} {vs : List Value} {d : Value} (V : Arv Z h a kA .char n vs d) (hj : ¬ j < 0 ∧ j < n) (i : Nat) (hi : j.toNatClampNeg = i) (hl : i < vs.length) (ge : n0 ≤ a) (nb : ¬ bk a) (hg : g.method = m) {rest : List Value} (hs : g.stack = .int x :: .int j :: .ref a :: rest) (hd : decode c.code g.pc = .ok (.castore, 1))
    (k : ∀ h', Old Z n0 h' → Wr h h' a j.toNatClampNeg (.int (nar .char x)) → Arv Z h' a kA .char n (vs.set i (.int (nar .char x))) d → Run p l e R s m args below meth c Z EL own n0 bk h' cells slots { g with pc := g.pc + 1, stack := rest } Q) : Run p l e R s m args below meth c Z EL own n0 bk h cells slots g Q := by
  obtain ⟨cl, A, q1, S, q3, H, G⟩ := V
  exact k_write ge nb (fun s' T locs X e1 hZ ho => stC X hx hZ e1 A (inb_of S hj) hg hs hd) fun h' O W => k h' O W (Arv.set A q1 S q3 H G (fits_nar_char _) W i hi hl)
theorem k_stB (hx : p.tables.exec = Jvm.exec) {a : Addr} {kA : ClassId} {n j x : Int32} {vs : List Value} {d : Value} (V : Arv Z h a kA .byte n vs d) (hj : ¬ j < 0 ∧ j < n) (i : Nat) (hi : j.toNatClampNeg = i) (hl : i < vs.length) (ge : n0 ≤ a) (nb : ¬ bk a) (hg : g.method = m) {rest : List Value} (hs : g.stack = .int x :: .int j :: .ref a :: rest) (hd : decode c.code g.pc = .ok (.bastore, 1))
    (k : ∀ h', Old Z n0 h' → Wr h h' a j.toNatClampNeg (.int (nar .byte x)) → Arv Z h' a kA .byte n (vs.set i (.int (nar .byte x))) d → Run p l e R s m args below meth c Z EL own n0 bk h' cells slots { g with pc := g.pc + 1, stack := rest } Q) : Run p l e R s m args below meth c Z EL own n0 bk h cells slots g Q := by
  obtain ⟨cl, A, q1, S, q3, H, G⟩ := V
  exact k_write ge nb (fun s' T locs X e1 hZ ho => stB X hx hZ e1 A (inb_of S hj) hg hs hd) fun h' O W => k h' O W (Arv.set A q1 S q3 H G (fits_nar_byte _) W i hi hl)
theorem k_stR (hx : p.tables.exec = Jvm.exec) {a : Addr} {kA : ClassId} {ty : FieldType} {n j : Int32} {v : Value} {vs : List Value} {d : Value} (V : Arv Z h a kA ty n vs d) (hty : ty.isReference = true) (hfv : fits ty v = true) (F : Sto Z h a v) (hj : ¬ j < 0 ∧ j < n) (i : Nat) (hi : j.toNatClampNeg = i) (hl : i < vs.length) (ge : n0 ≤ a) (nb : ¬ bk a) (hg : g.method = m) {rest : List Value} (hs : g.stack = v :: .int j :: .ref a :: rest) (hd : decode c.code g.pc = .ok (.aastore, 1))
    (k : ∀ h', Old Z n0 h' → Wr h h' a j.toNatClampNeg v → Arv Z h' a kA ty n (vs.set i v) d → Run p l e R s m args below meth c Z EL own n0 bk h' cells slots { g with pc := g.pc + 1, stack := rest } Q) : Run p l e R s m args below meth c Z EL own n0 bk h cells slots g Q := by
  obtain ⟨cl, A, q1, S, q3, H, G⟩ := V
  exact k_write ge nb (fun s' T locs X e1 hZ ho => stR X hx hZ e1 A (inb_of S hj) hty F hg hs hd) fun h' O W => k h' O W (Arv.set A q1 S q3 H G hfv W i hi hl)
/-! the ends -/
theorem k_ret0 (hx : p.tables.exec = Jvm.exec) (hlk : meth.locks = false) (hret : meth.sig.returnType = none) {pc : Nat} {Ls : Array Slot} (hd : decode c.code pc = .ok (.return_, 1)) (hc : cells ≤ R.cells) (hs : slots ≤ R.slots) (hQ : Q none h bk) : Run p l e R s m args below meth c Z EL own n0 bk h cells slots (mkF m pc Ls []) Q :=
  k_end hlk (fun _ => rfl) hc hs hQ fun s' T locs fs X hr => X.returnOut hx hret hd hr
theorem k_retN (hx : p.tables.exec = Jvm.exec) (hlk : meth.locks = false) {t : FieldType} (hret : meth.sig.returnType = some t) (ht : t = .boolean ∨ t = .byte ∨ t = .char ∨ t = .short) {pc : Nat} {Ls : Array Slot} {z : Int32} {rest : List Value} (hd : decode c.code pc = .ok (.ireturn, 1)) (hc : cells ≤ R.cells) (hs : slots ≤ R.slots) (hQ : Q (some (.int (nar t z))) h bk) : Run p l e R s m args below meth c Z EL own n0 bk h cells slots (mkF m pc Ls (.int z :: rest)) Q :=
  k_end hlk (fun q => by rw [hret] at q; cases q) hc hs hQ fun s' T locs fs X hr => retN X hx hret ht hd hr
theorem k_ret (hx : p.tables.exec = Jvm.exec) (hlk : meth.locks = false) {t : FieldType} {w : Value} {i : Instr} (hret : meth.sig.returnType = some t) (hn : narrow t w = w)
    (hi : (i = .ireturn ∧ (t = .int ∨ t = .boolean ∨ t = .byte ∨ t = .char ∨ t = .short) ∧ ∃ z, w = .int z) ∨ (i = .lreturn ∧ t = .long ∧ ∃ z, w = .long z) ∨ (i = .dreturn ∧ t = .double ∧ ∃ z, w = .double z) ∨ (i = .freturn ∧ t = .float ∧ ∃ z, w = .float z) ∨ (i = .areturn ∧ t.isReference = true ∧ w.isRef = true)) {pc : Nat} {Ls : Array Slot} {rest : List Value} (hd : decode c.code pc = .ok (i, 1)) (hc : cells ≤ R.cells) (hs : slots ≤ R.slots) (hQ : Q (some w) h bk) : Run p l e R s m args below meth c Z EL own n0 bk h cells slots (mkF m pc Ls (w :: rest)) Q :=
  k_end hlk (fun q => by rw [hret] at q; cases q) hc hs hQ fun s' T locs fs X hr => retOut X hx hret hn hi hd hr
theorem k_retI (hx : p.tables.exec = Jvm.exec) (hlk : meth.locks = false) (hret : meth.sig.returnType = some .int) {pc : Nat} {Ls : Array Slot} {z : Int32} {rest : List Value} (hd : decode c.code pc = .ok (.ireturn, 1)) (hc : cells ≤ R.cells) (hs : slots ≤ R.slots) (hQ : Q (some (.int z)) h bk) : Run p l e R s m args below meth c Z EL own n0 bk h cells slots (mkF m pc Ls (.int z :: rest)) Q :=
  k_ret hx hlk hret rfl (Or.inl ⟨rfl, Or.inl rfl, z, rfl⟩) hd hc hs hQ
theorem k_retL (hx : p.tables.exec = Jvm.exec) (hlk : meth.locks = false) (hret : meth.sig.returnType = some .long) {pc : Nat} {Ls : Array Slot} {z : Int64} {rest : List Value} (hd : decode c.code pc = .ok (.lreturn, 1)) (hc : cells ≤ R.cells) (hs : slots ≤ R.slots) (hQ : Q (some (.long z)) h bk) : Run p l e R s m args below meth c Z EL own n0 bk h cells slots (mkF m pc Ls (.long z :: rest)) Q :=
  k_ret hx hlk hret rfl (Or.inr (Or.inl ⟨rfl, rfl, z, rfl⟩)) hd hc hs hQ
theorem k_retA (hx : p.tables.exec = Jvm.exec) (hlk : meth.locks = false) {t : FieldType} {w : Value} (hret : meth.sig.returnType = some t) (hn : narrow t w = w) (ht : t.isReference = true) (hw : w.isRef = true) {pc : Nat} {Ls : Array Slot} {rest : List Value} (hd : decode c.code pc = .ok (.areturn, 1)) (hc : cells ≤ R.cells) (hs : slots ≤ R.slots) (hQ : Q (some w) h bk) : Run p l e R s m args below meth c Z EL own n0 bk h cells slots (mkF m pc Ls (w :: rest)) Q :=
  k_ret hx hlk hret hn (Or.inr (Or.inr (Or.inr (Or.inr ⟨rfl, ht, hw⟩)))) hd hc hs hQ
/-! the calls -/
/-- what a callee's law gives to a walk that stands at h -/
def Pays (l : Launch) (R : Room) (p : Program) (e : Env) (below : List Frame) (s : State) (args : Array Value) (Z : State) (EL : List (String × Nat)) (n0 : Nat) (bk : Addr → Prop) (h : Heap) (y : MethodName) (len W kc ks : Nat) (as' : Array Value) (Q : Option Value → Heap → (Addr → Prop) → Prop) : Prop :=
  ∀ vm0, Z.Warmed39 vm0 → (∃ a0, EW Z a0 EL) → Old Z n0 h → CHv Z EL vm0 h → (∀ y, Bk Z EL vm0 h y → bk y) →
    BackS l R p e below (s.setVm vm0) args y len W (fun A a => a = as' ∧ A.U.heap = h ∧ A.cells + kc ≤ R.cells ∧ A.slots + ks ≤ R.slots)
      (fun A _ v B => ∃ L bk', Q v B.U.heap bk' ∧ Fr n0 L ∧ Old Z n0 B.U.heap ∧ CHv Z EL B.U.vm B.U.heap ∧ (∀ y, Bk Z EL B.U.vm B.U.heap y → bk' y) ∧ B.locs = A.locs ++ L ∧ B.cells = A.cells + kc ∧ B.slots = A.slots + ks)
theorem at_bk {T : State} {locs : List Loc} {vm0 : Vm} (X : Stand p l e R (s.setVm vm0) m args below meth c T locs cells slots) (hZ : Z.Warmed39 vm0) (w : EW Z a0 EL) (C : CHv Z EL vm0 h) (B : ∀ y, Bk Z EL vm0 h y → bk y) : CHv Z EL T.vm h ∧ ∀ y, Bk Z EL T.vm h y → bk y := by
  have A := CHv.at X hZ w C
  exact ⟨A.1, fun y q => (A.2.2 y q).elim (B y) (fun z => absurd (Array.getElem?_eq_some_iff.mp (Bk.there q).choose_spec).1 (Nat.not_lt.mpr z))⟩
theorem Pays.of_met {y : MethodName} {bytes : ByteArray} {maxL : Nat} {ret : Option FieldType} {rm : Room} {len W : Nat} {as' : Array Value} {Qc : Option Value → Heap → (Addr → Prop) → Prop} (hM : Met l Z EL n0 bk y bytes maxL ret rm as' h Qc [])
    (wc : (Jvm.Cond.code y bytes maxL ret).before a0 Z = true) (wz : (Jvm.Cond.initialized y.cls).before a0 Z = true) (hf : rm.frames + 1 ≤ R.frames) (hl : W + (maxL + 11) + rm.locals ≤ R.locals) :
    Pays l R p e below s args Z EL n0 bk h y len W rm.cells rm.slots as' Qc := fun vm0 hZ ⟨a1, hEL⟩ hO H hB =>
  BackS.of_freeW (bytes := bytes) (maxL := maxL) (ret := ret) (E := fun _ _ o t L k n => k = rm.cells ∧ n = rm.slots ∧ ∃ v bk', o = .returned v ∧ Qc v t.heap bk' ∧ Fr n0 L ∧ Old Z n0 t.heap ∧ CHv Z EL t.vm t.heap ∧ ∀ y, Bk Z EL t.vm t.heap y → bk' y) hM hf hl
    (fun m meth c A a Y hp => have hU : Z.Warmed39 A.U.vm := wtrans (s := s.setVm vm0) hZ Y.warmed
      ⟨by show (Jvm.Cond.and _ .tt).before a A.U = true; rw [Jvm.Cond.before_and, mv hU wc]; rfl, mv hU wc, mv hU wz, hp.2.2.1, hp.2.2.2⟩)
    (fun m meth c A a g mk Y hp => have r := at_bk Y hZ hEL H hB; ⟨hp.1, wtrans (s := s.setVm vm0) hZ Y.warmed, hp.2.1, r.1, r.2⟩) (fun _ _ _ _ _ _ _ _ _ => trivial)
    (fun _ _ _ _ ⟨v, L, bk', h1, h2, h3⟩ => ⟨L, _, _, h3, rfl, rfl, v, bk', h1, h2⟩)
    (fun m meth c A a g mk v t L k n Y hp _ _ ⟨e1, e2, v', bk', e3, r1, r2, r3, r4, r5⟩ => by
      cases e3; subst e1 e2
      exact ⟨L, bk', r1, r2, r3, r4, r5, rfl, rfl, rfl⟩)
/-- a library law that moves nothing -/
theorem Pays.of_same {y : MethodName} {len W : Nat} {as' : Array Value} {v0 : Option Value} (hK : ∀ s' : State, Z.Warmed39 s'.vm → Back l R p e below s' args y len W (fun P a => a = as' ∧ P.U.heap = h ∧ P.cells + 0 ≤ R.cells ∧ P.slots + 0 ≤ R.slots) (fun P _ v B => ∃ L, (v = v0 ∧ L = [] ∧ B.U.heap = h) ∧ B.locs = P.locs ++ L ∧ B.cells = P.cells + 0 ∧ B.slots = P.slots + 0)) :
    Pays l R p e below s args Z EL n0 bk h y len W 0 0 as' (fun v h' bk' => v = v0 ∧ h = h' ∧ bk = bk') := fun vm0 hZ ⟨a1, hEL⟩ hO H hB => by
  intro m meth c A g ig mk a X hg hsize hdg hW hn hp
  obtain ⟨v, B, X', ⟨L, ⟨q1, q2, q3⟩, q4, q5, q6⟩, hsteps⟩ := hK (s.setVm vm0) hZ m meth c A g ig mk a X hg hsize hdg hW hn hp
  have r := at_bk X' hZ hEL H hB
  refine ⟨v, B, X'.retabled X'.warmed.wide, X'.warmed.since _, by rw [hp.2.1, q3]; exact Nat.le_refl _, ⟨L, bk, ⟨q1, q3.symm, rfl⟩, by rw [q2]; exact Fr.nil _, by rw [q3]; exact hO, by rw [q3]; exact r.1, by rw [q3]; exact r.2, q4, q5, q6⟩, hsteps⟩
theorem ne_of_keep {Z : State} {EL : List (String × Nat)} {vm : Vm} {h h' : Heap} {x : Addr} (K : Keep h h' [x]) (C : CHv Z EL vm h) (nb : ¬ Bk Z EL vm h x) : CHv Z EL vm h' ∧ ∀ y, Bk Z EL vm h' y → Bk Z EL vm h y := C.keepStep K (sfS nb sf0)
/-- a library law that writes one object of ours -/
theorem Pays.of_keep {y : MethodName} {len W kc ks : Nat} {as' : Array Value} {x : Addr} {Qk : Option Value → Heap → List Loc → Prop} (nb : ¬ bk x) (ge : n0 ≤ x) (hq : ∀ v h' L, Qk v h' L → Fr n0 L ∧ Keep h h' [x])
    (hK : ∀ s' : State, Z.Warmed39 s'.vm → Back l R p e below s' args y len W (fun P a => a = as' ∧ P.U.heap = h ∧ P.cells + kc ≤ R.cells ∧ P.slots + ks ≤ R.slots) (fun P _ v B => ∃ L, Qk v B.U.heap L ∧ B.locs = P.locs ++ L ∧ B.cells = P.cells + kc ∧ B.slots = P.slots + ks)) :
    Pays l R p e below s args Z EL n0 bk h y len W kc ks as' (fun v h' bk' => (∃ L, Qk v h' L) ∧ bk = bk') := fun vm0 hZ ⟨a1, hEL⟩ hO H hB => by
  intro m meth c A g ig mk a X hg hsize hdg hW hn hp
  obtain ⟨v, B, X', ⟨L, q1, q4, q5, q6⟩, hsteps⟩ := hK (s.setVm vm0) hZ m meth c A g ig mk a X hg hsize hdg hW hn hp
  obtain ⟨N, K⟩ := hq _ _ _ q1
  have r := at_bk X' hZ hEL H hB
  have r' := ne_of_keep K r.1 (fun q => nb (r.2 x q))
  refine ⟨v, B, X'.retabled X'.warmed.wide, X'.warmed.since _, by rw [hp.2.1]; exact K.1, ⟨L, bk, ⟨⟨L, q1⟩, rfl⟩, N, hO.keep K (allS ge all0), r'.1, fun z q => r.2 z (r'.2 z q), q4, q5, q6⟩, hsteps⟩
/-- behind a call -/
theorem k_back {vm0 : Vm} {T : State} {locs : List Loc} {len kc ks : Nat} {rest : List Value} {Qc : Option Value → Heap → (Addr → Prop) → Prop} (P : Pos p l e R s m args below meth c Z EL own n0 bk h cells slots vm0 T locs)
    (H : ∃ (v : Option Value) (vm₁ : Vm) (B : Pt), (s.setVm vm0).WarmedH vm₁ ∧ Stand p l e R ((s.setVm vm0).setVm B.U.vm) m args below meth c B.U B.locs B.cells B.slots ∧ (s.setVm vm0).Since B.U.vm B.U.heap.size ∧ T.heap.size ≤ B.U.heap.size ∧
      (∃ L bk', Qc v B.U.heap bk' ∧ Fr n0 L ∧ Old Z n0 B.U.heap ∧ CHv Z EL B.U.vm B.U.heap ∧ (∀ y, Bk Z EL B.U.vm B.U.heap y → bk' y) ∧ B.locs = locs ++ L ∧ B.cells = cells + kc ∧ B.slots = slots + ks) ∧ Steps p.tables e below (T.setTop g) (B.U.setTop { g with pc := g.pc + len, stack := v.toList ++ rest }))
    (k : ∀ v h' bk', Old Z n0 h' → h.size ≤ h'.size → Qc v h' bk' → Run p l e R s m args below meth c Z EL own n0 bk' h' (cells + kc) (slots + ks) { g with pc := g.pc + len, stack := v.toList ++ rest } Q) :
    ∃ U o, Steps p.tables e below (T.setTop g) U ∧ U.status = .running ∧ Ended U below o ∧ EndW s R Z EL n0 Q o U := by
  obtain ⟨X, e1, ⟨k0, hS, hk⟩, hZ, ho, N, O, C, B, hE⟩ := P
  obtain ⟨v, vm1, ⟨TB, LB, cB, sB⟩, -, X', hS', hgr, ⟨L, bk', q1, q2, q3, q4, q5, q6, q7, q8⟩, st⟩ := H
  dsimp only [Pt.U, Pt.locs, Pt.cells, Pt.slots] at X' hS' hgr q1 q3 q4 q5 q6 q7 q8 st
  subst q6 q7 q8
  obtain ⟨r1, r2, r3, r4⟩ := rebS hS (by rw [← e1] at hk; exact hk) X' hS' hgr hZ ho
  obtain ⟨U, o, h1, r⟩ := k v TB.heap bk' q3 (by rw [← e1]; exact hgr) q1 TB.vm TB _ ⟨r1, rfl, ⟨_, r2, Nat.le_refl _⟩, r3, r4, Fr.app N q2, q3, q4, q5, hE⟩
  exact ⟨U, o, st.trans h1, r⟩
theorem k_callS (hx : p.tables.exec = Jvm.exec) {index : Nat} {y : MethodName} {bytes : ByteArray} {maxL : Nat} {ret : Option FieldType} (w1 : (Jvm.Cond.methodLink own index y).before a0 Z = true) (w2 : (Jvm.Cond.static y).before a0 Z = true) (w3 : (Jvm.Cond.initialized y.cls).before a0 Z = true) (w4 : (Jvm.Cond.code y bytes maxL ret).before a0 Z = true)
    (hy : y.cls ≠ "java/lang/invoke/MethodHandle" ∧ y.cls ≠ "java/lang/invoke/VarHandle") {W kc ks : Nat} {Qc : Option Value → Heap → (Addr → Prop) → Prop} {argsL rest : List Value} (hK : Pays l R p e below s args Z EL n0 bk h y 3 W kc ks argsL.toArray Qc)
    (hg : g.method = m) (hsize : g.locals.size = c.maxLocals) (hlen : ∀ sig, parseMethodDescriptor y.desc = some sig → argsL.length = sig.parameters.length) (hstack : g.stack = argsL.reverse ++ rest) (hW : 2 * g.monitorRoom + (rest.map fun v => v.category).sum ≤ W) (hd : decode c.code g.pc = .ok (.invokestatic index, 3)) (hc : cells + kc ≤ R.cells) (hs : slots + ks ≤ R.slots)
    (k : ∀ v h' bk', Old Z n0 h' → h.size ≤ h'.size → Qc v h' bk' → Run p l e R s m args below meth c Z EL own n0 bk' h' (cells + kc) (slots + ks) { g with pc := g.pc + 3, stack := v.toList ++ rest } Q) : Run p l e R s m args below meth c Z EL own n0 bk h cells slots g Q := fun vm0 T locs P => by
  have P' := P
  obtain ⟨X, e1, hS, hZ, ho, N, O, C, B, hE⟩ := P'
  exact k_back P (callSS X hx ho (mv hZ w1) (mv hZ w2) (mv hZ w3) (mv hZ w4) hy (hK vm0 hZ hE O C B) hg hsize hlen hstack hW hd fun _ _ => ⟨rfl, e1, hc, hs⟩) k
theorem k_callI (hx : p.tables.exec = Jvm.exec) {index : Nat} {y : MethodName} {bytes : ByteArray} {maxL : Nat} (hy1 : y.name = "<init>") (w1 : (Jvm.Cond.methodLink own index y).before a0 Z = true) (w2 : (Jvm.Cond.instanceMethod y).before a0 Z = true) (w4 : (Jvm.Cond.code y bytes maxL none).before a0 Z = true)
    (hy : y.cls ≠ "java/lang/invoke/MethodHandle" ∧ y.cls ≠ "java/lang/invoke/VarHandle") {W kc ks : Nat} {Qc : Option Value → Heap → (Addr → Prop) → Prop} {a : Addr} {argsL rest : List Value} (hK : Pays l R p e below s args Z EL n0 bk h y 3 W kc ks (.ref a :: argsL).toArray Qc)
    (hg : g.method = m) (hsize : g.locals.size = c.maxLocals) (hlen : ∀ sig, parseMethodDescriptor y.desc = some sig → argsL.length = sig.parameters.length) (hstack : g.stack = argsL.reverse ++ .ref a :: rest) (hW : 2 * g.monitorRoom + (rest.map fun v => v.category).sum ≤ W) (hd : decode c.code g.pc = .ok (.invokespecial index, 3)) (hc : cells + kc ≤ R.cells) (hs : slots + ks ≤ R.slots)
    (k : ∀ v h' bk', Old Z n0 h' → h.size ≤ h'.size → Qc v h' bk' → Run p l e R s m args below meth c Z EL own n0 bk' h' (cells + kc) (slots + ks) { g with pc := g.pc + 3, stack := v.toList ++ rest } Q) : Run p l e R s m args below meth c Z EL own n0 bk h cells slots g Q := fun vm0 T locs P => by
  have P' := P
  obtain ⟨X, e1, hS, hZ, ho, N, O, C, B, hE⟩ := P'
  exact k_back P (X.specialBackS hx hy1 ho (mv hZ w1) (mv hZ w2) (mv hZ w4) hy (hK vm0 hZ hE O C B) hg hsize (Steps.refl _) hlen hstack hW hd fun _ _ => ⟨rfl, e1, hc, hs⟩) k
theorem k_callV (hx : p.tables.exec = Jvm.exec) {index : Nat} {C : String} {y z : MethodName} (w1 : (Jvm.Cond.methodLink own index y).before a0 Z = true) (w2 : (Jvm.Cond.declares y).before a0 Z = true) (nf : ∀ s' : State, Z.Warmed39 s'.vm → NotFace s' y) (w3 : (Jvm.Cond.selects C y z).before a0 Z = true) (w4 : (Jvm.Cond.instanceMethod z).before a0 Z = true)
    (hy : y.cls ≠ "java/lang/invoke/MethodHandle" ∧ y.cls ≠ "java/lang/invoke/VarHandle") {W kc ks : Nat} {Qc : Option Value → Heap → (Addr → Prop) → Prop} {a : Addr} {argsL rest : List Value} (hK : Pays l R p e below s args Z EL n0 bk h z 3 W kc ks (.ref a :: argsL).toArray Qc) (E : Exa Z h a C)
    (hg : g.method = m) (hsize : g.locals.size = c.maxLocals) (hlen : ∀ sig, parseMethodDescriptor y.desc = some sig → argsL.length = sig.parameters.length) (hstack : g.stack = argsL.reverse ++ .ref a :: rest) (hW : 2 * g.monitorRoom + (rest.map fun v => v.category).sum ≤ W) (hd : decode c.code g.pc = .ok (.invokevirtual index, 3)) (hc : cells + kc ≤ R.cells) (hs : slots + ks ≤ R.slots)
    (k : ∀ v h' bk', Old Z n0 h' → h.size ≤ h'.size → Qc v h' bk' → Run p l e R s m args below meth c Z EL own n0 bk' h' (cells + kc) (slots + ks) { g with pc := g.pc + 3, stack := v.toList ++ rest } Q) : Run p l e R s m args below meth c Z EL own n0 bk h cells slots g Q := fun vm0 T locs P => by
  have P' := P
  obtain ⟨X, e1, hS, hZ, ho, N, O, C, B, hE⟩ := P'
  obtain ⟨cq, kq, qa, qb, qc⟩ := isOf (s := s.setVm vm0) hZ e1 E
  exact k_back P (X.virtualBackS hx ho (mv hZ w1) (mv hZ w2) (nf _ hZ) (mv hZ w3) (mv hZ w4) hy (hK vm0 hZ hE O C B) qa qc hg hsize (Steps.refl _) hlen hstack hW hd fun _ _ => ⟨rfl, e1, hc, hs⟩) k
/-- invokevirtual of a method that a class above the named one declares -/
theorem k_callU (hx : p.tables.exec = Jvm.exec) {index : Nat} {C owner : String} {y z : MethodName} (w1 : (Jvm.Cond.methodLink own index y).before a0 Z = true) (w2 : (Jvm.Cond.sameMethod y.cls owner y.name y.desc).before a0 Z = true) (w5 : (Jvm.Cond.declares ⟨owner, y.name, y.desc⟩).before a0 Z = true) (how : owner ≠ "java/lang/invoke/MethodHandle" ∧ owner ≠ "java/lang/invoke/VarHandle") (w3 : (Jvm.Cond.selects C y z).before a0 Z = true) (w4 : (Jvm.Cond.instanceMethod z).before a0 Z = true)
    {W kc ks : Nat} {Qc : Option Value → Heap → (Addr → Prop) → Prop} {a : Addr} {argsL rest : List Value} (hK : Pays l R p e below s args Z EL n0 bk h z 3 W kc ks (.ref a :: argsL).toArray Qc) (E : Exa Z h a C)
    (hg : g.method = m) (hsize : g.locals.size = c.maxLocals) (hlen : ∀ sig, parseMethodDescriptor y.desc = some sig → argsL.length = sig.parameters.length) (hstack : g.stack = argsL.reverse ++ .ref a :: rest) (hW : 2 * g.monitorRoom + (rest.map fun v => v.category).sum ≤ W) (hd : decode c.code g.pc = .ok (.invokevirtual index, 3)) (hc : cells + kc ≤ R.cells) (hs : slots + ks ≤ R.slots)
    (k : ∀ v h' bk', Old Z n0 h' → h.size ≤ h'.size → Qc v h' bk' → Run p l e R s m args below meth c Z EL own n0 bk' h' (cells + kc) (slots + ks) { g with pc := g.pc + 3, stack := v.toList ++ rest } Q) : Run p l e R s m args below meth c Z EL own n0 bk h cells slots g Q := fun vm0 T locs P => by
  have P' := P
  obtain ⟨X, e1, hS, hZ, ho, N, O, C, B, hE⟩ := P'
  obtain ⟨cq, kq, qa, qb, qc⟩ := isOf (s := s.setVm vm0) hZ e1 E
  exact k_back P (X.virtualBackUpS hx ho (mv hZ w1) (mv hZ w2) (mv hZ w5) how (mv hZ w3) (mv hZ w4) (hK vm0 hZ hE O C B) qa qc hg hsize (Steps.refl _) hlen hstack hW hd fun _ _ => ⟨rfl, e1, hc, hs⟩) k
theorem decl_of {y : MethodName} {bytes : ByteArray} {maxL : Nat} {ret : Option FieldType} (w2 : (Jvm.Cond.instanceMethod y).before a0 Z = true) (w4 : (Jvm.Cond.code y bytes maxL ret).before a0 Z = true) : (Jvm.Cond.declares y).before a0 Z = true := by
  obtain ⟨mk, methM, hnamed, hmethM, hst, -⟩ := Jvm.Cond.instanceMethod_spec w2
  obtain ⟨m2, cM, q1, -, -, -, -, -, -, hsig⟩ := Jvm.Cond.code_spec hnamed w4
  cases hmethM.symm.trans q1
  simp [Jvm.Cond.before, Jvm.Cond.holds, Jvm.Cond.value, hnamed, hmethM, hst, hsig]
theorem nf_of' {s' : State} {C : String} {y y' : MethodName} (q : y'.cls = y.cls) (hZ : Z.Warmed39 s'.vm) (w : (Jvm.Cond.selects C y' y').before a0 Z = true) : NotFace s' y := fun r0 h0 => by
  obtain ⟨c2, r2, m2, q1, q2, q3, q4, kP, hkP, hkPi⟩ := Jvm.Cond.selects_spec (mv (args := #[]) hZ w)
  have e1 := findClass_of_methodNamed h0
  have e2 := findClass_of_methodNamed q3
  rw [q] at e2
  rw [show r0.cls = m2.cls from Option.some.inj (e1.symm.trans e2)]
  exact ⟨kP, hkP, hkPi⟩
theorem nf_of {C : String} {y y' : MethodName} (q : y'.cls = y.cls) (w : (Jvm.Cond.selects C y' y').before a0 Z = true) : NotFace Z y := nf_of' q (State.Warmed39.refl Z) w
theorem same_of {y : MethodName} (hy : y.cls ≠ "java/lang/invoke/MethodHandle" ∧ y.cls ≠ "java/lang/invoke/VarHandle") (w : (Jvm.Cond.declares y).before a0 Z = true) (nf : NotFace Z y) : (Jvm.Cond.sameMethod y.cls y.cls y.name y.desc).before a0 Z = true := by
  obtain ⟨mk, methM, hnamed, hmethM, -, -⟩ := Jvm.Cond.declares_spec w
  obtain ⟨kr, hk, hi⟩ := nf mk hnamed
  have e1 := State.methodFound?_of_named hnamed hy
  have e2 := findClass_of_methodNamed hnamed
  have e3 : Z.methodNamed? ⟨y.cls, y.name, y.desc⟩ = some mk := hnamed
  simp [Jvm.Cond.before, Jvm.Cond.holds, Jvm.Cond.value, e1, e2, e3, hk, hi]
/-- invokespecial of a method of the class above -/
theorem k_callX (hx : p.tables.exec = Jvm.exec) {index : Nat} {C K : String} {y : MethodName} {bytes : ByteArray} {maxL : Nat} {ret : Option FieldType} (w1 : (Jvm.Cond.methodLink own index y).before a0 Z = true) (w2 : (Jvm.Cond.sameMethod y.cls y.cls y.name y.desc).before a0 Z = true) (w3 : (Jvm.Cond.instanceMethod y).before a0 Z = true) (w4 : (Jvm.Cond.superclass own y.cls).before a0 Z = true) (hn : y.name ≠ "<init>") (wc : (Jvm.Cond.code y bytes maxL ret).before a0 Z = true)
    {W kc ks : Nat} {Qc : Option Value → Heap → (Addr → Prop) → Prop} {a : Addr} {argsL rest : List Value} (hK : Pays l R p e below s args Z EL n0 bk h y 3 W kc ks (.ref a :: argsL).toArray Qc) (E : Ins Z h a K true)
    (hg : g.method = m) (hsize : g.locals.size = c.maxLocals) (hlen : ∀ sig, parseMethodDescriptor y.desc = some sig → argsL.length = sig.parameters.length) (hstack : g.stack = argsL.reverse ++ .ref a :: rest) (hW : 2 * g.monitorRoom + (rest.map fun v => v.category).sum ≤ W) (hd : decode c.code g.pc = .ok (.invokespecial index, 3)) (hc : cells + kc ≤ R.cells) (hs : slots + ks ≤ R.slots)
    (k : ∀ v h' bk', Old Z n0 h' → h.size ≤ h'.size → Qc v h' bk' → Run p l e R s m args below meth c Z EL own n0 bk' h' (cells + kc) (slots + ks) { g with pc := g.pc + 3, stack := v.toList ++ rest } Q) : Run p l e R s m args below meth c Z EL own n0 bk h cells slots g Q := fun vm0 T locs P => by
  have P' := P
  obtain ⟨X, e1, hS, hZ, ho, N, O, C, B, hE⟩ := P'
  exact k_back P (superBackS X hx hZ ho w1 w2 w3 w4 hn (hK vm0 hZ hE O C B) e1 E hg hsize wc hlen hstack hW hd fun _ _ => ⟨rfl, e1, hc, hs⟩) k
/-- invokeinterface -/
theorem k_face (hx : p.tables.exec = Jvm.exec) {index count : Nat} {C : String} {y z : MethodName} (w1 : (Jvm.Cond.methodLink own index y).before a0 Z = true) (w2 : (Jvm.Cond.declares y).before a0 Z = true) (w3 : (Jvm.Cond.interfaceMethod y.cls y.cls y.name y.desc).before a0 Z = true) (w4 : (Jvm.Cond.selects C y z).before a0 Z = true) (w5 : (Jvm.Cond.instanceMethod z).before a0 Z = true) (w6 : (Jvm.Cond.publicMethod z).before a0 Z = true) (w7 : (Jvm.Cond.unhidden C y.name y.desc).before a0 Z = true) (w8 : (Jvm.Cond.castable C y.cls).before a0 Z = true)
    (hfa : ((Jvm.Cond.interfaceMethod y.cls y.cls y.name y.desc).onTables && (Jvm.Cond.interfaceMethod y.cls y.cls y.name y.desc).keepsFace) = true) (hy : y.cls ≠ "java/lang/invoke/MethodHandle" ∧ y.cls ≠ "java/lang/invoke/VarHandle") {W kc ks : Nat} {Qc : Option Value → Heap → (Addr → Prop) → Prop} {a : Addr} {argsL rest : List Value} (hK : Pays l R p e below s args Z EL n0 bk h z 5 W kc ks (.ref a :: argsL).toArray Qc) (E : Exa Z h a C)
    (hg : g.method = m) (hsize : g.locals.size = c.maxLocals) (hlen : ∀ sig, parseMethodDescriptor y.desc = some sig → argsL.length = sig.parameters.length) (hstack : g.stack = argsL.reverse ++ .ref a :: rest) (hW : 2 * g.monitorRoom + (rest.map fun v => v.category).sum ≤ W) (hd : decode c.code g.pc = .ok (.invokeinterface index count, 5)) (hc : cells + kc ≤ R.cells) (hs : slots + ks ≤ R.slots)
    (k : ∀ v h' bk', Old Z n0 h' → h.size ≤ h'.size → Qc v h' bk' → Run p l e R s m args below meth c Z EL own n0 bk' h' (cells + kc) (slots + ks) { g with pc := g.pc + 5, stack := v.toList ++ rest } Q) : Run p l e R s m args below meth c Z EL own n0 bk h cells slots g Q := fun vm0 T locs P => by
  have P' := P
  obtain ⟨X, e1, hS, hZ, ho, N, O, C, B, hE⟩ := P'
  obtain ⟨cq, kq, qa, qb, qc⟩ := isOf (s := s.setVm vm0) hZ e1 E
  exact k_back P (X.interfaceBackS hx ho (mv hZ w1) (mv hZ w2) (mv hZ w3 hfa) (mv hZ w4) (mv hZ w5) (mv hZ w6) (mv hZ w7) (mv hZ w8) hy (hK vm0 hZ hE O C B) qa qb qc hg hsize (Steps.refl _) hlen hstack hW hd fun _ _ => ⟨rfl, e1, hc, hs⟩) k
/-! String constants -/
theorem k_ldcO (hx : p.tables.exec = Jvm.exec) {text : String} {index : Nat} (w : (Jvm.Cond.stringLink own index text).before a0 Z = true) (wS : ∀ a ∈ Bundle.stringAtoms, a.before a0 Z = true) (hg : g.method = m) (hd : decode c.code g.pc = .ok (.ldc index, 2)) {n : Nat} (hn : 4 * text.toList.length ≤ n) (hbig : n ≤ 536870912) (hc : cells + 2 ≤ R.cells) (hl : slots + (n + 4) ≤ R.slots)
    (k : ∀ h' a bk', Old Z n0 h' → Ext h h' → (∀ y, bk' y → bk y ∨ (h.size ≤ y ∧ y < h'.size)) → Run p l e R s m args below meth c Z EL own n0 bk' h' (cells + 2) (slots + (n + 4)) { g with pc := g.pc + 2, stack := .ref a :: g.stack } Q) : Run p l e R s m args below meth c Z EL own n0 bk h cells slots g Q := fun vm0 T locs P => by
  obtain ⟨X, e1, ⟨k0, hS, hk⟩, hZ, ho, N, O, C, B, a1, hE⟩ := P
  obtain ⟨a, T', h', k1, X', e2, E, hS', hk', hZ', ho', hC, -, st⟩ := ldcOH X hx hZ ho w wS e1 hS hk hE C hg hd hn hbig hc hl
  obtain ⟨U, o, h1, r⟩ := k h' a (fun y => bk y ∨ (h.size ≤ y ∧ y < h'.size)) (O.ext E) E (fun _ q => q) T'.vm T' locs ⟨X', e2, ⟨k1, hS', hk'⟩, hZ', ho', N, O.ext E, hC.1, fun y q => (hC.2.2 y q).imp (B y) fun r => ⟨r, (Array.getElem?_eq_some_iff.mp (Bk.there q).choose_spec).1⟩, a1, hE⟩
  exact ⟨U, o, st _ h1, r⟩
/-- where no constant is read -/
theorem k_ldc0 (hEL : EL = []) (hx : p.tables.exec = Jvm.exec) {text : String} {index : Nat} (w : (Jvm.Cond.stringLink own index text).before a0 Z = true) (wS : ∀ a ∈ Bundle.stringAtoms, a.before a0 Z = true) (hg : g.method = m) (hd : decode c.code g.pc = .ok (.ldc index, 2)) {n : Nat} (hn : 4 * text.toList.length ≤ n) (hbig : n ≤ 536870912) (hc : cells + 2 ≤ R.cells) (hl : slots + (n + 4) ≤ R.slots)
    (k : ∀ h' a, Old Z n0 h' → Ext h h' → Run p l e R s m args below meth c Z EL own n0 bk h' (cells + 2) (slots + (n + 4)) { g with pc := g.pc + 2, stack := .ref a :: g.stack } Q) : Run p l e R s m args below meth c Z EL own n0 bk h cells slots g Q := fun vm0 T locs P => by
  subst hEL
  obtain ⟨X, e1, ⟨k0, hS, hk⟩, hZ, ho, N, O, C, B, a1, hE⟩ := P
  obtain ⟨a, T', h', k1, X', e2, E, hS', hk', hZ', ho', hC, -, st⟩ := ldcOH X hx hZ ho w wS e1 hS hk hE C hg hd hn hbig hc hl
  obtain ⟨U, o, h1, r⟩ := k h' a (O.ext E) E T'.vm T' locs ⟨X', e2, ⟨k1, hS', hk'⟩, hZ', ho', N, O.ext E, hC.1, (fun y q => by obtain ⟨p, hp, -⟩ := q; cases hp), a1, hE⟩
  exact ⟨U, o, st _ h1, r⟩
/-- a constant that is read -/
theorem k_ldcC (hx : p.tables.exec = Jvm.exec) {text : String} {index : Nat} (w : (Jvm.Cond.stringLink own index text).before a0 Z = true) (wS : ∀ a ∈ Bundle.stringAtoms, a.before a0 Z = true) (hmem : (own, index) ∈ EL) {vs : List Value} {z : Int32} (ht : (∀ c ∈ text.toList, c.toNat < 256) ∧ text.toList.map (fun c => Value.int (Jvm.Lit.byteI c.toNat.toUInt16)) = vs) (hz : ¬ z < 0) (hzl : z.toNatClampNeg = vs.length)
    (hg : g.method = m) (hd : decode c.code g.pc = .ok (.ldc index, 2)) {n : Nat} (hn : 4 * text.toList.length ≤ n) (hbig : n ≤ 536870912) (hc : cells + 2 ≤ R.cells) (hl : slots + (n + 4) ≤ R.slots)
    (k : ∀ h' a b kb bk', Old Z n0 h' → Ext h h' → (∀ y, bk' y → bk y ∨ (h.size ≤ y ∧ y < h'.size)) → Exa Z h' a "java/lang/String" → Fld Z h' a "java/lang/String" "coder" "B" (.int 0) → Fld Z h' a "java/lang/String" "value" "[B" (.ref b) → Arv Z h' b kb .byte z vs (.int 0) → (∀ x, x < h.size → ¬ bk x → x ≠ a ∧ x ≠ b) →
      Run p l e R s m args below meth c Z EL own n0 bk' h' (cells + 2) (slots + (n + 4)) { g with pc := g.pc + 2, stack := .ref a :: g.stack } Q) : Run p l e R s m args below meth c Z EL own n0 bk h cells slots g Q := fun vm0 T locs P => by
  obtain ⟨X, e1, ⟨k0, hS, hk⟩, hZ, ho, N, O, C, B, a1, hE⟩ := P
  obtain ⟨a, T', h', k1, b, kb, X', e2, E, hS', hk', hZ', ho', r1, r2, r3, r4, -, -, hC, -, r5, st⟩ := ldcCH X hx hZ ho w wS e1 hS hk hE hmem C ht hz hzl hg hd hn hbig hc hl
  obtain ⟨U, o, h1, r⟩ := k h' a b kb (fun y => bk y ∨ (h.size ≤ y ∧ y < h'.size)) (O.ext E) E (fun _ q => q) r1 r2 r3 r4 (fun x lt nb => r5 x fun q => (hC.2.2 x q).elim (fun q => nb (B x q)) fun q => absurd lt (Nat.not_lt.mpr q)) T'.vm T' locs ⟨X', e2, ⟨k1, hS', hk'⟩, hZ', ho', N, O.ext E, hC.1, fun y q => (hC.2.2 y q).imp (B y) fun r => ⟨r, (Array.getElem?_eq_some_iff.mp (Bk.there q).choose_spec).1⟩, a1, hE⟩
  exact ⟨U, o, st _ h1, r⟩
/-! two natives -/
theorem k_cpA (hx : p.tables.exec = Jvm.exec) {index : Nat} (w1 : (Jvm.Cond.methodLink own index Jvm.Stand.acN).before a0 Z = true) (w2 : (Jvm.Cond.native Jvm.Stand.acN).before a0 Z = true) (w3 : (Jvm.Cond.static Jvm.Stand.acN).before a0 Z = true) (w4 : (Jvm.Cond.initialized "java/lang/System").before a0 Z = true)
    {a b : Addr} {ka kb : ClassId} {ty ty' : FieldType} {z z' sp dp nn : Int32} {vs vd us : List Value} {dv dd : Value} (A : Arv Z h a ka ty z vs dv) (B : Arv Z h b kb ty' z' vd dd) (hty : (ty = ty' ∧ refKind ty = false) ∨ (refKind ty = true ∧ refKind ty' = true ∧ StoL Z h b us))
    (h1 : ¬ sp < 0) (h2 : ¬ dp < 0) (h3 : ¬ nn < 0) (h4 : sp.toNatClampNeg + nn.toNatClampNeg ≤ z.toNatClampNeg) (h5 : dp.toNatClampNeg + nn.toNatClampNeg ≤ z'.toNatClampNeg) (hus : us = (List.range nn.toNatClampNeg).map fun i => vs.getD (sp.toNatClampNeg + i) dv) (hvl : dp.toNatClampNeg + nn.toNatClampNeg ≤ vd.length) (ge : n0 ≤ b) (nb : ¬ bk b)
    (hg : g.method = m) (hsize : g.locals.size = c.maxLocals) {rest : List Value} (hs : g.stack = .int nn :: .int dp :: .ref b :: .int sp :: .ref a :: rest) (hd : decode c.code g.pc = .ok (.invokestatic index, 3)) (hf : 1 ≤ R.frames) {W : Nat} (hW : 2 * g.monitorRoom + (rest.map fun v => v.category).sum ≤ W) (hlo : W + (nativeFrameWords "java/lang/System" "arraycopy" 5 + 11) ≤ R.locals)
    (k : ∀ h', Old Z n0 h' → Keep h h' [b] → Arv Z h' b kb ty' z' (vd.take dp.toNatClampNeg ++ us ++ vd.drop (dp.toNatClampNeg + nn.toNatClampNeg)) dd → Run p l e R s m args below meth c Z EL own n0 bk h' cells slots { g with pc := g.pc + 3, stack := rest } Q) : Run p l e R s m args below meth c Z EL own n0 bk h cells slots g Q := fun vm0 T locs P => by
  obtain ⟨X, e1, ⟨k0, hS, hk⟩, hZ, ho, N, O, C, Bb, hE⟩ := P
  obtain ⟨T', h', L, X', e2, N', K, V, st⟩ := cpA X hx hZ ho w1 w2 w3 w4 e1 A B hty h1 h2 h3 h4 h5 hus hvl N ge hg hsize hs hd hf hW hlo
  have r' := ne_of_keep K C (fun q => nb (Bb b q))
  obtain ⟨U, o, q1, r⟩ := k h' (O.keep K (allS ge all0)) K V vm0 T' L ⟨X', e2, ⟨k0, hS, Nat.le_trans hk K.1⟩, hZ, ho, N', O.keep K (allS ge all0), r'.1, fun y q => Bb y (r'.2 y q), hE⟩
  exact ⟨U, o, st _ q1, r⟩
theorem k_clone (hx : p.tables.exec = Jvm.exec) {ad : String} {index : Nat} (w1 : (Jvm.Cond.methodLink own index ⟨ad, "clone", "()Ljava/lang/Object;"⟩).before a0 Z = true) (w2 : (Jvm.Cond.sameMethod ad "java/lang/Object" "clone" "()Ljava/lang/Object;").before a0 Z = true) (w3 : (Jvm.Cond.native ⟨"java/lang/Object", "clone", "()Ljava/lang/Object;"⟩).before a0 Z = true)
    (w4 : (Jvm.Cond.instanceMethod ⟨"java/lang/Object", "clone", "()Ljava/lang/Object;"⟩).before a0 Z = true) (w5 : (Jvm.Cond.selects ad ⟨ad, "clone", "()Ljava/lang/Object;"⟩ ⟨"java/lang/Object", "clone", "()Ljava/lang/Object;"⟩).before a0 Z = true) (w6 : (Jvm.Cond.castable ad "java/lang/Cloneable").before a0 Z = true)
    {a : Addr} {kA : ClassId} {ty : FieldType} {z : Int32} {vs : List Value} {dv : Value} (F : Arv Z h a kA ty z vs dv) (E : Exa Z h a ad) (hg : g.method = m) (hsize : g.locals.size = c.maxLocals) {rest : List Value} (hst : g.stack = .ref a :: rest) (hd : decode c.code g.pc = .ok (.invokevirtual index, 3)) (hf : 1 ≤ R.frames) {W cap : Nat} (hW : 2 * g.monitorRoom + (rest.map fun v => v.category).sum ≤ W) (hl : W + 14 ≤ R.locals) (hcap : z.toNatClampNeg ≤ cap) (hc : cells + 1 ≤ R.cells) (hsl : slots + cap ≤ R.slots)
    (k : ∀ h' a, a = h.size → Old Z n0 h' → Ext h h' → Arv Z h' a kA ty z vs dv → Exa Z h' a ad → Run p l e R s m args below meth c Z EL own n0 bk h' (cells + 1) (slots + cap) { g with pc := g.pc + 3, stack := .ref a :: rest } Q) : Run p l e R s m args below meth c Z EL own n0 bk h cells slots g Q :=
  k_grow (F := fun h' g' => g' = { g with pc := g.pc + 3, stack := .ref h.size :: rest } ∧ Arv Z h' h.size kA ty z vs dv ∧ Exa Z h' h.size ad)
    (fun s' T locs X e1 hZ ho => by
      obtain ⟨T', h', X', e2, E', A, D, st⟩ := cloneH X hx hZ ho w1 w2 w3 w4 w5 w6 e1 (Arv.arh F) E hg hsize hst hd hf hW hl hcap hc hsl
      exact ⟨T', h', _, X', e2, E', ⟨rfl, A, D⟩, st⟩)
    (fun h' g' O E ⟨q, A, D⟩ => by subst q; exact k h' _ rfl O E A D)
end Kit

theorem s_irem {tb : Tables} [Ours tb] {e : Env} {below : List Frame} {T target : State} {m : MethodId} {c : Code} {g : JFrame} (h : At T m c below) (hx : tb.exec = Jvm.exec) (hg : g.method = m) {x y : Int32} {rest : List Value} (hd : decode c.code g.pc = .ok (.irem, 1)) (hs : g.stack = .int y :: .int x :: rest) (hy : y ≠ 0)
    (hr : Steps tb e below (T.setTop { g with pc := g.pc + 1, stack := .int (x % y) :: rest }) target) : Steps tb e below (T.setTop g) target := by
  have q : x - x / y * y = x % y := irem_eq_mod x y
  exact XS.irem h hx hg hd hs hy (by rw [q]; exact hr)
theorem kk0 {ws : List Addr} {n : Nat} : ∀ x ∈ ([] : List Addr), x ∈ ws ∨ n ≤ x := fun _ q => nomatch q
theorem kkS {ws L : List Addr} {n : Nat} {y : Addr} (q : y ∈ ws ∨ n ≤ y) (r : ∀ x ∈ L, x ∈ ws ∨ n ≤ x) : ∀ x ∈ y :: L, x ∈ ws ∨ n ≤ x := fun x z => (List.mem_cons.mp z).elim (fun u => u ▸ q) (r x)
theorem no_asg {Z : State} {a0 : Array Value} {C O K : String} {n : Nat} (w : (Jvm.Cond.superclass C O).before a0 Z = true) (wo : (Jvm.Cond.noSuperclass O).before a0 Z = true) (wk : (Jvm.Cond.instantiable K n).before a0 Z = true) (h1 : C ≠ K) (h2 : O ≠ K) : ∃ c t, Z.vm.findClass C = some c ∧ Z.vm.findClass K = some t ∧ Z.vm.assignable c t = false := by
  obtain ⟨c, hc⟩ := found_sup w
  obtain ⟨cO, k, kO, q1, q2, q3, q4, q5, -⟩ := Jvm.Cond.superclass_spec hc w
  obtain ⟨cO', kO', r1, r2, r3, -⟩ := Jvm.Cond.noSuperclass_spec wo
  cases q1.symm.trans r1
  obtain ⟨t, kt, t1, t2, t3, t4, -⟩ := Jvm.Cond.instantiable_spec wk
  have n1 := ids_ne hc t1 h1
  have n2 := ids_ne q1 t1 h2
  have sub2 : ∀ f, Z.vm.isSubclassAux f cO t = false := fun f => by cases f <;> simp [Vm.isSubclassAux, n2, r2, r3]
  have sub1 : ∀ f, Z.vm.isSubclassAux f c t = false := fun f => by cases f <;> simp [Vm.isSubclassAux, n1, q2, q4, sub2]
  have ti : kt.isInterface = false := by simp only [Bool.or_eq_false_iff] at t4; exact t4.1
  refine ⟨c, t, hc, t1, ?_⟩
  show Z.vm.assignableAux (255 + 1) c t = false
  simp [Vm.assignableAux, n1, q2, t2, q5, t3, ti, Vm.isSubclass, sub1]
/-! from the words of a start to facts on its heap -/
theorem ev_int {args : Array Value} {s : State} {t : Term} {k : Int32} (h : (Jvm.Cond.eq t (.int k)).before args s = true) : t.eval args s none [] s = some (.int k) := by
  obtain ⟨x, y, e1, e2, k1, -⟩ := cmp_v (Or.inl (Cond.before_iff.mp h))
  rw [Term.int_eval] at e2
  cases e2
  cases x with
  | int z => have := gotT (Cond.eq_ints e1 (Term.int_eval k)) (Cond.before_iff.mp h); rw [e1, this]
  | _ => exact absurd k1 (by simp [Kin, Value.isRef])
theorem ev_long {args : Array Value} {s : State} {t : Term} {k : Int64} (h : (Jvm.Cond.eq t (.long k)).before args s = true) : t.eval args s none [] s = some (.long k) := by
  obtain ⟨x, y, e1, e2, k1, -⟩ := cmp_v (Or.inl (Cond.before_iff.mp h))
  rw [long_at] at e2
  cases e2
  cases x with
  | long z => have := gotT (eq_L e1 (long_at k)) (Cond.before_iff.mp h); rw [e1, this]
  | _ => exact absurd k1 (by simp [Kin, Value.isRef])
theorem exa_start {args : Array Value} {s : State} {t : Term} {C : String} (h : (Jvm.Cond.exactly t C).before args s = true) : ∃ a, t.eval args s none [] s = some (.ref a) ∧ Exa s s.heap a C := by
  obtain ⟨a, e⟩ := exa_v (Cond.before_iff.mp h)
  exact ⟨a, e, Exa.start e (Cond.before_iff.mp h)⟩
theorem fld_start {args : Array Value} {s : State} {t : Term} {a : Addr} {C n d : String} {v : Value} (ht : t.eval args s none [] s = some (.ref a)) (hv : (Term.field t C n d).eval args s none [] s = some v) : Fld s s.heap a C n d v := Fld.start (by rw [← fld_at ht]; exact hv)
theorem s_pop2L {tb : Tables} [Ours tb] {e : Env} {below : List Frame} {T target : State} {m : MethodId} {c : Code} {g : JFrame} (h : At T m c below) (hx : tb.exec = Jvm.exec) (hg : g.method = m) {x : Int64} {rest : List Value} (hd : decode c.code g.pc = .ok (.pop2, 1)) (hs : g.stack = .long x :: rest)
    (hr : Steps tb e below (T.setTop { g with pc := g.pc + 1, stack := rest }) target) : Steps tb e below (T.setTop g) target := by
  subst hg
  jvm_step h [h.top, hx, hd, hs, pop2.wp_sem, Value.category]
  exact hr
theorem ne_ad {a b : Addr} (h : @Ne Nat a b) : a ≠ b := h

/-! naturals as ints -/
theorem lt_nat {i n : Nat} (h : i < n) (hn : n ≤ 4000) : Int32.ofNat i < Int32.ofNat n := by
  rw [Int32.lt_iff_toInt_lt, toInt_of rfl (by omega), toInt_of rfl (by omega)]; omega
theorem not_lt_nat {i n : Nat} (h : n ≤ i) (hn : i ≤ 4000) : ¬ Int32.ofNat i < Int32.ofNat n := by
  rw [Int32.lt_iff_toInt_lt, toInt_of rfl (by omega), toInt_of rfl (by omega)]; omega
theorem idx_ok {i n : Nat} (h : i < n) (hn : n ≤ 4000) : ¬ Int32.ofNat i < 0 ∧ Int32.ofNat i < Int32.ofNat n := ⟨not_lt_nat (n := 0) (Nat.zero_le _) (by omega), lt_nat h hn⟩
theorem clampN {i : Nat} (h : i ≤ 4000) : (Int32.ofNat i).toNatClampNeg = i := clamp_of rfl (by omega)
theorem getD_mem (cs : List Int32) (i : Nat) (h : i < cs.length) : cs.getD i 0 ∈ cs := by
  rw [List.getD_eq_getElem?_getD, List.getElem?_eq_getElem h]; exact List.getElem_mem h
theorem getD_int (bs : List Int32) {i : Nat} (h : i ≤ 4000) : (bs.map Value.int).getD (Int32.ofNat i).toNatClampNeg (.int 0) = .int (bs.getD i 0) := by
  rw [clampN h, List.getD_eq_getElem?_getD, List.getD_eq_getElem?_getD, List.getElem?_map]
  cases bs[i]? <;> rfl
theorem take_succ_eq {as bs : List Int32} {i : Nat} (h : as.take i = bs.take i) (ha : i < as.length) (hb : i < bs.length) (e : as.getD i 0 = bs.getD i 0) : as.take (i + 1) = bs.take (i + 1) := by
  rw [List.take_add_one, List.take_add_one, h, List.getElem?_eq_getElem ha, List.getElem?_eq_getElem hb]
  rw [List.getD_eq_getElem?_getD, List.getD_eq_getElem?_getD, List.getElem?_eq_getElem ha, List.getElem?_eq_getElem hb, Option.getD_some, Option.getD_some] at e
  rw [e]
theorem take_ne {as bs : List Int32} {i : Nat} (hi : i < bs.length) (e : ¬ as.getD i 0 = bs.getD i 0) : ¬ as.take bs.length = bs := fun q => e (by
  rw [List.getD_eq_getElem?_getD, List.getD_eq_getElem?_getD]
  have r := congrArg (fun l => l[i]?) q
  simp only [List.getElem?_take, if_pos hi] at r
  rw [r])
/-! words on arrays of the start -/
theorem fit_of {s : State} (hF : (s.heap.all fun c => (List.range c.slots.size).all fun i => match c.slots[i]? with | some v => s.fitsSlot c.cls c.vm i v | none => true) = true) : Fit s := by
  intro x c hc i hi
  obtain ⟨ha, rfl⟩ := Array.getElem?_eq_some_iff.mp hc
  have q := List.all_eq_true.mp ((Array.all_eq_true_iff_forall_mem.mp hF) _ (Array.getElem_mem ha)) i (List.mem_range.mpr hi)
  simpa [Array.getElem?_eq_getElem hi] using q
theorem ev_ref {args : Array Value} {s : State} {t u : Term} {a : Addr} (h : (Jvm.Cond.eq t u).value args s none s [] = some true) (hu : u.eval args s none [] s = some (.ref a)) : t.eval args s none [] s = some (.ref a) := by
  obtain ⟨x, y, e1, e2, k1, k2⟩ := cmp_v (Or.inl h)
  cases hu.symm.trans e2
  have hx : x.isRef = true := by cases x <;> simp_all [Kin, Value.isRef]
  have := gotT (eq_R e1 hu hx rfl) h
  rw [e1, this]
theorem arv_start {args : Array Value} {s : State} {t : Term} {a : Addr} {ty : FieldType} {z : Int32} {vs : List Value} {dv : Value} (hf : Fit s) (ht : t.eval args s none [] s = some (.ref a)) (hx : (Jvm.Cond.arrayOf t ty).value args s none s [] = some true) (hl : (Term.length t).eval args s none [] s = some (.int z)) (hz : ¬ z < 0) (hn : z.toNatClampNeg = vs.length) (H : ∀ cl : Cell, s.heap[a]? = some cl → HasL cl 0 vs) : ∃ k, Arv s s.heap a k ty z vs dv := by
  obtain ⟨cl, A⟩ := Arr.start ht hx
  obtain ⟨b, cell, e1, e2, e3, e4⟩ := Jvm.Lib.length_spec hl
  have eb : a = b := Value.ref.inj (Option.some.inj (ht.symm.trans e1))
  have ec : cell = cl := Option.some.inj (e2.symm.trans (eb ▸ Arr.fin (Vm.Alike.refl _) A))
  have ez : z = cell.slots.size.toInt32 := Value.int.inj e4
  rw [ec] at ez e3
  exact ⟨_, Arv.start hf A e3 ez.symm hz hn (H _ A.1)⟩

def EL1 : List (String × Nat) := [("java/lang/String", 7)]
def Ctx (Z : State) (a0 : Array Value) (G1 : Int32) (G3 : Value) : Prop := (∀ d ∈ tables_1, d.before a0 Z = true) ∧ EW Z a0 EL1 ∧ Sta Z Z.heap "java/lang/String" "COMPACT_STRINGS" "Z" (.int G1) ∧ ¬ (G1 = (0 : Int32)) ∧ Sta Z Z.heap "jdk/internal/util/Preconditions" "SIOOBE_FORMATTER" "Ljava/util/function/BiFunction;" G3 ∧ G3.isRef = true
theorem sa_of {Z : State} {a0 : Array Value} (hw : ∀ d ∈ tables_1, d.before a0 Z = true) : ∀ a ∈ Bundle.stringAtoms, a.before a0 Z = true := fun d hd => hw d ((by decide +kernel : ∀ d ∈ Bundle.stringAtoms, d ∈ tables_1) d hd)
section StrKit
def StrL (Z : State) (h : Heap) (a t : Addr) (kb : ClassId) (cs : List Int32) : Prop := Exa Z h a "java/lang/String" ∧ Fld Z h a "java/lang/String" "coder" "B" (.int 0) ∧ Fld Z h a "java/lang/String" "value" "[B" (.ref t) ∧ Arv Z h t kb .byte (Int32.ofNat cs.length) ((cs.map (fun c => c.toInt8.toInt32)).map Value.int) (.int 0) ∧ (∀ c ∈ cs, ¬ c < 0 ∧ ¬ (255 : Int32) < c) ∧ cs.length ≤ 4000
variable {Z : State} {h h' : Heap} {a t b : Addr} {kb : ClassId} {cs ds : List Int32} {ws : List Addr} {sl : Nat} {v : Value}
theorem StrL.ext (S : StrL Z h a t kb cs) (E : Ext h h') : StrL Z h' a t kb cs := ⟨S.1.ext E, S.2.1.ext E, S.2.2.1.ext E, S.2.2.2.1.ext E, S.2.2.2.2⟩
theorem StrL.other (S : StrL Z h a t kb cs) (W : Wr h h' b sl v) (q1 : a ≠ b) (q2 : t ≠ b) : StrL Z h' a t kb cs := ⟨S.1.wr W, S.2.1.other W (Or.inl q1), S.2.2.1.other W (Or.inl q1), S.2.2.2.1.other W q2, S.2.2.2.2⟩
theorem StrL.keep (S : StrL Z h a t kb cs) (K : Keep h h' ws) (q1 : a ∉ ws) (q2 : t ∉ ws) : StrL Z h' a t kb cs := ⟨S.1.keep K, S.2.1.keep K q1, S.2.2.1.keep K q1, S.2.2.2.1.keep K q2, S.2.2.2.2⟩
theorem StrL.lt1 (S : StrL Z h a t kb cs) : a < h.size := S.1.lt
theorem StrL.lt2 (S : StrL Z h a t kb cs) : t < h.size := S.2.2.2.1.lt
theorem up_ch {cs : List Int32} (h : ∀ c ∈ cs, ¬ c < 0 ∧ ¬ (255 : Int32) < c) : ∀ c ∈ cs, ¬ c < 0 ∧ ¬ (65535 : Int32) < c := fun c hc => ⟨(h c hc).1, fun q => (h c hc).2 (by rw [Int32.lt_iff_toInt_lt] at q ⊢; have e1 : (65535 : Int32).toInt = 65535 := rfl; have e2 : (255 : Int32).toInt = 255 := rfl; omega)⟩
theorem StrL.cod (S : StrL Z h a t kb cs) : StrChars.Road.CodA cs 0 (Int32.ofNat cs.length) ((cs.map (fun c => c.toInt8.toInt32)).map Value.int) := StrChars.Road.codOf rfl (fun c hc => (S.2.2.2.2.1 c hc).2)
variable {p : Program} {l : Launch} {e : Env} {R : Room} {s : State} {args : Array Value} {below : List Frame} {n0 W : Nat} {bk : Addr → Prop} {a0 : Array Value}
theorem Pays.mono {EL : List (String × Nat)} {y : MethodName} {len kc ks : Nat} {as' : Array Value} {Q Q' : Option Value → Heap → (Addr → Prop) → Prop} (hP : Pays l R p e below s args Z EL n0 bk h y len W kc ks as' Q) (hq : ∀ v h' bk', Q v h' bk' → Q' v h' bk') : Pays l R p e below s args Z EL n0 bk h y len W kc ks as' Q' := fun vm0 hZ hE hO hC hB m meth c A g ig mk a X hg hsize hdg hW hn hp => by
  obtain ⟨v, B, X', r1, r2, ⟨L, bk', q1, q2⟩, st⟩ := hP vm0 hZ hE hO hC hB m meth c A g ig mk a X hg hsize hdg hW hn hp
  exact ⟨v, B, X', r1, r2, ⟨L, bk', hq _ _ _ q1, q2⟩, st⟩
theorem pay_eq {G1 : Int32} {G3 : Value} (hX : Ctx Z a0 G1 G3) (O : Old Z n0 h) (S : StrL Z h a t kb cs) {b t' : Addr} {kb' : ClassId} (S' : StrL Z h b t' kb' ds) (hf : 2 ≤ R.frames) (hl : W + 28 ≤ R.locals) : Pays l R p e below s args Z EL1 n0 bk h (⟨"java/lang/String", "equals", "(Ljava/lang/Object;)Z"⟩ : MethodName) 3 W 0 0 #[.ref a, .ref b] (fun v h' bk' => v = some (.int (if cs = ds then 1 else 0)) ∧ h = h' ∧ bk = bk') :=
  Pays.of_same fun s' hZ => Back.mono (StrChars.Road.eqW hZ (fun d hd => hX.1 d ((by decide +kernel : ∀ d ∈ StrChars.Road.wordsEq, d ∈ tables_1) d hd)) (kI := 4) (hX.1 _ (List.mem_of_getElem? (i := 8) rfl)) S.1 S.2.2.1 S.2.1 S.2.2.2.1 S.cod (up_ch S.2.2.2.2.1) S.2.2.2.2.2 S'.1 S'.2.2.1 S'.2.1 S'.2.2.2.1 S'.cod (up_ch S'.2.2.2.2.1) S'.2.2.2.2.2 (hX.2.2.1.ext O.2) hX.2.2.2.1 hf hl) (fun _ _ q => q) fun A a v B _ q => by
    obtain ⟨L, ⟨q1, q2, q3⟩, q4⟩ := q
    refine ⟨L, ⟨?_, q2, q3⟩, q4⟩
    rcases q1 with ⟨rfl, r⟩ | ⟨rfl, r⟩ <;> simp [r]
theorem pay_new {G1 : Int32} {G3 : Value} (hX : Ctx Z a0 G1 G3) (O : Old Z n0 h) {x b : Addr} (nb : ¬ bk x) {v0 c0 d : Value} {kC : ClassId} {N : Int32} {cs : List Int32} (E : Exa Z h x "java/lang/String") (V : Fld Z h x "java/lang/String" "value" "[B" v0) (C : Fld Z h x "java/lang/String" "coder" "B" c0) (K : Arv Z h b kC .char N (cs.map Value.int) d) (n : Nat) (hn : cs.length = n) (hN : N = Int32.ofNat n) (l0 : 0 < n) (l2 : n ≤ 4000) (hp : ∀ c ∈ cs, ¬ c < 0 ∧ ¬ (255 : Int32) < c) (ge : n0 ≤ x) (hf : 4 ≤ R.frames) (hl : W + 65 ≤ R.locals) :
    Pays l R p e below s args Z EL1 n0 bk h (⟨"java/lang/String", "<init>", "([C)V"⟩ : MethodName) 3 W 1 n #[.ref x, .ref b] (fun v h' bk' => v = none ∧ bk = bk' ∧ Keep h h' [x] ∧ ∃ (t : Addr) (kb : ClassId), n0 ≤ t ∧ h.size ≤ t ∧ StrL Z h' x t kb cs) :=
  Pays.mono (Pays.of_keep (Qk := StrChars.Road.QV Z x N (cs.map (fun c => c.toInt8.toInt32)) h n0) nb ge (fun v h' L q => ⟨q.2.1, q.2.2.1⟩) fun s' hZ => StrChars.Road.backV hZ (fun d hd => hX.1 d ((by decide +kernel : ∀ d ∈ StrChars.Road.words, d ∈ tables_1) d hd)) (kI := 4) (hX.1 _ (List.mem_of_getElem? (i := 8) rfl)) ge (by rw [← O.1]; exact O.2.1) E V C K (hX.2.2.1.ext O.2) hX.2.2.2.1 hn hN l0 l2 hp rfl hf hl) fun v h' bk' q => by
    obtain ⟨⟨L, q1, q2, q3, q4, q5, t, kb, q6, q7, -, q8, q9⟩, r⟩ := q
    subst hn hN
    exact ⟨q1, r, q3, t, kb, q6, q7, q4, q5, q8, q9, hp, l2⟩
end StrKit

def More (Z : State) (e0 e1 e2 e3 e4 sy0 sy1 sy2 sy3 sy4 ty0 ty1 ty2 ty3 ty4 vv : Addr) (ky0 ky1 ky2 ky3 ky4 kv : ClassId) : Prop := (Sta Z Z.heap "com/example/lean_entities/leanentities/session/RawQuery$Operator" "$VALUES" "[Lcom/example/lean_entities/leanentities/session/RawQuery$Operator;" (.ref vv)) ∧ (Exa Z Z.heap vv "[Lcom/example/lean_entities/leanentities/session/RawQuery$Operator;") ∧ (Arv Z Z.heap vv kv (.object "com/example/lean_entities/leanentities/session/RawQuery$Operator") (5 : Int32) [(.ref e0), (.ref e1), (.ref e2), (.ref e3), (.ref e4)] .null) ∧ (Sta Z Z.heap "com/example/lean_entities/leanentities/session/RawQuery$Operator" "EQUAL" "Lcom/example/lean_entities/leanentities/session/RawQuery$Operator;" (.ref e0)) ∧ (Exa Z Z.heap e0 "com/example/lean_entities/leanentities/session/RawQuery$Operator") ∧ (Fld Z Z.heap e0 "com/example/lean_entities/leanentities/session/RawQuery$Operator" "symbol" "Ljava/lang/String;" (.ref sy0)) ∧ (StrL Z Z.heap sy0 ty0 ky0 [(61 : Int32)]) ∧ (Sta Z Z.heap "com/example/lean_entities/leanentities/session/RawQuery$Operator" "LESS_THAN" "Lcom/example/lean_entities/leanentities/session/RawQuery$Operator;" (.ref e1)) ∧ (Exa Z Z.heap e1 "com/example/lean_entities/leanentities/session/RawQuery$Operator") ∧ (Fld Z Z.heap e1 "com/example/lean_entities/leanentities/session/RawQuery$Operator" "symbol" "Ljava/lang/String;" (.ref sy1)) ∧ (StrL Z Z.heap sy1 ty1 ky1 [(60 : Int32)]) ∧ (Sta Z Z.heap "com/example/lean_entities/leanentities/session/RawQuery$Operator" "LESS_THAN_OR_EQUAL" "Lcom/example/lean_entities/leanentities/session/RawQuery$Operator;" (.ref e2)) ∧ (Exa Z Z.heap e2 "com/example/lean_entities/leanentities/session/RawQuery$Operator") ∧ (Fld Z Z.heap e2 "com/example/lean_entities/leanentities/session/RawQuery$Operator" "symbol" "Ljava/lang/String;" (.ref sy2)) ∧ (StrL Z Z.heap sy2 ty2 ky2 [(60 : Int32), (61 : Int32)]) ∧ (Sta Z Z.heap "com/example/lean_entities/leanentities/session/RawQuery$Operator" "GREATER_THAN" "Lcom/example/lean_entities/leanentities/session/RawQuery$Operator;" (.ref e3)) ∧ (Exa Z Z.heap e3 "com/example/lean_entities/leanentities/session/RawQuery$Operator") ∧ (Fld Z Z.heap e3 "com/example/lean_entities/leanentities/session/RawQuery$Operator" "symbol" "Ljava/lang/String;" (.ref sy3)) ∧ (StrL Z Z.heap sy3 ty3 ky3 [(62 : Int32)]) ∧ (Sta Z Z.heap "com/example/lean_entities/leanentities/session/RawQuery$Operator" "GREATER_THAN_OR_EQUAL" "Lcom/example/lean_entities/leanentities/session/RawQuery$Operator;" (.ref e4)) ∧ (Exa Z Z.heap e4 "com/example/lean_entities/leanentities/session/RawQuery$Operator") ∧ (Fld Z Z.heap e4 "com/example/lean_entities/leanentities/session/RawQuery$Operator" "symbol" "Ljava/lang/String;" (.ref sy4)) ∧ (StrL Z Z.heap sy4 ty4 ky4 [(62 : Int32), (61 : Int32)])

def Dc (c : Int32) : Prop := 0 ≤ c.toInt ∧ c.toInt ≤ 255
theorem Dc.ch {c : Int32} (r : Dc c) : ¬ c < 0 ∧ ¬ (255 : Int32) < c := by
  unfold Dc at r
  rw [Int32.lt_iff_toInt_lt, Int32.lt_iff_toInt_lt]
  have e1 : (0 : Int32).toInt = 0 := rfl
  have e2 : (255 : Int32).toInt = 255 := rfl
  omega
theorem Dc.nr {c : Int32} (r : Dc c) : nar .char c = c := by
  unfold Dc at r
  have q : ((nar .char c).toInt - c.toInt) % 65536 = 0 ∧ 0 ≤ (nar .char c).toInt ∧ (nar .char c).toInt < 65536 := c_i2c c
  apply Int32.toInt_inj.mp
  omega
theorem gd1 {a : Int32} (g : Dc a) : ∀ c ∈ [a], ¬ c < 0 ∧ ¬ (255 : Int32) < c := by simp only [List.mem_cons, List.not_mem_nil, or_false]; rintro c rfl; exact g.ch
theorem gd2 {a b : Int32} (g : Dc a) (g' : Dc b) : ∀ c ∈ [a, b], ¬ c < 0 ∧ ¬ (255 : Int32) < c := by simp only [List.mem_cons, List.not_mem_nil, or_false]; rintro c (rfl | rfl) <;> first | exact g.ch | exact g'.ch
theorem gd3 {a b d : Int32} (g : Dc a) (g' : Dc b) (g'' : Dc d) : ∀ c ∈ [a, b, d], ¬ c < 0 ∧ ¬ (255 : Int32) < c := by simp only [List.mem_cons, List.not_mem_nil, or_false]; rintro c (rfl | rfl | rfl) <;> first | exact g.ch | exact g'.ch | exact g''.ch
/-- the text of a shape -/
def Txt (n a b c : Int32) (cs : List Int32) : Prop := (n = 0 ∧ cs = []) ∨ (n = 1 ∧ cs = [a]) ∨ (n = 2 ∧ cs = [a, b]) ∨ (¬ n = 0 ∧ ¬ n = 1 ∧ ¬ n = 2 ∧ cs = [a, b, c])
theorem Txt.ex (n a b c : Int32) : ∃ cs, Txt n a b c cs := by
  by_cases h0 : n = 0
  · exact ⟨_, Or.inl ⟨h0, rfl⟩⟩
  by_cases h1 : n = 1
  · exact ⟨_, Or.inr (Or.inl ⟨h1, rfl⟩)⟩
  by_cases h2 : n = 2
  · exact ⟨_, Or.inr (Or.inr (Or.inl ⟨h2, rfl⟩))⟩
  · exact ⟨_, Or.inr (Or.inr (Or.inr ⟨h0, h1, h2, rfl⟩))⟩
theorem Txt.t0 {n a b c : Int32} {cs : List Int32} (t : Txt n a b c cs) (h : n = 0) : [] = cs := by subst h; simp +decide [Txt] at t; exact t.symm
theorem Txt.t1 {n a b c : Int32} {cs : List Int32} (t : Txt n a b c cs) (h : n = 1) : [a] = cs := by subst h; simp +decide [Txt] at t; exact t.symm
theorem Txt.t2 {n a b c : Int32} {cs : List Int32} (t : Txt n a b c cs) (h : n = 2) : [a, b] = cs := by subst h; simp +decide [Txt] at t; exact t.symm
theorem Txt.t3 {n a b c : Int32} {cs : List Int32} (t : Txt n a b c cs) (h0 : ¬ n = 0) (h1 : ¬ n = 1) (h2 : ¬ n = 2) : [a, b, c] = cs := by simp [Txt, h0, h1, h2] at t; exact t.symm
/-- what ofSymbol answers -/
def opOf (e0 e1 e2 e3 e4 : Addr) (cs : List Int32) : Value := if [(61 : Int32)] = cs then .ref e0 else if [(60 : Int32)] = cs then .ref e1 else if [(60 : Int32), (61 : Int32)] = cs then .ref e2 else if [(62 : Int32)] = cs then .ref e3 else if [(62 : Int32), (61 : Int32)] = cs then .ref e4 else .null
theorem opRef {e0 e1 e2 e3 e4 : Addr} {cs : List Int32} : (opOf e0 e1 e2 e3 e4 cs).isRef = true := by unfold opOf; repeat' split
                                                                                                      all_goals rfl
theorem exp_ok {e0 e1 e2 e3 e4 : Addr} {n a b c : Int32} {cs : List Int32} (t : Txt n a b c cs) : opOf e0 e1 e2 e3 e4 cs = if n = 1 then (if a = 61 then .ref e0 else if a = 60 then .ref e1 else if a = 62 then .ref e3 else .null) else if n = 2 then (if b = 61 then (if a = 60 then .ref e2 else if a = 62 then .ref e4 else .null) else .null) else .null := by
  rcases t with ⟨rfl, rfl⟩ | ⟨rfl, rfl⟩ | ⟨rfl, rfl⟩ | ⟨h0, h1, h2, rfl⟩
  · simp +decide [opOf]
  · simp only [opOf, List.cons.injEq, and_true, if_true]
    simp [eq_comm]
  · by_cases hb : b = 61
    · subst hb; simp +decide [opOf, eq_comm]
    · have hb' : ¬ 61 = b := fun q => hb q.symm
      simp +decide [opOf, hb, hb']
  · simp [opOf, h1, h2]
theorem it0 {P : Prop} [Decidable P] (h : (if P then (1 : Int32) else 0) = 0) : ¬ P := fun q => by rw [if_pos q] at h; exact absurd h (by decide)
theorem it1 {P : Prop} [Decidable P] (h : ¬ (if P then (1 : Int32) else 0) = 0) : P := Decidable.byContradiction fun q => h (if_neg q)

def Q_chc (Z : State) (G1 : Int32) (G3 : Value) (e0 e1 e2 e3 e4 sy0 sy1 sy2 sy3 sy4 ty0 ty1 ty2 ty3 ty4 vv : Addr) (ky0 ky1 ky2 ky3 ky4 kv : ClassId) (x : Int32) (h0 : Heap) (n0 : Nat) (bk : Addr → Prop) (v : Option Value) (h : Heap) (bk' : Addr → Prop) : Prop := ∃ (c : Int32), v = some (.int c) ∧ h0 = h ∧ bk = bk' ∧ (Dc c)
theorem d_m_3_0 : decode method_3_code 0 = .ok (.iload_n 0, 1) := by decide +kernel
theorem d_m_3_1 : decode method_3_code 1 = .ok (.iconst 4, 1) := by decide +kernel
theorem d_m_3_2 : decode method_3_code 2 = .ok (.iand, 1) := by decide +kernel
theorem d_m_3_3 : decode method_3_code 3 = .ok (.ifCond .eq 12, 3) := by decide +kernel
theorem d_m_3_15 : decode method_3_code 15 = .ok (.iload_n 0, 1) := by decide +kernel
theorem d_m_3_16 : decode method_3_code 16 = .ok (.iconst 3, 1) := by decide +kernel
theorem d_m_3_17 : decode method_3_code 17 = .ok (.iand, 1) := by decide +kernel
theorem d_m_3_18 : decode method_3_code 18 = .ok (.istore_n 1, 1) := by decide +kernel
theorem d_m_3_19 : decode method_3_code 19 = .ok (.iload_n 1, 1) := by decide +kernel
theorem d_m_3_20 : decode method_3_code 20 = .ok (.ifCond .ne 6, 3) := by decide +kernel
theorem d_m_3_23 : decode method_3_code 23 = .ok (.bipush 61, 2) := by decide +kernel
theorem d_m_3_25 : decode method_3_code 25 = .ok (.ireturn, 1) := by decide +kernel
theorem d_m_3_26 : decode method_3_code 26 = .ok (.iload_n 1, 1) := by decide +kernel
theorem d_m_3_27 : decode method_3_code 27 = .ok (.iconst 1, 1) := by decide +kernel
theorem d_m_3_28 : decode method_3_code 28 = .ok (.if_icmp .ne 6, 3) := by decide +kernel
theorem d_m_3_31 : decode method_3_code 31 = .ok (.bipush 60, 2) := by decide +kernel
theorem d_m_3_33 : decode method_3_code 33 = .ok (.ireturn, 1) := by decide +kernel
theorem d_m_3_34 : decode method_3_code 34 = .ok (.iload_n 1, 1) := by decide +kernel
theorem d_m_3_35 : decode method_3_code 35 = .ok (.iconst 2, 1) := by decide +kernel
theorem d_m_3_36 : decode method_3_code 36 = .ok (.if_icmp .ne 6, 3) := by decide +kernel
theorem d_m_3_39 : decode method_3_code 39 = .ok (.bipush 62, 2) := by decide +kernel
theorem d_m_3_41 : decode method_3_code 41 = .ok (.ireturn, 1) := by decide +kernel
theorem d_m_3_42 : decode method_3_code 42 = .ok (.bipush 33, 2) := by decide +kernel
theorem d_m_3_44 : decode method_3_code 44 = .ok (.ireturn, 1) := by decide +kernel
theorem d_m_3_6 : decode method_3_code 6 = .ok (.iload_n 0, 1) := by decide +kernel
theorem d_m_3_7 : decode method_3_code 7 = .ok (.iconst 3, 1) := by decide +kernel
theorem d_m_3_8 : decode method_3_code 8 = .ok (.iushr, 1) := by decide +kernel
theorem d_m_3_9 : decode method_3_code 9 = .ok (.sipush 255, 3) := by decide +kernel
theorem d_m_3_12 : decode method_3_code 12 = .ok (.iand, 1) := by decide +kernel
theorem d_m_3_13 : decode method_3_code 13 = .ok (.i2c, 1) := by decide +kernel
theorem d_m_3_14 : decode method_3_code 14 = .ok (.ireturn, 1) := by decide +kernel
abbrev RM_chc : Room := { frames := 0, cells := 0, slots := 0, locals := 0 }
theorem ef_chc (m : MethodId) (x0 : Int32) : entryFrame m #[(.int x0)] 2 = mkF m 0 #[.val (.int x0), .unset] [] := by first | (simp [entryFrame, mkF, argsToLocals, Value.category]; done) | rfl
set_option maxRecDepth 65536 in
set_option maxHeartbeats 40000000 in
theorem rm_chc (l : Launch) (Z : State) (a0 : Array Value) (G1 : Int32) (G3 : Value) (e0 e1 e2 e3 e4 sy0 sy1 sy2 sy3 sy4 ty0 ty1 ty2 ty3 ty4 vv : Addr) (ky0 ky1 ky2 ky3 ky4 kv : ClassId) (hX : Ctx Z a0 G1 G3) (hY : More Z e0 e1 e2 e3 e4 sy0 sy1 sy2 sy3 sy4 ty0 ty1 ty2 ty3 ty4 vv ky0 ky1 ky2 ky3 ky4 kv) (n0 : Nat) (bk : Addr → Prop) (h0 : Heap) (O0 : Old Z n0 h0) (x : Int32)  (ws : List Jvm.Cond) : Met l Z EL1 n0 bk (⟨"com/example/lean_entities/leanentities/session/OperatorOfSymbolPinLaw", "ch", "(I)C"⟩ : MethodName) method_3_code 2 (Option.some FieldType.char) RM_chc #[(.int x)] h0 (Q_chc Z G1 G3 e0 e1 e2 e3 e4 sy0 sy1 sy2 sy3 sy4 ty0 ty1 ty2 ty3 ty4 vv ky0 ky1 ky2 ky3 ky4 kv x h0 n0 bk) ws := by
  have hX' := hX
  obtain ⟨hw, hE, S1, P1, S3, P3⟩ := hX'
  have hY' := hY
  obtain ⟨sV, xV, aV, sE0, xE0, fE0, tE0, sE1, xE1, fE1, tE1, sE2, xE2, fE2, tE2, sE3, xE3, fE3, tE3, sE4, xE4, fE4, tE4⟩ := hY'
  have hSA := sa_of hw
  have z0 : n0 ≤ h0.size := by rw [← O0.1]; exact O0.2.1
  refine Met.of (by decide +kernel) O0 hE ?_
  intro p e s m below meth c hx hby hml hret hlk hnm
  refine k_cast (ef_chc m x) ?_
  show Run p l e _ s m _ below meth c Z EL1 _ n0 bk h0 0 0 (mkF m 0 #[.val (.int x), .unset] []) _
  refine k_pure (g' := (mkF m 1 #[.val (.int x), .unset] [(.int x)])) (fun TT HH tt kk => XS.iloadN HH hx rfl (hb hby d_m_3_0) rfl kk) ?_
  refine k_pure (g' := (mkF m 2 #[.val (.int x), .unset] [(.int (4 : Int32)), (.int x)])) (fun TT HH tt kk => XS.iconst HH hx rfl (hb hby d_m_3_1) kk) ?_
  refine k_pure (g' := (mkF m 3 #[.val (.int x), .unset] [(.int (x &&& (4 : Int32)))])) (fun TT HH tt kk => XS.iand HH hx rfl (hb hby d_m_3_2) rfl kk) ?_
  by_cases c_1 : (x &&& (4 : Int32)) = (0 : Int32)
  · refine k_pure (g' := (mkF m 15 #[.val (.int x), .unset] [])) (fun TT HH tt kk => XS.ifYes HH hx rfl (pc0 := 3) (pc' := 15) rfl (hb hby d_m_3_3) rfl ((if0 _ _).trans (teq c_1).1) (by decide) (by decide) kk) ?_
    refine k_pure (g' := (mkF m 16 #[.val (.int x), .unset] [(.int x)])) (fun TT HH tt kk => XS.iloadN HH hx rfl (hb hby d_m_3_15) rfl kk) ?_
    refine k_pure (g' := (mkF m 17 #[.val (.int x), .unset] [(.int (3 : Int32)), (.int x)])) (fun TT HH tt kk => XS.iconst HH hx rfl (hb hby d_m_3_16) kk) ?_
    refine k_pure (g' := (mkF m 18 #[.val (.int x), .unset] [(.int (x &&& (3 : Int32)))])) (fun TT HH tt kk => XS.iand HH hx rfl (hb hby d_m_3_17) rfl kk) ?_
    refine k_pure (g' := (mkF m 19 #[.val (.int x), .val (.int (x &&& (3 : Int32)))] [])) (fun TT HH tt kk => XS.istoreN HH hx rfl (hb hby d_m_3_18) rfl (l' := #[.val (.int x), .val (.int (x &&& (3 : Int32)))]) rfl kk) ?_
    refine k_pure (g' := (mkF m 20 #[.val (.int x), .val (.int (x &&& (3 : Int32)))] [(.int (x &&& (3 : Int32)))])) (fun TT HH tt kk => XS.iloadN HH hx rfl (hb hby d_m_3_19) rfl kk) ?_
    by_cases c_2 : (x &&& (3 : Int32)) = (0 : Int32)
    · refine k_pure (g' := (mkF m 23 #[.val (.int x), .val (.int (x &&& (3 : Int32)))] [])) (fun TT HH tt kk => XS.ifNo HH hx rfl (hb hby d_m_3_20) rfl ((if0 _ _).trans (teq c_2).2) kk) ?_
      refine k_pure (g' := (mkF m 25 #[.val (.int x), .val (.int (x &&& (3 : Int32)))] [(.int (61 : Int32))])) (fun TT HH tt kk => XS.bipush HH hx rfl (hb hby d_m_3_23) kk) ?_
      exact k_retN hx hlk hret (by simp) (hb hby d_m_3_25) (by decide) (by decide) ⟨_, rfl, rfl, rfl, (by have r0 := rng32 x; have r1 := c_and x (4 : Int32) (by decide); have r2 := rng32 (x &&& (4 : Int32)); have r3 : (0 : Int32).toInt = 0 := (by decide); have r4 : (x &&& (3 : Int32)).toInt = x.toInt % 4 := (c_mask x (3 : Int32) 2 (by decide) (by decide)); have r5 := rng32 (x &&& (3 : Int32)); have r6 : (61 : Int32).toInt = 61 := (by decide); have r7 : ((nar .char (61 : Int32)).toInt - (61 : Int32).toInt) % 65536 = 0 ∧ 0 ≤ (nar .char (61 : Int32)).toInt ∧ (nar .char (61 : Int32)).toInt < 65536 := (c_i2c (61 : Int32)); have r8 := (congrArg Int32.toInt c_1); have r9 := (congrArg Int32.toInt c_2); unfold Dc; omega)⟩
    · refine k_pure (g' := (mkF m 26 #[.val (.int x), .val (.int (x &&& (3 : Int32)))] [])) (fun TT HH tt kk => XS.ifYes HH hx rfl (pc0 := 20) (pc' := 26) rfl (hb hby d_m_3_20) rfl ((if0 _ _).trans (feq c_2).2) (by decide) (by decide) kk) ?_
      refine k_pure (g' := (mkF m 27 #[.val (.int x), .val (.int (x &&& (3 : Int32)))] [(.int (x &&& (3 : Int32)))])) (fun TT HH tt kk => XS.iloadN HH hx rfl (hb hby d_m_3_26) rfl kk) ?_
      refine k_pure (g' := (mkF m 28 #[.val (.int x), .val (.int (x &&& (3 : Int32)))] [(.int (1 : Int32)), (.int (x &&& (3 : Int32)))])) (fun TT HH tt kk => XS.iconst HH hx rfl (hb hby d_m_3_27) kk) ?_
      by_cases c_3 : (x &&& (3 : Int32)) = (1 : Int32)
      · refine k_pure (g' := (mkF m 31 #[.val (.int x), .val (.int (x &&& (3 : Int32)))] [])) (fun TT HH tt kk => XS.icmpNo HH hx rfl (hb hby d_m_3_28) rfl (teq c_3).2 kk) ?_
        refine k_pure (g' := (mkF m 33 #[.val (.int x), .val (.int (x &&& (3 : Int32)))] [(.int (60 : Int32))])) (fun TT HH tt kk => XS.bipush HH hx rfl (hb hby d_m_3_31) kk) ?_
        exact k_retN hx hlk hret (by simp) (hb hby d_m_3_33) (by decide) (by decide) ⟨_, rfl, rfl, rfl, (by have r0 := rng32 x; have r1 := c_and x (4 : Int32) (by decide); have r2 := rng32 (x &&& (4 : Int32)); have r3 : (0 : Int32).toInt = 0 := (by decide); have r4 : (x &&& (3 : Int32)).toInt = x.toInt % 4 := (c_mask x (3 : Int32) 2 (by decide) (by decide)); have r5 := rng32 (x &&& (3 : Int32)); have r6 : (1 : Int32).toInt = 1 := (by decide); have r7 : (60 : Int32).toInt = 60 := (by decide); have r8 : ((nar .char (60 : Int32)).toInt - (60 : Int32).toInt) % 65536 = 0 ∧ 0 ≤ (nar .char (60 : Int32)).toInt ∧ (nar .char (60 : Int32)).toInt < 65536 := (c_i2c (60 : Int32)); have r9 := (congrArg Int32.toInt c_1); have r10 : ¬ ((x &&& (3 : Int32))).toInt = ((0 : Int32)).toInt := fun q => c_2 (Int32.toInt_inj.mp q); have r11 := (congrArg Int32.toInt c_3); unfold Dc; omega)⟩
      · refine k_pure (g' := (mkF m 34 #[.val (.int x), .val (.int (x &&& (3 : Int32)))] [])) (fun TT HH tt kk => XS.icmpYes HH hx rfl (pc0 := 28) (pc' := 34) rfl (hb hby d_m_3_28) rfl (feq c_3).2 (by decide) (by decide) kk) ?_
        refine k_pure (g' := (mkF m 35 #[.val (.int x), .val (.int (x &&& (3 : Int32)))] [(.int (x &&& (3 : Int32)))])) (fun TT HH tt kk => XS.iloadN HH hx rfl (hb hby d_m_3_34) rfl kk) ?_
        refine k_pure (g' := (mkF m 36 #[.val (.int x), .val (.int (x &&& (3 : Int32)))] [(.int (2 : Int32)), (.int (x &&& (3 : Int32)))])) (fun TT HH tt kk => XS.iconst HH hx rfl (hb hby d_m_3_35) kk) ?_
        by_cases c_4 : (x &&& (3 : Int32)) = (2 : Int32)
        · refine k_pure (g' := (mkF m 39 #[.val (.int x), .val (.int (x &&& (3 : Int32)))] [])) (fun TT HH tt kk => XS.icmpNo HH hx rfl (hb hby d_m_3_36) rfl (teq c_4).2 kk) ?_
          refine k_pure (g' := (mkF m 41 #[.val (.int x), .val (.int (x &&& (3 : Int32)))] [(.int (62 : Int32))])) (fun TT HH tt kk => XS.bipush HH hx rfl (hb hby d_m_3_39) kk) ?_
          exact k_retN hx hlk hret (by simp) (hb hby d_m_3_41) (by decide) (by decide) ⟨_, rfl, rfl, rfl, (by have r0 := rng32 x; have r1 := c_and x (4 : Int32) (by decide); have r2 := rng32 (x &&& (4 : Int32)); have r3 : (0 : Int32).toInt = 0 := (by decide); have r4 : (x &&& (3 : Int32)).toInt = x.toInt % 4 := (c_mask x (3 : Int32) 2 (by decide) (by decide)); have r5 := rng32 (x &&& (3 : Int32)); have r6 : (1 : Int32).toInt = 1 := (by decide); have r7 : (2 : Int32).toInt = 2 := (by decide); have r8 : (62 : Int32).toInt = 62 := (by decide); have r9 : ((nar .char (62 : Int32)).toInt - (62 : Int32).toInt) % 65536 = 0 ∧ 0 ≤ (nar .char (62 : Int32)).toInt ∧ (nar .char (62 : Int32)).toInt < 65536 := (c_i2c (62 : Int32)); have r10 := (congrArg Int32.toInt c_1); have r11 : ¬ ((x &&& (3 : Int32))).toInt = ((0 : Int32)).toInt := fun q => c_2 (Int32.toInt_inj.mp q); have r12 : ¬ ((x &&& (3 : Int32))).toInt = ((1 : Int32)).toInt := fun q => c_3 (Int32.toInt_inj.mp q); have r13 := (congrArg Int32.toInt c_4); unfold Dc; omega)⟩
        · refine k_pure (g' := (mkF m 42 #[.val (.int x), .val (.int (x &&& (3 : Int32)))] [])) (fun TT HH tt kk => XS.icmpYes HH hx rfl (pc0 := 36) (pc' := 42) rfl (hb hby d_m_3_36) rfl (feq c_4).2 (by decide) (by decide) kk) ?_
          refine k_pure (g' := (mkF m 44 #[.val (.int x), .val (.int (x &&& (3 : Int32)))] [(.int (33 : Int32))])) (fun TT HH tt kk => XS.bipush HH hx rfl (hb hby d_m_3_42) kk) ?_
          exact k_retN hx hlk hret (by simp) (hb hby d_m_3_44) (by decide) (by decide) ⟨_, rfl, rfl, rfl, (by have r0 := rng32 x; have r1 := c_and x (4 : Int32) (by decide); have r2 := rng32 (x &&& (4 : Int32)); have r3 : (0 : Int32).toInt = 0 := (by decide); have r4 : (x &&& (3 : Int32)).toInt = x.toInt % 4 := (c_mask x (3 : Int32) 2 (by decide) (by decide)); have r5 := rng32 (x &&& (3 : Int32)); have r6 : (1 : Int32).toInt = 1 := (by decide); have r7 : (2 : Int32).toInt = 2 := (by decide); have r8 : (33 : Int32).toInt = 33 := (by decide); have r9 : ((nar .char (33 : Int32)).toInt - (33 : Int32).toInt) % 65536 = 0 ∧ 0 ≤ (nar .char (33 : Int32)).toInt ∧ (nar .char (33 : Int32)).toInt < 65536 := (c_i2c (33 : Int32)); have r10 := (congrArg Int32.toInt c_1); have r11 : ¬ ((x &&& (3 : Int32))).toInt = ((0 : Int32)).toInt := fun q => c_2 (Int32.toInt_inj.mp q); have r12 : ¬ ((x &&& (3 : Int32))).toInt = ((1 : Int32)).toInt := fun q => c_3 (Int32.toInt_inj.mp q); have r13 : ¬ ((x &&& (3 : Int32))).toInt = ((2 : Int32)).toInt := fun q => c_4 (Int32.toInt_inj.mp q); unfold Dc; omega)⟩
  · refine k_pure (g' := (mkF m 6 #[.val (.int x), .unset] [])) (fun TT HH tt kk => XS.ifNo HH hx rfl (hb hby d_m_3_3) rfl ((if0 _ _).trans (feq c_1).1) kk) ?_
    refine k_pure (g' := (mkF m 7 #[.val (.int x), .unset] [(.int x)])) (fun TT HH tt kk => XS.iloadN HH hx rfl (hb hby d_m_3_6) rfl kk) ?_
    refine k_pure (g' := (mkF m 8 #[.val (.int x), .unset] [(.int (3 : Int32)), (.int x)])) (fun TT HH tt kk => XS.iconst HH hx rfl (hb hby d_m_3_7) kk) ?_
    refine k_pure (g' := (mkF m 9 #[.val (.int x), .unset] [(.int ((x.toUInt32 >>> ((3 : Int32) &&& 31).toUInt32).toInt32))])) (fun TT HH tt kk => XS.iushr HH hx rfl (hb hby d_m_3_8) rfl kk) ?_
    refine k_pure (g' := (mkF m 12 #[.val (.int x), .unset] [(.int (255 : Int32)), (.int ((x.toUInt32 >>> ((3 : Int32) &&& 31).toUInt32).toInt32))])) (fun TT HH tt kk => XS.sipush HH hx rfl (hb hby d_m_3_9) kk) ?_
    refine k_pure (g' := (mkF m 13 #[.val (.int x), .unset] [(.int (((x.toUInt32 >>> ((3 : Int32) &&& 31).toUInt32).toInt32) &&& (255 : Int32)))])) (fun TT HH tt kk => XS.iand HH hx rfl (hb hby d_m_3_12) rfl kk) ?_
    refine k_pure (g' := (mkF m 14 #[.val (.int x), .unset] [(.int ((((x.toUInt32 >>> ((3 : Int32) &&& 31).toUInt32).toInt32) &&& (255 : Int32)).toUInt32.toUInt16.toUInt32.toInt32))])) (fun TT HH tt kk => XS.i2c HH hx rfl (hb hby d_m_3_13) rfl kk) ?_
    exact k_retN hx hlk hret (by simp) (hb hby d_m_3_14) (by decide) (by decide) ⟨_, rfl, rfl, rfl, (by have r0 := rng32 x; have r1 := c_and x (4 : Int32) (by decide); have r2 := rng32 (x &&& (4 : Int32)); have r3 : (0 : Int32).toInt = 0 := (by decide); have r4 : ((x.toUInt32 >>> ((3 : Int32) &&& 31).toUInt32).toInt32).toInt = (x.toInt % 4294967296) / 8 := (c_iushr x (3 : Int32) 3 (by decide) (by decide)); have r5 := rng32 ((x.toUInt32 >>> ((3 : Int32) &&& 31).toUInt32).toInt32); have r6 : (((x.toUInt32 >>> ((3 : Int32) &&& 31).toUInt32).toInt32) &&& (255 : Int32)).toInt = ((x.toUInt32 >>> ((3 : Int32) &&& 31).toUInt32).toInt32).toInt % 256 := (c_mask ((x.toUInt32 >>> ((3 : Int32) &&& 31).toUInt32).toInt32) (255 : Int32) 8 (by decide) (by decide)); have r7 := rng32 (((x.toUInt32 >>> ((3 : Int32) &&& 31).toUInt32).toInt32) &&& (255 : Int32)); have r8 := c_i2c (((x.toUInt32 >>> ((3 : Int32) &&& 31).toUInt32).toInt32) &&& (255 : Int32)); have r9 : ((nar .char ((((x.toUInt32 >>> ((3 : Int32) &&& 31).toUInt32).toInt32) &&& (255 : Int32)).toUInt32.toUInt16.toUInt32.toInt32)).toInt - ((((x.toUInt32 >>> ((3 : Int32) &&& 31).toUInt32).toInt32) &&& (255 : Int32)).toUInt32.toUInt16.toUInt32.toInt32).toInt) % 65536 = 0 ∧ 0 ≤ (nar .char ((((x.toUInt32 >>> ((3 : Int32) &&& 31).toUInt32).toInt32) &&& (255 : Int32)).toUInt32.toUInt16.toUInt32.toInt32)).toInt ∧ (nar .char ((((x.toUInt32 >>> ((3 : Int32) &&& 31).toUInt32).toInt32) &&& (255 : Int32)).toUInt32.toUInt16.toUInt32.toInt32)).toInt < 65536 := (c_i2c ((((x.toUInt32 >>> ((3 : Int32) &&& 31).toUInt32).toInt32) &&& (255 : Int32)).toUInt32.toUInt16.toUInt32.toInt32)); have r10 : ¬ ((x &&& (4 : Int32))).toInt = ((0 : Int32)).toInt := fun q => c_1 (Int32.toInt_inj.mp q); unfold Dc; omega)⟩
def Q_es2 (Z : State) (G1 : Int32) (G3 : Value) (e0 e1 e2 e3 e4 sy0 sy1 sy2 sy3 sy4 ty0 ty1 ty2 ty3 ty4 vv : Addr) (ky0 ky1 ky2 ky3 ky4 kv : ClassId) (x : Addr) (q : Addr) (h0 : Heap) (n0 : Nat) (bk : Addr → Prop) (v : Option Value) (h : Heap) (bk' : Addr → Prop) : Prop := ∃ (t : Addr), ∃ (kb : ClassId), v = none ∧ (∀ y, bk' y → bk y ∨ (@LE.le Nat _ (Array.size h0) y ∧ @LT.lt Nat _ y (Array.size h))) ∧ Keep h0 h [x] ∧ (StrL Z h x t kb ([] : List Int32))
theorem d_jdk_42_m_149_0 : decode jdk_42_method_149_code 0 = .ok (.aload_n 0, 1) := by decide +kernel
theorem d_jdk_42_m_149_1 : decode jdk_42_method_149_code 1 = .ok (.invokespecial 1, 3) := by decide +kernel
theorem d_jdk_42_m_149_4 : decode jdk_42_method_149_code 4 = .ok (.iload_n 3, 1) := by decide +kernel
theorem d_jdk_42_m_149_5 : decode jdk_42_method_149_code 5 = .ok (.ifCond .ne 22, 3) := by decide +kernel
theorem d_jdk_42_m_149_8 : decode jdk_42_method_149_code 8 = .ok (.aload_n 0, 1) := by decide +kernel
theorem d_jdk_42_m_149_9 : decode jdk_42_method_149_code 9 = .ok (.ldc 7, 2) := by decide +kernel
theorem d_jdk_42_m_149_11 : decode jdk_42_method_149_code 11 = .ok (.getfield 9, 3) := by decide +kernel
theorem d_jdk_42_m_149_14 : decode jdk_42_method_149_code 14 = .ok (.putfield 9, 3) := by decide +kernel
theorem d_jdk_42_m_149_17 : decode jdk_42_method_149_code 17 = .ok (.aload_n 0, 1) := by decide +kernel
theorem d_jdk_42_m_149_18 : decode jdk_42_method_149_code 18 = .ok (.ldc 7, 2) := by decide +kernel
theorem d_jdk_42_m_149_20 : decode jdk_42_method_149_code 20 = .ok (.getfield 15, 3) := by decide +kernel
theorem d_jdk_42_m_149_23 : decode jdk_42_method_149_code 23 = .ok (.putfield 15, 3) := by decide +kernel
theorem d_jdk_42_m_149_26 : decode jdk_42_method_149_code 26 = .ok (.return_, 1) := by decide +kernel
abbrev RM_es2 : Room := { frames := 1, cells := 4, slots := 8, locals := 12 }
theorem ef_es2 (m : MethodId) (x0 : Addr) (x1 : Addr) (x2 : Int32) (x3 : Int32) : entryFrame m #[(.ref x0), (.ref x1), (.int x2), (.int x3), .null] 6 = mkF m 0 #[.val (.ref x0), .val (.ref x1), .val (.int x2), .val (.int x3), .val .null, .unset] [] := by first | (simp [entryFrame, mkF, argsToLocals, Value.category]; done) | rfl
set_option maxRecDepth 65536 in
set_option maxHeartbeats 40000000 in
theorem rm_es2 (l : Launch) (Z : State) (a0 : Array Value) (G1 : Int32) (G3 : Value) (e0 e1 e2 e3 e4 sy0 sy1 sy2 sy3 sy4 ty0 ty1 ty2 ty3 ty4 vv : Addr) (ky0 ky1 ky2 ky3 ky4 kv : ClassId) (hX : Ctx Z a0 G1 G3) (hY : More Z e0 e1 e2 e3 e4 sy0 sy1 sy2 sy3 sy4 ty0 ty1 ty2 ty3 ty4 vv ky0 ky1 ky2 ky3 ky4 kv) (n0 : Nat) (bk : Addr → Prop) (h0 : Heap) (O0 : Old Z n0 h0) (x : Addr) (q : Addr) (pf_0 : Exa Z h0 x "java/lang/String") (pf_1 : Fld Z h0 x "java/lang/String" "value" "[B" .null) (pf_2 : Fld Z h0 x "java/lang/String" "coder" "B" (.int (0 : Int32))) (hbl : ∀ y, bk y → @LT.lt Nat _ y (Array.size h0)) (nbx : ¬ bk x) (gx : n0 ≤ x) (ws : List Jvm.Cond) : Met l Z EL1 n0 bk (⟨"java/lang/String", "<init>", "([CIILjava/lang/Void;)V"⟩ : MethodName) jdk_42_method_149_code 6 (Option.none : Option FieldType) RM_es2 #[(.ref x), (.ref q), (.int (0 : Int32)), (.int (0 : Int32)), .null] h0 (Q_es2 Z G1 G3 e0 e1 e2 e3 e4 sy0 sy1 sy2 sy3 sy4 ty0 ty1 ty2 ty3 ty4 vv ky0 ky1 ky2 ky3 ky4 kv x q h0 n0 bk) ws := by
  have hX' := hX
  obtain ⟨hw, hE, S1, P1, S3, P3⟩ := hX'
  have hY' := hY
  obtain ⟨sV, xV, aV, sE0, xE0, fE0, tE0, sE1, xE1, fE1, tE1, sE2, xE2, fE2, tE2, sE3, xE3, fE3, tE3, sE4, xE4, fE4, tE4⟩ := hY'
  have hSA := sa_of hw
  have z0 : n0 ≤ h0.size := by rw [← O0.1]; exact O0.2.1
  refine Met.of (by decide +kernel) O0 hE ?_
  intro p e s m below meth c hx hby hml hret hlk hnm
  refine k_cast (ef_es2 m x q (0 : Int32) (0 : Int32)) ?_
  show Run p l e _ s m _ below meth c Z EL1 _ n0 bk h0 0 0 (mkF m 0 #[.val (.ref x), .val (.ref q), .val (.int (0 : Int32)), .val (.int (0 : Int32)), .val .null, .unset] []) _
  have lt_1 : @LT.lt Nat _ x (Array.size h0) := pf_0.lt
  have lt_2 : @LT.lt Nat _ x (Array.size h0) := pf_1.lt
  have lt_3 : @LT.lt Nat _ x (Array.size h0) := pf_2.lt
  refine k_pure (g' := (mkF m 1 #[.val (.ref x), .val (.ref q), .val (.int (0 : Int32)), .val (.int (0 : Int32)), .val .null, .unset] [(.ref x)])) (fun TT HH tt kk => XS.aloadN HH hx rfl (hb hby d_jdk_42_m_149_0) rfl rfl kk) ?_
  refine k_initO hx (hw _ (List.mem_of_getElem? (i := 18) rfl)) (hw _ (List.mem_of_getElem? (i := 19) rfl)) (hw _ (List.mem_of_getElem? (i := 20) rfl)) rfl (by rw [hml]; rfl) rfl (hb hby d_jdk_42_m_149_1) (by decide) (W := 0) (by show 2 * 0 + _ ≤ _; exact Nat.le_of_eq rfl) (by decide) ?_
  show Run p l e _ s m _ below meth c Z EL1 _ n0 bk h0 0 0 (mkF m 4 #[.val (.ref x), .val (.ref q), .val (.int (0 : Int32)), .val (.int (0 : Int32)), .val .null, .unset] []) _
  refine k_pure (g' := (mkF m 5 #[.val (.ref x), .val (.ref q), .val (.int (0 : Int32)), .val (.int (0 : Int32)), .val .null, .unset] [(.int (0 : Int32))])) (fun TT HH tt kk => XS.iloadN HH hx rfl (hb hby d_jdk_42_m_149_4) rfl kk) ?_
  refine k_pure (g' := (mkF m 8 #[.val (.ref x), .val (.ref q), .val (.int (0 : Int32)), .val (.int (0 : Int32)), .val .null, .unset] [])) (fun TT HH tt kk => XS.ifNo HH hx rfl (hb hby d_jdk_42_m_149_5) rfl ((if0 _ _).trans (teq (by decide : ((0 : Int32) = (0 : Int32)))).2) kk) ?_
  refine k_pure (g' := (mkF m 9 #[.val (.ref x), .val (.ref q), .val (.int (0 : Int32)), .val (.int (0 : Int32)), .val .null, .unset] [(.ref x)])) (fun TT HH tt kk => XS.aloadN HH hx rfl (hb hby d_jdk_42_m_149_8) rfl rfl kk) ?_
  refine k_ldcC hx (hw _ (List.mem_of_getElem? (i := 21) rfl)) hSA (List.mem_singleton.mpr rfl) (z := (Int32.ofNat ([] : List Int32).length)) (vs := ((([] : List Int32).map (fun c => c.toInt8.toInt32)).map Value.int)) (by decide +kernel) (by decide) (by decide +kernel) rfl (hb hby d_jdk_42_m_149_9) (n := 0) (by decide +kernel) (by decide) (by decide) (by decide) ?_
  intro h_4 a_5 a_10 k_11 bk_8 O_6 E_7 hbk_9 X_12 F_13 F_14 V_15 nl_16
  have z_17 := E_7.1
  have lt_18 : @LT.lt Nat _ a_5 (Array.size h_4) := X_12.lt
  have lt_19 : @LT.lt Nat _ a_10 (Array.size h_4) := V_15.lt
  have ne_20 : @Ne Nat x a_5 := (nl_16 x (show @LT.lt Nat _ x (Array.size h0) by omega) nbx).1
  have ne_21 : @Ne Nat x a_10 := (nl_16 x (show @LT.lt Nat _ x (Array.size h0) by omega) nbx).2
  have S_22 : StrL Z h_4 a_5 a_10 k_11 ([] : List Int32) := ⟨X_12, F_13, F_14, V_15, (fun _ q => nomatch q), by decide⟩
  have nb_23 : ¬ bk_8 x := fun q => (hbk_9 _ q).elim nbx (fun r => Nat.not_le_of_lt (show @LT.lt Nat _ x (Array.size h0) by omega) r.1)
  have hbl_24 : ∀ y, bk_8 y → @LT.lt Nat _ y (Array.size h_4) := fun y q => (hbk_9 y q).elim (fun r => Nat.lt_of_lt_of_le (hbl y r) (by omega)) (fun r => r.2)
  have hbs_25 : ∀ y, bk_8 y → bk y ∨ (@LE.le Nat _ (Array.size h0) y ∧ @LT.lt Nat _ y (Array.size h_4)) := fun y q => (hbk_9 y q).imp id (fun r => ⟨Nat.le_trans (by omega) r.1, r.2⟩)
  show Run p l e _ s m _ below meth c Z EL1 _ n0 bk_8 h_4 2 4 (mkF m 11 #[.val (.ref x), .val (.ref q), .val (.int (0 : Int32)), .val (.int (0 : Int32)), .val .null, .unset] [(.ref a_5), (.ref x)]) _
  refine k_getF hx (host := "") (Or.inl (hw _ (List.mem_of_getElem? (i := 27) rfl))) Via.refl S_22.2.2.1 rfl rfl (hb hby d_jdk_42_m_149_11) ?_
  show Run p l e _ s m _ below meth c Z EL1 _ n0 bk_8 h_4 2 4 (mkF m 14 #[.val (.ref x), .val (.ref q), .val (.int (0 : Int32)), .val (.int (0 : Int32)), .val .null, .unset] [(.ref a_10), (.ref x)]) _
  have F_26 : Fld Z h_4 x "java/lang/String" "value" "[B" .null := (pf_1.ext E_7)
  have F_27 : Exa Z h_4 x "java/lang/String" := (pf_0.ext E_7)
  refine k_putF hx (host := "") (Or.inl (hw _ (List.mem_of_getElem? (i := 27) rfl))) Via.refl F_26 F_27 (Or.inr ⟨(hw _ (List.mem_of_getElem? (i := 23) rfl)), rfl, hnm⟩) (hw _ (List.mem_of_getElem? (i := 8) rfl)) (ty := (.array .byte)) (by decide) rfl rfl (by omega) nb_23 rfl rfl (hb hby d_jdk_42_m_149_14) ?_
  intro h_28 O_30 W_29
  have z_31 := W_29.size
  show Run p l e _ s m _ below meth c Z EL1 _ n0 bk_8 h_28 2 4 (mkF m 17 #[.val (.ref x), .val (.ref q), .val (.int (0 : Int32)), .val (.int (0 : Int32)), .val .null, .unset] []) _
  refine k_pure (g' := (mkF m 18 #[.val (.ref x), .val (.ref q), .val (.int (0 : Int32)), .val (.int (0 : Int32)), .val .null, .unset] [(.ref x)])) (fun TT HH tt kk => XS.aloadN HH hx rfl (hb hby d_jdk_42_m_149_17) rfl rfl kk) ?_
  refine k_ldcC hx (hw _ (List.mem_of_getElem? (i := 21) rfl)) hSA (List.mem_singleton.mpr rfl) (z := (Int32.ofNat ([] : List Int32).length)) (vs := ((([] : List Int32).map (fun c => c.toInt8.toInt32)).map Value.int)) (by decide +kernel) (by decide) (by decide +kernel) rfl (hb hby d_jdk_42_m_149_18) (n := 0) (by decide +kernel) (by decide) (by decide) (by decide) ?_
  intro h_32 a_33 a_38 k_39 bk_36 O_34 E_35 hbk_37 X_40 F_41 F_42 V_43 nl_44
  have z_45 := E_35.1
  have lt_46 : @LT.lt Nat _ a_33 (Array.size h_32) := X_40.lt
  have lt_47 : @LT.lt Nat _ a_38 (Array.size h_32) := V_43.lt
  have ne_48 : @Ne Nat x a_33 := (nl_44 x (show @LT.lt Nat _ x (Array.size h_28) by omega) nb_23).1
  have ne_49 : @Ne Nat x a_38 := (nl_44 x (show @LT.lt Nat _ x (Array.size h_28) by omega) nb_23).2
  have S_50 : StrL Z h_32 a_33 a_38 k_39 ([] : List Int32) := ⟨X_40, F_41, F_42, V_43, (fun _ q => nomatch q), by decide⟩
  have hbl_51 : ∀ y, bk_8 y → @LT.lt Nat _ y (Array.size h_28) := fun y q => Nat.lt_of_lt_of_le (hbl_24 y q) (by omega)
  have nb_52 : ¬ bk_36 x := fun q => (hbk_37 _ q).elim nb_23 (fun r => Nat.not_le_of_lt (show @LT.lt Nat _ x (Array.size h_28) by omega) r.1)
  have hbl_53 : ∀ y, bk_36 y → @LT.lt Nat _ y (Array.size h_32) := fun y q => (hbk_37 y q).elim (fun r => Nat.lt_of_lt_of_le (hbl_51 y r) (by omega)) (fun r => r.2)
  have hbs_54 : ∀ y, bk_36 y → bk y ∨ (@LE.le Nat _ (Array.size h0) y ∧ @LT.lt Nat _ y (Array.size h_32)) := fun y q => (hbk_37 y q).elim (fun r => (hbs_25 y r).imp id (fun t => ⟨t.1, Nat.lt_of_lt_of_le t.2 (by omega)⟩)) (fun r => Or.inr ⟨Nat.le_trans (by omega) r.1, r.2⟩)
  show Run p l e _ s m _ below meth c Z EL1 _ n0 bk_36 h_32 4 8 (mkF m 20 #[.val (.ref x), .val (.ref q), .val (.int (0 : Int32)), .val (.int (0 : Int32)), .val .null, .unset] [(.ref a_33), (.ref x)]) _
  refine k_getF hx (host := "") (Or.inl (hw _ (List.mem_of_getElem? (i := 28) rfl))) Via.refl S_50.2.1 rfl rfl (hb hby d_jdk_42_m_149_20) ?_
  show Run p l e _ s m _ below meth c Z EL1 _ n0 bk_36 h_32 4 8 (mkF m 23 #[.val (.ref x), .val (.ref q), .val (.int (0 : Int32)), .val (.int (0 : Int32)), .val .null, .unset] [(.int (0 : Int32)), (.ref x)]) _
  have F_55 : Fld Z h_32 x "java/lang/String" "coder" "B" (.int (0 : Int32)) := (((pf_2.ext E_7).other W_29 (Or.inr (RoadKit.slot_ne (C := "java/lang/String") (Or.inr (hw _ (List.mem_of_getElem? (i := 24) rfl))) (Or.inr (hw _ (List.mem_of_getElem? (i := 23) rfl))) (by decide) (t := .byte) (t' := (.array .byte)) (by decide) (by decide)))).ext E_35)
  have F_56 : Exa Z h_32 x "java/lang/String" := ((F_27.wr W_29).ext E_35)
  refine k_putF hx (host := "") (Or.inl (hw _ (List.mem_of_getElem? (i := 28) rfl))) Via.refl F_55 F_56 (Or.inr ⟨(hw _ (List.mem_of_getElem? (i := 24) rfl)), rfl, hnm⟩) (hw _ (List.mem_of_getElem? (i := 8) rfl)) (ty := .byte) (by decide) rfl rfl (by omega) nb_52 rfl rfl (hb hby d_jdk_42_m_149_23) ?_
  intro h_57 O_59 W_58
  have z_60 := W_58.size
  show Run p l e _ s m _ below meth c Z EL1 _ n0 bk_36 h_57 4 8 (mkF m 26 #[.val (.ref x), .val (.ref q), .val (.int (0 : Int32)), .val (.int (0 : Int32)), .val .null, .unset] []) _
  have F_61 : Exa Z h_57 x "java/lang/String" := (F_56.wr W_58)
  have F_62 : Fld Z h_57 x "java/lang/String" "value" "[B" (.ref a_10) := (((F_26.same W_29).ext E_35).other W_58 (Or.inr (RoadKit.slot_ne (C := "java/lang/String") (Or.inr (hw _ (List.mem_of_getElem? (i := 23) rfl))) (Or.inr (hw _ (List.mem_of_getElem? (i := 24) rfl))) (by decide) (t := (.array .byte)) (t' := .byte) (by decide) (by decide))))
  have F_63 : Arv Z h_57 a_10 k_11 .byte (Int32.ofNat (([] : List Int32)).length) (((([] : List Int32)).map (fun c => c.toInt8.toInt32)).map Value.int) (.int 0) := (((S_22.2.2.2.1.other W_29 (ne_ad (by omega))).ext E_35).other W_58 (ne_ad (by omega)))
  exact k_ret0 hx hlk hret (hb hby d_jdk_42_m_149_26) (by decide) (by decide) ⟨a_10, k_11, rfl, (fun y q => (hbs_54 y q).imp id (fun t => ⟨t.1, Nat.lt_of_lt_of_le t.2 (by omega)⟩)), (((((Keep.refl _ _).ext E_7).wr W_29 (Or.inl (by simp))).ext E_35).wr W_58 (Or.inl (by simp))), ⟨F_61, (F_55.same W_58), F_62, F_63, (fun _ q => nomatch q), by decide⟩⟩
def Q_es1 (Z : State) (G1 : Int32) (G3 : Value) (e0 e1 e2 e3 e4 sy0 sy1 sy2 sy3 sy4 ty0 ty1 ty2 ty3 ty4 vv : Addr) (ky0 ky1 ky2 ky3 ky4 kv : ClassId) (x : Addr) (q : Addr) (kq : ClassId) (h0 : Heap) (n0 : Nat) (bk : Addr → Prop) (v : Option Value) (h : Heap) (bk' : Addr → Prop) : Prop := ∃ (t : Addr), ∃ (kb : ClassId), v = none ∧ (∀ y, bk' y → bk y ∨ (@LE.le Nat _ (Array.size h0) y ∧ @LT.lt Nat _ y (Array.size h))) ∧ Keep h0 h [x] ∧ (StrL Z h x t kb ([] : List Int32))
theorem d_jdk_42_m_3_0 : decode jdk_42_method_3_code 0 = .ok (.aload_n 0, 1) := by decide +kernel
theorem d_jdk_42_m_3_1 : decode jdk_42_method_3_code 1 = .ok (.aload_n 1, 1) := by decide +kernel
theorem d_jdk_42_m_3_2 : decode jdk_42_method_3_code 2 = .ok (.iconst 0, 1) := by decide +kernel
theorem d_jdk_42_m_3_3 : decode jdk_42_method_3_code 3 = .ok (.aload_n 1, 1) := by decide +kernel
theorem d_jdk_42_m_3_4 : decode jdk_42_method_3_code 4 = .ok (.arraylength, 1) := by decide +kernel
theorem d_jdk_42_m_3_5 : decode jdk_42_method_3_code 5 = .ok (.aconst_null, 1) := by decide +kernel
theorem d_jdk_42_m_3_6 : decode jdk_42_method_3_code 6 = .ok (.invokespecial 27, 3) := by decide +kernel
theorem pd__28__5b_CIILjava_2f_lang_2f_Void_3b__29_V : parseMethodDescriptor "([CIILjava/lang/Void;)V" = some ⟨[(.array .char), .int, .int, (.object "java/lang/Void")], none⟩ := by decide +kernel
theorem d_jdk_42_m_3_9 : decode jdk_42_method_3_code 9 = .ok (.return_, 1) := by decide +kernel
abbrev RM_es1 : Room := { frames := 2, cells := 4, slots := 8, locals := 29 }
theorem ef_es1 (m : MethodId) (x0 : Addr) (x1 : Addr) : entryFrame m #[(.ref x0), (.ref x1)] 2 = mkF m 0 #[.val (.ref x0), .val (.ref x1)] [] := by first | (simp [entryFrame, mkF, argsToLocals, Value.category]; done) | rfl
set_option maxRecDepth 65536 in
set_option maxHeartbeats 40000000 in
theorem rm_es1 (l : Launch) (Z : State) (a0 : Array Value) (G1 : Int32) (G3 : Value) (e0 e1 e2 e3 e4 sy0 sy1 sy2 sy3 sy4 ty0 ty1 ty2 ty3 ty4 vv : Addr) (ky0 ky1 ky2 ky3 ky4 kv : ClassId) (hX : Ctx Z a0 G1 G3) (hY : More Z e0 e1 e2 e3 e4 sy0 sy1 sy2 sy3 sy4 ty0 ty1 ty2 ty3 ty4 vv ky0 ky1 ky2 ky3 ky4 kv) (n0 : Nat) (bk : Addr → Prop) (h0 : Heap) (O0 : Old Z n0 h0) (x : Addr) (q : Addr) (kq : ClassId) (pf_0 : Exa Z h0 x "java/lang/String") (pf_1 : Fld Z h0 x "java/lang/String" "value" "[B" .null) (pf_2 : Fld Z h0 x "java/lang/String" "coder" "B" (.int (0 : Int32))) (hbl : ∀ y, bk y → @LT.lt Nat _ y (Array.size h0)) (nbx : ¬ bk x) (gx : n0 ≤ x) (pf_6 : Arv Z h0 q kq .char (0 : Int32) [] (.int (0 : Int32))) (ws : List Jvm.Cond) : Met l Z EL1 n0 bk (⟨"java/lang/String", "<init>", "([C)V"⟩ : MethodName) jdk_42_method_3_code 2 (Option.none : Option FieldType) RM_es1 #[(.ref x), (.ref q)] h0 (Q_es1 Z G1 G3 e0 e1 e2 e3 e4 sy0 sy1 sy2 sy3 sy4 ty0 ty1 ty2 ty3 ty4 vv ky0 ky1 ky2 ky3 ky4 kv x q kq h0 n0 bk) ws := by
  have hX' := hX
  obtain ⟨hw, hE, S1, P1, S3, P3⟩ := hX'
  have hY' := hY
  obtain ⟨sV, xV, aV, sE0, xE0, fE0, tE0, sE1, xE1, fE1, tE1, sE2, xE2, fE2, tE2, sE3, xE3, fE3, tE3, sE4, xE4, fE4, tE4⟩ := hY'
  have hSA := sa_of hw
  have z0 : n0 ≤ h0.size := by rw [← O0.1]; exact O0.2.1
  refine Met.of (by decide +kernel) O0 hE ?_
  intro p e s m below meth c hx hby hml hret hlk hnm
  refine k_cast (ef_es1 m x q) ?_
  show Run p l e _ s m _ below meth c Z EL1 _ n0 bk h0 0 0 (mkF m 0 #[.val (.ref x), .val (.ref q)] []) _
  have lt_1 : @LT.lt Nat _ x (Array.size h0) := pf_0.lt
  have lt_2 : @LT.lt Nat _ x (Array.size h0) := pf_1.lt
  have lt_3 : @LT.lt Nat _ x (Array.size h0) := pf_2.lt
  have lt_4 : @LT.lt Nat _ q (Array.size h0) := pf_6.lt
  refine k_pure (g' := (mkF m 1 #[.val (.ref x), .val (.ref q)] [(.ref x)])) (fun TT HH tt kk => XS.aloadN HH hx rfl (hb hby d_jdk_42_m_3_0) rfl rfl kk) ?_
  refine k_pure (g' := (mkF m 2 #[.val (.ref x), .val (.ref q)] [(.ref q), (.ref x)])) (fun TT HH tt kk => XS.aloadN HH hx rfl (hb hby d_jdk_42_m_3_1) rfl rfl kk) ?_
  refine k_pure (g' := (mkF m 3 #[.val (.ref x), .val (.ref q)] [(.int (0 : Int32)), (.ref q), (.ref x)])) (fun TT HH tt kk => XS.iconst HH hx rfl (hb hby d_jdk_42_m_3_2) kk) ?_
  refine k_pure (g' := (mkF m 4 #[.val (.ref x), .val (.ref q)] [(.ref q), (.int (0 : Int32)), (.ref q), (.ref x)])) (fun TT HH tt kk => XS.aloadN HH hx rfl (hb hby d_jdk_42_m_3_3) rfl rfl kk) ?_
  refine k_alen hx pf_6 rfl rfl (hb hby d_jdk_42_m_3_4) ?_
  show Run p l e _ s m _ below meth c Z EL1 _ n0 bk h0 0 0 (mkF m 5 #[.val (.ref x), .val (.ref q)] [(.int (0 : Int32)), (.int (0 : Int32)), (.ref q), (.ref x)]) _
  refine k_pure (g' := (mkF m 6 #[.val (.ref x), .val (.ref q)] [.null, (.int (0 : Int32)), (.int (0 : Int32)), (.ref q), (.ref x)])) (fun TT HH tt kk => XS.aconstNull HH hx rfl (hb hby d_jdk_42_m_3_5) kk) ?_
  refine k_callI hx (y := (⟨"java/lang/String", "<init>", "([CIILjava/lang/Void;)V"⟩ : MethodName)) rfl (hw _ (List.mem_of_getElem? (i := 14) rfl)) (hw _ (List.mem_of_getElem? (i := 15) rfl)) (hw _ (List.mem_of_getElem? (i := 17) rfl)) (by decide) (W := 0) (a := x) (argsL := [(.ref q), (.int (0 : Int32)), (.int (0 : Int32)), .null]) (rest := []) (Pays.of_met (rm_es2 l Z a0 G1 G3 e0 e1 e2 e3 e4 sy0 sy1 sy2 sy3 sy4 ty0 ty1 ty2 ty3 ty4 vv ky0 ky1 ky2 ky3 ky4 kv hX hY n0 bk h0 O0 x q pf_0 pf_1 pf_2 hbl nbx (by omega) []) (hw _ (List.mem_of_getElem? (i := 17) rfl)) (hw _ (List.mem_of_getElem? (i := 9) rfl)) (by decide) (by decide)) rfl (by rw [hml]; rfl) (lenOf pd__28__5b_CIILjava_2f_lang_2f_Void_3b__29_V rfl) rfl (by show 2 * 0 + _ ≤ _; exact Nat.le_of_eq rfl) (hb hby d_jdk_42_m_3_6) (by decide) (by decide) ?_
  intro v_5 h_6 bk_7 O_8 z_9 Q_10
  obtain ⟨a_11, k_12, rfl, hbk_13, K_14, F_15⟩ := Q_10
  have nb_16 : ¬ bk_7 x := fun q => (hbk_13 _ q).elim nbx (fun r => Nat.not_le_of_lt (show @LT.lt Nat _ x (Array.size h0) by omega) r.1)
  have hbl_17 : ∀ y, bk_7 y → @LT.lt Nat _ y (Array.size h_6) := fun y q => (hbk_13 y q).elim (fun r => Nat.lt_of_lt_of_le (hbl y r) (by omega)) (fun r => r.2)
  have hbs_18 : ∀ y, bk_7 y → bk y ∨ (@LE.le Nat _ (Array.size h0) y ∧ @LT.lt Nat _ y (Array.size h_6)) := fun y q => (hbk_13 y q).imp id (fun r => ⟨Nat.le_trans (by omega) r.1, r.2⟩)
  have lt_19 : @LT.lt Nat _ x (Array.size h_6) := F_15.lt1
  have lt_20 : @LT.lt Nat _ a_11 (Array.size h_6) := F_15.lt2
  show Run p l e _ s m _ below meth c Z EL1 _ n0 bk_7 h_6 4 8 (mkF m 9 #[.val (.ref x), .val (.ref q)] []) _
  exact k_ret0 hx hlk hret (hb hby d_jdk_42_m_3_9) (by decide) (by decide) ⟨a_11, k_12, rfl, (fun y q => (hbs_18 y q).imp id (fun t => ⟨t.1, Nat.lt_of_lt_of_le t.2 (by omega)⟩)), ((Keep.refl _ _).trans K_14 (kkS (Or.inl (by simp)) kk0)), F_15⟩
def Q_txt0 (Z : State) (G1 : Int32) (G3 : Value) (e0 e1 e2 e3 e4 sy0 sy1 sy2 sy3 sy4 ty0 ty1 ty2 ty3 ty4 vv : Addr) (ky0 ky1 ky2 ky3 ky4 kv : ClassId) (sh : Int32) (a : Int32) (b : Int32) (c1 : Int32) (h0 : Heap) (n0 : Nat) (bk : Addr → Prop) (v : Option Value) (h : Heap) (bk' : Addr → Prop) : Prop := v = some .null ∧ h0 = h ∧ bk = bk'
theorem d_m_4_0 : decode method_4_code 0 = .ok (.iload_n 0, 1) := by decide +kernel
theorem d_m_4_1 : decode method_4_code 1 = .ok (.bipush 7, 2) := by decide +kernel
theorem d_m_4_3 : decode method_4_code 3 = .ok (.iand, 1) := by decide +kernel
theorem d_m_4_4 : decode method_4_code 4 = .ok (.bipush 7, 2) := by decide +kernel
theorem d_m_4_6 : decode method_4_code 6 = .ok (.if_icmp .ne 5, 3) := by decide +kernel
theorem d_m_4_9 : decode method_4_code 9 = .ok (.aconst_null, 1) := by decide +kernel
theorem d_m_4_10 : decode method_4_code 10 = .ok (.areturn, 1) := by decide +kernel
abbrev RM_txt0 : Room := { frames := 0, cells := 0, slots := 0, locals := 0 }
theorem ef_txt0 (m : MethodId) (x0 : Int32) (x1 : Int32) (x2 : Int32) (x3 : Int32) : entryFrame m #[(.int x0), (.int x1), (.int x2), (.int x3)] 5 = mkF m 0 #[.val (.int x0), .val (.int x1), .val (.int x2), .val (.int x3), .unset] [] := by first | (simp [entryFrame, mkF, argsToLocals, Value.category]; done) | rfl
set_option maxRecDepth 65536 in
set_option maxHeartbeats 40000000 in
theorem rm_txt0 (l : Launch) (Z : State) (a0 : Array Value) (G1 : Int32) (G3 : Value) (e0 e1 e2 e3 e4 sy0 sy1 sy2 sy3 sy4 ty0 ty1 ty2 ty3 ty4 vv : Addr) (ky0 ky1 ky2 ky3 ky4 kv : ClassId) (hX : Ctx Z a0 G1 G3) (hY : More Z e0 e1 e2 e3 e4 sy0 sy1 sy2 sy3 sy4 ty0 ty1 ty2 ty3 ty4 vv ky0 ky1 ky2 ky3 ky4 kv) (n0 : Nat) (bk : Addr → Prop) (h0 : Heap) (O0 : Old Z n0 h0) (sh : Int32) (a : Int32) (b : Int32) (c1 : Int32) (h7 : (sh &&& (7 : Int32)) = (7 : Int32)) (ws : List Jvm.Cond) : Met l Z EL1 n0 bk (⟨"com/example/lean_entities/leanentities/session/OperatorOfSymbolPinLaw", "text", "(ICCC)Ljava/lang/String;"⟩ : MethodName) method_4_code 5 (Option.some (FieldType.object "java/lang/String")) RM_txt0 #[(.int sh), (.int a), (.int b), (.int c1)] h0 (Q_txt0 Z G1 G3 e0 e1 e2 e3 e4 sy0 sy1 sy2 sy3 sy4 ty0 ty1 ty2 ty3 ty4 vv ky0 ky1 ky2 ky3 ky4 kv sh a b c1 h0 n0 bk) ws := by
  have hX' := hX
  obtain ⟨hw, hE, S1, P1, S3, P3⟩ := hX'
  have hY' := hY
  obtain ⟨sV, xV, aV, sE0, xE0, fE0, tE0, sE1, xE1, fE1, tE1, sE2, xE2, fE2, tE2, sE3, xE3, fE3, tE3, sE4, xE4, fE4, tE4⟩ := hY'
  have hSA := sa_of hw
  have z0 : n0 ≤ h0.size := by rw [← O0.1]; exact O0.2.1
  refine Met.of (by decide +kernel) O0 hE ?_
  intro p e s m below meth c hx hby hml hret hlk hnm
  refine k_cast (ef_txt0 m sh a b c1) ?_
  show Run p l e _ s m _ below meth c Z EL1 _ n0 bk h0 0 0 (mkF m 0 #[.val (.int sh), .val (.int a), .val (.int b), .val (.int c1), .unset] []) _
  refine k_pure (g' := (mkF m 1 #[.val (.int sh), .val (.int a), .val (.int b), .val (.int c1), .unset] [(.int sh)])) (fun TT HH tt kk => XS.iloadN HH hx rfl (hb hby d_m_4_0) rfl kk) ?_
  refine k_pure (g' := (mkF m 3 #[.val (.int sh), .val (.int a), .val (.int b), .val (.int c1), .unset] [(.int (7 : Int32)), (.int sh)])) (fun TT HH tt kk => XS.bipush HH hx rfl (hb hby d_m_4_1) kk) ?_
  refine k_pure (g' := (mkF m 4 #[.val (.int sh), .val (.int a), .val (.int b), .val (.int c1), .unset] [(.int (sh &&& (7 : Int32)))])) (fun TT HH tt kk => XS.iand HH hx rfl (hb hby d_m_4_3) rfl kk) ?_
  refine k_pure (g' := (mkF m 6 #[.val (.int sh), .val (.int a), .val (.int b), .val (.int c1), .unset] [(.int (7 : Int32)), (.int (sh &&& (7 : Int32)))])) (fun TT HH tt kk => XS.bipush HH hx rfl (hb hby d_m_4_4) kk) ?_
  refine k_pure (g' := (mkF m 9 #[.val (.int sh), .val (.int a), .val (.int b), .val (.int c1), .unset] [])) (fun TT HH tt kk => XS.icmpNo HH hx rfl (hb hby d_m_4_6) rfl (teq h7).2 kk) ?_
  refine k_pure (g' := (mkF m 10 #[.val (.int sh), .val (.int a), .val (.int b), .val (.int c1), .unset] [.null])) (fun TT HH tt kk => XS.aconstNull HH hx rfl (hb hby d_m_4_9) kk) ?_
  exact k_retA hx hlk hret rfl rfl rfl (hb hby d_m_4_10) (by decide) (by decide) ⟨rfl, rfl, rfl⟩
def Q_txt1 (Z : State) (G1 : Int32) (G3 : Value) (e0 e1 e2 e3 e4 sy0 sy1 sy2 sy3 sy4 ty0 ty1 ty2 ty3 ty4 vv : Addr) (ky0 ky1 ky2 ky3 ky4 kv : ClassId) (sh : Int32) (a : Int32) (b : Int32) (c1 : Int32) (cs : List Int32) (h0 : Heap) (n0 : Nat) (bk : Addr → Prop) (v : Option Value) (h : Heap) (bk' : Addr → Prop) : Prop := ∃ (x : Addr), ∃ (t : Addr), ∃ (kb : ClassId), v = some (.ref x) ∧ (∀ y, bk' y → bk y ∨ (@LE.le Nat _ (Array.size h0) y ∧ @LT.lt Nat _ y (Array.size h))) ∧ Keep h0 h [] ∧ (StrL Z h x t kb cs)
theorem d_m_4_11 : decode method_4_code 11 = .ok (.iload_n 0, 1) := by decide +kernel
theorem d_m_4_12 : decode method_4_code 12 = .ok (.iconst 3, 1) := by decide +kernel
theorem d_m_4_13 : decode method_4_code 13 = .ok (.iand, 1) := by decide +kernel
theorem d_m_4_14 : decode method_4_code 14 = .ok (.istore 4, 2) := by decide +kernel
theorem d_m_4_16 : decode method_4_code 16 = .ok (.iload 4, 2) := by decide +kernel
theorem d_m_4_18 : decode method_4_code 18 = .ok (.ifCond .ne 14, 3) := by decide +kernel
theorem d_m_4_21 : decode method_4_code 21 = .ok (.new 27, 3) := by decide +kernel
theorem d_m_4_24 : decode method_4_code 24 = .ok (.dup, 1) := by decide +kernel
theorem d_m_4_25 : decode method_4_code 25 = .ok (.iconst 0, 1) := by decide +kernel
theorem d_m_4_26 : decode method_4_code 26 = .ok (.newarray .char, 2) := by decide +kernel
theorem d_m_4_28 : decode method_4_code 28 = .ok (.invokespecial 29, 3) := by decide +kernel
theorem pd__28__5b_C_29_V : parseMethodDescriptor "([C)V" = some ⟨[(.array .char)], none⟩ := by decide +kernel
theorem d_m_4_31 : decode method_4_code 31 = .ok (.areturn, 1) := by decide +kernel
theorem d_m_4_32 : decode method_4_code 32 = .ok (.iload 4, 2) := by decide +kernel
theorem d_m_4_34 : decode method_4_code 34 = .ok (.iconst 1, 1) := by decide +kernel
theorem d_m_4_35 : decode method_4_code 35 = .ok (.if_icmp .ne 18, 3) := by decide +kernel
theorem d_m_4_38 : decode method_4_code 38 = .ok (.new 27, 3) := by decide +kernel
theorem d_m_4_41 : decode method_4_code 41 = .ok (.dup, 1) := by decide +kernel
theorem d_m_4_42 : decode method_4_code 42 = .ok (.iconst 1, 1) := by decide +kernel
theorem d_m_4_43 : decode method_4_code 43 = .ok (.newarray .char, 2) := by decide +kernel
theorem d_m_4_45 : decode method_4_code 45 = .ok (.dup, 1) := by decide +kernel
theorem d_m_4_46 : decode method_4_code 46 = .ok (.iconst 0, 1) := by decide +kernel
theorem d_m_4_47 : decode method_4_code 47 = .ok (.iload_n 1, 1) := by decide +kernel
theorem d_m_4_48 : decode method_4_code 48 = .ok (.castore, 1) := by decide +kernel
theorem d_m_4_49 : decode method_4_code 49 = .ok (.invokespecial 29, 3) := by decide +kernel
theorem d_m_4_52 : decode method_4_code 52 = .ok (.areturn, 1) := by decide +kernel
theorem d_m_4_53 : decode method_4_code 53 = .ok (.iload 4, 2) := by decide +kernel
theorem d_m_4_55 : decode method_4_code 55 = .ok (.iconst 2, 1) := by decide +kernel
theorem d_m_4_56 : decode method_4_code 56 = .ok (.if_icmp .ne 22, 3) := by decide +kernel
theorem d_m_4_59 : decode method_4_code 59 = .ok (.new 27, 3) := by decide +kernel
theorem d_m_4_62 : decode method_4_code 62 = .ok (.dup, 1) := by decide +kernel
theorem d_m_4_63 : decode method_4_code 63 = .ok (.iconst 2, 1) := by decide +kernel
theorem d_m_4_64 : decode method_4_code 64 = .ok (.newarray .char, 2) := by decide +kernel
theorem d_m_4_66 : decode method_4_code 66 = .ok (.dup, 1) := by decide +kernel
theorem d_m_4_67 : decode method_4_code 67 = .ok (.iconst 0, 1) := by decide +kernel
theorem d_m_4_68 : decode method_4_code 68 = .ok (.iload_n 1, 1) := by decide +kernel
theorem d_m_4_69 : decode method_4_code 69 = .ok (.castore, 1) := by decide +kernel
theorem d_m_4_70 : decode method_4_code 70 = .ok (.dup, 1) := by decide +kernel
theorem d_m_4_71 : decode method_4_code 71 = .ok (.iconst 1, 1) := by decide +kernel
theorem d_m_4_72 : decode method_4_code 72 = .ok (.iload_n 2, 1) := by decide +kernel
theorem d_m_4_73 : decode method_4_code 73 = .ok (.castore, 1) := by decide +kernel
theorem d_m_4_74 : decode method_4_code 74 = .ok (.invokespecial 29, 3) := by decide +kernel
theorem d_m_4_77 : decode method_4_code 77 = .ok (.areturn, 1) := by decide +kernel
theorem d_m_4_78 : decode method_4_code 78 = .ok (.new 27, 3) := by decide +kernel
theorem d_m_4_81 : decode method_4_code 81 = .ok (.dup, 1) := by decide +kernel
theorem d_m_4_82 : decode method_4_code 82 = .ok (.iconst 3, 1) := by decide +kernel
theorem d_m_4_83 : decode method_4_code 83 = .ok (.newarray .char, 2) := by decide +kernel
theorem d_m_4_85 : decode method_4_code 85 = .ok (.dup, 1) := by decide +kernel
theorem d_m_4_86 : decode method_4_code 86 = .ok (.iconst 0, 1) := by decide +kernel
theorem d_m_4_87 : decode method_4_code 87 = .ok (.iload_n 1, 1) := by decide +kernel
theorem d_m_4_88 : decode method_4_code 88 = .ok (.castore, 1) := by decide +kernel
theorem d_m_4_89 : decode method_4_code 89 = .ok (.dup, 1) := by decide +kernel
theorem d_m_4_90 : decode method_4_code 90 = .ok (.iconst 1, 1) := by decide +kernel
theorem d_m_4_91 : decode method_4_code 91 = .ok (.iload_n 2, 1) := by decide +kernel
theorem d_m_4_92 : decode method_4_code 92 = .ok (.castore, 1) := by decide +kernel
theorem d_m_4_93 : decode method_4_code 93 = .ok (.dup, 1) := by decide +kernel
theorem d_m_4_94 : decode method_4_code 94 = .ok (.iconst 2, 1) := by decide +kernel
theorem d_m_4_95 : decode method_4_code 95 = .ok (.iload_n 3, 1) := by decide +kernel
theorem d_m_4_96 : decode method_4_code 96 = .ok (.castore, 1) := by decide +kernel
theorem d_m_4_97 : decode method_4_code 97 = .ok (.invokespecial 29, 3) := by decide +kernel
theorem d_m_4_100 : decode method_4_code 100 = .ok (.areturn, 1) := by decide +kernel
abbrev RM_txt1 : Room := { frames := 4, cells := 6, slots := 12, locals := 66 }
theorem ef_txt1 (m : MethodId) (x0 : Int32) (x1 : Int32) (x2 : Int32) (x3 : Int32) : entryFrame m #[(.int x0), (.int x1), (.int x2), (.int x3)] 5 = mkF m 0 #[.val (.int x0), .val (.int x1), .val (.int x2), .val (.int x3), .unset] [] := by first | (simp [entryFrame, mkF, argsToLocals, Value.category]; done) | rfl
set_option maxRecDepth 65536 in
set_option maxHeartbeats 40000000 in
theorem rm_txt1 (l : Launch) (Z : State) (a0 : Array Value) (G1 : Int32) (G3 : Value) (e0 e1 e2 e3 e4 sy0 sy1 sy2 sy3 sy4 ty0 ty1 ty2 ty3 ty4 vv : Addr) (ky0 ky1 ky2 ky3 ky4 kv : ClassId) (hX : Ctx Z a0 G1 G3) (hY : More Z e0 e1 e2 e3 e4 sy0 sy1 sy2 sy3 sy4 ty0 ty1 ty2 ty3 ty4 vv ky0 ky1 ky2 ky3 ky4 kv) (n0 : Nat) (bk : Addr → Prop) (h0 : Heap) (O0 : Old Z n0 h0) (sh : Int32) (a : Int32) (b : Int32) (c1 : Int32) (cs : List Int32) (hbl : ∀ y, bk y → @LT.lt Nat _ y (Array.size h0)) (h7 : ¬ (sh &&& (7 : Int32)) = (7 : Int32)) (tx : Txt (sh &&& (3 : Int32)) a b c1 cs) (ga : Dc a) (gb : Dc b) (gc : Dc c1) (ws : List Jvm.Cond) : Met l Z EL1 n0 bk (⟨"com/example/lean_entities/leanentities/session/OperatorOfSymbolPinLaw", "text", "(ICCC)Ljava/lang/String;"⟩ : MethodName) method_4_code 5 (Option.some (FieldType.object "java/lang/String")) RM_txt1 #[(.int sh), (.int a), (.int b), (.int c1)] h0 (Q_txt1 Z G1 G3 e0 e1 e2 e3 e4 sy0 sy1 sy2 sy3 sy4 ty0 ty1 ty2 ty3 ty4 vv ky0 ky1 ky2 ky3 ky4 kv sh a b c1 cs h0 n0 bk) ws := by
  have hX' := hX
  obtain ⟨hw, hE, S1, P1, S3, P3⟩ := hX'
  have hY' := hY
  obtain ⟨sV, xV, aV, sE0, xE0, fE0, tE0, sE1, xE1, fE1, tE1, sE2, xE2, fE2, tE2, sE3, xE3, fE3, tE3, sE4, xE4, fE4, tE4⟩ := hY'
  have hSA := sa_of hw
  have z0 : n0 ≤ h0.size := by rw [← O0.1]; exact O0.2.1
  refine Met.of (by decide +kernel) O0 hE ?_
  intro p e s m below meth c hx hby hml hret hlk hnm
  refine k_cast (ef_txt1 m sh a b c1) ?_
  show Run p l e _ s m _ below meth c Z EL1 _ n0 bk h0 0 0 (mkF m 0 #[.val (.int sh), .val (.int a), .val (.int b), .val (.int c1), .unset] []) _
  refine k_pure (g' := (mkF m 1 #[.val (.int sh), .val (.int a), .val (.int b), .val (.int c1), .unset] [(.int sh)])) (fun TT HH tt kk => XS.iloadN HH hx rfl (hb hby d_m_4_0) rfl kk) ?_
  refine k_pure (g' := (mkF m 3 #[.val (.int sh), .val (.int a), .val (.int b), .val (.int c1), .unset] [(.int (7 : Int32)), (.int sh)])) (fun TT HH tt kk => XS.bipush HH hx rfl (hb hby d_m_4_1) kk) ?_
  refine k_pure (g' := (mkF m 4 #[.val (.int sh), .val (.int a), .val (.int b), .val (.int c1), .unset] [(.int (sh &&& (7 : Int32)))])) (fun TT HH tt kk => XS.iand HH hx rfl (hb hby d_m_4_3) rfl kk) ?_
  refine k_pure (g' := (mkF m 6 #[.val (.int sh), .val (.int a), .val (.int b), .val (.int c1), .unset] [(.int (7 : Int32)), (.int (sh &&& (7 : Int32)))])) (fun TT HH tt kk => XS.bipush HH hx rfl (hb hby d_m_4_4) kk) ?_
  refine k_pure (g' := (mkF m 11 #[.val (.int sh), .val (.int a), .val (.int b), .val (.int c1), .unset] [])) (fun TT HH tt kk => XS.icmpYes HH hx rfl (pc0 := 6) (pc' := 11) rfl (hb hby d_m_4_6) rfl (feq h7).2 (by decide) (by decide) kk) ?_
  refine k_pure (g' := (mkF m 12 #[.val (.int sh), .val (.int a), .val (.int b), .val (.int c1), .unset] [(.int sh)])) (fun TT HH tt kk => XS.iloadN HH hx rfl (hb hby d_m_4_11) rfl kk) ?_
  refine k_pure (g' := (mkF m 13 #[.val (.int sh), .val (.int a), .val (.int b), .val (.int c1), .unset] [(.int (3 : Int32)), (.int sh)])) (fun TT HH tt kk => XS.iconst HH hx rfl (hb hby d_m_4_12) kk) ?_
  refine k_pure (g' := (mkF m 14 #[.val (.int sh), .val (.int a), .val (.int b), .val (.int c1), .unset] [(.int (sh &&& (3 : Int32)))])) (fun TT HH tt kk => XS.iand HH hx rfl (hb hby d_m_4_13) rfl kk) ?_
  refine k_pure (g' := (mkF m 16 #[.val (.int sh), .val (.int a), .val (.int b), .val (.int c1), .val (.int (sh &&& (3 : Int32)))] [])) (fun TT HH tt kk => XS.istore HH hx rfl (hb hby d_m_4_14) rfl (l' := #[.val (.int sh), .val (.int a), .val (.int b), .val (.int c1), .val (.int (sh &&& (3 : Int32)))]) rfl kk) ?_
  refine k_pure (g' := (mkF m 18 #[.val (.int sh), .val (.int a), .val (.int b), .val (.int c1), .val (.int (sh &&& (3 : Int32)))] [(.int (sh &&& (3 : Int32)))])) (fun TT HH tt kk => XS.iload HH hx rfl (hb hby d_m_4_16) rfl kk) ?_
  by_cases c_1 : (sh &&& (3 : Int32)) = (0 : Int32)
  · refine k_pure (g' := (mkF m 21 #[.val (.int sh), .val (.int a), .val (.int b), .val (.int c1), .val (.int (sh &&& (3 : Int32)))] [])) (fun TT HH tt kk => XS.ifNo HH hx rfl (hb hby d_m_4_18) rfl ((if0 _ _).trans (teq c_1).2) kk) ?_
    refine k_newO hx (hw _ (List.mem_of_getElem? (i := 7) rfl)) (hw _ (List.mem_of_getElem? (i := 8) rfl)) (hw _ (List.mem_of_getElem? (i := 9) rfl)) rfl (hb hby d_m_4_21) (by decide) (by decide) ?_
    intro h_3 a_2 g_9 O_4 E_5 A_6 D_7 U_8
    have z_10 := E_5.1
    have lt_11 : @LT.lt Nat _ a_2 (Array.size h_3) := A_6.lt
    have nb_12 : ¬ bk a_2 := fun q => Nat.not_le_of_lt (hbl _ q) (show @LE.le Nat _ (Array.size h0) a_2 by omega)
    show Run p l e _ s m _ below meth c Z EL1 _ n0 bk h_3 1 4 (mkF m 24 #[.val (.int sh), .val (.int a), .val (.int b), .val (.int c1), .val (.int (sh &&& (3 : Int32)))] [(.ref a_2)]) _
    refine k_pure (g' := (mkF m 25 #[.val (.int sh), .val (.int a), .val (.int b), .val (.int c1), .val (.int (sh &&& (3 : Int32)))] [(.ref a_2), (.ref a_2)])) (fun TT HH tt kk => XS.dup HH hx rfl (hb hby d_m_4_24) rfl rfl kk) ?_
    refine k_pure (g' := (mkF m 26 #[.val (.int sh), .val (.int a), .val (.int b), .val (.int c1), .val (.int (sh &&& (3 : Int32)))] [(.int (0 : Int32)), (.ref a_2), (.ref a_2)])) (fun TT HH tt kk => XS.iconst HH hx rfl (hb hby d_m_4_25) kk) ?_
    refine k_newP hx (hw _ (List.mem_of_getElem? (i := 10) rfl)) rfl (hb hby d_m_4_26) rfl (by decide) (cap := 0) (by decide) (by decide) (by decide) (by decide) "[C" (by decide +kernel) ?_
    intro h_14 a_13 k_15 g_16 O_17 E_18 A_19 X_20
    have z_21 := E_18.1
    have lt_22 : @LT.lt Nat _ a_13 (Array.size h_14) := A_19.lt
    have V_23 : Arv Z h_14 a_13 k_15 .char (0 : Int32) [] (.int (0 : Int32)) := Arv.pad A_19 (pad_rep [] (.int (0 : Int32)) 0)
    have hbl_24 : ∀ y, bk y → @LT.lt Nat _ y (Array.size h_3) := fun y q => Nat.lt_of_lt_of_le (hbl y q) (by omega)
    have nb_25 : ¬ bk a_13 := fun q => Nat.not_le_of_lt (hbl_24 _ q) (show @LE.le Nat _ (Array.size h_3) a_13 by omega)
    show Run p l e _ s m _ below meth c Z EL1 _ n0 bk h_14 2 4 (mkF m 28 #[.val (.int sh), .val (.int a), .val (.int b), .val (.int c1), .val (.int (sh &&& (3 : Int32)))] [(.ref a_13), (.ref a_2), (.ref a_2)]) _
    have F_26 : Exa Z h_14 a_2 "java/lang/String" := (A_6.ext E_18)
    have F_27 : Fld Z h_14 a_2 "java/lang/String" "value" "[B" .null := ((D_7 (Or.inr (hw _ (List.mem_of_getElem? (i := 23) rfl))) (ty := (.array .byte)) (by decide)).ext E_18)
    have F_28 : Fld Z h_14 a_2 "java/lang/String" "coder" "B" (.int (0 : Int32)) := ((D_7 (Or.inr (hw _ (List.mem_of_getElem? (i := 24) rfl))) (ty := .byte) (by decide)).ext E_18)
    have hbl_29 : ∀ y, bk y → @LT.lt Nat _ y (Array.size h_14) := fun y q => Nat.lt_of_lt_of_le (hbl_24 y q) (by omega)
    refine k_callI hx (y := (⟨"java/lang/String", "<init>", "([C)V"⟩ : MethodName)) rfl (hw _ (List.mem_of_getElem? (i := 11) rfl)) (hw _ (List.mem_of_getElem? (i := 12) rfl)) (hw _ (List.mem_of_getElem? (i := 13) rfl)) (by decide) (W := 1) (a := a_2) (argsL := [(.ref a_13)]) (rest := [(.ref a_2)]) (Pays.of_met (rm_es1 l Z a0 G1 G3 e0 e1 e2 e3 e4 sy0 sy1 sy2 sy3 sy4 ty0 ty1 ty2 ty3 ty4 vv ky0 ky1 ky2 ky3 ky4 kv hX hY n0 bk h_14 O_17 a_2 a_13 k_15 F_26 F_27 F_28 hbl_29 nb_12 (by omega) V_23 []) (hw _ (List.mem_of_getElem? (i := 13) rfl)) (hw _ (List.mem_of_getElem? (i := 9) rfl)) (by decide) (by decide)) rfl (by rw [hml]; rfl) (lenOf pd__28__5b_C_29_V rfl) rfl (by show 2 * 0 + _ ≤ _; exact Nat.le_of_eq rfl) (hb hby d_m_4_28) (by decide) (by decide) ?_
    intro v_30 h_31 bk_32 O_33 z_34 Q_35
    obtain ⟨a_36, k_37, rfl, hbk_38, K_39, F_40⟩ := Q_35
    have nb_41 : ¬ bk_32 a_2 := fun q => (hbk_38 _ q).elim nb_12 (fun r => Nat.not_le_of_lt (show @LT.lt Nat _ a_2 (Array.size h_14) by omega) r.1)
    have nb_42 : ¬ bk_32 a_13 := fun q => (hbk_38 _ q).elim nb_25 (fun r => Nat.not_le_of_lt (show @LT.lt Nat _ a_13 (Array.size h_14) by omega) r.1)
    have hbl_43 : ∀ y, bk_32 y → @LT.lt Nat _ y (Array.size h_31) := fun y q => (hbk_38 y q).elim (fun r => Nat.lt_of_lt_of_le (hbl_29 y r) (by omega)) (fun r => r.2)
    have hbs_44 : ∀ y, bk_32 y → bk y ∨ (@LE.le Nat _ (Array.size h0) y ∧ @LT.lt Nat _ y (Array.size h_31)) := fun y q => (hbk_38 y q).imp id (fun r => ⟨Nat.le_trans (by omega) r.1, r.2⟩)
    have lt_45 : @LT.lt Nat _ a_2 (Array.size h_31) := F_40.lt1
    have lt_46 : @LT.lt Nat _ a_36 (Array.size h_31) := F_40.lt2
    show Run p l e _ s m _ below meth c Z EL1 _ n0 bk_32 h_31 6 12 (mkF m 31 #[.val (.int sh), .val (.int a), .val (.int b), .val (.int c1), .val (.int (sh &&& (3 : Int32)))] [(.ref a_2)]) _
    exact k_retA hx hlk hret rfl rfl rfl (hb hby d_m_4_31) (by decide) (by decide) ⟨a_2, a_36, k_37, rfl, (fun y q => (hbs_44 y q).imp id (fun t => ⟨t.1, Nat.lt_of_lt_of_le t.2 (by omega)⟩)), ((((Keep.refl _ _).ext E_5).ext E_18).trans K_39 (kkS (Or.inr (by omega)) kk0)), (tx.t0 c_1) ▸ F_40⟩
  · refine k_pure (g' := (mkF m 32 #[.val (.int sh), .val (.int a), .val (.int b), .val (.int c1), .val (.int (sh &&& (3 : Int32)))] [])) (fun TT HH tt kk => XS.ifYes HH hx rfl (pc0 := 18) (pc' := 32) rfl (hb hby d_m_4_18) rfl ((if0 _ _).trans (feq c_1).2) (by decide) (by decide) kk) ?_
    refine k_pure (g' := (mkF m 34 #[.val (.int sh), .val (.int a), .val (.int b), .val (.int c1), .val (.int (sh &&& (3 : Int32)))] [(.int (sh &&& (3 : Int32)))])) (fun TT HH tt kk => XS.iload HH hx rfl (hb hby d_m_4_32) rfl kk) ?_
    refine k_pure (g' := (mkF m 35 #[.val (.int sh), .val (.int a), .val (.int b), .val (.int c1), .val (.int (sh &&& (3 : Int32)))] [(.int (1 : Int32)), (.int (sh &&& (3 : Int32)))])) (fun TT HH tt kk => XS.iconst HH hx rfl (hb hby d_m_4_34) kk) ?_
    by_cases c_47 : (sh &&& (3 : Int32)) = (1 : Int32)
    · refine k_pure (g' := (mkF m 38 #[.val (.int sh), .val (.int a), .val (.int b), .val (.int c1), .val (.int (sh &&& (3 : Int32)))] [])) (fun TT HH tt kk => XS.icmpNo HH hx rfl (hb hby d_m_4_35) rfl (teq c_47).2 kk) ?_
      refine k_newO hx (hw _ (List.mem_of_getElem? (i := 7) rfl)) (hw _ (List.mem_of_getElem? (i := 8) rfl)) (hw _ (List.mem_of_getElem? (i := 9) rfl)) rfl (hb hby d_m_4_38) (by decide) (by decide) ?_
      intro h_49 a_48 g_55 O_50 E_51 A_52 D_53 U_54
      have z_56 := E_51.1
      have lt_57 : @LT.lt Nat _ a_48 (Array.size h_49) := A_52.lt
      have nb_58 : ¬ bk a_48 := fun q => Nat.not_le_of_lt (hbl _ q) (show @LE.le Nat _ (Array.size h0) a_48 by omega)
      show Run p l e _ s m _ below meth c Z EL1 _ n0 bk h_49 1 4 (mkF m 41 #[.val (.int sh), .val (.int a), .val (.int b), .val (.int c1), .val (.int (sh &&& (3 : Int32)))] [(.ref a_48)]) _
      refine k_pure (g' := (mkF m 42 #[.val (.int sh), .val (.int a), .val (.int b), .val (.int c1), .val (.int (sh &&& (3 : Int32)))] [(.ref a_48), (.ref a_48)])) (fun TT HH tt kk => XS.dup HH hx rfl (hb hby d_m_4_41) rfl rfl kk) ?_
      refine k_pure (g' := (mkF m 43 #[.val (.int sh), .val (.int a), .val (.int b), .val (.int c1), .val (.int (sh &&& (3 : Int32)))] [(.int (1 : Int32)), (.ref a_48), (.ref a_48)])) (fun TT HH tt kk => XS.iconst HH hx rfl (hb hby d_m_4_42) kk) ?_
      refine k_newP hx (hw _ (List.mem_of_getElem? (i := 10) rfl)) rfl (hb hby d_m_4_43) rfl (by decide) (cap := 1) (by decide) (by decide) (by decide) (by decide) "[C" (by decide +kernel) ?_
      intro h_60 a_59 k_61 g_62 O_63 E_64 A_65 X_66
      have z_67 := E_64.1
      have lt_68 : @LT.lt Nat _ a_59 (Array.size h_60) := A_65.lt
      have V_69 : Arv Z h_60 a_59 k_61 .char (1 : Int32) [(.int (0 : Int32))] (.int (0 : Int32)) := Arv.pad A_65 (pad_rep [] (.int (0 : Int32)) 1)
      have hbl_70 : ∀ y, bk y → @LT.lt Nat _ y (Array.size h_49) := fun y q => Nat.lt_of_lt_of_le (hbl y q) (by omega)
      have nb_71 : ¬ bk a_59 := fun q => Nat.not_le_of_lt (hbl_70 _ q) (show @LE.le Nat _ (Array.size h_49) a_59 by omega)
      show Run p l e _ s m _ below meth c Z EL1 _ n0 bk h_60 2 5 (mkF m 45 #[.val (.int sh), .val (.int a), .val (.int b), .val (.int c1), .val (.int (sh &&& (3 : Int32)))] [(.ref a_59), (.ref a_48), (.ref a_48)]) _
      refine k_pure (g' := (mkF m 46 #[.val (.int sh), .val (.int a), .val (.int b), .val (.int c1), .val (.int (sh &&& (3 : Int32)))] [(.ref a_59), (.ref a_59), (.ref a_48), (.ref a_48)])) (fun TT HH tt kk => XS.dup HH hx rfl (hb hby d_m_4_45) rfl rfl kk) ?_
      refine k_pure (g' := (mkF m 47 #[.val (.int sh), .val (.int a), .val (.int b), .val (.int c1), .val (.int (sh &&& (3 : Int32)))] [(.int (0 : Int32)), (.ref a_59), (.ref a_59), (.ref a_48), (.ref a_48)])) (fun TT HH tt kk => XS.iconst HH hx rfl (hb hby d_m_4_46) kk) ?_
      refine k_pure (g' := (mkF m 48 #[.val (.int sh), .val (.int a), .val (.int b), .val (.int c1), .val (.int (sh &&& (3 : Int32)))] [(.int a), (.int (0 : Int32)), (.ref a_59), (.ref a_59), (.ref a_48), (.ref a_48)])) (fun TT HH tt kk => XS.iloadN HH hx rfl (hb hby d_m_4_47) rfl kk) ?_
      refine k_stC hx V_69 ⟨by decide, by decide⟩ 0 (by decide) (Nat.le_of_ble_eq_true rfl) (by omega) nb_71 rfl rfl (hb hby d_m_4_48) ?_
      intro h_72 O_73 W_74 A_75
      have z_76 := W_74.size
      have V_77 : Arv Z h_72 a_59 k_61 .char (1 : Int32) [(.int a)] (.int (0 : Int32)) := by rw [ga.nr] at A_75; exact A_75
      show Run p l e _ s m _ below meth c Z EL1 _ n0 bk h_72 2 5 (mkF m 49 #[.val (.int sh), .val (.int a), .val (.int b), .val (.int c1), .val (.int (sh &&& (3 : Int32)))] [(.ref a_59), (.ref a_48), (.ref a_48)]) _
      have F_78 : Exa Z h_72 a_48 "java/lang/String" := ((A_52.ext E_64).wr W_74)
      have F_79 : Fld Z h_72 a_48 "java/lang/String" "value" "[B" .null := (((D_53 (Or.inr (hw _ (List.mem_of_getElem? (i := 23) rfl))) (ty := (.array .byte)) (by decide)).ext E_64).other W_74 (Or.inl (ne_ad (by omega))))
      have F_80 : Fld Z h_72 a_48 "java/lang/String" "coder" "B" (.int (0 : Int32)) := (((D_53 (Or.inr (hw _ (List.mem_of_getElem? (i := 24) rfl))) (ty := .byte) (by decide)).ext E_64).other W_74 (Or.inl (ne_ad (by omega))))
      refine k_callI hx (y := (⟨"java/lang/String", "<init>", "([C)V"⟩ : MethodName)) rfl (hw _ (List.mem_of_getElem? (i := 11) rfl)) (hw _ (List.mem_of_getElem? (i := 12) rfl)) (hw _ (List.mem_of_getElem? (i := 13) rfl)) (by decide) (W := 1) (a := a_48) (argsL := [(.ref a_59)]) (rest := [(.ref a_48)]) (pay_new (W := 1) hX O_73 nb_58 (cs := [a]) F_78 F_79 F_80 V_77 1 rfl rfl (by decide) (by decide) (gd1 ga) (by omega) (by decide) (by decide)) rfl (by rw [hml]; rfl) (lenOf pd__28__5b_C_29_V rfl) rfl (by show 2 * 0 + _ ≤ _; exact Nat.le_of_eq rfl) (hb hby d_m_4_49) (by decide) (by decide) ?_
      intro v_81 h_82 bk_83 O_84 z_85 Q_86
      obtain ⟨rfl, rfl, K_87, a_88, k_89, ge_90, ge_91, S_92⟩ := Q_86
      have lt_93 : @LT.lt Nat _ a_48 (Array.size h_82) := S_92.lt1
      have lt_94 : @LT.lt Nat _ a_88 (Array.size h_82) := S_92.lt2
      show Run p l e _ s m _ below meth c Z EL1 _ n0 bk h_82 3 6 (mkF m 52 #[.val (.int sh), .val (.int a), .val (.int b), .val (.int c1), .val (.int (sh &&& (3 : Int32)))] [(.ref a_48)]) _
      exact k_retA hx hlk hret rfl rfl rfl (hb hby d_m_4_52) (by decide) (by decide) ⟨a_48, a_88, k_89, rfl, (fun y q => Or.inl q), (((((Keep.refl _ _).ext E_51).ext E_64).wr W_74 (Or.inr (by omega))).trans K_87 (kkS (Or.inr (by omega)) kk0)), (tx.t1 c_47) ▸ S_92⟩
    · refine k_pure (g' := (mkF m 53 #[.val (.int sh), .val (.int a), .val (.int b), .val (.int c1), .val (.int (sh &&& (3 : Int32)))] [])) (fun TT HH tt kk => XS.icmpYes HH hx rfl (pc0 := 35) (pc' := 53) rfl (hb hby d_m_4_35) rfl (feq c_47).2 (by decide) (by decide) kk) ?_
      refine k_pure (g' := (mkF m 55 #[.val (.int sh), .val (.int a), .val (.int b), .val (.int c1), .val (.int (sh &&& (3 : Int32)))] [(.int (sh &&& (3 : Int32)))])) (fun TT HH tt kk => XS.iload HH hx rfl (hb hby d_m_4_53) rfl kk) ?_
      refine k_pure (g' := (mkF m 56 #[.val (.int sh), .val (.int a), .val (.int b), .val (.int c1), .val (.int (sh &&& (3 : Int32)))] [(.int (2 : Int32)), (.int (sh &&& (3 : Int32)))])) (fun TT HH tt kk => XS.iconst HH hx rfl (hb hby d_m_4_55) kk) ?_
      by_cases c_95 : (sh &&& (3 : Int32)) = (2 : Int32)
      · refine k_pure (g' := (mkF m 59 #[.val (.int sh), .val (.int a), .val (.int b), .val (.int c1), .val (.int (sh &&& (3 : Int32)))] [])) (fun TT HH tt kk => XS.icmpNo HH hx rfl (hb hby d_m_4_56) rfl (teq c_95).2 kk) ?_
        refine k_newO hx (hw _ (List.mem_of_getElem? (i := 7) rfl)) (hw _ (List.mem_of_getElem? (i := 8) rfl)) (hw _ (List.mem_of_getElem? (i := 9) rfl)) rfl (hb hby d_m_4_59) (by decide) (by decide) ?_
        intro h_97 a_96 g_103 O_98 E_99 A_100 D_101 U_102
        have z_104 := E_99.1
        have lt_105 : @LT.lt Nat _ a_96 (Array.size h_97) := A_100.lt
        have nb_106 : ¬ bk a_96 := fun q => Nat.not_le_of_lt (hbl _ q) (show @LE.le Nat _ (Array.size h0) a_96 by omega)
        show Run p l e _ s m _ below meth c Z EL1 _ n0 bk h_97 1 4 (mkF m 62 #[.val (.int sh), .val (.int a), .val (.int b), .val (.int c1), .val (.int (sh &&& (3 : Int32)))] [(.ref a_96)]) _
        refine k_pure (g' := (mkF m 63 #[.val (.int sh), .val (.int a), .val (.int b), .val (.int c1), .val (.int (sh &&& (3 : Int32)))] [(.ref a_96), (.ref a_96)])) (fun TT HH tt kk => XS.dup HH hx rfl (hb hby d_m_4_62) rfl rfl kk) ?_
        refine k_pure (g' := (mkF m 64 #[.val (.int sh), .val (.int a), .val (.int b), .val (.int c1), .val (.int (sh &&& (3 : Int32)))] [(.int (2 : Int32)), (.ref a_96), (.ref a_96)])) (fun TT HH tt kk => XS.iconst HH hx rfl (hb hby d_m_4_63) kk) ?_
        refine k_newP hx (hw _ (List.mem_of_getElem? (i := 10) rfl)) rfl (hb hby d_m_4_64) rfl (by decide) (cap := 2) (by decide) (by decide) (by decide) (by decide) "[C" (by decide +kernel) ?_
        intro h_108 a_107 k_109 g_110 O_111 E_112 A_113 X_114
        have z_115 := E_112.1
        have lt_116 : @LT.lt Nat _ a_107 (Array.size h_108) := A_113.lt
        have V_117 : Arv Z h_108 a_107 k_109 .char (2 : Int32) [(.int (0 : Int32)), (.int (0 : Int32))] (.int (0 : Int32)) := Arv.pad A_113 (pad_rep [] (.int (0 : Int32)) 2)
        have hbl_118 : ∀ y, bk y → @LT.lt Nat _ y (Array.size h_97) := fun y q => Nat.lt_of_lt_of_le (hbl y q) (by omega)
        have nb_119 : ¬ bk a_107 := fun q => Nat.not_le_of_lt (hbl_118 _ q) (show @LE.le Nat _ (Array.size h_97) a_107 by omega)
        show Run p l e _ s m _ below meth c Z EL1 _ n0 bk h_108 2 6 (mkF m 66 #[.val (.int sh), .val (.int a), .val (.int b), .val (.int c1), .val (.int (sh &&& (3 : Int32)))] [(.ref a_107), (.ref a_96), (.ref a_96)]) _
        refine k_pure (g' := (mkF m 67 #[.val (.int sh), .val (.int a), .val (.int b), .val (.int c1), .val (.int (sh &&& (3 : Int32)))] [(.ref a_107), (.ref a_107), (.ref a_96), (.ref a_96)])) (fun TT HH tt kk => XS.dup HH hx rfl (hb hby d_m_4_66) rfl rfl kk) ?_
        refine k_pure (g' := (mkF m 68 #[.val (.int sh), .val (.int a), .val (.int b), .val (.int c1), .val (.int (sh &&& (3 : Int32)))] [(.int (0 : Int32)), (.ref a_107), (.ref a_107), (.ref a_96), (.ref a_96)])) (fun TT HH tt kk => XS.iconst HH hx rfl (hb hby d_m_4_67) kk) ?_
        refine k_pure (g' := (mkF m 69 #[.val (.int sh), .val (.int a), .val (.int b), .val (.int c1), .val (.int (sh &&& (3 : Int32)))] [(.int a), (.int (0 : Int32)), (.ref a_107), (.ref a_107), (.ref a_96), (.ref a_96)])) (fun TT HH tt kk => XS.iloadN HH hx rfl (hb hby d_m_4_68) rfl kk) ?_
        refine k_stC hx V_117 ⟨by decide, by decide⟩ 0 (by decide) (Nat.le_of_ble_eq_true rfl) (by omega) nb_119 rfl rfl (hb hby d_m_4_69) ?_
        intro h_120 O_121 W_122 A_123
        have z_124 := W_122.size
        have V_125 : Arv Z h_120 a_107 k_109 .char (2 : Int32) [(.int a), (.int (0 : Int32))] (.int (0 : Int32)) := by rw [ga.nr] at A_123; exact A_123
        show Run p l e _ s m _ below meth c Z EL1 _ n0 bk h_120 2 6 (mkF m 70 #[.val (.int sh), .val (.int a), .val (.int b), .val (.int c1), .val (.int (sh &&& (3 : Int32)))] [(.ref a_107), (.ref a_96), (.ref a_96)]) _
        refine k_pure (g' := (mkF m 71 #[.val (.int sh), .val (.int a), .val (.int b), .val (.int c1), .val (.int (sh &&& (3 : Int32)))] [(.ref a_107), (.ref a_107), (.ref a_96), (.ref a_96)])) (fun TT HH tt kk => XS.dup HH hx rfl (hb hby d_m_4_70) rfl rfl kk) ?_
        refine k_pure (g' := (mkF m 72 #[.val (.int sh), .val (.int a), .val (.int b), .val (.int c1), .val (.int (sh &&& (3 : Int32)))] [(.int (1 : Int32)), (.ref a_107), (.ref a_107), (.ref a_96), (.ref a_96)])) (fun TT HH tt kk => XS.iconst HH hx rfl (hb hby d_m_4_71) kk) ?_
        refine k_pure (g' := (mkF m 73 #[.val (.int sh), .val (.int a), .val (.int b), .val (.int c1), .val (.int (sh &&& (3 : Int32)))] [(.int b), (.int (1 : Int32)), (.ref a_107), (.ref a_107), (.ref a_96), (.ref a_96)])) (fun TT HH tt kk => XS.iloadN HH hx rfl (hb hby d_m_4_72) rfl kk) ?_
        refine k_stC hx V_125 ⟨by decide, by decide⟩ 1 (by decide) (Nat.le_of_ble_eq_true rfl) (by omega) nb_119 rfl rfl (hb hby d_m_4_73) ?_
        intro h_126 O_127 W_128 A_129
        have z_130 := W_128.size
        have V_131 : Arv Z h_126 a_107 k_109 .char (2 : Int32) [(.int a), (.int b)] (.int (0 : Int32)) := by rw [gb.nr] at A_129; exact A_129
        show Run p l e _ s m _ below meth c Z EL1 _ n0 bk h_126 2 6 (mkF m 74 #[.val (.int sh), .val (.int a), .val (.int b), .val (.int c1), .val (.int (sh &&& (3 : Int32)))] [(.ref a_107), (.ref a_96), (.ref a_96)]) _
        have F_132 : Exa Z h_126 a_96 "java/lang/String" := (((A_100.ext E_112).wr W_122).wr W_128)
        have F_133 : Fld Z h_126 a_96 "java/lang/String" "value" "[B" .null := ((((D_101 (Or.inr (hw _ (List.mem_of_getElem? (i := 23) rfl))) (ty := (.array .byte)) (by decide)).ext E_112).other W_122 (Or.inl (ne_ad (by omega)))).other W_128 (Or.inl (ne_ad (by omega))))
        have F_134 : Fld Z h_126 a_96 "java/lang/String" "coder" "B" (.int (0 : Int32)) := ((((D_101 (Or.inr (hw _ (List.mem_of_getElem? (i := 24) rfl))) (ty := .byte) (by decide)).ext E_112).other W_122 (Or.inl (ne_ad (by omega)))).other W_128 (Or.inl (ne_ad (by omega))))
        refine k_callI hx (y := (⟨"java/lang/String", "<init>", "([C)V"⟩ : MethodName)) rfl (hw _ (List.mem_of_getElem? (i := 11) rfl)) (hw _ (List.mem_of_getElem? (i := 12) rfl)) (hw _ (List.mem_of_getElem? (i := 13) rfl)) (by decide) (W := 1) (a := a_96) (argsL := [(.ref a_107)]) (rest := [(.ref a_96)]) (pay_new (W := 1) hX O_127 nb_106 (cs := [a, b]) F_132 F_133 F_134 V_131 2 rfl rfl (by decide) (by decide) (gd2 ga gb) (by omega) (by decide) (by decide)) rfl (by rw [hml]; rfl) (lenOf pd__28__5b_C_29_V rfl) rfl (by show 2 * 0 + _ ≤ _; exact Nat.le_of_eq rfl) (hb hby d_m_4_74) (by decide) (by decide) ?_
        intro v_135 h_136 bk_137 O_138 z_139 Q_140
        obtain ⟨rfl, rfl, K_141, a_142, k_143, ge_144, ge_145, S_146⟩ := Q_140
        have lt_147 : @LT.lt Nat _ a_96 (Array.size h_136) := S_146.lt1
        have lt_148 : @LT.lt Nat _ a_142 (Array.size h_136) := S_146.lt2
        show Run p l e _ s m _ below meth c Z EL1 _ n0 bk h_136 3 8 (mkF m 77 #[.val (.int sh), .val (.int a), .val (.int b), .val (.int c1), .val (.int (sh &&& (3 : Int32)))] [(.ref a_96)]) _
        exact k_retA hx hlk hret rfl rfl rfl (hb hby d_m_4_77) (by decide) (by decide) ⟨a_96, a_142, k_143, rfl, (fun y q => Or.inl q), ((((((Keep.refl _ _).ext E_99).ext E_112).wr W_122 (Or.inr (by omega))).wr W_128 (Or.inr (by omega))).trans K_141 (kkS (Or.inr (by omega)) kk0)), (tx.t2 c_95) ▸ S_146⟩
      · refine k_pure (g' := (mkF m 78 #[.val (.int sh), .val (.int a), .val (.int b), .val (.int c1), .val (.int (sh &&& (3 : Int32)))] [])) (fun TT HH tt kk => XS.icmpYes HH hx rfl (pc0 := 56) (pc' := 78) rfl (hb hby d_m_4_56) rfl (feq c_95).2 (by decide) (by decide) kk) ?_
        refine k_newO hx (hw _ (List.mem_of_getElem? (i := 7) rfl)) (hw _ (List.mem_of_getElem? (i := 8) rfl)) (hw _ (List.mem_of_getElem? (i := 9) rfl)) rfl (hb hby d_m_4_78) (by decide) (by decide) ?_
        intro h_150 a_149 g_156 O_151 E_152 A_153 D_154 U_155
        have z_157 := E_152.1
        have lt_158 : @LT.lt Nat _ a_149 (Array.size h_150) := A_153.lt
        have nb_159 : ¬ bk a_149 := fun q => Nat.not_le_of_lt (hbl _ q) (show @LE.le Nat _ (Array.size h0) a_149 by omega)
        show Run p l e _ s m _ below meth c Z EL1 _ n0 bk h_150 1 4 (mkF m 81 #[.val (.int sh), .val (.int a), .val (.int b), .val (.int c1), .val (.int (sh &&& (3 : Int32)))] [(.ref a_149)]) _
        refine k_pure (g' := (mkF m 82 #[.val (.int sh), .val (.int a), .val (.int b), .val (.int c1), .val (.int (sh &&& (3 : Int32)))] [(.ref a_149), (.ref a_149)])) (fun TT HH tt kk => XS.dup HH hx rfl (hb hby d_m_4_81) rfl rfl kk) ?_
        refine k_pure (g' := (mkF m 83 #[.val (.int sh), .val (.int a), .val (.int b), .val (.int c1), .val (.int (sh &&& (3 : Int32)))] [(.int (3 : Int32)), (.ref a_149), (.ref a_149)])) (fun TT HH tt kk => XS.iconst HH hx rfl (hb hby d_m_4_82) kk) ?_
        refine k_newP hx (hw _ (List.mem_of_getElem? (i := 10) rfl)) rfl (hb hby d_m_4_83) rfl (by decide) (cap := 3) (by decide) (by decide) (by decide) (by decide) "[C" (by decide +kernel) ?_
        intro h_161 a_160 k_162 g_163 O_164 E_165 A_166 X_167
        have z_168 := E_165.1
        have lt_169 : @LT.lt Nat _ a_160 (Array.size h_161) := A_166.lt
        have V_170 : Arv Z h_161 a_160 k_162 .char (3 : Int32) [(.int (0 : Int32)), (.int (0 : Int32)), (.int (0 : Int32))] (.int (0 : Int32)) := Arv.pad A_166 (pad_rep [] (.int (0 : Int32)) 3)
        have hbl_171 : ∀ y, bk y → @LT.lt Nat _ y (Array.size h_150) := fun y q => Nat.lt_of_lt_of_le (hbl y q) (by omega)
        have nb_172 : ¬ bk a_160 := fun q => Nat.not_le_of_lt (hbl_171 _ q) (show @LE.le Nat _ (Array.size h_150) a_160 by omega)
        show Run p l e _ s m _ below meth c Z EL1 _ n0 bk h_161 2 7 (mkF m 85 #[.val (.int sh), .val (.int a), .val (.int b), .val (.int c1), .val (.int (sh &&& (3 : Int32)))] [(.ref a_160), (.ref a_149), (.ref a_149)]) _
        refine k_pure (g' := (mkF m 86 #[.val (.int sh), .val (.int a), .val (.int b), .val (.int c1), .val (.int (sh &&& (3 : Int32)))] [(.ref a_160), (.ref a_160), (.ref a_149), (.ref a_149)])) (fun TT HH tt kk => XS.dup HH hx rfl (hb hby d_m_4_85) rfl rfl kk) ?_
        refine k_pure (g' := (mkF m 87 #[.val (.int sh), .val (.int a), .val (.int b), .val (.int c1), .val (.int (sh &&& (3 : Int32)))] [(.int (0 : Int32)), (.ref a_160), (.ref a_160), (.ref a_149), (.ref a_149)])) (fun TT HH tt kk => XS.iconst HH hx rfl (hb hby d_m_4_86) kk) ?_
        refine k_pure (g' := (mkF m 88 #[.val (.int sh), .val (.int a), .val (.int b), .val (.int c1), .val (.int (sh &&& (3 : Int32)))] [(.int a), (.int (0 : Int32)), (.ref a_160), (.ref a_160), (.ref a_149), (.ref a_149)])) (fun TT HH tt kk => XS.iloadN HH hx rfl (hb hby d_m_4_87) rfl kk) ?_
        refine k_stC hx V_170 ⟨by decide, by decide⟩ 0 (by decide) (Nat.le_of_ble_eq_true rfl) (by omega) nb_172 rfl rfl (hb hby d_m_4_88) ?_
        intro h_173 O_174 W_175 A_176
        have z_177 := W_175.size
        have V_178 : Arv Z h_173 a_160 k_162 .char (3 : Int32) [(.int a), (.int (0 : Int32)), (.int (0 : Int32))] (.int (0 : Int32)) := by rw [ga.nr] at A_176; exact A_176
        show Run p l e _ s m _ below meth c Z EL1 _ n0 bk h_173 2 7 (mkF m 89 #[.val (.int sh), .val (.int a), .val (.int b), .val (.int c1), .val (.int (sh &&& (3 : Int32)))] [(.ref a_160), (.ref a_149), (.ref a_149)]) _
        refine k_pure (g' := (mkF m 90 #[.val (.int sh), .val (.int a), .val (.int b), .val (.int c1), .val (.int (sh &&& (3 : Int32)))] [(.ref a_160), (.ref a_160), (.ref a_149), (.ref a_149)])) (fun TT HH tt kk => XS.dup HH hx rfl (hb hby d_m_4_89) rfl rfl kk) ?_
        refine k_pure (g' := (mkF m 91 #[.val (.int sh), .val (.int a), .val (.int b), .val (.int c1), .val (.int (sh &&& (3 : Int32)))] [(.int (1 : Int32)), (.ref a_160), (.ref a_160), (.ref a_149), (.ref a_149)])) (fun TT HH tt kk => XS.iconst HH hx rfl (hb hby d_m_4_90) kk) ?_
        refine k_pure (g' := (mkF m 92 #[.val (.int sh), .val (.int a), .val (.int b), .val (.int c1), .val (.int (sh &&& (3 : Int32)))] [(.int b), (.int (1 : Int32)), (.ref a_160), (.ref a_160), (.ref a_149), (.ref a_149)])) (fun TT HH tt kk => XS.iloadN HH hx rfl (hb hby d_m_4_91) rfl kk) ?_
        refine k_stC hx V_178 ⟨by decide, by decide⟩ 1 (by decide) (Nat.le_of_ble_eq_true rfl) (by omega) nb_172 rfl rfl (hb hby d_m_4_92) ?_
        intro h_179 O_180 W_181 A_182
        have z_183 := W_181.size
        have V_184 : Arv Z h_179 a_160 k_162 .char (3 : Int32) [(.int a), (.int b), (.int (0 : Int32))] (.int (0 : Int32)) := by rw [gb.nr] at A_182; exact A_182
        show Run p l e _ s m _ below meth c Z EL1 _ n0 bk h_179 2 7 (mkF m 93 #[.val (.int sh), .val (.int a), .val (.int b), .val (.int c1), .val (.int (sh &&& (3 : Int32)))] [(.ref a_160), (.ref a_149), (.ref a_149)]) _
        refine k_pure (g' := (mkF m 94 #[.val (.int sh), .val (.int a), .val (.int b), .val (.int c1), .val (.int (sh &&& (3 : Int32)))] [(.ref a_160), (.ref a_160), (.ref a_149), (.ref a_149)])) (fun TT HH tt kk => XS.dup HH hx rfl (hb hby d_m_4_93) rfl rfl kk) ?_
        refine k_pure (g' := (mkF m 95 #[.val (.int sh), .val (.int a), .val (.int b), .val (.int c1), .val (.int (sh &&& (3 : Int32)))] [(.int (2 : Int32)), (.ref a_160), (.ref a_160), (.ref a_149), (.ref a_149)])) (fun TT HH tt kk => XS.iconst HH hx rfl (hb hby d_m_4_94) kk) ?_
        refine k_pure (g' := (mkF m 96 #[.val (.int sh), .val (.int a), .val (.int b), .val (.int c1), .val (.int (sh &&& (3 : Int32)))] [(.int c1), (.int (2 : Int32)), (.ref a_160), (.ref a_160), (.ref a_149), (.ref a_149)])) (fun TT HH tt kk => XS.iloadN HH hx rfl (hb hby d_m_4_95) rfl kk) ?_
        refine k_stC hx V_184 ⟨by decide, by decide⟩ 2 (by decide) (Nat.le_of_ble_eq_true rfl) (by omega) nb_172 rfl rfl (hb hby d_m_4_96) ?_
        intro h_185 O_186 W_187 A_188
        have z_189 := W_187.size
        have V_190 : Arv Z h_185 a_160 k_162 .char (3 : Int32) [(.int a), (.int b), (.int c1)] (.int (0 : Int32)) := by rw [gc.nr] at A_188; exact A_188
        show Run p l e _ s m _ below meth c Z EL1 _ n0 bk h_185 2 7 (mkF m 97 #[.val (.int sh), .val (.int a), .val (.int b), .val (.int c1), .val (.int (sh &&& (3 : Int32)))] [(.ref a_160), (.ref a_149), (.ref a_149)]) _
        have F_191 : Exa Z h_185 a_149 "java/lang/String" := ((((A_153.ext E_165).wr W_175).wr W_181).wr W_187)
        have F_192 : Fld Z h_185 a_149 "java/lang/String" "value" "[B" .null := (((((D_154 (Or.inr (hw _ (List.mem_of_getElem? (i := 23) rfl))) (ty := (.array .byte)) (by decide)).ext E_165).other W_175 (Or.inl (ne_ad (by omega)))).other W_181 (Or.inl (ne_ad (by omega)))).other W_187 (Or.inl (ne_ad (by omega))))
        have F_193 : Fld Z h_185 a_149 "java/lang/String" "coder" "B" (.int (0 : Int32)) := (((((D_154 (Or.inr (hw _ (List.mem_of_getElem? (i := 24) rfl))) (ty := .byte) (by decide)).ext E_165).other W_175 (Or.inl (ne_ad (by omega)))).other W_181 (Or.inl (ne_ad (by omega)))).other W_187 (Or.inl (ne_ad (by omega))))
        refine k_callI hx (y := (⟨"java/lang/String", "<init>", "([C)V"⟩ : MethodName)) rfl (hw _ (List.mem_of_getElem? (i := 11) rfl)) (hw _ (List.mem_of_getElem? (i := 12) rfl)) (hw _ (List.mem_of_getElem? (i := 13) rfl)) (by decide) (W := 1) (a := a_149) (argsL := [(.ref a_160)]) (rest := [(.ref a_149)]) (pay_new (W := 1) hX O_186 nb_159 (cs := [a, b, c1]) F_191 F_192 F_193 V_190 3 rfl rfl (by decide) (by decide) (gd3 ga gb gc) (by omega) (by decide) (by decide)) rfl (by rw [hml]; rfl) (lenOf pd__28__5b_C_29_V rfl) rfl (by show 2 * 0 + _ ≤ _; exact Nat.le_of_eq rfl) (hb hby d_m_4_97) (by decide) (by decide) ?_
        intro v_194 h_195 bk_196 O_197 z_198 Q_199
        obtain ⟨rfl, rfl, K_200, a_201, k_202, ge_203, ge_204, S_205⟩ := Q_199
        have lt_206 : @LT.lt Nat _ a_149 (Array.size h_195) := S_205.lt1
        have lt_207 : @LT.lt Nat _ a_201 (Array.size h_195) := S_205.lt2
        show Run p l e _ s m _ below meth c Z EL1 _ n0 bk h_195 3 10 (mkF m 100 #[.val (.int sh), .val (.int a), .val (.int b), .val (.int c1), .val (.int (sh &&& (3 : Int32)))] [(.ref a_149)]) _
        exact k_retA hx hlk hret rfl rfl rfl (hb hby d_m_4_100) (by decide) (by decide) ⟨a_149, a_201, k_202, rfl, (fun y q => Or.inl q), (((((((Keep.refl _ _).ext E_152).ext E_165).wr W_175 (Or.inr (by omega))).wr W_181 (Or.inr (by omega))).wr W_187 (Or.inr (by omega))).trans K_200 (kkS (Or.inr (by omega)) kk0)), (tx.t3 c_1 c_47 c_95) ▸ S_205⟩
def Q_exp0 (Z : State) (G1 : Int32) (G3 : Value) (e0 e1 e2 e3 e4 sy0 sy1 sy2 sy3 sy4 ty0 ty1 ty2 ty3 ty4 vv : Addr) (ky0 ky1 ky2 ky3 ky4 kv : ClassId) (sh : Int32) (a : Int32) (b : Int32) (h0 : Heap) (n0 : Nat) (bk : Addr → Prop) (v : Option Value) (h : Heap) (bk' : Addr → Prop) : Prop := v = some .null ∧ h0 = h ∧ bk = bk'
theorem d_m_5_0 : decode method_5_code 0 = .ok (.iload_n 0, 1) := by decide +kernel
theorem d_m_5_1 : decode method_5_code 1 = .ok (.bipush 7, 2) := by decide +kernel
theorem d_m_5_3 : decode method_5_code 3 = .ok (.iand, 1) := by decide +kernel
theorem d_m_5_4 : decode method_5_code 4 = .ok (.bipush 7, 2) := by decide +kernel
theorem d_m_5_6 : decode method_5_code 6 = .ok (.if_icmp .ne 5, 3) := by decide +kernel
theorem d_m_5_9 : decode method_5_code 9 = .ok (.aconst_null, 1) := by decide +kernel
theorem d_m_5_10 : decode method_5_code 10 = .ok (.areturn, 1) := by decide +kernel
abbrev RM_exp0 : Room := { frames := 0, cells := 0, slots := 0, locals := 0 }
theorem ef_exp0 (m : MethodId) (x0 : Int32) (x1 : Int32) (x2 : Int32) : entryFrame m #[(.int x0), (.int x1), (.int x2)] 4 = mkF m 0 #[.val (.int x0), .val (.int x1), .val (.int x2), .unset] [] := by first | (simp [entryFrame, mkF, argsToLocals, Value.category]; done) | rfl
set_option maxRecDepth 65536 in
set_option maxHeartbeats 40000000 in
theorem rm_exp0 (l : Launch) (Z : State) (a0 : Array Value) (G1 : Int32) (G3 : Value) (e0 e1 e2 e3 e4 sy0 sy1 sy2 sy3 sy4 ty0 ty1 ty2 ty3 ty4 vv : Addr) (ky0 ky1 ky2 ky3 ky4 kv : ClassId) (hX : Ctx Z a0 G1 G3) (hY : More Z e0 e1 e2 e3 e4 sy0 sy1 sy2 sy3 sy4 ty0 ty1 ty2 ty3 ty4 vv ky0 ky1 ky2 ky3 ky4 kv) (n0 : Nat) (bk : Addr → Prop) (h0 : Heap) (O0 : Old Z n0 h0) (sh : Int32) (a : Int32) (b : Int32) (h7 : (sh &&& (7 : Int32)) = (7 : Int32)) (ws : List Jvm.Cond) : Met l Z EL1 n0 bk (⟨"com/example/lean_entities/leanentities/session/OperatorOfSymbolPinLaw", "expected", "(ICC)Lcom/example/lean_entities/leanentities/session/RawQuery$Operator;"⟩ : MethodName) method_5_code 4 (Option.some (FieldType.object "com/example/lean_entities/leanentities/session/RawQuery$Operator")) RM_exp0 #[(.int sh), (.int a), (.int b)] h0 (Q_exp0 Z G1 G3 e0 e1 e2 e3 e4 sy0 sy1 sy2 sy3 sy4 ty0 ty1 ty2 ty3 ty4 vv ky0 ky1 ky2 ky3 ky4 kv sh a b h0 n0 bk) ws := by
  have hX' := hX
  obtain ⟨hw, hE, S1, P1, S3, P3⟩ := hX'
  have hY' := hY
  obtain ⟨sV, xV, aV, sE0, xE0, fE0, tE0, sE1, xE1, fE1, tE1, sE2, xE2, fE2, tE2, sE3, xE3, fE3, tE3, sE4, xE4, fE4, tE4⟩ := hY'
  have hSA := sa_of hw
  have z0 : n0 ≤ h0.size := by rw [← O0.1]; exact O0.2.1
  refine Met.of (by decide +kernel) O0 hE ?_
  intro p e s m below meth c hx hby hml hret hlk hnm
  refine k_cast (ef_exp0 m sh a b) ?_
  show Run p l e _ s m _ below meth c Z EL1 _ n0 bk h0 0 0 (mkF m 0 #[.val (.int sh), .val (.int a), .val (.int b), .unset] []) _
  refine k_pure (g' := (mkF m 1 #[.val (.int sh), .val (.int a), .val (.int b), .unset] [(.int sh)])) (fun TT HH tt kk => XS.iloadN HH hx rfl (hb hby d_m_5_0) rfl kk) ?_
  refine k_pure (g' := (mkF m 3 #[.val (.int sh), .val (.int a), .val (.int b), .unset] [(.int (7 : Int32)), (.int sh)])) (fun TT HH tt kk => XS.bipush HH hx rfl (hb hby d_m_5_1) kk) ?_
  refine k_pure (g' := (mkF m 4 #[.val (.int sh), .val (.int a), .val (.int b), .unset] [(.int (sh &&& (7 : Int32)))])) (fun TT HH tt kk => XS.iand HH hx rfl (hb hby d_m_5_3) rfl kk) ?_
  refine k_pure (g' := (mkF m 6 #[.val (.int sh), .val (.int a), .val (.int b), .unset] [(.int (7 : Int32)), (.int (sh &&& (7 : Int32)))])) (fun TT HH tt kk => XS.bipush HH hx rfl (hb hby d_m_5_4) kk) ?_
  refine k_pure (g' := (mkF m 9 #[.val (.int sh), .val (.int a), .val (.int b), .unset] [])) (fun TT HH tt kk => XS.icmpNo HH hx rfl (hb hby d_m_5_6) rfl (teq h7).2 kk) ?_
  refine k_pure (g' := (mkF m 10 #[.val (.int sh), .val (.int a), .val (.int b), .unset] [.null])) (fun TT HH tt kk => XS.aconstNull HH hx rfl (hb hby d_m_5_9) kk) ?_
  exact k_retA hx hlk hret rfl rfl rfl (hb hby d_m_5_10) (by decide) (by decide) ⟨rfl, rfl, rfl⟩
def Q_exp1 (Z : State) (G1 : Int32) (G3 : Value) (e0 e1 e2 e3 e4 sy0 sy1 sy2 sy3 sy4 ty0 ty1 ty2 ty3 ty4 vv : Addr) (ky0 ky1 ky2 ky3 ky4 kv : ClassId) (sh : Int32) (a : Int32) (b : Int32) (c1 : Int32) (cs : List Int32) (h0 : Heap) (n0 : Nat) (bk : Addr → Prop) (v : Option Value) (h : Heap) (bk' : Addr → Prop) : Prop := v = some (opOf e0 e1 e2 e3 e4 cs) ∧ h0 = h ∧ bk = bk'
theorem d_m_5_11 : decode method_5_code 11 = .ok (.iload_n 0, 1) := by decide +kernel
theorem d_m_5_12 : decode method_5_code 12 = .ok (.iconst 3, 1) := by decide +kernel
theorem d_m_5_13 : decode method_5_code 13 = .ok (.iand, 1) := by decide +kernel
theorem d_m_5_14 : decode method_5_code 14 = .ok (.istore_n 3, 1) := by decide +kernel
theorem d_m_5_15 : decode method_5_code 15 = .ok (.iload_n 3, 1) := by decide +kernel
theorem d_m_5_16 : decode method_5_code 16 = .ok (.iconst 1, 1) := by decide +kernel
theorem d_m_5_17 : decode method_5_code 17 = .ok (.if_icmp .ne 35, 3) := by decide +kernel
theorem d_m_5_20 : decode method_5_code 20 = .ok (.iload_n 1, 1) := by decide +kernel
theorem d_m_5_21 : decode method_5_code 21 = .ok (.bipush 61, 2) := by decide +kernel
theorem d_m_5_23 : decode method_5_code 23 = .ok (.if_icmp .ne 7, 3) := by decide +kernel
theorem d_m_5_26 : decode method_5_code 26 = .ok (.getstatic 32, 3) := by decide +kernel
theorem d_m_5_29 : decode method_5_code 29 = .ok (.areturn, 1) := by decide +kernel
theorem d_m_5_30 : decode method_5_code 30 = .ok (.iload_n 1, 1) := by decide +kernel
theorem d_m_5_31 : decode method_5_code 31 = .ok (.bipush 60, 2) := by decide +kernel
theorem d_m_5_33 : decode method_5_code 33 = .ok (.if_icmp .ne 7, 3) := by decide +kernel
theorem d_m_5_36 : decode method_5_code 36 = .ok (.getstatic 36, 3) := by decide +kernel
theorem d_m_5_39 : decode method_5_code 39 = .ok (.areturn, 1) := by decide +kernel
theorem d_m_5_40 : decode method_5_code 40 = .ok (.iload_n 1, 1) := by decide +kernel
theorem d_m_5_41 : decode method_5_code 41 = .ok (.bipush 62, 2) := by decide +kernel
theorem d_m_5_43 : decode method_5_code 43 = .ok (.if_icmp .ne 7, 3) := by decide +kernel
theorem d_m_5_46 : decode method_5_code 46 = .ok (.getstatic 39, 3) := by decide +kernel
theorem d_m_5_49 : decode method_5_code 49 = .ok (.areturn, 1) := by decide +kernel
theorem d_m_5_50 : decode method_5_code 50 = .ok (.aconst_null, 1) := by decide +kernel
theorem d_m_5_51 : decode method_5_code 51 = .ok (.areturn, 1) := by decide +kernel
theorem d_m_5_52 : decode method_5_code 52 = .ok (.iload_n 3, 1) := by decide +kernel
theorem d_m_5_53 : decode method_5_code 53 = .ok (.iconst 2, 1) := by decide +kernel
theorem d_m_5_54 : decode method_5_code 54 = .ok (.if_icmp .ne 29, 3) := by decide +kernel
theorem d_m_5_57 : decode method_5_code 57 = .ok (.iload_n 2, 1) := by decide +kernel
theorem d_m_5_58 : decode method_5_code 58 = .ok (.bipush 61, 2) := by decide +kernel
theorem d_m_5_60 : decode method_5_code 60 = .ok (.if_icmp .ne 23, 3) := by decide +kernel
theorem d_m_5_63 : decode method_5_code 63 = .ok (.iload_n 1, 1) := by decide +kernel
theorem d_m_5_64 : decode method_5_code 64 = .ok (.bipush 60, 2) := by decide +kernel
theorem d_m_5_66 : decode method_5_code 66 = .ok (.if_icmp .ne 7, 3) := by decide +kernel
theorem d_m_5_69 : decode method_5_code 69 = .ok (.getstatic 42, 3) := by decide +kernel
theorem d_m_5_72 : decode method_5_code 72 = .ok (.areturn, 1) := by decide +kernel
theorem d_m_5_73 : decode method_5_code 73 = .ok (.iload_n 1, 1) := by decide +kernel
theorem d_m_5_74 : decode method_5_code 74 = .ok (.bipush 62, 2) := by decide +kernel
theorem d_m_5_76 : decode method_5_code 76 = .ok (.if_icmp .ne 7, 3) := by decide +kernel
theorem d_m_5_79 : decode method_5_code 79 = .ok (.getstatic 45, 3) := by decide +kernel
theorem d_m_5_82 : decode method_5_code 82 = .ok (.areturn, 1) := by decide +kernel
theorem d_m_5_83 : decode method_5_code 83 = .ok (.aconst_null, 1) := by decide +kernel
theorem d_m_5_84 : decode method_5_code 84 = .ok (.areturn, 1) := by decide +kernel
abbrev RM_exp1 : Room := { frames := 0, cells := 0, slots := 0, locals := 0 }
theorem ef_exp1 (m : MethodId) (x0 : Int32) (x1 : Int32) (x2 : Int32) : entryFrame m #[(.int x0), (.int x1), (.int x2)] 4 = mkF m 0 #[.val (.int x0), .val (.int x1), .val (.int x2), .unset] [] := by first | (simp [entryFrame, mkF, argsToLocals, Value.category]; done) | rfl
set_option maxRecDepth 65536 in
set_option maxHeartbeats 40000000 in
theorem rm_exp1 (l : Launch) (Z : State) (a0 : Array Value) (G1 : Int32) (G3 : Value) (e0 e1 e2 e3 e4 sy0 sy1 sy2 sy3 sy4 ty0 ty1 ty2 ty3 ty4 vv : Addr) (ky0 ky1 ky2 ky3 ky4 kv : ClassId) (hX : Ctx Z a0 G1 G3) (hY : More Z e0 e1 e2 e3 e4 sy0 sy1 sy2 sy3 sy4 ty0 ty1 ty2 ty3 ty4 vv ky0 ky1 ky2 ky3 ky4 kv) (n0 : Nat) (bk : Addr → Prop) (h0 : Heap) (O0 : Old Z n0 h0) (sh : Int32) (a : Int32) (b : Int32) (c1 : Int32) (cs : List Int32) (h7 : ¬ (sh &&& (7 : Int32)) = (7 : Int32)) (tx : Txt (sh &&& (3 : Int32)) a b c1 cs) (ws : List Jvm.Cond) : Met l Z EL1 n0 bk (⟨"com/example/lean_entities/leanentities/session/OperatorOfSymbolPinLaw", "expected", "(ICC)Lcom/example/lean_entities/leanentities/session/RawQuery$Operator;"⟩ : MethodName) method_5_code 4 (Option.some (FieldType.object "com/example/lean_entities/leanentities/session/RawQuery$Operator")) RM_exp1 #[(.int sh), (.int a), (.int b)] h0 (Q_exp1 Z G1 G3 e0 e1 e2 e3 e4 sy0 sy1 sy2 sy3 sy4 ty0 ty1 ty2 ty3 ty4 vv ky0 ky1 ky2 ky3 ky4 kv sh a b c1 cs h0 n0 bk) ws := by
  have hX' := hX
  obtain ⟨hw, hE, S1, P1, S3, P3⟩ := hX'
  have hY' := hY
  obtain ⟨sV, xV, aV, sE0, xE0, fE0, tE0, sE1, xE1, fE1, tE1, sE2, xE2, fE2, tE2, sE3, xE3, fE3, tE3, sE4, xE4, fE4, tE4⟩ := hY'
  have hSA := sa_of hw
  have z0 : n0 ≤ h0.size := by rw [← O0.1]; exact O0.2.1
  refine Met.of (by decide +kernel) O0 hE ?_
  intro p e s m below meth c hx hby hml hret hlk hnm
  refine k_cast (ef_exp1 m sh a b) ?_
  show Run p l e _ s m _ below meth c Z EL1 _ n0 bk h0 0 0 (mkF m 0 #[.val (.int sh), .val (.int a), .val (.int b), .unset] []) _
  refine k_pure (g' := (mkF m 1 #[.val (.int sh), .val (.int a), .val (.int b), .unset] [(.int sh)])) (fun TT HH tt kk => XS.iloadN HH hx rfl (hb hby d_m_5_0) rfl kk) ?_
  refine k_pure (g' := (mkF m 3 #[.val (.int sh), .val (.int a), .val (.int b), .unset] [(.int (7 : Int32)), (.int sh)])) (fun TT HH tt kk => XS.bipush HH hx rfl (hb hby d_m_5_1) kk) ?_
  refine k_pure (g' := (mkF m 4 #[.val (.int sh), .val (.int a), .val (.int b), .unset] [(.int (sh &&& (7 : Int32)))])) (fun TT HH tt kk => XS.iand HH hx rfl (hb hby d_m_5_3) rfl kk) ?_
  refine k_pure (g' := (mkF m 6 #[.val (.int sh), .val (.int a), .val (.int b), .unset] [(.int (7 : Int32)), (.int (sh &&& (7 : Int32)))])) (fun TT HH tt kk => XS.bipush HH hx rfl (hb hby d_m_5_4) kk) ?_
  refine k_pure (g' := (mkF m 11 #[.val (.int sh), .val (.int a), .val (.int b), .unset] [])) (fun TT HH tt kk => XS.icmpYes HH hx rfl (pc0 := 6) (pc' := 11) rfl (hb hby d_m_5_6) rfl (feq h7).2 (by decide) (by decide) kk) ?_
  refine k_pure (g' := (mkF m 12 #[.val (.int sh), .val (.int a), .val (.int b), .unset] [(.int sh)])) (fun TT HH tt kk => XS.iloadN HH hx rfl (hb hby d_m_5_11) rfl kk) ?_
  refine k_pure (g' := (mkF m 13 #[.val (.int sh), .val (.int a), .val (.int b), .unset] [(.int (3 : Int32)), (.int sh)])) (fun TT HH tt kk => XS.iconst HH hx rfl (hb hby d_m_5_12) kk) ?_
  refine k_pure (g' := (mkF m 14 #[.val (.int sh), .val (.int a), .val (.int b), .unset] [(.int (sh &&& (3 : Int32)))])) (fun TT HH tt kk => XS.iand HH hx rfl (hb hby d_m_5_13) rfl kk) ?_
  refine k_pure (g' := (mkF m 15 #[.val (.int sh), .val (.int a), .val (.int b), .val (.int (sh &&& (3 : Int32)))] [])) (fun TT HH tt kk => XS.istoreN HH hx rfl (hb hby d_m_5_14) rfl (l' := #[.val (.int sh), .val (.int a), .val (.int b), .val (.int (sh &&& (3 : Int32)))]) rfl kk) ?_
  refine k_pure (g' := (mkF m 16 #[.val (.int sh), .val (.int a), .val (.int b), .val (.int (sh &&& (3 : Int32)))] [(.int (sh &&& (3 : Int32)))])) (fun TT HH tt kk => XS.iloadN HH hx rfl (hb hby d_m_5_15) rfl kk) ?_
  refine k_pure (g' := (mkF m 17 #[.val (.int sh), .val (.int a), .val (.int b), .val (.int (sh &&& (3 : Int32)))] [(.int (1 : Int32)), (.int (sh &&& (3 : Int32)))])) (fun TT HH tt kk => XS.iconst HH hx rfl (hb hby d_m_5_16) kk) ?_
  by_cases c_1 : (sh &&& (3 : Int32)) = (1 : Int32)
  · refine k_pure (g' := (mkF m 20 #[.val (.int sh), .val (.int a), .val (.int b), .val (.int (sh &&& (3 : Int32)))] [])) (fun TT HH tt kk => XS.icmpNo HH hx rfl (hb hby d_m_5_17) rfl (teq c_1).2 kk) ?_
    refine k_pure (g' := (mkF m 21 #[.val (.int sh), .val (.int a), .val (.int b), .val (.int (sh &&& (3 : Int32)))] [(.int a)])) (fun TT HH tt kk => XS.iloadN HH hx rfl (hb hby d_m_5_20) rfl kk) ?_
    refine k_pure (g' := (mkF m 23 #[.val (.int sh), .val (.int a), .val (.int b), .val (.int (sh &&& (3 : Int32)))] [(.int (61 : Int32)), (.int a)])) (fun TT HH tt kk => XS.bipush HH hx rfl (hb hby d_m_5_21) kk) ?_
    by_cases c_2 : a = (61 : Int32)
    · refine k_pure (g' := (mkF m 26 #[.val (.int sh), .val (.int a), .val (.int b), .val (.int (sh &&& (3 : Int32)))] [])) (fun TT HH tt kk => XS.icmpNo HH hx rfl (hb hby d_m_5_23) rfl (teq c_2).2 kk) ?_
      refine k_getS hx (host := "") (Or.inl (hw _ (List.mem_of_getElem? (i := 79) rfl))) Via.refl (sE0.ext O0.2) rfl (hb hby d_m_5_26) ?_
      show Run p l e _ s m _ below meth c Z EL1 _ n0 bk h0 0 0 (mkF m 29 #[.val (.int sh), .val (.int a), .val (.int b), .val (.int (sh &&& (3 : Int32)))] [(.ref e0)]) _
      exact k_retA hx hlk hret rfl rfl rfl (hb hby d_m_5_29) (by decide) (by decide) ⟨(by rw [exp_ok tx, if_pos c_1, if_pos c_2]), rfl, rfl⟩
    · refine k_pure (g' := (mkF m 30 #[.val (.int sh), .val (.int a), .val (.int b), .val (.int (sh &&& (3 : Int32)))] [])) (fun TT HH tt kk => XS.icmpYes HH hx rfl (pc0 := 23) (pc' := 30) rfl (hb hby d_m_5_23) rfl (feq c_2).2 (by decide) (by decide) kk) ?_
      refine k_pure (g' := (mkF m 31 #[.val (.int sh), .val (.int a), .val (.int b), .val (.int (sh &&& (3 : Int32)))] [(.int a)])) (fun TT HH tt kk => XS.iloadN HH hx rfl (hb hby d_m_5_30) rfl kk) ?_
      refine k_pure (g' := (mkF m 33 #[.val (.int sh), .val (.int a), .val (.int b), .val (.int (sh &&& (3 : Int32)))] [(.int (60 : Int32)), (.int a)])) (fun TT HH tt kk => XS.bipush HH hx rfl (hb hby d_m_5_31) kk) ?_
      by_cases c_3 : a = (60 : Int32)
      · refine k_pure (g' := (mkF m 36 #[.val (.int sh), .val (.int a), .val (.int b), .val (.int (sh &&& (3 : Int32)))] [])) (fun TT HH tt kk => XS.icmpNo HH hx rfl (hb hby d_m_5_33) rfl (teq c_3).2 kk) ?_
        refine k_getS hx (host := "") (Or.inl (hw _ (List.mem_of_getElem? (i := 81) rfl))) Via.refl (sE1.ext O0.2) rfl (hb hby d_m_5_36) ?_
        show Run p l e _ s m _ below meth c Z EL1 _ n0 bk h0 0 0 (mkF m 39 #[.val (.int sh), .val (.int a), .val (.int b), .val (.int (sh &&& (3 : Int32)))] [(.ref e1)]) _
        exact k_retA hx hlk hret rfl rfl rfl (hb hby d_m_5_39) (by decide) (by decide) ⟨(by rw [exp_ok tx, if_pos c_1, if_neg c_2, if_pos c_3]), rfl, rfl⟩
      · refine k_pure (g' := (mkF m 40 #[.val (.int sh), .val (.int a), .val (.int b), .val (.int (sh &&& (3 : Int32)))] [])) (fun TT HH tt kk => XS.icmpYes HH hx rfl (pc0 := 33) (pc' := 40) rfl (hb hby d_m_5_33) rfl (feq c_3).2 (by decide) (by decide) kk) ?_
        refine k_pure (g' := (mkF m 41 #[.val (.int sh), .val (.int a), .val (.int b), .val (.int (sh &&& (3 : Int32)))] [(.int a)])) (fun TT HH tt kk => XS.iloadN HH hx rfl (hb hby d_m_5_40) rfl kk) ?_
        refine k_pure (g' := (mkF m 43 #[.val (.int sh), .val (.int a), .val (.int b), .val (.int (sh &&& (3 : Int32)))] [(.int (62 : Int32)), (.int a)])) (fun TT HH tt kk => XS.bipush HH hx rfl (hb hby d_m_5_41) kk) ?_
        by_cases c_4 : a = (62 : Int32)
        · refine k_pure (g' := (mkF m 46 #[.val (.int sh), .val (.int a), .val (.int b), .val (.int (sh &&& (3 : Int32)))] [])) (fun TT HH tt kk => XS.icmpNo HH hx rfl (hb hby d_m_5_43) rfl (teq c_4).2 kk) ?_
          refine k_getS hx (host := "") (Or.inl (hw _ (List.mem_of_getElem? (i := 80) rfl))) Via.refl (sE3.ext O0.2) rfl (hb hby d_m_5_46) ?_
          show Run p l e _ s m _ below meth c Z EL1 _ n0 bk h0 0 0 (mkF m 49 #[.val (.int sh), .val (.int a), .val (.int b), .val (.int (sh &&& (3 : Int32)))] [(.ref e3)]) _
          exact k_retA hx hlk hret rfl rfl rfl (hb hby d_m_5_49) (by decide) (by decide) ⟨(by rw [exp_ok tx, if_pos c_1, if_neg c_2, if_neg c_3, if_pos c_4]), rfl, rfl⟩
        · refine k_pure (g' := (mkF m 50 #[.val (.int sh), .val (.int a), .val (.int b), .val (.int (sh &&& (3 : Int32)))] [])) (fun TT HH tt kk => XS.icmpYes HH hx rfl (pc0 := 43) (pc' := 50) rfl (hb hby d_m_5_43) rfl (feq c_4).2 (by decide) (by decide) kk) ?_
          refine k_pure (g' := (mkF m 51 #[.val (.int sh), .val (.int a), .val (.int b), .val (.int (sh &&& (3 : Int32)))] [.null])) (fun TT HH tt kk => XS.aconstNull HH hx rfl (hb hby d_m_5_50) kk) ?_
          exact k_retA hx hlk hret rfl rfl rfl (hb hby d_m_5_51) (by decide) (by decide) ⟨(by rw [exp_ok tx, if_pos c_1, if_neg c_2, if_neg c_3, if_neg c_4]), rfl, rfl⟩
  · refine k_pure (g' := (mkF m 52 #[.val (.int sh), .val (.int a), .val (.int b), .val (.int (sh &&& (3 : Int32)))] [])) (fun TT HH tt kk => XS.icmpYes HH hx rfl (pc0 := 17) (pc' := 52) rfl (hb hby d_m_5_17) rfl (feq c_1).2 (by decide) (by decide) kk) ?_
    refine k_pure (g' := (mkF m 53 #[.val (.int sh), .val (.int a), .val (.int b), .val (.int (sh &&& (3 : Int32)))] [(.int (sh &&& (3 : Int32)))])) (fun TT HH tt kk => XS.iloadN HH hx rfl (hb hby d_m_5_52) rfl kk) ?_
    refine k_pure (g' := (mkF m 54 #[.val (.int sh), .val (.int a), .val (.int b), .val (.int (sh &&& (3 : Int32)))] [(.int (2 : Int32)), (.int (sh &&& (3 : Int32)))])) (fun TT HH tt kk => XS.iconst HH hx rfl (hb hby d_m_5_53) kk) ?_
    by_cases c_5 : (sh &&& (3 : Int32)) = (2 : Int32)
    · refine k_pure (g' := (mkF m 57 #[.val (.int sh), .val (.int a), .val (.int b), .val (.int (sh &&& (3 : Int32)))] [])) (fun TT HH tt kk => XS.icmpNo HH hx rfl (hb hby d_m_5_54) rfl (teq c_5).2 kk) ?_
      refine k_pure (g' := (mkF m 58 #[.val (.int sh), .val (.int a), .val (.int b), .val (.int (sh &&& (3 : Int32)))] [(.int b)])) (fun TT HH tt kk => XS.iloadN HH hx rfl (hb hby d_m_5_57) rfl kk) ?_
      refine k_pure (g' := (mkF m 60 #[.val (.int sh), .val (.int a), .val (.int b), .val (.int (sh &&& (3 : Int32)))] [(.int (61 : Int32)), (.int b)])) (fun TT HH tt kk => XS.bipush HH hx rfl (hb hby d_m_5_58) kk) ?_
      by_cases c_6 : b = (61 : Int32)
      · refine k_pure (g' := (mkF m 63 #[.val (.int sh), .val (.int a), .val (.int b), .val (.int (sh &&& (3 : Int32)))] [])) (fun TT HH tt kk => XS.icmpNo HH hx rfl (hb hby d_m_5_60) rfl (teq c_6).2 kk) ?_
        refine k_pure (g' := (mkF m 64 #[.val (.int sh), .val (.int a), .val (.int b), .val (.int (sh &&& (3 : Int32)))] [(.int a)])) (fun TT HH tt kk => XS.iloadN HH hx rfl (hb hby d_m_5_63) rfl kk) ?_
        refine k_pure (g' := (mkF m 66 #[.val (.int sh), .val (.int a), .val (.int b), .val (.int (sh &&& (3 : Int32)))] [(.int (60 : Int32)), (.int a)])) (fun TT HH tt kk => XS.bipush HH hx rfl (hb hby d_m_5_64) kk) ?_
        by_cases c_7 : a = (60 : Int32)
        · refine k_pure (g' := (mkF m 69 #[.val (.int sh), .val (.int a), .val (.int b), .val (.int (sh &&& (3 : Int32)))] [])) (fun TT HH tt kk => XS.icmpNo HH hx rfl (hb hby d_m_5_66) rfl (teq c_7).2 kk) ?_
          refine k_getS hx (host := "") (Or.inl (hw _ (List.mem_of_getElem? (i := 82) rfl))) Via.refl (sE2.ext O0.2) rfl (hb hby d_m_5_69) ?_
          show Run p l e _ s m _ below meth c Z EL1 _ n0 bk h0 0 0 (mkF m 72 #[.val (.int sh), .val (.int a), .val (.int b), .val (.int (sh &&& (3 : Int32)))] [(.ref e2)]) _
          exact k_retA hx hlk hret rfl rfl rfl (hb hby d_m_5_72) (by decide) (by decide) ⟨(by rw [exp_ok tx, if_neg c_1, if_pos c_5, if_pos c_6, if_pos c_7]), rfl, rfl⟩
        · refine k_pure (g' := (mkF m 73 #[.val (.int sh), .val (.int a), .val (.int b), .val (.int (sh &&& (3 : Int32)))] [])) (fun TT HH tt kk => XS.icmpYes HH hx rfl (pc0 := 66) (pc' := 73) rfl (hb hby d_m_5_66) rfl (feq c_7).2 (by decide) (by decide) kk) ?_
          refine k_pure (g' := (mkF m 74 #[.val (.int sh), .val (.int a), .val (.int b), .val (.int (sh &&& (3 : Int32)))] [(.int a)])) (fun TT HH tt kk => XS.iloadN HH hx rfl (hb hby d_m_5_73) rfl kk) ?_
          refine k_pure (g' := (mkF m 76 #[.val (.int sh), .val (.int a), .val (.int b), .val (.int (sh &&& (3 : Int32)))] [(.int (62 : Int32)), (.int a)])) (fun TT HH tt kk => XS.bipush HH hx rfl (hb hby d_m_5_74) kk) ?_
          by_cases c_8 : a = (62 : Int32)
          · refine k_pure (g' := (mkF m 79 #[.val (.int sh), .val (.int a), .val (.int b), .val (.int (sh &&& (3 : Int32)))] [])) (fun TT HH tt kk => XS.icmpNo HH hx rfl (hb hby d_m_5_76) rfl (teq c_8).2 kk) ?_
            refine k_getS hx (host := "") (Or.inl (hw _ (List.mem_of_getElem? (i := 83) rfl))) Via.refl (sE4.ext O0.2) rfl (hb hby d_m_5_79) ?_
            show Run p l e _ s m _ below meth c Z EL1 _ n0 bk h0 0 0 (mkF m 82 #[.val (.int sh), .val (.int a), .val (.int b), .val (.int (sh &&& (3 : Int32)))] [(.ref e4)]) _
            exact k_retA hx hlk hret rfl rfl rfl (hb hby d_m_5_82) (by decide) (by decide) ⟨(by rw [exp_ok tx, if_neg c_1, if_pos c_5, if_pos c_6, if_neg c_7, if_pos c_8]), rfl, rfl⟩
          · refine k_pure (g' := (mkF m 83 #[.val (.int sh), .val (.int a), .val (.int b), .val (.int (sh &&& (3 : Int32)))] [])) (fun TT HH tt kk => XS.icmpYes HH hx rfl (pc0 := 76) (pc' := 83) rfl (hb hby d_m_5_76) rfl (feq c_8).2 (by decide) (by decide) kk) ?_
            refine k_pure (g' := (mkF m 84 #[.val (.int sh), .val (.int a), .val (.int b), .val (.int (sh &&& (3 : Int32)))] [.null])) (fun TT HH tt kk => XS.aconstNull HH hx rfl (hb hby d_m_5_83) kk) ?_
            exact k_retA hx hlk hret rfl rfl rfl (hb hby d_m_5_84) (by decide) (by decide) ⟨(by rw [exp_ok tx, if_neg c_1, if_pos c_5, if_pos c_6, if_neg c_7, if_neg c_8]), rfl, rfl⟩
      · refine k_pure (g' := (mkF m 83 #[.val (.int sh), .val (.int a), .val (.int b), .val (.int (sh &&& (3 : Int32)))] [])) (fun TT HH tt kk => XS.icmpYes HH hx rfl (pc0 := 60) (pc' := 83) rfl (hb hby d_m_5_60) rfl (feq c_6).2 (by decide) (by decide) kk) ?_
        refine k_pure (g' := (mkF m 84 #[.val (.int sh), .val (.int a), .val (.int b), .val (.int (sh &&& (3 : Int32)))] [.null])) (fun TT HH tt kk => XS.aconstNull HH hx rfl (hb hby d_m_5_83) kk) ?_
        exact k_retA hx hlk hret rfl rfl rfl (hb hby d_m_5_84) (by decide) (by decide) ⟨(by rw [exp_ok tx, if_neg c_1, if_pos c_5, if_neg c_6]), rfl, rfl⟩
    · refine k_pure (g' := (mkF m 83 #[.val (.int sh), .val (.int a), .val (.int b), .val (.int (sh &&& (3 : Int32)))] [])) (fun TT HH tt kk => XS.icmpYes HH hx rfl (pc0 := 54) (pc' := 83) rfl (hb hby d_m_5_54) rfl (feq c_5).2 (by decide) (by decide) kk) ?_
      refine k_pure (g' := (mkF m 84 #[.val (.int sh), .val (.int a), .val (.int b), .val (.int (sh &&& (3 : Int32)))] [.null])) (fun TT HH tt kk => XS.aconstNull HH hx rfl (hb hby d_m_5_83) kk) ?_
      exact k_retA hx hlk hret rfl rfl rfl (hb hby d_m_5_84) (by decide) (by decide) ⟨(by rw [exp_ok tx, if_neg c_1, if_neg c_5]), rfl, rfl⟩
def Q_vals (Z : State) (G1 : Int32) (G3 : Value) (e0 e1 e2 e3 e4 sy0 sy1 sy2 sy3 sy4 ty0 ty1 ty2 ty3 ty4 vv : Addr) (ky0 ky1 ky2 ky3 ky4 kv : ClassId)  (h0 : Heap) (n0 : Nat) (bk : Addr → Prop) (v : Option Value) (h : Heap) (bk' : Addr → Prop) : Prop := ∃ (z : Addr), v = some (.ref z) ∧ bk = bk' ∧ Keep h0 h [] ∧ (Exa Z h z "[Lcom/example/lean_entities/leanentities/session/RawQuery$Operator;") ∧ (Arv Z h z kv (.object "com/example/lean_entities/leanentities/session/RawQuery$Operator") (5 : Int32) [(.ref e0), (.ref e1), (.ref e2), (.ref e3), (.ref e4)] .null)
theorem d_prog_35_m_1_0 : decode prog_35_method_1_code 0 = .ok (.getstatic 19, 3) := by decide +kernel
theorem d_prog_35_m_1_3 : decode prog_35_method_1_code 3 = .ok (.invokevirtual 23, 3) := by decide +kernel
theorem d_prog_35_m_1_6 : decode prog_35_method_1_code 6 = .ok (.checkcast 24, 3) := by decide +kernel
theorem d_prog_35_m_1_9 : decode prog_35_method_1_code 9 = .ok (.areturn, 1) := by decide +kernel
abbrev RM_vals : Room := { frames := 1, cells := 1, slots := 5, locals := 14 }
theorem ef_vals (m : MethodId)  : entryFrame m #[] 0 = mkF m 0 #[] [] := by first | (simp [entryFrame, mkF, argsToLocals, Value.category]; done) | rfl
set_option maxRecDepth 65536 in
set_option maxHeartbeats 40000000 in
theorem rm_vals (l : Launch) (Z : State) (a0 : Array Value) (G1 : Int32) (G3 : Value) (e0 e1 e2 e3 e4 sy0 sy1 sy2 sy3 sy4 ty0 ty1 ty2 ty3 ty4 vv : Addr) (ky0 ky1 ky2 ky3 ky4 kv : ClassId) (hX : Ctx Z a0 G1 G3) (hY : More Z e0 e1 e2 e3 e4 sy0 sy1 sy2 sy3 sy4 ty0 ty1 ty2 ty3 ty4 vv ky0 ky1 ky2 ky3 ky4 kv) (n0 : Nat) (bk : Addr → Prop) (h0 : Heap) (O0 : Old Z n0 h0)  (hbl : ∀ y, bk y → @LT.lt Nat _ y (Array.size h0)) (ws : List Jvm.Cond) : Met l Z EL1 n0 bk (⟨"com/example/lean_entities/leanentities/session/RawQuery$Operator", "values", "()[Lcom/example/lean_entities/leanentities/session/RawQuery$Operator;"⟩ : MethodName) prog_35_method_1_code 0 (Option.some (FieldType.array (FieldType.object "com/example/lean_entities/leanentities/session/RawQuery$Operator"))) RM_vals #[] h0 (Q_vals Z G1 G3 e0 e1 e2 e3 e4 sy0 sy1 sy2 sy3 sy4 ty0 ty1 ty2 ty3 ty4 vv ky0 ky1 ky2 ky3 ky4 kv  h0 n0 bk) ws := by
  have hX' := hX
  obtain ⟨hw, hE, S1, P1, S3, P3⟩ := hX'
  have hY' := hY
  obtain ⟨sV, xV, aV, sE0, xE0, fE0, tE0, sE1, xE1, fE1, tE1, sE2, xE2, fE2, tE2, sE3, xE3, fE3, tE3, sE4, xE4, fE4, tE4⟩ := hY'
  have hSA := sa_of hw
  have z0 : n0 ≤ h0.size := by rw [← O0.1]; exact O0.2.1
  refine Met.of (by decide +kernel) O0 hE ?_
  intro p e s m below meth c hx hby hml hret hlk hnm
  refine k_cast (ef_vals m ) ?_
  show Run p l e _ s m _ below meth c Z EL1 _ n0 bk h0 0 0 (mkF m 0 #[] []) _
  refine k_getS hx (host := "") (Or.inl (hw _ (List.mem_of_getElem? (i := 39) rfl))) Via.refl (sV.ext O0.2) rfl (hb hby d_prog_35_m_1_0) ?_
  show Run p l e _ s m _ below meth c Z EL1 _ n0 bk h0 0 0 (mkF m 3 #[] [(.ref vv)]) _
  have F_1 : Arv Z h0 vv kv (.object "com/example/lean_entities/leanentities/session/RawQuery$Operator") (5 : Int32) [(.ref e0), (.ref e1), (.ref e2), (.ref e3), (.ref e4)] .null := aV.ext O0.2
  have F_2 : Exa Z h0 vv "[Lcom/example/lean_entities/leanentities/session/RawQuery$Operator;" := xV.ext O0.2
  refine k_clone hx (hw _ (List.mem_of_getElem? (i := 41) rfl)) (hw _ (List.mem_of_getElem? (i := 42) rfl)) (hw _ (List.mem_of_getElem? (i := 46) rfl)) (hw _ (List.mem_of_getElem? (i := 44) rfl)) (hw _ (List.mem_of_getElem? (i := 45) rfl)) (hw _ (List.mem_of_getElem? (i := 47) rfl)) F_1 F_2 rfl (by rw [hml]; rfl) rfl (hb hby d_prog_35_m_1_3) (by decide) (W := 0) (cap := 5) (by show 2 * 0 + _ ≤ _; exact Nat.le_of_eq rfl) (by decide) (by decide) (by decide) (by decide) ?_
  intro h_4 a_3 g_5 O_6 E_7 A_8 X_9
  have z_10 := E_7.1
  have lt_11 : @LT.lt Nat _ a_3 (Array.size h_4) := A_8.lt
  have nb_12 : ¬ bk a_3 := fun q => Nat.not_le_of_lt (hbl _ q) (show @LE.le Nat _ (Array.size h0) a_3 by omega)
  show Run p l e _ s m _ below meth c Z EL1 _ n0 bk h_4 1 5 (mkF m 6 #[] [(.ref a_3)]) _
  refine k_cast' hx (hw _ (List.mem_of_getElem? (i := 54) rfl)) (Ins.self X_9) rfl rfl (hb hby d_prog_35_m_1_6) ?_
  show Run p l e _ s m _ below meth c Z EL1 _ n0 bk h_4 1 5 (mkF m 9 #[] [(.ref a_3)]) _
  exact k_retA hx hlk hret rfl rfl rfl (hb hby d_prog_35_m_1_9) (by decide) (by decide) ⟨_, rfl, rfl, ((Keep.refl _ _).ext E_7), X_9, A_8⟩
def Q_eqn (Z : State) (G1 : Int32) (G3 : Value) (e0 e1 e2 e3 e4 sy0 sy1 sy2 sy3 sy4 ty0 ty1 ty2 ty3 ty4 vv : Addr) (ky0 ky1 ky2 ky3 ky4 kv : ClassId) (a : Addr) (h0 : Heap) (n0 : Nat) (bk : Addr → Prop) (v : Option Value) (h : Heap) (bk' : Addr → Prop) : Prop := v = some (.int (0 : Int32)) ∧ h0 = h ∧ bk = bk'
theorem d_jdk_42_m_66_0 : decode jdk_42_method_66_code 0 = .ok (.aload_n 0, 1) := by decide +kernel
theorem d_jdk_42_m_66_1 : decode jdk_42_method_66_code 1 = .ok (.aload_n 1, 1) := by decide +kernel
theorem d_jdk_42_m_66_2 : decode jdk_42_method_66_code 2 = .ok (.if_acmp .ne 5, 3) := by decide +kernel
theorem d_jdk_42_m_66_7 : decode jdk_42_method_66_code 7 = .ok (.aload_n 1, 1) := by decide +kernel
theorem d_jdk_42_m_66_8 : decode jdk_42_method_66_code 8 = .ok (.instanceof 10, 3) := by decide +kernel
theorem d_jdk_42_m_66_11 : decode jdk_42_method_66_code 11 = .ok (.ifCond .eq 43, 3) := by decide +kernel
theorem d_jdk_42_m_66_54 : decode jdk_42_method_66_code 54 = .ok (.iconst 0, 1) := by decide +kernel
theorem d_jdk_42_m_66_55 : decode jdk_42_method_66_code 55 = .ok (.ireturn, 1) := by decide +kernel
abbrev RM_eqn : Room := { frames := 0, cells := 0, slots := 0, locals := 0 }
theorem ef_eqn (m : MethodId) (x0 : Addr) : entryFrame m #[(.ref x0), .null] 3 = mkF m 0 #[.val (.ref x0), .val .null, .unset] [] := by first | (simp [entryFrame, mkF, argsToLocals, Value.category]; done) | rfl
set_option maxRecDepth 65536 in
set_option maxHeartbeats 40000000 in
theorem rm_eqn (l : Launch) (Z : State) (a0 : Array Value) (G1 : Int32) (G3 : Value) (e0 e1 e2 e3 e4 sy0 sy1 sy2 sy3 sy4 ty0 ty1 ty2 ty3 ty4 vv : Addr) (ky0 ky1 ky2 ky3 ky4 kv : ClassId) (hX : Ctx Z a0 G1 G3) (hY : More Z e0 e1 e2 e3 e4 sy0 sy1 sy2 sy3 sy4 ty0 ty1 ty2 ty3 ty4 vv ky0 ky1 ky2 ky3 ky4 kv) (n0 : Nat) (bk : Addr → Prop) (h0 : Heap) (O0 : Old Z n0 h0) (a : Addr)  (ws : List Jvm.Cond) : Met l Z EL1 n0 bk (⟨"java/lang/String", "equals", "(Ljava/lang/Object;)Z"⟩ : MethodName) jdk_42_method_66_code 3 (Option.some FieldType.boolean) RM_eqn #[(.ref a), .null] h0 (Q_eqn Z G1 G3 e0 e1 e2 e3 e4 sy0 sy1 sy2 sy3 sy4 ty0 ty1 ty2 ty3 ty4 vv ky0 ky1 ky2 ky3 ky4 kv a h0 n0 bk) ws := by
  have hX' := hX
  obtain ⟨hw, hE, S1, P1, S3, P3⟩ := hX'
  have hY' := hY
  obtain ⟨sV, xV, aV, sE0, xE0, fE0, tE0, sE1, xE1, fE1, tE1, sE2, xE2, fE2, tE2, sE3, xE3, fE3, tE3, sE4, xE4, fE4, tE4⟩ := hY'
  have hSA := sa_of hw
  have z0 : n0 ≤ h0.size := by rw [← O0.1]; exact O0.2.1
  refine Met.of (by decide +kernel) O0 hE ?_
  intro p e s m below meth c hx hby hml hret hlk hnm
  refine k_cast (ef_eqn m a) ?_
  show Run p l e _ s m _ below meth c Z EL1 _ n0 bk h0 0 0 (mkF m 0 #[.val (.ref a), .val .null, .unset] []) _
  refine k_pure (g' := (mkF m 1 #[.val (.ref a), .val .null, .unset] [(.ref a)])) (fun TT HH tt kk => XS.aloadN HH hx rfl (hb hby d_jdk_42_m_66_0) rfl rfl kk) ?_
  refine k_pure (g' := (mkF m 2 #[.val (.ref a), .val .null, .unset] [.null, (.ref a)])) (fun TT HH tt kk => XS.aloadN HH hx rfl (hb hby d_jdk_42_m_66_1) rfl rfl kk) ?_
  refine k_pure (g' := (mkF m 7 #[.val (.ref a), .val .null, .unset] [])) (fun TT HH tt kk => XT.acmpYes HH hx rfl (pc0 := 2) (pc' := 7) rfl (hb hby d_jdk_42_m_66_2) rfl rfl rfl (XT.aa_ne_t (by simp)) (by decide) (by decide) kk) ?_
  refine k_pure (g' := (mkF m 8 #[.val (.ref a), .val .null, .unset] [.null])) (fun TT HH tt kk => XS.aloadN HH hx rfl (hb hby d_jdk_42_m_66_7) rfl rfl kk) ?_
  refine k_instNull hx (hw _ (List.mem_of_getElem? (i := 63) rfl)) rfl rfl (hb hby d_jdk_42_m_66_8) ?_
  show Run p l e _ s m _ below meth c Z EL1 _ n0 bk h0 0 0 (mkF m 11 #[.val (.ref a), .val .null, .unset] [(.int (0 : Int32))]) _
  refine k_pure (g' := (mkF m 54 #[.val (.ref a), .val .null, .unset] [])) (fun TT HH tt kk => XS.ifYes HH hx rfl (pc0 := 11) (pc' := 54) rfl (hb hby d_jdk_42_m_66_11) rfl ((if0 _ _).trans (teq (by decide : ((0 : Int32) = (0 : Int32)))).1) (by decide) (by decide) kk) ?_
  refine k_pure (g' := (mkF m 55 #[.val (.ref a), .val .null, .unset] [(.int (0 : Int32))])) (fun TT HH tt kk => XS.iconst HH hx rfl (hb hby d_jdk_42_m_66_54) kk) ?_
  exact k_retN hx hlk hret (by simp) (hb hby d_jdk_42_m_66_55) (by decide) (by decide) ⟨rfl, rfl, rfl⟩
def Q_ofs0 (Z : State) (G1 : Int32) (G3 : Value) (e0 e1 e2 e3 e4 sy0 sy1 sy2 sy3 sy4 ty0 ty1 ty2 ty3 ty4 vv : Addr) (ky0 ky1 ky2 ky3 ky4 kv : ClassId)  (h0 : Heap) (n0 : Nat) (bk : Addr → Prop) (v : Option Value) (h : Heap) (bk' : Addr → Prop) : Prop := v = some .null ∧ bk = bk' ∧ Keep h0 h []
theorem d_prog_35_m_5_0 : decode prog_35_method_5_code 0 = .ok (.invokestatic 42, 3) := by decide +kernel
theorem pd__28__29__5b_Lcom_2f_example_2f_lean_entities_2f_leanentities_2f_session_2f_RawQuery_24_Operator_3b_ : parseMethodDescriptor "()[Lcom/example/lean_entities/leanentities/session/RawQuery$Operator;" = some ⟨[], some (.array (.object "com/example/lean_entities/leanentities/session/RawQuery$Operator"))⟩ := by decide +kernel
theorem d_prog_35_m_5_3 : decode prog_35_method_5_code 3 = .ok (.astore_n 1, 1) := by decide +kernel
theorem d_prog_35_m_5_4 : decode prog_35_method_5_code 4 = .ok (.aload_n 1, 1) := by decide +kernel
theorem d_prog_35_m_5_5 : decode prog_35_method_5_code 5 = .ok (.arraylength, 1) := by decide +kernel
theorem d_prog_35_m_5_6 : decode prog_35_method_5_code 6 = .ok (.istore_n 2, 1) := by decide +kernel
theorem d_prog_35_m_5_7 : decode prog_35_method_5_code 7 = .ok (.iconst 0, 1) := by decide +kernel
theorem d_prog_35_m_5_8 : decode prog_35_method_5_code 8 = .ok (.istore_n 3, 1) := by decide +kernel
theorem d_prog_35_m_5_9 : decode prog_35_method_5_code 9 = .ok (.iload_n 3, 1) := by decide +kernel
theorem d_prog_35_m_5_10 : decode prog_35_method_5_code 10 = .ok (.iload_n 2, 1) := by decide +kernel
theorem d_prog_35_m_5_11 : decode prog_35_method_5_code 11 = .ok (.if_icmp .ge 29, 3) := by decide +kernel
theorem d_prog_35_m_5_14 : decode prog_35_method_5_code 14 = .ok (.aload_n 1, 1) := by decide +kernel
theorem d_prog_35_m_5_15 : decode prog_35_method_5_code 15 = .ok (.iload_n 3, 1) := by decide +kernel
theorem d_prog_35_m_5_16 : decode prog_35_method_5_code 16 = .ok (.aaload, 1) := by decide +kernel
theorem d_prog_35_m_5_17 : decode prog_35_method_5_code 17 = .ok (.astore 4, 2) := by decide +kernel
theorem d_prog_35_m_5_19 : decode prog_35_method_5_code 19 = .ok (.aload 4, 2) := by decide +kernel
theorem d_prog_35_m_5_21 : decode prog_35_method_5_code 21 = .ok (.getfield 38, 3) := by decide +kernel
theorem d_prog_35_m_5_24 : decode prog_35_method_5_code 24 = .ok (.aload_n 0, 1) := by decide +kernel
theorem d_prog_35_m_5_25 : decode prog_35_method_5_code 25 = .ok (.invokevirtual 46, 3) := by decide +kernel
theorem pd__28_Ljava_2f_lang_2f_Object_3b__29_Z : parseMethodDescriptor "(Ljava/lang/Object;)Z" = some ⟨[(.object "java/lang/Object")], some .boolean⟩ := by decide +kernel
theorem d_prog_35_m_5_28 : decode prog_35_method_5_code 28 = .ok (.ifCond .eq 6, 3) := by decide +kernel
theorem d_prog_35_m_5_34 : decode prog_35_method_5_code 34 = .ok (.iinc 3 1, 3) := by decide +kernel
theorem d_prog_35_m_5_37 : decode prog_35_method_5_code 37 = .ok (.goto (-28), 3) := by decide +kernel
theorem d_prog_35_m_5_40 : decode prog_35_method_5_code 40 = .ok (.aconst_null, 1) := by decide +kernel
theorem d_prog_35_m_5_41 : decode prog_35_method_5_code 41 = .ok (.areturn, 1) := by decide +kernel
abbrev RM_ofs0 : Room := { frames := 2, cells := 1, slots := 5, locals := 25 }
theorem ef_ofs0 (m : MethodId)  : entryFrame m #[.null] 5 = mkF m 0 #[.val .null, .unset, .unset, .unset, .unset] [] := by first | (simp [entryFrame, mkF, argsToLocals, Value.category]; done) | rfl
set_option maxRecDepth 65536 in
set_option maxHeartbeats 40000000 in
theorem rm_ofs0 (l : Launch) (Z : State) (a0 : Array Value) (G1 : Int32) (G3 : Value) (e0 e1 e2 e3 e4 sy0 sy1 sy2 sy3 sy4 ty0 ty1 ty2 ty3 ty4 vv : Addr) (ky0 ky1 ky2 ky3 ky4 kv : ClassId) (hX : Ctx Z a0 G1 G3) (hY : More Z e0 e1 e2 e3 e4 sy0 sy1 sy2 sy3 sy4 ty0 ty1 ty2 ty3 ty4 vv ky0 ky1 ky2 ky3 ky4 kv) (n0 : Nat) (bk : Addr → Prop) (h0 : Heap) (O0 : Old Z n0 h0)  (hbl : ∀ y, bk y → @LT.lt Nat _ y (Array.size h0)) (ws : List Jvm.Cond) : Met l Z EL1 n0 bk (⟨"com/example/lean_entities/leanentities/session/RawQuery$Operator", "ofSymbol", "(Ljava/lang/String;)Lcom/example/lean_entities/leanentities/session/RawQuery$Operator;"⟩ : MethodName) prog_35_method_5_code 5 (Option.some (FieldType.object "com/example/lean_entities/leanentities/session/RawQuery$Operator")) RM_ofs0 #[.null] h0 (Q_ofs0 Z G1 G3 e0 e1 e2 e3 e4 sy0 sy1 sy2 sy3 sy4 ty0 ty1 ty2 ty3 ty4 vv ky0 ky1 ky2 ky3 ky4 kv  h0 n0 bk) ws := by
  have hX' := hX
  obtain ⟨hw, hE, S1, P1, S3, P3⟩ := hX'
  have hY' := hY
  obtain ⟨sV, xV, aV, sE0, xE0, fE0, tE0, sE1, xE1, fE1, tE1, sE2, xE2, fE2, tE2, sE3, xE3, fE3, tE3, sE4, xE4, fE4, tE4⟩ := hY'
  have hSA := sa_of hw
  have z0 : n0 ≤ h0.size := by rw [← O0.1]; exact O0.2.1
  refine Met.of (by decide +kernel) O0 hE ?_
  intro p e s m below meth c hx hby hml hret hlk hnm
  refine k_cast (ef_ofs0 m ) ?_
  show Run p l e _ s m _ below meth c Z EL1 _ n0 bk h0 0 0 (mkF m 0 #[.val .null, .unset, .unset, .unset, .unset] []) _
  refine k_callS hx (y := (⟨"com/example/lean_entities/leanentities/session/RawQuery$Operator", "values", "()[Lcom/example/lean_entities/leanentities/session/RawQuery$Operator;"⟩ : MethodName)) (hw _ (List.mem_of_getElem? (i := 36) rfl)) (hw _ (List.mem_of_getElem? (i := 37) rfl)) (hw _ (List.mem_of_getElem? (i := 34) rfl)) (hw _ (List.mem_of_getElem? (i := 38) rfl)) (by decide) (W := 0) (argsL := []) (rest := []) (Pays.of_met (rm_vals l Z a0 G1 G3 e0 e1 e2 e3 e4 sy0 sy1 sy2 sy3 sy4 ty0 ty1 ty2 ty3 ty4 vv ky0 ky1 ky2 ky3 ky4 kv hX hY n0 bk h0 O0  hbl []) (hw _ (List.mem_of_getElem? (i := 38) rfl)) (hw _ (List.mem_of_getElem? (i := 34) rfl)) (by decide) (by decide)) rfl (by rw [hml]; rfl) (lenOf pd__28__29__5b_Lcom_2f_example_2f_lean_entities_2f_leanentities_2f_session_2f_RawQuery_24_Operator_3b_ rfl) rfl (by show 2 * 0 + _ ≤ _; exact Nat.le_of_eq rfl) (hb hby d_prog_35_m_5_0) (by decide) (by decide) ?_
  intro v_1 h_2 bk_3 O_4 z_5 Q_6
  obtain ⟨a_7, rfl, rfl, K_8, F_9, F_10⟩ := Q_6
  have lt_11 : @LT.lt Nat _ a_7 (Array.size h_2) := F_9.lt
  have lt_12 : @LT.lt Nat _ a_7 (Array.size h_2) := F_10.lt
  show Run p l e _ s m _ below meth c Z EL1 _ n0 bk h_2 1 5 (mkF m 3 #[.val .null, .unset, .unset, .unset, .unset] [(.ref a_7)]) _
  refine k_pure (g' := (mkF m 4 #[.val .null, .val (.ref a_7), .unset, .unset, .unset] [])) (fun TT HH tt kk => XS.astoreN HH hx rfl (hb hby d_prog_35_m_5_3) rfl rfl (l' := #[.val .null, .val (.ref a_7), .unset, .unset, .unset]) rfl kk) ?_
  refine k_pure (g' := (mkF m 5 #[.val .null, .val (.ref a_7), .unset, .unset, .unset] [(.ref a_7)])) (fun TT HH tt kk => XS.aloadN HH hx rfl (hb hby d_prog_35_m_5_4) rfl rfl kk) ?_
  refine k_alen hx F_10 rfl rfl (hb hby d_prog_35_m_5_5) ?_
  show Run p l e _ s m _ below meth c Z EL1 _ n0 bk h_2 1 5 (mkF m 6 #[.val .null, .val (.ref a_7), .unset, .unset, .unset] [(.int (5 : Int32))]) _
  refine k_pure (g' := (mkF m 7 #[.val .null, .val (.ref a_7), .val (.int (5 : Int32)), .unset, .unset] [])) (fun TT HH tt kk => XS.istoreN HH hx rfl (hb hby d_prog_35_m_5_6) rfl (l' := #[.val .null, .val (.ref a_7), .val (.int (5 : Int32)), .unset, .unset]) rfl kk) ?_
  refine k_pure (g' := (mkF m 8 #[.val .null, .val (.ref a_7), .val (.int (5 : Int32)), .unset, .unset] [(.int (0 : Int32))])) (fun TT HH tt kk => XS.iconst HH hx rfl (hb hby d_prog_35_m_5_7) kk) ?_
  refine k_pure (g' := (mkF m 9 #[.val .null, .val (.ref a_7), .val (.int (5 : Int32)), .val (.int (0 : Int32)), .unset] [])) (fun TT HH tt kk => XS.istoreN HH hx rfl (hb hby d_prog_35_m_5_8) rfl (l' := #[.val .null, .val (.ref a_7), .val (.int (5 : Int32)), .val (.int (0 : Int32)), .unset]) rfl kk) ?_
  refine k_pure (g' := (mkF m 10 #[.val .null, .val (.ref a_7), .val (.int (5 : Int32)), .val (.int (0 : Int32)), .unset] [(.int (0 : Int32))])) (fun TT HH tt kk => XS.iloadN HH hx rfl (hb hby d_prog_35_m_5_9) rfl kk) ?_
  refine k_pure (g' := (mkF m 11 #[.val .null, .val (.ref a_7), .val (.int (5 : Int32)), .val (.int (0 : Int32)), .unset] [(.int (5 : Int32)), (.int (0 : Int32))])) (fun TT HH tt kk => XS.iloadN HH hx rfl (hb hby d_prog_35_m_5_10) rfl kk) ?_
  refine k_pure (g' := (mkF m 14 #[.val .null, .val (.ref a_7), .val (.int (5 : Int32)), .val (.int (0 : Int32)), .unset] [])) (fun TT HH tt kk => XS.icmpNo HH hx rfl (hb hby d_prog_35_m_5_11) rfl (tlt (by decide : ((0 : Int32) < (5 : Int32)))).2.1 kk) ?_
  refine k_pure (g' := (mkF m 15 #[.val .null, .val (.ref a_7), .val (.int (5 : Int32)), .val (.int (0 : Int32)), .unset] [(.ref a_7)])) (fun TT HH tt kk => XS.aloadN HH hx rfl (hb hby d_prog_35_m_5_14) rfl rfl kk) ?_
  refine k_pure (g' := (mkF m 16 #[.val .null, .val (.ref a_7), .val (.int (5 : Int32)), .val (.int (0 : Int32)), .unset] [(.int (0 : Int32)), (.ref a_7)])) (fun TT HH tt kk => XS.iloadN HH hx rfl (hb hby d_prog_35_m_5_15) rfl kk) ?_
  refine k_aget hx (v := (.ref e0)) F_10 ⟨by decide, by decide⟩ rfl (Or.inr (Or.inr (Or.inr (Or.inr ⟨rfl, rfl⟩)))) rfl rfl (hb hby d_prog_35_m_5_16) ?_
  show Run p l e _ s m _ below meth c Z EL1 _ n0 bk h_2 1 5 (mkF m 17 #[.val .null, .val (.ref a_7), .val (.int (5 : Int32)), .val (.int (0 : Int32)), .unset] [(.ref e0)]) _
  refine k_pure (g' := (mkF m 19 #[.val .null, .val (.ref a_7), .val (.int (5 : Int32)), .val (.int (0 : Int32)), .val (.ref e0)] [])) (fun TT HH tt kk => XS.astore HH hx rfl (hb hby d_prog_35_m_5_17) rfl rfl (l' := #[.val .null, .val (.ref a_7), .val (.int (5 : Int32)), .val (.int (0 : Int32)), .val (.ref e0)]) rfl kk) ?_
  refine k_pure (g' := (mkF m 21 #[.val .null, .val (.ref a_7), .val (.int (5 : Int32)), .val (.int (0 : Int32)), .val (.ref e0)] [(.ref e0)])) (fun TT HH tt kk => XS.aload HH hx rfl (hb hby d_prog_35_m_5_19) rfl rfl kk) ?_
  have F_13 : Fld Z h_2 e0 "com/example/lean_entities/leanentities/session/RawQuery$Operator" "symbol" "Ljava/lang/String;" (.ref sy0) := fE0.ext O_4.2
  refine k_getF hx (host := "") (Or.inl (hw _ (List.mem_of_getElem? (i := 56) rfl))) Via.refl F_13 rfl rfl (hb hby d_prog_35_m_5_21) ?_
  show Run p l e _ s m _ below meth c Z EL1 _ n0 bk h_2 1 5 (mkF m 24 #[.val .null, .val (.ref a_7), .val (.int (5 : Int32)), .val (.int (0 : Int32)), .val (.ref e0)] [(.ref sy0)]) _
  refine k_pure (g' := (mkF m 25 #[.val .null, .val (.ref a_7), .val (.int (5 : Int32)), .val (.int (0 : Int32)), .val (.ref e0)] [.null, (.ref sy0)])) (fun TT HH tt kk => XS.aloadN HH hx rfl (hb hby d_prog_35_m_5_24) rfl rfl kk) ?_
  have F_14 : Exa Z h_2 sy0 "java/lang/String" := tE0.1.ext O_4.2
  refine k_callV hx (y := (⟨"java/lang/String", "equals", "(Ljava/lang/Object;)Z"⟩ : MethodName)) (z := (⟨"java/lang/String", "equals", "(Ljava/lang/Object;)Z"⟩ : MethodName)) (hw _ (List.mem_of_getElem? (i := 58) rfl)) (hw _ (List.mem_of_getElem? (i := 59) rfl)) (fun s' hZ => notFace_of_selects (args := #[]) (mv hZ (hw _ (List.mem_of_getElem? (i := 61) rfl)))) (hw _ (List.mem_of_getElem? (i := 61) rfl)) (hw _ (List.mem_of_getElem? (i := 60) rfl)) (by decide) (W := 0) (a := sy0) (argsL := [.null]) (rest := []) (Pays.of_met (rm_eqn l Z a0 G1 G3 e0 e1 e2 e3 e4 sy0 sy1 sy2 sy3 sy4 ty0 ty1 ty2 ty3 ty4 vv ky0 ky1 ky2 ky3 ky4 kv hX hY n0 bk h_2 O_4 sy0  []) (hw _ (List.mem_of_getElem? (i := 62) rfl)) (hw _ (List.mem_of_getElem? (i := 9) rfl)) (by decide) (by decide)) F_14 rfl (by rw [hml]; rfl) (lenOf pd__28_Ljava_2f_lang_2f_Object_3b__29_Z rfl) rfl (by show 2 * 0 + _ ≤ _; exact Nat.le_of_eq rfl) (hb hby d_prog_35_m_5_25) (by decide) (by decide) ?_
  intro v_15 h_16 bk_17 O_18 z_19 Q_20
  obtain ⟨rfl, rfl, rfl⟩ := Q_20
  show Run p l e _ s m _ below meth c Z EL1 _ n0 bk h_2 1 5 (mkF m 28 #[.val .null, .val (.ref a_7), .val (.int (5 : Int32)), .val (.int (0 : Int32)), .val (.ref e0)] [(.int (0 : Int32))]) _
  refine k_pure (g' := (mkF m 34 #[.val .null, .val (.ref a_7), .val (.int (5 : Int32)), .val (.int (0 : Int32)), .val (.ref e0)] [])) (fun TT HH tt kk => XS.ifYes HH hx rfl (pc0 := 28) (pc' := 34) rfl (hb hby d_prog_35_m_5_28) rfl ((if0 _ _).trans (teq (by decide : ((0 : Int32) = (0 : Int32)))).1) (by decide) (by decide) kk) ?_
  refine k_pure (g' := (mkF m 37 #[.val .null, .val (.ref a_7), .val (.int (5 : Int32)), .val (.int (1 : Int32)), .val (.ref e0)] [])) (fun TT HH tt kk => XS.iinc HH hx rfl (hb hby d_prog_35_m_5_34) rfl (l' := #[.val .null, .val (.ref a_7), .val (.int (5 : Int32)), .val (.int (1 : Int32)), .val (.ref e0)]) rfl kk) ?_
  refine k_pure (g' := (mkF m 9 #[.val .null, .val (.ref a_7), .val (.int (5 : Int32)), .val (.int (1 : Int32)), .val (.ref e0)] [])) (fun TT HH tt kk => XS.goto HH hx rfl (pc0 := 37) (pc' := 9) rfl (hb hby d_prog_35_m_5_37) (by decide) (by decide) kk) ?_
  refine k_pure (g' := (mkF m 10 #[.val .null, .val (.ref a_7), .val (.int (5 : Int32)), .val (.int (1 : Int32)), .val (.ref e0)] [(.int (1 : Int32))])) (fun TT HH tt kk => XS.iloadN HH hx rfl (hb hby d_prog_35_m_5_9) rfl kk) ?_
  refine k_pure (g' := (mkF m 11 #[.val .null, .val (.ref a_7), .val (.int (5 : Int32)), .val (.int (1 : Int32)), .val (.ref e0)] [(.int (5 : Int32)), (.int (1 : Int32))])) (fun TT HH tt kk => XS.iloadN HH hx rfl (hb hby d_prog_35_m_5_10) rfl kk) ?_
  refine k_pure (g' := (mkF m 14 #[.val .null, .val (.ref a_7), .val (.int (5 : Int32)), .val (.int (1 : Int32)), .val (.ref e0)] [])) (fun TT HH tt kk => XS.icmpNo HH hx rfl (hb hby d_prog_35_m_5_11) rfl (tlt (by decide : ((1 : Int32) < (5 : Int32)))).2.1 kk) ?_
  refine k_pure (g' := (mkF m 15 #[.val .null, .val (.ref a_7), .val (.int (5 : Int32)), .val (.int (1 : Int32)), .val (.ref e0)] [(.ref a_7)])) (fun TT HH tt kk => XS.aloadN HH hx rfl (hb hby d_prog_35_m_5_14) rfl rfl kk) ?_
  refine k_pure (g' := (mkF m 16 #[.val .null, .val (.ref a_7), .val (.int (5 : Int32)), .val (.int (1 : Int32)), .val (.ref e0)] [(.int (1 : Int32)), (.ref a_7)])) (fun TT HH tt kk => XS.iloadN HH hx rfl (hb hby d_prog_35_m_5_15) rfl kk) ?_
  refine k_aget hx (v := (.ref e1)) F_10 ⟨by decide, by decide⟩ rfl (Or.inr (Or.inr (Or.inr (Or.inr ⟨rfl, rfl⟩)))) rfl rfl (hb hby d_prog_35_m_5_16) ?_
  show Run p l e _ s m _ below meth c Z EL1 _ n0 bk h_2 1 5 (mkF m 17 #[.val .null, .val (.ref a_7), .val (.int (5 : Int32)), .val (.int (1 : Int32)), .val (.ref e0)] [(.ref e1)]) _
  refine k_pure (g' := (mkF m 19 #[.val .null, .val (.ref a_7), .val (.int (5 : Int32)), .val (.int (1 : Int32)), .val (.ref e1)] [])) (fun TT HH tt kk => XS.astore HH hx rfl (hb hby d_prog_35_m_5_17) rfl rfl (l' := #[.val .null, .val (.ref a_7), .val (.int (5 : Int32)), .val (.int (1 : Int32)), .val (.ref e1)]) rfl kk) ?_
  refine k_pure (g' := (mkF m 21 #[.val .null, .val (.ref a_7), .val (.int (5 : Int32)), .val (.int (1 : Int32)), .val (.ref e1)] [(.ref e1)])) (fun TT HH tt kk => XS.aload HH hx rfl (hb hby d_prog_35_m_5_19) rfl rfl kk) ?_
  have F_21 : Fld Z h_2 e1 "com/example/lean_entities/leanentities/session/RawQuery$Operator" "symbol" "Ljava/lang/String;" (.ref sy1) := fE1.ext O_4.2
  refine k_getF hx (host := "") (Or.inl (hw _ (List.mem_of_getElem? (i := 56) rfl))) Via.refl F_21 rfl rfl (hb hby d_prog_35_m_5_21) ?_
  show Run p l e _ s m _ below meth c Z EL1 _ n0 bk h_2 1 5 (mkF m 24 #[.val .null, .val (.ref a_7), .val (.int (5 : Int32)), .val (.int (1 : Int32)), .val (.ref e1)] [(.ref sy1)]) _
  refine k_pure (g' := (mkF m 25 #[.val .null, .val (.ref a_7), .val (.int (5 : Int32)), .val (.int (1 : Int32)), .val (.ref e1)] [.null, (.ref sy1)])) (fun TT HH tt kk => XS.aloadN HH hx rfl (hb hby d_prog_35_m_5_24) rfl rfl kk) ?_
  have F_22 : Exa Z h_2 sy1 "java/lang/String" := tE1.1.ext O_4.2
  refine k_callV hx (y := (⟨"java/lang/String", "equals", "(Ljava/lang/Object;)Z"⟩ : MethodName)) (z := (⟨"java/lang/String", "equals", "(Ljava/lang/Object;)Z"⟩ : MethodName)) (hw _ (List.mem_of_getElem? (i := 58) rfl)) (hw _ (List.mem_of_getElem? (i := 59) rfl)) (fun s' hZ => notFace_of_selects (args := #[]) (mv hZ (hw _ (List.mem_of_getElem? (i := 61) rfl)))) (hw _ (List.mem_of_getElem? (i := 61) rfl)) (hw _ (List.mem_of_getElem? (i := 60) rfl)) (by decide) (W := 0) (a := sy1) (argsL := [.null]) (rest := []) (Pays.of_met (rm_eqn l Z a0 G1 G3 e0 e1 e2 e3 e4 sy0 sy1 sy2 sy3 sy4 ty0 ty1 ty2 ty3 ty4 vv ky0 ky1 ky2 ky3 ky4 kv hX hY n0 bk h_2 O_4 sy1  []) (hw _ (List.mem_of_getElem? (i := 62) rfl)) (hw _ (List.mem_of_getElem? (i := 9) rfl)) (by decide) (by decide)) F_22 rfl (by rw [hml]; rfl) (lenOf pd__28_Ljava_2f_lang_2f_Object_3b__29_Z rfl) rfl (by show 2 * 0 + _ ≤ _; exact Nat.le_of_eq rfl) (hb hby d_prog_35_m_5_25) (by decide) (by decide) ?_
  intro v_23 h_24 bk_25 O_26 z_27 Q_28
  obtain ⟨rfl, rfl, rfl⟩ := Q_28
  show Run p l e _ s m _ below meth c Z EL1 _ n0 bk h_2 1 5 (mkF m 28 #[.val .null, .val (.ref a_7), .val (.int (5 : Int32)), .val (.int (1 : Int32)), .val (.ref e1)] [(.int (0 : Int32))]) _
  refine k_pure (g' := (mkF m 34 #[.val .null, .val (.ref a_7), .val (.int (5 : Int32)), .val (.int (1 : Int32)), .val (.ref e1)] [])) (fun TT HH tt kk => XS.ifYes HH hx rfl (pc0 := 28) (pc' := 34) rfl (hb hby d_prog_35_m_5_28) rfl ((if0 _ _).trans (teq (by decide : ((0 : Int32) = (0 : Int32)))).1) (by decide) (by decide) kk) ?_
  refine k_pure (g' := (mkF m 37 #[.val .null, .val (.ref a_7), .val (.int (5 : Int32)), .val (.int (2 : Int32)), .val (.ref e1)] [])) (fun TT HH tt kk => XS.iinc HH hx rfl (hb hby d_prog_35_m_5_34) rfl (l' := #[.val .null, .val (.ref a_7), .val (.int (5 : Int32)), .val (.int (2 : Int32)), .val (.ref e1)]) rfl kk) ?_
  refine k_pure (g' := (mkF m 9 #[.val .null, .val (.ref a_7), .val (.int (5 : Int32)), .val (.int (2 : Int32)), .val (.ref e1)] [])) (fun TT HH tt kk => XS.goto HH hx rfl (pc0 := 37) (pc' := 9) rfl (hb hby d_prog_35_m_5_37) (by decide) (by decide) kk) ?_
  refine k_pure (g' := (mkF m 10 #[.val .null, .val (.ref a_7), .val (.int (5 : Int32)), .val (.int (2 : Int32)), .val (.ref e1)] [(.int (2 : Int32))])) (fun TT HH tt kk => XS.iloadN HH hx rfl (hb hby d_prog_35_m_5_9) rfl kk) ?_
  refine k_pure (g' := (mkF m 11 #[.val .null, .val (.ref a_7), .val (.int (5 : Int32)), .val (.int (2 : Int32)), .val (.ref e1)] [(.int (5 : Int32)), (.int (2 : Int32))])) (fun TT HH tt kk => XS.iloadN HH hx rfl (hb hby d_prog_35_m_5_10) rfl kk) ?_
  refine k_pure (g' := (mkF m 14 #[.val .null, .val (.ref a_7), .val (.int (5 : Int32)), .val (.int (2 : Int32)), .val (.ref e1)] [])) (fun TT HH tt kk => XS.icmpNo HH hx rfl (hb hby d_prog_35_m_5_11) rfl (tlt (by decide : ((2 : Int32) < (5 : Int32)))).2.1 kk) ?_
  refine k_pure (g' := (mkF m 15 #[.val .null, .val (.ref a_7), .val (.int (5 : Int32)), .val (.int (2 : Int32)), .val (.ref e1)] [(.ref a_7)])) (fun TT HH tt kk => XS.aloadN HH hx rfl (hb hby d_prog_35_m_5_14) rfl rfl kk) ?_
  refine k_pure (g' := (mkF m 16 #[.val .null, .val (.ref a_7), .val (.int (5 : Int32)), .val (.int (2 : Int32)), .val (.ref e1)] [(.int (2 : Int32)), (.ref a_7)])) (fun TT HH tt kk => XS.iloadN HH hx rfl (hb hby d_prog_35_m_5_15) rfl kk) ?_
  refine k_aget hx (v := (.ref e2)) F_10 ⟨by decide, by decide⟩ rfl (Or.inr (Or.inr (Or.inr (Or.inr ⟨rfl, rfl⟩)))) rfl rfl (hb hby d_prog_35_m_5_16) ?_
  show Run p l e _ s m _ below meth c Z EL1 _ n0 bk h_2 1 5 (mkF m 17 #[.val .null, .val (.ref a_7), .val (.int (5 : Int32)), .val (.int (2 : Int32)), .val (.ref e1)] [(.ref e2)]) _
  refine k_pure (g' := (mkF m 19 #[.val .null, .val (.ref a_7), .val (.int (5 : Int32)), .val (.int (2 : Int32)), .val (.ref e2)] [])) (fun TT HH tt kk => XS.astore HH hx rfl (hb hby d_prog_35_m_5_17) rfl rfl (l' := #[.val .null, .val (.ref a_7), .val (.int (5 : Int32)), .val (.int (2 : Int32)), .val (.ref e2)]) rfl kk) ?_
  refine k_pure (g' := (mkF m 21 #[.val .null, .val (.ref a_7), .val (.int (5 : Int32)), .val (.int (2 : Int32)), .val (.ref e2)] [(.ref e2)])) (fun TT HH tt kk => XS.aload HH hx rfl (hb hby d_prog_35_m_5_19) rfl rfl kk) ?_
  have F_29 : Fld Z h_2 e2 "com/example/lean_entities/leanentities/session/RawQuery$Operator" "symbol" "Ljava/lang/String;" (.ref sy2) := fE2.ext O_4.2
  refine k_getF hx (host := "") (Or.inl (hw _ (List.mem_of_getElem? (i := 56) rfl))) Via.refl F_29 rfl rfl (hb hby d_prog_35_m_5_21) ?_
  show Run p l e _ s m _ below meth c Z EL1 _ n0 bk h_2 1 5 (mkF m 24 #[.val .null, .val (.ref a_7), .val (.int (5 : Int32)), .val (.int (2 : Int32)), .val (.ref e2)] [(.ref sy2)]) _
  refine k_pure (g' := (mkF m 25 #[.val .null, .val (.ref a_7), .val (.int (5 : Int32)), .val (.int (2 : Int32)), .val (.ref e2)] [.null, (.ref sy2)])) (fun TT HH tt kk => XS.aloadN HH hx rfl (hb hby d_prog_35_m_5_24) rfl rfl kk) ?_
  have F_30 : Exa Z h_2 sy2 "java/lang/String" := tE2.1.ext O_4.2
  refine k_callV hx (y := (⟨"java/lang/String", "equals", "(Ljava/lang/Object;)Z"⟩ : MethodName)) (z := (⟨"java/lang/String", "equals", "(Ljava/lang/Object;)Z"⟩ : MethodName)) (hw _ (List.mem_of_getElem? (i := 58) rfl)) (hw _ (List.mem_of_getElem? (i := 59) rfl)) (fun s' hZ => notFace_of_selects (args := #[]) (mv hZ (hw _ (List.mem_of_getElem? (i := 61) rfl)))) (hw _ (List.mem_of_getElem? (i := 61) rfl)) (hw _ (List.mem_of_getElem? (i := 60) rfl)) (by decide) (W := 0) (a := sy2) (argsL := [.null]) (rest := []) (Pays.of_met (rm_eqn l Z a0 G1 G3 e0 e1 e2 e3 e4 sy0 sy1 sy2 sy3 sy4 ty0 ty1 ty2 ty3 ty4 vv ky0 ky1 ky2 ky3 ky4 kv hX hY n0 bk h_2 O_4 sy2  []) (hw _ (List.mem_of_getElem? (i := 62) rfl)) (hw _ (List.mem_of_getElem? (i := 9) rfl)) (by decide) (by decide)) F_30 rfl (by rw [hml]; rfl) (lenOf pd__28_Ljava_2f_lang_2f_Object_3b__29_Z rfl) rfl (by show 2 * 0 + _ ≤ _; exact Nat.le_of_eq rfl) (hb hby d_prog_35_m_5_25) (by decide) (by decide) ?_
  intro v_31 h_32 bk_33 O_34 z_35 Q_36
  obtain ⟨rfl, rfl, rfl⟩ := Q_36
  show Run p l e _ s m _ below meth c Z EL1 _ n0 bk h_2 1 5 (mkF m 28 #[.val .null, .val (.ref a_7), .val (.int (5 : Int32)), .val (.int (2 : Int32)), .val (.ref e2)] [(.int (0 : Int32))]) _
  refine k_pure (g' := (mkF m 34 #[.val .null, .val (.ref a_7), .val (.int (5 : Int32)), .val (.int (2 : Int32)), .val (.ref e2)] [])) (fun TT HH tt kk => XS.ifYes HH hx rfl (pc0 := 28) (pc' := 34) rfl (hb hby d_prog_35_m_5_28) rfl ((if0 _ _).trans (teq (by decide : ((0 : Int32) = (0 : Int32)))).1) (by decide) (by decide) kk) ?_
  refine k_pure (g' := (mkF m 37 #[.val .null, .val (.ref a_7), .val (.int (5 : Int32)), .val (.int (3 : Int32)), .val (.ref e2)] [])) (fun TT HH tt kk => XS.iinc HH hx rfl (hb hby d_prog_35_m_5_34) rfl (l' := #[.val .null, .val (.ref a_7), .val (.int (5 : Int32)), .val (.int (3 : Int32)), .val (.ref e2)]) rfl kk) ?_
  refine k_pure (g' := (mkF m 9 #[.val .null, .val (.ref a_7), .val (.int (5 : Int32)), .val (.int (3 : Int32)), .val (.ref e2)] [])) (fun TT HH tt kk => XS.goto HH hx rfl (pc0 := 37) (pc' := 9) rfl (hb hby d_prog_35_m_5_37) (by decide) (by decide) kk) ?_
  refine k_pure (g' := (mkF m 10 #[.val .null, .val (.ref a_7), .val (.int (5 : Int32)), .val (.int (3 : Int32)), .val (.ref e2)] [(.int (3 : Int32))])) (fun TT HH tt kk => XS.iloadN HH hx rfl (hb hby d_prog_35_m_5_9) rfl kk) ?_
  refine k_pure (g' := (mkF m 11 #[.val .null, .val (.ref a_7), .val (.int (5 : Int32)), .val (.int (3 : Int32)), .val (.ref e2)] [(.int (5 : Int32)), (.int (3 : Int32))])) (fun TT HH tt kk => XS.iloadN HH hx rfl (hb hby d_prog_35_m_5_10) rfl kk) ?_
  refine k_pure (g' := (mkF m 14 #[.val .null, .val (.ref a_7), .val (.int (5 : Int32)), .val (.int (3 : Int32)), .val (.ref e2)] [])) (fun TT HH tt kk => XS.icmpNo HH hx rfl (hb hby d_prog_35_m_5_11) rfl (tlt (by decide : ((3 : Int32) < (5 : Int32)))).2.1 kk) ?_
  refine k_pure (g' := (mkF m 15 #[.val .null, .val (.ref a_7), .val (.int (5 : Int32)), .val (.int (3 : Int32)), .val (.ref e2)] [(.ref a_7)])) (fun TT HH tt kk => XS.aloadN HH hx rfl (hb hby d_prog_35_m_5_14) rfl rfl kk) ?_
  refine k_pure (g' := (mkF m 16 #[.val .null, .val (.ref a_7), .val (.int (5 : Int32)), .val (.int (3 : Int32)), .val (.ref e2)] [(.int (3 : Int32)), (.ref a_7)])) (fun TT HH tt kk => XS.iloadN HH hx rfl (hb hby d_prog_35_m_5_15) rfl kk) ?_
  refine k_aget hx (v := (.ref e3)) F_10 ⟨by decide, by decide⟩ rfl (Or.inr (Or.inr (Or.inr (Or.inr ⟨rfl, rfl⟩)))) rfl rfl (hb hby d_prog_35_m_5_16) ?_
  show Run p l e _ s m _ below meth c Z EL1 _ n0 bk h_2 1 5 (mkF m 17 #[.val .null, .val (.ref a_7), .val (.int (5 : Int32)), .val (.int (3 : Int32)), .val (.ref e2)] [(.ref e3)]) _
  refine k_pure (g' := (mkF m 19 #[.val .null, .val (.ref a_7), .val (.int (5 : Int32)), .val (.int (3 : Int32)), .val (.ref e3)] [])) (fun TT HH tt kk => XS.astore HH hx rfl (hb hby d_prog_35_m_5_17) rfl rfl (l' := #[.val .null, .val (.ref a_7), .val (.int (5 : Int32)), .val (.int (3 : Int32)), .val (.ref e3)]) rfl kk) ?_
  refine k_pure (g' := (mkF m 21 #[.val .null, .val (.ref a_7), .val (.int (5 : Int32)), .val (.int (3 : Int32)), .val (.ref e3)] [(.ref e3)])) (fun TT HH tt kk => XS.aload HH hx rfl (hb hby d_prog_35_m_5_19) rfl rfl kk) ?_
  have F_37 : Fld Z h_2 e3 "com/example/lean_entities/leanentities/session/RawQuery$Operator" "symbol" "Ljava/lang/String;" (.ref sy3) := fE3.ext O_4.2
  refine k_getF hx (host := "") (Or.inl (hw _ (List.mem_of_getElem? (i := 56) rfl))) Via.refl F_37 rfl rfl (hb hby d_prog_35_m_5_21) ?_
  show Run p l e _ s m _ below meth c Z EL1 _ n0 bk h_2 1 5 (mkF m 24 #[.val .null, .val (.ref a_7), .val (.int (5 : Int32)), .val (.int (3 : Int32)), .val (.ref e3)] [(.ref sy3)]) _
  refine k_pure (g' := (mkF m 25 #[.val .null, .val (.ref a_7), .val (.int (5 : Int32)), .val (.int (3 : Int32)), .val (.ref e3)] [.null, (.ref sy3)])) (fun TT HH tt kk => XS.aloadN HH hx rfl (hb hby d_prog_35_m_5_24) rfl rfl kk) ?_
  have F_38 : Exa Z h_2 sy3 "java/lang/String" := tE3.1.ext O_4.2
  refine k_callV hx (y := (⟨"java/lang/String", "equals", "(Ljava/lang/Object;)Z"⟩ : MethodName)) (z := (⟨"java/lang/String", "equals", "(Ljava/lang/Object;)Z"⟩ : MethodName)) (hw _ (List.mem_of_getElem? (i := 58) rfl)) (hw _ (List.mem_of_getElem? (i := 59) rfl)) (fun s' hZ => notFace_of_selects (args := #[]) (mv hZ (hw _ (List.mem_of_getElem? (i := 61) rfl)))) (hw _ (List.mem_of_getElem? (i := 61) rfl)) (hw _ (List.mem_of_getElem? (i := 60) rfl)) (by decide) (W := 0) (a := sy3) (argsL := [.null]) (rest := []) (Pays.of_met (rm_eqn l Z a0 G1 G3 e0 e1 e2 e3 e4 sy0 sy1 sy2 sy3 sy4 ty0 ty1 ty2 ty3 ty4 vv ky0 ky1 ky2 ky3 ky4 kv hX hY n0 bk h_2 O_4 sy3  []) (hw _ (List.mem_of_getElem? (i := 62) rfl)) (hw _ (List.mem_of_getElem? (i := 9) rfl)) (by decide) (by decide)) F_38 rfl (by rw [hml]; rfl) (lenOf pd__28_Ljava_2f_lang_2f_Object_3b__29_Z rfl) rfl (by show 2 * 0 + _ ≤ _; exact Nat.le_of_eq rfl) (hb hby d_prog_35_m_5_25) (by decide) (by decide) ?_
  intro v_39 h_40 bk_41 O_42 z_43 Q_44
  obtain ⟨rfl, rfl, rfl⟩ := Q_44
  show Run p l e _ s m _ below meth c Z EL1 _ n0 bk h_2 1 5 (mkF m 28 #[.val .null, .val (.ref a_7), .val (.int (5 : Int32)), .val (.int (3 : Int32)), .val (.ref e3)] [(.int (0 : Int32))]) _
  refine k_pure (g' := (mkF m 34 #[.val .null, .val (.ref a_7), .val (.int (5 : Int32)), .val (.int (3 : Int32)), .val (.ref e3)] [])) (fun TT HH tt kk => XS.ifYes HH hx rfl (pc0 := 28) (pc' := 34) rfl (hb hby d_prog_35_m_5_28) rfl ((if0 _ _).trans (teq (by decide : ((0 : Int32) = (0 : Int32)))).1) (by decide) (by decide) kk) ?_
  refine k_pure (g' := (mkF m 37 #[.val .null, .val (.ref a_7), .val (.int (5 : Int32)), .val (.int (4 : Int32)), .val (.ref e3)] [])) (fun TT HH tt kk => XS.iinc HH hx rfl (hb hby d_prog_35_m_5_34) rfl (l' := #[.val .null, .val (.ref a_7), .val (.int (5 : Int32)), .val (.int (4 : Int32)), .val (.ref e3)]) rfl kk) ?_
  refine k_pure (g' := (mkF m 9 #[.val .null, .val (.ref a_7), .val (.int (5 : Int32)), .val (.int (4 : Int32)), .val (.ref e3)] [])) (fun TT HH tt kk => XS.goto HH hx rfl (pc0 := 37) (pc' := 9) rfl (hb hby d_prog_35_m_5_37) (by decide) (by decide) kk) ?_
  refine k_pure (g' := (mkF m 10 #[.val .null, .val (.ref a_7), .val (.int (5 : Int32)), .val (.int (4 : Int32)), .val (.ref e3)] [(.int (4 : Int32))])) (fun TT HH tt kk => XS.iloadN HH hx rfl (hb hby d_prog_35_m_5_9) rfl kk) ?_
  refine k_pure (g' := (mkF m 11 #[.val .null, .val (.ref a_7), .val (.int (5 : Int32)), .val (.int (4 : Int32)), .val (.ref e3)] [(.int (5 : Int32)), (.int (4 : Int32))])) (fun TT HH tt kk => XS.iloadN HH hx rfl (hb hby d_prog_35_m_5_10) rfl kk) ?_
  refine k_pure (g' := (mkF m 14 #[.val .null, .val (.ref a_7), .val (.int (5 : Int32)), .val (.int (4 : Int32)), .val (.ref e3)] [])) (fun TT HH tt kk => XS.icmpNo HH hx rfl (hb hby d_prog_35_m_5_11) rfl (tlt (by decide : ((4 : Int32) < (5 : Int32)))).2.1 kk) ?_
  refine k_pure (g' := (mkF m 15 #[.val .null, .val (.ref a_7), .val (.int (5 : Int32)), .val (.int (4 : Int32)), .val (.ref e3)] [(.ref a_7)])) (fun TT HH tt kk => XS.aloadN HH hx rfl (hb hby d_prog_35_m_5_14) rfl rfl kk) ?_
  refine k_pure (g' := (mkF m 16 #[.val .null, .val (.ref a_7), .val (.int (5 : Int32)), .val (.int (4 : Int32)), .val (.ref e3)] [(.int (4 : Int32)), (.ref a_7)])) (fun TT HH tt kk => XS.iloadN HH hx rfl (hb hby d_prog_35_m_5_15) rfl kk) ?_
  refine k_aget hx (v := (.ref e4)) F_10 ⟨by decide, by decide⟩ rfl (Or.inr (Or.inr (Or.inr (Or.inr ⟨rfl, rfl⟩)))) rfl rfl (hb hby d_prog_35_m_5_16) ?_
  show Run p l e _ s m _ below meth c Z EL1 _ n0 bk h_2 1 5 (mkF m 17 #[.val .null, .val (.ref a_7), .val (.int (5 : Int32)), .val (.int (4 : Int32)), .val (.ref e3)] [(.ref e4)]) _
  refine k_pure (g' := (mkF m 19 #[.val .null, .val (.ref a_7), .val (.int (5 : Int32)), .val (.int (4 : Int32)), .val (.ref e4)] [])) (fun TT HH tt kk => XS.astore HH hx rfl (hb hby d_prog_35_m_5_17) rfl rfl (l' := #[.val .null, .val (.ref a_7), .val (.int (5 : Int32)), .val (.int (4 : Int32)), .val (.ref e4)]) rfl kk) ?_
  refine k_pure (g' := (mkF m 21 #[.val .null, .val (.ref a_7), .val (.int (5 : Int32)), .val (.int (4 : Int32)), .val (.ref e4)] [(.ref e4)])) (fun TT HH tt kk => XS.aload HH hx rfl (hb hby d_prog_35_m_5_19) rfl rfl kk) ?_
  have F_45 : Fld Z h_2 e4 "com/example/lean_entities/leanentities/session/RawQuery$Operator" "symbol" "Ljava/lang/String;" (.ref sy4) := fE4.ext O_4.2
  refine k_getF hx (host := "") (Or.inl (hw _ (List.mem_of_getElem? (i := 56) rfl))) Via.refl F_45 rfl rfl (hb hby d_prog_35_m_5_21) ?_
  show Run p l e _ s m _ below meth c Z EL1 _ n0 bk h_2 1 5 (mkF m 24 #[.val .null, .val (.ref a_7), .val (.int (5 : Int32)), .val (.int (4 : Int32)), .val (.ref e4)] [(.ref sy4)]) _
  refine k_pure (g' := (mkF m 25 #[.val .null, .val (.ref a_7), .val (.int (5 : Int32)), .val (.int (4 : Int32)), .val (.ref e4)] [.null, (.ref sy4)])) (fun TT HH tt kk => XS.aloadN HH hx rfl (hb hby d_prog_35_m_5_24) rfl rfl kk) ?_
  have F_46 : Exa Z h_2 sy4 "java/lang/String" := tE4.1.ext O_4.2
  refine k_callV hx (y := (⟨"java/lang/String", "equals", "(Ljava/lang/Object;)Z"⟩ : MethodName)) (z := (⟨"java/lang/String", "equals", "(Ljava/lang/Object;)Z"⟩ : MethodName)) (hw _ (List.mem_of_getElem? (i := 58) rfl)) (hw _ (List.mem_of_getElem? (i := 59) rfl)) (fun s' hZ => notFace_of_selects (args := #[]) (mv hZ (hw _ (List.mem_of_getElem? (i := 61) rfl)))) (hw _ (List.mem_of_getElem? (i := 61) rfl)) (hw _ (List.mem_of_getElem? (i := 60) rfl)) (by decide) (W := 0) (a := sy4) (argsL := [.null]) (rest := []) (Pays.of_met (rm_eqn l Z a0 G1 G3 e0 e1 e2 e3 e4 sy0 sy1 sy2 sy3 sy4 ty0 ty1 ty2 ty3 ty4 vv ky0 ky1 ky2 ky3 ky4 kv hX hY n0 bk h_2 O_4 sy4  []) (hw _ (List.mem_of_getElem? (i := 62) rfl)) (hw _ (List.mem_of_getElem? (i := 9) rfl)) (by decide) (by decide)) F_46 rfl (by rw [hml]; rfl) (lenOf pd__28_Ljava_2f_lang_2f_Object_3b__29_Z rfl) rfl (by show 2 * 0 + _ ≤ _; exact Nat.le_of_eq rfl) (hb hby d_prog_35_m_5_25) (by decide) (by decide) ?_
  intro v_47 h_48 bk_49 O_50 z_51 Q_52
  obtain ⟨rfl, rfl, rfl⟩ := Q_52
  show Run p l e _ s m _ below meth c Z EL1 _ n0 bk h_2 1 5 (mkF m 28 #[.val .null, .val (.ref a_7), .val (.int (5 : Int32)), .val (.int (4 : Int32)), .val (.ref e4)] [(.int (0 : Int32))]) _
  refine k_pure (g' := (mkF m 34 #[.val .null, .val (.ref a_7), .val (.int (5 : Int32)), .val (.int (4 : Int32)), .val (.ref e4)] [])) (fun TT HH tt kk => XS.ifYes HH hx rfl (pc0 := 28) (pc' := 34) rfl (hb hby d_prog_35_m_5_28) rfl ((if0 _ _).trans (teq (by decide : ((0 : Int32) = (0 : Int32)))).1) (by decide) (by decide) kk) ?_
  refine k_pure (g' := (mkF m 37 #[.val .null, .val (.ref a_7), .val (.int (5 : Int32)), .val (.int (5 : Int32)), .val (.ref e4)] [])) (fun TT HH tt kk => XS.iinc HH hx rfl (hb hby d_prog_35_m_5_34) rfl (l' := #[.val .null, .val (.ref a_7), .val (.int (5 : Int32)), .val (.int (5 : Int32)), .val (.ref e4)]) rfl kk) ?_
  refine k_pure (g' := (mkF m 9 #[.val .null, .val (.ref a_7), .val (.int (5 : Int32)), .val (.int (5 : Int32)), .val (.ref e4)] [])) (fun TT HH tt kk => XS.goto HH hx rfl (pc0 := 37) (pc' := 9) rfl (hb hby d_prog_35_m_5_37) (by decide) (by decide) kk) ?_
  refine k_pure (g' := (mkF m 10 #[.val .null, .val (.ref a_7), .val (.int (5 : Int32)), .val (.int (5 : Int32)), .val (.ref e4)] [(.int (5 : Int32))])) (fun TT HH tt kk => XS.iloadN HH hx rfl (hb hby d_prog_35_m_5_9) rfl kk) ?_
  refine k_pure (g' := (mkF m 11 #[.val .null, .val (.ref a_7), .val (.int (5 : Int32)), .val (.int (5 : Int32)), .val (.ref e4)] [(.int (5 : Int32)), (.int (5 : Int32))])) (fun TT HH tt kk => XS.iloadN HH hx rfl (hb hby d_prog_35_m_5_10) rfl kk) ?_
  refine k_pure (g' := (mkF m 40 #[.val .null, .val (.ref a_7), .val (.int (5 : Int32)), .val (.int (5 : Int32)), .val (.ref e4)] [])) (fun TT HH tt kk => XS.icmpYes HH hx rfl (pc0 := 11) (pc' := 40) rfl (hb hby d_prog_35_m_5_11) rfl (flt (by decide : ¬ ((5 : Int32) < (5 : Int32)))).2.1 (by decide) (by decide) kk) ?_
  refine k_pure (g' := (mkF m 41 #[.val .null, .val (.ref a_7), .val (.int (5 : Int32)), .val (.int (5 : Int32)), .val (.ref e4)] [.null])) (fun TT HH tt kk => XS.aconstNull HH hx rfl (hb hby d_prog_35_m_5_40) kk) ?_
  exact k_retA hx hlk hret rfl rfl rfl (hb hby d_prog_35_m_5_41) (by decide) (by decide) ⟨rfl, rfl, ((Keep.refl _ _).trans K_8 kk0)⟩
def Q_ofs1 (Z : State) (G1 : Int32) (G3 : Value) (e0 e1 e2 e3 e4 sy0 sy1 sy2 sy3 sy4 ty0 ty1 ty2 ty3 ty4 vv : Addr) (ky0 ky1 ky2 ky3 ky4 kv : ClassId) (a : Addr) (t : Addr) (kb : ClassId) (cs : List Int32) (h0 : Heap) (n0 : Nat) (bk : Addr → Prop) (v : Option Value) (h : Heap) (bk' : Addr → Prop) : Prop := v = some (opOf e0 e1 e2 e3 e4 cs) ∧ bk = bk' ∧ Keep h0 h []
theorem d_prog_35_m_5_31 : decode prog_35_method_5_code 31 = .ok (.aload 4, 2) := by decide +kernel
theorem d_prog_35_m_5_33 : decode prog_35_method_5_code 33 = .ok (.areturn, 1) := by decide +kernel
abbrev RM_ofs1 : Room := { frames := 2, cells := 1, slots := 5, locals := 28 }
theorem ef_ofs1 (m : MethodId) (x0 : Addr) : entryFrame m #[(.ref x0)] 5 = mkF m 0 #[.val (.ref x0), .unset, .unset, .unset, .unset] [] := by first | (simp [entryFrame, mkF, argsToLocals, Value.category]; done) | rfl
set_option maxRecDepth 65536 in
set_option maxHeartbeats 40000000 in
theorem rm_ofs1 (l : Launch) (Z : State) (a0 : Array Value) (G1 : Int32) (G3 : Value) (e0 e1 e2 e3 e4 sy0 sy1 sy2 sy3 sy4 ty0 ty1 ty2 ty3 ty4 vv : Addr) (ky0 ky1 ky2 ky3 ky4 kv : ClassId) (hX : Ctx Z a0 G1 G3) (hY : More Z e0 e1 e2 e3 e4 sy0 sy1 sy2 sy3 sy4 ty0 ty1 ty2 ty3 ty4 vv ky0 ky1 ky2 ky3 ky4 kv) (n0 : Nat) (bk : Addr → Prop) (h0 : Heap) (O0 : Old Z n0 h0) (a : Addr) (t : Addr) (kb : ClassId) (cs : List Int32) (pf_0 : StrL Z h0 a t kb cs) (hbl : ∀ y, bk y → @LT.lt Nat _ y (Array.size h0)) (ws : List Jvm.Cond) : Met l Z EL1 n0 bk (⟨"com/example/lean_entities/leanentities/session/RawQuery$Operator", "ofSymbol", "(Ljava/lang/String;)Lcom/example/lean_entities/leanentities/session/RawQuery$Operator;"⟩ : MethodName) prog_35_method_5_code 5 (Option.some (FieldType.object "com/example/lean_entities/leanentities/session/RawQuery$Operator")) RM_ofs1 #[(.ref a)] h0 (Q_ofs1 Z G1 G3 e0 e1 e2 e3 e4 sy0 sy1 sy2 sy3 sy4 ty0 ty1 ty2 ty3 ty4 vv ky0 ky1 ky2 ky3 ky4 kv a t kb cs h0 n0 bk) ws := by
  have hX' := hX
  obtain ⟨hw, hE, S1, P1, S3, P3⟩ := hX'
  have hY' := hY
  obtain ⟨sV, xV, aV, sE0, xE0, fE0, tE0, sE1, xE1, fE1, tE1, sE2, xE2, fE2, tE2, sE3, xE3, fE3, tE3, sE4, xE4, fE4, tE4⟩ := hY'
  have hSA := sa_of hw
  have z0 : n0 ≤ h0.size := by rw [← O0.1]; exact O0.2.1
  refine Met.of (by decide +kernel) O0 hE ?_
  intro p e s m below meth c hx hby hml hret hlk hnm
  refine k_cast (ef_ofs1 m a) ?_
  show Run p l e _ s m _ below meth c Z EL1 _ n0 bk h0 0 0 (mkF m 0 #[.val (.ref a), .unset, .unset, .unset, .unset] []) _
  have lt_1 : @LT.lt Nat _ a (Array.size h0) := pf_0.lt1
  have lt_2 : @LT.lt Nat _ t (Array.size h0) := pf_0.lt2
  refine k_callS hx (y := (⟨"com/example/lean_entities/leanentities/session/RawQuery$Operator", "values", "()[Lcom/example/lean_entities/leanentities/session/RawQuery$Operator;"⟩ : MethodName)) (hw _ (List.mem_of_getElem? (i := 36) rfl)) (hw _ (List.mem_of_getElem? (i := 37) rfl)) (hw _ (List.mem_of_getElem? (i := 34) rfl)) (hw _ (List.mem_of_getElem? (i := 38) rfl)) (by decide) (W := 0) (argsL := []) (rest := []) (Pays.of_met (rm_vals l Z a0 G1 G3 e0 e1 e2 e3 e4 sy0 sy1 sy2 sy3 sy4 ty0 ty1 ty2 ty3 ty4 vv ky0 ky1 ky2 ky3 ky4 kv hX hY n0 bk h0 O0  hbl []) (hw _ (List.mem_of_getElem? (i := 38) rfl)) (hw _ (List.mem_of_getElem? (i := 34) rfl)) (by decide) (by decide)) rfl (by rw [hml]; rfl) (lenOf pd__28__29__5b_Lcom_2f_example_2f_lean_entities_2f_leanentities_2f_session_2f_RawQuery_24_Operator_3b_ rfl) rfl (by show 2 * 0 + _ ≤ _; exact Nat.le_of_eq rfl) (hb hby d_prog_35_m_5_0) (by decide) (by decide) ?_
  intro v_3 h_4 bk_5 O_6 z_7 Q_8
  obtain ⟨a_9, rfl, rfl, K_10, F_11, F_12⟩ := Q_8
  have lt_13 : @LT.lt Nat _ a_9 (Array.size h_4) := F_11.lt
  have lt_14 : @LT.lt Nat _ a_9 (Array.size h_4) := F_12.lt
  show Run p l e _ s m _ below meth c Z EL1 _ n0 bk h_4 1 5 (mkF m 3 #[.val (.ref a), .unset, .unset, .unset, .unset] [(.ref a_9)]) _
  refine k_pure (g' := (mkF m 4 #[.val (.ref a), .val (.ref a_9), .unset, .unset, .unset] [])) (fun TT HH tt kk => XS.astoreN HH hx rfl (hb hby d_prog_35_m_5_3) rfl rfl (l' := #[.val (.ref a), .val (.ref a_9), .unset, .unset, .unset]) rfl kk) ?_
  refine k_pure (g' := (mkF m 5 #[.val (.ref a), .val (.ref a_9), .unset, .unset, .unset] [(.ref a_9)])) (fun TT HH tt kk => XS.aloadN HH hx rfl (hb hby d_prog_35_m_5_4) rfl rfl kk) ?_
  refine k_alen hx F_12 rfl rfl (hb hby d_prog_35_m_5_5) ?_
  show Run p l e _ s m _ below meth c Z EL1 _ n0 bk h_4 1 5 (mkF m 6 #[.val (.ref a), .val (.ref a_9), .unset, .unset, .unset] [(.int (5 : Int32))]) _
  refine k_pure (g' := (mkF m 7 #[.val (.ref a), .val (.ref a_9), .val (.int (5 : Int32)), .unset, .unset] [])) (fun TT HH tt kk => XS.istoreN HH hx rfl (hb hby d_prog_35_m_5_6) rfl (l' := #[.val (.ref a), .val (.ref a_9), .val (.int (5 : Int32)), .unset, .unset]) rfl kk) ?_
  refine k_pure (g' := (mkF m 8 #[.val (.ref a), .val (.ref a_9), .val (.int (5 : Int32)), .unset, .unset] [(.int (0 : Int32))])) (fun TT HH tt kk => XS.iconst HH hx rfl (hb hby d_prog_35_m_5_7) kk) ?_
  refine k_pure (g' := (mkF m 9 #[.val (.ref a), .val (.ref a_9), .val (.int (5 : Int32)), .val (.int (0 : Int32)), .unset] [])) (fun TT HH tt kk => XS.istoreN HH hx rfl (hb hby d_prog_35_m_5_8) rfl (l' := #[.val (.ref a), .val (.ref a_9), .val (.int (5 : Int32)), .val (.int (0 : Int32)), .unset]) rfl kk) ?_
  refine k_pure (g' := (mkF m 10 #[.val (.ref a), .val (.ref a_9), .val (.int (5 : Int32)), .val (.int (0 : Int32)), .unset] [(.int (0 : Int32))])) (fun TT HH tt kk => XS.iloadN HH hx rfl (hb hby d_prog_35_m_5_9) rfl kk) ?_
  refine k_pure (g' := (mkF m 11 #[.val (.ref a), .val (.ref a_9), .val (.int (5 : Int32)), .val (.int (0 : Int32)), .unset] [(.int (5 : Int32)), (.int (0 : Int32))])) (fun TT HH tt kk => XS.iloadN HH hx rfl (hb hby d_prog_35_m_5_10) rfl kk) ?_
  refine k_pure (g' := (mkF m 14 #[.val (.ref a), .val (.ref a_9), .val (.int (5 : Int32)), .val (.int (0 : Int32)), .unset] [])) (fun TT HH tt kk => XS.icmpNo HH hx rfl (hb hby d_prog_35_m_5_11) rfl (tlt (by decide : ((0 : Int32) < (5 : Int32)))).2.1 kk) ?_
  refine k_pure (g' := (mkF m 15 #[.val (.ref a), .val (.ref a_9), .val (.int (5 : Int32)), .val (.int (0 : Int32)), .unset] [(.ref a_9)])) (fun TT HH tt kk => XS.aloadN HH hx rfl (hb hby d_prog_35_m_5_14) rfl rfl kk) ?_
  refine k_pure (g' := (mkF m 16 #[.val (.ref a), .val (.ref a_9), .val (.int (5 : Int32)), .val (.int (0 : Int32)), .unset] [(.int (0 : Int32)), (.ref a_9)])) (fun TT HH tt kk => XS.iloadN HH hx rfl (hb hby d_prog_35_m_5_15) rfl kk) ?_
  refine k_aget hx (v := (.ref e0)) F_12 ⟨by decide, by decide⟩ rfl (Or.inr (Or.inr (Or.inr (Or.inr ⟨rfl, rfl⟩)))) rfl rfl (hb hby d_prog_35_m_5_16) ?_
  show Run p l e _ s m _ below meth c Z EL1 _ n0 bk h_4 1 5 (mkF m 17 #[.val (.ref a), .val (.ref a_9), .val (.int (5 : Int32)), .val (.int (0 : Int32)), .unset] [(.ref e0)]) _
  refine k_pure (g' := (mkF m 19 #[.val (.ref a), .val (.ref a_9), .val (.int (5 : Int32)), .val (.int (0 : Int32)), .val (.ref e0)] [])) (fun TT HH tt kk => XS.astore HH hx rfl (hb hby d_prog_35_m_5_17) rfl rfl (l' := #[.val (.ref a), .val (.ref a_9), .val (.int (5 : Int32)), .val (.int (0 : Int32)), .val (.ref e0)]) rfl kk) ?_
  refine k_pure (g' := (mkF m 21 #[.val (.ref a), .val (.ref a_9), .val (.int (5 : Int32)), .val (.int (0 : Int32)), .val (.ref e0)] [(.ref e0)])) (fun TT HH tt kk => XS.aload HH hx rfl (hb hby d_prog_35_m_5_19) rfl rfl kk) ?_
  have F_15 : Fld Z h_4 e0 "com/example/lean_entities/leanentities/session/RawQuery$Operator" "symbol" "Ljava/lang/String;" (.ref sy0) := fE0.ext O_6.2
  refine k_getF hx (host := "") (Or.inl (hw _ (List.mem_of_getElem? (i := 56) rfl))) Via.refl F_15 rfl rfl (hb hby d_prog_35_m_5_21) ?_
  show Run p l e _ s m _ below meth c Z EL1 _ n0 bk h_4 1 5 (mkF m 24 #[.val (.ref a), .val (.ref a_9), .val (.int (5 : Int32)), .val (.int (0 : Int32)), .val (.ref e0)] [(.ref sy0)]) _
  refine k_pure (g' := (mkF m 25 #[.val (.ref a), .val (.ref a_9), .val (.int (5 : Int32)), .val (.int (0 : Int32)), .val (.ref e0)] [(.ref a), (.ref sy0)])) (fun TT HH tt kk => XS.aloadN HH hx rfl (hb hby d_prog_35_m_5_24) rfl rfl kk) ?_
  have F_16 : StrL Z h_4 sy0 ty0 ky0 [(61 : Int32)] := tE0.ext O_6.2
  have F_17 : StrL Z h_4 a t kb cs := (pf_0.keep K_10 nin0 nin0)
  have F_18 : Exa Z h_4 sy0 "java/lang/String" := tE0.1.ext O_6.2
  refine k_callV hx (y := (⟨"java/lang/String", "equals", "(Ljava/lang/Object;)Z"⟩ : MethodName)) (z := (⟨"java/lang/String", "equals", "(Ljava/lang/Object;)Z"⟩ : MethodName)) (hw _ (List.mem_of_getElem? (i := 58) rfl)) (hw _ (List.mem_of_getElem? (i := 59) rfl)) (fun s' hZ => notFace_of_selects (args := #[]) (mv hZ (hw _ (List.mem_of_getElem? (i := 61) rfl)))) (hw _ (List.mem_of_getElem? (i := 61) rfl)) (hw _ (List.mem_of_getElem? (i := 60) rfl)) (by decide) (W := 0) (a := sy0) (argsL := [(.ref a)]) (rest := []) (pay_eq (W := 0) hX O_6 F_16 F_17 (by decide) (by decide)) F_18 rfl (by rw [hml]; rfl) (lenOf pd__28_Ljava_2f_lang_2f_Object_3b__29_Z rfl) rfl (by show 2 * 0 + _ ≤ _; exact Nat.le_of_eq rfl) (hb hby d_prog_35_m_5_25) (by decide) (by decide) ?_
  intro v_19 h_20 bk_21 O_22 z_23 Q_24
  obtain ⟨rfl, rfl, rfl⟩ := Q_24
  show Run p l e _ s m _ below meth c Z EL1 _ n0 bk h_4 1 5 (mkF m 28 #[.val (.ref a), .val (.ref a_9), .val (.int (5 : Int32)), .val (.int (0 : Int32)), .val (.ref e0)] [(.int (if [(61 : Int32)] = cs then (1 : Int32) else 0))]) _
  by_cases c_25 : (if [(61 : Int32)] = cs then (1 : Int32) else 0) = (0 : Int32)
  · refine k_pure (g' := (mkF m 34 #[.val (.ref a), .val (.ref a_9), .val (.int (5 : Int32)), .val (.int (0 : Int32)), .val (.ref e0)] [])) (fun TT HH tt kk => XS.ifYes HH hx rfl (pc0 := 28) (pc' := 34) rfl (hb hby d_prog_35_m_5_28) rfl ((if0 _ _).trans (teq c_25).1) (by decide) (by decide) kk) ?_
    refine k_pure (g' := (mkF m 37 #[.val (.ref a), .val (.ref a_9), .val (.int (5 : Int32)), .val (.int (1 : Int32)), .val (.ref e0)] [])) (fun TT HH tt kk => XS.iinc HH hx rfl (hb hby d_prog_35_m_5_34) rfl (l' := #[.val (.ref a), .val (.ref a_9), .val (.int (5 : Int32)), .val (.int (1 : Int32)), .val (.ref e0)]) rfl kk) ?_
    refine k_pure (g' := (mkF m 9 #[.val (.ref a), .val (.ref a_9), .val (.int (5 : Int32)), .val (.int (1 : Int32)), .val (.ref e0)] [])) (fun TT HH tt kk => XS.goto HH hx rfl (pc0 := 37) (pc' := 9) rfl (hb hby d_prog_35_m_5_37) (by decide) (by decide) kk) ?_
    refine k_pure (g' := (mkF m 10 #[.val (.ref a), .val (.ref a_9), .val (.int (5 : Int32)), .val (.int (1 : Int32)), .val (.ref e0)] [(.int (1 : Int32))])) (fun TT HH tt kk => XS.iloadN HH hx rfl (hb hby d_prog_35_m_5_9) rfl kk) ?_
    refine k_pure (g' := (mkF m 11 #[.val (.ref a), .val (.ref a_9), .val (.int (5 : Int32)), .val (.int (1 : Int32)), .val (.ref e0)] [(.int (5 : Int32)), (.int (1 : Int32))])) (fun TT HH tt kk => XS.iloadN HH hx rfl (hb hby d_prog_35_m_5_10) rfl kk) ?_
    refine k_pure (g' := (mkF m 14 #[.val (.ref a), .val (.ref a_9), .val (.int (5 : Int32)), .val (.int (1 : Int32)), .val (.ref e0)] [])) (fun TT HH tt kk => XS.icmpNo HH hx rfl (hb hby d_prog_35_m_5_11) rfl (tlt (by decide : ((1 : Int32) < (5 : Int32)))).2.1 kk) ?_
    refine k_pure (g' := (mkF m 15 #[.val (.ref a), .val (.ref a_9), .val (.int (5 : Int32)), .val (.int (1 : Int32)), .val (.ref e0)] [(.ref a_9)])) (fun TT HH tt kk => XS.aloadN HH hx rfl (hb hby d_prog_35_m_5_14) rfl rfl kk) ?_
    refine k_pure (g' := (mkF m 16 #[.val (.ref a), .val (.ref a_9), .val (.int (5 : Int32)), .val (.int (1 : Int32)), .val (.ref e0)] [(.int (1 : Int32)), (.ref a_9)])) (fun TT HH tt kk => XS.iloadN HH hx rfl (hb hby d_prog_35_m_5_15) rfl kk) ?_
    refine k_aget hx (v := (.ref e1)) F_12 ⟨by decide, by decide⟩ rfl (Or.inr (Or.inr (Or.inr (Or.inr ⟨rfl, rfl⟩)))) rfl rfl (hb hby d_prog_35_m_5_16) ?_
    show Run p l e _ s m _ below meth c Z EL1 _ n0 bk h_4 1 5 (mkF m 17 #[.val (.ref a), .val (.ref a_9), .val (.int (5 : Int32)), .val (.int (1 : Int32)), .val (.ref e0)] [(.ref e1)]) _
    refine k_pure (g' := (mkF m 19 #[.val (.ref a), .val (.ref a_9), .val (.int (5 : Int32)), .val (.int (1 : Int32)), .val (.ref e1)] [])) (fun TT HH tt kk => XS.astore HH hx rfl (hb hby d_prog_35_m_5_17) rfl rfl (l' := #[.val (.ref a), .val (.ref a_9), .val (.int (5 : Int32)), .val (.int (1 : Int32)), .val (.ref e1)]) rfl kk) ?_
    refine k_pure (g' := (mkF m 21 #[.val (.ref a), .val (.ref a_9), .val (.int (5 : Int32)), .val (.int (1 : Int32)), .val (.ref e1)] [(.ref e1)])) (fun TT HH tt kk => XS.aload HH hx rfl (hb hby d_prog_35_m_5_19) rfl rfl kk) ?_
    have F_26 : Fld Z h_4 e1 "com/example/lean_entities/leanentities/session/RawQuery$Operator" "symbol" "Ljava/lang/String;" (.ref sy1) := fE1.ext O_6.2
    refine k_getF hx (host := "") (Or.inl (hw _ (List.mem_of_getElem? (i := 56) rfl))) Via.refl F_26 rfl rfl (hb hby d_prog_35_m_5_21) ?_
    show Run p l e _ s m _ below meth c Z EL1 _ n0 bk h_4 1 5 (mkF m 24 #[.val (.ref a), .val (.ref a_9), .val (.int (5 : Int32)), .val (.int (1 : Int32)), .val (.ref e1)] [(.ref sy1)]) _
    refine k_pure (g' := (mkF m 25 #[.val (.ref a), .val (.ref a_9), .val (.int (5 : Int32)), .val (.int (1 : Int32)), .val (.ref e1)] [(.ref a), (.ref sy1)])) (fun TT HH tt kk => XS.aloadN HH hx rfl (hb hby d_prog_35_m_5_24) rfl rfl kk) ?_
    have F_27 : StrL Z h_4 sy1 ty1 ky1 [(60 : Int32)] := tE1.ext O_6.2
    have F_28 : Exa Z h_4 sy1 "java/lang/String" := tE1.1.ext O_6.2
    refine k_callV hx (y := (⟨"java/lang/String", "equals", "(Ljava/lang/Object;)Z"⟩ : MethodName)) (z := (⟨"java/lang/String", "equals", "(Ljava/lang/Object;)Z"⟩ : MethodName)) (hw _ (List.mem_of_getElem? (i := 58) rfl)) (hw _ (List.mem_of_getElem? (i := 59) rfl)) (fun s' hZ => notFace_of_selects (args := #[]) (mv hZ (hw _ (List.mem_of_getElem? (i := 61) rfl)))) (hw _ (List.mem_of_getElem? (i := 61) rfl)) (hw _ (List.mem_of_getElem? (i := 60) rfl)) (by decide) (W := 0) (a := sy1) (argsL := [(.ref a)]) (rest := []) (pay_eq (W := 0) hX O_6 F_27 F_17 (by decide) (by decide)) F_28 rfl (by rw [hml]; rfl) (lenOf pd__28_Ljava_2f_lang_2f_Object_3b__29_Z rfl) rfl (by show 2 * 0 + _ ≤ _; exact Nat.le_of_eq rfl) (hb hby d_prog_35_m_5_25) (by decide) (by decide) ?_
    intro v_29 h_30 bk_31 O_32 z_33 Q_34
    obtain ⟨rfl, rfl, rfl⟩ := Q_34
    show Run p l e _ s m _ below meth c Z EL1 _ n0 bk h_4 1 5 (mkF m 28 #[.val (.ref a), .val (.ref a_9), .val (.int (5 : Int32)), .val (.int (1 : Int32)), .val (.ref e1)] [(.int (if [(60 : Int32)] = cs then (1 : Int32) else 0))]) _
    by_cases c_35 : (if [(60 : Int32)] = cs then (1 : Int32) else 0) = (0 : Int32)
    · refine k_pure (g' := (mkF m 34 #[.val (.ref a), .val (.ref a_9), .val (.int (5 : Int32)), .val (.int (1 : Int32)), .val (.ref e1)] [])) (fun TT HH tt kk => XS.ifYes HH hx rfl (pc0 := 28) (pc' := 34) rfl (hb hby d_prog_35_m_5_28) rfl ((if0 _ _).trans (teq c_35).1) (by decide) (by decide) kk) ?_
      refine k_pure (g' := (mkF m 37 #[.val (.ref a), .val (.ref a_9), .val (.int (5 : Int32)), .val (.int (2 : Int32)), .val (.ref e1)] [])) (fun TT HH tt kk => XS.iinc HH hx rfl (hb hby d_prog_35_m_5_34) rfl (l' := #[.val (.ref a), .val (.ref a_9), .val (.int (5 : Int32)), .val (.int (2 : Int32)), .val (.ref e1)]) rfl kk) ?_
      refine k_pure (g' := (mkF m 9 #[.val (.ref a), .val (.ref a_9), .val (.int (5 : Int32)), .val (.int (2 : Int32)), .val (.ref e1)] [])) (fun TT HH tt kk => XS.goto HH hx rfl (pc0 := 37) (pc' := 9) rfl (hb hby d_prog_35_m_5_37) (by decide) (by decide) kk) ?_
      refine k_pure (g' := (mkF m 10 #[.val (.ref a), .val (.ref a_9), .val (.int (5 : Int32)), .val (.int (2 : Int32)), .val (.ref e1)] [(.int (2 : Int32))])) (fun TT HH tt kk => XS.iloadN HH hx rfl (hb hby d_prog_35_m_5_9) rfl kk) ?_
      refine k_pure (g' := (mkF m 11 #[.val (.ref a), .val (.ref a_9), .val (.int (5 : Int32)), .val (.int (2 : Int32)), .val (.ref e1)] [(.int (5 : Int32)), (.int (2 : Int32))])) (fun TT HH tt kk => XS.iloadN HH hx rfl (hb hby d_prog_35_m_5_10) rfl kk) ?_
      refine k_pure (g' := (mkF m 14 #[.val (.ref a), .val (.ref a_9), .val (.int (5 : Int32)), .val (.int (2 : Int32)), .val (.ref e1)] [])) (fun TT HH tt kk => XS.icmpNo HH hx rfl (hb hby d_prog_35_m_5_11) rfl (tlt (by decide : ((2 : Int32) < (5 : Int32)))).2.1 kk) ?_
      refine k_pure (g' := (mkF m 15 #[.val (.ref a), .val (.ref a_9), .val (.int (5 : Int32)), .val (.int (2 : Int32)), .val (.ref e1)] [(.ref a_9)])) (fun TT HH tt kk => XS.aloadN HH hx rfl (hb hby d_prog_35_m_5_14) rfl rfl kk) ?_
      refine k_pure (g' := (mkF m 16 #[.val (.ref a), .val (.ref a_9), .val (.int (5 : Int32)), .val (.int (2 : Int32)), .val (.ref e1)] [(.int (2 : Int32)), (.ref a_9)])) (fun TT HH tt kk => XS.iloadN HH hx rfl (hb hby d_prog_35_m_5_15) rfl kk) ?_
      refine k_aget hx (v := (.ref e2)) F_12 ⟨by decide, by decide⟩ rfl (Or.inr (Or.inr (Or.inr (Or.inr ⟨rfl, rfl⟩)))) rfl rfl (hb hby d_prog_35_m_5_16) ?_
      show Run p l e _ s m _ below meth c Z EL1 _ n0 bk h_4 1 5 (mkF m 17 #[.val (.ref a), .val (.ref a_9), .val (.int (5 : Int32)), .val (.int (2 : Int32)), .val (.ref e1)] [(.ref e2)]) _
      refine k_pure (g' := (mkF m 19 #[.val (.ref a), .val (.ref a_9), .val (.int (5 : Int32)), .val (.int (2 : Int32)), .val (.ref e2)] [])) (fun TT HH tt kk => XS.astore HH hx rfl (hb hby d_prog_35_m_5_17) rfl rfl (l' := #[.val (.ref a), .val (.ref a_9), .val (.int (5 : Int32)), .val (.int (2 : Int32)), .val (.ref e2)]) rfl kk) ?_
      refine k_pure (g' := (mkF m 21 #[.val (.ref a), .val (.ref a_9), .val (.int (5 : Int32)), .val (.int (2 : Int32)), .val (.ref e2)] [(.ref e2)])) (fun TT HH tt kk => XS.aload HH hx rfl (hb hby d_prog_35_m_5_19) rfl rfl kk) ?_
      have F_36 : Fld Z h_4 e2 "com/example/lean_entities/leanentities/session/RawQuery$Operator" "symbol" "Ljava/lang/String;" (.ref sy2) := fE2.ext O_6.2
      refine k_getF hx (host := "") (Or.inl (hw _ (List.mem_of_getElem? (i := 56) rfl))) Via.refl F_36 rfl rfl (hb hby d_prog_35_m_5_21) ?_
      show Run p l e _ s m _ below meth c Z EL1 _ n0 bk h_4 1 5 (mkF m 24 #[.val (.ref a), .val (.ref a_9), .val (.int (5 : Int32)), .val (.int (2 : Int32)), .val (.ref e2)] [(.ref sy2)]) _
      refine k_pure (g' := (mkF m 25 #[.val (.ref a), .val (.ref a_9), .val (.int (5 : Int32)), .val (.int (2 : Int32)), .val (.ref e2)] [(.ref a), (.ref sy2)])) (fun TT HH tt kk => XS.aloadN HH hx rfl (hb hby d_prog_35_m_5_24) rfl rfl kk) ?_
      have F_37 : StrL Z h_4 sy2 ty2 ky2 [(60 : Int32), (61 : Int32)] := tE2.ext O_6.2
      have F_38 : Exa Z h_4 sy2 "java/lang/String" := tE2.1.ext O_6.2
      refine k_callV hx (y := (⟨"java/lang/String", "equals", "(Ljava/lang/Object;)Z"⟩ : MethodName)) (z := (⟨"java/lang/String", "equals", "(Ljava/lang/Object;)Z"⟩ : MethodName)) (hw _ (List.mem_of_getElem? (i := 58) rfl)) (hw _ (List.mem_of_getElem? (i := 59) rfl)) (fun s' hZ => notFace_of_selects (args := #[]) (mv hZ (hw _ (List.mem_of_getElem? (i := 61) rfl)))) (hw _ (List.mem_of_getElem? (i := 61) rfl)) (hw _ (List.mem_of_getElem? (i := 60) rfl)) (by decide) (W := 0) (a := sy2) (argsL := [(.ref a)]) (rest := []) (pay_eq (W := 0) hX O_6 F_37 F_17 (by decide) (by decide)) F_38 rfl (by rw [hml]; rfl) (lenOf pd__28_Ljava_2f_lang_2f_Object_3b__29_Z rfl) rfl (by show 2 * 0 + _ ≤ _; exact Nat.le_of_eq rfl) (hb hby d_prog_35_m_5_25) (by decide) (by decide) ?_
      intro v_39 h_40 bk_41 O_42 z_43 Q_44
      obtain ⟨rfl, rfl, rfl⟩ := Q_44
      show Run p l e _ s m _ below meth c Z EL1 _ n0 bk h_4 1 5 (mkF m 28 #[.val (.ref a), .val (.ref a_9), .val (.int (5 : Int32)), .val (.int (2 : Int32)), .val (.ref e2)] [(.int (if [(60 : Int32), (61 : Int32)] = cs then (1 : Int32) else 0))]) _
      by_cases c_45 : (if [(60 : Int32), (61 : Int32)] = cs then (1 : Int32) else 0) = (0 : Int32)
      · refine k_pure (g' := (mkF m 34 #[.val (.ref a), .val (.ref a_9), .val (.int (5 : Int32)), .val (.int (2 : Int32)), .val (.ref e2)] [])) (fun TT HH tt kk => XS.ifYes HH hx rfl (pc0 := 28) (pc' := 34) rfl (hb hby d_prog_35_m_5_28) rfl ((if0 _ _).trans (teq c_45).1) (by decide) (by decide) kk) ?_
        refine k_pure (g' := (mkF m 37 #[.val (.ref a), .val (.ref a_9), .val (.int (5 : Int32)), .val (.int (3 : Int32)), .val (.ref e2)] [])) (fun TT HH tt kk => XS.iinc HH hx rfl (hb hby d_prog_35_m_5_34) rfl (l' := #[.val (.ref a), .val (.ref a_9), .val (.int (5 : Int32)), .val (.int (3 : Int32)), .val (.ref e2)]) rfl kk) ?_
        refine k_pure (g' := (mkF m 9 #[.val (.ref a), .val (.ref a_9), .val (.int (5 : Int32)), .val (.int (3 : Int32)), .val (.ref e2)] [])) (fun TT HH tt kk => XS.goto HH hx rfl (pc0 := 37) (pc' := 9) rfl (hb hby d_prog_35_m_5_37) (by decide) (by decide) kk) ?_
        refine k_pure (g' := (mkF m 10 #[.val (.ref a), .val (.ref a_9), .val (.int (5 : Int32)), .val (.int (3 : Int32)), .val (.ref e2)] [(.int (3 : Int32))])) (fun TT HH tt kk => XS.iloadN HH hx rfl (hb hby d_prog_35_m_5_9) rfl kk) ?_
        refine k_pure (g' := (mkF m 11 #[.val (.ref a), .val (.ref a_9), .val (.int (5 : Int32)), .val (.int (3 : Int32)), .val (.ref e2)] [(.int (5 : Int32)), (.int (3 : Int32))])) (fun TT HH tt kk => XS.iloadN HH hx rfl (hb hby d_prog_35_m_5_10) rfl kk) ?_
        refine k_pure (g' := (mkF m 14 #[.val (.ref a), .val (.ref a_9), .val (.int (5 : Int32)), .val (.int (3 : Int32)), .val (.ref e2)] [])) (fun TT HH tt kk => XS.icmpNo HH hx rfl (hb hby d_prog_35_m_5_11) rfl (tlt (by decide : ((3 : Int32) < (5 : Int32)))).2.1 kk) ?_
        refine k_pure (g' := (mkF m 15 #[.val (.ref a), .val (.ref a_9), .val (.int (5 : Int32)), .val (.int (3 : Int32)), .val (.ref e2)] [(.ref a_9)])) (fun TT HH tt kk => XS.aloadN HH hx rfl (hb hby d_prog_35_m_5_14) rfl rfl kk) ?_
        refine k_pure (g' := (mkF m 16 #[.val (.ref a), .val (.ref a_9), .val (.int (5 : Int32)), .val (.int (3 : Int32)), .val (.ref e2)] [(.int (3 : Int32)), (.ref a_9)])) (fun TT HH tt kk => XS.iloadN HH hx rfl (hb hby d_prog_35_m_5_15) rfl kk) ?_
        refine k_aget hx (v := (.ref e3)) F_12 ⟨by decide, by decide⟩ rfl (Or.inr (Or.inr (Or.inr (Or.inr ⟨rfl, rfl⟩)))) rfl rfl (hb hby d_prog_35_m_5_16) ?_
        show Run p l e _ s m _ below meth c Z EL1 _ n0 bk h_4 1 5 (mkF m 17 #[.val (.ref a), .val (.ref a_9), .val (.int (5 : Int32)), .val (.int (3 : Int32)), .val (.ref e2)] [(.ref e3)]) _
        refine k_pure (g' := (mkF m 19 #[.val (.ref a), .val (.ref a_9), .val (.int (5 : Int32)), .val (.int (3 : Int32)), .val (.ref e3)] [])) (fun TT HH tt kk => XS.astore HH hx rfl (hb hby d_prog_35_m_5_17) rfl rfl (l' := #[.val (.ref a), .val (.ref a_9), .val (.int (5 : Int32)), .val (.int (3 : Int32)), .val (.ref e3)]) rfl kk) ?_
        refine k_pure (g' := (mkF m 21 #[.val (.ref a), .val (.ref a_9), .val (.int (5 : Int32)), .val (.int (3 : Int32)), .val (.ref e3)] [(.ref e3)])) (fun TT HH tt kk => XS.aload HH hx rfl (hb hby d_prog_35_m_5_19) rfl rfl kk) ?_
        have F_46 : Fld Z h_4 e3 "com/example/lean_entities/leanentities/session/RawQuery$Operator" "symbol" "Ljava/lang/String;" (.ref sy3) := fE3.ext O_6.2
        refine k_getF hx (host := "") (Or.inl (hw _ (List.mem_of_getElem? (i := 56) rfl))) Via.refl F_46 rfl rfl (hb hby d_prog_35_m_5_21) ?_
        show Run p l e _ s m _ below meth c Z EL1 _ n0 bk h_4 1 5 (mkF m 24 #[.val (.ref a), .val (.ref a_9), .val (.int (5 : Int32)), .val (.int (3 : Int32)), .val (.ref e3)] [(.ref sy3)]) _
        refine k_pure (g' := (mkF m 25 #[.val (.ref a), .val (.ref a_9), .val (.int (5 : Int32)), .val (.int (3 : Int32)), .val (.ref e3)] [(.ref a), (.ref sy3)])) (fun TT HH tt kk => XS.aloadN HH hx rfl (hb hby d_prog_35_m_5_24) rfl rfl kk) ?_
        have F_47 : StrL Z h_4 sy3 ty3 ky3 [(62 : Int32)] := tE3.ext O_6.2
        have F_48 : Exa Z h_4 sy3 "java/lang/String" := tE3.1.ext O_6.2
        refine k_callV hx (y := (⟨"java/lang/String", "equals", "(Ljava/lang/Object;)Z"⟩ : MethodName)) (z := (⟨"java/lang/String", "equals", "(Ljava/lang/Object;)Z"⟩ : MethodName)) (hw _ (List.mem_of_getElem? (i := 58) rfl)) (hw _ (List.mem_of_getElem? (i := 59) rfl)) (fun s' hZ => notFace_of_selects (args := #[]) (mv hZ (hw _ (List.mem_of_getElem? (i := 61) rfl)))) (hw _ (List.mem_of_getElem? (i := 61) rfl)) (hw _ (List.mem_of_getElem? (i := 60) rfl)) (by decide) (W := 0) (a := sy3) (argsL := [(.ref a)]) (rest := []) (pay_eq (W := 0) hX O_6 F_47 F_17 (by decide) (by decide)) F_48 rfl (by rw [hml]; rfl) (lenOf pd__28_Ljava_2f_lang_2f_Object_3b__29_Z rfl) rfl (by show 2 * 0 + _ ≤ _; exact Nat.le_of_eq rfl) (hb hby d_prog_35_m_5_25) (by decide) (by decide) ?_
        intro v_49 h_50 bk_51 O_52 z_53 Q_54
        obtain ⟨rfl, rfl, rfl⟩ := Q_54
        show Run p l e _ s m _ below meth c Z EL1 _ n0 bk h_4 1 5 (mkF m 28 #[.val (.ref a), .val (.ref a_9), .val (.int (5 : Int32)), .val (.int (3 : Int32)), .val (.ref e3)] [(.int (if [(62 : Int32)] = cs then (1 : Int32) else 0))]) _
        by_cases c_55 : (if [(62 : Int32)] = cs then (1 : Int32) else 0) = (0 : Int32)
        · refine k_pure (g' := (mkF m 34 #[.val (.ref a), .val (.ref a_9), .val (.int (5 : Int32)), .val (.int (3 : Int32)), .val (.ref e3)] [])) (fun TT HH tt kk => XS.ifYes HH hx rfl (pc0 := 28) (pc' := 34) rfl (hb hby d_prog_35_m_5_28) rfl ((if0 _ _).trans (teq c_55).1) (by decide) (by decide) kk) ?_
          refine k_pure (g' := (mkF m 37 #[.val (.ref a), .val (.ref a_9), .val (.int (5 : Int32)), .val (.int (4 : Int32)), .val (.ref e3)] [])) (fun TT HH tt kk => XS.iinc HH hx rfl (hb hby d_prog_35_m_5_34) rfl (l' := #[.val (.ref a), .val (.ref a_9), .val (.int (5 : Int32)), .val (.int (4 : Int32)), .val (.ref e3)]) rfl kk) ?_
          refine k_pure (g' := (mkF m 9 #[.val (.ref a), .val (.ref a_9), .val (.int (5 : Int32)), .val (.int (4 : Int32)), .val (.ref e3)] [])) (fun TT HH tt kk => XS.goto HH hx rfl (pc0 := 37) (pc' := 9) rfl (hb hby d_prog_35_m_5_37) (by decide) (by decide) kk) ?_
          refine k_pure (g' := (mkF m 10 #[.val (.ref a), .val (.ref a_9), .val (.int (5 : Int32)), .val (.int (4 : Int32)), .val (.ref e3)] [(.int (4 : Int32))])) (fun TT HH tt kk => XS.iloadN HH hx rfl (hb hby d_prog_35_m_5_9) rfl kk) ?_
          refine k_pure (g' := (mkF m 11 #[.val (.ref a), .val (.ref a_9), .val (.int (5 : Int32)), .val (.int (4 : Int32)), .val (.ref e3)] [(.int (5 : Int32)), (.int (4 : Int32))])) (fun TT HH tt kk => XS.iloadN HH hx rfl (hb hby d_prog_35_m_5_10) rfl kk) ?_
          refine k_pure (g' := (mkF m 14 #[.val (.ref a), .val (.ref a_9), .val (.int (5 : Int32)), .val (.int (4 : Int32)), .val (.ref e3)] [])) (fun TT HH tt kk => XS.icmpNo HH hx rfl (hb hby d_prog_35_m_5_11) rfl (tlt (by decide : ((4 : Int32) < (5 : Int32)))).2.1 kk) ?_
          refine k_pure (g' := (mkF m 15 #[.val (.ref a), .val (.ref a_9), .val (.int (5 : Int32)), .val (.int (4 : Int32)), .val (.ref e3)] [(.ref a_9)])) (fun TT HH tt kk => XS.aloadN HH hx rfl (hb hby d_prog_35_m_5_14) rfl rfl kk) ?_
          refine k_pure (g' := (mkF m 16 #[.val (.ref a), .val (.ref a_9), .val (.int (5 : Int32)), .val (.int (4 : Int32)), .val (.ref e3)] [(.int (4 : Int32)), (.ref a_9)])) (fun TT HH tt kk => XS.iloadN HH hx rfl (hb hby d_prog_35_m_5_15) rfl kk) ?_
          refine k_aget hx (v := (.ref e4)) F_12 ⟨by decide, by decide⟩ rfl (Or.inr (Or.inr (Or.inr (Or.inr ⟨rfl, rfl⟩)))) rfl rfl (hb hby d_prog_35_m_5_16) ?_
          show Run p l e _ s m _ below meth c Z EL1 _ n0 bk h_4 1 5 (mkF m 17 #[.val (.ref a), .val (.ref a_9), .val (.int (5 : Int32)), .val (.int (4 : Int32)), .val (.ref e3)] [(.ref e4)]) _
          refine k_pure (g' := (mkF m 19 #[.val (.ref a), .val (.ref a_9), .val (.int (5 : Int32)), .val (.int (4 : Int32)), .val (.ref e4)] [])) (fun TT HH tt kk => XS.astore HH hx rfl (hb hby d_prog_35_m_5_17) rfl rfl (l' := #[.val (.ref a), .val (.ref a_9), .val (.int (5 : Int32)), .val (.int (4 : Int32)), .val (.ref e4)]) rfl kk) ?_
          refine k_pure (g' := (mkF m 21 #[.val (.ref a), .val (.ref a_9), .val (.int (5 : Int32)), .val (.int (4 : Int32)), .val (.ref e4)] [(.ref e4)])) (fun TT HH tt kk => XS.aload HH hx rfl (hb hby d_prog_35_m_5_19) rfl rfl kk) ?_
          have F_56 : Fld Z h_4 e4 "com/example/lean_entities/leanentities/session/RawQuery$Operator" "symbol" "Ljava/lang/String;" (.ref sy4) := fE4.ext O_6.2
          refine k_getF hx (host := "") (Or.inl (hw _ (List.mem_of_getElem? (i := 56) rfl))) Via.refl F_56 rfl rfl (hb hby d_prog_35_m_5_21) ?_
          show Run p l e _ s m _ below meth c Z EL1 _ n0 bk h_4 1 5 (mkF m 24 #[.val (.ref a), .val (.ref a_9), .val (.int (5 : Int32)), .val (.int (4 : Int32)), .val (.ref e4)] [(.ref sy4)]) _
          refine k_pure (g' := (mkF m 25 #[.val (.ref a), .val (.ref a_9), .val (.int (5 : Int32)), .val (.int (4 : Int32)), .val (.ref e4)] [(.ref a), (.ref sy4)])) (fun TT HH tt kk => XS.aloadN HH hx rfl (hb hby d_prog_35_m_5_24) rfl rfl kk) ?_
          have F_57 : StrL Z h_4 sy4 ty4 ky4 [(62 : Int32), (61 : Int32)] := tE4.ext O_6.2
          have F_58 : Exa Z h_4 sy4 "java/lang/String" := tE4.1.ext O_6.2
          refine k_callV hx (y := (⟨"java/lang/String", "equals", "(Ljava/lang/Object;)Z"⟩ : MethodName)) (z := (⟨"java/lang/String", "equals", "(Ljava/lang/Object;)Z"⟩ : MethodName)) (hw _ (List.mem_of_getElem? (i := 58) rfl)) (hw _ (List.mem_of_getElem? (i := 59) rfl)) (fun s' hZ => notFace_of_selects (args := #[]) (mv hZ (hw _ (List.mem_of_getElem? (i := 61) rfl)))) (hw _ (List.mem_of_getElem? (i := 61) rfl)) (hw _ (List.mem_of_getElem? (i := 60) rfl)) (by decide) (W := 0) (a := sy4) (argsL := [(.ref a)]) (rest := []) (pay_eq (W := 0) hX O_6 F_57 F_17 (by decide) (by decide)) F_58 rfl (by rw [hml]; rfl) (lenOf pd__28_Ljava_2f_lang_2f_Object_3b__29_Z rfl) rfl (by show 2 * 0 + _ ≤ _; exact Nat.le_of_eq rfl) (hb hby d_prog_35_m_5_25) (by decide) (by decide) ?_
          intro v_59 h_60 bk_61 O_62 z_63 Q_64
          obtain ⟨rfl, rfl, rfl⟩ := Q_64
          show Run p l e _ s m _ below meth c Z EL1 _ n0 bk h_4 1 5 (mkF m 28 #[.val (.ref a), .val (.ref a_9), .val (.int (5 : Int32)), .val (.int (4 : Int32)), .val (.ref e4)] [(.int (if [(62 : Int32), (61 : Int32)] = cs then (1 : Int32) else 0))]) _
          by_cases c_65 : (if [(62 : Int32), (61 : Int32)] = cs then (1 : Int32) else 0) = (0 : Int32)
          · refine k_pure (g' := (mkF m 34 #[.val (.ref a), .val (.ref a_9), .val (.int (5 : Int32)), .val (.int (4 : Int32)), .val (.ref e4)] [])) (fun TT HH tt kk => XS.ifYes HH hx rfl (pc0 := 28) (pc' := 34) rfl (hb hby d_prog_35_m_5_28) rfl ((if0 _ _).trans (teq c_65).1) (by decide) (by decide) kk) ?_
            refine k_pure (g' := (mkF m 37 #[.val (.ref a), .val (.ref a_9), .val (.int (5 : Int32)), .val (.int (5 : Int32)), .val (.ref e4)] [])) (fun TT HH tt kk => XS.iinc HH hx rfl (hb hby d_prog_35_m_5_34) rfl (l' := #[.val (.ref a), .val (.ref a_9), .val (.int (5 : Int32)), .val (.int (5 : Int32)), .val (.ref e4)]) rfl kk) ?_
            refine k_pure (g' := (mkF m 9 #[.val (.ref a), .val (.ref a_9), .val (.int (5 : Int32)), .val (.int (5 : Int32)), .val (.ref e4)] [])) (fun TT HH tt kk => XS.goto HH hx rfl (pc0 := 37) (pc' := 9) rfl (hb hby d_prog_35_m_5_37) (by decide) (by decide) kk) ?_
            refine k_pure (g' := (mkF m 10 #[.val (.ref a), .val (.ref a_9), .val (.int (5 : Int32)), .val (.int (5 : Int32)), .val (.ref e4)] [(.int (5 : Int32))])) (fun TT HH tt kk => XS.iloadN HH hx rfl (hb hby d_prog_35_m_5_9) rfl kk) ?_
            refine k_pure (g' := (mkF m 11 #[.val (.ref a), .val (.ref a_9), .val (.int (5 : Int32)), .val (.int (5 : Int32)), .val (.ref e4)] [(.int (5 : Int32)), (.int (5 : Int32))])) (fun TT HH tt kk => XS.iloadN HH hx rfl (hb hby d_prog_35_m_5_10) rfl kk) ?_
            refine k_pure (g' := (mkF m 40 #[.val (.ref a), .val (.ref a_9), .val (.int (5 : Int32)), .val (.int (5 : Int32)), .val (.ref e4)] [])) (fun TT HH tt kk => XS.icmpYes HH hx rfl (pc0 := 11) (pc' := 40) rfl (hb hby d_prog_35_m_5_11) rfl (flt (by decide : ¬ ((5 : Int32) < (5 : Int32)))).2.1 (by decide) (by decide) kk) ?_
            refine k_pure (g' := (mkF m 41 #[.val (.ref a), .val (.ref a_9), .val (.int (5 : Int32)), .val (.int (5 : Int32)), .val (.ref e4)] [.null])) (fun TT HH tt kk => XS.aconstNull HH hx rfl (hb hby d_prog_35_m_5_40) kk) ?_
            exact k_retA hx hlk hret rfl rfl rfl (hb hby d_prog_35_m_5_41) (by decide) (by decide) ⟨(by unfold opOf; rw [if_neg (it0 c_25), if_neg (it0 c_35), if_neg (it0 c_45), if_neg (it0 c_55), if_neg (it0 c_65)]), rfl, ((Keep.refl _ _).trans K_10 kk0)⟩
          · refine k_pure (g' := (mkF m 31 #[.val (.ref a), .val (.ref a_9), .val (.int (5 : Int32)), .val (.int (4 : Int32)), .val (.ref e4)] [])) (fun TT HH tt kk => XS.ifNo HH hx rfl (hb hby d_prog_35_m_5_28) rfl ((if0 _ _).trans (feq c_65).1) kk) ?_
            refine k_pure (g' := (mkF m 33 #[.val (.ref a), .val (.ref a_9), .val (.int (5 : Int32)), .val (.int (4 : Int32)), .val (.ref e4)] [(.ref e4)])) (fun TT HH tt kk => XS.aload HH hx rfl (hb hby d_prog_35_m_5_31) rfl rfl kk) ?_
            exact k_retA hx hlk hret rfl rfl rfl (hb hby d_prog_35_m_5_33) (by decide) (by decide) ⟨(by unfold opOf; rw [if_neg (it0 c_25), if_neg (it0 c_35), if_neg (it0 c_45), if_neg (it0 c_55), if_pos (it1 c_65)]), rfl, ((Keep.refl _ _).trans K_10 kk0)⟩
        · refine k_pure (g' := (mkF m 31 #[.val (.ref a), .val (.ref a_9), .val (.int (5 : Int32)), .val (.int (3 : Int32)), .val (.ref e3)] [])) (fun TT HH tt kk => XS.ifNo HH hx rfl (hb hby d_prog_35_m_5_28) rfl ((if0 _ _).trans (feq c_55).1) kk) ?_
          refine k_pure (g' := (mkF m 33 #[.val (.ref a), .val (.ref a_9), .val (.int (5 : Int32)), .val (.int (3 : Int32)), .val (.ref e3)] [(.ref e3)])) (fun TT HH tt kk => XS.aload HH hx rfl (hb hby d_prog_35_m_5_31) rfl rfl kk) ?_
          exact k_retA hx hlk hret rfl rfl rfl (hb hby d_prog_35_m_5_33) (by decide) (by decide) ⟨(by unfold opOf; rw [if_neg (it0 c_25), if_neg (it0 c_35), if_neg (it0 c_45), if_pos (it1 c_55)]), rfl, ((Keep.refl _ _).trans K_10 kk0)⟩
      · refine k_pure (g' := (mkF m 31 #[.val (.ref a), .val (.ref a_9), .val (.int (5 : Int32)), .val (.int (2 : Int32)), .val (.ref e2)] [])) (fun TT HH tt kk => XS.ifNo HH hx rfl (hb hby d_prog_35_m_5_28) rfl ((if0 _ _).trans (feq c_45).1) kk) ?_
        refine k_pure (g' := (mkF m 33 #[.val (.ref a), .val (.ref a_9), .val (.int (5 : Int32)), .val (.int (2 : Int32)), .val (.ref e2)] [(.ref e2)])) (fun TT HH tt kk => XS.aload HH hx rfl (hb hby d_prog_35_m_5_31) rfl rfl kk) ?_
        exact k_retA hx hlk hret rfl rfl rfl (hb hby d_prog_35_m_5_33) (by decide) (by decide) ⟨(by unfold opOf; rw [if_neg (it0 c_25), if_neg (it0 c_35), if_pos (it1 c_45)]), rfl, ((Keep.refl _ _).trans K_10 kk0)⟩
    · refine k_pure (g' := (mkF m 31 #[.val (.ref a), .val (.ref a_9), .val (.int (5 : Int32)), .val (.int (1 : Int32)), .val (.ref e1)] [])) (fun TT HH tt kk => XS.ifNo HH hx rfl (hb hby d_prog_35_m_5_28) rfl ((if0 _ _).trans (feq c_35).1) kk) ?_
      refine k_pure (g' := (mkF m 33 #[.val (.ref a), .val (.ref a_9), .val (.int (5 : Int32)), .val (.int (1 : Int32)), .val (.ref e1)] [(.ref e1)])) (fun TT HH tt kk => XS.aload HH hx rfl (hb hby d_prog_35_m_5_31) rfl rfl kk) ?_
      exact k_retA hx hlk hret rfl rfl rfl (hb hby d_prog_35_m_5_33) (by decide) (by decide) ⟨(by unfold opOf; rw [if_neg (it0 c_25), if_pos (it1 c_35)]), rfl, ((Keep.refl _ _).trans K_10 kk0)⟩
  · refine k_pure (g' := (mkF m 31 #[.val (.ref a), .val (.ref a_9), .val (.int (5 : Int32)), .val (.int (0 : Int32)), .val (.ref e0)] [])) (fun TT HH tt kk => XS.ifNo HH hx rfl (hb hby d_prog_35_m_5_28) rfl ((if0 _ _).trans (feq c_25).1) kk) ?_
    refine k_pure (g' := (mkF m 33 #[.val (.ref a), .val (.ref a_9), .val (.int (5 : Int32)), .val (.int (0 : Int32)), .val (.ref e0)] [(.ref e0)])) (fun TT HH tt kk => XS.aload HH hx rfl (hb hby d_prog_35_m_5_31) rfl rfl kk) ?_
    exact k_retA hx hlk hret rfl rfl rfl (hb hby d_prog_35_m_5_33) (by decide) (by decide) ⟨(by unfold opOf; rw [if_pos (it1 c_25)]), rfl, ((Keep.refl _ _).trans K_10 kk0)⟩
def Q_law (Z : State) (G1 : Int32) (G3 : Value) (e0 e1 e2 e3 e4 sy0 sy1 sy2 sy3 sy4 ty0 ty1 ty2 ty3 ty4 vv : Addr) (ky0 ky1 ky2 ky3 ky4 kv : ClassId) (sh : Int32) (c0 : Int32) (c1 : Int32) (c2 : Int32) (h0 : Heap) (n0 : Nat) (bk : Addr → Prop) (v : Option Value) (h : Heap) (bk' : Addr → Prop) : Prop := v = some (.int (1 : Int32)) ∧ (∀ y, bk' y → bk y ∨ (@LE.le Nat _ (Array.size h0) y ∧ @LT.lt Nat _ y (Array.size h))) ∧ Keep h0 h []
theorem pd__28_I_29_C : parseMethodDescriptor "(I)C" = some ⟨[.int], some .char⟩ := by decide +kernel
theorem pd__28_ICCC_29_Ljava_2f_lang_2f_String_3b_ : parseMethodDescriptor "(ICCC)Ljava/lang/String;" = some ⟨[.int, .char, .char, .char], some (.object "java/lang/String")⟩ := by decide +kernel
theorem pd__28_ICC_29_Lcom_2f_example_2f_lean_entities_2f_leanentities_2f_session_2f_RawQuery_24_Operator_3b_ : parseMethodDescriptor "(ICC)Lcom/example/lean_entities/leanentities/session/RawQuery$Operator;" = some ⟨[.int, .char, .char], some (.object "com/example/lean_entities/leanentities/session/RawQuery$Operator")⟩ := by decide +kernel
theorem pd__28_Ljava_2f_lang_2f_String_3b__29_Lcom_2f_example_2f_lean_entities_2f_leanentities_2f_session_2f_RawQuery_24_Operator_3b_ : parseMethodDescriptor "(Ljava/lang/String;)Lcom/example/lean_entities/leanentities/session/RawQuery$Operator;" = some ⟨[(.object "java/lang/String")], some (.object "com/example/lean_entities/leanentities/session/RawQuery$Operator")⟩ := by decide +kernel
theorem ef_law (m : MethodId) (x0 : Int32) (x1 : Int32) (x2 : Int32) (x3 : Int32) : entryFrame m #[(.int x0), (.int x1), (.int x2), (.int x3)] maxLocals = mkF m 0 #[.val (.int x0), .val (.int x1), .val (.int x2), .val (.int x3), .unset, .unset, .unset, .unset, .unset] [] := by first | (simp [entryFrame, mkF, argsToLocals, Value.category, maxLocals]; done) | rfl
set_option maxRecDepth 65536 in
set_option maxHeartbeats 40000000 in
theorem rm_law (l : Launch) (Z : State) (a0 : Array Value) (G1 : Int32) (G3 : Value) (e0 e1 e2 e3 e4 sy0 sy1 sy2 sy3 sy4 ty0 ty1 ty2 ty3 ty4 vv : Addr) (ky0 ky1 ky2 ky3 ky4 kv : ClassId) (hX : Ctx Z a0 G1 G3) (hY : More Z e0 e1 e2 e3 e4 sy0 sy1 sy2 sy3 sy4 ty0 ty1 ty2 ty3 ty4 vv ky0 ky1 ky2 ky3 ky4 kv) (n0 : Nat) (bk : Addr → Prop) (h0 : Heap) (O0 : Old Z n0 h0) (sh : Int32) (c0 : Int32) (c1 : Int32) (c2 : Int32) (hbl : ∀ y, bk y → @LT.lt Nat _ y (Array.size h0)) (ws : List Jvm.Cond) : Met l Z EL1 n0 bk Jvm.Pilot.@@N@@.x code maxLocals ret room_1 #[(.int sh), (.int c0), (.int c1), (.int c2)] h0 (Q_law Z G1 G3 e0 e1 e2 e3 e4 sy0 sy1 sy2 sy3 sy4 ty0 ty1 ty2 ty3 ty4 vv ky0 ky1 ky2 ky3 ky4 kv sh c0 c1 c2 h0 n0 bk) ws := by
  have hX' := hX
  obtain ⟨hw, hE, S1, P1, S3, P3⟩ := hX'
  have hY' := hY
  obtain ⟨sV, xV, aV, sE0, xE0, fE0, tE0, sE1, xE1, fE1, tE1, sE2, xE2, fE2, tE2, sE3, xE3, fE3, tE3, sE4, xE4, fE4, tE4⟩ := hY'
  have hSA := sa_of hw
  have z0 : n0 ≤ h0.size := by rw [← O0.1]; exact O0.2.1
  refine Met.of (by decide +kernel) O0 hE ?_
  intro p e s m below meth c hx hby hml hret hlk hnm
  refine k_cast (ef_law m sh c0 c1 c2) ?_
  show Run p l e _ s m _ below meth c Z EL1 _ n0 bk h0 0 0 (mkF m 0 #[.val (.int sh), .val (.int c0), .val (.int c1), .val (.int c2), .unset, .unset, .unset, .unset, .unset] []) _
  refine k_pure (g' := (mkF m 1 #[.val (.int sh), .val (.int c0), .val (.int c1), .val (.int c2), .unset, .unset, .unset, .unset, .unset] [(.int c0)])) (fun TT HH tt kk => XS.iloadN HH hx rfl (hb hby at_0) rfl kk) ?_
  refine k_callS hx (y := (⟨"com/example/lean_entities/leanentities/session/OperatorOfSymbolPinLaw", "ch", "(I)C"⟩ : MethodName)) (hw _ (List.mem_of_getElem? (i := 0) rfl)) (hw _ (List.mem_of_getElem? (i := 1) rfl)) (hw _ (List.mem_of_getElem? (i := 2) rfl)) (hw _ (List.mem_of_getElem? (i := 3) rfl)) (by decide) (W := 0) (argsL := [(.int c0)]) (rest := []) (Pays.of_met (rm_chc l Z a0 G1 G3 e0 e1 e2 e3 e4 sy0 sy1 sy2 sy3 sy4 ty0 ty1 ty2 ty3 ty4 vv ky0 ky1 ky2 ky3 ky4 kv hX hY n0 bk h0 O0 c0  []) (hw _ (List.mem_of_getElem? (i := 3) rfl)) (hw _ (List.mem_of_getElem? (i := 2) rfl)) (by decide) (by decide)) rfl (by rw [hml]; rfl) (lenOf pd__28_I_29_C rfl) rfl (by show 2 * 0 + _ ≤ _; exact Nat.le_of_eq rfl) (hb hby at_1) (by decide) (by decide) ?_
  intro v_1 h_2 bk_3 O_4 z_5 Q_6
  obtain ⟨i_7, rfl, rfl, rfl, P_8⟩ := Q_6
  show Run p l e _ s m _ below meth c Z EL1 _ n0 bk h0 0 0 (mkF m 4 #[.val (.int sh), .val (.int c0), .val (.int c1), .val (.int c2), .unset, .unset, .unset, .unset, .unset] [(.int i_7)]) _
  refine k_pure (g' := (mkF m 6 #[.val (.int sh), .val (.int c0), .val (.int c1), .val (.int c2), .val (.int i_7), .unset, .unset, .unset, .unset] [])) (fun TT HH tt kk => XS.istore HH hx rfl (hb hby at_4) rfl (l' := #[.val (.int sh), .val (.int c0), .val (.int c1), .val (.int c2), .val (.int i_7), .unset, .unset, .unset, .unset]) rfl kk) ?_
  refine k_pure (g' := (mkF m 7 #[.val (.int sh), .val (.int c0), .val (.int c1), .val (.int c2), .val (.int i_7), .unset, .unset, .unset, .unset] [(.int c1)])) (fun TT HH tt kk => XS.iloadN HH hx rfl (hb hby at_6) rfl kk) ?_
  refine k_callS hx (y := (⟨"com/example/lean_entities/leanentities/session/OperatorOfSymbolPinLaw", "ch", "(I)C"⟩ : MethodName)) (hw _ (List.mem_of_getElem? (i := 0) rfl)) (hw _ (List.mem_of_getElem? (i := 1) rfl)) (hw _ (List.mem_of_getElem? (i := 2) rfl)) (hw _ (List.mem_of_getElem? (i := 3) rfl)) (by decide) (W := 0) (argsL := [(.int c1)]) (rest := []) (Pays.of_met (rm_chc l Z a0 G1 G3 e0 e1 e2 e3 e4 sy0 sy1 sy2 sy3 sy4 ty0 ty1 ty2 ty3 ty4 vv ky0 ky1 ky2 ky3 ky4 kv hX hY n0 bk h0 O0 c1  []) (hw _ (List.mem_of_getElem? (i := 3) rfl)) (hw _ (List.mem_of_getElem? (i := 2) rfl)) (by decide) (by decide)) rfl (by rw [hml]; rfl) (lenOf pd__28_I_29_C rfl) rfl (by show 2 * 0 + _ ≤ _; exact Nat.le_of_eq rfl) (hb hby at_7) (by decide) (by decide) ?_
  intro v_9 h_10 bk_11 O_12 z_13 Q_14
  obtain ⟨i_15, rfl, rfl, rfl, P_16⟩ := Q_14
  show Run p l e _ s m _ below meth c Z EL1 _ n0 bk h0 0 0 (mkF m 10 #[.val (.int sh), .val (.int c0), .val (.int c1), .val (.int c2), .val (.int i_7), .unset, .unset, .unset, .unset] [(.int i_15)]) _
  refine k_pure (g' := (mkF m 12 #[.val (.int sh), .val (.int c0), .val (.int c1), .val (.int c2), .val (.int i_7), .val (.int i_15), .unset, .unset, .unset] [])) (fun TT HH tt kk => XS.istore HH hx rfl (hb hby at_10) rfl (l' := #[.val (.int sh), .val (.int c0), .val (.int c1), .val (.int c2), .val (.int i_7), .val (.int i_15), .unset, .unset, .unset]) rfl kk) ?_
  refine k_pure (g' := (mkF m 13 #[.val (.int sh), .val (.int c0), .val (.int c1), .val (.int c2), .val (.int i_7), .val (.int i_15), .unset, .unset, .unset] [(.int c2)])) (fun TT HH tt kk => XS.iloadN HH hx rfl (hb hby at_12) rfl kk) ?_
  refine k_callS hx (y := (⟨"com/example/lean_entities/leanentities/session/OperatorOfSymbolPinLaw", "ch", "(I)C"⟩ : MethodName)) (hw _ (List.mem_of_getElem? (i := 0) rfl)) (hw _ (List.mem_of_getElem? (i := 1) rfl)) (hw _ (List.mem_of_getElem? (i := 2) rfl)) (hw _ (List.mem_of_getElem? (i := 3) rfl)) (by decide) (W := 0) (argsL := [(.int c2)]) (rest := []) (Pays.of_met (rm_chc l Z a0 G1 G3 e0 e1 e2 e3 e4 sy0 sy1 sy2 sy3 sy4 ty0 ty1 ty2 ty3 ty4 vv ky0 ky1 ky2 ky3 ky4 kv hX hY n0 bk h0 O0 c2  []) (hw _ (List.mem_of_getElem? (i := 3) rfl)) (hw _ (List.mem_of_getElem? (i := 2) rfl)) (by decide) (by decide)) rfl (by rw [hml]; rfl) (lenOf pd__28_I_29_C rfl) rfl (by show 2 * 0 + _ ≤ _; exact Nat.le_of_eq rfl) (hb hby at_13) (by decide) (by decide) ?_
  intro v_17 h_18 bk_19 O_20 z_21 Q_22
  obtain ⟨i_23, rfl, rfl, rfl, P_24⟩ := Q_22
  show Run p l e _ s m _ below meth c Z EL1 _ n0 bk h0 0 0 (mkF m 16 #[.val (.int sh), .val (.int c0), .val (.int c1), .val (.int c2), .val (.int i_7), .val (.int i_15), .unset, .unset, .unset] [(.int i_23)]) _
  refine k_pure (g' := (mkF m 18 #[.val (.int sh), .val (.int c0), .val (.int c1), .val (.int c2), .val (.int i_7), .val (.int i_15), .val (.int i_23), .unset, .unset] [])) (fun TT HH tt kk => XS.istore HH hx rfl (hb hby at_16) rfl (l' := #[.val (.int sh), .val (.int c0), .val (.int c1), .val (.int c2), .val (.int i_7), .val (.int i_15), .val (.int i_23), .unset, .unset]) rfl kk) ?_
  refine k_pure (g' := (mkF m 19 #[.val (.int sh), .val (.int c0), .val (.int c1), .val (.int c2), .val (.int i_7), .val (.int i_15), .val (.int i_23), .unset, .unset] [(.int sh)])) (fun TT HH tt kk => XS.iloadN HH hx rfl (hb hby at_18) rfl kk) ?_
  refine k_pure (g' := (mkF m 21 #[.val (.int sh), .val (.int c0), .val (.int c1), .val (.int c2), .val (.int i_7), .val (.int i_15), .val (.int i_23), .unset, .unset] [(.int i_7), (.int sh)])) (fun TT HH tt kk => XS.iload HH hx rfl (hb hby at_19) rfl kk) ?_
  refine k_pure (g' := (mkF m 23 #[.val (.int sh), .val (.int c0), .val (.int c1), .val (.int c2), .val (.int i_7), .val (.int i_15), .val (.int i_23), .unset, .unset] [(.int i_15), (.int i_7), (.int sh)])) (fun TT HH tt kk => XS.iload HH hx rfl (hb hby at_21) rfl kk) ?_
  refine k_pure (g' := (mkF m 25 #[.val (.int sh), .val (.int c0), .val (.int c1), .val (.int c2), .val (.int i_7), .val (.int i_15), .val (.int i_23), .unset, .unset] [(.int i_23), (.int i_15), (.int i_7), (.int sh)])) (fun TT HH tt kk => XS.iload HH hx rfl (hb hby at_23) rfl kk) ?_
  by_cases h7 : (sh &&& (7 : Int32)) = (7 : Int32)
  · show Run p l e _ s m _ below meth c Z EL1 _ n0 bk h0 0 0 (mkF m 25 #[.val (.int sh), .val (.int c0), .val (.int c1), .val (.int c2), .val (.int i_7), .val (.int i_15), .val (.int i_23), .unset, .unset] [(.int i_23), (.int i_15), (.int i_7), (.int sh)]) _
    refine k_callS hx (y := (⟨"com/example/lean_entities/leanentities/session/OperatorOfSymbolPinLaw", "text", "(ICCC)Ljava/lang/String;"⟩ : MethodName)) (hw _ (List.mem_of_getElem? (i := 4) rfl)) (hw _ (List.mem_of_getElem? (i := 5) rfl)) (hw _ (List.mem_of_getElem? (i := 2) rfl)) (hw _ (List.mem_of_getElem? (i := 6) rfl)) (by decide) (W := 0) (argsL := [(.int sh), (.int i_7), (.int i_15), (.int i_23)]) (rest := []) (Pays.of_met (rm_txt0 l Z a0 G1 G3 e0 e1 e2 e3 e4 sy0 sy1 sy2 sy3 sy4 ty0 ty1 ty2 ty3 ty4 vv ky0 ky1 ky2 ky3 ky4 kv hX hY n0 bk h0 O0 sh i_7 i_15 i_23 h7 []) (hw _ (List.mem_of_getElem? (i := 6) rfl)) (hw _ (List.mem_of_getElem? (i := 2) rfl)) (by decide) (by decide)) rfl (by rw [hml]; rfl) (lenOf pd__28_ICCC_29_Ljava_2f_lang_2f_String_3b_ rfl) rfl (by show 2 * 0 + _ ≤ _; exact Nat.le_of_eq rfl) (hb hby at_25) (by decide) (by decide) ?_
    intro v_25 h_26 bk_27 O_28 z_29 Q_30
    obtain ⟨rfl, rfl, rfl⟩ := Q_30
    show Run p l e _ s m _ below meth c Z EL1 _ n0 bk h0 0 0 (mkF m 28 #[.val (.int sh), .val (.int c0), .val (.int c1), .val (.int c2), .val (.int i_7), .val (.int i_15), .val (.int i_23), .unset, .unset] [.null]) _
    refine k_pure (g' := (mkF m 30 #[.val (.int sh), .val (.int c0), .val (.int c1), .val (.int c2), .val (.int i_7), .val (.int i_15), .val (.int i_23), .val .null, .unset] [])) (fun TT HH tt kk => XS.astore HH hx rfl (hb hby at_28) rfl rfl (l' := #[.val (.int sh), .val (.int c0), .val (.int c1), .val (.int c2), .val (.int i_7), .val (.int i_15), .val (.int i_23), .val .null, .unset]) rfl kk) ?_
    refine k_pure (g' := (mkF m 31 #[.val (.int sh), .val (.int c0), .val (.int c1), .val (.int c2), .val (.int i_7), .val (.int i_15), .val (.int i_23), .val .null, .unset] [(.int sh)])) (fun TT HH tt kk => XS.iloadN HH hx rfl (hb hby at_30) rfl kk) ?_
    refine k_pure (g' := (mkF m 33 #[.val (.int sh), .val (.int c0), .val (.int c1), .val (.int c2), .val (.int i_7), .val (.int i_15), .val (.int i_23), .val .null, .unset] [(.int i_7), (.int sh)])) (fun TT HH tt kk => XS.iload HH hx rfl (hb hby at_31) rfl kk) ?_
    refine k_pure (g' := (mkF m 35 #[.val (.int sh), .val (.int c0), .val (.int c1), .val (.int c2), .val (.int i_7), .val (.int i_15), .val (.int i_23), .val .null, .unset] [(.int i_15), (.int i_7), (.int sh)])) (fun TT HH tt kk => XS.iload HH hx rfl (hb hby at_33) rfl kk) ?_
    refine k_callS hx (y := (⟨"com/example/lean_entities/leanentities/session/OperatorOfSymbolPinLaw", "expected", "(ICC)Lcom/example/lean_entities/leanentities/session/RawQuery$Operator;"⟩ : MethodName)) (hw _ (List.mem_of_getElem? (i := 29) rfl)) (hw _ (List.mem_of_getElem? (i := 30) rfl)) (hw _ (List.mem_of_getElem? (i := 2) rfl)) (hw _ (List.mem_of_getElem? (i := 31) rfl)) (by decide) (W := 0) (argsL := [(.int sh), (.int i_7), (.int i_15)]) (rest := []) (Pays.of_met (rm_exp0 l Z a0 G1 G3 e0 e1 e2 e3 e4 sy0 sy1 sy2 sy3 sy4 ty0 ty1 ty2 ty3 ty4 vv ky0 ky1 ky2 ky3 ky4 kv hX hY n0 bk h0 O0 sh i_7 i_15 h7 []) (hw _ (List.mem_of_getElem? (i := 31) rfl)) (hw _ (List.mem_of_getElem? (i := 2) rfl)) (by decide) (by decide)) rfl (by rw [hml]; rfl) (lenOf pd__28_ICC_29_Lcom_2f_example_2f_lean_entities_2f_leanentities_2f_session_2f_RawQuery_24_Operator_3b_ rfl) rfl (by show 2 * 0 + _ ≤ _; exact Nat.le_of_eq rfl) (hb hby at_35) (by decide) (by decide) ?_
    intro v_31 h_32 bk_33 O_34 z_35 Q_36
    obtain ⟨rfl, rfl, rfl⟩ := Q_36
    show Run p l e _ s m _ below meth c Z EL1 _ n0 bk h0 0 0 (mkF m 38 #[.val (.int sh), .val (.int c0), .val (.int c1), .val (.int c2), .val (.int i_7), .val (.int i_15), .val (.int i_23), .val .null, .unset] [.null]) _
    refine k_pure (g' := (mkF m 40 #[.val (.int sh), .val (.int c0), .val (.int c1), .val (.int c2), .val (.int i_7), .val (.int i_15), .val (.int i_23), .val .null, .val .null] [])) (fun TT HH tt kk => XS.astore HH hx rfl (hb hby at_38) rfl rfl (l' := #[.val (.int sh), .val (.int c0), .val (.int c1), .val (.int c2), .val (.int i_7), .val (.int i_15), .val (.int i_23), .val .null, .val .null]) rfl kk) ?_
    refine k_pure (g' := (mkF m 42 #[.val (.int sh), .val (.int c0), .val (.int c1), .val (.int c2), .val (.int i_7), .val (.int i_15), .val (.int i_23), .val .null, .val .null] [.null])) (fun TT HH tt kk => XS.aload HH hx rfl (hb hby at_40) rfl rfl kk) ?_
    refine k_callS hx (y := (⟨"com/example/lean_entities/leanentities/session/RawQuery$Operator", "ofSymbol", "(Ljava/lang/String;)Lcom/example/lean_entities/leanentities/session/RawQuery$Operator;"⟩ : MethodName)) (hw _ (List.mem_of_getElem? (i := 32) rfl)) (hw _ (List.mem_of_getElem? (i := 33) rfl)) (hw _ (List.mem_of_getElem? (i := 34) rfl)) (hw _ (List.mem_of_getElem? (i := 35) rfl)) (by decide) (W := 0) (argsL := [.null]) (rest := []) (Pays.of_met (rm_ofs0 l Z a0 G1 G3 e0 e1 e2 e3 e4 sy0 sy1 sy2 sy3 sy4 ty0 ty1 ty2 ty3 ty4 vv ky0 ky1 ky2 ky3 ky4 kv hX hY n0 bk h0 O0  hbl []) (hw _ (List.mem_of_getElem? (i := 35) rfl)) (hw _ (List.mem_of_getElem? (i := 34) rfl)) (by decide) (by decide)) rfl (by rw [hml]; rfl) (lenOf pd__28_Ljava_2f_lang_2f_String_3b__29_Lcom_2f_example_2f_lean_entities_2f_leanentities_2f_session_2f_RawQuery_24_Operator_3b_ rfl) rfl (by show 2 * 0 + _ ≤ _; exact Nat.le_of_eq rfl) (hb hby at_42) (by decide) (by decide) ?_
    intro v_37 h_38 bk_39 O_40 z_41 Q_42
    obtain ⟨rfl, rfl, K_43⟩ := Q_42
    show Run p l e _ s m _ below meth c Z EL1 _ n0 bk h_38 1 5 (mkF m 45 #[.val (.int sh), .val (.int c0), .val (.int c1), .val (.int c2), .val (.int i_7), .val (.int i_15), .val (.int i_23), .val .null, .val .null] [.null]) _
    refine k_pure (g' := (mkF m 47 #[.val (.int sh), .val (.int c0), .val (.int c1), .val (.int c2), .val (.int i_7), .val (.int i_15), .val (.int i_23), .val .null, .val .null] [.null, .null])) (fun TT HH tt kk => XS.aload HH hx rfl (hb hby at_45) rfl rfl kk) ?_
    refine k_pure (g' := (mkF m 50 #[.val (.int sh), .val (.int c0), .val (.int c1), .val (.int c2), .val (.int i_7), .val (.int i_15), .val (.int i_23), .val .null, .val .null] [])) (fun TT HH tt kk => XT.acmpNo HH hx rfl (hb hby at_47) rfl rfl rfl (XT.aa_ne_f rfl) kk) ?_
    refine k_pure (g' := (mkF m 51 #[.val (.int sh), .val (.int c0), .val (.int c1), .val (.int c2), .val (.int i_7), .val (.int i_15), .val (.int i_23), .val .null, .val .null] [(.int (1 : Int32))])) (fun TT HH tt kk => XS.iconst HH hx rfl (hb hby at_50) kk) ?_
    refine k_pure (g' := (mkF m 55 #[.val (.int sh), .val (.int c0), .val (.int c1), .val (.int c2), .val (.int i_7), .val (.int i_15), .val (.int i_23), .val .null, .val .null] [(.int (1 : Int32))])) (fun TT HH tt kk => XS.goto HH hx rfl (pc0 := 51) (pc' := 55) rfl (hb hby at_51) (by decide) (by decide) kk) ?_
    exact k_retN hx hlk hret (by simp) (hb hby at_55) (by decide) (by decide) ⟨rfl, (fun y q => Or.inl q), ((Keep.refl _ _).trans K_43 kk0)⟩
  · obtain ⟨cs, tx⟩ := Txt.ex (sh &&& (3 : Int32)) i_7 i_15 i_23
    show Run p l e _ s m _ below meth c Z EL1 _ n0 bk h0 0 0 (mkF m 25 #[.val (.int sh), .val (.int c0), .val (.int c1), .val (.int c2), .val (.int i_7), .val (.int i_15), .val (.int i_23), .unset, .unset] [(.int i_23), (.int i_15), (.int i_7), (.int sh)]) _
    refine k_callS hx (y := (⟨"com/example/lean_entities/leanentities/session/OperatorOfSymbolPinLaw", "text", "(ICCC)Ljava/lang/String;"⟩ : MethodName)) (hw _ (List.mem_of_getElem? (i := 4) rfl)) (hw _ (List.mem_of_getElem? (i := 5) rfl)) (hw _ (List.mem_of_getElem? (i := 2) rfl)) (hw _ (List.mem_of_getElem? (i := 6) rfl)) (by decide) (W := 0) (argsL := [(.int sh), (.int i_7), (.int i_15), (.int i_23)]) (rest := []) (Pays.of_met (rm_txt1 l Z a0 G1 G3 e0 e1 e2 e3 e4 sy0 sy1 sy2 sy3 sy4 ty0 ty1 ty2 ty3 ty4 vv ky0 ky1 ky2 ky3 ky4 kv hX hY n0 bk h0 O0 sh i_7 i_15 i_23 cs hbl h7 tx P_8 P_16 P_24 []) (hw _ (List.mem_of_getElem? (i := 6) rfl)) (hw _ (List.mem_of_getElem? (i := 2) rfl)) (by decide) (by decide)) rfl (by rw [hml]; rfl) (lenOf pd__28_ICCC_29_Ljava_2f_lang_2f_String_3b_ rfl) rfl (by show 2 * 0 + _ ≤ _; exact Nat.le_of_eq rfl) (hb hby at_25) (by decide) (by decide) ?_
    intro v_44 h_45 bk_46 O_47 z_48 Q_49
    obtain ⟨a_50, a_51, k_52, rfl, hbk_53, K_54, F_55⟩ := Q_49
    have hbl_56 : ∀ y, bk_46 y → @LT.lt Nat _ y (Array.size h_45) := fun y q => (hbk_53 y q).elim (fun r => Nat.lt_of_lt_of_le (hbl y r) (by omega)) (fun r => r.2)
    have hbs_57 : ∀ y, bk_46 y → bk y ∨ (@LE.le Nat _ (Array.size h0) y ∧ @LT.lt Nat _ y (Array.size h_45)) := fun y q => (hbk_53 y q).imp id (fun r => ⟨Nat.le_trans (by omega) r.1, r.2⟩)
    have lt_58 : @LT.lt Nat _ a_50 (Array.size h_45) := F_55.lt1
    have lt_59 : @LT.lt Nat _ a_51 (Array.size h_45) := F_55.lt2
    show Run p l e _ s m _ below meth c Z EL1 _ n0 bk_46 h_45 6 12 (mkF m 28 #[.val (.int sh), .val (.int c0), .val (.int c1), .val (.int c2), .val (.int i_7), .val (.int i_15), .val (.int i_23), .unset, .unset] [(.ref a_50)]) _
    refine k_pure (g' := (mkF m 30 #[.val (.int sh), .val (.int c0), .val (.int c1), .val (.int c2), .val (.int i_7), .val (.int i_15), .val (.int i_23), .val (.ref a_50), .unset] [])) (fun TT HH tt kk => XS.astore HH hx rfl (hb hby at_28) rfl rfl (l' := #[.val (.int sh), .val (.int c0), .val (.int c1), .val (.int c2), .val (.int i_7), .val (.int i_15), .val (.int i_23), .val (.ref a_50), .unset]) rfl kk) ?_
    refine k_pure (g' := (mkF m 31 #[.val (.int sh), .val (.int c0), .val (.int c1), .val (.int c2), .val (.int i_7), .val (.int i_15), .val (.int i_23), .val (.ref a_50), .unset] [(.int sh)])) (fun TT HH tt kk => XS.iloadN HH hx rfl (hb hby at_30) rfl kk) ?_
    refine k_pure (g' := (mkF m 33 #[.val (.int sh), .val (.int c0), .val (.int c1), .val (.int c2), .val (.int i_7), .val (.int i_15), .val (.int i_23), .val (.ref a_50), .unset] [(.int i_7), (.int sh)])) (fun TT HH tt kk => XS.iload HH hx rfl (hb hby at_31) rfl kk) ?_
    refine k_pure (g' := (mkF m 35 #[.val (.int sh), .val (.int c0), .val (.int c1), .val (.int c2), .val (.int i_7), .val (.int i_15), .val (.int i_23), .val (.ref a_50), .unset] [(.int i_15), (.int i_7), (.int sh)])) (fun TT HH tt kk => XS.iload HH hx rfl (hb hby at_33) rfl kk) ?_
    refine k_callS hx (y := (⟨"com/example/lean_entities/leanentities/session/OperatorOfSymbolPinLaw", "expected", "(ICC)Lcom/example/lean_entities/leanentities/session/RawQuery$Operator;"⟩ : MethodName)) (hw _ (List.mem_of_getElem? (i := 29) rfl)) (hw _ (List.mem_of_getElem? (i := 30) rfl)) (hw _ (List.mem_of_getElem? (i := 2) rfl)) (hw _ (List.mem_of_getElem? (i := 31) rfl)) (by decide) (W := 0) (argsL := [(.int sh), (.int i_7), (.int i_15)]) (rest := []) (Pays.of_met (rm_exp1 l Z a0 G1 G3 e0 e1 e2 e3 e4 sy0 sy1 sy2 sy3 sy4 ty0 ty1 ty2 ty3 ty4 vv ky0 ky1 ky2 ky3 ky4 kv hX hY n0 bk_46 h_45 O_47 sh i_7 i_15 i_23 cs h7 tx []) (hw _ (List.mem_of_getElem? (i := 31) rfl)) (hw _ (List.mem_of_getElem? (i := 2) rfl)) (by decide) (by decide)) rfl (by rw [hml]; rfl) (lenOf pd__28_ICC_29_Lcom_2f_example_2f_lean_entities_2f_leanentities_2f_session_2f_RawQuery_24_Operator_3b_ rfl) rfl (by show 2 * 0 + _ ≤ _; exact Nat.le_of_eq rfl) (hb hby at_35) (by decide) (by decide) ?_
    intro v_60 h_61 bk_62 O_63 z_64 Q_65
    obtain ⟨rfl, rfl, rfl⟩ := Q_65
    show Run p l e _ s m _ below meth c Z EL1 _ n0 bk_46 h_45 6 12 (mkF m 38 #[.val (.int sh), .val (.int c0), .val (.int c1), .val (.int c2), .val (.int i_7), .val (.int i_15), .val (.int i_23), .val (.ref a_50), .unset] [(opOf e0 e1 e2 e3 e4 cs)]) _
    rcases ref_cases (opRef (e0 := e0) (e1 := e1) (e2 := e2) (e3 := e3) (e4 := e4) (cs := cs)) with hop | ⟨ea, hop⟩
    · rw [hop]
      show Run p l e _ s m _ below meth c Z EL1 _ n0 bk_46 h_45 6 12 (mkF m 38 #[.val (.int sh), .val (.int c0), .val (.int c1), .val (.int c2), .val (.int i_7), .val (.int i_15), .val (.int i_23), .val (.ref a_50), .unset] [.null]) _
      refine k_pure (g' := (mkF m 40 #[.val (.int sh), .val (.int c0), .val (.int c1), .val (.int c2), .val (.int i_7), .val (.int i_15), .val (.int i_23), .val (.ref a_50), .val .null] [])) (fun TT HH tt kk => XS.astore HH hx rfl (hb hby at_38) rfl rfl (l' := #[.val (.int sh), .val (.int c0), .val (.int c1), .val (.int c2), .val (.int i_7), .val (.int i_15), .val (.int i_23), .val (.ref a_50), .val .null]) rfl kk) ?_
      refine k_pure (g' := (mkF m 42 #[.val (.int sh), .val (.int c0), .val (.int c1), .val (.int c2), .val (.int i_7), .val (.int i_15), .val (.int i_23), .val (.ref a_50), .val .null] [(.ref a_50)])) (fun TT HH tt kk => XS.aload HH hx rfl (hb hby at_40) rfl rfl kk) ?_
      refine k_callS hx (y := (⟨"com/example/lean_entities/leanentities/session/RawQuery$Operator", "ofSymbol", "(Ljava/lang/String;)Lcom/example/lean_entities/leanentities/session/RawQuery$Operator;"⟩ : MethodName)) (hw _ (List.mem_of_getElem? (i := 32) rfl)) (hw _ (List.mem_of_getElem? (i := 33) rfl)) (hw _ (List.mem_of_getElem? (i := 34) rfl)) (hw _ (List.mem_of_getElem? (i := 35) rfl)) (by decide) (W := 0) (argsL := [(.ref a_50)]) (rest := []) (Pays.of_met (rm_ofs1 l Z a0 G1 G3 e0 e1 e2 e3 e4 sy0 sy1 sy2 sy3 sy4 ty0 ty1 ty2 ty3 ty4 vv ky0 ky1 ky2 ky3 ky4 kv hX hY n0 bk_46 h_45 O_47 a_50 a_51 k_52 cs F_55 hbl_56 []) (hw _ (List.mem_of_getElem? (i := 35) rfl)) (hw _ (List.mem_of_getElem? (i := 34) rfl)) (by decide) (by decide)) rfl (by rw [hml]; rfl) (lenOf pd__28_Ljava_2f_lang_2f_String_3b__29_Lcom_2f_example_2f_lean_entities_2f_leanentities_2f_session_2f_RawQuery_24_Operator_3b_ rfl) rfl (by show 2 * 0 + _ ≤ _; exact Nat.le_of_eq rfl) (hb hby at_42) (by decide) (by decide) ?_
      intro v_66 h_67 bk_68 O_69 z_70 Q_71
      obtain ⟨rfl, rfl, K_72⟩ := Q_71
      show Run p l e _ s m _ below meth c Z EL1 _ n0 bk_46 h_67 7 17 (mkF m 45 #[.val (.int sh), .val (.int c0), .val (.int c1), .val (.int c2), .val (.int i_7), .val (.int i_15), .val (.int i_23), .val (.ref a_50), .val .null] [(opOf e0 e1 e2 e3 e4 cs)]) _
      rw [hop]
      show Run p l e _ s m _ below meth c Z EL1 _ n0 bk_46 h_67 7 17 (mkF m 45 #[.val (.int sh), .val (.int c0), .val (.int c1), .val (.int c2), .val (.int i_7), .val (.int i_15), .val (.int i_23), .val (.ref a_50), .val .null] [.null]) _
      refine k_pure (g' := (mkF m 47 #[.val (.int sh), .val (.int c0), .val (.int c1), .val (.int c2), .val (.int i_7), .val (.int i_15), .val (.int i_23), .val (.ref a_50), .val .null] [.null, .null])) (fun TT HH tt kk => XS.aload HH hx rfl (hb hby at_45) rfl rfl kk) ?_
      refine k_pure (g' := (mkF m 50 #[.val (.int sh), .val (.int c0), .val (.int c1), .val (.int c2), .val (.int i_7), .val (.int i_15), .val (.int i_23), .val (.ref a_50), .val .null] [])) (fun TT HH tt kk => XT.acmpNo HH hx rfl (hb hby at_47) rfl rfl rfl (XT.aa_ne_f rfl) kk) ?_
      refine k_pure (g' := (mkF m 51 #[.val (.int sh), .val (.int c0), .val (.int c1), .val (.int c2), .val (.int i_7), .val (.int i_15), .val (.int i_23), .val (.ref a_50), .val .null] [(.int (1 : Int32))])) (fun TT HH tt kk => XS.iconst HH hx rfl (hb hby at_50) kk) ?_
      refine k_pure (g' := (mkF m 55 #[.val (.int sh), .val (.int c0), .val (.int c1), .val (.int c2), .val (.int i_7), .val (.int i_15), .val (.int i_23), .val (.ref a_50), .val .null] [(.int (1 : Int32))])) (fun TT HH tt kk => XS.goto HH hx rfl (pc0 := 51) (pc' := 55) rfl (hb hby at_51) (by decide) (by decide) kk) ?_
      exact k_retN hx hlk hret (by simp) (hb hby at_55) (by decide) (by decide) ⟨rfl, (fun y q => (hbs_57 y q).imp id (fun t => ⟨t.1, Nat.lt_of_lt_of_le t.2 (by omega)⟩)), (((Keep.refl _ _).trans K_54 kk0).trans K_72 kk0)⟩
    · rw [hop]
      show Run p l e _ s m _ below meth c Z EL1 _ n0 bk_46 h_45 6 12 (mkF m 38 #[.val (.int sh), .val (.int c0), .val (.int c1), .val (.int c2), .val (.int i_7), .val (.int i_15), .val (.int i_23), .val (.ref a_50), .unset] [(.ref ea)]) _
      refine k_pure (g' := (mkF m 40 #[.val (.int sh), .val (.int c0), .val (.int c1), .val (.int c2), .val (.int i_7), .val (.int i_15), .val (.int i_23), .val (.ref a_50), .val (.ref ea)] [])) (fun TT HH tt kk => XS.astore HH hx rfl (hb hby at_38) rfl rfl (l' := #[.val (.int sh), .val (.int c0), .val (.int c1), .val (.int c2), .val (.int i_7), .val (.int i_15), .val (.int i_23), .val (.ref a_50), .val (.ref ea)]) rfl kk) ?_
      refine k_pure (g' := (mkF m 42 #[.val (.int sh), .val (.int c0), .val (.int c1), .val (.int c2), .val (.int i_7), .val (.int i_15), .val (.int i_23), .val (.ref a_50), .val (.ref ea)] [(.ref a_50)])) (fun TT HH tt kk => XS.aload HH hx rfl (hb hby at_40) rfl rfl kk) ?_
      refine k_callS hx (y := (⟨"com/example/lean_entities/leanentities/session/RawQuery$Operator", "ofSymbol", "(Ljava/lang/String;)Lcom/example/lean_entities/leanentities/session/RawQuery$Operator;"⟩ : MethodName)) (hw _ (List.mem_of_getElem? (i := 32) rfl)) (hw _ (List.mem_of_getElem? (i := 33) rfl)) (hw _ (List.mem_of_getElem? (i := 34) rfl)) (hw _ (List.mem_of_getElem? (i := 35) rfl)) (by decide) (W := 0) (argsL := [(.ref a_50)]) (rest := []) (Pays.of_met (rm_ofs1 l Z a0 G1 G3 e0 e1 e2 e3 e4 sy0 sy1 sy2 sy3 sy4 ty0 ty1 ty2 ty3 ty4 vv ky0 ky1 ky2 ky3 ky4 kv hX hY n0 bk_46 h_45 O_47 a_50 a_51 k_52 cs F_55 hbl_56 []) (hw _ (List.mem_of_getElem? (i := 35) rfl)) (hw _ (List.mem_of_getElem? (i := 34) rfl)) (by decide) (by decide)) rfl (by rw [hml]; rfl) (lenOf pd__28_Ljava_2f_lang_2f_String_3b__29_Lcom_2f_example_2f_lean_entities_2f_leanentities_2f_session_2f_RawQuery_24_Operator_3b_ rfl) rfl (by show 2 * 0 + _ ≤ _; exact Nat.le_of_eq rfl) (hb hby at_42) (by decide) (by decide) ?_
      intro v_73 h_74 bk_75 O_76 z_77 Q_78
      obtain ⟨rfl, rfl, K_79⟩ := Q_78
      show Run p l e _ s m _ below meth c Z EL1 _ n0 bk_46 h_74 7 17 (mkF m 45 #[.val (.int sh), .val (.int c0), .val (.int c1), .val (.int c2), .val (.int i_7), .val (.int i_15), .val (.int i_23), .val (.ref a_50), .val (.ref ea)] [(opOf e0 e1 e2 e3 e4 cs)]) _
      rw [hop]
      show Run p l e _ s m _ below meth c Z EL1 _ n0 bk_46 h_74 7 17 (mkF m 45 #[.val (.int sh), .val (.int c0), .val (.int c1), .val (.int c2), .val (.int i_7), .val (.int i_15), .val (.int i_23), .val (.ref a_50), .val (.ref ea)] [(.ref ea)]) _
      refine k_pure (g' := (mkF m 47 #[.val (.int sh), .val (.int c0), .val (.int c1), .val (.int c2), .val (.int i_7), .val (.int i_15), .val (.int i_23), .val (.ref a_50), .val (.ref ea)] [(.ref ea), (.ref ea)])) (fun TT HH tt kk => XS.aload HH hx rfl (hb hby at_45) rfl rfl kk) ?_
      refine k_pure (g' := (mkF m 50 #[.val (.int sh), .val (.int c0), .val (.int c1), .val (.int c2), .val (.int i_7), .val (.int i_15), .val (.int i_23), .val (.ref a_50), .val (.ref ea)] [])) (fun TT HH tt kk => XT.acmpNo HH hx rfl (hb hby at_47) rfl rfl rfl (XT.aa_ne_f rfl) kk) ?_
      refine k_pure (g' := (mkF m 51 #[.val (.int sh), .val (.int c0), .val (.int c1), .val (.int c2), .val (.int i_7), .val (.int i_15), .val (.int i_23), .val (.ref a_50), .val (.ref ea)] [(.int (1 : Int32))])) (fun TT HH tt kk => XS.iconst HH hx rfl (hb hby at_50) kk) ?_
      refine k_pure (g' := (mkF m 55 #[.val (.int sh), .val (.int c0), .val (.int c1), .val (.int c2), .val (.int i_7), .val (.int i_15), .val (.int i_23), .val (.ref a_50), .val (.ref ea)] [(.int (1 : Int32))])) (fun TT HH tt kk => XS.goto HH hx rfl (pc0 := 51) (pc' := 55) rfl (hb hby at_51) (by decide) (by decide) kk) ?_
      exact k_retN hx hlk hret (by simp) (hb hby at_55) (by decide) (by decide) ⟨rfl, (fun y q => (hbs_57 y q).imp id (fun t => ⟨t.1, Nat.lt_of_lt_of_le t.2 (by omega)⟩)), (((Keep.refl _ _).trans K_54 kk0).trans K_79 kk0)⟩
set_option maxRecDepth 65536 in
set_option maxHeartbeats 40000000 in
theorem comes_1 {Post : Tables → Env → Array Value → State → Outcome → State → Prop} (hpost : ∀ tb e args s v u, (limb_1_1.after args s (.returned v) u = true ∧ limb_1_2.after args s (.returned v) u = true ∧ True) → FramedW s (.returned v) u (Jvm.fieldLocs frame_1_writes args s ++ Jvm.arrayLocs frame_1_arrays args s ++ Jvm.staticLocs frame_1_statics s) 24 1152 → Post tb e args s (.returned v) u) :
    ArmFor flags0 classFile x code maxLocals ret World_1 tables_1 room_1 Calls_1 rest_1 Pre_1 Post := by
  intro l hfl _ _ p e ha hc hk s m args below hf hA hF happ hP
  obtain ⟨hcalls, hrest, hpre⟩ := hP
  obtain ⟨-, -, -, hnamed, -, -, -, hat⟩ := (Spec.applies_iff hf).mp happ
  obtain ⟨hg, hn⟩ := and_e (Cond.before_iff.mp (show (Jvm.Cond.and given_1 narrow_1).before args s = true from hpre))
  obtain ⟨q0, r0⟩ := and_e hg
  obtain ⟨q1, r1⟩ := and_e r0
  obtain ⟨q2, r2⟩ := and_e r1
  obtain ⟨q3, r3⟩ := and_e r2
  obtain ⟨w0, w1, w2, w3, rfl⟩ : ∃ w0 w1 w2 w3 : Value, args = #[w0, w1, w2, w3] := by
    have hs : args.size = 4 := by simpa [Cond.value, given_1] using q0
    obtain ⟨L⟩ := args
    match L, hs with
    | [w0, w1, w2, w3], _ => exact ⟨w0, w1, w2, w3, rfl⟩
  have hw := fun d (hd : d ∈ tables_1) => atoms_spec (ws := Jvm.Cond.code x code maxLocals ret :: tables_1) hat d (List.mem_cons_of_mem _ hd)
  obtain ⟨hsets, hown0⟩ := atoms_of _ (rest_1_c_eq ▸ (show rest_1_c.before _ s = true from hrest))
  obtain ⟨i0, e0⟩ := is_v q1
  obtain rfl : w0 = (.int i0) := Option.some.inj e0
  obtain ⟨i1, e1⟩ := is_v q2
  obtain rfl : w1 = (.int i1) := Option.some.inj e1
  obtain ⟨i2, e2⟩ := is_v q3
  obtain rfl : w2 = (.int i2) := Option.some.inj e2
  obtain ⟨i3, e3⟩ := is_v r3
  obtain rfl : w3 = (.int i3) := Option.some.inj e3
  obtain ⟨G1, eG1⟩ := is_v (Cond.before_iff.mp (hsets _ (List.mem_of_getElem? (i := 1) rfl)))
  have S1 : Sta s s.heap "java/lang/String" "COMPACT_STRINGS" "Z" (.int G1) := Sta.start eG1 (Or.inl (hsets _ (List.mem_of_getElem? (i := 0) rfl)))
  have P1 : ¬ (G1 = (0 : Int32)) := gotF (Cond.eq_ints eG1 (Term.int_eval (0))) (not_v (Cond.before_iff.mp (hsets _ (List.mem_of_getElem? (i := 2) rfl))))
  obtain ⟨G3, eG3, P3⟩ := isR_v (Cond.before_iff.mp (hsets _ (List.mem_of_getElem? (i := 8) rfl)))
  have S3 : Sta s s.heap "jdk/internal/util/Preconditions" "SIOOBE_FORMATTER" "Ljava/util/function/BiFunction;" G3 := Sta.start eG3 (Or.inl (hsets _ (List.mem_of_getElem? (i := 7) rfl)))
  have hE : EW s #[(.int i0), (.int i1), (.int i2), (.int i3)] EL1 := (EW.cons (hw _ (List.mem_of_getElem? (i := 21) rfl)) (by decide +kernel) EW.nil)
  have hCH : CHv s EL1 s.vm s.heap := CHv.start hE (fun p hp => hcalls.1 p ((by decide +kernel : ∀ p ∈ EL1, p ∈ consts_1) p hp)) (hsets _ (List.mem_of_getElem? (i := 2) rfl)) (hw _ (List.mem_of_getElem? (i := 22) rfl)) (hw _ (List.mem_of_getElem? (i := 8) rfl))
  obtain ⟨na0, nm0⟩ := and_e hn
  obtain ⟨na1, nm1⟩ := and_e nm0
  obtain ⟨na2, nm2⟩ := and_e nm1
  obtain ⟨na3, nm3⟩ := and_e nm2
  obtain ⟨na4, nm4⟩ := and_e nm3
  obtain ⟨na5, nm5⟩ := and_e nm4
  obtain ⟨na6, nm6⟩ := and_e nm5
  obtain ⟨na7, nm7⟩ := and_e nm6
  obtain ⟨na8, nm8⟩ := and_e nm7
  obtain ⟨na9, nm9⟩ := and_e nm8
  obtain ⟨na10, nm10⟩ := and_e nm9
  obtain ⟨na11, nm11⟩ := and_e nm10
  obtain ⟨na12, nm12⟩ := and_e nm11
  obtain ⟨na13, nm13⟩ := and_e nm12
  obtain ⟨na14, nm14⟩ := and_e nm13
  obtain ⟨na15, nm15⟩ := and_e nm14
  obtain ⟨na16, nm16⟩ := and_e nm15
  obtain ⟨na17, nm17⟩ := and_e nm16
  obtain ⟨na18, nm18⟩ := and_e nm17
  obtain ⟨na19, nm19⟩ := and_e nm18
  obtain ⟨na20, nm20⟩ := and_e nm19
  obtain ⟨na21, nm21⟩ := and_e nm20
  obtain ⟨na22, nm22⟩ := and_e nm21
  obtain ⟨na23, nm23⟩ := and_e nm22
  obtain ⟨na24, nm24⟩ := and_e nm23
  obtain ⟨na25, nm25⟩ := and_e nm24
  obtain ⟨na26, nm26⟩ := and_e nm25
  obtain ⟨na27, nm27⟩ := and_e nm26
  obtain ⟨na28, nm28⟩ := and_e nm27
  obtain ⟨na29, nm29⟩ := and_e nm28
  obtain ⟨na30, nm30⟩ := and_e nm29
  obtain ⟨na31, nm31⟩ := and_e nm30
  obtain ⟨na32, nm32⟩ := and_e nm31
  obtain ⟨na33, nm33⟩ := and_e nm32
  obtain ⟨na34, nm34⟩ := and_e nm33
  obtain ⟨na35, nm35⟩ := and_e nm34
  obtain ⟨na36, nm36⟩ := and_e nm35
  obtain ⟨na37, nm37⟩ := and_e nm36
  obtain ⟨na38, nm38⟩ := and_e nm37
  have na39 := nm38
  have hFit : Fit s := fit_of hF
  obtain ⟨vv, ev, xV⟩ := exa_start (Cond.before_iff.mpr na1)
  have sV := Sta.start ev (Or.inr ⟨(hw _ (List.mem_of_getElem? (i := 34) rfl)), (hw _ (List.mem_of_getElem? (i := 40) rfl))⟩)
  obtain ⟨e0, ee0, xE0⟩ := exa_start (Cond.before_iff.mpr na3)
  have sE0 := Sta.start ee0 (Or.inr ⟨(hw _ (List.mem_of_getElem? (i := 34) rfl)), (hw _ (List.mem_of_getElem? (i := 48) rfl))⟩)
  have el0 := ev_ref na4 ee0
  obtain ⟨sy0, es0, xs0⟩ := exa_start (Cond.before_iff.mpr na13)
  have fE0 := fld_start ee0 es0
  have fc0 := fld_start es0 (ev_int (Cond.before_iff.mpr na14))
  obtain ⟨ty0, et0⟩ := arr_v na15
  have fv0 := fld_start es0 et0
  obtain ⟨ky0, av0⟩ := arv_start (vs := [(.int 61)]) (dv := (.int 0)) hFit et0 na15 (ev_int (Cond.before_iff.mpr na16)) (by decide) (by decide) (fun cl hc => ⟨(elem_in (ev_int (Cond.before_iff.mpr na35)) et0 (Term.int_eval _) hc).2, trivial⟩)
  have qq0 : (([(61 : Int32)].map (fun c => c.toInt8.toInt32)).map Value.int) = [(.int 61)] := by decide +kernel
  have tE0 : StrL s s.heap sy0 ty0 ky0 [(61 : Int32)] := ⟨xs0, fc0, fv0, (by rw [qq0]; exact av0), by decide, by decide⟩
  obtain ⟨e1, ee1, xE1⟩ := exa_start (Cond.before_iff.mpr na5)
  have sE1 := Sta.start ee1 (Or.inr ⟨(hw _ (List.mem_of_getElem? (i := 34) rfl)), (hw _ (List.mem_of_getElem? (i := 49) rfl))⟩)
  have el1 := ev_ref na6 ee1
  obtain ⟨sy1, es1, xs1⟩ := exa_start (Cond.before_iff.mpr na17)
  have fE1 := fld_start ee1 es1
  have fc1 := fld_start es1 (ev_int (Cond.before_iff.mpr na18))
  obtain ⟨ty1, et1⟩ := arr_v na19
  have fv1 := fld_start es1 et1
  obtain ⟨ky1, av1⟩ := arv_start (vs := [(.int 60)]) (dv := (.int 0)) hFit et1 na19 (ev_int (Cond.before_iff.mpr na20)) (by decide) (by decide) (fun cl hc => ⟨(elem_in (ev_int (Cond.before_iff.mpr na36)) et1 (Term.int_eval _) hc).2, trivial⟩)
  have qq1 : (([(60 : Int32)].map (fun c => c.toInt8.toInt32)).map Value.int) = [(.int 60)] := by decide +kernel
  have tE1 : StrL s s.heap sy1 ty1 ky1 [(60 : Int32)] := ⟨xs1, fc1, fv1, (by rw [qq1]; exact av1), by decide, by decide⟩
  obtain ⟨e2, ee2, xE2⟩ := exa_start (Cond.before_iff.mpr na7)
  have sE2 := Sta.start ee2 (Or.inr ⟨(hw _ (List.mem_of_getElem? (i := 34) rfl)), (hw _ (List.mem_of_getElem? (i := 50) rfl))⟩)
  have el2 := ev_ref na8 ee2
  obtain ⟨sy2, es2, xs2⟩ := exa_start (Cond.before_iff.mpr na21)
  have fE2 := fld_start ee2 es2
  have fc2 := fld_start es2 (ev_int (Cond.before_iff.mpr na22))
  obtain ⟨ty2, et2⟩ := arr_v na23
  have fv2 := fld_start es2 et2
  obtain ⟨ky2, av2⟩ := arv_start (vs := [(.int 60), (.int 61)]) (dv := (.int 0)) hFit et2 na23 (ev_int (Cond.before_iff.mpr na24)) (by decide) (by decide) (fun cl hc => ⟨(elem_in (ev_int (Cond.before_iff.mpr na33)) et2 (Term.int_eval _) hc).2, (elem_in (ev_int (Cond.before_iff.mpr na39)) et2 (Term.int_eval _) hc).2, trivial⟩)
  have qq2 : (([(60 : Int32), (61 : Int32)].map (fun c => c.toInt8.toInt32)).map Value.int) = [(.int 60), (.int 61)] := by decide +kernel
  have tE2 : StrL s s.heap sy2 ty2 ky2 [(60 : Int32), (61 : Int32)] := ⟨xs2, fc2, fv2, (by rw [qq2]; exact av2), by decide, by decide⟩
  obtain ⟨e3, ee3, xE3⟩ := exa_start (Cond.before_iff.mpr na9)
  have sE3 := Sta.start ee3 (Or.inr ⟨(hw _ (List.mem_of_getElem? (i := 34) rfl)), (hw _ (List.mem_of_getElem? (i := 51) rfl))⟩)
  have el3 := ev_ref na10 ee3
  obtain ⟨sy3, es3, xs3⟩ := exa_start (Cond.before_iff.mpr na25)
  have fE3 := fld_start ee3 es3
  have fc3 := fld_start es3 (ev_int (Cond.before_iff.mpr na26))
  obtain ⟨ty3, et3⟩ := arr_v na27
  have fv3 := fld_start es3 et3
  obtain ⟨ky3, av3⟩ := arv_start (vs := [(.int 62)]) (dv := (.int 0)) hFit et3 na27 (ev_int (Cond.before_iff.mpr na28)) (by decide) (by decide) (fun cl hc => ⟨(elem_in (ev_int (Cond.before_iff.mpr na37)) et3 (Term.int_eval _) hc).2, trivial⟩)
  have qq3 : (([(62 : Int32)].map (fun c => c.toInt8.toInt32)).map Value.int) = [(.int 62)] := by decide +kernel
  have tE3 : StrL s s.heap sy3 ty3 ky3 [(62 : Int32)] := ⟨xs3, fc3, fv3, (by rw [qq3]; exact av3), by decide, by decide⟩
  obtain ⟨e4, ee4, xE4⟩ := exa_start (Cond.before_iff.mpr na11)
  have sE4 := Sta.start ee4 (Or.inr ⟨(hw _ (List.mem_of_getElem? (i := 34) rfl)), (hw _ (List.mem_of_getElem? (i := 52) rfl))⟩)
  have el4 := ev_ref na12 ee4
  obtain ⟨sy4, es4, xs4⟩ := exa_start (Cond.before_iff.mpr na29)
  have fE4 := fld_start ee4 es4
  have fc4 := fld_start es4 (ev_int (Cond.before_iff.mpr na30))
  obtain ⟨ty4, et4⟩ := arr_v na31
  have fv4 := fld_start es4 et4
  obtain ⟨ky4, av4⟩ := arv_start (vs := [(.int 62), (.int 61)]) (dv := (.int 0)) hFit et4 na31 (ev_int (Cond.before_iff.mpr na32)) (by decide) (by decide) (fun cl hc => ⟨(elem_in (ev_int (Cond.before_iff.mpr na34)) et4 (Term.int_eval _) hc).2, (elem_in (ev_int (Cond.before_iff.mpr na38)) et4 (Term.int_eval _) hc).2, trivial⟩)
  have qq4 : (([(62 : Int32), (61 : Int32)].map (fun c => c.toInt8.toInt32)).map Value.int) = [(.int 62), (.int 61)] := by decide +kernel
  have tE4 : StrL s s.heap sy4 ty4 ky4 [(62 : Int32), (61 : Int32)] := ⟨xs4, fc4, fv4, (by rw [qq4]; exact av4), by decide, by decide⟩
  obtain ⟨kv, aV⟩ := arv_start (vs := [(.ref e0), (.ref e1), (.ref e2), (.ref e3), (.ref e4)]) (dv := .null) hFit ev na0 (ev_int (Cond.before_iff.mpr na2)) (by decide) rfl (fun cl hc => ⟨(elem_in el0 ev (Term.int_eval _) hc).2, (elem_in el1 ev (Term.int_eval _) hc).2, (elem_in el2 ev (Term.int_eval _) hc).2, (elem_in el3 ev (Term.int_eval _) hc).2, (elem_in el4 ev (Term.int_eval _) hc).2, trivial⟩)
  have hY : More s e0 e1 e2 e3 e4 sy0 sy1 sy2 sy3 sy4 ty0 ty1 ty2 ty3 ty4 vv ky0 ky1 ky2 ky3 ky4 kv := ⟨sV, xV, aV, sE0, xE0, fE0, tE0, sE1, xE1, fE1, tE1, sE2, xE2, fE2, tE2, sE3, xE3, fE3, tE3, sE4, xE4, fE4, tE4⟩
  have hX : Ctx s _ G1 G3 := ⟨hw, hE, S1, P1, S3, P3⟩
  obtain ⟨n, o, h1, h2, h3, v, L, bk', rfl, ⟨⟨rfl, -⟩, N, -⟩, hq⟩ := rm_law l s _ G1 G3 e0 e1 e2 e3 e4 sy0 sy1 sy2 sy3 sy4 ty0 ty1 ty2 ty3 ty4 vv ky0 ky1 ky2 ky3 ky4 kv hX hY s.heap.size (Bk s EL1 s.vm s.heap) s.heap (Old.start s) i0 i1 i2 i3 (fun y q => (Array.getElem?_eq_some_iff.mp (Bk.there q).choose_spec).1) tables_1 p e ha hc hk s m _ below hf ((Spec.applies_iff_loose hf).mp happ).1 ⟨rfl, State.Warmed39.refl s, rfl, hCH, (fun _ q => q)⟩ trivial
  refine ⟨n, _, h1, h2, h3, hpost _ _ _ _ _ _ ⟨Cond.after_iff.mpr rfl, Cond.after_iff.mpr (eq_i res_at (Term.int_eval (1)) rfl), trivial⟩ ⟨hq.1, hq.2.1, hq.2.2.1, (hq.2.2.2.sift fun y hy => Or.inr (N y hy)).mono (by decide) (by decide)⟩⟩
theorem main_1_1 : Claimed_1_1 := comes_1 fun _ _ _ _ _ _ h hF => ⟨h.1, hF⟩
theorem main_1_2 : Claimed_1_2 := comes_1 fun _ _ _ _ _ _ h hF => ⟨h.2.1, hF⟩
end Jvm.Pilot.@@N@@
namespace Jvm.Pilot.@@N@@
open Jvm Jvm.ClassFile Sem Op Lib Jvm.Free Jvm.Stand Jvm.Pilot.@@N@@.Jvm.D
/-! MADE BY PROGRAM (witnessworld.py) out of the Statement's table words and the real class files: 22 classes; the members and pool entries that the words name. The judged class is class 1, her method 1. -/
namespace start1
open Jvm.ClassFile
def u (s : String) : CpInfo := .utf8 (stringToUtf16 s)
/-- a pool by its gaps: so many unusable entries, then the entry; so many at the end -/
def gap : Nat → List CpInfo → List CpInfo
  | 0, r => r
  | n + 1, r => .unusable :: gap n r
def poolList (es : List (Nat × CpInfo)) (last : Nat) : List CpInfo := es.foldr (fun e r => gap e.1 (e.2 :: r)) (gap last [])
def pool (es : List (Nat × CpInfo)) (last : Nat) : Array CpInfo := ⟨poolList es last⟩
def fileOf (pool : Array CpInfo) (this : Nat) (attrs : Array Attribute := #[]) (ms : Array MethodInfo := #[]) (fl : Nat := 33) (sup : Nat := 0) (ifs : Array Nat := #[]) (fds : Array FieldInfo := #[]) : ClassFile where
  minorVersion := 0
  majorVersion := 65
  constantPool := pool
  accessFlags := fl
  thisClass := this
  superClass := sup
  interfaces := ifs
  fields := fds
  methods := ms
  attributes := attrs
def plain (name : String) (sup : Option ClassId) : Class where
  name := name
  kind := .ordinary
  loader := none
  accessFlags := 33
  super := sup
  interfaces := #[]
  cf := none
  fields := #[]
  methods := #[]
  instanceTypes := #[]
  staticTypes := #[]
  resolved := #[]
  callSites := []
  init := .initialized
  statics := none
  mirror := none

def pool0 : Array CpInfo := pool [(5, u "<init>"), (0, u "()V"), (1, .class_ 10), (1, u "java/lang/Object"), (85, u "clone"), (0, u "()Ljava/lang/Object;")] 26

def k0c0 : Code := { maxStack := 0, maxLocals := 1, code := object_method_1_code, exceptionTable := #[], attributes := #[] }
def k0m0 : Method := { name := "<init>", desc := "()V", sig := { parameters := [], returnType := none }, accessFlags := 1, code := some k0c0 }
def k0m1 : Method := { name := "clone", desc := "()Ljava/lang/Object;", sig := { parameters := [], returnType := some (.object "java/lang/Object") }, accessFlags := 260, code := none }
/-- java/lang/Object -/
def k0 : Class := { plain "java/lang/Object" none with
  accessFlags := 33
  interfaces := #[]
  cf := some (fileOf pool0 8 #[] #[{ accessFlags := 1, nameIndex := 5, descriptorIndex := 6, attributes := #[] }, { accessFlags := 260, nameIndex := 96, descriptorIndex := 97, attributes := #[] }] 33 0 #[] #[])
  fields := #[]
  methods := #[k0m0, k0m1]
  instanceTypes := #[]
  staticTypes := #[]
  resolved := Array.replicate 124 none
  statics := none }

def pool1 : Array CpInfo := pool [(2, .class_ 4), (1, u "java/lang/Object"), (0, u "<init>"), (0, u "()V"), (0, .methodref 8 9), (0, .class_ 10), (0, .nameAndType 11 12), (0, u "com/example/lean_entities/leanentities/session/OperatorOfSymbolPinLaw"), (0, u "ch"), (0, u "(I)C"), (0, .methodref 8 14), (0, .nameAndType 15 16), (0, u "text"), (0, u "(ICCC)Ljava/lang/String;"), (0, .methodref 8 18), (0, .nameAndType 19 20), (0, u "expected"), (0, u "(ICC)Lcom/example/lean_entities/leanentities/session/RawQuery$Operator;"), (0, .methodref 22 23), (0, .class_ 24), (0, .nameAndType 25 26), (0, u "com/example/lean_entities/leanentities/session/RawQuery$Operator"), (0, u "ofSymbol"), (0, u "(Ljava/lang/String;)Lcom/example/lean_entities/leanentities/session/RawQuery$Operator;"), (0, .class_ 28), (0, u "java/lang/String"), (0, .methodref 27 30), (0, .nameAndType 5 31), (0, u "([C)V"), (0, .fieldref 22 33), (0, .nameAndType 34 35), (0, u "EQUAL"), (0, u "Lcom/example/lean_entities/leanentities/session/RawQuery$Operator;"), (0, .fieldref 22 37), (0, .nameAndType 38 35), (0, u "LESS_THAN"), (0, .fieldref 22 40), (0, .nameAndType 41 35), (0, u "GREATER_THAN"), (0, .fieldref 22 43), (0, .nameAndType 44 35), (0, u "LESS_THAN_OR_EQUAL"), (0, .fieldref 22 46), (0, .nameAndType 47 35), (0, u "GREATER_THAN_OR_EQUAL"), (2, u "law"), (0, u "(IIII)Z")] 7

def k1m0 : Method := { name := "<init>", desc := "()V", sig := { parameters := [], returnType := none }, accessFlags := 1, code := none }
def k1c1 : Code := { maxStack := 4, maxLocals := 9, code := code, exceptionTable := #[], attributes := #[] }
def k1m1 : Method := { name := "law", desc := "(IIII)Z", sig := { parameters := [.int, .int, .int, .int], returnType := some .boolean }, accessFlags := 9, code := some k1c1 }
def k1c2 : Code := { maxStack := 2, maxLocals := 2, code := method_3_code, exceptionTable := #[], attributes := #[] }
def k1m2 : Method := { name := "ch", desc := "(I)C", sig := { parameters := [.int], returnType := some .char }, accessFlags := 10, code := some k1c2 }
def k1c3 : Code := { maxStack := 6, maxLocals := 5, code := method_4_code, exceptionTable := #[], attributes := #[] }
def k1m3 : Method := { name := "text", desc := "(ICCC)Ljava/lang/String;", sig := { parameters := [.int, .char, .char, .char], returnType := some (.object "java/lang/String") }, accessFlags := 10, code := some k1c3 }
def k1c4 : Code := { maxStack := 2, maxLocals := 4, code := method_5_code, exceptionTable := #[], attributes := #[] }
def k1m4 : Method := { name := "expected", desc := "(ICC)Lcom/example/lean_entities/leanentities/session/RawQuery$Operator;", sig := { parameters := [.int, .char, .char], returnType := some (.object "com/example/lean_entities/leanentities/session/RawQuery$Operator") }, accessFlags := 10, code := some k1c4 }
/-- com/example/lean_entities/leanentities/session/OperatorOfSymbolPinLaw -/
def k1 : Class := { plain "com/example/lean_entities/leanentities/session/OperatorOfSymbolPinLaw" (some 0) with
  accessFlags := 49
  interfaces := #[]
  cf := some (fileOf pool1 8 #[] #[{ accessFlags := 1, nameIndex := 5, descriptorIndex := 6, attributes := #[] }, { accessFlags := 9, nameIndex := 50, descriptorIndex := 51, attributes := #[] }, { accessFlags := 10, nameIndex := 11, descriptorIndex := 12, attributes := #[] }, { accessFlags := 10, nameIndex := 15, descriptorIndex := 16, attributes := #[] }, { accessFlags := 10, nameIndex := 19, descriptorIndex := 20, attributes := #[] }] 49 2 #[] #[])
  fields := #[]
  methods := #[k1m0, k1m1, k1m2, k1m3, k1m4]
  instanceTypes := #[]
  staticTypes := #[]
  resolved := Array.replicate 59 none
  statics := none }

def pool2 : Array CpInfo := pool [(1, .class_ 2), (0, u "java/io/Serializable"), (0, .class_ 4), (0, u "java/lang/Object")] 2

/-- java/io/Serializable -/
def k2 : Class := { plain "java/io/Serializable" (some 0) with
  accessFlags := 1537
  interfaces := #[]
  cf := some (fileOf pool2 1 #[] #[] 1537 3 #[] #[])
  fields := #[]
  methods := #[]
  instanceTypes := #[]
  staticTypes := #[]
  resolved := Array.replicate 7 none
  statics := none }

def pool3 : Array CpInfo := pool [(1, .class_ 2), (0, u "java/lang/Comparable"), (0, .class_ 4), (0, u "java/lang/Object")] 7

/-- java/lang/Comparable -/
def k3 : Class := { plain "java/lang/Comparable" (some 0) with
  accessFlags := 1537
  interfaces := #[]
  cf := some (fileOf pool3 1 #[] #[] 1537 3 #[] #[])
  fields := #[]
  methods := #[]
  instanceTypes := #[]
  staticTypes := #[]
  resolved := Array.replicate 12 none
  statics := none }

def pool4 : Array CpInfo := pool [(2, .class_ 4), (1, u "java/lang/CharSequence"), (42, .class_ 48), (0, u "java/lang/CharSequence$1CodePointIterator"), (10, .class_ 60), (0, u "java/lang/CharSequence$1CharIterator"), (5, .class_ 67), (0, u "java/lang/Object")] 63

/-- java/lang/CharSequence -/
def k4 : Class := { plain "java/lang/CharSequence" (some 0) with
  accessFlags := 1537
  interfaces := #[]
  cf := some (fileOf pool4 2 #[.nestMembers #[47, 59]] #[] 1537 66 #[] #[])
  fields := #[]
  methods := #[]
  instanceTypes := #[]
  staticTypes := #[]
  resolved := Array.replicate 131 none
  statics := none }

def pool5 : Array CpInfo := pool [(1, .class_ 2), (0, u "java/lang/constant/Constable"), (0, .class_ 4), (0, u "java/lang/Object")] 6

/-- java/lang/constant/Constable -/
def k5 : Class := { plain "java/lang/constant/Constable" (some 0) with
  accessFlags := 1537
  interfaces := #[]
  cf := some (fileOf pool5 1 #[] #[] 1537 3 #[] #[])
  fields := #[]
  methods := #[]
  instanceTypes := #[]
  staticTypes := #[]
  resolved := Array.replicate 11 none
  statics := none }

def pool6 : Array CpInfo := pool [(1, .class_ 2), (0, u "java/lang/constant/ConstantDesc"), (0, .class_ 4), (0, u "java/lang/Object")] 32

/-- java/lang/constant/ConstantDesc -/
def k6 : Class := { plain "java/lang/constant/ConstantDesc" (some 0) with
  accessFlags := 1537
  interfaces := #[]
  cf := some (fileOf pool6 1 #[] #[] 1537 3 #[] #[])
  fields := #[]
  methods := #[]
  instanceTypes := #[]
  staticTypes := #[]
  resolved := Array.replicate 37 none
  statics := none }

def pool7 : Array CpInfo := pool [(1, .methodref 2 3), (0, .class_ 4), (0, .nameAndType 5 6), (0, u "java/lang/Object"), (0, u "<init>"), (0, u "()V"), (0, .string 8), (0, u ""), (0, .fieldref 10 11), (0, .class_ 12), (0, .nameAndType 13 14), (0, u "java/lang/String"), (0, u "value"), (0, u "[B"), (0, .fieldref 10 16), (0, .nameAndType 17 18), (0, u "coder"), (0, u "B"), (2, u "hash"), (0, u "I"), (2, u "hashIsZero"), (0, u "Z"), (0, .methodref 10 28), (0, .nameAndType 5 29), (0, u "([CIILjava/lang/Void;)V"), (8, .fieldref 10 39), (0, .nameAndType 40 26), (0, u "COMPACT_STRINGS"), (1, .class_ 44), (1, u "java/lang/StringUTF16"), (0, u "compress"), (1, .methodref 42 48), (0, .nameAndType 49 50), (0, u "coderFromArrayLen"), (0, u "([BI)B"), (56, .class_ 109), (1, u "java/lang/StringLatin1"), (67, .methodref 42 178), (0, .nameAndType 45 179), (0, u "([CII)[B"), (361, .methodref 107 542), (0, .nameAndType 543 544), (0, u "equals"), (0, u "([B[B)Z"), (28, u "(Ljava/lang/Object;)Z"), (1, .class_ 576), (0, u "java/lang/CharSequence"), (22, u "CASE_INSENSITIVE_ORDER"), (0, u "Ljava/util/Comparator;"), (409, u "([C)V"), (90, u "serialPersistentFields"), (0, u "[Ljava/io/ObjectStreamField;"), (0, .class_ 1104), (0, u "java/lang/String$CaseInsensitiveComparator"), (1, .class_ 1107), (0, u "java/io/Serializable"), (0, .class_ 1109), (0, u "java/lang/Comparable"), (0, .class_ 1111), (0, u "java/lang/constant/Constable"), (0, .class_ 1113), (0, u "java/lang/constant/ConstantDesc"), (2, u "serialVersionUID"), (0, u "J"), (3, u "REPL"), (0, u "C"), (2, u "LATIN1"), (1, u "UTF16")] 323

def k7m0 : Method := { name := "<init>", desc := "()V", sig := { parameters := [], returnType := none }, accessFlags := 1, code := none }
def k7c1 : Code := { maxStack := 5, maxLocals := 2, code := jdk_42_method_3_code, exceptionTable := #[], attributes := #[] }
def k7m1 : Method := { name := "<init>", desc := "([C)V", sig := { parameters := [(.array .char)], returnType := none }, accessFlags := 1, code := some k7c1 }
def k7c2 : Code := { maxStack := 2, maxLocals := 3, code := jdk_42_method_66_code, exceptionTable := #[], attributes := #[] }
def k7m2 : Method := { name := "equals", desc := "(Ljava/lang/Object;)Z", sig := { parameters := [(.object "java/lang/Object")], returnType := some .boolean }, accessFlags := 1, code := some k7c2 }
def k7c3 : Code := { maxStack := 4, maxLocals := 6, code := jdk_42_method_149_code, exceptionTable := #[], attributes := #[] }
def k7m3 : Method := { name := "<init>", desc := "([CIILjava/lang/Void;)V", sig := { parameters := [(.array .char), .int, .int, (.object "java/lang/Void")], returnType := none }, accessFlags := 2, code := some k7c3 }
/-- java/lang/String -/
def k7 : Class := { plain "java/lang/String" (some 0) with
  accessFlags := 49
  interfaces := #[2, 3, 4, 5, 6]
  cf := some (fileOf pool7 10 #[.nestMembers #[1103]] #[{ accessFlags := 1, nameIndex := 5, descriptorIndex := 6, attributes := #[] }, { accessFlags := 1, nameIndex := 5, descriptorIndex := 1010, attributes := #[] }, { accessFlags := 1, nameIndex := 543, descriptorIndex := 573, attributes := #[] }, { accessFlags := 2, nameIndex := 5, descriptorIndex := 29, attributes := #[] }] 49 2 #[1106, 1108, 575, 1110, 1112] #[{ accessFlags := 18, nameIndex := 13, descriptorIndex := 14, attributes := #[] }, { accessFlags := 18, nameIndex := 17, descriptorIndex := 18, attributes := #[] }, { accessFlags := 2, nameIndex := 21, descriptorIndex := 22, attributes := #[] }, { accessFlags := 2, nameIndex := 25, descriptorIndex := 26, attributes := #[] }, { accessFlags := 26, nameIndex := 1116, descriptorIndex := 1117, attributes := #[] }, { accessFlags := 24, nameIndex := 40, descriptorIndex := 26, attributes := #[] }, { accessFlags := 26, nameIndex := 1101, descriptorIndex := 1102, attributes := #[] }, { accessFlags := 26, nameIndex := 1121, descriptorIndex := 1122, attributes := #[] }, { accessFlags := 25, nameIndex := 599, descriptorIndex := 600, attributes := #[] }, { accessFlags := 24, nameIndex := 1125, descriptorIndex := 18, attributes := #[] }, { accessFlags := 24, nameIndex := 1127, descriptorIndex := 18, attributes := #[] }])
  fields := #[{ name := "value", type := (.array .byte), accessFlags := 18, slot := 0, constantValue := 0 }, { name := "coder", type := .byte, accessFlags := 18, slot := 1, constantValue := 0 }, { name := "hash", type := .int, accessFlags := 2, slot := 2, constantValue := 0 }, { name := "hashIsZero", type := .boolean, accessFlags := 2, slot := 3, constantValue := 0 }, { name := "serialVersionUID", type := .long, accessFlags := 26, slot := 0, constantValue := 0 }, { name := "COMPACT_STRINGS", type := .boolean, accessFlags := 24, slot := 1, constantValue := 0 }, { name := "serialPersistentFields", type := (.array (.object "java/io/ObjectStreamField")), accessFlags := 26, slot := 2, constantValue := 0 }, { name := "REPL", type := .char, accessFlags := 26, slot := 3, constantValue := 0 }, { name := "CASE_INSENSITIVE_ORDER", type := (.object "java/util/Comparator"), accessFlags := 25, slot := 4, constantValue := 0 }, { name := "LATIN1", type := .byte, accessFlags := 24, slot := 5, constantValue := 0 }, { name := "UTF16", type := .byte, accessFlags := 24, slot := 6, constantValue := 0 }]
  methods := #[k7m0, k7m1, k7m2, k7m3]
  instanceTypes := #[(.array .byte), .byte, .int, .boolean]
  staticTypes := #[.long, .boolean, (.array (.object "java/io/ObjectStreamField")), .char, (.object "java/util/Comparator"), .byte, .byte]
  resolved := Array.replicate 1451 none
  statics := some 0 }

def pool8 : Array CpInfo := pool [(2, .class_ 4), (1, u "java/lang/Enum"), (0, u "name"), (0, u "Ljava/lang/String;"), (2, u "ordinal"), (0, u "I"), (1, .class_ 14), (1, u "java/lang/Object"), (4, u "hash"), (86, .class_ 108), (1, u "java/lang/Enum$EnumDesc"), (2, .class_ 112), (0, u "java/lang/constant/Constable"), (0, .class_ 114), (0, u "java/lang/Comparable"), (0, .class_ 116), (0, u "java/io/Serializable")] 87

/-- java/lang/Enum -/
def k8 : Class := { plain "java/lang/Enum" (some 0) with
  accessFlags := 1057
  interfaces := #[5, 3, 2]
  cf := some (fileOf pool8 2 #[.nestMembers #[106]] #[] 1057 12 #[111, 113, 115] #[{ accessFlags := 18, nameIndex := 5, descriptorIndex := 6, attributes := #[] }, { accessFlags := 18, nameIndex := 9, descriptorIndex := 10, attributes := #[] }, { accessFlags := 2, nameIndex := 19, descriptorIndex := 10, attributes := #[] }])
  fields := #[{ name := "name", type := (.object "java/lang/String"), accessFlags := 18, slot := 0, constantValue := 0 }, { name := "ordinal", type := .int, accessFlags := 18, slot := 1, constantValue := 0 }, { name := "hash", type := .int, accessFlags := 2, slot := 2, constantValue := 0 }]
  methods := #[]
  instanceTypes := #[(.object "java/lang/String"), .int, .int]
  staticTypes := #[]
  resolved := Array.replicate 204 none
  statics := none }

def pool9 : Array CpInfo := pool [(1, .class_ 2), (0, u "com/example/lean_entities/leanentities/session/RawQuery$Operator"), (2, u "EQUAL"), (0, u "Lcom/example/lean_entities/leanentities/session/RawQuery$Operator;"), (2, u "LESS_THAN"), (2, u "LESS_THAN_OR_EQUAL"), (2, u "GREATER_THAN"), (2, u "GREATER_THAN_OR_EQUAL"), (0, .fieldref 1 20), (0, .nameAndType 21 22), (0, u "$VALUES"), (0, u "[Lcom/example/lean_entities/leanentities/session/RawQuery$Operator;"), (0, .methodref 24 25), (0, .class_ 22), (0, .nameAndType 26 27), (0, u "clone"), (0, u "()Ljava/lang/Object;"), (1, .class_ 31), (1, u "java/lang/Enum"), (6, .fieldref 1 39), (0, .nameAndType 40 41), (0, u "symbol"), (0, u "Ljava/lang/String;"), (0, .methodref 1 43), (0, .nameAndType 44 45), (0, u "values"), (0, u "()[Lcom/example/lean_entities/leanentities/session/RawQuery$Operator;"), (0, .methodref 47 48), (0, .class_ 49), (0, .nameAndType 50 51), (0, u "java/lang/String"), (0, u "equals"), (0, u "(Ljava/lang/Object;)Z"), (23, u "(Ljava/lang/String;)Lcom/example/lean_entities/leanentities/session/RawQuery$Operator;"), (4, u "ofSymbol"), (7, .class_ 89), (0, u "com/example/lean_entities/leanentities/session/RawQuery")] 2

def k9c0 : Code := { maxStack := 1, maxLocals := 0, code := prog_35_method_1_code, exceptionTable := #[], attributes := #[] }
def k9m0 : Method := { name := "values", desc := "()[Lcom/example/lean_entities/leanentities/session/RawQuery$Operator;", sig := { parameters := [], returnType := some (.array (.object "com/example/lean_entities/leanentities/session/RawQuery$Operator")) }, accessFlags := 9, code := some k9c0 }
def k9c1 : Code := { maxStack := 2, maxLocals := 5, code := prog_35_method_5_code, exceptionTable := #[], attributes := #[] }
def k9m1 : Method := { name := "ofSymbol", desc := "(Ljava/lang/String;)Lcom/example/lean_entities/leanentities/session/RawQuery$Operator;", sig := { parameters := [(.object "java/lang/String")], returnType := some (.object "com/example/lean_entities/leanentities/session/RawQuery$Operator") }, accessFlags := 9, code := some k9c1 }
/-- com/example/lean_entities/leanentities/session/RawQuery$Operator -/
def k9 : Class := { plain "com/example/lean_entities/leanentities/session/RawQuery$Operator" (some 8) with
  accessFlags := 16433
  interfaces := #[]
  cf := some (fileOf pool9 1 #[.nestHost 88] #[{ accessFlags := 9, nameIndex := 44, descriptorIndex := 45, attributes := #[] }, { accessFlags := 9, nameIndex := 80, descriptorIndex := 75, attributes := #[] }] 16433 29 #[] #[{ accessFlags := 16409, nameIndex := 5, descriptorIndex := 6, attributes := #[] }, { accessFlags := 16409, nameIndex := 9, descriptorIndex := 6, attributes := #[] }, { accessFlags := 16409, nameIndex := 12, descriptorIndex := 6, attributes := #[] }, { accessFlags := 16409, nameIndex := 15, descriptorIndex := 6, attributes := #[] }, { accessFlags := 16409, nameIndex := 18, descriptorIndex := 6, attributes := #[] }, { accessFlags := 18, nameIndex := 40, descriptorIndex := 41, attributes := #[] }, { accessFlags := 4122, nameIndex := 21, descriptorIndex := 22, attributes := #[] }])
  fields := #[{ name := "EQUAL", type := (.object "com/example/lean_entities/leanentities/session/RawQuery$Operator"), accessFlags := 16409, slot := 0, constantValue := 0 }, { name := "LESS_THAN", type := (.object "com/example/lean_entities/leanentities/session/RawQuery$Operator"), accessFlags := 16409, slot := 1, constantValue := 0 }, { name := "LESS_THAN_OR_EQUAL", type := (.object "com/example/lean_entities/leanentities/session/RawQuery$Operator"), accessFlags := 16409, slot := 2, constantValue := 0 }, { name := "GREATER_THAN", type := (.object "com/example/lean_entities/leanentities/session/RawQuery$Operator"), accessFlags := 16409, slot := 3, constantValue := 0 }, { name := "GREATER_THAN_OR_EQUAL", type := (.object "com/example/lean_entities/leanentities/session/RawQuery$Operator"), accessFlags := 16409, slot := 4, constantValue := 0 }, { name := "symbol", type := (.object "java/lang/String"), accessFlags := 18, slot := 3, constantValue := 0 }, { name := "$VALUES", type := (.array (.object "com/example/lean_entities/leanentities/session/RawQuery$Operator")), accessFlags := 4122, slot := 5, constantValue := 0 }]
  methods := #[k9m0, k9m1]
  instanceTypes := #[(.object "java/lang/String"), .int, .int, (.object "java/lang/String")]
  staticTypes := #[(.object "com/example/lean_entities/leanentities/session/RawQuery$Operator"), (.object "com/example/lean_entities/leanentities/session/RawQuery$Operator"), (.object "com/example/lean_entities/leanentities/session/RawQuery$Operator"), (.object "com/example/lean_entities/leanentities/session/RawQuery$Operator"), (.object "com/example/lean_entities/leanentities/session/RawQuery$Operator"), (.array (.object "com/example/lean_entities/leanentities/session/RawQuery$Operator"))]
  resolved := Array.replicate 92 none
  statics := some 1 }

def pool10 : Array CpInfo := pool [(1, .class_ 2), (0, u "java/lang/Cloneable"), (0, .class_ 4), (0, u "java/lang/Object")] 2

/-- java/lang/Cloneable -/
def k10 : Class := { plain "java/lang/Cloneable" (some 0) with
  accessFlags := 1537
  interfaces := #[]
  cf := some (fileOf pool10 1 #[] #[] 1537 3 #[] #[])
  fields := #[]
  methods := #[]
  instanceTypes := #[]
  staticTypes := #[]
  resolved := Array.replicate 7 none
  statics := none }

def pool11 : Array CpInfo := pool [(4, .class_ 6), (1, u "java/lang/Object"), (0, u "<init>"), (0, u "()V"), (5, .class_ 16), (1, u "java/lang/StringLatin1"), (104, u "$assertionsDisabled"), (0, u "Z"), (98, .class_ 223), (1, u "java/lang/StringLatin1$LinesSpliterator"), (57, u "equals"), (0, u "([B[B)Z"), (107, .class_ 391), (0, u "java/lang/StringLatin1$CharsSpliterator")] 3

def k11m0 : Method := { name := "<init>", desc := "()V", sig := { parameters := [], returnType := none }, accessFlags := 0, code := none }
def k11c1 : Code := { maxStack := 3, maxLocals := 3, code := jdk_43_method_13_code, exceptionTable := #[], attributes := #[] }
def k11m1 : Method := { name := "equals", desc := "([B[B)Z", sig := { parameters := [(.array .byte), (.array .byte)], returnType := some .boolean }, accessFlags := 9, code := some k11c1 }
/-- java/lang/StringLatin1 -/
def k11 : Class := { plain "java/lang/StringLatin1" (some 0) with
  accessFlags := 48
  interfaces := #[]
  cf := some (fileOf pool11 14 #[.nestMembers #[390, 221]] #[{ accessFlags := 0, nameIndex := 7, descriptorIndex := 8, attributes := #[] }, { accessFlags := 9, nameIndex := 281, descriptorIndex := 282, attributes := #[] }] 48 4 #[] #[{ accessFlags := 4120, nameIndex := 121, descriptorIndex := 122, attributes := #[] }])
  fields := #[{ name := "$assertionsDisabled", type := .boolean, accessFlags := 4120, slot := 0, constantValue := 0 }]
  methods := #[k11m0, k11m1]
  instanceTypes := #[]
  staticTypes := #[.boolean]
  resolved := Array.replicate 395 none
  statics := none }

def pool12 : Array CpInfo := pool [(6, .class_ 8), (1, u "java/lang/Object"), (0, u "<init>"), (0, u "()V"), (1, .class_ 14), (1, u "java/lang/StringUTF16"), (31, u "$assertionsDisabled"), (0, u "Z"), (13, u "HI_BYTE_SHIFT"), (0, u "I"), (2, u "LO_BYTE_SHIFT"), (49, .methodref 12 116), (0, .nameAndType 117 118), (0, u "compress"), (0, u "([CI[BII)I"), (3, u "([CII)[B"), (138, u "coderFromArrayLen"), (0, u "([BI)B"), (106, .class_ 371), (1, u "java/lang/StringUTF16$LinesSpliterator"), (58, u "MAX_LENGTH"), (196, .class_ 628), (0, u "java/lang/StringUTF16$CodePointsSpliterator"), (0, .class_ 630), (0, u "java/lang/StringUTF16$CharsSpliterator")] 4

def k12m0 : Method := { name := "<init>", desc := "()V", sig := { parameters := [], returnType := none }, accessFlags := 0, code := none }
def k12c1 : Code := { maxStack := 2, maxLocals := 2, code := jdk_52_method_15_code, exceptionTable := #[], attributes := #[] }
def k12m1 : Method := { name := "coderFromArrayLen", desc := "([BI)B", sig := { parameters := [(.array .byte), .int], returnType := some .byte }, accessFlags := 8, code := some k12c1 }
def k12c2 : Code := { maxStack := 5, maxLocals := 6, code := jdk_52_method_16_code, exceptionTable := #[], attributes := #[] }
def k12m2 : Method := { name := "compress", desc := "([CII)[B", sig := { parameters := [(.array .char), .int, .int], returnType := some (.array .byte) }, accessFlags := 9, code := some k12c2 }
def k12c3 : Code := { maxStack := 3, maxLocals := 7, code := jdk_52_method_21_code, exceptionTable := #[], attributes := #[] }
def k12m3 : Method := { name := "compress", desc := "([CI[BII)I", sig := { parameters := [(.array .char), .int, (.array .byte), .int, .int], returnType := some .int }, accessFlags := 9, code := some k12c3 }
/-- java/lang/StringUTF16 -/
def k12 : Class := { plain "java/lang/StringUTF16" (some 0) with
  accessFlags := 48
  interfaces := #[]
  cf := some (fileOf pool12 12 #[.nestMembers #[627, 629, 369]] #[{ accessFlags := 0, nameIndex := 9, descriptorIndex := 10, attributes := #[] }, { accessFlags := 8, nameIndex := 261, descriptorIndex := 262, attributes := #[] }, { accessFlags := 9, nameIndex := 117, descriptorIndex := 122, attributes := #[] }, { accessFlags := 9, nameIndex := 117, descriptorIndex := 118, attributes := #[] }] 48 6 #[] #[{ accessFlags := 26, nameIndex := 61, descriptorIndex := 62, attributes := #[] }, { accessFlags := 26, nameIndex := 65, descriptorIndex := 62, attributes := #[] }, { accessFlags := 24, nameIndex := 430, descriptorIndex := 62, attributes := #[] }, { accessFlags := 4120, nameIndex := 46, descriptorIndex := 47, attributes := #[] }])
  fields := #[{ name := "HI_BYTE_SHIFT", type := .int, accessFlags := 26, slot := 0, constantValue := 0 }, { name := "LO_BYTE_SHIFT", type := .int, accessFlags := 26, slot := 1, constantValue := 0 }, { name := "MAX_LENGTH", type := .int, accessFlags := 24, slot := 2, constantValue := 0 }, { name := "$assertionsDisabled", type := .boolean, accessFlags := 4120, slot := 3, constantValue := 0 }]
  methods := #[k12m0, k12m1, k12m2, k12m3]
  instanceTypes := #[]
  staticTypes := #[.int, .int, .int, .boolean]
  resolved := Array.replicate 635 none
  statics := none }

def pool13 : Array CpInfo := pool [(2, .class_ 4), (1, u "java/lang/Object"), (0, u "<init>"), (0, u "()V"), (17, .class_ 26), (1, u "jdk/internal/util/Preconditions"), (28, .class_ 56), (0, u "jdk/internal/util/Preconditions$4"), (57, .class_ 115), (0, u "jdk/internal/util/Preconditions$1"), (7, u "SIOOBE_FORMATTER"), (0, u "Ljava/util/function/BiFunction;"), (0, .class_ 126), (0, u "jdk/internal/util/Preconditions$2"), (3, u "AIOOBE_FORMATTER"), (0, .class_ 132), (0, u "jdk/internal/util/Preconditions$3"), (3, u "IOOBE_FORMATTER")] 57

def k13m0 : Method := { name := "<init>", desc := "()V", sig := { parameters := [], returnType := none }, accessFlags := 1, code := none }
/-- jdk/internal/util/Preconditions -/
def k13 : Class := { plain "jdk/internal/util/Preconditions" (some 0) with
  accessFlags := 33
  interfaces := #[]
  cf := some (fileOf pool13 24 #[.nestMembers #[55, 131, 125, 114]] #[{ accessFlags := 1, nameIndex := 5, descriptorIndex := 6, attributes := #[] }] 33 2 #[] #[{ accessFlags := 25, nameIndex := 123, descriptorIndex := 124, attributes := #[] }, { accessFlags := 25, nameIndex := 130, descriptorIndex := 124, attributes := #[] }, { accessFlags := 25, nameIndex := 136, descriptorIndex := 124, attributes := #[] }])
  fields := #[{ name := "SIOOBE_FORMATTER", type := (.object "java/util/function/BiFunction"), accessFlags := 25, slot := 0, constantValue := 0 }, { name := "AIOOBE_FORMATTER", type := (.object "java/util/function/BiFunction"), accessFlags := 25, slot := 1, constantValue := 0 }, { name := "IOOBE_FORMATTER", type := (.object "java/util/function/BiFunction"), accessFlags := 25, slot := 2, constantValue := 0 }]
  methods := #[k13m0]
  instanceTypes := #[]
  staticTypes := #[(.object "java/util/function/BiFunction"), (.object "java/util/function/BiFunction"), (.object "java/util/function/BiFunction")]
  resolved := Array.replicate 194 none
  statics := some 2 }

def pool14 : Array CpInfo := pool [(9, u "<init>"), (6, .class_ 18), (1, u "java/lang/Object"), (0, u "()V"), (1, .class_ 23), (1, u "jdk/internal/util/ArraysSupport"), (0, u "LOG2_ARRAY_LONG_INDEX_SCALE"), (0, u "I"), (2, u "U"), (0, u "Ljdk/internal/misc/Unsafe;"), (8, u "BIG_ENDIAN"), (0, u "Z"), (8, u "LOG2_BYTE_BIT_SIZE"), (4, u "LOG2_ARRAY_INT_INDEX_SCALE"), (54, u "JLA"), (0, u "Ljdk/internal/access/JavaLangAccess;"), (11, u "LOG2_ARRAY_BOOLEAN_INDEX_SCALE"), (9, u "LOG2_ARRAY_BYTE_INDEX_SCALE"), (5, u "LOG2_ARRAY_CHAR_INDEX_SCALE"), (5, u "LOG2_ARRAY_SHORT_INDEX_SCALE"), (18, u "LOG2_ARRAY_FLOAT_INDEX_SCALE"), (24, u "LOG2_ARRAY_DOUBLE_INDEX_SCALE"), (89, u "T_BOOLEAN"), (2, u "T_CHAR"), (1, u "T_FLOAT"), (1, u "T_DOUBLE"), (1, u "T_BYTE"), (1, u "T_SHORT"), (1, u "T_INT"), (1, u "T_LONG"), (1, u "SOFT_MAX_ARRAY_LENGTH")] 83

def k14m0 : Method := { name := "<init>", desc := "()V", sig := { parameters := [], returnType := none }, accessFlags := 2, code := none }
/-- jdk/internal/util/ArraysSupport -/
def k14 : Class := { plain "jdk/internal/util/ArraysSupport" (some 0) with
  accessFlags := 33
  interfaces := #[]
  cf := some (fileOf pool14 21 #[] #[{ accessFlags := 2, nameIndex := 9, descriptorIndex := 19, attributes := #[] }] 33 16 #[] #[{ accessFlags := 24, nameIndex := 28, descriptorIndex := 29, attributes := #[] }, { accessFlags := 26, nameIndex := 38, descriptorIndex := 39, attributes := #[] }, { accessFlags := 25, nameIndex := 121, descriptorIndex := 25, attributes := #[] }, { accessFlags := 25, nameIndex := 131, descriptorIndex := 25, attributes := #[] }, { accessFlags := 25, nameIndex := 137, descriptorIndex := 25, attributes := #[] }, { accessFlags := 25, nameIndex := 143, descriptorIndex := 25, attributes := #[] }, { accessFlags := 25, nameIndex := 53, descriptorIndex := 25, attributes := #[] }, { accessFlags := 25, nameIndex := 24, descriptorIndex := 25, attributes := #[] }, { accessFlags := 25, nameIndex := 162, descriptorIndex := 25, attributes := #[] }, { accessFlags := 25, nameIndex := 187, descriptorIndex := 25, attributes := #[] }, { accessFlags := 26, nameIndex := 48, descriptorIndex := 25, attributes := #[] }, { accessFlags := 25, nameIndex := 277, descriptorIndex := 25, attributes := #[] }, { accessFlags := 25, nameIndex := 280, descriptorIndex := 25, attributes := #[] }, { accessFlags := 25, nameIndex := 282, descriptorIndex := 25, attributes := #[] }, { accessFlags := 25, nameIndex := 284, descriptorIndex := 25, attributes := #[] }, { accessFlags := 25, nameIndex := 286, descriptorIndex := 25, attributes := #[] }, { accessFlags := 25, nameIndex := 288, descriptorIndex := 25, attributes := #[] }, { accessFlags := 25, nameIndex := 290, descriptorIndex := 25, attributes := #[] }, { accessFlags := 25, nameIndex := 292, descriptorIndex := 25, attributes := #[] }, { accessFlags := 26, nameIndex := 108, descriptorIndex := 109, attributes := #[] }, { accessFlags := 25, nameIndex := 294, descriptorIndex := 25, attributes := #[] }])
  fields := #[{ name := "U", type := (.object "jdk/internal/misc/Unsafe"), accessFlags := 24, slot := 0, constantValue := 0 }, { name := "BIG_ENDIAN", type := .boolean, accessFlags := 26, slot := 1, constantValue := 0 }, { name := "LOG2_ARRAY_BOOLEAN_INDEX_SCALE", type := .int, accessFlags := 25, slot := 2, constantValue := 0 }, { name := "LOG2_ARRAY_BYTE_INDEX_SCALE", type := .int, accessFlags := 25, slot := 3, constantValue := 0 }, { name := "LOG2_ARRAY_CHAR_INDEX_SCALE", type := .int, accessFlags := 25, slot := 4, constantValue := 0 }, { name := "LOG2_ARRAY_SHORT_INDEX_SCALE", type := .int, accessFlags := 25, slot := 5, constantValue := 0 }, { name := "LOG2_ARRAY_INT_INDEX_SCALE", type := .int, accessFlags := 25, slot := 6, constantValue := 0 }, { name := "LOG2_ARRAY_LONG_INDEX_SCALE", type := .int, accessFlags := 25, slot := 7, constantValue := 0 }, { name := "LOG2_ARRAY_FLOAT_INDEX_SCALE", type := .int, accessFlags := 25, slot := 8, constantValue := 0 }, { name := "LOG2_ARRAY_DOUBLE_INDEX_SCALE", type := .int, accessFlags := 25, slot := 9, constantValue := 0 }, { name := "LOG2_BYTE_BIT_SIZE", type := .int, accessFlags := 26, slot := 10, constantValue := 0 }, { name := "T_BOOLEAN", type := .int, accessFlags := 25, slot := 11, constantValue := 0 }, { name := "T_CHAR", type := .int, accessFlags := 25, slot := 12, constantValue := 0 }, { name := "T_FLOAT", type := .int, accessFlags := 25, slot := 13, constantValue := 0 }, { name := "T_DOUBLE", type := .int, accessFlags := 25, slot := 14, constantValue := 0 }, { name := "T_BYTE", type := .int, accessFlags := 25, slot := 15, constantValue := 0 }, { name := "T_SHORT", type := .int, accessFlags := 25, slot := 16, constantValue := 0 }, { name := "T_INT", type := .int, accessFlags := 25, slot := 17, constantValue := 0 }, { name := "T_LONG", type := .int, accessFlags := 25, slot := 18, constantValue := 0 }, { name := "JLA", type := (.object "jdk/internal/access/JavaLangAccess"), accessFlags := 26, slot := 19, constantValue := 0 }, { name := "SOFT_MAX_ARRAY_LENGTH", type := .int, accessFlags := 25, slot := 20, constantValue := 0 }]
  methods := #[k14m0]
  instanceTypes := #[]
  staticTypes := #[(.object "jdk/internal/misc/Unsafe"), .boolean, .int, .int, .int, .int, .int, .int, .int, .int, .int, .int, .int, .int, .int, .int, .int, .int, .int, (.object "jdk/internal/access/JavaLangAccess"), .int]
  resolved := Array.replicate 378 none
  statics := none }

/-- the primitive byte -/
def k15 : Class := { plain "byte" none with kind := .primitive 'B', accessFlags := 0x411 }
/-- [B -/
def k16 : Class := { plain "[B" (some 0) with kind := .array 15 .byte, interfaces := #[10, 2], accessFlags := 1041 }

/-- the primitive char -/
def k17 : Class := { plain "char" none with kind := .primitive 'C', accessFlags := 0x411 }
/-- [C -/
def k18 : Class := { plain "[C" (some 0) with kind := .array 17 .char, interfaces := #[10, 2], accessFlags := 1041 }

/-- the primitive int -/
def k19 : Class := { plain "int" none with kind := .primitive 'I', accessFlags := 0x411 }
/-- [I -/
def k20 : Class := { plain "[I" (some 0) with kind := .array 19 .int, interfaces := #[10, 2], accessFlags := 1041 }

/-- [Lcom/example/lean_entities/leanentities/session/RawQuery$Operator; -/
def k21 : Class := { plain "[Lcom/example/lean_entities/leanentities/session/RawQuery$Operator;" (some 0) with kind := .array 9 (.object "com/example/lean_entities/leanentities/session/RawQuery$Operator"), interfaces := #[10, 2], accessFlags := 1041 }

def heap : Heap := #[{ cls := 7, slots := #[.long 0, .int 1, .null, .int 0, .null, .int 0, .int 0], vm := .statics 7 },
  { cls := 9, slots := #[.ref 14, .ref 15, .ref 16, .ref 17, .ref 18, .ref 3], vm := .statics 9 },
  { cls := 13, slots := #[.null, .null, .null], vm := .statics 13 },
  { cls := 21, slots := #[.ref 14, .ref 15, .ref 16, .ref 17, .ref 18], vm := .none },
  { cls := 16, slots := #[.int 61], vm := .none },
  { cls := 16, slots := #[.int 60], vm := .none },
  { cls := 16, slots := #[.int 60, .int 61], vm := .none },
  { cls := 16, slots := #[.int 62], vm := .none },
  { cls := 16, slots := #[.int 62, .int 61], vm := .none },
  { cls := 7, slots := #[.ref 4, .int 0, .int 0, .int 0], vm := .none },
  { cls := 7, slots := #[.ref 5, .int 0, .int 0, .int 0], vm := .none },
  { cls := 7, slots := #[.ref 6, .int 0, .int 0, .int 0], vm := .none },
  { cls := 7, slots := #[.ref 7, .int 0, .int 0, .int 0], vm := .none },
  { cls := 7, slots := #[.ref 8, .int 0, .int 0, .int 0], vm := .none },
  { cls := 9, slots := #[.ref 9, .int 0, .int 0, .ref 9], vm := .none },
  { cls := 9, slots := #[.ref 10, .int 1, .int 0, .ref 10], vm := .none },
  { cls := 9, slots := #[.ref 11, .int 2, .int 0, .ref 11], vm := .none },
  { cls := 9, slots := #[.ref 12, .int 3, .int 0, .ref 12], vm := .none },
  { cls := 9, slots := #[.ref 13, .int 4, .int 0, .ref 13], vm := .none }]
def classes : Array Class := #[k0, k1, k2, k3, k4, k5, k6, k7, k8, k9, k10, k11, k12, k13, k14, k15, k16, k17, k18, k19, k20, k21]
def interned : List (Array UInt16 × Addr) := []
def slotsUsed : Nat := 68
def theMethod : MethodId := ⟨1, 1⟩
def args0 : Array Value := #[.int 5, .int 5, .int 5, .int 5]
def aboutOver (below : List Frame) : State where
  vm := { classes := classes, interned := interned.toArray }
  heap := heap
  slotsUsed := slotsUsed
  threads := #[{ frames := .invoking theMethod args0 :: below }]
def below0 : List Frame := [.native { method := ⟨0, 0⟩, args := #[] }]
def about1 : State := aboutOver below0
def p0 : Program := .bare "" "" ""
def e0 : Env := launch0.env 0 0 0
theorem w_frames : about1.frames = Frame.invoking theMethod args0 :: below0 := rfl
set_option maxRecDepth 65536 in
theorem w_args : argsFit about1.vm theMethod args0 = true := by decide +kernel
set_option maxRecDepth 65536 in
theorem w_heap : heapFits about1 = true := by decide +kernel
set_option maxRecDepth 65536 in
theorem w_runnable : about1.curStatus? = some .runnable := by decide +kernel
set_option maxRecDepth 65536 in
theorem w_alone : about1.alone = true := by decide +kernel
set_option maxRecDepth 65536 in
theorem w_named : about1.methodNamed? x = some theMethod := by decide +kernel
set_option maxRecDepth 65536 in
theorem w_hears : about1.hears theMethod below0 = true := by decide +kernel
set_option maxRecDepth 65536 in
theorem w_ripe : about1.ripe theMethod args0 below0 = true := by decide +kernel
theorem w_running : about1.status = .running := rfl
set_option maxRecDepth 65536 in
theorem w_room : about1.hasRoom e0.platform room_1 = true :=
  launch0.hasRoom_least _ room_1 (by decide +kernel) (by decide +kernel) (by decide +kernel) (by decide +kernel) (by decide +kernel) (by decide +kernel)
theorem allAtoms_all (ts : List Jvm.Cond) (a : Array Jvm.Value) (st : Jvm.State) : (allAtoms ts).before a st = ts.all (fun c => c.before a st) := by
  induction ts with
  | nil => rfl
  | cons c t ih =>
    show (Jvm.Cond.and c (allAtoms t)).before a st = _
    rw [Jvm.Cond.before_and, ih, List.all_cons]
def words1 : List Jvm.Cond := Jvm.Cond.code x code maxLocals ret :: tables_1
/-- a 'code' word, met by the world's own term for the bytes: nothing is compared byte by byte -/
theorem code_word {y : MethodName} {bytes : ByteArray} {mx : Nat} {rt : Option FieldType} {a : Array Value} {s : State} {m : MethodId} {meth : Method} {c : Code} (h1 : s.methodNamed? y = some m) (h2 : s.vm.method? m = some meth) (h3 : meth.code = some c) (h4 : c.code = bytes)
    (h5 : (c.maxLocals == mx && c.exceptionTable.isEmpty && decide (c.maxStack ≤ mostOperands) && decide (meth.sig.returnType = rt) && !meth.locks && decide (parseMethodDescriptor y.desc = some meth.sig)) = true) : (Jvm.Cond.code y bytes mx rt).before a s = true := by
  simp only [Bool.and_eq_true, beq_iff_eq, Bool.not_eq_true', decide_eq_true_eq] at h5
  obtain ⟨⟨⟨⟨⟨g1, g2⟩, g3⟩, g4⟩, g5⟩, g6⟩ := h5
  simp [Cond.before, Cond.holds, Cond.value, h1, h2, h3, h4, g1, g2, g3, g4, g5, g6]
def isCode : Jvm.Cond → Bool
  | .code _ _ _ _ => true
  | _ => false
theorem all_split {L : List Jvm.Cond} {P : Jvm.Cond → Bool} (h1 : L.all (fun c => isCode c || P c) = true) (h2 : ∀ c ∈ L.filter isCode, P c = true) : L.all P = true := by
  refine List.all_eq_true.mpr fun c hc => ?_
  have h := List.all_eq_true.mp h1 c hc
  rcases Bool.eq_false_or_eq_true (isCode c) with hi | hi
  · exact h2 c (List.mem_filter.mpr ⟨hc, hi⟩)
  · simpa [hi] using h
set_option maxRecDepth 65536 in
theorem w_c0 : (Jvm.Cond.code x code maxLocals ret).before args0 about1 = true := code_word (m := ⟨1, 1⟩) (meth := k1m1) (c := k1c1) (by decide +kernel) rfl rfl rfl (by decide +kernel)
set_option maxRecDepth 65536 in
theorem w_c1 : (Jvm.Cond.code ({ cls := "com/example/lean_entities/leanentities/session/OperatorOfSymbolPinLaw", name := "ch", desc := "(I)C" } : Jvm.MethodName) method_3_code (2 : Nat) (Option.some Jvm.ClassFile.FieldType.char)).before args0 about1 = true := code_word (m := ⟨1, 2⟩) (meth := k1m2) (c := k1c2) (by decide +kernel) rfl rfl rfl (by decide +kernel)
set_option maxRecDepth 65536 in
theorem w_c2 : (Jvm.Cond.code ({ cls := "com/example/lean_entities/leanentities/session/OperatorOfSymbolPinLaw", name := "text", desc := "(ICCC)Ljava/lang/String;" } : Jvm.MethodName) method_4_code (5 : Nat) (Option.some (Jvm.ClassFile.FieldType.object "java/lang/String"))).before args0 about1 = true := code_word (m := ⟨1, 3⟩) (meth := k1m3) (c := k1c3) (by decide +kernel) rfl rfl rfl (by decide +kernel)
set_option maxRecDepth 65536 in
theorem w_c3 : (Jvm.Cond.code ({ cls := "java/lang/String", name := "<init>", desc := "([C)V" } : Jvm.MethodName) jdk_42_method_3_code (2 : Nat) (Option.none : Option Jvm.ClassFile.FieldType)).before args0 about1 = true := code_word (m := ⟨7, 1⟩) (meth := k7m1) (c := k7c1) (by decide +kernel) rfl rfl rfl (by decide +kernel)
set_option maxRecDepth 65536 in
theorem w_c4 : (Jvm.Cond.code ({ cls := "java/lang/String", name := "<init>", desc := "([CIILjava/lang/Void;)V" } : Jvm.MethodName) jdk_42_method_149_code (6 : Nat) (Option.none : Option Jvm.ClassFile.FieldType)).before args0 about1 = true := code_word (m := ⟨7, 3⟩) (meth := k7m3) (c := k7c3) (by decide +kernel) rfl rfl rfl (by decide +kernel)
set_option maxRecDepth 65536 in
theorem w_c5 : (Jvm.Cond.code ({ cls := "java/lang/Object", name := "<init>", desc := "()V" } : Jvm.MethodName) object_method_1_code (1 : Nat) (Option.none : Option Jvm.ClassFile.FieldType)).before args0 about1 = true := code_word (m := ⟨0, 0⟩) (meth := k0m0) (c := k0c0) (by decide +kernel) rfl rfl rfl (by decide +kernel)
set_option maxRecDepth 65536 in
theorem w_c6 : (Jvm.Cond.code ({ cls := "com/example/lean_entities/leanentities/session/OperatorOfSymbolPinLaw", name := "expected", desc := "(ICC)Lcom/example/lean_entities/leanentities/session/RawQuery$Operator;" } : Jvm.MethodName) method_5_code (4 : Nat) (Option.some (Jvm.ClassFile.FieldType.object "com/example/lean_entities/leanentities/session/RawQuery$Operator"))).before args0 about1 = true := code_word (m := ⟨1, 4⟩) (meth := k1m4) (c := k1c4) (by decide +kernel) rfl rfl rfl (by decide +kernel)
set_option maxRecDepth 65536 in
theorem w_c7 : (Jvm.Cond.code ({ cls := "com/example/lean_entities/leanentities/session/RawQuery$Operator", name := "ofSymbol", desc := "(Ljava/lang/String;)Lcom/example/lean_entities/leanentities/session/RawQuery$Operator;" } : Jvm.MethodName) prog_35_method_5_code (5 : Nat) (Option.some (Jvm.ClassFile.FieldType.object "com/example/lean_entities/leanentities/session/RawQuery$Operator"))).before args0 about1 = true := code_word (m := ⟨9, 1⟩) (meth := k9m1) (c := k9c1) (by decide +kernel) rfl rfl rfl (by decide +kernel)
set_option maxRecDepth 65536 in
theorem w_c8 : (Jvm.Cond.code ({ cls := "com/example/lean_entities/leanentities/session/RawQuery$Operator", name := "values", desc := "()[Lcom/example/lean_entities/leanentities/session/RawQuery$Operator;" } : Jvm.MethodName) prog_35_method_1_code (0 : Nat) (Option.some (Jvm.ClassFile.FieldType.array (Jvm.ClassFile.FieldType.object "com/example/lean_entities/leanentities/session/RawQuery$Operator")))).before args0 about1 = true := code_word (m := ⟨9, 0⟩) (meth := k9m0) (c := k9c0) (by decide +kernel) rfl rfl rfl (by decide +kernel)
set_option maxRecDepth 65536 in
theorem w_c9 : (Jvm.Cond.code ({ cls := "java/lang/String", name := "equals", desc := "(Ljava/lang/Object;)Z" } : Jvm.MethodName) jdk_42_method_66_code (3 : Nat) (Option.some Jvm.ClassFile.FieldType.boolean)).before args0 about1 = true := code_word (m := ⟨7, 2⟩) (meth := k7m2) (c := k7c2) (by decide +kernel) rfl rfl rfl (by decide +kernel)
set_option maxRecDepth 65536 in
theorem w_c10 : (Jvm.Cond.code ({ cls := "java/lang/StringLatin1", name := "equals", desc := "([B[B)Z" } : Jvm.MethodName) jdk_43_method_13_code (3 : Nat) (Option.some Jvm.ClassFile.FieldType.boolean)).before args0 about1 = true := code_word (m := ⟨11, 1⟩) (meth := k11m1) (c := k11c1) (by decide +kernel) rfl rfl rfl (by decide +kernel)
set_option maxRecDepth 65536 in
theorem w_c11 : (Jvm.Cond.code ({ cls := "java/lang/StringUTF16", name := "compress", desc := "([CII)[B" } : Jvm.MethodName) jdk_52_method_16_code (6 : Nat) (Option.some (Jvm.ClassFile.FieldType.array Jvm.ClassFile.FieldType.byte))).before args0 about1 = true := code_word (m := ⟨12, 2⟩) (meth := k12m2) (c := k12c2) (by decide +kernel) rfl rfl rfl (by decide +kernel)
set_option maxRecDepth 65536 in
theorem w_c12 : (Jvm.Cond.code ({ cls := "java/lang/StringUTF16", name := "compress", desc := "([CI[BII)I" } : Jvm.MethodName) jdk_52_method_21_code (7 : Nat) (Option.some Jvm.ClassFile.FieldType.int)).before args0 about1 = true := code_word (m := ⟨12, 3⟩) (meth := k12m3) (c := k12c3) (by decide +kernel) rfl rfl rfl (by decide +kernel)
set_option maxRecDepth 65536 in
theorem w_c13 : (Jvm.Cond.code ({ cls := "java/lang/StringUTF16", name := "coderFromArrayLen", desc := "([BI)B" } : Jvm.MethodName) jdk_52_method_15_code (2 : Nat) (Option.some Jvm.ClassFile.FieldType.byte)).before args0 about1 = true := code_word (m := ⟨12, 1⟩) (meth := k12m1) (c := k12c1) (by decide +kernel) rfl rfl rfl (by decide +kernel)
def codes1 : List Jvm.Cond := [Jvm.Cond.code x code maxLocals ret, Jvm.Cond.code ({ cls := "com/example/lean_entities/leanentities/session/OperatorOfSymbolPinLaw", name := "ch", desc := "(I)C" } : Jvm.MethodName) method_3_code (2 : Nat) (Option.some Jvm.ClassFile.FieldType.char), Jvm.Cond.code ({ cls := "com/example/lean_entities/leanentities/session/OperatorOfSymbolPinLaw", name := "text", desc := "(ICCC)Ljava/lang/String;" } : Jvm.MethodName) method_4_code (5 : Nat) (Option.some (Jvm.ClassFile.FieldType.object "java/lang/String")), Jvm.Cond.code ({ cls := "java/lang/String", name := "<init>", desc := "([C)V" } : Jvm.MethodName) jdk_42_method_3_code (2 : Nat) (Option.none : Option Jvm.ClassFile.FieldType), Jvm.Cond.code ({ cls := "java/lang/String", name := "<init>", desc := "([CIILjava/lang/Void;)V" } : Jvm.MethodName) jdk_42_method_149_code (6 : Nat) (Option.none : Option Jvm.ClassFile.FieldType), Jvm.Cond.code ({ cls := "java/lang/Object", name := "<init>", desc := "()V" } : Jvm.MethodName) object_method_1_code (1 : Nat) (Option.none : Option Jvm.ClassFile.FieldType), Jvm.Cond.code ({ cls := "com/example/lean_entities/leanentities/session/OperatorOfSymbolPinLaw", name := "expected", desc := "(ICC)Lcom/example/lean_entities/leanentities/session/RawQuery$Operator;" } : Jvm.MethodName) method_5_code (4 : Nat) (Option.some (Jvm.ClassFile.FieldType.object "com/example/lean_entities/leanentities/session/RawQuery$Operator")), Jvm.Cond.code ({ cls := "com/example/lean_entities/leanentities/session/RawQuery$Operator", name := "ofSymbol", desc := "(Ljava/lang/String;)Lcom/example/lean_entities/leanentities/session/RawQuery$Operator;" } : Jvm.MethodName) prog_35_method_5_code (5 : Nat) (Option.some (Jvm.ClassFile.FieldType.object "com/example/lean_entities/leanentities/session/RawQuery$Operator")), Jvm.Cond.code ({ cls := "com/example/lean_entities/leanentities/session/RawQuery$Operator", name := "values", desc := "()[Lcom/example/lean_entities/leanentities/session/RawQuery$Operator;" } : Jvm.MethodName) prog_35_method_1_code (0 : Nat) (Option.some (Jvm.ClassFile.FieldType.array (Jvm.ClassFile.FieldType.object "com/example/lean_entities/leanentities/session/RawQuery$Operator"))), Jvm.Cond.code ({ cls := "java/lang/String", name := "equals", desc := "(Ljava/lang/Object;)Z" } : Jvm.MethodName) jdk_42_method_66_code (3 : Nat) (Option.some Jvm.ClassFile.FieldType.boolean), Jvm.Cond.code ({ cls := "java/lang/StringLatin1", name := "equals", desc := "([B[B)Z" } : Jvm.MethodName) jdk_43_method_13_code (3 : Nat) (Option.some Jvm.ClassFile.FieldType.boolean), Jvm.Cond.code ({ cls := "java/lang/StringUTF16", name := "compress", desc := "([CII)[B" } : Jvm.MethodName) jdk_52_method_16_code (6 : Nat) (Option.some (Jvm.ClassFile.FieldType.array Jvm.ClassFile.FieldType.byte)), Jvm.Cond.code ({ cls := "java/lang/StringUTF16", name := "compress", desc := "([CI[BII)I" } : Jvm.MethodName) jdk_52_method_21_code (7 : Nat) (Option.some Jvm.ClassFile.FieldType.int), Jvm.Cond.code ({ cls := "java/lang/StringUTF16", name := "coderFromArrayLen", desc := "([BI)B" } : Jvm.MethodName) jdk_52_method_15_code (2 : Nat) (Option.some Jvm.ClassFile.FieldType.byte)]
set_option maxRecDepth 65536 in
theorem codes_eq : words1.filter isCode = codes1 := rfl
theorem w_codes : ∀ c ∈ words1.filter isCode, c.before args0 about1 = true := by
  rw [codes_eq]
  intro c hc
  simp only [codes1, List.mem_cons, List.not_mem_nil, or_false] at hc
  rcases hc with rfl | rfl | rfl | rfl | rfl | rfl | rfl | rfl | rfl | rfl | rfl | rfl | rfl | rfl
  · exact w_c0
  · exact w_c1
  · exact w_c2
  · exact w_c3
  · exact w_c4
  · exact w_c5
  · exact w_c6
  · exact w_c7
  · exact w_c8
  · exact w_c9
  · exact w_c10
  · exact w_c11
  · exact w_c12
  · exact w_c13
set_option maxRecDepth 65536 in
theorem w_t1 : (words1.take 24).all (fun c => isCode c || c.before args0 about1) = true := by decide +kernel
set_option maxRecDepth 65536 in
theorem w_t2 : ((words1.drop 24).take 24).all (fun c => isCode c || c.before args0 about1) = true := by decide +kernel
set_option maxRecDepth 65536 in
theorem w_t3 : (((words1.drop 24).drop 24).take 24).all (fun c => isCode c || c.before args0 about1) = true := by decide +kernel
set_option maxRecDepth 65536 in
theorem w_t4 : (((words1.drop 24).drop 24).drop 24).all (fun c => isCode c || c.before args0 about1) = true := by decide +kernel
theorem w_tables : (allAtoms (Jvm.Cond.code x code maxLocals ret :: tables_1)).before args0 about1 = true := by
  rw [allAtoms_all]
  show words1.all (fun c => c.before args0 about1) = true
  refine all_split ?_ w_codes
  rw [← List.take_append_drop 24 words1, List.all_append, w_t1, ← List.take_append_drop 24 (words1.drop 24), List.all_append, w_t2, ← List.take_append_drop 24 ((words1.drop 24).drop 24), List.all_append, w_t3, w_t4]
  rfl
set_option maxRecDepth 65536 in
theorem w_rest : rest_1_c.before args0 about1 = true := by decide +kernel
set_option maxRecDepth 65536 in
theorem w_case : (Jvm.Cond.and given_1 narrow_1).before args0 about1 = true := by decide +kernel
set_option maxRecDepth 65536 in
theorem w_consts : constsHeld consts_1 about1 := Jvm.Lit.constsHeldB_iff.mp (by decide +kernel)
theorem w_applies : (headSpec (Jvm.Cond.code x code maxLocals ret :: tables_1) room_1).applies x e0.platform about1 = true :=
  (Spec.applies_iff w_frames).mpr ⟨w_running, w_runnable, w_alone, w_named, w_hears, w_ripe, w_room, w_tables⟩
theorem atStart : AtStart classFile x code maxLocals ret World_1 tables_1 room_1 Calls_1 rest_1 Pre_1 launch0 p0 e0 about1 theMethod args0 below0 :=
  ⟨lists_1, trivial, launch0.admits_env _ _ _, launch0.least_env, fairChoices_fair.cas, fairChoices_fair.clock, w_frames, w_args, w_heap, w_applies, ⟨w_consts, trivial⟩, w_rest, w_case⟩
end start1
theorem witness_1 : WitnessClaimed_1 := ⟨start1.p0, start1.e0, start1.about1, start1.theMethod, start1.args0, start1.below0, start1.atStart⟩
end Jvm.Pilot.@@N@@
