import JvmDerived
import JvmDerived.Pilot.@@N@@Statement
import JvmDerived.Pilot.@@N@@Code
set_option linter.unusedVariables false
set_option linter.unusedSimpArgs false
/- laws to paste: Road.backV, Road.lenW, Road.chN, Road.empW, Road.codOf (cut by pick.py; bodies as the Statement names them) -/
namespace Jvm.Pilot.@@N@@
namespace StrChars
open Jvm Sem ClassFile Op Lib Jvm.Stand Jvm.Free.XT Jvm.Free.ALB Jvm.Free.JM Jvm.Free
open Jvm.Lib.Cold (StaticIs)
/-- a char array whose places are chars -/
def Ch (a : Addr) (A : Cell) (U : State) : Prop := Arr .char a A U ∧ Typed .char A
theorem Ch.mv {a : Addr} {A : Cell} {U U' : State} (h : Ch a A U) (hal : U.vm.Alike U'.vm) (hh : U'.heap = U.heap) : Ch a A U' := ⟨h.1.mv hal hh, h.2⟩
theorem Ch.keep {a : Addr} {A : Cell} {U U' : State} (h : Ch a A U) (hal : U.vm.Alike U'.vm) (hk : U'.heap[a]? = some A) : Ch a A U' := ⟨h.1.keep hal hk, h.2⟩
/-- what place i of a char[]'s cell holds -/
def cv (A : Cell) (i : Nat) : Int32 := match A.slots[i]? with | some (.int x) => x | _ => 0
theorem Ch.get {a : Addr} {A : Cell} {U : State} (h : Ch a A U) {i : Nat} (hi : i < A.slots.size) : A.slots[i]? = some (.int (cv A i)) := by
  have e := Array.getElem?_eq_getElem hi
  have f := h.2 i _ e
  unfold cv; rw [e]
  generalize A.slots[i] = v at f
  cases v <;> simp [fits] at f ⊢
/-- the byte that i2b leaves of a char -/
def lo8 (x : Int32) : Int32 := x.toInt8.toInt32
theorem fits_lo8 (y : Int32) : fits .byte (.int (lo8 y)) = true := by
  have h1 := y.toInt8.le_toInt
  have h2 := y.toInt8.toInt_lt
  simp only [lo8, fits, Bool.and_eq_true, decide_eq_true_eq, Int32.le_iff_toInt_le, Int8.toInt_toInt32, show (-128 : Int32).toInt = -128 from by decide, show (127 : Int32).toInt = 127 from by decide]
  omega
/-- A' is A but that each place j of lo .. hi - 1 holds f j -/
def Laid (A A' : Cell) (lo hi : Nat) (f : Nat → Value) : Prop := A'.cls = A.cls ∧ A'.vm = A.vm ∧ A'.slots.size = A.slots.size ∧ ∀ i, A'.slots[i]? = if lo ≤ i ∧ i < hi then some (f i) else A.slots[i]?
theorem Laid.zero (A : Cell) (lo : Nat) (f : Nat → Value) : Laid A A lo (lo + 0) f := ⟨rfl, rfl, rfl, fun i => by rw [if_neg (by omega)]⟩
theorem Laid.step {A Ak : Cell} {lo k : Nat} {f : Nat → Value} {v : Value} (h : Laid A Ak lo k f) (hlo : lo ≤ k) (hk : k < Ak.slots.size) (hv : v = f k) : Laid A (Ak.setSlot k v) lo (k + 1) f := by
  refine ⟨h.1, h.2.1, by simpa [Cell.setSlot] using h.2.2.1, fun i => ?_⟩
  by_cases e : k = i
  · subst e; rw [Cell.slots_setSlot_self v hk, if_pos (by omega), hv]
  · rw [Cell.slots_setSlot_ne v e, h.2.2.2 i]
    by_cases q : lo ≤ i ∧ i < k
    · rw [if_pos q, if_pos (by omega)]
    · rw [if_neg q, if_neg (by omega)]
def U16 : String := "java/lang/StringUTF16"
namespace Cmp5
def yN : MethodName := ⟨"java/lang/StringUTF16", "compress", "([CI[BII)I"⟩
abbrev yB : ByteArray := jdk_52_method_21_code
theorem d0 : decode yB 0 = .ok (.iconst 0, 1) := by decide +kernel
theorem d1 : decode yB 1 = .ok (.istore 5, 2) := by decide +kernel
theorem d3 : decode yB 3 = .ok (.iload 5, 2) := by decide +kernel
theorem d5 : decode yB 5 = .ok (.iload 4, 2) := by decide +kernel
theorem d7 : decode yB 7 = .ok (.if_icmp (.ge) 37, 3) := by decide +kernel
theorem d10 : decode yB 10 = .ok (.aload_n 0, 1) := by decide +kernel
theorem d11 : decode yB 11 = .ok (.iload_n 1, 1) := by decide +kernel
theorem d12 : decode yB 12 = .ok (.caload, 1) := by decide +kernel
theorem d13 : decode yB 13 = .ok (.istore 6, 2) := by decide +kernel
theorem d15 : decode yB 15 = .ok (.iload 6, 2) := by decide +kernel
theorem d17 : decode yB 17 = .ok (.sipush 255, 3) := by decide +kernel
theorem d20 : decode yB 20 = .ok (.if_icmp (.le) 6, 3) := by decide +kernel
theorem d26 : decode yB 26 = .ok (.aload_n 2, 1) := by decide +kernel
theorem d27 : decode yB 27 = .ok (.iload_n 3, 1) := by decide +kernel
theorem d28 : decode yB 28 = .ok (.iload 6, 2) := by decide +kernel
theorem d30 : decode yB 30 = .ok (.i2b, 1) := by decide +kernel
theorem d31 : decode yB 31 = .ok (.bastore, 1) := by decide +kernel
theorem d32 : decode yB 32 = .ok (.iinc 1 1, 3) := by decide +kernel
theorem d35 : decode yB 35 = .ok (.iinc 3 1, 3) := by decide +kernel
theorem d38 : decode yB 38 = .ok (.iinc 5 1, 3) := by decide +kernel
theorem d41 : decode yB 41 = .ok (.goto (-38), 3) := by decide +kernel
theorem d44 : decode yB 44 = .ok (.iload 4, 2) := by decide +kernel
theorem d46 : decode yB 46 = .ok (.ireturn, 1) := by decide +kernel
def site : List Cond := []
def tab : Cond := tabOf yN yB 7 (some .int) site
def P (b : Addr) (A : Cell) (d : Addr) (B : Cell) (o q len : Nat) (args : Array Value) (s : State) : Prop := args = #[.ref b, .int (Int32.ofNat o), .ref d, .int (Int32.ofNat q), .int (Int32.ofNat len)] ∧ Ch b A s ∧ Arr .byte d B s ∧ b ≠ d ∧ o + len ≤ A.slots.size ∧ q + len ≤ B.slots.size ∧ ∀ i, i < len → ¬ 255 < cv A (o + i)
def E (b : Addr) (A : Cell) (d : Addr) (B : Cell) (o q len : Nat) (r : Option Value) (s u : State) : Prop := r = some (.int (Int32.ofNat len)) ∧ ∃ B', Put d B' s u ∧ Laid B B' q (q + len) (fun j => Value.int (lo8 (cv A (o + (j - q)))))
/-- no char of the range above 255: len; the places written hold each char's low byte -/
theorem law (l : Launch) (b : Addr) (A : Cell) (d : Addr) (B : Cell) (o q len : Nat) : Law l yN 5 5 0 0 yB 7 (some .int) site (P b A d B o q len) (E b A d B o q len) (copyLocs d q len) 0 0 := by
  refine Law.of_walk (plainFor_of_name (by decide +kernel)) (by decide +kernel) (by decide +kernel) (by decide) (fun _ _ h => by rw [h.1]; rfl) (fun _ U U' hal hh h => ⟨h.1, h.2.1.mv hal hh, h.2.2.1.mv hal hh, h.2.2.2⟩) (fun r U U' V V' h1 hal h2 h => ⟨h.1, h.2.elim fun B' q => ⟨B', q.1.mv h1 h2, q.2⟩⟩) ?_
  intro p e s m args below meth c s₁ X0 hexec hbytes hml hret hlk hnm hown hh0 W hP
  obtain ⟨rfl, hA, hB, hne, l1, l2, hp⟩ := hP
  have c1 : Steps p.tables e below (s₁.setTop (entryFrame m #[.ref b, .int (Int32.ofNat o), .ref d, .int (Int32.ofNat q), .int (Int32.ofNat len)] 7)) (s₁.setTop (mkF m 0 #[.val (.ref b), .val (.int (Int32.ofNat o)), .val (.ref d), .val (.int (Int32.ofNat q)), .val (.int (Int32.ofNat len)), .unset, .unset] [])) := entry rfl
  have hA0 := hA.1.mv X0.warmed.alike hh0
  have hB0 := hB.mv X0.warmed.alike hh0
  have a31 := hA.1.2.2.2
  have c2 : Steps p.tables e below (s₁.setTop (entryFrame m #[.ref b, .int (Int32.ofNat o), .ref d, .int (Int32.ofNat q), .int (Int32.ofNat len)] 7)) (s₁.setTop (mkF m 3 #[.val (.ref b), .val (.int (Int32.ofNat o)), .val (.ref d), .val (.int (Int32.ofNat q)), .val (.int (Int32.ofNat len)), .val (.int 0), .unset] [])) := c1.trans (by
    refine iconstV X0.here hexec rfl 0 (hb hbytes d0) (by decide) ?_
    refine XS.istore X0.here hexec rfl (hb hbytes d1) rfl rfl ?_
    exact Steps.refl _)
  have loop : ∀ (r i : Nat), i + r = len → ∀ (z : Slot), (z = .unset ∨ ∃ w, z = .val w ∧ w.category = 1) → ∀ (Tl : State) (Bk : Cell), Stand p l e { frames := 0, locals := 0, cells := 0, slots := 0 } s m #[.ref b, .int (Int32.ofNat o), .ref d, .int (Int32.ofNat q), .int (Int32.ofNat len)] below meth c Tl ([] ++ copyLocs d q i) 0 0 → Put d Bk s₁ Tl → Laid B Bk q (q + i) (fun j => Value.int (lo8 (cv A (o + (j - q))))) →
      Steps p.tables e below (s₁.setTop (entryFrame m #[.ref b, .int (Int32.ofNat o), .ref d, .int (Int32.ofNat q), .int (Int32.ofNat len)] 7)) (Tl.setTop (mkF m 3 #[.val (.ref b), .val (.int (Int32.ofNat (o + i))), .val (.ref d), .val (.int (Int32.ofNat (q + i))), .val (.int (Int32.ofNat len)), .val (.int (Int32.ofNat i)), z] [])) → ∃ (T' : State) (B' : Cell) (z' : Slot), Stand p l e { frames := 0, locals := 0, cells := 0, slots := 0 } s m #[.ref b, .int (Int32.ofNat o), .ref d, .int (Int32.ofNat q), .int (Int32.ofNat len)] below meth c T' ([] ++ copyLocs d q len) 0 0 ∧ Put d B' s₁ T' ∧ Laid B B' q (q + len) (fun j => Value.int (lo8 (cv A (o + (j - q))))) ∧
      Steps p.tables e below (s₁.setTop (entryFrame m #[.ref b, .int (Int32.ofNat o), .ref d, .int (Int32.ofNat q), .int (Int32.ofNat len)] 7)) (T'.setTop (mkF m 3 #[.val (.ref b), .val (.int (Int32.ofNat (o + len))), .val (.ref d), .val (.int (Int32.ofNat (q + len))), .val (.int (Int32.ofNat len)), .val (.int (Int32.ofNat len)), z'] [])) := by
    intro r
    induction r with
    | zero =>
      intro i hi z hz Tl Bk Xl pl fl cl
      have hil : i = len := by omega
      rw [hil] at Xl fl cl
      exact ⟨Tl, Bk, z, Xl, pl, fl, cl⟩
    | succ r ih =>
      intro i hi z hz Tl Bk Xl pl fl cl
      have all := X0.warmed.alike.symm.trans Xl.warmed.alike
      have hAl := hA0.keep all (pl.other hne hA0.1)
      have hBk := hB0.like all pl.1 fl.1 fl.2.1 fl.2.2.1
      have hlt : q + i < Bk.slots.size := by rw [fl.2.2.1]; omega
      have c3 : Steps p.tables e below (s₁.setTop (entryFrame m #[.ref b, .int (Int32.ofNat o), .ref d, .int (Int32.ofNat q), .int (Int32.ofNat len)] 7)) (Tl.setTop (mkF m 12 #[.val (.ref b), .val (.int (Int32.ofNat (o + i))), .val (.ref d), .val (.int (Int32.ofNat (q + i))), .val (.int (Int32.ofNat len)), .val (.int (Int32.ofNat i)), z] [.int (Int32.ofNat (o + i)), .ref b])) := cl.trans (by
        refine XS.iload Xl.here hexec rfl (hb hbytes d3) rfl ?_
        refine XS.iload Xl.here hexec rfl (hb hbytes d5) rfl ?_
        refine XS.icmpNo Xl.here hexec rfl (hb hbytes d7) rfl (ii_ge_f (lt32 (by omega) (by omega))) ?_
        refine XS.aloadN Xl.here hexec rfl (hb hbytes d10) rfl rfl ?_
        refine XS.iloadN Xl.here hexec rfl (hb hbytes d11) rfl ?_
        exact Steps.refl _)
      have c4 : Steps p.tables e below (s₁.setTop (entryFrame m #[.ref b, .int (Int32.ofNat o), .ref d, .int (Int32.ofNat q), .int (Int32.ofNat len)] 7)) (Tl.setTop (mkF m 13 #[.val (.ref b), .val (.int (Int32.ofNat (o + i))), .val (.ref d), .val (.int (Int32.ofNat (q + i))), .val (.int (Int32.ofNat len)), .val (.int (Int32.ofNat i)), z] [.int (cv A (o + i))])) := c3.trans (by
        refine Xl.aget hexec hAl rfl (hA.get (i := o + i) (by omega)) rfl rfl (hb hbytes d12) ?_
        exact Steps.refl _)
      have c5 : Steps p.tables e below (s₁.setTop (entryFrame m #[.ref b, .int (Int32.ofNat o), .ref d, .int (Int32.ofNat q), .int (Int32.ofNat len)] 7)) (Tl.setTop (mkF m 15 #[.val (.ref b), .val (.int (Int32.ofNat (o + i))), .val (.ref d), .val (.int (Int32.ofNat (q + i))), .val (.int (Int32.ofNat len)), .val (.int (Int32.ofNat i)), .val (.int (cv A (o + i)))] [])) := c4.trans (by
        refine XS.istoreS Xl.here hexec rfl (hb hbytes d13) rfl rfl hz ?_
        exact Steps.refl _)
      have c6 : Steps p.tables e below (s₁.setTop (entryFrame m #[.ref b, .int (Int32.ofNat o), .ref d, .int (Int32.ofNat q), .int (Int32.ofNat len)] 7)) (Tl.setTop (mkF m 31 #[.val (.ref b), .val (.int (Int32.ofNat (o + i))), .val (.ref d), .val (.int (Int32.ofNat (q + i))), .val (.int (Int32.ofNat len)), .val (.int (Int32.ofNat i)), .val (.int (cv A (o + i)))] [.int (lo8 (cv A (o + i))), .int (Int32.ofNat (q + i)), .ref d])) := c5.trans (by
        refine XS.iload Xl.here hexec rfl (hb hbytes d15) rfl ?_
        refine sipushV Xl.here hexec rfl 255 (hb hbytes d17) (by decide) ?_
        refine XS.icmpYes Xl.here hexec rfl (pc0 := 20) rfl (hb hbytes d20) rfl (ii_le_t (hp i (by omega))) (by decide) rfl ?_
        refine XS.aloadN Xl.here hexec rfl (hb hbytes d26) rfl rfl ?_
        refine XS.iloadN Xl.here hexec rfl (hb hbytes d27) rfl ?_
        refine XS.iload Xl.here hexec rfl (hb hbytes d28) rfl ?_
        refine i2b Xl.here hexec rfl (hb hbytes d30) rfl ?_
        exact Steps.refl _)
      obtain ⟨T7, X7, p7, st7⟩ := Xl.aput hexec hBk rfl hlt rfl (fits_lo8 (cv A (o + i))) (g := (mkF m 31 #[.val (.ref b), .val (.int (Int32.ofNat (o + i))), .val (.ref d), .val (.int (Int32.ofNat (q + i))), .val (.int (Int32.ofNat len)), .val (.int (Int32.ofNat i)), .val (.int (cv A (o + i)))] [.int (lo8 (cv A (o + i))), .int (Int32.ofNat (q + i)), .ref d])) rfl (rest := []) rfl (hb hbytes d31)
      have c8 : Steps p.tables e below (s₁.setTop (entryFrame m #[.ref b, .int (Int32.ofNat o), .ref d, .int (Int32.ofNat q), .int (Int32.ofNat len)] 7)) (T7.setTop (mkF m 32 #[.val (.ref b), .val (.int (Int32.ofNat (o + i))), .val (.ref d), .val (.int (Int32.ofNat (q + i))), .val (.int (Int32.ofNat len)), .val (.int (Int32.ofNat i)), .val (.int (cv A (o + i)))] [])) := c6.trans (st7 _ (Steps.refl _))
      have c9 : Steps p.tables e below (s₁.setTop (entryFrame m #[.ref b, .int (Int32.ofNat o), .ref d, .int (Int32.ofNat q), .int (Int32.ofNat len)] 7)) (T7.setTop (mkF m 3 #[.val (.ref b), .val (.int (Int32.ofNat (o + i) + 1)), .val (.ref d), .val (.int (Int32.ofNat (q + i) + 1)), .val (.int (Int32.ofNat len)), .val (.int (Int32.ofNat i + 1)), .val (.int (cv A (o + i)))] [])) := c8.trans (by
        refine iincV X7.here hexec rfl 1 (hb hbytes d32) (by decide) rfl rfl ?_
        refine iincV X7.here hexec rfl 1 (hb hbytes d35) (by decide) rfl rfl ?_
        refine iincV X7.here hexec rfl 1 (hb hbytes d38) (by decide) rfl rfl ?_
        refine XS.goto X7.here hexec rfl (pc0 := 41) rfl (hb hbytes d41) (by decide) rfl ?_
        exact Steps.refl _)
      have c10 : Steps p.tables e below (s₁.setTop (entryFrame m #[.ref b, .int (Int32.ofNat o), .ref d, .int (Int32.ofNat q), .int (Int32.ofNat len)] 7)) (T7.setTop (mkF m 3 #[.val (.ref b), .val (.int (Int32.ofNat (o + (i + 1)))), .val (.ref d), .val (.int (Int32.ofNat (q + (i + 1)))), .val (.int (Int32.ofNat len)), .val (.int (Int32.ofNat (i + 1))), .val (.int (cv A (o + i)))] [])) := by
        have := c9
        rw [succ32, succ32, succ32] at this
        exact this
      exact ih (i + 1) (by omega) _ (Or.inr ⟨_, rfl, rfl⟩) T7 _ (by rw [copyLocs_step, ← List.append_assoc]; exact X7) (pl.trans p7) (fl.step (by omega) hlt (by simp)) c10
  obtain ⟨T9, B9, z9, X9, p9, f9, g9⟩ := loop len 0 (by omega) .unset (Or.inl rfl) s₁ B (by simpa [copyLocs] using X0) ⟨hB0.1, fun _ _ => rfl, rfl⟩ (Laid.zero _ _ _) c2
  have c11 : Steps p.tables e below (s₁.setTop (entryFrame m #[.ref b, .int (Int32.ofNat o), .ref d, .int (Int32.ofNat q), .int (Int32.ofNat len)] 7)) (T9.setTop (mkF m 46 #[.val (.ref b), .val (.int (Int32.ofNat (o + len))), .val (.ref d), .val (.int (Int32.ofNat (q + len))), .val (.int (Int32.ofNat len)), .val (.int (Int32.ofNat len)), z9] [.int (Int32.ofNat len)])) := g9.trans (by
    refine XS.iload X9.here hexec rfl (hb hbytes d3) rfl ?_
    refine XS.iload X9.here hexec rfl (hb hbytes d5) rfl ?_
    refine XS.icmpYes X9.here hexec rfl (pc0 := 7) rfl (hb hbytes d7) rfl (ii_ge_t (nlt32 (by omega) (Nat.le_refl _))) (by decide) rfl ?_
    refine XS.iload X9.here hexec rfl (hb hbytes d44) rfl ?_
    exact Steps.refl _)
  exact ⟨T9, some (.int (Int32.ofNat len)), _, _, _, X9, by simp, rfl, rfl, (fun h => by cases h), ⟨rfl, B9, p9.from hh0, f9⟩, fun fs hl => c11.trans (X9.ireturnOut hexec hret rfl (Or.inl rfl) (hb hbytes d46) hl)⟩
end Cmp5
namespace Cmp3
def yN : MethodName := ⟨"java/lang/StringUTF16", "compress", "([CII)[B"⟩
abbrev yB : ByteArray := jdk_52_method_16_code
theorem d0 : decode yB 0 = .ok (.iload_n 2, 1) := by decide +kernel
theorem d1 : decode yB 1 = .ok (.newarray .byte, 2) := by decide +kernel
theorem d3 : decode yB 3 = .ok (.astore_n 3, 1) := by decide +kernel
theorem d4 : decode yB 4 = .ok (.aload_n 0, 1) := by decide +kernel
theorem d5 : decode yB 5 = .ok (.iload_n 1, 1) := by decide +kernel
theorem d6 : decode yB 6 = .ok (.aload_n 3, 1) := by decide +kernel
theorem d7 : decode yB 7 = .ok (.iconst 0, 1) := by decide +kernel
theorem d8 : decode yB 8 = .ok (.iload_n 2, 1) := by decide +kernel
theorem d9 : decode yB 9 = .ok (.invokestatic 115, 3) := by decide +kernel
theorem d12 : decode yB 12 = .ok (.istore 4, 2) := by decide +kernel
theorem d14 : decode yB 14 = .ok (.iload 4, 2) := by decide +kernel
theorem d16 : decode yB 16 = .ok (.iload_n 2, 1) := by decide +kernel
theorem d17 : decode yB 17 = .ok (.if_icmp (.eq) 40, 3) := by decide +kernel
theorem d57 : decode yB 57 = .ok (.aload_n 3, 1) := by decide +kernel
theorem d58 : decode yB 58 = .ok (.areturn, 1) := by decide +kernel
def site : List Cond := [.arrayClass .byte, Cmp5.tab] ++ staticW U16 115 Cmp5.yN
def tab : Cond := tabOf yN yB 6 (some (.array .byte)) site
def P (b : Addr) (A : Cell) (o len : Nat) (args : Array Value) (s : State) : Prop := args = #[.ref b, .int (Int32.ofNat o), .int (Int32.ofNat len)] ∧ Ch b A s ∧ o + len ≤ A.slots.size ∧ len ≤ 536870912 ∧ ∀ i, i < len → ¬ 255 < cv A (o + i)
def E (b : Addr) (A : Cell) (o len : Nat) (r : Option Value) (s u : State) : Prop := NewArr .byte "[B" len (fun j => .int (lo8 (cv A (o + j)))) r s u ∧ u.heap.size = s.heap.size + 1
/-- no char of the range above 255: a new byte[] of their low bytes -/
theorem law (l : Launch) (b : Addr) (A : Cell) (o len : Nat) : Law l yN 3 3 1 18 yB 6 (some (.array .byte)) site (P b A o len) (E b A o len) [] 1 len := by
  refine Law.of_walk (plainFor_of_name (by decide +kernel)) (by decide +kernel) (by decide +kernel) (by decide) (fun _ _ h => by rw [h.1]; rfl) (fun _ U U' hal hh h => ⟨h.1, h.2.1.mv hal hh, h.2.2⟩) (fun r U U' V V' h1 hal h2 h => ⟨NewArr.mv r U U' V V' h1 hal h2 h.1, by rw [h1, h2]; exact h.2⟩) ?_
  intro p e s m args below meth c s₁ X0 hexec hbytes hml hret hlk hnm hown hh0 W hP
  obtain ⟨rfl, hA, l1, l2, hp⟩ := hP
  have a31 := hA.1.2.2.2
  have c1 : Steps p.tables e below (s₁.setTop (entryFrame m #[.ref b, .int (Int32.ofNat o), .int (Int32.ofNat len)] 6)) (s₁.setTop (mkF m 0 #[.val (.ref b), .val (.int (Int32.ofNat o)), .val (.int (Int32.ofNat len)), .unset, .unset, .unset] [])) := entry rfl
  have c2 : Steps p.tables e below (s₁.setTop (entryFrame m #[.ref b, .int (Int32.ofNat o), .int (Int32.ofNat len)] 6)) (s₁.setTop (mkF m 1 #[.val (.ref b), .val (.int (Int32.ofNat o)), .val (.int (Int32.ofNat len)), .unset, .unset, .unset] [.int (Int32.ofNat len)])) := c1.trans (by
    refine XS.iloadN X0.here hexec rfl (hb hbytes d0) rfl ?_
    exact Steps.refl _)
  obtain ⟨T3, B3, X3, ba3, bs3, bv3, bh3, bf3, st3⟩ := X0.anew hexec (atype := .byte) (wk W (.arrayClass .byte)) rfl (by show len * 1 ≤ _; omega) (by omega) (g := (mkF m 1 #[.val (.ref b), .val (.int (Int32.ofNat o)), .val (.int (Int32.ofNat len)), .unset, .unset, .unset] [.int (Int32.ofNat len)])) rfl (hb hbytes d1) (rest := []) rfl (Nat.le_refl _) (by show 0 + len ≤ len; omega)
  rw [hh0] at ba3 st3
  have kp3 : XT.Kept s T3 := (XT.Kept.of_eq hh0).push bh3
  have hA3 := hA.keep X3.warmed.alike (kp3 _ _ hA.1.1)
  have hne : b ≠ s.heap.size := hA.1.ne
  have c4 : Steps p.tables e below (s₁.setTop (entryFrame m #[.ref b, .int (Int32.ofNat o), .int (Int32.ofNat len)] 6)) (T3.setTop (mkF m 3 #[.val (.ref b), .val (.int (Int32.ofNat o)), .val (.int (Int32.ofNat len)), .unset, .unset, .unset] [.ref s.heap.size])) := c2.trans (st3 _ (Steps.refl _))
  have c5 : Steps p.tables e below (s₁.setTop (entryFrame m #[.ref b, .int (Int32.ofNat o), .int (Int32.ofNat len)] 6)) (T3.setTop (mkF m 9 #[.val (.ref b), .val (.int (Int32.ofNat o)), .val (.int (Int32.ofNat len)), .val (.ref s.heap.size), .unset, .unset] [.int (Int32.ofNat len), .int 0, .ref s.heap.size, .int (Int32.ofNat o), .ref b])) := c4.trans (by
    refine XS.astoreN X3.here hexec rfl (hb hbytes d3) rfl rfl rfl ?_
    refine XS.aloadN X3.here hexec rfl (hb hbytes d4) rfl rfl ?_
    refine XS.iloadN X3.here hexec rfl (hb hbytes d5) rfl ?_
    refine XS.aloadN X3.here hexec rfl (hb hbytes d6) rfl rfl ?_
    refine iconstV X3.here hexec rfl 0 (hb hbytes d7) (by decide) ?_
    refine XS.iloadN X3.here hexec rfl (hb hbytes d8) rfl ?_
    exact Steps.refl _)
  obtain ⟨v6, T6, X6, E6, g6⟩ := X3.callS hexec (Cmp5.law l b A s.heap.size B3 o 0 len) hown (wks W (staticW U16 115 Cmp5.yN)) (wk W Cmp5.tab) (W := 0) (Nat.le_of_ble_eq_true rfl) (Nat.le_of_ble_eq_true rfl) (Nat.le_refl _) (by show 0 + len + 0 ≤ len; omega) (g := (mkF m 9 #[.val (.ref b), .val (.int (Int32.ofNat o)), .val (.int (Int32.ofNat len)), .val (.ref s.heap.size), .unset, .unset] [.int (Int32.ofNat len), .int (Int32.ofNat 0), .ref s.heap.size, .int (Int32.ofNat o), .ref b])) rfl (by rw [hml]; rfl) c5 (argsL := [.ref b, .int (Int32.ofNat o), .ref s.heap.size, .int (Int32.ofNat 0), .int (Int32.ofNat len)]) (rest := []) rfl rfl (by show 2 * 0 + 0 ≤ _; decide) (hb hbytes d9) (⟨rfl, hA3, ba3, hne, l1, by rw [bs3]; simp, hp⟩)
  obtain ⟨rfl, B6, p6, f6⟩ := E6
  have c7 : Steps p.tables e below (s₁.setTop (entryFrame m #[.ref b, .int (Int32.ofNat o), .int (Int32.ofNat len)] 6)) (T6.setTop (mkF m 12 #[.val (.ref b), .val (.int (Int32.ofNat o)), .val (.int (Int32.ofNat len)), .val (.ref s.heap.size), .unset, .unset] [.int (Int32.ofNat len)])) := g6
  have c8 : Steps p.tables e below (s₁.setTop (entryFrame m #[.ref b, .int (Int32.ofNat o), .int (Int32.ofNat len)] 6)) (T6.setTop (mkF m 58 #[.val (.ref b), .val (.int (Int32.ofNat o)), .val (.int (Int32.ofNat len)), .val (.ref s.heap.size), .val (.int (Int32.ofNat len)), .unset] [.ref s.heap.size])) := c7.trans (by
    refine XS.istore X6.here hexec rfl (hb hbytes d12) rfl rfl ?_
    refine XS.iload X6.here hexec rfl (hb hbytes d14) rfl ?_
    refine XS.iloadN X6.here hexec rfl (hb hbytes d16) rfl ?_
    refine XS.icmpYes X6.here hexec rfl (pc0 := 17) rfl (hb hbytes d17) rfl (ii_eq_t rfl) (by decide) rfl ?_
    refine XS.aloadN X6.here hexec rfl (hb hbytes d57) rfl rfl ?_
    exact Steps.refl _)
  have X8 := X6.wide (L' := []) (cells' := 1) (slots' := len) (fun x hx hlt => by
    simp only [List.nil_append, copyLocs, List.mem_map, List.mem_range] at hx
    obtain ⟨i, -, rfl⟩ := hx
    exact absurd hlt (Nat.lt_irrefl _)) (Nat.le_refl _) (by omega)
  exact ⟨T6, some (.ref s.heap.size), _, _, _, X8, rfl, rfl, rfl, (fun h => by cases h), ⟨⟨rfl, B6, ba3.like (X3.warmed.alike.symm.trans X6.warmed.alike) p6.1 f6.1 f6.2.1 f6.2.2.1, f6.2.1.trans bv3, by rw [X6.warmed.alike.findClass, f6.1]; exact bf3, by rw [f6.2.2.1, bs3]; simp, fun j hj => by rw [f6.2.2.2 j, if_pos (by omega)]; rfl, kp3.put p6 (Nat.le_refl _)⟩, by rw [p6.2.2, bh3, hh0]; simp⟩, fun fs hl => c8.trans (X8.areturnOut hexec rfl hret rfl (hb hbytes d58) hl)⟩
end Cmp3
namespace CodL
def yN : MethodName := ⟨"java/lang/StringUTF16", "coderFromArrayLen", "([BI)B"⟩
abbrev yB : ByteArray := jdk_52_method_15_code
theorem d0 : decode yB 0 = .ok (.iload_n 1, 1) := by decide +kernel
theorem d1 : decode yB 1 = .ok (.aload_n 0, 1) := by decide +kernel
theorem d2 : decode yB 2 = .ok (.arraylength, 1) := by decide +kernel
theorem d3 : decode yB 3 = .ok (.isub, 1) := by decide +kernel
theorem d4 : decode yB 4 = .ok (.bipush 31, 2) := by decide +kernel
theorem d6 : decode yB 6 = .ok (.iushr, 1) := by decide +kernel
theorem d7 : decode yB 7 = .ok (.i2b, 1) := by decide +kernel
theorem d8 : decode yB 8 = .ok (.ireturn, 1) := by decide +kernel
def site : List Cond := []
def tab : Cond := tabOf yN yB 2 (some .byte) site
def P (d : Addr) (B : Cell) (args : Array Value) (s : State) : Prop := args = #[.ref d, .int (Int32.ofNat B.slots.size)] ∧ Arr .byte d B s
def E (r : Option Value) (s u : State) : Prop := XT.PureE (some (.int 0)) r s u
/-- an array as long as the number of chars: LATIN1 -/
theorem law (l : Launch) (d : Addr) (B : Cell) : Law l yN 2 2 0 0 yB 2 (some .byte) site (P d B) E [] 0 0 := by
  refine Law.of_walk (plainFor_of_name (by decide +kernel)) (by decide +kernel) (by decide +kernel) (by decide) (fun _ _ h => by rw [h.1]; rfl) (fun _ U U' hal hh h => ⟨h.1, h.2.mv hal hh⟩) (fun r U U' V V' h1 hal h2 h => XT.PureE.mv r U U' V V' h1 hal h2 h) ?_
  intro p e s m args below meth c s₁ X0 hexec hbytes hml hret hlk hnm hown hh0 W hP
  obtain ⟨rfl, hB⟩ := hP
  have hB0 := hB.mv X0.warmed.alike hh0
  have c1 : Steps p.tables e below (s₁.setTop (entryFrame m #[.ref d, .int (Int32.ofNat B.slots.size)] 2)) (s₁.setTop (mkF m 0 #[.val (.ref d), .val (.int (Int32.ofNat B.slots.size))] [])) := entry rfl
  have c2 : Steps p.tables e below (s₁.setTop (entryFrame m #[.ref d, .int (Int32.ofNat B.slots.size)] 2)) (s₁.setTop (mkF m 2 #[.val (.ref d), .val (.int (Int32.ofNat B.slots.size))] [.ref d, .int (Int32.ofNat B.slots.size)])) := c1.trans (by
    refine XS.iloadN X0.here hexec rfl (hb hbytes d0) rfl ?_
    refine XS.aloadN X0.here hexec rfl (hb hbytes d1) rfl rfl ?_
    exact Steps.refl _)
  have c3 : Steps p.tables e below (s₁.setTop (entryFrame m #[.ref d, .int (Int32.ofNat B.slots.size)] 2)) (s₁.setTop (mkF m 8 #[.val (.ref d), .val (.int (Int32.ofNat B.slots.size))] [.int (lo8 (ushr (Int32.ofNat B.slots.size - Int32.ofNat B.slots.size) 31))])) := c2.trans (by
    refine X0.alen hexec hB0 rfl rfl (hb hbytes d2) ?_
    refine XS.isub X0.here hexec rfl (hb hbytes d3) rfl ?_
    refine bipushV X0.here hexec rfl 31 (hb hbytes d4) (by decide) ?_
    refine iushr X0.here hexec rfl (hb hbytes d6) rfl ?_
    refine i2b X0.here hexec rfl (hb hbytes d7) rfl ?_
    exact Steps.refl _)
  have e0 : lo8 (ushr (Int32.ofNat B.slots.size - Int32.ofNat B.slots.size) 31) = 0 := by rw [Int32.sub_self]; decide
  rw [e0] at c3
  exact ⟨s₁, some (.int 0), _, _, _, X0, rfl, rfl, rfl, (fun h => by cases h), ⟨rfl, hh0⟩, fun fs hl => c3.trans (X0.ireturnOut hexec hret rfl (Or.inr (Or.inr (Or.inl rfl))) (hb hbytes d8) hl)⟩
end CodL
/-- the String at a is Latin-1 over a new byte[] (the heap's one new cell): the low bytes of the len chars of A from o on; every cell but a is kept -/
def Got (a : Addr) (D : Cell) (fV fC : Field) (A : Cell) (o len : Nat) (r : Option Value) (s u : State) : Prop := r = none ∧ ∃ D' V : Cell, Blank "java/lang/String" a D' u ∧ Same D D' [fV.slot, fC.slot] ∧ D'.slots[fV.slot]? = some (.ref s.heap.size) ∧ D'.slots[fC.slot]? = some (.int 0) ∧ Arr .byte s.heap.size V u ∧ V.vm = .none ∧ u.vm.findClass "[B" = some V.cls ∧ V.slots.size = len ∧ (∀ j, j < len → V.slots[j]? = some (.int (lo8 (cv A (o + j))))) ∧ (∀ (y : Addr) (c : Cell), y ≠ a → s.heap[y]? = some c → u.heap[y]? = some c) ∧ u.heap.size = s.heap.size + 1
theorem Got.mv {a : Addr} {D A : Cell} {fV fC : Field} {o len : Nat} : ∀ r (U U' V V' : State), U'.heap = U.heap → V.vm.Alike V'.vm → V'.heap = V.heap → Got a D fV fC A o len r U V → Got a D fV fC A o len r U' V' :=
  fun r U U' V V' h1 hal h2 ⟨e0, D', X, a1, a2, a3, a4, a5, a6, a7, a8, a9, a10, a11⟩ => ⟨e0, D', X, a1.mv hal h2, a2, by rw [h1]; exact a3, a4, by rw [h1]; exact a5.mv hal h2, a6, by rw [hal.findClass]; exact a7, a8, a9, by rw [h1, h2]; exact a10, by rw [h1, h2]; exact a11⟩
namespace New4
def yN : MethodName := ⟨"java/lang/String", "<init>", "([CIILjava/lang/Void;)V"⟩
abbrev yB : ByteArray := jdk_42_method_149_code
theorem d0 : decode yB 0 = .ok (.aload_n 0, 1) := by decide +kernel
theorem d1 : decode yB 1 = .ok (.invokespecial 1, 3) := by decide +kernel
theorem d4 : decode yB 4 = .ok (.iload_n 3, 1) := by decide +kernel
theorem d5 : decode yB 5 = .ok (.ifCond (.ne) 22, 3) := by decide +kernel
theorem d27 : decode yB 27 = .ok (.getstatic 38, 3) := by decide +kernel
theorem d30 : decode yB 30 = .ok (.ifCond (.eq) 28, 3) := by decide +kernel
theorem d33 : decode yB 33 = .ok (.aload_n 1, 1) := by decide +kernel
theorem d34 : decode yB 34 = .ok (.iload_n 2, 1) := by decide +kernel
theorem d35 : decode yB 35 = .ok (.iload_n 3, 1) := by decide +kernel
theorem d36 : decode yB 36 = .ok (.invokestatic 177, 3) := by decide +kernel
theorem d39 : decode yB 39 = .ok (.astore 5, 2) := by decide +kernel
theorem d41 : decode yB 41 = .ok (.aload_n 0, 1) := by decide +kernel
theorem d42 : decode yB 42 = .ok (.aload 5, 2) := by decide +kernel
theorem d44 : decode yB 44 = .ok (.iload_n 3, 1) := by decide +kernel
theorem d45 : decode yB 45 = .ok (.invokestatic 47, 3) := by decide +kernel
theorem d48 : decode yB 48 = .ok (.putfield 15, 3) := by decide +kernel
theorem d51 : decode yB 51 = .ok (.aload_n 0, 1) := by decide +kernel
theorem d52 : decode yB 52 = .ok (.aload 5, 2) := by decide +kernel
theorem d54 : decode yB 54 = .ok (.putfield 9, 3) := by decide +kernel
theorem d57 : decode yB 57 = .ok (.return_, 1) := by decide +kernel
def site : List Cond := [.fieldLink "java/lang/String" 38 "java/lang/String" "COMPACT_STRINGS" "Z", Cmp3.tab, CodL.tab, .laysFinal "java/lang/String" "java/lang/String" "value" "[B", .fieldLink "java/lang/String" 9 "java/lang/String" "value" "[B", .laysFinal "java/lang/String" "java/lang/String" "coder" "B", .fieldLink "java/lang/String" 15 "java/lang/String" "coder" "B"] ++ objW "java/lang/String" 1 ++ staticW "java/lang/String" 177 Cmp3.yN ++ staticW "java/lang/String" 47 CodL.yN
def tab : Cond := tabOf yN yB 6 none site
def P (a : Addr) (D : Cell) (fV fC : Field) (b : Addr) (A : Cell) (z : Int32) (o len : Nat) (args : Array Value) (s : State) : Prop := args = #[.ref a, .ref b, .int (Int32.ofNat o), .int (Int32.ofNat len), .null] ∧ Blank "java/lang/String" a D s ∧ Found "java/lang/String" "value" "[B" fV s ∧ Found "java/lang/String" "coder" "B" fC s ∧ Ch b A s ∧ StaticIs s "java/lang/String" "COMPACT_STRINGS" "Z" (.int z) ∧ ¬ z = 0 ∧ 0 < len ∧ o + len ≤ A.slots.size ∧ len ≤ 536870912 ∧ ∀ i, i < len → ¬ 255 < cv A (o + i)
def E (a : Addr) (D : Cell) (fV fC : Field) (A : Cell) (o len : Nat) (r : Option Value) (s u : State) : Prop := Got a D fV fC A o len r s u
/-- len > 0, no char of the range above 255: a Latin-1 String of their low bytes -/
theorem law (l : Launch) (a : Addr) (D : Cell) (fV fC : Field) (b : Addr) (A : Cell) (z : Int32) (o len : Nat) : Law l yN 5 4 2 35 yB 6 none site (P a D fV fC b A z o len) (E a D fV fC A o len) [⟨a, fC.slot⟩, ⟨a, fV.slot⟩] 1 len := by
  refine Law.of_walk (plainFor_of_name (by decide +kernel)) (by decide +kernel) (by decide +kernel) (by decide) (fun _ _ h => by rw [h.1]; rfl) (fun _ U U' hal hh h => ⟨h.1, h.2.1.mv hal hh, h.2.2.1.al hal, h.2.2.2.1.al hal, h.2.2.2.2.1.mv hal hh, h.2.2.2.2.2.1.there hal hh, h.2.2.2.2.2.2⟩) (fun r U U' V V' h1 hal h2 h => Got.mv r U U' V V' h1 hal h2 h) ?_
  intro p e s m args below meth c s₁ X0 hexec hbytes hml hret hlk hnm hown hh0 W hP
  obtain ⟨rfl, hB, f1, f2, hA, s1, hz, l0, l1, l2, hp⟩ := hP
  have a31 := hA.1.2.2.2
  have c1 : Steps p.tables e below (s₁.setTop (entryFrame m #[.ref a, .ref b, .int (Int32.ofNat o), .int (Int32.ofNat len), .null] 6)) (s₁.setTop (mkF m 0 #[.val (.ref a), .val (.ref b), .val (.int (Int32.ofNat o)), .val (.int (Int32.ofNat len)), .val .null, .unset] [])) := entry rfl
  have c2 : Steps p.tables e below (s₁.setTop (entryFrame m #[.ref a, .ref b, .int (Int32.ofNat o), .int (Int32.ofNat len), .null] 6)) (s₁.setTop (mkF m 1 #[.val (.ref a), .val (.ref b), .val (.int (Int32.ofNat o)), .val (.int (Int32.ofNat len)), .val .null, .unset] [.ref a])) := c1.trans (by
    refine XS.aloadN X0.here hexec rfl (hb hbytes d0) rfl rfl ?_
    exact Steps.refl _)
  obtain ⟨T3, X3, q3, st3⟩ := X0.oinit hexec hown (wks W (objW "java/lang/String" 1)) (g := (mkF m 1 #[.val (.ref a), .val (.ref b), .val (.int (Int32.ofNat o)), .val (.int (Int32.ofNat len)), .val .null, .unset] [.ref a])) rfl (by rw [hml]; rfl) (rest := []) rfl (hb hbytes d1) (W := 0) (by show 2 * 0 + 0 ≤ _; decide) (Nat.le_of_ble_eq_true rfl) (Nat.le_of_ble_eq_true rfl)
  have hh3 := q3.trans hh0
  have c4 : Steps p.tables e below (s₁.setTop (entryFrame m #[.ref a, .ref b, .int (Int32.ofNat o), .int (Int32.ofNat len), .null] 6)) (T3.setTop (mkF m 27 #[.val (.ref a), .val (.ref b), .val (.int (Int32.ofNat o)), .val (.int (Int32.ofNat len)), .val .null, .unset] [])) := (c2.trans (st3 _ (Steps.refl _))).trans (by
    refine XS.iloadN X3.here hexec rfl (hb hbytes d4) rfl ?_
    refine XS.ifYes X3.here hexec rfl (pc0 := 5) rfl (hb hbytes d5) rfl (i0_ne_t (nz32 (by omega) l0)) (by decide) rfl ?_
    exact Steps.refl _)
  obtain ⟨T5, X5, q5, st5⟩ := X3.sget hexec hown (wk W (.fieldLink "java/lang/String" 38 "java/lang/String" "COMPACT_STRINGS" "Z")) s1 (fun _ _ h => by rw [hh3]; exact h) (g := (mkF m 27 #[.val (.ref a), .val (.ref b), .val (.int (Int32.ofNat o)), .val (.int (Int32.ofNat len)), .val .null, .unset] [])) rfl (hb hbytes d27)
  have hh5 := q5.trans hh3
  have c6 : Steps p.tables e below (s₁.setTop (entryFrame m #[.ref a, .ref b, .int (Int32.ofNat o), .int (Int32.ofNat len), .null] 6)) (T5.setTop (mkF m 30 #[.val (.ref a), .val (.ref b), .val (.int (Int32.ofNat o)), .val (.int (Int32.ofNat len)), .val .null, .unset] [.int z])) := c4.trans (st5 _ (Steps.refl _))
  have c7 : Steps p.tables e below (s₁.setTop (entryFrame m #[.ref a, .ref b, .int (Int32.ofNat o), .int (Int32.ofNat len), .null] 6)) (T5.setTop (mkF m 36 #[.val (.ref a), .val (.ref b), .val (.int (Int32.ofNat o)), .val (.int (Int32.ofNat len)), .val .null, .unset] [.int (Int32.ofNat len), .int (Int32.ofNat o), .ref b])) := c6.trans (by
    refine XS.ifNo X5.here hexec rfl (hb hbytes d30) rfl (i0_eq_f hz) ?_
    refine XS.aloadN X5.here hexec rfl (hb hbytes d33) rfl rfl ?_
    refine XS.iloadN X5.here hexec rfl (hb hbytes d34) rfl ?_
    refine XS.iloadN X5.here hexec rfl (hb hbytes d35) rfl ?_
    exact Steps.refl _)
  obtain ⟨v8, T8, X8, E8, g8⟩ := X5.callS hexec (Cmp3.law l b A o len) hown (wks W (staticW "java/lang/String" 177 Cmp3.yN)) (wk W Cmp3.tab) (W := 0) (Nat.le_of_ble_eq_true rfl) (Nat.le_of_ble_eq_true rfl) (Nat.le_refl _) (by show 0 + len ≤ len; omega) (g := (mkF m 36 #[.val (.ref a), .val (.ref b), .val (.int (Int32.ofNat o)), .val (.int (Int32.ofNat len)), .val .null, .unset] [.int (Int32.ofNat len), .int (Int32.ofNat o), .ref b])) rfl (by rw [hml]; rfl) c7 (argsL := [.ref b, .int (Int32.ofNat o), .int (Int32.ofNat len)]) (rest := []) rfl rfl (by show 2 * 0 + 0 ≤ _; decide) (hb hbytes d36) (⟨rfl, hA.mv X5.warmed.alike hh5, l1, l2, hp⟩)
  obtain ⟨e8, z8⟩ := E8
  obtain ⟨rfl, N, n1, n2, n3, n4, n5, n6⟩ := NewArr.mv _ T5 s _ _ hh5.symm (Vm.Alike.refl _) rfl e8
  rw [hh5] at z8
  have hB1 := hB.keep X8.warmed.alike (n6 _ _ hB.1)
  have hne : s.heap.size ≠ a := (Nat.ne_of_lt (Array.getElem?_eq_some_iff.mp hB.1).1).symm
  have c9 : Steps p.tables e below (s₁.setTop (entryFrame m #[.ref a, .ref b, .int (Int32.ofNat o), .int (Int32.ofNat len), .null] 6)) (T8.setTop (mkF m 39 #[.val (.ref a), .val (.ref b), .val (.int (Int32.ofNat o)), .val (.int (Int32.ofNat len)), .val .null, .unset] [.ref s.heap.size])) := g8
  have c10 : Steps p.tables e below (s₁.setTop (entryFrame m #[.ref a, .ref b, .int (Int32.ofNat o), .int (Int32.ofNat len), .null] 6)) (T8.setTop (mkF m 45 #[.val (.ref a), .val (.ref b), .val (.int (Int32.ofNat o)), .val (.int (Int32.ofNat len)), .val .null, .val (.ref s.heap.size)] [.int (Int32.ofNat N.slots.size), .ref s.heap.size, .ref a])) := by
    have hc : Steps p.tables e below (s₁.setTop (entryFrame m #[.ref a, .ref b, .int (Int32.ofNat o), .int (Int32.ofNat len), .null] 6)) (T8.setTop (mkF m 45 #[.val (.ref a), .val (.ref b), .val (.int (Int32.ofNat o)), .val (.int (Int32.ofNat len)), .val .null, .val (.ref s.heap.size)] [.int (Int32.ofNat len), .ref s.heap.size, .ref a])) := c9.trans (by
      refine XS.astore X8.here hexec rfl (hb hbytes d39) rfl rfl rfl ?_
      refine XS.aloadN X8.here hexec rfl (hb hbytes d41) rfl rfl ?_
      refine XS.aload X8.here hexec rfl (hb hbytes d42) rfl rfl ?_
      refine XS.iloadN X8.here hexec rfl (hb hbytes d44) rfl ?_
      exact Steps.refl _)
    rw [n4]; exact hc
  obtain ⟨v11, T11, X11, E11, g11⟩ := X8.callS hexec (CodL.law l s.heap.size N) hown (wks W (staticW "java/lang/String" 47 CodL.yN)) (wk W CodL.tab) (W := 1) (Nat.le_of_ble_eq_true rfl) (Nat.le_of_ble_eq_true rfl) (Nat.le_refl _) (by show 0 + len + 0 ≤ len; omega) (g := (mkF m 45 #[.val (.ref a), .val (.ref b), .val (.int (Int32.ofNat o)), .val (.int (Int32.ofNat len)), .val .null, .val (.ref s.heap.size)] [.int (Int32.ofNat N.slots.size), .ref s.heap.size, .ref a])) rfl (by rw [hml]; rfl) c10 (argsL := [.ref s.heap.size, .int (Int32.ofNat N.slots.size)]) (rest := [.ref a]) rfl rfl (by show 2 * 0 + (1 + 0) ≤ _; decide) (hb hbytes d45) (⟨rfl, n1⟩)
  obtain ⟨rfl, q11⟩ := E11
  have hB11 := hB1.mv (X8.warmed.alike.symm.trans X11.warmed.alike) q11
  have c12 : Steps p.tables e below (s₁.setTop (entryFrame m #[.ref a, .ref b, .int (Int32.ofNat o), .int (Int32.ofNat len), .null] 6)) (T11.setTop (mkF m 48 #[.val (.ref a), .val (.ref b), .val (.int (Int32.ofNat o)), .val (.int (Int32.ofNat len)), .val .null, .val (.ref s.heap.size)] [.int 0, .ref a])) := g11
  obtain ⟨T13, X13, p13, bl13, sl13, st13⟩ := X11.finit hexec hown (wk W (.fieldLink "java/lang/String" 15 "java/lang/String" "coder" "B")) (Or.inr ⟨_, (wk W (.laysFinal "java/lang/String" "java/lang/String" "coder" "B"))⟩) (Or.inl ⟨rfl, hnm⟩) f2 (Or.inl rfl) hB11 (t := .byte) (by decide +kernel) rfl (g := (mkF m 48 #[.val (.ref a), .val (.ref b), .val (.int (Int32.ofNat o)), .val (.int (Int32.ofNat len)), .val .null, .val (.ref s.heap.size)] [.int 0, .ref a])) rfl (rest := []) rfl (hb hbytes d48)
  have c14 : Steps p.tables e below (s₁.setTop (entryFrame m #[.ref a, .ref b, .int (Int32.ofNat o), .int (Int32.ofNat len), .null] 6)) (T13.setTop (mkF m 54 #[.val (.ref a), .val (.ref b), .val (.int (Int32.ofNat o)), .val (.int (Int32.ofNat len)), .val .null, .val (.ref s.heap.size)] [.ref s.heap.size, .ref a])) := (c12.trans (st13 _ (Steps.refl _))).trans (by
    refine XS.aloadN X13.here hexec rfl (hb hbytes d51) rfl rfl ?_
    refine XS.aload X13.here hexec rfl (hb hbytes d52) rfl rfl ?_
    exact Steps.refl _)
  obtain ⟨T15, X15, p15, bl15, sl15, st15⟩ := X13.finit hexec hown (wk W (.fieldLink "java/lang/String" 9 "java/lang/String" "value" "[B")) (Or.inr ⟨_, (wk W (.laysFinal "java/lang/String" "java/lang/String" "value" "[B"))⟩) (Or.inl ⟨rfl, hnm⟩) f1 (Or.inl rfl) bl13 (t := (.array .byte)) (by decide +kernel) rfl (g := (mkF m 54 #[.val (.ref a), .val (.ref b), .val (.int (Int32.ofNat o)), .val (.int (Int32.ofNat len)), .val .null, .val (.ref s.heap.size)] [.ref s.heap.size, .ref a])) rfl (rest := []) rfl (hb hbytes d54)
  have c16 : Steps p.tables e below (s₁.setTop (entryFrame m #[.ref a, .ref b, .int (Int32.ofNat o), .int (Int32.ofNat len), .null] 6)) (T15.setTop (mkF m 57 #[.val (.ref a), .val (.ref b), .val (.int (Int32.ofNat o)), .val (.int (Int32.ofNat len)), .val .null, .val (.ref s.heap.size)] [])) := c14.trans (st15 _ (Steps.refl _))
  have ap := apart (Or.inr ⟨_, (wk W (.laysFinal "java/lang/String" "java/lang/String" "value" "[B"))⟩) (Or.inr ⟨_, (wk W (.laysFinal "java/lang/String" "java/lang/String" "coder" "B"))⟩) f1 f2 (t₁ := .array .byte) (t₂ := .byte) (by decide +kernel) (by decide +kernel) (by decide)
  have al := X8.warmed.alike.symm.trans X15.warmed.alike
  have n7 : T11.heap[s.heap.size]? = some N := by rw [q11]; exact n1.1
  exact ⟨T15, none, _, _, _, X15, by simp, rfl, by omega, (fun _ => rfl), ⟨rfl, _, N, bl15, ((Same.refl D _).set _ (by simp)).set _ (by simp), sl15, (Cell.slots_setSlot_ne _ ap).trans sl13, n1.keep al (p15.other hne (p13.other hne n7)), n2, by rw [al.findClass]; exact n3, n4, n5, fun y c h1 h2 => p15.other h1 (p13.other h1 (by rw [q11]; exact n6 y c h2)), by rw [p15.2.2, p13.2.2, q11]; exact z8⟩, fun fs hl => c16.trans (X15.returnOut hexec hret (hb hbytes d57) hl)⟩
end New4
namespace New1
def yN : MethodName := ⟨"java/lang/String", "<init>", "([C)V"⟩
abbrev yB : ByteArray := jdk_42_method_3_code
theorem d0 : decode yB 0 = .ok (.aload_n 0, 1) := by decide +kernel
theorem d1 : decode yB 1 = .ok (.aload_n 1, 1) := by decide +kernel
theorem d2 : decode yB 2 = .ok (.iconst 0, 1) := by decide +kernel
theorem d3 : decode yB 3 = .ok (.aload_n 1, 1) := by decide +kernel
theorem d4 : decode yB 4 = .ok (.arraylength, 1) := by decide +kernel
theorem d5 : decode yB 5 = .ok (.aconst_null, 1) := by decide +kernel
theorem d6 : decode yB 6 = .ok (.invokespecial 27, 3) := by decide +kernel
theorem d9 : decode yB 9 = .ok (.return_, 1) := by decide +kernel
def site : List Cond := [New4.tab] ++ initW "java/lang/String" 27 New4.yN
def tab : Cond := tabOf yN yB 2 none site
def P (a : Addr) (D : Cell) (fV fC : Field) (b : Addr) (A : Cell) (z : Int32) (args : Array Value) (s : State) : Prop := args = #[.ref a, .ref b] ∧ Blank "java/lang/String" a D s ∧ Found "java/lang/String" "value" "[B" fV s ∧ Found "java/lang/String" "coder" "B" fC s ∧ Ch b A s ∧ StaticIs s "java/lang/String" "COMPACT_STRINGS" "Z" (.int z) ∧ ¬ z = 0 ∧ 0 < A.slots.size ∧ A.slots.size ≤ 536870912 ∧ ∀ i, i < A.slots.size → ¬ 255 < cv A i
def E (a : Addr) (D : Cell) (fV fC : Field) (A : Cell) (r : Option Value) (s u : State) : Prop := Got a D fV fC A 0 A.slots.size r s u
/-- new String(chars), not empty, no char above 255: a Latin-1 String of their low bytes -/
theorem law (l : Launch) (a : Addr) (D : Cell) (fV fC : Field) (b : Addr) (A : Cell) (z : Int32) : Law l yN 2 1 3 52 yB 2 none site (P a D fV fC b A z) (E a D fV fC A) [⟨a, fC.slot⟩, ⟨a, fV.slot⟩] 1 A.slots.size := by
  refine Law.of_walk (plainFor_of_name (by decide +kernel)) (by decide +kernel) (by decide +kernel) (by decide) (fun _ _ h => by rw [h.1]; rfl) (fun _ U U' hal hh h => ⟨h.1, h.2.1.mv hal hh, h.2.2.1.al hal, h.2.2.2.1.al hal, h.2.2.2.2.1.mv hal hh, h.2.2.2.2.2.1.there hal hh, h.2.2.2.2.2.2⟩) (fun r U U' V V' h1 hal h2 h => Got.mv r U U' V V' h1 hal h2 h) ?_
  intro p e s m args below meth c s₁ X0 hexec hbytes hml hret hlk hnm hown hh0 W hP
  obtain ⟨rfl, hB, f1, f2, hA, s1, hz, l0, l2, hp⟩ := hP
  have c1 : Steps p.tables e below (s₁.setTop (entryFrame m #[.ref a, .ref b] 2)) (s₁.setTop (mkF m 0 #[.val (.ref a), .val (.ref b)] [])) := entry rfl
  have c2 : Steps p.tables e below (s₁.setTop (entryFrame m #[.ref a, .ref b] 2)) (s₁.setTop (mkF m 6 #[.val (.ref a), .val (.ref b)] [.null, .int (Int32.ofNat A.slots.size), .int 0, .ref b, .ref a])) := c1.trans (by
    refine XS.aloadN X0.here hexec rfl (hb hbytes d0) rfl rfl ?_
    refine XS.aloadN X0.here hexec rfl (hb hbytes d1) rfl rfl ?_
    refine iconstV X0.here hexec rfl 0 (hb hbytes d2) (by decide) ?_
    refine XS.aloadN X0.here hexec rfl (hb hbytes d3) rfl rfl ?_
    refine X0.alen hexec (hA.1.mv X0.warmed.alike hh0) rfl rfl (hb hbytes d4) ?_
    refine XS.aconstNull X0.here hexec rfl (hb hbytes d5) ?_
    exact Steps.refl _)
  obtain ⟨v3, T3, X3, E3, g3⟩ := X0.callN hexec (New4.law l a D fV fC b A z 0 A.slots.size) rfl hown (wks W (initW "java/lang/String" 27 New4.yN)) (W New4.tab (by simp only [site, List.mem_cons, List.mem_append, true_or, or_true])) (W := 0) (Nat.le_of_ble_eq_true rfl) (Nat.le_of_ble_eq_true rfl) (Nat.le_refl _) (by show 0 + A.slots.size ≤ A.slots.size; omega) (g := (mkF m 6 #[.val (.ref a), .val (.ref b)] [.null, .int (Int32.ofNat A.slots.size), .int (Int32.ofNat 0), .ref b, .ref a])) rfl (by rw [hml]; rfl) c2 (argsL := [.ref b, .int (Int32.ofNat 0), .int (Int32.ofNat A.slots.size), .null]) (rest := []) rfl rfl (by show 2 * 0 + 0 ≤ _; decide) (hb hbytes d6) (⟨rfl, hB.mv X0.warmed.alike hh0, f1.al X0.warmed.alike, f2.al X0.warmed.alike, hA.mv X0.warmed.alike hh0, s1.there X0.warmed.alike hh0, hz, l0, by omega, l2, fun i hi => by rw [Nat.zero_add]; exact hp i hi⟩)
  have e0 := Got.mv _ s₁ s _ _ hh0.symm (Vm.Alike.refl _) rfl E3
  obtain rfl := e0.1
  have c4 : Steps p.tables e below (s₁.setTop (entryFrame m #[.ref a, .ref b] 2)) (T3.setTop (mkF m 9 #[.val (.ref a), .val (.ref b)] [])) := g3
  exact ⟨T3, none, _, _, _, X3, by simp, rfl, by omega, (fun _ => rfl), e0, fun fs hl => c4.trans (X3.returnOut hexec hret (hb hbytes d9) hl)⟩
theorem pays {l : Launch} {R : Room} {p : Program} {e : Env} {below : List Frame} {s : State} {sargs : Array Value} {len W : Nat} (a : Addr) (D : Cell) (fV fC : Field) (b : Addr) (A : Cell) (z : Int32) (htab : tab.before sargs s = true) (hfr : 4 ≤ R.frames) (hlo : W + 65 ≤ R.locals) :
    Back l R p e below s sargs yN len W (fun A₁ a₁ => A₁.cells + 1 ≤ R.cells ∧ A₁.slots + A.slots.size ≤ R.slots ∧ P a D fV fC b A z a₁ A₁.U) (fun A₁ _ v₁ B₁ => E a D fV fC A v₁ A₁.U B₁.U ∧ B₁.locs = A₁.locs ++ [⟨a, fC.slot⟩, ⟨a, fV.slot⟩] ∧ B₁.cells = A₁.cells + 1 ∧ B₁.slots = A₁.slots + A.slots.size) :=
  (law l a D fV fC b A z).pays htab hfr (by omega)
end New1
/-- the byte, read back as charAt reads it, is the char -/
theorem lo8_mask {x : Int32} (h0 : ¬ x < 0) (h1 : ¬ 255 < x) : lo8 x &&& 255 = x := by
  have t : ∀ k : Fin 256, lo8 (Int32.ofNat k.val) &&& 255 = Int32.ofNat k.val := by decide +kernel
  rw [Int32.lt_iff_toInt_lt] at h0 h1
  have e0 : (0 : Int32).toInt = 0 := rfl
  have e1 : (255 : Int32).toInt = 255 := rfl
  obtain ⟨k, hk⟩ : ∃ k : Nat, x.toInt = k := ⟨x.toInt.toNat, by omega⟩
  have hx : x = Int32.ofNat k := Int32.toInt_inj.mp (by rw [hk, Int32.toInt_ofNat_small (by omega)])
  rw [hx]
  exact t ⟨k, by omega⟩
end StrChars
namespace StrChars.Road
open Jvm Sem ClassFile Op Lib Jvm.Stand Jvm.Free Jvm.Free.XT
open Jvm.Lib.Cold (StaticIs)
abbrev ST : String := "java/lang/String"
/-- every table word that New1's law asks, flat -/
abbrev words : List Jvm.Cond := [.code New1.yN New1.yB 2 none, .initialized ST, .methodLink ST 27 New4.yN, .instanceMethod New4.yN,
  .code New4.yN New4.yB 6 none, .fieldLink ST 38 ST "COMPACT_STRINGS" "Z", .laysFinal ST ST "value" "[B", .fieldLink ST 9 ST "value" "[B", .laysFinal ST ST "coder" "B", .fieldLink ST 15 ST "coder" "B",
  .methodLink ST 1 Lib.objectInit, .instanceMethod Lib.objectInit, .code Lib.objectInit ⟨#[0xb1]⟩ 1 none, .methodLink ST 177 Cmp3.yN, .static Cmp3.yN, .methodLink ST 47 CodL.yN, .static CodL.yN,
  .code Cmp3.yN Cmp3.yB 6 (some (.array .byte)), .initialized U16, .arrayClass .byte, .methodLink U16 115 Cmp5.yN, .static Cmp5.yN, .code Cmp5.yN Cmp5.yB 7 (some .int), .code CodL.yN CodL.yB 2 (some .byte)]
theorem tab_of {a : Array Value} {s : State} (h : ∀ w ∈ words, w.before a s = true) : New1.tab.before a s = true := by
  have h5 : Cmp5.tab.before a s = true := unparts (wk h (.code Cmp5.yN Cmp5.yB 7 (some .int))) (wks h (.initialized Cmp5.yN.cls :: Cmp5.site))
  have hc : CodL.tab.before a s = true := unparts (wk h (.code CodL.yN CodL.yB 2 (some .byte))) (wks h (.initialized CodL.yN.cls :: CodL.site))
  have q5 : ∀ w ∈ Cmp5.tab :: words, w.before a s = true := fun w hw => (List.mem_cons.mp hw).elim (fun e => e ▸ h5) (h w)
  have h3 : Cmp3.tab.before a s = true := unparts (wk q5 (.code Cmp3.yN Cmp3.yB 6 (some (.array .byte)))) (wks q5 (.initialized Cmp3.yN.cls :: Cmp3.site))
  have q3 : ∀ w ∈ Cmp3.tab :: CodL.tab :: words, w.before a s = true := fun w hw => (List.mem_cons.mp hw).elim (fun e => e ▸ h3) fun hw => (List.mem_cons.mp hw).elim (fun e => e ▸ hc) (h w)
  have h4 : New4.tab.before a s = true := unparts (wk q3 (.code New4.yN New4.yB 6 none)) (wks q3 (.initialized New4.yN.cls :: New4.site))
  have q4 : ∀ w ∈ New4.tab :: words, w.before a s = true := fun w hw => (List.mem_cons.mp hw).elim (fun e => e ▸ h4) (h w)
  exact unparts (wk q4 (.code New1.yN New1.yB 2 none)) (wks q4 (.initialized New1.yN.cls :: New1.site))
/-- the words ride from the start Z to the walk's own state -/
theorem moved {Z s : State} {a0 args : Array Value} (hZ : Z.Warmed39 s.vm) (hw : ∀ d ∈ words, d.before a0 Z = true) : ∀ d ∈ words, d.before args s = true := fun d hd => by
  have q := hw d hd
  have t : ∀ d ∈ words, d = .arrayClass .byte ∨ (d.onTables && d.keepsFace) = true := by decide +kernel
  rcases t d hd with rfl | t
  · exact RoadKit.mvA hZ q
  · exact RoadKit.mv hZ q t
/-- WHAT COMES BACK, over the tables of the start Z: h the heap at the call, h' behind it -/
def Q (Z : State) (x : Addr) (A : Cell) (h : Heap) (v : Option Value) (h' : Heap) (L : List Loc) : Prop := v = none ∧ (∀ y ∈ L, y.base = x) ∧ RoadKit.Keep h h' [x] ∧ h'.size = h.size + 1 ∧ RoadKit.Exa Z h' x ST ∧ RoadKit.Fld Z h' x ST "value" "[B" (.ref h.size) ∧ RoadKit.Fld Z h' x ST "coder" "B" (.int 0) ∧
  (∃ V : Cell, RoadKit.Arr Z h' h.size V .byte ∧ V.vm = .none ∧ Z.vm.findClass "[B" = some V.cls ∧ V.slots.size = A.slots.size ∧ ∀ j, j < A.slots.size → V.slots[j]? = some (.int (lo8 (cv A j)))) ∧
  ∀ (O n d : String) (w : Value), RoadKit.Fld Z h x O n d w → RoadKit.slotOf Z O n d ≠ RoadKit.slotOf Z ST "value" "[B" → RoadKit.slotOf Z O n d ≠ RoadKit.slotOf Z ST "coder" "B" → RoadKit.Fld Z h' x O n d w
/-- **new String(chars) AT A CALL, IN THE ROAD'S FORM**: for specialBack behind newO: x the fresh String, b the char[] with the cell A -/
theorem back {p : Program} {l : Launch} {e : Env} {R : Room} {s : State} {args : Array Value} {below : List Frame} {len W : Nat} {Z : State} {a0 : Array Value} {h : Heap} (hZ : Z.Warmed39 s.vm) (hw : ∀ d ∈ words, d.before a0 Z = true) {kI : Nat} (wi : (Jvm.Cond.instantiable ST kI).before a0 Z = true)
    {x b : Addr} {A : Cell} {z : Int32} {v0 c0 : Value} (E : RoadKit.Exa Z h x ST) (V : RoadKit.Fld Z h x ST "value" "[B" v0) (C : RoadKit.Fld Z h x ST "coder" "B" c0) (K : RoadKit.Arr Z h b A .char) (hty : Typed .char A) (S : RoadKit.Sta Z h ST "COMPACT_STRINGS" "Z" (.int z)) (hz : ¬ z = 0)
    (l0 : 0 < A.slots.size) (l2 : A.slots.size ≤ 536870912) (hp : ∀ i, i < A.slots.size → ¬ 255 < cv A i) (hfr : 4 ≤ R.frames) (hlo : W + 65 ≤ R.locals) :
    Back l R p e below s args New1.yN len W (fun P a => a = #[.ref x, .ref b] ∧ P.U.heap = h ∧ P.cells + 1 ≤ R.cells ∧ P.slots + A.slots.size ≤ R.slots)
      (fun P _ v B => ∃ L, Q Z x A h v B.U.heap L ∧ B.locs = P.locs ++ L ∧ B.cells = P.cells + 1 ∧ B.slots = P.slots + A.slots.size) := by
  intro m meth c P g ig mk a X hg hsize hdg hW hn hp'
  obtain ⟨rfl, rfl, r1, r2⟩ := hp'
  have al : Z.vm.Alike P.U.vm := hZ.alike.trans X.warmed.alike
  obtain ⟨D, cfV, kV, iV, fV, hD, gV, stV, knV, obV, asV, slV⟩ := id V
  obtain ⟨D', cfC, kC, iC, fC, hD', gC, stC, -, -, asC, slC⟩ := id C
  cases hD.symm.trans hD'
  obtain ⟨D2, kD, e1, e2, e3, e4, e5⟩ := id E
  cases hD.symm.trans e1
  obtain ⟨c2, k2, i1, i2, i3, -⟩ := Cond.instantiable_spec wi
  cases e2.symm.trans i1
  cases e3.symm.trans i2
  obtain ⟨kU, u1, u2⟩ := al.2.2 _ _ e3
  have hB : Blank ST x D P.U := ⟨hD, ⟨knV, fun q hq => by rw [hq] at obV; cases obV⟩, by rw [al.findClass]; exact e2, kU, u1, by rw [u2]; exact i3, by rw [u2]; exact e5 i3⟩
  have F1 : Found ST "value" "[B" fV P.U := ⟨SBG.found_only al ⟨cfV, kV, iV, gV⟩, stV⟩
  have F2 : Found ST "coder" "B" fC P.U := ⟨SBG.found_only al ⟨cfC, kC, iC, gC⟩, stC⟩
  have hA : Ch b A P.U := ⟨⟨K.1, State.isArrayOf_alike al K.2.1, K.2.2, by omega⟩, hty⟩
  have hS : StaticIs P.U ST "COMPACT_STRINGS" "Z" (.int z) := by
    obtain ⟨cfS, iS, kS, fS, st, cS, t1, t2, t3, t4, t5, t6, t7⟩ := S
    exact StaticIs.there (s := { Z with heap := P.U.heap }) ⟨cfS, iS, kS, fS, st, cS, t1, t2, t3, t4, t5, (fun q => by rw [q] at t6; cases t6), t7⟩ al rfl
  obtain ⟨v, B, X', ⟨⟨hv, E', V', q1, q2, q3, q4, q5, q6, q7, q8, q9, q10, q11⟩, hl, hc, hs⟩, st⟩ := New1.pays x D fV fC b A z (tab_of (moved hZ hw)) hfr hlo m meth c P g ig mk _ X hg hsize hdg hW hn ⟨r1, r2, rfl, hB, F1, F2, hA, hS, hz, l0, l2, hp⟩
  have al' : Z.vm.Alike B.U.vm := hZ.alike.trans X'.warmed.alike
  have hsz : E'.slots.size = D.slots.size := by
    obtain ⟨-, -, -, kB, w1, w2, w3⟩ := q1
    obtain ⟨kB', y1, y2⟩ := al'.2.2 _ _ e3
    rw [q2.2.1] at w1
    cases w1.symm.trans y1
    rw [w3, e5 i3, y2]
  refine ⟨v, B, X', ⟨_, ⟨hv, ?_, ⟨by omega, fun y cy hy hn' => q10 y cy (by simpa using hn') hy, fun y cy hy => ?_⟩, q11, ⟨E', _, q1.1, by rw [q2.2.1]; exact e2, by rw [q2.2.1]; exact e3, by rw [q2.1]; exact obV, fun _ => by rw [hsz]; exact e5 i3⟩,
    ⟨E', cfV, kV, iV, fV, q1.1, gV, stV, by rw [q2.1]; exact knV, by rw [q2.1]; exact obV, by rw [q2.2.1]; exact asV, q3⟩, ⟨E', cfC, kC, iC, fC, q1.1, gC, stC, by rw [q2.1]; exact knV, by rw [q2.1]; exact obV, by rw [q2.2.1]; exact asC, q4⟩,
    ⟨V', ⟨q5.1, State.isArrayOf_alike al'.symm q5.2.1, q5.2.2.1⟩, q6, by rw [← al'.findClass]; exact q7, q8, fun j hj => by have := q9 j hj; rwa [Nat.zero_add] at this⟩, fun O n d w F n1 n2 => ?_⟩, hl, hc, hs⟩, st⟩
  · intro y hy
    simp only [List.mem_cons, List.not_mem_nil, or_false] at hy
    rcases hy with rfl | rfl <;> rfl
  · by_cases q : y = x
    · subst q
      cases hD.symm.trans hy
      exact ⟨E', q1.1, q2.2.1, q2.1, hsz⟩
    · exact ⟨cy, q10 y cy q hy, rfl, rfl, rfl⟩
  · obtain ⟨D3, cf, k, i, f, g1, g2, g3, g4, g5, g6, g7⟩ := F
    cases hD.symm.trans g1
    simp only [RoadKit.slotOf, g2, gV, gC, Option.map_some, Option.getD_some] at n1 n2
    exact ⟨E', cf, k, i, f, q1.1, g2, g3, by rw [q2.1]; exact g4, by rw [q2.1]; exact g5, by rw [q2.2.1]; exact g6, by rw [q2.2.2 f.slot (by simp [n1, n2])]; exact g7⟩
end StrChars.Road
namespace StrChars.Road
open Jvm Sem ClassFile Op Lib Jvm.Stand Jvm.Free Jvm.Free.XT
/-- WHAT COMES BACK, the byte[] as a list of values -/
def QA (Z : State) (x : Addr) (zn : Int32) (cs : List Int32) (h : Heap) (v : Option Value) (h' : Heap) (L : List Loc) : Prop := v = none ∧ (∀ y ∈ L, y.base = x) ∧ RoadKit.Keep h h' [x] ∧ h'.size = h.size + 1 ∧ RoadKit.Exa Z h' x ST ∧ RoadKit.Fld Z h' x ST "value" "[B" (.ref h.size) ∧ RoadKit.Fld Z h' x ST "coder" "B" (.int 0) ∧
  (∃ kb, Z.vm.findClass "[B" = some kb ∧ RoadKit.Arv Z h' h.size kb .byte zn (cs.map fun c => .int (lo8 c)) (.int 0)) ∧
  ∀ (O n d : String) (w : Value), RoadKit.Fld Z h x O n d w → RoadKit.slotOf Z O n d ≠ RoadKit.slotOf Z ST "value" "[B" → RoadKit.slotOf Z O n d ≠ RoadKit.slotOf Z ST "coder" "B" → RoadKit.Fld Z h' x O n d w
/-- **new String(chars) AT A CALL, THE ARRAYS AS LISTS**: the char[] at b holds cs, not empty, no char above 255 -/
theorem backArv {p : Program} {l : Launch} {e : Env} {R : Room} {s : State} {args : Array Value} {below : List Frame} {len W : Nat} {Z : State} {a0 : Array Value} {h : Heap} (hZ : Z.Warmed39 s.vm) (hw : ∀ d ∈ words, d.before a0 Z = true) {kI : Nat} (wi : (Jvm.Cond.instantiable ST kI).before a0 Z = true)
    {x b : Addr} {k : ClassId} {zn z : Int32} {cs : List Int32} {dv v0 c0 : Value} (E : RoadKit.Exa Z h x ST) (V : RoadKit.Fld Z h x ST "value" "[B" v0) (C : RoadKit.Fld Z h x ST "coder" "B" c0) (K : RoadKit.Arv Z h b k .char zn (cs.map Value.int) dv) (S : RoadKit.Sta Z h ST "COMPACT_STRINGS" "Z" (.int z)) (hz : ¬ z = 0)
    (hlen : zn.toNatClampNeg = cs.length) (h0 : 0 < cs.length) (hbig : cs.length ≤ 536870912) (hall : ∀ c ∈ cs, ¬ 255 < c) (hfr : 4 ≤ R.frames) (hlo : W + 65 ≤ R.locals) :
    Back l R p e below s args New1.yN len W (fun P a => a = #[.ref x, .ref b] ∧ P.U.heap = h ∧ P.cells + 1 ≤ R.cells ∧ P.slots + cs.length ≤ R.slots)
      (fun P _ v B => ∃ L, QA Z x zn cs h v B.U.heap L ∧ B.locs = P.locs ++ L ∧ B.cells = P.cells + 1 ∧ B.slots = P.slots + cs.length) := by
  obtain ⟨A, K1, K2, K3, K4, K5, K6⟩ := K
  have e : A.slots.size = cs.length := K3.trans hlen
  have hat : ∀ (i : Nat) (hi : i < cs.length), A.slots[i]? = some (.int cs[i]) := fun i hi => by rw [K5 i (by omega)]; simp [List.getD_eq_getElem?_getD, hi]
  have hcv : ∀ (i : Nat) (hi : i < cs.length), cv A i = cs[i] := fun i hi => by unfold cv; rw [hat i hi]
  have hty : Typed .char A := fun i v hv => by
    have hi : i < A.slots.size := (Array.getElem?_eq_some_iff.mp hv).1
    have q := K5 i hi
    rw [hv] at q
    rw [Option.some.inj q]
    exact K6 i hi
  refine Back.mono (back hZ hw wi E V C K1 hty S hz (by omega) (by omega) (fun i hi => by rw [hcv i (by omega)]; exact hall _ (List.getElem_mem _)) hfr hlo) (fun P a hp => ⟨hp.1, hp.2.1, hp.2.2.1, by rw [e]; exact hp.2.2.2⟩) (fun P a v B hp hq => ?_)
  obtain ⟨L, ⟨q1, q2, q3, q4, q5, q6, q7, ⟨V', v1, v2, v3, v4, v5⟩, q9⟩, hl, hc, hs⟩ := hq
  refine ⟨L, ⟨q1, q2, q3, q4, q5, q6, q7, ⟨V'.cls, v3, V', v1, rfl, by rw [v4, e, hlen], K4, fun i hi => ?_, fun i hi => ?_⟩, q9⟩, hl, hc, by rw [hs, e]⟩
  · have hi' : i < cs.length := by omega
    rw [v5 i (by omega), hcv i hi']; simp [List.getD_eq_getElem?_getD, hi']
  · have hi' : i < cs.length := by omega
    simp only [List.getD_eq_getElem?_getD, List.getElem?_map, List.getElem?_eq_getElem hi', Option.map_some, Option.getD_some]
    exact fits_lo8 _
end StrChars.Road
namespace StrChars.Road
open Jvm Sem ClassFile Op Lib Jvm.Stand Jvm.Free Jvm.Free.XT
/-- WHAT COMES BACK, in the writer's own shape -/
def QV (Z : State) (x : Addr) (N : Int32) (bs : List Int32) (h : Heap) (n0 : Nat) (v : Option Value) (h' : Heap) (L : List Loc) : Prop := v = none ∧ RoadKit.Fr n0 L ∧ RoadKit.Keep h h' [x] ∧ RoadKit.Exa Z h' x ST ∧ RoadKit.Fld Z h' x ST "coder" "B" (.int 0) ∧
  ∃ (t : Addr) (kb : ClassId), n0 ≤ t ∧ h.size ≤ t ∧ ¬ t = x ∧ RoadKit.Fld Z h' x ST "value" "[B" (.ref t) ∧ RoadKit.Arv Z h' t kb .byte N (bs.map Value.int) (.int 0)
/-- **new String(chars) AT A CALL, FOR THE WRITER**: a char[] of n known ints, each 0 to 255 -/
theorem backV {p : Program} {l : Launch} {e : Env} {R : Room} {s : State} {args : Array Value} {below : List Frame} {len W : Nat} {Z : State} {a0 : Array Value} {h : Heap} (hZ : Z.Warmed39 s.vm) (hw : ∀ d ∈ words, d.before a0 Z = true) {kI : Nat} (wi : (Jvm.Cond.instantiable ST kI).before a0 Z = true)
    {x b : Addr} {kC : ClassId} {cs bs : List Int32} {d v0 c0 : Value} {z N : Int32} {n n0 : Nat} (hx0 : n0 ≤ x) (hh0 : n0 ≤ h.size) (E : RoadKit.Exa Z h x ST) (V : RoadKit.Fld Z h x ST "value" "[B" v0) (C : RoadKit.Fld Z h x ST "coder" "B" c0) (K : RoadKit.Arv Z h b kC .char N (cs.map Value.int) d) (S : RoadKit.Sta Z h ST "COMPACT_STRINGS" "Z" (.int z)) (hz : ¬ z = 0)
    (hn : cs.length = n) (hN : N = Int32.ofNat n) (l0 : 0 < n) (l2 : n ≤ 4000) (hp : ∀ c ∈ cs, ¬ c < 0 ∧ ¬ (255 : Int32) < c) (hb : bs = cs.map (fun c => c.toInt8.toInt32)) (hfr : 4 ≤ R.frames) (hlo : W + 65 ≤ R.locals) :
    Back l R p e below s args (⟨"java/lang/String", "<init>", "([C)V"⟩ : MethodName) len W (fun P a => a = #[.ref x, .ref b] ∧ P.U.heap = h ∧ P.cells + 1 ≤ R.cells ∧ P.slots + n ≤ R.slots)
      (fun P _ v B => ∃ L, QV Z x N bs h n0 v B.U.heap L ∧ B.locs = P.locs ++ L ∧ B.cells = P.cells + 1 ∧ B.slots = P.slots + n) := by
  subst hn hN hb
  refine Back.mono (backArv hZ hw wi E V C K S hz (n32 (by omega)) l0 (by omega) (fun c hc => (hp c hc).2) hfr hlo) (fun P a hp => hp) (fun P a v B hp hq => ?_)
  obtain ⟨L, ⟨q1, q2, q3, q4, q5, q6, q7, ⟨kb, v1, v2⟩, q9⟩, hl, hc, hs⟩ := hq
  exact ⟨L, ⟨q1, fun y hy => by rw [q2 y hy]; exact hx0, q3, q5, q7, h.size, kb, hh0, Nat.le_refl _, Nat.ne_of_gt E.lt, q6, by rw [List.map_map]; exact v2⟩, hl, hc, hs⟩
end StrChars.Road
namespace StrChars
open Jvm Sem ClassFile Op Lib Jvm.Stand Jvm.Free.XT Jvm.Free.ALB Jvm.Free.JM Jvm.Free
open Jvm.Lib.Cold (StaticIs)
def hi8 (x : Int32) : Int32 := lo8 (x >>> ((8 : Int32) &&& 31))
/-- what StringUTF16.getChar makes of two bytes -/
def pairCh (u v : Int32) : Int32 := (((u &&& 255) <<< ((0 : Int32) &&& 31)) ||| ((v &&& 255) <<< ((8 : Int32) &&& 31))).toUInt32.toUInt16.toUInt32.toInt32
theorem shr0 (c : Int32) : c >>> ((0 : Int32) &&& 31) = c := by
  have e : ((0 : Int32) &&& 31) = 0 := by decide
  rw [e]
  apply Int32.toBitVec_inj.mp
  rw [Int32.toBitVec_shiftRight]
  have e1 : ((0 : Int32).toBitVec.smod 32) = 0#32 := by decide
  rw [e1, BitVec.sshiftRight_eq']
  exact BitVec.sshiftRight_zero
theorem lo8_and (x : Int32) : (lo8 x &&& 255).toBitVec.toNat = x.toBitVec.toNat % 256 := by
  have h : (lo8 x).toBitVec = (x.toBitVec.signExtend 8).signExtend 32 := by rw [lo8, Int8.toBitVec_toInt32, Int32.toBitVec_toInt8]
  rw [Int32.toBitVec_and, BitVec.toNat_and, h]
  have e : ((x.toBitVec.signExtend 8).signExtend 32).toNat % 256 = x.toBitVec.toNat % 256 := by
    rw [BitVec.toNat_signExtend]
    have hlt := x.toBitVec.isLt
    simp only [BitVec.toNat_setWidth, BitVec.toNat_signExtend]
    split <;> split <;> omega
  rw [← e]
  exact Nat.and_two_pow_sub_one_eq_mod _ 8
theorem pair_says {c : Int32} (h0 : ¬ c < 0) (h1 : ¬ 65535 < c) : pairCh (lo8 c) (hi8 c) = c := by
  rw [Int32.lt_iff_toInt_lt] at h0 h1
  have e0 : (0 : Int32).toInt = 0 := rfl
  have e1 : (65535 : Int32).toInt = 65535 := rfl
  have hc : c.toInt = c.toBitVec.toNat := by
    have := c.toBitVec.isLt
    have e : c.toInt = c.toBitVec.toInt := rfl
    rw [e] at h0 h1
    rw [e]
    rw [BitVec.toInt_eq_toNat_cond] at h0 h1 ⊢
    split at h0 <;> split <;> omega
  have hn : c.toBitVec.toNat < 65536 := by omega
  have a1 := lo8_and c
  have a2 : (hi8 c &&& 255).toBitVec.toNat = c.toBitVec.toNat / 256 := by
    rw [hi8, lo8_and]
    have e : ((8 : Int32) &&& 31) = 8 := by decide
    rw [e, Int32.toBitVec_shiftRight]
    have e2 : ((8 : Int32).toBitVec.smod 32) = 8#32 := by decide
    rw [e2, BitVec.sshiftRight_eq', BitVec.toNat_sshiftRight_of_msb_false (by rw [BitVec.msb_eq_false_iff_two_mul_lt]; omega)]
    show c.toBitVec.toNat >>> 8 % 256 = _
    rw [Nat.shiftRight_eq_div_pow]
    omega
  unfold pairCh
  apply Int32.toBitVec_inj.mp
  apply BitVec.eq_of_toNat_eq
  have f0 : ((0 : Int32) &&& 31) = 0 := by decide
  have f8 : ((8 : Int32) &&& 31) = 8 := by decide
  rw [f0, f8]
  have g : (((lo8 c &&& 255) <<< (0 : Int32)) ||| ((hi8 c &&& 255) <<< (8 : Int32))).toBitVec.toNat = c.toBitVec.toNat := by
    rw [Int32.toBitVec_or, Int32.toBitVec_shiftLeft, Int32.toBitVec_shiftLeft]
    have s0 : ((0 : Int32).toBitVec.smod 32) = 0#32 := by decide
    have s8 : ((8 : Int32).toBitVec.smod 32) = 8#32 := by decide
    rw [s0, s8, BitVec.toNat_or]
    simp only [BitVec.shiftLeft_eq', BitVec.toNat_shiftLeft, a1, a2]
    show (c.toBitVec.toNat % 256) <<< 0 % 2 ^ 32 ||| (c.toBitVec.toNat / 256) <<< 8 % 2 ^ 32 = _
    rw [Nat.shiftLeft_zero, Nat.mod_eq_of_lt (show c.toBitVec.toNat % 256 < 2 ^ 32 by omega), Nat.mod_eq_of_lt (show (c.toBitVec.toNat / 256) <<< 8 < 2 ^ 32 by rw [Nat.shiftLeft_eq]; omega), Nat.or_comm, ← Nat.shiftLeft_add_eq_or_of_lt (by omega), Nat.shiftLeft_eq]
    omega
  show BitVec.toNat (((((lo8 c &&& 255) <<< (0 : Int32)) ||| ((hi8 c &&& 255) <<< (8 : Int32))).toBitVec.setWidth 16).setWidth 32) = _
  rw [BitVec.toNat_setWidth, BitVec.toNat_setWidth, g]
  omega
end StrChars
namespace StrChars
open Jvm Sem ClassFile Op Lib Jvm.Stand Jvm.Free.XT Jvm.Free.ALB Jvm.Free.JM Jvm.Free
open Jvm.Lib.Cold (StaticIs)
theorem shr1 {n : Nat} (h : 2 * n < 2 ^ 31) : Int32.ofNat (2 * n) >>> ((1 : Int32) &&& 31) = Int32.ofNat n := by
  have e : ((1 : Int32) &&& 31) = 1 := by decide
  rw [e]
  apply Int32.toBitVec_inj.mp
  rw [Int32.toBitVec_shiftRight]
  have e1 : ((1 : Int32).toBitVec.smod 32) = 1#32 := by decide
  have hm : (BitVec.ofNat 32 (2 * n)).toNat = 2 * n := by rw [BitVec.toNat_ofNat, Nat.mod_eq_of_lt (by omega)]
  rw [e1, BitVec.sshiftRight_eq']
  apply BitVec.eq_of_toNat_eq
  show ((BitVec.ofNat 32 (2 * n)).sshiftRight 1).toNat = (BitVec.ofNat 32 n).toNat
  rw [BitVec.toNat_sshiftRight_of_msb_false (by rw [BitVec.msb_eq_false_iff_two_mul_lt, hm]; omega), hm, BitVec.toNat_ofNat, Nat.shiftRight_eq_div_pow]
  omega
/-- charAt's cast of a byte read back -/
def chr8 (u : Int32) : Int32 := (u &&& 255).toUInt32.toUInt16.toUInt32.toInt32
theorem chr8_lo8 {c : Int32} (h0 : ¬ c < 0) (h1 : ¬ 255 < c) : chr8 (lo8 c) = c := by
  have t : ∀ k : Fin 256, (Int32.ofNat k.val).toUInt32.toUInt16.toUInt32.toInt32 = Int32.ofNat k.val := by decide +kernel
  unfold chr8
  rw [lo8_mask h0 h1]
  rw [Int32.lt_iff_toInt_lt] at h0 h1
  have e0 : (0 : Int32).toInt = 0 := rfl
  have e1 : (255 : Int32).toInt = 255 := rfl
  obtain ⟨k, hk⟩ : ∃ k : Nat, c.toInt = k := ⟨c.toInt.toNat, by omega⟩
  have hx : c = Int32.ofNat k := Int32.toInt_inj.mp (by rw [hk, Int32.toInt_ofNat_small (by omega)])
  rw [hx]
  exact t ⟨k, by omega⟩
theorem narrow_ch {c : Int32} (h0 : ¬ c < 0) (h1 : ¬ 65535 < c) : narrow .char (.int c) = .int c := by
  have q : narrow .char (.int (pairCh (lo8 c) (hi8 c))) = .int (pairCh (lo8 c) (hi8 c)) := narrow_c _
  rwa [pair_says h0 h1] at q
/-- the array's cell V codes the n chars f 0 .. f (n - 1) by the coder cd, as the JDK does: coder 1 just where some char is above 255 -/
def Cod (cd : Int32) (n : Nat) (f : Nat → Int32) (V : Cell) : Prop := (cd = 0 ∧ V.slots.size = n ∧ ∀ j, j < n → V.slots[j]? = some (.int (lo8 (f j))) ∧ ¬ 255 < f j) ∨ (cd = 1 ∧ V.slots.size = 2 * n ∧ (∀ j, j < n → V.slots[2 * j]? = some (.int (lo8 (f j))) ∧ V.slots[2 * j + 1]? = some (.int (hi8 (f j)))) ∧ ∃ j, j < n ∧ 255 < f j)
theorem Cod.cd {cd : Int32} {n : Nat} {f : Nat → Int32} {V : Cell} (h : Cod cd n f V) : cd = 0 ∨ cd = 1 := h.imp (fun q => q.1) fun q => q.1
theorem Cod.len {cd : Int32} {n : Nat} {f : Nat → Int32} {V : Cell} (h : Cod cd n f V) (hs : V.slots.size < 2 ^ 31) : Int32.ofNat V.slots.size >>> (cd &&& 31) = Int32.ofNat n := by
  rcases h with ⟨rfl, h, -⟩ | ⟨rfl, h, -⟩
  · rw [shr0, h]
  · rw [h, shr1 (by omega)]
/-- **x is a String of the n chars f 0 .. f (n - 1)**, Latin-1 or UTF-16; its array at t has the cell V -/
def Txt (x t : Addr) (V : Cell) (cd : Int32) (n : Nat) (f : Nat → Int32) (U : State) : Prop := Exact "java/lang/String" x U ∧ Has x "java/lang/String" "value" "[B" (.ref t) U ∧ Has x "java/lang/String" "coder" "B" (.int cd) U ∧ XT.Arr .byte t V U ∧ Cod cd n f V ∧ ∀ j, j < n → ¬ f j < 0 ∧ ¬ 65535 < f j
theorem Txt.mv {x t : Addr} {V : Cell} {cd : Int32} {n : Nat} {f : Nat → Int32} {U U' : State} (h : Txt x t V cd n f U) (hal : U.vm.Alike U'.vm) (hh : U'.heap = U.heap) : Txt x t V cd n f U' := ⟨h.1.mv hal hh, h.2.1.mv hal hh, h.2.2.1.mv hal hh, h.2.2.2.1.mv hal hh, h.2.2.2.2⟩
namespace Cdr
def yN : MethodName := ⟨"java/lang/String", "coder", "()B"⟩
abbrev yB : ByteArray := jdk_42_method_152_code
theorem d0 : decode yB 0 = .ok (.getstatic 38, 3) := by decide +kernel
theorem d3 : decode yB 3 = .ok (.ifCond (.eq) 10, 3) := by decide +kernel
theorem d6 : decode yB 6 = .ok (.aload_n 0, 1) := by decide +kernel
theorem d7 : decode yB 7 = .ok (.getfield 15, 3) := by decide +kernel
theorem d10 : decode yB 10 = .ok (.goto 4, 3) := by decide +kernel
theorem d14 : decode yB 14 = .ok (.ireturn, 1) := by decide +kernel
def site : List Cond := [.fieldLink "java/lang/String" 38 "java/lang/String" "COMPACT_STRINGS" "Z", .fieldLink "java/lang/String" 15 "java/lang/String" "coder" "B"]
def tab : Cond := tabOf yN yB 1 (some .byte) site
def P (x : Addr) (cd z : Int32) (args : Array Value) (s : State) : Prop := args = #[.ref x] ∧ Has x "java/lang/String" "coder" "B" (.int cd) s ∧ (cd = 0 ∨ cd = 1) ∧ StaticIs s "java/lang/String" "COMPACT_STRINGS" "Z" (.int z) ∧ ¬ z = 0
def E (cd : Int32) (r : Option Value) (s u : State) : Prop := XT.PureE (some (.int cd)) r s u
theorem law (l : Launch) (x : Addr) (cd z : Int32) : Law l yN 1 0 0 0 yB 1 (some .byte) site (P x cd z) (E cd) [] 0 0 := by
  refine Law.of_walk (plainFor_of_name (by decide +kernel)) (by decide +kernel) (by decide +kernel) (by decide) (fun _ _ h => by rw [h.1]; rfl) (fun _ U U' hal hh h => ⟨h.1, h.2.1.mv hal hh, h.2.2.1, h.2.2.2.1.there hal hh, h.2.2.2.2⟩) (fun r U U' V V' h1 hal h2 h => XT.PureE.mv r U U' V V' h1 hal h2 h) ?_
  intro p e s m args below meth c s₁ X0 hexec hbytes hml hret hlk hnm hown hh0 W hP
  obtain ⟨rfl, hx, hc, s1, hz⟩ := hP
  have c1 : Steps p.tables e below (s₁.setTop (entryFrame m #[.ref x] 1)) (s₁.setTop (mkF m 0 #[.val (.ref x)] [])) := entry rfl
  obtain ⟨T2, X2, q2, st2⟩ := X0.sget hexec hown (wk W (.fieldLink "java/lang/String" 38 "java/lang/String" "COMPACT_STRINGS" "Z")) s1 (fun _ _ h => by rw [hh0]; exact h) (g := (mkF m 0 #[.val (.ref x)] [])) rfl (hb hbytes d0)
  have hh2 := q2.trans hh0
  have c3 : Steps p.tables e below (s₁.setTop (entryFrame m #[.ref x] 1)) (T2.setTop (mkF m 7 #[.val (.ref x)] [.ref x])) := (c1.trans (st2 _ (Steps.refl _))).trans (by
    refine XS.ifNo X2.here hexec rfl (hb hbytes d3) rfl (i0_eq_f hz) ?_
    refine XS.aloadN X2.here hexec rfl (hb hbytes d6) rfl rfl ?_
    exact Steps.refl _)
  obtain ⟨T4, X4, q4, st4⟩ := X2.hget hexec hown (wk W (.fieldLink "java/lang/String" 15 "java/lang/String" "coder" "B")) (hx.mv X2.warmed.alike hh2) (g := (mkF m 7 #[.val (.ref x)] [.ref x])) rfl (rest := []) rfl (hb hbytes d7)
  have c5 : Steps p.tables e below (s₁.setTop (entryFrame m #[.ref x] 1)) (T4.setTop (mkF m 14 #[.val (.ref x)] [.int cd])) := (c3.trans (st4 _ (Steps.refl _))).trans (by
    refine XS.goto X4.here hexec rfl (pc0 := 10) rfl (hb hbytes d10) (by decide) rfl ?_
    exact Steps.refl _)
  exact ⟨T4, some (.int cd), _, _, _, X4, rfl, rfl, rfl, (fun h => by cases h), ⟨rfl, q4.trans hh2⟩, fun fs hl => c5.trans (X4.ireturnOut hexec hret (by rcases hc with rfl | rfl <;> rfl) (Or.inr (Or.inr (Or.inl rfl))) (hb hbytes d14) hl)⟩
end Cdr
namespace Len
def yN : MethodName := ⟨"java/lang/String", "length", "()I"⟩
abbrev yB : ByteArray := jdk_42_method_54_code
theorem d0 : decode yB 0 = .ok (.aload_n 0, 1) := by decide +kernel
theorem d1 : decode yB 1 = .ok (.getfield 9, 3) := by decide +kernel
theorem d4 : decode yB 4 = .ok (.arraylength, 1) := by decide +kernel
theorem d5 : decode yB 5 = .ok (.aload_n 0, 1) := by decide +kernel
theorem d6 : decode yB 6 = .ok (.invokevirtual 335, 3) := by decide +kernel
theorem d9 : decode yB 9 = .ok (.ishr, 1) := by decide +kernel
theorem d10 : decode yB 10 = .ok (.ireturn, 1) := by decide +kernel
def site : List Cond := [.fieldLink "java/lang/String" 9 "java/lang/String" "value" "[B", Cdr.tab] ++ virtW "java/lang/String" 335 "java/lang/String" Cdr.yN Cdr.yN
def tab : Cond := tabOf yN yB 1 (some .int) site
def P (x t : Addr) (V : Cell) (cd : Int32) (n : Nat) (f : Nat → Int32) (z : Int32) (args : Array Value) (s : State) : Prop := args = #[.ref x] ∧ Txt x t V cd n f s ∧ StaticIs s "java/lang/String" "COMPACT_STRINGS" "Z" (.int z) ∧ ¬ z = 0
def E (n : Nat) (r : Option Value) (s u : State) : Prop := XT.PureE (some (.int (Int32.ofNat n))) r s u
/-- length() of a String of n chars, in either coding -/
theorem law (l : Launch) (x t : Addr) (V : Cell) (cd : Int32) (n : Nat) (f : Nat → Int32) (z : Int32) : Law l yN 1 0 1 13 yB 1 (some .int) site (P x t V cd n f z) (E n) [] 0 0 := by
  refine Law.of_walk (plainFor_of_name (by decide +kernel)) (by decide +kernel) (by decide +kernel) (by decide) (fun _ _ h => by rw [h.1]; rfl) (fun _ U U' hal hh h => ⟨h.1, h.2.1.mv hal hh, h.2.2.1.there hal hh, h.2.2.2⟩) (fun r U U' V V' h1 hal h2 h => XT.PureE.mv r U U' V V' h1 hal h2 h) ?_
  intro p e s m args below meth c s₁ X0 hexec hbytes hml hret hlk hnm hown hh0 W hP
  obtain ⟨rfl, hx, s1, hz⟩ := hP
  have v31 := hx.2.2.2.1.2.2.2
  have c1 : Steps p.tables e below (s₁.setTop (entryFrame m #[.ref x] 1)) (s₁.setTop (mkF m 1 #[.val (.ref x)] [.ref x])) := Steps.trans (entry rfl) (by
    show Steps p.tables e below (s₁.setTop (mkF m 0 #[.val (.ref x)] [])) _
    refine XS.aloadN X0.here hexec rfl (hb hbytes d0) rfl rfl ?_
    exact Steps.refl _)
  obtain ⟨T2, X2, q2, st2⟩ := X0.hget hexec hown (wk W (.fieldLink "java/lang/String" 9 "java/lang/String" "value" "[B")) (hx.mv X0.warmed.alike hh0).2.1 (g := (mkF m 1 #[.val (.ref x)] [.ref x])) rfl (rest := []) rfl (hb hbytes d1)
  have hh2 := q2.trans hh0
  have hx2 := hx.mv X2.warmed.alike hh2
  have c3 : Steps p.tables e below (s₁.setTop (entryFrame m #[.ref x] 1)) (T2.setTop (mkF m 6 #[.val (.ref x)] [.ref x, .int (Int32.ofNat V.slots.size)])) := (c1.trans (st2 _ (Steps.refl _))).trans (by
    refine X2.alen hexec hx2.2.2.2.1 rfl rfl (hb hbytes d4) ?_
    refine XS.aloadN X2.here hexec rfl (hb hbytes d5) rfl rfl ?_
    exact Steps.refl _)
  obtain ⟨v4, T4, X4, E4, g4⟩ := X2.callV hexec (Cdr.law l x cd z) hown (wks W (virtW "java/lang/String" 335 "java/lang/String" Cdr.yN Cdr.yN)) rfl (by decide) (wk W Cdr.tab) (W := 1) (Nat.le_of_ble_eq_true rfl) (Nat.le_of_ble_eq_true rfl) (Nat.le_refl _) (Nat.le_refl _) (hx2.1.fc X2.warmed.alike) hx2.1.is (g := (mkF m 6 #[.val (.ref x)] [.ref x, .int (Int32.ofNat V.slots.size)])) rfl (by rw [hml]; rfl) c3 (argsL := []) (rest := [.int (Int32.ofNat V.slots.size)]) rfl rfl (by show 2 * 0 + (1 + 0) ≤ _; decide) (hb hbytes d6) (⟨rfl, hx2.2.2.1, hx.2.2.2.2.1.cd, s1.there X2.warmed.alike hh2, hz⟩)
  obtain ⟨rfl, q4⟩ := E4
  have c5 : Steps p.tables e below (s₁.setTop (entryFrame m #[.ref x] 1)) (T4.setTop (mkF m 10 #[.val (.ref x)] [.int (Int32.ofNat V.slots.size >>> (cd &&& 31))])) := Steps.trans g4 (by
    refine ishr X4.here hexec rfl (hb hbytes d9) rfl ?_
    exact Steps.refl _)
  rw [hx.2.2.2.2.1.len v31] at c5
  exact ⟨T4, some (.int (Int32.ofNat n)), _, _, _, X4, rfl, rfl, rfl, (fun h => by cases h), ⟨rfl, q4.trans hh2⟩, fun fs hl => c5.trans (X4.ireturnOut hexec hret rfl (Or.inl rfl) (hb hbytes d10) hl)⟩
theorem pays {l : Launch} {R : Room} {p : Program} {e : Env} {below : List Frame} {s : State} {sargs : Array Value} {len W : Nat} (x t : Addr) (V : Cell) (cd : Int32) (n : Nat) (f : Nat → Int32) (z : Int32) (htab : tab.before sargs s = true) (hfr : 2 ≤ R.frames) (hlo : W + 25 ≤ R.locals) :
    Back l R p e below s sargs yN len W (fun A₁ a₁ => A₁.cells + 0 ≤ R.cells ∧ A₁.slots + 0 ≤ R.slots ∧ P x t V cd n f z a₁ A₁.U) (fun A₁ _ v₁ B₁ => E n v₁ A₁.U B₁.U ∧ B₁.locs = A₁.locs ++ [] ∧ B₁.cells = A₁.cells + 0 ∧ B₁.slots = A₁.slots + 0) :=
  (law l x t V cd n f z).pays htab hfr (by omega)
end Len
namespace IsL
def yN : MethodName := ⟨"java/lang/String", "isLatin1", "()Z"⟩
abbrev yB : ByteArray := jdk_42_method_154_code
theorem d0 : decode yB 0 = .ok (.getstatic 38, 3) := by decide +kernel
theorem d3 : decode yB 3 = .ok (.ifCond (.eq) 14, 3) := by decide +kernel
theorem d6 : decode yB 6 = .ok (.aload_n 0, 1) := by decide +kernel
theorem d7 : decode yB 7 = .ok (.getfield 15, 3) := by decide +kernel
theorem d10 : decode yB 10 = .ok (.ifCond (.ne) 7, 3) := by decide +kernel
theorem d13 : decode yB 13 = .ok (.iconst 1, 1) := by decide +kernel
theorem d14 : decode yB 14 = .ok (.goto 4, 3) := by decide +kernel
theorem d17 : decode yB 17 = .ok (.iconst 0, 1) := by decide +kernel
theorem d18 : decode yB 18 = .ok (.ireturn, 1) := by decide +kernel
def site : List Cond := [.fieldLink "java/lang/String" 38 "java/lang/String" "COMPACT_STRINGS" "Z", .fieldLink "java/lang/String" 15 "java/lang/String" "coder" "B"]
def tab : Cond := tabOf yN yB 1 (some .boolean) site
def P (x : Addr) (cd z : Int32) (args : Array Value) (s : State) : Prop := args = #[.ref x] ∧ Has x "java/lang/String" "coder" "B" (.int cd) s ∧ (cd = 0 ∨ cd = 1) ∧ StaticIs s "java/lang/String" "COMPACT_STRINGS" "Z" (.int z) ∧ ¬ z = 0
def E (cd : Int32) (r : Option Value) (s u : State) : Prop := XT.PureE (some (.int (1 - cd))) r s u
theorem law (l : Launch) (x : Addr) (cd z : Int32) : Law l yN 1 0 0 0 yB 1 (some .boolean) site (P x cd z) (E cd) [] 0 0 := by
  refine Law.of_walk (plainFor_of_name (by decide +kernel)) (by decide +kernel) (by decide +kernel) (by decide) (fun _ _ h => by rw [h.1]; rfl) (fun _ U U' hal hh h => ⟨h.1, h.2.1.mv hal hh, h.2.2.1, h.2.2.2.1.there hal hh, h.2.2.2.2⟩) (fun r U U' V V' h1 hal h2 h => XT.PureE.mv r U U' V V' h1 hal h2 h) ?_
  intro p e s m args below meth c s₁ X0 hexec hbytes hml hret hlk hnm hown hh0 W hP
  obtain ⟨rfl, hx, hc, s1, hz⟩ := hP
  have c1 : Steps p.tables e below (s₁.setTop (entryFrame m #[.ref x] 1)) (s₁.setTop (mkF m 0 #[.val (.ref x)] [])) := entry rfl
  obtain ⟨T2, X2, q2, st2⟩ := X0.sget hexec hown (wk W (.fieldLink "java/lang/String" 38 "java/lang/String" "COMPACT_STRINGS" "Z")) s1 (fun _ _ h => by rw [hh0]; exact h) (g := (mkF m 0 #[.val (.ref x)] [])) rfl (hb hbytes d0)
  have hh2 := q2.trans hh0
  have c3 : Steps p.tables e below (s₁.setTop (entryFrame m #[.ref x] 1)) (T2.setTop (mkF m 7 #[.val (.ref x)] [.ref x])) := (c1.trans (st2 _ (Steps.refl _))).trans (by
    refine XS.ifNo X2.here hexec rfl (hb hbytes d3) rfl (i0_eq_f hz) ?_
    refine XS.aloadN X2.here hexec rfl (hb hbytes d6) rfl rfl ?_
    exact Steps.refl _)
  obtain ⟨T4, X4, q4, st4⟩ := X2.hget hexec hown (wk W (.fieldLink "java/lang/String" 15 "java/lang/String" "coder" "B")) (hx.mv X2.warmed.alike hh2) (g := (mkF m 7 #[.val (.ref x)] [.ref x])) rfl (rest := []) rfl (hb hbytes d7)
  have c5 : Steps p.tables e below (s₁.setTop (entryFrame m #[.ref x] 1)) (T4.setTop (mkF m 10 #[.val (.ref x)] [.int cd])) := c3.trans (st4 _ (Steps.refl _))
  have c6 : Steps p.tables e below (s₁.setTop (entryFrame m #[.ref x] 1)) (T4.setTop (mkF m 18 #[.val (.ref x)] [.int (1 - cd)])) := by
    rcases hc with rfl | rfl
    · exact c5.trans (by
        refine XS.ifNo X4.here hexec rfl (hb hbytes d10) rfl (i0_ne_f rfl) ?_
        refine iconstV X4.here hexec rfl 1 (hb hbytes d13) (by decide) ?_
        refine XS.goto X4.here hexec rfl (pc0 := 14) rfl (hb hbytes d14) (by decide) rfl ?_
        exact Steps.refl _)
    · exact c5.trans (by
        refine XS.ifYes X4.here hexec rfl (pc0 := 10) rfl (hb hbytes d10) rfl (i0_ne_t (by decide)) (by decide) rfl ?_
        refine iconstV X4.here hexec rfl 0 (hb hbytes d17) (by decide) ?_
        exact Steps.refl _)
  exact ⟨T4, some (.int (1 - cd)), _, _, _, X4, rfl, rfl, rfl, (fun h => by cases h), ⟨rfl, q4.trans hh2⟩, fun fs hl => c6.trans (X4.ireturnOut hexec hret (by rcases hc with rfl | rfl <;> rfl) (Or.inr (Or.inl rfl)) (hb hbytes d18) hl)⟩
end IsL
namespace LChA
def yN : MethodName := ⟨"java/lang/StringLatin1", "charAt", "([BI)C"⟩
abbrev yB : ByteArray := jdk_43_method_2_code
theorem d0 : decode yB 0 = .ok (.iload_n 1, 1) := by decide +kernel
theorem d1 : decode yB 1 = .ok (.aload_n 0, 1) := by decide +kernel
theorem d2 : decode yB 2 = .ok (.arraylength, 1) := by decide +kernel
theorem d3 : decode yB 3 = .ok (.invokestatic 9, 3) := by decide +kernel
theorem d6 : decode yB 6 = .ok (.aload_n 0, 1) := by decide +kernel
theorem d7 : decode yB 7 = .ok (.iload_n 1, 1) := by decide +kernel
theorem d8 : decode yB 8 = .ok (.baload, 1) := by decide +kernel
theorem d9 : decode yB 9 = .ok (.sipush 255, 3) := by decide +kernel
theorem d12 : decode yB 12 = .ok (.iand, 1) := by decide +kernel
theorem d13 : decode yB 13 = .ok (.i2c, 1) := by decide +kernel
theorem d14 : decode yB 14 = .ok (.ireturn, 1) := by decide +kernel
def site : List Cond := [JO.Str_checkIndex.tab] ++ staticW "java/lang/StringLatin1" 9 JO.Str_checkIndex.yN
def tab : Cond := tabOf yN yB 2 (some .char) site
def P (t : Addr) (V : Cell) (i : Nat) (u : Int32) (fm : Value) (args : Array Value) (s : State) : Prop := args = #[.ref t, .int (Int32.ofNat i)] ∧ XT.Arr .byte t V s ∧ V.slots[i]? = some (.int u) ∧ (StaticIs s "jdk/internal/util/Preconditions" "SIOOBE_FORMATTER" "Ljava/util/function/BiFunction;" fm ∧ fm.isRef = true)
def E (u : Int32) (r : Option Value) (s w : State) : Prop := XT.PureE (some (.int (chr8 u))) r s w
theorem law (l : Launch) (t : Addr) (V : Cell) (i : Nat) (u : Int32) (fm : Value) : Law l yN 2 2 2 27 yB 2 (some .char) site (P t V i u fm) (E u) [] 0 0 := by
  refine Law.of_walk (plainFor_of_name (by decide +kernel)) (by decide +kernel) (by decide +kernel) (by decide) (fun _ _ h => by rw [h.1]; rfl) (fun _ U U' hal hh h => ⟨h.1, h.2.1.mv hal hh, h.2.2.1, h.2.2.2.1.there hal hh, h.2.2.2.2⟩) (fun r U U' V V' h1 hal h2 h => XT.PureE.mv r U U' V V' h1 hal h2 h) ?_
  intro p e s m args below meth c s₁ X0 hexec hbytes hml hret hlk hnm hown hh0 W hP
  obtain ⟨rfl, hV, hu, s1, rf⟩ := hP
  have v31 := hV.2.2.2
  have hi : i < V.slots.size := (Array.getElem?_eq_some_iff.mp hu).1
  have c1 : Steps p.tables e below (s₁.setTop (entryFrame m #[.ref t, .int (Int32.ofNat i)] 2)) (s₁.setTop (mkF m 0 #[.val (.ref t), .val (.int (Int32.ofNat i))] [])) := entry rfl
  have c2 : Steps p.tables e below (s₁.setTop (entryFrame m #[.ref t, .int (Int32.ofNat i)] 2)) (s₁.setTop (mkF m 3 #[.val (.ref t), .val (.int (Int32.ofNat i))] [.int (Int32.ofNat V.slots.size), .int (Int32.ofNat i)])) := c1.trans (by
    refine XS.iloadN X0.here hexec rfl (hb hbytes d0) rfl ?_
    refine XS.aloadN X0.here hexec rfl (hb hbytes d1) rfl rfl ?_
    refine X0.alen hexec (hV.mv X0.warmed.alike hh0) rfl rfl (hb hbytes d2) ?_
    exact Steps.refl _)
  obtain ⟨v3, T3, X3, E3, g3⟩ := X0.callS hexec (JO.Str_checkIndex.law l (Int32.ofNat i) (Int32.ofNat V.slots.size) fm) hown (wks W (staticW "java/lang/StringLatin1" 9 JO.Str_checkIndex.yN)) (wk W JO.Str_checkIndex.tab) (W := 0) (Nat.le_of_ble_eq_true rfl) (Nat.le_of_ble_eq_true rfl) (Nat.le_refl _) (Nat.le_refl _) (g := (mkF m 3 #[.val (.ref t), .val (.int (Int32.ofNat i))] [.int (Int32.ofNat V.slots.size), .int (Int32.ofNat i)])) rfl (by rw [hml]; rfl) c2 (argsL := [.int (Int32.ofNat i), .int (Int32.ofNat V.slots.size)]) (rest := []) rfl rfl (by show 2 * 0 + 0 ≤ _; decide) (hb hbytes d3) (⟨rfl, rf, s1.there X0.warmed.alike hh0, Int32.ofNat_not_neg (by omega), lt32 v31 hi⟩)
  obtain ⟨rfl, q3⟩ := E3
  have hh3 := q3.trans hh0
  have c4 : Steps p.tables e below (s₁.setTop (entryFrame m #[.ref t, .int (Int32.ofNat i)] 2)) (T3.setTop (mkF m 14 #[.val (.ref t), .val (.int (Int32.ofNat i))] [.int (chr8 u)])) := Steps.trans g3 (by
    refine XS.aloadN X3.here hexec rfl (hb hbytes d6) rfl rfl ?_
    refine XS.iloadN X3.here hexec rfl (hb hbytes d7) rfl ?_
    refine X3.aget hexec (hV.mv X3.warmed.alike hh3) rfl hu rfl rfl (hb hbytes d8) ?_
    refine sipushV X3.here hexec rfl 255 (hb hbytes d9) (by decide) ?_
    refine XS.iand X3.here hexec rfl (hb hbytes d12) rfl ?_
    refine i2c X3.here hexec rfl (hb hbytes d13) rfl ?_
    exact Steps.refl _)
  exact ⟨T3, some (.int (chr8 u)), _, _, _, X3, rfl, rfl, rfl, (fun h => by cases h), ⟨rfl, hh3⟩, fun fs hl => c4.trans (X3.ireturnOut hexec hret (narrow_c _) (Or.inr (Or.inr (Or.inr (Or.inl rfl)))) (hb hbytes d14) hl)⟩
end LChA
end StrChars
namespace StrChars.Road
open Jvm Sem ClassFile Op Lib Jvm.Stand Jvm.Free Jvm.Free.XT
open Jvm.Lib.Cold (StaticIs)
theorem consq {a : Array Value} {s : State} {c : Jvm.Cond} {L : List Jvm.Cond} (h0 : c.before a s = true) (h : ∀ w ∈ L, w.before a s = true) : ∀ w ∈ c :: L, w.before a s = true := fun w hw => (List.mem_cons.mp hw).elim (fun e => e ▸ h0) (h w)
/-- the words of String.length(), either coding -/
abbrev wordsLen : List Jvm.Cond := [.code Len.yN Len.yB 1 (some .int), .initialized ST, .fieldLink ST 9 ST "value" "[B", .fieldLink ST 38 ST "COMPACT_STRINGS" "Z", .fieldLink ST 15 ST "coder" "B", .code Cdr.yN Cdr.yB 1 (some .byte), .methodLink ST 335 Cdr.yN, .declares Cdr.yN, .selects ST Cdr.yN Cdr.yN, .instanceMethod Cdr.yN]
theorem tabLen_of {a : Array Value} {s : State} (h : ∀ w ∈ wordsLen, w.before a s = true) : Len.tab.before a s = true := by
  have hc : Cdr.tab.before a s = true := unparts (wk h (.code Cdr.yN Cdr.yB 1 (some .byte))) (wks h (.initialized Cdr.yN.cls :: Cdr.site))
  have q := consq hc h
  exact unparts (wk q (.code Len.yN Len.yB 1 (some .int))) (wks q (.initialized Len.yN.cls :: Len.site))
theorem movedLen {Z s : State} {a0 args : Array Value} (hZ : Z.Warmed39 s.vm) (hw : ∀ d ∈ wordsLen, d.before a0 Z = true) : ∀ d ∈ wordsLen, d.before args s = true := fun d hd => by
  have q := hw d hd
  have t : ∀ d ∈ wordsLen, d = .arrayClass .byte ∨ (d.onTables && d.keepsFace) = true := by decide +kernel
  rcases t d hd with rfl | t
  · exact RoadKit.mvA hZ q
  · exact RoadKit.mv hZ q t
/-- the bytes of the chars cs, low before high -/
def wideBytes : List Int32 → List Value
  | [] => []
  | c :: cs => .int (lo8 c) :: .int (hi8 c) :: wideBytes cs
theorem wide_lo (d : Value) : ∀ (cs : List Int32) (j : Nat), j < cs.length → (wideBytes cs).getD (2 * j) d = .int (lo8 (cs.getD j 0))
  | [], j, h => absurd h (Nat.not_lt_zero j)
  | c :: cs, 0, _ => rfl
  | c :: cs, j + 1, h => by
    have q := wide_lo d cs j (by simpa using h)
    rw [show 2 * (j + 1) = 2 * j + 1 + 1 from by omega]
    simpa [wideBytes] using q
theorem wide_hi (d : Value) : ∀ (cs : List Int32) (j : Nat), j < cs.length → (wideBytes cs).getD (2 * j + 1) d = .int (hi8 (cs.getD j 0))
  | [], j, h => absurd h (Nat.not_lt_zero j)
  | c :: cs, 0, _ => rfl
  | c :: cs, j + 1, h => by
    have q := wide_hi d cs j (by simpa using h)
    rw [show 2 * (j + 1) + 1 = 2 * j + 1 + 1 + 1 from by omega]
    simpa [wideBytes] using q
theorem low_at (d : Value) (cs : List Int32) (j : Nat) (h : j < cs.length) : (cs.map fun c => Value.int (lo8 c)).getD j d = .int (lo8 (cs.getD j 0)) := by
  simp [List.getD_eq_getElem?_getD, h]
/-- an array of N2 bytes vs codes the chars cs by the coder cd -/
def CodA (cs : List Int32) (cd N2 : Int32) (vs : List Value) : Prop := (cd = 0 ∧ N2 = Int32.ofNat cs.length ∧ vs = (cs.map fun c => Value.int (lo8 c)) ∧ ∀ c ∈ cs, ¬ 255 < c) ∨ (cd = 1 ∧ N2 = Int32.ofNat (2 * cs.length) ∧ vs = wideBytes cs ∧ ∃ c ∈ cs, 255 < c)
theorem CodA.cod {cs : List Int32} {cd N2 : Int32} {vs : List Value} {V : Cell} (h : CodA cs cd N2 vs) (hn : 2 * cs.length < 2 ^ 31) (hs : V.slots.size = N2.toNatClampNeg) (hv : RoadKit.Has V vs (.int 0)) : Cod cd cs.length (fun j => cs.getD j 0) V := by
  rcases h with ⟨rfl, rfl, rfl, h⟩ | ⟨rfl, rfl, rfl, c, hc, hw⟩
  · rw [n32 (by omega)] at hs
    exact Or.inl ⟨rfl, hs, fun j hj => ⟨by rw [hv j (by omega), low_at _ _ _ hj], by
      have e : cs.getD j 0 = cs[j] := by simp [List.getD_eq_getElem?_getD, hj]
      show ¬ 255 < cs.getD j 0
      rw [e]; exact h _ (List.getElem_mem _)⟩⟩
  · rw [n32 (by omega)] at hs
    obtain ⟨j, hj, rfl⟩ := List.getElem_of_mem hc
    exact Or.inr ⟨rfl, hs, fun j hj => ⟨by rw [hv _ (by omega), wide_lo _ _ _ hj], by rw [hv _ (by omega), wide_hi _ _ _ hj]⟩, j, hj, by
      have e : cs.getD j 0 = cs[j] := by simp [List.getD_eq_getElem?_getD, hj]
      show 255 < cs.getD j 0
      rw [e]; exact hw⟩
/-- an object of exactly java/lang/String, its two fields found: as the laws ask it -/
theorem strObj {Z U : State} {a0 : Array Value} {kI : Nat} (wi : (Jvm.Cond.instantiable ST kI).before a0 Z = true) (al : Z.vm.Alike U.vm) {x : Addr} {v0 c0 : Value} (E : RoadKit.Exa Z U.heap x ST) (V : RoadKit.Fld Z U.heap x ST "value" "[B" v0) (C : RoadKit.Fld Z U.heap x ST "coder" "B" c0) :
    ∃ (D : Cell) (fV fC : Field), Blank ST x D U ∧ Found ST "value" "[B" fV U ∧ Found ST "coder" "B" fC U ∧ D.slots[fV.slot]? = some v0 ∧ D.slots[fC.slot]? = some c0 ∧ RoadKit.slotOf Z ST "value" "[B" = fV.slot ∧ RoadKit.slotOf Z ST "coder" "B" = fC.slot := by
  obtain ⟨D, cfV, kV, iV, fV, hD, gV, stV, knV, obV, asV, slV⟩ := V
  obtain ⟨D', cfC, kC, iC, fC, hD', gC, stC, -, -, asC, slC⟩ := C
  cases hD.symm.trans hD'
  obtain ⟨D2, kD, e1, e2, e3, e4, e5⟩ := E
  cases hD.symm.trans e1
  obtain ⟨c2, k2, i1, i2, i3, -⟩ := Cond.instantiable_spec wi
  cases e2.symm.trans i1
  cases e3.symm.trans i2
  obtain ⟨kU, u1, u2⟩ := al.2.2 _ _ e3
  exact ⟨D, fV, fC, ⟨hD, ⟨knV, fun q hq => by rw [hq] at obV; cases obV⟩, by rw [al.findClass]; exact e2, kU, u1, by rw [u2]; exact i3, by rw [u2]; exact e5 i3⟩, ⟨SBG.found_only al ⟨cfV, kV, iV, gV⟩, stV⟩, ⟨SBG.found_only al ⟨cfC, kC, iC, gC⟩, stC⟩, slV, slC, by simp [RoadKit.slotOf, gV], by simp [RoadKit.slotOf, gC]⟩
theorem sta_is {Z U : State} (al : Z.vm.Alike U.vm) {C n d : String} {v : Value} (S : RoadKit.Sta Z U.heap C n d v) : StaticIs U C n d v := by
  obtain ⟨cfS, iS, kS, fS, st, cS, t1, t2, t3, t4, t5, t6, t7⟩ := S
  exact StaticIs.there (s := { Z with heap := U.heap }) ⟨cfS, iS, kS, fS, st, cS, t1, t2, t3, t4, t5, (fun q => by rw [q] at t6; cases t6), t7⟩ al rfl
/-- **length() OF SUCH A STRING** -/
theorem lenW {p : Program} {l : Launch} {e : Env} {R : Room} {s : State} {args : Array Value} {below : List Frame} {len W : Nat} {Z : State} {a0 : Array Value} {h : Heap} (hZ : Z.Warmed39 s.vm) (hw : ∀ d ∈ wordsLen, d.before a0 Z = true) {kI : Nat} (wi : (Jvm.Cond.instantiable ST kI).before a0 Z = true)
    {x t : Addr} {kb : ClassId} {cs : List Int32} {cd N2 z : Int32} {vs : List Value} (E : RoadKit.Exa Z h x ST) (V : RoadKit.Fld Z h x ST "value" "[B" (.ref t)) (C : RoadKit.Fld Z h x ST "coder" "B" (.int cd)) (K : RoadKit.Arv Z h t kb .byte N2 vs (.int 0)) (hc : CodA cs cd N2 vs) (hb : ∀ c ∈ cs, ¬ c < 0 ∧ ¬ (65535 : Int32) < c)
    (S : RoadKit.Sta Z h ST "COMPACT_STRINGS" "Z" (.int z)) (hz : ¬ z = 0) (l2 : cs.length ≤ 4000) (hfr : 2 ≤ R.frames) (hlo : W + 25 ≤ R.locals) :
    Back l R p e below s args (⟨"java/lang/String", "length", "()I"⟩ : MethodName) len W (fun P a => a = #[.ref x] ∧ P.U.heap = h ∧ P.cells + 0 ≤ R.cells ∧ P.slots + 0 ≤ R.slots)
      (fun P _ v B => ∃ L, (v = some (.int (Int32.ofNat cs.length)) ∧ L = [] ∧ B.U.heap = h) ∧ B.locs = P.locs ++ L ∧ B.cells = P.cells + 0 ∧ B.slots = P.slots + 0) := by
  obtain ⟨A, K1, K2, K3, K4, K5, K6⟩ := K
  have hcod := hc.cod (by omega) K3 K5
  intro m meth c P g ig mk a X hg hsize hdg hW hn hp'
  obtain ⟨rfl, rfl, r1, r2⟩ := hp'
  have al : Z.vm.Alike P.U.vm := hZ.alike.trans X.warmed.alike
  obtain ⟨D, fV, fC, hB, F1, F2, g1, g2, -, -⟩ := strObj wi al E V C
  have hx : Txt x t A cd cs.length (fun j => cs.getD j 0) P.U := ⟨⟨_, hB.2.2.1, D, hB.1, rfl, by cases q : D.vm <;> first | rfl | exact absurd q (hB.2.1.2 _)⟩, Has.of hB F1 g1, Has.of hB F2 g2, ⟨K1.1, State.isArrayOf_alike al K1.2.1, K1.2.2, by rcases hcod with ⟨-, q, -⟩ | ⟨-, q, -⟩ <;> omega⟩, hcod, fun j hj => by
    have e : cs.getD j 0 = cs[j] := by simp [List.getD_eq_getElem?_getD, hj]
    show ¬ cs.getD j 0 < 0 ∧ ¬ 65535 < cs.getD j 0
    rw [e]; exact hb _ (List.getElem_mem _)⟩
  obtain ⟨v, B, X', ⟨⟨hv, hh⟩, hl, hk, hs⟩, st⟩ := Len.pays x t A cd cs.length (fun j => cs.getD j 0) z (tabLen_of (movedLen hZ hw)) hfr hlo m meth c P g ig mk _ X hg hsize hdg hW hn ⟨r1, r2, rfl, hx, sta_is al S, hz⟩
  exact ⟨v, B, X', ⟨[], ⟨hv, rfl, hh⟩, hl, hk, hs⟩, st⟩
end StrChars.Road
namespace StrChars
open Jvm Sem ClassFile Op Lib Jvm.Stand Jvm.Free.XT Jvm.Free.ALB Jvm.Free.JM Jvm.Free
open Jvm.Lib.Cold (StaticIs)
namespace Emp
def yN : MethodName := ⟨"java/lang/String", "isEmpty", "()Z"⟩
abbrev yB : ByteArray := jdk_42_method_55_code
theorem d0 : decode yB 0 = .ok (.aload_n 0, 1) := by decide +kernel
theorem d1 : decode yB 1 = .ok (.getfield 9, 3) := by decide +kernel
theorem d4 : decode yB 4 = .ok (.arraylength, 1) := by decide +kernel
theorem d5 : decode yB 5 = .ok (.ifCond (.ne) 7, 3) := by decide +kernel
theorem d8 : decode yB 8 = .ok (.iconst 1, 1) := by decide +kernel
theorem d9 : decode yB 9 = .ok (.goto 4, 3) := by decide +kernel
theorem d12 : decode yB 12 = .ok (.iconst 0, 1) := by decide +kernel
theorem d13 : decode yB 13 = .ok (.ireturn, 1) := by decide +kernel
def site : List Cond := [.fieldLink "java/lang/String" 9 "java/lang/String" "value" "[B"]
def tab : Cond := tabOf yN yB 1 (some .boolean) site
def P (x t : Addr) (V : Cell) (cd : Int32) (n : Nat) (f : Nat → Int32) (args : Array Value) (s : State) : Prop := args = #[.ref x] ∧ Txt x t V cd n f s
def E (n : Nat) (r : Option Value) (s u : State) : Prop := XT.PureE (some (.int (if n = 0 then 1 else 0))) r s u
/-- isEmpty() of a String of n chars -/
theorem law (l : Launch) (x t : Addr) (V : Cell) (cd : Int32) (n : Nat) (f : Nat → Int32) : Law l yN 1 0 0 0 yB 1 (some .boolean) site (P x t V cd n f) (E n) [] 0 0 := by
  refine Law.of_walk (plainFor_of_name (by decide +kernel)) (by decide +kernel) (by decide +kernel) (by decide) (fun _ _ h => by rw [h.1]; rfl) (fun _ U U' hal hh h => ⟨h.1, h.2.mv hal hh⟩) (fun r U U' V V' h1 hal h2 h => XT.PureE.mv r U U' V V' h1 hal h2 h) ?_
  intro p e s m args below meth c s₁ X0 hexec hbytes hml hret hlk hnm hown hh0 W hP
  obtain ⟨rfl, hx⟩ := hP
  have v31 := hx.2.2.2.1.2.2.2
  have c1 : Steps p.tables e below (s₁.setTop (entryFrame m #[.ref x] 1)) (s₁.setTop (mkF m 1 #[.val (.ref x)] [.ref x])) := Steps.trans (entry rfl) (by
    show Steps p.tables e below (s₁.setTop (mkF m 0 #[.val (.ref x)] [])) _
    refine XS.aloadN X0.here hexec rfl (hb hbytes d0) rfl rfl ?_
    exact Steps.refl _)
  obtain ⟨T2, X2, q2, st2⟩ := X0.hget hexec hown (wk W (.fieldLink "java/lang/String" 9 "java/lang/String" "value" "[B")) (hx.mv X0.warmed.alike hh0).2.1 (g := (mkF m 1 #[.val (.ref x)] [.ref x])) rfl (rest := []) rfl (hb hbytes d1)
  have hh2 := q2.trans hh0
  have hx2 := hx.mv X2.warmed.alike hh2
  have c3 : Steps p.tables e below (s₁.setTop (entryFrame m #[.ref x] 1)) (T2.setTop (mkF m 5 #[.val (.ref x)] [.int (Int32.ofNat V.slots.size)])) := (c1.trans (st2 _ (Steps.refl _))).trans (by
    refine X2.alen hexec hx2.2.2.2.1 rfl rfl (hb hbytes d4) ?_
    exact Steps.refl _)
  have hz : V.slots.size = 0 ↔ n = 0 := by
    rcases hx.2.2.2.2.1 with ⟨-, q, -⟩ | ⟨-, q, -⟩ <;> omega
  by_cases h0 : n = 0
  · have c4 : Steps p.tables e below (s₁.setTop (entryFrame m #[.ref x] 1)) (T2.setTop (mkF m 13 #[.val (.ref x)] [.int 1])) := c3.trans (by
      refine XS.ifNo X2.here hexec rfl (hb hbytes d5) rfl (i0_ne_f (by rw [hz.mpr h0]; rfl)) ?_
      refine iconstV X2.here hexec rfl 1 (hb hbytes d8) (by decide) ?_
      refine XS.goto X2.here hexec rfl (pc0 := 9) rfl (hb hbytes d9) (by decide) rfl ?_
      exact Steps.refl _)
    exact ⟨T2, some (.int 1), _, _, _, X2, rfl, rfl, rfl, (fun h => by cases h), ⟨by rw [if_pos h0], hh2⟩, fun fs hl => c4.trans (X2.ireturnOut hexec hret rfl (Or.inr (Or.inl rfl)) (hb hbytes d13) hl)⟩
  · have c4 : Steps p.tables e below (s₁.setTop (entryFrame m #[.ref x] 1)) (T2.setTop (mkF m 13 #[.val (.ref x)] [.int 0])) := c3.trans (by
      refine XS.ifYes X2.here hexec rfl (pc0 := 5) rfl (hb hbytes d5) rfl (i0_ne_t (nz32 v31 (by omega))) (by decide) rfl ?_
      refine iconstV X2.here hexec rfl 0 (hb hbytes d12) (by decide) ?_
      exact Steps.refl _)
    exact ⟨T2, some (.int 0), _, _, _, X2, rfl, rfl, rfl, (fun h => by cases h), ⟨by rw [if_neg h0], hh2⟩, fun fs hl => c4.trans (X2.ireturnOut hexec hret rfl (Or.inr (Or.inl rfl)) (hb hbytes d13) hl)⟩
theorem pays {l : Launch} {R : Room} {p : Program} {e : Env} {below : List Frame} {s : State} {sargs : Array Value} {len W : Nat} (x t : Addr) (V : Cell) (cd : Int32) (n : Nat) (f : Nat → Int32) (htab : tab.before sargs s = true) (hfr : 1 ≤ R.frames) (hlo : W + 12 ≤ R.locals) :
    Back l R p e below s sargs yN len W (fun A₁ a₁ => A₁.cells + 0 ≤ R.cells ∧ A₁.slots + 0 ≤ R.slots ∧ P x t V cd n f a₁ A₁.U) (fun A₁ _ v₁ B₁ => E n v₁ A₁.U B₁.U ∧ B₁.locs = A₁.locs ++ [] ∧ B₁.cells = A₁.cells + 0 ∧ B₁.slots = A₁.slots + 0) :=
  (law l x t V cd n f).pays htab hfr (by omega)
end Emp
end StrChars
namespace StrChars.Road
open Jvm Sem ClassFile Op Lib Jvm.Stand Jvm.Free Jvm.Free.XT
open Jvm.Lib.Cold (StaticIs)
/-- the words of String.isEmpty() -/
abbrev wordsEmp : List Jvm.Cond := [.code Emp.yN Emp.yB 1 (some .boolean), .initialized ST, .fieldLink ST 9 ST "value" "[B"]
theorem tabEmp_of {a : Array Value} {s : State} (h : ∀ w ∈ wordsEmp, w.before a s = true) : Emp.tab.before a s = true := unparts (wk h (.code Emp.yN Emp.yB 1 (some .boolean))) (wks h (.initialized Emp.yN.cls :: Emp.site))
theorem movedEmp {Z s : State} {a0 args : Array Value} (hZ : Z.Warmed39 s.vm) (hw : ∀ d ∈ wordsEmp, d.before a0 Z = true) : ∀ d ∈ wordsEmp, d.before args s = true := fun d hd => by
  have t : ∀ d ∈ wordsEmp, (d.onTables && d.keepsFace) = true := by decide +kernel
  exact RoadKit.mv hZ (hw d hd) (t d hd)
/-- the road's facts of a String, as the laws ask it -/
theorem txt_of {Z U : State} {a0 : Array Value} {kI : Nat} (wi : (Jvm.Cond.instantiable ST kI).before a0 Z = true) (al : Z.vm.Alike U.vm) {x t : Addr} {kb : ClassId} {cs : List Int32} {cd N2 : Int32} {vs : List Value} (E : RoadKit.Exa Z U.heap x ST) (V : RoadKit.Fld Z U.heap x ST "value" "[B" (.ref t)) (C : RoadKit.Fld Z U.heap x ST "coder" "B" (.int cd)) (K : RoadKit.Arv Z U.heap t kb .byte N2 vs (.int 0)) (hc : CodA cs cd N2 vs) (hb : ∀ c ∈ cs, ¬ c < 0 ∧ ¬ (65535 : Int32) < c) (l2 : cs.length ≤ 4000) :
    ∃ A, Txt x t A cd cs.length (fun j => cs.getD j 0) U := by
  obtain ⟨A, K1, K2, K3, K4, K5, K6⟩ := K
  have hcod := hc.cod (by omega) K3 K5
  obtain ⟨D, fV, fC, hB, F1, F2, g1, g2, -, -⟩ := strObj wi al E V C
  exact ⟨A, ⟨_, hB.2.2.1, D, hB.1, rfl, by cases q : D.vm <;> first | rfl | exact absurd q (hB.2.1.2 _)⟩, Has.of hB F1 g1, Has.of hB F2 g2, ⟨K1.1, State.isArrayOf_alike al K1.2.1, K1.2.2, by rcases hcod with ⟨-, q, -⟩ | ⟨-, q, -⟩ <;> omega⟩, hcod, fun j hj => by
    have e : cs.getD j 0 = cs[j] := by simp [List.getD_eq_getElem?_getD, hj]
    show ¬ cs.getD j 0 < 0 ∧ ¬ 65535 < cs.getD j 0
    rw [e]; exact hb _ (List.getElem_mem _)⟩
/-- **isEmpty() OF SUCH A STRING** -/
theorem empW {p : Program} {l : Launch} {e : Env} {R : Room} {s : State} {args : Array Value} {below : List Frame} {len W : Nat} {Z : State} {a0 : Array Value} {h : Heap} (hZ : Z.Warmed39 s.vm) (hw : ∀ d ∈ wordsEmp, d.before a0 Z = true) {kI : Nat} (wi : (Jvm.Cond.instantiable ST kI).before a0 Z = true)
    {x t : Addr} {kb : ClassId} {cs : List Int32} {cd N2 : Int32} {vs : List Value} (E : RoadKit.Exa Z h x ST) (V : RoadKit.Fld Z h x ST "value" "[B" (.ref t)) (C : RoadKit.Fld Z h x ST "coder" "B" (.int cd)) (K : RoadKit.Arv Z h t kb .byte N2 vs (.int 0)) (hc : CodA cs cd N2 vs) (hb : ∀ c ∈ cs, ¬ c < 0 ∧ ¬ (65535 : Int32) < c) (l2 : cs.length ≤ 4000) (hfr : 1 ≤ R.frames) (hlo : W + 12 ≤ R.locals) :
    Back l R p e below s args (⟨"java/lang/String", "isEmpty", "()Z"⟩ : MethodName) len W (fun P a => a = #[.ref x] ∧ P.U.heap = h ∧ P.cells + 0 ≤ R.cells ∧ P.slots + 0 ≤ R.slots)
      (fun P _ v B => ∃ L, (v = some (.int (if cs.length = 0 then 1 else 0)) ∧ L = [] ∧ B.U.heap = h) ∧ B.locs = P.locs ++ L ∧ B.cells = P.cells + 0 ∧ B.slots = P.slots + 0) := by
  intro m meth c P g ig mk a X hg hsize hdg hW hn hp'
  obtain ⟨rfl, rfl, r1, r2⟩ := hp'
  have al : Z.vm.Alike P.U.vm := hZ.alike.trans X.warmed.alike
  obtain ⟨A, hx⟩ := txt_of wi al E V C K hc hb l2
  obtain ⟨v, B, X', ⟨⟨hv, hh⟩, hl, hk, hs⟩, st⟩ := Emp.pays x t A cd cs.length (fun j => cs.getD j 0) (tabEmp_of (movedEmp hZ hw)) hfr hlo m meth c P g ig mk _ X hg hsize hdg hW hn ⟨r1, r2, rfl, hx⟩
  exact ⟨v, B, X', ⟨[], ⟨hv, rfl, hh⟩, hl, hk, hs⟩, st⟩
end StrChars.Road
namespace StrChars
open Jvm Sem ClassFile Op Lib Jvm.Stand Jvm.Free.XT Jvm.Free.ALB Jvm.Free.JM Jvm.Free
open Jvm.Lib.Cold (StaticIs)
namespace ChN
def yN : MethodName := ⟨"java/lang/String", "charAt", "(I)C"⟩
abbrev yB : ByteArray := jdk_42_method_56_code
theorem d0 : decode yB 0 = .ok (.aload_n 0, 1) := by decide +kernel
theorem d1 : decode yB 1 = .ok (.invokevirtual 492, 3) := by decide +kernel
theorem d4 : decode yB 4 = .ok (.ifCond (.eq) 12, 3) := by decide +kernel
theorem d7 : decode yB 7 = .ok (.aload_n 0, 1) := by decide +kernel
theorem d8 : decode yB 8 = .ok (.getfield 9, 3) := by decide +kernel
theorem d11 : decode yB 11 = .ok (.iload_n 1, 1) := by decide +kernel
theorem d12 : decode yB 12 = .ok (.invokestatic 495, 3) := by decide +kernel
theorem d15 : decode yB 15 = .ok (.ireturn, 1) := by decide +kernel
def site : List Cond := [.fieldLink "java/lang/String" 9 "java/lang/String" "value" "[B", IsL.tab, LChA.tab] ++ virtW "java/lang/String" 492 "java/lang/String" IsL.yN IsL.yN ++ staticW "java/lang/String" 495 LChA.yN
def tab : Cond := tabOf yN yB 2 (some .char) site
def P (x t : Addr) (V : Cell) (n : Nat) (f : Nat → Int32) (z : Int32) (fm : Value) (i : Nat) (args : Array Value) (s : State) : Prop := args = #[.ref x, .int (Int32.ofNat i)] ∧ Txt x t V 0 n f s ∧ i < n ∧ StaticIs s "java/lang/String" "COMPACT_STRINGS" "Z" (.int z) ∧ ¬ z = 0 ∧ StaticIs s "jdk/internal/util/Preconditions" "SIOOBE_FORMATTER" "Ljava/util/function/BiFunction;" fm ∧ fm.isRef = true
def E (f : Nat → Int32) (i : Nat) (r : Option Value) (s u : State) : Prop := XT.PureE (some (.int (f i))) r s u
/-- charAt(i) of a Latin-1 String of n chars, i < n: f i -/
theorem law (l : Launch) (x t : Addr) (V : Cell) (n : Nat) (f : Nat → Int32) (z : Int32) (fm : Value) (i : Nat) : Law l yN 2 1 3 40 yB 2 (some .char) site (P x t V n f z fm i) (E f i) [] 0 0 := by
  refine Law.of_walk (plainFor_of_name (by decide +kernel)) (by decide +kernel) (by decide +kernel) (by decide) (fun _ _ h => by rw [h.1]; rfl) (fun _ U U' hal hh h => ⟨h.1, h.2.1.mv hal hh, h.2.2.1, h.2.2.2.1.there hal hh, h.2.2.2.2.1, h.2.2.2.2.2.1.there hal hh, h.2.2.2.2.2.2⟩) (fun r U U' V V' h1 hal h2 h => XT.PureE.mv r U U' V V' h1 hal h2 h) ?_
  intro p e s m args below meth c s₁ X0 hexec hbytes hml hret hlk hnm hown hh0 W hP
  obtain ⟨rfl, hx, hi, s1, hz, s3, rf⟩ := hP
  have v31 := hx.2.2.2.1.2.2.2
  have hr := hx.2.2.2.2.2 i hi
  have hx0 := hx.mv X0.warmed.alike hh0
  have c1 : Steps p.tables e below (s₁.setTop (entryFrame m #[.ref x, .int (Int32.ofNat i)] 2)) (s₁.setTop (mkF m 1 #[.val (.ref x), .val (.int (Int32.ofNat i))] [.ref x])) := Steps.trans (entry rfl) (by
    show Steps p.tables e below (s₁.setTop (mkF m 0 #[.val (.ref x), .val (.int (Int32.ofNat i))] [])) _
    refine XS.aloadN X0.here hexec rfl (hb hbytes d0) rfl rfl ?_
    exact Steps.refl _)
  obtain ⟨v2, T2, X2, E2, g2⟩ := X0.callV hexec (IsL.law l x 0 z) hown (wks W (virtW "java/lang/String" 492 "java/lang/String" IsL.yN IsL.yN)) rfl (by decide) (wk W IsL.tab) (W := 0) (Nat.le_of_ble_eq_true rfl) (Nat.le_of_ble_eq_true rfl) (Nat.le_refl _) (Nat.le_refl _) (hx0.1.fc X0.warmed.alike) hx0.1.is (g := (mkF m 1 #[.val (.ref x), .val (.int (Int32.ofNat i))] [.ref x])) rfl (by rw [hml]; rfl) c1 (argsL := []) (rest := []) rfl rfl (by show 2 * 0 + 0 ≤ _; decide) (hb hbytes d1) (⟨rfl, hx0.2.2.1, hx.2.2.2.2.1.cd, s1.there X0.warmed.alike hh0, hz⟩)
  obtain ⟨rfl, q2⟩ := E2
  have hh2 := q2.trans hh0
  have hx2 := hx.mv X2.warmed.alike hh2
  obtain ⟨-, k1, k2⟩ | ⟨k0, -⟩ := hx.2.2.2.2.1
  · have c3 : Steps p.tables e below (s₁.setTop (entryFrame m #[.ref x, .int (Int32.ofNat i)] 2)) (T2.setTop (mkF m 8 #[.val (.ref x), .val (.int (Int32.ofNat i))] [.ref x])) := Steps.trans g2 (by
      refine XS.ifNo X2.here hexec rfl (hb hbytes d4) rfl (i0_eq_f (by decide)) ?_
      refine XS.aloadN X2.here hexec rfl (hb hbytes d7) rfl rfl ?_
      exact Steps.refl _)
    obtain ⟨T4, X4, q4, st4⟩ := X2.hget hexec hown (wk W (.fieldLink "java/lang/String" 9 "java/lang/String" "value" "[B")) hx2.2.1 (g := (mkF m 8 #[.val (.ref x), .val (.int (Int32.ofNat i))] [.ref x])) rfl (rest := []) rfl (hb hbytes d8)
    have hh4 := q4.trans hh2
    have c5 : Steps p.tables e below (s₁.setTop (entryFrame m #[.ref x, .int (Int32.ofNat i)] 2)) (T4.setTop (mkF m 12 #[.val (.ref x), .val (.int (Int32.ofNat i))] [.int (Int32.ofNat i), .ref t])) := (c3.trans (st4 _ (Steps.refl _))).trans (by
      refine XS.iloadN X4.here hexec rfl (hb hbytes d11) rfl ?_
      exact Steps.refl _)
    obtain ⟨v6, T6, X6, E6, g6⟩ := X4.callS hexec (LChA.law l t V i (lo8 (f i)) fm) hown (wks W (staticW "java/lang/String" 495 LChA.yN)) (wk W LChA.tab) (W := 0) (Nat.le_of_ble_eq_true rfl) (Nat.le_of_ble_eq_true rfl) (Nat.le_refl _) (Nat.le_refl _) (g := (mkF m 12 #[.val (.ref x), .val (.int (Int32.ofNat i))] [.int (Int32.ofNat i), .ref t])) rfl (by rw [hml]; rfl) c5 (argsL := [.ref t, .int (Int32.ofNat i)]) (rest := []) rfl rfl (by show 2 * 0 + 0 ≤ _; decide) (hb hbytes d12) (⟨rfl, hx.2.2.2.1.mv X4.warmed.alike hh4, (k2 i hi).1, s3.there X4.warmed.alike hh4, rf⟩)
    obtain ⟨rfl, q6⟩ := E6
    rw [chr8_lo8 hr.1 (k2 i hi).2] at g6
    exact ⟨T6, some (.int (f i)), _, _, _, X6, rfl, rfl, rfl, (fun h => by cases h), ⟨rfl, q6.trans hh4⟩, fun fs hl => Steps.trans g6 (X6.ireturnOut hexec hret (narrow_ch hr.1 hr.2) (Or.inr (Or.inr (Or.inr (Or.inl rfl)))) (hb hbytes d15) hl)⟩
  · exact absurd k0 (by decide)
theorem pays {l : Launch} {R : Room} {p : Program} {e : Env} {below : List Frame} {s : State} {sargs : Array Value} {len W : Nat} (x t : Addr) (V : Cell) (n : Nat) (f : Nat → Int32) (z : Int32) (fm : Value) (i : Nat) (htab : tab.before sargs s = true) (hfr : 4 ≤ R.frames) (hlo : W + 53 ≤ R.locals) :
    Back l R p e below s sargs yN len W (fun A₁ a₁ => A₁.cells + 0 ≤ R.cells ∧ A₁.slots + 0 ≤ R.slots ∧ P x t V n f z fm i a₁ A₁.U) (fun A₁ _ v₁ B₁ => E f i v₁ A₁.U B₁.U ∧ B₁.locs = A₁.locs ++ [] ∧ B₁.cells = A₁.cells + 0 ∧ B₁.slots = A₁.slots + 0) :=
  (law l x t V n f z fm i).pays htab hfr (by omega)
end ChN
end StrChars
namespace StrChars.Road
open Jvm Sem ClassFile Op Lib Jvm.Stand Jvm.Free Jvm.Free.XT
open Jvm.Lib.Cold (StaticIs)
/-- the words of String.charAt(int), the Latin-1 road alone -/
abbrev wordsChN : List Jvm.Cond := [.code ChN.yN ChN.yB 2 (some .char), .initialized ST, .fieldLink ST 9 ST "value" "[B", .fieldLink ST 38 ST "COMPACT_STRINGS" "Z", .fieldLink ST 15 ST "coder" "B", .code IsL.yN IsL.yB 1 (some .boolean), .methodLink ST 492 IsL.yN, .declares IsL.yN, .selects ST IsL.yN IsL.yN, .instanceMethod IsL.yN,
  .methodLink ST 495 LChA.yN, .static LChA.yN, .code LChA.yN LChA.yB 2 (some .char), .initialized "java/lang/StringLatin1", .methodLink "java/lang/StringLatin1" 9 JO.Str_checkIndex.yN, .static JO.Str_checkIndex.yN, .code JO.Str_checkIndex.yN JO.Str_checkIndex.yB 2 none,
  .fieldLink ST 1053 "jdk/internal/util/Preconditions" "SIOOBE_FORMATTER" "Ljava/util/function/BiFunction;", .methodLink ST 1059 JC.PreCheck.yN, .static JC.PreCheck.yN, .code JC.PreCheck.yN JC.PreCheck.yB 3 (some .int), .initialized "jdk/internal/util/Preconditions"]
theorem tabChN_of {a : Array Value} {s : State} (h : ∀ w ∈ wordsChN, w.before a s = true) : ChN.tab.before a s = true := by
  have hp : JC.PreCheck.tab.before a s = true := unparts (wk h (.code JC.PreCheck.yN JC.PreCheck.yB 3 (some .int))) (wks h (.initialized JC.PreCheck.yN.cls :: JC.PreCheck.site))
  have qk := consq hp h
  have hk : JO.Str_checkIndex.tab.before a s = true := unparts (wk qk (.code JO.Str_checkIndex.yN JO.Str_checkIndex.yB 2 none)) (wks qk (.initialized JO.Str_checkIndex.yN.cls :: JO.Str_checkIndex.site))
  have ql := consq hk h
  have hl : LChA.tab.before a s = true := unparts (wk ql (.code LChA.yN LChA.yB 2 (some .char))) (wks ql (.initialized LChA.yN.cls :: LChA.site))
  have hi : IsL.tab.before a s = true := unparts (wk h (.code IsL.yN IsL.yB 1 (some .boolean))) (wks h (.initialized IsL.yN.cls :: IsL.site))
  have q := consq hi (consq hl h)
  exact unparts (wk q (.code ChN.yN ChN.yB 2 (some .char))) (wks q (.initialized ChN.yN.cls :: ChN.site))
theorem movedChN {Z s : State} {a0 args : Array Value} (hZ : Z.Warmed39 s.vm) (hw : ∀ d ∈ wordsChN, d.before a0 Z = true) : ∀ d ∈ wordsChN, d.before args s = true := fun d hd => by
  have t : ∀ d ∈ wordsChN, (d.onTables && d.keepsFace) = true := by decide +kernel
  exact RoadKit.mv hZ (hw d hd) (t d hd)
/-- **charAt(i) OF A LATIN-1 STRING**, i < n: the char -/
theorem chN {p : Program} {l : Launch} {e : Env} {R : Room} {s : State} {args : Array Value} {below : List Frame} {len W : Nat} {Z : State} {a0 : Array Value} {h : Heap} (hZ : Z.Warmed39 s.vm) (hw : ∀ d ∈ wordsChN, d.before a0 Z = true) {kI : Nat} (wi : (Jvm.Cond.instantiable ST kI).before a0 Z = true)
    {x t : Addr} {kb : ClassId} {cs : List Int32} {N2 z : Int32} {vs : List Value} {fm : Value} {i : Nat} {j : Int32} (E : RoadKit.Exa Z h x ST) (V : RoadKit.Fld Z h x ST "value" "[B" (.ref t)) (C : RoadKit.Fld Z h x ST "coder" "B" (.int 0)) (K : RoadKit.Arv Z h t kb .byte N2 vs (.int 0)) (hc : CodA cs 0 N2 vs) (hb : ∀ c ∈ cs, ¬ c < 0 ∧ ¬ (65535 : Int32) < c)
    (S : RoadKit.Sta Z h ST "COMPACT_STRINGS" "Z" (.int z)) (hz : ¬ z = 0) (F : RoadKit.Sta Z h "jdk/internal/util/Preconditions" "SIOOBE_FORMATTER" "Ljava/util/function/BiFunction;" fm) (rf : fm.isRef = true) (l2 : cs.length ≤ 4000) (hi : i < cs.length) (hj : j = Int32.ofNat i) (hfr : 4 ≤ R.frames) (hlo : W + 53 ≤ R.locals) :
    Back l R p e below s args (⟨"java/lang/String", "charAt", "(I)C"⟩ : MethodName) len W (fun P a => a = #[.ref x, .int j] ∧ P.U.heap = h ∧ P.cells + 0 ≤ R.cells ∧ P.slots + 0 ≤ R.slots)
      (fun P _ v B => ∃ L, (v = some (.int (cs.getD i 0)) ∧ L = [] ∧ B.U.heap = h) ∧ B.locs = P.locs ++ L ∧ B.cells = P.cells + 0 ∧ B.slots = P.slots + 0) := by
  subst hj
  intro m meth c P g ig mk a X hg hsize hdg hW hn hp'
  obtain ⟨rfl, rfl, r1, r2⟩ := hp'
  have al : Z.vm.Alike P.U.vm := hZ.alike.trans X.warmed.alike
  obtain ⟨A, hx⟩ := txt_of wi al E V C K hc hb l2
  obtain ⟨v, B, X', ⟨⟨hv, hh⟩, hl, hk, hs⟩, st⟩ := ChN.pays x t A cs.length (fun j => cs.getD j 0) z fm i (tabChN_of (movedChN hZ hw)) hfr hlo m meth c P g ig mk _ X hg hsize hdg hW hn ⟨r1, r2, rfl, hx, hi, sta_is al S, hz, sta_is al F, rf⟩
  exact ⟨v, B, X', ⟨[], ⟨hv, rfl, hh⟩, hl, hk, hs⟩, st⟩
/-- what backV says of its String, as the contracts of this text ask it: cs's low bytes, coder 0 -/
theorem codOf {cs : List Int32} {n : Nat} (hn : cs.length = n) (hb : ∀ c ∈ cs, ¬ 255 < c) : CodA cs 0 (Int32.ofNat n) ((cs.map lo8).map Value.int) := Or.inl ⟨rfl, by rw [hn], by simp [List.map_map, Function.comp_def], hb⟩
end StrChars.Road
end Jvm.Pilot.@@N@@

namespace Jvm.Pilot.@@N@@
open Jvm Jvm.ClassFile Sem Op Lib Jvm.Free Jvm.Stand Jvm.LawKit Jvm.RoadKit Bundle Jvm.Pilot.@@N@@.Jvm.D
section Kit
variable {p : Program} {l : Launch} {e : Env} {R : Room} {s : State} {m : MethodId} {args : Array Value} {below : List Frame} {meth : Method} {c : Code} {Z : State} {EL : List (String × Nat)} {own : String} {n0 : Nat} {bk : Addr → Prop} {h : Heap} {cells slots : Nat} {g g' : JFrame} {a0 : Array Value} {Q : Option Value → Heap → (Addr → Prop) → Prop}
/-- what a walk leaves: its answer, its heap, what may be booked -/
def EndW (s : State) (R : Room) (Z : State) (EL : List (String × Nat)) (n0 : Nat) (Q : Option Value → Heap → (Addr → Prop) → Prop) (o : Outcome) (U : State) : Prop :=
  ∃ v L bk', o = .returned v ∧ (Q v U.heap bk' ∧ Fr n0 L ∧ Old Z n0 U.heap ∧ CHv Z EL U.vm U.heap ∧ ∀ y, Bk Z EL U.vm U.heap y → bk' y) ∧ ReturnedEndW s o U L R.cells R.slots
/-- where a walk stands -/
def Pos (p : Program) (l : Launch) (e : Env) (R : Room) (s : State) (m : MethodId) (args : Array Value) (below : List Frame) (meth : Method) (c : Code) (Z : State) (EL : List (String × Nat)) (own : String) (n0 : Nat) (bk : Addr → Prop) (h : Heap) (cells slots : Nat) (vm0 : Vm) (T : State) (locs : List Loc) : Prop :=
  Stand p l e R (s.setVm vm0) m args below meth c T locs cells slots ∧ T.heap = h ∧ (∃ k0, s.Since vm0 k0 ∧ k0 ≤ h.size) ∧ Z.Warmed39 vm0 ∧ vm0.findClass own = some m.cls ∧ Fr n0 locs ∧ Old Z n0 h ∧ CHv Z EL vm0 h ∧ (∀ y, Bk Z EL vm0 h y → bk y) ∧ ∃ a0, EW Z a0 EL
/-- from here the walk ends, and leaves Q -/
def Run (p : Program) (l : Launch) (e : Env) (R : Room) (s : State) (m : MethodId) (args : Array Value) (below : List Frame) (meth : Method) (c : Code) (Z : State) (EL : List (String × Nat)) (own : String) (n0 : Nat) (bk : Addr → Prop) (h : Heap) (cells slots : Nat) (g : JFrame) (Q : Option Value → Heap → (Addr → Prop) → Prop) : Prop :=
  ∀ vm0 T locs, Pos p l e R s m args below meth c Z EL own n0 bk h cells slots vm0 T locs → ∃ U o, Steps p.tables e below (T.setTop g) U ∧ U.status = .running ∧ Ended U below o ∧ EndW s R Z EL n0 Q o U
/-- a body's contract -/
def Met (l : Launch) (Z : State) (EL : List (String × Nat)) (n0 : Nat) (bk : Addr → Prop) (y : MethodName) (bytes : ByteArray) (maxL : Nat) (ret : Option FieldType) (rm : Room) (as' : Array Value) (h : Heap) (Q : Option Value → Heap → (Addr → Prop) → Prop) (ws : List Jvm.Cond) : Prop :=
  MetFree l y (head1 (Jvm.Cond.code y bytes maxL ret :: ws) rm) (fun a U => a = as' ∧ Z.Warmed39 U.vm ∧ U.heap = h ∧ CHv Z EL U.vm h ∧ ∀ x, Bk Z EL U.vm h x → bk x) (fun _ _ _ _ _ => True) (fun _ U o U' => EndW U rm Z EL n0 Q o U')
theorem end_mono {s t : State} {o : Outcome} {L : List Loc} {k n k' n' : Nat} (H : ReturnedEndW s o t L k n) (hk : k ≤ k') (hn : n ≤ n') : ReturnedEndW s o t L k' n' := ⟨H.1, H.2.1, H.2.2.1, H.2.2.2.mono hk hn⟩
theorem Met.of {y : MethodName} {bytes : ByteArray} {maxL : Nat} {ret : Option FieldType} {rm : Room} {as' : Array Value} {ws : List Jvm.Cond} (hp : plainFor y = true) (hO : Old Z n0 h) (hE : EW Z a0 EL)
    (H : ∀ p e s m below meth c, p.tables.exec = Jvm.exec → c.code = bytes → c.maxLocals = maxL → meth.sig.returnType = ret → meth.locks = false → meth.name = y.name → Run p l e rm s m as' below meth c Z EL y.cls n0 bk h 0 0 (entryFrame m as' maxL) Q) : Met l Z EL n0 bk y bytes maxL ret rm as' h Q ws := by
  refine MetFree.of_bodySF hp hisR ?_
  intro p e s m args below meth c s₁ Bd hml hP hK
  obtain ⟨rfl, hZ, hh, hC, hB⟩ := hP
  have e0 : s₁.heap = h := by rw [← hh, Bd.state]; rfl
  exact H p e s m below meth c Bd.exec Bd.bytes hml Bd.returns Bd.notSynchronized (name_of_methodNamed Bd.named Bd.method).1 s.vm s₁ [] ⟨Stand.of_body Bd, e0, ⟨0, (State.WarmedH.refl s).since _, Nat.zero_le _⟩, hZ, findClass_of_methodNamed Bd.named, Fr.nil _, hO, hC, hB, _, hE⟩
/-- one pure step -/
theorem k_pure (st : ∀ T, At T m c below → ∀ t, Steps p.tables e below (T.setTop g') t → Steps p.tables e below (T.setTop g) t)
    (k : Run p l e R s m args below meth c Z EL own n0 bk h cells slots g' Q) : Run p l e R s m args below meth c Z EL own n0 bk h cells slots g Q := fun vm0 T locs P => by
  obtain ⟨U, o, h1, r⟩ := k vm0 T locs P
  exact ⟨U, o, st T P.1.here _ h1, r⟩
theorem k_cast (q : g = g') (k : Run p l e R s m args below meth c Z EL own n0 bk h cells slots g' Q) : Run p l e R s m args below meth c Z EL own n0 bk h cells slots g Q := q ▸ k
theorem k_more {cells' slots' : Nat} (hc : cells ≤ cells') (hs : slots ≤ slots') (k : Run p l e R s m args below meth c Z EL own n0 bk h cells' slots' g Q) : Run p l e R s m args below meth c Z EL own n0 bk h cells slots g Q := fun vm0 T locs P => k vm0 T locs ⟨P.1.more hc hs, P.2⟩
/-- one step that looks at the tables or the heap and moves no cell -/
theorem k_still (st : ∀ s' T locs, Stand p l e R s' m args below meth c T locs cells slots → T.heap = h → Z.Warmed39 s'.vm → s'.vm.findClass own = some m.cls → ∃ T', Stand p l e R s' m args below meth c T' locs cells slots ∧ T'.heap = h ∧ ∀ t, Steps p.tables e below (T'.setTop g') t → Steps p.tables e below (T.setTop g) t)
    (k : Run p l e R s m args below meth c Z EL own n0 bk h cells slots g' Q) : Run p l e R s m args below meth c Z EL own n0 bk h cells slots g Q := fun vm0 T locs P => by
  obtain ⟨X, e1, hS, hZ, ho, N, O, C, B, hE⟩ := P
  obtain ⟨T', X', e2, st'⟩ := st _ T locs X e1 hZ ho
  obtain ⟨U, o, h1, r⟩ := k vm0 T' locs ⟨X', e2, hS, hZ, ho, N, O, C, B, hE⟩
  exact ⟨U, o, st' _ h1, r⟩
/-- one step that makes cells -/
theorem k_grow {kc ks : Nat} {F : Heap → JFrame → Prop} (st : ∀ s' T locs, Stand p l e R s' m args below meth c T locs cells slots → T.heap = h → Z.Warmed39 s'.vm → s'.vm.findClass own = some m.cls → ∃ T' h' g', Stand p l e R s' m args below meth c T' locs (cells + kc) (slots + ks) ∧ T'.heap = h' ∧ Ext h h' ∧ F h' g' ∧ ∀ t, Steps p.tables e below (T'.setTop g') t → Steps p.tables e below (T.setTop g) t)
    (k : ∀ h' g', Old Z n0 h' → Ext h h' → F h' g' → Run p l e R s m args below meth c Z EL own n0 bk h' (cells + kc) (slots + ks) g' Q) : Run p l e R s m args below meth c Z EL own n0 bk h cells slots g Q := fun vm0 T locs P => by
  obtain ⟨X, e1, ⟨k0, hS, hk⟩, hZ, ho, N, O, C, B, hE⟩ := P
  obtain ⟨T', h', g', X', e2, E, hF, st'⟩ := st _ T locs X e1 hZ ho
  have hC := CHr.ext E C
  obtain ⟨U, o, h1, r⟩ := k h' g' (O.ext E) E hF vm0 T' locs ⟨X', e2, ⟨k0, hS, Nat.le_trans hk E.1⟩, hZ, ho, N, O.ext E, hC.1, fun y q => B y ((C.step fun _ _ _ q => E.2 _ _ q).2 y q), hE⟩
  exact ⟨U, o, st' _ h1, r⟩
/-- one step that writes one place of a cell that is ours -/
theorem k_write {a : Addr} {sl : Nat} {v : Value} (ge : n0 ≤ a) (nb : ¬ bk a)
    (st : ∀ s' T locs, Stand p l e R s' m args below meth c T locs cells slots → T.heap = h → Z.Warmed39 s'.vm → s'.vm.findClass own = some m.cls → ∃ T' h', Stand p l e R s' m args below meth c T' (locs ++ [⟨a, sl⟩]) cells slots ∧ T'.heap = h' ∧ Wr h h' a sl v ∧ ∀ t, Steps p.tables e below (T'.setTop g') t → Steps p.tables e below (T.setTop g) t)
    (k : ∀ h', Old Z n0 h' → Wr h h' a sl v → Run p l e R s m args below meth c Z EL own n0 bk h' cells slots g' Q) : Run p l e R s m args below meth c Z EL own n0 bk h cells slots g Q := fun vm0 T locs P => by
  obtain ⟨X, e1, ⟨k0, hS, hk⟩, hZ, ho, N, O, C, B, hE⟩ := P
  obtain ⟨T', h', X', e2, W, st'⟩ := st _ T locs X e1 hZ ho
  have sa : Safe Z EL vm0 h a := fun q => nb (B a q)
  have hC := C.wrStep W sa
  obtain ⟨U, o, h1, r⟩ := k h' (O.wr W ge) W vm0 T' _ ⟨X', e2, ⟨k0, hS, by rw [W.size]; exact hk⟩, hZ, ho, Fr.snoc X' N ge, O.wr W ge, hC.1, fun y q => B y (hC.2 y q), hE⟩
  exact ⟨U, o, st' _ h1, r⟩
/-- the end of a walk -/
theorem k_end {v : Option Value} (hlk : meth.locks = false) (hv : meth.sig.returnType = none → v = none) (hc : cells ≤ R.cells) (hs : slots ≤ R.slots) (hQ : Q v h bk)
    (st : ∀ s' T locs fs, Stand p l e R s' m args below meth c T locs cells slots → (∀ (f : JFrame) (acts : List Action), f.method = m → f.locked = none → f.entered = [] → (doReturn e (T.setTop f) acts v).1 = T.setFrames fs) → Steps p.tables e below (T.setTop g) (T.setFrames fs)) :
    Run p l e R s m args below meth c Z EL own n0 bk h cells slots g Q := fun vm0 T locs P => by
  obtain ⟨X, e1, ⟨k0, hS, hk⟩, hZ, ho, N, O, C, B, a0, hE⟩ := P
  obtain ⟨fs, hr, hrun, hended, hW⟩ := X.leaveW hS (by rw [e1]; exact hk) (v := v) hv hlk
  have A := CHv.at X hZ hE C
  have eh : (T.setFrames fs).heap = h := e1
  refine ⟨_, _, st _ T locs fs X hr, hrun, hended, v, locs, bk, rfl, ⟨?_, N, ?_, ?_, ?_⟩, end_mono hW hc hs⟩
  · rw [eh]; exact hQ
  · rw [eh]; exact O
  · rw [eh]; exact A.1
  · rw [eh]; exact fun y q => (A.2.2 y q).elim (B y) (fun z => absurd (Array.getElem?_eq_some_iff.mp (Bk.there q).choose_spec).1 (Nat.not_lt.mpr z))
/-! the steps -/
theorem k_getF (hx : p.tables.exec = Jvm.exec) {R0 O n d host : String} {index : Nat} (w : (Jvm.Cond.fieldLink own index R0 n d).before a0 Z = true ∨ (Jvm.Cond.fieldLinkNest own index R0 n d host).before a0 Z = true) (via : Via Z R0 O n d) {a : Addr} {v : Value} (F : Fld Z h a O n d v)
    (hg : g.method = m) {rest : List Value} (hs : g.stack = .ref a :: rest) (hd : decode c.code g.pc = .ok (.getfield index, 3)) (k : Run p l e R s m args below meth c Z EL own n0 bk h cells slots { g with pc := g.pc + 3, stack := v :: rest } Q) : Run p l e R s m args below meth c Z EL own n0 bk h cells slots g Q :=
  k_still (fun s' T locs X e1 hZ ho => getF X hx hZ ho w via e1 F hg hs hd) k
theorem k_getS (hx : p.tables.exec = Jvm.exec) {R0 O n d host : String} {index : Nat} (w : (Jvm.Cond.fieldLink own index R0 n d).before a0 Z = true ∨ (Jvm.Cond.fieldLinkNest own index R0 n d host).before a0 Z = true) (via : Via Z R0 O n d) {v : Value} (F : Sta Z h O n d v)
    (hg : g.method = m) (hd : decode c.code g.pc = .ok (.getstatic index, 3)) (k : Run p l e R s m args below meth c Z EL own n0 bk h cells slots { g with pc := g.pc + 3, stack := v :: g.stack } Q) : Run p l e R s m args below meth c Z EL own n0 bk h cells slots g Q :=
  k_still (fun s' T locs X e1 hZ ho => getS2 X hx hZ ho w via e1 F hg hd) k
theorem k_cast' (hx : p.tables.exec = Jvm.exec) {K : String} {index : Nat} (w : (Jvm.Cond.classLink own index K).before a0 Z = true) {a : Addr} (F : Ins Z h a K true) (hg : g.method = m) {rest : List Value} (hs : g.stack = .ref a :: rest) (hd : decode c.code g.pc = .ok (.checkcast index, 3))
    (k : Run p l e R s m args below meth c Z EL own n0 bk h cells slots { g with pc := g.pc + 3 } Q) : Run p l e R s m args below meth c Z EL own n0 bk h cells slots g Q :=
  k_still (fun s' T locs X e1 hZ ho => castY X hx hZ ho w e1 F hg hs hd) k
theorem k_instY (hx : p.tables.exec = Jvm.exec) {K : String} {index : Nat} (w : (Jvm.Cond.classLink own index K).before a0 Z = true) {a : Addr} (F : Ins Z h a K true) (hg : g.method = m) {rest : List Value} (hs : g.stack = .ref a :: rest) (hd : decode c.code g.pc = .ok (.instanceof index, 3))
    (k : Run p l e R s m args below meth c Z EL own n0 bk h cells slots { g with pc := g.pc + 3, stack := .int 1 :: rest } Q) : Run p l e R s m args below meth c Z EL own n0 bk h cells slots g Q :=
  k_still (fun s' T locs X e1 hZ ho => instY X hx hZ ho w e1 F hg hs hd) k
theorem k_instNo (hx : p.tables.exec = Jvm.exec) {K C : String} {index : Nat} (w : (Jvm.Cond.classLink own index K).before a0 Z = true) {a : Addr} (E : Exa Z h a C) (F : ∃ c t, Z.vm.findClass C = some c ∧ Z.vm.findClass K = some t ∧ Z.vm.assignable c t = false) (hg : g.method = m) {rest : List Value} (hs : g.stack = .ref a :: rest) (hd : decode c.code g.pc = .ok (.instanceof index, 3))
    (k : Run p l e R s m args below meth c Z EL own n0 bk h cells slots { g with pc := g.pc + 3, stack := .int 0 :: rest } Q) : Run p l e R s m args below meth c Z EL own n0 bk h cells slots g Q :=
  k_still (fun s' T locs X e1 hZ ho => instNo X hx hZ ho w e1 E F hg hs hd) k
theorem k_initO (hx : p.tables.exec = Jvm.exec) {idx : Nat} (w1 : (Jvm.Cond.methodLink own idx Lib.objectInit).before a0 Z = true) (w2 : (Jvm.Cond.instanceMethod Lib.objectInit).before a0 Z = true) (w3 : (Jvm.Cond.code Lib.objectInit ⟨#[0xb1]⟩ 1 none).before a0 Z = true)
    (hg : g.method = m) (hsize : g.locals.size = c.maxLocals) {a : Addr} {rest : List Value} (hs : g.stack = .ref a :: rest) (hd : decode c.code g.pc = .ok (.invokespecial idx, 3)) (hf : 1 ≤ R.frames) {W : Nat} (hW : 2 * g.monitorRoom + (rest.map fun v => v.category).sum ≤ W) (hl : W + 12 ≤ R.locals)
    (k : Run p l e R s m args below meth c Z EL own n0 bk h cells slots { g with pc := g.pc + 3, stack := rest } Q) : Run p l e R s m args below meth c Z EL own n0 bk h cells slots g Q :=
  k_still (fun s' T locs X e1 hZ ho => initO X hx hZ ho w1 w2 w3 e1 hg hsize hs hd hf hW hl) k
theorem k_ldcI (hx : p.tables.exec = Jvm.exec) {index : Nat} {v : Int32} (w : (Jvm.Cond.constant own index v).before a0 Z = true) (hg : g.method = m) (hd : decode c.code g.pc = .ok (.ldc index, 2))
    (k : Run p l e R s m args below meth c Z EL own n0 bk h cells slots { g with pc := g.pc + 2, stack := .int v :: g.stack } Q) : Run p l e R s m args below meth c Z EL own n0 bk h cells slots g Q :=
  k_still (fun s' T locs X e1 hZ ho => ⟨T, X, e1, fun t => X.ldcInt hx ho (mv hZ w) hg hd t⟩) k
theorem k_ldcWI (hx : p.tables.exec = Jvm.exec) {index : Nat} {v : Int32} (w : (Jvm.Cond.constant own index v).before a0 Z = true) (hg : g.method = m) (hd : decode c.code g.pc = .ok (.ldc_w index, 3))
    (k : Run p l e R s m args below meth c Z EL own n0 bk h cells slots { g with pc := g.pc + 3, stack := .int v :: g.stack } Q) : Run p l e R s m args below meth c Z EL own n0 bk h cells slots g Q :=
  k_still (fun s' T locs X e1 hZ ho => ⟨T, X, e1, fun t => X.ldcWInt hx ho (mv hZ w) hg hd t⟩) k
theorem k_ldc2J (hx : p.tables.exec = Jvm.exec) {index : Nat} {v : Int64} (w : (Jvm.Cond.constantLong own index v).before a0 Z = true) (hg : g.method = m) (hd : decode c.code g.pc = .ok (.ldc2_w index, 3))
    (k : Run p l e R s m args below meth c Z EL own n0 bk h cells slots { g with pc := g.pc + 3, stack := .long v :: g.stack } Q) : Run p l e R s m args below meth c Z EL own n0 bk h cells slots g Q :=
  k_still (fun s' T locs X e1 hZ ho => ⟨T, X, e1, fun t => X.ldc2Long hx ho (mv hZ w) hg hd t⟩) k
theorem k_instNull (hx : p.tables.exec = Jvm.exec) {K : String} {index : Nat} (w : (Jvm.Cond.classLink own index K).before a0 Z = true) (hg : g.method = m) {rest : List Value} (hs : g.stack = .null :: rest) (hd : decode c.code g.pc = .ok (.instanceof index, 3))
    (k : Run p l e R s m args below meth c Z EL own n0 bk h cells slots { g with pc := g.pc + 3, stack := .int 0 :: rest } Q) : Run p l e R s m args below meth c Z EL own n0 bk h cells slots g Q :=
  k_still (fun s' T locs X e1 hZ ho => ⟨T, X, e1, fun t => X.instanceofNull hx hg hs hd t⟩) k
theorem k_newO (hx : p.tables.exec = Jvm.exec) {C : String} {index n : Nat} (w : (Jvm.Cond.classLink own index C).before a0 Z = true) (wi : (Jvm.Cond.instantiable C n).before a0 Z = true) (wz : (Jvm.Cond.initialized C).before a0 Z = true)
    (hg : g.method = m) (hd : decode c.code g.pc = .ok (.new index, 3)) (hc : cells + 1 ≤ R.cells) (hl : slots + n ≤ R.slots)
    (k : ∀ h' a, a = h.size → Old Z n0 h' → Ext h h' → Exa Z h' a C → (∀ {O nm d : String} {ty : FieldType}, RoadKit.Laid Z a0 C O nm d → parseFieldDescriptor d = some ty → Fld Z h' a O nm d (defaultValue ty)) → (∃ cell : Cell, h'[a]? = some cell ∧ cell.vm = .none ∧ cell.monitor = {}) →
      Run p l e R s m args below meth c Z EL own n0 bk h' (cells + 1) (slots + n) { g with pc := g.pc + 3, stack := .ref a :: g.stack } Q) : Run p l e R s m args below meth c Z EL own n0 bk h cells slots g Q :=
  k_grow (F := fun h' g' => g' = { g with pc := g.pc + 3, stack := .ref h.size :: g.stack } ∧ Exa Z h' h.size C ∧ (∀ {O nm d : String} {ty : FieldType}, RoadKit.Laid Z a0 C O nm d → parseFieldDescriptor d = some ty → Fld Z h' h.size O nm d (defaultValue ty)) ∧ ∃ cell : Cell, h'[h.size]? = some cell ∧ cell.vm = .none ∧ cell.monitor = {})
    (fun s' T locs X e1 hZ ho => by
      obtain ⟨T', h', X', e2, E, A, D, N, st⟩ := newO X hx hZ ho w wi wz e1 hg hd hc hl
      exact ⟨T', h', _, X', e2, E, ⟨rfl, A, D, N⟩, st⟩)
    (fun h' g' O E ⟨q, A, D, N⟩ => by subst q; exact k h' _ rfl O E A D N)
theorem k_newP (hx : p.tables.exec = Jvm.exec) {aty : ArrayType} (w : (Jvm.Cond.arrayClass (newarray.typeOf aty)).before a0 Z = true) (hg : g.method = m) (hd : decode c.code g.pc = .ok (.newarray aty, 2)) {n : Int32} {rest : List Value} (hs : g.stack = .int n :: rest)
    (hn : ¬ n < 0) {cap : Nat} (hcap : n.toNatClampNeg ≤ cap) (hb : cap * 8 ≤ 536870912) (hc : cells + 1 ≤ R.cells) (hl : slots + cap ≤ R.slots) (ad : String) (had : "[" ++ (newarray.typeOf aty).toString = ad)
    (k : ∀ h' a kA, a = h.size → Old Z n0 h' → Ext h h' → Arv Z h' a kA (newarray.typeOf aty) n [] (defaultValue (newarray.typeOf aty)) → Exa Z h' a ad → Run p l e R s m args below meth c Z EL own n0 bk h' (cells + 1) (slots + cap) { g with pc := g.pc + 2, stack := .ref a :: rest } Q) : Run p l e R s m args below meth c Z EL own n0 bk h cells slots g Q :=
  k_grow (F := fun h' g' => g' = { g with pc := g.pc + 2, stack := .ref h.size :: rest } ∧ Exa Z h' h.size ad ∧ ∃ kA, Arv Z h' h.size kA (newarray.typeOf aty) n [] (defaultValue (newarray.typeOf aty)))
    (fun s' T locs X e1 hZ ho => by
      obtain ⟨T', h', cA, X', e2, E, A, D, st⟩ := newPE X hx hZ w e1 hg hd hs hn hcap hb hc hl had
      exact ⟨T', h', _, X', e2, E, ⟨rfl, D, cA, Arv.new A hn⟩, st⟩)
    (fun h' g' O E ⟨q, D, kA, A⟩ => by subst q; exact k h' _ kA rfl O E A D)
theorem k_newR (hx : p.tables.exec = Jvm.exec) {C : String} {index : Nat} (w1 : (Jvm.Cond.classLink own index C).before a0 Z = true) (w2 : (Jvm.Cond.arrayOver (.object C)).before a0 Z = true) (hg : g.method = m) (hd : decode c.code g.pc = .ok (.anewarray index, 3)) {n : Int32} {rest : List Value} (hs : g.stack = .int n :: rest)
    (hn : ¬ n < 0) {cap : Nat} (hcap : n.toNatClampNeg ≤ cap) (hb : cap * 8 ≤ 536870912) (hc : cells + 1 ≤ R.cells) (hl : slots + cap ≤ R.slots) (ad : String) (had : "[" ++ (FieldType.object C).toString = ad)
    (k : ∀ h' a kA, a = h.size → Old Z n0 h' → Ext h h' → Arv Z h' a kA (.object C) n [] .null → Exa Z h' a ad → Ovr Z kA C → Run p l e R s m args below meth c Z EL own n0 bk h' (cells + 1) (slots + cap) { g with pc := g.pc + 3, stack := .ref a :: rest } Q) : Run p l e R s m args below meth c Z EL own n0 bk h cells slots g Q :=
  k_grow (F := fun h' g' => g' = { g with pc := g.pc + 3, stack := .ref h.size :: rest } ∧ Exa Z h' h.size ad ∧ ∃ kA, Arv Z h' h.size kA (.object C) n [] .null ∧ Ovr Z kA C)
    (fun s' T locs X e1 hZ ho => by
      obtain ⟨T', h', cA, X', e2, E, A, D, Ov, st⟩ := newRE X hx hZ ho w1 w2 e1 hg hd hs hn hcap hb hc hl had
      exact ⟨T', h', _, X', e2, E, ⟨rfl, D, cA, Arv.new A hn, Ov⟩, st⟩)
    (fun h' g' O E ⟨q, D, kA, A, Ov⟩ => by subst q; exact k h' _ kA rfl O E A D Ov)
theorem k_putF (hx : p.tables.exec = Jvm.exec) {R0 O n d host C : String} {index kk : Nat} {ty : FieldType} (w : (Jvm.Cond.fieldLink own index R0 n d).before a0 Z = true ∨ (Jvm.Cond.fieldLinkNest own index R0 n d host).before a0 Z = true) (via : Via Z R0 O n d)
    {a : Addr} {v old : Value} (F : Fld Z h a O n d old) (E : Exa Z h a C) (L : (Jvm.Cond.lays C O n d).before a0 Z = true ∨ ((Jvm.Cond.laysFinal C O n d).before a0 Z = true ∧ own = O ∧ meth.name = "<init>")) (wi : (Jvm.Cond.instantiable C kk).before a0 Z = true)
    (hty : parseFieldDescriptor d = some ty) (hn : narrow ty v = v) (hf : fits ty v = true) (ge : n0 ≤ a) (nb : ¬ bk a) (hg : g.method = m) {rest : List Value} (hs : g.stack = v :: .ref a :: rest) (hd : decode c.code g.pc = .ok (.putfield index, 3))
    (k : ∀ h', Old Z n0 h' → Wr h h' a (RoadKit.slotOf Z O n d) v → Run p l e R s m args below meth c Z EL own n0 bk h' cells slots { g with pc := g.pc + 3, stack := rest } Q) : Run p l e R s m args below meth c Z EL own n0 bk h cells slots g Q :=
  k_write ge nb (fun s' T locs X e1 hZ ho => putF X hx hZ ho w via e1 F E L wi hty hn hf hg hs hd) k
theorem k_alen (hx : p.tables.exec = Jvm.exec) {a : Addr} {kA : ClassId} {ty : FieldType} {n : Int32} {vs : List Value} {d : Value} (V : Arv Z h a kA ty n vs d) (hg : g.method = m) {rest : List Value} (hs : g.stack = .ref a :: rest) (hd : decode c.code g.pc = .ok (.arraylength, 1))
    (k : Run p l e R s m args below meth c Z EL own n0 bk h cells slots { g with pc := g.pc + 1, stack := .int n :: rest } Q) : Run p l e R s m args below meth c Z EL own n0 bk h cells slots g Q :=
  k_still (fun s' T locs X e1 hZ ho => ⟨T, X, e1, fun t => by
    obtain ⟨cl, A, -, S, q, -⟩ := V
    have := X.arraylength hx (a := a) (cell := cl) (by rw [e1]; exact A.1) (State.isArrayOf_alike hZ.alike A.2.1) hg hs hd t
    rw [len_of S q] at this; exact this⟩) k
theorem k_aget (hx : p.tables.exec = Jvm.exec) {a : Addr} {kA : ClassId} {ty : FieldType} {n j : Int32} {vs : List Value} {d v : Value} {i : Instr} (V : Arv Z h a kA ty n vs d) (hj : ¬ j < 0 ∧ j < n) (hv : vs.getD j.toNatClampNeg d = v)
    (hi : (i = .iaload ∧ ty = .int) ∨ (i = .laload ∧ ty = .long) ∨ (i = .caload ∧ ty = .char) ∨ (i = .baload ∧ ty = .byte) ∨ (i = .aaload ∧ ty.isReference = true)) (hg : g.method = m) {rest : List Value} (hs : g.stack = .int j :: .ref a :: rest) (hd : decode c.code g.pc = .ok (i, 1))
    (k : Run p l e R s m args below meth c Z EL own n0 bk h cells slots { g with pc := g.pc + 1, stack := v :: rest } Q) : Run p l e R s m args below meth c Z EL own n0 bk h cells slots g Q :=
  k_still (fun s' T locs X e1 hZ ho => ⟨T, X, e1, fun t => by
    obtain ⟨cl, A, -, S, q, H, -⟩ := V
    have A1 : T.heap[a]? = some cl := by rw [e1]; exact A.1
    have A2 := State.isArrayOf_alike hZ.alike A.2.1
    have hin := inb_of S hj
    have hv' := Has.at H hin hv
    rcases hi with ⟨rfl, rfl⟩ | ⟨rfl, rfl⟩ | ⟨rfl, rfl⟩ | ⟨rfl, rfl⟩ | ⟨rfl, ht⟩
    · exact X.iaload hx A1 A2 A.2.2 hin hv' hg hs hd t
    · exact X.laload hx A1 A2 A.2.2 hin hv' hg hs hd t
    · exact X.caload hx A1 A2 A.2.2 hin hv' hg hs hd t
    · exact X.baloadBytes hx A1 A2 A.2.2 hin hv' hg hs hd t
    · exact X.aaload hx A1 A2 ht A.2.2 hin hv' hg hs hd t⟩) k
theorem k_stC (hx : p.tables.exec = Jvm.exec) {a : Addr} {kA : ClassId} {n j x : Int32} {vs : List Value} {d : Value} (V : Arv Z h a kA .char n vs d) (hj : ¬ j < 0 ∧ j < n) (i : Nat) (hi : j.toNatClampNeg = i) (hl : i < vs.length) (ge : n0 ≤ a) (nb : ¬ bk a) (hg : g.method = m) {rest : List Value} (hs : g.stack = .int x :: .int j :: .ref a :: rest) (hd : decode c.code g.pc = .ok (.castore, 1))
    (k : ∀ h', Old Z n0 h' → Wr h h' a j.toNatClampNeg (.int (nar .char x)) → Arv Z h' a kA .char n (vs.set i (.int (nar .char x))) d → Run p l e R s m args below meth c Z EL own n0 bk h' cells slots { g with pc := g.pc + 1, stack := rest } Q) : Run p l e R s m args below meth c Z EL own n0 bk h cells slots g Q := by
  obtain ⟨cl, A, q1, S, q3, H, G⟩ := V
  exact k_write ge nb (fun s' T locs X e1 hZ ho => stC X hx hZ e1 A (inb_of S hj) hg hs hd) fun h' O W => k h' O W (Arv.set A q1 S q3 H G (fits_nar_char _) W i hi hl)
theorem k_stB (hx : p.tables.exec = Jvm.exec) {a : Addr} {kA : ClassId} {n j x : Int32} {vs : List Value} {d : Value} (V : Arv Z h a kA .byte n vs d) (hj : ¬ j < 0 ∧ j < n) (i : Nat) (hi : j.toNatClampNeg = i) (hl : i < vs.length) (ge : n0 ≤ a) (nb : ¬ bk a) (hg : g.method = m) {rest : List Value} (hs : g.stack = .int x :: .int j :: .ref a :: rest) (hd : decode c.code g.pc = .ok (.bastore, 1))
    (k : ∀ h', Old Z n0 h' → Wr h h' a j.toNatClampNeg (.int (nar .byte x)) → Arv Z h' a kA .byte n (vs.set i (.int (nar .byte x))) d → Run p l e R s m args below meth c Z EL own n0 bk h' cells slots { g with pc := g.pc + 1, stack := rest } Q) : Run p l e R s m args below meth c Z EL own n0 bk h cells slots g Q := by
  obtain ⟨cl, A, q1, S, q3, H, G⟩ := V
  exact k_write ge nb (fun s' T locs X e1 hZ ho => stB X hx hZ e1 A (inb_of S hj) hg hs hd) fun h' O W => k h' O W (Arv.set A q1 S q3 H G (fits_nar_byte _) W i hi hl)
theorem k_stR (hx : p.tables.exec = Jvm.exec) {a : Addr} {kA : ClassId} {ty : FieldType} {n j : Int32} {v : Value} {vs : List Value} {d : Value} (V : Arv Z h a kA ty n vs d) (hty : ty.isReference = true) (hfv : fits ty v = true) (F : Sto Z h a v) (hj : ¬ j < 0 ∧ j < n) (i : Nat) (hi : j.toNatClampNeg = i) (hl : i < vs.length) (ge : n0 ≤ a) (nb : ¬ bk a) (hg : g.method = m) {rest : List Value} (hs : g.stack = v :: .int j :: .ref a :: rest) (hd : decode c.code g.pc = .ok (.aastore, 1))
    (k : ∀ h', Old Z n0 h' → Wr h h' a j.toNatClampNeg v → Arv Z h' a kA ty n (vs.set i v) d → Run p l e R s m args below meth c Z EL own n0 bk h' cells slots { g with pc := g.pc + 1, stack := rest } Q) : Run p l e R s m args below meth c Z EL own n0 bk h cells slots g Q := by
  obtain ⟨cl, A, q1, S, q3, H, G⟩ := V
  exact k_write ge nb (fun s' T locs X e1 hZ ho => stR X hx hZ e1 A (inb_of S hj) hty F hg hs hd) fun h' O W => k h' O W (Arv.set A q1 S q3 H G hfv W i hi hl)
/-! the ends -/
theorem k_ret0 (hx : p.tables.exec = Jvm.exec) (hlk : meth.locks = false) (hret : meth.sig.returnType = none) {pc : Nat} {Ls : Array Slot} (hd : decode c.code pc = .ok (.return_, 1)) (hc : cells ≤ R.cells) (hs : slots ≤ R.slots) (hQ : Q none h bk) : Run p l e R s m args below meth c Z EL own n0 bk h cells slots (mkF m pc Ls []) Q :=
  k_end hlk (fun _ => rfl) hc hs hQ fun s' T locs fs X hr => X.returnOut hx hret hd hr
theorem k_retN (hx : p.tables.exec = Jvm.exec) (hlk : meth.locks = false) {t : FieldType} (hret : meth.sig.returnType = some t) (ht : t = .boolean ∨ t = .byte ∨ t = .char ∨ t = .short) {pc : Nat} {Ls : Array Slot} {z : Int32} {rest : List Value} (hd : decode c.code pc = .ok (.ireturn, 1)) (hc : cells ≤ R.cells) (hs : slots ≤ R.slots) (hQ : Q (some (.int (nar t z))) h bk) : Run p l e R s m args below meth c Z EL own n0 bk h cells slots (mkF m pc Ls (.int z :: rest)) Q :=
  k_end hlk (fun q => by rw [hret] at q; cases q) hc hs hQ fun s' T locs fs X hr => retN X hx hret ht hd hr
theorem k_ret (hx : p.tables.exec = Jvm.exec) (hlk : meth.locks = false) {t : FieldType} {w : Value} {i : Instr} (hret : meth.sig.returnType = some t) (hn : narrow t w = w)
    (hi : (i = .ireturn ∧ (t = .int ∨ t = .boolean ∨ t = .byte ∨ t = .char ∨ t = .short) ∧ ∃ z, w = .int z) ∨ (i = .lreturn ∧ t = .long ∧ ∃ z, w = .long z) ∨ (i = .dreturn ∧ t = .double ∧ ∃ z, w = .double z) ∨ (i = .freturn ∧ t = .float ∧ ∃ z, w = .float z) ∨ (i = .areturn ∧ t.isReference = true ∧ w.isRef = true)) {pc : Nat} {Ls : Array Slot} {rest : List Value} (hd : decode c.code pc = .ok (i, 1)) (hc : cells ≤ R.cells) (hs : slots ≤ R.slots) (hQ : Q (some w) h bk) : Run p l e R s m args below meth c Z EL own n0 bk h cells slots (mkF m pc Ls (w :: rest)) Q :=
  k_end hlk (fun q => by rw [hret] at q; cases q) hc hs hQ fun s' T locs fs X hr => retOut X hx hret hn hi hd hr
theorem k_retI (hx : p.tables.exec = Jvm.exec) (hlk : meth.locks = false) (hret : meth.sig.returnType = some .int) {pc : Nat} {Ls : Array Slot} {z : Int32} {rest : List Value} (hd : decode c.code pc = .ok (.ireturn, 1)) (hc : cells ≤ R.cells) (hs : slots ≤ R.slots) (hQ : Q (some (.int z)) h bk) : Run p l e R s m args below meth c Z EL own n0 bk h cells slots (mkF m pc Ls (.int z :: rest)) Q :=
  k_ret hx hlk hret rfl (Or.inl ⟨rfl, Or.inl rfl, z, rfl⟩) hd hc hs hQ
theorem k_retL (hx : p.tables.exec = Jvm.exec) (hlk : meth.locks = false) (hret : meth.sig.returnType = some .long) {pc : Nat} {Ls : Array Slot} {z : Int64} {rest : List Value} (hd : decode c.code pc = .ok (.lreturn, 1)) (hc : cells ≤ R.cells) (hs : slots ≤ R.slots) (hQ : Q (some (.long z)) h bk) : Run p l e R s m args below meth c Z EL own n0 bk h cells slots (mkF m pc Ls (.long z :: rest)) Q :=
  k_ret hx hlk hret rfl (Or.inr (Or.inl ⟨rfl, rfl, z, rfl⟩)) hd hc hs hQ
theorem k_retA (hx : p.tables.exec = Jvm.exec) (hlk : meth.locks = false) {t : FieldType} {w : Value} (hret : meth.sig.returnType = some t) (hn : narrow t w = w) (ht : t.isReference = true) (hw : w.isRef = true) {pc : Nat} {Ls : Array Slot} {rest : List Value} (hd : decode c.code pc = .ok (.areturn, 1)) (hc : cells ≤ R.cells) (hs : slots ≤ R.slots) (hQ : Q (some w) h bk) : Run p l e R s m args below meth c Z EL own n0 bk h cells slots (mkF m pc Ls (w :: rest)) Q :=
  k_ret hx hlk hret hn (Or.inr (Or.inr (Or.inr (Or.inr ⟨rfl, ht, hw⟩)))) hd hc hs hQ
/-! the calls -/
/-- what a callee's law gives to a walk that stands at h -/
def Pays (l : Launch) (R : Room) (p : Program) (e : Env) (below : List Frame) (s : State) (args : Array Value) (Z : State) (EL : List (String × Nat)) (n0 : Nat) (bk : Addr → Prop) (h : Heap) (y : MethodName) (len W kc ks : Nat) (as' : Array Value) (Q : Option Value → Heap → (Addr → Prop) → Prop) : Prop :=
  ∀ vm0, Z.Warmed39 vm0 → (∃ a0, EW Z a0 EL) → Old Z n0 h → CHv Z EL vm0 h → (∀ y, Bk Z EL vm0 h y → bk y) →
    BackS l R p e below (s.setVm vm0) args y len W (fun A a => a = as' ∧ A.U.heap = h ∧ A.cells + kc ≤ R.cells ∧ A.slots + ks ≤ R.slots)
      (fun A _ v B => ∃ L bk', Q v B.U.heap bk' ∧ Fr n0 L ∧ Old Z n0 B.U.heap ∧ CHv Z EL B.U.vm B.U.heap ∧ (∀ y, Bk Z EL B.U.vm B.U.heap y → bk' y) ∧ B.locs = A.locs ++ L ∧ B.cells = A.cells + kc ∧ B.slots = A.slots + ks)
theorem at_bk {T : State} {locs : List Loc} {vm0 : Vm} (X : Stand p l e R (s.setVm vm0) m args below meth c T locs cells slots) (hZ : Z.Warmed39 vm0) (w : EW Z a0 EL) (C : CHv Z EL vm0 h) (B : ∀ y, Bk Z EL vm0 h y → bk y) : CHv Z EL T.vm h ∧ ∀ y, Bk Z EL T.vm h y → bk y := by
  have A := CHv.at X hZ w C
  exact ⟨A.1, fun y q => (A.2.2 y q).elim (B y) (fun z => absurd (Array.getElem?_eq_some_iff.mp (Bk.there q).choose_spec).1 (Nat.not_lt.mpr z))⟩
theorem Pays.of_met {y : MethodName} {bytes : ByteArray} {maxL : Nat} {ret : Option FieldType} {rm : Room} {len W : Nat} {as' : Array Value} {Qc : Option Value → Heap → (Addr → Prop) → Prop} (hM : Met l Z EL n0 bk y bytes maxL ret rm as' h Qc [])
    (wc : (Jvm.Cond.code y bytes maxL ret).before a0 Z = true) (wz : (Jvm.Cond.initialized y.cls).before a0 Z = true) (hf : rm.frames + 1 ≤ R.frames) (hl : W + (maxL + 11) + rm.locals ≤ R.locals) :
    Pays l R p e below s args Z EL n0 bk h y len W rm.cells rm.slots as' Qc := fun vm0 hZ ⟨a1, hEL⟩ hO H hB =>
  BackS.of_freeW (bytes := bytes) (maxL := maxL) (ret := ret) (E := fun _ _ o t L k n => k = rm.cells ∧ n = rm.slots ∧ ∃ v bk', o = .returned v ∧ Qc v t.heap bk' ∧ Fr n0 L ∧ Old Z n0 t.heap ∧ CHv Z EL t.vm t.heap ∧ ∀ y, Bk Z EL t.vm t.heap y → bk' y) hM hf hl
    (fun m meth c A a Y hp => have hU : Z.Warmed39 A.U.vm := wtrans (s := s.setVm vm0) hZ Y.warmed
      ⟨by show (Jvm.Cond.and _ .tt).before a A.U = true; rw [Jvm.Cond.before_and, mv hU wc]; rfl, mv hU wc, mv hU wz, hp.2.2.1, hp.2.2.2⟩)
    (fun m meth c A a g mk Y hp => have r := at_bk Y hZ hEL H hB; ⟨hp.1, wtrans (s := s.setVm vm0) hZ Y.warmed, hp.2.1, r.1, r.2⟩) (fun _ _ _ _ _ _ _ _ _ => trivial)
    (fun _ _ _ _ ⟨v, L, bk', h1, h2, h3⟩ => ⟨L, _, _, h3, rfl, rfl, v, bk', h1, h2⟩)
    (fun m meth c A a g mk v t L k n Y hp _ _ ⟨e1, e2, v', bk', e3, r1, r2, r3, r4, r5⟩ => by
      cases e3; subst e1 e2
      exact ⟨L, bk', r1, r2, r3, r4, r5, rfl, rfl, rfl⟩)
/-- a library law that moves nothing -/
theorem Pays.of_same {y : MethodName} {len W : Nat} {as' : Array Value} {v0 : Option Value} (hK : ∀ s' : State, Z.Warmed39 s'.vm → Back l R p e below s' args y len W (fun P a => a = as' ∧ P.U.heap = h ∧ P.cells + 0 ≤ R.cells ∧ P.slots + 0 ≤ R.slots) (fun P _ v B => ∃ L, (v = v0 ∧ L = [] ∧ B.U.heap = h) ∧ B.locs = P.locs ++ L ∧ B.cells = P.cells + 0 ∧ B.slots = P.slots + 0)) :
    Pays l R p e below s args Z EL n0 bk h y len W 0 0 as' (fun v h' bk' => v = v0 ∧ h = h' ∧ bk = bk') := fun vm0 hZ ⟨a1, hEL⟩ hO H hB => by
  intro m meth c A g ig mk a X hg hsize hdg hW hn hp
  obtain ⟨v, B, X', ⟨L, ⟨q1, q2, q3⟩, q4, q5, q6⟩, hsteps⟩ := hK (s.setVm vm0) hZ m meth c A g ig mk a X hg hsize hdg hW hn hp
  have r := at_bk X' hZ hEL H hB
  refine ⟨v, B, X'.retabled X'.warmed.wide, X'.warmed.since _, by rw [hp.2.1, q3]; exact Nat.le_refl _, ⟨L, bk, ⟨q1, q3.symm, rfl⟩, by rw [q2]; exact Fr.nil _, by rw [q3]; exact hO, by rw [q3]; exact r.1, by rw [q3]; exact r.2, q4, q5, q6⟩, hsteps⟩
theorem ne_of_keep {Z : State} {EL : List (String × Nat)} {vm : Vm} {h h' : Heap} {x : Addr} (K : Keep h h' [x]) (C : CHv Z EL vm h) (nb : ¬ Bk Z EL vm h x) : CHv Z EL vm h' ∧ ∀ y, Bk Z EL vm h' y → Bk Z EL vm h y := C.keepStep K (sfS nb sf0)
/-- a library law that writes one object of ours -/
theorem Pays.of_keep {y : MethodName} {len W kc ks : Nat} {as' : Array Value} {x : Addr} {Qk : Option Value → Heap → List Loc → Prop} (nb : ¬ bk x) (ge : n0 ≤ x) (hq : ∀ v h' L, Qk v h' L → Fr n0 L ∧ Keep h h' [x])
    (hK : ∀ s' : State, Z.Warmed39 s'.vm → Back l R p e below s' args y len W (fun P a => a = as' ∧ P.U.heap = h ∧ P.cells + kc ≤ R.cells ∧ P.slots + ks ≤ R.slots) (fun P _ v B => ∃ L, Qk v B.U.heap L ∧ B.locs = P.locs ++ L ∧ B.cells = P.cells + kc ∧ B.slots = P.slots + ks)) :
    Pays l R p e below s args Z EL n0 bk h y len W kc ks as' (fun v h' bk' => (∃ L, Qk v h' L) ∧ bk = bk') := fun vm0 hZ ⟨a1, hEL⟩ hO H hB => by
  intro m meth c A g ig mk a X hg hsize hdg hW hn hp
  obtain ⟨v, B, X', ⟨L, q1, q4, q5, q6⟩, hsteps⟩ := hK (s.setVm vm0) hZ m meth c A g ig mk a X hg hsize hdg hW hn hp
  obtain ⟨N, K⟩ := hq _ _ _ q1
  have r := at_bk X' hZ hEL H hB
  have r' := ne_of_keep K r.1 (fun q => nb (r.2 x q))
  refine ⟨v, B, X'.retabled X'.warmed.wide, X'.warmed.since _, by rw [hp.2.1]; exact K.1, ⟨L, bk, ⟨⟨L, q1⟩, rfl⟩, N, hO.keep K (allS ge all0), r'.1, fun z q => r.2 z (r'.2 z q), q4, q5, q6⟩, hsteps⟩
/-- behind a call -/
theorem k_back {vm0 : Vm} {T : State} {locs : List Loc} {len kc ks : Nat} {rest : List Value} {Qc : Option Value → Heap → (Addr → Prop) → Prop} (P : Pos p l e R s m args below meth c Z EL own n0 bk h cells slots vm0 T locs)
    (H : ∃ (v : Option Value) (vm₁ : Vm) (B : Pt), (s.setVm vm0).WarmedH vm₁ ∧ Stand p l e R ((s.setVm vm0).setVm B.U.vm) m args below meth c B.U B.locs B.cells B.slots ∧ (s.setVm vm0).Since B.U.vm B.U.heap.size ∧ T.heap.size ≤ B.U.heap.size ∧
      (∃ L bk', Qc v B.U.heap bk' ∧ Fr n0 L ∧ Old Z n0 B.U.heap ∧ CHv Z EL B.U.vm B.U.heap ∧ (∀ y, Bk Z EL B.U.vm B.U.heap y → bk' y) ∧ B.locs = locs ++ L ∧ B.cells = cells + kc ∧ B.slots = slots + ks) ∧ Steps p.tables e below (T.setTop g) (B.U.setTop { g with pc := g.pc + len, stack := v.toList ++ rest }))
    (k : ∀ v h' bk', Old Z n0 h' → h.size ≤ h'.size → Qc v h' bk' → Run p l e R s m args below meth c Z EL own n0 bk' h' (cells + kc) (slots + ks) { g with pc := g.pc + len, stack := v.toList ++ rest } Q) :
    ∃ U o, Steps p.tables e below (T.setTop g) U ∧ U.status = .running ∧ Ended U below o ∧ EndW s R Z EL n0 Q o U := by
  obtain ⟨X, e1, ⟨k0, hS, hk⟩, hZ, ho, N, O, C, B, hE⟩ := P
  obtain ⟨v, vm1, ⟨TB, LB, cB, sB⟩, -, X', hS', hgr, ⟨L, bk', q1, q2, q3, q4, q5, q6, q7, q8⟩, st⟩ := H
  dsimp only [Pt.U, Pt.locs, Pt.cells, Pt.slots] at X' hS' hgr q1 q3 q4 q5 q6 q7 q8 st
  subst q6 q7 q8
  obtain ⟨r1, r2, r3, r4⟩ := rebS hS (by rw [← e1] at hk; exact hk) X' hS' hgr hZ ho
  obtain ⟨U, o, h1, r⟩ := k v TB.heap bk' q3 (by rw [← e1]; exact hgr) q1 TB.vm TB _ ⟨r1, rfl, ⟨_, r2, Nat.le_refl _⟩, r3, r4, Fr.app N q2, q3, q4, q5, hE⟩
  exact ⟨U, o, st.trans h1, r⟩
theorem k_callS (hx : p.tables.exec = Jvm.exec) {index : Nat} {y : MethodName} {bytes : ByteArray} {maxL : Nat} {ret : Option FieldType} (w1 : (Jvm.Cond.methodLink own index y).before a0 Z = true) (w2 : (Jvm.Cond.static y).before a0 Z = true) (w3 : (Jvm.Cond.initialized y.cls).before a0 Z = true) (w4 : (Jvm.Cond.code y bytes maxL ret).before a0 Z = true)
    (hy : y.cls ≠ "java/lang/invoke/MethodHandle" ∧ y.cls ≠ "java/lang/invoke/VarHandle") {W kc ks : Nat} {Qc : Option Value → Heap → (Addr → Prop) → Prop} {argsL rest : List Value} (hK : Pays l R p e below s args Z EL n0 bk h y 3 W kc ks argsL.toArray Qc)
    (hg : g.method = m) (hsize : g.locals.size = c.maxLocals) (hlen : ∀ sig, parseMethodDescriptor y.desc = some sig → argsL.length = sig.parameters.length) (hstack : g.stack = argsL.reverse ++ rest) (hW : 2 * g.monitorRoom + (rest.map fun v => v.category).sum ≤ W) (hd : decode c.code g.pc = .ok (.invokestatic index, 3)) (hc : cells + kc ≤ R.cells) (hs : slots + ks ≤ R.slots)
    (k : ∀ v h' bk', Old Z n0 h' → h.size ≤ h'.size → Qc v h' bk' → Run p l e R s m args below meth c Z EL own n0 bk' h' (cells + kc) (slots + ks) { g with pc := g.pc + 3, stack := v.toList ++ rest } Q) : Run p l e R s m args below meth c Z EL own n0 bk h cells slots g Q := fun vm0 T locs P => by
  have P' := P
  obtain ⟨X, e1, hS, hZ, ho, N, O, C, B, hE⟩ := P'
  exact k_back P (callSS X hx ho (mv hZ w1) (mv hZ w2) (mv hZ w3) (mv hZ w4) hy (hK vm0 hZ hE O C B) hg hsize hlen hstack hW hd fun _ _ => ⟨rfl, e1, hc, hs⟩) k
theorem k_callI (hx : p.tables.exec = Jvm.exec) {index : Nat} {y : MethodName} {bytes : ByteArray} {maxL : Nat} (hy1 : y.name = "<init>") (w1 : (Jvm.Cond.methodLink own index y).before a0 Z = true) (w2 : (Jvm.Cond.instanceMethod y).before a0 Z = true) (w4 : (Jvm.Cond.code y bytes maxL none).before a0 Z = true)
    (hy : y.cls ≠ "java/lang/invoke/MethodHandle" ∧ y.cls ≠ "java/lang/invoke/VarHandle") {W kc ks : Nat} {Qc : Option Value → Heap → (Addr → Prop) → Prop} {a : Addr} {argsL rest : List Value} (hK : Pays l R p e below s args Z EL n0 bk h y 3 W kc ks (.ref a :: argsL).toArray Qc)
    (hg : g.method = m) (hsize : g.locals.size = c.maxLocals) (hlen : ∀ sig, parseMethodDescriptor y.desc = some sig → argsL.length = sig.parameters.length) (hstack : g.stack = argsL.reverse ++ .ref a :: rest) (hW : 2 * g.monitorRoom + (rest.map fun v => v.category).sum ≤ W) (hd : decode c.code g.pc = .ok (.invokespecial index, 3)) (hc : cells + kc ≤ R.cells) (hs : slots + ks ≤ R.slots)
    (k : ∀ v h' bk', Old Z n0 h' → h.size ≤ h'.size → Qc v h' bk' → Run p l e R s m args below meth c Z EL own n0 bk' h' (cells + kc) (slots + ks) { g with pc := g.pc + 3, stack := v.toList ++ rest } Q) : Run p l e R s m args below meth c Z EL own n0 bk h cells slots g Q := fun vm0 T locs P => by
  have P' := P
  obtain ⟨X, e1, hS, hZ, ho, N, O, C, B, hE⟩ := P'
  exact k_back P (X.specialBackS hx hy1 ho (mv hZ w1) (mv hZ w2) (mv hZ w4) hy (hK vm0 hZ hE O C B) hg hsize (Steps.refl _) hlen hstack hW hd fun _ _ => ⟨rfl, e1, hc, hs⟩) k
theorem k_callV (hx : p.tables.exec = Jvm.exec) {index : Nat} {C : String} {y z : MethodName} (w1 : (Jvm.Cond.methodLink own index y).before a0 Z = true) (w2 : (Jvm.Cond.declares y).before a0 Z = true) (nf : ∀ s' : State, Z.Warmed39 s'.vm → NotFace s' y) (w3 : (Jvm.Cond.selects C y z).before a0 Z = true) (w4 : (Jvm.Cond.instanceMethod z).before a0 Z = true)
    (hy : y.cls ≠ "java/lang/invoke/MethodHandle" ∧ y.cls ≠ "java/lang/invoke/VarHandle") {W kc ks : Nat} {Qc : Option Value → Heap → (Addr → Prop) → Prop} {a : Addr} {argsL rest : List Value} (hK : Pays l R p e below s args Z EL n0 bk h z 3 W kc ks (.ref a :: argsL).toArray Qc) (E : Exa Z h a C)
    (hg : g.method = m) (hsize : g.locals.size = c.maxLocals) (hlen : ∀ sig, parseMethodDescriptor y.desc = some sig → argsL.length = sig.parameters.length) (hstack : g.stack = argsL.reverse ++ .ref a :: rest) (hW : 2 * g.monitorRoom + (rest.map fun v => v.category).sum ≤ W) (hd : decode c.code g.pc = .ok (.invokevirtual index, 3)) (hc : cells + kc ≤ R.cells) (hs : slots + ks ≤ R.slots)
    (k : ∀ v h' bk', Old Z n0 h' → h.size ≤ h'.size → Qc v h' bk' → Run p l e R s m args below meth c Z EL own n0 bk' h' (cells + kc) (slots + ks) { g with pc := g.pc + 3, stack := v.toList ++ rest } Q) : Run p l e R s m args below meth c Z EL own n0 bk h cells slots g Q := fun vm0 T locs P => by
  have P' := P
  obtain ⟨X, e1, hS, hZ, ho, N, O, C, B, hE⟩ := P'
  obtain ⟨cq, kq, qa, qb, qc⟩ := isOf (s := s.setVm vm0) hZ e1 E
  exact k_back P (X.virtualBackS hx ho (mv hZ w1) (mv hZ w2) (nf _ hZ) (mv hZ w3) (mv hZ w4) hy (hK vm0 hZ hE O C B) qa qc hg hsize (Steps.refl _) hlen hstack hW hd fun _ _ => ⟨rfl, e1, hc, hs⟩) k
/-- invokevirtual of a method that a class above the named one declares -/
theorem k_callU (hx : p.tables.exec = Jvm.exec) {index : Nat} {C owner : String} {y z : MethodName} (w1 : (Jvm.Cond.methodLink own index y).before a0 Z = true) (w2 : (Jvm.Cond.sameMethod y.cls owner y.name y.desc).before a0 Z = true) (w5 : (Jvm.Cond.declares ⟨owner, y.name, y.desc⟩).before a0 Z = true) (how : owner ≠ "java/lang/invoke/MethodHandle" ∧ owner ≠ "java/lang/invoke/VarHandle") (w3 : (Jvm.Cond.selects C y z).before a0 Z = true) (w4 : (Jvm.Cond.instanceMethod z).before a0 Z = true)
    {W kc ks : Nat} {Qc : Option Value → Heap → (Addr → Prop) → Prop} {a : Addr} {argsL rest : List Value} (hK : Pays l R p e below s args Z EL n0 bk h z 3 W kc ks (.ref a :: argsL).toArray Qc) (E : Exa Z h a C)
    (hg : g.method = m) (hsize : g.locals.size = c.maxLocals) (hlen : ∀ sig, parseMethodDescriptor y.desc = some sig → argsL.length = sig.parameters.length) (hstack : g.stack = argsL.reverse ++ .ref a :: rest) (hW : 2 * g.monitorRoom + (rest.map fun v => v.category).sum ≤ W) (hd : decode c.code g.pc = .ok (.invokevirtual index, 3)) (hc : cells + kc ≤ R.cells) (hs : slots + ks ≤ R.slots)
    (k : ∀ v h' bk', Old Z n0 h' → h.size ≤ h'.size → Qc v h' bk' → Run p l e R s m args below meth c Z EL own n0 bk' h' (cells + kc) (slots + ks) { g with pc := g.pc + 3, stack := v.toList ++ rest } Q) : Run p l e R s m args below meth c Z EL own n0 bk h cells slots g Q := fun vm0 T locs P => by
  have P' := P
  obtain ⟨X, e1, hS, hZ, ho, N, O, C, B, hE⟩ := P'
  obtain ⟨cq, kq, qa, qb, qc⟩ := isOf (s := s.setVm vm0) hZ e1 E
  exact k_back P (X.virtualBackUpS hx ho (mv hZ w1) (mv hZ w2) (mv hZ w5) how (mv hZ w3) (mv hZ w4) (hK vm0 hZ hE O C B) qa qc hg hsize (Steps.refl _) hlen hstack hW hd fun _ _ => ⟨rfl, e1, hc, hs⟩) k
theorem decl_of {y : MethodName} {bytes : ByteArray} {maxL : Nat} {ret : Option FieldType} (w2 : (Jvm.Cond.instanceMethod y).before a0 Z = true) (w4 : (Jvm.Cond.code y bytes maxL ret).before a0 Z = true) : (Jvm.Cond.declares y).before a0 Z = true := by
  obtain ⟨mk, methM, hnamed, hmethM, hst, -⟩ := Jvm.Cond.instanceMethod_spec w2
  obtain ⟨m2, cM, q1, -, -, -, -, -, -, hsig⟩ := Jvm.Cond.code_spec hnamed w4
  cases hmethM.symm.trans q1
  simp [Jvm.Cond.before, Jvm.Cond.holds, Jvm.Cond.value, hnamed, hmethM, hst, hsig]
theorem nf_of' {s' : State} {C : String} {y y' : MethodName} (q : y'.cls = y.cls) (hZ : Z.Warmed39 s'.vm) (w : (Jvm.Cond.selects C y' y').before a0 Z = true) : NotFace s' y := fun r0 h0 => by
  obtain ⟨c2, r2, m2, q1, q2, q3, q4, kP, hkP, hkPi⟩ := Jvm.Cond.selects_spec (mv (args := #[]) hZ w)
  have e1 := findClass_of_methodNamed h0
  have e2 := findClass_of_methodNamed q3
  rw [q] at e2
  rw [show r0.cls = m2.cls from Option.some.inj (e1.symm.trans e2)]
  exact ⟨kP, hkP, hkPi⟩
theorem nf_of {C : String} {y y' : MethodName} (q : y'.cls = y.cls) (w : (Jvm.Cond.selects C y' y').before a0 Z = true) : NotFace Z y := nf_of' q (State.Warmed39.refl Z) w
theorem same_of {y : MethodName} (hy : y.cls ≠ "java/lang/invoke/MethodHandle" ∧ y.cls ≠ "java/lang/invoke/VarHandle") (w : (Jvm.Cond.declares y).before a0 Z = true) (nf : NotFace Z y) : (Jvm.Cond.sameMethod y.cls y.cls y.name y.desc).before a0 Z = true := by
  obtain ⟨mk, methM, hnamed, hmethM, -, -⟩ := Jvm.Cond.declares_spec w
  obtain ⟨kr, hk, hi⟩ := nf mk hnamed
  have e1 := State.methodFound?_of_named hnamed hy
  have e2 := findClass_of_methodNamed hnamed
  have e3 : Z.methodNamed? ⟨y.cls, y.name, y.desc⟩ = some mk := hnamed
  simp [Jvm.Cond.before, Jvm.Cond.holds, Jvm.Cond.value, e1, e2, e3, hk, hi]
/-- invokespecial of a method of the class above -/
theorem k_callX (hx : p.tables.exec = Jvm.exec) {index : Nat} {K : String} {y : MethodName} {bytes : ByteArray} {maxL : Nat} {ret : Option FieldType} (w1 : (Jvm.Cond.methodLink own index y).before a0 Z = true) (w2 : (Jvm.Cond.sameMethod y.cls y.cls y.name y.desc).before a0 Z = true) (w3 : (Jvm.Cond.instanceMethod y).before a0 Z = true) (w4 : (Jvm.Cond.superclass own y.cls).before a0 Z = true) (hn : y.name ≠ "<init>") (wc : (Jvm.Cond.code y bytes maxL ret).before a0 Z = true)
    {W kc ks : Nat} {Qc : Option Value → Heap → (Addr → Prop) → Prop} {a : Addr} {argsL rest : List Value} (hK : Pays l R p e below s args Z EL n0 bk h y 3 W kc ks (.ref a :: argsL).toArray Qc) (E : Ins Z h a K true)
    (hg : g.method = m) (hsize : g.locals.size = c.maxLocals) (hlen : ∀ sig, parseMethodDescriptor y.desc = some sig → argsL.length = sig.parameters.length) (hstack : g.stack = argsL.reverse ++ .ref a :: rest) (hW : 2 * g.monitorRoom + (rest.map fun v => v.category).sum ≤ W) (hd : decode c.code g.pc = .ok (.invokespecial index, 3)) (hc : cells + kc ≤ R.cells) (hs : slots + ks ≤ R.slots)
    (k : ∀ v h' bk', Old Z n0 h' → h.size ≤ h'.size → Qc v h' bk' → Run p l e R s m args below meth c Z EL own n0 bk' h' (cells + kc) (slots + ks) { g with pc := g.pc + 3, stack := v.toList ++ rest } Q) : Run p l e R s m args below meth c Z EL own n0 bk h cells slots g Q := fun vm0 T locs P => by
  have P' := P
  obtain ⟨X, e1, hS, hZ, ho, N, O, C, B, hE⟩ := P'
  exact k_back P (superBackS X hx hZ ho w1 w2 w3 w4 hn (hK vm0 hZ hE O C B) e1 E hg hsize wc hlen hstack hW hd fun _ _ => ⟨rfl, e1, hc, hs⟩) k
/-- invokeinterface -/
theorem k_face (hx : p.tables.exec = Jvm.exec) {index count : Nat} {C : String} {y z : MethodName} (w1 : (Jvm.Cond.methodLink own index y).before a0 Z = true) (w2 : (Jvm.Cond.declares y).before a0 Z = true) (w3 : (Jvm.Cond.interfaceMethod y.cls y.cls y.name y.desc).before a0 Z = true) (w4 : (Jvm.Cond.selects C y z).before a0 Z = true) (w5 : (Jvm.Cond.instanceMethod z).before a0 Z = true) (w6 : (Jvm.Cond.publicMethod z).before a0 Z = true) (w7 : (Jvm.Cond.unhidden C y.name y.desc).before a0 Z = true) (w8 : (Jvm.Cond.castable C y.cls).before a0 Z = true)
    (hfa : ((Jvm.Cond.interfaceMethod y.cls y.cls y.name y.desc).onTables && (Jvm.Cond.interfaceMethod y.cls y.cls y.name y.desc).keepsFace) = true) (hy : y.cls ≠ "java/lang/invoke/MethodHandle" ∧ y.cls ≠ "java/lang/invoke/VarHandle") {W kc ks : Nat} {Qc : Option Value → Heap → (Addr → Prop) → Prop} {a : Addr} {argsL rest : List Value} (hK : Pays l R p e below s args Z EL n0 bk h z 5 W kc ks (.ref a :: argsL).toArray Qc) (E : Exa Z h a C)
    (hg : g.method = m) (hsize : g.locals.size = c.maxLocals) (hlen : ∀ sig, parseMethodDescriptor y.desc = some sig → argsL.length = sig.parameters.length) (hstack : g.stack = argsL.reverse ++ .ref a :: rest) (hW : 2 * g.monitorRoom + (rest.map fun v => v.category).sum ≤ W) (hd : decode c.code g.pc = .ok (.invokeinterface index count, 5)) (hc : cells + kc ≤ R.cells) (hs : slots + ks ≤ R.slots)
    (k : ∀ v h' bk', Old Z n0 h' → h.size ≤ h'.size → Qc v h' bk' → Run p l e R s m args below meth c Z EL own n0 bk' h' (cells + kc) (slots + ks) { g with pc := g.pc + 5, stack := v.toList ++ rest } Q) : Run p l e R s m args below meth c Z EL own n0 bk h cells slots g Q := fun vm0 T locs P => by
  have P' := P
  obtain ⟨X, e1, hS, hZ, ho, N, O, C, B, hE⟩ := P'
  obtain ⟨cq, kq, qa, qb, qc⟩ := isOf (s := s.setVm vm0) hZ e1 E
  exact k_back P (X.interfaceBackS hx ho (mv hZ w1) (mv hZ w2) (mv hZ w3 hfa) (mv hZ w4) (mv hZ w5) (mv hZ w6) (mv hZ w7) (mv hZ w8) hy (hK vm0 hZ hE O C B) qa qb qc hg hsize (Steps.refl _) hlen hstack hW hd fun _ _ => ⟨rfl, e1, hc, hs⟩) k
/-! String constants -/
theorem k_ldcO (hx : p.tables.exec = Jvm.exec) {text : String} {index : Nat} (w : (Jvm.Cond.stringLink own index text).before a0 Z = true) (wS : ∀ a ∈ Bundle.stringAtoms, a.before a0 Z = true) (hg : g.method = m) (hd : decode c.code g.pc = .ok (.ldc index, 2)) {n : Nat} (hn : 4 * text.toList.length ≤ n) (hbig : n ≤ 536870912) (hc : cells + 2 ≤ R.cells) (hl : slots + (n + 4) ≤ R.slots)
    (k : ∀ h' a bk', Old Z n0 h' → Ext h h' → (∀ y, bk' y → bk y ∨ (h.size ≤ y ∧ y < h'.size)) → Run p l e R s m args below meth c Z EL own n0 bk' h' (cells + 2) (slots + (n + 4)) { g with pc := g.pc + 2, stack := .ref a :: g.stack } Q) : Run p l e R s m args below meth c Z EL own n0 bk h cells slots g Q := fun vm0 T locs P => by
  obtain ⟨X, e1, ⟨k0, hS, hk⟩, hZ, ho, N, O, C, B, a1, hE⟩ := P
  obtain ⟨a, T', h', k1, X', e2, E, hS', hk', hZ', ho', hC, -, st⟩ := ldcOH X hx hZ ho w wS e1 hS hk hE C hg hd hn hbig hc hl
  obtain ⟨U, o, h1, r⟩ := k h' a (fun y => bk y ∨ (h.size ≤ y ∧ y < h'.size)) (O.ext E) E (fun _ q => q) T'.vm T' locs ⟨X', e2, ⟨k1, hS', hk'⟩, hZ', ho', N, O.ext E, hC.1, fun y q => (hC.2.2 y q).imp (B y) fun r => ⟨r, (Array.getElem?_eq_some_iff.mp (Bk.there q).choose_spec).1⟩, a1, hE⟩
  exact ⟨U, o, st _ h1, r⟩
/-- where no constant is read -/
theorem k_ldc0 (hEL : EL = []) (hx : p.tables.exec = Jvm.exec) {text : String} {index : Nat} (w : (Jvm.Cond.stringLink own index text).before a0 Z = true) (wS : ∀ a ∈ Bundle.stringAtoms, a.before a0 Z = true) (hg : g.method = m) (hd : decode c.code g.pc = .ok (.ldc index, 2)) {n : Nat} (hn : 4 * text.toList.length ≤ n) (hbig : n ≤ 536870912) (hc : cells + 2 ≤ R.cells) (hl : slots + (n + 4) ≤ R.slots)
    (k : ∀ h' a, Old Z n0 h' → Ext h h' → Run p l e R s m args below meth c Z EL own n0 bk h' (cells + 2) (slots + (n + 4)) { g with pc := g.pc + 2, stack := .ref a :: g.stack } Q) : Run p l e R s m args below meth c Z EL own n0 bk h cells slots g Q := fun vm0 T locs P => by
  subst hEL
  obtain ⟨X, e1, ⟨k0, hS, hk⟩, hZ, ho, N, O, C, B, a1, hE⟩ := P
  obtain ⟨a, T', h', k1, X', e2, E, hS', hk', hZ', ho', hC, -, st⟩ := ldcOH X hx hZ ho w wS e1 hS hk hE C hg hd hn hbig hc hl
  obtain ⟨U, o, h1, r⟩ := k h' a (O.ext E) E T'.vm T' locs ⟨X', e2, ⟨k1, hS', hk'⟩, hZ', ho', N, O.ext E, hC.1, (fun y q => by obtain ⟨p, hp, -⟩ := q; cases hp), a1, hE⟩
  exact ⟨U, o, st _ h1, r⟩
/-- a constant that is read -/
theorem k_ldcC (hx : p.tables.exec = Jvm.exec) {text : String} {index : Nat} (w : (Jvm.Cond.stringLink own index text).before a0 Z = true) (wS : ∀ a ∈ Bundle.stringAtoms, a.before a0 Z = true) (hmem : (own, index) ∈ EL) {vs : List Value} {z : Int32} (ht : (∀ c ∈ text.toList, c.toNat < 256) ∧ text.toList.map (fun c => Value.int (Jvm.Lit.byteI c.toNat.toUInt16)) = vs) (hz : ¬ z < 0) (hzl : z.toNatClampNeg = vs.length)
    (hg : g.method = m) (hd : decode c.code g.pc = .ok (.ldc index, 2)) {n : Nat} (hn : 4 * text.toList.length ≤ n) (hbig : n ≤ 536870912) (hc : cells + 2 ≤ R.cells) (hl : slots + (n + 4) ≤ R.slots)
    (k : ∀ h' a b kb bk', Old Z n0 h' → Ext h h' → (∀ y, bk' y → bk y ∨ (h.size ≤ y ∧ y < h'.size)) → Exa Z h' a "java/lang/String" → Fld Z h' a "java/lang/String" "coder" "B" (.int 0) → Fld Z h' a "java/lang/String" "value" "[B" (.ref b) → Arv Z h' b kb .byte z vs (.int 0) → (∀ x, x < h.size → ¬ bk x → x ≠ a ∧ x ≠ b) →
      Run p l e R s m args below meth c Z EL own n0 bk' h' (cells + 2) (slots + (n + 4)) { g with pc := g.pc + 2, stack := .ref a :: g.stack } Q) : Run p l e R s m args below meth c Z EL own n0 bk h cells slots g Q := fun vm0 T locs P => by
  obtain ⟨X, e1, ⟨k0, hS, hk⟩, hZ, ho, N, O, C, B, a1, hE⟩ := P
  obtain ⟨a, T', h', k1, b, kb, X', e2, E, hS', hk', hZ', ho', r1, r2, r3, r4, -, -, hC, -, r5, st⟩ := ldcCH X hx hZ ho w wS e1 hS hk hE hmem C ht hz hzl hg hd hn hbig hc hl
  obtain ⟨U, o, h1, r⟩ := k h' a b kb (fun y => bk y ∨ (h.size ≤ y ∧ y < h'.size)) (O.ext E) E (fun _ q => q) r1 r2 r3 r4 (fun x lt nb => r5 x fun q => (hC.2.2 x q).elim (fun q => nb (B x q)) fun q => absurd lt (Nat.not_lt.mpr q)) T'.vm T' locs ⟨X', e2, ⟨k1, hS', hk'⟩, hZ', ho', N, O.ext E, hC.1, fun y q => (hC.2.2 y q).imp (B y) fun r => ⟨r, (Array.getElem?_eq_some_iff.mp (Bk.there q).choose_spec).1⟩, a1, hE⟩
  exact ⟨U, o, st _ h1, r⟩
/-! two natives -/
theorem k_cpA (hx : p.tables.exec = Jvm.exec) {index : Nat} (w1 : (Jvm.Cond.methodLink own index Jvm.Stand.acN).before a0 Z = true) (w2 : (Jvm.Cond.native Jvm.Stand.acN).before a0 Z = true) (w3 : (Jvm.Cond.static Jvm.Stand.acN).before a0 Z = true) (w4 : (Jvm.Cond.initialized "java/lang/System").before a0 Z = true)
    {a b : Addr} {ka kb : ClassId} {ty ty' : FieldType} {z z' sp dp nn : Int32} {vs vd us : List Value} {dv dd : Value} (A : Arv Z h a ka ty z vs dv) (B : Arv Z h b kb ty' z' vd dd) (hty : (ty = ty' ∧ refKind ty = false) ∨ (refKind ty = true ∧ refKind ty' = true ∧ StoL Z h b us))
    (h1 : ¬ sp < 0) (h2 : ¬ dp < 0) (h3 : ¬ nn < 0) (h4 : sp.toNatClampNeg + nn.toNatClampNeg ≤ z.toNatClampNeg) (h5 : dp.toNatClampNeg + nn.toNatClampNeg ≤ z'.toNatClampNeg) (hus : us = (List.range nn.toNatClampNeg).map fun i => vs.getD (sp.toNatClampNeg + i) dv) (hvl : dp.toNatClampNeg + nn.toNatClampNeg ≤ vd.length) (ge : n0 ≤ b) (nb : ¬ bk b)
    (hg : g.method = m) (hsize : g.locals.size = c.maxLocals) {rest : List Value} (hs : g.stack = .int nn :: .int dp :: .ref b :: .int sp :: .ref a :: rest) (hd : decode c.code g.pc = .ok (.invokestatic index, 3)) (hf : 1 ≤ R.frames) {W : Nat} (hW : 2 * g.monitorRoom + (rest.map fun v => v.category).sum ≤ W) (hlo : W + (nativeFrameWords "java/lang/System" "arraycopy" 5 + 11) ≤ R.locals)
    (k : ∀ h', Old Z n0 h' → Keep h h' [b] → Arv Z h' b kb ty' z' (vd.take dp.toNatClampNeg ++ us ++ vd.drop (dp.toNatClampNeg + nn.toNatClampNeg)) dd → Run p l e R s m args below meth c Z EL own n0 bk h' cells slots { g with pc := g.pc + 3, stack := rest } Q) : Run p l e R s m args below meth c Z EL own n0 bk h cells slots g Q := fun vm0 T locs P => by
  obtain ⟨X, e1, ⟨k0, hS, hk⟩, hZ, ho, N, O, C, Bb, hE⟩ := P
  obtain ⟨T', h', L, X', e2, N', K, V, st⟩ := cpA X hx hZ ho w1 w2 w3 w4 e1 A B hty h1 h2 h3 h4 h5 hus hvl N ge hg hsize hs hd hf hW hlo
  have r' := ne_of_keep K C (fun q => nb (Bb b q))
  obtain ⟨U, o, q1, r⟩ := k h' (O.keep K (allS ge all0)) K V vm0 T' L ⟨X', e2, ⟨k0, hS, Nat.le_trans hk K.1⟩, hZ, ho, N', O.keep K (allS ge all0), r'.1, fun y q => Bb y (r'.2 y q), hE⟩
  exact ⟨U, o, st _ q1, r⟩
theorem k_clone (hx : p.tables.exec = Jvm.exec) {ad : String} {index : Nat} (w1 : (Jvm.Cond.methodLink own index ⟨ad, "clone", "()Ljava/lang/Object;"⟩).before a0 Z = true) (w2 : (Jvm.Cond.sameMethod ad "java/lang/Object" "clone" "()Ljava/lang/Object;").before a0 Z = true) (w3 : (Jvm.Cond.native ⟨"java/lang/Object", "clone", "()Ljava/lang/Object;"⟩).before a0 Z = true)
    (w4 : (Jvm.Cond.instanceMethod ⟨"java/lang/Object", "clone", "()Ljava/lang/Object;"⟩).before a0 Z = true) (w5 : (Jvm.Cond.selects ad ⟨ad, "clone", "()Ljava/lang/Object;"⟩ ⟨"java/lang/Object", "clone", "()Ljava/lang/Object;"⟩).before a0 Z = true) (w6 : (Jvm.Cond.castable ad "java/lang/Cloneable").before a0 Z = true)
    {a : Addr} {kA : ClassId} {ty : FieldType} {z : Int32} {vs : List Value} {dv : Value} (F : Arv Z h a kA ty z vs dv) (E : Exa Z h a ad) (hg : g.method = m) (hsize : g.locals.size = c.maxLocals) {rest : List Value} (hst : g.stack = .ref a :: rest) (hd : decode c.code g.pc = .ok (.invokevirtual index, 3)) (hf : 1 ≤ R.frames) {W cap : Nat} (hW : 2 * g.monitorRoom + (rest.map fun v => v.category).sum ≤ W) (hl : W + 14 ≤ R.locals) (hcap : z.toNatClampNeg ≤ cap) (hc : cells + 1 ≤ R.cells) (hsl : slots + cap ≤ R.slots)
    (k : ∀ h' a, a = h.size → Old Z n0 h' → Ext h h' → Arv Z h' a kA ty z vs dv → Exa Z h' a ad → Run p l e R s m args below meth c Z EL own n0 bk h' (cells + 1) (slots + cap) { g with pc := g.pc + 3, stack := .ref a :: rest } Q) : Run p l e R s m args below meth c Z EL own n0 bk h cells slots g Q :=
  k_grow (F := fun h' g' => g' = { g with pc := g.pc + 3, stack := .ref h.size :: rest } ∧ Arv Z h' h.size kA ty z vs dv ∧ Exa Z h' h.size ad)
    (fun s' T locs X e1 hZ ho => by
      obtain ⟨T', h', X', e2, E', A, D, st⟩ := cloneH X hx hZ ho w1 w2 w3 w4 w5 w6 e1 (Arv.arh F) E hg hsize hst hd hf hW hl hcap hc hsl
      exact ⟨T', h', _, X', e2, E', ⟨rfl, A, D⟩, st⟩)
    (fun h' g' O E ⟨q, A, D⟩ => by subst q; exact k h' _ rfl O E A D)
end Kit

theorem s_irem {tb : Tables} [Ours tb] {e : Env} {below : List Frame} {T target : State} {m : MethodId} {c : Code} {g : JFrame} (h : At T m c below) (hx : tb.exec = Jvm.exec) (hg : g.method = m) {x y : Int32} {rest : List Value} (hd : decode c.code g.pc = .ok (.irem, 1)) (hs : g.stack = .int y :: .int x :: rest) (hy : y ≠ 0)
    (hr : Steps tb e below (T.setTop { g with pc := g.pc + 1, stack := .int (x % y) :: rest }) target) : Steps tb e below (T.setTop g) target := by
  have q : x - x / y * y = x % y := irem_eq_mod x y
  exact XS.irem h hx hg hd hs hy (by rw [q]; exact hr)
theorem kk0 {ws : List Addr} {n : Nat} : ∀ x ∈ ([] : List Addr), x ∈ ws ∨ n ≤ x := fun _ q => nomatch q
theorem kkS {ws L : List Addr} {n : Nat} {y : Addr} (q : y ∈ ws ∨ n ≤ y) (r : ∀ x ∈ L, x ∈ ws ∨ n ≤ x) : ∀ x ∈ y :: L, x ∈ ws ∨ n ≤ x := fun x z => (List.mem_cons.mp z).elim (fun u => u ▸ q) (r x)
theorem no_asg {Z : State} {a0 : Array Value} {C O K : String} {n : Nat} (w : (Jvm.Cond.superclass C O).before a0 Z = true) (wo : (Jvm.Cond.noSuperclass O).before a0 Z = true) (wk : (Jvm.Cond.instantiable K n).before a0 Z = true) (h1 : C ≠ K) (h2 : O ≠ K) : ∃ c t, Z.vm.findClass C = some c ∧ Z.vm.findClass K = some t ∧ Z.vm.assignable c t = false := by
  obtain ⟨c, hc⟩ := found_sup w
  obtain ⟨cO, k, kO, q1, q2, q3, q4, q5, -⟩ := Jvm.Cond.superclass_spec hc w
  obtain ⟨cO', kO', r1, r2, r3, -⟩ := Jvm.Cond.noSuperclass_spec wo
  cases q1.symm.trans r1
  obtain ⟨t, kt, t1, t2, t3, t4, -⟩ := Jvm.Cond.instantiable_spec wk
  have n1 := ids_ne hc t1 h1
  have n2 := ids_ne q1 t1 h2
  have sub2 : ∀ f, Z.vm.isSubclassAux f cO t = false := fun f => by cases f <;> simp [Vm.isSubclassAux, n2, r2, r3]
  have sub1 : ∀ f, Z.vm.isSubclassAux f c t = false := fun f => by cases f <;> simp [Vm.isSubclassAux, n1, q2, q4, sub2]
  have ti : kt.isInterface = false := by simp only [Bool.or_eq_false_iff] at t4; exact t4.1
  refine ⟨c, t, hc, t1, ?_⟩
  show Z.vm.assignableAux (255 + 1) c t = false
  simp [Vm.assignableAux, n1, q2, t2, q5, t3, ti, Vm.isSubclass, sub1]
/-! from the words of a start to facts on its heap -/
theorem ev_int {args : Array Value} {s : State} {t : Term} {k : Int32} (h : (Jvm.Cond.eq t (.int k)).before args s = true) : t.eval args s none [] s = some (.int k) := by
  obtain ⟨x, y, e1, e2, k1, -⟩ := cmp_v (Or.inl (Cond.before_iff.mp h))
  rw [Term.int_eval] at e2
  cases e2
  cases x with
  | int z => have := gotT (Cond.eq_ints e1 (Term.int_eval k)) (Cond.before_iff.mp h); rw [e1, this]
  | _ => exact absurd k1 (by simp [Kin, Value.isRef])
theorem ev_long {args : Array Value} {s : State} {t : Term} {k : Int64} (h : (Jvm.Cond.eq t (.long k)).before args s = true) : t.eval args s none [] s = some (.long k) := by
  obtain ⟨x, y, e1, e2, k1, -⟩ := cmp_v (Or.inl (Cond.before_iff.mp h))
  rw [long_at] at e2
  cases e2
  cases x with
  | long z => have := gotT (eq_L e1 (long_at k)) (Cond.before_iff.mp h); rw [e1, this]
  | _ => exact absurd k1 (by simp [Kin, Value.isRef])
theorem exa_start {args : Array Value} {s : State} {t : Term} {C : String} (h : (Jvm.Cond.exactly t C).before args s = true) : ∃ a, t.eval args s none [] s = some (.ref a) ∧ Exa s s.heap a C := by
  obtain ⟨a, e⟩ := exa_v (Cond.before_iff.mp h)
  exact ⟨a, e, Exa.start e (Cond.before_iff.mp h)⟩
theorem fld_start {args : Array Value} {s : State} {t : Term} {a : Addr} {C n d : String} {v : Value} (ht : t.eval args s none [] s = some (.ref a)) (hv : (Term.field t C n d).eval args s none [] s = some v) : Fld s s.heap a C n d v := Fld.start (by rw [← fld_at ht]; exact hv)
theorem s_pop2L {tb : Tables} [Ours tb] {e : Env} {below : List Frame} {T target : State} {m : MethodId} {c : Code} {g : JFrame} (h : At T m c below) (hx : tb.exec = Jvm.exec) (hg : g.method = m) {x : Int64} {rest : List Value} (hd : decode c.code g.pc = .ok (.pop2, 1)) (hs : g.stack = .long x :: rest)
    (hr : Steps tb e below (T.setTop { g with pc := g.pc + 1, stack := rest }) target) : Steps tb e below (T.setTop g) target := by
  subst hg
  jvm_step h [h.top, hx, hd, hs, pop2.wp_sem, Value.category]
  exact hr
theorem ne_ad {a b : Addr} (h : @Ne Nat a b) : a ≠ b := h

/-! naturals as ints -/
theorem lt_nat {i n : Nat} (h : i < n) (hn : n ≤ 4000) : Int32.ofNat i < Int32.ofNat n := by
  rw [Int32.lt_iff_toInt_lt, toInt_of rfl (by omega), toInt_of rfl (by omega)]; omega
theorem not_lt_nat {i n : Nat} (h : n ≤ i) (hn : i ≤ 4000) : ¬ Int32.ofNat i < Int32.ofNat n := by
  rw [Int32.lt_iff_toInt_lt, toInt_of rfl (by omega), toInt_of rfl (by omega)]; omega
theorem idx_ok {i n : Nat} (h : i < n) (hn : n ≤ 4000) : ¬ Int32.ofNat i < 0 ∧ Int32.ofNat i < Int32.ofNat n := ⟨not_lt_nat (n := 0) (Nat.zero_le _) (by omega), lt_nat h hn⟩
theorem clampN {i : Nat} (h : i ≤ 4000) : (Int32.ofNat i).toNatClampNeg = i := clamp_of rfl (by omega)
theorem getD_mem (cs : List Int32) (i : Nat) (h : i < cs.length) : cs.getD i 0 ∈ cs := by
  rw [List.getD_eq_getElem?_getD, List.getElem?_eq_getElem h]; exact List.getElem_mem h
theorem getD_int (bs : List Int32) {i : Nat} (h : i ≤ 4000) : (bs.map Value.int).getD (Int32.ofNat i).toNatClampNeg (.int 0) = .int (bs.getD i 0) := by
  rw [clampN h, List.getD_eq_getElem?_getD, List.getD_eq_getElem?_getD, List.getElem?_map]
  cases bs[i]? <;> rfl
theorem take_succ_eq {as bs : List Int32} {i : Nat} (h : as.take i = bs.take i) (ha : i < as.length) (hb : i < bs.length) (e : as.getD i 0 = bs.getD i 0) : as.take (i + 1) = bs.take (i + 1) := by
  rw [List.take_add_one, List.take_add_one, h, List.getElem?_eq_getElem ha, List.getElem?_eq_getElem hb]
  rw [List.getD_eq_getElem?_getD, List.getD_eq_getElem?_getD, List.getElem?_eq_getElem ha, List.getElem?_eq_getElem hb, Option.getD_some, Option.getD_some] at e
  rw [e]
theorem take_ne {as bs : List Int32} {i : Nat} (hi : i < bs.length) (e : ¬ as.getD i 0 = bs.getD i 0) : ¬ as.take bs.length = bs := fun q => e (by
  rw [List.getD_eq_getElem?_getD, List.getD_eq_getElem?_getD]
  have r := congrArg (fun l => l[i]?) q
  simp only [List.getElem?_take, if_pos hi] at r
  rw [r])
/-! words on arrays of the start -/
theorem fit_of {s : State} (hF : (s.heap.all fun c => (List.range c.slots.size).all fun i => match c.slots[i]? with | some v => s.fitsSlot c.cls c.vm i v | none => true) = true) : Fit s := by
  intro x c hc i hi
  obtain ⟨ha, rfl⟩ := Array.getElem?_eq_some_iff.mp hc
  have q := List.all_eq_true.mp ((Array.all_eq_true_iff_forall_mem.mp hF) _ (Array.getElem_mem ha)) i (List.mem_range.mpr hi)
  simpa [Array.getElem?_eq_getElem hi] using q
theorem ev_ref {args : Array Value} {s : State} {t u : Term} {a : Addr} (h : (Jvm.Cond.eq t u).value args s none s [] = some true) (hu : u.eval args s none [] s = some (.ref a)) : t.eval args s none [] s = some (.ref a) := by
  obtain ⟨x, y, e1, e2, k1, k2⟩ := cmp_v (Or.inl h)
  cases hu.symm.trans e2
  have hx : x.isRef = true := by cases x <;> simp_all [Kin, Value.isRef]
  have := gotT (eq_R e1 hu hx rfl) h
  rw [e1, this]
theorem arv_start {args : Array Value} {s : State} {t : Term} {a : Addr} {ty : FieldType} {z : Int32} {vs : List Value} {dv : Value} (hf : Fit s) (ht : t.eval args s none [] s = some (.ref a)) (hx : (Jvm.Cond.arrayOf t ty).value args s none s [] = some true) (hl : (Term.length t).eval args s none [] s = some (.int z)) (hz : ¬ z < 0) (hn : z.toNatClampNeg = vs.length) (H : ∀ cl : Cell, s.heap[a]? = some cl → HasL cl 0 vs) : ∃ k, Arv s s.heap a k ty z vs dv := by
  obtain ⟨cl, A⟩ := Arr.start ht hx
  obtain ⟨b, cell, e1, e2, e3, e4⟩ := Jvm.Lib.length_spec hl
  have eb : a = b := Value.ref.inj (Option.some.inj (ht.symm.trans e1))
  have ec : cell = cl := Option.some.inj (e2.symm.trans (eb ▸ Arr.fin (Vm.Alike.refl _) A))
  have ez : z = cell.slots.size.toInt32 := Value.int.inj e4
  rw [ec] at ez e3
  exact ⟨_, Arv.start hf A e3 ez.symm hz hn (H _ A.1)⟩

/-- a local that holds nothing yet, or an int -/
def SlI (s : Slot) : Prop := s = .unset ∨ ∃ u : Int32, s = .val (.int u)

def EL1 : List (String × Nat) := []
def NoB : Addr → Prop := fun _ => False
def Ctx (Z : State) (a0 : Array Value) (G1 : Int32) (G3 : Value) : Prop := (∀ d ∈ tables_1, d.before a0 Z = true) ∧ EW Z a0 EL1 ∧ Sta Z Z.heap "java/lang/String" "COMPACT_STRINGS" "Z" (.int G1) ∧ ¬ (G1 = (0 : Int32)) ∧ Sta Z Z.heap "jdk/internal/util/Preconditions" "SIOOBE_FORMATTER" "Ljava/util/function/BiFunction;" G3 ∧ G3.isRef = true
theorem sa_of {Z : State} {a0 : Array Value} (hw : ∀ d ∈ tables_1, d.before a0 Z = true) : ∀ a ∈ Bundle.stringAtoms, a.before a0 Z = true := fun d hd => hw d ((by decide +kernel : ∀ d ∈ Bundle.stringAtoms, d ∈ tables_1) d hd)
section StrKit
def StrL (Z : State) (h : Heap) (a t : Addr) (kb : ClassId) (cs : List Int32) : Prop := Exa Z h a "java/lang/String" ∧ Fld Z h a "java/lang/String" "coder" "B" (.int 0) ∧ Fld Z h a "java/lang/String" "value" "[B" (.ref t) ∧ Arv Z h t kb .byte (Int32.ofNat cs.length) ((cs.map (fun c => c.toInt8.toInt32)).map Value.int) (.int 0) ∧ (∀ c ∈ cs, ¬ c < 0 ∧ ¬ (255 : Int32) < c) ∧ cs.length ≤ 4000
variable {Z : State} {h h' : Heap} {a t b : Addr} {kb : ClassId} {cs ds : List Int32} {ws : List Addr} {sl : Nat} {v : Value}
theorem StrL.ext (S : StrL Z h a t kb cs) (E : Ext h h') : StrL Z h' a t kb cs := ⟨S.1.ext E, S.2.1.ext E, S.2.2.1.ext E, S.2.2.2.1.ext E, S.2.2.2.2⟩
theorem StrL.other (S : StrL Z h a t kb cs) (W : Wr h h' b sl v) (q1 : a ≠ b) (q2 : t ≠ b) : StrL Z h' a t kb cs := ⟨S.1.wr W, S.2.1.other W (Or.inl q1), S.2.2.1.other W (Or.inl q1), S.2.2.2.1.other W q2, S.2.2.2.2⟩
theorem StrL.keep (S : StrL Z h a t kb cs) (K : Keep h h' ws) (q1 : a ∉ ws) (q2 : t ∉ ws) : StrL Z h' a t kb cs := ⟨S.1.keep K, S.2.1.keep K q1, S.2.2.1.keep K q1, S.2.2.2.1.keep K q2, S.2.2.2.2⟩
theorem StrL.lt1 (S : StrL Z h a t kb cs) : a < h.size := S.1.lt
theorem StrL.lt2 (S : StrL Z h a t kb cs) : t < h.size := S.2.2.2.1.lt
theorem up_ch {cs : List Int32} (h : ∀ c ∈ cs, ¬ c < 0 ∧ ¬ (255 : Int32) < c) : ∀ c ∈ cs, ¬ c < 0 ∧ ¬ (65535 : Int32) < c := fun c hc => ⟨(h c hc).1, fun q => (h c hc).2 (by rw [Int32.lt_iff_toInt_lt] at q ⊢; have e1 : (65535 : Int32).toInt = 65535 := rfl; have e2 : (255 : Int32).toInt = 255 := rfl; omega)⟩
theorem StrL.cod (S : StrL Z h a t kb cs) : StrChars.Road.CodA cs 0 (Int32.ofNat cs.length) ((cs.map (fun c => c.toInt8.toInt32)).map Value.int) := StrChars.Road.codOf rfl (fun c hc => (S.2.2.2.2.1 c hc).2)
variable {p : Program} {l : Launch} {e : Env} {R : Room} {s : State} {args : Array Value} {below : List Frame} {n0 W : Nat} {bk : Addr → Prop} {a0 : Array Value}
theorem Pays.mono {EL : List (String × Nat)} {y : MethodName} {len kc ks : Nat} {as' : Array Value} {Q Q' : Option Value → Heap → (Addr → Prop) → Prop} (hP : Pays l R p e below s args Z EL n0 bk h y len W kc ks as' Q) (hq : ∀ v h' bk', Q v h' bk' → Q' v h' bk') : Pays l R p e below s args Z EL n0 bk h y len W kc ks as' Q' := fun vm0 hZ hE hO hC hB m meth c A g ig mk a X hg hsize hdg hW hn hp => by
  obtain ⟨v, B, X', r1, r2, ⟨L, bk', q1, q2⟩, st⟩ := hP vm0 hZ hE hO hC hB m meth c A g ig mk a X hg hsize hdg hW hn hp
  exact ⟨v, B, X', r1, r2, ⟨L, bk', hq _ _ _ q1, q2⟩, st⟩
theorem pay_len {G1 : Int32} {G3 : Value} (hX : Ctx Z a0 G1 G3) (O : Old Z n0 h) (S : StrL Z h a t kb cs) (hf : 2 ≤ R.frames) (hl : W + 25 ≤ R.locals) : Pays l R p e below s args Z EL1 n0 bk h (⟨"java/lang/String", "length", "()I"⟩ : MethodName) 3 W 0 0 #[.ref a] (fun v h' bk' => v = some (.int (Int32.ofNat cs.length)) ∧ h = h' ∧ bk = bk') :=
  Pays.of_same fun s' hZ => StrChars.Road.lenW hZ (fun d hd => hX.1 d ((by decide +kernel : ∀ d ∈ StrChars.Road.wordsLen, d ∈ tables_1) d hd)) (kI := 4) (hX.1 _ (List.mem_of_getElem? (i := 12) rfl)) S.1 S.2.2.1 S.2.1 S.2.2.2.1 S.cod (up_ch S.2.2.2.2.1) (hX.2.2.1.ext O.2) hX.2.2.2.1 S.2.2.2.2.2 hf hl
theorem pay_ch {G1 : Int32} {G3 : Value} (hX : Ctx Z a0 G1 G3) (O : Old Z n0 h) (S : StrL Z h a t kb cs) (i : Nat) (hi : i < cs.length) {j : Int32} (hj : j = Int32.ofNat i) (hf : 4 ≤ R.frames) (hl : W + 53 ≤ R.locals) : Pays l R p e below s args Z EL1 n0 bk h (⟨"java/lang/String", "charAt", "(I)C"⟩ : MethodName) 3 W 0 0 #[.ref a, .int j] (fun v h' bk' => v = some (.int (cs.getD i 0)) ∧ h = h' ∧ bk = bk') :=
  Pays.of_same fun s' hZ => StrChars.Road.chN hZ (fun d hd => hX.1 d ((by decide +kernel : ∀ d ∈ StrChars.Road.wordsChN, d ∈ tables_1) d hd)) (kI := 4) (hX.1 _ (List.mem_of_getElem? (i := 12) rfl)) S.1 S.2.2.1 S.2.1 S.2.2.2.1 S.cod (up_ch S.2.2.2.2.1) (hX.2.2.1.ext O.2) hX.2.2.2.1 (hX.2.2.2.2.1.ext O.2) hX.2.2.2.2.2 S.2.2.2.2.2 hi hj hf hl
theorem pay_emp {G1 : Int32} {G3 : Value} (hX : Ctx Z a0 G1 G3) (O : Old Z n0 h) (S : StrL Z h a t kb cs) (hf : 1 ≤ R.frames) (hl : W + 12 ≤ R.locals) : Pays l R p e below s args Z EL1 n0 bk h (⟨"java/lang/String", "isEmpty", "()Z"⟩ : MethodName) 3 W 0 0 #[.ref a] (fun v h' bk' => v = some (.int (if cs.length = 0 then 1 else 0)) ∧ h = h' ∧ bk = bk') :=
  Pays.of_same fun s' hZ => StrChars.Road.empW hZ (fun d hd => hX.1 d ((by decide +kernel : ∀ d ∈ StrChars.Road.wordsEmp, d ∈ tables_1) d hd)) (kI := 4) (hX.1 _ (List.mem_of_getElem? (i := 12) rfl)) S.1 S.2.2.1 S.2.1 S.2.2.2.1 S.cod (up_ch S.2.2.2.2.1) S.2.2.2.2.2 hf hl
theorem pay_new {G1 : Int32} {G3 : Value} (hX : Ctx Z a0 G1 G3) (O : Old Z n0 h) {x b : Addr} (nb : ¬ bk x) {v0 c0 d : Value} {kC : ClassId} {N : Int32} {cs : List Int32} (E : Exa Z h x "java/lang/String") (V : Fld Z h x "java/lang/String" "value" "[B" v0) (C : Fld Z h x "java/lang/String" "coder" "B" c0) (K : Arv Z h b kC .char N (cs.map Value.int) d) (n : Nat) (hn : cs.length = n) (hN : N = Int32.ofNat n) (l0 : 0 < n) (l2 : n ≤ 4000) (hp : ∀ c ∈ cs, ¬ c < 0 ∧ ¬ (255 : Int32) < c) (ge : n0 ≤ x) (hf : 4 ≤ R.frames) (hl : W + 65 ≤ R.locals) :
    Pays l R p e below s args Z EL1 n0 bk h (⟨"java/lang/String", "<init>", "([C)V"⟩ : MethodName) 3 W 1 n #[.ref x, .ref b] (fun v h' bk' => v = none ∧ bk = bk' ∧ Keep h h' [x] ∧ ∃ (t : Addr) (kb : ClassId), n0 ≤ t ∧ h.size ≤ t ∧ StrL Z h' x t kb cs) :=
  Pays.mono (Pays.of_keep (Qk := StrChars.Road.QV Z x N (cs.map (fun c => c.toInt8.toInt32)) h n0) nb ge (fun v h' L q => ⟨q.2.1, q.2.2.1⟩) fun s' hZ => StrChars.Road.backV hZ (fun d hd => hX.1 d ((by decide +kernel : ∀ d ∈ StrChars.Road.words, d ∈ tables_1) d hd)) (kI := 4) (hX.1 _ (List.mem_of_getElem? (i := 12) rfl)) ge (by rw [← O.1]; exact O.2.1) E V C K (hX.2.2.1.ext O.2) hX.2.2.2.1 hn hN l0 l2 hp rfl hf hl) fun v h' bk' q => by
    obtain ⟨⟨L, q1, q2, q3, q4, q5, t, kb, q6, q7, -, q8, q9⟩, r⟩ := q
    subst hn hN
    exact ⟨q1, r, q3, t, kb, q6, q7, q4, q5, q8, q9, hp, l2⟩
end StrKit

section UKit
/-- a String of chars of which one is above 255 -/
def StrU (Z : State) (h : Heap) (a t : Addr) (kb : ClassId) (cs : List Int32) : Prop := Exa Z h a "java/lang/String" ∧ Fld Z h a "java/lang/String" "coder" "B" (.int 1) ∧ Fld Z h a "java/lang/String" "value" "[B" (.ref t) ∧ Arv Z h t kb .byte (Int32.ofNat (2 * cs.length)) (StrChars.Road.wideBytes cs) (.int 0) ∧ (∀ c ∈ cs, ¬ c < 0 ∧ ¬ (65535 : Int32) < c) ∧ (∃ c ∈ cs, (255 : Int32) < c) ∧ cs.length ≤ 1900
variable {Z : State} {h h' : Heap} {a t b : Addr} {kb : ClassId} {cs ds : List Int32} {ws : List Addr} {sl : Nat} {v : Value}
theorem StrU.ext (S : StrU Z h a t kb cs) (E : Ext h h') : StrU Z h' a t kb cs := ⟨S.1.ext E, S.2.1.ext E, S.2.2.1.ext E, S.2.2.2.1.ext E, S.2.2.2.2⟩
theorem StrU.other (S : StrU Z h a t kb cs) (W : Wr h h' b sl v) (q1 : a ≠ b) (q2 : t ≠ b) : StrU Z h' a t kb cs := ⟨S.1.wr W, S.2.1.other W (Or.inl q1), S.2.2.1.other W (Or.inl q1), S.2.2.2.1.other W q2, S.2.2.2.2⟩
theorem StrU.keep (S : StrU Z h a t kb cs) (K : Keep h h' ws) (q1 : a ∉ ws) (q2 : t ∉ ws) : StrU Z h' a t kb cs := ⟨S.1.keep K, S.2.1.keep K q1, S.2.2.1.keep K q1, S.2.2.2.1.keep K q2, S.2.2.2.2⟩
theorem StrU.lt1 (S : StrU Z h a t kb cs) : a < h.size := S.1.lt
theorem StrU.lt2 (S : StrU Z h a t kb cs) : t < h.size := S.2.2.2.1.lt
theorem StrU.cod (S : StrU Z h a t kb cs) : StrChars.Road.CodA cs 1 (Int32.ofNat (2 * cs.length)) (StrChars.Road.wideBytes cs) := Or.inr ⟨rfl, rfl, rfl, S.2.2.2.2.2.1⟩
theorem StrU.len (S : StrU Z h a t kb cs) : cs.length ≤ 1900 := S.2.2.2.2.2.2
/-- a String known by its chars -/
def StrX (Z : State) (h : Heap) (a t : Addr) (kb : ClassId) (cs : List Int32) : Prop := StrL Z h a t kb cs ∨ StrU Z h a t kb cs
theorem StrX.ext (S : StrX Z h a t kb cs) (E : Ext h h') : StrX Z h' a t kb cs := S.imp (·.ext E) (·.ext E)
theorem StrX.other (S : StrX Z h a t kb cs) (W : Wr h h' b sl v) (q1 : a ≠ b) (q2 : t ≠ b) : StrX Z h' a t kb cs := S.imp (·.other W q1 q2) (·.other W q1 q2)
theorem StrX.keep (S : StrX Z h a t kb cs) (K : Keep h h' ws) (q1 : a ∉ ws) (q2 : t ∉ ws) : StrX Z h' a t kb cs := S.imp (·.keep K q1 q2) (·.keep K q1 q2)
theorem StrX.exa (S : StrX Z h a t kb cs) : Exa Z h a "java/lang/String" := S.elim (·.1) (·.1)
theorem StrX.lt1 (S : StrX Z h a t kb cs) : a < h.size := S.elim (·.lt1) (·.lt1)
theorem StrX.lt2 (S : StrX Z h a t kb cs) : t < h.size := S.elim (·.lt2) (·.lt2)
theorem StrX.len (S : StrX Z h a t kb cs) : cs.length ≤ 4000 := S.elim (fun S => S.2.2.2.2.2) (fun S => Nat.le_trans S.len (by decide))
theorem StrX.rng (S : StrX Z h a t kb cs) : ∀ c ∈ cs, ¬ c < 0 ∧ ¬ (65535 : Int32) < c := S.elim (fun S => up_ch S.2.2.2.2.1) (fun S => S.2.2.2.2.1)
variable {p : Program} {l : Launch} {e : Env} {R : Room} {s : State} {args : Array Value} {below : List Frame} {n0 W : Nat} {bk : Addr → Prop} {a0 : Array Value}
theorem Pays.more {EL : List (String × Nat)} {y : MethodName} {len kc ks kc' ks' : Nat} {as' : Array Value} {Q : Option Value → Heap → (Addr → Prop) → Prop} (hP : Pays l R p e below s args Z EL n0 bk h y len W kc ks as' Q) (h1 : kc ≤ kc') (h2 : ks ≤ ks') : Pays l R p e below s args Z EL n0 bk h y len W kc' ks' as' Q := fun vm0 hZ hE hO hC hB m meth c A g ig mk a X hg hsize hdg hW hn hp => by
  obtain ⟨v, B, X', r1, r2, ⟨L, bk', q1, q2, q3, q4, q5, q6, q7, q8⟩, st⟩ := hP vm0 hZ hE hO hC hB m meth c A g ig mk a X hg hsize hdg hW hn ⟨hp.1, hp.2.1, Nat.le_trans (Nat.add_le_add_left h1 _) hp.2.2.1, Nat.le_trans (Nat.add_le_add_left h2 _) hp.2.2.2⟩
  exact ⟨v, ⟨B.U, B.locs, A.cells + kc', A.slots + ks'⟩, X'.more (show B.cells ≤ A.cells + kc' by omega) (show B.slots ≤ A.slots + ks' by omega), r1, r2, ⟨L, bk', q1, q2, q3, q4, q5, q6, rfl, rfl⟩, st⟩
theorem pay_lenX {G1 : Int32} {G3 : Value} (hX : Ctx Z a0 G1 G3) (O : Old Z n0 h) (S : StrX Z h a t kb cs) (hf : 2 ≤ R.frames) (hl : W + 25 ≤ R.locals) : Pays l R p e below s args Z EL1 n0 bk h (⟨"java/lang/String", "length", "()I"⟩ : MethodName) 3 W 0 0 #[.ref a] (fun v h' bk' => v = some (.int (Int32.ofNat cs.length)) ∧ h = h' ∧ bk = bk') :=
  S.elim (fun S => pay_len hX O S hf hl) fun S => Pays.of_same fun s' hZ => StrChars.Road.lenW hZ (fun d hd => hX.1 d ((by decide +kernel : ∀ d ∈ StrChars.Road.wordsLen, d ∈ tables_1) d hd)) (kI := 4) (hX.1 _ (List.mem_of_getElem? (i := 12) rfl)) S.1 S.2.2.1 S.2.1 S.2.2.2.1 S.cod S.2.2.2.2.1 (hX.2.2.1.ext O.2) hX.2.2.2.1 (Nat.le_trans S.len (by decide)) hf hl
theorem pay_empX {G1 : Int32} {G3 : Value} (hX : Ctx Z a0 G1 G3) (O : Old Z n0 h) (S : StrX Z h a t kb cs) (hf : 1 ≤ R.frames) (hl : W + 12 ≤ R.locals) : Pays l R p e below s args Z EL1 n0 bk h (⟨"java/lang/String", "isEmpty", "()Z"⟩ : MethodName) 3 W 0 0 #[.ref a] (fun v h' bk' => v = some (.int (if cs.length = 0 then 1 else 0)) ∧ h = h' ∧ bk = bk') :=
  S.elim (fun S => pay_emp hX O S hf hl) fun S => Pays.of_same fun s' hZ => StrChars.Road.empW hZ (fun d hd => hX.1 d ((by decide +kernel : ∀ d ∈ StrChars.Road.wordsEmp, d ∈ tables_1) d hd)) (kI := 4) (hX.1 _ (List.mem_of_getElem? (i := 12) rfl)) S.1 S.2.2.1 S.2.1 S.2.2.2.1 S.cod S.2.2.2.2.1 (Nat.le_trans S.len (by decide)) hf hl
theorem StrX.cod (S : StrX Z h a t kb cs) : ∃ cd N2 vs, Exa Z h a "java/lang/String" ∧ Fld Z h a "java/lang/String" "value" "[B" (.ref t) ∧ Fld Z h a "java/lang/String" "coder" "B" (.int cd) ∧ Arv Z h t kb .byte N2 vs (.int 0) ∧ StrChars.Road.CodA cs cd N2 vs := S.elim (fun S => ⟨_, _, _, S.1, S.2.2.1, S.2.1, S.2.2.2.1, S.cod⟩) (fun S => ⟨_, _, _, S.1, S.2.2.1, S.2.1, S.2.2.2.1, S.cod⟩)
/-! chars and bytes -/
theorem u_toI {n : Nat} (h : n ≤ 100000) : (Int32.ofNat n).toInt = n := toInt_of rfl (by omega)
theorem u_shl1 {i : Nat} (h : i ≤ 2000) : (Int32.ofNat i) <<< ((1 : Int32) &&& 31) = Int32.ofNat (2 * i) := by
  apply Int32.toInt_inj.mp
  have r : (((Int32.ofNat i) <<< ((1 : Int32) &&& 31)).toInt - (Int32.ofNat i).toInt * 2) % 4294967296 = 0 := c_ishl (Int32.ofNat i) 1 1 (by decide)
  have q := rng32 ((Int32.ofNat i) <<< ((1 : Int32) &&& 31))
  rw [u_toI (by omega)] at r ⊢
  omega
theorem u_shr1 {n : Nat} (h : n ≤ 2000) : (Int32.ofNat (2 * n)) >>> ((1 : Int32) &&& 31) = Int32.ofNat n := by
  apply Int32.toInt_inj.mp
  have r : ((Int32.ofNat (2 * n)) >>> ((1 : Int32) &&& 31)).toInt = (Int32.ofNat (2 * n)).toInt / 2 := c_ishr (Int32.ofNat (2 * n)) 1 1 (by decide)
  rw [r, u_toI (by omega), u_toI (by omega)]
  omega
theorem u_shr0 (d : Int32) : d >>> ((0 : Int32) &&& 31) = d := by rw [show ((0 : Int32) &&& 31) = 0 from rfl]; simp
theorem u_narb (x : Int32) : nar .byte (x.toInt8.toInt32) = x.toInt8.toInt32 := by
  apply Int32.toInt_inj.mp
  have r : ((nar .byte (x.toInt8.toInt32)).toInt - (x.toInt8.toInt32).toInt) % 256 = 0 ∧ -128 ≤ (nar .byte (x.toInt8.toInt32)).toInt ∧ (nar .byte (x.toInt8.toInt32)).toInt < 128 := c_i2b (x.toInt8.toInt32)
  have q := c_i2b x
  omega
theorem u_pair {c : Int32} (h0 : ¬ c < 0) (h1 : ¬ (65535 : Int32) < c) : nar .char ((((c.toInt8.toInt32) &&& (255 : Int32)) <<< ((0 : Int32) &&& 31)) ||| ((((c >>> ((8 : Int32) &&& 31)).toInt8.toInt32) &&& (255 : Int32)) <<< ((8 : Int32) &&& 31))).toUInt32.toUInt16.toUInt32.toInt32 = c := by
  rw [Int32.lt_iff_toInt_lt] at h0 h1
  have e0 : (0 : Int32).toInt = 0 := rfl
  have e1 : (65535 : Int32).toInt = 65535 := rfl
  have a1 := c_i2b c
  have a2 : ((c.toInt8.toInt32) &&& (255 : Int32)).toInt = (c.toInt8.toInt32).toInt % 256 := c_mask _ 255 8 (by decide) (by decide)
  have b0 : (c >>> ((8 : Int32) &&& 31)).toInt = c.toInt / 256 := c_ishr c 8 8 (by decide)
  have b1 := c_i2b (c >>> ((8 : Int32) &&& 31))
  have b2 : (((c >>> ((8 : Int32) &&& 31)).toInt8.toInt32) &&& (255 : Int32)).toInt = ((c >>> ((8 : Int32) &&& 31)).toInt8.toInt32).toInt % 256 := c_mask _ 255 8 (by decide) (by decide)
  have a3 : ((((c.toInt8.toInt32) &&& (255 : Int32)) <<< ((0 : Int32) &&& 31)).toInt - ((c.toInt8.toInt32) &&& (255 : Int32)).toInt * 1) % 4294967296 = 0 := c_ishl _ 0 0 (by decide)
  have b3 : (((((c >>> ((8 : Int32) &&& 31)).toInt8.toInt32) &&& (255 : Int32)) <<< ((8 : Int32) &&& 31)).toInt - (((c >>> ((8 : Int32) &&& 31)).toInt8.toInt32) &&& (255 : Int32)).toInt * 256) % 4294967296 = 0 := c_ishl _ 8 8 (by decide)
  generalize ((c.toInt8.toInt32) &&& (255 : Int32)) <<< ((0 : Int32) &&& 31) = x at a3 ⊢
  generalize (((c >>> ((8 : Int32) &&& 31)).toInt8.toInt32) &&& (255 : Int32)) <<< ((8 : Int32) &&& 31) = y at b3 ⊢
  have rx := rng32 x
  have ry := rng32 y
  have o := c_or' x y 8 (by decide) 256 (by decide) (by omega) (by omega) (by omega)
  have ro := rng32 (x ||| y)
  have k1 := c_i2c (x ||| y)
  have k2 : ((nar .char (x ||| y).toUInt32.toUInt16.toUInt32.toInt32).toInt - ((x ||| y).toUInt32.toUInt16.toUInt32.toInt32).toInt) % 65536 = 0 ∧ 0 ≤ (nar .char (x ||| y).toUInt32.toUInt16.toUInt32.toInt32).toInt ∧ (nar .char (x ||| y).toUInt32.toUInt16.toUInt32.toInt32).toInt < 65536 := c_i2c _
  apply Int32.toInt_inj.mp
  omega
theorem u_nrc {c : Int32} (h0 : ¬ c < 0) (h1 : ¬ (65535 : Int32) < c) : nar .char c = c := by
  rw [Int32.lt_iff_toInt_lt] at h0 h1
  have e0 : (0 : Int32).toInt = 0 := rfl
  have e1 : (65535 : Int32).toInt = 65535 := rfl
  have q : ((nar .char c).toInt - c.toInt) % 65536 = 0 ∧ 0 ≤ (nar .char c).toInt ∧ (nar .char c).toInt < 65536 := c_i2c c
  apply Int32.toInt_inj.mp
  omega
theorem u_ne0 {n : Nat} (h : 0 < n) (h2 : n ≤ 4000) : ¬ Int32.ofNat n = (0 : Int32) := fun q => by
  have := congrArg Int32.toInt q
  rw [u_toI (by omega)] at this
  have e0 : (0 : Int32).toInt = 0 := rfl
  omega
theorem u_ne {a b : Nat} (h : a < b) (hb : b ≤ 4000) : ¬ Int32.ofNat a = Int32.ofNat b := fun q => by
  have := congrArg Int32.toInt q
  rw [u_toI (by omega), u_toI (by omega)] at this
  omega
theorem no_wide {cs : List Int32} {i : Nat} (q : ∀ j, j < i → ¬ (255 : Int32) < cs.getD j 0) (hi : i + 0 = cs.length) (hw : ∃ c ∈ cs, (255 : Int32) < c) : False := by
  obtain ⟨c, hc, r⟩ := hw
  obtain ⟨j, hj, rfl⟩ := List.getElem_of_mem hc
  refine q j (by omega) ?_
  rw [List.getD_eq_getElem?_getD, List.getElem?_eq_getElem hj]
  exact r
theorem wide_snoc {cs : List Int32} {i : Nat} (q : ∀ j, j < i → ¬ (255 : Int32) < cs.getD j 0) (r : ¬ (255 : Int32) < cs.getD i 0) : ∀ j, j < i + 1 → ¬ (255 : Int32) < cs.getD j 0 := fun j hj => by
  rcases Nat.lt_or_eq_of_le (Nat.le_of_lt_succ hj) with z | rfl
  · exact q j z
  · exact r
def Wd (cs : List Int32) (ws : List Value) (i : Nat) : Prop := ws.length = 2 * cs.length ∧ ∀ j, j < i → ws[2 * j]? = some (.int ((cs.getD j 0).toInt8.toInt32)) ∧ ws[2 * j + 1]? = some (.int (((cs.getD j 0) >>> ((8 : Int32) &&& 31)).toInt8.toInt32))
theorem Wd.zero (cs : List Int32) : Wd cs (([] : List Value) ++ List.replicate (2 * cs.length) (.int 0)) 0 := ⟨by simp, fun j h => absurd h (Nat.not_lt_zero _)⟩
theorem Wd.step {cs : List Int32} {ws : List Value} {i : Nat} (W : Wd cs ws i) (hi : i < cs.length) : Wd cs ((ws.set (2 * i) (.int ((cs.getD i 0).toInt8.toInt32))).set (2 * i + 1) (.int (((cs.getD i 0) >>> ((8 : Int32) &&& 31)).toInt8.toInt32))) (i + 1) := by
  have l1 := W.1
  refine ⟨by simp [l1], fun j hj => ?_⟩
  rcases Nat.lt_or_eq_of_le (Nat.le_of_lt_succ hj) with q | q
  · have r := W.2 j q
    rw [List.getElem?_set_ne (by omega), List.getElem?_set_ne (by omega), List.getElem?_set_ne (by omega), List.getElem?_set_ne (by omega)]
    exact r
  · subst q
    rw [List.getElem?_set_ne (by omega), List.getElem?_set_self (by first | omega | (simp; omega)), List.getElem?_set_self (by first | omega | (simp; omega))]
    exact ⟨rfl, rfl⟩
theorem wide_len : ∀ cs : List Int32, (StrChars.Road.wideBytes cs).length = 2 * cs.length
  | [] => rfl
  | c :: cs => by
    have := wide_len cs
    simp only [StrChars.Road.wideBytes, List.length_cons]
    omega
theorem wide_at : ∀ (cs : List Int32) (j : Nat), j < cs.length → (StrChars.Road.wideBytes cs)[2 * j]? = some (.int ((cs.getD j 0).toInt8.toInt32)) ∧ (StrChars.Road.wideBytes cs)[2 * j + 1]? = some (.int (((cs.getD j 0) >>> ((8 : Int32) &&& 31)).toInt8.toInt32))
  | [], j, h => absurd h (Nat.not_lt_zero _)
  | c :: cs, 0, h => ⟨rfl, rfl⟩
  | c :: cs, j + 1, h => by
    have q := wide_at cs j (by simpa using h)
    exact q
theorem Wd.done {cs : List Int32} {ws : List Value} {i : Nat} (W : Wd cs ws i) (hi : i + 0 = cs.length) : ws = StrChars.Road.wideBytes cs := by
  apply List.ext_getElem?
  intro k
  by_cases hk : k < 2 * cs.length
  · rcases (by omega : k = 2 * (k / 2) ∨ k = 2 * (k / 2) + 1) with q | q
    · rw [q, (W.2 (k / 2) (by omega)).1, (wide_at cs (k / 2) (by omega)).1]
    · rw [q, (W.2 (k / 2) (by omega)).2, (wide_at cs (k / 2) (by omega)).2]
  · rw [List.getElem?_eq_none (by have := W.1; omega), List.getElem?_eq_none (by rw [wide_len]; omega)]
theorem wide_lo' {cs : List Int32} {j : Nat} (h : j < cs.length) (h2 : cs.length ≤ 1900) : (StrChars.Road.wideBytes cs).getD (Int32.ofNat (2 * j)).toNatClampNeg (.int 0) = .int ((cs.getD j 0).toInt8.toInt32) := by
  rw [clampN (by omega), List.getD_eq_getElem?_getD, (wide_at cs j h).1]; rfl
theorem wide_hi' {cs : List Int32} {j : Nat} (h : j < cs.length) (h2 : cs.length ≤ 1900) : (StrChars.Road.wideBytes cs).getD (Int32.ofNat (2 * j + 1)).toNatClampNeg (.int 0) = .int (((cs.getD j 0) >>> ((8 : Int32) &&& 31)).toInt8.toInt32) := by
  rw [clampN (by omega), List.getD_eq_getElem?_getD, (wide_at cs j h).2]; rfl
theorem isref {g : Value} (h : g.isRef = true) : g = .null ∨ ∃ a, g = .ref a := by cases g <;> simp_all [Value.isRef]
end UKit

def Wide (Z : State) : Prop := (Sta Z Z.heap "java/lang/StringUTF16" "$assertionsDisabled" "Z" (.int (1 : Int32))) ∧ (Sta Z Z.heap "java/lang/StringUTF16" "HI_BYTE_SHIFT" "I" (.int (0 : Int32))) ∧ (Sta Z Z.heap "java/lang/StringUTF16" "LO_BYTE_SHIFT" "I" (.int (8 : Int32)))

theorem u_add {r k : Nat} {j : Int32} (hj : j = Int32.ofNat k) : Int32.ofNat r + j = Int32.ofNat (r + k) := by rw [hj, Int32.ofNat_add]
theorem u_sub {M r : Nat} (k : Nat) {j : Int32} (hj : j.toInt = k) (h : r + k = M) (h2 : M ≤ 4000) : Int32.ofNat M - j = Int32.ofNat r := by
  apply Int32.toInt_inj.mp
  have q := c_isub (Int32.ofNat M) j
  have z := rng32 (Int32.ofNat M - j)
  rw [u_toI (by omega), hj] at q
  rw [u_toI (by omega)]
  omega
def Ok8 : Nat → List Int32 → Nat → Prop
  | 0, cs, n => cs = [] ∧ n = 0
  | k + 1, cs, n => (cs = [] ∧ n = 0) ∨ (∃ c tl m, cs = c :: tl ∧ (0 ≤ c.toInt ∧ c.toInt < 128) ∧ n = m + 1 ∧ Ok8 k tl m) ∨ (∃ c tl m, cs = c :: tl ∧ (128 ≤ c.toInt ∧ c.toInt < 2048) ∧ n = m + 2 ∧ Ok8 k tl m) ∨ (∃ c tl m, cs = c :: tl ∧ (2048 ≤ c.toInt ∧ (c.toInt < 55296 ∨ 57344 ≤ c.toInt)) ∧ n = m + 3 ∧ Ok8 k tl m) ∨ (∃ c d tl m, cs = c :: d :: tl ∧ (55296 ≤ c.toInt ∧ c.toInt < 56320) ∧ (56320 ≤ d.toInt ∧ d.toInt < 57344) ∧ n = m + 4 ∧ Ok8 k tl m)
theorem Ok8.up : ∀ {k : Nat} {cs : List Int32} {n : Nat}, Ok8 k cs n → Ok8 (k + 1) cs n
  | 0, _, _, h => Or.inl h
  | k + 1, cs, n, h => by
    rcases h with h | ⟨c, tl, m, h1, h2, h3, h4⟩ | ⟨c, tl, m, h1, h2, h3, h4⟩ | ⟨c, tl, m, h1, h2, h3, h4⟩ | ⟨c, d, tl, m, h1, h2, h3, h4, h5⟩
    · exact Or.inl h
    · exact Or.inr (Or.inl ⟨c, tl, m, h1, h2, h3, h4.up⟩)
    · exact Or.inr (Or.inr (Or.inl ⟨c, tl, m, h1, h2, h3, h4.up⟩))
    · exact Or.inr (Or.inr (Or.inr (Or.inl ⟨c, tl, m, h1, h2, h3, h4.up⟩)))
    · exact Or.inr (Or.inr (Or.inr (Or.inr ⟨c, d, tl, m, h1, h2, h3, h4, h5.up⟩)))
theorem Ok8.c1 {k : Nat} {c : Int32} {tl : List Int32} {m : Nat} (h : Ok8 k tl m) (g : 0 ≤ c.toInt ∧ c.toInt < 128) : Ok8 (k + 1) (c :: tl) (m + 1) := Or.inr (Or.inl ⟨c, tl, m, rfl, g, rfl, h⟩)
theorem Ok8.c2 {k : Nat} {c : Int32} {tl : List Int32} {m : Nat} (h : Ok8 k tl m) (g : 128 ≤ c.toInt ∧ c.toInt < 2048) : Ok8 (k + 1) (c :: tl) (m + 2) := Or.inr (Or.inr (Or.inl ⟨c, tl, m, rfl, g, rfl, h⟩))
theorem Ok8.c3 {k : Nat} {c : Int32} {tl : List Int32} {m : Nat} (h : Ok8 k tl m) (g : 2048 ≤ c.toInt ∧ (c.toInt < 55296 ∨ 57344 ≤ c.toInt)) : Ok8 (k + 1) (c :: tl) (m + 3) := Or.inr (Or.inr (Or.inr (Or.inl ⟨c, tl, m, rfl, g, rfl, h⟩)))
theorem Ok8.c4 {k : Nat} {c d : Int32} {tl : List Int32} {m : Nat} (h : Ok8 k tl m) (g : 55296 ≤ c.toInt ∧ c.toInt < 56320) (g' : 56320 ≤ d.toInt ∧ d.toInt < 57344) : Ok8 (k + 1) (c :: d :: tl) (m + 4) := Or.inr (Or.inr (Or.inr (Or.inr ⟨c, d, tl, m, rfl, g, g', rfl, h⟩)))
theorem Ok8.rep {k : Nat} {tl : List Int32} {m : Nat} (h : Ok8 k tl m) : ∀ j, Ok8 (k + j) (List.replicate j 0 ++ tl) (m + j)
  | 0 => h
  | j + 1 => by
    have q := (h.rep j).c1 (c := 0) (by decide)
    rw [List.replicate_succ, List.cons_append]
    exact q
def Un (k x y b : Int32) : Prop := (0 ≤ x.toInt ∧ x.toInt < 128 ∧ 0 ≤ y.toInt ∧ y.toInt < 128 ∧ b.toInt = 2) ∨ (128 ≤ x.toInt ∧ x.toInt < 2048 ∧ 0 ≤ y.toInt ∧ y.toInt < 128 ∧ b.toInt = 3) ∨ (2048 ≤ x.toInt ∧ x.toInt < 65536 ∧ (x.toInt < 55296 ∨ 57344 ≤ x.toInt) ∧ 0 ≤ y.toInt ∧ y.toInt < 128 ∧ b.toInt = 4) ∨ ((k &&& (3 : Int32)).toInt = 3 ∧ 55296 ≤ x.toInt ∧ x.toInt < 56320 ∧ 56320 ≤ y.toInt ∧ y.toInt < 57344 ∧ b.toInt = 4)
theorem Un.b {k x y b : Int32} (h : Un k x y b) : 2 ≤ b.toInt ∧ b.toInt ≤ 4 := by unfold Un at h; omega
theorem Cof {c : Int32} (h : 0 ≤ c.toInt ∧ c.toInt < 65536) : ¬ c < 0 ∧ ¬ (65535 : Int32) < c := by
  have e0 : (0 : Int32).toInt = 0 := rfl
  have e1 : (65535 : Int32).toInt = 65535 := rfl
  refine ⟨?_, ?_⟩ <;> rw [Int32.lt_iff_toInt_lt] <;> omega
theorem Un.x {k x y b : Int32} (h : Un k x y b) : ¬ x < 0 ∧ ¬ (65535 : Int32) < x := Cof (by unfold Un at h; omega)
theorem Un.y {k x y b : Int32} (h : Un k x y b) : ¬ y < 0 ∧ ¬ (65535 : Int32) < y := Cof (by unfold Un at h; omega)
theorem Un.ok {k x y b : Int32} (h : Un k x y b) {f : Nat} {tl : List Int32} {m n : Nat} (o : Ok8 f tl m) (hn : n = m + b.toInt.toNat) : Ok8 (f + 2) (x :: y :: tl) n := by
  subst hn
  rcases h with h | h | h | h
  · have q := (o.c1 (c := y) (by omega)).c1 (c := x) (by omega)
    rw [show m + b.toInt.toNat = m + 1 + 1 by omega]; exact q
  · have q := (o.c1 (c := y) (by omega)).c2 (c := x) (by omega)
    rw [show m + b.toInt.toNat = m + 1 + 2 by omega]; exact q
  · have q := (o.c1 (c := y) (by omega)).c3 (c := x) (by omega)
    rw [show m + b.toInt.toNat = m + 1 + 3 by omega]; exact q
  · have q := (o.c4 (c := x) (d := y) (by omega) (by omega)).up
    rw [show m + b.toInt.toNat = m + 4 by omega]; exact q
theorem Un.one {k x y b : Int32} (h : Un k x y b) (hk : ¬ (k &&& (3 : Int32)) = (3 : Int32)) : ∃ n, n ≤ 200 ∧ Ok8 1 [x] n := by
  have o : Ok8 0 [] 0 := ⟨rfl, rfl⟩
  rcases h with h | h | h | h
  · exact ⟨0 + 1, by decide, o.c1 (by omega)⟩
  · exact ⟨0 + 2, by decide, o.c2 (by omega)⟩
  · exact ⟨0 + 3, by decide, o.c3 (by omega)⟩
  · exact absurd (Int32.toInt_inj.mp h.1) hk
theorem drop_cons {cs : List Int32} {i : Nat} {c : Int32} {tl : List Int32} (h : cs.drop i = c :: tl) : i < cs.length ∧ cs.getD i 0 = c ∧ cs.drop (i + 1) = tl := by
  have hi : i < cs.length := Nat.lt_of_not_le fun q => by rw [List.drop_of_length_le q] at h; cases h
  rw [List.drop_eq_getElem_cons hi] at h
  injection h with h1 h2
  exact ⟨hi, by rw [List.getD_eq_getElem?_getD, List.getElem?_eq_getElem hi]; exact h1, h2⟩
theorem drop_nil {cs : List Int32} {i : Nat} (h : cs.drop i = []) : cs.length ≤ i := List.drop_eq_nil_iff.mp h
def bigL (k : Nat) (x y z w : Int32) : List Int32 := List.replicate k 0 ++ [x, y, z, w]
theorem big_len (k : Nat) (x y z w : Int32) : (bigL k x y z w).length = k + 4 := by simp [bigL]
theorem big_eq (x y z w : Int32) : ∀ k : Nat, ((((([] : List Value) ++ List.replicate (k + 4) (Value.int (0 : Int32))).set k (Value.int x)).set (k + 1) (.int y)).set (k + 2) (.int z)).set (k + 3) (.int w) = (bigL k x y z w).map Value.int
  | 0 => rfl
  | k + 1 => by
    have q := big_eq x y z w k
    rw [List.nil_append] at q ⊢
    rw [show k + 1 + 4 = (k + 4) + 1 from rfl, List.replicate_succ, show k + 1 + 1 = (k + 1) + 1 from rfl, show k + 1 + 2 = (k + 2) + 1 from rfl, show k + 1 + 3 = (k + 3) + 1 from rfl, List.set_cons_succ, List.set_cons_succ, List.set_cons_succ, List.set_cons_succ, q]
    rfl
theorem big_rng {k : Nat} {x y z w : Int32} (h : ∀ c ∈ [x, y, z, w], ¬ c < 0 ∧ ¬ (65535 : Int32) < c) : ∀ c ∈ bigL k x y z w, ¬ c < 0 ∧ ¬ (65535 : Int32) < c := fun c hc => (List.mem_append.mp hc).elim (fun q => by rw [List.eq_of_mem_replicate q]; decide) (h c)
theorem rng4 {x y z w : Int32} (hx : ¬ x < 0 ∧ ¬ (65535 : Int32) < x) (hy : ¬ y < 0 ∧ ¬ (65535 : Int32) < y) (hz : ¬ z < 0 ∧ ¬ (65535 : Int32) < z) (hw : ¬ w < 0 ∧ ¬ (65535 : Int32) < w) : ∀ c ∈ [x, y, z, w], ¬ c < 0 ∧ ¬ (65535 : Int32) < c := by
  simp only [List.mem_cons, List.not_mem_nil, or_false]; rintro c (rfl | rfl | rfl | rfl) <;> assumption
theorem of_nat {r : Int32} {k : Nat} (h : r.toInt = k) (hk : k ≤ 4000) : r = Int32.ofNat k := by
  apply Int32.toInt_inj.mp
  rw [u_toI (by omega), h]

theorem ite_w {c : Int32} (h : (if (255 : Int32) < c then (0 : Int32) else 1) = 0) : (255 : Int32) < c := Classical.byContradiction fun q => by rw [if_neg q] at h; exact absurd h (by decide)
theorem ite_n {c : Int32} (h : ¬ (if (255 : Int32) < c then (0 : Int32) else 1) = 0) : ¬ (255 : Int32) < c := fun q => h (if_pos q)

def Q_nbl (Z : State) (G1 : Int32) (G3 : Value) (nn : Nat) (h0 : Heap) (n0 : Nat) (bk : Addr → Prop) (v : Option Value) (h : Heap) (bk' : Addr → Prop) : Prop := v = some (.int (Int32.ofNat (2 * nn))) ∧ h0 = h ∧ NoB = bk'
theorem d_jdk_52_m_3_0 : decode jdk_52_method_3_code 0 = .ok (.iload_n 0, 1) := by decide +kernel
theorem d_jdk_52_m_3_1 : decode jdk_52_method_3_code 1 = .ok (.ifCond .ge 11, 3) := by decide +kernel
theorem d_jdk_52_m_3_12 : decode jdk_52_method_3_code 12 = .ok (.iload_n 0, 1) := by decide +kernel
theorem d_jdk_52_m_3_13 : decode jdk_52_method_3_code 13 = .ok (.ldc 20, 2) := by decide +kernel
theorem d_jdk_52_m_3_15 : decode jdk_52_method_3_code 15 = .ok (.if_icmp .lt 40, 3) := by decide +kernel
theorem d_jdk_52_m_3_55 : decode jdk_52_method_3_code 55 = .ok (.iload_n 0, 1) := by decide +kernel
theorem d_jdk_52_m_3_56 : decode jdk_52_method_3_code 56 = .ok (.iconst 1, 1) := by decide +kernel
theorem d_jdk_52_m_3_57 : decode jdk_52_method_3_code 57 = .ok (.ishl, 1) := by decide +kernel
theorem d_jdk_52_m_3_58 : decode jdk_52_method_3_code 58 = .ok (.ireturn, 1) := by decide +kernel
abbrev RM_nbl : Room := { frames := 0, cells := 0, slots := 0, locals := 0 }
theorem ef_nbl (m : MethodId) (x0 : Int32) : entryFrame m #[(.int x0)] 1 = mkF m 0 #[.val (.int x0)] [] := by first | (simp [entryFrame, mkF, argsToLocals, Value.category]; done) | rfl
set_option maxRecDepth 65536 in
set_option maxHeartbeats 40000000 in
theorem rm_nbl (l : Launch) (Z : State) (a0 : Array Value) (G1 : Int32) (G3 : Value) (hX : Ctx Z a0 G1 G3) (hU : Wide Z) (n0 : Nat) (h0 : Heap) (O0 : Old Z n0 h0) (nn : Nat) (hn : nn ≤ 200) (ws : List Jvm.Cond) : Met l Z EL1 n0 NoB (⟨"java/lang/StringUTF16", "newBytesLength", "(I)I"⟩ : MethodName) jdk_52_method_3_code 1 (Option.some FieldType.int) RM_nbl #[(.int (Int32.ofNat nn))] h0 (Q_nbl Z G1 G3 nn h0 n0 NoB) ws := by
  have hX' := hX
  obtain ⟨hw, hE, S1, P1, S3, P3⟩ := hX'
  have hU' := hU
  obtain ⟨u1, u2, u3⟩ := hU'
  have hSA := sa_of hw
  have wT : ∀ (i : Nat) {d : Jvm.Cond}, tables_1[i]? = some d → d.before a0 Z = true := fun i d h => hw d (List.mem_of_getElem? h)
  have z0 : n0 ≤ h0.size := by rw [← O0.1]; exact O0.2.1
  refine Met.of (by decide +kernel) O0 hE ?_
  intro p e s m below meth c hx hby hml hret hlk hnm
  refine k_cast (ef_nbl m (Int32.ofNat nn)) ?_
  show Run p l e _ s m _ below meth c Z EL1 _ n0 NoB h0 0 0 (mkF m 0 #[.val (.int (Int32.ofNat nn))] []) _
  refine k_pure (g' := (mkF m 1 #[.val (.int (Int32.ofNat nn))] [(.int (Int32.ofNat nn))])) (fun TT HH tt kk => XS.iloadN HH hx rfl (hb hby d_jdk_52_m_3_0) rfl kk) ?_
  refine k_pure (g' := (mkF m 12 #[.val (.int (Int32.ofNat nn))] [])) (fun TT HH tt kk => XS.ifYes HH hx rfl (pc0 := 1) (pc' := 12) rfl (hb hby d_jdk_52_m_3_1) rfl ((if0 _ _).trans (flt (not_lt_nat (n := 0) (Nat.zero_le _) (by omega))).2.1) (by decide) (by decide) kk) ?_
  refine k_pure (g' := (mkF m 13 #[.val (.int (Int32.ofNat nn))] [(.int (Int32.ofNat nn))])) (fun TT HH tt kk => XS.iloadN HH hx rfl (hb hby d_jdk_52_m_3_12) rfl kk) ?_
  refine k_ldcI hx (wT 42 rfl) rfl (hb hby d_jdk_52_m_3_13) ?_
  show Run p l e _ s m _ below meth c Z EL1 _ n0 NoB h0 0 0 (mkF m 15 #[.val (.int (Int32.ofNat nn))] [(.int (1073741823 : Int32)), (.int (Int32.ofNat nn))]) _
  refine k_pure (g' := (mkF m 55 #[.val (.int (Int32.ofNat nn))] [])) (fun TT HH tt kk => XS.icmpYes HH hx rfl (pc0 := 15) (pc' := 55) rfl (hb hby d_jdk_52_m_3_15) rfl (tlt (by have r0 := rng32 (Int32.ofNat nn); have r1 : (1073741823 : Int32).toInt = 1073741823 := (by decide); have r2 := u_toI (n := nn) (by omega); rw [Int32.lt_iff_toInt_lt]; omega)).1 (by decide) (by decide) kk) ?_
  refine k_pure (g' := (mkF m 56 #[.val (.int (Int32.ofNat nn))] [(.int (Int32.ofNat nn))])) (fun TT HH tt kk => XS.iloadN HH hx rfl (hb hby d_jdk_52_m_3_55) rfl kk) ?_
  refine k_pure (g' := (mkF m 57 #[.val (.int (Int32.ofNat nn))] [(.int (1 : Int32)), (.int (Int32.ofNat nn))])) (fun TT HH tt kk => XS.iconst HH hx rfl (hb hby d_jdk_52_m_3_56) kk) ?_
  refine k_pure (g' := (mkF m 58 #[.val (.int (Int32.ofNat nn))] [(.int ((Int32.ofNat nn) <<< ((1 : Int32) &&& 31)))])) (fun TT HH tt kk => XS.ishl HH hx rfl (hb hby d_jdk_52_m_3_57) rfl kk) ?_
  rw [u_shl1 (by omega)]
  show Run p l e _ s m _ below meth c Z EL1 _ n0 NoB h0 0 0 (mkF m 58 #[.val (.int (Int32.ofNat nn))] [(.int (Int32.ofNat (2 * nn)))]) _
  exact k_retI hx hlk hret (hb hby d_jdk_52_m_3_58) (by decide) (by decide) ⟨rfl, rfl, rfl⟩
def Q_nbf (Z : State) (G1 : Int32) (G3 : Value) (nn : Nat) (h0 : Heap) (n0 : Nat) (bk : Addr → Prop) (v : Option Value) (h : Heap) (bk' : Addr → Prop) : Prop := ∃ (u : Addr), ∃ (ku : ClassId), v = some (.ref u) ∧ NoB = bk' ∧ Keep h0 h [] ∧ (Arv Z h u ku .byte (Int32.ofNat (2 * nn)) (([] : List Value) ++ List.replicate (2 * nn) (.int 0)) (.int 0)) ∧ (@LE.le Nat _ (Array.size h0) u)
theorem d_jdk_52_m_2_0 : decode jdk_52_method_2_code 0 = .ok (.iload_n 0, 1) := by decide +kernel
theorem d_jdk_52_m_2_1 : decode jdk_52_method_2_code 1 = .ok (.invokestatic 11, 3) := by decide +kernel
theorem pd__28_I_29_I : parseMethodDescriptor "(I)I" = some ⟨[.int], some .int⟩ := by decide +kernel
theorem d_jdk_52_m_2_4 : decode jdk_52_method_2_code 4 = .ok (.newarray .byte, 2) := by decide +kernel
theorem d_jdk_52_m_2_6 : decode jdk_52_method_2_code 6 = .ok (.areturn, 1) := by decide +kernel
abbrev RM_nbf : Room := { frames := 1, cells := 1, slots := 400, locals := 12 }
theorem ef_nbf (m : MethodId) (x0 : Int32) : entryFrame m #[(.int x0)] 1 = mkF m 0 #[.val (.int x0)] [] := by first | (simp [entryFrame, mkF, argsToLocals, Value.category]; done) | rfl
set_option maxRecDepth 65536 in
set_option maxHeartbeats 40000000 in
theorem rm_nbf (l : Launch) (Z : State) (a0 : Array Value) (G1 : Int32) (G3 : Value) (hX : Ctx Z a0 G1 G3) (hU : Wide Z) (n0 : Nat) (h0 : Heap) (O0 : Old Z n0 h0) (nn : Nat) (hn : nn ≤ 200) (ws : List Jvm.Cond) : Met l Z EL1 n0 NoB (⟨"java/lang/StringUTF16", "newBytesFor", "(I)[B"⟩ : MethodName) jdk_52_method_2_code 1 (Option.some (FieldType.array FieldType.byte)) RM_nbf #[(.int (Int32.ofNat nn))] h0 (Q_nbf Z G1 G3 nn h0 n0 NoB) ws := by
  have hX' := hX
  obtain ⟨hw, hE, S1, P1, S3, P3⟩ := hX'
  have hU' := hU
  obtain ⟨u1, u2, u3⟩ := hU'
  have hSA := sa_of hw
  have wT : ∀ (i : Nat) {d : Jvm.Cond}, tables_1[i]? = some d → d.before a0 Z = true := fun i d h => hw d (List.mem_of_getElem? h)
  have z0 : n0 ≤ h0.size := by rw [← O0.1]; exact O0.2.1
  refine Met.of (by decide +kernel) O0 hE ?_
  intro p e s m below meth c hx hby hml hret hlk hnm
  refine k_cast (ef_nbf m (Int32.ofNat nn)) ?_
  show Run p l e _ s m _ below meth c Z EL1 _ n0 NoB h0 0 0 (mkF m 0 #[.val (.int (Int32.ofNat nn))] []) _
  refine k_pure (g' := (mkF m 1 #[.val (.int (Int32.ofNat nn))] [(.int (Int32.ofNat nn))])) (fun TT HH tt kk => XS.iloadN HH hx rfl (hb hby d_jdk_52_m_2_0) rfl kk) ?_
  refine k_callS hx (y := (⟨"java/lang/StringUTF16", "newBytesLength", "(I)I"⟩ : MethodName)) (wT 39 rfl) (wT 40 rfl) (wT 27 rfl) (wT 41 rfl) (by decide) (W := 0) (argsL := [(.int (Int32.ofNat nn))]) (rest := []) (Pays.of_met (rm_nbl l Z a0 G1 G3 hX hU n0 h0 O0 nn hn []) (wT 41 rfl) (wT 27 rfl) (by decide) (by decide)) rfl (by rw [hml]; rfl) (lenOf pd__28_I_29_I rfl) rfl (by show 2 * 0 + _ ≤ _; exact Nat.le_of_eq rfl) (hb hby d_jdk_52_m_2_1) (by decide) (by decide) ?_
  intro v_1 h_2 bk_3 O_4 z_5 Q_6
  obtain ⟨rfl, rfl, rfl⟩ := Q_6
  show Run p l e _ s m _ below meth c Z EL1 _ n0 NoB h0 0 0 (mkF m 4 #[.val (.int (Int32.ofNat nn))] [(.int (Int32.ofNat (2 * nn)))]) _
  refine k_newP hx (wT 29 rfl) rfl (hb hby d_jdk_52_m_2_4) rfl (not_lt_nat (n := 0) (Nat.zero_le _) (by omega)) (cap := 400) (by rw [clampN (by omega)]; omega) (by decide) (by decide) (by decide) "[B" (by decide +kernel) ?_
  intro h_8 a_7 k_9 g_10 O_11 E_12 A_13 X_14
  have z_15 := E_12.1
  have lt_16 : @LT.lt Nat _ a_7 (Array.size h_8) := A_13.lt
  show Run p l e _ s m _ below meth c Z EL1 _ n0 NoB h_8 1 400 (mkF m 6 #[.val (.int (Int32.ofNat nn))] [(.ref a_7)]) _
  exact k_retA hx hlk hret rfl rfl rfl (hb hby d_jdk_52_m_2_6) (by decide) (by decide) ⟨a_7, k_9, rfl, rfl, ((Keep.refl _ _).ext E_12), Arv.pad A_13 (pad_rep [] (.int 0) (2 * nn)), (by omega)⟩
def Q_puc (Z : State) (G1 : Int32) (G3 : Value) (t : Addr) (kb : ClassId) (N : Nat) (us : List Value) (j : Nat) (ch : Int32) (h0 : Heap) (n0 : Nat) (bk : Addr → Prop) (v : Option Value) (h : Heap) (bk' : Addr → Prop) : Prop := v = none ∧ NoB = bk' ∧ Keep h0 h [t] ∧ (Arv Z h t kb .byte (Int32.ofNat N) ((us.set (2 * j) (.int ((ch).toInt8.toInt32))).set (2 * j + 1) (.int ((ch >>> ((8 : Int32) &&& 31)).toInt8.toInt32))) (.int 0))
theorem d_jdk_52_m_4_0 : decode jdk_52_method_4_code 0 = .ok (.getstatic 44, 3) := by decide +kernel
theorem d_jdk_52_m_4_3 : decode jdk_52_method_4_code 3 = .ok (.ifCond .ne 25, 3) := by decide +kernel
theorem d_jdk_52_m_4_28 : decode jdk_52_method_4_code 28 = .ok (.iload_n 1, 1) := by decide +kernel
theorem d_jdk_52_m_4_29 : decode jdk_52_method_4_code 29 = .ok (.iconst 1, 1) := by decide +kernel
theorem d_jdk_52_m_4_30 : decode jdk_52_method_4_code 30 = .ok (.ishl, 1) := by decide +kernel
theorem d_jdk_52_m_4_31 : decode jdk_52_method_4_code 31 = .ok (.istore_n 1, 1) := by decide +kernel
theorem d_jdk_52_m_4_32 : decode jdk_52_method_4_code 32 = .ok (.aload_n 0, 1) := by decide +kernel
theorem d_jdk_52_m_4_33 : decode jdk_52_method_4_code 33 = .ok (.iload_n 1, 1) := by decide +kernel
theorem d_jdk_52_m_4_34 : decode jdk_52_method_4_code 34 = .ok (.iinc 1 1, 3) := by decide +kernel
theorem d_jdk_52_m_4_37 : decode jdk_52_method_4_code 37 = .ok (.iload_n 2, 1) := by decide +kernel
theorem d_jdk_52_m_4_38 : decode jdk_52_method_4_code 38 = .ok (.getstatic 59, 3) := by decide +kernel
theorem d_jdk_52_m_4_41 : decode jdk_52_method_4_code 41 = .ok (.ishr, 1) := by decide +kernel
theorem d_jdk_52_m_4_42 : decode jdk_52_method_4_code 42 = .ok (.i2b, 1) := by decide +kernel
theorem d_jdk_52_m_4_43 : decode jdk_52_method_4_code 43 = .ok (.bastore, 1) := by decide +kernel
theorem d_jdk_52_m_4_44 : decode jdk_52_method_4_code 44 = .ok (.aload_n 0, 1) := by decide +kernel
theorem d_jdk_52_m_4_45 : decode jdk_52_method_4_code 45 = .ok (.iload_n 1, 1) := by decide +kernel
theorem d_jdk_52_m_4_46 : decode jdk_52_method_4_code 46 = .ok (.iload_n 2, 1) := by decide +kernel
theorem d_jdk_52_m_4_47 : decode jdk_52_method_4_code 47 = .ok (.getstatic 63, 3) := by decide +kernel
theorem d_jdk_52_m_4_50 : decode jdk_52_method_4_code 50 = .ok (.ishr, 1) := by decide +kernel
theorem d_jdk_52_m_4_51 : decode jdk_52_method_4_code 51 = .ok (.i2b, 1) := by decide +kernel
theorem d_jdk_52_m_4_52 : decode jdk_52_method_4_code 52 = .ok (.bastore, 1) := by decide +kernel
theorem d_jdk_52_m_4_53 : decode jdk_52_method_4_code 53 = .ok (.return_, 1) := by decide +kernel
abbrev RM_puc : Room := { frames := 0, cells := 0, slots := 0, locals := 0 }
theorem ef_puc (m : MethodId) (x0 : Addr) (x1 : Int32) (x2 : Int32) : entryFrame m #[(.ref x0), (.int x1), (.int x2)] 3 = mkF m 0 #[.val (.ref x0), .val (.int x1), .val (.int x2)] [] := by first | (simp [entryFrame, mkF, argsToLocals, Value.category]; done) | rfl
set_option maxRecDepth 65536 in
set_option maxHeartbeats 40000000 in
theorem rm_puc (l : Launch) (Z : State) (a0 : Array Value) (G1 : Int32) (G3 : Value) (hX : Ctx Z a0 G1 G3) (hU : Wide Z) (n0 : Nat) (h0 : Heap) (O0 : Old Z n0 h0) (t : Addr) (kb : ClassId) (N : Nat) (us : List Value) (j : Nat) (ch : Int32) (pf_0 : Arv Z h0 t kb .byte (Int32.ofNat N) us (.int 0)) (hl : us.length = N) (hj : 2 * j + 1 < N) (hN : N ≤ 4000) (gt : n0 ≤ t) (ws : List Jvm.Cond) : Met l Z EL1 n0 NoB (⟨"java/lang/StringUTF16", "putChar", "([BII)V"⟩ : MethodName) jdk_52_method_4_code 3 (Option.none : Option FieldType) RM_puc #[(.ref t), (.int (Int32.ofNat j)), (.int ch)] h0 (Q_puc Z G1 G3 t kb N us j ch h0 n0 NoB) ws := by
  have hX' := hX
  obtain ⟨hw, hE, S1, P1, S3, P3⟩ := hX'
  have hU' := hU
  obtain ⟨u1, u2, u3⟩ := hU'
  have hSA := sa_of hw
  have wT : ∀ (i : Nat) {d : Jvm.Cond}, tables_1[i]? = some d → d.before a0 Z = true := fun i d h => hw d (List.mem_of_getElem? h)
  have z0 : n0 ≤ h0.size := by rw [← O0.1]; exact O0.2.1
  refine Met.of (by decide +kernel) O0 hE ?_
  intro p e s m below meth c hx hby hml hret hlk hnm
  refine k_cast (ef_puc m t (Int32.ofNat j) ch) ?_
  show Run p l e _ s m _ below meth c Z EL1 _ n0 NoB h0 0 0 (mkF m 0 #[.val (.ref t), .val (.int (Int32.ofNat j)), .val (.int ch)] []) _
  have lt_1 : @LT.lt Nat _ t (Array.size h0) := pf_0.lt
  refine k_getS hx (host := "") (Or.inl (wT 46 rfl)) Via.refl (u1.ext O0.2) rfl (hb hby d_jdk_52_m_4_0) ?_
  show Run p l e _ s m _ below meth c Z EL1 _ n0 NoB h0 0 0 (mkF m 3 #[.val (.ref t), .val (.int (Int32.ofNat j)), .val (.int ch)] [(.int (1 : Int32))]) _
  refine k_pure (g' := (mkF m 28 #[.val (.ref t), .val (.int (Int32.ofNat j)), .val (.int ch)] [])) (fun TT HH tt kk => XS.ifYes HH hx rfl (pc0 := 3) (pc' := 28) rfl (hb hby d_jdk_52_m_4_3) rfl ((if0 _ _).trans (feq (by decide : ¬ ((1 : Int32) = (0 : Int32)))).2) (by decide) (by decide) kk) ?_
  refine k_pure (g' := (mkF m 29 #[.val (.ref t), .val (.int (Int32.ofNat j)), .val (.int ch)] [(.int (Int32.ofNat j))])) (fun TT HH tt kk => XS.iloadN HH hx rfl (hb hby d_jdk_52_m_4_28) rfl kk) ?_
  refine k_pure (g' := (mkF m 30 #[.val (.ref t), .val (.int (Int32.ofNat j)), .val (.int ch)] [(.int (1 : Int32)), (.int (Int32.ofNat j))])) (fun TT HH tt kk => XS.iconst HH hx rfl (hb hby d_jdk_52_m_4_29) kk) ?_
  refine k_pure (g' := (mkF m 31 #[.val (.ref t), .val (.int (Int32.ofNat j)), .val (.int ch)] [(.int ((Int32.ofNat j) <<< ((1 : Int32) &&& 31)))])) (fun TT HH tt kk => XS.ishl HH hx rfl (hb hby d_jdk_52_m_4_30) rfl kk) ?_
  rw [u_shl1 (by omega)]
  show Run p l e _ s m _ below meth c Z EL1 _ n0 NoB h0 0 0 (mkF m 31 #[.val (.ref t), .val (.int (Int32.ofNat j)), .val (.int ch)] [(.int (Int32.ofNat (2 * j)))]) _
  refine k_pure (g' := (mkF m 32 #[.val (.ref t), .val (.int (Int32.ofNat (2 * j))), .val (.int ch)] [])) (fun TT HH tt kk => XS.istoreN HH hx rfl (hb hby d_jdk_52_m_4_31) rfl (l' := #[.val (.ref t), .val (.int (Int32.ofNat (2 * j))), .val (.int ch)]) rfl kk) ?_
  refine k_pure (g' := (mkF m 33 #[.val (.ref t), .val (.int (Int32.ofNat (2 * j))), .val (.int ch)] [(.ref t)])) (fun TT HH tt kk => XS.aloadN HH hx rfl (hb hby d_jdk_52_m_4_32) rfl rfl kk) ?_
  refine k_pure (g' := (mkF m 34 #[.val (.ref t), .val (.int (Int32.ofNat (2 * j))), .val (.int ch)] [(.int (Int32.ofNat (2 * j))), (.ref t)])) (fun TT HH tt kk => XS.iloadN HH hx rfl (hb hby d_jdk_52_m_4_33) rfl kk) ?_
  refine k_pure (g' := (mkF m 37 #[.val (.ref t), .val (.int ((Int32.ofNat (2 * j)) + (1 : Int32))), .val (.int ch)] [(.int (Int32.ofNat (2 * j))), (.ref t)])) (fun TT HH tt kk => XS.iinc HH hx rfl (hb hby d_jdk_52_m_4_34) rfl (l' := #[.val (.ref t), .val (.int ((Int32.ofNat (2 * j)) + (1 : Int32))), .val (.int ch)]) rfl kk) ?_
  rw [← inc_ofNat]
  show Run p l e _ s m _ below meth c Z EL1 _ n0 NoB h0 0 0 (mkF m 37 #[.val (.ref t), .val (.int (Int32.ofNat (2 * j + 1))), .val (.int ch)] [(.int (Int32.ofNat (2 * j))), (.ref t)]) _
  refine k_pure (g' := (mkF m 38 #[.val (.ref t), .val (.int (Int32.ofNat (2 * j + 1))), .val (.int ch)] [(.int ch), (.int (Int32.ofNat (2 * j))), (.ref t)])) (fun TT HH tt kk => XS.iloadN HH hx rfl (hb hby d_jdk_52_m_4_37) rfl kk) ?_
  refine k_getS hx (host := "") (Or.inl (wT 47 rfl)) Via.refl (u2.ext O0.2) rfl (hb hby d_jdk_52_m_4_38) ?_
  show Run p l e _ s m _ below meth c Z EL1 _ n0 NoB h0 0 0 (mkF m 41 #[.val (.ref t), .val (.int (Int32.ofNat (2 * j + 1))), .val (.int ch)] [(.int (0 : Int32)), (.int ch), (.int (Int32.ofNat (2 * j))), (.ref t)]) _
  refine k_pure (g' := (mkF m 42 #[.val (.ref t), .val (.int (Int32.ofNat (2 * j + 1))), .val (.int ch)] [(.int (ch >>> ((0 : Int32) &&& 31))), (.int (Int32.ofNat (2 * j))), (.ref t)])) (fun TT HH tt kk => XS.ishr HH hx rfl (hb hby d_jdk_52_m_4_41) rfl kk) ?_
  rw [u_shr0]
  show Run p l e _ s m _ below meth c Z EL1 _ n0 NoB h0 0 0 (mkF m 42 #[.val (.ref t), .val (.int (Int32.ofNat (2 * j + 1))), .val (.int ch)] [(.int ch), (.int (Int32.ofNat (2 * j))), (.ref t)]) _
  refine k_pure (g' := (mkF m 43 #[.val (.ref t), .val (.int (Int32.ofNat (2 * j + 1))), .val (.int ch)] [(.int (ch.toInt8.toInt32)), (.int (Int32.ofNat (2 * j))), (.ref t)])) (fun TT HH tt kk => XS.i2b HH hx rfl (hb hby d_jdk_52_m_4_42) rfl kk) ?_
  refine k_stB hx pf_0 (idx_ok (by omega) (by omega)) (2 * j) (clampN (by omega)) (by omega) (by omega) (fun q => q) rfl rfl (hb hby d_jdk_52_m_4_43) ?_
  intro h_2 O_3 W_4 A_5
  have z_6 := W_4.size
  have V_7 : Arv Z h_2 t kb .byte (Int32.ofNat N) (us.set (2 * j) (.int ((ch).toInt8.toInt32))) (.int 0) := by rw [u_narb] at A_5; exact A_5
  show Run p l e _ s m _ below meth c Z EL1 _ n0 NoB h_2 0 0 (mkF m 44 #[.val (.ref t), .val (.int (Int32.ofNat (2 * j + 1))), .val (.int ch)] []) _
  refine k_pure (g' := (mkF m 45 #[.val (.ref t), .val (.int (Int32.ofNat (2 * j + 1))), .val (.int ch)] [(.ref t)])) (fun TT HH tt kk => XS.aloadN HH hx rfl (hb hby d_jdk_52_m_4_44) rfl rfl kk) ?_
  refine k_pure (g' := (mkF m 46 #[.val (.ref t), .val (.int (Int32.ofNat (2 * j + 1))), .val (.int ch)] [(.int (Int32.ofNat (2 * j + 1))), (.ref t)])) (fun TT HH tt kk => XS.iloadN HH hx rfl (hb hby d_jdk_52_m_4_45) rfl kk) ?_
  refine k_pure (g' := (mkF m 47 #[.val (.ref t), .val (.int (Int32.ofNat (2 * j + 1))), .val (.int ch)] [(.int ch), (.int (Int32.ofNat (2 * j + 1))), (.ref t)])) (fun TT HH tt kk => XS.iloadN HH hx rfl (hb hby d_jdk_52_m_4_46) rfl kk) ?_
  refine k_getS hx (host := "") (Or.inl (wT 48 rfl)) Via.refl (u3.ext O_3.2) rfl (hb hby d_jdk_52_m_4_47) ?_
  show Run p l e _ s m _ below meth c Z EL1 _ n0 NoB h_2 0 0 (mkF m 50 #[.val (.ref t), .val (.int (Int32.ofNat (2 * j + 1))), .val (.int ch)] [(.int (8 : Int32)), (.int ch), (.int (Int32.ofNat (2 * j + 1))), (.ref t)]) _
  refine k_pure (g' := (mkF m 51 #[.val (.ref t), .val (.int (Int32.ofNat (2 * j + 1))), .val (.int ch)] [(.int (ch >>> ((8 : Int32) &&& 31))), (.int (Int32.ofNat (2 * j + 1))), (.ref t)])) (fun TT HH tt kk => XS.ishr HH hx rfl (hb hby d_jdk_52_m_4_50) rfl kk) ?_
  refine k_pure (g' := (mkF m 52 #[.val (.ref t), .val (.int (Int32.ofNat (2 * j + 1))), .val (.int ch)] [(.int ((ch >>> ((8 : Int32) &&& 31)).toInt8.toInt32)), (.int (Int32.ofNat (2 * j + 1))), (.ref t)])) (fun TT HH tt kk => XS.i2b HH hx rfl (hb hby d_jdk_52_m_4_51) rfl kk) ?_
  refine k_stB hx V_7 (idx_ok (by omega) (by omega)) (2 * j + 1) (clampN (by omega)) (by simp; omega) (by omega) (fun q => q) rfl rfl (hb hby d_jdk_52_m_4_52) ?_
  intro h_8 O_9 W_10 A_11
  have z_12 := W_10.size
  have V_13 : Arv Z h_8 t kb .byte (Int32.ofNat N) ((us.set (2 * j) (.int ((ch).toInt8.toInt32))).set (2 * j + 1) (.int ((ch >>> ((8 : Int32) &&& 31)).toInt8.toInt32))) (.int 0) := by rw [u_narb] at A_11; exact A_11
  show Run p l e _ s m _ below meth c Z EL1 _ n0 NoB h_8 0 0 (mkF m 53 #[.val (.ref t), .val (.int (Int32.ofNat (2 * j + 1))), .val (.int ch)] []) _
  exact k_ret0 hx hlk hret (hb hby d_jdk_52_m_4_53) (by decide) (by decide) ⟨rfl, rfl, (((Keep.refl _ _).wr W_4 (Or.inl (by simp))).wr W_10 (Or.inl (by simp))), V_13⟩
def Q_tob (Z : State) (G1 : Int32) (G3 : Value) (q : Addr) (kq : ClassId) (cs : List Int32) (h0 : Heap) (n0 : Nat) (bk : Addr → Prop) (v : Option Value) (h : Heap) (bk' : Addr → Prop) : Prop := ∃ (u : Addr), ∃ (ku : ClassId), v = some (.ref u) ∧ NoB = bk' ∧ Keep h0 h [] ∧ (Arv Z h u ku .byte (Int32.ofNat (2 * (cs).length)) (StrChars.Road.wideBytes cs) (.int 0)) ∧ (@LE.le Nat _ (Array.size h0) u)
theorem d_jdk_52_m_14_0 : decode jdk_52_method_14_code 0 = .ok (.iload_n 2, 1) := by decide +kernel
theorem d_jdk_52_m_14_1 : decode jdk_52_method_14_code 1 = .ok (.invokestatic 107, 3) := by decide +kernel
theorem pd__28_I_29__5b_B : parseMethodDescriptor "(I)[B" = some ⟨[.int], some (.array .byte)⟩ := by decide +kernel
theorem d_jdk_52_m_14_4 : decode jdk_52_method_14_code 4 = .ok (.astore_n 3, 1) := by decide +kernel
theorem d_jdk_52_m_14_5 : decode jdk_52_method_14_code 5 = .ok (.iconst 0, 1) := by decide +kernel
theorem d_jdk_52_m_14_6 : decode jdk_52_method_14_code 6 = .ok (.istore 4, 2) := by decide +kernel
theorem d_jdk_52_m_14_8 : decode jdk_52_method_14_code 8 = .ok (.iload 4, 2) := by decide +kernel
theorem d_jdk_52_m_14_10 : decode jdk_52_method_14_code 10 = .ok (.iload_n 2, 1) := by decide +kernel
theorem d_jdk_52_m_14_11 : decode jdk_52_method_14_code 11 = .ok (.if_icmp .ge 21, 3) := by decide +kernel
theorem d_jdk_52_m_14_32 : decode jdk_52_method_14_code 32 = .ok (.aload_n 3, 1) := by decide +kernel
theorem d_jdk_52_m_14_33 : decode jdk_52_method_14_code 33 = .ok (.areturn, 1) := by decide +kernel
theorem d_jdk_52_m_14_14 : decode jdk_52_method_14_code 14 = .ok (.aload_n 3, 1) := by decide +kernel
theorem d_jdk_52_m_14_15 : decode jdk_52_method_14_code 15 = .ok (.iload 4, 2) := by decide +kernel
theorem d_jdk_52_m_14_17 : decode jdk_52_method_14_code 17 = .ok (.aload_n 0, 1) := by decide +kernel
theorem d_jdk_52_m_14_18 : decode jdk_52_method_14_code 18 = .ok (.iload_n 1, 1) := by decide +kernel
theorem d_jdk_52_m_14_19 : decode jdk_52_method_14_code 19 = .ok (.caload, 1) := by decide +kernel
theorem d_jdk_52_m_14_20 : decode jdk_52_method_14_code 20 = .ok (.invokestatic 111, 3) := by decide +kernel
theorem pd__28__5b_BII_29_V : parseMethodDescriptor "([BII)V" = some ⟨[(.array .byte), .int, .int], none⟩ := by decide +kernel
theorem d_jdk_52_m_14_23 : decode jdk_52_method_14_code 23 = .ok (.iinc 1 1, 3) := by decide +kernel
theorem d_jdk_52_m_14_26 : decode jdk_52_method_14_code 26 = .ok (.iinc 4 1, 3) := by decide +kernel
theorem d_jdk_52_m_14_29 : decode jdk_52_method_14_code 29 = .ok (.goto (-21), 3) := by decide +kernel
abbrev RM_tob : Room := { frames := 2, cells := 1, slots := 400, locals := 24 }
theorem ef_tob (m : MethodId) (x0 : Addr) (x1 : Int32) (x2 : Int32) : entryFrame m #[(.ref x0), (.int x1), (.int x2)] 5 = mkF m 0 #[.val (.ref x0), .val (.int x1), .val (.int x2), .unset, .unset] [] := by first | (simp [entryFrame, mkF, argsToLocals, Value.category]; done) | rfl
set_option maxRecDepth 65536 in
set_option maxHeartbeats 40000000 in
theorem rm_tob (l : Launch) (Z : State) (a0 : Array Value) (G1 : Int32) (G3 : Value) (hX : Ctx Z a0 G1 G3) (hU : Wide Z) (n0 : Nat) (h0 : Heap) (O0 : Old Z n0 h0) (q : Addr) (kq : ClassId) (cs : List Int32) (pf_0 : Arv Z h0 q kq .char (Int32.ofNat (cs).length) ((cs).map Value.int) (.int (0 : Int32))) (hn : (cs).length ≤ 200) (ws : List Jvm.Cond) : Met l Z EL1 n0 NoB (⟨"java/lang/StringUTF16", "toBytes", "([CII)[B"⟩ : MethodName) jdk_52_method_14_code 5 (Option.some (FieldType.array FieldType.byte)) RM_tob #[(.ref q), (.int (0 : Int32)), (.int (Int32.ofNat (cs).length))] h0 (Q_tob Z G1 G3 q kq cs h0 n0 NoB) ws := by
  have hX' := hX
  obtain ⟨hw, hE, S1, P1, S3, P3⟩ := hX'
  have hU' := hU
  obtain ⟨u1, u2, u3⟩ := hU'
  have hSA := sa_of hw
  have wT : ∀ (i : Nat) {d : Jvm.Cond}, tables_1[i]? = some d → d.before a0 Z = true := fun i d h => hw d (List.mem_of_getElem? h)
  have z0 : n0 ≤ h0.size := by rw [← O0.1]; exact O0.2.1
  refine Met.of (by decide +kernel) O0 hE ?_
  intro p e s m below meth c hx hby hml hret hlk hnm
  refine k_cast (ef_tob m q (0 : Int32) (Int32.ofNat (cs).length)) ?_
  show Run p l e _ s m _ below meth c Z EL1 _ n0 NoB h0 0 0 (mkF m 0 #[.val (.ref q), .val (.int (0 : Int32)), .val (.int (Int32.ofNat (cs).length)), .unset, .unset] []) _
  have lt_1 : @LT.lt Nat _ q (Array.size h0) := pf_0.lt
  refine k_pure (g' := (mkF m 1 #[.val (.ref q), .val (.int (0 : Int32)), .val (.int (Int32.ofNat (cs).length)), .unset, .unset] [(.int (Int32.ofNat (cs).length))])) (fun TT HH tt kk => XS.iloadN HH hx rfl (hb hby d_jdk_52_m_14_0) rfl kk) ?_
  refine k_callS hx (y := (⟨"java/lang/StringUTF16", "newBytesFor", "(I)[B"⟩ : MethodName)) (wT 36 rfl) (wT 37 rfl) (wT 27 rfl) (wT 38 rfl) (by decide) (W := 0) (argsL := [(.int (Int32.ofNat (cs).length))]) (rest := []) (Pays.of_met (rm_nbf l Z a0 G1 G3 hX hU n0 h0 O0 ((cs).length) hn []) (wT 38 rfl) (wT 27 rfl) (by decide) (by decide)) rfl (by rw [hml]; rfl) (lenOf pd__28_I_29__5b_B rfl) rfl (by show 2 * 0 + _ ≤ _; exact Nat.le_of_eq rfl) (hb hby d_jdk_52_m_14_1) (by decide) (by decide) ?_
  intro v_2 h_3 bk_4 O_5 z_6 Q_7
  obtain ⟨a_8, k_9, rfl, rfl, K_10, F_11, P_12⟩ := Q_7
  have lt_13 : @LT.lt Nat _ a_8 (Array.size h_3) := F_11.lt
  show Run p l e _ s m _ below meth c Z EL1 _ n0 NoB h_3 1 400 (mkF m 4 #[.val (.ref q), .val (.int (0 : Int32)), .val (.int (Int32.ofNat (cs).length)), .unset, .unset] [(.ref a_8)]) _
  refine k_pure (g' := (mkF m 5 #[.val (.ref q), .val (.int (0 : Int32)), .val (.int (Int32.ofNat (cs).length)), .val (.ref a_8), .unset] [])) (fun TT HH tt kk => XS.astoreN HH hx rfl (hb hby d_jdk_52_m_14_4) rfl rfl (l' := #[.val (.ref q), .val (.int (0 : Int32)), .val (.int (Int32.ofNat (cs).length)), .val (.ref a_8), .unset]) rfl kk) ?_
  refine k_pure (g' := (mkF m 6 #[.val (.ref q), .val (.int (0 : Int32)), .val (.int (Int32.ofNat (cs).length)), .val (.ref a_8), .unset] [(.int (0 : Int32))])) (fun TT HH tt kk => XS.iconst HH hx rfl (hb hby d_jdk_52_m_14_5) kk) ?_
  refine k_pure (g' := (mkF m 8 #[.val (.ref q), .val (.int (0 : Int32)), .val (.int (Int32.ofNat (cs).length)), .val (.ref a_8), .val (.int (0 : Int32))] [])) (fun TT HH tt kk => XS.istore HH hx rfl (hb hby d_jdk_52_m_14_6) rfl (l' := #[.val (.ref q), .val (.int (0 : Int32)), .val (.int (Int32.ofNat (cs).length)), .val (.ref a_8), .val (.int (0 : Int32))]) rfl kk) ?_
  have loop : ∀ (k i : Nat) (hh : Heap) (ws : List Value) , i + k = cs.length → Old Z n0 hh → Keep h_3 hh [a_8] → Arv Z hh a_8 k_9 .byte (Int32.ofNat (2 * (cs).length)) ws (.int 0) → Wd cs ws i → Run p l e RM_tob s m #[(.ref q), (.int (0 : Int32)), (.int (Int32.ofNat (cs).length))] below meth c Z EL1 "java/lang/StringUTF16" n0 NoB hh 1 400 (mkF m 8 #[.val (.ref q), .val (.int (Int32.ofNat i)), .val (.int (Int32.ofNat (cs).length)), .val (.ref a_8), .val (.int (Int32.ofNat i))] []) (Q_tob Z G1 G3 q kq cs h0 n0 NoB) := by
    intro k
    induction k with
    | zero =>
      intro i hh ws  hi hO hK hA hW
      have z_14 := hK.1
      refine k_pure (g' := (mkF m 10 #[.val (.ref q), .val (.int (Int32.ofNat i)), .val (.int (Int32.ofNat (cs).length)), .val (.ref a_8), .val (.int (Int32.ofNat i))] [(.int (Int32.ofNat i))])) (fun TT HH tt kk => XS.iload HH hx rfl (hb hby d_jdk_52_m_14_8) rfl kk) ?_
      refine k_pure (g' := (mkF m 11 #[.val (.ref q), .val (.int (Int32.ofNat i)), .val (.int (Int32.ofNat (cs).length)), .val (.ref a_8), .val (.int (Int32.ofNat i))] [(.int (Int32.ofNat (cs).length)), (.int (Int32.ofNat i))])) (fun TT HH tt kk => XS.iloadN HH hx rfl (hb hby d_jdk_52_m_14_10) rfl kk) ?_
      refine k_pure (g' := (mkF m 32 #[.val (.ref q), .val (.int (Int32.ofNat i)), .val (.int (Int32.ofNat (cs).length)), .val (.ref a_8), .val (.int (Int32.ofNat i))] [])) (fun TT HH tt kk => XS.icmpYes HH hx rfl (pc0 := 11) (pc' := 32) rfl (hb hby d_jdk_52_m_14_11) rfl (flt (not_lt_nat (by omega) (by omega))).2.1 (by decide) (by decide) kk) ?_
      refine k_pure (g' := (mkF m 33 #[.val (.ref q), .val (.int (Int32.ofNat i)), .val (.int (Int32.ofNat (cs).length)), .val (.ref a_8), .val (.int (Int32.ofNat i))] [(.ref a_8)])) (fun TT HH tt kk => XS.aloadN HH hx rfl (hb hby d_jdk_52_m_14_32) rfl rfl kk) ?_
      exact k_retA hx hlk hret rfl rfl rfl (hb hby d_jdk_52_m_14_33) (by decide) (by decide) ⟨a_8, k_9, rfl, rfl, (((Keep.refl _ _).trans K_10 kk0).trans hK (kkS (Or.inr (by omega)) kk0)), (hW.done hi) ▸ hA, (by omega)⟩
    | succ k ih =>
      intro i hh ws  hi hO hK hA hW
      have z_15 := hK.1
      refine k_pure (g' := (mkF m 10 #[.val (.ref q), .val (.int (Int32.ofNat i)), .val (.int (Int32.ofNat (cs).length)), .val (.ref a_8), .val (.int (Int32.ofNat i))] [(.int (Int32.ofNat i))])) (fun TT HH tt kk => XS.iload HH hx rfl (hb hby d_jdk_52_m_14_8) rfl kk) ?_
      refine k_pure (g' := (mkF m 11 #[.val (.ref q), .val (.int (Int32.ofNat i)), .val (.int (Int32.ofNat (cs).length)), .val (.ref a_8), .val (.int (Int32.ofNat i))] [(.int (Int32.ofNat (cs).length)), (.int (Int32.ofNat i))])) (fun TT HH tt kk => XS.iloadN HH hx rfl (hb hby d_jdk_52_m_14_10) rfl kk) ?_
      refine k_pure (g' := (mkF m 14 #[.val (.ref q), .val (.int (Int32.ofNat i)), .val (.int (Int32.ofNat (cs).length)), .val (.ref a_8), .val (.int (Int32.ofNat i))] [])) (fun TT HH tt kk => XS.icmpNo HH hx rfl (hb hby d_jdk_52_m_14_11) rfl (tlt (lt_nat (by omega) (by omega))).2.1 kk) ?_
      refine k_pure (g' := (mkF m 15 #[.val (.ref q), .val (.int (Int32.ofNat i)), .val (.int (Int32.ofNat (cs).length)), .val (.ref a_8), .val (.int (Int32.ofNat i))] [(.ref a_8)])) (fun TT HH tt kk => XS.aloadN HH hx rfl (hb hby d_jdk_52_m_14_14) rfl rfl kk) ?_
      refine k_pure (g' := (mkF m 17 #[.val (.ref q), .val (.int (Int32.ofNat i)), .val (.int (Int32.ofNat (cs).length)), .val (.ref a_8), .val (.int (Int32.ofNat i))] [(.int (Int32.ofNat i)), (.ref a_8)])) (fun TT HH tt kk => XS.iload HH hx rfl (hb hby d_jdk_52_m_14_15) rfl kk) ?_
      refine k_pure (g' := (mkF m 18 #[.val (.ref q), .val (.int (Int32.ofNat i)), .val (.int (Int32.ofNat (cs).length)), .val (.ref a_8), .val (.int (Int32.ofNat i))] [(.ref q), (.int (Int32.ofNat i)), (.ref a_8)])) (fun TT HH tt kk => XS.aloadN HH hx rfl (hb hby d_jdk_52_m_14_17) rfl rfl kk) ?_
      refine k_pure (g' := (mkF m 19 #[.val (.ref q), .val (.int (Int32.ofNat i)), .val (.int (Int32.ofNat (cs).length)), .val (.ref a_8), .val (.int (Int32.ofNat i))] [(.int (Int32.ofNat i)), (.ref q), (.int (Int32.ofNat i)), (.ref a_8)])) (fun TT HH tt kk => XS.iloadN HH hx rfl (hb hby d_jdk_52_m_14_18) rfl kk) ?_
      have F_16 : Arv Z hh q kq .char (Int32.ofNat (cs).length) ((cs).map Value.int) (.int (0 : Int32)) := ((pf_0.keep K_10 nin0).keep hK (ninS (ne_ad (by omega)) nin0))
      refine k_aget hx (v := (.int (cs.getD i 0))) F_16 (idx_ok (by omega) (by omega)) (getD_int cs (by omega)) (Or.inr (Or.inr (Or.inl ⟨rfl, rfl⟩))) rfl rfl (hb hby d_jdk_52_m_14_19) ?_
      show Run p l e _ s m _ below meth c Z EL1 _ n0 NoB hh 1 400 (mkF m 20 #[.val (.ref q), .val (.int (Int32.ofNat i)), .val (.int (Int32.ofNat (cs).length)), .val (.ref a_8), .val (.int (Int32.ofNat i))] [(.int (cs.getD i 0)), (.int (Int32.ofNat i)), (.ref a_8)]) _
      refine k_callS hx (y := (⟨"java/lang/StringUTF16", "putChar", "([BII)V"⟩ : MethodName)) (wT 43 rfl) (wT 44 rfl) (wT 27 rfl) (wT 45 rfl) (by decide) (W := 0) (argsL := [(.ref a_8), (.int (Int32.ofNat i)), (.int (cs.getD i 0))]) (rest := []) (Pays.of_met (rm_puc l Z a0 G1 G3 hX hU n0 hh hO a_8 k_9 (2 * (cs).length) ws i (cs.getD i 0) hA hW.1 (by omega) (by omega) (by omega) []) (wT 45 rfl) (wT 27 rfl) (by decide) (by decide)) rfl (by rw [hml]; rfl) (lenOf pd__28__5b_BII_29_V rfl) rfl (by show 2 * 0 + _ ≤ _; exact Nat.le_of_eq rfl) (hb hby d_jdk_52_m_14_20) (by decide) (by decide) ?_
      intro v_17 h_18 bk_19 O_20 z_21 Q_22
      obtain ⟨rfl, rfl, K_23, F_24⟩ := Q_22
      have lt_25 : @LT.lt Nat _ a_8 (Array.size h_18) := F_24.lt
      show Run p l e _ s m _ below meth c Z EL1 _ n0 NoB h_18 1 400 (mkF m 23 #[.val (.ref q), .val (.int (Int32.ofNat i)), .val (.int (Int32.ofNat (cs).length)), .val (.ref a_8), .val (.int (Int32.ofNat i))] []) _
      refine k_pure (g' := (mkF m 26 #[.val (.ref q), .val (.int ((Int32.ofNat i) + (1 : Int32))), .val (.int (Int32.ofNat (cs).length)), .val (.ref a_8), .val (.int (Int32.ofNat i))] [])) (fun TT HH tt kk => XS.iinc HH hx rfl (hb hby d_jdk_52_m_14_23) rfl (l' := #[.val (.ref q), .val (.int ((Int32.ofNat i) + (1 : Int32))), .val (.int (Int32.ofNat (cs).length)), .val (.ref a_8), .val (.int (Int32.ofNat i))]) rfl kk) ?_
      refine k_pure (g' := (mkF m 29 #[.val (.ref q), .val (.int ((Int32.ofNat i) + (1 : Int32))), .val (.int (Int32.ofNat (cs).length)), .val (.ref a_8), .val (.int ((Int32.ofNat i) + (1 : Int32)))] [])) (fun TT HH tt kk => XS.iinc HH hx rfl (hb hby d_jdk_52_m_14_26) rfl (l' := #[.val (.ref q), .val (.int ((Int32.ofNat i) + (1 : Int32))), .val (.int (Int32.ofNat (cs).length)), .val (.ref a_8), .val (.int ((Int32.ofNat i) + (1 : Int32)))]) rfl kk) ?_
      refine k_pure (g' := (mkF m 8 #[.val (.ref q), .val (.int ((Int32.ofNat i) + (1 : Int32))), .val (.int (Int32.ofNat (cs).length)), .val (.ref a_8), .val (.int ((Int32.ofNat i) + (1 : Int32)))] [])) (fun TT HH tt kk => XS.goto HH hx rfl (pc0 := 29) (pc' := 8) rfl (hb hby d_jdk_52_m_14_29) (by decide) (by decide) kk) ?_
      rw [← inc_ofNat]
      exact ih (i + 1) _ _  (by omega) O_20 (hK.trans K_23 (kkS (Or.inl (by simp)) kk0)) F_24 (hW.step (by omega))
  exact loop _ 0 _ _  (Nat.zero_add _) O_5 (Keep.refl _ _) F_11 (Wd.zero cs)
def Q_gec (Z : State) (G1 : Int32) (G3 : Value) (t : Addr) (kb : ClassId) (cs : List Int32) (j : Nat) (h0 : Heap) (n0 : Nat) (bk : Addr → Prop) (v : Option Value) (h : Heap) (bk' : Addr → Prop) : Prop := v = some (.int ((cs).getD j 0)) ∧ h0 = h ∧ NoB = bk'
theorem d_jdk_52_m_5_0 : decode jdk_52_method_5_code 0 = .ok (.getstatic 44, 3) := by decide +kernel
theorem d_jdk_52_m_5_3 : decode jdk_52_method_5_code 3 = .ok (.ifCond .ne 25, 3) := by decide +kernel
theorem d_jdk_52_m_5_28 : decode jdk_52_method_5_code 28 = .ok (.iload_n 1, 1) := by decide +kernel
theorem d_jdk_52_m_5_29 : decode jdk_52_method_5_code 29 = .ok (.iconst 1, 1) := by decide +kernel
theorem d_jdk_52_m_5_30 : decode jdk_52_method_5_code 30 = .ok (.ishl, 1) := by decide +kernel
theorem d_jdk_52_m_5_31 : decode jdk_52_method_5_code 31 = .ok (.istore_n 1, 1) := by decide +kernel
theorem d_jdk_52_m_5_32 : decode jdk_52_method_5_code 32 = .ok (.aload_n 0, 1) := by decide +kernel
theorem d_jdk_52_m_5_33 : decode jdk_52_method_5_code 33 = .ok (.iload_n 1, 1) := by decide +kernel
theorem d_jdk_52_m_5_34 : decode jdk_52_method_5_code 34 = .ok (.iinc 1 1, 3) := by decide +kernel
theorem d_jdk_52_m_5_37 : decode jdk_52_method_5_code 37 = .ok (.baload, 1) := by decide +kernel
theorem d_jdk_52_m_5_38 : decode jdk_52_method_5_code 38 = .ok (.sipush 255, 3) := by decide +kernel
theorem d_jdk_52_m_5_41 : decode jdk_52_method_5_code 41 = .ok (.iand, 1) := by decide +kernel
theorem d_jdk_52_m_5_42 : decode jdk_52_method_5_code 42 = .ok (.getstatic 59, 3) := by decide +kernel
theorem d_jdk_52_m_5_45 : decode jdk_52_method_5_code 45 = .ok (.ishl, 1) := by decide +kernel
theorem d_jdk_52_m_5_46 : decode jdk_52_method_5_code 46 = .ok (.aload_n 0, 1) := by decide +kernel
theorem d_jdk_52_m_5_47 : decode jdk_52_method_5_code 47 = .ok (.iload_n 1, 1) := by decide +kernel
theorem d_jdk_52_m_5_48 : decode jdk_52_method_5_code 48 = .ok (.baload, 1) := by decide +kernel
theorem d_jdk_52_m_5_49 : decode jdk_52_method_5_code 49 = .ok (.sipush 255, 3) := by decide +kernel
theorem d_jdk_52_m_5_52 : decode jdk_52_method_5_code 52 = .ok (.iand, 1) := by decide +kernel
theorem d_jdk_52_m_5_53 : decode jdk_52_method_5_code 53 = .ok (.getstatic 63, 3) := by decide +kernel
theorem d_jdk_52_m_5_56 : decode jdk_52_method_5_code 56 = .ok (.ishl, 1) := by decide +kernel
theorem d_jdk_52_m_5_57 : decode jdk_52_method_5_code 57 = .ok (.ior, 1) := by decide +kernel
theorem d_jdk_52_m_5_58 : decode jdk_52_method_5_code 58 = .ok (.i2c, 1) := by decide +kernel
theorem d_jdk_52_m_5_59 : decode jdk_52_method_5_code 59 = .ok (.ireturn, 1) := by decide +kernel
abbrev RM_gec : Room := { frames := 0, cells := 0, slots := 0, locals := 0 }
theorem ef_gec (m : MethodId) (x0 : Addr) (x1 : Int32) : entryFrame m #[(.ref x0), (.int x1)] 2 = mkF m 0 #[.val (.ref x0), .val (.int x1)] [] := by first | (simp [entryFrame, mkF, argsToLocals, Value.category]; done) | rfl
set_option maxRecDepth 65536 in
set_option maxHeartbeats 40000000 in
theorem rm_gec (l : Launch) (Z : State) (a0 : Array Value) (G1 : Int32) (G3 : Value) (hX : Ctx Z a0 G1 G3) (hU : Wide Z) (n0 : Nat) (h0 : Heap) (O0 : Old Z n0 h0) (t : Addr) (kb : ClassId) (cs : List Int32) (j : Nat) (pf_0 : Arv Z h0 t kb .byte (Int32.ofNat (2 * (cs).length)) (StrChars.Road.wideBytes cs) (.int 0)) (hr : ∀ c ∈ cs, ¬ c < 0 ∧ ¬ (65535 : Int32) < c) (hj : j < (cs).length) (hn : (cs).length ≤ 1900) (ws : List Jvm.Cond) : Met l Z EL1 n0 NoB (⟨"java/lang/StringUTF16", "getChar", "([BI)C"⟩ : MethodName) jdk_52_method_5_code 2 (Option.some FieldType.char) RM_gec #[(.ref t), (.int (Int32.ofNat j))] h0 (Q_gec Z G1 G3 t kb cs j h0 n0 NoB) ws := by
  have hX' := hX
  obtain ⟨hw, hE, S1, P1, S3, P3⟩ := hX'
  have hU' := hU
  obtain ⟨u1, u2, u3⟩ := hU'
  have hSA := sa_of hw
  have wT : ∀ (i : Nat) {d : Jvm.Cond}, tables_1[i]? = some d → d.before a0 Z = true := fun i d h => hw d (List.mem_of_getElem? h)
  have z0 : n0 ≤ h0.size := by rw [← O0.1]; exact O0.2.1
  refine Met.of (by decide +kernel) O0 hE ?_
  intro p e s m below meth c hx hby hml hret hlk hnm
  refine k_cast (ef_gec m t (Int32.ofNat j)) ?_
  show Run p l e _ s m _ below meth c Z EL1 _ n0 NoB h0 0 0 (mkF m 0 #[.val (.ref t), .val (.int (Int32.ofNat j))] []) _
  have lt_1 : @LT.lt Nat _ t (Array.size h0) := pf_0.lt
  refine k_getS hx (host := "") (Or.inl (wT 46 rfl)) Via.refl (u1.ext O0.2) rfl (hb hby d_jdk_52_m_5_0) ?_
  show Run p l e _ s m _ below meth c Z EL1 _ n0 NoB h0 0 0 (mkF m 3 #[.val (.ref t), .val (.int (Int32.ofNat j))] [(.int (1 : Int32))]) _
  refine k_pure (g' := (mkF m 28 #[.val (.ref t), .val (.int (Int32.ofNat j))] [])) (fun TT HH tt kk => XS.ifYes HH hx rfl (pc0 := 3) (pc' := 28) rfl (hb hby d_jdk_52_m_5_3) rfl ((if0 _ _).trans (feq (by decide : ¬ ((1 : Int32) = (0 : Int32)))).2) (by decide) (by decide) kk) ?_
  refine k_pure (g' := (mkF m 29 #[.val (.ref t), .val (.int (Int32.ofNat j))] [(.int (Int32.ofNat j))])) (fun TT HH tt kk => XS.iloadN HH hx rfl (hb hby d_jdk_52_m_5_28) rfl kk) ?_
  refine k_pure (g' := (mkF m 30 #[.val (.ref t), .val (.int (Int32.ofNat j))] [(.int (1 : Int32)), (.int (Int32.ofNat j))])) (fun TT HH tt kk => XS.iconst HH hx rfl (hb hby d_jdk_52_m_5_29) kk) ?_
  refine k_pure (g' := (mkF m 31 #[.val (.ref t), .val (.int (Int32.ofNat j))] [(.int ((Int32.ofNat j) <<< ((1 : Int32) &&& 31)))])) (fun TT HH tt kk => XS.ishl HH hx rfl (hb hby d_jdk_52_m_5_30) rfl kk) ?_
  rw [u_shl1 (by omega)]
  show Run p l e _ s m _ below meth c Z EL1 _ n0 NoB h0 0 0 (mkF m 31 #[.val (.ref t), .val (.int (Int32.ofNat j))] [(.int (Int32.ofNat (2 * j)))]) _
  refine k_pure (g' := (mkF m 32 #[.val (.ref t), .val (.int (Int32.ofNat (2 * j)))] [])) (fun TT HH tt kk => XS.istoreN HH hx rfl (hb hby d_jdk_52_m_5_31) rfl (l' := #[.val (.ref t), .val (.int (Int32.ofNat (2 * j)))]) rfl kk) ?_
  refine k_pure (g' := (mkF m 33 #[.val (.ref t), .val (.int (Int32.ofNat (2 * j)))] [(.ref t)])) (fun TT HH tt kk => XS.aloadN HH hx rfl (hb hby d_jdk_52_m_5_32) rfl rfl kk) ?_
  refine k_pure (g' := (mkF m 34 #[.val (.ref t), .val (.int (Int32.ofNat (2 * j)))] [(.int (Int32.ofNat (2 * j))), (.ref t)])) (fun TT HH tt kk => XS.iloadN HH hx rfl (hb hby d_jdk_52_m_5_33) rfl kk) ?_
  refine k_pure (g' := (mkF m 37 #[.val (.ref t), .val (.int ((Int32.ofNat (2 * j)) + (1 : Int32)))] [(.int (Int32.ofNat (2 * j))), (.ref t)])) (fun TT HH tt kk => XS.iinc HH hx rfl (hb hby d_jdk_52_m_5_34) rfl (l' := #[.val (.ref t), .val (.int ((Int32.ofNat (2 * j)) + (1 : Int32)))]) rfl kk) ?_
  rw [← inc_ofNat]
  show Run p l e _ s m _ below meth c Z EL1 _ n0 NoB h0 0 0 (mkF m 37 #[.val (.ref t), .val (.int (Int32.ofNat (2 * j + 1)))] [(.int (Int32.ofNat (2 * j))), (.ref t)]) _
  refine k_aget hx (v := (.int (((cs).getD j 0).toInt8.toInt32))) pf_0 (idx_ok (by omega) (by omega)) (wide_lo' hj hn) (Or.inr (Or.inr (Or.inr (Or.inl ⟨rfl, rfl⟩)))) rfl rfl (hb hby d_jdk_52_m_5_37) ?_
  show Run p l e _ s m _ below meth c Z EL1 _ n0 NoB h0 0 0 (mkF m 38 #[.val (.ref t), .val (.int (Int32.ofNat (2 * j + 1)))] [(.int (((cs).getD j 0).toInt8.toInt32))]) _
  refine k_pure (g' := (mkF m 41 #[.val (.ref t), .val (.int (Int32.ofNat (2 * j + 1)))] [(.int (255 : Int32)), (.int (((cs).getD j 0).toInt8.toInt32))])) (fun TT HH tt kk => XS.sipush HH hx rfl (hb hby d_jdk_52_m_5_38) kk) ?_
  refine k_pure (g' := (mkF m 42 #[.val (.ref t), .val (.int (Int32.ofNat (2 * j + 1)))] [(.int ((((cs).getD j 0).toInt8.toInt32) &&& (255 : Int32)))])) (fun TT HH tt kk => XS.iand HH hx rfl (hb hby d_jdk_52_m_5_41) rfl kk) ?_
  refine k_getS hx (host := "") (Or.inl (wT 47 rfl)) Via.refl (u2.ext O0.2) rfl (hb hby d_jdk_52_m_5_42) ?_
  show Run p l e _ s m _ below meth c Z EL1 _ n0 NoB h0 0 0 (mkF m 45 #[.val (.ref t), .val (.int (Int32.ofNat (2 * j + 1)))] [(.int (0 : Int32)), (.int ((((cs).getD j 0).toInt8.toInt32) &&& (255 : Int32)))]) _
  refine k_pure (g' := (mkF m 46 #[.val (.ref t), .val (.int (Int32.ofNat (2 * j + 1)))] [(.int (((((cs).getD j 0).toInt8.toInt32) &&& (255 : Int32)) <<< ((0 : Int32) &&& 31)))])) (fun TT HH tt kk => XS.ishl HH hx rfl (hb hby d_jdk_52_m_5_45) rfl kk) ?_
  refine k_pure (g' := (mkF m 47 #[.val (.ref t), .val (.int (Int32.ofNat (2 * j + 1)))] [(.ref t), (.int (((((cs).getD j 0).toInt8.toInt32) &&& (255 : Int32)) <<< ((0 : Int32) &&& 31)))])) (fun TT HH tt kk => XS.aloadN HH hx rfl (hb hby d_jdk_52_m_5_46) rfl rfl kk) ?_
  refine k_pure (g' := (mkF m 48 #[.val (.ref t), .val (.int (Int32.ofNat (2 * j + 1)))] [(.int (Int32.ofNat (2 * j + 1))), (.ref t), (.int (((((cs).getD j 0).toInt8.toInt32) &&& (255 : Int32)) <<< ((0 : Int32) &&& 31)))])) (fun TT HH tt kk => XS.iloadN HH hx rfl (hb hby d_jdk_52_m_5_47) rfl kk) ?_
  refine k_aget hx (v := (.int ((((cs).getD j 0) >>> ((8 : Int32) &&& 31)).toInt8.toInt32))) pf_0 (idx_ok (by omega) (by omega)) (wide_hi' hj hn) (Or.inr (Or.inr (Or.inr (Or.inl ⟨rfl, rfl⟩)))) rfl rfl (hb hby d_jdk_52_m_5_48) ?_
  show Run p l e _ s m _ below meth c Z EL1 _ n0 NoB h0 0 0 (mkF m 49 #[.val (.ref t), .val (.int (Int32.ofNat (2 * j + 1)))] [(.int ((((cs).getD j 0) >>> ((8 : Int32) &&& 31)).toInt8.toInt32)), (.int (((((cs).getD j 0).toInt8.toInt32) &&& (255 : Int32)) <<< ((0 : Int32) &&& 31)))]) _
  refine k_pure (g' := (mkF m 52 #[.val (.ref t), .val (.int (Int32.ofNat (2 * j + 1)))] [(.int (255 : Int32)), (.int ((((cs).getD j 0) >>> ((8 : Int32) &&& 31)).toInt8.toInt32)), (.int (((((cs).getD j 0).toInt8.toInt32) &&& (255 : Int32)) <<< ((0 : Int32) &&& 31)))])) (fun TT HH tt kk => XS.sipush HH hx rfl (hb hby d_jdk_52_m_5_49) kk) ?_
  refine k_pure (g' := (mkF m 53 #[.val (.ref t), .val (.int (Int32.ofNat (2 * j + 1)))] [(.int (((((cs).getD j 0) >>> ((8 : Int32) &&& 31)).toInt8.toInt32) &&& (255 : Int32))), (.int (((((cs).getD j 0).toInt8.toInt32) &&& (255 : Int32)) <<< ((0 : Int32) &&& 31)))])) (fun TT HH tt kk => XS.iand HH hx rfl (hb hby d_jdk_52_m_5_52) rfl kk) ?_
  refine k_getS hx (host := "") (Or.inl (wT 48 rfl)) Via.refl (u3.ext O0.2) rfl (hb hby d_jdk_52_m_5_53) ?_
  show Run p l e _ s m _ below meth c Z EL1 _ n0 NoB h0 0 0 (mkF m 56 #[.val (.ref t), .val (.int (Int32.ofNat (2 * j + 1)))] [(.int (8 : Int32)), (.int (((((cs).getD j 0) >>> ((8 : Int32) &&& 31)).toInt8.toInt32) &&& (255 : Int32))), (.int (((((cs).getD j 0).toInt8.toInt32) &&& (255 : Int32)) <<< ((0 : Int32) &&& 31)))]) _
  refine k_pure (g' := (mkF m 57 #[.val (.ref t), .val (.int (Int32.ofNat (2 * j + 1)))] [(.int ((((((cs).getD j 0) >>> ((8 : Int32) &&& 31)).toInt8.toInt32) &&& (255 : Int32)) <<< ((8 : Int32) &&& 31))), (.int (((((cs).getD j 0).toInt8.toInt32) &&& (255 : Int32)) <<< ((0 : Int32) &&& 31)))])) (fun TT HH tt kk => XS.ishl HH hx rfl (hb hby d_jdk_52_m_5_56) rfl kk) ?_
  refine k_pure (g' := (mkF m 58 #[.val (.ref t), .val (.int (Int32.ofNat (2 * j + 1)))] [(.int ((((((cs).getD j 0).toInt8.toInt32) &&& (255 : Int32)) <<< ((0 : Int32) &&& 31)) ||| ((((((cs).getD j 0) >>> ((8 : Int32) &&& 31)).toInt8.toInt32) &&& (255 : Int32)) <<< ((8 : Int32) &&& 31))))])) (fun TT HH tt kk => XS.ior HH hx rfl (hb hby d_jdk_52_m_5_57) rfl kk) ?_
  refine k_pure (g' := (mkF m 59 #[.val (.ref t), .val (.int (Int32.ofNat (2 * j + 1)))] [(.int (((((((cs).getD j 0).toInt8.toInt32) &&& (255 : Int32)) <<< ((0 : Int32) &&& 31)) ||| ((((((cs).getD j 0) >>> ((8 : Int32) &&& 31)).toInt8.toInt32) &&& (255 : Int32)) <<< ((8 : Int32) &&& 31))).toUInt32.toUInt16.toUInt32.toInt32))])) (fun TT HH tt kk => XS.i2c HH hx rfl (hb hby d_jdk_52_m_5_58) rfl kk) ?_
  exact k_retN hx hlk hret (by simp) (hb hby d_jdk_52_m_5_59) (by decide) (by decide) ⟨congrArg (fun z => some (Value.int z)) (u_pair (hr _ (getD_mem cs j hj)).1 (hr _ (getD_mem cs j hj)).2), rfl, rfl⟩
def Q_cp5 (Z : State) (G1 : Int32) (G3 : Value) (q : Addr) (kq : ClassId) (cs : List Int32) (t : Addr) (kb : ClassId) (us : List Value) (h0 : Heap) (n0 : Nat) (bk : Addr → Prop) (v : Option Value) (h : Heap) (bk' : Addr → Prop) : Prop := ∃ (r : Nat), ∃ (vs : List Value), v = some (.int (Int32.ofNat r)) ∧ NoB = bk' ∧ Keep h0 h [t] ∧ (Arv Z h t kb .byte (Int32.ofNat (cs).length) vs (.int 0)) ∧ (r < cs.length ∧ (255 : Int32) < cs.getD r 0)
theorem d_jdk_52_m_21_0 : decode jdk_52_method_21_code 0 = .ok (.iconst 0, 1) := by decide +kernel
theorem d_jdk_52_m_21_1 : decode jdk_52_method_21_code 1 = .ok (.istore 5, 2) := by decide +kernel
theorem d_jdk_52_m_21_3 : decode jdk_52_method_21_code 3 = .ok (.iload 5, 2) := by decide +kernel
theorem d_jdk_52_m_21_5 : decode jdk_52_method_21_code 5 = .ok (.iload 4, 2) := by decide +kernel
theorem d_jdk_52_m_21_7 : decode jdk_52_method_21_code 7 = .ok (.if_icmp .ge 37, 3) := by decide +kernel
theorem d_jdk_52_m_21_10 : decode jdk_52_method_21_code 10 = .ok (.aload_n 0, 1) := by decide +kernel
theorem d_jdk_52_m_21_11 : decode jdk_52_method_21_code 11 = .ok (.iload_n 1, 1) := by decide +kernel
theorem d_jdk_52_m_21_12 : decode jdk_52_method_21_code 12 = .ok (.caload, 1) := by decide +kernel
theorem d_jdk_52_m_21_13 : decode jdk_52_method_21_code 13 = .ok (.istore 6, 2) := by decide +kernel
theorem d_jdk_52_m_21_15 : decode jdk_52_method_21_code 15 = .ok (.iload 6, 2) := by decide +kernel
theorem d_jdk_52_m_21_17 : decode jdk_52_method_21_code 17 = .ok (.sipush 255, 3) := by decide +kernel
theorem d_jdk_52_m_21_20 : decode jdk_52_method_21_code 20 = .ok (.if_icmp .le 6, 3) := by decide +kernel
theorem d_jdk_52_m_21_23 : decode jdk_52_method_21_code 23 = .ok (.iload 5, 2) := by decide +kernel
theorem d_jdk_52_m_21_25 : decode jdk_52_method_21_code 25 = .ok (.ireturn, 1) := by decide +kernel
theorem d_jdk_52_m_21_26 : decode jdk_52_method_21_code 26 = .ok (.aload_n 2, 1) := by decide +kernel
theorem d_jdk_52_m_21_27 : decode jdk_52_method_21_code 27 = .ok (.iload_n 3, 1) := by decide +kernel
theorem d_jdk_52_m_21_28 : decode jdk_52_method_21_code 28 = .ok (.iload 6, 2) := by decide +kernel
theorem d_jdk_52_m_21_30 : decode jdk_52_method_21_code 30 = .ok (.i2b, 1) := by decide +kernel
theorem d_jdk_52_m_21_31 : decode jdk_52_method_21_code 31 = .ok (.bastore, 1) := by decide +kernel
theorem d_jdk_52_m_21_32 : decode jdk_52_method_21_code 32 = .ok (.iinc 1 1, 3) := by decide +kernel
theorem d_jdk_52_m_21_35 : decode jdk_52_method_21_code 35 = .ok (.iinc 3 1, 3) := by decide +kernel
theorem d_jdk_52_m_21_38 : decode jdk_52_method_21_code 38 = .ok (.iinc 5 1, 3) := by decide +kernel
theorem d_jdk_52_m_21_41 : decode jdk_52_method_21_code 41 = .ok (.goto (-38), 3) := by decide +kernel
abbrev RM_cp5 : Room := { frames := 0, cells := 0, slots := 0, locals := 0 }
theorem ef_cp5 (m : MethodId) (x0 : Addr) (x1 : Int32) (x2 : Addr) (x3 : Int32) (x4 : Int32) : entryFrame m #[(.ref x0), (.int x1), (.ref x2), (.int x3), (.int x4)] 7 = mkF m 0 #[.val (.ref x0), .val (.int x1), .val (.ref x2), .val (.int x3), .val (.int x4), .unset, .unset] [] := by first | (simp [entryFrame, mkF, argsToLocals, Value.category]; done) | rfl
set_option maxRecDepth 65536 in
set_option maxHeartbeats 40000000 in
theorem rm_cp5 (l : Launch) (Z : State) (a0 : Array Value) (G1 : Int32) (G3 : Value) (hX : Ctx Z a0 G1 G3) (hU : Wide Z) (n0 : Nat) (h0 : Heap) (O0 : Old Z n0 h0) (q : Addr) (kq : ClassId) (cs : List Int32) (t : Addr) (kb : ClassId) (us : List Value) (pf_0 : Arv Z h0 q kq .char (Int32.ofNat (cs).length) ((cs).map Value.int) (.int (0 : Int32))) (pf_1 : Arv Z h0 t kb .byte (Int32.ofNat (cs).length) us (.int 0)) (hw0 : ∃ c ∈ cs, (255 : Int32) < c) (hl : us.length = cs.length) (hn : (cs).length ≤ 200) (gt : n0 ≤ t) (qt : @Ne Nat q t) (ws : List Jvm.Cond) : Met l Z EL1 n0 NoB (⟨"java/lang/StringUTF16", "compress", "([CI[BII)I"⟩ : MethodName) jdk_52_method_21_code 7 (Option.some FieldType.int) RM_cp5 #[(.ref q), (.int (0 : Int32)), (.ref t), (.int (0 : Int32)), (.int (Int32.ofNat (cs).length))] h0 (Q_cp5 Z G1 G3 q kq cs t kb us h0 n0 NoB) ws := by
  have hX' := hX
  obtain ⟨hw, hE, S1, P1, S3, P3⟩ := hX'
  have hU' := hU
  obtain ⟨u1, u2, u3⟩ := hU'
  have hSA := sa_of hw
  have wT : ∀ (i : Nat) {d : Jvm.Cond}, tables_1[i]? = some d → d.before a0 Z = true := fun i d h => hw d (List.mem_of_getElem? h)
  have z0 : n0 ≤ h0.size := by rw [← O0.1]; exact O0.2.1
  refine Met.of (by decide +kernel) O0 hE ?_
  intro p e s m below meth c hx hby hml hret hlk hnm
  refine k_cast (ef_cp5 m q (0 : Int32) t (0 : Int32) (Int32.ofNat (cs).length)) ?_
  show Run p l e _ s m _ below meth c Z EL1 _ n0 NoB h0 0 0 (mkF m 0 #[.val (.ref q), .val (.int (0 : Int32)), .val (.ref t), .val (.int (0 : Int32)), .val (.int (Int32.ofNat (cs).length)), .unset, .unset] []) _
  have lt_1 : @LT.lt Nat _ q (Array.size h0) := pf_0.lt
  have lt_2 : @LT.lt Nat _ t (Array.size h0) := pf_1.lt
  refine k_pure (g' := (mkF m 1 #[.val (.ref q), .val (.int (0 : Int32)), .val (.ref t), .val (.int (0 : Int32)), .val (.int (Int32.ofNat (cs).length)), .unset, .unset] [(.int (0 : Int32))])) (fun TT HH tt kk => XS.iconst HH hx rfl (hb hby d_jdk_52_m_21_0) kk) ?_
  refine k_pure (g' := (mkF m 3 #[.val (.ref q), .val (.int (0 : Int32)), .val (.ref t), .val (.int (0 : Int32)), .val (.int (Int32.ofNat (cs).length)), .val (.int (0 : Int32)), .unset] [])) (fun TT HH tt kk => XS.istore HH hx rfl (hb hby d_jdk_52_m_21_1) rfl (l' := #[.val (.ref q), .val (.int (0 : Int32)), .val (.ref t), .val (.int (0 : Int32)), .val (.int (Int32.ofNat (cs).length)), .val (.int (0 : Int32)), .unset]) rfl kk) ?_
  have loop : ∀ (k i : Nat) (hh : Heap) (ws : List Value) (sl : Slot), i + k = cs.length → Old Z n0 hh → Keep h0 hh [t] → Arv Z hh t kb .byte (Int32.ofNat (cs).length) ws (.int 0) → SlI sl → ws.length = cs.length → (∀ j, j < i → ¬ (255 : Int32) < cs.getD j 0) → Run p l e RM_cp5 s m #[(.ref q), (.int (0 : Int32)), (.ref t), (.int (0 : Int32)), (.int (Int32.ofNat (cs).length))] below meth c Z EL1 "java/lang/StringUTF16" n0 NoB hh 0 0 (mkF m 3 #[.val (.ref q), .val (.int (Int32.ofNat i)), .val (.ref t), .val (.int (Int32.ofNat i)), .val (.int (Int32.ofNat (cs).length)), .val (.int (Int32.ofNat i)), sl] []) (Q_cp5 Z G1 G3 q kq cs t kb us h0 n0 NoB) := by
    intro k
    induction k with
    | zero =>
      intro i hh ws sl hi hO hK hA hsl hwl hsm
      have z_3 := hK.1
      refine k_pure (g' := (mkF m 5 #[.val (.ref q), .val (.int (Int32.ofNat i)), .val (.ref t), .val (.int (Int32.ofNat i)), .val (.int (Int32.ofNat (cs).length)), .val (.int (Int32.ofNat i)), sl] [(.int (Int32.ofNat i))])) (fun TT HH tt kk => XS.iload HH hx rfl (hb hby d_jdk_52_m_21_3) rfl kk) ?_
      refine k_pure (g' := (mkF m 7 #[.val (.ref q), .val (.int (Int32.ofNat i)), .val (.ref t), .val (.int (Int32.ofNat i)), .val (.int (Int32.ofNat (cs).length)), .val (.int (Int32.ofNat i)), sl] [(.int (Int32.ofNat (cs).length)), (.int (Int32.ofNat i))])) (fun TT HH tt kk => XS.iload HH hx rfl (hb hby d_jdk_52_m_21_5) rfl kk) ?_
      refine k_pure (g' := (mkF m 44 #[.val (.ref q), .val (.int (Int32.ofNat i)), .val (.ref t), .val (.int (Int32.ofNat i)), .val (.int (Int32.ofNat (cs).length)), .val (.int (Int32.ofNat i)), sl] [])) (fun TT HH tt kk => XS.icmpYes HH hx rfl (pc0 := 7) (pc' := 44) rfl (hb hby d_jdk_52_m_21_7) rfl (flt (not_lt_nat (by omega) (by omega))).2.1 (by decide) (by decide) kk) ?_
      exact (no_wide hsm hi hw0).elim
    | succ k ih =>
      intro i hh ws sl hi hO hK hA hsl hwl hsm
      have z_4 := hK.1
      refine k_pure (g' := (mkF m 5 #[.val (.ref q), .val (.int (Int32.ofNat i)), .val (.ref t), .val (.int (Int32.ofNat i)), .val (.int (Int32.ofNat (cs).length)), .val (.int (Int32.ofNat i)), sl] [(.int (Int32.ofNat i))])) (fun TT HH tt kk => XS.iload HH hx rfl (hb hby d_jdk_52_m_21_3) rfl kk) ?_
      refine k_pure (g' := (mkF m 7 #[.val (.ref q), .val (.int (Int32.ofNat i)), .val (.ref t), .val (.int (Int32.ofNat i)), .val (.int (Int32.ofNat (cs).length)), .val (.int (Int32.ofNat i)), sl] [(.int (Int32.ofNat (cs).length)), (.int (Int32.ofNat i))])) (fun TT HH tt kk => XS.iload HH hx rfl (hb hby d_jdk_52_m_21_5) rfl kk) ?_
      refine k_pure (g' := (mkF m 10 #[.val (.ref q), .val (.int (Int32.ofNat i)), .val (.ref t), .val (.int (Int32.ofNat i)), .val (.int (Int32.ofNat (cs).length)), .val (.int (Int32.ofNat i)), sl] [])) (fun TT HH tt kk => XS.icmpNo HH hx rfl (hb hby d_jdk_52_m_21_7) rfl (tlt (lt_nat (by omega) (by omega))).2.1 kk) ?_
      refine k_pure (g' := (mkF m 11 #[.val (.ref q), .val (.int (Int32.ofNat i)), .val (.ref t), .val (.int (Int32.ofNat i)), .val (.int (Int32.ofNat (cs).length)), .val (.int (Int32.ofNat i)), sl] [(.ref q)])) (fun TT HH tt kk => XS.aloadN HH hx rfl (hb hby d_jdk_52_m_21_10) rfl rfl kk) ?_
      refine k_pure (g' := (mkF m 12 #[.val (.ref q), .val (.int (Int32.ofNat i)), .val (.ref t), .val (.int (Int32.ofNat i)), .val (.int (Int32.ofNat (cs).length)), .val (.int (Int32.ofNat i)), sl] [(.int (Int32.ofNat i)), (.ref q)])) (fun TT HH tt kk => XS.iloadN HH hx rfl (hb hby d_jdk_52_m_21_11) rfl kk) ?_
      have F_5 : Arv Z hh q kq .char (Int32.ofNat (cs).length) ((cs).map Value.int) (.int (0 : Int32)) := (pf_0.keep hK (ninS (ne_ad (by omega)) nin0))
      refine k_aget hx (v := (.int (cs.getD i 0))) F_5 (idx_ok (by omega) (by omega)) (getD_int cs (by omega)) (Or.inr (Or.inr (Or.inl ⟨rfl, rfl⟩))) rfl rfl (hb hby d_jdk_52_m_21_12) ?_
      show Run p l e _ s m _ below meth c Z EL1 _ n0 NoB hh 0 0 (mkF m 13 #[.val (.ref q), .val (.int (Int32.ofNat i)), .val (.ref t), .val (.int (Int32.ofNat i)), .val (.int (Int32.ofNat (cs).length)), .val (.int (Int32.ofNat i)), sl] [(.int (cs.getD i 0))]) _
      refine k_pure (g' := (mkF m 15 #[.val (.ref q), .val (.int (Int32.ofNat i)), .val (.ref t), .val (.int (Int32.ofNat i)), .val (.int (Int32.ofNat (cs).length)), .val (.int (Int32.ofNat i)), .val (.int (cs.getD i 0))] [])) (fun TT HH tt kk => XS.istore HH hx rfl (hb hby d_jdk_52_m_21_13) rfl (l' := #[.val (.ref q), .val (.int (Int32.ofNat i)), .val (.ref t), .val (.int (Int32.ofNat i)), .val (.int (Int32.ofNat (cs).length)), .val (.int (Int32.ofNat i)), .val (.int (cs.getD i 0))]) (by rcases hsl with rfl | ⟨uu, rfl⟩ <;> rfl) kk) ?_
      refine k_pure (g' := (mkF m 17 #[.val (.ref q), .val (.int (Int32.ofNat i)), .val (.ref t), .val (.int (Int32.ofNat i)), .val (.int (Int32.ofNat (cs).length)), .val (.int (Int32.ofNat i)), .val (.int (cs.getD i 0))] [(.int (cs.getD i 0))])) (fun TT HH tt kk => XS.iload HH hx rfl (hb hby d_jdk_52_m_21_15) rfl kk) ?_
      refine k_pure (g' := (mkF m 20 #[.val (.ref q), .val (.int (Int32.ofNat i)), .val (.ref t), .val (.int (Int32.ofNat i)), .val (.int (Int32.ofNat (cs).length)), .val (.int (Int32.ofNat i)), .val (.int (cs.getD i 0))] [(.int (255 : Int32)), (.int (cs.getD i 0))])) (fun TT HH tt kk => XS.sipush HH hx rfl (hb hby d_jdk_52_m_21_17) kk) ?_
      by_cases c_6 : (255 : Int32) < (cs.getD i 0)
      · refine k_pure (g' := (mkF m 23 #[.val (.ref q), .val (.int (Int32.ofNat i)), .val (.ref t), .val (.int (Int32.ofNat i)), .val (.int (Int32.ofNat (cs).length)), .val (.int (Int32.ofNat i)), .val (.int (cs.getD i 0))] [])) (fun TT HH tt kk => XS.icmpNo HH hx rfl (hb hby d_jdk_52_m_21_20) rfl (tlt c_6).2.2.2 kk) ?_
        refine k_pure (g' := (mkF m 25 #[.val (.ref q), .val (.int (Int32.ofNat i)), .val (.ref t), .val (.int (Int32.ofNat i)), .val (.int (Int32.ofNat (cs).length)), .val (.int (Int32.ofNat i)), .val (.int (cs.getD i 0))] [(.int (Int32.ofNat i))])) (fun TT HH tt kk => XS.iload HH hx rfl (hb hby d_jdk_52_m_21_23) rfl kk) ?_
        exact k_retI hx hlk hret (hb hby d_jdk_52_m_21_25) (by decide) (by decide) ⟨i, ws, rfl, rfl, ((Keep.refl _ _).trans hK (kkS (Or.inl (by simp)) kk0)), hA, (by omega), c_6⟩
      · refine k_pure (g' := (mkF m 26 #[.val (.ref q), .val (.int (Int32.ofNat i)), .val (.ref t), .val (.int (Int32.ofNat i)), .val (.int (Int32.ofNat (cs).length)), .val (.int (Int32.ofNat i)), .val (.int (cs.getD i 0))] [])) (fun TT HH tt kk => XS.icmpYes HH hx rfl (pc0 := 20) (pc' := 26) rfl (hb hby d_jdk_52_m_21_20) rfl (flt c_6).2.2.2 (by decide) (by decide) kk) ?_
        refine k_pure (g' := (mkF m 27 #[.val (.ref q), .val (.int (Int32.ofNat i)), .val (.ref t), .val (.int (Int32.ofNat i)), .val (.int (Int32.ofNat (cs).length)), .val (.int (Int32.ofNat i)), .val (.int (cs.getD i 0))] [(.ref t)])) (fun TT HH tt kk => XS.aloadN HH hx rfl (hb hby d_jdk_52_m_21_26) rfl rfl kk) ?_
        refine k_pure (g' := (mkF m 28 #[.val (.ref q), .val (.int (Int32.ofNat i)), .val (.ref t), .val (.int (Int32.ofNat i)), .val (.int (Int32.ofNat (cs).length)), .val (.int (Int32.ofNat i)), .val (.int (cs.getD i 0))] [(.int (Int32.ofNat i)), (.ref t)])) (fun TT HH tt kk => XS.iloadN HH hx rfl (hb hby d_jdk_52_m_21_27) rfl kk) ?_
        refine k_pure (g' := (mkF m 30 #[.val (.ref q), .val (.int (Int32.ofNat i)), .val (.ref t), .val (.int (Int32.ofNat i)), .val (.int (Int32.ofNat (cs).length)), .val (.int (Int32.ofNat i)), .val (.int (cs.getD i 0))] [(.int (cs.getD i 0)), (.int (Int32.ofNat i)), (.ref t)])) (fun TT HH tt kk => XS.iload HH hx rfl (hb hby d_jdk_52_m_21_28) rfl kk) ?_
        refine k_pure (g' := (mkF m 31 #[.val (.ref q), .val (.int (Int32.ofNat i)), .val (.ref t), .val (.int (Int32.ofNat i)), .val (.int (Int32.ofNat (cs).length)), .val (.int (Int32.ofNat i)), .val (.int (cs.getD i 0))] [(.int ((cs.getD i 0).toInt8.toInt32)), (.int (Int32.ofNat i)), (.ref t)])) (fun TT HH tt kk => XS.i2b HH hx rfl (hb hby d_jdk_52_m_21_30) rfl kk) ?_
        refine k_stB hx hA (idx_ok (by omega) (by omega)) i (clampN (by omega)) (by omega) (by omega) (fun q => q) rfl rfl (hb hby d_jdk_52_m_21_31) ?_
        intro h_7 O_8 W_9 A_10
        have z_11 := W_9.size
        have V_12 : Arv Z h_7 t kb .byte (Int32.ofNat (cs).length) (ws.set i (.int (nar .byte ((cs.getD i 0).toInt8.toInt32)))) (.int 0) := A_10
        show Run p l e _ s m _ below meth c Z EL1 _ n0 NoB h_7 0 0 (mkF m 32 #[.val (.ref q), .val (.int (Int32.ofNat i)), .val (.ref t), .val (.int (Int32.ofNat i)), .val (.int (Int32.ofNat (cs).length)), .val (.int (Int32.ofNat i)), .val (.int (cs.getD i 0))] []) _
        refine k_pure (g' := (mkF m 35 #[.val (.ref q), .val (.int ((Int32.ofNat i) + (1 : Int32))), .val (.ref t), .val (.int (Int32.ofNat i)), .val (.int (Int32.ofNat (cs).length)), .val (.int (Int32.ofNat i)), .val (.int (cs.getD i 0))] [])) (fun TT HH tt kk => XS.iinc HH hx rfl (hb hby d_jdk_52_m_21_32) rfl (l' := #[.val (.ref q), .val (.int ((Int32.ofNat i) + (1 : Int32))), .val (.ref t), .val (.int (Int32.ofNat i)), .val (.int (Int32.ofNat (cs).length)), .val (.int (Int32.ofNat i)), .val (.int (cs.getD i 0))]) rfl kk) ?_
        refine k_pure (g' := (mkF m 38 #[.val (.ref q), .val (.int ((Int32.ofNat i) + (1 : Int32))), .val (.ref t), .val (.int ((Int32.ofNat i) + (1 : Int32))), .val (.int (Int32.ofNat (cs).length)), .val (.int (Int32.ofNat i)), .val (.int (cs.getD i 0))] [])) (fun TT HH tt kk => XS.iinc HH hx rfl (hb hby d_jdk_52_m_21_35) rfl (l' := #[.val (.ref q), .val (.int ((Int32.ofNat i) + (1 : Int32))), .val (.ref t), .val (.int ((Int32.ofNat i) + (1 : Int32))), .val (.int (Int32.ofNat (cs).length)), .val (.int (Int32.ofNat i)), .val (.int (cs.getD i 0))]) rfl kk) ?_
        refine k_pure (g' := (mkF m 41 #[.val (.ref q), .val (.int ((Int32.ofNat i) + (1 : Int32))), .val (.ref t), .val (.int ((Int32.ofNat i) + (1 : Int32))), .val (.int (Int32.ofNat (cs).length)), .val (.int ((Int32.ofNat i) + (1 : Int32))), .val (.int (cs.getD i 0))] [])) (fun TT HH tt kk => XS.iinc HH hx rfl (hb hby d_jdk_52_m_21_38) rfl (l' := #[.val (.ref q), .val (.int ((Int32.ofNat i) + (1 : Int32))), .val (.ref t), .val (.int ((Int32.ofNat i) + (1 : Int32))), .val (.int (Int32.ofNat (cs).length)), .val (.int ((Int32.ofNat i) + (1 : Int32))), .val (.int (cs.getD i 0))]) rfl kk) ?_
        refine k_pure (g' := (mkF m 3 #[.val (.ref q), .val (.int ((Int32.ofNat i) + (1 : Int32))), .val (.ref t), .val (.int ((Int32.ofNat i) + (1 : Int32))), .val (.int (Int32.ofNat (cs).length)), .val (.int ((Int32.ofNat i) + (1 : Int32))), .val (.int (cs.getD i 0))] [])) (fun TT HH tt kk => XS.goto HH hx rfl (pc0 := 41) (pc' := 3) rfl (hb hby d_jdk_52_m_21_41) (by decide) (by decide) kk) ?_
        rw [← inc_ofNat]
        exact ih (i + 1) _ _ _ (by omega) O_8 (hK.wr W_9 (Or.inl (by simp))) V_12 (Or.inr ⟨_, rfl⟩) (by simp; omega) (wide_snoc hsm c_6)
  exact loop _ 0 _ _ _ (Nat.zero_add _) O0 (Keep.refl _ _) pf_1 (Or.inl rfl) hl (fun j z => absurd z (Nat.not_lt_zero _))
def Q_cp3 (Z : State) (G1 : Int32) (G3 : Value) (q : Addr) (kq : ClassId) (cs : List Int32) (h0 : Heap) (n0 : Nat) (bk : Addr → Prop) (v : Option Value) (h : Heap) (bk' : Addr → Prop) : Prop := ∃ (u : Addr), ∃ (ku : ClassId), v = some (.ref u) ∧ NoB = bk' ∧ Keep h0 h [] ∧ (Arv Z h u ku .byte (Int32.ofNat (2 * (cs).length)) (StrChars.Road.wideBytes cs) (.int 0)) ∧ (@LE.le Nat _ (Array.size h0) u)
theorem d_jdk_52_m_16_0 : decode jdk_52_method_16_code 0 = .ok (.iload_n 2, 1) := by decide +kernel
theorem d_jdk_52_m_16_1 : decode jdk_52_method_16_code 1 = .ok (.newarray .byte, 2) := by decide +kernel
theorem d_jdk_52_m_16_3 : decode jdk_52_method_16_code 3 = .ok (.astore_n 3, 1) := by decide +kernel
theorem d_jdk_52_m_16_4 : decode jdk_52_method_16_code 4 = .ok (.aload_n 0, 1) := by decide +kernel
theorem d_jdk_52_m_16_5 : decode jdk_52_method_16_code 5 = .ok (.iload_n 1, 1) := by decide +kernel
theorem d_jdk_52_m_16_6 : decode jdk_52_method_16_code 6 = .ok (.aload_n 3, 1) := by decide +kernel
theorem d_jdk_52_m_16_7 : decode jdk_52_method_16_code 7 = .ok (.iconst 0, 1) := by decide +kernel
theorem d_jdk_52_m_16_8 : decode jdk_52_method_16_code 8 = .ok (.iload_n 2, 1) := by decide +kernel
theorem d_jdk_52_m_16_9 : decode jdk_52_method_16_code 9 = .ok (.invokestatic 115, 3) := by decide +kernel
theorem pd__28__5b_CI_5b_BII_29_I : parseMethodDescriptor "([CI[BII)I" = some ⟨[(.array .char), .int, (.array .byte), .int, .int], some .int⟩ := by decide +kernel
theorem d_jdk_52_m_16_12 : decode jdk_52_method_16_code 12 = .ok (.istore 4, 2) := by decide +kernel
theorem d_jdk_52_m_16_14 : decode jdk_52_method_16_code 14 = .ok (.iload 4, 2) := by decide +kernel
theorem d_jdk_52_m_16_16 : decode jdk_52_method_16_code 16 = .ok (.iload_n 2, 1) := by decide +kernel
theorem d_jdk_52_m_16_17 : decode jdk_52_method_16_code 17 = .ok (.if_icmp .eq 40, 3) := by decide +kernel
theorem d_jdk_52_m_16_20 : decode jdk_52_method_16_code 20 = .ok (.aload_n 0, 1) := by decide +kernel
theorem d_jdk_52_m_16_21 : decode jdk_52_method_16_code 21 = .ok (.iload_n 1, 1) := by decide +kernel
theorem d_jdk_52_m_16_22 : decode jdk_52_method_16_code 22 = .ok (.iload_n 2, 1) := by decide +kernel
theorem d_jdk_52_m_16_23 : decode jdk_52_method_16_code 23 = .ok (.invokestatic 119, 3) := by decide +kernel
theorem pd__28__5b_CII_29__5b_B : parseMethodDescriptor "([CII)[B" = some ⟨[(.array .char), .int, .int], some (.array .byte)⟩ := by decide +kernel
theorem d_jdk_52_m_16_26 : decode jdk_52_method_16_code 26 = .ok (.astore 5, 2) := by decide +kernel
theorem d_jdk_52_m_16_28 : decode jdk_52_method_16_code 28 = .ok (.aload 5, 2) := by decide +kernel
theorem d_jdk_52_m_16_30 : decode jdk_52_method_16_code 30 = .ok (.iload 4, 2) := by decide +kernel
theorem d_jdk_52_m_16_32 : decode jdk_52_method_16_code 32 = .ok (.invokestatic 71, 3) := by decide +kernel
theorem pd__28__5b_BI_29_C : parseMethodDescriptor "([BI)C" = some ⟨[(.array .byte), .int], some .char⟩ := by decide +kernel
theorem d_jdk_52_m_16_35 : decode jdk_52_method_16_code 35 = .ok (.sipush 255, 3) := by decide +kernel
theorem d_jdk_52_m_16_38 : decode jdk_52_method_16_code 38 = .ok (.if_icmp .gt 16, 3) := by decide +kernel
theorem d_jdk_52_m_16_54 : decode jdk_52_method_16_code 54 = .ok (.aload 5, 2) := by decide +kernel
theorem d_jdk_52_m_16_56 : decode jdk_52_method_16_code 56 = .ok (.areturn, 1) := by decide +kernel
abbrev RM_cp3 : Room := { frames := 3, cells := 2, slots := 600, locals := 40 }
theorem ef_cp3 (m : MethodId) (x0 : Addr) (x1 : Int32) (x2 : Int32) : entryFrame m #[(.ref x0), (.int x1), (.int x2)] 6 = mkF m 0 #[.val (.ref x0), .val (.int x1), .val (.int x2), .unset, .unset, .unset] [] := by first | (simp [entryFrame, mkF, argsToLocals, Value.category]; done) | rfl
set_option maxRecDepth 65536 in
set_option maxHeartbeats 40000000 in
theorem rm_cp3 (l : Launch) (Z : State) (a0 : Array Value) (G1 : Int32) (G3 : Value) (hX : Ctx Z a0 G1 G3) (hU : Wide Z) (n0 : Nat) (h0 : Heap) (O0 : Old Z n0 h0) (q : Addr) (kq : ClassId) (cs : List Int32) (pf_0 : Arv Z h0 q kq .char (Int32.ofNat (cs).length) ((cs).map Value.int) (.int (0 : Int32))) (hr : ∀ c ∈ cs, ¬ c < 0 ∧ ¬ (65535 : Int32) < c) (hw0 : ∃ c ∈ cs, (255 : Int32) < c) (hn : (cs).length ≤ 200) (ws : List Jvm.Cond) : Met l Z EL1 n0 NoB (⟨"java/lang/StringUTF16", "compress", "([CII)[B"⟩ : MethodName) jdk_52_method_16_code 6 (Option.some (FieldType.array FieldType.byte)) RM_cp3 #[(.ref q), (.int (0 : Int32)), (.int (Int32.ofNat (cs).length))] h0 (Q_cp3 Z G1 G3 q kq cs h0 n0 NoB) ws := by
  have hX' := hX
  obtain ⟨hw, hE, S1, P1, S3, P3⟩ := hX'
  have hU' := hU
  obtain ⟨u1, u2, u3⟩ := hU'
  have hSA := sa_of hw
  have wT : ∀ (i : Nat) {d : Jvm.Cond}, tables_1[i]? = some d → d.before a0 Z = true := fun i d h => hw d (List.mem_of_getElem? h)
  have z0 : n0 ≤ h0.size := by rw [← O0.1]; exact O0.2.1
  refine Met.of (by decide +kernel) O0 hE ?_
  intro p e s m below meth c hx hby hml hret hlk hnm
  refine k_cast (ef_cp3 m q (0 : Int32) (Int32.ofNat (cs).length)) ?_
  show Run p l e _ s m _ below meth c Z EL1 _ n0 NoB h0 0 0 (mkF m 0 #[.val (.ref q), .val (.int (0 : Int32)), .val (.int (Int32.ofNat (cs).length)), .unset, .unset, .unset] []) _
  have lt_1 : @LT.lt Nat _ q (Array.size h0) := pf_0.lt
  refine k_pure (g' := (mkF m 1 #[.val (.ref q), .val (.int (0 : Int32)), .val (.int (Int32.ofNat (cs).length)), .unset, .unset, .unset] [(.int (Int32.ofNat (cs).length))])) (fun TT HH tt kk => XS.iloadN HH hx rfl (hb hby d_jdk_52_m_16_0) rfl kk) ?_
  refine k_newP hx (wT 29 rfl) rfl (hb hby d_jdk_52_m_16_1) rfl (not_lt_nat (n := 0) (Nat.zero_le _) (by omega)) (cap := 200) (by rw [clampN (by omega)]; omega) (by decide) (by decide) (by decide) "[B" (by decide +kernel) ?_
  intro h_3 a_2 k_4 g_5 O_6 E_7 A_8 X_9
  have z_10 := E_7.1
  have lt_11 : @LT.lt Nat _ a_2 (Array.size h_3) := A_8.lt
  show Run p l e _ s m _ below meth c Z EL1 _ n0 NoB h_3 1 200 (mkF m 3 #[.val (.ref q), .val (.int (0 : Int32)), .val (.int (Int32.ofNat (cs).length)), .unset, .unset, .unset] [(.ref a_2)]) _
  refine k_pure (g' := (mkF m 4 #[.val (.ref q), .val (.int (0 : Int32)), .val (.int (Int32.ofNat (cs).length)), .val (.ref a_2), .unset, .unset] [])) (fun TT HH tt kk => XS.astoreN HH hx rfl (hb hby d_jdk_52_m_16_3) rfl rfl (l' := #[.val (.ref q), .val (.int (0 : Int32)), .val (.int (Int32.ofNat (cs).length)), .val (.ref a_2), .unset, .unset]) rfl kk) ?_
  refine k_pure (g' := (mkF m 5 #[.val (.ref q), .val (.int (0 : Int32)), .val (.int (Int32.ofNat (cs).length)), .val (.ref a_2), .unset, .unset] [(.ref q)])) (fun TT HH tt kk => XS.aloadN HH hx rfl (hb hby d_jdk_52_m_16_4) rfl rfl kk) ?_
  refine k_pure (g' := (mkF m 6 #[.val (.ref q), .val (.int (0 : Int32)), .val (.int (Int32.ofNat (cs).length)), .val (.ref a_2), .unset, .unset] [(.int (0 : Int32)), (.ref q)])) (fun TT HH tt kk => XS.iloadN HH hx rfl (hb hby d_jdk_52_m_16_5) rfl kk) ?_
  refine k_pure (g' := (mkF m 7 #[.val (.ref q), .val (.int (0 : Int32)), .val (.int (Int32.ofNat (cs).length)), .val (.ref a_2), .unset, .unset] [(.ref a_2), (.int (0 : Int32)), (.ref q)])) (fun TT HH tt kk => XS.aloadN HH hx rfl (hb hby d_jdk_52_m_16_6) rfl rfl kk) ?_
  refine k_pure (g' := (mkF m 8 #[.val (.ref q), .val (.int (0 : Int32)), .val (.int (Int32.ofNat (cs).length)), .val (.ref a_2), .unset, .unset] [(.int (0 : Int32)), (.ref a_2), (.int (0 : Int32)), (.ref q)])) (fun TT HH tt kk => XS.iconst HH hx rfl (hb hby d_jdk_52_m_16_7) kk) ?_
  refine k_pure (g' := (mkF m 9 #[.val (.ref q), .val (.int (0 : Int32)), .val (.int (Int32.ofNat (cs).length)), .val (.ref a_2), .unset, .unset] [(.int (Int32.ofNat (cs).length)), (.int (0 : Int32)), (.ref a_2), (.int (0 : Int32)), (.ref q)])) (fun TT HH tt kk => XS.iloadN HH hx rfl (hb hby d_jdk_52_m_16_8) rfl kk) ?_
  have V_12 : Arv Z h_3 a_2 k_4 .byte (Int32.ofNat (cs).length) (([] : List Value) ++ List.replicate (cs).length (.int 0)) (.int 0) := Arv.pad A_8 (pad_rep [] (.int 0) (cs).length)
  have F_13 : Arv Z h_3 q kq .char (Int32.ofNat (cs).length) ((cs).map Value.int) (.int (0 : Int32)) := (pf_0.ext E_7)
  refine k_callS hx (y := (⟨"java/lang/StringUTF16", "compress", "([CI[BII)I"⟩ : MethodName)) (wT 30 rfl) (wT 31 rfl) (wT 27 rfl) (wT 32 rfl) (by decide) (W := 0) (argsL := [(.ref q), (.int (0 : Int32)), (.ref a_2), (.int (0 : Int32)), (.int (Int32.ofNat (cs).length))]) (rest := []) (Pays.of_met (rm_cp5 l Z a0 G1 G3 hX hU n0 h_3 O_6 q kq cs a_2 k_4 (([] : List Value) ++ List.replicate (cs).length (.int 0)) F_13 V_12 hw0 (by simp) hn (by omega) (by omega) []) (wT 32 rfl) (wT 27 rfl) (by decide) (by decide)) rfl (by rw [hml]; rfl) (lenOf pd__28__5b_CI_5b_BII_29_I rfl) rfl (by show 2 * 0 + _ ≤ _; exact Nat.le_of_eq rfl) (hb hby d_jdk_52_m_16_9) (by decide) (by decide) ?_
  intro v_14 h_15 bk_16 O_17 z_18 Q_19
  obtain ⟨e_20, e_21, rfl, rfl, K_22, F_23, P_24⟩ := Q_19
  have lt_25 : @LT.lt Nat _ a_2 (Array.size h_15) := F_23.lt
  show Run p l e _ s m _ below meth c Z EL1 _ n0 NoB h_15 1 200 (mkF m 12 #[.val (.ref q), .val (.int (0 : Int32)), .val (.int (Int32.ofNat (cs).length)), .val (.ref a_2), .unset, .unset] [(.int (Int32.ofNat e_20))]) _
  refine k_pure (g' := (mkF m 14 #[.val (.ref q), .val (.int (0 : Int32)), .val (.int (Int32.ofNat (cs).length)), .val (.ref a_2), .val (.int (Int32.ofNat e_20)), .unset] [])) (fun TT HH tt kk => XS.istore HH hx rfl (hb hby d_jdk_52_m_16_12) rfl (l' := #[.val (.ref q), .val (.int (0 : Int32)), .val (.int (Int32.ofNat (cs).length)), .val (.ref a_2), .val (.int (Int32.ofNat e_20)), .unset]) rfl kk) ?_
  refine k_pure (g' := (mkF m 16 #[.val (.ref q), .val (.int (0 : Int32)), .val (.int (Int32.ofNat (cs).length)), .val (.ref a_2), .val (.int (Int32.ofNat e_20)), .unset] [(.int (Int32.ofNat e_20))])) (fun TT HH tt kk => XS.iload HH hx rfl (hb hby d_jdk_52_m_16_14) rfl kk) ?_
  refine k_pure (g' := (mkF m 17 #[.val (.ref q), .val (.int (0 : Int32)), .val (.int (Int32.ofNat (cs).length)), .val (.ref a_2), .val (.int (Int32.ofNat e_20)), .unset] [(.int (Int32.ofNat (cs).length)), (.int (Int32.ofNat e_20))])) (fun TT HH tt kk => XS.iloadN HH hx rfl (hb hby d_jdk_52_m_16_16) rfl kk) ?_
  refine k_pure (g' := (mkF m 20 #[.val (.ref q), .val (.int (0 : Int32)), .val (.int (Int32.ofNat (cs).length)), .val (.ref a_2), .val (.int (Int32.ofNat e_20)), .unset] [])) (fun TT HH tt kk => XS.icmpNo HH hx rfl (hb hby d_jdk_52_m_16_17) rfl (feq (u_ne P_24.1 (by omega))).1 kk) ?_
  refine k_pure (g' := (mkF m 21 #[.val (.ref q), .val (.int (0 : Int32)), .val (.int (Int32.ofNat (cs).length)), .val (.ref a_2), .val (.int (Int32.ofNat e_20)), .unset] [(.ref q)])) (fun TT HH tt kk => XS.aloadN HH hx rfl (hb hby d_jdk_52_m_16_20) rfl rfl kk) ?_
  refine k_pure (g' := (mkF m 22 #[.val (.ref q), .val (.int (0 : Int32)), .val (.int (Int32.ofNat (cs).length)), .val (.ref a_2), .val (.int (Int32.ofNat e_20)), .unset] [(.int (0 : Int32)), (.ref q)])) (fun TT HH tt kk => XS.iloadN HH hx rfl (hb hby d_jdk_52_m_16_21) rfl kk) ?_
  refine k_pure (g' := (mkF m 23 #[.val (.ref q), .val (.int (0 : Int32)), .val (.int (Int32.ofNat (cs).length)), .val (.ref a_2), .val (.int (Int32.ofNat e_20)), .unset] [(.int (Int32.ofNat (cs).length)), (.int (0 : Int32)), (.ref q)])) (fun TT HH tt kk => XS.iloadN HH hx rfl (hb hby d_jdk_52_m_16_22) rfl kk) ?_
  have F_26 : Arv Z h_15 q kq .char (Int32.ofNat (cs).length) ((cs).map Value.int) (.int (0 : Int32)) := (F_13.keep K_22 (ninS (ne_ad (by omega)) nin0))
  refine k_callS hx (y := (⟨"java/lang/StringUTF16", "toBytes", "([CII)[B"⟩ : MethodName)) (wT 33 rfl) (wT 34 rfl) (wT 27 rfl) (wT 35 rfl) (by decide) (W := 0) (argsL := [(.ref q), (.int (0 : Int32)), (.int (Int32.ofNat (cs).length))]) (rest := []) (Pays.of_met (rm_tob l Z a0 G1 G3 hX hU n0 h_15 O_17 q kq cs F_26 hn []) (wT 35 rfl) (wT 27 rfl) (by decide) (by decide)) rfl (by rw [hml]; rfl) (lenOf pd__28__5b_CII_29__5b_B rfl) rfl (by show 2 * 0 + _ ≤ _; exact Nat.le_of_eq rfl) (hb hby d_jdk_52_m_16_23) (by decide) (by decide) ?_
  intro v_27 h_28 bk_29 O_30 z_31 Q_32
  obtain ⟨a_33, k_34, rfl, rfl, K_35, F_36, P_37⟩ := Q_32
  have lt_38 : @LT.lt Nat _ a_33 (Array.size h_28) := F_36.lt
  show Run p l e _ s m _ below meth c Z EL1 _ n0 NoB h_28 2 600 (mkF m 26 #[.val (.ref q), .val (.int (0 : Int32)), .val (.int (Int32.ofNat (cs).length)), .val (.ref a_2), .val (.int (Int32.ofNat e_20)), .unset] [(.ref a_33)]) _
  refine k_pure (g' := (mkF m 28 #[.val (.ref q), .val (.int (0 : Int32)), .val (.int (Int32.ofNat (cs).length)), .val (.ref a_2), .val (.int (Int32.ofNat e_20)), .val (.ref a_33)] [])) (fun TT HH tt kk => XS.astore HH hx rfl (hb hby d_jdk_52_m_16_26) rfl rfl (l' := #[.val (.ref q), .val (.int (0 : Int32)), .val (.int (Int32.ofNat (cs).length)), .val (.ref a_2), .val (.int (Int32.ofNat e_20)), .val (.ref a_33)]) rfl kk) ?_
  refine k_pure (g' := (mkF m 30 #[.val (.ref q), .val (.int (0 : Int32)), .val (.int (Int32.ofNat (cs).length)), .val (.ref a_2), .val (.int (Int32.ofNat e_20)), .val (.ref a_33)] [(.ref a_33)])) (fun TT HH tt kk => XS.aload HH hx rfl (hb hby d_jdk_52_m_16_28) rfl rfl kk) ?_
  refine k_pure (g' := (mkF m 32 #[.val (.ref q), .val (.int (0 : Int32)), .val (.int (Int32.ofNat (cs).length)), .val (.ref a_2), .val (.int (Int32.ofNat e_20)), .val (.ref a_33)] [(.int (Int32.ofNat e_20)), (.ref a_33)])) (fun TT HH tt kk => XS.iload HH hx rfl (hb hby d_jdk_52_m_16_30) rfl kk) ?_
  refine k_callS hx (y := (⟨"java/lang/StringUTF16", "getChar", "([BI)C"⟩ : MethodName)) (wT 49 rfl) (wT 50 rfl) (wT 27 rfl) (wT 51 rfl) (by decide) (W := 0) (argsL := [(.ref a_33), (.int (Int32.ofNat e_20))]) (rest := []) (Pays.of_met (rm_gec l Z a0 G1 G3 hX hU n0 h_28 O_30 a_33 k_34 cs e_20 F_36 hr P_24.1 (by omega) []) (wT 51 rfl) (wT 27 rfl) (by decide) (by decide)) rfl (by rw [hml]; rfl) (lenOf pd__28__5b_BI_29_C rfl) rfl (by show 2 * 0 + _ ≤ _; exact Nat.le_of_eq rfl) (hb hby d_jdk_52_m_16_32) (by decide) (by decide) ?_
  intro v_39 h_40 bk_41 O_42 z_43 Q_44
  obtain ⟨rfl, rfl, rfl⟩ := Q_44
  show Run p l e _ s m _ below meth c Z EL1 _ n0 NoB h_28 2 600 (mkF m 35 #[.val (.ref q), .val (.int (0 : Int32)), .val (.int (Int32.ofNat (cs).length)), .val (.ref a_2), .val (.int (Int32.ofNat e_20)), .val (.ref a_33)] [(.int ((cs).getD e_20 0))]) _
  refine k_pure (g' := (mkF m 38 #[.val (.ref q), .val (.int (0 : Int32)), .val (.int (Int32.ofNat (cs).length)), .val (.ref a_2), .val (.int (Int32.ofNat e_20)), .val (.ref a_33)] [(.int (255 : Int32)), (.int ((cs).getD e_20 0))])) (fun TT HH tt kk => XS.sipush HH hx rfl (hb hby d_jdk_52_m_16_35) kk) ?_
  refine k_pure (g' := (mkF m 54 #[.val (.ref q), .val (.int (0 : Int32)), .val (.int (Int32.ofNat (cs).length)), .val (.ref a_2), .val (.int (Int32.ofNat e_20)), .val (.ref a_33)] [])) (fun TT HH tt kk => XS.icmpYes HH hx rfl (pc0 := 38) (pc' := 54) rfl (hb hby d_jdk_52_m_16_38) rfl (tlt P_24.2).2.2.1 (by decide) (by decide) kk) ?_
  refine k_pure (g' := (mkF m 56 #[.val (.ref q), .val (.int (0 : Int32)), .val (.int (Int32.ofNat (cs).length)), .val (.ref a_2), .val (.int (Int32.ofNat e_20)), .val (.ref a_33)] [(.ref a_33)])) (fun TT HH tt kk => XS.aload HH hx rfl (hb hby d_jdk_52_m_16_54) rfl rfl kk) ?_
  exact k_retA hx hlk hret rfl rfl rfl (hb hby d_jdk_52_m_16_56) (by decide) (by decide) ⟨a_33, k_34, rfl, rfl, ((((Keep.refl _ _).ext E_7).trans K_22 (kkS (Or.inr (by omega)) kk0)).trans K_35 kk0), F_36, (by omega)⟩
def Q_cfa (Z : State) (G1 : Int32) (G3 : Value) (t : Addr) (kb : ClassId) (vs : List Value) (nn : Nat) (h0 : Heap) (n0 : Nat) (bk : Addr → Prop) (v : Option Value) (h : Heap) (bk' : Addr → Prop) : Prop := v = some (.int (1 : Int32)) ∧ h0 = h ∧ NoB = bk'
theorem d_jdk_52_m_15_0 : decode jdk_52_method_15_code 0 = .ok (.iload_n 1, 1) := by decide +kernel
theorem d_jdk_52_m_15_1 : decode jdk_52_method_15_code 1 = .ok (.aload_n 0, 1) := by decide +kernel
theorem d_jdk_52_m_15_2 : decode jdk_52_method_15_code 2 = .ok (.arraylength, 1) := by decide +kernel
theorem d_jdk_52_m_15_3 : decode jdk_52_method_15_code 3 = .ok (.isub, 1) := by decide +kernel
theorem d_jdk_52_m_15_4 : decode jdk_52_method_15_code 4 = .ok (.bipush 31, 2) := by decide +kernel
theorem d_jdk_52_m_15_6 : decode jdk_52_method_15_code 6 = .ok (.iushr, 1) := by decide +kernel
theorem d_jdk_52_m_15_7 : decode jdk_52_method_15_code 7 = .ok (.i2b, 1) := by decide +kernel
theorem d_jdk_52_m_15_8 : decode jdk_52_method_15_code 8 = .ok (.ireturn, 1) := by decide +kernel
abbrev RM_cfa : Room := { frames := 0, cells := 0, slots := 0, locals := 0 }
theorem ef_cfa (m : MethodId) (x0 : Addr) (x1 : Int32) : entryFrame m #[(.ref x0), (.int x1)] 2 = mkF m 0 #[.val (.ref x0), .val (.int x1)] [] := by first | (simp [entryFrame, mkF, argsToLocals, Value.category]; done) | rfl
set_option maxRecDepth 65536 in
set_option maxHeartbeats 40000000 in
theorem rm_cfa (l : Launch) (Z : State) (a0 : Array Value) (G1 : Int32) (G3 : Value) (hX : Ctx Z a0 G1 G3) (hU : Wide Z) (n0 : Nat) (h0 : Heap) (O0 : Old Z n0 h0) (t : Addr) (kb : ClassId) (vs : List Value) (nn : Nat) (pf_0 : Arv Z h0 t kb .byte (Int32.ofNat (2 * nn)) vs (.int 0)) (h1 : 0 < nn) (h2 : nn ≤ 1900) (ws : List Jvm.Cond) : Met l Z EL1 n0 NoB (⟨"java/lang/StringUTF16", "coderFromArrayLen", "([BI)B"⟩ : MethodName) jdk_52_method_15_code 2 (Option.some FieldType.byte) RM_cfa #[(.ref t), (.int (Int32.ofNat nn))] h0 (Q_cfa Z G1 G3 t kb vs nn h0 n0 NoB) ws := by
  have hX' := hX
  obtain ⟨hw, hE, S1, P1, S3, P3⟩ := hX'
  have hU' := hU
  obtain ⟨u1, u2, u3⟩ := hU'
  have hSA := sa_of hw
  have wT : ∀ (i : Nat) {d : Jvm.Cond}, tables_1[i]? = some d → d.before a0 Z = true := fun i d h => hw d (List.mem_of_getElem? h)
  have z0 : n0 ≤ h0.size := by rw [← O0.1]; exact O0.2.1
  refine Met.of (by decide +kernel) O0 hE ?_
  intro p e s m below meth c hx hby hml hret hlk hnm
  refine k_cast (ef_cfa m t (Int32.ofNat nn)) ?_
  show Run p l e _ s m _ below meth c Z EL1 _ n0 NoB h0 0 0 (mkF m 0 #[.val (.ref t), .val (.int (Int32.ofNat nn))] []) _
  have lt_1 : @LT.lt Nat _ t (Array.size h0) := pf_0.lt
  refine k_pure (g' := (mkF m 1 #[.val (.ref t), .val (.int (Int32.ofNat nn))] [(.int (Int32.ofNat nn))])) (fun TT HH tt kk => XS.iloadN HH hx rfl (hb hby d_jdk_52_m_15_0) rfl kk) ?_
  refine k_pure (g' := (mkF m 2 #[.val (.ref t), .val (.int (Int32.ofNat nn))] [(.ref t), (.int (Int32.ofNat nn))])) (fun TT HH tt kk => XS.aloadN HH hx rfl (hb hby d_jdk_52_m_15_1) rfl rfl kk) ?_
  refine k_alen hx pf_0 rfl rfl (hb hby d_jdk_52_m_15_2) ?_
  show Run p l e _ s m _ below meth c Z EL1 _ n0 NoB h0 0 0 (mkF m 3 #[.val (.ref t), .val (.int (Int32.ofNat nn))] [(.int (Int32.ofNat (2 * nn))), (.int (Int32.ofNat nn))]) _
  refine k_pure (g' := (mkF m 4 #[.val (.ref t), .val (.int (Int32.ofNat nn))] [(.int ((Int32.ofNat nn) - (Int32.ofNat (2 * nn))))])) (fun TT HH tt kk => XS.isub HH hx rfl (hb hby d_jdk_52_m_15_3) rfl kk) ?_
  refine k_pure (g' := (mkF m 6 #[.val (.ref t), .val (.int (Int32.ofNat nn))] [(.int (31 : Int32)), (.int ((Int32.ofNat nn) - (Int32.ofNat (2 * nn))))])) (fun TT HH tt kk => XS.bipush HH hx rfl (hb hby d_jdk_52_m_15_4) kk) ?_
  refine k_pure (g' := (mkF m 7 #[.val (.ref t), .val (.int (Int32.ofNat nn))] [(.int ((((Int32.ofNat nn) - (Int32.ofNat (2 * nn))).toUInt32 >>> ((31 : Int32) &&& 31).toUInt32).toInt32))])) (fun TT HH tt kk => XS.iushr HH hx rfl (hb hby d_jdk_52_m_15_6) rfl kk) ?_
  refine k_pure (g' := (mkF m 8 #[.val (.ref t), .val (.int (Int32.ofNat nn))] [(.int (((((Int32.ofNat nn) - (Int32.ofNat (2 * nn))).toUInt32 >>> ((31 : Int32) &&& 31).toUInt32).toInt32).toInt8.toInt32))])) (fun TT HH tt kk => XS.i2b HH hx rfl (hb hby d_jdk_52_m_15_7) rfl kk) ?_
  exact k_retN hx hlk hret (by simp) (hb hby d_jdk_52_m_15_8) (by decide) (by decide) ⟨congrArg (fun z => some (Value.int z)) (by have r0 := rng32 (Int32.ofNat nn); have r1 := rng32 (Int32.ofNat (2 * nn)); have r2 := c_isub (Int32.ofNat nn) (Int32.ofNat (2 * nn)); have r3 := rng32 ((Int32.ofNat nn) - (Int32.ofNat (2 * nn))); have r4 : ((((Int32.ofNat nn) - (Int32.ofNat (2 * nn))).toUInt32 >>> ((31 : Int32) &&& 31).toUInt32).toInt32).toInt = (((Int32.ofNat nn) - (Int32.ofNat (2 * nn))).toInt % 4294967296) / 2147483648 := (c_iushr ((Int32.ofNat nn) - (Int32.ofNat (2 * nn))) (31 : Int32) 31 (by decide) (by decide)); have r5 := rng32 ((((Int32.ofNat nn) - (Int32.ofNat (2 * nn))).toUInt32 >>> ((31 : Int32) &&& 31).toUInt32).toInt32); have r6 := c_i2b ((((Int32.ofNat nn) - (Int32.ofNat (2 * nn))).toUInt32 >>> ((31 : Int32) &&& 31).toUInt32).toInt32); have r7 : ((nar .byte (((((Int32.ofNat nn) - (Int32.ofNat (2 * nn))).toUInt32 >>> ((31 : Int32) &&& 31).toUInt32).toInt32).toInt8.toInt32)).toInt - (((((Int32.ofNat nn) - (Int32.ofNat (2 * nn))).toUInt32 >>> ((31 : Int32) &&& 31).toUInt32).toInt32).toInt8.toInt32).toInt) % 256 = 0 ∧ -128 ≤ (nar .byte (((((Int32.ofNat nn) - (Int32.ofNat (2 * nn))).toUInt32 >>> ((31 : Int32) &&& 31).toUInt32).toInt32).toInt8.toInt32)).toInt ∧ (nar .byte (((((Int32.ofNat nn) - (Int32.ofNat (2 * nn))).toUInt32 >>> ((31 : Int32) &&& 31).toUInt32).toInt32).toInt8.toInt32)).toInt < 128 := (c_i2b (((((Int32.ofNat nn) - (Int32.ofNat (2 * nn))).toUInt32 >>> ((31 : Int32) &&& 31).toUInt32).toInt32).toInt8.toInt32)); have r8 : (1 : Int32).toInt = 1 := (by decide); have r9 := u_toI (n := nn) (by omega); have r10 := u_toI (n := 2 * nn) (by omega); have r11 := h1; have r12 := h2; apply Int32.toInt_inj.mp; omega), rfl, rfl⟩
def Q_ni4 (Z : State) (G1 : Int32) (G3 : Value) (x : Addr) (q : Addr) (kq : ClassId) (cs : List Int32) (h0 : Heap) (n0 : Nat) (bk : Addr → Prop) (v : Option Value) (h : Heap) (bk' : Addr → Prop) : Prop := ∃ (u : Addr), ∃ (ku : ClassId), v = none ∧ NoB = bk' ∧ Keep h0 h [x] ∧ (StrU Z h x u ku cs) ∧ (@LE.le Nat _ (Array.size h0) u)
theorem d_jdk_42_m_149_0 : decode jdk_42_method_149_code 0 = .ok (.aload_n 0, 1) := by decide +kernel
theorem d_jdk_42_m_149_1 : decode jdk_42_method_149_code 1 = .ok (.invokespecial 1, 3) := by decide +kernel
theorem d_jdk_42_m_149_4 : decode jdk_42_method_149_code 4 = .ok (.iload_n 3, 1) := by decide +kernel
theorem d_jdk_42_m_149_5 : decode jdk_42_method_149_code 5 = .ok (.ifCond .ne 22, 3) := by decide +kernel
theorem d_jdk_42_m_149_27 : decode jdk_42_method_149_code 27 = .ok (.getstatic 38, 3) := by decide +kernel
theorem d_jdk_42_m_149_30 : decode jdk_42_method_149_code 30 = .ok (.ifCond .eq 28, 3) := by decide +kernel
theorem d_jdk_42_m_149_33 : decode jdk_42_method_149_code 33 = .ok (.aload_n 1, 1) := by decide +kernel
theorem d_jdk_42_m_149_34 : decode jdk_42_method_149_code 34 = .ok (.iload_n 2, 1) := by decide +kernel
theorem d_jdk_42_m_149_35 : decode jdk_42_method_149_code 35 = .ok (.iload_n 3, 1) := by decide +kernel
theorem d_jdk_42_m_149_36 : decode jdk_42_method_149_code 36 = .ok (.invokestatic 177, 3) := by decide +kernel
theorem d_jdk_42_m_149_39 : decode jdk_42_method_149_code 39 = .ok (.astore 5, 2) := by decide +kernel
theorem d_jdk_42_m_149_41 : decode jdk_42_method_149_code 41 = .ok (.aload_n 0, 1) := by decide +kernel
theorem d_jdk_42_m_149_42 : decode jdk_42_method_149_code 42 = .ok (.aload 5, 2) := by decide +kernel
theorem d_jdk_42_m_149_44 : decode jdk_42_method_149_code 44 = .ok (.iload_n 3, 1) := by decide +kernel
theorem d_jdk_42_m_149_45 : decode jdk_42_method_149_code 45 = .ok (.invokestatic 47, 3) := by decide +kernel
theorem pd__28__5b_BI_29_B : parseMethodDescriptor "([BI)B" = some ⟨[(.array .byte), .int], some .byte⟩ := by decide +kernel
theorem d_jdk_42_m_149_48 : decode jdk_42_method_149_code 48 = .ok (.putfield 15, 3) := by decide +kernel
theorem d_jdk_42_m_149_51 : decode jdk_42_method_149_code 51 = .ok (.aload_n 0, 1) := by decide +kernel
theorem d_jdk_42_m_149_52 : decode jdk_42_method_149_code 52 = .ok (.aload 5, 2) := by decide +kernel
theorem d_jdk_42_m_149_54 : decode jdk_42_method_149_code 54 = .ok (.putfield 9, 3) := by decide +kernel
theorem d_jdk_42_m_149_57 : decode jdk_42_method_149_code 57 = .ok (.return_, 1) := by decide +kernel
abbrev RM_ni4 : Room := { frames := 4, cells := 2, slots := 600, locals := 57 }
theorem ef_ni4 (m : MethodId) (x0 : Addr) (x1 : Addr) (x2 : Int32) (x3 : Int32) : entryFrame m #[(.ref x0), (.ref x1), (.int x2), (.int x3), .null] 6 = mkF m 0 #[.val (.ref x0), .val (.ref x1), .val (.int x2), .val (.int x3), .val .null, .unset] [] := by first | (simp [entryFrame, mkF, argsToLocals, Value.category]; done) | rfl
set_option maxRecDepth 65536 in
set_option maxHeartbeats 40000000 in
theorem rm_ni4 (l : Launch) (Z : State) (a0 : Array Value) (G1 : Int32) (G3 : Value) (hX : Ctx Z a0 G1 G3) (hU : Wide Z) (n0 : Nat) (h0 : Heap) (O0 : Old Z n0 h0) (x : Addr) (q : Addr) (kq : ClassId) (cs : List Int32) (pf_0 : Exa Z h0 x "java/lang/String") (pf_1 : Fld Z h0 x "java/lang/String" "value" "[B" .null) (pf_2 : Fld Z h0 x "java/lang/String" "coder" "B" (.int (0 : Int32))) (pf_3 : Arv Z h0 q kq .char (Int32.ofNat (cs).length) ((cs).map Value.int) (.int (0 : Int32))) (hr : ∀ c ∈ cs, ¬ c < 0 ∧ ¬ (65535 : Int32) < c) (hw0 : ∃ c ∈ cs, (255 : Int32) < c) (l1 : 0 < (cs).length) (hn : (cs).length ≤ 200) (gx : n0 ≤ x) (xq : @Ne Nat x q) (ws : List Jvm.Cond) : Met l Z EL1 n0 NoB (⟨"java/lang/String", "<init>", "([CIILjava/lang/Void;)V"⟩ : MethodName) jdk_42_method_149_code 6 (Option.none : Option FieldType) RM_ni4 #[(.ref x), (.ref q), (.int (0 : Int32)), (.int (Int32.ofNat (cs).length)), .null] h0 (Q_ni4 Z G1 G3 x q kq cs h0 n0 NoB) ws := by
  have hX' := hX
  obtain ⟨hw, hE, S1, P1, S3, P3⟩ := hX'
  have hU' := hU
  obtain ⟨u1, u2, u3⟩ := hU'
  have hSA := sa_of hw
  have wT : ∀ (i : Nat) {d : Jvm.Cond}, tables_1[i]? = some d → d.before a0 Z = true := fun i d h => hw d (List.mem_of_getElem? h)
  have z0 : n0 ≤ h0.size := by rw [← O0.1]; exact O0.2.1
  refine Met.of (by decide +kernel) O0 hE ?_
  intro p e s m below meth c hx hby hml hret hlk hnm
  refine k_cast (ef_ni4 m x q (0 : Int32) (Int32.ofNat (cs).length)) ?_
  show Run p l e _ s m _ below meth c Z EL1 _ n0 NoB h0 0 0 (mkF m 0 #[.val (.ref x), .val (.ref q), .val (.int (0 : Int32)), .val (.int (Int32.ofNat (cs).length)), .val .null, .unset] []) _
  have lt_1 : @LT.lt Nat _ x (Array.size h0) := pf_0.lt
  have lt_2 : @LT.lt Nat _ x (Array.size h0) := pf_1.lt
  have lt_3 : @LT.lt Nat _ x (Array.size h0) := pf_2.lt
  have lt_4 : @LT.lt Nat _ q (Array.size h0) := pf_3.lt
  refine k_pure (g' := (mkF m 1 #[.val (.ref x), .val (.ref q), .val (.int (0 : Int32)), .val (.int (Int32.ofNat (cs).length)), .val .null, .unset] [(.ref x)])) (fun TT HH tt kk => XS.aloadN HH hx rfl (hb hby d_jdk_42_m_149_0) rfl rfl kk) ?_
  refine k_initO hx (wT 21 rfl) (wT 22 rfl) (wT 23 rfl) rfl (by rw [hml]; rfl) rfl (hb hby d_jdk_42_m_149_1) (by decide) (W := 0) (by show 2 * 0 + _ ≤ _; exact Nat.le_of_eq rfl) (by decide) ?_
  show Run p l e _ s m _ below meth c Z EL1 _ n0 NoB h0 0 0 (mkF m 4 #[.val (.ref x), .val (.ref q), .val (.int (0 : Int32)), .val (.int (Int32.ofNat (cs).length)), .val .null, .unset] []) _
  refine k_pure (g' := (mkF m 5 #[.val (.ref x), .val (.ref q), .val (.int (0 : Int32)), .val (.int (Int32.ofNat (cs).length)), .val .null, .unset] [(.int (Int32.ofNat (cs).length))])) (fun TT HH tt kk => XS.iloadN HH hx rfl (hb hby d_jdk_42_m_149_4) rfl kk) ?_
  refine k_pure (g' := (mkF m 27 #[.val (.ref x), .val (.ref q), .val (.int (0 : Int32)), .val (.int (Int32.ofNat (cs).length)), .val .null, .unset] [])) (fun TT HH tt kk => XS.ifYes HH hx rfl (pc0 := 5) (pc' := 27) rfl (hb hby d_jdk_42_m_149_5) rfl ((if0 _ _).trans (feq (u_ne0 l1 (by omega))).2) (by decide) (by decide) kk) ?_
  refine k_getS hx (host := "") (Or.inl (wT 24 rfl)) Via.refl (S1.ext O0.2) rfl (hb hby d_jdk_42_m_149_27) ?_
  show Run p l e _ s m _ below meth c Z EL1 _ n0 NoB h0 0 0 (mkF m 30 #[.val (.ref x), .val (.ref q), .val (.int (0 : Int32)), .val (.int (Int32.ofNat (cs).length)), .val .null, .unset] [(.int G1)]) _
  refine k_pure (g' := (mkF m 33 #[.val (.ref x), .val (.ref q), .val (.int (0 : Int32)), .val (.int (Int32.ofNat (cs).length)), .val .null, .unset] [])) (fun TT HH tt kk => XS.ifNo HH hx rfl (hb hby d_jdk_42_m_149_30) rfl ((if0 _ _).trans (feq P1).1) kk) ?_
  refine k_pure (g' := (mkF m 34 #[.val (.ref x), .val (.ref q), .val (.int (0 : Int32)), .val (.int (Int32.ofNat (cs).length)), .val .null, .unset] [(.ref q)])) (fun TT HH tt kk => XS.aloadN HH hx rfl (hb hby d_jdk_42_m_149_33) rfl rfl kk) ?_
  refine k_pure (g' := (mkF m 35 #[.val (.ref x), .val (.ref q), .val (.int (0 : Int32)), .val (.int (Int32.ofNat (cs).length)), .val .null, .unset] [(.int (0 : Int32)), (.ref q)])) (fun TT HH tt kk => XS.iloadN HH hx rfl (hb hby d_jdk_42_m_149_34) rfl kk) ?_
  refine k_pure (g' := (mkF m 36 #[.val (.ref x), .val (.ref q), .val (.int (0 : Int32)), .val (.int (Int32.ofNat (cs).length)), .val .null, .unset] [(.int (Int32.ofNat (cs).length)), (.int (0 : Int32)), (.ref q)])) (fun TT HH tt kk => XS.iloadN HH hx rfl (hb hby d_jdk_42_m_149_35) rfl kk) ?_
  refine k_callS hx (y := (⟨"java/lang/StringUTF16", "compress", "([CII)[B"⟩ : MethodName)) (wT 25 rfl) (wT 26 rfl) (wT 27 rfl) (wT 28 rfl) (by decide) (W := 0) (argsL := [(.ref q), (.int (0 : Int32)), (.int (Int32.ofNat (cs).length))]) (rest := []) (Pays.of_met (rm_cp3 l Z a0 G1 G3 hX hU n0 h0 O0 q kq cs pf_3 hr hw0 hn []) (wT 28 rfl) (wT 27 rfl) (by decide) (by decide)) rfl (by rw [hml]; rfl) (lenOf pd__28__5b_CII_29__5b_B rfl) rfl (by show 2 * 0 + _ ≤ _; exact Nat.le_of_eq rfl) (hb hby d_jdk_42_m_149_36) (by decide) (by decide) ?_
  intro v_5 h_6 bk_7 O_8 z_9 Q_10
  obtain ⟨a_11, k_12, rfl, rfl, K_13, F_14, P_15⟩ := Q_10
  have lt_16 : @LT.lt Nat _ a_11 (Array.size h_6) := F_14.lt
  show Run p l e _ s m _ below meth c Z EL1 _ n0 NoB h_6 2 600 (mkF m 39 #[.val (.ref x), .val (.ref q), .val (.int (0 : Int32)), .val (.int (Int32.ofNat (cs).length)), .val .null, .unset] [(.ref a_11)]) _
  refine k_pure (g' := (mkF m 41 #[.val (.ref x), .val (.ref q), .val (.int (0 : Int32)), .val (.int (Int32.ofNat (cs).length)), .val .null, .val (.ref a_11)] [])) (fun TT HH tt kk => XS.astore HH hx rfl (hb hby d_jdk_42_m_149_39) rfl rfl (l' := #[.val (.ref x), .val (.ref q), .val (.int (0 : Int32)), .val (.int (Int32.ofNat (cs).length)), .val .null, .val (.ref a_11)]) rfl kk) ?_
  refine k_pure (g' := (mkF m 42 #[.val (.ref x), .val (.ref q), .val (.int (0 : Int32)), .val (.int (Int32.ofNat (cs).length)), .val .null, .val (.ref a_11)] [(.ref x)])) (fun TT HH tt kk => XS.aloadN HH hx rfl (hb hby d_jdk_42_m_149_41) rfl rfl kk) ?_
  refine k_pure (g' := (mkF m 44 #[.val (.ref x), .val (.ref q), .val (.int (0 : Int32)), .val (.int (Int32.ofNat (cs).length)), .val .null, .val (.ref a_11)] [(.ref a_11), (.ref x)])) (fun TT HH tt kk => XS.aload HH hx rfl (hb hby d_jdk_42_m_149_42) rfl rfl kk) ?_
  refine k_pure (g' := (mkF m 45 #[.val (.ref x), .val (.ref q), .val (.int (0 : Int32)), .val (.int (Int32.ofNat (cs).length)), .val .null, .val (.ref a_11)] [(.int (Int32.ofNat (cs).length)), (.ref a_11), (.ref x)])) (fun TT HH tt kk => XS.iloadN HH hx rfl (hb hby d_jdk_42_m_149_44) rfl kk) ?_
  refine k_callS hx (y := (⟨"java/lang/StringUTF16", "coderFromArrayLen", "([BI)B"⟩ : MethodName)) (wT 52 rfl) (wT 53 rfl) (wT 27 rfl) (wT 54 rfl) (by decide) (W := 1) (argsL := [(.ref a_11), (.int (Int32.ofNat (cs).length))]) (rest := [(.ref x)]) (Pays.of_met (rm_cfa l Z a0 G1 G3 hX hU n0 h_6 O_8 a_11 k_12 (StrChars.Road.wideBytes cs) ((cs).length) F_14 l1 (by omega) []) (wT 54 rfl) (wT 27 rfl) (by decide) (by decide)) rfl (by rw [hml]; rfl) (lenOf pd__28__5b_BI_29_B rfl) rfl (by show 2 * 0 + _ ≤ _; exact Nat.le_of_eq rfl) (hb hby d_jdk_42_m_149_45) (by decide) (by decide) ?_
  intro v_17 h_18 bk_19 O_20 z_21 Q_22
  obtain ⟨rfl, rfl, rfl⟩ := Q_22
  show Run p l e _ s m _ below meth c Z EL1 _ n0 NoB h_6 2 600 (mkF m 48 #[.val (.ref x), .val (.ref q), .val (.int (0 : Int32)), .val (.int (Int32.ofNat (cs).length)), .val .null, .val (.ref a_11)] [(.int (1 : Int32)), (.ref x)]) _
  have F_23 : Fld Z h_6 x "java/lang/String" "coder" "B" (.int (0 : Int32)) := (pf_2.keep K_13 nin0)
  have F_24 : Exa Z h_6 x "java/lang/String" := (pf_0.keep K_13)
  refine k_putF hx (host := "") (Or.inl (wT 55 rfl)) Via.refl F_23 F_24 (Or.inr ⟨(wT 56 rfl), rfl, hnm⟩) (wT 12 rfl) (ty := .byte) (by decide) rfl rfl (by omega) (fun q => q) rfl rfl (hb hby d_jdk_42_m_149_48) ?_
  intro h_25 O_27 W_26
  have z_28 := W_26.size
  show Run p l e _ s m _ below meth c Z EL1 _ n0 NoB h_25 2 600 (mkF m 51 #[.val (.ref x), .val (.ref q), .val (.int (0 : Int32)), .val (.int (Int32.ofNat (cs).length)), .val .null, .val (.ref a_11)] []) _
  refine k_pure (g' := (mkF m 52 #[.val (.ref x), .val (.ref q), .val (.int (0 : Int32)), .val (.int (Int32.ofNat (cs).length)), .val .null, .val (.ref a_11)] [(.ref x)])) (fun TT HH tt kk => XS.aloadN HH hx rfl (hb hby d_jdk_42_m_149_51) rfl rfl kk) ?_
  refine k_pure (g' := (mkF m 54 #[.val (.ref x), .val (.ref q), .val (.int (0 : Int32)), .val (.int (Int32.ofNat (cs).length)), .val .null, .val (.ref a_11)] [(.ref a_11), (.ref x)])) (fun TT HH tt kk => XS.aload HH hx rfl (hb hby d_jdk_42_m_149_52) rfl rfl kk) ?_
  have F_29 : Fld Z h_25 x "java/lang/String" "value" "[B" .null := ((pf_1.keep K_13 nin0).other W_26 (Or.inr (RoadKit.slot_ne (C := "java/lang/String") (Or.inr (wT 58 rfl)) (Or.inr (wT 56 rfl)) (by decide) (t := (.array .byte)) (t' := .byte) (by decide) (by decide))))
  have F_30 : Exa Z h_25 x "java/lang/String" := (F_24.wr W_26)
  refine k_putF hx (host := "") (Or.inl (wT 57 rfl)) Via.refl F_29 F_30 (Or.inr ⟨(wT 58 rfl), rfl, hnm⟩) (wT 12 rfl) (ty := (.array .byte)) (by decide) rfl rfl (by omega) (fun q => q) rfl rfl (hb hby d_jdk_42_m_149_54) ?_
  intro h_31 O_33 W_32
  have z_34 := W_32.size
  show Run p l e _ s m _ below meth c Z EL1 _ n0 NoB h_31 2 600 (mkF m 57 #[.val (.ref x), .val (.ref q), .val (.int (0 : Int32)), .val (.int (Int32.ofNat (cs).length)), .val .null, .val (.ref a_11)] []) _
  have F_35 : Exa Z h_31 x "java/lang/String" := (F_30.wr W_32)
  have F_36 : Fld Z h_31 x "java/lang/String" "coder" "B" (.int (1 : Int32)) := ((F_23.same W_26).other W_32 (Or.inr (RoadKit.slot_ne (C := "java/lang/String") (Or.inr (wT 56 rfl)) (Or.inr (wT 58 rfl)) (by decide) (t := .byte) (t' := (.array .byte)) (by decide) (by decide))))
  have F_37 : Arv Z h_31 a_11 k_12 .byte (Int32.ofNat (2 * (cs).length)) (StrChars.Road.wideBytes cs) (.int 0) := ((F_14.other W_26 (ne_ad (by omega))).other W_32 (ne_ad (by omega)))
  exact k_ret0 hx hlk hret (hb hby d_jdk_42_m_149_57) (by decide) (by decide) ⟨a_11, k_12, rfl, rfl, ((((Keep.refl _ _).trans K_13 kk0).wr W_26 (Or.inl (by simp))).wr W_32 (Or.inl (by simp))), ⟨F_35, F_36, (F_29.same W_32), F_37, hr, hw0, by omega⟩, (by omega)⟩
def Q_ni1 (Z : State) (G1 : Int32) (G3 : Value) (x : Addr) (q : Addr) (kq : ClassId) (cs : List Int32) (h0 : Heap) (n0 : Nat) (bk : Addr → Prop) (v : Option Value) (h : Heap) (bk' : Addr → Prop) : Prop := ∃ (u : Addr), ∃ (ku : ClassId), v = none ∧ NoB = bk' ∧ Keep h0 h [x] ∧ (StrU Z h x u ku cs) ∧ (@LE.le Nat _ (Array.size h0) u)
theorem d_jdk_42_m_3_0 : decode jdk_42_method_3_code 0 = .ok (.aload_n 0, 1) := by decide +kernel
theorem d_jdk_42_m_3_1 : decode jdk_42_method_3_code 1 = .ok (.aload_n 1, 1) := by decide +kernel
theorem d_jdk_42_m_3_2 : decode jdk_42_method_3_code 2 = .ok (.iconst 0, 1) := by decide +kernel
theorem d_jdk_42_m_3_3 : decode jdk_42_method_3_code 3 = .ok (.aload_n 1, 1) := by decide +kernel
theorem d_jdk_42_m_3_4 : decode jdk_42_method_3_code 4 = .ok (.arraylength, 1) := by decide +kernel
theorem d_jdk_42_m_3_5 : decode jdk_42_method_3_code 5 = .ok (.aconst_null, 1) := by decide +kernel
theorem d_jdk_42_m_3_6 : decode jdk_42_method_3_code 6 = .ok (.invokespecial 27, 3) := by decide +kernel
theorem pd__28__5b_CIILjava_2f_lang_2f_Void_3b__29_V : parseMethodDescriptor "([CIILjava/lang/Void;)V" = some ⟨[(.array .char), .int, .int, (.object "java/lang/Void")], none⟩ := by decide +kernel
theorem d_jdk_42_m_3_9 : decode jdk_42_method_3_code 9 = .ok (.return_, 1) := by decide +kernel
abbrev RM_ni1 : Room := { frames := 5, cells := 2, slots := 600, locals := 74 }
theorem ef_ni1 (m : MethodId) (x0 : Addr) (x1 : Addr) : entryFrame m #[(.ref x0), (.ref x1)] 2 = mkF m 0 #[.val (.ref x0), .val (.ref x1)] [] := by first | (simp [entryFrame, mkF, argsToLocals, Value.category]; done) | rfl
set_option maxRecDepth 65536 in
set_option maxHeartbeats 40000000 in
theorem rm_ni1 (l : Launch) (Z : State) (a0 : Array Value) (G1 : Int32) (G3 : Value) (hX : Ctx Z a0 G1 G3) (hU : Wide Z) (n0 : Nat) (h0 : Heap) (O0 : Old Z n0 h0) (x : Addr) (q : Addr) (kq : ClassId) (cs : List Int32) (pf_0 : Exa Z h0 x "java/lang/String") (pf_1 : Fld Z h0 x "java/lang/String" "value" "[B" .null) (pf_2 : Fld Z h0 x "java/lang/String" "coder" "B" (.int (0 : Int32))) (pf_3 : Arv Z h0 q kq .char (Int32.ofNat (cs).length) ((cs).map Value.int) (.int (0 : Int32))) (hr : ∀ c ∈ cs, ¬ c < 0 ∧ ¬ (65535 : Int32) < c) (hw0 : ∃ c ∈ cs, (255 : Int32) < c) (l1 : 0 < (cs).length) (hn : (cs).length ≤ 200) (gx : n0 ≤ x) (xq : @Ne Nat x q) (ws : List Jvm.Cond) : Met l Z EL1 n0 NoB (⟨"java/lang/String", "<init>", "([C)V"⟩ : MethodName) jdk_42_method_3_code 2 (Option.none : Option FieldType) RM_ni1 #[(.ref x), (.ref q)] h0 (Q_ni1 Z G1 G3 x q kq cs h0 n0 NoB) ws := by
  have hX' := hX
  obtain ⟨hw, hE, S1, P1, S3, P3⟩ := hX'
  have hU' := hU
  obtain ⟨u1, u2, u3⟩ := hU'
  have hSA := sa_of hw
  have wT : ∀ (i : Nat) {d : Jvm.Cond}, tables_1[i]? = some d → d.before a0 Z = true := fun i d h => hw d (List.mem_of_getElem? h)
  have z0 : n0 ≤ h0.size := by rw [← O0.1]; exact O0.2.1
  refine Met.of (by decide +kernel) O0 hE ?_
  intro p e s m below meth c hx hby hml hret hlk hnm
  refine k_cast (ef_ni1 m x q) ?_
  show Run p l e _ s m _ below meth c Z EL1 _ n0 NoB h0 0 0 (mkF m 0 #[.val (.ref x), .val (.ref q)] []) _
  have lt_1 : @LT.lt Nat _ x (Array.size h0) := pf_0.lt
  have lt_2 : @LT.lt Nat _ x (Array.size h0) := pf_1.lt
  have lt_3 : @LT.lt Nat _ x (Array.size h0) := pf_2.lt
  have lt_4 : @LT.lt Nat _ q (Array.size h0) := pf_3.lt
  refine k_pure (g' := (mkF m 1 #[.val (.ref x), .val (.ref q)] [(.ref x)])) (fun TT HH tt kk => XS.aloadN HH hx rfl (hb hby d_jdk_42_m_3_0) rfl rfl kk) ?_
  refine k_pure (g' := (mkF m 2 #[.val (.ref x), .val (.ref q)] [(.ref q), (.ref x)])) (fun TT HH tt kk => XS.aloadN HH hx rfl (hb hby d_jdk_42_m_3_1) rfl rfl kk) ?_
  refine k_pure (g' := (mkF m 3 #[.val (.ref x), .val (.ref q)] [(.int (0 : Int32)), (.ref q), (.ref x)])) (fun TT HH tt kk => XS.iconst HH hx rfl (hb hby d_jdk_42_m_3_2) kk) ?_
  refine k_pure (g' := (mkF m 4 #[.val (.ref x), .val (.ref q)] [(.ref q), (.int (0 : Int32)), (.ref q), (.ref x)])) (fun TT HH tt kk => XS.aloadN HH hx rfl (hb hby d_jdk_42_m_3_3) rfl rfl kk) ?_
  refine k_alen hx pf_3 rfl rfl (hb hby d_jdk_42_m_3_4) ?_
  show Run p l e _ s m _ below meth c Z EL1 _ n0 NoB h0 0 0 (mkF m 5 #[.val (.ref x), .val (.ref q)] [(.int (Int32.ofNat (cs).length)), (.int (0 : Int32)), (.ref q), (.ref x)]) _
  refine k_pure (g' := (mkF m 6 #[.val (.ref x), .val (.ref q)] [.null, (.int (Int32.ofNat (cs).length)), (.int (0 : Int32)), (.ref q), (.ref x)])) (fun TT HH tt kk => XS.aconstNull HH hx rfl (hb hby d_jdk_42_m_3_5) kk) ?_
  refine k_callI hx (y := (⟨"java/lang/String", "<init>", "([CIILjava/lang/Void;)V"⟩ : MethodName)) rfl (wT 17 rfl) (wT 18 rfl) (wT 20 rfl) (by decide) (W := 0) (a := x) (argsL := [(.ref q), (.int (0 : Int32)), (.int (Int32.ofNat (cs).length)), .null]) (rest := []) (Pays.of_met (rm_ni4 l Z a0 G1 G3 hX hU n0 h0 O0 x q kq cs pf_0 pf_1 pf_2 pf_3 hr hw0 l1 hn (by omega) (by omega) []) (wT 20 rfl) (wT 13 rfl) (by decide) (by decide)) rfl (by rw [hml]; rfl) (lenOf pd__28__5b_CIILjava_2f_lang_2f_Void_3b__29_V rfl) rfl (by show 2 * 0 + _ ≤ _; exact Nat.le_of_eq rfl) (hb hby d_jdk_42_m_3_6) (by decide) (by decide) ?_
  intro v_5 h_6 bk_7 O_8 z_9 Q_10
  obtain ⟨a_11, k_12, rfl, rfl, K_13, F_14, P_15⟩ := Q_10
  have lt_16 : @LT.lt Nat _ x (Array.size h_6) := F_14.lt1
  have lt_17 : @LT.lt Nat _ a_11 (Array.size h_6) := F_14.lt2
  show Run p l e _ s m _ below meth c Z EL1 _ n0 NoB h_6 2 600 (mkF m 9 #[.val (.ref x), .val (.ref q)] []) _
  exact k_ret0 hx hlk hret (hb hby d_jdk_42_m_3_9) (by decide) (by decide) ⟨a_11, k_12, rfl, rfl, ((Keep.refl _ _).trans K_13 (kkS (Or.inl (by simp)) kk0)), F_14, (by omega)⟩
theorem pay_newX {p : Program} {l : Launch} {e : Env} {R : Room} {s : State} {args : Array Value} {below : List Frame} {W : Nat} {a0 : Array Value} {Z : State} {h : Heap} {n0 : Nat}  {G1 : Int32} {G3 : Value} (hX : Ctx Z a0 G1 G3) (hU : Wide Z) (O : Old Z n0 h) {x b : Addr} {kC : ClassId} {cs : List Int32} (E : Exa Z h x "java/lang/String") (V : Fld Z h x "java/lang/String" "value" "[B" .null) (C : Fld Z h x "java/lang/String" "coder" "B" (.int (0 : Int32))) (K : Arv Z h b kC .char (Int32.ofNat cs.length) (cs.map Value.int) (.int (0 : Int32))) (l0 : 0 < cs.length) (l2 : cs.length ≤ 200) (hp : ∀ c ∈ cs, ¬ c < 0 ∧ ¬ (65535 : Int32) < c) (ge : n0 ≤ x) (xb : @Ne Nat x b) (hf : 6 ≤ R.frames) (hl : W + 87 ≤ R.locals) :
    Pays l R p e below s args Z EL1 n0 NoB h (⟨"java/lang/String", "<init>", "([C)V"⟩ : MethodName) 3 W 2 600 #[.ref x, .ref b] (fun v h' bk' => v = none ∧ NoB = bk' ∧ Keep h h' [x] ∧ ∃ (t : Addr) (kb : ClassId), h.size ≤ t ∧ StrX Z h' x t kb cs) := by
  by_cases q : ∀ c ∈ cs, ¬ (255 : Int32) < c
  · exact Pays.more (Pays.mono (pay_new (cs := cs) hX O (fun z => z) E V C K cs.length rfl rfl l0 (Nat.le_trans l2 (by decide)) (fun c hc => ⟨(hp c hc).1, q c hc⟩) ge (Nat.le_trans (by decide) hf) (Nat.le_trans (by omega) hl)) fun v h' bk' r => by
      obtain ⟨r1, r2, r3, t, kb, -, r5, r6⟩ := r
      exact ⟨r1, r2, r3, t, kb, r5, Or.inl r6⟩) (by decide) (Nat.le_trans l2 (by decide))
  · have hw : ∃ c ∈ cs, (255 : Int32) < c := by
      apply Classical.byContradiction; intro z; exact q fun c hc r => z ⟨c, hc, r⟩
    exact Pays.mono (Pays.of_met (rm_ni1 l Z a0 G1 G3 hX hU n0 h O x b kC cs E V C K hp hw l0 l2 ge xb  []) (hX.1 _ (List.mem_of_getElem? (i := 16) rfl)) (hX.1 _ (List.mem_of_getElem? (i := 13) rfl)) (Nat.le_trans (by decide) hf) (Nat.le_trans (by show W + (2 + 11) + 74 ≤ W + 87; omega) hl)) fun v h' bk' r => by
      obtain ⟨t, kb, r1, r2, r3, r4, r5⟩ := r
      exact ⟨r1, r2, r3, t, kb, r5, Or.inr r4⟩
def Q_ulen (Z : State) (G1 : Int32) (G3 : Value) (t : Addr) (kb : ClassId) (vs : List Value) (nn : Nat) (h0 : Heap) (n0 : Nat) (bk : Addr → Prop) (v : Option Value) (h : Heap) (bk' : Addr → Prop) : Prop := v = some (.int (Int32.ofNat nn)) ∧ h0 = h ∧ NoB = bk'
theorem d_jdk_52_m_6_0 : decode jdk_52_method_6_code 0 = .ok (.aload_n 0, 1) := by decide +kernel
theorem d_jdk_52_m_6_1 : decode jdk_52_method_6_code 1 = .ok (.arraylength, 1) := by decide +kernel
theorem d_jdk_52_m_6_2 : decode jdk_52_method_6_code 2 = .ok (.iconst 1, 1) := by decide +kernel
theorem d_jdk_52_m_6_3 : decode jdk_52_method_6_code 3 = .ok (.ishr, 1) := by decide +kernel
theorem d_jdk_52_m_6_4 : decode jdk_52_method_6_code 4 = .ok (.ireturn, 1) := by decide +kernel
abbrev RM_ulen : Room := { frames := 0, cells := 0, slots := 0, locals := 0 }
theorem ef_ulen (m : MethodId) (x0 : Addr) : entryFrame m #[(.ref x0)] 1 = mkF m 0 #[.val (.ref x0)] [] := by first | (simp [entryFrame, mkF, argsToLocals, Value.category]; done) | rfl
set_option maxRecDepth 65536 in
set_option maxHeartbeats 40000000 in
theorem rm_ulen (l : Launch) (Z : State) (a0 : Array Value) (G1 : Int32) (G3 : Value) (hX : Ctx Z a0 G1 G3) (hU : Wide Z) (n0 : Nat) (h0 : Heap) (O0 : Old Z n0 h0) (t : Addr) (kb : ClassId) (vs : List Value) (nn : Nat) (pf_0 : Arv Z h0 t kb .byte (Int32.ofNat (2 * nn)) vs (.int 0)) (h2 : nn ≤ 1900) (ws : List Jvm.Cond) : Met l Z EL1 n0 NoB (⟨"java/lang/StringUTF16", "length", "([B)I"⟩ : MethodName) jdk_52_method_6_code 1 (Option.some FieldType.int) RM_ulen #[(.ref t)] h0 (Q_ulen Z G1 G3 t kb vs nn h0 n0 NoB) ws := by
  have hX' := hX
  obtain ⟨hw, hE, S1, P1, S3, P3⟩ := hX'
  have hU' := hU
  obtain ⟨u1, u2, u3⟩ := hU'
  have hSA := sa_of hw
  have wT : ∀ (i : Nat) {d : Jvm.Cond}, tables_1[i]? = some d → d.before a0 Z = true := fun i d h => hw d (List.mem_of_getElem? h)
  have z0 : n0 ≤ h0.size := by rw [← O0.1]; exact O0.2.1
  refine Met.of (by decide +kernel) O0 hE ?_
  intro p e s m below meth c hx hby hml hret hlk hnm
  refine k_cast (ef_ulen m t) ?_
  show Run p l e _ s m _ below meth c Z EL1 _ n0 NoB h0 0 0 (mkF m 0 #[.val (.ref t)] []) _
  have lt_1 : @LT.lt Nat _ t (Array.size h0) := pf_0.lt
  refine k_pure (g' := (mkF m 1 #[.val (.ref t)] [(.ref t)])) (fun TT HH tt kk => XS.aloadN HH hx rfl (hb hby d_jdk_52_m_6_0) rfl rfl kk) ?_
  refine k_alen hx pf_0 rfl rfl (hb hby d_jdk_52_m_6_1) ?_
  show Run p l e _ s m _ below meth c Z EL1 _ n0 NoB h0 0 0 (mkF m 2 #[.val (.ref t)] [(.int (Int32.ofNat (2 * nn)))]) _
  refine k_pure (g' := (mkF m 3 #[.val (.ref t)] [(.int (1 : Int32)), (.int (Int32.ofNat (2 * nn)))])) (fun TT HH tt kk => XS.iconst HH hx rfl (hb hby d_jdk_52_m_6_2) kk) ?_
  refine k_pure (g' := (mkF m 4 #[.val (.ref t)] [(.int ((Int32.ofNat (2 * nn)) >>> ((1 : Int32) &&& 31)))])) (fun TT HH tt kk => XS.ishr HH hx rfl (hb hby d_jdk_52_m_6_3) rfl kk) ?_
  rw [u_shr1 (by omega)]
  show Run p l e _ s m _ below meth c Z EL1 _ n0 NoB h0 0 0 (mkF m 4 #[.val (.ref t)] [(.int (Int32.ofNat nn))]) _
  exact k_retI hx hlk hret (hb hby d_jdk_52_m_6_4) (by decide) (by decide) ⟨rfl, rfl, rfl⟩
def Q_pci0 (Z : State) (G1 : Int32) (G3 : Value) (j : Nat) (nn : Nat) (h0 : Heap) (n0 : Nat) (bk : Addr → Prop) (v : Option Value) (h : Heap) (bk' : Addr → Prop) : Prop := v = some (.int (Int32.ofNat j)) ∧ h0 = h ∧ NoB = bk'
theorem d_jdk_41_m_11_0 : decode jdk_41_method_11_code 0 = .ok (.iload_n 0, 1) := by decide +kernel
theorem d_jdk_41_m_11_1 : decode jdk_41_method_11_code 1 = .ok (.ifCond .lt 8, 3) := by decide +kernel
theorem d_jdk_41_m_11_4 : decode jdk_41_method_11_code 4 = .ok (.iload_n 0, 1) := by decide +kernel
theorem d_jdk_41_m_11_5 : decode jdk_41_method_11_code 5 = .ok (.iload_n 1, 1) := by decide +kernel
theorem d_jdk_41_m_11_6 : decode jdk_41_method_11_code 6 = .ok (.if_icmp .lt 10, 3) := by decide +kernel
theorem d_jdk_41_m_11_16 : decode jdk_41_method_11_code 16 = .ok (.iload_n 0, 1) := by decide +kernel
theorem d_jdk_41_m_11_17 : decode jdk_41_method_11_code 17 = .ok (.ireturn, 1) := by decide +kernel
abbrev RM_pci0 : Room := { frames := 0, cells := 0, slots := 0, locals := 0 }
theorem ef_pci0 (m : MethodId) (x0 : Int32) (x1 : Int32) : entryFrame m #[(.int x0), (.int x1), .null] 3 = mkF m 0 #[.val (.int x0), .val (.int x1), .val .null] [] := by first | (simp [entryFrame, mkF, argsToLocals, Value.category]; done) | rfl
set_option maxRecDepth 65536 in
set_option maxHeartbeats 40000000 in
theorem rm_pci0 (l : Launch) (Z : State) (a0 : Array Value) (G1 : Int32) (G3 : Value) (hX : Ctx Z a0 G1 G3) (hU : Wide Z) (n0 : Nat) (h0 : Heap) (O0 : Old Z n0 h0) (j : Nat) (nn : Nat) (hj : j < nn) (hn : nn ≤ 4000) (ws : List Jvm.Cond) : Met l Z EL1 n0 NoB (⟨"jdk/internal/util/Preconditions", "checkIndex", "(IILjava/util/function/BiFunction;)I"⟩ : MethodName) jdk_41_method_11_code 3 (Option.some FieldType.int) RM_pci0 #[(.int (Int32.ofNat j)), (.int (Int32.ofNat nn)), .null] h0 (Q_pci0 Z G1 G3 j nn h0 n0 NoB) ws := by
  have hX' := hX
  obtain ⟨hw, hE, S1, P1, S3, P3⟩ := hX'
  have hU' := hU
  obtain ⟨u1, u2, u3⟩ := hU'
  have hSA := sa_of hw
  have wT : ∀ (i : Nat) {d : Jvm.Cond}, tables_1[i]? = some d → d.before a0 Z = true := fun i d h => hw d (List.mem_of_getElem? h)
  have z0 : n0 ≤ h0.size := by rw [← O0.1]; exact O0.2.1
  refine Met.of (by decide +kernel) O0 hE ?_
  intro p e s m below meth c hx hby hml hret hlk hnm
  refine k_cast (ef_pci0 m (Int32.ofNat j) (Int32.ofNat nn)) ?_
  show Run p l e _ s m _ below meth c Z EL1 _ n0 NoB h0 0 0 (mkF m 0 #[.val (.int (Int32.ofNat j)), .val (.int (Int32.ofNat nn)), .val .null] []) _
  refine k_pure (g' := (mkF m 1 #[.val (.int (Int32.ofNat j)), .val (.int (Int32.ofNat nn)), .val .null] [(.int (Int32.ofNat j))])) (fun TT HH tt kk => XS.iloadN HH hx rfl (hb hby d_jdk_41_m_11_0) rfl kk) ?_
  refine k_pure (g' := (mkF m 4 #[.val (.int (Int32.ofNat j)), .val (.int (Int32.ofNat nn)), .val .null] [])) (fun TT HH tt kk => XS.ifNo HH hx rfl (hb hby d_jdk_41_m_11_1) rfl ((if0 _ _).trans (flt (not_lt_nat (n := 0) (Nat.zero_le _) (by omega))).1) kk) ?_
  refine k_pure (g' := (mkF m 5 #[.val (.int (Int32.ofNat j)), .val (.int (Int32.ofNat nn)), .val .null] [(.int (Int32.ofNat j))])) (fun TT HH tt kk => XS.iloadN HH hx rfl (hb hby d_jdk_41_m_11_4) rfl kk) ?_
  refine k_pure (g' := (mkF m 6 #[.val (.int (Int32.ofNat j)), .val (.int (Int32.ofNat nn)), .val .null] [(.int (Int32.ofNat nn)), (.int (Int32.ofNat j))])) (fun TT HH tt kk => XS.iloadN HH hx rfl (hb hby d_jdk_41_m_11_5) rfl kk) ?_
  refine k_pure (g' := (mkF m 16 #[.val (.int (Int32.ofNat j)), .val (.int (Int32.ofNat nn)), .val .null] [])) (fun TT HH tt kk => XS.icmpYes HH hx rfl (pc0 := 6) (pc' := 16) rfl (hb hby d_jdk_41_m_11_6) rfl (tlt (lt_nat hj (by omega))).1 (by decide) (by decide) kk) ?_
  refine k_pure (g' := (mkF m 17 #[.val (.int (Int32.ofNat j)), .val (.int (Int32.ofNat nn)), .val .null] [(.int (Int32.ofNat j))])) (fun TT HH tt kk => XS.iloadN HH hx rfl (hb hby d_jdk_41_m_11_16) rfl kk) ?_
  exact k_retI hx hlk hret (hb hby d_jdk_41_m_11_17) (by decide) (by decide) ⟨rfl, rfl, rfl⟩
def Q_pci1 (Z : State) (G1 : Int32) (G3 : Value) (j : Nat) (nn : Nat) (gf : Addr) (h0 : Heap) (n0 : Nat) (bk : Addr → Prop) (v : Option Value) (h : Heap) (bk' : Addr → Prop) : Prop := v = some (.int (Int32.ofNat j)) ∧ h0 = h ∧ NoB = bk'
abbrev RM_pci1 : Room := { frames := 0, cells := 0, slots := 0, locals := 0 }
theorem ef_pci1 (m : MethodId) (x0 : Int32) (x1 : Int32) (x2 : Addr) : entryFrame m #[(.int x0), (.int x1), (.ref x2)] 3 = mkF m 0 #[.val (.int x0), .val (.int x1), .val (.ref x2)] [] := by first | (simp [entryFrame, mkF, argsToLocals, Value.category]; done) | rfl
set_option maxRecDepth 65536 in
set_option maxHeartbeats 40000000 in
theorem rm_pci1 (l : Launch) (Z : State) (a0 : Array Value) (G1 : Int32) (G3 : Value) (hX : Ctx Z a0 G1 G3) (hU : Wide Z) (n0 : Nat) (h0 : Heap) (O0 : Old Z n0 h0) (j : Nat) (nn : Nat) (gf : Addr) (hj : j < nn) (hn : nn ≤ 4000) (ws : List Jvm.Cond) : Met l Z EL1 n0 NoB (⟨"jdk/internal/util/Preconditions", "checkIndex", "(IILjava/util/function/BiFunction;)I"⟩ : MethodName) jdk_41_method_11_code 3 (Option.some FieldType.int) RM_pci1 #[(.int (Int32.ofNat j)), (.int (Int32.ofNat nn)), (.ref gf)] h0 (Q_pci1 Z G1 G3 j nn gf h0 n0 NoB) ws := by
  have hX' := hX
  obtain ⟨hw, hE, S1, P1, S3, P3⟩ := hX'
  have hU' := hU
  obtain ⟨u1, u2, u3⟩ := hU'
  have hSA := sa_of hw
  have wT : ∀ (i : Nat) {d : Jvm.Cond}, tables_1[i]? = some d → d.before a0 Z = true := fun i d h => hw d (List.mem_of_getElem? h)
  have z0 : n0 ≤ h0.size := by rw [← O0.1]; exact O0.2.1
  refine Met.of (by decide +kernel) O0 hE ?_
  intro p e s m below meth c hx hby hml hret hlk hnm
  refine k_cast (ef_pci1 m (Int32.ofNat j) (Int32.ofNat nn) gf) ?_
  show Run p l e _ s m _ below meth c Z EL1 _ n0 NoB h0 0 0 (mkF m 0 #[.val (.int (Int32.ofNat j)), .val (.int (Int32.ofNat nn)), .val (.ref gf)] []) _
  refine k_pure (g' := (mkF m 1 #[.val (.int (Int32.ofNat j)), .val (.int (Int32.ofNat nn)), .val (.ref gf)] [(.int (Int32.ofNat j))])) (fun TT HH tt kk => XS.iloadN HH hx rfl (hb hby d_jdk_41_m_11_0) rfl kk) ?_
  refine k_pure (g' := (mkF m 4 #[.val (.int (Int32.ofNat j)), .val (.int (Int32.ofNat nn)), .val (.ref gf)] [])) (fun TT HH tt kk => XS.ifNo HH hx rfl (hb hby d_jdk_41_m_11_1) rfl ((if0 _ _).trans (flt (not_lt_nat (n := 0) (Nat.zero_le _) (by omega))).1) kk) ?_
  refine k_pure (g' := (mkF m 5 #[.val (.int (Int32.ofNat j)), .val (.int (Int32.ofNat nn)), .val (.ref gf)] [(.int (Int32.ofNat j))])) (fun TT HH tt kk => XS.iloadN HH hx rfl (hb hby d_jdk_41_m_11_4) rfl kk) ?_
  refine k_pure (g' := (mkF m 6 #[.val (.int (Int32.ofNat j)), .val (.int (Int32.ofNat nn)), .val (.ref gf)] [(.int (Int32.ofNat nn)), (.int (Int32.ofNat j))])) (fun TT HH tt kk => XS.iloadN HH hx rfl (hb hby d_jdk_41_m_11_5) rfl kk) ?_
  refine k_pure (g' := (mkF m 16 #[.val (.int (Int32.ofNat j)), .val (.int (Int32.ofNat nn)), .val (.ref gf)] [])) (fun TT HH tt kk => XS.icmpYes HH hx rfl (pc0 := 6) (pc' := 16) rfl (hb hby d_jdk_41_m_11_6) rfl (tlt (lt_nat hj (by omega))).1 (by decide) (by decide) kk) ?_
  refine k_pure (g' := (mkF m 17 #[.val (.int (Int32.ofNat j)), .val (.int (Int32.ofNat nn)), .val (.ref gf)] [(.int (Int32.ofNat j))])) (fun TT HH tt kk => XS.iloadN HH hx rfl (hb hby d_jdk_41_m_11_16) rfl kk) ?_
  exact k_retI hx hlk hret (hb hby d_jdk_41_m_11_17) (by decide) (by decide) ⟨rfl, rfl, rfl⟩
def Q_sci (Z : State) (G1 : Int32) (G3 : Value) (j : Nat) (nn : Nat) (h0 : Heap) (n0 : Nat) (bk : Addr → Prop) (v : Option Value) (h : Heap) (bk' : Addr → Prop) : Prop := v = none ∧ h0 = h ∧ NoB = bk'
theorem d_jdk_42_m_155_0 : decode jdk_42_method_155_code 0 = .ok (.iload_n 0, 1) := by decide +kernel
theorem d_jdk_42_m_155_1 : decode jdk_42_method_155_code 1 = .ok (.iload_n 1, 1) := by decide +kernel
theorem d_jdk_42_m_155_2 : decode jdk_42_method_155_code 2 = .ok (.getstatic 1053, 3) := by decide +kernel
theorem d_jdk_42_m_155_5 : decode jdk_42_method_155_code 5 = .ok (.invokestatic 1059, 3) := by decide +kernel
theorem pd__28_IILjava_2f_util_2f_function_2f_BiFunction_3b__29_I : parseMethodDescriptor "(IILjava/util/function/BiFunction;)I" = some ⟨[.int, .int, (.object "java/util/function/BiFunction")], some .int⟩ := by decide +kernel
theorem d_jdk_42_m_155_8 : decode jdk_42_method_155_code 8 = .ok (.pop, 1) := by decide +kernel
theorem d_jdk_42_m_155_9 : decode jdk_42_method_155_code 9 = .ok (.return_, 1) := by decide +kernel
abbrev RM_sci : Room := { frames := 1, cells := 0, slots := 0, locals := 14 }
theorem ef_sci (m : MethodId) (x0 : Int32) (x1 : Int32) : entryFrame m #[(.int x0), (.int x1)] 2 = mkF m 0 #[.val (.int x0), .val (.int x1)] [] := by first | (simp [entryFrame, mkF, argsToLocals, Value.category]; done) | rfl
set_option maxRecDepth 65536 in
set_option maxHeartbeats 40000000 in
theorem rm_sci (l : Launch) (Z : State) (a0 : Array Value) (G1 : Int32) (G3 : Value) (hX : Ctx Z a0 G1 G3) (hU : Wide Z) (n0 : Nat) (h0 : Heap) (O0 : Old Z n0 h0) (j : Nat) (nn : Nat) (hj : j < nn) (hn : nn ≤ 4000) (ws : List Jvm.Cond) : Met l Z EL1 n0 NoB (⟨"java/lang/String", "checkIndex", "(II)V"⟩ : MethodName) jdk_42_method_155_code 2 (Option.none : Option FieldType) RM_sci #[(.int (Int32.ofNat j)), (.int (Int32.ofNat nn))] h0 (Q_sci Z G1 G3 j nn h0 n0 NoB) ws := by
  have hX' := hX
  obtain ⟨hw, hE, S1, P1, S3, P3⟩ := hX'
  have hU' := hU
  obtain ⟨u1, u2, u3⟩ := hU'
  have hSA := sa_of hw
  have wT : ∀ (i : Nat) {d : Jvm.Cond}, tables_1[i]? = some d → d.before a0 Z = true := fun i d h => hw d (List.mem_of_getElem? h)
  have z0 : n0 ≤ h0.size := by rw [← O0.1]; exact O0.2.1
  refine Met.of (by decide +kernel) O0 hE ?_
  intro p e s m below meth c hx hby hml hret hlk hnm
  refine k_cast (ef_sci m (Int32.ofNat j) (Int32.ofNat nn)) ?_
  show Run p l e _ s m _ below meth c Z EL1 _ n0 NoB h0 0 0 (mkF m 0 #[.val (.int (Int32.ofNat j)), .val (.int (Int32.ofNat nn))] []) _
  refine k_pure (g' := (mkF m 1 #[.val (.int (Int32.ofNat j)), .val (.int (Int32.ofNat nn))] [(.int (Int32.ofNat j))])) (fun TT HH tt kk => XS.iloadN HH hx rfl (hb hby d_jdk_42_m_155_0) rfl kk) ?_
  refine k_pure (g' := (mkF m 2 #[.val (.int (Int32.ofNat j)), .val (.int (Int32.ofNat nn))] [(.int (Int32.ofNat nn)), (.int (Int32.ofNat j))])) (fun TT HH tt kk => XS.iloadN HH hx rfl (hb hby d_jdk_42_m_155_1) rfl kk) ?_
  rcases isref P3 with hG | ⟨gA, hG⟩
  · have S3' : Sta Z Z.heap "jdk/internal/util/Preconditions" "SIOOBE_FORMATTER" "Ljava/util/function/BiFunction;" .null := hG ▸ S3
    show Run p l e _ s m _ below meth c Z EL1 _ n0 NoB h0 0 0 (mkF m 2 #[.val (.int (Int32.ofNat j)), .val (.int (Int32.ofNat nn))] [(.int (Int32.ofNat nn)), (.int (Int32.ofNat j))]) _
    refine k_getS hx (host := "") (Or.inl (wT 110 rfl)) Via.refl (S3'.ext O0.2) rfl (hb hby d_jdk_42_m_155_2) ?_
    show Run p l e _ s m _ below meth c Z EL1 _ n0 NoB h0 0 0 (mkF m 5 #[.val (.int (Int32.ofNat j)), .val (.int (Int32.ofNat nn))] [.null, (.int (Int32.ofNat nn)), (.int (Int32.ofNat j))]) _
    refine k_callS hx (y := (⟨"jdk/internal/util/Preconditions", "checkIndex", "(IILjava/util/function/BiFunction;)I"⟩ : MethodName)) (wT 112 rfl) (wT 113 rfl) (wT 111 rfl) (wT 114 rfl) (by decide) (W := 0) (argsL := [(.int (Int32.ofNat j)), (.int (Int32.ofNat nn)), .null]) (rest := []) (Pays.of_met (rm_pci0 l Z a0 G1 G3 hX hU n0 h0 O0 j nn hj hn []) (wT 114 rfl) (wT 111 rfl) (by decide) (by decide)) rfl (by rw [hml]; rfl) (lenOf pd__28_IILjava_2f_util_2f_function_2f_BiFunction_3b__29_I rfl) rfl (by show 2 * 0 + _ ≤ _; exact Nat.le_of_eq rfl) (hb hby d_jdk_42_m_155_5) (by decide) (by decide) ?_
    intro v_1 h_2 bk_3 O_4 z_5 Q_6
    obtain ⟨rfl, rfl, rfl⟩ := Q_6
    show Run p l e _ s m _ below meth c Z EL1 _ n0 NoB h0 0 0 (mkF m 8 #[.val (.int (Int32.ofNat j)), .val (.int (Int32.ofNat nn))] [(.int (Int32.ofNat j))]) _
    refine k_pure (g' := (mkF m 9 #[.val (.int (Int32.ofNat j)), .val (.int (Int32.ofNat nn))] [])) (fun TT HH tt kk => XS.pop HH hx rfl (hb hby d_jdk_42_m_155_8) rfl rfl kk) ?_
    exact k_ret0 hx hlk hret (hb hby d_jdk_42_m_155_9) (by decide) (by decide) ⟨rfl, rfl, rfl⟩
  · have S3' : Sta Z Z.heap "jdk/internal/util/Preconditions" "SIOOBE_FORMATTER" "Ljava/util/function/BiFunction;" (.ref gA) := hG ▸ S3
    show Run p l e _ s m _ below meth c Z EL1 _ n0 NoB h0 0 0 (mkF m 2 #[.val (.int (Int32.ofNat j)), .val (.int (Int32.ofNat nn))] [(.int (Int32.ofNat nn)), (.int (Int32.ofNat j))]) _
    refine k_getS hx (host := "") (Or.inl (wT 110 rfl)) Via.refl (S3'.ext O0.2) rfl (hb hby d_jdk_42_m_155_2) ?_
    show Run p l e _ s m _ below meth c Z EL1 _ n0 NoB h0 0 0 (mkF m 5 #[.val (.int (Int32.ofNat j)), .val (.int (Int32.ofNat nn))] [(.ref gA), (.int (Int32.ofNat nn)), (.int (Int32.ofNat j))]) _
    refine k_callS hx (y := (⟨"jdk/internal/util/Preconditions", "checkIndex", "(IILjava/util/function/BiFunction;)I"⟩ : MethodName)) (wT 112 rfl) (wT 113 rfl) (wT 111 rfl) (wT 114 rfl) (by decide) (W := 0) (argsL := [(.int (Int32.ofNat j)), (.int (Int32.ofNat nn)), (.ref gA)]) (rest := []) (Pays.of_met (rm_pci1 l Z a0 G1 G3 hX hU n0 h0 O0 j nn gA hj hn []) (wT 114 rfl) (wT 111 rfl) (by decide) (by decide)) rfl (by rw [hml]; rfl) (lenOf pd__28_IILjava_2f_util_2f_function_2f_BiFunction_3b__29_I rfl) rfl (by show 2 * 0 + _ ≤ _; exact Nat.le_of_eq rfl) (hb hby d_jdk_42_m_155_5) (by decide) (by decide) ?_
    intro v_7 h_8 bk_9 O_10 z_11 Q_12
    obtain ⟨rfl, rfl, rfl⟩ := Q_12
    show Run p l e _ s m _ below meth c Z EL1 _ n0 NoB h0 0 0 (mkF m 8 #[.val (.int (Int32.ofNat j)), .val (.int (Int32.ofNat nn))] [(.int (Int32.ofNat j))]) _
    refine k_pure (g' := (mkF m 9 #[.val (.int (Int32.ofNat j)), .val (.int (Int32.ofNat nn))] [])) (fun TT HH tt kk => XS.pop HH hx rfl (hb hby d_jdk_42_m_155_8) rfl rfl kk) ?_
    exact k_ret0 hx hlk hret (hb hby d_jdk_42_m_155_9) (by decide) (by decide) ⟨rfl, rfl, rfl⟩
def Q_uci (Z : State) (G1 : Int32) (G3 : Value) (t : Addr) (kb : ClassId) (cs : List Int32) (j : Nat) (h0 : Heap) (n0 : Nat) (bk : Addr → Prop) (v : Option Value) (h : Heap) (bk' : Addr → Prop) : Prop := v = none ∧ h0 = h ∧ NoB = bk'
theorem d_jdk_52_m_91_0 : decode jdk_52_method_91_code 0 = .ok (.iload_n 0, 1) := by decide +kernel
theorem d_jdk_52_m_91_1 : decode jdk_52_method_91_code 1 = .ok (.aload_n 1, 1) := by decide +kernel
theorem d_jdk_52_m_91_2 : decode jdk_52_method_91_code 2 = .ok (.invokestatic 48, 3) := by decide +kernel
theorem pd__28__5b_B_29_I : parseMethodDescriptor "([B)I" = some ⟨[(.array .byte)], some .int⟩ := by decide +kernel
theorem d_jdk_52_m_91_5 : decode jdk_52_method_91_code 5 = .ok (.invokestatic 414, 3) := by decide +kernel
theorem pd__28_II_29_V : parseMethodDescriptor "(II)V" = some ⟨[.int, .int], none⟩ := by decide +kernel
theorem d_jdk_52_m_91_8 : decode jdk_52_method_91_code 8 = .ok (.return_, 1) := by decide +kernel
abbrev RM_uci : Room := { frames := 2, cells := 0, slots := 0, locals := 27 }
theorem ef_uci (m : MethodId) (x0 : Int32) (x1 : Addr) : entryFrame m #[(.int x0), (.ref x1)] 2 = mkF m 0 #[.val (.int x0), .val (.ref x1)] [] := by first | (simp [entryFrame, mkF, argsToLocals, Value.category]; done) | rfl
set_option maxRecDepth 65536 in
set_option maxHeartbeats 40000000 in
theorem rm_uci (l : Launch) (Z : State) (a0 : Array Value) (G1 : Int32) (G3 : Value) (hX : Ctx Z a0 G1 G3) (hU : Wide Z) (n0 : Nat) (h0 : Heap) (O0 : Old Z n0 h0) (t : Addr) (kb : ClassId) (cs : List Int32) (j : Nat) (pf_0 : Arv Z h0 t kb .byte (Int32.ofNat (2 * (cs).length)) (StrChars.Road.wideBytes cs) (.int 0)) (hj : j < (cs).length) (hn : (cs).length ≤ 1900) (ws : List Jvm.Cond) : Met l Z EL1 n0 NoB (⟨"java/lang/StringUTF16", "checkIndex", "(I[B)V"⟩ : MethodName) jdk_52_method_91_code 2 (Option.none : Option FieldType) RM_uci #[(.int (Int32.ofNat j)), (.ref t)] h0 (Q_uci Z G1 G3 t kb cs j h0 n0 NoB) ws := by
  have hX' := hX
  obtain ⟨hw, hE, S1, P1, S3, P3⟩ := hX'
  have hU' := hU
  obtain ⟨u1, u2, u3⟩ := hU'
  have hSA := sa_of hw
  have wT : ∀ (i : Nat) {d : Jvm.Cond}, tables_1[i]? = some d → d.before a0 Z = true := fun i d h => hw d (List.mem_of_getElem? h)
  have z0 : n0 ≤ h0.size := by rw [← O0.1]; exact O0.2.1
  refine Met.of (by decide +kernel) O0 hE ?_
  intro p e s m below meth c hx hby hml hret hlk hnm
  refine k_cast (ef_uci m (Int32.ofNat j) t) ?_
  show Run p l e _ s m _ below meth c Z EL1 _ n0 NoB h0 0 0 (mkF m 0 #[.val (.int (Int32.ofNat j)), .val (.ref t)] []) _
  have lt_1 : @LT.lt Nat _ t (Array.size h0) := pf_0.lt
  refine k_pure (g' := (mkF m 1 #[.val (.int (Int32.ofNat j)), .val (.ref t)] [(.int (Int32.ofNat j))])) (fun TT HH tt kk => XS.iloadN HH hx rfl (hb hby d_jdk_52_m_91_0) rfl kk) ?_
  refine k_pure (g' := (mkF m 2 #[.val (.int (Int32.ofNat j)), .val (.ref t)] [(.ref t), (.int (Int32.ofNat j))])) (fun TT HH tt kk => XS.aloadN HH hx rfl (hb hby d_jdk_52_m_91_1) rfl rfl kk) ?_
  refine k_callS hx (y := (⟨"java/lang/StringUTF16", "length", "([B)I"⟩ : MethodName)) (wT 104 rfl) (wT 105 rfl) (wT 27 rfl) (wT 106 rfl) (by decide) (W := 1) (argsL := [(.ref t)]) (rest := [(.int (Int32.ofNat j))]) (Pays.of_met (rm_ulen l Z a0 G1 G3 hX hU n0 h0 O0 t kb (StrChars.Road.wideBytes cs) ((cs).length) pf_0 hn []) (wT 106 rfl) (wT 27 rfl) (by decide) (by decide)) rfl (by rw [hml]; rfl) (lenOf pd__28__5b_B_29_I rfl) rfl (by show 2 * 0 + _ ≤ _; exact Nat.le_of_eq rfl) (hb hby d_jdk_52_m_91_2) (by decide) (by decide) ?_
  intro v_2 h_3 bk_4 O_5 z_6 Q_7
  obtain ⟨rfl, rfl, rfl⟩ := Q_7
  show Run p l e _ s m _ below meth c Z EL1 _ n0 NoB h0 0 0 (mkF m 5 #[.val (.int (Int32.ofNat j)), .val (.ref t)] [(.int (Int32.ofNat (cs).length)), (.int (Int32.ofNat j))]) _
  refine k_callS hx (y := (⟨"java/lang/String", "checkIndex", "(II)V"⟩ : MethodName)) (wT 107 rfl) (wT 108 rfl) (wT 13 rfl) (wT 109 rfl) (by decide) (W := 0) (argsL := [(.int (Int32.ofNat j)), (.int (Int32.ofNat (cs).length))]) (rest := []) (Pays.of_met (rm_sci l Z a0 G1 G3 hX hU n0 h0 O0 j ((cs).length) hj (by omega) []) (wT 109 rfl) (wT 13 rfl) (by decide) (by decide)) rfl (by rw [hml]; rfl) (lenOf pd__28_II_29_V rfl) rfl (by show 2 * 0 + _ ≤ _; exact Nat.le_of_eq rfl) (hb hby d_jdk_52_m_91_5) (by decide) (by decide) ?_
  intro v_8 h_9 bk_10 O_11 z_12 Q_13
  obtain ⟨rfl, rfl, rfl⟩ := Q_13
  show Run p l e _ s m _ below meth c Z EL1 _ n0 NoB h0 0 0 (mkF m 8 #[.val (.int (Int32.ofNat j)), .val (.ref t)] []) _
  exact k_ret0 hx hlk hret (hb hby d_jdk_52_m_91_8) (by decide) (by decide) ⟨rfl, rfl, rfl⟩
def Q_uch (Z : State) (G1 : Int32) (G3 : Value) (t : Addr) (kb : ClassId) (cs : List Int32) (j : Nat) (h0 : Heap) (n0 : Nat) (bk : Addr → Prop) (v : Option Value) (h : Heap) (bk' : Addr → Prop) : Prop := v = some (.int ((cs).getD j 0)) ∧ h0 = h ∧ NoB = bk'
theorem d_jdk_52_m_83_0 : decode jdk_52_method_83_code 0 = .ok (.iload_n 1, 1) := by decide +kernel
theorem d_jdk_52_m_83_1 : decode jdk_52_method_83_code 1 = .ok (.aload_n 0, 1) := by decide +kernel
theorem d_jdk_52_m_83_2 : decode jdk_52_method_83_code 2 = .ok (.invokestatic 67, 3) := by decide +kernel
theorem pd__28_I_5b_B_29_V : parseMethodDescriptor "(I[B)V" = some ⟨[.int, (.array .byte)], none⟩ := by decide +kernel
theorem d_jdk_52_m_83_5 : decode jdk_52_method_83_code 5 = .ok (.aload_n 0, 1) := by decide +kernel
theorem d_jdk_52_m_83_6 : decode jdk_52_method_83_code 6 = .ok (.iload_n 1, 1) := by decide +kernel
theorem d_jdk_52_m_83_7 : decode jdk_52_method_83_code 7 = .ok (.invokestatic 71, 3) := by decide +kernel
theorem d_jdk_52_m_83_10 : decode jdk_52_method_83_code 10 = .ok (.ireturn, 1) := by decide +kernel
abbrev RM_uch : Room := { frames := 3, cells := 0, slots := 0, locals := 40 }
theorem ef_uch (m : MethodId) (x0 : Addr) (x1 : Int32) : entryFrame m #[(.ref x0), (.int x1)] 2 = mkF m 0 #[.val (.ref x0), .val (.int x1)] [] := by first | (simp [entryFrame, mkF, argsToLocals, Value.category]; done) | rfl
set_option maxRecDepth 65536 in
set_option maxHeartbeats 40000000 in
theorem rm_uch (l : Launch) (Z : State) (a0 : Array Value) (G1 : Int32) (G3 : Value) (hX : Ctx Z a0 G1 G3) (hU : Wide Z) (n0 : Nat) (h0 : Heap) (O0 : Old Z n0 h0) (t : Addr) (kb : ClassId) (cs : List Int32) (j : Nat) (pf_0 : Arv Z h0 t kb .byte (Int32.ofNat (2 * (cs).length)) (StrChars.Road.wideBytes cs) (.int 0)) (hr : ∀ c ∈ cs, ¬ c < 0 ∧ ¬ (65535 : Int32) < c) (hj : j < (cs).length) (hn : (cs).length ≤ 1900) (ws : List Jvm.Cond) : Met l Z EL1 n0 NoB (⟨"java/lang/StringUTF16", "charAt", "([BI)C"⟩ : MethodName) jdk_52_method_83_code 2 (Option.some FieldType.char) RM_uch #[(.ref t), (.int (Int32.ofNat j))] h0 (Q_uch Z G1 G3 t kb cs j h0 n0 NoB) ws := by
  have hX' := hX
  obtain ⟨hw, hE, S1, P1, S3, P3⟩ := hX'
  have hU' := hU
  obtain ⟨u1, u2, u3⟩ := hU'
  have hSA := sa_of hw
  have wT : ∀ (i : Nat) {d : Jvm.Cond}, tables_1[i]? = some d → d.before a0 Z = true := fun i d h => hw d (List.mem_of_getElem? h)
  have z0 : n0 ≤ h0.size := by rw [← O0.1]; exact O0.2.1
  refine Met.of (by decide +kernel) O0 hE ?_
  intro p e s m below meth c hx hby hml hret hlk hnm
  refine k_cast (ef_uch m t (Int32.ofNat j)) ?_
  show Run p l e _ s m _ below meth c Z EL1 _ n0 NoB h0 0 0 (mkF m 0 #[.val (.ref t), .val (.int (Int32.ofNat j))] []) _
  have lt_1 : @LT.lt Nat _ t (Array.size h0) := pf_0.lt
  refine k_pure (g' := (mkF m 1 #[.val (.ref t), .val (.int (Int32.ofNat j))] [(.int (Int32.ofNat j))])) (fun TT HH tt kk => XS.iloadN HH hx rfl (hb hby d_jdk_52_m_83_0) rfl kk) ?_
  refine k_pure (g' := (mkF m 2 #[.val (.ref t), .val (.int (Int32.ofNat j))] [(.ref t), (.int (Int32.ofNat j))])) (fun TT HH tt kk => XS.aloadN HH hx rfl (hb hby d_jdk_52_m_83_1) rfl rfl kk) ?_
  refine k_callS hx (y := (⟨"java/lang/StringUTF16", "checkIndex", "(I[B)V"⟩ : MethodName)) (wT 101 rfl) (wT 102 rfl) (wT 27 rfl) (wT 103 rfl) (by decide) (W := 0) (argsL := [(.int (Int32.ofNat j)), (.ref t)]) (rest := []) (Pays.of_met (rm_uci l Z a0 G1 G3 hX hU n0 h0 O0 t kb cs j pf_0 hj hn []) (wT 103 rfl) (wT 27 rfl) (by decide) (by decide)) rfl (by rw [hml]; rfl) (lenOf pd__28_I_5b_B_29_V rfl) rfl (by show 2 * 0 + _ ≤ _; exact Nat.le_of_eq rfl) (hb hby d_jdk_52_m_83_2) (by decide) (by decide) ?_
  intro v_2 h_3 bk_4 O_5 z_6 Q_7
  obtain ⟨rfl, rfl, rfl⟩ := Q_7
  show Run p l e _ s m _ below meth c Z EL1 _ n0 NoB h0 0 0 (mkF m 5 #[.val (.ref t), .val (.int (Int32.ofNat j))] []) _
  refine k_pure (g' := (mkF m 6 #[.val (.ref t), .val (.int (Int32.ofNat j))] [(.ref t)])) (fun TT HH tt kk => XS.aloadN HH hx rfl (hb hby d_jdk_52_m_83_5) rfl rfl kk) ?_
  refine k_pure (g' := (mkF m 7 #[.val (.ref t), .val (.int (Int32.ofNat j))] [(.int (Int32.ofNat j)), (.ref t)])) (fun TT HH tt kk => XS.iloadN HH hx rfl (hb hby d_jdk_52_m_83_6) rfl kk) ?_
  refine k_callS hx (y := (⟨"java/lang/StringUTF16", "getChar", "([BI)C"⟩ : MethodName)) (wT 49 rfl) (wT 50 rfl) (wT 27 rfl) (wT 51 rfl) (by decide) (W := 0) (argsL := [(.ref t), (.int (Int32.ofNat j))]) (rest := []) (Pays.of_met (rm_gec l Z a0 G1 G3 hX hU n0 h0 O0 t kb cs j pf_0 hr hj hn []) (wT 51 rfl) (wT 27 rfl) (by decide) (by decide)) rfl (by rw [hml]; rfl) (lenOf pd__28__5b_BI_29_C rfl) rfl (by show 2 * 0 + _ ≤ _; exact Nat.le_of_eq rfl) (hb hby d_jdk_52_m_83_7) (by decide) (by decide) ?_
  intro v_8 h_9 bk_10 O_11 z_12 Q_13
  obtain ⟨rfl, rfl, rfl⟩ := Q_13
  show Run p l e _ s m _ below meth c Z EL1 _ n0 NoB h0 0 0 (mkF m 10 #[.val (.ref t), .val (.int (Int32.ofNat j))] [(.int ((cs).getD j 0))]) _
  exact k_retN hx hlk hret (by simp) (hb hby d_jdk_52_m_83_10) (by decide) (by decide) ⟨congrArg (fun z => some (Value.int z)) (u_nrc (hr _ (getD_mem cs j hj)).1 (hr _ (getD_mem cs j hj)).2), rfl, rfl⟩
def Q_islU (Z : State) (G1 : Int32) (G3 : Value) (a : Addr) (t : Addr) (kb : ClassId) (cs : List Int32) (h0 : Heap) (n0 : Nat) (bk : Addr → Prop) (v : Option Value) (h : Heap) (bk' : Addr → Prop) : Prop := v = some (.int (0 : Int32)) ∧ h0 = h ∧ NoB = bk'
theorem d_jdk_42_m_154_0 : decode jdk_42_method_154_code 0 = .ok (.getstatic 38, 3) := by decide +kernel
theorem d_jdk_42_m_154_3 : decode jdk_42_method_154_code 3 = .ok (.ifCond .eq 14, 3) := by decide +kernel
theorem d_jdk_42_m_154_6 : decode jdk_42_method_154_code 6 = .ok (.aload_n 0, 1) := by decide +kernel
theorem d_jdk_42_m_154_7 : decode jdk_42_method_154_code 7 = .ok (.getfield 15, 3) := by decide +kernel
theorem d_jdk_42_m_154_10 : decode jdk_42_method_154_code 10 = .ok (.ifCond .ne 7, 3) := by decide +kernel
theorem d_jdk_42_m_154_17 : decode jdk_42_method_154_code 17 = .ok (.iconst 0, 1) := by decide +kernel
theorem d_jdk_42_m_154_18 : decode jdk_42_method_154_code 18 = .ok (.ireturn, 1) := by decide +kernel
abbrev RM_islU : Room := { frames := 0, cells := 0, slots := 0, locals := 0 }
theorem ef_islU (m : MethodId) (x0 : Addr) : entryFrame m #[(.ref x0)] 1 = mkF m 0 #[.val (.ref x0)] [] := by first | (simp [entryFrame, mkF, argsToLocals, Value.category]; done) | rfl
set_option maxRecDepth 65536 in
set_option maxHeartbeats 40000000 in
theorem rm_islU (l : Launch) (Z : State) (a0 : Array Value) (G1 : Int32) (G3 : Value) (hX : Ctx Z a0 G1 G3) (hU : Wide Z) (n0 : Nat) (h0 : Heap) (O0 : Old Z n0 h0) (a : Addr) (t : Addr) (kb : ClassId) (cs : List Int32) (pf_0 : StrU Z h0 a t kb cs) (ws : List Jvm.Cond) : Met l Z EL1 n0 NoB (⟨"java/lang/String", "isLatin1", "()Z"⟩ : MethodName) jdk_42_method_154_code 1 (Option.some FieldType.boolean) RM_islU #[(.ref a)] h0 (Q_islU Z G1 G3 a t kb cs h0 n0 NoB) ws := by
  have hX' := hX
  obtain ⟨hw, hE, S1, P1, S3, P3⟩ := hX'
  have hU' := hU
  obtain ⟨u1, u2, u3⟩ := hU'
  have hSA := sa_of hw
  have wT : ∀ (i : Nat) {d : Jvm.Cond}, tables_1[i]? = some d → d.before a0 Z = true := fun i d h => hw d (List.mem_of_getElem? h)
  have z0 : n0 ≤ h0.size := by rw [← O0.1]; exact O0.2.1
  refine Met.of (by decide +kernel) O0 hE ?_
  intro p e s m below meth c hx hby hml hret hlk hnm
  refine k_cast (ef_islU m a) ?_
  show Run p l e _ s m _ below meth c Z EL1 _ n0 NoB h0 0 0 (mkF m 0 #[.val (.ref a)] []) _
  have lt_1 : @LT.lt Nat _ a (Array.size h0) := pf_0.lt1
  have lt_2 : @LT.lt Nat _ t (Array.size h0) := pf_0.lt2
  refine k_getS hx (host := "") (Or.inl (wT 24 rfl)) Via.refl (S1.ext O0.2) rfl (hb hby d_jdk_42_m_154_0) ?_
  show Run p l e _ s m _ below meth c Z EL1 _ n0 NoB h0 0 0 (mkF m 3 #[.val (.ref a)] [(.int G1)]) _
  refine k_pure (g' := (mkF m 6 #[.val (.ref a)] [])) (fun TT HH tt kk => XS.ifNo HH hx rfl (hb hby d_jdk_42_m_154_3) rfl ((if0 _ _).trans (feq P1).1) kk) ?_
  refine k_pure (g' := (mkF m 7 #[.val (.ref a)] [(.ref a)])) (fun TT HH tt kk => XS.aloadN HH hx rfl (hb hby d_jdk_42_m_154_6) rfl rfl kk) ?_
  refine k_getF hx (host := "") (Or.inl (wT 55 rfl)) Via.refl pf_0.2.1 rfl rfl (hb hby d_jdk_42_m_154_7) ?_
  show Run p l e _ s m _ below meth c Z EL1 _ n0 NoB h0 0 0 (mkF m 10 #[.val (.ref a)] [(.int (1 : Int32))]) _
  refine k_pure (g' := (mkF m 17 #[.val (.ref a)] [])) (fun TT HH tt kk => XS.ifYes HH hx rfl (pc0 := 10) (pc' := 17) rfl (hb hby d_jdk_42_m_154_10) rfl ((if0 _ _).trans (feq (by decide : ¬ ((1 : Int32) = (0 : Int32)))).2) (by decide) (by decide) kk) ?_
  refine k_pure (g' := (mkF m 18 #[.val (.ref a)] [(.int (0 : Int32))])) (fun TT HH tt kk => XS.iconst HH hx rfl (hb hby d_jdk_42_m_154_17) kk) ?_
  exact k_retN hx hlk hret (by simp) (hb hby d_jdk_42_m_154_18) (by decide) (by decide) ⟨rfl, rfl, rfl⟩
def Q_chU (Z : State) (G1 : Int32) (G3 : Value) (a : Addr) (t : Addr) (kb : ClassId) (cs : List Int32) (j : Nat) (h0 : Heap) (n0 : Nat) (bk : Addr → Prop) (v : Option Value) (h : Heap) (bk' : Addr → Prop) : Prop := v = some (.int ((cs).getD j 0)) ∧ h0 = h ∧ NoB = bk'
theorem d_jdk_42_m_56_0 : decode jdk_42_method_56_code 0 = .ok (.aload_n 0, 1) := by decide +kernel
theorem d_jdk_42_m_56_1 : decode jdk_42_method_56_code 1 = .ok (.invokevirtual 492, 3) := by decide +kernel
theorem pd__28__29_Z : parseMethodDescriptor "()Z" = some ⟨[], some .boolean⟩ := by decide +kernel
theorem d_jdk_42_m_56_4 : decode jdk_42_method_56_code 4 = .ok (.ifCond .eq 12, 3) := by decide +kernel
theorem d_jdk_42_m_56_16 : decode jdk_42_method_56_code 16 = .ok (.aload_n 0, 1) := by decide +kernel
theorem d_jdk_42_m_56_17 : decode jdk_42_method_56_code 17 = .ok (.getfield 9, 3) := by decide +kernel
theorem d_jdk_42_m_56_20 : decode jdk_42_method_56_code 20 = .ok (.iload_n 1, 1) := by decide +kernel
theorem d_jdk_42_m_56_21 : decode jdk_42_method_56_code 21 = .ok (.invokestatic 498, 3) := by decide +kernel
theorem d_jdk_42_m_56_24 : decode jdk_42_method_56_code 24 = .ok (.ireturn, 1) := by decide +kernel
abbrev RM_chU : Room := { frames := 4, cells := 0, slots := 0, locals := 53 }
theorem ef_chU (m : MethodId) (x0 : Addr) (x1 : Int32) : entryFrame m #[(.ref x0), (.int x1)] 2 = mkF m 0 #[.val (.ref x0), .val (.int x1)] [] := by first | (simp [entryFrame, mkF, argsToLocals, Value.category]; done) | rfl
set_option maxRecDepth 65536 in
set_option maxHeartbeats 40000000 in
theorem rm_chU (l : Launch) (Z : State) (a0 : Array Value) (G1 : Int32) (G3 : Value) (hX : Ctx Z a0 G1 G3) (hU : Wide Z) (n0 : Nat) (h0 : Heap) (O0 : Old Z n0 h0) (a : Addr) (t : Addr) (kb : ClassId) (cs : List Int32) (j : Nat) (pf_0 : StrU Z h0 a t kb cs) (hj : j < (cs).length) (ws : List Jvm.Cond) : Met l Z EL1 n0 NoB (⟨"java/lang/String", "charAt", "(I)C"⟩ : MethodName) jdk_42_method_56_code 2 (Option.some FieldType.char) RM_chU #[(.ref a), (.int (Int32.ofNat j))] h0 (Q_chU Z G1 G3 a t kb cs j h0 n0 NoB) ws := by
  have hX' := hX
  obtain ⟨hw, hE, S1, P1, S3, P3⟩ := hX'
  have hU' := hU
  obtain ⟨u1, u2, u3⟩ := hU'
  have hSA := sa_of hw
  have wT : ∀ (i : Nat) {d : Jvm.Cond}, tables_1[i]? = some d → d.before a0 Z = true := fun i d h => hw d (List.mem_of_getElem? h)
  have z0 : n0 ≤ h0.size := by rw [← O0.1]; exact O0.2.1
  refine Met.of (by decide +kernel) O0 hE ?_
  intro p e s m below meth c hx hby hml hret hlk hnm
  refine k_cast (ef_chU m a (Int32.ofNat j)) ?_
  show Run p l e _ s m _ below meth c Z EL1 _ n0 NoB h0 0 0 (mkF m 0 #[.val (.ref a), .val (.int (Int32.ofNat j))] []) _
  have lt_1 : @LT.lt Nat _ a (Array.size h0) := pf_0.lt1
  have lt_2 : @LT.lt Nat _ t (Array.size h0) := pf_0.lt2
  refine k_pure (g' := (mkF m 1 #[.val (.ref a), .val (.int (Int32.ofNat j))] [(.ref a)])) (fun TT HH tt kk => XS.aloadN HH hx rfl (hb hby d_jdk_42_m_56_0) rfl rfl kk) ?_
  refine k_callV hx (y := (⟨"java/lang/String", "isLatin1", "()Z"⟩ : MethodName)) (z := (⟨"java/lang/String", "isLatin1", "()Z"⟩ : MethodName)) (wT 93 rfl) (wT 94 rfl) (fun s' hZ => notFace_of_selects (args := #[]) (mv hZ (wT 96 rfl))) (wT 96 rfl) (wT 95 rfl) (by decide) (W := 0) (a := a) (argsL := []) (rest := []) (Pays.of_met (rm_islU l Z a0 G1 G3 hX hU n0 h0 O0 a t kb cs pf_0 []) (wT 97 rfl) (wT 13 rfl) (by decide) (by decide)) pf_0.1 rfl (by rw [hml]; rfl) (lenOf pd__28__29_Z rfl) rfl (by show 2 * 0 + _ ≤ _; exact Nat.le_of_eq rfl) (hb hby d_jdk_42_m_56_1) (by decide) (by decide) ?_
  intro v_3 h_4 bk_5 O_6 z_7 Q_8
  obtain ⟨rfl, rfl, rfl⟩ := Q_8
  show Run p l e _ s m _ below meth c Z EL1 _ n0 NoB h0 0 0 (mkF m 4 #[.val (.ref a), .val (.int (Int32.ofNat j))] [(.int (0 : Int32))]) _
  refine k_pure (g' := (mkF m 16 #[.val (.ref a), .val (.int (Int32.ofNat j))] [])) (fun TT HH tt kk => XS.ifYes HH hx rfl (pc0 := 4) (pc' := 16) rfl (hb hby d_jdk_42_m_56_4) rfl ((if0 _ _).trans (teq (by decide : ((0 : Int32) = (0 : Int32)))).1) (by decide) (by decide) kk) ?_
  refine k_pure (g' := (mkF m 17 #[.val (.ref a), .val (.int (Int32.ofNat j))] [(.ref a)])) (fun TT HH tt kk => XS.aloadN HH hx rfl (hb hby d_jdk_42_m_56_16) rfl rfl kk) ?_
  refine k_getF hx (host := "") (Or.inl (wT 57 rfl)) Via.refl pf_0.2.2.1 rfl rfl (hb hby d_jdk_42_m_56_17) ?_
  show Run p l e _ s m _ below meth c Z EL1 _ n0 NoB h0 0 0 (mkF m 20 #[.val (.ref a), .val (.int (Int32.ofNat j))] [(.ref t)]) _
  refine k_pure (g' := (mkF m 21 #[.val (.ref a), .val (.int (Int32.ofNat j))] [(.int (Int32.ofNat j)), (.ref t)])) (fun TT HH tt kk => XS.iloadN HH hx rfl (hb hby d_jdk_42_m_56_20) rfl kk) ?_
  refine k_callS hx (y := (⟨"java/lang/StringUTF16", "charAt", "([BI)C"⟩ : MethodName)) (wT 98 rfl) (wT 99 rfl) (wT 27 rfl) (wT 100 rfl) (by decide) (W := 0) (argsL := [(.ref t), (.int (Int32.ofNat j))]) (rest := []) (Pays.of_met (rm_uch l Z a0 G1 G3 hX hU n0 h0 O0 t kb cs j pf_0.2.2.2.1 pf_0.2.2.2.2.1 hj pf_0.len []) (wT 100 rfl) (wT 27 rfl) (by decide) (by decide)) rfl (by rw [hml]; rfl) (lenOf pd__28__5b_BI_29_C rfl) rfl (by show 2 * 0 + _ ≤ _; exact Nat.le_of_eq rfl) (hb hby d_jdk_42_m_56_21) (by decide) (by decide) ?_
  intro v_9 h_10 bk_11 O_12 z_13 Q_14
  obtain ⟨rfl, rfl, rfl⟩ := Q_14
  show Run p l e _ s m _ below meth c Z EL1 _ n0 NoB h0 0 0 (mkF m 24 #[.val (.ref a), .val (.int (Int32.ofNat j))] [(.int ((cs).getD j 0))]) _
  exact k_retN hx hlk hret (by simp) (hb hby d_jdk_42_m_56_24) (by decide) (by decide) ⟨congrArg (fun z => some (Value.int z)) (u_nrc (pf_0.2.2.2.2.1 _ (getD_mem cs j hj)).1 (pf_0.2.2.2.2.1 _ (getD_mem cs j hj)).2), rfl, rfl⟩
theorem pay_chX {p : Program} {l : Launch} {e : Env} {R : Room} {s : State} {args : Array Value} {below : List Frame} {W : Nat} {a0 : Array Value} {Z : State} {h : Heap} {n0 : Nat}  {a t : Addr} {kb : ClassId} {cs : List Int32} {G1 : Int32} {G3 : Value} (hX : Ctx Z a0 G1 G3) (hU : Wide Z) (O : Old Z n0 h) (S : StrX Z h a t kb cs) (i : Nat) (hi : i < cs.length) {j : Int32} (hj : j = Int32.ofNat i) (hf : 5 ≤ R.frames) (hl : W + 66 ≤ R.locals) :
    Pays l R p e below s args Z EL1 n0 NoB h (⟨"java/lang/String", "charAt", "(I)C"⟩ : MethodName) 3 W 0 0 #[.ref a, .int j] (fun v h' bk' => v = some (.int (cs.getD i 0)) ∧ h = h' ∧ NoB = bk') := by
  rcases S with S | S
  · exact pay_ch hX O S i hi hj (Nat.le_trans (by decide) hf) (Nat.le_trans (by omega) hl)
  · subst hj
    exact Pays.of_met (rm_chU l Z a0 G1 G3 hX hU n0 h O a t kb cs i S hi []) (hX.1 _ (List.mem_of_getElem? (i := 92) rfl)) (hX.1 _ (List.mem_of_getElem? (i := 13) rfl)) (Nat.le_trans (by decide) hf) (Nat.le_trans (by show W + (2 + 11) + 53 ≤ W + 66; omega) hl)
def Q_rnn (Z : State) (G1 : Int32) (G3 : Value) (o : Addr) (q : Addr) (h0 : Heap) (n0 : Nat) (bk : Addr → Prop) (v : Option Value) (h : Heap) (bk' : Addr → Prop) : Prop := v = some (.ref o) ∧ h0 = h ∧ NoB = bk'
theorem d_jdk_31_m_11_0 : decode jdk_31_method_11_code 0 = .ok (.aload_n 0, 1) := by decide +kernel
theorem d_jdk_31_m_11_1 : decode jdk_31_method_11_code 1 = .ok (.ifnonnull 12, 3) := by decide +kernel
theorem d_jdk_31_m_11_13 : decode jdk_31_method_11_code 13 = .ok (.aload_n 0, 1) := by decide +kernel
theorem d_jdk_31_m_11_14 : decode jdk_31_method_11_code 14 = .ok (.areturn, 1) := by decide +kernel
abbrev RM_rnn : Room := { frames := 0, cells := 0, slots := 0, locals := 0 }
theorem ef_rnn (m : MethodId) (x0 : Addr) (x1 : Addr) : entryFrame m #[(.ref x0), (.ref x1)] 2 = mkF m 0 #[.val (.ref x0), .val (.ref x1)] [] := by first | (simp [entryFrame, mkF, argsToLocals, Value.category]; done) | rfl
set_option maxRecDepth 65536 in
set_option maxHeartbeats 40000000 in
theorem rm_rnn (l : Launch) (Z : State) (a0 : Array Value) (G1 : Int32) (G3 : Value) (hX : Ctx Z a0 G1 G3) (hU : Wide Z) (n0 : Nat) (h0 : Heap) (O0 : Old Z n0 h0) (o : Addr) (q : Addr)  (ws : List Jvm.Cond) : Met l Z EL1 n0 NoB (⟨"java/util/Objects", "requireNonNull", "(Ljava/lang/Object;Ljava/lang/String;)Ljava/lang/Object;"⟩ : MethodName) jdk_31_method_11_code 2 (Option.some (FieldType.object "java/lang/Object")) RM_rnn #[(.ref o), (.ref q)] h0 (Q_rnn Z G1 G3 o q h0 n0 NoB) ws := by
  have hX' := hX
  obtain ⟨hw, hE, S1, P1, S3, P3⟩ := hX'
  have hU' := hU
  obtain ⟨u1, u2, u3⟩ := hU'
  have hSA := sa_of hw
  have wT : ∀ (i : Nat) {d : Jvm.Cond}, tables_1[i]? = some d → d.before a0 Z = true := fun i d h => hw d (List.mem_of_getElem? h)
  have z0 : n0 ≤ h0.size := by rw [← O0.1]; exact O0.2.1
  refine Met.of (by decide +kernel) O0 hE ?_
  intro p e s m below meth c hx hby hml hret hlk hnm
  refine k_cast (ef_rnn m o q) ?_
  show Run p l e _ s m _ below meth c Z EL1 _ n0 NoB h0 0 0 (mkF m 0 #[.val (.ref o), .val (.ref q)] []) _
  refine k_pure (g' := (mkF m 1 #[.val (.ref o), .val (.ref q)] [(.ref o)])) (fun TT HH tt kk => XS.aloadN HH hx rfl (hb hby d_jdk_31_m_11_0) rfl rfl kk) ?_
  refine k_pure (g' := (mkF m 13 #[.val (.ref o), .val (.ref q)] [])) (fun TT HH tt kk => XS.ifnonnullYes HH hx rfl (pc0 := 1) (pc' := 13) rfl (hb hby d_jdk_31_m_11_1) rfl (by decide) (by decide) kk) ?_
  refine k_pure (g' := (mkF m 14 #[.val (.ref o), .val (.ref q)] [(.ref o)])) (fun TT HH tt kk => XS.aloadN HH hx rfl (hb hby d_jdk_31_m_11_13) rfl rfl kk) ?_
  exact k_retA hx hlk hret rfl rfl rfl (hb hby d_jdk_31_m_11_14) (by decide) (by decide) ⟨rfl, rfl, rfl⟩
def Q_isu0 (Z : State) (G1 : Int32) (G3 : Value) (c1 : Int32) (h0 : Heap) (n0 : Nat) (bk : Addr → Prop) (v : Option Value) (h : Heap) (bk' : Addr → Prop) : Prop := v = some (.int (0 : Int32)) ∧ h0 = h ∧ NoB = bk'
theorem d_jdk_89_m_16_0 : decode jdk_89_method_16_code 0 = .ok (.iload_n 0, 1) := by decide +kernel
theorem d_jdk_89_m_16_1 : decode jdk_89_method_16_code 1 = .ok (.ldc 75, 2) := by decide +kernel
theorem d_jdk_89_m_16_3 : decode jdk_89_method_16_code 3 = .ok (.if_icmp .lt 13, 3) := by decide +kernel
theorem d_jdk_89_m_16_16 : decode jdk_89_method_16_code 16 = .ok (.iconst 0, 1) := by decide +kernel
theorem d_jdk_89_m_16_17 : decode jdk_89_method_16_code 17 = .ok (.ireturn, 1) := by decide +kernel
theorem d_jdk_89_m_16_6 : decode jdk_89_method_16_code 6 = .ok (.iload_n 0, 1) := by decide +kernel
theorem d_jdk_89_m_16_7 : decode jdk_89_method_16_code 7 = .ok (.ldc 77, 2) := by decide +kernel
theorem d_jdk_89_m_16_9 : decode jdk_89_method_16_code 9 = .ok (.if_icmp .ge 7, 3) := by decide +kernel
abbrev RM_isu0 : Room := { frames := 0, cells := 0, slots := 0, locals := 0 }
theorem ef_isu0 (m : MethodId) (x0 : Int32) : entryFrame m #[(.int x0)] 1 = mkF m 0 #[.val (.int x0)] [] := by first | (simp [entryFrame, mkF, argsToLocals, Value.category]; done) | rfl
set_option maxRecDepth 65536 in
set_option maxHeartbeats 40000000 in
theorem rm_isu0 (l : Launch) (Z : State) (a0 : Array Value) (G1 : Int32) (G3 : Value) (hX : Ctx Z a0 G1 G3) (hU : Wide Z) (n0 : Nat) (h0 : Heap) (O0 : Old Z n0 h0) (c1 : Int32) (hc : c1.toInt < 55296 ∨ 57344 ≤ c1.toInt) (ws : List Jvm.Cond) : Met l Z EL1 n0 NoB (⟨"java/lang/Character", "isSurrogate", "(C)Z"⟩ : MethodName) jdk_89_method_16_code 1 (Option.some FieldType.boolean) RM_isu0 #[(.int c1)] h0 (Q_isu0 Z G1 G3 c1 h0 n0 NoB) ws := by
  have hX' := hX
  obtain ⟨hw, hE, S1, P1, S3, P3⟩ := hX'
  have hU' := hU
  obtain ⟨u1, u2, u3⟩ := hU'
  have hSA := sa_of hw
  have wT : ∀ (i : Nat) {d : Jvm.Cond}, tables_1[i]? = some d → d.before a0 Z = true := fun i d h => hw d (List.mem_of_getElem? h)
  have z0 : n0 ≤ h0.size := by rw [← O0.1]; exact O0.2.1
  refine Met.of (by decide +kernel) O0 hE ?_
  intro p e s m below meth c hx hby hml hret hlk hnm
  refine k_cast (ef_isu0 m c1) ?_
  show Run p l e _ s m _ below meth c Z EL1 _ n0 NoB h0 0 0 (mkF m 0 #[.val (.int c1)] []) _
  refine k_pure (g' := (mkF m 1 #[.val (.int c1)] [(.int c1)])) (fun TT HH tt kk => XS.iloadN HH hx rfl (hb hby d_jdk_89_m_16_0) rfl kk) ?_
  refine k_ldcI hx (wT 119 rfl) rfl (hb hby d_jdk_89_m_16_1) ?_
  show Run p l e _ s m _ below meth c Z EL1 _ n0 NoB h0 0 0 (mkF m 3 #[.val (.int c1)] [(.int (55296 : Int32)), (.int c1)]) _
  by_cases c_1 : c1 < (55296 : Int32)
  · refine k_pure (g' := (mkF m 16 #[.val (.int c1)] [])) (fun TT HH tt kk => XS.icmpYes HH hx rfl (pc0 := 3) (pc' := 16) rfl (hb hby d_jdk_89_m_16_3) rfl (tlt c_1).1 (by decide) (by decide) kk) ?_
    refine k_pure (g' := (mkF m 17 #[.val (.int c1)] [(.int (0 : Int32))])) (fun TT HH tt kk => XS.iconst HH hx rfl (hb hby d_jdk_89_m_16_16) kk) ?_
    exact k_retN hx hlk hret (by simp) (hb hby d_jdk_89_m_16_17) (by decide) (by decide) ⟨rfl, rfl, rfl⟩
  · refine k_pure (g' := (mkF m 6 #[.val (.int c1)] [])) (fun TT HH tt kk => XS.icmpNo HH hx rfl (hb hby d_jdk_89_m_16_3) rfl (flt c_1).1 kk) ?_
    refine k_pure (g' := (mkF m 7 #[.val (.int c1)] [(.int c1)])) (fun TT HH tt kk => XS.iloadN HH hx rfl (hb hby d_jdk_89_m_16_6) rfl kk) ?_
    refine k_ldcI hx (wT 139 rfl) rfl (hb hby d_jdk_89_m_16_7) ?_
    show Run p l e _ s m _ below meth c Z EL1 _ n0 NoB h0 0 0 (mkF m 9 #[.val (.int c1)] [(.int (57344 : Int32)), (.int c1)]) _
    by_cases c_2 : c1 < (57344 : Int32)
    · refine k_pure (g' := (mkF m 12 #[.val (.int c1)] [])) (fun TT HH tt kk => XS.icmpNo HH hx rfl (hb hby d_jdk_89_m_16_9) rfl (tlt c_2).2.1 kk) ?_
      exact absurd hc (by have r0 := rng32 c1; have r1 : (55296 : Int32).toInt = 55296 := (by decide); have r2 : (57344 : Int32).toInt = 57344 := (by decide); have r3 : ¬ (c1).toInt < ((55296 : Int32)).toInt := fun q => c_1 (Int32.lt_iff_toInt_lt.mpr q); have r4 := (Int32.lt_iff_toInt_lt.mp c_2); omega)
    · refine k_pure (g' := (mkF m 16 #[.val (.int c1)] [])) (fun TT HH tt kk => XS.icmpYes HH hx rfl (pc0 := 9) (pc' := 16) rfl (hb hby d_jdk_89_m_16_9) rfl (flt c_2).2.1 (by decide) (by decide) kk) ?_
      refine k_pure (g' := (mkF m 17 #[.val (.int c1)] [(.int (0 : Int32))])) (fun TT HH tt kk => XS.iconst HH hx rfl (hb hby d_jdk_89_m_16_16) kk) ?_
      exact k_retN hx hlk hret (by simp) (hb hby d_jdk_89_m_16_17) (by decide) (by decide) ⟨rfl, rfl, rfl⟩
def Q_isu1 (Z : State) (G1 : Int32) (G3 : Value) (c1 : Int32) (h0 : Heap) (n0 : Nat) (bk : Addr → Prop) (v : Option Value) (h : Heap) (bk' : Addr → Prop) : Prop := v = some (.int (1 : Int32)) ∧ h0 = h ∧ NoB = bk'
theorem d_jdk_89_m_16_12 : decode jdk_89_method_16_code 12 = .ok (.iconst 1, 1) := by decide +kernel
theorem d_jdk_89_m_16_13 : decode jdk_89_method_16_code 13 = .ok (.goto 4, 3) := by decide +kernel
abbrev RM_isu1 : Room := { frames := 0, cells := 0, slots := 0, locals := 0 }
theorem ef_isu1 (m : MethodId) (x0 : Int32) : entryFrame m #[(.int x0)] 1 = mkF m 0 #[.val (.int x0)] [] := by first | (simp [entryFrame, mkF, argsToLocals, Value.category]; done) | rfl
set_option maxRecDepth 65536 in
set_option maxHeartbeats 40000000 in
theorem rm_isu1 (l : Launch) (Z : State) (a0 : Array Value) (G1 : Int32) (G3 : Value) (hX : Ctx Z a0 G1 G3) (hU : Wide Z) (n0 : Nat) (h0 : Heap) (O0 : Old Z n0 h0) (c1 : Int32) (hc : 55296 ≤ c1.toInt ∧ c1.toInt < 57344) (ws : List Jvm.Cond) : Met l Z EL1 n0 NoB (⟨"java/lang/Character", "isSurrogate", "(C)Z"⟩ : MethodName) jdk_89_method_16_code 1 (Option.some FieldType.boolean) RM_isu1 #[(.int c1)] h0 (Q_isu1 Z G1 G3 c1 h0 n0 NoB) ws := by
  have hX' := hX
  obtain ⟨hw, hE, S1, P1, S3, P3⟩ := hX'
  have hU' := hU
  obtain ⟨u1, u2, u3⟩ := hU'
  have hSA := sa_of hw
  have wT : ∀ (i : Nat) {d : Jvm.Cond}, tables_1[i]? = some d → d.before a0 Z = true := fun i d h => hw d (List.mem_of_getElem? h)
  have z0 : n0 ≤ h0.size := by rw [← O0.1]; exact O0.2.1
  refine Met.of (by decide +kernel) O0 hE ?_
  intro p e s m below meth c hx hby hml hret hlk hnm
  refine k_cast (ef_isu1 m c1) ?_
  show Run p l e _ s m _ below meth c Z EL1 _ n0 NoB h0 0 0 (mkF m 0 #[.val (.int c1)] []) _
  refine k_pure (g' := (mkF m 1 #[.val (.int c1)] [(.int c1)])) (fun TT HH tt kk => XS.iloadN HH hx rfl (hb hby d_jdk_89_m_16_0) rfl kk) ?_
  refine k_ldcI hx (wT 119 rfl) rfl (hb hby d_jdk_89_m_16_1) ?_
  show Run p l e _ s m _ below meth c Z EL1 _ n0 NoB h0 0 0 (mkF m 3 #[.val (.int c1)] [(.int (55296 : Int32)), (.int c1)]) _
  refine k_pure (g' := (mkF m 6 #[.val (.int c1)] [])) (fun TT HH tt kk => XS.icmpNo HH hx rfl (hb hby d_jdk_89_m_16_3) rfl (flt (by have r0 := rng32 c1; have r1 : (55296 : Int32).toInt = 55296 := (by decide); have r2 := hc; rw [Int32.lt_iff_toInt_lt]; omega)).1 kk) ?_
  refine k_pure (g' := (mkF m 7 #[.val (.int c1)] [(.int c1)])) (fun TT HH tt kk => XS.iloadN HH hx rfl (hb hby d_jdk_89_m_16_6) rfl kk) ?_
  refine k_ldcI hx (wT 139 rfl) rfl (hb hby d_jdk_89_m_16_7) ?_
  show Run p l e _ s m _ below meth c Z EL1 _ n0 NoB h0 0 0 (mkF m 9 #[.val (.int c1)] [(.int (57344 : Int32)), (.int c1)]) _
  refine k_pure (g' := (mkF m 12 #[.val (.int c1)] [])) (fun TT HH tt kk => XS.icmpNo HH hx rfl (hb hby d_jdk_89_m_16_9) rfl (tlt (by have r0 := rng32 c1; have r1 : (57344 : Int32).toInt = 57344 := (by decide); have r2 := hc; rw [Int32.lt_iff_toInt_lt]; omega)).2.1 kk) ?_
  refine k_pure (g' := (mkF m 13 #[.val (.int c1)] [(.int (1 : Int32))])) (fun TT HH tt kk => XS.iconst HH hx rfl (hb hby d_jdk_89_m_16_12) kk) ?_
  refine k_pure (g' := (mkF m 17 #[.val (.int c1)] [(.int (1 : Int32))])) (fun TT HH tt kk => XS.goto HH hx rfl (pc0 := 13) (pc' := 17) rfl (hb hby d_jdk_89_m_16_13) (by decide) (by decide) kk) ?_
  exact k_retN hx hlk hret (by simp) (hb hby d_jdk_89_m_16_17) (by decide) (by decide) ⟨rfl, rfl, rfl⟩
def Q_ihs (Z : State) (G1 : Int32) (G3 : Value) (c1 : Int32) (h0 : Heap) (n0 : Nat) (bk : Addr → Prop) (v : Option Value) (h : Heap) (bk' : Addr → Prop) : Prop := v = some (.int (1 : Int32)) ∧ h0 = h ∧ NoB = bk'
theorem d_jdk_89_m_14_0 : decode jdk_89_method_14_code 0 = .ok (.iload_n 0, 1) := by decide +kernel
theorem d_jdk_89_m_14_1 : decode jdk_89_method_14_code 1 = .ok (.ldc 75, 2) := by decide +kernel
theorem d_jdk_89_m_14_3 : decode jdk_89_method_14_code 3 = .ok (.if_icmp .lt 13, 3) := by decide +kernel
theorem d_jdk_89_m_14_6 : decode jdk_89_method_14_code 6 = .ok (.iload_n 0, 1) := by decide +kernel
theorem d_jdk_89_m_14_7 : decode jdk_89_method_14_code 7 = .ok (.ldc 76, 2) := by decide +kernel
theorem d_jdk_89_m_14_9 : decode jdk_89_method_14_code 9 = .ok (.if_icmp .ge 7, 3) := by decide +kernel
theorem d_jdk_89_m_14_12 : decode jdk_89_method_14_code 12 = .ok (.iconst 1, 1) := by decide +kernel
theorem d_jdk_89_m_14_13 : decode jdk_89_method_14_code 13 = .ok (.goto 4, 3) := by decide +kernel
theorem d_jdk_89_m_14_17 : decode jdk_89_method_14_code 17 = .ok (.ireturn, 1) := by decide +kernel
abbrev RM_ihs : Room := { frames := 0, cells := 0, slots := 0, locals := 0 }
theorem ef_ihs (m : MethodId) (x0 : Int32) : entryFrame m #[(.int x0)] 1 = mkF m 0 #[.val (.int x0)] [] := by first | (simp [entryFrame, mkF, argsToLocals, Value.category]; done) | rfl
set_option maxRecDepth 65536 in
set_option maxHeartbeats 40000000 in
theorem rm_ihs (l : Launch) (Z : State) (a0 : Array Value) (G1 : Int32) (G3 : Value) (hX : Ctx Z a0 G1 G3) (hU : Wide Z) (n0 : Nat) (h0 : Heap) (O0 : Old Z n0 h0) (c1 : Int32) (hc : 55296 ≤ c1.toInt ∧ c1.toInt < 56320) (ws : List Jvm.Cond) : Met l Z EL1 n0 NoB (⟨"java/lang/Character", "isHighSurrogate", "(C)Z"⟩ : MethodName) jdk_89_method_14_code 1 (Option.some FieldType.boolean) RM_ihs #[(.int c1)] h0 (Q_ihs Z G1 G3 c1 h0 n0 NoB) ws := by
  have hX' := hX
  obtain ⟨hw, hE, S1, P1, S3, P3⟩ := hX'
  have hU' := hU
  obtain ⟨u1, u2, u3⟩ := hU'
  have hSA := sa_of hw
  have wT : ∀ (i : Nat) {d : Jvm.Cond}, tables_1[i]? = some d → d.before a0 Z = true := fun i d h => hw d (List.mem_of_getElem? h)
  have z0 : n0 ≤ h0.size := by rw [← O0.1]; exact O0.2.1
  refine Met.of (by decide +kernel) O0 hE ?_
  intro p e s m below meth c hx hby hml hret hlk hnm
  refine k_cast (ef_ihs m c1) ?_
  show Run p l e _ s m _ below meth c Z EL1 _ n0 NoB h0 0 0 (mkF m 0 #[.val (.int c1)] []) _
  refine k_pure (g' := (mkF m 1 #[.val (.int c1)] [(.int c1)])) (fun TT HH tt kk => XS.iloadN HH hx rfl (hb hby d_jdk_89_m_14_0) rfl kk) ?_
  refine k_ldcI hx (wT 119 rfl) rfl (hb hby d_jdk_89_m_14_1) ?_
  show Run p l e _ s m _ below meth c Z EL1 _ n0 NoB h0 0 0 (mkF m 3 #[.val (.int c1)] [(.int (55296 : Int32)), (.int c1)]) _
  refine k_pure (g' := (mkF m 6 #[.val (.int c1)] [])) (fun TT HH tt kk => XS.icmpNo HH hx rfl (hb hby d_jdk_89_m_14_3) rfl (flt (by have r0 := rng32 c1; have r1 : (55296 : Int32).toInt = 55296 := (by decide); have r2 := hc; rw [Int32.lt_iff_toInt_lt]; omega)).1 kk) ?_
  refine k_pure (g' := (mkF m 7 #[.val (.int c1)] [(.int c1)])) (fun TT HH tt kk => XS.iloadN HH hx rfl (hb hby d_jdk_89_m_14_6) rfl kk) ?_
  refine k_ldcI hx (wT 143 rfl) rfl (hb hby d_jdk_89_m_14_7) ?_
  show Run p l e _ s m _ below meth c Z EL1 _ n0 NoB h0 0 0 (mkF m 9 #[.val (.int c1)] [(.int (56320 : Int32)), (.int c1)]) _
  refine k_pure (g' := (mkF m 12 #[.val (.int c1)] [])) (fun TT HH tt kk => XS.icmpNo HH hx rfl (hb hby d_jdk_89_m_14_9) rfl (tlt (by have r0 := rng32 c1; have r1 : (56320 : Int32).toInt = 56320 := (by decide); have r2 := hc; rw [Int32.lt_iff_toInt_lt]; omega)).2.1 kk) ?_
  refine k_pure (g' := (mkF m 13 #[.val (.int c1)] [(.int (1 : Int32))])) (fun TT HH tt kk => XS.iconst HH hx rfl (hb hby d_jdk_89_m_14_12) kk) ?_
  refine k_pure (g' := (mkF m 17 #[.val (.int c1)] [(.int (1 : Int32))])) (fun TT HH tt kk => XS.goto HH hx rfl (pc0 := 13) (pc' := 17) rfl (hb hby d_jdk_89_m_14_13) (by decide) (by decide) kk) ?_
  exact k_retN hx hlk hret (by simp) (hb hby d_jdk_89_m_14_17) (by decide) (by decide) ⟨rfl, rfl, rfl⟩
def Q_ils (Z : State) (G1 : Int32) (G3 : Value) (c1 : Int32) (h0 : Heap) (n0 : Nat) (bk : Addr → Prop) (v : Option Value) (h : Heap) (bk' : Addr → Prop) : Prop := v = some (.int (1 : Int32)) ∧ h0 = h ∧ NoB = bk'
theorem d_jdk_89_m_15_0 : decode jdk_89_method_15_code 0 = .ok (.iload_n 0, 1) := by decide +kernel
theorem d_jdk_89_m_15_1 : decode jdk_89_method_15_code 1 = .ok (.ldc 76, 2) := by decide +kernel
theorem d_jdk_89_m_15_3 : decode jdk_89_method_15_code 3 = .ok (.if_icmp .lt 13, 3) := by decide +kernel
theorem d_jdk_89_m_15_6 : decode jdk_89_method_15_code 6 = .ok (.iload_n 0, 1) := by decide +kernel
theorem d_jdk_89_m_15_7 : decode jdk_89_method_15_code 7 = .ok (.ldc 77, 2) := by decide +kernel
theorem d_jdk_89_m_15_9 : decode jdk_89_method_15_code 9 = .ok (.if_icmp .ge 7, 3) := by decide +kernel
theorem d_jdk_89_m_15_12 : decode jdk_89_method_15_code 12 = .ok (.iconst 1, 1) := by decide +kernel
theorem d_jdk_89_m_15_13 : decode jdk_89_method_15_code 13 = .ok (.goto 4, 3) := by decide +kernel
theorem d_jdk_89_m_15_17 : decode jdk_89_method_15_code 17 = .ok (.ireturn, 1) := by decide +kernel
abbrev RM_ils : Room := { frames := 0, cells := 0, slots := 0, locals := 0 }
theorem ef_ils (m : MethodId) (x0 : Int32) : entryFrame m #[(.int x0)] 1 = mkF m 0 #[.val (.int x0)] [] := by first | (simp [entryFrame, mkF, argsToLocals, Value.category]; done) | rfl
set_option maxRecDepth 65536 in
set_option maxHeartbeats 40000000 in
theorem rm_ils (l : Launch) (Z : State) (a0 : Array Value) (G1 : Int32) (G3 : Value) (hX : Ctx Z a0 G1 G3) (hU : Wide Z) (n0 : Nat) (h0 : Heap) (O0 : Old Z n0 h0) (c1 : Int32) (hc : 56320 ≤ c1.toInt ∧ c1.toInt < 57344) (ws : List Jvm.Cond) : Met l Z EL1 n0 NoB (⟨"java/lang/Character", "isLowSurrogate", "(C)Z"⟩ : MethodName) jdk_89_method_15_code 1 (Option.some FieldType.boolean) RM_ils #[(.int c1)] h0 (Q_ils Z G1 G3 c1 h0 n0 NoB) ws := by
  have hX' := hX
  obtain ⟨hw, hE, S1, P1, S3, P3⟩ := hX'
  have hU' := hU
  obtain ⟨u1, u2, u3⟩ := hU'
  have hSA := sa_of hw
  have wT : ∀ (i : Nat) {d : Jvm.Cond}, tables_1[i]? = some d → d.before a0 Z = true := fun i d h => hw d (List.mem_of_getElem? h)
  have z0 : n0 ≤ h0.size := by rw [← O0.1]; exact O0.2.1
  refine Met.of (by decide +kernel) O0 hE ?_
  intro p e s m below meth c hx hby hml hret hlk hnm
  refine k_cast (ef_ils m c1) ?_
  show Run p l e _ s m _ below meth c Z EL1 _ n0 NoB h0 0 0 (mkF m 0 #[.val (.int c1)] []) _
  refine k_pure (g' := (mkF m 1 #[.val (.int c1)] [(.int c1)])) (fun TT HH tt kk => XS.iloadN HH hx rfl (hb hby d_jdk_89_m_15_0) rfl kk) ?_
  refine k_ldcI hx (wT 143 rfl) rfl (hb hby d_jdk_89_m_15_1) ?_
  show Run p l e _ s m _ below meth c Z EL1 _ n0 NoB h0 0 0 (mkF m 3 #[.val (.int c1)] [(.int (56320 : Int32)), (.int c1)]) _
  refine k_pure (g' := (mkF m 6 #[.val (.int c1)] [])) (fun TT HH tt kk => XS.icmpNo HH hx rfl (hb hby d_jdk_89_m_15_3) rfl (flt (by have r0 := rng32 c1; have r1 : (56320 : Int32).toInt = 56320 := (by decide); have r2 := hc; rw [Int32.lt_iff_toInt_lt]; omega)).1 kk) ?_
  refine k_pure (g' := (mkF m 7 #[.val (.int c1)] [(.int c1)])) (fun TT HH tt kk => XS.iloadN HH hx rfl (hb hby d_jdk_89_m_15_6) rfl kk) ?_
  refine k_ldcI hx (wT 139 rfl) rfl (hb hby d_jdk_89_m_15_7) ?_
  show Run p l e _ s m _ below meth c Z EL1 _ n0 NoB h0 0 0 (mkF m 9 #[.val (.int c1)] [(.int (57344 : Int32)), (.int c1)]) _
  refine k_pure (g' := (mkF m 12 #[.val (.int c1)] [])) (fun TT HH tt kk => XS.icmpNo HH hx rfl (hb hby d_jdk_89_m_15_9) rfl (tlt (by have r0 := rng32 c1; have r1 : (57344 : Int32).toInt = 57344 := (by decide); have r2 := hc; rw [Int32.lt_iff_toInt_lt]; omega)).2.1 kk) ?_
  refine k_pure (g' := (mkF m 13 #[.val (.int c1)] [(.int (1 : Int32))])) (fun TT HH tt kk => XS.iconst HH hx rfl (hb hby d_jdk_89_m_15_12) kk) ?_
  refine k_pure (g' := (mkF m 17 #[.val (.int c1)] [(.int (1 : Int32))])) (fun TT HH tt kk => XS.goto HH hx rfl (pc0 := 13) (pc' := 17) rfl (hb hby d_jdk_89_m_15_13) (by decide) (by decide) kk) ?_
  exact k_retN hx hlk hret (by simp) (hb hby d_jdk_89_m_15_17) (by decide) (by decide) ⟨rfl, rfl, rfl⟩
def Q_u8 (Z : State) (G1 : Int32) (G3 : Value) (a : Addr) (t : Addr) (kb : ClassId) (cs : List Int32) (q : Addr) (N : Nat) (f0 : Nat) (h0 : Heap) (n0 : Nat) (bk : Addr → Prop) (v : Option Value) (h : Heap) (bk' : Addr → Prop) : Prop := v = some (.int (Int32.ofNat N)) ∧ h0 = h ∧ NoB = bk'
theorem d_prog_4_m_9_0 : decode prog_4_method_9_code 0 = .ok (.iconst 0, 1) := by decide +kernel
theorem d_prog_4_m_9_1 : decode prog_4_method_9_code 1 = .ok (.istore_n 2, 1) := by decide +kernel
theorem d_prog_4_m_9_2 : decode prog_4_method_9_code 2 = .ok (.iconst 0, 1) := by decide +kernel
theorem d_prog_4_m_9_3 : decode prog_4_method_9_code 3 = .ok (.istore_n 3, 1) := by decide +kernel
theorem d_prog_4_m_9_4 : decode prog_4_method_9_code 4 = .ok (.iload_n 3, 1) := by decide +kernel
theorem d_prog_4_m_9_5 : decode prog_4_method_9_code 5 = .ok (.aload_n 0, 1) := by decide +kernel
theorem d_prog_4_m_9_6 : decode prog_4_method_9_code 6 = .ok (.invokevirtual 81, 3) := by decide +kernel
theorem pd__28__29_I : parseMethodDescriptor "()I" = some ⟨[], some .int⟩ := by decide +kernel
theorem d_prog_4_m_9_9 : decode prog_4_method_9_code 9 = .ok (.if_icmp .ge 113, 3) := by decide +kernel
theorem d_prog_4_m_9_122 : decode prog_4_method_9_code 122 = .ok (.iload_n 2, 1) := by decide +kernel
theorem d_prog_4_m_9_123 : decode prog_4_method_9_code 123 = .ok (.ireturn, 1) := by decide +kernel
theorem d_prog_4_m_9_12 : decode prog_4_method_9_code 12 = .ok (.aload_n 0, 1) := by decide +kernel
theorem d_prog_4_m_9_13 : decode prog_4_method_9_code 13 = .ok (.iload_n 3, 1) := by decide +kernel
theorem d_prog_4_m_9_14 : decode prog_4_method_9_code 14 = .ok (.invokevirtual 85, 3) := by decide +kernel
theorem pd__28_I_29_C : parseMethodDescriptor "(I)C" = some ⟨[.int], some .char⟩ := by decide +kernel
theorem d_prog_4_m_9_17 : decode prog_4_method_9_code 17 = .ok (.istore 4, 2) := by decide +kernel
theorem d_prog_4_m_9_19 : decode prog_4_method_9_code 19 = .ok (.iload 4, 2) := by decide +kernel
theorem d_prog_4_m_9_21 : decode prog_4_method_9_code 21 = .ok (.sipush 128, 3) := by decide +kernel
theorem d_prog_4_m_9_24 : decode prog_4_method_9_code 24 = .ok (.if_icmp .ge 9, 3) := by decide +kernel
theorem d_prog_4_m_9_27 : decode prog_4_method_9_code 27 = .ok (.iinc 2 1, 3) := by decide +kernel
theorem d_prog_4_m_9_30 : decode prog_4_method_9_code 30 = .ok (.goto 86, 3) := by decide +kernel
theorem d_prog_4_m_9_116 : decode prog_4_method_9_code 116 = .ok (.iinc 3 1, 3) := by decide +kernel
theorem d_prog_4_m_9_119 : decode prog_4_method_9_code 119 = .ok (.goto (-115), 3) := by decide +kernel
theorem d_prog_4_m_9_33 : decode prog_4_method_9_code 33 = .ok (.iload 4, 2) := by decide +kernel
theorem d_prog_4_m_9_35 : decode prog_4_method_9_code 35 = .ok (.sipush 2048, 3) := by decide +kernel
theorem d_prog_4_m_9_38 : decode prog_4_method_9_code 38 = .ok (.if_icmp .ge 9, 3) := by decide +kernel
theorem d_prog_4_m_9_41 : decode prog_4_method_9_code 41 = .ok (.iinc 2 2, 3) := by decide +kernel
theorem d_prog_4_m_9_44 : decode prog_4_method_9_code 44 = .ok (.goto 72, 3) := by decide +kernel
theorem d_prog_4_m_9_47 : decode prog_4_method_9_code 47 = .ok (.iload 4, 2) := by decide +kernel
theorem d_prog_4_m_9_49 : decode prog_4_method_9_code 49 = .ok (.invokestatic 89, 3) := by decide +kernel
theorem pd__28_C_29_Z : parseMethodDescriptor "(C)Z" = some ⟨[.char], some .boolean⟩ := by decide +kernel
theorem d_prog_4_m_9_52 : decode prog_4_method_9_code 52 = .ok (.ifCond .ne 9, 3) := by decide +kernel
theorem d_prog_4_m_9_55 : decode prog_4_method_9_code 55 = .ok (.iinc 2 3, 3) := by decide +kernel
theorem d_prog_4_m_9_58 : decode prog_4_method_9_code 58 = .ok (.goto 58, 3) := by decide +kernel
theorem d_prog_4_m_9_61 : decode prog_4_method_9_code 61 = .ok (.iload 4, 2) := by decide +kernel
theorem d_prog_4_m_9_63 : decode prog_4_method_9_code 63 = .ok (.invokestatic 95, 3) := by decide +kernel
theorem d_prog_4_m_9_66 : decode prog_4_method_9_code 66 = .ok (.ifCond .eq 35, 3) := by decide +kernel
theorem d_prog_4_m_9_69 : decode prog_4_method_9_code 69 = .ok (.iload_n 3, 1) := by decide +kernel
theorem d_prog_4_m_9_70 : decode prog_4_method_9_code 70 = .ok (.iconst 1, 1) := by decide +kernel
theorem d_prog_4_m_9_71 : decode prog_4_method_9_code 71 = .ok (.iadd, 1) := by decide +kernel
theorem d_prog_4_m_9_72 : decode prog_4_method_9_code 72 = .ok (.aload_n 0, 1) := by decide +kernel
theorem d_prog_4_m_9_73 : decode prog_4_method_9_code 73 = .ok (.invokevirtual 81, 3) := by decide +kernel
theorem d_prog_4_m_9_76 : decode prog_4_method_9_code 76 = .ok (.if_icmp .ge 25, 3) := by decide +kernel
theorem d_prog_4_m_9_79 : decode prog_4_method_9_code 79 = .ok (.aload_n 0, 1) := by decide +kernel
theorem d_prog_4_m_9_80 : decode prog_4_method_9_code 80 = .ok (.iload_n 3, 1) := by decide +kernel
theorem d_prog_4_m_9_81 : decode prog_4_method_9_code 81 = .ok (.iconst 1, 1) := by decide +kernel
theorem d_prog_4_m_9_82 : decode prog_4_method_9_code 82 = .ok (.iadd, 1) := by decide +kernel
theorem d_prog_4_m_9_83 : decode prog_4_method_9_code 83 = .ok (.invokevirtual 85, 3) := by decide +kernel
theorem d_prog_4_m_9_86 : decode prog_4_method_9_code 86 = .ok (.invokestatic 98, 3) := by decide +kernel
theorem d_prog_4_m_9_89 : decode prog_4_method_9_code 89 = .ok (.ifCond .eq 12, 3) := by decide +kernel
theorem d_prog_4_m_9_92 : decode prog_4_method_9_code 92 = .ok (.iinc 2 4, 3) := by decide +kernel
theorem d_prog_4_m_9_95 : decode prog_4_method_9_code 95 = .ok (.iinc 3 1, 3) := by decide +kernel
theorem d_prog_4_m_9_98 : decode prog_4_method_9_code 98 = .ok (.goto 18, 3) := by decide +kernel
abbrev RM_u8 : Room := { frames := 5, cells := 0, slots := 0, locals := 66 }
theorem ef_u8 (m : MethodId) (x0 : Addr) (x1 : Addr) : entryFrame m #[(.ref x0), (.ref x1)] 5 = mkF m 0 #[.val (.ref x0), .val (.ref x1), .unset, .unset, .unset] [] := by first | (simp [entryFrame, mkF, argsToLocals, Value.category]; done) | rfl
set_option maxRecDepth 65536 in
set_option maxHeartbeats 40000000 in
theorem rm_u8 (l : Launch) (Z : State) (a0 : Array Value) (G1 : Int32) (G3 : Value) (hX : Ctx Z a0 G1 G3) (hU : Wide Z) (n0 : Nat) (h0 : Heap) (O0 : Old Z n0 h0) (a : Addr) (t : Addr) (kb : ClassId) (cs : List Int32) (q : Addr) (N : Nat) (f0 : Nat) (pf_0 : StrX Z h0 a t kb cs) (ok : Ok8 f0 cs N) (hN : N ≤ 200) (l4 : cs.length ≤ 200) (ws : List Jvm.Cond) : Met l Z EL1 n0 NoB (⟨"com/example/eirene/eirene/KeySpace", "utf8Length", "(Ljava/lang/String;Ljava/lang/String;)I"⟩ : MethodName) prog_4_method_9_code 5 (Option.some FieldType.int) RM_u8 #[(.ref a), (.ref q)] h0 (Q_u8 Z G1 G3 a t kb cs q N f0 h0 n0 NoB) ws := by
  have hX' := hX
  obtain ⟨hw, hE, S1, P1, S3, P3⟩ := hX'
  have hU' := hU
  obtain ⟨u1, u2, u3⟩ := hU'
  have hSA := sa_of hw
  have wT : ∀ (i : Nat) {d : Jvm.Cond}, tables_1[i]? = some d → d.before a0 Z = true := fun i d h => hw d (List.mem_of_getElem? h)
  have z0 : n0 ≤ h0.size := by rw [← O0.1]; exact O0.2.1
  refine Met.of (by decide +kernel) O0 hE ?_
  intro p e s m below meth c hx hby hml hret hlk hnm
  refine k_cast (ef_u8 m a q) ?_
  show Run p l e _ s m _ below meth c Z EL1 _ n0 NoB h0 0 0 (mkF m 0 #[.val (.ref a), .val (.ref q), .unset, .unset, .unset] []) _
  have lt_1 : @LT.lt Nat _ a (Array.size h0) := pf_0.lt1
  have lt_2 : @LT.lt Nat _ t (Array.size h0) := pf_0.lt2
  refine k_pure (g' := (mkF m 1 #[.val (.ref a), .val (.ref q), .unset, .unset, .unset] [(.int (0 : Int32))])) (fun TT HH tt kk => XS.iconst HH hx rfl (hb hby d_prog_4_m_9_0) kk) ?_
  refine k_pure (g' := (mkF m 2 #[.val (.ref a), .val (.ref q), .val (.int (0 : Int32)), .unset, .unset] [])) (fun TT HH tt kk => XS.istoreN HH hx rfl (hb hby d_prog_4_m_9_1) rfl (l' := #[.val (.ref a), .val (.ref q), .val (.int (0 : Int32)), .unset, .unset]) rfl kk) ?_
  refine k_pure (g' := (mkF m 3 #[.val (.ref a), .val (.ref q), .val (.int (0 : Int32)), .unset, .unset] [(.int (0 : Int32))])) (fun TT HH tt kk => XS.iconst HH hx rfl (hb hby d_prog_4_m_9_2) kk) ?_
  refine k_pure (g' := (mkF m 4 #[.val (.ref a), .val (.ref q), .val (.int (0 : Int32)), .val (.int (0 : Int32)), .unset] [])) (fun TT HH tt kk => XS.istoreN HH hx rfl (hb hby d_prog_4_m_9_3) rfl (l' := #[.val (.ref a), .val (.ref q), .val (.int (0 : Int32)), .val (.int (0 : Int32)), .unset]) rfl kk) ?_
  have loop : ∀ (k i r N1 : Nat) (sl : Slot), SlI sl → Ok8 k (cs.drop i) N1 → r + N1 = N → i ≤ cs.length → Run p l e RM_u8 s m #[(.ref a), (.ref q)] below meth c Z EL1 "com/example/eirene/eirene/KeySpace" n0 NoB h0 0 0 (mkF m 4 #[.val (.ref a), .val (.ref q), .val (.int (Int32.ofNat r)), .val (.int (Int32.ofNat i)), sl] []) (Q_u8 Z G1 G3 a t kb cs q N f0 h0 n0 NoB) := by
    intro k
    induction k with
    | zero =>
      intro i r N1 sl hsl hok hr hi
      obtain ⟨hd, rfl⟩ := hok
      have hd0 := drop_nil hd
      show Run p l e _ s m _ below meth c Z EL1 _ n0 NoB h0 0 0 (mkF m 4 #[.val (.ref a), .val (.ref q), .val (.int (Int32.ofNat r)), .val (.int (Int32.ofNat i)), sl] []) _
      refine k_pure (g' := (mkF m 5 #[.val (.ref a), .val (.ref q), .val (.int (Int32.ofNat r)), .val (.int (Int32.ofNat i)), sl] [(.int (Int32.ofNat i))])) (fun TT HH tt kk => XS.iloadN HH hx rfl (hb hby d_prog_4_m_9_4) rfl kk) ?_
      refine k_pure (g' := (mkF m 6 #[.val (.ref a), .val (.ref q), .val (.int (Int32.ofNat r)), .val (.int (Int32.ofNat i)), sl] [(.ref a), (.int (Int32.ofNat i))])) (fun TT HH tt kk => XS.aloadN HH hx rfl (hb hby d_prog_4_m_9_5) rfl rfl kk) ?_
      refine k_callV hx (y := (⟨"java/lang/String", "length", "()I"⟩ : MethodName)) (z := (⟨"java/lang/String", "length", "()I"⟩ : MethodName)) (wT 78 rfl) (wT 79 rfl) (fun s' hZ => notFace_of_selects (args := #[]) (mv hZ (wT 81 rfl))) (wT 81 rfl) (wT 80 rfl) (by decide) (W := 1) (a := a) (argsL := []) (rest := [(.int (Int32.ofNat i))]) (pay_lenX (W := 1) hX O0 pf_0 (by decide) (by decide)) pf_0.exa rfl (by rw [hml]; rfl) (lenOf pd__28__29_I rfl) rfl (by show 2 * 0 + _ ≤ _; exact Nat.le_of_eq rfl) (hb hby d_prog_4_m_9_6) (by decide) (by decide) ?_
      intro v_3 h_4 bk_5 O_6 z_7 Q_8
      obtain ⟨rfl, rfl, rfl⟩ := Q_8
      show Run p l e _ s m _ below meth c Z EL1 _ n0 NoB h0 0 0 (mkF m 9 #[.val (.ref a), .val (.ref q), .val (.int (Int32.ofNat r)), .val (.int (Int32.ofNat i)), sl] [(.int (Int32.ofNat (cs).length)), (.int (Int32.ofNat i))]) _
      refine k_pure (g' := (mkF m 122 #[.val (.ref a), .val (.ref q), .val (.int (Int32.ofNat r)), .val (.int (Int32.ofNat i)), sl] [])) (fun TT HH tt kk => XS.icmpYes HH hx rfl (pc0 := 9) (pc' := 122) rfl (hb hby d_prog_4_m_9_9) rfl (flt (not_lt_nat (by omega) (by omega))).2.1 (by decide) (by decide) kk) ?_
      refine k_pure (g' := (mkF m 123 #[.val (.ref a), .val (.ref q), .val (.int (Int32.ofNat r)), .val (.int (Int32.ofNat i)), sl] [(.int (Int32.ofNat r))])) (fun TT HH tt kk => XS.iloadN HH hx rfl (hb hby d_prog_4_m_9_122) rfl kk) ?_
      exact k_retI hx hlk hret (hb hby d_prog_4_m_9_123) (by decide) (by decide) ⟨(by rw [show r = N by omega]), rfl, rfl⟩
    | succ k ih =>
      intro i r N1 sl hsl hok hr hi
      rcases hok with ⟨hd, rfl⟩ | ⟨ch, tl, m1, hd, hc, rfl, ok1⟩ | ⟨ch, tl, m1, hd, hc, rfl, ok1⟩ | ⟨ch, tl, m1, hd, hc, rfl, ok1⟩ | ⟨ch, dh, tl, m1, hd, hc, hc2, rfl, ok1⟩
      · have hd0 := drop_nil hd
        show Run p l e _ s m _ below meth c Z EL1 _ n0 NoB h0 0 0 (mkF m 4 #[.val (.ref a), .val (.ref q), .val (.int (Int32.ofNat r)), .val (.int (Int32.ofNat i)), sl] []) _
        refine k_pure (g' := (mkF m 5 #[.val (.ref a), .val (.ref q), .val (.int (Int32.ofNat r)), .val (.int (Int32.ofNat i)), sl] [(.int (Int32.ofNat i))])) (fun TT HH tt kk => XS.iloadN HH hx rfl (hb hby d_prog_4_m_9_4) rfl kk) ?_
        refine k_pure (g' := (mkF m 6 #[.val (.ref a), .val (.ref q), .val (.int (Int32.ofNat r)), .val (.int (Int32.ofNat i)), sl] [(.ref a), (.int (Int32.ofNat i))])) (fun TT HH tt kk => XS.aloadN HH hx rfl (hb hby d_prog_4_m_9_5) rfl rfl kk) ?_
        refine k_callV hx (y := (⟨"java/lang/String", "length", "()I"⟩ : MethodName)) (z := (⟨"java/lang/String", "length", "()I"⟩ : MethodName)) (wT 78 rfl) (wT 79 rfl) (fun s' hZ => notFace_of_selects (args := #[]) (mv hZ (wT 81 rfl))) (wT 81 rfl) (wT 80 rfl) (by decide) (W := 1) (a := a) (argsL := []) (rest := [(.int (Int32.ofNat i))]) (pay_lenX (W := 1) hX O0 pf_0 (by decide) (by decide)) pf_0.exa rfl (by rw [hml]; rfl) (lenOf pd__28__29_I rfl) rfl (by show 2 * 0 + _ ≤ _; exact Nat.le_of_eq rfl) (hb hby d_prog_4_m_9_6) (by decide) (by decide) ?_
        intro v_9 h_10 bk_11 O_12 z_13 Q_14
        obtain ⟨rfl, rfl, rfl⟩ := Q_14
        show Run p l e _ s m _ below meth c Z EL1 _ n0 NoB h0 0 0 (mkF m 9 #[.val (.ref a), .val (.ref q), .val (.int (Int32.ofNat r)), .val (.int (Int32.ofNat i)), sl] [(.int (Int32.ofNat (cs).length)), (.int (Int32.ofNat i))]) _
        refine k_pure (g' := (mkF m 122 #[.val (.ref a), .val (.ref q), .val (.int (Int32.ofNat r)), .val (.int (Int32.ofNat i)), sl] [])) (fun TT HH tt kk => XS.icmpYes HH hx rfl (pc0 := 9) (pc' := 122) rfl (hb hby d_prog_4_m_9_9) rfl (flt (not_lt_nat (by omega) (by omega))).2.1 (by decide) (by decide) kk) ?_
        refine k_pure (g' := (mkF m 123 #[.val (.ref a), .val (.ref q), .val (.int (Int32.ofNat r)), .val (.int (Int32.ofNat i)), sl] [(.int (Int32.ofNat r))])) (fun TT HH tt kk => XS.iloadN HH hx rfl (hb hby d_prog_4_m_9_122) rfl kk) ?_
        exact k_retI hx hlk hret (hb hby d_prog_4_m_9_123) (by decide) (by decide) ⟨(by rw [show r = N by omega]), rfl, rfl⟩
      · obtain ⟨hi1, e1, hd1⟩ := drop_cons hd
        subst e1
        show Run p l e _ s m _ below meth c Z EL1 _ n0 NoB h0 0 0 (mkF m 4 #[.val (.ref a), .val (.ref q), .val (.int (Int32.ofNat r)), .val (.int (Int32.ofNat i)), sl] []) _
        refine k_pure (g' := (mkF m 5 #[.val (.ref a), .val (.ref q), .val (.int (Int32.ofNat r)), .val (.int (Int32.ofNat i)), sl] [(.int (Int32.ofNat i))])) (fun TT HH tt kk => XS.iloadN HH hx rfl (hb hby d_prog_4_m_9_4) rfl kk) ?_
        refine k_pure (g' := (mkF m 6 #[.val (.ref a), .val (.ref q), .val (.int (Int32.ofNat r)), .val (.int (Int32.ofNat i)), sl] [(.ref a), (.int (Int32.ofNat i))])) (fun TT HH tt kk => XS.aloadN HH hx rfl (hb hby d_prog_4_m_9_5) rfl rfl kk) ?_
        refine k_callV hx (y := (⟨"java/lang/String", "length", "()I"⟩ : MethodName)) (z := (⟨"java/lang/String", "length", "()I"⟩ : MethodName)) (wT 78 rfl) (wT 79 rfl) (fun s' hZ => notFace_of_selects (args := #[]) (mv hZ (wT 81 rfl))) (wT 81 rfl) (wT 80 rfl) (by decide) (W := 1) (a := a) (argsL := []) (rest := [(.int (Int32.ofNat i))]) (pay_lenX (W := 1) hX O0 pf_0 (by decide) (by decide)) pf_0.exa rfl (by rw [hml]; rfl) (lenOf pd__28__29_I rfl) rfl (by show 2 * 0 + _ ≤ _; exact Nat.le_of_eq rfl) (hb hby d_prog_4_m_9_6) (by decide) (by decide) ?_
        intro v_15 h_16 bk_17 O_18 z_19 Q_20
        obtain ⟨rfl, rfl, rfl⟩ := Q_20
        show Run p l e _ s m _ below meth c Z EL1 _ n0 NoB h0 0 0 (mkF m 9 #[.val (.ref a), .val (.ref q), .val (.int (Int32.ofNat r)), .val (.int (Int32.ofNat i)), sl] [(.int (Int32.ofNat (cs).length)), (.int (Int32.ofNat i))]) _
        refine k_pure (g' := (mkF m 12 #[.val (.ref a), .val (.ref q), .val (.int (Int32.ofNat r)), .val (.int (Int32.ofNat i)), sl] [])) (fun TT HH tt kk => XS.icmpNo HH hx rfl (hb hby d_prog_4_m_9_9) rfl (tlt (lt_nat (by omega) (by omega))).2.1 kk) ?_
        refine k_pure (g' := (mkF m 13 #[.val (.ref a), .val (.ref q), .val (.int (Int32.ofNat r)), .val (.int (Int32.ofNat i)), sl] [(.ref a)])) (fun TT HH tt kk => XS.aloadN HH hx rfl (hb hby d_prog_4_m_9_12) rfl rfl kk) ?_
        refine k_pure (g' := (mkF m 14 #[.val (.ref a), .val (.ref q), .val (.int (Int32.ofNat r)), .val (.int (Int32.ofNat i)), sl] [(.int (Int32.ofNat i)), (.ref a)])) (fun TT HH tt kk => XS.iloadN HH hx rfl (hb hby d_prog_4_m_9_13) rfl kk) ?_
        refine k_callV hx (y := (⟨"java/lang/String", "charAt", "(I)C"⟩ : MethodName)) (z := (⟨"java/lang/String", "charAt", "(I)C"⟩ : MethodName)) (wT 88 rfl) (wT 89 rfl) (fun s' hZ => notFace_of_selects (args := #[]) (mv hZ (wT 91 rfl))) (wT 91 rfl) (wT 90 rfl) (by decide) (W := 0) (a := a) (argsL := [(.int (Int32.ofNat i))]) (rest := []) (pay_chX (W := 0) hX hU O0 pf_0 i (by omega) rfl (by decide) (by decide)) pf_0.exa rfl (by rw [hml]; rfl) (lenOf pd__28_I_29_C rfl) rfl (by show 2 * 0 + _ ≤ _; exact Nat.le_of_eq rfl) (hb hby d_prog_4_m_9_14) (by decide) (by decide) ?_
        intro v_21 h_22 bk_23 O_24 z_25 Q_26
        obtain ⟨rfl, rfl, rfl⟩ := Q_26
        show Run p l e _ s m _ below meth c Z EL1 _ n0 NoB h0 0 0 (mkF m 17 #[.val (.ref a), .val (.ref q), .val (.int (Int32.ofNat r)), .val (.int (Int32.ofNat i)), sl] [(.int ((cs).getD i 0))]) _
        refine k_pure (g' := (mkF m 19 #[.val (.ref a), .val (.ref q), .val (.int (Int32.ofNat r)), .val (.int (Int32.ofNat i)), .val (.int ((cs).getD i 0))] [])) (fun TT HH tt kk => XS.istore HH hx rfl (hb hby d_prog_4_m_9_17) rfl (l' := #[.val (.ref a), .val (.ref q), .val (.int (Int32.ofNat r)), .val (.int (Int32.ofNat i)), .val (.int ((cs).getD i 0))]) (by rcases hsl with rfl | ⟨uu, rfl⟩ <;> rfl) kk) ?_
        refine k_pure (g' := (mkF m 21 #[.val (.ref a), .val (.ref q), .val (.int (Int32.ofNat r)), .val (.int (Int32.ofNat i)), .val (.int ((cs).getD i 0))] [(.int ((cs).getD i 0))])) (fun TT HH tt kk => XS.iload HH hx rfl (hb hby d_prog_4_m_9_19) rfl kk) ?_
        refine k_pure (g' := (mkF m 24 #[.val (.ref a), .val (.ref q), .val (.int (Int32.ofNat r)), .val (.int (Int32.ofNat i)), .val (.int ((cs).getD i 0))] [(.int (128 : Int32)), (.int ((cs).getD i 0))])) (fun TT HH tt kk => XS.sipush HH hx rfl (hb hby d_prog_4_m_9_21) kk) ?_
        refine k_pure (g' := (mkF m 27 #[.val (.ref a), .val (.ref q), .val (.int (Int32.ofNat r)), .val (.int (Int32.ofNat i)), .val (.int ((cs).getD i 0))] [])) (fun TT HH tt kk => XS.icmpNo HH hx rfl (hb hby d_prog_4_m_9_24) rfl (tlt (by have r0 := rng32 ((cs).getD i 0); have r1 : (128 : Int32).toInt = 128 := (by decide); have r2 := hc; rw [Int32.lt_iff_toInt_lt]; omega)).2.1 kk) ?_
        refine k_pure (g' := (mkF m 30 #[.val (.ref a), .val (.ref q), .val (.int ((Int32.ofNat r) + (1 : Int32))), .val (.int (Int32.ofNat i)), .val (.int ((cs).getD i 0))] [])) (fun TT HH tt kk => XS.iinc HH hx rfl (hb hby d_prog_4_m_9_27) rfl (l' := #[.val (.ref a), .val (.ref q), .val (.int ((Int32.ofNat r) + (1 : Int32))), .val (.int (Int32.ofNat i)), .val (.int ((cs).getD i 0))]) rfl kk) ?_
        refine k_pure (g' := (mkF m 116 #[.val (.ref a), .val (.ref q), .val (.int ((Int32.ofNat r) + (1 : Int32))), .val (.int (Int32.ofNat i)), .val (.int ((cs).getD i 0))] [])) (fun TT HH tt kk => XS.goto HH hx rfl (pc0 := 30) (pc' := 116) rfl (hb hby d_prog_4_m_9_30) (by decide) (by decide) kk) ?_
        refine k_pure (g' := (mkF m 119 #[.val (.ref a), .val (.ref q), .val (.int ((Int32.ofNat r) + (1 : Int32))), .val (.int ((Int32.ofNat i) + (1 : Int32))), .val (.int ((cs).getD i 0))] [])) (fun TT HH tt kk => XS.iinc HH hx rfl (hb hby d_prog_4_m_9_116) rfl (l' := #[.val (.ref a), .val (.ref q), .val (.int ((Int32.ofNat r) + (1 : Int32))), .val (.int ((Int32.ofNat i) + (1 : Int32))), .val (.int ((cs).getD i 0))]) rfl kk) ?_
        refine k_pure (g' := (mkF m 4 #[.val (.ref a), .val (.ref q), .val (.int ((Int32.ofNat r) + (1 : Int32))), .val (.int ((Int32.ofNat i) + (1 : Int32))), .val (.int ((cs).getD i 0))] [])) (fun TT HH tt kk => XS.goto HH hx rfl (pc0 := 119) (pc' := 4) rfl (hb hby d_prog_4_m_9_119) (by decide) (by decide) kk) ?_
        rw [show Int32.ofNat r + (1 : Int32) = Int32.ofNat (r + 1) from u_add rfl, show Int32.ofNat i + (1 : Int32) = Int32.ofNat (i + 1) from u_add rfl]
        exact ih (i + 1) (r + 1) m1 _ (Or.inr ⟨_, rfl⟩) (by rw [hd1]; exact ok1) (by omega) (by omega)
      · obtain ⟨hi1, e1, hd1⟩ := drop_cons hd
        subst e1
        show Run p l e _ s m _ below meth c Z EL1 _ n0 NoB h0 0 0 (mkF m 4 #[.val (.ref a), .val (.ref q), .val (.int (Int32.ofNat r)), .val (.int (Int32.ofNat i)), sl] []) _
        refine k_pure (g' := (mkF m 5 #[.val (.ref a), .val (.ref q), .val (.int (Int32.ofNat r)), .val (.int (Int32.ofNat i)), sl] [(.int (Int32.ofNat i))])) (fun TT HH tt kk => XS.iloadN HH hx rfl (hb hby d_prog_4_m_9_4) rfl kk) ?_
        refine k_pure (g' := (mkF m 6 #[.val (.ref a), .val (.ref q), .val (.int (Int32.ofNat r)), .val (.int (Int32.ofNat i)), sl] [(.ref a), (.int (Int32.ofNat i))])) (fun TT HH tt kk => XS.aloadN HH hx rfl (hb hby d_prog_4_m_9_5) rfl rfl kk) ?_
        refine k_callV hx (y := (⟨"java/lang/String", "length", "()I"⟩ : MethodName)) (z := (⟨"java/lang/String", "length", "()I"⟩ : MethodName)) (wT 78 rfl) (wT 79 rfl) (fun s' hZ => notFace_of_selects (args := #[]) (mv hZ (wT 81 rfl))) (wT 81 rfl) (wT 80 rfl) (by decide) (W := 1) (a := a) (argsL := []) (rest := [(.int (Int32.ofNat i))]) (pay_lenX (W := 1) hX O0 pf_0 (by decide) (by decide)) pf_0.exa rfl (by rw [hml]; rfl) (lenOf pd__28__29_I rfl) rfl (by show 2 * 0 + _ ≤ _; exact Nat.le_of_eq rfl) (hb hby d_prog_4_m_9_6) (by decide) (by decide) ?_
        intro v_27 h_28 bk_29 O_30 z_31 Q_32
        obtain ⟨rfl, rfl, rfl⟩ := Q_32
        show Run p l e _ s m _ below meth c Z EL1 _ n0 NoB h0 0 0 (mkF m 9 #[.val (.ref a), .val (.ref q), .val (.int (Int32.ofNat r)), .val (.int (Int32.ofNat i)), sl] [(.int (Int32.ofNat (cs).length)), (.int (Int32.ofNat i))]) _
        refine k_pure (g' := (mkF m 12 #[.val (.ref a), .val (.ref q), .val (.int (Int32.ofNat r)), .val (.int (Int32.ofNat i)), sl] [])) (fun TT HH tt kk => XS.icmpNo HH hx rfl (hb hby d_prog_4_m_9_9) rfl (tlt (lt_nat (by omega) (by omega))).2.1 kk) ?_
        refine k_pure (g' := (mkF m 13 #[.val (.ref a), .val (.ref q), .val (.int (Int32.ofNat r)), .val (.int (Int32.ofNat i)), sl] [(.ref a)])) (fun TT HH tt kk => XS.aloadN HH hx rfl (hb hby d_prog_4_m_9_12) rfl rfl kk) ?_
        refine k_pure (g' := (mkF m 14 #[.val (.ref a), .val (.ref q), .val (.int (Int32.ofNat r)), .val (.int (Int32.ofNat i)), sl] [(.int (Int32.ofNat i)), (.ref a)])) (fun TT HH tt kk => XS.iloadN HH hx rfl (hb hby d_prog_4_m_9_13) rfl kk) ?_
        refine k_callV hx (y := (⟨"java/lang/String", "charAt", "(I)C"⟩ : MethodName)) (z := (⟨"java/lang/String", "charAt", "(I)C"⟩ : MethodName)) (wT 88 rfl) (wT 89 rfl) (fun s' hZ => notFace_of_selects (args := #[]) (mv hZ (wT 91 rfl))) (wT 91 rfl) (wT 90 rfl) (by decide) (W := 0) (a := a) (argsL := [(.int (Int32.ofNat i))]) (rest := []) (pay_chX (W := 0) hX hU O0 pf_0 i (by omega) rfl (by decide) (by decide)) pf_0.exa rfl (by rw [hml]; rfl) (lenOf pd__28_I_29_C rfl) rfl (by show 2 * 0 + _ ≤ _; exact Nat.le_of_eq rfl) (hb hby d_prog_4_m_9_14) (by decide) (by decide) ?_
        intro v_33 h_34 bk_35 O_36 z_37 Q_38
        obtain ⟨rfl, rfl, rfl⟩ := Q_38
        show Run p l e _ s m _ below meth c Z EL1 _ n0 NoB h0 0 0 (mkF m 17 #[.val (.ref a), .val (.ref q), .val (.int (Int32.ofNat r)), .val (.int (Int32.ofNat i)), sl] [(.int ((cs).getD i 0))]) _
        refine k_pure (g' := (mkF m 19 #[.val (.ref a), .val (.ref q), .val (.int (Int32.ofNat r)), .val (.int (Int32.ofNat i)), .val (.int ((cs).getD i 0))] [])) (fun TT HH tt kk => XS.istore HH hx rfl (hb hby d_prog_4_m_9_17) rfl (l' := #[.val (.ref a), .val (.ref q), .val (.int (Int32.ofNat r)), .val (.int (Int32.ofNat i)), .val (.int ((cs).getD i 0))]) (by rcases hsl with rfl | ⟨uu, rfl⟩ <;> rfl) kk) ?_
        refine k_pure (g' := (mkF m 21 #[.val (.ref a), .val (.ref q), .val (.int (Int32.ofNat r)), .val (.int (Int32.ofNat i)), .val (.int ((cs).getD i 0))] [(.int ((cs).getD i 0))])) (fun TT HH tt kk => XS.iload HH hx rfl (hb hby d_prog_4_m_9_19) rfl kk) ?_
        refine k_pure (g' := (mkF m 24 #[.val (.ref a), .val (.ref q), .val (.int (Int32.ofNat r)), .val (.int (Int32.ofNat i)), .val (.int ((cs).getD i 0))] [(.int (128 : Int32)), (.int ((cs).getD i 0))])) (fun TT HH tt kk => XS.sipush HH hx rfl (hb hby d_prog_4_m_9_21) kk) ?_
        refine k_pure (g' := (mkF m 33 #[.val (.ref a), .val (.ref q), .val (.int (Int32.ofNat r)), .val (.int (Int32.ofNat i)), .val (.int ((cs).getD i 0))] [])) (fun TT HH tt kk => XS.icmpYes HH hx rfl (pc0 := 24) (pc' := 33) rfl (hb hby d_prog_4_m_9_24) rfl (flt (by have r0 := rng32 ((cs).getD i 0); have r1 : (128 : Int32).toInt = 128 := (by decide); have r2 := hc; rw [Int32.lt_iff_toInt_lt]; omega)).2.1 (by decide) (by decide) kk) ?_
        refine k_pure (g' := (mkF m 35 #[.val (.ref a), .val (.ref q), .val (.int (Int32.ofNat r)), .val (.int (Int32.ofNat i)), .val (.int ((cs).getD i 0))] [(.int ((cs).getD i 0))])) (fun TT HH tt kk => XS.iload HH hx rfl (hb hby d_prog_4_m_9_33) rfl kk) ?_
        refine k_pure (g' := (mkF m 38 #[.val (.ref a), .val (.ref q), .val (.int (Int32.ofNat r)), .val (.int (Int32.ofNat i)), .val (.int ((cs).getD i 0))] [(.int (2048 : Int32)), (.int ((cs).getD i 0))])) (fun TT HH tt kk => XS.sipush HH hx rfl (hb hby d_prog_4_m_9_35) kk) ?_
        refine k_pure (g' := (mkF m 41 #[.val (.ref a), .val (.ref q), .val (.int (Int32.ofNat r)), .val (.int (Int32.ofNat i)), .val (.int ((cs).getD i 0))] [])) (fun TT HH tt kk => XS.icmpNo HH hx rfl (hb hby d_prog_4_m_9_38) rfl (tlt (by have r0 := rng32 ((cs).getD i 0); have r1 : (2048 : Int32).toInt = 2048 := (by decide); have r2 := hc; rw [Int32.lt_iff_toInt_lt]; omega)).2.1 kk) ?_
        refine k_pure (g' := (mkF m 44 #[.val (.ref a), .val (.ref q), .val (.int ((Int32.ofNat r) + (2 : Int32))), .val (.int (Int32.ofNat i)), .val (.int ((cs).getD i 0))] [])) (fun TT HH tt kk => XS.iinc HH hx rfl (hb hby d_prog_4_m_9_41) rfl (l' := #[.val (.ref a), .val (.ref q), .val (.int ((Int32.ofNat r) + (2 : Int32))), .val (.int (Int32.ofNat i)), .val (.int ((cs).getD i 0))]) rfl kk) ?_
        refine k_pure (g' := (mkF m 116 #[.val (.ref a), .val (.ref q), .val (.int ((Int32.ofNat r) + (2 : Int32))), .val (.int (Int32.ofNat i)), .val (.int ((cs).getD i 0))] [])) (fun TT HH tt kk => XS.goto HH hx rfl (pc0 := 44) (pc' := 116) rfl (hb hby d_prog_4_m_9_44) (by decide) (by decide) kk) ?_
        refine k_pure (g' := (mkF m 119 #[.val (.ref a), .val (.ref q), .val (.int ((Int32.ofNat r) + (2 : Int32))), .val (.int ((Int32.ofNat i) + (1 : Int32))), .val (.int ((cs).getD i 0))] [])) (fun TT HH tt kk => XS.iinc HH hx rfl (hb hby d_prog_4_m_9_116) rfl (l' := #[.val (.ref a), .val (.ref q), .val (.int ((Int32.ofNat r) + (2 : Int32))), .val (.int ((Int32.ofNat i) + (1 : Int32))), .val (.int ((cs).getD i 0))]) rfl kk) ?_
        refine k_pure (g' := (mkF m 4 #[.val (.ref a), .val (.ref q), .val (.int ((Int32.ofNat r) + (2 : Int32))), .val (.int ((Int32.ofNat i) + (1 : Int32))), .val (.int ((cs).getD i 0))] [])) (fun TT HH tt kk => XS.goto HH hx rfl (pc0 := 119) (pc' := 4) rfl (hb hby d_prog_4_m_9_119) (by decide) (by decide) kk) ?_
        rw [show Int32.ofNat r + (2 : Int32) = Int32.ofNat (r + 2) from u_add rfl, show Int32.ofNat i + (1 : Int32) = Int32.ofNat (i + 1) from u_add rfl]
        exact ih (i + 1) (r + 2) m1 _ (Or.inr ⟨_, rfl⟩) (by rw [hd1]; exact ok1) (by omega) (by omega)
      · obtain ⟨hi1, e1, hd1⟩ := drop_cons hd
        subst e1
        show Run p l e _ s m _ below meth c Z EL1 _ n0 NoB h0 0 0 (mkF m 4 #[.val (.ref a), .val (.ref q), .val (.int (Int32.ofNat r)), .val (.int (Int32.ofNat i)), sl] []) _
        refine k_pure (g' := (mkF m 5 #[.val (.ref a), .val (.ref q), .val (.int (Int32.ofNat r)), .val (.int (Int32.ofNat i)), sl] [(.int (Int32.ofNat i))])) (fun TT HH tt kk => XS.iloadN HH hx rfl (hb hby d_prog_4_m_9_4) rfl kk) ?_
        refine k_pure (g' := (mkF m 6 #[.val (.ref a), .val (.ref q), .val (.int (Int32.ofNat r)), .val (.int (Int32.ofNat i)), sl] [(.ref a), (.int (Int32.ofNat i))])) (fun TT HH tt kk => XS.aloadN HH hx rfl (hb hby d_prog_4_m_9_5) rfl rfl kk) ?_
        refine k_callV hx (y := (⟨"java/lang/String", "length", "()I"⟩ : MethodName)) (z := (⟨"java/lang/String", "length", "()I"⟩ : MethodName)) (wT 78 rfl) (wT 79 rfl) (fun s' hZ => notFace_of_selects (args := #[]) (mv hZ (wT 81 rfl))) (wT 81 rfl) (wT 80 rfl) (by decide) (W := 1) (a := a) (argsL := []) (rest := [(.int (Int32.ofNat i))]) (pay_lenX (W := 1) hX O0 pf_0 (by decide) (by decide)) pf_0.exa rfl (by rw [hml]; rfl) (lenOf pd__28__29_I rfl) rfl (by show 2 * 0 + _ ≤ _; exact Nat.le_of_eq rfl) (hb hby d_prog_4_m_9_6) (by decide) (by decide) ?_
        intro v_39 h_40 bk_41 O_42 z_43 Q_44
        obtain ⟨rfl, rfl, rfl⟩ := Q_44
        show Run p l e _ s m _ below meth c Z EL1 _ n0 NoB h0 0 0 (mkF m 9 #[.val (.ref a), .val (.ref q), .val (.int (Int32.ofNat r)), .val (.int (Int32.ofNat i)), sl] [(.int (Int32.ofNat (cs).length)), (.int (Int32.ofNat i))]) _
        refine k_pure (g' := (mkF m 12 #[.val (.ref a), .val (.ref q), .val (.int (Int32.ofNat r)), .val (.int (Int32.ofNat i)), sl] [])) (fun TT HH tt kk => XS.icmpNo HH hx rfl (hb hby d_prog_4_m_9_9) rfl (tlt (lt_nat (by omega) (by omega))).2.1 kk) ?_
        refine k_pure (g' := (mkF m 13 #[.val (.ref a), .val (.ref q), .val (.int (Int32.ofNat r)), .val (.int (Int32.ofNat i)), sl] [(.ref a)])) (fun TT HH tt kk => XS.aloadN HH hx rfl (hb hby d_prog_4_m_9_12) rfl rfl kk) ?_
        refine k_pure (g' := (mkF m 14 #[.val (.ref a), .val (.ref q), .val (.int (Int32.ofNat r)), .val (.int (Int32.ofNat i)), sl] [(.int (Int32.ofNat i)), (.ref a)])) (fun TT HH tt kk => XS.iloadN HH hx rfl (hb hby d_prog_4_m_9_13) rfl kk) ?_
        refine k_callV hx (y := (⟨"java/lang/String", "charAt", "(I)C"⟩ : MethodName)) (z := (⟨"java/lang/String", "charAt", "(I)C"⟩ : MethodName)) (wT 88 rfl) (wT 89 rfl) (fun s' hZ => notFace_of_selects (args := #[]) (mv hZ (wT 91 rfl))) (wT 91 rfl) (wT 90 rfl) (by decide) (W := 0) (a := a) (argsL := [(.int (Int32.ofNat i))]) (rest := []) (pay_chX (W := 0) hX hU O0 pf_0 i (by omega) rfl (by decide) (by decide)) pf_0.exa rfl (by rw [hml]; rfl) (lenOf pd__28_I_29_C rfl) rfl (by show 2 * 0 + _ ≤ _; exact Nat.le_of_eq rfl) (hb hby d_prog_4_m_9_14) (by decide) (by decide) ?_
        intro v_45 h_46 bk_47 O_48 z_49 Q_50
        obtain ⟨rfl, rfl, rfl⟩ := Q_50
        show Run p l e _ s m _ below meth c Z EL1 _ n0 NoB h0 0 0 (mkF m 17 #[.val (.ref a), .val (.ref q), .val (.int (Int32.ofNat r)), .val (.int (Int32.ofNat i)), sl] [(.int ((cs).getD i 0))]) _
        refine k_pure (g' := (mkF m 19 #[.val (.ref a), .val (.ref q), .val (.int (Int32.ofNat r)), .val (.int (Int32.ofNat i)), .val (.int ((cs).getD i 0))] [])) (fun TT HH tt kk => XS.istore HH hx rfl (hb hby d_prog_4_m_9_17) rfl (l' := #[.val (.ref a), .val (.ref q), .val (.int (Int32.ofNat r)), .val (.int (Int32.ofNat i)), .val (.int ((cs).getD i 0))]) (by rcases hsl with rfl | ⟨uu, rfl⟩ <;> rfl) kk) ?_
        refine k_pure (g' := (mkF m 21 #[.val (.ref a), .val (.ref q), .val (.int (Int32.ofNat r)), .val (.int (Int32.ofNat i)), .val (.int ((cs).getD i 0))] [(.int ((cs).getD i 0))])) (fun TT HH tt kk => XS.iload HH hx rfl (hb hby d_prog_4_m_9_19) rfl kk) ?_
        refine k_pure (g' := (mkF m 24 #[.val (.ref a), .val (.ref q), .val (.int (Int32.ofNat r)), .val (.int (Int32.ofNat i)), .val (.int ((cs).getD i 0))] [(.int (128 : Int32)), (.int ((cs).getD i 0))])) (fun TT HH tt kk => XS.sipush HH hx rfl (hb hby d_prog_4_m_9_21) kk) ?_
        refine k_pure (g' := (mkF m 33 #[.val (.ref a), .val (.ref q), .val (.int (Int32.ofNat r)), .val (.int (Int32.ofNat i)), .val (.int ((cs).getD i 0))] [])) (fun TT HH tt kk => XS.icmpYes HH hx rfl (pc0 := 24) (pc' := 33) rfl (hb hby d_prog_4_m_9_24) rfl (flt (by have r0 := rng32 ((cs).getD i 0); have r1 : (128 : Int32).toInt = 128 := (by decide); have r2 := hc; rw [Int32.lt_iff_toInt_lt]; omega)).2.1 (by decide) (by decide) kk) ?_
        refine k_pure (g' := (mkF m 35 #[.val (.ref a), .val (.ref q), .val (.int (Int32.ofNat r)), .val (.int (Int32.ofNat i)), .val (.int ((cs).getD i 0))] [(.int ((cs).getD i 0))])) (fun TT HH tt kk => XS.iload HH hx rfl (hb hby d_prog_4_m_9_33) rfl kk) ?_
        refine k_pure (g' := (mkF m 38 #[.val (.ref a), .val (.ref q), .val (.int (Int32.ofNat r)), .val (.int (Int32.ofNat i)), .val (.int ((cs).getD i 0))] [(.int (2048 : Int32)), (.int ((cs).getD i 0))])) (fun TT HH tt kk => XS.sipush HH hx rfl (hb hby d_prog_4_m_9_35) kk) ?_
        refine k_pure (g' := (mkF m 47 #[.val (.ref a), .val (.ref q), .val (.int (Int32.ofNat r)), .val (.int (Int32.ofNat i)), .val (.int ((cs).getD i 0))] [])) (fun TT HH tt kk => XS.icmpYes HH hx rfl (pc0 := 38) (pc' := 47) rfl (hb hby d_prog_4_m_9_38) rfl (flt (by have r0 := rng32 ((cs).getD i 0); have r1 : (2048 : Int32).toInt = 2048 := (by decide); have r2 := hc; rw [Int32.lt_iff_toInt_lt]; omega)).2.1 (by decide) (by decide) kk) ?_
        refine k_pure (g' := (mkF m 49 #[.val (.ref a), .val (.ref q), .val (.int (Int32.ofNat r)), .val (.int (Int32.ofNat i)), .val (.int ((cs).getD i 0))] [(.int ((cs).getD i 0))])) (fun TT HH tt kk => XS.iload HH hx rfl (hb hby d_prog_4_m_9_47) rfl kk) ?_
        refine k_callS hx (y := (⟨"java/lang/Character", "isSurrogate", "(C)Z"⟩ : MethodName)) (wT 115 rfl) (wT 116 rfl) (wT 117 rfl) (wT 118 rfl) (by decide) (W := 0) (argsL := [(.int ((cs).getD i 0))]) (rest := []) (Pays.of_met (rm_isu0 l Z a0 G1 G3 hX hU n0 h0 O0 ((cs).getD i 0) hc.2 []) (wT 118 rfl) (wT 117 rfl) (by decide) (by decide)) rfl (by rw [hml]; rfl) (lenOf pd__28_C_29_Z rfl) rfl (by show 2 * 0 + _ ≤ _; exact Nat.le_of_eq rfl) (hb hby d_prog_4_m_9_49) (by decide) (by decide) ?_
        intro v_51 h_52 bk_53 O_54 z_55 Q_56
        obtain ⟨rfl, rfl, rfl⟩ := Q_56
        show Run p l e _ s m _ below meth c Z EL1 _ n0 NoB h0 0 0 (mkF m 52 #[.val (.ref a), .val (.ref q), .val (.int (Int32.ofNat r)), .val (.int (Int32.ofNat i)), .val (.int ((cs).getD i 0))] [(.int (0 : Int32))]) _
        refine k_pure (g' := (mkF m 55 #[.val (.ref a), .val (.ref q), .val (.int (Int32.ofNat r)), .val (.int (Int32.ofNat i)), .val (.int ((cs).getD i 0))] [])) (fun TT HH tt kk => XS.ifNo HH hx rfl (hb hby d_prog_4_m_9_52) rfl ((if0 _ _).trans (teq (by decide : ((0 : Int32) = (0 : Int32)))).2) kk) ?_
        refine k_pure (g' := (mkF m 58 #[.val (.ref a), .val (.ref q), .val (.int ((Int32.ofNat r) + (3 : Int32))), .val (.int (Int32.ofNat i)), .val (.int ((cs).getD i 0))] [])) (fun TT HH tt kk => XS.iinc HH hx rfl (hb hby d_prog_4_m_9_55) rfl (l' := #[.val (.ref a), .val (.ref q), .val (.int ((Int32.ofNat r) + (3 : Int32))), .val (.int (Int32.ofNat i)), .val (.int ((cs).getD i 0))]) rfl kk) ?_
        refine k_pure (g' := (mkF m 116 #[.val (.ref a), .val (.ref q), .val (.int ((Int32.ofNat r) + (3 : Int32))), .val (.int (Int32.ofNat i)), .val (.int ((cs).getD i 0))] [])) (fun TT HH tt kk => XS.goto HH hx rfl (pc0 := 58) (pc' := 116) rfl (hb hby d_prog_4_m_9_58) (by decide) (by decide) kk) ?_
        refine k_pure (g' := (mkF m 119 #[.val (.ref a), .val (.ref q), .val (.int ((Int32.ofNat r) + (3 : Int32))), .val (.int ((Int32.ofNat i) + (1 : Int32))), .val (.int ((cs).getD i 0))] [])) (fun TT HH tt kk => XS.iinc HH hx rfl (hb hby d_prog_4_m_9_116) rfl (l' := #[.val (.ref a), .val (.ref q), .val (.int ((Int32.ofNat r) + (3 : Int32))), .val (.int ((Int32.ofNat i) + (1 : Int32))), .val (.int ((cs).getD i 0))]) rfl kk) ?_
        refine k_pure (g' := (mkF m 4 #[.val (.ref a), .val (.ref q), .val (.int ((Int32.ofNat r) + (3 : Int32))), .val (.int ((Int32.ofNat i) + (1 : Int32))), .val (.int ((cs).getD i 0))] [])) (fun TT HH tt kk => XS.goto HH hx rfl (pc0 := 119) (pc' := 4) rfl (hb hby d_prog_4_m_9_119) (by decide) (by decide) kk) ?_
        rw [show Int32.ofNat r + (3 : Int32) = Int32.ofNat (r + 3) from u_add rfl, show Int32.ofNat i + (1 : Int32) = Int32.ofNat (i + 1) from u_add rfl]
        exact ih (i + 1) (r + 3) m1 _ (Or.inr ⟨_, rfl⟩) (by rw [hd1]; exact ok1) (by omega) (by omega)
      · obtain ⟨hi1, e1, hd1⟩ := drop_cons hd
        subst e1
        obtain ⟨hi2, e2, hd2⟩ := drop_cons hd1
        subst e2
        show Run p l e _ s m _ below meth c Z EL1 _ n0 NoB h0 0 0 (mkF m 4 #[.val (.ref a), .val (.ref q), .val (.int (Int32.ofNat r)), .val (.int (Int32.ofNat i)), sl] []) _
        refine k_pure (g' := (mkF m 5 #[.val (.ref a), .val (.ref q), .val (.int (Int32.ofNat r)), .val (.int (Int32.ofNat i)), sl] [(.int (Int32.ofNat i))])) (fun TT HH tt kk => XS.iloadN HH hx rfl (hb hby d_prog_4_m_9_4) rfl kk) ?_
        refine k_pure (g' := (mkF m 6 #[.val (.ref a), .val (.ref q), .val (.int (Int32.ofNat r)), .val (.int (Int32.ofNat i)), sl] [(.ref a), (.int (Int32.ofNat i))])) (fun TT HH tt kk => XS.aloadN HH hx rfl (hb hby d_prog_4_m_9_5) rfl rfl kk) ?_
        refine k_callV hx (y := (⟨"java/lang/String", "length", "()I"⟩ : MethodName)) (z := (⟨"java/lang/String", "length", "()I"⟩ : MethodName)) (wT 78 rfl) (wT 79 rfl) (fun s' hZ => notFace_of_selects (args := #[]) (mv hZ (wT 81 rfl))) (wT 81 rfl) (wT 80 rfl) (by decide) (W := 1) (a := a) (argsL := []) (rest := [(.int (Int32.ofNat i))]) (pay_lenX (W := 1) hX O0 pf_0 (by decide) (by decide)) pf_0.exa rfl (by rw [hml]; rfl) (lenOf pd__28__29_I rfl) rfl (by show 2 * 0 + _ ≤ _; exact Nat.le_of_eq rfl) (hb hby d_prog_4_m_9_6) (by decide) (by decide) ?_
        intro v_57 h_58 bk_59 O_60 z_61 Q_62
        obtain ⟨rfl, rfl, rfl⟩ := Q_62
        show Run p l e _ s m _ below meth c Z EL1 _ n0 NoB h0 0 0 (mkF m 9 #[.val (.ref a), .val (.ref q), .val (.int (Int32.ofNat r)), .val (.int (Int32.ofNat i)), sl] [(.int (Int32.ofNat (cs).length)), (.int (Int32.ofNat i))]) _
        refine k_pure (g' := (mkF m 12 #[.val (.ref a), .val (.ref q), .val (.int (Int32.ofNat r)), .val (.int (Int32.ofNat i)), sl] [])) (fun TT HH tt kk => XS.icmpNo HH hx rfl (hb hby d_prog_4_m_9_9) rfl (tlt (lt_nat (by omega) (by omega))).2.1 kk) ?_
        refine k_pure (g' := (mkF m 13 #[.val (.ref a), .val (.ref q), .val (.int (Int32.ofNat r)), .val (.int (Int32.ofNat i)), sl] [(.ref a)])) (fun TT HH tt kk => XS.aloadN HH hx rfl (hb hby d_prog_4_m_9_12) rfl rfl kk) ?_
        refine k_pure (g' := (mkF m 14 #[.val (.ref a), .val (.ref q), .val (.int (Int32.ofNat r)), .val (.int (Int32.ofNat i)), sl] [(.int (Int32.ofNat i)), (.ref a)])) (fun TT HH tt kk => XS.iloadN HH hx rfl (hb hby d_prog_4_m_9_13) rfl kk) ?_
        refine k_callV hx (y := (⟨"java/lang/String", "charAt", "(I)C"⟩ : MethodName)) (z := (⟨"java/lang/String", "charAt", "(I)C"⟩ : MethodName)) (wT 88 rfl) (wT 89 rfl) (fun s' hZ => notFace_of_selects (args := #[]) (mv hZ (wT 91 rfl))) (wT 91 rfl) (wT 90 rfl) (by decide) (W := 0) (a := a) (argsL := [(.int (Int32.ofNat i))]) (rest := []) (pay_chX (W := 0) hX hU O0 pf_0 i (by omega) rfl (by decide) (by decide)) pf_0.exa rfl (by rw [hml]; rfl) (lenOf pd__28_I_29_C rfl) rfl (by show 2 * 0 + _ ≤ _; exact Nat.le_of_eq rfl) (hb hby d_prog_4_m_9_14) (by decide) (by decide) ?_
        intro v_63 h_64 bk_65 O_66 z_67 Q_68
        obtain ⟨rfl, rfl, rfl⟩ := Q_68
        show Run p l e _ s m _ below meth c Z EL1 _ n0 NoB h0 0 0 (mkF m 17 #[.val (.ref a), .val (.ref q), .val (.int (Int32.ofNat r)), .val (.int (Int32.ofNat i)), sl] [(.int ((cs).getD i 0))]) _
        refine k_pure (g' := (mkF m 19 #[.val (.ref a), .val (.ref q), .val (.int (Int32.ofNat r)), .val (.int (Int32.ofNat i)), .val (.int ((cs).getD i 0))] [])) (fun TT HH tt kk => XS.istore HH hx rfl (hb hby d_prog_4_m_9_17) rfl (l' := #[.val (.ref a), .val (.ref q), .val (.int (Int32.ofNat r)), .val (.int (Int32.ofNat i)), .val (.int ((cs).getD i 0))]) (by rcases hsl with rfl | ⟨uu, rfl⟩ <;> rfl) kk) ?_
        refine k_pure (g' := (mkF m 21 #[.val (.ref a), .val (.ref q), .val (.int (Int32.ofNat r)), .val (.int (Int32.ofNat i)), .val (.int ((cs).getD i 0))] [(.int ((cs).getD i 0))])) (fun TT HH tt kk => XS.iload HH hx rfl (hb hby d_prog_4_m_9_19) rfl kk) ?_
        refine k_pure (g' := (mkF m 24 #[.val (.ref a), .val (.ref q), .val (.int (Int32.ofNat r)), .val (.int (Int32.ofNat i)), .val (.int ((cs).getD i 0))] [(.int (128 : Int32)), (.int ((cs).getD i 0))])) (fun TT HH tt kk => XS.sipush HH hx rfl (hb hby d_prog_4_m_9_21) kk) ?_
        refine k_pure (g' := (mkF m 33 #[.val (.ref a), .val (.ref q), .val (.int (Int32.ofNat r)), .val (.int (Int32.ofNat i)), .val (.int ((cs).getD i 0))] [])) (fun TT HH tt kk => XS.icmpYes HH hx rfl (pc0 := 24) (pc' := 33) rfl (hb hby d_prog_4_m_9_24) rfl (flt (by have r0 := rng32 ((cs).getD i 0); have r1 : (128 : Int32).toInt = 128 := (by decide); have r2 := hc; rw [Int32.lt_iff_toInt_lt]; omega)).2.1 (by decide) (by decide) kk) ?_
        refine k_pure (g' := (mkF m 35 #[.val (.ref a), .val (.ref q), .val (.int (Int32.ofNat r)), .val (.int (Int32.ofNat i)), .val (.int ((cs).getD i 0))] [(.int ((cs).getD i 0))])) (fun TT HH tt kk => XS.iload HH hx rfl (hb hby d_prog_4_m_9_33) rfl kk) ?_
        refine k_pure (g' := (mkF m 38 #[.val (.ref a), .val (.ref q), .val (.int (Int32.ofNat r)), .val (.int (Int32.ofNat i)), .val (.int ((cs).getD i 0))] [(.int (2048 : Int32)), (.int ((cs).getD i 0))])) (fun TT HH tt kk => XS.sipush HH hx rfl (hb hby d_prog_4_m_9_35) kk) ?_
        refine k_pure (g' := (mkF m 47 #[.val (.ref a), .val (.ref q), .val (.int (Int32.ofNat r)), .val (.int (Int32.ofNat i)), .val (.int ((cs).getD i 0))] [])) (fun TT HH tt kk => XS.icmpYes HH hx rfl (pc0 := 38) (pc' := 47) rfl (hb hby d_prog_4_m_9_38) rfl (flt (by have r0 := rng32 ((cs).getD i 0); have r1 : (2048 : Int32).toInt = 2048 := (by decide); have r2 := hc; rw [Int32.lt_iff_toInt_lt]; omega)).2.1 (by decide) (by decide) kk) ?_
        refine k_pure (g' := (mkF m 49 #[.val (.ref a), .val (.ref q), .val (.int (Int32.ofNat r)), .val (.int (Int32.ofNat i)), .val (.int ((cs).getD i 0))] [(.int ((cs).getD i 0))])) (fun TT HH tt kk => XS.iload HH hx rfl (hb hby d_prog_4_m_9_47) rfl kk) ?_
        refine k_callS hx (y := (⟨"java/lang/Character", "isSurrogate", "(C)Z"⟩ : MethodName)) (wT 115 rfl) (wT 116 rfl) (wT 117 rfl) (wT 118 rfl) (by decide) (W := 0) (argsL := [(.int ((cs).getD i 0))]) (rest := []) (Pays.of_met (rm_isu1 l Z a0 G1 G3 hX hU n0 h0 O0 ((cs).getD i 0) (by omega) []) (wT 118 rfl) (wT 117 rfl) (by decide) (by decide)) rfl (by rw [hml]; rfl) (lenOf pd__28_C_29_Z rfl) rfl (by show 2 * 0 + _ ≤ _; exact Nat.le_of_eq rfl) (hb hby d_prog_4_m_9_49) (by decide) (by decide) ?_
        intro v_69 h_70 bk_71 O_72 z_73 Q_74
        obtain ⟨rfl, rfl, rfl⟩ := Q_74
        show Run p l e _ s m _ below meth c Z EL1 _ n0 NoB h0 0 0 (mkF m 52 #[.val (.ref a), .val (.ref q), .val (.int (Int32.ofNat r)), .val (.int (Int32.ofNat i)), .val (.int ((cs).getD i 0))] [(.int (1 : Int32))]) _
        refine k_pure (g' := (mkF m 61 #[.val (.ref a), .val (.ref q), .val (.int (Int32.ofNat r)), .val (.int (Int32.ofNat i)), .val (.int ((cs).getD i 0))] [])) (fun TT HH tt kk => XS.ifYes HH hx rfl (pc0 := 52) (pc' := 61) rfl (hb hby d_prog_4_m_9_52) rfl ((if0 _ _).trans (feq (by decide : ¬ ((1 : Int32) = (0 : Int32)))).2) (by decide) (by decide) kk) ?_
        refine k_pure (g' := (mkF m 63 #[.val (.ref a), .val (.ref q), .val (.int (Int32.ofNat r)), .val (.int (Int32.ofNat i)), .val (.int ((cs).getD i 0))] [(.int ((cs).getD i 0))])) (fun TT HH tt kk => XS.iload HH hx rfl (hb hby d_prog_4_m_9_61) rfl kk) ?_
        refine k_callS hx (y := (⟨"java/lang/Character", "isHighSurrogate", "(C)Z"⟩ : MethodName)) (wT 140 rfl) (wT 141 rfl) (wT 117 rfl) (wT 142 rfl) (by decide) (W := 0) (argsL := [(.int ((cs).getD i 0))]) (rest := []) (Pays.of_met (rm_ihs l Z a0 G1 G3 hX hU n0 h0 O0 ((cs).getD i 0) hc []) (wT 142 rfl) (wT 117 rfl) (by decide) (by decide)) rfl (by rw [hml]; rfl) (lenOf pd__28_C_29_Z rfl) rfl (by show 2 * 0 + _ ≤ _; exact Nat.le_of_eq rfl) (hb hby d_prog_4_m_9_63) (by decide) (by decide) ?_
        intro v_75 h_76 bk_77 O_78 z_79 Q_80
        obtain ⟨rfl, rfl, rfl⟩ := Q_80
        show Run p l e _ s m _ below meth c Z EL1 _ n0 NoB h0 0 0 (mkF m 66 #[.val (.ref a), .val (.ref q), .val (.int (Int32.ofNat r)), .val (.int (Int32.ofNat i)), .val (.int ((cs).getD i 0))] [(.int (1 : Int32))]) _
        refine k_pure (g' := (mkF m 69 #[.val (.ref a), .val (.ref q), .val (.int (Int32.ofNat r)), .val (.int (Int32.ofNat i)), .val (.int ((cs).getD i 0))] [])) (fun TT HH tt kk => XS.ifNo HH hx rfl (hb hby d_prog_4_m_9_66) rfl ((if0 _ _).trans (feq (by decide : ¬ ((1 : Int32) = (0 : Int32)))).1) kk) ?_
        refine k_pure (g' := (mkF m 70 #[.val (.ref a), .val (.ref q), .val (.int (Int32.ofNat r)), .val (.int (Int32.ofNat i)), .val (.int ((cs).getD i 0))] [(.int (Int32.ofNat i))])) (fun TT HH tt kk => XS.iloadN HH hx rfl (hb hby d_prog_4_m_9_69) rfl kk) ?_
        refine k_pure (g' := (mkF m 71 #[.val (.ref a), .val (.ref q), .val (.int (Int32.ofNat r)), .val (.int (Int32.ofNat i)), .val (.int ((cs).getD i 0))] [(.int (1 : Int32)), (.int (Int32.ofNat i))])) (fun TT HH tt kk => XS.iconst HH hx rfl (hb hby d_prog_4_m_9_70) kk) ?_
        refine k_pure (g' := (mkF m 72 #[.val (.ref a), .val (.ref q), .val (.int (Int32.ofNat r)), .val (.int (Int32.ofNat i)), .val (.int ((cs).getD i 0))] [(.int ((Int32.ofNat i) + (1 : Int32)))])) (fun TT HH tt kk => XS.iadd HH hx rfl (hb hby d_prog_4_m_9_71) rfl kk) ?_
        rw [show Int32.ofNat i + (1 : Int32) = Int32.ofNat (i + 1) from u_add rfl]
        show Run p l e _ s m _ below meth c Z EL1 _ n0 NoB h0 0 0 (mkF m 72 #[.val (.ref a), .val (.ref q), .val (.int (Int32.ofNat r)), .val (.int (Int32.ofNat i)), .val (.int ((cs).getD i 0))] [(.int (Int32.ofNat (i + 1)))]) _
        refine k_pure (g' := (mkF m 73 #[.val (.ref a), .val (.ref q), .val (.int (Int32.ofNat r)), .val (.int (Int32.ofNat i)), .val (.int ((cs).getD i 0))] [(.ref a), (.int (Int32.ofNat (i + 1)))])) (fun TT HH tt kk => XS.aloadN HH hx rfl (hb hby d_prog_4_m_9_72) rfl rfl kk) ?_
        refine k_callV hx (y := (⟨"java/lang/String", "length", "()I"⟩ : MethodName)) (z := (⟨"java/lang/String", "length", "()I"⟩ : MethodName)) (wT 78 rfl) (wT 79 rfl) (fun s' hZ => notFace_of_selects (args := #[]) (mv hZ (wT 81 rfl))) (wT 81 rfl) (wT 80 rfl) (by decide) (W := 1) (a := a) (argsL := []) (rest := [(.int (Int32.ofNat (i + 1)))]) (pay_lenX (W := 1) hX O0 pf_0 (by decide) (by decide)) pf_0.exa rfl (by rw [hml]; rfl) (lenOf pd__28__29_I rfl) rfl (by show 2 * 0 + _ ≤ _; exact Nat.le_of_eq rfl) (hb hby d_prog_4_m_9_73) (by decide) (by decide) ?_
        intro v_81 h_82 bk_83 O_84 z_85 Q_86
        obtain ⟨rfl, rfl, rfl⟩ := Q_86
        show Run p l e _ s m _ below meth c Z EL1 _ n0 NoB h0 0 0 (mkF m 76 #[.val (.ref a), .val (.ref q), .val (.int (Int32.ofNat r)), .val (.int (Int32.ofNat i)), .val (.int ((cs).getD i 0))] [(.int (Int32.ofNat (cs).length)), (.int (Int32.ofNat (i + 1)))]) _
        refine k_pure (g' := (mkF m 79 #[.val (.ref a), .val (.ref q), .val (.int (Int32.ofNat r)), .val (.int (Int32.ofNat i)), .val (.int ((cs).getD i 0))] [])) (fun TT HH tt kk => XS.icmpNo HH hx rfl (hb hby d_prog_4_m_9_76) rfl (tlt (lt_nat (by omega) (by omega))).2.1 kk) ?_
        refine k_pure (g' := (mkF m 80 #[.val (.ref a), .val (.ref q), .val (.int (Int32.ofNat r)), .val (.int (Int32.ofNat i)), .val (.int ((cs).getD i 0))] [(.ref a)])) (fun TT HH tt kk => XS.aloadN HH hx rfl (hb hby d_prog_4_m_9_79) rfl rfl kk) ?_
        refine k_pure (g' := (mkF m 81 #[.val (.ref a), .val (.ref q), .val (.int (Int32.ofNat r)), .val (.int (Int32.ofNat i)), .val (.int ((cs).getD i 0))] [(.int (Int32.ofNat i)), (.ref a)])) (fun TT HH tt kk => XS.iloadN HH hx rfl (hb hby d_prog_4_m_9_80) rfl kk) ?_
        refine k_pure (g' := (mkF m 82 #[.val (.ref a), .val (.ref q), .val (.int (Int32.ofNat r)), .val (.int (Int32.ofNat i)), .val (.int ((cs).getD i 0))] [(.int (1 : Int32)), (.int (Int32.ofNat i)), (.ref a)])) (fun TT HH tt kk => XS.iconst HH hx rfl (hb hby d_prog_4_m_9_81) kk) ?_
        refine k_pure (g' := (mkF m 83 #[.val (.ref a), .val (.ref q), .val (.int (Int32.ofNat r)), .val (.int (Int32.ofNat i)), .val (.int ((cs).getD i 0))] [(.int ((Int32.ofNat i) + (1 : Int32))), (.ref a)])) (fun TT HH tt kk => XS.iadd HH hx rfl (hb hby d_prog_4_m_9_82) rfl kk) ?_
        rw [show Int32.ofNat i + (1 : Int32) = Int32.ofNat (i + 1) from u_add rfl]
        show Run p l e _ s m _ below meth c Z EL1 _ n0 NoB h0 0 0 (mkF m 83 #[.val (.ref a), .val (.ref q), .val (.int (Int32.ofNat r)), .val (.int (Int32.ofNat i)), .val (.int ((cs).getD i 0))] [(.int (Int32.ofNat (i + 1))), (.ref a)]) _
        refine k_callV hx (y := (⟨"java/lang/String", "charAt", "(I)C"⟩ : MethodName)) (z := (⟨"java/lang/String", "charAt", "(I)C"⟩ : MethodName)) (wT 88 rfl) (wT 89 rfl) (fun s' hZ => notFace_of_selects (args := #[]) (mv hZ (wT 91 rfl))) (wT 91 rfl) (wT 90 rfl) (by decide) (W := 0) (a := a) (argsL := [(.int (Int32.ofNat (i + 1)))]) (rest := []) (pay_chX (W := 0) hX hU O0 pf_0 (i + 1) (by omega) rfl (by decide) (by decide)) pf_0.exa rfl (by rw [hml]; rfl) (lenOf pd__28_I_29_C rfl) rfl (by show 2 * 0 + _ ≤ _; exact Nat.le_of_eq rfl) (hb hby d_prog_4_m_9_83) (by decide) (by decide) ?_
        intro v_87 h_88 bk_89 O_90 z_91 Q_92
        obtain ⟨rfl, rfl, rfl⟩ := Q_92
        show Run p l e _ s m _ below meth c Z EL1 _ n0 NoB h0 0 0 (mkF m 86 #[.val (.ref a), .val (.ref q), .val (.int (Int32.ofNat r)), .val (.int (Int32.ofNat i)), .val (.int ((cs).getD i 0))] [(.int ((cs).getD (i + 1) 0))]) _
        refine k_callS hx (y := (⟨"java/lang/Character", "isLowSurrogate", "(C)Z"⟩ : MethodName)) (wT 144 rfl) (wT 145 rfl) (wT 117 rfl) (wT 146 rfl) (by decide) (W := 0) (argsL := [(.int ((cs).getD (i + 1) 0))]) (rest := []) (Pays.of_met (rm_ils l Z a0 G1 G3 hX hU n0 h0 O0 ((cs).getD (i + 1) 0) hc2 []) (wT 146 rfl) (wT 117 rfl) (by decide) (by decide)) rfl (by rw [hml]; rfl) (lenOf pd__28_C_29_Z rfl) rfl (by show 2 * 0 + _ ≤ _; exact Nat.le_of_eq rfl) (hb hby d_prog_4_m_9_86) (by decide) (by decide) ?_
        intro v_93 h_94 bk_95 O_96 z_97 Q_98
        obtain ⟨rfl, rfl, rfl⟩ := Q_98
        show Run p l e _ s m _ below meth c Z EL1 _ n0 NoB h0 0 0 (mkF m 89 #[.val (.ref a), .val (.ref q), .val (.int (Int32.ofNat r)), .val (.int (Int32.ofNat i)), .val (.int ((cs).getD i 0))] [(.int (1 : Int32))]) _
        refine k_pure (g' := (mkF m 92 #[.val (.ref a), .val (.ref q), .val (.int (Int32.ofNat r)), .val (.int (Int32.ofNat i)), .val (.int ((cs).getD i 0))] [])) (fun TT HH tt kk => XS.ifNo HH hx rfl (hb hby d_prog_4_m_9_89) rfl ((if0 _ _).trans (feq (by decide : ¬ ((1 : Int32) = (0 : Int32)))).1) kk) ?_
        refine k_pure (g' := (mkF m 95 #[.val (.ref a), .val (.ref q), .val (.int ((Int32.ofNat r) + (4 : Int32))), .val (.int (Int32.ofNat i)), .val (.int ((cs).getD i 0))] [])) (fun TT HH tt kk => XS.iinc HH hx rfl (hb hby d_prog_4_m_9_92) rfl (l' := #[.val (.ref a), .val (.ref q), .val (.int ((Int32.ofNat r) + (4 : Int32))), .val (.int (Int32.ofNat i)), .val (.int ((cs).getD i 0))]) rfl kk) ?_
        refine k_pure (g' := (mkF m 98 #[.val (.ref a), .val (.ref q), .val (.int ((Int32.ofNat r) + (4 : Int32))), .val (.int ((Int32.ofNat i) + (1 : Int32))), .val (.int ((cs).getD i 0))] [])) (fun TT HH tt kk => XS.iinc HH hx rfl (hb hby d_prog_4_m_9_95) rfl (l' := #[.val (.ref a), .val (.ref q), .val (.int ((Int32.ofNat r) + (4 : Int32))), .val (.int ((Int32.ofNat i) + (1 : Int32))), .val (.int ((cs).getD i 0))]) rfl kk) ?_
        refine k_pure (g' := (mkF m 116 #[.val (.ref a), .val (.ref q), .val (.int ((Int32.ofNat r) + (4 : Int32))), .val (.int ((Int32.ofNat i) + (1 : Int32))), .val (.int ((cs).getD i 0))] [])) (fun TT HH tt kk => XS.goto HH hx rfl (pc0 := 98) (pc' := 116) rfl (hb hby d_prog_4_m_9_98) (by decide) (by decide) kk) ?_
        refine k_pure (g' := (mkF m 119 #[.val (.ref a), .val (.ref q), .val (.int ((Int32.ofNat r) + (4 : Int32))), .val (.int (((Int32.ofNat i) + (1 : Int32)) + (1 : Int32))), .val (.int ((cs).getD i 0))] [])) (fun TT HH tt kk => XS.iinc HH hx rfl (hb hby d_prog_4_m_9_116) rfl (l' := #[.val (.ref a), .val (.ref q), .val (.int ((Int32.ofNat r) + (4 : Int32))), .val (.int (((Int32.ofNat i) + (1 : Int32)) + (1 : Int32))), .val (.int ((cs).getD i 0))]) rfl kk) ?_
        refine k_pure (g' := (mkF m 4 #[.val (.ref a), .val (.ref q), .val (.int ((Int32.ofNat r) + (4 : Int32))), .val (.int (((Int32.ofNat i) + (1 : Int32)) + (1 : Int32))), .val (.int ((cs).getD i 0))] [])) (fun TT HH tt kk => XS.goto HH hx rfl (pc0 := 119) (pc' := 4) rfl (hb hby d_prog_4_m_9_119) (by decide) (by decide) kk) ?_
        rw [show Int32.ofNat r + (4 : Int32) = Int32.ofNat (r + 4) from u_add rfl, show Int32.ofNat i + (1 : Int32) = Int32.ofNat (i + 1) from u_add rfl, show Int32.ofNat (i + 1) + (1 : Int32) = Int32.ofNat (i + 1 + 1) from u_add rfl]
        exact ih (i + 1 + 1) (r + 4) m1 _ (Or.inr ⟨_, rfl⟩) (by rw [hd2]; exact ok1) (by omega) (by omega)
  exact loop f0 0 0 N _ (Or.inl rfl) ok (Nat.zero_add _) (Nat.zero_le _)
def Q_ckn (Z : State) (G1 : Int32) (G3 : Value) (a : Addr) (t : Addr) (kb : ClassId) (cs : List Int32) (q : Addr) (N : Nat) (f0 : Nat) (h0 : Heap) (n0 : Nat) (bk : Addr → Prop) (v : Option Value) (h : Heap) (bk' : Addr → Prop) : Prop := v = none ∧ h0 = h ∧ NoB = bk'
theorem d_prog_4_m_7_0 : decode prog_4_method_7_code 0 = .ok (.aload_n 0, 1) := by decide +kernel
theorem d_prog_4_m_7_1 : decode prog_4_method_7_code 1 = .ok (.aload_n 1, 1) := by decide +kernel
theorem d_prog_4_m_7_2 : decode prog_4_method_7_code 2 = .ok (.invokestatic 9, 3) := by decide +kernel
theorem pd__28_Ljava_2f_lang_2f_Object_3b_Ljava_2f_lang_2f_String_3b__29_Ljava_2f_lang_2f_Object_3b_ : parseMethodDescriptor "(Ljava/lang/Object;Ljava/lang/String;)Ljava/lang/Object;" = some ⟨[(.object "java/lang/Object"), (.object "java/lang/String")], some (.object "java/lang/Object")⟩ := by decide +kernel
theorem d_prog_4_m_7_5 : decode prog_4_method_7_code 5 = .ok (.pop, 1) := by decide +kernel
theorem d_prog_4_m_7_6 : decode prog_4_method_7_code 6 = .ok (.aload_n 0, 1) := by decide +kernel
theorem d_prog_4_m_7_7 : decode prog_4_method_7_code 7 = .ok (.invokevirtual 15, 3) := by decide +kernel
theorem d_prog_4_m_7_10 : decode prog_4_method_7_code 10 = .ok (.ifCond .eq 17, 3) := by decide +kernel
theorem d_prog_4_m_7_27 : decode prog_4_method_7_code 27 = .ok (.aload_n 0, 1) := by decide +kernel
theorem d_prog_4_m_7_28 : decode prog_4_method_7_code 28 = .ok (.aload_n 1, 1) := by decide +kernel
theorem d_prog_4_m_7_29 : decode prog_4_method_7_code 29 = .ok (.invokestatic 38, 3) := by decide +kernel
theorem pd__28_Ljava_2f_lang_2f_String_3b_Ljava_2f_lang_2f_String_3b__29_I : parseMethodDescriptor "(Ljava/lang/String;Ljava/lang/String;)I" = some ⟨[(.object "java/lang/String"), (.object "java/lang/String")], some .int⟩ := by decide +kernel
theorem d_prog_4_m_7_32 : decode prog_4_method_7_code 32 = .ok (.istore_n 2, 1) := by decide +kernel
theorem d_prog_4_m_7_33 : decode prog_4_method_7_code 33 = .ok (.iload_n 2, 1) := by decide +kernel
theorem d_prog_4_m_7_34 : decode prog_4_method_7_code 34 = .ok (.sipush 200, 3) := by decide +kernel
theorem d_prog_4_m_7_37 : decode prog_4_method_7_code 37 = .ok (.if_icmp .le 18, 3) := by decide +kernel
theorem d_prog_4_m_7_55 : decode prog_4_method_7_code 55 = .ok (.return_, 1) := by decide +kernel
abbrev RM_ckn : Room := { frames := 6, cells := 0, slots := 0, locals := 82 }
theorem ef_ckn (m : MethodId) (x0 : Addr) (x1 : Addr) : entryFrame m #[(.ref x0), (.ref x1)] 3 = mkF m 0 #[.val (.ref x0), .val (.ref x1), .unset] [] := by first | (simp [entryFrame, mkF, argsToLocals, Value.category]; done) | rfl
set_option maxRecDepth 65536 in
set_option maxHeartbeats 40000000 in
theorem rm_ckn (l : Launch) (Z : State) (a0 : Array Value) (G1 : Int32) (G3 : Value) (hX : Ctx Z a0 G1 G3) (hU : Wide Z) (n0 : Nat) (h0 : Heap) (O0 : Old Z n0 h0) (a : Addr) (t : Addr) (kb : ClassId) (cs : List Int32) (q : Addr) (N : Nat) (f0 : Nat) (pf_0 : StrX Z h0 a t kb cs) (ok : Ok8 f0 cs N) (hN : N ≤ 200) (l4 : cs.length ≤ 200) (l1 : 0 < cs.length) (ws : List Jvm.Cond) : Met l Z EL1 n0 NoB (⟨"com/example/eirene/eirene/KeySpace", "checkName", "(Ljava/lang/String;Ljava/lang/String;)V"⟩ : MethodName) prog_4_method_7_code 3 (Option.none : Option FieldType) RM_ckn #[(.ref a), (.ref q)] h0 (Q_ckn Z G1 G3 a t kb cs q N f0 h0 n0 NoB) ws := by
  have hX' := hX
  obtain ⟨hw, hE, S1, P1, S3, P3⟩ := hX'
  have hU' := hU
  obtain ⟨u1, u2, u3⟩ := hU'
  have hSA := sa_of hw
  have wT : ∀ (i : Nat) {d : Jvm.Cond}, tables_1[i]? = some d → d.before a0 Z = true := fun i d h => hw d (List.mem_of_getElem? h)
  have z0 : n0 ≤ h0.size := by rw [← O0.1]; exact O0.2.1
  refine Met.of (by decide +kernel) O0 hE ?_
  intro p e s m below meth c hx hby hml hret hlk hnm
  refine k_cast (ef_ckn m a q) ?_
  show Run p l e _ s m _ below meth c Z EL1 _ n0 NoB h0 0 0 (mkF m 0 #[.val (.ref a), .val (.ref q), .unset] []) _
  have lt_1 : @LT.lt Nat _ a (Array.size h0) := pf_0.lt1
  have lt_2 : @LT.lt Nat _ t (Array.size h0) := pf_0.lt2
  refine k_pure (g' := (mkF m 1 #[.val (.ref a), .val (.ref q), .unset] [(.ref a)])) (fun TT HH tt kk => XS.aloadN HH hx rfl (hb hby d_prog_4_m_7_0) rfl rfl kk) ?_
  refine k_pure (g' := (mkF m 2 #[.val (.ref a), .val (.ref q), .unset] [(.ref q), (.ref a)])) (fun TT HH tt kk => XS.aloadN HH hx rfl (hb hby d_prog_4_m_7_1) rfl rfl kk) ?_
  refine k_callS hx (y := (⟨"java/util/Objects", "requireNonNull", "(Ljava/lang/Object;Ljava/lang/String;)Ljava/lang/Object;"⟩ : MethodName)) (wT 66 rfl) (wT 67 rfl) (wT 68 rfl) (wT 69 rfl) (by decide) (W := 0) (argsL := [(.ref a), (.ref q)]) (rest := []) (Pays.of_met (rm_rnn l Z a0 G1 G3 hX hU n0 h0 O0 a q  []) (wT 69 rfl) (wT 68 rfl) (by decide) (by decide)) rfl (by rw [hml]; rfl) (lenOf pd__28_Ljava_2f_lang_2f_Object_3b_Ljava_2f_lang_2f_String_3b__29_Ljava_2f_lang_2f_Object_3b_ rfl) rfl (by show 2 * 0 + _ ≤ _; exact Nat.le_of_eq rfl) (hb hby d_prog_4_m_7_2) (by decide) (by decide) ?_
  intro v_3 h_4 bk_5 O_6 z_7 Q_8
  obtain ⟨rfl, rfl, rfl⟩ := Q_8
  show Run p l e _ s m _ below meth c Z EL1 _ n0 NoB h0 0 0 (mkF m 5 #[.val (.ref a), .val (.ref q), .unset] [(.ref a)]) _
  refine k_pure (g' := (mkF m 6 #[.val (.ref a), .val (.ref q), .unset] [])) (fun TT HH tt kk => XS.pop HH hx rfl (hb hby d_prog_4_m_7_5) rfl rfl kk) ?_
  refine k_pure (g' := (mkF m 7 #[.val (.ref a), .val (.ref q), .unset] [(.ref a)])) (fun TT HH tt kk => XS.aloadN HH hx rfl (hb hby d_prog_4_m_7_6) rfl rfl kk) ?_
  refine k_callV hx (y := (⟨"java/lang/String", "isEmpty", "()Z"⟩ : MethodName)) (z := (⟨"java/lang/String", "isEmpty", "()Z"⟩ : MethodName)) (wT 70 rfl) (wT 71 rfl) (fun s' hZ => notFace_of_selects (args := #[]) (mv hZ (wT 73 rfl))) (wT 73 rfl) (wT 72 rfl) (by decide) (W := 0) (a := a) (argsL := []) (rest := []) (pay_empX (W := 0) hX O0 pf_0 (by decide) (by decide)) pf_0.exa rfl (by rw [hml]; rfl) (lenOf pd__28__29_Z rfl) rfl (by show 2 * 0 + _ ≤ _; exact Nat.le_of_eq rfl) (hb hby d_prog_4_m_7_7) (by decide) (by decide) ?_
  intro v_9 h_10 bk_11 O_12 z_13 Q_14
  obtain ⟨rfl, rfl, rfl⟩ := Q_14
  show Run p l e _ s m _ below meth c Z EL1 _ n0 NoB h0 0 0 (mkF m 10 #[.val (.ref a), .val (.ref q), .unset] [(.int (if (cs).length = 0 then (1 : Int32) else 0))]) _
  refine k_pure (g' := (mkF m 27 #[.val (.ref a), .val (.ref q), .unset] [])) (fun TT HH tt kk => XS.ifYes HH hx rfl (pc0 := 10) (pc' := 27) rfl (hb hby d_prog_4_m_7_10) rfl ((if0 _ _).trans (teq (if_neg (by omega))).1) (by decide) (by decide) kk) ?_
  refine k_pure (g' := (mkF m 28 #[.val (.ref a), .val (.ref q), .unset] [(.ref a)])) (fun TT HH tt kk => XS.aloadN HH hx rfl (hb hby d_prog_4_m_7_27) rfl rfl kk) ?_
  refine k_pure (g' := (mkF m 29 #[.val (.ref a), .val (.ref q), .unset] [(.ref q), (.ref a)])) (fun TT HH tt kk => XS.aloadN HH hx rfl (hb hby d_prog_4_m_7_28) rfl rfl kk) ?_
  refine k_callS hx (y := (⟨"com/example/eirene/eirene/KeySpace", "utf8Length", "(Ljava/lang/String;Ljava/lang/String;)I"⟩ : MethodName)) (wT 75 rfl) (wT 76 rfl) (wT 64 rfl) (wT 77 rfl) (by decide) (W := 0) (argsL := [(.ref a), (.ref q)]) (rest := []) (Pays.of_met (rm_u8 l Z a0 G1 G3 hX hU n0 h0 O0 a t kb cs q N f0 pf_0 ok hN l4 []) (wT 77 rfl) (wT 64 rfl) (by decide) (by decide)) rfl (by rw [hml]; rfl) (lenOf pd__28_Ljava_2f_lang_2f_String_3b_Ljava_2f_lang_2f_String_3b__29_I rfl) rfl (by show 2 * 0 + _ ≤ _; exact Nat.le_of_eq rfl) (hb hby d_prog_4_m_7_29) (by decide) (by decide) ?_
  intro v_15 h_16 bk_17 O_18 z_19 Q_20
  obtain ⟨rfl, rfl, rfl⟩ := Q_20
  show Run p l e _ s m _ below meth c Z EL1 _ n0 NoB h0 0 0 (mkF m 32 #[.val (.ref a), .val (.ref q), .unset] [(.int (Int32.ofNat N))]) _
  refine k_pure (g' := (mkF m 33 #[.val (.ref a), .val (.ref q), .val (.int (Int32.ofNat N))] [])) (fun TT HH tt kk => XS.istoreN HH hx rfl (hb hby d_prog_4_m_7_32) rfl (l' := #[.val (.ref a), .val (.ref q), .val (.int (Int32.ofNat N))]) rfl kk) ?_
  refine k_pure (g' := (mkF m 34 #[.val (.ref a), .val (.ref q), .val (.int (Int32.ofNat N))] [(.int (Int32.ofNat N))])) (fun TT HH tt kk => XS.iloadN HH hx rfl (hb hby d_prog_4_m_7_33) rfl kk) ?_
  refine k_pure (g' := (mkF m 37 #[.val (.ref a), .val (.ref q), .val (.int (Int32.ofNat N))] [(.int (200 : Int32)), (.int (Int32.ofNat N))])) (fun TT HH tt kk => XS.sipush HH hx rfl (hb hby d_prog_4_m_7_34) kk) ?_
  refine k_pure (g' := (mkF m 55 #[.val (.ref a), .val (.ref q), .val (.int (Int32.ofNat N))] [])) (fun TT HH tt kk => XS.icmpYes HH hx rfl (pc0 := 37) (pc' := 55) rfl (hb hby d_prog_4_m_7_37) rfl (flt (not_lt_nat (i := 200) (by omega) (by omega))).2.2.2 (by decide) (by decide) kk) ?_
  exact k_ret0 hx hlk hret (hb hby d_prog_4_m_7_55) (by decide) (by decide) ⟨rfl, rfl, rfl⟩
def Q_uni0 (Z : State) (G1 : Int32) (G3 : Value) (q : Addr) (kq : ClassId) (ka : Int32) (va : Int32) (h0 : Heap) (n0 : Nat) (bk : Addr → Prop) (v : Option Value) (h : Heap) (bk' : Addr → Prop) : Prop := ∃ (x1 : Int32), ∃ (y1 : Int32), ∃ (b1 : Int32), v = some (.int b1) ∧ NoB = bk' ∧ Keep h0 h [q] ∧ (Arv Z h q kq .char (4 : Int32) [(.int x1), (.int y1), (.int (0 : Int32)), (.int (0 : Int32))] (.int (0 : Int32))) ∧ (Un ka x1 y1 b1)
theorem d_m_3_0 : decode method_3_code 0 = .ok (.iload_n 2, 1) := by decide +kernel
theorem d_m_3_1 : decode method_3_code 1 = .ok (.iconst 3, 1) := by decide +kernel
theorem d_m_3_2 : decode method_3_code 2 = .ok (.iand, 1) := by decide +kernel
theorem d_m_3_3 : decode method_3_code 3 = .ok (.istore 4, 2) := by decide +kernel
theorem d_m_3_5 : decode method_3_code 5 = .ok (.iload 4, 2) := by decide +kernel
theorem d_m_3_7 : decode method_3_code 7 = .ok (.ifCond .ne 26, 3) := by decide +kernel
theorem d_m_3_10 : decode method_3_code 10 = .ok (.aload_n 0, 1) := by decide +kernel
theorem d_m_3_11 : decode method_3_code 11 = .ok (.iload_n 1, 1) := by decide +kernel
theorem d_m_3_12 : decode method_3_code 12 = .ok (.iload_n 3, 1) := by decide +kernel
theorem d_m_3_13 : decode method_3_code 13 = .ok (.bipush 127, 2) := by decide +kernel
theorem d_m_3_15 : decode method_3_code 15 = .ok (.iand, 1) := by decide +kernel
theorem d_m_3_16 : decode method_3_code 16 = .ok (.i2c, 1) := by decide +kernel
theorem d_m_3_17 : decode method_3_code 17 = .ok (.castore, 1) := by decide +kernel
theorem d_m_3_18 : decode method_3_code 18 = .ok (.aload_n 0, 1) := by decide +kernel
theorem d_m_3_19 : decode method_3_code 19 = .ok (.iload_n 1, 1) := by decide +kernel
theorem d_m_3_20 : decode method_3_code 20 = .ok (.iconst 1, 1) := by decide +kernel
theorem d_m_3_21 : decode method_3_code 21 = .ok (.iadd, 1) := by decide +kernel
theorem d_m_3_22 : decode method_3_code 22 = .ok (.iload_n 3, 1) := by decide +kernel
theorem d_m_3_23 : decode method_3_code 23 = .ok (.bipush 8, 2) := by decide +kernel
theorem d_m_3_25 : decode method_3_code 25 = .ok (.iushr, 1) := by decide +kernel
theorem d_m_3_26 : decode method_3_code 26 = .ok (.bipush 127, 2) := by decide +kernel
theorem d_m_3_28 : decode method_3_code 28 = .ok (.iand, 1) := by decide +kernel
theorem d_m_3_29 : decode method_3_code 29 = .ok (.i2c, 1) := by decide +kernel
theorem d_m_3_30 : decode method_3_code 30 = .ok (.castore, 1) := by decide +kernel
theorem d_m_3_31 : decode method_3_code 31 = .ok (.iconst 2, 1) := by decide +kernel
theorem d_m_3_32 : decode method_3_code 32 = .ok (.ireturn, 1) := by decide +kernel
theorem d_m_3_33 : decode method_3_code 33 = .ok (.iload 4, 2) := by decide +kernel
theorem d_m_3_35 : decode method_3_code 35 = .ok (.iconst 1, 1) := by decide +kernel
theorem d_m_3_36 : decode method_3_code 36 = .ok (.if_icmp .ne 34, 3) := by decide +kernel
theorem d_m_3_39 : decode method_3_code 39 = .ok (.aload_n 0, 1) := by decide +kernel
theorem d_m_3_40 : decode method_3_code 40 = .ok (.iload_n 1, 1) := by decide +kernel
theorem d_m_3_41 : decode method_3_code 41 = .ok (.sipush 128, 3) := by decide +kernel
theorem d_m_3_44 : decode method_3_code 44 = .ok (.iload_n 3, 1) := by decide +kernel
theorem d_m_3_45 : decode method_3_code 45 = .ok (.ldc 34, 2) := by decide +kernel
theorem d_m_3_47 : decode method_3_code 47 = .ok (.iand, 1) := by decide +kernel
theorem d_m_3_48 : decode method_3_code 48 = .ok (.sipush 1920, 3) := by decide +kernel
theorem d_m_3_51 : decode method_3_code 51 = .ok (.irem, 1) := by decide +kernel
theorem d_m_3_52 : decode method_3_code 52 = .ok (.iadd, 1) := by decide +kernel
theorem d_m_3_53 : decode method_3_code 53 = .ok (.i2c, 1) := by decide +kernel
theorem d_m_3_54 : decode method_3_code 54 = .ok (.castore, 1) := by decide +kernel
theorem d_m_3_55 : decode method_3_code 55 = .ok (.aload_n 0, 1) := by decide +kernel
theorem d_m_3_56 : decode method_3_code 56 = .ok (.iload_n 1, 1) := by decide +kernel
theorem d_m_3_57 : decode method_3_code 57 = .ok (.iconst 1, 1) := by decide +kernel
theorem d_m_3_58 : decode method_3_code 58 = .ok (.iadd, 1) := by decide +kernel
theorem d_m_3_59 : decode method_3_code 59 = .ok (.iload_n 3, 1) := by decide +kernel
theorem d_m_3_60 : decode method_3_code 60 = .ok (.bipush 24, 2) := by decide +kernel
theorem d_m_3_62 : decode method_3_code 62 = .ok (.iushr, 1) := by decide +kernel
theorem d_m_3_63 : decode method_3_code 63 = .ok (.bipush 127, 2) := by decide +kernel
theorem d_m_3_65 : decode method_3_code 65 = .ok (.iand, 1) := by decide +kernel
theorem d_m_3_66 : decode method_3_code 66 = .ok (.i2c, 1) := by decide +kernel
theorem d_m_3_67 : decode method_3_code 67 = .ok (.castore, 1) := by decide +kernel
theorem d_m_3_68 : decode method_3_code 68 = .ok (.iconst 3, 1) := by decide +kernel
theorem d_m_3_69 : decode method_3_code 69 = .ok (.ireturn, 1) := by decide +kernel
theorem d_m_3_70 : decode method_3_code 70 = .ok (.iload 4, 2) := by decide +kernel
theorem d_m_3_72 : decode method_3_code 72 = .ok (.iconst 2, 1) := by decide +kernel
theorem d_m_3_73 : decode method_3_code 73 = .ok (.if_icmp .ne 52, 3) := by decide +kernel
theorem d_m_3_76 : decode method_3_code 76 = .ok (.sipush 2048, 3) := by decide +kernel
theorem d_m_3_79 : decode method_3_code 79 = .ok (.iload_n 3, 1) := by decide +kernel
theorem d_m_3_80 : decode method_3_code 80 = .ok (.ldc 34, 2) := by decide +kernel
theorem d_m_3_82 : decode method_3_code 82 = .ok (.iand, 1) := by decide +kernel
theorem d_m_3_83 : decode method_3_code 83 = .ok (.ldc 35, 2) := by decide +kernel
theorem d_m_3_85 : decode method_3_code 85 = .ok (.irem, 1) := by decide +kernel
theorem d_m_3_86 : decode method_3_code 86 = .ok (.iadd, 1) := by decide +kernel
theorem d_m_3_87 : decode method_3_code 87 = .ok (.istore 5, 2) := by decide +kernel
theorem d_m_3_89 : decode method_3_code 89 = .ok (.iload 5, 2) := by decide +kernel
theorem d_m_3_91 : decode method_3_code 91 = .ok (.ldc 36, 2) := by decide +kernel
theorem d_m_3_93 : decode method_3_code 93 = .ok (.if_icmp .lt 11, 3) := by decide +kernel
theorem d_m_3_104 : decode method_3_code 104 = .ok (.aload_n 0, 1) := by decide +kernel
theorem d_m_3_105 : decode method_3_code 105 = .ok (.iload_n 1, 1) := by decide +kernel
theorem d_m_3_106 : decode method_3_code 106 = .ok (.iload 5, 2) := by decide +kernel
theorem d_m_3_108 : decode method_3_code 108 = .ok (.i2c, 1) := by decide +kernel
theorem d_m_3_109 : decode method_3_code 109 = .ok (.castore, 1) := by decide +kernel
theorem d_m_3_110 : decode method_3_code 110 = .ok (.aload_n 0, 1) := by decide +kernel
theorem d_m_3_111 : decode method_3_code 111 = .ok (.iload_n 1, 1) := by decide +kernel
theorem d_m_3_112 : decode method_3_code 112 = .ok (.iconst 1, 1) := by decide +kernel
theorem d_m_3_113 : decode method_3_code 113 = .ok (.iadd, 1) := by decide +kernel
theorem d_m_3_114 : decode method_3_code 114 = .ok (.iload_n 3, 1) := by decide +kernel
theorem d_m_3_115 : decode method_3_code 115 = .ok (.bipush 24, 2) := by decide +kernel
theorem d_m_3_117 : decode method_3_code 117 = .ok (.iushr, 1) := by decide +kernel
theorem d_m_3_118 : decode method_3_code 118 = .ok (.bipush 127, 2) := by decide +kernel
theorem d_m_3_120 : decode method_3_code 120 = .ok (.iand, 1) := by decide +kernel
theorem d_m_3_121 : decode method_3_code 121 = .ok (.i2c, 1) := by decide +kernel
theorem d_m_3_122 : decode method_3_code 122 = .ok (.castore, 1) := by decide +kernel
theorem d_m_3_123 : decode method_3_code 123 = .ok (.iconst 4, 1) := by decide +kernel
theorem d_m_3_124 : decode method_3_code 124 = .ok (.ireturn, 1) := by decide +kernel
theorem d_m_3_96 : decode method_3_code 96 = .ok (.iload 5, 2) := by decide +kernel
theorem d_m_3_98 : decode method_3_code 98 = .ok (.sipush 2048, 3) := by decide +kernel
theorem d_m_3_101 : decode method_3_code 101 = .ok (.iadd, 1) := by decide +kernel
theorem d_m_3_102 : decode method_3_code 102 = .ok (.istore 5, 2) := by decide +kernel
theorem d_m_3_125 : decode method_3_code 125 = .ok (.aload_n 0, 1) := by decide +kernel
theorem d_m_3_126 : decode method_3_code 126 = .ok (.iload_n 1, 1) := by decide +kernel
theorem d_m_3_127 : decode method_3_code 127 = .ok (.ldc 36, 2) := by decide +kernel
theorem d_m_3_129 : decode method_3_code 129 = .ok (.iload_n 3, 1) := by decide +kernel
theorem d_m_3_130 : decode method_3_code 130 = .ok (.sipush 1023, 3) := by decide +kernel
theorem d_m_3_133 : decode method_3_code 133 = .ok (.iand, 1) := by decide +kernel
theorem d_m_3_134 : decode method_3_code 134 = .ok (.iadd, 1) := by decide +kernel
theorem d_m_3_135 : decode method_3_code 135 = .ok (.i2c, 1) := by decide +kernel
theorem d_m_3_136 : decode method_3_code 136 = .ok (.castore, 1) := by decide +kernel
theorem d_m_3_137 : decode method_3_code 137 = .ok (.aload_n 0, 1) := by decide +kernel
theorem d_m_3_138 : decode method_3_code 138 = .ok (.iload_n 1, 1) := by decide +kernel
theorem d_m_3_139 : decode method_3_code 139 = .ok (.iconst 1, 1) := by decide +kernel
theorem d_m_3_140 : decode method_3_code 140 = .ok (.iadd, 1) := by decide +kernel
theorem d_m_3_141 : decode method_3_code 141 = .ok (.ldc 37, 2) := by decide +kernel
theorem d_m_3_143 : decode method_3_code 143 = .ok (.iload_n 3, 1) := by decide +kernel
theorem d_m_3_144 : decode method_3_code 144 = .ok (.bipush 10, 2) := by decide +kernel
theorem d_m_3_146 : decode method_3_code 146 = .ok (.iushr, 1) := by decide +kernel
theorem d_m_3_147 : decode method_3_code 147 = .ok (.sipush 1023, 3) := by decide +kernel
theorem d_m_3_150 : decode method_3_code 150 = .ok (.iand, 1) := by decide +kernel
theorem d_m_3_151 : decode method_3_code 151 = .ok (.iadd, 1) := by decide +kernel
theorem d_m_3_152 : decode method_3_code 152 = .ok (.i2c, 1) := by decide +kernel
theorem d_m_3_153 : decode method_3_code 153 = .ok (.castore, 1) := by decide +kernel
theorem d_m_3_154 : decode method_3_code 154 = .ok (.iconst 4, 1) := by decide +kernel
theorem d_m_3_155 : decode method_3_code 155 = .ok (.ireturn, 1) := by decide +kernel
abbrev RM_uni0 : Room := { frames := 0, cells := 0, slots := 0, locals := 0 }
theorem ef_uni0 (m : MethodId) (x0 : Addr) (x1 : Int32) (x2 : Int32) (x3 : Int32) : entryFrame m #[(.ref x0), (.int x1), (.int x2), (.int x3)] 6 = mkF m 0 #[.val (.ref x0), .val (.int x1), .val (.int x2), .val (.int x3), .unset, .unset] [] := by first | (simp [entryFrame, mkF, argsToLocals, Value.category]; done) | rfl
set_option maxRecDepth 65536 in
set_option maxHeartbeats 40000000 in
theorem rm_uni0 (l : Launch) (Z : State) (a0 : Array Value) (G1 : Int32) (G3 : Value) (hX : Ctx Z a0 G1 G3) (hU : Wide Z) (n0 : Nat) (h0 : Heap) (O0 : Old Z n0 h0) (q : Addr) (kq : ClassId) (ka : Int32) (va : Int32) (pf_0 : Arv Z h0 q kq .char (4 : Int32) [(.int (0 : Int32)), (.int (0 : Int32)), (.int (0 : Int32)), (.int (0 : Int32))] (.int (0 : Int32))) (gq : n0 ≤ q) (ws : List Jvm.Cond) : Met l Z EL1 n0 NoB (⟨"com/example/eirene/eirene/KeySpaceCheckNamePinLaw", "unit", "([CIII)I"⟩ : MethodName) method_3_code 6 (Option.some FieldType.int) RM_uni0 #[(.ref q), (.int (0 : Int32)), (.int ka), (.int va)] h0 (Q_uni0 Z G1 G3 q kq ka va h0 n0 NoB) ws := by
  have hX' := hX
  obtain ⟨hw, hE, S1, P1, S3, P3⟩ := hX'
  have hU' := hU
  obtain ⟨u1, u2, u3⟩ := hU'
  have hSA := sa_of hw
  have wT : ∀ (i : Nat) {d : Jvm.Cond}, tables_1[i]? = some d → d.before a0 Z = true := fun i d h => hw d (List.mem_of_getElem? h)
  have z0 : n0 ≤ h0.size := by rw [← O0.1]; exact O0.2.1
  refine Met.of (by decide +kernel) O0 hE ?_
  intro p e s m below meth c hx hby hml hret hlk hnm
  refine k_cast (ef_uni0 m q (0 : Int32) ka va) ?_
  show Run p l e _ s m _ below meth c Z EL1 _ n0 NoB h0 0 0 (mkF m 0 #[.val (.ref q), .val (.int (0 : Int32)), .val (.int ka), .val (.int va), .unset, .unset] []) _
  have lt_1 : @LT.lt Nat _ q (Array.size h0) := pf_0.lt
  refine k_pure (g' := (mkF m 1 #[.val (.ref q), .val (.int (0 : Int32)), .val (.int ka), .val (.int va), .unset, .unset] [(.int ka)])) (fun TT HH tt kk => XS.iloadN HH hx rfl (hb hby d_m_3_0) rfl kk) ?_
  refine k_pure (g' := (mkF m 2 #[.val (.ref q), .val (.int (0 : Int32)), .val (.int ka), .val (.int va), .unset, .unset] [(.int (3 : Int32)), (.int ka)])) (fun TT HH tt kk => XS.iconst HH hx rfl (hb hby d_m_3_1) kk) ?_
  refine k_pure (g' := (mkF m 3 #[.val (.ref q), .val (.int (0 : Int32)), .val (.int ka), .val (.int va), .unset, .unset] [(.int (ka &&& (3 : Int32)))])) (fun TT HH tt kk => XS.iand HH hx rfl (hb hby d_m_3_2) rfl kk) ?_
  refine k_pure (g' := (mkF m 5 #[.val (.ref q), .val (.int (0 : Int32)), .val (.int ka), .val (.int va), .val (.int (ka &&& (3 : Int32))), .unset] [])) (fun TT HH tt kk => XS.istore HH hx rfl (hb hby d_m_3_3) rfl (l' := #[.val (.ref q), .val (.int (0 : Int32)), .val (.int ka), .val (.int va), .val (.int (ka &&& (3 : Int32))), .unset]) rfl kk) ?_
  refine k_pure (g' := (mkF m 7 #[.val (.ref q), .val (.int (0 : Int32)), .val (.int ka), .val (.int va), .val (.int (ka &&& (3 : Int32))), .unset] [(.int (ka &&& (3 : Int32)))])) (fun TT HH tt kk => XS.iload HH hx rfl (hb hby d_m_3_5) rfl kk) ?_
  by_cases c_2 : (ka &&& (3 : Int32)) = (0 : Int32)
  · refine k_pure (g' := (mkF m 10 #[.val (.ref q), .val (.int (0 : Int32)), .val (.int ka), .val (.int va), .val (.int (ka &&& (3 : Int32))), .unset] [])) (fun TT HH tt kk => XS.ifNo HH hx rfl (hb hby d_m_3_7) rfl ((if0 _ _).trans (teq c_2).2) kk) ?_
    refine k_pure (g' := (mkF m 11 #[.val (.ref q), .val (.int (0 : Int32)), .val (.int ka), .val (.int va), .val (.int (ka &&& (3 : Int32))), .unset] [(.ref q)])) (fun TT HH tt kk => XS.aloadN HH hx rfl (hb hby d_m_3_10) rfl rfl kk) ?_
    refine k_pure (g' := (mkF m 12 #[.val (.ref q), .val (.int (0 : Int32)), .val (.int ka), .val (.int va), .val (.int (ka &&& (3 : Int32))), .unset] [(.int (0 : Int32)), (.ref q)])) (fun TT HH tt kk => XS.iloadN HH hx rfl (hb hby d_m_3_11) rfl kk) ?_
    refine k_pure (g' := (mkF m 13 #[.val (.ref q), .val (.int (0 : Int32)), .val (.int ka), .val (.int va), .val (.int (ka &&& (3 : Int32))), .unset] [(.int va), (.int (0 : Int32)), (.ref q)])) (fun TT HH tt kk => XS.iloadN HH hx rfl (hb hby d_m_3_12) rfl kk) ?_
    refine k_pure (g' := (mkF m 15 #[.val (.ref q), .val (.int (0 : Int32)), .val (.int ka), .val (.int va), .val (.int (ka &&& (3 : Int32))), .unset] [(.int (127 : Int32)), (.int va), (.int (0 : Int32)), (.ref q)])) (fun TT HH tt kk => XS.bipush HH hx rfl (hb hby d_m_3_13) kk) ?_
    refine k_pure (g' := (mkF m 16 #[.val (.ref q), .val (.int (0 : Int32)), .val (.int ka), .val (.int va), .val (.int (ka &&& (3 : Int32))), .unset] [(.int (va &&& (127 : Int32))), (.int (0 : Int32)), (.ref q)])) (fun TT HH tt kk => XS.iand HH hx rfl (hb hby d_m_3_15) rfl kk) ?_
    refine k_pure (g' := (mkF m 17 #[.val (.ref q), .val (.int (0 : Int32)), .val (.int ka), .val (.int va), .val (.int (ka &&& (3 : Int32))), .unset] [(.int ((va &&& (127 : Int32)).toUInt32.toUInt16.toUInt32.toInt32)), (.int (0 : Int32)), (.ref q)])) (fun TT HH tt kk => XS.i2c HH hx rfl (hb hby d_m_3_16) rfl kk) ?_
    refine k_stC hx pf_0 ⟨by decide, by decide⟩ 0 (by decide) (Nat.le_of_ble_eq_true rfl) (by omega) (fun q => q) rfl rfl (hb hby d_m_3_17) ?_
    intro h_3 O_4 W_5 A_6
    have z_7 := W_5.size
    have V_8 : Arv Z h_3 q kq .char (4 : Int32) [(.int (nar .char ((va &&& (127 : Int32)).toUInt32.toUInt16.toUInt32.toInt32))), (.int (0 : Int32)), (.int (0 : Int32)), (.int (0 : Int32))] (.int (0 : Int32)) := A_6
    show Run p l e _ s m _ below meth c Z EL1 _ n0 NoB h_3 0 0 (mkF m 18 #[.val (.ref q), .val (.int (0 : Int32)), .val (.int ka), .val (.int va), .val (.int (ka &&& (3 : Int32))), .unset] []) _
    refine k_pure (g' := (mkF m 19 #[.val (.ref q), .val (.int (0 : Int32)), .val (.int ka), .val (.int va), .val (.int (ka &&& (3 : Int32))), .unset] [(.ref q)])) (fun TT HH tt kk => XS.aloadN HH hx rfl (hb hby d_m_3_18) rfl rfl kk) ?_
    refine k_pure (g' := (mkF m 20 #[.val (.ref q), .val (.int (0 : Int32)), .val (.int ka), .val (.int va), .val (.int (ka &&& (3 : Int32))), .unset] [(.int (0 : Int32)), (.ref q)])) (fun TT HH tt kk => XS.iloadN HH hx rfl (hb hby d_m_3_19) rfl kk) ?_
    refine k_pure (g' := (mkF m 21 #[.val (.ref q), .val (.int (0 : Int32)), .val (.int ka), .val (.int va), .val (.int (ka &&& (3 : Int32))), .unset] [(.int (1 : Int32)), (.int (0 : Int32)), (.ref q)])) (fun TT HH tt kk => XS.iconst HH hx rfl (hb hby d_m_3_20) kk) ?_
    refine k_pure (g' := (mkF m 22 #[.val (.ref q), .val (.int (0 : Int32)), .val (.int ka), .val (.int va), .val (.int (ka &&& (3 : Int32))), .unset] [(.int (1 : Int32)), (.ref q)])) (fun TT HH tt kk => XS.iadd HH hx rfl (hb hby d_m_3_21) rfl kk) ?_
    refine k_pure (g' := (mkF m 23 #[.val (.ref q), .val (.int (0 : Int32)), .val (.int ka), .val (.int va), .val (.int (ka &&& (3 : Int32))), .unset] [(.int va), (.int (1 : Int32)), (.ref q)])) (fun TT HH tt kk => XS.iloadN HH hx rfl (hb hby d_m_3_22) rfl kk) ?_
    refine k_pure (g' := (mkF m 25 #[.val (.ref q), .val (.int (0 : Int32)), .val (.int ka), .val (.int va), .val (.int (ka &&& (3 : Int32))), .unset] [(.int (8 : Int32)), (.int va), (.int (1 : Int32)), (.ref q)])) (fun TT HH tt kk => XS.bipush HH hx rfl (hb hby d_m_3_23) kk) ?_
    refine k_pure (g' := (mkF m 26 #[.val (.ref q), .val (.int (0 : Int32)), .val (.int ka), .val (.int va), .val (.int (ka &&& (3 : Int32))), .unset] [(.int ((va.toUInt32 >>> ((8 : Int32) &&& 31).toUInt32).toInt32)), (.int (1 : Int32)), (.ref q)])) (fun TT HH tt kk => XS.iushr HH hx rfl (hb hby d_m_3_25) rfl kk) ?_
    refine k_pure (g' := (mkF m 28 #[.val (.ref q), .val (.int (0 : Int32)), .val (.int ka), .val (.int va), .val (.int (ka &&& (3 : Int32))), .unset] [(.int (127 : Int32)), (.int ((va.toUInt32 >>> ((8 : Int32) &&& 31).toUInt32).toInt32)), (.int (1 : Int32)), (.ref q)])) (fun TT HH tt kk => XS.bipush HH hx rfl (hb hby d_m_3_26) kk) ?_
    refine k_pure (g' := (mkF m 29 #[.val (.ref q), .val (.int (0 : Int32)), .val (.int ka), .val (.int va), .val (.int (ka &&& (3 : Int32))), .unset] [(.int (((va.toUInt32 >>> ((8 : Int32) &&& 31).toUInt32).toInt32) &&& (127 : Int32))), (.int (1 : Int32)), (.ref q)])) (fun TT HH tt kk => XS.iand HH hx rfl (hb hby d_m_3_28) rfl kk) ?_
    refine k_pure (g' := (mkF m 30 #[.val (.ref q), .val (.int (0 : Int32)), .val (.int ka), .val (.int va), .val (.int (ka &&& (3 : Int32))), .unset] [(.int ((((va.toUInt32 >>> ((8 : Int32) &&& 31).toUInt32).toInt32) &&& (127 : Int32)).toUInt32.toUInt16.toUInt32.toInt32)), (.int (1 : Int32)), (.ref q)])) (fun TT HH tt kk => XS.i2c HH hx rfl (hb hby d_m_3_29) rfl kk) ?_
    refine k_stC hx V_8 ⟨by decide, by decide⟩ 1 (by decide) (Nat.le_of_ble_eq_true rfl) (by omega) (fun q => q) rfl rfl (hb hby d_m_3_30) ?_
    intro h_9 O_10 W_11 A_12
    have z_13 := W_11.size
    have V_14 : Arv Z h_9 q kq .char (4 : Int32) [(.int (nar .char ((va &&& (127 : Int32)).toUInt32.toUInt16.toUInt32.toInt32))), (.int (nar .char ((((va.toUInt32 >>> ((8 : Int32) &&& 31).toUInt32).toInt32) &&& (127 : Int32)).toUInt32.toUInt16.toUInt32.toInt32))), (.int (0 : Int32)), (.int (0 : Int32))] (.int (0 : Int32)) := A_12
    show Run p l e _ s m _ below meth c Z EL1 _ n0 NoB h_9 0 0 (mkF m 31 #[.val (.ref q), .val (.int (0 : Int32)), .val (.int ka), .val (.int va), .val (.int (ka &&& (3 : Int32))), .unset] []) _
    refine k_pure (g' := (mkF m 32 #[.val (.ref q), .val (.int (0 : Int32)), .val (.int ka), .val (.int va), .val (.int (ka &&& (3 : Int32))), .unset] [(.int (2 : Int32))])) (fun TT HH tt kk => XS.iconst HH hx rfl (hb hby d_m_3_31) kk) ?_
    exact k_retI hx hlk hret (hb hby d_m_3_32) (by decide) (by decide) ⟨(nar .char ((va &&& (127 : Int32)).toUInt32.toUInt16.toUInt32.toInt32)), (nar .char ((((va.toUInt32 >>> ((8 : Int32) &&& 31).toUInt32).toInt32) &&& (127 : Int32)).toUInt32.toUInt16.toUInt32.toInt32)), _, rfl, rfl, (((Keep.refl _ _).wr W_5 (Or.inl (by simp))).wr W_11 (Or.inl (by simp))), V_14, (by have r0 := rng32 ka; have r1 : (ka &&& (3 : Int32)).toInt = ka.toInt % 4 := (c_mask ka (3 : Int32) 2 (by decide) (by decide)); have r2 := rng32 (ka &&& (3 : Int32)); have r3 : (0 : Int32).toInt = 0 := (by decide); have r4 := rng32 va; have r5 : (va &&& (127 : Int32)).toInt = va.toInt % 128 := (c_mask va (127 : Int32) 7 (by decide) (by decide)); have r6 := rng32 (va &&& (127 : Int32)); have r7 := c_i2c (va &&& (127 : Int32)); have r8 : ((nar .char ((va &&& (127 : Int32)).toUInt32.toUInt16.toUInt32.toInt32)).toInt - ((va &&& (127 : Int32)).toUInt32.toUInt16.toUInt32.toInt32).toInt) % 65536 = 0 ∧ 0 ≤ (nar .char ((va &&& (127 : Int32)).toUInt32.toUInt16.toUInt32.toInt32)).toInt ∧ (nar .char ((va &&& (127 : Int32)).toUInt32.toUInt16.toUInt32.toInt32)).toInt < 65536 := (c_i2c ((va &&& (127 : Int32)).toUInt32.toUInt16.toUInt32.toInt32)); have r9 : ((va.toUInt32 >>> ((8 : Int32) &&& 31).toUInt32).toInt32).toInt = (va.toInt % 4294967296) / 256 := (c_iushr va (8 : Int32) 8 (by decide) (by decide)); have r10 := rng32 ((va.toUInt32 >>> ((8 : Int32) &&& 31).toUInt32).toInt32); have r11 : (((va.toUInt32 >>> ((8 : Int32) &&& 31).toUInt32).toInt32) &&& (127 : Int32)).toInt = ((va.toUInt32 >>> ((8 : Int32) &&& 31).toUInt32).toInt32).toInt % 128 := (c_mask ((va.toUInt32 >>> ((8 : Int32) &&& 31).toUInt32).toInt32) (127 : Int32) 7 (by decide) (by decide)); have r12 := rng32 (((va.toUInt32 >>> ((8 : Int32) &&& 31).toUInt32).toInt32) &&& (127 : Int32)); have r13 := c_i2c (((va.toUInt32 >>> ((8 : Int32) &&& 31).toUInt32).toInt32) &&& (127 : Int32)); have r14 : ((nar .char ((((va.toUInt32 >>> ((8 : Int32) &&& 31).toUInt32).toInt32) &&& (127 : Int32)).toUInt32.toUInt16.toUInt32.toInt32)).toInt - ((((va.toUInt32 >>> ((8 : Int32) &&& 31).toUInt32).toInt32) &&& (127 : Int32)).toUInt32.toUInt16.toUInt32.toInt32).toInt) % 65536 = 0 ∧ 0 ≤ (nar .char ((((va.toUInt32 >>> ((8 : Int32) &&& 31).toUInt32).toInt32) &&& (127 : Int32)).toUInt32.toUInt16.toUInt32.toInt32)).toInt ∧ (nar .char ((((va.toUInt32 >>> ((8 : Int32) &&& 31).toUInt32).toInt32) &&& (127 : Int32)).toUInt32.toUInt16.toUInt32.toInt32)).toInt < 65536 := (c_i2c ((((va.toUInt32 >>> ((8 : Int32) &&& 31).toUInt32).toInt32) &&& (127 : Int32)).toUInt32.toUInt16.toUInt32.toInt32)); have r15 : (2 : Int32).toInt = 2 := (by decide); have r16 := (congrArg Int32.toInt c_2); unfold Un; omega)⟩
  · refine k_pure (g' := (mkF m 33 #[.val (.ref q), .val (.int (0 : Int32)), .val (.int ka), .val (.int va), .val (.int (ka &&& (3 : Int32))), .unset] [])) (fun TT HH tt kk => XS.ifYes HH hx rfl (pc0 := 7) (pc' := 33) rfl (hb hby d_m_3_7) rfl ((if0 _ _).trans (feq c_2).2) (by decide) (by decide) kk) ?_
    refine k_pure (g' := (mkF m 35 #[.val (.ref q), .val (.int (0 : Int32)), .val (.int ka), .val (.int va), .val (.int (ka &&& (3 : Int32))), .unset] [(.int (ka &&& (3 : Int32)))])) (fun TT HH tt kk => XS.iload HH hx rfl (hb hby d_m_3_33) rfl kk) ?_
    refine k_pure (g' := (mkF m 36 #[.val (.ref q), .val (.int (0 : Int32)), .val (.int ka), .val (.int va), .val (.int (ka &&& (3 : Int32))), .unset] [(.int (1 : Int32)), (.int (ka &&& (3 : Int32)))])) (fun TT HH tt kk => XS.iconst HH hx rfl (hb hby d_m_3_35) kk) ?_
    by_cases c_15 : (ka &&& (3 : Int32)) = (1 : Int32)
    · refine k_pure (g' := (mkF m 39 #[.val (.ref q), .val (.int (0 : Int32)), .val (.int ka), .val (.int va), .val (.int (ka &&& (3 : Int32))), .unset] [])) (fun TT HH tt kk => XS.icmpNo HH hx rfl (hb hby d_m_3_36) rfl (teq c_15).2 kk) ?_
      refine k_pure (g' := (mkF m 40 #[.val (.ref q), .val (.int (0 : Int32)), .val (.int ka), .val (.int va), .val (.int (ka &&& (3 : Int32))), .unset] [(.ref q)])) (fun TT HH tt kk => XS.aloadN HH hx rfl (hb hby d_m_3_39) rfl rfl kk) ?_
      refine k_pure (g' := (mkF m 41 #[.val (.ref q), .val (.int (0 : Int32)), .val (.int ka), .val (.int va), .val (.int (ka &&& (3 : Int32))), .unset] [(.int (0 : Int32)), (.ref q)])) (fun TT HH tt kk => XS.iloadN HH hx rfl (hb hby d_m_3_40) rfl kk) ?_
      refine k_pure (g' := (mkF m 44 #[.val (.ref q), .val (.int (0 : Int32)), .val (.int ka), .val (.int va), .val (.int (ka &&& (3 : Int32))), .unset] [(.int (128 : Int32)), (.int (0 : Int32)), (.ref q)])) (fun TT HH tt kk => XS.sipush HH hx rfl (hb hby d_m_3_41) kk) ?_
      refine k_pure (g' := (mkF m 45 #[.val (.ref q), .val (.int (0 : Int32)), .val (.int ka), .val (.int va), .val (.int (ka &&& (3 : Int32))), .unset] [(.int va), (.int (128 : Int32)), (.int (0 : Int32)), (.ref q)])) (fun TT HH tt kk => XS.iloadN HH hx rfl (hb hby d_m_3_44) rfl kk) ?_
      refine k_ldcI hx (wT 5 rfl) rfl (hb hby d_m_3_45) ?_
      show Run p l e _ s m _ below meth c Z EL1 _ n0 NoB h0 0 0 (mkF m 47 #[.val (.ref q), .val (.int (0 : Int32)), .val (.int ka), .val (.int va), .val (.int (ka &&& (3 : Int32))), .unset] [(.int (2147483647 : Int32)), (.int va), (.int (128 : Int32)), (.int (0 : Int32)), (.ref q)]) _
      refine k_pure (g' := (mkF m 48 #[.val (.ref q), .val (.int (0 : Int32)), .val (.int ka), .val (.int va), .val (.int (ka &&& (3 : Int32))), .unset] [(.int (va &&& (2147483647 : Int32))), (.int (128 : Int32)), (.int (0 : Int32)), (.ref q)])) (fun TT HH tt kk => XS.iand HH hx rfl (hb hby d_m_3_47) rfl kk) ?_
      refine k_pure (g' := (mkF m 51 #[.val (.ref q), .val (.int (0 : Int32)), .val (.int ka), .val (.int va), .val (.int (ka &&& (3 : Int32))), .unset] [(.int (1920 : Int32)), (.int (va &&& (2147483647 : Int32))), (.int (128 : Int32)), (.int (0 : Int32)), (.ref q)])) (fun TT HH tt kk => XS.sipush HH hx rfl (hb hby d_m_3_48) kk) ?_
      refine k_pure (g' := (mkF m 52 #[.val (.ref q), .val (.int (0 : Int32)), .val (.int ka), .val (.int va), .val (.int (ka &&& (3 : Int32))), .unset] [(.int ((va &&& (2147483647 : Int32)) % (1920 : Int32))), (.int (128 : Int32)), (.int (0 : Int32)), (.ref q)])) (fun TT HH tt kk => s_irem HH hx rfl (hb hby d_m_3_51) rfl (by decide) kk) ?_
      refine k_pure (g' := (mkF m 53 #[.val (.ref q), .val (.int (0 : Int32)), .val (.int ka), .val (.int va), .val (.int (ka &&& (3 : Int32))), .unset] [(.int ((128 : Int32) + ((va &&& (2147483647 : Int32)) % (1920 : Int32)))), (.int (0 : Int32)), (.ref q)])) (fun TT HH tt kk => XS.iadd HH hx rfl (hb hby d_m_3_52) rfl kk) ?_
      refine k_pure (g' := (mkF m 54 #[.val (.ref q), .val (.int (0 : Int32)), .val (.int ka), .val (.int va), .val (.int (ka &&& (3 : Int32))), .unset] [(.int (((128 : Int32) + ((va &&& (2147483647 : Int32)) % (1920 : Int32))).toUInt32.toUInt16.toUInt32.toInt32)), (.int (0 : Int32)), (.ref q)])) (fun TT HH tt kk => XS.i2c HH hx rfl (hb hby d_m_3_53) rfl kk) ?_
      refine k_stC hx pf_0 ⟨by decide, by decide⟩ 0 (by decide) (Nat.le_of_ble_eq_true rfl) (by omega) (fun q => q) rfl rfl (hb hby d_m_3_54) ?_
      intro h_16 O_17 W_18 A_19
      have z_20 := W_18.size
      have V_21 : Arv Z h_16 q kq .char (4 : Int32) [(.int (nar .char (((128 : Int32) + ((va &&& (2147483647 : Int32)) % (1920 : Int32))).toUInt32.toUInt16.toUInt32.toInt32))), (.int (0 : Int32)), (.int (0 : Int32)), (.int (0 : Int32))] (.int (0 : Int32)) := A_19
      show Run p l e _ s m _ below meth c Z EL1 _ n0 NoB h_16 0 0 (mkF m 55 #[.val (.ref q), .val (.int (0 : Int32)), .val (.int ka), .val (.int va), .val (.int (ka &&& (3 : Int32))), .unset] []) _
      refine k_pure (g' := (mkF m 56 #[.val (.ref q), .val (.int (0 : Int32)), .val (.int ka), .val (.int va), .val (.int (ka &&& (3 : Int32))), .unset] [(.ref q)])) (fun TT HH tt kk => XS.aloadN HH hx rfl (hb hby d_m_3_55) rfl rfl kk) ?_
      refine k_pure (g' := (mkF m 57 #[.val (.ref q), .val (.int (0 : Int32)), .val (.int ka), .val (.int va), .val (.int (ka &&& (3 : Int32))), .unset] [(.int (0 : Int32)), (.ref q)])) (fun TT HH tt kk => XS.iloadN HH hx rfl (hb hby d_m_3_56) rfl kk) ?_
      refine k_pure (g' := (mkF m 58 #[.val (.ref q), .val (.int (0 : Int32)), .val (.int ka), .val (.int va), .val (.int (ka &&& (3 : Int32))), .unset] [(.int (1 : Int32)), (.int (0 : Int32)), (.ref q)])) (fun TT HH tt kk => XS.iconst HH hx rfl (hb hby d_m_3_57) kk) ?_
      refine k_pure (g' := (mkF m 59 #[.val (.ref q), .val (.int (0 : Int32)), .val (.int ka), .val (.int va), .val (.int (ka &&& (3 : Int32))), .unset] [(.int (1 : Int32)), (.ref q)])) (fun TT HH tt kk => XS.iadd HH hx rfl (hb hby d_m_3_58) rfl kk) ?_
      refine k_pure (g' := (mkF m 60 #[.val (.ref q), .val (.int (0 : Int32)), .val (.int ka), .val (.int va), .val (.int (ka &&& (3 : Int32))), .unset] [(.int va), (.int (1 : Int32)), (.ref q)])) (fun TT HH tt kk => XS.iloadN HH hx rfl (hb hby d_m_3_59) rfl kk) ?_
      refine k_pure (g' := (mkF m 62 #[.val (.ref q), .val (.int (0 : Int32)), .val (.int ka), .val (.int va), .val (.int (ka &&& (3 : Int32))), .unset] [(.int (24 : Int32)), (.int va), (.int (1 : Int32)), (.ref q)])) (fun TT HH tt kk => XS.bipush HH hx rfl (hb hby d_m_3_60) kk) ?_
      refine k_pure (g' := (mkF m 63 #[.val (.ref q), .val (.int (0 : Int32)), .val (.int ka), .val (.int va), .val (.int (ka &&& (3 : Int32))), .unset] [(.int ((va.toUInt32 >>> ((24 : Int32) &&& 31).toUInt32).toInt32)), (.int (1 : Int32)), (.ref q)])) (fun TT HH tt kk => XS.iushr HH hx rfl (hb hby d_m_3_62) rfl kk) ?_
      refine k_pure (g' := (mkF m 65 #[.val (.ref q), .val (.int (0 : Int32)), .val (.int ka), .val (.int va), .val (.int (ka &&& (3 : Int32))), .unset] [(.int (127 : Int32)), (.int ((va.toUInt32 >>> ((24 : Int32) &&& 31).toUInt32).toInt32)), (.int (1 : Int32)), (.ref q)])) (fun TT HH tt kk => XS.bipush HH hx rfl (hb hby d_m_3_63) kk) ?_
      refine k_pure (g' := (mkF m 66 #[.val (.ref q), .val (.int (0 : Int32)), .val (.int ka), .val (.int va), .val (.int (ka &&& (3 : Int32))), .unset] [(.int (((va.toUInt32 >>> ((24 : Int32) &&& 31).toUInt32).toInt32) &&& (127 : Int32))), (.int (1 : Int32)), (.ref q)])) (fun TT HH tt kk => XS.iand HH hx rfl (hb hby d_m_3_65) rfl kk) ?_
      refine k_pure (g' := (mkF m 67 #[.val (.ref q), .val (.int (0 : Int32)), .val (.int ka), .val (.int va), .val (.int (ka &&& (3 : Int32))), .unset] [(.int ((((va.toUInt32 >>> ((24 : Int32) &&& 31).toUInt32).toInt32) &&& (127 : Int32)).toUInt32.toUInt16.toUInt32.toInt32)), (.int (1 : Int32)), (.ref q)])) (fun TT HH tt kk => XS.i2c HH hx rfl (hb hby d_m_3_66) rfl kk) ?_
      refine k_stC hx V_21 ⟨by decide, by decide⟩ 1 (by decide) (Nat.le_of_ble_eq_true rfl) (by omega) (fun q => q) rfl rfl (hb hby d_m_3_67) ?_
      intro h_22 O_23 W_24 A_25
      have z_26 := W_24.size
      have V_27 : Arv Z h_22 q kq .char (4 : Int32) [(.int (nar .char (((128 : Int32) + ((va &&& (2147483647 : Int32)) % (1920 : Int32))).toUInt32.toUInt16.toUInt32.toInt32))), (.int (nar .char ((((va.toUInt32 >>> ((24 : Int32) &&& 31).toUInt32).toInt32) &&& (127 : Int32)).toUInt32.toUInt16.toUInt32.toInt32))), (.int (0 : Int32)), (.int (0 : Int32))] (.int (0 : Int32)) := A_25
      show Run p l e _ s m _ below meth c Z EL1 _ n0 NoB h_22 0 0 (mkF m 68 #[.val (.ref q), .val (.int (0 : Int32)), .val (.int ka), .val (.int va), .val (.int (ka &&& (3 : Int32))), .unset] []) _
      refine k_pure (g' := (mkF m 69 #[.val (.ref q), .val (.int (0 : Int32)), .val (.int ka), .val (.int va), .val (.int (ka &&& (3 : Int32))), .unset] [(.int (3 : Int32))])) (fun TT HH tt kk => XS.iconst HH hx rfl (hb hby d_m_3_68) kk) ?_
      exact k_retI hx hlk hret (hb hby d_m_3_69) (by decide) (by decide) ⟨(nar .char (((128 : Int32) + ((va &&& (2147483647 : Int32)) % (1920 : Int32))).toUInt32.toUInt16.toUInt32.toInt32)), (nar .char ((((va.toUInt32 >>> ((24 : Int32) &&& 31).toUInt32).toInt32) &&& (127 : Int32)).toUInt32.toUInt16.toUInt32.toInt32)), _, rfl, rfl, (((Keep.refl _ _).wr W_18 (Or.inl (by simp))).wr W_24 (Or.inl (by simp))), V_27, (by have r0 := rng32 ka; have r1 : (ka &&& (3 : Int32)).toInt = ka.toInt % 4 := (c_mask ka (3 : Int32) 2 (by decide) (by decide)); have r2 := rng32 (ka &&& (3 : Int32)); have r3 : (0 : Int32).toInt = 0 := (by decide); have r4 : (1 : Int32).toInt = 1 := (by decide); have r5 : (128 : Int32).toInt = 128 := (by decide); have r6 := rng32 va; have r7 : (va &&& (2147483647 : Int32)).toInt = va.toInt % 2147483648 := (c_mask va (2147483647 : Int32) 31 (by decide) (by decide)); have r8 := rng32 (va &&& (2147483647 : Int32)); have r9 := c_irem (va &&& (2147483647 : Int32)) (1920 : Int32) 1920 (by decide); have r10 := rng32 ((va &&& (2147483647 : Int32)) % (1920 : Int32)); have r11 := c_iadd (128 : Int32) ((va &&& (2147483647 : Int32)) % (1920 : Int32)); have r12 := rng32 ((128 : Int32) + ((va &&& (2147483647 : Int32)) % (1920 : Int32))); have r13 := c_i2c ((128 : Int32) + ((va &&& (2147483647 : Int32)) % (1920 : Int32))); have r14 : ((nar .char (((128 : Int32) + ((va &&& (2147483647 : Int32)) % (1920 : Int32))).toUInt32.toUInt16.toUInt32.toInt32)).toInt - (((128 : Int32) + ((va &&& (2147483647 : Int32)) % (1920 : Int32))).toUInt32.toUInt16.toUInt32.toInt32).toInt) % 65536 = 0 ∧ 0 ≤ (nar .char (((128 : Int32) + ((va &&& (2147483647 : Int32)) % (1920 : Int32))).toUInt32.toUInt16.toUInt32.toInt32)).toInt ∧ (nar .char (((128 : Int32) + ((va &&& (2147483647 : Int32)) % (1920 : Int32))).toUInt32.toUInt16.toUInt32.toInt32)).toInt < 65536 := (c_i2c (((128 : Int32) + ((va &&& (2147483647 : Int32)) % (1920 : Int32))).toUInt32.toUInt16.toUInt32.toInt32)); have r15 : ((va.toUInt32 >>> ((24 : Int32) &&& 31).toUInt32).toInt32).toInt = (va.toInt % 4294967296) / 16777216 := (c_iushr va (24 : Int32) 24 (by decide) (by decide)); have r16 := rng32 ((va.toUInt32 >>> ((24 : Int32) &&& 31).toUInt32).toInt32); have r17 : (((va.toUInt32 >>> ((24 : Int32) &&& 31).toUInt32).toInt32) &&& (127 : Int32)).toInt = ((va.toUInt32 >>> ((24 : Int32) &&& 31).toUInt32).toInt32).toInt % 128 := (c_mask ((va.toUInt32 >>> ((24 : Int32) &&& 31).toUInt32).toInt32) (127 : Int32) 7 (by decide) (by decide)); have r18 := rng32 (((va.toUInt32 >>> ((24 : Int32) &&& 31).toUInt32).toInt32) &&& (127 : Int32)); have r19 := c_i2c (((va.toUInt32 >>> ((24 : Int32) &&& 31).toUInt32).toInt32) &&& (127 : Int32)); have r20 : ((nar .char ((((va.toUInt32 >>> ((24 : Int32) &&& 31).toUInt32).toInt32) &&& (127 : Int32)).toUInt32.toUInt16.toUInt32.toInt32)).toInt - ((((va.toUInt32 >>> ((24 : Int32) &&& 31).toUInt32).toInt32) &&& (127 : Int32)).toUInt32.toUInt16.toUInt32.toInt32).toInt) % 65536 = 0 ∧ 0 ≤ (nar .char ((((va.toUInt32 >>> ((24 : Int32) &&& 31).toUInt32).toInt32) &&& (127 : Int32)).toUInt32.toUInt16.toUInt32.toInt32)).toInt ∧ (nar .char ((((va.toUInt32 >>> ((24 : Int32) &&& 31).toUInt32).toInt32) &&& (127 : Int32)).toUInt32.toUInt16.toUInt32.toInt32)).toInt < 65536 := (c_i2c ((((va.toUInt32 >>> ((24 : Int32) &&& 31).toUInt32).toInt32) &&& (127 : Int32)).toUInt32.toUInt16.toUInt32.toInt32)); have r21 : (3 : Int32).toInt = 3 := (by decide); have r22 : ¬ ((ka &&& (3 : Int32))).toInt = ((0 : Int32)).toInt := fun q => c_2 (Int32.toInt_inj.mp q); have r23 := (congrArg Int32.toInt c_15); unfold Un; omega)⟩
    · refine k_pure (g' := (mkF m 70 #[.val (.ref q), .val (.int (0 : Int32)), .val (.int ka), .val (.int va), .val (.int (ka &&& (3 : Int32))), .unset] [])) (fun TT HH tt kk => XS.icmpYes HH hx rfl (pc0 := 36) (pc' := 70) rfl (hb hby d_m_3_36) rfl (feq c_15).2 (by decide) (by decide) kk) ?_
      refine k_pure (g' := (mkF m 72 #[.val (.ref q), .val (.int (0 : Int32)), .val (.int ka), .val (.int va), .val (.int (ka &&& (3 : Int32))), .unset] [(.int (ka &&& (3 : Int32)))])) (fun TT HH tt kk => XS.iload HH hx rfl (hb hby d_m_3_70) rfl kk) ?_
      refine k_pure (g' := (mkF m 73 #[.val (.ref q), .val (.int (0 : Int32)), .val (.int ka), .val (.int va), .val (.int (ka &&& (3 : Int32))), .unset] [(.int (2 : Int32)), (.int (ka &&& (3 : Int32)))])) (fun TT HH tt kk => XS.iconst HH hx rfl (hb hby d_m_3_72) kk) ?_
      by_cases c_28 : (ka &&& (3 : Int32)) = (2 : Int32)
      · refine k_pure (g' := (mkF m 76 #[.val (.ref q), .val (.int (0 : Int32)), .val (.int ka), .val (.int va), .val (.int (ka &&& (3 : Int32))), .unset] [])) (fun TT HH tt kk => XS.icmpNo HH hx rfl (hb hby d_m_3_73) rfl (teq c_28).2 kk) ?_
        refine k_pure (g' := (mkF m 79 #[.val (.ref q), .val (.int (0 : Int32)), .val (.int ka), .val (.int va), .val (.int (ka &&& (3 : Int32))), .unset] [(.int (2048 : Int32))])) (fun TT HH tt kk => XS.sipush HH hx rfl (hb hby d_m_3_76) kk) ?_
        refine k_pure (g' := (mkF m 80 #[.val (.ref q), .val (.int (0 : Int32)), .val (.int ka), .val (.int va), .val (.int (ka &&& (3 : Int32))), .unset] [(.int va), (.int (2048 : Int32))])) (fun TT HH tt kk => XS.iloadN HH hx rfl (hb hby d_m_3_79) rfl kk) ?_
        refine k_ldcI hx (wT 5 rfl) rfl (hb hby d_m_3_80) ?_
        show Run p l e _ s m _ below meth c Z EL1 _ n0 NoB h0 0 0 (mkF m 82 #[.val (.ref q), .val (.int (0 : Int32)), .val (.int ka), .val (.int va), .val (.int (ka &&& (3 : Int32))), .unset] [(.int (2147483647 : Int32)), (.int va), (.int (2048 : Int32))]) _
        refine k_pure (g' := (mkF m 83 #[.val (.ref q), .val (.int (0 : Int32)), .val (.int ka), .val (.int va), .val (.int (ka &&& (3 : Int32))), .unset] [(.int (va &&& (2147483647 : Int32))), (.int (2048 : Int32))])) (fun TT HH tt kk => XS.iand HH hx rfl (hb hby d_m_3_82) rfl kk) ?_
        refine k_ldcI hx (wT 6 rfl) rfl (hb hby d_m_3_83) ?_
        show Run p l e _ s m _ below meth c Z EL1 _ n0 NoB h0 0 0 (mkF m 85 #[.val (.ref q), .val (.int (0 : Int32)), .val (.int ka), .val (.int va), .val (.int (ka &&& (3 : Int32))), .unset] [(.int (61440 : Int32)), (.int (va &&& (2147483647 : Int32))), (.int (2048 : Int32))]) _
        refine k_pure (g' := (mkF m 86 #[.val (.ref q), .val (.int (0 : Int32)), .val (.int ka), .val (.int va), .val (.int (ka &&& (3 : Int32))), .unset] [(.int ((va &&& (2147483647 : Int32)) % (61440 : Int32))), (.int (2048 : Int32))])) (fun TT HH tt kk => s_irem HH hx rfl (hb hby d_m_3_85) rfl (by decide) kk) ?_
        refine k_pure (g' := (mkF m 87 #[.val (.ref q), .val (.int (0 : Int32)), .val (.int ka), .val (.int va), .val (.int (ka &&& (3 : Int32))), .unset] [(.int ((2048 : Int32) + ((va &&& (2147483647 : Int32)) % (61440 : Int32))))])) (fun TT HH tt kk => XS.iadd HH hx rfl (hb hby d_m_3_86) rfl kk) ?_
        refine k_pure (g' := (mkF m 89 #[.val (.ref q), .val (.int (0 : Int32)), .val (.int ka), .val (.int va), .val (.int (ka &&& (3 : Int32))), .val (.int ((2048 : Int32) + ((va &&& (2147483647 : Int32)) % (61440 : Int32))))] [])) (fun TT HH tt kk => XS.istore HH hx rfl (hb hby d_m_3_87) rfl (l' := #[.val (.ref q), .val (.int (0 : Int32)), .val (.int ka), .val (.int va), .val (.int (ka &&& (3 : Int32))), .val (.int ((2048 : Int32) + ((va &&& (2147483647 : Int32)) % (61440 : Int32))))]) rfl kk) ?_
        refine k_pure (g' := (mkF m 91 #[.val (.ref q), .val (.int (0 : Int32)), .val (.int ka), .val (.int va), .val (.int (ka &&& (3 : Int32))), .val (.int ((2048 : Int32) + ((va &&& (2147483647 : Int32)) % (61440 : Int32))))] [(.int ((2048 : Int32) + ((va &&& (2147483647 : Int32)) % (61440 : Int32))))])) (fun TT HH tt kk => XS.iload HH hx rfl (hb hby d_m_3_89) rfl kk) ?_
        refine k_ldcI hx (wT 7 rfl) rfl (hb hby d_m_3_91) ?_
        show Run p l e _ s m _ below meth c Z EL1 _ n0 NoB h0 0 0 (mkF m 93 #[.val (.ref q), .val (.int (0 : Int32)), .val (.int ka), .val (.int va), .val (.int (ka &&& (3 : Int32))), .val (.int ((2048 : Int32) + ((va &&& (2147483647 : Int32)) % (61440 : Int32))))] [(.int (55296 : Int32)), (.int ((2048 : Int32) + ((va &&& (2147483647 : Int32)) % (61440 : Int32))))]) _
        by_cases c_29 : ((2048 : Int32) + ((va &&& (2147483647 : Int32)) % (61440 : Int32))) < (55296 : Int32)
        · refine k_pure (g' := (mkF m 104 #[.val (.ref q), .val (.int (0 : Int32)), .val (.int ka), .val (.int va), .val (.int (ka &&& (3 : Int32))), .val (.int ((2048 : Int32) + ((va &&& (2147483647 : Int32)) % (61440 : Int32))))] [])) (fun TT HH tt kk => XS.icmpYes HH hx rfl (pc0 := 93) (pc' := 104) rfl (hb hby d_m_3_93) rfl (tlt c_29).1 (by decide) (by decide) kk) ?_
          refine k_pure (g' := (mkF m 105 #[.val (.ref q), .val (.int (0 : Int32)), .val (.int ka), .val (.int va), .val (.int (ka &&& (3 : Int32))), .val (.int ((2048 : Int32) + ((va &&& (2147483647 : Int32)) % (61440 : Int32))))] [(.ref q)])) (fun TT HH tt kk => XS.aloadN HH hx rfl (hb hby d_m_3_104) rfl rfl kk) ?_
          refine k_pure (g' := (mkF m 106 #[.val (.ref q), .val (.int (0 : Int32)), .val (.int ka), .val (.int va), .val (.int (ka &&& (3 : Int32))), .val (.int ((2048 : Int32) + ((va &&& (2147483647 : Int32)) % (61440 : Int32))))] [(.int (0 : Int32)), (.ref q)])) (fun TT HH tt kk => XS.iloadN HH hx rfl (hb hby d_m_3_105) rfl kk) ?_
          refine k_pure (g' := (mkF m 108 #[.val (.ref q), .val (.int (0 : Int32)), .val (.int ka), .val (.int va), .val (.int (ka &&& (3 : Int32))), .val (.int ((2048 : Int32) + ((va &&& (2147483647 : Int32)) % (61440 : Int32))))] [(.int ((2048 : Int32) + ((va &&& (2147483647 : Int32)) % (61440 : Int32)))), (.int (0 : Int32)), (.ref q)])) (fun TT HH tt kk => XS.iload HH hx rfl (hb hby d_m_3_106) rfl kk) ?_
          refine k_pure (g' := (mkF m 109 #[.val (.ref q), .val (.int (0 : Int32)), .val (.int ka), .val (.int va), .val (.int (ka &&& (3 : Int32))), .val (.int ((2048 : Int32) + ((va &&& (2147483647 : Int32)) % (61440 : Int32))))] [(.int (((2048 : Int32) + ((va &&& (2147483647 : Int32)) % (61440 : Int32))).toUInt32.toUInt16.toUInt32.toInt32)), (.int (0 : Int32)), (.ref q)])) (fun TT HH tt kk => XS.i2c HH hx rfl (hb hby d_m_3_108) rfl kk) ?_
          refine k_stC hx pf_0 ⟨by decide, by decide⟩ 0 (by decide) (Nat.le_of_ble_eq_true rfl) (by omega) (fun q => q) rfl rfl (hb hby d_m_3_109) ?_
          intro h_30 O_31 W_32 A_33
          have z_34 := W_32.size
          have V_35 : Arv Z h_30 q kq .char (4 : Int32) [(.int (nar .char (((2048 : Int32) + ((va &&& (2147483647 : Int32)) % (61440 : Int32))).toUInt32.toUInt16.toUInt32.toInt32))), (.int (0 : Int32)), (.int (0 : Int32)), (.int (0 : Int32))] (.int (0 : Int32)) := A_33
          show Run p l e _ s m _ below meth c Z EL1 _ n0 NoB h_30 0 0 (mkF m 110 #[.val (.ref q), .val (.int (0 : Int32)), .val (.int ka), .val (.int va), .val (.int (ka &&& (3 : Int32))), .val (.int ((2048 : Int32) + ((va &&& (2147483647 : Int32)) % (61440 : Int32))))] []) _
          refine k_pure (g' := (mkF m 111 #[.val (.ref q), .val (.int (0 : Int32)), .val (.int ka), .val (.int va), .val (.int (ka &&& (3 : Int32))), .val (.int ((2048 : Int32) + ((va &&& (2147483647 : Int32)) % (61440 : Int32))))] [(.ref q)])) (fun TT HH tt kk => XS.aloadN HH hx rfl (hb hby d_m_3_110) rfl rfl kk) ?_
          refine k_pure (g' := (mkF m 112 #[.val (.ref q), .val (.int (0 : Int32)), .val (.int ka), .val (.int va), .val (.int (ka &&& (3 : Int32))), .val (.int ((2048 : Int32) + ((va &&& (2147483647 : Int32)) % (61440 : Int32))))] [(.int (0 : Int32)), (.ref q)])) (fun TT HH tt kk => XS.iloadN HH hx rfl (hb hby d_m_3_111) rfl kk) ?_
          refine k_pure (g' := (mkF m 113 #[.val (.ref q), .val (.int (0 : Int32)), .val (.int ka), .val (.int va), .val (.int (ka &&& (3 : Int32))), .val (.int ((2048 : Int32) + ((va &&& (2147483647 : Int32)) % (61440 : Int32))))] [(.int (1 : Int32)), (.int (0 : Int32)), (.ref q)])) (fun TT HH tt kk => XS.iconst HH hx rfl (hb hby d_m_3_112) kk) ?_
          refine k_pure (g' := (mkF m 114 #[.val (.ref q), .val (.int (0 : Int32)), .val (.int ka), .val (.int va), .val (.int (ka &&& (3 : Int32))), .val (.int ((2048 : Int32) + ((va &&& (2147483647 : Int32)) % (61440 : Int32))))] [(.int (1 : Int32)), (.ref q)])) (fun TT HH tt kk => XS.iadd HH hx rfl (hb hby d_m_3_113) rfl kk) ?_
          refine k_pure (g' := (mkF m 115 #[.val (.ref q), .val (.int (0 : Int32)), .val (.int ka), .val (.int va), .val (.int (ka &&& (3 : Int32))), .val (.int ((2048 : Int32) + ((va &&& (2147483647 : Int32)) % (61440 : Int32))))] [(.int va), (.int (1 : Int32)), (.ref q)])) (fun TT HH tt kk => XS.iloadN HH hx rfl (hb hby d_m_3_114) rfl kk) ?_
          refine k_pure (g' := (mkF m 117 #[.val (.ref q), .val (.int (0 : Int32)), .val (.int ka), .val (.int va), .val (.int (ka &&& (3 : Int32))), .val (.int ((2048 : Int32) + ((va &&& (2147483647 : Int32)) % (61440 : Int32))))] [(.int (24 : Int32)), (.int va), (.int (1 : Int32)), (.ref q)])) (fun TT HH tt kk => XS.bipush HH hx rfl (hb hby d_m_3_115) kk) ?_
          refine k_pure (g' := (mkF m 118 #[.val (.ref q), .val (.int (0 : Int32)), .val (.int ka), .val (.int va), .val (.int (ka &&& (3 : Int32))), .val (.int ((2048 : Int32) + ((va &&& (2147483647 : Int32)) % (61440 : Int32))))] [(.int ((va.toUInt32 >>> ((24 : Int32) &&& 31).toUInt32).toInt32)), (.int (1 : Int32)), (.ref q)])) (fun TT HH tt kk => XS.iushr HH hx rfl (hb hby d_m_3_117) rfl kk) ?_
          refine k_pure (g' := (mkF m 120 #[.val (.ref q), .val (.int (0 : Int32)), .val (.int ka), .val (.int va), .val (.int (ka &&& (3 : Int32))), .val (.int ((2048 : Int32) + ((va &&& (2147483647 : Int32)) % (61440 : Int32))))] [(.int (127 : Int32)), (.int ((va.toUInt32 >>> ((24 : Int32) &&& 31).toUInt32).toInt32)), (.int (1 : Int32)), (.ref q)])) (fun TT HH tt kk => XS.bipush HH hx rfl (hb hby d_m_3_118) kk) ?_
          refine k_pure (g' := (mkF m 121 #[.val (.ref q), .val (.int (0 : Int32)), .val (.int ka), .val (.int va), .val (.int (ka &&& (3 : Int32))), .val (.int ((2048 : Int32) + ((va &&& (2147483647 : Int32)) % (61440 : Int32))))] [(.int (((va.toUInt32 >>> ((24 : Int32) &&& 31).toUInt32).toInt32) &&& (127 : Int32))), (.int (1 : Int32)), (.ref q)])) (fun TT HH tt kk => XS.iand HH hx rfl (hb hby d_m_3_120) rfl kk) ?_
          refine k_pure (g' := (mkF m 122 #[.val (.ref q), .val (.int (0 : Int32)), .val (.int ka), .val (.int va), .val (.int (ka &&& (3 : Int32))), .val (.int ((2048 : Int32) + ((va &&& (2147483647 : Int32)) % (61440 : Int32))))] [(.int ((((va.toUInt32 >>> ((24 : Int32) &&& 31).toUInt32).toInt32) &&& (127 : Int32)).toUInt32.toUInt16.toUInt32.toInt32)), (.int (1 : Int32)), (.ref q)])) (fun TT HH tt kk => XS.i2c HH hx rfl (hb hby d_m_3_121) rfl kk) ?_
          refine k_stC hx V_35 ⟨by decide, by decide⟩ 1 (by decide) (Nat.le_of_ble_eq_true rfl) (by omega) (fun q => q) rfl rfl (hb hby d_m_3_122) ?_
          intro h_36 O_37 W_38 A_39
          have z_40 := W_38.size
          have V_41 : Arv Z h_36 q kq .char (4 : Int32) [(.int (nar .char (((2048 : Int32) + ((va &&& (2147483647 : Int32)) % (61440 : Int32))).toUInt32.toUInt16.toUInt32.toInt32))), (.int (nar .char ((((va.toUInt32 >>> ((24 : Int32) &&& 31).toUInt32).toInt32) &&& (127 : Int32)).toUInt32.toUInt16.toUInt32.toInt32))), (.int (0 : Int32)), (.int (0 : Int32))] (.int (0 : Int32)) := A_39
          show Run p l e _ s m _ below meth c Z EL1 _ n0 NoB h_36 0 0 (mkF m 123 #[.val (.ref q), .val (.int (0 : Int32)), .val (.int ka), .val (.int va), .val (.int (ka &&& (3 : Int32))), .val (.int ((2048 : Int32) + ((va &&& (2147483647 : Int32)) % (61440 : Int32))))] []) _
          refine k_pure (g' := (mkF m 124 #[.val (.ref q), .val (.int (0 : Int32)), .val (.int ka), .val (.int va), .val (.int (ka &&& (3 : Int32))), .val (.int ((2048 : Int32) + ((va &&& (2147483647 : Int32)) % (61440 : Int32))))] [(.int (4 : Int32))])) (fun TT HH tt kk => XS.iconst HH hx rfl (hb hby d_m_3_123) kk) ?_
          exact k_retI hx hlk hret (hb hby d_m_3_124) (by decide) (by decide) ⟨(nar .char (((2048 : Int32) + ((va &&& (2147483647 : Int32)) % (61440 : Int32))).toUInt32.toUInt16.toUInt32.toInt32)), (nar .char ((((va.toUInt32 >>> ((24 : Int32) &&& 31).toUInt32).toInt32) &&& (127 : Int32)).toUInt32.toUInt16.toUInt32.toInt32)), _, rfl, rfl, (((Keep.refl _ _).wr W_32 (Or.inl (by simp))).wr W_38 (Or.inl (by simp))), V_41, (by have r0 := rng32 ka; have r1 : (ka &&& (3 : Int32)).toInt = ka.toInt % 4 := (c_mask ka (3 : Int32) 2 (by decide) (by decide)); have r2 := rng32 (ka &&& (3 : Int32)); have r3 : (0 : Int32).toInt = 0 := (by decide); have r4 : (1 : Int32).toInt = 1 := (by decide); have r5 : (2 : Int32).toInt = 2 := (by decide); have r6 : (2048 : Int32).toInt = 2048 := (by decide); have r7 := rng32 va; have r8 : (va &&& (2147483647 : Int32)).toInt = va.toInt % 2147483648 := (c_mask va (2147483647 : Int32) 31 (by decide) (by decide)); have r9 := rng32 (va &&& (2147483647 : Int32)); have r10 := c_irem (va &&& (2147483647 : Int32)) (61440 : Int32) 61440 (by decide); have r11 := rng32 ((va &&& (2147483647 : Int32)) % (61440 : Int32)); have r12 := c_iadd (2048 : Int32) ((va &&& (2147483647 : Int32)) % (61440 : Int32)); have r13 := rng32 ((2048 : Int32) + ((va &&& (2147483647 : Int32)) % (61440 : Int32))); have r14 : (55296 : Int32).toInt = 55296 := (by decide); have r15 := c_i2c ((2048 : Int32) + ((va &&& (2147483647 : Int32)) % (61440 : Int32))); have r16 : ((nar .char (((2048 : Int32) + ((va &&& (2147483647 : Int32)) % (61440 : Int32))).toUInt32.toUInt16.toUInt32.toInt32)).toInt - (((2048 : Int32) + ((va &&& (2147483647 : Int32)) % (61440 : Int32))).toUInt32.toUInt16.toUInt32.toInt32).toInt) % 65536 = 0 ∧ 0 ≤ (nar .char (((2048 : Int32) + ((va &&& (2147483647 : Int32)) % (61440 : Int32))).toUInt32.toUInt16.toUInt32.toInt32)).toInt ∧ (nar .char (((2048 : Int32) + ((va &&& (2147483647 : Int32)) % (61440 : Int32))).toUInt32.toUInt16.toUInt32.toInt32)).toInt < 65536 := (c_i2c (((2048 : Int32) + ((va &&& (2147483647 : Int32)) % (61440 : Int32))).toUInt32.toUInt16.toUInt32.toInt32)); have r17 : ((va.toUInt32 >>> ((24 : Int32) &&& 31).toUInt32).toInt32).toInt = (va.toInt % 4294967296) / 16777216 := (c_iushr va (24 : Int32) 24 (by decide) (by decide)); have r18 := rng32 ((va.toUInt32 >>> ((24 : Int32) &&& 31).toUInt32).toInt32); have r19 : (((va.toUInt32 >>> ((24 : Int32) &&& 31).toUInt32).toInt32) &&& (127 : Int32)).toInt = ((va.toUInt32 >>> ((24 : Int32) &&& 31).toUInt32).toInt32).toInt % 128 := (c_mask ((va.toUInt32 >>> ((24 : Int32) &&& 31).toUInt32).toInt32) (127 : Int32) 7 (by decide) (by decide)); have r20 := rng32 (((va.toUInt32 >>> ((24 : Int32) &&& 31).toUInt32).toInt32) &&& (127 : Int32)); have r21 := c_i2c (((va.toUInt32 >>> ((24 : Int32) &&& 31).toUInt32).toInt32) &&& (127 : Int32)); have r22 : ((nar .char ((((va.toUInt32 >>> ((24 : Int32) &&& 31).toUInt32).toInt32) &&& (127 : Int32)).toUInt32.toUInt16.toUInt32.toInt32)).toInt - ((((va.toUInt32 >>> ((24 : Int32) &&& 31).toUInt32).toInt32) &&& (127 : Int32)).toUInt32.toUInt16.toUInt32.toInt32).toInt) % 65536 = 0 ∧ 0 ≤ (nar .char ((((va.toUInt32 >>> ((24 : Int32) &&& 31).toUInt32).toInt32) &&& (127 : Int32)).toUInt32.toUInt16.toUInt32.toInt32)).toInt ∧ (nar .char ((((va.toUInt32 >>> ((24 : Int32) &&& 31).toUInt32).toInt32) &&& (127 : Int32)).toUInt32.toUInt16.toUInt32.toInt32)).toInt < 65536 := (c_i2c ((((va.toUInt32 >>> ((24 : Int32) &&& 31).toUInt32).toInt32) &&& (127 : Int32)).toUInt32.toUInt16.toUInt32.toInt32)); have r23 : (4 : Int32).toInt = 4 := (by decide); have r24 : ¬ ((ka &&& (3 : Int32))).toInt = ((0 : Int32)).toInt := fun q => c_2 (Int32.toInt_inj.mp q); have r25 : ¬ ((ka &&& (3 : Int32))).toInt = ((1 : Int32)).toInt := fun q => c_15 (Int32.toInt_inj.mp q); have r26 := (congrArg Int32.toInt c_28); have r27 := (Int32.lt_iff_toInt_lt.mp c_29); unfold Un; omega)⟩
        · refine k_pure (g' := (mkF m 96 #[.val (.ref q), .val (.int (0 : Int32)), .val (.int ka), .val (.int va), .val (.int (ka &&& (3 : Int32))), .val (.int ((2048 : Int32) + ((va &&& (2147483647 : Int32)) % (61440 : Int32))))] [])) (fun TT HH tt kk => XS.icmpNo HH hx rfl (hb hby d_m_3_93) rfl (flt c_29).1 kk) ?_
          refine k_pure (g' := (mkF m 98 #[.val (.ref q), .val (.int (0 : Int32)), .val (.int ka), .val (.int va), .val (.int (ka &&& (3 : Int32))), .val (.int ((2048 : Int32) + ((va &&& (2147483647 : Int32)) % (61440 : Int32))))] [(.int ((2048 : Int32) + ((va &&& (2147483647 : Int32)) % (61440 : Int32))))])) (fun TT HH tt kk => XS.iload HH hx rfl (hb hby d_m_3_96) rfl kk) ?_
          refine k_pure (g' := (mkF m 101 #[.val (.ref q), .val (.int (0 : Int32)), .val (.int ka), .val (.int va), .val (.int (ka &&& (3 : Int32))), .val (.int ((2048 : Int32) + ((va &&& (2147483647 : Int32)) % (61440 : Int32))))] [(.int (2048 : Int32)), (.int ((2048 : Int32) + ((va &&& (2147483647 : Int32)) % (61440 : Int32))))])) (fun TT HH tt kk => XS.sipush HH hx rfl (hb hby d_m_3_98) kk) ?_
          refine k_pure (g' := (mkF m 102 #[.val (.ref q), .val (.int (0 : Int32)), .val (.int ka), .val (.int va), .val (.int (ka &&& (3 : Int32))), .val (.int ((2048 : Int32) + ((va &&& (2147483647 : Int32)) % (61440 : Int32))))] [(.int (((2048 : Int32) + ((va &&& (2147483647 : Int32)) % (61440 : Int32))) + (2048 : Int32)))])) (fun TT HH tt kk => XS.iadd HH hx rfl (hb hby d_m_3_101) rfl kk) ?_
          refine k_pure (g' := (mkF m 104 #[.val (.ref q), .val (.int (0 : Int32)), .val (.int ka), .val (.int va), .val (.int (ka &&& (3 : Int32))), .val (.int (((2048 : Int32) + ((va &&& (2147483647 : Int32)) % (61440 : Int32))) + (2048 : Int32)))] [])) (fun TT HH tt kk => XS.istore HH hx rfl (hb hby d_m_3_102) rfl (l' := #[.val (.ref q), .val (.int (0 : Int32)), .val (.int ka), .val (.int va), .val (.int (ka &&& (3 : Int32))), .val (.int (((2048 : Int32) + ((va &&& (2147483647 : Int32)) % (61440 : Int32))) + (2048 : Int32)))]) rfl kk) ?_
          refine k_pure (g' := (mkF m 105 #[.val (.ref q), .val (.int (0 : Int32)), .val (.int ka), .val (.int va), .val (.int (ka &&& (3 : Int32))), .val (.int (((2048 : Int32) + ((va &&& (2147483647 : Int32)) % (61440 : Int32))) + (2048 : Int32)))] [(.ref q)])) (fun TT HH tt kk => XS.aloadN HH hx rfl (hb hby d_m_3_104) rfl rfl kk) ?_
          refine k_pure (g' := (mkF m 106 #[.val (.ref q), .val (.int (0 : Int32)), .val (.int ka), .val (.int va), .val (.int (ka &&& (3 : Int32))), .val (.int (((2048 : Int32) + ((va &&& (2147483647 : Int32)) % (61440 : Int32))) + (2048 : Int32)))] [(.int (0 : Int32)), (.ref q)])) (fun TT HH tt kk => XS.iloadN HH hx rfl (hb hby d_m_3_105) rfl kk) ?_
          refine k_pure (g' := (mkF m 108 #[.val (.ref q), .val (.int (0 : Int32)), .val (.int ka), .val (.int va), .val (.int (ka &&& (3 : Int32))), .val (.int (((2048 : Int32) + ((va &&& (2147483647 : Int32)) % (61440 : Int32))) + (2048 : Int32)))] [(.int (((2048 : Int32) + ((va &&& (2147483647 : Int32)) % (61440 : Int32))) + (2048 : Int32))), (.int (0 : Int32)), (.ref q)])) (fun TT HH tt kk => XS.iload HH hx rfl (hb hby d_m_3_106) rfl kk) ?_
          refine k_pure (g' := (mkF m 109 #[.val (.ref q), .val (.int (0 : Int32)), .val (.int ka), .val (.int va), .val (.int (ka &&& (3 : Int32))), .val (.int (((2048 : Int32) + ((va &&& (2147483647 : Int32)) % (61440 : Int32))) + (2048 : Int32)))] [(.int ((((2048 : Int32) + ((va &&& (2147483647 : Int32)) % (61440 : Int32))) + (2048 : Int32)).toUInt32.toUInt16.toUInt32.toInt32)), (.int (0 : Int32)), (.ref q)])) (fun TT HH tt kk => XS.i2c HH hx rfl (hb hby d_m_3_108) rfl kk) ?_
          refine k_stC hx pf_0 ⟨by decide, by decide⟩ 0 (by decide) (Nat.le_of_ble_eq_true rfl) (by omega) (fun q => q) rfl rfl (hb hby d_m_3_109) ?_
          intro h_42 O_43 W_44 A_45
          have z_46 := W_44.size
          have V_47 : Arv Z h_42 q kq .char (4 : Int32) [(.int (nar .char ((((2048 : Int32) + ((va &&& (2147483647 : Int32)) % (61440 : Int32))) + (2048 : Int32)).toUInt32.toUInt16.toUInt32.toInt32))), (.int (0 : Int32)), (.int (0 : Int32)), (.int (0 : Int32))] (.int (0 : Int32)) := A_45
          show Run p l e _ s m _ below meth c Z EL1 _ n0 NoB h_42 0 0 (mkF m 110 #[.val (.ref q), .val (.int (0 : Int32)), .val (.int ka), .val (.int va), .val (.int (ka &&& (3 : Int32))), .val (.int (((2048 : Int32) + ((va &&& (2147483647 : Int32)) % (61440 : Int32))) + (2048 : Int32)))] []) _
          refine k_pure (g' := (mkF m 111 #[.val (.ref q), .val (.int (0 : Int32)), .val (.int ka), .val (.int va), .val (.int (ka &&& (3 : Int32))), .val (.int (((2048 : Int32) + ((va &&& (2147483647 : Int32)) % (61440 : Int32))) + (2048 : Int32)))] [(.ref q)])) (fun TT HH tt kk => XS.aloadN HH hx rfl (hb hby d_m_3_110) rfl rfl kk) ?_
          refine k_pure (g' := (mkF m 112 #[.val (.ref q), .val (.int (0 : Int32)), .val (.int ka), .val (.int va), .val (.int (ka &&& (3 : Int32))), .val (.int (((2048 : Int32) + ((va &&& (2147483647 : Int32)) % (61440 : Int32))) + (2048 : Int32)))] [(.int (0 : Int32)), (.ref q)])) (fun TT HH tt kk => XS.iloadN HH hx rfl (hb hby d_m_3_111) rfl kk) ?_
          refine k_pure (g' := (mkF m 113 #[.val (.ref q), .val (.int (0 : Int32)), .val (.int ka), .val (.int va), .val (.int (ka &&& (3 : Int32))), .val (.int (((2048 : Int32) + ((va &&& (2147483647 : Int32)) % (61440 : Int32))) + (2048 : Int32)))] [(.int (1 : Int32)), (.int (0 : Int32)), (.ref q)])) (fun TT HH tt kk => XS.iconst HH hx rfl (hb hby d_m_3_112) kk) ?_
          refine k_pure (g' := (mkF m 114 #[.val (.ref q), .val (.int (0 : Int32)), .val (.int ka), .val (.int va), .val (.int (ka &&& (3 : Int32))), .val (.int (((2048 : Int32) + ((va &&& (2147483647 : Int32)) % (61440 : Int32))) + (2048 : Int32)))] [(.int (1 : Int32)), (.ref q)])) (fun TT HH tt kk => XS.iadd HH hx rfl (hb hby d_m_3_113) rfl kk) ?_
          refine k_pure (g' := (mkF m 115 #[.val (.ref q), .val (.int (0 : Int32)), .val (.int ka), .val (.int va), .val (.int (ka &&& (3 : Int32))), .val (.int (((2048 : Int32) + ((va &&& (2147483647 : Int32)) % (61440 : Int32))) + (2048 : Int32)))] [(.int va), (.int (1 : Int32)), (.ref q)])) (fun TT HH tt kk => XS.iloadN HH hx rfl (hb hby d_m_3_114) rfl kk) ?_
          refine k_pure (g' := (mkF m 117 #[.val (.ref q), .val (.int (0 : Int32)), .val (.int ka), .val (.int va), .val (.int (ka &&& (3 : Int32))), .val (.int (((2048 : Int32) + ((va &&& (2147483647 : Int32)) % (61440 : Int32))) + (2048 : Int32)))] [(.int (24 : Int32)), (.int va), (.int (1 : Int32)), (.ref q)])) (fun TT HH tt kk => XS.bipush HH hx rfl (hb hby d_m_3_115) kk) ?_
          refine k_pure (g' := (mkF m 118 #[.val (.ref q), .val (.int (0 : Int32)), .val (.int ka), .val (.int va), .val (.int (ka &&& (3 : Int32))), .val (.int (((2048 : Int32) + ((va &&& (2147483647 : Int32)) % (61440 : Int32))) + (2048 : Int32)))] [(.int ((va.toUInt32 >>> ((24 : Int32) &&& 31).toUInt32).toInt32)), (.int (1 : Int32)), (.ref q)])) (fun TT HH tt kk => XS.iushr HH hx rfl (hb hby d_m_3_117) rfl kk) ?_
          refine k_pure (g' := (mkF m 120 #[.val (.ref q), .val (.int (0 : Int32)), .val (.int ka), .val (.int va), .val (.int (ka &&& (3 : Int32))), .val (.int (((2048 : Int32) + ((va &&& (2147483647 : Int32)) % (61440 : Int32))) + (2048 : Int32)))] [(.int (127 : Int32)), (.int ((va.toUInt32 >>> ((24 : Int32) &&& 31).toUInt32).toInt32)), (.int (1 : Int32)), (.ref q)])) (fun TT HH tt kk => XS.bipush HH hx rfl (hb hby d_m_3_118) kk) ?_
          refine k_pure (g' := (mkF m 121 #[.val (.ref q), .val (.int (0 : Int32)), .val (.int ka), .val (.int va), .val (.int (ka &&& (3 : Int32))), .val (.int (((2048 : Int32) + ((va &&& (2147483647 : Int32)) % (61440 : Int32))) + (2048 : Int32)))] [(.int (((va.toUInt32 >>> ((24 : Int32) &&& 31).toUInt32).toInt32) &&& (127 : Int32))), (.int (1 : Int32)), (.ref q)])) (fun TT HH tt kk => XS.iand HH hx rfl (hb hby d_m_3_120) rfl kk) ?_
          refine k_pure (g' := (mkF m 122 #[.val (.ref q), .val (.int (0 : Int32)), .val (.int ka), .val (.int va), .val (.int (ka &&& (3 : Int32))), .val (.int (((2048 : Int32) + ((va &&& (2147483647 : Int32)) % (61440 : Int32))) + (2048 : Int32)))] [(.int ((((va.toUInt32 >>> ((24 : Int32) &&& 31).toUInt32).toInt32) &&& (127 : Int32)).toUInt32.toUInt16.toUInt32.toInt32)), (.int (1 : Int32)), (.ref q)])) (fun TT HH tt kk => XS.i2c HH hx rfl (hb hby d_m_3_121) rfl kk) ?_
          refine k_stC hx V_47 ⟨by decide, by decide⟩ 1 (by decide) (Nat.le_of_ble_eq_true rfl) (by omega) (fun q => q) rfl rfl (hb hby d_m_3_122) ?_
          intro h_48 O_49 W_50 A_51
          have z_52 := W_50.size
          have V_53 : Arv Z h_48 q kq .char (4 : Int32) [(.int (nar .char ((((2048 : Int32) + ((va &&& (2147483647 : Int32)) % (61440 : Int32))) + (2048 : Int32)).toUInt32.toUInt16.toUInt32.toInt32))), (.int (nar .char ((((va.toUInt32 >>> ((24 : Int32) &&& 31).toUInt32).toInt32) &&& (127 : Int32)).toUInt32.toUInt16.toUInt32.toInt32))), (.int (0 : Int32)), (.int (0 : Int32))] (.int (0 : Int32)) := A_51
          show Run p l e _ s m _ below meth c Z EL1 _ n0 NoB h_48 0 0 (mkF m 123 #[.val (.ref q), .val (.int (0 : Int32)), .val (.int ka), .val (.int va), .val (.int (ka &&& (3 : Int32))), .val (.int (((2048 : Int32) + ((va &&& (2147483647 : Int32)) % (61440 : Int32))) + (2048 : Int32)))] []) _
          refine k_pure (g' := (mkF m 124 #[.val (.ref q), .val (.int (0 : Int32)), .val (.int ka), .val (.int va), .val (.int (ka &&& (3 : Int32))), .val (.int (((2048 : Int32) + ((va &&& (2147483647 : Int32)) % (61440 : Int32))) + (2048 : Int32)))] [(.int (4 : Int32))])) (fun TT HH tt kk => XS.iconst HH hx rfl (hb hby d_m_3_123) kk) ?_
          exact k_retI hx hlk hret (hb hby d_m_3_124) (by decide) (by decide) ⟨(nar .char ((((2048 : Int32) + ((va &&& (2147483647 : Int32)) % (61440 : Int32))) + (2048 : Int32)).toUInt32.toUInt16.toUInt32.toInt32)), (nar .char ((((va.toUInt32 >>> ((24 : Int32) &&& 31).toUInt32).toInt32) &&& (127 : Int32)).toUInt32.toUInt16.toUInt32.toInt32)), _, rfl, rfl, (((Keep.refl _ _).wr W_44 (Or.inl (by simp))).wr W_50 (Or.inl (by simp))), V_53, (by have r0 := rng32 ka; have r1 : (ka &&& (3 : Int32)).toInt = ka.toInt % 4 := (c_mask ka (3 : Int32) 2 (by decide) (by decide)); have r2 := rng32 (ka &&& (3 : Int32)); have r3 : (0 : Int32).toInt = 0 := (by decide); have r4 : (1 : Int32).toInt = 1 := (by decide); have r5 : (2 : Int32).toInt = 2 := (by decide); have r6 : (2048 : Int32).toInt = 2048 := (by decide); have r7 := rng32 va; have r8 : (va &&& (2147483647 : Int32)).toInt = va.toInt % 2147483648 := (c_mask va (2147483647 : Int32) 31 (by decide) (by decide)); have r9 := rng32 (va &&& (2147483647 : Int32)); have r10 := c_irem (va &&& (2147483647 : Int32)) (61440 : Int32) 61440 (by decide); have r11 := rng32 ((va &&& (2147483647 : Int32)) % (61440 : Int32)); have r12 := c_iadd (2048 : Int32) ((va &&& (2147483647 : Int32)) % (61440 : Int32)); have r13 := rng32 ((2048 : Int32) + ((va &&& (2147483647 : Int32)) % (61440 : Int32))); have r14 : (55296 : Int32).toInt = 55296 := (by decide); have r15 := c_iadd ((2048 : Int32) + ((va &&& (2147483647 : Int32)) % (61440 : Int32))) (2048 : Int32); have r16 := rng32 (((2048 : Int32) + ((va &&& (2147483647 : Int32)) % (61440 : Int32))) + (2048 : Int32)); have r17 := c_i2c (((2048 : Int32) + ((va &&& (2147483647 : Int32)) % (61440 : Int32))) + (2048 : Int32)); have r18 : ((nar .char ((((2048 : Int32) + ((va &&& (2147483647 : Int32)) % (61440 : Int32))) + (2048 : Int32)).toUInt32.toUInt16.toUInt32.toInt32)).toInt - ((((2048 : Int32) + ((va &&& (2147483647 : Int32)) % (61440 : Int32))) + (2048 : Int32)).toUInt32.toUInt16.toUInt32.toInt32).toInt) % 65536 = 0 ∧ 0 ≤ (nar .char ((((2048 : Int32) + ((va &&& (2147483647 : Int32)) % (61440 : Int32))) + (2048 : Int32)).toUInt32.toUInt16.toUInt32.toInt32)).toInt ∧ (nar .char ((((2048 : Int32) + ((va &&& (2147483647 : Int32)) % (61440 : Int32))) + (2048 : Int32)).toUInt32.toUInt16.toUInt32.toInt32)).toInt < 65536 := (c_i2c ((((2048 : Int32) + ((va &&& (2147483647 : Int32)) % (61440 : Int32))) + (2048 : Int32)).toUInt32.toUInt16.toUInt32.toInt32)); have r19 : ((va.toUInt32 >>> ((24 : Int32) &&& 31).toUInt32).toInt32).toInt = (va.toInt % 4294967296) / 16777216 := (c_iushr va (24 : Int32) 24 (by decide) (by decide)); have r20 := rng32 ((va.toUInt32 >>> ((24 : Int32) &&& 31).toUInt32).toInt32); have r21 : (((va.toUInt32 >>> ((24 : Int32) &&& 31).toUInt32).toInt32) &&& (127 : Int32)).toInt = ((va.toUInt32 >>> ((24 : Int32) &&& 31).toUInt32).toInt32).toInt % 128 := (c_mask ((va.toUInt32 >>> ((24 : Int32) &&& 31).toUInt32).toInt32) (127 : Int32) 7 (by decide) (by decide)); have r22 := rng32 (((va.toUInt32 >>> ((24 : Int32) &&& 31).toUInt32).toInt32) &&& (127 : Int32)); have r23 := c_i2c (((va.toUInt32 >>> ((24 : Int32) &&& 31).toUInt32).toInt32) &&& (127 : Int32)); have r24 : ((nar .char ((((va.toUInt32 >>> ((24 : Int32) &&& 31).toUInt32).toInt32) &&& (127 : Int32)).toUInt32.toUInt16.toUInt32.toInt32)).toInt - ((((va.toUInt32 >>> ((24 : Int32) &&& 31).toUInt32).toInt32) &&& (127 : Int32)).toUInt32.toUInt16.toUInt32.toInt32).toInt) % 65536 = 0 ∧ 0 ≤ (nar .char ((((va.toUInt32 >>> ((24 : Int32) &&& 31).toUInt32).toInt32) &&& (127 : Int32)).toUInt32.toUInt16.toUInt32.toInt32)).toInt ∧ (nar .char ((((va.toUInt32 >>> ((24 : Int32) &&& 31).toUInt32).toInt32) &&& (127 : Int32)).toUInt32.toUInt16.toUInt32.toInt32)).toInt < 65536 := (c_i2c ((((va.toUInt32 >>> ((24 : Int32) &&& 31).toUInt32).toInt32) &&& (127 : Int32)).toUInt32.toUInt16.toUInt32.toInt32)); have r25 : (4 : Int32).toInt = 4 := (by decide); have r26 : ¬ ((ka &&& (3 : Int32))).toInt = ((0 : Int32)).toInt := fun q => c_2 (Int32.toInt_inj.mp q); have r27 : ¬ ((ka &&& (3 : Int32))).toInt = ((1 : Int32)).toInt := fun q => c_15 (Int32.toInt_inj.mp q); have r28 := (congrArg Int32.toInt c_28); have r29 : ¬ (((2048 : Int32) + ((va &&& (2147483647 : Int32)) % (61440 : Int32)))).toInt < ((55296 : Int32)).toInt := fun q => c_29 (Int32.lt_iff_toInt_lt.mpr q); unfold Un; omega)⟩
      · refine k_pure (g' := (mkF m 125 #[.val (.ref q), .val (.int (0 : Int32)), .val (.int ka), .val (.int va), .val (.int (ka &&& (3 : Int32))), .unset] [])) (fun TT HH tt kk => XS.icmpYes HH hx rfl (pc0 := 73) (pc' := 125) rfl (hb hby d_m_3_73) rfl (feq c_28).2 (by decide) (by decide) kk) ?_
        refine k_pure (g' := (mkF m 126 #[.val (.ref q), .val (.int (0 : Int32)), .val (.int ka), .val (.int va), .val (.int (ka &&& (3 : Int32))), .unset] [(.ref q)])) (fun TT HH tt kk => XS.aloadN HH hx rfl (hb hby d_m_3_125) rfl rfl kk) ?_
        refine k_pure (g' := (mkF m 127 #[.val (.ref q), .val (.int (0 : Int32)), .val (.int ka), .val (.int va), .val (.int (ka &&& (3 : Int32))), .unset] [(.int (0 : Int32)), (.ref q)])) (fun TT HH tt kk => XS.iloadN HH hx rfl (hb hby d_m_3_126) rfl kk) ?_
        refine k_ldcI hx (wT 7 rfl) rfl (hb hby d_m_3_127) ?_
        show Run p l e _ s m _ below meth c Z EL1 _ n0 NoB h0 0 0 (mkF m 129 #[.val (.ref q), .val (.int (0 : Int32)), .val (.int ka), .val (.int va), .val (.int (ka &&& (3 : Int32))), .unset] [(.int (55296 : Int32)), (.int (0 : Int32)), (.ref q)]) _
        refine k_pure (g' := (mkF m 130 #[.val (.ref q), .val (.int (0 : Int32)), .val (.int ka), .val (.int va), .val (.int (ka &&& (3 : Int32))), .unset] [(.int va), (.int (55296 : Int32)), (.int (0 : Int32)), (.ref q)])) (fun TT HH tt kk => XS.iloadN HH hx rfl (hb hby d_m_3_129) rfl kk) ?_
        refine k_pure (g' := (mkF m 133 #[.val (.ref q), .val (.int (0 : Int32)), .val (.int ka), .val (.int va), .val (.int (ka &&& (3 : Int32))), .unset] [(.int (1023 : Int32)), (.int va), (.int (55296 : Int32)), (.int (0 : Int32)), (.ref q)])) (fun TT HH tt kk => XS.sipush HH hx rfl (hb hby d_m_3_130) kk) ?_
        refine k_pure (g' := (mkF m 134 #[.val (.ref q), .val (.int (0 : Int32)), .val (.int ka), .val (.int va), .val (.int (ka &&& (3 : Int32))), .unset] [(.int (va &&& (1023 : Int32))), (.int (55296 : Int32)), (.int (0 : Int32)), (.ref q)])) (fun TT HH tt kk => XS.iand HH hx rfl (hb hby d_m_3_133) rfl kk) ?_
        refine k_pure (g' := (mkF m 135 #[.val (.ref q), .val (.int (0 : Int32)), .val (.int ka), .val (.int va), .val (.int (ka &&& (3 : Int32))), .unset] [(.int ((55296 : Int32) + (va &&& (1023 : Int32)))), (.int (0 : Int32)), (.ref q)])) (fun TT HH tt kk => XS.iadd HH hx rfl (hb hby d_m_3_134) rfl kk) ?_
        refine k_pure (g' := (mkF m 136 #[.val (.ref q), .val (.int (0 : Int32)), .val (.int ka), .val (.int va), .val (.int (ka &&& (3 : Int32))), .unset] [(.int (((55296 : Int32) + (va &&& (1023 : Int32))).toUInt32.toUInt16.toUInt32.toInt32)), (.int (0 : Int32)), (.ref q)])) (fun TT HH tt kk => XS.i2c HH hx rfl (hb hby d_m_3_135) rfl kk) ?_
        refine k_stC hx pf_0 ⟨by decide, by decide⟩ 0 (by decide) (Nat.le_of_ble_eq_true rfl) (by omega) (fun q => q) rfl rfl (hb hby d_m_3_136) ?_
        intro h_54 O_55 W_56 A_57
        have z_58 := W_56.size
        have V_59 : Arv Z h_54 q kq .char (4 : Int32) [(.int (nar .char (((55296 : Int32) + (va &&& (1023 : Int32))).toUInt32.toUInt16.toUInt32.toInt32))), (.int (0 : Int32)), (.int (0 : Int32)), (.int (0 : Int32))] (.int (0 : Int32)) := A_57
        show Run p l e _ s m _ below meth c Z EL1 _ n0 NoB h_54 0 0 (mkF m 137 #[.val (.ref q), .val (.int (0 : Int32)), .val (.int ka), .val (.int va), .val (.int (ka &&& (3 : Int32))), .unset] []) _
        refine k_pure (g' := (mkF m 138 #[.val (.ref q), .val (.int (0 : Int32)), .val (.int ka), .val (.int va), .val (.int (ka &&& (3 : Int32))), .unset] [(.ref q)])) (fun TT HH tt kk => XS.aloadN HH hx rfl (hb hby d_m_3_137) rfl rfl kk) ?_
        refine k_pure (g' := (mkF m 139 #[.val (.ref q), .val (.int (0 : Int32)), .val (.int ka), .val (.int va), .val (.int (ka &&& (3 : Int32))), .unset] [(.int (0 : Int32)), (.ref q)])) (fun TT HH tt kk => XS.iloadN HH hx rfl (hb hby d_m_3_138) rfl kk) ?_
        refine k_pure (g' := (mkF m 140 #[.val (.ref q), .val (.int (0 : Int32)), .val (.int ka), .val (.int va), .val (.int (ka &&& (3 : Int32))), .unset] [(.int (1 : Int32)), (.int (0 : Int32)), (.ref q)])) (fun TT HH tt kk => XS.iconst HH hx rfl (hb hby d_m_3_139) kk) ?_
        refine k_pure (g' := (mkF m 141 #[.val (.ref q), .val (.int (0 : Int32)), .val (.int ka), .val (.int va), .val (.int (ka &&& (3 : Int32))), .unset] [(.int (1 : Int32)), (.ref q)])) (fun TT HH tt kk => XS.iadd HH hx rfl (hb hby d_m_3_140) rfl kk) ?_
        refine k_ldcI hx (wT 138 rfl) rfl (hb hby d_m_3_141) ?_
        show Run p l e _ s m _ below meth c Z EL1 _ n0 NoB h_54 0 0 (mkF m 143 #[.val (.ref q), .val (.int (0 : Int32)), .val (.int ka), .val (.int va), .val (.int (ka &&& (3 : Int32))), .unset] [(.int (56320 : Int32)), (.int (1 : Int32)), (.ref q)]) _
        refine k_pure (g' := (mkF m 144 #[.val (.ref q), .val (.int (0 : Int32)), .val (.int ka), .val (.int va), .val (.int (ka &&& (3 : Int32))), .unset] [(.int va), (.int (56320 : Int32)), (.int (1 : Int32)), (.ref q)])) (fun TT HH tt kk => XS.iloadN HH hx rfl (hb hby d_m_3_143) rfl kk) ?_
        refine k_pure (g' := (mkF m 146 #[.val (.ref q), .val (.int (0 : Int32)), .val (.int ka), .val (.int va), .val (.int (ka &&& (3 : Int32))), .unset] [(.int (10 : Int32)), (.int va), (.int (56320 : Int32)), (.int (1 : Int32)), (.ref q)])) (fun TT HH tt kk => XS.bipush HH hx rfl (hb hby d_m_3_144) kk) ?_
        refine k_pure (g' := (mkF m 147 #[.val (.ref q), .val (.int (0 : Int32)), .val (.int ka), .val (.int va), .val (.int (ka &&& (3 : Int32))), .unset] [(.int ((va.toUInt32 >>> ((10 : Int32) &&& 31).toUInt32).toInt32)), (.int (56320 : Int32)), (.int (1 : Int32)), (.ref q)])) (fun TT HH tt kk => XS.iushr HH hx rfl (hb hby d_m_3_146) rfl kk) ?_
        refine k_pure (g' := (mkF m 150 #[.val (.ref q), .val (.int (0 : Int32)), .val (.int ka), .val (.int va), .val (.int (ka &&& (3 : Int32))), .unset] [(.int (1023 : Int32)), (.int ((va.toUInt32 >>> ((10 : Int32) &&& 31).toUInt32).toInt32)), (.int (56320 : Int32)), (.int (1 : Int32)), (.ref q)])) (fun TT HH tt kk => XS.sipush HH hx rfl (hb hby d_m_3_147) kk) ?_
        refine k_pure (g' := (mkF m 151 #[.val (.ref q), .val (.int (0 : Int32)), .val (.int ka), .val (.int va), .val (.int (ka &&& (3 : Int32))), .unset] [(.int (((va.toUInt32 >>> ((10 : Int32) &&& 31).toUInt32).toInt32) &&& (1023 : Int32))), (.int (56320 : Int32)), (.int (1 : Int32)), (.ref q)])) (fun TT HH tt kk => XS.iand HH hx rfl (hb hby d_m_3_150) rfl kk) ?_
        refine k_pure (g' := (mkF m 152 #[.val (.ref q), .val (.int (0 : Int32)), .val (.int ka), .val (.int va), .val (.int (ka &&& (3 : Int32))), .unset] [(.int ((56320 : Int32) + (((va.toUInt32 >>> ((10 : Int32) &&& 31).toUInt32).toInt32) &&& (1023 : Int32)))), (.int (1 : Int32)), (.ref q)])) (fun TT HH tt kk => XS.iadd HH hx rfl (hb hby d_m_3_151) rfl kk) ?_
        refine k_pure (g' := (mkF m 153 #[.val (.ref q), .val (.int (0 : Int32)), .val (.int ka), .val (.int va), .val (.int (ka &&& (3 : Int32))), .unset] [(.int (((56320 : Int32) + (((va.toUInt32 >>> ((10 : Int32) &&& 31).toUInt32).toInt32) &&& (1023 : Int32))).toUInt32.toUInt16.toUInt32.toInt32)), (.int (1 : Int32)), (.ref q)])) (fun TT HH tt kk => XS.i2c HH hx rfl (hb hby d_m_3_152) rfl kk) ?_
        refine k_stC hx V_59 ⟨by decide, by decide⟩ 1 (by decide) (Nat.le_of_ble_eq_true rfl) (by omega) (fun q => q) rfl rfl (hb hby d_m_3_153) ?_
        intro h_60 O_61 W_62 A_63
        have z_64 := W_62.size
        have V_65 : Arv Z h_60 q kq .char (4 : Int32) [(.int (nar .char (((55296 : Int32) + (va &&& (1023 : Int32))).toUInt32.toUInt16.toUInt32.toInt32))), (.int (nar .char (((56320 : Int32) + (((va.toUInt32 >>> ((10 : Int32) &&& 31).toUInt32).toInt32) &&& (1023 : Int32))).toUInt32.toUInt16.toUInt32.toInt32))), (.int (0 : Int32)), (.int (0 : Int32))] (.int (0 : Int32)) := A_63
        show Run p l e _ s m _ below meth c Z EL1 _ n0 NoB h_60 0 0 (mkF m 154 #[.val (.ref q), .val (.int (0 : Int32)), .val (.int ka), .val (.int va), .val (.int (ka &&& (3 : Int32))), .unset] []) _
        refine k_pure (g' := (mkF m 155 #[.val (.ref q), .val (.int (0 : Int32)), .val (.int ka), .val (.int va), .val (.int (ka &&& (3 : Int32))), .unset] [(.int (4 : Int32))])) (fun TT HH tt kk => XS.iconst HH hx rfl (hb hby d_m_3_154) kk) ?_
        exact k_retI hx hlk hret (hb hby d_m_3_155) (by decide) (by decide) ⟨(nar .char (((55296 : Int32) + (va &&& (1023 : Int32))).toUInt32.toUInt16.toUInt32.toInt32)), (nar .char (((56320 : Int32) + (((va.toUInt32 >>> ((10 : Int32) &&& 31).toUInt32).toInt32) &&& (1023 : Int32))).toUInt32.toUInt16.toUInt32.toInt32)), _, rfl, rfl, (((Keep.refl _ _).wr W_56 (Or.inl (by simp))).wr W_62 (Or.inl (by simp))), V_65, (by have r0 := rng32 ka; have r1 : (ka &&& (3 : Int32)).toInt = ka.toInt % 4 := (c_mask ka (3 : Int32) 2 (by decide) (by decide)); have r2 := rng32 (ka &&& (3 : Int32)); have r3 : (0 : Int32).toInt = 0 := (by decide); have r4 : (1 : Int32).toInt = 1 := (by decide); have r5 : (2 : Int32).toInt = 2 := (by decide); have r6 : (55296 : Int32).toInt = 55296 := (by decide); have r7 := rng32 va; have r8 : (va &&& (1023 : Int32)).toInt = va.toInt % 1024 := (c_mask va (1023 : Int32) 10 (by decide) (by decide)); have r9 := rng32 (va &&& (1023 : Int32)); have r10 := c_iadd (55296 : Int32) (va &&& (1023 : Int32)); have r11 := rng32 ((55296 : Int32) + (va &&& (1023 : Int32))); have r12 := c_i2c ((55296 : Int32) + (va &&& (1023 : Int32))); have r13 : ((nar .char (((55296 : Int32) + (va &&& (1023 : Int32))).toUInt32.toUInt16.toUInt32.toInt32)).toInt - (((55296 : Int32) + (va &&& (1023 : Int32))).toUInt32.toUInt16.toUInt32.toInt32).toInt) % 65536 = 0 ∧ 0 ≤ (nar .char (((55296 : Int32) + (va &&& (1023 : Int32))).toUInt32.toUInt16.toUInt32.toInt32)).toInt ∧ (nar .char (((55296 : Int32) + (va &&& (1023 : Int32))).toUInt32.toUInt16.toUInt32.toInt32)).toInt < 65536 := (c_i2c (((55296 : Int32) + (va &&& (1023 : Int32))).toUInt32.toUInt16.toUInt32.toInt32)); have r14 : (56320 : Int32).toInt = 56320 := (by decide); have r15 : ((va.toUInt32 >>> ((10 : Int32) &&& 31).toUInt32).toInt32).toInt = (va.toInt % 4294967296) / 1024 := (c_iushr va (10 : Int32) 10 (by decide) (by decide)); have r16 := rng32 ((va.toUInt32 >>> ((10 : Int32) &&& 31).toUInt32).toInt32); have r17 : (((va.toUInt32 >>> ((10 : Int32) &&& 31).toUInt32).toInt32) &&& (1023 : Int32)).toInt = ((va.toUInt32 >>> ((10 : Int32) &&& 31).toUInt32).toInt32).toInt % 1024 := (c_mask ((va.toUInt32 >>> ((10 : Int32) &&& 31).toUInt32).toInt32) (1023 : Int32) 10 (by decide) (by decide)); have r18 := rng32 (((va.toUInt32 >>> ((10 : Int32) &&& 31).toUInt32).toInt32) &&& (1023 : Int32)); have r19 := c_iadd (56320 : Int32) (((va.toUInt32 >>> ((10 : Int32) &&& 31).toUInt32).toInt32) &&& (1023 : Int32)); have r20 := rng32 ((56320 : Int32) + (((va.toUInt32 >>> ((10 : Int32) &&& 31).toUInt32).toInt32) &&& (1023 : Int32))); have r21 := c_i2c ((56320 : Int32) + (((va.toUInt32 >>> ((10 : Int32) &&& 31).toUInt32).toInt32) &&& (1023 : Int32))); have r22 : ((nar .char (((56320 : Int32) + (((va.toUInt32 >>> ((10 : Int32) &&& 31).toUInt32).toInt32) &&& (1023 : Int32))).toUInt32.toUInt16.toUInt32.toInt32)).toInt - (((56320 : Int32) + (((va.toUInt32 >>> ((10 : Int32) &&& 31).toUInt32).toInt32) &&& (1023 : Int32))).toUInt32.toUInt16.toUInt32.toInt32).toInt) % 65536 = 0 ∧ 0 ≤ (nar .char (((56320 : Int32) + (((va.toUInt32 >>> ((10 : Int32) &&& 31).toUInt32).toInt32) &&& (1023 : Int32))).toUInt32.toUInt16.toUInt32.toInt32)).toInt ∧ (nar .char (((56320 : Int32) + (((va.toUInt32 >>> ((10 : Int32) &&& 31).toUInt32).toInt32) &&& (1023 : Int32))).toUInt32.toUInt16.toUInt32.toInt32)).toInt < 65536 := (c_i2c (((56320 : Int32) + (((va.toUInt32 >>> ((10 : Int32) &&& 31).toUInt32).toInt32) &&& (1023 : Int32))).toUInt32.toUInt16.toUInt32.toInt32)); have r23 : (4 : Int32).toInt = 4 := (by decide); have r24 : ¬ ((ka &&& (3 : Int32))).toInt = ((0 : Int32)).toInt := fun q => c_2 (Int32.toInt_inj.mp q); have r25 : ¬ ((ka &&& (3 : Int32))).toInt = ((1 : Int32)).toInt := fun q => c_15 (Int32.toInt_inj.mp q); have r26 : ¬ ((ka &&& (3 : Int32))).toInt = ((2 : Int32)).toInt := fun q => c_28 (Int32.toInt_inj.mp q); unfold Un; omega)⟩
def Q_uni2 (Z : State) (G1 : Int32) (G3 : Value) (q : Addr) (kq : ClassId) (ka : Int32) (va : Int32) (x0 : Int32) (y0 : Int32) (h0 : Heap) (n0 : Nat) (bk : Addr → Prop) (v : Option Value) (h : Heap) (bk' : Addr → Prop) : Prop := ∃ (x1 : Int32), ∃ (y1 : Int32), ∃ (b1 : Int32), v = some (.int b1) ∧ NoB = bk' ∧ Keep h0 h [q] ∧ (Arv Z h q kq .char (4 : Int32) [(.int x0), (.int y0), (.int x1), (.int y1)] (.int (0 : Int32))) ∧ (Un ka x1 y1 b1)
abbrev RM_uni2 : Room := { frames := 0, cells := 0, slots := 0, locals := 0 }
theorem ef_uni2 (m : MethodId) (x0 : Addr) (x1 : Int32) (x2 : Int32) (x3 : Int32) : entryFrame m #[(.ref x0), (.int x1), (.int x2), (.int x3)] 6 = mkF m 0 #[.val (.ref x0), .val (.int x1), .val (.int x2), .val (.int x3), .unset, .unset] [] := by first | (simp [entryFrame, mkF, argsToLocals, Value.category]; done) | rfl
set_option maxRecDepth 65536 in
set_option maxHeartbeats 40000000 in
theorem rm_uni2 (l : Launch) (Z : State) (a0 : Array Value) (G1 : Int32) (G3 : Value) (hX : Ctx Z a0 G1 G3) (hU : Wide Z) (n0 : Nat) (h0 : Heap) (O0 : Old Z n0 h0) (q : Addr) (kq : ClassId) (ka : Int32) (va : Int32) (x0 : Int32) (y0 : Int32) (pf_0 : Arv Z h0 q kq .char (4 : Int32) [(.int x0), (.int y0), (.int (0 : Int32)), (.int (0 : Int32))] (.int (0 : Int32))) (gq : n0 ≤ q) (ws : List Jvm.Cond) : Met l Z EL1 n0 NoB (⟨"com/example/eirene/eirene/KeySpaceCheckNamePinLaw", "unit", "([CIII)I"⟩ : MethodName) method_3_code 6 (Option.some FieldType.int) RM_uni2 #[(.ref q), (.int (2 : Int32)), (.int ka), (.int va)] h0 (Q_uni2 Z G1 G3 q kq ka va x0 y0 h0 n0 NoB) ws := by
  have hX' := hX
  obtain ⟨hw, hE, S1, P1, S3, P3⟩ := hX'
  have hU' := hU
  obtain ⟨u1, u2, u3⟩ := hU'
  have hSA := sa_of hw
  have wT : ∀ (i : Nat) {d : Jvm.Cond}, tables_1[i]? = some d → d.before a0 Z = true := fun i d h => hw d (List.mem_of_getElem? h)
  have z0 : n0 ≤ h0.size := by rw [← O0.1]; exact O0.2.1
  refine Met.of (by decide +kernel) O0 hE ?_
  intro p e s m below meth c hx hby hml hret hlk hnm
  refine k_cast (ef_uni2 m q (2 : Int32) ka va) ?_
  show Run p l e _ s m _ below meth c Z EL1 _ n0 NoB h0 0 0 (mkF m 0 #[.val (.ref q), .val (.int (2 : Int32)), .val (.int ka), .val (.int va), .unset, .unset] []) _
  have lt_1 : @LT.lt Nat _ q (Array.size h0) := pf_0.lt
  refine k_pure (g' := (mkF m 1 #[.val (.ref q), .val (.int (2 : Int32)), .val (.int ka), .val (.int va), .unset, .unset] [(.int ka)])) (fun TT HH tt kk => XS.iloadN HH hx rfl (hb hby d_m_3_0) rfl kk) ?_
  refine k_pure (g' := (mkF m 2 #[.val (.ref q), .val (.int (2 : Int32)), .val (.int ka), .val (.int va), .unset, .unset] [(.int (3 : Int32)), (.int ka)])) (fun TT HH tt kk => XS.iconst HH hx rfl (hb hby d_m_3_1) kk) ?_
  refine k_pure (g' := (mkF m 3 #[.val (.ref q), .val (.int (2 : Int32)), .val (.int ka), .val (.int va), .unset, .unset] [(.int (ka &&& (3 : Int32)))])) (fun TT HH tt kk => XS.iand HH hx rfl (hb hby d_m_3_2) rfl kk) ?_
  refine k_pure (g' := (mkF m 5 #[.val (.ref q), .val (.int (2 : Int32)), .val (.int ka), .val (.int va), .val (.int (ka &&& (3 : Int32))), .unset] [])) (fun TT HH tt kk => XS.istore HH hx rfl (hb hby d_m_3_3) rfl (l' := #[.val (.ref q), .val (.int (2 : Int32)), .val (.int ka), .val (.int va), .val (.int (ka &&& (3 : Int32))), .unset]) rfl kk) ?_
  refine k_pure (g' := (mkF m 7 #[.val (.ref q), .val (.int (2 : Int32)), .val (.int ka), .val (.int va), .val (.int (ka &&& (3 : Int32))), .unset] [(.int (ka &&& (3 : Int32)))])) (fun TT HH tt kk => XS.iload HH hx rfl (hb hby d_m_3_5) rfl kk) ?_
  by_cases c_2 : (ka &&& (3 : Int32)) = (0 : Int32)
  · refine k_pure (g' := (mkF m 10 #[.val (.ref q), .val (.int (2 : Int32)), .val (.int ka), .val (.int va), .val (.int (ka &&& (3 : Int32))), .unset] [])) (fun TT HH tt kk => XS.ifNo HH hx rfl (hb hby d_m_3_7) rfl ((if0 _ _).trans (teq c_2).2) kk) ?_
    refine k_pure (g' := (mkF m 11 #[.val (.ref q), .val (.int (2 : Int32)), .val (.int ka), .val (.int va), .val (.int (ka &&& (3 : Int32))), .unset] [(.ref q)])) (fun TT HH tt kk => XS.aloadN HH hx rfl (hb hby d_m_3_10) rfl rfl kk) ?_
    refine k_pure (g' := (mkF m 12 #[.val (.ref q), .val (.int (2 : Int32)), .val (.int ka), .val (.int va), .val (.int (ka &&& (3 : Int32))), .unset] [(.int (2 : Int32)), (.ref q)])) (fun TT HH tt kk => XS.iloadN HH hx rfl (hb hby d_m_3_11) rfl kk) ?_
    refine k_pure (g' := (mkF m 13 #[.val (.ref q), .val (.int (2 : Int32)), .val (.int ka), .val (.int va), .val (.int (ka &&& (3 : Int32))), .unset] [(.int va), (.int (2 : Int32)), (.ref q)])) (fun TT HH tt kk => XS.iloadN HH hx rfl (hb hby d_m_3_12) rfl kk) ?_
    refine k_pure (g' := (mkF m 15 #[.val (.ref q), .val (.int (2 : Int32)), .val (.int ka), .val (.int va), .val (.int (ka &&& (3 : Int32))), .unset] [(.int (127 : Int32)), (.int va), (.int (2 : Int32)), (.ref q)])) (fun TT HH tt kk => XS.bipush HH hx rfl (hb hby d_m_3_13) kk) ?_
    refine k_pure (g' := (mkF m 16 #[.val (.ref q), .val (.int (2 : Int32)), .val (.int ka), .val (.int va), .val (.int (ka &&& (3 : Int32))), .unset] [(.int (va &&& (127 : Int32))), (.int (2 : Int32)), (.ref q)])) (fun TT HH tt kk => XS.iand HH hx rfl (hb hby d_m_3_15) rfl kk) ?_
    refine k_pure (g' := (mkF m 17 #[.val (.ref q), .val (.int (2 : Int32)), .val (.int ka), .val (.int va), .val (.int (ka &&& (3 : Int32))), .unset] [(.int ((va &&& (127 : Int32)).toUInt32.toUInt16.toUInt32.toInt32)), (.int (2 : Int32)), (.ref q)])) (fun TT HH tt kk => XS.i2c HH hx rfl (hb hby d_m_3_16) rfl kk) ?_
    refine k_stC hx pf_0 ⟨by decide, by decide⟩ 2 (by decide) (Nat.le_of_ble_eq_true rfl) (by omega) (fun q => q) rfl rfl (hb hby d_m_3_17) ?_
    intro h_3 O_4 W_5 A_6
    have z_7 := W_5.size
    have V_8 : Arv Z h_3 q kq .char (4 : Int32) [(.int x0), (.int y0), (.int (nar .char ((va &&& (127 : Int32)).toUInt32.toUInt16.toUInt32.toInt32))), (.int (0 : Int32))] (.int (0 : Int32)) := A_6
    show Run p l e _ s m _ below meth c Z EL1 _ n0 NoB h_3 0 0 (mkF m 18 #[.val (.ref q), .val (.int (2 : Int32)), .val (.int ka), .val (.int va), .val (.int (ka &&& (3 : Int32))), .unset] []) _
    refine k_pure (g' := (mkF m 19 #[.val (.ref q), .val (.int (2 : Int32)), .val (.int ka), .val (.int va), .val (.int (ka &&& (3 : Int32))), .unset] [(.ref q)])) (fun TT HH tt kk => XS.aloadN HH hx rfl (hb hby d_m_3_18) rfl rfl kk) ?_
    refine k_pure (g' := (mkF m 20 #[.val (.ref q), .val (.int (2 : Int32)), .val (.int ka), .val (.int va), .val (.int (ka &&& (3 : Int32))), .unset] [(.int (2 : Int32)), (.ref q)])) (fun TT HH tt kk => XS.iloadN HH hx rfl (hb hby d_m_3_19) rfl kk) ?_
    refine k_pure (g' := (mkF m 21 #[.val (.ref q), .val (.int (2 : Int32)), .val (.int ka), .val (.int va), .val (.int (ka &&& (3 : Int32))), .unset] [(.int (1 : Int32)), (.int (2 : Int32)), (.ref q)])) (fun TT HH tt kk => XS.iconst HH hx rfl (hb hby d_m_3_20) kk) ?_
    refine k_pure (g' := (mkF m 22 #[.val (.ref q), .val (.int (2 : Int32)), .val (.int ka), .val (.int va), .val (.int (ka &&& (3 : Int32))), .unset] [(.int (3 : Int32)), (.ref q)])) (fun TT HH tt kk => XS.iadd HH hx rfl (hb hby d_m_3_21) rfl kk) ?_
    refine k_pure (g' := (mkF m 23 #[.val (.ref q), .val (.int (2 : Int32)), .val (.int ka), .val (.int va), .val (.int (ka &&& (3 : Int32))), .unset] [(.int va), (.int (3 : Int32)), (.ref q)])) (fun TT HH tt kk => XS.iloadN HH hx rfl (hb hby d_m_3_22) rfl kk) ?_
    refine k_pure (g' := (mkF m 25 #[.val (.ref q), .val (.int (2 : Int32)), .val (.int ka), .val (.int va), .val (.int (ka &&& (3 : Int32))), .unset] [(.int (8 : Int32)), (.int va), (.int (3 : Int32)), (.ref q)])) (fun TT HH tt kk => XS.bipush HH hx rfl (hb hby d_m_3_23) kk) ?_
    refine k_pure (g' := (mkF m 26 #[.val (.ref q), .val (.int (2 : Int32)), .val (.int ka), .val (.int va), .val (.int (ka &&& (3 : Int32))), .unset] [(.int ((va.toUInt32 >>> ((8 : Int32) &&& 31).toUInt32).toInt32)), (.int (3 : Int32)), (.ref q)])) (fun TT HH tt kk => XS.iushr HH hx rfl (hb hby d_m_3_25) rfl kk) ?_
    refine k_pure (g' := (mkF m 28 #[.val (.ref q), .val (.int (2 : Int32)), .val (.int ka), .val (.int va), .val (.int (ka &&& (3 : Int32))), .unset] [(.int (127 : Int32)), (.int ((va.toUInt32 >>> ((8 : Int32) &&& 31).toUInt32).toInt32)), (.int (3 : Int32)), (.ref q)])) (fun TT HH tt kk => XS.bipush HH hx rfl (hb hby d_m_3_26) kk) ?_
    refine k_pure (g' := (mkF m 29 #[.val (.ref q), .val (.int (2 : Int32)), .val (.int ka), .val (.int va), .val (.int (ka &&& (3 : Int32))), .unset] [(.int (((va.toUInt32 >>> ((8 : Int32) &&& 31).toUInt32).toInt32) &&& (127 : Int32))), (.int (3 : Int32)), (.ref q)])) (fun TT HH tt kk => XS.iand HH hx rfl (hb hby d_m_3_28) rfl kk) ?_
    refine k_pure (g' := (mkF m 30 #[.val (.ref q), .val (.int (2 : Int32)), .val (.int ka), .val (.int va), .val (.int (ka &&& (3 : Int32))), .unset] [(.int ((((va.toUInt32 >>> ((8 : Int32) &&& 31).toUInt32).toInt32) &&& (127 : Int32)).toUInt32.toUInt16.toUInt32.toInt32)), (.int (3 : Int32)), (.ref q)])) (fun TT HH tt kk => XS.i2c HH hx rfl (hb hby d_m_3_29) rfl kk) ?_
    refine k_stC hx V_8 ⟨by decide, by decide⟩ 3 (by decide) (Nat.le_of_ble_eq_true rfl) (by omega) (fun q => q) rfl rfl (hb hby d_m_3_30) ?_
    intro h_9 O_10 W_11 A_12
    have z_13 := W_11.size
    have V_14 : Arv Z h_9 q kq .char (4 : Int32) [(.int x0), (.int y0), (.int (nar .char ((va &&& (127 : Int32)).toUInt32.toUInt16.toUInt32.toInt32))), (.int (nar .char ((((va.toUInt32 >>> ((8 : Int32) &&& 31).toUInt32).toInt32) &&& (127 : Int32)).toUInt32.toUInt16.toUInt32.toInt32)))] (.int (0 : Int32)) := A_12
    show Run p l e _ s m _ below meth c Z EL1 _ n0 NoB h_9 0 0 (mkF m 31 #[.val (.ref q), .val (.int (2 : Int32)), .val (.int ka), .val (.int va), .val (.int (ka &&& (3 : Int32))), .unset] []) _
    refine k_pure (g' := (mkF m 32 #[.val (.ref q), .val (.int (2 : Int32)), .val (.int ka), .val (.int va), .val (.int (ka &&& (3 : Int32))), .unset] [(.int (2 : Int32))])) (fun TT HH tt kk => XS.iconst HH hx rfl (hb hby d_m_3_31) kk) ?_
    exact k_retI hx hlk hret (hb hby d_m_3_32) (by decide) (by decide) ⟨(nar .char ((va &&& (127 : Int32)).toUInt32.toUInt16.toUInt32.toInt32)), (nar .char ((((va.toUInt32 >>> ((8 : Int32) &&& 31).toUInt32).toInt32) &&& (127 : Int32)).toUInt32.toUInt16.toUInt32.toInt32)), _, rfl, rfl, (((Keep.refl _ _).wr W_5 (Or.inl (by simp))).wr W_11 (Or.inl (by simp))), V_14, (by have r0 := rng32 ka; have r1 : (ka &&& (3 : Int32)).toInt = ka.toInt % 4 := (c_mask ka (3 : Int32) 2 (by decide) (by decide)); have r2 := rng32 (ka &&& (3 : Int32)); have r3 : (0 : Int32).toInt = 0 := (by decide); have r4 := rng32 va; have r5 : (va &&& (127 : Int32)).toInt = va.toInt % 128 := (c_mask va (127 : Int32) 7 (by decide) (by decide)); have r6 := rng32 (va &&& (127 : Int32)); have r7 := c_i2c (va &&& (127 : Int32)); have r8 : ((nar .char ((va &&& (127 : Int32)).toUInt32.toUInt16.toUInt32.toInt32)).toInt - ((va &&& (127 : Int32)).toUInt32.toUInt16.toUInt32.toInt32).toInt) % 65536 = 0 ∧ 0 ≤ (nar .char ((va &&& (127 : Int32)).toUInt32.toUInt16.toUInt32.toInt32)).toInt ∧ (nar .char ((va &&& (127 : Int32)).toUInt32.toUInt16.toUInt32.toInt32)).toInt < 65536 := (c_i2c ((va &&& (127 : Int32)).toUInt32.toUInt16.toUInt32.toInt32)); have r9 : ((va.toUInt32 >>> ((8 : Int32) &&& 31).toUInt32).toInt32).toInt = (va.toInt % 4294967296) / 256 := (c_iushr va (8 : Int32) 8 (by decide) (by decide)); have r10 := rng32 ((va.toUInt32 >>> ((8 : Int32) &&& 31).toUInt32).toInt32); have r11 : (((va.toUInt32 >>> ((8 : Int32) &&& 31).toUInt32).toInt32) &&& (127 : Int32)).toInt = ((va.toUInt32 >>> ((8 : Int32) &&& 31).toUInt32).toInt32).toInt % 128 := (c_mask ((va.toUInt32 >>> ((8 : Int32) &&& 31).toUInt32).toInt32) (127 : Int32) 7 (by decide) (by decide)); have r12 := rng32 (((va.toUInt32 >>> ((8 : Int32) &&& 31).toUInt32).toInt32) &&& (127 : Int32)); have r13 := c_i2c (((va.toUInt32 >>> ((8 : Int32) &&& 31).toUInt32).toInt32) &&& (127 : Int32)); have r14 : ((nar .char ((((va.toUInt32 >>> ((8 : Int32) &&& 31).toUInt32).toInt32) &&& (127 : Int32)).toUInt32.toUInt16.toUInt32.toInt32)).toInt - ((((va.toUInt32 >>> ((8 : Int32) &&& 31).toUInt32).toInt32) &&& (127 : Int32)).toUInt32.toUInt16.toUInt32.toInt32).toInt) % 65536 = 0 ∧ 0 ≤ (nar .char ((((va.toUInt32 >>> ((8 : Int32) &&& 31).toUInt32).toInt32) &&& (127 : Int32)).toUInt32.toUInt16.toUInt32.toInt32)).toInt ∧ (nar .char ((((va.toUInt32 >>> ((8 : Int32) &&& 31).toUInt32).toInt32) &&& (127 : Int32)).toUInt32.toUInt16.toUInt32.toInt32)).toInt < 65536 := (c_i2c ((((va.toUInt32 >>> ((8 : Int32) &&& 31).toUInt32).toInt32) &&& (127 : Int32)).toUInt32.toUInt16.toUInt32.toInt32)); have r15 : (2 : Int32).toInt = 2 := (by decide); have r16 := (congrArg Int32.toInt c_2); unfold Un; omega)⟩
  · refine k_pure (g' := (mkF m 33 #[.val (.ref q), .val (.int (2 : Int32)), .val (.int ka), .val (.int va), .val (.int (ka &&& (3 : Int32))), .unset] [])) (fun TT HH tt kk => XS.ifYes HH hx rfl (pc0 := 7) (pc' := 33) rfl (hb hby d_m_3_7) rfl ((if0 _ _).trans (feq c_2).2) (by decide) (by decide) kk) ?_
    refine k_pure (g' := (mkF m 35 #[.val (.ref q), .val (.int (2 : Int32)), .val (.int ka), .val (.int va), .val (.int (ka &&& (3 : Int32))), .unset] [(.int (ka &&& (3 : Int32)))])) (fun TT HH tt kk => XS.iload HH hx rfl (hb hby d_m_3_33) rfl kk) ?_
    refine k_pure (g' := (mkF m 36 #[.val (.ref q), .val (.int (2 : Int32)), .val (.int ka), .val (.int va), .val (.int (ka &&& (3 : Int32))), .unset] [(.int (1 : Int32)), (.int (ka &&& (3 : Int32)))])) (fun TT HH tt kk => XS.iconst HH hx rfl (hb hby d_m_3_35) kk) ?_
    by_cases c_15 : (ka &&& (3 : Int32)) = (1 : Int32)
    · refine k_pure (g' := (mkF m 39 #[.val (.ref q), .val (.int (2 : Int32)), .val (.int ka), .val (.int va), .val (.int (ka &&& (3 : Int32))), .unset] [])) (fun TT HH tt kk => XS.icmpNo HH hx rfl (hb hby d_m_3_36) rfl (teq c_15).2 kk) ?_
      refine k_pure (g' := (mkF m 40 #[.val (.ref q), .val (.int (2 : Int32)), .val (.int ka), .val (.int va), .val (.int (ka &&& (3 : Int32))), .unset] [(.ref q)])) (fun TT HH tt kk => XS.aloadN HH hx rfl (hb hby d_m_3_39) rfl rfl kk) ?_
      refine k_pure (g' := (mkF m 41 #[.val (.ref q), .val (.int (2 : Int32)), .val (.int ka), .val (.int va), .val (.int (ka &&& (3 : Int32))), .unset] [(.int (2 : Int32)), (.ref q)])) (fun TT HH tt kk => XS.iloadN HH hx rfl (hb hby d_m_3_40) rfl kk) ?_
      refine k_pure (g' := (mkF m 44 #[.val (.ref q), .val (.int (2 : Int32)), .val (.int ka), .val (.int va), .val (.int (ka &&& (3 : Int32))), .unset] [(.int (128 : Int32)), (.int (2 : Int32)), (.ref q)])) (fun TT HH tt kk => XS.sipush HH hx rfl (hb hby d_m_3_41) kk) ?_
      refine k_pure (g' := (mkF m 45 #[.val (.ref q), .val (.int (2 : Int32)), .val (.int ka), .val (.int va), .val (.int (ka &&& (3 : Int32))), .unset] [(.int va), (.int (128 : Int32)), (.int (2 : Int32)), (.ref q)])) (fun TT HH tt kk => XS.iloadN HH hx rfl (hb hby d_m_3_44) rfl kk) ?_
      refine k_ldcI hx (wT 5 rfl) rfl (hb hby d_m_3_45) ?_
      show Run p l e _ s m _ below meth c Z EL1 _ n0 NoB h0 0 0 (mkF m 47 #[.val (.ref q), .val (.int (2 : Int32)), .val (.int ka), .val (.int va), .val (.int (ka &&& (3 : Int32))), .unset] [(.int (2147483647 : Int32)), (.int va), (.int (128 : Int32)), (.int (2 : Int32)), (.ref q)]) _
      refine k_pure (g' := (mkF m 48 #[.val (.ref q), .val (.int (2 : Int32)), .val (.int ka), .val (.int va), .val (.int (ka &&& (3 : Int32))), .unset] [(.int (va &&& (2147483647 : Int32))), (.int (128 : Int32)), (.int (2 : Int32)), (.ref q)])) (fun TT HH tt kk => XS.iand HH hx rfl (hb hby d_m_3_47) rfl kk) ?_
      refine k_pure (g' := (mkF m 51 #[.val (.ref q), .val (.int (2 : Int32)), .val (.int ka), .val (.int va), .val (.int (ka &&& (3 : Int32))), .unset] [(.int (1920 : Int32)), (.int (va &&& (2147483647 : Int32))), (.int (128 : Int32)), (.int (2 : Int32)), (.ref q)])) (fun TT HH tt kk => XS.sipush HH hx rfl (hb hby d_m_3_48) kk) ?_
      refine k_pure (g' := (mkF m 52 #[.val (.ref q), .val (.int (2 : Int32)), .val (.int ka), .val (.int va), .val (.int (ka &&& (3 : Int32))), .unset] [(.int ((va &&& (2147483647 : Int32)) % (1920 : Int32))), (.int (128 : Int32)), (.int (2 : Int32)), (.ref q)])) (fun TT HH tt kk => s_irem HH hx rfl (hb hby d_m_3_51) rfl (by decide) kk) ?_
      refine k_pure (g' := (mkF m 53 #[.val (.ref q), .val (.int (2 : Int32)), .val (.int ka), .val (.int va), .val (.int (ka &&& (3 : Int32))), .unset] [(.int ((128 : Int32) + ((va &&& (2147483647 : Int32)) % (1920 : Int32)))), (.int (2 : Int32)), (.ref q)])) (fun TT HH tt kk => XS.iadd HH hx rfl (hb hby d_m_3_52) rfl kk) ?_
      refine k_pure (g' := (mkF m 54 #[.val (.ref q), .val (.int (2 : Int32)), .val (.int ka), .val (.int va), .val (.int (ka &&& (3 : Int32))), .unset] [(.int (((128 : Int32) + ((va &&& (2147483647 : Int32)) % (1920 : Int32))).toUInt32.toUInt16.toUInt32.toInt32)), (.int (2 : Int32)), (.ref q)])) (fun TT HH tt kk => XS.i2c HH hx rfl (hb hby d_m_3_53) rfl kk) ?_
      refine k_stC hx pf_0 ⟨by decide, by decide⟩ 2 (by decide) (Nat.le_of_ble_eq_true rfl) (by omega) (fun q => q) rfl rfl (hb hby d_m_3_54) ?_
      intro h_16 O_17 W_18 A_19
      have z_20 := W_18.size
      have V_21 : Arv Z h_16 q kq .char (4 : Int32) [(.int x0), (.int y0), (.int (nar .char (((128 : Int32) + ((va &&& (2147483647 : Int32)) % (1920 : Int32))).toUInt32.toUInt16.toUInt32.toInt32))), (.int (0 : Int32))] (.int (0 : Int32)) := A_19
      show Run p l e _ s m _ below meth c Z EL1 _ n0 NoB h_16 0 0 (mkF m 55 #[.val (.ref q), .val (.int (2 : Int32)), .val (.int ka), .val (.int va), .val (.int (ka &&& (3 : Int32))), .unset] []) _
      refine k_pure (g' := (mkF m 56 #[.val (.ref q), .val (.int (2 : Int32)), .val (.int ka), .val (.int va), .val (.int (ka &&& (3 : Int32))), .unset] [(.ref q)])) (fun TT HH tt kk => XS.aloadN HH hx rfl (hb hby d_m_3_55) rfl rfl kk) ?_
      refine k_pure (g' := (mkF m 57 #[.val (.ref q), .val (.int (2 : Int32)), .val (.int ka), .val (.int va), .val (.int (ka &&& (3 : Int32))), .unset] [(.int (2 : Int32)), (.ref q)])) (fun TT HH tt kk => XS.iloadN HH hx rfl (hb hby d_m_3_56) rfl kk) ?_
      refine k_pure (g' := (mkF m 58 #[.val (.ref q), .val (.int (2 : Int32)), .val (.int ka), .val (.int va), .val (.int (ka &&& (3 : Int32))), .unset] [(.int (1 : Int32)), (.int (2 : Int32)), (.ref q)])) (fun TT HH tt kk => XS.iconst HH hx rfl (hb hby d_m_3_57) kk) ?_
      refine k_pure (g' := (mkF m 59 #[.val (.ref q), .val (.int (2 : Int32)), .val (.int ka), .val (.int va), .val (.int (ka &&& (3 : Int32))), .unset] [(.int (3 : Int32)), (.ref q)])) (fun TT HH tt kk => XS.iadd HH hx rfl (hb hby d_m_3_58) rfl kk) ?_
      refine k_pure (g' := (mkF m 60 #[.val (.ref q), .val (.int (2 : Int32)), .val (.int ka), .val (.int va), .val (.int (ka &&& (3 : Int32))), .unset] [(.int va), (.int (3 : Int32)), (.ref q)])) (fun TT HH tt kk => XS.iloadN HH hx rfl (hb hby d_m_3_59) rfl kk) ?_
      refine k_pure (g' := (mkF m 62 #[.val (.ref q), .val (.int (2 : Int32)), .val (.int ka), .val (.int va), .val (.int (ka &&& (3 : Int32))), .unset] [(.int (24 : Int32)), (.int va), (.int (3 : Int32)), (.ref q)])) (fun TT HH tt kk => XS.bipush HH hx rfl (hb hby d_m_3_60) kk) ?_
      refine k_pure (g' := (mkF m 63 #[.val (.ref q), .val (.int (2 : Int32)), .val (.int ka), .val (.int va), .val (.int (ka &&& (3 : Int32))), .unset] [(.int ((va.toUInt32 >>> ((24 : Int32) &&& 31).toUInt32).toInt32)), (.int (3 : Int32)), (.ref q)])) (fun TT HH tt kk => XS.iushr HH hx rfl (hb hby d_m_3_62) rfl kk) ?_
      refine k_pure (g' := (mkF m 65 #[.val (.ref q), .val (.int (2 : Int32)), .val (.int ka), .val (.int va), .val (.int (ka &&& (3 : Int32))), .unset] [(.int (127 : Int32)), (.int ((va.toUInt32 >>> ((24 : Int32) &&& 31).toUInt32).toInt32)), (.int (3 : Int32)), (.ref q)])) (fun TT HH tt kk => XS.bipush HH hx rfl (hb hby d_m_3_63) kk) ?_
      refine k_pure (g' := (mkF m 66 #[.val (.ref q), .val (.int (2 : Int32)), .val (.int ka), .val (.int va), .val (.int (ka &&& (3 : Int32))), .unset] [(.int (((va.toUInt32 >>> ((24 : Int32) &&& 31).toUInt32).toInt32) &&& (127 : Int32))), (.int (3 : Int32)), (.ref q)])) (fun TT HH tt kk => XS.iand HH hx rfl (hb hby d_m_3_65) rfl kk) ?_
      refine k_pure (g' := (mkF m 67 #[.val (.ref q), .val (.int (2 : Int32)), .val (.int ka), .val (.int va), .val (.int (ka &&& (3 : Int32))), .unset] [(.int ((((va.toUInt32 >>> ((24 : Int32) &&& 31).toUInt32).toInt32) &&& (127 : Int32)).toUInt32.toUInt16.toUInt32.toInt32)), (.int (3 : Int32)), (.ref q)])) (fun TT HH tt kk => XS.i2c HH hx rfl (hb hby d_m_3_66) rfl kk) ?_
      refine k_stC hx V_21 ⟨by decide, by decide⟩ 3 (by decide) (Nat.le_of_ble_eq_true rfl) (by omega) (fun q => q) rfl rfl (hb hby d_m_3_67) ?_
      intro h_22 O_23 W_24 A_25
      have z_26 := W_24.size
      have V_27 : Arv Z h_22 q kq .char (4 : Int32) [(.int x0), (.int y0), (.int (nar .char (((128 : Int32) + ((va &&& (2147483647 : Int32)) % (1920 : Int32))).toUInt32.toUInt16.toUInt32.toInt32))), (.int (nar .char ((((va.toUInt32 >>> ((24 : Int32) &&& 31).toUInt32).toInt32) &&& (127 : Int32)).toUInt32.toUInt16.toUInt32.toInt32)))] (.int (0 : Int32)) := A_25
      show Run p l e _ s m _ below meth c Z EL1 _ n0 NoB h_22 0 0 (mkF m 68 #[.val (.ref q), .val (.int (2 : Int32)), .val (.int ka), .val (.int va), .val (.int (ka &&& (3 : Int32))), .unset] []) _
      refine k_pure (g' := (mkF m 69 #[.val (.ref q), .val (.int (2 : Int32)), .val (.int ka), .val (.int va), .val (.int (ka &&& (3 : Int32))), .unset] [(.int (3 : Int32))])) (fun TT HH tt kk => XS.iconst HH hx rfl (hb hby d_m_3_68) kk) ?_
      exact k_retI hx hlk hret (hb hby d_m_3_69) (by decide) (by decide) ⟨(nar .char (((128 : Int32) + ((va &&& (2147483647 : Int32)) % (1920 : Int32))).toUInt32.toUInt16.toUInt32.toInt32)), (nar .char ((((va.toUInt32 >>> ((24 : Int32) &&& 31).toUInt32).toInt32) &&& (127 : Int32)).toUInt32.toUInt16.toUInt32.toInt32)), _, rfl, rfl, (((Keep.refl _ _).wr W_18 (Or.inl (by simp))).wr W_24 (Or.inl (by simp))), V_27, (by have r0 := rng32 ka; have r1 : (ka &&& (3 : Int32)).toInt = ka.toInt % 4 := (c_mask ka (3 : Int32) 2 (by decide) (by decide)); have r2 := rng32 (ka &&& (3 : Int32)); have r3 : (0 : Int32).toInt = 0 := (by decide); have r4 : (1 : Int32).toInt = 1 := (by decide); have r5 : (128 : Int32).toInt = 128 := (by decide); have r6 := rng32 va; have r7 : (va &&& (2147483647 : Int32)).toInt = va.toInt % 2147483648 := (c_mask va (2147483647 : Int32) 31 (by decide) (by decide)); have r8 := rng32 (va &&& (2147483647 : Int32)); have r9 := c_irem (va &&& (2147483647 : Int32)) (1920 : Int32) 1920 (by decide); have r10 := rng32 ((va &&& (2147483647 : Int32)) % (1920 : Int32)); have r11 := c_iadd (128 : Int32) ((va &&& (2147483647 : Int32)) % (1920 : Int32)); have r12 := rng32 ((128 : Int32) + ((va &&& (2147483647 : Int32)) % (1920 : Int32))); have r13 := c_i2c ((128 : Int32) + ((va &&& (2147483647 : Int32)) % (1920 : Int32))); have r14 : ((nar .char (((128 : Int32) + ((va &&& (2147483647 : Int32)) % (1920 : Int32))).toUInt32.toUInt16.toUInt32.toInt32)).toInt - (((128 : Int32) + ((va &&& (2147483647 : Int32)) % (1920 : Int32))).toUInt32.toUInt16.toUInt32.toInt32).toInt) % 65536 = 0 ∧ 0 ≤ (nar .char (((128 : Int32) + ((va &&& (2147483647 : Int32)) % (1920 : Int32))).toUInt32.toUInt16.toUInt32.toInt32)).toInt ∧ (nar .char (((128 : Int32) + ((va &&& (2147483647 : Int32)) % (1920 : Int32))).toUInt32.toUInt16.toUInt32.toInt32)).toInt < 65536 := (c_i2c (((128 : Int32) + ((va &&& (2147483647 : Int32)) % (1920 : Int32))).toUInt32.toUInt16.toUInt32.toInt32)); have r15 : ((va.toUInt32 >>> ((24 : Int32) &&& 31).toUInt32).toInt32).toInt = (va.toInt % 4294967296) / 16777216 := (c_iushr va (24 : Int32) 24 (by decide) (by decide)); have r16 := rng32 ((va.toUInt32 >>> ((24 : Int32) &&& 31).toUInt32).toInt32); have r17 : (((va.toUInt32 >>> ((24 : Int32) &&& 31).toUInt32).toInt32) &&& (127 : Int32)).toInt = ((va.toUInt32 >>> ((24 : Int32) &&& 31).toUInt32).toInt32).toInt % 128 := (c_mask ((va.toUInt32 >>> ((24 : Int32) &&& 31).toUInt32).toInt32) (127 : Int32) 7 (by decide) (by decide)); have r18 := rng32 (((va.toUInt32 >>> ((24 : Int32) &&& 31).toUInt32).toInt32) &&& (127 : Int32)); have r19 := c_i2c (((va.toUInt32 >>> ((24 : Int32) &&& 31).toUInt32).toInt32) &&& (127 : Int32)); have r20 : ((nar .char ((((va.toUInt32 >>> ((24 : Int32) &&& 31).toUInt32).toInt32) &&& (127 : Int32)).toUInt32.toUInt16.toUInt32.toInt32)).toInt - ((((va.toUInt32 >>> ((24 : Int32) &&& 31).toUInt32).toInt32) &&& (127 : Int32)).toUInt32.toUInt16.toUInt32.toInt32).toInt) % 65536 = 0 ∧ 0 ≤ (nar .char ((((va.toUInt32 >>> ((24 : Int32) &&& 31).toUInt32).toInt32) &&& (127 : Int32)).toUInt32.toUInt16.toUInt32.toInt32)).toInt ∧ (nar .char ((((va.toUInt32 >>> ((24 : Int32) &&& 31).toUInt32).toInt32) &&& (127 : Int32)).toUInt32.toUInt16.toUInt32.toInt32)).toInt < 65536 := (c_i2c ((((va.toUInt32 >>> ((24 : Int32) &&& 31).toUInt32).toInt32) &&& (127 : Int32)).toUInt32.toUInt16.toUInt32.toInt32)); have r21 : (3 : Int32).toInt = 3 := (by decide); have r22 : ¬ ((ka &&& (3 : Int32))).toInt = ((0 : Int32)).toInt := fun q => c_2 (Int32.toInt_inj.mp q); have r23 := (congrArg Int32.toInt c_15); unfold Un; omega)⟩
    · refine k_pure (g' := (mkF m 70 #[.val (.ref q), .val (.int (2 : Int32)), .val (.int ka), .val (.int va), .val (.int (ka &&& (3 : Int32))), .unset] [])) (fun TT HH tt kk => XS.icmpYes HH hx rfl (pc0 := 36) (pc' := 70) rfl (hb hby d_m_3_36) rfl (feq c_15).2 (by decide) (by decide) kk) ?_
      refine k_pure (g' := (mkF m 72 #[.val (.ref q), .val (.int (2 : Int32)), .val (.int ka), .val (.int va), .val (.int (ka &&& (3 : Int32))), .unset] [(.int (ka &&& (3 : Int32)))])) (fun TT HH tt kk => XS.iload HH hx rfl (hb hby d_m_3_70) rfl kk) ?_
      refine k_pure (g' := (mkF m 73 #[.val (.ref q), .val (.int (2 : Int32)), .val (.int ka), .val (.int va), .val (.int (ka &&& (3 : Int32))), .unset] [(.int (2 : Int32)), (.int (ka &&& (3 : Int32)))])) (fun TT HH tt kk => XS.iconst HH hx rfl (hb hby d_m_3_72) kk) ?_
      by_cases c_28 : (ka &&& (3 : Int32)) = (2 : Int32)
      · refine k_pure (g' := (mkF m 76 #[.val (.ref q), .val (.int (2 : Int32)), .val (.int ka), .val (.int va), .val (.int (ka &&& (3 : Int32))), .unset] [])) (fun TT HH tt kk => XS.icmpNo HH hx rfl (hb hby d_m_3_73) rfl (teq c_28).2 kk) ?_
        refine k_pure (g' := (mkF m 79 #[.val (.ref q), .val (.int (2 : Int32)), .val (.int ka), .val (.int va), .val (.int (ka &&& (3 : Int32))), .unset] [(.int (2048 : Int32))])) (fun TT HH tt kk => XS.sipush HH hx rfl (hb hby d_m_3_76) kk) ?_
        refine k_pure (g' := (mkF m 80 #[.val (.ref q), .val (.int (2 : Int32)), .val (.int ka), .val (.int va), .val (.int (ka &&& (3 : Int32))), .unset] [(.int va), (.int (2048 : Int32))])) (fun TT HH tt kk => XS.iloadN HH hx rfl (hb hby d_m_3_79) rfl kk) ?_
        refine k_ldcI hx (wT 5 rfl) rfl (hb hby d_m_3_80) ?_
        show Run p l e _ s m _ below meth c Z EL1 _ n0 NoB h0 0 0 (mkF m 82 #[.val (.ref q), .val (.int (2 : Int32)), .val (.int ka), .val (.int va), .val (.int (ka &&& (3 : Int32))), .unset] [(.int (2147483647 : Int32)), (.int va), (.int (2048 : Int32))]) _
        refine k_pure (g' := (mkF m 83 #[.val (.ref q), .val (.int (2 : Int32)), .val (.int ka), .val (.int va), .val (.int (ka &&& (3 : Int32))), .unset] [(.int (va &&& (2147483647 : Int32))), (.int (2048 : Int32))])) (fun TT HH tt kk => XS.iand HH hx rfl (hb hby d_m_3_82) rfl kk) ?_
        refine k_ldcI hx (wT 6 rfl) rfl (hb hby d_m_3_83) ?_
        show Run p l e _ s m _ below meth c Z EL1 _ n0 NoB h0 0 0 (mkF m 85 #[.val (.ref q), .val (.int (2 : Int32)), .val (.int ka), .val (.int va), .val (.int (ka &&& (3 : Int32))), .unset] [(.int (61440 : Int32)), (.int (va &&& (2147483647 : Int32))), (.int (2048 : Int32))]) _
        refine k_pure (g' := (mkF m 86 #[.val (.ref q), .val (.int (2 : Int32)), .val (.int ka), .val (.int va), .val (.int (ka &&& (3 : Int32))), .unset] [(.int ((va &&& (2147483647 : Int32)) % (61440 : Int32))), (.int (2048 : Int32))])) (fun TT HH tt kk => s_irem HH hx rfl (hb hby d_m_3_85) rfl (by decide) kk) ?_
        refine k_pure (g' := (mkF m 87 #[.val (.ref q), .val (.int (2 : Int32)), .val (.int ka), .val (.int va), .val (.int (ka &&& (3 : Int32))), .unset] [(.int ((2048 : Int32) + ((va &&& (2147483647 : Int32)) % (61440 : Int32))))])) (fun TT HH tt kk => XS.iadd HH hx rfl (hb hby d_m_3_86) rfl kk) ?_
        refine k_pure (g' := (mkF m 89 #[.val (.ref q), .val (.int (2 : Int32)), .val (.int ka), .val (.int va), .val (.int (ka &&& (3 : Int32))), .val (.int ((2048 : Int32) + ((va &&& (2147483647 : Int32)) % (61440 : Int32))))] [])) (fun TT HH tt kk => XS.istore HH hx rfl (hb hby d_m_3_87) rfl (l' := #[.val (.ref q), .val (.int (2 : Int32)), .val (.int ka), .val (.int va), .val (.int (ka &&& (3 : Int32))), .val (.int ((2048 : Int32) + ((va &&& (2147483647 : Int32)) % (61440 : Int32))))]) rfl kk) ?_
        refine k_pure (g' := (mkF m 91 #[.val (.ref q), .val (.int (2 : Int32)), .val (.int ka), .val (.int va), .val (.int (ka &&& (3 : Int32))), .val (.int ((2048 : Int32) + ((va &&& (2147483647 : Int32)) % (61440 : Int32))))] [(.int ((2048 : Int32) + ((va &&& (2147483647 : Int32)) % (61440 : Int32))))])) (fun TT HH tt kk => XS.iload HH hx rfl (hb hby d_m_3_89) rfl kk) ?_
        refine k_ldcI hx (wT 7 rfl) rfl (hb hby d_m_3_91) ?_
        show Run p l e _ s m _ below meth c Z EL1 _ n0 NoB h0 0 0 (mkF m 93 #[.val (.ref q), .val (.int (2 : Int32)), .val (.int ka), .val (.int va), .val (.int (ka &&& (3 : Int32))), .val (.int ((2048 : Int32) + ((va &&& (2147483647 : Int32)) % (61440 : Int32))))] [(.int (55296 : Int32)), (.int ((2048 : Int32) + ((va &&& (2147483647 : Int32)) % (61440 : Int32))))]) _
        by_cases c_29 : ((2048 : Int32) + ((va &&& (2147483647 : Int32)) % (61440 : Int32))) < (55296 : Int32)
        · refine k_pure (g' := (mkF m 104 #[.val (.ref q), .val (.int (2 : Int32)), .val (.int ka), .val (.int va), .val (.int (ka &&& (3 : Int32))), .val (.int ((2048 : Int32) + ((va &&& (2147483647 : Int32)) % (61440 : Int32))))] [])) (fun TT HH tt kk => XS.icmpYes HH hx rfl (pc0 := 93) (pc' := 104) rfl (hb hby d_m_3_93) rfl (tlt c_29).1 (by decide) (by decide) kk) ?_
          refine k_pure (g' := (mkF m 105 #[.val (.ref q), .val (.int (2 : Int32)), .val (.int ka), .val (.int va), .val (.int (ka &&& (3 : Int32))), .val (.int ((2048 : Int32) + ((va &&& (2147483647 : Int32)) % (61440 : Int32))))] [(.ref q)])) (fun TT HH tt kk => XS.aloadN HH hx rfl (hb hby d_m_3_104) rfl rfl kk) ?_
          refine k_pure (g' := (mkF m 106 #[.val (.ref q), .val (.int (2 : Int32)), .val (.int ka), .val (.int va), .val (.int (ka &&& (3 : Int32))), .val (.int ((2048 : Int32) + ((va &&& (2147483647 : Int32)) % (61440 : Int32))))] [(.int (2 : Int32)), (.ref q)])) (fun TT HH tt kk => XS.iloadN HH hx rfl (hb hby d_m_3_105) rfl kk) ?_
          refine k_pure (g' := (mkF m 108 #[.val (.ref q), .val (.int (2 : Int32)), .val (.int ka), .val (.int va), .val (.int (ka &&& (3 : Int32))), .val (.int ((2048 : Int32) + ((va &&& (2147483647 : Int32)) % (61440 : Int32))))] [(.int ((2048 : Int32) + ((va &&& (2147483647 : Int32)) % (61440 : Int32)))), (.int (2 : Int32)), (.ref q)])) (fun TT HH tt kk => XS.iload HH hx rfl (hb hby d_m_3_106) rfl kk) ?_
          refine k_pure (g' := (mkF m 109 #[.val (.ref q), .val (.int (2 : Int32)), .val (.int ka), .val (.int va), .val (.int (ka &&& (3 : Int32))), .val (.int ((2048 : Int32) + ((va &&& (2147483647 : Int32)) % (61440 : Int32))))] [(.int (((2048 : Int32) + ((va &&& (2147483647 : Int32)) % (61440 : Int32))).toUInt32.toUInt16.toUInt32.toInt32)), (.int (2 : Int32)), (.ref q)])) (fun TT HH tt kk => XS.i2c HH hx rfl (hb hby d_m_3_108) rfl kk) ?_
          refine k_stC hx pf_0 ⟨by decide, by decide⟩ 2 (by decide) (Nat.le_of_ble_eq_true rfl) (by omega) (fun q => q) rfl rfl (hb hby d_m_3_109) ?_
          intro h_30 O_31 W_32 A_33
          have z_34 := W_32.size
          have V_35 : Arv Z h_30 q kq .char (4 : Int32) [(.int x0), (.int y0), (.int (nar .char (((2048 : Int32) + ((va &&& (2147483647 : Int32)) % (61440 : Int32))).toUInt32.toUInt16.toUInt32.toInt32))), (.int (0 : Int32))] (.int (0 : Int32)) := A_33
          show Run p l e _ s m _ below meth c Z EL1 _ n0 NoB h_30 0 0 (mkF m 110 #[.val (.ref q), .val (.int (2 : Int32)), .val (.int ka), .val (.int va), .val (.int (ka &&& (3 : Int32))), .val (.int ((2048 : Int32) + ((va &&& (2147483647 : Int32)) % (61440 : Int32))))] []) _
          refine k_pure (g' := (mkF m 111 #[.val (.ref q), .val (.int (2 : Int32)), .val (.int ka), .val (.int va), .val (.int (ka &&& (3 : Int32))), .val (.int ((2048 : Int32) + ((va &&& (2147483647 : Int32)) % (61440 : Int32))))] [(.ref q)])) (fun TT HH tt kk => XS.aloadN HH hx rfl (hb hby d_m_3_110) rfl rfl kk) ?_
          refine k_pure (g' := (mkF m 112 #[.val (.ref q), .val (.int (2 : Int32)), .val (.int ka), .val (.int va), .val (.int (ka &&& (3 : Int32))), .val (.int ((2048 : Int32) + ((va &&& (2147483647 : Int32)) % (61440 : Int32))))] [(.int (2 : Int32)), (.ref q)])) (fun TT HH tt kk => XS.iloadN HH hx rfl (hb hby d_m_3_111) rfl kk) ?_
          refine k_pure (g' := (mkF m 113 #[.val (.ref q), .val (.int (2 : Int32)), .val (.int ka), .val (.int va), .val (.int (ka &&& (3 : Int32))), .val (.int ((2048 : Int32) + ((va &&& (2147483647 : Int32)) % (61440 : Int32))))] [(.int (1 : Int32)), (.int (2 : Int32)), (.ref q)])) (fun TT HH tt kk => XS.iconst HH hx rfl (hb hby d_m_3_112) kk) ?_
          refine k_pure (g' := (mkF m 114 #[.val (.ref q), .val (.int (2 : Int32)), .val (.int ka), .val (.int va), .val (.int (ka &&& (3 : Int32))), .val (.int ((2048 : Int32) + ((va &&& (2147483647 : Int32)) % (61440 : Int32))))] [(.int (3 : Int32)), (.ref q)])) (fun TT HH tt kk => XS.iadd HH hx rfl (hb hby d_m_3_113) rfl kk) ?_
          refine k_pure (g' := (mkF m 115 #[.val (.ref q), .val (.int (2 : Int32)), .val (.int ka), .val (.int va), .val (.int (ka &&& (3 : Int32))), .val (.int ((2048 : Int32) + ((va &&& (2147483647 : Int32)) % (61440 : Int32))))] [(.int va), (.int (3 : Int32)), (.ref q)])) (fun TT HH tt kk => XS.iloadN HH hx rfl (hb hby d_m_3_114) rfl kk) ?_
          refine k_pure (g' := (mkF m 117 #[.val (.ref q), .val (.int (2 : Int32)), .val (.int ka), .val (.int va), .val (.int (ka &&& (3 : Int32))), .val (.int ((2048 : Int32) + ((va &&& (2147483647 : Int32)) % (61440 : Int32))))] [(.int (24 : Int32)), (.int va), (.int (3 : Int32)), (.ref q)])) (fun TT HH tt kk => XS.bipush HH hx rfl (hb hby d_m_3_115) kk) ?_
          refine k_pure (g' := (mkF m 118 #[.val (.ref q), .val (.int (2 : Int32)), .val (.int ka), .val (.int va), .val (.int (ka &&& (3 : Int32))), .val (.int ((2048 : Int32) + ((va &&& (2147483647 : Int32)) % (61440 : Int32))))] [(.int ((va.toUInt32 >>> ((24 : Int32) &&& 31).toUInt32).toInt32)), (.int (3 : Int32)), (.ref q)])) (fun TT HH tt kk => XS.iushr HH hx rfl (hb hby d_m_3_117) rfl kk) ?_
          refine k_pure (g' := (mkF m 120 #[.val (.ref q), .val (.int (2 : Int32)), .val (.int ka), .val (.int va), .val (.int (ka &&& (3 : Int32))), .val (.int ((2048 : Int32) + ((va &&& (2147483647 : Int32)) % (61440 : Int32))))] [(.int (127 : Int32)), (.int ((va.toUInt32 >>> ((24 : Int32) &&& 31).toUInt32).toInt32)), (.int (3 : Int32)), (.ref q)])) (fun TT HH tt kk => XS.bipush HH hx rfl (hb hby d_m_3_118) kk) ?_
          refine k_pure (g' := (mkF m 121 #[.val (.ref q), .val (.int (2 : Int32)), .val (.int ka), .val (.int va), .val (.int (ka &&& (3 : Int32))), .val (.int ((2048 : Int32) + ((va &&& (2147483647 : Int32)) % (61440 : Int32))))] [(.int (((va.toUInt32 >>> ((24 : Int32) &&& 31).toUInt32).toInt32) &&& (127 : Int32))), (.int (3 : Int32)), (.ref q)])) (fun TT HH tt kk => XS.iand HH hx rfl (hb hby d_m_3_120) rfl kk) ?_
          refine k_pure (g' := (mkF m 122 #[.val (.ref q), .val (.int (2 : Int32)), .val (.int ka), .val (.int va), .val (.int (ka &&& (3 : Int32))), .val (.int ((2048 : Int32) + ((va &&& (2147483647 : Int32)) % (61440 : Int32))))] [(.int ((((va.toUInt32 >>> ((24 : Int32) &&& 31).toUInt32).toInt32) &&& (127 : Int32)).toUInt32.toUInt16.toUInt32.toInt32)), (.int (3 : Int32)), (.ref q)])) (fun TT HH tt kk => XS.i2c HH hx rfl (hb hby d_m_3_121) rfl kk) ?_
          refine k_stC hx V_35 ⟨by decide, by decide⟩ 3 (by decide) (Nat.le_of_ble_eq_true rfl) (by omega) (fun q => q) rfl rfl (hb hby d_m_3_122) ?_
          intro h_36 O_37 W_38 A_39
          have z_40 := W_38.size
          have V_41 : Arv Z h_36 q kq .char (4 : Int32) [(.int x0), (.int y0), (.int (nar .char (((2048 : Int32) + ((va &&& (2147483647 : Int32)) % (61440 : Int32))).toUInt32.toUInt16.toUInt32.toInt32))), (.int (nar .char ((((va.toUInt32 >>> ((24 : Int32) &&& 31).toUInt32).toInt32) &&& (127 : Int32)).toUInt32.toUInt16.toUInt32.toInt32)))] (.int (0 : Int32)) := A_39
          show Run p l e _ s m _ below meth c Z EL1 _ n0 NoB h_36 0 0 (mkF m 123 #[.val (.ref q), .val (.int (2 : Int32)), .val (.int ka), .val (.int va), .val (.int (ka &&& (3 : Int32))), .val (.int ((2048 : Int32) + ((va &&& (2147483647 : Int32)) % (61440 : Int32))))] []) _
          refine k_pure (g' := (mkF m 124 #[.val (.ref q), .val (.int (2 : Int32)), .val (.int ka), .val (.int va), .val (.int (ka &&& (3 : Int32))), .val (.int ((2048 : Int32) + ((va &&& (2147483647 : Int32)) % (61440 : Int32))))] [(.int (4 : Int32))])) (fun TT HH tt kk => XS.iconst HH hx rfl (hb hby d_m_3_123) kk) ?_
          exact k_retI hx hlk hret (hb hby d_m_3_124) (by decide) (by decide) ⟨(nar .char (((2048 : Int32) + ((va &&& (2147483647 : Int32)) % (61440 : Int32))).toUInt32.toUInt16.toUInt32.toInt32)), (nar .char ((((va.toUInt32 >>> ((24 : Int32) &&& 31).toUInt32).toInt32) &&& (127 : Int32)).toUInt32.toUInt16.toUInt32.toInt32)), _, rfl, rfl, (((Keep.refl _ _).wr W_32 (Or.inl (by simp))).wr W_38 (Or.inl (by simp))), V_41, (by have r0 := rng32 ka; have r1 : (ka &&& (3 : Int32)).toInt = ka.toInt % 4 := (c_mask ka (3 : Int32) 2 (by decide) (by decide)); have r2 := rng32 (ka &&& (3 : Int32)); have r3 : (0 : Int32).toInt = 0 := (by decide); have r4 : (1 : Int32).toInt = 1 := (by decide); have r5 : (2 : Int32).toInt = 2 := (by decide); have r6 : (2048 : Int32).toInt = 2048 := (by decide); have r7 := rng32 va; have r8 : (va &&& (2147483647 : Int32)).toInt = va.toInt % 2147483648 := (c_mask va (2147483647 : Int32) 31 (by decide) (by decide)); have r9 := rng32 (va &&& (2147483647 : Int32)); have r10 := c_irem (va &&& (2147483647 : Int32)) (61440 : Int32) 61440 (by decide); have r11 := rng32 ((va &&& (2147483647 : Int32)) % (61440 : Int32)); have r12 := c_iadd (2048 : Int32) ((va &&& (2147483647 : Int32)) % (61440 : Int32)); have r13 := rng32 ((2048 : Int32) + ((va &&& (2147483647 : Int32)) % (61440 : Int32))); have r14 : (55296 : Int32).toInt = 55296 := (by decide); have r15 := c_i2c ((2048 : Int32) + ((va &&& (2147483647 : Int32)) % (61440 : Int32))); have r16 : ((nar .char (((2048 : Int32) + ((va &&& (2147483647 : Int32)) % (61440 : Int32))).toUInt32.toUInt16.toUInt32.toInt32)).toInt - (((2048 : Int32) + ((va &&& (2147483647 : Int32)) % (61440 : Int32))).toUInt32.toUInt16.toUInt32.toInt32).toInt) % 65536 = 0 ∧ 0 ≤ (nar .char (((2048 : Int32) + ((va &&& (2147483647 : Int32)) % (61440 : Int32))).toUInt32.toUInt16.toUInt32.toInt32)).toInt ∧ (nar .char (((2048 : Int32) + ((va &&& (2147483647 : Int32)) % (61440 : Int32))).toUInt32.toUInt16.toUInt32.toInt32)).toInt < 65536 := (c_i2c (((2048 : Int32) + ((va &&& (2147483647 : Int32)) % (61440 : Int32))).toUInt32.toUInt16.toUInt32.toInt32)); have r17 : ((va.toUInt32 >>> ((24 : Int32) &&& 31).toUInt32).toInt32).toInt = (va.toInt % 4294967296) / 16777216 := (c_iushr va (24 : Int32) 24 (by decide) (by decide)); have r18 := rng32 ((va.toUInt32 >>> ((24 : Int32) &&& 31).toUInt32).toInt32); have r19 : (((va.toUInt32 >>> ((24 : Int32) &&& 31).toUInt32).toInt32) &&& (127 : Int32)).toInt = ((va.toUInt32 >>> ((24 : Int32) &&& 31).toUInt32).toInt32).toInt % 128 := (c_mask ((va.toUInt32 >>> ((24 : Int32) &&& 31).toUInt32).toInt32) (127 : Int32) 7 (by decide) (by decide)); have r20 := rng32 (((va.toUInt32 >>> ((24 : Int32) &&& 31).toUInt32).toInt32) &&& (127 : Int32)); have r21 := c_i2c (((va.toUInt32 >>> ((24 : Int32) &&& 31).toUInt32).toInt32) &&& (127 : Int32)); have r22 : ((nar .char ((((va.toUInt32 >>> ((24 : Int32) &&& 31).toUInt32).toInt32) &&& (127 : Int32)).toUInt32.toUInt16.toUInt32.toInt32)).toInt - ((((va.toUInt32 >>> ((24 : Int32) &&& 31).toUInt32).toInt32) &&& (127 : Int32)).toUInt32.toUInt16.toUInt32.toInt32).toInt) % 65536 = 0 ∧ 0 ≤ (nar .char ((((va.toUInt32 >>> ((24 : Int32) &&& 31).toUInt32).toInt32) &&& (127 : Int32)).toUInt32.toUInt16.toUInt32.toInt32)).toInt ∧ (nar .char ((((va.toUInt32 >>> ((24 : Int32) &&& 31).toUInt32).toInt32) &&& (127 : Int32)).toUInt32.toUInt16.toUInt32.toInt32)).toInt < 65536 := (c_i2c ((((va.toUInt32 >>> ((24 : Int32) &&& 31).toUInt32).toInt32) &&& (127 : Int32)).toUInt32.toUInt16.toUInt32.toInt32)); have r23 : (4 : Int32).toInt = 4 := (by decide); have r24 : ¬ ((ka &&& (3 : Int32))).toInt = ((0 : Int32)).toInt := fun q => c_2 (Int32.toInt_inj.mp q); have r25 : ¬ ((ka &&& (3 : Int32))).toInt = ((1 : Int32)).toInt := fun q => c_15 (Int32.toInt_inj.mp q); have r26 := (congrArg Int32.toInt c_28); have r27 := (Int32.lt_iff_toInt_lt.mp c_29); unfold Un; omega)⟩
        · refine k_pure (g' := (mkF m 96 #[.val (.ref q), .val (.int (2 : Int32)), .val (.int ka), .val (.int va), .val (.int (ka &&& (3 : Int32))), .val (.int ((2048 : Int32) + ((va &&& (2147483647 : Int32)) % (61440 : Int32))))] [])) (fun TT HH tt kk => XS.icmpNo HH hx rfl (hb hby d_m_3_93) rfl (flt c_29).1 kk) ?_
          refine k_pure (g' := (mkF m 98 #[.val (.ref q), .val (.int (2 : Int32)), .val (.int ka), .val (.int va), .val (.int (ka &&& (3 : Int32))), .val (.int ((2048 : Int32) + ((va &&& (2147483647 : Int32)) % (61440 : Int32))))] [(.int ((2048 : Int32) + ((va &&& (2147483647 : Int32)) % (61440 : Int32))))])) (fun TT HH tt kk => XS.iload HH hx rfl (hb hby d_m_3_96) rfl kk) ?_
          refine k_pure (g' := (mkF m 101 #[.val (.ref q), .val (.int (2 : Int32)), .val (.int ka), .val (.int va), .val (.int (ka &&& (3 : Int32))), .val (.int ((2048 : Int32) + ((va &&& (2147483647 : Int32)) % (61440 : Int32))))] [(.int (2048 : Int32)), (.int ((2048 : Int32) + ((va &&& (2147483647 : Int32)) % (61440 : Int32))))])) (fun TT HH tt kk => XS.sipush HH hx rfl (hb hby d_m_3_98) kk) ?_
          refine k_pure (g' := (mkF m 102 #[.val (.ref q), .val (.int (2 : Int32)), .val (.int ka), .val (.int va), .val (.int (ka &&& (3 : Int32))), .val (.int ((2048 : Int32) + ((va &&& (2147483647 : Int32)) % (61440 : Int32))))] [(.int (((2048 : Int32) + ((va &&& (2147483647 : Int32)) % (61440 : Int32))) + (2048 : Int32)))])) (fun TT HH tt kk => XS.iadd HH hx rfl (hb hby d_m_3_101) rfl kk) ?_
          refine k_pure (g' := (mkF m 104 #[.val (.ref q), .val (.int (2 : Int32)), .val (.int ka), .val (.int va), .val (.int (ka &&& (3 : Int32))), .val (.int (((2048 : Int32) + ((va &&& (2147483647 : Int32)) % (61440 : Int32))) + (2048 : Int32)))] [])) (fun TT HH tt kk => XS.istore HH hx rfl (hb hby d_m_3_102) rfl (l' := #[.val (.ref q), .val (.int (2 : Int32)), .val (.int ka), .val (.int va), .val (.int (ka &&& (3 : Int32))), .val (.int (((2048 : Int32) + ((va &&& (2147483647 : Int32)) % (61440 : Int32))) + (2048 : Int32)))]) rfl kk) ?_
          refine k_pure (g' := (mkF m 105 #[.val (.ref q), .val (.int (2 : Int32)), .val (.int ka), .val (.int va), .val (.int (ka &&& (3 : Int32))), .val (.int (((2048 : Int32) + ((va &&& (2147483647 : Int32)) % (61440 : Int32))) + (2048 : Int32)))] [(.ref q)])) (fun TT HH tt kk => XS.aloadN HH hx rfl (hb hby d_m_3_104) rfl rfl kk) ?_
          refine k_pure (g' := (mkF m 106 #[.val (.ref q), .val (.int (2 : Int32)), .val (.int ka), .val (.int va), .val (.int (ka &&& (3 : Int32))), .val (.int (((2048 : Int32) + ((va &&& (2147483647 : Int32)) % (61440 : Int32))) + (2048 : Int32)))] [(.int (2 : Int32)), (.ref q)])) (fun TT HH tt kk => XS.iloadN HH hx rfl (hb hby d_m_3_105) rfl kk) ?_
          refine k_pure (g' := (mkF m 108 #[.val (.ref q), .val (.int (2 : Int32)), .val (.int ka), .val (.int va), .val (.int (ka &&& (3 : Int32))), .val (.int (((2048 : Int32) + ((va &&& (2147483647 : Int32)) % (61440 : Int32))) + (2048 : Int32)))] [(.int (((2048 : Int32) + ((va &&& (2147483647 : Int32)) % (61440 : Int32))) + (2048 : Int32))), (.int (2 : Int32)), (.ref q)])) (fun TT HH tt kk => XS.iload HH hx rfl (hb hby d_m_3_106) rfl kk) ?_
          refine k_pure (g' := (mkF m 109 #[.val (.ref q), .val (.int (2 : Int32)), .val (.int ka), .val (.int va), .val (.int (ka &&& (3 : Int32))), .val (.int (((2048 : Int32) + ((va &&& (2147483647 : Int32)) % (61440 : Int32))) + (2048 : Int32)))] [(.int ((((2048 : Int32) + ((va &&& (2147483647 : Int32)) % (61440 : Int32))) + (2048 : Int32)).toUInt32.toUInt16.toUInt32.toInt32)), (.int (2 : Int32)), (.ref q)])) (fun TT HH tt kk => XS.i2c HH hx rfl (hb hby d_m_3_108) rfl kk) ?_
          refine k_stC hx pf_0 ⟨by decide, by decide⟩ 2 (by decide) (Nat.le_of_ble_eq_true rfl) (by omega) (fun q => q) rfl rfl (hb hby d_m_3_109) ?_
          intro h_42 O_43 W_44 A_45
          have z_46 := W_44.size
          have V_47 : Arv Z h_42 q kq .char (4 : Int32) [(.int x0), (.int y0), (.int (nar .char ((((2048 : Int32) + ((va &&& (2147483647 : Int32)) % (61440 : Int32))) + (2048 : Int32)).toUInt32.toUInt16.toUInt32.toInt32))), (.int (0 : Int32))] (.int (0 : Int32)) := A_45
          show Run p l e _ s m _ below meth c Z EL1 _ n0 NoB h_42 0 0 (mkF m 110 #[.val (.ref q), .val (.int (2 : Int32)), .val (.int ka), .val (.int va), .val (.int (ka &&& (3 : Int32))), .val (.int (((2048 : Int32) + ((va &&& (2147483647 : Int32)) % (61440 : Int32))) + (2048 : Int32)))] []) _
          refine k_pure (g' := (mkF m 111 #[.val (.ref q), .val (.int (2 : Int32)), .val (.int ka), .val (.int va), .val (.int (ka &&& (3 : Int32))), .val (.int (((2048 : Int32) + ((va &&& (2147483647 : Int32)) % (61440 : Int32))) + (2048 : Int32)))] [(.ref q)])) (fun TT HH tt kk => XS.aloadN HH hx rfl (hb hby d_m_3_110) rfl rfl kk) ?_
          refine k_pure (g' := (mkF m 112 #[.val (.ref q), .val (.int (2 : Int32)), .val (.int ka), .val (.int va), .val (.int (ka &&& (3 : Int32))), .val (.int (((2048 : Int32) + ((va &&& (2147483647 : Int32)) % (61440 : Int32))) + (2048 : Int32)))] [(.int (2 : Int32)), (.ref q)])) (fun TT HH tt kk => XS.iloadN HH hx rfl (hb hby d_m_3_111) rfl kk) ?_
          refine k_pure (g' := (mkF m 113 #[.val (.ref q), .val (.int (2 : Int32)), .val (.int ka), .val (.int va), .val (.int (ka &&& (3 : Int32))), .val (.int (((2048 : Int32) + ((va &&& (2147483647 : Int32)) % (61440 : Int32))) + (2048 : Int32)))] [(.int (1 : Int32)), (.int (2 : Int32)), (.ref q)])) (fun TT HH tt kk => XS.iconst HH hx rfl (hb hby d_m_3_112) kk) ?_
          refine k_pure (g' := (mkF m 114 #[.val (.ref q), .val (.int (2 : Int32)), .val (.int ka), .val (.int va), .val (.int (ka &&& (3 : Int32))), .val (.int (((2048 : Int32) + ((va &&& (2147483647 : Int32)) % (61440 : Int32))) + (2048 : Int32)))] [(.int (3 : Int32)), (.ref q)])) (fun TT HH tt kk => XS.iadd HH hx rfl (hb hby d_m_3_113) rfl kk) ?_
          refine k_pure (g' := (mkF m 115 #[.val (.ref q), .val (.int (2 : Int32)), .val (.int ka), .val (.int va), .val (.int (ka &&& (3 : Int32))), .val (.int (((2048 : Int32) + ((va &&& (2147483647 : Int32)) % (61440 : Int32))) + (2048 : Int32)))] [(.int va), (.int (3 : Int32)), (.ref q)])) (fun TT HH tt kk => XS.iloadN HH hx rfl (hb hby d_m_3_114) rfl kk) ?_
          refine k_pure (g' := (mkF m 117 #[.val (.ref q), .val (.int (2 : Int32)), .val (.int ka), .val (.int va), .val (.int (ka &&& (3 : Int32))), .val (.int (((2048 : Int32) + ((va &&& (2147483647 : Int32)) % (61440 : Int32))) + (2048 : Int32)))] [(.int (24 : Int32)), (.int va), (.int (3 : Int32)), (.ref q)])) (fun TT HH tt kk => XS.bipush HH hx rfl (hb hby d_m_3_115) kk) ?_
          refine k_pure (g' := (mkF m 118 #[.val (.ref q), .val (.int (2 : Int32)), .val (.int ka), .val (.int va), .val (.int (ka &&& (3 : Int32))), .val (.int (((2048 : Int32) + ((va &&& (2147483647 : Int32)) % (61440 : Int32))) + (2048 : Int32)))] [(.int ((va.toUInt32 >>> ((24 : Int32) &&& 31).toUInt32).toInt32)), (.int (3 : Int32)), (.ref q)])) (fun TT HH tt kk => XS.iushr HH hx rfl (hb hby d_m_3_117) rfl kk) ?_
          refine k_pure (g' := (mkF m 120 #[.val (.ref q), .val (.int (2 : Int32)), .val (.int ka), .val (.int va), .val (.int (ka &&& (3 : Int32))), .val (.int (((2048 : Int32) + ((va &&& (2147483647 : Int32)) % (61440 : Int32))) + (2048 : Int32)))] [(.int (127 : Int32)), (.int ((va.toUInt32 >>> ((24 : Int32) &&& 31).toUInt32).toInt32)), (.int (3 : Int32)), (.ref q)])) (fun TT HH tt kk => XS.bipush HH hx rfl (hb hby d_m_3_118) kk) ?_
          refine k_pure (g' := (mkF m 121 #[.val (.ref q), .val (.int (2 : Int32)), .val (.int ka), .val (.int va), .val (.int (ka &&& (3 : Int32))), .val (.int (((2048 : Int32) + ((va &&& (2147483647 : Int32)) % (61440 : Int32))) + (2048 : Int32)))] [(.int (((va.toUInt32 >>> ((24 : Int32) &&& 31).toUInt32).toInt32) &&& (127 : Int32))), (.int (3 : Int32)), (.ref q)])) (fun TT HH tt kk => XS.iand HH hx rfl (hb hby d_m_3_120) rfl kk) ?_
          refine k_pure (g' := (mkF m 122 #[.val (.ref q), .val (.int (2 : Int32)), .val (.int ka), .val (.int va), .val (.int (ka &&& (3 : Int32))), .val (.int (((2048 : Int32) + ((va &&& (2147483647 : Int32)) % (61440 : Int32))) + (2048 : Int32)))] [(.int ((((va.toUInt32 >>> ((24 : Int32) &&& 31).toUInt32).toInt32) &&& (127 : Int32)).toUInt32.toUInt16.toUInt32.toInt32)), (.int (3 : Int32)), (.ref q)])) (fun TT HH tt kk => XS.i2c HH hx rfl (hb hby d_m_3_121) rfl kk) ?_
          refine k_stC hx V_47 ⟨by decide, by decide⟩ 3 (by decide) (Nat.le_of_ble_eq_true rfl) (by omega) (fun q => q) rfl rfl (hb hby d_m_3_122) ?_
          intro h_48 O_49 W_50 A_51
          have z_52 := W_50.size
          have V_53 : Arv Z h_48 q kq .char (4 : Int32) [(.int x0), (.int y0), (.int (nar .char ((((2048 : Int32) + ((va &&& (2147483647 : Int32)) % (61440 : Int32))) + (2048 : Int32)).toUInt32.toUInt16.toUInt32.toInt32))), (.int (nar .char ((((va.toUInt32 >>> ((24 : Int32) &&& 31).toUInt32).toInt32) &&& (127 : Int32)).toUInt32.toUInt16.toUInt32.toInt32)))] (.int (0 : Int32)) := A_51
          show Run p l e _ s m _ below meth c Z EL1 _ n0 NoB h_48 0 0 (mkF m 123 #[.val (.ref q), .val (.int (2 : Int32)), .val (.int ka), .val (.int va), .val (.int (ka &&& (3 : Int32))), .val (.int (((2048 : Int32) + ((va &&& (2147483647 : Int32)) % (61440 : Int32))) + (2048 : Int32)))] []) _
          refine k_pure (g' := (mkF m 124 #[.val (.ref q), .val (.int (2 : Int32)), .val (.int ka), .val (.int va), .val (.int (ka &&& (3 : Int32))), .val (.int (((2048 : Int32) + ((va &&& (2147483647 : Int32)) % (61440 : Int32))) + (2048 : Int32)))] [(.int (4 : Int32))])) (fun TT HH tt kk => XS.iconst HH hx rfl (hb hby d_m_3_123) kk) ?_
          exact k_retI hx hlk hret (hb hby d_m_3_124) (by decide) (by decide) ⟨(nar .char ((((2048 : Int32) + ((va &&& (2147483647 : Int32)) % (61440 : Int32))) + (2048 : Int32)).toUInt32.toUInt16.toUInt32.toInt32)), (nar .char ((((va.toUInt32 >>> ((24 : Int32) &&& 31).toUInt32).toInt32) &&& (127 : Int32)).toUInt32.toUInt16.toUInt32.toInt32)), _, rfl, rfl, (((Keep.refl _ _).wr W_44 (Or.inl (by simp))).wr W_50 (Or.inl (by simp))), V_53, (by have r0 := rng32 ka; have r1 : (ka &&& (3 : Int32)).toInt = ka.toInt % 4 := (c_mask ka (3 : Int32) 2 (by decide) (by decide)); have r2 := rng32 (ka &&& (3 : Int32)); have r3 : (0 : Int32).toInt = 0 := (by decide); have r4 : (1 : Int32).toInt = 1 := (by decide); have r5 : (2 : Int32).toInt = 2 := (by decide); have r6 : (2048 : Int32).toInt = 2048 := (by decide); have r7 := rng32 va; have r8 : (va &&& (2147483647 : Int32)).toInt = va.toInt % 2147483648 := (c_mask va (2147483647 : Int32) 31 (by decide) (by decide)); have r9 := rng32 (va &&& (2147483647 : Int32)); have r10 := c_irem (va &&& (2147483647 : Int32)) (61440 : Int32) 61440 (by decide); have r11 := rng32 ((va &&& (2147483647 : Int32)) % (61440 : Int32)); have r12 := c_iadd (2048 : Int32) ((va &&& (2147483647 : Int32)) % (61440 : Int32)); have r13 := rng32 ((2048 : Int32) + ((va &&& (2147483647 : Int32)) % (61440 : Int32))); have r14 : (55296 : Int32).toInt = 55296 := (by decide); have r15 := c_iadd ((2048 : Int32) + ((va &&& (2147483647 : Int32)) % (61440 : Int32))) (2048 : Int32); have r16 := rng32 (((2048 : Int32) + ((va &&& (2147483647 : Int32)) % (61440 : Int32))) + (2048 : Int32)); have r17 := c_i2c (((2048 : Int32) + ((va &&& (2147483647 : Int32)) % (61440 : Int32))) + (2048 : Int32)); have r18 : ((nar .char ((((2048 : Int32) + ((va &&& (2147483647 : Int32)) % (61440 : Int32))) + (2048 : Int32)).toUInt32.toUInt16.toUInt32.toInt32)).toInt - ((((2048 : Int32) + ((va &&& (2147483647 : Int32)) % (61440 : Int32))) + (2048 : Int32)).toUInt32.toUInt16.toUInt32.toInt32).toInt) % 65536 = 0 ∧ 0 ≤ (nar .char ((((2048 : Int32) + ((va &&& (2147483647 : Int32)) % (61440 : Int32))) + (2048 : Int32)).toUInt32.toUInt16.toUInt32.toInt32)).toInt ∧ (nar .char ((((2048 : Int32) + ((va &&& (2147483647 : Int32)) % (61440 : Int32))) + (2048 : Int32)).toUInt32.toUInt16.toUInt32.toInt32)).toInt < 65536 := (c_i2c ((((2048 : Int32) + ((va &&& (2147483647 : Int32)) % (61440 : Int32))) + (2048 : Int32)).toUInt32.toUInt16.toUInt32.toInt32)); have r19 : ((va.toUInt32 >>> ((24 : Int32) &&& 31).toUInt32).toInt32).toInt = (va.toInt % 4294967296) / 16777216 := (c_iushr va (24 : Int32) 24 (by decide) (by decide)); have r20 := rng32 ((va.toUInt32 >>> ((24 : Int32) &&& 31).toUInt32).toInt32); have r21 : (((va.toUInt32 >>> ((24 : Int32) &&& 31).toUInt32).toInt32) &&& (127 : Int32)).toInt = ((va.toUInt32 >>> ((24 : Int32) &&& 31).toUInt32).toInt32).toInt % 128 := (c_mask ((va.toUInt32 >>> ((24 : Int32) &&& 31).toUInt32).toInt32) (127 : Int32) 7 (by decide) (by decide)); have r22 := rng32 (((va.toUInt32 >>> ((24 : Int32) &&& 31).toUInt32).toInt32) &&& (127 : Int32)); have r23 := c_i2c (((va.toUInt32 >>> ((24 : Int32) &&& 31).toUInt32).toInt32) &&& (127 : Int32)); have r24 : ((nar .char ((((va.toUInt32 >>> ((24 : Int32) &&& 31).toUInt32).toInt32) &&& (127 : Int32)).toUInt32.toUInt16.toUInt32.toInt32)).toInt - ((((va.toUInt32 >>> ((24 : Int32) &&& 31).toUInt32).toInt32) &&& (127 : Int32)).toUInt32.toUInt16.toUInt32.toInt32).toInt) % 65536 = 0 ∧ 0 ≤ (nar .char ((((va.toUInt32 >>> ((24 : Int32) &&& 31).toUInt32).toInt32) &&& (127 : Int32)).toUInt32.toUInt16.toUInt32.toInt32)).toInt ∧ (nar .char ((((va.toUInt32 >>> ((24 : Int32) &&& 31).toUInt32).toInt32) &&& (127 : Int32)).toUInt32.toUInt16.toUInt32.toInt32)).toInt < 65536 := (c_i2c ((((va.toUInt32 >>> ((24 : Int32) &&& 31).toUInt32).toInt32) &&& (127 : Int32)).toUInt32.toUInt16.toUInt32.toInt32)); have r25 : (4 : Int32).toInt = 4 := (by decide); have r26 : ¬ ((ka &&& (3 : Int32))).toInt = ((0 : Int32)).toInt := fun q => c_2 (Int32.toInt_inj.mp q); have r27 : ¬ ((ka &&& (3 : Int32))).toInt = ((1 : Int32)).toInt := fun q => c_15 (Int32.toInt_inj.mp q); have r28 := (congrArg Int32.toInt c_28); have r29 : ¬ (((2048 : Int32) + ((va &&& (2147483647 : Int32)) % (61440 : Int32)))).toInt < ((55296 : Int32)).toInt := fun q => c_29 (Int32.lt_iff_toInt_lt.mpr q); unfold Un; omega)⟩
      · refine k_pure (g' := (mkF m 125 #[.val (.ref q), .val (.int (2 : Int32)), .val (.int ka), .val (.int va), .val (.int (ka &&& (3 : Int32))), .unset] [])) (fun TT HH tt kk => XS.icmpYes HH hx rfl (pc0 := 73) (pc' := 125) rfl (hb hby d_m_3_73) rfl (feq c_28).2 (by decide) (by decide) kk) ?_
        refine k_pure (g' := (mkF m 126 #[.val (.ref q), .val (.int (2 : Int32)), .val (.int ka), .val (.int va), .val (.int (ka &&& (3 : Int32))), .unset] [(.ref q)])) (fun TT HH tt kk => XS.aloadN HH hx rfl (hb hby d_m_3_125) rfl rfl kk) ?_
        refine k_pure (g' := (mkF m 127 #[.val (.ref q), .val (.int (2 : Int32)), .val (.int ka), .val (.int va), .val (.int (ka &&& (3 : Int32))), .unset] [(.int (2 : Int32)), (.ref q)])) (fun TT HH tt kk => XS.iloadN HH hx rfl (hb hby d_m_3_126) rfl kk) ?_
        refine k_ldcI hx (wT 7 rfl) rfl (hb hby d_m_3_127) ?_
        show Run p l e _ s m _ below meth c Z EL1 _ n0 NoB h0 0 0 (mkF m 129 #[.val (.ref q), .val (.int (2 : Int32)), .val (.int ka), .val (.int va), .val (.int (ka &&& (3 : Int32))), .unset] [(.int (55296 : Int32)), (.int (2 : Int32)), (.ref q)]) _
        refine k_pure (g' := (mkF m 130 #[.val (.ref q), .val (.int (2 : Int32)), .val (.int ka), .val (.int va), .val (.int (ka &&& (3 : Int32))), .unset] [(.int va), (.int (55296 : Int32)), (.int (2 : Int32)), (.ref q)])) (fun TT HH tt kk => XS.iloadN HH hx rfl (hb hby d_m_3_129) rfl kk) ?_
        refine k_pure (g' := (mkF m 133 #[.val (.ref q), .val (.int (2 : Int32)), .val (.int ka), .val (.int va), .val (.int (ka &&& (3 : Int32))), .unset] [(.int (1023 : Int32)), (.int va), (.int (55296 : Int32)), (.int (2 : Int32)), (.ref q)])) (fun TT HH tt kk => XS.sipush HH hx rfl (hb hby d_m_3_130) kk) ?_
        refine k_pure (g' := (mkF m 134 #[.val (.ref q), .val (.int (2 : Int32)), .val (.int ka), .val (.int va), .val (.int (ka &&& (3 : Int32))), .unset] [(.int (va &&& (1023 : Int32))), (.int (55296 : Int32)), (.int (2 : Int32)), (.ref q)])) (fun TT HH tt kk => XS.iand HH hx rfl (hb hby d_m_3_133) rfl kk) ?_
        refine k_pure (g' := (mkF m 135 #[.val (.ref q), .val (.int (2 : Int32)), .val (.int ka), .val (.int va), .val (.int (ka &&& (3 : Int32))), .unset] [(.int ((55296 : Int32) + (va &&& (1023 : Int32)))), (.int (2 : Int32)), (.ref q)])) (fun TT HH tt kk => XS.iadd HH hx rfl (hb hby d_m_3_134) rfl kk) ?_
        refine k_pure (g' := (mkF m 136 #[.val (.ref q), .val (.int (2 : Int32)), .val (.int ka), .val (.int va), .val (.int (ka &&& (3 : Int32))), .unset] [(.int (((55296 : Int32) + (va &&& (1023 : Int32))).toUInt32.toUInt16.toUInt32.toInt32)), (.int (2 : Int32)), (.ref q)])) (fun TT HH tt kk => XS.i2c HH hx rfl (hb hby d_m_3_135) rfl kk) ?_
        refine k_stC hx pf_0 ⟨by decide, by decide⟩ 2 (by decide) (Nat.le_of_ble_eq_true rfl) (by omega) (fun q => q) rfl rfl (hb hby d_m_3_136) ?_
        intro h_54 O_55 W_56 A_57
        have z_58 := W_56.size
        have V_59 : Arv Z h_54 q kq .char (4 : Int32) [(.int x0), (.int y0), (.int (nar .char (((55296 : Int32) + (va &&& (1023 : Int32))).toUInt32.toUInt16.toUInt32.toInt32))), (.int (0 : Int32))] (.int (0 : Int32)) := A_57
        show Run p l e _ s m _ below meth c Z EL1 _ n0 NoB h_54 0 0 (mkF m 137 #[.val (.ref q), .val (.int (2 : Int32)), .val (.int ka), .val (.int va), .val (.int (ka &&& (3 : Int32))), .unset] []) _
        refine k_pure (g' := (mkF m 138 #[.val (.ref q), .val (.int (2 : Int32)), .val (.int ka), .val (.int va), .val (.int (ka &&& (3 : Int32))), .unset] [(.ref q)])) (fun TT HH tt kk => XS.aloadN HH hx rfl (hb hby d_m_3_137) rfl rfl kk) ?_
        refine k_pure (g' := (mkF m 139 #[.val (.ref q), .val (.int (2 : Int32)), .val (.int ka), .val (.int va), .val (.int (ka &&& (3 : Int32))), .unset] [(.int (2 : Int32)), (.ref q)])) (fun TT HH tt kk => XS.iloadN HH hx rfl (hb hby d_m_3_138) rfl kk) ?_
        refine k_pure (g' := (mkF m 140 #[.val (.ref q), .val (.int (2 : Int32)), .val (.int ka), .val (.int va), .val (.int (ka &&& (3 : Int32))), .unset] [(.int (1 : Int32)), (.int (2 : Int32)), (.ref q)])) (fun TT HH tt kk => XS.iconst HH hx rfl (hb hby d_m_3_139) kk) ?_
        refine k_pure (g' := (mkF m 141 #[.val (.ref q), .val (.int (2 : Int32)), .val (.int ka), .val (.int va), .val (.int (ka &&& (3 : Int32))), .unset] [(.int (3 : Int32)), (.ref q)])) (fun TT HH tt kk => XS.iadd HH hx rfl (hb hby d_m_3_140) rfl kk) ?_
        refine k_ldcI hx (wT 138 rfl) rfl (hb hby d_m_3_141) ?_
        show Run p l e _ s m _ below meth c Z EL1 _ n0 NoB h_54 0 0 (mkF m 143 #[.val (.ref q), .val (.int (2 : Int32)), .val (.int ka), .val (.int va), .val (.int (ka &&& (3 : Int32))), .unset] [(.int (56320 : Int32)), (.int (3 : Int32)), (.ref q)]) _
        refine k_pure (g' := (mkF m 144 #[.val (.ref q), .val (.int (2 : Int32)), .val (.int ka), .val (.int va), .val (.int (ka &&& (3 : Int32))), .unset] [(.int va), (.int (56320 : Int32)), (.int (3 : Int32)), (.ref q)])) (fun TT HH tt kk => XS.iloadN HH hx rfl (hb hby d_m_3_143) rfl kk) ?_
        refine k_pure (g' := (mkF m 146 #[.val (.ref q), .val (.int (2 : Int32)), .val (.int ka), .val (.int va), .val (.int (ka &&& (3 : Int32))), .unset] [(.int (10 : Int32)), (.int va), (.int (56320 : Int32)), (.int (3 : Int32)), (.ref q)])) (fun TT HH tt kk => XS.bipush HH hx rfl (hb hby d_m_3_144) kk) ?_
        refine k_pure (g' := (mkF m 147 #[.val (.ref q), .val (.int (2 : Int32)), .val (.int ka), .val (.int va), .val (.int (ka &&& (3 : Int32))), .unset] [(.int ((va.toUInt32 >>> ((10 : Int32) &&& 31).toUInt32).toInt32)), (.int (56320 : Int32)), (.int (3 : Int32)), (.ref q)])) (fun TT HH tt kk => XS.iushr HH hx rfl (hb hby d_m_3_146) rfl kk) ?_
        refine k_pure (g' := (mkF m 150 #[.val (.ref q), .val (.int (2 : Int32)), .val (.int ka), .val (.int va), .val (.int (ka &&& (3 : Int32))), .unset] [(.int (1023 : Int32)), (.int ((va.toUInt32 >>> ((10 : Int32) &&& 31).toUInt32).toInt32)), (.int (56320 : Int32)), (.int (3 : Int32)), (.ref q)])) (fun TT HH tt kk => XS.sipush HH hx rfl (hb hby d_m_3_147) kk) ?_
        refine k_pure (g' := (mkF m 151 #[.val (.ref q), .val (.int (2 : Int32)), .val (.int ka), .val (.int va), .val (.int (ka &&& (3 : Int32))), .unset] [(.int (((va.toUInt32 >>> ((10 : Int32) &&& 31).toUInt32).toInt32) &&& (1023 : Int32))), (.int (56320 : Int32)), (.int (3 : Int32)), (.ref q)])) (fun TT HH tt kk => XS.iand HH hx rfl (hb hby d_m_3_150) rfl kk) ?_
        refine k_pure (g' := (mkF m 152 #[.val (.ref q), .val (.int (2 : Int32)), .val (.int ka), .val (.int va), .val (.int (ka &&& (3 : Int32))), .unset] [(.int ((56320 : Int32) + (((va.toUInt32 >>> ((10 : Int32) &&& 31).toUInt32).toInt32) &&& (1023 : Int32)))), (.int (3 : Int32)), (.ref q)])) (fun TT HH tt kk => XS.iadd HH hx rfl (hb hby d_m_3_151) rfl kk) ?_
        refine k_pure (g' := (mkF m 153 #[.val (.ref q), .val (.int (2 : Int32)), .val (.int ka), .val (.int va), .val (.int (ka &&& (3 : Int32))), .unset] [(.int (((56320 : Int32) + (((va.toUInt32 >>> ((10 : Int32) &&& 31).toUInt32).toInt32) &&& (1023 : Int32))).toUInt32.toUInt16.toUInt32.toInt32)), (.int (3 : Int32)), (.ref q)])) (fun TT HH tt kk => XS.i2c HH hx rfl (hb hby d_m_3_152) rfl kk) ?_
        refine k_stC hx V_59 ⟨by decide, by decide⟩ 3 (by decide) (Nat.le_of_ble_eq_true rfl) (by omega) (fun q => q) rfl rfl (hb hby d_m_3_153) ?_
        intro h_60 O_61 W_62 A_63
        have z_64 := W_62.size
        have V_65 : Arv Z h_60 q kq .char (4 : Int32) [(.int x0), (.int y0), (.int (nar .char (((55296 : Int32) + (va &&& (1023 : Int32))).toUInt32.toUInt16.toUInt32.toInt32))), (.int (nar .char (((56320 : Int32) + (((va.toUInt32 >>> ((10 : Int32) &&& 31).toUInt32).toInt32) &&& (1023 : Int32))).toUInt32.toUInt16.toUInt32.toInt32)))] (.int (0 : Int32)) := A_63
        show Run p l e _ s m _ below meth c Z EL1 _ n0 NoB h_60 0 0 (mkF m 154 #[.val (.ref q), .val (.int (2 : Int32)), .val (.int ka), .val (.int va), .val (.int (ka &&& (3 : Int32))), .unset] []) _
        refine k_pure (g' := (mkF m 155 #[.val (.ref q), .val (.int (2 : Int32)), .val (.int ka), .val (.int va), .val (.int (ka &&& (3 : Int32))), .unset] [(.int (4 : Int32))])) (fun TT HH tt kk => XS.iconst HH hx rfl (hb hby d_m_3_154) kk) ?_
        exact k_retI hx hlk hret (hb hby d_m_3_155) (by decide) (by decide) ⟨(nar .char (((55296 : Int32) + (va &&& (1023 : Int32))).toUInt32.toUInt16.toUInt32.toInt32)), (nar .char (((56320 : Int32) + (((va.toUInt32 >>> ((10 : Int32) &&& 31).toUInt32).toInt32) &&& (1023 : Int32))).toUInt32.toUInt16.toUInt32.toInt32)), _, rfl, rfl, (((Keep.refl _ _).wr W_56 (Or.inl (by simp))).wr W_62 (Or.inl (by simp))), V_65, (by have r0 := rng32 ka; have r1 : (ka &&& (3 : Int32)).toInt = ka.toInt % 4 := (c_mask ka (3 : Int32) 2 (by decide) (by decide)); have r2 := rng32 (ka &&& (3 : Int32)); have r3 : (0 : Int32).toInt = 0 := (by decide); have r4 : (1 : Int32).toInt = 1 := (by decide); have r5 : (2 : Int32).toInt = 2 := (by decide); have r6 : (55296 : Int32).toInt = 55296 := (by decide); have r7 := rng32 va; have r8 : (va &&& (1023 : Int32)).toInt = va.toInt % 1024 := (c_mask va (1023 : Int32) 10 (by decide) (by decide)); have r9 := rng32 (va &&& (1023 : Int32)); have r10 := c_iadd (55296 : Int32) (va &&& (1023 : Int32)); have r11 := rng32 ((55296 : Int32) + (va &&& (1023 : Int32))); have r12 := c_i2c ((55296 : Int32) + (va &&& (1023 : Int32))); have r13 : ((nar .char (((55296 : Int32) + (va &&& (1023 : Int32))).toUInt32.toUInt16.toUInt32.toInt32)).toInt - (((55296 : Int32) + (va &&& (1023 : Int32))).toUInt32.toUInt16.toUInt32.toInt32).toInt) % 65536 = 0 ∧ 0 ≤ (nar .char (((55296 : Int32) + (va &&& (1023 : Int32))).toUInt32.toUInt16.toUInt32.toInt32)).toInt ∧ (nar .char (((55296 : Int32) + (va &&& (1023 : Int32))).toUInt32.toUInt16.toUInt32.toInt32)).toInt < 65536 := (c_i2c (((55296 : Int32) + (va &&& (1023 : Int32))).toUInt32.toUInt16.toUInt32.toInt32)); have r14 : (56320 : Int32).toInt = 56320 := (by decide); have r15 : ((va.toUInt32 >>> ((10 : Int32) &&& 31).toUInt32).toInt32).toInt = (va.toInt % 4294967296) / 1024 := (c_iushr va (10 : Int32) 10 (by decide) (by decide)); have r16 := rng32 ((va.toUInt32 >>> ((10 : Int32) &&& 31).toUInt32).toInt32); have r17 : (((va.toUInt32 >>> ((10 : Int32) &&& 31).toUInt32).toInt32) &&& (1023 : Int32)).toInt = ((va.toUInt32 >>> ((10 : Int32) &&& 31).toUInt32).toInt32).toInt % 1024 := (c_mask ((va.toUInt32 >>> ((10 : Int32) &&& 31).toUInt32).toInt32) (1023 : Int32) 10 (by decide) (by decide)); have r18 := rng32 (((va.toUInt32 >>> ((10 : Int32) &&& 31).toUInt32).toInt32) &&& (1023 : Int32)); have r19 := c_iadd (56320 : Int32) (((va.toUInt32 >>> ((10 : Int32) &&& 31).toUInt32).toInt32) &&& (1023 : Int32)); have r20 := rng32 ((56320 : Int32) + (((va.toUInt32 >>> ((10 : Int32) &&& 31).toUInt32).toInt32) &&& (1023 : Int32))); have r21 := c_i2c ((56320 : Int32) + (((va.toUInt32 >>> ((10 : Int32) &&& 31).toUInt32).toInt32) &&& (1023 : Int32))); have r22 : ((nar .char (((56320 : Int32) + (((va.toUInt32 >>> ((10 : Int32) &&& 31).toUInt32).toInt32) &&& (1023 : Int32))).toUInt32.toUInt16.toUInt32.toInt32)).toInt - (((56320 : Int32) + (((va.toUInt32 >>> ((10 : Int32) &&& 31).toUInt32).toInt32) &&& (1023 : Int32))).toUInt32.toUInt16.toUInt32.toInt32).toInt) % 65536 = 0 ∧ 0 ≤ (nar .char (((56320 : Int32) + (((va.toUInt32 >>> ((10 : Int32) &&& 31).toUInt32).toInt32) &&& (1023 : Int32))).toUInt32.toUInt16.toUInt32.toInt32)).toInt ∧ (nar .char (((56320 : Int32) + (((va.toUInt32 >>> ((10 : Int32) &&& 31).toUInt32).toInt32) &&& (1023 : Int32))).toUInt32.toUInt16.toUInt32.toInt32)).toInt < 65536 := (c_i2c (((56320 : Int32) + (((va.toUInt32 >>> ((10 : Int32) &&& 31).toUInt32).toInt32) &&& (1023 : Int32))).toUInt32.toUInt16.toUInt32.toInt32)); have r23 : (4 : Int32).toInt = 4 := (by decide); have r24 : ¬ ((ka &&& (3 : Int32))).toInt = ((0 : Int32)).toInt := fun q => c_2 (Int32.toInt_inj.mp q); have r25 : ¬ ((ka &&& (3 : Int32))).toInt = ((1 : Int32)).toInt := fun q => c_15 (Int32.toInt_inj.mp q); have r26 : ¬ ((ka &&& (3 : Int32))).toInt = ((2 : Int32)).toInt := fun q => c_28 (Int32.toInt_inj.mp q); unfold Un; omega)⟩
def Q_pad (Z : State) (G1 : Int32) (G3 : Value) (n1 : Int32) (h0 : Heap) (n0 : Nat) (bk : Addr → Prop) (v : Option Value) (h : Heap) (bk' : Addr → Prop) : Prop := ∃ (u : Addr), ∃ (ku : ClassId), v = some (.ref u) ∧ NoB = bk' ∧ Keep h0 h [] ∧ (Arv Z h u ku .char n1 [] (.int (0 : Int32))) ∧ (@LE.le Nat _ (Array.size h0) u)
theorem d_m_4_0 : decode method_4_code 0 = .ok (.iload_n 0, 1) := by decide +kernel
theorem d_m_4_1 : decode method_4_code 1 = .ok (.sipush 195, 3) := by decide +kernel
theorem d_m_4_4 : decode method_4_code 4 = .ok (.if_icmp .ne 9, 3) := by decide +kernel
theorem d_m_4_7 : decode method_4_code 7 = .ok (.sipush 195, 3) := by decide +kernel
theorem d_m_4_10 : decode method_4_code 10 = .ok (.newarray .char, 2) := by decide +kernel
theorem d_m_4_12 : decode method_4_code 12 = .ok (.areturn, 1) := by decide +kernel
theorem d_m_4_13 : decode method_4_code 13 = .ok (.iload_n 0, 1) := by decide +kernel
theorem d_m_4_14 : decode method_4_code 14 = .ok (.sipush 196, 3) := by decide +kernel
theorem d_m_4_17 : decode method_4_code 17 = .ok (.if_icmp .ne 9, 3) := by decide +kernel
theorem d_m_4_20 : decode method_4_code 20 = .ok (.sipush 196, 3) := by decide +kernel
theorem d_m_4_23 : decode method_4_code 23 = .ok (.newarray .char, 2) := by decide +kernel
theorem d_m_4_25 : decode method_4_code 25 = .ok (.areturn, 1) := by decide +kernel
theorem d_m_4_26 : decode method_4_code 26 = .ok (.iload_n 0, 1) := by decide +kernel
theorem d_m_4_27 : decode method_4_code 27 = .ok (.sipush 197, 3) := by decide +kernel
theorem d_m_4_30 : decode method_4_code 30 = .ok (.if_icmp .ne 9, 3) := by decide +kernel
theorem d_m_4_33 : decode method_4_code 33 = .ok (.sipush 197, 3) := by decide +kernel
theorem d_m_4_36 : decode method_4_code 36 = .ok (.newarray .char, 2) := by decide +kernel
theorem d_m_4_38 : decode method_4_code 38 = .ok (.areturn, 1) := by decide +kernel
theorem d_m_4_39 : decode method_4_code 39 = .ok (.iload_n 0, 1) := by decide +kernel
theorem d_m_4_40 : decode method_4_code 40 = .ok (.sipush 198, 3) := by decide +kernel
theorem d_m_4_43 : decode method_4_code 43 = .ok (.if_icmp .ne 9, 3) := by decide +kernel
theorem d_m_4_46 : decode method_4_code 46 = .ok (.sipush 198, 3) := by decide +kernel
theorem d_m_4_49 : decode method_4_code 49 = .ok (.newarray .char, 2) := by decide +kernel
theorem d_m_4_51 : decode method_4_code 51 = .ok (.areturn, 1) := by decide +kernel
theorem d_m_4_52 : decode method_4_code 52 = .ok (.iload_n 0, 1) := by decide +kernel
theorem d_m_4_53 : decode method_4_code 53 = .ok (.sipush 199, 3) := by decide +kernel
theorem d_m_4_56 : decode method_4_code 56 = .ok (.if_icmp .ne 9, 3) := by decide +kernel
theorem d_m_4_59 : decode method_4_code 59 = .ok (.sipush 199, 3) := by decide +kernel
theorem d_m_4_62 : decode method_4_code 62 = .ok (.newarray .char, 2) := by decide +kernel
theorem d_m_4_64 : decode method_4_code 64 = .ok (.areturn, 1) := by decide +kernel
theorem d_m_4_65 : decode method_4_code 65 = .ok (.sipush 200, 3) := by decide +kernel
theorem d_m_4_68 : decode method_4_code 68 = .ok (.newarray .char, 2) := by decide +kernel
theorem d_m_4_70 : decode method_4_code 70 = .ok (.areturn, 1) := by decide +kernel
abbrev RM_pad : Room := { frames := 0, cells := 1, slots := 200, locals := 0 }
theorem ef_pad (m : MethodId) (x0 : Int32) : entryFrame m #[(.int x0)] 1 = mkF m 0 #[.val (.int x0)] [] := by first | (simp [entryFrame, mkF, argsToLocals, Value.category]; done) | rfl
set_option maxRecDepth 65536 in
set_option maxHeartbeats 40000000 in
theorem rm_pad (l : Launch) (Z : State) (a0 : Array Value) (G1 : Int32) (G3 : Value) (hX : Ctx Z a0 G1 G3) (hU : Wide Z) (n0 : Nat) (h0 : Heap) (O0 : Old Z n0 h0) (n1 : Int32) (hn : 195 ≤ n1.toInt ∧ n1.toInt ≤ 200) (ws : List Jvm.Cond) : Met l Z EL1 n0 NoB (⟨"com/example/eirene/eirene/KeySpaceCheckNamePinLaw", "pad", "(I)[C"⟩ : MethodName) method_4_code 1 (Option.some (FieldType.array FieldType.char)) RM_pad #[(.int n1)] h0 (Q_pad Z G1 G3 n1 h0 n0 NoB) ws := by
  have hX' := hX
  obtain ⟨hw, hE, S1, P1, S3, P3⟩ := hX'
  have hU' := hU
  obtain ⟨u1, u2, u3⟩ := hU'
  have hSA := sa_of hw
  have wT : ∀ (i : Nat) {d : Jvm.Cond}, tables_1[i]? = some d → d.before a0 Z = true := fun i d h => hw d (List.mem_of_getElem? h)
  have z0 : n0 ≤ h0.size := by rw [← O0.1]; exact O0.2.1
  refine Met.of (by decide +kernel) O0 hE ?_
  intro p e s m below meth c hx hby hml hret hlk hnm
  refine k_cast (ef_pad m n1) ?_
  show Run p l e _ s m _ below meth c Z EL1 _ n0 NoB h0 0 0 (mkF m 0 #[.val (.int n1)] []) _
  refine k_pure (g' := (mkF m 1 #[.val (.int n1)] [(.int n1)])) (fun TT HH tt kk => XS.iloadN HH hx rfl (hb hby d_m_4_0) rfl kk) ?_
  refine k_pure (g' := (mkF m 4 #[.val (.int n1)] [(.int (195 : Int32)), (.int n1)])) (fun TT HH tt kk => XS.sipush HH hx rfl (hb hby d_m_4_1) kk) ?_
  by_cases c_1 : n1 = (195 : Int32)
  · refine k_pure (g' := (mkF m 7 #[.val (.int n1)] [])) (fun TT HH tt kk => XS.icmpNo HH hx rfl (hb hby d_m_4_4) rfl (teq c_1).2 kk) ?_
    refine k_pure (g' := (mkF m 10 #[.val (.int n1)] [(.int (195 : Int32))])) (fun TT HH tt kk => XS.sipush HH hx rfl (hb hby d_m_4_7) kk) ?_
    refine k_newP hx (wT 0 rfl) rfl (hb hby d_m_4_10) rfl (by decide) (cap := 195) (by decide) (by decide) (by decide) (by decide) "[C" (by decide +kernel) ?_
    intro h_3 a_2 k_4 g_5 O_6 E_7 A_8 X_9
    have z_10 := E_7.1
    have lt_11 : @LT.lt Nat _ a_2 (Array.size h_3) := A_8.lt
    show Run p l e _ s m _ below meth c Z EL1 _ n0 NoB h_3 1 195 (mkF m 12 #[.val (.int n1)] [(.ref a_2)]) _
    exact k_retA hx hlk hret rfl rfl rfl (hb hby d_m_4_12) (by decide) (by decide) ⟨a_2, k_4, rfl, rfl, ((Keep.refl _ _).ext E_7), (by rw [show n1 = (195 : Int32) from c_1]; exact A_8), (by omega)⟩
  · refine k_pure (g' := (mkF m 13 #[.val (.int n1)] [])) (fun TT HH tt kk => XS.icmpYes HH hx rfl (pc0 := 4) (pc' := 13) rfl (hb hby d_m_4_4) rfl (feq c_1).2 (by decide) (by decide) kk) ?_
    refine k_pure (g' := (mkF m 14 #[.val (.int n1)] [(.int n1)])) (fun TT HH tt kk => XS.iloadN HH hx rfl (hb hby d_m_4_13) rfl kk) ?_
    refine k_pure (g' := (mkF m 17 #[.val (.int n1)] [(.int (196 : Int32)), (.int n1)])) (fun TT HH tt kk => XS.sipush HH hx rfl (hb hby d_m_4_14) kk) ?_
    by_cases c_12 : n1 = (196 : Int32)
    · refine k_pure (g' := (mkF m 20 #[.val (.int n1)] [])) (fun TT HH tt kk => XS.icmpNo HH hx rfl (hb hby d_m_4_17) rfl (teq c_12).2 kk) ?_
      refine k_pure (g' := (mkF m 23 #[.val (.int n1)] [(.int (196 : Int32))])) (fun TT HH tt kk => XS.sipush HH hx rfl (hb hby d_m_4_20) kk) ?_
      refine k_newP hx (wT 0 rfl) rfl (hb hby d_m_4_23) rfl (by decide) (cap := 196) (by decide) (by decide) (by decide) (by decide) "[C" (by decide +kernel) ?_
      intro h_14 a_13 k_15 g_16 O_17 E_18 A_19 X_20
      have z_21 := E_18.1
      have lt_22 : @LT.lt Nat _ a_13 (Array.size h_14) := A_19.lt
      show Run p l e _ s m _ below meth c Z EL1 _ n0 NoB h_14 1 196 (mkF m 25 #[.val (.int n1)] [(.ref a_13)]) _
      exact k_retA hx hlk hret rfl rfl rfl (hb hby d_m_4_25) (by decide) (by decide) ⟨a_13, k_15, rfl, rfl, ((Keep.refl _ _).ext E_18), (by rw [show n1 = (196 : Int32) from c_12]; exact A_19), (by omega)⟩
    · refine k_pure (g' := (mkF m 26 #[.val (.int n1)] [])) (fun TT HH tt kk => XS.icmpYes HH hx rfl (pc0 := 17) (pc' := 26) rfl (hb hby d_m_4_17) rfl (feq c_12).2 (by decide) (by decide) kk) ?_
      refine k_pure (g' := (mkF m 27 #[.val (.int n1)] [(.int n1)])) (fun TT HH tt kk => XS.iloadN HH hx rfl (hb hby d_m_4_26) rfl kk) ?_
      refine k_pure (g' := (mkF m 30 #[.val (.int n1)] [(.int (197 : Int32)), (.int n1)])) (fun TT HH tt kk => XS.sipush HH hx rfl (hb hby d_m_4_27) kk) ?_
      by_cases c_23 : n1 = (197 : Int32)
      · refine k_pure (g' := (mkF m 33 #[.val (.int n1)] [])) (fun TT HH tt kk => XS.icmpNo HH hx rfl (hb hby d_m_4_30) rfl (teq c_23).2 kk) ?_
        refine k_pure (g' := (mkF m 36 #[.val (.int n1)] [(.int (197 : Int32))])) (fun TT HH tt kk => XS.sipush HH hx rfl (hb hby d_m_4_33) kk) ?_
        refine k_newP hx (wT 0 rfl) rfl (hb hby d_m_4_36) rfl (by decide) (cap := 197) (by decide) (by decide) (by decide) (by decide) "[C" (by decide +kernel) ?_
        intro h_25 a_24 k_26 g_27 O_28 E_29 A_30 X_31
        have z_32 := E_29.1
        have lt_33 : @LT.lt Nat _ a_24 (Array.size h_25) := A_30.lt
        show Run p l e _ s m _ below meth c Z EL1 _ n0 NoB h_25 1 197 (mkF m 38 #[.val (.int n1)] [(.ref a_24)]) _
        exact k_retA hx hlk hret rfl rfl rfl (hb hby d_m_4_38) (by decide) (by decide) ⟨a_24, k_26, rfl, rfl, ((Keep.refl _ _).ext E_29), (by rw [show n1 = (197 : Int32) from c_23]; exact A_30), (by omega)⟩
      · refine k_pure (g' := (mkF m 39 #[.val (.int n1)] [])) (fun TT HH tt kk => XS.icmpYes HH hx rfl (pc0 := 30) (pc' := 39) rfl (hb hby d_m_4_30) rfl (feq c_23).2 (by decide) (by decide) kk) ?_
        refine k_pure (g' := (mkF m 40 #[.val (.int n1)] [(.int n1)])) (fun TT HH tt kk => XS.iloadN HH hx rfl (hb hby d_m_4_39) rfl kk) ?_
        refine k_pure (g' := (mkF m 43 #[.val (.int n1)] [(.int (198 : Int32)), (.int n1)])) (fun TT HH tt kk => XS.sipush HH hx rfl (hb hby d_m_4_40) kk) ?_
        by_cases c_34 : n1 = (198 : Int32)
        · refine k_pure (g' := (mkF m 46 #[.val (.int n1)] [])) (fun TT HH tt kk => XS.icmpNo HH hx rfl (hb hby d_m_4_43) rfl (teq c_34).2 kk) ?_
          refine k_pure (g' := (mkF m 49 #[.val (.int n1)] [(.int (198 : Int32))])) (fun TT HH tt kk => XS.sipush HH hx rfl (hb hby d_m_4_46) kk) ?_
          refine k_newP hx (wT 0 rfl) rfl (hb hby d_m_4_49) rfl (by decide) (cap := 198) (by decide) (by decide) (by decide) (by decide) "[C" (by decide +kernel) ?_
          intro h_36 a_35 k_37 g_38 O_39 E_40 A_41 X_42
          have z_43 := E_40.1
          have lt_44 : @LT.lt Nat _ a_35 (Array.size h_36) := A_41.lt
          show Run p l e _ s m _ below meth c Z EL1 _ n0 NoB h_36 1 198 (mkF m 51 #[.val (.int n1)] [(.ref a_35)]) _
          exact k_retA hx hlk hret rfl rfl rfl (hb hby d_m_4_51) (by decide) (by decide) ⟨a_35, k_37, rfl, rfl, ((Keep.refl _ _).ext E_40), (by rw [show n1 = (198 : Int32) from c_34]; exact A_41), (by omega)⟩
        · refine k_pure (g' := (mkF m 52 #[.val (.int n1)] [])) (fun TT HH tt kk => XS.icmpYes HH hx rfl (pc0 := 43) (pc' := 52) rfl (hb hby d_m_4_43) rfl (feq c_34).2 (by decide) (by decide) kk) ?_
          refine k_pure (g' := (mkF m 53 #[.val (.int n1)] [(.int n1)])) (fun TT HH tt kk => XS.iloadN HH hx rfl (hb hby d_m_4_52) rfl kk) ?_
          refine k_pure (g' := (mkF m 56 #[.val (.int n1)] [(.int (199 : Int32)), (.int n1)])) (fun TT HH tt kk => XS.sipush HH hx rfl (hb hby d_m_4_53) kk) ?_
          by_cases c_45 : n1 = (199 : Int32)
          · refine k_pure (g' := (mkF m 59 #[.val (.int n1)] [])) (fun TT HH tt kk => XS.icmpNo HH hx rfl (hb hby d_m_4_56) rfl (teq c_45).2 kk) ?_
            refine k_pure (g' := (mkF m 62 #[.val (.int n1)] [(.int (199 : Int32))])) (fun TT HH tt kk => XS.sipush HH hx rfl (hb hby d_m_4_59) kk) ?_
            refine k_newP hx (wT 0 rfl) rfl (hb hby d_m_4_62) rfl (by decide) (cap := 199) (by decide) (by decide) (by decide) (by decide) "[C" (by decide +kernel) ?_
            intro h_47 a_46 k_48 g_49 O_50 E_51 A_52 X_53
            have z_54 := E_51.1
            have lt_55 : @LT.lt Nat _ a_46 (Array.size h_47) := A_52.lt
            show Run p l e _ s m _ below meth c Z EL1 _ n0 NoB h_47 1 199 (mkF m 64 #[.val (.int n1)] [(.ref a_46)]) _
            exact k_retA hx hlk hret rfl rfl rfl (hb hby d_m_4_64) (by decide) (by decide) ⟨a_46, k_48, rfl, rfl, ((Keep.refl _ _).ext E_51), (by rw [show n1 = (199 : Int32) from c_45]; exact A_52), (by omega)⟩
          · refine k_pure (g' := (mkF m 65 #[.val (.int n1)] [])) (fun TT HH tt kk => XS.icmpYes HH hx rfl (pc0 := 56) (pc' := 65) rfl (hb hby d_m_4_56) rfl (feq c_45).2 (by decide) (by decide) kk) ?_
            refine k_pure (g' := (mkF m 68 #[.val (.int n1)] [(.int (200 : Int32))])) (fun TT HH tt kk => XS.sipush HH hx rfl (hb hby d_m_4_65) kk) ?_
            refine k_newP hx (wT 0 rfl) rfl (hb hby d_m_4_68) rfl (by decide) (cap := 200) (by decide) (by decide) (by decide) (by decide) "[C" (by decide +kernel) ?_
            intro h_57 a_56 k_58 g_59 O_60 E_61 A_62 X_63
            have z_64 := E_61.1
            have lt_65 : @LT.lt Nat _ a_56 (Array.size h_57) := A_62.lt
            show Run p l e _ s m _ below meth c Z EL1 _ n0 NoB h_57 1 200 (mkF m 70 #[.val (.int n1)] [(.ref a_56)]) _
            exact k_retA hx hlk hret rfl rfl rfl (hb hby d_m_4_70) (by decide) (by decide) ⟨a_56, k_58, rfl, rfl, ((Keep.refl _ _).ext E_61), (by rw [show n1 = (200 : Int32) from (by have r0 := rng32 n1; have r1 : (195 : Int32).toInt = 195 := (by decide); have r2 : (196 : Int32).toInt = 196 := (by decide); have r3 : (197 : Int32).toInt = 197 := (by decide); have r4 : (198 : Int32).toInt = 198 := (by decide); have r5 : (199 : Int32).toInt = 199 := (by decide); have r6 : (200 : Int32).toInt = 200 := (by decide); have r7 : ¬ (n1).toInt = ((195 : Int32)).toInt := fun q => c_1 (Int32.toInt_inj.mp q); have r8 : ¬ (n1).toInt = ((196 : Int32)).toInt := fun q => c_12 (Int32.toInt_inj.mp q); have r9 : ¬ (n1).toInt = ((197 : Int32)).toInt := fun q => c_23 (Int32.toInt_inj.mp q); have r10 : ¬ (n1).toInt = ((198 : Int32)).toInt := fun q => c_34 (Int32.toInt_inj.mp q); have r11 : ¬ (n1).toInt = ((199 : Int32)).toInt := fun q => c_45 (Int32.toInt_inj.mp q); have r12 := hn; apply Int32.toInt_inj.mp; omega)]; exact A_62), (by omega)⟩
def Q_cen (Z : State) (G1 : Int32) (G3 : Value) (c1 : Int32) (h0 : Heap) (n0 : Nat) (bk : Addr → Prop) (v : Option Value) (h : Heap) (bk' : Addr → Prop) : Prop := v = some (.int (if (255 : Int32) < c1 then (0 : Int32) else 1)) ∧ h0 = h ∧ NoB = bk'
theorem d_jdk_43_m_3_0 : decode jdk_43_method_3_code 0 = .ok (.iload_n 0, 1) := by decide +kernel
theorem d_jdk_43_m_3_1 : decode jdk_43_method_3_code 1 = .ok (.sipush 255, 3) := by decide +kernel
theorem d_jdk_43_m_3_4 : decode jdk_43_method_3_code 4 = .ok (.if_icmp .gt 7, 3) := by decide +kernel
theorem d_jdk_43_m_3_11 : decode jdk_43_method_3_code 11 = .ok (.iconst 0, 1) := by decide +kernel
theorem d_jdk_43_m_3_12 : decode jdk_43_method_3_code 12 = .ok (.ireturn, 1) := by decide +kernel
theorem d_jdk_43_m_3_7 : decode jdk_43_method_3_code 7 = .ok (.iconst 1, 1) := by decide +kernel
theorem d_jdk_43_m_3_8 : decode jdk_43_method_3_code 8 = .ok (.goto 4, 3) := by decide +kernel
abbrev RM_cen : Room := { frames := 0, cells := 0, slots := 0, locals := 0 }
theorem ef_cen (m : MethodId) (x0 : Int32) : entryFrame m #[(.int x0)] 1 = mkF m 0 #[.val (.int x0)] [] := by first | (simp [entryFrame, mkF, argsToLocals, Value.category]; done) | rfl
set_option maxRecDepth 65536 in
set_option maxHeartbeats 40000000 in
theorem rm_cen (l : Launch) (Z : State) (a0 : Array Value) (G1 : Int32) (G3 : Value) (hX : Ctx Z a0 G1 G3) (hU : Wide Z) (n0 : Nat) (h0 : Heap) (O0 : Old Z n0 h0) (c1 : Int32)  (ws : List Jvm.Cond) : Met l Z EL1 n0 NoB (⟨"java/lang/StringLatin1", "canEncode", "(C)Z"⟩ : MethodName) jdk_43_method_3_code 1 (Option.some FieldType.boolean) RM_cen #[(.int c1)] h0 (Q_cen Z G1 G3 c1 h0 n0 NoB) ws := by
  have hX' := hX
  obtain ⟨hw, hE, S1, P1, S3, P3⟩ := hX'
  have hU' := hU
  obtain ⟨u1, u2, u3⟩ := hU'
  have hSA := sa_of hw
  have wT : ∀ (i : Nat) {d : Jvm.Cond}, tables_1[i]? = some d → d.before a0 Z = true := fun i d h => hw d (List.mem_of_getElem? h)
  have z0 : n0 ≤ h0.size := by rw [← O0.1]; exact O0.2.1
  refine Met.of (by decide +kernel) O0 hE ?_
  intro p e s m below meth c hx hby hml hret hlk hnm
  refine k_cast (ef_cen m c1) ?_
  show Run p l e _ s m _ below meth c Z EL1 _ n0 NoB h0 0 0 (mkF m 0 #[.val (.int c1)] []) _
  refine k_pure (g' := (mkF m 1 #[.val (.int c1)] [(.int c1)])) (fun TT HH tt kk => XS.iloadN HH hx rfl (hb hby d_jdk_43_m_3_0) rfl kk) ?_
  refine k_pure (g' := (mkF m 4 #[.val (.int c1)] [(.int (255 : Int32)), (.int c1)])) (fun TT HH tt kk => XS.sipush HH hx rfl (hb hby d_jdk_43_m_3_1) kk) ?_
  by_cases c_1 : (255 : Int32) < c1
  · refine k_pure (g' := (mkF m 11 #[.val (.int c1)] [])) (fun TT HH tt kk => XS.icmpYes HH hx rfl (pc0 := 4) (pc' := 11) rfl (hb hby d_jdk_43_m_3_4) rfl (tlt c_1).2.2.1 (by decide) (by decide) kk) ?_
    refine k_pure (g' := (mkF m 12 #[.val (.int c1)] [(.int (0 : Int32))])) (fun TT HH tt kk => XS.iconst HH hx rfl (hb hby d_jdk_43_m_3_11) kk) ?_
    exact k_retN hx hlk hret (by simp) (hb hby d_jdk_43_m_3_12) (by decide) (by decide) ⟨(by rw [if_pos c_1]; rfl), rfl, rfl⟩
  · refine k_pure (g' := (mkF m 7 #[.val (.int c1)] [])) (fun TT HH tt kk => XS.icmpNo HH hx rfl (hb hby d_jdk_43_m_3_4) rfl (flt c_1).2.2.1 kk) ?_
    refine k_pure (g' := (mkF m 8 #[.val (.int c1)] [(.int (1 : Int32))])) (fun TT HH tt kk => XS.iconst HH hx rfl (hb hby d_jdk_43_m_3_7) kk) ?_
    refine k_pure (g' := (mkF m 12 #[.val (.int c1)] [(.int (1 : Int32))])) (fun TT HH tt kk => XS.goto HH hx rfl (pc0 := 8) (pc' := 12) rfl (hb hby d_jdk_43_m_3_8) (by decide) (by decide) kk) ?_
    exact k_retN hx hlk hret (by simp) (hb hby d_jdk_43_m_3_12) (by decide) (by decide) ⟨(by rw [if_neg c_1]; rfl), rfl, rfl⟩
def Q_l1b (Z : State) (G1 : Int32) (G3 : Value) (c1 : Int32) (h0 : Heap) (n0 : Nat) (bk : Addr → Prop) (v : Option Value) (h : Heap) (bk' : Addr → Prop) : Prop := ∃ (t : Addr), ∃ (kb : ClassId), v = some (.ref t) ∧ NoB = bk' ∧ Keep h0 h [] ∧ (Arv Z h t kb .byte (1 : Int32) [.int (c1.toInt8.toInt32)] (.int (0 : Int32))) ∧ (@LE.le Nat _ (Array.size h0) t)
theorem d_jdk_43_m_46_0 : decode jdk_43_method_46_code 0 = .ok (.iconst 1, 1) := by decide +kernel
theorem d_jdk_43_m_46_1 : decode jdk_43_method_46_code 1 = .ok (.newarray .byte, 2) := by decide +kernel
theorem d_jdk_43_m_46_3 : decode jdk_43_method_46_code 3 = .ok (.dup, 1) := by decide +kernel
theorem d_jdk_43_m_46_4 : decode jdk_43_method_46_code 4 = .ok (.iconst 0, 1) := by decide +kernel
theorem d_jdk_43_m_46_5 : decode jdk_43_method_46_code 5 = .ok (.iload_n 0, 1) := by decide +kernel
theorem d_jdk_43_m_46_6 : decode jdk_43_method_46_code 6 = .ok (.i2b, 1) := by decide +kernel
theorem d_jdk_43_m_46_7 : decode jdk_43_method_46_code 7 = .ok (.bastore, 1) := by decide +kernel
theorem d_jdk_43_m_46_8 : decode jdk_43_method_46_code 8 = .ok (.areturn, 1) := by decide +kernel
abbrev RM_l1b : Room := { frames := 0, cells := 1, slots := 1, locals := 0 }
theorem ef_l1b (m : MethodId) (x0 : Int32) : entryFrame m #[(.int x0)] 1 = mkF m 0 #[.val (.int x0)] [] := by first | (simp [entryFrame, mkF, argsToLocals, Value.category]; done) | rfl
set_option maxRecDepth 65536 in
set_option maxHeartbeats 40000000 in
theorem rm_l1b (l : Launch) (Z : State) (a0 : Array Value) (G1 : Int32) (G3 : Value) (hX : Ctx Z a0 G1 G3) (hU : Wide Z) (n0 : Nat) (h0 : Heap) (O0 : Old Z n0 h0) (c1 : Int32)  (ws : List Jvm.Cond) : Met l Z EL1 n0 NoB (⟨"java/lang/StringLatin1", "toBytes", "(C)[B"⟩ : MethodName) jdk_43_method_46_code 1 (Option.some (FieldType.array FieldType.byte)) RM_l1b #[(.int c1)] h0 (Q_l1b Z G1 G3 c1 h0 n0 NoB) ws := by
  have hX' := hX
  obtain ⟨hw, hE, S1, P1, S3, P3⟩ := hX'
  have hU' := hU
  obtain ⟨u1, u2, u3⟩ := hU'
  have hSA := sa_of hw
  have wT : ∀ (i : Nat) {d : Jvm.Cond}, tables_1[i]? = some d → d.before a0 Z = true := fun i d h => hw d (List.mem_of_getElem? h)
  have z0 : n0 ≤ h0.size := by rw [← O0.1]; exact O0.2.1
  refine Met.of (by decide +kernel) O0 hE ?_
  intro p e s m below meth c hx hby hml hret hlk hnm
  refine k_cast (ef_l1b m c1) ?_
  show Run p l e _ s m _ below meth c Z EL1 _ n0 NoB h0 0 0 (mkF m 0 #[.val (.int c1)] []) _
  refine k_pure (g' := (mkF m 1 #[.val (.int c1)] [(.int (1 : Int32))])) (fun TT HH tt kk => XS.iconst HH hx rfl (hb hby d_jdk_43_m_46_0) kk) ?_
  refine k_newP hx (wT 29 rfl) rfl (hb hby d_jdk_43_m_46_1) rfl (by decide) (cap := 1) (by decide) (by decide) (by decide) (by decide) "[B" (by decide +kernel) ?_
  intro h_2 a_1 k_3 g_4 O_5 E_6 A_7 X_8
  have z_9 := E_6.1
  have lt_10 : @LT.lt Nat _ a_1 (Array.size h_2) := A_7.lt
  have V_11 : Arv Z h_2 a_1 k_3 .byte (1 : Int32) [(.int (0 : Int32))] (.int (0 : Int32)) := Arv.pad A_7 (pad_rep [] (.int (0 : Int32)) 1)
  show Run p l e _ s m _ below meth c Z EL1 _ n0 NoB h_2 1 1 (mkF m 3 #[.val (.int c1)] [(.ref a_1)]) _
  refine k_pure (g' := (mkF m 4 #[.val (.int c1)] [(.ref a_1), (.ref a_1)])) (fun TT HH tt kk => XS.dup HH hx rfl (hb hby d_jdk_43_m_46_3) rfl rfl kk) ?_
  refine k_pure (g' := (mkF m 5 #[.val (.int c1)] [(.int (0 : Int32)), (.ref a_1), (.ref a_1)])) (fun TT HH tt kk => XS.iconst HH hx rfl (hb hby d_jdk_43_m_46_4) kk) ?_
  refine k_pure (g' := (mkF m 6 #[.val (.int c1)] [(.int c1), (.int (0 : Int32)), (.ref a_1), (.ref a_1)])) (fun TT HH tt kk => XS.iloadN HH hx rfl (hb hby d_jdk_43_m_46_5) rfl kk) ?_
  refine k_pure (g' := (mkF m 7 #[.val (.int c1)] [(.int (c1.toInt8.toInt32)), (.int (0 : Int32)), (.ref a_1), (.ref a_1)])) (fun TT HH tt kk => XS.i2b HH hx rfl (hb hby d_jdk_43_m_46_6) rfl kk) ?_
  refine k_stB hx V_11 ⟨by decide, by decide⟩ 0 (by decide) (Nat.le_of_ble_eq_true rfl) (by omega) (fun q => q) rfl rfl (hb hby d_jdk_43_m_46_7) ?_
  intro h_12 O_13 W_14 A_15
  have z_16 := W_14.size
  have V_17 : Arv Z h_12 a_1 k_3 .byte (1 : Int32) [(.int (c1.toInt8.toInt32))] (.int (0 : Int32)) := by rw [u_narb c1] at A_15; exact A_15
  show Run p l e _ s m _ below meth c Z EL1 _ n0 NoB h_12 1 1 (mkF m 8 #[.val (.int c1)] [(.ref a_1)]) _
  exact k_retA hx hlk hret rfl rfl rfl (hb hby d_jdk_43_m_46_8) (by decide) (by decide) ⟨a_1, k_3, rfl, rfl, (((Keep.refl _ _).ext E_6).wr W_14 (Or.inr (by omega))), V_17, (by omega)⟩
def Q_u1b (Z : State) (G1 : Int32) (G3 : Value) (c1 : Int32) (h0 : Heap) (n0 : Nat) (bk : Addr → Prop) (v : Option Value) (h : Heap) (bk' : Addr → Prop) : Prop := ∃ (t : Addr), ∃ (kb : ClassId), v = some (.ref t) ∧ NoB = bk' ∧ Keep h0 h [] ∧ (Arv Z h t kb .byte (2 : Int32) (StrChars.Road.wideBytes [c1]) (.int (0 : Int32))) ∧ (@LE.le Nat _ (Array.size h0) t)
theorem d_jdk_52_m_24_0 : decode jdk_52_method_24_code 0 = .ok (.iconst 2, 1) := by decide +kernel
theorem d_jdk_52_m_24_1 : decode jdk_52_method_24_code 1 = .ok (.newarray .byte, 2) := by decide +kernel
theorem d_jdk_52_m_24_3 : decode jdk_52_method_24_code 3 = .ok (.astore_n 1, 1) := by decide +kernel
theorem d_jdk_52_m_24_4 : decode jdk_52_method_24_code 4 = .ok (.aload_n 1, 1) := by decide +kernel
theorem d_jdk_52_m_24_5 : decode jdk_52_method_24_code 5 = .ok (.iconst 0, 1) := by decide +kernel
theorem d_jdk_52_m_24_6 : decode jdk_52_method_24_code 6 = .ok (.iload_n 0, 1) := by decide +kernel
theorem d_jdk_52_m_24_7 : decode jdk_52_method_24_code 7 = .ok (.invokestatic 111, 3) := by decide +kernel
theorem d_jdk_52_m_24_10 : decode jdk_52_method_24_code 10 = .ok (.aload_n 1, 1) := by decide +kernel
theorem d_jdk_52_m_24_11 : decode jdk_52_method_24_code 11 = .ok (.areturn, 1) := by decide +kernel
abbrev RM_u1b : Room := { frames := 1, cells := 1, slots := 2, locals := 14 }
theorem ef_u1b (m : MethodId) (x0 : Int32) : entryFrame m #[(.int x0)] 2 = mkF m 0 #[.val (.int x0), .unset] [] := by first | (simp [entryFrame, mkF, argsToLocals, Value.category]; done) | rfl
set_option maxRecDepth 65536 in
set_option maxHeartbeats 40000000 in
theorem rm_u1b (l : Launch) (Z : State) (a0 : Array Value) (G1 : Int32) (G3 : Value) (hX : Ctx Z a0 G1 G3) (hU : Wide Z) (n0 : Nat) (h0 : Heap) (O0 : Old Z n0 h0) (c1 : Int32)  (ws : List Jvm.Cond) : Met l Z EL1 n0 NoB (⟨"java/lang/StringUTF16", "toBytes", "(C)[B"⟩ : MethodName) jdk_52_method_24_code 2 (Option.some (FieldType.array FieldType.byte)) RM_u1b #[(.int c1)] h0 (Q_u1b Z G1 G3 c1 h0 n0 NoB) ws := by
  have hX' := hX
  obtain ⟨hw, hE, S1, P1, S3, P3⟩ := hX'
  have hU' := hU
  obtain ⟨u1, u2, u3⟩ := hU'
  have hSA := sa_of hw
  have wT : ∀ (i : Nat) {d : Jvm.Cond}, tables_1[i]? = some d → d.before a0 Z = true := fun i d h => hw d (List.mem_of_getElem? h)
  have z0 : n0 ≤ h0.size := by rw [← O0.1]; exact O0.2.1
  refine Met.of (by decide +kernel) O0 hE ?_
  intro p e s m below meth c hx hby hml hret hlk hnm
  refine k_cast (ef_u1b m c1) ?_
  show Run p l e _ s m _ below meth c Z EL1 _ n0 NoB h0 0 0 (mkF m 0 #[.val (.int c1), .unset] []) _
  refine k_pure (g' := (mkF m 1 #[.val (.int c1), .unset] [(.int (2 : Int32))])) (fun TT HH tt kk => XS.iconst HH hx rfl (hb hby d_jdk_52_m_24_0) kk) ?_
  refine k_newP hx (wT 29 rfl) rfl (hb hby d_jdk_52_m_24_1) rfl (by decide) (cap := 2) (by decide) (by decide) (by decide) (by decide) "[B" (by decide +kernel) ?_
  intro h_2 a_1 k_3 g_4 O_5 E_6 A_7 X_8
  have z_9 := E_6.1
  have lt_10 : @LT.lt Nat _ a_1 (Array.size h_2) := A_7.lt
  have V_11 : Arv Z h_2 a_1 k_3 .byte (2 : Int32) [(.int (0 : Int32)), (.int (0 : Int32))] (.int (0 : Int32)) := Arv.pad A_7 (pad_rep [] (.int (0 : Int32)) 2)
  show Run p l e _ s m _ below meth c Z EL1 _ n0 NoB h_2 1 2 (mkF m 3 #[.val (.int c1), .unset] [(.ref a_1)]) _
  refine k_pure (g' := (mkF m 4 #[.val (.int c1), .val (.ref a_1)] [])) (fun TT HH tt kk => XS.astoreN HH hx rfl (hb hby d_jdk_52_m_24_3) rfl rfl (l' := #[.val (.int c1), .val (.ref a_1)]) rfl kk) ?_
  refine k_pure (g' := (mkF m 5 #[.val (.int c1), .val (.ref a_1)] [(.ref a_1)])) (fun TT HH tt kk => XS.aloadN HH hx rfl (hb hby d_jdk_52_m_24_4) rfl rfl kk) ?_
  refine k_pure (g' := (mkF m 6 #[.val (.int c1), .val (.ref a_1)] [(.int (0 : Int32)), (.ref a_1)])) (fun TT HH tt kk => XS.iconst HH hx rfl (hb hby d_jdk_52_m_24_5) kk) ?_
  refine k_pure (g' := (mkF m 7 #[.val (.int c1), .val (.ref a_1)] [(.int c1), (.int (0 : Int32)), (.ref a_1)])) (fun TT HH tt kk => XS.iloadN HH hx rfl (hb hby d_jdk_52_m_24_6) rfl kk) ?_
  refine k_callS hx (y := (⟨"java/lang/StringUTF16", "putChar", "([BII)V"⟩ : MethodName)) (wT 43 rfl) (wT 44 rfl) (wT 27 rfl) (wT 45 rfl) (by decide) (W := 0) (argsL := [(.ref a_1), (.int (0 : Int32)), (.int c1)]) (rest := []) (Pays.of_met (rm_puc l Z a0 G1 G3 hX hU n0 h_2 O_5 a_1 k_3 2 [(.int (0 : Int32)), (.int (0 : Int32))] 0 c1 V_11 rfl (by decide) (by decide) (by omega) []) (wT 45 rfl) (wT 27 rfl) (by decide) (by decide)) rfl (by rw [hml]; rfl) (lenOf pd__28__5b_BII_29_V rfl) rfl (by show 2 * 0 + _ ≤ _; exact Nat.le_of_eq rfl) (hb hby d_jdk_52_m_24_7) (by decide) (by decide) ?_
  intro v_12 h_13 bk_14 O_15 z_16 Q_17
  obtain ⟨rfl, rfl, K_18, F_19⟩ := Q_17
  have lt_20 : @LT.lt Nat _ a_1 (Array.size h_13) := F_19.lt
  show Run p l e _ s m _ below meth c Z EL1 _ n0 NoB h_13 1 2 (mkF m 10 #[.val (.int c1), .val (.ref a_1)] []) _
  refine k_pure (g' := (mkF m 11 #[.val (.int c1), .val (.ref a_1)] [(.ref a_1)])) (fun TT HH tt kk => XS.aloadN HH hx rfl (hb hby d_jdk_52_m_24_10) rfl rfl kk) ?_
  exact k_retA hx hlk hret rfl rfl rfl (hb hby d_jdk_52_m_24_11) (by decide) (by decide) ⟨a_1, k_3, rfl, rfl, (((Keep.refl _ _).ext E_6).trans K_18 (kkS (Or.inr (by omega)) kk0)), F_19, (by omega)⟩
def Q_ibb0 (Z : State) (G1 : Int32) (G3 : Value) (x : Addr) (t : Addr) (h0 : Heap) (n0 : Nat) (bk : Addr → Prop) (v : Option Value) (h : Heap) (bk' : Addr → Prop) : Prop := v = none ∧ NoB = bk' ∧ Keep h0 h [x] ∧ (Exa Z h x "java/lang/String") ∧ (Fld Z h x "java/lang/String" "value" "[B" (.ref t)) ∧ (Fld Z h x "java/lang/String" "coder" "B" (.int (0 : Int32)))
theorem d_jdk_42_m_151_0 : decode jdk_42_method_151_code 0 = .ok (.aload_n 0, 1) := by decide +kernel
theorem d_jdk_42_m_151_1 : decode jdk_42_method_151_code 1 = .ok (.invokespecial 1, 3) := by decide +kernel
theorem d_jdk_42_m_151_4 : decode jdk_42_method_151_code 4 = .ok (.aload_n 0, 1) := by decide +kernel
theorem d_jdk_42_m_151_5 : decode jdk_42_method_151_code 5 = .ok (.aload_n 1, 1) := by decide +kernel
theorem d_jdk_42_m_151_6 : decode jdk_42_method_151_code 6 = .ok (.putfield 9, 3) := by decide +kernel
theorem d_jdk_42_m_151_9 : decode jdk_42_method_151_code 9 = .ok (.aload_n 0, 1) := by decide +kernel
theorem d_jdk_42_m_151_10 : decode jdk_42_method_151_code 10 = .ok (.iload_n 2, 1) := by decide +kernel
theorem d_jdk_42_m_151_11 : decode jdk_42_method_151_code 11 = .ok (.putfield 15, 3) := by decide +kernel
theorem d_jdk_42_m_151_14 : decode jdk_42_method_151_code 14 = .ok (.return_, 1) := by decide +kernel
abbrev RM_ibb0 : Room := { frames := 1, cells := 0, slots := 0, locals := 12 }
theorem ef_ibb0 (m : MethodId) (x0 : Addr) (x1 : Addr) (x2 : Int32) : entryFrame m #[(.ref x0), (.ref x1), (.int x2)] 3 = mkF m 0 #[.val (.ref x0), .val (.ref x1), .val (.int x2)] [] := by first | (simp [entryFrame, mkF, argsToLocals, Value.category]; done) | rfl
set_option maxRecDepth 65536 in
set_option maxHeartbeats 40000000 in
theorem rm_ibb0 (l : Launch) (Z : State) (a0 : Array Value) (G1 : Int32) (G3 : Value) (hX : Ctx Z a0 G1 G3) (hU : Wide Z) (n0 : Nat) (h0 : Heap) (O0 : Old Z n0 h0) (x : Addr) (t : Addr) (pf_0 : Exa Z h0 x "java/lang/String") (pf_1 : Fld Z h0 x "java/lang/String" "value" "[B" .null) (pf_2 : Fld Z h0 x "java/lang/String" "coder" "B" (.int (0 : Int32))) (gx : n0 ≤ x) (ws : List Jvm.Cond) : Met l Z EL1 n0 NoB (⟨"java/lang/String", "<init>", "([BB)V"⟩ : MethodName) jdk_42_method_151_code 3 (Option.none : Option FieldType) RM_ibb0 #[(.ref x), (.ref t), (.int (0 : Int32))] h0 (Q_ibb0 Z G1 G3 x t h0 n0 NoB) ws := by
  have hX' := hX
  obtain ⟨hw, hE, S1, P1, S3, P3⟩ := hX'
  have hU' := hU
  obtain ⟨u1, u2, u3⟩ := hU'
  have hSA := sa_of hw
  have wT : ∀ (i : Nat) {d : Jvm.Cond}, tables_1[i]? = some d → d.before a0 Z = true := fun i d h => hw d (List.mem_of_getElem? h)
  have z0 : n0 ≤ h0.size := by rw [← O0.1]; exact O0.2.1
  refine Met.of (by decide +kernel) O0 hE ?_
  intro p e s m below meth c hx hby hml hret hlk hnm
  refine k_cast (ef_ibb0 m x t (0 : Int32)) ?_
  show Run p l e _ s m _ below meth c Z EL1 _ n0 NoB h0 0 0 (mkF m 0 #[.val (.ref x), .val (.ref t), .val (.int (0 : Int32))] []) _
  have lt_1 : @LT.lt Nat _ x (Array.size h0) := pf_0.lt
  have lt_2 : @LT.lt Nat _ x (Array.size h0) := pf_1.lt
  have lt_3 : @LT.lt Nat _ x (Array.size h0) := pf_2.lt
  refine k_pure (g' := (mkF m 1 #[.val (.ref x), .val (.ref t), .val (.int (0 : Int32))] [(.ref x)])) (fun TT HH tt kk => XS.aloadN HH hx rfl (hb hby d_jdk_42_m_151_0) rfl rfl kk) ?_
  refine k_initO hx (wT 21 rfl) (wT 22 rfl) (wT 23 rfl) rfl (by rw [hml]; rfl) rfl (hb hby d_jdk_42_m_151_1) (by decide) (W := 0) (by show 2 * 0 + _ ≤ _; exact Nat.le_of_eq rfl) (by decide) ?_
  show Run p l e _ s m _ below meth c Z EL1 _ n0 NoB h0 0 0 (mkF m 4 #[.val (.ref x), .val (.ref t), .val (.int (0 : Int32))] []) _
  refine k_pure (g' := (mkF m 5 #[.val (.ref x), .val (.ref t), .val (.int (0 : Int32))] [(.ref x)])) (fun TT HH tt kk => XS.aloadN HH hx rfl (hb hby d_jdk_42_m_151_4) rfl rfl kk) ?_
  refine k_pure (g' := (mkF m 6 #[.val (.ref x), .val (.ref t), .val (.int (0 : Int32))] [(.ref t), (.ref x)])) (fun TT HH tt kk => XS.aloadN HH hx rfl (hb hby d_jdk_42_m_151_5) rfl rfl kk) ?_
  refine k_putF hx (host := "") (Or.inl (wT 57 rfl)) Via.refl pf_1 pf_0 (Or.inr ⟨(wT 58 rfl), rfl, hnm⟩) (wT 12 rfl) (ty := (.array .byte)) (by decide) rfl rfl (by omega) (fun q => q) rfl rfl (hb hby d_jdk_42_m_151_6) ?_
  intro h_4 O_6 W_5
  have z_7 := W_5.size
  show Run p l e _ s m _ below meth c Z EL1 _ n0 NoB h_4 0 0 (mkF m 9 #[.val (.ref x), .val (.ref t), .val (.int (0 : Int32))] []) _
  refine k_pure (g' := (mkF m 10 #[.val (.ref x), .val (.ref t), .val (.int (0 : Int32))] [(.ref x)])) (fun TT HH tt kk => XS.aloadN HH hx rfl (hb hby d_jdk_42_m_151_9) rfl rfl kk) ?_
  refine k_pure (g' := (mkF m 11 #[.val (.ref x), .val (.ref t), .val (.int (0 : Int32))] [(.int (0 : Int32)), (.ref x)])) (fun TT HH tt kk => XS.iloadN HH hx rfl (hb hby d_jdk_42_m_151_10) rfl kk) ?_
  have F_8 : Fld Z h_4 x "java/lang/String" "coder" "B" (.int (0 : Int32)) := (pf_2.other W_5 (Or.inr (RoadKit.slot_ne (C := "java/lang/String") (Or.inr (wT 56 rfl)) (Or.inr (wT 58 rfl)) (by decide) (t := .byte) (t' := (.array .byte)) (by decide) (by decide))))
  have F_9 : Exa Z h_4 x "java/lang/String" := (pf_0.wr W_5)
  refine k_putF hx (host := "") (Or.inl (wT 55 rfl)) Via.refl F_8 F_9 (Or.inr ⟨(wT 56 rfl), rfl, hnm⟩) (wT 12 rfl) (ty := .byte) (by decide) rfl rfl (by omega) (fun q => q) rfl rfl (hb hby d_jdk_42_m_151_11) ?_
  intro h_10 O_12 W_11
  have z_13 := W_11.size
  show Run p l e _ s m _ below meth c Z EL1 _ n0 NoB h_10 0 0 (mkF m 14 #[.val (.ref x), .val (.ref t), .val (.int (0 : Int32))] []) _
  have F_14 : Exa Z h_10 x "java/lang/String" := (F_9.wr W_11)
  have F_15 : Fld Z h_10 x "java/lang/String" "value" "[B" (.ref t) := ((pf_1.same W_5).other W_11 (Or.inr (RoadKit.slot_ne (C := "java/lang/String") (Or.inr (wT 58 rfl)) (Or.inr (wT 56 rfl)) (by decide) (t := (.array .byte)) (t' := .byte) (by decide) (by decide))))
  exact k_ret0 hx hlk hret (hb hby d_jdk_42_m_151_14) (by decide) (by decide) ⟨rfl, rfl, (((Keep.refl _ _).wr W_5 (Or.inl (by simp))).wr W_11 (Or.inl (by simp))), F_14, F_15, (F_8.same W_11)⟩
def Q_ibb1 (Z : State) (G1 : Int32) (G3 : Value) (x : Addr) (t : Addr) (h0 : Heap) (n0 : Nat) (bk : Addr → Prop) (v : Option Value) (h : Heap) (bk' : Addr → Prop) : Prop := v = none ∧ NoB = bk' ∧ Keep h0 h [x] ∧ (Exa Z h x "java/lang/String") ∧ (Fld Z h x "java/lang/String" "value" "[B" (.ref t)) ∧ (Fld Z h x "java/lang/String" "coder" "B" (.int (1 : Int32)))
abbrev RM_ibb1 : Room := { frames := 1, cells := 0, slots := 0, locals := 12 }
theorem ef_ibb1 (m : MethodId) (x0 : Addr) (x1 : Addr) (x2 : Int32) : entryFrame m #[(.ref x0), (.ref x1), (.int x2)] 3 = mkF m 0 #[.val (.ref x0), .val (.ref x1), .val (.int x2)] [] := by first | (simp [entryFrame, mkF, argsToLocals, Value.category]; done) | rfl
set_option maxRecDepth 65536 in
set_option maxHeartbeats 40000000 in
theorem rm_ibb1 (l : Launch) (Z : State) (a0 : Array Value) (G1 : Int32) (G3 : Value) (hX : Ctx Z a0 G1 G3) (hU : Wide Z) (n0 : Nat) (h0 : Heap) (O0 : Old Z n0 h0) (x : Addr) (t : Addr) (pf_0 : Exa Z h0 x "java/lang/String") (pf_1 : Fld Z h0 x "java/lang/String" "value" "[B" .null) (pf_2 : Fld Z h0 x "java/lang/String" "coder" "B" (.int (0 : Int32))) (gx : n0 ≤ x) (ws : List Jvm.Cond) : Met l Z EL1 n0 NoB (⟨"java/lang/String", "<init>", "([BB)V"⟩ : MethodName) jdk_42_method_151_code 3 (Option.none : Option FieldType) RM_ibb1 #[(.ref x), (.ref t), (.int (1 : Int32))] h0 (Q_ibb1 Z G1 G3 x t h0 n0 NoB) ws := by
  have hX' := hX
  obtain ⟨hw, hE, S1, P1, S3, P3⟩ := hX'
  have hU' := hU
  obtain ⟨u1, u2, u3⟩ := hU'
  have hSA := sa_of hw
  have wT : ∀ (i : Nat) {d : Jvm.Cond}, tables_1[i]? = some d → d.before a0 Z = true := fun i d h => hw d (List.mem_of_getElem? h)
  have z0 : n0 ≤ h0.size := by rw [← O0.1]; exact O0.2.1
  refine Met.of (by decide +kernel) O0 hE ?_
  intro p e s m below meth c hx hby hml hret hlk hnm
  refine k_cast (ef_ibb1 m x t (1 : Int32)) ?_
  show Run p l e _ s m _ below meth c Z EL1 _ n0 NoB h0 0 0 (mkF m 0 #[.val (.ref x), .val (.ref t), .val (.int (1 : Int32))] []) _
  have lt_1 : @LT.lt Nat _ x (Array.size h0) := pf_0.lt
  have lt_2 : @LT.lt Nat _ x (Array.size h0) := pf_1.lt
  have lt_3 : @LT.lt Nat _ x (Array.size h0) := pf_2.lt
  refine k_pure (g' := (mkF m 1 #[.val (.ref x), .val (.ref t), .val (.int (1 : Int32))] [(.ref x)])) (fun TT HH tt kk => XS.aloadN HH hx rfl (hb hby d_jdk_42_m_151_0) rfl rfl kk) ?_
  refine k_initO hx (wT 21 rfl) (wT 22 rfl) (wT 23 rfl) rfl (by rw [hml]; rfl) rfl (hb hby d_jdk_42_m_151_1) (by decide) (W := 0) (by show 2 * 0 + _ ≤ _; exact Nat.le_of_eq rfl) (by decide) ?_
  show Run p l e _ s m _ below meth c Z EL1 _ n0 NoB h0 0 0 (mkF m 4 #[.val (.ref x), .val (.ref t), .val (.int (1 : Int32))] []) _
  refine k_pure (g' := (mkF m 5 #[.val (.ref x), .val (.ref t), .val (.int (1 : Int32))] [(.ref x)])) (fun TT HH tt kk => XS.aloadN HH hx rfl (hb hby d_jdk_42_m_151_4) rfl rfl kk) ?_
  refine k_pure (g' := (mkF m 6 #[.val (.ref x), .val (.ref t), .val (.int (1 : Int32))] [(.ref t), (.ref x)])) (fun TT HH tt kk => XS.aloadN HH hx rfl (hb hby d_jdk_42_m_151_5) rfl rfl kk) ?_
  refine k_putF hx (host := "") (Or.inl (wT 57 rfl)) Via.refl pf_1 pf_0 (Or.inr ⟨(wT 58 rfl), rfl, hnm⟩) (wT 12 rfl) (ty := (.array .byte)) (by decide) rfl rfl (by omega) (fun q => q) rfl rfl (hb hby d_jdk_42_m_151_6) ?_
  intro h_4 O_6 W_5
  have z_7 := W_5.size
  show Run p l e _ s m _ below meth c Z EL1 _ n0 NoB h_4 0 0 (mkF m 9 #[.val (.ref x), .val (.ref t), .val (.int (1 : Int32))] []) _
  refine k_pure (g' := (mkF m 10 #[.val (.ref x), .val (.ref t), .val (.int (1 : Int32))] [(.ref x)])) (fun TT HH tt kk => XS.aloadN HH hx rfl (hb hby d_jdk_42_m_151_9) rfl rfl kk) ?_
  refine k_pure (g' := (mkF m 11 #[.val (.ref x), .val (.ref t), .val (.int (1 : Int32))] [(.int (1 : Int32)), (.ref x)])) (fun TT HH tt kk => XS.iloadN HH hx rfl (hb hby d_jdk_42_m_151_10) rfl kk) ?_
  have F_8 : Fld Z h_4 x "java/lang/String" "coder" "B" (.int (0 : Int32)) := (pf_2.other W_5 (Or.inr (RoadKit.slot_ne (C := "java/lang/String") (Or.inr (wT 56 rfl)) (Or.inr (wT 58 rfl)) (by decide) (t := .byte) (t' := (.array .byte)) (by decide) (by decide))))
  have F_9 : Exa Z h_4 x "java/lang/String" := (pf_0.wr W_5)
  refine k_putF hx (host := "") (Or.inl (wT 55 rfl)) Via.refl F_8 F_9 (Or.inr ⟨(wT 56 rfl), rfl, hnm⟩) (wT 12 rfl) (ty := .byte) (by decide) rfl rfl (by omega) (fun q => q) rfl rfl (hb hby d_jdk_42_m_151_11) ?_
  intro h_10 O_12 W_11
  have z_13 := W_11.size
  show Run p l e _ s m _ below meth c Z EL1 _ n0 NoB h_10 0 0 (mkF m 14 #[.val (.ref x), .val (.ref t), .val (.int (1 : Int32))] []) _
  have F_14 : Exa Z h_10 x "java/lang/String" := (F_9.wr W_11)
  have F_15 : Fld Z h_10 x "java/lang/String" "value" "[B" (.ref t) := ((pf_1.same W_5).other W_11 (Or.inr (RoadKit.slot_ne (C := "java/lang/String") (Or.inr (wT 58 rfl)) (Or.inr (wT 56 rfl)) (by decide) (t := (.array .byte)) (t' := .byte) (by decide) (by decide))))
  exact k_ret0 hx hlk hret (hb hby d_jdk_42_m_151_14) (by decide) (by decide) ⟨rfl, rfl, (((Keep.refl _ _).wr W_5 (Or.inl (by simp))).wr W_11 (Or.inl (by simp))), F_14, F_15, (F_8.same W_11)⟩
def Q_vof (Z : State) (G1 : Int32) (G3 : Value) (c1 : Int32) (h0 : Heap) (n0 : Nat) (bk : Addr → Prop) (v : Option Value) (h : Heap) (bk' : Addr → Prop) : Prop := ∃ (a : Addr), ∃ (t : Addr), ∃ (kb : ClassId), v = some (.ref a) ∧ NoB = bk' ∧ Keep h0 h [] ∧ (StrX Z h a t kb [c1])
theorem d_jdk_42_m_139_0 : decode jdk_42_method_139_code 0 = .ok (.getstatic 38, 3) := by decide +kernel
theorem d_jdk_42_m_139_3 : decode jdk_42_method_139_code 3 = .ok (.ifCond .eq 23, 3) := by decide +kernel
theorem d_jdk_42_m_139_6 : decode jdk_42_method_139_code 6 = .ok (.iload_n 0, 1) := by decide +kernel
theorem d_jdk_42_m_139_7 : decode jdk_42_method_139_code 7 = .ok (.invokestatic 1015, 3) := by decide +kernel
theorem d_jdk_42_m_139_10 : decode jdk_42_method_139_code 10 = .ok (.ifCond .eq 16, 3) := by decide +kernel
theorem d_jdk_42_m_139_26 : decode jdk_42_method_139_code 26 = .ok (.new 10, 3) := by decide +kernel
theorem d_jdk_42_m_139_29 : decode jdk_42_method_139_code 29 = .ok (.dup, 1) := by decide +kernel
theorem d_jdk_42_m_139_30 : decode jdk_42_method_139_code 30 = .ok (.iload_n 0, 1) := by decide +kernel
theorem d_jdk_42_m_139_31 : decode jdk_42_method_139_code 31 = .ok (.invokestatic 1021, 3) := by decide +kernel
theorem pd__28_C_29__5b_B : parseMethodDescriptor "(C)[B" = some ⟨[.char], some (.array .byte)⟩ := by decide +kernel
theorem d_jdk_42_m_139_34 : decode jdk_42_method_139_code 34 = .ok (.iconst 1, 1) := by decide +kernel
theorem d_jdk_42_m_139_35 : decode jdk_42_method_139_code 35 = .ok (.invokespecial 209, 3) := by decide +kernel
theorem pd__28__5b_BB_29_V : parseMethodDescriptor "([BB)V" = some ⟨[(.array .byte), .byte], none⟩ := by decide +kernel
theorem d_jdk_42_m_139_38 : decode jdk_42_method_139_code 38 = .ok (.areturn, 1) := by decide +kernel
theorem d_jdk_42_m_139_13 : decode jdk_42_method_139_code 13 = .ok (.new 10, 3) := by decide +kernel
theorem d_jdk_42_m_139_16 : decode jdk_42_method_139_code 16 = .ok (.dup, 1) := by decide +kernel
theorem d_jdk_42_m_139_17 : decode jdk_42_method_139_code 17 = .ok (.iload_n 0, 1) := by decide +kernel
theorem d_jdk_42_m_139_18 : decode jdk_42_method_139_code 18 = .ok (.invokestatic 1018, 3) := by decide +kernel
theorem d_jdk_42_m_139_21 : decode jdk_42_method_139_code 21 = .ok (.iconst 0, 1) := by decide +kernel
theorem d_jdk_42_m_139_22 : decode jdk_42_method_139_code 22 = .ok (.invokespecial 209, 3) := by decide +kernel
theorem d_jdk_42_m_139_25 : decode jdk_42_method_139_code 25 = .ok (.areturn, 1) := by decide +kernel
abbrev RM_vof : Room := { frames := 2, cells := 2, slots := 6, locals := 29 }
theorem ef_vof (m : MethodId) (x0 : Int32) : entryFrame m #[(.int x0)] 1 = mkF m 0 #[.val (.int x0)] [] := by first | (simp [entryFrame, mkF, argsToLocals, Value.category]; done) | rfl
set_option maxRecDepth 65536 in
set_option maxHeartbeats 40000000 in
theorem rm_vof (l : Launch) (Z : State) (a0 : Array Value) (G1 : Int32) (G3 : Value) (hX : Ctx Z a0 G1 G3) (hU : Wide Z) (n0 : Nat) (h0 : Heap) (O0 : Old Z n0 h0) (c1 : Int32) (g1 : ¬ c1 < 0 ∧ ¬ (65535 : Int32) < c1) (ws : List Jvm.Cond) : Met l Z EL1 n0 NoB (⟨"java/lang/String", "valueOf", "(C)Ljava/lang/String;"⟩ : MethodName) jdk_42_method_139_code 1 (Option.some (FieldType.object "java/lang/String")) RM_vof #[(.int c1)] h0 (Q_vof Z G1 G3 c1 h0 n0 NoB) ws := by
  have hX' := hX
  obtain ⟨hw, hE, S1, P1, S3, P3⟩ := hX'
  have hU' := hU
  obtain ⟨u1, u2, u3⟩ := hU'
  have hSA := sa_of hw
  have wT : ∀ (i : Nat) {d : Jvm.Cond}, tables_1[i]? = some d → d.before a0 Z = true := fun i d h => hw d (List.mem_of_getElem? h)
  have z0 : n0 ≤ h0.size := by rw [← O0.1]; exact O0.2.1
  refine Met.of (by decide +kernel) O0 hE ?_
  intro p e s m below meth c hx hby hml hret hlk hnm
  refine k_cast (ef_vof m c1) ?_
  show Run p l e _ s m _ below meth c Z EL1 _ n0 NoB h0 0 0 (mkF m 0 #[.val (.int c1)] []) _
  refine k_getS hx (host := "") (Or.inl (wT 24 rfl)) Via.refl (S1.ext O0.2) rfl (hb hby d_jdk_42_m_139_0) ?_
  show Run p l e _ s m _ below meth c Z EL1 _ n0 NoB h0 0 0 (mkF m 3 #[.val (.int c1)] [(.int G1)]) _
  refine k_pure (g' := (mkF m 6 #[.val (.int c1)] [])) (fun TT HH tt kk => XS.ifNo HH hx rfl (hb hby d_jdk_42_m_139_3) rfl ((if0 _ _).trans (feq P1).1) kk) ?_
  refine k_pure (g' := (mkF m 7 #[.val (.int c1)] [(.int c1)])) (fun TT HH tt kk => XS.iloadN HH hx rfl (hb hby d_jdk_42_m_139_6) rfl kk) ?_
  refine k_callS hx (y := (⟨"java/lang/StringLatin1", "canEncode", "(C)Z"⟩ : MethodName)) (wT 123 rfl) (wT 124 rfl) (wT 125 rfl) (wT 126 rfl) (by decide) (W := 0) (argsL := [(.int c1)]) (rest := []) (Pays.of_met (rm_cen l Z a0 G1 G3 hX hU n0 h0 O0 c1  []) (wT 126 rfl) (wT 125 rfl) (by decide) (by decide)) rfl (by rw [hml]; rfl) (lenOf pd__28_C_29_Z rfl) rfl (by show 2 * 0 + _ ≤ _; exact Nat.le_of_eq rfl) (hb hby d_jdk_42_m_139_7) (by decide) (by decide) ?_
  intro v_1 h_2 bk_3 O_4 z_5 Q_6
  obtain ⟨rfl, rfl, rfl⟩ := Q_6
  show Run p l e _ s m _ below meth c Z EL1 _ n0 NoB h0 0 0 (mkF m 10 #[.val (.int c1)] [(.int (if (255 : Int32) < c1 then (0 : Int32) else 1))]) _
  by_cases c_7 : (if (255 : Int32) < c1 then (0 : Int32) else 1) = (0 : Int32)
  · refine k_pure (g' := (mkF m 26 #[.val (.int c1)] [])) (fun TT HH tt kk => XS.ifYes HH hx rfl (pc0 := 10) (pc' := 26) rfl (hb hby d_jdk_42_m_139_10) rfl ((if0 _ _).trans (teq c_7).1) (by decide) (by decide) kk) ?_
    refine k_newO hx (wT 127 rfl) (wT 12 rfl) (wT 13 rfl) rfl (hb hby d_jdk_42_m_139_26) (by decide) (by decide) ?_
    intro h_9 a_8 g_15 O_10 E_11 A_12 D_13 U_14
    have z_16 := E_11.1
    have lt_17 : @LT.lt Nat _ a_8 (Array.size h_9) := A_12.lt
    show Run p l e _ s m _ below meth c Z EL1 _ n0 NoB h_9 1 4 (mkF m 29 #[.val (.int c1)] [(.ref a_8)]) _
    refine k_pure (g' := (mkF m 30 #[.val (.int c1)] [(.ref a_8), (.ref a_8)])) (fun TT HH tt kk => XS.dup HH hx rfl (hb hby d_jdk_42_m_139_29) rfl rfl kk) ?_
    refine k_pure (g' := (mkF m 31 #[.val (.int c1)] [(.int c1), (.ref a_8), (.ref a_8)])) (fun TT HH tt kk => XS.iloadN HH hx rfl (hb hby d_jdk_42_m_139_30) rfl kk) ?_
    refine k_callS hx (y := (⟨"java/lang/StringUTF16", "toBytes", "(C)[B"⟩ : MethodName)) (wT 147 rfl) (wT 148 rfl) (wT 27 rfl) (wT 149 rfl) (by decide) (W := 2) (argsL := [(.int c1)]) (rest := [(.ref a_8), (.ref a_8)]) (Pays.of_met (rm_u1b l Z a0 G1 G3 hX hU n0 h_9 O_10 c1  []) (wT 149 rfl) (wT 27 rfl) (by decide) (by decide)) rfl (by rw [hml]; rfl) (lenOf pd__28_C_29__5b_B rfl) rfl (by show 2 * 0 + _ ≤ _; exact Nat.le_of_eq rfl) (hb hby d_jdk_42_m_139_31) (by decide) (by decide) ?_
    intro v_18 h_19 bk_20 O_21 z_22 Q_23
    obtain ⟨a_24, k_25, rfl, rfl, K_26, F_27, P_28⟩ := Q_23
    have lt_29 : @LT.lt Nat _ a_24 (Array.size h_19) := F_27.lt
    show Run p l e _ s m _ below meth c Z EL1 _ n0 NoB h_19 2 6 (mkF m 34 #[.val (.int c1)] [(.ref a_24), (.ref a_8), (.ref a_8)]) _
    refine k_pure (g' := (mkF m 35 #[.val (.int c1)] [(.int (1 : Int32)), (.ref a_24), (.ref a_8), (.ref a_8)])) (fun TT HH tt kk => XS.iconst HH hx rfl (hb hby d_jdk_42_m_139_34) kk) ?_
    have F_30 : Exa Z h_19 a_8 "java/lang/String" := (A_12.keep K_26)
    have F_31 : Fld Z h_19 a_8 "java/lang/String" "value" "[B" .null := ((D_13 (Or.inr (wT 58 rfl)) (ty := (.array .byte)) (by decide)).keep K_26 nin0)
    have F_32 : Fld Z h_19 a_8 "java/lang/String" "coder" "B" (.int (0 : Int32)) := ((D_13 (Or.inr (wT 56 rfl)) (ty := .byte) (by decide)).keep K_26 nin0)
    refine k_callI hx (y := (⟨"java/lang/String", "<init>", "([BB)V"⟩ : MethodName)) rfl (wT 131 rfl) (wT 132 rfl) (wT 133 rfl) (by decide) (W := 1) (a := a_8) (argsL := [(.ref a_24), (.int (1 : Int32))]) (rest := [(.ref a_8)]) (Pays.of_met (rm_ibb1 l Z a0 G1 G3 hX hU n0 h_19 O_21 a_8 a_24 F_30 F_31 F_32 (by omega) []) (wT 133 rfl) (wT 13 rfl) (by decide) (by decide)) rfl (by rw [hml]; rfl) (lenOf pd__28__5b_BB_29_V rfl) rfl (by show 2 * 0 + _ ≤ _; exact Nat.le_of_eq rfl) (hb hby d_jdk_42_m_139_35) (by decide) (by decide) ?_
    intro v_33 h_34 bk_35 O_36 z_37 Q_38
    obtain ⟨rfl, rfl, K_39, F_40, F_41, F_42⟩ := Q_38
    have lt_43 : @LT.lt Nat _ a_8 (Array.size h_34) := F_40.lt
    have lt_44 : @LT.lt Nat _ a_8 (Array.size h_34) := F_41.lt
    have lt_45 : @LT.lt Nat _ a_8 (Array.size h_34) := F_42.lt
    show Run p l e _ s m _ below meth c Z EL1 _ n0 NoB h_34 2 6 (mkF m 38 #[.val (.int c1)] [(.ref a_8)]) _
    have F_46 : Arv Z h_34 a_24 k_25 .byte (2 : Int32) (StrChars.Road.wideBytes [c1]) (.int (0 : Int32)) := (F_27.keep K_39 (ninS (ne_ad (by omega)) nin0))
    exact k_retA hx hlk hret rfl rfl rfl (hb hby d_jdk_42_m_139_38) (by decide) (by decide) ⟨a_8, a_24, k_25, rfl, rfl, ((((Keep.refl _ _).ext E_11).trans K_26 kk0).trans K_39 (kkS (Or.inr (by omega)) kk0)), Or.inr ⟨F_40, F_42, F_41, F_46, (fun c hc => by rw [List.mem_singleton.mp hc]; exact g1), ⟨c1, List.mem_singleton.mpr rfl, ite_w c_7⟩, by simp⟩⟩
  · refine k_pure (g' := (mkF m 13 #[.val (.int c1)] [])) (fun TT HH tt kk => XS.ifNo HH hx rfl (hb hby d_jdk_42_m_139_10) rfl ((if0 _ _).trans (feq c_7).1) kk) ?_
    refine k_newO hx (wT 127 rfl) (wT 12 rfl) (wT 13 rfl) rfl (hb hby d_jdk_42_m_139_13) (by decide) (by decide) ?_
    intro h_48 a_47 g_54 O_49 E_50 A_51 D_52 U_53
    have z_55 := E_50.1
    have lt_56 : @LT.lt Nat _ a_47 (Array.size h_48) := A_51.lt
    show Run p l e _ s m _ below meth c Z EL1 _ n0 NoB h_48 1 4 (mkF m 16 #[.val (.int c1)] [(.ref a_47)]) _
    refine k_pure (g' := (mkF m 17 #[.val (.int c1)] [(.ref a_47), (.ref a_47)])) (fun TT HH tt kk => XS.dup HH hx rfl (hb hby d_jdk_42_m_139_16) rfl rfl kk) ?_
    refine k_pure (g' := (mkF m 18 #[.val (.int c1)] [(.int c1), (.ref a_47), (.ref a_47)])) (fun TT HH tt kk => XS.iloadN HH hx rfl (hb hby d_jdk_42_m_139_17) rfl kk) ?_
    refine k_callS hx (y := (⟨"java/lang/StringLatin1", "toBytes", "(C)[B"⟩ : MethodName)) (wT 128 rfl) (wT 129 rfl) (wT 125 rfl) (wT 130 rfl) (by decide) (W := 2) (argsL := [(.int c1)]) (rest := [(.ref a_47), (.ref a_47)]) (Pays.of_met (rm_l1b l Z a0 G1 G3 hX hU n0 h_48 O_49 c1  []) (wT 130 rfl) (wT 125 rfl) (by decide) (by decide)) rfl (by rw [hml]; rfl) (lenOf pd__28_C_29__5b_B rfl) rfl (by show 2 * 0 + _ ≤ _; exact Nat.le_of_eq rfl) (hb hby d_jdk_42_m_139_18) (by decide) (by decide) ?_
    intro v_57 h_58 bk_59 O_60 z_61 Q_62
    obtain ⟨a_63, k_64, rfl, rfl, K_65, F_66, P_67⟩ := Q_62
    have lt_68 : @LT.lt Nat _ a_63 (Array.size h_58) := F_66.lt
    show Run p l e _ s m _ below meth c Z EL1 _ n0 NoB h_58 2 5 (mkF m 21 #[.val (.int c1)] [(.ref a_63), (.ref a_47), (.ref a_47)]) _
    refine k_pure (g' := (mkF m 22 #[.val (.int c1)] [(.int (0 : Int32)), (.ref a_63), (.ref a_47), (.ref a_47)])) (fun TT HH tt kk => XS.iconst HH hx rfl (hb hby d_jdk_42_m_139_21) kk) ?_
    have F_69 : Exa Z h_58 a_47 "java/lang/String" := (A_51.keep K_65)
    have F_70 : Fld Z h_58 a_47 "java/lang/String" "value" "[B" .null := ((D_52 (Or.inr (wT 58 rfl)) (ty := (.array .byte)) (by decide)).keep K_65 nin0)
    have F_71 : Fld Z h_58 a_47 "java/lang/String" "coder" "B" (.int (0 : Int32)) := ((D_52 (Or.inr (wT 56 rfl)) (ty := .byte) (by decide)).keep K_65 nin0)
    refine k_callI hx (y := (⟨"java/lang/String", "<init>", "([BB)V"⟩ : MethodName)) rfl (wT 131 rfl) (wT 132 rfl) (wT 133 rfl) (by decide) (W := 1) (a := a_47) (argsL := [(.ref a_63), (.int (0 : Int32))]) (rest := [(.ref a_47)]) (Pays.of_met (rm_ibb0 l Z a0 G1 G3 hX hU n0 h_58 O_60 a_47 a_63 F_69 F_70 F_71 (by omega) []) (wT 133 rfl) (wT 13 rfl) (by decide) (by decide)) rfl (by rw [hml]; rfl) (lenOf pd__28__5b_BB_29_V rfl) rfl (by show 2 * 0 + _ ≤ _; exact Nat.le_of_eq rfl) (hb hby d_jdk_42_m_139_22) (by decide) (by decide) ?_
    intro v_72 h_73 bk_74 O_75 z_76 Q_77
    obtain ⟨rfl, rfl, K_78, F_79, F_80, F_81⟩ := Q_77
    have lt_82 : @LT.lt Nat _ a_47 (Array.size h_73) := F_79.lt
    have lt_83 : @LT.lt Nat _ a_47 (Array.size h_73) := F_80.lt
    have lt_84 : @LT.lt Nat _ a_47 (Array.size h_73) := F_81.lt
    show Run p l e _ s m _ below meth c Z EL1 _ n0 NoB h_73 2 5 (mkF m 25 #[.val (.int c1)] [(.ref a_47)]) _
    have F_85 : Arv Z h_73 a_63 k_64 .byte (1 : Int32) [.int (c1.toInt8.toInt32)] (.int (0 : Int32)) := (F_66.keep K_78 (ninS (ne_ad (by omega)) nin0))
    exact k_retA hx hlk hret rfl rfl rfl (hb hby d_jdk_42_m_139_25) (by decide) (by decide) ⟨a_47, a_63, k_64, rfl, rfl, ((((Keep.refl _ _).ext E_50).trans K_65 kk0).trans K_78 (kkS (Or.inr (by omega)) kk0)), Or.inl ⟨F_79, F_81, F_80, F_85, (fun c hc => by rw [List.mem_singleton.mp hc]; exact ⟨g1.1, ite_n c_7⟩), by simp⟩⟩
def Q_law (Z : State) (G1 : Int32) (G3 : Value) (u0 : Int32) (v0 : Int32) (w0 : Int32) (x0 : Int32) (h0 : Heap) (n0 : Nat) (bk : Addr → Prop) (v : Option Value) (h : Heap) (bk' : Addr → Prop) : Prop := v = some (.int (1 : Int32)) ∧ NoB = bk' ∧ Keep h0 h []
theorem pd__28__5b_CIII_29_I : parseMethodDescriptor "([CIII)I" = some ⟨[(.array .char), .int, .int, .int], some .int⟩ := by decide +kernel
theorem pd__28_I_29__5b_C : parseMethodDescriptor "(I)[C" = some ⟨[.int], some (.array .char)⟩ := by decide +kernel
theorem pd__28__5b_C_29_V : parseMethodDescriptor "([C)V" = some ⟨[(.array .char)], none⟩ := by decide +kernel
theorem pd__28_Ljava_2f_lang_2f_String_3b_Ljava_2f_lang_2f_String_3b__29_V : parseMethodDescriptor "(Ljava/lang/String;Ljava/lang/String;)V" = some ⟨[(.object "java/lang/String"), (.object "java/lang/String")], none⟩ := by decide +kernel
theorem pd__28_C_29_Ljava_2f_lang_2f_String_3b_ : parseMethodDescriptor "(C)Ljava/lang/String;" = some ⟨[.char], some (.object "java/lang/String")⟩ := by decide +kernel
theorem ef_law (m : MethodId) (x0 : Int32) (x1 : Int32) (x2 : Int32) (x3 : Int32) : entryFrame m #[(.int x0), (.int x1), (.int x2), (.int x3)] maxLocals = mkF m 0 #[.val (.int x0), .val (.int x1), .val (.int x2), .val (.int x3), .unset, .unset, .unset, .unset, .unset, .unset, .unset] [] := by first | (simp [entryFrame, mkF, argsToLocals, Value.category, maxLocals]; done) | rfl
set_option maxRecDepth 65536 in
set_option maxHeartbeats 40000000 in
theorem rm_law (l : Launch) (Z : State) (a0 : Array Value) (G1 : Int32) (G3 : Value) (hX : Ctx Z a0 G1 G3) (hU : Wide Z) (n0 : Nat) (h0 : Heap) (O0 : Old Z n0 h0) (u0 : Int32) (v0 : Int32) (w0 : Int32) (x0 : Int32)  (ws : List Jvm.Cond) : Met l Z EL1 n0 NoB Jvm.Pilot.@@N@@.x code maxLocals ret room_1 #[(.int u0), (.int v0), (.int w0), (.int x0)] h0 (Q_law Z G1 G3 u0 v0 w0 x0 h0 n0 NoB) ws := by
  have hX' := hX
  obtain ⟨hw, hE, S1, P1, S3, P3⟩ := hX'
  have hU' := hU
  obtain ⟨u1, u2, u3⟩ := hU'
  have hSA := sa_of hw
  have wT : ∀ (i : Nat) {d : Jvm.Cond}, tables_1[i]? = some d → d.before a0 Z = true := fun i d h => hw d (List.mem_of_getElem? h)
  have z0 : n0 ≤ h0.size := by rw [← O0.1]; exact O0.2.1
  refine Met.of (by decide +kernel) O0 hE ?_
  intro p e s m below meth c hx hby hml hret hlk hnm
  refine k_cast (ef_law m u0 v0 w0 x0) ?_
  show Run p l e _ s m _ below meth c Z EL1 _ n0 NoB h0 0 0 (mkF m 0 #[.val (.int u0), .val (.int v0), .val (.int w0), .val (.int x0), .unset, .unset, .unset, .unset, .unset, .unset, .unset] []) _
  refine k_pure (g' := (mkF m 1 #[.val (.int u0), .val (.int v0), .val (.int w0), .val (.int x0), .unset, .unset, .unset, .unset, .unset, .unset, .unset] [(.int (4 : Int32))])) (fun TT HH tt kk => XS.iconst HH hx rfl (hb hby at_0) kk) ?_
  refine k_newP hx (wT 0 rfl) rfl (hb hby at_1) rfl (by decide) (cap := 4) (by decide) (by decide) (by decide) (by decide) "[C" (by decide +kernel) ?_
  intro h_2 a_1 k_3 g_4 O_5 E_6 A_7 X_8
  have z_9 := E_6.1
  have lt_10 : @LT.lt Nat _ a_1 (Array.size h_2) := A_7.lt
  have V_11 : Arv Z h_2 a_1 k_3 .char (4 : Int32) [(.int (0 : Int32)), (.int (0 : Int32)), (.int (0 : Int32)), (.int (0 : Int32))] (.int (0 : Int32)) := Arv.pad A_7 (pad_rep [] (.int (0 : Int32)) 4)
  show Run p l e _ s m _ below meth c Z EL1 _ n0 NoB h_2 1 4 (mkF m 3 #[.val (.int u0), .val (.int v0), .val (.int w0), .val (.int x0), .unset, .unset, .unset, .unset, .unset, .unset, .unset] [(.ref a_1)]) _
  refine k_pure (g' := (mkF m 5 #[.val (.int u0), .val (.int v0), .val (.int w0), .val (.int x0), .val (.ref a_1), .unset, .unset, .unset, .unset, .unset, .unset] [])) (fun TT HH tt kk => XS.astore HH hx rfl (hb hby at_3) rfl rfl (l' := #[.val (.int u0), .val (.int v0), .val (.int w0), .val (.int x0), .val (.ref a_1), .unset, .unset, .unset, .unset, .unset, .unset]) rfl kk) ?_
  refine k_pure (g' := (mkF m 7 #[.val (.int u0), .val (.int v0), .val (.int w0), .val (.int x0), .val (.ref a_1), .unset, .unset, .unset, .unset, .unset, .unset] [(.ref a_1)])) (fun TT HH tt kk => XS.aload HH hx rfl (hb hby at_5) rfl rfl kk) ?_
  refine k_pure (g' := (mkF m 8 #[.val (.int u0), .val (.int v0), .val (.int w0), .val (.int x0), .val (.ref a_1), .unset, .unset, .unset, .unset, .unset, .unset] [(.int (0 : Int32)), (.ref a_1)])) (fun TT HH tt kk => XS.iconst HH hx rfl (hb hby at_7) kk) ?_
  refine k_pure (g' := (mkF m 9 #[.val (.int u0), .val (.int v0), .val (.int w0), .val (.int x0), .val (.ref a_1), .unset, .unset, .unset, .unset, .unset, .unset] [(.int u0), (.int (0 : Int32)), (.ref a_1)])) (fun TT HH tt kk => XS.iloadN HH hx rfl (hb hby at_8) rfl kk) ?_
  refine k_pure (g' := (mkF m 10 #[.val (.int u0), .val (.int v0), .val (.int w0), .val (.int x0), .val (.ref a_1), .unset, .unset, .unset, .unset, .unset, .unset] [(.int v0), (.int u0), (.int (0 : Int32)), (.ref a_1)])) (fun TT HH tt kk => XS.iloadN HH hx rfl (hb hby at_9) rfl kk) ?_
  refine k_callS hx (y := (⟨"com/example/eirene/eirene/KeySpaceCheckNamePinLaw", "unit", "([CIII)I"⟩ : MethodName)) (wT 1 rfl) (wT 2 rfl) (wT 3 rfl) (wT 4 rfl) (by decide) (W := 0) (argsL := [(.ref a_1), (.int (0 : Int32)), (.int u0), (.int v0)]) (rest := []) (Pays.of_met (rm_uni0 l Z a0 G1 G3 hX hU n0 h_2 O_5 a_1 k_3 u0 v0 V_11 (by omega) []) (wT 4 rfl) (wT 3 rfl) (by decide) (by decide)) rfl (by rw [hml]; rfl) (lenOf pd__28__5b_CIII_29_I rfl) rfl (by show 2 * 0 + _ ≤ _; exact Nat.le_of_eq rfl) (hb hby at_10) (by decide) (by decide) ?_
  intro v_12 h_13 bk_14 O_15 z_16 Q_17
  obtain ⟨i_18, i_19, i_20, rfl, rfl, K_21, F_22, P_23⟩ := Q_17
  have lt_24 : @LT.lt Nat _ a_1 (Array.size h_13) := F_22.lt
  show Run p l e _ s m _ below meth c Z EL1 _ n0 NoB h_13 1 4 (mkF m 13 #[.val (.int u0), .val (.int v0), .val (.int w0), .val (.int x0), .val (.ref a_1), .unset, .unset, .unset, .unset, .unset, .unset] [(.int i_20)]) _
  refine k_pure (g' := (mkF m 15 #[.val (.int u0), .val (.int v0), .val (.int w0), .val (.int x0), .val (.ref a_1), .val (.int i_20), .unset, .unset, .unset, .unset, .unset] [])) (fun TT HH tt kk => XS.istore HH hx rfl (hb hby at_13) rfl (l' := #[.val (.int u0), .val (.int v0), .val (.int w0), .val (.int x0), .val (.ref a_1), .val (.int i_20), .unset, .unset, .unset, .unset, .unset]) rfl kk) ?_
  refine k_pure (g' := (mkF m 17 #[.val (.int u0), .val (.int v0), .val (.int w0), .val (.int x0), .val (.ref a_1), .val (.int i_20), .unset, .unset, .unset, .unset, .unset] [(.ref a_1)])) (fun TT HH tt kk => XS.aload HH hx rfl (hb hby at_15) rfl rfl kk) ?_
  refine k_pure (g' := (mkF m 18 #[.val (.int u0), .val (.int v0), .val (.int w0), .val (.int x0), .val (.ref a_1), .val (.int i_20), .unset, .unset, .unset, .unset, .unset] [(.int (2 : Int32)), (.ref a_1)])) (fun TT HH tt kk => XS.iconst HH hx rfl (hb hby at_17) kk) ?_
  refine k_pure (g' := (mkF m 19 #[.val (.int u0), .val (.int v0), .val (.int w0), .val (.int x0), .val (.ref a_1), .val (.int i_20), .unset, .unset, .unset, .unset, .unset] [(.int w0), (.int (2 : Int32)), (.ref a_1)])) (fun TT HH tt kk => XS.iloadN HH hx rfl (hb hby at_18) rfl kk) ?_
  refine k_pure (g' := (mkF m 20 #[.val (.int u0), .val (.int v0), .val (.int w0), .val (.int x0), .val (.ref a_1), .val (.int i_20), .unset, .unset, .unset, .unset, .unset] [(.int x0), (.int w0), (.int (2 : Int32)), (.ref a_1)])) (fun TT HH tt kk => XS.iloadN HH hx rfl (hb hby at_19) rfl kk) ?_
  refine k_callS hx (y := (⟨"com/example/eirene/eirene/KeySpaceCheckNamePinLaw", "unit", "([CIII)I"⟩ : MethodName)) (wT 1 rfl) (wT 2 rfl) (wT 3 rfl) (wT 4 rfl) (by decide) (W := 0) (argsL := [(.ref a_1), (.int (2 : Int32)), (.int w0), (.int x0)]) (rest := []) (Pays.of_met (rm_uni2 l Z a0 G1 G3 hX hU n0 h_13 O_15 a_1 k_3 w0 x0 i_18 i_19 F_22 (by omega) []) (wT 4 rfl) (wT 3 rfl) (by decide) (by decide)) rfl (by rw [hml]; rfl) (lenOf pd__28__5b_CIII_29_I rfl) rfl (by show 2 * 0 + _ ≤ _; exact Nat.le_of_eq rfl) (hb hby at_20) (by decide) (by decide) ?_
  intro v_25 h_26 bk_27 O_28 z_29 Q_30
  obtain ⟨i_31, i_32, i_33, rfl, rfl, K_34, F_35, P_36⟩ := Q_30
  have lt_37 : @LT.lt Nat _ a_1 (Array.size h_26) := F_35.lt
  show Run p l e _ s m _ below meth c Z EL1 _ n0 NoB h_26 1 4 (mkF m 23 #[.val (.int u0), .val (.int v0), .val (.int w0), .val (.int x0), .val (.ref a_1), .val (.int i_20), .unset, .unset, .unset, .unset, .unset] [(.int i_33)]) _
  refine k_pure (g' := (mkF m 25 #[.val (.int u0), .val (.int v0), .val (.int w0), .val (.int x0), .val (.ref a_1), .val (.int i_20), .val (.int i_33), .unset, .unset, .unset, .unset] [])) (fun TT HH tt kk => XS.istore HH hx rfl (hb hby at_23) rfl (l' := #[.val (.int u0), .val (.int v0), .val (.int w0), .val (.int x0), .val (.ref a_1), .val (.int i_20), .val (.int i_33), .unset, .unset, .unset, .unset]) rfl kk) ?_
  refine k_pure (g' := (mkF m 27 #[.val (.int u0), .val (.int v0), .val (.int w0), .val (.int x0), .val (.ref a_1), .val (.int i_20), .val (.int i_33), .unset, .unset, .unset, .unset] [(.int i_20)])) (fun TT HH tt kk => XS.iload HH hx rfl (hb hby at_25) rfl kk) ?_
  refine k_pure (g' := (mkF m 29 #[.val (.int u0), .val (.int v0), .val (.int w0), .val (.int x0), .val (.ref a_1), .val (.int i_20), .val (.int i_33), .unset, .unset, .unset, .unset] [(.int i_33), (.int i_20)])) (fun TT HH tt kk => XS.iload HH hx rfl (hb hby at_27) rfl kk) ?_
  refine k_pure (g' := (mkF m 30 #[.val (.int u0), .val (.int v0), .val (.int w0), .val (.int x0), .val (.ref a_1), .val (.int i_20), .val (.int i_33), .unset, .unset, .unset, .unset] [(.int (i_20 + i_33))])) (fun TT HH tt kk => XS.iadd HH hx rfl (hb hby at_29) rfl kk) ?_
  refine k_pure (g' := (mkF m 32 #[.val (.int u0), .val (.int v0), .val (.int w0), .val (.int x0), .val (.ref a_1), .val (.int i_20), .val (.int i_33), .val (.int (i_20 + i_33)), .unset, .unset, .unset] [])) (fun TT HH tt kk => XS.istore HH hx rfl (hb hby at_30) rfl (l' := #[.val (.int u0), .val (.int v0), .val (.int w0), .val (.int x0), .val (.ref a_1), .val (.int i_20), .val (.int i_33), .val (.int (i_20 + i_33)), .unset, .unset, .unset]) rfl kk) ?_
  refine k_pure (g' := (mkF m 33 #[.val (.int u0), .val (.int v0), .val (.int w0), .val (.int x0), .val (.ref a_1), .val (.int i_20), .val (.int i_33), .val (.int (i_20 + i_33)), .unset, .unset, .unset] [(.int u0)])) (fun TT HH tt kk => XS.iloadN HH hx rfl (hb hby at_32) rfl kk) ?_
  refine k_pure (g' := (mkF m 34 #[.val (.int u0), .val (.int v0), .val (.int w0), .val (.int x0), .val (.ref a_1), .val (.int i_20), .val (.int i_33), .val (.int (i_20 + i_33)), .unset, .unset, .unset] [(.int (2 : Int32)), (.int u0)])) (fun TT HH tt kk => XS.iconst HH hx rfl (hb hby at_33) kk) ?_
  refine k_pure (g' := (mkF m 35 #[.val (.int u0), .val (.int v0), .val (.int w0), .val (.int x0), .val (.ref a_1), .val (.int i_20), .val (.int i_33), .val (.int (i_20 + i_33)), .unset, .unset, .unset] [(.int ((u0.toUInt32 >>> ((2 : Int32) &&& 31).toUInt32).toInt32))])) (fun TT HH tt kk => XS.iushr HH hx rfl (hb hby at_34) rfl kk) ?_
  refine k_pure (g' := (mkF m 36 #[.val (.int u0), .val (.int v0), .val (.int w0), .val (.int x0), .val (.ref a_1), .val (.int i_20), .val (.int i_33), .val (.int (i_20 + i_33)), .unset, .unset, .unset] [(.int (1 : Int32)), (.int ((u0.toUInt32 >>> ((2 : Int32) &&& 31).toUInt32).toInt32))])) (fun TT HH tt kk => XS.iconst HH hx rfl (hb hby at_35) kk) ?_
  refine k_pure (g' := (mkF m 37 #[.val (.int u0), .val (.int v0), .val (.int w0), .val (.int x0), .val (.ref a_1), .val (.int i_20), .val (.int i_33), .val (.int (i_20 + i_33)), .unset, .unset, .unset] [(.int (((u0.toUInt32 >>> ((2 : Int32) &&& 31).toUInt32).toInt32) &&& (1 : Int32)))])) (fun TT HH tt kk => XS.iand HH hx rfl (hb hby at_36) rfl kk) ?_
  refine k_pure (g' := (mkF m 39 #[.val (.int u0), .val (.int v0), .val (.int w0), .val (.int x0), .val (.ref a_1), .val (.int i_20), .val (.int i_33), .val (.int (i_20 + i_33)), .val (.int (((u0.toUInt32 >>> ((2 : Int32) &&& 31).toUInt32).toInt32) &&& (1 : Int32))), .unset, .unset] [])) (fun TT HH tt kk => XS.istore HH hx rfl (hb hby at_37) rfl (l' := #[.val (.int u0), .val (.int v0), .val (.int w0), .val (.int x0), .val (.ref a_1), .val (.int i_20), .val (.int i_33), .val (.int (i_20 + i_33)), .val (.int (((u0.toUInt32 >>> ((2 : Int32) &&& 31).toUInt32).toInt32) &&& (1 : Int32))), .unset, .unset]) rfl kk) ?_
  refine k_pure (g' := (mkF m 42 #[.val (.int u0), .val (.int v0), .val (.int w0), .val (.int x0), .val (.ref a_1), .val (.int i_20), .val (.int i_33), .val (.int (i_20 + i_33)), .val (.int (((u0.toUInt32 >>> ((2 : Int32) &&& 31).toUInt32).toInt32) &&& (1 : Int32))), .unset, .unset] [(.int (204 : Int32))])) (fun TT HH tt kk => XS.sipush HH hx rfl (hb hby at_39) kk) ?_
  refine k_pure (g' := (mkF m 44 #[.val (.int u0), .val (.int v0), .val (.int w0), .val (.int x0), .val (.ref a_1), .val (.int i_20), .val (.int i_33), .val (.int (i_20 + i_33)), .val (.int (((u0.toUInt32 >>> ((2 : Int32) &&& 31).toUInt32).toInt32) &&& (1 : Int32))), .unset, .unset] [(.int (i_20 + i_33)), (.int (204 : Int32))])) (fun TT HH tt kk => XS.iload HH hx rfl (hb hby at_42) rfl kk) ?_
  refine k_pure (g' := (mkF m 45 #[.val (.int u0), .val (.int v0), .val (.int w0), .val (.int x0), .val (.ref a_1), .val (.int i_20), .val (.int i_33), .val (.int (i_20 + i_33)), .val (.int (((u0.toUInt32 >>> ((2 : Int32) &&& 31).toUInt32).toInt32) &&& (1 : Int32))), .unset, .unset] [(.int ((204 : Int32) - (i_20 + i_33)))])) (fun TT HH tt kk => XS.isub HH hx rfl (hb hby at_44) rfl kk) ?_
  refine k_pure (g' := (mkF m 47 #[.val (.int u0), .val (.int v0), .val (.int w0), .val (.int x0), .val (.ref a_1), .val (.int i_20), .val (.int i_33), .val (.int (i_20 + i_33)), .val (.int (((u0.toUInt32 >>> ((2 : Int32) &&& 31).toUInt32).toInt32) &&& (1 : Int32))), .unset, .unset] [(.int (((u0.toUInt32 >>> ((2 : Int32) &&& 31).toUInt32).toInt32) &&& (1 : Int32))), (.int ((204 : Int32) - (i_20 + i_33)))])) (fun TT HH tt kk => XS.iload HH hx rfl (hb hby at_45) rfl kk) ?_
  refine k_pure (g' := (mkF m 48 #[.val (.int u0), .val (.int v0), .val (.int w0), .val (.int x0), .val (.ref a_1), .val (.int i_20), .val (.int i_33), .val (.int (i_20 + i_33)), .val (.int (((u0.toUInt32 >>> ((2 : Int32) &&& 31).toUInt32).toInt32) &&& (1 : Int32))), .unset, .unset] [(.int (((204 : Int32) - (i_20 + i_33)) - (((u0.toUInt32 >>> ((2 : Int32) &&& 31).toUInt32).toInt32) &&& (1 : Int32))))])) (fun TT HH tt kk => XS.isub HH hx rfl (hb hby at_47) rfl kk) ?_
  refine k_callS hx (y := (⟨"com/example/eirene/eirene/KeySpaceCheckNamePinLaw", "pad", "(I)[C"⟩ : MethodName)) (wT 8 rfl) (wT 9 rfl) (wT 3 rfl) (wT 10 rfl) (by decide) (W := 0) (argsL := [(.int (((204 : Int32) - (i_20 + i_33)) - (((u0.toUInt32 >>> ((2 : Int32) &&& 31).toUInt32).toInt32) &&& (1 : Int32))))]) (rest := []) (Pays.of_met (rm_pad l Z a0 G1 G3 hX hU n0 h_26 O_28 (((204 : Int32) - (i_20 + i_33)) - (((u0.toUInt32 >>> ((2 : Int32) &&& 31).toUInt32).toInt32) &&& (1 : Int32))) (by have r0 : (204 : Int32).toInt = 204 := (by decide); have r1 := rng32 i_20; have r2 := rng32 i_33; have r3 := c_iadd i_20 i_33; have r4 := rng32 (i_20 + i_33); have r5 := c_isub (204 : Int32) (i_20 + i_33); have r6 := rng32 ((204 : Int32) - (i_20 + i_33)); have r7 := rng32 u0; have r8 : ((u0.toUInt32 >>> ((2 : Int32) &&& 31).toUInt32).toInt32).toInt = (u0.toInt % 4294967296) / 4 := (c_iushr u0 (2 : Int32) 2 (by decide) (by decide)); have r9 := rng32 ((u0.toUInt32 >>> ((2 : Int32) &&& 31).toUInt32).toInt32); have r10 : (((u0.toUInt32 >>> ((2 : Int32) &&& 31).toUInt32).toInt32) &&& (1 : Int32)).toInt = ((u0.toUInt32 >>> ((2 : Int32) &&& 31).toUInt32).toInt32).toInt % 2 := (c_mask ((u0.toUInt32 >>> ((2 : Int32) &&& 31).toUInt32).toInt32) (1 : Int32) 1 (by decide) (by decide)); have r11 := rng32 (((u0.toUInt32 >>> ((2 : Int32) &&& 31).toUInt32).toInt32) &&& (1 : Int32)); have r12 := c_isub ((204 : Int32) - (i_20 + i_33)) (((u0.toUInt32 >>> ((2 : Int32) &&& 31).toUInt32).toInt32) &&& (1 : Int32)); have r13 := rng32 (((204 : Int32) - (i_20 + i_33)) - (((u0.toUInt32 >>> ((2 : Int32) &&& 31).toUInt32).toInt32) &&& (1 : Int32))); have r14 := P_23.b; have r15 := P_36.b; omega) []) (wT 10 rfl) (wT 3 rfl) (by decide) (by decide)) rfl (by rw [hml]; rfl) (lenOf pd__28_I_29__5b_C rfl) rfl (by show 2 * 0 + _ ≤ _; exact Nat.le_of_eq rfl) (hb hby at_48) (by decide) (by decide) ?_
  intro v_38 h_39 bk_40 O_41 z_42 Q_43
  obtain ⟨a_44, k_45, rfl, rfl, K_46, F_47, P_48⟩ := Q_43
  have lt_49 : @LT.lt Nat _ a_44 (Array.size h_39) := F_47.lt
  show Run p l e _ s m _ below meth c Z EL1 _ n0 NoB h_39 2 204 (mkF m 51 #[.val (.int u0), .val (.int v0), .val (.int w0), .val (.int x0), .val (.ref a_1), .val (.int i_20), .val (.int i_33), .val (.int (i_20 + i_33)), .val (.int (((u0.toUInt32 >>> ((2 : Int32) &&& 31).toUInt32).toInt32) &&& (1 : Int32))), .unset, .unset] [(.ref a_44)]) _
  have hb1 := P_23.b
  have hb2 := P_36.b
  have hz : 0 ≤ ((((204 : Int32) - (i_20 + i_33)) - (((u0.toUInt32 >>> ((2 : Int32) &&& 31).toUInt32).toInt32) &&& (1 : Int32)))).toInt - 195 ∧ ((((204 : Int32) - (i_20 + i_33)) - (((u0.toUInt32 >>> ((2 : Int32) &&& 31).toUInt32).toInt32) &&& (1 : Int32)))).toInt ≤ 200 ∧ ((((204 : Int32) - (i_20 + i_33)) - (((u0.toUInt32 >>> ((2 : Int32) &&& 31).toUInt32).toInt32) &&& (1 : Int32)))).toInt + i_20.toInt + i_33.toInt ≤ 204 := (by have r0 : (204 : Int32).toInt = 204 := (by decide); have r1 := rng32 i_20; have r2 := rng32 i_33; have r3 := c_iadd i_20 i_33; have r4 := rng32 (i_20 + i_33); have r5 := c_isub (204 : Int32) (i_20 + i_33); have r6 := rng32 ((204 : Int32) - (i_20 + i_33)); have r7 := rng32 u0; have r8 : ((u0.toUInt32 >>> ((2 : Int32) &&& 31).toUInt32).toInt32).toInt = (u0.toInt % 4294967296) / 4 := (c_iushr u0 (2 : Int32) 2 (by decide) (by decide)); have r9 := rng32 ((u0.toUInt32 >>> ((2 : Int32) &&& 31).toUInt32).toInt32); have r10 : (((u0.toUInt32 >>> ((2 : Int32) &&& 31).toUInt32).toInt32) &&& (1 : Int32)).toInt = ((u0.toUInt32 >>> ((2 : Int32) &&& 31).toUInt32).toInt32).toInt % 2 := (c_mask ((u0.toUInt32 >>> ((2 : Int32) &&& 31).toUInt32).toInt32) (1 : Int32) 1 (by decide) (by decide)); have r11 := rng32 (((u0.toUInt32 >>> ((2 : Int32) &&& 31).toUInt32).toInt32) &&& (1 : Int32)); have r12 := c_isub ((204 : Int32) - (i_20 + i_33)) (((u0.toUInt32 >>> ((2 : Int32) &&& 31).toUInt32).toInt32) &&& (1 : Int32)); have r13 := rng32 (((204 : Int32) - (i_20 + i_33)) - (((u0.toUInt32 >>> ((2 : Int32) &&& 31).toUInt32).toInt32) &&& (1 : Int32))); have r14 := hb1; have r15 := hb2; omega)
  obtain ⟨kz, hk1, hk2⟩ : ∃ kz : Nat, ((((204 : Int32) - (i_20 + i_33)) - (((u0.toUInt32 >>> ((2 : Int32) &&& 31).toUInt32).toInt32) &&& (1 : Int32)))).toInt = ((kz + 4 : Nat) : Int) ∧ 191 ≤ kz ∧ kz ≤ 196 := ⟨(((((204 : Int32) - (i_20 + i_33)) - (((u0.toUInt32 >>> ((2 : Int32) &&& 31).toUInt32).toInt32) &&& (1 : Int32)))).toInt - 4).toNat, by omega, by omega, by omega⟩
  have V_50 : Arv Z h_39 a_44 k_45 .char (Int32.ofNat (kz + 4)) (([] : List Value) ++ List.replicate (kz + 4) (Value.int (0 : Int32))) (.int (0 : Int32)) := Arv.pad (by rw [← of_nat hk1 (by omega)]; exact F_47) (pad_rep [] _ (kz + 4))
  refine k_pure (g' := (mkF m 53 #[.val (.int u0), .val (.int v0), .val (.int w0), .val (.int x0), .val (.ref a_1), .val (.int i_20), .val (.int i_33), .val (.int (i_20 + i_33)), .val (.int (((u0.toUInt32 >>> ((2 : Int32) &&& 31).toUInt32).toInt32) &&& (1 : Int32))), .val (.ref a_44), .unset] [])) (fun TT HH tt kk => XS.astore HH hx rfl (hb hby at_51) rfl rfl (l' := #[.val (.int u0), .val (.int v0), .val (.int w0), .val (.int x0), .val (.ref a_1), .val (.int i_20), .val (.int i_33), .val (.int (i_20 + i_33)), .val (.int (((u0.toUInt32 >>> ((2 : Int32) &&& 31).toUInt32).toInt32) &&& (1 : Int32))), .val (.ref a_44), .unset]) rfl kk) ?_
  refine k_pure (g' := (mkF m 55 #[.val (.int u0), .val (.int v0), .val (.int w0), .val (.int x0), .val (.ref a_1), .val (.int i_20), .val (.int i_33), .val (.int (i_20 + i_33)), .val (.int (((u0.toUInt32 >>> ((2 : Int32) &&& 31).toUInt32).toInt32) &&& (1 : Int32))), .val (.ref a_44), .unset] [(.ref a_44)])) (fun TT HH tt kk => XS.aload HH hx rfl (hb hby at_53) rfl rfl kk) ?_
  refine k_alen hx V_50 rfl rfl (hb hby at_55) ?_
  show Run p l e _ s m _ below meth c Z EL1 _ n0 NoB h_39 2 204 (mkF m 56 #[.val (.int u0), .val (.int v0), .val (.int w0), .val (.int x0), .val (.ref a_1), .val (.int i_20), .val (.int i_33), .val (.int (i_20 + i_33)), .val (.int (((u0.toUInt32 >>> ((2 : Int32) &&& 31).toUInt32).toInt32) &&& (1 : Int32))), .val (.ref a_44), .unset] [(.int (Int32.ofNat (kz + 4)))]) _
  refine k_pure (g' := (mkF m 58 #[.val (.int u0), .val (.int v0), .val (.int w0), .val (.int x0), .val (.ref a_1), .val (.int i_20), .val (.int i_33), .val (.int (i_20 + i_33)), .val (.int (((u0.toUInt32 >>> ((2 : Int32) &&& 31).toUInt32).toInt32) &&& (1 : Int32))), .val (.ref a_44), .val (.int (Int32.ofNat (kz + 4)))] [])) (fun TT HH tt kk => XS.istore HH hx rfl (hb hby at_56) rfl (l' := #[.val (.int u0), .val (.int v0), .val (.int w0), .val (.int x0), .val (.ref a_1), .val (.int i_20), .val (.int i_33), .val (.int (i_20 + i_33)), .val (.int (((u0.toUInt32 >>> ((2 : Int32) &&& 31).toUInt32).toInt32) &&& (1 : Int32))), .val (.ref a_44), .val (.int (Int32.ofNat (kz + 4)))]) rfl kk) ?_
  refine k_pure (g' := (mkF m 60 #[.val (.int u0), .val (.int v0), .val (.int w0), .val (.int x0), .val (.ref a_1), .val (.int i_20), .val (.int i_33), .val (.int (i_20 + i_33)), .val (.int (((u0.toUInt32 >>> ((2 : Int32) &&& 31).toUInt32).toInt32) &&& (1 : Int32))), .val (.ref a_44), .val (.int (Int32.ofNat (kz + 4)))] [(.ref a_44)])) (fun TT HH tt kk => XS.aload HH hx rfl (hb hby at_58) rfl rfl kk) ?_
  refine k_pure (g' := (mkF m 62 #[.val (.int u0), .val (.int v0), .val (.int w0), .val (.int x0), .val (.ref a_1), .val (.int i_20), .val (.int i_33), .val (.int (i_20 + i_33)), .val (.int (((u0.toUInt32 >>> ((2 : Int32) &&& 31).toUInt32).toInt32) &&& (1 : Int32))), .val (.ref a_44), .val (.int (Int32.ofNat (kz + 4)))] [(.int (Int32.ofNat (kz + 4))), (.ref a_44)])) (fun TT HH tt kk => XS.iload HH hx rfl (hb hby at_60) rfl kk) ?_
  refine k_pure (g' := (mkF m 63 #[.val (.int u0), .val (.int v0), .val (.int w0), .val (.int x0), .val (.ref a_1), .val (.int i_20), .val (.int i_33), .val (.int (i_20 + i_33)), .val (.int (((u0.toUInt32 >>> ((2 : Int32) &&& 31).toUInt32).toInt32) &&& (1 : Int32))), .val (.ref a_44), .val (.int (Int32.ofNat (kz + 4)))] [(.int (4 : Int32)), (.int (Int32.ofNat (kz + 4))), (.ref a_44)])) (fun TT HH tt kk => XS.iconst HH hx rfl (hb hby at_62) kk) ?_
  refine k_pure (g' := (mkF m 64 #[.val (.int u0), .val (.int v0), .val (.int w0), .val (.int x0), .val (.ref a_1), .val (.int i_20), .val (.int i_33), .val (.int (i_20 + i_33)), .val (.int (((u0.toUInt32 >>> ((2 : Int32) &&& 31).toUInt32).toInt32) &&& (1 : Int32))), .val (.ref a_44), .val (.int (Int32.ofNat (kz + 4)))] [(.int ((Int32.ofNat (kz + 4)) - (4 : Int32))), (.ref a_44)])) (fun TT HH tt kk => XS.isub HH hx rfl (hb hby at_63) rfl kk) ?_
  rw [show Int32.ofNat (kz + 4) - (4 : Int32) = Int32.ofNat (kz) from u_sub 4 (by decide) (by omega) (by omega)]
  show Run p l e _ s m _ below meth c Z EL1 _ n0 NoB h_39 2 204 (mkF m 64 #[.val (.int u0), .val (.int v0), .val (.int w0), .val (.int x0), .val (.ref a_1), .val (.int i_20), .val (.int i_33), .val (.int (i_20 + i_33)), .val (.int (((u0.toUInt32 >>> ((2 : Int32) &&& 31).toUInt32).toInt32) &&& (1 : Int32))), .val (.ref a_44), .val (.int (Int32.ofNat (kz + 4)))] [(.int (Int32.ofNat (kz))), (.ref a_44)]) _
  refine k_pure (g' := (mkF m 66 #[.val (.int u0), .val (.int v0), .val (.int w0), .val (.int x0), .val (.ref a_1), .val (.int i_20), .val (.int i_33), .val (.int (i_20 + i_33)), .val (.int (((u0.toUInt32 >>> ((2 : Int32) &&& 31).toUInt32).toInt32) &&& (1 : Int32))), .val (.ref a_44), .val (.int (Int32.ofNat (kz + 4)))] [(.ref a_1), (.int (Int32.ofNat (kz))), (.ref a_44)])) (fun TT HH tt kk => XS.aload HH hx rfl (hb hby at_64) rfl rfl kk) ?_
  refine k_pure (g' := (mkF m 67 #[.val (.int u0), .val (.int v0), .val (.int w0), .val (.int x0), .val (.ref a_1), .val (.int i_20), .val (.int i_33), .val (.int (i_20 + i_33)), .val (.int (((u0.toUInt32 >>> ((2 : Int32) &&& 31).toUInt32).toInt32) &&& (1 : Int32))), .val (.ref a_44), .val (.int (Int32.ofNat (kz + 4)))] [(.int (0 : Int32)), (.ref a_1), (.int (Int32.ofNat (kz))), (.ref a_44)])) (fun TT HH tt kk => XS.iconst HH hx rfl (hb hby at_66) kk) ?_
  have F_51 : Arv Z h_39 a_1 k_3 .char (4 : Int32) [(.int i_18), (.int i_19), (.int i_31), (.int i_32)] (.int (0 : Int32)) := (F_35.keep K_46 nin0)
  refine k_aget hx (v := (.int i_18)) F_51 ⟨by decide, by decide⟩ rfl (Or.inr (Or.inr (Or.inl ⟨rfl, rfl⟩))) rfl rfl (hb hby at_67) ?_
  show Run p l e _ s m _ below meth c Z EL1 _ n0 NoB h_39 2 204 (mkF m 68 #[.val (.int u0), .val (.int v0), .val (.int w0), .val (.int x0), .val (.ref a_1), .val (.int i_20), .val (.int i_33), .val (.int (i_20 + i_33)), .val (.int (((u0.toUInt32 >>> ((2 : Int32) &&& 31).toUInt32).toInt32) &&& (1 : Int32))), .val (.ref a_44), .val (.int (Int32.ofNat (kz + 4)))] [(.int i_18), (.int (Int32.ofNat (kz))), (.ref a_44)]) _
  refine k_stC hx V_50 (idx_ok (by omega) (by omega)) (kz) (clampN (by omega)) (by simp only [List.length_set, List.nil_append, List.length_replicate]; omega) (by omega) (fun q => q) rfl rfl (hb hby at_68) ?_
  intro h_52 O_53 W_54 A_55
  have z_56 := W_54.size
  have V_57 : Arv Z h_52 a_44 k_45 .char (Int32.ofNat (kz + 4)) ((([] : List Value) ++ List.replicate (kz + 4) (Value.int (0 : Int32))).set (kz) (.int i_18)) (.int (0 : Int32)) := by rw [(u_nrc P_23.x.1 P_23.x.2)] at A_55; exact A_55
  show Run p l e _ s m _ below meth c Z EL1 _ n0 NoB h_52 2 204 (mkF m 69 #[.val (.int u0), .val (.int v0), .val (.int w0), .val (.int x0), .val (.ref a_1), .val (.int i_20), .val (.int i_33), .val (.int (i_20 + i_33)), .val (.int (((u0.toUInt32 >>> ((2 : Int32) &&& 31).toUInt32).toInt32) &&& (1 : Int32))), .val (.ref a_44), .val (.int (Int32.ofNat (kz + 4)))] []) _
  refine k_pure (g' := (mkF m 71 #[.val (.int u0), .val (.int v0), .val (.int w0), .val (.int x0), .val (.ref a_1), .val (.int i_20), .val (.int i_33), .val (.int (i_20 + i_33)), .val (.int (((u0.toUInt32 >>> ((2 : Int32) &&& 31).toUInt32).toInt32) &&& (1 : Int32))), .val (.ref a_44), .val (.int (Int32.ofNat (kz + 4)))] [(.ref a_44)])) (fun TT HH tt kk => XS.aload HH hx rfl (hb hby at_69) rfl rfl kk) ?_
  refine k_pure (g' := (mkF m 73 #[.val (.int u0), .val (.int v0), .val (.int w0), .val (.int x0), .val (.ref a_1), .val (.int i_20), .val (.int i_33), .val (.int (i_20 + i_33)), .val (.int (((u0.toUInt32 >>> ((2 : Int32) &&& 31).toUInt32).toInt32) &&& (1 : Int32))), .val (.ref a_44), .val (.int (Int32.ofNat (kz + 4)))] [(.int (Int32.ofNat (kz + 4))), (.ref a_44)])) (fun TT HH tt kk => XS.iload HH hx rfl (hb hby at_71) rfl kk) ?_
  refine k_pure (g' := (mkF m 74 #[.val (.int u0), .val (.int v0), .val (.int w0), .val (.int x0), .val (.ref a_1), .val (.int i_20), .val (.int i_33), .val (.int (i_20 + i_33)), .val (.int (((u0.toUInt32 >>> ((2 : Int32) &&& 31).toUInt32).toInt32) &&& (1 : Int32))), .val (.ref a_44), .val (.int (Int32.ofNat (kz + 4)))] [(.int (3 : Int32)), (.int (Int32.ofNat (kz + 4))), (.ref a_44)])) (fun TT HH tt kk => XS.iconst HH hx rfl (hb hby at_73) kk) ?_
  refine k_pure (g' := (mkF m 75 #[.val (.int u0), .val (.int v0), .val (.int w0), .val (.int x0), .val (.ref a_1), .val (.int i_20), .val (.int i_33), .val (.int (i_20 + i_33)), .val (.int (((u0.toUInt32 >>> ((2 : Int32) &&& 31).toUInt32).toInt32) &&& (1 : Int32))), .val (.ref a_44), .val (.int (Int32.ofNat (kz + 4)))] [(.int ((Int32.ofNat (kz + 4)) - (3 : Int32))), (.ref a_44)])) (fun TT HH tt kk => XS.isub HH hx rfl (hb hby at_74) rfl kk) ?_
  rw [show Int32.ofNat (kz + 4) - (3 : Int32) = Int32.ofNat (kz + 1) from u_sub 3 (by decide) (by omega) (by omega)]
  show Run p l e _ s m _ below meth c Z EL1 _ n0 NoB h_52 2 204 (mkF m 75 #[.val (.int u0), .val (.int v0), .val (.int w0), .val (.int x0), .val (.ref a_1), .val (.int i_20), .val (.int i_33), .val (.int (i_20 + i_33)), .val (.int (((u0.toUInt32 >>> ((2 : Int32) &&& 31).toUInt32).toInt32) &&& (1 : Int32))), .val (.ref a_44), .val (.int (Int32.ofNat (kz + 4)))] [(.int (Int32.ofNat (kz + 1))), (.ref a_44)]) _
  refine k_pure (g' := (mkF m 77 #[.val (.int u0), .val (.int v0), .val (.int w0), .val (.int x0), .val (.ref a_1), .val (.int i_20), .val (.int i_33), .val (.int (i_20 + i_33)), .val (.int (((u0.toUInt32 >>> ((2 : Int32) &&& 31).toUInt32).toInt32) &&& (1 : Int32))), .val (.ref a_44), .val (.int (Int32.ofNat (kz + 4)))] [(.ref a_1), (.int (Int32.ofNat (kz + 1))), (.ref a_44)])) (fun TT HH tt kk => XS.aload HH hx rfl (hb hby at_75) rfl rfl kk) ?_
  refine k_pure (g' := (mkF m 78 #[.val (.int u0), .val (.int v0), .val (.int w0), .val (.int x0), .val (.ref a_1), .val (.int i_20), .val (.int i_33), .val (.int (i_20 + i_33)), .val (.int (((u0.toUInt32 >>> ((2 : Int32) &&& 31).toUInt32).toInt32) &&& (1 : Int32))), .val (.ref a_44), .val (.int (Int32.ofNat (kz + 4)))] [(.int (1 : Int32)), (.ref a_1), (.int (Int32.ofNat (kz + 1))), (.ref a_44)])) (fun TT HH tt kk => XS.iconst HH hx rfl (hb hby at_77) kk) ?_
  have F_58 : Arv Z h_52 a_1 k_3 .char (4 : Int32) [(.int i_18), (.int i_19), (.int i_31), (.int i_32)] (.int (0 : Int32)) := (F_51.other W_54 (ne_ad (by omega)))
  refine k_aget hx (v := (.int i_19)) F_58 ⟨by decide, by decide⟩ rfl (Or.inr (Or.inr (Or.inl ⟨rfl, rfl⟩))) rfl rfl (hb hby at_78) ?_
  show Run p l e _ s m _ below meth c Z EL1 _ n0 NoB h_52 2 204 (mkF m 79 #[.val (.int u0), .val (.int v0), .val (.int w0), .val (.int x0), .val (.ref a_1), .val (.int i_20), .val (.int i_33), .val (.int (i_20 + i_33)), .val (.int (((u0.toUInt32 >>> ((2 : Int32) &&& 31).toUInt32).toInt32) &&& (1 : Int32))), .val (.ref a_44), .val (.int (Int32.ofNat (kz + 4)))] [(.int i_19), (.int (Int32.ofNat (kz + 1))), (.ref a_44)]) _
  refine k_stC hx V_57 (idx_ok (by omega) (by omega)) (kz + 1) (clampN (by omega)) (by simp only [List.length_set, List.nil_append, List.length_replicate]; omega) (by omega) (fun q => q) rfl rfl (hb hby at_79) ?_
  intro h_59 O_60 W_61 A_62
  have z_63 := W_61.size
  have V_64 : Arv Z h_59 a_44 k_45 .char (Int32.ofNat (kz + 4)) (((([] : List Value) ++ List.replicate (kz + 4) (Value.int (0 : Int32))).set (kz) (.int i_18)).set (kz + 1) (.int i_19)) (.int (0 : Int32)) := by rw [(u_nrc P_23.y.1 P_23.y.2)] at A_62; exact A_62
  show Run p l e _ s m _ below meth c Z EL1 _ n0 NoB h_59 2 204 (mkF m 80 #[.val (.int u0), .val (.int v0), .val (.int w0), .val (.int x0), .val (.ref a_1), .val (.int i_20), .val (.int i_33), .val (.int (i_20 + i_33)), .val (.int (((u0.toUInt32 >>> ((2 : Int32) &&& 31).toUInt32).toInt32) &&& (1 : Int32))), .val (.ref a_44), .val (.int (Int32.ofNat (kz + 4)))] []) _
  refine k_pure (g' := (mkF m 82 #[.val (.int u0), .val (.int v0), .val (.int w0), .val (.int x0), .val (.ref a_1), .val (.int i_20), .val (.int i_33), .val (.int (i_20 + i_33)), .val (.int (((u0.toUInt32 >>> ((2 : Int32) &&& 31).toUInt32).toInt32) &&& (1 : Int32))), .val (.ref a_44), .val (.int (Int32.ofNat (kz + 4)))] [(.ref a_44)])) (fun TT HH tt kk => XS.aload HH hx rfl (hb hby at_80) rfl rfl kk) ?_
  refine k_pure (g' := (mkF m 84 #[.val (.int u0), .val (.int v0), .val (.int w0), .val (.int x0), .val (.ref a_1), .val (.int i_20), .val (.int i_33), .val (.int (i_20 + i_33)), .val (.int (((u0.toUInt32 >>> ((2 : Int32) &&& 31).toUInt32).toInt32) &&& (1 : Int32))), .val (.ref a_44), .val (.int (Int32.ofNat (kz + 4)))] [(.int (Int32.ofNat (kz + 4))), (.ref a_44)])) (fun TT HH tt kk => XS.iload HH hx rfl (hb hby at_82) rfl kk) ?_
  refine k_pure (g' := (mkF m 85 #[.val (.int u0), .val (.int v0), .val (.int w0), .val (.int x0), .val (.ref a_1), .val (.int i_20), .val (.int i_33), .val (.int (i_20 + i_33)), .val (.int (((u0.toUInt32 >>> ((2 : Int32) &&& 31).toUInt32).toInt32) &&& (1 : Int32))), .val (.ref a_44), .val (.int (Int32.ofNat (kz + 4)))] [(.int (2 : Int32)), (.int (Int32.ofNat (kz + 4))), (.ref a_44)])) (fun TT HH tt kk => XS.iconst HH hx rfl (hb hby at_84) kk) ?_
  refine k_pure (g' := (mkF m 86 #[.val (.int u0), .val (.int v0), .val (.int w0), .val (.int x0), .val (.ref a_1), .val (.int i_20), .val (.int i_33), .val (.int (i_20 + i_33)), .val (.int (((u0.toUInt32 >>> ((2 : Int32) &&& 31).toUInt32).toInt32) &&& (1 : Int32))), .val (.ref a_44), .val (.int (Int32.ofNat (kz + 4)))] [(.int ((Int32.ofNat (kz + 4)) - (2 : Int32))), (.ref a_44)])) (fun TT HH tt kk => XS.isub HH hx rfl (hb hby at_85) rfl kk) ?_
  rw [show Int32.ofNat (kz + 4) - (2 : Int32) = Int32.ofNat (kz + 2) from u_sub 2 (by decide) (by omega) (by omega)]
  show Run p l e _ s m _ below meth c Z EL1 _ n0 NoB h_59 2 204 (mkF m 86 #[.val (.int u0), .val (.int v0), .val (.int w0), .val (.int x0), .val (.ref a_1), .val (.int i_20), .val (.int i_33), .val (.int (i_20 + i_33)), .val (.int (((u0.toUInt32 >>> ((2 : Int32) &&& 31).toUInt32).toInt32) &&& (1 : Int32))), .val (.ref a_44), .val (.int (Int32.ofNat (kz + 4)))] [(.int (Int32.ofNat (kz + 2))), (.ref a_44)]) _
  refine k_pure (g' := (mkF m 88 #[.val (.int u0), .val (.int v0), .val (.int w0), .val (.int x0), .val (.ref a_1), .val (.int i_20), .val (.int i_33), .val (.int (i_20 + i_33)), .val (.int (((u0.toUInt32 >>> ((2 : Int32) &&& 31).toUInt32).toInt32) &&& (1 : Int32))), .val (.ref a_44), .val (.int (Int32.ofNat (kz + 4)))] [(.ref a_1), (.int (Int32.ofNat (kz + 2))), (.ref a_44)])) (fun TT HH tt kk => XS.aload HH hx rfl (hb hby at_86) rfl rfl kk) ?_
  refine k_pure (g' := (mkF m 89 #[.val (.int u0), .val (.int v0), .val (.int w0), .val (.int x0), .val (.ref a_1), .val (.int i_20), .val (.int i_33), .val (.int (i_20 + i_33)), .val (.int (((u0.toUInt32 >>> ((2 : Int32) &&& 31).toUInt32).toInt32) &&& (1 : Int32))), .val (.ref a_44), .val (.int (Int32.ofNat (kz + 4)))] [(.int (2 : Int32)), (.ref a_1), (.int (Int32.ofNat (kz + 2))), (.ref a_44)])) (fun TT HH tt kk => XS.iconst HH hx rfl (hb hby at_88) kk) ?_
  have F_65 : Arv Z h_59 a_1 k_3 .char (4 : Int32) [(.int i_18), (.int i_19), (.int i_31), (.int i_32)] (.int (0 : Int32)) := (F_58.other W_61 (ne_ad (by omega)))
  refine k_aget hx (v := (.int i_31)) F_65 ⟨by decide, by decide⟩ rfl (Or.inr (Or.inr (Or.inl ⟨rfl, rfl⟩))) rfl rfl (hb hby at_89) ?_
  show Run p l e _ s m _ below meth c Z EL1 _ n0 NoB h_59 2 204 (mkF m 90 #[.val (.int u0), .val (.int v0), .val (.int w0), .val (.int x0), .val (.ref a_1), .val (.int i_20), .val (.int i_33), .val (.int (i_20 + i_33)), .val (.int (((u0.toUInt32 >>> ((2 : Int32) &&& 31).toUInt32).toInt32) &&& (1 : Int32))), .val (.ref a_44), .val (.int (Int32.ofNat (kz + 4)))] [(.int i_31), (.int (Int32.ofNat (kz + 2))), (.ref a_44)]) _
  refine k_stC hx V_64 (idx_ok (by omega) (by omega)) (kz + 2) (clampN (by omega)) (by simp only [List.length_set, List.nil_append, List.length_replicate]; omega) (by omega) (fun q => q) rfl rfl (hb hby at_90) ?_
  intro h_66 O_67 W_68 A_69
  have z_70 := W_68.size
  have V_71 : Arv Z h_66 a_44 k_45 .char (Int32.ofNat (kz + 4)) ((((([] : List Value) ++ List.replicate (kz + 4) (Value.int (0 : Int32))).set (kz) (.int i_18)).set (kz + 1) (.int i_19)).set (kz + 2) (.int i_31)) (.int (0 : Int32)) := by rw [(u_nrc P_36.x.1 P_36.x.2)] at A_69; exact A_69
  show Run p l e _ s m _ below meth c Z EL1 _ n0 NoB h_66 2 204 (mkF m 91 #[.val (.int u0), .val (.int v0), .val (.int w0), .val (.int x0), .val (.ref a_1), .val (.int i_20), .val (.int i_33), .val (.int (i_20 + i_33)), .val (.int (((u0.toUInt32 >>> ((2 : Int32) &&& 31).toUInt32).toInt32) &&& (1 : Int32))), .val (.ref a_44), .val (.int (Int32.ofNat (kz + 4)))] []) _
  refine k_pure (g' := (mkF m 93 #[.val (.int u0), .val (.int v0), .val (.int w0), .val (.int x0), .val (.ref a_1), .val (.int i_20), .val (.int i_33), .val (.int (i_20 + i_33)), .val (.int (((u0.toUInt32 >>> ((2 : Int32) &&& 31).toUInt32).toInt32) &&& (1 : Int32))), .val (.ref a_44), .val (.int (Int32.ofNat (kz + 4)))] [(.ref a_44)])) (fun TT HH tt kk => XS.aload HH hx rfl (hb hby at_91) rfl rfl kk) ?_
  refine k_pure (g' := (mkF m 95 #[.val (.int u0), .val (.int v0), .val (.int w0), .val (.int x0), .val (.ref a_1), .val (.int i_20), .val (.int i_33), .val (.int (i_20 + i_33)), .val (.int (((u0.toUInt32 >>> ((2 : Int32) &&& 31).toUInt32).toInt32) &&& (1 : Int32))), .val (.ref a_44), .val (.int (Int32.ofNat (kz + 4)))] [(.int (Int32.ofNat (kz + 4))), (.ref a_44)])) (fun TT HH tt kk => XS.iload HH hx rfl (hb hby at_93) rfl kk) ?_
  refine k_pure (g' := (mkF m 96 #[.val (.int u0), .val (.int v0), .val (.int w0), .val (.int x0), .val (.ref a_1), .val (.int i_20), .val (.int i_33), .val (.int (i_20 + i_33)), .val (.int (((u0.toUInt32 >>> ((2 : Int32) &&& 31).toUInt32).toInt32) &&& (1 : Int32))), .val (.ref a_44), .val (.int (Int32.ofNat (kz + 4)))] [(.int (1 : Int32)), (.int (Int32.ofNat (kz + 4))), (.ref a_44)])) (fun TT HH tt kk => XS.iconst HH hx rfl (hb hby at_95) kk) ?_
  refine k_pure (g' := (mkF m 97 #[.val (.int u0), .val (.int v0), .val (.int w0), .val (.int x0), .val (.ref a_1), .val (.int i_20), .val (.int i_33), .val (.int (i_20 + i_33)), .val (.int (((u0.toUInt32 >>> ((2 : Int32) &&& 31).toUInt32).toInt32) &&& (1 : Int32))), .val (.ref a_44), .val (.int (Int32.ofNat (kz + 4)))] [(.int ((Int32.ofNat (kz + 4)) - (1 : Int32))), (.ref a_44)])) (fun TT HH tt kk => XS.isub HH hx rfl (hb hby at_96) rfl kk) ?_
  rw [show Int32.ofNat (kz + 4) - (1 : Int32) = Int32.ofNat (kz + 3) from u_sub 1 (by decide) (by omega) (by omega)]
  show Run p l e _ s m _ below meth c Z EL1 _ n0 NoB h_66 2 204 (mkF m 97 #[.val (.int u0), .val (.int v0), .val (.int w0), .val (.int x0), .val (.ref a_1), .val (.int i_20), .val (.int i_33), .val (.int (i_20 + i_33)), .val (.int (((u0.toUInt32 >>> ((2 : Int32) &&& 31).toUInt32).toInt32) &&& (1 : Int32))), .val (.ref a_44), .val (.int (Int32.ofNat (kz + 4)))] [(.int (Int32.ofNat (kz + 3))), (.ref a_44)]) _
  refine k_pure (g' := (mkF m 99 #[.val (.int u0), .val (.int v0), .val (.int w0), .val (.int x0), .val (.ref a_1), .val (.int i_20), .val (.int i_33), .val (.int (i_20 + i_33)), .val (.int (((u0.toUInt32 >>> ((2 : Int32) &&& 31).toUInt32).toInt32) &&& (1 : Int32))), .val (.ref a_44), .val (.int (Int32.ofNat (kz + 4)))] [(.ref a_1), (.int (Int32.ofNat (kz + 3))), (.ref a_44)])) (fun TT HH tt kk => XS.aload HH hx rfl (hb hby at_97) rfl rfl kk) ?_
  refine k_pure (g' := (mkF m 100 #[.val (.int u0), .val (.int v0), .val (.int w0), .val (.int x0), .val (.ref a_1), .val (.int i_20), .val (.int i_33), .val (.int (i_20 + i_33)), .val (.int (((u0.toUInt32 >>> ((2 : Int32) &&& 31).toUInt32).toInt32) &&& (1 : Int32))), .val (.ref a_44), .val (.int (Int32.ofNat (kz + 4)))] [(.int (3 : Int32)), (.ref a_1), (.int (Int32.ofNat (kz + 3))), (.ref a_44)])) (fun TT HH tt kk => XS.iconst HH hx rfl (hb hby at_99) kk) ?_
  have F_72 : Arv Z h_66 a_1 k_3 .char (4 : Int32) [(.int i_18), (.int i_19), (.int i_31), (.int i_32)] (.int (0 : Int32)) := (F_65.other W_68 (ne_ad (by omega)))
  refine k_aget hx (v := (.int i_32)) F_72 ⟨by decide, by decide⟩ rfl (Or.inr (Or.inr (Or.inl ⟨rfl, rfl⟩))) rfl rfl (hb hby at_100) ?_
  show Run p l e _ s m _ below meth c Z EL1 _ n0 NoB h_66 2 204 (mkF m 101 #[.val (.int u0), .val (.int v0), .val (.int w0), .val (.int x0), .val (.ref a_1), .val (.int i_20), .val (.int i_33), .val (.int (i_20 + i_33)), .val (.int (((u0.toUInt32 >>> ((2 : Int32) &&& 31).toUInt32).toInt32) &&& (1 : Int32))), .val (.ref a_44), .val (.int (Int32.ofNat (kz + 4)))] [(.int i_32), (.int (Int32.ofNat (kz + 3))), (.ref a_44)]) _
  refine k_stC hx V_71 (idx_ok (by omega) (by omega)) (kz + 3) (clampN (by omega)) (by simp only [List.length_set, List.nil_append, List.length_replicate]; omega) (by omega) (fun q => q) rfl rfl (hb hby at_101) ?_
  intro h_73 O_74 W_75 A_76
  have z_77 := W_75.size
  have V_78 : Arv Z h_73 a_44 k_45 .char (Int32.ofNat (kz + 4)) (((((([] : List Value) ++ List.replicate (kz + 4) (Value.int (0 : Int32))).set (kz) (.int i_18)).set (kz + 1) (.int i_19)).set (kz + 2) (.int i_31)).set (kz + 3) (.int i_32)) (.int (0 : Int32)) := by rw [(u_nrc P_36.y.1 P_36.y.2)] at A_76; exact A_76
  show Run p l e _ s m _ below meth c Z EL1 _ n0 NoB h_73 2 204 (mkF m 102 #[.val (.int u0), .val (.int v0), .val (.int w0), .val (.int x0), .val (.ref a_1), .val (.int i_20), .val (.int i_33), .val (.int (i_20 + i_33)), .val (.int (((u0.toUInt32 >>> ((2 : Int32) &&& 31).toUInt32).toInt32) &&& (1 : Int32))), .val (.ref a_44), .val (.int (Int32.ofNat (kz + 4)))] []) _
  have h4 := rng4 P_23.x P_23.y P_36.x P_36.y
  have V_79 : Arv Z h_73 a_44 k_45 .char (Int32.ofNat (bigL kz i_18 i_19 i_31 i_32).length) ((bigL kz i_18 i_19 i_31 i_32).map Value.int) (.int (0 : Int32)) := by rw [big_len, ← big_eq]; exact V_78
  have ok4 : Ok8 4 [i_18, i_19, i_31, i_32] (i_20.toInt.toNat + i_33.toInt.toNat) := P_23.ok (P_36.ok (show Ok8 0 [] 0 from ⟨rfl, rfl⟩) rfl) (by omega)
  have okB : Ok8 (4 + kz) (bigL kz i_18 i_19 i_31 i_32) (i_20.toInt.toNat + i_33.toInt.toNat + kz) := ok4.rep kz
  refine k_newO hx (wT 11 rfl) (wT 12 rfl) (wT 13 rfl) rfl (hb hby at_102) (by decide) (by decide) ?_
  intro h_81 a_80 g_87 O_82 E_83 A_84 D_85 U_86
  have z_88 := E_83.1
  have lt_89 : @LT.lt Nat _ a_80 (Array.size h_81) := A_84.lt
  show Run p l e _ s m _ below meth c Z EL1 _ n0 NoB h_81 3 208 (mkF m 105 #[.val (.int u0), .val (.int v0), .val (.int w0), .val (.int x0), .val (.ref a_1), .val (.int i_20), .val (.int i_33), .val (.int (i_20 + i_33)), .val (.int (((u0.toUInt32 >>> ((2 : Int32) &&& 31).toUInt32).toInt32) &&& (1 : Int32))), .val (.ref a_44), .val (.int (Int32.ofNat (kz + 4)))] [(.ref a_80)]) _
  refine k_pure (g' := (mkF m 106 #[.val (.int u0), .val (.int v0), .val (.int w0), .val (.int x0), .val (.ref a_1), .val (.int i_20), .val (.int i_33), .val (.int (i_20 + i_33)), .val (.int (((u0.toUInt32 >>> ((2 : Int32) &&& 31).toUInt32).toInt32) &&& (1 : Int32))), .val (.ref a_44), .val (.int (Int32.ofNat (kz + 4)))] [(.ref a_80), (.ref a_80)])) (fun TT HH tt kk => XS.dup HH hx rfl (hb hby at_105) rfl rfl kk) ?_
  refine k_pure (g' := (mkF m 108 #[.val (.int u0), .val (.int v0), .val (.int w0), .val (.int x0), .val (.ref a_1), .val (.int i_20), .val (.int i_33), .val (.int (i_20 + i_33)), .val (.int (((u0.toUInt32 >>> ((2 : Int32) &&& 31).toUInt32).toInt32) &&& (1 : Int32))), .val (.ref a_44), .val (.int (Int32.ofNat (kz + 4)))] [(.ref a_1), (.ref a_80), (.ref a_80)])) (fun TT HH tt kk => XS.aload HH hx rfl (hb hby at_106) rfl rfl kk) ?_
  have F_90 : Arv Z h_81 a_1 k_3 .char (4 : Int32) [(.int i_18), (.int i_19), (.int i_31), (.int i_32)] (.int (0 : Int32)) := ((F_72.other W_75 (ne_ad (by omega))).ext E_83)
  refine k_callI hx (y := (⟨"java/lang/String", "<init>", "([C)V"⟩ : MethodName)) rfl (wT 14 rfl) (wT 15 rfl) (wT 16 rfl) (by decide) (W := 1) (a := a_80) (argsL := [(.ref a_1)]) (rest := [(.ref a_80)]) (pay_newX (W := 1) hX hU O_82 (cs := [i_18, i_19, i_31, i_32]) A_84 (D_85 (Or.inr (wT 58 rfl)) (ty := (.array .byte)) (by decide)) (D_85 (Or.inr (wT 56 rfl)) (ty := .byte) (by decide)) F_90 (by simp) (by simp) h4 (by omega) (by omega) (by decide) (by decide)) rfl (by rw [hml]; rfl) (lenOf pd__28__5b_C_29_V rfl) rfl (by show 2 * 0 + _ ≤ _; exact Nat.le_of_eq rfl) (hb hby at_108) (by decide) (by decide) ?_
  intro v_91 h_92 bk_93 O_94 z_95 Q_96
  obtain ⟨rfl, rfl, K_97, a_98, k_99, ge_100, S_101⟩ := Q_96
  have lt_102 : @LT.lt Nat _ a_80 (Array.size h_92) := S_101.lt1
  have lt_103 : @LT.lt Nat _ a_98 (Array.size h_92) := S_101.lt2
  have ge_104 : @LE.le Nat _ (Array.size h_81) a_98 := ge_100
  show Run p l e _ s m _ below meth c Z EL1 _ n0 NoB h_92 5 808 (mkF m 111 #[.val (.int u0), .val (.int v0), .val (.int w0), .val (.int x0), .val (.ref a_1), .val (.int i_20), .val (.int i_33), .val (.int (i_20 + i_33)), .val (.int (((u0.toUInt32 >>> ((2 : Int32) &&& 31).toUInt32).toInt32) &&& (1 : Int32))), .val (.ref a_44), .val (.int (Int32.ofNat (kz + 4)))] [(.ref a_80)]) _
  refine k_ldc0 rfl hx (wT 59 rfl) hSA rfl (hb hby at_111) (n := 32) (by decide +kernel) (by decide) (by decide) (by decide) ?_
  intro h_105 a_106 O_107 E_108
  have z_109 := E_108.1
  show Run p l e _ s m _ below meth c Z EL1 _ n0 NoB h_105 7 844 (mkF m 113 #[.val (.int u0), .val (.int v0), .val (.int w0), .val (.int x0), .val (.ref a_1), .val (.int i_20), .val (.int i_33), .val (.int (i_20 + i_33)), .val (.int (((u0.toUInt32 >>> ((2 : Int32) &&& 31).toUInt32).toInt32) &&& (1 : Int32))), .val (.ref a_44), .val (.int (Int32.ofNat (kz + 4)))] [(.ref a_106), (.ref a_80)]) _
  have F_110 : StrX Z h_105 a_80 a_98 k_99 [i_18, i_19, i_31, i_32] := (S_101.ext E_108)
  refine k_callS hx (y := (⟨"com/example/eirene/eirene/KeySpace", "checkName", "(Ljava/lang/String;Ljava/lang/String;)V"⟩ : MethodName)) (wT 62 rfl) (wT 63 rfl) (wT 64 rfl) (wT 65 rfl) (by decide) (W := 0) (argsL := [(.ref a_80), (.ref a_106)]) (rest := []) (Pays.of_met (rm_ckn l Z a0 G1 G3 hX hU n0 h_105 O_107 a_80 a_98 k_99 [i_18, i_19, i_31, i_32] a_106 (i_20.toInt.toNat + i_33.toInt.toNat) 4 F_110 ok4 (by omega) (by simp) (by simp) []) (wT 65 rfl) (wT 64 rfl) (by decide) (by decide)) rfl (by rw [hml]; rfl) (lenOf pd__28_Ljava_2f_lang_2f_String_3b_Ljava_2f_lang_2f_String_3b__29_V rfl) rfl (by show 2 * 0 + _ ≤ _; exact Nat.le_of_eq rfl) (hb hby at_113) (by decide) (by decide) ?_
  intro v_111 h_112 bk_113 O_114 z_115 Q_116
  obtain ⟨rfl, rfl, rfl⟩ := Q_116
  show Run p l e _ s m _ below meth c Z EL1 _ n0 NoB h_105 7 844 (mkF m 116 #[.val (.int u0), .val (.int v0), .val (.int w0), .val (.int x0), .val (.ref a_1), .val (.int i_20), .val (.int i_33), .val (.int (i_20 + i_33)), .val (.int (((u0.toUInt32 >>> ((2 : Int32) &&& 31).toUInt32).toInt32) &&& (1 : Int32))), .val (.ref a_44), .val (.int (Int32.ofNat (kz + 4)))] []) _
  refine k_newO hx (wT 11 rfl) (wT 12 rfl) (wT 13 rfl) rfl (hb hby at_116) (by decide) (by decide) ?_
  intro h_118 a_117 g_124 O_119 E_120 A_121 D_122 U_123
  have z_125 := E_120.1
  have lt_126 : @LT.lt Nat _ a_117 (Array.size h_118) := A_121.lt
  show Run p l e _ s m _ below meth c Z EL1 _ n0 NoB h_118 8 848 (mkF m 119 #[.val (.int u0), .val (.int v0), .val (.int w0), .val (.int x0), .val (.ref a_1), .val (.int i_20), .val (.int i_33), .val (.int (i_20 + i_33)), .val (.int (((u0.toUInt32 >>> ((2 : Int32) &&& 31).toUInt32).toInt32) &&& (1 : Int32))), .val (.ref a_44), .val (.int (Int32.ofNat (kz + 4)))] [(.ref a_117)]) _
  refine k_pure (g' := (mkF m 120 #[.val (.int u0), .val (.int v0), .val (.int w0), .val (.int x0), .val (.ref a_1), .val (.int i_20), .val (.int i_33), .val (.int (i_20 + i_33)), .val (.int (((u0.toUInt32 >>> ((2 : Int32) &&& 31).toUInt32).toInt32) &&& (1 : Int32))), .val (.ref a_44), .val (.int (Int32.ofNat (kz + 4)))] [(.ref a_117), (.ref a_117)])) (fun TT HH tt kk => XS.dup HH hx rfl (hb hby at_119) rfl rfl kk) ?_
  refine k_pure (g' := (mkF m 122 #[.val (.int u0), .val (.int v0), .val (.int w0), .val (.int x0), .val (.ref a_1), .val (.int i_20), .val (.int i_33), .val (.int (i_20 + i_33)), .val (.int (((u0.toUInt32 >>> ((2 : Int32) &&& 31).toUInt32).toInt32) &&& (1 : Int32))), .val (.ref a_44), .val (.int (Int32.ofNat (kz + 4)))] [(.ref a_44), (.ref a_117), (.ref a_117)])) (fun TT HH tt kk => XS.aload HH hx rfl (hb hby at_120) rfl rfl kk) ?_
  have F_127 : Arv Z h_118 a_44 k_45 .char (Int32.ofNat (bigL kz i_18 i_19 i_31 i_32).length) ((bigL kz i_18 i_19 i_31 i_32).map Value.int) (.int (0 : Int32)) := ((((V_79.ext E_83).keep K_97 (ninS (ne_ad (by omega)) nin0)).ext E_108).ext E_120)
  refine k_callI hx (y := (⟨"java/lang/String", "<init>", "([C)V"⟩ : MethodName)) rfl (wT 14 rfl) (wT 15 rfl) (wT 16 rfl) (by decide) (W := 1) (a := a_117) (argsL := [(.ref a_44)]) (rest := [(.ref a_117)]) (pay_newX (W := 1) hX hU O_119 (cs := (bigL kz i_18 i_19 i_31 i_32)) A_121 (D_122 (Or.inr (wT 58 rfl)) (ty := (.array .byte)) (by decide)) (D_122 (Or.inr (wT 56 rfl)) (ty := .byte) (by decide)) F_127 (by rw [big_len]; omega) (by rw [big_len]; omega) (big_rng h4) (by omega) (by omega) (by decide) (by decide)) rfl (by rw [hml]; rfl) (lenOf pd__28__5b_C_29_V rfl) rfl (by show 2 * 0 + _ ≤ _; exact Nat.le_of_eq rfl) (hb hby at_122) (by decide) (by decide) ?_
  intro v_128 h_129 bk_130 O_131 z_132 Q_133
  obtain ⟨rfl, rfl, K_134, a_135, k_136, ge_137, S_138⟩ := Q_133
  have lt_139 : @LT.lt Nat _ a_117 (Array.size h_129) := S_138.lt1
  have lt_140 : @LT.lt Nat _ a_135 (Array.size h_129) := S_138.lt2
  have ge_141 : @LE.le Nat _ (Array.size h_118) a_135 := ge_137
  show Run p l e _ s m _ below meth c Z EL1 _ n0 NoB h_129 10 1448 (mkF m 125 #[.val (.int u0), .val (.int v0), .val (.int w0), .val (.int x0), .val (.ref a_1), .val (.int i_20), .val (.int i_33), .val (.int (i_20 + i_33)), .val (.int (((u0.toUInt32 >>> ((2 : Int32) &&& 31).toUInt32).toInt32) &&& (1 : Int32))), .val (.ref a_44), .val (.int (Int32.ofNat (kz + 4)))] [(.ref a_117)]) _
  refine k_ldc0 rfl hx (wT 59 rfl) hSA rfl (hb hby at_125) (n := 32) (by decide +kernel) (by decide) (by decide) (by decide) ?_
  intro h_142 a_143 O_144 E_145
  have z_146 := E_145.1
  show Run p l e _ s m _ below meth c Z EL1 _ n0 NoB h_142 12 1484 (mkF m 127 #[.val (.int u0), .val (.int v0), .val (.int w0), .val (.int x0), .val (.ref a_1), .val (.int i_20), .val (.int i_33), .val (.int (i_20 + i_33)), .val (.int (((u0.toUInt32 >>> ((2 : Int32) &&& 31).toUInt32).toInt32) &&& (1 : Int32))), .val (.ref a_44), .val (.int (Int32.ofNat (kz + 4)))] [(.ref a_143), (.ref a_117)]) _
  have F_147 : StrX Z h_142 a_117 a_135 k_136 (bigL kz i_18 i_19 i_31 i_32) := (S_138.ext E_145)
  refine k_callS hx (y := (⟨"com/example/eirene/eirene/KeySpace", "checkName", "(Ljava/lang/String;Ljava/lang/String;)V"⟩ : MethodName)) (wT 62 rfl) (wT 63 rfl) (wT 64 rfl) (wT 65 rfl) (by decide) (W := 0) (argsL := [(.ref a_117), (.ref a_143)]) (rest := []) (Pays.of_met (rm_ckn l Z a0 G1 G3 hX hU n0 h_142 O_144 a_117 a_135 k_136 (bigL kz i_18 i_19 i_31 i_32) a_143 ((i_20.toInt.toNat + i_33.toInt.toNat) + kz) (4 + kz) F_147 okB (by omega) (by rw [big_len]; omega) (by rw [big_len]; omega) []) (wT 65 rfl) (wT 64 rfl) (by decide) (by decide)) rfl (by rw [hml]; rfl) (lenOf pd__28_Ljava_2f_lang_2f_String_3b_Ljava_2f_lang_2f_String_3b__29_V rfl) rfl (by show 2 * 0 + _ ≤ _; exact Nat.le_of_eq rfl) (hb hby at_127) (by decide) (by decide) ?_
  intro v_148 h_149 bk_150 O_151 z_152 Q_153
  obtain ⟨rfl, rfl, rfl⟩ := Q_153
  show Run p l e _ s m _ below meth c Z EL1 _ n0 NoB h_142 12 1484 (mkF m 130 #[.val (.int u0), .val (.int v0), .val (.int w0), .val (.int x0), .val (.ref a_1), .val (.int i_20), .val (.int i_33), .val (.int (i_20 + i_33)), .val (.int (((u0.toUInt32 >>> ((2 : Int32) &&& 31).toUInt32).toInt32) &&& (1 : Int32))), .val (.ref a_44), .val (.int (Int32.ofNat (kz + 4)))] []) _
  refine k_pure (g' := (mkF m 131 #[.val (.int u0), .val (.int v0), .val (.int w0), .val (.int x0), .val (.ref a_1), .val (.int i_20), .val (.int i_33), .val (.int (i_20 + i_33)), .val (.int (((u0.toUInt32 >>> ((2 : Int32) &&& 31).toUInt32).toInt32) &&& (1 : Int32))), .val (.ref a_44), .val (.int (Int32.ofNat (kz + 4)))] [(.int u0)])) (fun TT HH tt kk => XS.iloadN HH hx rfl (hb hby at_130) rfl kk) ?_
  refine k_pure (g' := (mkF m 132 #[.val (.int u0), .val (.int v0), .val (.int w0), .val (.int x0), .val (.ref a_1), .val (.int i_20), .val (.int i_33), .val (.int (i_20 + i_33)), .val (.int (((u0.toUInt32 >>> ((2 : Int32) &&& 31).toUInt32).toInt32) &&& (1 : Int32))), .val (.ref a_44), .val (.int (Int32.ofNat (kz + 4)))] [(.int (3 : Int32)), (.int u0)])) (fun TT HH tt kk => XS.iconst HH hx rfl (hb hby at_131) kk) ?_
  refine k_pure (g' := (mkF m 133 #[.val (.int u0), .val (.int v0), .val (.int w0), .val (.int x0), .val (.ref a_1), .val (.int i_20), .val (.int i_33), .val (.int (i_20 + i_33)), .val (.int (((u0.toUInt32 >>> ((2 : Int32) &&& 31).toUInt32).toInt32) &&& (1 : Int32))), .val (.ref a_44), .val (.int (Int32.ofNat (kz + 4)))] [(.int (u0 &&& (3 : Int32)))])) (fun TT HH tt kk => XS.iand HH hx rfl (hb hby at_132) rfl kk) ?_
  refine k_pure (g' := (mkF m 134 #[.val (.int u0), .val (.int v0), .val (.int w0), .val (.int x0), .val (.ref a_1), .val (.int i_20), .val (.int i_33), .val (.int (i_20 + i_33)), .val (.int (((u0.toUInt32 >>> ((2 : Int32) &&& 31).toUInt32).toInt32) &&& (1 : Int32))), .val (.ref a_44), .val (.int (Int32.ofNat (kz + 4)))] [(.int (3 : Int32)), (.int (u0 &&& (3 : Int32)))])) (fun TT HH tt kk => XS.iconst HH hx rfl (hb hby at_133) kk) ?_
  by_cases c_154 : (u0 &&& (3 : Int32)) = (3 : Int32)
  · refine k_pure (g' := (mkF m 149 #[.val (.int u0), .val (.int v0), .val (.int w0), .val (.int x0), .val (.ref a_1), .val (.int i_20), .val (.int i_33), .val (.int (i_20 + i_33)), .val (.int (((u0.toUInt32 >>> ((2 : Int32) &&& 31).toUInt32).toInt32) &&& (1 : Int32))), .val (.ref a_44), .val (.int (Int32.ofNat (kz + 4)))] [])) (fun TT HH tt kk => XS.icmpYes HH hx rfl (pc0 := 134) (pc' := 149) rfl (hb hby at_134) rfl (teq c_154).1 (by decide) (by decide) kk) ?_
    refine k_pure (g' := (mkF m 150 #[.val (.int u0), .val (.int v0), .val (.int w0), .val (.int x0), .val (.ref a_1), .val (.int i_20), .val (.int i_33), .val (.int (i_20 + i_33)), .val (.int (((u0.toUInt32 >>> ((2 : Int32) &&& 31).toUInt32).toInt32) &&& (1 : Int32))), .val (.ref a_44), .val (.int (Int32.ofNat (kz + 4)))] [(.int (1 : Int32))])) (fun TT HH tt kk => XS.iconst HH hx rfl (hb hby at_149) kk) ?_
    exact k_retN hx hlk hret (by simp) (hb hby at_150) (by decide) (by decide) ⟨rfl, rfl, (((((((((((((((Keep.refl _ _).ext E_6).trans K_21 (kkS (Or.inr (by omega)) kk0)).trans K_34 (kkS (Or.inr (by omega)) kk0)).trans K_46 kk0).wr W_54 (Or.inr (by omega))).wr W_61 (Or.inr (by omega))).wr W_68 (Or.inr (by omega))).wr W_75 (Or.inr (by omega))).ext E_83).trans K_97 (kkS (Or.inr (by omega)) kk0)).ext E_108).ext E_120).trans K_134 (kkS (Or.inr (by omega)) kk0)).ext E_145)⟩
  · refine k_pure (g' := (mkF m 137 #[.val (.int u0), .val (.int v0), .val (.int w0), .val (.int x0), .val (.ref a_1), .val (.int i_20), .val (.int i_33), .val (.int (i_20 + i_33)), .val (.int (((u0.toUInt32 >>> ((2 : Int32) &&& 31).toUInt32).toInt32) &&& (1 : Int32))), .val (.ref a_44), .val (.int (Int32.ofNat (kz + 4)))] [])) (fun TT HH tt kk => XS.icmpNo HH hx rfl (hb hby at_134) rfl (feq c_154).1 kk) ?_
    obtain ⟨nv, hv1, ok1⟩ := P_23.one c_154
    refine k_pure (g' := (mkF m 139 #[.val (.int u0), .val (.int v0), .val (.int w0), .val (.int x0), .val (.ref a_1), .val (.int i_20), .val (.int i_33), .val (.int (i_20 + i_33)), .val (.int (((u0.toUInt32 >>> ((2 : Int32) &&& 31).toUInt32).toInt32) &&& (1 : Int32))), .val (.ref a_44), .val (.int (Int32.ofNat (kz + 4)))] [(.ref a_1)])) (fun TT HH tt kk => XS.aload HH hx rfl (hb hby at_137) rfl rfl kk) ?_
    refine k_pure (g' := (mkF m 140 #[.val (.int u0), .val (.int v0), .val (.int w0), .val (.int x0), .val (.ref a_1), .val (.int i_20), .val (.int i_33), .val (.int (i_20 + i_33)), .val (.int (((u0.toUInt32 >>> ((2 : Int32) &&& 31).toUInt32).toInt32) &&& (1 : Int32))), .val (.ref a_44), .val (.int (Int32.ofNat (kz + 4)))] [(.int (0 : Int32)), (.ref a_1)])) (fun TT HH tt kk => XS.iconst HH hx rfl (hb hby at_139) kk) ?_
    have F_155 : Arv Z h_142 a_1 k_3 .char (4 : Int32) [(.int i_18), (.int i_19), (.int i_31), (.int i_32)] (.int (0 : Int32)) := (((((F_90.keep K_97 (ninS (ne_ad (by omega)) nin0)).ext E_108).ext E_120).keep K_134 (ninS (ne_ad (by omega)) nin0)).ext E_145)
    refine k_aget hx (v := (.int i_18)) F_155 ⟨by decide, by decide⟩ rfl (Or.inr (Or.inr (Or.inl ⟨rfl, rfl⟩))) rfl rfl (hb hby at_140) ?_
    show Run p l e _ s m _ below meth c Z EL1 _ n0 NoB h_142 12 1484 (mkF m 141 #[.val (.int u0), .val (.int v0), .val (.int w0), .val (.int x0), .val (.ref a_1), .val (.int i_20), .val (.int i_33), .val (.int (i_20 + i_33)), .val (.int (((u0.toUInt32 >>> ((2 : Int32) &&& 31).toUInt32).toInt32) &&& (1 : Int32))), .val (.ref a_44), .val (.int (Int32.ofNat (kz + 4)))] [(.int i_18)]) _
    refine k_callS hx (y := (⟨"java/lang/String", "valueOf", "(C)Ljava/lang/String;"⟩ : MethodName)) (wT 120 rfl) (wT 121 rfl) (wT 13 rfl) (wT 122 rfl) (by decide) (W := 0) (argsL := [(.int i_18)]) (rest := []) (Pays.of_met (rm_vof l Z a0 G1 G3 hX hU n0 h_142 O_144 i_18 P_23.x []) (wT 122 rfl) (wT 13 rfl) (by decide) (by decide)) rfl (by rw [hml]; rfl) (lenOf pd__28_C_29_Ljava_2f_lang_2f_String_3b_ rfl) rfl (by show 2 * 0 + _ ≤ _; exact Nat.le_of_eq rfl) (hb hby at_141) (by decide) (by decide) ?_
    intro v_156 h_157 bk_158 O_159 z_160 Q_161
    obtain ⟨a_162, a_163, k_164, rfl, rfl, K_165, F_166⟩ := Q_161
    have lt_167 : @LT.lt Nat _ a_162 (Array.size h_157) := F_166.lt1
    have lt_168 : @LT.lt Nat _ a_163 (Array.size h_157) := F_166.lt2
    show Run p l e _ s m _ below meth c Z EL1 _ n0 NoB h_157 14 1490 (mkF m 144 #[.val (.int u0), .val (.int v0), .val (.int w0), .val (.int x0), .val (.ref a_1), .val (.int i_20), .val (.int i_33), .val (.int (i_20 + i_33)), .val (.int (((u0.toUInt32 >>> ((2 : Int32) &&& 31).toUInt32).toInt32) &&& (1 : Int32))), .val (.ref a_44), .val (.int (Int32.ofNat (kz + 4)))] [(.ref a_162)]) _
    refine k_ldc0 rfl hx (wT 59 rfl) hSA rfl (hb hby at_144) (n := 32) (by decide +kernel) (by decide) (by decide) (by decide) ?_
    intro h_169 a_170 O_171 E_172
    have z_173 := E_172.1
    show Run p l e _ s m _ below meth c Z EL1 _ n0 NoB h_169 16 1526 (mkF m 146 #[.val (.int u0), .val (.int v0), .val (.int w0), .val (.int x0), .val (.ref a_1), .val (.int i_20), .val (.int i_33), .val (.int (i_20 + i_33)), .val (.int (((u0.toUInt32 >>> ((2 : Int32) &&& 31).toUInt32).toInt32) &&& (1 : Int32))), .val (.ref a_44), .val (.int (Int32.ofNat (kz + 4)))] [(.ref a_170), (.ref a_162)]) _
    have F_174 : StrX Z h_169 a_162 a_163 k_164 [i_18] := (F_166.ext E_172)
    refine k_callS hx (y := (⟨"com/example/eirene/eirene/KeySpace", "checkName", "(Ljava/lang/String;Ljava/lang/String;)V"⟩ : MethodName)) (wT 62 rfl) (wT 63 rfl) (wT 64 rfl) (wT 65 rfl) (by decide) (W := 0) (argsL := [(.ref a_162), (.ref a_170)]) (rest := []) (Pays.of_met (rm_ckn l Z a0 G1 G3 hX hU n0 h_169 O_171 a_162 a_163 k_164 [i_18] a_170 nv 1 F_174 ok1 hv1 (by simp) (by simp) []) (wT 65 rfl) (wT 64 rfl) (by decide) (by decide)) rfl (by rw [hml]; rfl) (lenOf pd__28_Ljava_2f_lang_2f_String_3b_Ljava_2f_lang_2f_String_3b__29_V rfl) rfl (by show 2 * 0 + _ ≤ _; exact Nat.le_of_eq rfl) (hb hby at_146) (by decide) (by decide) ?_
    intro v_175 h_176 bk_177 O_178 z_179 Q_180
    obtain ⟨rfl, rfl, rfl⟩ := Q_180
    show Run p l e _ s m _ below meth c Z EL1 _ n0 NoB h_169 16 1526 (mkF m 149 #[.val (.int u0), .val (.int v0), .val (.int w0), .val (.int x0), .val (.ref a_1), .val (.int i_20), .val (.int i_33), .val (.int (i_20 + i_33)), .val (.int (((u0.toUInt32 >>> ((2 : Int32) &&& 31).toUInt32).toInt32) &&& (1 : Int32))), .val (.ref a_44), .val (.int (Int32.ofNat (kz + 4)))] []) _
    refine k_pure (g' := (mkF m 150 #[.val (.int u0), .val (.int v0), .val (.int w0), .val (.int x0), .val (.ref a_1), .val (.int i_20), .val (.int i_33), .val (.int (i_20 + i_33)), .val (.int (((u0.toUInt32 >>> ((2 : Int32) &&& 31).toUInt32).toInt32) &&& (1 : Int32))), .val (.ref a_44), .val (.int (Int32.ofNat (kz + 4)))] [(.int (1 : Int32))])) (fun TT HH tt kk => XS.iconst HH hx rfl (hb hby at_149) kk) ?_
    exact k_retN hx hlk hret (by simp) (hb hby at_150) (by decide) (by decide) ⟨rfl, rfl, (((((((((((((((((Keep.refl _ _).ext E_6).trans K_21 (kkS (Or.inr (by omega)) kk0)).trans K_34 (kkS (Or.inr (by omega)) kk0)).trans K_46 kk0).wr W_54 (Or.inr (by omega))).wr W_61 (Or.inr (by omega))).wr W_68 (Or.inr (by omega))).wr W_75 (Or.inr (by omega))).ext E_83).trans K_97 (kkS (Or.inr (by omega)) kk0)).ext E_108).ext E_120).trans K_134 (kkS (Or.inr (by omega)) kk0)).ext E_145).trans K_165 kk0).ext E_172)⟩
set_option maxRecDepth 65536 in
set_option maxHeartbeats 40000000 in
theorem comes_1 {Post : Tables → Env → Array Value → State → Outcome → State → Prop} (hpost : ∀ tb e args s v u, (limb_1_1.after args s (.returned v) u = true ∧ limb_1_2.after args s (.returned v) u = true ∧ True) → FramedW s (.returned v) u (Jvm.fieldLocs frame_1_writes args s ++ Jvm.arrayLocs frame_1_arrays args s ++ Jvm.staticLocs frame_1_statics s) 32 2752 → Post tb e args s (.returned v) u) :
    ArmFor flags0 classFile x code maxLocals ret World_1 tables_1 room_1 Calls_1 rest_1 Pre_1 Post := by
  intro l hfl _ _ p e ha hc hk s m args below hf hA hF happ hP
  obtain ⟨hcalls, hrest, hpre⟩ := hP
  obtain ⟨-, -, -, hnamed, -, -, -, hat⟩ := (Spec.applies_iff hf).mp happ
  obtain ⟨hg, hn⟩ := and_e (Cond.before_iff.mp (show (Jvm.Cond.and given_1 narrow_1).before args s = true from hpre))
  obtain ⟨q0, r0⟩ := and_e hg
  obtain ⟨q1, r1⟩ := and_e r0
  obtain ⟨q2, r2⟩ := and_e r1
  obtain ⟨q3, r3⟩ := and_e r2
  obtain ⟨w0, w1, w2, w3, rfl⟩ : ∃ w0 w1 w2 w3 : Value, args = #[w0, w1, w2, w3] := by
    have hs : args.size = 4 := by simpa [Cond.value, given_1] using q0
    obtain ⟨L⟩ := args
    match L, hs with
    | [w0, w1, w2, w3], _ => exact ⟨w0, w1, w2, w3, rfl⟩
  have hw := fun d (hd : d ∈ tables_1) => atoms_spec (ws := Jvm.Cond.code x code maxLocals ret :: tables_1) hat d (List.mem_cons_of_mem _ hd)
  have wT : ∀ (i : Nat) {d : Jvm.Cond}, tables_1[i]? = some d → d.before _ s = true := fun i d h => hw d (List.mem_of_getElem? h)
  obtain ⟨hsets, hown0⟩ := atoms_of _ (rest_1_c_eq ▸ (show rest_1_c.before _ s = true from hrest))
  obtain ⟨i0, e0⟩ := is_v q1
  obtain rfl : w0 = (.int i0) := Option.some.inj e0
  obtain ⟨i1, e1⟩ := is_v q2
  obtain rfl : w1 = (.int i1) := Option.some.inj e1
  obtain ⟨i2, e2⟩ := is_v q3
  obtain rfl : w2 = (.int i2) := Option.some.inj e2
  obtain ⟨i3, e3⟩ := is_v r3
  obtain rfl : w3 = (.int i3) := Option.some.inj e3
  obtain ⟨G1, eG1⟩ := is_v (Cond.before_iff.mp (hsets _ (List.mem_of_getElem? (i := 1) rfl)))
  have S1 : Sta s s.heap "java/lang/String" "COMPACT_STRINGS" "Z" (.int G1) := Sta.start eG1 (Or.inl (hsets _ (List.mem_of_getElem? (i := 0) rfl)))
  have P1 : ¬ (G1 = (0 : Int32)) := gotF (Cond.eq_ints eG1 (Term.int_eval (0))) (not_v (Cond.before_iff.mp (hsets _ (List.mem_of_getElem? (i := 2) rfl))))
  obtain ⟨G3, eG3, P3⟩ := isR_v (Cond.before_iff.mp (hsets _ (List.mem_of_getElem? (i := 8) rfl)))
  have S3 : Sta s s.heap "jdk/internal/util/Preconditions" "SIOOBE_FORMATTER" "Ljava/util/function/BiFunction;" G3 := Sta.start eG3 (Or.inl (hsets _ (List.mem_of_getElem? (i := 7) rfl)))
  have hE : EW s #[(.int i0), (.int i1), (.int i2), (.int i3)] EL1 := EW.nil
  have hU : Wide s := ⟨Sta.start (ev_int (hsets _ (List.mem_of_getElem? (i := 12) rfl))) (Or.inl (hsets _ (List.mem_of_getElem? (i := 11) rfl))), Sta.start (ev_int (hsets _ (List.mem_of_getElem? (i := 15) rfl))) (Or.inl (hsets _ (List.mem_of_getElem? (i := 14) rfl))), Sta.start (ev_int (hsets _ (List.mem_of_getElem? (i := 18) rfl))) (Or.inl (hsets _ (List.mem_of_getElem? (i := 17) rfl)))⟩
  have hX : Ctx s _ G1 G3 := ⟨hw, hE, S1, P1, S3, P3⟩
  obtain ⟨n, o, h1, h2, h3, v, L, bk', rfl, ⟨⟨rfl, -⟩, N, -⟩, hq⟩ := rm_law l s _ G1 G3 hX hU s.heap.size s.heap (Old.start s) i0 i1 i2 i3  tables_1 p e ha hc hk s m _ below hf ((Spec.applies_iff_loose hf).mp happ).1 ⟨rfl, State.Warmed39.refl s, rfl, (fun _ hp => nomatch hp), (fun _ ⟨_, hp, _⟩ => nomatch hp)⟩ trivial
  refine ⟨n, _, h1, h2, h3, hpost _ _ _ _ _ _ ⟨Cond.after_iff.mpr rfl, Cond.after_iff.mpr (eq_i res_at (Term.int_eval (1)) rfl), trivial⟩ ⟨hq.1, hq.2.1, hq.2.2.1, (hq.2.2.2.sift fun y hy => Or.inr (N y hy)).mono (by decide) (by decide)⟩⟩
theorem main_1_1 : Claimed_1_1 := comes_1 fun _ _ _ _ _ _ h hF => ⟨h.1, hF⟩
theorem main_1_2 : Claimed_1_2 := comes_1 fun _ _ _ _ _ _ h hF => ⟨h.2.1, hF⟩
end Jvm.Pilot.@@N@@
namespace Jvm.Pilot.@@N@@
open Jvm Jvm.ClassFile Sem Op Lib Jvm.Free Jvm.Stand Jvm.Pilot.@@N@@.Jvm.D
/-! MADE BY PROGRAM (witnessworld.py) out of the Statement's table words and the real class files: 22 classes; the members and pool entries that the words name. The judged class is class 1, her method 1. -/
namespace start1
open Jvm.ClassFile
def u (s : String) : CpInfo := .utf8 (stringToUtf16 s)
/-- a pool by its gaps: so many unusable entries, then the entry; so many at the end -/
def gap : Nat → List CpInfo → List CpInfo
  | 0, r => r
  | n + 1, r => .unusable :: gap n r
def poolList (es : List (Nat × CpInfo)) (last : Nat) : List CpInfo := es.foldr (fun e r => gap e.1 (e.2 :: r)) (gap last [])
def pool (es : List (Nat × CpInfo)) (last : Nat) : Array CpInfo := ⟨poolList es last⟩
def fileOf (pool : Array CpInfo) (this : Nat) (attrs : Array Attribute := #[]) (ms : Array MethodInfo := #[]) (fl : Nat := 33) (sup : Nat := 0) (ifs : Array Nat := #[]) (fds : Array FieldInfo := #[]) : ClassFile where
  minorVersion := 0
  majorVersion := 65
  constantPool := pool
  accessFlags := fl
  thisClass := this
  superClass := sup
  interfaces := ifs
  fields := fds
  methods := ms
  attributes := attrs
def plain (name : String) (sup : Option ClassId) : Class where
  name := name
  kind := .ordinary
  loader := none
  accessFlags := 33
  super := sup
  interfaces := #[]
  cf := none
  fields := #[]
  methods := #[]
  instanceTypes := #[]
  staticTypes := #[]
  resolved := #[]
  callSites := []
  init := .initialized
  statics := none
  mirror := none

def pool0 : Array CpInfo := pool [(5, u "<init>"), (0, u "()V"), (1, .class_ 10), (1, u "java/lang/Object")] 113

def k0c0 : Code := { maxStack := 0, maxLocals := 1, code := object_method_1_code, exceptionTable := #[], attributes := #[] }
def k0m0 : Method := { name := "<init>", desc := "()V", sig := { parameters := [], returnType := none }, accessFlags := 1, code := some k0c0 }
/-- java/lang/Object -/
def k0 : Class := { plain "java/lang/Object" none with
  accessFlags := 33
  interfaces := #[]
  cf := some (fileOf pool0 8 #[] #[{ accessFlags := 1, nameIndex := 5, descriptorIndex := 6, attributes := #[] }] 33 0 #[] #[])
  fields := #[]
  methods := #[k0m0]
  instanceTypes := #[]
  staticTypes := #[]
  resolved := Array.replicate 124 none
  statics := none }

def pool1 : Array CpInfo := pool [(2, .class_ 4), (1, u "java/lang/Object"), (0, u "<init>"), (0, u "()V"), (0, .methodref 8 9), (0, .class_ 10), (0, .nameAndType 11 12), (0, u "com/example/eirene/eirene/KeySpaceCheckNamePinLaw"), (0, u "unit"), (0, u "([CIII)I"), (0, .methodref 8 14), (0, .nameAndType 15 16), (0, u "pad"), (0, u "(I)[C"), (0, .class_ 18), (0, u "java/lang/String"), (0, .methodref 17 20), (0, .nameAndType 5 21), (0, u "([C)V"), (0, .string 23), (0, u "The name"), (0, .methodref 25 26), (0, .class_ 27), (0, .nameAndType 28 29), (0, u "com/example/eirene/eirene/KeySpace"), (0, u "checkName"), (0, u "(Ljava/lang/String;Ljava/lang/String;)V"), (0, .methodref 17 31), (0, .nameAndType 32 33), (0, u "valueOf"), (0, u "(C)Ljava/lang/String;"), (0, .integer 2147483647), (0, .integer 61440), (0, .integer 55296), (0, .integer 56320), (2, u "law"), (0, u "(IIII)Z")] 5

def k1m0 : Method := { name := "<init>", desc := "()V", sig := { parameters := [], returnType := none }, accessFlags := 1, code := none }
def k1c1 : Code := { maxStack := 4, maxLocals := 11, code := code, exceptionTable := #[], attributes := #[] }
def k1m1 : Method := { name := "law", desc := "(IIII)Z", sig := { parameters := [.int, .int, .int, .int], returnType := some .boolean }, accessFlags := 9, code := some k1c1 }
def k1c2 : Code := { maxStack := 5, maxLocals := 6, code := method_3_code, exceptionTable := #[], attributes := #[] }
def k1m2 : Method := { name := "unit", desc := "([CIII)I", sig := { parameters := [(.array .char), .int, .int, .int], returnType := some .int }, accessFlags := 10, code := some k1c2 }
def k1c3 : Code := { maxStack := 2, maxLocals := 1, code := method_4_code, exceptionTable := #[], attributes := #[] }
def k1m3 : Method := { name := "pad", desc := "(I)[C", sig := { parameters := [.int], returnType := some (.array .char) }, accessFlags := 10, code := some k1c3 }
/-- com/example/eirene/eirene/KeySpaceCheckNamePinLaw -/
def k1 : Class := { plain "com/example/eirene/eirene/KeySpaceCheckNamePinLaw" (some 0) with
  accessFlags := 49
  interfaces := #[]
  cf := some (fileOf pool1 8 #[] #[{ accessFlags := 1, nameIndex := 5, descriptorIndex := 6, attributes := #[] }, { accessFlags := 9, nameIndex := 40, descriptorIndex := 41, attributes := #[] }, { accessFlags := 10, nameIndex := 11, descriptorIndex := 12, attributes := #[] }, { accessFlags := 10, nameIndex := 15, descriptorIndex := 16, attributes := #[] }] 49 2 #[] #[])
  fields := #[]
  methods := #[k1m0, k1m1, k1m2, k1m3]
  instanceTypes := #[]
  staticTypes := #[]
  resolved := Array.replicate 47 none
  statics := none }

def pool2 : Array CpInfo := pool [(1, .class_ 2), (0, u "java/io/Serializable"), (0, .class_ 4), (0, u "java/lang/Object")] 2

/-- java/io/Serializable -/
def k2 : Class := { plain "java/io/Serializable" (some 0) with
  accessFlags := 1537
  interfaces := #[]
  cf := some (fileOf pool2 1 #[] #[] 1537 3 #[] #[])
  fields := #[]
  methods := #[]
  instanceTypes := #[]
  staticTypes := #[]
  resolved := Array.replicate 7 none
  statics := none }

def pool3 : Array CpInfo := pool [(1, .class_ 2), (0, u "java/lang/Comparable"), (0, .class_ 4), (0, u "java/lang/Object")] 7

/-- java/lang/Comparable -/
def k3 : Class := { plain "java/lang/Comparable" (some 0) with
  accessFlags := 1537
  interfaces := #[]
  cf := some (fileOf pool3 1 #[] #[] 1537 3 #[] #[])
  fields := #[]
  methods := #[]
  instanceTypes := #[]
  staticTypes := #[]
  resolved := Array.replicate 12 none
  statics := none }

def pool4 : Array CpInfo := pool [(2, .class_ 4), (1, u "java/lang/CharSequence"), (42, .class_ 48), (0, u "java/lang/CharSequence$1CodePointIterator"), (10, .class_ 60), (0, u "java/lang/CharSequence$1CharIterator"), (5, .class_ 67), (0, u "java/lang/Object")] 63

/-- java/lang/CharSequence -/
def k4 : Class := { plain "java/lang/CharSequence" (some 0) with
  accessFlags := 1537
  interfaces := #[]
  cf := some (fileOf pool4 2 #[.nestMembers #[47, 59]] #[] 1537 66 #[] #[])
  fields := #[]
  methods := #[]
  instanceTypes := #[]
  staticTypes := #[]
  resolved := Array.replicate 131 none
  statics := none }

def pool5 : Array CpInfo := pool [(1, .class_ 2), (0, u "java/lang/constant/Constable"), (0, .class_ 4), (0, u "java/lang/Object")] 6

/-- java/lang/constant/Constable -/
def k5 : Class := { plain "java/lang/constant/Constable" (some 0) with
  accessFlags := 1537
  interfaces := #[]
  cf := some (fileOf pool5 1 #[] #[] 1537 3 #[] #[])
  fields := #[]
  methods := #[]
  instanceTypes := #[]
  staticTypes := #[]
  resolved := Array.replicate 11 none
  statics := none }

def pool6 : Array CpInfo := pool [(1, .class_ 2), (0, u "java/lang/constant/ConstantDesc"), (0, .class_ 4), (0, u "java/lang/Object")] 32

/-- java/lang/constant/ConstantDesc -/
def k6 : Class := { plain "java/lang/constant/ConstantDesc" (some 0) with
  accessFlags := 1537
  interfaces := #[]
  cf := some (fileOf pool6 1 #[] #[] 1537 3 #[] #[])
  fields := #[]
  methods := #[]
  instanceTypes := #[]
  staticTypes := #[]
  resolved := Array.replicate 37 none
  statics := none }

def pool7 : Array CpInfo := pool [(1, .methodref 2 3), (0, .class_ 4), (0, .nameAndType 5 6), (0, u "java/lang/Object"), (0, u "<init>"), (0, u "()V"), (2, .fieldref 10 11), (0, .class_ 12), (0, .nameAndType 13 14), (0, u "java/lang/String"), (0, u "value"), (0, u "[B"), (0, .fieldref 10 16), (0, .nameAndType 17 18), (0, u "coder"), (0, u "B"), (2, u "hash"), (0, u "I"), (2, u "hashIsZero"), (0, u "Z"), (0, .methodref 10 28), (0, .nameAndType 5 29), (0, u "([CIILjava/lang/Void;)V"), (8, .fieldref 10 39), (0, .nameAndType 40 26), (0, u "COMPACT_STRINGS"), (1, .class_ 44), (1, u "java/lang/StringUTF16"), (0, u "compress"), (1, .methodref 42 48), (0, .nameAndType 49 50), (0, u "coderFromArrayLen"), (0, u "([BI)B"), (2, u "toBytes"), (53, .class_ 109), (1, u "java/lang/StringLatin1"), (32, u "()Z"), (34, .methodref 42 178), (0, .nameAndType 45 179), (0, u "([CII)[B"), (29, .methodref 10 210), (0, .nameAndType 5 211), (0, u "([BB)V"), (122, u "()I"), (0, .methodref 10 336), (0, .nameAndType 17 337), (0, u "()B"), (25, u "([BI)C"), (5, u "(C)Z"), (21, u "(II)V"), (35, u "(I)C"), (64, .methodref 10 493), (0, .nameAndType 494 142), (0, u "isLatin1"), (0, .methodref 107 496), (0, .nameAndType 497 363), (0, u "charAt"), (0, .methodref 42 496), (2, u "checkIndex"), (5, u "length"), (67, .class_ 576), (0, u "java/lang/CharSequence"), (22, u "CASE_INSENSITIVE_ORDER"), (0, u "Ljava/util/Comparator;"), (91, u "isEmpty"), (89, u "valueOf"), (0, u "(C)Ljava/lang/String;"), (226, u "([C)V"), (4, .methodref 107 1016), (0, .nameAndType 1017 369), (0, u "canEncode"), (0, .methodref 107 1019), (0, .nameAndType 53 1020), (0, u "(C)[B"), (0, .methodref 42 1019), (31, .fieldref 1054 1055), (0, .class_ 1056), (0, .nameAndType 1057 1058), (0, u "jdk/internal/util/Preconditions"), (0, u "SIOOBE_FORMATTER"), (0, u "Ljava/util/function/BiFunction;"), (0, .methodref 1054 1060), (0, .nameAndType 501 1061), (0, u "(IILjava/util/function/BiFunction;)I"), (39, u "serialPersistentFields"), (0, u "[Ljava/io/ObjectStreamField;"), (0, .class_ 1104), (0, u "java/lang/String$CaseInsensitiveComparator"), (1, .class_ 1107), (0, u "java/io/Serializable"), (0, .class_ 1109), (0, u "java/lang/Comparable"), (0, .class_ 1111), (0, u "java/lang/constant/Constable"), (0, .class_ 1113), (0, u "java/lang/constant/ConstantDesc"), (2, u "serialVersionUID"), (0, u "J"), (3, u "REPL"), (0, u "C"), (2, u "LATIN1"), (1, u "UTF16")] 323

def k7m0 : Method := { name := "<init>", desc := "()V", sig := { parameters := [], returnType := none }, accessFlags := 1, code := none }
def k7c1 : Code := { maxStack := 5, maxLocals := 2, code := jdk_42_method_3_code, exceptionTable := #[], attributes := #[] }
def k7m1 : Method := { name := "<init>", desc := "([C)V", sig := { parameters := [(.array .char)], returnType := none }, accessFlags := 1, code := some k7c1 }
def k7c2 : Code := { maxStack := 2, maxLocals := 1, code := jdk_42_method_54_code, exceptionTable := #[], attributes := #[] }
def k7m2 : Method := { name := "length", desc := "()I", sig := { parameters := [], returnType := some .int }, accessFlags := 1, code := some k7c2 }
def k7c3 : Code := { maxStack := 1, maxLocals := 1, code := jdk_42_method_55_code, exceptionTable := #[], attributes := #[] }
def k7m3 : Method := { name := "isEmpty", desc := "()Z", sig := { parameters := [], returnType := some .boolean }, accessFlags := 1, code := some k7c3 }
def k7c4 : Code := { maxStack := 2, maxLocals := 2, code := jdk_42_method_56_code, exceptionTable := #[], attributes := #[] }
def k7m4 : Method := { name := "charAt", desc := "(I)C", sig := { parameters := [.int], returnType := some .char }, accessFlags := 1, code := some k7c4 }
def k7c5 : Code := { maxStack := 4, maxLocals := 1, code := jdk_42_method_139_code, exceptionTable := #[], attributes := #[] }
def k7m5 : Method := { name := "valueOf", desc := "(C)Ljava/lang/String;", sig := { parameters := [.char], returnType := some (.object "java/lang/String") }, accessFlags := 9, code := some k7c5 }
def k7c6 : Code := { maxStack := 4, maxLocals := 6, code := jdk_42_method_149_code, exceptionTable := #[], attributes := #[] }
def k7m6 : Method := { name := "<init>", desc := "([CIILjava/lang/Void;)V", sig := { parameters := [(.array .char), .int, .int, (.object "java/lang/Void")], returnType := none }, accessFlags := 2, code := some k7c6 }
def k7c7 : Code := { maxStack := 2, maxLocals := 3, code := jdk_42_method_151_code, exceptionTable := #[], attributes := #[] }
def k7m7 : Method := { name := "<init>", desc := "([BB)V", sig := { parameters := [(.array .byte), .byte], returnType := none }, accessFlags := 0, code := some k7c7 }
def k7c8 : Code := { maxStack := 1, maxLocals := 1, code := jdk_42_method_152_code, exceptionTable := #[], attributes := #[] }
def k7m8 : Method := { name := "coder", desc := "()B", sig := { parameters := [], returnType := some .byte }, accessFlags := 0, code := some k7c8 }
def k7c9 : Code := { maxStack := 1, maxLocals := 1, code := jdk_42_method_154_code, exceptionTable := #[], attributes := #[] }
def k7m9 : Method := { name := "isLatin1", desc := "()Z", sig := { parameters := [], returnType := some .boolean }, accessFlags := 0, code := some k7c9 }
def k7c10 : Code := { maxStack := 3, maxLocals := 2, code := jdk_42_method_155_code, exceptionTable := #[], attributes := #[] }
def k7m10 : Method := { name := "checkIndex", desc := "(II)V", sig := { parameters := [.int, .int], returnType := none }, accessFlags := 8, code := some k7c10 }
/-- java/lang/String -/
def k7 : Class := { plain "java/lang/String" (some 0) with
  accessFlags := 49
  interfaces := #[2, 3, 4, 5, 6]
  cf := some (fileOf pool7 10 #[.nestMembers #[1103]] #[{ accessFlags := 1, nameIndex := 5, descriptorIndex := 6, attributes := #[] }, { accessFlags := 1, nameIndex := 5, descriptorIndex := 1010, attributes := #[] }, { accessFlags := 1, nameIndex := 507, descriptorIndex := 334, attributes := #[] }, { accessFlags := 1, nameIndex := 692, descriptorIndex := 142, attributes := #[] }, { accessFlags := 1, nameIndex := 497, descriptorIndex := 427, attributes := #[] }, { accessFlags := 9, nameIndex := 782, descriptorIndex := 783, attributes := #[] }, { accessFlags := 2, nameIndex := 5, descriptorIndex := 29, attributes := #[] }, { accessFlags := 0, nameIndex := 5, descriptorIndex := 211, attributes := #[] }, { accessFlags := 0, nameIndex := 17, descriptorIndex := 337, attributes := #[] }, { accessFlags := 0, nameIndex := 494, descriptorIndex := 142, attributes := #[] }, { accessFlags := 8, nameIndex := 501, descriptorIndex := 391, attributes := #[] }] 49 2 #[1106, 1108, 575, 1110, 1112] #[{ accessFlags := 18, nameIndex := 13, descriptorIndex := 14, attributes := #[] }, { accessFlags := 18, nameIndex := 17, descriptorIndex := 18, attributes := #[] }, { accessFlags := 2, nameIndex := 21, descriptorIndex := 22, attributes := #[] }, { accessFlags := 2, nameIndex := 25, descriptorIndex := 26, attributes := #[] }, { accessFlags := 26, nameIndex := 1116, descriptorIndex := 1117, attributes := #[] }, { accessFlags := 24, nameIndex := 40, descriptorIndex := 26, attributes := #[] }, { accessFlags := 26, nameIndex := 1101, descriptorIndex := 1102, attributes := #[] }, { accessFlags := 26, nameIndex := 1121, descriptorIndex := 1122, attributes := #[] }, { accessFlags := 25, nameIndex := 599, descriptorIndex := 600, attributes := #[] }, { accessFlags := 24, nameIndex := 1125, descriptorIndex := 18, attributes := #[] }, { accessFlags := 24, nameIndex := 1127, descriptorIndex := 18, attributes := #[] }])
  fields := #[{ name := "value", type := (.array .byte), accessFlags := 18, slot := 0, constantValue := 0 }, { name := "coder", type := .byte, accessFlags := 18, slot := 1, constantValue := 0 }, { name := "hash", type := .int, accessFlags := 2, slot := 2, constantValue := 0 }, { name := "hashIsZero", type := .boolean, accessFlags := 2, slot := 3, constantValue := 0 }, { name := "serialVersionUID", type := .long, accessFlags := 26, slot := 0, constantValue := 0 }, { name := "COMPACT_STRINGS", type := .boolean, accessFlags := 24, slot := 1, constantValue := 0 }, { name := "serialPersistentFields", type := (.array (.object "java/io/ObjectStreamField")), accessFlags := 26, slot := 2, constantValue := 0 }, { name := "REPL", type := .char, accessFlags := 26, slot := 3, constantValue := 0 }, { name := "CASE_INSENSITIVE_ORDER", type := (.object "java/util/Comparator"), accessFlags := 25, slot := 4, constantValue := 0 }, { name := "LATIN1", type := .byte, accessFlags := 24, slot := 5, constantValue := 0 }, { name := "UTF16", type := .byte, accessFlags := 24, slot := 6, constantValue := 0 }]
  methods := #[k7m0, k7m1, k7m2, k7m3, k7m4, k7m5, k7m6, k7m7, k7m8, k7m9, k7m10]
  instanceTypes := #[(.array .byte), .byte, .int, .boolean]
  staticTypes := #[.long, .boolean, (.array (.object "java/io/ObjectStreamField")), .char, (.object "java/util/Comparator"), .byte, .byte]
  resolved := Array.replicate 1451 none
  statics := some 0 }

def pool8 : Array CpInfo := pool [(3, .class_ 4), (0, u "java/lang/String"), (1, .class_ 8), (1, u "java/lang/Object"), (0, u "<init>"), (0, u "()V"), (0, .methodref 12 13), (0, .class_ 14), (0, .nameAndType 15 16), (0, u "java/lang/StringUTF16"), (0, u "newBytesLength"), (0, u "(I)I"), (3, .integer 1073741823), (23, .fieldref 12 45), (0, .nameAndType 46 47), (0, u "$assertionsDisabled"), (0, u "Z"), (0, .methodref 12 49), (0, .nameAndType 50 51), (0, u "length"), (0, u "([B)I"), (7, .fieldref 12 60), (0, .nameAndType 61 62), (0, u "HI_BYTE_SHIFT"), (0, u "I"), (0, .fieldref 12 64), (0, .nameAndType 65 62), (0, u "LO_BYTE_SHIFT"), (1, .methodref 12 68), (0, .nameAndType 69 70), (0, u "checkIndex"), (0, u "(I[B)V"), (0, .methodref 12 72), (0, .nameAndType 73 74), (0, u "getChar"), (0, u "([BI)C"), (32, .methodref 12 108), (0, .nameAndType 109 110), (0, u "newBytesFor"), (0, u "(I)[B"), (0, .methodref 12 112), (0, .nameAndType 113 114), (0, u "putChar"), (0, u "([BII)V"), (0, .methodref 12 116), (0, .nameAndType 117 118), (0, u "compress"), (0, u "([CI[BII)I"), (0, .methodref 12 120), (0, .nameAndType 121 122), (0, u "toBytes"), (0, u "([CII)[B"), (138, u "coderFromArrayLen"), (0, u "([BI)B"), (106, .class_ 371), (1, u "java/lang/StringUTF16$LinesSpliterator"), (20, u "charAt"), (21, .methodref 3 415), (0, .nameAndType 69 416), (0, u "(II)V"), (13, u "MAX_LENGTH"), (44, u "(C)[B"), (151, .class_ 628), (0, u "java/lang/StringUTF16$CodePointsSpliterator"), (0, .class_ 630), (0, u "java/lang/StringUTF16$CharsSpliterator")] 4

def k8m0 : Method := { name := "<init>", desc := "()V", sig := { parameters := [], returnType := none }, accessFlags := 0, code := none }
def k8c1 : Code := { maxStack := 1, maxLocals := 1, code := jdk_52_method_2_code, exceptionTable := #[], attributes := #[] }
def k8m1 : Method := { name := "newBytesFor", desc := "(I)[B", sig := { parameters := [.int], returnType := some (.array .byte) }, accessFlags := 9, code := some k8c1 }
def k8c2 : Code := { maxStack := 4, maxLocals := 1, code := jdk_52_method_3_code, exceptionTable := #[], attributes := #[] }
def k8m2 : Method := { name := "newBytesLength", desc := "(I)I", sig := { parameters := [.int], returnType := some .int }, accessFlags := 9, code := some k8c2 }
def k8c3 : Code := { maxStack := 4, maxLocals := 3, code := jdk_52_method_4_code, exceptionTable := #[], attributes := #[] }
def k8m3 : Method := { name := "putChar", desc := "([BII)V", sig := { parameters := [(.array .byte), .int, .int], returnType := none }, accessFlags := 8, code := some k8c3 }
def k8c4 : Code := { maxStack := 3, maxLocals := 2, code := jdk_52_method_5_code, exceptionTable := #[], attributes := #[] }
def k8m4 : Method := { name := "getChar", desc := "([BI)C", sig := { parameters := [(.array .byte), .int], returnType := some .char }, accessFlags := 8, code := some k8c4 }
def k8c5 : Code := { maxStack := 2, maxLocals := 1, code := jdk_52_method_6_code, exceptionTable := #[], attributes := #[] }
def k8m5 : Method := { name := "length", desc := "([B)I", sig := { parameters := [(.array .byte)], returnType := some .int }, accessFlags := 9, code := some k8c5 }
def k8c6 : Code := { maxStack := 4, maxLocals := 5, code := jdk_52_method_14_code, exceptionTable := #[], attributes := #[] }
def k8m6 : Method := { name := "toBytes", desc := "([CII)[B", sig := { parameters := [(.array .char), .int, .int], returnType := some (.array .byte) }, accessFlags := 9, code := some k8c6 }
def k8c7 : Code := { maxStack := 2, maxLocals := 2, code := jdk_52_method_15_code, exceptionTable := #[], attributes := #[] }
def k8m7 : Method := { name := "coderFromArrayLen", desc := "([BI)B", sig := { parameters := [(.array .byte), .int], returnType := some .byte }, accessFlags := 8, code := some k8c7 }
def k8c8 : Code := { maxStack := 5, maxLocals := 6, code := jdk_52_method_16_code, exceptionTable := #[], attributes := #[] }
def k8m8 : Method := { name := "compress", desc := "([CII)[B", sig := { parameters := [(.array .char), .int, .int], returnType := some (.array .byte) }, accessFlags := 9, code := some k8c8 }
def k8c9 : Code := { maxStack := 3, maxLocals := 7, code := jdk_52_method_21_code, exceptionTable := #[], attributes := #[] }
def k8m9 : Method := { name := "compress", desc := "([CI[BII)I", sig := { parameters := [(.array .char), .int, (.array .byte), .int, .int], returnType := some .int }, accessFlags := 9, code := some k8c9 }
def k8c10 : Code := { maxStack := 3, maxLocals := 2, code := jdk_52_method_24_code, exceptionTable := #[], attributes := #[] }
def k8m10 : Method := { name := "toBytes", desc := "(C)[B", sig := { parameters := [.char], returnType := some (.array .byte) }, accessFlags := 9, code := some k8c10 }
def k8c11 : Code := { maxStack := 2, maxLocals := 2, code := jdk_52_method_83_code, exceptionTable := #[], attributes := #[] }
def k8m11 : Method := { name := "charAt", desc := "([BI)C", sig := { parameters := [(.array .byte), .int], returnType := some .char }, accessFlags := 9, code := some k8c11 }
def k8c12 : Code := { maxStack := 2, maxLocals := 2, code := jdk_52_method_91_code, exceptionTable := #[], attributes := #[] }
def k8m12 : Method := { name := "checkIndex", desc := "(I[B)V", sig := { parameters := [.int, (.array .byte)], returnType := none }, accessFlags := 9, code := some k8c12 }
/-- java/lang/StringUTF16 -/
def k8 : Class := { plain "java/lang/StringUTF16" (some 0) with
  accessFlags := 48
  interfaces := #[]
  cf := some (fileOf pool8 12 #[.nestMembers #[627, 629, 369]] #[{ accessFlags := 0, nameIndex := 9, descriptorIndex := 10, attributes := #[] }, { accessFlags := 9, nameIndex := 109, descriptorIndex := 110, attributes := #[] }, { accessFlags := 9, nameIndex := 15, descriptorIndex := 16, attributes := #[] }, { accessFlags := 8, nameIndex := 113, descriptorIndex := 114, attributes := #[] }, { accessFlags := 8, nameIndex := 73, descriptorIndex := 74, attributes := #[] }, { accessFlags := 9, nameIndex := 50, descriptorIndex := 51, attributes := #[] }, { accessFlags := 9, nameIndex := 121, descriptorIndex := 122, attributes := #[] }, { accessFlags := 8, nameIndex := 261, descriptorIndex := 262, attributes := #[] }, { accessFlags := 9, nameIndex := 117, descriptorIndex := 122, attributes := #[] }, { accessFlags := 9, nameIndex := 117, descriptorIndex := 118, attributes := #[] }, { accessFlags := 9, nameIndex := 121, descriptorIndex := 475, attributes := #[] }, { accessFlags := 9, nameIndex := 392, descriptorIndex := 74, attributes := #[] }, { accessFlags := 9, nameIndex := 69, descriptorIndex := 70, attributes := #[] }] 48 6 #[] #[{ accessFlags := 26, nameIndex := 61, descriptorIndex := 62, attributes := #[] }, { accessFlags := 26, nameIndex := 65, descriptorIndex := 62, attributes := #[] }, { accessFlags := 24, nameIndex := 430, descriptorIndex := 62, attributes := #[] }, { accessFlags := 4120, nameIndex := 46, descriptorIndex := 47, attributes := #[] }])
  fields := #[{ name := "HI_BYTE_SHIFT", type := .int, accessFlags := 26, slot := 0, constantValue := 0 }, { name := "LO_BYTE_SHIFT", type := .int, accessFlags := 26, slot := 1, constantValue := 0 }, { name := "MAX_LENGTH", type := .int, accessFlags := 24, slot := 2, constantValue := 0 }, { name := "$assertionsDisabled", type := .boolean, accessFlags := 4120, slot := 3, constantValue := 0 }]
  methods := #[k8m0, k8m1, k8m2, k8m3, k8m4, k8m5, k8m6, k8m7, k8m8, k8m9, k8m10, k8m11, k8m12]
  instanceTypes := #[]
  staticTypes := #[.int, .int, .int, .boolean]
  resolved := Array.replicate 635 none
  statics := some 1 }

def pool9 : Array CpInfo := pool [(2, .class_ 4), (1, u "java/lang/Object"), (3, u "prefix"), (0, .methodref 10 11), (0, .class_ 12), (0, .nameAndType 13 14), (0, u "java/util/Objects"), (0, u "requireNonNull"), (0, u "(Ljava/lang/Object;Ljava/lang/String;)Ljava/lang/Object;"), (0, .methodref 16 17), (0, .class_ 18), (0, .nameAndType 19 20), (0, u "java/lang/String"), (0, u "isEmpty"), (0, u "()Z"), (17, .methodref 39 40), (0, .class_ 41), (0, .nameAndType 42 43), (0, u "com/example/eirene/eirene/KeySpace"), (0, u "utf8Length"), (0, u "(Ljava/lang/String;Ljava/lang/String;)I"), (2, u "Ljava/lang/String;"), (29, u "checkName"), (0, u "(Ljava/lang/String;Ljava/lang/String;)V"), (3, .methodref 16 82), (0, .nameAndType 83 84), (0, u "length"), (0, u "()I"), (0, .methodref 16 86), (0, .nameAndType 87 88), (0, u "charAt"), (0, u "(I)C"), (0, .methodref 90 91), (0, .class_ 92), (0, .nameAndType 93 94), (0, u "java/lang/Character"), (0, u "isSurrogate"), (0, u "(C)Z"), (0, .methodref 90 96), (0, .nameAndType 97 94), (0, u "isHighSurrogate"), (0, .methodref 90 99), (0, .nameAndType 100 94), (0, u "isLowSurrogate"), (1, u "DEFAULT_PREFIX"), (3, u "MAX_NAME_BYTES"), (0, u "I")] 36

def k9c0 : Code := { maxStack := 4, maxLocals := 3, code := prog_4_method_7_code, exceptionTable := #[], attributes := #[] }
def k9m0 : Method := { name := "checkName", desc := "(Ljava/lang/String;Ljava/lang/String;)V", sig := { parameters := [(.object "java/lang/String"), (.object "java/lang/String")], returnType := none }, accessFlags := 8, code := some k9c0 }
def k9c1 : Code := { maxStack := 4, maxLocals := 5, code := prog_4_method_9_code, exceptionTable := #[], attributes := #[] }
def k9m1 : Method := { name := "utf8Length", desc := "(Ljava/lang/String;Ljava/lang/String;)I", sig := { parameters := [(.object "java/lang/String"), (.object "java/lang/String")], returnType := some .int }, accessFlags := 10, code := some k9c1 }
/-- com/example/eirene/eirene/KeySpace -/
def k9 : Class := { plain "com/example/eirene/eirene/KeySpace" (some 0) with
  accessFlags := 32
  interfaces := #[]
  cf := some (fileOf pool9 39 #[] #[{ accessFlags := 8, nameIndex := 76, descriptorIndex := 77, attributes := #[] }, { accessFlags := 10, nameIndex := 42, descriptorIndex := 43, attributes := #[] }] 32 2 #[] #[{ accessFlags := 24, nameIndex := 102, descriptorIndex := 46, attributes := #[] }, { accessFlags := 24, nameIndex := 106, descriptorIndex := 107, attributes := #[] }, { accessFlags := 18, nameIndex := 8, descriptorIndex := 46, attributes := #[] }])
  fields := #[{ name := "DEFAULT_PREFIX", type := (.object "java/lang/String"), accessFlags := 24, slot := 0, constantValue := 0 }, { name := "MAX_NAME_BYTES", type := .int, accessFlags := 24, slot := 1, constantValue := 0 }, { name := "prefix", type := (.object "java/lang/String"), accessFlags := 18, slot := 0, constantValue := 0 }]
  methods := #[k9m0, k9m1]
  instanceTypes := #[(.object "java/lang/String")]
  staticTypes := #[(.object "java/lang/String"), .int]
  resolved := Array.replicate 144 none
  statics := none }

def pool10 : Array CpInfo := pool [(2, .class_ 4), (1, u "java/lang/Object"), (0, u "<init>"), (0, u "()V"), (35, .class_ 44), (1, u "java/util/Objects"), (0, u "requireNonNull"), (48, u "(Ljava/lang/Object;Ljava/lang/String;)Ljava/lang/Object;")] 89

def k10m0 : Method := { name := "<init>", desc := "()V", sig := { parameters := [], returnType := none }, accessFlags := 2, code := none }
def k10c1 : Code := { maxStack := 3, maxLocals := 2, code := jdk_31_method_11_code, exceptionTable := #[], attributes := #[] }
def k10m1 : Method := { name := "requireNonNull", desc := "(Ljava/lang/Object;Ljava/lang/String;)Ljava/lang/Object;", sig := { parameters := [(.object "java/lang/Object"), (.object "java/lang/String")], returnType := some (.object "java/lang/Object") }, accessFlags := 9, code := some k10c1 }
/-- java/util/Objects -/
def k10 : Class := { plain "java/util/Objects" (some 0) with
  accessFlags := 49
  interfaces := #[]
  cf := some (fileOf pool10 42 #[] #[{ accessFlags := 2, nameIndex := 5, descriptorIndex := 6, attributes := #[] }, { accessFlags := 9, nameIndex := 45, descriptorIndex := 94, attributes := #[] }] 49 2 #[] #[])
  fields := #[]
  methods := #[k10m0, k10m1]
  instanceTypes := #[]
  staticTypes := #[]
  resolved := Array.replicate 184 none
  statics := none }

def pool11 : Array CpInfo := pool [(2, .class_ 4), (1, u "java/lang/Object"), (0, u "<init>"), (0, u "()V"), (17, .class_ 26), (1, u "jdk/internal/util/Preconditions"), (6, u "checkIndex"), (21, .class_ 56), (0, u "jdk/internal/util/Preconditions$4"), (57, .class_ 115), (0, u "jdk/internal/util/Preconditions$1"), (7, u "SIOOBE_FORMATTER"), (0, u "Ljava/util/function/BiFunction;"), (0, .class_ 126), (0, u "jdk/internal/util/Preconditions$2"), (3, u "AIOOBE_FORMATTER"), (0, .class_ 132), (0, u "jdk/internal/util/Preconditions$3"), (3, u "IOOBE_FORMATTER"), (41, u "(IILjava/util/function/BiFunction;)I")] 15

def k11m0 : Method := { name := "<init>", desc := "()V", sig := { parameters := [], returnType := none }, accessFlags := 1, code := none }
def k11c1 : Code := { maxStack := 3, maxLocals := 3, code := jdk_41_method_11_code, exceptionTable := #[], attributes := #[] }
def k11m1 : Method := { name := "checkIndex", desc := "(IILjava/util/function/BiFunction;)I", sig := { parameters := [.int, .int, (.object "java/util/function/BiFunction")], returnType := some .int }, accessFlags := 9, code := some k11c1 }
/-- jdk/internal/util/Preconditions -/
def k11 : Class := { plain "jdk/internal/util/Preconditions" (some 0) with
  accessFlags := 33
  interfaces := #[]
  cf := some (fileOf pool11 24 #[.nestMembers #[55, 131, 125, 114]] #[{ accessFlags := 1, nameIndex := 5, descriptorIndex := 6, attributes := #[] }, { accessFlags := 9, nameIndex := 33, descriptorIndex := 178, attributes := #[] }] 33 2 #[] #[{ accessFlags := 25, nameIndex := 123, descriptorIndex := 124, attributes := #[] }, { accessFlags := 25, nameIndex := 130, descriptorIndex := 124, attributes := #[] }, { accessFlags := 25, nameIndex := 136, descriptorIndex := 124, attributes := #[] }])
  fields := #[{ name := "SIOOBE_FORMATTER", type := (.object "java/util/function/BiFunction"), accessFlags := 25, slot := 0, constantValue := 0 }, { name := "AIOOBE_FORMATTER", type := (.object "java/util/function/BiFunction"), accessFlags := 25, slot := 1, constantValue := 0 }, { name := "IOOBE_FORMATTER", type := (.object "java/util/function/BiFunction"), accessFlags := 25, slot := 2, constantValue := 0 }]
  methods := #[k11m0, k11m1]
  instanceTypes := #[]
  staticTypes := #[(.object "java/util/function/BiFunction"), (.object "java/util/function/BiFunction"), (.object "java/util/function/BiFunction")]
  resolved := Array.replicate 194 none
  statics := some 2 }

def pool12 : Array CpInfo := pool [(1, .class_ 2), (0, u "java/lang/Character"), (18, u "value"), (0, u "C"), (19, .class_ 44), (1, u "java/lang/Object"), (3, .class_ 50), (1, u "java/lang/Character$CharacterCache"), (24, .integer 55296), (0, .integer 56320), (0, .integer 57344), (2, u "isHighSurrogate"), (0, u "(C)Z"), (2, u "isLowSurrogate"), (199, u "$assertionsDisabled"), (0, u "Z"), (21, .class_ 309), (1, u "java/lang/Character$UnicodeBlock"), (73, u "TYPE"), (0, u "Ljava/lang/Class;"), (0, .class_ 386), (0, u "java/io/Serializable"), (0, .class_ 388), (0, u "java/lang/Comparable"), (0, .class_ 390), (0, u "java/lang/constant/Constable"), (0, u "MIN_RADIX"), (0, u "I"), (2, u "MAX_RADIX"), (1, u "MIN_VALUE"), (1, u "MAX_VALUE"), (3, u "UNASSIGNED"), (0, u "B"), (0, u "UPPERCASE_LETTER"), (1, u "LOWERCASE_LETTER"), (0, u "TITLECASE_LETTER"), (1, u "MODIFIER_LETTER"), (1, u "OTHER_LETTER"), (1, u "NON_SPACING_MARK"), (1, u "ENCLOSING_MARK"), (1, u "COMBINING_SPACING_MARK"), (1, u "DECIMAL_DIGIT_NUMBER"), (1, u "LETTER_NUMBER"), (1, u "OTHER_NUMBER"), (1, u "SPACE_SEPARATOR"), (1, u "LINE_SEPARATOR"), (1, u "PARAGRAPH_SEPARATOR"), (1, u "CONTROL"), (1, u "FORMAT"), (1, u "PRIVATE_USE"), (1, u "SURROGATE"), (1, u "DASH_PUNCTUATION"), (1, u "START_PUNCTUATION"), (1, u "END_PUNCTUATION"), (1, u "CONNECTOR_PUNCTUATION"), (1, u "OTHER_PUNCTUATION"), (1, u "MATH_SYMBOL"), (1, u "CURRENCY_SYMBOL"), (1, u "MODIFIER_SYMBOL"), (1, u "OTHER_SYMBOL"), (1, u "INITIAL_QUOTE_PUNCTUATION"), (1, u "FINAL_QUOTE_PUNCTUATION"), (1, u "ERROR"), (1, u "DIRECTIONALITY_UNDEFINED"), (0, u "DIRECTIONALITY_LEFT_TO_RIGHT"), (0, u "DIRECTIONALITY_RIGHT_TO_LEFT"), (0, u "DIRECTIONALITY_RIGHT_TO_LEFT_ARABIC"), (0, u "DIRECTIONALITY_EUROPEAN_NUMBER"), (0, u "DIRECTIONALITY_EUROPEAN_NUMBER_SEPARATOR"), (0, u "DIRECTIONALITY_EUROPEAN_NUMBER_TERMINATOR"), (0, u "DIRECTIONALITY_ARABIC_NUMBER"), (0, u "DIRECTIONALITY_COMMON_NUMBER_SEPARATOR"), (0, u "DIRECTIONALITY_NONSPACING_MARK"), (0, u "DIRECTIONALITY_BOUNDARY_NEUTRAL"), (0, u "DIRECTIONALITY_PARAGRAPH_SEPARATOR"), (0, u "DIRECTIONALITY_SEGMENT_SEPARATOR"), (0, u "DIRECTIONALITY_WHITESPACE"), (0, u "DIRECTIONALITY_OTHER_NEUTRALS"), (0, u "DIRECTIONALITY_LEFT_TO_RIGHT_EMBEDDING"), (0, u "DIRECTIONALITY_LEFT_TO_RIGHT_OVERRIDE"), (0, u "DIRECTIONALITY_RIGHT_TO_LEFT_EMBEDDING"), (0, u "DIRECTIONALITY_RIGHT_TO_LEFT_OVERRIDE"), (1, u "DIRECTIONALITY_POP_DIRECTIONAL_FORMAT"), (0, u "DIRECTIONALITY_LEFT_TO_RIGHT_ISOLATE"), (0, u "DIRECTIONALITY_RIGHT_TO_LEFT_ISOLATE"), (0, u "DIRECTIONALITY_FIRST_STRONG_ISOLATE"), (0, u "DIRECTIONALITY_POP_DIRECTIONAL_ISOLATE"), (0, u "MIN_HIGH_SURROGATE"), (0, u "MAX_HIGH_SURROGATE"), (1, u "MIN_LOW_SURROGATE"), (0, u "MAX_LOW_SURROGATE"), (1, u "MIN_SURROGATE"), (0, u "MAX_SURROGATE"), (0, u "MIN_SUPPLEMENTARY_CODE_POINT"), (0, u "MIN_CODE_POINT"), (0, u "MAX_CODE_POINT"), (1, u "serialVersionUID"), (0, u "J"), (2, u "SIZE"), (0, u "BYTES"), (24, u "isSurrogate"), (63, .class_ 596), (0, u "java/lang/Character$UnicodeScript"), (0, .class_ 598), (0, u "java/lang/Character$Subset")] 5

def k12c0 : Code := { maxStack := 2, maxLocals := 1, code := jdk_89_method_14_code, exceptionTable := #[], attributes := #[] }
def k12m0 : Method := { name := "isHighSurrogate", desc := "(C)Z", sig := { parameters := [.char], returnType := some .boolean }, accessFlags := 9, code := some k12c0 }
def k12c1 : Code := { maxStack := 2, maxLocals := 1, code := jdk_89_method_15_code, exceptionTable := #[], attributes := #[] }
def k12m1 : Method := { name := "isLowSurrogate", desc := "(C)Z", sig := { parameters := [.char], returnType := some .boolean }, accessFlags := 9, code := some k12c1 }
def k12c2 : Code := { maxStack := 2, maxLocals := 1, code := jdk_89_method_16_code, exceptionTable := #[], attributes := #[] }
def k12m2 : Method := { name := "isSurrogate", desc := "(C)Z", sig := { parameters := [.char], returnType := some .boolean }, accessFlags := 9, code := some k12c2 }
/-- java/lang/Character -/
def k12 : Class := { plain "java/lang/Character" (some 0) with
  accessFlags := 49
  interfaces := #[2, 3, 5]
  cf := some (fileOf pool12 1 #[.nestMembers #[48, 595, 307, 597]] #[{ accessFlags := 9, nameIndex := 80, descriptorIndex := 81, attributes := #[] }, { accessFlags := 9, nameIndex := 84, descriptorIndex := 81, attributes := #[] }, { accessFlags := 9, nameIndex := 531, descriptorIndex := 81, attributes := #[] }] 49 42 #[385, 387, 389] #[{ accessFlags := 25, nameIndex := 391, descriptorIndex := 392, attributes := #[] }, { accessFlags := 25, nameIndex := 395, descriptorIndex := 392, attributes := #[] }, { accessFlags := 25, nameIndex := 397, descriptorIndex := 22, attributes := #[] }, { accessFlags := 25, nameIndex := 399, descriptorIndex := 22, attributes := #[] }, { accessFlags := 25, nameIndex := 383, descriptorIndex := 384, attributes := #[] }, { accessFlags := 25, nameIndex := 403, descriptorIndex := 404, attributes := #[] }, { accessFlags := 25, nameIndex := 405, descriptorIndex := 404, attributes := #[] }, { accessFlags := 25, nameIndex := 407, descriptorIndex := 404, attributes := #[] }, { accessFlags := 25, nameIndex := 408, descriptorIndex := 404, attributes := #[] }, { accessFlags := 25, nameIndex := 410, descriptorIndex := 404, attributes := #[] }, { accessFlags := 25, nameIndex := 412, descriptorIndex := 404, attributes := #[] }, { accessFlags := 25, nameIndex := 414, descriptorIndex := 404, attributes := #[] }, { accessFlags := 25, nameIndex := 416, descriptorIndex := 404, attributes := #[] }, { accessFlags := 25, nameIndex := 418, descriptorIndex := 404, attributes := #[] }, { accessFlags := 25, nameIndex := 420, descriptorIndex := 404, attributes := #[] }, { accessFlags := 25, nameIndex := 422, descriptorIndex := 404, attributes := #[] }, { accessFlags := 25, nameIndex := 424, descriptorIndex := 404, attributes := #[] }, { accessFlags := 25, nameIndex := 426, descriptorIndex := 404, attributes := #[] }, { accessFlags := 25, nameIndex := 428, descriptorIndex := 404, attributes := #[] }, { accessFlags := 25, nameIndex := 430, descriptorIndex := 404, attributes := #[] }, { accessFlags := 25, nameIndex := 432, descriptorIndex := 404, attributes := #[] }, { accessFlags := 25, nameIndex := 434, descriptorIndex := 404, attributes := #[] }, { accessFlags := 25, nameIndex := 436, descriptorIndex := 404, attributes := #[] }, { accessFlags := 25, nameIndex := 438, descriptorIndex := 404, attributes := #[] }, { accessFlags := 25, nameIndex := 440, descriptorIndex := 404, attributes := #[] }, { accessFlags := 25, nameIndex := 442, descriptorIndex := 404, attributes := #[] }, { accessFlags := 25, nameIndex := 444, descriptorIndex := 404, attributes := #[] }, { accessFlags := 25, nameIndex := 446, descriptorIndex := 404, attributes := #[] }, { accessFlags := 25, nameIndex := 448, descriptorIndex := 404, attributes := #[] }, { accessFlags := 25, nameIndex := 450, descriptorIndex := 404, attributes := #[] }, { accessFlags := 25, nameIndex := 452, descriptorIndex := 404, attributes := #[] }, { accessFlags := 25, nameIndex := 454, descriptorIndex := 404, attributes := #[] }, { accessFlags := 25, nameIndex := 456, descriptorIndex := 404, attributes := #[] }, { accessFlags := 25, nameIndex := 458, descriptorIndex := 404, attributes := #[] }, { accessFlags := 25, nameIndex := 460, descriptorIndex := 404, attributes := #[] }, { accessFlags := 24, nameIndex := 462, descriptorIndex := 392, attributes := #[] }, { accessFlags := 25, nameIndex := 464, descriptorIndex := 404, attributes := #[] }, { accessFlags := 25, nameIndex := 465, descriptorIndex := 404, attributes := #[] }, { accessFlags := 25, nameIndex := 466, descriptorIndex := 404, attributes := #[] }, { accessFlags := 25, nameIndex := 467, descriptorIndex := 404, attributes := #[] }, { accessFlags := 25, nameIndex := 468, descriptorIndex := 404, attributes := #[] }, { accessFlags := 25, nameIndex := 469, descriptorIndex := 404, attributes := #[] }, { accessFlags := 25, nameIndex := 470, descriptorIndex := 404, attributes := #[] }, { accessFlags := 25, nameIndex := 471, descriptorIndex := 404, attributes := #[] }, { accessFlags := 25, nameIndex := 472, descriptorIndex := 404, attributes := #[] }, { accessFlags := 25, nameIndex := 473, descriptorIndex := 404, attributes := #[] }, { accessFlags := 25, nameIndex := 474, descriptorIndex := 404, attributes := #[] }, { accessFlags := 25, nameIndex := 475, descriptorIndex := 404, attributes := #[] }, { accessFlags := 25, nameIndex := 476, descriptorIndex := 404, attributes := #[] }, { accessFlags := 25, nameIndex := 477, descriptorIndex := 404, attributes := #[] }, { accessFlags := 25, nameIndex := 478, descriptorIndex := 404, attributes := #[] }, { accessFlags := 25, nameIndex := 479, descriptorIndex := 404, attributes := #[] }, { accessFlags := 25, nameIndex := 480, descriptorIndex := 404, attributes := #[] }, { accessFlags := 25, nameIndex := 481, descriptorIndex := 404, attributes := #[] }, { accessFlags := 25, nameIndex := 482, descriptorIndex := 404, attributes := #[] }, { accessFlags := 25, nameIndex := 484, descriptorIndex := 404, attributes := #[] }, { accessFlags := 25, nameIndex := 485, descriptorIndex := 404, attributes := #[] }, { accessFlags := 25, nameIndex := 486, descriptorIndex := 404, attributes := #[] }, { accessFlags := 25, nameIndex := 487, descriptorIndex := 404, attributes := #[] }, { accessFlags := 25, nameIndex := 488, descriptorIndex := 404, attributes := #[] }, { accessFlags := 25, nameIndex := 489, descriptorIndex := 22, attributes := #[] }, { accessFlags := 25, nameIndex := 490, descriptorIndex := 22, attributes := #[] }, { accessFlags := 25, nameIndex := 492, descriptorIndex := 22, attributes := #[] }, { accessFlags := 25, nameIndex := 493, descriptorIndex := 22, attributes := #[] }, { accessFlags := 25, nameIndex := 495, descriptorIndex := 22, attributes := #[] }, { accessFlags := 25, nameIndex := 496, descriptorIndex := 22, attributes := #[] }, { accessFlags := 25, nameIndex := 497, descriptorIndex := 392, attributes := #[] }, { accessFlags := 25, nameIndex := 498, descriptorIndex := 392, attributes := #[] }, { accessFlags := 25, nameIndex := 499, descriptorIndex := 392, attributes := #[] }, { accessFlags := 18, nameIndex := 21, descriptorIndex := 22, attributes := #[] }, { accessFlags := 26, nameIndex := 501, descriptorIndex := 502, attributes := #[] }, { accessFlags := 25, nameIndex := 505, descriptorIndex := 392, attributes := #[] }, { accessFlags := 25, nameIndex := 506, descriptorIndex := 392, attributes := #[] }, { accessFlags := 4120, nameIndex := 284, descriptorIndex := 285, attributes := #[] }])
  fields := #[{ name := "MIN_RADIX", type := .int, accessFlags := 25, slot := 0, constantValue := 0 }, { name := "MAX_RADIX", type := .int, accessFlags := 25, slot := 1, constantValue := 0 }, { name := "MIN_VALUE", type := .char, accessFlags := 25, slot := 2, constantValue := 0 }, { name := "MAX_VALUE", type := .char, accessFlags := 25, slot := 3, constantValue := 0 }, { name := "TYPE", type := (.object "java/lang/Class"), accessFlags := 25, slot := 4, constantValue := 0 }, { name := "UNASSIGNED", type := .byte, accessFlags := 25, slot := 5, constantValue := 0 }, { name := "UPPERCASE_LETTER", type := .byte, accessFlags := 25, slot := 6, constantValue := 0 }, { name := "LOWERCASE_LETTER", type := .byte, accessFlags := 25, slot := 7, constantValue := 0 }, { name := "TITLECASE_LETTER", type := .byte, accessFlags := 25, slot := 8, constantValue := 0 }, { name := "MODIFIER_LETTER", type := .byte, accessFlags := 25, slot := 9, constantValue := 0 }, { name := "OTHER_LETTER", type := .byte, accessFlags := 25, slot := 10, constantValue := 0 }, { name := "NON_SPACING_MARK", type := .byte, accessFlags := 25, slot := 11, constantValue := 0 }, { name := "ENCLOSING_MARK", type := .byte, accessFlags := 25, slot := 12, constantValue := 0 }, { name := "COMBINING_SPACING_MARK", type := .byte, accessFlags := 25, slot := 13, constantValue := 0 }, { name := "DECIMAL_DIGIT_NUMBER", type := .byte, accessFlags := 25, slot := 14, constantValue := 0 }, { name := "LETTER_NUMBER", type := .byte, accessFlags := 25, slot := 15, constantValue := 0 }, { name := "OTHER_NUMBER", type := .byte, accessFlags := 25, slot := 16, constantValue := 0 }, { name := "SPACE_SEPARATOR", type := .byte, accessFlags := 25, slot := 17, constantValue := 0 }, { name := "LINE_SEPARATOR", type := .byte, accessFlags := 25, slot := 18, constantValue := 0 }, { name := "PARAGRAPH_SEPARATOR", type := .byte, accessFlags := 25, slot := 19, constantValue := 0 }, { name := "CONTROL", type := .byte, accessFlags := 25, slot := 20, constantValue := 0 }, { name := "FORMAT", type := .byte, accessFlags := 25, slot := 21, constantValue := 0 }, { name := "PRIVATE_USE", type := .byte, accessFlags := 25, slot := 22, constantValue := 0 }, { name := "SURROGATE", type := .byte, accessFlags := 25, slot := 23, constantValue := 0 }, { name := "DASH_PUNCTUATION", type := .byte, accessFlags := 25, slot := 24, constantValue := 0 }, { name := "START_PUNCTUATION", type := .byte, accessFlags := 25, slot := 25, constantValue := 0 }, { name := "END_PUNCTUATION", type := .byte, accessFlags := 25, slot := 26, constantValue := 0 }, { name := "CONNECTOR_PUNCTUATION", type := .byte, accessFlags := 25, slot := 27, constantValue := 0 }, { name := "OTHER_PUNCTUATION", type := .byte, accessFlags := 25, slot := 28, constantValue := 0 }, { name := "MATH_SYMBOL", type := .byte, accessFlags := 25, slot := 29, constantValue := 0 }, { name := "CURRENCY_SYMBOL", type := .byte, accessFlags := 25, slot := 30, constantValue := 0 }, { name := "MODIFIER_SYMBOL", type := .byte, accessFlags := 25, slot := 31, constantValue := 0 }, { name := "OTHER_SYMBOL", type := .byte, accessFlags := 25, slot := 32, constantValue := 0 }, { name := "INITIAL_QUOTE_PUNCTUATION", type := .byte, accessFlags := 25, slot := 33, constantValue := 0 }, { name := "FINAL_QUOTE_PUNCTUATION", type := .byte, accessFlags := 25, slot := 34, constantValue := 0 }, { name := "ERROR", type := .int, accessFlags := 24, slot := 35, constantValue := 0 }, { name := "DIRECTIONALITY_UNDEFINED", type := .byte, accessFlags := 25, slot := 36, constantValue := 0 }, { name := "DIRECTIONALITY_LEFT_TO_RIGHT", type := .byte, accessFlags := 25, slot := 37, constantValue := 0 }, { name := "DIRECTIONALITY_RIGHT_TO_LEFT", type := .byte, accessFlags := 25, slot := 38, constantValue := 0 }, { name := "DIRECTIONALITY_RIGHT_TO_LEFT_ARABIC", type := .byte, accessFlags := 25, slot := 39, constantValue := 0 }, { name := "DIRECTIONALITY_EUROPEAN_NUMBER", type := .byte, accessFlags := 25, slot := 40, constantValue := 0 }, { name := "DIRECTIONALITY_EUROPEAN_NUMBER_SEPARATOR", type := .byte, accessFlags := 25, slot := 41, constantValue := 0 }, { name := "DIRECTIONALITY_EUROPEAN_NUMBER_TERMINATOR", type := .byte, accessFlags := 25, slot := 42, constantValue := 0 }, { name := "DIRECTIONALITY_ARABIC_NUMBER", type := .byte, accessFlags := 25, slot := 43, constantValue := 0 }, { name := "DIRECTIONALITY_COMMON_NUMBER_SEPARATOR", type := .byte, accessFlags := 25, slot := 44, constantValue := 0 }, { name := "DIRECTIONALITY_NONSPACING_MARK", type := .byte, accessFlags := 25, slot := 45, constantValue := 0 }, { name := "DIRECTIONALITY_BOUNDARY_NEUTRAL", type := .byte, accessFlags := 25, slot := 46, constantValue := 0 }, { name := "DIRECTIONALITY_PARAGRAPH_SEPARATOR", type := .byte, accessFlags := 25, slot := 47, constantValue := 0 }, { name := "DIRECTIONALITY_SEGMENT_SEPARATOR", type := .byte, accessFlags := 25, slot := 48, constantValue := 0 }, { name := "DIRECTIONALITY_WHITESPACE", type := .byte, accessFlags := 25, slot := 49, constantValue := 0 }, { name := "DIRECTIONALITY_OTHER_NEUTRALS", type := .byte, accessFlags := 25, slot := 50, constantValue := 0 }, { name := "DIRECTIONALITY_LEFT_TO_RIGHT_EMBEDDING", type := .byte, accessFlags := 25, slot := 51, constantValue := 0 }, { name := "DIRECTIONALITY_LEFT_TO_RIGHT_OVERRIDE", type := .byte, accessFlags := 25, slot := 52, constantValue := 0 }, { name := "DIRECTIONALITY_RIGHT_TO_LEFT_EMBEDDING", type := .byte, accessFlags := 25, slot := 53, constantValue := 0 }, { name := "DIRECTIONALITY_RIGHT_TO_LEFT_OVERRIDE", type := .byte, accessFlags := 25, slot := 54, constantValue := 0 }, { name := "DIRECTIONALITY_POP_DIRECTIONAL_FORMAT", type := .byte, accessFlags := 25, slot := 55, constantValue := 0 }, { name := "DIRECTIONALITY_LEFT_TO_RIGHT_ISOLATE", type := .byte, accessFlags := 25, slot := 56, constantValue := 0 }, { name := "DIRECTIONALITY_RIGHT_TO_LEFT_ISOLATE", type := .byte, accessFlags := 25, slot := 57, constantValue := 0 }, { name := "DIRECTIONALITY_FIRST_STRONG_ISOLATE", type := .byte, accessFlags := 25, slot := 58, constantValue := 0 }, { name := "DIRECTIONALITY_POP_DIRECTIONAL_ISOLATE", type := .byte, accessFlags := 25, slot := 59, constantValue := 0 }, { name := "MIN_HIGH_SURROGATE", type := .char, accessFlags := 25, slot := 60, constantValue := 0 }, { name := "MAX_HIGH_SURROGATE", type := .char, accessFlags := 25, slot := 61, constantValue := 0 }, { name := "MIN_LOW_SURROGATE", type := .char, accessFlags := 25, slot := 62, constantValue := 0 }, { name := "MAX_LOW_SURROGATE", type := .char, accessFlags := 25, slot := 63, constantValue := 0 }, { name := "MIN_SURROGATE", type := .char, accessFlags := 25, slot := 64, constantValue := 0 }, { name := "MAX_SURROGATE", type := .char, accessFlags := 25, slot := 65, constantValue := 0 }, { name := "MIN_SUPPLEMENTARY_CODE_POINT", type := .int, accessFlags := 25, slot := 66, constantValue := 0 }, { name := "MIN_CODE_POINT", type := .int, accessFlags := 25, slot := 67, constantValue := 0 }, { name := "MAX_CODE_POINT", type := .int, accessFlags := 25, slot := 68, constantValue := 0 }, { name := "value", type := .char, accessFlags := 18, slot := 0, constantValue := 0 }, { name := "serialVersionUID", type := .long, accessFlags := 26, slot := 69, constantValue := 0 }, { name := "SIZE", type := .int, accessFlags := 25, slot := 70, constantValue := 0 }, { name := "BYTES", type := .int, accessFlags := 25, slot := 71, constantValue := 0 }, { name := "$assertionsDisabled", type := .boolean, accessFlags := 4120, slot := 72, constantValue := 0 }]
  methods := #[k12m0, k12m1, k12m2]
  instanceTypes := #[.char]
  staticTypes := #[.int, .int, .char, .char, (.object "java/lang/Class"), .byte, .byte, .byte, .byte, .byte, .byte, .byte, .byte, .byte, .byte, .byte, .byte, .byte, .byte, .byte, .byte, .byte, .byte, .byte, .byte, .byte, .byte, .byte, .byte, .byte, .byte, .byte, .byte, .byte, .byte, .int, .byte, .byte, .byte, .byte, .byte, .byte, .byte, .byte, .byte, .byte, .byte, .byte, .byte, .byte, .byte, .byte, .byte, .byte, .byte, .byte, .byte, .byte, .byte, .byte, .char, .char, .char, .char, .char, .char, .int, .int, .int, .long, .int, .int, .boolean]
  resolved := Array.replicate 604 none
  statics := none }

def pool13 : Array CpInfo := pool [(1, .class_ 2), (0, u "java/lang/String"), (1, .class_ 6), (1, u "java/lang/Object"), (0, u "<init>"), (0, u "()V"), (0, .methodref 1 10), (0, .nameAndType 11 12), (0, u "checkIndex"), (0, u "(II)V"), (1, .class_ 16), (1, u "java/lang/StringLatin1"), (36, u "([BI)C"), (36, u "canEncode"), (14, u "(C)Z"), (15, u "$assertionsDisabled"), (0, u "Z"), (98, .class_ 223), (1, u "java/lang/StringLatin1$LinesSpliterator"), (28, u "charAt"), (127, u "toBytes"), (1, u "(C)[B"), (7, .class_ 391), (0, u "java/lang/StringLatin1$CharsSpliterator")] 3

def k13m0 : Method := { name := "<init>", desc := "()V", sig := { parameters := [], returnType := none }, accessFlags := 0, code := none }
def k13c1 : Code := { maxStack := 2, maxLocals := 2, code := jdk_43_method_2_code, exceptionTable := #[], attributes := #[] }
def k13m1 : Method := { name := "charAt", desc := "([BI)C", sig := { parameters := [(.array .byte), .int], returnType := some .char }, accessFlags := 9, code := some k13c1 }
def k13c2 : Code := { maxStack := 2, maxLocals := 1, code := jdk_43_method_3_code, exceptionTable := #[], attributes := #[] }
def k13m2 : Method := { name := "canEncode", desc := "(C)Z", sig := { parameters := [.char], returnType := some .boolean }, accessFlags := 9, code := some k13c2 }
def k13c3 : Code := { maxStack := 4, maxLocals := 1, code := jdk_43_method_46_code, exceptionTable := #[], attributes := #[] }
def k13m3 : Method := { name := "toBytes", desc := "(C)[B", sig := { parameters := [.char], returnType := some (.array .byte) }, accessFlags := 9, code := some k13c3 }
/-- java/lang/StringLatin1 -/
def k13 : Class := { plain "java/lang/StringLatin1" (some 0) with
  accessFlags := 48
  interfaces := #[]
  cf := some (fileOf pool13 14 #[.nestMembers #[390, 221]] #[{ accessFlags := 0, nameIndex := 7, descriptorIndex := 8, attributes := #[] }, { accessFlags := 9, nameIndex := 252, descriptorIndex := 53, attributes := #[] }, { accessFlags := 9, nameIndex := 90, descriptorIndex := 105, attributes := #[] }, { accessFlags := 9, nameIndex := 380, descriptorIndex := 382, attributes := #[] }] 48 4 #[] #[{ accessFlags := 4120, nameIndex := 121, descriptorIndex := 122, attributes := #[] }])
  fields := #[{ name := "$assertionsDisabled", type := .boolean, accessFlags := 4120, slot := 0, constantValue := 0 }]
  methods := #[k13m0, k13m1, k13m2, k13m3]
  instanceTypes := #[]
  staticTypes := #[.boolean]
  resolved := Array.replicate 395 none
  statics := none }

def pool14 : Array CpInfo := pool [(9, u "<init>"), (6, .class_ 18), (1, u "java/lang/Object"), (0, u "()V"), (1, .class_ 23), (1, u "jdk/internal/util/ArraysSupport"), (0, u "LOG2_ARRAY_LONG_INDEX_SCALE"), (0, u "I"), (2, u "U"), (0, u "Ljdk/internal/misc/Unsafe;"), (8, u "BIG_ENDIAN"), (0, u "Z"), (8, u "LOG2_BYTE_BIT_SIZE"), (4, u "LOG2_ARRAY_INT_INDEX_SCALE"), (54, u "JLA"), (0, u "Ljdk/internal/access/JavaLangAccess;"), (11, u "LOG2_ARRAY_BOOLEAN_INDEX_SCALE"), (9, u "LOG2_ARRAY_BYTE_INDEX_SCALE"), (5, u "LOG2_ARRAY_CHAR_INDEX_SCALE"), (5, u "LOG2_ARRAY_SHORT_INDEX_SCALE"), (18, u "LOG2_ARRAY_FLOAT_INDEX_SCALE"), (24, u "LOG2_ARRAY_DOUBLE_INDEX_SCALE"), (89, u "T_BOOLEAN"), (2, u "T_CHAR"), (1, u "T_FLOAT"), (1, u "T_DOUBLE"), (1, u "T_BYTE"), (1, u "T_SHORT"), (1, u "T_INT"), (1, u "T_LONG"), (1, u "SOFT_MAX_ARRAY_LENGTH")] 83

def k14m0 : Method := { name := "<init>", desc := "()V", sig := { parameters := [], returnType := none }, accessFlags := 2, code := none }
/-- jdk/internal/util/ArraysSupport -/
def k14 : Class := { plain "jdk/internal/util/ArraysSupport" (some 0) with
  accessFlags := 33
  interfaces := #[]
  cf := some (fileOf pool14 21 #[] #[{ accessFlags := 2, nameIndex := 9, descriptorIndex := 19, attributes := #[] }] 33 16 #[] #[{ accessFlags := 24, nameIndex := 28, descriptorIndex := 29, attributes := #[] }, { accessFlags := 26, nameIndex := 38, descriptorIndex := 39, attributes := #[] }, { accessFlags := 25, nameIndex := 121, descriptorIndex := 25, attributes := #[] }, { accessFlags := 25, nameIndex := 131, descriptorIndex := 25, attributes := #[] }, { accessFlags := 25, nameIndex := 137, descriptorIndex := 25, attributes := #[] }, { accessFlags := 25, nameIndex := 143, descriptorIndex := 25, attributes := #[] }, { accessFlags := 25, nameIndex := 53, descriptorIndex := 25, attributes := #[] }, { accessFlags := 25, nameIndex := 24, descriptorIndex := 25, attributes := #[] }, { accessFlags := 25, nameIndex := 162, descriptorIndex := 25, attributes := #[] }, { accessFlags := 25, nameIndex := 187, descriptorIndex := 25, attributes := #[] }, { accessFlags := 26, nameIndex := 48, descriptorIndex := 25, attributes := #[] }, { accessFlags := 25, nameIndex := 277, descriptorIndex := 25, attributes := #[] }, { accessFlags := 25, nameIndex := 280, descriptorIndex := 25, attributes := #[] }, { accessFlags := 25, nameIndex := 282, descriptorIndex := 25, attributes := #[] }, { accessFlags := 25, nameIndex := 284, descriptorIndex := 25, attributes := #[] }, { accessFlags := 25, nameIndex := 286, descriptorIndex := 25, attributes := #[] }, { accessFlags := 25, nameIndex := 288, descriptorIndex := 25, attributes := #[] }, { accessFlags := 25, nameIndex := 290, descriptorIndex := 25, attributes := #[] }, { accessFlags := 25, nameIndex := 292, descriptorIndex := 25, attributes := #[] }, { accessFlags := 26, nameIndex := 108, descriptorIndex := 109, attributes := #[] }, { accessFlags := 25, nameIndex := 294, descriptorIndex := 25, attributes := #[] }])
  fields := #[{ name := "U", type := (.object "jdk/internal/misc/Unsafe"), accessFlags := 24, slot := 0, constantValue := 0 }, { name := "BIG_ENDIAN", type := .boolean, accessFlags := 26, slot := 1, constantValue := 0 }, { name := "LOG2_ARRAY_BOOLEAN_INDEX_SCALE", type := .int, accessFlags := 25, slot := 2, constantValue := 0 }, { name := "LOG2_ARRAY_BYTE_INDEX_SCALE", type := .int, accessFlags := 25, slot := 3, constantValue := 0 }, { name := "LOG2_ARRAY_CHAR_INDEX_SCALE", type := .int, accessFlags := 25, slot := 4, constantValue := 0 }, { name := "LOG2_ARRAY_SHORT_INDEX_SCALE", type := .int, accessFlags := 25, slot := 5, constantValue := 0 }, { name := "LOG2_ARRAY_INT_INDEX_SCALE", type := .int, accessFlags := 25, slot := 6, constantValue := 0 }, { name := "LOG2_ARRAY_LONG_INDEX_SCALE", type := .int, accessFlags := 25, slot := 7, constantValue := 0 }, { name := "LOG2_ARRAY_FLOAT_INDEX_SCALE", type := .int, accessFlags := 25, slot := 8, constantValue := 0 }, { name := "LOG2_ARRAY_DOUBLE_INDEX_SCALE", type := .int, accessFlags := 25, slot := 9, constantValue := 0 }, { name := "LOG2_BYTE_BIT_SIZE", type := .int, accessFlags := 26, slot := 10, constantValue := 0 }, { name := "T_BOOLEAN", type := .int, accessFlags := 25, slot := 11, constantValue := 0 }, { name := "T_CHAR", type := .int, accessFlags := 25, slot := 12, constantValue := 0 }, { name := "T_FLOAT", type := .int, accessFlags := 25, slot := 13, constantValue := 0 }, { name := "T_DOUBLE", type := .int, accessFlags := 25, slot := 14, constantValue := 0 }, { name := "T_BYTE", type := .int, accessFlags := 25, slot := 15, constantValue := 0 }, { name := "T_SHORT", type := .int, accessFlags := 25, slot := 16, constantValue := 0 }, { name := "T_INT", type := .int, accessFlags := 25, slot := 17, constantValue := 0 }, { name := "T_LONG", type := .int, accessFlags := 25, slot := 18, constantValue := 0 }, { name := "JLA", type := (.object "jdk/internal/access/JavaLangAccess"), accessFlags := 26, slot := 19, constantValue := 0 }, { name := "SOFT_MAX_ARRAY_LENGTH", type := .int, accessFlags := 25, slot := 20, constantValue := 0 }]
  methods := #[k14m0]
  instanceTypes := #[]
  staticTypes := #[(.object "jdk/internal/misc/Unsafe"), .boolean, .int, .int, .int, .int, .int, .int, .int, .int, .int, .int, .int, .int, .int, .int, .int, .int, .int, (.object "jdk/internal/access/JavaLangAccess"), .int]
  resolved := Array.replicate 378 none
  statics := none }

def pool15 : Array CpInfo := pool [(1, u "java/lang/Cloneable"), (0, .class_ 1), (0, u "java/lang/Object"), (0, .class_ 3)] 3

/-- java/lang/Cloneable -/
def k15 : Class := { plain "java/lang/Cloneable" (some 0) with
  accessFlags := 1537
  interfaces := #[]
  cf := some (fileOf pool15 2 #[] #[] 1537 4 #[] #[])
  fields := #[]
  methods := #[]
  instanceTypes := #[]
  staticTypes := #[]
  resolved := Array.replicate 8 none
  statics := none }

/-- the primitive byte -/
def k16 : Class := { plain "byte" none with kind := .primitive 'B', accessFlags := 0x411 }
/-- [B -/
def k17 : Class := { plain "[B" (some 0) with kind := .array 16 .byte, interfaces := #[15, 2], accessFlags := 1041 }

/-- the primitive char -/
def k18 : Class := { plain "char" none with kind := .primitive 'C', accessFlags := 0x411 }
/-- [C -/
def k19 : Class := { plain "[C" (some 0) with kind := .array 18 .char, interfaces := #[15, 2], accessFlags := 1041 }

/-- the primitive int -/
def k20 : Class := { plain "int" none with kind := .primitive 'I', accessFlags := 0x411 }
/-- [I -/
def k21 : Class := { plain "[I" (some 0) with kind := .array 20 .int, interfaces := #[15, 2], accessFlags := 1041 }

def heap : Heap := #[{ cls := 7, slots := #[.long 0, .int 1, .null, .int 0, .null, .int 0, .int 0], vm := .statics 7 },
  { cls := 8, slots := #[.int 0, .int 8, .int 0, .int 1], vm := .statics 8 },
  { cls := 11, slots := #[.null, .null, .null], vm := .statics 11 }]
def classes : Array Class := #[k0, k1, k2, k3, k4, k5, k6, k7, k8, k9, k10, k11, k12, k13, k14, k15, k16, k17, k18, k19, k20, k21]
def interned : List (Array UInt16 × Addr) := []
def slotsUsed : Nat := 14
def theMethod : MethodId := ⟨1, 1⟩
def args0 : Array Value := #[.int 5, .int 5, .int 5, .int 5]
def aboutOver (below : List Frame) : State where
  vm := { classes := classes, interned := interned.toArray }
  heap := heap
  slotsUsed := slotsUsed
  threads := #[{ frames := .invoking theMethod args0 :: below }]
def below0 : List Frame := [.native { method := ⟨0, 0⟩, args := #[] }]
def about1 : State := aboutOver below0
def p0 : Program := .bare "" "" ""
def e0 : Env := launch0.env 0 0 0
theorem w_frames : about1.frames = Frame.invoking theMethod args0 :: below0 := rfl
set_option maxRecDepth 65536 in
theorem w_args : argsFit about1.vm theMethod args0 = true := by decide +kernel
set_option maxRecDepth 65536 in
theorem w_heap : heapFits about1 = true := by decide +kernel
set_option maxRecDepth 65536 in
theorem w_runnable : about1.curStatus? = some .runnable := by decide +kernel
set_option maxRecDepth 65536 in
theorem w_alone : about1.alone = true := by decide +kernel
set_option maxRecDepth 65536 in
theorem w_named : about1.methodNamed? x = some theMethod := by decide +kernel
set_option maxRecDepth 65536 in
theorem w_hears : about1.hears theMethod below0 = true := by decide +kernel
set_option maxRecDepth 65536 in
theorem w_ripe : about1.ripe theMethod args0 below0 = true := by decide +kernel
theorem w_running : about1.status = .running := rfl
set_option maxRecDepth 65536 in
theorem w_room : about1.hasRoom e0.platform room_1 = true :=
  launch0.hasRoom_least _ room_1 (by decide +kernel) (by decide +kernel) (by decide +kernel) (by decide +kernel) (by decide +kernel) (by decide +kernel)
theorem allAtoms_all (ts : List Jvm.Cond) (a : Array Jvm.Value) (st : Jvm.State) : (allAtoms ts).before a st = ts.all (fun c => c.before a st) := by
  induction ts with
  | nil => rfl
  | cons c t ih =>
    show (Jvm.Cond.and c (allAtoms t)).before a st = _
    rw [Jvm.Cond.before_and, ih, List.all_cons]
def words1 : List Jvm.Cond := Jvm.Cond.code x code maxLocals ret :: tables_1
/-- a 'code' word, met by the world's own term for the bytes: nothing is compared byte by byte -/
theorem code_word {y : MethodName} {bytes : ByteArray} {mx : Nat} {rt : Option FieldType} {a : Array Value} {s : State} {m : MethodId} {meth : Method} {c : Code} (h1 : s.methodNamed? y = some m) (h2 : s.vm.method? m = some meth) (h3 : meth.code = some c) (h4 : c.code = bytes)
    (h5 : (c.maxLocals == mx && c.exceptionTable.isEmpty && decide (c.maxStack ≤ mostOperands) && decide (meth.sig.returnType = rt) && !meth.locks && decide (parseMethodDescriptor y.desc = some meth.sig)) = true) : (Jvm.Cond.code y bytes mx rt).before a s = true := by
  simp only [Bool.and_eq_true, beq_iff_eq, Bool.not_eq_true', decide_eq_true_eq] at h5
  obtain ⟨⟨⟨⟨⟨g1, g2⟩, g3⟩, g4⟩, g5⟩, g6⟩ := h5
  simp [Cond.before, Cond.holds, Cond.value, h1, h2, h3, h4, g1, g2, g3, g4, g5, g6]
def isCode : Jvm.Cond → Bool
  | .code _ _ _ _ => true
  | _ => false
theorem all_split {L : List Jvm.Cond} {P : Jvm.Cond → Bool} (h1 : L.all (fun c => isCode c || P c) = true) (h2 : ∀ c ∈ L.filter isCode, P c = true) : L.all P = true := by
  refine List.all_eq_true.mpr fun c hc => ?_
  have h := List.all_eq_true.mp h1 c hc
  rcases Bool.eq_false_or_eq_true (isCode c) with hi | hi
  · exact h2 c (List.mem_filter.mpr ⟨hc, hi⟩)
  · simpa [hi] using h
set_option maxRecDepth 65536 in
theorem w_c0 : (Jvm.Cond.code x code maxLocals ret).before args0 about1 = true := code_word (m := ⟨1, 1⟩) (meth := k1m1) (c := k1c1) (by decide +kernel) rfl rfl rfl (by decide +kernel)
set_option maxRecDepth 65536 in
theorem w_c1 : (Jvm.Cond.code ({ cls := "com/example/eirene/eirene/KeySpaceCheckNamePinLaw", name := "unit", desc := "([CIII)I" } : Jvm.MethodName) method_3_code (6 : Nat) (Option.some Jvm.ClassFile.FieldType.int)).before args0 about1 = true := code_word (m := ⟨1, 2⟩) (meth := k1m2) (c := k1c2) (by decide +kernel) rfl rfl rfl (by decide +kernel)
set_option maxRecDepth 65536 in
theorem w_c2 : (Jvm.Cond.code ({ cls := "com/example/eirene/eirene/KeySpaceCheckNamePinLaw", name := "pad", desc := "(I)[C" } : Jvm.MethodName) method_4_code (1 : Nat) (Option.some (Jvm.ClassFile.FieldType.array Jvm.ClassFile.FieldType.char))).before args0 about1 = true := code_word (m := ⟨1, 3⟩) (meth := k1m3) (c := k1c3) (by decide +kernel) rfl rfl rfl (by decide +kernel)
set_option maxRecDepth 65536 in
theorem w_c3 : (Jvm.Cond.code ({ cls := "java/lang/String", name := "<init>", desc := "([C)V" } : Jvm.MethodName) jdk_42_method_3_code (2 : Nat) (Option.none : Option Jvm.ClassFile.FieldType)).before args0 about1 = true := code_word (m := ⟨7, 1⟩) (meth := k7m1) (c := k7c1) (by decide +kernel) rfl rfl rfl (by decide +kernel)
set_option maxRecDepth 65536 in
theorem w_c4 : (Jvm.Cond.code ({ cls := "java/lang/String", name := "<init>", desc := "([CIILjava/lang/Void;)V" } : Jvm.MethodName) jdk_42_method_149_code (6 : Nat) (Option.none : Option Jvm.ClassFile.FieldType)).before args0 about1 = true := code_word (m := ⟨7, 6⟩) (meth := k7m6) (c := k7c6) (by decide +kernel) rfl rfl rfl (by decide +kernel)
set_option maxRecDepth 65536 in
theorem w_c5 : (Jvm.Cond.code ({ cls := "java/lang/Object", name := "<init>", desc := "()V" } : Jvm.MethodName) object_method_1_code (1 : Nat) (Option.none : Option Jvm.ClassFile.FieldType)).before args0 about1 = true := code_word (m := ⟨0, 0⟩) (meth := k0m0) (c := k0c0) (by decide +kernel) rfl rfl rfl (by decide +kernel)
set_option maxRecDepth 65536 in
theorem w_c6 : (Jvm.Cond.code ({ cls := "java/lang/StringUTF16", name := "compress", desc := "([CII)[B" } : Jvm.MethodName) jdk_52_method_16_code (6 : Nat) (Option.some (Jvm.ClassFile.FieldType.array Jvm.ClassFile.FieldType.byte))).before args0 about1 = true := code_word (m := ⟨8, 8⟩) (meth := k8m8) (c := k8c8) (by decide +kernel) rfl rfl rfl (by decide +kernel)
set_option maxRecDepth 65536 in
theorem w_c7 : (Jvm.Cond.code ({ cls := "java/lang/StringUTF16", name := "compress", desc := "([CI[BII)I" } : Jvm.MethodName) jdk_52_method_21_code (7 : Nat) (Option.some Jvm.ClassFile.FieldType.int)).before args0 about1 = true := code_word (m := ⟨8, 9⟩) (meth := k8m9) (c := k8c9) (by decide +kernel) rfl rfl rfl (by decide +kernel)
set_option maxRecDepth 65536 in
theorem w_c8 : (Jvm.Cond.code ({ cls := "java/lang/StringUTF16", name := "toBytes", desc := "([CII)[B" } : Jvm.MethodName) jdk_52_method_14_code (5 : Nat) (Option.some (Jvm.ClassFile.FieldType.array Jvm.ClassFile.FieldType.byte))).before args0 about1 = true := code_word (m := ⟨8, 6⟩) (meth := k8m6) (c := k8c6) (by decide +kernel) rfl rfl rfl (by decide +kernel)
set_option maxRecDepth 65536 in
theorem w_c9 : (Jvm.Cond.code ({ cls := "java/lang/StringUTF16", name := "newBytesFor", desc := "(I)[B" } : Jvm.MethodName) jdk_52_method_2_code (1 : Nat) (Option.some (Jvm.ClassFile.FieldType.array Jvm.ClassFile.FieldType.byte))).before args0 about1 = true := code_word (m := ⟨8, 1⟩) (meth := k8m1) (c := k8c1) (by decide +kernel) rfl rfl rfl (by decide +kernel)
set_option maxRecDepth 65536 in
theorem w_c10 : (Jvm.Cond.code ({ cls := "java/lang/StringUTF16", name := "newBytesLength", desc := "(I)I" } : Jvm.MethodName) jdk_52_method_3_code (1 : Nat) (Option.some Jvm.ClassFile.FieldType.int)).before args0 about1 = true := code_word (m := ⟨8, 2⟩) (meth := k8m2) (c := k8c2) (by decide +kernel) rfl rfl rfl (by decide +kernel)
set_option maxRecDepth 65536 in
theorem w_c11 : (Jvm.Cond.code ({ cls := "java/lang/StringUTF16", name := "putChar", desc := "([BII)V" } : Jvm.MethodName) jdk_52_method_4_code (3 : Nat) (Option.none : Option Jvm.ClassFile.FieldType)).before args0 about1 = true := code_word (m := ⟨8, 3⟩) (meth := k8m3) (c := k8c3) (by decide +kernel) rfl rfl rfl (by decide +kernel)
set_option maxRecDepth 65536 in
theorem w_c12 : (Jvm.Cond.code ({ cls := "java/lang/StringUTF16", name := "getChar", desc := "([BI)C" } : Jvm.MethodName) jdk_52_method_5_code (2 : Nat) (Option.some Jvm.ClassFile.FieldType.char)).before args0 about1 = true := code_word (m := ⟨8, 4⟩) (meth := k8m4) (c := k8c4) (by decide +kernel) rfl rfl rfl (by decide +kernel)
set_option maxRecDepth 65536 in
theorem w_c13 : (Jvm.Cond.code ({ cls := "java/lang/StringUTF16", name := "coderFromArrayLen", desc := "([BI)B" } : Jvm.MethodName) jdk_52_method_15_code (2 : Nat) (Option.some Jvm.ClassFile.FieldType.byte)).before args0 about1 = true := code_word (m := ⟨8, 7⟩) (meth := k8m7) (c := k8c7) (by decide +kernel) rfl rfl rfl (by decide +kernel)
set_option maxRecDepth 65536 in
theorem w_c14 : (Jvm.Cond.code ({ cls := "com/example/eirene/eirene/KeySpace", name := "checkName", desc := "(Ljava/lang/String;Ljava/lang/String;)V" } : Jvm.MethodName) prog_4_method_7_code (3 : Nat) (Option.none : Option Jvm.ClassFile.FieldType)).before args0 about1 = true := code_word (m := ⟨9, 0⟩) (meth := k9m0) (c := k9c0) (by decide +kernel) rfl rfl rfl (by decide +kernel)
set_option maxRecDepth 65536 in
theorem w_c15 : (Jvm.Cond.code ({ cls := "java/util/Objects", name := "requireNonNull", desc := "(Ljava/lang/Object;Ljava/lang/String;)Ljava/lang/Object;" } : Jvm.MethodName) jdk_31_method_11_code (2 : Nat) (Option.some (Jvm.ClassFile.FieldType.object "java/lang/Object"))).before args0 about1 = true := code_word (m := ⟨10, 1⟩) (meth := k10m1) (c := k10c1) (by decide +kernel) rfl rfl rfl (by decide +kernel)
set_option maxRecDepth 65536 in
theorem w_c16 : (Jvm.Cond.code ({ cls := "java/lang/String", name := "isEmpty", desc := "()Z" } : Jvm.MethodName) jdk_42_method_55_code (1 : Nat) (Option.some Jvm.ClassFile.FieldType.boolean)).before args0 about1 = true := code_word (m := ⟨7, 3⟩) (meth := k7m3) (c := k7c3) (by decide +kernel) rfl rfl rfl (by decide +kernel)
set_option maxRecDepth 65536 in
theorem w_c17 : (Jvm.Cond.code ({ cls := "com/example/eirene/eirene/KeySpace", name := "utf8Length", desc := "(Ljava/lang/String;Ljava/lang/String;)I" } : Jvm.MethodName) prog_4_method_9_code (5 : Nat) (Option.some Jvm.ClassFile.FieldType.int)).before args0 about1 = true := code_word (m := ⟨9, 1⟩) (meth := k9m1) (c := k9c1) (by decide +kernel) rfl rfl rfl (by decide +kernel)
set_option maxRecDepth 65536 in
theorem w_c18 : (Jvm.Cond.code ({ cls := "java/lang/String", name := "length", desc := "()I" } : Jvm.MethodName) jdk_42_method_54_code (1 : Nat) (Option.some Jvm.ClassFile.FieldType.int)).before args0 about1 = true := code_word (m := ⟨7, 2⟩) (meth := k7m2) (c := k7c2) (by decide +kernel) rfl rfl rfl (by decide +kernel)
set_option maxRecDepth 65536 in
theorem w_c19 : (Jvm.Cond.code ({ cls := "java/lang/String", name := "coder", desc := "()B" } : Jvm.MethodName) jdk_42_method_152_code (1 : Nat) (Option.some Jvm.ClassFile.FieldType.byte)).before args0 about1 = true := code_word (m := ⟨7, 8⟩) (meth := k7m8) (c := k7c8) (by decide +kernel) rfl rfl rfl (by decide +kernel)
set_option maxRecDepth 65536 in
theorem w_c20 : (Jvm.Cond.code ({ cls := "java/lang/String", name := "charAt", desc := "(I)C" } : Jvm.MethodName) jdk_42_method_56_code (2 : Nat) (Option.some Jvm.ClassFile.FieldType.char)).before args0 about1 = true := code_word (m := ⟨7, 4⟩) (meth := k7m4) (c := k7c4) (by decide +kernel) rfl rfl rfl (by decide +kernel)
set_option maxRecDepth 65536 in
theorem w_c21 : (Jvm.Cond.code ({ cls := "java/lang/String", name := "isLatin1", desc := "()Z" } : Jvm.MethodName) jdk_42_method_154_code (1 : Nat) (Option.some Jvm.ClassFile.FieldType.boolean)).before args0 about1 = true := code_word (m := ⟨7, 9⟩) (meth := k7m9) (c := k7c9) (by decide +kernel) rfl rfl rfl (by decide +kernel)
set_option maxRecDepth 65536 in
theorem w_c22 : (Jvm.Cond.code ({ cls := "java/lang/StringUTF16", name := "charAt", desc := "([BI)C" } : Jvm.MethodName) jdk_52_method_83_code (2 : Nat) (Option.some Jvm.ClassFile.FieldType.char)).before args0 about1 = true := code_word (m := ⟨8, 11⟩) (meth := k8m11) (c := k8c11) (by decide +kernel) rfl rfl rfl (by decide +kernel)
set_option maxRecDepth 65536 in
theorem w_c23 : (Jvm.Cond.code ({ cls := "java/lang/StringUTF16", name := "checkIndex", desc := "(I[B)V" } : Jvm.MethodName) jdk_52_method_91_code (2 : Nat) (Option.none : Option Jvm.ClassFile.FieldType)).before args0 about1 = true := code_word (m := ⟨8, 12⟩) (meth := k8m12) (c := k8c12) (by decide +kernel) rfl rfl rfl (by decide +kernel)
set_option maxRecDepth 65536 in
theorem w_c24 : (Jvm.Cond.code ({ cls := "java/lang/StringUTF16", name := "length", desc := "([B)I" } : Jvm.MethodName) jdk_52_method_6_code (1 : Nat) (Option.some Jvm.ClassFile.FieldType.int)).before args0 about1 = true := code_word (m := ⟨8, 5⟩) (meth := k8m5) (c := k8c5) (by decide +kernel) rfl rfl rfl (by decide +kernel)
set_option maxRecDepth 65536 in
theorem w_c25 : (Jvm.Cond.code ({ cls := "java/lang/String", name := "checkIndex", desc := "(II)V" } : Jvm.MethodName) jdk_42_method_155_code (2 : Nat) (Option.none : Option Jvm.ClassFile.FieldType)).before args0 about1 = true := code_word (m := ⟨7, 10⟩) (meth := k7m10) (c := k7c10) (by decide +kernel) rfl rfl rfl (by decide +kernel)
set_option maxRecDepth 65536 in
theorem w_c26 : (Jvm.Cond.code ({ cls := "jdk/internal/util/Preconditions", name := "checkIndex", desc := "(IILjava/util/function/BiFunction;)I" } : Jvm.MethodName) jdk_41_method_11_code (3 : Nat) (Option.some Jvm.ClassFile.FieldType.int)).before args0 about1 = true := code_word (m := ⟨11, 1⟩) (meth := k11m1) (c := k11c1) (by decide +kernel) rfl rfl rfl (by decide +kernel)
set_option maxRecDepth 65536 in
theorem w_c27 : (Jvm.Cond.code ({ cls := "java/lang/Character", name := "isSurrogate", desc := "(C)Z" } : Jvm.MethodName) jdk_89_method_16_code (1 : Nat) (Option.some Jvm.ClassFile.FieldType.boolean)).before args0 about1 = true := code_word (m := ⟨12, 2⟩) (meth := k12m2) (c := k12c2) (by decide +kernel) rfl rfl rfl (by decide +kernel)
set_option maxRecDepth 65536 in
theorem w_c28 : (Jvm.Cond.code ({ cls := "java/lang/String", name := "valueOf", desc := "(C)Ljava/lang/String;" } : Jvm.MethodName) jdk_42_method_139_code (1 : Nat) (Option.some (Jvm.ClassFile.FieldType.object "java/lang/String"))).before args0 about1 = true := code_word (m := ⟨7, 5⟩) (meth := k7m5) (c := k7c5) (by decide +kernel) rfl rfl rfl (by decide +kernel)
set_option maxRecDepth 65536 in
theorem w_c29 : (Jvm.Cond.code ({ cls := "java/lang/StringLatin1", name := "canEncode", desc := "(C)Z" } : Jvm.MethodName) jdk_43_method_3_code (1 : Nat) (Option.some Jvm.ClassFile.FieldType.boolean)).before args0 about1 = true := code_word (m := ⟨13, 2⟩) (meth := k13m2) (c := k13c2) (by decide +kernel) rfl rfl rfl (by decide +kernel)
set_option maxRecDepth 65536 in
theorem w_c30 : (Jvm.Cond.code ({ cls := "java/lang/StringLatin1", name := "toBytes", desc := "(C)[B" } : Jvm.MethodName) jdk_43_method_46_code (1 : Nat) (Option.some (Jvm.ClassFile.FieldType.array Jvm.ClassFile.FieldType.byte))).before args0 about1 = true := code_word (m := ⟨13, 3⟩) (meth := k13m3) (c := k13c3) (by decide +kernel) rfl rfl rfl (by decide +kernel)
set_option maxRecDepth 65536 in
theorem w_c31 : (Jvm.Cond.code ({ cls := "java/lang/String", name := "<init>", desc := "([BB)V" } : Jvm.MethodName) jdk_42_method_151_code (3 : Nat) (Option.none : Option Jvm.ClassFile.FieldType)).before args0 about1 = true := code_word (m := ⟨7, 7⟩) (meth := k7m7) (c := k7c7) (by decide +kernel) rfl rfl rfl (by decide +kernel)
set_option maxRecDepth 65536 in
theorem w_c32 : (Jvm.Cond.code ({ cls := "java/lang/StringLatin1", name := "charAt", desc := "([BI)C" } : Jvm.MethodName) jdk_43_method_2_code (2 : Nat) (Option.some Jvm.ClassFile.FieldType.char)).before args0 about1 = true := code_word (m := ⟨13, 1⟩) (meth := k13m1) (c := k13c1) (by decide +kernel) rfl rfl rfl (by decide +kernel)
set_option maxRecDepth 65536 in
theorem w_c33 : (Jvm.Cond.code ({ cls := "java/lang/Character", name := "isHighSurrogate", desc := "(C)Z" } : Jvm.MethodName) jdk_89_method_14_code (1 : Nat) (Option.some Jvm.ClassFile.FieldType.boolean)).before args0 about1 = true := code_word (m := ⟨12, 0⟩) (meth := k12m0) (c := k12c0) (by decide +kernel) rfl rfl rfl (by decide +kernel)
set_option maxRecDepth 65536 in
theorem w_c34 : (Jvm.Cond.code ({ cls := "java/lang/Character", name := "isLowSurrogate", desc := "(C)Z" } : Jvm.MethodName) jdk_89_method_15_code (1 : Nat) (Option.some Jvm.ClassFile.FieldType.boolean)).before args0 about1 = true := code_word (m := ⟨12, 1⟩) (meth := k12m1) (c := k12c1) (by decide +kernel) rfl rfl rfl (by decide +kernel)
set_option maxRecDepth 65536 in
theorem w_c35 : (Jvm.Cond.code ({ cls := "java/lang/StringUTF16", name := "toBytes", desc := "(C)[B" } : Jvm.MethodName) jdk_52_method_24_code (2 : Nat) (Option.some (Jvm.ClassFile.FieldType.array Jvm.ClassFile.FieldType.byte))).before args0 about1 = true := code_word (m := ⟨8, 10⟩) (meth := k8m10) (c := k8c10) (by decide +kernel) rfl rfl rfl (by decide +kernel)
def codes1 : List Jvm.Cond := [Jvm.Cond.code x code maxLocals ret, Jvm.Cond.code ({ cls := "com/example/eirene/eirene/KeySpaceCheckNamePinLaw", name := "unit", desc := "([CIII)I" } : Jvm.MethodName) method_3_code (6 : Nat) (Option.some Jvm.ClassFile.FieldType.int), Jvm.Cond.code ({ cls := "com/example/eirene/eirene/KeySpaceCheckNamePinLaw", name := "pad", desc := "(I)[C" } : Jvm.MethodName) method_4_code (1 : Nat) (Option.some (Jvm.ClassFile.FieldType.array Jvm.ClassFile.FieldType.char)), Jvm.Cond.code ({ cls := "java/lang/String", name := "<init>", desc := "([C)V" } : Jvm.MethodName) jdk_42_method_3_code (2 : Nat) (Option.none : Option Jvm.ClassFile.FieldType), Jvm.Cond.code ({ cls := "java/lang/String", name := "<init>", desc := "([CIILjava/lang/Void;)V" } : Jvm.MethodName) jdk_42_method_149_code (6 : Nat) (Option.none : Option Jvm.ClassFile.FieldType), Jvm.Cond.code ({ cls := "java/lang/Object", name := "<init>", desc := "()V" } : Jvm.MethodName) object_method_1_code (1 : Nat) (Option.none : Option Jvm.ClassFile.FieldType), Jvm.Cond.code ({ cls := "java/lang/StringUTF16", name := "compress", desc := "([CII)[B" } : Jvm.MethodName) jdk_52_method_16_code (6 : Nat) (Option.some (Jvm.ClassFile.FieldType.array Jvm.ClassFile.FieldType.byte)), Jvm.Cond.code ({ cls := "java/lang/StringUTF16", name := "compress", desc := "([CI[BII)I" } : Jvm.MethodName) jdk_52_method_21_code (7 : Nat) (Option.some Jvm.ClassFile.FieldType.int), Jvm.Cond.code ({ cls := "java/lang/StringUTF16", name := "toBytes", desc := "([CII)[B" } : Jvm.MethodName) jdk_52_method_14_code (5 : Nat) (Option.some (Jvm.ClassFile.FieldType.array Jvm.ClassFile.FieldType.byte)), Jvm.Cond.code ({ cls := "java/lang/StringUTF16", name := "newBytesFor", desc := "(I)[B" } : Jvm.MethodName) jdk_52_method_2_code (1 : Nat) (Option.some (Jvm.ClassFile.FieldType.array Jvm.ClassFile.FieldType.byte)), Jvm.Cond.code ({ cls := "java/lang/StringUTF16", name := "newBytesLength", desc := "(I)I" } : Jvm.MethodName) jdk_52_method_3_code (1 : Nat) (Option.some Jvm.ClassFile.FieldType.int), Jvm.Cond.code ({ cls := "java/lang/StringUTF16", name := "putChar", desc := "([BII)V" } : Jvm.MethodName) jdk_52_method_4_code (3 : Nat) (Option.none : Option Jvm.ClassFile.FieldType), Jvm.Cond.code ({ cls := "java/lang/StringUTF16", name := "getChar", desc := "([BI)C" } : Jvm.MethodName) jdk_52_method_5_code (2 : Nat) (Option.some Jvm.ClassFile.FieldType.char), Jvm.Cond.code ({ cls := "java/lang/StringUTF16", name := "coderFromArrayLen", desc := "([BI)B" } : Jvm.MethodName) jdk_52_method_15_code (2 : Nat) (Option.some Jvm.ClassFile.FieldType.byte), Jvm.Cond.code ({ cls := "com/example/eirene/eirene/KeySpace", name := "checkName", desc := "(Ljava/lang/String;Ljava/lang/String;)V" } : Jvm.MethodName) prog_4_method_7_code (3 : Nat) (Option.none : Option Jvm.ClassFile.FieldType), Jvm.Cond.code ({ cls := "java/util/Objects", name := "requireNonNull", desc := "(Ljava/lang/Object;Ljava/lang/String;)Ljava/lang/Object;" } : Jvm.MethodName) jdk_31_method_11_code (2 : Nat) (Option.some (Jvm.ClassFile.FieldType.object "java/lang/Object")), Jvm.Cond.code ({ cls := "java/lang/String", name := "isEmpty", desc := "()Z" } : Jvm.MethodName) jdk_42_method_55_code (1 : Nat) (Option.some Jvm.ClassFile.FieldType.boolean), Jvm.Cond.code ({ cls := "com/example/eirene/eirene/KeySpace", name := "utf8Length", desc := "(Ljava/lang/String;Ljava/lang/String;)I" } : Jvm.MethodName) prog_4_method_9_code (5 : Nat) (Option.some Jvm.ClassFile.FieldType.int), Jvm.Cond.code ({ cls := "java/lang/String", name := "length", desc := "()I" } : Jvm.MethodName) jdk_42_method_54_code (1 : Nat) (Option.some Jvm.ClassFile.FieldType.int), Jvm.Cond.code ({ cls := "java/lang/String", name := "coder", desc := "()B" } : Jvm.MethodName) jdk_42_method_152_code (1 : Nat) (Option.some Jvm.ClassFile.FieldType.byte), Jvm.Cond.code ({ cls := "java/lang/String", name := "charAt", desc := "(I)C" } : Jvm.MethodName) jdk_42_method_56_code (2 : Nat) (Option.some Jvm.ClassFile.FieldType.char), Jvm.Cond.code ({ cls := "java/lang/String", name := "isLatin1", desc := "()Z" } : Jvm.MethodName) jdk_42_method_154_code (1 : Nat) (Option.some Jvm.ClassFile.FieldType.boolean), Jvm.Cond.code ({ cls := "java/lang/StringUTF16", name := "charAt", desc := "([BI)C" } : Jvm.MethodName) jdk_52_method_83_code (2 : Nat) (Option.some Jvm.ClassFile.FieldType.char), Jvm.Cond.code ({ cls := "java/lang/StringUTF16", name := "checkIndex", desc := "(I[B)V" } : Jvm.MethodName) jdk_52_method_91_code (2 : Nat) (Option.none : Option Jvm.ClassFile.FieldType), Jvm.Cond.code ({ cls := "java/lang/StringUTF16", name := "length", desc := "([B)I" } : Jvm.MethodName) jdk_52_method_6_code (1 : Nat) (Option.some Jvm.ClassFile.FieldType.int), Jvm.Cond.code ({ cls := "java/lang/String", name := "checkIndex", desc := "(II)V" } : Jvm.MethodName) jdk_42_method_155_code (2 : Nat) (Option.none : Option Jvm.ClassFile.FieldType), Jvm.Cond.code ({ cls := "jdk/internal/util/Preconditions", name := "checkIndex", desc := "(IILjava/util/function/BiFunction;)I" } : Jvm.MethodName) jdk_41_method_11_code (3 : Nat) (Option.some Jvm.ClassFile.FieldType.int), Jvm.Cond.code ({ cls := "java/lang/Character", name := "isSurrogate", desc := "(C)Z" } : Jvm.MethodName) jdk_89_method_16_code (1 : Nat) (Option.some Jvm.ClassFile.FieldType.boolean), Jvm.Cond.code ({ cls := "java/lang/String", name := "valueOf", desc := "(C)Ljava/lang/String;" } : Jvm.MethodName) jdk_42_method_139_code (1 : Nat) (Option.some (Jvm.ClassFile.FieldType.object "java/lang/String")), Jvm.Cond.code ({ cls := "java/lang/StringLatin1", name := "canEncode", desc := "(C)Z" } : Jvm.MethodName) jdk_43_method_3_code (1 : Nat) (Option.some Jvm.ClassFile.FieldType.boolean), Jvm.Cond.code ({ cls := "java/lang/StringLatin1", name := "toBytes", desc := "(C)[B" } : Jvm.MethodName) jdk_43_method_46_code (1 : Nat) (Option.some (Jvm.ClassFile.FieldType.array Jvm.ClassFile.FieldType.byte)), Jvm.Cond.code ({ cls := "java/lang/String", name := "<init>", desc := "([BB)V" } : Jvm.MethodName) jdk_42_method_151_code (3 : Nat) (Option.none : Option Jvm.ClassFile.FieldType), Jvm.Cond.code ({ cls := "java/lang/StringLatin1", name := "charAt", desc := "([BI)C" } : Jvm.MethodName) jdk_43_method_2_code (2 : Nat) (Option.some Jvm.ClassFile.FieldType.char), Jvm.Cond.code ({ cls := "java/lang/Character", name := "isHighSurrogate", desc := "(C)Z" } : Jvm.MethodName) jdk_89_method_14_code (1 : Nat) (Option.some Jvm.ClassFile.FieldType.boolean), Jvm.Cond.code ({ cls := "java/lang/Character", name := "isLowSurrogate", desc := "(C)Z" } : Jvm.MethodName) jdk_89_method_15_code (1 : Nat) (Option.some Jvm.ClassFile.FieldType.boolean), Jvm.Cond.code ({ cls := "java/lang/StringUTF16", name := "toBytes", desc := "(C)[B" } : Jvm.MethodName) jdk_52_method_24_code (2 : Nat) (Option.some (Jvm.ClassFile.FieldType.array Jvm.ClassFile.FieldType.byte))]
set_option maxRecDepth 65536 in
theorem codes_eq : words1.filter isCode = codes1 := rfl
theorem w_codes : ∀ c ∈ words1.filter isCode, c.before args0 about1 = true := by
  rw [codes_eq]
  intro c hc
  simp only [codes1, List.mem_cons, List.not_mem_nil, or_false] at hc
  rcases hc with rfl | rfl | rfl | rfl | rfl | rfl | rfl | rfl | rfl | rfl | rfl | rfl | rfl | rfl | rfl | rfl | rfl | rfl | rfl | rfl | rfl | rfl | rfl | rfl | rfl | rfl | rfl | rfl | rfl | rfl | rfl | rfl | rfl | rfl | rfl | rfl
  · exact w_c0
  · exact w_c1
  · exact w_c2
  · exact w_c3
  · exact w_c4
  · exact w_c5
  · exact w_c6
  · exact w_c7
  · exact w_c8
  · exact w_c9
  · exact w_c10
  · exact w_c11
  · exact w_c12
  · exact w_c13
  · exact w_c14
  · exact w_c15
  · exact w_c16
  · exact w_c17
  · exact w_c18
  · exact w_c19
  · exact w_c20
  · exact w_c21
  · exact w_c22
  · exact w_c23
  · exact w_c24
  · exact w_c25
  · exact w_c26
  · exact w_c27
  · exact w_c28
  · exact w_c29
  · exact w_c30
  · exact w_c31
  · exact w_c32
  · exact w_c33
  · exact w_c34
  · exact w_c35
set_option maxRecDepth 65536 in
theorem w_t1 : (words1.take 24).all (fun c => isCode c || c.before args0 about1) = true := by decide +kernel
set_option maxRecDepth 65536 in
theorem w_t2 : ((words1.drop 24).take 24).all (fun c => isCode c || c.before args0 about1) = true := by decide +kernel
set_option maxRecDepth 65536 in
theorem w_t3 : (((words1.drop 24).drop 24).take 24).all (fun c => isCode c || c.before args0 about1) = true := by decide +kernel
set_option maxRecDepth 65536 in
theorem w_t4 : ((((words1.drop 24).drop 24).drop 24).take 24).all (fun c => isCode c || c.before args0 about1) = true := by decide +kernel
set_option maxRecDepth 65536 in
theorem w_t5 : (((((words1.drop 24).drop 24).drop 24).drop 24).take 24).all (fun c => isCode c || c.before args0 about1) = true := by decide +kernel
set_option maxRecDepth 65536 in
theorem w_t6 : ((((((words1.drop 24).drop 24).drop 24).drop 24).drop 24).take 24).all (fun c => isCode c || c.before args0 about1) = true := by decide +kernel
set_option maxRecDepth 65536 in
theorem w_t7 : ((((((words1.drop 24).drop 24).drop 24).drop 24).drop 24).drop 24).all (fun c => isCode c || c.before args0 about1) = true := by decide +kernel
theorem w_tables : (allAtoms (Jvm.Cond.code x code maxLocals ret :: tables_1)).before args0 about1 = true := by
  rw [allAtoms_all]
  show words1.all (fun c => c.before args0 about1) = true
  refine all_split ?_ w_codes
  rw [← List.take_append_drop 24 words1, List.all_append, w_t1, ← List.take_append_drop 24 (words1.drop 24), List.all_append, w_t2, ← List.take_append_drop 24 ((words1.drop 24).drop 24), List.all_append, w_t3, ← List.take_append_drop 24 (((words1.drop 24).drop 24).drop 24), List.all_append, w_t4, ← List.take_append_drop 24 ((((words1.drop 24).drop 24).drop 24).drop 24), List.all_append, w_t5, ← List.take_append_drop 24 (((((words1.drop 24).drop 24).drop 24).drop 24).drop 24), List.all_append, w_t6, w_t7]
  rfl
set_option maxRecDepth 65536 in
theorem w_rest : rest_1_c.before args0 about1 = true := by decide +kernel
set_option maxRecDepth 65536 in
theorem w_case : (Jvm.Cond.and given_1 narrow_1).before args0 about1 = true := by decide +kernel
theorem w_applies : (headSpec (Jvm.Cond.code x code maxLocals ret :: tables_1) room_1).applies x e0.platform about1 = true :=
  (Spec.applies_iff w_frames).mpr ⟨w_running, w_runnable, w_alone, w_named, w_hears, w_ripe, w_room, w_tables⟩
theorem atStart : AtStart classFile x code maxLocals ret World_1 tables_1 room_1 Calls_1 rest_1 Pre_1 launch0 p0 e0 about1 theMethod args0 below0 :=
  ⟨lists_1, trivial, launch0.admits_env _ _ _, launch0.least_env, fairChoices_fair.cas, fairChoices_fair.clock, w_frames, w_args, w_heap, w_applies, trivial, w_rest, w_case⟩
end start1
theorem witness_1 : WitnessClaimed_1 := ⟨start1.p0, start1.e0, start1.about1, start1.theMethod, start1.args0, start1.below0, start1.atStart⟩
end Jvm.Pilot.@@N@@
