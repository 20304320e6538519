import JvmDerived
import JvmDerived.Pilot.@@N@@Statement
import JvmDerived.Pilot.@@N@@Code
set_option linter.unusedVariables false
set_option linter.unusedSimpArgs false
/- laws to paste: Road.backV, Road.lenW, Road.chN, Road.empW, Road.codOf (cut by pick.py; bodies as the Statement names them) -/
namespace Jvm.Pilot.@@N@@
namespace StrChars
open Jvm Sem ClassFile Op Lib Jvm.Stand Jvm.Free.XT Jvm.Free.ALB Jvm.Free.JM Jvm.Free
open Jvm.Lib.Cold (StaticIs)
/-- a char array whose places are chars -/
def Ch (a : Addr) (A : Cell) (U : State) : Prop := Arr .char a A U ∧ Typed .char A
theorem Ch.mv {a : Addr} {A : Cell} {U U' : State} (h : Ch a A U) (hal : U.vm.Alike U'.vm) (hh : U'.heap = U.heap) : Ch a A U' := ⟨h.1.mv hal hh, h.2⟩
theorem Ch.keep {a : Addr} {A : Cell} {U U' : State} (h : Ch a A U) (hal : U.vm.Alike U'.vm) (hk : U'.heap[a]? = some A) : Ch a A U' := ⟨h.1.keep hal hk, h.2⟩
/-- what place i of a char[]'s cell holds -/
def cv (A : Cell) (i : Nat) : Int32 := match A.slots[i]? with | some (.int x) => x | _ => 0
theorem Ch.get {a : Addr} {A : Cell} {U : State} (h : Ch a A U) {i : Nat} (hi : i < A.slots.size) : A.slots[i]? = some (.int (cv A i)) := by
  have e := Array.getElem?_eq_getElem hi
  have f := h.2 i _ e
  unfold cv; rw [e]
  generalize A.slots[i] = v at f
  cases v <;> simp [fits] at f ⊢
/-- the byte that i2b leaves of a char -/
def lo8 (x : Int32) : Int32 := x.toInt8.toInt32
theorem fits_lo8 (y : Int32) : fits .byte (.int (lo8 y)) = true := by
  have h1 := y.toInt8.le_toInt
  have h2 := y.toInt8.toInt_lt
  simp only [lo8, fits, Bool.and_eq_true, decide_eq_true_eq, Int32.le_iff_toInt_le, Int8.toInt_toInt32, show (-128 : Int32).toInt = -128 from by decide, show (127 : Int32).toInt = 127 from by decide]
  omega
/-- A' is A but that each place j of lo .. hi - 1 holds f j -/
def Laid (A A' : Cell) (lo hi : Nat) (f : Nat → Value) : Prop := A'.cls = A.cls ∧ A'.vm = A.vm ∧ A'.slots.size = A.slots.size ∧ ∀ i, A'.slots[i]? = if lo ≤ i ∧ i < hi then some (f i) else A.slots[i]?
theorem Laid.zero (A : Cell) (lo : Nat) (f : Nat → Value) : Laid A A lo (lo + 0) f := ⟨rfl, rfl, rfl, fun i => by rw [if_neg (by omega)]⟩
theorem Laid.step {A Ak : Cell} {lo k : Nat} {f : Nat → Value} {v : Value} (h : Laid A Ak lo k f) (hlo : lo ≤ k) (hk : k < Ak.slots.size) (hv : v = f k) : Laid A (Ak.setSlot k v) lo (k + 1) f := by
  refine ⟨h.1, h.2.1, by simpa [Cell.setSlot] using h.2.2.1, fun i => ?_⟩
  by_cases e : k = i
  · subst e; rw [Cell.slots_setSlot_self v hk, if_pos (by omega), hv]
  · rw [Cell.slots_setSlot_ne v e, h.2.2.2 i]
    by_cases q : lo ≤ i ∧ i < k
    · rw [if_pos q, if_pos (by omega)]
    · rw [if_neg q, if_neg (by omega)]
def U16 : String := "java/lang/StringUTF16"
namespace Cmp5
def yN : MethodName := ⟨"java/lang/StringUTF16", "compress", "([CI[BII)I"⟩
abbrev yB : ByteArray := jdk_52_method_21_code
theorem d0 : decode yB 0 = .ok (.iconst 0, 1) := by decide +kernel
theorem d1 : decode yB 1 = .ok (.istore 5, 2) := by decide +kernel
theorem d3 : decode yB 3 = .ok (.iload 5, 2) := by decide +kernel
theorem d5 : decode yB 5 = .ok (.iload 4, 2) := by decide +kernel
theorem d7 : decode yB 7 = .ok (.if_icmp (.ge) 37, 3) := by decide +kernel
theorem d10 : decode yB 10 = .ok (.aload_n 0, 1) := by decide +kernel
theorem d11 : decode yB 11 = .ok (.iload_n 1, 1) := by decide +kernel
theorem d12 : decode yB 12 = .ok (.caload, 1) := by decide +kernel
theorem d13 : decode yB 13 = .ok (.istore 6, 2) := by decide +kernel
theorem d15 : decode yB 15 = .ok (.iload 6, 2) := by decide +kernel
theorem d17 : decode yB 17 = .ok (.sipush 255, 3) := by decide +kernel
theorem d20 : decode yB 20 = .ok (.if_icmp (.le) 6, 3) := by decide +kernel
theorem d26 : decode yB 26 = .ok (.aload_n 2, 1) := by decide +kernel
theorem d27 : decode yB 27 = .ok (.iload_n 3, 1) := by decide +kernel
theorem d28 : decode yB 28 = .ok (.iload 6, 2) := by decide +kernel
theorem d30 : decode yB 30 = .ok (.i2b, 1) := by decide +kernel
theorem d31 : decode yB 31 = .ok (.bastore, 1) := by decide +kernel
theorem d32 : decode yB 32 = .ok (.iinc 1 1, 3) := by decide +kernel
theorem d35 : decode yB 35 = .ok (.iinc 3 1, 3) := by decide +kernel
theorem d38 : decode yB 38 = .ok (.iinc 5 1, 3) := by decide +kernel
theorem d41 : decode yB 41 = .ok (.goto (-38), 3) := by decide +kernel
theorem d44 : decode yB 44 = .ok (.iload 4, 2) := by decide +kernel
theorem d46 : decode yB 46 = .ok (.ireturn, 1) := by decide +kernel
def site : List Cond := []
def tab : Cond := tabOf yN yB 7 (some .int) site
def P (b : Addr) (A : Cell) (d : Addr) (B : Cell) (o q len : Nat) (args : Array Value) (s : State) : Prop := args = #[.ref b, .int (Int32.ofNat o), .ref d, .int (Int32.ofNat q), .int (Int32.ofNat len)] ∧ Ch b A s ∧ Arr .byte d B s ∧ b ≠ d ∧ o + len ≤ A.slots.size ∧ q + len ≤ B.slots.size ∧ ∀ i, i < len → ¬ 255 < cv A (o + i)
def E (b : Addr) (A : Cell) (d : Addr) (B : Cell) (o q len : Nat) (r : Option Value) (s u : State) : Prop := r = some (.int (Int32.ofNat len)) ∧ ∃ B', Put d B' s u ∧ Laid B B' q (q + len) (fun j => Value.int (lo8 (cv A (o + (j - q)))))
/-- no char of the range above 255: len; the places written hold each char's low byte -/
theorem law (l : Launch) (b : Addr) (A : Cell) (d : Addr) (B : Cell) (o q len : Nat) : Law l yN 5 5 0 0 yB 7 (some .int) site (P b A d B o q len) (E b A d B o q len) (copyLocs d q len) 0 0 := by
  refine Law.of_walk (plainFor_of_name (by decide +kernel)) (by decide +kernel) (by decide +kernel) (by decide) (fun _ _ h => by rw [h.1]; rfl) (fun _ U U' hal hh h => ⟨h.1, h.2.1.mv hal hh, h.2.2.1.mv hal hh, h.2.2.2⟩) (fun r U U' V V' h1 hal h2 h => ⟨h.1, h.2.elim fun B' q => ⟨B', q.1.mv h1 h2, q.2⟩⟩) ?_
  intro p e s m args below meth c s₁ X0 hexec hbytes hml hret hlk hnm hown hh0 W hP
  obtain ⟨rfl, hA, hB, hne, l1, l2, hp⟩ := hP
  have c1 : Steps p.tables e below (s₁.setTop (entryFrame m #[.ref b, .int (Int32.ofNat o), .ref d, .int (Int32.ofNat q), .int (Int32.ofNat len)] 7)) (s₁.setTop (mkF m 0 #[.val (.ref b), .val (.int (Int32.ofNat o)), .val (.ref d), .val (.int (Int32.ofNat q)), .val (.int (Int32.ofNat len)), .unset, .unset] [])) := entry rfl
  have hA0 := hA.1.mv X0.warmed.alike hh0
  have hB0 := hB.mv X0.warmed.alike hh0
  have a31 := hA.1.2.2.2
  have c2 : Steps p.tables e below (s₁.setTop (entryFrame m #[.ref b, .int (Int32.ofNat o), .ref d, .int (Int32.ofNat q), .int (Int32.ofNat len)] 7)) (s₁.setTop (mkF m 3 #[.val (.ref b), .val (.int (Int32.ofNat o)), .val (.ref d), .val (.int (Int32.ofNat q)), .val (.int (Int32.ofNat len)), .val (.int 0), .unset] [])) := c1.trans (by
    refine iconstV X0.here hexec rfl 0 (hb hbytes d0) (by decide) ?_
    refine XS.istore X0.here hexec rfl (hb hbytes d1) rfl rfl ?_
    exact Steps.refl _)
  have loop : ∀ (r i : Nat), i + r = len → ∀ (z : Slot), (z = .unset ∨ ∃ w, z = .val w ∧ w.category = 1) → ∀ (Tl : State) (Bk : Cell), Stand p l e { frames := 0, locals := 0, cells := 0, slots := 0 } s m #[.ref b, .int (Int32.ofNat o), .ref d, .int (Int32.ofNat q), .int (Int32.ofNat len)] below meth c Tl ([] ++ copyLocs d q i) 0 0 → Put d Bk s₁ Tl → Laid B Bk q (q + i) (fun j => Value.int (lo8 (cv A (o + (j - q))))) →
      Steps p.tables e below (s₁.setTop (entryFrame m #[.ref b, .int (Int32.ofNat o), .ref d, .int (Int32.ofNat q), .int (Int32.ofNat len)] 7)) (Tl.setTop (mkF m 3 #[.val (.ref b), .val (.int (Int32.ofNat (o + i))), .val (.ref d), .val (.int (Int32.ofNat (q + i))), .val (.int (Int32.ofNat len)), .val (.int (Int32.ofNat i)), z] [])) → ∃ (T' : State) (B' : Cell) (z' : Slot), Stand p l e { frames := 0, locals := 0, cells := 0, slots := 0 } s m #[.ref b, .int (Int32.ofNat o), .ref d, .int (Int32.ofNat q), .int (Int32.ofNat len)] below meth c T' ([] ++ copyLocs d q len) 0 0 ∧ Put d B' s₁ T' ∧ Laid B B' q (q + len) (fun j => Value.int (lo8 (cv A (o + (j - q))))) ∧
      Steps p.tables e below (s₁.setTop (entryFrame m #[.ref b, .int (Int32.ofNat o), .ref d, .int (Int32.ofNat q), .int (Int32.ofNat len)] 7)) (T'.setTop (mkF m 3 #[.val (.ref b), .val (.int (Int32.ofNat (o + len))), .val (.ref d), .val (.int (Int32.ofNat (q + len))), .val (.int (Int32.ofNat len)), .val (.int (Int32.ofNat len)), z'] [])) := by
    intro r
    induction r with
    | zero =>
      intro i hi z hz Tl Bk Xl pl fl cl
      have hil : i = len := by omega
      rw [hil] at Xl fl cl
      exact ⟨Tl, Bk, z, Xl, pl, fl, cl⟩
    | succ r ih =>
      intro i hi z hz Tl Bk Xl pl fl cl
      have all := X0.warmed.alike.symm.trans Xl.warmed.alike
      have hAl := hA0.keep all (pl.other hne hA0.1)
      have hBk := hB0.like all pl.1 fl.1 fl.2.1 fl.2.2.1
      have hlt : q + i < Bk.slots.size := by rw [fl.2.2.1]; omega
      have c3 : Steps p.tables e below (s₁.setTop (entryFrame m #[.ref b, .int (Int32.ofNat o), .ref d, .int (Int32.ofNat q), .int (Int32.ofNat len)] 7)) (Tl.setTop (mkF m 12 #[.val (.ref b), .val (.int (Int32.ofNat (o + i))), .val (.ref d), .val (.int (Int32.ofNat (q + i))), .val (.int (Int32.ofNat len)), .val (.int (Int32.ofNat i)), z] [.int (Int32.ofNat (o + i)), .ref b])) := cl.trans (by
        refine XS.iload Xl.here hexec rfl (hb hbytes d3) rfl ?_
        refine XS.iload Xl.here hexec rfl (hb hbytes d5) rfl ?_
        refine XS.icmpNo Xl.here hexec rfl (hb hbytes d7) rfl (ii_ge_f (lt32 (by omega) (by omega))) ?_
        refine XS.aloadN Xl.here hexec rfl (hb hbytes d10) rfl rfl ?_
        refine XS.iloadN Xl.here hexec rfl (hb hbytes d11) rfl ?_
        exact Steps.refl _)
      have c4 : Steps p.tables e below (s₁.setTop (entryFrame m #[.ref b, .int (Int32.ofNat o), .ref d, .int (Int32.ofNat q), .int (Int32.ofNat len)] 7)) (Tl.setTop (mkF m 13 #[.val (.ref b), .val (.int (Int32.ofNat (o + i))), .val (.ref d), .val (.int (Int32.ofNat (q + i))), .val (.int (Int32.ofNat len)), .val (.int (Int32.ofNat i)), z] [.int (cv A (o + i))])) := c3.trans (by
        refine Xl.aget hexec hAl rfl (hA.get (i := o + i) (by omega)) rfl rfl (hb hbytes d12) ?_
        exact Steps.refl _)
      have c5 : Steps p.tables e below (s₁.setTop (entryFrame m #[.ref b, .int (Int32.ofNat o), .ref d, .int (Int32.ofNat q), .int (Int32.ofNat len)] 7)) (Tl.setTop (mkF m 15 #[.val (.ref b), .val (.int (Int32.ofNat (o + i))), .val (.ref d), .val (.int (Int32.ofNat (q + i))), .val (.int (Int32.ofNat len)), .val (.int (Int32.ofNat i)), .val (.int (cv A (o + i)))] [])) := c4.trans (by
        refine XS.istoreS Xl.here hexec rfl (hb hbytes d13) rfl rfl hz ?_
        exact Steps.refl _)
      have c6 : Steps p.tables e below (s₁.setTop (entryFrame m #[.ref b, .int (Int32.ofNat o), .ref d, .int (Int32.ofNat q), .int (Int32.ofNat len)] 7)) (Tl.setTop (mkF m 31 #[.val (.ref b), .val (.int (Int32.ofNat (o + i))), .val (.ref d), .val (.int (Int32.ofNat (q + i))), .val (.int (Int32.ofNat len)), .val (.int (Int32.ofNat i)), .val (.int (cv A (o + i)))] [.int (lo8 (cv A (o + i))), .int (Int32.ofNat (q + i)), .ref d])) := c5.trans (by
        refine XS.iload Xl.here hexec rfl (hb hbytes d15) rfl ?_
        refine sipushV Xl.here hexec rfl 255 (hb hbytes d17) (by decide) ?_
        refine XS.icmpYes Xl.here hexec rfl (pc0 := 20) rfl (hb hbytes d20) rfl (ii_le_t (hp i (by omega))) (by decide) rfl ?_
        refine XS.aloadN Xl.here hexec rfl (hb hbytes d26) rfl rfl ?_
        refine XS.iloadN Xl.here hexec rfl (hb hbytes d27) rfl ?_
        refine XS.iload Xl.here hexec rfl (hb hbytes d28) rfl ?_
        refine i2b Xl.here hexec rfl (hb hbytes d30) rfl ?_
        exact Steps.refl _)
      obtain ⟨T7, X7, p7, st7⟩ := Xl.aput hexec hBk rfl hlt rfl (fits_lo8 (cv A (o + i))) (g := (mkF m 31 #[.val (.ref b), .val (.int (Int32.ofNat (o + i))), .val (.ref d), .val (.int (Int32.ofNat (q + i))), .val (.int (Int32.ofNat len)), .val (.int (Int32.ofNat i)), .val (.int (cv A (o + i)))] [.int (lo8 (cv A (o + i))), .int (Int32.ofNat (q + i)), .ref d])) rfl (rest := []) rfl (hb hbytes d31)
      have c8 : Steps p.tables e below (s₁.setTop (entryFrame m #[.ref b, .int (Int32.ofNat o), .ref d, .int (Int32.ofNat q), .int (Int32.ofNat len)] 7)) (T7.setTop (mkF m 32 #[.val (.ref b), .val (.int (Int32.ofNat (o + i))), .val (.ref d), .val (.int (Int32.ofNat (q + i))), .val (.int (Int32.ofNat len)), .val (.int (Int32.ofNat i)), .val (.int (cv A (o + i)))] [])) := c6.trans (st7 _ (Steps.refl _))
      have c9 : Steps p.tables e below (s₁.setTop (entryFrame m #[.ref b, .int (Int32.ofNat o), .ref d, .int (Int32.ofNat q), .int (Int32.ofNat len)] 7)) (T7.setTop (mkF m 3 #[.val (.ref b), .val (.int (Int32.ofNat (o + i) + 1)), .val (.ref d), .val (.int (Int32.ofNat (q + i) + 1)), .val (.int (Int32.ofNat len)), .val (.int (Int32.ofNat i + 1)), .val (.int (cv A (o + i)))] [])) := c8.trans (by
        refine iincV X7.here hexec rfl 1 (hb hbytes d32) (by decide) rfl rfl ?_
        refine iincV X7.here hexec rfl 1 (hb hbytes d35) (by decide) rfl rfl ?_
        refine iincV X7.here hexec rfl 1 (hb hbytes d38) (by decide) rfl rfl ?_
        refine XS.goto X7.here hexec rfl (pc0 := 41) rfl (hb hbytes d41) (by decide) rfl ?_
        exact Steps.refl _)
      have c10 : Steps p.tables e below (s₁.setTop (entryFrame m #[.ref b, .int (Int32.ofNat o), .ref d, .int (Int32.ofNat q), .int (Int32.ofNat len)] 7)) (T7.setTop (mkF m 3 #[.val (.ref b), .val (.int (Int32.ofNat (o + (i + 1)))), .val (.ref d), .val (.int (Int32.ofNat (q + (i + 1)))), .val (.int (Int32.ofNat len)), .val (.int (Int32.ofNat (i + 1))), .val (.int (cv A (o + i)))] [])) := by
        have := c9
        rw [succ32, succ32, succ32] at this
        exact this
      exact ih (i + 1) (by omega) _ (Or.inr ⟨_, rfl, rfl⟩) T7 _ (by rw [copyLocs_step, ← List.append_assoc]; exact X7) (pl.trans p7) (fl.step (by omega) hlt (by simp)) c10
  obtain ⟨T9, B9, z9, X9, p9, f9, g9⟩ := loop len 0 (by omega) .unset (Or.inl rfl) s₁ B (by simpa [copyLocs] using X0) ⟨hB0.1, fun _ _ => rfl, rfl⟩ (Laid.zero _ _ _) c2
  have c11 : Steps p.tables e below (s₁.setTop (entryFrame m #[.ref b, .int (Int32.ofNat o), .ref d, .int (Int32.ofNat q), .int (Int32.ofNat len)] 7)) (T9.setTop (mkF m 46 #[.val (.ref b), .val (.int (Int32.ofNat (o + len))), .val (.ref d), .val (.int (Int32.ofNat (q + len))), .val (.int (Int32.ofNat len)), .val (.int (Int32.ofNat len)), z9] [.int (Int32.ofNat len)])) := g9.trans (by
    refine XS.iload X9.here hexec rfl (hb hbytes d3) rfl ?_
    refine XS.iload X9.here hexec rfl (hb hbytes d5) rfl ?_
    refine XS.icmpYes X9.here hexec rfl (pc0 := 7) rfl (hb hbytes d7) rfl (ii_ge_t (nlt32 (by omega) (Nat.le_refl _))) (by decide) rfl ?_
    refine XS.iload X9.here hexec rfl (hb hbytes d44) rfl ?_
    exact Steps.refl _)
  exact ⟨T9, some (.int (Int32.ofNat len)), _, _, _, X9, by simp, rfl, rfl, (fun h => by cases h), ⟨rfl, B9, p9.from hh0, f9⟩, fun fs hl => c11.trans (X9.ireturnOut hexec hret rfl (Or.inl rfl) (hb hbytes d46) hl)⟩
end Cmp5
namespace Cmp3
def yN : MethodName := ⟨"java/lang/StringUTF16", "compress", "([CII)[B"⟩
abbrev yB : ByteArray := jdk_52_method_16_code
theorem d0 : decode yB 0 = .ok (.iload_n 2, 1) := by decide +kernel
theorem d1 : decode yB 1 = .ok (.newarray .byte, 2) := by decide +kernel
theorem d3 : decode yB 3 = .ok (.astore_n 3, 1) := by decide +kernel
theorem d4 : decode yB 4 = .ok (.aload_n 0, 1) := by decide +kernel
theorem d5 : decode yB 5 = .ok (.iload_n 1, 1) := by decide +kernel
theorem d6 : decode yB 6 = .ok (.aload_n 3, 1) := by decide +kernel
theorem d7 : decode yB 7 = .ok (.iconst 0, 1) := by decide +kernel
theorem d8 : decode yB 8 = .ok (.iload_n 2, 1) := by decide +kernel
theorem d9 : decode yB 9 = .ok (.invokestatic 115, 3) := by decide +kernel
theorem d12 : decode yB 12 = .ok (.istore 4, 2) := by decide +kernel
theorem d14 : decode yB 14 = .ok (.iload 4, 2) := by decide +kernel
theorem d16 : decode yB 16 = .ok (.iload_n 2, 1) := by decide +kernel
theorem d17 : decode yB 17 = .ok (.if_icmp (.eq) 40, 3) := by decide +kernel
theorem d57 : decode yB 57 = .ok (.aload_n 3, 1) := by decide +kernel
theorem d58 : decode yB 58 = .ok (.areturn, 1) := by decide +kernel
def site : List Cond := [.arrayClass .byte, Cmp5.tab] ++ staticW U16 115 Cmp5.yN
def tab : Cond := tabOf yN yB 6 (some (.array .byte)) site
def P (b : Addr) (A : Cell) (o len : Nat) (args : Array Value) (s : State) : Prop := args = #[.ref b, .int (Int32.ofNat o), .int (Int32.ofNat len)] ∧ Ch b A s ∧ o + len ≤ A.slots.size ∧ len ≤ 536870912 ∧ ∀ i, i < len → ¬ 255 < cv A (o + i)
def E (b : Addr) (A : Cell) (o len : Nat) (r : Option Value) (s u : State) : Prop := NewArr .byte "[B" len (fun j => .int (lo8 (cv A (o + j)))) r s u ∧ u.heap.size = s.heap.size + 1
/-- no char of the range above 255: a new byte[] of their low bytes -/
theorem law (l : Launch) (b : Addr) (A : Cell) (o len : Nat) : Law l yN 3 3 1 18 yB 6 (some (.array .byte)) site (P b A o len) (E b A o len) [] 1 len := by
  refine Law.of_walk (plainFor_of_name (by decide +kernel)) (by decide +kernel) (by decide +kernel) (by decide) (fun _ _ h => by rw [h.1]; rfl) (fun _ U U' hal hh h => ⟨h.1, h.2.1.mv hal hh, h.2.2⟩) (fun r U U' V V' h1 hal h2 h => ⟨NewArr.mv r U U' V V' h1 hal h2 h.1, by rw [h1, h2]; exact h.2⟩) ?_
  intro p e s m args below meth c s₁ X0 hexec hbytes hml hret hlk hnm hown hh0 W hP
  obtain ⟨rfl, hA, l1, l2, hp⟩ := hP
  have a31 := hA.1.2.2.2
  have c1 : Steps p.tables e below (s₁.setTop (entryFrame m #[.ref b, .int (Int32.ofNat o), .int (Int32.ofNat len)] 6)) (s₁.setTop (mkF m 0 #[.val (.ref b), .val (.int (Int32.ofNat o)), .val (.int (Int32.ofNat len)), .unset, .unset, .unset] [])) := entry rfl
  have c2 : Steps p.tables e below (s₁.setTop (entryFrame m #[.ref b, .int (Int32.ofNat o), .int (Int32.ofNat len)] 6)) (s₁.setTop (mkF m 1 #[.val (.ref b), .val (.int (Int32.ofNat o)), .val (.int (Int32.ofNat len)), .unset, .unset, .unset] [.int (Int32.ofNat len)])) := c1.trans (by
    refine XS.iloadN X0.here hexec rfl (hb hbytes d0) rfl ?_
    exact Steps.refl _)
  obtain ⟨T3, B3, X3, ba3, bs3, bv3, bh3, bf3, st3⟩ := X0.anew hexec (atype := .byte) (wk W (.arrayClass .byte)) rfl (by show len * 1 ≤ _; omega) (by omega) (g := (mkF m 1 #[.val (.ref b), .val (.int (Int32.ofNat o)), .val (.int (Int32.ofNat len)), .unset, .unset, .unset] [.int (Int32.ofNat len)])) rfl (hb hbytes d1) (rest := []) rfl (Nat.le_refl _) (by show 0 + len ≤ len; omega)
  rw [hh0] at ba3 st3
  have kp3 : XT.Kept s T3 := (XT.Kept.of_eq hh0).push bh3
  have hA3 := hA.keep X3.warmed.alike (kp3 _ _ hA.1.1)
  have hne : b ≠ s.heap.size := hA.1.ne
  have c4 : Steps p.tables e below (s₁.setTop (entryFrame m #[.ref b, .int (Int32.ofNat o), .int (Int32.ofNat len)] 6)) (T3.setTop (mkF m 3 #[.val (.ref b), .val (.int (Int32.ofNat o)), .val (.int (Int32.ofNat len)), .unset, .unset, .unset] [.ref s.heap.size])) := c2.trans (st3 _ (Steps.refl _))
  have c5 : Steps p.tables e below (s₁.setTop (entryFrame m #[.ref b, .int (Int32.ofNat o), .int (Int32.ofNat len)] 6)) (T3.setTop (mkF m 9 #[.val (.ref b), .val (.int (Int32.ofNat o)), .val (.int (Int32.ofNat len)), .val (.ref s.heap.size), .unset, .unset] [.int (Int32.ofNat len), .int 0, .ref s.heap.size, .int (Int32.ofNat o), .ref b])) := c4.trans (by
    refine XS.astoreN X3.here hexec rfl (hb hbytes d3) rfl rfl rfl ?_
    refine XS.aloadN X3.here hexec rfl (hb hbytes d4) rfl rfl ?_
    refine XS.iloadN X3.here hexec rfl (hb hbytes d5) rfl ?_
    refine XS.aloadN X3.here hexec rfl (hb hbytes d6) rfl rfl ?_
    refine iconstV X3.here hexec rfl 0 (hb hbytes d7) (by decide) ?_
    refine XS.iloadN X3.here hexec rfl (hb hbytes d8) rfl ?_
    exact Steps.refl _)
  obtain ⟨v6, T6, X6, E6, g6⟩ := X3.callS hexec (Cmp5.law l b A s.heap.size B3 o 0 len) hown (wks W (staticW U16 115 Cmp5.yN)) (wk W Cmp5.tab) (W := 0) (Nat.le_of_ble_eq_true rfl) (Nat.le_of_ble_eq_true rfl) (Nat.le_refl _) (by show 0 + len + 0 ≤ len; omega) (g := (mkF m 9 #[.val (.ref b), .val (.int (Int32.ofNat o)), .val (.int (Int32.ofNat len)), .val (.ref s.heap.size), .unset, .unset] [.int (Int32.ofNat len), .int (Int32.ofNat 0), .ref s.heap.size, .int (Int32.ofNat o), .ref b])) rfl (by rw [hml]; rfl) c5 (argsL := [.ref b, .int (Int32.ofNat o), .ref s.heap.size, .int (Int32.ofNat 0), .int (Int32.ofNat len)]) (rest := []) rfl rfl (by show 2 * 0 + 0 ≤ _; decide) (hb hbytes d9) (⟨rfl, hA3, ba3, hne, l1, by rw [bs3]; simp, hp⟩)
  obtain ⟨rfl, B6, p6, f6⟩ := E6
  have c7 : Steps p.tables e below (s₁.setTop (entryFrame m #[.ref b, .int (Int32.ofNat o), .int (Int32.ofNat len)] 6)) (T6.setTop (mkF m 12 #[.val (.ref b), .val (.int (Int32.ofNat o)), .val (.int (Int32.ofNat len)), .val (.ref s.heap.size), .unset, .unset] [.int (Int32.ofNat len)])) := g6
  have c8 : Steps p.tables e below (s₁.setTop (entryFrame m #[.ref b, .int (Int32.ofNat o), .int (Int32.ofNat len)] 6)) (T6.setTop (mkF m 58 #[.val (.ref b), .val (.int (Int32.ofNat o)), .val (.int (Int32.ofNat len)), .val (.ref s.heap.size), .val (.int (Int32.ofNat len)), .unset] [.ref s.heap.size])) := c7.trans (by
    refine XS.istore X6.here hexec rfl (hb hbytes d12) rfl rfl ?_
    refine XS.iload X6.here hexec rfl (hb hbytes d14) rfl ?_
    refine XS.iloadN X6.here hexec rfl (hb hbytes d16) rfl ?_
    refine XS.icmpYes X6.here hexec rfl (pc0 := 17) rfl (hb hbytes d17) rfl (ii_eq_t rfl) (by decide) rfl ?_
    refine XS.aloadN X6.here hexec rfl (hb hbytes d57) rfl rfl ?_
    exact Steps.refl _)
  have X8 := X6.wide (L' := []) (cells' := 1) (slots' := len) (fun x hx hlt => by
    simp only [List.nil_append, copyLocs, List.mem_map, List.mem_range] at hx
    obtain ⟨i, -, rfl⟩ := hx
    exact absurd hlt (Nat.lt_irrefl _)) (Nat.le_refl _) (by omega)
  exact ⟨T6, some (.ref s.heap.size), _, _, _, X8, rfl, rfl, rfl, (fun h => by cases h), ⟨⟨rfl, B6, ba3.like (X3.warmed.alike.symm.trans X6.warmed.alike) p6.1 f6.1 f6.2.1 f6.2.2.1, f6.2.1.trans bv3, by rw [X6.warmed.alike.findClass, f6.1]; exact bf3, by rw [f6.2.2.1, bs3]; simp, fun j hj => by rw [f6.2.2.2 j, if_pos (by omega)]; rfl, kp3.put p6 (Nat.le_refl _)⟩, by rw [p6.2.2, bh3, hh0]; simp⟩, fun fs hl => c8.trans (X8.areturnOut hexec rfl hret rfl (hb hbytes d58) hl)⟩
end Cmp3
namespace CodL
def yN : MethodName := ⟨"java/lang/StringUTF16", "coderFromArrayLen", "([BI)B"⟩
abbrev yB : ByteArray := jdk_52_method_15_code
theorem d0 : decode yB 0 = .ok (.iload_n 1, 1) := by decide +kernel
theorem d1 : decode yB 1 = .ok (.aload_n 0, 1) := by decide +kernel
theorem d2 : decode yB 2 = .ok (.arraylength, 1) := by decide +kernel
theorem d3 : decode yB 3 = .ok (.isub, 1) := by decide +kernel
theorem d4 : decode yB 4 = .ok (.bipush 31, 2) := by decide +kernel
theorem d6 : decode yB 6 = .ok (.iushr, 1) := by decide +kernel
theorem d7 : decode yB 7 = .ok (.i2b, 1) := by decide +kernel
theorem d8 : decode yB 8 = .ok (.ireturn, 1) := by decide +kernel
def site : List Cond := []
def tab : Cond := tabOf yN yB 2 (some .byte) site
def P (d : Addr) (B : Cell) (args : Array Value) (s : State) : Prop := args = #[.ref d, .int (Int32.ofNat B.slots.size)] ∧ Arr .byte d B s
def E (r : Option Value) (s u : State) : Prop := XT.PureE (some (.int 0)) r s u
/-- an array as long as the number of chars: LATIN1 -/
theorem law (l : Launch) (d : Addr) (B : Cell) : Law l yN 2 2 0 0 yB 2 (some .byte) site (P d B) E [] 0 0 := by
  refine Law.of_walk (plainFor_of_name (by decide +kernel)) (by decide +kernel) (by decide +kernel) (by decide) (fun _ _ h => by rw [h.1]; rfl) (fun _ U U' hal hh h => ⟨h.1, h.2.mv hal hh⟩) (fun r U U' V V' h1 hal h2 h => XT.PureE.mv r U U' V V' h1 hal h2 h) ?_
  intro p e s m args below meth c s₁ X0 hexec hbytes hml hret hlk hnm hown hh0 W hP
  obtain ⟨rfl, hB⟩ := hP
  have hB0 := hB.mv X0.warmed.alike hh0
  have c1 : Steps p.tables e below (s₁.setTop (entryFrame m #[.ref d, .int (Int32.ofNat B.slots.size)] 2)) (s₁.setTop (mkF m 0 #[.val (.ref d), .val (.int (Int32.ofNat B.slots.size))] [])) := entry rfl
  have c2 : Steps p.tables e below (s₁.setTop (entryFrame m #[.ref d, .int (Int32.ofNat B.slots.size)] 2)) (s₁.setTop (mkF m 2 #[.val (.ref d), .val (.int (Int32.ofNat B.slots.size))] [.ref d, .int (Int32.ofNat B.slots.size)])) := c1.trans (by
    refine XS.iloadN X0.here hexec rfl (hb hbytes d0) rfl ?_
    refine XS.aloadN X0.here hexec rfl (hb hbytes d1) rfl rfl ?_
    exact Steps.refl _)
  have c3 : Steps p.tables e below (s₁.setTop (entryFrame m #[.ref d, .int (Int32.ofNat B.slots.size)] 2)) (s₁.setTop (mkF m 8 #[.val (.ref d), .val (.int (Int32.ofNat B.slots.size))] [.int (lo8 (ushr (Int32.ofNat B.slots.size - Int32.ofNat B.slots.size) 31))])) := c2.trans (by
    refine X0.alen hexec hB0 rfl rfl (hb hbytes d2) ?_
    refine XS.isub X0.here hexec rfl (hb hbytes d3) rfl ?_
    refine bipushV X0.here hexec rfl 31 (hb hbytes d4) (by decide) ?_
    refine iushr X0.here hexec rfl (hb hbytes d6) rfl ?_
    refine i2b X0.here hexec rfl (hb hbytes d7) rfl ?_
    exact Steps.refl _)
  have e0 : lo8 (ushr (Int32.ofNat B.slots.size - Int32.ofNat B.slots.size) 31) = 0 := by rw [Int32.sub_self]; decide
  rw [e0] at c3
  exact ⟨s₁, some (.int 0), _, _, _, X0, rfl, rfl, rfl, (fun h => by cases h), ⟨rfl, hh0⟩, fun fs hl => c3.trans (X0.ireturnOut hexec hret rfl (Or.inr (Or.inr (Or.inl rfl))) (hb hbytes d8) hl)⟩
end CodL
/-- the String at a is Latin-1 over a new byte[] (the heap's one new cell): the low bytes of the len chars of A from o on; every cell but a is kept -/
def Got (a : Addr) (D : Cell) (fV fC : Field) (A : Cell) (o len : Nat) (r : Option Value) (s u : State) : Prop := r = none ∧ ∃ D' V : Cell, Blank "java/lang/String" a D' u ∧ Same D D' [fV.slot, fC.slot] ∧ D'.slots[fV.slot]? = some (.ref s.heap.size) ∧ D'.slots[fC.slot]? = some (.int 0) ∧ Arr .byte s.heap.size V u ∧ V.vm = .none ∧ u.vm.findClass "[B" = some V.cls ∧ V.slots.size = len ∧ (∀ j, j < len → V.slots[j]? = some (.int (lo8 (cv A (o + j))))) ∧ (∀ (y : Addr) (c : Cell), y ≠ a → s.heap[y]? = some c → u.heap[y]? = some c) ∧ u.heap.size = s.heap.size + 1
theorem Got.mv {a : Addr} {D A : Cell} {fV fC : Field} {o len : Nat} : ∀ r (U U' V V' : State), U'.heap = U.heap → V.vm.Alike V'.vm → V'.heap = V.heap → Got a D fV fC A o len r U V → Got a D fV fC A o len r U' V' :=
  fun r U U' V V' h1 hal h2 ⟨e0, D', X, a1, a2, a3, a4, a5, a6, a7, a8, a9, a10, a11⟩ => ⟨e0, D', X, a1.mv hal h2, a2, by rw [h1]; exact a3, a4, by rw [h1]; exact a5.mv hal h2, a6, by rw [hal.findClass]; exact a7, a8, a9, by rw [h1, h2]; exact a10, by rw [h1, h2]; exact a11⟩
namespace New4
def yN : MethodName := ⟨"java/lang/String", "<init>", "([CIILjava/lang/Void;)V"⟩
abbrev yB : ByteArray := jdk_42_method_149_code
theorem d0 : decode yB 0 = .ok (.aload_n 0, 1) := by decide +kernel
theorem d1 : decode yB 1 = .ok (.invokespecial 1, 3) := by decide +kernel
theorem d4 : decode yB 4 = .ok (.iload_n 3, 1) := by decide +kernel
theorem d5 : decode yB 5 = .ok (.ifCond (.ne) 22, 3) := by decide +kernel
theorem d27 : decode yB 27 = .ok (.getstatic 38, 3) := by decide +kernel
theorem d30 : decode yB 30 = .ok (.ifCond (.eq) 28, 3) := by decide +kernel
theorem d33 : decode yB 33 = .ok (.aload_n 1, 1) := by decide +kernel
theorem d34 : decode yB 34 = .ok (.iload_n 2, 1) := by decide +kernel
theorem d35 : decode yB 35 = .ok (.iload_n 3, 1) := by decide +kernel
theorem d36 : decode yB 36 = .ok (.invokestatic 177, 3) := by decide +kernel
theorem d39 : decode yB 39 = .ok (.astore 5, 2) := by decide +kernel
theorem d41 : decode yB 41 = .ok (.aload_n 0, 1) := by decide +kernel
theorem d42 : decode yB 42 = .ok (.aload 5, 2) := by decide +kernel
theorem d44 : decode yB 44 = .ok (.iload_n 3, 1) := by decide +kernel
theorem d45 : decode yB 45 = .ok (.invokestatic 47, 3) := by decide +kernel
theorem d48 : decode yB 48 = .ok (.putfield 15, 3) := by decide +kernel
theorem d51 : decode yB 51 = .ok (.aload_n 0, 1) := by decide +kernel
theorem d52 : decode yB 52 = .ok (.aload 5, 2) := by decide +kernel
theorem d54 : decode yB 54 = .ok (.putfield 9, 3) := by decide +kernel
theorem d57 : decode yB 57 = .ok (.return_, 1) := by decide +kernel
def site : List Cond := [.fieldLink "java/lang/String" 38 "java/lang/String" "COMPACT_STRINGS" "Z", Cmp3.tab, CodL.tab, .laysFinal "java/lang/String" "java/lang/String" "value" "[B", .fieldLink "java/lang/String" 9 "java/lang/String" "value" "[B", .laysFinal "java/lang/String" "java/lang/String" "coder" "B", .fieldLink "java/lang/String" 15 "java/lang/String" "coder" "B"] ++ objW "java/lang/String" 1 ++ staticW "java/lang/String" 177 Cmp3.yN ++ staticW "java/lang/String" 47 CodL.yN
def tab : Cond := tabOf yN yB 6 none site
def P (a : Addr) (D : Cell) (fV fC : Field) (b : Addr) (A : Cell) (z : Int32) (o len : Nat) (args : Array Value) (s : State) : Prop := args = #[.ref a, .ref b, .int (Int32.ofNat o), .int (Int32.ofNat len), .null] ∧ Blank "java/lang/String" a D s ∧ Found "java/lang/String" "value" "[B" fV s ∧ Found "java/lang/String" "coder" "B" fC s ∧ Ch b A s ∧ StaticIs s "java/lang/String" "COMPACT_STRINGS" "Z" (.int z) ∧ ¬ z = 0 ∧ 0 < len ∧ o + len ≤ A.slots.size ∧ len ≤ 536870912 ∧ ∀ i, i < len → ¬ 255 < cv A (o + i)
def E (a : Addr) (D : Cell) (fV fC : Field) (A : Cell) (o len : Nat) (r : Option Value) (s u : State) : Prop := Got a D fV fC A o len r s u
/-- len > 0, no char of the range above 255: a Latin-1 String of their low bytes -/
theorem law (l : Launch) (a : Addr) (D : Cell) (fV fC : Field) (b : Addr) (A : Cell) (z : Int32) (o len : Nat) : Law l yN 5 4 2 35 yB 6 none site (P a D fV fC b A z o len) (E a D fV fC A o len) [⟨a, fC.slot⟩, ⟨a, fV.slot⟩] 1 len := by
  refine Law.of_walk (plainFor_of_name (by decide +kernel)) (by decide +kernel) (by decide +kernel) (by decide) (fun _ _ h => by rw [h.1]; rfl) (fun _ U U' hal hh h => ⟨h.1, h.2.1.mv hal hh, h.2.2.1.al hal, h.2.2.2.1.al hal, h.2.2.2.2.1.mv hal hh, h.2.2.2.2.2.1.there hal hh, h.2.2.2.2.2.2⟩) (fun r U U' V V' h1 hal h2 h => Got.mv r U U' V V' h1 hal h2 h) ?_
  intro p e s m args below meth c s₁ X0 hexec hbytes hml hret hlk hnm hown hh0 W hP
  obtain ⟨rfl, hB, f1, f2, hA, s1, hz, l0, l1, l2, hp⟩ := hP
  have a31 := hA.1.2.2.2
  have c1 : Steps p.tables e below (s₁.setTop (entryFrame m #[.ref a, .ref b, .int (Int32.ofNat o), .int (Int32.ofNat len), .null] 6)) (s₁.setTop (mkF m 0 #[.val (.ref a), .val (.ref b), .val (.int (Int32.ofNat o)), .val (.int (Int32.ofNat len)), .val .null, .unset] [])) := entry rfl
  have c2 : Steps p.tables e below (s₁.setTop (entryFrame m #[.ref a, .ref b, .int (Int32.ofNat o), .int (Int32.ofNat len), .null] 6)) (s₁.setTop (mkF m 1 #[.val (.ref a), .val (.ref b), .val (.int (Int32.ofNat o)), .val (.int (Int32.ofNat len)), .val .null, .unset] [.ref a])) := c1.trans (by
    refine XS.aloadN X0.here hexec rfl (hb hbytes d0) rfl rfl ?_
    exact Steps.refl _)
  obtain ⟨T3, X3, q3, st3⟩ := X0.oinit hexec hown (wks W (objW "java/lang/String" 1)) (g := (mkF m 1 #[.val (.ref a), .val (.ref b), .val (.int (Int32.ofNat o)), .val (.int (Int32.ofNat len)), .val .null, .unset] [.ref a])) rfl (by rw [hml]; rfl) (rest := []) rfl (hb hbytes d1) (W := 0) (by show 2 * 0 + 0 ≤ _; decide) (Nat.le_of_ble_eq_true rfl) (Nat.le_of_ble_eq_true rfl)
  have hh3 := q3.trans hh0
  have c4 : Steps p.tables e below (s₁.setTop (entryFrame m #[.ref a, .ref b, .int (Int32.ofNat o), .int (Int32.ofNat len), .null] 6)) (T3.setTop (mkF m 27 #[.val (.ref a), .val (.ref b), .val (.int (Int32.ofNat o)), .val (.int (Int32.ofNat len)), .val .null, .unset] [])) := (c2.trans (st3 _ (Steps.refl _))).trans (by
    refine XS.iloadN X3.here hexec rfl (hb hbytes d4) rfl ?_
    refine XS.ifYes X3.here hexec rfl (pc0 := 5) rfl (hb hbytes d5) rfl (i0_ne_t (nz32 (by omega) l0)) (by decide) rfl ?_
    exact Steps.refl _)
  obtain ⟨T5, X5, q5, st5⟩ := X3.sget hexec hown (wk W (.fieldLink "java/lang/String" 38 "java/lang/String" "COMPACT_STRINGS" "Z")) s1 (fun _ _ h => by rw [hh3]; exact h) (g := (mkF m 27 #[.val (.ref a), .val (.ref b), .val (.int (Int32.ofNat o)), .val (.int (Int32.ofNat len)), .val .null, .unset] [])) rfl (hb hbytes d27)
  have hh5 := q5.trans hh3
  have c6 : Steps p.tables e below (s₁.setTop (entryFrame m #[.ref a, .ref b, .int (Int32.ofNat o), .int (Int32.ofNat len), .null] 6)) (T5.setTop (mkF m 30 #[.val (.ref a), .val (.ref b), .val (.int (Int32.ofNat o)), .val (.int (Int32.ofNat len)), .val .null, .unset] [.int z])) := c4.trans (st5 _ (Steps.refl _))
  have c7 : Steps p.tables e below (s₁.setTop (entryFrame m #[.ref a, .ref b, .int (Int32.ofNat o), .int (Int32.ofNat len), .null] 6)) (T5.setTop (mkF m 36 #[.val (.ref a), .val (.ref b), .val (.int (Int32.ofNat o)), .val (.int (Int32.ofNat len)), .val .null, .unset] [.int (Int32.ofNat len), .int (Int32.ofNat o), .ref b])) := c6.trans (by
    refine XS.ifNo X5.here hexec rfl (hb hbytes d30) rfl (i0_eq_f hz) ?_
    refine XS.aloadN X5.here hexec rfl (hb hbytes d33) rfl rfl ?_
    refine XS.iloadN X5.here hexec rfl (hb hbytes d34) rfl ?_
    refine XS.iloadN X5.here hexec rfl (hb hbytes d35) rfl ?_
    exact Steps.refl _)
  obtain ⟨v8, T8, X8, E8, g8⟩ := X5.callS hexec (Cmp3.law l b A o len) hown (wks W (staticW "java/lang/String" 177 Cmp3.yN)) (wk W Cmp3.tab) (W := 0) (Nat.le_of_ble_eq_true rfl) (Nat.le_of_ble_eq_true rfl) (Nat.le_refl _) (by show 0 + len ≤ len; omega) (g := (mkF m 36 #[.val (.ref a), .val (.ref b), .val (.int (Int32.ofNat o)), .val (.int (Int32.ofNat len)), .val .null, .unset] [.int (Int32.ofNat len), .int (Int32.ofNat o), .ref b])) rfl (by rw [hml]; rfl) c7 (argsL := [.ref b, .int (Int32.ofNat o), .int (Int32.ofNat len)]) (rest := []) rfl rfl (by show 2 * 0 + 0 ≤ _; decide) (hb hbytes d36) (⟨rfl, hA.mv X5.warmed.alike hh5, l1, l2, hp⟩)
  obtain ⟨e8, z8⟩ := E8
  obtain ⟨rfl, N, n1, n2, n3, n4, n5, n6⟩ := NewArr.mv _ T5 s _ _ hh5.symm (Vm.Alike.refl _) rfl e8
  rw [hh5] at z8
  have hB1 := hB.keep X8.warmed.alike (n6 _ _ hB.1)
  have hne : s.heap.size ≠ a := (Nat.ne_of_lt (Array.getElem?_eq_some_iff.mp hB.1).1).symm
  have c9 : Steps p.tables e below (s₁.setTop (entryFrame m #[.ref a, .ref b, .int (Int32.ofNat o), .int (Int32.ofNat len), .null] 6)) (T8.setTop (mkF m 39 #[.val (.ref a), .val (.ref b), .val (.int (Int32.ofNat o)), .val (.int (Int32.ofNat len)), .val .null, .unset] [.ref s.heap.size])) := g8
  have c10 : Steps p.tables e below (s₁.setTop (entryFrame m #[.ref a, .ref b, .int (Int32.ofNat o), .int (Int32.ofNat len), .null] 6)) (T8.setTop (mkF m 45 #[.val (.ref a), .val (.ref b), .val (.int (Int32.ofNat o)), .val (.int (Int32.ofNat len)), .val .null, .val (.ref s.heap.size)] [.int (Int32.ofNat N.slots.size), .ref s.heap.size, .ref a])) := by
    have hc : Steps p.tables e below (s₁.setTop (entryFrame m #[.ref a, .ref b, .int (Int32.ofNat o), .int (Int32.ofNat len), .null] 6)) (T8.setTop (mkF m 45 #[.val (.ref a), .val (.ref b), .val (.int (Int32.ofNat o)), .val (.int (Int32.ofNat len)), .val .null, .val (.ref s.heap.size)] [.int (Int32.ofNat len), .ref s.heap.size, .ref a])) := c9.trans (by
      refine XS.astore X8.here hexec rfl (hb hbytes d39) rfl rfl rfl ?_
      refine XS.aloadN X8.here hexec rfl (hb hbytes d41) rfl rfl ?_
      refine XS.aload X8.here hexec rfl (hb hbytes d42) rfl rfl ?_
      refine XS.iloadN X8.here hexec rfl (hb hbytes d44) rfl ?_
      exact Steps.refl _)
    rw [n4]; exact hc
  obtain ⟨v11, T11, X11, E11, g11⟩ := X8.callS hexec (CodL.law l s.heap.size N) hown (wks W (staticW "java/lang/String" 47 CodL.yN)) (wk W CodL.tab) (W := 1) (Nat.le_of_ble_eq_true rfl) (Nat.le_of_ble_eq_true rfl) (Nat.le_refl _) (by show 0 + len + 0 ≤ len; omega) (g := (mkF m 45 #[.val (.ref a), .val (.ref b), .val (.int (Int32.ofNat o)), .val (.int (Int32.ofNat len)), .val .null, .val (.ref s.heap.size)] [.int (Int32.ofNat N.slots.size), .ref s.heap.size, .ref a])) rfl (by rw [hml]; rfl) c10 (argsL := [.ref s.heap.size, .int (Int32.ofNat N.slots.size)]) (rest := [.ref a]) rfl rfl (by show 2 * 0 + (1 + 0) ≤ _; decide) (hb hbytes d45) (⟨rfl, n1⟩)
  obtain ⟨rfl, q11⟩ := E11
  have hB11 := hB1.mv (X8.warmed.alike.symm.trans X11.warmed.alike) q11
  have c12 : Steps p.tables e below (s₁.setTop (entryFrame m #[.ref a, .ref b, .int (Int32.ofNat o), .int (Int32.ofNat len), .null] 6)) (T11.setTop (mkF m 48 #[.val (.ref a), .val (.ref b), .val (.int (Int32.ofNat o)), .val (.int (Int32.ofNat len)), .val .null, .val (.ref s.heap.size)] [.int 0, .ref a])) := g11
  obtain ⟨T13, X13, p13, bl13, sl13, st13⟩ := X11.finit hexec hown (wk W (.fieldLink "java/lang/String" 15 "java/lang/String" "coder" "B")) (Or.inr ⟨_, (wk W (.laysFinal "java/lang/String" "java/lang/String" "coder" "B"))⟩) (Or.inl ⟨rfl, hnm⟩) f2 (Or.inl rfl) hB11 (t := .byte) (by decide +kernel) rfl (g := (mkF m 48 #[.val (.ref a), .val (.ref b), .val (.int (Int32.ofNat o)), .val (.int (Int32.ofNat len)), .val .null, .val (.ref s.heap.size)] [.int 0, .ref a])) rfl (rest := []) rfl (hb hbytes d48)
  have c14 : Steps p.tables e below (s₁.setTop (entryFrame m #[.ref a, .ref b, .int (Int32.ofNat o), .int (Int32.ofNat len), .null] 6)) (T13.setTop (mkF m 54 #[.val (.ref a), .val (.ref b), .val (.int (Int32.ofNat o)), .val (.int (Int32.ofNat len)), .val .null, .val (.ref s.heap.size)] [.ref s.heap.size, .ref a])) := (c12.trans (st13 _ (Steps.refl _))).trans (by
    refine XS.aloadN X13.here hexec rfl (hb hbytes d51) rfl rfl ?_
    refine XS.aload X13.here hexec rfl (hb hbytes d52) rfl rfl ?_
    exact Steps.refl _)
  obtain ⟨T15, X15, p15, bl15, sl15, st15⟩ := X13.finit hexec hown (wk W (.fieldLink "java/lang/String" 9 "java/lang/String" "value" "[B")) (Or.inr ⟨_, (wk W (.laysFinal "java/lang/String" "java/lang/String" "value" "[B"))⟩) (Or.inl ⟨rfl, hnm⟩) f1 (Or.inl rfl) bl13 (t := (.array .byte)) (by decide +kernel) rfl (g := (mkF m 54 #[.val (.ref a), .val (.ref b), .val (.int (Int32.ofNat o)), .val (.int (Int32.ofNat len)), .val .null, .val (.ref s.heap.size)] [.ref s.heap.size, .ref a])) rfl (rest := []) rfl (hb hbytes d54)
  have c16 : Steps p.tables e below (s₁.setTop (entryFrame m #[.ref a, .ref b, .int (Int32.ofNat o), .int (Int32.ofNat len), .null] 6)) (T15.setTop (mkF m 57 #[.val (.ref a), .val (.ref b), .val (.int (Int32.ofNat o)), .val (.int (Int32.ofNat len)), .val .null, .val (.ref s.heap.size)] [])) := c14.trans (st15 _ (Steps.refl _))
  have ap := apart (Or.inr ⟨_, (wk W (.laysFinal "java/lang/String" "java/lang/String" "value" "[B"))⟩) (Or.inr ⟨_, (wk W (.laysFinal "java/lang/String" "java/lang/String" "coder" "B"))⟩) f1 f2 (t₁ := .array .byte) (t₂ := .byte) (by decide +kernel) (by decide +kernel) (by decide)
  have al := X8.warmed.alike.symm.trans X15.warmed.alike
  have n7 : T11.heap[s.heap.size]? = some N := by rw [q11]; exact n1.1
  exact ⟨T15, none, _, _, _, X15, by simp, rfl, by omega, (fun _ => rfl), ⟨rfl, _, N, bl15, ((Same.refl D _).set _ (by simp)).set _ (by simp), sl15, (Cell.slots_setSlot_ne _ ap).trans sl13, n1.keep al (p15.other hne (p13.other hne n7)), n2, by rw [al.findClass]; exact n3, n4, n5, fun y c h1 h2 => p15.other h1 (p13.other h1 (by rw [q11]; exact n6 y c h2)), by rw [p15.2.2, p13.2.2, q11]; exact z8⟩, fun fs hl => c16.trans (X15.returnOut hexec hret (hb hbytes d57) hl)⟩
end New4
namespace New1
def yN : MethodName := ⟨"java/lang/String", "<init>", "([C)V"⟩
abbrev yB : ByteArray := jdk_42_method_3_code
theorem d0 : decode yB 0 = .ok (.aload_n 0, 1) := by decide +kernel
theorem d1 : decode yB 1 = .ok (.aload_n 1, 1) := by decide +kernel
theorem d2 : decode yB 2 = .ok (.iconst 0, 1) := by decide +kernel
theorem d3 : decode yB 3 = .ok (.aload_n 1, 1) := by decide +kernel
theorem d4 : decode yB 4 = .ok (.arraylength, 1) := by decide +kernel
theorem d5 : decode yB 5 = .ok (.aconst_null, 1) := by decide +kernel
theorem d6 : decode yB 6 = .ok (.invokespecial 27, 3) := by decide +kernel
theorem d9 : decode yB 9 = .ok (.return_, 1) := by decide +kernel
def site : List Cond := [New4.tab] ++ initW "java/lang/String" 27 New4.yN
def tab : Cond := tabOf yN yB 2 none site
def P (a : Addr) (D : Cell) (fV fC : Field) (b : Addr) (A : Cell) (z : Int32) (args : Array Value) (s : State) : Prop := args = #[.ref a, .ref b] ∧ Blank "java/lang/String" a D s ∧ Found "java/lang/String" "value" "[B" fV s ∧ Found "java/lang/String" "coder" "B" fC s ∧ Ch b A s ∧ StaticIs s "java/lang/String" "COMPACT_STRINGS" "Z" (.int z) ∧ ¬ z = 0 ∧ 0 < A.slots.size ∧ A.slots.size ≤ 536870912 ∧ ∀ i, i < A.slots.size → ¬ 255 < cv A i
def E (a : Addr) (D : Cell) (fV fC : Field) (A : Cell) (r : Option Value) (s u : State) : Prop := Got a D fV fC A 0 A.slots.size r s u
/-- new String(chars), not empty, no char above 255: a Latin-1 String of their low bytes -/
theorem law (l : Launch) (a : Addr) (D : Cell) (fV fC : Field) (b : Addr) (A : Cell) (z : Int32) : Law l yN 2 1 3 52 yB 2 none site (P a D fV fC b A z) (E a D fV fC A) [⟨a, fC.slot⟩, ⟨a, fV.slot⟩] 1 A.slots.size := by
  refine Law.of_walk (plainFor_of_name (by decide +kernel)) (by decide +kernel) (by decide +kernel) (by decide) (fun _ _ h => by rw [h.1]; rfl) (fun _ U U' hal hh h => ⟨h.1, h.2.1.mv hal hh, h.2.2.1.al hal, h.2.2.2.1.al hal, h.2.2.2.2.1.mv hal hh, h.2.2.2.2.2.1.there hal hh, h.2.2.2.2.2.2⟩) (fun r U U' V V' h1 hal h2 h => Got.mv r U U' V V' h1 hal h2 h) ?_
  intro p e s m args below meth c s₁ X0 hexec hbytes hml hret hlk hnm hown hh0 W hP
  obtain ⟨rfl, hB, f1, f2, hA, s1, hz, l0, l2, hp⟩ := hP
  have c1 : Steps p.tables e below (s₁.setTop (entryFrame m #[.ref a, .ref b] 2)) (s₁.setTop (mkF m 0 #[.val (.ref a), .val (.ref b)] [])) := entry rfl
  have c2 : Steps p.tables e below (s₁.setTop (entryFrame m #[.ref a, .ref b] 2)) (s₁.setTop (mkF m 6 #[.val (.ref a), .val (.ref b)] [.null, .int (Int32.ofNat A.slots.size), .int 0, .ref b, .ref a])) := c1.trans (by
    refine XS.aloadN X0.here hexec rfl (hb hbytes d0) rfl rfl ?_
    refine XS.aloadN X0.here hexec rfl (hb hbytes d1) rfl rfl ?_
    refine iconstV X0.here hexec rfl 0 (hb hbytes d2) (by decide) ?_
    refine XS.aloadN X0.here hexec rfl (hb hbytes d3) rfl rfl ?_
    refine X0.alen hexec (hA.1.mv X0.warmed.alike hh0) rfl rfl (hb hbytes d4) ?_
    refine XS.aconstNull X0.here hexec rfl (hb hbytes d5) ?_
    exact Steps.refl _)
  obtain ⟨v3, T3, X3, E3, g3⟩ := X0.callN hexec (New4.law l a D fV fC b A z 0 A.slots.size) rfl hown (wks W (initW "java/lang/String" 27 New4.yN)) (W New4.tab (by simp only [site, List.mem_cons, List.mem_append, true_or, or_true])) (W := 0) (Nat.le_of_ble_eq_true rfl) (Nat.le_of_ble_eq_true rfl) (Nat.le_refl _) (by show 0 + A.slots.size ≤ A.slots.size; omega) (g := (mkF m 6 #[.val (.ref a), .val (.ref b)] [.null, .int (Int32.ofNat A.slots.size), .int (Int32.ofNat 0), .ref b, .ref a])) rfl (by rw [hml]; rfl) c2 (argsL := [.ref b, .int (Int32.ofNat 0), .int (Int32.ofNat A.slots.size), .null]) (rest := []) rfl rfl (by show 2 * 0 + 0 ≤ _; decide) (hb hbytes d6) (⟨rfl, hB.mv X0.warmed.alike hh0, f1.al X0.warmed.alike, f2.al X0.warmed.alike, hA.mv X0.warmed.alike hh0, s1.there X0.warmed.alike hh0, hz, l0, by omega, l2, fun i hi => by rw [Nat.zero_add]; exact hp i hi⟩)
  have e0 := Got.mv _ s₁ s _ _ hh0.symm (Vm.Alike.refl _) rfl E3
  obtain rfl := e0.1
  have c4 : Steps p.tables e below (s₁.setTop (entryFrame m #[.ref a, .ref b] 2)) (T3.setTop (mkF m 9 #[.val (.ref a), .val (.ref b)] [])) := g3
  exact ⟨T3, none, _, _, _, X3, by simp, rfl, by omega, (fun _ => rfl), e0, fun fs hl => c4.trans (X3.returnOut hexec hret (hb hbytes d9) hl)⟩
theorem pays {l : Launch} {R : Room} {p : Program} {e : Env} {below : List Frame} {s : State} {sargs : Array Value} {len W : Nat} (a : Addr) (D : Cell) (fV fC : Field) (b : Addr) (A : Cell) (z : Int32) (htab : tab.before sargs s = true) (hfr : 4 ≤ R.frames) (hlo : W + 65 ≤ R.locals) :
    Back l R p e below s sargs yN len W (fun A₁ a₁ => A₁.cells + 1 ≤ R.cells ∧ A₁.slots + A.slots.size ≤ R.slots ∧ P a D fV fC b A z a₁ A₁.U) (fun A₁ _ v₁ B₁ => E a D fV fC A v₁ A₁.U B₁.U ∧ B₁.locs = A₁.locs ++ [⟨a, fC.slot⟩, ⟨a, fV.slot⟩] ∧ B₁.cells = A₁.cells + 1 ∧ B₁.slots = A₁.slots + A.slots.size) :=
  (law l a D fV fC b A z).pays htab hfr (by omega)
end New1
/-- the byte, read back as charAt reads it, is the char -/
theorem lo8_mask {x : Int32} (h0 : ¬ x < 0) (h1 : ¬ 255 < x) : lo8 x &&& 255 = x := by
  have t : ∀ k : Fin 256, lo8 (Int32.ofNat k.val) &&& 255 = Int32.ofNat k.val := by decide +kernel
  rw [Int32.lt_iff_toInt_lt] at h0 h1
  have e0 : (0 : Int32).toInt = 0 := rfl
  have e1 : (255 : Int32).toInt = 255 := rfl
  obtain ⟨k, hk⟩ : ∃ k : Nat, x.toInt = k := ⟨x.toInt.toNat, by omega⟩
  have hx : x = Int32.ofNat k := Int32.toInt_inj.mp (by rw [hk, Int32.toInt_ofNat_small (by omega)])
  rw [hx]
  exact t ⟨k, by omega⟩
end StrChars
namespace StrChars.Road
open Jvm Sem ClassFile Op Lib Jvm.Stand Jvm.Free Jvm.Free.XT
open Jvm.Lib.Cold (StaticIs)
abbrev ST : String := "java/lang/String"
/-- every table word that New1's law asks, flat -/
abbrev words : List Jvm.Cond := [.code New1.yN New1.yB 2 none, .initialized ST, .methodLink ST 27 New4.yN, .instanceMethod New4.yN,
  .code New4.yN New4.yB 6 none, .fieldLink ST 38 ST "COMPACT_STRINGS" "Z", .laysFinal ST ST "value" "[B", .fieldLink ST 9 ST "value" "[B", .laysFinal ST ST "coder" "B", .fieldLink ST 15 ST "coder" "B",
  .methodLink ST 1 Lib.objectInit, .instanceMethod Lib.objectInit, .code Lib.objectInit ⟨#[0xb1]⟩ 1 none, .methodLink ST 177 Cmp3.yN, .static Cmp3.yN, .methodLink ST 47 CodL.yN, .static CodL.yN,
  .code Cmp3.yN Cmp3.yB 6 (some (.array .byte)), .initialized U16, .arrayClass .byte, .methodLink U16 115 Cmp5.yN, .static Cmp5.yN, .code Cmp5.yN Cmp5.yB 7 (some .int), .code CodL.yN CodL.yB 2 (some .byte)]
theorem tab_of {a : Array Value} {s : State} (h : ∀ w ∈ words, w.before a s = true) : New1.tab.before a s = true := by
  have h5 : Cmp5.tab.before a s = true := unparts (wk h (.code Cmp5.yN Cmp5.yB 7 (some .int))) (wks h (.initialized Cmp5.yN.cls :: Cmp5.site))
  have hc : CodL.tab.before a s = true := unparts (wk h (.code CodL.yN CodL.yB 2 (some .byte))) (wks h (.initialized CodL.yN.cls :: CodL.site))
  have q5 : ∀ w ∈ Cmp5.tab :: words, w.before a s = true := fun w hw => (List.mem_cons.mp hw).elim (fun e => e ▸ h5) (h w)
  have h3 : Cmp3.tab.before a s = true := unparts (wk q5 (.code Cmp3.yN Cmp3.yB 6 (some (.array .byte)))) (wks q5 (.initialized Cmp3.yN.cls :: Cmp3.site))
  have q3 : ∀ w ∈ Cmp3.tab :: CodL.tab :: words, w.before a s = true := fun w hw => (List.mem_cons.mp hw).elim (fun e => e ▸ h3) fun hw => (List.mem_cons.mp hw).elim (fun e => e ▸ hc) (h w)
  have h4 : New4.tab.before a s = true := unparts (wk q3 (.code New4.yN New4.yB 6 none)) (wks q3 (.initialized New4.yN.cls :: New4.site))
  have q4 : ∀ w ∈ New4.tab :: words, w.before a s = true := fun w hw => (List.mem_cons.mp hw).elim (fun e => e ▸ h4) (h w)
  exact unparts (wk q4 (.code New1.yN New1.yB 2 none)) (wks q4 (.initialized New1.yN.cls :: New1.site))
/-- the words ride from the start Z to the walk's own state -/
theorem moved {Z s : State} {a0 args : Array Value} (hZ : Z.Warmed39 s.vm) (hw : ∀ d ∈ words, d.before a0 Z = true) : ∀ d ∈ words, d.before args s = true := fun d hd => by
  have q := hw d hd
  have t : ∀ d ∈ words, d = .arrayClass .byte ∨ (d.onTables && d.keepsFace) = true := by decide +kernel
  rcases t d hd with rfl | t
  · exact RoadKit.mvA hZ q
  · exact RoadKit.mv hZ q t
/-- WHAT COMES BACK, over the tables of the start Z: h the heap at the call, h' behind it -/
def Q (Z : State) (x : Addr) (A : Cell) (h : Heap) (v : Option Value) (h' : Heap) (L : List Loc) : Prop := v = none ∧ (∀ y ∈ L, y.base = x) ∧ RoadKit.Keep h h' [x] ∧ h'.size = h.size + 1 ∧ RoadKit.Exa Z h' x ST ∧ RoadKit.Fld Z h' x ST "value" "[B" (.ref h.size) ∧ RoadKit.Fld Z h' x ST "coder" "B" (.int 0) ∧
  (∃ V : Cell, RoadKit.Arr Z h' h.size V .byte ∧ V.vm = .none ∧ Z.vm.findClass "[B" = some V.cls ∧ V.slots.size = A.slots.size ∧ ∀ j, j < A.slots.size → V.slots[j]? = some (.int (lo8 (cv A j)))) ∧
  ∀ (O n d : String) (w : Value), RoadKit.Fld Z h x O n d w → RoadKit.slotOf Z O n d ≠ RoadKit.slotOf Z ST "value" "[B" → RoadKit.slotOf Z O n d ≠ RoadKit.slotOf Z ST "coder" "B" → RoadKit.Fld Z h' x O n d w
/-- **new String(chars) AT A CALL, IN THE ROAD'S FORM**: for specialBack behind newO: x the fresh String, b the char[] with the cell A -/
theorem back {p : Program} {l : Launch} {e : Env} {R : Room} {s : State} {args : Array Value} {below : List Frame} {len W : Nat} {Z : State} {a0 : Array Value} {h : Heap} (hZ : Z.Warmed39 s.vm) (hw : ∀ d ∈ words, d.before a0 Z = true) {kI : Nat} (wi : (Jvm.Cond.instantiable ST kI).before a0 Z = true)
    {x b : Addr} {A : Cell} {z : Int32} {v0 c0 : Value} (E : RoadKit.Exa Z h x ST) (V : RoadKit.Fld Z h x ST "value" "[B" v0) (C : RoadKit.Fld Z h x ST "coder" "B" c0) (K : RoadKit.Arr Z h b A .char) (hty : Typed .char A) (S : RoadKit.Sta Z h ST "COMPACT_STRINGS" "Z" (.int z)) (hz : ¬ z = 0)
    (l0 : 0 < A.slots.size) (l2 : A.slots.size ≤ 536870912) (hp : ∀ i, i < A.slots.size → ¬ 255 < cv A i) (hfr : 4 ≤ R.frames) (hlo : W + 65 ≤ R.locals) :
    Back l R p e below s args New1.yN len W (fun P a => a = #[.ref x, .ref b] ∧ P.U.heap = h ∧ P.cells + 1 ≤ R.cells ∧ P.slots + A.slots.size ≤ R.slots)
      (fun P _ v B => ∃ L, Q Z x A h v B.U.heap L ∧ B.locs = P.locs ++ L ∧ B.cells = P.cells + 1 ∧ B.slots = P.slots + A.slots.size) := by
  intro m meth c P g ig mk a X hg hsize hdg hW hn hp'
  obtain ⟨rfl, rfl, r1, r2⟩ := hp'
  have al : Z.vm.Alike P.U.vm := hZ.alike.trans X.warmed.alike
  obtain ⟨D, cfV, kV, iV, fV, hD, gV, stV, knV, obV, asV, slV⟩ := id V
  obtain ⟨D', cfC, kC, iC, fC, hD', gC, stC, -, -, asC, slC⟩ := id C
  cases hD.symm.trans hD'
  obtain ⟨D2, kD, e1, e2, e3, e4, e5⟩ := id E
  cases hD.symm.trans e1
  obtain ⟨c2, k2, i1, i2, i3, -⟩ := Cond.instantiable_spec wi
  cases e2.symm.trans i1
  cases e3.symm.trans i2
  obtain ⟨kU, u1, u2⟩ := al.2.2 _ _ e3
  have hB : Blank ST x D P.U := ⟨hD, ⟨knV, fun q hq => by rw [hq] at obV; cases obV⟩, by rw [al.findClass]; exact e2, kU, u1, by rw [u2]; exact i3, by rw [u2]; exact e5 i3⟩
  have F1 : Found ST "value" "[B" fV P.U := ⟨SBG.found_only al ⟨cfV, kV, iV, gV⟩, stV⟩
  have F2 : Found ST "coder" "B" fC P.U := ⟨SBG.found_only al ⟨cfC, kC, iC, gC⟩, stC⟩
  have hA : Ch b A P.U := ⟨⟨K.1, State.isArrayOf_alike al K.2.1, K.2.2, by omega⟩, hty⟩
  have hS : StaticIs P.U ST "COMPACT_STRINGS" "Z" (.int z) := by
    obtain ⟨cfS, iS, kS, fS, st, cS, t1, t2, t3, t4, t5, t6, t7⟩ := S
    exact StaticIs.there (s := { Z with heap := P.U.heap }) ⟨cfS, iS, kS, fS, st, cS, t1, t2, t3, t4, t5, (fun q => by rw [q] at t6; cases t6), t7⟩ al rfl
  obtain ⟨v, B, X', ⟨⟨hv, E', V', q1, q2, q3, q4, q5, q6, q7, q8, q9, q10, q11⟩, hl, hc, hs⟩, st⟩ := New1.pays x D fV fC b A z (tab_of (moved hZ hw)) hfr hlo m meth c P g ig mk _ X hg hsize hdg hW hn ⟨r1, r2, rfl, hB, F1, F2, hA, hS, hz, l0, l2, hp⟩
  have al' : Z.vm.Alike B.U.vm := hZ.alike.trans X'.warmed.alike
  have hsz : E'.slots.size = D.slots.size := by
    obtain ⟨-, -, -, kB, w1, w2, w3⟩ := q1
    obtain ⟨kB', y1, y2⟩ := al'.2.2 _ _ e3
    rw [q2.2.1] at w1
    cases w1.symm.trans y1
    rw [w3, e5 i3, y2]
  refine ⟨v, B, X', ⟨_, ⟨hv, ?_, ⟨by omega, fun y cy hy hn' => q10 y cy (by simpa using hn') hy, fun y cy hy => ?_⟩, q11, ⟨E', _, q1.1, by rw [q2.2.1]; exact e2, by rw [q2.2.1]; exact e3, by rw [q2.1]; exact obV, fun _ => by rw [hsz]; exact e5 i3⟩,
    ⟨E', cfV, kV, iV, fV, q1.1, gV, stV, by rw [q2.1]; exact knV, by rw [q2.1]; exact obV, by rw [q2.2.1]; exact asV, q3⟩, ⟨E', cfC, kC, iC, fC, q1.1, gC, stC, by rw [q2.1]; exact knV, by rw [q2.1]; exact obV, by rw [q2.2.1]; exact asC, q4⟩,
    ⟨V', ⟨q5.1, State.isArrayOf_alike al'.symm q5.2.1, q5.2.2.1⟩, q6, by rw [← al'.findClass]; exact q7, q8, fun j hj => by have := q9 j hj; rwa [Nat.zero_add] at this⟩, fun O n d w F n1 n2 => ?_⟩, hl, hc, hs⟩, st⟩
  · intro y hy
    simp only [List.mem_cons, List.not_mem_nil, or_false] at hy
    rcases hy with rfl | rfl <;> rfl
  · by_cases q : y = x
    · subst q
      cases hD.symm.trans hy
      exact ⟨E', q1.1, q2.2.1, q2.1, hsz⟩
    · exact ⟨cy, q10 y cy q hy, rfl, rfl, rfl⟩
  · obtain ⟨D3, cf, k, i, f, g1, g2, g3, g4, g5, g6, g7⟩ := F
    cases hD.symm.trans g1
    simp only [RoadKit.slotOf, g2, gV, gC, Option.map_some, Option.getD_some] at n1 n2
    exact ⟨E', cf, k, i, f, q1.1, g2, g3, by rw [q2.1]; exact g4, by rw [q2.1]; exact g5, by rw [q2.2.1]; exact g6, by rw [q2.2.2 f.slot (by simp [n1, n2])]; exact g7⟩
end StrChars.Road
namespace StrChars.Road
open Jvm Sem ClassFile Op Lib Jvm.Stand Jvm.Free Jvm.Free.XT
/-- WHAT COMES BACK, the byte[] as a list of values -/
def QA (Z : State) (x : Addr) (zn : Int32) (cs : List Int32) (h : Heap) (v : Option Value) (h' : Heap) (L : List Loc) : Prop := v = none ∧ (∀ y ∈ L, y.base = x) ∧ RoadKit.Keep h h' [x] ∧ h'.size = h.size + 1 ∧ RoadKit.Exa Z h' x ST ∧ RoadKit.Fld Z h' x ST "value" "[B" (.ref h.size) ∧ RoadKit.Fld Z h' x ST "coder" "B" (.int 0) ∧
  (∃ kb, Z.vm.findClass "[B" = some kb ∧ RoadKit.Arv Z h' h.size kb .byte zn (cs.map fun c => .int (lo8 c)) (.int 0)) ∧
  ∀ (O n d : String) (w : Value), RoadKit.Fld Z h x O n d w → RoadKit.slotOf Z O n d ≠ RoadKit.slotOf Z ST "value" "[B" → RoadKit.slotOf Z O n d ≠ RoadKit.slotOf Z ST "coder" "B" → RoadKit.Fld Z h' x O n d w
/-- **new String(chars) AT A CALL, THE ARRAYS AS LISTS**: the char[] at b holds cs, not empty, no char above 255 -/
theorem backArv {p : Program} {l : Launch} {e : Env} {R : Room} {s : State} {args : Array Value} {below : List Frame} {len W : Nat} {Z : State} {a0 : Array Value} {h : Heap} (hZ : Z.Warmed39 s.vm) (hw : ∀ d ∈ words, d.before a0 Z = true) {kI : Nat} (wi : (Jvm.Cond.instantiable ST kI).before a0 Z = true)
    {x b : Addr} {k : ClassId} {zn z : Int32} {cs : List Int32} {dv v0 c0 : Value} (E : RoadKit.Exa Z h x ST) (V : RoadKit.Fld Z h x ST "value" "[B" v0) (C : RoadKit.Fld Z h x ST "coder" "B" c0) (K : RoadKit.Arv Z h b k .char zn (cs.map Value.int) dv) (S : RoadKit.Sta Z h ST "COMPACT_STRINGS" "Z" (.int z)) (hz : ¬ z = 0)
    (hlen : zn.toNatClampNeg = cs.length) (h0 : 0 < cs.length) (hbig : cs.length ≤ 536870912) (hall : ∀ c ∈ cs, ¬ 255 < c) (hfr : 4 ≤ R.frames) (hlo : W + 65 ≤ R.locals) :
    Back l R p e below s args New1.yN len W (fun P a => a = #[.ref x, .ref b] ∧ P.U.heap = h ∧ P.cells + 1 ≤ R.cells ∧ P.slots + cs.length ≤ R.slots)
      (fun P _ v B => ∃ L, QA Z x zn cs h v B.U.heap L ∧ B.locs = P.locs ++ L ∧ B.cells = P.cells + 1 ∧ B.slots = P.slots + cs.length) := by
  obtain ⟨A, K1, K2, K3, K4, K5, K6⟩ := K
  have e : A.slots.size = cs.length := K3.trans hlen
  have hat : ∀ (i : Nat) (hi : i < cs.length), A.slots[i]? = some (.int cs[i]) := fun i hi => by rw [K5 i (by omega)]; simp [List.getD_eq_getElem?_getD, hi]
  have hcv : ∀ (i : Nat) (hi : i < cs.length), cv A i = cs[i] := fun i hi => by unfold cv; rw [hat i hi]
  have hty : Typed .char A := fun i v hv => by
    have hi : i < A.slots.size := (Array.getElem?_eq_some_iff.mp hv).1
    have q := K5 i hi
    rw [hv] at q
    rw [Option.some.inj q]
    exact K6 i hi
  refine Back.mono (back hZ hw wi E V C K1 hty S hz (by omega) (by omega) (fun i hi => by rw [hcv i (by omega)]; exact hall _ (List.getElem_mem _)) hfr hlo) (fun P a hp => ⟨hp.1, hp.2.1, hp.2.2.1, by rw [e]; exact hp.2.2.2⟩) (fun P a v B hp hq => ?_)
  obtain ⟨L, ⟨q1, q2, q3, q4, q5, q6, q7, ⟨V', v1, v2, v3, v4, v5⟩, q9⟩, hl, hc, hs⟩ := hq
  refine ⟨L, ⟨q1, q2, q3, q4, q5, q6, q7, ⟨V'.cls, v3, V', v1, rfl, by rw [v4, e, hlen], K4, fun i hi => ?_, fun i hi => ?_⟩, q9⟩, hl, hc, by rw [hs, e]⟩
  · have hi' : i < cs.length := by omega
    rw [v5 i (by omega), hcv i hi']; simp [List.getD_eq_getElem?_getD, hi']
  · have hi' : i < cs.length := by omega
    simp only [List.getD_eq_getElem?_getD, List.getElem?_map, List.getElem?_eq_getElem hi', Option.map_some, Option.getD_some]
    exact fits_lo8 _
end StrChars.Road
namespace StrChars.Road
open Jvm Sem ClassFile Op Lib Jvm.Stand Jvm.Free Jvm.Free.XT
/-- WHAT COMES BACK, in the writer's own shape -/
def QV (Z : State) (x : Addr) (N : Int32) (bs : List Int32) (h : Heap) (n0 : Nat) (v : Option Value) (h' : Heap) (L : List Loc) : Prop := v = none ∧ RoadKit.Fr n0 L ∧ RoadKit.Keep h h' [x] ∧ RoadKit.Exa Z h' x ST ∧ RoadKit.Fld Z h' x ST "coder" "B" (.int 0) ∧
  ∃ (t : Addr) (kb : ClassId), n0 ≤ t ∧ h.size ≤ t ∧ ¬ t = x ∧ RoadKit.Fld Z h' x ST "value" "[B" (.ref t) ∧ RoadKit.Arv Z h' t kb .byte N (bs.map Value.int) (.int 0)
/-- **new String(chars) AT A CALL, FOR THE WRITER**: a char[] of n known ints, each 0 to 255 -/
theorem backV {p : Program} {l : Launch} {e : Env} {R : Room} {s : State} {args : Array Value} {below : List Frame} {len W : Nat} {Z : State} {a0 : Array Value} {h : Heap} (hZ : Z.Warmed39 s.vm) (hw : ∀ d ∈ words, d.before a0 Z = true) {kI : Nat} (wi : (Jvm.Cond.instantiable ST kI).before a0 Z = true)
    {x b : Addr} {kC : ClassId} {cs bs : List Int32} {d v0 c0 : Value} {z N : Int32} {n n0 : Nat} (hx0 : n0 ≤ x) (hh0 : n0 ≤ h.size) (E : RoadKit.Exa Z h x ST) (V : RoadKit.Fld Z h x ST "value" "[B" v0) (C : RoadKit.Fld Z h x ST "coder" "B" c0) (K : RoadKit.Arv Z h b kC .char N (cs.map Value.int) d) (S : RoadKit.Sta Z h ST "COMPACT_STRINGS" "Z" (.int z)) (hz : ¬ z = 0)
    (hn : cs.length = n) (hN : N = Int32.ofNat n) (l0 : 0 < n) (l2 : n ≤ 4000) (hp : ∀ c ∈ cs, ¬ c < 0 ∧ ¬ (255 : Int32) < c) (hb : bs = cs.map (fun c => c.toInt8.toInt32)) (hfr : 4 ≤ R.frames) (hlo : W + 65 ≤ R.locals) :
    Back l R p e below s args (⟨"java/lang/String", "<init>", "([C)V"⟩ : MethodName) len W (fun P a => a = #[.ref x, .ref b] ∧ P.U.heap = h ∧ P.cells + 1 ≤ R.cells ∧ P.slots + n ≤ R.slots)
      (fun P _ v B => ∃ L, QV Z x N bs h n0 v B.U.heap L ∧ B.locs = P.locs ++ L ∧ B.cells = P.cells + 1 ∧ B.slots = P.slots + n) := by
  subst hn hN hb
  refine Back.mono (backArv hZ hw wi E V C K S hz (n32 (by omega)) l0 (by omega) (fun c hc => (hp c hc).2) hfr hlo) (fun P a hp => hp) (fun P a v B hp hq => ?_)
  obtain ⟨L, ⟨q1, q2, q3, q4, q5, q6, q7, ⟨kb, v1, v2⟩, q9⟩, hl, hc, hs⟩ := hq
  exact ⟨L, ⟨q1, fun y hy => by rw [q2 y hy]; exact hx0, q3, q5, q7, h.size, kb, hh0, Nat.le_refl _, Nat.ne_of_gt E.lt, q6, by rw [List.map_map]; exact v2⟩, hl, hc, hs⟩
end StrChars.Road
namespace StrChars
open Jvm Sem ClassFile Op Lib Jvm.Stand Jvm.Free.XT Jvm.Free.ALB Jvm.Free.JM Jvm.Free
open Jvm.Lib.Cold (StaticIs)
def hi8 (x : Int32) : Int32 := lo8 (x >>> ((8 : Int32) &&& 31))
/-- what StringUTF16.getChar makes of two bytes -/
def pairCh (u v : Int32) : Int32 := (((u &&& 255) <<< ((0 : Int32) &&& 31)) ||| ((v &&& 255) <<< ((8 : Int32) &&& 31))).toUInt32.toUInt16.toUInt32.toInt32
theorem shr0 (c : Int32) : c >>> ((0 : Int32) &&& 31) = c := by
  have e : ((0 : Int32) &&& 31) = 0 := by decide
  rw [e]
  apply Int32.toBitVec_inj.mp
  rw [Int32.toBitVec_shiftRight]
  have e1 : ((0 : Int32).toBitVec.smod 32) = 0#32 := by decide
  rw [e1, BitVec.sshiftRight_eq']
  exact BitVec.sshiftRight_zero
theorem lo8_and (x : Int32) : (lo8 x &&& 255).toBitVec.toNat = x.toBitVec.toNat % 256 := by
  have h : (lo8 x).toBitVec = (x.toBitVec.signExtend 8).signExtend 32 := by rw [lo8, Int8.toBitVec_toInt32, Int32.toBitVec_toInt8]
  rw [Int32.toBitVec_and, BitVec.toNat_and, h]
  have e : ((x.toBitVec.signExtend 8).signExtend 32).toNat % 256 = x.toBitVec.toNat % 256 := by
    rw [BitVec.toNat_signExtend]
    have hlt := x.toBitVec.isLt
    simp only [BitVec.toNat_setWidth, BitVec.toNat_signExtend]
    split <;> split <;> omega
  rw [← e]
  exact Nat.and_two_pow_sub_one_eq_mod _ 8
theorem pair_says {c : Int32} (h0 : ¬ c < 0) (h1 : ¬ 65535 < c) : pairCh (lo8 c) (hi8 c) = c := by
  rw [Int32.lt_iff_toInt_lt] at h0 h1
  have e0 : (0 : Int32).toInt = 0 := rfl
  have e1 : (65535 : Int32).toInt = 65535 := rfl
  have hc : c.toInt = c.toBitVec.toNat := by
    have := c.toBitVec.isLt
    have e : c.toInt = c.toBitVec.toInt := rfl
    rw [e] at h0 h1
    rw [e]
    rw [BitVec.toInt_eq_toNat_cond] at h0 h1 ⊢
    split at h0 <;> split <;> omega
  have hn : c.toBitVec.toNat < 65536 := by omega
  have a1 := lo8_and c
  have a2 : (hi8 c &&& 255).toBitVec.toNat = c.toBitVec.toNat / 256 := by
    rw [hi8, lo8_and]
    have e : ((8 : Int32) &&& 31) = 8 := by decide
    rw [e, Int32.toBitVec_shiftRight]
    have e2 : ((8 : Int32).toBitVec.smod 32) = 8#32 := by decide
    rw [e2, BitVec.sshiftRight_eq', BitVec.toNat_sshiftRight_of_msb_false (by rw [BitVec.msb_eq_false_iff_two_mul_lt]; omega)]
    show c.toBitVec.toNat >>> 8 % 256 = _
    rw [Nat.shiftRight_eq_div_pow]
    omega
  unfold pairCh
  apply Int32.toBitVec_inj.mp
  apply BitVec.eq_of_toNat_eq
  have f0 : ((0 : Int32) &&& 31) = 0 := by decide
  have f8 : ((8 : Int32) &&& 31) = 8 := by decide
  rw [f0, f8]
  have g : (((lo8 c &&& 255) <<< (0 : Int32)) ||| ((hi8 c &&& 255) <<< (8 : Int32))).toBitVec.toNat = c.toBitVec.toNat := by
    rw [Int32.toBitVec_or, Int32.toBitVec_shiftLeft, Int32.toBitVec_shiftLeft]
    have s0 : ((0 : Int32).toBitVec.smod 32) = 0#32 := by decide
    have s8 : ((8 : Int32).toBitVec.smod 32) = 8#32 := by decide
    rw [s0, s8, BitVec.toNat_or]
    simp only [BitVec.shiftLeft_eq', BitVec.toNat_shiftLeft, a1, a2]
    show (c.toBitVec.toNat % 256) <<< 0 % 2 ^ 32 ||| (c.toBitVec.toNat / 256) <<< 8 % 2 ^ 32 = _
    rw [Nat.shiftLeft_zero, Nat.mod_eq_of_lt (show c.toBitVec.toNat % 256 < 2 ^ 32 by omega), Nat.mod_eq_of_lt (show (c.toBitVec.toNat / 256) <<< 8 < 2 ^ 32 by rw [Nat.shiftLeft_eq]; omega), Nat.or_comm, ← Nat.shiftLeft_add_eq_or_of_lt (by omega), Nat.shiftLeft_eq]
    omega
  show BitVec.toNat (((((lo8 c &&& 255) <<< (0 : Int32)) ||| ((hi8 c &&& 255) <<< (8 : Int32))).toBitVec.setWidth 16).setWidth 32) = _
  rw [BitVec.toNat_setWidth, BitVec.toNat_setWidth, g]
  omega
end StrChars
namespace StrChars
open Jvm Sem ClassFile Op Lib Jvm.Stand Jvm.Free.XT Jvm.Free.ALB Jvm.Free.JM Jvm.Free
open Jvm.Lib.Cold (StaticIs)
theorem shr1 {n : Nat} (h : 2 * n < 2 ^ 31) : Int32.ofNat (2 * n) >>> ((1 : Int32) &&& 31) = Int32.ofNat n := by
  have e : ((1 : Int32) &&& 31) = 1 := by decide
  rw [e]
  apply Int32.toBitVec_inj.mp
  rw [Int32.toBitVec_shiftRight]
  have e1 : ((1 : Int32).toBitVec.smod 32) = 1#32 := by decide
  have hm : (BitVec.ofNat 32 (2 * n)).toNat = 2 * n := by rw [BitVec.toNat_ofNat, Nat.mod_eq_of_lt (by omega)]
  rw [e1, BitVec.sshiftRight_eq']
  apply BitVec.eq_of_toNat_eq
  show ((BitVec.ofNat 32 (2 * n)).sshiftRight 1).toNat = (BitVec.ofNat 32 n).toNat
  rw [BitVec.toNat_sshiftRight_of_msb_false (by rw [BitVec.msb_eq_false_iff_two_mul_lt, hm]; omega), hm, BitVec.toNat_ofNat, Nat.shiftRight_eq_div_pow]
  omega
/-- charAt's cast of a byte read back -/
def chr8 (u : Int32) : Int32 := (u &&& 255).toUInt32.toUInt16.toUInt32.toInt32
theorem chr8_lo8 {c : Int32} (h0 : ¬ c < 0) (h1 : ¬ 255 < c) : chr8 (lo8 c) = c := by
  have t : ∀ k : Fin 256, (Int32.ofNat k.val).toUInt32.toUInt16.toUInt32.toInt32 = Int32.ofNat k.val := by decide +kernel
  unfold chr8
  rw [lo8_mask h0 h1]
  rw [Int32.lt_iff_toInt_lt] at h0 h1
  have e0 : (0 : Int32).toInt = 0 := rfl
  have e1 : (255 : Int32).toInt = 255 := rfl
  obtain ⟨k, hk⟩ : ∃ k : Nat, c.toInt = k := ⟨c.toInt.toNat, by omega⟩
  have hx : c = Int32.ofNat k := Int32.toInt_inj.mp (by rw [hk, Int32.toInt_ofNat_small (by omega)])
  rw [hx]
  exact t ⟨k, by omega⟩
theorem narrow_ch {c : Int32} (h0 : ¬ c < 0) (h1 : ¬ 65535 < c) : narrow .char (.int c) = .int c := by
  have q : narrow .char (.int (pairCh (lo8 c) (hi8 c))) = .int (pairCh (lo8 c) (hi8 c)) := narrow_c _
  rwa [pair_says h0 h1] at q
/-- the array's cell V codes the n chars f 0 .. f (n - 1) by the coder cd, as the JDK does: coder 1 just where some char is above 255 -/
def Cod (cd : Int32) (n : Nat) (f : Nat → Int32) (V : Cell) : Prop := (cd = 0 ∧ V.slots.size = n ∧ ∀ j, j < n → V.slots[j]? = some (.int (lo8 (f j))) ∧ ¬ 255 < f j) ∨ (cd = 1 ∧ V.slots.size = 2 * n ∧ (∀ j, j < n → V.slots[2 * j]? = some (.int (lo8 (f j))) ∧ V.slots[2 * j + 1]? = some (.int (hi8 (f j)))) ∧ ∃ j, j < n ∧ 255 < f j)
theorem Cod.cd {cd : Int32} {n : Nat} {f : Nat → Int32} {V : Cell} (h : Cod cd n f V) : cd = 0 ∨ cd = 1 := h.imp (fun q => q.1) fun q => q.1
theorem Cod.len {cd : Int32} {n : Nat} {f : Nat → Int32} {V : Cell} (h : Cod cd n f V) (hs : V.slots.size < 2 ^ 31) : Int32.ofNat V.slots.size >>> (cd &&& 31) = Int32.ofNat n := by
  rcases h with ⟨rfl, h, -⟩ | ⟨rfl, h, -⟩
  · rw [shr0, h]
  · rw [h, shr1 (by omega)]
/-- **x is a String of the n chars f 0 .. f (n - 1)**, Latin-1 or UTF-16; its array at t has the cell V -/
def Txt (x t : Addr) (V : Cell) (cd : Int32) (n : Nat) (f : Nat → Int32) (U : State) : Prop := Exact "java/lang/String" x U ∧ Has x "java/lang/String" "value" "[B" (.ref t) U ∧ Has x "java/lang/String" "coder" "B" (.int cd) U ∧ XT.Arr .byte t V U ∧ Cod cd n f V ∧ ∀ j, j < n → ¬ f j < 0 ∧ ¬ 65535 < f j
theorem Txt.mv {x t : Addr} {V : Cell} {cd : Int32} {n : Nat} {f : Nat → Int32} {U U' : State} (h : Txt x t V cd n f U) (hal : U.vm.Alike U'.vm) (hh : U'.heap = U.heap) : Txt x t V cd n f U' := ⟨h.1.mv hal hh, h.2.1.mv hal hh, h.2.2.1.mv hal hh, h.2.2.2.1.mv hal hh, h.2.2.2.2⟩
namespace Cdr
def yN : MethodName := ⟨"java/lang/String", "coder", "()B"⟩
abbrev yB : ByteArray := jdk_42_method_152_code
theorem d0 : decode yB 0 = .ok (.getstatic 38, 3) := by decide +kernel
theorem d3 : decode yB 3 = .ok (.ifCond (.eq) 10, 3) := by decide +kernel
theorem d6 : decode yB 6 = .ok (.aload_n 0, 1) := by decide +kernel
theorem d7 : decode yB 7 = .ok (.getfield 15, 3) := by decide +kernel
theorem d10 : decode yB 10 = .ok (.goto 4, 3) := by decide +kernel
theorem d14 : decode yB 14 = .ok (.ireturn, 1) := by decide +kernel
def site : List Cond := [.fieldLink "java/lang/String" 38 "java/lang/String" "COMPACT_STRINGS" "Z", .fieldLink "java/lang/String" 15 "java/lang/String" "coder" "B"]
def tab : Cond := tabOf yN yB 1 (some .byte) site
def P (x : Addr) (cd z : Int32) (args : Array Value) (s : State) : Prop := args = #[.ref x] ∧ Has x "java/lang/String" "coder" "B" (.int cd) s ∧ (cd = 0 ∨ cd = 1) ∧ StaticIs s "java/lang/String" "COMPACT_STRINGS" "Z" (.int z) ∧ ¬ z = 0
def E (cd : Int32) (r : Option Value) (s u : State) : Prop := XT.PureE (some (.int cd)) r s u
theorem law (l : Launch) (x : Addr) (cd z : Int32) : Law l yN 1 0 0 0 yB 1 (some .byte) site (P x cd z) (E cd) [] 0 0 := by
  refine Law.of_walk (plainFor_of_name (by decide +kernel)) (by decide +kernel) (by decide +kernel) (by decide) (fun _ _ h => by rw [h.1]; rfl) (fun _ U U' hal hh h => ⟨h.1, h.2.1.mv hal hh, h.2.2.1, h.2.2.2.1.there hal hh, h.2.2.2.2⟩) (fun r U U' V V' h1 hal h2 h => XT.PureE.mv r U U' V V' h1 hal h2 h) ?_
  intro p e s m args below meth c s₁ X0 hexec hbytes hml hret hlk hnm hown hh0 W hP
  obtain ⟨rfl, hx, hc, s1, hz⟩ := hP
  have c1 : Steps p.tables e below (s₁.setTop (entryFrame m #[.ref x] 1)) (s₁.setTop (mkF m 0 #[.val (.ref x)] [])) := entry rfl
  obtain ⟨T2, X2, q2, st2⟩ := X0.sget hexec hown (wk W (.fieldLink "java/lang/String" 38 "java/lang/String" "COMPACT_STRINGS" "Z")) s1 (fun _ _ h => by rw [hh0]; exact h) (g := (mkF m 0 #[.val (.ref x)] [])) rfl (hb hbytes d0)
  have hh2 := q2.trans hh0
  have c3 : Steps p.tables e below (s₁.setTop (entryFrame m #[.ref x] 1)) (T2.setTop (mkF m 7 #[.val (.ref x)] [.ref x])) := (c1.trans (st2 _ (Steps.refl _))).trans (by
    refine XS.ifNo X2.here hexec rfl (hb hbytes d3) rfl (i0_eq_f hz) ?_
    refine XS.aloadN X2.here hexec rfl (hb hbytes d6) rfl rfl ?_
    exact Steps.refl _)
  obtain ⟨T4, X4, q4, st4⟩ := X2.hget hexec hown (wk W (.fieldLink "java/lang/String" 15 "java/lang/String" "coder" "B")) (hx.mv X2.warmed.alike hh2) (g := (mkF m 7 #[.val (.ref x)] [.ref x])) rfl (rest := []) rfl (hb hbytes d7)
  have c5 : Steps p.tables e below (s₁.setTop (entryFrame m #[.ref x] 1)) (T4.setTop (mkF m 14 #[.val (.ref x)] [.int cd])) := (c3.trans (st4 _ (Steps.refl _))).trans (by
    refine XS.goto X4.here hexec rfl (pc0 := 10) rfl (hb hbytes d10) (by decide) rfl ?_
    exact Steps.refl _)
  exact ⟨T4, some (.int cd), _, _, _, X4, rfl, rfl, rfl, (fun h => by cases h), ⟨rfl, q4.trans hh2⟩, fun fs hl => c5.trans (X4.ireturnOut hexec hret (by rcases hc with rfl | rfl <;> rfl) (Or.inr (Or.inr (Or.inl rfl))) (hb hbytes d14) hl)⟩
end Cdr
namespace Len
def yN : MethodName := ⟨"java/lang/String", "length", "()I"⟩
abbrev yB : ByteArray := jdk_42_method_54_code
theorem d0 : decode yB 0 = .ok (.aload_n 0, 1) := by decide +kernel
theorem d1 : decode yB 1 = .ok (.getfield 9, 3) := by decide +kernel
theorem d4 : decode yB 4 = .ok (.arraylength, 1) := by decide +kernel
theorem d5 : decode yB 5 = .ok (.aload_n 0, 1) := by decide +kernel
theorem d6 : decode yB 6 = .ok (.invokevirtual 335, 3) := by decide +kernel
theorem d9 : decode yB 9 = .ok (.ishr, 1) := by decide +kernel
theorem d10 : decode yB 10 = .ok (.ireturn, 1) := by decide +kernel
def site : List Cond := [.fieldLink "java/lang/String" 9 "java/lang/String" "value" "[B", Cdr.tab] ++ virtW "java/lang/String" 335 "java/lang/String" Cdr.yN Cdr.yN
def tab : Cond := tabOf yN yB 1 (some .int) site
def P (x t : Addr) (V : Cell) (cd : Int32) (n : Nat) (f : Nat → Int32) (z : Int32) (args : Array Value) (s : State) : Prop := args = #[.ref x] ∧ Txt x t V cd n f s ∧ StaticIs s "java/lang/String" "COMPACT_STRINGS" "Z" (.int z) ∧ ¬ z = 0
def E (n : Nat) (r : Option Value) (s u : State) : Prop := XT.PureE (some (.int (Int32.ofNat n))) r s u
/-- length() of a String of n chars, in either coding -/
theorem law (l : Launch) (x t : Addr) (V : Cell) (cd : Int32) (n : Nat) (f : Nat → Int32) (z : Int32) : Law l yN 1 0 1 13 yB 1 (some .int) site (P x t V cd n f z) (E n) [] 0 0 := by
  refine Law.of_walk (plainFor_of_name (by decide +kernel)) (by decide +kernel) (by decide +kernel) (by decide) (fun _ _ h => by rw [h.1]; rfl) (fun _ U U' hal hh h => ⟨h.1, h.2.1.mv hal hh, h.2.2.1.there hal hh, h.2.2.2⟩) (fun r U U' V V' h1 hal h2 h => XT.PureE.mv r U U' V V' h1 hal h2 h) ?_
  intro p e s m args below meth c s₁ X0 hexec hbytes hml hret hlk hnm hown hh0 W hP
  obtain ⟨rfl, hx, s1, hz⟩ := hP
  have v31 := hx.2.2.2.1.2.2.2
  have c1 : Steps p.tables e below (s₁.setTop (entryFrame m #[.ref x] 1)) (s₁.setTop (mkF m 1 #[.val (.ref x)] [.ref x])) := Steps.trans (entry rfl) (by
    show Steps p.tables e below (s₁.setTop (mkF m 0 #[.val (.ref x)] [])) _
    refine XS.aloadN X0.here hexec rfl (hb hbytes d0) rfl rfl ?_
    exact Steps.refl _)
  obtain ⟨T2, X2, q2, st2⟩ := X0.hget hexec hown (wk W (.fieldLink "java/lang/String" 9 "java/lang/String" "value" "[B")) (hx.mv X0.warmed.alike hh0).2.1 (g := (mkF m 1 #[.val (.ref x)] [.ref x])) rfl (rest := []) rfl (hb hbytes d1)
  have hh2 := q2.trans hh0
  have hx2 := hx.mv X2.warmed.alike hh2
  have c3 : Steps p.tables e below (s₁.setTop (entryFrame m #[.ref x] 1)) (T2.setTop (mkF m 6 #[.val (.ref x)] [.ref x, .int (Int32.ofNat V.slots.size)])) := (c1.trans (st2 _ (Steps.refl _))).trans (by
    refine X2.alen hexec hx2.2.2.2.1 rfl rfl (hb hbytes d4) ?_
    refine XS.aloadN X2.here hexec rfl (hb hbytes d5) rfl rfl ?_
    exact Steps.refl _)
  obtain ⟨v4, T4, X4, E4, g4⟩ := X2.callV hexec (Cdr.law l x cd z) hown (wks W (virtW "java/lang/String" 335 "java/lang/String" Cdr.yN Cdr.yN)) rfl (by decide) (wk W Cdr.tab) (W := 1) (Nat.le_of_ble_eq_true rfl) (Nat.le_of_ble_eq_true rfl) (Nat.le_refl _) (Nat.le_refl _) (hx2.1.fc X2.warmed.alike) hx2.1.is (g := (mkF m 6 #[.val (.ref x)] [.ref x, .int (Int32.ofNat V.slots.size)])) rfl (by rw [hml]; rfl) c3 (argsL := []) (rest := [.int (Int32.ofNat V.slots.size)]) rfl rfl (by show 2 * 0 + (1 + 0) ≤ _; decide) (hb hbytes d6) (⟨rfl, hx2.2.2.1, hx.2.2.2.2.1.cd, s1.there X2.warmed.alike hh2, hz⟩)
  obtain ⟨rfl, q4⟩ := E4
  have c5 : Steps p.tables e below (s₁.setTop (entryFrame m #[.ref x] 1)) (T4.setTop (mkF m 10 #[.val (.ref x)] [.int (Int32.ofNat V.slots.size >>> (cd &&& 31))])) := Steps.trans g4 (by
    refine ishr X4.here hexec rfl (hb hbytes d9) rfl ?_
    exact Steps.refl _)
  rw [hx.2.2.2.2.1.len v31] at c5
  exact ⟨T4, some (.int (Int32.ofNat n)), _, _, _, X4, rfl, rfl, rfl, (fun h => by cases h), ⟨rfl, q4.trans hh2⟩, fun fs hl => c5.trans (X4.ireturnOut hexec hret rfl (Or.inl rfl) (hb hbytes d10) hl)⟩
theorem pays {l : Launch} {R : Room} {p : Program} {e : Env} {below : List Frame} {s : State} {sargs : Array Value} {len W : Nat} (x t : Addr) (V : Cell) (cd : Int32) (n : Nat) (f : Nat → Int32) (z : Int32) (htab : tab.before sargs s = true) (hfr : 2 ≤ R.frames) (hlo : W + 25 ≤ R.locals) :
    Back l R p e below s sargs yN len W (fun A₁ a₁ => A₁.cells + 0 ≤ R.cells ∧ A₁.slots + 0 ≤ R.slots ∧ P x t V cd n f z a₁ A₁.U) (fun A₁ _ v₁ B₁ => E n v₁ A₁.U B₁.U ∧ B₁.locs = A₁.locs ++ [] ∧ B₁.cells = A₁.cells + 0 ∧ B₁.slots = A₁.slots + 0) :=
  (law l x t V cd n f z).pays htab hfr (by omega)
end Len
namespace IsL
def yN : MethodName := ⟨"java/lang/String", "isLatin1", "()Z"⟩
abbrev yB : ByteArray := jdk_42_method_154_code
theorem d0 : decode yB 0 = .ok (.getstatic 38, 3) := by decide +kernel
theorem d3 : decode yB 3 = .ok (.ifCond (.eq) 14, 3) := by decide +kernel
theorem d6 : decode yB 6 = .ok (.aload_n 0, 1) := by decide +kernel
theorem d7 : decode yB 7 = .ok (.getfield 15, 3) := by decide +kernel
theorem d10 : decode yB 10 = .ok (.ifCond (.ne) 7, 3) := by decide +kernel
theorem d13 : decode yB 13 = .ok (.iconst 1, 1) := by decide +kernel
theorem d14 : decode yB 14 = .ok (.goto 4, 3) := by decide +kernel
theorem d17 : decode yB 17 = .ok (.iconst 0, 1) := by decide +kernel
theorem d18 : decode yB 18 = .ok (.ireturn, 1) := by decide +kernel
def site : List Cond := [.fieldLink "java/lang/String" 38 "java/lang/String" "COMPACT_STRINGS" "Z", .fieldLink "java/lang/String" 15 "java/lang/String" "coder" "B"]
def tab : Cond := tabOf yN yB 1 (some .boolean) site
def P (x : Addr) (cd z : Int32) (args : Array Value) (s : State) : Prop := args = #[.ref x] ∧ Has x "java/lang/String" "coder" "B" (.int cd) s ∧ (cd = 0 ∨ cd = 1) ∧ StaticIs s "java/lang/String" "COMPACT_STRINGS" "Z" (.int z) ∧ ¬ z = 0
def E (cd : Int32) (r : Option Value) (s u : State) : Prop := XT.PureE (some (.int (1 - cd))) r s u
theorem law (l : Launch) (x : Addr) (cd z : Int32) : Law l yN 1 0 0 0 yB 1 (some .boolean) site (P x cd z) (E cd) [] 0 0 := by
  refine Law.of_walk (plainFor_of_name (by decide +kernel)) (by decide +kernel) (by decide +kernel) (by decide) (fun _ _ h => by rw [h.1]; rfl) (fun _ U U' hal hh h => ⟨h.1, h.2.1.mv hal hh, h.2.2.1, h.2.2.2.1.there hal hh, h.2.2.2.2⟩) (fun r U U' V V' h1 hal h2 h => XT.PureE.mv r U U' V V' h1 hal h2 h) ?_
  intro p e s m args below meth c s₁ X0 hexec hbytes hml hret hlk hnm hown hh0 W hP
  obtain ⟨rfl, hx, hc, s1, hz⟩ := hP
  have c1 : Steps p.tables e below (s₁.setTop (entryFrame m #[.ref x] 1)) (s₁.setTop (mkF m 0 #[.val (.ref x)] [])) := entry rfl
  obtain ⟨T2, X2, q2, st2⟩ := X0.sget hexec hown (wk W (.fieldLink "java/lang/String" 38 "java/lang/String" "COMPACT_STRINGS" "Z")) s1 (fun _ _ h => by rw [hh0]; exact h) (g := (mkF m 0 #[.val (.ref x)] [])) rfl (hb hbytes d0)
  have hh2 := q2.trans hh0
  have c3 : Steps p.tables e below (s₁.setTop (entryFrame m #[.ref x] 1)) (T2.setTop (mkF m 7 #[.val (.ref x)] [.ref x])) := (c1.trans (st2 _ (Steps.refl _))).trans (by
    refine XS.ifNo X2.here hexec rfl (hb hbytes d3) rfl (i0_eq_f hz) ?_
    refine XS.aloadN X2.here hexec rfl (hb hbytes d6) rfl rfl ?_
    exact Steps.refl _)
  obtain ⟨T4, X4, q4, st4⟩ := X2.hget hexec hown (wk W (.fieldLink "java/lang/String" 15 "java/lang/String" "coder" "B")) (hx.mv X2.warmed.alike hh2) (g := (mkF m 7 #[.val (.ref x)] [.ref x])) rfl (rest := []) rfl (hb hbytes d7)
  have c5 : Steps p.tables e below (s₁.setTop (entryFrame m #[.ref x] 1)) (T4.setTop (mkF m 10 #[.val (.ref x)] [.int cd])) := c3.trans (st4 _ (Steps.refl _))
  have c6 : Steps p.tables e below (s₁.setTop (entryFrame m #[.ref x] 1)) (T4.setTop (mkF m 18 #[.val (.ref x)] [.int (1 - cd)])) := by
    rcases hc with rfl | rfl
    · exact c5.trans (by
        refine XS.ifNo X4.here hexec rfl (hb hbytes d10) rfl (i0_ne_f rfl) ?_
        refine iconstV X4.here hexec rfl 1 (hb hbytes d13) (by decide) ?_
        refine XS.goto X4.here hexec rfl (pc0 := 14) rfl (hb hbytes d14) (by decide) rfl ?_
        exact Steps.refl _)
    · exact c5.trans (by
        refine XS.ifYes X4.here hexec rfl (pc0 := 10) rfl (hb hbytes d10) rfl (i0_ne_t (by decide)) (by decide) rfl ?_
        refine iconstV X4.here hexec rfl 0 (hb hbytes d17) (by decide) ?_
        exact Steps.refl _)
  exact ⟨T4, some (.int (1 - cd)), _, _, _, X4, rfl, rfl, rfl, (fun h => by cases h), ⟨rfl, q4.trans hh2⟩, fun fs hl => c6.trans (X4.ireturnOut hexec hret (by rcases hc with rfl | rfl <;> rfl) (Or.inr (Or.inl rfl)) (hb hbytes d18) hl)⟩
end IsL
namespace LChA
def yN : MethodName := ⟨"java/lang/StringLatin1", "charAt", "([BI)C"⟩
abbrev yB : ByteArray := jdk_43_method_2_code
theorem d0 : decode yB 0 = .ok (.iload_n 1, 1) := by decide +kernel
theorem d1 : decode yB 1 = .ok (.aload_n 0, 1) := by decide +kernel
theorem d2 : decode yB 2 = .ok (.arraylength, 1) := by decide +kernel
theorem d3 : decode yB 3 = .ok (.invokestatic 9, 3) := by decide +kernel
theorem d6 : decode yB 6 = .ok (.aload_n 0, 1) := by decide +kernel
theorem d7 : decode yB 7 = .ok (.iload_n 1, 1) := by decide +kernel
theorem d8 : decode yB 8 = .ok (.baload, 1) := by decide +kernel
theorem d9 : decode yB 9 = .ok (.sipush 255, 3) := by decide +kernel
theorem d12 : decode yB 12 = .ok (.iand, 1) := by decide +kernel
theorem d13 : decode yB 13 = .ok (.i2c, 1) := by decide +kernel
theorem d14 : decode yB 14 = .ok (.ireturn, 1) := by decide +kernel
def site : List Cond := [JO.Str_checkIndex.tab] ++ staticW "java/lang/StringLatin1" 9 JO.Str_checkIndex.yN
def tab : Cond := tabOf yN yB 2 (some .char) site
def P (t : Addr) (V : Cell) (i : Nat) (u : Int32) (fm : Value) (args : Array Value) (s : State) : Prop := args = #[.ref t, .int (Int32.ofNat i)] ∧ XT.Arr .byte t V s ∧ V.slots[i]? = some (.int u) ∧ (StaticIs s "jdk/internal/util/Preconditions" "SIOOBE_FORMATTER" "Ljava/util/function/BiFunction;" fm ∧ fm.isRef = true)
def E (u : Int32) (r : Option Value) (s w : State) : Prop := XT.PureE (some (.int (chr8 u))) r s w
theorem law (l : Launch) (t : Addr) (V : Cell) (i : Nat) (u : Int32) (fm : Value) : Law l yN 2 2 2 27 yB 2 (some .char) site (P t V i u fm) (E u) [] 0 0 := by
  refine Law.of_walk (plainFor_of_name (by decide +kernel)) (by decide +kernel) (by decide +kernel) (by decide) (fun _ _ h => by rw [h.1]; rfl) (fun _ U U' hal hh h => ⟨h.1, h.2.1.mv hal hh, h.2.2.1, h.2.2.2.1.there hal hh, h.2.2.2.2⟩) (fun r U U' V V' h1 hal h2 h => XT.PureE.mv r U U' V V' h1 hal h2 h) ?_
  intro p e s m args below meth c s₁ X0 hexec hbytes hml hret hlk hnm hown hh0 W hP
  obtain ⟨rfl, hV, hu, s1, rf⟩ := hP
  have v31 := hV.2.2.2
  have hi : i < V.slots.size := (Array.getElem?_eq_some_iff.mp hu).1
  have c1 : Steps p.tables e below (s₁.setTop (entryFrame m #[.ref t, .int (Int32.ofNat i)] 2)) (s₁.setTop (mkF m 0 #[.val (.ref t), .val (.int (Int32.ofNat i))] [])) := entry rfl
  have c2 : Steps p.tables e below (s₁.setTop (entryFrame m #[.ref t, .int (Int32.ofNat i)] 2)) (s₁.setTop (mkF m 3 #[.val (.ref t), .val (.int (Int32.ofNat i))] [.int (Int32.ofNat V.slots.size), .int (Int32.ofNat i)])) := c1.trans (by
    refine XS.iloadN X0.here hexec rfl (hb hbytes d0) rfl ?_
    refine XS.aloadN X0.here hexec rfl (hb hbytes d1) rfl rfl ?_
    refine X0.alen hexec (hV.mv X0.warmed.alike hh0) rfl rfl (hb hbytes d2) ?_
    exact Steps.refl _)
  obtain ⟨v3, T3, X3, E3, g3⟩ := X0.callS hexec (JO.Str_checkIndex.law l (Int32.ofNat i) (Int32.ofNat V.slots.size) fm) hown (wks W (staticW "java/lang/StringLatin1" 9 JO.Str_checkIndex.yN)) (wk W JO.Str_checkIndex.tab) (W := 0) (Nat.le_of_ble_eq_true rfl) (Nat.le_of_ble_eq_true rfl) (Nat.le_refl _) (Nat.le_refl _) (g := (mkF m 3 #[.val (.ref t), .val (.int (Int32.ofNat i))] [.int (Int32.ofNat V.slots.size), .int (Int32.ofNat i)])) rfl (by rw [hml]; rfl) c2 (argsL := [.int (Int32.ofNat i), .int (Int32.ofNat V.slots.size)]) (rest := []) rfl rfl (by show 2 * 0 + 0 ≤ _; decide) (hb hbytes d3) (⟨rfl, rf, s1.there X0.warmed.alike hh0, Int32.ofNat_not_neg (by omega), lt32 v31 hi⟩)
  obtain ⟨rfl, q3⟩ := E3
  have hh3 := q3.trans hh0
  have c4 : Steps p.tables e below (s₁.setTop (entryFrame m #[.ref t, .int (Int32.ofNat i)] 2)) (T3.setTop (mkF m 14 #[.val (.ref t), .val (.int (Int32.ofNat i))] [.int (chr8 u)])) := Steps.trans g3 (by
    refine XS.aloadN X3.here hexec rfl (hb hbytes d6) rfl rfl ?_
    refine XS.iloadN X3.here hexec rfl (hb hbytes d7) rfl ?_
    refine X3.aget hexec (hV.mv X3.warmed.alike hh3) rfl hu rfl rfl (hb hbytes d8) ?_
    refine sipushV X3.here hexec rfl 255 (hb hbytes d9) (by decide) ?_
    refine XS.iand X3.here hexec rfl (hb hbytes d12) rfl ?_
    refine i2c X3.here hexec rfl (hb hbytes d13) rfl ?_
    exact Steps.refl _)
  exact ⟨T3, some (.int (chr8 u)), _, _, _, X3, rfl, rfl, rfl, (fun h => by cases h), ⟨rfl, hh3⟩, fun fs hl => c4.trans (X3.ireturnOut hexec hret (narrow_c _) (Or.inr (Or.inr (Or.inr (Or.inl rfl)))) (hb hbytes d14) hl)⟩
end LChA
end StrChars
namespace StrChars.Road
open Jvm Sem ClassFile Op Lib Jvm.Stand Jvm.Free Jvm.Free.XT
open Jvm.Lib.Cold (StaticIs)
theorem consq {a : Array Value} {s : State} {c : Jvm.Cond} {L : List Jvm.Cond} (h0 : c.before a s = true) (h : ∀ w ∈ L, w.before a s = true) : ∀ w ∈ c :: L, w.before a s = true := fun w hw => (List.mem_cons.mp hw).elim (fun e => e ▸ h0) (h w)
/-- the words of String.length(), either coding -/
abbrev wordsLen : List Jvm.Cond := [.code Len.yN Len.yB 1 (some .int), .initialized ST, .fieldLink ST 9 ST "value" "[B", .fieldLink ST 38 ST "COMPACT_STRINGS" "Z", .fieldLink ST 15 ST "coder" "B", .code Cdr.yN Cdr.yB 1 (some .byte), .methodLink ST 335 Cdr.yN, .declares Cdr.yN, .selects ST Cdr.yN Cdr.yN, .instanceMethod Cdr.yN]
theorem tabLen_of {a : Array Value} {s : State} (h : ∀ w ∈ wordsLen, w.before a s = true) : Len.tab.before a s = true := by
  have hc : Cdr.tab.before a s = true := unparts (wk h (.code Cdr.yN Cdr.yB 1 (some .byte))) (wks h (.initialized Cdr.yN.cls :: Cdr.site))
  have q := consq hc h
  exact unparts (wk q (.code Len.yN Len.yB 1 (some .int))) (wks q (.initialized Len.yN.cls :: Len.site))
theorem movedLen {Z s : State} {a0 args : Array Value} (hZ : Z.Warmed39 s.vm) (hw : ∀ d ∈ wordsLen, d.before a0 Z = true) : ∀ d ∈ wordsLen, d.before args s = true := fun d hd => by
  have q := hw d hd
  have t : ∀ d ∈ wordsLen, d = .arrayClass .byte ∨ (d.onTables && d.keepsFace) = true := by decide +kernel
  rcases t d hd with rfl | t
  · exact RoadKit.mvA hZ q
  · exact RoadKit.mv hZ q t
/-- the bytes of the chars cs, low before high -/
def wideBytes : List Int32 → List Value
  | [] => []
  | c :: cs => .int (lo8 c) :: .int (hi8 c) :: wideBytes cs
theorem wide_lo (d : Value) : ∀ (cs : List Int32) (j : Nat), j < cs.length → (wideBytes cs).getD (2 * j) d = .int (lo8 (cs.getD j 0))
  | [], j, h => absurd h (Nat.not_lt_zero j)
  | c :: cs, 0, _ => rfl
  | c :: cs, j + 1, h => by
    have q := wide_lo d cs j (by simpa using h)
    rw [show 2 * (j + 1) = 2 * j + 1 + 1 from by omega]
    simpa [wideBytes] using q
theorem wide_hi (d : Value) : ∀ (cs : List Int32) (j : Nat), j < cs.length → (wideBytes cs).getD (2 * j + 1) d = .int (hi8 (cs.getD j 0))
  | [], j, h => absurd h (Nat.not_lt_zero j)
  | c :: cs, 0, _ => rfl
  | c :: cs, j + 1, h => by
    have q := wide_hi d cs j (by simpa using h)
    rw [show 2 * (j + 1) + 1 = 2 * j + 1 + 1 + 1 from by omega]
    simpa [wideBytes] using q
theorem low_at (d : Value) (cs : List Int32) (j : Nat) (h : j < cs.length) : (cs.map fun c => Value.int (lo8 c)).getD j d = .int (lo8 (cs.getD j 0)) := by
  simp [List.getD_eq_getElem?_getD, h]
/-- an array of N2 bytes vs codes the chars cs by the coder cd -/
def CodA (cs : List Int32) (cd N2 : Int32) (vs : List Value) : Prop := (cd = 0 ∧ N2 = Int32.ofNat cs.length ∧ vs = (cs.map fun c => Value.int (lo8 c)) ∧ ∀ c ∈ cs, ¬ 255 < c) ∨ (cd = 1 ∧ N2 = Int32.ofNat (2 * cs.length) ∧ vs = wideBytes cs ∧ ∃ c ∈ cs, 255 < c)
theorem CodA.cod {cs : List Int32} {cd N2 : Int32} {vs : List Value} {V : Cell} (h : CodA cs cd N2 vs) (hn : 2 * cs.length < 2 ^ 31) (hs : V.slots.size = N2.toNatClampNeg) (hv : RoadKit.Has V vs (.int 0)) : Cod cd cs.length (fun j => cs.getD j 0) V := by
  rcases h with ⟨rfl, rfl, rfl, h⟩ | ⟨rfl, rfl, rfl, c, hc, hw⟩
  · rw [n32 (by omega)] at hs
    exact Or.inl ⟨rfl, hs, fun j hj => ⟨by rw [hv j (by omega), low_at _ _ _ hj], by
      have e : cs.getD j 0 = cs[j] := by simp [List.getD_eq_getElem?_getD, hj]
      show ¬ 255 < cs.getD j 0
      rw [e]; exact h _ (List.getElem_mem _)⟩⟩
  · rw [n32 (by omega)] at hs
    obtain ⟨j, hj, rfl⟩ := List.getElem_of_mem hc
    exact Or.inr ⟨rfl, hs, fun j hj => ⟨by rw [hv _ (by omega), wide_lo _ _ _ hj], by rw [hv _ (by omega), wide_hi _ _ _ hj]⟩, j, hj, by
      have e : cs.getD j 0 = cs[j] := by simp [List.getD_eq_getElem?_getD, hj]
      show 255 < cs.getD j 0
      rw [e]; exact hw⟩
/-- an object of exactly java/lang/String, its two fields found: as the laws ask it -/
theorem strObj {Z U : State} {a0 : Array Value} {kI : Nat} (wi : (Jvm.Cond.instantiable ST kI).before a0 Z = true) (al : Z.vm.Alike U.vm) {x : Addr} {v0 c0 : Value} (E : RoadKit.Exa Z U.heap x ST) (V : RoadKit.Fld Z U.heap x ST "value" "[B" v0) (C : RoadKit.Fld Z U.heap x ST "coder" "B" c0) :
    ∃ (D : Cell) (fV fC : Field), Blank ST x D U ∧ Found ST "value" "[B" fV U ∧ Found ST "coder" "B" fC U ∧ D.slots[fV.slot]? = some v0 ∧ D.slots[fC.slot]? = some c0 ∧ RoadKit.slotOf Z ST "value" "[B" = fV.slot ∧ RoadKit.slotOf Z ST "coder" "B" = fC.slot := by
  obtain ⟨D, cfV, kV, iV, fV, hD, gV, stV, knV, obV, asV, slV⟩ := V
  obtain ⟨D', cfC, kC, iC, fC, hD', gC, stC, -, -, asC, slC⟩ := C
  cases hD.symm.trans hD'
  obtain ⟨D2, kD, e1, e2, e3, e4, e5⟩ := E
  cases hD.symm.trans e1
  obtain ⟨c2, k2, i1, i2, i3, -⟩ := Cond.instantiable_spec wi
  cases e2.symm.trans i1
  cases e3.symm.trans i2
  obtain ⟨kU, u1, u2⟩ := al.2.2 _ _ e3
  exact ⟨D, fV, fC, ⟨hD, ⟨knV, fun q hq => by rw [hq] at obV; cases obV⟩, by rw [al.findClass]; exact e2, kU, u1, by rw [u2]; exact i3, by rw [u2]; exact e5 i3⟩, ⟨SBG.found_only al ⟨cfV, kV, iV, gV⟩, stV⟩, ⟨SBG.found_only al ⟨cfC, kC, iC, gC⟩, stC⟩, slV, slC, by simp [RoadKit.slotOf, gV], by simp [RoadKit.slotOf, gC]⟩
theorem sta_is {Z U : State} (al : Z.vm.Alike U.vm) {C n d : String} {v : Value} (S : RoadKit.Sta Z U.heap C n d v) : StaticIs U C n d v := by
  obtain ⟨cfS, iS, kS, fS, st, cS, t1, t2, t3, t4, t5, t6, t7⟩ := S
  exact StaticIs.there (s := { Z with heap := U.heap }) ⟨cfS, iS, kS, fS, st, cS, t1, t2, t3, t4, t5, (fun q => by rw [q] at t6; cases t6), t7⟩ al rfl
/-- **length() OF SUCH A STRING** -/
theorem lenW {p : Program} {l : Launch} {e : Env} {R : Room} {s : State} {args : Array Value} {below : List Frame} {len W : Nat} {Z : State} {a0 : Array Value} {h : Heap} (hZ : Z.Warmed39 s.vm) (hw : ∀ d ∈ wordsLen, d.before a0 Z = true) {kI : Nat} (wi : (Jvm.Cond.instantiable ST kI).before a0 Z = true)
    {x t : Addr} {kb : ClassId} {cs : List Int32} {cd N2 z : Int32} {vs : List Value} (E : RoadKit.Exa Z h x ST) (V : RoadKit.Fld Z h x ST "value" "[B" (.ref t)) (C : RoadKit.Fld Z h x ST "coder" "B" (.int cd)) (K : RoadKit.Arv Z h t kb .byte N2 vs (.int 0)) (hc : CodA cs cd N2 vs) (hb : ∀ c ∈ cs, ¬ c < 0 ∧ ¬ (65535 : Int32) < c)
    (S : RoadKit.Sta Z h ST "COMPACT_STRINGS" "Z" (.int z)) (hz : ¬ z = 0) (l2 : cs.length ≤ 4000) (hfr : 2 ≤ R.frames) (hlo : W + 25 ≤ R.locals) :
    Back l R p e below s args (⟨"java/lang/String", "length", "()I"⟩ : MethodName) len W (fun P a => a = #[.ref x] ∧ P.U.heap = h ∧ P.cells + 0 ≤ R.cells ∧ P.slots + 0 ≤ R.slots)
      (fun P _ v B => ∃ L, (v = some (.int (Int32.ofNat cs.length)) ∧ L = [] ∧ B.U.heap = h) ∧ B.locs = P.locs ++ L ∧ B.cells = P.cells + 0 ∧ B.slots = P.slots + 0) := by
  obtain ⟨A, K1, K2, K3, K4, K5, K6⟩ := K
  have hcod := hc.cod (by omega) K3 K5
  intro m meth c P g ig mk a X hg hsize hdg hW hn hp'
  obtain ⟨rfl, rfl, r1, r2⟩ := hp'
  have al : Z.vm.Alike P.U.vm := hZ.alike.trans X.warmed.alike
  obtain ⟨D, fV, fC, hB, F1, F2, g1, g2, -, -⟩ := strObj wi al E V C
  have hx : Txt x t A cd cs.length (fun j => cs.getD j 0) P.U := ⟨⟨_, hB.2.2.1, D, hB.1, rfl, by cases q : D.vm <;> first | rfl | exact absurd q (hB.2.1.2 _)⟩, Has.of hB F1 g1, Has.of hB F2 g2, ⟨K1.1, State.isArrayOf_alike al K1.2.1, K1.2.2, by rcases hcod with ⟨-, q, -⟩ | ⟨-, q, -⟩ <;> omega⟩, hcod, fun j hj => by
    have e : cs.getD j 0 = cs[j] := by simp [List.getD_eq_getElem?_getD, hj]
    show ¬ cs.getD j 0 < 0 ∧ ¬ 65535 < cs.getD j 0
    rw [e]; exact hb _ (List.getElem_mem _)⟩
  obtain ⟨v, B, X', ⟨⟨hv, hh⟩, hl, hk, hs⟩, st⟩ := Len.pays x t A cd cs.length (fun j => cs.getD j 0) z (tabLen_of (movedLen hZ hw)) hfr hlo m meth c P g ig mk _ X hg hsize hdg hW hn ⟨r1, r2, rfl, hx, sta_is al S, hz⟩
  exact ⟨v, B, X', ⟨[], ⟨hv, rfl, hh⟩, hl, hk, hs⟩, st⟩
end StrChars.Road
namespace StrChars
open Jvm Sem ClassFile Op Lib Jvm.Stand Jvm.Free.XT Jvm.Free.ALB Jvm.Free.JM Jvm.Free
open Jvm.Lib.Cold (StaticIs)
namespace Emp
def yN : MethodName := ⟨"java/lang/String", "isEmpty", "()Z"⟩
abbrev yB : ByteArray := jdk_42_method_55_code
theorem d0 : decode yB 0 = .ok (.aload_n 0, 1) := by decide +kernel
theorem d1 : decode yB 1 = .ok (.getfield 9, 3) := by decide +kernel
theorem d4 : decode yB 4 = .ok (.arraylength, 1) := by decide +kernel
theorem d5 : decode yB 5 = .ok (.ifCond (.ne) 7, 3) := by decide +kernel
theorem d8 : decode yB 8 = .ok (.iconst 1, 1) := by decide +kernel
theorem d9 : decode yB 9 = .ok (.goto 4, 3) := by decide +kernel
theorem d12 : decode yB 12 = .ok (.iconst 0, 1) := by decide +kernel
theorem d13 : decode yB 13 = .ok (.ireturn, 1) := by decide +kernel
def site : List Cond := [.fieldLink "java/lang/String" 9 "java/lang/String" "value" "[B"]
def tab : Cond := tabOf yN yB 1 (some .boolean) site
def P (x t : Addr) (V : Cell) (cd : Int32) (n : Nat) (f : Nat → Int32) (args : Array Value) (s : State) : Prop := args = #[.ref x] ∧ Txt x t V cd n f s
def E (n : Nat) (r : Option Value) (s u : State) : Prop := XT.PureE (some (.int (if n = 0 then 1 else 0))) r s u
/-- isEmpty() of a String of n chars -/
theorem law (l : Launch) (x t : Addr) (V : Cell) (cd : Int32) (n : Nat) (f : Nat → Int32) : Law l yN 1 0 0 0 yB 1 (some .boolean) site (P x t V cd n f) (E n) [] 0 0 := by
  refine Law.of_walk (plainFor_of_name (by decide +kernel)) (by decide +kernel) (by decide +kernel) (by decide) (fun _ _ h => by rw [h.1]; rfl) (fun _ U U' hal hh h => ⟨h.1, h.2.mv hal hh⟩) (fun r U U' V V' h1 hal h2 h => XT.PureE.mv r U U' V V' h1 hal h2 h) ?_
  intro p e s m args below meth c s₁ X0 hexec hbytes hml hret hlk hnm hown hh0 W hP
  obtain ⟨rfl, hx⟩ := hP
  have v31 := hx.2.2.2.1.2.2.2
  have c1 : Steps p.tables e below (s₁.setTop (entryFrame m #[.ref x] 1)) (s₁.setTop (mkF m 1 #[.val (.ref x)] [.ref x])) := Steps.trans (entry rfl) (by
    show Steps p.tables e below (s₁.setTop (mkF m 0 #[.val (.ref x)] [])) _
    refine XS.aloadN X0.here hexec rfl (hb hbytes d0) rfl rfl ?_
    exact Steps.refl _)
  obtain ⟨T2, X2, q2, st2⟩ := X0.hget hexec hown (wk W (.fieldLink "java/lang/String" 9 "java/lang/String" "value" "[B")) (hx.mv X0.warmed.alike hh0).2.1 (g := (mkF m 1 #[.val (.ref x)] [.ref x])) rfl (rest := []) rfl (hb hbytes d1)
  have hh2 := q2.trans hh0
  have hx2 := hx.mv X2.warmed.alike hh2
  have c3 : Steps p.tables e below (s₁.setTop (entryFrame m #[.ref x] 1)) (T2.setTop (mkF m 5 #[.val (.ref x)] [.int (Int32.ofNat V.slots.size)])) := (c1.trans (st2 _ (Steps.refl _))).trans (by
    refine X2.alen hexec hx2.2.2.2.1 rfl rfl (hb hbytes d4) ?_
    exact Steps.refl _)
  have hz : V.slots.size = 0 ↔ n = 0 := by
    rcases hx.2.2.2.2.1 with ⟨-, q, -⟩ | ⟨-, q, -⟩ <;> omega
  by_cases h0 : n = 0
  · have c4 : Steps p.tables e below (s₁.setTop (entryFrame m #[.ref x] 1)) (T2.setTop (mkF m 13 #[.val (.ref x)] [.int 1])) := c3.trans (by
      refine XS.ifNo X2.here hexec rfl (hb hbytes d5) rfl (i0_ne_f (by rw [hz.mpr h0]; rfl)) ?_
      refine iconstV X2.here hexec rfl 1 (hb hbytes d8) (by decide) ?_
      refine XS.goto X2.here hexec rfl (pc0 := 9) rfl (hb hbytes d9) (by decide) rfl ?_
      exact Steps.refl _)
    exact ⟨T2, some (.int 1), _, _, _, X2, rfl, rfl, rfl, (fun h => by cases h), ⟨by rw [if_pos h0], hh2⟩, fun fs hl => c4.trans (X2.ireturnOut hexec hret rfl (Or.inr (Or.inl rfl)) (hb hbytes d13) hl)⟩
  · have c4 : Steps p.tables e below (s₁.setTop (entryFrame m #[.ref x] 1)) (T2.setTop (mkF m 13 #[.val (.ref x)] [.int 0])) := c3.trans (by
      refine XS.ifYes X2.here hexec rfl (pc0 := 5) rfl (hb hbytes d5) rfl (i0_ne_t (nz32 v31 (by omega))) (by decide) rfl ?_
      refine iconstV X2.here hexec rfl 0 (hb hbytes d12) (by decide) ?_
      exact Steps.refl _)
    exact ⟨T2, some (.int 0), _, _, _, X2, rfl, rfl, rfl, (fun h => by cases h), ⟨by rw [if_neg h0], hh2⟩, fun fs hl => c4.trans (X2.ireturnOut hexec hret rfl (Or.inr (Or.inl rfl)) (hb hbytes d13) hl)⟩
theorem pays {l : Launch} {R : Room} {p : Program} {e : Env} {below : List Frame} {s : State} {sargs : Array Value} {len W : Nat} (x t : Addr) (V : Cell) (cd : Int32) (n : Nat) (f : Nat → Int32) (htab : tab.before sargs s = true) (hfr : 1 ≤ R.frames) (hlo : W + 12 ≤ R.locals) :
    Back l R p e below s sargs yN len W (fun A₁ a₁ => A₁.cells + 0 ≤ R.cells ∧ A₁.slots + 0 ≤ R.slots ∧ P x t V cd n f a₁ A₁.U) (fun A₁ _ v₁ B₁ => E n v₁ A₁.U B₁.U ∧ B₁.locs = A₁.locs ++ [] ∧ B₁.cells = A₁.cells + 0 ∧ B₁.slots = A₁.slots + 0) :=
  (law l x t V cd n f).pays htab hfr (by omega)
end Emp
end StrChars
namespace StrChars.Road
open Jvm Sem ClassFile Op Lib Jvm.Stand Jvm.Free Jvm.Free.XT
open Jvm.Lib.Cold (StaticIs)
/-- the words of String.isEmpty() -/
abbrev wordsEmp : List Jvm.Cond := [.code Emp.yN Emp.yB 1 (some .boolean), .initialized ST, .fieldLink ST 9 ST "value" "[B"]
theorem tabEmp_of {a : Array Value} {s : State} (h : ∀ w ∈ wordsEmp, w.before a s = true) : Emp.tab.before a s = true := unparts (wk h (.code Emp.yN Emp.yB 1 (some .boolean))) (wks h (.initialized Emp.yN.cls :: Emp.site))
theorem movedEmp {Z s : State} {a0 args : Array Value} (hZ : Z.Warmed39 s.vm) (hw : ∀ d ∈ wordsEmp, d.before a0 Z = true) : ∀ d ∈ wordsEmp, d.before args s = true := fun d hd => by
  have t : ∀ d ∈ wordsEmp, (d.onTables && d.keepsFace) = true := by decide +kernel
  exact RoadKit.mv hZ (hw d hd) (t d hd)
/-- the road's facts of a String, as the laws ask it -/
theorem txt_of {Z U : State} {a0 : Array Value} {kI : Nat} (wi : (Jvm.Cond.instantiable ST kI).before a0 Z = true) (al : Z.vm.Alike U.vm) {x t : Addr} {kb : ClassId} {cs : List Int32} {cd N2 : Int32} {vs : List Value} (E : RoadKit.Exa Z U.heap x ST) (V : RoadKit.Fld Z U.heap x ST "value" "[B" (.ref t)) (C : RoadKit.Fld Z U.heap x ST "coder" "B" (.int cd)) (K : RoadKit.Arv Z U.heap t kb .byte N2 vs (.int 0)) (hc : CodA cs cd N2 vs) (hb : ∀ c ∈ cs, ¬ c < 0 ∧ ¬ (65535 : Int32) < c) (l2 : cs.length ≤ 4000) :
    ∃ A, Txt x t A cd cs.length (fun j => cs.getD j 0) U := by
  obtain ⟨A, K1, K2, K3, K4, K5, K6⟩ := K
  have hcod := hc.cod (by omega) K3 K5
  obtain ⟨D, fV, fC, hB, F1, F2, g1, g2, -, -⟩ := strObj wi al E V C
  exact ⟨A, ⟨_, hB.2.2.1, D, hB.1, rfl, by cases q : D.vm <;> first | rfl | exact absurd q (hB.2.1.2 _)⟩, Has.of hB F1 g1, Has.of hB F2 g2, ⟨K1.1, State.isArrayOf_alike al K1.2.1, K1.2.2, by rcases hcod with ⟨-, q, -⟩ | ⟨-, q, -⟩ <;> omega⟩, hcod, fun j hj => by
    have e : cs.getD j 0 = cs[j] := by simp [List.getD_eq_getElem?_getD, hj]
    show ¬ cs.getD j 0 < 0 ∧ ¬ 65535 < cs.getD j 0
    rw [e]; exact hb _ (List.getElem_mem _)⟩
/-- **isEmpty() OF SUCH A STRING** -/
theorem empW {p : Program} {l : Launch} {e : Env} {R : Room} {s : State} {args : Array Value} {below : List Frame} {len W : Nat} {Z : State} {a0 : Array Value} {h : Heap} (hZ : Z.Warmed39 s.vm) (hw : ∀ d ∈ wordsEmp, d.before a0 Z = true) {kI : Nat} (wi : (Jvm.Cond.instantiable ST kI).before a0 Z = true)
    {x t : Addr} {kb : ClassId} {cs : List Int32} {cd N2 : Int32} {vs : List Value} (E : RoadKit.Exa Z h x ST) (V : RoadKit.Fld Z h x ST "value" "[B" (.ref t)) (C : RoadKit.Fld Z h x ST "coder" "B" (.int cd)) (K : RoadKit.Arv Z h t kb .byte N2 vs (.int 0)) (hc : CodA cs cd N2 vs) (hb : ∀ c ∈ cs, ¬ c < 0 ∧ ¬ (65535 : Int32) < c) (l2 : cs.length ≤ 4000) (hfr : 1 ≤ R.frames) (hlo : W + 12 ≤ R.locals) :
    Back l R p e below s args (⟨"java/lang/String", "isEmpty", "()Z"⟩ : MethodName) len W (fun P a => a = #[.ref x] ∧ P.U.heap = h ∧ P.cells + 0 ≤ R.cells ∧ P.slots + 0 ≤ R.slots)
      (fun P _ v B => ∃ L, (v = some (.int (if cs.length = 0 then 1 else 0)) ∧ L = [] ∧ B.U.heap = h) ∧ B.locs = P.locs ++ L ∧ B.cells = P.cells + 0 ∧ B.slots = P.slots + 0) := by
  intro m meth c P g ig mk a X hg hsize hdg hW hn hp'
  obtain ⟨rfl, rfl, r1, r2⟩ := hp'
  have al : Z.vm.Alike P.U.vm := hZ.alike.trans X.warmed.alike
  obtain ⟨A, hx⟩ := txt_of wi al E V C K hc hb l2
  obtain ⟨v, B, X', ⟨⟨hv, hh⟩, hl, hk, hs⟩, st⟩ := Emp.pays x t A cd cs.length (fun j => cs.getD j 0) (tabEmp_of (movedEmp hZ hw)) hfr hlo m meth c P g ig mk _ X hg hsize hdg hW hn ⟨r1, r2, rfl, hx⟩
  exact ⟨v, B, X', ⟨[], ⟨hv, rfl, hh⟩, hl, hk, hs⟩, st⟩
end StrChars.Road
namespace StrChars
open Jvm Sem ClassFile Op Lib Jvm.Stand Jvm.Free.XT Jvm.Free.ALB Jvm.Free.JM Jvm.Free
open Jvm.Lib.Cold (StaticIs)
namespace ChN
def yN : MethodName := ⟨"java/lang/String", "charAt", "(I)C"⟩
abbrev yB : ByteArray := jdk_42_method_56_code
theorem d0 : decode yB 0 = .ok (.aload_n 0, 1) := by decide +kernel
theorem d1 : decode yB 1 = .ok (.invokevirtual 492, 3) := by decide +kernel
theorem d4 : decode yB 4 = .ok (.ifCond (.eq) 12, 3) := by decide +kernel
theorem d7 : decode yB 7 = .ok (.aload_n 0, 1) := by decide +kernel
theorem d8 : decode yB 8 = .ok (.getfield 9, 3) := by decide +kernel
theorem d11 : decode yB 11 = .ok (.iload_n 1, 1) := by decide +kernel
theorem d12 : decode yB 12 = .ok (.invokestatic 495, 3) := by decide +kernel
theorem d15 : decode yB 15 = .ok (.ireturn, 1) := by decide +kernel
def site : List Cond := [.fieldLink "java/lang/String" 9 "java/lang/String" "value" "[B", IsL.tab, LChA.tab] ++ virtW "java/lang/String" 492 "java/lang/String" IsL.yN IsL.yN ++ staticW "java/lang/String" 495 LChA.yN
def tab : Cond := tabOf yN yB 2 (some .char) site
def P (x t : Addr) (V : Cell) (n : Nat) (f : Nat → Int32) (z : Int32) (fm : Value) (i : Nat) (args : Array Value) (s : State) : Prop := args = #[.ref x, .int (Int32.ofNat i)] ∧ Txt x t V 0 n f s ∧ i < n ∧ StaticIs s "java/lang/String" "COMPACT_STRINGS" "Z" (.int z) ∧ ¬ z = 0 ∧ StaticIs s "jdk/internal/util/Preconditions" "SIOOBE_FORMATTER" "Ljava/util/function/BiFunction;" fm ∧ fm.isRef = true
def E (f : Nat → Int32) (i : Nat) (r : Option Value) (s u : State) : Prop := XT.PureE (some (.int (f i))) r s u
/-- charAt(i) of a Latin-1 String of n chars, i < n: f i -/
theorem law (l : Launch) (x t : Addr) (V : Cell) (n : Nat) (f : Nat → Int32) (z : Int32) (fm : Value) (i : Nat) : Law l yN 2 1 3 40 yB 2 (some .char) site (P x t V n f z fm i) (E f i) [] 0 0 := by
  refine Law.of_walk (plainFor_of_name (by decide +kernel)) (by decide +kernel) (by decide +kernel) (by decide) (fun _ _ h => by rw [h.1]; rfl) (fun _ U U' hal hh h => ⟨h.1, h.2.1.mv hal hh, h.2.2.1, h.2.2.2.1.there hal hh, h.2.2.2.2.1, h.2.2.2.2.2.1.there hal hh, h.2.2.2.2.2.2⟩) (fun r U U' V V' h1 hal h2 h => XT.PureE.mv r U U' V V' h1 hal h2 h) ?_
  intro p e s m args below meth c s₁ X0 hexec hbytes hml hret hlk hnm hown hh0 W hP
  obtain ⟨rfl, hx, hi, s1, hz, s3, rf⟩ := hP
  have v31 := hx.2.2.2.1.2.2.2
  have hr := hx.2.2.2.2.2 i hi
  have hx0 := hx.mv X0.warmed.alike hh0
  have c1 : Steps p.tables e below (s₁.setTop (entryFrame m #[.ref x, .int (Int32.ofNat i)] 2)) (s₁.setTop (mkF m 1 #[.val (.ref x), .val (.int (Int32.ofNat i))] [.ref x])) := Steps.trans (entry rfl) (by
    show Steps p.tables e below (s₁.setTop (mkF m 0 #[.val (.ref x), .val (.int (Int32.ofNat i))] [])) _
    refine XS.aloadN X0.here hexec rfl (hb hbytes d0) rfl rfl ?_
    exact Steps.refl _)
  obtain ⟨v2, T2, X2, E2, g2⟩ := X0.callV hexec (IsL.law l x 0 z) hown (wks W (virtW "java/lang/String" 492 "java/lang/String" IsL.yN IsL.yN)) rfl (by decide) (wk W IsL.tab) (W := 0) (Nat.le_of_ble_eq_true rfl) (Nat.le_of_ble_eq_true rfl) (Nat.le_refl _) (Nat.le_refl _) (hx0.1.fc X0.warmed.alike) hx0.1.is (g := (mkF m 1 #[.val (.ref x), .val (.int (Int32.ofNat i))] [.ref x])) rfl (by rw [hml]; rfl) c1 (argsL := []) (rest := []) rfl rfl (by show 2 * 0 + 0 ≤ _; decide) (hb hbytes d1) (⟨rfl, hx0.2.2.1, hx.2.2.2.2.1.cd, s1.there X0.warmed.alike hh0, hz⟩)
  obtain ⟨rfl, q2⟩ := E2
  have hh2 := q2.trans hh0
  have hx2 := hx.mv X2.warmed.alike hh2
  obtain ⟨-, k1, k2⟩ | ⟨k0, -⟩ := hx.2.2.2.2.1
  · have c3 : Steps p.tables e below (s₁.setTop (entryFrame m #[.ref x, .int (Int32.ofNat i)] 2)) (T2.setTop (mkF m 8 #[.val (.ref x), .val (.int (Int32.ofNat i))] [.ref x])) := Steps.trans g2 (by
      refine XS.ifNo X2.here hexec rfl (hb hbytes d4) rfl (i0_eq_f (by decide)) ?_
      refine XS.aloadN X2.here hexec rfl (hb hbytes d7) rfl rfl ?_
      exact Steps.refl _)
    obtain ⟨T4, X4, q4, st4⟩ := X2.hget hexec hown (wk W (.fieldLink "java/lang/String" 9 "java/lang/String" "value" "[B")) hx2.2.1 (g := (mkF m 8 #[.val (.ref x), .val (.int (Int32.ofNat i))] [.ref x])) rfl (rest := []) rfl (hb hbytes d8)
    have hh4 := q4.trans hh2
    have c5 : Steps p.tables e below (s₁.setTop (entryFrame m #[.ref x, .int (Int32.ofNat i)] 2)) (T4.setTop (mkF m 12 #[.val (.ref x), .val (.int (Int32.ofNat i))] [.int (Int32.ofNat i), .ref t])) := (c3.trans (st4 _ (Steps.refl _))).trans (by
      refine XS.iloadN X4.here hexec rfl (hb hbytes d11) rfl ?_
      exact Steps.refl _)
    obtain ⟨v6, T6, X6, E6, g6⟩ := X4.callS hexec (LChA.law l t V i (lo8 (f i)) fm) hown (wks W (staticW "java/lang/String" 495 LChA.yN)) (wk W LChA.tab) (W := 0) (Nat.le_of_ble_eq_true rfl) (Nat.le_of_ble_eq_true rfl) (Nat.le_refl _) (Nat.le_refl _) (g := (mkF m 12 #[.val (.ref x), .val (.int (Int32.ofNat i))] [.int (Int32.ofNat i), .ref t])) rfl (by rw [hml]; rfl) c5 (argsL := [.ref t, .int (Int32.ofNat i)]) (rest := []) rfl rfl (by show 2 * 0 + 0 ≤ _; decide) (hb hbytes d12) (⟨rfl, hx.2.2.2.1.mv X4.warmed.alike hh4, (k2 i hi).1, s3.there X4.warmed.alike hh4, rf⟩)
    obtain ⟨rfl, q6⟩ := E6
    rw [chr8_lo8 hr.1 (k2 i hi).2] at g6
    exact ⟨T6, some (.int (f i)), _, _, _, X6, rfl, rfl, rfl, (fun h => by cases h), ⟨rfl, q6.trans hh4⟩, fun fs hl => Steps.trans g6 (X6.ireturnOut hexec hret (narrow_ch hr.1 hr.2) (Or.inr (Or.inr (Or.inr (Or.inl rfl)))) (hb hbytes d15) hl)⟩
  · exact absurd k0 (by decide)
theorem pays {l : Launch} {R : Room} {p : Program} {e : Env} {below : List Frame} {s : State} {sargs : Array Value} {len W : Nat} (x t : Addr) (V : Cell) (n : Nat) (f : Nat → Int32) (z : Int32) (fm : Value) (i : Nat) (htab : tab.before sargs s = true) (hfr : 4 ≤ R.frames) (hlo : W + 53 ≤ R.locals) :
    Back l R p e below s sargs yN len W (fun A₁ a₁ => A₁.cells + 0 ≤ R.cells ∧ A₁.slots + 0 ≤ R.slots ∧ P x t V n f z fm i a₁ A₁.U) (fun A₁ _ v₁ B₁ => E f i v₁ A₁.U B₁.U ∧ B₁.locs = A₁.locs ++ [] ∧ B₁.cells = A₁.cells + 0 ∧ B₁.slots = A₁.slots + 0) :=
  (law l x t V n f z fm i).pays htab hfr (by omega)
end ChN
end StrChars
namespace StrChars.Road
open Jvm Sem ClassFile Op Lib Jvm.Stand Jvm.Free Jvm.Free.XT
open Jvm.Lib.Cold (StaticIs)
/-- the words of String.charAt(int), the Latin-1 road alone -/
abbrev wordsChN : List Jvm.Cond := [.code ChN.yN ChN.yB 2 (some .char), .initialized ST, .fieldLink ST 9 ST "value" "[B", .fieldLink ST 38 ST "COMPACT_STRINGS" "Z", .fieldLink ST 15 ST "coder" "B", .code IsL.yN IsL.yB 1 (some .boolean), .methodLink ST 492 IsL.yN, .declares IsL.yN, .selects ST IsL.yN IsL.yN, .instanceMethod IsL.yN,
  .methodLink ST 495 LChA.yN, .static LChA.yN, .code LChA.yN LChA.yB 2 (some .char), .initialized "java/lang/StringLatin1", .methodLink "java/lang/StringLatin1" 9 JO.Str_checkIndex.yN, .static JO.Str_checkIndex.yN, .code JO.Str_checkIndex.yN JO.Str_checkIndex.yB 2 none,
  .fieldLink ST 1053 "jdk/internal/util/Preconditions" "SIOOBE_FORMATTER" "Ljava/util/function/BiFunction;", .methodLink ST 1059 JC.PreCheck.yN, .static JC.PreCheck.yN, .code JC.PreCheck.yN JC.PreCheck.yB 3 (some .int), .initialized "jdk/internal/util/Preconditions"]
theorem tabChN_of {a : Array Value} {s : State} (h : ∀ w ∈ wordsChN, w.before a s = true) : ChN.tab.before a s = true := by
  have hp : JC.PreCheck.tab.before a s = true := unparts (wk h (.code JC.PreCheck.yN JC.PreCheck.yB 3 (some .int))) (wks h (.initialized JC.PreCheck.yN.cls :: JC.PreCheck.site))
  have qk := consq hp h
  have hk : JO.Str_checkIndex.tab.before a s = true := unparts (wk qk (.code JO.Str_checkIndex.yN JO.Str_checkIndex.yB 2 none)) (wks qk (.initialized JO.Str_checkIndex.yN.cls :: JO.Str_checkIndex.site))
  have ql := consq hk h
  have hl : LChA.tab.before a s = true := unparts (wk ql (.code LChA.yN LChA.yB 2 (some .char))) (wks ql (.initialized LChA.yN.cls :: LChA.site))
  have hi : IsL.tab.before a s = true := unparts (wk h (.code IsL.yN IsL.yB 1 (some .boolean))) (wks h (.initialized IsL.yN.cls :: IsL.site))
  have q := consq hi (consq hl h)
  exact unparts (wk q (.code ChN.yN ChN.yB 2 (some .char))) (wks q (.initialized ChN.yN.cls :: ChN.site))
theorem movedChN {Z s : State} {a0 args : Array Value} (hZ : Z.Warmed39 s.vm) (hw : ∀ d ∈ wordsChN, d.before a0 Z = true) : ∀ d ∈ wordsChN, d.before args s = true := fun d hd => by
  have t : ∀ d ∈ wordsChN, (d.onTables && d.keepsFace) = true := by decide +kernel
  exact RoadKit.mv hZ (hw d hd) (t d hd)
/-- **charAt(i) OF A LATIN-1 STRING**, i < n: the char -/
theorem chN {p : Program} {l : Launch} {e : Env} {R : Room} {s : State} {args : Array Value} {below : List Frame} {len W : Nat} {Z : State} {a0 : Array Value} {h : Heap} (hZ : Z.Warmed39 s.vm) (hw : ∀ d ∈ wordsChN, d.before a0 Z = true) {kI : Nat} (wi : (Jvm.Cond.instantiable ST kI).before a0 Z = true)
    {x t : Addr} {kb : ClassId} {cs : List Int32} {N2 z : Int32} {vs : List Value} {fm : Value} {i : Nat} {j : Int32} (E : RoadKit.Exa Z h x ST) (V : RoadKit.Fld Z h x ST "value" "[B" (.ref t)) (C : RoadKit.Fld Z h x ST "coder" "B" (.int 0)) (K : RoadKit.Arv Z h t kb .byte N2 vs (.int 0)) (hc : CodA cs 0 N2 vs) (hb : ∀ c ∈ cs, ¬ c < 0 ∧ ¬ (65535 : Int32) < c)
    (S : RoadKit.Sta Z h ST "COMPACT_STRINGS" "Z" (.int z)) (hz : ¬ z = 0) (F : RoadKit.Sta Z h "jdk/internal/util/Preconditions" "SIOOBE_FORMATTER" "Ljava/util/function/BiFunction;" fm) (rf : fm.isRef = true) (l2 : cs.length ≤ 4000) (hi : i < cs.length) (hj : j = Int32.ofNat i) (hfr : 4 ≤ R.frames) (hlo : W + 53 ≤ R.locals) :
    Back l R p e below s args (⟨"java/lang/String", "charAt", "(I)C"⟩ : MethodName) len W (fun P a => a = #[.ref x, .int j] ∧ P.U.heap = h ∧ P.cells + 0 ≤ R.cells ∧ P.slots + 0 ≤ R.slots)
      (fun P _ v B => ∃ L, (v = some (.int (cs.getD i 0)) ∧ L = [] ∧ B.U.heap = h) ∧ B.locs = P.locs ++ L ∧ B.cells = P.cells + 0 ∧ B.slots = P.slots + 0) := by
  subst hj
  intro m meth c P g ig mk a X hg hsize hdg hW hn hp'
  obtain ⟨rfl, rfl, r1, r2⟩ := hp'
  have al : Z.vm.Alike P.U.vm := hZ.alike.trans X.warmed.alike
  obtain ⟨A, hx⟩ := txt_of wi al E V C K hc hb l2
  obtain ⟨v, B, X', ⟨⟨hv, hh⟩, hl, hk, hs⟩, st⟩ := ChN.pays x t A cs.length (fun j => cs.getD j 0) z fm i (tabChN_of (movedChN hZ hw)) hfr hlo m meth c P g ig mk _ X hg hsize hdg hW hn ⟨r1, r2, rfl, hx, hi, sta_is al S, hz, sta_is al F, rf⟩
  exact ⟨v, B, X', ⟨[], ⟨hv, rfl, hh⟩, hl, hk, hs⟩, st⟩
/-- what backV says of its String, as the contracts of this text ask it: cs's low bytes, coder 0 -/
theorem codOf {cs : List Int32} {n : Nat} (hn : cs.length = n) (hb : ∀ c ∈ cs, ¬ 255 < c) : CodA cs 0 (Int32.ofNat n) ((cs.map lo8).map Value.int) := Or.inl ⟨rfl, by rw [hn], by simp [List.map_map, Function.comp_def], hb⟩
end StrChars.Road
end Jvm.Pilot.@@N@@

namespace Jvm.Pilot.@@N@@
open Jvm Jvm.ClassFile Sem Op Lib Jvm.Free Jvm.Stand Jvm.LawKit Jvm.RoadKit Bundle Jvm.Pilot.@@N@@.Jvm.D
section Kit
variable {p : Program} {l : Launch} {e : Env} {R : Room} {s : State} {m : MethodId} {args : Array Value} {below : List Frame} {meth : Method} {c : Code} {Z : State} {EL : List (String × Nat)} {own : String} {n0 : Nat} {bk : Addr → Prop} {h : Heap} {cells slots : Nat} {g g' : JFrame} {a0 : Array Value} {Q : Option Value → Heap → (Addr → Prop) → Prop}
/-- what a walk leaves: its answer, its heap, what may be booked -/
def EndW (s : State) (R : Room) (Z : State) (EL : List (String × Nat)) (n0 : Nat) (Q : Option Value → Heap → (Addr → Prop) → Prop) (o : Outcome) (U : State) : Prop :=
  ∃ v L bk', o = .returned v ∧ (Q v U.heap bk' ∧ Fr n0 L ∧ Old Z n0 U.heap ∧ CHv Z EL U.vm U.heap ∧ ∀ y, Bk Z EL U.vm U.heap y → bk' y) ∧ ReturnedEndW s o U L R.cells R.slots
/-- where a walk stands -/
def Pos (p : Program) (l : Launch) (e : Env) (R : Room) (s : State) (m : MethodId) (args : Array Value) (below : List Frame) (meth : Method) (c : Code) (Z : State) (EL : List (String × Nat)) (own : String) (n0 : Nat) (bk : Addr → Prop) (h : Heap) (cells slots : Nat) (vm0 : Vm) (T : State) (locs : List Loc) : Prop :=
  Stand p l e R (s.setVm vm0) m args below meth c T locs cells slots ∧ T.heap = h ∧ (∃ k0, s.Since vm0 k0 ∧ k0 ≤ h.size) ∧ Z.Warmed39 vm0 ∧ vm0.findClass own = some m.cls ∧ Fr n0 locs ∧ Old Z n0 h ∧ CHv Z EL vm0 h ∧ (∀ y, Bk Z EL vm0 h y → bk y) ∧ ∃ a0, EW Z a0 EL
/-- from here the walk ends, and leaves Q -/
def Run (p : Program) (l : Launch) (e : Env) (R : Room) (s : State) (m : MethodId) (args : Array Value) (below : List Frame) (meth : Method) (c : Code) (Z : State) (EL : List (String × Nat)) (own : String) (n0 : Nat) (bk : Addr → Prop) (h : Heap) (cells slots : Nat) (g : JFrame) (Q : Option Value → Heap → (Addr → Prop) → Prop) : Prop :=
  ∀ vm0 T locs, Pos p l e R s m args below meth c Z EL own n0 bk h cells slots vm0 T locs → ∃ U o, Steps p.tables e below (T.setTop g) U ∧ U.status = .running ∧ Ended U below o ∧ EndW s R Z EL n0 Q o U
/-- a body's contract -/
def Met (l : Launch) (Z : State) (EL : List (String × Nat)) (n0 : Nat) (bk : Addr → Prop) (y : MethodName) (bytes : ByteArray) (maxL : Nat) (ret : Option FieldType) (rm : Room) (as' : Array Value) (h : Heap) (Q : Option Value → Heap → (Addr → Prop) → Prop) (ws : List Jvm.Cond) : Prop :=
  MetFree l y (head1 (Jvm.Cond.code y bytes maxL ret :: ws) rm) (fun a U => a = as' ∧ Z.Warmed39 U.vm ∧ U.heap = h ∧ CHv Z EL U.vm h ∧ ∀ x, Bk Z EL U.vm h x → bk x) (fun _ _ _ _ _ => True) (fun _ U o U' => EndW U rm Z EL n0 Q o U')
theorem end_mono {s t : State} {o : Outcome} {L : List Loc} {k n k' n' : Nat} (H : ReturnedEndW s o t L k n) (hk : k ≤ k') (hn : n ≤ n') : ReturnedEndW s o t L k' n' := ⟨H.1, H.2.1, H.2.2.1, H.2.2.2.mono hk hn⟩
theorem Met.of {y : MethodName} {bytes : ByteArray} {maxL : Nat} {ret : Option FieldType} {rm : Room} {as' : Array Value} {ws : List Jvm.Cond} (hp : plainFor y = true) (hO : Old Z n0 h) (hE : EW Z a0 EL)
    (H : ∀ p e s m below meth c, p.tables.exec = Jvm.exec → c.code = bytes → c.maxLocals = maxL → meth.sig.returnType = ret → meth.locks = false → meth.name = y.name → Run p l e rm s m as' below meth c Z EL y.cls n0 bk h 0 0 (entryFrame m as' maxL) Q) : Met l Z EL n0 bk y bytes maxL ret rm as' h Q ws := by
  refine MetFree.of_bodySF hp hisR ?_
  intro p e s m args below meth c s₁ Bd hml hP hK
  obtain ⟨rfl, hZ, hh, hC, hB⟩ := hP
  have e0 : s₁.heap = h := by rw [← hh, Bd.state]; rfl
  exact H p e s m below meth c Bd.exec Bd.bytes hml Bd.returns Bd.notSynchronized (name_of_methodNamed Bd.named Bd.method).1 s.vm s₁ [] ⟨Stand.of_body Bd, e0, ⟨0, (State.WarmedH.refl s).since _, Nat.zero_le _⟩, hZ, findClass_of_methodNamed Bd.named, Fr.nil _, hO, hC, hB, _, hE⟩
/-- one pure step -/
theorem k_pure (st : ∀ T, At T m c below → ∀ t, Steps p.tables e below (T.setTop g') t → Steps p.tables e below (T.setTop g) t)
    (k : Run p l e R s m args below meth c Z EL own n0 bk h cells slots g' Q) : Run p l e R s m args below meth c Z EL own n0 bk h cells slots g Q := fun vm0 T locs P => by
  obtain ⟨U, o, h1, r⟩ := k vm0 T locs P
  exact ⟨U, o, st T P.1.here _ h1, r⟩
theorem k_cast (q : g = g') (k : Run p l e R s m args below meth c Z EL own n0 bk h cells slots g' Q) : Run p l e R s m args below meth c Z EL own n0 bk h cells slots g Q := q ▸ k
theorem k_more {cells' slots' : Nat} (hc : cells ≤ cells') (hs : slots ≤ slots') (k : Run p l e R s m args below meth c Z EL own n0 bk h cells' slots' g Q) : Run p l e R s m args below meth c Z EL own n0 bk h cells slots g Q := fun vm0 T locs P => k vm0 T locs ⟨P.1.more hc hs, P.2⟩
/-- one step that looks at the tables or the heap and moves no cell -/
theorem k_still (st : ∀ s' T locs, Stand p l e R s' m args below meth c T locs cells slots → T.heap = h → Z.Warmed39 s'.vm → s'.vm.findClass own = some m.cls → ∃ T', Stand p l e R s' m args below meth c T' locs cells slots ∧ T'.heap = h ∧ ∀ t, Steps p.tables e below (T'.setTop g') t → Steps p.tables e below (T.setTop g) t)
    (k : Run p l e R s m args below meth c Z EL own n0 bk h cells slots g' Q) : Run p l e R s m args below meth c Z EL own n0 bk h cells slots g Q := fun vm0 T locs P => by
  obtain ⟨X, e1, hS, hZ, ho, N, O, C, B, hE⟩ := P
  obtain ⟨T', X', e2, st'⟩ := st _ T locs X e1 hZ ho
  obtain ⟨U, o, h1, r⟩ := k vm0 T' locs ⟨X', e2, hS, hZ, ho, N, O, C, B, hE⟩
  exact ⟨U, o, st' _ h1, r⟩
/-- one step that makes cells -/
theorem k_grow {kc ks : Nat} {F : Heap → JFrame → Prop} (st : ∀ s' T locs, Stand p l e R s' m args below meth c T locs cells slots → T.heap = h → Z.Warmed39 s'.vm → s'.vm.findClass own = some m.cls → ∃ T' h' g', Stand p l e R s' m args below meth c T' locs (cells + kc) (slots + ks) ∧ T'.heap = h' ∧ Ext h h' ∧ F h' g' ∧ ∀ t, Steps p.tables e below (T'.setTop g') t → Steps p.tables e below (T.setTop g) t)
    (k : ∀ h' g', Old Z n0 h' → Ext h h' → F h' g' → Run p l e R s m args below meth c Z EL own n0 bk h' (cells + kc) (slots + ks) g' Q) : Run p l e R s m args below meth c Z EL own n0 bk h cells slots g Q := fun vm0 T locs P => by
  obtain ⟨X, e1, ⟨k0, hS, hk⟩, hZ, ho, N, O, C, B, hE⟩ := P
  obtain ⟨T', h', g', X', e2, E, hF, st'⟩ := st _ T locs X e1 hZ ho
  have hC := CHr.ext E C
  obtain ⟨U, o, h1, r⟩ := k h' g' (O.ext E) E hF vm0 T' locs ⟨X', e2, ⟨k0, hS, Nat.le_trans hk E.1⟩, hZ, ho, N, O.ext E, hC.1, fun y q => B y ((C.step fun _ _ _ q => E.2 _ _ q).2 y q), hE⟩
  exact ⟨U, o, st' _ h1, r⟩
/-- one step that writes one place of a cell that is ours -/
theorem k_write {a : Addr} {sl : Nat} {v : Value} (ge : n0 ≤ a) (nb : ¬ bk a)
    (st : ∀ s' T locs, Stand p l e R s' m args below meth c T locs cells slots → T.heap = h → Z.Warmed39 s'.vm → s'.vm.findClass own = some m.cls → ∃ T' h', Stand p l e R s' m args below meth c T' (locs ++ [⟨a, sl⟩]) cells slots ∧ T'.heap = h' ∧ Wr h h' a sl v ∧ ∀ t, Steps p.tables e below (T'.setTop g') t → Steps p.tables e below (T.setTop g) t)
    (k : ∀ h', Old Z n0 h' → Wr h h' a sl v → Run p l e R s m args below meth c Z EL own n0 bk h' cells slots g' Q) : Run p l e R s m args below meth c Z EL own n0 bk h cells slots g Q := fun vm0 T locs P => by
  obtain ⟨X, e1, ⟨k0, hS, hk⟩, hZ, ho, N, O, C, B, hE⟩ := P
  obtain ⟨T', h', X', e2, W, st'⟩ := st _ T locs X e1 hZ ho
  have sa : Safe Z EL vm0 h a := fun q => nb (B a q)
  have hC := C.wrStep W sa
  obtain ⟨U, o, h1, r⟩ := k h' (O.wr W ge) W vm0 T' _ ⟨X', e2, ⟨k0, hS, by rw [W.size]; exact hk⟩, hZ, ho, Fr.snoc X' N ge, O.wr W ge, hC.1, fun y q => B y (hC.2 y q), hE⟩
  exact ⟨U, o, st' _ h1, r⟩
/-- the end of a walk -/
theorem k_end {v : Option Value} (hlk : meth.locks = false) (hv : meth.sig.returnType = none → v = none) (hc : cells ≤ R.cells) (hs : slots ≤ R.slots) (hQ : Q v h bk)
    (st : ∀ s' T locs fs, Stand p l e R s' m args below meth c T locs cells slots → (∀ (f : JFrame) (acts : List Action), f.method = m → f.locked = none → f.entered = [] → (doReturn e (T.setTop f) acts v).1 = T.setFrames fs) → Steps p.tables e below (T.setTop g) (T.setFrames fs)) :
    Run p l e R s m args below meth c Z EL own n0 bk h cells slots g Q := fun vm0 T locs P => by
  obtain ⟨X, e1, ⟨k0, hS, hk⟩, hZ, ho, N, O, C, B, a0, hE⟩ := P
  obtain ⟨fs, hr, hrun, hended, hW⟩ := X.leaveW hS (by rw [e1]; exact hk) (v := v) hv hlk
  have A := CHv.at X hZ hE C
  have eh : (T.setFrames fs).heap = h := e1
  refine ⟨_, _, st _ T locs fs X hr, hrun, hended, v, locs, bk, rfl, ⟨?_, N, ?_, ?_, ?_⟩, end_mono hW hc hs⟩
  · rw [eh]; exact hQ
  · rw [eh]; exact O
  · rw [eh]; exact A.1
  · rw [eh]; exact fun y q => (A.2.2 y q).elim (B y) (fun z => absurd (Array.getElem?_eq_some_iff.mp (Bk.there q).choose_spec).1 (Nat.not_lt.mpr z))
/-! the steps -/
theorem k_getF (hx : p.tables.exec = Jvm.exec) {R0 O n d host : String} {index : Nat} (w : (Jvm.Cond.fieldLink own index R0 n d).before a0 Z = true ∨ (Jvm.Cond.fieldLinkNest own index R0 n d host).before a0 Z = true) (via : Via Z R0 O n d) {a : Addr} {v : Value} (F : Fld Z h a O n d v)
    (hg : g.method = m) {rest : List Value} (hs : g.stack = .ref a :: rest) (hd : decode c.code g.pc = .ok (.getfield index, 3)) (k : Run p l e R s m args below meth c Z EL own n0 bk h cells slots { g with pc := g.pc + 3, stack := v :: rest } Q) : Run p l e R s m args below meth c Z EL own n0 bk h cells slots g Q :=
  k_still (fun s' T locs X e1 hZ ho => getF X hx hZ ho w via e1 F hg hs hd) k
theorem k_getS (hx : p.tables.exec = Jvm.exec) {R0 O n d host : String} {index : Nat} (w : (Jvm.Cond.fieldLink own index R0 n d).before a0 Z = true ∨ (Jvm.Cond.fieldLinkNest own index R0 n d host).before a0 Z = true) (via : Via Z R0 O n d) {v : Value} (F : Sta Z h O n d v)
    (hg : g.method = m) (hd : decode c.code g.pc = .ok (.getstatic index, 3)) (k : Run p l e R s m args below meth c Z EL own n0 bk h cells slots { g with pc := g.pc + 3, stack := v :: g.stack } Q) : Run p l e R s m args below meth c Z EL own n0 bk h cells slots g Q :=
  k_still (fun s' T locs X e1 hZ ho => getS2 X hx hZ ho w via e1 F hg hd) k
theorem k_cast' (hx : p.tables.exec = Jvm.exec) {K : String} {index : Nat} (w : (Jvm.Cond.classLink own index K).before a0 Z = true) {a : Addr} (F : Ins Z h a K true) (hg : g.method = m) {rest : List Value} (hs : g.stack = .ref a :: rest) (hd : decode c.code g.pc = .ok (.checkcast index, 3))
    (k : Run p l e R s m args below meth c Z EL own n0 bk h cells slots { g with pc := g.pc + 3 } Q) : Run p l e R s m args below meth c Z EL own n0 bk h cells slots g Q :=
  k_still (fun s' T locs X e1 hZ ho => castY X hx hZ ho w e1 F hg hs hd) k
theorem k_instY (hx : p.tables.exec = Jvm.exec) {K : String} {index : Nat} (w : (Jvm.Cond.classLink own index K).before a0 Z = true) {a : Addr} (F : Ins Z h a K true) (hg : g.method = m) {rest : List Value} (hs : g.stack = .ref a :: rest) (hd : decode c.code g.pc = .ok (.instanceof index, 3))
    (k : Run p l e R s m args below meth c Z EL own n0 bk h cells slots { g with pc := g.pc + 3, stack := .int 1 :: rest } Q) : Run p l e R s m args below meth c Z EL own n0 bk h cells slots g Q :=
  k_still (fun s' T locs X e1 hZ ho => instY X hx hZ ho w e1 F hg hs hd) k
theorem k_instNo (hx : p.tables.exec = Jvm.exec) {K C : String} {index : Nat} (w : (Jvm.Cond.classLink own index K).before a0 Z = true) {a : Addr} (E : Exa Z h a C) (F : ∃ c t, Z.vm.findClass C = some c ∧ Z.vm.findClass K = some t ∧ Z.vm.assignable c t = false) (hg : g.method = m) {rest : List Value} (hs : g.stack = .ref a :: rest) (hd : decode c.code g.pc = .ok (.instanceof index, 3))
    (k : Run p l e R s m args below meth c Z EL own n0 bk h cells slots { g with pc := g.pc + 3, stack := .int 0 :: rest } Q) : Run p l e R s m args below meth c Z EL own n0 bk h cells slots g Q :=
  k_still (fun s' T locs X e1 hZ ho => instNo X hx hZ ho w e1 E F hg hs hd) k
theorem k_initO (hx : p.tables.exec = Jvm.exec) {idx : Nat} (w1 : (Jvm.Cond.methodLink own idx Lib.objectInit).before a0 Z = true) (w2 : (Jvm.Cond.instanceMethod Lib.objectInit).before a0 Z = true) (w3 : (Jvm.Cond.code Lib.objectInit ⟨#[0xb1]⟩ 1 none).before a0 Z = true)
    (hg : g.method = m) (hsize : g.locals.size = c.maxLocals) {a : Addr} {rest : List Value} (hs : g.stack = .ref a :: rest) (hd : decode c.code g.pc = .ok (.invokespecial idx, 3)) (hf : 1 ≤ R.frames) {W : Nat} (hW : 2 * g.monitorRoom + (rest.map fun v => v.category).sum ≤ W) (hl : W + 12 ≤ R.locals)
    (k : Run p l e R s m args below meth c Z EL own n0 bk h cells slots { g with pc := g.pc + 3, stack := rest } Q) : Run p l e R s m args below meth c Z EL own n0 bk h cells slots g Q :=
  k_still (fun s' T locs X e1 hZ ho => initO X hx hZ ho w1 w2 w3 e1 hg hsize hs hd hf hW hl) k
theorem k_ldcI (hx : p.tables.exec = Jvm.exec) {index : Nat} {v : Int32} (w : (Jvm.Cond.constant own index v).before a0 Z = true) (hg : g.method = m) (hd : decode c.code g.pc = .ok (.ldc index, 2))
    (k : Run p l e R s m args below meth c Z EL own n0 bk h cells slots { g with pc := g.pc + 2, stack := .int v :: g.stack } Q) : Run p l e R s m args below meth c Z EL own n0 bk h cells slots g Q :=
  k_still (fun s' T locs X e1 hZ ho => ⟨T, X, e1, fun t => X.ldcInt hx ho (mv hZ w) hg hd t⟩) k
theorem k_ldcWI (hx : p.tables.exec = Jvm.exec) {index : Nat} {v : Int32} (w : (Jvm.Cond.constant own index v).before a0 Z = true) (hg : g.method = m) (hd : decode c.code g.pc = .ok (.ldc_w index, 3))
    (k : Run p l e R s m args below meth c Z EL own n0 bk h cells slots { g with pc := g.pc + 3, stack := .int v :: g.stack } Q) : Run p l e R s m args below meth c Z EL own n0 bk h cells slots g Q :=
  k_still (fun s' T locs X e1 hZ ho => ⟨T, X, e1, fun t => X.ldcWInt hx ho (mv hZ w) hg hd t⟩) k
theorem k_ldc2J (hx : p.tables.exec = Jvm.exec) {index : Nat} {v : Int64} (w : (Jvm.Cond.constantLong own index v).before a0 Z = true) (hg : g.method = m) (hd : decode c.code g.pc = .ok (.ldc2_w index, 3))
    (k : Run p l e R s m args below meth c Z EL own n0 bk h cells slots { g with pc := g.pc + 3, stack := .long v :: g.stack } Q) : Run p l e R s m args below meth c Z EL own n0 bk h cells slots g Q :=
  k_still (fun s' T locs X e1 hZ ho => ⟨T, X, e1, fun t => X.ldc2Long hx ho (mv hZ w) hg hd t⟩) k
theorem k_instNull (hx : p.tables.exec = Jvm.exec) {K : String} {index : Nat} (w : (Jvm.Cond.classLink own index K).before a0 Z = true) (hg : g.method = m) {rest : List Value} (hs : g.stack = .null :: rest) (hd : decode c.code g.pc = .ok (.instanceof index, 3))
    (k : Run p l e R s m args below meth c Z EL own n0 bk h cells slots { g with pc := g.pc + 3, stack := .int 0 :: rest } Q) : Run p l e R s m args below meth c Z EL own n0 bk h cells slots g Q :=
  k_still (fun s' T locs X e1 hZ ho => ⟨T, X, e1, fun t => X.instanceofNull hx hg hs hd t⟩) k
theorem k_newO (hx : p.tables.exec = Jvm.exec) {C : String} {index n : Nat} (w : (Jvm.Cond.classLink own index C).before a0 Z = true) (wi : (Jvm.Cond.instantiable C n).before a0 Z = true) (wz : (Jvm.Cond.initialized C).before a0 Z = true)
    (hg : g.method = m) (hd : decode c.code g.pc = .ok (.new index, 3)) (hc : cells + 1 ≤ R.cells) (hl : slots + n ≤ R.slots)
    (k : ∀ h' a, a = h.size → Old Z n0 h' → Ext h h' → Exa Z h' a C → (∀ {O nm d : String} {ty : FieldType}, RoadKit.Laid Z a0 C O nm d → parseFieldDescriptor d = some ty → Fld Z h' a O nm d (defaultValue ty)) → (∃ cell : Cell, h'[a]? = some cell ∧ cell.vm = .none ∧ cell.monitor = {}) →
      Run p l e R s m args below meth c Z EL own n0 bk h' (cells + 1) (slots + n) { g with pc := g.pc + 3, stack := .ref a :: g.stack } Q) : Run p l e R s m args below meth c Z EL own n0 bk h cells slots g Q :=
  k_grow (F := fun h' g' => g' = { g with pc := g.pc + 3, stack := .ref h.size :: g.stack } ∧ Exa Z h' h.size C ∧ (∀ {O nm d : String} {ty : FieldType}, RoadKit.Laid Z a0 C O nm d → parseFieldDescriptor d = some ty → Fld Z h' h.size O nm d (defaultValue ty)) ∧ ∃ cell : Cell, h'[h.size]? = some cell ∧ cell.vm = .none ∧ cell.monitor = {})
    (fun s' T locs X e1 hZ ho => by
      obtain ⟨T', h', X', e2, E, A, D, N, st⟩ := newO X hx hZ ho w wi wz e1 hg hd hc hl
      exact ⟨T', h', _, X', e2, E, ⟨rfl, A, D, N⟩, st⟩)
    (fun h' g' O E ⟨q, A, D, N⟩ => by subst q; exact k h' _ rfl O E A D N)
theorem k_newP (hx : p.tables.exec = Jvm.exec) {aty : ArrayType} (w : (Jvm.Cond.arrayClass (newarray.typeOf aty)).before a0 Z = true) (hg : g.method = m) (hd : decode c.code g.pc = .ok (.newarray aty, 2)) {n : Int32} {rest : List Value} (hs : g.stack = .int n :: rest)
    (hn : ¬ n < 0) {cap : Nat} (hcap : n.toNatClampNeg ≤ cap) (hb : cap * 8 ≤ 536870912) (hc : cells + 1 ≤ R.cells) (hl : slots + cap ≤ R.slots) (ad : String) (had : "[" ++ (newarray.typeOf aty).toString = ad)
    (k : ∀ h' a kA, a = h.size → Old Z n0 h' → Ext h h' → Arv Z h' a kA (newarray.typeOf aty) n [] (defaultValue (newarray.typeOf aty)) → Exa Z h' a ad → Run p l e R s m args below meth c Z EL own n0 bk h' (cells + 1) (slots + cap) { g with pc := g.pc + 2, stack := .ref a :: rest } Q) : Run p l e R s m args below meth c Z EL own n0 bk h cells slots g Q :=
  k_grow (F := fun h' g' => g' = { g with pc := g.pc + 2, stack := .ref h.size :: rest } ∧ Exa Z h' h.size ad ∧ ∃ kA, Arv Z h' h.size kA (newarray.typeOf aty) n [] (defaultValue (newarray.typeOf aty)))
    (fun s' T locs X e1 hZ ho => by
      obtain ⟨T', h', cA, X', e2, E, A, D, st⟩ := newPE X hx hZ w e1 hg hd hs hn hcap hb hc hl had
      exact ⟨T', h', _, X', e2, E, ⟨rfl, D, cA, Arv.new A hn⟩, st⟩)
    (fun h' g' O E ⟨q, D, kA, A⟩ => by subst q; exact k h' _ kA rfl O E A D)
theorem k_newR (hx : p.tables.exec = Jvm.exec) {C : String} {index : Nat} (w1 : (Jvm.Cond.classLink own index C).before a0 Z = true) (w2 : (Jvm.Cond.arrayOver (.object C)).before a0 Z = true) (hg : g.method = m) (hd : decode c.code g.pc = .ok (.anewarray index, 3)) {n : Int32} {rest : List Value} (hs : g.stack = .int n :: rest)
    (hn : ¬ n < 0) {cap : Nat} (hcap : n.toNatClampNeg ≤ cap) (hb : cap * 8 ≤ 536870912) (hc : cells + 1 ≤ R.cells) (hl : slots + cap ≤ R.slots) (ad : String) (had : "[" ++ (FieldType.object C).toString = ad)
    (k : ∀ h' a kA, a = h.size → Old Z n0 h' → Ext h h' → Arv Z h' a kA (.object C) n [] .null → Exa Z h' a ad → Ovr Z kA C → Run p l e R s m args below meth c Z EL own n0 bk h' (cells + 1) (slots + cap) { g with pc := g.pc + 3, stack := .ref a :: rest } Q) : Run p l e R s m args below meth c Z EL own n0 bk h cells slots g Q :=
  k_grow (F := fun h' g' => g' = { g with pc := g.pc + 3, stack := .ref h.size :: rest } ∧ Exa Z h' h.size ad ∧ ∃ kA, Arv Z h' h.size kA (.object C) n [] .null ∧ Ovr Z kA C)
    (fun s' T locs X e1 hZ ho => by
      obtain ⟨T', h', cA, X', e2, E, A, D, Ov, st⟩ := newRE X hx hZ ho w1 w2 e1 hg hd hs hn hcap hb hc hl had
      exact ⟨T', h', _, X', e2, E, ⟨rfl, D, cA, Arv.new A hn, Ov⟩, st⟩)
    (fun h' g' O E ⟨q, D, kA, A, Ov⟩ => by subst q; exact k h' _ kA rfl O E A D Ov)
theorem k_putF (hx : p.tables.exec = Jvm.exec) {R0 O n d host C : String} {index kk : Nat} {ty : FieldType} (w : (Jvm.Cond.fieldLink own index R0 n d).before a0 Z = true ∨ (Jvm.Cond.fieldLinkNest own index R0 n d host).before a0 Z = true) (via : Via Z R0 O n d)
    {a : Addr} {v old : Value} (F : Fld Z h a O n d old) (E : Exa Z h a C) (L : (Jvm.Cond.lays C O n d).before a0 Z = true ∨ ((Jvm.Cond.laysFinal C O n d).before a0 Z = true ∧ own = O ∧ meth.name = "<init>")) (wi : (Jvm.Cond.instantiable C kk).before a0 Z = true)
    (hty : parseFieldDescriptor d = some ty) (hn : narrow ty v = v) (hf : fits ty v = true) (ge : n0 ≤ a) (nb : ¬ bk a) (hg : g.method = m) {rest : List Value} (hs : g.stack = v :: .ref a :: rest) (hd : decode c.code g.pc = .ok (.putfield index, 3))
    (k : ∀ h', Old Z n0 h' → Wr h h' a (RoadKit.slotOf Z O n d) v → Run p l e R s m args below meth c Z EL own n0 bk h' cells slots { g with pc := g.pc + 3, stack := rest } Q) : Run p l e R s m args below meth c Z EL own n0 bk h cells slots g Q :=
  k_write ge nb (fun s' T locs X e1 hZ ho => putF X hx hZ ho w via e1 F E L wi hty hn hf hg hs hd) k
theorem k_alen (hx : p.tables.exec = Jvm.exec) {a : Addr} {kA : ClassId} {ty : FieldType} {n : Int32} {vs : List Value} {d : Value} (V : Arv Z h a kA ty n vs d) (hg : g.method = m) {rest : List Value} (hs : g.stack = .ref a :: rest) (hd : decode c.code g.pc = .ok (.arraylength, 1))
    (k : Run p l e R s m args below meth c Z EL own n0 bk h cells slots { g with pc := g.pc + 1, stack := .int n :: rest } Q) : Run p l e R s m args below meth c Z EL own n0 bk h cells slots g Q :=
  k_still (fun s' T locs X e1 hZ ho => ⟨T, X, e1, fun t => by
    obtain ⟨cl, A, -, S, q, -⟩ := V
    have := X.arraylength hx (a := a) (cell := cl) (by rw [e1]; exact A.1) (State.isArrayOf_alike hZ.alike A.2.1) hg hs hd t
    rw [len_of S q] at this; exact this⟩) k
theorem k_aget (hx : p.tables.exec = Jvm.exec) {a : Addr} {kA : ClassId} {ty : FieldType} {n j : Int32} {vs : List Value} {d v : Value} {i : Instr} (V : Arv Z h a kA ty n vs d) (hj : ¬ j < 0 ∧ j < n) (hv : vs.getD j.toNatClampNeg d = v)
    (hi : (i = .iaload ∧ ty = .int) ∨ (i = .laload ∧ ty = .long) ∨ (i = .caload ∧ ty = .char) ∨ (i = .baload ∧ ty = .byte) ∨ (i = .aaload ∧ ty.isReference = true)) (hg : g.method = m) {rest : List Value} (hs : g.stack = .int j :: .ref a :: rest) (hd : decode c.code g.pc = .ok (i, 1))
    (k : Run p l e R s m args below meth c Z EL own n0 bk h cells slots { g with pc := g.pc + 1, stack := v :: rest } Q) : Run p l e R s m args below meth c Z EL own n0 bk h cells slots g Q :=
  k_still (fun s' T locs X e1 hZ ho => ⟨T, X, e1, fun t => by
    obtain ⟨cl, A, -, S, q, H, -⟩ := V
    have A1 : T.heap[a]? = some cl := by rw [e1]; exact A.1
    have A2 := State.isArrayOf_alike hZ.alike A.2.1
    have hin := inb_of S hj
    have hv' := Has.at H hin hv
    rcases hi with ⟨rfl, rfl⟩ | ⟨rfl, rfl⟩ | ⟨rfl, rfl⟩ | ⟨rfl, rfl⟩ | ⟨rfl, ht⟩
    · exact X.iaload hx A1 A2 A.2.2 hin hv' hg hs hd t
    · exact X.laload hx A1 A2 A.2.2 hin hv' hg hs hd t
    · exact X.caload hx A1 A2 A.2.2 hin hv' hg hs hd t
    · exact X.baloadBytes hx A1 A2 A.2.2 hin hv' hg hs hd t
    · exact X.aaload hx A1 A2 ht A.2.2 hin hv' hg hs hd t⟩) k
theorem k_stC (hx : p.tables.exec = Jvm.exec) {a : Addr} {kA : ClassId} {n j x : Int32} {vs : List Value} {d : Value} (V : Arv Z h a kA .char n vs d) (hj : ¬ j < 0 ∧ j < n) (i : Nat) (hi : j.toNatClampNeg = i) (hl : i < vs.length) (ge : n0 ≤ a) (nb : ¬ bk a) (hg : g.method = m) {rest : List Value} (hs : g.stack = .int x :: .int j :: .ref a :: rest) (hd : decode c.code g.pc = .ok (.castore, 1))
    (k : ∀ h', Old Z n0 h' → Wr h h' a j.toNatClampNeg (.int (nar .char x)) → Arv Z h' a kA .char n (vs.set i (.int (nar .char x))) d → Run p l e R s m args below meth c Z EL own n0 bk h' cells slots { g with pc := g.pc + 1, stack := rest } Q) : Run p l e R s m args below meth c Z EL own n0 bk h cells slots g Q := by
  obtain ⟨cl, A, q1, S, q3, H, G⟩ := V
  exact k_write ge nb (fun s' T locs X e1 hZ ho => stC X hx hZ e1 A (inb_of S hj) hg hs hd) fun h' O W => k h' O W (Arv.set A q1 S q3 H G (fits_nar_char _) W i hi hl)
theorem k_stB (hx : p.tables.exec = Jvm.exec) {a : Addr} {kA : ClassId} {n j x : Int32} {vs : List Value} {d : Value} (V : Arv Z h a kA .byte n vs d) (hj : ¬ j < 0 ∧ j < n) (i : Nat) (hi : j.toNatClampNeg = i) (hl : i < vs.length) (ge : n0 ≤ a) (nb : ¬ bk a) (hg : g.method = m) {rest : List Value} (hs : g.stack = .int x :: .int j :: .ref a :: rest) (hd : decode c.code g.pc = .ok (.bastore, 1))
    (k : ∀ h', Old Z n0 h' → Wr h h' a j.toNatClampNeg (.int (nar .byte x)) → Arv Z h' a kA .byte n (vs.set i (.int (nar .byte x))) d → Run p l e R s m args below meth c Z EL own n0 bk h' cells slots { g with pc := g.pc + 1, stack := rest } Q) : Run p l e R s m args below meth c Z EL own n0 bk h cells slots g Q := by
  obtain ⟨cl, A, q1, S, q3, H, G⟩ := V
  exact k_write ge nb (fun s' T locs X e1 hZ ho => stB X hx hZ e1 A (inb_of S hj) hg hs hd) fun h' O W => k h' O W (Arv.set A q1 S q3 H G (fits_nar_byte _) W i hi hl)
theorem k_stR (hx : p.tables.exec = Jvm.exec) {a : Addr} {kA : ClassId} {ty : FieldType} {n j : Int32} {v : Value} {vs : List Value} {d : Value} (V : Arv Z h a kA ty n vs d) (hty : ty.isReference = true) (hfv : fits ty v = true) (F : Sto Z h a v) (hj : ¬ j < 0 ∧ j < n) (i : Nat) (hi : j.toNatClampNeg = i) (hl : i < vs.length) (ge : n0 ≤ a) (nb : ¬ bk a) (hg : g.method = m) {rest : List Value} (hs : g.stack = v :: .int j :: .ref a :: rest) (hd : decode c.code g.pc = .ok (.aastore, 1))
    (k : ∀ h', Old Z n0 h' → Wr h h' a j.toNatClampNeg v → Arv Z h' a kA ty n (vs.set i v) d → Run p l e R s m args below meth c Z EL own n0 bk h' cells slots { g with pc := g.pc + 1, stack := rest } Q) : Run p l e R s m args below meth c Z EL own n0 bk h cells slots g Q := by
  obtain ⟨cl, A, q1, S, q3, H, G⟩ := V
  exact k_write ge nb (fun s' T locs X e1 hZ ho => stR X hx hZ e1 A (inb_of S hj) hty F hg hs hd) fun h' O W => k h' O W (Arv.set A q1 S q3 H G hfv W i hi hl)
/-! the ends -/
theorem k_ret0 (hx : p.tables.exec = Jvm.exec) (hlk : meth.locks = false) (hret : meth.sig.returnType = none) {pc : Nat} {Ls : Array Slot} (hd : decode c.code pc = .ok (.return_, 1)) (hc : cells ≤ R.cells) (hs : slots ≤ R.slots) (hQ : Q none h bk) : Run p l e R s m args below meth c Z EL own n0 bk h cells slots (mkF m pc Ls []) Q :=
  k_end hlk (fun _ => rfl) hc hs hQ fun s' T locs fs X hr => X.returnOut hx hret hd hr
theorem k_retN (hx : p.tables.exec = Jvm.exec) (hlk : meth.locks = false) {t : FieldType} (hret : meth.sig.returnType = some t) (ht : t = .boolean ∨ t = .byte ∨ t = .char ∨ t = .short) {pc : Nat} {Ls : Array Slot} {z : Int32} {rest : List Value} (hd : decode c.code pc = .ok (.ireturn, 1)) (hc : cells ≤ R.cells) (hs : slots ≤ R.slots) (hQ : Q (some (.int (nar t z))) h bk) : Run p l e R s m args below meth c Z EL own n0 bk h cells slots (mkF m pc Ls (.int z :: rest)) Q :=
  k_end hlk (fun q => by rw [hret] at q; cases q) hc hs hQ fun s' T locs fs X hr => retN X hx hret ht hd hr
theorem k_ret (hx : p.tables.exec = Jvm.exec) (hlk : meth.locks = false) {t : FieldType} {w : Value} {i : Instr} (hret : meth.sig.returnType = some t) (hn : narrow t w = w)
    (hi : (i = .ireturn ∧ (t = .int ∨ t = .boolean ∨ t = .byte ∨ t = .char ∨ t = .short) ∧ ∃ z, w = .int z) ∨ (i = .lreturn ∧ t = .long ∧ ∃ z, w = .long z) ∨ (i = .dreturn ∧ t = .double ∧ ∃ z, w = .double z) ∨ (i = .freturn ∧ t = .float ∧ ∃ z, w = .float z) ∨ (i = .areturn ∧ t.isReference = true ∧ w.isRef = true)) {pc : Nat} {Ls : Array Slot} {rest : List Value} (hd : decode c.code pc = .ok (i, 1)) (hc : cells ≤ R.cells) (hs : slots ≤ R.slots) (hQ : Q (some w) h bk) : Run p l e R s m args below meth c Z EL own n0 bk h cells slots (mkF m pc Ls (w :: rest)) Q :=
  k_end hlk (fun q => by rw [hret] at q; cases q) hc hs hQ fun s' T locs fs X hr => retOut X hx hret hn hi hd hr
theorem k_retI (hx : p.tables.exec = Jvm.exec) (hlk : meth.locks = false) (hret : meth.sig.returnType = some .int) {pc : Nat} {Ls : Array Slot} {z : Int32} {rest : List Value} (hd : decode c.code pc = .ok (.ireturn, 1)) (hc : cells ≤ R.cells) (hs : slots ≤ R.slots) (hQ : Q (some (.int z)) h bk) : Run p l e R s m args below meth c Z EL own n0 bk h cells slots (mkF m pc Ls (.int z :: rest)) Q :=
  k_ret hx hlk hret rfl (Or.inl ⟨rfl, Or.inl rfl, z, rfl⟩) hd hc hs hQ
theorem k_retL (hx : p.tables.exec = Jvm.exec) (hlk : meth.locks = false) (hret : meth.sig.returnType = some .long) {pc : Nat} {Ls : Array Slot} {z : Int64} {rest : List Value} (hd : decode c.code pc = .ok (.lreturn, 1)) (hc : cells ≤ R.cells) (hs : slots ≤ R.slots) (hQ : Q (some (.long z)) h bk) : Run p l e R s m args below meth c Z EL own n0 bk h cells slots (mkF m pc Ls (.long z :: rest)) Q :=
  k_ret hx hlk hret rfl (Or.inr (Or.inl ⟨rfl, rfl, z, rfl⟩)) hd hc hs hQ
theorem k_retA (hx : p.tables.exec = Jvm.exec) (hlk : meth.locks = false) {t : FieldType} {w : Value} (hret : meth.sig.returnType = some t) (hn : narrow t w = w) (ht : t.isReference = true) (hw : w.isRef = true) {pc : Nat} {Ls : Array Slot} {rest : List Value} (hd : decode c.code pc = .ok (.areturn, 1)) (hc : cells ≤ R.cells) (hs : slots ≤ R.slots) (hQ : Q (some w) h bk) : Run p l e R s m args below meth c Z EL own n0 bk h cells slots (mkF m pc Ls (w :: rest)) Q :=
  k_ret hx hlk hret hn (Or.inr (Or.inr (Or.inr (Or.inr ⟨rfl, ht, hw⟩)))) hd hc hs hQ
/-! the calls -/
/-- what a callee's law gives to a walk that stands at h -/
def Pays (l : Launch) (R : Room) (p : Program) (e : Env) (below : List Frame) (s : State) (args : Array Value) (Z : State) (EL : List (String × Nat)) (n0 : Nat) (bk : Addr → Prop) (h : Heap) (y : MethodName) (len W kc ks : Nat) (as' : Array Value) (Q : Option Value → Heap → (Addr → Prop) → Prop) : Prop :=
  ∀ vm0, Z.Warmed39 vm0 → (∃ a0, EW Z a0 EL) → Old Z n0 h → CHv Z EL vm0 h → (∀ y, Bk Z EL vm0 h y → bk y) →
    BackS l R p e below (s.setVm vm0) args y len W (fun A a => a = as' ∧ A.U.heap = h ∧ A.cells + kc ≤ R.cells ∧ A.slots + ks ≤ R.slots)
      (fun A _ v B => ∃ L bk', Q v B.U.heap bk' ∧ Fr n0 L ∧ Old Z n0 B.U.heap ∧ CHv Z EL B.U.vm B.U.heap ∧ (∀ y, Bk Z EL B.U.vm B.U.heap y → bk' y) ∧ B.locs = A.locs ++ L ∧ B.cells = A.cells + kc ∧ B.slots = A.slots + ks)
theorem at_bk {T : State} {locs : List Loc} {vm0 : Vm} (X : Stand p l e R (s.setVm vm0) m args below meth c T locs cells slots) (hZ : Z.Warmed39 vm0) (w : EW Z a0 EL) (C : CHv Z EL vm0 h) (B : ∀ y, Bk Z EL vm0 h y → bk y) : CHv Z EL T.vm h ∧ ∀ y, Bk Z EL T.vm h y → bk y := by
  have A := CHv.at X hZ w C
  exact ⟨A.1, fun y q => (A.2.2 y q).elim (B y) (fun z => absurd (Array.getElem?_eq_some_iff.mp (Bk.there q).choose_spec).1 (Nat.not_lt.mpr z))⟩
theorem Pays.of_met {y : MethodName} {bytes : ByteArray} {maxL : Nat} {ret : Option FieldType} {rm : Room} {len W : Nat} {as' : Array Value} {Qc : Option Value → Heap → (Addr → Prop) → Prop} (hM : Met l Z EL n0 bk y bytes maxL ret rm as' h Qc [])
    (wc : (Jvm.Cond.code y bytes maxL ret).before a0 Z = true) (wz : (Jvm.Cond.initialized y.cls).before a0 Z = true) (hf : rm.frames + 1 ≤ R.frames) (hl : W + (maxL + 11) + rm.locals ≤ R.locals) :
    Pays l R p e below s args Z EL n0 bk h y len W rm.cells rm.slots as' Qc := fun vm0 hZ ⟨a1, hEL⟩ hO H hB =>
  BackS.of_freeW (bytes := bytes) (maxL := maxL) (ret := ret) (E := fun _ _ o t L k n => k = rm.cells ∧ n = rm.slots ∧ ∃ v bk', o = .returned v ∧ Qc v t.heap bk' ∧ Fr n0 L ∧ Old Z n0 t.heap ∧ CHv Z EL t.vm t.heap ∧ ∀ y, Bk Z EL t.vm t.heap y → bk' y) hM hf hl
    (fun m meth c A a Y hp => have hU : Z.Warmed39 A.U.vm := wtrans (s := s.setVm vm0) hZ Y.warmed
      ⟨by show (Jvm.Cond.and _ .tt).before a A.U = true; rw [Jvm.Cond.before_and, mv hU wc]; rfl, mv hU wc, mv hU wz, hp.2.2.1, hp.2.2.2⟩)
    (fun m meth c A a g mk Y hp => have r := at_bk Y hZ hEL H hB; ⟨hp.1, wtrans (s := s.setVm vm0) hZ Y.warmed, hp.2.1, r.1, r.2⟩) (fun _ _ _ _ _ _ _ _ _ => trivial)
    (fun _ _ _ _ ⟨v, L, bk', h1, h2, h3⟩ => ⟨L, _, _, h3, rfl, rfl, v, bk', h1, h2⟩)
    (fun m meth c A a g mk v t L k n Y hp _ _ ⟨e1, e2, v', bk', e3, r1, r2, r3, r4, r5⟩ => by
      cases e3; subst e1 e2
      exact ⟨L, bk', r1, r2, r3, r4, r5, rfl, rfl, rfl⟩)
/-- a library law that moves nothing -/
theorem Pays.of_same {y : MethodName} {len W : Nat} {as' : Array Value} {v0 : Option Value} (hK : ∀ s' : State, Z.Warmed39 s'.vm → Back l R p e below s' args y len W (fun P a => a = as' ∧ P.U.heap = h ∧ P.cells + 0 ≤ R.cells ∧ P.slots + 0 ≤ R.slots) (fun P _ v B => ∃ L, (v = v0 ∧ L = [] ∧ B.U.heap = h) ∧ B.locs = P.locs ++ L ∧ B.cells = P.cells + 0 ∧ B.slots = P.slots + 0)) :
    Pays l R p e below s args Z EL n0 bk h y len W 0 0 as' (fun v h' bk' => v = v0 ∧ h = h' ∧ bk = bk') := fun vm0 hZ ⟨a1, hEL⟩ hO H hB => by
  intro m meth c A g ig mk a X hg hsize hdg hW hn hp
  obtain ⟨v, B, X', ⟨L, ⟨q1, q2, q3⟩, q4, q5, q6⟩, hsteps⟩ := hK (s.setVm vm0) hZ m meth c A g ig mk a X hg hsize hdg hW hn hp
  have r := at_bk X' hZ hEL H hB
  refine ⟨v, B, X'.retabled X'.warmed.wide, X'.warmed.since _, by rw [hp.2.1, q3]; exact Nat.le_refl _, ⟨L, bk, ⟨q1, q3.symm, rfl⟩, by rw [q2]; exact Fr.nil _, by rw [q3]; exact hO, by rw [q3]; exact r.1, by rw [q3]; exact r.2, q4, q5, q6⟩, hsteps⟩
theorem ne_of_keep {Z : State} {EL : List (String × Nat)} {vm : Vm} {h h' : Heap} {x : Addr} (K : Keep h h' [x]) (C : CHv Z EL vm h) (nb : ¬ Bk Z EL vm h x) : CHv Z EL vm h' ∧ ∀ y, Bk Z EL vm h' y → Bk Z EL vm h y := C.keepStep K (sfS nb sf0)
/-- a library law that writes one object of ours -/
theorem Pays.of_keep {y : MethodName} {len W kc ks : Nat} {as' : Array Value} {x : Addr} {Qk : Option Value → Heap → List Loc → Prop} (nb : ¬ bk x) (ge : n0 ≤ x) (hq : ∀ v h' L, Qk v h' L → Fr n0 L ∧ Keep h h' [x])
    (hK : ∀ s' : State, Z.Warmed39 s'.vm → Back l R p e below s' args y len W (fun P a => a = as' ∧ P.U.heap = h ∧ P.cells + kc ≤ R.cells ∧ P.slots + ks ≤ R.slots) (fun P _ v B => ∃ L, Qk v B.U.heap L ∧ B.locs = P.locs ++ L ∧ B.cells = P.cells + kc ∧ B.slots = P.slots + ks)) :
    Pays l R p e below s args Z EL n0 bk h y len W kc ks as' (fun v h' bk' => (∃ L, Qk v h' L) ∧ bk = bk') := fun vm0 hZ ⟨a1, hEL⟩ hO H hB => by
  intro m meth c A g ig mk a X hg hsize hdg hW hn hp
  obtain ⟨v, B, X', ⟨L, q1, q4, q5, q6⟩, hsteps⟩ := hK (s.setVm vm0) hZ m meth c A g ig mk a X hg hsize hdg hW hn hp
  obtain ⟨N, K⟩ := hq _ _ _ q1
  have r := at_bk X' hZ hEL H hB
  have r' := ne_of_keep K r.1 (fun q => nb (r.2 x q))
  refine ⟨v, B, X'.retabled X'.warmed.wide, X'.warmed.since _, by rw [hp.2.1]; exact K.1, ⟨L, bk, ⟨⟨L, q1⟩, rfl⟩, N, hO.keep K (allS ge all0), r'.1, fun z q => r.2 z (r'.2 z q), q4, q5, q6⟩, hsteps⟩
/-- behind a call -/
theorem k_back {vm0 : Vm} {T : State} {locs : List Loc} {len kc ks : Nat} {rest : List Value} {Qc : Option Value → Heap → (Addr → Prop) → Prop} (P : Pos p l e R s m args below meth c Z EL own n0 bk h cells slots vm0 T locs)
    (H : ∃ (v : Option Value) (vm₁ : Vm) (B : Pt), (s.setVm vm0).WarmedH vm₁ ∧ Stand p l e R ((s.setVm vm0).setVm B.U.vm) m args below meth c B.U B.locs B.cells B.slots ∧ (s.setVm vm0).Since B.U.vm B.U.heap.size ∧ T.heap.size ≤ B.U.heap.size ∧
      (∃ L bk', Qc v B.U.heap bk' ∧ Fr n0 L ∧ Old Z n0 B.U.heap ∧ CHv Z EL B.U.vm B.U.heap ∧ (∀ y, Bk Z EL B.U.vm B.U.heap y → bk' y) ∧ B.locs = locs ++ L ∧ B.cells = cells + kc ∧ B.slots = slots + ks) ∧ Steps p.tables e below (T.setTop g) (B.U.setTop { g with pc := g.pc + len, stack := v.toList ++ rest }))
    (k : ∀ v h' bk', Old Z n0 h' → h.size ≤ h'.size → Qc v h' bk' → Run p l e R s m args below meth c Z EL own n0 bk' h' (cells + kc) (slots + ks) { g with pc := g.pc + len, stack := v.toList ++ rest } Q) :
    ∃ U o, Steps p.tables e below (T.setTop g) U ∧ U.status = .running ∧ Ended U below o ∧ EndW s R Z EL n0 Q o U := by
  obtain ⟨X, e1, ⟨k0, hS, hk⟩, hZ, ho, N, O, C, B, hE⟩ := P
  obtain ⟨v, vm1, ⟨TB, LB, cB, sB⟩, -, X', hS', hgr, ⟨L, bk', q1, q2, q3, q4, q5, q6, q7, q8⟩, st⟩ := H
  dsimp only [Pt.U, Pt.locs, Pt.cells, Pt.slots] at X' hS' hgr q1 q3 q4 q5 q6 q7 q8 st
  subst q6 q7 q8
  obtain ⟨r1, r2, r3, r4⟩ := rebS hS (by rw [← e1] at hk; exact hk) X' hS' hgr hZ ho
  obtain ⟨U, o, h1, r⟩ := k v TB.heap bk' q3 (by rw [← e1]; exact hgr) q1 TB.vm TB _ ⟨r1, rfl, ⟨_, r2, Nat.le_refl _⟩, r3, r4, Fr.app N q2, q3, q4, q5, hE⟩
  exact ⟨U, o, st.trans h1, r⟩
theorem k_callS (hx : p.tables.exec = Jvm.exec) {index : Nat} {y : MethodName} {bytes : ByteArray} {maxL : Nat} {ret : Option FieldType} (w1 : (Jvm.Cond.methodLink own index y).before a0 Z = true) (w2 : (Jvm.Cond.static y).before a0 Z = true) (w3 : (Jvm.Cond.initialized y.cls).before a0 Z = true) (w4 : (Jvm.Cond.code y bytes maxL ret).before a0 Z = true)
    (hy : y.cls ≠ "java/lang/invoke/MethodHandle" ∧ y.cls ≠ "java/lang/invoke/VarHandle") {W kc ks : Nat} {Qc : Option Value → Heap → (Addr → Prop) → Prop} {argsL rest : List Value} (hK : Pays l R p e below s args Z EL n0 bk h y 3 W kc ks argsL.toArray Qc)
    (hg : g.method = m) (hsize : g.locals.size = c.maxLocals) (hlen : ∀ sig, parseMethodDescriptor y.desc = some sig → argsL.length = sig.parameters.length) (hstack : g.stack = argsL.reverse ++ rest) (hW : 2 * g.monitorRoom + (rest.map fun v => v.category).sum ≤ W) (hd : decode c.code g.pc = .ok (.invokestatic index, 3)) (hc : cells + kc ≤ R.cells) (hs : slots + ks ≤ R.slots)
    (k : ∀ v h' bk', Old Z n0 h' → h.size ≤ h'.size → Qc v h' bk' → Run p l e R s m args below meth c Z EL own n0 bk' h' (cells + kc) (slots + ks) { g with pc := g.pc + 3, stack := v.toList ++ rest } Q) : Run p l e R s m args below meth c Z EL own n0 bk h cells slots g Q := fun vm0 T locs P => by
  have P' := P
  obtain ⟨X, e1, hS, hZ, ho, N, O, C, B, hE⟩ := P'
  exact k_back P (callSS X hx ho (mv hZ w1) (mv hZ w2) (mv hZ w3) (mv hZ w4) hy (hK vm0 hZ hE O C B) hg hsize hlen hstack hW hd fun _ _ => ⟨rfl, e1, hc, hs⟩) k
theorem k_callI (hx : p.tables.exec = Jvm.exec) {index : Nat} {y : MethodName} {bytes : ByteArray} {maxL : Nat} (hy1 : y.name = "<init>") (w1 : (Jvm.Cond.methodLink own index y).before a0 Z = true) (w2 : (Jvm.Cond.instanceMethod y).before a0 Z = true) (w4 : (Jvm.Cond.code y bytes maxL none).before a0 Z = true)
    (hy : y.cls ≠ "java/lang/invoke/MethodHandle" ∧ y.cls ≠ "java/lang/invoke/VarHandle") {W kc ks : Nat} {Qc : Option Value → Heap → (Addr → Prop) → Prop} {a : Addr} {argsL rest : List Value} (hK : Pays l R p e below s args Z EL n0 bk h y 3 W kc ks (.ref a :: argsL).toArray Qc)
    (hg : g.method = m) (hsize : g.locals.size = c.maxLocals) (hlen : ∀ sig, parseMethodDescriptor y.desc = some sig → argsL.length = sig.parameters.length) (hstack : g.stack = argsL.reverse ++ .ref a :: rest) (hW : 2 * g.monitorRoom + (rest.map fun v => v.category).sum ≤ W) (hd : decode c.code g.pc = .ok (.invokespecial index, 3)) (hc : cells + kc ≤ R.cells) (hs : slots + ks ≤ R.slots)
    (k : ∀ v h' bk', Old Z n0 h' → h.size ≤ h'.size → Qc v h' bk' → Run p l e R s m args below meth c Z EL own n0 bk' h' (cells + kc) (slots + ks) { g with pc := g.pc + 3, stack := v.toList ++ rest } Q) : Run p l e R s m args below meth c Z EL own n0 bk h cells slots g Q := fun vm0 T locs P => by
  have P' := P
  obtain ⟨X, e1, hS, hZ, ho, N, O, C, B, hE⟩ := P'
  exact k_back P (X.specialBackS hx hy1 ho (mv hZ w1) (mv hZ w2) (mv hZ w4) hy (hK vm0 hZ hE O C B) hg hsize (Steps.refl _) hlen hstack hW hd fun _ _ => ⟨rfl, e1, hc, hs⟩) k
theorem k_callV (hx : p.tables.exec = Jvm.exec) {index : Nat} {C : String} {y z : MethodName} (w1 : (Jvm.Cond.methodLink own index y).before a0 Z = true) (w2 : (Jvm.Cond.declares y).before a0 Z = true) (nf : ∀ s' : State, Z.Warmed39 s'.vm → NotFace s' y) (w3 : (Jvm.Cond.selects C y z).before a0 Z = true) (w4 : (Jvm.Cond.instanceMethod z).before a0 Z = true)
    (hy : y.cls ≠ "java/lang/invoke/MethodHandle" ∧ y.cls ≠ "java/lang/invoke/VarHandle") {W kc ks : Nat} {Qc : Option Value → Heap → (Addr → Prop) → Prop} {a : Addr} {argsL rest : List Value} (hK : Pays l R p e below s args Z EL n0 bk h z 3 W kc ks (.ref a :: argsL).toArray Qc) (E : Exa Z h a C)
    (hg : g.method = m) (hsize : g.locals.size = c.maxLocals) (hlen : ∀ sig, parseMethodDescriptor y.desc = some sig → argsL.length = sig.parameters.length) (hstack : g.stack = argsL.reverse ++ .ref a :: rest) (hW : 2 * g.monitorRoom + (rest.map fun v => v.category).sum ≤ W) (hd : decode c.code g.pc = .ok (.invokevirtual index, 3)) (hc : cells + kc ≤ R.cells) (hs : slots + ks ≤ R.slots)
    (k : ∀ v h' bk', Old Z n0 h' → h.size ≤ h'.size → Qc v h' bk' → Run p l e R s m args below meth c Z EL own n0 bk' h' (cells + kc) (slots + ks) { g with pc := g.pc + 3, stack := v.toList ++ rest } Q) : Run p l e R s m args below meth c Z EL own n0 bk h cells slots g Q := fun vm0 T locs P => by
  have P' := P
  obtain ⟨X, e1, hS, hZ, ho, N, O, C, B, hE⟩ := P'
  obtain ⟨cq, kq, qa, qb, qc⟩ := isOf (s := s.setVm vm0) hZ e1 E
  exact k_back P (X.virtualBackS hx ho (mv hZ w1) (mv hZ w2) (nf _ hZ) (mv hZ w3) (mv hZ w4) hy (hK vm0 hZ hE O C B) qa qc hg hsize (Steps.refl _) hlen hstack hW hd fun _ _ => ⟨rfl, e1, hc, hs⟩) k
/-- invokevirtual of a method that a class above the named one declares -/
theorem k_callU (hx : p.tables.exec = Jvm.exec) {index : Nat} {C owner : String} {y z : MethodName} (w1 : (Jvm.Cond.methodLink own index y).before a0 Z = true) (w2 : (Jvm.Cond.sameMethod y.cls owner y.name y.desc).before a0 Z = true) (w5 : (Jvm.Cond.declares ⟨owner, y.name, y.desc⟩).before a0 Z = true) (how : owner ≠ "java/lang/invoke/MethodHandle" ∧ owner ≠ "java/lang/invoke/VarHandle") (w3 : (Jvm.Cond.selects C y z).before a0 Z = true) (w4 : (Jvm.Cond.instanceMethod z).before a0 Z = true)
    {W kc ks : Nat} {Qc : Option Value → Heap → (Addr → Prop) → Prop} {a : Addr} {argsL rest : List Value} (hK : Pays l R p e below s args Z EL n0 bk h z 3 W kc ks (.ref a :: argsL).toArray Qc) (E : Exa Z h a C)
    (hg : g.method = m) (hsize : g.locals.size = c.maxLocals) (hlen : ∀ sig, parseMethodDescriptor y.desc = some sig → argsL.length = sig.parameters.length) (hstack : g.stack = argsL.reverse ++ .ref a :: rest) (hW : 2 * g.monitorRoom + (rest.map fun v => v.category).sum ≤ W) (hd : decode c.code g.pc = .ok (.invokevirtual index, 3)) (hc : cells + kc ≤ R.cells) (hs : slots + ks ≤ R.slots)
    (k : ∀ v h' bk', Old Z n0 h' → h.size ≤ h'.size → Qc v h' bk' → Run p l e R s m args below meth c Z EL own n0 bk' h' (cells + kc) (slots + ks) { g with pc := g.pc + 3, stack := v.toList ++ rest } Q) : Run p l e R s m args below meth c Z EL own n0 bk h cells slots g Q := fun vm0 T locs P => by
  have P' := P
  obtain ⟨X, e1, hS, hZ, ho, N, O, C, B, hE⟩ := P'
  obtain ⟨cq, kq, qa, qb, qc⟩ := isOf (s := s.setVm vm0) hZ e1 E
  exact k_back P (X.virtualBackUpS hx ho (mv hZ w1) (mv hZ w2) (mv hZ w5) how (mv hZ w3) (mv hZ w4) (hK vm0 hZ hE O C B) qa qc hg hsize (Steps.refl _) hlen hstack hW hd fun _ _ => ⟨rfl, e1, hc, hs⟩) k
theorem decl_of {y : MethodName} {bytes : ByteArray} {maxL : Nat} {ret : Option FieldType} (w2 : (Jvm.Cond.instanceMethod y).before a0 Z = true) (w4 : (Jvm.Cond.code y bytes maxL ret).before a0 Z = true) : (Jvm.Cond.declares y).before a0 Z = true := by
  obtain ⟨mk, methM, hnamed, hmethM, hst, -⟩ := Jvm.Cond.instanceMethod_spec w2
  obtain ⟨m2, cM, q1, -, -, -, -, -, -, hsig⟩ := Jvm.Cond.code_spec hnamed w4
  cases hmethM.symm.trans q1
  simp [Jvm.Cond.before, Jvm.Cond.holds, Jvm.Cond.value, hnamed, hmethM, hst, hsig]
theorem nf_of' {s' : State} {C : String} {y y' : MethodName} (q : y'.cls = y.cls) (hZ : Z.Warmed39 s'.vm) (w : (Jvm.Cond.selects C y' y').before a0 Z = true) : NotFace s' y := fun r0 h0 => by
  obtain ⟨c2, r2, m2, q1, q2, q3, q4, kP, hkP, hkPi⟩ := Jvm.Cond.selects_spec (mv (args := #[]) hZ w)
  have e1 := findClass_of_methodNamed h0
  have e2 := findClass_of_methodNamed q3
  rw [q] at e2
  rw [show r0.cls = m2.cls from Option.some.inj (e1.symm.trans e2)]
  exact ⟨kP, hkP, hkPi⟩
theorem nf_of {C : String} {y y' : MethodName} (q : y'.cls = y.cls) (w : (Jvm.Cond.selects C y' y').before a0 Z = true) : NotFace Z y := nf_of' q (State.Warmed39.refl Z) w
theorem same_of {y : MethodName} (hy : y.cls ≠ "java/lang/invoke/MethodHandle" ∧ y.cls ≠ "java/lang/invoke/VarHandle") (w : (Jvm.Cond.declares y).before a0 Z = true) (nf : NotFace Z y) : (Jvm.Cond.sameMethod y.cls y.cls y.name y.desc).before a0 Z = true := by
  obtain ⟨mk, methM, hnamed, hmethM, -, -⟩ := Jvm.Cond.declares_spec w
  obtain ⟨kr, hk, hi⟩ := nf mk hnamed
  have e1 := State.methodFound?_of_named hnamed hy
  have e2 := findClass_of_methodNamed hnamed
  have e3 : Z.methodNamed? ⟨y.cls, y.name, y.desc⟩ = some mk := hnamed
  simp [Jvm.Cond.before, Jvm.Cond.holds, Jvm.Cond.value, e1, e2, e3, hk, hi]
/-- invokespecial of a method of the class above -/
theorem k_callX (hx : p.tables.exec = Jvm.exec) {index : Nat} {C K : String} {y : MethodName} {bytes : ByteArray} {maxL : Nat} {ret : Option FieldType} (w1 : (Jvm.Cond.methodLink own index y).before a0 Z = true) (w2 : (Jvm.Cond.sameMethod y.cls y.cls y.name y.desc).before a0 Z = true) (w3 : (Jvm.Cond.instanceMethod y).before a0 Z = true) (w4 : (Jvm.Cond.superclass own y.cls).before a0 Z = true) (hn : y.name ≠ "<init>") (wc : (Jvm.Cond.code y bytes maxL ret).before a0 Z = true)
    {W kc ks : Nat} {Qc : Option Value → Heap → (Addr → Prop) → Prop} {a : Addr} {argsL rest : List Value} (hK : Pays l R p e below s args Z EL n0 bk h y 3 W kc ks (.ref a :: argsL).toArray Qc) (E : Ins Z h a K true)
    (hg : g.method = m) (hsize : g.locals.size = c.maxLocals) (hlen : ∀ sig, parseMethodDescriptor y.desc = some sig → argsL.length = sig.parameters.length) (hstack : g.stack = argsL.reverse ++ .ref a :: rest) (hW : 2 * g.monitorRoom + (rest.map fun v => v.category).sum ≤ W) (hd : decode c.code g.pc = .ok (.invokespecial index, 3)) (hc : cells + kc ≤ R.cells) (hs : slots + ks ≤ R.slots)
    (k : ∀ v h' bk', Old Z n0 h' → h.size ≤ h'.size → Qc v h' bk' → Run p l e R s m args below meth c Z EL own n0 bk' h' (cells + kc) (slots + ks) { g with pc := g.pc + 3, stack := v.toList ++ rest } Q) : Run p l e R s m args below meth c Z EL own n0 bk h cells slots g Q := fun vm0 T locs P => by
  have P' := P
  obtain ⟨X, e1, hS, hZ, ho, N, O, C, B, hE⟩ := P'
  exact k_back P (superBackS X hx hZ ho w1 w2 w3 w4 hn (hK vm0 hZ hE O C B) e1 E hg hsize wc hlen hstack hW hd fun _ _ => ⟨rfl, e1, hc, hs⟩) k
/-- invokeinterface -/
theorem k_face (hx : p.tables.exec = Jvm.exec) {index count : Nat} {C : String} {y z : MethodName} (w1 : (Jvm.Cond.methodLink own index y).before a0 Z = true) (w2 : (Jvm.Cond.declares y).before a0 Z = true) (w3 : (Jvm.Cond.interfaceMethod y.cls y.cls y.name y.desc).before a0 Z = true) (w4 : (Jvm.Cond.selects C y z).before a0 Z = true) (w5 : (Jvm.Cond.instanceMethod z).before a0 Z = true) (w6 : (Jvm.Cond.publicMethod z).before a0 Z = true) (w7 : (Jvm.Cond.unhidden C y.name y.desc).before a0 Z = true) (w8 : (Jvm.Cond.castable C y.cls).before a0 Z = true)
    (hfa : ((Jvm.Cond.interfaceMethod y.cls y.cls y.name y.desc).onTables && (Jvm.Cond.interfaceMethod y.cls y.cls y.name y.desc).keepsFace) = true) (hy : y.cls ≠ "java/lang/invoke/MethodHandle" ∧ y.cls ≠ "java/lang/invoke/VarHandle") {W kc ks : Nat} {Qc : Option Value → Heap → (Addr → Prop) → Prop} {a : Addr} {argsL rest : List Value} (hK : Pays l R p e below s args Z EL n0 bk h z 5 W kc ks (.ref a :: argsL).toArray Qc) (E : Exa Z h a C)
    (hg : g.method = m) (hsize : g.locals.size = c.maxLocals) (hlen : ∀ sig, parseMethodDescriptor y.desc = some sig → argsL.length = sig.parameters.length) (hstack : g.stack = argsL.reverse ++ .ref a :: rest) (hW : 2 * g.monitorRoom + (rest.map fun v => v.category).sum ≤ W) (hd : decode c.code g.pc = .ok (.invokeinterface index count, 5)) (hc : cells + kc ≤ R.cells) (hs : slots + ks ≤ R.slots)
    (k : ∀ v h' bk', Old Z n0 h' → h.size ≤ h'.size → Qc v h' bk' → Run p l e R s m args below meth c Z EL own n0 bk' h' (cells + kc) (slots + ks) { g with pc := g.pc + 5, stack := v.toList ++ rest } Q) : Run p l e R s m args below meth c Z EL own n0 bk h cells slots g Q := fun vm0 T locs P => by
  have P' := P
  obtain ⟨X, e1, hS, hZ, ho, N, O, C, B, hE⟩ := P'
  obtain ⟨cq, kq, qa, qb, qc⟩ := isOf (s := s.setVm vm0) hZ e1 E
  exact k_back P (X.interfaceBackS hx ho (mv hZ w1) (mv hZ w2) (mv hZ w3 hfa) (mv hZ w4) (mv hZ w5) (mv hZ w6) (mv hZ w7) (mv hZ w8) hy (hK vm0 hZ hE O C B) qa qb qc hg hsize (Steps.refl _) hlen hstack hW hd fun _ _ => ⟨rfl, e1, hc, hs⟩) k
/-! String constants -/
theorem k_ldcO (hx : p.tables.exec = Jvm.exec) {text : String} {index : Nat} (w : (Jvm.Cond.stringLink own index text).before a0 Z = true) (wS : ∀ a ∈ Bundle.stringAtoms, a.before a0 Z = true) (hg : g.method = m) (hd : decode c.code g.pc = .ok (.ldc index, 2)) {n : Nat} (hn : 4 * text.toList.length ≤ n) (hbig : n ≤ 536870912) (hc : cells + 2 ≤ R.cells) (hl : slots + (n + 4) ≤ R.slots)
    (k : ∀ h' a bk', Old Z n0 h' → Ext h h' → (∀ y, bk' y → bk y ∨ (h.size ≤ y ∧ y < h'.size)) → Run p l e R s m args below meth c Z EL own n0 bk' h' (cells + 2) (slots + (n + 4)) { g with pc := g.pc + 2, stack := .ref a :: g.stack } Q) : Run p l e R s m args below meth c Z EL own n0 bk h cells slots g Q := fun vm0 T locs P => by
  obtain ⟨X, e1, ⟨k0, hS, hk⟩, hZ, ho, N, O, C, B, a1, hE⟩ := P
  obtain ⟨a, T', h', k1, X', e2, E, hS', hk', hZ', ho', hC, -, st⟩ := ldcOH X hx hZ ho w wS e1 hS hk hE C hg hd hn hbig hc hl
  obtain ⟨U, o, h1, r⟩ := k h' a (fun y => bk y ∨ (h.size ≤ y ∧ y < h'.size)) (O.ext E) E (fun _ q => q) T'.vm T' locs ⟨X', e2, ⟨k1, hS', hk'⟩, hZ', ho', N, O.ext E, hC.1, fun y q => (hC.2.2 y q).imp (B y) fun r => ⟨r, (Array.getElem?_eq_some_iff.mp (Bk.there q).choose_spec).1⟩, a1, hE⟩
  exact ⟨U, o, st _ h1, r⟩
/-- where no constant is read -/
theorem k_ldc0 (hEL : EL = []) (hx : p.tables.exec = Jvm.exec) {text : String} {index : Nat} (w : (Jvm.Cond.stringLink own index text).before a0 Z = true) (wS : ∀ a ∈ Bundle.stringAtoms, a.before a0 Z = true) (hg : g.method = m) (hd : decode c.code g.pc = .ok (.ldc index, 2)) {n : Nat} (hn : 4 * text.toList.length ≤ n) (hbig : n ≤ 536870912) (hc : cells + 2 ≤ R.cells) (hl : slots + (n + 4) ≤ R.slots)
    (k : ∀ h' a, Old Z n0 h' → Ext h h' → Run p l e R s m args below meth c Z EL own n0 bk h' (cells + 2) (slots + (n + 4)) { g with pc := g.pc + 2, stack := .ref a :: g.stack } Q) : Run p l e R s m args below meth c Z EL own n0 bk h cells slots g Q := fun vm0 T locs P => by
  subst hEL
  obtain ⟨X, e1, ⟨k0, hS, hk⟩, hZ, ho, N, O, C, B, a1, hE⟩ := P
  obtain ⟨a, T', h', k1, X', e2, E, hS', hk', hZ', ho', hC, -, st⟩ := ldcOH X hx hZ ho w wS e1 hS hk hE C hg hd hn hbig hc hl
  obtain ⟨U, o, h1, r⟩ := k h' a (O.ext E) E T'.vm T' locs ⟨X', e2, ⟨k1, hS', hk'⟩, hZ', ho', N, O.ext E, hC.1, (fun y q => by obtain ⟨p, hp, -⟩ := q; cases hp), a1, hE⟩
  exact ⟨U, o, st _ h1, r⟩
/-- a constant that is read -/
theorem k_ldcC (hx : p.tables.exec = Jvm.exec) {text : String} {index : Nat} (w : (Jvm.Cond.stringLink own index text).before a0 Z = true) (wS : ∀ a ∈ Bundle.stringAtoms, a.before a0 Z = true) (hmem : (own, index) ∈ EL) {vs : List Value} {z : Int32} (ht : (∀ c ∈ text.toList, c.toNat < 256) ∧ text.toList.map (fun c => Value.int (Jvm.Lit.byteI c.toNat.toUInt16)) = vs) (hz : ¬ z < 0) (hzl : z.toNatClampNeg = vs.length)
    (hg : g.method = m) (hd : decode c.code g.pc = .ok (.ldc index, 2)) {n : Nat} (hn : 4 * text.toList.length ≤ n) (hbig : n ≤ 536870912) (hc : cells + 2 ≤ R.cells) (hl : slots + (n + 4) ≤ R.slots)
    (k : ∀ h' a b kb bk', Old Z n0 h' → Ext h h' → (∀ y, bk' y → bk y ∨ (h.size ≤ y ∧ y < h'.size)) → Exa Z h' a "java/lang/String" → Fld Z h' a "java/lang/String" "coder" "B" (.int 0) → Fld Z h' a "java/lang/String" "value" "[B" (.ref b) → Arv Z h' b kb .byte z vs (.int 0) → (∀ x, x < h.size → ¬ bk x → x ≠ a ∧ x ≠ b) →
      Run p l e R s m args below meth c Z EL own n0 bk' h' (cells + 2) (slots + (n + 4)) { g with pc := g.pc + 2, stack := .ref a :: g.stack } Q) : Run p l e R s m args below meth c Z EL own n0 bk h cells slots g Q := fun vm0 T locs P => by
  obtain ⟨X, e1, ⟨k0, hS, hk⟩, hZ, ho, N, O, C, B, a1, hE⟩ := P
  obtain ⟨a, T', h', k1, b, kb, X', e2, E, hS', hk', hZ', ho', r1, r2, r3, r4, -, -, hC, -, r5, st⟩ := ldcCH X hx hZ ho w wS e1 hS hk hE hmem C ht hz hzl hg hd hn hbig hc hl
  obtain ⟨U, o, h1, r⟩ := k h' a b kb (fun y => bk y ∨ (h.size ≤ y ∧ y < h'.size)) (O.ext E) E (fun _ q => q) r1 r2 r3 r4 (fun x lt nb => r5 x fun q => (hC.2.2 x q).elim (fun q => nb (B x q)) fun q => absurd lt (Nat.not_lt.mpr q)) T'.vm T' locs ⟨X', e2, ⟨k1, hS', hk'⟩, hZ', ho', N, O.ext E, hC.1, fun y q => (hC.2.2 y q).imp (B y) fun r => ⟨r, (Array.getElem?_eq_some_iff.mp (Bk.there q).choose_spec).1⟩, a1, hE⟩
  exact ⟨U, o, st _ h1, r⟩
/-! two natives -/
theorem k_cpA (hx : p.tables.exec = Jvm.exec) {index : Nat} (w1 : (Jvm.Cond.methodLink own index Jvm.Stand.acN).before a0 Z = true) (w2 : (Jvm.Cond.native Jvm.Stand.acN).before a0 Z = true) (w3 : (Jvm.Cond.static Jvm.Stand.acN).before a0 Z = true) (w4 : (Jvm.Cond.initialized "java/lang/System").before a0 Z = true)
    {a b : Addr} {ka kb : ClassId} {ty ty' : FieldType} {z z' sp dp nn : Int32} {vs vd us : List Value} {dv dd : Value} (A : Arv Z h a ka ty z vs dv) (B : Arv Z h b kb ty' z' vd dd) (hty : (ty = ty' ∧ refKind ty = false) ∨ (refKind ty = true ∧ refKind ty' = true ∧ StoL Z h b us))
    (h1 : ¬ sp < 0) (h2 : ¬ dp < 0) (h3 : ¬ nn < 0) (h4 : sp.toNatClampNeg + nn.toNatClampNeg ≤ z.toNatClampNeg) (h5 : dp.toNatClampNeg + nn.toNatClampNeg ≤ z'.toNatClampNeg) (hus : us = (List.range nn.toNatClampNeg).map fun i => vs.getD (sp.toNatClampNeg + i) dv) (hvl : dp.toNatClampNeg + nn.toNatClampNeg ≤ vd.length) (ge : n0 ≤ b) (nb : ¬ bk b)
    (hg : g.method = m) (hsize : g.locals.size = c.maxLocals) {rest : List Value} (hs : g.stack = .int nn :: .int dp :: .ref b :: .int sp :: .ref a :: rest) (hd : decode c.code g.pc = .ok (.invokestatic index, 3)) (hf : 1 ≤ R.frames) {W : Nat} (hW : 2 * g.monitorRoom + (rest.map fun v => v.category).sum ≤ W) (hlo : W + (nativeFrameWords "java/lang/System" "arraycopy" 5 + 11) ≤ R.locals)
    (k : ∀ h', Old Z n0 h' → Keep h h' [b] → Arv Z h' b kb ty' z' (vd.take dp.toNatClampNeg ++ us ++ vd.drop (dp.toNatClampNeg + nn.toNatClampNeg)) dd → Run p l e R s m args below meth c Z EL own n0 bk h' cells slots { g with pc := g.pc + 3, stack := rest } Q) : Run p l e R s m args below meth c Z EL own n0 bk h cells slots g Q := fun vm0 T locs P => by
  obtain ⟨X, e1, ⟨k0, hS, hk⟩, hZ, ho, N, O, C, Bb, hE⟩ := P
  obtain ⟨T', h', L, X', e2, N', K, V, st⟩ := cpA X hx hZ ho w1 w2 w3 w4 e1 A B hty h1 h2 h3 h4 h5 hus hvl N ge hg hsize hs hd hf hW hlo
  have r' := ne_of_keep K C (fun q => nb (Bb b q))
  obtain ⟨U, o, q1, r⟩ := k h' (O.keep K (allS ge all0)) K V vm0 T' L ⟨X', e2, ⟨k0, hS, Nat.le_trans hk K.1⟩, hZ, ho, N', O.keep K (allS ge all0), r'.1, fun y q => Bb y (r'.2 y q), hE⟩
  exact ⟨U, o, st _ q1, r⟩
theorem k_clone (hx : p.tables.exec = Jvm.exec) {ad : String} {index : Nat} (w1 : (Jvm.Cond.methodLink own index ⟨ad, "clone", "()Ljava/lang/Object;"⟩).before a0 Z = true) (w2 : (Jvm.Cond.sameMethod ad "java/lang/Object" "clone" "()Ljava/lang/Object;").before a0 Z = true) (w3 : (Jvm.Cond.native ⟨"java/lang/Object", "clone", "()Ljava/lang/Object;"⟩).before a0 Z = true)
    (w4 : (Jvm.Cond.instanceMethod ⟨"java/lang/Object", "clone", "()Ljava/lang/Object;"⟩).before a0 Z = true) (w5 : (Jvm.Cond.selects ad ⟨ad, "clone", "()Ljava/lang/Object;"⟩ ⟨"java/lang/Object", "clone", "()Ljava/lang/Object;"⟩).before a0 Z = true) (w6 : (Jvm.Cond.castable ad "java/lang/Cloneable").before a0 Z = true)
    {a : Addr} {kA : ClassId} {ty : FieldType} {z : Int32} {vs : List Value} {dv : Value} (F : Arv Z h a kA ty z vs dv) (E : Exa Z h a ad) (hg : g.method = m) (hsize : g.locals.size = c.maxLocals) {rest : List Value} (hst : g.stack = .ref a :: rest) (hd : decode c.code g.pc = .ok (.invokevirtual index, 3)) (hf : 1 ≤ R.frames) {W cap : Nat} (hW : 2 * g.monitorRoom + (rest.map fun v => v.category).sum ≤ W) (hl : W + 14 ≤ R.locals) (hcap : z.toNatClampNeg ≤ cap) (hc : cells + 1 ≤ R.cells) (hsl : slots + cap ≤ R.slots)
    (k : ∀ h' a, a = h.size → Old Z n0 h' → Ext h h' → Arv Z h' a kA ty z vs dv → Exa Z h' a ad → Run p l e R s m args below meth c Z EL own n0 bk h' (cells + 1) (slots + cap) { g with pc := g.pc + 3, stack := .ref a :: rest } Q) : Run p l e R s m args below meth c Z EL own n0 bk h cells slots g Q :=
  k_grow (F := fun h' g' => g' = { g with pc := g.pc + 3, stack := .ref h.size :: rest } ∧ Arv Z h' h.size kA ty z vs dv ∧ Exa Z h' h.size ad)
    (fun s' T locs X e1 hZ ho => by
      obtain ⟨T', h', X', e2, E', A, D, st⟩ := cloneH X hx hZ ho w1 w2 w3 w4 w5 w6 e1 (Arv.arh F) E hg hsize hst hd hf hW hl hcap hc hsl
      exact ⟨T', h', _, X', e2, E', ⟨rfl, A, D⟩, st⟩)
    (fun h' g' O E ⟨q, A, D⟩ => by subst q; exact k h' _ rfl O E A D)
end Kit

theorem s_irem {tb : Tables} [Ours tb] {e : Env} {below : List Frame} {T target : State} {m : MethodId} {c : Code} {g : JFrame} (h : At T m c below) (hx : tb.exec = Jvm.exec) (hg : g.method = m) {x y : Int32} {rest : List Value} (hd : decode c.code g.pc = .ok (.irem, 1)) (hs : g.stack = .int y :: .int x :: rest) (hy : y ≠ 0)
    (hr : Steps tb e below (T.setTop { g with pc := g.pc + 1, stack := .int (x % y) :: rest }) target) : Steps tb e below (T.setTop g) target := by
  have q : x - x / y * y = x % y := irem_eq_mod x y
  exact XS.irem h hx hg hd hs hy (by rw [q]; exact hr)
theorem kk0 {ws : List Addr} {n : Nat} : ∀ x ∈ ([] : List Addr), x ∈ ws ∨ n ≤ x := fun _ q => nomatch q
theorem kkS {ws L : List Addr} {n : Nat} {y : Addr} (q : y ∈ ws ∨ n ≤ y) (r : ∀ x ∈ L, x ∈ ws ∨ n ≤ x) : ∀ x ∈ y :: L, x ∈ ws ∨ n ≤ x := fun x z => (List.mem_cons.mp z).elim (fun u => u ▸ q) (r x)
theorem no_asg {Z : State} {a0 : Array Value} {C O K : String} {n : Nat} (w : (Jvm.Cond.superclass C O).before a0 Z = true) (wo : (Jvm.Cond.noSuperclass O).before a0 Z = true) (wk : (Jvm.Cond.instantiable K n).before a0 Z = true) (h1 : C ≠ K) (h2 : O ≠ K) : ∃ c t, Z.vm.findClass C = some c ∧ Z.vm.findClass K = some t ∧ Z.vm.assignable c t = false := by
  obtain ⟨c, hc⟩ := found_sup w
  obtain ⟨cO, k, kO, q1, q2, q3, q4, q5, -⟩ := Jvm.Cond.superclass_spec hc w
  obtain ⟨cO', kO', r1, r2, r3, -⟩ := Jvm.Cond.noSuperclass_spec wo
  cases q1.symm.trans r1
  obtain ⟨t, kt, t1, t2, t3, t4, -⟩ := Jvm.Cond.instantiable_spec wk
  have n1 := ids_ne hc t1 h1
  have n2 := ids_ne q1 t1 h2
  have sub2 : ∀ f, Z.vm.isSubclassAux f cO t = false := fun f => by cases f <;> simp [Vm.isSubclassAux, n2, r2, r3]
  have sub1 : ∀ f, Z.vm.isSubclassAux f c t = false := fun f => by cases f <;> simp [Vm.isSubclassAux, n1, q2, q4, sub2]
  have ti : kt.isInterface = false := by simp only [Bool.or_eq_false_iff] at t4; exact t4.1
  refine ⟨c, t, hc, t1, ?_⟩
  show Z.vm.assignableAux (255 + 1) c t = false
  simp [Vm.assignableAux, n1, q2, t2, q5, t3, ti, Vm.isSubclass, sub1]
/-! from the words of a start to facts on its heap -/
theorem ev_int {args : Array Value} {s : State} {t : Term} {k : Int32} (h : (Jvm.Cond.eq t (.int k)).before args s = true) : t.eval args s none [] s = some (.int k) := by
  obtain ⟨x, y, e1, e2, k1, -⟩ := cmp_v (Or.inl (Cond.before_iff.mp h))
  rw [Term.int_eval] at e2
  cases e2
  cases x with
  | int z => have := gotT (Cond.eq_ints e1 (Term.int_eval k)) (Cond.before_iff.mp h); rw [e1, this]
  | _ => exact absurd k1 (by simp [Kin, Value.isRef])
theorem ev_long {args : Array Value} {s : State} {t : Term} {k : Int64} (h : (Jvm.Cond.eq t (.long k)).before args s = true) : t.eval args s none [] s = some (.long k) := by
  obtain ⟨x, y, e1, e2, k1, -⟩ := cmp_v (Or.inl (Cond.before_iff.mp h))
  rw [long_at] at e2
  cases e2
  cases x with
  | long z => have := gotT (eq_L e1 (long_at k)) (Cond.before_iff.mp h); rw [e1, this]
  | _ => exact absurd k1 (by simp [Kin, Value.isRef])
theorem exa_start {args : Array Value} {s : State} {t : Term} {C : String} (h : (Jvm.Cond.exactly t C).before args s = true) : ∃ a, t.eval args s none [] s = some (.ref a) ∧ Exa s s.heap a C := by
  obtain ⟨a, e⟩ := exa_v (Cond.before_iff.mp h)
  exact ⟨a, e, Exa.start e (Cond.before_iff.mp h)⟩
theorem fld_start {args : Array Value} {s : State} {t : Term} {a : Addr} {C n d : String} {v : Value} (ht : t.eval args s none [] s = some (.ref a)) (hv : (Term.field t C n d).eval args s none [] s = some v) : Fld s s.heap a C n d v := Fld.start (by rw [← fld_at ht]; exact hv)
theorem s_pop2L {tb : Tables} [Ours tb] {e : Env} {below : List Frame} {T target : State} {m : MethodId} {c : Code} {g : JFrame} (h : At T m c below) (hx : tb.exec = Jvm.exec) (hg : g.method = m) {x : Int64} {rest : List Value} (hd : decode c.code g.pc = .ok (.pop2, 1)) (hs : g.stack = .long x :: rest)
    (hr : Steps tb e below (T.setTop { g with pc := g.pc + 1, stack := rest }) target) : Steps tb e below (T.setTop g) target := by
  subst hg
  jvm_step h [h.top, hx, hd, hs, pop2.wp_sem, Value.category]
  exact hr
theorem ne_ad {a b : Addr} (h : @Ne Nat a b) : a ≠ b := h

/-! naturals as ints -/
theorem lt_nat {i n : Nat} (h : i < n) (hn : n ≤ 4000) : Int32.ofNat i < Int32.ofNat n := by
  rw [Int32.lt_iff_toInt_lt, toInt_of rfl (by omega), toInt_of rfl (by omega)]; omega
theorem not_lt_nat {i n : Nat} (h : n ≤ i) (hn : i ≤ 4000) : ¬ Int32.ofNat i < Int32.ofNat n := by
  rw [Int32.lt_iff_toInt_lt, toInt_of rfl (by omega), toInt_of rfl (by omega)]; omega
theorem idx_ok {i n : Nat} (h : i < n) (hn : n ≤ 4000) : ¬ Int32.ofNat i < 0 ∧ Int32.ofNat i < Int32.ofNat n := ⟨not_lt_nat (n := 0) (Nat.zero_le _) (by omega), lt_nat h hn⟩
theorem clampN {i : Nat} (h : i ≤ 4000) : (Int32.ofNat i).toNatClampNeg = i := clamp_of rfl (by omega)
theorem getD_mem (cs : List Int32) (i : Nat) (h : i < cs.length) : cs.getD i 0 ∈ cs := by
  rw [List.getD_eq_getElem?_getD, List.getElem?_eq_getElem h]; exact List.getElem_mem h
theorem getD_int (bs : List Int32) {i : Nat} (h : i ≤ 4000) : (bs.map Value.int).getD (Int32.ofNat i).toNatClampNeg (.int 0) = .int (bs.getD i 0) := by
  rw [clampN h, List.getD_eq_getElem?_getD, List.getD_eq_getElem?_getD, List.getElem?_map]
  cases bs[i]? <;> rfl
theorem take_succ_eq {as bs : List Int32} {i : Nat} (h : as.take i = bs.take i) (ha : i < as.length) (hb : i < bs.length) (e : as.getD i 0 = bs.getD i 0) : as.take (i + 1) = bs.take (i + 1) := by
  rw [List.take_add_one, List.take_add_one, h, List.getElem?_eq_getElem ha, List.getElem?_eq_getElem hb]
  rw [List.getD_eq_getElem?_getD, List.getD_eq_getElem?_getD, List.getElem?_eq_getElem ha, List.getElem?_eq_getElem hb, Option.getD_some, Option.getD_some] at e
  rw [e]
theorem take_ne {as bs : List Int32} {i : Nat} (hi : i < bs.length) (e : ¬ as.getD i 0 = bs.getD i 0) : ¬ as.take bs.length = bs := fun q => e (by
  rw [List.getD_eq_getElem?_getD, List.getD_eq_getElem?_getD]
  have r := congrArg (fun l => l[i]?) q
  simp only [List.getElem?_take, if_pos hi] at r
  rw [r])

def EL1 : List (String × Nat) := []
def NoB : Addr → Prop := fun _ => False
def Ctx (Z : State) (a0 : Array Value) (G1 : Int32) (G3 : Value) : Prop := (∀ d ∈ tables_1, d.before a0 Z = true) ∧ EW Z a0 EL1 ∧ Sta Z Z.heap "java/lang/String" "COMPACT_STRINGS" "Z" (.int G1) ∧ ¬ (G1 = (0 : Int32)) ∧ Sta Z Z.heap "jdk/internal/util/Preconditions" "SIOOBE_FORMATTER" "Ljava/util/function/BiFunction;" G3 ∧ G3.isRef = true
theorem sa_of {Z : State} {a0 : Array Value} (hw : ∀ d ∈ tables_1, d.before a0 Z = true) : ∀ a ∈ Bundle.stringAtoms, a.before a0 Z = true := fun d hd => hw d ((by decide +kernel : ∀ d ∈ Bundle.stringAtoms, d ∈ tables_1) d hd)
section StrKit
def StrL (Z : State) (h : Heap) (a t : Addr) (kb : ClassId) (cs : List Int32) : Prop := Exa Z h a "java/lang/String" ∧ Fld Z h a "java/lang/String" "coder" "B" (.int 0) ∧ Fld Z h a "java/lang/String" "value" "[B" (.ref t) ∧ Arv Z h t kb .byte (Int32.ofNat cs.length) ((cs.map (fun c => c.toInt8.toInt32)).map Value.int) (.int 0) ∧ (∀ c ∈ cs, ¬ c < 0 ∧ ¬ (255 : Int32) < c) ∧ cs.length ≤ 4000
variable {Z : State} {h h' : Heap} {a t b : Addr} {kb : ClassId} {cs ds : List Int32} {ws : List Addr} {sl : Nat} {v : Value}
theorem StrL.ext (S : StrL Z h a t kb cs) (E : Ext h h') : StrL Z h' a t kb cs := ⟨S.1.ext E, S.2.1.ext E, S.2.2.1.ext E, S.2.2.2.1.ext E, S.2.2.2.2⟩
theorem StrL.other (S : StrL Z h a t kb cs) (W : Wr h h' b sl v) (q1 : a ≠ b) (q2 : t ≠ b) : StrL Z h' a t kb cs := ⟨S.1.wr W, S.2.1.other W (Or.inl q1), S.2.2.1.other W (Or.inl q1), S.2.2.2.1.other W q2, S.2.2.2.2⟩
theorem StrL.keep (S : StrL Z h a t kb cs) (K : Keep h h' ws) (q1 : a ∉ ws) (q2 : t ∉ ws) : StrL Z h' a t kb cs := ⟨S.1.keep K, S.2.1.keep K q1, S.2.2.1.keep K q1, S.2.2.2.1.keep K q2, S.2.2.2.2⟩
theorem StrL.lt1 (S : StrL Z h a t kb cs) : a < h.size := S.1.lt
theorem StrL.lt2 (S : StrL Z h a t kb cs) : t < h.size := S.2.2.2.1.lt
theorem up_ch {cs : List Int32} (h : ∀ c ∈ cs, ¬ c < 0 ∧ ¬ (255 : Int32) < c) : ∀ c ∈ cs, ¬ c < 0 ∧ ¬ (65535 : Int32) < c := fun c hc => ⟨(h c hc).1, fun q => (h c hc).2 (by rw [Int32.lt_iff_toInt_lt] at q ⊢; have e1 : (65535 : Int32).toInt = 65535 := rfl; have e2 : (255 : Int32).toInt = 255 := rfl; omega)⟩
theorem StrL.cod (S : StrL Z h a t kb cs) : StrChars.Road.CodA cs 0 (Int32.ofNat cs.length) ((cs.map (fun c => c.toInt8.toInt32)).map Value.int) := StrChars.Road.codOf rfl (fun c hc => (S.2.2.2.2.1 c hc).2)
variable {p : Program} {l : Launch} {e : Env} {R : Room} {s : State} {args : Array Value} {below : List Frame} {n0 W : Nat} {bk : Addr → Prop} {a0 : Array Value}
theorem Pays.mono {EL : List (String × Nat)} {y : MethodName} {len kc ks : Nat} {as' : Array Value} {Q Q' : Option Value → Heap → (Addr → Prop) → Prop} (hP : Pays l R p e below s args Z EL n0 bk h y len W kc ks as' Q) (hq : ∀ v h' bk', Q v h' bk' → Q' v h' bk') : Pays l R p e below s args Z EL n0 bk h y len W kc ks as' Q' := fun vm0 hZ hE hO hC hB m meth c A g ig mk a X hg hsize hdg hW hn hp => by
  obtain ⟨v, B, X', r1, r2, ⟨L, bk', q1, q2⟩, st⟩ := hP vm0 hZ hE hO hC hB m meth c A g ig mk a X hg hsize hdg hW hn hp
  exact ⟨v, B, X', r1, r2, ⟨L, bk', hq _ _ _ q1, q2⟩, st⟩
theorem pay_len {G1 : Int32} {G3 : Value} (hX : Ctx Z a0 G1 G3) (O : Old Z n0 h) (S : StrL Z h a t kb cs) (hf : 2 ≤ R.frames) (hl : W + 25 ≤ R.locals) : Pays l R p e below s args Z EL1 n0 bk h (⟨"java/lang/String", "length", "()I"⟩ : MethodName) 3 W 0 0 #[.ref a] (fun v h' bk' => v = some (.int (Int32.ofNat cs.length)) ∧ h = h' ∧ bk = bk') :=
  Pays.of_same fun s' hZ => StrChars.Road.lenW hZ (fun d hd => hX.1 d ((by decide +kernel : ∀ d ∈ StrChars.Road.wordsLen, d ∈ tables_1) d hd)) (kI := 4) (hX.1 _ (List.mem_of_getElem? (i := 8) rfl)) S.1 S.2.2.1 S.2.1 S.2.2.2.1 S.cod (up_ch S.2.2.2.2.1) (hX.2.2.1.ext O.2) hX.2.2.2.1 S.2.2.2.2.2 hf hl
theorem pay_ch {G1 : Int32} {G3 : Value} (hX : Ctx Z a0 G1 G3) (O : Old Z n0 h) (S : StrL Z h a t kb cs) (i : Nat) (hi : i < cs.length) {j : Int32} (hj : j = Int32.ofNat i) (hf : 4 ≤ R.frames) (hl : W + 53 ≤ R.locals) : Pays l R p e below s args Z EL1 n0 bk h (⟨"java/lang/String", "charAt", "(I)C"⟩ : MethodName) 3 W 0 0 #[.ref a, .int j] (fun v h' bk' => v = some (.int (cs.getD i 0)) ∧ h = h' ∧ bk = bk') :=
  Pays.of_same fun s' hZ => StrChars.Road.chN hZ (fun d hd => hX.1 d ((by decide +kernel : ∀ d ∈ StrChars.Road.wordsChN, d ∈ tables_1) d hd)) (kI := 4) (hX.1 _ (List.mem_of_getElem? (i := 8) rfl)) S.1 S.2.2.1 S.2.1 S.2.2.2.1 S.cod (up_ch S.2.2.2.2.1) (hX.2.2.1.ext O.2) hX.2.2.2.1 (hX.2.2.2.2.1.ext O.2) hX.2.2.2.2.2 S.2.2.2.2.2 hi hj hf hl
theorem pay_emp {G1 : Int32} {G3 : Value} (hX : Ctx Z a0 G1 G3) (O : Old Z n0 h) (S : StrL Z h a t kb cs) (hf : 1 ≤ R.frames) (hl : W + 12 ≤ R.locals) : Pays l R p e below s args Z EL1 n0 bk h (⟨"java/lang/String", "isEmpty", "()Z"⟩ : MethodName) 3 W 0 0 #[.ref a] (fun v h' bk' => v = some (.int (if cs.length = 0 then 1 else 0)) ∧ h = h' ∧ bk = bk') :=
  Pays.of_same fun s' hZ => StrChars.Road.empW hZ (fun d hd => hX.1 d ((by decide +kernel : ∀ d ∈ StrChars.Road.wordsEmp, d ∈ tables_1) d hd)) (kI := 4) (hX.1 _ (List.mem_of_getElem? (i := 8) rfl)) S.1 S.2.2.1 S.2.1 S.2.2.2.1 S.cod (up_ch S.2.2.2.2.1) S.2.2.2.2.2 hf hl
theorem pay_new {G1 : Int32} {G3 : Value} (hX : Ctx Z a0 G1 G3) (O : Old Z n0 h) {x b : Addr} (nb : ¬ bk x) {v0 c0 d : Value} {kC : ClassId} {N : Int32} {cs : List Int32} (E : Exa Z h x "java/lang/String") (V : Fld Z h x "java/lang/String" "value" "[B" v0) (C : Fld Z h x "java/lang/String" "coder" "B" c0) (K : Arv Z h b kC .char N (cs.map Value.int) d) (n : Nat) (hn : cs.length = n) (hN : N = Int32.ofNat n) (l0 : 0 < n) (l2 : n ≤ 4000) (hp : ∀ c ∈ cs, ¬ c < 0 ∧ ¬ (255 : Int32) < c) (ge : n0 ≤ x) (hf : 4 ≤ R.frames) (hl : W + 65 ≤ R.locals) :
    Pays l R p e below s args Z EL1 n0 bk h (⟨"java/lang/String", "<init>", "([C)V"⟩ : MethodName) 3 W 1 n #[.ref x, .ref b] (fun v h' bk' => v = none ∧ bk = bk' ∧ Keep h h' [x] ∧ ∃ (t : Addr) (kb : ClassId), n0 ≤ t ∧ h.size ≤ t ∧ StrL Z h' x t kb cs) :=
  Pays.mono (Pays.of_keep (Qk := StrChars.Road.QV Z x N (cs.map (fun c => c.toInt8.toInt32)) h n0) nb ge (fun v h' L q => ⟨q.2.1, q.2.2.1⟩) fun s' hZ => StrChars.Road.backV hZ (fun d hd => hX.1 d ((by decide +kernel : ∀ d ∈ StrChars.Road.words, d ∈ tables_1) d hd)) (kI := 4) (hX.1 _ (List.mem_of_getElem? (i := 8) rfl)) ge (by rw [← O.1]; exact O.2.1) E V C K (hX.2.2.1.ext O.2) hX.2.2.2.1 hn hN l0 l2 hp rfl hf hl) fun v h' bk' q => by
    obtain ⟨⟨L, q1, q2, q3, q4, q5, t, kb, q6, q7, -, q8, q9⟩, r⟩ := q
    subst hn hN
    exact ⟨q1, r, q3, t, kb, q6, q7, q4, q5, q8, q9, hp, l2⟩
end StrKit


def Dc (c : Int32) : Prop := 0 ≤ c.toInt ∧ c.toInt ≤ 255
def Pc (c : Int32) : Prop := 0 ≤ c.toInt ∧ c.toInt ≤ 255 ∧ ¬ c.toInt = 123 ∧ ¬ c.toInt = 125
theorem Pc.dc {c : Int32} (g : Pc c) : Dc c := ⟨g.1, g.2.1⟩
theorem Dc.ch {c : Int32} (r : Dc c) : ¬ c < 0 ∧ ¬ (255 : Int32) < c := by
  unfold Dc at r
  rw [Int32.lt_iff_toInt_lt, Int32.lt_iff_toInt_lt]
  have e1 : (0 : Int32).toInt = 0 := rfl
  have e2 : (255 : Int32).toInt = 255 := rfl
  omega
theorem Dc.of {c : Int32} (r : ¬ c < 0 ∧ ¬ (255 : Int32) < c) : Dc c := by
  unfold Dc
  rw [Int32.lt_iff_toInt_lt, Int32.lt_iff_toInt_lt] at r
  have e1 : (0 : Int32).toInt = 0 := rfl
  have e2 : (255 : Int32).toInt = 255 := rfl
  omega
theorem Dc.nr {c : Int32} (r : Dc c) : nar .char c = c := by
  unfold Dc at r
  have q : ((nar .char c).toInt - c.toInt) % 65536 = 0 ∧ 0 ≤ (nar .char c).toInt ∧ (nar .char c).toInt < 65536 := c_i2c c
  apply Int32.toInt_inj.mp
  omega
theorem gd1 {a : Int32} (g : Dc a) : ∀ c ∈ [a], ¬ c < 0 ∧ ¬ (255 : Int32) < c := by simp only [List.mem_cons, List.not_mem_nil, or_false]; rintro c rfl; exact g.ch
theorem gd2 {a b : Int32} (g : Dc a) (g' : Dc b) : ∀ c ∈ [a, b], ¬ c < 0 ∧ ¬ (255 : Int32) < c := by simp only [List.mem_cons, List.not_mem_nil, or_false]; rintro c (rfl | rfl) <;> first | exact g.ch | exact g'.ch
theorem gd3 {a b d : Int32} (g : Dc a) (g' : Dc b) (g'' : Dc d) : ∀ c ∈ [a, b, d], ¬ c < 0 ∧ ¬ (255 : Int32) < c := by simp only [List.mem_cons, List.not_mem_nil, or_false]; rintro c (rfl | rfl | rfl) <;> first | exact g.ch | exact g'.ch | exact g''.ch
theorem pc1 {a : Int32} (g : Pc a) : ∀ c ∈ [a], Pc c := by simp only [List.mem_cons, List.not_mem_nil, or_false]; rintro c rfl; exact g
theorem pc2 {a b : Int32} (g : Pc a) (g' : Pc b) : ∀ c ∈ [a, b], Pc c := by simp only [List.mem_cons, List.not_mem_nil, or_false]; rintro c (rfl | rfl) <;> first | exact g | exact g'
theorem inj8 {a b : Int32} (ha : Dc a) (hb : Dc b) (e : a.toInt8.toInt32 = b.toInt8.toInt32) : a = b := by
  unfold Dc at ha hb
  have q1 := c_i2b a
  have q2 := c_i2b b
  have q3 := congrArg Int32.toInt e
  apply Int32.toInt_inj.mp
  omega
theorem notin {cs : List Int32} {k : Int32} (hk : Dc k) (h : ∀ c ∈ cs, Dc c ∧ ¬ c = k) : ∀ b ∈ cs.map (fun c => c.toInt8.toInt32), ¬ b = k.toInt8.toInt32 := by
  intro b hb e
  obtain ⟨c, hc, rfl⟩ := List.mem_map.mp hb
  exact (h c hc).2 (inj8 (h c hc).1 hk e)
theorem map8 : ∀ {cs ds : List Int32}, (∀ c ∈ cs, Dc c) → (∀ c ∈ ds, Dc c) → cs.map (fun c => c.toInt8.toInt32) = ds.map (fun c => c.toInt8.toInt32) → cs = ds
  | [], [], _, _, _ => rfl
  | [], d :: ds, _, _, e => by simp at e
  | c :: cs, [], _, _, e => by simp at e
  | c :: cs, d :: ds, h1, h2, e => by
    simp only [List.map_cons, List.cons.injEq] at e
    rw [inj8 (h1 c (List.mem_cons_self ..)) (h2 d (List.mem_cons_self ..)) e.1, map8 (fun x hx => h1 x (List.mem_cons_of_mem _ hx)) (fun x hx => h2 x (List.mem_cons_of_mem _ hx)) e.2]
theorem take8 {cs ds : List Int32} (h1 : ∀ c ∈ cs, Dc c) (h2 : ∀ c ∈ ds, Dc c) (e : (ds.map (fun c => c.toInt8.toInt32)).take (cs.map (fun c => c.toInt8.toInt32)).length = cs.map (fun c => c.toInt8.toInt32)) : ds.take cs.length = cs := by
  rw [List.length_map, ← List.map_take] at e
  exact map8 (fun c hc => h2 c (List.mem_of_mem_take hc)) h1 e
theorem sub_len {a b : Nat} (h : ¬ (Int32.ofNat a - Int32.ofNat b) < (0 : Int32)) (ha : a ≤ 4000) (hb : b ≤ 4000) : b ≤ a := by
  have q := c_isub (Int32.ofNat a) (Int32.ofNat b)
  have r := rng32 (Int32.ofNat a - Int32.ofNat b)
  rw [toInt_of rfl (by omega), toInt_of rfl (by omega)] at q
  rw [Int32.lt_iff_toInt_lt] at h
  have e1 : (0 : Int32).toInt = 0 := rfl
  omega
theorem c2048 {c : Int32} (h : ¬ (255 : Int32) < c) : c < (2048 : Int32) := by
  rw [Int32.lt_iff_toInt_lt] at h ⊢
  have e1 : (2048 : Int32).toInt = 2048 := rfl
  have e2 : (255 : Int32).toInt = 255 := rfl
  omega
theorem ne_k {c k : Int32} (h : ¬ c.toInt = k.toInt) : ¬ c = k := fun q => h (by rw [q])
def N2 (n : Int32) : Prop := n = 1 ∨ n = 2
theorem N2.of {n : Int32} (h1 : 1 ≤ n.toInt) (h2 : n.toInt ≤ 2) : N2 n := by
  rcases (by omega : n.toInt = 1 ∨ n.toInt = 2) with h | h
  · exact Or.inl (Int32.toInt_inj.mp h)
  · exact Or.inr (Int32.toInt_inj.mp h)
def L3 (n : Int32) : Prop := n = 1 ∨ n = 2 ∨ n = 3
theorem L3.of {n : Int32} (h1 : 1 ≤ n.toInt) (h2 : n.toInt ≤ 3) : L3 n := by
  rcases (by omega : n.toInt = 1 ∨ n.toInt = 2 ∨ n.toInt = 3) with h | h | h
  · exact Or.inl (Int32.toInt_inj.mp h)
  · exact Or.inr (Or.inl (Int32.toInt_inj.mp h))
  · exact Or.inr (Or.inr (Int32.toInt_inj.mp h))

def Q_draw (Z : State) (x : Int32) (y : Int32) (h0 : Heap) (n0 : Nat) (bk : Addr → Prop) (v : Option Value) (h : Heap) (bk' : Addr → Prop) : Prop := ∃ (c : Int32), v = some (.int c) ∧ h0 = h ∧ NoB = bk' ∧ (Dc c)
theorem d_m_2_0 : decode method_2_code 0 = .ok (.iload_n 1, 1) := by decide +kernel
theorem d_m_2_1 : decode method_2_code 1 = .ok (.ifCond .eq 11, 3) := by decide +kernel
theorem d_m_2_12 : decode method_2_code 12 = .ok (.iload_n 0, 1) := by decide +kernel
theorem d_m_2_13 : decode method_2_code 13 = .ok (.sipush 255, 3) := by decide +kernel
theorem d_m_2_16 : decode method_2_code 16 = .ok (.iand, 1) := by decide +kernel
theorem d_m_2_17 : decode method_2_code 17 = .ok (.i2c, 1) := by decide +kernel
theorem d_m_2_18 : decode method_2_code 18 = .ok (.ireturn, 1) := by decide +kernel
theorem d_m_2_4 : decode method_2_code 4 = .ok (.bipush 97, 2) := by decide +kernel
theorem d_m_2_6 : decode method_2_code 6 = .ok (.iload_n 0, 1) := by decide +kernel
theorem d_m_2_7 : decode method_2_code 7 = .ok (.iconst 1, 1) := by decide +kernel
theorem d_m_2_8 : decode method_2_code 8 = .ok (.iand, 1) := by decide +kernel
theorem d_m_2_9 : decode method_2_code 9 = .ok (.iadd, 1) := by decide +kernel
theorem d_m_2_10 : decode method_2_code 10 = .ok (.i2c, 1) := by decide +kernel
theorem d_m_2_11 : decode method_2_code 11 = .ok (.ireturn, 1) := by decide +kernel
abbrev RM_draw : Room := { frames := 0, cells := 0, slots := 0, locals := 0 }
theorem ef_draw (m : MethodId) (x0 : Int32) (x1 : Int32) : entryFrame m #[(.int x0), (.int x1)] 2 = mkF m 0 #[.val (.int x0), .val (.int x1)] [] := by first | (simp [entryFrame, mkF, argsToLocals, Value.category]; done) | rfl
set_option maxRecDepth 65536 in
set_option maxHeartbeats 40000000 in
theorem rm_draw (l : Launch) (Z : State) (a0 : Array Value) (G1 : Int32) (G3 : Value) (hX : Ctx Z a0 G1 G3) (n0 : Nat) (h0 : Heap) (O0 : Old Z n0 h0) (x : Int32) (y : Int32)  (ws : List Jvm.Cond) : Met l Z EL1 n0 NoB (⟨"com/example/eirene/eirene/KeySpaceCallerKeyPinLaw", "draw", "(IZ)C"⟩ : MethodName) method_2_code 2 (Option.some FieldType.char) RM_draw #[(.int x), (.int y)] h0 (Q_draw Z x y h0 n0 NoB) ws := by
  have hX' := hX
  obtain ⟨hw, hE, S1, P1, S3, P3⟩ := hX'
  have hSA := sa_of hw
  have z0 : n0 ≤ h0.size := by rw [← O0.1]; exact O0.2.1
  refine Met.of (by decide +kernel) O0 hE ?_
  intro p e s m below meth c hx hby hml hret hlk hnm
  refine k_cast (ef_draw m x y) ?_
  show Run p l e _ s m _ below meth c Z EL1 _ n0 NoB h0 0 0 (mkF m 0 #[.val (.int x), .val (.int y)] []) _
  refine k_pure (g' := (mkF m 1 #[.val (.int x), .val (.int y)] [(.int y)])) (fun TT HH tt kk => XS.iloadN HH hx rfl (hb hby d_m_2_0) rfl kk) ?_
  by_cases c_1 : y = (0 : Int32)
  · refine k_pure (g' := (mkF m 12 #[.val (.int x), .val (.int y)] [])) (fun TT HH tt kk => XS.ifYes HH hx rfl (pc0 := 1) (pc' := 12) rfl (hb hby d_m_2_1) rfl ((if0 _ _).trans (teq c_1).1) (by decide) (by decide) kk) ?_
    refine k_pure (g' := (mkF m 13 #[.val (.int x), .val (.int y)] [(.int x)])) (fun TT HH tt kk => XS.iloadN HH hx rfl (hb hby d_m_2_12) rfl kk) ?_
    refine k_pure (g' := (mkF m 16 #[.val (.int x), .val (.int y)] [(.int (255 : Int32)), (.int x)])) (fun TT HH tt kk => XS.sipush HH hx rfl (hb hby d_m_2_13) kk) ?_
    refine k_pure (g' := (mkF m 17 #[.val (.int x), .val (.int y)] [(.int (x &&& (255 : Int32)))])) (fun TT HH tt kk => XS.iand HH hx rfl (hb hby d_m_2_16) rfl kk) ?_
    refine k_pure (g' := (mkF m 18 #[.val (.int x), .val (.int y)] [(.int ((x &&& (255 : Int32)).toUInt32.toUInt16.toUInt32.toInt32))])) (fun TT HH tt kk => XS.i2c HH hx rfl (hb hby d_m_2_17) rfl kk) ?_
    exact k_retN hx hlk hret (by simp) (hb hby d_m_2_18) (by decide) (by decide) ⟨_, rfl, rfl, rfl, (by have r0 := rng32 y; have r1 : (0 : Int32).toInt = 0 := (by decide); have r2 := rng32 x; have r3 : (x &&& (255 : Int32)).toInt = x.toInt % 256 := (c_mask x (255 : Int32) 8 (by decide) (by decide)); have r4 := rng32 (x &&& (255 : Int32)); have r5 := c_i2c (x &&& (255 : Int32)); have r6 : ((nar .char ((x &&& (255 : Int32)).toUInt32.toUInt16.toUInt32.toInt32)).toInt - ((x &&& (255 : Int32)).toUInt32.toUInt16.toUInt32.toInt32).toInt) % 65536 = 0 ∧ 0 ≤ (nar .char ((x &&& (255 : Int32)).toUInt32.toUInt16.toUInt32.toInt32)).toInt ∧ (nar .char ((x &&& (255 : Int32)).toUInt32.toUInt16.toUInt32.toInt32)).toInt < 65536 := (c_i2c ((x &&& (255 : Int32)).toUInt32.toUInt16.toUInt32.toInt32)); have r7 := (congrArg Int32.toInt c_1); unfold Dc; omega)⟩
  · refine k_pure (g' := (mkF m 4 #[.val (.int x), .val (.int y)] [])) (fun TT HH tt kk => XS.ifNo HH hx rfl (hb hby d_m_2_1) rfl ((if0 _ _).trans (feq c_1).1) kk) ?_
    refine k_pure (g' := (mkF m 6 #[.val (.int x), .val (.int y)] [(.int (97 : Int32))])) (fun TT HH tt kk => XS.bipush HH hx rfl (hb hby d_m_2_4) kk) ?_
    refine k_pure (g' := (mkF m 7 #[.val (.int x), .val (.int y)] [(.int x), (.int (97 : Int32))])) (fun TT HH tt kk => XS.iloadN HH hx rfl (hb hby d_m_2_6) rfl kk) ?_
    refine k_pure (g' := (mkF m 8 #[.val (.int x), .val (.int y)] [(.int (1 : Int32)), (.int x), (.int (97 : Int32))])) (fun TT HH tt kk => XS.iconst HH hx rfl (hb hby d_m_2_7) kk) ?_
    refine k_pure (g' := (mkF m 9 #[.val (.int x), .val (.int y)] [(.int (x &&& (1 : Int32))), (.int (97 : Int32))])) (fun TT HH tt kk => XS.iand HH hx rfl (hb hby d_m_2_8) rfl kk) ?_
    refine k_pure (g' := (mkF m 10 #[.val (.int x), .val (.int y)] [(.int ((97 : Int32) + (x &&& (1 : Int32))))])) (fun TT HH tt kk => XS.iadd HH hx rfl (hb hby d_m_2_9) rfl kk) ?_
    refine k_pure (g' := (mkF m 11 #[.val (.int x), .val (.int y)] [(.int (((97 : Int32) + (x &&& (1 : Int32))).toUInt32.toUInt16.toUInt32.toInt32))])) (fun TT HH tt kk => XS.i2c HH hx rfl (hb hby d_m_2_10) rfl kk) ?_
    exact k_retN hx hlk hret (by simp) (hb hby d_m_2_11) (by decide) (by decide) ⟨_, rfl, rfl, rfl, (by have r0 := rng32 y; have r1 : (0 : Int32).toInt = 0 := (by decide); have r2 : (97 : Int32).toInt = 97 := (by decide); have r3 := rng32 x; have r4 : (x &&& (1 : Int32)).toInt = x.toInt % 2 := (c_mask x (1 : Int32) 1 (by decide) (by decide)); have r5 := rng32 (x &&& (1 : Int32)); have r6 := c_iadd (97 : Int32) (x &&& (1 : Int32)); have r7 := rng32 ((97 : Int32) + (x &&& (1 : Int32))); have r8 := c_i2c ((97 : Int32) + (x &&& (1 : Int32))); have r9 : ((nar .char (((97 : Int32) + (x &&& (1 : Int32))).toUInt32.toUInt16.toUInt32.toInt32)).toInt - (((97 : Int32) + (x &&& (1 : Int32))).toUInt32.toUInt16.toUInt32.toInt32).toInt) % 65536 = 0 ∧ 0 ≤ (nar .char (((97 : Int32) + (x &&& (1 : Int32))).toUInt32.toUInt16.toUInt32.toInt32)).toInt ∧ (nar .char (((97 : Int32) + (x &&& (1 : Int32))).toUInt32.toUInt16.toUInt32.toInt32)).toInt < 65536 := (c_i2c (((97 : Int32) + (x &&& (1 : Int32))).toUInt32.toUInt16.toUInt32.toInt32)); have r10 : ¬ (y).toInt = ((0 : Int32)).toInt := fun q => c_1 (Int32.toInt_inj.mp q); unfold Dc; omega)⟩
def Q_pfx (Z : State) (x : Int32) (y : Int32) (h0 : Heap) (n0 : Nat) (bk : Addr → Prop) (v : Option Value) (h : Heap) (bk' : Addr → Prop) : Prop := ∃ (c : Int32), v = some (.int c) ∧ h0 = h ∧ NoB = bk' ∧ (Pc c)
theorem d_m_3_0 : decode method_3_code 0 = .ok (.iload_n 0, 1) := by decide +kernel
theorem d_m_3_1 : decode method_3_code 1 = .ok (.iload_n 1, 1) := by decide +kernel
theorem d_m_3_2 : decode method_3_code 2 = .ok (.invokestatic 7, 3) := by decide +kernel
theorem pd__28_IZ_29_C : parseMethodDescriptor "(IZ)C" = some ⟨[.int, .boolean], some .char⟩ := by decide +kernel
theorem d_m_3_5 : decode method_3_code 5 = .ok (.istore_n 2, 1) := by decide +kernel
theorem d_m_3_6 : decode method_3_code 6 = .ok (.iload_n 2, 1) := by decide +kernel
theorem d_m_3_7 : decode method_3_code 7 = .ok (.bipush 123, 2) := by decide +kernel
theorem d_m_3_9 : decode method_3_code 9 = .ok (.if_icmp .eq 9, 3) := by decide +kernel
theorem d_m_3_18 : decode method_3_code 18 = .ok (.bipush 95, 2) := by decide +kernel
theorem d_m_3_20 : decode method_3_code 20 = .ok (.istore_n 2, 1) := by decide +kernel
theorem d_m_3_21 : decode method_3_code 21 = .ok (.iload_n 2, 1) := by decide +kernel
theorem d_m_3_22 : decode method_3_code 22 = .ok (.ireturn, 1) := by decide +kernel
theorem d_m_3_12 : decode method_3_code 12 = .ok (.iload_n 2, 1) := by decide +kernel
theorem d_m_3_13 : decode method_3_code 13 = .ok (.bipush 125, 2) := by decide +kernel
theorem d_m_3_15 : decode method_3_code 15 = .ok (.if_icmp .ne 6, 3) := by decide +kernel
abbrev RM_pfx : Room := { frames := 1, cells := 0, slots := 0, locals := 13 }
theorem ef_pfx (m : MethodId) (x0 : Int32) (x1 : Int32) : entryFrame m #[(.int x0), (.int x1)] 3 = mkF m 0 #[.val (.int x0), .val (.int x1), .unset] [] := by first | (simp [entryFrame, mkF, argsToLocals, Value.category]; done) | rfl
set_option maxRecDepth 65536 in
set_option maxHeartbeats 40000000 in
theorem rm_pfx (l : Launch) (Z : State) (a0 : Array Value) (G1 : Int32) (G3 : Value) (hX : Ctx Z a0 G1 G3) (n0 : Nat) (h0 : Heap) (O0 : Old Z n0 h0) (x : Int32) (y : Int32)  (ws : List Jvm.Cond) : Met l Z EL1 n0 NoB (⟨"com/example/eirene/eirene/KeySpaceCallerKeyPinLaw", "prefixChar", "(IZ)C"⟩ : MethodName) method_3_code 3 (Option.some FieldType.char) RM_pfx #[(.int x), (.int y)] h0 (Q_pfx Z x y h0 n0 NoB) ws := by
  have hX' := hX
  obtain ⟨hw, hE, S1, P1, S3, P3⟩ := hX'
  have hSA := sa_of hw
  have z0 : n0 ≤ h0.size := by rw [← O0.1]; exact O0.2.1
  refine Met.of (by decide +kernel) O0 hE ?_
  intro p e s m below meth c hx hby hml hret hlk hnm
  refine k_cast (ef_pfx m x y) ?_
  show Run p l e _ s m _ below meth c Z EL1 _ n0 NoB h0 0 0 (mkF m 0 #[.val (.int x), .val (.int y), .unset] []) _
  refine k_pure (g' := (mkF m 1 #[.val (.int x), .val (.int y), .unset] [(.int x)])) (fun TT HH tt kk => XS.iloadN HH hx rfl (hb hby d_m_3_0) rfl kk) ?_
  refine k_pure (g' := (mkF m 2 #[.val (.int x), .val (.int y), .unset] [(.int y), (.int x)])) (fun TT HH tt kk => XS.iloadN HH hx rfl (hb hby d_m_3_1) rfl kk) ?_
  refine k_callS hx (y := (⟨"com/example/eirene/eirene/KeySpaceCallerKeyPinLaw", "draw", "(IZ)C"⟩ : MethodName)) (hw _ (List.mem_of_getElem? (i := 4) rfl)) (hw _ (List.mem_of_getElem? (i := 5) rfl)) (hw _ (List.mem_of_getElem? (i := 2) rfl)) (hw _ (List.mem_of_getElem? (i := 6) rfl)) (by decide) (W := 0) (argsL := [(.int x), (.int y)]) (rest := []) (Pays.of_met (rm_draw l Z a0 G1 G3 hX n0 h0 O0 x y  []) (hw _ (List.mem_of_getElem? (i := 6) rfl)) (hw _ (List.mem_of_getElem? (i := 2) rfl)) (by decide) (by decide)) rfl (by rw [hml]; rfl) (lenOf pd__28_IZ_29_C rfl) rfl (by show 2 * 0 + _ ≤ _; exact Nat.le_of_eq rfl) (hb hby d_m_3_2) (by decide) (by decide) ?_
  intro v_1 h_2 bk_3 O_4 z_5 Q_6
  obtain ⟨i_7, rfl, rfl, rfl, P_8⟩ := Q_6
  show Run p l e _ s m _ below meth c Z EL1 _ n0 NoB h0 0 0 (mkF m 5 #[.val (.int x), .val (.int y), .unset] [(.int i_7)]) _
  refine k_pure (g' := (mkF m 6 #[.val (.int x), .val (.int y), .val (.int i_7)] [])) (fun TT HH tt kk => XS.istoreN HH hx rfl (hb hby d_m_3_5) rfl (l' := #[.val (.int x), .val (.int y), .val (.int i_7)]) rfl kk) ?_
  refine k_pure (g' := (mkF m 7 #[.val (.int x), .val (.int y), .val (.int i_7)] [(.int i_7)])) (fun TT HH tt kk => XS.iloadN HH hx rfl (hb hby d_m_3_6) rfl kk) ?_
  refine k_pure (g' := (mkF m 9 #[.val (.int x), .val (.int y), .val (.int i_7)] [(.int (123 : Int32)), (.int i_7)])) (fun TT HH tt kk => XS.bipush HH hx rfl (hb hby d_m_3_7) kk) ?_
  by_cases c_9 : i_7 = (123 : Int32)
  · refine k_pure (g' := (mkF m 18 #[.val (.int x), .val (.int y), .val (.int i_7)] [])) (fun TT HH tt kk => XS.icmpYes HH hx rfl (pc0 := 9) (pc' := 18) rfl (hb hby d_m_3_9) rfl (teq c_9).1 (by decide) (by decide) kk) ?_
    refine k_pure (g' := (mkF m 20 #[.val (.int x), .val (.int y), .val (.int i_7)] [(.int (95 : Int32))])) (fun TT HH tt kk => XS.bipush HH hx rfl (hb hby d_m_3_18) kk) ?_
    refine k_pure (g' := (mkF m 21 #[.val (.int x), .val (.int y), .val (.int (95 : Int32))] [])) (fun TT HH tt kk => XS.istoreN HH hx rfl (hb hby d_m_3_20) rfl (l' := #[.val (.int x), .val (.int y), .val (.int (95 : Int32))]) rfl kk) ?_
    refine k_pure (g' := (mkF m 22 #[.val (.int x), .val (.int y), .val (.int (95 : Int32))] [(.int (95 : Int32))])) (fun TT HH tt kk => XS.iloadN HH hx rfl (hb hby d_m_3_21) rfl kk) ?_
    exact k_retN hx hlk hret (by simp) (hb hby d_m_3_22) (by decide) (by decide) ⟨_, rfl, rfl, rfl, (by have r0 := rng32 i_7; have r1 : (123 : Int32).toInt = 123 := (by decide); have r2 : (95 : Int32).toInt = 95 := (by decide); have r3 : ((nar .char (95 : Int32)).toInt - (95 : Int32).toInt) % 65536 = 0 ∧ 0 ≤ (nar .char (95 : Int32)).toInt ∧ (nar .char (95 : Int32)).toInt < 65536 := (c_i2c (95 : Int32)); have r4 := (congrArg Int32.toInt c_9); have r5 := P_8.1; have r6 := P_8.2; unfold Pc; omega)⟩
  · refine k_pure (g' := (mkF m 12 #[.val (.int x), .val (.int y), .val (.int i_7)] [])) (fun TT HH tt kk => XS.icmpNo HH hx rfl (hb hby d_m_3_9) rfl (feq c_9).1 kk) ?_
    refine k_pure (g' := (mkF m 13 #[.val (.int x), .val (.int y), .val (.int i_7)] [(.int i_7)])) (fun TT HH tt kk => XS.iloadN HH hx rfl (hb hby d_m_3_12) rfl kk) ?_
    refine k_pure (g' := (mkF m 15 #[.val (.int x), .val (.int y), .val (.int i_7)] [(.int (125 : Int32)), (.int i_7)])) (fun TT HH tt kk => XS.bipush HH hx rfl (hb hby d_m_3_13) kk) ?_
    by_cases c_10 : i_7 = (125 : Int32)
    · refine k_pure (g' := (mkF m 18 #[.val (.int x), .val (.int y), .val (.int i_7)] [])) (fun TT HH tt kk => XS.icmpNo HH hx rfl (hb hby d_m_3_15) rfl (teq c_10).2 kk) ?_
      refine k_pure (g' := (mkF m 20 #[.val (.int x), .val (.int y), .val (.int i_7)] [(.int (95 : Int32))])) (fun TT HH tt kk => XS.bipush HH hx rfl (hb hby d_m_3_18) kk) ?_
      refine k_pure (g' := (mkF m 21 #[.val (.int x), .val (.int y), .val (.int (95 : Int32))] [])) (fun TT HH tt kk => XS.istoreN HH hx rfl (hb hby d_m_3_20) rfl (l' := #[.val (.int x), .val (.int y), .val (.int (95 : Int32))]) rfl kk) ?_
      refine k_pure (g' := (mkF m 22 #[.val (.int x), .val (.int y), .val (.int (95 : Int32))] [(.int (95 : Int32))])) (fun TT HH tt kk => XS.iloadN HH hx rfl (hb hby d_m_3_21) rfl kk) ?_
      exact k_retN hx hlk hret (by simp) (hb hby d_m_3_22) (by decide) (by decide) ⟨_, rfl, rfl, rfl, (by have r0 := rng32 i_7; have r1 : (123 : Int32).toInt = 123 := (by decide); have r2 : (125 : Int32).toInt = 125 := (by decide); have r3 : (95 : Int32).toInt = 95 := (by decide); have r4 : ((nar .char (95 : Int32)).toInt - (95 : Int32).toInt) % 65536 = 0 ∧ 0 ≤ (nar .char (95 : Int32)).toInt ∧ (nar .char (95 : Int32)).toInt < 65536 := (c_i2c (95 : Int32)); have r5 : ¬ (i_7).toInt = ((123 : Int32)).toInt := fun q => c_9 (Int32.toInt_inj.mp q); have r6 := (congrArg Int32.toInt c_10); have r7 := P_8.1; have r8 := P_8.2; unfold Pc; omega)⟩
    · refine k_pure (g' := (mkF m 21 #[.val (.int x), .val (.int y), .val (.int i_7)] [])) (fun TT HH tt kk => XS.icmpYes HH hx rfl (pc0 := 15) (pc' := 21) rfl (hb hby d_m_3_15) rfl (feq c_10).2 (by decide) (by decide) kk) ?_
      refine k_pure (g' := (mkF m 22 #[.val (.int x), .val (.int y), .val (.int i_7)] [(.int i_7)])) (fun TT HH tt kk => XS.iloadN HH hx rfl (hb hby d_m_3_21) rfl kk) ?_
      exact k_retN hx hlk hret (by simp) (hb hby d_m_3_22) (by decide) (by decide) ⟨_, rfl, rfl, rfl, (by have r0 := rng32 i_7; have r1 : (123 : Int32).toInt = 123 := (by decide); have r2 : (125 : Int32).toInt = 125 := (by decide); have r3 : ((nar .char i_7).toInt - i_7.toInt) % 65536 = 0 ∧ 0 ≤ (nar .char i_7).toInt ∧ (nar .char i_7).toInt < 65536 := (c_i2c i_7); have r4 : ¬ (i_7).toInt = ((123 : Int32)).toInt := fun q => c_9 (Int32.toInt_inj.mp q); have r5 : ¬ (i_7).toInt = ((125 : Int32)).toInt := fun q => c_10 (Int32.toInt_inj.mp q); have r6 := P_8.1; have r7 := P_8.2; unfold Pc; omega)⟩
def Q_rnn (Z : State) (o : Addr) (q : Addr) (h0 : Heap) (n0 : Nat) (bk : Addr → Prop) (v : Option Value) (h : Heap) (bk' : Addr → Prop) : Prop := v = some (.ref o) ∧ h0 = h ∧ NoB = bk'
theorem d_jdk_31_m_11_0 : decode jdk_31_method_11_code 0 = .ok (.aload_n 0, 1) := by decide +kernel
theorem d_jdk_31_m_11_1 : decode jdk_31_method_11_code 1 = .ok (.ifnonnull 12, 3) := by decide +kernel
theorem d_jdk_31_m_11_13 : decode jdk_31_method_11_code 13 = .ok (.aload_n 0, 1) := by decide +kernel
theorem d_jdk_31_m_11_14 : decode jdk_31_method_11_code 14 = .ok (.areturn, 1) := by decide +kernel
abbrev RM_rnn : Room := { frames := 0, cells := 0, slots := 0, locals := 0 }
theorem ef_rnn (m : MethodId) (x0 : Addr) (x1 : Addr) : entryFrame m #[(.ref x0), (.ref x1)] 2 = mkF m 0 #[.val (.ref x0), .val (.ref x1)] [] := by first | (simp [entryFrame, mkF, argsToLocals, Value.category]; done) | rfl
set_option maxRecDepth 65536 in
set_option maxHeartbeats 40000000 in
theorem rm_rnn (l : Launch) (Z : State) (a0 : Array Value) (G1 : Int32) (G3 : Value) (hX : Ctx Z a0 G1 G3) (n0 : Nat) (h0 : Heap) (O0 : Old Z n0 h0) (o : Addr) (q : Addr)  (ws : List Jvm.Cond) : Met l Z EL1 n0 NoB (⟨"java/util/Objects", "requireNonNull", "(Ljava/lang/Object;Ljava/lang/String;)Ljava/lang/Object;"⟩ : MethodName) jdk_31_method_11_code 2 (Option.some (FieldType.object "java/lang/Object")) RM_rnn #[(.ref o), (.ref q)] h0 (Q_rnn Z o q h0 n0 NoB) ws := by
  have hX' := hX
  obtain ⟨hw, hE, S1, P1, S3, P3⟩ := hX'
  have hSA := sa_of hw
  have z0 : n0 ≤ h0.size := by rw [← O0.1]; exact O0.2.1
  refine Met.of (by decide +kernel) O0 hE ?_
  intro p e s m below meth c hx hby hml hret hlk hnm
  refine k_cast (ef_rnn m o q) ?_
  show Run p l e _ s m _ below meth c Z EL1 _ n0 NoB h0 0 0 (mkF m 0 #[.val (.ref o), .val (.ref q)] []) _
  refine k_pure (g' := (mkF m 1 #[.val (.ref o), .val (.ref q)] [(.ref o)])) (fun TT HH tt kk => XS.aloadN HH hx rfl (hb hby d_jdk_31_m_11_0) rfl rfl kk) ?_
  refine k_pure (g' := (mkF m 13 #[.val (.ref o), .val (.ref q)] [])) (fun TT HH tt kk => XS.ifnonnullYes HH hx rfl (pc0 := 1) (pc' := 13) rfl (hb hby d_jdk_31_m_11_1) rfl (by decide) (by decide) kk) ?_
  refine k_pure (g' := (mkF m 14 #[.val (.ref o), .val (.ref q)] [(.ref o)])) (fun TT HH tt kk => XS.aloadN HH hx rfl (hb hby d_jdk_31_m_11_13) rfl rfl kk) ?_
  exact k_retA hx hlk hret rfl rfl rfl (hb hby d_jdk_31_m_11_14) (by decide) (by decide) ⟨rfl, rfl, rfl⟩
def Q_coder (Z : State) (a : Addr) (t : Addr) (kb : ClassId) (cs : List Int32) (h0 : Heap) (n0 : Nat) (bk : Addr → Prop) (v : Option Value) (h : Heap) (bk' : Addr → Prop) : Prop := v = some (.int (0 : Int32)) ∧ h0 = h ∧ NoB = bk'
theorem d_jdk_42_m_152_0 : decode jdk_42_method_152_code 0 = .ok (.getstatic 38, 3) := by decide +kernel
theorem d_jdk_42_m_152_3 : decode jdk_42_method_152_code 3 = .ok (.ifCond .eq 10, 3) := by decide +kernel
theorem d_jdk_42_m_152_6 : decode jdk_42_method_152_code 6 = .ok (.aload_n 0, 1) := by decide +kernel
theorem d_jdk_42_m_152_7 : decode jdk_42_method_152_code 7 = .ok (.getfield 15, 3) := by decide +kernel
theorem d_jdk_42_m_152_10 : decode jdk_42_method_152_code 10 = .ok (.goto 4, 3) := by decide +kernel
theorem d_jdk_42_m_152_14 : decode jdk_42_method_152_code 14 = .ok (.ireturn, 1) := by decide +kernel
abbrev RM_coder : Room := { frames := 0, cells := 0, slots := 0, locals := 0 }
theorem ef_coder (m : MethodId) (x0 : Addr) : entryFrame m #[(.ref x0)] 1 = mkF m 0 #[.val (.ref x0)] [] := by first | (simp [entryFrame, mkF, argsToLocals, Value.category]; done) | rfl
set_option maxRecDepth 65536 in
set_option maxHeartbeats 40000000 in
theorem rm_coder (l : Launch) (Z : State) (a0 : Array Value) (G1 : Int32) (G3 : Value) (hX : Ctx Z a0 G1 G3) (n0 : Nat) (h0 : Heap) (O0 : Old Z n0 h0) (a : Addr) (t : Addr) (kb : ClassId) (cs : List Int32) (pf_0 : StrL Z h0 a t kb cs) (ws : List Jvm.Cond) : Met l Z EL1 n0 NoB (⟨"java/lang/String", "coder", "()B"⟩ : MethodName) jdk_42_method_152_code 1 (Option.some FieldType.byte) RM_coder #[(.ref a)] h0 (Q_coder Z a t kb cs h0 n0 NoB) ws := by
  have hX' := hX
  obtain ⟨hw, hE, S1, P1, S3, P3⟩ := hX'
  have hSA := sa_of hw
  have z0 : n0 ≤ h0.size := by rw [← O0.1]; exact O0.2.1
  refine Met.of (by decide +kernel) O0 hE ?_
  intro p e s m below meth c hx hby hml hret hlk hnm
  refine k_cast (ef_coder m a) ?_
  show Run p l e _ s m _ below meth c Z EL1 _ n0 NoB h0 0 0 (mkF m 0 #[.val (.ref a)] []) _
  have lt_1 : @LT.lt Nat _ a (Array.size h0) := pf_0.lt1
  have lt_2 : @LT.lt Nat _ t (Array.size h0) := pf_0.lt2
  refine k_getS hx (host := "") (Or.inl (hw _ (List.mem_of_getElem? (i := 21) rfl))) Via.refl (S1.ext O0.2) rfl (hb hby d_jdk_42_m_152_0) ?_
  show Run p l e _ s m _ below meth c Z EL1 _ n0 NoB h0 0 0 (mkF m 3 #[.val (.ref a)] [(.int G1)]) _
  refine k_pure (g' := (mkF m 6 #[.val (.ref a)] [])) (fun TT HH tt kk => XS.ifNo HH hx rfl (hb hby d_jdk_42_m_152_3) rfl ((if0 _ _).trans (feq P1).1) kk) ?_
  refine k_pure (g' := (mkF m 7 #[.val (.ref a)] [(.ref a)])) (fun TT HH tt kk => XS.aloadN HH hx rfl (hb hby d_jdk_42_m_152_6) rfl rfl kk) ?_
  refine k_getF hx (host := "") (Or.inl (hw _ (List.mem_of_getElem? (i := 33) rfl))) Via.refl pf_0.2.1 rfl rfl (hb hby d_jdk_42_m_152_7) ?_
  show Run p l e _ s m _ below meth c Z EL1 _ n0 NoB h0 0 0 (mkF m 10 #[.val (.ref a)] [(.int (0 : Int32))]) _
  refine k_pure (g' := (mkF m 14 #[.val (.ref a)] [(.int (0 : Int32))])) (fun TT HH tt kk => XS.goto HH hx rfl (pc0 := 10) (pc' := 14) rfl (hb hby d_jdk_42_m_152_10) (by decide) (by decide) kk) ?_
  exact k_retN hx hlk hret (by simp) (hb hby d_jdk_42_m_152_14) (by decide) (by decide) ⟨rfl, rfl, rfl⟩
def Q_isl (Z : State) (a : Addr) (t : Addr) (kb : ClassId) (cs : List Int32) (h0 : Heap) (n0 : Nat) (bk : Addr → Prop) (v : Option Value) (h : Heap) (bk' : Addr → Prop) : Prop := v = some (.int (1 : Int32)) ∧ h0 = h ∧ NoB = bk'
theorem d_jdk_42_m_154_0 : decode jdk_42_method_154_code 0 = .ok (.getstatic 38, 3) := by decide +kernel
theorem d_jdk_42_m_154_3 : decode jdk_42_method_154_code 3 = .ok (.ifCond .eq 14, 3) := by decide +kernel
theorem d_jdk_42_m_154_6 : decode jdk_42_method_154_code 6 = .ok (.aload_n 0, 1) := by decide +kernel
theorem d_jdk_42_m_154_7 : decode jdk_42_method_154_code 7 = .ok (.getfield 15, 3) := by decide +kernel
theorem d_jdk_42_m_154_10 : decode jdk_42_method_154_code 10 = .ok (.ifCond .ne 7, 3) := by decide +kernel
theorem d_jdk_42_m_154_13 : decode jdk_42_method_154_code 13 = .ok (.iconst 1, 1) := by decide +kernel
theorem d_jdk_42_m_154_14 : decode jdk_42_method_154_code 14 = .ok (.goto 4, 3) := by decide +kernel
theorem d_jdk_42_m_154_18 : decode jdk_42_method_154_code 18 = .ok (.ireturn, 1) := by decide +kernel
abbrev RM_isl : Room := { frames := 0, cells := 0, slots := 0, locals := 0 }
theorem ef_isl (m : MethodId) (x0 : Addr) : entryFrame m #[(.ref x0)] 1 = mkF m 0 #[.val (.ref x0)] [] := by first | (simp [entryFrame, mkF, argsToLocals, Value.category]; done) | rfl
set_option maxRecDepth 65536 in
set_option maxHeartbeats 40000000 in
theorem rm_isl (l : Launch) (Z : State) (a0 : Array Value) (G1 : Int32) (G3 : Value) (hX : Ctx Z a0 G1 G3) (n0 : Nat) (h0 : Heap) (O0 : Old Z n0 h0) (a : Addr) (t : Addr) (kb : ClassId) (cs : List Int32) (pf_0 : StrL Z h0 a t kb cs) (ws : List Jvm.Cond) : Met l Z EL1 n0 NoB (⟨"java/lang/String", "isLatin1", "()Z"⟩ : MethodName) jdk_42_method_154_code 1 (Option.some FieldType.boolean) RM_isl #[(.ref a)] h0 (Q_isl Z a t kb cs h0 n0 NoB) ws := by
  have hX' := hX
  obtain ⟨hw, hE, S1, P1, S3, P3⟩ := hX'
  have hSA := sa_of hw
  have z0 : n0 ≤ h0.size := by rw [← O0.1]; exact O0.2.1
  refine Met.of (by decide +kernel) O0 hE ?_
  intro p e s m below meth c hx hby hml hret hlk hnm
  refine k_cast (ef_isl m a) ?_
  show Run p l e _ s m _ below meth c Z EL1 _ n0 NoB h0 0 0 (mkF m 0 #[.val (.ref a)] []) _
  have lt_1 : @LT.lt Nat _ a (Array.size h0) := pf_0.lt1
  have lt_2 : @LT.lt Nat _ t (Array.size h0) := pf_0.lt2
  refine k_getS hx (host := "") (Or.inl (hw _ (List.mem_of_getElem? (i := 21) rfl))) Via.refl (S1.ext O0.2) rfl (hb hby d_jdk_42_m_154_0) ?_
  show Run p l e _ s m _ below meth c Z EL1 _ n0 NoB h0 0 0 (mkF m 3 #[.val (.ref a)] [(.int G1)]) _
  refine k_pure (g' := (mkF m 6 #[.val (.ref a)] [])) (fun TT HH tt kk => XS.ifNo HH hx rfl (hb hby d_jdk_42_m_154_3) rfl ((if0 _ _).trans (feq P1).1) kk) ?_
  refine k_pure (g' := (mkF m 7 #[.val (.ref a)] [(.ref a)])) (fun TT HH tt kk => XS.aloadN HH hx rfl (hb hby d_jdk_42_m_154_6) rfl rfl kk) ?_
  refine k_getF hx (host := "") (Or.inl (hw _ (List.mem_of_getElem? (i := 33) rfl))) Via.refl pf_0.2.1 rfl rfl (hb hby d_jdk_42_m_154_7) ?_
  show Run p l e _ s m _ below meth c Z EL1 _ n0 NoB h0 0 0 (mkF m 10 #[.val (.ref a)] [(.int (0 : Int32))]) _
  refine k_pure (g' := (mkF m 13 #[.val (.ref a)] [])) (fun TT HH tt kk => XS.ifNo HH hx rfl (hb hby d_jdk_42_m_154_10) rfl ((if0 _ _).trans (teq (by decide : ((0 : Int32) = (0 : Int32)))).2) kk) ?_
  refine k_pure (g' := (mkF m 14 #[.val (.ref a)] [(.int (1 : Int32))])) (fun TT HH tt kk => XS.iconst HH hx rfl (hb hby d_jdk_42_m_154_13) kk) ?_
  refine k_pure (g' := (mkF m 18 #[.val (.ref a)] [(.int (1 : Int32))])) (fun TT HH tt kk => XS.goto HH hx rfl (pc0 := 14) (pc' := 18) rfl (hb hby d_jdk_42_m_154_14) (by decide) (by decide) kk) ?_
  exact k_retN hx hlk hret (by simp) (hb hby d_jdk_42_m_154_18) (by decide) (by decide) ⟨rfl, rfl, rfl⟩
def Q_cenc (Z : State) (c1 : Int32) (h0 : Heap) (n0 : Nat) (bk : Addr → Prop) (v : Option Value) (h : Heap) (bk' : Addr → Prop) : Prop := v = some (.int (1 : Int32)) ∧ h0 = h ∧ NoB = bk'
theorem d_jdk_43_m_4_0 : decode jdk_43_method_4_code 0 = .ok (.iload_n 0, 1) := by decide +kernel
theorem d_jdk_43_m_4_1 : decode jdk_43_method_4_code 1 = .ok (.ifCond .lt 14, 3) := by decide +kernel
theorem d_jdk_43_m_4_4 : decode jdk_43_method_4_code 4 = .ok (.iload_n 0, 1) := by decide +kernel
theorem d_jdk_43_m_4_5 : decode jdk_43_method_4_code 5 = .ok (.sipush 255, 3) := by decide +kernel
theorem d_jdk_43_m_4_8 : decode jdk_43_method_4_code 8 = .ok (.if_icmp .gt 7, 3) := by decide +kernel
theorem d_jdk_43_m_4_11 : decode jdk_43_method_4_code 11 = .ok (.iconst 1, 1) := by decide +kernel
theorem d_jdk_43_m_4_12 : decode jdk_43_method_4_code 12 = .ok (.goto 4, 3) := by decide +kernel
theorem d_jdk_43_m_4_16 : decode jdk_43_method_4_code 16 = .ok (.ireturn, 1) := by decide +kernel
abbrev RM_cenc : Room := { frames := 0, cells := 0, slots := 0, locals := 0 }
theorem ef_cenc (m : MethodId) (x0 : Int32) : entryFrame m #[(.int x0)] 1 = mkF m 0 #[.val (.int x0)] [] := by first | (simp [entryFrame, mkF, argsToLocals, Value.category]; done) | rfl
set_option maxRecDepth 65536 in
set_option maxHeartbeats 40000000 in
theorem rm_cenc (l : Launch) (Z : State) (a0 : Array Value) (G1 : Int32) (G3 : Value) (hX : Ctx Z a0 G1 G3) (n0 : Nat) (h0 : Heap) (O0 : Old Z n0 h0) (c1 : Int32) (h1 : ¬ c1 < (0 : Int32)) (h2 : ¬ (255 : Int32) < c1) (ws : List Jvm.Cond) : Met l Z EL1 n0 NoB (⟨"java/lang/StringLatin1", "canEncode", "(I)Z"⟩ : MethodName) jdk_43_method_4_code 1 (Option.some FieldType.boolean) RM_cenc #[(.int c1)] h0 (Q_cenc Z c1 h0 n0 NoB) ws := by
  have hX' := hX
  obtain ⟨hw, hE, S1, P1, S3, P3⟩ := hX'
  have hSA := sa_of hw
  have z0 : n0 ≤ h0.size := by rw [← O0.1]; exact O0.2.1
  refine Met.of (by decide +kernel) O0 hE ?_
  intro p e s m below meth c hx hby hml hret hlk hnm
  refine k_cast (ef_cenc m c1) ?_
  show Run p l e _ s m _ below meth c Z EL1 _ n0 NoB h0 0 0 (mkF m 0 #[.val (.int c1)] []) _
  refine k_pure (g' := (mkF m 1 #[.val (.int c1)] [(.int c1)])) (fun TT HH tt kk => XS.iloadN HH hx rfl (hb hby d_jdk_43_m_4_0) rfl kk) ?_
  refine k_pure (g' := (mkF m 4 #[.val (.int c1)] [])) (fun TT HH tt kk => XS.ifNo HH hx rfl (hb hby d_jdk_43_m_4_1) rfl ((if0 _ _).trans (flt h1).1) kk) ?_
  refine k_pure (g' := (mkF m 5 #[.val (.int c1)] [(.int c1)])) (fun TT HH tt kk => XS.iloadN HH hx rfl (hb hby d_jdk_43_m_4_4) rfl kk) ?_
  refine k_pure (g' := (mkF m 8 #[.val (.int c1)] [(.int (255 : Int32)), (.int c1)])) (fun TT HH tt kk => XS.sipush HH hx rfl (hb hby d_jdk_43_m_4_5) kk) ?_
  refine k_pure (g' := (mkF m 11 #[.val (.int c1)] [])) (fun TT HH tt kk => XS.icmpNo HH hx rfl (hb hby d_jdk_43_m_4_8) rfl (flt h2).2.2.1 kk) ?_
  refine k_pure (g' := (mkF m 12 #[.val (.int c1)] [(.int (1 : Int32))])) (fun TT HH tt kk => XS.iconst HH hx rfl (hb hby d_jdk_43_m_4_11) kk) ?_
  refine k_pure (g' := (mkF m 16 #[.val (.int c1)] [(.int (1 : Int32))])) (fun TT HH tt kk => XS.goto HH hx rfl (pc0 := 12) (pc' := 16) rfl (hb hby d_jdk_43_m_4_12) (by decide) (by decide) kk) ?_
  exact k_retN hx hlk hret (by simp) (hb hby d_jdk_43_m_4_16) (by decide) (by decide) ⟨rfl, rfl, rfl⟩
def Q_max0 (Z : State) (u : Int32) (w : Int32) (h0 : Heap) (n0 : Nat) (bk : Addr → Prop) (v : Option Value) (h : Heap) (bk' : Addr → Prop) : Prop := v = some (.int u) ∧ h0 = h ∧ NoB = bk'
theorem d_jdk_29_m_65_0 : decode jdk_29_method_65_code 0 = .ok (.iload_n 0, 1) := by decide +kernel
theorem d_jdk_29_m_65_1 : decode jdk_29_method_65_code 1 = .ok (.iload_n 1, 1) := by decide +kernel
theorem d_jdk_29_m_65_2 : decode jdk_29_method_65_code 2 = .ok (.if_icmp .lt 7, 3) := by decide +kernel
theorem d_jdk_29_m_65_5 : decode jdk_29_method_65_code 5 = .ok (.iload_n 0, 1) := by decide +kernel
theorem d_jdk_29_m_65_6 : decode jdk_29_method_65_code 6 = .ok (.goto 4, 3) := by decide +kernel
theorem d_jdk_29_m_65_10 : decode jdk_29_method_65_code 10 = .ok (.ireturn, 1) := by decide +kernel
abbrev RM_max0 : Room := { frames := 0, cells := 0, slots := 0, locals := 0 }
theorem ef_max0 (m : MethodId) (x0 : Int32) (x1 : Int32) : entryFrame m #[(.int x0), (.int x1)] 2 = mkF m 0 #[.val (.int x0), .val (.int x1)] [] := by first | (simp [entryFrame, mkF, argsToLocals, Value.category]; done) | rfl
set_option maxRecDepth 65536 in
set_option maxHeartbeats 40000000 in
theorem rm_max0 (l : Launch) (Z : State) (a0 : Array Value) (G1 : Int32) (G3 : Value) (hX : Ctx Z a0 G1 G3) (n0 : Nat) (h0 : Heap) (O0 : Old Z n0 h0) (u : Int32) (w : Int32) (h : ¬ u < w) (ws : List Jvm.Cond) : Met l Z EL1 n0 NoB (⟨"java/lang/Math", "max", "(II)I"⟩ : MethodName) jdk_29_method_65_code 2 (Option.some FieldType.int) RM_max0 #[(.int u), (.int w)] h0 (Q_max0 Z u w h0 n0 NoB) ws := by
  have hX' := hX
  obtain ⟨hw, hE, S1, P1, S3, P3⟩ := hX'
  have hSA := sa_of hw
  have z0 : n0 ≤ h0.size := by rw [← O0.1]; exact O0.2.1
  refine Met.of (by decide +kernel) O0 hE ?_
  intro p e s m below meth c hx hby hml hret hlk hnm
  refine k_cast (ef_max0 m u w) ?_
  show Run p l e _ s m _ below meth c Z EL1 _ n0 NoB h0 0 0 (mkF m 0 #[.val (.int u), .val (.int w)] []) _
  refine k_pure (g' := (mkF m 1 #[.val (.int u), .val (.int w)] [(.int u)])) (fun TT HH tt kk => XS.iloadN HH hx rfl (hb hby d_jdk_29_m_65_0) rfl kk) ?_
  refine k_pure (g' := (mkF m 2 #[.val (.int u), .val (.int w)] [(.int w), (.int u)])) (fun TT HH tt kk => XS.iloadN HH hx rfl (hb hby d_jdk_29_m_65_1) rfl kk) ?_
  refine k_pure (g' := (mkF m 5 #[.val (.int u), .val (.int w)] [])) (fun TT HH tt kk => XS.icmpNo HH hx rfl (hb hby d_jdk_29_m_65_2) rfl (flt h).1 kk) ?_
  refine k_pure (g' := (mkF m 6 #[.val (.int u), .val (.int w)] [(.int u)])) (fun TT HH tt kk => XS.iloadN HH hx rfl (hb hby d_jdk_29_m_65_5) rfl kk) ?_
  refine k_pure (g' := (mkF m 10 #[.val (.int u), .val (.int w)] [(.int u)])) (fun TT HH tt kk => XS.goto HH hx rfl (pc0 := 6) (pc' := 10) rfl (hb hby d_jdk_29_m_65_6) (by decide) (by decide) kk) ?_
  exact k_retI hx hlk hret (hb hby d_jdk_29_m_65_10) (by decide) (by decide) ⟨rfl, rfl, rfl⟩
def Q_max1 (Z : State) (u : Int32) (w : Int32) (h0 : Heap) (n0 : Nat) (bk : Addr → Prop) (v : Option Value) (h : Heap) (bk' : Addr → Prop) : Prop := v = some (.int w) ∧ h0 = h ∧ NoB = bk'
theorem d_jdk_29_m_65_9 : decode jdk_29_method_65_code 9 = .ok (.iload_n 1, 1) := by decide +kernel
abbrev RM_max1 : Room := { frames := 0, cells := 0, slots := 0, locals := 0 }
theorem ef_max1 (m : MethodId) (x0 : Int32) (x1 : Int32) : entryFrame m #[(.int x0), (.int x1)] 2 = mkF m 0 #[.val (.int x0), .val (.int x1)] [] := by first | (simp [entryFrame, mkF, argsToLocals, Value.category]; done) | rfl
set_option maxRecDepth 65536 in
set_option maxHeartbeats 40000000 in
theorem rm_max1 (l : Launch) (Z : State) (a0 : Array Value) (G1 : Int32) (G3 : Value) (hX : Ctx Z a0 G1 G3) (n0 : Nat) (h0 : Heap) (O0 : Old Z n0 h0) (u : Int32) (w : Int32) (h : u < w) (ws : List Jvm.Cond) : Met l Z EL1 n0 NoB (⟨"java/lang/Math", "max", "(II)I"⟩ : MethodName) jdk_29_method_65_code 2 (Option.some FieldType.int) RM_max1 #[(.int u), (.int w)] h0 (Q_max1 Z u w h0 n0 NoB) ws := by
  have hX' := hX
  obtain ⟨hw, hE, S1, P1, S3, P3⟩ := hX'
  have hSA := sa_of hw
  have z0 : n0 ≤ h0.size := by rw [← O0.1]; exact O0.2.1
  refine Met.of (by decide +kernel) O0 hE ?_
  intro p e s m below meth c hx hby hml hret hlk hnm
  refine k_cast (ef_max1 m u w) ?_
  show Run p l e _ s m _ below meth c Z EL1 _ n0 NoB h0 0 0 (mkF m 0 #[.val (.int u), .val (.int w)] []) _
  refine k_pure (g' := (mkF m 1 #[.val (.int u), .val (.int w)] [(.int u)])) (fun TT HH tt kk => XS.iloadN HH hx rfl (hb hby d_jdk_29_m_65_0) rfl kk) ?_
  refine k_pure (g' := (mkF m 2 #[.val (.int u), .val (.int w)] [(.int w), (.int u)])) (fun TT HH tt kk => XS.iloadN HH hx rfl (hb hby d_jdk_29_m_65_1) rfl kk) ?_
  refine k_pure (g' := (mkF m 9 #[.val (.int u), .val (.int w)] [])) (fun TT HH tt kk => XS.icmpYes HH hx rfl (pc0 := 2) (pc' := 9) rfl (hb hby d_jdk_29_m_65_2) rfl (tlt h).1 (by decide) (by decide) kk) ?_
  refine k_pure (g' := (mkF m 10 #[.val (.int u), .val (.int w)] [(.int w)])) (fun TT HH tt kk => XS.iloadN HH hx rfl (hb hby d_jdk_29_m_65_9) rfl kk) ?_
  exact k_retI hx hlk hret (hb hby d_jdk_29_m_65_10) (by decide) (by decide) ⟨rfl, rfl, rfl⟩
def Q_min0 (Z : State) (u : Int32) (w : Int32) (h0 : Heap) (n0 : Nat) (bk : Addr → Prop) (v : Option Value) (h : Heap) (bk' : Addr → Prop) : Prop := v = some (.int u) ∧ h0 = h ∧ NoB = bk'
theorem d_jdk_29_m_69_0 : decode jdk_29_method_69_code 0 = .ok (.iload_n 0, 1) := by decide +kernel
theorem d_jdk_29_m_69_1 : decode jdk_29_method_69_code 1 = .ok (.iload_n 1, 1) := by decide +kernel
theorem d_jdk_29_m_69_2 : decode jdk_29_method_69_code 2 = .ok (.if_icmp .gt 7, 3) := by decide +kernel
theorem d_jdk_29_m_69_5 : decode jdk_29_method_69_code 5 = .ok (.iload_n 0, 1) := by decide +kernel
theorem d_jdk_29_m_69_6 : decode jdk_29_method_69_code 6 = .ok (.goto 4, 3) := by decide +kernel
theorem d_jdk_29_m_69_10 : decode jdk_29_method_69_code 10 = .ok (.ireturn, 1) := by decide +kernel
abbrev RM_min0 : Room := { frames := 0, cells := 0, slots := 0, locals := 0 }
theorem ef_min0 (m : MethodId) (x0 : Int32) (x1 : Int32) : entryFrame m #[(.int x0), (.int x1)] 2 = mkF m 0 #[.val (.int x0), .val (.int x1)] [] := by first | (simp [entryFrame, mkF, argsToLocals, Value.category]; done) | rfl
set_option maxRecDepth 65536 in
set_option maxHeartbeats 40000000 in
theorem rm_min0 (l : Launch) (Z : State) (a0 : Array Value) (G1 : Int32) (G3 : Value) (hX : Ctx Z a0 G1 G3) (n0 : Nat) (h0 : Heap) (O0 : Old Z n0 h0) (u : Int32) (w : Int32) (h : ¬ w < u) (ws : List Jvm.Cond) : Met l Z EL1 n0 NoB (⟨"java/lang/Math", "min", "(II)I"⟩ : MethodName) jdk_29_method_69_code 2 (Option.some FieldType.int) RM_min0 #[(.int u), (.int w)] h0 (Q_min0 Z u w h0 n0 NoB) ws := by
  have hX' := hX
  obtain ⟨hw, hE, S1, P1, S3, P3⟩ := hX'
  have hSA := sa_of hw
  have z0 : n0 ≤ h0.size := by rw [← O0.1]; exact O0.2.1
  refine Met.of (by decide +kernel) O0 hE ?_
  intro p e s m below meth c hx hby hml hret hlk hnm
  refine k_cast (ef_min0 m u w) ?_
  show Run p l e _ s m _ below meth c Z EL1 _ n0 NoB h0 0 0 (mkF m 0 #[.val (.int u), .val (.int w)] []) _
  refine k_pure (g' := (mkF m 1 #[.val (.int u), .val (.int w)] [(.int u)])) (fun TT HH tt kk => XS.iloadN HH hx rfl (hb hby d_jdk_29_m_69_0) rfl kk) ?_
  refine k_pure (g' := (mkF m 2 #[.val (.int u), .val (.int w)] [(.int w), (.int u)])) (fun TT HH tt kk => XS.iloadN HH hx rfl (hb hby d_jdk_29_m_69_1) rfl kk) ?_
  refine k_pure (g' := (mkF m 5 #[.val (.int u), .val (.int w)] [])) (fun TT HH tt kk => XS.icmpNo HH hx rfl (hb hby d_jdk_29_m_69_2) rfl (flt h).2.2.1 kk) ?_
  refine k_pure (g' := (mkF m 6 #[.val (.int u), .val (.int w)] [(.int u)])) (fun TT HH tt kk => XS.iloadN HH hx rfl (hb hby d_jdk_29_m_69_5) rfl kk) ?_
  refine k_pure (g' := (mkF m 10 #[.val (.int u), .val (.int w)] [(.int u)])) (fun TT HH tt kk => XS.goto HH hx rfl (pc0 := 6) (pc' := 10) rfl (hb hby d_jdk_29_m_69_6) (by decide) (by decide) kk) ?_
  exact k_retI hx hlk hret (hb hby d_jdk_29_m_69_10) (by decide) (by decide) ⟨rfl, rfl, rfl⟩
def Q_min1 (Z : State) (u : Int32) (w : Int32) (h0 : Heap) (n0 : Nat) (bk : Addr → Prop) (v : Option Value) (h : Heap) (bk' : Addr → Prop) : Prop := v = some (.int w) ∧ h0 = h ∧ NoB = bk'
theorem d_jdk_29_m_69_9 : decode jdk_29_method_69_code 9 = .ok (.iload_n 1, 1) := by decide +kernel
abbrev RM_min1 : Room := { frames := 0, cells := 0, slots := 0, locals := 0 }
theorem ef_min1 (m : MethodId) (x0 : Int32) (x1 : Int32) : entryFrame m #[(.int x0), (.int x1)] 2 = mkF m 0 #[.val (.int x0), .val (.int x1)] [] := by first | (simp [entryFrame, mkF, argsToLocals, Value.category]; done) | rfl
set_option maxRecDepth 65536 in
set_option maxHeartbeats 40000000 in
theorem rm_min1 (l : Launch) (Z : State) (a0 : Array Value) (G1 : Int32) (G3 : Value) (hX : Ctx Z a0 G1 G3) (n0 : Nat) (h0 : Heap) (O0 : Old Z n0 h0) (u : Int32) (w : Int32) (h : w < u) (ws : List Jvm.Cond) : Met l Z EL1 n0 NoB (⟨"java/lang/Math", "min", "(II)I"⟩ : MethodName) jdk_29_method_69_code 2 (Option.some FieldType.int) RM_min1 #[(.int u), (.int w)] h0 (Q_min1 Z u w h0 n0 NoB) ws := by
  have hX' := hX
  obtain ⟨hw, hE, S1, P1, S3, P3⟩ := hX'
  have hSA := sa_of hw
  have z0 : n0 ≤ h0.size := by rw [← O0.1]; exact O0.2.1
  refine Met.of (by decide +kernel) O0 hE ?_
  intro p e s m below meth c hx hby hml hret hlk hnm
  refine k_cast (ef_min1 m u w) ?_
  show Run p l e _ s m _ below meth c Z EL1 _ n0 NoB h0 0 0 (mkF m 0 #[.val (.int u), .val (.int w)] []) _
  refine k_pure (g' := (mkF m 1 #[.val (.int u), .val (.int w)] [(.int u)])) (fun TT HH tt kk => XS.iloadN HH hx rfl (hb hby d_jdk_29_m_69_0) rfl kk) ?_
  refine k_pure (g' := (mkF m 2 #[.val (.int u), .val (.int w)] [(.int w), (.int u)])) (fun TT HH tt kk => XS.iloadN HH hx rfl (hb hby d_jdk_29_m_69_1) rfl kk) ?_
  refine k_pure (g' := (mkF m 9 #[.val (.int u), .val (.int w)] [])) (fun TT HH tt kk => XS.icmpYes HH hx rfl (pc0 := 2) (pc' := 9) rfl (hb hby d_jdk_29_m_69_2) rfl (tlt h).2.2.1 (by decide) (by decide) kk) ?_
  refine k_pure (g' := (mkF m 10 #[.val (.int u), .val (.int w)] [(.int w)])) (fun TT HH tt kk => XS.iloadN HH hx rfl (hb hby d_jdk_29_m_69_9) rfl kk) ?_
  exact k_retI hx hlk hret (hb hby d_jdk_29_m_69_10) (by decide) (by decide) ⟨rfl, rfl, rfl⟩
def Q_ioc (Z : State) (t : Addr) (kb : ClassId) (bs : List Int32) (c1 : Int32) (h0 : Heap) (n0 : Nat) (bk : Addr → Prop) (v : Option Value) (h : Heap) (bk' : Addr → Prop) : Prop := v = some (.int ((-1) : Int32)) ∧ h0 = h ∧ NoB = bk'
theorem d_jdk_43_m_23_0 : decode jdk_43_method_23_code 0 = .ok (.iload_n 1, 1) := by decide +kernel
theorem d_jdk_43_m_23_1 : decode jdk_43_method_23_code 1 = .ok (.i2b, 1) := by decide +kernel
theorem d_jdk_43_m_23_2 : decode jdk_43_method_23_code 2 = .ok (.istore 4, 2) := by decide +kernel
theorem d_jdk_43_m_23_4 : decode jdk_43_method_23_code 4 = .ok (.iload_n 2, 1) := by decide +kernel
theorem d_jdk_43_m_23_5 : decode jdk_43_method_23_code 5 = .ok (.istore 5, 2) := by decide +kernel
theorem d_jdk_43_m_23_7 : decode jdk_43_method_23_code 7 = .ok (.iload 5, 2) := by decide +kernel
theorem d_jdk_43_m_23_9 : decode jdk_43_method_23_code 9 = .ok (.iload_n 3, 1) := by decide +kernel
theorem d_jdk_43_m_23_10 : decode jdk_43_method_23_code 10 = .ok (.if_icmp .ge 21, 3) := by decide +kernel
theorem d_jdk_43_m_23_31 : decode jdk_43_method_23_code 31 = .ok (.iconst (-1), 1) := by decide +kernel
theorem d_jdk_43_m_23_32 : decode jdk_43_method_23_code 32 = .ok (.ireturn, 1) := by decide +kernel
theorem d_jdk_43_m_23_13 : decode jdk_43_method_23_code 13 = .ok (.aload_n 0, 1) := by decide +kernel
theorem d_jdk_43_m_23_14 : decode jdk_43_method_23_code 14 = .ok (.iload 5, 2) := by decide +kernel
theorem d_jdk_43_m_23_16 : decode jdk_43_method_23_code 16 = .ok (.baload, 1) := by decide +kernel
theorem d_jdk_43_m_23_17 : decode jdk_43_method_23_code 17 = .ok (.iload 4, 2) := by decide +kernel
theorem d_jdk_43_m_23_19 : decode jdk_43_method_23_code 19 = .ok (.if_icmp .ne 6, 3) := by decide +kernel
theorem d_jdk_43_m_23_25 : decode jdk_43_method_23_code 25 = .ok (.iinc 5 1, 3) := by decide +kernel
theorem d_jdk_43_m_23_28 : decode jdk_43_method_23_code 28 = .ok (.goto (-21), 3) := by decide +kernel
abbrev RM_ioc : Room := { frames := 0, cells := 0, slots := 0, locals := 0 }
theorem ef_ioc (m : MethodId) (x0 : Addr) (x1 : Int32) (x2 : Int32) (x3 : Int32) : entryFrame m #[(.ref x0), (.int x1), (.int x2), (.int x3)] 6 = mkF m 0 #[.val (.ref x0), .val (.int x1), .val (.int x2), .val (.int x3), .unset, .unset] [] := by first | (simp [entryFrame, mkF, argsToLocals, Value.category]; done) | rfl
set_option maxRecDepth 65536 in
set_option maxHeartbeats 40000000 in
theorem rm_ioc (l : Launch) (Z : State) (a0 : Array Value) (G1 : Int32) (G3 : Value) (hX : Ctx Z a0 G1 G3) (n0 : Nat) (h0 : Heap) (O0 : Old Z n0 h0) (t : Addr) (kb : ClassId) (bs : List Int32) (c1 : Int32) (pf_0 : Arv Z h0 t kb .byte (Int32.ofNat (bs).length) ((bs).map Value.int) (.int 0)) (hn : ∀ b ∈ bs, ¬ b = c1.toInt8.toInt32) (l2 : bs.length ≤ 4000) (ws : List Jvm.Cond) : Met l Z EL1 n0 NoB (⟨"java/lang/StringLatin1", "indexOfChar", "([BIII)I"⟩ : MethodName) jdk_43_method_23_code 6 (Option.some FieldType.int) RM_ioc #[(.ref t), (.int c1), (.int (0 : Int32)), (.int (Int32.ofNat (bs).length))] h0 (Q_ioc Z t kb bs c1 h0 n0 NoB) ws := by
  have hX' := hX
  obtain ⟨hw, hE, S1, P1, S3, P3⟩ := hX'
  have hSA := sa_of hw
  have z0 : n0 ≤ h0.size := by rw [← O0.1]; exact O0.2.1
  refine Met.of (by decide +kernel) O0 hE ?_
  intro p e s m below meth c hx hby hml hret hlk hnm
  refine k_cast (ef_ioc m t c1 (0 : Int32) (Int32.ofNat (bs).length)) ?_
  show Run p l e _ s m _ below meth c Z EL1 _ n0 NoB h0 0 0 (mkF m 0 #[.val (.ref t), .val (.int c1), .val (.int (0 : Int32)), .val (.int (Int32.ofNat (bs).length)), .unset, .unset] []) _
  have lt_1 : @LT.lt Nat _ t (Array.size h0) := pf_0.lt
  refine k_pure (g' := (mkF m 1 #[.val (.ref t), .val (.int c1), .val (.int (0 : Int32)), .val (.int (Int32.ofNat (bs).length)), .unset, .unset] [(.int c1)])) (fun TT HH tt kk => XS.iloadN HH hx rfl (hb hby d_jdk_43_m_23_0) rfl kk) ?_
  refine k_pure (g' := (mkF m 2 #[.val (.ref t), .val (.int c1), .val (.int (0 : Int32)), .val (.int (Int32.ofNat (bs).length)), .unset, .unset] [(.int (c1.toInt8.toInt32))])) (fun TT HH tt kk => XS.i2b HH hx rfl (hb hby d_jdk_43_m_23_1) rfl kk) ?_
  refine k_pure (g' := (mkF m 4 #[.val (.ref t), .val (.int c1), .val (.int (0 : Int32)), .val (.int (Int32.ofNat (bs).length)), .val (.int (c1.toInt8.toInt32)), .unset] [])) (fun TT HH tt kk => XS.istore HH hx rfl (hb hby d_jdk_43_m_23_2) rfl (l' := #[.val (.ref t), .val (.int c1), .val (.int (0 : Int32)), .val (.int (Int32.ofNat (bs).length)), .val (.int (c1.toInt8.toInt32)), .unset]) rfl kk) ?_
  refine k_pure (g' := (mkF m 5 #[.val (.ref t), .val (.int c1), .val (.int (0 : Int32)), .val (.int (Int32.ofNat (bs).length)), .val (.int (c1.toInt8.toInt32)), .unset] [(.int (0 : Int32))])) (fun TT HH tt kk => XS.iloadN HH hx rfl (hb hby d_jdk_43_m_23_4) rfl kk) ?_
  refine k_pure (g' := (mkF m 7 #[.val (.ref t), .val (.int c1), .val (.int (0 : Int32)), .val (.int (Int32.ofNat (bs).length)), .val (.int (c1.toInt8.toInt32)), .val (.int (0 : Int32))] [])) (fun TT HH tt kk => XS.istore HH hx rfl (hb hby d_jdk_43_m_23_5) rfl (l' := #[.val (.ref t), .val (.int c1), .val (.int (0 : Int32)), .val (.int (Int32.ofNat (bs).length)), .val (.int (c1.toInt8.toInt32)), .val (.int (0 : Int32))]) rfl kk) ?_
  have loop : ∀ (k i : Nat) , i + k = bs.length → Run p l e RM_ioc s m #[(.ref t), (.int c1), (.int (0 : Int32)), (.int (Int32.ofNat (bs).length))] below meth c Z EL1 "java/lang/StringLatin1" n0 NoB h0 0 0 (mkF m 7 #[.val (.ref t), .val (.int c1), .val (.int (0 : Int32)), .val (.int (Int32.ofNat (bs).length)), .val (.int (c1.toInt8.toInt32)), .val (.int (Int32.ofNat i))] []) (Q_ioc Z t kb bs c1 h0 n0 NoB) := by
    intro k
    induction k with
    | zero =>
      intro i  hi 
      refine k_pure (g' := (mkF m 9 #[.val (.ref t), .val (.int c1), .val (.int (0 : Int32)), .val (.int (Int32.ofNat (bs).length)), .val (.int (c1.toInt8.toInt32)), .val (.int (Int32.ofNat i))] [(.int (Int32.ofNat i))])) (fun TT HH tt kk => XS.iload HH hx rfl (hb hby d_jdk_43_m_23_7) rfl kk) ?_
      refine k_pure (g' := (mkF m 10 #[.val (.ref t), .val (.int c1), .val (.int (0 : Int32)), .val (.int (Int32.ofNat (bs).length)), .val (.int (c1.toInt8.toInt32)), .val (.int (Int32.ofNat i))] [(.int (Int32.ofNat (bs).length)), (.int (Int32.ofNat i))])) (fun TT HH tt kk => XS.iloadN HH hx rfl (hb hby d_jdk_43_m_23_9) rfl kk) ?_
      refine k_pure (g' := (mkF m 31 #[.val (.ref t), .val (.int c1), .val (.int (0 : Int32)), .val (.int (Int32.ofNat (bs).length)), .val (.int (c1.toInt8.toInt32)), .val (.int (Int32.ofNat i))] [])) (fun TT HH tt kk => XS.icmpYes HH hx rfl (pc0 := 10) (pc' := 31) rfl (hb hby d_jdk_43_m_23_10) rfl (flt (not_lt_nat (by omega) (by omega))).2.1 (by decide) (by decide) kk) ?_
      refine k_pure (g' := (mkF m 32 #[.val (.ref t), .val (.int c1), .val (.int (0 : Int32)), .val (.int (Int32.ofNat (bs).length)), .val (.int (c1.toInt8.toInt32)), .val (.int (Int32.ofNat i))] [(.int ((-1) : Int32))])) (fun TT HH tt kk => XS.iconst HH hx rfl (hb hby d_jdk_43_m_23_31) kk) ?_
      exact k_retI hx hlk hret (hb hby d_jdk_43_m_23_32) (by decide) (by decide) ⟨rfl, rfl, rfl⟩
    | succ k ih =>
      intro i  hi 
      refine k_pure (g' := (mkF m 9 #[.val (.ref t), .val (.int c1), .val (.int (0 : Int32)), .val (.int (Int32.ofNat (bs).length)), .val (.int (c1.toInt8.toInt32)), .val (.int (Int32.ofNat i))] [(.int (Int32.ofNat i))])) (fun TT HH tt kk => XS.iload HH hx rfl (hb hby d_jdk_43_m_23_7) rfl kk) ?_
      refine k_pure (g' := (mkF m 10 #[.val (.ref t), .val (.int c1), .val (.int (0 : Int32)), .val (.int (Int32.ofNat (bs).length)), .val (.int (c1.toInt8.toInt32)), .val (.int (Int32.ofNat i))] [(.int (Int32.ofNat (bs).length)), (.int (Int32.ofNat i))])) (fun TT HH tt kk => XS.iloadN HH hx rfl (hb hby d_jdk_43_m_23_9) rfl kk) ?_
      refine k_pure (g' := (mkF m 13 #[.val (.ref t), .val (.int c1), .val (.int (0 : Int32)), .val (.int (Int32.ofNat (bs).length)), .val (.int (c1.toInt8.toInt32)), .val (.int (Int32.ofNat i))] [])) (fun TT HH tt kk => XS.icmpNo HH hx rfl (hb hby d_jdk_43_m_23_10) rfl (tlt (lt_nat (by omega) (by omega))).2.1 kk) ?_
      refine k_pure (g' := (mkF m 14 #[.val (.ref t), .val (.int c1), .val (.int (0 : Int32)), .val (.int (Int32.ofNat (bs).length)), .val (.int (c1.toInt8.toInt32)), .val (.int (Int32.ofNat i))] [(.ref t)])) (fun TT HH tt kk => XS.aloadN HH hx rfl (hb hby d_jdk_43_m_23_13) rfl rfl kk) ?_
      refine k_pure (g' := (mkF m 16 #[.val (.ref t), .val (.int c1), .val (.int (0 : Int32)), .val (.int (Int32.ofNat (bs).length)), .val (.int (c1.toInt8.toInt32)), .val (.int (Int32.ofNat i))] [(.int (Int32.ofNat i)), (.ref t)])) (fun TT HH tt kk => XS.iload HH hx rfl (hb hby d_jdk_43_m_23_14) rfl kk) ?_
      refine k_aget hx (v := (.int (bs.getD i 0))) pf_0 (idx_ok (by omega) (by omega)) (getD_int bs (by omega)) (Or.inr (Or.inr (Or.inr (Or.inl ⟨rfl, rfl⟩)))) rfl rfl (hb hby d_jdk_43_m_23_16) ?_
      show Run p l e _ s m _ below meth c Z EL1 _ n0 NoB h0 0 0 (mkF m 17 #[.val (.ref t), .val (.int c1), .val (.int (0 : Int32)), .val (.int (Int32.ofNat (bs).length)), .val (.int (c1.toInt8.toInt32)), .val (.int (Int32.ofNat i))] [(.int (bs.getD i 0))]) _
      refine k_pure (g' := (mkF m 19 #[.val (.ref t), .val (.int c1), .val (.int (0 : Int32)), .val (.int (Int32.ofNat (bs).length)), .val (.int (c1.toInt8.toInt32)), .val (.int (Int32.ofNat i))] [(.int (c1.toInt8.toInt32)), (.int (bs.getD i 0))])) (fun TT HH tt kk => XS.iload HH hx rfl (hb hby d_jdk_43_m_23_17) rfl kk) ?_
      refine k_pure (g' := (mkF m 25 #[.val (.ref t), .val (.int c1), .val (.int (0 : Int32)), .val (.int (Int32.ofNat (bs).length)), .val (.int (c1.toInt8.toInt32)), .val (.int (Int32.ofNat i))] [])) (fun TT HH tt kk => XS.icmpYes HH hx rfl (pc0 := 19) (pc' := 25) rfl (hb hby d_jdk_43_m_23_19) rfl (feq (hn _ (getD_mem bs i (by omega)))).2 (by decide) (by decide) kk) ?_
      refine k_pure (g' := (mkF m 28 #[.val (.ref t), .val (.int c1), .val (.int (0 : Int32)), .val (.int (Int32.ofNat (bs).length)), .val (.int (c1.toInt8.toInt32)), .val (.int ((Int32.ofNat i) + (1 : Int32)))] [])) (fun TT HH tt kk => XS.iinc HH hx rfl (hb hby d_jdk_43_m_23_25) rfl (l' := #[.val (.ref t), .val (.int c1), .val (.int (0 : Int32)), .val (.int (Int32.ofNat (bs).length)), .val (.int (c1.toInt8.toInt32)), .val (.int ((Int32.ofNat i) + (1 : Int32)))]) rfl kk) ?_
      refine k_pure (g' := (mkF m 7 #[.val (.ref t), .val (.int c1), .val (.int (0 : Int32)), .val (.int (Int32.ofNat (bs).length)), .val (.int (c1.toInt8.toInt32)), .val (.int ((Int32.ofNat i) + (1 : Int32)))] [])) (fun TT HH tt kk => XS.goto HH hx rfl (pc0 := 28) (pc' := 7) rfl (hb hby d_jdk_43_m_23_28) (by decide) (by decide) kk) ?_
      rw [← inc_ofNat]
      exact ih (i + 1) (by omega)
  exact loop _ 0 (Nat.zero_add _)
def Q_lio (Z : State) (t : Addr) (kb : ClassId) (bs : List Int32) (c1 : Int32) (h0 : Heap) (n0 : Nat) (bk : Addr → Prop) (v : Option Value) (h : Heap) (bk' : Addr → Prop) : Prop := v = some (.int ((-1) : Int32)) ∧ h0 = h ∧ NoB = bk'
theorem d_jdk_43_m_22_0 : decode jdk_43_method_22_code 0 = .ok (.iload_n 1, 1) := by decide +kernel
theorem d_jdk_43_m_22_1 : decode jdk_43_method_22_code 1 = .ok (.invokestatic 88, 3) := by decide +kernel
theorem pd__28_I_29_Z : parseMethodDescriptor "(I)Z" = some ⟨[.int], some .boolean⟩ := by decide +kernel
theorem d_jdk_43_m_22_4 : decode jdk_43_method_22_code 4 = .ok (.ifCond .ne 5, 3) := by decide +kernel
theorem d_jdk_43_m_22_9 : decode jdk_43_method_22_code 9 = .ok (.iload_n 2, 1) := by decide +kernel
theorem d_jdk_43_m_22_10 : decode jdk_43_method_22_code 10 = .ok (.iconst 0, 1) := by decide +kernel
theorem d_jdk_43_m_22_11 : decode jdk_43_method_22_code 11 = .ok (.invokestatic 92, 3) := by decide +kernel
theorem pd__28_II_29_I : parseMethodDescriptor "(II)I" = some ⟨[.int, .int], some .int⟩ := by decide +kernel
theorem d_jdk_43_m_22_14 : decode jdk_43_method_22_code 14 = .ok (.istore_n 2, 1) := by decide +kernel
theorem d_jdk_43_m_22_15 : decode jdk_43_method_22_code 15 = .ok (.iload_n 3, 1) := by decide +kernel
theorem d_jdk_43_m_22_16 : decode jdk_43_method_22_code 16 = .ok (.aload_n 0, 1) := by decide +kernel
theorem d_jdk_43_m_22_17 : decode jdk_43_method_22_code 17 = .ok (.arraylength, 1) := by decide +kernel
theorem d_jdk_43_m_22_18 : decode jdk_43_method_22_code 18 = .ok (.invokestatic 38, 3) := by decide +kernel
theorem d_jdk_43_m_22_21 : decode jdk_43_method_22_code 21 = .ok (.istore_n 3, 1) := by decide +kernel
theorem d_jdk_43_m_22_22 : decode jdk_43_method_22_code 22 = .ok (.iload_n 2, 1) := by decide +kernel
theorem d_jdk_43_m_22_23 : decode jdk_43_method_22_code 23 = .ok (.iload_n 3, 1) := by decide +kernel
theorem d_jdk_43_m_22_24 : decode jdk_43_method_22_code 24 = .ok (.if_icmp .lt 5, 3) := by decide +kernel
theorem d_jdk_43_m_22_29 : decode jdk_43_method_22_code 29 = .ok (.aload_n 0, 1) := by decide +kernel
theorem d_jdk_43_m_22_30 : decode jdk_43_method_22_code 30 = .ok (.iload_n 1, 1) := by decide +kernel
theorem d_jdk_43_m_22_31 : decode jdk_43_method_22_code 31 = .ok (.iload_n 2, 1) := by decide +kernel
theorem d_jdk_43_m_22_32 : decode jdk_43_method_22_code 32 = .ok (.iload_n 3, 1) := by decide +kernel
theorem d_jdk_43_m_22_33 : decode jdk_43_method_22_code 33 = .ok (.invokestatic 95, 3) := by decide +kernel
theorem pd__28__5b_BIII_29_I : parseMethodDescriptor "([BIII)I" = some ⟨[(.array .byte), .int, .int, .int], some .int⟩ := by decide +kernel
theorem d_jdk_43_m_22_36 : decode jdk_43_method_22_code 36 = .ok (.ireturn, 1) := by decide +kernel
abbrev RM_lio : Room := { frames := 1, cells := 0, slots := 0, locals := 17 }
theorem ef_lio (m : MethodId) (x0 : Addr) (x1 : Int32) (x2 : Int32) (x3 : Int32) : entryFrame m #[(.ref x0), (.int x1), (.int x2), (.int x3)] 4 = mkF m 0 #[.val (.ref x0), .val (.int x1), .val (.int x2), .val (.int x3)] [] := by first | (simp [entryFrame, mkF, argsToLocals, Value.category]; done) | rfl
set_option maxRecDepth 65536 in
set_option maxHeartbeats 40000000 in
theorem rm_lio (l : Launch) (Z : State) (a0 : Array Value) (G1 : Int32) (G3 : Value) (hX : Ctx Z a0 G1 G3) (n0 : Nat) (h0 : Heap) (O0 : Old Z n0 h0) (t : Addr) (kb : ClassId) (bs : List Int32) (c1 : Int32) (pf_0 : Arv Z h0 t kb .byte (Int32.ofNat (bs).length) ((bs).map Value.int) (.int 0)) (hn : ∀ b ∈ bs, ¬ b = c1.toInt8.toInt32) (l2 : bs.length ≤ 4000) (l1 : 0 < bs.length) (h1 : ¬ c1 < (0 : Int32)) (h2 : ¬ (255 : Int32) < c1) (ws : List Jvm.Cond) : Met l Z EL1 n0 NoB (⟨"java/lang/StringLatin1", "indexOf", "([BIII)I"⟩ : MethodName) jdk_43_method_22_code 4 (Option.some FieldType.int) RM_lio #[(.ref t), (.int c1), (.int (0 : Int32)), (.int (Int32.ofNat (bs).length))] h0 (Q_lio Z t kb bs c1 h0 n0 NoB) ws := by
  have hX' := hX
  obtain ⟨hw, hE, S1, P1, S3, P3⟩ := hX'
  have hSA := sa_of hw
  have z0 : n0 ≤ h0.size := by rw [← O0.1]; exact O0.2.1
  refine Met.of (by decide +kernel) O0 hE ?_
  intro p e s m below meth c hx hby hml hret hlk hnm
  refine k_cast (ef_lio m t c1 (0 : Int32) (Int32.ofNat (bs).length)) ?_
  show Run p l e _ s m _ below meth c Z EL1 _ n0 NoB h0 0 0 (mkF m 0 #[.val (.ref t), .val (.int c1), .val (.int (0 : Int32)), .val (.int (Int32.ofNat (bs).length))] []) _
  have lt_1 : @LT.lt Nat _ t (Array.size h0) := pf_0.lt
  refine k_pure (g' := (mkF m 1 #[.val (.ref t), .val (.int c1), .val (.int (0 : Int32)), .val (.int (Int32.ofNat (bs).length))] [(.int c1)])) (fun TT HH tt kk => XS.iloadN HH hx rfl (hb hby d_jdk_43_m_22_0) rfl kk) ?_
  refine k_callS hx (y := (⟨"java/lang/StringLatin1", "canEncode", "(I)Z"⟩ : MethodName)) (hw _ (List.mem_of_getElem? (i := 85) rfl)) (hw _ (List.mem_of_getElem? (i := 86) rfl)) (hw _ (List.mem_of_getElem? (i := 83) rfl)) (hw _ (List.mem_of_getElem? (i := 87) rfl)) (by decide) (W := 0) (argsL := [(.int c1)]) (rest := []) (Pays.of_met (rm_cenc l Z a0 G1 G3 hX n0 h0 O0 c1 h1 h2 []) (hw _ (List.mem_of_getElem? (i := 87) rfl)) (hw _ (List.mem_of_getElem? (i := 83) rfl)) (by decide) (by decide)) rfl (by rw [hml]; rfl) (lenOf pd__28_I_29_Z rfl) rfl (by show 2 * 0 + _ ≤ _; exact Nat.le_of_eq rfl) (hb hby d_jdk_43_m_22_1) (by decide) (by decide) ?_
  intro v_2 h_3 bk_4 O_5 z_6 Q_7
  obtain ⟨rfl, rfl, rfl⟩ := Q_7
  show Run p l e _ s m _ below meth c Z EL1 _ n0 NoB h0 0 0 (mkF m 4 #[.val (.ref t), .val (.int c1), .val (.int (0 : Int32)), .val (.int (Int32.ofNat (bs).length))] [(.int (1 : Int32))]) _
  refine k_pure (g' := (mkF m 9 #[.val (.ref t), .val (.int c1), .val (.int (0 : Int32)), .val (.int (Int32.ofNat (bs).length))] [])) (fun TT HH tt kk => XS.ifYes HH hx rfl (pc0 := 4) (pc' := 9) rfl (hb hby d_jdk_43_m_22_4) rfl ((if0 _ _).trans (feq (by decide : ¬ ((1 : Int32) = (0 : Int32)))).2) (by decide) (by decide) kk) ?_
  refine k_pure (g' := (mkF m 10 #[.val (.ref t), .val (.int c1), .val (.int (0 : Int32)), .val (.int (Int32.ofNat (bs).length))] [(.int (0 : Int32))])) (fun TT HH tt kk => XS.iloadN HH hx rfl (hb hby d_jdk_43_m_22_9) rfl kk) ?_
  refine k_pure (g' := (mkF m 11 #[.val (.ref t), .val (.int c1), .val (.int (0 : Int32)), .val (.int (Int32.ofNat (bs).length))] [(.int (0 : Int32)), (.int (0 : Int32))])) (fun TT HH tt kk => XS.iconst HH hx rfl (hb hby d_jdk_43_m_22_10) kk) ?_
  refine k_callS hx (y := (⟨"java/lang/Math", "max", "(II)I"⟩ : MethodName)) (hw _ (List.mem_of_getElem? (i := 88) rfl)) (hw _ (List.mem_of_getElem? (i := 89) rfl)) (hw _ (List.mem_of_getElem? (i := 90) rfl)) (hw _ (List.mem_of_getElem? (i := 91) rfl)) (by decide) (W := 0) (argsL := [(.int (0 : Int32)), (.int (0 : Int32))]) (rest := []) (Pays.of_met (rm_max0 l Z a0 G1 G3 hX n0 h0 O0 (0 : Int32) (0 : Int32) (by decide) []) (hw _ (List.mem_of_getElem? (i := 91) rfl)) (hw _ (List.mem_of_getElem? (i := 90) rfl)) (by decide) (by decide)) rfl (by rw [hml]; rfl) (lenOf pd__28_II_29_I rfl) rfl (by show 2 * 0 + _ ≤ _; exact Nat.le_of_eq rfl) (hb hby d_jdk_43_m_22_11) (by decide) (by decide) ?_
  intro v_8 h_9 bk_10 O_11 z_12 Q_13
  obtain ⟨rfl, rfl, rfl⟩ := Q_13
  show Run p l e _ s m _ below meth c Z EL1 _ n0 NoB h0 0 0 (mkF m 14 #[.val (.ref t), .val (.int c1), .val (.int (0 : Int32)), .val (.int (Int32.ofNat (bs).length))] [(.int (0 : Int32))]) _
  refine k_pure (g' := (mkF m 15 #[.val (.ref t), .val (.int c1), .val (.int (0 : Int32)), .val (.int (Int32.ofNat (bs).length))] [])) (fun TT HH tt kk => XS.istoreN HH hx rfl (hb hby d_jdk_43_m_22_14) rfl (l' := #[.val (.ref t), .val (.int c1), .val (.int (0 : Int32)), .val (.int (Int32.ofNat (bs).length))]) rfl kk) ?_
  refine k_pure (g' := (mkF m 16 #[.val (.ref t), .val (.int c1), .val (.int (0 : Int32)), .val (.int (Int32.ofNat (bs).length))] [(.int (Int32.ofNat (bs).length))])) (fun TT HH tt kk => XS.iloadN HH hx rfl (hb hby d_jdk_43_m_22_15) rfl kk) ?_
  refine k_pure (g' := (mkF m 17 #[.val (.ref t), .val (.int c1), .val (.int (0 : Int32)), .val (.int (Int32.ofNat (bs).length))] [(.ref t), (.int (Int32.ofNat (bs).length))])) (fun TT HH tt kk => XS.aloadN HH hx rfl (hb hby d_jdk_43_m_22_16) rfl rfl kk) ?_
  refine k_alen hx pf_0 rfl rfl (hb hby d_jdk_43_m_22_17) ?_
  show Run p l e _ s m _ below meth c Z EL1 _ n0 NoB h0 0 0 (mkF m 18 #[.val (.ref t), .val (.int c1), .val (.int (0 : Int32)), .val (.int (Int32.ofNat (bs).length))] [(.int (Int32.ofNat (bs).length)), (.int (Int32.ofNat (bs).length))]) _
  refine k_callS hx (y := (⟨"java/lang/Math", "min", "(II)I"⟩ : MethodName)) (hw _ (List.mem_of_getElem? (i := 92) rfl)) (hw _ (List.mem_of_getElem? (i := 93) rfl)) (hw _ (List.mem_of_getElem? (i := 90) rfl)) (hw _ (List.mem_of_getElem? (i := 94) rfl)) (by decide) (W := 0) (argsL := [(.int (Int32.ofNat (bs).length)), (.int (Int32.ofNat (bs).length))]) (rest := []) (Pays.of_met (rm_min0 l Z a0 G1 G3 hX n0 h0 O0 (Int32.ofNat (bs).length) (Int32.ofNat (bs).length) Int32.lt_irrefl []) (hw _ (List.mem_of_getElem? (i := 94) rfl)) (hw _ (List.mem_of_getElem? (i := 90) rfl)) (by decide) (by decide)) rfl (by rw [hml]; rfl) (lenOf pd__28_II_29_I rfl) rfl (by show 2 * 0 + _ ≤ _; exact Nat.le_of_eq rfl) (hb hby d_jdk_43_m_22_18) (by decide) (by decide) ?_
  intro v_14 h_15 bk_16 O_17 z_18 Q_19
  obtain ⟨rfl, rfl, rfl⟩ := Q_19
  show Run p l e _ s m _ below meth c Z EL1 _ n0 NoB h0 0 0 (mkF m 21 #[.val (.ref t), .val (.int c1), .val (.int (0 : Int32)), .val (.int (Int32.ofNat (bs).length))] [(.int (Int32.ofNat (bs).length))]) _
  refine k_pure (g' := (mkF m 22 #[.val (.ref t), .val (.int c1), .val (.int (0 : Int32)), .val (.int (Int32.ofNat (bs).length))] [])) (fun TT HH tt kk => XS.istoreN HH hx rfl (hb hby d_jdk_43_m_22_21) rfl (l' := #[.val (.ref t), .val (.int c1), .val (.int (0 : Int32)), .val (.int (Int32.ofNat (bs).length))]) rfl kk) ?_
  refine k_pure (g' := (mkF m 23 #[.val (.ref t), .val (.int c1), .val (.int (0 : Int32)), .val (.int (Int32.ofNat (bs).length))] [(.int (0 : Int32))])) (fun TT HH tt kk => XS.iloadN HH hx rfl (hb hby d_jdk_43_m_22_22) rfl kk) ?_
  refine k_pure (g' := (mkF m 24 #[.val (.ref t), .val (.int c1), .val (.int (0 : Int32)), .val (.int (Int32.ofNat (bs).length))] [(.int (Int32.ofNat (bs).length)), (.int (0 : Int32))])) (fun TT HH tt kk => XS.iloadN HH hx rfl (hb hby d_jdk_43_m_22_23) rfl kk) ?_
  refine k_pure (g' := (mkF m 29 #[.val (.ref t), .val (.int c1), .val (.int (0 : Int32)), .val (.int (Int32.ofNat (bs).length))] [])) (fun TT HH tt kk => XS.icmpYes HH hx rfl (pc0 := 24) (pc' := 29) rfl (hb hby d_jdk_43_m_22_24) rfl (tlt (lt_nat (i := 0) (by omega) (by omega))).1 (by decide) (by decide) kk) ?_
  refine k_pure (g' := (mkF m 30 #[.val (.ref t), .val (.int c1), .val (.int (0 : Int32)), .val (.int (Int32.ofNat (bs).length))] [(.ref t)])) (fun TT HH tt kk => XS.aloadN HH hx rfl (hb hby d_jdk_43_m_22_29) rfl rfl kk) ?_
  refine k_pure (g' := (mkF m 31 #[.val (.ref t), .val (.int c1), .val (.int (0 : Int32)), .val (.int (Int32.ofNat (bs).length))] [(.int c1), (.ref t)])) (fun TT HH tt kk => XS.iloadN HH hx rfl (hb hby d_jdk_43_m_22_30) rfl kk) ?_
  refine k_pure (g' := (mkF m 32 #[.val (.ref t), .val (.int c1), .val (.int (0 : Int32)), .val (.int (Int32.ofNat (bs).length))] [(.int (0 : Int32)), (.int c1), (.ref t)])) (fun TT HH tt kk => XS.iloadN HH hx rfl (hb hby d_jdk_43_m_22_31) rfl kk) ?_
  refine k_pure (g' := (mkF m 33 #[.val (.ref t), .val (.int c1), .val (.int (0 : Int32)), .val (.int (Int32.ofNat (bs).length))] [(.int (Int32.ofNat (bs).length)), (.int (0 : Int32)), (.int c1), (.ref t)])) (fun TT HH tt kk => XS.iloadN HH hx rfl (hb hby d_jdk_43_m_22_32) rfl kk) ?_
  refine k_callS hx (y := (⟨"java/lang/StringLatin1", "indexOfChar", "([BIII)I"⟩ : MethodName)) (hw _ (List.mem_of_getElem? (i := 95) rfl)) (hw _ (List.mem_of_getElem? (i := 96) rfl)) (hw _ (List.mem_of_getElem? (i := 83) rfl)) (hw _ (List.mem_of_getElem? (i := 97) rfl)) (by decide) (W := 0) (argsL := [(.ref t), (.int c1), (.int (0 : Int32)), (.int (Int32.ofNat (bs).length))]) (rest := []) (Pays.of_met (rm_ioc l Z a0 G1 G3 hX n0 h0 O0 t kb bs c1 pf_0 hn l2 []) (hw _ (List.mem_of_getElem? (i := 97) rfl)) (hw _ (List.mem_of_getElem? (i := 83) rfl)) (by decide) (by decide)) rfl (by rw [hml]; rfl) (lenOf pd__28__5b_BIII_29_I rfl) rfl (by show 2 * 0 + _ ≤ _; exact Nat.le_of_eq rfl) (hb hby d_jdk_43_m_22_33) (by decide) (by decide) ?_
  intro v_20 h_21 bk_22 O_23 z_24 Q_25
  obtain ⟨rfl, rfl, rfl⟩ := Q_25
  show Run p l e _ s m _ below meth c Z EL1 _ n0 NoB h0 0 0 (mkF m 36 #[.val (.ref t), .val (.int c1), .val (.int (0 : Int32)), .val (.int (Int32.ofNat (bs).length))] [(.int ((-1) : Int32))]) _
  exact k_retI hx hlk hret (hb hby d_jdk_43_m_22_36) (by decide) (by decide) ⟨rfl, rfl, rfl⟩
def Q_sio2 (Z : State) (a : Addr) (t : Addr) (kb : ClassId) (cs : List Int32) (c1 : Int32) (h0 : Heap) (n0 : Nat) (bk : Addr → Prop) (v : Option Value) (h : Heap) (bk' : Addr → Prop) : Prop := v = some (.int ((-1) : Int32)) ∧ h0 = h ∧ NoB = bk'
theorem d_jdk_42_m_80_0 : decode jdk_42_method_80_code 0 = .ok (.aload_n 0, 1) := by decide +kernel
theorem d_jdk_42_m_80_1 : decode jdk_42_method_80_code 1 = .ok (.invokevirtual 492, 3) := by decide +kernel
theorem pd__28__29_Z : parseMethodDescriptor "()Z" = some ⟨[], some .boolean⟩ := by decide +kernel
theorem d_jdk_42_m_80_4 : decode jdk_42_method_80_code 4 = .ok (.ifCond .eq 19, 3) := by decide +kernel
theorem d_jdk_42_m_80_7 : decode jdk_42_method_80_code 7 = .ok (.aload_n 0, 1) := by decide +kernel
theorem d_jdk_42_m_80_8 : decode jdk_42_method_80_code 8 = .ok (.getfield 9, 3) := by decide +kernel
theorem d_jdk_42_m_80_11 : decode jdk_42_method_80_code 11 = .ok (.iload_n 1, 1) := by decide +kernel
theorem d_jdk_42_m_80_12 : decode jdk_42_method_80_code 12 = .ok (.iload_n 2, 1) := by decide +kernel
theorem d_jdk_42_m_80_13 : decode jdk_42_method_80_code 13 = .ok (.aload_n 0, 1) := by decide +kernel
theorem d_jdk_42_m_80_14 : decode jdk_42_method_80_code 14 = .ok (.invokevirtual 505, 3) := by decide +kernel
theorem pd__28__29_I : parseMethodDescriptor "()I" = some ⟨[], some .int⟩ := by decide +kernel
theorem d_jdk_42_m_80_17 : decode jdk_42_method_80_code 17 = .ok (.invokestatic 637, 3) := by decide +kernel
theorem d_jdk_42_m_80_20 : decode jdk_42_method_80_code 20 = .ok (.goto 16, 3) := by decide +kernel
theorem d_jdk_42_m_80_36 : decode jdk_42_method_80_code 36 = .ok (.ireturn, 1) := by decide +kernel
abbrev RM_sio2 : Room := { frames := 2, cells := 0, slots := 0, locals := 32 }
theorem ef_sio2 (m : MethodId) (x0 : Addr) (x1 : Int32) (x2 : Int32) : entryFrame m #[(.ref x0), (.int x1), (.int x2)] 3 = mkF m 0 #[.val (.ref x0), .val (.int x1), .val (.int x2)] [] := by first | (simp [entryFrame, mkF, argsToLocals, Value.category]; done) | rfl
set_option maxRecDepth 65536 in
set_option maxHeartbeats 40000000 in
theorem rm_sio2 (l : Launch) (Z : State) (a0 : Array Value) (G1 : Int32) (G3 : Value) (hX : Ctx Z a0 G1 G3) (n0 : Nat) (h0 : Heap) (O0 : Old Z n0 h0) (a : Addr) (t : Addr) (kb : ClassId) (cs : List Int32) (c1 : Int32) (pf_0 : StrL Z h0 a t kb cs) (hn : ∀ b ∈ cs.map (fun c => c.toInt8.toInt32), ¬ b = c1.toInt8.toInt32) (l1 : 0 < cs.length) (h1 : ¬ c1 < (0 : Int32)) (h2 : ¬ (255 : Int32) < c1) (ws : List Jvm.Cond) : Met l Z EL1 n0 NoB (⟨"java/lang/String", "indexOf", "(II)I"⟩ : MethodName) jdk_42_method_80_code 3 (Option.some FieldType.int) RM_sio2 #[(.ref a), (.int c1), (.int (0 : Int32))] h0 (Q_sio2 Z a t kb cs c1 h0 n0 NoB) ws := by
  have hX' := hX
  obtain ⟨hw, hE, S1, P1, S3, P3⟩ := hX'
  have hSA := sa_of hw
  have z0 : n0 ≤ h0.size := by rw [← O0.1]; exact O0.2.1
  refine Met.of (by decide +kernel) O0 hE ?_
  intro p e s m below meth c hx hby hml hret hlk hnm
  refine k_cast (ef_sio2 m a c1 (0 : Int32)) ?_
  show Run p l e _ s m _ below meth c Z EL1 _ n0 NoB h0 0 0 (mkF m 0 #[.val (.ref a), .val (.int c1), .val (.int (0 : Int32))] []) _
  have lt_1 : @LT.lt Nat _ a (Array.size h0) := pf_0.lt1
  have lt_2 : @LT.lt Nat _ t (Array.size h0) := pf_0.lt2
  refine k_pure (g' := (mkF m 1 #[.val (.ref a), .val (.int c1), .val (.int (0 : Int32))] [(.ref a)])) (fun TT HH tt kk => XS.aloadN HH hx rfl (hb hby d_jdk_42_m_80_0) rfl rfl kk) ?_
  refine k_callV hx (y := (⟨"java/lang/String", "isLatin1", "()Z"⟩ : MethodName)) (z := (⟨"java/lang/String", "isLatin1", "()Z"⟩ : MethodName)) (hw _ (List.mem_of_getElem? (i := 66) rfl)) (hw _ (List.mem_of_getElem? (i := 67) rfl)) (fun s' hZ => notFace_of_selects (args := #[]) (mv hZ (hw _ (List.mem_of_getElem? (i := 69) rfl)))) (hw _ (List.mem_of_getElem? (i := 69) rfl)) (hw _ (List.mem_of_getElem? (i := 68) rfl)) (by decide) (W := 0) (a := a) (argsL := []) (rest := []) (Pays.of_met (rm_isl l Z a0 G1 G3 hX n0 h0 O0 a t kb cs pf_0 []) (hw _ (List.mem_of_getElem? (i := 70) rfl)) (hw _ (List.mem_of_getElem? (i := 9) rfl)) (by decide) (by decide)) pf_0.1 rfl (by rw [hml]; rfl) (lenOf pd__28__29_Z rfl) rfl (by show 2 * 0 + _ ≤ _; exact Nat.le_of_eq rfl) (hb hby d_jdk_42_m_80_1) (by decide) (by decide) ?_
  intro v_3 h_4 bk_5 O_6 z_7 Q_8
  obtain ⟨rfl, rfl, rfl⟩ := Q_8
  show Run p l e _ s m _ below meth c Z EL1 _ n0 NoB h0 0 0 (mkF m 4 #[.val (.ref a), .val (.int c1), .val (.int (0 : Int32))] [(.int (1 : Int32))]) _
  refine k_pure (g' := (mkF m 7 #[.val (.ref a), .val (.int c1), .val (.int (0 : Int32))] [])) (fun TT HH tt kk => XS.ifNo HH hx rfl (hb hby d_jdk_42_m_80_4) rfl ((if0 _ _).trans (feq (by decide : ¬ ((1 : Int32) = (0 : Int32)))).1) kk) ?_
  refine k_pure (g' := (mkF m 8 #[.val (.ref a), .val (.int c1), .val (.int (0 : Int32))] [(.ref a)])) (fun TT HH tt kk => XS.aloadN HH hx rfl (hb hby d_jdk_42_m_80_7) rfl rfl kk) ?_
  refine k_getF hx (host := "") (Or.inl (hw _ (List.mem_of_getElem? (i := 35) rfl))) Via.refl pf_0.2.2.1 rfl rfl (hb hby d_jdk_42_m_80_8) ?_
  show Run p l e _ s m _ below meth c Z EL1 _ n0 NoB h0 0 0 (mkF m 11 #[.val (.ref a), .val (.int c1), .val (.int (0 : Int32))] [(.ref t)]) _
  refine k_pure (g' := (mkF m 12 #[.val (.ref a), .val (.int c1), .val (.int (0 : Int32))] [(.int c1), (.ref t)])) (fun TT HH tt kk => XS.iloadN HH hx rfl (hb hby d_jdk_42_m_80_11) rfl kk) ?_
  refine k_pure (g' := (mkF m 13 #[.val (.ref a), .val (.int c1), .val (.int (0 : Int32))] [(.int (0 : Int32)), (.int c1), (.ref t)])) (fun TT HH tt kk => XS.iloadN HH hx rfl (hb hby d_jdk_42_m_80_12) rfl kk) ?_
  refine k_pure (g' := (mkF m 14 #[.val (.ref a), .val (.int c1), .val (.int (0 : Int32))] [(.ref a), (.int (0 : Int32)), (.int c1), (.ref t)])) (fun TT HH tt kk => XS.aloadN HH hx rfl (hb hby d_jdk_42_m_80_13) rfl rfl kk) ?_
  refine k_callV hx (y := (⟨"java/lang/String", "length", "()I"⟩ : MethodName)) (z := (⟨"java/lang/String", "length", "()I"⟩ : MethodName)) (hw _ (List.mem_of_getElem? (i := 71) rfl)) (hw _ (List.mem_of_getElem? (i := 72) rfl)) (fun s' hZ => notFace_of_selects (args := #[]) (mv hZ (hw _ (List.mem_of_getElem? (i := 74) rfl)))) (hw _ (List.mem_of_getElem? (i := 74) rfl)) (hw _ (List.mem_of_getElem? (i := 73) rfl)) (by decide) (W := 3) (a := a) (argsL := []) (rest := [(.int (0 : Int32)), (.int c1), (.ref t)]) (pay_len (W := 3) hX O0 pf_0 (by decide) (by decide)) pf_0.1 rfl (by rw [hml]; rfl) (lenOf pd__28__29_I rfl) rfl (by show 2 * 0 + _ ≤ _; exact Nat.le_of_eq rfl) (hb hby d_jdk_42_m_80_14) (by decide) (by decide) ?_
  intro v_9 h_10 bk_11 O_12 z_13 Q_14
  obtain ⟨rfl, rfl, rfl⟩ := Q_14
  show Run p l e _ s m _ below meth c Z EL1 _ n0 NoB h0 0 0 (mkF m 17 #[.val (.ref a), .val (.int c1), .val (.int (0 : Int32))] [(.int (Int32.ofNat (cs).length)), (.int (0 : Int32)), (.int c1), (.ref t)]) _
  have V_15 : Arv Z h0 t kb .byte (Int32.ofNat (cs.map (fun c => c.toInt8.toInt32)).length) ((cs.map (fun c => c.toInt8.toInt32)).map Value.int) (.int 0) := by rw [List.length_map]; exact pf_0.2.2.2.1
  rw [← List.length_map (as := cs) (f := fun c => c.toInt8.toInt32)]
  show Run p l e _ s m _ below meth c Z EL1 _ n0 NoB h0 0 0 (mkF m 17 #[.val (.ref a), .val (.int c1), .val (.int (0 : Int32))] [(.int (Int32.ofNat (cs.map (fun c => c.toInt8.toInt32)).length)), (.int (0 : Int32)), (.int c1), (.ref t)]) _
  refine k_callS hx (y := (⟨"java/lang/StringLatin1", "indexOf", "([BIII)I"⟩ : MethodName)) (hw _ (List.mem_of_getElem? (i := 81) rfl)) (hw _ (List.mem_of_getElem? (i := 82) rfl)) (hw _ (List.mem_of_getElem? (i := 83) rfl)) (hw _ (List.mem_of_getElem? (i := 84) rfl)) (by decide) (W := 0) (argsL := [(.ref t), (.int c1), (.int (0 : Int32)), (.int (Int32.ofNat (cs.map (fun c => c.toInt8.toInt32)).length))]) (rest := []) (Pays.of_met (rm_lio l Z a0 G1 G3 hX n0 h0 O0 t kb (cs.map (fun c => c.toInt8.toInt32)) c1 V_15 hn (by rw [List.length_map]; exact pf_0.2.2.2.2.2) (by rw [List.length_map]; exact l1) h1 h2 []) (hw _ (List.mem_of_getElem? (i := 84) rfl)) (hw _ (List.mem_of_getElem? (i := 83) rfl)) (by decide) (by decide)) rfl (by rw [hml]; rfl) (lenOf pd__28__5b_BIII_29_I rfl) rfl (by show 2 * 0 + _ ≤ _; exact Nat.le_of_eq rfl) (hb hby d_jdk_42_m_80_17) (by decide) (by decide) ?_
  intro v_16 h_17 bk_18 O_19 z_20 Q_21
  obtain ⟨rfl, rfl, rfl⟩ := Q_21
  show Run p l e _ s m _ below meth c Z EL1 _ n0 NoB h0 0 0 (mkF m 20 #[.val (.ref a), .val (.int c1), .val (.int (0 : Int32))] [(.int ((-1) : Int32))]) _
  refine k_pure (g' := (mkF m 36 #[.val (.ref a), .val (.int c1), .val (.int (0 : Int32))] [(.int ((-1) : Int32))])) (fun TT HH tt kk => XS.goto HH hx rfl (pc0 := 20) (pc' := 36) rfl (hb hby d_jdk_42_m_80_20) (by decide) (by decide) kk) ?_
  exact k_retI hx hlk hret (hb hby d_jdk_42_m_80_36) (by decide) (by decide) ⟨rfl, rfl, rfl⟩
def Q_sio1 (Z : State) (a : Addr) (t : Addr) (kb : ClassId) (cs : List Int32) (c1 : Int32) (h0 : Heap) (n0 : Nat) (bk : Addr → Prop) (v : Option Value) (h : Heap) (bk' : Addr → Prop) : Prop := v = some (.int ((-1) : Int32)) ∧ h0 = h ∧ NoB = bk'
theorem d_jdk_42_m_79_0 : decode jdk_42_method_79_code 0 = .ok (.aload_n 0, 1) := by decide +kernel
theorem d_jdk_42_m_79_1 : decode jdk_42_method_79_code 1 = .ok (.iload_n 1, 1) := by decide +kernel
theorem d_jdk_42_m_79_2 : decode jdk_42_method_79_code 2 = .ok (.iconst 0, 1) := by decide +kernel
theorem d_jdk_42_m_79_3 : decode jdk_42_method_79_code 3 = .ok (.invokevirtual 633, 3) := by decide +kernel
theorem d_jdk_42_m_79_6 : decode jdk_42_method_79_code 6 = .ok (.ireturn, 1) := by decide +kernel
abbrev RM_sio1 : Room := { frames := 3, cells := 0, slots := 0, locals := 46 }
theorem ef_sio1 (m : MethodId) (x0 : Addr) (x1 : Int32) : entryFrame m #[(.ref x0), (.int x1)] 2 = mkF m 0 #[.val (.ref x0), .val (.int x1)] [] := by first | (simp [entryFrame, mkF, argsToLocals, Value.category]; done) | rfl
set_option maxRecDepth 65536 in
set_option maxHeartbeats 40000000 in
theorem rm_sio1 (l : Launch) (Z : State) (a0 : Array Value) (G1 : Int32) (G3 : Value) (hX : Ctx Z a0 G1 G3) (n0 : Nat) (h0 : Heap) (O0 : Old Z n0 h0) (a : Addr) (t : Addr) (kb : ClassId) (cs : List Int32) (c1 : Int32) (pf_0 : StrL Z h0 a t kb cs) (hn : ∀ b ∈ cs.map (fun c => c.toInt8.toInt32), ¬ b = c1.toInt8.toInt32) (l1 : 0 < cs.length) (h1 : ¬ c1 < (0 : Int32)) (h2 : ¬ (255 : Int32) < c1) (ws : List Jvm.Cond) : Met l Z EL1 n0 NoB (⟨"java/lang/String", "indexOf", "(I)I"⟩ : MethodName) jdk_42_method_79_code 2 (Option.some FieldType.int) RM_sio1 #[(.ref a), (.int c1)] h0 (Q_sio1 Z a t kb cs c1 h0 n0 NoB) ws := by
  have hX' := hX
  obtain ⟨hw, hE, S1, P1, S3, P3⟩ := hX'
  have hSA := sa_of hw
  have z0 : n0 ≤ h0.size := by rw [← O0.1]; exact O0.2.1
  refine Met.of (by decide +kernel) O0 hE ?_
  intro p e s m below meth c hx hby hml hret hlk hnm
  refine k_cast (ef_sio1 m a c1) ?_
  show Run p l e _ s m _ below meth c Z EL1 _ n0 NoB h0 0 0 (mkF m 0 #[.val (.ref a), .val (.int c1)] []) _
  have lt_1 : @LT.lt Nat _ a (Array.size h0) := pf_0.lt1
  have lt_2 : @LT.lt Nat _ t (Array.size h0) := pf_0.lt2
  refine k_pure (g' := (mkF m 1 #[.val (.ref a), .val (.int c1)] [(.ref a)])) (fun TT HH tt kk => XS.aloadN HH hx rfl (hb hby d_jdk_42_m_79_0) rfl rfl kk) ?_
  refine k_pure (g' := (mkF m 2 #[.val (.ref a), .val (.int c1)] [(.int c1), (.ref a)])) (fun TT HH tt kk => XS.iloadN HH hx rfl (hb hby d_jdk_42_m_79_1) rfl kk) ?_
  refine k_pure (g' := (mkF m 3 #[.val (.ref a), .val (.int c1)] [(.int (0 : Int32)), (.int c1), (.ref a)])) (fun TT HH tt kk => XS.iconst HH hx rfl (hb hby d_jdk_42_m_79_2) kk) ?_
  refine k_callV hx (y := (⟨"java/lang/String", "indexOf", "(II)I"⟩ : MethodName)) (z := (⟨"java/lang/String", "indexOf", "(II)I"⟩ : MethodName)) (hw _ (List.mem_of_getElem? (i := 61) rfl)) (hw _ (List.mem_of_getElem? (i := 62) rfl)) (fun s' hZ => notFace_of_selects (args := #[]) (mv hZ (hw _ (List.mem_of_getElem? (i := 64) rfl)))) (hw _ (List.mem_of_getElem? (i := 64) rfl)) (hw _ (List.mem_of_getElem? (i := 63) rfl)) (by decide) (W := 0) (a := a) (argsL := [(.int c1), (.int (0 : Int32))]) (rest := []) (Pays.of_met (rm_sio2 l Z a0 G1 G3 hX n0 h0 O0 a t kb cs c1 pf_0 hn l1 h1 h2 []) (hw _ (List.mem_of_getElem? (i := 65) rfl)) (hw _ (List.mem_of_getElem? (i := 9) rfl)) (by decide) (by decide)) pf_0.1 rfl (by rw [hml]; rfl) (lenOf pd__28_II_29_I rfl) rfl (by show 2 * 0 + _ ≤ _; exact Nat.le_of_eq rfl) (hb hby d_jdk_42_m_79_3) (by decide) (by decide) ?_
  intro v_3 h_4 bk_5 O_6 z_7 Q_8
  obtain ⟨rfl, rfl, rfl⟩ := Q_8
  show Run p l e _ s m _ below meth c Z EL1 _ n0 NoB h0 0 0 (mkF m 6 #[.val (.ref a), .val (.int c1)] [(.int ((-1) : Int32))]) _
  exact k_retI hx hlk hret (hb hby d_jdk_42_m_79_6) (by decide) (by decide) ⟨rfl, rfl, rfl⟩
def Q_mis (Z : State) (t : Addr) (kb : ClassId) (us : List Int32) (t2 : Addr) (kb2 : ClassId) (bs : List Int32) (h0 : Heap) (n0 : Nat) (bk : Addr → Prop) (v : Option Value) (h : Heap) (bk' : Addr → Prop) : Prop := ∃ (r : Int32), v = some (.int r) ∧ h0 = h ∧ NoB = bk' ∧ (r < 0 ↔ us.take bs.length = bs)
theorem d_jdk_48_m_14_0 : decode jdk_48_method_14_code 0 = .ok (.iconst 0, 1) := by decide +kernel
theorem d_jdk_48_m_14_1 : decode jdk_48_method_14_code 1 = .ok (.istore 5, 2) := by decide +kernel
theorem d_jdk_48_m_14_3 : decode jdk_48_method_14_code 3 = .ok (.iload 4, 2) := by decide +kernel
theorem d_jdk_48_m_14_5 : decode jdk_48_method_14_code 5 = .ok (.bipush 7, 2) := by decide +kernel
theorem d_jdk_48_m_14_7 : decode jdk_48_method_14_code 7 = .ok (.if_icmp .le 63, 3) := by decide +kernel
theorem d_jdk_48_m_14_70 : decode jdk_48_method_14_code 70 = .ok (.iload 5, 2) := by decide +kernel
theorem d_jdk_48_m_14_72 : decode jdk_48_method_14_code 72 = .ok (.iload 4, 2) := by decide +kernel
theorem d_jdk_48_m_14_74 : decode jdk_48_method_14_code 74 = .ok (.if_icmp .ge 27, 3) := by decide +kernel
theorem d_jdk_48_m_14_101 : decode jdk_48_method_14_code 101 = .ok (.iconst (-1), 1) := by decide +kernel
theorem d_jdk_48_m_14_102 : decode jdk_48_method_14_code 102 = .ok (.ireturn, 1) := by decide +kernel
theorem d_jdk_48_m_14_77 : decode jdk_48_method_14_code 77 = .ok (.aload_n 0, 1) := by decide +kernel
theorem d_jdk_48_m_14_78 : decode jdk_48_method_14_code 78 = .ok (.iload_n 1, 1) := by decide +kernel
theorem d_jdk_48_m_14_79 : decode jdk_48_method_14_code 79 = .ok (.iload 5, 2) := by decide +kernel
theorem d_jdk_48_m_14_81 : decode jdk_48_method_14_code 81 = .ok (.iadd, 1) := by decide +kernel
theorem d_jdk_48_m_14_82 : decode jdk_48_method_14_code 82 = .ok (.baload, 1) := by decide +kernel
theorem d_jdk_48_m_14_83 : decode jdk_48_method_14_code 83 = .ok (.aload_n 2, 1) := by decide +kernel
theorem d_jdk_48_m_14_84 : decode jdk_48_method_14_code 84 = .ok (.iload_n 3, 1) := by decide +kernel
theorem d_jdk_48_m_14_85 : decode jdk_48_method_14_code 85 = .ok (.iload 5, 2) := by decide +kernel
theorem d_jdk_48_m_14_87 : decode jdk_48_method_14_code 87 = .ok (.iadd, 1) := by decide +kernel
theorem d_jdk_48_m_14_88 : decode jdk_48_method_14_code 88 = .ok (.baload, 1) := by decide +kernel
theorem d_jdk_48_m_14_89 : decode jdk_48_method_14_code 89 = .ok (.if_icmp .eq 6, 3) := by decide +kernel
theorem d_jdk_48_m_14_95 : decode jdk_48_method_14_code 95 = .ok (.iinc 5 1, 3) := by decide +kernel
theorem d_jdk_48_m_14_98 : decode jdk_48_method_14_code 98 = .ok (.goto (-28), 3) := by decide +kernel
theorem d_jdk_48_m_14_92 : decode jdk_48_method_14_code 92 = .ok (.iload 5, 2) := by decide +kernel
theorem d_jdk_48_m_14_94 : decode jdk_48_method_14_code 94 = .ok (.ireturn, 1) := by decide +kernel
abbrev RM_mis : Room := { frames := 0, cells := 0, slots := 0, locals := 0 }
theorem ef_mis (m : MethodId) (x0 : Addr) (x1 : Int32) (x2 : Addr) (x3 : Int32) (x4 : Int32) : entryFrame m #[(.ref x0), (.int x1), (.ref x2), (.int x3), (.int x4)] 8 = mkF m 0 #[.val (.ref x0), .val (.int x1), .val (.ref x2), .val (.int x3), .val (.int x4), .unset, .unset, .unset] [] := by first | (simp [entryFrame, mkF, argsToLocals, Value.category]; done) | rfl
set_option maxRecDepth 65536 in
set_option maxHeartbeats 40000000 in
theorem rm_mis (l : Launch) (Z : State) (a0 : Array Value) (G1 : Int32) (G3 : Value) (hX : Ctx Z a0 G1 G3) (n0 : Nat) (h0 : Heap) (O0 : Old Z n0 h0) (t : Addr) (kb : ClassId) (us : List Int32) (t2 : Addr) (kb2 : ClassId) (bs : List Int32) (pf_0 : Arv Z h0 t kb .byte (Int32.ofNat (us).length) ((us).map Value.int) (.int 0)) (pf_1 : Arv Z h0 t2 kb2 .byte (Int32.ofNat (bs).length) ((bs).map Value.int) (.int 0)) (l2 : bs.length ≤ 7) (l1 : bs.length ≤ us.length) (l3 : us.length ≤ 4000) (ws : List Jvm.Cond) : Met l Z EL1 n0 NoB (⟨"jdk/internal/util/ArraysSupport", "mismatch", "([BI[BII)I"⟩ : MethodName) jdk_48_method_14_code 8 (Option.some FieldType.int) RM_mis #[(.ref t), (.int (0 : Int32)), (.ref t2), (.int (0 : Int32)), (.int (Int32.ofNat (bs).length))] h0 (Q_mis Z t kb us t2 kb2 bs h0 n0 NoB) ws := by
  have hX' := hX
  obtain ⟨hw, hE, S1, P1, S3, P3⟩ := hX'
  have hSA := sa_of hw
  have z0 : n0 ≤ h0.size := by rw [← O0.1]; exact O0.2.1
  refine Met.of (by decide +kernel) O0 hE ?_
  intro p e s m below meth c hx hby hml hret hlk hnm
  refine k_cast (ef_mis m t (0 : Int32) t2 (0 : Int32) (Int32.ofNat (bs).length)) ?_
  show Run p l e _ s m _ below meth c Z EL1 _ n0 NoB h0 0 0 (mkF m 0 #[.val (.ref t), .val (.int (0 : Int32)), .val (.ref t2), .val (.int (0 : Int32)), .val (.int (Int32.ofNat (bs).length)), .unset, .unset, .unset] []) _
  have lt_1 : @LT.lt Nat _ t (Array.size h0) := pf_0.lt
  have lt_2 : @LT.lt Nat _ t2 (Array.size h0) := pf_1.lt
  refine k_pure (g' := (mkF m 1 #[.val (.ref t), .val (.int (0 : Int32)), .val (.ref t2), .val (.int (0 : Int32)), .val (.int (Int32.ofNat (bs).length)), .unset, .unset, .unset] [(.int (0 : Int32))])) (fun TT HH tt kk => XS.iconst HH hx rfl (hb hby d_jdk_48_m_14_0) kk) ?_
  refine k_pure (g' := (mkF m 3 #[.val (.ref t), .val (.int (0 : Int32)), .val (.ref t2), .val (.int (0 : Int32)), .val (.int (Int32.ofNat (bs).length)), .val (.int (0 : Int32)), .unset, .unset] [])) (fun TT HH tt kk => XS.istore HH hx rfl (hb hby d_jdk_48_m_14_1) rfl (l' := #[.val (.ref t), .val (.int (0 : Int32)), .val (.ref t2), .val (.int (0 : Int32)), .val (.int (Int32.ofNat (bs).length)), .val (.int (0 : Int32)), .unset, .unset]) rfl kk) ?_
  refine k_pure (g' := (mkF m 5 #[.val (.ref t), .val (.int (0 : Int32)), .val (.ref t2), .val (.int (0 : Int32)), .val (.int (Int32.ofNat (bs).length)), .val (.int (0 : Int32)), .unset, .unset] [(.int (Int32.ofNat (bs).length))])) (fun TT HH tt kk => XS.iload HH hx rfl (hb hby d_jdk_48_m_14_3) rfl kk) ?_
  refine k_pure (g' := (mkF m 7 #[.val (.ref t), .val (.int (0 : Int32)), .val (.ref t2), .val (.int (0 : Int32)), .val (.int (Int32.ofNat (bs).length)), .val (.int (0 : Int32)), .unset, .unset] [(.int (7 : Int32)), (.int (Int32.ofNat (bs).length))])) (fun TT HH tt kk => XS.bipush HH hx rfl (hb hby d_jdk_48_m_14_5) kk) ?_
  refine k_pure (g' := (mkF m 70 #[.val (.ref t), .val (.int (0 : Int32)), .val (.ref t2), .val (.int (0 : Int32)), .val (.int (Int32.ofNat (bs).length)), .val (.int (0 : Int32)), .unset, .unset] [])) (fun TT HH tt kk => XS.icmpYes HH hx rfl (pc0 := 7) (pc' := 70) rfl (hb hby d_jdk_48_m_14_7) rfl (flt (not_lt_nat (i := 7) (by omega) (by omega))).2.2.2 (by decide) (by decide) kk) ?_
  have loop : ∀ (k i : Nat) , i + k = bs.length → us.take i = bs.take i → Run p l e RM_mis s m #[(.ref t), (.int (0 : Int32)), (.ref t2), (.int (0 : Int32)), (.int (Int32.ofNat (bs).length))] below meth c Z EL1 "jdk/internal/util/ArraysSupport" n0 NoB h0 0 0 (mkF m 70 #[.val (.ref t), .val (.int (0 : Int32)), .val (.ref t2), .val (.int (0 : Int32)), .val (.int (Int32.ofNat (bs).length)), .val (.int (Int32.ofNat i)), .unset, .unset] []) (Q_mis Z t kb us t2 kb2 bs h0 n0 NoB) := by
    intro k
    induction k with
    | zero =>
      intro i  hi ht
      refine k_pure (g' := (mkF m 72 #[.val (.ref t), .val (.int (0 : Int32)), .val (.ref t2), .val (.int (0 : Int32)), .val (.int (Int32.ofNat (bs).length)), .val (.int (Int32.ofNat i)), .unset, .unset] [(.int (Int32.ofNat i))])) (fun TT HH tt kk => XS.iload HH hx rfl (hb hby d_jdk_48_m_14_70) rfl kk) ?_
      refine k_pure (g' := (mkF m 74 #[.val (.ref t), .val (.int (0 : Int32)), .val (.ref t2), .val (.int (0 : Int32)), .val (.int (Int32.ofNat (bs).length)), .val (.int (Int32.ofNat i)), .unset, .unset] [(.int (Int32.ofNat (bs).length)), (.int (Int32.ofNat i))])) (fun TT HH tt kk => XS.iload HH hx rfl (hb hby d_jdk_48_m_14_72) rfl kk) ?_
      refine k_pure (g' := (mkF m 101 #[.val (.ref t), .val (.int (0 : Int32)), .val (.ref t2), .val (.int (0 : Int32)), .val (.int (Int32.ofNat (bs).length)), .val (.int (Int32.ofNat i)), .unset, .unset] [])) (fun TT HH tt kk => XS.icmpYes HH hx rfl (pc0 := 74) (pc' := 101) rfl (hb hby d_jdk_48_m_14_74) rfl (flt (not_lt_nat (by omega) (by omega))).2.1 (by decide) (by decide) kk) ?_
      refine k_pure (g' := (mkF m 102 #[.val (.ref t), .val (.int (0 : Int32)), .val (.ref t2), .val (.int (0 : Int32)), .val (.int (Int32.ofNat (bs).length)), .val (.int (Int32.ofNat i)), .unset, .unset] [(.int ((-1) : Int32))])) (fun TT HH tt kk => XS.iconst HH hx rfl (hb hby d_jdk_48_m_14_101) kk) ?_
      exact k_retI hx hlk hret (hb hby d_jdk_48_m_14_102) (by decide) (by decide) ⟨_, rfl, rfl, rfl, iff_of_true (by decide) (by have e : i = bs.length := (by omega); subst e; rw [ht, List.take_length])⟩
    | succ k ih =>
      intro i  hi ht
      refine k_pure (g' := (mkF m 72 #[.val (.ref t), .val (.int (0 : Int32)), .val (.ref t2), .val (.int (0 : Int32)), .val (.int (Int32.ofNat (bs).length)), .val (.int (Int32.ofNat i)), .unset, .unset] [(.int (Int32.ofNat i))])) (fun TT HH tt kk => XS.iload HH hx rfl (hb hby d_jdk_48_m_14_70) rfl kk) ?_
      refine k_pure (g' := (mkF m 74 #[.val (.ref t), .val (.int (0 : Int32)), .val (.ref t2), .val (.int (0 : Int32)), .val (.int (Int32.ofNat (bs).length)), .val (.int (Int32.ofNat i)), .unset, .unset] [(.int (Int32.ofNat (bs).length)), (.int (Int32.ofNat i))])) (fun TT HH tt kk => XS.iload HH hx rfl (hb hby d_jdk_48_m_14_72) rfl kk) ?_
      refine k_pure (g' := (mkF m 77 #[.val (.ref t), .val (.int (0 : Int32)), .val (.ref t2), .val (.int (0 : Int32)), .val (.int (Int32.ofNat (bs).length)), .val (.int (Int32.ofNat i)), .unset, .unset] [])) (fun TT HH tt kk => XS.icmpNo HH hx rfl (hb hby d_jdk_48_m_14_74) rfl (tlt (lt_nat (by omega) (by omega))).2.1 kk) ?_
      refine k_pure (g' := (mkF m 78 #[.val (.ref t), .val (.int (0 : Int32)), .val (.ref t2), .val (.int (0 : Int32)), .val (.int (Int32.ofNat (bs).length)), .val (.int (Int32.ofNat i)), .unset, .unset] [(.ref t)])) (fun TT HH tt kk => XS.aloadN HH hx rfl (hb hby d_jdk_48_m_14_77) rfl rfl kk) ?_
      refine k_pure (g' := (mkF m 79 #[.val (.ref t), .val (.int (0 : Int32)), .val (.ref t2), .val (.int (0 : Int32)), .val (.int (Int32.ofNat (bs).length)), .val (.int (Int32.ofNat i)), .unset, .unset] [(.int (0 : Int32)), (.ref t)])) (fun TT HH tt kk => XS.iloadN HH hx rfl (hb hby d_jdk_48_m_14_78) rfl kk) ?_
      refine k_pure (g' := (mkF m 81 #[.val (.ref t), .val (.int (0 : Int32)), .val (.ref t2), .val (.int (0 : Int32)), .val (.int (Int32.ofNat (bs).length)), .val (.int (Int32.ofNat i)), .unset, .unset] [(.int (Int32.ofNat i)), (.int (0 : Int32)), (.ref t)])) (fun TT HH tt kk => XS.iload HH hx rfl (hb hby d_jdk_48_m_14_79) rfl kk) ?_
      refine k_pure (g' := (mkF m 82 #[.val (.ref t), .val (.int (0 : Int32)), .val (.ref t2), .val (.int (0 : Int32)), .val (.int (Int32.ofNat (bs).length)), .val (.int (Int32.ofNat i)), .unset, .unset] [(.int ((0 : Int32) + (Int32.ofNat i))), (.ref t)])) (fun TT HH tt kk => XS.iadd HH hx rfl (hb hby d_jdk_48_m_14_81) rfl kk) ?_
      rw [Int32.zero_add]
      show Run p l e _ s m _ below meth c Z EL1 _ n0 NoB h0 0 0 (mkF m 82 #[.val (.ref t), .val (.int (0 : Int32)), .val (.ref t2), .val (.int (0 : Int32)), .val (.int (Int32.ofNat (bs).length)), .val (.int (Int32.ofNat i)), .unset, .unset] [(.int (Int32.ofNat i)), (.ref t)]) _
      refine k_aget hx (v := (.int (us.getD i 0))) pf_0 (idx_ok (by omega) (by omega)) (getD_int us (by omega)) (Or.inr (Or.inr (Or.inr (Or.inl ⟨rfl, rfl⟩)))) rfl rfl (hb hby d_jdk_48_m_14_82) ?_
      show Run p l e _ s m _ below meth c Z EL1 _ n0 NoB h0 0 0 (mkF m 83 #[.val (.ref t), .val (.int (0 : Int32)), .val (.ref t2), .val (.int (0 : Int32)), .val (.int (Int32.ofNat (bs).length)), .val (.int (Int32.ofNat i)), .unset, .unset] [(.int (us.getD i 0))]) _
      refine k_pure (g' := (mkF m 84 #[.val (.ref t), .val (.int (0 : Int32)), .val (.ref t2), .val (.int (0 : Int32)), .val (.int (Int32.ofNat (bs).length)), .val (.int (Int32.ofNat i)), .unset, .unset] [(.ref t2), (.int (us.getD i 0))])) (fun TT HH tt kk => XS.aloadN HH hx rfl (hb hby d_jdk_48_m_14_83) rfl rfl kk) ?_
      refine k_pure (g' := (mkF m 85 #[.val (.ref t), .val (.int (0 : Int32)), .val (.ref t2), .val (.int (0 : Int32)), .val (.int (Int32.ofNat (bs).length)), .val (.int (Int32.ofNat i)), .unset, .unset] [(.int (0 : Int32)), (.ref t2), (.int (us.getD i 0))])) (fun TT HH tt kk => XS.iloadN HH hx rfl (hb hby d_jdk_48_m_14_84) rfl kk) ?_
      refine k_pure (g' := (mkF m 87 #[.val (.ref t), .val (.int (0 : Int32)), .val (.ref t2), .val (.int (0 : Int32)), .val (.int (Int32.ofNat (bs).length)), .val (.int (Int32.ofNat i)), .unset, .unset] [(.int (Int32.ofNat i)), (.int (0 : Int32)), (.ref t2), (.int (us.getD i 0))])) (fun TT HH tt kk => XS.iload HH hx rfl (hb hby d_jdk_48_m_14_85) rfl kk) ?_
      refine k_pure (g' := (mkF m 88 #[.val (.ref t), .val (.int (0 : Int32)), .val (.ref t2), .val (.int (0 : Int32)), .val (.int (Int32.ofNat (bs).length)), .val (.int (Int32.ofNat i)), .unset, .unset] [(.int ((0 : Int32) + (Int32.ofNat i))), (.ref t2), (.int (us.getD i 0))])) (fun TT HH tt kk => XS.iadd HH hx rfl (hb hby d_jdk_48_m_14_87) rfl kk) ?_
      rw [Int32.zero_add]
      show Run p l e _ s m _ below meth c Z EL1 _ n0 NoB h0 0 0 (mkF m 88 #[.val (.ref t), .val (.int (0 : Int32)), .val (.ref t2), .val (.int (0 : Int32)), .val (.int (Int32.ofNat (bs).length)), .val (.int (Int32.ofNat i)), .unset, .unset] [(.int (Int32.ofNat i)), (.ref t2), (.int (us.getD i 0))]) _
      refine k_aget hx (v := (.int (bs.getD i 0))) pf_1 (idx_ok (by omega) (by omega)) (getD_int bs (by omega)) (Or.inr (Or.inr (Or.inr (Or.inl ⟨rfl, rfl⟩)))) rfl rfl (hb hby d_jdk_48_m_14_88) ?_
      show Run p l e _ s m _ below meth c Z EL1 _ n0 NoB h0 0 0 (mkF m 89 #[.val (.ref t), .val (.int (0 : Int32)), .val (.ref t2), .val (.int (0 : Int32)), .val (.int (Int32.ofNat (bs).length)), .val (.int (Int32.ofNat i)), .unset, .unset] [(.int (bs.getD i 0)), (.int (us.getD i 0))]) _
      by_cases c_3 : (us.getD i 0) = (bs.getD i 0)
      · refine k_pure (g' := (mkF m 95 #[.val (.ref t), .val (.int (0 : Int32)), .val (.ref t2), .val (.int (0 : Int32)), .val (.int (Int32.ofNat (bs).length)), .val (.int (Int32.ofNat i)), .unset, .unset] [])) (fun TT HH tt kk => XS.icmpYes HH hx rfl (pc0 := 89) (pc' := 95) rfl (hb hby d_jdk_48_m_14_89) rfl (teq c_3).1 (by decide) (by decide) kk) ?_
        refine k_pure (g' := (mkF m 98 #[.val (.ref t), .val (.int (0 : Int32)), .val (.ref t2), .val (.int (0 : Int32)), .val (.int (Int32.ofNat (bs).length)), .val (.int ((Int32.ofNat i) + (1 : Int32))), .unset, .unset] [])) (fun TT HH tt kk => XS.iinc HH hx rfl (hb hby d_jdk_48_m_14_95) rfl (l' := #[.val (.ref t), .val (.int (0 : Int32)), .val (.ref t2), .val (.int (0 : Int32)), .val (.int (Int32.ofNat (bs).length)), .val (.int ((Int32.ofNat i) + (1 : Int32))), .unset, .unset]) rfl kk) ?_
        refine k_pure (g' := (mkF m 70 #[.val (.ref t), .val (.int (0 : Int32)), .val (.ref t2), .val (.int (0 : Int32)), .val (.int (Int32.ofNat (bs).length)), .val (.int ((Int32.ofNat i) + (1 : Int32))), .unset, .unset] [])) (fun TT HH tt kk => XS.goto HH hx rfl (pc0 := 98) (pc' := 70) rfl (hb hby d_jdk_48_m_14_98) (by decide) (by decide) kk) ?_
        rw [← inc_ofNat]
        exact ih (i + 1) (by omega) (take_succ_eq ht (by omega) (by omega) c_3)
      · refine k_pure (g' := (mkF m 92 #[.val (.ref t), .val (.int (0 : Int32)), .val (.ref t2), .val (.int (0 : Int32)), .val (.int (Int32.ofNat (bs).length)), .val (.int (Int32.ofNat i)), .unset, .unset] [])) (fun TT HH tt kk => XS.icmpNo HH hx rfl (hb hby d_jdk_48_m_14_89) rfl (feq c_3).1 kk) ?_
        refine k_pure (g' := (mkF m 94 #[.val (.ref t), .val (.int (0 : Int32)), .val (.ref t2), .val (.int (0 : Int32)), .val (.int (Int32.ofNat (bs).length)), .val (.int (Int32.ofNat i)), .unset, .unset] [(.int (Int32.ofNat i))])) (fun TT HH tt kk => XS.iload HH hx rfl (hb hby d_jdk_48_m_14_92) rfl kk) ?_
        exact k_retI hx hlk hret (hb hby d_jdk_48_m_14_94) (by decide) (by decide) ⟨_, rfl, rfl, rfl, iff_of_false (not_lt_nat (n := 0) (Nat.zero_le _) (by omega)) (take_ne (by omega) c_3)⟩
  exact loop _ 0 (Nat.zero_add _) rfl
def Q_eqs (Z : State) (a : Addr) (h0 : Heap) (n0 : Nat) (bk : Addr → Prop) (v : Option Value) (h : Heap) (bk' : Addr → Prop) : Prop := v = some (.int (1 : Int32)) ∧ h0 = h ∧ NoB = bk'
theorem d_jdk_42_m_66_0 : decode jdk_42_method_66_code 0 = .ok (.aload_n 0, 1) := by decide +kernel
theorem d_jdk_42_m_66_1 : decode jdk_42_method_66_code 1 = .ok (.aload_n 1, 1) := by decide +kernel
theorem d_jdk_42_m_66_2 : decode jdk_42_method_66_code 2 = .ok (.if_acmp .ne 5, 3) := by decide +kernel
theorem d_jdk_42_m_66_5 : decode jdk_42_method_66_code 5 = .ok (.iconst 1, 1) := by decide +kernel
theorem d_jdk_42_m_66_6 : decode jdk_42_method_66_code 6 = .ok (.ireturn, 1) := by decide +kernel
abbrev RM_eqs : Room := { frames := 0, cells := 0, slots := 0, locals := 0 }
theorem ef_eqs (m : MethodId) (x0 : Addr) (x1 : Addr) : entryFrame m #[(.ref x0), (.ref x1)] 3 = mkF m 0 #[.val (.ref x0), .val (.ref x1), .unset] [] := by first | (simp [entryFrame, mkF, argsToLocals, Value.category]; done) | rfl
set_option maxRecDepth 65536 in
set_option maxHeartbeats 40000000 in
theorem rm_eqs (l : Launch) (Z : State) (a0 : Array Value) (G1 : Int32) (G3 : Value) (hX : Ctx Z a0 G1 G3) (n0 : Nat) (h0 : Heap) (O0 : Old Z n0 h0) (a : Addr)  (ws : List Jvm.Cond) : Met l Z EL1 n0 NoB (⟨"java/lang/String", "equals", "(Ljava/lang/Object;)Z"⟩ : MethodName) jdk_42_method_66_code 3 (Option.some FieldType.boolean) RM_eqs #[(.ref a), (.ref a)] h0 (Q_eqs Z a h0 n0 NoB) ws := by
  have hX' := hX
  obtain ⟨hw, hE, S1, P1, S3, P3⟩ := hX'
  have hSA := sa_of hw
  have z0 : n0 ≤ h0.size := by rw [← O0.1]; exact O0.2.1
  refine Met.of (by decide +kernel) O0 hE ?_
  intro p e s m below meth c hx hby hml hret hlk hnm
  refine k_cast (ef_eqs m a a) ?_
  show Run p l e _ s m _ below meth c Z EL1 _ n0 NoB h0 0 0 (mkF m 0 #[.val (.ref a), .val (.ref a), .unset] []) _
  refine k_pure (g' := (mkF m 1 #[.val (.ref a), .val (.ref a), .unset] [(.ref a)])) (fun TT HH tt kk => XS.aloadN HH hx rfl (hb hby d_jdk_42_m_66_0) rfl rfl kk) ?_
  refine k_pure (g' := (mkF m 2 #[.val (.ref a), .val (.ref a), .unset] [(.ref a), (.ref a)])) (fun TT HH tt kk => XS.aloadN HH hx rfl (hb hby d_jdk_42_m_66_1) rfl rfl kk) ?_
  refine k_pure (g' := (mkF m 5 #[.val (.ref a), .val (.ref a), .unset] [])) (fun TT HH tt kk => XT.acmpNo HH hx rfl (hb hby d_jdk_42_m_66_2) rfl rfl rfl (XT.aa_ne_f rfl) kk) ?_
  refine k_pure (g' := (mkF m 6 #[.val (.ref a), .val (.ref a), .unset] [(.int (1 : Int32))])) (fun TT HH tt kk => XS.iconst HH hx rfl (hb hby d_jdk_42_m_66_5) kk) ?_
  exact k_retN hx hlk hret (by simp) (hb hby d_jdk_42_m_66_6) (by decide) (by decide) ⟨rfl, rfl, rfl⟩
def Q_sw2 (Z : State) (a : Addr) (t : Addr) (kb : ClassId) (cs : List Int32) (b : Addr) (t2 : Addr) (kb2 : ClassId) (ds : List Int32) (h0 : Heap) (n0 : Nat) (bk : Addr → Prop) (v : Option Value) (h : Heap) (bk' : Addr → Prop) : Prop := v = some (.int (0 : Int32)) ∧ h0 = h ∧ NoB = bk'
theorem d_jdk_42_m_75_0 : decode jdk_42_method_75_code 0 = .ok (.iload_n 2, 1) := by decide +kernel
theorem d_jdk_42_m_75_1 : decode jdk_42_method_75_code 1 = .ok (.ifCond .lt 16, 3) := by decide +kernel
theorem d_jdk_42_m_75_4 : decode jdk_42_method_75_code 4 = .ok (.iload_n 2, 1) := by decide +kernel
theorem d_jdk_42_m_75_5 : decode jdk_42_method_75_code 5 = .ok (.aload_n 0, 1) := by decide +kernel
theorem d_jdk_42_m_75_6 : decode jdk_42_method_75_code 6 = .ok (.invokevirtual 505, 3) := by decide +kernel
theorem d_jdk_42_m_75_9 : decode jdk_42_method_75_code 9 = .ok (.aload_n 1, 1) := by decide +kernel
theorem d_jdk_42_m_75_10 : decode jdk_42_method_75_code 10 = .ok (.invokevirtual 505, 3) := by decide +kernel
theorem d_jdk_42_m_75_13 : decode jdk_42_method_75_code 13 = .ok (.isub, 1) := by decide +kernel
theorem d_jdk_42_m_75_14 : decode jdk_42_method_75_code 14 = .ok (.if_icmp .le 5, 3) := by decide +kernel
theorem d_jdk_42_m_75_17 : decode jdk_42_method_75_code 17 = .ok (.iconst 0, 1) := by decide +kernel
theorem d_jdk_42_m_75_18 : decode jdk_42_method_75_code 18 = .ok (.ireturn, 1) := by decide +kernel
theorem d_jdk_42_m_75_19 : decode jdk_42_method_75_code 19 = .ok (.aload_n 0, 1) := by decide +kernel
theorem d_jdk_42_m_75_20 : decode jdk_42_method_75_code 20 = .ok (.getfield 9, 3) := by decide +kernel
theorem d_jdk_42_m_75_23 : decode jdk_42_method_75_code 23 = .ok (.astore_n 3, 1) := by decide +kernel
theorem d_jdk_42_m_75_24 : decode jdk_42_method_75_code 24 = .ok (.aload_n 1, 1) := by decide +kernel
theorem d_jdk_42_m_75_25 : decode jdk_42_method_75_code 25 = .ok (.getfield 9, 3) := by decide +kernel
theorem d_jdk_42_m_75_28 : decode jdk_42_method_75_code 28 = .ok (.astore 4, 2) := by decide +kernel
theorem d_jdk_42_m_75_30 : decode jdk_42_method_75_code 30 = .ok (.iconst 0, 1) := by decide +kernel
theorem d_jdk_42_m_75_31 : decode jdk_42_method_75_code 31 = .ok (.istore 5, 2) := by decide +kernel
theorem d_jdk_42_m_75_33 : decode jdk_42_method_75_code 33 = .ok (.aload 4, 2) := by decide +kernel
theorem d_jdk_42_m_75_35 : decode jdk_42_method_75_code 35 = .ok (.arraylength, 1) := by decide +kernel
theorem d_jdk_42_m_75_36 : decode jdk_42_method_75_code 36 = .ok (.istore 6, 2) := by decide +kernel
theorem d_jdk_42_m_75_38 : decode jdk_42_method_75_code 38 = .ok (.aload_n 0, 1) := by decide +kernel
theorem d_jdk_42_m_75_39 : decode jdk_42_method_75_code 39 = .ok (.invokevirtual 335, 3) := by decide +kernel
theorem pd__28__29_B : parseMethodDescriptor "()B" = some ⟨[], some .byte⟩ := by decide +kernel
theorem d_jdk_42_m_75_42 : decode jdk_42_method_75_code 42 = .ok (.istore 7, 2) := by decide +kernel
theorem d_jdk_42_m_75_44 : decode jdk_42_method_75_code 44 = .ok (.iload 7, 2) := by decide +kernel
theorem d_jdk_42_m_75_46 : decode jdk_42_method_75_code 46 = .ok (.aload_n 1, 1) := by decide +kernel
theorem d_jdk_42_m_75_47 : decode jdk_42_method_75_code 47 = .ok (.invokevirtual 335, 3) := by decide +kernel
theorem d_jdk_42_m_75_50 : decode jdk_42_method_75_code 50 = .ok (.if_icmp .ne 32, 3) := by decide +kernel
theorem d_jdk_42_m_75_53 : decode jdk_42_method_75_code 53 = .ok (.iload 7, 2) := by decide +kernel
theorem d_jdk_42_m_75_55 : decode jdk_42_method_75_code 55 = .ok (.iconst 1, 1) := by decide +kernel
theorem d_jdk_42_m_75_56 : decode jdk_42_method_75_code 56 = .ok (.if_icmp .ne 7, 3) := by decide +kernel
theorem d_jdk_42_m_75_63 : decode jdk_42_method_75_code 63 = .ok (.aload_n 3, 1) := by decide +kernel
theorem d_jdk_42_m_75_64 : decode jdk_42_method_75_code 64 = .ok (.iload_n 2, 1) := by decide +kernel
theorem d_jdk_42_m_75_65 : decode jdk_42_method_75_code 65 = .ok (.aload 4, 2) := by decide +kernel
theorem d_jdk_42_m_75_67 : decode jdk_42_method_75_code 67 = .ok (.iconst 0, 1) := by decide +kernel
theorem d_jdk_42_m_75_68 : decode jdk_42_method_75_code 68 = .ok (.iload 6, 2) := by decide +kernel
theorem d_jdk_42_m_75_70 : decode jdk_42_method_75_code 70 = .ok (.invokestatic 607, 3) := by decide +kernel
theorem pd__28__5b_BI_5b_BII_29_I : parseMethodDescriptor "([BI[BII)I" = some ⟨[(.array .byte), .int, (.array .byte), .int, .int], some .int⟩ := by decide +kernel
theorem d_jdk_42_m_75_73 : decode jdk_42_method_75_code 73 = .ok (.ifCond .ge 7, 3) := by decide +kernel
theorem d_jdk_42_m_75_80 : decode jdk_42_method_75_code 80 = .ok (.iconst 0, 1) := by decide +kernel
theorem d_jdk_42_m_75_81 : decode jdk_42_method_75_code 81 = .ok (.ireturn, 1) := by decide +kernel
abbrev RM_sw2 : Room := { frames := 2, cells := 0, slots := 0, locals := 27 }
theorem ef_sw2 (m : MethodId) (x0 : Addr) (x1 : Addr) (x2 : Int32) : entryFrame m #[(.ref x0), (.ref x1), (.int x2)] 8 = mkF m 0 #[.val (.ref x0), .val (.ref x1), .val (.int x2), .unset, .unset, .unset, .unset, .unset] [] := by first | (simp [entryFrame, mkF, argsToLocals, Value.category]; done) | rfl
set_option maxRecDepth 65536 in
set_option maxHeartbeats 40000000 in
theorem rm_sw2 (l : Launch) (Z : State) (a0 : Array Value) (G1 : Int32) (G3 : Value) (hX : Ctx Z a0 G1 G3) (n0 : Nat) (h0 : Heap) (O0 : Old Z n0 h0) (a : Addr) (t : Addr) (kb : ClassId) (cs : List Int32) (b : Addr) (t2 : Addr) (kb2 : ClassId) (ds : List Int32) (pf_0 : StrL Z h0 a t kb cs) (pf_1 : StrL Z h0 b t2 kb2 ds) (hn : ¬ cs.take ds.length = ds) (l7 : ds.length ≤ 7) (ws : List Jvm.Cond) : Met l Z EL1 n0 NoB (⟨"java/lang/String", "startsWith", "(Ljava/lang/String;I)Z"⟩ : MethodName) jdk_42_method_75_code 8 (Option.some FieldType.boolean) RM_sw2 #[(.ref a), (.ref b), (.int (0 : Int32))] h0 (Q_sw2 Z a t kb cs b t2 kb2 ds h0 n0 NoB) ws := by
  have hX' := hX
  obtain ⟨hw, hE, S1, P1, S3, P3⟩ := hX'
  have hSA := sa_of hw
  have z0 : n0 ≤ h0.size := by rw [← O0.1]; exact O0.2.1
  refine Met.of (by decide +kernel) O0 hE ?_
  intro p e s m below meth c hx hby hml hret hlk hnm
  refine k_cast (ef_sw2 m a b (0 : Int32)) ?_
  show Run p l e _ s m _ below meth c Z EL1 _ n0 NoB h0 0 0 (mkF m 0 #[.val (.ref a), .val (.ref b), .val (.int (0 : Int32)), .unset, .unset, .unset, .unset, .unset] []) _
  have lt_1 : @LT.lt Nat _ a (Array.size h0) := pf_0.lt1
  have lt_2 : @LT.lt Nat _ t (Array.size h0) := pf_0.lt2
  have lt_3 : @LT.lt Nat _ b (Array.size h0) := pf_1.lt1
  have lt_4 : @LT.lt Nat _ t2 (Array.size h0) := pf_1.lt2
  refine k_pure (g' := (mkF m 1 #[.val (.ref a), .val (.ref b), .val (.int (0 : Int32)), .unset, .unset, .unset, .unset, .unset] [(.int (0 : Int32))])) (fun TT HH tt kk => XS.iloadN HH hx rfl (hb hby d_jdk_42_m_75_0) rfl kk) ?_
  refine k_pure (g' := (mkF m 4 #[.val (.ref a), .val (.ref b), .val (.int (0 : Int32)), .unset, .unset, .unset, .unset, .unset] [])) (fun TT HH tt kk => XS.ifNo HH hx rfl (hb hby d_jdk_42_m_75_1) rfl ((if0 _ _).trans (flt (by decide : ¬ ((0 : Int32) < (0 : Int32)))).1) kk) ?_
  refine k_pure (g' := (mkF m 5 #[.val (.ref a), .val (.ref b), .val (.int (0 : Int32)), .unset, .unset, .unset, .unset, .unset] [(.int (0 : Int32))])) (fun TT HH tt kk => XS.iloadN HH hx rfl (hb hby d_jdk_42_m_75_4) rfl kk) ?_
  refine k_pure (g' := (mkF m 6 #[.val (.ref a), .val (.ref b), .val (.int (0 : Int32)), .unset, .unset, .unset, .unset, .unset] [(.ref a), (.int (0 : Int32))])) (fun TT HH tt kk => XS.aloadN HH hx rfl (hb hby d_jdk_42_m_75_5) rfl rfl kk) ?_
  refine k_callV hx (y := (⟨"java/lang/String", "length", "()I"⟩ : MethodName)) (z := (⟨"java/lang/String", "length", "()I"⟩ : MethodName)) (hw _ (List.mem_of_getElem? (i := 71) rfl)) (hw _ (List.mem_of_getElem? (i := 72) rfl)) (fun s' hZ => notFace_of_selects (args := #[]) (mv hZ (hw _ (List.mem_of_getElem? (i := 74) rfl)))) (hw _ (List.mem_of_getElem? (i := 74) rfl)) (hw _ (List.mem_of_getElem? (i := 73) rfl)) (by decide) (W := 1) (a := a) (argsL := []) (rest := [(.int (0 : Int32))]) (pay_len (W := 1) hX O0 pf_0 (by decide) (by decide)) pf_0.1 rfl (by rw [hml]; rfl) (lenOf pd__28__29_I rfl) rfl (by show 2 * 0 + _ ≤ _; exact Nat.le_of_eq rfl) (hb hby d_jdk_42_m_75_6) (by decide) (by decide) ?_
  intro v_5 h_6 bk_7 O_8 z_9 Q_10
  obtain ⟨rfl, rfl, rfl⟩ := Q_10
  show Run p l e _ s m _ below meth c Z EL1 _ n0 NoB h0 0 0 (mkF m 9 #[.val (.ref a), .val (.ref b), .val (.int (0 : Int32)), .unset, .unset, .unset, .unset, .unset] [(.int (Int32.ofNat (cs).length)), (.int (0 : Int32))]) _
  refine k_pure (g' := (mkF m 10 #[.val (.ref a), .val (.ref b), .val (.int (0 : Int32)), .unset, .unset, .unset, .unset, .unset] [(.ref b), (.int (Int32.ofNat (cs).length)), (.int (0 : Int32))])) (fun TT HH tt kk => XS.aloadN HH hx rfl (hb hby d_jdk_42_m_75_9) rfl rfl kk) ?_
  refine k_callV hx (y := (⟨"java/lang/String", "length", "()I"⟩ : MethodName)) (z := (⟨"java/lang/String", "length", "()I"⟩ : MethodName)) (hw _ (List.mem_of_getElem? (i := 71) rfl)) (hw _ (List.mem_of_getElem? (i := 72) rfl)) (fun s' hZ => notFace_of_selects (args := #[]) (mv hZ (hw _ (List.mem_of_getElem? (i := 74) rfl)))) (hw _ (List.mem_of_getElem? (i := 74) rfl)) (hw _ (List.mem_of_getElem? (i := 73) rfl)) (by decide) (W := 2) (a := b) (argsL := []) (rest := [(.int (Int32.ofNat (cs).length)), (.int (0 : Int32))]) (pay_len (W := 2) hX O0 pf_1 (by decide) (by decide)) pf_1.1 rfl (by rw [hml]; rfl) (lenOf pd__28__29_I rfl) rfl (by show 2 * 0 + _ ≤ _; exact Nat.le_of_eq rfl) (hb hby d_jdk_42_m_75_10) (by decide) (by decide) ?_
  intro v_11 h_12 bk_13 O_14 z_15 Q_16
  obtain ⟨rfl, rfl, rfl⟩ := Q_16
  show Run p l e _ s m _ below meth c Z EL1 _ n0 NoB h0 0 0 (mkF m 13 #[.val (.ref a), .val (.ref b), .val (.int (0 : Int32)), .unset, .unset, .unset, .unset, .unset] [(.int (Int32.ofNat (ds).length)), (.int (Int32.ofNat (cs).length)), (.int (0 : Int32))]) _
  refine k_pure (g' := (mkF m 14 #[.val (.ref a), .val (.ref b), .val (.int (0 : Int32)), .unset, .unset, .unset, .unset, .unset] [(.int ((Int32.ofNat (cs).length) - (Int32.ofNat (ds).length))), (.int (0 : Int32))])) (fun TT HH tt kk => XS.isub HH hx rfl (hb hby d_jdk_42_m_75_13) rfl kk) ?_
  by_cases c_17 : ((Int32.ofNat (cs).length) - (Int32.ofNat (ds).length)) < (0 : Int32)
  · refine k_pure (g' := (mkF m 17 #[.val (.ref a), .val (.ref b), .val (.int (0 : Int32)), .unset, .unset, .unset, .unset, .unset] [])) (fun TT HH tt kk => XS.icmpNo HH hx rfl (hb hby d_jdk_42_m_75_14) rfl (tlt c_17).2.2.2 kk) ?_
    refine k_pure (g' := (mkF m 18 #[.val (.ref a), .val (.ref b), .val (.int (0 : Int32)), .unset, .unset, .unset, .unset, .unset] [(.int (0 : Int32))])) (fun TT HH tt kk => XS.iconst HH hx rfl (hb hby d_jdk_42_m_75_17) kk) ?_
    exact k_retN hx hlk hret (by simp) (hb hby d_jdk_42_m_75_18) (by decide) (by decide) ⟨rfl, rfl, rfl⟩
  · refine k_pure (g' := (mkF m 19 #[.val (.ref a), .val (.ref b), .val (.int (0 : Int32)), .unset, .unset, .unset, .unset, .unset] [])) (fun TT HH tt kk => XS.icmpYes HH hx rfl (pc0 := 14) (pc' := 19) rfl (hb hby d_jdk_42_m_75_14) rfl (flt c_17).2.2.2 (by decide) (by decide) kk) ?_
    refine k_pure (g' := (mkF m 20 #[.val (.ref a), .val (.ref b), .val (.int (0 : Int32)), .unset, .unset, .unset, .unset, .unset] [(.ref a)])) (fun TT HH tt kk => XS.aloadN HH hx rfl (hb hby d_jdk_42_m_75_19) rfl rfl kk) ?_
    refine k_getF hx (host := "") (Or.inl (hw _ (List.mem_of_getElem? (i := 35) rfl))) Via.refl pf_0.2.2.1 rfl rfl (hb hby d_jdk_42_m_75_20) ?_
    show Run p l e _ s m _ below meth c Z EL1 _ n0 NoB h0 0 0 (mkF m 23 #[.val (.ref a), .val (.ref b), .val (.int (0 : Int32)), .unset, .unset, .unset, .unset, .unset] [(.ref t)]) _
    refine k_pure (g' := (mkF m 24 #[.val (.ref a), .val (.ref b), .val (.int (0 : Int32)), .val (.ref t), .unset, .unset, .unset, .unset] [])) (fun TT HH tt kk => XS.astoreN HH hx rfl (hb hby d_jdk_42_m_75_23) rfl rfl (l' := #[.val (.ref a), .val (.ref b), .val (.int (0 : Int32)), .val (.ref t), .unset, .unset, .unset, .unset]) rfl kk) ?_
    refine k_pure (g' := (mkF m 25 #[.val (.ref a), .val (.ref b), .val (.int (0 : Int32)), .val (.ref t), .unset, .unset, .unset, .unset] [(.ref b)])) (fun TT HH tt kk => XS.aloadN HH hx rfl (hb hby d_jdk_42_m_75_24) rfl rfl kk) ?_
    refine k_getF hx (host := "") (Or.inl (hw _ (List.mem_of_getElem? (i := 35) rfl))) Via.refl pf_1.2.2.1 rfl rfl (hb hby d_jdk_42_m_75_25) ?_
    show Run p l e _ s m _ below meth c Z EL1 _ n0 NoB h0 0 0 (mkF m 28 #[.val (.ref a), .val (.ref b), .val (.int (0 : Int32)), .val (.ref t), .unset, .unset, .unset, .unset] [(.ref t2)]) _
    refine k_pure (g' := (mkF m 30 #[.val (.ref a), .val (.ref b), .val (.int (0 : Int32)), .val (.ref t), .val (.ref t2), .unset, .unset, .unset] [])) (fun TT HH tt kk => XS.astore HH hx rfl (hb hby d_jdk_42_m_75_28) rfl rfl (l' := #[.val (.ref a), .val (.ref b), .val (.int (0 : Int32)), .val (.ref t), .val (.ref t2), .unset, .unset, .unset]) rfl kk) ?_
    refine k_pure (g' := (mkF m 31 #[.val (.ref a), .val (.ref b), .val (.int (0 : Int32)), .val (.ref t), .val (.ref t2), .unset, .unset, .unset] [(.int (0 : Int32))])) (fun TT HH tt kk => XS.iconst HH hx rfl (hb hby d_jdk_42_m_75_30) kk) ?_
    refine k_pure (g' := (mkF m 33 #[.val (.ref a), .val (.ref b), .val (.int (0 : Int32)), .val (.ref t), .val (.ref t2), .val (.int (0 : Int32)), .unset, .unset] [])) (fun TT HH tt kk => XS.istore HH hx rfl (hb hby d_jdk_42_m_75_31) rfl (l' := #[.val (.ref a), .val (.ref b), .val (.int (0 : Int32)), .val (.ref t), .val (.ref t2), .val (.int (0 : Int32)), .unset, .unset]) rfl kk) ?_
    refine k_pure (g' := (mkF m 35 #[.val (.ref a), .val (.ref b), .val (.int (0 : Int32)), .val (.ref t), .val (.ref t2), .val (.int (0 : Int32)), .unset, .unset] [(.ref t2)])) (fun TT HH tt kk => XS.aload HH hx rfl (hb hby d_jdk_42_m_75_33) rfl rfl kk) ?_
    refine k_alen hx pf_1.2.2.2.1 rfl rfl (hb hby d_jdk_42_m_75_35) ?_
    show Run p l e _ s m _ below meth c Z EL1 _ n0 NoB h0 0 0 (mkF m 36 #[.val (.ref a), .val (.ref b), .val (.int (0 : Int32)), .val (.ref t), .val (.ref t2), .val (.int (0 : Int32)), .unset, .unset] [(.int (Int32.ofNat (ds).length))]) _
    refine k_pure (g' := (mkF m 38 #[.val (.ref a), .val (.ref b), .val (.int (0 : Int32)), .val (.ref t), .val (.ref t2), .val (.int (0 : Int32)), .val (.int (Int32.ofNat (ds).length)), .unset] [])) (fun TT HH tt kk => XS.istore HH hx rfl (hb hby d_jdk_42_m_75_36) rfl (l' := #[.val (.ref a), .val (.ref b), .val (.int (0 : Int32)), .val (.ref t), .val (.ref t2), .val (.int (0 : Int32)), .val (.int (Int32.ofNat (ds).length)), .unset]) rfl kk) ?_
    refine k_pure (g' := (mkF m 39 #[.val (.ref a), .val (.ref b), .val (.int (0 : Int32)), .val (.ref t), .val (.ref t2), .val (.int (0 : Int32)), .val (.int (Int32.ofNat (ds).length)), .unset] [(.ref a)])) (fun TT HH tt kk => XS.aloadN HH hx rfl (hb hby d_jdk_42_m_75_38) rfl rfl kk) ?_
    refine k_callV hx (y := (⟨"java/lang/String", "coder", "()B"⟩ : MethodName)) (z := (⟨"java/lang/String", "coder", "()B"⟩ : MethodName)) (hw _ (List.mem_of_getElem? (i := 76) rfl)) (hw _ (List.mem_of_getElem? (i := 77) rfl)) (fun s' hZ => notFace_of_selects (args := #[]) (mv hZ (hw _ (List.mem_of_getElem? (i := 79) rfl)))) (hw _ (List.mem_of_getElem? (i := 79) rfl)) (hw _ (List.mem_of_getElem? (i := 78) rfl)) (by decide) (W := 0) (a := a) (argsL := []) (rest := []) (Pays.of_met (rm_coder l Z a0 G1 G3 hX n0 h0 O0 a t kb cs pf_0 []) (hw _ (List.mem_of_getElem? (i := 80) rfl)) (hw _ (List.mem_of_getElem? (i := 9) rfl)) (by decide) (by decide)) pf_0.1 rfl (by rw [hml]; rfl) (lenOf pd__28__29_B rfl) rfl (by show 2 * 0 + _ ≤ _; exact Nat.le_of_eq rfl) (hb hby d_jdk_42_m_75_39) (by decide) (by decide) ?_
    intro v_18 h_19 bk_20 O_21 z_22 Q_23
    obtain ⟨rfl, rfl, rfl⟩ := Q_23
    show Run p l e _ s m _ below meth c Z EL1 _ n0 NoB h0 0 0 (mkF m 42 #[.val (.ref a), .val (.ref b), .val (.int (0 : Int32)), .val (.ref t), .val (.ref t2), .val (.int (0 : Int32)), .val (.int (Int32.ofNat (ds).length)), .unset] [(.int (0 : Int32))]) _
    refine k_pure (g' := (mkF m 44 #[.val (.ref a), .val (.ref b), .val (.int (0 : Int32)), .val (.ref t), .val (.ref t2), .val (.int (0 : Int32)), .val (.int (Int32.ofNat (ds).length)), .val (.int (0 : Int32))] [])) (fun TT HH tt kk => XS.istore HH hx rfl (hb hby d_jdk_42_m_75_42) rfl (l' := #[.val (.ref a), .val (.ref b), .val (.int (0 : Int32)), .val (.ref t), .val (.ref t2), .val (.int (0 : Int32)), .val (.int (Int32.ofNat (ds).length)), .val (.int (0 : Int32))]) rfl kk) ?_
    refine k_pure (g' := (mkF m 46 #[.val (.ref a), .val (.ref b), .val (.int (0 : Int32)), .val (.ref t), .val (.ref t2), .val (.int (0 : Int32)), .val (.int (Int32.ofNat (ds).length)), .val (.int (0 : Int32))] [(.int (0 : Int32))])) (fun TT HH tt kk => XS.iload HH hx rfl (hb hby d_jdk_42_m_75_44) rfl kk) ?_
    refine k_pure (g' := (mkF m 47 #[.val (.ref a), .val (.ref b), .val (.int (0 : Int32)), .val (.ref t), .val (.ref t2), .val (.int (0 : Int32)), .val (.int (Int32.ofNat (ds).length)), .val (.int (0 : Int32))] [(.ref b), (.int (0 : Int32))])) (fun TT HH tt kk => XS.aloadN HH hx rfl (hb hby d_jdk_42_m_75_46) rfl rfl kk) ?_
    refine k_callV hx (y := (⟨"java/lang/String", "coder", "()B"⟩ : MethodName)) (z := (⟨"java/lang/String", "coder", "()B"⟩ : MethodName)) (hw _ (List.mem_of_getElem? (i := 76) rfl)) (hw _ (List.mem_of_getElem? (i := 77) rfl)) (fun s' hZ => notFace_of_selects (args := #[]) (mv hZ (hw _ (List.mem_of_getElem? (i := 79) rfl)))) (hw _ (List.mem_of_getElem? (i := 79) rfl)) (hw _ (List.mem_of_getElem? (i := 78) rfl)) (by decide) (W := 1) (a := b) (argsL := []) (rest := [(.int (0 : Int32))]) (Pays.of_met (rm_coder l Z a0 G1 G3 hX n0 h0 O0 b t2 kb2 ds pf_1 []) (hw _ (List.mem_of_getElem? (i := 80) rfl)) (hw _ (List.mem_of_getElem? (i := 9) rfl)) (by decide) (by decide)) pf_1.1 rfl (by rw [hml]; rfl) (lenOf pd__28__29_B rfl) rfl (by show 2 * 0 + _ ≤ _; exact Nat.le_of_eq rfl) (hb hby d_jdk_42_m_75_47) (by decide) (by decide) ?_
    intro v_24 h_25 bk_26 O_27 z_28 Q_29
    obtain ⟨rfl, rfl, rfl⟩ := Q_29
    show Run p l e _ s m _ below meth c Z EL1 _ n0 NoB h0 0 0 (mkF m 50 #[.val (.ref a), .val (.ref b), .val (.int (0 : Int32)), .val (.ref t), .val (.ref t2), .val (.int (0 : Int32)), .val (.int (Int32.ofNat (ds).length)), .val (.int (0 : Int32))] [(.int (0 : Int32)), (.int (0 : Int32))]) _
    refine k_pure (g' := (mkF m 53 #[.val (.ref a), .val (.ref b), .val (.int (0 : Int32)), .val (.ref t), .val (.ref t2), .val (.int (0 : Int32)), .val (.int (Int32.ofNat (ds).length)), .val (.int (0 : Int32))] [])) (fun TT HH tt kk => XS.icmpNo HH hx rfl (hb hby d_jdk_42_m_75_50) rfl (teq (by decide : ((0 : Int32) = (0 : Int32)))).2 kk) ?_
    refine k_pure (g' := (mkF m 55 #[.val (.ref a), .val (.ref b), .val (.int (0 : Int32)), .val (.ref t), .val (.ref t2), .val (.int (0 : Int32)), .val (.int (Int32.ofNat (ds).length)), .val (.int (0 : Int32))] [(.int (0 : Int32))])) (fun TT HH tt kk => XS.iload HH hx rfl (hb hby d_jdk_42_m_75_53) rfl kk) ?_
    refine k_pure (g' := (mkF m 56 #[.val (.ref a), .val (.ref b), .val (.int (0 : Int32)), .val (.ref t), .val (.ref t2), .val (.int (0 : Int32)), .val (.int (Int32.ofNat (ds).length)), .val (.int (0 : Int32))] [(.int (1 : Int32)), (.int (0 : Int32))])) (fun TT HH tt kk => XS.iconst HH hx rfl (hb hby d_jdk_42_m_75_55) kk) ?_
    refine k_pure (g' := (mkF m 63 #[.val (.ref a), .val (.ref b), .val (.int (0 : Int32)), .val (.ref t), .val (.ref t2), .val (.int (0 : Int32)), .val (.int (Int32.ofNat (ds).length)), .val (.int (0 : Int32))] [])) (fun TT HH tt kk => XS.icmpYes HH hx rfl (pc0 := 56) (pc' := 63) rfl (hb hby d_jdk_42_m_75_56) rfl (feq (by decide : ¬ ((0 : Int32) = (1 : Int32)))).2 (by decide) (by decide) kk) ?_
    refine k_pure (g' := (mkF m 64 #[.val (.ref a), .val (.ref b), .val (.int (0 : Int32)), .val (.ref t), .val (.ref t2), .val (.int (0 : Int32)), .val (.int (Int32.ofNat (ds).length)), .val (.int (0 : Int32))] [(.ref t)])) (fun TT HH tt kk => XS.aloadN HH hx rfl (hb hby d_jdk_42_m_75_63) rfl rfl kk) ?_
    refine k_pure (g' := (mkF m 65 #[.val (.ref a), .val (.ref b), .val (.int (0 : Int32)), .val (.ref t), .val (.ref t2), .val (.int (0 : Int32)), .val (.int (Int32.ofNat (ds).length)), .val (.int (0 : Int32))] [(.int (0 : Int32)), (.ref t)])) (fun TT HH tt kk => XS.iloadN HH hx rfl (hb hby d_jdk_42_m_75_64) rfl kk) ?_
    refine k_pure (g' := (mkF m 67 #[.val (.ref a), .val (.ref b), .val (.int (0 : Int32)), .val (.ref t), .val (.ref t2), .val (.int (0 : Int32)), .val (.int (Int32.ofNat (ds).length)), .val (.int (0 : Int32))] [(.ref t2), (.int (0 : Int32)), (.ref t)])) (fun TT HH tt kk => XS.aload HH hx rfl (hb hby d_jdk_42_m_75_65) rfl rfl kk) ?_
    refine k_pure (g' := (mkF m 68 #[.val (.ref a), .val (.ref b), .val (.int (0 : Int32)), .val (.ref t), .val (.ref t2), .val (.int (0 : Int32)), .val (.int (Int32.ofNat (ds).length)), .val (.int (0 : Int32))] [(.int (0 : Int32)), (.ref t2), (.int (0 : Int32)), (.ref t)])) (fun TT HH tt kk => XS.iconst HH hx rfl (hb hby d_jdk_42_m_75_67) kk) ?_
    refine k_pure (g' := (mkF m 70 #[.val (.ref a), .val (.ref b), .val (.int (0 : Int32)), .val (.ref t), .val (.ref t2), .val (.int (0 : Int32)), .val (.int (Int32.ofNat (ds).length)), .val (.int (0 : Int32))] [(.int (Int32.ofNat (ds).length)), (.int (0 : Int32)), (.ref t2), (.int (0 : Int32)), (.ref t)])) (fun TT HH tt kk => XS.iload HH hx rfl (hb hby d_jdk_42_m_75_68) rfl kk) ?_
    have V_30 : Arv Z h0 t kb .byte (Int32.ofNat (cs.map (fun c => c.toInt8.toInt32)).length) ((cs.map (fun c => c.toInt8.toInt32)).map Value.int) (.int 0) := by rw [List.length_map]; exact pf_0.2.2.2.1
    have V_31 : Arv Z h0 t2 kb2 .byte (Int32.ofNat (ds.map (fun c => c.toInt8.toInt32)).length) ((ds.map (fun c => c.toInt8.toInt32)).map Value.int) (.int 0) := by rw [List.length_map]; exact pf_1.2.2.2.1
    rw [← List.length_map (as := ds) (f := fun c => c.toInt8.toInt32)]
    show Run p l e _ s m _ below meth c Z EL1 _ n0 NoB h0 0 0 (mkF m 70 #[.val (.ref a), .val (.ref b), .val (.int (0 : Int32)), .val (.ref t), .val (.ref t2), .val (.int (0 : Int32)), .val (.int (Int32.ofNat (ds.map (fun c => c.toInt8.toInt32)).length)), .val (.int (0 : Int32))] [(.int (Int32.ofNat (ds.map (fun c => c.toInt8.toInt32)).length)), (.int (0 : Int32)), (.ref t2), (.int (0 : Int32)), (.ref t)]) _
    refine k_callS hx (y := (⟨"jdk/internal/util/ArraysSupport", "mismatch", "([BI[BII)I"⟩ : MethodName)) (hw _ (List.mem_of_getElem? (i := 142) rfl)) (hw _ (List.mem_of_getElem? (i := 143) rfl)) (hw _ (List.mem_of_getElem? (i := 144) rfl)) (hw _ (List.mem_of_getElem? (i := 145) rfl)) (by decide) (W := 0) (argsL := [(.ref t), (.int (0 : Int32)), (.ref t2), (.int (0 : Int32)), (.int (Int32.ofNat (ds.map (fun c => c.toInt8.toInt32)).length))]) (rest := []) (Pays.of_met (rm_mis l Z a0 G1 G3 hX n0 h0 O0 t kb (cs.map (fun c => c.toInt8.toInt32)) t2 kb2 (ds.map (fun c => c.toInt8.toInt32)) V_30 V_31 (by rw [List.length_map]; exact l7) (by rw [List.length_map, List.length_map]; exact sub_len c_17 pf_0.2.2.2.2.2 pf_1.2.2.2.2.2) (by rw [List.length_map]; exact pf_0.2.2.2.2.2) []) (hw _ (List.mem_of_getElem? (i := 145) rfl)) (hw _ (List.mem_of_getElem? (i := 144) rfl)) (by decide) (by decide)) rfl (by rw [hml]; rfl) (lenOf pd__28__5b_BI_5b_BII_29_I rfl) rfl (by show 2 * 0 + _ ≤ _; exact Nat.le_of_eq rfl) (hb hby d_jdk_42_m_75_70) (by decide) (by decide) ?_
    intro v_32 h_33 bk_34 O_35 z_36 Q_37
    obtain ⟨i_38, rfl, rfl, rfl, P_39⟩ := Q_37
    show Run p l e _ s m _ below meth c Z EL1 _ n0 NoB h0 0 0 (mkF m 73 #[.val (.ref a), .val (.ref b), .val (.int (0 : Int32)), .val (.ref t), .val (.ref t2), .val (.int (0 : Int32)), .val (.int (Int32.ofNat (ds.map (fun c => c.toInt8.toInt32)).length)), .val (.int (0 : Int32))] [(.int i_38)]) _
    refine k_pure (g' := (mkF m 80 #[.val (.ref a), .val (.ref b), .val (.int (0 : Int32)), .val (.ref t), .val (.ref t2), .val (.int (0 : Int32)), .val (.int (Int32.ofNat (ds.map (fun c => c.toInt8.toInt32)).length)), .val (.int (0 : Int32))] [])) (fun TT HH tt kk => XS.ifYes HH hx rfl (pc0 := 73) (pc' := 80) rfl (hb hby d_jdk_42_m_75_73) rfl ((if0 _ _).trans (flt (fun q => hn (take8 (fun c hc => Dc.of (pf_1.2.2.2.2.1 c hc)) (fun c hc => Dc.of (pf_0.2.2.2.2.1 c hc)) (P_39.mp q)))).2.1) (by decide) (by decide) kk) ?_
    refine k_pure (g' := (mkF m 81 #[.val (.ref a), .val (.ref b), .val (.int (0 : Int32)), .val (.ref t), .val (.ref t2), .val (.int (0 : Int32)), .val (.int (Int32.ofNat (ds.map (fun c => c.toInt8.toInt32)).length)), .val (.int (0 : Int32))] [(.int (0 : Int32))])) (fun TT HH tt kk => XS.iconst HH hx rfl (hb hby d_jdk_42_m_75_80) kk) ?_
    exact k_retN hx hlk hret (by simp) (hb hby d_jdk_42_m_75_81) (by decide) (by decide) ⟨rfl, rfl, rfl⟩
def Q_sw1 (Z : State) (a : Addr) (t : Addr) (kb : ClassId) (cs : List Int32) (b : Addr) (t2 : Addr) (kb2 : ClassId) (ds : List Int32) (h0 : Heap) (n0 : Nat) (bk : Addr → Prop) (v : Option Value) (h : Heap) (bk' : Addr → Prop) : Prop := v = some (.int (0 : Int32)) ∧ h0 = h ∧ NoB = bk'
theorem d_jdk_42_m_76_0 : decode jdk_42_method_76_code 0 = .ok (.aload_n 0, 1) := by decide +kernel
theorem d_jdk_42_m_76_1 : decode jdk_42_method_76_code 1 = .ok (.aload_n 1, 1) := by decide +kernel
theorem d_jdk_42_m_76_2 : decode jdk_42_method_76_code 2 = .ok (.iconst 0, 1) := by decide +kernel
theorem d_jdk_42_m_76_3 : decode jdk_42_method_76_code 3 = .ok (.invokevirtual 624, 3) := by decide +kernel
theorem pd__28_Ljava_2f_lang_2f_String_3b_I_29_Z : parseMethodDescriptor "(Ljava/lang/String;I)Z" = some ⟨[(.object "java/lang/String"), .int], some .boolean⟩ := by decide +kernel
theorem d_jdk_42_m_76_6 : decode jdk_42_method_76_code 6 = .ok (.ireturn, 1) := by decide +kernel
abbrev RM_sw1 : Room := { frames := 3, cells := 0, slots := 0, locals := 46 }
theorem ef_sw1 (m : MethodId) (x0 : Addr) (x1 : Addr) : entryFrame m #[(.ref x0), (.ref x1)] 2 = mkF m 0 #[.val (.ref x0), .val (.ref x1)] [] := by first | (simp [entryFrame, mkF, argsToLocals, Value.category]; done) | rfl
set_option maxRecDepth 65536 in
set_option maxHeartbeats 40000000 in
theorem rm_sw1 (l : Launch) (Z : State) (a0 : Array Value) (G1 : Int32) (G3 : Value) (hX : Ctx Z a0 G1 G3) (n0 : Nat) (h0 : Heap) (O0 : Old Z n0 h0) (a : Addr) (t : Addr) (kb : ClassId) (cs : List Int32) (b : Addr) (t2 : Addr) (kb2 : ClassId) (ds : List Int32) (pf_0 : StrL Z h0 a t kb cs) (pf_1 : StrL Z h0 b t2 kb2 ds) (hn : ¬ cs.take ds.length = ds) (l7 : ds.length ≤ 7) (ws : List Jvm.Cond) : Met l Z EL1 n0 NoB (⟨"java/lang/String", "startsWith", "(Ljava/lang/String;)Z"⟩ : MethodName) jdk_42_method_76_code 2 (Option.some FieldType.boolean) RM_sw1 #[(.ref a), (.ref b)] h0 (Q_sw1 Z a t kb cs b t2 kb2 ds h0 n0 NoB) ws := by
  have hX' := hX
  obtain ⟨hw, hE, S1, P1, S3, P3⟩ := hX'
  have hSA := sa_of hw
  have z0 : n0 ≤ h0.size := by rw [← O0.1]; exact O0.2.1
  refine Met.of (by decide +kernel) O0 hE ?_
  intro p e s m below meth c hx hby hml hret hlk hnm
  refine k_cast (ef_sw1 m a b) ?_
  show Run p l e _ s m _ below meth c Z EL1 _ n0 NoB h0 0 0 (mkF m 0 #[.val (.ref a), .val (.ref b)] []) _
  have lt_1 : @LT.lt Nat _ a (Array.size h0) := pf_0.lt1
  have lt_2 : @LT.lt Nat _ t (Array.size h0) := pf_0.lt2
  have lt_3 : @LT.lt Nat _ b (Array.size h0) := pf_1.lt1
  have lt_4 : @LT.lt Nat _ t2 (Array.size h0) := pf_1.lt2
  refine k_pure (g' := (mkF m 1 #[.val (.ref a), .val (.ref b)] [(.ref a)])) (fun TT HH tt kk => XS.aloadN HH hx rfl (hb hby d_jdk_42_m_76_0) rfl rfl kk) ?_
  refine k_pure (g' := (mkF m 2 #[.val (.ref a), .val (.ref b)] [(.ref b), (.ref a)])) (fun TT HH tt kk => XS.aloadN HH hx rfl (hb hby d_jdk_42_m_76_1) rfl rfl kk) ?_
  refine k_pure (g' := (mkF m 3 #[.val (.ref a), .val (.ref b)] [(.int (0 : Int32)), (.ref b), (.ref a)])) (fun TT HH tt kk => XS.iconst HH hx rfl (hb hby d_jdk_42_m_76_2) kk) ?_
  refine k_callV hx (y := (⟨"java/lang/String", "startsWith", "(Ljava/lang/String;I)Z"⟩ : MethodName)) (z := (⟨"java/lang/String", "startsWith", "(Ljava/lang/String;I)Z"⟩ : MethodName)) (hw _ (List.mem_of_getElem? (i := 132) rfl)) (hw _ (List.mem_of_getElem? (i := 133) rfl)) (fun s' hZ => notFace_of_selects (args := #[]) (mv hZ (hw _ (List.mem_of_getElem? (i := 135) rfl)))) (hw _ (List.mem_of_getElem? (i := 135) rfl)) (hw _ (List.mem_of_getElem? (i := 134) rfl)) (by decide) (W := 0) (a := a) (argsL := [(.ref b), (.int (0 : Int32))]) (rest := []) (Pays.of_met (rm_sw2 l Z a0 G1 G3 hX n0 h0 O0 a t kb cs b t2 kb2 ds pf_0 pf_1 hn l7 []) (hw _ (List.mem_of_getElem? (i := 136) rfl)) (hw _ (List.mem_of_getElem? (i := 9) rfl)) (by decide) (by decide)) pf_0.1 rfl (by rw [hml]; rfl) (lenOf pd__28_Ljava_2f_lang_2f_String_3b_I_29_Z rfl) rfl (by show 2 * 0 + _ ≤ _; exact Nat.le_of_eq rfl) (hb hby d_jdk_42_m_76_3) (by decide) (by decide) ?_
  intro v_5 h_6 bk_7 O_8 z_9 Q_10
  obtain ⟨rfl, rfl, rfl⟩ := Q_10
  show Run p l e _ s m _ below meth c Z EL1 _ n0 NoB h0 0 0 (mkF m 6 #[.val (.ref a), .val (.ref b)] [(.int (0 : Int32))]) _
  exact k_retN hx hlk hret (by simp) (hb hby d_jdk_42_m_76_6) (by decide) (by decide) ⟨rfl, rfl, rfl⟩
def Q_u8 (Z : State) (a : Addr) (t : Addr) (kb : ClassId) (cs : List Int32) (q : Addr) (h0 : Heap) (n0 : Nat) (bk : Addr → Prop) (v : Option Value) (h : Heap) (bk' : Addr → Prop) : Prop := ∃ (r : Int32), v = some (.int r) ∧ h0 = h ∧ NoB = bk'
theorem d_prog_4_m_9_0 : decode prog_4_method_9_code 0 = .ok (.iconst 0, 1) := by decide +kernel
theorem d_prog_4_m_9_1 : decode prog_4_method_9_code 1 = .ok (.istore_n 2, 1) := by decide +kernel
theorem d_prog_4_m_9_2 : decode prog_4_method_9_code 2 = .ok (.iconst 0, 1) := by decide +kernel
theorem d_prog_4_m_9_3 : decode prog_4_method_9_code 3 = .ok (.istore_n 3, 1) := by decide +kernel
theorem d_prog_4_m_9_4 : decode prog_4_method_9_code 4 = .ok (.iload_n 3, 1) := by decide +kernel
theorem d_prog_4_m_9_5 : decode prog_4_method_9_code 5 = .ok (.aload_n 0, 1) := by decide +kernel
theorem d_prog_4_m_9_6 : decode prog_4_method_9_code 6 = .ok (.invokevirtual 81, 3) := by decide +kernel
theorem d_prog_4_m_9_9 : decode prog_4_method_9_code 9 = .ok (.if_icmp .ge 113, 3) := by decide +kernel
theorem d_prog_4_m_9_122 : decode prog_4_method_9_code 122 = .ok (.iload_n 2, 1) := by decide +kernel
theorem d_prog_4_m_9_123 : decode prog_4_method_9_code 123 = .ok (.ireturn, 1) := by decide +kernel
theorem d_prog_4_m_9_12 : decode prog_4_method_9_code 12 = .ok (.aload_n 0, 1) := by decide +kernel
theorem d_prog_4_m_9_13 : decode prog_4_method_9_code 13 = .ok (.iload_n 3, 1) := by decide +kernel
theorem d_prog_4_m_9_14 : decode prog_4_method_9_code 14 = .ok (.invokevirtual 85, 3) := by decide +kernel
theorem pd__28_I_29_C : parseMethodDescriptor "(I)C" = some ⟨[.int], some .char⟩ := by decide +kernel
theorem d_prog_4_m_9_17 : decode prog_4_method_9_code 17 = .ok (.istore 4, 2) := by decide +kernel
theorem d_prog_4_m_9_19 : decode prog_4_method_9_code 19 = .ok (.iload 4, 2) := by decide +kernel
theorem d_prog_4_m_9_21 : decode prog_4_method_9_code 21 = .ok (.sipush 128, 3) := by decide +kernel
theorem d_prog_4_m_9_24 : decode prog_4_method_9_code 24 = .ok (.if_icmp .ge 9, 3) := by decide +kernel
theorem d_prog_4_m_9_27 : decode prog_4_method_9_code 27 = .ok (.iinc 2 1, 3) := by decide +kernel
theorem d_prog_4_m_9_30 : decode prog_4_method_9_code 30 = .ok (.goto 86, 3) := by decide +kernel
theorem d_prog_4_m_9_116 : decode prog_4_method_9_code 116 = .ok (.iinc 3 1, 3) := by decide +kernel
theorem d_prog_4_m_9_119 : decode prog_4_method_9_code 119 = .ok (.goto (-115), 3) := by decide +kernel
theorem d_prog_4_m_9_33 : decode prog_4_method_9_code 33 = .ok (.iload 4, 2) := by decide +kernel
theorem d_prog_4_m_9_35 : decode prog_4_method_9_code 35 = .ok (.sipush 2048, 3) := by decide +kernel
theorem d_prog_4_m_9_38 : decode prog_4_method_9_code 38 = .ok (.if_icmp .ge 9, 3) := by decide +kernel
theorem d_prog_4_m_9_41 : decode prog_4_method_9_code 41 = .ok (.iinc 2 2, 3) := by decide +kernel
theorem d_prog_4_m_9_44 : decode prog_4_method_9_code 44 = .ok (.goto 72, 3) := by decide +kernel
abbrev RM_u8 : Room := { frames := 4, cells := 0, slots := 0, locals := 53 }
theorem ef_u8 (m : MethodId) (x0 : Addr) (x1 : Addr) : entryFrame m #[(.ref x0), (.ref x1)] 5 = mkF m 0 #[.val (.ref x0), .val (.ref x1), .unset, .unset, .unset] [] := by first | (simp [entryFrame, mkF, argsToLocals, Value.category]; done) | rfl
set_option maxRecDepth 65536 in
set_option maxHeartbeats 40000000 in
theorem rm_u8 (l : Launch) (Z : State) (a0 : Array Value) (G1 : Int32) (G3 : Value) (hX : Ctx Z a0 G1 G3) (n0 : Nat) (h0 : Heap) (O0 : Old Z n0 h0) (a : Addr) (t : Addr) (kb : ClassId) (cs : List Int32) (q : Addr) (pf_0 : StrL Z h0 a t kb cs) (l1 : 0 < cs.length) (ws : List Jvm.Cond) : Met l Z EL1 n0 NoB (⟨"com/example/eirene/eirene/KeySpace", "utf8Length", "(Ljava/lang/String;Ljava/lang/String;)I"⟩ : MethodName) prog_4_method_9_code 5 (Option.some FieldType.int) RM_u8 #[(.ref a), (.ref q)] h0 (Q_u8 Z a t kb cs q h0 n0 NoB) ws := by
  have hX' := hX
  obtain ⟨hw, hE, S1, P1, S3, P3⟩ := hX'
  have hSA := sa_of hw
  have z0 : n0 ≤ h0.size := by rw [← O0.1]; exact O0.2.1
  refine Met.of (by decide +kernel) O0 hE ?_
  intro p e s m below meth c hx hby hml hret hlk hnm
  refine k_cast (ef_u8 m a q) ?_
  show Run p l e _ s m _ below meth c Z EL1 _ n0 NoB h0 0 0 (mkF m 0 #[.val (.ref a), .val (.ref q), .unset, .unset, .unset] []) _
  have lt_1 : @LT.lt Nat _ a (Array.size h0) := pf_0.lt1
  have lt_2 : @LT.lt Nat _ t (Array.size h0) := pf_0.lt2
  have hl4 := pf_0.2.2.2.2.2
  refine k_pure (g' := (mkF m 1 #[.val (.ref a), .val (.ref q), .unset, .unset, .unset] [(.int (0 : Int32))])) (fun TT HH tt kk => XS.iconst HH hx rfl (hb hby d_prog_4_m_9_0) kk) ?_
  refine k_pure (g' := (mkF m 2 #[.val (.ref a), .val (.ref q), .val (.int (0 : Int32)), .unset, .unset] [])) (fun TT HH tt kk => XS.istoreN HH hx rfl (hb hby d_prog_4_m_9_1) rfl (l' := #[.val (.ref a), .val (.ref q), .val (.int (0 : Int32)), .unset, .unset]) rfl kk) ?_
  refine k_pure (g' := (mkF m 3 #[.val (.ref a), .val (.ref q), .val (.int (0 : Int32)), .unset, .unset] [(.int (0 : Int32))])) (fun TT HH tt kk => XS.iconst HH hx rfl (hb hby d_prog_4_m_9_2) kk) ?_
  refine k_pure (g' := (mkF m 4 #[.val (.ref a), .val (.ref q), .val (.int (0 : Int32)), .val (.int (0 : Int32)), .unset] [])) (fun TT HH tt kk => XS.istoreN HH hx rfl (hb hby d_prog_4_m_9_3) rfl (l' := #[.val (.ref a), .val (.ref q), .val (.int (0 : Int32)), .val (.int (0 : Int32)), .unset]) rfl kk) ?_
  have loop : ∀ (k i : Nat) (r u : Int32), i + k = cs.length → Run p l e RM_u8 s m #[(.ref a), (.ref q)] below meth c Z EL1 "com/example/eirene/eirene/KeySpace" n0 NoB h0 0 0 (mkF m 4 #[.val (.ref a), .val (.ref q), .val (.int r), .val (.int (Int32.ofNat i)), .val (.int u)] []) (Q_u8 Z a t kb cs q h0 n0 NoB) := by
    intro k
    induction k with
    | zero =>
      intro i r u hi 
      refine k_pure (g' := (mkF m 5 #[.val (.ref a), .val (.ref q), .val (.int r), .val (.int (Int32.ofNat i)), .val (.int u)] [(.int (Int32.ofNat i))])) (fun TT HH tt kk => XS.iloadN HH hx rfl (hb hby d_prog_4_m_9_4) rfl kk) ?_
      refine k_pure (g' := (mkF m 6 #[.val (.ref a), .val (.ref q), .val (.int r), .val (.int (Int32.ofNat i)), .val (.int u)] [(.ref a), (.int (Int32.ofNat i))])) (fun TT HH tt kk => XS.aloadN HH hx rfl (hb hby d_prog_4_m_9_5) rfl rfl kk) ?_
      refine k_callV hx (y := (⟨"java/lang/String", "length", "()I"⟩ : MethodName)) (z := (⟨"java/lang/String", "length", "()I"⟩ : MethodName)) (hw _ (List.mem_of_getElem? (i := 102) rfl)) (hw _ (List.mem_of_getElem? (i := 72) rfl)) (fun s' hZ => notFace_of_selects (args := #[]) (mv hZ (hw _ (List.mem_of_getElem? (i := 74) rfl)))) (hw _ (List.mem_of_getElem? (i := 74) rfl)) (hw _ (List.mem_of_getElem? (i := 73) rfl)) (by decide) (W := 1) (a := a) (argsL := []) (rest := [(.int (Int32.ofNat i))]) (pay_len (W := 1) hX O0 pf_0 (by decide) (by decide)) pf_0.1 rfl (by rw [hml]; rfl) (lenOf pd__28__29_I rfl) rfl (by show 2 * 0 + _ ≤ _; exact Nat.le_of_eq rfl) (hb hby d_prog_4_m_9_6) (by decide) (by decide) ?_
      intro v_3 h_4 bk_5 O_6 z_7 Q_8
      obtain ⟨rfl, rfl, rfl⟩ := Q_8
      show Run p l e _ s m _ below meth c Z EL1 _ n0 NoB h0 0 0 (mkF m 9 #[.val (.ref a), .val (.ref q), .val (.int r), .val (.int (Int32.ofNat i)), .val (.int u)] [(.int (Int32.ofNat (cs).length)), (.int (Int32.ofNat i))]) _
      refine k_pure (g' := (mkF m 122 #[.val (.ref a), .val (.ref q), .val (.int r), .val (.int (Int32.ofNat i)), .val (.int u)] [])) (fun TT HH tt kk => XS.icmpYes HH hx rfl (pc0 := 9) (pc' := 122) rfl (hb hby d_prog_4_m_9_9) rfl (flt (not_lt_nat (by omega) (by omega))).2.1 (by decide) (by decide) kk) ?_
      refine k_pure (g' := (mkF m 123 #[.val (.ref a), .val (.ref q), .val (.int r), .val (.int (Int32.ofNat i)), .val (.int u)] [(.int r)])) (fun TT HH tt kk => XS.iloadN HH hx rfl (hb hby d_prog_4_m_9_122) rfl kk) ?_
      exact k_retI hx hlk hret (hb hby d_prog_4_m_9_123) (by decide) (by decide) ⟨_, rfl, rfl, rfl⟩
    | succ k ih =>
      intro i r u hi 
      refine k_pure (g' := (mkF m 5 #[.val (.ref a), .val (.ref q), .val (.int r), .val (.int (Int32.ofNat i)), .val (.int u)] [(.int (Int32.ofNat i))])) (fun TT HH tt kk => XS.iloadN HH hx rfl (hb hby d_prog_4_m_9_4) rfl kk) ?_
      refine k_pure (g' := (mkF m 6 #[.val (.ref a), .val (.ref q), .val (.int r), .val (.int (Int32.ofNat i)), .val (.int u)] [(.ref a), (.int (Int32.ofNat i))])) (fun TT HH tt kk => XS.aloadN HH hx rfl (hb hby d_prog_4_m_9_5) rfl rfl kk) ?_
      refine k_callV hx (y := (⟨"java/lang/String", "length", "()I"⟩ : MethodName)) (z := (⟨"java/lang/String", "length", "()I"⟩ : MethodName)) (hw _ (List.mem_of_getElem? (i := 102) rfl)) (hw _ (List.mem_of_getElem? (i := 72) rfl)) (fun s' hZ => notFace_of_selects (args := #[]) (mv hZ (hw _ (List.mem_of_getElem? (i := 74) rfl)))) (hw _ (List.mem_of_getElem? (i := 74) rfl)) (hw _ (List.mem_of_getElem? (i := 73) rfl)) (by decide) (W := 1) (a := a) (argsL := []) (rest := [(.int (Int32.ofNat i))]) (pay_len (W := 1) hX O0 pf_0 (by decide) (by decide)) pf_0.1 rfl (by rw [hml]; rfl) (lenOf pd__28__29_I rfl) rfl (by show 2 * 0 + _ ≤ _; exact Nat.le_of_eq rfl) (hb hby d_prog_4_m_9_6) (by decide) (by decide) ?_
      intro v_9 h_10 bk_11 O_12 z_13 Q_14
      obtain ⟨rfl, rfl, rfl⟩ := Q_14
      show Run p l e _ s m _ below meth c Z EL1 _ n0 NoB h0 0 0 (mkF m 9 #[.val (.ref a), .val (.ref q), .val (.int r), .val (.int (Int32.ofNat i)), .val (.int u)] [(.int (Int32.ofNat (cs).length)), (.int (Int32.ofNat i))]) _
      refine k_pure (g' := (mkF m 12 #[.val (.ref a), .val (.ref q), .val (.int r), .val (.int (Int32.ofNat i)), .val (.int u)] [])) (fun TT HH tt kk => XS.icmpNo HH hx rfl (hb hby d_prog_4_m_9_9) rfl (tlt (lt_nat (by omega) (by omega))).2.1 kk) ?_
      refine k_pure (g' := (mkF m 13 #[.val (.ref a), .val (.ref q), .val (.int r), .val (.int (Int32.ofNat i)), .val (.int u)] [(.ref a)])) (fun TT HH tt kk => XS.aloadN HH hx rfl (hb hby d_prog_4_m_9_12) rfl rfl kk) ?_
      refine k_pure (g' := (mkF m 14 #[.val (.ref a), .val (.ref q), .val (.int r), .val (.int (Int32.ofNat i)), .val (.int u)] [(.int (Int32.ofNat i)), (.ref a)])) (fun TT HH tt kk => XS.iloadN HH hx rfl (hb hby d_prog_4_m_9_13) rfl kk) ?_
      refine k_callV hx (y := (⟨"java/lang/String", "charAt", "(I)C"⟩ : MethodName)) (z := (⟨"java/lang/String", "charAt", "(I)C"⟩ : MethodName)) (hw _ (List.mem_of_getElem? (i := 103) rfl)) (hw _ (List.mem_of_getElem? (i := 104) rfl)) (fun s' hZ => notFace_of_selects (args := #[]) (mv hZ (hw _ (List.mem_of_getElem? (i := 106) rfl)))) (hw _ (List.mem_of_getElem? (i := 106) rfl)) (hw _ (List.mem_of_getElem? (i := 105) rfl)) (by decide) (W := 0) (a := a) (argsL := [(.int (Int32.ofNat i))]) (rest := []) (pay_ch (W := 0) hX O0 pf_0 i (by omega) rfl (by decide) (by decide)) pf_0.1 rfl (by rw [hml]; rfl) (lenOf pd__28_I_29_C rfl) rfl (by show 2 * 0 + _ ≤ _; exact Nat.le_of_eq rfl) (hb hby d_prog_4_m_9_14) (by decide) (by decide) ?_
      intro v_15 h_16 bk_17 O_18 z_19 Q_20
      obtain ⟨rfl, rfl, rfl⟩ := Q_20
      show Run p l e _ s m _ below meth c Z EL1 _ n0 NoB h0 0 0 (mkF m 17 #[.val (.ref a), .val (.ref q), .val (.int r), .val (.int (Int32.ofNat i)), .val (.int u)] [(.int ((cs).getD i 0))]) _
      refine k_pure (g' := (mkF m 19 #[.val (.ref a), .val (.ref q), .val (.int r), .val (.int (Int32.ofNat i)), .val (.int ((cs).getD i 0))] [])) (fun TT HH tt kk => XS.istore HH hx rfl (hb hby d_prog_4_m_9_17) rfl (l' := #[.val (.ref a), .val (.ref q), .val (.int r), .val (.int (Int32.ofNat i)), .val (.int ((cs).getD i 0))]) rfl kk) ?_
      refine k_pure (g' := (mkF m 21 #[.val (.ref a), .val (.ref q), .val (.int r), .val (.int (Int32.ofNat i)), .val (.int ((cs).getD i 0))] [(.int ((cs).getD i 0))])) (fun TT HH tt kk => XS.iload HH hx rfl (hb hby d_prog_4_m_9_19) rfl kk) ?_
      refine k_pure (g' := (mkF m 24 #[.val (.ref a), .val (.ref q), .val (.int r), .val (.int (Int32.ofNat i)), .val (.int ((cs).getD i 0))] [(.int (128 : Int32)), (.int ((cs).getD i 0))])) (fun TT HH tt kk => XS.sipush HH hx rfl (hb hby d_prog_4_m_9_21) kk) ?_
      by_cases c_21 : ((cs).getD i 0) < (128 : Int32)
      · refine k_pure (g' := (mkF m 27 #[.val (.ref a), .val (.ref q), .val (.int r), .val (.int (Int32.ofNat i)), .val (.int ((cs).getD i 0))] [])) (fun TT HH tt kk => XS.icmpNo HH hx rfl (hb hby d_prog_4_m_9_24) rfl (tlt c_21).2.1 kk) ?_
        refine k_pure (g' := (mkF m 30 #[.val (.ref a), .val (.ref q), .val (.int (r + (1 : Int32))), .val (.int (Int32.ofNat i)), .val (.int ((cs).getD i 0))] [])) (fun TT HH tt kk => XS.iinc HH hx rfl (hb hby d_prog_4_m_9_27) rfl (l' := #[.val (.ref a), .val (.ref q), .val (.int (r + (1 : Int32))), .val (.int (Int32.ofNat i)), .val (.int ((cs).getD i 0))]) rfl kk) ?_
        refine k_pure (g' := (mkF m 116 #[.val (.ref a), .val (.ref q), .val (.int (r + (1 : Int32))), .val (.int (Int32.ofNat i)), .val (.int ((cs).getD i 0))] [])) (fun TT HH tt kk => XS.goto HH hx rfl (pc0 := 30) (pc' := 116) rfl (hb hby d_prog_4_m_9_30) (by decide) (by decide) kk) ?_
        refine k_pure (g' := (mkF m 119 #[.val (.ref a), .val (.ref q), .val (.int (r + (1 : Int32))), .val (.int ((Int32.ofNat i) + (1 : Int32))), .val (.int ((cs).getD i 0))] [])) (fun TT HH tt kk => XS.iinc HH hx rfl (hb hby d_prog_4_m_9_116) rfl (l' := #[.val (.ref a), .val (.ref q), .val (.int (r + (1 : Int32))), .val (.int ((Int32.ofNat i) + (1 : Int32))), .val (.int ((cs).getD i 0))]) rfl kk) ?_
        refine k_pure (g' := (mkF m 4 #[.val (.ref a), .val (.ref q), .val (.int (r + (1 : Int32))), .val (.int ((Int32.ofNat i) + (1 : Int32))), .val (.int ((cs).getD i 0))] [])) (fun TT HH tt kk => XS.goto HH hx rfl (pc0 := 119) (pc' := 4) rfl (hb hby d_prog_4_m_9_119) (by decide) (by decide) kk) ?_
        rw [← inc_ofNat]
        exact ih (i + 1) _ _ (by omega)
      · refine k_pure (g' := (mkF m 33 #[.val (.ref a), .val (.ref q), .val (.int r), .val (.int (Int32.ofNat i)), .val (.int ((cs).getD i 0))] [])) (fun TT HH tt kk => XS.icmpYes HH hx rfl (pc0 := 24) (pc' := 33) rfl (hb hby d_prog_4_m_9_24) rfl (flt c_21).2.1 (by decide) (by decide) kk) ?_
        refine k_pure (g' := (mkF m 35 #[.val (.ref a), .val (.ref q), .val (.int r), .val (.int (Int32.ofNat i)), .val (.int ((cs).getD i 0))] [(.int ((cs).getD i 0))])) (fun TT HH tt kk => XS.iload HH hx rfl (hb hby d_prog_4_m_9_33) rfl kk) ?_
        refine k_pure (g' := (mkF m 38 #[.val (.ref a), .val (.ref q), .val (.int r), .val (.int (Int32.ofNat i)), .val (.int ((cs).getD i 0))] [(.int (2048 : Int32)), (.int ((cs).getD i 0))])) (fun TT HH tt kk => XS.sipush HH hx rfl (hb hby d_prog_4_m_9_35) kk) ?_
        refine k_pure (g' := (mkF m 41 #[.val (.ref a), .val (.ref q), .val (.int r), .val (.int (Int32.ofNat i)), .val (.int ((cs).getD i 0))] [])) (fun TT HH tt kk => XS.icmpNo HH hx rfl (hb hby d_prog_4_m_9_38) rfl (tlt (c2048 (pf_0.2.2.2.2.1 _ (getD_mem cs i (by omega))).2)).2.1 kk) ?_
        refine k_pure (g' := (mkF m 44 #[.val (.ref a), .val (.ref q), .val (.int (r + (2 : Int32))), .val (.int (Int32.ofNat i)), .val (.int ((cs).getD i 0))] [])) (fun TT HH tt kk => XS.iinc HH hx rfl (hb hby d_prog_4_m_9_41) rfl (l' := #[.val (.ref a), .val (.ref q), .val (.int (r + (2 : Int32))), .val (.int (Int32.ofNat i)), .val (.int ((cs).getD i 0))]) rfl kk) ?_
        refine k_pure (g' := (mkF m 116 #[.val (.ref a), .val (.ref q), .val (.int (r + (2 : Int32))), .val (.int (Int32.ofNat i)), .val (.int ((cs).getD i 0))] [])) (fun TT HH tt kk => XS.goto HH hx rfl (pc0 := 44) (pc' := 116) rfl (hb hby d_prog_4_m_9_44) (by decide) (by decide) kk) ?_
        refine k_pure (g' := (mkF m 119 #[.val (.ref a), .val (.ref q), .val (.int (r + (2 : Int32))), .val (.int ((Int32.ofNat i) + (1 : Int32))), .val (.int ((cs).getD i 0))] [])) (fun TT HH tt kk => XS.iinc HH hx rfl (hb hby d_prog_4_m_9_116) rfl (l' := #[.val (.ref a), .val (.ref q), .val (.int (r + (2 : Int32))), .val (.int ((Int32.ofNat i) + (1 : Int32))), .val (.int ((cs).getD i 0))]) rfl kk) ?_
        refine k_pure (g' := (mkF m 4 #[.val (.ref a), .val (.ref q), .val (.int (r + (2 : Int32))), .val (.int ((Int32.ofNat i) + (1 : Int32))), .val (.int ((cs).getD i 0))] [])) (fun TT HH tt kk => XS.goto HH hx rfl (pc0 := 119) (pc' := 4) rfl (hb hby d_prog_4_m_9_119) (by decide) (by decide) kk) ?_
        rw [← inc_ofNat]
        exact ih (i + 1) _ _ (by omega)
  show Run p l e _ s m _ below meth c Z EL1 _ n0 NoB h0 0 0 (mkF m 4 #[.val (.ref a), .val (.ref q), .val (.int (0 : Int32)), .val (.int (0 : Int32)), .unset] []) _
  refine k_pure (g' := (mkF m 5 #[.val (.ref a), .val (.ref q), .val (.int (0 : Int32)), .val (.int (0 : Int32)), .unset] [(.int (0 : Int32))])) (fun TT HH tt kk => XS.iloadN HH hx rfl (hb hby d_prog_4_m_9_4) rfl kk) ?_
  refine k_pure (g' := (mkF m 6 #[.val (.ref a), .val (.ref q), .val (.int (0 : Int32)), .val (.int (0 : Int32)), .unset] [(.ref a), (.int (0 : Int32))])) (fun TT HH tt kk => XS.aloadN HH hx rfl (hb hby d_prog_4_m_9_5) rfl rfl kk) ?_
  refine k_callV hx (y := (⟨"java/lang/String", "length", "()I"⟩ : MethodName)) (z := (⟨"java/lang/String", "length", "()I"⟩ : MethodName)) (hw _ (List.mem_of_getElem? (i := 102) rfl)) (hw _ (List.mem_of_getElem? (i := 72) rfl)) (fun s' hZ => notFace_of_selects (args := #[]) (mv hZ (hw _ (List.mem_of_getElem? (i := 74) rfl)))) (hw _ (List.mem_of_getElem? (i := 74) rfl)) (hw _ (List.mem_of_getElem? (i := 73) rfl)) (by decide) (W := 1) (a := a) (argsL := []) (rest := [(.int (0 : Int32))]) (pay_len (W := 1) hX O0 pf_0 (by decide) (by decide)) pf_0.1 rfl (by rw [hml]; rfl) (lenOf pd__28__29_I rfl) rfl (by show 2 * 0 + _ ≤ _; exact Nat.le_of_eq rfl) (hb hby d_prog_4_m_9_6) (by decide) (by decide) ?_
  intro v_22 h_23 bk_24 O_25 z_26 Q_27
  obtain ⟨rfl, rfl, rfl⟩ := Q_27
  show Run p l e _ s m _ below meth c Z EL1 _ n0 NoB h0 0 0 (mkF m 9 #[.val (.ref a), .val (.ref q), .val (.int (0 : Int32)), .val (.int (0 : Int32)), .unset] [(.int (Int32.ofNat (cs).length)), (.int (0 : Int32))]) _
  refine k_pure (g' := (mkF m 12 #[.val (.ref a), .val (.ref q), .val (.int (0 : Int32)), .val (.int (0 : Int32)), .unset] [])) (fun TT HH tt kk => XS.icmpNo HH hx rfl (hb hby d_prog_4_m_9_9) rfl (tlt (lt_nat (i := 0) (by omega) (by omega))).2.1 kk) ?_
  refine k_pure (g' := (mkF m 13 #[.val (.ref a), .val (.ref q), .val (.int (0 : Int32)), .val (.int (0 : Int32)), .unset] [(.ref a)])) (fun TT HH tt kk => XS.aloadN HH hx rfl (hb hby d_prog_4_m_9_12) rfl rfl kk) ?_
  refine k_pure (g' := (mkF m 14 #[.val (.ref a), .val (.ref q), .val (.int (0 : Int32)), .val (.int (0 : Int32)), .unset] [(.int (0 : Int32)), (.ref a)])) (fun TT HH tt kk => XS.iloadN HH hx rfl (hb hby d_prog_4_m_9_13) rfl kk) ?_
  refine k_callV hx (y := (⟨"java/lang/String", "charAt", "(I)C"⟩ : MethodName)) (z := (⟨"java/lang/String", "charAt", "(I)C"⟩ : MethodName)) (hw _ (List.mem_of_getElem? (i := 103) rfl)) (hw _ (List.mem_of_getElem? (i := 104) rfl)) (fun s' hZ => notFace_of_selects (args := #[]) (mv hZ (hw _ (List.mem_of_getElem? (i := 106) rfl)))) (hw _ (List.mem_of_getElem? (i := 106) rfl)) (hw _ (List.mem_of_getElem? (i := 105) rfl)) (by decide) (W := 0) (a := a) (argsL := [(.int (0 : Int32))]) (rest := []) (pay_ch (W := 0) hX O0 pf_0 0 (by omega) rfl (by decide) (by decide)) pf_0.1 rfl (by rw [hml]; rfl) (lenOf pd__28_I_29_C rfl) rfl (by show 2 * 0 + _ ≤ _; exact Nat.le_of_eq rfl) (hb hby d_prog_4_m_9_14) (by decide) (by decide) ?_
  intro v_28 h_29 bk_30 O_31 z_32 Q_33
  obtain ⟨rfl, rfl, rfl⟩ := Q_33
  show Run p l e _ s m _ below meth c Z EL1 _ n0 NoB h0 0 0 (mkF m 17 #[.val (.ref a), .val (.ref q), .val (.int (0 : Int32)), .val (.int (0 : Int32)), .unset] [(.int ((cs).getD 0 0))]) _
  refine k_pure (g' := (mkF m 19 #[.val (.ref a), .val (.ref q), .val (.int (0 : Int32)), .val (.int (0 : Int32)), .val (.int ((cs).getD 0 0))] [])) (fun TT HH tt kk => XS.istore HH hx rfl (hb hby d_prog_4_m_9_17) rfl (l' := #[.val (.ref a), .val (.ref q), .val (.int (0 : Int32)), .val (.int (0 : Int32)), .val (.int ((cs).getD 0 0))]) rfl kk) ?_
  refine k_pure (g' := (mkF m 21 #[.val (.ref a), .val (.ref q), .val (.int (0 : Int32)), .val (.int (0 : Int32)), .val (.int ((cs).getD 0 0))] [(.int ((cs).getD 0 0))])) (fun TT HH tt kk => XS.iload HH hx rfl (hb hby d_prog_4_m_9_19) rfl kk) ?_
  refine k_pure (g' := (mkF m 24 #[.val (.ref a), .val (.ref q), .val (.int (0 : Int32)), .val (.int (0 : Int32)), .val (.int ((cs).getD 0 0))] [(.int (128 : Int32)), (.int ((cs).getD 0 0))])) (fun TT HH tt kk => XS.sipush HH hx rfl (hb hby d_prog_4_m_9_21) kk) ?_
  by_cases c_34 : ((cs).getD 0 0) < (128 : Int32)
  · refine k_pure (g' := (mkF m 27 #[.val (.ref a), .val (.ref q), .val (.int (0 : Int32)), .val (.int (0 : Int32)), .val (.int ((cs).getD 0 0))] [])) (fun TT HH tt kk => XS.icmpNo HH hx rfl (hb hby d_prog_4_m_9_24) rfl (tlt c_34).2.1 kk) ?_
    refine k_pure (g' := (mkF m 30 #[.val (.ref a), .val (.ref q), .val (.int (1 : Int32)), .val (.int (0 : Int32)), .val (.int ((cs).getD 0 0))] [])) (fun TT HH tt kk => XS.iinc HH hx rfl (hb hby d_prog_4_m_9_27) rfl (l' := #[.val (.ref a), .val (.ref q), .val (.int (1 : Int32)), .val (.int (0 : Int32)), .val (.int ((cs).getD 0 0))]) rfl kk) ?_
    refine k_pure (g' := (mkF m 116 #[.val (.ref a), .val (.ref q), .val (.int (1 : Int32)), .val (.int (0 : Int32)), .val (.int ((cs).getD 0 0))] [])) (fun TT HH tt kk => XS.goto HH hx rfl (pc0 := 30) (pc' := 116) rfl (hb hby d_prog_4_m_9_30) (by decide) (by decide) kk) ?_
    refine k_pure (g' := (mkF m 119 #[.val (.ref a), .val (.ref q), .val (.int (1 : Int32)), .val (.int (1 : Int32)), .val (.int ((cs).getD 0 0))] [])) (fun TT HH tt kk => XS.iinc HH hx rfl (hb hby d_prog_4_m_9_116) rfl (l' := #[.val (.ref a), .val (.ref q), .val (.int (1 : Int32)), .val (.int (1 : Int32)), .val (.int ((cs).getD 0 0))]) rfl kk) ?_
    refine k_pure (g' := (mkF m 4 #[.val (.ref a), .val (.ref q), .val (.int (1 : Int32)), .val (.int (1 : Int32)), .val (.int ((cs).getD 0 0))] [])) (fun TT HH tt kk => XS.goto HH hx rfl (pc0 := 119) (pc' := 4) rfl (hb hby d_prog_4_m_9_119) (by decide) (by decide) kk) ?_
    exact loop _ 1 _ _ (show 1 + (cs.length - 1) = cs.length by omega)
  · refine k_pure (g' := (mkF m 33 #[.val (.ref a), .val (.ref q), .val (.int (0 : Int32)), .val (.int (0 : Int32)), .val (.int ((cs).getD 0 0))] [])) (fun TT HH tt kk => XS.icmpYes HH hx rfl (pc0 := 24) (pc' := 33) rfl (hb hby d_prog_4_m_9_24) rfl (flt c_34).2.1 (by decide) (by decide) kk) ?_
    refine k_pure (g' := (mkF m 35 #[.val (.ref a), .val (.ref q), .val (.int (0 : Int32)), .val (.int (0 : Int32)), .val (.int ((cs).getD 0 0))] [(.int ((cs).getD 0 0))])) (fun TT HH tt kk => XS.iload HH hx rfl (hb hby d_prog_4_m_9_33) rfl kk) ?_
    refine k_pure (g' := (mkF m 38 #[.val (.ref a), .val (.ref q), .val (.int (0 : Int32)), .val (.int (0 : Int32)), .val (.int ((cs).getD 0 0))] [(.int (2048 : Int32)), (.int ((cs).getD 0 0))])) (fun TT HH tt kk => XS.sipush HH hx rfl (hb hby d_prog_4_m_9_35) kk) ?_
    refine k_pure (g' := (mkF m 41 #[.val (.ref a), .val (.ref q), .val (.int (0 : Int32)), .val (.int (0 : Int32)), .val (.int ((cs).getD 0 0))] [])) (fun TT HH tt kk => XS.icmpNo HH hx rfl (hb hby d_prog_4_m_9_38) rfl (tlt (c2048 (pf_0.2.2.2.2.1 _ (getD_mem cs 0 (by omega))).2)).2.1 kk) ?_
    refine k_pure (g' := (mkF m 44 #[.val (.ref a), .val (.ref q), .val (.int (2 : Int32)), .val (.int (0 : Int32)), .val (.int ((cs).getD 0 0))] [])) (fun TT HH tt kk => XS.iinc HH hx rfl (hb hby d_prog_4_m_9_41) rfl (l' := #[.val (.ref a), .val (.ref q), .val (.int (2 : Int32)), .val (.int (0 : Int32)), .val (.int ((cs).getD 0 0))]) rfl kk) ?_
    refine k_pure (g' := (mkF m 116 #[.val (.ref a), .val (.ref q), .val (.int (2 : Int32)), .val (.int (0 : Int32)), .val (.int ((cs).getD 0 0))] [])) (fun TT HH tt kk => XS.goto HH hx rfl (pc0 := 44) (pc' := 116) rfl (hb hby d_prog_4_m_9_44) (by decide) (by decide) kk) ?_
    refine k_pure (g' := (mkF m 119 #[.val (.ref a), .val (.ref q), .val (.int (2 : Int32)), .val (.int (1 : Int32)), .val (.int ((cs).getD 0 0))] [])) (fun TT HH tt kk => XS.iinc HH hx rfl (hb hby d_prog_4_m_9_116) rfl (l' := #[.val (.ref a), .val (.ref q), .val (.int (2 : Int32)), .val (.int (1 : Int32)), .val (.int ((cs).getD 0 0))]) rfl kk) ?_
    refine k_pure (g' := (mkF m 4 #[.val (.ref a), .val (.ref q), .val (.int (2 : Int32)), .val (.int (1 : Int32)), .val (.int ((cs).getD 0 0))] [])) (fun TT HH tt kk => XS.goto HH hx rfl (pc0 := 119) (pc' := 4) rfl (hb hby d_prog_4_m_9_119) (by decide) (by decide) kk) ?_
    exact loop _ 1 _ _ (show 1 + (cs.length - 1) = cs.length by omega)
def Q_ini (Z : State) (x : Addr) (a : Addr) (t : Addr) (kb : ClassId) (cs : List Int32) (h0 : Heap) (n0 : Nat) (bk : Addr → Prop) (v : Option Value) (h : Heap) (bk' : Addr → Prop) : Prop := v = none ∧ NoB = bk' ∧ Keep h0 h [x] ∧ (Exa Z h x "com/example/eirene/eirene/KeySpace") ∧ (Fld Z h x "com/example/eirene/eirene/KeySpace" "prefix" "Ljava/lang/String;" (.ref a))
theorem d_prog_4_m_1_0 : decode prog_4_method_1_code 0 = .ok (.aload_n 0, 1) := by decide +kernel
theorem d_prog_4_m_1_1 : decode prog_4_method_1_code 1 = .ok (.invokespecial 1, 3) := by decide +kernel
theorem d_prog_4_m_1_4 : decode prog_4_method_1_code 4 = .ok (.aload_n 1, 1) := by decide +kernel
theorem d_prog_4_m_1_5 : decode prog_4_method_1_code 5 = .ok (.ldc 7, 2) := by decide +kernel
theorem d_prog_4_m_1_7 : decode prog_4_method_1_code 7 = .ok (.invokestatic 9, 3) := by decide +kernel
theorem pd__28_Ljava_2f_lang_2f_Object_3b_Ljava_2f_lang_2f_String_3b__29_Ljava_2f_lang_2f_Object_3b_ : parseMethodDescriptor "(Ljava/lang/Object;Ljava/lang/String;)Ljava/lang/Object;" = some ⟨[(.object "java/lang/Object"), (.object "java/lang/String")], some (.object "java/lang/Object")⟩ := by decide +kernel
theorem d_prog_4_m_1_10 : decode prog_4_method_1_code 10 = .ok (.pop, 1) := by decide +kernel
theorem d_prog_4_m_1_11 : decode prog_4_method_1_code 11 = .ok (.aload_n 1, 1) := by decide +kernel
theorem d_prog_4_m_1_12 : decode prog_4_method_1_code 12 = .ok (.invokevirtual 15, 3) := by decide +kernel
theorem d_prog_4_m_1_15 : decode prog_4_method_1_code 15 = .ok (.ifCond .eq 13, 3) := by decide +kernel
theorem d_prog_4_m_1_28 : decode prog_4_method_1_code 28 = .ok (.aload_n 1, 1) := by decide +kernel
theorem d_prog_4_m_1_29 : decode prog_4_method_1_code 29 = .ok (.bipush 123, 2) := by decide +kernel
theorem d_prog_4_m_1_31 : decode prog_4_method_1_code 31 = .ok (.invokevirtual 28, 3) := by decide +kernel
theorem pd__28_I_29_I : parseMethodDescriptor "(I)I" = some ⟨[.int], some .int⟩ := by decide +kernel
theorem d_prog_4_m_1_34 : decode prog_4_method_1_code 34 = .ok (.ifCond .ge 12, 3) := by decide +kernel
theorem d_prog_4_m_1_37 : decode prog_4_method_1_code 37 = .ok (.aload_n 1, 1) := by decide +kernel
theorem d_prog_4_m_1_38 : decode prog_4_method_1_code 38 = .ok (.bipush 125, 2) := by decide +kernel
theorem d_prog_4_m_1_40 : decode prog_4_method_1_code 40 = .ok (.invokevirtual 28, 3) := by decide +kernel
theorem d_prog_4_m_1_43 : decode prog_4_method_1_code 43 = .ok (.ifCond .lt 17, 3) := by decide +kernel
theorem d_prog_4_m_1_60 : decode prog_4_method_1_code 60 = .ok (.aload_n 1, 1) := by decide +kernel
theorem d_prog_4_m_1_61 : decode prog_4_method_1_code 61 = .ok (.ldc 36, 2) := by decide +kernel
theorem d_prog_4_m_1_63 : decode prog_4_method_1_code 63 = .ok (.invokestatic 38, 3) := by decide +kernel
theorem pd__28_Ljava_2f_lang_2f_String_3b_Ljava_2f_lang_2f_String_3b__29_I : parseMethodDescriptor "(Ljava/lang/String;Ljava/lang/String;)I" = some ⟨[(.object "java/lang/String"), (.object "java/lang/String")], some .int⟩ := by decide +kernel
theorem d_prog_4_m_1_66 : decode prog_4_method_1_code 66 = .ok (.pop, 1) := by decide +kernel
theorem d_prog_4_m_1_67 : decode prog_4_method_1_code 67 = .ok (.aload_n 0, 1) := by decide +kernel
theorem d_prog_4_m_1_68 : decode prog_4_method_1_code 68 = .ok (.aload_n 1, 1) := by decide +kernel
theorem d_prog_4_m_1_69 : decode prog_4_method_1_code 69 = .ok (.putfield 44, 3) := by decide +kernel
theorem d_prog_4_m_1_72 : decode prog_4_method_1_code 72 = .ok (.return_, 1) := by decide +kernel
abbrev RM_ini : Room := { frames := 5, cells := 4, slots := 88, locals := 69 }
theorem ef_ini (m : MethodId) (x0 : Addr) (x1 : Addr) : entryFrame m #[(.ref x0), (.ref x1)] 2 = mkF m 0 #[.val (.ref x0), .val (.ref x1)] [] := by first | (simp [entryFrame, mkF, argsToLocals, Value.category]; done) | rfl
set_option maxRecDepth 65536 in
set_option maxHeartbeats 40000000 in
theorem rm_ini (l : Launch) (Z : State) (a0 : Array Value) (G1 : Int32) (G3 : Value) (hX : Ctx Z a0 G1 G3) (n0 : Nat) (h0 : Heap) (O0 : Old Z n0 h0) (x : Addr) (a : Addr) (t : Addr) (kb : ClassId) (cs : List Int32) (pf_0 : Exa Z h0 x "com/example/eirene/eirene/KeySpace") (pf_1 : Fld Z h0 x "com/example/eirene/eirene/KeySpace" "prefix" "Ljava/lang/String;" .null) (pf_2 : StrL Z h0 a t kb cs) (hv : ∀ c ∈ cs, Pc c) (l1 : 0 < cs.length) (gx : n0 ≤ x) (ws : List Jvm.Cond) : Met l Z EL1 n0 NoB (⟨"com/example/eirene/eirene/KeySpace", "<init>", "(Ljava/lang/String;)V"⟩ : MethodName) prog_4_method_1_code 2 (Option.none : Option FieldType) RM_ini #[(.ref x), (.ref a)] h0 (Q_ini Z x a t kb cs h0 n0 NoB) ws := by
  have hX' := hX
  obtain ⟨hw, hE, S1, P1, S3, P3⟩ := hX'
  have hSA := sa_of hw
  have z0 : n0 ≤ h0.size := by rw [← O0.1]; exact O0.2.1
  refine Met.of (by decide +kernel) O0 hE ?_
  intro p e s m below meth c hx hby hml hret hlk hnm
  refine k_cast (ef_ini m x a) ?_
  show Run p l e _ s m _ below meth c Z EL1 _ n0 NoB h0 0 0 (mkF m 0 #[.val (.ref x), .val (.ref a)] []) _
  have lt_1 : @LT.lt Nat _ x (Array.size h0) := pf_0.lt
  have lt_2 : @LT.lt Nat _ x (Array.size h0) := pf_1.lt
  have lt_3 : @LT.lt Nat _ a (Array.size h0) := pf_2.lt1
  have lt_4 : @LT.lt Nat _ t (Array.size h0) := pf_2.lt2
  refine k_pure (g' := (mkF m 1 #[.val (.ref x), .val (.ref a)] [(.ref x)])) (fun TT HH tt kk => XS.aloadN HH hx rfl (hb hby d_prog_4_m_1_0) rfl rfl kk) ?_
  refine k_initO hx (hw _ (List.mem_of_getElem? (i := 43) rfl)) (hw _ (List.mem_of_getElem? (i := 19) rfl)) (hw _ (List.mem_of_getElem? (i := 20) rfl)) rfl (by rw [hml]; rfl) rfl (hb hby d_prog_4_m_1_1) (by decide) (W := 0) (by show 2 * 0 + _ ≤ _; exact Nat.le_of_eq rfl) (by decide) ?_
  show Run p l e _ s m _ below meth c Z EL1 _ n0 NoB h0 0 0 (mkF m 4 #[.val (.ref x), .val (.ref a)] []) _
  refine k_pure (g' := (mkF m 5 #[.val (.ref x), .val (.ref a)] [(.ref a)])) (fun TT HH tt kk => XS.aloadN HH hx rfl (hb hby d_prog_4_m_1_4) rfl rfl kk) ?_
  refine k_ldc0 rfl hx (hw _ (List.mem_of_getElem? (i := 44) rfl)) hSA rfl (hb hby d_prog_4_m_1_5) (n := 24) (by decide +kernel) (by decide) (by decide) (by decide) ?_
  intro h_5 a_6 O_7 E_8
  have z_9 := E_8.1
  show Run p l e _ s m _ below meth c Z EL1 _ n0 NoB h_5 2 28 (mkF m 7 #[.val (.ref x), .val (.ref a)] [(.ref a_6), (.ref a)]) _
  refine k_callS hx (y := (⟨"java/util/Objects", "requireNonNull", "(Ljava/lang/Object;Ljava/lang/String;)Ljava/lang/Object;"⟩ : MethodName)) (hw _ (List.mem_of_getElem? (i := 47) rfl)) (hw _ (List.mem_of_getElem? (i := 48) rfl)) (hw _ (List.mem_of_getElem? (i := 49) rfl)) (hw _ (List.mem_of_getElem? (i := 50) rfl)) (by decide) (W := 0) (argsL := [(.ref a), (.ref a_6)]) (rest := []) (Pays.of_met (rm_rnn l Z a0 G1 G3 hX n0 h_5 O_7 a a_6  []) (hw _ (List.mem_of_getElem? (i := 50) rfl)) (hw _ (List.mem_of_getElem? (i := 49) rfl)) (by decide) (by decide)) rfl (by rw [hml]; rfl) (lenOf pd__28_Ljava_2f_lang_2f_Object_3b_Ljava_2f_lang_2f_String_3b__29_Ljava_2f_lang_2f_Object_3b_ rfl) rfl (by show 2 * 0 + _ ≤ _; exact Nat.le_of_eq rfl) (hb hby d_prog_4_m_1_7) (by decide) (by decide) ?_
  intro v_10 h_11 bk_12 O_13 z_14 Q_15
  obtain ⟨rfl, rfl, rfl⟩ := Q_15
  show Run p l e _ s m _ below meth c Z EL1 _ n0 NoB h_5 2 28 (mkF m 10 #[.val (.ref x), .val (.ref a)] [(.ref a)]) _
  refine k_pure (g' := (mkF m 11 #[.val (.ref x), .val (.ref a)] [])) (fun TT HH tt kk => XS.pop HH hx rfl (hb hby d_prog_4_m_1_10) rfl rfl kk) ?_
  refine k_pure (g' := (mkF m 12 #[.val (.ref x), .val (.ref a)] [(.ref a)])) (fun TT HH tt kk => XS.aloadN HH hx rfl (hb hby d_prog_4_m_1_11) rfl rfl kk) ?_
  have F_16 : StrL Z h_5 a t kb cs := (pf_2.ext E_8)
  have F_17 : Exa Z h_5 a "java/lang/String" := (pf_2.1.ext E_8)
  refine k_callV hx (y := (⟨"java/lang/String", "isEmpty", "()Z"⟩ : MethodName)) (z := (⟨"java/lang/String", "isEmpty", "()Z"⟩ : MethodName)) (hw _ (List.mem_of_getElem? (i := 51) rfl)) (hw _ (List.mem_of_getElem? (i := 52) rfl)) (fun s' hZ => notFace_of_selects (args := #[]) (mv hZ (hw _ (List.mem_of_getElem? (i := 54) rfl)))) (hw _ (List.mem_of_getElem? (i := 54) rfl)) (hw _ (List.mem_of_getElem? (i := 53) rfl)) (by decide) (W := 0) (a := a) (argsL := []) (rest := []) (pay_emp (W := 0) hX O_7 F_16 (by decide) (by decide)) F_17 rfl (by rw [hml]; rfl) (lenOf pd__28__29_Z rfl) rfl (by show 2 * 0 + _ ≤ _; exact Nat.le_of_eq rfl) (hb hby d_prog_4_m_1_12) (by decide) (by decide) ?_
  intro v_18 h_19 bk_20 O_21 z_22 Q_23
  obtain ⟨rfl, rfl, rfl⟩ := Q_23
  show Run p l e _ s m _ below meth c Z EL1 _ n0 NoB h_5 2 28 (mkF m 15 #[.val (.ref x), .val (.ref a)] [(.int (if (cs).length = 0 then (1 : Int32) else 0))]) _
  refine k_pure (g' := (mkF m 28 #[.val (.ref x), .val (.ref a)] [])) (fun TT HH tt kk => XS.ifYes HH hx rfl (pc0 := 15) (pc' := 28) rfl (hb hby d_prog_4_m_1_15) rfl ((if0 _ _).trans (teq (if_neg (by omega))).1) (by decide) (by decide) kk) ?_
  refine k_pure (g' := (mkF m 29 #[.val (.ref x), .val (.ref a)] [(.ref a)])) (fun TT HH tt kk => XS.aloadN HH hx rfl (hb hby d_prog_4_m_1_28) rfl rfl kk) ?_
  refine k_pure (g' := (mkF m 31 #[.val (.ref x), .val (.ref a)] [(.int (123 : Int32)), (.ref a)])) (fun TT HH tt kk => XS.bipush HH hx rfl (hb hby d_prog_4_m_1_29) kk) ?_
  refine k_callV hx (y := (⟨"java/lang/String", "indexOf", "(I)I"⟩ : MethodName)) (z := (⟨"java/lang/String", "indexOf", "(I)I"⟩ : MethodName)) (hw _ (List.mem_of_getElem? (i := 56) rfl)) (hw _ (List.mem_of_getElem? (i := 57) rfl)) (fun s' hZ => notFace_of_selects (args := #[]) (mv hZ (hw _ (List.mem_of_getElem? (i := 59) rfl)))) (hw _ (List.mem_of_getElem? (i := 59) rfl)) (hw _ (List.mem_of_getElem? (i := 58) rfl)) (by decide) (W := 0) (a := a) (argsL := [(.int (123 : Int32))]) (rest := []) (Pays.of_met (rm_sio1 l Z a0 G1 G3 hX n0 h_5 O_7 a t kb cs (123 : Int32) F_16 (notin (k := 123) (by unfold Dc; decide) (fun c hc => ⟨(hv c hc).dc, ne_k (hv c hc).2.2.1⟩)) l1 (by decide) (by decide) []) (hw _ (List.mem_of_getElem? (i := 60) rfl)) (hw _ (List.mem_of_getElem? (i := 9) rfl)) (by decide) (by decide)) F_17 rfl (by rw [hml]; rfl) (lenOf pd__28_I_29_I rfl) rfl (by show 2 * 0 + _ ≤ _; exact Nat.le_of_eq rfl) (hb hby d_prog_4_m_1_31) (by decide) (by decide) ?_
  intro v_24 h_25 bk_26 O_27 z_28 Q_29
  obtain ⟨rfl, rfl, rfl⟩ := Q_29
  show Run p l e _ s m _ below meth c Z EL1 _ n0 NoB h_5 2 28 (mkF m 34 #[.val (.ref x), .val (.ref a)] [(.int ((-1) : Int32))]) _
  refine k_pure (g' := (mkF m 37 #[.val (.ref x), .val (.ref a)] [])) (fun TT HH tt kk => XS.ifNo HH hx rfl (hb hby d_prog_4_m_1_34) rfl ((if0 _ _).trans (tlt (by decide : (((-1) : Int32) < (0 : Int32)))).2.1) kk) ?_
  refine k_pure (g' := (mkF m 38 #[.val (.ref x), .val (.ref a)] [(.ref a)])) (fun TT HH tt kk => XS.aloadN HH hx rfl (hb hby d_prog_4_m_1_37) rfl rfl kk) ?_
  refine k_pure (g' := (mkF m 40 #[.val (.ref x), .val (.ref a)] [(.int (125 : Int32)), (.ref a)])) (fun TT HH tt kk => XS.bipush HH hx rfl (hb hby d_prog_4_m_1_38) kk) ?_
  refine k_callV hx (y := (⟨"java/lang/String", "indexOf", "(I)I"⟩ : MethodName)) (z := (⟨"java/lang/String", "indexOf", "(I)I"⟩ : MethodName)) (hw _ (List.mem_of_getElem? (i := 56) rfl)) (hw _ (List.mem_of_getElem? (i := 57) rfl)) (fun s' hZ => notFace_of_selects (args := #[]) (mv hZ (hw _ (List.mem_of_getElem? (i := 59) rfl)))) (hw _ (List.mem_of_getElem? (i := 59) rfl)) (hw _ (List.mem_of_getElem? (i := 58) rfl)) (by decide) (W := 0) (a := a) (argsL := [(.int (125 : Int32))]) (rest := []) (Pays.of_met (rm_sio1 l Z a0 G1 G3 hX n0 h_5 O_7 a t kb cs (125 : Int32) F_16 (notin (k := 125) (by unfold Dc; decide) (fun c hc => ⟨(hv c hc).dc, ne_k (hv c hc).2.2.2⟩)) l1 (by decide) (by decide) []) (hw _ (List.mem_of_getElem? (i := 60) rfl)) (hw _ (List.mem_of_getElem? (i := 9) rfl)) (by decide) (by decide)) F_17 rfl (by rw [hml]; rfl) (lenOf pd__28_I_29_I rfl) rfl (by show 2 * 0 + _ ≤ _; exact Nat.le_of_eq rfl) (hb hby d_prog_4_m_1_40) (by decide) (by decide) ?_
  intro v_30 h_31 bk_32 O_33 z_34 Q_35
  obtain ⟨rfl, rfl, rfl⟩ := Q_35
  show Run p l e _ s m _ below meth c Z EL1 _ n0 NoB h_5 2 28 (mkF m 43 #[.val (.ref x), .val (.ref a)] [(.int ((-1) : Int32))]) _
  refine k_pure (g' := (mkF m 60 #[.val (.ref x), .val (.ref a)] [])) (fun TT HH tt kk => XS.ifYes HH hx rfl (pc0 := 43) (pc' := 60) rfl (hb hby d_prog_4_m_1_43) rfl ((if0 _ _).trans (tlt (by decide : (((-1) : Int32) < (0 : Int32)))).1) (by decide) (by decide) kk) ?_
  refine k_pure (g' := (mkF m 61 #[.val (.ref x), .val (.ref a)] [(.ref a)])) (fun TT HH tt kk => XS.aloadN HH hx rfl (hb hby d_prog_4_m_1_60) rfl rfl kk) ?_
  refine k_ldc0 rfl hx (hw _ (List.mem_of_getElem? (i := 98) rfl)) hSA rfl (hb hby d_prog_4_m_1_61) (n := 56) (by decide +kernel) (by decide) (by decide) (by decide) ?_
  intro h_36 a_37 O_38 E_39
  have z_40 := E_39.1
  show Run p l e _ s m _ below meth c Z EL1 _ n0 NoB h_36 4 88 (mkF m 63 #[.val (.ref x), .val (.ref a)] [(.ref a_37), (.ref a)]) _
  have F_41 : StrL Z h_36 a t kb cs := (F_16.ext E_39)
  refine k_callS hx (y := (⟨"com/example/eirene/eirene/KeySpace", "utf8Length", "(Ljava/lang/String;Ljava/lang/String;)I"⟩ : MethodName)) (hw _ (List.mem_of_getElem? (i := 99) rfl)) (hw _ (List.mem_of_getElem? (i := 100) rfl)) (hw _ (List.mem_of_getElem? (i := 39) rfl)) (hw _ (List.mem_of_getElem? (i := 101) rfl)) (by decide) (W := 0) (argsL := [(.ref a), (.ref a_37)]) (rest := []) (Pays.of_met (rm_u8 l Z a0 G1 G3 hX n0 h_36 O_38 a t kb cs a_37 F_41 l1 []) (hw _ (List.mem_of_getElem? (i := 101) rfl)) (hw _ (List.mem_of_getElem? (i := 39) rfl)) (by decide) (by decide)) rfl (by rw [hml]; rfl) (lenOf pd__28_Ljava_2f_lang_2f_String_3b_Ljava_2f_lang_2f_String_3b__29_I rfl) rfl (by show 2 * 0 + _ ≤ _; exact Nat.le_of_eq rfl) (hb hby d_prog_4_m_1_63) (by decide) (by decide) ?_
  intro v_42 h_43 bk_44 O_45 z_46 Q_47
  obtain ⟨i_48, rfl, rfl, rfl⟩ := Q_47
  show Run p l e _ s m _ below meth c Z EL1 _ n0 NoB h_36 4 88 (mkF m 66 #[.val (.ref x), .val (.ref a)] [(.int i_48)]) _
  refine k_pure (g' := (mkF m 67 #[.val (.ref x), .val (.ref a)] [])) (fun TT HH tt kk => XS.pop HH hx rfl (hb hby d_prog_4_m_1_66) rfl rfl kk) ?_
  refine k_pure (g' := (mkF m 68 #[.val (.ref x), .val (.ref a)] [(.ref x)])) (fun TT HH tt kk => XS.aloadN HH hx rfl (hb hby d_prog_4_m_1_67) rfl rfl kk) ?_
  refine k_pure (g' := (mkF m 69 #[.val (.ref x), .val (.ref a)] [(.ref a), (.ref x)])) (fun TT HH tt kk => XS.aloadN HH hx rfl (hb hby d_prog_4_m_1_68) rfl rfl kk) ?_
  have F_49 : Fld Z h_36 x "com/example/eirene/eirene/KeySpace" "prefix" "Ljava/lang/String;" .null := ((pf_1.ext E_8).ext E_39)
  have F_50 : Exa Z h_36 x "com/example/eirene/eirene/KeySpace" := ((pf_0.ext E_8).ext E_39)
  refine k_putF hx (host := "") (Or.inl (hw _ (List.mem_of_getElem? (i := 119) rfl))) Via.refl F_49 F_50 (Or.inr ⟨(hw _ (List.mem_of_getElem? (i := 120) rfl)), rfl, hnm⟩) (hw _ (List.mem_of_getElem? (i := 38) rfl)) (ty := (.object "java/lang/String")) (by decide) rfl rfl (by omega) (fun q => q) rfl rfl (hb hby d_prog_4_m_1_69) ?_
  intro h_51 O_53 W_52
  have z_54 := W_52.size
  show Run p l e _ s m _ below meth c Z EL1 _ n0 NoB h_51 4 88 (mkF m 72 #[.val (.ref x), .val (.ref a)] []) _
  have F_55 : Exa Z h_51 x "com/example/eirene/eirene/KeySpace" := (F_50.wr W_52)
  exact k_ret0 hx hlk hret (hb hby d_prog_4_m_1_72) (by decide) (by decide) ⟨rfl, rfl, ((((Keep.refl _ _).ext E_8).ext E_39).wr W_52 (Or.inl (by simp))), F_55, (F_49.same W_52)⟩
def Q_ck (Z : State) (x : Addr) (a : Addr) (t : Addr) (kb : ClassId) (cs : List Int32) (b : Addr) (t2 : Addr) (kb2 : ClassId) (ds : List Int32) (h0 : Heap) (n0 : Nat) (bk : Addr → Prop) (v : Option Value) (h : Heap) (bk' : Addr → Prop) : Prop := v = some (.ref a) ∧ NoB = bk' ∧ Keep h0 h []
theorem d_prog_4_m_6_0 : decode prog_4_method_6_code 0 = .ok (.aload_n 1, 1) := by decide +kernel
theorem d_prog_4_m_6_1 : decode prog_4_method_6_code 1 = .ok (.ldc 59, 2) := by decide +kernel
theorem d_prog_4_m_6_3 : decode prog_4_method_6_code 3 = .ok (.invokestatic 9, 3) := by decide +kernel
theorem d_prog_4_m_6_6 : decode prog_4_method_6_code 6 = .ok (.pop, 1) := by decide +kernel
theorem d_prog_4_m_6_7 : decode prog_4_method_6_code 7 = .ok (.aload_n 1, 1) := by decide +kernel
theorem d_prog_4_m_6_8 : decode prog_4_method_6_code 8 = .ok (.invokevirtual 15, 3) := by decide +kernel
theorem d_prog_4_m_6_11 : decode prog_4_method_6_code 11 = .ok (.ifCond .eq 13, 3) := by decide +kernel
theorem d_prog_4_m_6_24 : decode prog_4_method_6_code 24 = .ok (.aload_n 1, 1) := by decide +kernel
theorem d_prog_4_m_6_25 : decode prog_4_method_6_code 25 = .ok (.aload_n 0, 1) := by decide +kernel
theorem d_prog_4_m_6_26 : decode prog_4_method_6_code 26 = .ok (.getfield 44, 3) := by decide +kernel
theorem d_prog_4_m_6_29 : decode prog_4_method_6_code 29 = .ok (.invokevirtual 62, 3) := by decide +kernel
theorem pd__28_Ljava_2f_lang_2f_String_3b__29_Z : parseMethodDescriptor "(Ljava/lang/String;)Z" = some ⟨[(.object "java/lang/String")], some .boolean⟩ := by decide +kernel
theorem d_prog_4_m_6_32 : decode prog_4_method_6_code 32 = .ok (.ifCond .eq 21, 3) := by decide +kernel
theorem d_prog_4_m_6_53 : decode prog_4_method_6_code 53 = .ok (.aload_n 1, 1) := by decide +kernel
theorem d_prog_4_m_6_54 : decode prog_4_method_6_code 54 = .ok (.areturn, 1) := by decide +kernel
abbrev RM_ck : Room := { frames := 4, cells := 2, slots := 16, locals := 59 }
theorem ef_ck (m : MethodId) (x0 : Addr) (x1 : Addr) : entryFrame m #[(.ref x0), (.ref x1)] 2 = mkF m 0 #[.val (.ref x0), .val (.ref x1)] [] := by first | (simp [entryFrame, mkF, argsToLocals, Value.category]; done) | rfl
set_option maxRecDepth 65536 in
set_option maxHeartbeats 40000000 in
theorem rm_ck (l : Launch) (Z : State) (a0 : Array Value) (G1 : Int32) (G3 : Value) (hX : Ctx Z a0 G1 G3) (n0 : Nat) (h0 : Heap) (O0 : Old Z n0 h0) (x : Addr) (a : Addr) (t : Addr) (kb : ClassId) (cs : List Int32) (b : Addr) (t2 : Addr) (kb2 : ClassId) (ds : List Int32) (pf_0 : Exa Z h0 x "com/example/eirene/eirene/KeySpace") (pf_1 : Fld Z h0 x "com/example/eirene/eirene/KeySpace" "prefix" "Ljava/lang/String;" (.ref b)) (pf_2 : StrL Z h0 a t kb cs) (pf_3 : StrL Z h0 b t2 kb2 ds) (hn : ¬ cs.take ds.length = ds) (l7 : ds.length ≤ 7) (l1 : 0 < cs.length) (ws : List Jvm.Cond) : Met l Z EL1 n0 NoB (⟨"com/example/eirene/eirene/KeySpace", "callerKey", "(Ljava/lang/String;)Ljava/lang/String;"⟩ : MethodName) prog_4_method_6_code 2 (Option.some (FieldType.object "java/lang/String")) RM_ck #[(.ref x), (.ref a)] h0 (Q_ck Z x a t kb cs b t2 kb2 ds h0 n0 NoB) ws := by
  have hX' := hX
  obtain ⟨hw, hE, S1, P1, S3, P3⟩ := hX'
  have hSA := sa_of hw
  have z0 : n0 ≤ h0.size := by rw [← O0.1]; exact O0.2.1
  refine Met.of (by decide +kernel) O0 hE ?_
  intro p e s m below meth c hx hby hml hret hlk hnm
  refine k_cast (ef_ck m x a) ?_
  show Run p l e _ s m _ below meth c Z EL1 _ n0 NoB h0 0 0 (mkF m 0 #[.val (.ref x), .val (.ref a)] []) _
  have lt_1 : @LT.lt Nat _ x (Array.size h0) := pf_0.lt
  have lt_2 : @LT.lt Nat _ x (Array.size h0) := pf_1.lt
  have lt_3 : @LT.lt Nat _ a (Array.size h0) := pf_2.lt1
  have lt_4 : @LT.lt Nat _ t (Array.size h0) := pf_2.lt2
  have lt_5 : @LT.lt Nat _ b (Array.size h0) := pf_3.lt1
  have lt_6 : @LT.lt Nat _ t2 (Array.size h0) := pf_3.lt2
  refine k_pure (g' := (mkF m 1 #[.val (.ref x), .val (.ref a)] [(.ref a)])) (fun TT HH tt kk => XS.aloadN HH hx rfl (hb hby d_prog_4_m_6_0) rfl rfl kk) ?_
  refine k_ldc0 rfl hx (hw _ (List.mem_of_getElem? (i := 126) rfl)) hSA rfl (hb hby d_prog_4_m_6_1) (n := 12) (by decide +kernel) (by decide) (by decide) (by decide) ?_
  intro h_7 a_8 O_9 E_10
  have z_11 := E_10.1
  show Run p l e _ s m _ below meth c Z EL1 _ n0 NoB h_7 2 16 (mkF m 3 #[.val (.ref x), .val (.ref a)] [(.ref a_8), (.ref a)]) _
  refine k_callS hx (y := (⟨"java/util/Objects", "requireNonNull", "(Ljava/lang/Object;Ljava/lang/String;)Ljava/lang/Object;"⟩ : MethodName)) (hw _ (List.mem_of_getElem? (i := 47) rfl)) (hw _ (List.mem_of_getElem? (i := 48) rfl)) (hw _ (List.mem_of_getElem? (i := 49) rfl)) (hw _ (List.mem_of_getElem? (i := 50) rfl)) (by decide) (W := 0) (argsL := [(.ref a), (.ref a_8)]) (rest := []) (Pays.of_met (rm_rnn l Z a0 G1 G3 hX n0 h_7 O_9 a a_8  []) (hw _ (List.mem_of_getElem? (i := 50) rfl)) (hw _ (List.mem_of_getElem? (i := 49) rfl)) (by decide) (by decide)) rfl (by rw [hml]; rfl) (lenOf pd__28_Ljava_2f_lang_2f_Object_3b_Ljava_2f_lang_2f_String_3b__29_Ljava_2f_lang_2f_Object_3b_ rfl) rfl (by show 2 * 0 + _ ≤ _; exact Nat.le_of_eq rfl) (hb hby d_prog_4_m_6_3) (by decide) (by decide) ?_
  intro v_12 h_13 bk_14 O_15 z_16 Q_17
  obtain ⟨rfl, rfl, rfl⟩ := Q_17
  show Run p l e _ s m _ below meth c Z EL1 _ n0 NoB h_7 2 16 (mkF m 6 #[.val (.ref x), .val (.ref a)] [(.ref a)]) _
  refine k_pure (g' := (mkF m 7 #[.val (.ref x), .val (.ref a)] [])) (fun TT HH tt kk => XS.pop HH hx rfl (hb hby d_prog_4_m_6_6) rfl rfl kk) ?_
  refine k_pure (g' := (mkF m 8 #[.val (.ref x), .val (.ref a)] [(.ref a)])) (fun TT HH tt kk => XS.aloadN HH hx rfl (hb hby d_prog_4_m_6_7) rfl rfl kk) ?_
  have F_18 : StrL Z h_7 a t kb cs := (pf_2.ext E_10)
  have F_19 : Exa Z h_7 a "java/lang/String" := (pf_2.1.ext E_10)
  refine k_callV hx (y := (⟨"java/lang/String", "isEmpty", "()Z"⟩ : MethodName)) (z := (⟨"java/lang/String", "isEmpty", "()Z"⟩ : MethodName)) (hw _ (List.mem_of_getElem? (i := 51) rfl)) (hw _ (List.mem_of_getElem? (i := 52) rfl)) (fun s' hZ => notFace_of_selects (args := #[]) (mv hZ (hw _ (List.mem_of_getElem? (i := 54) rfl)))) (hw _ (List.mem_of_getElem? (i := 54) rfl)) (hw _ (List.mem_of_getElem? (i := 53) rfl)) (by decide) (W := 0) (a := a) (argsL := []) (rest := []) (pay_emp (W := 0) hX O_9 F_18 (by decide) (by decide)) F_19 rfl (by rw [hml]; rfl) (lenOf pd__28__29_Z rfl) rfl (by show 2 * 0 + _ ≤ _; exact Nat.le_of_eq rfl) (hb hby d_prog_4_m_6_8) (by decide) (by decide) ?_
  intro v_20 h_21 bk_22 O_23 z_24 Q_25
  obtain ⟨rfl, rfl, rfl⟩ := Q_25
  show Run p l e _ s m _ below meth c Z EL1 _ n0 NoB h_7 2 16 (mkF m 11 #[.val (.ref x), .val (.ref a)] [(.int (if (cs).length = 0 then (1 : Int32) else 0))]) _
  refine k_pure (g' := (mkF m 24 #[.val (.ref x), .val (.ref a)] [])) (fun TT HH tt kk => XS.ifYes HH hx rfl (pc0 := 11) (pc' := 24) rfl (hb hby d_prog_4_m_6_11) rfl ((if0 _ _).trans (teq (if_neg (by omega))).1) (by decide) (by decide) kk) ?_
  refine k_pure (g' := (mkF m 25 #[.val (.ref x), .val (.ref a)] [(.ref a)])) (fun TT HH tt kk => XS.aloadN HH hx rfl (hb hby d_prog_4_m_6_24) rfl rfl kk) ?_
  refine k_pure (g' := (mkF m 26 #[.val (.ref x), .val (.ref a)] [(.ref x), (.ref a)])) (fun TT HH tt kk => XS.aloadN HH hx rfl (hb hby d_prog_4_m_6_25) rfl rfl kk) ?_
  have F_26 : Fld Z h_7 x "com/example/eirene/eirene/KeySpace" "prefix" "Ljava/lang/String;" (.ref b) := (pf_1.ext E_10)
  refine k_getF hx (host := "") (Or.inl (hw _ (List.mem_of_getElem? (i := 119) rfl))) Via.refl F_26 rfl rfl (hb hby d_prog_4_m_6_26) ?_
  show Run p l e _ s m _ below meth c Z EL1 _ n0 NoB h_7 2 16 (mkF m 29 #[.val (.ref x), .val (.ref a)] [(.ref b), (.ref a)]) _
  have F_27 : StrL Z h_7 b t2 kb2 ds := (pf_3.ext E_10)
  refine k_callV hx (y := (⟨"java/lang/String", "startsWith", "(Ljava/lang/String;)Z"⟩ : MethodName)) (z := (⟨"java/lang/String", "startsWith", "(Ljava/lang/String;)Z"⟩ : MethodName)) (hw _ (List.mem_of_getElem? (i := 127) rfl)) (hw _ (List.mem_of_getElem? (i := 128) rfl)) (fun s' hZ => notFace_of_selects (args := #[]) (mv hZ (hw _ (List.mem_of_getElem? (i := 130) rfl)))) (hw _ (List.mem_of_getElem? (i := 130) rfl)) (hw _ (List.mem_of_getElem? (i := 129) rfl)) (by decide) (W := 0) (a := a) (argsL := [(.ref b)]) (rest := []) (Pays.of_met (rm_sw1 l Z a0 G1 G3 hX n0 h_7 O_9 a t kb cs b t2 kb2 ds F_18 F_27 hn l7 []) (hw _ (List.mem_of_getElem? (i := 131) rfl)) (hw _ (List.mem_of_getElem? (i := 9) rfl)) (by decide) (by decide)) F_19 rfl (by rw [hml]; rfl) (lenOf pd__28_Ljava_2f_lang_2f_String_3b__29_Z rfl) rfl (by show 2 * 0 + _ ≤ _; exact Nat.le_of_eq rfl) (hb hby d_prog_4_m_6_29) (by decide) (by decide) ?_
  intro v_28 h_29 bk_30 O_31 z_32 Q_33
  obtain ⟨rfl, rfl, rfl⟩ := Q_33
  show Run p l e _ s m _ below meth c Z EL1 _ n0 NoB h_7 2 16 (mkF m 32 #[.val (.ref x), .val (.ref a)] [(.int (0 : Int32))]) _
  refine k_pure (g' := (mkF m 53 #[.val (.ref x), .val (.ref a)] [])) (fun TT HH tt kk => XS.ifYes HH hx rfl (pc0 := 32) (pc' := 53) rfl (hb hby d_prog_4_m_6_32) rfl ((if0 _ _).trans (teq (by decide : ((0 : Int32) = (0 : Int32)))).1) (by decide) (by decide) kk) ?_
  refine k_pure (g' := (mkF m 54 #[.val (.ref x), .val (.ref a)] [(.ref a)])) (fun TT HH tt kk => XS.aloadN HH hx rfl (hb hby d_prog_4_m_6_53) rfl rfl kk) ?_
  exact k_retA hx hlk hret rfl rfl rfl (hb hby d_prog_4_m_6_54) (by decide) (by decide) ⟨rfl, rfl, ((Keep.refl _ _).ext E_10)⟩
def Q_law (Z : State) (p0 : Int32) (p1 : Int32) (k0 : Int32) (k1 : Int32) (k2 : Int32) (md : Int32) (h0 : Heap) (n0 : Nat) (bk : Addr → Prop) (v : Option Value) (h : Heap) (bk' : Addr → Prop) : Prop := v = some (.int (1 : Int32)) ∧ NoB = bk' ∧ Keep h0 h []
theorem pd__28__5b_C_29_V : parseMethodDescriptor "([C)V" = some ⟨[(.array .char)], none⟩ := by decide +kernel
theorem pd__28_Ljava_2f_lang_2f_String_3b__29_V : parseMethodDescriptor "(Ljava/lang/String;)V" = some ⟨[(.object "java/lang/String")], none⟩ := by decide +kernel
theorem pd__28_Ljava_2f_lang_2f_String_3b__29_Ljava_2f_lang_2f_String_3b_ : parseMethodDescriptor "(Ljava/lang/String;)Ljava/lang/String;" = some ⟨[(.object "java/lang/String")], some (.object "java/lang/String")⟩ := by decide +kernel
theorem pd__28_Ljava_2f_lang_2f_Object_3b__29_Z : parseMethodDescriptor "(Ljava/lang/Object;)Z" = some ⟨[(.object "java/lang/Object")], some .boolean⟩ := by decide +kernel
theorem ef_law (m : MethodId) (x0 : Int32) (x1 : Int32) (x2 : Int32) (x3 : Int32) (x4 : Int32) (x5 : Int32) : entryFrame m #[(.int x0), (.int x1), (.int x2), (.int x3), (.int x4), (.int x5)] maxLocals = mkF m 0 #[.val (.int x0), .val (.int x1), .val (.int x2), .val (.int x3), .val (.int x4), .val (.int x5), .unset, .unset, .unset, .unset, .unset, .unset, .unset, .unset, .unset, .unset, .unset, .unset, .unset] [] := by first | (simp [entryFrame, mkF, argsToLocals, Value.category, maxLocals]; done) | rfl
set_option maxRecDepth 65536 in
set_option maxHeartbeats 40000000 in
theorem rm_law (l : Launch) (Z : State) (a0 : Array Value) (G1 : Int32) (G3 : Value) (hX : Ctx Z a0 G1 G3) (n0 : Nat) (h0 : Heap) (O0 : Old Z n0 h0) (p0 : Int32) (p1 : Int32) (k0 : Int32) (k1 : Int32) (k2 : Int32) (md : Int32)  (ws : List Jvm.Cond) : Met l Z EL1 n0 NoB Jvm.Pilot.@@N@@.x code maxLocals ret room_1 #[(.int p0), (.int p1), (.int k0), (.int k1), (.int k2), (.int md)] h0 (Q_law Z p0 p1 k0 k1 k2 md h0 n0 NoB) ws := by
  have hX' := hX
  obtain ⟨hw, hE, S1, P1, S3, P3⟩ := hX'
  have hSA := sa_of hw
  have z0 : n0 ≤ h0.size := by rw [← O0.1]; exact O0.2.1
  refine Met.of (by decide +kernel) O0 hE ?_
  intro p e s m below meth c hx hby hml hret hlk hnm
  refine k_cast (ef_law m p0 p1 k0 k1 k2 md) ?_
  show Run p l e _ s m _ below meth c Z EL1 _ n0 NoB h0 0 0 (mkF m 0 #[.val (.int p0), .val (.int p1), .val (.int k0), .val (.int k1), .val (.int k2), .val (.int md), .unset, .unset, .unset, .unset, .unset, .unset, .unset, .unset, .unset, .unset, .unset, .unset, .unset] []) _
  refine k_pure (g' := (mkF m 2 #[.val (.int p0), .val (.int p1), .val (.int k0), .val (.int k1), .val (.int k2), .val (.int md), .unset, .unset, .unset, .unset, .unset, .unset, .unset, .unset, .unset, .unset, .unset, .unset, .unset] [(.int md)])) (fun TT HH tt kk => XS.iload HH hx rfl (hb hby at_0) rfl kk) ?_
  refine k_pure (g' := (mkF m 3 #[.val (.int p0), .val (.int p1), .val (.int k0), .val (.int k1), .val (.int k2), .val (.int md), .unset, .unset, .unset, .unset, .unset, .unset, .unset, .unset, .unset, .unset, .unset, .unset, .unset] [(.int (1 : Int32)), (.int md)])) (fun TT HH tt kk => XS.iconst HH hx rfl (hb hby at_2) kk) ?_
  refine k_pure (g' := (mkF m 4 #[.val (.int p0), .val (.int p1), .val (.int k0), .val (.int k1), .val (.int k2), .val (.int md), .unset, .unset, .unset, .unset, .unset, .unset, .unset, .unset, .unset, .unset, .unset, .unset, .unset] [(.int (md &&& (1 : Int32)))])) (fun TT HH tt kk => XS.iand HH hx rfl (hb hby at_3) rfl kk) ?_
  have J12 : ∀ sm : Int32, Run p l e room_1 s m #[(.int p0), (.int p1), (.int k0), (.int k1), (.int k2), (.int md)] below meth c Z EL1 "com/example/eirene/eirene/KeySpaceCallerKeyPinLaw" n0 NoB h0 0 0 (mkF m 12 #[.val (.int p0), .val (.int p1), .val (.int k0), .val (.int k1), .val (.int k2), .val (.int md), .unset, .unset, .unset, .unset, .unset, .unset, .unset, .unset, .unset, .unset, .unset, .unset, .unset] [(.int sm)]) (Q_law Z p0 p1 k0 k1 k2 md h0 n0 NoB) := by
    intro sm
    refine k_pure (g' := (mkF m 14 #[.val (.int p0), .val (.int p1), .val (.int k0), .val (.int k1), .val (.int k2), .val (.int md), .val (.int sm), .unset, .unset, .unset, .unset, .unset, .unset, .unset, .unset, .unset, .unset, .unset, .unset] [])) (fun TT HH tt kk => XS.istore HH hx rfl (hb hby at_12) rfl (l' := #[.val (.int p0), .val (.int p1), .val (.int k0), .val (.int k1), .val (.int k2), .val (.int md), .val (.int sm), .unset, .unset, .unset, .unset, .unset, .unset, .unset, .unset, .unset, .unset, .unset, .unset]) rfl kk) ?_
    refine k_pure (g' := (mkF m 16 #[.val (.int p0), .val (.int p1), .val (.int k0), .val (.int k1), .val (.int k2), .val (.int md), .val (.int sm), .unset, .unset, .unset, .unset, .unset, .unset, .unset, .unset, .unset, .unset, .unset, .unset] [(.int md)])) (fun TT HH tt kk => XS.iload HH hx rfl (hb hby at_14) rfl kk) ?_
    refine k_pure (g' := (mkF m 17 #[.val (.int p0), .val (.int p1), .val (.int k0), .val (.int k1), .val (.int k2), .val (.int md), .val (.int sm), .unset, .unset, .unset, .unset, .unset, .unset, .unset, .unset, .unset, .unset, .unset, .unset] [(.int (1 : Int32)), (.int md)])) (fun TT HH tt kk => XS.iconst HH hx rfl (hb hby at_16) kk) ?_
    refine k_pure (g' := (mkF m 18 #[.val (.int p0), .val (.int p1), .val (.int k0), .val (.int k1), .val (.int k2), .val (.int md), .val (.int sm), .unset, .unset, .unset, .unset, .unset, .unset, .unset, .unset, .unset, .unset, .unset, .unset] [(.int ((md.toUInt32 >>> ((1 : Int32) &&& 31).toUInt32).toInt32))])) (fun TT HH tt kk => XS.iushr HH hx rfl (hb hby at_17) rfl kk) ?_
    refine k_pure (g' := (mkF m 19 #[.val (.int p0), .val (.int p1), .val (.int k0), .val (.int k1), .val (.int k2), .val (.int md), .val (.int sm), .unset, .unset, .unset, .unset, .unset, .unset, .unset, .unset, .unset, .unset, .unset, .unset] [(.int (1 : Int32)), (.int ((md.toUInt32 >>> ((1 : Int32) &&& 31).toUInt32).toInt32))])) (fun TT HH tt kk => XS.iconst HH hx rfl (hb hby at_18) kk) ?_
    refine k_pure (g' := (mkF m 20 #[.val (.int p0), .val (.int p1), .val (.int k0), .val (.int k1), .val (.int k2), .val (.int md), .val (.int sm), .unset, .unset, .unset, .unset, .unset, .unset, .unset, .unset, .unset, .unset, .unset, .unset] [(.int (((md.toUInt32 >>> ((1 : Int32) &&& 31).toUInt32).toInt32) &&& (1 : Int32)))])) (fun TT HH tt kk => XS.iand HH hx rfl (hb hby at_19) rfl kk) ?_
    refine k_pure (g' := (mkF m 21 #[.val (.int p0), .val (.int p1), .val (.int k0), .val (.int k1), .val (.int k2), .val (.int md), .val (.int sm), .unset, .unset, .unset, .unset, .unset, .unset, .unset, .unset, .unset, .unset, .unset, .unset] [(.int (1 : Int32)), (.int (((md.toUInt32 >>> ((1 : Int32) &&& 31).toUInt32).toInt32) &&& (1 : Int32)))])) (fun TT HH tt kk => XS.iconst HH hx rfl (hb hby at_20) kk) ?_
    refine k_pure (g' := (mkF m 22 #[.val (.int p0), .val (.int p1), .val (.int k0), .val (.int k1), .val (.int k2), .val (.int md), .val (.int sm), .unset, .unset, .unset, .unset, .unset, .unset, .unset, .unset, .unset, .unset, .unset, .unset] [(.int ((((md.toUInt32 >>> ((1 : Int32) &&& 31).toUInt32).toInt32) &&& (1 : Int32)) + (1 : Int32)))])) (fun TT HH tt kk => XS.iadd HH hx rfl (hb hby at_21) rfl kk) ?_
    refine k_pure (g' := (mkF m 24 #[.val (.int p0), .val (.int p1), .val (.int k0), .val (.int k1), .val (.int k2), .val (.int md), .val (.int sm), .val (.int ((((md.toUInt32 >>> ((1 : Int32) &&& 31).toUInt32).toInt32) &&& (1 : Int32)) + (1 : Int32))), .unset, .unset, .unset, .unset, .unset, .unset, .unset, .unset, .unset, .unset, .unset] [])) (fun TT HH tt kk => XS.istore HH hx rfl (hb hby at_22) rfl (l' := #[.val (.int p0), .val (.int p1), .val (.int k0), .val (.int k1), .val (.int k2), .val (.int md), .val (.int sm), .val (.int ((((md.toUInt32 >>> ((1 : Int32) &&& 31).toUInt32).toInt32) &&& (1 : Int32)) + (1 : Int32))), .unset, .unset, .unset, .unset, .unset, .unset, .unset, .unset, .unset, .unset, .unset]) rfl kk) ?_
    have g7 : N2 ((((md.toUInt32 >>> ((1 : Int32) &&& 31).toUInt32).toInt32) &&& (1 : Int32)) + (1 : Int32)) := (by have r0 := rng32 md; have r1 : ((md.toUInt32 >>> ((1 : Int32) &&& 31).toUInt32).toInt32).toInt = (md.toInt % 4294967296) / 2 := (c_iushr md (1 : Int32) 1 (by decide) (by decide)); have r2 := rng32 ((md.toUInt32 >>> ((1 : Int32) &&& 31).toUInt32).toInt32); have r3 : (((md.toUInt32 >>> ((1 : Int32) &&& 31).toUInt32).toInt32) &&& (1 : Int32)).toInt = ((md.toUInt32 >>> ((1 : Int32) &&& 31).toUInt32).toInt32).toInt % 2 := (c_mask ((md.toUInt32 >>> ((1 : Int32) &&& 31).toUInt32).toInt32) (1 : Int32) 1 (by decide) (by decide)); have r4 := rng32 (((md.toUInt32 >>> ((1 : Int32) &&& 31).toUInt32).toInt32) &&& (1 : Int32)); have r5 : (1 : Int32).toInt = 1 := (by decide); have r6 := c_iadd (((md.toUInt32 >>> ((1 : Int32) &&& 31).toUInt32).toInt32) &&& (1 : Int32)) (1 : Int32); have r7 := rng32 ((((md.toUInt32 >>> ((1 : Int32) &&& 31).toUInt32).toInt32) &&& (1 : Int32)) + (1 : Int32)); exact N2.of (by omega) (by omega))
    generalize ((((md.toUInt32 >>> ((1 : Int32) &&& 31).toUInt32).toInt32) &&& (1 : Int32)) + (1 : Int32)) = n1 at g7 ⊢
    show Run p l e _ s m _ below meth c Z EL1 _ n0 NoB h0 0 0 (mkF m 24 #[.val (.int p0), .val (.int p1), .val (.int k0), .val (.int k1), .val (.int k2), .val (.int md), .val (.int sm), .val (.int n1), .unset, .unset, .unset, .unset, .unset, .unset, .unset, .unset, .unset, .unset, .unset] []) _
    refine k_pure (g' := (mkF m 26 #[.val (.int p0), .val (.int p1), .val (.int k0), .val (.int k1), .val (.int k2), .val (.int md), .val (.int sm), .val (.int n1), .unset, .unset, .unset, .unset, .unset, .unset, .unset, .unset, .unset, .unset, .unset] [(.int md)])) (fun TT HH tt kk => XS.iload HH hx rfl (hb hby at_24) rfl kk) ?_
    refine k_pure (g' := (mkF m 27 #[.val (.int p0), .val (.int p1), .val (.int k0), .val (.int k1), .val (.int k2), .val (.int md), .val (.int sm), .val (.int n1), .unset, .unset, .unset, .unset, .unset, .unset, .unset, .unset, .unset, .unset, .unset] [(.int (2 : Int32)), (.int md)])) (fun TT HH tt kk => XS.iconst HH hx rfl (hb hby at_26) kk) ?_
    refine k_pure (g' := (mkF m 28 #[.val (.int p0), .val (.int p1), .val (.int k0), .val (.int k1), .val (.int k2), .val (.int md), .val (.int sm), .val (.int n1), .unset, .unset, .unset, .unset, .unset, .unset, .unset, .unset, .unset, .unset, .unset] [(.int ((md.toUInt32 >>> ((2 : Int32) &&& 31).toUInt32).toInt32))])) (fun TT HH tt kk => XS.iushr HH hx rfl (hb hby at_27) rfl kk) ?_
    refine k_pure (g' := (mkF m 29 #[.val (.int p0), .val (.int p1), .val (.int k0), .val (.int k1), .val (.int k2), .val (.int md), .val (.int sm), .val (.int n1), .unset, .unset, .unset, .unset, .unset, .unset, .unset, .unset, .unset, .unset, .unset] [(.int (3 : Int32)), (.int ((md.toUInt32 >>> ((2 : Int32) &&& 31).toUInt32).toInt32))])) (fun TT HH tt kk => XS.iconst HH hx rfl (hb hby at_28) kk) ?_
    refine k_pure (g' := (mkF m 30 #[.val (.int p0), .val (.int p1), .val (.int k0), .val (.int k1), .val (.int k2), .val (.int md), .val (.int sm), .val (.int n1), .unset, .unset, .unset, .unset, .unset, .unset, .unset, .unset, .unset, .unset, .unset] [(.int (((md.toUInt32 >>> ((2 : Int32) &&& 31).toUInt32).toInt32) &&& (3 : Int32)))])) (fun TT HH tt kk => XS.iand HH hx rfl (hb hby at_29) rfl kk) ?_
    refine k_pure (g' := (mkF m 31 #[.val (.int p0), .val (.int p1), .val (.int k0), .val (.int k1), .val (.int k2), .val (.int md), .val (.int sm), .val (.int n1), .unset, .unset, .unset, .unset, .unset, .unset, .unset, .unset, .unset, .unset, .unset] [(.int (3 : Int32)), (.int (((md.toUInt32 >>> ((2 : Int32) &&& 31).toUInt32).toInt32) &&& (3 : Int32)))])) (fun TT HH tt kk => XS.iconst HH hx rfl (hb hby at_30) kk) ?_
    refine k_pure (g' := (mkF m 32 #[.val (.int p0), .val (.int p1), .val (.int k0), .val (.int k1), .val (.int k2), .val (.int md), .val (.int sm), .val (.int n1), .unset, .unset, .unset, .unset, .unset, .unset, .unset, .unset, .unset, .unset, .unset] [(.int ((((md.toUInt32 >>> ((2 : Int32) &&& 31).toUInt32).toInt32) &&& (3 : Int32)) % (3 : Int32)))])) (fun TT HH tt kk => s_irem HH hx rfl (hb hby at_31) rfl (by decide) kk) ?_
    refine k_pure (g' := (mkF m 33 #[.val (.int p0), .val (.int p1), .val (.int k0), .val (.int k1), .val (.int k2), .val (.int md), .val (.int sm), .val (.int n1), .unset, .unset, .unset, .unset, .unset, .unset, .unset, .unset, .unset, .unset, .unset] [(.int (1 : Int32)), (.int ((((md.toUInt32 >>> ((2 : Int32) &&& 31).toUInt32).toInt32) &&& (3 : Int32)) % (3 : Int32)))])) (fun TT HH tt kk => XS.iconst HH hx rfl (hb hby at_32) kk) ?_
    refine k_pure (g' := (mkF m 34 #[.val (.int p0), .val (.int p1), .val (.int k0), .val (.int k1), .val (.int k2), .val (.int md), .val (.int sm), .val (.int n1), .unset, .unset, .unset, .unset, .unset, .unset, .unset, .unset, .unset, .unset, .unset] [(.int (((((md.toUInt32 >>> ((2 : Int32) &&& 31).toUInt32).toInt32) &&& (3 : Int32)) % (3 : Int32)) + (1 : Int32)))])) (fun TT HH tt kk => XS.iadd HH hx rfl (hb hby at_33) rfl kk) ?_
    refine k_pure (g' := (mkF m 36 #[.val (.int p0), .val (.int p1), .val (.int k0), .val (.int k1), .val (.int k2), .val (.int md), .val (.int sm), .val (.int n1), .val (.int (((((md.toUInt32 >>> ((2 : Int32) &&& 31).toUInt32).toInt32) &&& (3 : Int32)) % (3 : Int32)) + (1 : Int32))), .unset, .unset, .unset, .unset, .unset, .unset, .unset, .unset, .unset, .unset] [])) (fun TT HH tt kk => XS.istore HH hx rfl (hb hby at_34) rfl (l' := #[.val (.int p0), .val (.int p1), .val (.int k0), .val (.int k1), .val (.int k2), .val (.int md), .val (.int sm), .val (.int n1), .val (.int (((((md.toUInt32 >>> ((2 : Int32) &&& 31).toUInt32).toInt32) &&& (3 : Int32)) % (3 : Int32)) + (1 : Int32))), .unset, .unset, .unset, .unset, .unset, .unset, .unset, .unset, .unset, .unset]) rfl kk) ?_
    have g8 : L3 (((((md.toUInt32 >>> ((2 : Int32) &&& 31).toUInt32).toInt32) &&& (3 : Int32)) % (3 : Int32)) + (1 : Int32)) := (by have r0 := rng32 md; have r1 : ((md.toUInt32 >>> ((2 : Int32) &&& 31).toUInt32).toInt32).toInt = (md.toInt % 4294967296) / 4 := (c_iushr md (2 : Int32) 2 (by decide) (by decide)); have r2 := rng32 ((md.toUInt32 >>> ((2 : Int32) &&& 31).toUInt32).toInt32); have r3 : (((md.toUInt32 >>> ((2 : Int32) &&& 31).toUInt32).toInt32) &&& (3 : Int32)).toInt = ((md.toUInt32 >>> ((2 : Int32) &&& 31).toUInt32).toInt32).toInt % 4 := (c_mask ((md.toUInt32 >>> ((2 : Int32) &&& 31).toUInt32).toInt32) (3 : Int32) 2 (by decide) (by decide)); have r4 := rng32 (((md.toUInt32 >>> ((2 : Int32) &&& 31).toUInt32).toInt32) &&& (3 : Int32)); have r5 := c_irem (((md.toUInt32 >>> ((2 : Int32) &&& 31).toUInt32).toInt32) &&& (3 : Int32)) (3 : Int32) 3 (by decide); have r6 := rng32 ((((md.toUInt32 >>> ((2 : Int32) &&& 31).toUInt32).toInt32) &&& (3 : Int32)) % (3 : Int32)); have r7 : (1 : Int32).toInt = 1 := (by decide); have r8 := c_iadd ((((md.toUInt32 >>> ((2 : Int32) &&& 31).toUInt32).toInt32) &&& (3 : Int32)) % (3 : Int32)) (1 : Int32); have r9 := rng32 (((((md.toUInt32 >>> ((2 : Int32) &&& 31).toUInt32).toInt32) &&& (3 : Int32)) % (3 : Int32)) + (1 : Int32)); exact L3.of (by omega) (by omega))
    generalize (((((md.toUInt32 >>> ((2 : Int32) &&& 31).toUInt32).toInt32) &&& (3 : Int32)) % (3 : Int32)) + (1 : Int32)) = n2 at g8 ⊢
    show Run p l e _ s m _ below meth c Z EL1 _ n0 NoB h0 0 0 (mkF m 36 #[.val (.int p0), .val (.int p1), .val (.int k0), .val (.int k1), .val (.int k2), .val (.int md), .val (.int sm), .val (.int n1), .val (.int n2), .unset, .unset, .unset, .unset, .unset, .unset, .unset, .unset, .unset, .unset] []) _
    refine k_pure (g' := (mkF m 37 #[.val (.int p0), .val (.int p1), .val (.int k0), .val (.int k1), .val (.int k2), .val (.int md), .val (.int sm), .val (.int n1), .val (.int n2), .unset, .unset, .unset, .unset, .unset, .unset, .unset, .unset, .unset, .unset] [(.int p0)])) (fun TT HH tt kk => XS.iloadN HH hx rfl (hb hby at_36) rfl kk) ?_
    refine k_pure (g' := (mkF m 39 #[.val (.int p0), .val (.int p1), .val (.int k0), .val (.int k1), .val (.int k2), .val (.int md), .val (.int sm), .val (.int n1), .val (.int n2), .unset, .unset, .unset, .unset, .unset, .unset, .unset, .unset, .unset, .unset] [(.int sm), (.int p0)])) (fun TT HH tt kk => XS.iload HH hx rfl (hb hby at_37) rfl kk) ?_
    refine k_callS hx (y := (⟨"com/example/eirene/eirene/KeySpaceCallerKeyPinLaw", "prefixChar", "(IZ)C"⟩ : MethodName)) (hw _ (List.mem_of_getElem? (i := 0) rfl)) (hw _ (List.mem_of_getElem? (i := 1) rfl)) (hw _ (List.mem_of_getElem? (i := 2) rfl)) (hw _ (List.mem_of_getElem? (i := 3) rfl)) (by decide) (W := 0) (argsL := [(.int p0), (.int sm)]) (rest := []) (Pays.of_met (rm_pfx l Z a0 G1 G3 hX n0 h0 O0 p0 sm  []) (hw _ (List.mem_of_getElem? (i := 3) rfl)) (hw _ (List.mem_of_getElem? (i := 2) rfl)) (by decide) (by decide)) rfl (by rw [hml]; rfl) (lenOf pd__28_IZ_29_C rfl) rfl (by show 2 * 0 + _ ≤ _; exact Nat.le_of_eq rfl) (hb hby at_39) (by decide) (by decide) ?_
    intro v_1 h_2 bk_3 O_4 z_5 Q_6
    obtain ⟨i_7, rfl, rfl, rfl, P_8⟩ := Q_6
    show Run p l e _ s m _ below meth c Z EL1 _ n0 NoB h0 0 0 (mkF m 42 #[.val (.int p0), .val (.int p1), .val (.int k0), .val (.int k1), .val (.int k2), .val (.int md), .val (.int sm), .val (.int n1), .val (.int n2), .unset, .unset, .unset, .unset, .unset, .unset, .unset, .unset, .unset, .unset] [(.int i_7)]) _
    refine k_pure (g' := (mkF m 44 #[.val (.int p0), .val (.int p1), .val (.int k0), .val (.int k1), .val (.int k2), .val (.int md), .val (.int sm), .val (.int n1), .val (.int n2), .val (.int i_7), .unset, .unset, .unset, .unset, .unset, .unset, .unset, .unset, .unset] [])) (fun TT HH tt kk => XS.istore HH hx rfl (hb hby at_42) rfl (l' := #[.val (.int p0), .val (.int p1), .val (.int k0), .val (.int k1), .val (.int k2), .val (.int md), .val (.int sm), .val (.int n1), .val (.int n2), .val (.int i_7), .unset, .unset, .unset, .unset, .unset, .unset, .unset, .unset, .unset]) rfl kk) ?_
    refine k_pure (g' := (mkF m 45 #[.val (.int p0), .val (.int p1), .val (.int k0), .val (.int k1), .val (.int k2), .val (.int md), .val (.int sm), .val (.int n1), .val (.int n2), .val (.int i_7), .unset, .unset, .unset, .unset, .unset, .unset, .unset, .unset, .unset] [(.int p1)])) (fun TT HH tt kk => XS.iloadN HH hx rfl (hb hby at_44) rfl kk) ?_
    refine k_pure (g' := (mkF m 47 #[.val (.int p0), .val (.int p1), .val (.int k0), .val (.int k1), .val (.int k2), .val (.int md), .val (.int sm), .val (.int n1), .val (.int n2), .val (.int i_7), .unset, .unset, .unset, .unset, .unset, .unset, .unset, .unset, .unset] [(.int sm), (.int p1)])) (fun TT HH tt kk => XS.iload HH hx rfl (hb hby at_45) rfl kk) ?_
    refine k_callS hx (y := (⟨"com/example/eirene/eirene/KeySpaceCallerKeyPinLaw", "prefixChar", "(IZ)C"⟩ : MethodName)) (hw _ (List.mem_of_getElem? (i := 0) rfl)) (hw _ (List.mem_of_getElem? (i := 1) rfl)) (hw _ (List.mem_of_getElem? (i := 2) rfl)) (hw _ (List.mem_of_getElem? (i := 3) rfl)) (by decide) (W := 0) (argsL := [(.int p1), (.int sm)]) (rest := []) (Pays.of_met (rm_pfx l Z a0 G1 G3 hX n0 h0 O0 p1 sm  []) (hw _ (List.mem_of_getElem? (i := 3) rfl)) (hw _ (List.mem_of_getElem? (i := 2) rfl)) (by decide) (by decide)) rfl (by rw [hml]; rfl) (lenOf pd__28_IZ_29_C rfl) rfl (by show 2 * 0 + _ ≤ _; exact Nat.le_of_eq rfl) (hb hby at_47) (by decide) (by decide) ?_
    intro v_9 h_10 bk_11 O_12 z_13 Q_14
    obtain ⟨i_15, rfl, rfl, rfl, P_16⟩ := Q_14
    show Run p l e _ s m _ below meth c Z EL1 _ n0 NoB h0 0 0 (mkF m 50 #[.val (.int p0), .val (.int p1), .val (.int k0), .val (.int k1), .val (.int k2), .val (.int md), .val (.int sm), .val (.int n1), .val (.int n2), .val (.int i_7), .unset, .unset, .unset, .unset, .unset, .unset, .unset, .unset, .unset] [(.int i_15)]) _
    refine k_pure (g' := (mkF m 52 #[.val (.int p0), .val (.int p1), .val (.int k0), .val (.int k1), .val (.int k2), .val (.int md), .val (.int sm), .val (.int n1), .val (.int n2), .val (.int i_7), .val (.int i_15), .unset, .unset, .unset, .unset, .unset, .unset, .unset, .unset] [])) (fun TT HH tt kk => XS.istore HH hx rfl (hb hby at_50) rfl (l' := #[.val (.int p0), .val (.int p1), .val (.int k0), .val (.int k1), .val (.int k2), .val (.int md), .val (.int sm), .val (.int n1), .val (.int n2), .val (.int i_7), .val (.int i_15), .unset, .unset, .unset, .unset, .unset, .unset, .unset, .unset]) rfl kk) ?_
    refine k_pure (g' := (mkF m 53 #[.val (.int p0), .val (.int p1), .val (.int k0), .val (.int k1), .val (.int k2), .val (.int md), .val (.int sm), .val (.int n1), .val (.int n2), .val (.int i_7), .val (.int i_15), .unset, .unset, .unset, .unset, .unset, .unset, .unset, .unset] [(.int k0)])) (fun TT HH tt kk => XS.iloadN HH hx rfl (hb hby at_52) rfl kk) ?_
    refine k_pure (g' := (mkF m 55 #[.val (.int p0), .val (.int p1), .val (.int k0), .val (.int k1), .val (.int k2), .val (.int md), .val (.int sm), .val (.int n1), .val (.int n2), .val (.int i_7), .val (.int i_15), .unset, .unset, .unset, .unset, .unset, .unset, .unset, .unset] [(.int sm), (.int k0)])) (fun TT HH tt kk => XS.iload HH hx rfl (hb hby at_53) rfl kk) ?_
    refine k_callS hx (y := (⟨"com/example/eirene/eirene/KeySpaceCallerKeyPinLaw", "draw", "(IZ)C"⟩ : MethodName)) (hw _ (List.mem_of_getElem? (i := 4) rfl)) (hw _ (List.mem_of_getElem? (i := 5) rfl)) (hw _ (List.mem_of_getElem? (i := 2) rfl)) (hw _ (List.mem_of_getElem? (i := 6) rfl)) (by decide) (W := 0) (argsL := [(.int k0), (.int sm)]) (rest := []) (Pays.of_met (rm_draw l Z a0 G1 G3 hX n0 h0 O0 k0 sm  []) (hw _ (List.mem_of_getElem? (i := 6) rfl)) (hw _ (List.mem_of_getElem? (i := 2) rfl)) (by decide) (by decide)) rfl (by rw [hml]; rfl) (lenOf pd__28_IZ_29_C rfl) rfl (by show 2 * 0 + _ ≤ _; exact Nat.le_of_eq rfl) (hb hby at_55) (by decide) (by decide) ?_
    intro v_17 h_18 bk_19 O_20 z_21 Q_22
    obtain ⟨i_23, rfl, rfl, rfl, P_24⟩ := Q_22
    show Run p l e _ s m _ below meth c Z EL1 _ n0 NoB h0 0 0 (mkF m 58 #[.val (.int p0), .val (.int p1), .val (.int k0), .val (.int k1), .val (.int k2), .val (.int md), .val (.int sm), .val (.int n1), .val (.int n2), .val (.int i_7), .val (.int i_15), .unset, .unset, .unset, .unset, .unset, .unset, .unset, .unset] [(.int i_23)]) _
    refine k_pure (g' := (mkF m 60 #[.val (.int p0), .val (.int p1), .val (.int k0), .val (.int k1), .val (.int k2), .val (.int md), .val (.int sm), .val (.int n1), .val (.int n2), .val (.int i_7), .val (.int i_15), .val (.int i_23), .unset, .unset, .unset, .unset, .unset, .unset, .unset] [])) (fun TT HH tt kk => XS.istore HH hx rfl (hb hby at_58) rfl (l' := #[.val (.int p0), .val (.int p1), .val (.int k0), .val (.int k1), .val (.int k2), .val (.int md), .val (.int sm), .val (.int n1), .val (.int n2), .val (.int i_7), .val (.int i_15), .val (.int i_23), .unset, .unset, .unset, .unset, .unset, .unset, .unset]) rfl kk) ?_
    refine k_pure (g' := (mkF m 61 #[.val (.int p0), .val (.int p1), .val (.int k0), .val (.int k1), .val (.int k2), .val (.int md), .val (.int sm), .val (.int n1), .val (.int n2), .val (.int i_7), .val (.int i_15), .val (.int i_23), .unset, .unset, .unset, .unset, .unset, .unset, .unset] [(.int k1)])) (fun TT HH tt kk => XS.iloadN HH hx rfl (hb hby at_60) rfl kk) ?_
    refine k_pure (g' := (mkF m 63 #[.val (.int p0), .val (.int p1), .val (.int k0), .val (.int k1), .val (.int k2), .val (.int md), .val (.int sm), .val (.int n1), .val (.int n2), .val (.int i_7), .val (.int i_15), .val (.int i_23), .unset, .unset, .unset, .unset, .unset, .unset, .unset] [(.int sm), (.int k1)])) (fun TT HH tt kk => XS.iload HH hx rfl (hb hby at_61) rfl kk) ?_
    refine k_callS hx (y := (⟨"com/example/eirene/eirene/KeySpaceCallerKeyPinLaw", "draw", "(IZ)C"⟩ : MethodName)) (hw _ (List.mem_of_getElem? (i := 4) rfl)) (hw _ (List.mem_of_getElem? (i := 5) rfl)) (hw _ (List.mem_of_getElem? (i := 2) rfl)) (hw _ (List.mem_of_getElem? (i := 6) rfl)) (by decide) (W := 0) (argsL := [(.int k1), (.int sm)]) (rest := []) (Pays.of_met (rm_draw l Z a0 G1 G3 hX n0 h0 O0 k1 sm  []) (hw _ (List.mem_of_getElem? (i := 6) rfl)) (hw _ (List.mem_of_getElem? (i := 2) rfl)) (by decide) (by decide)) rfl (by rw [hml]; rfl) (lenOf pd__28_IZ_29_C rfl) rfl (by show 2 * 0 + _ ≤ _; exact Nat.le_of_eq rfl) (hb hby at_63) (by decide) (by decide) ?_
    intro v_25 h_26 bk_27 O_28 z_29 Q_30
    obtain ⟨i_31, rfl, rfl, rfl, P_32⟩ := Q_30
    show Run p l e _ s m _ below meth c Z EL1 _ n0 NoB h0 0 0 (mkF m 66 #[.val (.int p0), .val (.int p1), .val (.int k0), .val (.int k1), .val (.int k2), .val (.int md), .val (.int sm), .val (.int n1), .val (.int n2), .val (.int i_7), .val (.int i_15), .val (.int i_23), .unset, .unset, .unset, .unset, .unset, .unset, .unset] [(.int i_31)]) _
    refine k_pure (g' := (mkF m 68 #[.val (.int p0), .val (.int p1), .val (.int k0), .val (.int k1), .val (.int k2), .val (.int md), .val (.int sm), .val (.int n1), .val (.int n2), .val (.int i_7), .val (.int i_15), .val (.int i_23), .val (.int i_31), .unset, .unset, .unset, .unset, .unset, .unset] [])) (fun TT HH tt kk => XS.istore HH hx rfl (hb hby at_66) rfl (l' := #[.val (.int p0), .val (.int p1), .val (.int k0), .val (.int k1), .val (.int k2), .val (.int md), .val (.int sm), .val (.int n1), .val (.int n2), .val (.int i_7), .val (.int i_15), .val (.int i_23), .val (.int i_31), .unset, .unset, .unset, .unset, .unset, .unset]) rfl kk) ?_
    refine k_pure (g' := (mkF m 70 #[.val (.int p0), .val (.int p1), .val (.int k0), .val (.int k1), .val (.int k2), .val (.int md), .val (.int sm), .val (.int n1), .val (.int n2), .val (.int i_7), .val (.int i_15), .val (.int i_23), .val (.int i_31), .unset, .unset, .unset, .unset, .unset, .unset] [(.int k2)])) (fun TT HH tt kk => XS.iload HH hx rfl (hb hby at_68) rfl kk) ?_
    refine k_pure (g' := (mkF m 72 #[.val (.int p0), .val (.int p1), .val (.int k0), .val (.int k1), .val (.int k2), .val (.int md), .val (.int sm), .val (.int n1), .val (.int n2), .val (.int i_7), .val (.int i_15), .val (.int i_23), .val (.int i_31), .unset, .unset, .unset, .unset, .unset, .unset] [(.int sm), (.int k2)])) (fun TT HH tt kk => XS.iload HH hx rfl (hb hby at_70) rfl kk) ?_
    refine k_callS hx (y := (⟨"com/example/eirene/eirene/KeySpaceCallerKeyPinLaw", "draw", "(IZ)C"⟩ : MethodName)) (hw _ (List.mem_of_getElem? (i := 4) rfl)) (hw _ (List.mem_of_getElem? (i := 5) rfl)) (hw _ (List.mem_of_getElem? (i := 2) rfl)) (hw _ (List.mem_of_getElem? (i := 6) rfl)) (by decide) (W := 0) (argsL := [(.int k2), (.int sm)]) (rest := []) (Pays.of_met (rm_draw l Z a0 G1 G3 hX n0 h0 O0 k2 sm  []) (hw _ (List.mem_of_getElem? (i := 6) rfl)) (hw _ (List.mem_of_getElem? (i := 2) rfl)) (by decide) (by decide)) rfl (by rw [hml]; rfl) (lenOf pd__28_IZ_29_C rfl) rfl (by show 2 * 0 + _ ≤ _; exact Nat.le_of_eq rfl) (hb hby at_72) (by decide) (by decide) ?_
    intro v_33 h_34 bk_35 O_36 z_37 Q_38
    obtain ⟨i_39, rfl, rfl, rfl, P_40⟩ := Q_38
    show Run p l e _ s m _ below meth c Z EL1 _ n0 NoB h0 0 0 (mkF m 75 #[.val (.int p0), .val (.int p1), .val (.int k0), .val (.int k1), .val (.int k2), .val (.int md), .val (.int sm), .val (.int n1), .val (.int n2), .val (.int i_7), .val (.int i_15), .val (.int i_23), .val (.int i_31), .unset, .unset, .unset, .unset, .unset, .unset] [(.int i_39)]) _
    refine k_pure (g' := (mkF m 77 #[.val (.int p0), .val (.int p1), .val (.int k0), .val (.int k1), .val (.int k2), .val (.int md), .val (.int sm), .val (.int n1), .val (.int n2), .val (.int i_7), .val (.int i_15), .val (.int i_23), .val (.int i_31), .val (.int i_39), .unset, .unset, .unset, .unset, .unset] [])) (fun TT HH tt kk => XS.istore HH hx rfl (hb hby at_75) rfl (l' := #[.val (.int p0), .val (.int p1), .val (.int k0), .val (.int k1), .val (.int k2), .val (.int md), .val (.int sm), .val (.int n1), .val (.int n2), .val (.int i_7), .val (.int i_15), .val (.int i_23), .val (.int i_31), .val (.int i_39), .unset, .unset, .unset, .unset, .unset]) rfl kk) ?_
    rcases g7 with rfl | rfl
    · show Run p l e _ s m _ below meth c Z EL1 _ n0 NoB h0 0 0 (mkF m 77 #[.val (.int p0), .val (.int p1), .val (.int k0), .val (.int k1), .val (.int k2), .val (.int md), .val (.int sm), .val (.int (1 : Int32)), .val (.int n2), .val (.int i_7), .val (.int i_15), .val (.int i_23), .val (.int i_31), .val (.int i_39), .unset, .unset, .unset, .unset, .unset] []) _
      refine k_pure (g' := (mkF m 79 #[.val (.int p0), .val (.int p1), .val (.int k0), .val (.int k1), .val (.int k2), .val (.int md), .val (.int sm), .val (.int (1 : Int32)), .val (.int n2), .val (.int i_7), .val (.int i_15), .val (.int i_23), .val (.int i_31), .val (.int i_39), .unset, .unset, .unset, .unset, .unset] [(.int (1 : Int32))])) (fun TT HH tt kk => XS.iload HH hx rfl (hb hby at_77) rfl kk) ?_
      refine k_pure (g' := (mkF m 80 #[.val (.int p0), .val (.int p1), .val (.int k0), .val (.int k1), .val (.int k2), .val (.int md), .val (.int sm), .val (.int (1 : Int32)), .val (.int n2), .val (.int i_7), .val (.int i_15), .val (.int i_23), .val (.int i_31), .val (.int i_39), .unset, .unset, .unset, .unset, .unset] [(.int (1 : Int32)), (.int (1 : Int32))])) (fun TT HH tt kk => XS.iconst HH hx rfl (hb hby at_79) kk) ?_
      refine k_pure (g' := (mkF m 83 #[.val (.int p0), .val (.int p1), .val (.int k0), .val (.int k1), .val (.int k2), .val (.int md), .val (.int sm), .val (.int (1 : Int32)), .val (.int n2), .val (.int i_7), .val (.int i_15), .val (.int i_23), .val (.int i_31), .val (.int i_39), .unset, .unset, .unset, .unset, .unset] [])) (fun TT HH tt kk => XS.icmpNo HH hx rfl (hb hby at_80) rfl (teq (by decide : ((1 : Int32) = (1 : Int32)))).2 kk) ?_
      refine k_newO hx (hw _ (List.mem_of_getElem? (i := 7) rfl)) (hw _ (List.mem_of_getElem? (i := 8) rfl)) (hw _ (List.mem_of_getElem? (i := 9) rfl)) rfl (hb hby at_83) (by decide) (by decide) ?_
      intro h_42 a_41 g_48 O_43 E_44 A_45 D_46 U_47
      have z_49 := E_44.1
      have lt_50 : @LT.lt Nat _ a_41 (Array.size h_42) := A_45.lt
      show Run p l e _ s m _ below meth c Z EL1 _ n0 NoB h_42 1 4 (mkF m 86 #[.val (.int p0), .val (.int p1), .val (.int k0), .val (.int k1), .val (.int k2), .val (.int md), .val (.int sm), .val (.int (1 : Int32)), .val (.int n2), .val (.int i_7), .val (.int i_15), .val (.int i_23), .val (.int i_31), .val (.int i_39), .unset, .unset, .unset, .unset, .unset] [(.ref a_41)]) _
      refine k_pure (g' := (mkF m 87 #[.val (.int p0), .val (.int p1), .val (.int k0), .val (.int k1), .val (.int k2), .val (.int md), .val (.int sm), .val (.int (1 : Int32)), .val (.int n2), .val (.int i_7), .val (.int i_15), .val (.int i_23), .val (.int i_31), .val (.int i_39), .unset, .unset, .unset, .unset, .unset] [(.ref a_41), (.ref a_41)])) (fun TT HH tt kk => XS.dup HH hx rfl (hb hby at_86) rfl rfl kk) ?_
      refine k_pure (g' := (mkF m 88 #[.val (.int p0), .val (.int p1), .val (.int k0), .val (.int k1), .val (.int k2), .val (.int md), .val (.int sm), .val (.int (1 : Int32)), .val (.int n2), .val (.int i_7), .val (.int i_15), .val (.int i_23), .val (.int i_31), .val (.int i_39), .unset, .unset, .unset, .unset, .unset] [(.int (1 : Int32)), (.ref a_41), (.ref a_41)])) (fun TT HH tt kk => XS.iconst HH hx rfl (hb hby at_87) kk) ?_
      refine k_newP hx (hw _ (List.mem_of_getElem? (i := 10) rfl)) rfl (hb hby at_88) rfl (by decide) (cap := 1) (by decide) (by decide) (by decide) (by decide) "[C" (by decide +kernel) ?_
      intro h_52 a_51 k_53 g_54 O_55 E_56 A_57 X_58
      have z_59 := E_56.1
      have lt_60 : @LT.lt Nat _ a_51 (Array.size h_52) := A_57.lt
      have V_61 : Arv Z h_52 a_51 k_53 .char (1 : Int32) [(.int (0 : Int32))] (.int (0 : Int32)) := Arv.pad A_57 (pad_rep [] (.int (0 : Int32)) 1)
      show Run p l e _ s m _ below meth c Z EL1 _ n0 NoB h_52 2 5 (mkF m 90 #[.val (.int p0), .val (.int p1), .val (.int k0), .val (.int k1), .val (.int k2), .val (.int md), .val (.int sm), .val (.int (1 : Int32)), .val (.int n2), .val (.int i_7), .val (.int i_15), .val (.int i_23), .val (.int i_31), .val (.int i_39), .unset, .unset, .unset, .unset, .unset] [(.ref a_51), (.ref a_41), (.ref a_41)]) _
      refine k_pure (g' := (mkF m 91 #[.val (.int p0), .val (.int p1), .val (.int k0), .val (.int k1), .val (.int k2), .val (.int md), .val (.int sm), .val (.int (1 : Int32)), .val (.int n2), .val (.int i_7), .val (.int i_15), .val (.int i_23), .val (.int i_31), .val (.int i_39), .unset, .unset, .unset, .unset, .unset] [(.ref a_51), (.ref a_51), (.ref a_41), (.ref a_41)])) (fun TT HH tt kk => XS.dup HH hx rfl (hb hby at_90) rfl rfl kk) ?_
      refine k_pure (g' := (mkF m 92 #[.val (.int p0), .val (.int p1), .val (.int k0), .val (.int k1), .val (.int k2), .val (.int md), .val (.int sm), .val (.int (1 : Int32)), .val (.int n2), .val (.int i_7), .val (.int i_15), .val (.int i_23), .val (.int i_31), .val (.int i_39), .unset, .unset, .unset, .unset, .unset] [(.int (0 : Int32)), (.ref a_51), (.ref a_51), (.ref a_41), (.ref a_41)])) (fun TT HH tt kk => XS.iconst HH hx rfl (hb hby at_91) kk) ?_
      refine k_pure (g' := (mkF m 94 #[.val (.int p0), .val (.int p1), .val (.int k0), .val (.int k1), .val (.int k2), .val (.int md), .val (.int sm), .val (.int (1 : Int32)), .val (.int n2), .val (.int i_7), .val (.int i_15), .val (.int i_23), .val (.int i_31), .val (.int i_39), .unset, .unset, .unset, .unset, .unset] [(.int i_7), (.int (0 : Int32)), (.ref a_51), (.ref a_51), (.ref a_41), (.ref a_41)])) (fun TT HH tt kk => XS.iload HH hx rfl (hb hby at_92) rfl kk) ?_
      refine k_stC hx V_61 ⟨by decide, by decide⟩ 0 (by decide) (Nat.le_of_ble_eq_true rfl) (by omega) (fun q => q) rfl rfl (hb hby at_94) ?_
      intro h_62 O_63 W_64 A_65
      have z_66 := W_64.size
      have V_67 : Arv Z h_62 a_51 k_53 .char (1 : Int32) [(.int i_7)] (.int (0 : Int32)) := by rw [Dc.nr (P_8.dc)] at A_65; exact A_65
      show Run p l e _ s m _ below meth c Z EL1 _ n0 NoB h_62 2 5 (mkF m 95 #[.val (.int p0), .val (.int p1), .val (.int k0), .val (.int k1), .val (.int k2), .val (.int md), .val (.int sm), .val (.int (1 : Int32)), .val (.int n2), .val (.int i_7), .val (.int i_15), .val (.int i_23), .val (.int i_31), .val (.int i_39), .unset, .unset, .unset, .unset, .unset] [(.ref a_51), (.ref a_41), (.ref a_41)]) _
      have F_68 : Exa Z h_62 a_41 "java/lang/String" := ((A_45.ext E_56).wr W_64)
      have F_69 : Fld Z h_62 a_41 "java/lang/String" "value" "[B" .null := (((D_46 (Or.inr (hw _ (List.mem_of_getElem? (i := 36) rfl))) (ty := (.array .byte)) (by decide)).ext E_56).other W_64 (Or.inl (ne_ad (by omega))))
      have F_70 : Fld Z h_62 a_41 "java/lang/String" "coder" "B" (.int (0 : Int32)) := (((D_46 (Or.inr (hw _ (List.mem_of_getElem? (i := 34) rfl))) (ty := .byte) (by decide)).ext E_56).other W_64 (Or.inl (ne_ad (by omega))))
      refine k_callI hx (y := (⟨"java/lang/String", "<init>", "([C)V"⟩ : MethodName)) rfl (hw _ (List.mem_of_getElem? (i := 11) rfl)) (hw _ (List.mem_of_getElem? (i := 12) rfl)) (hw _ (List.mem_of_getElem? (i := 13) rfl)) (by decide) (W := 1) (a := a_41) (argsL := [(.ref a_51)]) (rest := [(.ref a_41)]) (pay_new (W := 1) hX O_63 (fun q => q) (cs := [i_7]) F_68 F_69 F_70 V_67 1 rfl rfl (by decide) (by decide) (gd1 (P_8.dc)) (by omega) (by decide) (by decide)) rfl (by rw [hml]; rfl) (lenOf pd__28__5b_C_29_V rfl) rfl (by show 2 * 0 + _ ≤ _; exact Nat.le_of_eq rfl) (hb hby at_95) (by decide) (by decide) ?_
      intro v_71 h_72 bk_73 O_74 z_75 Q_76
      obtain ⟨rfl, rfl, K_77, a_78, k_79, ge_80, ge_81, S_82⟩ := Q_76
      have lt_83 : @LT.lt Nat _ a_41 (Array.size h_72) := S_82.lt1
      have lt_84 : @LT.lt Nat _ a_78 (Array.size h_72) := S_82.lt2
      show Run p l e _ s m _ below meth c Z EL1 _ n0 NoB h_72 3 6 (mkF m 98 #[.val (.int p0), .val (.int p1), .val (.int k0), .val (.int k1), .val (.int k2), .val (.int md), .val (.int sm), .val (.int (1 : Int32)), .val (.int n2), .val (.int i_7), .val (.int i_15), .val (.int i_23), .val (.int i_31), .val (.int i_39), .unset, .unset, .unset, .unset, .unset] [(.ref a_41)]) _
      refine k_pure (g' := (mkF m 100 #[.val (.int p0), .val (.int p1), .val (.int k0), .val (.int k1), .val (.int k2), .val (.int md), .val (.int sm), .val (.int (1 : Int32)), .val (.int n2), .val (.int i_7), .val (.int i_15), .val (.int i_23), .val (.int i_31), .val (.int i_39), .val (.ref a_41), .unset, .unset, .unset, .unset] [])) (fun TT HH tt kk => XS.astore HH hx rfl (hb hby at_98) rfl rfl (l' := #[.val (.int p0), .val (.int p1), .val (.int k0), .val (.int k1), .val (.int k2), .val (.int md), .val (.int sm), .val (.int (1 : Int32)), .val (.int n2), .val (.int i_7), .val (.int i_15), .val (.int i_23), .val (.int i_31), .val (.int i_39), .val (.ref a_41), .unset, .unset, .unset, .unset]) rfl kk) ?_
      refine k_pure (g' := (mkF m 125 #[.val (.int p0), .val (.int p1), .val (.int k0), .val (.int k1), .val (.int k2), .val (.int md), .val (.int sm), .val (.int (1 : Int32)), .val (.int n2), .val (.int i_7), .val (.int i_15), .val (.int i_23), .val (.int i_31), .val (.int i_39), .val (.ref a_41), .unset, .unset, .unset, .unset] [])) (fun TT HH tt kk => XS.goto HH hx rfl (pc0 := 100) (pc' := 125) rfl (hb hby at_100) (by decide) (by decide) kk) ?_
      rcases g8 with rfl | rfl | rfl
      · show Run p l e _ s m _ below meth c Z EL1 _ n0 NoB h_72 3 6 (mkF m 125 #[.val (.int p0), .val (.int p1), .val (.int k0), .val (.int k1), .val (.int k2), .val (.int md), .val (.int sm), .val (.int (1 : Int32)), .val (.int (1 : Int32)), .val (.int i_7), .val (.int i_15), .val (.int i_23), .val (.int i_31), .val (.int i_39), .val (.ref a_41), .unset, .unset, .unset, .unset] []) _
        refine k_pure (g' := (mkF m 127 #[.val (.int p0), .val (.int p1), .val (.int k0), .val (.int k1), .val (.int k2), .val (.int md), .val (.int sm), .val (.int (1 : Int32)), .val (.int (1 : Int32)), .val (.int i_7), .val (.int i_15), .val (.int i_23), .val (.int i_31), .val (.int i_39), .val (.ref a_41), .unset, .unset, .unset, .unset] [(.int (1 : Int32))])) (fun TT HH tt kk => XS.iload HH hx rfl (hb hby at_125) rfl kk) ?_
        refine k_pure (g' := (mkF m 128 #[.val (.int p0), .val (.int p1), .val (.int k0), .val (.int k1), .val (.int k2), .val (.int md), .val (.int sm), .val (.int (1 : Int32)), .val (.int (1 : Int32)), .val (.int i_7), .val (.int i_15), .val (.int i_23), .val (.int i_31), .val (.int i_39), .val (.ref a_41), .unset, .unset, .unset, .unset] [(.int (1 : Int32)), (.int (1 : Int32))])) (fun TT HH tt kk => XS.iconst HH hx rfl (hb hby at_127) kk) ?_
        refine k_pure (g' := (mkF m 131 #[.val (.int p0), .val (.int p1), .val (.int k0), .val (.int k1), .val (.int k2), .val (.int md), .val (.int sm), .val (.int (1 : Int32)), .val (.int (1 : Int32)), .val (.int i_7), .val (.int i_15), .val (.int i_23), .val (.int i_31), .val (.int i_39), .val (.ref a_41), .unset, .unset, .unset, .unset] [])) (fun TT HH tt kk => XS.icmpNo HH hx rfl (hb hby at_128) rfl (teq (by decide : ((1 : Int32) = (1 : Int32)))).2 kk) ?_
        refine k_newO hx (hw _ (List.mem_of_getElem? (i := 7) rfl)) (hw _ (List.mem_of_getElem? (i := 8) rfl)) (hw _ (List.mem_of_getElem? (i := 9) rfl)) rfl (hb hby at_131) (by decide) (by decide) ?_
        intro h_86 a_85 g_92 O_87 E_88 A_89 D_90 U_91
        have z_93 := E_88.1
        have lt_94 : @LT.lt Nat _ a_85 (Array.size h_86) := A_89.lt
        show Run p l e _ s m _ below meth c Z EL1 _ n0 NoB h_86 4 10 (mkF m 134 #[.val (.int p0), .val (.int p1), .val (.int k0), .val (.int k1), .val (.int k2), .val (.int md), .val (.int sm), .val (.int (1 : Int32)), .val (.int (1 : Int32)), .val (.int i_7), .val (.int i_15), .val (.int i_23), .val (.int i_31), .val (.int i_39), .val (.ref a_41), .unset, .unset, .unset, .unset] [(.ref a_85)]) _
        refine k_pure (g' := (mkF m 135 #[.val (.int p0), .val (.int p1), .val (.int k0), .val (.int k1), .val (.int k2), .val (.int md), .val (.int sm), .val (.int (1 : Int32)), .val (.int (1 : Int32)), .val (.int i_7), .val (.int i_15), .val (.int i_23), .val (.int i_31), .val (.int i_39), .val (.ref a_41), .unset, .unset, .unset, .unset] [(.ref a_85), (.ref a_85)])) (fun TT HH tt kk => XS.dup HH hx rfl (hb hby at_134) rfl rfl kk) ?_
        refine k_pure (g' := (mkF m 136 #[.val (.int p0), .val (.int p1), .val (.int k0), .val (.int k1), .val (.int k2), .val (.int md), .val (.int sm), .val (.int (1 : Int32)), .val (.int (1 : Int32)), .val (.int i_7), .val (.int i_15), .val (.int i_23), .val (.int i_31), .val (.int i_39), .val (.ref a_41), .unset, .unset, .unset, .unset] [(.int (1 : Int32)), (.ref a_85), (.ref a_85)])) (fun TT HH tt kk => XS.iconst HH hx rfl (hb hby at_135) kk) ?_
        refine k_newP hx (hw _ (List.mem_of_getElem? (i := 10) rfl)) rfl (hb hby at_136) rfl (by decide) (cap := 1) (by decide) (by decide) (by decide) (by decide) "[C" (by decide +kernel) ?_
        intro h_96 a_95 k_97 g_98 O_99 E_100 A_101 X_102
        have z_103 := E_100.1
        have lt_104 : @LT.lt Nat _ a_95 (Array.size h_96) := A_101.lt
        have V_105 : Arv Z h_96 a_95 k_97 .char (1 : Int32) [(.int (0 : Int32))] (.int (0 : Int32)) := Arv.pad A_101 (pad_rep [] (.int (0 : Int32)) 1)
        show Run p l e _ s m _ below meth c Z EL1 _ n0 NoB h_96 5 11 (mkF m 138 #[.val (.int p0), .val (.int p1), .val (.int k0), .val (.int k1), .val (.int k2), .val (.int md), .val (.int sm), .val (.int (1 : Int32)), .val (.int (1 : Int32)), .val (.int i_7), .val (.int i_15), .val (.int i_23), .val (.int i_31), .val (.int i_39), .val (.ref a_41), .unset, .unset, .unset, .unset] [(.ref a_95), (.ref a_85), (.ref a_85)]) _
        refine k_pure (g' := (mkF m 139 #[.val (.int p0), .val (.int p1), .val (.int k0), .val (.int k1), .val (.int k2), .val (.int md), .val (.int sm), .val (.int (1 : Int32)), .val (.int (1 : Int32)), .val (.int i_7), .val (.int i_15), .val (.int i_23), .val (.int i_31), .val (.int i_39), .val (.ref a_41), .unset, .unset, .unset, .unset] [(.ref a_95), (.ref a_95), (.ref a_85), (.ref a_85)])) (fun TT HH tt kk => XS.dup HH hx rfl (hb hby at_138) rfl rfl kk) ?_
        refine k_pure (g' := (mkF m 140 #[.val (.int p0), .val (.int p1), .val (.int k0), .val (.int k1), .val (.int k2), .val (.int md), .val (.int sm), .val (.int (1 : Int32)), .val (.int (1 : Int32)), .val (.int i_7), .val (.int i_15), .val (.int i_23), .val (.int i_31), .val (.int i_39), .val (.ref a_41), .unset, .unset, .unset, .unset] [(.int (0 : Int32)), (.ref a_95), (.ref a_95), (.ref a_85), (.ref a_85)])) (fun TT HH tt kk => XS.iconst HH hx rfl (hb hby at_139) kk) ?_
        refine k_pure (g' := (mkF m 142 #[.val (.int p0), .val (.int p1), .val (.int k0), .val (.int k1), .val (.int k2), .val (.int md), .val (.int sm), .val (.int (1 : Int32)), .val (.int (1 : Int32)), .val (.int i_7), .val (.int i_15), .val (.int i_23), .val (.int i_31), .val (.int i_39), .val (.ref a_41), .unset, .unset, .unset, .unset] [(.int i_23), (.int (0 : Int32)), (.ref a_95), (.ref a_95), (.ref a_85), (.ref a_85)])) (fun TT HH tt kk => XS.iload HH hx rfl (hb hby at_140) rfl kk) ?_
        refine k_stC hx V_105 ⟨by decide, by decide⟩ 0 (by decide) (Nat.le_of_ble_eq_true rfl) (by omega) (fun q => q) rfl rfl (hb hby at_142) ?_
        intro h_106 O_107 W_108 A_109
        have z_110 := W_108.size
        have V_111 : Arv Z h_106 a_95 k_97 .char (1 : Int32) [(.int i_23)] (.int (0 : Int32)) := by rw [Dc.nr (P_24)] at A_109; exact A_109
        show Run p l e _ s m _ below meth c Z EL1 _ n0 NoB h_106 5 11 (mkF m 143 #[.val (.int p0), .val (.int p1), .val (.int k0), .val (.int k1), .val (.int k2), .val (.int md), .val (.int sm), .val (.int (1 : Int32)), .val (.int (1 : Int32)), .val (.int i_7), .val (.int i_15), .val (.int i_23), .val (.int i_31), .val (.int i_39), .val (.ref a_41), .unset, .unset, .unset, .unset] [(.ref a_95), (.ref a_85), (.ref a_85)]) _
        have F_112 : Exa Z h_106 a_85 "java/lang/String" := ((A_89.ext E_100).wr W_108)
        have F_113 : Fld Z h_106 a_85 "java/lang/String" "value" "[B" .null := (((D_90 (Or.inr (hw _ (List.mem_of_getElem? (i := 36) rfl))) (ty := (.array .byte)) (by decide)).ext E_100).other W_108 (Or.inl (ne_ad (by omega))))
        have F_114 : Fld Z h_106 a_85 "java/lang/String" "coder" "B" (.int (0 : Int32)) := (((D_90 (Or.inr (hw _ (List.mem_of_getElem? (i := 34) rfl))) (ty := .byte) (by decide)).ext E_100).other W_108 (Or.inl (ne_ad (by omega))))
        refine k_callI hx (y := (⟨"java/lang/String", "<init>", "([C)V"⟩ : MethodName)) rfl (hw _ (List.mem_of_getElem? (i := 11) rfl)) (hw _ (List.mem_of_getElem? (i := 12) rfl)) (hw _ (List.mem_of_getElem? (i := 13) rfl)) (by decide) (W := 1) (a := a_85) (argsL := [(.ref a_95)]) (rest := [(.ref a_85)]) (pay_new (W := 1) hX O_107 (fun q => q) (cs := [i_23]) F_112 F_113 F_114 V_111 1 rfl rfl (by decide) (by decide) (gd1 (P_24)) (by omega) (by decide) (by decide)) rfl (by rw [hml]; rfl) (lenOf pd__28__5b_C_29_V rfl) rfl (by show 2 * 0 + _ ≤ _; exact Nat.le_of_eq rfl) (hb hby at_143) (by decide) (by decide) ?_
        intro v_115 h_116 bk_117 O_118 z_119 Q_120
        obtain ⟨rfl, rfl, K_121, a_122, k_123, ge_124, ge_125, S_126⟩ := Q_120
        have lt_127 : @LT.lt Nat _ a_85 (Array.size h_116) := S_126.lt1
        have lt_128 : @LT.lt Nat _ a_122 (Array.size h_116) := S_126.lt2
        show Run p l e _ s m _ below meth c Z EL1 _ n0 NoB h_116 6 12 (mkF m 146 #[.val (.int p0), .val (.int p1), .val (.int k0), .val (.int k1), .val (.int k2), .val (.int md), .val (.int sm), .val (.int (1 : Int32)), .val (.int (1 : Int32)), .val (.int i_7), .val (.int i_15), .val (.int i_23), .val (.int i_31), .val (.int i_39), .val (.ref a_41), .unset, .unset, .unset, .unset] [(.ref a_85)]) _
        refine k_pure (g' := (mkF m 148 #[.val (.int p0), .val (.int p1), .val (.int k0), .val (.int k1), .val (.int k2), .val (.int md), .val (.int sm), .val (.int (1 : Int32)), .val (.int (1 : Int32)), .val (.int i_7), .val (.int i_15), .val (.int i_23), .val (.int i_31), .val (.int i_39), .val (.ref a_41), .val (.ref a_85), .unset, .unset, .unset] [])) (fun TT HH tt kk => XS.astore HH hx rfl (hb hby at_146) rfl rfl (l' := #[.val (.int p0), .val (.int p1), .val (.int k0), .val (.int k1), .val (.int k2), .val (.int md), .val (.int sm), .val (.int (1 : Int32)), .val (.int (1 : Int32)), .val (.int i_7), .val (.int i_15), .val (.int i_23), .val (.int i_31), .val (.int i_39), .val (.ref a_41), .val (.ref a_85), .unset, .unset, .unset]) rfl kk) ?_
        refine k_pure (g' := (mkF m 209 #[.val (.int p0), .val (.int p1), .val (.int k0), .val (.int k1), .val (.int k2), .val (.int md), .val (.int sm), .val (.int (1 : Int32)), .val (.int (1 : Int32)), .val (.int i_7), .val (.int i_15), .val (.int i_23), .val (.int i_31), .val (.int i_39), .val (.ref a_41), .val (.ref a_85), .unset, .unset, .unset] [])) (fun TT HH tt kk => XS.goto HH hx rfl (pc0 := 148) (pc' := 209) rfl (hb hby at_148) (by decide) (by decide) kk) ?_
        have J240 : ¬ [i_23].take [i_7].length = [i_7] → Run p l e room_1 s m #[(.int p0), (.int p1), (.int k0), (.int k1), (.int k2), (.int md)] below meth c Z EL1 "com/example/eirene/eirene/KeySpaceCallerKeyPinLaw" n0 NoB h_116 6 12 (mkF m 240 #[.val (.int p0), .val (.int p1), .val (.int k0), .val (.int k1), .val (.int k2), .val (.int md), .val (.int sm), .val (.int (1 : Int32)), .val (.int (1 : Int32)), .val (.int i_7), .val (.int i_15), .val (.int i_23), .val (.int i_31), .val (.int i_39), .val (.ref a_41), .val (.ref a_85), .unset, .unset, .unset] []) (Q_law Z p0 p1 k0 k1 k2 md h0 n0 NoB) := by
          intro hns
          refine k_pure (g' := (mkF m 241 #[.val (.int p0), .val (.int p1), .val (.int k0), .val (.int k1), .val (.int k2), .val (.int md), .val (.int sm), .val (.int (1 : Int32)), .val (.int (1 : Int32)), .val (.int i_7), .val (.int i_15), .val (.int i_23), .val (.int i_31), .val (.int i_39), .val (.ref a_41), .val (.ref a_85), .unset, .unset, .unset] [(.int (0 : Int32))])) (fun TT HH tt kk => XS.iconst HH hx rfl (hb hby at_240) kk) ?_
          refine k_pure (g' := (mkF m 243 #[.val (.int p0), .val (.int p1), .val (.int k0), .val (.int k1), .val (.int k2), .val (.int md), .val (.int sm), .val (.int (1 : Int32)), .val (.int (1 : Int32)), .val (.int i_7), .val (.int i_15), .val (.int i_23), .val (.int i_31), .val (.int i_39), .val (.ref a_41), .val (.ref a_85), .val (.int (0 : Int32)), .unset, .unset] [])) (fun TT HH tt kk => XS.istore HH hx rfl (hb hby at_241) rfl (l' := #[.val (.int p0), .val (.int p1), .val (.int k0), .val (.int k1), .val (.int k2), .val (.int md), .val (.int sm), .val (.int (1 : Int32)), .val (.int (1 : Int32)), .val (.int i_7), .val (.int i_15), .val (.int i_23), .val (.int i_31), .val (.int i_39), .val (.ref a_41), .val (.ref a_85), .val (.int (0 : Int32)), .unset, .unset]) rfl kk) ?_
          refine k_pure (g' := (mkF m 245 #[.val (.int p0), .val (.int p1), .val (.int k0), .val (.int k1), .val (.int k2), .val (.int md), .val (.int sm), .val (.int (1 : Int32)), .val (.int (1 : Int32)), .val (.int i_7), .val (.int i_15), .val (.int i_23), .val (.int i_31), .val (.int i_39), .val (.ref a_41), .val (.ref a_85), .val (.int (0 : Int32)), .unset, .unset] [(.int (0 : Int32))])) (fun TT HH tt kk => XS.iload HH hx rfl (hb hby at_243) rfl kk) ?_
          refine k_pure (g' := (mkF m 250 #[.val (.int p0), .val (.int p1), .val (.int k0), .val (.int k1), .val (.int k2), .val (.int md), .val (.int sm), .val (.int (1 : Int32)), .val (.int (1 : Int32)), .val (.int i_7), .val (.int i_15), .val (.int i_23), .val (.int i_31), .val (.int i_39), .val (.ref a_41), .val (.ref a_85), .val (.int (0 : Int32)), .unset, .unset] [])) (fun TT HH tt kk => XS.ifYes HH hx rfl (pc0 := 245) (pc' := 250) rfl (hb hby at_245) rfl ((if0 _ _).trans (teq (by decide : ((0 : Int32) = (0 : Int32)))).1) (by decide) (by decide) kk) ?_
          refine k_newO hx (hw _ (List.mem_of_getElem? (i := 37) rfl)) (hw _ (List.mem_of_getElem? (i := 38) rfl)) (hw _ (List.mem_of_getElem? (i := 39) rfl)) rfl (hb hby at_250) (by decide) (by decide) ?_
          intro h_130 a_129 g_136 O_131 E_132 A_133 D_134 U_135
          have z_137 := E_132.1
          have lt_138 : @LT.lt Nat _ a_129 (Array.size h_130) := A_133.lt
          show Run p l e _ s m _ below meth c Z EL1 _ n0 NoB h_130 7 13 (mkF m 253 #[.val (.int p0), .val (.int p1), .val (.int k0), .val (.int k1), .val (.int k2), .val (.int md), .val (.int sm), .val (.int (1 : Int32)), .val (.int (1 : Int32)), .val (.int i_7), .val (.int i_15), .val (.int i_23), .val (.int i_31), .val (.int i_39), .val (.ref a_41), .val (.ref a_85), .val (.int (0 : Int32)), .unset, .unset] [(.ref a_129)]) _
          refine k_pure (g' := (mkF m 254 #[.val (.int p0), .val (.int p1), .val (.int k0), .val (.int k1), .val (.int k2), .val (.int md), .val (.int sm), .val (.int (1 : Int32)), .val (.int (1 : Int32)), .val (.int i_7), .val (.int i_15), .val (.int i_23), .val (.int i_31), .val (.int i_39), .val (.ref a_41), .val (.ref a_85), .val (.int (0 : Int32)), .unset, .unset] [(.ref a_129), (.ref a_129)])) (fun TT HH tt kk => XS.dup HH hx rfl (hb hby at_253) rfl rfl kk) ?_
          refine k_pure (g' := (mkF m 256 #[.val (.int p0), .val (.int p1), .val (.int k0), .val (.int k1), .val (.int k2), .val (.int md), .val (.int sm), .val (.int (1 : Int32)), .val (.int (1 : Int32)), .val (.int i_7), .val (.int i_15), .val (.int i_23), .val (.int i_31), .val (.int i_39), .val (.ref a_41), .val (.ref a_85), .val (.int (0 : Int32)), .unset, .unset] [(.ref a_41), (.ref a_129), (.ref a_129)])) (fun TT HH tt kk => XS.aload HH hx rfl (hb hby at_254) rfl rfl kk) ?_
          have F_139 : StrL Z h_130 a_41 a_78 k_79 [i_7] := (((((S_82.ext E_88).ext E_100).other W_108 (ne_ad (by omega)) (ne_ad (by omega))).keep K_121 (ninS (ne_ad (by omega)) nin0) (ninS (ne_ad (by omega)) nin0)).ext E_132)
          refine k_callI hx (y := (⟨"com/example/eirene/eirene/KeySpace", "<init>", "(Ljava/lang/String;)V"⟩ : MethodName)) rfl (hw _ (List.mem_of_getElem? (i := 40) rfl)) (hw _ (List.mem_of_getElem? (i := 41) rfl)) (hw _ (List.mem_of_getElem? (i := 42) rfl)) (by decide) (W := 1) (a := a_129) (argsL := [(.ref a_41)]) (rest := [(.ref a_129)]) (Pays.of_met (rm_ini l Z a0 G1 G3 hX n0 h_130 O_131 a_129 a_41 a_78 k_79 [i_7] A_133 (D_134 (Or.inr (hw _ (List.mem_of_getElem? (i := 120) rfl))) (ty := (.object "java/lang/String")) (by decide)) F_139 (pc1 P_8) (by simp) (by omega) []) (hw _ (List.mem_of_getElem? (i := 42) rfl)) (hw _ (List.mem_of_getElem? (i := 39) rfl)) (by decide) (by decide)) rfl (by rw [hml]; rfl) (lenOf pd__28_Ljava_2f_lang_2f_String_3b__29_V rfl) rfl (by show 2 * 0 + _ ≤ _; exact Nat.le_of_eq rfl) (hb hby at_256) (by decide) (by decide) ?_
          intro v_140 h_141 bk_142 O_143 z_144 Q_145
          obtain ⟨rfl, rfl, K_146, F_147, F_148⟩ := Q_145
          have lt_149 : @LT.lt Nat _ a_129 (Array.size h_141) := F_147.lt
          have lt_150 : @LT.lt Nat _ a_129 (Array.size h_141) := F_148.lt
          show Run p l e _ s m _ below meth c Z EL1 _ n0 NoB h_141 11 101 (mkF m 259 #[.val (.int p0), .val (.int p1), .val (.int k0), .val (.int k1), .val (.int k2), .val (.int md), .val (.int sm), .val (.int (1 : Int32)), .val (.int (1 : Int32)), .val (.int i_7), .val (.int i_15), .val (.int i_23), .val (.int i_31), .val (.int i_39), .val (.ref a_41), .val (.ref a_85), .val (.int (0 : Int32)), .unset, .unset] [(.ref a_129)]) _
          refine k_pure (g' := (mkF m 261 #[.val (.int p0), .val (.int p1), .val (.int k0), .val (.int k1), .val (.int k2), .val (.int md), .val (.int sm), .val (.int (1 : Int32)), .val (.int (1 : Int32)), .val (.int i_7), .val (.int i_15), .val (.int i_23), .val (.int i_31), .val (.int i_39), .val (.ref a_41), .val (.ref a_85), .val (.int (0 : Int32)), .val (.ref a_129), .unset] [])) (fun TT HH tt kk => XS.astore HH hx rfl (hb hby at_259) rfl rfl (l' := #[.val (.int p0), .val (.int p1), .val (.int k0), .val (.int k1), .val (.int k2), .val (.int md), .val (.int sm), .val (.int (1 : Int32)), .val (.int (1 : Int32)), .val (.int i_7), .val (.int i_15), .val (.int i_23), .val (.int i_31), .val (.int i_39), .val (.ref a_41), .val (.ref a_85), .val (.int (0 : Int32)), .val (.ref a_129), .unset]) rfl kk) ?_
          refine k_pure (g' := (mkF m 263 #[.val (.int p0), .val (.int p1), .val (.int k0), .val (.int k1), .val (.int k2), .val (.int md), .val (.int sm), .val (.int (1 : Int32)), .val (.int (1 : Int32)), .val (.int i_7), .val (.int i_15), .val (.int i_23), .val (.int i_31), .val (.int i_39), .val (.ref a_41), .val (.ref a_85), .val (.int (0 : Int32)), .val (.ref a_129), .unset] [(.ref a_129)])) (fun TT HH tt kk => XS.aload HH hx rfl (hb hby at_261) rfl rfl kk) ?_
          refine k_pure (g' := (mkF m 265 #[.val (.int p0), .val (.int p1), .val (.int k0), .val (.int k1), .val (.int k2), .val (.int md), .val (.int sm), .val (.int (1 : Int32)), .val (.int (1 : Int32)), .val (.int i_7), .val (.int i_15), .val (.int i_23), .val (.int i_31), .val (.int i_39), .val (.ref a_41), .val (.ref a_85), .val (.int (0 : Int32)), .val (.ref a_129), .unset] [(.ref a_85), (.ref a_129)])) (fun TT HH tt kk => XS.aload HH hx rfl (hb hby at_263) rfl rfl kk) ?_
          have F_151 : StrL Z h_141 a_85 a_122 k_123 [i_23] := ((S_126.ext E_132).keep K_146 (ninS (ne_ad (by omega)) nin0) (ninS (ne_ad (by omega)) nin0))
          have F_152 : StrL Z h_141 a_41 a_78 k_79 [i_7] := (F_139.keep K_146 (ninS (ne_ad (by omega)) nin0) (ninS (ne_ad (by omega)) nin0))
          refine k_callV hx (y := (⟨"com/example/eirene/eirene/KeySpace", "callerKey", "(Ljava/lang/String;)Ljava/lang/String;"⟩ : MethodName)) (z := (⟨"com/example/eirene/eirene/KeySpace", "callerKey", "(Ljava/lang/String;)Ljava/lang/String;"⟩ : MethodName)) (hw _ (List.mem_of_getElem? (i := 121) rfl)) (hw _ (List.mem_of_getElem? (i := 122) rfl)) (fun s' hZ => notFace_of_selects (args := #[]) (mv hZ (hw _ (List.mem_of_getElem? (i := 124) rfl)))) (hw _ (List.mem_of_getElem? (i := 124) rfl)) (hw _ (List.mem_of_getElem? (i := 123) rfl)) (by decide) (W := 0) (a := a_129) (argsL := [(.ref a_85)]) (rest := []) (Pays.of_met (rm_ck l Z a0 G1 G3 hX n0 h_141 O_143 a_129 a_85 a_122 k_123 [i_23] a_41 a_78 k_79 [i_7] F_147 F_148 F_151 F_152 hns (by simp) (by simp) []) (hw _ (List.mem_of_getElem? (i := 125) rfl)) (hw _ (List.mem_of_getElem? (i := 39) rfl)) (by decide) (by decide)) F_147 rfl (by rw [hml]; rfl) (lenOf pd__28_Ljava_2f_lang_2f_String_3b__29_Ljava_2f_lang_2f_String_3b_ rfl) rfl (by show 2 * 0 + _ ≤ _; exact Nat.le_of_eq rfl) (hb hby at_265) (by decide) (by decide) ?_
          intro v_153 h_154 bk_155 O_156 z_157 Q_158
          obtain ⟨rfl, rfl, K_159⟩ := Q_158
          show Run p l e _ s m _ below meth c Z EL1 _ n0 NoB h_154 13 117 (mkF m 268 #[.val (.int p0), .val (.int p1), .val (.int k0), .val (.int k1), .val (.int k2), .val (.int md), .val (.int sm), .val (.int (1 : Int32)), .val (.int (1 : Int32)), .val (.int i_7), .val (.int i_15), .val (.int i_23), .val (.int i_31), .val (.int i_39), .val (.ref a_41), .val (.ref a_85), .val (.int (0 : Int32)), .val (.ref a_129), .unset] [(.ref a_85)]) _
          refine k_pure (g' := (mkF m 270 #[.val (.int p0), .val (.int p1), .val (.int k0), .val (.int k1), .val (.int k2), .val (.int md), .val (.int sm), .val (.int (1 : Int32)), .val (.int (1 : Int32)), .val (.int i_7), .val (.int i_15), .val (.int i_23), .val (.int i_31), .val (.int i_39), .val (.ref a_41), .val (.ref a_85), .val (.int (0 : Int32)), .val (.ref a_129), .val (.ref a_85)] [])) (fun TT HH tt kk => XS.astore HH hx rfl (hb hby at_268) rfl rfl (l' := #[.val (.int p0), .val (.int p1), .val (.int k0), .val (.int k1), .val (.int k2), .val (.int md), .val (.int sm), .val (.int (1 : Int32)), .val (.int (1 : Int32)), .val (.int i_7), .val (.int i_15), .val (.int i_23), .val (.int i_31), .val (.int i_39), .val (.ref a_41), .val (.ref a_85), .val (.int (0 : Int32)), .val (.ref a_129), .val (.ref a_85)]) rfl kk) ?_
          refine k_pure (g' := (mkF m 272 #[.val (.int p0), .val (.int p1), .val (.int k0), .val (.int k1), .val (.int k2), .val (.int md), .val (.int sm), .val (.int (1 : Int32)), .val (.int (1 : Int32)), .val (.int i_7), .val (.int i_15), .val (.int i_23), .val (.int i_31), .val (.int i_39), .val (.ref a_41), .val (.ref a_85), .val (.int (0 : Int32)), .val (.ref a_129), .val (.ref a_85)] [(.ref a_85)])) (fun TT HH tt kk => XS.aload HH hx rfl (hb hby at_270) rfl rfl kk) ?_
          refine k_pure (g' := (mkF m 275 #[.val (.int p0), .val (.int p1), .val (.int k0), .val (.int k1), .val (.int k2), .val (.int md), .val (.int sm), .val (.int (1 : Int32)), .val (.int (1 : Int32)), .val (.int i_7), .val (.int i_15), .val (.int i_23), .val (.int i_31), .val (.int i_39), .val (.ref a_41), .val (.ref a_85), .val (.int (0 : Int32)), .val (.ref a_129), .val (.ref a_85)] [])) (fun TT HH tt kk => XS.ifnullNo HH hx rfl (hb hby at_272) rfl kk) ?_
          refine k_pure (g' := (mkF m 277 #[.val (.int p0), .val (.int p1), .val (.int k0), .val (.int k1), .val (.int k2), .val (.int md), .val (.int sm), .val (.int (1 : Int32)), .val (.int (1 : Int32)), .val (.int i_7), .val (.int i_15), .val (.int i_23), .val (.int i_31), .val (.int i_39), .val (.ref a_41), .val (.ref a_85), .val (.int (0 : Int32)), .val (.ref a_129), .val (.ref a_85)] [(.ref a_85)])) (fun TT HH tt kk => XS.aload HH hx rfl (hb hby at_275) rfl rfl kk) ?_
          refine k_pure (g' := (mkF m 279 #[.val (.int p0), .val (.int p1), .val (.int k0), .val (.int k1), .val (.int k2), .val (.int md), .val (.int sm), .val (.int (1 : Int32)), .val (.int (1 : Int32)), .val (.int i_7), .val (.int i_15), .val (.int i_23), .val (.int i_31), .val (.int i_39), .val (.ref a_41), .val (.ref a_85), .val (.int (0 : Int32)), .val (.ref a_129), .val (.ref a_85)] [(.ref a_85), (.ref a_85)])) (fun TT HH tt kk => XS.aload HH hx rfl (hb hby at_277) rfl rfl kk) ?_
          have F_160 : Exa Z h_154 a_85 "java/lang/String" := (((S_126.1.ext E_132).keep K_146).keep K_159)
          refine k_callV hx (y := (⟨"java/lang/String", "equals", "(Ljava/lang/Object;)Z"⟩ : MethodName)) (z := (⟨"java/lang/String", "equals", "(Ljava/lang/Object;)Z"⟩ : MethodName)) (hw _ (List.mem_of_getElem? (i := 137) rfl)) (hw _ (List.mem_of_getElem? (i := 138) rfl)) (fun s' hZ => notFace_of_selects (args := #[]) (mv hZ (hw _ (List.mem_of_getElem? (i := 140) rfl)))) (hw _ (List.mem_of_getElem? (i := 140) rfl)) (hw _ (List.mem_of_getElem? (i := 139) rfl)) (by decide) (W := 0) (a := a_85) (argsL := [(.ref a_85)]) (rest := []) (Pays.of_met (rm_eqs l Z a0 G1 G3 hX n0 h_154 O_156 a_85  []) (hw _ (List.mem_of_getElem? (i := 141) rfl)) (hw _ (List.mem_of_getElem? (i := 9) rfl)) (by decide) (by decide)) F_160 rfl (by rw [hml]; rfl) (lenOf pd__28_Ljava_2f_lang_2f_Object_3b__29_Z rfl) rfl (by show 2 * 0 + _ ≤ _; exact Nat.le_of_eq rfl) (hb hby at_279) (by decide) (by decide) ?_
          intro v_161 h_162 bk_163 O_164 z_165 Q_166
          obtain ⟨rfl, rfl, rfl⟩ := Q_166
          show Run p l e _ s m _ below meth c Z EL1 _ n0 NoB h_154 13 117 (mkF m 282 #[.val (.int p0), .val (.int p1), .val (.int k0), .val (.int k1), .val (.int k2), .val (.int md), .val (.int sm), .val (.int (1 : Int32)), .val (.int (1 : Int32)), .val (.int i_7), .val (.int i_15), .val (.int i_23), .val (.int i_31), .val (.int i_39), .val (.ref a_41), .val (.ref a_85), .val (.int (0 : Int32)), .val (.ref a_129), .val (.ref a_85)] [(.int (1 : Int32))]) _
          refine k_pure (g' := (mkF m 285 #[.val (.int p0), .val (.int p1), .val (.int k0), .val (.int k1), .val (.int k2), .val (.int md), .val (.int sm), .val (.int (1 : Int32)), .val (.int (1 : Int32)), .val (.int i_7), .val (.int i_15), .val (.int i_23), .val (.int i_31), .val (.int i_39), .val (.ref a_41), .val (.ref a_85), .val (.int (0 : Int32)), .val (.ref a_129), .val (.ref a_85)] [])) (fun TT HH tt kk => XS.ifNo HH hx rfl (hb hby at_282) rfl ((if0 _ _).trans (feq (by decide : ¬ ((1 : Int32) = (0 : Int32)))).1) kk) ?_
          refine k_pure (g' := (mkF m 286 #[.val (.int p0), .val (.int p1), .val (.int k0), .val (.int k1), .val (.int k2), .val (.int md), .val (.int sm), .val (.int (1 : Int32)), .val (.int (1 : Int32)), .val (.int i_7), .val (.int i_15), .val (.int i_23), .val (.int i_31), .val (.int i_39), .val (.ref a_41), .val (.ref a_85), .val (.int (0 : Int32)), .val (.ref a_129), .val (.ref a_85)] [(.int (1 : Int32))])) (fun TT HH tt kk => XS.iconst HH hx rfl (hb hby at_285) kk) ?_
          refine k_pure (g' := (mkF m 290 #[.val (.int p0), .val (.int p1), .val (.int k0), .val (.int k1), .val (.int k2), .val (.int md), .val (.int sm), .val (.int (1 : Int32)), .val (.int (1 : Int32)), .val (.int i_7), .val (.int i_15), .val (.int i_23), .val (.int i_31), .val (.int i_39), .val (.ref a_41), .val (.ref a_85), .val (.int (0 : Int32)), .val (.ref a_129), .val (.ref a_85)] [(.int (1 : Int32))])) (fun TT HH tt kk => XS.goto HH hx rfl (pc0 := 286) (pc' := 290) rfl (hb hby at_286) (by decide) (by decide) kk) ?_
          exact k_retN hx hlk hret (by simp) (hb hby at_290) (by decide) (by decide) ⟨rfl, rfl, ((((((((((((Keep.refl _ _).ext E_44).ext E_56).wr W_64 (Or.inr (by omega))).trans K_77 (kkS (Or.inr (by omega)) kk0)).ext E_88).ext E_100).wr W_108 (Or.inr (by omega))).trans K_121 (kkS (Or.inr (by omega)) kk0)).ext E_132).trans K_146 (kkS (Or.inr (by omega)) kk0)).trans K_159 kk0)⟩
        refine k_pure (g' := (mkF m 211 #[.val (.int p0), .val (.int p1), .val (.int k0), .val (.int k1), .val (.int k2), .val (.int md), .val (.int sm), .val (.int (1 : Int32)), .val (.int (1 : Int32)), .val (.int i_7), .val (.int i_15), .val (.int i_23), .val (.int i_31), .val (.int i_39), .val (.ref a_41), .val (.ref a_85), .unset, .unset, .unset] [(.int (1 : Int32))])) (fun TT HH tt kk => XS.iload HH hx rfl (hb hby at_209) rfl kk) ?_
        refine k_pure (g' := (mkF m 213 #[.val (.int p0), .val (.int p1), .val (.int k0), .val (.int k1), .val (.int k2), .val (.int md), .val (.int sm), .val (.int (1 : Int32)), .val (.int (1 : Int32)), .val (.int i_7), .val (.int i_15), .val (.int i_23), .val (.int i_31), .val (.int i_39), .val (.ref a_41), .val (.ref a_85), .unset, .unset, .unset] [(.int (1 : Int32)), (.int (1 : Int32))])) (fun TT HH tt kk => XS.iload HH hx rfl (hb hby at_211) rfl kk) ?_
        refine k_pure (g' := (mkF m 216 #[.val (.int p0), .val (.int p1), .val (.int k0), .val (.int k1), .val (.int k2), .val (.int md), .val (.int sm), .val (.int (1 : Int32)), .val (.int (1 : Int32)), .val (.int i_7), .val (.int i_15), .val (.int i_23), .val (.int i_31), .val (.int i_39), .val (.ref a_41), .val (.ref a_85), .unset, .unset, .unset] [])) (fun TT HH tt kk => XS.icmpNo HH hx rfl (hb hby at_213) rfl (flt (by decide : ¬ ((1 : Int32) < (1 : Int32)))).1 kk) ?_
        refine k_pure (g' := (mkF m 218 #[.val (.int p0), .val (.int p1), .val (.int k0), .val (.int k1), .val (.int k2), .val (.int md), .val (.int sm), .val (.int (1 : Int32)), .val (.int (1 : Int32)), .val (.int i_7), .val (.int i_15), .val (.int i_23), .val (.int i_31), .val (.int i_39), .val (.ref a_41), .val (.ref a_85), .unset, .unset, .unset] [(.int i_23)])) (fun TT HH tt kk => XS.iload HH hx rfl (hb hby at_216) rfl kk) ?_
        refine k_pure (g' := (mkF m 220 #[.val (.int p0), .val (.int p1), .val (.int k0), .val (.int k1), .val (.int k2), .val (.int md), .val (.int sm), .val (.int (1 : Int32)), .val (.int (1 : Int32)), .val (.int i_7), .val (.int i_15), .val (.int i_23), .val (.int i_31), .val (.int i_39), .val (.ref a_41), .val (.ref a_85), .unset, .unset, .unset] [(.int i_7), (.int i_23)])) (fun TT HH tt kk => XS.iload HH hx rfl (hb hby at_218) rfl kk) ?_
        by_cases c_167 : i_23 = i_7
        · refine k_pure (g' := (mkF m 223 #[.val (.int p0), .val (.int p1), .val (.int k0), .val (.int k1), .val (.int k2), .val (.int md), .val (.int sm), .val (.int (1 : Int32)), .val (.int (1 : Int32)), .val (.int i_7), .val (.int i_15), .val (.int i_23), .val (.int i_31), .val (.int i_39), .val (.ref a_41), .val (.ref a_85), .unset, .unset, .unset] [])) (fun TT HH tt kk => XS.icmpNo HH hx rfl (hb hby at_220) rfl (teq c_167).2 kk) ?_
          refine k_pure (g' := (mkF m 225 #[.val (.int p0), .val (.int p1), .val (.int k0), .val (.int k1), .val (.int k2), .val (.int md), .val (.int sm), .val (.int (1 : Int32)), .val (.int (1 : Int32)), .val (.int i_7), .val (.int i_15), .val (.int i_23), .val (.int i_31), .val (.int i_39), .val (.ref a_41), .val (.ref a_85), .unset, .unset, .unset] [(.int (1 : Int32))])) (fun TT HH tt kk => XS.iload HH hx rfl (hb hby at_223) rfl kk) ?_
          refine k_pure (g' := (mkF m 226 #[.val (.int p0), .val (.int p1), .val (.int k0), .val (.int k1), .val (.int k2), .val (.int md), .val (.int sm), .val (.int (1 : Int32)), .val (.int (1 : Int32)), .val (.int i_7), .val (.int i_15), .val (.int i_23), .val (.int i_31), .val (.int i_39), .val (.ref a_41), .val (.ref a_85), .unset, .unset, .unset] [(.int (1 : Int32)), (.int (1 : Int32))])) (fun TT HH tt kk => XS.iconst HH hx rfl (hb hby at_225) kk) ?_
          refine k_pure (g' := (mkF m 236 #[.val (.int p0), .val (.int p1), .val (.int k0), .val (.int k1), .val (.int k2), .val (.int md), .val (.int sm), .val (.int (1 : Int32)), .val (.int (1 : Int32)), .val (.int i_7), .val (.int i_15), .val (.int i_23), .val (.int i_31), .val (.int i_39), .val (.ref a_41), .val (.ref a_85), .unset, .unset, .unset] [])) (fun TT HH tt kk => XS.icmpYes HH hx rfl (pc0 := 226) (pc' := 236) rfl (hb hby at_226) rfl (teq (by decide : ((1 : Int32) = (1 : Int32)))).1 (by decide) (by decide) kk) ?_
          refine k_pure (g' := (mkF m 237 #[.val (.int p0), .val (.int p1), .val (.int k0), .val (.int k1), .val (.int k2), .val (.int md), .val (.int sm), .val (.int (1 : Int32)), .val (.int (1 : Int32)), .val (.int i_7), .val (.int i_15), .val (.int i_23), .val (.int i_31), .val (.int i_39), .val (.ref a_41), .val (.ref a_85), .unset, .unset, .unset] [(.int (1 : Int32))])) (fun TT HH tt kk => XS.iconst HH hx rfl (hb hby at_236) kk) ?_
          refine k_pure (g' := (mkF m 241 #[.val (.int p0), .val (.int p1), .val (.int k0), .val (.int k1), .val (.int k2), .val (.int md), .val (.int sm), .val (.int (1 : Int32)), .val (.int (1 : Int32)), .val (.int i_7), .val (.int i_15), .val (.int i_23), .val (.int i_31), .val (.int i_39), .val (.ref a_41), .val (.ref a_85), .unset, .unset, .unset] [(.int (1 : Int32))])) (fun TT HH tt kk => XS.goto HH hx rfl (pc0 := 237) (pc' := 241) rfl (hb hby at_237) (by decide) (by decide) kk) ?_
          refine k_pure (g' := (mkF m 243 #[.val (.int p0), .val (.int p1), .val (.int k0), .val (.int k1), .val (.int k2), .val (.int md), .val (.int sm), .val (.int (1 : Int32)), .val (.int (1 : Int32)), .val (.int i_7), .val (.int i_15), .val (.int i_23), .val (.int i_31), .val (.int i_39), .val (.ref a_41), .val (.ref a_85), .val (.int (1 : Int32)), .unset, .unset] [])) (fun TT HH tt kk => XS.istore HH hx rfl (hb hby at_241) rfl (l' := #[.val (.int p0), .val (.int p1), .val (.int k0), .val (.int k1), .val (.int k2), .val (.int md), .val (.int sm), .val (.int (1 : Int32)), .val (.int (1 : Int32)), .val (.int i_7), .val (.int i_15), .val (.int i_23), .val (.int i_31), .val (.int i_39), .val (.ref a_41), .val (.ref a_85), .val (.int (1 : Int32)), .unset, .unset]) rfl kk) ?_
          refine k_pure (g' := (mkF m 245 #[.val (.int p0), .val (.int p1), .val (.int k0), .val (.int k1), .val (.int k2), .val (.int md), .val (.int sm), .val (.int (1 : Int32)), .val (.int (1 : Int32)), .val (.int i_7), .val (.int i_15), .val (.int i_23), .val (.int i_31), .val (.int i_39), .val (.ref a_41), .val (.ref a_85), .val (.int (1 : Int32)), .unset, .unset] [(.int (1 : Int32))])) (fun TT HH tt kk => XS.iload HH hx rfl (hb hby at_243) rfl kk) ?_
          refine k_pure (g' := (mkF m 248 #[.val (.int p0), .val (.int p1), .val (.int k0), .val (.int k1), .val (.int k2), .val (.int md), .val (.int sm), .val (.int (1 : Int32)), .val (.int (1 : Int32)), .val (.int i_7), .val (.int i_15), .val (.int i_23), .val (.int i_31), .val (.int i_39), .val (.ref a_41), .val (.ref a_85), .val (.int (1 : Int32)), .unset, .unset] [])) (fun TT HH tt kk => XS.ifNo HH hx rfl (hb hby at_245) rfl ((if0 _ _).trans (feq (by decide : ¬ ((1 : Int32) = (0 : Int32)))).1) kk) ?_
          refine k_pure (g' := (mkF m 249 #[.val (.int p0), .val (.int p1), .val (.int k0), .val (.int k1), .val (.int k2), .val (.int md), .val (.int sm), .val (.int (1 : Int32)), .val (.int (1 : Int32)), .val (.int i_7), .val (.int i_15), .val (.int i_23), .val (.int i_31), .val (.int i_39), .val (.ref a_41), .val (.ref a_85), .val (.int (1 : Int32)), .unset, .unset] [(.int (1 : Int32))])) (fun TT HH tt kk => XS.iconst HH hx rfl (hb hby at_248) kk) ?_
          exact k_retN hx hlk hret (by simp) (hb hby at_249) (by decide) (by decide) ⟨rfl, rfl, (((((((((Keep.refl _ _).ext E_44).ext E_56).wr W_64 (Or.inr (by omega))).trans K_77 (kkS (Or.inr (by omega)) kk0)).ext E_88).ext E_100).wr W_108 (Or.inr (by omega))).trans K_121 (kkS (Or.inr (by omega)) kk0))⟩
        · refine k_pure (g' := (mkF m 240 #[.val (.int p0), .val (.int p1), .val (.int k0), .val (.int k1), .val (.int k2), .val (.int md), .val (.int sm), .val (.int (1 : Int32)), .val (.int (1 : Int32)), .val (.int i_7), .val (.int i_15), .val (.int i_23), .val (.int i_31), .val (.int i_39), .val (.ref a_41), .val (.ref a_85), .unset, .unset, .unset] [])) (fun TT HH tt kk => XS.icmpYes HH hx rfl (pc0 := 220) (pc' := 240) rfl (hb hby at_220) rfl (feq c_167).2 (by decide) (by decide) kk) ?_
          exact J240 (fun q => c_167 (by simp at q; exact q))
      · show Run p l e _ s m _ below meth c Z EL1 _ n0 NoB h_72 3 6 (mkF m 125 #[.val (.int p0), .val (.int p1), .val (.int k0), .val (.int k1), .val (.int k2), .val (.int md), .val (.int sm), .val (.int (1 : Int32)), .val (.int (2 : Int32)), .val (.int i_7), .val (.int i_15), .val (.int i_23), .val (.int i_31), .val (.int i_39), .val (.ref a_41), .unset, .unset, .unset, .unset] []) _
        refine k_pure (g' := (mkF m 127 #[.val (.int p0), .val (.int p1), .val (.int k0), .val (.int k1), .val (.int k2), .val (.int md), .val (.int sm), .val (.int (1 : Int32)), .val (.int (2 : Int32)), .val (.int i_7), .val (.int i_15), .val (.int i_23), .val (.int i_31), .val (.int i_39), .val (.ref a_41), .unset, .unset, .unset, .unset] [(.int (2 : Int32))])) (fun TT HH tt kk => XS.iload HH hx rfl (hb hby at_125) rfl kk) ?_
        refine k_pure (g' := (mkF m 128 #[.val (.int p0), .val (.int p1), .val (.int k0), .val (.int k1), .val (.int k2), .val (.int md), .val (.int sm), .val (.int (1 : Int32)), .val (.int (2 : Int32)), .val (.int i_7), .val (.int i_15), .val (.int i_23), .val (.int i_31), .val (.int i_39), .val (.ref a_41), .unset, .unset, .unset, .unset] [(.int (1 : Int32)), (.int (2 : Int32))])) (fun TT HH tt kk => XS.iconst HH hx rfl (hb hby at_127) kk) ?_
        refine k_pure (g' := (mkF m 151 #[.val (.int p0), .val (.int p1), .val (.int k0), .val (.int k1), .val (.int k2), .val (.int md), .val (.int sm), .val (.int (1 : Int32)), .val (.int (2 : Int32)), .val (.int i_7), .val (.int i_15), .val (.int i_23), .val (.int i_31), .val (.int i_39), .val (.ref a_41), .unset, .unset, .unset, .unset] [])) (fun TT HH tt kk => XS.icmpYes HH hx rfl (pc0 := 128) (pc' := 151) rfl (hb hby at_128) rfl (feq (by decide : ¬ ((2 : Int32) = (1 : Int32)))).2 (by decide) (by decide) kk) ?_
        refine k_pure (g' := (mkF m 153 #[.val (.int p0), .val (.int p1), .val (.int k0), .val (.int k1), .val (.int k2), .val (.int md), .val (.int sm), .val (.int (1 : Int32)), .val (.int (2 : Int32)), .val (.int i_7), .val (.int i_15), .val (.int i_23), .val (.int i_31), .val (.int i_39), .val (.ref a_41), .unset, .unset, .unset, .unset] [(.int (2 : Int32))])) (fun TT HH tt kk => XS.iload HH hx rfl (hb hby at_151) rfl kk) ?_
        refine k_pure (g' := (mkF m 154 #[.val (.int p0), .val (.int p1), .val (.int k0), .val (.int k1), .val (.int k2), .val (.int md), .val (.int sm), .val (.int (1 : Int32)), .val (.int (2 : Int32)), .val (.int i_7), .val (.int i_15), .val (.int i_23), .val (.int i_31), .val (.int i_39), .val (.ref a_41), .unset, .unset, .unset, .unset] [(.int (2 : Int32)), (.int (2 : Int32))])) (fun TT HH tt kk => XS.iconst HH hx rfl (hb hby at_153) kk) ?_
        refine k_pure (g' := (mkF m 157 #[.val (.int p0), .val (.int p1), .val (.int k0), .val (.int k1), .val (.int k2), .val (.int md), .val (.int sm), .val (.int (1 : Int32)), .val (.int (2 : Int32)), .val (.int i_7), .val (.int i_15), .val (.int i_23), .val (.int i_31), .val (.int i_39), .val (.ref a_41), .unset, .unset, .unset, .unset] [])) (fun TT HH tt kk => XS.icmpNo HH hx rfl (hb hby at_154) rfl (teq (by decide : ((2 : Int32) = (2 : Int32)))).2 kk) ?_
        refine k_newO hx (hw _ (List.mem_of_getElem? (i := 7) rfl)) (hw _ (List.mem_of_getElem? (i := 8) rfl)) (hw _ (List.mem_of_getElem? (i := 9) rfl)) rfl (hb hby at_157) (by decide) (by decide) ?_
        intro h_169 a_168 g_175 O_170 E_171 A_172 D_173 U_174
        have z_176 := E_171.1
        have lt_177 : @LT.lt Nat _ a_168 (Array.size h_169) := A_172.lt
        show Run p l e _ s m _ below meth c Z EL1 _ n0 NoB h_169 4 10 (mkF m 160 #[.val (.int p0), .val (.int p1), .val (.int k0), .val (.int k1), .val (.int k2), .val (.int md), .val (.int sm), .val (.int (1 : Int32)), .val (.int (2 : Int32)), .val (.int i_7), .val (.int i_15), .val (.int i_23), .val (.int i_31), .val (.int i_39), .val (.ref a_41), .unset, .unset, .unset, .unset] [(.ref a_168)]) _
        refine k_pure (g' := (mkF m 161 #[.val (.int p0), .val (.int p1), .val (.int k0), .val (.int k1), .val (.int k2), .val (.int md), .val (.int sm), .val (.int (1 : Int32)), .val (.int (2 : Int32)), .val (.int i_7), .val (.int i_15), .val (.int i_23), .val (.int i_31), .val (.int i_39), .val (.ref a_41), .unset, .unset, .unset, .unset] [(.ref a_168), (.ref a_168)])) (fun TT HH tt kk => XS.dup HH hx rfl (hb hby at_160) rfl rfl kk) ?_
        refine k_pure (g' := (mkF m 162 #[.val (.int p0), .val (.int p1), .val (.int k0), .val (.int k1), .val (.int k2), .val (.int md), .val (.int sm), .val (.int (1 : Int32)), .val (.int (2 : Int32)), .val (.int i_7), .val (.int i_15), .val (.int i_23), .val (.int i_31), .val (.int i_39), .val (.ref a_41), .unset, .unset, .unset, .unset] [(.int (2 : Int32)), (.ref a_168), (.ref a_168)])) (fun TT HH tt kk => XS.iconst HH hx rfl (hb hby at_161) kk) ?_
        refine k_newP hx (hw _ (List.mem_of_getElem? (i := 10) rfl)) rfl (hb hby at_162) rfl (by decide) (cap := 2) (by decide) (by decide) (by decide) (by decide) "[C" (by decide +kernel) ?_
        intro h_179 a_178 k_180 g_181 O_182 E_183 A_184 X_185
        have z_186 := E_183.1
        have lt_187 : @LT.lt Nat _ a_178 (Array.size h_179) := A_184.lt
        have V_188 : Arv Z h_179 a_178 k_180 .char (2 : Int32) [(.int (0 : Int32)), (.int (0 : Int32))] (.int (0 : Int32)) := Arv.pad A_184 (pad_rep [] (.int (0 : Int32)) 2)
        show Run p l e _ s m _ below meth c Z EL1 _ n0 NoB h_179 5 12 (mkF m 164 #[.val (.int p0), .val (.int p1), .val (.int k0), .val (.int k1), .val (.int k2), .val (.int md), .val (.int sm), .val (.int (1 : Int32)), .val (.int (2 : Int32)), .val (.int i_7), .val (.int i_15), .val (.int i_23), .val (.int i_31), .val (.int i_39), .val (.ref a_41), .unset, .unset, .unset, .unset] [(.ref a_178), (.ref a_168), (.ref a_168)]) _
        refine k_pure (g' := (mkF m 165 #[.val (.int p0), .val (.int p1), .val (.int k0), .val (.int k1), .val (.int k2), .val (.int md), .val (.int sm), .val (.int (1 : Int32)), .val (.int (2 : Int32)), .val (.int i_7), .val (.int i_15), .val (.int i_23), .val (.int i_31), .val (.int i_39), .val (.ref a_41), .unset, .unset, .unset, .unset] [(.ref a_178), (.ref a_178), (.ref a_168), (.ref a_168)])) (fun TT HH tt kk => XS.dup HH hx rfl (hb hby at_164) rfl rfl kk) ?_
        refine k_pure (g' := (mkF m 166 #[.val (.int p0), .val (.int p1), .val (.int k0), .val (.int k1), .val (.int k2), .val (.int md), .val (.int sm), .val (.int (1 : Int32)), .val (.int (2 : Int32)), .val (.int i_7), .val (.int i_15), .val (.int i_23), .val (.int i_31), .val (.int i_39), .val (.ref a_41), .unset, .unset, .unset, .unset] [(.int (0 : Int32)), (.ref a_178), (.ref a_178), (.ref a_168), (.ref a_168)])) (fun TT HH tt kk => XS.iconst HH hx rfl (hb hby at_165) kk) ?_
        refine k_pure (g' := (mkF m 168 #[.val (.int p0), .val (.int p1), .val (.int k0), .val (.int k1), .val (.int k2), .val (.int md), .val (.int sm), .val (.int (1 : Int32)), .val (.int (2 : Int32)), .val (.int i_7), .val (.int i_15), .val (.int i_23), .val (.int i_31), .val (.int i_39), .val (.ref a_41), .unset, .unset, .unset, .unset] [(.int i_23), (.int (0 : Int32)), (.ref a_178), (.ref a_178), (.ref a_168), (.ref a_168)])) (fun TT HH tt kk => XS.iload HH hx rfl (hb hby at_166) rfl kk) ?_
        refine k_stC hx V_188 ⟨by decide, by decide⟩ 0 (by decide) (Nat.le_of_ble_eq_true rfl) (by omega) (fun q => q) rfl rfl (hb hby at_168) ?_
        intro h_189 O_190 W_191 A_192
        have z_193 := W_191.size
        have V_194 : Arv Z h_189 a_178 k_180 .char (2 : Int32) [(.int i_23), (.int (0 : Int32))] (.int (0 : Int32)) := by rw [Dc.nr (P_24)] at A_192; exact A_192
        show Run p l e _ s m _ below meth c Z EL1 _ n0 NoB h_189 5 12 (mkF m 169 #[.val (.int p0), .val (.int p1), .val (.int k0), .val (.int k1), .val (.int k2), .val (.int md), .val (.int sm), .val (.int (1 : Int32)), .val (.int (2 : Int32)), .val (.int i_7), .val (.int i_15), .val (.int i_23), .val (.int i_31), .val (.int i_39), .val (.ref a_41), .unset, .unset, .unset, .unset] [(.ref a_178), (.ref a_168), (.ref a_168)]) _
        refine k_pure (g' := (mkF m 170 #[.val (.int p0), .val (.int p1), .val (.int k0), .val (.int k1), .val (.int k2), .val (.int md), .val (.int sm), .val (.int (1 : Int32)), .val (.int (2 : Int32)), .val (.int i_7), .val (.int i_15), .val (.int i_23), .val (.int i_31), .val (.int i_39), .val (.ref a_41), .unset, .unset, .unset, .unset] [(.ref a_178), (.ref a_178), (.ref a_168), (.ref a_168)])) (fun TT HH tt kk => XS.dup HH hx rfl (hb hby at_169) rfl rfl kk) ?_
        refine k_pure (g' := (mkF m 171 #[.val (.int p0), .val (.int p1), .val (.int k0), .val (.int k1), .val (.int k2), .val (.int md), .val (.int sm), .val (.int (1 : Int32)), .val (.int (2 : Int32)), .val (.int i_7), .val (.int i_15), .val (.int i_23), .val (.int i_31), .val (.int i_39), .val (.ref a_41), .unset, .unset, .unset, .unset] [(.int (1 : Int32)), (.ref a_178), (.ref a_178), (.ref a_168), (.ref a_168)])) (fun TT HH tt kk => XS.iconst HH hx rfl (hb hby at_170) kk) ?_
        refine k_pure (g' := (mkF m 173 #[.val (.int p0), .val (.int p1), .val (.int k0), .val (.int k1), .val (.int k2), .val (.int md), .val (.int sm), .val (.int (1 : Int32)), .val (.int (2 : Int32)), .val (.int i_7), .val (.int i_15), .val (.int i_23), .val (.int i_31), .val (.int i_39), .val (.ref a_41), .unset, .unset, .unset, .unset] [(.int i_31), (.int (1 : Int32)), (.ref a_178), (.ref a_178), (.ref a_168), (.ref a_168)])) (fun TT HH tt kk => XS.iload HH hx rfl (hb hby at_171) rfl kk) ?_
        refine k_stC hx V_194 ⟨by decide, by decide⟩ 1 (by decide) (Nat.le_of_ble_eq_true rfl) (by omega) (fun q => q) rfl rfl (hb hby at_173) ?_
        intro h_195 O_196 W_197 A_198
        have z_199 := W_197.size
        have V_200 : Arv Z h_195 a_178 k_180 .char (2 : Int32) [(.int i_23), (.int i_31)] (.int (0 : Int32)) := by rw [Dc.nr (P_32)] at A_198; exact A_198
        show Run p l e _ s m _ below meth c Z EL1 _ n0 NoB h_195 5 12 (mkF m 174 #[.val (.int p0), .val (.int p1), .val (.int k0), .val (.int k1), .val (.int k2), .val (.int md), .val (.int sm), .val (.int (1 : Int32)), .val (.int (2 : Int32)), .val (.int i_7), .val (.int i_15), .val (.int i_23), .val (.int i_31), .val (.int i_39), .val (.ref a_41), .unset, .unset, .unset, .unset] [(.ref a_178), (.ref a_168), (.ref a_168)]) _
        have F_201 : Exa Z h_195 a_168 "java/lang/String" := (((A_172.ext E_183).wr W_191).wr W_197)
        have F_202 : Fld Z h_195 a_168 "java/lang/String" "value" "[B" .null := ((((D_173 (Or.inr (hw _ (List.mem_of_getElem? (i := 36) rfl))) (ty := (.array .byte)) (by decide)).ext E_183).other W_191 (Or.inl (ne_ad (by omega)))).other W_197 (Or.inl (ne_ad (by omega))))
        have F_203 : Fld Z h_195 a_168 "java/lang/String" "coder" "B" (.int (0 : Int32)) := ((((D_173 (Or.inr (hw _ (List.mem_of_getElem? (i := 34) rfl))) (ty := .byte) (by decide)).ext E_183).other W_191 (Or.inl (ne_ad (by omega)))).other W_197 (Or.inl (ne_ad (by omega))))
        refine k_callI hx (y := (⟨"java/lang/String", "<init>", "([C)V"⟩ : MethodName)) rfl (hw _ (List.mem_of_getElem? (i := 11) rfl)) (hw _ (List.mem_of_getElem? (i := 12) rfl)) (hw _ (List.mem_of_getElem? (i := 13) rfl)) (by decide) (W := 1) (a := a_168) (argsL := [(.ref a_178)]) (rest := [(.ref a_168)]) (pay_new (W := 1) hX O_196 (fun q => q) (cs := [i_23, i_31]) F_201 F_202 F_203 V_200 2 rfl rfl (by decide) (by decide) (gd2 (P_24) (P_32)) (by omega) (by decide) (by decide)) rfl (by rw [hml]; rfl) (lenOf pd__28__5b_C_29_V rfl) rfl (by show 2 * 0 + _ ≤ _; exact Nat.le_of_eq rfl) (hb hby at_174) (by decide) (by decide) ?_
        intro v_204 h_205 bk_206 O_207 z_208 Q_209
        obtain ⟨rfl, rfl, K_210, a_211, k_212, ge_213, ge_214, S_215⟩ := Q_209
        have lt_216 : @LT.lt Nat _ a_168 (Array.size h_205) := S_215.lt1
        have lt_217 : @LT.lt Nat _ a_211 (Array.size h_205) := S_215.lt2
        show Run p l e _ s m _ below meth c Z EL1 _ n0 NoB h_205 6 14 (mkF m 177 #[.val (.int p0), .val (.int p1), .val (.int k0), .val (.int k1), .val (.int k2), .val (.int md), .val (.int sm), .val (.int (1 : Int32)), .val (.int (2 : Int32)), .val (.int i_7), .val (.int i_15), .val (.int i_23), .val (.int i_31), .val (.int i_39), .val (.ref a_41), .unset, .unset, .unset, .unset] [(.ref a_168)]) _
        refine k_pure (g' := (mkF m 179 #[.val (.int p0), .val (.int p1), .val (.int k0), .val (.int k1), .val (.int k2), .val (.int md), .val (.int sm), .val (.int (1 : Int32)), .val (.int (2 : Int32)), .val (.int i_7), .val (.int i_15), .val (.int i_23), .val (.int i_31), .val (.int i_39), .val (.ref a_41), .val (.ref a_168), .unset, .unset, .unset] [])) (fun TT HH tt kk => XS.astore HH hx rfl (hb hby at_177) rfl rfl (l' := #[.val (.int p0), .val (.int p1), .val (.int k0), .val (.int k1), .val (.int k2), .val (.int md), .val (.int sm), .val (.int (1 : Int32)), .val (.int (2 : Int32)), .val (.int i_7), .val (.int i_15), .val (.int i_23), .val (.int i_31), .val (.int i_39), .val (.ref a_41), .val (.ref a_168), .unset, .unset, .unset]) rfl kk) ?_
        refine k_pure (g' := (mkF m 209 #[.val (.int p0), .val (.int p1), .val (.int k0), .val (.int k1), .val (.int k2), .val (.int md), .val (.int sm), .val (.int (1 : Int32)), .val (.int (2 : Int32)), .val (.int i_7), .val (.int i_15), .val (.int i_23), .val (.int i_31), .val (.int i_39), .val (.ref a_41), .val (.ref a_168), .unset, .unset, .unset] [])) (fun TT HH tt kk => XS.goto HH hx rfl (pc0 := 179) (pc' := 209) rfl (hb hby at_179) (by decide) (by decide) kk) ?_
        have J240 : ¬ [i_23, i_31].take [i_7].length = [i_7] → Run p l e room_1 s m #[(.int p0), (.int p1), (.int k0), (.int k1), (.int k2), (.int md)] below meth c Z EL1 "com/example/eirene/eirene/KeySpaceCallerKeyPinLaw" n0 NoB h_205 6 14 (mkF m 240 #[.val (.int p0), .val (.int p1), .val (.int k0), .val (.int k1), .val (.int k2), .val (.int md), .val (.int sm), .val (.int (1 : Int32)), .val (.int (2 : Int32)), .val (.int i_7), .val (.int i_15), .val (.int i_23), .val (.int i_31), .val (.int i_39), .val (.ref a_41), .val (.ref a_168), .unset, .unset, .unset] []) (Q_law Z p0 p1 k0 k1 k2 md h0 n0 NoB) := by
          intro hns
          refine k_pure (g' := (mkF m 241 #[.val (.int p0), .val (.int p1), .val (.int k0), .val (.int k1), .val (.int k2), .val (.int md), .val (.int sm), .val (.int (1 : Int32)), .val (.int (2 : Int32)), .val (.int i_7), .val (.int i_15), .val (.int i_23), .val (.int i_31), .val (.int i_39), .val (.ref a_41), .val (.ref a_168), .unset, .unset, .unset] [(.int (0 : Int32))])) (fun TT HH tt kk => XS.iconst HH hx rfl (hb hby at_240) kk) ?_
          refine k_pure (g' := (mkF m 243 #[.val (.int p0), .val (.int p1), .val (.int k0), .val (.int k1), .val (.int k2), .val (.int md), .val (.int sm), .val (.int (1 : Int32)), .val (.int (2 : Int32)), .val (.int i_7), .val (.int i_15), .val (.int i_23), .val (.int i_31), .val (.int i_39), .val (.ref a_41), .val (.ref a_168), .val (.int (0 : Int32)), .unset, .unset] [])) (fun TT HH tt kk => XS.istore HH hx rfl (hb hby at_241) rfl (l' := #[.val (.int p0), .val (.int p1), .val (.int k0), .val (.int k1), .val (.int k2), .val (.int md), .val (.int sm), .val (.int (1 : Int32)), .val (.int (2 : Int32)), .val (.int i_7), .val (.int i_15), .val (.int i_23), .val (.int i_31), .val (.int i_39), .val (.ref a_41), .val (.ref a_168), .val (.int (0 : Int32)), .unset, .unset]) rfl kk) ?_
          refine k_pure (g' := (mkF m 245 #[.val (.int p0), .val (.int p1), .val (.int k0), .val (.int k1), .val (.int k2), .val (.int md), .val (.int sm), .val (.int (1 : Int32)), .val (.int (2 : Int32)), .val (.int i_7), .val (.int i_15), .val (.int i_23), .val (.int i_31), .val (.int i_39), .val (.ref a_41), .val (.ref a_168), .val (.int (0 : Int32)), .unset, .unset] [(.int (0 : Int32))])) (fun TT HH tt kk => XS.iload HH hx rfl (hb hby at_243) rfl kk) ?_
          refine k_pure (g' := (mkF m 250 #[.val (.int p0), .val (.int p1), .val (.int k0), .val (.int k1), .val (.int k2), .val (.int md), .val (.int sm), .val (.int (1 : Int32)), .val (.int (2 : Int32)), .val (.int i_7), .val (.int i_15), .val (.int i_23), .val (.int i_31), .val (.int i_39), .val (.ref a_41), .val (.ref a_168), .val (.int (0 : Int32)), .unset, .unset] [])) (fun TT HH tt kk => XS.ifYes HH hx rfl (pc0 := 245) (pc' := 250) rfl (hb hby at_245) rfl ((if0 _ _).trans (teq (by decide : ((0 : Int32) = (0 : Int32)))).1) (by decide) (by decide) kk) ?_
          refine k_newO hx (hw _ (List.mem_of_getElem? (i := 37) rfl)) (hw _ (List.mem_of_getElem? (i := 38) rfl)) (hw _ (List.mem_of_getElem? (i := 39) rfl)) rfl (hb hby at_250) (by decide) (by decide) ?_
          intro h_219 a_218 g_225 O_220 E_221 A_222 D_223 U_224
          have z_226 := E_221.1
          have lt_227 : @LT.lt Nat _ a_218 (Array.size h_219) := A_222.lt
          show Run p l e _ s m _ below meth c Z EL1 _ n0 NoB h_219 7 15 (mkF m 253 #[.val (.int p0), .val (.int p1), .val (.int k0), .val (.int k1), .val (.int k2), .val (.int md), .val (.int sm), .val (.int (1 : Int32)), .val (.int (2 : Int32)), .val (.int i_7), .val (.int i_15), .val (.int i_23), .val (.int i_31), .val (.int i_39), .val (.ref a_41), .val (.ref a_168), .val (.int (0 : Int32)), .unset, .unset] [(.ref a_218)]) _
          refine k_pure (g' := (mkF m 254 #[.val (.int p0), .val (.int p1), .val (.int k0), .val (.int k1), .val (.int k2), .val (.int md), .val (.int sm), .val (.int (1 : Int32)), .val (.int (2 : Int32)), .val (.int i_7), .val (.int i_15), .val (.int i_23), .val (.int i_31), .val (.int i_39), .val (.ref a_41), .val (.ref a_168), .val (.int (0 : Int32)), .unset, .unset] [(.ref a_218), (.ref a_218)])) (fun TT HH tt kk => XS.dup HH hx rfl (hb hby at_253) rfl rfl kk) ?_
          refine k_pure (g' := (mkF m 256 #[.val (.int p0), .val (.int p1), .val (.int k0), .val (.int k1), .val (.int k2), .val (.int md), .val (.int sm), .val (.int (1 : Int32)), .val (.int (2 : Int32)), .val (.int i_7), .val (.int i_15), .val (.int i_23), .val (.int i_31), .val (.int i_39), .val (.ref a_41), .val (.ref a_168), .val (.int (0 : Int32)), .unset, .unset] [(.ref a_41), (.ref a_218), (.ref a_218)])) (fun TT HH tt kk => XS.aload HH hx rfl (hb hby at_254) rfl rfl kk) ?_
          have F_228 : StrL Z h_219 a_41 a_78 k_79 [i_7] := ((((((S_82.ext E_171).ext E_183).other W_191 (ne_ad (by omega)) (ne_ad (by omega))).other W_197 (ne_ad (by omega)) (ne_ad (by omega))).keep K_210 (ninS (ne_ad (by omega)) nin0) (ninS (ne_ad (by omega)) nin0)).ext E_221)
          refine k_callI hx (y := (⟨"com/example/eirene/eirene/KeySpace", "<init>", "(Ljava/lang/String;)V"⟩ : MethodName)) rfl (hw _ (List.mem_of_getElem? (i := 40) rfl)) (hw _ (List.mem_of_getElem? (i := 41) rfl)) (hw _ (List.mem_of_getElem? (i := 42) rfl)) (by decide) (W := 1) (a := a_218) (argsL := [(.ref a_41)]) (rest := [(.ref a_218)]) (Pays.of_met (rm_ini l Z a0 G1 G3 hX n0 h_219 O_220 a_218 a_41 a_78 k_79 [i_7] A_222 (D_223 (Or.inr (hw _ (List.mem_of_getElem? (i := 120) rfl))) (ty := (.object "java/lang/String")) (by decide)) F_228 (pc1 P_8) (by simp) (by omega) []) (hw _ (List.mem_of_getElem? (i := 42) rfl)) (hw _ (List.mem_of_getElem? (i := 39) rfl)) (by decide) (by decide)) rfl (by rw [hml]; rfl) (lenOf pd__28_Ljava_2f_lang_2f_String_3b__29_V rfl) rfl (by show 2 * 0 + _ ≤ _; exact Nat.le_of_eq rfl) (hb hby at_256) (by decide) (by decide) ?_
          intro v_229 h_230 bk_231 O_232 z_233 Q_234
          obtain ⟨rfl, rfl, K_235, F_236, F_237⟩ := Q_234
          have lt_238 : @LT.lt Nat _ a_218 (Array.size h_230) := F_236.lt
          have lt_239 : @LT.lt Nat _ a_218 (Array.size h_230) := F_237.lt
          show Run p l e _ s m _ below meth c Z EL1 _ n0 NoB h_230 11 103 (mkF m 259 #[.val (.int p0), .val (.int p1), .val (.int k0), .val (.int k1), .val (.int k2), .val (.int md), .val (.int sm), .val (.int (1 : Int32)), .val (.int (2 : Int32)), .val (.int i_7), .val (.int i_15), .val (.int i_23), .val (.int i_31), .val (.int i_39), .val (.ref a_41), .val (.ref a_168), .val (.int (0 : Int32)), .unset, .unset] [(.ref a_218)]) _
          refine k_pure (g' := (mkF m 261 #[.val (.int p0), .val (.int p1), .val (.int k0), .val (.int k1), .val (.int k2), .val (.int md), .val (.int sm), .val (.int (1 : Int32)), .val (.int (2 : Int32)), .val (.int i_7), .val (.int i_15), .val (.int i_23), .val (.int i_31), .val (.int i_39), .val (.ref a_41), .val (.ref a_168), .val (.int (0 : Int32)), .val (.ref a_218), .unset] [])) (fun TT HH tt kk => XS.astore HH hx rfl (hb hby at_259) rfl rfl (l' := #[.val (.int p0), .val (.int p1), .val (.int k0), .val (.int k1), .val (.int k2), .val (.int md), .val (.int sm), .val (.int (1 : Int32)), .val (.int (2 : Int32)), .val (.int i_7), .val (.int i_15), .val (.int i_23), .val (.int i_31), .val (.int i_39), .val (.ref a_41), .val (.ref a_168), .val (.int (0 : Int32)), .val (.ref a_218), .unset]) rfl kk) ?_
          refine k_pure (g' := (mkF m 263 #[.val (.int p0), .val (.int p1), .val (.int k0), .val (.int k1), .val (.int k2), .val (.int md), .val (.int sm), .val (.int (1 : Int32)), .val (.int (2 : Int32)), .val (.int i_7), .val (.int i_15), .val (.int i_23), .val (.int i_31), .val (.int i_39), .val (.ref a_41), .val (.ref a_168), .val (.int (0 : Int32)), .val (.ref a_218), .unset] [(.ref a_218)])) (fun TT HH tt kk => XS.aload HH hx rfl (hb hby at_261) rfl rfl kk) ?_
          refine k_pure (g' := (mkF m 265 #[.val (.int p0), .val (.int p1), .val (.int k0), .val (.int k1), .val (.int k2), .val (.int md), .val (.int sm), .val (.int (1 : Int32)), .val (.int (2 : Int32)), .val (.int i_7), .val (.int i_15), .val (.int i_23), .val (.int i_31), .val (.int i_39), .val (.ref a_41), .val (.ref a_168), .val (.int (0 : Int32)), .val (.ref a_218), .unset] [(.ref a_168), (.ref a_218)])) (fun TT HH tt kk => XS.aload HH hx rfl (hb hby at_263) rfl rfl kk) ?_
          have F_240 : StrL Z h_230 a_168 a_211 k_212 [i_23, i_31] := ((S_215.ext E_221).keep K_235 (ninS (ne_ad (by omega)) nin0) (ninS (ne_ad (by omega)) nin0))
          have F_241 : StrL Z h_230 a_41 a_78 k_79 [i_7] := (F_228.keep K_235 (ninS (ne_ad (by omega)) nin0) (ninS (ne_ad (by omega)) nin0))
          refine k_callV hx (y := (⟨"com/example/eirene/eirene/KeySpace", "callerKey", "(Ljava/lang/String;)Ljava/lang/String;"⟩ : MethodName)) (z := (⟨"com/example/eirene/eirene/KeySpace", "callerKey", "(Ljava/lang/String;)Ljava/lang/String;"⟩ : MethodName)) (hw _ (List.mem_of_getElem? (i := 121) rfl)) (hw _ (List.mem_of_getElem? (i := 122) rfl)) (fun s' hZ => notFace_of_selects (args := #[]) (mv hZ (hw _ (List.mem_of_getElem? (i := 124) rfl)))) (hw _ (List.mem_of_getElem? (i := 124) rfl)) (hw _ (List.mem_of_getElem? (i := 123) rfl)) (by decide) (W := 0) (a := a_218) (argsL := [(.ref a_168)]) (rest := []) (Pays.of_met (rm_ck l Z a0 G1 G3 hX n0 h_230 O_232 a_218 a_168 a_211 k_212 [i_23, i_31] a_41 a_78 k_79 [i_7] F_236 F_237 F_240 F_241 hns (by simp) (by simp) []) (hw _ (List.mem_of_getElem? (i := 125) rfl)) (hw _ (List.mem_of_getElem? (i := 39) rfl)) (by decide) (by decide)) F_236 rfl (by rw [hml]; rfl) (lenOf pd__28_Ljava_2f_lang_2f_String_3b__29_Ljava_2f_lang_2f_String_3b_ rfl) rfl (by show 2 * 0 + _ ≤ _; exact Nat.le_of_eq rfl) (hb hby at_265) (by decide) (by decide) ?_
          intro v_242 h_243 bk_244 O_245 z_246 Q_247
          obtain ⟨rfl, rfl, K_248⟩ := Q_247
          show Run p l e _ s m _ below meth c Z EL1 _ n0 NoB h_243 13 119 (mkF m 268 #[.val (.int p0), .val (.int p1), .val (.int k0), .val (.int k1), .val (.int k2), .val (.int md), .val (.int sm), .val (.int (1 : Int32)), .val (.int (2 : Int32)), .val (.int i_7), .val (.int i_15), .val (.int i_23), .val (.int i_31), .val (.int i_39), .val (.ref a_41), .val (.ref a_168), .val (.int (0 : Int32)), .val (.ref a_218), .unset] [(.ref a_168)]) _
          refine k_pure (g' := (mkF m 270 #[.val (.int p0), .val (.int p1), .val (.int k0), .val (.int k1), .val (.int k2), .val (.int md), .val (.int sm), .val (.int (1 : Int32)), .val (.int (2 : Int32)), .val (.int i_7), .val (.int i_15), .val (.int i_23), .val (.int i_31), .val (.int i_39), .val (.ref a_41), .val (.ref a_168), .val (.int (0 : Int32)), .val (.ref a_218), .val (.ref a_168)] [])) (fun TT HH tt kk => XS.astore HH hx rfl (hb hby at_268) rfl rfl (l' := #[.val (.int p0), .val (.int p1), .val (.int k0), .val (.int k1), .val (.int k2), .val (.int md), .val (.int sm), .val (.int (1 : Int32)), .val (.int (2 : Int32)), .val (.int i_7), .val (.int i_15), .val (.int i_23), .val (.int i_31), .val (.int i_39), .val (.ref a_41), .val (.ref a_168), .val (.int (0 : Int32)), .val (.ref a_218), .val (.ref a_168)]) rfl kk) ?_
          refine k_pure (g' := (mkF m 272 #[.val (.int p0), .val (.int p1), .val (.int k0), .val (.int k1), .val (.int k2), .val (.int md), .val (.int sm), .val (.int (1 : Int32)), .val (.int (2 : Int32)), .val (.int i_7), .val (.int i_15), .val (.int i_23), .val (.int i_31), .val (.int i_39), .val (.ref a_41), .val (.ref a_168), .val (.int (0 : Int32)), .val (.ref a_218), .val (.ref a_168)] [(.ref a_168)])) (fun TT HH tt kk => XS.aload HH hx rfl (hb hby at_270) rfl rfl kk) ?_
          refine k_pure (g' := (mkF m 275 #[.val (.int p0), .val (.int p1), .val (.int k0), .val (.int k1), .val (.int k2), .val (.int md), .val (.int sm), .val (.int (1 : Int32)), .val (.int (2 : Int32)), .val (.int i_7), .val (.int i_15), .val (.int i_23), .val (.int i_31), .val (.int i_39), .val (.ref a_41), .val (.ref a_168), .val (.int (0 : Int32)), .val (.ref a_218), .val (.ref a_168)] [])) (fun TT HH tt kk => XS.ifnullNo HH hx rfl (hb hby at_272) rfl kk) ?_
          refine k_pure (g' := (mkF m 277 #[.val (.int p0), .val (.int p1), .val (.int k0), .val (.int k1), .val (.int k2), .val (.int md), .val (.int sm), .val (.int (1 : Int32)), .val (.int (2 : Int32)), .val (.int i_7), .val (.int i_15), .val (.int i_23), .val (.int i_31), .val (.int i_39), .val (.ref a_41), .val (.ref a_168), .val (.int (0 : Int32)), .val (.ref a_218), .val (.ref a_168)] [(.ref a_168)])) (fun TT HH tt kk => XS.aload HH hx rfl (hb hby at_275) rfl rfl kk) ?_
          refine k_pure (g' := (mkF m 279 #[.val (.int p0), .val (.int p1), .val (.int k0), .val (.int k1), .val (.int k2), .val (.int md), .val (.int sm), .val (.int (1 : Int32)), .val (.int (2 : Int32)), .val (.int i_7), .val (.int i_15), .val (.int i_23), .val (.int i_31), .val (.int i_39), .val (.ref a_41), .val (.ref a_168), .val (.int (0 : Int32)), .val (.ref a_218), .val (.ref a_168)] [(.ref a_168), (.ref a_168)])) (fun TT HH tt kk => XS.aload HH hx rfl (hb hby at_277) rfl rfl kk) ?_
          have F_249 : Exa Z h_243 a_168 "java/lang/String" := (((S_215.1.ext E_221).keep K_235).keep K_248)
          refine k_callV hx (y := (⟨"java/lang/String", "equals", "(Ljava/lang/Object;)Z"⟩ : MethodName)) (z := (⟨"java/lang/String", "equals", "(Ljava/lang/Object;)Z"⟩ : MethodName)) (hw _ (List.mem_of_getElem? (i := 137) rfl)) (hw _ (List.mem_of_getElem? (i := 138) rfl)) (fun s' hZ => notFace_of_selects (args := #[]) (mv hZ (hw _ (List.mem_of_getElem? (i := 140) rfl)))) (hw _ (List.mem_of_getElem? (i := 140) rfl)) (hw _ (List.mem_of_getElem? (i := 139) rfl)) (by decide) (W := 0) (a := a_168) (argsL := [(.ref a_168)]) (rest := []) (Pays.of_met (rm_eqs l Z a0 G1 G3 hX n0 h_243 O_245 a_168  []) (hw _ (List.mem_of_getElem? (i := 141) rfl)) (hw _ (List.mem_of_getElem? (i := 9) rfl)) (by decide) (by decide)) F_249 rfl (by rw [hml]; rfl) (lenOf pd__28_Ljava_2f_lang_2f_Object_3b__29_Z rfl) rfl (by show 2 * 0 + _ ≤ _; exact Nat.le_of_eq rfl) (hb hby at_279) (by decide) (by decide) ?_
          intro v_250 h_251 bk_252 O_253 z_254 Q_255
          obtain ⟨rfl, rfl, rfl⟩ := Q_255
          show Run p l e _ s m _ below meth c Z EL1 _ n0 NoB h_243 13 119 (mkF m 282 #[.val (.int p0), .val (.int p1), .val (.int k0), .val (.int k1), .val (.int k2), .val (.int md), .val (.int sm), .val (.int (1 : Int32)), .val (.int (2 : Int32)), .val (.int i_7), .val (.int i_15), .val (.int i_23), .val (.int i_31), .val (.int i_39), .val (.ref a_41), .val (.ref a_168), .val (.int (0 : Int32)), .val (.ref a_218), .val (.ref a_168)] [(.int (1 : Int32))]) _
          refine k_pure (g' := (mkF m 285 #[.val (.int p0), .val (.int p1), .val (.int k0), .val (.int k1), .val (.int k2), .val (.int md), .val (.int sm), .val (.int (1 : Int32)), .val (.int (2 : Int32)), .val (.int i_7), .val (.int i_15), .val (.int i_23), .val (.int i_31), .val (.int i_39), .val (.ref a_41), .val (.ref a_168), .val (.int (0 : Int32)), .val (.ref a_218), .val (.ref a_168)] [])) (fun TT HH tt kk => XS.ifNo HH hx rfl (hb hby at_282) rfl ((if0 _ _).trans (feq (by decide : ¬ ((1 : Int32) = (0 : Int32)))).1) kk) ?_
          refine k_pure (g' := (mkF m 286 #[.val (.int p0), .val (.int p1), .val (.int k0), .val (.int k1), .val (.int k2), .val (.int md), .val (.int sm), .val (.int (1 : Int32)), .val (.int (2 : Int32)), .val (.int i_7), .val (.int i_15), .val (.int i_23), .val (.int i_31), .val (.int i_39), .val (.ref a_41), .val (.ref a_168), .val (.int (0 : Int32)), .val (.ref a_218), .val (.ref a_168)] [(.int (1 : Int32))])) (fun TT HH tt kk => XS.iconst HH hx rfl (hb hby at_285) kk) ?_
          refine k_pure (g' := (mkF m 290 #[.val (.int p0), .val (.int p1), .val (.int k0), .val (.int k1), .val (.int k2), .val (.int md), .val (.int sm), .val (.int (1 : Int32)), .val (.int (2 : Int32)), .val (.int i_7), .val (.int i_15), .val (.int i_23), .val (.int i_31), .val (.int i_39), .val (.ref a_41), .val (.ref a_168), .val (.int (0 : Int32)), .val (.ref a_218), .val (.ref a_168)] [(.int (1 : Int32))])) (fun TT HH tt kk => XS.goto HH hx rfl (pc0 := 286) (pc' := 290) rfl (hb hby at_286) (by decide) (by decide) kk) ?_
          exact k_retN hx hlk hret (by simp) (hb hby at_290) (by decide) (by decide) ⟨rfl, rfl, (((((((((((((Keep.refl _ _).ext E_44).ext E_56).wr W_64 (Or.inr (by omega))).trans K_77 (kkS (Or.inr (by omega)) kk0)).ext E_171).ext E_183).wr W_191 (Or.inr (by omega))).wr W_197 (Or.inr (by omega))).trans K_210 (kkS (Or.inr (by omega)) kk0)).ext E_221).trans K_235 (kkS (Or.inr (by omega)) kk0)).trans K_248 kk0)⟩
        refine k_pure (g' := (mkF m 211 #[.val (.int p0), .val (.int p1), .val (.int k0), .val (.int k1), .val (.int k2), .val (.int md), .val (.int sm), .val (.int (1 : Int32)), .val (.int (2 : Int32)), .val (.int i_7), .val (.int i_15), .val (.int i_23), .val (.int i_31), .val (.int i_39), .val (.ref a_41), .val (.ref a_168), .unset, .unset, .unset] [(.int (2 : Int32))])) (fun TT HH tt kk => XS.iload HH hx rfl (hb hby at_209) rfl kk) ?_
        refine k_pure (g' := (mkF m 213 #[.val (.int p0), .val (.int p1), .val (.int k0), .val (.int k1), .val (.int k2), .val (.int md), .val (.int sm), .val (.int (1 : Int32)), .val (.int (2 : Int32)), .val (.int i_7), .val (.int i_15), .val (.int i_23), .val (.int i_31), .val (.int i_39), .val (.ref a_41), .val (.ref a_168), .unset, .unset, .unset] [(.int (1 : Int32)), (.int (2 : Int32))])) (fun TT HH tt kk => XS.iload HH hx rfl (hb hby at_211) rfl kk) ?_
        refine k_pure (g' := (mkF m 216 #[.val (.int p0), .val (.int p1), .val (.int k0), .val (.int k1), .val (.int k2), .val (.int md), .val (.int sm), .val (.int (1 : Int32)), .val (.int (2 : Int32)), .val (.int i_7), .val (.int i_15), .val (.int i_23), .val (.int i_31), .val (.int i_39), .val (.ref a_41), .val (.ref a_168), .unset, .unset, .unset] [])) (fun TT HH tt kk => XS.icmpNo HH hx rfl (hb hby at_213) rfl (flt (by decide : ¬ ((2 : Int32) < (1 : Int32)))).1 kk) ?_
        refine k_pure (g' := (mkF m 218 #[.val (.int p0), .val (.int p1), .val (.int k0), .val (.int k1), .val (.int k2), .val (.int md), .val (.int sm), .val (.int (1 : Int32)), .val (.int (2 : Int32)), .val (.int i_7), .val (.int i_15), .val (.int i_23), .val (.int i_31), .val (.int i_39), .val (.ref a_41), .val (.ref a_168), .unset, .unset, .unset] [(.int i_23)])) (fun TT HH tt kk => XS.iload HH hx rfl (hb hby at_216) rfl kk) ?_
        refine k_pure (g' := (mkF m 220 #[.val (.int p0), .val (.int p1), .val (.int k0), .val (.int k1), .val (.int k2), .val (.int md), .val (.int sm), .val (.int (1 : Int32)), .val (.int (2 : Int32)), .val (.int i_7), .val (.int i_15), .val (.int i_23), .val (.int i_31), .val (.int i_39), .val (.ref a_41), .val (.ref a_168), .unset, .unset, .unset] [(.int i_7), (.int i_23)])) (fun TT HH tt kk => XS.iload HH hx rfl (hb hby at_218) rfl kk) ?_
        by_cases c_256 : i_23 = i_7
        · refine k_pure (g' := (mkF m 223 #[.val (.int p0), .val (.int p1), .val (.int k0), .val (.int k1), .val (.int k2), .val (.int md), .val (.int sm), .val (.int (1 : Int32)), .val (.int (2 : Int32)), .val (.int i_7), .val (.int i_15), .val (.int i_23), .val (.int i_31), .val (.int i_39), .val (.ref a_41), .val (.ref a_168), .unset, .unset, .unset] [])) (fun TT HH tt kk => XS.icmpNo HH hx rfl (hb hby at_220) rfl (teq c_256).2 kk) ?_
          refine k_pure (g' := (mkF m 225 #[.val (.int p0), .val (.int p1), .val (.int k0), .val (.int k1), .val (.int k2), .val (.int md), .val (.int sm), .val (.int (1 : Int32)), .val (.int (2 : Int32)), .val (.int i_7), .val (.int i_15), .val (.int i_23), .val (.int i_31), .val (.int i_39), .val (.ref a_41), .val (.ref a_168), .unset, .unset, .unset] [(.int (1 : Int32))])) (fun TT HH tt kk => XS.iload HH hx rfl (hb hby at_223) rfl kk) ?_
          refine k_pure (g' := (mkF m 226 #[.val (.int p0), .val (.int p1), .val (.int k0), .val (.int k1), .val (.int k2), .val (.int md), .val (.int sm), .val (.int (1 : Int32)), .val (.int (2 : Int32)), .val (.int i_7), .val (.int i_15), .val (.int i_23), .val (.int i_31), .val (.int i_39), .val (.ref a_41), .val (.ref a_168), .unset, .unset, .unset] [(.int (1 : Int32)), (.int (1 : Int32))])) (fun TT HH tt kk => XS.iconst HH hx rfl (hb hby at_225) kk) ?_
          refine k_pure (g' := (mkF m 236 #[.val (.int p0), .val (.int p1), .val (.int k0), .val (.int k1), .val (.int k2), .val (.int md), .val (.int sm), .val (.int (1 : Int32)), .val (.int (2 : Int32)), .val (.int i_7), .val (.int i_15), .val (.int i_23), .val (.int i_31), .val (.int i_39), .val (.ref a_41), .val (.ref a_168), .unset, .unset, .unset] [])) (fun TT HH tt kk => XS.icmpYes HH hx rfl (pc0 := 226) (pc' := 236) rfl (hb hby at_226) rfl (teq (by decide : ((1 : Int32) = (1 : Int32)))).1 (by decide) (by decide) kk) ?_
          refine k_pure (g' := (mkF m 237 #[.val (.int p0), .val (.int p1), .val (.int k0), .val (.int k1), .val (.int k2), .val (.int md), .val (.int sm), .val (.int (1 : Int32)), .val (.int (2 : Int32)), .val (.int i_7), .val (.int i_15), .val (.int i_23), .val (.int i_31), .val (.int i_39), .val (.ref a_41), .val (.ref a_168), .unset, .unset, .unset] [(.int (1 : Int32))])) (fun TT HH tt kk => XS.iconst HH hx rfl (hb hby at_236) kk) ?_
          refine k_pure (g' := (mkF m 241 #[.val (.int p0), .val (.int p1), .val (.int k0), .val (.int k1), .val (.int k2), .val (.int md), .val (.int sm), .val (.int (1 : Int32)), .val (.int (2 : Int32)), .val (.int i_7), .val (.int i_15), .val (.int i_23), .val (.int i_31), .val (.int i_39), .val (.ref a_41), .val (.ref a_168), .unset, .unset, .unset] [(.int (1 : Int32))])) (fun TT HH tt kk => XS.goto HH hx rfl (pc0 := 237) (pc' := 241) rfl (hb hby at_237) (by decide) (by decide) kk) ?_
          refine k_pure (g' := (mkF m 243 #[.val (.int p0), .val (.int p1), .val (.int k0), .val (.int k1), .val (.int k2), .val (.int md), .val (.int sm), .val (.int (1 : Int32)), .val (.int (2 : Int32)), .val (.int i_7), .val (.int i_15), .val (.int i_23), .val (.int i_31), .val (.int i_39), .val (.ref a_41), .val (.ref a_168), .val (.int (1 : Int32)), .unset, .unset] [])) (fun TT HH tt kk => XS.istore HH hx rfl (hb hby at_241) rfl (l' := #[.val (.int p0), .val (.int p1), .val (.int k0), .val (.int k1), .val (.int k2), .val (.int md), .val (.int sm), .val (.int (1 : Int32)), .val (.int (2 : Int32)), .val (.int i_7), .val (.int i_15), .val (.int i_23), .val (.int i_31), .val (.int i_39), .val (.ref a_41), .val (.ref a_168), .val (.int (1 : Int32)), .unset, .unset]) rfl kk) ?_
          refine k_pure (g' := (mkF m 245 #[.val (.int p0), .val (.int p1), .val (.int k0), .val (.int k1), .val (.int k2), .val (.int md), .val (.int sm), .val (.int (1 : Int32)), .val (.int (2 : Int32)), .val (.int i_7), .val (.int i_15), .val (.int i_23), .val (.int i_31), .val (.int i_39), .val (.ref a_41), .val (.ref a_168), .val (.int (1 : Int32)), .unset, .unset] [(.int (1 : Int32))])) (fun TT HH tt kk => XS.iload HH hx rfl (hb hby at_243) rfl kk) ?_
          refine k_pure (g' := (mkF m 248 #[.val (.int p0), .val (.int p1), .val (.int k0), .val (.int k1), .val (.int k2), .val (.int md), .val (.int sm), .val (.int (1 : Int32)), .val (.int (2 : Int32)), .val (.int i_7), .val (.int i_15), .val (.int i_23), .val (.int i_31), .val (.int i_39), .val (.ref a_41), .val (.ref a_168), .val (.int (1 : Int32)), .unset, .unset] [])) (fun TT HH tt kk => XS.ifNo HH hx rfl (hb hby at_245) rfl ((if0 _ _).trans (feq (by decide : ¬ ((1 : Int32) = (0 : Int32)))).1) kk) ?_
          refine k_pure (g' := (mkF m 249 #[.val (.int p0), .val (.int p1), .val (.int k0), .val (.int k1), .val (.int k2), .val (.int md), .val (.int sm), .val (.int (1 : Int32)), .val (.int (2 : Int32)), .val (.int i_7), .val (.int i_15), .val (.int i_23), .val (.int i_31), .val (.int i_39), .val (.ref a_41), .val (.ref a_168), .val (.int (1 : Int32)), .unset, .unset] [(.int (1 : Int32))])) (fun TT HH tt kk => XS.iconst HH hx rfl (hb hby at_248) kk) ?_
          exact k_retN hx hlk hret (by simp) (hb hby at_249) (by decide) (by decide) ⟨rfl, rfl, ((((((((((Keep.refl _ _).ext E_44).ext E_56).wr W_64 (Or.inr (by omega))).trans K_77 (kkS (Or.inr (by omega)) kk0)).ext E_171).ext E_183).wr W_191 (Or.inr (by omega))).wr W_197 (Or.inr (by omega))).trans K_210 (kkS (Or.inr (by omega)) kk0))⟩
        · refine k_pure (g' := (mkF m 240 #[.val (.int p0), .val (.int p1), .val (.int k0), .val (.int k1), .val (.int k2), .val (.int md), .val (.int sm), .val (.int (1 : Int32)), .val (.int (2 : Int32)), .val (.int i_7), .val (.int i_15), .val (.int i_23), .val (.int i_31), .val (.int i_39), .val (.ref a_41), .val (.ref a_168), .unset, .unset, .unset] [])) (fun TT HH tt kk => XS.icmpYes HH hx rfl (pc0 := 220) (pc' := 240) rfl (hb hby at_220) rfl (feq c_256).2 (by decide) (by decide) kk) ?_
          exact J240 (fun q => c_256 (by simp at q; exact q))
      · show Run p l e _ s m _ below meth c Z EL1 _ n0 NoB h_72 3 6 (mkF m 125 #[.val (.int p0), .val (.int p1), .val (.int k0), .val (.int k1), .val (.int k2), .val (.int md), .val (.int sm), .val (.int (1 : Int32)), .val (.int (3 : Int32)), .val (.int i_7), .val (.int i_15), .val (.int i_23), .val (.int i_31), .val (.int i_39), .val (.ref a_41), .unset, .unset, .unset, .unset] []) _
        refine k_pure (g' := (mkF m 127 #[.val (.int p0), .val (.int p1), .val (.int k0), .val (.int k1), .val (.int k2), .val (.int md), .val (.int sm), .val (.int (1 : Int32)), .val (.int (3 : Int32)), .val (.int i_7), .val (.int i_15), .val (.int i_23), .val (.int i_31), .val (.int i_39), .val (.ref a_41), .unset, .unset, .unset, .unset] [(.int (3 : Int32))])) (fun TT HH tt kk => XS.iload HH hx rfl (hb hby at_125) rfl kk) ?_
        refine k_pure (g' := (mkF m 128 #[.val (.int p0), .val (.int p1), .val (.int k0), .val (.int k1), .val (.int k2), .val (.int md), .val (.int sm), .val (.int (1 : Int32)), .val (.int (3 : Int32)), .val (.int i_7), .val (.int i_15), .val (.int i_23), .val (.int i_31), .val (.int i_39), .val (.ref a_41), .unset, .unset, .unset, .unset] [(.int (1 : Int32)), (.int (3 : Int32))])) (fun TT HH tt kk => XS.iconst HH hx rfl (hb hby at_127) kk) ?_
        refine k_pure (g' := (mkF m 151 #[.val (.int p0), .val (.int p1), .val (.int k0), .val (.int k1), .val (.int k2), .val (.int md), .val (.int sm), .val (.int (1 : Int32)), .val (.int (3 : Int32)), .val (.int i_7), .val (.int i_15), .val (.int i_23), .val (.int i_31), .val (.int i_39), .val (.ref a_41), .unset, .unset, .unset, .unset] [])) (fun TT HH tt kk => XS.icmpYes HH hx rfl (pc0 := 128) (pc' := 151) rfl (hb hby at_128) rfl (feq (by decide : ¬ ((3 : Int32) = (1 : Int32)))).2 (by decide) (by decide) kk) ?_
        refine k_pure (g' := (mkF m 153 #[.val (.int p0), .val (.int p1), .val (.int k0), .val (.int k1), .val (.int k2), .val (.int md), .val (.int sm), .val (.int (1 : Int32)), .val (.int (3 : Int32)), .val (.int i_7), .val (.int i_15), .val (.int i_23), .val (.int i_31), .val (.int i_39), .val (.ref a_41), .unset, .unset, .unset, .unset] [(.int (3 : Int32))])) (fun TT HH tt kk => XS.iload HH hx rfl (hb hby at_151) rfl kk) ?_
        refine k_pure (g' := (mkF m 154 #[.val (.int p0), .val (.int p1), .val (.int k0), .val (.int k1), .val (.int k2), .val (.int md), .val (.int sm), .val (.int (1 : Int32)), .val (.int (3 : Int32)), .val (.int i_7), .val (.int i_15), .val (.int i_23), .val (.int i_31), .val (.int i_39), .val (.ref a_41), .unset, .unset, .unset, .unset] [(.int (2 : Int32)), (.int (3 : Int32))])) (fun TT HH tt kk => XS.iconst HH hx rfl (hb hby at_153) kk) ?_
        refine k_pure (g' := (mkF m 182 #[.val (.int p0), .val (.int p1), .val (.int k0), .val (.int k1), .val (.int k2), .val (.int md), .val (.int sm), .val (.int (1 : Int32)), .val (.int (3 : Int32)), .val (.int i_7), .val (.int i_15), .val (.int i_23), .val (.int i_31), .val (.int i_39), .val (.ref a_41), .unset, .unset, .unset, .unset] [])) (fun TT HH tt kk => XS.icmpYes HH hx rfl (pc0 := 154) (pc' := 182) rfl (hb hby at_154) rfl (feq (by decide : ¬ ((3 : Int32) = (2 : Int32)))).2 (by decide) (by decide) kk) ?_
        refine k_newO hx (hw _ (List.mem_of_getElem? (i := 7) rfl)) (hw _ (List.mem_of_getElem? (i := 8) rfl)) (hw _ (List.mem_of_getElem? (i := 9) rfl)) rfl (hb hby at_182) (by decide) (by decide) ?_
        intro h_258 a_257 g_264 O_259 E_260 A_261 D_262 U_263
        have z_265 := E_260.1
        have lt_266 : @LT.lt Nat _ a_257 (Array.size h_258) := A_261.lt
        show Run p l e _ s m _ below meth c Z EL1 _ n0 NoB h_258 4 10 (mkF m 185 #[.val (.int p0), .val (.int p1), .val (.int k0), .val (.int k1), .val (.int k2), .val (.int md), .val (.int sm), .val (.int (1 : Int32)), .val (.int (3 : Int32)), .val (.int i_7), .val (.int i_15), .val (.int i_23), .val (.int i_31), .val (.int i_39), .val (.ref a_41), .unset, .unset, .unset, .unset] [(.ref a_257)]) _
        refine k_pure (g' := (mkF m 186 #[.val (.int p0), .val (.int p1), .val (.int k0), .val (.int k1), .val (.int k2), .val (.int md), .val (.int sm), .val (.int (1 : Int32)), .val (.int (3 : Int32)), .val (.int i_7), .val (.int i_15), .val (.int i_23), .val (.int i_31), .val (.int i_39), .val (.ref a_41), .unset, .unset, .unset, .unset] [(.ref a_257), (.ref a_257)])) (fun TT HH tt kk => XS.dup HH hx rfl (hb hby at_185) rfl rfl kk) ?_
        refine k_pure (g' := (mkF m 187 #[.val (.int p0), .val (.int p1), .val (.int k0), .val (.int k1), .val (.int k2), .val (.int md), .val (.int sm), .val (.int (1 : Int32)), .val (.int (3 : Int32)), .val (.int i_7), .val (.int i_15), .val (.int i_23), .val (.int i_31), .val (.int i_39), .val (.ref a_41), .unset, .unset, .unset, .unset] [(.int (3 : Int32)), (.ref a_257), (.ref a_257)])) (fun TT HH tt kk => XS.iconst HH hx rfl (hb hby at_186) kk) ?_
        refine k_newP hx (hw _ (List.mem_of_getElem? (i := 10) rfl)) rfl (hb hby at_187) rfl (by decide) (cap := 3) (by decide) (by decide) (by decide) (by decide) "[C" (by decide +kernel) ?_
        intro h_268 a_267 k_269 g_270 O_271 E_272 A_273 X_274
        have z_275 := E_272.1
        have lt_276 : @LT.lt Nat _ a_267 (Array.size h_268) := A_273.lt
        have V_277 : Arv Z h_268 a_267 k_269 .char (3 : Int32) [(.int (0 : Int32)), (.int (0 : Int32)), (.int (0 : Int32))] (.int (0 : Int32)) := Arv.pad A_273 (pad_rep [] (.int (0 : Int32)) 3)
        show Run p l e _ s m _ below meth c Z EL1 _ n0 NoB h_268 5 13 (mkF m 189 #[.val (.int p0), .val (.int p1), .val (.int k0), .val (.int k1), .val (.int k2), .val (.int md), .val (.int sm), .val (.int (1 : Int32)), .val (.int (3 : Int32)), .val (.int i_7), .val (.int i_15), .val (.int i_23), .val (.int i_31), .val (.int i_39), .val (.ref a_41), .unset, .unset, .unset, .unset] [(.ref a_267), (.ref a_257), (.ref a_257)]) _
        refine k_pure (g' := (mkF m 190 #[.val (.int p0), .val (.int p1), .val (.int k0), .val (.int k1), .val (.int k2), .val (.int md), .val (.int sm), .val (.int (1 : Int32)), .val (.int (3 : Int32)), .val (.int i_7), .val (.int i_15), .val (.int i_23), .val (.int i_31), .val (.int i_39), .val (.ref a_41), .unset, .unset, .unset, .unset] [(.ref a_267), (.ref a_267), (.ref a_257), (.ref a_257)])) (fun TT HH tt kk => XS.dup HH hx rfl (hb hby at_189) rfl rfl kk) ?_
        refine k_pure (g' := (mkF m 191 #[.val (.int p0), .val (.int p1), .val (.int k0), .val (.int k1), .val (.int k2), .val (.int md), .val (.int sm), .val (.int (1 : Int32)), .val (.int (3 : Int32)), .val (.int i_7), .val (.int i_15), .val (.int i_23), .val (.int i_31), .val (.int i_39), .val (.ref a_41), .unset, .unset, .unset, .unset] [(.int (0 : Int32)), (.ref a_267), (.ref a_267), (.ref a_257), (.ref a_257)])) (fun TT HH tt kk => XS.iconst HH hx rfl (hb hby at_190) kk) ?_
        refine k_pure (g' := (mkF m 193 #[.val (.int p0), .val (.int p1), .val (.int k0), .val (.int k1), .val (.int k2), .val (.int md), .val (.int sm), .val (.int (1 : Int32)), .val (.int (3 : Int32)), .val (.int i_7), .val (.int i_15), .val (.int i_23), .val (.int i_31), .val (.int i_39), .val (.ref a_41), .unset, .unset, .unset, .unset] [(.int i_23), (.int (0 : Int32)), (.ref a_267), (.ref a_267), (.ref a_257), (.ref a_257)])) (fun TT HH tt kk => XS.iload HH hx rfl (hb hby at_191) rfl kk) ?_
        refine k_stC hx V_277 ⟨by decide, by decide⟩ 0 (by decide) (Nat.le_of_ble_eq_true rfl) (by omega) (fun q => q) rfl rfl (hb hby at_193) ?_
        intro h_278 O_279 W_280 A_281
        have z_282 := W_280.size
        have V_283 : Arv Z h_278 a_267 k_269 .char (3 : Int32) [(.int i_23), (.int (0 : Int32)), (.int (0 : Int32))] (.int (0 : Int32)) := by rw [Dc.nr (P_24)] at A_281; exact A_281
        show Run p l e _ s m _ below meth c Z EL1 _ n0 NoB h_278 5 13 (mkF m 194 #[.val (.int p0), .val (.int p1), .val (.int k0), .val (.int k1), .val (.int k2), .val (.int md), .val (.int sm), .val (.int (1 : Int32)), .val (.int (3 : Int32)), .val (.int i_7), .val (.int i_15), .val (.int i_23), .val (.int i_31), .val (.int i_39), .val (.ref a_41), .unset, .unset, .unset, .unset] [(.ref a_267), (.ref a_257), (.ref a_257)]) _
        refine k_pure (g' := (mkF m 195 #[.val (.int p0), .val (.int p1), .val (.int k0), .val (.int k1), .val (.int k2), .val (.int md), .val (.int sm), .val (.int (1 : Int32)), .val (.int (3 : Int32)), .val (.int i_7), .val (.int i_15), .val (.int i_23), .val (.int i_31), .val (.int i_39), .val (.ref a_41), .unset, .unset, .unset, .unset] [(.ref a_267), (.ref a_267), (.ref a_257), (.ref a_257)])) (fun TT HH tt kk => XS.dup HH hx rfl (hb hby at_194) rfl rfl kk) ?_
        refine k_pure (g' := (mkF m 196 #[.val (.int p0), .val (.int p1), .val (.int k0), .val (.int k1), .val (.int k2), .val (.int md), .val (.int sm), .val (.int (1 : Int32)), .val (.int (3 : Int32)), .val (.int i_7), .val (.int i_15), .val (.int i_23), .val (.int i_31), .val (.int i_39), .val (.ref a_41), .unset, .unset, .unset, .unset] [(.int (1 : Int32)), (.ref a_267), (.ref a_267), (.ref a_257), (.ref a_257)])) (fun TT HH tt kk => XS.iconst HH hx rfl (hb hby at_195) kk) ?_
        refine k_pure (g' := (mkF m 198 #[.val (.int p0), .val (.int p1), .val (.int k0), .val (.int k1), .val (.int k2), .val (.int md), .val (.int sm), .val (.int (1 : Int32)), .val (.int (3 : Int32)), .val (.int i_7), .val (.int i_15), .val (.int i_23), .val (.int i_31), .val (.int i_39), .val (.ref a_41), .unset, .unset, .unset, .unset] [(.int i_31), (.int (1 : Int32)), (.ref a_267), (.ref a_267), (.ref a_257), (.ref a_257)])) (fun TT HH tt kk => XS.iload HH hx rfl (hb hby at_196) rfl kk) ?_
        refine k_stC hx V_283 ⟨by decide, by decide⟩ 1 (by decide) (Nat.le_of_ble_eq_true rfl) (by omega) (fun q => q) rfl rfl (hb hby at_198) ?_
        intro h_284 O_285 W_286 A_287
        have z_288 := W_286.size
        have V_289 : Arv Z h_284 a_267 k_269 .char (3 : Int32) [(.int i_23), (.int i_31), (.int (0 : Int32))] (.int (0 : Int32)) := by rw [Dc.nr (P_32)] at A_287; exact A_287
        show Run p l e _ s m _ below meth c Z EL1 _ n0 NoB h_284 5 13 (mkF m 199 #[.val (.int p0), .val (.int p1), .val (.int k0), .val (.int k1), .val (.int k2), .val (.int md), .val (.int sm), .val (.int (1 : Int32)), .val (.int (3 : Int32)), .val (.int i_7), .val (.int i_15), .val (.int i_23), .val (.int i_31), .val (.int i_39), .val (.ref a_41), .unset, .unset, .unset, .unset] [(.ref a_267), (.ref a_257), (.ref a_257)]) _
        refine k_pure (g' := (mkF m 200 #[.val (.int p0), .val (.int p1), .val (.int k0), .val (.int k1), .val (.int k2), .val (.int md), .val (.int sm), .val (.int (1 : Int32)), .val (.int (3 : Int32)), .val (.int i_7), .val (.int i_15), .val (.int i_23), .val (.int i_31), .val (.int i_39), .val (.ref a_41), .unset, .unset, .unset, .unset] [(.ref a_267), (.ref a_267), (.ref a_257), (.ref a_257)])) (fun TT HH tt kk => XS.dup HH hx rfl (hb hby at_199) rfl rfl kk) ?_
        refine k_pure (g' := (mkF m 201 #[.val (.int p0), .val (.int p1), .val (.int k0), .val (.int k1), .val (.int k2), .val (.int md), .val (.int sm), .val (.int (1 : Int32)), .val (.int (3 : Int32)), .val (.int i_7), .val (.int i_15), .val (.int i_23), .val (.int i_31), .val (.int i_39), .val (.ref a_41), .unset, .unset, .unset, .unset] [(.int (2 : Int32)), (.ref a_267), (.ref a_267), (.ref a_257), (.ref a_257)])) (fun TT HH tt kk => XS.iconst HH hx rfl (hb hby at_200) kk) ?_
        refine k_pure (g' := (mkF m 203 #[.val (.int p0), .val (.int p1), .val (.int k0), .val (.int k1), .val (.int k2), .val (.int md), .val (.int sm), .val (.int (1 : Int32)), .val (.int (3 : Int32)), .val (.int i_7), .val (.int i_15), .val (.int i_23), .val (.int i_31), .val (.int i_39), .val (.ref a_41), .unset, .unset, .unset, .unset] [(.int i_39), (.int (2 : Int32)), (.ref a_267), (.ref a_267), (.ref a_257), (.ref a_257)])) (fun TT HH tt kk => XS.iload HH hx rfl (hb hby at_201) rfl kk) ?_
        refine k_stC hx V_289 ⟨by decide, by decide⟩ 2 (by decide) (Nat.le_of_ble_eq_true rfl) (by omega) (fun q => q) rfl rfl (hb hby at_203) ?_
        intro h_290 O_291 W_292 A_293
        have z_294 := W_292.size
        have V_295 : Arv Z h_290 a_267 k_269 .char (3 : Int32) [(.int i_23), (.int i_31), (.int i_39)] (.int (0 : Int32)) := by rw [Dc.nr (P_40)] at A_293; exact A_293
        show Run p l e _ s m _ below meth c Z EL1 _ n0 NoB h_290 5 13 (mkF m 204 #[.val (.int p0), .val (.int p1), .val (.int k0), .val (.int k1), .val (.int k2), .val (.int md), .val (.int sm), .val (.int (1 : Int32)), .val (.int (3 : Int32)), .val (.int i_7), .val (.int i_15), .val (.int i_23), .val (.int i_31), .val (.int i_39), .val (.ref a_41), .unset, .unset, .unset, .unset] [(.ref a_267), (.ref a_257), (.ref a_257)]) _
        have F_296 : Exa Z h_290 a_257 "java/lang/String" := ((((A_261.ext E_272).wr W_280).wr W_286).wr W_292)
        have F_297 : Fld Z h_290 a_257 "java/lang/String" "value" "[B" .null := (((((D_262 (Or.inr (hw _ (List.mem_of_getElem? (i := 36) rfl))) (ty := (.array .byte)) (by decide)).ext E_272).other W_280 (Or.inl (ne_ad (by omega)))).other W_286 (Or.inl (ne_ad (by omega)))).other W_292 (Or.inl (ne_ad (by omega))))
        have F_298 : Fld Z h_290 a_257 "java/lang/String" "coder" "B" (.int (0 : Int32)) := (((((D_262 (Or.inr (hw _ (List.mem_of_getElem? (i := 34) rfl))) (ty := .byte) (by decide)).ext E_272).other W_280 (Or.inl (ne_ad (by omega)))).other W_286 (Or.inl (ne_ad (by omega)))).other W_292 (Or.inl (ne_ad (by omega))))
        refine k_callI hx (y := (⟨"java/lang/String", "<init>", "([C)V"⟩ : MethodName)) rfl (hw _ (List.mem_of_getElem? (i := 11) rfl)) (hw _ (List.mem_of_getElem? (i := 12) rfl)) (hw _ (List.mem_of_getElem? (i := 13) rfl)) (by decide) (W := 1) (a := a_257) (argsL := [(.ref a_267)]) (rest := [(.ref a_257)]) (pay_new (W := 1) hX O_291 (fun q => q) (cs := [i_23, i_31, i_39]) F_296 F_297 F_298 V_295 3 rfl rfl (by decide) (by decide) (gd3 (P_24) (P_32) (P_40)) (by omega) (by decide) (by decide)) rfl (by rw [hml]; rfl) (lenOf pd__28__5b_C_29_V rfl) rfl (by show 2 * 0 + _ ≤ _; exact Nat.le_of_eq rfl) (hb hby at_204) (by decide) (by decide) ?_
        intro v_299 h_300 bk_301 O_302 z_303 Q_304
        obtain ⟨rfl, rfl, K_305, a_306, k_307, ge_308, ge_309, S_310⟩ := Q_304
        have lt_311 : @LT.lt Nat _ a_257 (Array.size h_300) := S_310.lt1
        have lt_312 : @LT.lt Nat _ a_306 (Array.size h_300) := S_310.lt2
        show Run p l e _ s m _ below meth c Z EL1 _ n0 NoB h_300 6 16 (mkF m 207 #[.val (.int p0), .val (.int p1), .val (.int k0), .val (.int k1), .val (.int k2), .val (.int md), .val (.int sm), .val (.int (1 : Int32)), .val (.int (3 : Int32)), .val (.int i_7), .val (.int i_15), .val (.int i_23), .val (.int i_31), .val (.int i_39), .val (.ref a_41), .unset, .unset, .unset, .unset] [(.ref a_257)]) _
        refine k_pure (g' := (mkF m 209 #[.val (.int p0), .val (.int p1), .val (.int k0), .val (.int k1), .val (.int k2), .val (.int md), .val (.int sm), .val (.int (1 : Int32)), .val (.int (3 : Int32)), .val (.int i_7), .val (.int i_15), .val (.int i_23), .val (.int i_31), .val (.int i_39), .val (.ref a_41), .val (.ref a_257), .unset, .unset, .unset] [])) (fun TT HH tt kk => XS.astore HH hx rfl (hb hby at_207) rfl rfl (l' := #[.val (.int p0), .val (.int p1), .val (.int k0), .val (.int k1), .val (.int k2), .val (.int md), .val (.int sm), .val (.int (1 : Int32)), .val (.int (3 : Int32)), .val (.int i_7), .val (.int i_15), .val (.int i_23), .val (.int i_31), .val (.int i_39), .val (.ref a_41), .val (.ref a_257), .unset, .unset, .unset]) rfl kk) ?_
        have J240 : ¬ [i_23, i_31, i_39].take [i_7].length = [i_7] → Run p l e room_1 s m #[(.int p0), (.int p1), (.int k0), (.int k1), (.int k2), (.int md)] below meth c Z EL1 "com/example/eirene/eirene/KeySpaceCallerKeyPinLaw" n0 NoB h_300 6 16 (mkF m 240 #[.val (.int p0), .val (.int p1), .val (.int k0), .val (.int k1), .val (.int k2), .val (.int md), .val (.int sm), .val (.int (1 : Int32)), .val (.int (3 : Int32)), .val (.int i_7), .val (.int i_15), .val (.int i_23), .val (.int i_31), .val (.int i_39), .val (.ref a_41), .val (.ref a_257), .unset, .unset, .unset] []) (Q_law Z p0 p1 k0 k1 k2 md h0 n0 NoB) := by
          intro hns
          refine k_pure (g' := (mkF m 241 #[.val (.int p0), .val (.int p1), .val (.int k0), .val (.int k1), .val (.int k2), .val (.int md), .val (.int sm), .val (.int (1 : Int32)), .val (.int (3 : Int32)), .val (.int i_7), .val (.int i_15), .val (.int i_23), .val (.int i_31), .val (.int i_39), .val (.ref a_41), .val (.ref a_257), .unset, .unset, .unset] [(.int (0 : Int32))])) (fun TT HH tt kk => XS.iconst HH hx rfl (hb hby at_240) kk) ?_
          refine k_pure (g' := (mkF m 243 #[.val (.int p0), .val (.int p1), .val (.int k0), .val (.int k1), .val (.int k2), .val (.int md), .val (.int sm), .val (.int (1 : Int32)), .val (.int (3 : Int32)), .val (.int i_7), .val (.int i_15), .val (.int i_23), .val (.int i_31), .val (.int i_39), .val (.ref a_41), .val (.ref a_257), .val (.int (0 : Int32)), .unset, .unset] [])) (fun TT HH tt kk => XS.istore HH hx rfl (hb hby at_241) rfl (l' := #[.val (.int p0), .val (.int p1), .val (.int k0), .val (.int k1), .val (.int k2), .val (.int md), .val (.int sm), .val (.int (1 : Int32)), .val (.int (3 : Int32)), .val (.int i_7), .val (.int i_15), .val (.int i_23), .val (.int i_31), .val (.int i_39), .val (.ref a_41), .val (.ref a_257), .val (.int (0 : Int32)), .unset, .unset]) rfl kk) ?_
          refine k_pure (g' := (mkF m 245 #[.val (.int p0), .val (.int p1), .val (.int k0), .val (.int k1), .val (.int k2), .val (.int md), .val (.int sm), .val (.int (1 : Int32)), .val (.int (3 : Int32)), .val (.int i_7), .val (.int i_15), .val (.int i_23), .val (.int i_31), .val (.int i_39), .val (.ref a_41), .val (.ref a_257), .val (.int (0 : Int32)), .unset, .unset] [(.int (0 : Int32))])) (fun TT HH tt kk => XS.iload HH hx rfl (hb hby at_243) rfl kk) ?_
          refine k_pure (g' := (mkF m 250 #[.val (.int p0), .val (.int p1), .val (.int k0), .val (.int k1), .val (.int k2), .val (.int md), .val (.int sm), .val (.int (1 : Int32)), .val (.int (3 : Int32)), .val (.int i_7), .val (.int i_15), .val (.int i_23), .val (.int i_31), .val (.int i_39), .val (.ref a_41), .val (.ref a_257), .val (.int (0 : Int32)), .unset, .unset] [])) (fun TT HH tt kk => XS.ifYes HH hx rfl (pc0 := 245) (pc' := 250) rfl (hb hby at_245) rfl ((if0 _ _).trans (teq (by decide : ((0 : Int32) = (0 : Int32)))).1) (by decide) (by decide) kk) ?_
          refine k_newO hx (hw _ (List.mem_of_getElem? (i := 37) rfl)) (hw _ (List.mem_of_getElem? (i := 38) rfl)) (hw _ (List.mem_of_getElem? (i := 39) rfl)) rfl (hb hby at_250) (by decide) (by decide) ?_
          intro h_314 a_313 g_320 O_315 E_316 A_317 D_318 U_319
          have z_321 := E_316.1
          have lt_322 : @LT.lt Nat _ a_313 (Array.size h_314) := A_317.lt
          show Run p l e _ s m _ below meth c Z EL1 _ n0 NoB h_314 7 17 (mkF m 253 #[.val (.int p0), .val (.int p1), .val (.int k0), .val (.int k1), .val (.int k2), .val (.int md), .val (.int sm), .val (.int (1 : Int32)), .val (.int (3 : Int32)), .val (.int i_7), .val (.int i_15), .val (.int i_23), .val (.int i_31), .val (.int i_39), .val (.ref a_41), .val (.ref a_257), .val (.int (0 : Int32)), .unset, .unset] [(.ref a_313)]) _
          refine k_pure (g' := (mkF m 254 #[.val (.int p0), .val (.int p1), .val (.int k0), .val (.int k1), .val (.int k2), .val (.int md), .val (.int sm), .val (.int (1 : Int32)), .val (.int (3 : Int32)), .val (.int i_7), .val (.int i_15), .val (.int i_23), .val (.int i_31), .val (.int i_39), .val (.ref a_41), .val (.ref a_257), .val (.int (0 : Int32)), .unset, .unset] [(.ref a_313), (.ref a_313)])) (fun TT HH tt kk => XS.dup HH hx rfl (hb hby at_253) rfl rfl kk) ?_
          refine k_pure (g' := (mkF m 256 #[.val (.int p0), .val (.int p1), .val (.int k0), .val (.int k1), .val (.int k2), .val (.int md), .val (.int sm), .val (.int (1 : Int32)), .val (.int (3 : Int32)), .val (.int i_7), .val (.int i_15), .val (.int i_23), .val (.int i_31), .val (.int i_39), .val (.ref a_41), .val (.ref a_257), .val (.int (0 : Int32)), .unset, .unset] [(.ref a_41), (.ref a_313), (.ref a_313)])) (fun TT HH tt kk => XS.aload HH hx rfl (hb hby at_254) rfl rfl kk) ?_
          have F_323 : StrL Z h_314 a_41 a_78 k_79 [i_7] := (((((((S_82.ext E_260).ext E_272).other W_280 (ne_ad (by omega)) (ne_ad (by omega))).other W_286 (ne_ad (by omega)) (ne_ad (by omega))).other W_292 (ne_ad (by omega)) (ne_ad (by omega))).keep K_305 (ninS (ne_ad (by omega)) nin0) (ninS (ne_ad (by omega)) nin0)).ext E_316)
          refine k_callI hx (y := (⟨"com/example/eirene/eirene/KeySpace", "<init>", "(Ljava/lang/String;)V"⟩ : MethodName)) rfl (hw _ (List.mem_of_getElem? (i := 40) rfl)) (hw _ (List.mem_of_getElem? (i := 41) rfl)) (hw _ (List.mem_of_getElem? (i := 42) rfl)) (by decide) (W := 1) (a := a_313) (argsL := [(.ref a_41)]) (rest := [(.ref a_313)]) (Pays.of_met (rm_ini l Z a0 G1 G3 hX n0 h_314 O_315 a_313 a_41 a_78 k_79 [i_7] A_317 (D_318 (Or.inr (hw _ (List.mem_of_getElem? (i := 120) rfl))) (ty := (.object "java/lang/String")) (by decide)) F_323 (pc1 P_8) (by simp) (by omega) []) (hw _ (List.mem_of_getElem? (i := 42) rfl)) (hw _ (List.mem_of_getElem? (i := 39) rfl)) (by decide) (by decide)) rfl (by rw [hml]; rfl) (lenOf pd__28_Ljava_2f_lang_2f_String_3b__29_V rfl) rfl (by show 2 * 0 + _ ≤ _; exact Nat.le_of_eq rfl) (hb hby at_256) (by decide) (by decide) ?_
          intro v_324 h_325 bk_326 O_327 z_328 Q_329
          obtain ⟨rfl, rfl, K_330, F_331, F_332⟩ := Q_329
          have lt_333 : @LT.lt Nat _ a_313 (Array.size h_325) := F_331.lt
          have lt_334 : @LT.lt Nat _ a_313 (Array.size h_325) := F_332.lt
          show Run p l e _ s m _ below meth c Z EL1 _ n0 NoB h_325 11 105 (mkF m 259 #[.val (.int p0), .val (.int p1), .val (.int k0), .val (.int k1), .val (.int k2), .val (.int md), .val (.int sm), .val (.int (1 : Int32)), .val (.int (3 : Int32)), .val (.int i_7), .val (.int i_15), .val (.int i_23), .val (.int i_31), .val (.int i_39), .val (.ref a_41), .val (.ref a_257), .val (.int (0 : Int32)), .unset, .unset] [(.ref a_313)]) _
          refine k_pure (g' := (mkF m 261 #[.val (.int p0), .val (.int p1), .val (.int k0), .val (.int k1), .val (.int k2), .val (.int md), .val (.int sm), .val (.int (1 : Int32)), .val (.int (3 : Int32)), .val (.int i_7), .val (.int i_15), .val (.int i_23), .val (.int i_31), .val (.int i_39), .val (.ref a_41), .val (.ref a_257), .val (.int (0 : Int32)), .val (.ref a_313), .unset] [])) (fun TT HH tt kk => XS.astore HH hx rfl (hb hby at_259) rfl rfl (l' := #[.val (.int p0), .val (.int p1), .val (.int k0), .val (.int k1), .val (.int k2), .val (.int md), .val (.int sm), .val (.int (1 : Int32)), .val (.int (3 : Int32)), .val (.int i_7), .val (.int i_15), .val (.int i_23), .val (.int i_31), .val (.int i_39), .val (.ref a_41), .val (.ref a_257), .val (.int (0 : Int32)), .val (.ref a_313), .unset]) rfl kk) ?_
          refine k_pure (g' := (mkF m 263 #[.val (.int p0), .val (.int p1), .val (.int k0), .val (.int k1), .val (.int k2), .val (.int md), .val (.int sm), .val (.int (1 : Int32)), .val (.int (3 : Int32)), .val (.int i_7), .val (.int i_15), .val (.int i_23), .val (.int i_31), .val (.int i_39), .val (.ref a_41), .val (.ref a_257), .val (.int (0 : Int32)), .val (.ref a_313), .unset] [(.ref a_313)])) (fun TT HH tt kk => XS.aload HH hx rfl (hb hby at_261) rfl rfl kk) ?_
          refine k_pure (g' := (mkF m 265 #[.val (.int p0), .val (.int p1), .val (.int k0), .val (.int k1), .val (.int k2), .val (.int md), .val (.int sm), .val (.int (1 : Int32)), .val (.int (3 : Int32)), .val (.int i_7), .val (.int i_15), .val (.int i_23), .val (.int i_31), .val (.int i_39), .val (.ref a_41), .val (.ref a_257), .val (.int (0 : Int32)), .val (.ref a_313), .unset] [(.ref a_257), (.ref a_313)])) (fun TT HH tt kk => XS.aload HH hx rfl (hb hby at_263) rfl rfl kk) ?_
          have F_335 : StrL Z h_325 a_257 a_306 k_307 [i_23, i_31, i_39] := ((S_310.ext E_316).keep K_330 (ninS (ne_ad (by omega)) nin0) (ninS (ne_ad (by omega)) nin0))
          have F_336 : StrL Z h_325 a_41 a_78 k_79 [i_7] := (F_323.keep K_330 (ninS (ne_ad (by omega)) nin0) (ninS (ne_ad (by omega)) nin0))
          refine k_callV hx (y := (⟨"com/example/eirene/eirene/KeySpace", "callerKey", "(Ljava/lang/String;)Ljava/lang/String;"⟩ : MethodName)) (z := (⟨"com/example/eirene/eirene/KeySpace", "callerKey", "(Ljava/lang/String;)Ljava/lang/String;"⟩ : MethodName)) (hw _ (List.mem_of_getElem? (i := 121) rfl)) (hw _ (List.mem_of_getElem? (i := 122) rfl)) (fun s' hZ => notFace_of_selects (args := #[]) (mv hZ (hw _ (List.mem_of_getElem? (i := 124) rfl)))) (hw _ (List.mem_of_getElem? (i := 124) rfl)) (hw _ (List.mem_of_getElem? (i := 123) rfl)) (by decide) (W := 0) (a := a_313) (argsL := [(.ref a_257)]) (rest := []) (Pays.of_met (rm_ck l Z a0 G1 G3 hX n0 h_325 O_327 a_313 a_257 a_306 k_307 [i_23, i_31, i_39] a_41 a_78 k_79 [i_7] F_331 F_332 F_335 F_336 hns (by simp) (by simp) []) (hw _ (List.mem_of_getElem? (i := 125) rfl)) (hw _ (List.mem_of_getElem? (i := 39) rfl)) (by decide) (by decide)) F_331 rfl (by rw [hml]; rfl) (lenOf pd__28_Ljava_2f_lang_2f_String_3b__29_Ljava_2f_lang_2f_String_3b_ rfl) rfl (by show 2 * 0 + _ ≤ _; exact Nat.le_of_eq rfl) (hb hby at_265) (by decide) (by decide) ?_
          intro v_337 h_338 bk_339 O_340 z_341 Q_342
          obtain ⟨rfl, rfl, K_343⟩ := Q_342
          show Run p l e _ s m _ below meth c Z EL1 _ n0 NoB h_338 13 121 (mkF m 268 #[.val (.int p0), .val (.int p1), .val (.int k0), .val (.int k1), .val (.int k2), .val (.int md), .val (.int sm), .val (.int (1 : Int32)), .val (.int (3 : Int32)), .val (.int i_7), .val (.int i_15), .val (.int i_23), .val (.int i_31), .val (.int i_39), .val (.ref a_41), .val (.ref a_257), .val (.int (0 : Int32)), .val (.ref a_313), .unset] [(.ref a_257)]) _
          refine k_pure (g' := (mkF m 270 #[.val (.int p0), .val (.int p1), .val (.int k0), .val (.int k1), .val (.int k2), .val (.int md), .val (.int sm), .val (.int (1 : Int32)), .val (.int (3 : Int32)), .val (.int i_7), .val (.int i_15), .val (.int i_23), .val (.int i_31), .val (.int i_39), .val (.ref a_41), .val (.ref a_257), .val (.int (0 : Int32)), .val (.ref a_313), .val (.ref a_257)] [])) (fun TT HH tt kk => XS.astore HH hx rfl (hb hby at_268) rfl rfl (l' := #[.val (.int p0), .val (.int p1), .val (.int k0), .val (.int k1), .val (.int k2), .val (.int md), .val (.int sm), .val (.int (1 : Int32)), .val (.int (3 : Int32)), .val (.int i_7), .val (.int i_15), .val (.int i_23), .val (.int i_31), .val (.int i_39), .val (.ref a_41), .val (.ref a_257), .val (.int (0 : Int32)), .val (.ref a_313), .val (.ref a_257)]) rfl kk) ?_
          refine k_pure (g' := (mkF m 272 #[.val (.int p0), .val (.int p1), .val (.int k0), .val (.int k1), .val (.int k2), .val (.int md), .val (.int sm), .val (.int (1 : Int32)), .val (.int (3 : Int32)), .val (.int i_7), .val (.int i_15), .val (.int i_23), .val (.int i_31), .val (.int i_39), .val (.ref a_41), .val (.ref a_257), .val (.int (0 : Int32)), .val (.ref a_313), .val (.ref a_257)] [(.ref a_257)])) (fun TT HH tt kk => XS.aload HH hx rfl (hb hby at_270) rfl rfl kk) ?_
          refine k_pure (g' := (mkF m 275 #[.val (.int p0), .val (.int p1), .val (.int k0), .val (.int k1), .val (.int k2), .val (.int md), .val (.int sm), .val (.int (1 : Int32)), .val (.int (3 : Int32)), .val (.int i_7), .val (.int i_15), .val (.int i_23), .val (.int i_31), .val (.int i_39), .val (.ref a_41), .val (.ref a_257), .val (.int (0 : Int32)), .val (.ref a_313), .val (.ref a_257)] [])) (fun TT HH tt kk => XS.ifnullNo HH hx rfl (hb hby at_272) rfl kk) ?_
          refine k_pure (g' := (mkF m 277 #[.val (.int p0), .val (.int p1), .val (.int k0), .val (.int k1), .val (.int k2), .val (.int md), .val (.int sm), .val (.int (1 : Int32)), .val (.int (3 : Int32)), .val (.int i_7), .val (.int i_15), .val (.int i_23), .val (.int i_31), .val (.int i_39), .val (.ref a_41), .val (.ref a_257), .val (.int (0 : Int32)), .val (.ref a_313), .val (.ref a_257)] [(.ref a_257)])) (fun TT HH tt kk => XS.aload HH hx rfl (hb hby at_275) rfl rfl kk) ?_
          refine k_pure (g' := (mkF m 279 #[.val (.int p0), .val (.int p1), .val (.int k0), .val (.int k1), .val (.int k2), .val (.int md), .val (.int sm), .val (.int (1 : Int32)), .val (.int (3 : Int32)), .val (.int i_7), .val (.int i_15), .val (.int i_23), .val (.int i_31), .val (.int i_39), .val (.ref a_41), .val (.ref a_257), .val (.int (0 : Int32)), .val (.ref a_313), .val (.ref a_257)] [(.ref a_257), (.ref a_257)])) (fun TT HH tt kk => XS.aload HH hx rfl (hb hby at_277) rfl rfl kk) ?_
          have F_344 : Exa Z h_338 a_257 "java/lang/String" := (((S_310.1.ext E_316).keep K_330).keep K_343)
          refine k_callV hx (y := (⟨"java/lang/String", "equals", "(Ljava/lang/Object;)Z"⟩ : MethodName)) (z := (⟨"java/lang/String", "equals", "(Ljava/lang/Object;)Z"⟩ : MethodName)) (hw _ (List.mem_of_getElem? (i := 137) rfl)) (hw _ (List.mem_of_getElem? (i := 138) rfl)) (fun s' hZ => notFace_of_selects (args := #[]) (mv hZ (hw _ (List.mem_of_getElem? (i := 140) rfl)))) (hw _ (List.mem_of_getElem? (i := 140) rfl)) (hw _ (List.mem_of_getElem? (i := 139) rfl)) (by decide) (W := 0) (a := a_257) (argsL := [(.ref a_257)]) (rest := []) (Pays.of_met (rm_eqs l Z a0 G1 G3 hX n0 h_338 O_340 a_257  []) (hw _ (List.mem_of_getElem? (i := 141) rfl)) (hw _ (List.mem_of_getElem? (i := 9) rfl)) (by decide) (by decide)) F_344 rfl (by rw [hml]; rfl) (lenOf pd__28_Ljava_2f_lang_2f_Object_3b__29_Z rfl) rfl (by show 2 * 0 + _ ≤ _; exact Nat.le_of_eq rfl) (hb hby at_279) (by decide) (by decide) ?_
          intro v_345 h_346 bk_347 O_348 z_349 Q_350
          obtain ⟨rfl, rfl, rfl⟩ := Q_350
          show Run p l e _ s m _ below meth c Z EL1 _ n0 NoB h_338 13 121 (mkF m 282 #[.val (.int p0), .val (.int p1), .val (.int k0), .val (.int k1), .val (.int k2), .val (.int md), .val (.int sm), .val (.int (1 : Int32)), .val (.int (3 : Int32)), .val (.int i_7), .val (.int i_15), .val (.int i_23), .val (.int i_31), .val (.int i_39), .val (.ref a_41), .val (.ref a_257), .val (.int (0 : Int32)), .val (.ref a_313), .val (.ref a_257)] [(.int (1 : Int32))]) _
          refine k_pure (g' := (mkF m 285 #[.val (.int p0), .val (.int p1), .val (.int k0), .val (.int k1), .val (.int k2), .val (.int md), .val (.int sm), .val (.int (1 : Int32)), .val (.int (3 : Int32)), .val (.int i_7), .val (.int i_15), .val (.int i_23), .val (.int i_31), .val (.int i_39), .val (.ref a_41), .val (.ref a_257), .val (.int (0 : Int32)), .val (.ref a_313), .val (.ref a_257)] [])) (fun TT HH tt kk => XS.ifNo HH hx rfl (hb hby at_282) rfl ((if0 _ _).trans (feq (by decide : ¬ ((1 : Int32) = (0 : Int32)))).1) kk) ?_
          refine k_pure (g' := (mkF m 286 #[.val (.int p0), .val (.int p1), .val (.int k0), .val (.int k1), .val (.int k2), .val (.int md), .val (.int sm), .val (.int (1 : Int32)), .val (.int (3 : Int32)), .val (.int i_7), .val (.int i_15), .val (.int i_23), .val (.int i_31), .val (.int i_39), .val (.ref a_41), .val (.ref a_257), .val (.int (0 : Int32)), .val (.ref a_313), .val (.ref a_257)] [(.int (1 : Int32))])) (fun TT HH tt kk => XS.iconst HH hx rfl (hb hby at_285) kk) ?_
          refine k_pure (g' := (mkF m 290 #[.val (.int p0), .val (.int p1), .val (.int k0), .val (.int k1), .val (.int k2), .val (.int md), .val (.int sm), .val (.int (1 : Int32)), .val (.int (3 : Int32)), .val (.int i_7), .val (.int i_15), .val (.int i_23), .val (.int i_31), .val (.int i_39), .val (.ref a_41), .val (.ref a_257), .val (.int (0 : Int32)), .val (.ref a_313), .val (.ref a_257)] [(.int (1 : Int32))])) (fun TT HH tt kk => XS.goto HH hx rfl (pc0 := 286) (pc' := 290) rfl (hb hby at_286) (by decide) (by decide) kk) ?_
          exact k_retN hx hlk hret (by simp) (hb hby at_290) (by decide) (by decide) ⟨rfl, rfl, ((((((((((((((Keep.refl _ _).ext E_44).ext E_56).wr W_64 (Or.inr (by omega))).trans K_77 (kkS (Or.inr (by omega)) kk0)).ext E_260).ext E_272).wr W_280 (Or.inr (by omega))).wr W_286 (Or.inr (by omega))).wr W_292 (Or.inr (by omega))).trans K_305 (kkS (Or.inr (by omega)) kk0)).ext E_316).trans K_330 (kkS (Or.inr (by omega)) kk0)).trans K_343 kk0)⟩
        refine k_pure (g' := (mkF m 211 #[.val (.int p0), .val (.int p1), .val (.int k0), .val (.int k1), .val (.int k2), .val (.int md), .val (.int sm), .val (.int (1 : Int32)), .val (.int (3 : Int32)), .val (.int i_7), .val (.int i_15), .val (.int i_23), .val (.int i_31), .val (.int i_39), .val (.ref a_41), .val (.ref a_257), .unset, .unset, .unset] [(.int (3 : Int32))])) (fun TT HH tt kk => XS.iload HH hx rfl (hb hby at_209) rfl kk) ?_
        refine k_pure (g' := (mkF m 213 #[.val (.int p0), .val (.int p1), .val (.int k0), .val (.int k1), .val (.int k2), .val (.int md), .val (.int sm), .val (.int (1 : Int32)), .val (.int (3 : Int32)), .val (.int i_7), .val (.int i_15), .val (.int i_23), .val (.int i_31), .val (.int i_39), .val (.ref a_41), .val (.ref a_257), .unset, .unset, .unset] [(.int (1 : Int32)), (.int (3 : Int32))])) (fun TT HH tt kk => XS.iload HH hx rfl (hb hby at_211) rfl kk) ?_
        refine k_pure (g' := (mkF m 216 #[.val (.int p0), .val (.int p1), .val (.int k0), .val (.int k1), .val (.int k2), .val (.int md), .val (.int sm), .val (.int (1 : Int32)), .val (.int (3 : Int32)), .val (.int i_7), .val (.int i_15), .val (.int i_23), .val (.int i_31), .val (.int i_39), .val (.ref a_41), .val (.ref a_257), .unset, .unset, .unset] [])) (fun TT HH tt kk => XS.icmpNo HH hx rfl (hb hby at_213) rfl (flt (by decide : ¬ ((3 : Int32) < (1 : Int32)))).1 kk) ?_
        refine k_pure (g' := (mkF m 218 #[.val (.int p0), .val (.int p1), .val (.int k0), .val (.int k1), .val (.int k2), .val (.int md), .val (.int sm), .val (.int (1 : Int32)), .val (.int (3 : Int32)), .val (.int i_7), .val (.int i_15), .val (.int i_23), .val (.int i_31), .val (.int i_39), .val (.ref a_41), .val (.ref a_257), .unset, .unset, .unset] [(.int i_23)])) (fun TT HH tt kk => XS.iload HH hx rfl (hb hby at_216) rfl kk) ?_
        refine k_pure (g' := (mkF m 220 #[.val (.int p0), .val (.int p1), .val (.int k0), .val (.int k1), .val (.int k2), .val (.int md), .val (.int sm), .val (.int (1 : Int32)), .val (.int (3 : Int32)), .val (.int i_7), .val (.int i_15), .val (.int i_23), .val (.int i_31), .val (.int i_39), .val (.ref a_41), .val (.ref a_257), .unset, .unset, .unset] [(.int i_7), (.int i_23)])) (fun TT HH tt kk => XS.iload HH hx rfl (hb hby at_218) rfl kk) ?_
        by_cases c_351 : i_23 = i_7
        · refine k_pure (g' := (mkF m 223 #[.val (.int p0), .val (.int p1), .val (.int k0), .val (.int k1), .val (.int k2), .val (.int md), .val (.int sm), .val (.int (1 : Int32)), .val (.int (3 : Int32)), .val (.int i_7), .val (.int i_15), .val (.int i_23), .val (.int i_31), .val (.int i_39), .val (.ref a_41), .val (.ref a_257), .unset, .unset, .unset] [])) (fun TT HH tt kk => XS.icmpNo HH hx rfl (hb hby at_220) rfl (teq c_351).2 kk) ?_
          refine k_pure (g' := (mkF m 225 #[.val (.int p0), .val (.int p1), .val (.int k0), .val (.int k1), .val (.int k2), .val (.int md), .val (.int sm), .val (.int (1 : Int32)), .val (.int (3 : Int32)), .val (.int i_7), .val (.int i_15), .val (.int i_23), .val (.int i_31), .val (.int i_39), .val (.ref a_41), .val (.ref a_257), .unset, .unset, .unset] [(.int (1 : Int32))])) (fun TT HH tt kk => XS.iload HH hx rfl (hb hby at_223) rfl kk) ?_
          refine k_pure (g' := (mkF m 226 #[.val (.int p0), .val (.int p1), .val (.int k0), .val (.int k1), .val (.int k2), .val (.int md), .val (.int sm), .val (.int (1 : Int32)), .val (.int (3 : Int32)), .val (.int i_7), .val (.int i_15), .val (.int i_23), .val (.int i_31), .val (.int i_39), .val (.ref a_41), .val (.ref a_257), .unset, .unset, .unset] [(.int (1 : Int32)), (.int (1 : Int32))])) (fun TT HH tt kk => XS.iconst HH hx rfl (hb hby at_225) kk) ?_
          refine k_pure (g' := (mkF m 236 #[.val (.int p0), .val (.int p1), .val (.int k0), .val (.int k1), .val (.int k2), .val (.int md), .val (.int sm), .val (.int (1 : Int32)), .val (.int (3 : Int32)), .val (.int i_7), .val (.int i_15), .val (.int i_23), .val (.int i_31), .val (.int i_39), .val (.ref a_41), .val (.ref a_257), .unset, .unset, .unset] [])) (fun TT HH tt kk => XS.icmpYes HH hx rfl (pc0 := 226) (pc' := 236) rfl (hb hby at_226) rfl (teq (by decide : ((1 : Int32) = (1 : Int32)))).1 (by decide) (by decide) kk) ?_
          refine k_pure (g' := (mkF m 237 #[.val (.int p0), .val (.int p1), .val (.int k0), .val (.int k1), .val (.int k2), .val (.int md), .val (.int sm), .val (.int (1 : Int32)), .val (.int (3 : Int32)), .val (.int i_7), .val (.int i_15), .val (.int i_23), .val (.int i_31), .val (.int i_39), .val (.ref a_41), .val (.ref a_257), .unset, .unset, .unset] [(.int (1 : Int32))])) (fun TT HH tt kk => XS.iconst HH hx rfl (hb hby at_236) kk) ?_
          refine k_pure (g' := (mkF m 241 #[.val (.int p0), .val (.int p1), .val (.int k0), .val (.int k1), .val (.int k2), .val (.int md), .val (.int sm), .val (.int (1 : Int32)), .val (.int (3 : Int32)), .val (.int i_7), .val (.int i_15), .val (.int i_23), .val (.int i_31), .val (.int i_39), .val (.ref a_41), .val (.ref a_257), .unset, .unset, .unset] [(.int (1 : Int32))])) (fun TT HH tt kk => XS.goto HH hx rfl (pc0 := 237) (pc' := 241) rfl (hb hby at_237) (by decide) (by decide) kk) ?_
          refine k_pure (g' := (mkF m 243 #[.val (.int p0), .val (.int p1), .val (.int k0), .val (.int k1), .val (.int k2), .val (.int md), .val (.int sm), .val (.int (1 : Int32)), .val (.int (3 : Int32)), .val (.int i_7), .val (.int i_15), .val (.int i_23), .val (.int i_31), .val (.int i_39), .val (.ref a_41), .val (.ref a_257), .val (.int (1 : Int32)), .unset, .unset] [])) (fun TT HH tt kk => XS.istore HH hx rfl (hb hby at_241) rfl (l' := #[.val (.int p0), .val (.int p1), .val (.int k0), .val (.int k1), .val (.int k2), .val (.int md), .val (.int sm), .val (.int (1 : Int32)), .val (.int (3 : Int32)), .val (.int i_7), .val (.int i_15), .val (.int i_23), .val (.int i_31), .val (.int i_39), .val (.ref a_41), .val (.ref a_257), .val (.int (1 : Int32)), .unset, .unset]) rfl kk) ?_
          refine k_pure (g' := (mkF m 245 #[.val (.int p0), .val (.int p1), .val (.int k0), .val (.int k1), .val (.int k2), .val (.int md), .val (.int sm), .val (.int (1 : Int32)), .val (.int (3 : Int32)), .val (.int i_7), .val (.int i_15), .val (.int i_23), .val (.int i_31), .val (.int i_39), .val (.ref a_41), .val (.ref a_257), .val (.int (1 : Int32)), .unset, .unset] [(.int (1 : Int32))])) (fun TT HH tt kk => XS.iload HH hx rfl (hb hby at_243) rfl kk) ?_
          refine k_pure (g' := (mkF m 248 #[.val (.int p0), .val (.int p1), .val (.int k0), .val (.int k1), .val (.int k2), .val (.int md), .val (.int sm), .val (.int (1 : Int32)), .val (.int (3 : Int32)), .val (.int i_7), .val (.int i_15), .val (.int i_23), .val (.int i_31), .val (.int i_39), .val (.ref a_41), .val (.ref a_257), .val (.int (1 : Int32)), .unset, .unset] [])) (fun TT HH tt kk => XS.ifNo HH hx rfl (hb hby at_245) rfl ((if0 _ _).trans (feq (by decide : ¬ ((1 : Int32) = (0 : Int32)))).1) kk) ?_
          refine k_pure (g' := (mkF m 249 #[.val (.int p0), .val (.int p1), .val (.int k0), .val (.int k1), .val (.int k2), .val (.int md), .val (.int sm), .val (.int (1 : Int32)), .val (.int (3 : Int32)), .val (.int i_7), .val (.int i_15), .val (.int i_23), .val (.int i_31), .val (.int i_39), .val (.ref a_41), .val (.ref a_257), .val (.int (1 : Int32)), .unset, .unset] [(.int (1 : Int32))])) (fun TT HH tt kk => XS.iconst HH hx rfl (hb hby at_248) kk) ?_
          exact k_retN hx hlk hret (by simp) (hb hby at_249) (by decide) (by decide) ⟨rfl, rfl, (((((((((((Keep.refl _ _).ext E_44).ext E_56).wr W_64 (Or.inr (by omega))).trans K_77 (kkS (Or.inr (by omega)) kk0)).ext E_260).ext E_272).wr W_280 (Or.inr (by omega))).wr W_286 (Or.inr (by omega))).wr W_292 (Or.inr (by omega))).trans K_305 (kkS (Or.inr (by omega)) kk0))⟩
        · refine k_pure (g' := (mkF m 240 #[.val (.int p0), .val (.int p1), .val (.int k0), .val (.int k1), .val (.int k2), .val (.int md), .val (.int sm), .val (.int (1 : Int32)), .val (.int (3 : Int32)), .val (.int i_7), .val (.int i_15), .val (.int i_23), .val (.int i_31), .val (.int i_39), .val (.ref a_41), .val (.ref a_257), .unset, .unset, .unset] [])) (fun TT HH tt kk => XS.icmpYes HH hx rfl (pc0 := 220) (pc' := 240) rfl (hb hby at_220) rfl (feq c_351).2 (by decide) (by decide) kk) ?_
          exact J240 (fun q => c_351 (by simp at q; exact q))
    · show Run p l e _ s m _ below meth c Z EL1 _ n0 NoB h0 0 0 (mkF m 77 #[.val (.int p0), .val (.int p1), .val (.int k0), .val (.int k1), .val (.int k2), .val (.int md), .val (.int sm), .val (.int (2 : Int32)), .val (.int n2), .val (.int i_7), .val (.int i_15), .val (.int i_23), .val (.int i_31), .val (.int i_39), .unset, .unset, .unset, .unset, .unset] []) _
      refine k_pure (g' := (mkF m 79 #[.val (.int p0), .val (.int p1), .val (.int k0), .val (.int k1), .val (.int k2), .val (.int md), .val (.int sm), .val (.int (2 : Int32)), .val (.int n2), .val (.int i_7), .val (.int i_15), .val (.int i_23), .val (.int i_31), .val (.int i_39), .unset, .unset, .unset, .unset, .unset] [(.int (2 : Int32))])) (fun TT HH tt kk => XS.iload HH hx rfl (hb hby at_77) rfl kk) ?_
      refine k_pure (g' := (mkF m 80 #[.val (.int p0), .val (.int p1), .val (.int k0), .val (.int k1), .val (.int k2), .val (.int md), .val (.int sm), .val (.int (2 : Int32)), .val (.int n2), .val (.int i_7), .val (.int i_15), .val (.int i_23), .val (.int i_31), .val (.int i_39), .unset, .unset, .unset, .unset, .unset] [(.int (1 : Int32)), (.int (2 : Int32))])) (fun TT HH tt kk => XS.iconst HH hx rfl (hb hby at_79) kk) ?_
      refine k_pure (g' := (mkF m 103 #[.val (.int p0), .val (.int p1), .val (.int k0), .val (.int k1), .val (.int k2), .val (.int md), .val (.int sm), .val (.int (2 : Int32)), .val (.int n2), .val (.int i_7), .val (.int i_15), .val (.int i_23), .val (.int i_31), .val (.int i_39), .unset, .unset, .unset, .unset, .unset] [])) (fun TT HH tt kk => XS.icmpYes HH hx rfl (pc0 := 80) (pc' := 103) rfl (hb hby at_80) rfl (feq (by decide : ¬ ((2 : Int32) = (1 : Int32)))).2 (by decide) (by decide) kk) ?_
      refine k_newO hx (hw _ (List.mem_of_getElem? (i := 7) rfl)) (hw _ (List.mem_of_getElem? (i := 8) rfl)) (hw _ (List.mem_of_getElem? (i := 9) rfl)) rfl (hb hby at_103) (by decide) (by decide) ?_
      intro h_353 a_352 g_359 O_354 E_355 A_356 D_357 U_358
      have z_360 := E_355.1
      have lt_361 : @LT.lt Nat _ a_352 (Array.size h_353) := A_356.lt
      show Run p l e _ s m _ below meth c Z EL1 _ n0 NoB h_353 1 4 (mkF m 106 #[.val (.int p0), .val (.int p1), .val (.int k0), .val (.int k1), .val (.int k2), .val (.int md), .val (.int sm), .val (.int (2 : Int32)), .val (.int n2), .val (.int i_7), .val (.int i_15), .val (.int i_23), .val (.int i_31), .val (.int i_39), .unset, .unset, .unset, .unset, .unset] [(.ref a_352)]) _
      refine k_pure (g' := (mkF m 107 #[.val (.int p0), .val (.int p1), .val (.int k0), .val (.int k1), .val (.int k2), .val (.int md), .val (.int sm), .val (.int (2 : Int32)), .val (.int n2), .val (.int i_7), .val (.int i_15), .val (.int i_23), .val (.int i_31), .val (.int i_39), .unset, .unset, .unset, .unset, .unset] [(.ref a_352), (.ref a_352)])) (fun TT HH tt kk => XS.dup HH hx rfl (hb hby at_106) rfl rfl kk) ?_
      refine k_pure (g' := (mkF m 108 #[.val (.int p0), .val (.int p1), .val (.int k0), .val (.int k1), .val (.int k2), .val (.int md), .val (.int sm), .val (.int (2 : Int32)), .val (.int n2), .val (.int i_7), .val (.int i_15), .val (.int i_23), .val (.int i_31), .val (.int i_39), .unset, .unset, .unset, .unset, .unset] [(.int (2 : Int32)), (.ref a_352), (.ref a_352)])) (fun TT HH tt kk => XS.iconst HH hx rfl (hb hby at_107) kk) ?_
      refine k_newP hx (hw _ (List.mem_of_getElem? (i := 10) rfl)) rfl (hb hby at_108) rfl (by decide) (cap := 2) (by decide) (by decide) (by decide) (by decide) "[C" (by decide +kernel) ?_
      intro h_363 a_362 k_364 g_365 O_366 E_367 A_368 X_369
      have z_370 := E_367.1
      have lt_371 : @LT.lt Nat _ a_362 (Array.size h_363) := A_368.lt
      have V_372 : Arv Z h_363 a_362 k_364 .char (2 : Int32) [(.int (0 : Int32)), (.int (0 : Int32))] (.int (0 : Int32)) := Arv.pad A_368 (pad_rep [] (.int (0 : Int32)) 2)
      show Run p l e _ s m _ below meth c Z EL1 _ n0 NoB h_363 2 6 (mkF m 110 #[.val (.int p0), .val (.int p1), .val (.int k0), .val (.int k1), .val (.int k2), .val (.int md), .val (.int sm), .val (.int (2 : Int32)), .val (.int n2), .val (.int i_7), .val (.int i_15), .val (.int i_23), .val (.int i_31), .val (.int i_39), .unset, .unset, .unset, .unset, .unset] [(.ref a_362), (.ref a_352), (.ref a_352)]) _
      refine k_pure (g' := (mkF m 111 #[.val (.int p0), .val (.int p1), .val (.int k0), .val (.int k1), .val (.int k2), .val (.int md), .val (.int sm), .val (.int (2 : Int32)), .val (.int n2), .val (.int i_7), .val (.int i_15), .val (.int i_23), .val (.int i_31), .val (.int i_39), .unset, .unset, .unset, .unset, .unset] [(.ref a_362), (.ref a_362), (.ref a_352), (.ref a_352)])) (fun TT HH tt kk => XS.dup HH hx rfl (hb hby at_110) rfl rfl kk) ?_
      refine k_pure (g' := (mkF m 112 #[.val (.int p0), .val (.int p1), .val (.int k0), .val (.int k1), .val (.int k2), .val (.int md), .val (.int sm), .val (.int (2 : Int32)), .val (.int n2), .val (.int i_7), .val (.int i_15), .val (.int i_23), .val (.int i_31), .val (.int i_39), .unset, .unset, .unset, .unset, .unset] [(.int (0 : Int32)), (.ref a_362), (.ref a_362), (.ref a_352), (.ref a_352)])) (fun TT HH tt kk => XS.iconst HH hx rfl (hb hby at_111) kk) ?_
      refine k_pure (g' := (mkF m 114 #[.val (.int p0), .val (.int p1), .val (.int k0), .val (.int k1), .val (.int k2), .val (.int md), .val (.int sm), .val (.int (2 : Int32)), .val (.int n2), .val (.int i_7), .val (.int i_15), .val (.int i_23), .val (.int i_31), .val (.int i_39), .unset, .unset, .unset, .unset, .unset] [(.int i_7), (.int (0 : Int32)), (.ref a_362), (.ref a_362), (.ref a_352), (.ref a_352)])) (fun TT HH tt kk => XS.iload HH hx rfl (hb hby at_112) rfl kk) ?_
      refine k_stC hx V_372 ⟨by decide, by decide⟩ 0 (by decide) (Nat.le_of_ble_eq_true rfl) (by omega) (fun q => q) rfl rfl (hb hby at_114) ?_
      intro h_373 O_374 W_375 A_376
      have z_377 := W_375.size
      have V_378 : Arv Z h_373 a_362 k_364 .char (2 : Int32) [(.int i_7), (.int (0 : Int32))] (.int (0 : Int32)) := by rw [Dc.nr (P_8.dc)] at A_376; exact A_376
      show Run p l e _ s m _ below meth c Z EL1 _ n0 NoB h_373 2 6 (mkF m 115 #[.val (.int p0), .val (.int p1), .val (.int k0), .val (.int k1), .val (.int k2), .val (.int md), .val (.int sm), .val (.int (2 : Int32)), .val (.int n2), .val (.int i_7), .val (.int i_15), .val (.int i_23), .val (.int i_31), .val (.int i_39), .unset, .unset, .unset, .unset, .unset] [(.ref a_362), (.ref a_352), (.ref a_352)]) _
      refine k_pure (g' := (mkF m 116 #[.val (.int p0), .val (.int p1), .val (.int k0), .val (.int k1), .val (.int k2), .val (.int md), .val (.int sm), .val (.int (2 : Int32)), .val (.int n2), .val (.int i_7), .val (.int i_15), .val (.int i_23), .val (.int i_31), .val (.int i_39), .unset, .unset, .unset, .unset, .unset] [(.ref a_362), (.ref a_362), (.ref a_352), (.ref a_352)])) (fun TT HH tt kk => XS.dup HH hx rfl (hb hby at_115) rfl rfl kk) ?_
      refine k_pure (g' := (mkF m 117 #[.val (.int p0), .val (.int p1), .val (.int k0), .val (.int k1), .val (.int k2), .val (.int md), .val (.int sm), .val (.int (2 : Int32)), .val (.int n2), .val (.int i_7), .val (.int i_15), .val (.int i_23), .val (.int i_31), .val (.int i_39), .unset, .unset, .unset, .unset, .unset] [(.int (1 : Int32)), (.ref a_362), (.ref a_362), (.ref a_352), (.ref a_352)])) (fun TT HH tt kk => XS.iconst HH hx rfl (hb hby at_116) kk) ?_
      refine k_pure (g' := (mkF m 119 #[.val (.int p0), .val (.int p1), .val (.int k0), .val (.int k1), .val (.int k2), .val (.int md), .val (.int sm), .val (.int (2 : Int32)), .val (.int n2), .val (.int i_7), .val (.int i_15), .val (.int i_23), .val (.int i_31), .val (.int i_39), .unset, .unset, .unset, .unset, .unset] [(.int i_15), (.int (1 : Int32)), (.ref a_362), (.ref a_362), (.ref a_352), (.ref a_352)])) (fun TT HH tt kk => XS.iload HH hx rfl (hb hby at_117) rfl kk) ?_
      refine k_stC hx V_378 ⟨by decide, by decide⟩ 1 (by decide) (Nat.le_of_ble_eq_true rfl) (by omega) (fun q => q) rfl rfl (hb hby at_119) ?_
      intro h_379 O_380 W_381 A_382
      have z_383 := W_381.size
      have V_384 : Arv Z h_379 a_362 k_364 .char (2 : Int32) [(.int i_7), (.int i_15)] (.int (0 : Int32)) := by rw [Dc.nr (P_16.dc)] at A_382; exact A_382
      show Run p l e _ s m _ below meth c Z EL1 _ n0 NoB h_379 2 6 (mkF m 120 #[.val (.int p0), .val (.int p1), .val (.int k0), .val (.int k1), .val (.int k2), .val (.int md), .val (.int sm), .val (.int (2 : Int32)), .val (.int n2), .val (.int i_7), .val (.int i_15), .val (.int i_23), .val (.int i_31), .val (.int i_39), .unset, .unset, .unset, .unset, .unset] [(.ref a_362), (.ref a_352), (.ref a_352)]) _
      have F_385 : Exa Z h_379 a_352 "java/lang/String" := (((A_356.ext E_367).wr W_375).wr W_381)
      have F_386 : Fld Z h_379 a_352 "java/lang/String" "value" "[B" .null := ((((D_357 (Or.inr (hw _ (List.mem_of_getElem? (i := 36) rfl))) (ty := (.array .byte)) (by decide)).ext E_367).other W_375 (Or.inl (ne_ad (by omega)))).other W_381 (Or.inl (ne_ad (by omega))))
      have F_387 : Fld Z h_379 a_352 "java/lang/String" "coder" "B" (.int (0 : Int32)) := ((((D_357 (Or.inr (hw _ (List.mem_of_getElem? (i := 34) rfl))) (ty := .byte) (by decide)).ext E_367).other W_375 (Or.inl (ne_ad (by omega)))).other W_381 (Or.inl (ne_ad (by omega))))
      refine k_callI hx (y := (⟨"java/lang/String", "<init>", "([C)V"⟩ : MethodName)) rfl (hw _ (List.mem_of_getElem? (i := 11) rfl)) (hw _ (List.mem_of_getElem? (i := 12) rfl)) (hw _ (List.mem_of_getElem? (i := 13) rfl)) (by decide) (W := 1) (a := a_352) (argsL := [(.ref a_362)]) (rest := [(.ref a_352)]) (pay_new (W := 1) hX O_380 (fun q => q) (cs := [i_7, i_15]) F_385 F_386 F_387 V_384 2 rfl rfl (by decide) (by decide) (gd2 (P_8.dc) (P_16.dc)) (by omega) (by decide) (by decide)) rfl (by rw [hml]; rfl) (lenOf pd__28__5b_C_29_V rfl) rfl (by show 2 * 0 + _ ≤ _; exact Nat.le_of_eq rfl) (hb hby at_120) (by decide) (by decide) ?_
      intro v_388 h_389 bk_390 O_391 z_392 Q_393
      obtain ⟨rfl, rfl, K_394, a_395, k_396, ge_397, ge_398, S_399⟩ := Q_393
      have lt_400 : @LT.lt Nat _ a_352 (Array.size h_389) := S_399.lt1
      have lt_401 : @LT.lt Nat _ a_395 (Array.size h_389) := S_399.lt2
      show Run p l e _ s m _ below meth c Z EL1 _ n0 NoB h_389 3 8 (mkF m 123 #[.val (.int p0), .val (.int p1), .val (.int k0), .val (.int k1), .val (.int k2), .val (.int md), .val (.int sm), .val (.int (2 : Int32)), .val (.int n2), .val (.int i_7), .val (.int i_15), .val (.int i_23), .val (.int i_31), .val (.int i_39), .unset, .unset, .unset, .unset, .unset] [(.ref a_352)]) _
      refine k_pure (g' := (mkF m 125 #[.val (.int p0), .val (.int p1), .val (.int k0), .val (.int k1), .val (.int k2), .val (.int md), .val (.int sm), .val (.int (2 : Int32)), .val (.int n2), .val (.int i_7), .val (.int i_15), .val (.int i_23), .val (.int i_31), .val (.int i_39), .val (.ref a_352), .unset, .unset, .unset, .unset] [])) (fun TT HH tt kk => XS.astore HH hx rfl (hb hby at_123) rfl rfl (l' := #[.val (.int p0), .val (.int p1), .val (.int k0), .val (.int k1), .val (.int k2), .val (.int md), .val (.int sm), .val (.int (2 : Int32)), .val (.int n2), .val (.int i_7), .val (.int i_15), .val (.int i_23), .val (.int i_31), .val (.int i_39), .val (.ref a_352), .unset, .unset, .unset, .unset]) rfl kk) ?_
      rcases g8 with rfl | rfl | rfl
      · show Run p l e _ s m _ below meth c Z EL1 _ n0 NoB h_389 3 8 (mkF m 125 #[.val (.int p0), .val (.int p1), .val (.int k0), .val (.int k1), .val (.int k2), .val (.int md), .val (.int sm), .val (.int (2 : Int32)), .val (.int (1 : Int32)), .val (.int i_7), .val (.int i_15), .val (.int i_23), .val (.int i_31), .val (.int i_39), .val (.ref a_352), .unset, .unset, .unset, .unset] []) _
        refine k_pure (g' := (mkF m 127 #[.val (.int p0), .val (.int p1), .val (.int k0), .val (.int k1), .val (.int k2), .val (.int md), .val (.int sm), .val (.int (2 : Int32)), .val (.int (1 : Int32)), .val (.int i_7), .val (.int i_15), .val (.int i_23), .val (.int i_31), .val (.int i_39), .val (.ref a_352), .unset, .unset, .unset, .unset] [(.int (1 : Int32))])) (fun TT HH tt kk => XS.iload HH hx rfl (hb hby at_125) rfl kk) ?_
        refine k_pure (g' := (mkF m 128 #[.val (.int p0), .val (.int p1), .val (.int k0), .val (.int k1), .val (.int k2), .val (.int md), .val (.int sm), .val (.int (2 : Int32)), .val (.int (1 : Int32)), .val (.int i_7), .val (.int i_15), .val (.int i_23), .val (.int i_31), .val (.int i_39), .val (.ref a_352), .unset, .unset, .unset, .unset] [(.int (1 : Int32)), (.int (1 : Int32))])) (fun TT HH tt kk => XS.iconst HH hx rfl (hb hby at_127) kk) ?_
        refine k_pure (g' := (mkF m 131 #[.val (.int p0), .val (.int p1), .val (.int k0), .val (.int k1), .val (.int k2), .val (.int md), .val (.int sm), .val (.int (2 : Int32)), .val (.int (1 : Int32)), .val (.int i_7), .val (.int i_15), .val (.int i_23), .val (.int i_31), .val (.int i_39), .val (.ref a_352), .unset, .unset, .unset, .unset] [])) (fun TT HH tt kk => XS.icmpNo HH hx rfl (hb hby at_128) rfl (teq (by decide : ((1 : Int32) = (1 : Int32)))).2 kk) ?_
        refine k_newO hx (hw _ (List.mem_of_getElem? (i := 7) rfl)) (hw _ (List.mem_of_getElem? (i := 8) rfl)) (hw _ (List.mem_of_getElem? (i := 9) rfl)) rfl (hb hby at_131) (by decide) (by decide) ?_
        intro h_403 a_402 g_409 O_404 E_405 A_406 D_407 U_408
        have z_410 := E_405.1
        have lt_411 : @LT.lt Nat _ a_402 (Array.size h_403) := A_406.lt
        show Run p l e _ s m _ below meth c Z EL1 _ n0 NoB h_403 4 12 (mkF m 134 #[.val (.int p0), .val (.int p1), .val (.int k0), .val (.int k1), .val (.int k2), .val (.int md), .val (.int sm), .val (.int (2 : Int32)), .val (.int (1 : Int32)), .val (.int i_7), .val (.int i_15), .val (.int i_23), .val (.int i_31), .val (.int i_39), .val (.ref a_352), .unset, .unset, .unset, .unset] [(.ref a_402)]) _
        refine k_pure (g' := (mkF m 135 #[.val (.int p0), .val (.int p1), .val (.int k0), .val (.int k1), .val (.int k2), .val (.int md), .val (.int sm), .val (.int (2 : Int32)), .val (.int (1 : Int32)), .val (.int i_7), .val (.int i_15), .val (.int i_23), .val (.int i_31), .val (.int i_39), .val (.ref a_352), .unset, .unset, .unset, .unset] [(.ref a_402), (.ref a_402)])) (fun TT HH tt kk => XS.dup HH hx rfl (hb hby at_134) rfl rfl kk) ?_
        refine k_pure (g' := (mkF m 136 #[.val (.int p0), .val (.int p1), .val (.int k0), .val (.int k1), .val (.int k2), .val (.int md), .val (.int sm), .val (.int (2 : Int32)), .val (.int (1 : Int32)), .val (.int i_7), .val (.int i_15), .val (.int i_23), .val (.int i_31), .val (.int i_39), .val (.ref a_352), .unset, .unset, .unset, .unset] [(.int (1 : Int32)), (.ref a_402), (.ref a_402)])) (fun TT HH tt kk => XS.iconst HH hx rfl (hb hby at_135) kk) ?_
        refine k_newP hx (hw _ (List.mem_of_getElem? (i := 10) rfl)) rfl (hb hby at_136) rfl (by decide) (cap := 1) (by decide) (by decide) (by decide) (by decide) "[C" (by decide +kernel) ?_
        intro h_413 a_412 k_414 g_415 O_416 E_417 A_418 X_419
        have z_420 := E_417.1
        have lt_421 : @LT.lt Nat _ a_412 (Array.size h_413) := A_418.lt
        have V_422 : Arv Z h_413 a_412 k_414 .char (1 : Int32) [(.int (0 : Int32))] (.int (0 : Int32)) := Arv.pad A_418 (pad_rep [] (.int (0 : Int32)) 1)
        show Run p l e _ s m _ below meth c Z EL1 _ n0 NoB h_413 5 13 (mkF m 138 #[.val (.int p0), .val (.int p1), .val (.int k0), .val (.int k1), .val (.int k2), .val (.int md), .val (.int sm), .val (.int (2 : Int32)), .val (.int (1 : Int32)), .val (.int i_7), .val (.int i_15), .val (.int i_23), .val (.int i_31), .val (.int i_39), .val (.ref a_352), .unset, .unset, .unset, .unset] [(.ref a_412), (.ref a_402), (.ref a_402)]) _
        refine k_pure (g' := (mkF m 139 #[.val (.int p0), .val (.int p1), .val (.int k0), .val (.int k1), .val (.int k2), .val (.int md), .val (.int sm), .val (.int (2 : Int32)), .val (.int (1 : Int32)), .val (.int i_7), .val (.int i_15), .val (.int i_23), .val (.int i_31), .val (.int i_39), .val (.ref a_352), .unset, .unset, .unset, .unset] [(.ref a_412), (.ref a_412), (.ref a_402), (.ref a_402)])) (fun TT HH tt kk => XS.dup HH hx rfl (hb hby at_138) rfl rfl kk) ?_
        refine k_pure (g' := (mkF m 140 #[.val (.int p0), .val (.int p1), .val (.int k0), .val (.int k1), .val (.int k2), .val (.int md), .val (.int sm), .val (.int (2 : Int32)), .val (.int (1 : Int32)), .val (.int i_7), .val (.int i_15), .val (.int i_23), .val (.int i_31), .val (.int i_39), .val (.ref a_352), .unset, .unset, .unset, .unset] [(.int (0 : Int32)), (.ref a_412), (.ref a_412), (.ref a_402), (.ref a_402)])) (fun TT HH tt kk => XS.iconst HH hx rfl (hb hby at_139) kk) ?_
        refine k_pure (g' := (mkF m 142 #[.val (.int p0), .val (.int p1), .val (.int k0), .val (.int k1), .val (.int k2), .val (.int md), .val (.int sm), .val (.int (2 : Int32)), .val (.int (1 : Int32)), .val (.int i_7), .val (.int i_15), .val (.int i_23), .val (.int i_31), .val (.int i_39), .val (.ref a_352), .unset, .unset, .unset, .unset] [(.int i_23), (.int (0 : Int32)), (.ref a_412), (.ref a_412), (.ref a_402), (.ref a_402)])) (fun TT HH tt kk => XS.iload HH hx rfl (hb hby at_140) rfl kk) ?_
        refine k_stC hx V_422 ⟨by decide, by decide⟩ 0 (by decide) (Nat.le_of_ble_eq_true rfl) (by omega) (fun q => q) rfl rfl (hb hby at_142) ?_
        intro h_423 O_424 W_425 A_426
        have z_427 := W_425.size
        have V_428 : Arv Z h_423 a_412 k_414 .char (1 : Int32) [(.int i_23)] (.int (0 : Int32)) := by rw [Dc.nr (P_24)] at A_426; exact A_426
        show Run p l e _ s m _ below meth c Z EL1 _ n0 NoB h_423 5 13 (mkF m 143 #[.val (.int p0), .val (.int p1), .val (.int k0), .val (.int k1), .val (.int k2), .val (.int md), .val (.int sm), .val (.int (2 : Int32)), .val (.int (1 : Int32)), .val (.int i_7), .val (.int i_15), .val (.int i_23), .val (.int i_31), .val (.int i_39), .val (.ref a_352), .unset, .unset, .unset, .unset] [(.ref a_412), (.ref a_402), (.ref a_402)]) _
        have F_429 : Exa Z h_423 a_402 "java/lang/String" := ((A_406.ext E_417).wr W_425)
        have F_430 : Fld Z h_423 a_402 "java/lang/String" "value" "[B" .null := (((D_407 (Or.inr (hw _ (List.mem_of_getElem? (i := 36) rfl))) (ty := (.array .byte)) (by decide)).ext E_417).other W_425 (Or.inl (ne_ad (by omega))))
        have F_431 : Fld Z h_423 a_402 "java/lang/String" "coder" "B" (.int (0 : Int32)) := (((D_407 (Or.inr (hw _ (List.mem_of_getElem? (i := 34) rfl))) (ty := .byte) (by decide)).ext E_417).other W_425 (Or.inl (ne_ad (by omega))))
        refine k_callI hx (y := (⟨"java/lang/String", "<init>", "([C)V"⟩ : MethodName)) rfl (hw _ (List.mem_of_getElem? (i := 11) rfl)) (hw _ (List.mem_of_getElem? (i := 12) rfl)) (hw _ (List.mem_of_getElem? (i := 13) rfl)) (by decide) (W := 1) (a := a_402) (argsL := [(.ref a_412)]) (rest := [(.ref a_402)]) (pay_new (W := 1) hX O_424 (fun q => q) (cs := [i_23]) F_429 F_430 F_431 V_428 1 rfl rfl (by decide) (by decide) (gd1 (P_24)) (by omega) (by decide) (by decide)) rfl (by rw [hml]; rfl) (lenOf pd__28__5b_C_29_V rfl) rfl (by show 2 * 0 + _ ≤ _; exact Nat.le_of_eq rfl) (hb hby at_143) (by decide) (by decide) ?_
        intro v_432 h_433 bk_434 O_435 z_436 Q_437
        obtain ⟨rfl, rfl, K_438, a_439, k_440, ge_441, ge_442, S_443⟩ := Q_437
        have lt_444 : @LT.lt Nat _ a_402 (Array.size h_433) := S_443.lt1
        have lt_445 : @LT.lt Nat _ a_439 (Array.size h_433) := S_443.lt2
        show Run p l e _ s m _ below meth c Z EL1 _ n0 NoB h_433 6 14 (mkF m 146 #[.val (.int p0), .val (.int p1), .val (.int k0), .val (.int k1), .val (.int k2), .val (.int md), .val (.int sm), .val (.int (2 : Int32)), .val (.int (1 : Int32)), .val (.int i_7), .val (.int i_15), .val (.int i_23), .val (.int i_31), .val (.int i_39), .val (.ref a_352), .unset, .unset, .unset, .unset] [(.ref a_402)]) _
        refine k_pure (g' := (mkF m 148 #[.val (.int p0), .val (.int p1), .val (.int k0), .val (.int k1), .val (.int k2), .val (.int md), .val (.int sm), .val (.int (2 : Int32)), .val (.int (1 : Int32)), .val (.int i_7), .val (.int i_15), .val (.int i_23), .val (.int i_31), .val (.int i_39), .val (.ref a_352), .val (.ref a_402), .unset, .unset, .unset] [])) (fun TT HH tt kk => XS.astore HH hx rfl (hb hby at_146) rfl rfl (l' := #[.val (.int p0), .val (.int p1), .val (.int k0), .val (.int k1), .val (.int k2), .val (.int md), .val (.int sm), .val (.int (2 : Int32)), .val (.int (1 : Int32)), .val (.int i_7), .val (.int i_15), .val (.int i_23), .val (.int i_31), .val (.int i_39), .val (.ref a_352), .val (.ref a_402), .unset, .unset, .unset]) rfl kk) ?_
        refine k_pure (g' := (mkF m 209 #[.val (.int p0), .val (.int p1), .val (.int k0), .val (.int k1), .val (.int k2), .val (.int md), .val (.int sm), .val (.int (2 : Int32)), .val (.int (1 : Int32)), .val (.int i_7), .val (.int i_15), .val (.int i_23), .val (.int i_31), .val (.int i_39), .val (.ref a_352), .val (.ref a_402), .unset, .unset, .unset] [])) (fun TT HH tt kk => XS.goto HH hx rfl (pc0 := 148) (pc' := 209) rfl (hb hby at_148) (by decide) (by decide) kk) ?_
        have J240 : ¬ [i_23].take [i_7, i_15].length = [i_7, i_15] → Run p l e room_1 s m #[(.int p0), (.int p1), (.int k0), (.int k1), (.int k2), (.int md)] below meth c Z EL1 "com/example/eirene/eirene/KeySpaceCallerKeyPinLaw" n0 NoB h_433 6 14 (mkF m 240 #[.val (.int p0), .val (.int p1), .val (.int k0), .val (.int k1), .val (.int k2), .val (.int md), .val (.int sm), .val (.int (2 : Int32)), .val (.int (1 : Int32)), .val (.int i_7), .val (.int i_15), .val (.int i_23), .val (.int i_31), .val (.int i_39), .val (.ref a_352), .val (.ref a_402), .unset, .unset, .unset] []) (Q_law Z p0 p1 k0 k1 k2 md h0 n0 NoB) := by
          intro hns
          refine k_pure (g' := (mkF m 241 #[.val (.int p0), .val (.int p1), .val (.int k0), .val (.int k1), .val (.int k2), .val (.int md), .val (.int sm), .val (.int (2 : Int32)), .val (.int (1 : Int32)), .val (.int i_7), .val (.int i_15), .val (.int i_23), .val (.int i_31), .val (.int i_39), .val (.ref a_352), .val (.ref a_402), .unset, .unset, .unset] [(.int (0 : Int32))])) (fun TT HH tt kk => XS.iconst HH hx rfl (hb hby at_240) kk) ?_
          refine k_pure (g' := (mkF m 243 #[.val (.int p0), .val (.int p1), .val (.int k0), .val (.int k1), .val (.int k2), .val (.int md), .val (.int sm), .val (.int (2 : Int32)), .val (.int (1 : Int32)), .val (.int i_7), .val (.int i_15), .val (.int i_23), .val (.int i_31), .val (.int i_39), .val (.ref a_352), .val (.ref a_402), .val (.int (0 : Int32)), .unset, .unset] [])) (fun TT HH tt kk => XS.istore HH hx rfl (hb hby at_241) rfl (l' := #[.val (.int p0), .val (.int p1), .val (.int k0), .val (.int k1), .val (.int k2), .val (.int md), .val (.int sm), .val (.int (2 : Int32)), .val (.int (1 : Int32)), .val (.int i_7), .val (.int i_15), .val (.int i_23), .val (.int i_31), .val (.int i_39), .val (.ref a_352), .val (.ref a_402), .val (.int (0 : Int32)), .unset, .unset]) rfl kk) ?_
          refine k_pure (g' := (mkF m 245 #[.val (.int p0), .val (.int p1), .val (.int k0), .val (.int k1), .val (.int k2), .val (.int md), .val (.int sm), .val (.int (2 : Int32)), .val (.int (1 : Int32)), .val (.int i_7), .val (.int i_15), .val (.int i_23), .val (.int i_31), .val (.int i_39), .val (.ref a_352), .val (.ref a_402), .val (.int (0 : Int32)), .unset, .unset] [(.int (0 : Int32))])) (fun TT HH tt kk => XS.iload HH hx rfl (hb hby at_243) rfl kk) ?_
          refine k_pure (g' := (mkF m 250 #[.val (.int p0), .val (.int p1), .val (.int k0), .val (.int k1), .val (.int k2), .val (.int md), .val (.int sm), .val (.int (2 : Int32)), .val (.int (1 : Int32)), .val (.int i_7), .val (.int i_15), .val (.int i_23), .val (.int i_31), .val (.int i_39), .val (.ref a_352), .val (.ref a_402), .val (.int (0 : Int32)), .unset, .unset] [])) (fun TT HH tt kk => XS.ifYes HH hx rfl (pc0 := 245) (pc' := 250) rfl (hb hby at_245) rfl ((if0 _ _).trans (teq (by decide : ((0 : Int32) = (0 : Int32)))).1) (by decide) (by decide) kk) ?_
          refine k_newO hx (hw _ (List.mem_of_getElem? (i := 37) rfl)) (hw _ (List.mem_of_getElem? (i := 38) rfl)) (hw _ (List.mem_of_getElem? (i := 39) rfl)) rfl (hb hby at_250) (by decide) (by decide) ?_
          intro h_447 a_446 g_453 O_448 E_449 A_450 D_451 U_452
          have z_454 := E_449.1
          have lt_455 : @LT.lt Nat _ a_446 (Array.size h_447) := A_450.lt
          show Run p l e _ s m _ below meth c Z EL1 _ n0 NoB h_447 7 15 (mkF m 253 #[.val (.int p0), .val (.int p1), .val (.int k0), .val (.int k1), .val (.int k2), .val (.int md), .val (.int sm), .val (.int (2 : Int32)), .val (.int (1 : Int32)), .val (.int i_7), .val (.int i_15), .val (.int i_23), .val (.int i_31), .val (.int i_39), .val (.ref a_352), .val (.ref a_402), .val (.int (0 : Int32)), .unset, .unset] [(.ref a_446)]) _
          refine k_pure (g' := (mkF m 254 #[.val (.int p0), .val (.int p1), .val (.int k0), .val (.int k1), .val (.int k2), .val (.int md), .val (.int sm), .val (.int (2 : Int32)), .val (.int (1 : Int32)), .val (.int i_7), .val (.int i_15), .val (.int i_23), .val (.int i_31), .val (.int i_39), .val (.ref a_352), .val (.ref a_402), .val (.int (0 : Int32)), .unset, .unset] [(.ref a_446), (.ref a_446)])) (fun TT HH tt kk => XS.dup HH hx rfl (hb hby at_253) rfl rfl kk) ?_
          refine k_pure (g' := (mkF m 256 #[.val (.int p0), .val (.int p1), .val (.int k0), .val (.int k1), .val (.int k2), .val (.int md), .val (.int sm), .val (.int (2 : Int32)), .val (.int (1 : Int32)), .val (.int i_7), .val (.int i_15), .val (.int i_23), .val (.int i_31), .val (.int i_39), .val (.ref a_352), .val (.ref a_402), .val (.int (0 : Int32)), .unset, .unset] [(.ref a_352), (.ref a_446), (.ref a_446)])) (fun TT HH tt kk => XS.aload HH hx rfl (hb hby at_254) rfl rfl kk) ?_
          have F_456 : StrL Z h_447 a_352 a_395 k_396 [i_7, i_15] := (((((S_399.ext E_405).ext E_417).other W_425 (ne_ad (by omega)) (ne_ad (by omega))).keep K_438 (ninS (ne_ad (by omega)) nin0) (ninS (ne_ad (by omega)) nin0)).ext E_449)
          refine k_callI hx (y := (⟨"com/example/eirene/eirene/KeySpace", "<init>", "(Ljava/lang/String;)V"⟩ : MethodName)) rfl (hw _ (List.mem_of_getElem? (i := 40) rfl)) (hw _ (List.mem_of_getElem? (i := 41) rfl)) (hw _ (List.mem_of_getElem? (i := 42) rfl)) (by decide) (W := 1) (a := a_446) (argsL := [(.ref a_352)]) (rest := [(.ref a_446)]) (Pays.of_met (rm_ini l Z a0 G1 G3 hX n0 h_447 O_448 a_446 a_352 a_395 k_396 [i_7, i_15] A_450 (D_451 (Or.inr (hw _ (List.mem_of_getElem? (i := 120) rfl))) (ty := (.object "java/lang/String")) (by decide)) F_456 (pc2 P_8 P_16) (by simp) (by omega) []) (hw _ (List.mem_of_getElem? (i := 42) rfl)) (hw _ (List.mem_of_getElem? (i := 39) rfl)) (by decide) (by decide)) rfl (by rw [hml]; rfl) (lenOf pd__28_Ljava_2f_lang_2f_String_3b__29_V rfl) rfl (by show 2 * 0 + _ ≤ _; exact Nat.le_of_eq rfl) (hb hby at_256) (by decide) (by decide) ?_
          intro v_457 h_458 bk_459 O_460 z_461 Q_462
          obtain ⟨rfl, rfl, K_463, F_464, F_465⟩ := Q_462
          have lt_466 : @LT.lt Nat _ a_446 (Array.size h_458) := F_464.lt
          have lt_467 : @LT.lt Nat _ a_446 (Array.size h_458) := F_465.lt
          show Run p l e _ s m _ below meth c Z EL1 _ n0 NoB h_458 11 103 (mkF m 259 #[.val (.int p0), .val (.int p1), .val (.int k0), .val (.int k1), .val (.int k2), .val (.int md), .val (.int sm), .val (.int (2 : Int32)), .val (.int (1 : Int32)), .val (.int i_7), .val (.int i_15), .val (.int i_23), .val (.int i_31), .val (.int i_39), .val (.ref a_352), .val (.ref a_402), .val (.int (0 : Int32)), .unset, .unset] [(.ref a_446)]) _
          refine k_pure (g' := (mkF m 261 #[.val (.int p0), .val (.int p1), .val (.int k0), .val (.int k1), .val (.int k2), .val (.int md), .val (.int sm), .val (.int (2 : Int32)), .val (.int (1 : Int32)), .val (.int i_7), .val (.int i_15), .val (.int i_23), .val (.int i_31), .val (.int i_39), .val (.ref a_352), .val (.ref a_402), .val (.int (0 : Int32)), .val (.ref a_446), .unset] [])) (fun TT HH tt kk => XS.astore HH hx rfl (hb hby at_259) rfl rfl (l' := #[.val (.int p0), .val (.int p1), .val (.int k0), .val (.int k1), .val (.int k2), .val (.int md), .val (.int sm), .val (.int (2 : Int32)), .val (.int (1 : Int32)), .val (.int i_7), .val (.int i_15), .val (.int i_23), .val (.int i_31), .val (.int i_39), .val (.ref a_352), .val (.ref a_402), .val (.int (0 : Int32)), .val (.ref a_446), .unset]) rfl kk) ?_
          refine k_pure (g' := (mkF m 263 #[.val (.int p0), .val (.int p1), .val (.int k0), .val (.int k1), .val (.int k2), .val (.int md), .val (.int sm), .val (.int (2 : Int32)), .val (.int (1 : Int32)), .val (.int i_7), .val (.int i_15), .val (.int i_23), .val (.int i_31), .val (.int i_39), .val (.ref a_352), .val (.ref a_402), .val (.int (0 : Int32)), .val (.ref a_446), .unset] [(.ref a_446)])) (fun TT HH tt kk => XS.aload HH hx rfl (hb hby at_261) rfl rfl kk) ?_
          refine k_pure (g' := (mkF m 265 #[.val (.int p0), .val (.int p1), .val (.int k0), .val (.int k1), .val (.int k2), .val (.int md), .val (.int sm), .val (.int (2 : Int32)), .val (.int (1 : Int32)), .val (.int i_7), .val (.int i_15), .val (.int i_23), .val (.int i_31), .val (.int i_39), .val (.ref a_352), .val (.ref a_402), .val (.int (0 : Int32)), .val (.ref a_446), .unset] [(.ref a_402), (.ref a_446)])) (fun TT HH tt kk => XS.aload HH hx rfl (hb hby at_263) rfl rfl kk) ?_
          have F_468 : StrL Z h_458 a_402 a_439 k_440 [i_23] := ((S_443.ext E_449).keep K_463 (ninS (ne_ad (by omega)) nin0) (ninS (ne_ad (by omega)) nin0))
          have F_469 : StrL Z h_458 a_352 a_395 k_396 [i_7, i_15] := (F_456.keep K_463 (ninS (ne_ad (by omega)) nin0) (ninS (ne_ad (by omega)) nin0))
          refine k_callV hx (y := (⟨"com/example/eirene/eirene/KeySpace", "callerKey", "(Ljava/lang/String;)Ljava/lang/String;"⟩ : MethodName)) (z := (⟨"com/example/eirene/eirene/KeySpace", "callerKey", "(Ljava/lang/String;)Ljava/lang/String;"⟩ : MethodName)) (hw _ (List.mem_of_getElem? (i := 121) rfl)) (hw _ (List.mem_of_getElem? (i := 122) rfl)) (fun s' hZ => notFace_of_selects (args := #[]) (mv hZ (hw _ (List.mem_of_getElem? (i := 124) rfl)))) (hw _ (List.mem_of_getElem? (i := 124) rfl)) (hw _ (List.mem_of_getElem? (i := 123) rfl)) (by decide) (W := 0) (a := a_446) (argsL := [(.ref a_402)]) (rest := []) (Pays.of_met (rm_ck l Z a0 G1 G3 hX n0 h_458 O_460 a_446 a_402 a_439 k_440 [i_23] a_352 a_395 k_396 [i_7, i_15] F_464 F_465 F_468 F_469 hns (by simp) (by simp) []) (hw _ (List.mem_of_getElem? (i := 125) rfl)) (hw _ (List.mem_of_getElem? (i := 39) rfl)) (by decide) (by decide)) F_464 rfl (by rw [hml]; rfl) (lenOf pd__28_Ljava_2f_lang_2f_String_3b__29_Ljava_2f_lang_2f_String_3b_ rfl) rfl (by show 2 * 0 + _ ≤ _; exact Nat.le_of_eq rfl) (hb hby at_265) (by decide) (by decide) ?_
          intro v_470 h_471 bk_472 O_473 z_474 Q_475
          obtain ⟨rfl, rfl, K_476⟩ := Q_475
          show Run p l e _ s m _ below meth c Z EL1 _ n0 NoB h_471 13 119 (mkF m 268 #[.val (.int p0), .val (.int p1), .val (.int k0), .val (.int k1), .val (.int k2), .val (.int md), .val (.int sm), .val (.int (2 : Int32)), .val (.int (1 : Int32)), .val (.int i_7), .val (.int i_15), .val (.int i_23), .val (.int i_31), .val (.int i_39), .val (.ref a_352), .val (.ref a_402), .val (.int (0 : Int32)), .val (.ref a_446), .unset] [(.ref a_402)]) _
          refine k_pure (g' := (mkF m 270 #[.val (.int p0), .val (.int p1), .val (.int k0), .val (.int k1), .val (.int k2), .val (.int md), .val (.int sm), .val (.int (2 : Int32)), .val (.int (1 : Int32)), .val (.int i_7), .val (.int i_15), .val (.int i_23), .val (.int i_31), .val (.int i_39), .val (.ref a_352), .val (.ref a_402), .val (.int (0 : Int32)), .val (.ref a_446), .val (.ref a_402)] [])) (fun TT HH tt kk => XS.astore HH hx rfl (hb hby at_268) rfl rfl (l' := #[.val (.int p0), .val (.int p1), .val (.int k0), .val (.int k1), .val (.int k2), .val (.int md), .val (.int sm), .val (.int (2 : Int32)), .val (.int (1 : Int32)), .val (.int i_7), .val (.int i_15), .val (.int i_23), .val (.int i_31), .val (.int i_39), .val (.ref a_352), .val (.ref a_402), .val (.int (0 : Int32)), .val (.ref a_446), .val (.ref a_402)]) rfl kk) ?_
          refine k_pure (g' := (mkF m 272 #[.val (.int p0), .val (.int p1), .val (.int k0), .val (.int k1), .val (.int k2), .val (.int md), .val (.int sm), .val (.int (2 : Int32)), .val (.int (1 : Int32)), .val (.int i_7), .val (.int i_15), .val (.int i_23), .val (.int i_31), .val (.int i_39), .val (.ref a_352), .val (.ref a_402), .val (.int (0 : Int32)), .val (.ref a_446), .val (.ref a_402)] [(.ref a_402)])) (fun TT HH tt kk => XS.aload HH hx rfl (hb hby at_270) rfl rfl kk) ?_
          refine k_pure (g' := (mkF m 275 #[.val (.int p0), .val (.int p1), .val (.int k0), .val (.int k1), .val (.int k2), .val (.int md), .val (.int sm), .val (.int (2 : Int32)), .val (.int (1 : Int32)), .val (.int i_7), .val (.int i_15), .val (.int i_23), .val (.int i_31), .val (.int i_39), .val (.ref a_352), .val (.ref a_402), .val (.int (0 : Int32)), .val (.ref a_446), .val (.ref a_402)] [])) (fun TT HH tt kk => XS.ifnullNo HH hx rfl (hb hby at_272) rfl kk) ?_
          refine k_pure (g' := (mkF m 277 #[.val (.int p0), .val (.int p1), .val (.int k0), .val (.int k1), .val (.int k2), .val (.int md), .val (.int sm), .val (.int (2 : Int32)), .val (.int (1 : Int32)), .val (.int i_7), .val (.int i_15), .val (.int i_23), .val (.int i_31), .val (.int i_39), .val (.ref a_352), .val (.ref a_402), .val (.int (0 : Int32)), .val (.ref a_446), .val (.ref a_402)] [(.ref a_402)])) (fun TT HH tt kk => XS.aload HH hx rfl (hb hby at_275) rfl rfl kk) ?_
          refine k_pure (g' := (mkF m 279 #[.val (.int p0), .val (.int p1), .val (.int k0), .val (.int k1), .val (.int k2), .val (.int md), .val (.int sm), .val (.int (2 : Int32)), .val (.int (1 : Int32)), .val (.int i_7), .val (.int i_15), .val (.int i_23), .val (.int i_31), .val (.int i_39), .val (.ref a_352), .val (.ref a_402), .val (.int (0 : Int32)), .val (.ref a_446), .val (.ref a_402)] [(.ref a_402), (.ref a_402)])) (fun TT HH tt kk => XS.aload HH hx rfl (hb hby at_277) rfl rfl kk) ?_
          have F_477 : Exa Z h_471 a_402 "java/lang/String" := (((S_443.1.ext E_449).keep K_463).keep K_476)
          refine k_callV hx (y := (⟨"java/lang/String", "equals", "(Ljava/lang/Object;)Z"⟩ : MethodName)) (z := (⟨"java/lang/String", "equals", "(Ljava/lang/Object;)Z"⟩ : MethodName)) (hw _ (List.mem_of_getElem? (i := 137) rfl)) (hw _ (List.mem_of_getElem? (i := 138) rfl)) (fun s' hZ => notFace_of_selects (args := #[]) (mv hZ (hw _ (List.mem_of_getElem? (i := 140) rfl)))) (hw _ (List.mem_of_getElem? (i := 140) rfl)) (hw _ (List.mem_of_getElem? (i := 139) rfl)) (by decide) (W := 0) (a := a_402) (argsL := [(.ref a_402)]) (rest := []) (Pays.of_met (rm_eqs l Z a0 G1 G3 hX n0 h_471 O_473 a_402  []) (hw _ (List.mem_of_getElem? (i := 141) rfl)) (hw _ (List.mem_of_getElem? (i := 9) rfl)) (by decide) (by decide)) F_477 rfl (by rw [hml]; rfl) (lenOf pd__28_Ljava_2f_lang_2f_Object_3b__29_Z rfl) rfl (by show 2 * 0 + _ ≤ _; exact Nat.le_of_eq rfl) (hb hby at_279) (by decide) (by decide) ?_
          intro v_478 h_479 bk_480 O_481 z_482 Q_483
          obtain ⟨rfl, rfl, rfl⟩ := Q_483
          show Run p l e _ s m _ below meth c Z EL1 _ n0 NoB h_471 13 119 (mkF m 282 #[.val (.int p0), .val (.int p1), .val (.int k0), .val (.int k1), .val (.int k2), .val (.int md), .val (.int sm), .val (.int (2 : Int32)), .val (.int (1 : Int32)), .val (.int i_7), .val (.int i_15), .val (.int i_23), .val (.int i_31), .val (.int i_39), .val (.ref a_352), .val (.ref a_402), .val (.int (0 : Int32)), .val (.ref a_446), .val (.ref a_402)] [(.int (1 : Int32))]) _
          refine k_pure (g' := (mkF m 285 #[.val (.int p0), .val (.int p1), .val (.int k0), .val (.int k1), .val (.int k2), .val (.int md), .val (.int sm), .val (.int (2 : Int32)), .val (.int (1 : Int32)), .val (.int i_7), .val (.int i_15), .val (.int i_23), .val (.int i_31), .val (.int i_39), .val (.ref a_352), .val (.ref a_402), .val (.int (0 : Int32)), .val (.ref a_446), .val (.ref a_402)] [])) (fun TT HH tt kk => XS.ifNo HH hx rfl (hb hby at_282) rfl ((if0 _ _).trans (feq (by decide : ¬ ((1 : Int32) = (0 : Int32)))).1) kk) ?_
          refine k_pure (g' := (mkF m 286 #[.val (.int p0), .val (.int p1), .val (.int k0), .val (.int k1), .val (.int k2), .val (.int md), .val (.int sm), .val (.int (2 : Int32)), .val (.int (1 : Int32)), .val (.int i_7), .val (.int i_15), .val (.int i_23), .val (.int i_31), .val (.int i_39), .val (.ref a_352), .val (.ref a_402), .val (.int (0 : Int32)), .val (.ref a_446), .val (.ref a_402)] [(.int (1 : Int32))])) (fun TT HH tt kk => XS.iconst HH hx rfl (hb hby at_285) kk) ?_
          refine k_pure (g' := (mkF m 290 #[.val (.int p0), .val (.int p1), .val (.int k0), .val (.int k1), .val (.int k2), .val (.int md), .val (.int sm), .val (.int (2 : Int32)), .val (.int (1 : Int32)), .val (.int i_7), .val (.int i_15), .val (.int i_23), .val (.int i_31), .val (.int i_39), .val (.ref a_352), .val (.ref a_402), .val (.int (0 : Int32)), .val (.ref a_446), .val (.ref a_402)] [(.int (1 : Int32))])) (fun TT HH tt kk => XS.goto HH hx rfl (pc0 := 286) (pc' := 290) rfl (hb hby at_286) (by decide) (by decide) kk) ?_
          exact k_retN hx hlk hret (by simp) (hb hby at_290) (by decide) (by decide) ⟨rfl, rfl, (((((((((((((Keep.refl _ _).ext E_355).ext E_367).wr W_375 (Or.inr (by omega))).wr W_381 (Or.inr (by omega))).trans K_394 (kkS (Or.inr (by omega)) kk0)).ext E_405).ext E_417).wr W_425 (Or.inr (by omega))).trans K_438 (kkS (Or.inr (by omega)) kk0)).ext E_449).trans K_463 (kkS (Or.inr (by omega)) kk0)).trans K_476 kk0)⟩
        refine k_pure (g' := (mkF m 211 #[.val (.int p0), .val (.int p1), .val (.int k0), .val (.int k1), .val (.int k2), .val (.int md), .val (.int sm), .val (.int (2 : Int32)), .val (.int (1 : Int32)), .val (.int i_7), .val (.int i_15), .val (.int i_23), .val (.int i_31), .val (.int i_39), .val (.ref a_352), .val (.ref a_402), .unset, .unset, .unset] [(.int (1 : Int32))])) (fun TT HH tt kk => XS.iload HH hx rfl (hb hby at_209) rfl kk) ?_
        refine k_pure (g' := (mkF m 213 #[.val (.int p0), .val (.int p1), .val (.int k0), .val (.int k1), .val (.int k2), .val (.int md), .val (.int sm), .val (.int (2 : Int32)), .val (.int (1 : Int32)), .val (.int i_7), .val (.int i_15), .val (.int i_23), .val (.int i_31), .val (.int i_39), .val (.ref a_352), .val (.ref a_402), .unset, .unset, .unset] [(.int (2 : Int32)), (.int (1 : Int32))])) (fun TT HH tt kk => XS.iload HH hx rfl (hb hby at_211) rfl kk) ?_
        refine k_pure (g' := (mkF m 240 #[.val (.int p0), .val (.int p1), .val (.int k0), .val (.int k1), .val (.int k2), .val (.int md), .val (.int sm), .val (.int (2 : Int32)), .val (.int (1 : Int32)), .val (.int i_7), .val (.int i_15), .val (.int i_23), .val (.int i_31), .val (.int i_39), .val (.ref a_352), .val (.ref a_402), .unset, .unset, .unset] [])) (fun TT HH tt kk => XS.icmpYes HH hx rfl (pc0 := 213) (pc' := 240) rfl (hb hby at_213) rfl (tlt (by decide : ((1 : Int32) < (2 : Int32)))).1 (by decide) (by decide) kk) ?_
        exact J240 (by simp)
      · show Run p l e _ s m _ below meth c Z EL1 _ n0 NoB h_389 3 8 (mkF m 125 #[.val (.int p0), .val (.int p1), .val (.int k0), .val (.int k1), .val (.int k2), .val (.int md), .val (.int sm), .val (.int (2 : Int32)), .val (.int (2 : Int32)), .val (.int i_7), .val (.int i_15), .val (.int i_23), .val (.int i_31), .val (.int i_39), .val (.ref a_352), .unset, .unset, .unset, .unset] []) _
        refine k_pure (g' := (mkF m 127 #[.val (.int p0), .val (.int p1), .val (.int k0), .val (.int k1), .val (.int k2), .val (.int md), .val (.int sm), .val (.int (2 : Int32)), .val (.int (2 : Int32)), .val (.int i_7), .val (.int i_15), .val (.int i_23), .val (.int i_31), .val (.int i_39), .val (.ref a_352), .unset, .unset, .unset, .unset] [(.int (2 : Int32))])) (fun TT HH tt kk => XS.iload HH hx rfl (hb hby at_125) rfl kk) ?_
        refine k_pure (g' := (mkF m 128 #[.val (.int p0), .val (.int p1), .val (.int k0), .val (.int k1), .val (.int k2), .val (.int md), .val (.int sm), .val (.int (2 : Int32)), .val (.int (2 : Int32)), .val (.int i_7), .val (.int i_15), .val (.int i_23), .val (.int i_31), .val (.int i_39), .val (.ref a_352), .unset, .unset, .unset, .unset] [(.int (1 : Int32)), (.int (2 : Int32))])) (fun TT HH tt kk => XS.iconst HH hx rfl (hb hby at_127) kk) ?_
        refine k_pure (g' := (mkF m 151 #[.val (.int p0), .val (.int p1), .val (.int k0), .val (.int k1), .val (.int k2), .val (.int md), .val (.int sm), .val (.int (2 : Int32)), .val (.int (2 : Int32)), .val (.int i_7), .val (.int i_15), .val (.int i_23), .val (.int i_31), .val (.int i_39), .val (.ref a_352), .unset, .unset, .unset, .unset] [])) (fun TT HH tt kk => XS.icmpYes HH hx rfl (pc0 := 128) (pc' := 151) rfl (hb hby at_128) rfl (feq (by decide : ¬ ((2 : Int32) = (1 : Int32)))).2 (by decide) (by decide) kk) ?_
        refine k_pure (g' := (mkF m 153 #[.val (.int p0), .val (.int p1), .val (.int k0), .val (.int k1), .val (.int k2), .val (.int md), .val (.int sm), .val (.int (2 : Int32)), .val (.int (2 : Int32)), .val (.int i_7), .val (.int i_15), .val (.int i_23), .val (.int i_31), .val (.int i_39), .val (.ref a_352), .unset, .unset, .unset, .unset] [(.int (2 : Int32))])) (fun TT HH tt kk => XS.iload HH hx rfl (hb hby at_151) rfl kk) ?_
        refine k_pure (g' := (mkF m 154 #[.val (.int p0), .val (.int p1), .val (.int k0), .val (.int k1), .val (.int k2), .val (.int md), .val (.int sm), .val (.int (2 : Int32)), .val (.int (2 : Int32)), .val (.int i_7), .val (.int i_15), .val (.int i_23), .val (.int i_31), .val (.int i_39), .val (.ref a_352), .unset, .unset, .unset, .unset] [(.int (2 : Int32)), (.int (2 : Int32))])) (fun TT HH tt kk => XS.iconst HH hx rfl (hb hby at_153) kk) ?_
        refine k_pure (g' := (mkF m 157 #[.val (.int p0), .val (.int p1), .val (.int k0), .val (.int k1), .val (.int k2), .val (.int md), .val (.int sm), .val (.int (2 : Int32)), .val (.int (2 : Int32)), .val (.int i_7), .val (.int i_15), .val (.int i_23), .val (.int i_31), .val (.int i_39), .val (.ref a_352), .unset, .unset, .unset, .unset] [])) (fun TT HH tt kk => XS.icmpNo HH hx rfl (hb hby at_154) rfl (teq (by decide : ((2 : Int32) = (2 : Int32)))).2 kk) ?_
        refine k_newO hx (hw _ (List.mem_of_getElem? (i := 7) rfl)) (hw _ (List.mem_of_getElem? (i := 8) rfl)) (hw _ (List.mem_of_getElem? (i := 9) rfl)) rfl (hb hby at_157) (by decide) (by decide) ?_
        intro h_485 a_484 g_491 O_486 E_487 A_488 D_489 U_490
        have z_492 := E_487.1
        have lt_493 : @LT.lt Nat _ a_484 (Array.size h_485) := A_488.lt
        show Run p l e _ s m _ below meth c Z EL1 _ n0 NoB h_485 4 12 (mkF m 160 #[.val (.int p0), .val (.int p1), .val (.int k0), .val (.int k1), .val (.int k2), .val (.int md), .val (.int sm), .val (.int (2 : Int32)), .val (.int (2 : Int32)), .val (.int i_7), .val (.int i_15), .val (.int i_23), .val (.int i_31), .val (.int i_39), .val (.ref a_352), .unset, .unset, .unset, .unset] [(.ref a_484)]) _
        refine k_pure (g' := (mkF m 161 #[.val (.int p0), .val (.int p1), .val (.int k0), .val (.int k1), .val (.int k2), .val (.int md), .val (.int sm), .val (.int (2 : Int32)), .val (.int (2 : Int32)), .val (.int i_7), .val (.int i_15), .val (.int i_23), .val (.int i_31), .val (.int i_39), .val (.ref a_352), .unset, .unset, .unset, .unset] [(.ref a_484), (.ref a_484)])) (fun TT HH tt kk => XS.dup HH hx rfl (hb hby at_160) rfl rfl kk) ?_
        refine k_pure (g' := (mkF m 162 #[.val (.int p0), .val (.int p1), .val (.int k0), .val (.int k1), .val (.int k2), .val (.int md), .val (.int sm), .val (.int (2 : Int32)), .val (.int (2 : Int32)), .val (.int i_7), .val (.int i_15), .val (.int i_23), .val (.int i_31), .val (.int i_39), .val (.ref a_352), .unset, .unset, .unset, .unset] [(.int (2 : Int32)), (.ref a_484), (.ref a_484)])) (fun TT HH tt kk => XS.iconst HH hx rfl (hb hby at_161) kk) ?_
        refine k_newP hx (hw _ (List.mem_of_getElem? (i := 10) rfl)) rfl (hb hby at_162) rfl (by decide) (cap := 2) (by decide) (by decide) (by decide) (by decide) "[C" (by decide +kernel) ?_
        intro h_495 a_494 k_496 g_497 O_498 E_499 A_500 X_501
        have z_502 := E_499.1
        have lt_503 : @LT.lt Nat _ a_494 (Array.size h_495) := A_500.lt
        have V_504 : Arv Z h_495 a_494 k_496 .char (2 : Int32) [(.int (0 : Int32)), (.int (0 : Int32))] (.int (0 : Int32)) := Arv.pad A_500 (pad_rep [] (.int (0 : Int32)) 2)
        show Run p l e _ s m _ below meth c Z EL1 _ n0 NoB h_495 5 14 (mkF m 164 #[.val (.int p0), .val (.int p1), .val (.int k0), .val (.int k1), .val (.int k2), .val (.int md), .val (.int sm), .val (.int (2 : Int32)), .val (.int (2 : Int32)), .val (.int i_7), .val (.int i_15), .val (.int i_23), .val (.int i_31), .val (.int i_39), .val (.ref a_352), .unset, .unset, .unset, .unset] [(.ref a_494), (.ref a_484), (.ref a_484)]) _
        refine k_pure (g' := (mkF m 165 #[.val (.int p0), .val (.int p1), .val (.int k0), .val (.int k1), .val (.int k2), .val (.int md), .val (.int sm), .val (.int (2 : Int32)), .val (.int (2 : Int32)), .val (.int i_7), .val (.int i_15), .val (.int i_23), .val (.int i_31), .val (.int i_39), .val (.ref a_352), .unset, .unset, .unset, .unset] [(.ref a_494), (.ref a_494), (.ref a_484), (.ref a_484)])) (fun TT HH tt kk => XS.dup HH hx rfl (hb hby at_164) rfl rfl kk) ?_
        refine k_pure (g' := (mkF m 166 #[.val (.int p0), .val (.int p1), .val (.int k0), .val (.int k1), .val (.int k2), .val (.int md), .val (.int sm), .val (.int (2 : Int32)), .val (.int (2 : Int32)), .val (.int i_7), .val (.int i_15), .val (.int i_23), .val (.int i_31), .val (.int i_39), .val (.ref a_352), .unset, .unset, .unset, .unset] [(.int (0 : Int32)), (.ref a_494), (.ref a_494), (.ref a_484), (.ref a_484)])) (fun TT HH tt kk => XS.iconst HH hx rfl (hb hby at_165) kk) ?_
        refine k_pure (g' := (mkF m 168 #[.val (.int p0), .val (.int p1), .val (.int k0), .val (.int k1), .val (.int k2), .val (.int md), .val (.int sm), .val (.int (2 : Int32)), .val (.int (2 : Int32)), .val (.int i_7), .val (.int i_15), .val (.int i_23), .val (.int i_31), .val (.int i_39), .val (.ref a_352), .unset, .unset, .unset, .unset] [(.int i_23), (.int (0 : Int32)), (.ref a_494), (.ref a_494), (.ref a_484), (.ref a_484)])) (fun TT HH tt kk => XS.iload HH hx rfl (hb hby at_166) rfl kk) ?_
        refine k_stC hx V_504 ⟨by decide, by decide⟩ 0 (by decide) (Nat.le_of_ble_eq_true rfl) (by omega) (fun q => q) rfl rfl (hb hby at_168) ?_
        intro h_505 O_506 W_507 A_508
        have z_509 := W_507.size
        have V_510 : Arv Z h_505 a_494 k_496 .char (2 : Int32) [(.int i_23), (.int (0 : Int32))] (.int (0 : Int32)) := by rw [Dc.nr (P_24)] at A_508; exact A_508
        show Run p l e _ s m _ below meth c Z EL1 _ n0 NoB h_505 5 14 (mkF m 169 #[.val (.int p0), .val (.int p1), .val (.int k0), .val (.int k1), .val (.int k2), .val (.int md), .val (.int sm), .val (.int (2 : Int32)), .val (.int (2 : Int32)), .val (.int i_7), .val (.int i_15), .val (.int i_23), .val (.int i_31), .val (.int i_39), .val (.ref a_352), .unset, .unset, .unset, .unset] [(.ref a_494), (.ref a_484), (.ref a_484)]) _
        refine k_pure (g' := (mkF m 170 #[.val (.int p0), .val (.int p1), .val (.int k0), .val (.int k1), .val (.int k2), .val (.int md), .val (.int sm), .val (.int (2 : Int32)), .val (.int (2 : Int32)), .val (.int i_7), .val (.int i_15), .val (.int i_23), .val (.int i_31), .val (.int i_39), .val (.ref a_352), .unset, .unset, .unset, .unset] [(.ref a_494), (.ref a_494), (.ref a_484), (.ref a_484)])) (fun TT HH tt kk => XS.dup HH hx rfl (hb hby at_169) rfl rfl kk) ?_
        refine k_pure (g' := (mkF m 171 #[.val (.int p0), .val (.int p1), .val (.int k0), .val (.int k1), .val (.int k2), .val (.int md), .val (.int sm), .val (.int (2 : Int32)), .val (.int (2 : Int32)), .val (.int i_7), .val (.int i_15), .val (.int i_23), .val (.int i_31), .val (.int i_39), .val (.ref a_352), .unset, .unset, .unset, .unset] [(.int (1 : Int32)), (.ref a_494), (.ref a_494), (.ref a_484), (.ref a_484)])) (fun TT HH tt kk => XS.iconst HH hx rfl (hb hby at_170) kk) ?_
        refine k_pure (g' := (mkF m 173 #[.val (.int p0), .val (.int p1), .val (.int k0), .val (.int k1), .val (.int k2), .val (.int md), .val (.int sm), .val (.int (2 : Int32)), .val (.int (2 : Int32)), .val (.int i_7), .val (.int i_15), .val (.int i_23), .val (.int i_31), .val (.int i_39), .val (.ref a_352), .unset, .unset, .unset, .unset] [(.int i_31), (.int (1 : Int32)), (.ref a_494), (.ref a_494), (.ref a_484), (.ref a_484)])) (fun TT HH tt kk => XS.iload HH hx rfl (hb hby at_171) rfl kk) ?_
        refine k_stC hx V_510 ⟨by decide, by decide⟩ 1 (by decide) (Nat.le_of_ble_eq_true rfl) (by omega) (fun q => q) rfl rfl (hb hby at_173) ?_
        intro h_511 O_512 W_513 A_514
        have z_515 := W_513.size
        have V_516 : Arv Z h_511 a_494 k_496 .char (2 : Int32) [(.int i_23), (.int i_31)] (.int (0 : Int32)) := by rw [Dc.nr (P_32)] at A_514; exact A_514
        show Run p l e _ s m _ below meth c Z EL1 _ n0 NoB h_511 5 14 (mkF m 174 #[.val (.int p0), .val (.int p1), .val (.int k0), .val (.int k1), .val (.int k2), .val (.int md), .val (.int sm), .val (.int (2 : Int32)), .val (.int (2 : Int32)), .val (.int i_7), .val (.int i_15), .val (.int i_23), .val (.int i_31), .val (.int i_39), .val (.ref a_352), .unset, .unset, .unset, .unset] [(.ref a_494), (.ref a_484), (.ref a_484)]) _
        have F_517 : Exa Z h_511 a_484 "java/lang/String" := (((A_488.ext E_499).wr W_507).wr W_513)
        have F_518 : Fld Z h_511 a_484 "java/lang/String" "value" "[B" .null := ((((D_489 (Or.inr (hw _ (List.mem_of_getElem? (i := 36) rfl))) (ty := (.array .byte)) (by decide)).ext E_499).other W_507 (Or.inl (ne_ad (by omega)))).other W_513 (Or.inl (ne_ad (by omega))))
        have F_519 : Fld Z h_511 a_484 "java/lang/String" "coder" "B" (.int (0 : Int32)) := ((((D_489 (Or.inr (hw _ (List.mem_of_getElem? (i := 34) rfl))) (ty := .byte) (by decide)).ext E_499).other W_507 (Or.inl (ne_ad (by omega)))).other W_513 (Or.inl (ne_ad (by omega))))
        refine k_callI hx (y := (⟨"java/lang/String", "<init>", "([C)V"⟩ : MethodName)) rfl (hw _ (List.mem_of_getElem? (i := 11) rfl)) (hw _ (List.mem_of_getElem? (i := 12) rfl)) (hw _ (List.mem_of_getElem? (i := 13) rfl)) (by decide) (W := 1) (a := a_484) (argsL := [(.ref a_494)]) (rest := [(.ref a_484)]) (pay_new (W := 1) hX O_512 (fun q => q) (cs := [i_23, i_31]) F_517 F_518 F_519 V_516 2 rfl rfl (by decide) (by decide) (gd2 (P_24) (P_32)) (by omega) (by decide) (by decide)) rfl (by rw [hml]; rfl) (lenOf pd__28__5b_C_29_V rfl) rfl (by show 2 * 0 + _ ≤ _; exact Nat.le_of_eq rfl) (hb hby at_174) (by decide) (by decide) ?_
        intro v_520 h_521 bk_522 O_523 z_524 Q_525
        obtain ⟨rfl, rfl, K_526, a_527, k_528, ge_529, ge_530, S_531⟩ := Q_525
        have lt_532 : @LT.lt Nat _ a_484 (Array.size h_521) := S_531.lt1
        have lt_533 : @LT.lt Nat _ a_527 (Array.size h_521) := S_531.lt2
        show Run p l e _ s m _ below meth c Z EL1 _ n0 NoB h_521 6 16 (mkF m 177 #[.val (.int p0), .val (.int p1), .val (.int k0), .val (.int k1), .val (.int k2), .val (.int md), .val (.int sm), .val (.int (2 : Int32)), .val (.int (2 : Int32)), .val (.int i_7), .val (.int i_15), .val (.int i_23), .val (.int i_31), .val (.int i_39), .val (.ref a_352), .unset, .unset, .unset, .unset] [(.ref a_484)]) _
        refine k_pure (g' := (mkF m 179 #[.val (.int p0), .val (.int p1), .val (.int k0), .val (.int k1), .val (.int k2), .val (.int md), .val (.int sm), .val (.int (2 : Int32)), .val (.int (2 : Int32)), .val (.int i_7), .val (.int i_15), .val (.int i_23), .val (.int i_31), .val (.int i_39), .val (.ref a_352), .val (.ref a_484), .unset, .unset, .unset] [])) (fun TT HH tt kk => XS.astore HH hx rfl (hb hby at_177) rfl rfl (l' := #[.val (.int p0), .val (.int p1), .val (.int k0), .val (.int k1), .val (.int k2), .val (.int md), .val (.int sm), .val (.int (2 : Int32)), .val (.int (2 : Int32)), .val (.int i_7), .val (.int i_15), .val (.int i_23), .val (.int i_31), .val (.int i_39), .val (.ref a_352), .val (.ref a_484), .unset, .unset, .unset]) rfl kk) ?_
        refine k_pure (g' := (mkF m 209 #[.val (.int p0), .val (.int p1), .val (.int k0), .val (.int k1), .val (.int k2), .val (.int md), .val (.int sm), .val (.int (2 : Int32)), .val (.int (2 : Int32)), .val (.int i_7), .val (.int i_15), .val (.int i_23), .val (.int i_31), .val (.int i_39), .val (.ref a_352), .val (.ref a_484), .unset, .unset, .unset] [])) (fun TT HH tt kk => XS.goto HH hx rfl (pc0 := 179) (pc' := 209) rfl (hb hby at_179) (by decide) (by decide) kk) ?_
        have J240 : ¬ [i_23, i_31].take [i_7, i_15].length = [i_7, i_15] → Run p l e room_1 s m #[(.int p0), (.int p1), (.int k0), (.int k1), (.int k2), (.int md)] below meth c Z EL1 "com/example/eirene/eirene/KeySpaceCallerKeyPinLaw" n0 NoB h_521 6 16 (mkF m 240 #[.val (.int p0), .val (.int p1), .val (.int k0), .val (.int k1), .val (.int k2), .val (.int md), .val (.int sm), .val (.int (2 : Int32)), .val (.int (2 : Int32)), .val (.int i_7), .val (.int i_15), .val (.int i_23), .val (.int i_31), .val (.int i_39), .val (.ref a_352), .val (.ref a_484), .unset, .unset, .unset] []) (Q_law Z p0 p1 k0 k1 k2 md h0 n0 NoB) := by
          intro hns
          refine k_pure (g' := (mkF m 241 #[.val (.int p0), .val (.int p1), .val (.int k0), .val (.int k1), .val (.int k2), .val (.int md), .val (.int sm), .val (.int (2 : Int32)), .val (.int (2 : Int32)), .val (.int i_7), .val (.int i_15), .val (.int i_23), .val (.int i_31), .val (.int i_39), .val (.ref a_352), .val (.ref a_484), .unset, .unset, .unset] [(.int (0 : Int32))])) (fun TT HH tt kk => XS.iconst HH hx rfl (hb hby at_240) kk) ?_
          refine k_pure (g' := (mkF m 243 #[.val (.int p0), .val (.int p1), .val (.int k0), .val (.int k1), .val (.int k2), .val (.int md), .val (.int sm), .val (.int (2 : Int32)), .val (.int (2 : Int32)), .val (.int i_7), .val (.int i_15), .val (.int i_23), .val (.int i_31), .val (.int i_39), .val (.ref a_352), .val (.ref a_484), .val (.int (0 : Int32)), .unset, .unset] [])) (fun TT HH tt kk => XS.istore HH hx rfl (hb hby at_241) rfl (l' := #[.val (.int p0), .val (.int p1), .val (.int k0), .val (.int k1), .val (.int k2), .val (.int md), .val (.int sm), .val (.int (2 : Int32)), .val (.int (2 : Int32)), .val (.int i_7), .val (.int i_15), .val (.int i_23), .val (.int i_31), .val (.int i_39), .val (.ref a_352), .val (.ref a_484), .val (.int (0 : Int32)), .unset, .unset]) rfl kk) ?_
          refine k_pure (g' := (mkF m 245 #[.val (.int p0), .val (.int p1), .val (.int k0), .val (.int k1), .val (.int k2), .val (.int md), .val (.int sm), .val (.int (2 : Int32)), .val (.int (2 : Int32)), .val (.int i_7), .val (.int i_15), .val (.int i_23), .val (.int i_31), .val (.int i_39), .val (.ref a_352), .val (.ref a_484), .val (.int (0 : Int32)), .unset, .unset] [(.int (0 : Int32))])) (fun TT HH tt kk => XS.iload HH hx rfl (hb hby at_243) rfl kk) ?_
          refine k_pure (g' := (mkF m 250 #[.val (.int p0), .val (.int p1), .val (.int k0), .val (.int k1), .val (.int k2), .val (.int md), .val (.int sm), .val (.int (2 : Int32)), .val (.int (2 : Int32)), .val (.int i_7), .val (.int i_15), .val (.int i_23), .val (.int i_31), .val (.int i_39), .val (.ref a_352), .val (.ref a_484), .val (.int (0 : Int32)), .unset, .unset] [])) (fun TT HH tt kk => XS.ifYes HH hx rfl (pc0 := 245) (pc' := 250) rfl (hb hby at_245) rfl ((if0 _ _).trans (teq (by decide : ((0 : Int32) = (0 : Int32)))).1) (by decide) (by decide) kk) ?_
          refine k_newO hx (hw _ (List.mem_of_getElem? (i := 37) rfl)) (hw _ (List.mem_of_getElem? (i := 38) rfl)) (hw _ (List.mem_of_getElem? (i := 39) rfl)) rfl (hb hby at_250) (by decide) (by decide) ?_
          intro h_535 a_534 g_541 O_536 E_537 A_538 D_539 U_540
          have z_542 := E_537.1
          have lt_543 : @LT.lt Nat _ a_534 (Array.size h_535) := A_538.lt
          show Run p l e _ s m _ below meth c Z EL1 _ n0 NoB h_535 7 17 (mkF m 253 #[.val (.int p0), .val (.int p1), .val (.int k0), .val (.int k1), .val (.int k2), .val (.int md), .val (.int sm), .val (.int (2 : Int32)), .val (.int (2 : Int32)), .val (.int i_7), .val (.int i_15), .val (.int i_23), .val (.int i_31), .val (.int i_39), .val (.ref a_352), .val (.ref a_484), .val (.int (0 : Int32)), .unset, .unset] [(.ref a_534)]) _
          refine k_pure (g' := (mkF m 254 #[.val (.int p0), .val (.int p1), .val (.int k0), .val (.int k1), .val (.int k2), .val (.int md), .val (.int sm), .val (.int (2 : Int32)), .val (.int (2 : Int32)), .val (.int i_7), .val (.int i_15), .val (.int i_23), .val (.int i_31), .val (.int i_39), .val (.ref a_352), .val (.ref a_484), .val (.int (0 : Int32)), .unset, .unset] [(.ref a_534), (.ref a_534)])) (fun TT HH tt kk => XS.dup HH hx rfl (hb hby at_253) rfl rfl kk) ?_
          refine k_pure (g' := (mkF m 256 #[.val (.int p0), .val (.int p1), .val (.int k0), .val (.int k1), .val (.int k2), .val (.int md), .val (.int sm), .val (.int (2 : Int32)), .val (.int (2 : Int32)), .val (.int i_7), .val (.int i_15), .val (.int i_23), .val (.int i_31), .val (.int i_39), .val (.ref a_352), .val (.ref a_484), .val (.int (0 : Int32)), .unset, .unset] [(.ref a_352), (.ref a_534), (.ref a_534)])) (fun TT HH tt kk => XS.aload HH hx rfl (hb hby at_254) rfl rfl kk) ?_
          have F_544 : StrL Z h_535 a_352 a_395 k_396 [i_7, i_15] := ((((((S_399.ext E_487).ext E_499).other W_507 (ne_ad (by omega)) (ne_ad (by omega))).other W_513 (ne_ad (by omega)) (ne_ad (by omega))).keep K_526 (ninS (ne_ad (by omega)) nin0) (ninS (ne_ad (by omega)) nin0)).ext E_537)
          refine k_callI hx (y := (⟨"com/example/eirene/eirene/KeySpace", "<init>", "(Ljava/lang/String;)V"⟩ : MethodName)) rfl (hw _ (List.mem_of_getElem? (i := 40) rfl)) (hw _ (List.mem_of_getElem? (i := 41) rfl)) (hw _ (List.mem_of_getElem? (i := 42) rfl)) (by decide) (W := 1) (a := a_534) (argsL := [(.ref a_352)]) (rest := [(.ref a_534)]) (Pays.of_met (rm_ini l Z a0 G1 G3 hX n0 h_535 O_536 a_534 a_352 a_395 k_396 [i_7, i_15] A_538 (D_539 (Or.inr (hw _ (List.mem_of_getElem? (i := 120) rfl))) (ty := (.object "java/lang/String")) (by decide)) F_544 (pc2 P_8 P_16) (by simp) (by omega) []) (hw _ (List.mem_of_getElem? (i := 42) rfl)) (hw _ (List.mem_of_getElem? (i := 39) rfl)) (by decide) (by decide)) rfl (by rw [hml]; rfl) (lenOf pd__28_Ljava_2f_lang_2f_String_3b__29_V rfl) rfl (by show 2 * 0 + _ ≤ _; exact Nat.le_of_eq rfl) (hb hby at_256) (by decide) (by decide) ?_
          intro v_545 h_546 bk_547 O_548 z_549 Q_550
          obtain ⟨rfl, rfl, K_551, F_552, F_553⟩ := Q_550
          have lt_554 : @LT.lt Nat _ a_534 (Array.size h_546) := F_552.lt
          have lt_555 : @LT.lt Nat _ a_534 (Array.size h_546) := F_553.lt
          show Run p l e _ s m _ below meth c Z EL1 _ n0 NoB h_546 11 105 (mkF m 259 #[.val (.int p0), .val (.int p1), .val (.int k0), .val (.int k1), .val (.int k2), .val (.int md), .val (.int sm), .val (.int (2 : Int32)), .val (.int (2 : Int32)), .val (.int i_7), .val (.int i_15), .val (.int i_23), .val (.int i_31), .val (.int i_39), .val (.ref a_352), .val (.ref a_484), .val (.int (0 : Int32)), .unset, .unset] [(.ref a_534)]) _
          refine k_pure (g' := (mkF m 261 #[.val (.int p0), .val (.int p1), .val (.int k0), .val (.int k1), .val (.int k2), .val (.int md), .val (.int sm), .val (.int (2 : Int32)), .val (.int (2 : Int32)), .val (.int i_7), .val (.int i_15), .val (.int i_23), .val (.int i_31), .val (.int i_39), .val (.ref a_352), .val (.ref a_484), .val (.int (0 : Int32)), .val (.ref a_534), .unset] [])) (fun TT HH tt kk => XS.astore HH hx rfl (hb hby at_259) rfl rfl (l' := #[.val (.int p0), .val (.int p1), .val (.int k0), .val (.int k1), .val (.int k2), .val (.int md), .val (.int sm), .val (.int (2 : Int32)), .val (.int (2 : Int32)), .val (.int i_7), .val (.int i_15), .val (.int i_23), .val (.int i_31), .val (.int i_39), .val (.ref a_352), .val (.ref a_484), .val (.int (0 : Int32)), .val (.ref a_534), .unset]) rfl kk) ?_
          refine k_pure (g' := (mkF m 263 #[.val (.int p0), .val (.int p1), .val (.int k0), .val (.int k1), .val (.int k2), .val (.int md), .val (.int sm), .val (.int (2 : Int32)), .val (.int (2 : Int32)), .val (.int i_7), .val (.int i_15), .val (.int i_23), .val (.int i_31), .val (.int i_39), .val (.ref a_352), .val (.ref a_484), .val (.int (0 : Int32)), .val (.ref a_534), .unset] [(.ref a_534)])) (fun TT HH tt kk => XS.aload HH hx rfl (hb hby at_261) rfl rfl kk) ?_
          refine k_pure (g' := (mkF m 265 #[.val (.int p0), .val (.int p1), .val (.int k0), .val (.int k1), .val (.int k2), .val (.int md), .val (.int sm), .val (.int (2 : Int32)), .val (.int (2 : Int32)), .val (.int i_7), .val (.int i_15), .val (.int i_23), .val (.int i_31), .val (.int i_39), .val (.ref a_352), .val (.ref a_484), .val (.int (0 : Int32)), .val (.ref a_534), .unset] [(.ref a_484), (.ref a_534)])) (fun TT HH tt kk => XS.aload HH hx rfl (hb hby at_263) rfl rfl kk) ?_
          have F_556 : StrL Z h_546 a_484 a_527 k_528 [i_23, i_31] := ((S_531.ext E_537).keep K_551 (ninS (ne_ad (by omega)) nin0) (ninS (ne_ad (by omega)) nin0))
          have F_557 : StrL Z h_546 a_352 a_395 k_396 [i_7, i_15] := (F_544.keep K_551 (ninS (ne_ad (by omega)) nin0) (ninS (ne_ad (by omega)) nin0))
          refine k_callV hx (y := (⟨"com/example/eirene/eirene/KeySpace", "callerKey", "(Ljava/lang/String;)Ljava/lang/String;"⟩ : MethodName)) (z := (⟨"com/example/eirene/eirene/KeySpace", "callerKey", "(Ljava/lang/String;)Ljava/lang/String;"⟩ : MethodName)) (hw _ (List.mem_of_getElem? (i := 121) rfl)) (hw _ (List.mem_of_getElem? (i := 122) rfl)) (fun s' hZ => notFace_of_selects (args := #[]) (mv hZ (hw _ (List.mem_of_getElem? (i := 124) rfl)))) (hw _ (List.mem_of_getElem? (i := 124) rfl)) (hw _ (List.mem_of_getElem? (i := 123) rfl)) (by decide) (W := 0) (a := a_534) (argsL := [(.ref a_484)]) (rest := []) (Pays.of_met (rm_ck l Z a0 G1 G3 hX n0 h_546 O_548 a_534 a_484 a_527 k_528 [i_23, i_31] a_352 a_395 k_396 [i_7, i_15] F_552 F_553 F_556 F_557 hns (by simp) (by simp) []) (hw _ (List.mem_of_getElem? (i := 125) rfl)) (hw _ (List.mem_of_getElem? (i := 39) rfl)) (by decide) (by decide)) F_552 rfl (by rw [hml]; rfl) (lenOf pd__28_Ljava_2f_lang_2f_String_3b__29_Ljava_2f_lang_2f_String_3b_ rfl) rfl (by show 2 * 0 + _ ≤ _; exact Nat.le_of_eq rfl) (hb hby at_265) (by decide) (by decide) ?_
          intro v_558 h_559 bk_560 O_561 z_562 Q_563
          obtain ⟨rfl, rfl, K_564⟩ := Q_563
          show Run p l e _ s m _ below meth c Z EL1 _ n0 NoB h_559 13 121 (mkF m 268 #[.val (.int p0), .val (.int p1), .val (.int k0), .val (.int k1), .val (.int k2), .val (.int md), .val (.int sm), .val (.int (2 : Int32)), .val (.int (2 : Int32)), .val (.int i_7), .val (.int i_15), .val (.int i_23), .val (.int i_31), .val (.int i_39), .val (.ref a_352), .val (.ref a_484), .val (.int (0 : Int32)), .val (.ref a_534), .unset] [(.ref a_484)]) _
          refine k_pure (g' := (mkF m 270 #[.val (.int p0), .val (.int p1), .val (.int k0), .val (.int k1), .val (.int k2), .val (.int md), .val (.int sm), .val (.int (2 : Int32)), .val (.int (2 : Int32)), .val (.int i_7), .val (.int i_15), .val (.int i_23), .val (.int i_31), .val (.int i_39), .val (.ref a_352), .val (.ref a_484), .val (.int (0 : Int32)), .val (.ref a_534), .val (.ref a_484)] [])) (fun TT HH tt kk => XS.astore HH hx rfl (hb hby at_268) rfl rfl (l' := #[.val (.int p0), .val (.int p1), .val (.int k0), .val (.int k1), .val (.int k2), .val (.int md), .val (.int sm), .val (.int (2 : Int32)), .val (.int (2 : Int32)), .val (.int i_7), .val (.int i_15), .val (.int i_23), .val (.int i_31), .val (.int i_39), .val (.ref a_352), .val (.ref a_484), .val (.int (0 : Int32)), .val (.ref a_534), .val (.ref a_484)]) rfl kk) ?_
          refine k_pure (g' := (mkF m 272 #[.val (.int p0), .val (.int p1), .val (.int k0), .val (.int k1), .val (.int k2), .val (.int md), .val (.int sm), .val (.int (2 : Int32)), .val (.int (2 : Int32)), .val (.int i_7), .val (.int i_15), .val (.int i_23), .val (.int i_31), .val (.int i_39), .val (.ref a_352), .val (.ref a_484), .val (.int (0 : Int32)), .val (.ref a_534), .val (.ref a_484)] [(.ref a_484)])) (fun TT HH tt kk => XS.aload HH hx rfl (hb hby at_270) rfl rfl kk) ?_
          refine k_pure (g' := (mkF m 275 #[.val (.int p0), .val (.int p1), .val (.int k0), .val (.int k1), .val (.int k2), .val (.int md), .val (.int sm), .val (.int (2 : Int32)), .val (.int (2 : Int32)), .val (.int i_7), .val (.int i_15), .val (.int i_23), .val (.int i_31), .val (.int i_39), .val (.ref a_352), .val (.ref a_484), .val (.int (0 : Int32)), .val (.ref a_534), .val (.ref a_484)] [])) (fun TT HH tt kk => XS.ifnullNo HH hx rfl (hb hby at_272) rfl kk) ?_
          refine k_pure (g' := (mkF m 277 #[.val (.int p0), .val (.int p1), .val (.int k0), .val (.int k1), .val (.int k2), .val (.int md), .val (.int sm), .val (.int (2 : Int32)), .val (.int (2 : Int32)), .val (.int i_7), .val (.int i_15), .val (.int i_23), .val (.int i_31), .val (.int i_39), .val (.ref a_352), .val (.ref a_484), .val (.int (0 : Int32)), .val (.ref a_534), .val (.ref a_484)] [(.ref a_484)])) (fun TT HH tt kk => XS.aload HH hx rfl (hb hby at_275) rfl rfl kk) ?_
          refine k_pure (g' := (mkF m 279 #[.val (.int p0), .val (.int p1), .val (.int k0), .val (.int k1), .val (.int k2), .val (.int md), .val (.int sm), .val (.int (2 : Int32)), .val (.int (2 : Int32)), .val (.int i_7), .val (.int i_15), .val (.int i_23), .val (.int i_31), .val (.int i_39), .val (.ref a_352), .val (.ref a_484), .val (.int (0 : Int32)), .val (.ref a_534), .val (.ref a_484)] [(.ref a_484), (.ref a_484)])) (fun TT HH tt kk => XS.aload HH hx rfl (hb hby at_277) rfl rfl kk) ?_
          have F_565 : Exa Z h_559 a_484 "java/lang/String" := (((S_531.1.ext E_537).keep K_551).keep K_564)
          refine k_callV hx (y := (⟨"java/lang/String", "equals", "(Ljava/lang/Object;)Z"⟩ : MethodName)) (z := (⟨"java/lang/String", "equals", "(Ljava/lang/Object;)Z"⟩ : MethodName)) (hw _ (List.mem_of_getElem? (i := 137) rfl)) (hw _ (List.mem_of_getElem? (i := 138) rfl)) (fun s' hZ => notFace_of_selects (args := #[]) (mv hZ (hw _ (List.mem_of_getElem? (i := 140) rfl)))) (hw _ (List.mem_of_getElem? (i := 140) rfl)) (hw _ (List.mem_of_getElem? (i := 139) rfl)) (by decide) (W := 0) (a := a_484) (argsL := [(.ref a_484)]) (rest := []) (Pays.of_met (rm_eqs l Z a0 G1 G3 hX n0 h_559 O_561 a_484  []) (hw _ (List.mem_of_getElem? (i := 141) rfl)) (hw _ (List.mem_of_getElem? (i := 9) rfl)) (by decide) (by decide)) F_565 rfl (by rw [hml]; rfl) (lenOf pd__28_Ljava_2f_lang_2f_Object_3b__29_Z rfl) rfl (by show 2 * 0 + _ ≤ _; exact Nat.le_of_eq rfl) (hb hby at_279) (by decide) (by decide) ?_
          intro v_566 h_567 bk_568 O_569 z_570 Q_571
          obtain ⟨rfl, rfl, rfl⟩ := Q_571
          show Run p l e _ s m _ below meth c Z EL1 _ n0 NoB h_559 13 121 (mkF m 282 #[.val (.int p0), .val (.int p1), .val (.int k0), .val (.int k1), .val (.int k2), .val (.int md), .val (.int sm), .val (.int (2 : Int32)), .val (.int (2 : Int32)), .val (.int i_7), .val (.int i_15), .val (.int i_23), .val (.int i_31), .val (.int i_39), .val (.ref a_352), .val (.ref a_484), .val (.int (0 : Int32)), .val (.ref a_534), .val (.ref a_484)] [(.int (1 : Int32))]) _
          refine k_pure (g' := (mkF m 285 #[.val (.int p0), .val (.int p1), .val (.int k0), .val (.int k1), .val (.int k2), .val (.int md), .val (.int sm), .val (.int (2 : Int32)), .val (.int (2 : Int32)), .val (.int i_7), .val (.int i_15), .val (.int i_23), .val (.int i_31), .val (.int i_39), .val (.ref a_352), .val (.ref a_484), .val (.int (0 : Int32)), .val (.ref a_534), .val (.ref a_484)] [])) (fun TT HH tt kk => XS.ifNo HH hx rfl (hb hby at_282) rfl ((if0 _ _).trans (feq (by decide : ¬ ((1 : Int32) = (0 : Int32)))).1) kk) ?_
          refine k_pure (g' := (mkF m 286 #[.val (.int p0), .val (.int p1), .val (.int k0), .val (.int k1), .val (.int k2), .val (.int md), .val (.int sm), .val (.int (2 : Int32)), .val (.int (2 : Int32)), .val (.int i_7), .val (.int i_15), .val (.int i_23), .val (.int i_31), .val (.int i_39), .val (.ref a_352), .val (.ref a_484), .val (.int (0 : Int32)), .val (.ref a_534), .val (.ref a_484)] [(.int (1 : Int32))])) (fun TT HH tt kk => XS.iconst HH hx rfl (hb hby at_285) kk) ?_
          refine k_pure (g' := (mkF m 290 #[.val (.int p0), .val (.int p1), .val (.int k0), .val (.int k1), .val (.int k2), .val (.int md), .val (.int sm), .val (.int (2 : Int32)), .val (.int (2 : Int32)), .val (.int i_7), .val (.int i_15), .val (.int i_23), .val (.int i_31), .val (.int i_39), .val (.ref a_352), .val (.ref a_484), .val (.int (0 : Int32)), .val (.ref a_534), .val (.ref a_484)] [(.int (1 : Int32))])) (fun TT HH tt kk => XS.goto HH hx rfl (pc0 := 286) (pc' := 290) rfl (hb hby at_286) (by decide) (by decide) kk) ?_
          exact k_retN hx hlk hret (by simp) (hb hby at_290) (by decide) (by decide) ⟨rfl, rfl, ((((((((((((((Keep.refl _ _).ext E_355).ext E_367).wr W_375 (Or.inr (by omega))).wr W_381 (Or.inr (by omega))).trans K_394 (kkS (Or.inr (by omega)) kk0)).ext E_487).ext E_499).wr W_507 (Or.inr (by omega))).wr W_513 (Or.inr (by omega))).trans K_526 (kkS (Or.inr (by omega)) kk0)).ext E_537).trans K_551 (kkS (Or.inr (by omega)) kk0)).trans K_564 kk0)⟩
        refine k_pure (g' := (mkF m 211 #[.val (.int p0), .val (.int p1), .val (.int k0), .val (.int k1), .val (.int k2), .val (.int md), .val (.int sm), .val (.int (2 : Int32)), .val (.int (2 : Int32)), .val (.int i_7), .val (.int i_15), .val (.int i_23), .val (.int i_31), .val (.int i_39), .val (.ref a_352), .val (.ref a_484), .unset, .unset, .unset] [(.int (2 : Int32))])) (fun TT HH tt kk => XS.iload HH hx rfl (hb hby at_209) rfl kk) ?_
        refine k_pure (g' := (mkF m 213 #[.val (.int p0), .val (.int p1), .val (.int k0), .val (.int k1), .val (.int k2), .val (.int md), .val (.int sm), .val (.int (2 : Int32)), .val (.int (2 : Int32)), .val (.int i_7), .val (.int i_15), .val (.int i_23), .val (.int i_31), .val (.int i_39), .val (.ref a_352), .val (.ref a_484), .unset, .unset, .unset] [(.int (2 : Int32)), (.int (2 : Int32))])) (fun TT HH tt kk => XS.iload HH hx rfl (hb hby at_211) rfl kk) ?_
        refine k_pure (g' := (mkF m 216 #[.val (.int p0), .val (.int p1), .val (.int k0), .val (.int k1), .val (.int k2), .val (.int md), .val (.int sm), .val (.int (2 : Int32)), .val (.int (2 : Int32)), .val (.int i_7), .val (.int i_15), .val (.int i_23), .val (.int i_31), .val (.int i_39), .val (.ref a_352), .val (.ref a_484), .unset, .unset, .unset] [])) (fun TT HH tt kk => XS.icmpNo HH hx rfl (hb hby at_213) rfl (flt (by decide : ¬ ((2 : Int32) < (2 : Int32)))).1 kk) ?_
        refine k_pure (g' := (mkF m 218 #[.val (.int p0), .val (.int p1), .val (.int k0), .val (.int k1), .val (.int k2), .val (.int md), .val (.int sm), .val (.int (2 : Int32)), .val (.int (2 : Int32)), .val (.int i_7), .val (.int i_15), .val (.int i_23), .val (.int i_31), .val (.int i_39), .val (.ref a_352), .val (.ref a_484), .unset, .unset, .unset] [(.int i_23)])) (fun TT HH tt kk => XS.iload HH hx rfl (hb hby at_216) rfl kk) ?_
        refine k_pure (g' := (mkF m 220 #[.val (.int p0), .val (.int p1), .val (.int k0), .val (.int k1), .val (.int k2), .val (.int md), .val (.int sm), .val (.int (2 : Int32)), .val (.int (2 : Int32)), .val (.int i_7), .val (.int i_15), .val (.int i_23), .val (.int i_31), .val (.int i_39), .val (.ref a_352), .val (.ref a_484), .unset, .unset, .unset] [(.int i_7), (.int i_23)])) (fun TT HH tt kk => XS.iload HH hx rfl (hb hby at_218) rfl kk) ?_
        by_cases c_572 : i_23 = i_7
        · refine k_pure (g' := (mkF m 223 #[.val (.int p0), .val (.int p1), .val (.int k0), .val (.int k1), .val (.int k2), .val (.int md), .val (.int sm), .val (.int (2 : Int32)), .val (.int (2 : Int32)), .val (.int i_7), .val (.int i_15), .val (.int i_23), .val (.int i_31), .val (.int i_39), .val (.ref a_352), .val (.ref a_484), .unset, .unset, .unset] [])) (fun TT HH tt kk => XS.icmpNo HH hx rfl (hb hby at_220) rfl (teq c_572).2 kk) ?_
          refine k_pure (g' := (mkF m 225 #[.val (.int p0), .val (.int p1), .val (.int k0), .val (.int k1), .val (.int k2), .val (.int md), .val (.int sm), .val (.int (2 : Int32)), .val (.int (2 : Int32)), .val (.int i_7), .val (.int i_15), .val (.int i_23), .val (.int i_31), .val (.int i_39), .val (.ref a_352), .val (.ref a_484), .unset, .unset, .unset] [(.int (2 : Int32))])) (fun TT HH tt kk => XS.iload HH hx rfl (hb hby at_223) rfl kk) ?_
          refine k_pure (g' := (mkF m 226 #[.val (.int p0), .val (.int p1), .val (.int k0), .val (.int k1), .val (.int k2), .val (.int md), .val (.int sm), .val (.int (2 : Int32)), .val (.int (2 : Int32)), .val (.int i_7), .val (.int i_15), .val (.int i_23), .val (.int i_31), .val (.int i_39), .val (.ref a_352), .val (.ref a_484), .unset, .unset, .unset] [(.int (1 : Int32)), (.int (2 : Int32))])) (fun TT HH tt kk => XS.iconst HH hx rfl (hb hby at_225) kk) ?_
          refine k_pure (g' := (mkF m 229 #[.val (.int p0), .val (.int p1), .val (.int k0), .val (.int k1), .val (.int k2), .val (.int md), .val (.int sm), .val (.int (2 : Int32)), .val (.int (2 : Int32)), .val (.int i_7), .val (.int i_15), .val (.int i_23), .val (.int i_31), .val (.int i_39), .val (.ref a_352), .val (.ref a_484), .unset, .unset, .unset] [])) (fun TT HH tt kk => XS.icmpNo HH hx rfl (hb hby at_226) rfl (feq (by decide : ¬ ((2 : Int32) = (1 : Int32)))).1 kk) ?_
          refine k_pure (g' := (mkF m 231 #[.val (.int p0), .val (.int p1), .val (.int k0), .val (.int k1), .val (.int k2), .val (.int md), .val (.int sm), .val (.int (2 : Int32)), .val (.int (2 : Int32)), .val (.int i_7), .val (.int i_15), .val (.int i_23), .val (.int i_31), .val (.int i_39), .val (.ref a_352), .val (.ref a_484), .unset, .unset, .unset] [(.int i_31)])) (fun TT HH tt kk => XS.iload HH hx rfl (hb hby at_229) rfl kk) ?_
          refine k_pure (g' := (mkF m 233 #[.val (.int p0), .val (.int p1), .val (.int k0), .val (.int k1), .val (.int k2), .val (.int md), .val (.int sm), .val (.int (2 : Int32)), .val (.int (2 : Int32)), .val (.int i_7), .val (.int i_15), .val (.int i_23), .val (.int i_31), .val (.int i_39), .val (.ref a_352), .val (.ref a_484), .unset, .unset, .unset] [(.int i_15), (.int i_31)])) (fun TT HH tt kk => XS.iload HH hx rfl (hb hby at_231) rfl kk) ?_
          by_cases c_573 : i_31 = i_15
          · refine k_pure (g' := (mkF m 236 #[.val (.int p0), .val (.int p1), .val (.int k0), .val (.int k1), .val (.int k2), .val (.int md), .val (.int sm), .val (.int (2 : Int32)), .val (.int (2 : Int32)), .val (.int i_7), .val (.int i_15), .val (.int i_23), .val (.int i_31), .val (.int i_39), .val (.ref a_352), .val (.ref a_484), .unset, .unset, .unset] [])) (fun TT HH tt kk => XS.icmpNo HH hx rfl (hb hby at_233) rfl (teq c_573).2 kk) ?_
            refine k_pure (g' := (mkF m 237 #[.val (.int p0), .val (.int p1), .val (.int k0), .val (.int k1), .val (.int k2), .val (.int md), .val (.int sm), .val (.int (2 : Int32)), .val (.int (2 : Int32)), .val (.int i_7), .val (.int i_15), .val (.int i_23), .val (.int i_31), .val (.int i_39), .val (.ref a_352), .val (.ref a_484), .unset, .unset, .unset] [(.int (1 : Int32))])) (fun TT HH tt kk => XS.iconst HH hx rfl (hb hby at_236) kk) ?_
            refine k_pure (g' := (mkF m 241 #[.val (.int p0), .val (.int p1), .val (.int k0), .val (.int k1), .val (.int k2), .val (.int md), .val (.int sm), .val (.int (2 : Int32)), .val (.int (2 : Int32)), .val (.int i_7), .val (.int i_15), .val (.int i_23), .val (.int i_31), .val (.int i_39), .val (.ref a_352), .val (.ref a_484), .unset, .unset, .unset] [(.int (1 : Int32))])) (fun TT HH tt kk => XS.goto HH hx rfl (pc0 := 237) (pc' := 241) rfl (hb hby at_237) (by decide) (by decide) kk) ?_
            refine k_pure (g' := (mkF m 243 #[.val (.int p0), .val (.int p1), .val (.int k0), .val (.int k1), .val (.int k2), .val (.int md), .val (.int sm), .val (.int (2 : Int32)), .val (.int (2 : Int32)), .val (.int i_7), .val (.int i_15), .val (.int i_23), .val (.int i_31), .val (.int i_39), .val (.ref a_352), .val (.ref a_484), .val (.int (1 : Int32)), .unset, .unset] [])) (fun TT HH tt kk => XS.istore HH hx rfl (hb hby at_241) rfl (l' := #[.val (.int p0), .val (.int p1), .val (.int k0), .val (.int k1), .val (.int k2), .val (.int md), .val (.int sm), .val (.int (2 : Int32)), .val (.int (2 : Int32)), .val (.int i_7), .val (.int i_15), .val (.int i_23), .val (.int i_31), .val (.int i_39), .val (.ref a_352), .val (.ref a_484), .val (.int (1 : Int32)), .unset, .unset]) rfl kk) ?_
            refine k_pure (g' := (mkF m 245 #[.val (.int p0), .val (.int p1), .val (.int k0), .val (.int k1), .val (.int k2), .val (.int md), .val (.int sm), .val (.int (2 : Int32)), .val (.int (2 : Int32)), .val (.int i_7), .val (.int i_15), .val (.int i_23), .val (.int i_31), .val (.int i_39), .val (.ref a_352), .val (.ref a_484), .val (.int (1 : Int32)), .unset, .unset] [(.int (1 : Int32))])) (fun TT HH tt kk => XS.iload HH hx rfl (hb hby at_243) rfl kk) ?_
            refine k_pure (g' := (mkF m 248 #[.val (.int p0), .val (.int p1), .val (.int k0), .val (.int k1), .val (.int k2), .val (.int md), .val (.int sm), .val (.int (2 : Int32)), .val (.int (2 : Int32)), .val (.int i_7), .val (.int i_15), .val (.int i_23), .val (.int i_31), .val (.int i_39), .val (.ref a_352), .val (.ref a_484), .val (.int (1 : Int32)), .unset, .unset] [])) (fun TT HH tt kk => XS.ifNo HH hx rfl (hb hby at_245) rfl ((if0 _ _).trans (feq (by decide : ¬ ((1 : Int32) = (0 : Int32)))).1) kk) ?_
            refine k_pure (g' := (mkF m 249 #[.val (.int p0), .val (.int p1), .val (.int k0), .val (.int k1), .val (.int k2), .val (.int md), .val (.int sm), .val (.int (2 : Int32)), .val (.int (2 : Int32)), .val (.int i_7), .val (.int i_15), .val (.int i_23), .val (.int i_31), .val (.int i_39), .val (.ref a_352), .val (.ref a_484), .val (.int (1 : Int32)), .unset, .unset] [(.int (1 : Int32))])) (fun TT HH tt kk => XS.iconst HH hx rfl (hb hby at_248) kk) ?_
            exact k_retN hx hlk hret (by simp) (hb hby at_249) (by decide) (by decide) ⟨rfl, rfl, (((((((((((Keep.refl _ _).ext E_355).ext E_367).wr W_375 (Or.inr (by omega))).wr W_381 (Or.inr (by omega))).trans K_394 (kkS (Or.inr (by omega)) kk0)).ext E_487).ext E_499).wr W_507 (Or.inr (by omega))).wr W_513 (Or.inr (by omega))).trans K_526 (kkS (Or.inr (by omega)) kk0))⟩
          · refine k_pure (g' := (mkF m 240 #[.val (.int p0), .val (.int p1), .val (.int k0), .val (.int k1), .val (.int k2), .val (.int md), .val (.int sm), .val (.int (2 : Int32)), .val (.int (2 : Int32)), .val (.int i_7), .val (.int i_15), .val (.int i_23), .val (.int i_31), .val (.int i_39), .val (.ref a_352), .val (.ref a_484), .unset, .unset, .unset] [])) (fun TT HH tt kk => XS.icmpYes HH hx rfl (pc0 := 233) (pc' := 240) rfl (hb hby at_233) rfl (feq c_573).2 (by decide) (by decide) kk) ?_
            exact J240 (fun q => c_573 (by simp at q; exact q.2))
        · refine k_pure (g' := (mkF m 240 #[.val (.int p0), .val (.int p1), .val (.int k0), .val (.int k1), .val (.int k2), .val (.int md), .val (.int sm), .val (.int (2 : Int32)), .val (.int (2 : Int32)), .val (.int i_7), .val (.int i_15), .val (.int i_23), .val (.int i_31), .val (.int i_39), .val (.ref a_352), .val (.ref a_484), .unset, .unset, .unset] [])) (fun TT HH tt kk => XS.icmpYes HH hx rfl (pc0 := 220) (pc' := 240) rfl (hb hby at_220) rfl (feq c_572).2 (by decide) (by decide) kk) ?_
          exact J240 (fun q => c_572 (by simp at q; exact q.1))
      · show Run p l e _ s m _ below meth c Z EL1 _ n0 NoB h_389 3 8 (mkF m 125 #[.val (.int p0), .val (.int p1), .val (.int k0), .val (.int k1), .val (.int k2), .val (.int md), .val (.int sm), .val (.int (2 : Int32)), .val (.int (3 : Int32)), .val (.int i_7), .val (.int i_15), .val (.int i_23), .val (.int i_31), .val (.int i_39), .val (.ref a_352), .unset, .unset, .unset, .unset] []) _
        refine k_pure (g' := (mkF m 127 #[.val (.int p0), .val (.int p1), .val (.int k0), .val (.int k1), .val (.int k2), .val (.int md), .val (.int sm), .val (.int (2 : Int32)), .val (.int (3 : Int32)), .val (.int i_7), .val (.int i_15), .val (.int i_23), .val (.int i_31), .val (.int i_39), .val (.ref a_352), .unset, .unset, .unset, .unset] [(.int (3 : Int32))])) (fun TT HH tt kk => XS.iload HH hx rfl (hb hby at_125) rfl kk) ?_
        refine k_pure (g' := (mkF m 128 #[.val (.int p0), .val (.int p1), .val (.int k0), .val (.int k1), .val (.int k2), .val (.int md), .val (.int sm), .val (.int (2 : Int32)), .val (.int (3 : Int32)), .val (.int i_7), .val (.int i_15), .val (.int i_23), .val (.int i_31), .val (.int i_39), .val (.ref a_352), .unset, .unset, .unset, .unset] [(.int (1 : Int32)), (.int (3 : Int32))])) (fun TT HH tt kk => XS.iconst HH hx rfl (hb hby at_127) kk) ?_
        refine k_pure (g' := (mkF m 151 #[.val (.int p0), .val (.int p1), .val (.int k0), .val (.int k1), .val (.int k2), .val (.int md), .val (.int sm), .val (.int (2 : Int32)), .val (.int (3 : Int32)), .val (.int i_7), .val (.int i_15), .val (.int i_23), .val (.int i_31), .val (.int i_39), .val (.ref a_352), .unset, .unset, .unset, .unset] [])) (fun TT HH tt kk => XS.icmpYes HH hx rfl (pc0 := 128) (pc' := 151) rfl (hb hby at_128) rfl (feq (by decide : ¬ ((3 : Int32) = (1 : Int32)))).2 (by decide) (by decide) kk) ?_
        refine k_pure (g' := (mkF m 153 #[.val (.int p0), .val (.int p1), .val (.int k0), .val (.int k1), .val (.int k2), .val (.int md), .val (.int sm), .val (.int (2 : Int32)), .val (.int (3 : Int32)), .val (.int i_7), .val (.int i_15), .val (.int i_23), .val (.int i_31), .val (.int i_39), .val (.ref a_352), .unset, .unset, .unset, .unset] [(.int (3 : Int32))])) (fun TT HH tt kk => XS.iload HH hx rfl (hb hby at_151) rfl kk) ?_
        refine k_pure (g' := (mkF m 154 #[.val (.int p0), .val (.int p1), .val (.int k0), .val (.int k1), .val (.int k2), .val (.int md), .val (.int sm), .val (.int (2 : Int32)), .val (.int (3 : Int32)), .val (.int i_7), .val (.int i_15), .val (.int i_23), .val (.int i_31), .val (.int i_39), .val (.ref a_352), .unset, .unset, .unset, .unset] [(.int (2 : Int32)), (.int (3 : Int32))])) (fun TT HH tt kk => XS.iconst HH hx rfl (hb hby at_153) kk) ?_
        refine k_pure (g' := (mkF m 182 #[.val (.int p0), .val (.int p1), .val (.int k0), .val (.int k1), .val (.int k2), .val (.int md), .val (.int sm), .val (.int (2 : Int32)), .val (.int (3 : Int32)), .val (.int i_7), .val (.int i_15), .val (.int i_23), .val (.int i_31), .val (.int i_39), .val (.ref a_352), .unset, .unset, .unset, .unset] [])) (fun TT HH tt kk => XS.icmpYes HH hx rfl (pc0 := 154) (pc' := 182) rfl (hb hby at_154) rfl (feq (by decide : ¬ ((3 : Int32) = (2 : Int32)))).2 (by decide) (by decide) kk) ?_
        refine k_newO hx (hw _ (List.mem_of_getElem? (i := 7) rfl)) (hw _ (List.mem_of_getElem? (i := 8) rfl)) (hw _ (List.mem_of_getElem? (i := 9) rfl)) rfl (hb hby at_182) (by decide) (by decide) ?_
        intro h_575 a_574 g_581 O_576 E_577 A_578 D_579 U_580
        have z_582 := E_577.1
        have lt_583 : @LT.lt Nat _ a_574 (Array.size h_575) := A_578.lt
        show Run p l e _ s m _ below meth c Z EL1 _ n0 NoB h_575 4 12 (mkF m 185 #[.val (.int p0), .val (.int p1), .val (.int k0), .val (.int k1), .val (.int k2), .val (.int md), .val (.int sm), .val (.int (2 : Int32)), .val (.int (3 : Int32)), .val (.int i_7), .val (.int i_15), .val (.int i_23), .val (.int i_31), .val (.int i_39), .val (.ref a_352), .unset, .unset, .unset, .unset] [(.ref a_574)]) _
        refine k_pure (g' := (mkF m 186 #[.val (.int p0), .val (.int p1), .val (.int k0), .val (.int k1), .val (.int k2), .val (.int md), .val (.int sm), .val (.int (2 : Int32)), .val (.int (3 : Int32)), .val (.int i_7), .val (.int i_15), .val (.int i_23), .val (.int i_31), .val (.int i_39), .val (.ref a_352), .unset, .unset, .unset, .unset] [(.ref a_574), (.ref a_574)])) (fun TT HH tt kk => XS.dup HH hx rfl (hb hby at_185) rfl rfl kk) ?_
        refine k_pure (g' := (mkF m 187 #[.val (.int p0), .val (.int p1), .val (.int k0), .val (.int k1), .val (.int k2), .val (.int md), .val (.int sm), .val (.int (2 : Int32)), .val (.int (3 : Int32)), .val (.int i_7), .val (.int i_15), .val (.int i_23), .val (.int i_31), .val (.int i_39), .val (.ref a_352), .unset, .unset, .unset, .unset] [(.int (3 : Int32)), (.ref a_574), (.ref a_574)])) (fun TT HH tt kk => XS.iconst HH hx rfl (hb hby at_186) kk) ?_
        refine k_newP hx (hw _ (List.mem_of_getElem? (i := 10) rfl)) rfl (hb hby at_187) rfl (by decide) (cap := 3) (by decide) (by decide) (by decide) (by decide) "[C" (by decide +kernel) ?_
        intro h_585 a_584 k_586 g_587 O_588 E_589 A_590 X_591
        have z_592 := E_589.1
        have lt_593 : @LT.lt Nat _ a_584 (Array.size h_585) := A_590.lt
        have V_594 : Arv Z h_585 a_584 k_586 .char (3 : Int32) [(.int (0 : Int32)), (.int (0 : Int32)), (.int (0 : Int32))] (.int (0 : Int32)) := Arv.pad A_590 (pad_rep [] (.int (0 : Int32)) 3)
        show Run p l e _ s m _ below meth c Z EL1 _ n0 NoB h_585 5 15 (mkF m 189 #[.val (.int p0), .val (.int p1), .val (.int k0), .val (.int k1), .val (.int k2), .val (.int md), .val (.int sm), .val (.int (2 : Int32)), .val (.int (3 : Int32)), .val (.int i_7), .val (.int i_15), .val (.int i_23), .val (.int i_31), .val (.int i_39), .val (.ref a_352), .unset, .unset, .unset, .unset] [(.ref a_584), (.ref a_574), (.ref a_574)]) _
        refine k_pure (g' := (mkF m 190 #[.val (.int p0), .val (.int p1), .val (.int k0), .val (.int k1), .val (.int k2), .val (.int md), .val (.int sm), .val (.int (2 : Int32)), .val (.int (3 : Int32)), .val (.int i_7), .val (.int i_15), .val (.int i_23), .val (.int i_31), .val (.int i_39), .val (.ref a_352), .unset, .unset, .unset, .unset] [(.ref a_584), (.ref a_584), (.ref a_574), (.ref a_574)])) (fun TT HH tt kk => XS.dup HH hx rfl (hb hby at_189) rfl rfl kk) ?_
        refine k_pure (g' := (mkF m 191 #[.val (.int p0), .val (.int p1), .val (.int k0), .val (.int k1), .val (.int k2), .val (.int md), .val (.int sm), .val (.int (2 : Int32)), .val (.int (3 : Int32)), .val (.int i_7), .val (.int i_15), .val (.int i_23), .val (.int i_31), .val (.int i_39), .val (.ref a_352), .unset, .unset, .unset, .unset] [(.int (0 : Int32)), (.ref a_584), (.ref a_584), (.ref a_574), (.ref a_574)])) (fun TT HH tt kk => XS.iconst HH hx rfl (hb hby at_190) kk) ?_
        refine k_pure (g' := (mkF m 193 #[.val (.int p0), .val (.int p1), .val (.int k0), .val (.int k1), .val (.int k2), .val (.int md), .val (.int sm), .val (.int (2 : Int32)), .val (.int (3 : Int32)), .val (.int i_7), .val (.int i_15), .val (.int i_23), .val (.int i_31), .val (.int i_39), .val (.ref a_352), .unset, .unset, .unset, .unset] [(.int i_23), (.int (0 : Int32)), (.ref a_584), (.ref a_584), (.ref a_574), (.ref a_574)])) (fun TT HH tt kk => XS.iload HH hx rfl (hb hby at_191) rfl kk) ?_
        refine k_stC hx V_594 ⟨by decide, by decide⟩ 0 (by decide) (Nat.le_of_ble_eq_true rfl) (by omega) (fun q => q) rfl rfl (hb hby at_193) ?_
        intro h_595 O_596 W_597 A_598
        have z_599 := W_597.size
        have V_600 : Arv Z h_595 a_584 k_586 .char (3 : Int32) [(.int i_23), (.int (0 : Int32)), (.int (0 : Int32))] (.int (0 : Int32)) := by rw [Dc.nr (P_24)] at A_598; exact A_598
        show Run p l e _ s m _ below meth c Z EL1 _ n0 NoB h_595 5 15 (mkF m 194 #[.val (.int p0), .val (.int p1), .val (.int k0), .val (.int k1), .val (.int k2), .val (.int md), .val (.int sm), .val (.int (2 : Int32)), .val (.int (3 : Int32)), .val (.int i_7), .val (.int i_15), .val (.int i_23), .val (.int i_31), .val (.int i_39), .val (.ref a_352), .unset, .unset, .unset, .unset] [(.ref a_584), (.ref a_574), (.ref a_574)]) _
        refine k_pure (g' := (mkF m 195 #[.val (.int p0), .val (.int p1), .val (.int k0), .val (.int k1), .val (.int k2), .val (.int md), .val (.int sm), .val (.int (2 : Int32)), .val (.int (3 : Int32)), .val (.int i_7), .val (.int i_15), .val (.int i_23), .val (.int i_31), .val (.int i_39), .val (.ref a_352), .unset, .unset, .unset, .unset] [(.ref a_584), (.ref a_584), (.ref a_574), (.ref a_574)])) (fun TT HH tt kk => XS.dup HH hx rfl (hb hby at_194) rfl rfl kk) ?_
        refine k_pure (g' := (mkF m 196 #[.val (.int p0), .val (.int p1), .val (.int k0), .val (.int k1), .val (.int k2), .val (.int md), .val (.int sm), .val (.int (2 : Int32)), .val (.int (3 : Int32)), .val (.int i_7), .val (.int i_15), .val (.int i_23), .val (.int i_31), .val (.int i_39), .val (.ref a_352), .unset, .unset, .unset, .unset] [(.int (1 : Int32)), (.ref a_584), (.ref a_584), (.ref a_574), (.ref a_574)])) (fun TT HH tt kk => XS.iconst HH hx rfl (hb hby at_195) kk) ?_
        refine k_pure (g' := (mkF m 198 #[.val (.int p0), .val (.int p1), .val (.int k0), .val (.int k1), .val (.int k2), .val (.int md), .val (.int sm), .val (.int (2 : Int32)), .val (.int (3 : Int32)), .val (.int i_7), .val (.int i_15), .val (.int i_23), .val (.int i_31), .val (.int i_39), .val (.ref a_352), .unset, .unset, .unset, .unset] [(.int i_31), (.int (1 : Int32)), (.ref a_584), (.ref a_584), (.ref a_574), (.ref a_574)])) (fun TT HH tt kk => XS.iload HH hx rfl (hb hby at_196) rfl kk) ?_
        refine k_stC hx V_600 ⟨by decide, by decide⟩ 1 (by decide) (Nat.le_of_ble_eq_true rfl) (by omega) (fun q => q) rfl rfl (hb hby at_198) ?_
        intro h_601 O_602 W_603 A_604
        have z_605 := W_603.size
        have V_606 : Arv Z h_601 a_584 k_586 .char (3 : Int32) [(.int i_23), (.int i_31), (.int (0 : Int32))] (.int (0 : Int32)) := by rw [Dc.nr (P_32)] at A_604; exact A_604
        show Run p l e _ s m _ below meth c Z EL1 _ n0 NoB h_601 5 15 (mkF m 199 #[.val (.int p0), .val (.int p1), .val (.int k0), .val (.int k1), .val (.int k2), .val (.int md), .val (.int sm), .val (.int (2 : Int32)), .val (.int (3 : Int32)), .val (.int i_7), .val (.int i_15), .val (.int i_23), .val (.int i_31), .val (.int i_39), .val (.ref a_352), .unset, .unset, .unset, .unset] [(.ref a_584), (.ref a_574), (.ref a_574)]) _
        refine k_pure (g' := (mkF m 200 #[.val (.int p0), .val (.int p1), .val (.int k0), .val (.int k1), .val (.int k2), .val (.int md), .val (.int sm), .val (.int (2 : Int32)), .val (.int (3 : Int32)), .val (.int i_7), .val (.int i_15), .val (.int i_23), .val (.int i_31), .val (.int i_39), .val (.ref a_352), .unset, .unset, .unset, .unset] [(.ref a_584), (.ref a_584), (.ref a_574), (.ref a_574)])) (fun TT HH tt kk => XS.dup HH hx rfl (hb hby at_199) rfl rfl kk) ?_
        refine k_pure (g' := (mkF m 201 #[.val (.int p0), .val (.int p1), .val (.int k0), .val (.int k1), .val (.int k2), .val (.int md), .val (.int sm), .val (.int (2 : Int32)), .val (.int (3 : Int32)), .val (.int i_7), .val (.int i_15), .val (.int i_23), .val (.int i_31), .val (.int i_39), .val (.ref a_352), .unset, .unset, .unset, .unset] [(.int (2 : Int32)), (.ref a_584), (.ref a_584), (.ref a_574), (.ref a_574)])) (fun TT HH tt kk => XS.iconst HH hx rfl (hb hby at_200) kk) ?_
        refine k_pure (g' := (mkF m 203 #[.val (.int p0), .val (.int p1), .val (.int k0), .val (.int k1), .val (.int k2), .val (.int md), .val (.int sm), .val (.int (2 : Int32)), .val (.int (3 : Int32)), .val (.int i_7), .val (.int i_15), .val (.int i_23), .val (.int i_31), .val (.int i_39), .val (.ref a_352), .unset, .unset, .unset, .unset] [(.int i_39), (.int (2 : Int32)), (.ref a_584), (.ref a_584), (.ref a_574), (.ref a_574)])) (fun TT HH tt kk => XS.iload HH hx rfl (hb hby at_201) rfl kk) ?_
        refine k_stC hx V_606 ⟨by decide, by decide⟩ 2 (by decide) (Nat.le_of_ble_eq_true rfl) (by omega) (fun q => q) rfl rfl (hb hby at_203) ?_
        intro h_607 O_608 W_609 A_610
        have z_611 := W_609.size
        have V_612 : Arv Z h_607 a_584 k_586 .char (3 : Int32) [(.int i_23), (.int i_31), (.int i_39)] (.int (0 : Int32)) := by rw [Dc.nr (P_40)] at A_610; exact A_610
        show Run p l e _ s m _ below meth c Z EL1 _ n0 NoB h_607 5 15 (mkF m 204 #[.val (.int p0), .val (.int p1), .val (.int k0), .val (.int k1), .val (.int k2), .val (.int md), .val (.int sm), .val (.int (2 : Int32)), .val (.int (3 : Int32)), .val (.int i_7), .val (.int i_15), .val (.int i_23), .val (.int i_31), .val (.int i_39), .val (.ref a_352), .unset, .unset, .unset, .unset] [(.ref a_584), (.ref a_574), (.ref a_574)]) _
        have F_613 : Exa Z h_607 a_574 "java/lang/String" := ((((A_578.ext E_589).wr W_597).wr W_603).wr W_609)
        have F_614 : Fld Z h_607 a_574 "java/lang/String" "value" "[B" .null := (((((D_579 (Or.inr (hw _ (List.mem_of_getElem? (i := 36) rfl))) (ty := (.array .byte)) (by decide)).ext E_589).other W_597 (Or.inl (ne_ad (by omega)))).other W_603 (Or.inl (ne_ad (by omega)))).other W_609 (Or.inl (ne_ad (by omega))))
        have F_615 : Fld Z h_607 a_574 "java/lang/String" "coder" "B" (.int (0 : Int32)) := (((((D_579 (Or.inr (hw _ (List.mem_of_getElem? (i := 34) rfl))) (ty := .byte) (by decide)).ext E_589).other W_597 (Or.inl (ne_ad (by omega)))).other W_603 (Or.inl (ne_ad (by omega)))).other W_609 (Or.inl (ne_ad (by omega))))
        refine k_callI hx (y := (⟨"java/lang/String", "<init>", "([C)V"⟩ : MethodName)) rfl (hw _ (List.mem_of_getElem? (i := 11) rfl)) (hw _ (List.mem_of_getElem? (i := 12) rfl)) (hw _ (List.mem_of_getElem? (i := 13) rfl)) (by decide) (W := 1) (a := a_574) (argsL := [(.ref a_584)]) (rest := [(.ref a_574)]) (pay_new (W := 1) hX O_608 (fun q => q) (cs := [i_23, i_31, i_39]) F_613 F_614 F_615 V_612 3 rfl rfl (by decide) (by decide) (gd3 (P_24) (P_32) (P_40)) (by omega) (by decide) (by decide)) rfl (by rw [hml]; rfl) (lenOf pd__28__5b_C_29_V rfl) rfl (by show 2 * 0 + _ ≤ _; exact Nat.le_of_eq rfl) (hb hby at_204) (by decide) (by decide) ?_
        intro v_616 h_617 bk_618 O_619 z_620 Q_621
        obtain ⟨rfl, rfl, K_622, a_623, k_624, ge_625, ge_626, S_627⟩ := Q_621
        have lt_628 : @LT.lt Nat _ a_574 (Array.size h_617) := S_627.lt1
        have lt_629 : @LT.lt Nat _ a_623 (Array.size h_617) := S_627.lt2
        show Run p l e _ s m _ below meth c Z EL1 _ n0 NoB h_617 6 18 (mkF m 207 #[.val (.int p0), .val (.int p1), .val (.int k0), .val (.int k1), .val (.int k2), .val (.int md), .val (.int sm), .val (.int (2 : Int32)), .val (.int (3 : Int32)), .val (.int i_7), .val (.int i_15), .val (.int i_23), .val (.int i_31), .val (.int i_39), .val (.ref a_352), .unset, .unset, .unset, .unset] [(.ref a_574)]) _
        refine k_pure (g' := (mkF m 209 #[.val (.int p0), .val (.int p1), .val (.int k0), .val (.int k1), .val (.int k2), .val (.int md), .val (.int sm), .val (.int (2 : Int32)), .val (.int (3 : Int32)), .val (.int i_7), .val (.int i_15), .val (.int i_23), .val (.int i_31), .val (.int i_39), .val (.ref a_352), .val (.ref a_574), .unset, .unset, .unset] [])) (fun TT HH tt kk => XS.astore HH hx rfl (hb hby at_207) rfl rfl (l' := #[.val (.int p0), .val (.int p1), .val (.int k0), .val (.int k1), .val (.int k2), .val (.int md), .val (.int sm), .val (.int (2 : Int32)), .val (.int (3 : Int32)), .val (.int i_7), .val (.int i_15), .val (.int i_23), .val (.int i_31), .val (.int i_39), .val (.ref a_352), .val (.ref a_574), .unset, .unset, .unset]) rfl kk) ?_
        have J240 : ¬ [i_23, i_31, i_39].take [i_7, i_15].length = [i_7, i_15] → Run p l e room_1 s m #[(.int p0), (.int p1), (.int k0), (.int k1), (.int k2), (.int md)] below meth c Z EL1 "com/example/eirene/eirene/KeySpaceCallerKeyPinLaw" n0 NoB h_617 6 18 (mkF m 240 #[.val (.int p0), .val (.int p1), .val (.int k0), .val (.int k1), .val (.int k2), .val (.int md), .val (.int sm), .val (.int (2 : Int32)), .val (.int (3 : Int32)), .val (.int i_7), .val (.int i_15), .val (.int i_23), .val (.int i_31), .val (.int i_39), .val (.ref a_352), .val (.ref a_574), .unset, .unset, .unset] []) (Q_law Z p0 p1 k0 k1 k2 md h0 n0 NoB) := by
          intro hns
          refine k_pure (g' := (mkF m 241 #[.val (.int p0), .val (.int p1), .val (.int k0), .val (.int k1), .val (.int k2), .val (.int md), .val (.int sm), .val (.int (2 : Int32)), .val (.int (3 : Int32)), .val (.int i_7), .val (.int i_15), .val (.int i_23), .val (.int i_31), .val (.int i_39), .val (.ref a_352), .val (.ref a_574), .unset, .unset, .unset] [(.int (0 : Int32))])) (fun TT HH tt kk => XS.iconst HH hx rfl (hb hby at_240) kk) ?_
          refine k_pure (g' := (mkF m 243 #[.val (.int p0), .val (.int p1), .val (.int k0), .val (.int k1), .val (.int k2), .val (.int md), .val (.int sm), .val (.int (2 : Int32)), .val (.int (3 : Int32)), .val (.int i_7), .val (.int i_15), .val (.int i_23), .val (.int i_31), .val (.int i_39), .val (.ref a_352), .val (.ref a_574), .val (.int (0 : Int32)), .unset, .unset] [])) (fun TT HH tt kk => XS.istore HH hx rfl (hb hby at_241) rfl (l' := #[.val (.int p0), .val (.int p1), .val (.int k0), .val (.int k1), .val (.int k2), .val (.int md), .val (.int sm), .val (.int (2 : Int32)), .val (.int (3 : Int32)), .val (.int i_7), .val (.int i_15), .val (.int i_23), .val (.int i_31), .val (.int i_39), .val (.ref a_352), .val (.ref a_574), .val (.int (0 : Int32)), .unset, .unset]) rfl kk) ?_
          refine k_pure (g' := (mkF m 245 #[.val (.int p0), .val (.int p1), .val (.int k0), .val (.int k1), .val (.int k2), .val (.int md), .val (.int sm), .val (.int (2 : Int32)), .val (.int (3 : Int32)), .val (.int i_7), .val (.int i_15), .val (.int i_23), .val (.int i_31), .val (.int i_39), .val (.ref a_352), .val (.ref a_574), .val (.int (0 : Int32)), .unset, .unset] [(.int (0 : Int32))])) (fun TT HH tt kk => XS.iload HH hx rfl (hb hby at_243) rfl kk) ?_
          refine k_pure (g' := (mkF m 250 #[.val (.int p0), .val (.int p1), .val (.int k0), .val (.int k1), .val (.int k2), .val (.int md), .val (.int sm), .val (.int (2 : Int32)), .val (.int (3 : Int32)), .val (.int i_7), .val (.int i_15), .val (.int i_23), .val (.int i_31), .val (.int i_39), .val (.ref a_352), .val (.ref a_574), .val (.int (0 : Int32)), .unset, .unset] [])) (fun TT HH tt kk => XS.ifYes HH hx rfl (pc0 := 245) (pc' := 250) rfl (hb hby at_245) rfl ((if0 _ _).trans (teq (by decide : ((0 : Int32) = (0 : Int32)))).1) (by decide) (by decide) kk) ?_
          refine k_newO hx (hw _ (List.mem_of_getElem? (i := 37) rfl)) (hw _ (List.mem_of_getElem? (i := 38) rfl)) (hw _ (List.mem_of_getElem? (i := 39) rfl)) rfl (hb hby at_250) (by decide) (by decide) ?_
          intro h_631 a_630 g_637 O_632 E_633 A_634 D_635 U_636
          have z_638 := E_633.1
          have lt_639 : @LT.lt Nat _ a_630 (Array.size h_631) := A_634.lt
          show Run p l e _ s m _ below meth c Z EL1 _ n0 NoB h_631 7 19 (mkF m 253 #[.val (.int p0), .val (.int p1), .val (.int k0), .val (.int k1), .val (.int k2), .val (.int md), .val (.int sm), .val (.int (2 : Int32)), .val (.int (3 : Int32)), .val (.int i_7), .val (.int i_15), .val (.int i_23), .val (.int i_31), .val (.int i_39), .val (.ref a_352), .val (.ref a_574), .val (.int (0 : Int32)), .unset, .unset] [(.ref a_630)]) _
          refine k_pure (g' := (mkF m 254 #[.val (.int p0), .val (.int p1), .val (.int k0), .val (.int k1), .val (.int k2), .val (.int md), .val (.int sm), .val (.int (2 : Int32)), .val (.int (3 : Int32)), .val (.int i_7), .val (.int i_15), .val (.int i_23), .val (.int i_31), .val (.int i_39), .val (.ref a_352), .val (.ref a_574), .val (.int (0 : Int32)), .unset, .unset] [(.ref a_630), (.ref a_630)])) (fun TT HH tt kk => XS.dup HH hx rfl (hb hby at_253) rfl rfl kk) ?_
          refine k_pure (g' := (mkF m 256 #[.val (.int p0), .val (.int p1), .val (.int k0), .val (.int k1), .val (.int k2), .val (.int md), .val (.int sm), .val (.int (2 : Int32)), .val (.int (3 : Int32)), .val (.int i_7), .val (.int i_15), .val (.int i_23), .val (.int i_31), .val (.int i_39), .val (.ref a_352), .val (.ref a_574), .val (.int (0 : Int32)), .unset, .unset] [(.ref a_352), (.ref a_630), (.ref a_630)])) (fun TT HH tt kk => XS.aload HH hx rfl (hb hby at_254) rfl rfl kk) ?_
          have F_640 : StrL Z h_631 a_352 a_395 k_396 [i_7, i_15] := (((((((S_399.ext E_577).ext E_589).other W_597 (ne_ad (by omega)) (ne_ad (by omega))).other W_603 (ne_ad (by omega)) (ne_ad (by omega))).other W_609 (ne_ad (by omega)) (ne_ad (by omega))).keep K_622 (ninS (ne_ad (by omega)) nin0) (ninS (ne_ad (by omega)) nin0)).ext E_633)
          refine k_callI hx (y := (⟨"com/example/eirene/eirene/KeySpace", "<init>", "(Ljava/lang/String;)V"⟩ : MethodName)) rfl (hw _ (List.mem_of_getElem? (i := 40) rfl)) (hw _ (List.mem_of_getElem? (i := 41) rfl)) (hw _ (List.mem_of_getElem? (i := 42) rfl)) (by decide) (W := 1) (a := a_630) (argsL := [(.ref a_352)]) (rest := [(.ref a_630)]) (Pays.of_met (rm_ini l Z a0 G1 G3 hX n0 h_631 O_632 a_630 a_352 a_395 k_396 [i_7, i_15] A_634 (D_635 (Or.inr (hw _ (List.mem_of_getElem? (i := 120) rfl))) (ty := (.object "java/lang/String")) (by decide)) F_640 (pc2 P_8 P_16) (by simp) (by omega) []) (hw _ (List.mem_of_getElem? (i := 42) rfl)) (hw _ (List.mem_of_getElem? (i := 39) rfl)) (by decide) (by decide)) rfl (by rw [hml]; rfl) (lenOf pd__28_Ljava_2f_lang_2f_String_3b__29_V rfl) rfl (by show 2 * 0 + _ ≤ _; exact Nat.le_of_eq rfl) (hb hby at_256) (by decide) (by decide) ?_
          intro v_641 h_642 bk_643 O_644 z_645 Q_646
          obtain ⟨rfl, rfl, K_647, F_648, F_649⟩ := Q_646
          have lt_650 : @LT.lt Nat _ a_630 (Array.size h_642) := F_648.lt
          have lt_651 : @LT.lt Nat _ a_630 (Array.size h_642) := F_649.lt
          show Run p l e _ s m _ below meth c Z EL1 _ n0 NoB h_642 11 107 (mkF m 259 #[.val (.int p0), .val (.int p1), .val (.int k0), .val (.int k1), .val (.int k2), .val (.int md), .val (.int sm), .val (.int (2 : Int32)), .val (.int (3 : Int32)), .val (.int i_7), .val (.int i_15), .val (.int i_23), .val (.int i_31), .val (.int i_39), .val (.ref a_352), .val (.ref a_574), .val (.int (0 : Int32)), .unset, .unset] [(.ref a_630)]) _
          refine k_pure (g' := (mkF m 261 #[.val (.int p0), .val (.int p1), .val (.int k0), .val (.int k1), .val (.int k2), .val (.int md), .val (.int sm), .val (.int (2 : Int32)), .val (.int (3 : Int32)), .val (.int i_7), .val (.int i_15), .val (.int i_23), .val (.int i_31), .val (.int i_39), .val (.ref a_352), .val (.ref a_574), .val (.int (0 : Int32)), .val (.ref a_630), .unset] [])) (fun TT HH tt kk => XS.astore HH hx rfl (hb hby at_259) rfl rfl (l' := #[.val (.int p0), .val (.int p1), .val (.int k0), .val (.int k1), .val (.int k2), .val (.int md), .val (.int sm), .val (.int (2 : Int32)), .val (.int (3 : Int32)), .val (.int i_7), .val (.int i_15), .val (.int i_23), .val (.int i_31), .val (.int i_39), .val (.ref a_352), .val (.ref a_574), .val (.int (0 : Int32)), .val (.ref a_630), .unset]) rfl kk) ?_
          refine k_pure (g' := (mkF m 263 #[.val (.int p0), .val (.int p1), .val (.int k0), .val (.int k1), .val (.int k2), .val (.int md), .val (.int sm), .val (.int (2 : Int32)), .val (.int (3 : Int32)), .val (.int i_7), .val (.int i_15), .val (.int i_23), .val (.int i_31), .val (.int i_39), .val (.ref a_352), .val (.ref a_574), .val (.int (0 : Int32)), .val (.ref a_630), .unset] [(.ref a_630)])) (fun TT HH tt kk => XS.aload HH hx rfl (hb hby at_261) rfl rfl kk) ?_
          refine k_pure (g' := (mkF m 265 #[.val (.int p0), .val (.int p1), .val (.int k0), .val (.int k1), .val (.int k2), .val (.int md), .val (.int sm), .val (.int (2 : Int32)), .val (.int (3 : Int32)), .val (.int i_7), .val (.int i_15), .val (.int i_23), .val (.int i_31), .val (.int i_39), .val (.ref a_352), .val (.ref a_574), .val (.int (0 : Int32)), .val (.ref a_630), .unset] [(.ref a_574), (.ref a_630)])) (fun TT HH tt kk => XS.aload HH hx rfl (hb hby at_263) rfl rfl kk) ?_
          have F_652 : StrL Z h_642 a_574 a_623 k_624 [i_23, i_31, i_39] := ((S_627.ext E_633).keep K_647 (ninS (ne_ad (by omega)) nin0) (ninS (ne_ad (by omega)) nin0))
          have F_653 : StrL Z h_642 a_352 a_395 k_396 [i_7, i_15] := (F_640.keep K_647 (ninS (ne_ad (by omega)) nin0) (ninS (ne_ad (by omega)) nin0))
          refine k_callV hx (y := (⟨"com/example/eirene/eirene/KeySpace", "callerKey", "(Ljava/lang/String;)Ljava/lang/String;"⟩ : MethodName)) (z := (⟨"com/example/eirene/eirene/KeySpace", "callerKey", "(Ljava/lang/String;)Ljava/lang/String;"⟩ : MethodName)) (hw _ (List.mem_of_getElem? (i := 121) rfl)) (hw _ (List.mem_of_getElem? (i := 122) rfl)) (fun s' hZ => notFace_of_selects (args := #[]) (mv hZ (hw _ (List.mem_of_getElem? (i := 124) rfl)))) (hw _ (List.mem_of_getElem? (i := 124) rfl)) (hw _ (List.mem_of_getElem? (i := 123) rfl)) (by decide) (W := 0) (a := a_630) (argsL := [(.ref a_574)]) (rest := []) (Pays.of_met (rm_ck l Z a0 G1 G3 hX n0 h_642 O_644 a_630 a_574 a_623 k_624 [i_23, i_31, i_39] a_352 a_395 k_396 [i_7, i_15] F_648 F_649 F_652 F_653 hns (by simp) (by simp) []) (hw _ (List.mem_of_getElem? (i := 125) rfl)) (hw _ (List.mem_of_getElem? (i := 39) rfl)) (by decide) (by decide)) F_648 rfl (by rw [hml]; rfl) (lenOf pd__28_Ljava_2f_lang_2f_String_3b__29_Ljava_2f_lang_2f_String_3b_ rfl) rfl (by show 2 * 0 + _ ≤ _; exact Nat.le_of_eq rfl) (hb hby at_265) (by decide) (by decide) ?_
          intro v_654 h_655 bk_656 O_657 z_658 Q_659
          obtain ⟨rfl, rfl, K_660⟩ := Q_659
          show Run p l e _ s m _ below meth c Z EL1 _ n0 NoB h_655 13 123 (mkF m 268 #[.val (.int p0), .val (.int p1), .val (.int k0), .val (.int k1), .val (.int k2), .val (.int md), .val (.int sm), .val (.int (2 : Int32)), .val (.int (3 : Int32)), .val (.int i_7), .val (.int i_15), .val (.int i_23), .val (.int i_31), .val (.int i_39), .val (.ref a_352), .val (.ref a_574), .val (.int (0 : Int32)), .val (.ref a_630), .unset] [(.ref a_574)]) _
          refine k_pure (g' := (mkF m 270 #[.val (.int p0), .val (.int p1), .val (.int k0), .val (.int k1), .val (.int k2), .val (.int md), .val (.int sm), .val (.int (2 : Int32)), .val (.int (3 : Int32)), .val (.int i_7), .val (.int i_15), .val (.int i_23), .val (.int i_31), .val (.int i_39), .val (.ref a_352), .val (.ref a_574), .val (.int (0 : Int32)), .val (.ref a_630), .val (.ref a_574)] [])) (fun TT HH tt kk => XS.astore HH hx rfl (hb hby at_268) rfl rfl (l' := #[.val (.int p0), .val (.int p1), .val (.int k0), .val (.int k1), .val (.int k2), .val (.int md), .val (.int sm), .val (.int (2 : Int32)), .val (.int (3 : Int32)), .val (.int i_7), .val (.int i_15), .val (.int i_23), .val (.int i_31), .val (.int i_39), .val (.ref a_352), .val (.ref a_574), .val (.int (0 : Int32)), .val (.ref a_630), .val (.ref a_574)]) rfl kk) ?_
          refine k_pure (g' := (mkF m 272 #[.val (.int p0), .val (.int p1), .val (.int k0), .val (.int k1), .val (.int k2), .val (.int md), .val (.int sm), .val (.int (2 : Int32)), .val (.int (3 : Int32)), .val (.int i_7), .val (.int i_15), .val (.int i_23), .val (.int i_31), .val (.int i_39), .val (.ref a_352), .val (.ref a_574), .val (.int (0 : Int32)), .val (.ref a_630), .val (.ref a_574)] [(.ref a_574)])) (fun TT HH tt kk => XS.aload HH hx rfl (hb hby at_270) rfl rfl kk) ?_
          refine k_pure (g' := (mkF m 275 #[.val (.int p0), .val (.int p1), .val (.int k0), .val (.int k1), .val (.int k2), .val (.int md), .val (.int sm), .val (.int (2 : Int32)), .val (.int (3 : Int32)), .val (.int i_7), .val (.int i_15), .val (.int i_23), .val (.int i_31), .val (.int i_39), .val (.ref a_352), .val (.ref a_574), .val (.int (0 : Int32)), .val (.ref a_630), .val (.ref a_574)] [])) (fun TT HH tt kk => XS.ifnullNo HH hx rfl (hb hby at_272) rfl kk) ?_
          refine k_pure (g' := (mkF m 277 #[.val (.int p0), .val (.int p1), .val (.int k0), .val (.int k1), .val (.int k2), .val (.int md), .val (.int sm), .val (.int (2 : Int32)), .val (.int (3 : Int32)), .val (.int i_7), .val (.int i_15), .val (.int i_23), .val (.int i_31), .val (.int i_39), .val (.ref a_352), .val (.ref a_574), .val (.int (0 : Int32)), .val (.ref a_630), .val (.ref a_574)] [(.ref a_574)])) (fun TT HH tt kk => XS.aload HH hx rfl (hb hby at_275) rfl rfl kk) ?_
          refine k_pure (g' := (mkF m 279 #[.val (.int p0), .val (.int p1), .val (.int k0), .val (.int k1), .val (.int k2), .val (.int md), .val (.int sm), .val (.int (2 : Int32)), .val (.int (3 : Int32)), .val (.int i_7), .val (.int i_15), .val (.int i_23), .val (.int i_31), .val (.int i_39), .val (.ref a_352), .val (.ref a_574), .val (.int (0 : Int32)), .val (.ref a_630), .val (.ref a_574)] [(.ref a_574), (.ref a_574)])) (fun TT HH tt kk => XS.aload HH hx rfl (hb hby at_277) rfl rfl kk) ?_
          have F_661 : Exa Z h_655 a_574 "java/lang/String" := (((S_627.1.ext E_633).keep K_647).keep K_660)
          refine k_callV hx (y := (⟨"java/lang/String", "equals", "(Ljava/lang/Object;)Z"⟩ : MethodName)) (z := (⟨"java/lang/String", "equals", "(Ljava/lang/Object;)Z"⟩ : MethodName)) (hw _ (List.mem_of_getElem? (i := 137) rfl)) (hw _ (List.mem_of_getElem? (i := 138) rfl)) (fun s' hZ => notFace_of_selects (args := #[]) (mv hZ (hw _ (List.mem_of_getElem? (i := 140) rfl)))) (hw _ (List.mem_of_getElem? (i := 140) rfl)) (hw _ (List.mem_of_getElem? (i := 139) rfl)) (by decide) (W := 0) (a := a_574) (argsL := [(.ref a_574)]) (rest := []) (Pays.of_met (rm_eqs l Z a0 G1 G3 hX n0 h_655 O_657 a_574  []) (hw _ (List.mem_of_getElem? (i := 141) rfl)) (hw _ (List.mem_of_getElem? (i := 9) rfl)) (by decide) (by decide)) F_661 rfl (by rw [hml]; rfl) (lenOf pd__28_Ljava_2f_lang_2f_Object_3b__29_Z rfl) rfl (by show 2 * 0 + _ ≤ _; exact Nat.le_of_eq rfl) (hb hby at_279) (by decide) (by decide) ?_
          intro v_662 h_663 bk_664 O_665 z_666 Q_667
          obtain ⟨rfl, rfl, rfl⟩ := Q_667
          show Run p l e _ s m _ below meth c Z EL1 _ n0 NoB h_655 13 123 (mkF m 282 #[.val (.int p0), .val (.int p1), .val (.int k0), .val (.int k1), .val (.int k2), .val (.int md), .val (.int sm), .val (.int (2 : Int32)), .val (.int (3 : Int32)), .val (.int i_7), .val (.int i_15), .val (.int i_23), .val (.int i_31), .val (.int i_39), .val (.ref a_352), .val (.ref a_574), .val (.int (0 : Int32)), .val (.ref a_630), .val (.ref a_574)] [(.int (1 : Int32))]) _
          refine k_pure (g' := (mkF m 285 #[.val (.int p0), .val (.int p1), .val (.int k0), .val (.int k1), .val (.int k2), .val (.int md), .val (.int sm), .val (.int (2 : Int32)), .val (.int (3 : Int32)), .val (.int i_7), .val (.int i_15), .val (.int i_23), .val (.int i_31), .val (.int i_39), .val (.ref a_352), .val (.ref a_574), .val (.int (0 : Int32)), .val (.ref a_630), .val (.ref a_574)] [])) (fun TT HH tt kk => XS.ifNo HH hx rfl (hb hby at_282) rfl ((if0 _ _).trans (feq (by decide : ¬ ((1 : Int32) = (0 : Int32)))).1) kk) ?_
          refine k_pure (g' := (mkF m 286 #[.val (.int p0), .val (.int p1), .val (.int k0), .val (.int k1), .val (.int k2), .val (.int md), .val (.int sm), .val (.int (2 : Int32)), .val (.int (3 : Int32)), .val (.int i_7), .val (.int i_15), .val (.int i_23), .val (.int i_31), .val (.int i_39), .val (.ref a_352), .val (.ref a_574), .val (.int (0 : Int32)), .val (.ref a_630), .val (.ref a_574)] [(.int (1 : Int32))])) (fun TT HH tt kk => XS.iconst HH hx rfl (hb hby at_285) kk) ?_
          refine k_pure (g' := (mkF m 290 #[.val (.int p0), .val (.int p1), .val (.int k0), .val (.int k1), .val (.int k2), .val (.int md), .val (.int sm), .val (.int (2 : Int32)), .val (.int (3 : Int32)), .val (.int i_7), .val (.int i_15), .val (.int i_23), .val (.int i_31), .val (.int i_39), .val (.ref a_352), .val (.ref a_574), .val (.int (0 : Int32)), .val (.ref a_630), .val (.ref a_574)] [(.int (1 : Int32))])) (fun TT HH tt kk => XS.goto HH hx rfl (pc0 := 286) (pc' := 290) rfl (hb hby at_286) (by decide) (by decide) kk) ?_
          exact k_retN hx hlk hret (by simp) (hb hby at_290) (by decide) (by decide) ⟨rfl, rfl, (((((((((((((((Keep.refl _ _).ext E_355).ext E_367).wr W_375 (Or.inr (by omega))).wr W_381 (Or.inr (by omega))).trans K_394 (kkS (Or.inr (by omega)) kk0)).ext E_577).ext E_589).wr W_597 (Or.inr (by omega))).wr W_603 (Or.inr (by omega))).wr W_609 (Or.inr (by omega))).trans K_622 (kkS (Or.inr (by omega)) kk0)).ext E_633).trans K_647 (kkS (Or.inr (by omega)) kk0)).trans K_660 kk0)⟩
        refine k_pure (g' := (mkF m 211 #[.val (.int p0), .val (.int p1), .val (.int k0), .val (.int k1), .val (.int k2), .val (.int md), .val (.int sm), .val (.int (2 : Int32)), .val (.int (3 : Int32)), .val (.int i_7), .val (.int i_15), .val (.int i_23), .val (.int i_31), .val (.int i_39), .val (.ref a_352), .val (.ref a_574), .unset, .unset, .unset] [(.int (3 : Int32))])) (fun TT HH tt kk => XS.iload HH hx rfl (hb hby at_209) rfl kk) ?_
        refine k_pure (g' := (mkF m 213 #[.val (.int p0), .val (.int p1), .val (.int k0), .val (.int k1), .val (.int k2), .val (.int md), .val (.int sm), .val (.int (2 : Int32)), .val (.int (3 : Int32)), .val (.int i_7), .val (.int i_15), .val (.int i_23), .val (.int i_31), .val (.int i_39), .val (.ref a_352), .val (.ref a_574), .unset, .unset, .unset] [(.int (2 : Int32)), (.int (3 : Int32))])) (fun TT HH tt kk => XS.iload HH hx rfl (hb hby at_211) rfl kk) ?_
        refine k_pure (g' := (mkF m 216 #[.val (.int p0), .val (.int p1), .val (.int k0), .val (.int k1), .val (.int k2), .val (.int md), .val (.int sm), .val (.int (2 : Int32)), .val (.int (3 : Int32)), .val (.int i_7), .val (.int i_15), .val (.int i_23), .val (.int i_31), .val (.int i_39), .val (.ref a_352), .val (.ref a_574), .unset, .unset, .unset] [])) (fun TT HH tt kk => XS.icmpNo HH hx rfl (hb hby at_213) rfl (flt (by decide : ¬ ((3 : Int32) < (2 : Int32)))).1 kk) ?_
        refine k_pure (g' := (mkF m 218 #[.val (.int p0), .val (.int p1), .val (.int k0), .val (.int k1), .val (.int k2), .val (.int md), .val (.int sm), .val (.int (2 : Int32)), .val (.int (3 : Int32)), .val (.int i_7), .val (.int i_15), .val (.int i_23), .val (.int i_31), .val (.int i_39), .val (.ref a_352), .val (.ref a_574), .unset, .unset, .unset] [(.int i_23)])) (fun TT HH tt kk => XS.iload HH hx rfl (hb hby at_216) rfl kk) ?_
        refine k_pure (g' := (mkF m 220 #[.val (.int p0), .val (.int p1), .val (.int k0), .val (.int k1), .val (.int k2), .val (.int md), .val (.int sm), .val (.int (2 : Int32)), .val (.int (3 : Int32)), .val (.int i_7), .val (.int i_15), .val (.int i_23), .val (.int i_31), .val (.int i_39), .val (.ref a_352), .val (.ref a_574), .unset, .unset, .unset] [(.int i_7), (.int i_23)])) (fun TT HH tt kk => XS.iload HH hx rfl (hb hby at_218) rfl kk) ?_
        by_cases c_668 : i_23 = i_7
        · refine k_pure (g' := (mkF m 223 #[.val (.int p0), .val (.int p1), .val (.int k0), .val (.int k1), .val (.int k2), .val (.int md), .val (.int sm), .val (.int (2 : Int32)), .val (.int (3 : Int32)), .val (.int i_7), .val (.int i_15), .val (.int i_23), .val (.int i_31), .val (.int i_39), .val (.ref a_352), .val (.ref a_574), .unset, .unset, .unset] [])) (fun TT HH tt kk => XS.icmpNo HH hx rfl (hb hby at_220) rfl (teq c_668).2 kk) ?_
          refine k_pure (g' := (mkF m 225 #[.val (.int p0), .val (.int p1), .val (.int k0), .val (.int k1), .val (.int k2), .val (.int md), .val (.int sm), .val (.int (2 : Int32)), .val (.int (3 : Int32)), .val (.int i_7), .val (.int i_15), .val (.int i_23), .val (.int i_31), .val (.int i_39), .val (.ref a_352), .val (.ref a_574), .unset, .unset, .unset] [(.int (2 : Int32))])) (fun TT HH tt kk => XS.iload HH hx rfl (hb hby at_223) rfl kk) ?_
          refine k_pure (g' := (mkF m 226 #[.val (.int p0), .val (.int p1), .val (.int k0), .val (.int k1), .val (.int k2), .val (.int md), .val (.int sm), .val (.int (2 : Int32)), .val (.int (3 : Int32)), .val (.int i_7), .val (.int i_15), .val (.int i_23), .val (.int i_31), .val (.int i_39), .val (.ref a_352), .val (.ref a_574), .unset, .unset, .unset] [(.int (1 : Int32)), (.int (2 : Int32))])) (fun TT HH tt kk => XS.iconst HH hx rfl (hb hby at_225) kk) ?_
          refine k_pure (g' := (mkF m 229 #[.val (.int p0), .val (.int p1), .val (.int k0), .val (.int k1), .val (.int k2), .val (.int md), .val (.int sm), .val (.int (2 : Int32)), .val (.int (3 : Int32)), .val (.int i_7), .val (.int i_15), .val (.int i_23), .val (.int i_31), .val (.int i_39), .val (.ref a_352), .val (.ref a_574), .unset, .unset, .unset] [])) (fun TT HH tt kk => XS.icmpNo HH hx rfl (hb hby at_226) rfl (feq (by decide : ¬ ((2 : Int32) = (1 : Int32)))).1 kk) ?_
          refine k_pure (g' := (mkF m 231 #[.val (.int p0), .val (.int p1), .val (.int k0), .val (.int k1), .val (.int k2), .val (.int md), .val (.int sm), .val (.int (2 : Int32)), .val (.int (3 : Int32)), .val (.int i_7), .val (.int i_15), .val (.int i_23), .val (.int i_31), .val (.int i_39), .val (.ref a_352), .val (.ref a_574), .unset, .unset, .unset] [(.int i_31)])) (fun TT HH tt kk => XS.iload HH hx rfl (hb hby at_229) rfl kk) ?_
          refine k_pure (g' := (mkF m 233 #[.val (.int p0), .val (.int p1), .val (.int k0), .val (.int k1), .val (.int k2), .val (.int md), .val (.int sm), .val (.int (2 : Int32)), .val (.int (3 : Int32)), .val (.int i_7), .val (.int i_15), .val (.int i_23), .val (.int i_31), .val (.int i_39), .val (.ref a_352), .val (.ref a_574), .unset, .unset, .unset] [(.int i_15), (.int i_31)])) (fun TT HH tt kk => XS.iload HH hx rfl (hb hby at_231) rfl kk) ?_
          by_cases c_669 : i_31 = i_15
          · refine k_pure (g' := (mkF m 236 #[.val (.int p0), .val (.int p1), .val (.int k0), .val (.int k1), .val (.int k2), .val (.int md), .val (.int sm), .val (.int (2 : Int32)), .val (.int (3 : Int32)), .val (.int i_7), .val (.int i_15), .val (.int i_23), .val (.int i_31), .val (.int i_39), .val (.ref a_352), .val (.ref a_574), .unset, .unset, .unset] [])) (fun TT HH tt kk => XS.icmpNo HH hx rfl (hb hby at_233) rfl (teq c_669).2 kk) ?_
            refine k_pure (g' := (mkF m 237 #[.val (.int p0), .val (.int p1), .val (.int k0), .val (.int k1), .val (.int k2), .val (.int md), .val (.int sm), .val (.int (2 : Int32)), .val (.int (3 : Int32)), .val (.int i_7), .val (.int i_15), .val (.int i_23), .val (.int i_31), .val (.int i_39), .val (.ref a_352), .val (.ref a_574), .unset, .unset, .unset] [(.int (1 : Int32))])) (fun TT HH tt kk => XS.iconst HH hx rfl (hb hby at_236) kk) ?_
            refine k_pure (g' := (mkF m 241 #[.val (.int p0), .val (.int p1), .val (.int k0), .val (.int k1), .val (.int k2), .val (.int md), .val (.int sm), .val (.int (2 : Int32)), .val (.int (3 : Int32)), .val (.int i_7), .val (.int i_15), .val (.int i_23), .val (.int i_31), .val (.int i_39), .val (.ref a_352), .val (.ref a_574), .unset, .unset, .unset] [(.int (1 : Int32))])) (fun TT HH tt kk => XS.goto HH hx rfl (pc0 := 237) (pc' := 241) rfl (hb hby at_237) (by decide) (by decide) kk) ?_
            refine k_pure (g' := (mkF m 243 #[.val (.int p0), .val (.int p1), .val (.int k0), .val (.int k1), .val (.int k2), .val (.int md), .val (.int sm), .val (.int (2 : Int32)), .val (.int (3 : Int32)), .val (.int i_7), .val (.int i_15), .val (.int i_23), .val (.int i_31), .val (.int i_39), .val (.ref a_352), .val (.ref a_574), .val (.int (1 : Int32)), .unset, .unset] [])) (fun TT HH tt kk => XS.istore HH hx rfl (hb hby at_241) rfl (l' := #[.val (.int p0), .val (.int p1), .val (.int k0), .val (.int k1), .val (.int k2), .val (.int md), .val (.int sm), .val (.int (2 : Int32)), .val (.int (3 : Int32)), .val (.int i_7), .val (.int i_15), .val (.int i_23), .val (.int i_31), .val (.int i_39), .val (.ref a_352), .val (.ref a_574), .val (.int (1 : Int32)), .unset, .unset]) rfl kk) ?_
            refine k_pure (g' := (mkF m 245 #[.val (.int p0), .val (.int p1), .val (.int k0), .val (.int k1), .val (.int k2), .val (.int md), .val (.int sm), .val (.int (2 : Int32)), .val (.int (3 : Int32)), .val (.int i_7), .val (.int i_15), .val (.int i_23), .val (.int i_31), .val (.int i_39), .val (.ref a_352), .val (.ref a_574), .val (.int (1 : Int32)), .unset, .unset] [(.int (1 : Int32))])) (fun TT HH tt kk => XS.iload HH hx rfl (hb hby at_243) rfl kk) ?_
            refine k_pure (g' := (mkF m 248 #[.val (.int p0), .val (.int p1), .val (.int k0), .val (.int k1), .val (.int k2), .val (.int md), .val (.int sm), .val (.int (2 : Int32)), .val (.int (3 : Int32)), .val (.int i_7), .val (.int i_15), .val (.int i_23), .val (.int i_31), .val (.int i_39), .val (.ref a_352), .val (.ref a_574), .val (.int (1 : Int32)), .unset, .unset] [])) (fun TT HH tt kk => XS.ifNo HH hx rfl (hb hby at_245) rfl ((if0 _ _).trans (feq (by decide : ¬ ((1 : Int32) = (0 : Int32)))).1) kk) ?_
            refine k_pure (g' := (mkF m 249 #[.val (.int p0), .val (.int p1), .val (.int k0), .val (.int k1), .val (.int k2), .val (.int md), .val (.int sm), .val (.int (2 : Int32)), .val (.int (3 : Int32)), .val (.int i_7), .val (.int i_15), .val (.int i_23), .val (.int i_31), .val (.int i_39), .val (.ref a_352), .val (.ref a_574), .val (.int (1 : Int32)), .unset, .unset] [(.int (1 : Int32))])) (fun TT HH tt kk => XS.iconst HH hx rfl (hb hby at_248) kk) ?_
            exact k_retN hx hlk hret (by simp) (hb hby at_249) (by decide) (by decide) ⟨rfl, rfl, ((((((((((((Keep.refl _ _).ext E_355).ext E_367).wr W_375 (Or.inr (by omega))).wr W_381 (Or.inr (by omega))).trans K_394 (kkS (Or.inr (by omega)) kk0)).ext E_577).ext E_589).wr W_597 (Or.inr (by omega))).wr W_603 (Or.inr (by omega))).wr W_609 (Or.inr (by omega))).trans K_622 (kkS (Or.inr (by omega)) kk0))⟩
          · refine k_pure (g' := (mkF m 240 #[.val (.int p0), .val (.int p1), .val (.int k0), .val (.int k1), .val (.int k2), .val (.int md), .val (.int sm), .val (.int (2 : Int32)), .val (.int (3 : Int32)), .val (.int i_7), .val (.int i_15), .val (.int i_23), .val (.int i_31), .val (.int i_39), .val (.ref a_352), .val (.ref a_574), .unset, .unset, .unset] [])) (fun TT HH tt kk => XS.icmpYes HH hx rfl (pc0 := 233) (pc' := 240) rfl (hb hby at_233) rfl (feq c_669).2 (by decide) (by decide) kk) ?_
            exact J240 (fun q => c_669 (by simp at q; exact q.2))
        · refine k_pure (g' := (mkF m 240 #[.val (.int p0), .val (.int p1), .val (.int k0), .val (.int k1), .val (.int k2), .val (.int md), .val (.int sm), .val (.int (2 : Int32)), .val (.int (3 : Int32)), .val (.int i_7), .val (.int i_15), .val (.int i_23), .val (.int i_31), .val (.int i_39), .val (.ref a_352), .val (.ref a_574), .unset, .unset, .unset] [])) (fun TT HH tt kk => XS.icmpYes HH hx rfl (pc0 := 220) (pc' := 240) rfl (hb hby at_220) rfl (feq c_668).2 (by decide) (by decide) kk) ?_
          exact J240 (fun q => c_668 (by simp at q; exact q.1))
  by_cases c_670 : (md &&& (1 : Int32)) = (0 : Int32)
  · refine k_pure (g' := (mkF m 11 #[.val (.int p0), .val (.int p1), .val (.int k0), .val (.int k1), .val (.int k2), .val (.int md), .unset, .unset, .unset, .unset, .unset, .unset, .unset, .unset, .unset, .unset, .unset, .unset, .unset] [])) (fun TT HH tt kk => XS.ifYes HH hx rfl (pc0 := 4) (pc' := 11) rfl (hb hby at_4) rfl ((if0 _ _).trans (teq c_670).1) (by decide) (by decide) kk) ?_
    refine k_pure (g' := (mkF m 12 #[.val (.int p0), .val (.int p1), .val (.int k0), .val (.int k1), .val (.int k2), .val (.int md), .unset, .unset, .unset, .unset, .unset, .unset, .unset, .unset, .unset, .unset, .unset, .unset, .unset] [(.int (0 : Int32))])) (fun TT HH tt kk => XS.iconst HH hx rfl (hb hby at_11) kk) ?_
    exact J12 _
  · refine k_pure (g' := (mkF m 7 #[.val (.int p0), .val (.int p1), .val (.int k0), .val (.int k1), .val (.int k2), .val (.int md), .unset, .unset, .unset, .unset, .unset, .unset, .unset, .unset, .unset, .unset, .unset, .unset, .unset] [])) (fun TT HH tt kk => XS.ifNo HH hx rfl (hb hby at_4) rfl ((if0 _ _).trans (feq c_670).1) kk) ?_
    refine k_pure (g' := (mkF m 8 #[.val (.int p0), .val (.int p1), .val (.int k0), .val (.int k1), .val (.int k2), .val (.int md), .unset, .unset, .unset, .unset, .unset, .unset, .unset, .unset, .unset, .unset, .unset, .unset, .unset] [(.int (1 : Int32))])) (fun TT HH tt kk => XS.iconst HH hx rfl (hb hby at_7) kk) ?_
    refine k_pure (g' := (mkF m 12 #[.val (.int p0), .val (.int p1), .val (.int k0), .val (.int k1), .val (.int k2), .val (.int md), .unset, .unset, .unset, .unset, .unset, .unset, .unset, .unset, .unset, .unset, .unset, .unset, .unset] [(.int (1 : Int32))])) (fun TT HH tt kk => XS.goto HH hx rfl (pc0 := 8) (pc' := 12) rfl (hb hby at_8) (by decide) (by decide) kk) ?_
    exact J12 _
set_option maxRecDepth 65536 in
set_option maxHeartbeats 40000000 in
theorem comes_1 {Post : Tables → Env → Array Value → State → Outcome → State → Prop} (hpost : ∀ tb e args s v u, (limb_1_1.after args s (.returned v) u = true ∧ limb_1_2.after args s (.returned v) u = true ∧ True) → FramedW s (.returned v) u (Jvm.fieldLocs frame_1_writes args s ++ Jvm.arrayLocs frame_1_arrays args s ++ Jvm.staticLocs frame_1_statics s) 32 3200 → Post tb e args s (.returned v) u) :
    ArmFor flags0 classFile x code maxLocals ret World_1 tables_1 room_1 Calls_1 rest_1 Pre_1 Post := by
  intro l hfl _ _ p e ha hc hk s m args below hf hA hF happ hP
  obtain ⟨hcalls, hrest, hpre⟩ := hP
  obtain ⟨-, -, -, hnamed, -, -, -, hat⟩ := (Spec.applies_iff hf).mp happ
  obtain ⟨hg, hn⟩ := and_e (Cond.before_iff.mp (show (Jvm.Cond.and given_1 narrow_1).before args s = true from hpre))
  obtain ⟨q0, r0⟩ := and_e hg
  obtain ⟨q1, r1⟩ := and_e r0
  obtain ⟨q2, r2⟩ := and_e r1
  obtain ⟨q3, r3⟩ := and_e r2
  obtain ⟨q4, r4⟩ := and_e r3
  obtain ⟨q5, r5⟩ := and_e r4
  obtain ⟨w0, w1, w2, w3, w4, w5, rfl⟩ : ∃ w0 w1 w2 w3 w4 w5 : Value, args = #[w0, w1, w2, w3, w4, w5] := by
    have hs : args.size = 6 := by simpa [Cond.value, given_1] using q0
    obtain ⟨L⟩ := args
    match L, hs with
    | [w0, w1, w2, w3, w4, w5], _ => exact ⟨w0, w1, w2, w3, w4, w5, rfl⟩
  have hw := fun d (hd : d ∈ tables_1) => atoms_spec (ws := Jvm.Cond.code x code maxLocals ret :: tables_1) hat d (List.mem_cons_of_mem _ hd)
  obtain ⟨hsets, hown0⟩ := atoms_of _ (rest_1_c_eq ▸ (show rest_1_c.before _ s = true from hrest))
  obtain ⟨i0, e0⟩ := is_v q1
  obtain rfl : w0 = (.int i0) := Option.some.inj e0
  obtain ⟨i1, e1⟩ := is_v q2
  obtain rfl : w1 = (.int i1) := Option.some.inj e1
  obtain ⟨i2, e2⟩ := is_v q3
  obtain rfl : w2 = (.int i2) := Option.some.inj e2
  obtain ⟨i3, e3⟩ := is_v q4
  obtain rfl : w3 = (.int i3) := Option.some.inj e3
  obtain ⟨i4, e4⟩ := is_v q5
  obtain rfl : w4 = (.int i4) := Option.some.inj e4
  obtain ⟨i5, e5⟩ := is_v r5
  obtain rfl : w5 = (.int i5) := Option.some.inj e5
  obtain ⟨G1, eG1⟩ := is_v (Cond.before_iff.mp (hsets _ (List.mem_of_getElem? (i := 1) rfl)))
  have S1 : Sta s s.heap "java/lang/String" "COMPACT_STRINGS" "Z" (.int G1) := Sta.start eG1 (Or.inl (hsets _ (List.mem_of_getElem? (i := 0) rfl)))
  have P1 : ¬ (G1 = (0 : Int32)) := gotF (Cond.eq_ints eG1 (Term.int_eval (0))) (not_v (Cond.before_iff.mp (hsets _ (List.mem_of_getElem? (i := 2) rfl))))
  obtain ⟨G3, eG3, P3⟩ := isR_v (Cond.before_iff.mp (hsets _ (List.mem_of_getElem? (i := 8) rfl)))
  have S3 : Sta s s.heap "jdk/internal/util/Preconditions" "SIOOBE_FORMATTER" "Ljava/util/function/BiFunction;" G3 := Sta.start eG3 (Or.inl (hsets _ (List.mem_of_getElem? (i := 7) rfl)))
  have hE : EW s #[(.int i0), (.int i1), (.int i2), (.int i3), (.int i4), (.int i5)] EL1 := EW.nil
  have hX : Ctx s _ G1 G3 := ⟨hw, hE, S1, P1, S3, P3⟩
  obtain ⟨n, o, h1, h2, h3, v, L, bk', rfl, ⟨⟨rfl, -⟩, N, -⟩, hq⟩ := rm_law l s _ G1 G3 hX s.heap.size s.heap (Old.start s) i0 i1 i2 i3 i4 i5  tables_1 p e ha hc hk s m _ below hf ((Spec.applies_iff_loose hf).mp happ).1 ⟨rfl, State.Warmed39.refl s, rfl, (fun _ hp => nomatch hp), (fun _ ⟨_, hp, _⟩ => nomatch hp)⟩ trivial
  refine ⟨n, _, h1, h2, h3, hpost _ _ _ _ _ _ ⟨Cond.after_iff.mpr rfl, Cond.after_iff.mpr (eq_i res_at (Term.int_eval (1)) rfl), trivial⟩ ⟨hq.1, hq.2.1, hq.2.2.1, (hq.2.2.2.sift fun y hy => Or.inr (N y hy)).mono (by decide) (by decide)⟩⟩
theorem main_1_1 : Claimed_1_1 := comes_1 fun _ _ _ _ _ _ h hF => ⟨h.1, hF⟩
theorem main_1_2 : Claimed_1_2 := comes_1 fun _ _ _ _ _ _ h hF => ⟨h.2.1, hF⟩
end Jvm.Pilot.@@N@@
namespace Jvm.Pilot.@@N@@
open Jvm Jvm.ClassFile Sem Op Lib Jvm.Free Jvm.Stand Jvm.Pilot.@@N@@.Jvm.D
/-! MADE BY PROGRAM (witnessworld.py) out of the Statement's table words and the real class files: 22 classes; the members and pool entries that the words name. The judged class is class 1, her method 3. -/
namespace start1
open Jvm.ClassFile
def u (s : String) : CpInfo := .utf8 (stringToUtf16 s)
/-- a pool by its gaps: so many unusable entries, then the entry; so many at the end -/
def gap : Nat → List CpInfo → List CpInfo
  | 0, r => r
  | n + 1, r => .unusable :: gap n r
def poolList (es : List (Nat × CpInfo)) (last : Nat) : List CpInfo := es.foldr (fun e r => gap e.1 (e.2 :: r)) (gap last [])
def pool (es : List (Nat × CpInfo)) (last : Nat) : Array CpInfo := ⟨poolList es last⟩
def fileOf (pool : Array CpInfo) (this : Nat) (attrs : Array Attribute := #[]) (ms : Array MethodInfo := #[]) (fl : Nat := 33) (sup : Nat := 0) (ifs : Array Nat := #[]) (fds : Array FieldInfo := #[]) : ClassFile where
  minorVersion := 0
  majorVersion := 65
  constantPool := pool
  accessFlags := fl
  thisClass := this
  superClass := sup
  interfaces := ifs
  fields := fds
  methods := ms
  attributes := attrs
def plain (name : String) (sup : Option ClassId) : Class where
  name := name
  kind := .ordinary
  loader := none
  accessFlags := 33
  super := sup
  interfaces := #[]
  cf := none
  fields := #[]
  methods := #[]
  instanceTypes := #[]
  staticTypes := #[]
  resolved := #[]
  callSites := []
  init := .initialized
  statics := none
  mirror := none

def pool0 : Array CpInfo := pool [(5, u "<init>"), (0, u "()V"), (1, .class_ 10), (1, u "java/lang/Object")] 113

def k0c0 : Code := { maxStack := 0, maxLocals := 1, code := object_method_1_code, exceptionTable := #[], attributes := #[] }
def k0m0 : Method := { name := "<init>", desc := "()V", sig := { parameters := [], returnType := none }, accessFlags := 1, code := some k0c0 }
/-- java/lang/Object -/
def k0 : Class := { plain "java/lang/Object" none with
  accessFlags := 33
  interfaces := #[]
  cf := some (fileOf pool0 8 #[] #[{ accessFlags := 1, nameIndex := 5, descriptorIndex := 6, attributes := #[] }] 33 0 #[] #[])
  fields := #[]
  methods := #[k0m0]
  instanceTypes := #[]
  staticTypes := #[]
  resolved := Array.replicate 124 none
  statics := none }

def pool1 : Array CpInfo := pool [(2, .class_ 4), (1, u "java/lang/Object"), (0, u "<init>"), (0, u "()V"), (0, .methodref 8 9), (0, .class_ 10), (0, .nameAndType 11 12), (0, u "com/example/eirene/eirene/KeySpaceCallerKeyPinLaw"), (0, u "draw"), (0, u "(IZ)C"), (0, .methodref 8 14), (0, .nameAndType 15 12), (0, u "prefixChar"), (0, .class_ 17), (0, u "java/lang/String"), (0, .methodref 16 19), (0, .nameAndType 5 20), (0, u "([C)V"), (0, .class_ 22), (0, u "com/example/eirene/eirene/KeySpace"), (0, .methodref 21 24), (0, .nameAndType 5 25), (0, u "(Ljava/lang/String;)V"), (0, .methodref 21 27), (0, .nameAndType 28 29), (0, u "callerKey"), (0, u "(Ljava/lang/String;)Ljava/lang/String;"), (0, .methodref 16 31), (0, .nameAndType 32 33), (0, u "equals"), (0, u "(Ljava/lang/Object;)Z"), (3, u "law"), (0, u "(IIIIII)Z")] 2

def k1m0 : Method := { name := "<init>", desc := "()V", sig := { parameters := [], returnType := none }, accessFlags := 1, code := none }
def k1c1 : Code := { maxStack := 3, maxLocals := 2, code := method_2_code, exceptionTable := #[], attributes := #[] }
def k1m1 : Method := { name := "draw", desc := "(IZ)C", sig := { parameters := [.int, .boolean], returnType := some .char }, accessFlags := 10, code := some k1c1 }
def k1c2 : Code := { maxStack := 2, maxLocals := 3, code := method_3_code, exceptionTable := #[], attributes := #[] }
def k1m2 : Method := { name := "prefixChar", desc := "(IZ)C", sig := { parameters := [.int, .boolean], returnType := some .char }, accessFlags := 10, code := some k1c2 }
def k1c3 : Code := { maxStack := 6, maxLocals := 19, code := code, exceptionTable := #[], attributes := #[] }
def k1m3 : Method := { name := "law", desc := "(IIIIII)Z", sig := { parameters := [.int, .int, .int, .int, .int, .int], returnType := some .boolean }, accessFlags := 9, code := some k1c3 }
/-- com/example/eirene/eirene/KeySpaceCallerKeyPinLaw -/
def k1 : Class := { plain "com/example/eirene/eirene/KeySpaceCallerKeyPinLaw" (some 0) with
  accessFlags := 49
  interfaces := #[]
  cf := some (fileOf pool1 8 #[] #[{ accessFlags := 1, nameIndex := 5, descriptorIndex := 6, attributes := #[] }, { accessFlags := 10, nameIndex := 11, descriptorIndex := 12, attributes := #[] }, { accessFlags := 10, nameIndex := 15, descriptorIndex := 12, attributes := #[] }, { accessFlags := 9, nameIndex := 37, descriptorIndex := 38, attributes := #[] }] 49 2 #[] #[])
  fields := #[]
  methods := #[k1m0, k1m1, k1m2, k1m3]
  instanceTypes := #[]
  staticTypes := #[]
  resolved := Array.replicate 41 none
  statics := none }

def pool2 : Array CpInfo := pool [(1, .class_ 2), (0, u "java/io/Serializable"), (0, .class_ 4), (0, u "java/lang/Object")] 2

/-- java/io/Serializable -/
def k2 : Class := { plain "java/io/Serializable" (some 0) with
  accessFlags := 1537
  interfaces := #[]
  cf := some (fileOf pool2 1 #[] #[] 1537 3 #[] #[])
  fields := #[]
  methods := #[]
  instanceTypes := #[]
  staticTypes := #[]
  resolved := Array.replicate 7 none
  statics := none }

def pool3 : Array CpInfo := pool [(1, .class_ 2), (0, u "java/lang/Comparable"), (0, .class_ 4), (0, u "java/lang/Object")] 7

/-- java/lang/Comparable -/
def k3 : Class := { plain "java/lang/Comparable" (some 0) with
  accessFlags := 1537
  interfaces := #[]
  cf := some (fileOf pool3 1 #[] #[] 1537 3 #[] #[])
  fields := #[]
  methods := #[]
  instanceTypes := #[]
  staticTypes := #[]
  resolved := Array.replicate 12 none
  statics := none }

def pool4 : Array CpInfo := pool [(2, .class_ 4), (1, u "java/lang/CharSequence"), (42, .class_ 48), (0, u "java/lang/CharSequence$1CodePointIterator"), (10, .class_ 60), (0, u "java/lang/CharSequence$1CharIterator"), (5, .class_ 67), (0, u "java/lang/Object")] 63

/-- java/lang/CharSequence -/
def k4 : Class := { plain "java/lang/CharSequence" (some 0) with
  accessFlags := 1537
  interfaces := #[]
  cf := some (fileOf pool4 2 #[.nestMembers #[47, 59]] #[] 1537 66 #[] #[])
  fields := #[]
  methods := #[]
  instanceTypes := #[]
  staticTypes := #[]
  resolved := Array.replicate 131 none
  statics := none }

def pool5 : Array CpInfo := pool [(1, .class_ 2), (0, u "java/lang/constant/Constable"), (0, .class_ 4), (0, u "java/lang/Object")] 6

/-- java/lang/constant/Constable -/
def k5 : Class := { plain "java/lang/constant/Constable" (some 0) with
  accessFlags := 1537
  interfaces := #[]
  cf := some (fileOf pool5 1 #[] #[] 1537 3 #[] #[])
  fields := #[]
  methods := #[]
  instanceTypes := #[]
  staticTypes := #[]
  resolved := Array.replicate 11 none
  statics := none }

def pool6 : Array CpInfo := pool [(1, .class_ 2), (0, u "java/lang/constant/ConstantDesc"), (0, .class_ 4), (0, u "java/lang/Object")] 32

/-- java/lang/constant/ConstantDesc -/
def k6 : Class := { plain "java/lang/constant/ConstantDesc" (some 0) with
  accessFlags := 1537
  interfaces := #[]
  cf := some (fileOf pool6 1 #[] #[] 1537 3 #[] #[])
  fields := #[]
  methods := #[]
  instanceTypes := #[]
  staticTypes := #[]
  resolved := Array.replicate 37 none
  statics := none }

def pool7 : Array CpInfo := pool [(1, .methodref 2 3), (0, .class_ 4), (0, .nameAndType 5 6), (0, u "java/lang/Object"), (0, u "<init>"), (0, u "()V"), (2, .fieldref 10 11), (0, .class_ 12), (0, .nameAndType 13 14), (0, u "java/lang/String"), (0, u "value"), (0, u "[B"), (0, .fieldref 10 16), (0, .nameAndType 17 18), (0, u "coder"), (0, u "B"), (2, u "hash"), (0, u "I"), (2, u "hashIsZero"), (0, u "Z"), (0, .methodref 10 28), (0, .nameAndType 5 29), (0, u "([CIILjava/lang/Void;)V"), (8, .fieldref 10 39), (0, .nameAndType 40 26), (0, u "COMPACT_STRINGS"), (1, .class_ 44), (1, u "java/lang/StringUTF16"), (0, u "compress"), (1, .methodref 42 48), (0, .nameAndType 49 50), (0, u "coderFromArrayLen"), (0, u "([BI)B"), (56, .class_ 109), (1, u "java/lang/StringLatin1"), (32, u "()Z"), (34, .methodref 42 178), (0, .nameAndType 45 179), (0, u "([CII)[B"), (154, u "()I"), (0, .methodref 10 336), (0, .nameAndType 17 337), (0, u "()B"), (25, u "([BI)C"), (12, u "([BI[BII)I"), (14, u "(II)V"), (35, u "(I)C"), (64, .methodref 10 493), (0, .nameAndType 494 142), (0, u "isLatin1"), (0, .methodref 107 496), (0, .nameAndType 497 363), (0, u "charAt"), (3, u "checkIndex"), (3, .methodref 10 506), (0, .nameAndType 507 334), (0, u "length"), (35, u "equals"), (15, .class_ 561), (1, u "jdk/internal/util/ArraysSupport"), (0, u "mismatch"), (10, u "(Ljava/lang/Object;)Z"), (1, .class_ 576), (0, u "java/lang/CharSequence"), (22, u "CASE_INSENSITIVE_ORDER"), (0, u "Ljava/util/Comparator;"), (6, .methodref 559 608), (0, .nameAndType 562 376), (15, .methodref 10 625), (0, .nameAndType 626 627), (0, u "startsWith"), (0, u "(Ljava/lang/String;I)Z"), (5, .methodref 10 634), (0, .nameAndType 635 636), (0, u "indexOf"), (0, u "(II)I"), (0, .methodref 107 638), (0, .nameAndType 635 639), (0, u "([BIII)I"), (52, u "isEmpty"), (72, u "(I)I"), (244, u "([C)V"), (42, .fieldref 1054 1055), (0, .class_ 1056), (0, .nameAndType 1057 1058), (0, u "jdk/internal/util/Preconditions"), (0, u "SIOOBE_FORMATTER"), (0, u "Ljava/util/function/BiFunction;"), (0, .methodref 1054 1060), (0, .nameAndType 501 1061), (0, u "(IILjava/util/function/BiFunction;)I"), (39, u "serialPersistentFields"), (0, u "[Ljava/io/ObjectStreamField;"), (0, .class_ 1104), (0, u "java/lang/String$CaseInsensitiveComparator"), (1, .class_ 1107), (0, u "java/io/Serializable"), (0, .class_ 1109), (0, u "java/lang/Comparable"), (0, .class_ 1111), (0, u "java/lang/constant/Constable"), (0, .class_ 1113), (0, u "java/lang/constant/ConstantDesc"), (2, u "serialVersionUID"), (0, u "J"), (3, u "REPL"), (0, u "C"), (2, u "LATIN1"), (1, u "UTF16"), (129, u "(Ljava/lang/String;)Z")] 193

def k7m0 : Method := { name := "<init>", desc := "()V", sig := { parameters := [], returnType := none }, accessFlags := 1, code := none }
def k7c1 : Code := { maxStack := 5, maxLocals := 2, code := jdk_42_method_3_code, exceptionTable := #[], attributes := #[] }
def k7m1 : Method := { name := "<init>", desc := "([C)V", sig := { parameters := [(.array .char)], returnType := none }, accessFlags := 1, code := some k7c1 }
def k7c2 : Code := { maxStack := 2, maxLocals := 1, code := jdk_42_method_54_code, exceptionTable := #[], attributes := #[] }
def k7m2 : Method := { name := "length", desc := "()I", sig := { parameters := [], returnType := some .int }, accessFlags := 1, code := some k7c2 }
def k7c3 : Code := { maxStack := 1, maxLocals := 1, code := jdk_42_method_55_code, exceptionTable := #[], attributes := #[] }
def k7m3 : Method := { name := "isEmpty", desc := "()Z", sig := { parameters := [], returnType := some .boolean }, accessFlags := 1, code := some k7c3 }
def k7c4 : Code := { maxStack := 2, maxLocals := 2, code := jdk_42_method_56_code, exceptionTable := #[], attributes := #[] }
def k7m4 : Method := { name := "charAt", desc := "(I)C", sig := { parameters := [.int], returnType := some .char }, accessFlags := 1, code := some k7c4 }
def k7c5 : Code := { maxStack := 2, maxLocals := 3, code := jdk_42_method_66_code, exceptionTable := #[], attributes := #[] }
def k7m5 : Method := { name := "equals", desc := "(Ljava/lang/Object;)Z", sig := { parameters := [(.object "java/lang/Object")], returnType := some .boolean }, accessFlags := 1, code := some k7c5 }
def k7c6 : Code := { maxStack := 5, maxLocals := 8, code := jdk_42_method_75_code, exceptionTable := #[], attributes := #[] }
def k7m6 : Method := { name := "startsWith", desc := "(Ljava/lang/String;I)Z", sig := { parameters := [(.object "java/lang/String"), .int], returnType := some .boolean }, accessFlags := 1, code := some k7c6 }
def k7c7 : Code := { maxStack := 3, maxLocals := 2, code := jdk_42_method_76_code, exceptionTable := #[], attributes := #[] }
def k7m7 : Method := { name := "startsWith", desc := "(Ljava/lang/String;)Z", sig := { parameters := [(.object "java/lang/String")], returnType := some .boolean }, accessFlags := 1, code := some k7c7 }
def k7c8 : Code := { maxStack := 3, maxLocals := 2, code := jdk_42_method_79_code, exceptionTable := #[], attributes := #[] }
def k7m8 : Method := { name := "indexOf", desc := "(I)I", sig := { parameters := [.int], returnType := some .int }, accessFlags := 1, code := some k7c8 }
def k7c9 : Code := { maxStack := 4, maxLocals := 3, code := jdk_42_method_80_code, exceptionTable := #[], attributes := #[] }
def k7m9 : Method := { name := "indexOf", desc := "(II)I", sig := { parameters := [.int, .int], returnType := some .int }, accessFlags := 1, code := some k7c9 }
def k7c10 : Code := { maxStack := 4, maxLocals := 6, code := jdk_42_method_149_code, exceptionTable := #[], attributes := #[] }
def k7m10 : Method := { name := "<init>", desc := "([CIILjava/lang/Void;)V", sig := { parameters := [(.array .char), .int, .int, (.object "java/lang/Void")], returnType := none }, accessFlags := 2, code := some k7c10 }
def k7c11 : Code := { maxStack := 1, maxLocals := 1, code := jdk_42_method_152_code, exceptionTable := #[], attributes := #[] }
def k7m11 : Method := { name := "coder", desc := "()B", sig := { parameters := [], returnType := some .byte }, accessFlags := 0, code := some k7c11 }
def k7c12 : Code := { maxStack := 1, maxLocals := 1, code := jdk_42_method_154_code, exceptionTable := #[], attributes := #[] }
def k7m12 : Method := { name := "isLatin1", desc := "()Z", sig := { parameters := [], returnType := some .boolean }, accessFlags := 0, code := some k7c12 }
def k7c13 : Code := { maxStack := 3, maxLocals := 2, code := jdk_42_method_155_code, exceptionTable := #[], attributes := #[] }
def k7m13 : Method := { name := "checkIndex", desc := "(II)V", sig := { parameters := [.int, .int], returnType := none }, accessFlags := 8, code := some k7c13 }
/-- java/lang/String -/
def k7 : Class := { plain "java/lang/String" (some 0) with
  accessFlags := 49
  interfaces := #[2, 3, 4, 5, 6]
  cf := some (fileOf pool7 10 #[.nestMembers #[1103]] #[{ accessFlags := 1, nameIndex := 5, descriptorIndex := 6, attributes := #[] }, { accessFlags := 1, nameIndex := 5, descriptorIndex := 1010, attributes := #[] }, { accessFlags := 1, nameIndex := 507, descriptorIndex := 334, attributes := #[] }, { accessFlags := 1, nameIndex := 692, descriptorIndex := 142, attributes := #[] }, { accessFlags := 1, nameIndex := 497, descriptorIndex := 427, attributes := #[] }, { accessFlags := 1, nameIndex := 543, descriptorIndex := 573, attributes := #[] }, { accessFlags := 1, nameIndex := 626, descriptorIndex := 627, attributes := #[] }, { accessFlags := 1, nameIndex := 626, descriptorIndex := 1257, attributes := #[] }, { accessFlags := 1, nameIndex := 635, descriptorIndex := 765, attributes := #[] }, { accessFlags := 1, nameIndex := 635, descriptorIndex := 636, attributes := #[] }, { accessFlags := 2, nameIndex := 5, descriptorIndex := 29, attributes := #[] }, { accessFlags := 0, nameIndex := 17, descriptorIndex := 337, attributes := #[] }, { accessFlags := 0, nameIndex := 494, descriptorIndex := 142, attributes := #[] }, { accessFlags := 8, nameIndex := 501, descriptorIndex := 391, attributes := #[] }] 49 2 #[1106, 1108, 575, 1110, 1112] #[{ accessFlags := 18, nameIndex := 13, descriptorIndex := 14, attributes := #[] }, { accessFlags := 18, nameIndex := 17, descriptorIndex := 18, attributes := #[] }, { accessFlags := 2, nameIndex := 21, descriptorIndex := 22, attributes := #[] }, { accessFlags := 2, nameIndex := 25, descriptorIndex := 26, attributes := #[] }, { accessFlags := 26, nameIndex := 1116, descriptorIndex := 1117, attributes := #[] }, { accessFlags := 24, nameIndex := 40, descriptorIndex := 26, attributes := #[] }, { accessFlags := 26, nameIndex := 1101, descriptorIndex := 1102, attributes := #[] }, { accessFlags := 26, nameIndex := 1121, descriptorIndex := 1122, attributes := #[] }, { accessFlags := 25, nameIndex := 599, descriptorIndex := 600, attributes := #[] }, { accessFlags := 24, nameIndex := 1125, descriptorIndex := 18, attributes := #[] }, { accessFlags := 24, nameIndex := 1127, descriptorIndex := 18, attributes := #[] }])
  fields := #[{ name := "value", type := (.array .byte), accessFlags := 18, slot := 0, constantValue := 0 }, { name := "coder", type := .byte, accessFlags := 18, slot := 1, constantValue := 0 }, { name := "hash", type := .int, accessFlags := 2, slot := 2, constantValue := 0 }, { name := "hashIsZero", type := .boolean, accessFlags := 2, slot := 3, constantValue := 0 }, { name := "serialVersionUID", type := .long, accessFlags := 26, slot := 0, constantValue := 0 }, { name := "COMPACT_STRINGS", type := .boolean, accessFlags := 24, slot := 1, constantValue := 0 }, { name := "serialPersistentFields", type := (.array (.object "java/io/ObjectStreamField")), accessFlags := 26, slot := 2, constantValue := 0 }, { name := "REPL", type := .char, accessFlags := 26, slot := 3, constantValue := 0 }, { name := "CASE_INSENSITIVE_ORDER", type := (.object "java/util/Comparator"), accessFlags := 25, slot := 4, constantValue := 0 }, { name := "LATIN1", type := .byte, accessFlags := 24, slot := 5, constantValue := 0 }, { name := "UTF16", type := .byte, accessFlags := 24, slot := 6, constantValue := 0 }]
  methods := #[k7m0, k7m1, k7m2, k7m3, k7m4, k7m5, k7m6, k7m7, k7m8, k7m9, k7m10, k7m11, k7m12, k7m13]
  instanceTypes := #[(.array .byte), .byte, .int, .boolean]
  staticTypes := #[.long, .boolean, (.array (.object "java/io/ObjectStreamField")), .char, (.object "java/util/Comparator"), .byte, .byte]
  resolved := Array.replicate 1451 none
  statics := some 0 }

def pool8 : Array CpInfo := pool [(6, .class_ 8), (1, u "java/lang/Object"), (0, u "<init>"), (0, u "()V"), (1, .class_ 14), (1, u "java/lang/StringUTF16"), (31, u "$assertionsDisabled"), (0, u "Z"), (13, u "HI_BYTE_SHIFT"), (0, u "I"), (2, u "LO_BYTE_SHIFT"), (49, .methodref 12 116), (0, .nameAndType 117 118), (0, u "compress"), (0, u "([CI[BII)I"), (3, u "([CII)[B"), (138, u "coderFromArrayLen"), (0, u "([BI)B"), (106, .class_ 371), (1, u "java/lang/StringUTF16$LinesSpliterator"), (58, u "MAX_LENGTH"), (196, .class_ 628), (0, u "java/lang/StringUTF16$CodePointsSpliterator"), (0, .class_ 630), (0, u "java/lang/StringUTF16$CharsSpliterator")] 4

def k8m0 : Method := { name := "<init>", desc := "()V", sig := { parameters := [], returnType := none }, accessFlags := 0, code := none }
def k8c1 : Code := { maxStack := 2, maxLocals := 2, code := jdk_52_method_15_code, exceptionTable := #[], attributes := #[] }
def k8m1 : Method := { name := "coderFromArrayLen", desc := "([BI)B", sig := { parameters := [(.array .byte), .int], returnType := some .byte }, accessFlags := 8, code := some k8c1 }
def k8c2 : Code := { maxStack := 5, maxLocals := 6, code := jdk_52_method_16_code, exceptionTable := #[], attributes := #[] }
def k8m2 : Method := { name := "compress", desc := "([CII)[B", sig := { parameters := [(.array .char), .int, .int], returnType := some (.array .byte) }, accessFlags := 9, code := some k8c2 }
def k8c3 : Code := { maxStack := 3, maxLocals := 7, code := jdk_52_method_21_code, exceptionTable := #[], attributes := #[] }
def k8m3 : Method := { name := "compress", desc := "([CI[BII)I", sig := { parameters := [(.array .char), .int, (.array .byte), .int, .int], returnType := some .int }, accessFlags := 9, code := some k8c3 }
/-- java/lang/StringUTF16 -/
def k8 : Class := { plain "java/lang/StringUTF16" (some 0) with
  accessFlags := 48
  interfaces := #[]
  cf := some (fileOf pool8 12 #[.nestMembers #[627, 629, 369]] #[{ accessFlags := 0, nameIndex := 9, descriptorIndex := 10, attributes := #[] }, { accessFlags := 8, nameIndex := 261, descriptorIndex := 262, attributes := #[] }, { accessFlags := 9, nameIndex := 117, descriptorIndex := 122, attributes := #[] }, { accessFlags := 9, nameIndex := 117, descriptorIndex := 118, attributes := #[] }] 48 6 #[] #[{ accessFlags := 26, nameIndex := 61, descriptorIndex := 62, attributes := #[] }, { accessFlags := 26, nameIndex := 65, descriptorIndex := 62, attributes := #[] }, { accessFlags := 24, nameIndex := 430, descriptorIndex := 62, attributes := #[] }, { accessFlags := 4120, nameIndex := 46, descriptorIndex := 47, attributes := #[] }])
  fields := #[{ name := "HI_BYTE_SHIFT", type := .int, accessFlags := 26, slot := 0, constantValue := 0 }, { name := "LO_BYTE_SHIFT", type := .int, accessFlags := 26, slot := 1, constantValue := 0 }, { name := "MAX_LENGTH", type := .int, accessFlags := 24, slot := 2, constantValue := 0 }, { name := "$assertionsDisabled", type := .boolean, accessFlags := 4120, slot := 3, constantValue := 0 }]
  methods := #[k8m0, k8m1, k8m2, k8m3]
  instanceTypes := #[]
  staticTypes := #[.int, .int, .int, .boolean]
  resolved := Array.replicate 635 none
  statics := none }

def pool9 : Array CpInfo := pool [(1, .methodref 2 3), (0, .class_ 4), (0, .nameAndType 5 6), (0, u "java/lang/Object"), (0, u "<init>"), (0, u "()V"), (0, .string 8), (0, u "prefix"), (0, .methodref 10 11), (0, .class_ 12), (0, .nameAndType 13 14), (0, u "java/util/Objects"), (0, u "requireNonNull"), (0, u "(Ljava/lang/Object;Ljava/lang/String;)Ljava/lang/Object;"), (0, .methodref 16 17), (0, .class_ 18), (0, .nameAndType 19 20), (0, u "java/lang/String"), (0, u "isEmpty"), (0, u "()Z"), (6, u "(Ljava/lang/String;)V"), (0, .methodref 16 29), (0, .nameAndType 30 31), (0, u "indexOf"), (0, u "(I)I"), (3, u "(Ljava/lang/String;)Ljava/lang/String;"), (0, .string 37), (0, u "The key prefix"), (0, .methodref 39 40), (0, .class_ 41), (0, .nameAndType 42 43), (0, u "com/example/eirene/eirene/KeySpace"), (0, u "utf8Length"), (0, u "(Ljava/lang/String;Ljava/lang/String;)I"), (0, .fieldref 39 45), (0, .nameAndType 8 46), (0, u "Ljava/lang/String;"), (4, u "key"), (7, .string 51), (2, .methodref 16 63), (0, .nameAndType 64 65), (0, u "startsWith"), (0, u "(Ljava/lang/String;)Z"), (15, .methodref 16 82), (0, .nameAndType 83 84), (0, u "length"), (0, u "()I"), (0, .methodref 16 86), (0, .nameAndType 87 88), (0, u "charAt"), (0, u "(I)C"), (13, u "DEFAULT_PREFIX"), (3, u "MAX_NAME_BYTES"), (0, u "I"), (8, u "callerKey")] 27

def k9c0 : Code := { maxStack := 3, maxLocals := 2, code := prog_4_method_1_code, exceptionTable := #[], attributes := #[] }
def k9m0 : Method := { name := "<init>", desc := "(Ljava/lang/String;)V", sig := { parameters := [(.object "java/lang/String")], returnType := none }, accessFlags := 0, code := some k9c0 }
def k9c1 : Code := { maxStack := 4, maxLocals := 2, code := prog_4_method_6_code, exceptionTable := #[], attributes := #[] }
def k9m1 : Method := { name := "callerKey", desc := "(Ljava/lang/String;)Ljava/lang/String;", sig := { parameters := [(.object "java/lang/String")], returnType := some (.object "java/lang/String") }, accessFlags := 0, code := some k9c1 }
def k9c2 : Code := { maxStack := 4, maxLocals := 5, code := prog_4_method_9_code, exceptionTable := #[], attributes := #[] }
def k9m2 : Method := { name := "utf8Length", desc := "(Ljava/lang/String;Ljava/lang/String;)I", sig := { parameters := [(.object "java/lang/String"), (.object "java/lang/String")], returnType := some .int }, accessFlags := 10, code := some k9c2 }
/-- com/example/eirene/eirene/KeySpace -/
def k9 : Class := { plain "com/example/eirene/eirene/KeySpace" (some 0) with
  accessFlags := 32
  interfaces := #[]
  cf := some (fileOf pool9 39 #[] #[{ accessFlags := 0, nameIndex := 5, descriptorIndex := 27, attributes := #[] }, { accessFlags := 0, nameIndex := 116, descriptorIndex := 35, attributes := #[] }, { accessFlags := 10, nameIndex := 42, descriptorIndex := 43, attributes := #[] }] 32 2 #[] #[{ accessFlags := 24, nameIndex := 102, descriptorIndex := 46, attributes := #[] }, { accessFlags := 24, nameIndex := 106, descriptorIndex := 107, attributes := #[] }, { accessFlags := 18, nameIndex := 8, descriptorIndex := 46, attributes := #[] }])
  fields := #[{ name := "DEFAULT_PREFIX", type := (.object "java/lang/String"), accessFlags := 24, slot := 0, constantValue := 0 }, { name := "MAX_NAME_BYTES", type := .int, accessFlags := 24, slot := 1, constantValue := 0 }, { name := "prefix", type := (.object "java/lang/String"), accessFlags := 18, slot := 0, constantValue := 0 }]
  methods := #[k9m0, k9m1, k9m2]
  instanceTypes := #[(.object "java/lang/String")]
  staticTypes := #[(.object "java/lang/String"), .int]
  resolved := Array.replicate 144 none
  statics := none }

def pool10 : Array CpInfo := pool [(2, .class_ 4), (1, u "java/lang/Object"), (0, u "<init>"), (0, u "()V"), (35, .class_ 44), (1, u "java/util/Objects"), (0, u "requireNonNull"), (48, u "(Ljava/lang/Object;Ljava/lang/String;)Ljava/lang/Object;")] 89

def k10m0 : Method := { name := "<init>", desc := "()V", sig := { parameters := [], returnType := none }, accessFlags := 2, code := none }
def k10c1 : Code := { maxStack := 3, maxLocals := 2, code := jdk_31_method_11_code, exceptionTable := #[], attributes := #[] }
def k10m1 : Method := { name := "requireNonNull", desc := "(Ljava/lang/Object;Ljava/lang/String;)Ljava/lang/Object;", sig := { parameters := [(.object "java/lang/Object"), (.object "java/lang/String")], returnType := some (.object "java/lang/Object") }, accessFlags := 9, code := some k10c1 }
/-- java/util/Objects -/
def k10 : Class := { plain "java/util/Objects" (some 0) with
  accessFlags := 49
  interfaces := #[]
  cf := some (fileOf pool10 42 #[] #[{ accessFlags := 2, nameIndex := 5, descriptorIndex := 6, attributes := #[] }, { accessFlags := 9, nameIndex := 45, descriptorIndex := 94, attributes := #[] }] 49 2 #[] #[])
  fields := #[]
  methods := #[k10m0, k10m1]
  instanceTypes := #[]
  staticTypes := #[]
  resolved := Array.replicate 184 none
  statics := none }

def pool11 : Array CpInfo := pool [(1, .class_ 2), (0, u "java/lang/String"), (1, .class_ 6), (1, u "java/lang/Object"), (0, u "<init>"), (0, u "()V"), (0, .methodref 1 10), (0, .nameAndType 11 12), (0, u "checkIndex"), (0, u "(II)V"), (1, .class_ 16), (1, u "java/lang/StringLatin1"), (21, .methodref 39 40), (0, .class_ 41), (0, .nameAndType 42 43), (0, u "java/lang/Math"), (0, u "min"), (0, u "(II)I"), (9, u "([BI)C"), (34, .methodref 14 89), (0, .nameAndType 90 91), (0, u "canEncode"), (0, u "(I)Z"), (0, .methodref 39 93), (0, .nameAndType 94 43), (0, u "max"), (0, .methodref 14 96), (0, .nameAndType 97 98), (0, u "indexOfChar"), (0, u "([BIII)I"), (2, u "indexOf"), (19, u "$assertionsDisabled"), (0, u "Z"), (98, .class_ 223), (1, u "java/lang/StringLatin1$LinesSpliterator"), (28, u "charAt"), (137, .class_ 391), (0, u "java/lang/StringLatin1$CharsSpliterator")] 3

def k11m0 : Method := { name := "<init>", desc := "()V", sig := { parameters := [], returnType := none }, accessFlags := 0, code := none }
def k11c1 : Code := { maxStack := 2, maxLocals := 2, code := jdk_43_method_2_code, exceptionTable := #[], attributes := #[] }
def k11m1 : Method := { name := "charAt", desc := "([BI)C", sig := { parameters := [(.array .byte), .int], returnType := some .char }, accessFlags := 9, code := some k11c1 }
def k11c2 : Code := { maxStack := 2, maxLocals := 1, code := jdk_43_method_4_code, exceptionTable := #[], attributes := #[] }
def k11m2 : Method := { name := "canEncode", desc := "(I)Z", sig := { parameters := [.int], returnType := some .boolean }, accessFlags := 9, code := some k11c2 }
def k11c3 : Code := { maxStack := 4, maxLocals := 4, code := jdk_43_method_22_code, exceptionTable := #[], attributes := #[] }
def k11m3 : Method := { name := "indexOf", desc := "([BIII)I", sig := { parameters := [(.array .byte), .int, .int, .int], returnType := some .int }, accessFlags := 9, code := some k11c3 }
def k11c4 : Code := { maxStack := 2, maxLocals := 6, code := jdk_43_method_23_code, exceptionTable := #[], attributes := #[] }
def k11m4 : Method := { name := "indexOfChar", desc := "([BIII)I", sig := { parameters := [(.array .byte), .int, .int, .int], returnType := some .int }, accessFlags := 10, code := some k11c4 }
/-- java/lang/StringLatin1 -/
def k11 : Class := { plain "java/lang/StringLatin1" (some 0) with
  accessFlags := 48
  interfaces := #[]
  cf := some (fileOf pool11 14 #[.nestMembers #[390, 221]] #[{ accessFlags := 0, nameIndex := 7, descriptorIndex := 8, attributes := #[] }, { accessFlags := 9, nameIndex := 252, descriptorIndex := 53, attributes := #[] }, { accessFlags := 9, nameIndex := 90, descriptorIndex := 91, attributes := #[] }, { accessFlags := 9, nameIndex := 101, descriptorIndex := 98, attributes := #[] }, { accessFlags := 10, nameIndex := 97, descriptorIndex := 98, attributes := #[] }] 48 4 #[] #[{ accessFlags := 4120, nameIndex := 121, descriptorIndex := 122, attributes := #[] }])
  fields := #[{ name := "$assertionsDisabled", type := .boolean, accessFlags := 4120, slot := 0, constantValue := 0 }]
  methods := #[k11m0, k11m1, k11m2, k11m3, k11m4]
  instanceTypes := #[]
  staticTypes := #[.boolean]
  resolved := Array.replicate 395 none
  statics := none }

def pool12 : Array CpInfo := pool [(1, .class_ 2), (0, u "java/lang/Math"), (1, .class_ 6), (1, u "java/lang/Object"), (0, u "<init>"), (0, u "()V"), (89, .class_ 100), (1, u "java/lang/Math$RandomNumberGeneratorHolder"), (71, u "negativeZeroFloatBits"), (0, u "J"), (2, u "negativeZeroDoubleBits"), (21, u "max"), (2, u "min"), (43, u "$assertionsDisabled"), (0, u "Z"), (88, u "(II)I"), (2, u "twoToTheDoubleScaleDown"), (0, u "D"), (4, u "twoToTheDoubleScaleUp"), (9, u "E"), (3, u "PI"), (2, u "TAU"), (2, u "DEGREES_TO_RADIANS"), (0, u "RADIANS_TO_DEGREES")] 94

def k12m0 : Method := { name := "<init>", desc := "()V", sig := { parameters := [], returnType := none }, accessFlags := 2, code := none }
def k12c1 : Code := { maxStack := 2, maxLocals := 2, code := jdk_29_method_65_code, exceptionTable := #[], attributes := #[] }
def k12m1 : Method := { name := "max", desc := "(II)I", sig := { parameters := [.int, .int], returnType := some .int }, accessFlags := 9, code := some k12c1 }
def k12c2 : Code := { maxStack := 2, maxLocals := 2, code := jdk_29_method_69_code, exceptionTable := #[], attributes := #[] }
def k12m2 : Method := { name := "min", desc := "(II)I", sig := { parameters := [.int, .int], returnType := some .int }, accessFlags := 9, code := some k12c2 }
/-- java/lang/Math -/
def k12 : Class := { plain "java/lang/Math" (some 0) with
  accessFlags := 49
  interfaces := #[]
  cf := some (fileOf pool12 1 #[.nestMembers #[98]] #[{ accessFlags := 2, nameIndex := 7, descriptorIndex := 8, attributes := #[] }, { accessFlags := 9, nameIndex := 198, descriptorIndex := 335, attributes := #[] }, { accessFlags := 9, nameIndex := 201, descriptorIndex := 335, attributes := #[] }] 49 4 #[] #[{ accessFlags := 25, nameIndex := 354, descriptorIndex := 339, attributes := #[] }, { accessFlags := 25, nameIndex := 358, descriptorIndex := 339, attributes := #[] }, { accessFlags := 25, nameIndex := 361, descriptorIndex := 339, attributes := #[] }, { accessFlags := 26, nameIndex := 364, descriptorIndex := 339, attributes := #[] }, { accessFlags := 26, nameIndex := 365, descriptorIndex := 339, attributes := #[] }, { accessFlags := 26, nameIndex := 172, descriptorIndex := 173, attributes := #[] }, { accessFlags := 26, nameIndex := 176, descriptorIndex := 173, attributes := #[] }, { accessFlags := 8, nameIndex := 344, descriptorIndex := 339, attributes := #[] }, { accessFlags := 8, nameIndex := 338, descriptorIndex := 339, attributes := #[] }, { accessFlags := 4120, nameIndex := 245, descriptorIndex := 246, attributes := #[] }])
  fields := #[{ name := "E", type := .double, accessFlags := 25, slot := 0, constantValue := 0 }, { name := "PI", type := .double, accessFlags := 25, slot := 1, constantValue := 0 }, { name := "TAU", type := .double, accessFlags := 25, slot := 2, constantValue := 0 }, { name := "DEGREES_TO_RADIANS", type := .double, accessFlags := 26, slot := 3, constantValue := 0 }, { name := "RADIANS_TO_DEGREES", type := .double, accessFlags := 26, slot := 4, constantValue := 0 }, { name := "negativeZeroFloatBits", type := .long, accessFlags := 26, slot := 5, constantValue := 0 }, { name := "negativeZeroDoubleBits", type := .long, accessFlags := 26, slot := 6, constantValue := 0 }, { name := "twoToTheDoubleScaleUp", type := .double, accessFlags := 8, slot := 7, constantValue := 0 }, { name := "twoToTheDoubleScaleDown", type := .double, accessFlags := 8, slot := 8, constantValue := 0 }, { name := "$assertionsDisabled", type := .boolean, accessFlags := 4120, slot := 9, constantValue := 0 }]
  methods := #[k12m0, k12m1, k12m2]
  instanceTypes := #[]
  staticTypes := #[.double, .double, .double, .double, .double, .long, .long, .double, .double, .boolean]
  resolved := Array.replicate 460 none
  statics := none }

def pool13 : Array CpInfo := pool [(2, .class_ 4), (1, u "java/lang/Object"), (0, u "<init>"), (0, u "()V"), (17, .class_ 26), (1, u "jdk/internal/util/Preconditions"), (6, u "checkIndex"), (21, .class_ 56), (0, u "jdk/internal/util/Preconditions$4"), (57, .class_ 115), (0, u "jdk/internal/util/Preconditions$1"), (7, u "SIOOBE_FORMATTER"), (0, u "Ljava/util/function/BiFunction;"), (0, .class_ 126), (0, u "jdk/internal/util/Preconditions$2"), (3, u "AIOOBE_FORMATTER"), (0, .class_ 132), (0, u "jdk/internal/util/Preconditions$3"), (3, u "IOOBE_FORMATTER"), (41, u "(IILjava/util/function/BiFunction;)I")] 15

def k13m0 : Method := { name := "<init>", desc := "()V", sig := { parameters := [], returnType := none }, accessFlags := 1, code := none }
def k13c1 : Code := { maxStack := 3, maxLocals := 3, code := jdk_41_method_11_code, exceptionTable := #[], attributes := #[] }
def k13m1 : Method := { name := "checkIndex", desc := "(IILjava/util/function/BiFunction;)I", sig := { parameters := [.int, .int, (.object "java/util/function/BiFunction")], returnType := some .int }, accessFlags := 9, code := some k13c1 }
/-- jdk/internal/util/Preconditions -/
def k13 : Class := { plain "jdk/internal/util/Preconditions" (some 0) with
  accessFlags := 33
  interfaces := #[]
  cf := some (fileOf pool13 24 #[.nestMembers #[55, 131, 125, 114]] #[{ accessFlags := 1, nameIndex := 5, descriptorIndex := 6, attributes := #[] }, { accessFlags := 9, nameIndex := 33, descriptorIndex := 178, attributes := #[] }] 33 2 #[] #[{ accessFlags := 25, nameIndex := 123, descriptorIndex := 124, attributes := #[] }, { accessFlags := 25, nameIndex := 130, descriptorIndex := 124, attributes := #[] }, { accessFlags := 25, nameIndex := 136, descriptorIndex := 124, attributes := #[] }])
  fields := #[{ name := "SIOOBE_FORMATTER", type := (.object "java/util/function/BiFunction"), accessFlags := 25, slot := 0, constantValue := 0 }, { name := "AIOOBE_FORMATTER", type := (.object "java/util/function/BiFunction"), accessFlags := 25, slot := 1, constantValue := 0 }, { name := "IOOBE_FORMATTER", type := (.object "java/util/function/BiFunction"), accessFlags := 25, slot := 2, constantValue := 0 }]
  methods := #[k13m0, k13m1]
  instanceTypes := #[]
  staticTypes := #[(.object "java/util/function/BiFunction"), (.object "java/util/function/BiFunction"), (.object "java/util/function/BiFunction")]
  resolved := Array.replicate 194 none
  statics := some 1 }

def pool14 : Array CpInfo := pool [(9, u "<init>"), (6, .class_ 18), (1, u "java/lang/Object"), (0, u "()V"), (1, .class_ 23), (1, u "jdk/internal/util/ArraysSupport"), (0, u "LOG2_ARRAY_LONG_INDEX_SCALE"), (0, u "I"), (2, u "U"), (0, u "Ljdk/internal/misc/Unsafe;"), (8, u "BIG_ENDIAN"), (0, u "Z"), (8, u "LOG2_BYTE_BIT_SIZE"), (4, u "LOG2_ARRAY_INT_INDEX_SCALE"), (54, u "JLA"), (0, u "Ljdk/internal/access/JavaLangAccess;"), (11, u "LOG2_ARRAY_BOOLEAN_INDEX_SCALE"), (9, u "LOG2_ARRAY_BYTE_INDEX_SCALE"), (5, u "LOG2_ARRAY_CHAR_INDEX_SCALE"), (5, u "LOG2_ARRAY_SHORT_INDEX_SCALE"), (5, u "mismatch"), (12, u "LOG2_ARRAY_FLOAT_INDEX_SCALE"), (24, u "LOG2_ARRAY_DOUBLE_INDEX_SCALE"), (89, u "T_BOOLEAN"), (2, u "T_CHAR"), (1, u "T_FLOAT"), (1, u "T_DOUBLE"), (1, u "T_BYTE"), (1, u "T_SHORT"), (1, u "T_INT"), (1, u "T_LONG"), (1, u "SOFT_MAX_ARRAY_LENGTH"), (42, u "([BI[BII)I")] 40

def k14m0 : Method := { name := "<init>", desc := "()V", sig := { parameters := [], returnType := none }, accessFlags := 2, code := none }
def k14c1 : Code := { maxStack := 8, maxLocals := 8, code := jdk_48_method_14_code, exceptionTable := #[], attributes := #[] }
def k14m1 : Method := { name := "mismatch", desc := "([BI[BII)I", sig := { parameters := [(.array .byte), .int, (.array .byte), .int, .int], returnType := some .int }, accessFlags := 9, code := some k14c1 }
/-- jdk/internal/util/ArraysSupport -/
def k14 : Class := { plain "jdk/internal/util/ArraysSupport" (some 0) with
  accessFlags := 33
  interfaces := #[]
  cf := some (fileOf pool14 21 #[] #[{ accessFlags := 2, nameIndex := 9, descriptorIndex := 19, attributes := #[] }, { accessFlags := 9, nameIndex := 149, descriptorIndex := 337, attributes := #[] }] 33 16 #[] #[{ accessFlags := 24, nameIndex := 28, descriptorIndex := 29, attributes := #[] }, { accessFlags := 26, nameIndex := 38, descriptorIndex := 39, attributes := #[] }, { accessFlags := 25, nameIndex := 121, descriptorIndex := 25, attributes := #[] }, { accessFlags := 25, nameIndex := 131, descriptorIndex := 25, attributes := #[] }, { accessFlags := 25, nameIndex := 137, descriptorIndex := 25, attributes := #[] }, { accessFlags := 25, nameIndex := 143, descriptorIndex := 25, attributes := #[] }, { accessFlags := 25, nameIndex := 53, descriptorIndex := 25, attributes := #[] }, { accessFlags := 25, nameIndex := 24, descriptorIndex := 25, attributes := #[] }, { accessFlags := 25, nameIndex := 162, descriptorIndex := 25, attributes := #[] }, { accessFlags := 25, nameIndex := 187, descriptorIndex := 25, attributes := #[] }, { accessFlags := 26, nameIndex := 48, descriptorIndex := 25, attributes := #[] }, { accessFlags := 25, nameIndex := 277, descriptorIndex := 25, attributes := #[] }, { accessFlags := 25, nameIndex := 280, descriptorIndex := 25, attributes := #[] }, { accessFlags := 25, nameIndex := 282, descriptorIndex := 25, attributes := #[] }, { accessFlags := 25, nameIndex := 284, descriptorIndex := 25, attributes := #[] }, { accessFlags := 25, nameIndex := 286, descriptorIndex := 25, attributes := #[] }, { accessFlags := 25, nameIndex := 288, descriptorIndex := 25, attributes := #[] }, { accessFlags := 25, nameIndex := 290, descriptorIndex := 25, attributes := #[] }, { accessFlags := 25, nameIndex := 292, descriptorIndex := 25, attributes := #[] }, { accessFlags := 26, nameIndex := 108, descriptorIndex := 109, attributes := #[] }, { accessFlags := 25, nameIndex := 294, descriptorIndex := 25, attributes := #[] }])
  fields := #[{ name := "U", type := (.object "jdk/internal/misc/Unsafe"), accessFlags := 24, slot := 0, constantValue := 0 }, { name := "BIG_ENDIAN", type := .boolean, accessFlags := 26, slot := 1, constantValue := 0 }, { name := "LOG2_ARRAY_BOOLEAN_INDEX_SCALE", type := .int, accessFlags := 25, slot := 2, constantValue := 0 }, { name := "LOG2_ARRAY_BYTE_INDEX_SCALE", type := .int, accessFlags := 25, slot := 3, constantValue := 0 }, { name := "LOG2_ARRAY_CHAR_INDEX_SCALE", type := .int, accessFlags := 25, slot := 4, constantValue := 0 }, { name := "LOG2_ARRAY_SHORT_INDEX_SCALE", type := .int, accessFlags := 25, slot := 5, constantValue := 0 }, { name := "LOG2_ARRAY_INT_INDEX_SCALE", type := .int, accessFlags := 25, slot := 6, constantValue := 0 }, { name := "LOG2_ARRAY_LONG_INDEX_SCALE", type := .int, accessFlags := 25, slot := 7, constantValue := 0 }, { name := "LOG2_ARRAY_FLOAT_INDEX_SCALE", type := .int, accessFlags := 25, slot := 8, constantValue := 0 }, { name := "LOG2_ARRAY_DOUBLE_INDEX_SCALE", type := .int, accessFlags := 25, slot := 9, constantValue := 0 }, { name := "LOG2_BYTE_BIT_SIZE", type := .int, accessFlags := 26, slot := 10, constantValue := 0 }, { name := "T_BOOLEAN", type := .int, accessFlags := 25, slot := 11, constantValue := 0 }, { name := "T_CHAR", type := .int, accessFlags := 25, slot := 12, constantValue := 0 }, { name := "T_FLOAT", type := .int, accessFlags := 25, slot := 13, constantValue := 0 }, { name := "T_DOUBLE", type := .int, accessFlags := 25, slot := 14, constantValue := 0 }, { name := "T_BYTE", type := .int, accessFlags := 25, slot := 15, constantValue := 0 }, { name := "T_SHORT", type := .int, accessFlags := 25, slot := 16, constantValue := 0 }, { name := "T_INT", type := .int, accessFlags := 25, slot := 17, constantValue := 0 }, { name := "T_LONG", type := .int, accessFlags := 25, slot := 18, constantValue := 0 }, { name := "JLA", type := (.object "jdk/internal/access/JavaLangAccess"), accessFlags := 26, slot := 19, constantValue := 0 }, { name := "SOFT_MAX_ARRAY_LENGTH", type := .int, accessFlags := 25, slot := 20, constantValue := 0 }]
  methods := #[k14m0, k14m1]
  instanceTypes := #[]
  staticTypes := #[(.object "jdk/internal/misc/Unsafe"), .boolean, .int, .int, .int, .int, .int, .int, .int, .int, .int, .int, .int, .int, .int, .int, .int, .int, .int, (.object "jdk/internal/access/JavaLangAccess"), .int]
  resolved := Array.replicate 378 none
  statics := none }

def pool15 : Array CpInfo := pool [(1, u "java/lang/Cloneable"), (0, .class_ 1), (0, u "java/lang/Object"), (0, .class_ 3)] 3

/-- java/lang/Cloneable -/
def k15 : Class := { plain "java/lang/Cloneable" (some 0) with
  accessFlags := 1537
  interfaces := #[]
  cf := some (fileOf pool15 2 #[] #[] 1537 4 #[] #[])
  fields := #[]
  methods := #[]
  instanceTypes := #[]
  staticTypes := #[]
  resolved := Array.replicate 8 none
  statics := none }

/-- the primitive byte -/
def k16 : Class := { plain "byte" none with kind := .primitive 'B', accessFlags := 0x411 }
/-- [B -/
def k17 : Class := { plain "[B" (some 0) with kind := .array 16 .byte, interfaces := #[15, 2], accessFlags := 1041 }

/-- the primitive char -/
def k18 : Class := { plain "char" none with kind := .primitive 'C', accessFlags := 0x411 }
/-- [C -/
def k19 : Class := { plain "[C" (some 0) with kind := .array 18 .char, interfaces := #[15, 2], accessFlags := 1041 }

/-- the primitive int -/
def k20 : Class := { plain "int" none with kind := .primitive 'I', accessFlags := 0x411 }
/-- [I -/
def k21 : Class := { plain "[I" (some 0) with kind := .array 20 .int, interfaces := #[15, 2], accessFlags := 1041 }

def heap : Heap := #[{ cls := 7, slots := #[.long 0, .int 1, .null, .int 0, .null, .int 0, .int 0], vm := .statics 7 },
  { cls := 13, slots := #[.null, .null, .null], vm := .statics 13 }]
def classes : Array Class := #[k0, k1, k2, k3, k4, k5, k6, k7, k8, k9, k10, k11, k12, k13, k14, k15, k16, k17, k18, k19, k20, k21]
def interned : List (Array UInt16 × Addr) := []
def slotsUsed : Nat := 10
def theMethod : MethodId := ⟨1, 3⟩
def args0 : Array Value := #[.int 5, .int 5, .int 5, .int 5, .int 5, .int 5]
def aboutOver (below : List Frame) : State where
  vm := { classes := classes, interned := interned.toArray }
  heap := heap
  slotsUsed := slotsUsed
  threads := #[{ frames := .invoking theMethod args0 :: below }]
def below0 : List Frame := [.native { method := ⟨0, 0⟩, args := #[] }]
def about1 : State := aboutOver below0
def p0 : Program := .bare "" "" ""
def e0 : Env := launch0.env 0 0 0
theorem w_frames : about1.frames = Frame.invoking theMethod args0 :: below0 := rfl
set_option maxRecDepth 65536 in
theorem w_args : argsFit about1.vm theMethod args0 = true := by decide +kernel
set_option maxRecDepth 65536 in
theorem w_heap : heapFits about1 = true := by decide +kernel
set_option maxRecDepth 65536 in
theorem w_runnable : about1.curStatus? = some .runnable := by decide +kernel
set_option maxRecDepth 65536 in
theorem w_alone : about1.alone = true := by decide +kernel
set_option maxRecDepth 65536 in
theorem w_named : about1.methodNamed? x = some theMethod := by decide +kernel
set_option maxRecDepth 65536 in
theorem w_hears : about1.hears theMethod below0 = true := by decide +kernel
set_option maxRecDepth 65536 in
theorem w_ripe : about1.ripe theMethod args0 below0 = true := by decide +kernel
theorem w_running : about1.status = .running := rfl
set_option maxRecDepth 65536 in
theorem w_room : about1.hasRoom e0.platform room_1 = true :=
  launch0.hasRoom_least _ room_1 (by decide +kernel) (by decide +kernel) (by decide +kernel) (by decide +kernel) (by decide +kernel) (by decide +kernel)
theorem allAtoms_all (ts : List Jvm.Cond) (a : Array Jvm.Value) (st : Jvm.State) : (allAtoms ts).before a st = ts.all (fun c => c.before a st) := by
  induction ts with
  | nil => rfl
  | cons c t ih =>
    show (Jvm.Cond.and c (allAtoms t)).before a st = _
    rw [Jvm.Cond.before_and, ih, List.all_cons]
def words1 : List Jvm.Cond := Jvm.Cond.code x code maxLocals ret :: tables_1
/-- a 'code' word, met by the world's own term for the bytes: nothing is compared byte by byte -/
theorem code_word {y : MethodName} {bytes : ByteArray} {mx : Nat} {rt : Option FieldType} {a : Array Value} {s : State} {m : MethodId} {meth : Method} {c : Code} (h1 : s.methodNamed? y = some m) (h2 : s.vm.method? m = some meth) (h3 : meth.code = some c) (h4 : c.code = bytes)
    (h5 : (c.maxLocals == mx && c.exceptionTable.isEmpty && decide (c.maxStack ≤ mostOperands) && decide (meth.sig.returnType = rt) && !meth.locks && decide (parseMethodDescriptor y.desc = some meth.sig)) = true) : (Jvm.Cond.code y bytes mx rt).before a s = true := by
  simp only [Bool.and_eq_true, beq_iff_eq, Bool.not_eq_true', decide_eq_true_eq] at h5
  obtain ⟨⟨⟨⟨⟨g1, g2⟩, g3⟩, g4⟩, g5⟩, g6⟩ := h5
  simp [Cond.before, Cond.holds, Cond.value, h1, h2, h3, h4, g1, g2, g3, g4, g5, g6]
def isCode : Jvm.Cond → Bool
  | .code _ _ _ _ => true
  | _ => false
theorem all_split {L : List Jvm.Cond} {P : Jvm.Cond → Bool} (h1 : L.all (fun c => isCode c || P c) = true) (h2 : ∀ c ∈ L.filter isCode, P c = true) : L.all P = true := by
  refine List.all_eq_true.mpr fun c hc => ?_
  have h := List.all_eq_true.mp h1 c hc
  rcases Bool.eq_false_or_eq_true (isCode c) with hi | hi
  · exact h2 c (List.mem_filter.mpr ⟨hc, hi⟩)
  · simpa [hi] using h
set_option maxRecDepth 65536 in
theorem w_c0 : (Jvm.Cond.code x code maxLocals ret).before args0 about1 = true := code_word (m := ⟨1, 3⟩) (meth := k1m3) (c := k1c3) (by decide +kernel) rfl rfl rfl (by decide +kernel)
set_option maxRecDepth 65536 in
theorem w_c1 : (Jvm.Cond.code ({ cls := "com/example/eirene/eirene/KeySpaceCallerKeyPinLaw", name := "prefixChar", desc := "(IZ)C" } : Jvm.MethodName) method_3_code (3 : Nat) (Option.some Jvm.ClassFile.FieldType.char)).before args0 about1 = true := code_word (m := ⟨1, 2⟩) (meth := k1m2) (c := k1c2) (by decide +kernel) rfl rfl rfl (by decide +kernel)
set_option maxRecDepth 65536 in
theorem w_c2 : (Jvm.Cond.code ({ cls := "com/example/eirene/eirene/KeySpaceCallerKeyPinLaw", name := "draw", desc := "(IZ)C" } : Jvm.MethodName) method_2_code (2 : Nat) (Option.some Jvm.ClassFile.FieldType.char)).before args0 about1 = true := code_word (m := ⟨1, 1⟩) (meth := k1m1) (c := k1c1) (by decide +kernel) rfl rfl rfl (by decide +kernel)
set_option maxRecDepth 65536 in
theorem w_c3 : (Jvm.Cond.code ({ cls := "java/lang/String", name := "<init>", desc := "([C)V" } : Jvm.MethodName) jdk_42_method_3_code (2 : Nat) (Option.none : Option Jvm.ClassFile.FieldType)).before args0 about1 = true := code_word (m := ⟨7, 1⟩) (meth := k7m1) (c := k7c1) (by decide +kernel) rfl rfl rfl (by decide +kernel)
set_option maxRecDepth 65536 in
theorem w_c4 : (Jvm.Cond.code ({ cls := "java/lang/String", name := "<init>", desc := "([CIILjava/lang/Void;)V" } : Jvm.MethodName) jdk_42_method_149_code (6 : Nat) (Option.none : Option Jvm.ClassFile.FieldType)).before args0 about1 = true := code_word (m := ⟨7, 10⟩) (meth := k7m10) (c := k7c10) (by decide +kernel) rfl rfl rfl (by decide +kernel)
set_option maxRecDepth 65536 in
theorem w_c5 : (Jvm.Cond.code ({ cls := "java/lang/Object", name := "<init>", desc := "()V" } : Jvm.MethodName) object_method_1_code (1 : Nat) (Option.none : Option Jvm.ClassFile.FieldType)).before args0 about1 = true := code_word (m := ⟨0, 0⟩) (meth := k0m0) (c := k0c0) (by decide +kernel) rfl rfl rfl (by decide +kernel)
set_option maxRecDepth 65536 in
theorem w_c6 : (Jvm.Cond.code ({ cls := "java/lang/StringUTF16", name := "compress", desc := "([CII)[B" } : Jvm.MethodName) jdk_52_method_16_code (6 : Nat) (Option.some (Jvm.ClassFile.FieldType.array Jvm.ClassFile.FieldType.byte))).before args0 about1 = true := code_word (m := ⟨8, 2⟩) (meth := k8m2) (c := k8c2) (by decide +kernel) rfl rfl rfl (by decide +kernel)
set_option maxRecDepth 65536 in
theorem w_c7 : (Jvm.Cond.code ({ cls := "java/lang/StringUTF16", name := "compress", desc := "([CI[BII)I" } : Jvm.MethodName) jdk_52_method_21_code (7 : Nat) (Option.some Jvm.ClassFile.FieldType.int)).before args0 about1 = true := code_word (m := ⟨8, 3⟩) (meth := k8m3) (c := k8c3) (by decide +kernel) rfl rfl rfl (by decide +kernel)
set_option maxRecDepth 65536 in
theorem w_c8 : (Jvm.Cond.code ({ cls := "java/lang/StringUTF16", name := "coderFromArrayLen", desc := "([BI)B" } : Jvm.MethodName) jdk_52_method_15_code (2 : Nat) (Option.some Jvm.ClassFile.FieldType.byte)).before args0 about1 = true := code_word (m := ⟨8, 1⟩) (meth := k8m1) (c := k8c1) (by decide +kernel) rfl rfl rfl (by decide +kernel)
set_option maxRecDepth 65536 in
theorem w_c9 : (Jvm.Cond.code ({ cls := "com/example/eirene/eirene/KeySpace", name := "<init>", desc := "(Ljava/lang/String;)V" } : Jvm.MethodName) prog_4_method_1_code (2 : Nat) (Option.none : Option Jvm.ClassFile.FieldType)).before args0 about1 = true := code_word (m := ⟨9, 0⟩) (meth := k9m0) (c := k9c0) (by decide +kernel) rfl rfl rfl (by decide +kernel)
set_option maxRecDepth 65536 in
theorem w_c10 : (Jvm.Cond.code ({ cls := "java/util/Objects", name := "requireNonNull", desc := "(Ljava/lang/Object;Ljava/lang/String;)Ljava/lang/Object;" } : Jvm.MethodName) jdk_31_method_11_code (2 : Nat) (Option.some (Jvm.ClassFile.FieldType.object "java/lang/Object"))).before args0 about1 = true := code_word (m := ⟨10, 1⟩) (meth := k10m1) (c := k10c1) (by decide +kernel) rfl rfl rfl (by decide +kernel)
set_option maxRecDepth 65536 in
theorem w_c11 : (Jvm.Cond.code ({ cls := "java/lang/String", name := "isEmpty", desc := "()Z" } : Jvm.MethodName) jdk_42_method_55_code (1 : Nat) (Option.some Jvm.ClassFile.FieldType.boolean)).before args0 about1 = true := code_word (m := ⟨7, 3⟩) (meth := k7m3) (c := k7c3) (by decide +kernel) rfl rfl rfl (by decide +kernel)
set_option maxRecDepth 65536 in
theorem w_c12 : (Jvm.Cond.code ({ cls := "java/lang/String", name := "indexOf", desc := "(I)I" } : Jvm.MethodName) jdk_42_method_79_code (2 : Nat) (Option.some Jvm.ClassFile.FieldType.int)).before args0 about1 = true := code_word (m := ⟨7, 8⟩) (meth := k7m8) (c := k7c8) (by decide +kernel) rfl rfl rfl (by decide +kernel)
set_option maxRecDepth 65536 in
theorem w_c13 : (Jvm.Cond.code ({ cls := "java/lang/String", name := "indexOf", desc := "(II)I" } : Jvm.MethodName) jdk_42_method_80_code (3 : Nat) (Option.some Jvm.ClassFile.FieldType.int)).before args0 about1 = true := code_word (m := ⟨7, 9⟩) (meth := k7m9) (c := k7c9) (by decide +kernel) rfl rfl rfl (by decide +kernel)
set_option maxRecDepth 65536 in
theorem w_c14 : (Jvm.Cond.code ({ cls := "java/lang/String", name := "isLatin1", desc := "()Z" } : Jvm.MethodName) jdk_42_method_154_code (1 : Nat) (Option.some Jvm.ClassFile.FieldType.boolean)).before args0 about1 = true := code_word (m := ⟨7, 12⟩) (meth := k7m12) (c := k7c12) (by decide +kernel) rfl rfl rfl (by decide +kernel)
set_option maxRecDepth 65536 in
theorem w_c15 : (Jvm.Cond.code ({ cls := "java/lang/String", name := "length", desc := "()I" } : Jvm.MethodName) jdk_42_method_54_code (1 : Nat) (Option.some Jvm.ClassFile.FieldType.int)).before args0 about1 = true := code_word (m := ⟨7, 2⟩) (meth := k7m2) (c := k7c2) (by decide +kernel) rfl rfl rfl (by decide +kernel)
set_option maxRecDepth 65536 in
theorem w_c16 : (Jvm.Cond.code ({ cls := "java/lang/String", name := "coder", desc := "()B" } : Jvm.MethodName) jdk_42_method_152_code (1 : Nat) (Option.some Jvm.ClassFile.FieldType.byte)).before args0 about1 = true := code_word (m := ⟨7, 11⟩) (meth := k7m11) (c := k7c11) (by decide +kernel) rfl rfl rfl (by decide +kernel)
set_option maxRecDepth 65536 in
theorem w_c17 : (Jvm.Cond.code ({ cls := "java/lang/StringLatin1", name := "indexOf", desc := "([BIII)I" } : Jvm.MethodName) jdk_43_method_22_code (4 : Nat) (Option.some Jvm.ClassFile.FieldType.int)).before args0 about1 = true := code_word (m := ⟨11, 3⟩) (meth := k11m3) (c := k11c3) (by decide +kernel) rfl rfl rfl (by decide +kernel)
set_option maxRecDepth 65536 in
theorem w_c18 : (Jvm.Cond.code ({ cls := "java/lang/StringLatin1", name := "canEncode", desc := "(I)Z" } : Jvm.MethodName) jdk_43_method_4_code (1 : Nat) (Option.some Jvm.ClassFile.FieldType.boolean)).before args0 about1 = true := code_word (m := ⟨11, 2⟩) (meth := k11m2) (c := k11c2) (by decide +kernel) rfl rfl rfl (by decide +kernel)
set_option maxRecDepth 65536 in
theorem w_c19 : (Jvm.Cond.code ({ cls := "java/lang/Math", name := "max", desc := "(II)I" } : Jvm.MethodName) jdk_29_method_65_code (2 : Nat) (Option.some Jvm.ClassFile.FieldType.int)).before args0 about1 = true := code_word (m := ⟨12, 1⟩) (meth := k12m1) (c := k12c1) (by decide +kernel) rfl rfl rfl (by decide +kernel)
set_option maxRecDepth 65536 in
theorem w_c20 : (Jvm.Cond.code ({ cls := "java/lang/Math", name := "min", desc := "(II)I" } : Jvm.MethodName) jdk_29_method_69_code (2 : Nat) (Option.some Jvm.ClassFile.FieldType.int)).before args0 about1 = true := code_word (m := ⟨12, 2⟩) (meth := k12m2) (c := k12c2) (by decide +kernel) rfl rfl rfl (by decide +kernel)
set_option maxRecDepth 65536 in
theorem w_c21 : (Jvm.Cond.code ({ cls := "java/lang/StringLatin1", name := "indexOfChar", desc := "([BIII)I" } : Jvm.MethodName) jdk_43_method_23_code (6 : Nat) (Option.some Jvm.ClassFile.FieldType.int)).before args0 about1 = true := code_word (m := ⟨11, 4⟩) (meth := k11m4) (c := k11c4) (by decide +kernel) rfl rfl rfl (by decide +kernel)
set_option maxRecDepth 65536 in
theorem w_c22 : (Jvm.Cond.code ({ cls := "com/example/eirene/eirene/KeySpace", name := "utf8Length", desc := "(Ljava/lang/String;Ljava/lang/String;)I" } : Jvm.MethodName) prog_4_method_9_code (5 : Nat) (Option.some Jvm.ClassFile.FieldType.int)).before args0 about1 = true := code_word (m := ⟨9, 2⟩) (meth := k9m2) (c := k9c2) (by decide +kernel) rfl rfl rfl (by decide +kernel)
set_option maxRecDepth 65536 in
theorem w_c23 : (Jvm.Cond.code ({ cls := "java/lang/String", name := "charAt", desc := "(I)C" } : Jvm.MethodName) jdk_42_method_56_code (2 : Nat) (Option.some Jvm.ClassFile.FieldType.char)).before args0 about1 = true := code_word (m := ⟨7, 4⟩) (meth := k7m4) (c := k7c4) (by decide +kernel) rfl rfl rfl (by decide +kernel)
set_option maxRecDepth 65536 in
theorem w_c24 : (Jvm.Cond.code ({ cls := "java/lang/StringLatin1", name := "charAt", desc := "([BI)C" } : Jvm.MethodName) jdk_43_method_2_code (2 : Nat) (Option.some Jvm.ClassFile.FieldType.char)).before args0 about1 = true := code_word (m := ⟨11, 1⟩) (meth := k11m1) (c := k11c1) (by decide +kernel) rfl rfl rfl (by decide +kernel)
set_option maxRecDepth 65536 in
theorem w_c25 : (Jvm.Cond.code ({ cls := "java/lang/String", name := "checkIndex", desc := "(II)V" } : Jvm.MethodName) jdk_42_method_155_code (2 : Nat) (Option.none : Option Jvm.ClassFile.FieldType)).before args0 about1 = true := code_word (m := ⟨7, 13⟩) (meth := k7m13) (c := k7c13) (by decide +kernel) rfl rfl rfl (by decide +kernel)
set_option maxRecDepth 65536 in
theorem w_c26 : (Jvm.Cond.code ({ cls := "jdk/internal/util/Preconditions", name := "checkIndex", desc := "(IILjava/util/function/BiFunction;)I" } : Jvm.MethodName) jdk_41_method_11_code (3 : Nat) (Option.some Jvm.ClassFile.FieldType.int)).before args0 about1 = true := code_word (m := ⟨13, 1⟩) (meth := k13m1) (c := k13c1) (by decide +kernel) rfl rfl rfl (by decide +kernel)
set_option maxRecDepth 65536 in
theorem w_c27 : (Jvm.Cond.code ({ cls := "com/example/eirene/eirene/KeySpace", name := "callerKey", desc := "(Ljava/lang/String;)Ljava/lang/String;" } : Jvm.MethodName) prog_4_method_6_code (2 : Nat) (Option.some (Jvm.ClassFile.FieldType.object "java/lang/String"))).before args0 about1 = true := code_word (m := ⟨9, 1⟩) (meth := k9m1) (c := k9c1) (by decide +kernel) rfl rfl rfl (by decide +kernel)
set_option maxRecDepth 65536 in
theorem w_c28 : (Jvm.Cond.code ({ cls := "java/lang/String", name := "startsWith", desc := "(Ljava/lang/String;)Z" } : Jvm.MethodName) jdk_42_method_76_code (2 : Nat) (Option.some Jvm.ClassFile.FieldType.boolean)).before args0 about1 = true := code_word (m := ⟨7, 7⟩) (meth := k7m7) (c := k7c7) (by decide +kernel) rfl rfl rfl (by decide +kernel)
set_option maxRecDepth 65536 in
theorem w_c29 : (Jvm.Cond.code ({ cls := "java/lang/String", name := "startsWith", desc := "(Ljava/lang/String;I)Z" } : Jvm.MethodName) jdk_42_method_75_code (8 : Nat) (Option.some Jvm.ClassFile.FieldType.boolean)).before args0 about1 = true := code_word (m := ⟨7, 6⟩) (meth := k7m6) (c := k7c6) (by decide +kernel) rfl rfl rfl (by decide +kernel)
set_option maxRecDepth 65536 in
theorem w_c30 : (Jvm.Cond.code ({ cls := "java/lang/String", name := "equals", desc := "(Ljava/lang/Object;)Z" } : Jvm.MethodName) jdk_42_method_66_code (3 : Nat) (Option.some Jvm.ClassFile.FieldType.boolean)).before args0 about1 = true := code_word (m := ⟨7, 5⟩) (meth := k7m5) (c := k7c5) (by decide +kernel) rfl rfl rfl (by decide +kernel)
set_option maxRecDepth 65536 in
theorem w_c31 : (Jvm.Cond.code ({ cls := "jdk/internal/util/ArraysSupport", name := "mismatch", desc := "([BI[BII)I" } : Jvm.MethodName) jdk_48_method_14_code (8 : Nat) (Option.some Jvm.ClassFile.FieldType.int)).before args0 about1 = true := code_word (m := ⟨14, 1⟩) (meth := k14m1) (c := k14c1) (by decide +kernel) rfl rfl rfl (by decide +kernel)
def codes1 : List Jvm.Cond := [Jvm.Cond.code x code maxLocals ret, Jvm.Cond.code ({ cls := "com/example/eirene/eirene/KeySpaceCallerKeyPinLaw", name := "prefixChar", desc := "(IZ)C" } : Jvm.MethodName) method_3_code (3 : Nat) (Option.some Jvm.ClassFile.FieldType.char), Jvm.Cond.code ({ cls := "com/example/eirene/eirene/KeySpaceCallerKeyPinLaw", name := "draw", desc := "(IZ)C" } : Jvm.MethodName) method_2_code (2 : Nat) (Option.some Jvm.ClassFile.FieldType.char), Jvm.Cond.code ({ cls := "java/lang/String", name := "<init>", desc := "([C)V" } : Jvm.MethodName) jdk_42_method_3_code (2 : Nat) (Option.none : Option Jvm.ClassFile.FieldType), Jvm.Cond.code ({ cls := "java/lang/String", name := "<init>", desc := "([CIILjava/lang/Void;)V" } : Jvm.MethodName) jdk_42_method_149_code (6 : Nat) (Option.none : Option Jvm.ClassFile.FieldType), Jvm.Cond.code ({ cls := "java/lang/Object", name := "<init>", desc := "()V" } : Jvm.MethodName) object_method_1_code (1 : Nat) (Option.none : Option Jvm.ClassFile.FieldType), Jvm.Cond.code ({ cls := "java/lang/StringUTF16", name := "compress", desc := "([CII)[B" } : Jvm.MethodName) jdk_52_method_16_code (6 : Nat) (Option.some (Jvm.ClassFile.FieldType.array Jvm.ClassFile.FieldType.byte)), Jvm.Cond.code ({ cls := "java/lang/StringUTF16", name := "compress", desc := "([CI[BII)I" } : Jvm.MethodName) jdk_52_method_21_code (7 : Nat) (Option.some Jvm.ClassFile.FieldType.int), Jvm.Cond.code ({ cls := "java/lang/StringUTF16", name := "coderFromArrayLen", desc := "([BI)B" } : Jvm.MethodName) jdk_52_method_15_code (2 : Nat) (Option.some Jvm.ClassFile.FieldType.byte), Jvm.Cond.code ({ cls := "com/example/eirene/eirene/KeySpace", name := "<init>", desc := "(Ljava/lang/String;)V" } : Jvm.MethodName) prog_4_method_1_code (2 : Nat) (Option.none : Option Jvm.ClassFile.FieldType), Jvm.Cond.code ({ cls := "java/util/Objects", name := "requireNonNull", desc := "(Ljava/lang/Object;Ljava/lang/String;)Ljava/lang/Object;" } : Jvm.MethodName) jdk_31_method_11_code (2 : Nat) (Option.some (Jvm.ClassFile.FieldType.object "java/lang/Object")), Jvm.Cond.code ({ cls := "java/lang/String", name := "isEmpty", desc := "()Z" } : Jvm.MethodName) jdk_42_method_55_code (1 : Nat) (Option.some Jvm.ClassFile.FieldType.boolean), Jvm.Cond.code ({ cls := "java/lang/String", name := "indexOf", desc := "(I)I" } : Jvm.MethodName) jdk_42_method_79_code (2 : Nat) (Option.some Jvm.ClassFile.FieldType.int), Jvm.Cond.code ({ cls := "java/lang/String", name := "indexOf", desc := "(II)I" } : Jvm.MethodName) jdk_42_method_80_code (3 : Nat) (Option.some Jvm.ClassFile.FieldType.int), Jvm.Cond.code ({ cls := "java/lang/String", name := "isLatin1", desc := "()Z" } : Jvm.MethodName) jdk_42_method_154_code (1 : Nat) (Option.some Jvm.ClassFile.FieldType.boolean), Jvm.Cond.code ({ cls := "java/lang/String", name := "length", desc := "()I" } : Jvm.MethodName) jdk_42_method_54_code (1 : Nat) (Option.some Jvm.ClassFile.FieldType.int), Jvm.Cond.code ({ cls := "java/lang/String", name := "coder", desc := "()B" } : Jvm.MethodName) jdk_42_method_152_code (1 : Nat) (Option.some Jvm.ClassFile.FieldType.byte), Jvm.Cond.code ({ cls := "java/lang/StringLatin1", name := "indexOf", desc := "([BIII)I" } : Jvm.MethodName) jdk_43_method_22_code (4 : Nat) (Option.some Jvm.ClassFile.FieldType.int), Jvm.Cond.code ({ cls := "java/lang/StringLatin1", name := "canEncode", desc := "(I)Z" } : Jvm.MethodName) jdk_43_method_4_code (1 : Nat) (Option.some Jvm.ClassFile.FieldType.boolean), Jvm.Cond.code ({ cls := "java/lang/Math", name := "max", desc := "(II)I" } : Jvm.MethodName) jdk_29_method_65_code (2 : Nat) (Option.some Jvm.ClassFile.FieldType.int), Jvm.Cond.code ({ cls := "java/lang/Math", name := "min", desc := "(II)I" } : Jvm.MethodName) jdk_29_method_69_code (2 : Nat) (Option.some Jvm.ClassFile.FieldType.int), Jvm.Cond.code ({ cls := "java/lang/StringLatin1", name := "indexOfChar", desc := "([BIII)I" } : Jvm.MethodName) jdk_43_method_23_code (6 : Nat) (Option.some Jvm.ClassFile.FieldType.int), Jvm.Cond.code ({ cls := "com/example/eirene/eirene/KeySpace", name := "utf8Length", desc := "(Ljava/lang/String;Ljava/lang/String;)I" } : Jvm.MethodName) prog_4_method_9_code (5 : Nat) (Option.some Jvm.ClassFile.FieldType.int), Jvm.Cond.code ({ cls := "java/lang/String", name := "charAt", desc := "(I)C" } : Jvm.MethodName) jdk_42_method_56_code (2 : Nat) (Option.some Jvm.ClassFile.FieldType.char), Jvm.Cond.code ({ cls := "java/lang/StringLatin1", name := "charAt", desc := "([BI)C" } : Jvm.MethodName) jdk_43_method_2_code (2 : Nat) (Option.some Jvm.ClassFile.FieldType.char), Jvm.Cond.code ({ cls := "java/lang/String", name := "checkIndex", desc := "(II)V" } : Jvm.MethodName) jdk_42_method_155_code (2 : Nat) (Option.none : Option Jvm.ClassFile.FieldType), Jvm.Cond.code ({ cls := "jdk/internal/util/Preconditions", name := "checkIndex", desc := "(IILjava/util/function/BiFunction;)I" } : Jvm.MethodName) jdk_41_method_11_code (3 : Nat) (Option.some Jvm.ClassFile.FieldType.int), Jvm.Cond.code ({ cls := "com/example/eirene/eirene/KeySpace", name := "callerKey", desc := "(Ljava/lang/String;)Ljava/lang/String;" } : Jvm.MethodName) prog_4_method_6_code (2 : Nat) (Option.some (Jvm.ClassFile.FieldType.object "java/lang/String")), Jvm.Cond.code ({ cls := "java/lang/String", name := "startsWith", desc := "(Ljava/lang/String;)Z" } : Jvm.MethodName) jdk_42_method_76_code (2 : Nat) (Option.some Jvm.ClassFile.FieldType.boolean), Jvm.Cond.code ({ cls := "java/lang/String", name := "startsWith", desc := "(Ljava/lang/String;I)Z" } : Jvm.MethodName) jdk_42_method_75_code (8 : Nat) (Option.some Jvm.ClassFile.FieldType.boolean), Jvm.Cond.code ({ cls := "java/lang/String", name := "equals", desc := "(Ljava/lang/Object;)Z" } : Jvm.MethodName) jdk_42_method_66_code (3 : Nat) (Option.some Jvm.ClassFile.FieldType.boolean), Jvm.Cond.code ({ cls := "jdk/internal/util/ArraysSupport", name := "mismatch", desc := "([BI[BII)I" } : Jvm.MethodName) jdk_48_method_14_code (8 : Nat) (Option.some Jvm.ClassFile.FieldType.int)]
set_option maxRecDepth 65536 in
theorem codes_eq : words1.filter isCode = codes1 := rfl
theorem w_codes : ∀ c ∈ words1.filter isCode, c.before args0 about1 = true := by
  rw [codes_eq]
  intro c hc
  simp only [codes1, List.mem_cons, List.not_mem_nil, or_false] at hc
  rcases hc with rfl | rfl | rfl | rfl | rfl | rfl | rfl | rfl | rfl | rfl | rfl | rfl | rfl | rfl | rfl | rfl | rfl | rfl | rfl | rfl | rfl | rfl | rfl | rfl | rfl | rfl | rfl | rfl | rfl | rfl | rfl | rfl
  · exact w_c0
  · exact w_c1
  · exact w_c2
  · exact w_c3
  · exact w_c4
  · exact w_c5
  · exact w_c6
  · exact w_c7
  · exact w_c8
  · exact w_c9
  · exact w_c10
  · exact w_c11
  · exact w_c12
  · exact w_c13
  · exact w_c14
  · exact w_c15
  · exact w_c16
  · exact w_c17
  · exact w_c18
  · exact w_c19
  · exact w_c20
  · exact w_c21
  · exact w_c22
  · exact w_c23
  · exact w_c24
  · exact w_c25
  · exact w_c26
  · exact w_c27
  · exact w_c28
  · exact w_c29
  · exact w_c30
  · exact w_c31
set_option maxRecDepth 65536 in
theorem w_t1 : (words1.take 24).all (fun c => isCode c || c.before args0 about1) = true := by decide +kernel
set_option maxRecDepth 65536 in
theorem w_t2 : ((words1.drop 24).take 24).all (fun c => isCode c || c.before args0 about1) = true := by decide +kernel
set_option maxRecDepth 65536 in
theorem w_t3 : (((words1.drop 24).drop 24).take 24).all (fun c => isCode c || c.before args0 about1) = true := by decide +kernel
set_option maxRecDepth 65536 in
theorem w_t4 : ((((words1.drop 24).drop 24).drop 24).take 24).all (fun c => isCode c || c.before args0 about1) = true := by decide +kernel
set_option maxRecDepth 65536 in
theorem w_t5 : (((((words1.drop 24).drop 24).drop 24).drop 24).take 24).all (fun c => isCode c || c.before args0 about1) = true := by decide +kernel
set_option maxRecDepth 65536 in
theorem w_t6 : ((((((words1.drop 24).drop 24).drop 24).drop 24).drop 24).take 24).all (fun c => isCode c || c.before args0 about1) = true := by decide +kernel
set_option maxRecDepth 65536 in
theorem w_t7 : ((((((words1.drop 24).drop 24).drop 24).drop 24).drop 24).drop 24).all (fun c => isCode c || c.before args0 about1) = true := by decide +kernel
theorem w_tables : (allAtoms (Jvm.Cond.code x code maxLocals ret :: tables_1)).before args0 about1 = true := by
  rw [allAtoms_all]
  show words1.all (fun c => c.before args0 about1) = true
  refine all_split ?_ w_codes
  rw [← List.take_append_drop 24 words1, List.all_append, w_t1, ← List.take_append_drop 24 (words1.drop 24), List.all_append, w_t2, ← List.take_append_drop 24 ((words1.drop 24).drop 24), List.all_append, w_t3, ← List.take_append_drop 24 (((words1.drop 24).drop 24).drop 24), List.all_append, w_t4, ← List.take_append_drop 24 ((((words1.drop 24).drop 24).drop 24).drop 24), List.all_append, w_t5, ← List.take_append_drop 24 (((((words1.drop 24).drop 24).drop 24).drop 24).drop 24), List.all_append, w_t6, w_t7]
  rfl
set_option maxRecDepth 65536 in
theorem w_rest : rest_1_c.before args0 about1 = true := by decide +kernel
set_option maxRecDepth 65536 in
theorem w_case : (Jvm.Cond.and given_1 narrow_1).before args0 about1 = true := by decide +kernel
theorem w_applies : (headSpec (Jvm.Cond.code x code maxLocals ret :: tables_1) room_1).applies x e0.platform about1 = true :=
  (Spec.applies_iff w_frames).mpr ⟨w_running, w_runnable, w_alone, w_named, w_hears, w_ripe, w_room, w_tables⟩
theorem atStart : AtStart classFile x code maxLocals ret World_1 tables_1 room_1 Calls_1 rest_1 Pre_1 launch0 p0 e0 about1 theMethod args0 below0 :=
  ⟨lists_1, trivial, launch0.admits_env _ _ _, launch0.least_env, fairChoices_fair.cas, fairChoices_fair.clock, w_frames, w_args, w_heap, w_applies, trivial, w_rest, w_case⟩
end start1
theorem witness_1 : WitnessClaimed_1 := ⟨start1.p0, start1.e0, start1.about1, start1.theMethod, start1.args0, start1.below0, start1.atStart⟩
end Jvm.Pilot.@@N@@
