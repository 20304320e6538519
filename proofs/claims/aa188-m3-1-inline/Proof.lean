import JvmDerived
import JvmDerived.Pilot.@@N@@Statement
import JvmDerived.Pilot.@@N@@Code
set_option linter.unusedVariables false
set_option linter.unusedSimpArgs false
/- laws to paste: Road.backV, Road.lenW, Road.chN, Road.eqW, Road.codOf (cut by pick.py; bodies as the Statement names them) -/
namespace Jvm.Pilot.@@N@@
namespace StrChars
open Jvm Sem ClassFile Op Lib Jvm.Stand Jvm.Free.XT Jvm.Free.ALB Jvm.Free.JM Jvm.Free
open Jvm.Lib.Cold (StaticIs)
/-- a char array whose places are chars -/
def Ch (a : Addr) (A : Cell) (U : State) : Prop := Arr .char a A U ∧ Typed .char A
theorem Ch.mv {a : Addr} {A : Cell} {U U' : State} (h : Ch a A U) (hal : U.vm.Alike U'.vm) (hh : U'.heap = U.heap) : Ch a A U' := ⟨h.1.mv hal hh, h.2⟩
theorem Ch.keep {a : Addr} {A : Cell} {U U' : State} (h : Ch a A U) (hal : U.vm.Alike U'.vm) (hk : U'.heap[a]? = some A) : Ch a A U' := ⟨h.1.keep hal hk, h.2⟩
/-- what place i of a char[]'s cell holds -/
def cv (A : Cell) (i : Nat) : Int32 := match A.slots[i]? with | some (.int x) => x | _ => 0
theorem Ch.get {a : Addr} {A : Cell} {U : State} (h : Ch a A U) {i : Nat} (hi : i < A.slots.size) : A.slots[i]? = some (.int (cv A i)) := by
  have e := Array.getElem?_eq_getElem hi
  have f := h.2 i _ e
  unfold cv; rw [e]
  generalize A.slots[i] = v at f
  cases v <;> simp [fits] at f ⊢
/-- the byte that i2b leaves of a char -/
def lo8 (x : Int32) : Int32 := x.toInt8.toInt32
theorem fits_lo8 (y : Int32) : fits .byte (.int (lo8 y)) = true := by
  have h1 := y.toInt8.le_toInt
  have h2 := y.toInt8.toInt_lt
  simp only [lo8, fits, Bool.and_eq_true, decide_eq_true_eq, Int32.le_iff_toInt_le, Int8.toInt_toInt32, show (-128 : Int32).toInt = -128 from by decide, show (127 : Int32).toInt = 127 from by decide]
  omega
/-- A' is A but that each place j of lo .. hi - 1 holds f j -/
def Laid (A A' : Cell) (lo hi : Nat) (f : Nat → Value) : Prop := A'.cls = A.cls ∧ A'.vm = A.vm ∧ A'.slots.size = A.slots.size ∧ ∀ i, A'.slots[i]? = if lo ≤ i ∧ i < hi then some (f i) else A.slots[i]?
theorem Laid.zero (A : Cell) (lo : Nat) (f : Nat → Value) : Laid A A lo (lo + 0) f := ⟨rfl, rfl, rfl, fun i => by rw [if_neg (by omega)]⟩
theorem Laid.step {A Ak : Cell} {lo k : Nat} {f : Nat → Value} {v : Value} (h : Laid A Ak lo k f) (hlo : lo ≤ k) (hk : k < Ak.slots.size) (hv : v = f k) : Laid A (Ak.setSlot k v) lo (k + 1) f := by
  refine ⟨h.1, h.2.1, by simpa [Cell.setSlot] using h.2.2.1, fun i => ?_⟩
  by_cases e : k = i
  · subst e; rw [Cell.slots_setSlot_self v hk, if_pos (by omega), hv]
  · rw [Cell.slots_setSlot_ne v e, h.2.2.2 i]
    by_cases q : lo ≤ i ∧ i < k
    · rw [if_pos q, if_pos (by omega)]
    · rw [if_neg q, if_neg (by omega)]
def U16 : String := "java/lang/StringUTF16"
namespace Cmp5
def yN : MethodName := ⟨"java/lang/StringUTF16", "compress", "([CI[BII)I"⟩
abbrev yB : ByteArray := jdk_52_method_21_code
theorem d0 : decode yB 0 = .ok (.iconst 0, 1) := by decide +kernel
theorem d1 : decode yB 1 = .ok (.istore 5, 2) := by decide +kernel
theorem d3 : decode yB 3 = .ok (.iload 5, 2) := by decide +kernel
theorem d5 : decode yB 5 = .ok (.iload 4, 2) := by decide +kernel
theorem d7 : decode yB 7 = .ok (.if_icmp (.ge) 37, 3) := by decide +kernel
theorem d10 : decode yB 10 = .ok (.aload_n 0, 1) := by decide +kernel
theorem d11 : decode yB 11 = .ok (.iload_n 1, 1) := by decide +kernel
theorem d12 : decode yB 12 = .ok (.caload, 1) := by decide +kernel
theorem d13 : decode yB 13 = .ok (.istore 6, 2) := by decide +kernel
theorem d15 : decode yB 15 = .ok (.iload 6, 2) := by decide +kernel
theorem d17 : decode yB 17 = .ok (.sipush 255, 3) := by decide +kernel
theorem d20 : decode yB 20 = .ok (.if_icmp (.le) 6, 3) := by decide +kernel
theorem d26 : decode yB 26 = .ok (.aload_n 2, 1) := by decide +kernel
theorem d27 : decode yB 27 = .ok (.iload_n 3, 1) := by decide +kernel
theorem d28 : decode yB 28 = .ok (.iload 6, 2) := by decide +kernel
theorem d30 : decode yB 30 = .ok (.i2b, 1) := by decide +kernel
theorem d31 : decode yB 31 = .ok (.bastore, 1) := by decide +kernel
theorem d32 : decode yB 32 = .ok (.iinc 1 1, 3) := by decide +kernel
theorem d35 : decode yB 35 = .ok (.iinc 3 1, 3) := by decide +kernel
theorem d38 : decode yB 38 = .ok (.iinc 5 1, 3) := by decide +kernel
theorem d41 : decode yB 41 = .ok (.goto (-38), 3) := by decide +kernel
theorem d44 : decode yB 44 = .ok (.iload 4, 2) := by decide +kernel
theorem d46 : decode yB 46 = .ok (.ireturn, 1) := by decide +kernel
def site : List Cond := []
def tab : Cond := tabOf yN yB 7 (some .int) site
def P (b : Addr) (A : Cell) (d : Addr) (B : Cell) (o q len : Nat) (args : Array Value) (s : State) : Prop := args = #[.ref b, .int (Int32.ofNat o), .ref d, .int (Int32.ofNat q), .int (Int32.ofNat len)] ∧ Ch b A s ∧ Arr .byte d B s ∧ b ≠ d ∧ o + len ≤ A.slots.size ∧ q + len ≤ B.slots.size ∧ ∀ i, i < len → ¬ 255 < cv A (o + i)
def E (b : Addr) (A : Cell) (d : Addr) (B : Cell) (o q len : Nat) (r : Option Value) (s u : State) : Prop := r = some (.int (Int32.ofNat len)) ∧ ∃ B', Put d B' s u ∧ Laid B B' q (q + len) (fun j => Value.int (lo8 (cv A (o + (j - q)))))
/-- no char of the range above 255: len; the places written hold each char's low byte -/
theorem law (l : Launch) (b : Addr) (A : Cell) (d : Addr) (B : Cell) (o q len : Nat) : Law l yN 5 5 0 0 yB 7 (some .int) site (P b A d B o q len) (E b A d B o q len) (copyLocs d q len) 0 0 := by
  refine Law.of_walk (plainFor_of_name (by decide +kernel)) (by decide +kernel) (by decide +kernel) (by decide) (fun _ _ h => by rw [h.1]; rfl) (fun _ U U' hal hh h => ⟨h.1, h.2.1.mv hal hh, h.2.2.1.mv hal hh, h.2.2.2⟩) (fun r U U' V V' h1 hal h2 h => ⟨h.1, h.2.elim fun B' q => ⟨B', q.1.mv h1 h2, q.2⟩⟩) ?_
  intro p e s m args below meth c s₁ X0 hexec hbytes hml hret hlk hnm hown hh0 W hP
  obtain ⟨rfl, hA, hB, hne, l1, l2, hp⟩ := hP
  have c1 : Steps p.tables e below (s₁.setTop (entryFrame m #[.ref b, .int (Int32.ofNat o), .ref d, .int (Int32.ofNat q), .int (Int32.ofNat len)] 7)) (s₁.setTop (mkF m 0 #[.val (.ref b), .val (.int (Int32.ofNat o)), .val (.ref d), .val (.int (Int32.ofNat q)), .val (.int (Int32.ofNat len)), .unset, .unset] [])) := entry rfl
  have hA0 := hA.1.mv X0.warmed.alike hh0
  have hB0 := hB.mv X0.warmed.alike hh0
  have a31 := hA.1.2.2.2
  have c2 : Steps p.tables e below (s₁.setTop (entryFrame m #[.ref b, .int (Int32.ofNat o), .ref d, .int (Int32.ofNat q), .int (Int32.ofNat len)] 7)) (s₁.setTop (mkF m 3 #[.val (.ref b), .val (.int (Int32.ofNat o)), .val (.ref d), .val (.int (Int32.ofNat q)), .val (.int (Int32.ofNat len)), .val (.int 0), .unset] [])) := c1.trans (by
    refine iconstV X0.here hexec rfl 0 (hb hbytes d0) (by decide) ?_
    refine XS.istore X0.here hexec rfl (hb hbytes d1) rfl rfl ?_
    exact Steps.refl _)
  have loop : ∀ (r i : Nat), i + r = len → ∀ (z : Slot), (z = .unset ∨ ∃ w, z = .val w ∧ w.category = 1) → ∀ (Tl : State) (Bk : Cell), Stand p l e { frames := 0, locals := 0, cells := 0, slots := 0 } s m #[.ref b, .int (Int32.ofNat o), .ref d, .int (Int32.ofNat q), .int (Int32.ofNat len)] below meth c Tl ([] ++ copyLocs d q i) 0 0 → Put d Bk s₁ Tl → Laid B Bk q (q + i) (fun j => Value.int (lo8 (cv A (o + (j - q))))) →
      Steps p.tables e below (s₁.setTop (entryFrame m #[.ref b, .int (Int32.ofNat o), .ref d, .int (Int32.ofNat q), .int (Int32.ofNat len)] 7)) (Tl.setTop (mkF m 3 #[.val (.ref b), .val (.int (Int32.ofNat (o + i))), .val (.ref d), .val (.int (Int32.ofNat (q + i))), .val (.int (Int32.ofNat len)), .val (.int (Int32.ofNat i)), z] [])) → ∃ (T' : State) (B' : Cell) (z' : Slot), Stand p l e { frames := 0, locals := 0, cells := 0, slots := 0 } s m #[.ref b, .int (Int32.ofNat o), .ref d, .int (Int32.ofNat q), .int (Int32.ofNat len)] below meth c T' ([] ++ copyLocs d q len) 0 0 ∧ Put d B' s₁ T' ∧ Laid B B' q (q + len) (fun j => Value.int (lo8 (cv A (o + (j - q))))) ∧
      Steps p.tables e below (s₁.setTop (entryFrame m #[.ref b, .int (Int32.ofNat o), .ref d, .int (Int32.ofNat q), .int (Int32.ofNat len)] 7)) (T'.setTop (mkF m 3 #[.val (.ref b), .val (.int (Int32.ofNat (o + len))), .val (.ref d), .val (.int (Int32.ofNat (q + len))), .val (.int (Int32.ofNat len)), .val (.int (Int32.ofNat len)), z'] [])) := by
    intro r
    induction r with
    | zero =>
      intro i hi z hz Tl Bk Xl pl fl cl
      have hil : i = len := by omega
      rw [hil] at Xl fl cl
      exact ⟨Tl, Bk, z, Xl, pl, fl, cl⟩
    | succ r ih =>
      intro i hi z hz Tl Bk Xl pl fl cl
      have all := X0.warmed.alike.symm.trans Xl.warmed.alike
      have hAl := hA0.keep all (pl.other hne hA0.1)
      have hBk := hB0.like all pl.1 fl.1 fl.2.1 fl.2.2.1
      have hlt : q + i < Bk.slots.size := by rw [fl.2.2.1]; omega
      have c3 : Steps p.tables e below (s₁.setTop (entryFrame m #[.ref b, .int (Int32.ofNat o), .ref d, .int (Int32.ofNat q), .int (Int32.ofNat len)] 7)) (Tl.setTop (mkF m 12 #[.val (.ref b), .val (.int (Int32.ofNat (o + i))), .val (.ref d), .val (.int (Int32.ofNat (q + i))), .val (.int (Int32.ofNat len)), .val (.int (Int32.ofNat i)), z] [.int (Int32.ofNat (o + i)), .ref b])) := cl.trans (by
        refine XS.iload Xl.here hexec rfl (hb hbytes d3) rfl ?_
        refine XS.iload Xl.here hexec rfl (hb hbytes d5) rfl ?_
        refine XS.icmpNo Xl.here hexec rfl (hb hbytes d7) rfl (ii_ge_f (lt32 (by omega) (by omega))) ?_
        refine XS.aloadN Xl.here hexec rfl (hb hbytes d10) rfl rfl ?_
        refine XS.iloadN Xl.here hexec rfl (hb hbytes d11) rfl ?_
        exact Steps.refl _)
      have c4 : Steps p.tables e below (s₁.setTop (entryFrame m #[.ref b, .int (Int32.ofNat o), .ref d, .int (Int32.ofNat q), .int (Int32.ofNat len)] 7)) (Tl.setTop (mkF m 13 #[.val (.ref b), .val (.int (Int32.ofNat (o + i))), .val (.ref d), .val (.int (Int32.ofNat (q + i))), .val (.int (Int32.ofNat len)), .val (.int (Int32.ofNat i)), z] [.int (cv A (o + i))])) := c3.trans (by
        refine Xl.aget hexec hAl rfl (hA.get (i := o + i) (by omega)) rfl rfl (hb hbytes d12) ?_
        exact Steps.refl _)
      have c5 : Steps p.tables e below (s₁.setTop (entryFrame m #[.ref b, .int (Int32.ofNat o), .ref d, .int (Int32.ofNat q), .int (Int32.ofNat len)] 7)) (Tl.setTop (mkF m 15 #[.val (.ref b), .val (.int (Int32.ofNat (o + i))), .val (.ref d), .val (.int (Int32.ofNat (q + i))), .val (.int (Int32.ofNat len)), .val (.int (Int32.ofNat i)), .val (.int (cv A (o + i)))] [])) := c4.trans (by
        refine XS.istoreS Xl.here hexec rfl (hb hbytes d13) rfl rfl hz ?_
        exact Steps.refl _)
      have c6 : Steps p.tables e below (s₁.setTop (entryFrame m #[.ref b, .int (Int32.ofNat o), .ref d, .int (Int32.ofNat q), .int (Int32.ofNat len)] 7)) (Tl.setTop (mkF m 31 #[.val (.ref b), .val (.int (Int32.ofNat (o + i))), .val (.ref d), .val (.int (Int32.ofNat (q + i))), .val (.int (Int32.ofNat len)), .val (.int (Int32.ofNat i)), .val (.int (cv A (o + i)))] [.int (lo8 (cv A (o + i))), .int (Int32.ofNat (q + i)), .ref d])) := c5.trans (by
        refine XS.iload Xl.here hexec rfl (hb hbytes d15) rfl ?_
        refine sipushV Xl.here hexec rfl 255 (hb hbytes d17) (by decide) ?_
        refine XS.icmpYes Xl.here hexec rfl (pc0 := 20) rfl (hb hbytes d20) rfl (ii_le_t (hp i (by omega))) (by decide) rfl ?_
        refine XS.aloadN Xl.here hexec rfl (hb hbytes d26) rfl rfl ?_
        refine XS.iloadN Xl.here hexec rfl (hb hbytes d27) rfl ?_
        refine XS.iload Xl.here hexec rfl (hb hbytes d28) rfl ?_
        refine i2b Xl.here hexec rfl (hb hbytes d30) rfl ?_
        exact Steps.refl _)
      obtain ⟨T7, X7, p7, st7⟩ := Xl.aput hexec hBk rfl hlt rfl (fits_lo8 (cv A (o + i))) (g := (mkF m 31 #[.val (.ref b), .val (.int (Int32.ofNat (o + i))), .val (.ref d), .val (.int (Int32.ofNat (q + i))), .val (.int (Int32.ofNat len)), .val (.int (Int32.ofNat i)), .val (.int (cv A (o + i)))] [.int (lo8 (cv A (o + i))), .int (Int32.ofNat (q + i)), .ref d])) rfl (rest := []) rfl (hb hbytes d31)
      have c8 : Steps p.tables e below (s₁.setTop (entryFrame m #[.ref b, .int (Int32.ofNat o), .ref d, .int (Int32.ofNat q), .int (Int32.ofNat len)] 7)) (T7.setTop (mkF m 32 #[.val (.ref b), .val (.int (Int32.ofNat (o + i))), .val (.ref d), .val (.int (Int32.ofNat (q + i))), .val (.int (Int32.ofNat len)), .val (.int (Int32.ofNat i)), .val (.int (cv A (o + i)))] [])) := c6.trans (st7 _ (Steps.refl _))
      have c9 : Steps p.tables e below (s₁.setTop (entryFrame m #[.ref b, .int (Int32.ofNat o), .ref d, .int (Int32.ofNat q), .int (Int32.ofNat len)] 7)) (T7.setTop (mkF m 3 #[.val (.ref b), .val (.int (Int32.ofNat (o + i) + 1)), .val (.ref d), .val (.int (Int32.ofNat (q + i) + 1)), .val (.int (Int32.ofNat len)), .val (.int (Int32.ofNat i + 1)), .val (.int (cv A (o + i)))] [])) := c8.trans (by
        refine iincV X7.here hexec rfl 1 (hb hbytes d32) (by decide) rfl rfl ?_
        refine iincV X7.here hexec rfl 1 (hb hbytes d35) (by decide) rfl rfl ?_
        refine iincV X7.here hexec rfl 1 (hb hbytes d38) (by decide) rfl rfl ?_
        refine XS.goto X7.here hexec rfl (pc0 := 41) rfl (hb hbytes d41) (by decide) rfl ?_
        exact Steps.refl _)
      have c10 : Steps p.tables e below (s₁.setTop (entryFrame m #[.ref b, .int (Int32.ofNat o), .ref d, .int (Int32.ofNat q), .int (Int32.ofNat len)] 7)) (T7.setTop (mkF m 3 #[.val (.ref b), .val (.int (Int32.ofNat (o + (i + 1)))), .val (.ref d), .val (.int (Int32.ofNat (q + (i + 1)))), .val (.int (Int32.ofNat len)), .val (.int (Int32.ofNat (i + 1))), .val (.int (cv A (o + i)))] [])) := by
        have := c9
        rw [succ32, succ32, succ32] at this
        exact this
      exact ih (i + 1) (by omega) _ (Or.inr ⟨_, rfl, rfl⟩) T7 _ (by rw [copyLocs_step, ← List.append_assoc]; exact X7) (pl.trans p7) (fl.step (by omega) hlt (by simp)) c10
  obtain ⟨T9, B9, z9, X9, p9, f9, g9⟩ := loop len 0 (by omega) .unset (Or.inl rfl) s₁ B (by simpa [copyLocs] using X0) ⟨hB0.1, fun _ _ => rfl, rfl⟩ (Laid.zero _ _ _) c2
  have c11 : Steps p.tables e below (s₁.setTop (entryFrame m #[.ref b, .int (Int32.ofNat o), .ref d, .int (Int32.ofNat q), .int (Int32.ofNat len)] 7)) (T9.setTop (mkF m 46 #[.val (.ref b), .val (.int (Int32.ofNat (o + len))), .val (.ref d), .val (.int (Int32.ofNat (q + len))), .val (.int (Int32.ofNat len)), .val (.int (Int32.ofNat len)), z9] [.int (Int32.ofNat len)])) := g9.trans (by
    refine XS.iload X9.here hexec rfl (hb hbytes d3) rfl ?_
    refine XS.iload X9.here hexec rfl (hb hbytes d5) rfl ?_
    refine XS.icmpYes X9.here hexec rfl (pc0 := 7) rfl (hb hbytes d7) rfl (ii_ge_t (nlt32 (by omega) (Nat.le_refl _))) (by decide) rfl ?_
    refine XS.iload X9.here hexec rfl (hb hbytes d44) rfl ?_
    exact Steps.refl _)
  exact ⟨T9, some (.int (Int32.ofNat len)), _, _, _, X9, by simp, rfl, rfl, (fun h => by cases h), ⟨rfl, B9, p9.from hh0, f9⟩, fun fs hl => c11.trans (X9.ireturnOut hexec hret rfl (Or.inl rfl) (hb hbytes d46) hl)⟩
end Cmp5
namespace Cmp3
def yN : MethodName := ⟨"java/lang/StringUTF16", "compress", "([CII)[B"⟩
abbrev yB : ByteArray := jdk_52_method_16_code
theorem d0 : decode yB 0 = .ok (.iload_n 2, 1) := by decide +kernel
theorem d1 : decode yB 1 = .ok (.newarray .byte, 2) := by decide +kernel
theorem d3 : decode yB 3 = .ok (.astore_n 3, 1) := by decide +kernel
theorem d4 : decode yB 4 = .ok (.aload_n 0, 1) := by decide +kernel
theorem d5 : decode yB 5 = .ok (.iload_n 1, 1) := by decide +kernel
theorem d6 : decode yB 6 = .ok (.aload_n 3, 1) := by decide +kernel
theorem d7 : decode yB 7 = .ok (.iconst 0, 1) := by decide +kernel
theorem d8 : decode yB 8 = .ok (.iload_n 2, 1) := by decide +kernel
theorem d9 : decode yB 9 = .ok (.invokestatic 115, 3) := by decide +kernel
theorem d12 : decode yB 12 = .ok (.istore 4, 2) := by decide +kernel
theorem d14 : decode yB 14 = .ok (.iload 4, 2) := by decide +kernel
theorem d16 : decode yB 16 = .ok (.iload_n 2, 1) := by decide +kernel
theorem d17 : decode yB 17 = .ok (.if_icmp (.eq) 40, 3) := by decide +kernel
theorem d57 : decode yB 57 = .ok (.aload_n 3, 1) := by decide +kernel
theorem d58 : decode yB 58 = .ok (.areturn, 1) := by decide +kernel
def site : List Cond := [.arrayClass .byte, Cmp5.tab] ++ staticW U16 115 Cmp5.yN
def tab : Cond := tabOf yN yB 6 (some (.array .byte)) site
def P (b : Addr) (A : Cell) (o len : Nat) (args : Array Value) (s : State) : Prop := args = #[.ref b, .int (Int32.ofNat o), .int (Int32.ofNat len)] ∧ Ch b A s ∧ o + len ≤ A.slots.size ∧ len ≤ 536870912 ∧ ∀ i, i < len → ¬ 255 < cv A (o + i)
def E (b : Addr) (A : Cell) (o len : Nat) (r : Option Value) (s u : State) : Prop := NewArr .byte "[B" len (fun j => .int (lo8 (cv A (o + j)))) r s u ∧ u.heap.size = s.heap.size + 1
/-- no char of the range above 255: a new byte[] of their low bytes -/
theorem law (l : Launch) (b : Addr) (A : Cell) (o len : Nat) : Law l yN 3 3 1 18 yB 6 (some (.array .byte)) site (P b A o len) (E b A o len) [] 1 len := by
  refine Law.of_walk (plainFor_of_name (by decide +kernel)) (by decide +kernel) (by decide +kernel) (by decide) (fun _ _ h => by rw [h.1]; rfl) (fun _ U U' hal hh h => ⟨h.1, h.2.1.mv hal hh, h.2.2⟩) (fun r U U' V V' h1 hal h2 h => ⟨NewArr.mv r U U' V V' h1 hal h2 h.1, by rw [h1, h2]; exact h.2⟩) ?_
  intro p e s m args below meth c s₁ X0 hexec hbytes hml hret hlk hnm hown hh0 W hP
  obtain ⟨rfl, hA, l1, l2, hp⟩ := hP
  have a31 := hA.1.2.2.2
  have c1 : Steps p.tables e below (s₁.setTop (entryFrame m #[.ref b, .int (Int32.ofNat o), .int (Int32.ofNat len)] 6)) (s₁.setTop (mkF m 0 #[.val (.ref b), .val (.int (Int32.ofNat o)), .val (.int (Int32.ofNat len)), .unset, .unset, .unset] [])) := entry rfl
  have c2 : Steps p.tables e below (s₁.setTop (entryFrame m #[.ref b, .int (Int32.ofNat o), .int (Int32.ofNat len)] 6)) (s₁.setTop (mkF m 1 #[.val (.ref b), .val (.int (Int32.ofNat o)), .val (.int (Int32.ofNat len)), .unset, .unset, .unset] [.int (Int32.ofNat len)])) := c1.trans (by
    refine XS.iloadN X0.here hexec rfl (hb hbytes d0) rfl ?_
    exact Steps.refl _)
  obtain ⟨T3, B3, X3, ba3, bs3, bv3, bh3, bf3, st3⟩ := X0.anew hexec (atype := .byte) (wk W (.arrayClass .byte)) rfl (by show len * 1 ≤ _; omega) (by omega) (g := (mkF m 1 #[.val (.ref b), .val (.int (Int32.ofNat o)), .val (.int (Int32.ofNat len)), .unset, .unset, .unset] [.int (Int32.ofNat len)])) rfl (hb hbytes d1) (rest := []) rfl (Nat.le_refl _) (by show 0 + len ≤ len; omega)
  rw [hh0] at ba3 st3
  have kp3 : XT.Kept s T3 := (XT.Kept.of_eq hh0).push bh3
  have hA3 := hA.keep X3.warmed.alike (kp3 _ _ hA.1.1)
  have hne : b ≠ s.heap.size := hA.1.ne
  have c4 : Steps p.tables e below (s₁.setTop (entryFrame m #[.ref b, .int (Int32.ofNat o), .int (Int32.ofNat len)] 6)) (T3.setTop (mkF m 3 #[.val (.ref b), .val (.int (Int32.ofNat o)), .val (.int (Int32.ofNat len)), .unset, .unset, .unset] [.ref s.heap.size])) := c2.trans (st3 _ (Steps.refl _))
  have c5 : Steps p.tables e below (s₁.setTop (entryFrame m #[.ref b, .int (Int32.ofNat o), .int (Int32.ofNat len)] 6)) (T3.setTop (mkF m 9 #[.val (.ref b), .val (.int (Int32.ofNat o)), .val (.int (Int32.ofNat len)), .val (.ref s.heap.size), .unset, .unset] [.int (Int32.ofNat len), .int 0, .ref s.heap.size, .int (Int32.ofNat o), .ref b])) := c4.trans (by
    refine XS.astoreN X3.here hexec rfl (hb hbytes d3) rfl rfl rfl ?_
    refine XS.aloadN X3.here hexec rfl (hb hbytes d4) rfl rfl ?_
    refine XS.iloadN X3.here hexec rfl (hb hbytes d5) rfl ?_
    refine XS.aloadN X3.here hexec rfl (hb hbytes d6) rfl rfl ?_
    refine iconstV X3.here hexec rfl 0 (hb hbytes d7) (by decide) ?_
    refine XS.iloadN X3.here hexec rfl (hb hbytes d8) rfl ?_
    exact Steps.refl _)
  obtain ⟨v6, T6, X6, E6, g6⟩ := X3.callS hexec (Cmp5.law l b A s.heap.size B3 o 0 len) hown (wks W (staticW U16 115 Cmp5.yN)) (wk W Cmp5.tab) (W := 0) (Nat.le_of_ble_eq_true rfl) (Nat.le_of_ble_eq_true rfl) (Nat.le_refl _) (by show 0 + len + 0 ≤ len; omega) (g := (mkF m 9 #[.val (.ref b), .val (.int (Int32.ofNat o)), .val (.int (Int32.ofNat len)), .val (.ref s.heap.size), .unset, .unset] [.int (Int32.ofNat len), .int (Int32.ofNat 0), .ref s.heap.size, .int (Int32.ofNat o), .ref b])) rfl (by rw [hml]; rfl) c5 (argsL := [.ref b, .int (Int32.ofNat o), .ref s.heap.size, .int (Int32.ofNat 0), .int (Int32.ofNat len)]) (rest := []) rfl rfl (by show 2 * 0 + 0 ≤ _; decide) (hb hbytes d9) (⟨rfl, hA3, ba3, hne, l1, by rw [bs3]; simp, hp⟩)
  obtain ⟨rfl, B6, p6, f6⟩ := E6
  have c7 : Steps p.tables e below (s₁.setTop (entryFrame m #[.ref b, .int (Int32.ofNat o), .int (Int32.ofNat len)] 6)) (T6.setTop (mkF m 12 #[.val (.ref b), .val (.int (Int32.ofNat o)), .val (.int (Int32.ofNat len)), .val (.ref s.heap.size), .unset, .unset] [.int (Int32.ofNat len)])) := g6
  have c8 : Steps p.tables e below (s₁.setTop (entryFrame m #[.ref b, .int (Int32.ofNat o), .int (Int32.ofNat len)] 6)) (T6.setTop (mkF m 58 #[.val (.ref b), .val (.int (Int32.ofNat o)), .val (.int (Int32.ofNat len)), .val (.ref s.heap.size), .val (.int (Int32.ofNat len)), .unset] [.ref s.heap.size])) := c7.trans (by
    refine XS.istore X6.here hexec rfl (hb hbytes d12) rfl rfl ?_
    refine XS.iload X6.here hexec rfl (hb hbytes d14) rfl ?_
    refine XS.iloadN X6.here hexec rfl (hb hbytes d16) rfl ?_
    refine XS.icmpYes X6.here hexec rfl (pc0 := 17) rfl (hb hbytes d17) rfl (ii_eq_t rfl) (by decide) rfl ?_
    refine XS.aloadN X6.here hexec rfl (hb hbytes d57) rfl rfl ?_
    exact Steps.refl _)
  have X8 := X6.wide (L' := []) (cells' := 1) (slots' := len) (fun x hx hlt => by
    simp only [List.nil_append, copyLocs, List.mem_map, List.mem_range] at hx
    obtain ⟨i, -, rfl⟩ := hx
    exact absurd hlt (Nat.lt_irrefl _)) (Nat.le_refl _) (by omega)
  exact ⟨T6, some (.ref s.heap.size), _, _, _, X8, rfl, rfl, rfl, (fun h => by cases h), ⟨⟨rfl, B6, ba3.like (X3.warmed.alike.symm.trans X6.warmed.alike) p6.1 f6.1 f6.2.1 f6.2.2.1, f6.2.1.trans bv3, by rw [X6.warmed.alike.findClass, f6.1]; exact bf3, by rw [f6.2.2.1, bs3]; simp, fun j hj => by rw [f6.2.2.2 j, if_pos (by omega)]; rfl, kp3.put p6 (Nat.le_refl _)⟩, by rw [p6.2.2, bh3, hh0]; simp⟩, fun fs hl => c8.trans (X8.areturnOut hexec rfl hret rfl (hb hbytes d58) hl)⟩
end Cmp3
namespace CodL
def yN : MethodName := ⟨"java/lang/StringUTF16", "coderFromArrayLen", "([BI)B"⟩
abbrev yB : ByteArray := jdk_52_method_15_code
theorem d0 : decode yB 0 = .ok (.iload_n 1, 1) := by decide +kernel
theorem d1 : decode yB 1 = .ok (.aload_n 0, 1) := by decide +kernel
theorem d2 : decode yB 2 = .ok (.arraylength, 1) := by decide +kernel
theorem d3 : decode yB 3 = .ok (.isub, 1) := by decide +kernel
theorem d4 : decode yB 4 = .ok (.bipush 31, 2) := by decide +kernel
theorem d6 : decode yB 6 = .ok (.iushr, 1) := by decide +kernel
theorem d7 : decode yB 7 = .ok (.i2b, 1) := by decide +kernel
theorem d8 : decode yB 8 = .ok (.ireturn, 1) := by decide +kernel
def site : List Cond := []
def tab : Cond := tabOf yN yB 2 (some .byte) site
def P (d : Addr) (B : Cell) (args : Array Value) (s : State) : Prop := args = #[.ref d, .int (Int32.ofNat B.slots.size)] ∧ Arr .byte d B s
def E (r : Option Value) (s u : State) : Prop := XT.PureE (some (.int 0)) r s u
/-- an array as long as the number of chars: LATIN1 -/
theorem law (l : Launch) (d : Addr) (B : Cell) : Law l yN 2 2 0 0 yB 2 (some .byte) site (P d B) E [] 0 0 := by
  refine Law.of_walk (plainFor_of_name (by decide +kernel)) (by decide +kernel) (by decide +kernel) (by decide) (fun _ _ h => by rw [h.1]; rfl) (fun _ U U' hal hh h => ⟨h.1, h.2.mv hal hh⟩) (fun r U U' V V' h1 hal h2 h => XT.PureE.mv r U U' V V' h1 hal h2 h) ?_
  intro p e s m args below meth c s₁ X0 hexec hbytes hml hret hlk hnm hown hh0 W hP
  obtain ⟨rfl, hB⟩ := hP
  have hB0 := hB.mv X0.warmed.alike hh0
  have c1 : Steps p.tables e below (s₁.setTop (entryFrame m #[.ref d, .int (Int32.ofNat B.slots.size)] 2)) (s₁.setTop (mkF m 0 #[.val (.ref d), .val (.int (Int32.ofNat B.slots.size))] [])) := entry rfl
  have c2 : Steps p.tables e below (s₁.setTop (entryFrame m #[.ref d, .int (Int32.ofNat B.slots.size)] 2)) (s₁.setTop (mkF m 2 #[.val (.ref d), .val (.int (Int32.ofNat B.slots.size))] [.ref d, .int (Int32.ofNat B.slots.size)])) := c1.trans (by
    refine XS.iloadN X0.here hexec rfl (hb hbytes d0) rfl ?_
    refine XS.aloadN X0.here hexec rfl (hb hbytes d1) rfl rfl ?_
    exact Steps.refl _)
  have c3 : Steps p.tables e below (s₁.setTop (entryFrame m #[.ref d, .int (Int32.ofNat B.slots.size)] 2)) (s₁.setTop (mkF m 8 #[.val (.ref d), .val (.int (Int32.ofNat B.slots.size))] [.int (lo8 (ushr (Int32.ofNat B.slots.size - Int32.ofNat B.slots.size) 31))])) := c2.trans (by
    refine X0.alen hexec hB0 rfl rfl (hb hbytes d2) ?_
    refine XS.isub X0.here hexec rfl (hb hbytes d3) rfl ?_
    refine bipushV X0.here hexec rfl 31 (hb hbytes d4) (by decide) ?_
    refine iushr X0.here hexec rfl (hb hbytes d6) rfl ?_
    refine i2b X0.here hexec rfl (hb hbytes d7) rfl ?_
    exact Steps.refl _)
  have e0 : lo8 (ushr (Int32.ofNat B.slots.size - Int32.ofNat B.slots.size) 31) = 0 := by rw [Int32.sub_self]; decide
  rw [e0] at c3
  exact ⟨s₁, some (.int 0), _, _, _, X0, rfl, rfl, rfl, (fun h => by cases h), ⟨rfl, hh0⟩, fun fs hl => c3.trans (X0.ireturnOut hexec hret rfl (Or.inr (Or.inr (Or.inl rfl))) (hb hbytes d8) hl)⟩
end CodL
/-- the String at a is Latin-1 over a new byte[] (the heap's one new cell): the low bytes of the len chars of A from o on; every cell but a is kept -/
def Got (a : Addr) (D : Cell) (fV fC : Field) (A : Cell) (o len : Nat) (r : Option Value) (s u : State) : Prop := r = none ∧ ∃ D' V : Cell, Blank "java/lang/String" a D' u ∧ Same D D' [fV.slot, fC.slot] ∧ D'.slots[fV.slot]? = some (.ref s.heap.size) ∧ D'.slots[fC.slot]? = some (.int 0) ∧ Arr .byte s.heap.size V u ∧ V.vm = .none ∧ u.vm.findClass "[B" = some V.cls ∧ V.slots.size = len ∧ (∀ j, j < len → V.slots[j]? = some (.int (lo8 (cv A (o + j))))) ∧ (∀ (y : Addr) (c : Cell), y ≠ a → s.heap[y]? = some c → u.heap[y]? = some c) ∧ u.heap.size = s.heap.size + 1
theorem Got.mv {a : Addr} {D A : Cell} {fV fC : Field} {o len : Nat} : ∀ r (U U' V V' : State), U'.heap = U.heap → V.vm.Alike V'.vm → V'.heap = V.heap → Got a D fV fC A o len r U V → Got a D fV fC A o len r U' V' :=
  fun r U U' V V' h1 hal h2 ⟨e0, D', X, a1, a2, a3, a4, a5, a6, a7, a8, a9, a10, a11⟩ => ⟨e0, D', X, a1.mv hal h2, a2, by rw [h1]; exact a3, a4, by rw [h1]; exact a5.mv hal h2, a6, by rw [hal.findClass]; exact a7, a8, a9, by rw [h1, h2]; exact a10, by rw [h1, h2]; exact a11⟩
namespace New4
def yN : MethodName := ⟨"java/lang/String", "<init>", "([CIILjava/lang/Void;)V"⟩
abbrev yB : ByteArray := jdk_42_method_149_code
theorem d0 : decode yB 0 = .ok (.aload_n 0, 1) := by decide +kernel
theorem d1 : decode yB 1 = .ok (.invokespecial 1, 3) := by decide +kernel
theorem d4 : decode yB 4 = .ok (.iload_n 3, 1) := by decide +kernel
theorem d5 : decode yB 5 = .ok (.ifCond (.ne) 22, 3) := by decide +kernel
theorem d27 : decode yB 27 = .ok (.getstatic 38, 3) := by decide +kernel
theorem d30 : decode yB 30 = .ok (.ifCond (.eq) 28, 3) := by decide +kernel
theorem d33 : decode yB 33 = .ok (.aload_n 1, 1) := by decide +kernel
theorem d34 : decode yB 34 = .ok (.iload_n 2, 1) := by decide +kernel
theorem d35 : decode yB 35 = .ok (.iload_n 3, 1) := by decide +kernel
theorem d36 : decode yB 36 = .ok (.invokestatic 177, 3) := by decide +kernel
theorem d39 : decode yB 39 = .ok (.astore 5, 2) := by decide +kernel
theorem d41 : decode yB 41 = .ok (.aload_n 0, 1) := by decide +kernel
theorem d42 : decode yB 42 = .ok (.aload 5, 2) := by decide +kernel
theorem d44 : decode yB 44 = .ok (.iload_n 3, 1) := by decide +kernel
theorem d45 : decode yB 45 = .ok (.invokestatic 47, 3) := by decide +kernel
theorem d48 : decode yB 48 = .ok (.putfield 15, 3) := by decide +kernel
theorem d51 : decode yB 51 = .ok (.aload_n 0, 1) := by decide +kernel
theorem d52 : decode yB 52 = .ok (.aload 5, 2) := by decide +kernel
theorem d54 : decode yB 54 = .ok (.putfield 9, 3) := by decide +kernel
theorem d57 : decode yB 57 = .ok (.return_, 1) := by decide +kernel
def site : List Cond := [.fieldLink "java/lang/String" 38 "java/lang/String" "COMPACT_STRINGS" "Z", Cmp3.tab, CodL.tab, .laysFinal "java/lang/String" "java/lang/String" "value" "[B", .fieldLink "java/lang/String" 9 "java/lang/String" "value" "[B", .laysFinal "java/lang/String" "java/lang/String" "coder" "B", .fieldLink "java/lang/String" 15 "java/lang/String" "coder" "B"] ++ objW "java/lang/String" 1 ++ staticW "java/lang/String" 177 Cmp3.yN ++ staticW "java/lang/String" 47 CodL.yN
def tab : Cond := tabOf yN yB 6 none site
def P (a : Addr) (D : Cell) (fV fC : Field) (b : Addr) (A : Cell) (z : Int32) (o len : Nat) (args : Array Value) (s : State) : Prop := args = #[.ref a, .ref b, .int (Int32.ofNat o), .int (Int32.ofNat len), .null] ∧ Blank "java/lang/String" a D s ∧ Found "java/lang/String" "value" "[B" fV s ∧ Found "java/lang/String" "coder" "B" fC s ∧ Ch b A s ∧ StaticIs s "java/lang/String" "COMPACT_STRINGS" "Z" (.int z) ∧ ¬ z = 0 ∧ 0 < len ∧ o + len ≤ A.slots.size ∧ len ≤ 536870912 ∧ ∀ i, i < len → ¬ 255 < cv A (o + i)
def E (a : Addr) (D : Cell) (fV fC : Field) (A : Cell) (o len : Nat) (r : Option Value) (s u : State) : Prop := Got a D fV fC A o len r s u
/-- len > 0, no char of the range above 255: a Latin-1 String of their low bytes -/
theorem law (l : Launch) (a : Addr) (D : Cell) (fV fC : Field) (b : Addr) (A : Cell) (z : Int32) (o len : Nat) : Law l yN 5 4 2 35 yB 6 none site (P a D fV fC b A z o len) (E a D fV fC A o len) [⟨a, fC.slot⟩, ⟨a, fV.slot⟩] 1 len := by
  refine Law.of_walk (plainFor_of_name (by decide +kernel)) (by decide +kernel) (by decide +kernel) (by decide) (fun _ _ h => by rw [h.1]; rfl) (fun _ U U' hal hh h => ⟨h.1, h.2.1.mv hal hh, h.2.2.1.al hal, h.2.2.2.1.al hal, h.2.2.2.2.1.mv hal hh, h.2.2.2.2.2.1.there hal hh, h.2.2.2.2.2.2⟩) (fun r U U' V V' h1 hal h2 h => Got.mv r U U' V V' h1 hal h2 h) ?_
  intro p e s m args below meth c s₁ X0 hexec hbytes hml hret hlk hnm hown hh0 W hP
  obtain ⟨rfl, hB, f1, f2, hA, s1, hz, l0, l1, l2, hp⟩ := hP
  have a31 := hA.1.2.2.2
  have c1 : Steps p.tables e below (s₁.setTop (entryFrame m #[.ref a, .ref b, .int (Int32.ofNat o), .int (Int32.ofNat len), .null] 6)) (s₁.setTop (mkF m 0 #[.val (.ref a), .val (.ref b), .val (.int (Int32.ofNat o)), .val (.int (Int32.ofNat len)), .val .null, .unset] [])) := entry rfl
  have c2 : Steps p.tables e below (s₁.setTop (entryFrame m #[.ref a, .ref b, .int (Int32.ofNat o), .int (Int32.ofNat len), .null] 6)) (s₁.setTop (mkF m 1 #[.val (.ref a), .val (.ref b), .val (.int (Int32.ofNat o)), .val (.int (Int32.ofNat len)), .val .null, .unset] [.ref a])) := c1.trans (by
    refine XS.aloadN X0.here hexec rfl (hb hbytes d0) rfl rfl ?_
    exact Steps.refl _)
  obtain ⟨T3, X3, q3, st3⟩ := X0.oinit hexec hown (wks W (objW "java/lang/String" 1)) (g := (mkF m 1 #[.val (.ref a), .val (.ref b), .val (.int (Int32.ofNat o)), .val (.int (Int32.ofNat len)), .val .null, .unset] [.ref a])) rfl (by rw [hml]; rfl) (rest := []) rfl (hb hbytes d1) (W := 0) (by show 2 * 0 + 0 ≤ _; decide) (Nat.le_of_ble_eq_true rfl) (Nat.le_of_ble_eq_true rfl)
  have hh3 := q3.trans hh0
  have c4 : Steps p.tables e below (s₁.setTop (entryFrame m #[.ref a, .ref b, .int (Int32.ofNat o), .int (Int32.ofNat len), .null] 6)) (T3.setTop (mkF m 27 #[.val (.ref a), .val (.ref b), .val (.int (Int32.ofNat o)), .val (.int (Int32.ofNat len)), .val .null, .unset] [])) := (c2.trans (st3 _ (Steps.refl _))).trans (by
    refine XS.iloadN X3.here hexec rfl (hb hbytes d4) rfl ?_
    refine XS.ifYes X3.here hexec rfl (pc0 := 5) rfl (hb hbytes d5) rfl (i0_ne_t (nz32 (by omega) l0)) (by decide) rfl ?_
    exact Steps.refl _)
  obtain ⟨T5, X5, q5, st5⟩ := X3.sget hexec hown (wk W (.fieldLink "java/lang/String" 38 "java/lang/String" "COMPACT_STRINGS" "Z")) s1 (fun _ _ h => by rw [hh3]; exact h) (g := (mkF m 27 #[.val (.ref a), .val (.ref b), .val (.int (Int32.ofNat o)), .val (.int (Int32.ofNat len)), .val .null, .unset] [])) rfl (hb hbytes d27)
  have hh5 := q5.trans hh3
  have c6 : Steps p.tables e below (s₁.setTop (entryFrame m #[.ref a, .ref b, .int (Int32.ofNat o), .int (Int32.ofNat len), .null] 6)) (T5.setTop (mkF m 30 #[.val (.ref a), .val (.ref b), .val (.int (Int32.ofNat o)), .val (.int (Int32.ofNat len)), .val .null, .unset] [.int z])) := c4.trans (st5 _ (Steps.refl _))
  have c7 : Steps p.tables e below (s₁.setTop (entryFrame m #[.ref a, .ref b, .int (Int32.ofNat o), .int (Int32.ofNat len), .null] 6)) (T5.setTop (mkF m 36 #[.val (.ref a), .val (.ref b), .val (.int (Int32.ofNat o)), .val (.int (Int32.ofNat len)), .val .null, .unset] [.int (Int32.ofNat len), .int (Int32.ofNat o), .ref b])) := c6.trans (by
    refine XS.ifNo X5.here hexec rfl (hb hbytes d30) rfl (i0_eq_f hz) ?_
    refine XS.aloadN X5.here hexec rfl (hb hbytes d33) rfl rfl ?_
    refine XS.iloadN X5.here hexec rfl (hb hbytes d34) rfl ?_
    refine XS.iloadN X5.here hexec rfl (hb hbytes d35) rfl ?_
    exact Steps.refl _)
  obtain ⟨v8, T8, X8, E8, g8⟩ := X5.callS hexec (Cmp3.law l b A o len) hown (wks W (staticW "java/lang/String" 177 Cmp3.yN)) (wk W Cmp3.tab) (W := 0) (Nat.le_of_ble_eq_true rfl) (Nat.le_of_ble_eq_true rfl) (Nat.le_refl _) (by show 0 + len ≤ len; omega) (g := (mkF m 36 #[.val (.ref a), .val (.ref b), .val (.int (Int32.ofNat o)), .val (.int (Int32.ofNat len)), .val .null, .unset] [.int (Int32.ofNat len), .int (Int32.ofNat o), .ref b])) rfl (by rw [hml]; rfl) c7 (argsL := [.ref b, .int (Int32.ofNat o), .int (Int32.ofNat len)]) (rest := []) rfl rfl (by show 2 * 0 + 0 ≤ _; decide) (hb hbytes d36) (⟨rfl, hA.mv X5.warmed.alike hh5, l1, l2, hp⟩)
  obtain ⟨e8, z8⟩ := E8
  obtain ⟨rfl, N, n1, n2, n3, n4, n5, n6⟩ := NewArr.mv _ T5 s _ _ hh5.symm (Vm.Alike.refl _) rfl e8
  rw [hh5] at z8
  have hB1 := hB.keep X8.warmed.alike (n6 _ _ hB.1)
  have hne : s.heap.size ≠ a := (Nat.ne_of_lt (Array.getElem?_eq_some_iff.mp hB.1).1).symm
  have c9 : Steps p.tables e below (s₁.setTop (entryFrame m #[.ref a, .ref b, .int (Int32.ofNat o), .int (Int32.ofNat len), .null] 6)) (T8.setTop (mkF m 39 #[.val (.ref a), .val (.ref b), .val (.int (Int32.ofNat o)), .val (.int (Int32.ofNat len)), .val .null, .unset] [.ref s.heap.size])) := g8
  have c10 : Steps p.tables e below (s₁.setTop (entryFrame m #[.ref a, .ref b, .int (Int32.ofNat o), .int (Int32.ofNat len), .null] 6)) (T8.setTop (mkF m 45 #[.val (.ref a), .val (.ref b), .val (.int (Int32.ofNat o)), .val (.int (Int32.ofNat len)), .val .null, .val (.ref s.heap.size)] [.int (Int32.ofNat N.slots.size), .ref s.heap.size, .ref a])) := by
    have hc : Steps p.tables e below (s₁.setTop (entryFrame m #[.ref a, .ref b, .int (Int32.ofNat o), .int (Int32.ofNat len), .null] 6)) (T8.setTop (mkF m 45 #[.val (.ref a), .val (.ref b), .val (.int (Int32.ofNat o)), .val (.int (Int32.ofNat len)), .val .null, .val (.ref s.heap.size)] [.int (Int32.ofNat len), .ref s.heap.size, .ref a])) := c9.trans (by
      refine XS.astore X8.here hexec rfl (hb hbytes d39) rfl rfl rfl ?_
      refine XS.aloadN X8.here hexec rfl (hb hbytes d41) rfl rfl ?_
      refine XS.aload X8.here hexec rfl (hb hbytes d42) rfl rfl ?_
      refine XS.iloadN X8.here hexec rfl (hb hbytes d44) rfl ?_
      exact Steps.refl _)
    rw [n4]; exact hc
  obtain ⟨v11, T11, X11, E11, g11⟩ := X8.callS hexec (CodL.law l s.heap.size N) hown (wks W (staticW "java/lang/String" 47 CodL.yN)) (wk W CodL.tab) (W := 1) (Nat.le_of_ble_eq_true rfl) (Nat.le_of_ble_eq_true rfl) (Nat.le_refl _) (by show 0 + len + 0 ≤ len; omega) (g := (mkF m 45 #[.val (.ref a), .val (.ref b), .val (.int (Int32.ofNat o)), .val (.int (Int32.ofNat len)), .val .null, .val (.ref s.heap.size)] [.int (Int32.ofNat N.slots.size), .ref s.heap.size, .ref a])) rfl (by rw [hml]; rfl) c10 (argsL := [.ref s.heap.size, .int (Int32.ofNat N.slots.size)]) (rest := [.ref a]) rfl rfl (by show 2 * 0 + (1 + 0) ≤ _; decide) (hb hbytes d45) (⟨rfl, n1⟩)
  obtain ⟨rfl, q11⟩ := E11
  have hB11 := hB1.mv (X8.warmed.alike.symm.trans X11.warmed.alike) q11
  have c12 : Steps p.tables e below (s₁.setTop (entryFrame m #[.ref a, .ref b, .int (Int32.ofNat o), .int (Int32.ofNat len), .null] 6)) (T11.setTop (mkF m 48 #[.val (.ref a), .val (.ref b), .val (.int (Int32.ofNat o)), .val (.int (Int32.ofNat len)), .val .null, .val (.ref s.heap.size)] [.int 0, .ref a])) := g11
  obtain ⟨T13, X13, p13, bl13, sl13, st13⟩ := X11.finit hexec hown (wk W (.fieldLink "java/lang/String" 15 "java/lang/String" "coder" "B")) (Or.inr ⟨_, (wk W (.laysFinal "java/lang/String" "java/lang/String" "coder" "B"))⟩) (Or.inl ⟨rfl, hnm⟩) f2 (Or.inl rfl) hB11 (t := .byte) (by decide +kernel) rfl (g := (mkF m 48 #[.val (.ref a), .val (.ref b), .val (.int (Int32.ofNat o)), .val (.int (Int32.ofNat len)), .val .null, .val (.ref s.heap.size)] [.int 0, .ref a])) rfl (rest := []) rfl (hb hbytes d48)
  have c14 : Steps p.tables e below (s₁.setTop (entryFrame m #[.ref a, .ref b, .int (Int32.ofNat o), .int (Int32.ofNat len), .null] 6)) (T13.setTop (mkF m 54 #[.val (.ref a), .val (.ref b), .val (.int (Int32.ofNat o)), .val (.int (Int32.ofNat len)), .val .null, .val (.ref s.heap.size)] [.ref s.heap.size, .ref a])) := (c12.trans (st13 _ (Steps.refl _))).trans (by
    refine XS.aloadN X13.here hexec rfl (hb hbytes d51) rfl rfl ?_
    refine XS.aload X13.here hexec rfl (hb hbytes d52) rfl rfl ?_
    exact Steps.refl _)
  obtain ⟨T15, X15, p15, bl15, sl15, st15⟩ := X13.finit hexec hown (wk W (.fieldLink "java/lang/String" 9 "java/lang/String" "value" "[B")) (Or.inr ⟨_, (wk W (.laysFinal "java/lang/String" "java/lang/String" "value" "[B"))⟩) (Or.inl ⟨rfl, hnm⟩) f1 (Or.inl rfl) bl13 (t := (.array .byte)) (by decide +kernel) rfl (g := (mkF m 54 #[.val (.ref a), .val (.ref b), .val (.int (Int32.ofNat o)), .val (.int (Int32.ofNat len)), .val .null, .val (.ref s.heap.size)] [.ref s.heap.size, .ref a])) rfl (rest := []) rfl (hb hbytes d54)
  have c16 : Steps p.tables e below (s₁.setTop (entryFrame m #[.ref a, .ref b, .int (Int32.ofNat o), .int (Int32.ofNat len), .null] 6)) (T15.setTop (mkF m 57 #[.val (.ref a), .val (.ref b), .val (.int (Int32.ofNat o)), .val (.int (Int32.ofNat len)), .val .null, .val (.ref s.heap.size)] [])) := c14.trans (st15 _ (Steps.refl _))
  have ap := apart (Or.inr ⟨_, (wk W (.laysFinal "java/lang/String" "java/lang/String" "value" "[B"))⟩) (Or.inr ⟨_, (wk W (.laysFinal "java/lang/String" "java/lang/String" "coder" "B"))⟩) f1 f2 (t₁ := .array .byte) (t₂ := .byte) (by decide +kernel) (by decide +kernel) (by decide)
  have al := X8.warmed.alike.symm.trans X15.warmed.alike
  have n7 : T11.heap[s.heap.size]? = some N := by rw [q11]; exact n1.1
  exact ⟨T15, none, _, _, _, X15, by simp, rfl, by omega, (fun _ => rfl), ⟨rfl, _, N, bl15, ((Same.refl D _).set _ (by simp)).set _ (by simp), sl15, (Cell.slots_setSlot_ne _ ap).trans sl13, n1.keep al (p15.other hne (p13.other hne n7)), n2, by rw [al.findClass]; exact n3, n4, n5, fun y c h1 h2 => p15.other h1 (p13.other h1 (by rw [q11]; exact n6 y c h2)), by rw [p15.2.2, p13.2.2, q11]; exact z8⟩, fun fs hl => c16.trans (X15.returnOut hexec hret (hb hbytes d57) hl)⟩
end New4
namespace New1
def yN : MethodName := ⟨"java/lang/String", "<init>", "([C)V"⟩
abbrev yB : ByteArray := jdk_42_method_3_code
theorem d0 : decode yB 0 = .ok (.aload_n 0, 1) := by decide +kernel
theorem d1 : decode yB 1 = .ok (.aload_n 1, 1) := by decide +kernel
theorem d2 : decode yB 2 = .ok (.iconst 0, 1) := by decide +kernel
theorem d3 : decode yB 3 = .ok (.aload_n 1, 1) := by decide +kernel
theorem d4 : decode yB 4 = .ok (.arraylength, 1) := by decide +kernel
theorem d5 : decode yB 5 = .ok (.aconst_null, 1) := by decide +kernel
theorem d6 : decode yB 6 = .ok (.invokespecial 27, 3) := by decide +kernel
theorem d9 : decode yB 9 = .ok (.return_, 1) := by decide +kernel
def site : List Cond := [New4.tab] ++ initW "java/lang/String" 27 New4.yN
def tab : Cond := tabOf yN yB 2 none site
def P (a : Addr) (D : Cell) (fV fC : Field) (b : Addr) (A : Cell) (z : Int32) (args : Array Value) (s : State) : Prop := args = #[.ref a, .ref b] ∧ Blank "java/lang/String" a D s ∧ Found "java/lang/String" "value" "[B" fV s ∧ Found "java/lang/String" "coder" "B" fC s ∧ Ch b A s ∧ StaticIs s "java/lang/String" "COMPACT_STRINGS" "Z" (.int z) ∧ ¬ z = 0 ∧ 0 < A.slots.size ∧ A.slots.size ≤ 536870912 ∧ ∀ i, i < A.slots.size → ¬ 255 < cv A i
def E (a : Addr) (D : Cell) (fV fC : Field) (A : Cell) (r : Option Value) (s u : State) : Prop := Got a D fV fC A 0 A.slots.size r s u
/-- new String(chars), not empty, no char above 255: a Latin-1 String of their low bytes -/
theorem law (l : Launch) (a : Addr) (D : Cell) (fV fC : Field) (b : Addr) (A : Cell) (z : Int32) : Law l yN 2 1 3 52 yB 2 none site (P a D fV fC b A z) (E a D fV fC A) [⟨a, fC.slot⟩, ⟨a, fV.slot⟩] 1 A.slots.size := by
  refine Law.of_walk (plainFor_of_name (by decide +kernel)) (by decide +kernel) (by decide +kernel) (by decide) (fun _ _ h => by rw [h.1]; rfl) (fun _ U U' hal hh h => ⟨h.1, h.2.1.mv hal hh, h.2.2.1.al hal, h.2.2.2.1.al hal, h.2.2.2.2.1.mv hal hh, h.2.2.2.2.2.1.there hal hh, h.2.2.2.2.2.2⟩) (fun r U U' V V' h1 hal h2 h => Got.mv r U U' V V' h1 hal h2 h) ?_
  intro p e s m args below meth c s₁ X0 hexec hbytes hml hret hlk hnm hown hh0 W hP
  obtain ⟨rfl, hB, f1, f2, hA, s1, hz, l0, l2, hp⟩ := hP
  have c1 : Steps p.tables e below (s₁.setTop (entryFrame m #[.ref a, .ref b] 2)) (s₁.setTop (mkF m 0 #[.val (.ref a), .val (.ref b)] [])) := entry rfl
  have c2 : Steps p.tables e below (s₁.setTop (entryFrame m #[.ref a, .ref b] 2)) (s₁.setTop (mkF m 6 #[.val (.ref a), .val (.ref b)] [.null, .int (Int32.ofNat A.slots.size), .int 0, .ref b, .ref a])) := c1.trans (by
    refine XS.aloadN X0.here hexec rfl (hb hbytes d0) rfl rfl ?_
    refine XS.aloadN X0.here hexec rfl (hb hbytes d1) rfl rfl ?_
    refine iconstV X0.here hexec rfl 0 (hb hbytes d2) (by decide) ?_
    refine XS.aloadN X0.here hexec rfl (hb hbytes d3) rfl rfl ?_
    refine X0.alen hexec (hA.1.mv X0.warmed.alike hh0) rfl rfl (hb hbytes d4) ?_
    refine XS.aconstNull X0.here hexec rfl (hb hbytes d5) ?_
    exact Steps.refl _)
  obtain ⟨v3, T3, X3, E3, g3⟩ := X0.callN hexec (New4.law l a D fV fC b A z 0 A.slots.size) rfl hown (wks W (initW "java/lang/String" 27 New4.yN)) (W New4.tab (by simp only [site, List.mem_cons, List.mem_append, true_or, or_true])) (W := 0) (Nat.le_of_ble_eq_true rfl) (Nat.le_of_ble_eq_true rfl) (Nat.le_refl _) (by show 0 + A.slots.size ≤ A.slots.size; omega) (g := (mkF m 6 #[.val (.ref a), .val (.ref b)] [.null, .int (Int32.ofNat A.slots.size), .int (Int32.ofNat 0), .ref b, .ref a])) rfl (by rw [hml]; rfl) c2 (argsL := [.ref b, .int (Int32.ofNat 0), .int (Int32.ofNat A.slots.size), .null]) (rest := []) rfl rfl (by show 2 * 0 + 0 ≤ _; decide) (hb hbytes d6) (⟨rfl, hB.mv X0.warmed.alike hh0, f1.al X0.warmed.alike, f2.al X0.warmed.alike, hA.mv X0.warmed.alike hh0, s1.there X0.warmed.alike hh0, hz, l0, by omega, l2, fun i hi => by rw [Nat.zero_add]; exact hp i hi⟩)
  have e0 := Got.mv _ s₁ s _ _ hh0.symm (Vm.Alike.refl _) rfl E3
  obtain rfl := e0.1
  have c4 : Steps p.tables e below (s₁.setTop (entryFrame m #[.ref a, .ref b] 2)) (T3.setTop (mkF m 9 #[.val (.ref a), .val (.ref b)] [])) := g3
  exact ⟨T3, none, _, _, _, X3, by simp, rfl, by omega, (fun _ => rfl), e0, fun fs hl => c4.trans (X3.returnOut hexec hret (hb hbytes d9) hl)⟩
theorem pays {l : Launch} {R : Room} {p : Program} {e : Env} {below : List Frame} {s : State} {sargs : Array Value} {len W : Nat} (a : Addr) (D : Cell) (fV fC : Field) (b : Addr) (A : Cell) (z : Int32) (htab : tab.before sargs s = true) (hfr : 4 ≤ R.frames) (hlo : W + 65 ≤ R.locals) :
    Back l R p e below s sargs yN len W (fun A₁ a₁ => A₁.cells + 1 ≤ R.cells ∧ A₁.slots + A.slots.size ≤ R.slots ∧ P a D fV fC b A z a₁ A₁.U) (fun A₁ _ v₁ B₁ => E a D fV fC A v₁ A₁.U B₁.U ∧ B₁.locs = A₁.locs ++ [⟨a, fC.slot⟩, ⟨a, fV.slot⟩] ∧ B₁.cells = A₁.cells + 1 ∧ B₁.slots = A₁.slots + A.slots.size) :=
  (law l a D fV fC b A z).pays htab hfr (by omega)
end New1
/-- the byte, read back as charAt reads it, is the char -/
theorem lo8_mask {x : Int32} (h0 : ¬ x < 0) (h1 : ¬ 255 < x) : lo8 x &&& 255 = x := by
  have t : ∀ k : Fin 256, lo8 (Int32.ofNat k.val) &&& 255 = Int32.ofNat k.val := by decide +kernel
  rw [Int32.lt_iff_toInt_lt] at h0 h1
  have e0 : (0 : Int32).toInt = 0 := rfl
  have e1 : (255 : Int32).toInt = 255 := rfl
  obtain ⟨k, hk⟩ : ∃ k : Nat, x.toInt = k := ⟨x.toInt.toNat, by omega⟩
  have hx : x = Int32.ofNat k := Int32.toInt_inj.mp (by rw [hk, Int32.toInt_ofNat_small (by omega)])
  rw [hx]
  exact t ⟨k, by omega⟩
end StrChars
namespace StrChars.Road
open Jvm Sem ClassFile Op Lib Jvm.Stand Jvm.Free Jvm.Free.XT
open Jvm.Lib.Cold (StaticIs)
abbrev ST : String := "java/lang/String"
/-- every table word that New1's law asks, flat -/
abbrev words : List Jvm.Cond := [.code New1.yN New1.yB 2 none, .initialized ST, .methodLink ST 27 New4.yN, .instanceMethod New4.yN,
  .code New4.yN New4.yB 6 none, .fieldLink ST 38 ST "COMPACT_STRINGS" "Z", .laysFinal ST ST "value" "[B", .fieldLink ST 9 ST "value" "[B", .laysFinal ST ST "coder" "B", .fieldLink ST 15 ST "coder" "B",
  .methodLink ST 1 Lib.objectInit, .instanceMethod Lib.objectInit, .code Lib.objectInit ⟨#[0xb1]⟩ 1 none, .methodLink ST 177 Cmp3.yN, .static Cmp3.yN, .methodLink ST 47 CodL.yN, .static CodL.yN,
  .code Cmp3.yN Cmp3.yB 6 (some (.array .byte)), .initialized U16, .arrayClass .byte, .methodLink U16 115 Cmp5.yN, .static Cmp5.yN, .code Cmp5.yN Cmp5.yB 7 (some .int), .code CodL.yN CodL.yB 2 (some .byte)]
theorem tab_of {a : Array Value} {s : State} (h : ∀ w ∈ words, w.before a s = true) : New1.tab.before a s = true := by
  have h5 : Cmp5.tab.before a s = true := unparts (wk h (.code Cmp5.yN Cmp5.yB 7 (some .int))) (wks h (.initialized Cmp5.yN.cls :: Cmp5.site))
  have hc : CodL.tab.before a s = true := unparts (wk h (.code CodL.yN CodL.yB 2 (some .byte))) (wks h (.initialized CodL.yN.cls :: CodL.site))
  have q5 : ∀ w ∈ Cmp5.tab :: words, w.before a s = true := fun w hw => (List.mem_cons.mp hw).elim (fun e => e ▸ h5) (h w)
  have h3 : Cmp3.tab.before a s = true := unparts (wk q5 (.code Cmp3.yN Cmp3.yB 6 (some (.array .byte)))) (wks q5 (.initialized Cmp3.yN.cls :: Cmp3.site))
  have q3 : ∀ w ∈ Cmp3.tab :: CodL.tab :: words, w.before a s = true := fun w hw => (List.mem_cons.mp hw).elim (fun e => e ▸ h3) fun hw => (List.mem_cons.mp hw).elim (fun e => e ▸ hc) (h w)
  have h4 : New4.tab.before a s = true := unparts (wk q3 (.code New4.yN New4.yB 6 none)) (wks q3 (.initialized New4.yN.cls :: New4.site))
  have q4 : ∀ w ∈ New4.tab :: words, w.before a s = true := fun w hw => (List.mem_cons.mp hw).elim (fun e => e ▸ h4) (h w)
  exact unparts (wk q4 (.code New1.yN New1.yB 2 none)) (wks q4 (.initialized New1.yN.cls :: New1.site))
/-- the words ride from the start Z to the walk's own state -/
theorem moved {Z s : State} {a0 args : Array Value} (hZ : Z.Warmed39 s.vm) (hw : ∀ d ∈ words, d.before a0 Z = true) : ∀ d ∈ words, d.before args s = true := fun d hd => by
  have q := hw d hd
  have t : ∀ d ∈ words, d = .arrayClass .byte ∨ (d.onTables && d.keepsFace) = true := by decide +kernel
  rcases t d hd with rfl | t
  · exact RoadKit.mvA hZ q
  · exact RoadKit.mv hZ q t
/-- WHAT COMES BACK, over the tables of the start Z: h the heap at the call, h' behind it -/
def Q (Z : State) (x : Addr) (A : Cell) (h : Heap) (v : Option Value) (h' : Heap) (L : List Loc) : Prop := v = none ∧ (∀ y ∈ L, y.base = x) ∧ RoadKit.Keep h h' [x] ∧ h'.size = h.size + 1 ∧ RoadKit.Exa Z h' x ST ∧ RoadKit.Fld Z h' x ST "value" "[B" (.ref h.size) ∧ RoadKit.Fld Z h' x ST "coder" "B" (.int 0) ∧
  (∃ V : Cell, RoadKit.Arr Z h' h.size V .byte ∧ V.vm = .none ∧ Z.vm.findClass "[B" = some V.cls ∧ V.slots.size = A.slots.size ∧ ∀ j, j < A.slots.size → V.slots[j]? = some (.int (lo8 (cv A j)))) ∧
  ∀ (O n d : String) (w : Value), RoadKit.Fld Z h x O n d w → RoadKit.slotOf Z O n d ≠ RoadKit.slotOf Z ST "value" "[B" → RoadKit.slotOf Z O n d ≠ RoadKit.slotOf Z ST "coder" "B" → RoadKit.Fld Z h' x O n d w
/-- **new String(chars) AT A CALL, IN THE ROAD'S FORM**: for specialBack behind newO: x the fresh String, b the char[] with the cell A -/
theorem back {p : Program} {l : Launch} {e : Env} {R : Room} {s : State} {args : Array Value} {below : List Frame} {len W : Nat} {Z : State} {a0 : Array Value} {h : Heap} (hZ : Z.Warmed39 s.vm) (hw : ∀ d ∈ words, d.before a0 Z = true) {kI : Nat} (wi : (Jvm.Cond.instantiable ST kI).before a0 Z = true)
    {x b : Addr} {A : Cell} {z : Int32} {v0 c0 : Value} (E : RoadKit.Exa Z h x ST) (V : RoadKit.Fld Z h x ST "value" "[B" v0) (C : RoadKit.Fld Z h x ST "coder" "B" c0) (K : RoadKit.Arr Z h b A .char) (hty : Typed .char A) (S : RoadKit.Sta Z h ST "COMPACT_STRINGS" "Z" (.int z)) (hz : ¬ z = 0)
    (l0 : 0 < A.slots.size) (l2 : A.slots.size ≤ 536870912) (hp : ∀ i, i < A.slots.size → ¬ 255 < cv A i) (hfr : 4 ≤ R.frames) (hlo : W + 65 ≤ R.locals) :
    Back l R p e below s args New1.yN len W (fun P a => a = #[.ref x, .ref b] ∧ P.U.heap = h ∧ P.cells + 1 ≤ R.cells ∧ P.slots + A.slots.size ≤ R.slots)
      (fun P _ v B => ∃ L, Q Z x A h v B.U.heap L ∧ B.locs = P.locs ++ L ∧ B.cells = P.cells + 1 ∧ B.slots = P.slots + A.slots.size) := by
  intro m meth c P g ig mk a X hg hsize hdg hW hn hp'
  obtain ⟨rfl, rfl, r1, r2⟩ := hp'
  have al : Z.vm.Alike P.U.vm := hZ.alike.trans X.warmed.alike
  obtain ⟨D, cfV, kV, iV, fV, hD, gV, stV, knV, obV, asV, slV⟩ := id V
  obtain ⟨D', cfC, kC, iC, fC, hD', gC, stC, -, -, asC, slC⟩ := id C
  cases hD.symm.trans hD'
  obtain ⟨D2, kD, e1, e2, e3, e4, e5⟩ := id E
  cases hD.symm.trans e1
  obtain ⟨c2, k2, i1, i2, i3, -⟩ := Cond.instantiable_spec wi
  cases e2.symm.trans i1
  cases e3.symm.trans i2
  obtain ⟨kU, u1, u2⟩ := al.2.2 _ _ e3
  have hB : Blank ST x D P.U := ⟨hD, ⟨knV, fun q hq => by rw [hq] at obV; cases obV⟩, by rw [al.findClass]; exact e2, kU, u1, by rw [u2]; exact i3, by rw [u2]; exact e5 i3⟩
  have F1 : Found ST "value" "[B" fV P.U := ⟨SBG.found_only al ⟨cfV, kV, iV, gV⟩, stV⟩
  have F2 : Found ST "coder" "B" fC P.U := ⟨SBG.found_only al ⟨cfC, kC, iC, gC⟩, stC⟩
  have hA : Ch b A P.U := ⟨⟨K.1, State.isArrayOf_alike al K.2.1, K.2.2, by omega⟩, hty⟩
  have hS : StaticIs P.U ST "COMPACT_STRINGS" "Z" (.int z) := by
    obtain ⟨cfS, iS, kS, fS, st, cS, t1, t2, t3, t4, t5, t6, t7⟩ := S
    exact StaticIs.there (s := { Z with heap := P.U.heap }) ⟨cfS, iS, kS, fS, st, cS, t1, t2, t3, t4, t5, (fun q => by rw [q] at t6; cases t6), t7⟩ al rfl
  obtain ⟨v, B, X', ⟨⟨hv, E', V', q1, q2, q3, q4, q5, q6, q7, q8, q9, q10, q11⟩, hl, hc, hs⟩, st⟩ := New1.pays x D fV fC b A z (tab_of (moved hZ hw)) hfr hlo m meth c P g ig mk _ X hg hsize hdg hW hn ⟨r1, r2, rfl, hB, F1, F2, hA, hS, hz, l0, l2, hp⟩
  have al' : Z.vm.Alike B.U.vm := hZ.alike.trans X'.warmed.alike
  have hsz : E'.slots.size = D.slots.size := by
    obtain ⟨-, -, -, kB, w1, w2, w3⟩ := q1
    obtain ⟨kB', y1, y2⟩ := al'.2.2 _ _ e3
    rw [q2.2.1] at w1
    cases w1.symm.trans y1
    rw [w3, e5 i3, y2]
  refine ⟨v, B, X', ⟨_, ⟨hv, ?_, ⟨by omega, fun y cy hy hn' => q10 y cy (by simpa using hn') hy, fun y cy hy => ?_⟩, q11, ⟨E', _, q1.1, by rw [q2.2.1]; exact e2, by rw [q2.2.1]; exact e3, by rw [q2.1]; exact obV, fun _ => by rw [hsz]; exact e5 i3⟩,
    ⟨E', cfV, kV, iV, fV, q1.1, gV, stV, by rw [q2.1]; exact knV, by rw [q2.1]; exact obV, by rw [q2.2.1]; exact asV, q3⟩, ⟨E', cfC, kC, iC, fC, q1.1, gC, stC, by rw [q2.1]; exact knV, by rw [q2.1]; exact obV, by rw [q2.2.1]; exact asC, q4⟩,
    ⟨V', ⟨q5.1, State.isArrayOf_alike al'.symm q5.2.1, q5.2.2.1⟩, q6, by rw [← al'.findClass]; exact q7, q8, fun j hj => by have := q9 j hj; rwa [Nat.zero_add] at this⟩, fun O n d w F n1 n2 => ?_⟩, hl, hc, hs⟩, st⟩
  · intro y hy
    simp only [List.mem_cons, List.not_mem_nil, or_false] at hy
    rcases hy with rfl | rfl <;> rfl
  · by_cases q : y = x
    · subst q
      cases hD.symm.trans hy
      exact ⟨E', q1.1, q2.2.1, q2.1, hsz⟩
    · exact ⟨cy, q10 y cy q hy, rfl, rfl, rfl⟩
  · obtain ⟨D3, cf, k, i, f, g1, g2, g3, g4, g5, g6, g7⟩ := F
    cases hD.symm.trans g1
    simp only [RoadKit.slotOf, g2, gV, gC, Option.map_some, Option.getD_some] at n1 n2
    exact ⟨E', cf, k, i, f, q1.1, g2, g3, by rw [q2.1]; exact g4, by rw [q2.1]; exact g5, by rw [q2.2.1]; exact g6, by rw [q2.2.2 f.slot (by simp [n1, n2])]; exact g7⟩
end StrChars.Road
namespace StrChars.Road
open Jvm Sem ClassFile Op Lib Jvm.Stand Jvm.Free Jvm.Free.XT
/-- WHAT COMES BACK, the byte[] as a list of values -/
def QA (Z : State) (x : Addr) (zn : Int32) (cs : List Int32) (h : Heap) (v : Option Value) (h' : Heap) (L : List Loc) : Prop := v = none ∧ (∀ y ∈ L, y.base = x) ∧ RoadKit.Keep h h' [x] ∧ h'.size = h.size + 1 ∧ RoadKit.Exa Z h' x ST ∧ RoadKit.Fld Z h' x ST "value" "[B" (.ref h.size) ∧ RoadKit.Fld Z h' x ST "coder" "B" (.int 0) ∧
  (∃ kb, Z.vm.findClass "[B" = some kb ∧ RoadKit.Arv Z h' h.size kb .byte zn (cs.map fun c => .int (lo8 c)) (.int 0)) ∧
  ∀ (O n d : String) (w : Value), RoadKit.Fld Z h x O n d w → RoadKit.slotOf Z O n d ≠ RoadKit.slotOf Z ST "value" "[B" → RoadKit.slotOf Z O n d ≠ RoadKit.slotOf Z ST "coder" "B" → RoadKit.Fld Z h' x O n d w
/-- **new String(chars) AT A CALL, THE ARRAYS AS LISTS**: the char[] at b holds cs, not empty, no char above 255 -/
theorem backArv {p : Program} {l : Launch} {e : Env} {R : Room} {s : State} {args : Array Value} {below : List Frame} {len W : Nat} {Z : State} {a0 : Array Value} {h : Heap} (hZ : Z.Warmed39 s.vm) (hw : ∀ d ∈ words, d.before a0 Z = true) {kI : Nat} (wi : (Jvm.Cond.instantiable ST kI).before a0 Z = true)
    {x b : Addr} {k : ClassId} {zn z : Int32} {cs : List Int32} {dv v0 c0 : Value} (E : RoadKit.Exa Z h x ST) (V : RoadKit.Fld Z h x ST "value" "[B" v0) (C : RoadKit.Fld Z h x ST "coder" "B" c0) (K : RoadKit.Arv Z h b k .char zn (cs.map Value.int) dv) (S : RoadKit.Sta Z h ST "COMPACT_STRINGS" "Z" (.int z)) (hz : ¬ z = 0)
    (hlen : zn.toNatClampNeg = cs.length) (h0 : 0 < cs.length) (hbig : cs.length ≤ 536870912) (hall : ∀ c ∈ cs, ¬ 255 < c) (hfr : 4 ≤ R.frames) (hlo : W + 65 ≤ R.locals) :
    Back l R p e below s args New1.yN len W (fun P a => a = #[.ref x, .ref b] ∧ P.U.heap = h ∧ P.cells + 1 ≤ R.cells ∧ P.slots + cs.length ≤ R.slots)
      (fun P _ v B => ∃ L, QA Z x zn cs h v B.U.heap L ∧ B.locs = P.locs ++ L ∧ B.cells = P.cells + 1 ∧ B.slots = P.slots + cs.length) := by
  obtain ⟨A, K1, K2, K3, K4, K5, K6⟩ := K
  have e : A.slots.size = cs.length := K3.trans hlen
  have hat : ∀ (i : Nat) (hi : i < cs.length), A.slots[i]? = some (.int cs[i]) := fun i hi => by rw [K5 i (by omega)]; simp [List.getD_eq_getElem?_getD, hi]
  have hcv : ∀ (i : Nat) (hi : i < cs.length), cv A i = cs[i] := fun i hi => by unfold cv; rw [hat i hi]
  have hty : Typed .char A := fun i v hv => by
    have hi : i < A.slots.size := (Array.getElem?_eq_some_iff.mp hv).1
    have q := K5 i hi
    rw [hv] at q
    rw [Option.some.inj q]
    exact K6 i hi
  refine Back.mono (back hZ hw wi E V C K1 hty S hz (by omega) (by omega) (fun i hi => by rw [hcv i (by omega)]; exact hall _ (List.getElem_mem _)) hfr hlo) (fun P a hp => ⟨hp.1, hp.2.1, hp.2.2.1, by rw [e]; exact hp.2.2.2⟩) (fun P a v B hp hq => ?_)
  obtain ⟨L, ⟨q1, q2, q3, q4, q5, q6, q7, ⟨V', v1, v2, v3, v4, v5⟩, q9⟩, hl, hc, hs⟩ := hq
  refine ⟨L, ⟨q1, q2, q3, q4, q5, q6, q7, ⟨V'.cls, v3, V', v1, rfl, by rw [v4, e, hlen], K4, fun i hi => ?_, fun i hi => ?_⟩, q9⟩, hl, hc, by rw [hs, e]⟩
  · have hi' : i < cs.length := by omega
    rw [v5 i (by omega), hcv i hi']; simp [List.getD_eq_getElem?_getD, hi']
  · have hi' : i < cs.length := by omega
    simp only [List.getD_eq_getElem?_getD, List.getElem?_map, List.getElem?_eq_getElem hi', Option.map_some, Option.getD_some]
    exact fits_lo8 _
end StrChars.Road
namespace StrChars.Road
open Jvm Sem ClassFile Op Lib Jvm.Stand Jvm.Free Jvm.Free.XT
/-- WHAT COMES BACK, in the writer's own shape -/
def QV (Z : State) (x : Addr) (N : Int32) (bs : List Int32) (h : Heap) (n0 : Nat) (v : Option Value) (h' : Heap) (L : List Loc) : Prop := v = none ∧ RoadKit.Fr n0 L ∧ RoadKit.Keep h h' [x] ∧ RoadKit.Exa Z h' x ST ∧ RoadKit.Fld Z h' x ST "coder" "B" (.int 0) ∧
  ∃ (t : Addr) (kb : ClassId), n0 ≤ t ∧ h.size ≤ t ∧ ¬ t = x ∧ RoadKit.Fld Z h' x ST "value" "[B" (.ref t) ∧ RoadKit.Arv Z h' t kb .byte N (bs.map Value.int) (.int 0)
/-- **new String(chars) AT A CALL, FOR THE WRITER**: a char[] of n known ints, each 0 to 255 -/
theorem backV {p : Program} {l : Launch} {e : Env} {R : Room} {s : State} {args : Array Value} {below : List Frame} {len W : Nat} {Z : State} {a0 : Array Value} {h : Heap} (hZ : Z.Warmed39 s.vm) (hw : ∀ d ∈ words, d.before a0 Z = true) {kI : Nat} (wi : (Jvm.Cond.instantiable ST kI).before a0 Z = true)
    {x b : Addr} {kC : ClassId} {cs bs : List Int32} {d v0 c0 : Value} {z N : Int32} {n n0 : Nat} (hx0 : n0 ≤ x) (hh0 : n0 ≤ h.size) (E : RoadKit.Exa Z h x ST) (V : RoadKit.Fld Z h x ST "value" "[B" v0) (C : RoadKit.Fld Z h x ST "coder" "B" c0) (K : RoadKit.Arv Z h b kC .char N (cs.map Value.int) d) (S : RoadKit.Sta Z h ST "COMPACT_STRINGS" "Z" (.int z)) (hz : ¬ z = 0)
    (hn : cs.length = n) (hN : N = Int32.ofNat n) (l0 : 0 < n) (l2 : n ≤ 4000) (hp : ∀ c ∈ cs, ¬ c < 0 ∧ ¬ (255 : Int32) < c) (hb : bs = cs.map (fun c => c.toInt8.toInt32)) (hfr : 4 ≤ R.frames) (hlo : W + 65 ≤ R.locals) :
    Back l R p e below s args (⟨"java/lang/String", "<init>", "([C)V"⟩ : MethodName) len W (fun P a => a = #[.ref x, .ref b] ∧ P.U.heap = h ∧ P.cells + 1 ≤ R.cells ∧ P.slots + n ≤ R.slots)
      (fun P _ v B => ∃ L, QV Z x N bs h n0 v B.U.heap L ∧ B.locs = P.locs ++ L ∧ B.cells = P.cells + 1 ∧ B.slots = P.slots + n) := by
  subst hn hN hb
  refine Back.mono (backArv hZ hw wi E V C K S hz (n32 (by omega)) l0 (by omega) (fun c hc => (hp c hc).2) hfr hlo) (fun P a hp => hp) (fun P a v B hp hq => ?_)
  obtain ⟨L, ⟨q1, q2, q3, q4, q5, q6, q7, ⟨kb, v1, v2⟩, q9⟩, hl, hc, hs⟩ := hq
  exact ⟨L, ⟨q1, fun y hy => by rw [q2 y hy]; exact hx0, q3, q5, q7, h.size, kb, hh0, Nat.le_refl _, Nat.ne_of_gt E.lt, q6, by rw [List.map_map]; exact v2⟩, hl, hc, hs⟩
end StrChars.Road
namespace StrChars
open Jvm Sem ClassFile Op Lib Jvm.Stand Jvm.Free.XT Jvm.Free.ALB Jvm.Free.JM Jvm.Free
open Jvm.Lib.Cold (StaticIs)
def hi8 (x : Int32) : Int32 := lo8 (x >>> ((8 : Int32) &&& 31))
/-- what StringUTF16.getChar makes of two bytes -/
def pairCh (u v : Int32) : Int32 := (((u &&& 255) <<< ((0 : Int32) &&& 31)) ||| ((v &&& 255) <<< ((8 : Int32) &&& 31))).toUInt32.toUInt16.toUInt32.toInt32
theorem shr0 (c : Int32) : c >>> ((0 : Int32) &&& 31) = c := by
  have e : ((0 : Int32) &&& 31) = 0 := by decide
  rw [e]
  apply Int32.toBitVec_inj.mp
  rw [Int32.toBitVec_shiftRight]
  have e1 : ((0 : Int32).toBitVec.smod 32) = 0#32 := by decide
  rw [e1, BitVec.sshiftRight_eq']
  exact BitVec.sshiftRight_zero
theorem lo8_and (x : Int32) : (lo8 x &&& 255).toBitVec.toNat = x.toBitVec.toNat % 256 := by
  have h : (lo8 x).toBitVec = (x.toBitVec.signExtend 8).signExtend 32 := by rw [lo8, Int8.toBitVec_toInt32, Int32.toBitVec_toInt8]
  rw [Int32.toBitVec_and, BitVec.toNat_and, h]
  have e : ((x.toBitVec.signExtend 8).signExtend 32).toNat % 256 = x.toBitVec.toNat % 256 := by
    rw [BitVec.toNat_signExtend]
    have hlt := x.toBitVec.isLt
    simp only [BitVec.toNat_setWidth, BitVec.toNat_signExtend]
    split <;> split <;> omega
  rw [← e]
  exact Nat.and_two_pow_sub_one_eq_mod _ 8
theorem pair_says {c : Int32} (h0 : ¬ c < 0) (h1 : ¬ 65535 < c) : pairCh (lo8 c) (hi8 c) = c := by
  rw [Int32.lt_iff_toInt_lt] at h0 h1
  have e0 : (0 : Int32).toInt = 0 := rfl
  have e1 : (65535 : Int32).toInt = 65535 := rfl
  have hc : c.toInt = c.toBitVec.toNat := by
    have := c.toBitVec.isLt
    have e : c.toInt = c.toBitVec.toInt := rfl
    rw [e] at h0 h1
    rw [e]
    rw [BitVec.toInt_eq_toNat_cond] at h0 h1 ⊢
    split at h0 <;> split <;> omega
  have hn : c.toBitVec.toNat < 65536 := by omega
  have a1 := lo8_and c
  have a2 : (hi8 c &&& 255).toBitVec.toNat = c.toBitVec.toNat / 256 := by
    rw [hi8, lo8_and]
    have e : ((8 : Int32) &&& 31) = 8 := by decide
    rw [e, Int32.toBitVec_shiftRight]
    have e2 : ((8 : Int32).toBitVec.smod 32) = 8#32 := by decide
    rw [e2, BitVec.sshiftRight_eq', BitVec.toNat_sshiftRight_of_msb_false (by rw [BitVec.msb_eq_false_iff_two_mul_lt]; omega)]
    show c.toBitVec.toNat >>> 8 % 256 = _
    rw [Nat.shiftRight_eq_div_pow]
    omega
  unfold pairCh
  apply Int32.toBitVec_inj.mp
  apply BitVec.eq_of_toNat_eq
  have f0 : ((0 : Int32) &&& 31) = 0 := by decide
  have f8 : ((8 : Int32) &&& 31) = 8 := by decide
  rw [f0, f8]
  have g : (((lo8 c &&& 255) <<< (0 : Int32)) ||| ((hi8 c &&& 255) <<< (8 : Int32))).toBitVec.toNat = c.toBitVec.toNat := by
    rw [Int32.toBitVec_or, Int32.toBitVec_shiftLeft, Int32.toBitVec_shiftLeft]
    have s0 : ((0 : Int32).toBitVec.smod 32) = 0#32 := by decide
    have s8 : ((8 : Int32).toBitVec.smod 32) = 8#32 := by decide
    rw [s0, s8, BitVec.toNat_or]
    simp only [BitVec.shiftLeft_eq', BitVec.toNat_shiftLeft, a1, a2]
    show (c.toBitVec.toNat % 256) <<< 0 % 2 ^ 32 ||| (c.toBitVec.toNat / 256) <<< 8 % 2 ^ 32 = _
    rw [Nat.shiftLeft_zero, Nat.mod_eq_of_lt (show c.toBitVec.toNat % 256 < 2 ^ 32 by omega), Nat.mod_eq_of_lt (show (c.toBitVec.toNat / 256) <<< 8 < 2 ^ 32 by rw [Nat.shiftLeft_eq]; omega), Nat.or_comm, ← Nat.shiftLeft_add_eq_or_of_lt (by omega), Nat.shiftLeft_eq]
    omega
  show BitVec.toNat (((((lo8 c &&& 255) <<< (0 : Int32)) ||| ((hi8 c &&& 255) <<< (8 : Int32))).toBitVec.setWidth 16).setWidth 32) = _
  rw [BitVec.toNat_setWidth, BitVec.toNat_setWidth, g]
  omega
end StrChars
namespace StrChars
open Jvm Sem ClassFile Op Lib Jvm.Stand Jvm.Free.XT Jvm.Free.ALB Jvm.Free.JM Jvm.Free
open Jvm.Lib.Cold (StaticIs)
theorem shr1 {n : Nat} (h : 2 * n < 2 ^ 31) : Int32.ofNat (2 * n) >>> ((1 : Int32) &&& 31) = Int32.ofNat n := by
  have e : ((1 : Int32) &&& 31) = 1 := by decide
  rw [e]
  apply Int32.toBitVec_inj.mp
  rw [Int32.toBitVec_shiftRight]
  have e1 : ((1 : Int32).toBitVec.smod 32) = 1#32 := by decide
  have hm : (BitVec.ofNat 32 (2 * n)).toNat = 2 * n := by rw [BitVec.toNat_ofNat, Nat.mod_eq_of_lt (by omega)]
  rw [e1, BitVec.sshiftRight_eq']
  apply BitVec.eq_of_toNat_eq
  show ((BitVec.ofNat 32 (2 * n)).sshiftRight 1).toNat = (BitVec.ofNat 32 n).toNat
  rw [BitVec.toNat_sshiftRight_of_msb_false (by rw [BitVec.msb_eq_false_iff_two_mul_lt, hm]; omega), hm, BitVec.toNat_ofNat, Nat.shiftRight_eq_div_pow]
  omega
/-- charAt's cast of a byte read back -/
def chr8 (u : Int32) : Int32 := (u &&& 255).toUInt32.toUInt16.toUInt32.toInt32
theorem chr8_lo8 {c : Int32} (h0 : ¬ c < 0) (h1 : ¬ 255 < c) : chr8 (lo8 c) = c := by
  have t : ∀ k : Fin 256, (Int32.ofNat k.val).toUInt32.toUInt16.toUInt32.toInt32 = Int32.ofNat k.val := by decide +kernel
  unfold chr8
  rw [lo8_mask h0 h1]
  rw [Int32.lt_iff_toInt_lt] at h0 h1
  have e0 : (0 : Int32).toInt = 0 := rfl
  have e1 : (255 : Int32).toInt = 255 := rfl
  obtain ⟨k, hk⟩ : ∃ k : Nat, c.toInt = k := ⟨c.toInt.toNat, by omega⟩
  have hx : c = Int32.ofNat k := Int32.toInt_inj.mp (by rw [hk, Int32.toInt_ofNat_small (by omega)])
  rw [hx]
  exact t ⟨k, by omega⟩
theorem narrow_ch {c : Int32} (h0 : ¬ c < 0) (h1 : ¬ 65535 < c) : narrow .char (.int c) = .int c := by
  have q : narrow .char (.int (pairCh (lo8 c) (hi8 c))) = .int (pairCh (lo8 c) (hi8 c)) := narrow_c _
  rwa [pair_says h0 h1] at q
/-- the array's cell V codes the n chars f 0 .. f (n - 1) by the coder cd, as the JDK does: coder 1 just where some char is above 255 -/
def Cod (cd : Int32) (n : Nat) (f : Nat → Int32) (V : Cell) : Prop := (cd = 0 ∧ V.slots.size = n ∧ ∀ j, j < n → V.slots[j]? = some (.int (lo8 (f j))) ∧ ¬ 255 < f j) ∨ (cd = 1 ∧ V.slots.size = 2 * n ∧ (∀ j, j < n → V.slots[2 * j]? = some (.int (lo8 (f j))) ∧ V.slots[2 * j + 1]? = some (.int (hi8 (f j)))) ∧ ∃ j, j < n ∧ 255 < f j)
theorem Cod.cd {cd : Int32} {n : Nat} {f : Nat → Int32} {V : Cell} (h : Cod cd n f V) : cd = 0 ∨ cd = 1 := h.imp (fun q => q.1) fun q => q.1
theorem Cod.len {cd : Int32} {n : Nat} {f : Nat → Int32} {V : Cell} (h : Cod cd n f V) (hs : V.slots.size < 2 ^ 31) : Int32.ofNat V.slots.size >>> (cd &&& 31) = Int32.ofNat n := by
  rcases h with ⟨rfl, h, -⟩ | ⟨rfl, h, -⟩
  · rw [shr0, h]
  · rw [h, shr1 (by omega)]
/-- **x is a String of the n chars f 0 .. f (n - 1)**, Latin-1 or UTF-16; its array at t has the cell V -/
def Txt (x t : Addr) (V : Cell) (cd : Int32) (n : Nat) (f : Nat → Int32) (U : State) : Prop := Exact "java/lang/String" x U ∧ Has x "java/lang/String" "value" "[B" (.ref t) U ∧ Has x "java/lang/String" "coder" "B" (.int cd) U ∧ XT.Arr .byte t V U ∧ Cod cd n f V ∧ ∀ j, j < n → ¬ f j < 0 ∧ ¬ 65535 < f j
theorem Txt.mv {x t : Addr} {V : Cell} {cd : Int32} {n : Nat} {f : Nat → Int32} {U U' : State} (h : Txt x t V cd n f U) (hal : U.vm.Alike U'.vm) (hh : U'.heap = U.heap) : Txt x t V cd n f U' := ⟨h.1.mv hal hh, h.2.1.mv hal hh, h.2.2.1.mv hal hh, h.2.2.2.1.mv hal hh, h.2.2.2.2⟩
namespace Cdr
def yN : MethodName := ⟨"java/lang/String", "coder", "()B"⟩
abbrev yB : ByteArray := jdk_42_method_152_code
theorem d0 : decode yB 0 = .ok (.getstatic 38, 3) := by decide +kernel
theorem d3 : decode yB 3 = .ok (.ifCond (.eq) 10, 3) := by decide +kernel
theorem d6 : decode yB 6 = .ok (.aload_n 0, 1) := by decide +kernel
theorem d7 : decode yB 7 = .ok (.getfield 15, 3) := by decide +kernel
theorem d10 : decode yB 10 = .ok (.goto 4, 3) := by decide +kernel
theorem d14 : decode yB 14 = .ok (.ireturn, 1) := by decide +kernel
def site : List Cond := [.fieldLink "java/lang/String" 38 "java/lang/String" "COMPACT_STRINGS" "Z", .fieldLink "java/lang/String" 15 "java/lang/String" "coder" "B"]
def tab : Cond := tabOf yN yB 1 (some .byte) site
def P (x : Addr) (cd z : Int32) (args : Array Value) (s : State) : Prop := args = #[.ref x] ∧ Has x "java/lang/String" "coder" "B" (.int cd) s ∧ (cd = 0 ∨ cd = 1) ∧ StaticIs s "java/lang/String" "COMPACT_STRINGS" "Z" (.int z) ∧ ¬ z = 0
def E (cd : Int32) (r : Option Value) (s u : State) : Prop := XT.PureE (some (.int cd)) r s u
theorem law (l : Launch) (x : Addr) (cd z : Int32) : Law l yN 1 0 0 0 yB 1 (some .byte) site (P x cd z) (E cd) [] 0 0 := by
  refine Law.of_walk (plainFor_of_name (by decide +kernel)) (by decide +kernel) (by decide +kernel) (by decide) (fun _ _ h => by rw [h.1]; rfl) (fun _ U U' hal hh h => ⟨h.1, h.2.1.mv hal hh, h.2.2.1, h.2.2.2.1.there hal hh, h.2.2.2.2⟩) (fun r U U' V V' h1 hal h2 h => XT.PureE.mv r U U' V V' h1 hal h2 h) ?_
  intro p e s m args below meth c s₁ X0 hexec hbytes hml hret hlk hnm hown hh0 W hP
  obtain ⟨rfl, hx, hc, s1, hz⟩ := hP
  have c1 : Steps p.tables e below (s₁.setTop (entryFrame m #[.ref x] 1)) (s₁.setTop (mkF m 0 #[.val (.ref x)] [])) := entry rfl
  obtain ⟨T2, X2, q2, st2⟩ := X0.sget hexec hown (wk W (.fieldLink "java/lang/String" 38 "java/lang/String" "COMPACT_STRINGS" "Z")) s1 (fun _ _ h => by rw [hh0]; exact h) (g := (mkF m 0 #[.val (.ref x)] [])) rfl (hb hbytes d0)
  have hh2 := q2.trans hh0
  have c3 : Steps p.tables e below (s₁.setTop (entryFrame m #[.ref x] 1)) (T2.setTop (mkF m 7 #[.val (.ref x)] [.ref x])) := (c1.trans (st2 _ (Steps.refl _))).trans (by
    refine XS.ifNo X2.here hexec rfl (hb hbytes d3) rfl (i0_eq_f hz) ?_
    refine XS.aloadN X2.here hexec rfl (hb hbytes d6) rfl rfl ?_
    exact Steps.refl _)
  obtain ⟨T4, X4, q4, st4⟩ := X2.hget hexec hown (wk W (.fieldLink "java/lang/String" 15 "java/lang/String" "coder" "B")) (hx.mv X2.warmed.alike hh2) (g := (mkF m 7 #[.val (.ref x)] [.ref x])) rfl (rest := []) rfl (hb hbytes d7)
  have c5 : Steps p.tables e below (s₁.setTop (entryFrame m #[.ref x] 1)) (T4.setTop (mkF m 14 #[.val (.ref x)] [.int cd])) := (c3.trans (st4 _ (Steps.refl _))).trans (by
    refine XS.goto X4.here hexec rfl (pc0 := 10) rfl (hb hbytes d10) (by decide) rfl ?_
    exact Steps.refl _)
  exact ⟨T4, some (.int cd), _, _, _, X4, rfl, rfl, rfl, (fun h => by cases h), ⟨rfl, q4.trans hh2⟩, fun fs hl => c5.trans (X4.ireturnOut hexec hret (by rcases hc with rfl | rfl <;> rfl) (Or.inr (Or.inr (Or.inl rfl))) (hb hbytes d14) hl)⟩
end Cdr
namespace Len
def yN : MethodName := ⟨"java/lang/String", "length", "()I"⟩
abbrev yB : ByteArray := jdk_42_method_54_code
theorem d0 : decode yB 0 = .ok (.aload_n 0, 1) := by decide +kernel
theorem d1 : decode yB 1 = .ok (.getfield 9, 3) := by decide +kernel
theorem d4 : decode yB 4 = .ok (.arraylength, 1) := by decide +kernel
theorem d5 : decode yB 5 = .ok (.aload_n 0, 1) := by decide +kernel
theorem d6 : decode yB 6 = .ok (.invokevirtual 335, 3) := by decide +kernel
theorem d9 : decode yB 9 = .ok (.ishr, 1) := by decide +kernel
theorem d10 : decode yB 10 = .ok (.ireturn, 1) := by decide +kernel
def site : List Cond := [.fieldLink "java/lang/String" 9 "java/lang/String" "value" "[B", Cdr.tab] ++ virtW "java/lang/String" 335 "java/lang/String" Cdr.yN Cdr.yN
def tab : Cond := tabOf yN yB 1 (some .int) site
def P (x t : Addr) (V : Cell) (cd : Int32) (n : Nat) (f : Nat → Int32) (z : Int32) (args : Array Value) (s : State) : Prop := args = #[.ref x] ∧ Txt x t V cd n f s ∧ StaticIs s "java/lang/String" "COMPACT_STRINGS" "Z" (.int z) ∧ ¬ z = 0
def E (n : Nat) (r : Option Value) (s u : State) : Prop := XT.PureE (some (.int (Int32.ofNat n))) r s u
/-- length() of a String of n chars, in either coding -/
theorem law (l : Launch) (x t : Addr) (V : Cell) (cd : Int32) (n : Nat) (f : Nat → Int32) (z : Int32) : Law l yN 1 0 1 13 yB 1 (some .int) site (P x t V cd n f z) (E n) [] 0 0 := by
  refine Law.of_walk (plainFor_of_name (by decide +kernel)) (by decide +kernel) (by decide +kernel) (by decide) (fun _ _ h => by rw [h.1]; rfl) (fun _ U U' hal hh h => ⟨h.1, h.2.1.mv hal hh, h.2.2.1.there hal hh, h.2.2.2⟩) (fun r U U' V V' h1 hal h2 h => XT.PureE.mv r U U' V V' h1 hal h2 h) ?_
  intro p e s m args below meth c s₁ X0 hexec hbytes hml hret hlk hnm hown hh0 W hP
  obtain ⟨rfl, hx, s1, hz⟩ := hP
  have v31 := hx.2.2.2.1.2.2.2
  have c1 : Steps p.tables e below (s₁.setTop (entryFrame m #[.ref x] 1)) (s₁.setTop (mkF m 1 #[.val (.ref x)] [.ref x])) := Steps.trans (entry rfl) (by
    show Steps p.tables e below (s₁.setTop (mkF m 0 #[.val (.ref x)] [])) _
    refine XS.aloadN X0.here hexec rfl (hb hbytes d0) rfl rfl ?_
    exact Steps.refl _)
  obtain ⟨T2, X2, q2, st2⟩ := X0.hget hexec hown (wk W (.fieldLink "java/lang/String" 9 "java/lang/String" "value" "[B")) (hx.mv X0.warmed.alike hh0).2.1 (g := (mkF m 1 #[.val (.ref x)] [.ref x])) rfl (rest := []) rfl (hb hbytes d1)
  have hh2 := q2.trans hh0
  have hx2 := hx.mv X2.warmed.alike hh2
  have c3 : Steps p.tables e below (s₁.setTop (entryFrame m #[.ref x] 1)) (T2.setTop (mkF m 6 #[.val (.ref x)] [.ref x, .int (Int32.ofNat V.slots.size)])) := (c1.trans (st2 _ (Steps.refl _))).trans (by
    refine X2.alen hexec hx2.2.2.2.1 rfl rfl (hb hbytes d4) ?_
    refine XS.aloadN X2.here hexec rfl (hb hbytes d5) rfl rfl ?_
    exact Steps.refl _)
  obtain ⟨v4, T4, X4, E4, g4⟩ := X2.callV hexec (Cdr.law l x cd z) hown (wks W (virtW "java/lang/String" 335 "java/lang/String" Cdr.yN Cdr.yN)) rfl (by decide) (wk W Cdr.tab) (W := 1) (Nat.le_of_ble_eq_true rfl) (Nat.le_of_ble_eq_true rfl) (Nat.le_refl _) (Nat.le_refl _) (hx2.1.fc X2.warmed.alike) hx2.1.is (g := (mkF m 6 #[.val (.ref x)] [.ref x, .int (Int32.ofNat V.slots.size)])) rfl (by rw [hml]; rfl) c3 (argsL := []) (rest := [.int (Int32.ofNat V.slots.size)]) rfl rfl (by show 2 * 0 + (1 + 0) ≤ _; decide) (hb hbytes d6) (⟨rfl, hx2.2.2.1, hx.2.2.2.2.1.cd, s1.there X2.warmed.alike hh2, hz⟩)
  obtain ⟨rfl, q4⟩ := E4
  have c5 : Steps p.tables e below (s₁.setTop (entryFrame m #[.ref x] 1)) (T4.setTop (mkF m 10 #[.val (.ref x)] [.int (Int32.ofNat V.slots.size >>> (cd &&& 31))])) := Steps.trans g4 (by
    refine ishr X4.here hexec rfl (hb hbytes d9) rfl ?_
    exact Steps.refl _)
  rw [hx.2.2.2.2.1.len v31] at c5
  exact ⟨T4, some (.int (Int32.ofNat n)), _, _, _, X4, rfl, rfl, rfl, (fun h => by cases h), ⟨rfl, q4.trans hh2⟩, fun fs hl => c5.trans (X4.ireturnOut hexec hret rfl (Or.inl rfl) (hb hbytes d10) hl)⟩
theorem pays {l : Launch} {R : Room} {p : Program} {e : Env} {below : List Frame} {s : State} {sargs : Array Value} {len W : Nat} (x t : Addr) (V : Cell) (cd : Int32) (n : Nat) (f : Nat → Int32) (z : Int32) (htab : tab.before sargs s = true) (hfr : 2 ≤ R.frames) (hlo : W + 25 ≤ R.locals) :
    Back l R p e below s sargs yN len W (fun A₁ a₁ => A₁.cells + 0 ≤ R.cells ∧ A₁.slots + 0 ≤ R.slots ∧ P x t V cd n f z a₁ A₁.U) (fun A₁ _ v₁ B₁ => E n v₁ A₁.U B₁.U ∧ B₁.locs = A₁.locs ++ [] ∧ B₁.cells = A₁.cells + 0 ∧ B₁.slots = A₁.slots + 0) :=
  (law l x t V cd n f z).pays htab hfr (by omega)
end Len
namespace IsL
def yN : MethodName := ⟨"java/lang/String", "isLatin1", "()Z"⟩
abbrev yB : ByteArray := jdk_42_method_154_code
theorem d0 : decode yB 0 = .ok (.getstatic 38, 3) := by decide +kernel
theorem d3 : decode yB 3 = .ok (.ifCond (.eq) 14, 3) := by decide +kernel
theorem d6 : decode yB 6 = .ok (.aload_n 0, 1) := by decide +kernel
theorem d7 : decode yB 7 = .ok (.getfield 15, 3) := by decide +kernel
theorem d10 : decode yB 10 = .ok (.ifCond (.ne) 7, 3) := by decide +kernel
theorem d13 : decode yB 13 = .ok (.iconst 1, 1) := by decide +kernel
theorem d14 : decode yB 14 = .ok (.goto 4, 3) := by decide +kernel
theorem d17 : decode yB 17 = .ok (.iconst 0, 1) := by decide +kernel
theorem d18 : decode yB 18 = .ok (.ireturn, 1) := by decide +kernel
def site : List Cond := [.fieldLink "java/lang/String" 38 "java/lang/String" "COMPACT_STRINGS" "Z", .fieldLink "java/lang/String" 15 "java/lang/String" "coder" "B"]
def tab : Cond := tabOf yN yB 1 (some .boolean) site
def P (x : Addr) (cd z : Int32) (args : Array Value) (s : State) : Prop := args = #[.ref x] ∧ Has x "java/lang/String" "coder" "B" (.int cd) s ∧ (cd = 0 ∨ cd = 1) ∧ StaticIs s "java/lang/String" "COMPACT_STRINGS" "Z" (.int z) ∧ ¬ z = 0
def E (cd : Int32) (r : Option Value) (s u : State) : Prop := XT.PureE (some (.int (1 - cd))) r s u
theorem law (l : Launch) (x : Addr) (cd z : Int32) : Law l yN 1 0 0 0 yB 1 (some .boolean) site (P x cd z) (E cd) [] 0 0 := by
  refine Law.of_walk (plainFor_of_name (by decide +kernel)) (by decide +kernel) (by decide +kernel) (by decide) (fun _ _ h => by rw [h.1]; rfl) (fun _ U U' hal hh h => ⟨h.1, h.2.1.mv hal hh, h.2.2.1, h.2.2.2.1.there hal hh, h.2.2.2.2⟩) (fun r U U' V V' h1 hal h2 h => XT.PureE.mv r U U' V V' h1 hal h2 h) ?_
  intro p e s m args below meth c s₁ X0 hexec hbytes hml hret hlk hnm hown hh0 W hP
  obtain ⟨rfl, hx, hc, s1, hz⟩ := hP
  have c1 : Steps p.tables e below (s₁.setTop (entryFrame m #[.ref x] 1)) (s₁.setTop (mkF m 0 #[.val (.ref x)] [])) := entry rfl
  obtain ⟨T2, X2, q2, st2⟩ := X0.sget hexec hown (wk W (.fieldLink "java/lang/String" 38 "java/lang/String" "COMPACT_STRINGS" "Z")) s1 (fun _ _ h => by rw [hh0]; exact h) (g := (mkF m 0 #[.val (.ref x)] [])) rfl (hb hbytes d0)
  have hh2 := q2.trans hh0
  have c3 : Steps p.tables e below (s₁.setTop (entryFrame m #[.ref x] 1)) (T2.setTop (mkF m 7 #[.val (.ref x)] [.ref x])) := (c1.trans (st2 _ (Steps.refl _))).trans (by
    refine XS.ifNo X2.here hexec rfl (hb hbytes d3) rfl (i0_eq_f hz) ?_
    refine XS.aloadN X2.here hexec rfl (hb hbytes d6) rfl rfl ?_
    exact Steps.refl _)
  obtain ⟨T4, X4, q4, st4⟩ := X2.hget hexec hown (wk W (.fieldLink "java/lang/String" 15 "java/lang/String" "coder" "B")) (hx.mv X2.warmed.alike hh2) (g := (mkF m 7 #[.val (.ref x)] [.ref x])) rfl (rest := []) rfl (hb hbytes d7)
  have c5 : Steps p.tables e below (s₁.setTop (entryFrame m #[.ref x] 1)) (T4.setTop (mkF m 10 #[.val (.ref x)] [.int cd])) := c3.trans (st4 _ (Steps.refl _))
  have c6 : Steps p.tables e below (s₁.setTop (entryFrame m #[.ref x] 1)) (T4.setTop (mkF m 18 #[.val (.ref x)] [.int (1 - cd)])) := by
    rcases hc with rfl | rfl
    · exact c5.trans (by
        refine XS.ifNo X4.here hexec rfl (hb hbytes d10) rfl (i0_ne_f rfl) ?_
        refine iconstV X4.here hexec rfl 1 (hb hbytes d13) (by decide) ?_
        refine XS.goto X4.here hexec rfl (pc0 := 14) rfl (hb hbytes d14) (by decide) rfl ?_
        exact Steps.refl _)
    · exact c5.trans (by
        refine XS.ifYes X4.here hexec rfl (pc0 := 10) rfl (hb hbytes d10) rfl (i0_ne_t (by decide)) (by decide) rfl ?_
        refine iconstV X4.here hexec rfl 0 (hb hbytes d17) (by decide) ?_
        exact Steps.refl _)
  exact ⟨T4, some (.int (1 - cd)), _, _, _, X4, rfl, rfl, rfl, (fun h => by cases h), ⟨rfl, q4.trans hh2⟩, fun fs hl => c6.trans (X4.ireturnOut hexec hret (by rcases hc with rfl | rfl <;> rfl) (Or.inr (Or.inl rfl)) (hb hbytes d18) hl)⟩
end IsL
namespace LChA
def yN : MethodName := ⟨"java/lang/StringLatin1", "charAt", "([BI)C"⟩
abbrev yB : ByteArray := jdk_43_method_2_code
theorem d0 : decode yB 0 = .ok (.iload_n 1, 1) := by decide +kernel
theorem d1 : decode yB 1 = .ok (.aload_n 0, 1) := by decide +kernel
theorem d2 : decode yB 2 = .ok (.arraylength, 1) := by decide +kernel
theorem d3 : decode yB 3 = .ok (.invokestatic 9, 3) := by decide +kernel
theorem d6 : decode yB 6 = .ok (.aload_n 0, 1) := by decide +kernel
theorem d7 : decode yB 7 = .ok (.iload_n 1, 1) := by decide +kernel
theorem d8 : decode yB 8 = .ok (.baload, 1) := by decide +kernel
theorem d9 : decode yB 9 = .ok (.sipush 255, 3) := by decide +kernel
theorem d12 : decode yB 12 = .ok (.iand, 1) := by decide +kernel
theorem d13 : decode yB 13 = .ok (.i2c, 1) := by decide +kernel
theorem d14 : decode yB 14 = .ok (.ireturn, 1) := by decide +kernel
def site : List Cond := [JO.Str_checkIndex.tab] ++ staticW "java/lang/StringLatin1" 9 JO.Str_checkIndex.yN
def tab : Cond := tabOf yN yB 2 (some .char) site
def P (t : Addr) (V : Cell) (i : Nat) (u : Int32) (fm : Value) (args : Array Value) (s : State) : Prop := args = #[.ref t, .int (Int32.ofNat i)] ∧ XT.Arr .byte t V s ∧ V.slots[i]? = some (.int u) ∧ (StaticIs s "jdk/internal/util/Preconditions" "SIOOBE_FORMATTER" "Ljava/util/function/BiFunction;" fm ∧ fm.isRef = true)
def E (u : Int32) (r : Option Value) (s w : State) : Prop := XT.PureE (some (.int (chr8 u))) r s w
theorem law (l : Launch) (t : Addr) (V : Cell) (i : Nat) (u : Int32) (fm : Value) : Law l yN 2 2 2 27 yB 2 (some .char) site (P t V i u fm) (E u) [] 0 0 := by
  refine Law.of_walk (plainFor_of_name (by decide +kernel)) (by decide +kernel) (by decide +kernel) (by decide) (fun _ _ h => by rw [h.1]; rfl) (fun _ U U' hal hh h => ⟨h.1, h.2.1.mv hal hh, h.2.2.1, h.2.2.2.1.there hal hh, h.2.2.2.2⟩) (fun r U U' V V' h1 hal h2 h => XT.PureE.mv r U U' V V' h1 hal h2 h) ?_
  intro p e s m args below meth c s₁ X0 hexec hbytes hml hret hlk hnm hown hh0 W hP
  obtain ⟨rfl, hV, hu, s1, rf⟩ := hP
  have v31 := hV.2.2.2
  have hi : i < V.slots.size := (Array.getElem?_eq_some_iff.mp hu).1
  have c1 : Steps p.tables e below (s₁.setTop (entryFrame m #[.ref t, .int (Int32.ofNat i)] 2)) (s₁.setTop (mkF m 0 #[.val (.ref t), .val (.int (Int32.ofNat i))] [])) := entry rfl
  have c2 : Steps p.tables e below (s₁.setTop (entryFrame m #[.ref t, .int (Int32.ofNat i)] 2)) (s₁.setTop (mkF m 3 #[.val (.ref t), .val (.int (Int32.ofNat i))] [.int (Int32.ofNat V.slots.size), .int (Int32.ofNat i)])) := c1.trans (by
    refine XS.iloadN X0.here hexec rfl (hb hbytes d0) rfl ?_
    refine XS.aloadN X0.here hexec rfl (hb hbytes d1) rfl rfl ?_
    refine X0.alen hexec (hV.mv X0.warmed.alike hh0) rfl rfl (hb hbytes d2) ?_
    exact Steps.refl _)
  obtain ⟨v3, T3, X3, E3, g3⟩ := X0.callS hexec (JO.Str_checkIndex.law l (Int32.ofNat i) (Int32.ofNat V.slots.size) fm) hown (wks W (staticW "java/lang/StringLatin1" 9 JO.Str_checkIndex.yN)) (wk W JO.Str_checkIndex.tab) (W := 0) (Nat.le_of_ble_eq_true rfl) (Nat.le_of_ble_eq_true rfl) (Nat.le_refl _) (Nat.le_refl _) (g := (mkF m 3 #[.val (.ref t), .val (.int (Int32.ofNat i))] [.int (Int32.ofNat V.slots.size), .int (Int32.ofNat i)])) rfl (by rw [hml]; rfl) c2 (argsL := [.int (Int32.ofNat i), .int (Int32.ofNat V.slots.size)]) (rest := []) rfl rfl (by show 2 * 0 + 0 ≤ _; decide) (hb hbytes d3) (⟨rfl, rf, s1.there X0.warmed.alike hh0, Int32.ofNat_not_neg (by omega), lt32 v31 hi⟩)
  obtain ⟨rfl, q3⟩ := E3
  have hh3 := q3.trans hh0
  have c4 : Steps p.tables e below (s₁.setTop (entryFrame m #[.ref t, .int (Int32.ofNat i)] 2)) (T3.setTop (mkF m 14 #[.val (.ref t), .val (.int (Int32.ofNat i))] [.int (chr8 u)])) := Steps.trans g3 (by
    refine XS.aloadN X3.here hexec rfl (hb hbytes d6) rfl rfl ?_
    refine XS.iloadN X3.here hexec rfl (hb hbytes d7) rfl ?_
    refine X3.aget hexec (hV.mv X3.warmed.alike hh3) rfl hu rfl rfl (hb hbytes d8) ?_
    refine sipushV X3.here hexec rfl 255 (hb hbytes d9) (by decide) ?_
    refine XS.iand X3.here hexec rfl (hb hbytes d12) rfl ?_
    refine i2c X3.here hexec rfl (hb hbytes d13) rfl ?_
    exact Steps.refl _)
  exact ⟨T3, some (.int (chr8 u)), _, _, _, X3, rfl, rfl, rfl, (fun h => by cases h), ⟨rfl, hh3⟩, fun fs hl => c4.trans (X3.ireturnOut hexec hret (narrow_c _) (Or.inr (Or.inr (Or.inr (Or.inl rfl)))) (hb hbytes d14) hl)⟩
end LChA
end StrChars
namespace StrChars.Road
open Jvm Sem ClassFile Op Lib Jvm.Stand Jvm.Free Jvm.Free.XT
open Jvm.Lib.Cold (StaticIs)
theorem consq {a : Array Value} {s : State} {c : Jvm.Cond} {L : List Jvm.Cond} (h0 : c.before a s = true) (h : ∀ w ∈ L, w.before a s = true) : ∀ w ∈ c :: L, w.before a s = true := fun w hw => (List.mem_cons.mp hw).elim (fun e => e ▸ h0) (h w)
/-- the words of String.length(), either coding -/
abbrev wordsLen : List Jvm.Cond := [.code Len.yN Len.yB 1 (some .int), .initialized ST, .fieldLink ST 9 ST "value" "[B", .fieldLink ST 38 ST "COMPACT_STRINGS" "Z", .fieldLink ST 15 ST "coder" "B", .code Cdr.yN Cdr.yB 1 (some .byte), .methodLink ST 335 Cdr.yN, .declares Cdr.yN, .selects ST Cdr.yN Cdr.yN, .instanceMethod Cdr.yN]
theorem tabLen_of {a : Array Value} {s : State} (h : ∀ w ∈ wordsLen, w.before a s = true) : Len.tab.before a s = true := by
  have hc : Cdr.tab.before a s = true := unparts (wk h (.code Cdr.yN Cdr.yB 1 (some .byte))) (wks h (.initialized Cdr.yN.cls :: Cdr.site))
  have q := consq hc h
  exact unparts (wk q (.code Len.yN Len.yB 1 (some .int))) (wks q (.initialized Len.yN.cls :: Len.site))
theorem movedLen {Z s : State} {a0 args : Array Value} (hZ : Z.Warmed39 s.vm) (hw : ∀ d ∈ wordsLen, d.before a0 Z = true) : ∀ d ∈ wordsLen, d.before args s = true := fun d hd => by
  have q := hw d hd
  have t : ∀ d ∈ wordsLen, d = .arrayClass .byte ∨ (d.onTables && d.keepsFace) = true := by decide +kernel
  rcases t d hd with rfl | t
  · exact RoadKit.mvA hZ q
  · exact RoadKit.mv hZ q t
/-- the bytes of the chars cs, low before high -/
def wideBytes : List Int32 → List Value
  | [] => []
  | c :: cs => .int (lo8 c) :: .int (hi8 c) :: wideBytes cs
theorem wide_lo (d : Value) : ∀ (cs : List Int32) (j : Nat), j < cs.length → (wideBytes cs).getD (2 * j) d = .int (lo8 (cs.getD j 0))
  | [], j, h => absurd h (Nat.not_lt_zero j)
  | c :: cs, 0, _ => rfl
  | c :: cs, j + 1, h => by
    have q := wide_lo d cs j (by simpa using h)
    rw [show 2 * (j + 1) = 2 * j + 1 + 1 from by omega]
    simpa [wideBytes] using q
theorem wide_hi (d : Value) : ∀ (cs : List Int32) (j : Nat), j < cs.length → (wideBytes cs).getD (2 * j + 1) d = .int (hi8 (cs.getD j 0))
  | [], j, h => absurd h (Nat.not_lt_zero j)
  | c :: cs, 0, _ => rfl
  | c :: cs, j + 1, h => by
    have q := wide_hi d cs j (by simpa using h)
    rw [show 2 * (j + 1) + 1 = 2 * j + 1 + 1 + 1 from by omega]
    simpa [wideBytes] using q
theorem low_at (d : Value) (cs : List Int32) (j : Nat) (h : j < cs.length) : (cs.map fun c => Value.int (lo8 c)).getD j d = .int (lo8 (cs.getD j 0)) := by
  simp [List.getD_eq_getElem?_getD, h]
/-- an array of N2 bytes vs codes the chars cs by the coder cd -/
def CodA (cs : List Int32) (cd N2 : Int32) (vs : List Value) : Prop := (cd = 0 ∧ N2 = Int32.ofNat cs.length ∧ vs = (cs.map fun c => Value.int (lo8 c)) ∧ ∀ c ∈ cs, ¬ 255 < c) ∨ (cd = 1 ∧ N2 = Int32.ofNat (2 * cs.length) ∧ vs = wideBytes cs ∧ ∃ c ∈ cs, 255 < c)
theorem CodA.cod {cs : List Int32} {cd N2 : Int32} {vs : List Value} {V : Cell} (h : CodA cs cd N2 vs) (hn : 2 * cs.length < 2 ^ 31) (hs : V.slots.size = N2.toNatClampNeg) (hv : RoadKit.Has V vs (.int 0)) : Cod cd cs.length (fun j => cs.getD j 0) V := by
  rcases h with ⟨rfl, rfl, rfl, h⟩ | ⟨rfl, rfl, rfl, c, hc, hw⟩
  · rw [n32 (by omega)] at hs
    exact Or.inl ⟨rfl, hs, fun j hj => ⟨by rw [hv j (by omega), low_at _ _ _ hj], by
      have e : cs.getD j 0 = cs[j] := by simp [List.getD_eq_getElem?_getD, hj]
      show ¬ 255 < cs.getD j 0
      rw [e]; exact h _ (List.getElem_mem _)⟩⟩
  · rw [n32 (by omega)] at hs
    obtain ⟨j, hj, rfl⟩ := List.getElem_of_mem hc
    exact Or.inr ⟨rfl, hs, fun j hj => ⟨by rw [hv _ (by omega), wide_lo _ _ _ hj], by rw [hv _ (by omega), wide_hi _ _ _ hj]⟩, j, hj, by
      have e : cs.getD j 0 = cs[j] := by simp [List.getD_eq_getElem?_getD, hj]
      show 255 < cs.getD j 0
      rw [e]; exact hw⟩
/-- an object of exactly java/lang/String, its two fields found: as the laws ask it -/
theorem strObj {Z U : State} {a0 : Array Value} {kI : Nat} (wi : (Jvm.Cond.instantiable ST kI).before a0 Z = true) (al : Z.vm.Alike U.vm) {x : Addr} {v0 c0 : Value} (E : RoadKit.Exa Z U.heap x ST) (V : RoadKit.Fld Z U.heap x ST "value" "[B" v0) (C : RoadKit.Fld Z U.heap x ST "coder" "B" c0) :
    ∃ (D : Cell) (fV fC : Field), Blank ST x D U ∧ Found ST "value" "[B" fV U ∧ Found ST "coder" "B" fC U ∧ D.slots[fV.slot]? = some v0 ∧ D.slots[fC.slot]? = some c0 ∧ RoadKit.slotOf Z ST "value" "[B" = fV.slot ∧ RoadKit.slotOf Z ST "coder" "B" = fC.slot := by
  obtain ⟨D, cfV, kV, iV, fV, hD, gV, stV, knV, obV, asV, slV⟩ := V
  obtain ⟨D', cfC, kC, iC, fC, hD', gC, stC, -, -, asC, slC⟩ := C
  cases hD.symm.trans hD'
  obtain ⟨D2, kD, e1, e2, e3, e4, e5⟩ := E
  cases hD.symm.trans e1
  obtain ⟨c2, k2, i1, i2, i3, -⟩ := Cond.instantiable_spec wi
  cases e2.symm.trans i1
  cases e3.symm.trans i2
  obtain ⟨kU, u1, u2⟩ := al.2.2 _ _ e3
  exact ⟨D, fV, fC, ⟨hD, ⟨knV, fun q hq => by rw [hq] at obV; cases obV⟩, by rw [al.findClass]; exact e2, kU, u1, by rw [u2]; exact i3, by rw [u2]; exact e5 i3⟩, ⟨SBG.found_only al ⟨cfV, kV, iV, gV⟩, stV⟩, ⟨SBG.found_only al ⟨cfC, kC, iC, gC⟩, stC⟩, slV, slC, by simp [RoadKit.slotOf, gV], by simp [RoadKit.slotOf, gC]⟩
theorem sta_is {Z U : State} (al : Z.vm.Alike U.vm) {C n d : String} {v : Value} (S : RoadKit.Sta Z U.heap C n d v) : StaticIs U C n d v := by
  obtain ⟨cfS, iS, kS, fS, st, cS, t1, t2, t3, t4, t5, t6, t7⟩ := S
  exact StaticIs.there (s := { Z with heap := U.heap }) ⟨cfS, iS, kS, fS, st, cS, t1, t2, t3, t4, t5, (fun q => by rw [q] at t6; cases t6), t7⟩ al rfl
/-- **length() OF SUCH A STRING** -/
theorem lenW {p : Program} {l : Launch} {e : Env} {R : Room} {s : State} {args : Array Value} {below : List Frame} {len W : Nat} {Z : State} {a0 : Array Value} {h : Heap} (hZ : Z.Warmed39 s.vm) (hw : ∀ d ∈ wordsLen, d.before a0 Z = true) {kI : Nat} (wi : (Jvm.Cond.instantiable ST kI).before a0 Z = true)
    {x t : Addr} {kb : ClassId} {cs : List Int32} {cd N2 z : Int32} {vs : List Value} (E : RoadKit.Exa Z h x ST) (V : RoadKit.Fld Z h x ST "value" "[B" (.ref t)) (C : RoadKit.Fld Z h x ST "coder" "B" (.int cd)) (K : RoadKit.Arv Z h t kb .byte N2 vs (.int 0)) (hc : CodA cs cd N2 vs) (hb : ∀ c ∈ cs, ¬ c < 0 ∧ ¬ (65535 : Int32) < c)
    (S : RoadKit.Sta Z h ST "COMPACT_STRINGS" "Z" (.int z)) (hz : ¬ z = 0) (l2 : cs.length ≤ 4000) (hfr : 2 ≤ R.frames) (hlo : W + 25 ≤ R.locals) :
    Back l R p e below s args (⟨"java/lang/String", "length", "()I"⟩ : MethodName) len W (fun P a => a = #[.ref x] ∧ P.U.heap = h ∧ P.cells + 0 ≤ R.cells ∧ P.slots + 0 ≤ R.slots)
      (fun P _ v B => ∃ L, (v = some (.int (Int32.ofNat cs.length)) ∧ L = [] ∧ B.U.heap = h) ∧ B.locs = P.locs ++ L ∧ B.cells = P.cells + 0 ∧ B.slots = P.slots + 0) := by
  obtain ⟨A, K1, K2, K3, K4, K5, K6⟩ := K
  have hcod := hc.cod (by omega) K3 K5
  intro m meth c P g ig mk a X hg hsize hdg hW hn hp'
  obtain ⟨rfl, rfl, r1, r2⟩ := hp'
  have al : Z.vm.Alike P.U.vm := hZ.alike.trans X.warmed.alike
  obtain ⟨D, fV, fC, hB, F1, F2, g1, g2, -, -⟩ := strObj wi al E V C
  have hx : Txt x t A cd cs.length (fun j => cs.getD j 0) P.U := ⟨⟨_, hB.2.2.1, D, hB.1, rfl, by cases q : D.vm <;> first | rfl | exact absurd q (hB.2.1.2 _)⟩, Has.of hB F1 g1, Has.of hB F2 g2, ⟨K1.1, State.isArrayOf_alike al K1.2.1, K1.2.2, by rcases hcod with ⟨-, q, -⟩ | ⟨-, q, -⟩ <;> omega⟩, hcod, fun j hj => by
    have e : cs.getD j 0 = cs[j] := by simp [List.getD_eq_getElem?_getD, hj]
    show ¬ cs.getD j 0 < 0 ∧ ¬ 65535 < cs.getD j 0
    rw [e]; exact hb _ (List.getElem_mem _)⟩
  obtain ⟨v, B, X', ⟨⟨hv, hh⟩, hl, hk, hs⟩, st⟩ := Len.pays x t A cd cs.length (fun j => cs.getD j 0) z (tabLen_of (movedLen hZ hw)) hfr hlo m meth c P g ig mk _ X hg hsize hdg hW hn ⟨r1, r2, rfl, hx, sta_is al S, hz⟩
  exact ⟨v, B, X', ⟨[], ⟨hv, rfl, hh⟩, hl, hk, hs⟩, st⟩
end StrChars.Road
namespace StrChars
open Jvm Sem ClassFile Op Lib Jvm.Stand Jvm.Free.XT Jvm.Free.ALB Jvm.Free.JM Jvm.Free
open Jvm.Lib.Cold (StaticIs)
/-- what place i of a byte[]'s cell holds -/
def yv (A : Cell) (i : Nat) : Int32 := match A.slots[i]? with | some (.int x) => x | _ => 0
theorem yv_get {a : Addr} {A : Cell} {U : State} (h : XT.Arr .byte a A U) (ht : Typed .byte A) {i : Nat} (hi : i < A.slots.size) : A.slots[i]? = some (.int (yv A i)) := by
  have e := Array.getElem?_eq_getElem hi
  have f := ht i _ e
  unfold yv; rw [e]
  generalize A.slots[i] = v at f
  cases v <;> simp [fits] at f ⊢
/-- the two arrays are equal, place for place -/
def EqC (A B : Cell) : Prop := A.slots.size = B.slots.size ∧ ∀ i, i < A.slots.size → yv A i = yv B i
/-- a boolean that says whether p -/
def Says01 (q : Prop) (r : Option Value) (s u : State) : Prop := ∃ v : Int32, r = some (.int v) ∧ u.heap = s.heap ∧ ((v = 1 ∧ q) ∨ (v = 0 ∧ ¬ q))
theorem Says01.mv {q : Prop} : ∀ r (U U' V V' : State), U'.heap = U.heap → V.vm.Alike V'.vm → V'.heap = V.heap → Says01 q r U V → Says01 q r U' V' :=
  fun r U U' V V' h1 _ h2 ⟨v, a, b, c⟩ => ⟨v, a, by rw [h1, h2]; exact b, c⟩
namespace LEq
def yN : MethodName := ⟨"java/lang/StringLatin1", "equals", "([B[B)Z"⟩
abbrev yB : ByteArray := jdk_43_method_13_code
theorem d0 : decode yB 0 = .ok (.aload_n 0, 1) := by decide +kernel
theorem d1 : decode yB 1 = .ok (.arraylength, 1) := by decide +kernel
theorem d2 : decode yB 2 = .ok (.aload_n 1, 1) := by decide +kernel
theorem d3 : decode yB 3 = .ok (.arraylength, 1) := by decide +kernel
theorem d4 : decode yB 4 = .ok (.if_icmp (.ne) 30, 3) := by decide +kernel
theorem d7 : decode yB 7 = .ok (.iconst 0, 1) := by decide +kernel
theorem d8 : decode yB 8 = .ok (.istore_n 2, 1) := by decide +kernel
theorem d9 : decode yB 9 = .ok (.iload_n 2, 1) := by decide +kernel
theorem d10 : decode yB 10 = .ok (.aload_n 0, 1) := by decide +kernel
theorem d11 : decode yB 11 = .ok (.arraylength, 1) := by decide +kernel
theorem d12 : decode yB 12 = .ok (.if_icmp (.ge) 20, 3) := by decide +kernel
theorem d15 : decode yB 15 = .ok (.aload_n 0, 1) := by decide +kernel
theorem d16 : decode yB 16 = .ok (.iload_n 2, 1) := by decide +kernel
theorem d17 : decode yB 17 = .ok (.baload, 1) := by decide +kernel
theorem d18 : decode yB 18 = .ok (.aload_n 1, 1) := by decide +kernel
theorem d19 : decode yB 19 = .ok (.iload_n 2, 1) := by decide +kernel
theorem d20 : decode yB 20 = .ok (.baload, 1) := by decide +kernel
theorem d21 : decode yB 21 = .ok (.if_icmp (.eq) 5, 3) := by decide +kernel
theorem d24 : decode yB 24 = .ok (.iconst 0, 1) := by decide +kernel
theorem d25 : decode yB 25 = .ok (.ireturn, 1) := by decide +kernel
theorem d26 : decode yB 26 = .ok (.iinc 2 1, 3) := by decide +kernel
theorem d29 : decode yB 29 = .ok (.goto (-20), 3) := by decide +kernel
theorem d32 : decode yB 32 = .ok (.iconst 1, 1) := by decide +kernel
theorem d33 : decode yB 33 = .ok (.ireturn, 1) := by decide +kernel
theorem d34 : decode yB 34 = .ok (.iconst 0, 1) := by decide +kernel
theorem d35 : decode yB 35 = .ok (.ireturn, 1) := by decide +kernel
def site : List Cond := []
def tab : Cond := tabOf yN yB 3 (some .boolean) site
def P (a : Addr) (A : Cell) (b : Addr) (B : Cell) (args : Array Value) (s : State) : Prop := args = #[.ref a, .ref b] ∧ XT.Arr .byte a A s ∧ Typed .byte A ∧ XT.Arr .byte b B s ∧ Typed .byte B
/-- whether two byte[] are equal, place for place -/
theorem law (l : Launch) (a : Addr) (A : Cell) (b : Addr) (B : Cell) : Law l yN 2 2 0 0 yB 3 (some .boolean) site (P a A b B) (Says01 (EqC A B)) [] 0 0 := by
  refine Law.of_walk (plainFor_of_name (by decide +kernel)) (by decide +kernel) (by decide +kernel) (by decide) (fun _ _ h => by rw [h.1]; rfl) (fun _ U U' hal hh h => ⟨h.1, h.2.1.mv hal hh, h.2.2.1, h.2.2.2.1.mv hal hh, h.2.2.2.2⟩) (fun r U U' V V' h1 hal h2 h => Says01.mv r U U' V V' h1 hal h2 h) ?_
  intro p e s m args below meth c s₁ X0 hexec hbytes hml hret hlk hnm hown hh0 W hP
  obtain ⟨rfl, hA, tA, hB, tB⟩ := hP
  have a31 := hA.2.2.2
  have b31 := hB.2.2.2
  have hA0 := hA.mv X0.warmed.alike hh0
  have hB0 := hB.mv X0.warmed.alike hh0
  have c1 : Steps p.tables e below (s₁.setTop (entryFrame m #[.ref a, .ref b] 3)) (s₁.setTop (mkF m 0 #[.val (.ref a), .val (.ref b), .unset] [])) := entry rfl
  have c2 : Steps p.tables e below (s₁.setTop (entryFrame m #[.ref a, .ref b] 3)) (s₁.setTop (mkF m 4 #[.val (.ref a), .val (.ref b), .unset] [.int (Int32.ofNat B.slots.size), .int (Int32.ofNat A.slots.size)])) := c1.trans (by
    refine XS.aloadN X0.here hexec rfl (hb hbytes d0) rfl rfl ?_
    refine X0.alen hexec hA0 rfl rfl (hb hbytes d1) ?_
    refine XS.aloadN X0.here hexec rfl (hb hbytes d2) rfl rfl ?_
    refine X0.alen hexec hB0 rfl rfl (hb hbytes d3) ?_
    exact Steps.refl _)
  by_cases hs : A.slots.size = B.slots.size
  · have c3 : Steps p.tables e below (s₁.setTop (entryFrame m #[.ref a, .ref b] 3)) (s₁.setTop (mkF m 9 #[.val (.ref a), .val (.ref b), .val (.int 0)] [])) := c2.trans (by
      refine XS.icmpNo X0.here hexec rfl (hb hbytes d4) rfl (ii_ne_f (by rw [hs])) ?_
      refine iconstV X0.here hexec rfl 0 (hb hbytes d7) (by decide) ?_
      refine XS.istoreN X0.here hexec rfl (hb hbytes d8) rfl rfl ?_
      exact Steps.refl _)
    have loop : ∀ (r i : Nat), i + r = A.slots.size → (∀ j, j < i → yv A j = yv B j) → Steps p.tables e below (s₁.setTop (entryFrame m #[.ref a, .ref b] 3)) (s₁.setTop (mkF m 9 #[.val (.ref a), .val (.ref b), .val (.int (Int32.ofNat i))] [])) → ∃ (pc : Nat) (Ls : Array Slot) (v : Int32), (pc = 25 ∨ pc = 33) ∧ ((v = 1 ∧ EqC A B) ∨ (v = 0 ∧ ¬ EqC A B)) ∧ Steps p.tables e below (s₁.setTop (entryFrame m #[.ref a, .ref b] 3)) (s₁.setTop (mkF m pc Ls [.int v])) := by
      intro r
      induction r with
      | zero =>
        intro i hi he cl
        exact ⟨33, _, 1, Or.inr rfl, Or.inl ⟨rfl, hs, fun j hj => he j (by omega)⟩, cl.trans (by
          refine XS.iloadN X0.here hexec rfl (hb hbytes d9) rfl ?_
          refine XS.aloadN X0.here hexec rfl (hb hbytes d10) rfl rfl ?_
          refine X0.alen hexec hA0 rfl rfl (hb hbytes d11) ?_
          refine XS.icmpYes X0.here hexec rfl (pc0 := 12) rfl (hb hbytes d12) rfl (ii_ge_t (nlt32 (by omega) (by omega))) (by decide) rfl ?_
          refine iconstV X0.here hexec rfl 1 (hb hbytes d32) (by decide) ?_
          exact Steps.refl _)⟩
      | succ r ih =>
        intro i hi he cl
        have c4 : Steps p.tables e below (s₁.setTop (entryFrame m #[.ref a, .ref b] 3)) (s₁.setTop (mkF m 21 #[.val (.ref a), .val (.ref b), .val (.int (Int32.ofNat i))] [.int (yv B i), .int (yv A i)])) := cl.trans (by
          refine XS.iloadN X0.here hexec rfl (hb hbytes d9) rfl ?_
          refine XS.aloadN X0.here hexec rfl (hb hbytes d10) rfl rfl ?_
          refine X0.alen hexec hA0 rfl rfl (hb hbytes d11) ?_
          refine XS.icmpNo X0.here hexec rfl (hb hbytes d12) rfl (ii_ge_f (lt32 (by omega) (by omega))) ?_
          refine XS.aloadN X0.here hexec rfl (hb hbytes d15) rfl rfl ?_
          refine XS.iloadN X0.here hexec rfl (hb hbytes d16) rfl ?_
          refine X0.aget hexec hA0 rfl (yv_get hA tA (i := i) (by omega)) rfl rfl (hb hbytes d17) ?_
          refine XS.aloadN X0.here hexec rfl (hb hbytes d18) rfl rfl ?_
          refine XS.iloadN X0.here hexec rfl (hb hbytes d19) rfl ?_
          refine X0.aget hexec hB0 rfl (yv_get hB tB (i := i) (by omega)) rfl rfl (hb hbytes d20) ?_
          exact Steps.refl _)
        by_cases hv : yv A i = yv B i
        · have c5 : Steps p.tables e below (s₁.setTop (entryFrame m #[.ref a, .ref b] 3)) (s₁.setTop (mkF m 9 #[.val (.ref a), .val (.ref b), .val (.int (Int32.ofNat i + 1))] [])) := c4.trans (by
            refine XS.icmpYes X0.here hexec rfl (pc0 := 21) rfl (hb hbytes d21) rfl (ii_eq_t hv) (by decide) rfl ?_
            refine iincV X0.here hexec rfl 1 (hb hbytes d26) (by decide) rfl rfl ?_
            refine XS.goto X0.here hexec rfl (pc0 := 29) rfl (hb hbytes d29) (by decide) rfl ?_
            exact Steps.refl _)
          rw [succ32] at c5
          exact ih (i + 1) (by omega) (fun j hj => by
            by_cases e : j = i
            · rw [e]; exact hv
            · exact he j (by omega)) c5
        · exact ⟨25, _, 0, Or.inl rfl, Or.inr ⟨rfl, fun q => hv (q.2 i (by omega))⟩, c4.trans (by
            refine XS.icmpNo X0.here hexec rfl (hb hbytes d21) rfl (ii_eq_f hv) ?_
            refine iconstV X0.here hexec rfl 0 (hb hbytes d24) (by decide) ?_
            exact Steps.refl _)⟩
    obtain ⟨pc, Ls, v, hpc, hv, cz⟩ := loop A.slots.size 0 (by omega) (fun j hj => absurd hj (Nat.not_lt_zero j)) c3
    have nv : narrow .boolean (.int v) = .int v := by rcases hv with ⟨rfl, -⟩ | ⟨rfl, -⟩ <;> rfl
    rcases hpc with rfl | rfl
    · exact ⟨s₁, some (.int v), _, _, _, X0, rfl, rfl, rfl, (fun h => by cases h), ⟨v, rfl, hh0, hv⟩, fun fs hl => cz.trans (X0.ireturnOut hexec hret nv (Or.inr (Or.inl rfl)) (hb hbytes d25) hl)⟩
    · exact ⟨s₁, some (.int v), _, _, _, X0, rfl, rfl, rfl, (fun h => by cases h), ⟨v, rfl, hh0, hv⟩, fun fs hl => cz.trans (X0.ireturnOut hexec hret nv (Or.inr (Or.inl rfl)) (hb hbytes d33) hl)⟩
  · have c3 : Steps p.tables e below (s₁.setTop (entryFrame m #[.ref a, .ref b] 3)) (s₁.setTop (mkF m 35 #[.val (.ref a), .val (.ref b), .unset] [.int 0])) := c2.trans (by
      refine XS.icmpYes X0.here hexec rfl (pc0 := 4) rfl (hb hbytes d4) rfl (ii_ne_t (ne32 a31 b31 hs)) (by decide) rfl ?_
      refine iconstV X0.here hexec rfl 0 (hb hbytes d34) (by decide) ?_
      exact Steps.refl _)
    exact ⟨s₁, some (.int 0), _, _, _, X0, rfl, rfl, rfl, (fun h => by cases h), ⟨0, rfl, hh0, Or.inr ⟨rfl, fun q => hs q.1⟩⟩, fun fs hl => c3.trans (X0.ireturnOut hexec hret rfl (Or.inr (Or.inl rfl)) (hb hbytes d35) hl)⟩
end LEq
theorem Cod.ty {cd : Int32} {n : Nat} {f : Nat → Int32} {V : Cell} (h : Cod cd n f V) : Typed .byte V := fun i v hv => by
  have hi : i < V.slots.size := (Array.getElem?_eq_some_iff.mp hv).1
  rcases h with ⟨-, k1, k2⟩ | ⟨-, k1, k2, -⟩
  · rw [(k2 i (by omega)).1] at hv; cases hv; exact fits_lo8 _
  · rcases Nat.mod_two_eq_zero_or_one i with e | e
    · obtain ⟨j, rfl⟩ : ∃ j, i = 2 * j := ⟨i / 2, by omega⟩
      rw [(k2 j (by omega)).1] at hv; cases hv; exact fits_lo8 _
    · obtain ⟨j, rfl⟩ : ∃ j, i = 2 * j + 1 := ⟨i / 2, by omega⟩
      rw [(k2 j (by omega)).2] at hv; cases hv; exact fits_lo8 _
/-- the same text -/
def SameT (n : Nat) (f : Nat → Int32) (k : Nat) (g : Nat → Int32) : Prop := n = k ∧ ∀ j, j < n → f j = g j
theorem lo8_inj {x y : Int32} (h0 : ¬ x < 0) (h1 : ¬ 255 < x) (k0 : ¬ y < 0) (k1 : ¬ 255 < y) (h : lo8 x = lo8 y) : x = y := by
  rw [← lo8_mask h0 h1, ← lo8_mask k0 k1, h]
/-- arrays coded by one coder are equal just where the texts are -/
theorem Cod.eqv {cd : Int32} {n k : Nat} {f g : Nat → Int32} {V V' : Cell} (h : Cod cd n f V) (h' : Cod cd k g V') (hf : ∀ j, j < n → ¬ f j < 0 ∧ ¬ 65535 < f j) (hg : ∀ j, j < k → ¬ g j < 0 ∧ ¬ 65535 < g j) : EqC V V' ↔ SameT n f k g := by
  have yvv : ∀ {W : Cell} {i : Nat} {x : Int32}, W.slots[i]? = some (.int x) → yv W i = x := fun q => by unfold yv; rw [q]
  rcases h with ⟨rfl, k1, k2⟩ | ⟨rfl, k1, k2, -⟩
  · rcases h' with ⟨-, m1, m2⟩ | ⟨e, -⟩
    · constructor
      · rintro ⟨e1, e2⟩
        refine ⟨by omega, fun j hj => ?_⟩
        have q := e2 j (by omega)
        rw [yvv (k2 j hj).1, yvv (m2 j (by omega)).1] at q
        exact lo8_inj (hf j hj).1 (k2 j hj).2 (hg j (by omega)).1 (m2 j (by omega)).2 q
      · rintro ⟨rfl, e2⟩
        refine ⟨by omega, fun j hj => ?_⟩
        rw [yvv (k2 j (by omega)).1, yvv (m2 j (by omega)).1, e2 j (by omega)]
    · exact absurd e (by decide)
  · rcases h' with ⟨e, -⟩ | ⟨-, m1, m2, -⟩
    · exact absurd e (by decide)
    · constructor
      · rintro ⟨e1, e2⟩
        refine ⟨by omega, fun j hj => ?_⟩
        have q1 := e2 (2 * j) (by omega)
        have q2 := e2 (2 * j + 1) (by omega)
        rw [yvv (k2 j hj).1, yvv (m2 j (by omega)).1] at q1
        rw [yvv (k2 j hj).2, yvv (m2 j (by omega)).2] at q2
        rw [← pair_says (hf j hj).1 (hf j hj).2, ← pair_says (hg j (by omega)).1 (hg j (by omega)).2, q1, q2]
      · rintro ⟨rfl, e2⟩
        refine ⟨by omega, fun i hi => ?_⟩
        rcases Nat.mod_two_eq_zero_or_one i with e | e
        · obtain ⟨j, rfl⟩ : ∃ j, i = 2 * j := ⟨i / 2, by omega⟩
          rw [yvv (k2 j (by omega)).1, yvv (m2 j (by omega)).1, e2 j (by omega)]
        · obtain ⟨j, rfl⟩ : ∃ j, i = 2 * j + 1 := ⟨i / 2, by omega⟩
          rw [yvv (k2 j (by omega)).2, yvv (m2 j (by omega)).2, e2 j (by omega)]
/-- two codings differ: so do the texts -/
theorem Cod.dif {cd cd' : Int32} {n k : Nat} {f g : Nat → Int32} {V V' : Cell} (h : Cod cd n f V) (h' : Cod cd' k g V') (hne : ¬ cd = cd') : ¬ SameT n f k g := by
  rintro ⟨rfl, e⟩
  rcases h with ⟨rfl, -, k2⟩ | ⟨rfl, -, -, j, hj, hw⟩
  · rcases h' with ⟨rfl, -⟩ | ⟨-, -, -, j, hj, hw⟩
    · exact hne rfl
    · exact (k2 j hj).2 (by rw [e j hj]; exact hw)
  · rcases h' with ⟨-, -, m2⟩ | ⟨rfl, -⟩
    · exact (m2 j hj).2 (by rw [← e j hj]; exact hw)
    · exact hne rfl
/-- an object of exactly C is an instance of C -/
theorem cinst {p : Program} {l : Launch} {e : Env} {R : Room} {s : State} {m : MethodId} {args : Array Value} {below : List Frame} {meth : Method} {c : Code} {T : State} {locs : List Loc} {cells slots : Nat} (X : Stand p l e R s m args below meth c T locs cells slots) (hexec : p.tables.exec = Jvm.exec) {own C : String} {index : Nat} (hown : s.vm.findClass own = some m.cls) (hlink : (Cond.classLink own index C).before args s = true) {a : Addr} (hE : Exact C a T)
    {g : JFrame} (hg : g.method = m) {rest : List Value} (hstack : g.stack = .ref a :: rest) (hdg : decode c.code g.pc = .ok (.instanceof index, 3)) :
    ∃ T', Stand p l e R s m args below meth c T' locs cells slots ∧ T'.heap = T.heap ∧ ∀ target, Steps p.tables e below (T'.setTop { g with pc := g.pc + 3, stack := .int 1 :: rest }) target → Steps p.tables e below (T.setTop g) target := by
  obtain ⟨cB, h1, D, h2, h3, h4⟩ := hE
  have h1' : s.vm.findClass C = some cB := by rw [← X.warmed.alike.findClass]; exact h1
  obtain ⟨vm', X', st⟩ := X.instanceofYes hexec hown hlink h2 h4 h1' (by rw [h3]; exact Jvm.Free.SB.assignable_self _ _) hg hstack hdg
  exact ⟨_, X', rfl, st⟩
theorem cself {p : Program} {l : Launch} {e : Env} {R : Room} {s : State} {m : MethodId} {args : Array Value} {below : List Frame} {meth : Method} {c : Code} {T : State} {locs : List Loc} {cells slots : Nat} (X : Stand p l e R s m args below meth c T locs cells slots) (hexec : p.tables.exec = Jvm.exec) {own C : String} {index : Nat} (hown : s.vm.findClass own = some m.cls) (hlink : (Cond.classLink own index C).before args s = true) {a : Addr} (hE : Exact C a T)
    {g : JFrame} (hg : g.method = m) {rest : List Value} (hstack : g.stack = .ref a :: rest) (hdg : decode c.code g.pc = .ok (.checkcast index, 3)) :
    ∃ T', Stand p l e R s m args below meth c T' locs cells slots ∧ T'.heap = T.heap ∧ ∀ target, Steps p.tables e below (T'.setTop { g with pc := g.pc + 3, stack := .ref a :: rest }) target → Steps p.tables e below (T.setTop g) target := by
  obtain ⟨cB, h1, D, h2, h3, h4⟩ := hE
  have h1' : s.vm.findClass C = some cB := by rw [← X.warmed.alike.findClass]; exact h1
  obtain ⟨vm', X', st⟩ := X.checkcastYes hexec hown hlink h2 h4 h1' (by rw [h3]; exact Jvm.Free.SB.assignable_self _ _) hg hstack hdg
  exact ⟨_, X', rfl, fun t h => st t (by rw [← hstack] at h; exact h)⟩
namespace SEq
def yN : MethodName := ⟨"java/lang/String", "equals", "(Ljava/lang/Object;)Z"⟩
abbrev yB : ByteArray := jdk_42_method_66_code
theorem d0 : decode yB 0 = .ok (.aload_n 0, 1) := by decide +kernel
theorem d1 : decode yB 1 = .ok (.aload_n 1, 1) := by decide +kernel
theorem d2 : decode yB 2 = .ok (.if_acmp (.ne) 5, 3) := by decide +kernel
theorem d5 : decode yB 5 = .ok (.iconst 1, 1) := by decide +kernel
theorem d6 : decode yB 6 = .ok (.ireturn, 1) := by decide +kernel
theorem d7 : decode yB 7 = .ok (.aload_n 1, 1) := by decide +kernel
theorem d8 : decode yB 8 = .ok (.instanceof 10, 3) := by decide +kernel
theorem d11 : decode yB 11 = .ok (.ifCond (.eq) 43, 3) := by decide +kernel
theorem d14 : decode yB 14 = .ok (.aload_n 1, 1) := by decide +kernel
theorem d15 : decode yB 15 = .ok (.checkcast 10, 3) := by decide +kernel
theorem d18 : decode yB 18 = .ok (.astore_n 2, 1) := by decide +kernel
theorem d19 : decode yB 19 = .ok (.getstatic 38, 3) := by decide +kernel
theorem d22 : decode yB 22 = .ok (.ifCond (.eq) 14, 3) := by decide +kernel
theorem d25 : decode yB 25 = .ok (.aload_n 0, 1) := by decide +kernel
theorem d26 : decode yB 26 = .ok (.getfield 15, 3) := by decide +kernel
theorem d29 : decode yB 29 = .ok (.aload_n 2, 1) := by decide +kernel
theorem d30 : decode yB 30 = .ok (.getfield 15, 3) := by decide +kernel
theorem d33 : decode yB 33 = .ok (.if_icmp (.ne) 21, 3) := by decide +kernel
theorem d36 : decode yB 36 = .ok (.aload_n 0, 1) := by decide +kernel
theorem d37 : decode yB 37 = .ok (.getfield 9, 3) := by decide +kernel
theorem d40 : decode yB 40 = .ok (.aload_n 2, 1) := by decide +kernel
theorem d41 : decode yB 41 = .ok (.getfield 9, 3) := by decide +kernel
theorem d44 : decode yB 44 = .ok (.invokestatic 541, 3) := by decide +kernel
theorem d47 : decode yB 47 = .ok (.ifCond (.eq) 7, 3) := by decide +kernel
theorem d50 : decode yB 50 = .ok (.iconst 1, 1) := by decide +kernel
theorem d51 : decode yB 51 = .ok (.goto 4, 3) := by decide +kernel
theorem d54 : decode yB 54 = .ok (.iconst 0, 1) := by decide +kernel
theorem d55 : decode yB 55 = .ok (.ireturn, 1) := by decide +kernel
def site : List Cond := [.classLink "java/lang/String" 10 "java/lang/String", .fieldLink "java/lang/String" 38 "java/lang/String" "COMPACT_STRINGS" "Z", .fieldLink "java/lang/String" 15 "java/lang/String" "coder" "B", .fieldLink "java/lang/String" 9 "java/lang/String" "value" "[B", LEq.tab] ++ staticW "java/lang/String" 541 LEq.yN
def tab : Cond := tabOf yN yB 3 (some .boolean) site
def P (x t : Addr) (V : Cell) (cd : Int32) (n : Nat) (f : Nat → Int32) (y t' : Addr) (V' : Cell) (cd' : Int32) (k : Nat) (g : Nat → Int32) (z : Int32) (args : Array Value) (s : State) : Prop := args = #[.ref x, .ref y] ∧ Txt x t V cd n f s ∧ Txt y t' V' cd' k g s ∧ StaticIs s "java/lang/String" "COMPACT_STRINGS" "Z" (.int z) ∧ ¬ z = 0
/-- equals(Object) of two Strings: whether the texts are the same -/
theorem law (l : Launch) (x t : Addr) (V : Cell) (cd : Int32) (n : Nat) (f : Nat → Int32) (y t' : Addr) (V' : Cell) (cd' : Int32) (k : Nat) (g : Nat → Int32) (z : Int32) : Law l yN 2 1 1 14 yB 3 (some .boolean) site (P x t V cd n f y t' V' cd' k g z) (Says01 (SameT n f k g)) [] 0 0 := by
  refine Law.of_walk (plainFor_of_name (by decide +kernel)) (by decide +kernel) (by decide +kernel) (by decide) (fun _ _ h => by rw [h.1]; rfl) (fun _ U U' hal hh h => ⟨h.1, h.2.1.mv hal hh, h.2.2.1.mv hal hh, h.2.2.2.1.there hal hh, h.2.2.2.2⟩) (fun r U U' V V' h1 hal h2 h => Says01.mv r U U' V V' h1 hal h2 h) ?_
  intro p e s m args below meth c s₁ X0 hexec hbytes hml hret hlk hnm hown hh0 W hP
  obtain ⟨rfl, hx, hy, s1, hz⟩ := hP
  have c1 : Steps p.tables e below (s₁.setTop (entryFrame m #[.ref x, .ref y] 3)) (s₁.setTop (mkF m 2 #[.val (.ref x), .val (.ref y), .unset] [.ref y, .ref x])) := Steps.trans (entry rfl) (by
    show Steps p.tables e below (s₁.setTop (mkF m 0 #[.val (.ref x), .val (.ref y), .unset] [])) _
    refine XS.aloadN X0.here hexec rfl (hb hbytes d0) rfl rfl ?_
    refine XS.aloadN X0.here hexec rfl (hb hbytes d1) rfl rfl ?_
    exact Steps.refl _)
  by_cases hxy : x = y
  · have c2 : Steps p.tables e below (s₁.setTop (entryFrame m #[.ref x, .ref y] 3)) (s₁.setTop (mkF m 6 #[.val (.ref x), .val (.ref y), .unset] [.int 1])) := c1.trans (by
      refine acmpNo X0.here hexec rfl (hb hbytes d2) rfl rfl rfl (by simp [acmp, hxy]) ?_
      refine iconstV X0.here hexec rfl 1 (hb hbytes d5) (by decide) ?_
      exact Steps.refl _)
    subst hxy
    have ec : cd = cd' := by
      obtain ⟨D, fd, a1, a2, a3⟩ := hx.2.2.1
      obtain ⟨D', fd', b1, b2, b3⟩ := hy.2.2.1
      cases a1.symm.trans b1
      obtain ⟨q1, q2, q3, q4⟩ := a2.1
      obtain ⟨r1, r2, r3, r4⟩ := b2.1
      cases q4.symm.trans r4
      cases a3.symm.trans b3; rfl
    have et : t = t' := by
      obtain ⟨D, fd, a1, a2, a3⟩ := hx.2.1
      obtain ⟨D', fd', b1, b2, b3⟩ := hy.2.1
      cases a1.symm.trans b1
      obtain ⟨q1, q2, q3, q4⟩ := a2.1
      obtain ⟨r1, r2, r3, r4⟩ := b2.1
      cases q4.symm.trans r4
      cases a3.symm.trans b3; rfl
    subst ec et
    have ev : V = V' := by cases hx.2.2.2.1.1.symm.trans hy.2.2.2.1.1; rfl
    subst ev
    have hs : SameT n f k g := (Cod.eqv hx.2.2.2.2.1 hy.2.2.2.2.1 hx.2.2.2.2.2 hy.2.2.2.2.2).mp ⟨rfl, fun _ _ => rfl⟩
    exact ⟨s₁, some (.int 1), _, _, _, X0, rfl, rfl, rfl, (fun h => by cases h), ⟨1, rfl, hh0, Or.inl ⟨rfl, hs⟩⟩, fun fs hl => c2.trans (X0.ireturnOut hexec hret rfl (Or.inr (Or.inl rfl)) (hb hbytes d6) hl)⟩
  · have c2 : Steps p.tables e below (s₁.setTop (entryFrame m #[.ref x, .ref y] 3)) (s₁.setTop (mkF m 8 #[.val (.ref x), .val (.ref y), .unset] [.ref y])) := c1.trans (by
      refine acmpYes X0.here hexec rfl (pc0 := 2) rfl (hb hbytes d2) rfl rfl rfl (by simp [acmp, hxy]) (by decide) rfl ?_
      refine XS.aloadN X0.here hexec rfl (hb hbytes d7) rfl rfl ?_
      exact Steps.refl _)
    obtain ⟨T3, X3, q3, st3⟩ := cinst X0 hexec hown (wk W (.classLink "java/lang/String" 10 "java/lang/String")) (hy.mv X0.warmed.alike hh0).1 (g := (mkF m 8 #[.val (.ref x), .val (.ref y), .unset] [.ref y])) rfl (rest := []) rfl (hb hbytes d8)
    have hh3 := q3.trans hh0
    have c4 : Steps p.tables e below (s₁.setTop (entryFrame m #[.ref x, .ref y] 3)) (T3.setTop (mkF m 15 #[.val (.ref x), .val (.ref y), .unset] [.ref y])) := (c2.trans (st3 _ (Steps.refl _))).trans (by
      refine XS.ifNo X3.here hexec rfl (hb hbytes d11) rfl (i0_eq_f (by decide)) ?_
      refine XS.aloadN X3.here hexec rfl (hb hbytes d14) rfl rfl ?_
      exact Steps.refl _)
    obtain ⟨T5, X5, q5, st5⟩ := cself X3 hexec hown (wk W (.classLink "java/lang/String" 10 "java/lang/String")) (hy.mv X3.warmed.alike hh3).1 (g := (mkF m 15 #[.val (.ref x), .val (.ref y), .unset] [.ref y])) rfl (rest := []) rfl (hb hbytes d15)
    have hh5 := q5.trans hh3
    have c6 : Steps p.tables e below (s₁.setTop (entryFrame m #[.ref x, .ref y] 3)) (T5.setTop (mkF m 19 #[.val (.ref x), .val (.ref y), .val (.ref y)] [])) := (c4.trans (st5 _ (Steps.refl _))).trans (by
      refine XS.astoreN X5.here hexec rfl (hb hbytes d18) rfl rfl rfl ?_
      exact Steps.refl _)
    obtain ⟨T7, X7, q7, st7⟩ := X5.sget hexec hown (wk W (.fieldLink "java/lang/String" 38 "java/lang/String" "COMPACT_STRINGS" "Z")) s1 (fun _ _ h => by rw [hh5]; exact h) (g := (mkF m 19 #[.val (.ref x), .val (.ref y), .val (.ref y)] [])) rfl (hb hbytes d19)
    have hh7 := q7.trans hh5
    have c8 : Steps p.tables e below (s₁.setTop (entryFrame m #[.ref x, .ref y] 3)) (T7.setTop (mkF m 26 #[.val (.ref x), .val (.ref y), .val (.ref y)] [.ref x])) := (c6.trans (st7 _ (Steps.refl _))).trans (by
      refine XS.ifNo X7.here hexec rfl (hb hbytes d22) rfl (i0_eq_f hz) ?_
      refine XS.aloadN X7.here hexec rfl (hb hbytes d25) rfl rfl ?_
      exact Steps.refl _)
    obtain ⟨T9, X9, q9, st9⟩ := X7.hget hexec hown (wk W (.fieldLink "java/lang/String" 15 "java/lang/String" "coder" "B")) (hx.mv X7.warmed.alike hh7).2.2.1 (g := (mkF m 26 #[.val (.ref x), .val (.ref y), .val (.ref y)] [.ref x])) rfl (rest := []) rfl (hb hbytes d26)
    have hh9 := q9.trans hh7
    have c10 : Steps p.tables e below (s₁.setTop (entryFrame m #[.ref x, .ref y] 3)) (T9.setTop (mkF m 30 #[.val (.ref x), .val (.ref y), .val (.ref y)] [.ref y, .int cd])) := (c8.trans (st9 _ (Steps.refl _))).trans (by
      refine XS.aloadN X9.here hexec rfl (hb hbytes d29) rfl rfl ?_
      exact Steps.refl _)
    obtain ⟨T11, X11, q11, st11⟩ := X9.hget hexec hown (wk W (.fieldLink "java/lang/String" 15 "java/lang/String" "coder" "B")) (hy.mv X9.warmed.alike hh9).2.2.1 (g := (mkF m 30 #[.val (.ref x), .val (.ref y), .val (.ref y)] [.ref y, .int cd])) rfl (rest := [.int cd]) rfl (hb hbytes d30)
    have hh11 := q11.trans hh9
    have c12 : Steps p.tables e below (s₁.setTop (entryFrame m #[.ref x, .ref y] 3)) (T11.setTop (mkF m 33 #[.val (.ref x), .val (.ref y), .val (.ref y)] [.int cd', .int cd])) := c10.trans (st11 _ (Steps.refl _))
    by_cases hcd : cd = cd'
    · subst hcd
      have c13 : Steps p.tables e below (s₁.setTop (entryFrame m #[.ref x, .ref y] 3)) (T11.setTop (mkF m 37 #[.val (.ref x), .val (.ref y), .val (.ref y)] [.ref x])) := c12.trans (by
        refine XS.icmpNo X11.here hexec rfl (hb hbytes d33) rfl (ii_ne_f rfl) ?_
        refine XS.aloadN X11.here hexec rfl (hb hbytes d36) rfl rfl ?_
        exact Steps.refl _)
      obtain ⟨T14, X14, q14, st14⟩ := X11.hget hexec hown (wk W (.fieldLink "java/lang/String" 9 "java/lang/String" "value" "[B")) (hx.mv X11.warmed.alike hh11).2.1 (g := (mkF m 37 #[.val (.ref x), .val (.ref y), .val (.ref y)] [.ref x])) rfl (rest := []) rfl (hb hbytes d37)
      have hh14 := q14.trans hh11
      have c15 : Steps p.tables e below (s₁.setTop (entryFrame m #[.ref x, .ref y] 3)) (T14.setTop (mkF m 41 #[.val (.ref x), .val (.ref y), .val (.ref y)] [.ref y, .ref t])) := (c13.trans (st14 _ (Steps.refl _))).trans (by
        refine XS.aloadN X14.here hexec rfl (hb hbytes d40) rfl rfl ?_
        exact Steps.refl _)
      obtain ⟨T16, X16, q16, st16⟩ := X14.hget hexec hown (wk W (.fieldLink "java/lang/String" 9 "java/lang/String" "value" "[B")) (hy.mv X14.warmed.alike hh14).2.1 (g := (mkF m 41 #[.val (.ref x), .val (.ref y), .val (.ref y)] [.ref y, .ref t])) rfl (rest := [.ref t]) rfl (hb hbytes d41)
      have hh16 := q16.trans hh14
      have c17 : Steps p.tables e below (s₁.setTop (entryFrame m #[.ref x, .ref y] 3)) (T16.setTop (mkF m 44 #[.val (.ref x), .val (.ref y), .val (.ref y)] [.ref t', .ref t])) := c15.trans (st16 _ (Steps.refl _))
      obtain ⟨v18, T18, X18, E18, g18⟩ := X16.callS hexec (LEq.law l t V t' V') hown (wks W (staticW "java/lang/String" 541 LEq.yN)) (wk W LEq.tab) (W := 0) (Nat.le_of_ble_eq_true rfl) (Nat.le_of_ble_eq_true rfl) (Nat.le_refl _) (Nat.le_refl _) (g := (mkF m 44 #[.val (.ref x), .val (.ref y), .val (.ref y)] [.ref t', .ref t])) rfl (by rw [hml]; rfl) c17 (argsL := [.ref t, .ref t']) (rest := []) rfl rfl (by show 2 * 0 + 0 ≤ _; decide) (hb hbytes d44) (⟨rfl, hx.2.2.2.1.mv X16.warmed.alike hh16, hx.2.2.2.2.1.ty, hy.2.2.2.1.mv X16.warmed.alike hh16, hy.2.2.2.2.1.ty⟩)
      obtain ⟨v, rfl, q18, hv⟩ := E18
      have iff := Cod.eqv hx.2.2.2.2.1 hy.2.2.2.2.1 hx.2.2.2.2.2 hy.2.2.2.2.2
      rcases hv with ⟨rfl, he⟩ | ⟨rfl, he⟩
      · have c19 : Steps p.tables e below (s₁.setTop (entryFrame m #[.ref x, .ref y] 3)) (T18.setTop (mkF m 55 #[.val (.ref x), .val (.ref y), .val (.ref y)] [.int 1])) := Steps.trans g18 (by
          refine XS.ifNo X18.here hexec rfl (hb hbytes d47) rfl (i0_eq_f (by decide)) ?_
          refine iconstV X18.here hexec rfl 1 (hb hbytes d50) (by decide) ?_
          refine XS.goto X18.here hexec rfl (pc0 := 51) rfl (hb hbytes d51) (by decide) rfl ?_
          exact Steps.refl _)
        exact ⟨T18, some (.int 1), _, _, _, X18, rfl, rfl, rfl, (fun h => by cases h), ⟨1, rfl, q18.trans hh16, Or.inl ⟨rfl, iff.mp he⟩⟩, fun fs hl => c19.trans (X18.ireturnOut hexec hret rfl (Or.inr (Or.inl rfl)) (hb hbytes d55) hl)⟩
      · have c19 : Steps p.tables e below (s₁.setTop (entryFrame m #[.ref x, .ref y] 3)) (T18.setTop (mkF m 55 #[.val (.ref x), .val (.ref y), .val (.ref y)] [.int 0])) := Steps.trans g18 (by
          refine XS.ifYes X18.here hexec rfl (pc0 := 47) rfl (hb hbytes d47) rfl (i0_eq_t rfl) (by decide) rfl ?_
          refine iconstV X18.here hexec rfl 0 (hb hbytes d54) (by decide) ?_
          exact Steps.refl _)
        exact ⟨T18, some (.int 0), _, _, _, X18, rfl, rfl, rfl, (fun h => by cases h), ⟨0, rfl, q18.trans hh16, Or.inr ⟨rfl, fun q => he (iff.mpr q)⟩⟩, fun fs hl => c19.trans (X18.ireturnOut hexec hret rfl (Or.inr (Or.inl rfl)) (hb hbytes d55) hl)⟩
    · have c13 : Steps p.tables e below (s₁.setTop (entryFrame m #[.ref x, .ref y] 3)) (T11.setTop (mkF m 55 #[.val (.ref x), .val (.ref y), .val (.ref y)] [.int 0])) := c12.trans (by
        refine XS.icmpYes X11.here hexec rfl (pc0 := 33) rfl (hb hbytes d33) rfl (ii_ne_t hcd) (by decide) rfl ?_
        refine iconstV X11.here hexec rfl 0 (hb hbytes d54) (by decide) ?_
        exact Steps.refl _)
      exact ⟨T11, some (.int 0), _, _, _, X11, rfl, rfl, rfl, (fun h => by cases h), ⟨0, rfl, hh11, Or.inr ⟨rfl, Cod.dif hx.2.2.2.2.1 hy.2.2.2.2.1 hcd⟩⟩, fun fs hl => c13.trans (X11.ireturnOut hexec hret rfl (Or.inr (Or.inl rfl)) (hb hbytes d55) hl)⟩
theorem pays {l : Launch} {R : Room} {p : Program} {e : Env} {below : List Frame} {s : State} {sargs : Array Value} {len W : Nat} (x t : Addr) (V : Cell) (cd : Int32) (n : Nat) (f : Nat → Int32) (y t' : Addr) (V' : Cell) (cd' : Int32) (k : Nat) (g : Nat → Int32) (z : Int32) (htab : tab.before sargs s = true) (hfr : 2 ≤ R.frames) (hlo : W + 28 ≤ R.locals) :
    Back l R p e below s sargs yN len W (fun A₁ a₁ => A₁.cells + 0 ≤ R.cells ∧ A₁.slots + 0 ≤ R.slots ∧ P x t V cd n f y t' V' cd' k g z a₁ A₁.U) (fun A₁ _ v₁ B₁ => Says01 (SameT n f k g) v₁ A₁.U B₁.U ∧ B₁.locs = A₁.locs ++ [] ∧ B₁.cells = A₁.cells + 0 ∧ B₁.slots = A₁.slots + 0) :=
  (law l x t V cd n f y t' V' cd' k g z).pays htab hfr (by omega)
end SEq
end StrChars
namespace StrChars.Road
open Jvm Sem ClassFile Op Lib Jvm.Stand Jvm.Free Jvm.Free.XT
open Jvm.Lib.Cold (StaticIs)
/-- the words of String.equals(Object) -/
abbrev wordsEq : List Jvm.Cond := [.code SEq.yN SEq.yB 3 (some .boolean), .initialized ST, .classLink ST 10 ST, .fieldLink ST 38 ST "COMPACT_STRINGS" "Z", .fieldLink ST 15 ST "coder" "B", .fieldLink ST 9 ST "value" "[B", .methodLink ST 541 LEq.yN, .static LEq.yN, .code LEq.yN LEq.yB 3 (some .boolean), .initialized "java/lang/StringLatin1"]
theorem tabEq_of {a : Array Value} {s : State} (h : ∀ w ∈ wordsEq, w.before a s = true) : SEq.tab.before a s = true := by
  have hl : LEq.tab.before a s = true := unparts (wk h (.code LEq.yN LEq.yB 3 (some .boolean))) (wks h (.initialized LEq.yN.cls :: LEq.site))
  have q := consq hl h
  exact unparts (wk q (.code SEq.yN SEq.yB 3 (some .boolean))) (wks q (.initialized SEq.yN.cls :: SEq.site))
theorem movedEq {Z s : State} {a0 args : Array Value} (hZ : Z.Warmed39 s.vm) (hw : ∀ d ∈ wordsEq, d.before a0 Z = true) : ∀ d ∈ wordsEq, d.before args s = true := fun d hd => by
  have t : ∀ d ∈ wordsEq, (d.onTables && d.keepsFace) = true := by decide +kernel
  exact RoadKit.mv hZ (hw d hd) (t d hd)
/-- the road's facts of a String, as the laws ask it -/
theorem txt_of {Z U : State} {a0 : Array Value} {kI : Nat} (wi : (Jvm.Cond.instantiable ST kI).before a0 Z = true) (al : Z.vm.Alike U.vm) {x t : Addr} {kb : ClassId} {cs : List Int32} {cd N2 : Int32} {vs : List Value} (E : RoadKit.Exa Z U.heap x ST) (V : RoadKit.Fld Z U.heap x ST "value" "[B" (.ref t)) (C : RoadKit.Fld Z U.heap x ST "coder" "B" (.int cd)) (K : RoadKit.Arv Z U.heap t kb .byte N2 vs (.int 0)) (hc : CodA cs cd N2 vs) (hb : ∀ c ∈ cs, ¬ c < 0 ∧ ¬ (65535 : Int32) < c) (l2 : cs.length ≤ 4000) :
    ∃ A, Txt x t A cd cs.length (fun j => cs.getD j 0) U := by
  obtain ⟨A, K1, K2, K3, K4, K5, K6⟩ := K
  have hcod := hc.cod (by omega) K3 K5
  obtain ⟨D, fV, fC, hB, F1, F2, g1, g2, -, -⟩ := strObj wi al E V C
  exact ⟨A, ⟨_, hB.2.2.1, D, hB.1, rfl, by cases q : D.vm <;> first | rfl | exact absurd q (hB.2.1.2 _)⟩, Has.of hB F1 g1, Has.of hB F2 g2, ⟨K1.1, State.isArrayOf_alike al K1.2.1, K1.2.2, by rcases hcod with ⟨-, q, -⟩ | ⟨-, q, -⟩ <;> omega⟩, hcod, fun j hj => by
    have e : cs.getD j 0 = cs[j] := by simp [List.getD_eq_getElem?_getD, hj]
    show ¬ cs.getD j 0 < 0 ∧ ¬ 65535 < cs.getD j 0
    rw [e]; exact hb _ (List.getElem_mem _)⟩
theorem same_list (cs ds : List Int32) : SameT cs.length (fun j => cs.getD j 0) ds.length (fun j => ds.getD j 0) ↔ cs = ds := by
  constructor
  · rintro ⟨e, q⟩
    refine List.ext_getElem e fun j h1 h2 => ?_
    have := q j h1
    simpa [List.getD_eq_getElem?_getD, h1, h2] using this
  · rintro rfl
    exact ⟨rfl, fun _ _ => rfl⟩
/-- **equals(Object) OF TWO SUCH STRINGS**: 1 just where the chars are the same -/
theorem eqW {p : Program} {l : Launch} {e : Env} {R : Room} {s : State} {args : Array Value} {below : List Frame} {len W : Nat} {Z : State} {a0 : Array Value} {h : Heap} (hZ : Z.Warmed39 s.vm) (hw : ∀ d ∈ wordsEq, d.before a0 Z = true) {kI : Nat} (wi : (Jvm.Cond.instantiable ST kI).before a0 Z = true)
    {x t : Addr} {kb : ClassId} {cs : List Int32} {cd N2 : Int32} {vs : List Value} (E : RoadKit.Exa Z h x ST) (V : RoadKit.Fld Z h x ST "value" "[B" (.ref t)) (C : RoadKit.Fld Z h x ST "coder" "B" (.int cd)) (K : RoadKit.Arv Z h t kb .byte N2 vs (.int 0)) (hc : CodA cs cd N2 vs) (hb : ∀ c ∈ cs, ¬ c < 0 ∧ ¬ (65535 : Int32) < c) (l2 : cs.length ≤ 4000)
    {y t' : Addr} {kb' : ClassId} {ds : List Int32} {cd' N2' : Int32} {vs' : List Value} (E' : RoadKit.Exa Z h y ST) (V' : RoadKit.Fld Z h y ST "value" "[B" (.ref t')) (C' : RoadKit.Fld Z h y ST "coder" "B" (.int cd')) (K' : RoadKit.Arv Z h t' kb' .byte N2' vs' (.int 0)) (hc' : CodA ds cd' N2' vs') (hb' : ∀ c ∈ ds, ¬ c < 0 ∧ ¬ (65535 : Int32) < c) (l2' : ds.length ≤ 4000)
    {z : Int32} (S : RoadKit.Sta Z h ST "COMPACT_STRINGS" "Z" (.int z)) (hz : ¬ z = 0) (hfr : 2 ≤ R.frames) (hlo : W + 28 ≤ R.locals) :
    Back l R p e below s args (⟨"java/lang/String", "equals", "(Ljava/lang/Object;)Z"⟩ : MethodName) len W (fun P a => a = #[.ref x, .ref y] ∧ P.U.heap = h ∧ P.cells + 0 ≤ R.cells ∧ P.slots + 0 ≤ R.slots)
      (fun P _ v B => ∃ L, (((v = some (.int 1) ∧ cs = ds) ∨ (v = some (.int 0) ∧ ¬ cs = ds)) ∧ L = [] ∧ B.U.heap = h) ∧ B.locs = P.locs ++ L ∧ B.cells = P.cells + 0 ∧ B.slots = P.slots + 0) := by
  intro m meth c P g ig mk a X hg hsize hdg hW hn hp'
  obtain ⟨rfl, rfl, r1, r2⟩ := hp'
  have al : Z.vm.Alike P.U.vm := hZ.alike.trans X.warmed.alike
  obtain ⟨A, hx⟩ := txt_of wi al E V C K hc hb l2
  obtain ⟨A', hy⟩ := txt_of wi al E' V' C' K' hc' hb' l2'
  obtain ⟨v, B, X', ⟨⟨w, hv, hh, hq⟩, hl, hk, hs⟩, st⟩ := SEq.pays x t A cd cs.length (fun j => cs.getD j 0) y t' A' cd' ds.length (fun j => ds.getD j 0) z (tabEq_of (movedEq hZ hw)) hfr hlo m meth c P g ig mk _ X hg hsize hdg hW hn ⟨r1, r2, rfl, hx, hy, sta_is al S, hz⟩
  refine ⟨v, B, X', ⟨[], ⟨?_, rfl, hh⟩, hl, hk, hs⟩, st⟩
  rcases hq with ⟨rfl, q⟩ | ⟨rfl, q⟩
  · exact Or.inl ⟨hv, (same_list cs ds).mp q⟩
  · exact Or.inr ⟨hv, fun e => q ((same_list cs ds).mpr e)⟩
end StrChars.Road
namespace StrChars
open Jvm Sem ClassFile Op Lib Jvm.Stand Jvm.Free.XT Jvm.Free.ALB Jvm.Free.JM Jvm.Free
open Jvm.Lib.Cold (StaticIs)
namespace ChN
def yN : MethodName := ⟨"java/lang/String", "charAt", "(I)C"⟩
abbrev yB : ByteArray := jdk_42_method_56_code
theorem d0 : decode yB 0 = .ok (.aload_n 0, 1) := by decide +kernel
theorem d1 : decode yB 1 = .ok (.invokevirtual 492, 3) := by decide +kernel
theorem d4 : decode yB 4 = .ok (.ifCond (.eq) 12, 3) := by decide +kernel
theorem d7 : decode yB 7 = .ok (.aload_n 0, 1) := by decide +kernel
theorem d8 : decode yB 8 = .ok (.getfield 9, 3) := by decide +kernel
theorem d11 : decode yB 11 = .ok (.iload_n 1, 1) := by decide +kernel
theorem d12 : decode yB 12 = .ok (.invokestatic 495, 3) := by decide +kernel
theorem d15 : decode yB 15 = .ok (.ireturn, 1) := by decide +kernel
def site : List Cond := [.fieldLink "java/lang/String" 9 "java/lang/String" "value" "[B", IsL.tab, LChA.tab] ++ virtW "java/lang/String" 492 "java/lang/String" IsL.yN IsL.yN ++ staticW "java/lang/String" 495 LChA.yN
def tab : Cond := tabOf yN yB 2 (some .char) site
def P (x t : Addr) (V : Cell) (n : Nat) (f : Nat → Int32) (z : Int32) (fm : Value) (i : Nat) (args : Array Value) (s : State) : Prop := args = #[.ref x, .int (Int32.ofNat i)] ∧ Txt x t V 0 n f s ∧ i < n ∧ StaticIs s "java/lang/String" "COMPACT_STRINGS" "Z" (.int z) ∧ ¬ z = 0 ∧ StaticIs s "jdk/internal/util/Preconditions" "SIOOBE_FORMATTER" "Ljava/util/function/BiFunction;" fm ∧ fm.isRef = true
def E (f : Nat → Int32) (i : Nat) (r : Option Value) (s u : State) : Prop := XT.PureE (some (.int (f i))) r s u
/-- charAt(i) of a Latin-1 String of n chars, i < n: f i -/
theorem law (l : Launch) (x t : Addr) (V : Cell) (n : Nat) (f : Nat → Int32) (z : Int32) (fm : Value) (i : Nat) : Law l yN 2 1 3 40 yB 2 (some .char) site (P x t V n f z fm i) (E f i) [] 0 0 := by
  refine Law.of_walk (plainFor_of_name (by decide +kernel)) (by decide +kernel) (by decide +kernel) (by decide) (fun _ _ h => by rw [h.1]; rfl) (fun _ U U' hal hh h => ⟨h.1, h.2.1.mv hal hh, h.2.2.1, h.2.2.2.1.there hal hh, h.2.2.2.2.1, h.2.2.2.2.2.1.there hal hh, h.2.2.2.2.2.2⟩) (fun r U U' V V' h1 hal h2 h => XT.PureE.mv r U U' V V' h1 hal h2 h) ?_
  intro p e s m args below meth c s₁ X0 hexec hbytes hml hret hlk hnm hown hh0 W hP
  obtain ⟨rfl, hx, hi, s1, hz, s3, rf⟩ := hP
  have v31 := hx.2.2.2.1.2.2.2
  have hr := hx.2.2.2.2.2 i hi
  have hx0 := hx.mv X0.warmed.alike hh0
  have c1 : Steps p.tables e below (s₁.setTop (entryFrame m #[.ref x, .int (Int32.ofNat i)] 2)) (s₁.setTop (mkF m 1 #[.val (.ref x), .val (.int (Int32.ofNat i))] [.ref x])) := Steps.trans (entry rfl) (by
    show Steps p.tables e below (s₁.setTop (mkF m 0 #[.val (.ref x), .val (.int (Int32.ofNat i))] [])) _
    refine XS.aloadN X0.here hexec rfl (hb hbytes d0) rfl rfl ?_
    exact Steps.refl _)
  obtain ⟨v2, T2, X2, E2, g2⟩ := X0.callV hexec (IsL.law l x 0 z) hown (wks W (virtW "java/lang/String" 492 "java/lang/String" IsL.yN IsL.yN)) rfl (by decide) (wk W IsL.tab) (W := 0) (Nat.le_of_ble_eq_true rfl) (Nat.le_of_ble_eq_true rfl) (Nat.le_refl _) (Nat.le_refl _) (hx0.1.fc X0.warmed.alike) hx0.1.is (g := (mkF m 1 #[.val (.ref x), .val (.int (Int32.ofNat i))] [.ref x])) rfl (by rw [hml]; rfl) c1 (argsL := []) (rest := []) rfl rfl (by show 2 * 0 + 0 ≤ _; decide) (hb hbytes d1) (⟨rfl, hx0.2.2.1, hx.2.2.2.2.1.cd, s1.there X0.warmed.alike hh0, hz⟩)
  obtain ⟨rfl, q2⟩ := E2
  have hh2 := q2.trans hh0
  have hx2 := hx.mv X2.warmed.alike hh2
  obtain ⟨-, k1, k2⟩ | ⟨k0, -⟩ := hx.2.2.2.2.1
  · have c3 : Steps p.tables e below (s₁.setTop (entryFrame m #[.ref x, .int (Int32.ofNat i)] 2)) (T2.setTop (mkF m 8 #[.val (.ref x), .val (.int (Int32.ofNat i))] [.ref x])) := Steps.trans g2 (by
      refine XS.ifNo X2.here hexec rfl (hb hbytes d4) rfl (i0_eq_f (by decide)) ?_
      refine XS.aloadN X2.here hexec rfl (hb hbytes d7) rfl rfl ?_
      exact Steps.refl _)
    obtain ⟨T4, X4, q4, st4⟩ := X2.hget hexec hown (wk W (.fieldLink "java/lang/String" 9 "java/lang/String" "value" "[B")) hx2.2.1 (g := (mkF m 8 #[.val (.ref x), .val (.int (Int32.ofNat i))] [.ref x])) rfl (rest := []) rfl (hb hbytes d8)
    have hh4 := q4.trans hh2
    have c5 : Steps p.tables e below (s₁.setTop (entryFrame m #[.ref x, .int (Int32.ofNat i)] 2)) (T4.setTop (mkF m 12 #[.val (.ref x), .val (.int (Int32.ofNat i))] [.int (Int32.ofNat i), .ref t])) := (c3.trans (st4 _ (Steps.refl _))).trans (by
      refine XS.iloadN X4.here hexec rfl (hb hbytes d11) rfl ?_
      exact Steps.refl _)
    obtain ⟨v6, T6, X6, E6, g6⟩ := X4.callS hexec (LChA.law l t V i (lo8 (f i)) fm) hown (wks W (staticW "java/lang/String" 495 LChA.yN)) (wk W LChA.tab) (W := 0) (Nat.le_of_ble_eq_true rfl) (Nat.le_of_ble_eq_true rfl) (Nat.le_refl _) (Nat.le_refl _) (g := (mkF m 12 #[.val (.ref x), .val (.int (Int32.ofNat i))] [.int (Int32.ofNat i), .ref t])) rfl (by rw [hml]; rfl) c5 (argsL := [.ref t, .int (Int32.ofNat i)]) (rest := []) rfl rfl (by show 2 * 0 + 0 ≤ _; decide) (hb hbytes d12) (⟨rfl, hx.2.2.2.1.mv X4.warmed.alike hh4, (k2 i hi).1, s3.there X4.warmed.alike hh4, rf⟩)
    obtain ⟨rfl, q6⟩ := E6
    rw [chr8_lo8 hr.1 (k2 i hi).2] at g6
    exact ⟨T6, some (.int (f i)), _, _, _, X6, rfl, rfl, rfl, (fun h => by cases h), ⟨rfl, q6.trans hh4⟩, fun fs hl => Steps.trans g6 (X6.ireturnOut hexec hret (narrow_ch hr.1 hr.2) (Or.inr (Or.inr (Or.inr (Or.inl rfl)))) (hb hbytes d15) hl)⟩
  · exact absurd k0 (by decide)
theorem pays {l : Launch} {R : Room} {p : Program} {e : Env} {below : List Frame} {s : State} {sargs : Array Value} {len W : Nat} (x t : Addr) (V : Cell) (n : Nat) (f : Nat → Int32) (z : Int32) (fm : Value) (i : Nat) (htab : tab.before sargs s = true) (hfr : 4 ≤ R.frames) (hlo : W + 53 ≤ R.locals) :
    Back l R p e below s sargs yN len W (fun A₁ a₁ => A₁.cells + 0 ≤ R.cells ∧ A₁.slots + 0 ≤ R.slots ∧ P x t V n f z fm i a₁ A₁.U) (fun A₁ _ v₁ B₁ => E f i v₁ A₁.U B₁.U ∧ B₁.locs = A₁.locs ++ [] ∧ B₁.cells = A₁.cells + 0 ∧ B₁.slots = A₁.slots + 0) :=
  (law l x t V n f z fm i).pays htab hfr (by omega)
end ChN
end StrChars
namespace StrChars.Road
open Jvm Sem ClassFile Op Lib Jvm.Stand Jvm.Free Jvm.Free.XT
open Jvm.Lib.Cold (StaticIs)
/-- the words of String.charAt(int), the Latin-1 road alone -/
abbrev wordsChN : List Jvm.Cond := [.code ChN.yN ChN.yB 2 (some .char), .initialized ST, .fieldLink ST 9 ST "value" "[B", .fieldLink ST 38 ST "COMPACT_STRINGS" "Z", .fieldLink ST 15 ST "coder" "B", .code IsL.yN IsL.yB 1 (some .boolean), .methodLink ST 492 IsL.yN, .declares IsL.yN, .selects ST IsL.yN IsL.yN, .instanceMethod IsL.yN,
  .methodLink ST 495 LChA.yN, .static LChA.yN, .code LChA.yN LChA.yB 2 (some .char), .initialized "java/lang/StringLatin1", .methodLink "java/lang/StringLatin1" 9 JO.Str_checkIndex.yN, .static JO.Str_checkIndex.yN, .code JO.Str_checkIndex.yN JO.Str_checkIndex.yB 2 none,
  .fieldLink ST 1053 "jdk/internal/util/Preconditions" "SIOOBE_FORMATTER" "Ljava/util/function/BiFunction;", .methodLink ST 1059 JC.PreCheck.yN, .static JC.PreCheck.yN, .code JC.PreCheck.yN JC.PreCheck.yB 3 (some .int), .initialized "jdk/internal/util/Preconditions"]
theorem tabChN_of {a : Array Value} {s : State} (h : ∀ w ∈ wordsChN, w.before a s = true) : ChN.tab.before a s = true := by
  have hp : JC.PreCheck.tab.before a s = true := unparts (wk h (.code JC.PreCheck.yN JC.PreCheck.yB 3 (some .int))) (wks h (.initialized JC.PreCheck.yN.cls :: JC.PreCheck.site))
  have qk := consq hp h
  have hk : JO.Str_checkIndex.tab.before a s = true := unparts (wk qk (.code JO.Str_checkIndex.yN JO.Str_checkIndex.yB 2 none)) (wks qk (.initialized JO.Str_checkIndex.yN.cls :: JO.Str_checkIndex.site))
  have ql := consq hk h
  have hl : LChA.tab.before a s = true := unparts (wk ql (.code LChA.yN LChA.yB 2 (some .char))) (wks ql (.initialized LChA.yN.cls :: LChA.site))
  have hi : IsL.tab.before a s = true := unparts (wk h (.code IsL.yN IsL.yB 1 (some .boolean))) (wks h (.initialized IsL.yN.cls :: IsL.site))
  have q := consq hi (consq hl h)
  exact unparts (wk q (.code ChN.yN ChN.yB 2 (some .char))) (wks q (.initialized ChN.yN.cls :: ChN.site))
theorem movedChN {Z s : State} {a0 args : Array Value} (hZ : Z.Warmed39 s.vm) (hw : ∀ d ∈ wordsChN, d.before a0 Z = true) : ∀ d ∈ wordsChN, d.before args s = true := fun d hd => by
  have t : ∀ d ∈ wordsChN, (d.onTables && d.keepsFace) = true := by decide +kernel
  exact RoadKit.mv hZ (hw d hd) (t d hd)
/-- **charAt(i) OF A LATIN-1 STRING**, i < n: the char -/
theorem chN {p : Program} {l : Launch} {e : Env} {R : Room} {s : State} {args : Array Value} {below : List Frame} {len W : Nat} {Z : State} {a0 : Array Value} {h : Heap} (hZ : Z.Warmed39 s.vm) (hw : ∀ d ∈ wordsChN, d.before a0 Z = true) {kI : Nat} (wi : (Jvm.Cond.instantiable ST kI).before a0 Z = true)
    {x t : Addr} {kb : ClassId} {cs : List Int32} {N2 z : Int32} {vs : List Value} {fm : Value} {i : Nat} {j : Int32} (E : RoadKit.Exa Z h x ST) (V : RoadKit.Fld Z h x ST "value" "[B" (.ref t)) (C : RoadKit.Fld Z h x ST "coder" "B" (.int 0)) (K : RoadKit.Arv Z h t kb .byte N2 vs (.int 0)) (hc : CodA cs 0 N2 vs) (hb : ∀ c ∈ cs, ¬ c < 0 ∧ ¬ (65535 : Int32) < c)
    (S : RoadKit.Sta Z h ST "COMPACT_STRINGS" "Z" (.int z)) (hz : ¬ z = 0) (F : RoadKit.Sta Z h "jdk/internal/util/Preconditions" "SIOOBE_FORMATTER" "Ljava/util/function/BiFunction;" fm) (rf : fm.isRef = true) (l2 : cs.length ≤ 4000) (hi : i < cs.length) (hj : j = Int32.ofNat i) (hfr : 4 ≤ R.frames) (hlo : W + 53 ≤ R.locals) :
    Back l R p e below s args (⟨"java/lang/String", "charAt", "(I)C"⟩ : MethodName) len W (fun P a => a = #[.ref x, .int j] ∧ P.U.heap = h ∧ P.cells + 0 ≤ R.cells ∧ P.slots + 0 ≤ R.slots)
      (fun P _ v B => ∃ L, (v = some (.int (cs.getD i 0)) ∧ L = [] ∧ B.U.heap = h) ∧ B.locs = P.locs ++ L ∧ B.cells = P.cells + 0 ∧ B.slots = P.slots + 0) := by
  subst hj
  intro m meth c P g ig mk a X hg hsize hdg hW hn hp'
  obtain ⟨rfl, rfl, r1, r2⟩ := hp'
  have al : Z.vm.Alike P.U.vm := hZ.alike.trans X.warmed.alike
  obtain ⟨A, hx⟩ := txt_of wi al E V C K hc hb l2
  obtain ⟨v, B, X', ⟨⟨hv, hh⟩, hl, hk, hs⟩, st⟩ := ChN.pays x t A cs.length (fun j => cs.getD j 0) z fm i (tabChN_of (movedChN hZ hw)) hfr hlo m meth c P g ig mk _ X hg hsize hdg hW hn ⟨r1, r2, rfl, hx, hi, sta_is al S, hz, sta_is al F, rf⟩
  exact ⟨v, B, X', ⟨[], ⟨hv, rfl, hh⟩, hl, hk, hs⟩, st⟩
/-- what backV says of its String, as the contracts of this text ask it: cs's low bytes, coder 0 -/
theorem codOf {cs : List Int32} {n : Nat} (hn : cs.length = n) (hb : ∀ c ∈ cs, ¬ 255 < c) : CodA cs 0 (Int32.ofNat n) ((cs.map lo8).map Value.int) := Or.inl ⟨rfl, by rw [hn], by simp [List.map_map, Function.comp_def], hb⟩
end StrChars.Road
end Jvm.Pilot.@@N@@

namespace Jvm.Pilot.@@N@@
open Jvm Jvm.ClassFile Sem Op Lib Jvm.Free Jvm.Stand Jvm.LawKit Jvm.RoadKit Bundle Jvm.Pilot.@@N@@.Jvm.D
section Kit
variable {p : Program} {l : Launch} {e : Env} {R : Room} {s : State} {m : MethodId} {args : Array Value} {below : List Frame} {meth : Method} {c : Code} {Z : State} {EL : List (String × Nat)} {own : String} {n0 : Nat} {bk : Addr → Prop} {h : Heap} {cells slots : Nat} {g g' : JFrame} {a0 : Array Value} {Q : Option Value → Heap → (Addr → Prop) → Prop}
/-- what a walk leaves: its answer, its heap, what may be booked -/
def EndW (s : State) (R : Room) (Z : State) (EL : List (String × Nat)) (n0 : Nat) (Q : Option Value → Heap → (Addr → Prop) → Prop) (o : Outcome) (U : State) : Prop :=
  ∃ v L bk', o = .returned v ∧ (Q v U.heap bk' ∧ Fr n0 L ∧ Old Z n0 U.heap ∧ CHv Z EL U.vm U.heap ∧ ∀ y, Bk Z EL U.vm U.heap y → bk' y) ∧ ReturnedEndW s o U L R.cells R.slots
/-- where a walk stands -/
def Pos (p : Program) (l : Launch) (e : Env) (R : Room) (s : State) (m : MethodId) (args : Array Value) (below : List Frame) (meth : Method) (c : Code) (Z : State) (EL : List (String × Nat)) (own : String) (n0 : Nat) (bk : Addr → Prop) (h : Heap) (cells slots : Nat) (vm0 : Vm) (T : State) (locs : List Loc) : Prop :=
  Stand p l e R (s.setVm vm0) m args below meth c T locs cells slots ∧ T.heap = h ∧ (∃ k0, s.Since vm0 k0 ∧ k0 ≤ h.size) ∧ Z.Warmed39 vm0 ∧ vm0.findClass own = some m.cls ∧ Fr n0 locs ∧ Old Z n0 h ∧ CHv Z EL vm0 h ∧ (∀ y, Bk Z EL vm0 h y → bk y) ∧ ∃ a0, EW Z a0 EL
/-- from here the walk ends, and leaves Q -/
def Run (p : Program) (l : Launch) (e : Env) (R : Room) (s : State) (m : MethodId) (args : Array Value) (below : List Frame) (meth : Method) (c : Code) (Z : State) (EL : List (String × Nat)) (own : String) (n0 : Nat) (bk : Addr → Prop) (h : Heap) (cells slots : Nat) (g : JFrame) (Q : Option Value → Heap → (Addr → Prop) → Prop) : Prop :=
  ∀ vm0 T locs, Pos p l e R s m args below meth c Z EL own n0 bk h cells slots vm0 T locs → ∃ U o, Steps p.tables e below (T.setTop g) U ∧ U.status = .running ∧ Ended U below o ∧ EndW s R Z EL n0 Q o U
/-- a body's contract -/
def Met (l : Launch) (Z : State) (EL : List (String × Nat)) (n0 : Nat) (bk : Addr → Prop) (y : MethodName) (bytes : ByteArray) (maxL : Nat) (ret : Option FieldType) (rm : Room) (as' : Array Value) (h : Heap) (Q : Option Value → Heap → (Addr → Prop) → Prop) (ws : List Jvm.Cond) : Prop :=
  MetFree l y (head1 (Jvm.Cond.code y bytes maxL ret :: ws) rm) (fun a U => a = as' ∧ Z.Warmed39 U.vm ∧ U.heap = h ∧ CHv Z EL U.vm h ∧ ∀ x, Bk Z EL U.vm h x → bk x) (fun _ _ _ _ _ => True) (fun _ U o U' => EndW U rm Z EL n0 Q o U')
theorem end_mono {s t : State} {o : Outcome} {L : List Loc} {k n k' n' : Nat} (H : ReturnedEndW s o t L k n) (hk : k ≤ k') (hn : n ≤ n') : ReturnedEndW s o t L k' n' := ⟨H.1, H.2.1, H.2.2.1, H.2.2.2.mono hk hn⟩
theorem Met.of {y : MethodName} {bytes : ByteArray} {maxL : Nat} {ret : Option FieldType} {rm : Room} {as' : Array Value} {ws : List Jvm.Cond} (hp : plainFor y = true) (hO : Old Z n0 h) (hE : EW Z a0 EL)
    (H : ∀ p e s m below meth c, p.tables.exec = Jvm.exec → c.code = bytes → c.maxLocals = maxL → meth.sig.returnType = ret → meth.locks = false → meth.name = y.name → Run p l e rm s m as' below meth c Z EL y.cls n0 bk h 0 0 (entryFrame m as' maxL) Q) : Met l Z EL n0 bk y bytes maxL ret rm as' h Q ws := by
  refine MetFree.of_bodySF hp hisR ?_
  intro p e s m args below meth c s₁ Bd hml hP hK
  obtain ⟨rfl, hZ, hh, hC, hB⟩ := hP
  have e0 : s₁.heap = h := by rw [← hh, Bd.state]; rfl
  exact H p e s m below meth c Bd.exec Bd.bytes hml Bd.returns Bd.notSynchronized (name_of_methodNamed Bd.named Bd.method).1 s.vm s₁ [] ⟨Stand.of_body Bd, e0, ⟨0, (State.WarmedH.refl s).since _, Nat.zero_le _⟩, hZ, findClass_of_methodNamed Bd.named, Fr.nil _, hO, hC, hB, _, hE⟩
/-- one pure step -/
theorem k_pure (st : ∀ T, At T m c below → ∀ t, Steps p.tables e below (T.setTop g') t → Steps p.tables e below (T.setTop g) t)
    (k : Run p l e R s m args below meth c Z EL own n0 bk h cells slots g' Q) : Run p l e R s m args below meth c Z EL own n0 bk h cells slots g Q := fun vm0 T locs P => by
  obtain ⟨U, o, h1, r⟩ := k vm0 T locs P
  exact ⟨U, o, st T P.1.here _ h1, r⟩
theorem k_cast (q : g = g') (k : Run p l e R s m args below meth c Z EL own n0 bk h cells slots g' Q) : Run p l e R s m args below meth c Z EL own n0 bk h cells slots g Q := q ▸ k
theorem k_more {cells' slots' : Nat} (hc : cells ≤ cells') (hs : slots ≤ slots') (k : Run p l e R s m args below meth c Z EL own n0 bk h cells' slots' g Q) : Run p l e R s m args below meth c Z EL own n0 bk h cells slots g Q := fun vm0 T locs P => k vm0 T locs ⟨P.1.more hc hs, P.2⟩
/-- one step that looks at the tables or the heap and moves no cell -/
theorem k_still (st : ∀ s' T locs, Stand p l e R s' m args below meth c T locs cells slots → T.heap = h → Z.Warmed39 s'.vm → s'.vm.findClass own = some m.cls → ∃ T', Stand p l e R s' m args below meth c T' locs cells slots ∧ T'.heap = h ∧ ∀ t, Steps p.tables e below (T'.setTop g') t → Steps p.tables e below (T.setTop g) t)
    (k : Run p l e R s m args below meth c Z EL own n0 bk h cells slots g' Q) : Run p l e R s m args below meth c Z EL own n0 bk h cells slots g Q := fun vm0 T locs P => by
  obtain ⟨X, e1, hS, hZ, ho, N, O, C, B, hE⟩ := P
  obtain ⟨T', X', e2, st'⟩ := st _ T locs X e1 hZ ho
  obtain ⟨U, o, h1, r⟩ := k vm0 T' locs ⟨X', e2, hS, hZ, ho, N, O, C, B, hE⟩
  exact ⟨U, o, st' _ h1, r⟩
/-- one step that makes cells -/
theorem k_grow {kc ks : Nat} {F : Heap → JFrame → Prop} (st : ∀ s' T locs, Stand p l e R s' m args below meth c T locs cells slots → T.heap = h → Z.Warmed39 s'.vm → s'.vm.findClass own = some m.cls → ∃ T' h' g', Stand p l e R s' m args below meth c T' locs (cells + kc) (slots + ks) ∧ T'.heap = h' ∧ Ext h h' ∧ F h' g' ∧ ∀ t, Steps p.tables e below (T'.setTop g') t → Steps p.tables e below (T.setTop g) t)
    (k : ∀ h' g', Old Z n0 h' → Ext h h' → F h' g' → Run p l e R s m args below meth c Z EL own n0 bk h' (cells + kc) (slots + ks) g' Q) : Run p l e R s m args below meth c Z EL own n0 bk h cells slots g Q := fun vm0 T locs P => by
  obtain ⟨X, e1, ⟨k0, hS, hk⟩, hZ, ho, N, O, C, B, hE⟩ := P
  obtain ⟨T', h', g', X', e2, E, hF, st'⟩ := st _ T locs X e1 hZ ho
  have hC := CHr.ext E C
  obtain ⟨U, o, h1, r⟩ := k h' g' (O.ext E) E hF vm0 T' locs ⟨X', e2, ⟨k0, hS, Nat.le_trans hk E.1⟩, hZ, ho, N, O.ext E, hC.1, fun y q => B y ((C.step fun _ _ _ q => E.2 _ _ q).2 y q), hE⟩
  exact ⟨U, o, st' _ h1, r⟩
/-- one step that writes one place of a cell that is ours -/
theorem k_write {a : Addr} {sl : Nat} {v : Value} (ge : n0 ≤ a) (nb : ¬ bk a)
    (st : ∀ s' T locs, Stand p l e R s' m args below meth c T locs cells slots → T.heap = h → Z.Warmed39 s'.vm → s'.vm.findClass own = some m.cls → ∃ T' h', Stand p l e R s' m args below meth c T' (locs ++ [⟨a, sl⟩]) cells slots ∧ T'.heap = h' ∧ Wr h h' a sl v ∧ ∀ t, Steps p.tables e below (T'.setTop g') t → Steps p.tables e below (T.setTop g) t)
    (k : ∀ h', Old Z n0 h' → Wr h h' a sl v → Run p l e R s m args below meth c Z EL own n0 bk h' cells slots g' Q) : Run p l e R s m args below meth c Z EL own n0 bk h cells slots g Q := fun vm0 T locs P => by
  obtain ⟨X, e1, ⟨k0, hS, hk⟩, hZ, ho, N, O, C, B, hE⟩ := P
  obtain ⟨T', h', X', e2, W, st'⟩ := st _ T locs X e1 hZ ho
  have sa : Safe Z EL vm0 h a := fun q => nb (B a q)
  have hC := C.wrStep W sa
  obtain ⟨U, o, h1, r⟩ := k h' (O.wr W ge) W vm0 T' _ ⟨X', e2, ⟨k0, hS, by rw [W.size]; exact hk⟩, hZ, ho, Fr.snoc X' N ge, O.wr W ge, hC.1, fun y q => B y (hC.2 y q), hE⟩
  exact ⟨U, o, st' _ h1, r⟩
/-- the end of a walk -/
theorem k_end {v : Option Value} (hlk : meth.locks = false) (hv : meth.sig.returnType = none → v = none) (hc : cells ≤ R.cells) (hs : slots ≤ R.slots) (hQ : Q v h bk)
    (st : ∀ s' T locs fs, Stand p l e R s' m args below meth c T locs cells slots → (∀ (f : JFrame) (acts : List Action), f.method = m → f.locked = none → f.entered = [] → (doReturn e (T.setTop f) acts v).1 = T.setFrames fs) → Steps p.tables e below (T.setTop g) (T.setFrames fs)) :
    Run p l e R s m args below meth c Z EL own n0 bk h cells slots g Q := fun vm0 T locs P => by
  obtain ⟨X, e1, ⟨k0, hS, hk⟩, hZ, ho, N, O, C, B, a0, hE⟩ := P
  obtain ⟨fs, hr, hrun, hended, hW⟩ := X.leaveW hS (by rw [e1]; exact hk) (v := v) hv hlk
  have A := CHv.at X hZ hE C
  have eh : (T.setFrames fs).heap = h := e1
  refine ⟨_, _, st _ T locs fs X hr, hrun, hended, v, locs, bk, rfl, ⟨?_, N, ?_, ?_, ?_⟩, end_mono hW hc hs⟩
  · rw [eh]; exact hQ
  · rw [eh]; exact O
  · rw [eh]; exact A.1
  · rw [eh]; exact fun y q => (A.2.2 y q).elim (B y) (fun z => absurd (Array.getElem?_eq_some_iff.mp (Bk.there q).choose_spec).1 (Nat.not_lt.mpr z))
/-! the steps -/
theorem k_getF (hx : p.tables.exec = Jvm.exec) {R0 O n d host : String} {index : Nat} (w : (Jvm.Cond.fieldLink own index R0 n d).before a0 Z = true ∨ (Jvm.Cond.fieldLinkNest own index R0 n d host).before a0 Z = true) (via : Via Z R0 O n d) {a : Addr} {v : Value} (F : Fld Z h a O n d v)
    (hg : g.method = m) {rest : List Value} (hs : g.stack = .ref a :: rest) (hd : decode c.code g.pc = .ok (.getfield index, 3)) (k : Run p l e R s m args below meth c Z EL own n0 bk h cells slots { g with pc := g.pc + 3, stack := v :: rest } Q) : Run p l e R s m args below meth c Z EL own n0 bk h cells slots g Q :=
  k_still (fun s' T locs X e1 hZ ho => getF X hx hZ ho w via e1 F hg hs hd) k
theorem k_getS (hx : p.tables.exec = Jvm.exec) {R0 O n d host : String} {index : Nat} (w : (Jvm.Cond.fieldLink own index R0 n d).before a0 Z = true ∨ (Jvm.Cond.fieldLinkNest own index R0 n d host).before a0 Z = true) (via : Via Z R0 O n d) {v : Value} (F : Sta Z h O n d v)
    (hg : g.method = m) (hd : decode c.code g.pc = .ok (.getstatic index, 3)) (k : Run p l e R s m args below meth c Z EL own n0 bk h cells slots { g with pc := g.pc + 3, stack := v :: g.stack } Q) : Run p l e R s m args below meth c Z EL own n0 bk h cells slots g Q :=
  k_still (fun s' T locs X e1 hZ ho => getS2 X hx hZ ho w via e1 F hg hd) k
theorem k_cast' (hx : p.tables.exec = Jvm.exec) {K : String} {index : Nat} (w : (Jvm.Cond.classLink own index K).before a0 Z = true) {a : Addr} (F : Ins Z h a K true) (hg : g.method = m) {rest : List Value} (hs : g.stack = .ref a :: rest) (hd : decode c.code g.pc = .ok (.checkcast index, 3))
    (k : Run p l e R s m args below meth c Z EL own n0 bk h cells slots { g with pc := g.pc + 3 } Q) : Run p l e R s m args below meth c Z EL own n0 bk h cells slots g Q :=
  k_still (fun s' T locs X e1 hZ ho => castY X hx hZ ho w e1 F hg hs hd) k
theorem k_instY (hx : p.tables.exec = Jvm.exec) {K : String} {index : Nat} (w : (Jvm.Cond.classLink own index K).before a0 Z = true) {a : Addr} (F : Ins Z h a K true) (hg : g.method = m) {rest : List Value} (hs : g.stack = .ref a :: rest) (hd : decode c.code g.pc = .ok (.instanceof index, 3))
    (k : Run p l e R s m args below meth c Z EL own n0 bk h cells slots { g with pc := g.pc + 3, stack := .int 1 :: rest } Q) : Run p l e R s m args below meth c Z EL own n0 bk h cells slots g Q :=
  k_still (fun s' T locs X e1 hZ ho => instY X hx hZ ho w e1 F hg hs hd) k
theorem k_instNo (hx : p.tables.exec = Jvm.exec) {K C : String} {index : Nat} (w : (Jvm.Cond.classLink own index K).before a0 Z = true) {a : Addr} (E : Exa Z h a C) (F : ∃ c t, Z.vm.findClass C = some c ∧ Z.vm.findClass K = some t ∧ Z.vm.assignable c t = false) (hg : g.method = m) {rest : List Value} (hs : g.stack = .ref a :: rest) (hd : decode c.code g.pc = .ok (.instanceof index, 3))
    (k : Run p l e R s m args below meth c Z EL own n0 bk h cells slots { g with pc := g.pc + 3, stack := .int 0 :: rest } Q) : Run p l e R s m args below meth c Z EL own n0 bk h cells slots g Q :=
  k_still (fun s' T locs X e1 hZ ho => instNo X hx hZ ho w e1 E F hg hs hd) k
theorem k_initO (hx : p.tables.exec = Jvm.exec) {idx : Nat} (w1 : (Jvm.Cond.methodLink own idx Lib.objectInit).before a0 Z = true) (w2 : (Jvm.Cond.instanceMethod Lib.objectInit).before a0 Z = true) (w3 : (Jvm.Cond.code Lib.objectInit ⟨#[0xb1]⟩ 1 none).before a0 Z = true)
    (hg : g.method = m) (hsize : g.locals.size = c.maxLocals) {a : Addr} {rest : List Value} (hs : g.stack = .ref a :: rest) (hd : decode c.code g.pc = .ok (.invokespecial idx, 3)) (hf : 1 ≤ R.frames) {W : Nat} (hW : 2 * g.monitorRoom + (rest.map fun v => v.category).sum ≤ W) (hl : W + 12 ≤ R.locals)
    (k : Run p l e R s m args below meth c Z EL own n0 bk h cells slots { g with pc := g.pc + 3, stack := rest } Q) : Run p l e R s m args below meth c Z EL own n0 bk h cells slots g Q :=
  k_still (fun s' T locs X e1 hZ ho => initO X hx hZ ho w1 w2 w3 e1 hg hsize hs hd hf hW hl) k
theorem k_ldcI (hx : p.tables.exec = Jvm.exec) {index : Nat} {v : Int32} (w : (Jvm.Cond.constant own index v).before a0 Z = true) (hg : g.method = m) (hd : decode c.code g.pc = .ok (.ldc index, 2))
    (k : Run p l e R s m args below meth c Z EL own n0 bk h cells slots { g with pc := g.pc + 2, stack := .int v :: g.stack } Q) : Run p l e R s m args below meth c Z EL own n0 bk h cells slots g Q :=
  k_still (fun s' T locs X e1 hZ ho => ⟨T, X, e1, fun t => X.ldcInt hx ho (mv hZ w) hg hd t⟩) k
theorem k_ldcWI (hx : p.tables.exec = Jvm.exec) {index : Nat} {v : Int32} (w : (Jvm.Cond.constant own index v).before a0 Z = true) (hg : g.method = m) (hd : decode c.code g.pc = .ok (.ldc_w index, 3))
    (k : Run p l e R s m args below meth c Z EL own n0 bk h cells slots { g with pc := g.pc + 3, stack := .int v :: g.stack } Q) : Run p l e R s m args below meth c Z EL own n0 bk h cells slots g Q :=
  k_still (fun s' T locs X e1 hZ ho => ⟨T, X, e1, fun t => X.ldcWInt hx ho (mv hZ w) hg hd t⟩) k
theorem k_ldc2J (hx : p.tables.exec = Jvm.exec) {index : Nat} {v : Int64} (w : (Jvm.Cond.constantLong own index v).before a0 Z = true) (hg : g.method = m) (hd : decode c.code g.pc = .ok (.ldc2_w index, 3))
    (k : Run p l e R s m args below meth c Z EL own n0 bk h cells slots { g with pc := g.pc + 3, stack := .long v :: g.stack } Q) : Run p l e R s m args below meth c Z EL own n0 bk h cells slots g Q :=
  k_still (fun s' T locs X e1 hZ ho => ⟨T, X, e1, fun t => X.ldc2Long hx ho (mv hZ w) hg hd t⟩) k
theorem k_instNull (hx : p.tables.exec = Jvm.exec) {K : String} {index : Nat} (w : (Jvm.Cond.classLink own index K).before a0 Z = true) (hg : g.method = m) {rest : List Value} (hs : g.stack = .null :: rest) (hd : decode c.code g.pc = .ok (.instanceof index, 3))
    (k : Run p l e R s m args below meth c Z EL own n0 bk h cells slots { g with pc := g.pc + 3, stack := .int 0 :: rest } Q) : Run p l e R s m args below meth c Z EL own n0 bk h cells slots g Q :=
  k_still (fun s' T locs X e1 hZ ho => ⟨T, X, e1, fun t => X.instanceofNull hx hg hs hd t⟩) k
theorem k_newO (hx : p.tables.exec = Jvm.exec) {C : String} {index n : Nat} (w : (Jvm.Cond.classLink own index C).before a0 Z = true) (wi : (Jvm.Cond.instantiable C n).before a0 Z = true) (wz : (Jvm.Cond.initialized C).before a0 Z = true)
    (hg : g.method = m) (hd : decode c.code g.pc = .ok (.new index, 3)) (hc : cells + 1 ≤ R.cells) (hl : slots + n ≤ R.slots)
    (k : ∀ h' a, a = h.size → Old Z n0 h' → Ext h h' → Exa Z h' a C → (∀ {O nm d : String} {ty : FieldType}, RoadKit.Laid Z a0 C O nm d → parseFieldDescriptor d = some ty → Fld Z h' a O nm d (defaultValue ty)) → (∃ cell : Cell, h'[a]? = some cell ∧ cell.vm = .none ∧ cell.monitor = {}) →
      Run p l e R s m args below meth c Z EL own n0 bk h' (cells + 1) (slots + n) { g with pc := g.pc + 3, stack := .ref a :: g.stack } Q) : Run p l e R s m args below meth c Z EL own n0 bk h cells slots g Q :=
  k_grow (F := fun h' g' => g' = { g with pc := g.pc + 3, stack := .ref h.size :: g.stack } ∧ Exa Z h' h.size C ∧ (∀ {O nm d : String} {ty : FieldType}, RoadKit.Laid Z a0 C O nm d → parseFieldDescriptor d = some ty → Fld Z h' h.size O nm d (defaultValue ty)) ∧ ∃ cell : Cell, h'[h.size]? = some cell ∧ cell.vm = .none ∧ cell.monitor = {})
    (fun s' T locs X e1 hZ ho => by
      obtain ⟨T', h', X', e2, E, A, D, N, st⟩ := newO X hx hZ ho w wi wz e1 hg hd hc hl
      exact ⟨T', h', _, X', e2, E, ⟨rfl, A, D, N⟩, st⟩)
    (fun h' g' O E ⟨q, A, D, N⟩ => by subst q; exact k h' _ rfl O E A D N)
theorem k_newP (hx : p.tables.exec = Jvm.exec) {aty : ArrayType} (w : (Jvm.Cond.arrayClass (newarray.typeOf aty)).before a0 Z = true) (hg : g.method = m) (hd : decode c.code g.pc = .ok (.newarray aty, 2)) {n : Int32} {rest : List Value} (hs : g.stack = .int n :: rest)
    (hn : ¬ n < 0) {cap : Nat} (hcap : n.toNatClampNeg ≤ cap) (hb : cap * 8 ≤ 536870912) (hc : cells + 1 ≤ R.cells) (hl : slots + cap ≤ R.slots) (ad : String) (had : "[" ++ (newarray.typeOf aty).toString = ad)
    (k : ∀ h' a kA, a = h.size → Old Z n0 h' → Ext h h' → Arv Z h' a kA (newarray.typeOf aty) n [] (defaultValue (newarray.typeOf aty)) → Exa Z h' a ad → Run p l e R s m args below meth c Z EL own n0 bk h' (cells + 1) (slots + cap) { g with pc := g.pc + 2, stack := .ref a :: rest } Q) : Run p l e R s m args below meth c Z EL own n0 bk h cells slots g Q :=
  k_grow (F := fun h' g' => g' = { g with pc := g.pc + 2, stack := .ref h.size :: rest } ∧ Exa Z h' h.size ad ∧ ∃ kA, Arv Z h' h.size kA (newarray.typeOf aty) n [] (defaultValue (newarray.typeOf aty)))
    (fun s' T locs X e1 hZ ho => by
      obtain ⟨T', h', cA, X', e2, E, A, D, st⟩ := newPE X hx hZ w e1 hg hd hs hn hcap hb hc hl had
      exact ⟨T', h', _, X', e2, E, ⟨rfl, D, cA, Arv.new A hn⟩, st⟩)
    (fun h' g' O E ⟨q, D, kA, A⟩ => by subst q; exact k h' _ kA rfl O E A D)
theorem k_newR (hx : p.tables.exec = Jvm.exec) {C : String} {index : Nat} (w1 : (Jvm.Cond.classLink own index C).before a0 Z = true) (w2 : (Jvm.Cond.arrayOver (.object C)).before a0 Z = true) (hg : g.method = m) (hd : decode c.code g.pc = .ok (.anewarray index, 3)) {n : Int32} {rest : List Value} (hs : g.stack = .int n :: rest)
    (hn : ¬ n < 0) {cap : Nat} (hcap : n.toNatClampNeg ≤ cap) (hb : cap * 8 ≤ 536870912) (hc : cells + 1 ≤ R.cells) (hl : slots + cap ≤ R.slots) (ad : String) (had : "[" ++ (FieldType.object C).toString = ad)
    (k : ∀ h' a kA, a = h.size → Old Z n0 h' → Ext h h' → Arv Z h' a kA (.object C) n [] .null → Exa Z h' a ad → Ovr Z kA C → Run p l e R s m args below meth c Z EL own n0 bk h' (cells + 1) (slots + cap) { g with pc := g.pc + 3, stack := .ref a :: rest } Q) : Run p l e R s m args below meth c Z EL own n0 bk h cells slots g Q :=
  k_grow (F := fun h' g' => g' = { g with pc := g.pc + 3, stack := .ref h.size :: rest } ∧ Exa Z h' h.size ad ∧ ∃ kA, Arv Z h' h.size kA (.object C) n [] .null ∧ Ovr Z kA C)
    (fun s' T locs X e1 hZ ho => by
      obtain ⟨T', h', cA, X', e2, E, A, D, Ov, st⟩ := newRE X hx hZ ho w1 w2 e1 hg hd hs hn hcap hb hc hl had
      exact ⟨T', h', _, X', e2, E, ⟨rfl, D, cA, Arv.new A hn, Ov⟩, st⟩)
    (fun h' g' O E ⟨q, D, kA, A, Ov⟩ => by subst q; exact k h' _ kA rfl O E A D Ov)
theorem k_putF (hx : p.tables.exec = Jvm.exec) {R0 O n d host C : String} {index kk : Nat} {ty : FieldType} (w : (Jvm.Cond.fieldLink own index R0 n d).before a0 Z = true ∨ (Jvm.Cond.fieldLinkNest own index R0 n d host).before a0 Z = true) (via : Via Z R0 O n d)
    {a : Addr} {v old : Value} (F : Fld Z h a O n d old) (E : Exa Z h a C) (L : (Jvm.Cond.lays C O n d).before a0 Z = true ∨ ((Jvm.Cond.laysFinal C O n d).before a0 Z = true ∧ own = O ∧ meth.name = "<init>")) (wi : (Jvm.Cond.instantiable C kk).before a0 Z = true)
    (hty : parseFieldDescriptor d = some ty) (hn : narrow ty v = v) (hf : fits ty v = true) (ge : n0 ≤ a) (nb : ¬ bk a) (hg : g.method = m) {rest : List Value} (hs : g.stack = v :: .ref a :: rest) (hd : decode c.code g.pc = .ok (.putfield index, 3))
    (k : ∀ h', Old Z n0 h' → Wr h h' a (RoadKit.slotOf Z O n d) v → Run p l e R s m args below meth c Z EL own n0 bk h' cells slots { g with pc := g.pc + 3, stack := rest } Q) : Run p l e R s m args below meth c Z EL own n0 bk h cells slots g Q :=
  k_write ge nb (fun s' T locs X e1 hZ ho => putF X hx hZ ho w via e1 F E L wi hty hn hf hg hs hd) k
theorem k_alen (hx : p.tables.exec = Jvm.exec) {a : Addr} {kA : ClassId} {ty : FieldType} {n : Int32} {vs : List Value} {d : Value} (V : Arv Z h a kA ty n vs d) (hg : g.method = m) {rest : List Value} (hs : g.stack = .ref a :: rest) (hd : decode c.code g.pc = .ok (.arraylength, 1))
    (k : Run p l e R s m args below meth c Z EL own n0 bk h cells slots { g with pc := g.pc + 1, stack := .int n :: rest } Q) : Run p l e R s m args below meth c Z EL own n0 bk h cells slots g Q :=
  k_still (fun s' T locs X e1 hZ ho => ⟨T, X, e1, fun t => by
    obtain ⟨cl, A, -, S, q, -⟩ := V
    have := X.arraylength hx (a := a) (cell := cl) (by rw [e1]; exact A.1) (State.isArrayOf_alike hZ.alike A.2.1) hg hs hd t
    rw [len_of S q] at this; exact this⟩) k
theorem k_aget (hx : p.tables.exec = Jvm.exec) {a : Addr} {kA : ClassId} {ty : FieldType} {n j : Int32} {vs : List Value} {d v : Value} {i : Instr} (V : Arv Z h a kA ty n vs d) (hj : ¬ j < 0 ∧ j < n) (hv : vs.getD j.toNatClampNeg d = v)
    (hi : (i = .iaload ∧ ty = .int) ∨ (i = .laload ∧ ty = .long) ∨ (i = .caload ∧ ty = .char) ∨ (i = .baload ∧ ty = .byte) ∨ (i = .aaload ∧ ty.isReference = true)) (hg : g.method = m) {rest : List Value} (hs : g.stack = .int j :: .ref a :: rest) (hd : decode c.code g.pc = .ok (i, 1))
    (k : Run p l e R s m args below meth c Z EL own n0 bk h cells slots { g with pc := g.pc + 1, stack := v :: rest } Q) : Run p l e R s m args below meth c Z EL own n0 bk h cells slots g Q :=
  k_still (fun s' T locs X e1 hZ ho => ⟨T, X, e1, fun t => by
    obtain ⟨cl, A, -, S, q, H, -⟩ := V
    have A1 : T.heap[a]? = some cl := by rw [e1]; exact A.1
    have A2 := State.isArrayOf_alike hZ.alike A.2.1
    have hin := inb_of S hj
    have hv' := Has.at H hin hv
    rcases hi with ⟨rfl, rfl⟩ | ⟨rfl, rfl⟩ | ⟨rfl, rfl⟩ | ⟨rfl, rfl⟩ | ⟨rfl, ht⟩
    · exact X.iaload hx A1 A2 A.2.2 hin hv' hg hs hd t
    · exact X.laload hx A1 A2 A.2.2 hin hv' hg hs hd t
    · exact X.caload hx A1 A2 A.2.2 hin hv' hg hs hd t
    · exact X.baloadBytes hx A1 A2 A.2.2 hin hv' hg hs hd t
    · exact X.aaload hx A1 A2 ht A.2.2 hin hv' hg hs hd t⟩) k
theorem k_stC (hx : p.tables.exec = Jvm.exec) {a : Addr} {kA : ClassId} {n j x : Int32} {vs : List Value} {d : Value} (V : Arv Z h a kA .char n vs d) (hj : ¬ j < 0 ∧ j < n) (i : Nat) (hi : j.toNatClampNeg = i) (hl : i < vs.length) (ge : n0 ≤ a) (nb : ¬ bk a) (hg : g.method = m) {rest : List Value} (hs : g.stack = .int x :: .int j :: .ref a :: rest) (hd : decode c.code g.pc = .ok (.castore, 1))
    (k : ∀ h', Old Z n0 h' → Wr h h' a j.toNatClampNeg (.int (nar .char x)) → Arv Z h' a kA .char n (vs.set i (.int (nar .char x))) d → Run p l e R s m args below meth c Z EL own n0 bk h' cells slots { g with pc := g.pc + 1, stack := rest } Q) : Run p l e R s m args below meth c Z EL own n0 bk h cells slots g Q := by
  obtain ⟨cl, A, q1, S, q3, H, G⟩ := V
  exact k_write ge nb (fun s' T locs X e1 hZ ho => stC X hx hZ e1 A (inb_of S hj) hg hs hd) fun h' O W => k h' O W (Arv.set A q1 S q3 H G (fits_nar_char _) W i hi hl)
theorem k_stB (hx : p.tables.exec = Jvm.exec) {a : Addr} {kA : ClassId} {n j x : Int32} {vs : List Value} {d : Value} (V : Arv Z h a kA .byte n vs d) (hj : ¬ j < 0 ∧ j < n) (i : Nat) (hi : j.toNatClampNeg = i) (hl : i < vs.length) (ge : n0 ≤ a) (nb : ¬ bk a) (hg : g.method = m) {rest : List Value} (hs : g.stack = .int x :: .int j :: .ref a :: rest) (hd : decode c.code g.pc = .ok (.bastore, 1))
    (k : ∀ h', Old Z n0 h' → Wr h h' a j.toNatClampNeg (.int (nar .byte x)) → Arv Z h' a kA .byte n (vs.set i (.int (nar .byte x))) d → Run p l e R s m args below meth c Z EL own n0 bk h' cells slots { g with pc := g.pc + 1, stack := rest } Q) : Run p l e R s m args below meth c Z EL own n0 bk h cells slots g Q := by
  obtain ⟨cl, A, q1, S, q3, H, G⟩ := V
  exact k_write ge nb (fun s' T locs X e1 hZ ho => stB X hx hZ e1 A (inb_of S hj) hg hs hd) fun h' O W => k h' O W (Arv.set A q1 S q3 H G (fits_nar_byte _) W i hi hl)
theorem k_stR (hx : p.tables.exec = Jvm.exec) {a : Addr} {kA : ClassId} {ty : FieldType} {n j : Int32} {v : Value} {vs : List Value} {d : Value} (V : Arv Z h a kA ty n vs d) (hty : ty.isReference = true) (hfv : fits ty v = true) (F : Sto Z h a v) (hj : ¬ j < 0 ∧ j < n) (i : Nat) (hi : j.toNatClampNeg = i) (hl : i < vs.length) (ge : n0 ≤ a) (nb : ¬ bk a) (hg : g.method = m) {rest : List Value} (hs : g.stack = v :: .int j :: .ref a :: rest) (hd : decode c.code g.pc = .ok (.aastore, 1))
    (k : ∀ h', Old Z n0 h' → Wr h h' a j.toNatClampNeg v → Arv Z h' a kA ty n (vs.set i v) d → Run p l e R s m args below meth c Z EL own n0 bk h' cells slots { g with pc := g.pc + 1, stack := rest } Q) : Run p l e R s m args below meth c Z EL own n0 bk h cells slots g Q := by
  obtain ⟨cl, A, q1, S, q3, H, G⟩ := V
  exact k_write ge nb (fun s' T locs X e1 hZ ho => stR X hx hZ e1 A (inb_of S hj) hty F hg hs hd) fun h' O W => k h' O W (Arv.set A q1 S q3 H G hfv W i hi hl)
/-! the ends -/
theorem k_ret0 (hx : p.tables.exec = Jvm.exec) (hlk : meth.locks = false) (hret : meth.sig.returnType = none) {pc : Nat} {Ls : Array Slot} (hd : decode c.code pc = .ok (.return_, 1)) (hc : cells ≤ R.cells) (hs : slots ≤ R.slots) (hQ : Q none h bk) : Run p l e R s m args below meth c Z EL own n0 bk h cells slots (mkF m pc Ls []) Q :=
  k_end hlk (fun _ => rfl) hc hs hQ fun s' T locs fs X hr => X.returnOut hx hret hd hr
theorem k_retN (hx : p.tables.exec = Jvm.exec) (hlk : meth.locks = false) {t : FieldType} (hret : meth.sig.returnType = some t) (ht : t = .boolean ∨ t = .byte ∨ t = .char ∨ t = .short) {pc : Nat} {Ls : Array Slot} {z : Int32} {rest : List Value} (hd : decode c.code pc = .ok (.ireturn, 1)) (hc : cells ≤ R.cells) (hs : slots ≤ R.slots) (hQ : Q (some (.int (nar t z))) h bk) : Run p l e R s m args below meth c Z EL own n0 bk h cells slots (mkF m pc Ls (.int z :: rest)) Q :=
  k_end hlk (fun q => by rw [hret] at q; cases q) hc hs hQ fun s' T locs fs X hr => retN X hx hret ht hd hr
theorem k_ret (hx : p.tables.exec = Jvm.exec) (hlk : meth.locks = false) {t : FieldType} {w : Value} {i : Instr} (hret : meth.sig.returnType = some t) (hn : narrow t w = w)
    (hi : (i = .ireturn ∧ (t = .int ∨ t = .boolean ∨ t = .byte ∨ t = .char ∨ t = .short) ∧ ∃ z, w = .int z) ∨ (i = .lreturn ∧ t = .long ∧ ∃ z, w = .long z) ∨ (i = .dreturn ∧ t = .double ∧ ∃ z, w = .double z) ∨ (i = .freturn ∧ t = .float ∧ ∃ z, w = .float z) ∨ (i = .areturn ∧ t.isReference = true ∧ w.isRef = true)) {pc : Nat} {Ls : Array Slot} {rest : List Value} (hd : decode c.code pc = .ok (i, 1)) (hc : cells ≤ R.cells) (hs : slots ≤ R.slots) (hQ : Q (some w) h bk) : Run p l e R s m args below meth c Z EL own n0 bk h cells slots (mkF m pc Ls (w :: rest)) Q :=
  k_end hlk (fun q => by rw [hret] at q; cases q) hc hs hQ fun s' T locs fs X hr => retOut X hx hret hn hi hd hr
theorem k_retI (hx : p.tables.exec = Jvm.exec) (hlk : meth.locks = false) (hret : meth.sig.returnType = some .int) {pc : Nat} {Ls : Array Slot} {z : Int32} {rest : List Value} (hd : decode c.code pc = .ok (.ireturn, 1)) (hc : cells ≤ R.cells) (hs : slots ≤ R.slots) (hQ : Q (some (.int z)) h bk) : Run p l e R s m args below meth c Z EL own n0 bk h cells slots (mkF m pc Ls (.int z :: rest)) Q :=
  k_ret hx hlk hret rfl (Or.inl ⟨rfl, Or.inl rfl, z, rfl⟩) hd hc hs hQ
theorem k_retL (hx : p.tables.exec = Jvm.exec) (hlk : meth.locks = false) (hret : meth.sig.returnType = some .long) {pc : Nat} {Ls : Array Slot} {z : Int64} {rest : List Value} (hd : decode c.code pc = .ok (.lreturn, 1)) (hc : cells ≤ R.cells) (hs : slots ≤ R.slots) (hQ : Q (some (.long z)) h bk) : Run p l e R s m args below meth c Z EL own n0 bk h cells slots (mkF m pc Ls (.long z :: rest)) Q :=
  k_ret hx hlk hret rfl (Or.inr (Or.inl ⟨rfl, rfl, z, rfl⟩)) hd hc hs hQ
theorem k_retA (hx : p.tables.exec = Jvm.exec) (hlk : meth.locks = false) {t : FieldType} {w : Value} (hret : meth.sig.returnType = some t) (hn : narrow t w = w) (ht : t.isReference = true) (hw : w.isRef = true) {pc : Nat} {Ls : Array Slot} {rest : List Value} (hd : decode c.code pc = .ok (.areturn, 1)) (hc : cells ≤ R.cells) (hs : slots ≤ R.slots) (hQ : Q (some w) h bk) : Run p l e R s m args below meth c Z EL own n0 bk h cells slots (mkF m pc Ls (w :: rest)) Q :=
  k_ret hx hlk hret hn (Or.inr (Or.inr (Or.inr (Or.inr ⟨rfl, ht, hw⟩)))) hd hc hs hQ
/-! the calls -/
/-- what a callee's law gives to a walk that stands at h -/
def Pays (l : Launch) (R : Room) (p : Program) (e : Env) (below : List Frame) (s : State) (args : Array Value) (Z : State) (EL : List (String × Nat)) (n0 : Nat) (bk : Addr → Prop) (h : Heap) (y : MethodName) (len W kc ks : Nat) (as' : Array Value) (Q : Option Value → Heap → (Addr → Prop) → Prop) : Prop :=
  ∀ vm0, Z.Warmed39 vm0 → (∃ a0, EW Z a0 EL) → Old Z n0 h → CHv Z EL vm0 h → (∀ y, Bk Z EL vm0 h y → bk y) →
    BackS l R p e below (s.setVm vm0) args y len W (fun A a => a = as' ∧ A.U.heap = h ∧ A.cells + kc ≤ R.cells ∧ A.slots + ks ≤ R.slots)
      (fun A _ v B => ∃ L bk', Q v B.U.heap bk' ∧ Fr n0 L ∧ Old Z n0 B.U.heap ∧ CHv Z EL B.U.vm B.U.heap ∧ (∀ y, Bk Z EL B.U.vm B.U.heap y → bk' y) ∧ B.locs = A.locs ++ L ∧ B.cells = A.cells + kc ∧ B.slots = A.slots + ks)
theorem at_bk {T : State} {locs : List Loc} {vm0 : Vm} (X : Stand p l e R (s.setVm vm0) m args below meth c T locs cells slots) (hZ : Z.Warmed39 vm0) (w : EW Z a0 EL) (C : CHv Z EL vm0 h) (B : ∀ y, Bk Z EL vm0 h y → bk y) : CHv Z EL T.vm h ∧ ∀ y, Bk Z EL T.vm h y → bk y := by
  have A := CHv.at X hZ w C
  exact ⟨A.1, fun y q => (A.2.2 y q).elim (B y) (fun z => absurd (Array.getElem?_eq_some_iff.mp (Bk.there q).choose_spec).1 (Nat.not_lt.mpr z))⟩
theorem Pays.of_met {y : MethodName} {bytes : ByteArray} {maxL : Nat} {ret : Option FieldType} {rm : Room} {len W : Nat} {as' : Array Value} {Qc : Option Value → Heap → (Addr → Prop) → Prop} (hM : Met l Z EL n0 bk y bytes maxL ret rm as' h Qc [])
    (wc : (Jvm.Cond.code y bytes maxL ret).before a0 Z = true) (wz : (Jvm.Cond.initialized y.cls).before a0 Z = true) (hf : rm.frames + 1 ≤ R.frames) (hl : W + (maxL + 11) + rm.locals ≤ R.locals) :
    Pays l R p e below s args Z EL n0 bk h y len W rm.cells rm.slots as' Qc := fun vm0 hZ ⟨a1, hEL⟩ hO H hB =>
  BackS.of_freeW (bytes := bytes) (maxL := maxL) (ret := ret) (E := fun _ _ o t L k n => k = rm.cells ∧ n = rm.slots ∧ ∃ v bk', o = .returned v ∧ Qc v t.heap bk' ∧ Fr n0 L ∧ Old Z n0 t.heap ∧ CHv Z EL t.vm t.heap ∧ ∀ y, Bk Z EL t.vm t.heap y → bk' y) hM hf hl
    (fun m meth c A a Y hp => have hU : Z.Warmed39 A.U.vm := wtrans (s := s.setVm vm0) hZ Y.warmed
      ⟨by show (Jvm.Cond.and _ .tt).before a A.U = true; rw [Jvm.Cond.before_and, mv hU wc]; rfl, mv hU wc, mv hU wz, hp.2.2.1, hp.2.2.2⟩)
    (fun m meth c A a g mk Y hp => have r := at_bk Y hZ hEL H hB; ⟨hp.1, wtrans (s := s.setVm vm0) hZ Y.warmed, hp.2.1, r.1, r.2⟩) (fun _ _ _ _ _ _ _ _ _ => trivial)
    (fun _ _ _ _ ⟨v, L, bk', h1, h2, h3⟩ => ⟨L, _, _, h3, rfl, rfl, v, bk', h1, h2⟩)
    (fun m meth c A a g mk v t L k n Y hp _ _ ⟨e1, e2, v', bk', e3, r1, r2, r3, r4, r5⟩ => by
      cases e3; subst e1 e2
      exact ⟨L, bk', r1, r2, r3, r4, r5, rfl, rfl, rfl⟩)
/-- a library law that moves nothing -/
theorem Pays.of_same {y : MethodName} {len W : Nat} {as' : Array Value} {v0 : Option Value} (hK : ∀ s' : State, Z.Warmed39 s'.vm → Back l R p e below s' args y len W (fun P a => a = as' ∧ P.U.heap = h ∧ P.cells + 0 ≤ R.cells ∧ P.slots + 0 ≤ R.slots) (fun P _ v B => ∃ L, (v = v0 ∧ L = [] ∧ B.U.heap = h) ∧ B.locs = P.locs ++ L ∧ B.cells = P.cells + 0 ∧ B.slots = P.slots + 0)) :
    Pays l R p e below s args Z EL n0 bk h y len W 0 0 as' (fun v h' bk' => v = v0 ∧ h = h' ∧ bk = bk') := fun vm0 hZ ⟨a1, hEL⟩ hO H hB => by
  intro m meth c A g ig mk a X hg hsize hdg hW hn hp
  obtain ⟨v, B, X', ⟨L, ⟨q1, q2, q3⟩, q4, q5, q6⟩, hsteps⟩ := hK (s.setVm vm0) hZ m meth c A g ig mk a X hg hsize hdg hW hn hp
  have r := at_bk X' hZ hEL H hB
  refine ⟨v, B, X'.retabled X'.warmed.wide, X'.warmed.since _, by rw [hp.2.1, q3]; exact Nat.le_refl _, ⟨L, bk, ⟨q1, q3.symm, rfl⟩, by rw [q2]; exact Fr.nil _, by rw [q3]; exact hO, by rw [q3]; exact r.1, by rw [q3]; exact r.2, q4, q5, q6⟩, hsteps⟩
theorem ne_of_keep {Z : State} {EL : List (String × Nat)} {vm : Vm} {h h' : Heap} {x : Addr} (K : Keep h h' [x]) (C : CHv Z EL vm h) (nb : ¬ Bk Z EL vm h x) : CHv Z EL vm h' ∧ ∀ y, Bk Z EL vm h' y → Bk Z EL vm h y := C.keepStep K (sfS nb sf0)
/-- a library law that writes one object of ours -/
theorem Pays.of_keep {y : MethodName} {len W kc ks : Nat} {as' : Array Value} {x : Addr} {Qk : Option Value → Heap → List Loc → Prop} (nb : ¬ bk x) (ge : n0 ≤ x) (hq : ∀ v h' L, Qk v h' L → Fr n0 L ∧ Keep h h' [x])
    (hK : ∀ s' : State, Z.Warmed39 s'.vm → Back l R p e below s' args y len W (fun P a => a = as' ∧ P.U.heap = h ∧ P.cells + kc ≤ R.cells ∧ P.slots + ks ≤ R.slots) (fun P _ v B => ∃ L, Qk v B.U.heap L ∧ B.locs = P.locs ++ L ∧ B.cells = P.cells + kc ∧ B.slots = P.slots + ks)) :
    Pays l R p e below s args Z EL n0 bk h y len W kc ks as' (fun v h' bk' => (∃ L, Qk v h' L) ∧ bk = bk') := fun vm0 hZ ⟨a1, hEL⟩ hO H hB => by
  intro m meth c A g ig mk a X hg hsize hdg hW hn hp
  obtain ⟨v, B, X', ⟨L, q1, q4, q5, q6⟩, hsteps⟩ := hK (s.setVm vm0) hZ m meth c A g ig mk a X hg hsize hdg hW hn hp
  obtain ⟨N, K⟩ := hq _ _ _ q1
  have r := at_bk X' hZ hEL H hB
  have r' := ne_of_keep K r.1 (fun q => nb (r.2 x q))
  refine ⟨v, B, X'.retabled X'.warmed.wide, X'.warmed.since _, by rw [hp.2.1]; exact K.1, ⟨L, bk, ⟨⟨L, q1⟩, rfl⟩, N, hO.keep K (allS ge all0), r'.1, fun z q => r.2 z (r'.2 z q), q4, q5, q6⟩, hsteps⟩
/-- behind a call -/
theorem k_back {vm0 : Vm} {T : State} {locs : List Loc} {len kc ks : Nat} {rest : List Value} {Qc : Option Value → Heap → (Addr → Prop) → Prop} (P : Pos p l e R s m args below meth c Z EL own n0 bk h cells slots vm0 T locs)
    (H : ∃ (v : Option Value) (vm₁ : Vm) (B : Pt), (s.setVm vm0).WarmedH vm₁ ∧ Stand p l e R ((s.setVm vm0).setVm B.U.vm) m args below meth c B.U B.locs B.cells B.slots ∧ (s.setVm vm0).Since B.U.vm B.U.heap.size ∧ T.heap.size ≤ B.U.heap.size ∧
      (∃ L bk', Qc v B.U.heap bk' ∧ Fr n0 L ∧ Old Z n0 B.U.heap ∧ CHv Z EL B.U.vm B.U.heap ∧ (∀ y, Bk Z EL B.U.vm B.U.heap y → bk' y) ∧ B.locs = locs ++ L ∧ B.cells = cells + kc ∧ B.slots = slots + ks) ∧ Steps p.tables e below (T.setTop g) (B.U.setTop { g with pc := g.pc + len, stack := v.toList ++ rest }))
    (k : ∀ v h' bk', Old Z n0 h' → h.size ≤ h'.size → Qc v h' bk' → Run p l e R s m args below meth c Z EL own n0 bk' h' (cells + kc) (slots + ks) { g with pc := g.pc + len, stack := v.toList ++ rest } Q) :
    ∃ U o, Steps p.tables e below (T.setTop g) U ∧ U.status = .running ∧ Ended U below o ∧ EndW s R Z EL n0 Q o U := by
  obtain ⟨X, e1, ⟨k0, hS, hk⟩, hZ, ho, N, O, C, B, hE⟩ := P
  obtain ⟨v, vm1, ⟨TB, LB, cB, sB⟩, -, X', hS', hgr, ⟨L, bk', q1, q2, q3, q4, q5, q6, q7, q8⟩, st⟩ := H
  dsimp only [Pt.U, Pt.locs, Pt.cells, Pt.slots] at X' hS' hgr q1 q3 q4 q5 q6 q7 q8 st
  subst q6 q7 q8
  obtain ⟨r1, r2, r3, r4⟩ := rebS hS (by rw [← e1] at hk; exact hk) X' hS' hgr hZ ho
  obtain ⟨U, o, h1, r⟩ := k v TB.heap bk' q3 (by rw [← e1]; exact hgr) q1 TB.vm TB _ ⟨r1, rfl, ⟨_, r2, Nat.le_refl _⟩, r3, r4, Fr.app N q2, q3, q4, q5, hE⟩
  exact ⟨U, o, st.trans h1, r⟩
theorem k_callS (hx : p.tables.exec = Jvm.exec) {index : Nat} {y : MethodName} {bytes : ByteArray} {maxL : Nat} {ret : Option FieldType} (w1 : (Jvm.Cond.methodLink own index y).before a0 Z = true) (w2 : (Jvm.Cond.static y).before a0 Z = true) (w3 : (Jvm.Cond.initialized y.cls).before a0 Z = true) (w4 : (Jvm.Cond.code y bytes maxL ret).before a0 Z = true)
    (hy : y.cls ≠ "java/lang/invoke/MethodHandle" ∧ y.cls ≠ "java/lang/invoke/VarHandle") {W kc ks : Nat} {Qc : Option Value → Heap → (Addr → Prop) → Prop} {argsL rest : List Value} (hK : Pays l R p e below s args Z EL n0 bk h y 3 W kc ks argsL.toArray Qc)
    (hg : g.method = m) (hsize : g.locals.size = c.maxLocals) (hlen : ∀ sig, parseMethodDescriptor y.desc = some sig → argsL.length = sig.parameters.length) (hstack : g.stack = argsL.reverse ++ rest) (hW : 2 * g.monitorRoom + (rest.map fun v => v.category).sum ≤ W) (hd : decode c.code g.pc = .ok (.invokestatic index, 3)) (hc : cells + kc ≤ R.cells) (hs : slots + ks ≤ R.slots)
    (k : ∀ v h' bk', Old Z n0 h' → h.size ≤ h'.size → Qc v h' bk' → Run p l e R s m args below meth c Z EL own n0 bk' h' (cells + kc) (slots + ks) { g with pc := g.pc + 3, stack := v.toList ++ rest } Q) : Run p l e R s m args below meth c Z EL own n0 bk h cells slots g Q := fun vm0 T locs P => by
  have P' := P
  obtain ⟨X, e1, hS, hZ, ho, N, O, C, B, hE⟩ := P'
  exact k_back P (callSS X hx ho (mv hZ w1) (mv hZ w2) (mv hZ w3) (mv hZ w4) hy (hK vm0 hZ hE O C B) hg hsize hlen hstack hW hd fun _ _ => ⟨rfl, e1, hc, hs⟩) k
theorem k_callI (hx : p.tables.exec = Jvm.exec) {index : Nat} {y : MethodName} {bytes : ByteArray} {maxL : Nat} (hy1 : y.name = "<init>") (w1 : (Jvm.Cond.methodLink own index y).before a0 Z = true) (w2 : (Jvm.Cond.instanceMethod y).before a0 Z = true) (w4 : (Jvm.Cond.code y bytes maxL none).before a0 Z = true)
    (hy : y.cls ≠ "java/lang/invoke/MethodHandle" ∧ y.cls ≠ "java/lang/invoke/VarHandle") {W kc ks : Nat} {Qc : Option Value → Heap → (Addr → Prop) → Prop} {a : Addr} {argsL rest : List Value} (hK : Pays l R p e below s args Z EL n0 bk h y 3 W kc ks (.ref a :: argsL).toArray Qc)
    (hg : g.method = m) (hsize : g.locals.size = c.maxLocals) (hlen : ∀ sig, parseMethodDescriptor y.desc = some sig → argsL.length = sig.parameters.length) (hstack : g.stack = argsL.reverse ++ .ref a :: rest) (hW : 2 * g.monitorRoom + (rest.map fun v => v.category).sum ≤ W) (hd : decode c.code g.pc = .ok (.invokespecial index, 3)) (hc : cells + kc ≤ R.cells) (hs : slots + ks ≤ R.slots)
    (k : ∀ v h' bk', Old Z n0 h' → h.size ≤ h'.size → Qc v h' bk' → Run p l e R s m args below meth c Z EL own n0 bk' h' (cells + kc) (slots + ks) { g with pc := g.pc + 3, stack := v.toList ++ rest } Q) : Run p l e R s m args below meth c Z EL own n0 bk h cells slots g Q := fun vm0 T locs P => by
  have P' := P
  obtain ⟨X, e1, hS, hZ, ho, N, O, C, B, hE⟩ := P'
  exact k_back P (X.specialBackS hx hy1 ho (mv hZ w1) (mv hZ w2) (mv hZ w4) hy (hK vm0 hZ hE O C B) hg hsize (Steps.refl _) hlen hstack hW hd fun _ _ => ⟨rfl, e1, hc, hs⟩) k
theorem k_callV (hx : p.tables.exec = Jvm.exec) {index : Nat} {C : String} {y z : MethodName} (w1 : (Jvm.Cond.methodLink own index y).before a0 Z = true) (w2 : (Jvm.Cond.declares y).before a0 Z = true) (nf : ∀ s' : State, Z.Warmed39 s'.vm → NotFace s' y) (w3 : (Jvm.Cond.selects C y z).before a0 Z = true) (w4 : (Jvm.Cond.instanceMethod z).before a0 Z = true)
    (hy : y.cls ≠ "java/lang/invoke/MethodHandle" ∧ y.cls ≠ "java/lang/invoke/VarHandle") {W kc ks : Nat} {Qc : Option Value → Heap → (Addr → Prop) → Prop} {a : Addr} {argsL rest : List Value} (hK : Pays l R p e below s args Z EL n0 bk h z 3 W kc ks (.ref a :: argsL).toArray Qc) (E : Exa Z h a C)
    (hg : g.method = m) (hsize : g.locals.size = c.maxLocals) (hlen : ∀ sig, parseMethodDescriptor y.desc = some sig → argsL.length = sig.parameters.length) (hstack : g.stack = argsL.reverse ++ .ref a :: rest) (hW : 2 * g.monitorRoom + (rest.map fun v => v.category).sum ≤ W) (hd : decode c.code g.pc = .ok (.invokevirtual index, 3)) (hc : cells + kc ≤ R.cells) (hs : slots + ks ≤ R.slots)
    (k : ∀ v h' bk', Old Z n0 h' → h.size ≤ h'.size → Qc v h' bk' → Run p l e R s m args below meth c Z EL own n0 bk' h' (cells + kc) (slots + ks) { g with pc := g.pc + 3, stack := v.toList ++ rest } Q) : Run p l e R s m args below meth c Z EL own n0 bk h cells slots g Q := fun vm0 T locs P => by
  have P' := P
  obtain ⟨X, e1, hS, hZ, ho, N, O, C, B, hE⟩ := P'
  obtain ⟨cq, kq, qa, qb, qc⟩ := isOf (s := s.setVm vm0) hZ e1 E
  exact k_back P (X.virtualBackS hx ho (mv hZ w1) (mv hZ w2) (nf _ hZ) (mv hZ w3) (mv hZ w4) hy (hK vm0 hZ hE O C B) qa qc hg hsize (Steps.refl _) hlen hstack hW hd fun _ _ => ⟨rfl, e1, hc, hs⟩) k
/-- invokevirtual of a method that a class above the named one declares -/
theorem k_callU (hx : p.tables.exec = Jvm.exec) {index : Nat} {C owner : String} {y z : MethodName} (w1 : (Jvm.Cond.methodLink own index y).before a0 Z = true) (w2 : (Jvm.Cond.sameMethod y.cls owner y.name y.desc).before a0 Z = true) (w5 : (Jvm.Cond.declares ⟨owner, y.name, y.desc⟩).before a0 Z = true) (how : owner ≠ "java/lang/invoke/MethodHandle" ∧ owner ≠ "java/lang/invoke/VarHandle") (w3 : (Jvm.Cond.selects C y z).before a0 Z = true) (w4 : (Jvm.Cond.instanceMethod z).before a0 Z = true)
    {W kc ks : Nat} {Qc : Option Value → Heap → (Addr → Prop) → Prop} {a : Addr} {argsL rest : List Value} (hK : Pays l R p e below s args Z EL n0 bk h z 3 W kc ks (.ref a :: argsL).toArray Qc) (E : Exa Z h a C)
    (hg : g.method = m) (hsize : g.locals.size = c.maxLocals) (hlen : ∀ sig, parseMethodDescriptor y.desc = some sig → argsL.length = sig.parameters.length) (hstack : g.stack = argsL.reverse ++ .ref a :: rest) (hW : 2 * g.monitorRoom + (rest.map fun v => v.category).sum ≤ W) (hd : decode c.code g.pc = .ok (.invokevirtual index, 3)) (hc : cells + kc ≤ R.cells) (hs : slots + ks ≤ R.slots)
    (k : ∀ v h' bk', Old Z n0 h' → h.size ≤ h'.size → Qc v h' bk' → Run p l e R s m args below meth c Z EL own n0 bk' h' (cells + kc) (slots + ks) { g with pc := g.pc + 3, stack := v.toList ++ rest } Q) : Run p l e R s m args below meth c Z EL own n0 bk h cells slots g Q := fun vm0 T locs P => by
  have P' := P
  obtain ⟨X, e1, hS, hZ, ho, N, O, C, B, hE⟩ := P'
  obtain ⟨cq, kq, qa, qb, qc⟩ := isOf (s := s.setVm vm0) hZ e1 E
  exact k_back P (X.virtualBackUpS hx ho (mv hZ w1) (mv hZ w2) (mv hZ w5) how (mv hZ w3) (mv hZ w4) (hK vm0 hZ hE O C B) qa qc hg hsize (Steps.refl _) hlen hstack hW hd fun _ _ => ⟨rfl, e1, hc, hs⟩) k
theorem decl_of {y : MethodName} {bytes : ByteArray} {maxL : Nat} {ret : Option FieldType} (w2 : (Jvm.Cond.instanceMethod y).before a0 Z = true) (w4 : (Jvm.Cond.code y bytes maxL ret).before a0 Z = true) : (Jvm.Cond.declares y).before a0 Z = true := by
  obtain ⟨mk, methM, hnamed, hmethM, hst, -⟩ := Jvm.Cond.instanceMethod_spec w2
  obtain ⟨m2, cM, q1, -, -, -, -, -, -, hsig⟩ := Jvm.Cond.code_spec hnamed w4
  cases hmethM.symm.trans q1
  simp [Jvm.Cond.before, Jvm.Cond.holds, Jvm.Cond.value, hnamed, hmethM, hst, hsig]
theorem nf_of' {s' : State} {C : String} {y y' : MethodName} (q : y'.cls = y.cls) (hZ : Z.Warmed39 s'.vm) (w : (Jvm.Cond.selects C y' y').before a0 Z = true) : NotFace s' y := fun r0 h0 => by
  obtain ⟨c2, r2, m2, q1, q2, q3, q4, kP, hkP, hkPi⟩ := Jvm.Cond.selects_spec (mv (args := #[]) hZ w)
  have e1 := findClass_of_methodNamed h0
  have e2 := findClass_of_methodNamed q3
  rw [q] at e2
  rw [show r0.cls = m2.cls from Option.some.inj (e1.symm.trans e2)]
  exact ⟨kP, hkP, hkPi⟩
theorem nf_of {C : String} {y y' : MethodName} (q : y'.cls = y.cls) (w : (Jvm.Cond.selects C y' y').before a0 Z = true) : NotFace Z y := nf_of' q (State.Warmed39.refl Z) w
theorem same_of {y : MethodName} (hy : y.cls ≠ "java/lang/invoke/MethodHandle" ∧ y.cls ≠ "java/lang/invoke/VarHandle") (w : (Jvm.Cond.declares y).before a0 Z = true) (nf : NotFace Z y) : (Jvm.Cond.sameMethod y.cls y.cls y.name y.desc).before a0 Z = true := by
  obtain ⟨mk, methM, hnamed, hmethM, -, -⟩ := Jvm.Cond.declares_spec w
  obtain ⟨kr, hk, hi⟩ := nf mk hnamed
  have e1 := State.methodFound?_of_named hnamed hy
  have e2 := findClass_of_methodNamed hnamed
  have e3 : Z.methodNamed? ⟨y.cls, y.name, y.desc⟩ = some mk := hnamed
  simp [Jvm.Cond.before, Jvm.Cond.holds, Jvm.Cond.value, e1, e2, e3, hk, hi]
/-- invokespecial of a method of the class above -/
theorem k_callX (hx : p.tables.exec = Jvm.exec) {index : Nat} {K : String} {y : MethodName} {bytes : ByteArray} {maxL : Nat} {ret : Option FieldType} (w1 : (Jvm.Cond.methodLink own index y).before a0 Z = true) (w2 : (Jvm.Cond.sameMethod y.cls y.cls y.name y.desc).before a0 Z = true) (w3 : (Jvm.Cond.instanceMethod y).before a0 Z = true) (w4 : (Jvm.Cond.superclass own y.cls).before a0 Z = true) (hn : y.name ≠ "<init>") (wc : (Jvm.Cond.code y bytes maxL ret).before a0 Z = true)
    {W kc ks : Nat} {Qc : Option Value → Heap → (Addr → Prop) → Prop} {a : Addr} {argsL rest : List Value} (hK : Pays l R p e below s args Z EL n0 bk h y 3 W kc ks (.ref a :: argsL).toArray Qc) (E : Ins Z h a K true)
    (hg : g.method = m) (hsize : g.locals.size = c.maxLocals) (hlen : ∀ sig, parseMethodDescriptor y.desc = some sig → argsL.length = sig.parameters.length) (hstack : g.stack = argsL.reverse ++ .ref a :: rest) (hW : 2 * g.monitorRoom + (rest.map fun v => v.category).sum ≤ W) (hd : decode c.code g.pc = .ok (.invokespecial index, 3)) (hc : cells + kc ≤ R.cells) (hs : slots + ks ≤ R.slots)
    (k : ∀ v h' bk', Old Z n0 h' → h.size ≤ h'.size → Qc v h' bk' → Run p l e R s m args below meth c Z EL own n0 bk' h' (cells + kc) (slots + ks) { g with pc := g.pc + 3, stack := v.toList ++ rest } Q) : Run p l e R s m args below meth c Z EL own n0 bk h cells slots g Q := fun vm0 T locs P => by
  have P' := P
  obtain ⟨X, e1, hS, hZ, ho, N, O, C, B, hE⟩ := P'
  exact k_back P (superBackS X hx hZ ho w1 w2 w3 w4 hn (hK vm0 hZ hE O C B) e1 E hg hsize wc hlen hstack hW hd fun _ _ => ⟨rfl, e1, hc, hs⟩) k
/-- invokeinterface -/
theorem k_face (hx : p.tables.exec = Jvm.exec) {index count : Nat} {C : String} {y z : MethodName} (w1 : (Jvm.Cond.methodLink own index y).before a0 Z = true) (w2 : (Jvm.Cond.declares y).before a0 Z = true) (w3 : (Jvm.Cond.interfaceMethod y.cls y.cls y.name y.desc).before a0 Z = true) (w4 : (Jvm.Cond.selects C y z).before a0 Z = true) (w5 : (Jvm.Cond.instanceMethod z).before a0 Z = true) (w6 : (Jvm.Cond.publicMethod z).before a0 Z = true) (w7 : (Jvm.Cond.unhidden C y.name y.desc).before a0 Z = true) (w8 : (Jvm.Cond.castable C y.cls).before a0 Z = true)
    (hfa : ((Jvm.Cond.interfaceMethod y.cls y.cls y.name y.desc).onTables && (Jvm.Cond.interfaceMethod y.cls y.cls y.name y.desc).keepsFace) = true) (hy : y.cls ≠ "java/lang/invoke/MethodHandle" ∧ y.cls ≠ "java/lang/invoke/VarHandle") {W kc ks : Nat} {Qc : Option Value → Heap → (Addr → Prop) → Prop} {a : Addr} {argsL rest : List Value} (hK : Pays l R p e below s args Z EL n0 bk h z 5 W kc ks (.ref a :: argsL).toArray Qc) (E : Exa Z h a C)
    (hg : g.method = m) (hsize : g.locals.size = c.maxLocals) (hlen : ∀ sig, parseMethodDescriptor y.desc = some sig → argsL.length = sig.parameters.length) (hstack : g.stack = argsL.reverse ++ .ref a :: rest) (hW : 2 * g.monitorRoom + (rest.map fun v => v.category).sum ≤ W) (hd : decode c.code g.pc = .ok (.invokeinterface index count, 5)) (hc : cells + kc ≤ R.cells) (hs : slots + ks ≤ R.slots)
    (k : ∀ v h' bk', Old Z n0 h' → h.size ≤ h'.size → Qc v h' bk' → Run p l e R s m args below meth c Z EL own n0 bk' h' (cells + kc) (slots + ks) { g with pc := g.pc + 5, stack := v.toList ++ rest } Q) : Run p l e R s m args below meth c Z EL own n0 bk h cells slots g Q := fun vm0 T locs P => by
  have P' := P
  obtain ⟨X, e1, hS, hZ, ho, N, O, C, B, hE⟩ := P'
  obtain ⟨cq, kq, qa, qb, qc⟩ := isOf (s := s.setVm vm0) hZ e1 E
  exact k_back P (X.interfaceBackS hx ho (mv hZ w1) (mv hZ w2) (mv hZ w3 hfa) (mv hZ w4) (mv hZ w5) (mv hZ w6) (mv hZ w7) (mv hZ w8) hy (hK vm0 hZ hE O C B) qa qb qc hg hsize (Steps.refl _) hlen hstack hW hd fun _ _ => ⟨rfl, e1, hc, hs⟩) k
/-! String constants -/
theorem k_ldcO (hx : p.tables.exec = Jvm.exec) {text : String} {index : Nat} (w : (Jvm.Cond.stringLink own index text).before a0 Z = true) (wS : ∀ a ∈ Bundle.stringAtoms, a.before a0 Z = true) (hg : g.method = m) (hd : decode c.code g.pc = .ok (.ldc index, 2)) {n : Nat} (hn : 4 * text.toList.length ≤ n) (hbig : n ≤ 536870912) (hc : cells + 2 ≤ R.cells) (hl : slots + (n + 4) ≤ R.slots)
    (k : ∀ h' a bk', Old Z n0 h' → Ext h h' → (∀ y, bk' y → bk y ∨ (h.size ≤ y ∧ y < h'.size)) → Run p l e R s m args below meth c Z EL own n0 bk' h' (cells + 2) (slots + (n + 4)) { g with pc := g.pc + 2, stack := .ref a :: g.stack } Q) : Run p l e R s m args below meth c Z EL own n0 bk h cells slots g Q := fun vm0 T locs P => by
  obtain ⟨X, e1, ⟨k0, hS, hk⟩, hZ, ho, N, O, C, B, a1, hE⟩ := P
  obtain ⟨a, T', h', k1, X', e2, E, hS', hk', hZ', ho', hC, -, st⟩ := ldcOH X hx hZ ho w wS e1 hS hk hE C hg hd hn hbig hc hl
  obtain ⟨U, o, h1, r⟩ := k h' a (fun y => bk y ∨ (h.size ≤ y ∧ y < h'.size)) (O.ext E) E (fun _ q => q) T'.vm T' locs ⟨X', e2, ⟨k1, hS', hk'⟩, hZ', ho', N, O.ext E, hC.1, fun y q => (hC.2.2 y q).imp (B y) fun r => ⟨r, (Array.getElem?_eq_some_iff.mp (Bk.there q).choose_spec).1⟩, a1, hE⟩
  exact ⟨U, o, st _ h1, r⟩
/-- where no constant is read -/
theorem k_ldc0 (hEL : EL = []) (hx : p.tables.exec = Jvm.exec) {text : String} {index : Nat} (w : (Jvm.Cond.stringLink own index text).before a0 Z = true) (wS : ∀ a ∈ Bundle.stringAtoms, a.before a0 Z = true) (hg : g.method = m) (hd : decode c.code g.pc = .ok (.ldc index, 2)) {n : Nat} (hn : 4 * text.toList.length ≤ n) (hbig : n ≤ 536870912) (hc : cells + 2 ≤ R.cells) (hl : slots + (n + 4) ≤ R.slots)
    (k : ∀ h' a, Old Z n0 h' → Ext h h' → Run p l e R s m args below meth c Z EL own n0 bk h' (cells + 2) (slots + (n + 4)) { g with pc := g.pc + 2, stack := .ref a :: g.stack } Q) : Run p l e R s m args below meth c Z EL own n0 bk h cells slots g Q := fun vm0 T locs P => by
  subst hEL
  obtain ⟨X, e1, ⟨k0, hS, hk⟩, hZ, ho, N, O, C, B, a1, hE⟩ := P
  obtain ⟨a, T', h', k1, X', e2, E, hS', hk', hZ', ho', hC, -, st⟩ := ldcOH X hx hZ ho w wS e1 hS hk hE C hg hd hn hbig hc hl
  obtain ⟨U, o, h1, r⟩ := k h' a (O.ext E) E T'.vm T' locs ⟨X', e2, ⟨k1, hS', hk'⟩, hZ', ho', N, O.ext E, hC.1, (fun y q => by obtain ⟨p, hp, -⟩ := q; cases hp), a1, hE⟩
  exact ⟨U, o, st _ h1, r⟩
/-- a constant that is read -/
theorem k_ldcC (hx : p.tables.exec = Jvm.exec) {text : String} {index : Nat} (w : (Jvm.Cond.stringLink own index text).before a0 Z = true) (wS : ∀ a ∈ Bundle.stringAtoms, a.before a0 Z = true) (hmem : (own, index) ∈ EL) {vs : List Value} {z : Int32} (ht : (∀ c ∈ text.toList, c.toNat < 256) ∧ text.toList.map (fun c => Value.int (Jvm.Lit.byteI c.toNat.toUInt16)) = vs) (hz : ¬ z < 0) (hzl : z.toNatClampNeg = vs.length)
    (hg : g.method = m) (hd : decode c.code g.pc = .ok (.ldc index, 2)) {n : Nat} (hn : 4 * text.toList.length ≤ n) (hbig : n ≤ 536870912) (hc : cells + 2 ≤ R.cells) (hl : slots + (n + 4) ≤ R.slots)
    (k : ∀ h' a b kb bk', Old Z n0 h' → Ext h h' → (∀ y, bk' y → bk y ∨ (h.size ≤ y ∧ y < h'.size)) → Exa Z h' a "java/lang/String" → Fld Z h' a "java/lang/String" "coder" "B" (.int 0) → Fld Z h' a "java/lang/String" "value" "[B" (.ref b) → Arv Z h' b kb .byte z vs (.int 0) → (∀ x, x < h.size → ¬ bk x → x ≠ a ∧ x ≠ b) →
      Run p l e R s m args below meth c Z EL own n0 bk' h' (cells + 2) (slots + (n + 4)) { g with pc := g.pc + 2, stack := .ref a :: g.stack } Q) : Run p l e R s m args below meth c Z EL own n0 bk h cells slots g Q := fun vm0 T locs P => by
  obtain ⟨X, e1, ⟨k0, hS, hk⟩, hZ, ho, N, O, C, B, a1, hE⟩ := P
  obtain ⟨a, T', h', k1, b, kb, X', e2, E, hS', hk', hZ', ho', r1, r2, r3, r4, -, -, hC, -, r5, st⟩ := ldcCH X hx hZ ho w wS e1 hS hk hE hmem C ht hz hzl hg hd hn hbig hc hl
  obtain ⟨U, o, h1, r⟩ := k h' a b kb (fun y => bk y ∨ (h.size ≤ y ∧ y < h'.size)) (O.ext E) E (fun _ q => q) r1 r2 r3 r4 (fun x lt nb => r5 x fun q => (hC.2.2 x q).elim (fun q => nb (B x q)) fun q => absurd lt (Nat.not_lt.mpr q)) T'.vm T' locs ⟨X', e2, ⟨k1, hS', hk'⟩, hZ', ho', N, O.ext E, hC.1, fun y q => (hC.2.2 y q).imp (B y) fun r => ⟨r, (Array.getElem?_eq_some_iff.mp (Bk.there q).choose_spec).1⟩, a1, hE⟩
  exact ⟨U, o, st _ h1, r⟩
/-! two natives -/
theorem k_cpA (hx : p.tables.exec = Jvm.exec) {index : Nat} (w1 : (Jvm.Cond.methodLink own index Jvm.Stand.acN).before a0 Z = true) (w2 : (Jvm.Cond.native Jvm.Stand.acN).before a0 Z = true) (w3 : (Jvm.Cond.static Jvm.Stand.acN).before a0 Z = true) (w4 : (Jvm.Cond.initialized "java/lang/System").before a0 Z = true)
    {a b : Addr} {ka kb : ClassId} {ty ty' : FieldType} {z z' sp dp nn : Int32} {vs vd us : List Value} {dv dd : Value} (A : Arv Z h a ka ty z vs dv) (B : Arv Z h b kb ty' z' vd dd) (hty : (ty = ty' ∧ refKind ty = false) ∨ (refKind ty = true ∧ refKind ty' = true ∧ StoL Z h b us))
    (h1 : ¬ sp < 0) (h2 : ¬ dp < 0) (h3 : ¬ nn < 0) (h4 : sp.toNatClampNeg + nn.toNatClampNeg ≤ z.toNatClampNeg) (h5 : dp.toNatClampNeg + nn.toNatClampNeg ≤ z'.toNatClampNeg) (hus : us = (List.range nn.toNatClampNeg).map fun i => vs.getD (sp.toNatClampNeg + i) dv) (hvl : dp.toNatClampNeg + nn.toNatClampNeg ≤ vd.length) (ge : n0 ≤ b) (nb : ¬ bk b)
    (hg : g.method = m) (hsize : g.locals.size = c.maxLocals) {rest : List Value} (hs : g.stack = .int nn :: .int dp :: .ref b :: .int sp :: .ref a :: rest) (hd : decode c.code g.pc = .ok (.invokestatic index, 3)) (hf : 1 ≤ R.frames) {W : Nat} (hW : 2 * g.monitorRoom + (rest.map fun v => v.category).sum ≤ W) (hlo : W + (nativeFrameWords "java/lang/System" "arraycopy" 5 + 11) ≤ R.locals)
    (k : ∀ h', Old Z n0 h' → Keep h h' [b] → Arv Z h' b kb ty' z' (vd.take dp.toNatClampNeg ++ us ++ vd.drop (dp.toNatClampNeg + nn.toNatClampNeg)) dd → Run p l e R s m args below meth c Z EL own n0 bk h' cells slots { g with pc := g.pc + 3, stack := rest } Q) : Run p l e R s m args below meth c Z EL own n0 bk h cells slots g Q := fun vm0 T locs P => by
  obtain ⟨X, e1, ⟨k0, hS, hk⟩, hZ, ho, N, O, C, Bb, hE⟩ := P
  obtain ⟨T', h', L, X', e2, N', K, V, st⟩ := cpA X hx hZ ho w1 w2 w3 w4 e1 A B hty h1 h2 h3 h4 h5 hus hvl N ge hg hsize hs hd hf hW hlo
  have r' := ne_of_keep K C (fun q => nb (Bb b q))
  obtain ⟨U, o, q1, r⟩ := k h' (O.keep K (allS ge all0)) K V vm0 T' L ⟨X', e2, ⟨k0, hS, Nat.le_trans hk K.1⟩, hZ, ho, N', O.keep K (allS ge all0), r'.1, fun y q => Bb y (r'.2 y q), hE⟩
  exact ⟨U, o, st _ q1, r⟩
theorem k_clone (hx : p.tables.exec = Jvm.exec) {ad : String} {index : Nat} (w1 : (Jvm.Cond.methodLink own index ⟨ad, "clone", "()Ljava/lang/Object;"⟩).before a0 Z = true) (w2 : (Jvm.Cond.sameMethod ad "java/lang/Object" "clone" "()Ljava/lang/Object;").before a0 Z = true) (w3 : (Jvm.Cond.native ⟨"java/lang/Object", "clone", "()Ljava/lang/Object;"⟩).before a0 Z = true)
    (w4 : (Jvm.Cond.instanceMethod ⟨"java/lang/Object", "clone", "()Ljava/lang/Object;"⟩).before a0 Z = true) (w5 : (Jvm.Cond.selects ad ⟨ad, "clone", "()Ljava/lang/Object;"⟩ ⟨"java/lang/Object", "clone", "()Ljava/lang/Object;"⟩).before a0 Z = true) (w6 : (Jvm.Cond.castable ad "java/lang/Cloneable").before a0 Z = true)
    {a : Addr} {kA : ClassId} {ty : FieldType} {z : Int32} {vs : List Value} {dv : Value} (F : Arv Z h a kA ty z vs dv) (E : Exa Z h a ad) (hg : g.method = m) (hsize : g.locals.size = c.maxLocals) {rest : List Value} (hst : g.stack = .ref a :: rest) (hd : decode c.code g.pc = .ok (.invokevirtual index, 3)) (hf : 1 ≤ R.frames) {W cap : Nat} (hW : 2 * g.monitorRoom + (rest.map fun v => v.category).sum ≤ W) (hl : W + 14 ≤ R.locals) (hcap : z.toNatClampNeg ≤ cap) (hc : cells + 1 ≤ R.cells) (hsl : slots + cap ≤ R.slots)
    (k : ∀ h' a, a = h.size → Old Z n0 h' → Ext h h' → Arv Z h' a kA ty z vs dv → Exa Z h' a ad → Run p l e R s m args below meth c Z EL own n0 bk h' (cells + 1) (slots + cap) { g with pc := g.pc + 3, stack := .ref a :: rest } Q) : Run p l e R s m args below meth c Z EL own n0 bk h cells slots g Q :=
  k_grow (F := fun h' g' => g' = { g with pc := g.pc + 3, stack := .ref h.size :: rest } ∧ Arv Z h' h.size kA ty z vs dv ∧ Exa Z h' h.size ad)
    (fun s' T locs X e1 hZ ho => by
      obtain ⟨T', h', X', e2, E', A, D, st⟩ := cloneH X hx hZ ho w1 w2 w3 w4 w5 w6 e1 (Arv.arh F) E hg hsize hst hd hf hW hl hcap hc hsl
      exact ⟨T', h', _, X', e2, E', ⟨rfl, A, D⟩, st⟩)
    (fun h' g' O E ⟨q, A, D⟩ => by subst q; exact k h' _ rfl O E A D)
end Kit

theorem s_irem {tb : Tables} [Ours tb] {e : Env} {below : List Frame} {T target : State} {m : MethodId} {c : Code} {g : JFrame} (h : At T m c below) (hx : tb.exec = Jvm.exec) (hg : g.method = m) {x y : Int32} {rest : List Value} (hd : decode c.code g.pc = .ok (.irem, 1)) (hs : g.stack = .int y :: .int x :: rest) (hy : y ≠ 0)
    (hr : Steps tb e below (T.setTop { g with pc := g.pc + 1, stack := .int (x % y) :: rest }) target) : Steps tb e below (T.setTop g) target := by
  have q : x - x / y * y = x % y := irem_eq_mod x y
  exact XS.irem h hx hg hd hs hy (by rw [q]; exact hr)
theorem kk0 {ws : List Addr} {n : Nat} : ∀ x ∈ ([] : List Addr), x ∈ ws ∨ n ≤ x := fun _ q => nomatch q
theorem kkS {ws L : List Addr} {n : Nat} {y : Addr} (q : y ∈ ws ∨ n ≤ y) (r : ∀ x ∈ L, x ∈ ws ∨ n ≤ x) : ∀ x ∈ y :: L, x ∈ ws ∨ n ≤ x := fun x z => (List.mem_cons.mp z).elim (fun u => u ▸ q) (r x)
theorem no_asg {Z : State} {a0 : Array Value} {C O K : String} {n : Nat} (w : (Jvm.Cond.superclass C O).before a0 Z = true) (wo : (Jvm.Cond.noSuperclass O).before a0 Z = true) (wk : (Jvm.Cond.instantiable K n).before a0 Z = true) (h1 : C ≠ K) (h2 : O ≠ K) : ∃ c t, Z.vm.findClass C = some c ∧ Z.vm.findClass K = some t ∧ Z.vm.assignable c t = false := by
  obtain ⟨c, hc⟩ := found_sup w
  obtain ⟨cO, k, kO, q1, q2, q3, q4, q5, -⟩ := Jvm.Cond.superclass_spec hc w
  obtain ⟨cO', kO', r1, r2, r3, -⟩ := Jvm.Cond.noSuperclass_spec wo
  cases q1.symm.trans r1
  obtain ⟨t, kt, t1, t2, t3, t4, -⟩ := Jvm.Cond.instantiable_spec wk
  have n1 := ids_ne hc t1 h1
  have n2 := ids_ne q1 t1 h2
  have sub2 : ∀ f, Z.vm.isSubclassAux f cO t = false := fun f => by cases f <;> simp [Vm.isSubclassAux, n2, r2, r3]
  have sub1 : ∀ f, Z.vm.isSubclassAux f c t = false := fun f => by cases f <;> simp [Vm.isSubclassAux, n1, q2, q4, sub2]
  have ti : kt.isInterface = false := by simp only [Bool.or_eq_false_iff] at t4; exact t4.1
  refine ⟨c, t, hc, t1, ?_⟩
  show Z.vm.assignableAux (255 + 1) c t = false
  simp [Vm.assignableAux, n1, q2, t2, q5, t3, ti, Vm.isSubclass, sub1]
/-! from the words of a start to facts on its heap -/
theorem ev_int {args : Array Value} {s : State} {t : Term} {k : Int32} (h : (Jvm.Cond.eq t (.int k)).before args s = true) : t.eval args s none [] s = some (.int k) := by
  obtain ⟨x, y, e1, e2, k1, -⟩ := cmp_v (Or.inl (Cond.before_iff.mp h))
  rw [Term.int_eval] at e2
  cases e2
  cases x with
  | int z => have := gotT (Cond.eq_ints e1 (Term.int_eval k)) (Cond.before_iff.mp h); rw [e1, this]
  | _ => exact absurd k1 (by simp [Kin, Value.isRef])
theorem ev_long {args : Array Value} {s : State} {t : Term} {k : Int64} (h : (Jvm.Cond.eq t (.long k)).before args s = true) : t.eval args s none [] s = some (.long k) := by
  obtain ⟨x, y, e1, e2, k1, -⟩ := cmp_v (Or.inl (Cond.before_iff.mp h))
  rw [long_at] at e2
  cases e2
  cases x with
  | long z => have := gotT (eq_L e1 (long_at k)) (Cond.before_iff.mp h); rw [e1, this]
  | _ => exact absurd k1 (by simp [Kin, Value.isRef])
theorem exa_start {args : Array Value} {s : State} {t : Term} {C : String} (h : (Jvm.Cond.exactly t C).before args s = true) : ∃ a, t.eval args s none [] s = some (.ref a) ∧ Exa s s.heap a C := by
  obtain ⟨a, e⟩ := exa_v (Cond.before_iff.mp h)
  exact ⟨a, e, Exa.start e (Cond.before_iff.mp h)⟩
theorem fld_start {args : Array Value} {s : State} {t : Term} {a : Addr} {C n d : String} {v : Value} (ht : t.eval args s none [] s = some (.ref a)) (hv : (Term.field t C n d).eval args s none [] s = some v) : Fld s s.heap a C n d v := Fld.start (by rw [← fld_at ht]; exact hv)
theorem s_pop2L {tb : Tables} [Ours tb] {e : Env} {below : List Frame} {T target : State} {m : MethodId} {c : Code} {g : JFrame} (h : At T m c below) (hx : tb.exec = Jvm.exec) (hg : g.method = m) {x : Int64} {rest : List Value} (hd : decode c.code g.pc = .ok (.pop2, 1)) (hs : g.stack = .long x :: rest)
    (hr : Steps tb e below (T.setTop { g with pc := g.pc + 1, stack := rest }) target) : Steps tb e below (T.setTop g) target := by
  subst hg
  jvm_step h [h.top, hx, hd, hs, pop2.wp_sem, Value.category]
  exact hr
theorem ne_ad {a b : Addr} (h : @Ne Nat a b) : a ≠ b := h

/-! naturals as ints -/
theorem lt_nat {i n : Nat} (h : i < n) (hn : n ≤ 4000) : Int32.ofNat i < Int32.ofNat n := by
  rw [Int32.lt_iff_toInt_lt, toInt_of rfl (by omega), toInt_of rfl (by omega)]; omega
theorem not_lt_nat {i n : Nat} (h : n ≤ i) (hn : i ≤ 4000) : ¬ Int32.ofNat i < Int32.ofNat n := by
  rw [Int32.lt_iff_toInt_lt, toInt_of rfl (by omega), toInt_of rfl (by omega)]; omega
theorem idx_ok {i n : Nat} (h : i < n) (hn : n ≤ 4000) : ¬ Int32.ofNat i < 0 ∧ Int32.ofNat i < Int32.ofNat n := ⟨not_lt_nat (n := 0) (Nat.zero_le _) (by omega), lt_nat h hn⟩
theorem clampN {i : Nat} (h : i ≤ 4000) : (Int32.ofNat i).toNatClampNeg = i := clamp_of rfl (by omega)
theorem getD_mem (cs : List Int32) (i : Nat) (h : i < cs.length) : cs.getD i 0 ∈ cs := by
  rw [List.getD_eq_getElem?_getD, List.getElem?_eq_getElem h]; exact List.getElem_mem h
theorem getD_int (bs : List Int32) {i : Nat} (h : i ≤ 4000) : (bs.map Value.int).getD (Int32.ofNat i).toNatClampNeg (.int 0) = .int (bs.getD i 0) := by
  rw [clampN h, List.getD_eq_getElem?_getD, List.getD_eq_getElem?_getD, List.getElem?_map]
  cases bs[i]? <;> rfl
theorem take_succ_eq {as bs : List Int32} {i : Nat} (h : as.take i = bs.take i) (ha : i < as.length) (hb : i < bs.length) (e : as.getD i 0 = bs.getD i 0) : as.take (i + 1) = bs.take (i + 1) := by
  rw [List.take_add_one, List.take_add_one, h, List.getElem?_eq_getElem ha, List.getElem?_eq_getElem hb]
  rw [List.getD_eq_getElem?_getD, List.getD_eq_getElem?_getD, List.getElem?_eq_getElem ha, List.getElem?_eq_getElem hb, Option.getD_some, Option.getD_some] at e
  rw [e]
theorem take_ne {as bs : List Int32} {i : Nat} (hi : i < bs.length) (e : ¬ as.getD i 0 = bs.getD i 0) : ¬ as.take bs.length = bs := fun q => e (by
  rw [List.getD_eq_getElem?_getD, List.getD_eq_getElem?_getD]
  have r := congrArg (fun l => l[i]?) q
  simp only [List.getElem?_take, if_pos hi] at r
  rw [r])
/-! words on arrays of the start -/
theorem fit_of {s : State} (hF : (s.heap.all fun c => (List.range c.slots.size).all fun i => match c.slots[i]? with | some v => s.fitsSlot c.cls c.vm i v | none => true) = true) : Fit s := by
  intro x c hc i hi
  obtain ⟨ha, rfl⟩ := Array.getElem?_eq_some_iff.mp hc
  have q := List.all_eq_true.mp ((Array.all_eq_true_iff_forall_mem.mp hF) _ (Array.getElem_mem ha)) i (List.mem_range.mpr hi)
  simpa [Array.getElem?_eq_getElem hi] using q
theorem ev_ref {args : Array Value} {s : State} {t u : Term} {a : Addr} (h : (Jvm.Cond.eq t u).value args s none s [] = some true) (hu : u.eval args s none [] s = some (.ref a)) : t.eval args s none [] s = some (.ref a) := by
  obtain ⟨x, y, e1, e2, k1, k2⟩ := cmp_v (Or.inl h)
  cases hu.symm.trans e2
  have hx : x.isRef = true := by cases x <;> simp_all [Kin, Value.isRef]
  have := gotT (eq_R e1 hu hx rfl) h
  rw [e1, this]
theorem arv_start {args : Array Value} {s : State} {t : Term} {a : Addr} {ty : FieldType} {z : Int32} {vs : List Value} {dv : Value} (hf : Fit s) (ht : t.eval args s none [] s = some (.ref a)) (hx : (Jvm.Cond.arrayOf t ty).value args s none s [] = some true) (hl : (Term.length t).eval args s none [] s = some (.int z)) (hz : ¬ z < 0) (hn : z.toNatClampNeg = vs.length) (H : ∀ cl : Cell, s.heap[a]? = some cl → HasL cl 0 vs) : ∃ k, Arv s s.heap a k ty z vs dv := by
  obtain ⟨cl, A⟩ := Arr.start ht hx
  obtain ⟨b, cell, e1, e2, e3, e4⟩ := Jvm.Lib.length_spec hl
  have eb : a = b := Value.ref.inj (Option.some.inj (ht.symm.trans e1))
  have ec : cell = cl := Option.some.inj (e2.symm.trans (eb ▸ Arr.fin (Vm.Alike.refl _) A))
  have ez : z = cell.slots.size.toInt32 := Value.int.inj e4
  rw [ec] at ez e3
  exact ⟨_, Arv.start hf A e3 ez.symm hz hn (H _ A.1)⟩

def EL1 : List (String × Nat) := [("com/example/lidmaat/lidmaat/http/Refusal", 18), ("com/example/lidmaat/lidmaat/http/Refusal", 24), ("com/example/lidmaat/lidmaat/http/RefusalMalformedPinLaw", 51), ("com/example/lidmaat/lidmaat/http/RefusalMalformedPinLaw", 57), ("java/lang/String", 7)]
def Ctx (Z : State) (a0 : Array Value) (G1 : Int32) (G3 : Value) : Prop := (∀ d ∈ tables_1, d.before a0 Z = true) ∧ EW Z a0 EL1 ∧ Sta Z Z.heap "java/lang/String" "COMPACT_STRINGS" "Z" (.int G1) ∧ ¬ (G1 = (0 : Int32)) ∧ Sta Z Z.heap "jdk/internal/util/Preconditions" "SIOOBE_FORMATTER" "Ljava/util/function/BiFunction;" G3 ∧ G3.isRef = true
theorem sa_of {Z : State} {a0 : Array Value} (hw : ∀ d ∈ tables_1, d.before a0 Z = true) : ∀ a ∈ Bundle.stringAtoms, a.before a0 Z = true := fun d hd => hw d ((by decide +kernel : ∀ d ∈ Bundle.stringAtoms, d ∈ tables_1) d hd)
section StrKit
def StrL (Z : State) (h : Heap) (a t : Addr) (kb : ClassId) (cs : List Int32) : Prop := Exa Z h a "java/lang/String" ∧ Fld Z h a "java/lang/String" "coder" "B" (.int 0) ∧ Fld Z h a "java/lang/String" "value" "[B" (.ref t) ∧ Arv Z h t kb .byte (Int32.ofNat cs.length) ((cs.map (fun c => c.toInt8.toInt32)).map Value.int) (.int 0) ∧ (∀ c ∈ cs, ¬ c < 0 ∧ ¬ (255 : Int32) < c) ∧ cs.length ≤ 4000
variable {Z : State} {h h' : Heap} {a t b : Addr} {kb : ClassId} {cs ds : List Int32} {ws : List Addr} {sl : Nat} {v : Value}
theorem StrL.ext (S : StrL Z h a t kb cs) (E : Ext h h') : StrL Z h' a t kb cs := ⟨S.1.ext E, S.2.1.ext E, S.2.2.1.ext E, S.2.2.2.1.ext E, S.2.2.2.2⟩
theorem StrL.other (S : StrL Z h a t kb cs) (W : Wr h h' b sl v) (q1 : a ≠ b) (q2 : t ≠ b) : StrL Z h' a t kb cs := ⟨S.1.wr W, S.2.1.other W (Or.inl q1), S.2.2.1.other W (Or.inl q1), S.2.2.2.1.other W q2, S.2.2.2.2⟩
theorem StrL.keep (S : StrL Z h a t kb cs) (K : Keep h h' ws) (q1 : a ∉ ws) (q2 : t ∉ ws) : StrL Z h' a t kb cs := ⟨S.1.keep K, S.2.1.keep K q1, S.2.2.1.keep K q1, S.2.2.2.1.keep K q2, S.2.2.2.2⟩
theorem StrL.lt1 (S : StrL Z h a t kb cs) : a < h.size := S.1.lt
theorem StrL.lt2 (S : StrL Z h a t kb cs) : t < h.size := S.2.2.2.1.lt
theorem up_ch {cs : List Int32} (h : ∀ c ∈ cs, ¬ c < 0 ∧ ¬ (255 : Int32) < c) : ∀ c ∈ cs, ¬ c < 0 ∧ ¬ (65535 : Int32) < c := fun c hc => ⟨(h c hc).1, fun q => (h c hc).2 (by rw [Int32.lt_iff_toInt_lt] at q ⊢; have e1 : (65535 : Int32).toInt = 65535 := rfl; have e2 : (255 : Int32).toInt = 255 := rfl; omega)⟩
theorem StrL.cod (S : StrL Z h a t kb cs) : StrChars.Road.CodA cs 0 (Int32.ofNat cs.length) ((cs.map (fun c => c.toInt8.toInt32)).map Value.int) := StrChars.Road.codOf rfl (fun c hc => (S.2.2.2.2.1 c hc).2)
variable {p : Program} {l : Launch} {e : Env} {R : Room} {s : State} {args : Array Value} {below : List Frame} {n0 W : Nat} {bk : Addr → Prop} {a0 : Array Value}
theorem Pays.mono {EL : List (String × Nat)} {y : MethodName} {len kc ks : Nat} {as' : Array Value} {Q Q' : Option Value → Heap → (Addr → Prop) → Prop} (hP : Pays l R p e below s args Z EL n0 bk h y len W kc ks as' Q) (hq : ∀ v h' bk', Q v h' bk' → Q' v h' bk') : Pays l R p e below s args Z EL n0 bk h y len W kc ks as' Q' := fun vm0 hZ hE hO hC hB m meth c A g ig mk a X hg hsize hdg hW hn hp => by
  obtain ⟨v, B, X', r1, r2, ⟨L, bk', q1, q2⟩, st⟩ := hP vm0 hZ hE hO hC hB m meth c A g ig mk a X hg hsize hdg hW hn hp
  exact ⟨v, B, X', r1, r2, ⟨L, bk', hq _ _ _ q1, q2⟩, st⟩
theorem pay_len {G1 : Int32} {G3 : Value} (hX : Ctx Z a0 G1 G3) (O : Old Z n0 h) (S : StrL Z h a t kb cs) (hf : 2 ≤ R.frames) (hl : W + 25 ≤ R.locals) : Pays l R p e below s args Z EL1 n0 bk h (⟨"java/lang/String", "length", "()I"⟩ : MethodName) 3 W 0 0 #[.ref a] (fun v h' bk' => v = some (.int (Int32.ofNat cs.length)) ∧ h = h' ∧ bk = bk') :=
  Pays.of_same fun s' hZ => StrChars.Road.lenW hZ (fun d hd => hX.1 d ((by decide +kernel : ∀ d ∈ StrChars.Road.wordsLen, d ∈ tables_1) d hd)) (kI := 4) (hX.1 _ (List.mem_of_getElem? (i := 1) rfl)) S.1 S.2.2.1 S.2.1 S.2.2.2.1 S.cod (up_ch S.2.2.2.2.1) (hX.2.2.1.ext O.2) hX.2.2.2.1 S.2.2.2.2.2 hf hl
theorem pay_ch {G1 : Int32} {G3 : Value} (hX : Ctx Z a0 G1 G3) (O : Old Z n0 h) (S : StrL Z h a t kb cs) (i : Nat) (hi : i < cs.length) {j : Int32} (hj : j = Int32.ofNat i) (hf : 4 ≤ R.frames) (hl : W + 53 ≤ R.locals) : Pays l R p e below s args Z EL1 n0 bk h (⟨"java/lang/String", "charAt", "(I)C"⟩ : MethodName) 3 W 0 0 #[.ref a, .int j] (fun v h' bk' => v = some (.int (cs.getD i 0)) ∧ h = h' ∧ bk = bk') :=
  Pays.of_same fun s' hZ => StrChars.Road.chN hZ (fun d hd => hX.1 d ((by decide +kernel : ∀ d ∈ StrChars.Road.wordsChN, d ∈ tables_1) d hd)) (kI := 4) (hX.1 _ (List.mem_of_getElem? (i := 1) rfl)) S.1 S.2.2.1 S.2.1 S.2.2.2.1 S.cod (up_ch S.2.2.2.2.1) (hX.2.2.1.ext O.2) hX.2.2.2.1 (hX.2.2.2.2.1.ext O.2) hX.2.2.2.2.2 S.2.2.2.2.2 hi hj hf hl
theorem pay_eq {G1 : Int32} {G3 : Value} (hX : Ctx Z a0 G1 G3) (O : Old Z n0 h) (S : StrL Z h a t kb cs) {b t' : Addr} {kb' : ClassId} (S' : StrL Z h b t' kb' ds) (hf : 2 ≤ R.frames) (hl : W + 28 ≤ R.locals) : Pays l R p e below s args Z EL1 n0 bk h (⟨"java/lang/String", "equals", "(Ljava/lang/Object;)Z"⟩ : MethodName) 3 W 0 0 #[.ref a, .ref b] (fun v h' bk' => v = some (.int (if cs = ds then 1 else 0)) ∧ h = h' ∧ bk = bk') :=
  Pays.of_same fun s' hZ => Back.mono (StrChars.Road.eqW hZ (fun d hd => hX.1 d ((by decide +kernel : ∀ d ∈ StrChars.Road.wordsEq, d ∈ tables_1) d hd)) (kI := 4) (hX.1 _ (List.mem_of_getElem? (i := 1) rfl)) S.1 S.2.2.1 S.2.1 S.2.2.2.1 S.cod (up_ch S.2.2.2.2.1) S.2.2.2.2.2 S'.1 S'.2.2.1 S'.2.1 S'.2.2.2.1 S'.cod (up_ch S'.2.2.2.2.1) S'.2.2.2.2.2 (hX.2.2.1.ext O.2) hX.2.2.2.1 hf hl) (fun _ _ q => q) fun A a v B _ q => by
    obtain ⟨L, ⟨q1, q2, q3⟩, q4⟩ := q
    refine ⟨L, ⟨?_, q2, q3⟩, q4⟩
    rcases q1 with ⟨rfl, r⟩ | ⟨rfl, r⟩ <;> simp [r]
theorem pay_new {G1 : Int32} {G3 : Value} (hX : Ctx Z a0 G1 G3) (O : Old Z n0 h) {x b : Addr} (nb : ¬ bk x) {v0 c0 d : Value} {kC : ClassId} {N : Int32} {cs : List Int32} (E : Exa Z h x "java/lang/String") (V : Fld Z h x "java/lang/String" "value" "[B" v0) (C : Fld Z h x "java/lang/String" "coder" "B" c0) (K : Arv Z h b kC .char N (cs.map Value.int) d) (n : Nat) (hn : cs.length = n) (hN : N = Int32.ofNat n) (l0 : 0 < n) (l2 : n ≤ 4000) (hp : ∀ c ∈ cs, ¬ c < 0 ∧ ¬ (255 : Int32) < c) (ge : n0 ≤ x) (hf : 4 ≤ R.frames) (hl : W + 65 ≤ R.locals) :
    Pays l R p e below s args Z EL1 n0 bk h (⟨"java/lang/String", "<init>", "([C)V"⟩ : MethodName) 3 W 1 n #[.ref x, .ref b] (fun v h' bk' => v = none ∧ bk = bk' ∧ Keep h h' [x] ∧ ∃ (t : Addr) (kb : ClassId), n0 ≤ t ∧ h.size ≤ t ∧ StrL Z h' x t kb cs) :=
  Pays.mono (Pays.of_keep (Qk := StrChars.Road.QV Z x N (cs.map (fun c => c.toInt8.toInt32)) h n0) nb ge (fun v h' L q => ⟨q.2.1, q.2.2.1⟩) fun s' hZ => StrChars.Road.backV hZ (fun d hd => hX.1 d ((by decide +kernel : ∀ d ∈ StrChars.Road.words, d ∈ tables_1) d hd)) (kI := 4) (hX.1 _ (List.mem_of_getElem? (i := 1) rfl)) ge (by rw [← O.1]; exact O.2.1) E V C K (hX.2.2.1.ext O.2) hX.2.2.2.1 hn hN l0 l2 hp rfl hf hl) fun v h' bk' q => by
    obtain ⟨⟨L, q1, q2, q3, q4, q5, t, kb, q6, q7, -, q8, q9⟩, r⟩ := q
    subst hn hN
    exact ⟨q1, r, q3, t, kb, q6, q7, q4, q5, q8, q9, hp, l2⟩
end StrKit

section SbKit
/-- a Latin-1 StringBuilder known by its chars -/
def SbL (Z : State) (h : Heap) (a t : Addr) (kb : ClassId) (N : Nat) (cs : List Int32) : Prop := Exa Z h a "java/lang/StringBuilder" ∧ Fld Z h a "java/lang/AbstractStringBuilder" "coder" "B" (.int 0) ∧ Fld Z h a "java/lang/AbstractStringBuilder" "value" "[B" (.ref t) ∧ Fld Z h a "java/lang/AbstractStringBuilder" "count" "I" (.int (Int32.ofNat cs.length)) ∧ Arv Z h t kb .byte (Int32.ofNat N) ((cs.map (fun c => c.toInt8.toInt32)).map Value.int) (.int 0) ∧ (∀ c ∈ cs, ¬ c < 0 ∧ ¬ (255 : Int32) < c) ∧ cs.length ≤ N ∧ N ≤ 4000 ∧ @Ne Nat a t
variable {Z : State} {h h' : Heap} {a t b : Addr} {kb : ClassId} {N : Nat} {cs ds : List Int32} {ws : List Addr} {sl : Nat} {v : Value}
theorem SbL.ext (S : SbL Z h a t kb N cs) (E : Ext h h') : SbL Z h' a t kb N cs := ⟨S.1.ext E, S.2.1.ext E, S.2.2.1.ext E, S.2.2.2.1.ext E, S.2.2.2.2.1.ext E, S.2.2.2.2.2⟩
theorem SbL.other (S : SbL Z h a t kb N cs) (W : Wr h h' b sl v) (q1 : a ≠ b) (q2 : t ≠ b) : SbL Z h' a t kb N cs := ⟨S.1.wr W, S.2.1.other W (Or.inl q1), S.2.2.1.other W (Or.inl q1), S.2.2.2.1.other W (Or.inl q1), S.2.2.2.2.1.other W q2, S.2.2.2.2.2⟩
theorem SbL.keep (S : SbL Z h a t kb N cs) (K : Keep h h' ws) (q1 : a ∉ ws) (q2 : t ∉ ws) : SbL Z h' a t kb N cs := ⟨S.1.keep K, S.2.1.keep K q1, S.2.2.1.keep K q1, S.2.2.2.1.keep K q1, S.2.2.2.2.1.keep K q2, S.2.2.2.2.2⟩
theorem SbL.lt1 (S : SbL Z h a t kb N cs) : a < h.size := S.1.lt
theorem SbL.lt2 (S : SbL Z h a t kb N cs) : t < h.size := S.2.2.2.2.1.lt
theorem range_getD {L : List Value} {d : Value} : (List.range L.length).map (fun i => L.getD i d) = L := by
  apply List.ext_getElem
  · simp
  · intro i h1 h2; simp [List.getD_eq_getElem?_getD, List.getElem?_eq_getElem h2]
theorem cpy_app {cs ds : List Int32} (h1 : cs.length ≤ 4000) (h2 : ds.length ≤ 4000) :
    (((cs.map (fun c : Int32 => c.toInt8.toInt32)).map Value.int) ++ List.replicate ds.length (Value.int 0)).take (Int32.ofNat cs.length).toNatClampNeg ++ ((List.range (Int32.ofNat ds.length).toNatClampNeg).map fun i => ((ds.map (fun c : Int32 => c.toInt8.toInt32)).map Value.int).getD ((0 : Int32).toNatClampNeg + i) (Value.int 0)) ++ (((cs.map (fun c : Int32 => c.toInt8.toInt32)).map Value.int) ++ List.replicate ds.length (Value.int 0)).drop ((Int32.ofNat cs.length).toNatClampNeg + (Int32.ofNat ds.length).toNatClampNeg) = (((cs ++ ds).map (fun c : Int32 => c.toInt8.toInt32)).map Value.int) := by
  rw [clampN h1, clampN h2]
  have e0 : (0 : Int32).toNatClampNeg = 0 := rfl
  have r := range_getD (L := ((ds.map (fun c : Int32 => c.toInt8.toInt32)).map Value.int)) (d := .int 0)
  simp only [List.length_map] at r
  simp only [e0, Nat.zero_add, r]
  rw [List.take_append_of_le_length (by simp), List.take_of_length_le (by simp), List.drop_of_length_le (by simp)]
  simp
theorem cpy_all {cs : List Int32} (h1 : cs.length ≤ 4000) :
    (([] : List Value) ++ List.replicate cs.length (Value.int 0)).take (0 : Int32).toNatClampNeg ++ ((List.range (Int32.ofNat cs.length).toNatClampNeg).map fun i => ((cs.map (fun c : Int32 => c.toInt8.toInt32)).map Value.int).getD ((0 : Int32).toNatClampNeg + i) (Value.int 0)) ++ (([] : List Value) ++ List.replicate cs.length (Value.int 0)).drop ((0 : Int32).toNatClampNeg + (Int32.ofNat cs.length).toNatClampNeg) = ((cs.map (fun c : Int32 => c.toInt8.toInt32)).map Value.int) := by
  rw [clampN h1]
  have e0 : (0 : Int32).toNatClampNeg = 0 := rfl
  have r := range_getD (L := ((cs.map (fun c : Int32 => c.toInt8.toInt32)).map Value.int)) (d := .int 0)
  simp only [List.length_map] at r
  simp only [e0, Nat.zero_add, r]
  simp
theorem cpy_pad {vs : List Value} {N : Nat} (h1 : N ≤ 4000) (h : vs.length ≤ N) : ∀ i, vs.getD i (.int 0) = ((([] : List Value) ++ List.replicate N (Value.int 0)).take (0 : Int32).toNatClampNeg ++ ((List.range (Int32.ofNat N).toNatClampNeg).map fun i => vs.getD ((0 : Int32).toNatClampNeg + i) (.int 0)) ++ (([] : List Value) ++ List.replicate N (Value.int 0)).drop ((0 : Int32).toNatClampNeg + (Int32.ofNat N).toNatClampNeg)).getD i (.int 0) := by
  intro i
  rw [clampN h1]
  have e0 : (0 : Int32).toNatClampNeg = 0 := rfl
  simp only [e0, Nat.zero_add, List.take_zero, List.nil_append]
  rw [List.drop_of_length_le (by simp), List.append_nil]
  simp only [List.getD_eq_getElem?_getD]
  by_cases q : i < N
  · simp [q]
  · rw [List.getElem?_eq_none (by omega), List.getElem?_eq_none (by simp; omega)]
theorem add_len (cs ds : List Int32) : Int32.ofNat cs.length + Int32.ofNat ds.length = Int32.ofNat (cs ++ ds).length := by rw [List.length_append, Int32.ofNat_add]
theorem shl0 (d : Int32) : d <<< ((0 : Int32) &&& 31) = d := by
  rw [show ((0 : Int32) &&& 31) = 0 from rfl]; simp
theorem shr0 (d : Int32) : d >>> ((0 : Int32) &&& 31) = d := by
  rw [show ((0 : Int32) &&& 31) = 0 from rfl]; simp
theorem sub0 (d : Int32) : d - (0 : Int32) = d := by simp
theorem ens_ok {k N : Nat} (h : k ≤ N) (hN : N ≤ 4000) : ¬ (0 : Int32) < (Int32.ofNat k - Int32.ofNat N) := by
  have q := c_isub (Int32.ofNat k) (Int32.ofNat N)
  have r := rng32 (Int32.ofNat k - Int32.ofNat N)
  rw [toInt_of rfl (by omega), toInt_of rfl (by omega)] at q
  rw [Int32.lt_iff_toInt_lt]
  have e1 : (0 : Int32).toInt = 0 := rfl
  omega
theorem ne_nat {a b : Nat} (h : a < b) (hb : b ≤ 4000) : ¬ Int32.ofNat a = Int32.ofNat b := fun q => by
  have := congrArg Int32.toInt q
  rw [toInt_of rfl (by omega), toInt_of rfl (by omega)] at this
  omega
end SbKit

section SbwKit
/-- a Latin-1 StringBuilder whose bytes don't matter -/
def SbW (Z : State) (h : Heap) (a t : Addr) (kb : ClassId) (N n : Nat) (vs : List Value) : Prop := Exa Z h a "java/lang/StringBuilder" ∧ Fld Z h a "java/lang/AbstractStringBuilder" "coder" "B" (.int 0) ∧ Fld Z h a "java/lang/AbstractStringBuilder" "value" "[B" (.ref t) ∧ Fld Z h a "java/lang/AbstractStringBuilder" "count" "I" (.int (Int32.ofNat n)) ∧ Arv Z h t kb .byte (Int32.ofNat N) vs (.int 0) ∧ n ≤ N ∧ N ≤ 1000 ∧ @Ne Nat a t
variable {Z : State} {h h' : Heap} {a t b : Addr} {kb : ClassId} {N n : Nat} {vs : List Value} {ws : List Addr} {sl : Nat} {v : Value}
theorem dec_ofNat {q : Nat} (h : 1 ≤ q) (h2 : q ≤ 4000) : Int32.ofNat q + (-1 : Int32) = Int32.ofNat (q - 1) := by
  apply Int32.toInt_inj.mp
  have r := c_iadd (Int32.ofNat q) (-1 : Int32)
  have e1 : (-1 : Int32).toInt = -1 := by decide
  rw [toInt_of rfl (by omega), e1] at r
  rw [toInt_of rfl (by omega)]
  have := rng32 (Int32.ofNat q + (-1 : Int32))
  omega
theorem of_toNat {r : Int32} (h : 0 ≤ r.toInt) : Int32.ofNat r.toInt.toNat = r := by
  apply Int32.toInt_inj.mp
  have := rng32 r
  rw [toInt_of rfl (by omega)]
  omega
theorem toI {n : Nat} (h : n ≤ 100000) : (Int32.ofNat n).toInt = n := toInt_of rfl (by omega)
theorem add_n (m n : Nat) : Int32.ofNat m + Int32.ofNat n = Int32.ofNat (m + n) := by rw [Int32.ofNat_add]
theorem ens_no {k N : Nat} (h : N < k) (hN : k ≤ 4000) : (0 : Int32) < (Int32.ofNat k - Int32.ofNat N) := by
  have q := c_isub (Int32.ofNat k) (Int32.ofNat N)
  have r := rng32 (Int32.ofNat k - Int32.ofNat N)
  rw [toInt_of rfl (by omega), toInt_of rfl (by omega)] at q
  rw [Int32.lt_iff_toInt_lt]
  have e1 : (0 : Int32).toInt = 0 := rfl
  omega
end SbwKit

def lit1 : List Int32 := [67, 111, 117, 108, 100, 32, 110, 111, 116, 32, 114, 101, 97, 100, 32, 116, 104, 101, 32]
def lit2 : List Int32 := [32, 97, 115, 32, 72, 84, 84, 80, 47, 49, 46, 49, 46]
theorem len1 : lit1.length = 19 := rfl
theorem len2 : lit2.length = 13 := rfl
theorem bd1 : ∀ c ∈ lit1, ¬ c < 0 ∧ ¬ (255 : Int32) < c := by decide +kernel
theorem bd2 : ∀ c ∈ lit2, ¬ c < 0 ∧ ¬ (255 : Int32) < c := by decide +kernel
def More (Z : State) (us ss : Addr) : Prop := (Sta Z Z.heap "java/lang/Throwable" "UNASSIGNED_STACK" "[Ljava/lang/StackTraceElement;" (.ref us)) ∧ (Sta Z Z.heap "java/lang/Throwable" "SUPPRESSED_SENTINEL" "Ljava/util/List;" (.ref ss))

theorem nb8 (c : Int32) : nar .byte c.toInt8.toInt32 = c.toInt8.toInt32 := by
  have q := c_i2b c
  have q2 : ((nar .byte c.toInt8.toInt32).toInt - c.toInt8.toInt32.toInt) % 256 = 0 ∧ -128 ≤ (nar .byte c.toInt8.toInt32).toInt ∧ (nar .byte c.toInt8.toInt32).toInt < 128 := c_i2b _
  apply Int32.toInt_inj.mp
  omega
theorem one_ch {a : Int32} (g : ¬ a < 0 ∧ ¬ (255 : Int32) < a) : ∀ c ∈ [a], ¬ c < 0 ∧ ¬ (255 : Int32) < c := by simp only [List.mem_cons, List.not_mem_nil, or_false]; rintro c rfl; exact g
theorem two_ch {a b : Int32} (g : ¬ a < 0 ∧ ¬ (255 : Int32) < a) (g' : ¬ b < 0 ∧ ¬ (255 : Int32) < b) : ∀ c ∈ [a, b], ¬ c < 0 ∧ ¬ (255 : Int32) < c := by simp only [List.mem_cons, List.not_mem_nil, or_false]; rintro c (rfl | rfl) <;> first | exact g | exact g'
theorem three_ch {a b d : Int32} (g : ¬ a < 0 ∧ ¬ (255 : Int32) < a) (g' : ¬ b < 0 ∧ ¬ (255 : Int32) < b) (g'' : ¬ d < 0 ∧ ¬ (255 : Int32) < d) : ∀ c ∈ [a, b, d], ¬ c < 0 ∧ ¬ (255 : Int32) < c := by simp only [List.mem_cons, List.not_mem_nil, or_false]; rintro c (rfl | rfl | rfl) <;> first | exact g | exact g' | exact g''
theorem nr_ch {c : Int32} (r : ¬ c < 0 ∧ ¬ (255 : Int32) < c) : nar .char c = c := by
  rw [Int32.lt_iff_toInt_lt, Int32.lt_iff_toInt_lt] at r
  have e1 : (0 : Int32).toInt = 0 := rfl
  have e2 : (255 : Int32).toInt = 255 := rfl
  have q : ((nar .char c).toInt - c.toInt) % 65536 = 0 ∧ 0 ≤ (nar .char c).toInt ∧ (nar .char c).toInt < 65536 := c_i2c c
  apply Int32.toInt_inj.mp
  omega
theorem ch_of {c : Int32} (h : 0 ≤ c.toInt ∧ c.toInt ≤ 255) : ¬ c < 0 ∧ ¬ (255 : Int32) < c := by
  rw [Int32.lt_iff_toInt_lt, Int32.lt_iff_toInt_lt]
  have e1 : (0 : Int32).toInt = 0 := rfl
  have e2 : (255 : Int32).toInt = 255 := rfl
  omega

theorem gcb_eq : jdk_78_method_8_code = gcB := by decide +kernel
theorem pay_cause {Z : State} {a0 : Array Value} {G1 : Int32} {G3 : Value} {p : Program} {l : Launch} {e : Env} {R : Room} {s : State} {args : Array Value} {below : List Frame} {n0 W : Nat} {bk : Addr → Prop} {h : Heap} {a : Addr} (hX : Ctx Z a0 G1 G3) (U : Unt h a) (F : Fld Z h a "java/lang/Throwable" "cause" "Ljava/lang/Throwable;" .null) (hf : 1 ≤ R.frames) (hl : W + 12 ≤ R.locals) :
    Pays l R p e below s args Z EL1 n0 bk h (⟨"java/lang/Throwable", "getCause", "()Ljava/lang/Throwable;"⟩ : MethodName) 3 W 0 0 #[.ref a] (fun v h' bk' => v = some .null ∧ h = h' ∧ bk = bk') :=
  Pays.of_same fun s' hZ => Back.mono (gcBackPure (rm := { frames := 0, cells := 0, slots := 0, locals := 0 }) (c0 := .null) hZ (gcb_eq ▸ hX.1 _ (List.mem_of_getElem? (i := 195) rfl)) (hX.1 _ (List.mem_of_getElem? (i := 193) rfl)) (hX.1 _ (List.mem_of_getElem? (i := 170) rfl)) (hX.1 _ (List.mem_of_getElem? (i := 173) rfl)) U F rfl hf hl) (fun _ _ q => q) fun A a v B _ q => ⟨[], ⟨by rw [q.1]; rfl, rfl, q.2.1⟩, by rw [q.2.2.1, List.append_nil], q.2.2.2.1, q.2.2.2.2⟩

def L4 (n : Int32) : Prop := n = 0 ∨ n = 1 ∨ n = 2 ∨ n = 3
theorem L4.of {n : Int32} (h1 : 0 ≤ n.toInt) (h2 : n.toInt ≤ 3) : L4 n := by
  rcases (by omega : n.toInt = 0 ∨ n.toInt = 1 ∨ n.toInt = 2 ∨ n.toInt = 3) with h | h | h | h
  · exact Or.inl (Int32.toInt_inj.mp h)
  · exact Or.inr (Or.inl (Int32.toInt_inj.mp h))
  · exact Or.inr (Or.inr (Or.inl (Int32.toInt_inj.mp h)))
  · exact Or.inr (Or.inr (Or.inr (Int32.toInt_inj.mp h)))

def Q_es2 (Z : State) (G1 : Int32) (G3 : Value) (us ss : Addr) (x : Addr) (q : Addr) (h0 : Heap) (n0 : Nat) (bk : Addr → Prop) (v : Option Value) (h : Heap) (bk' : Addr → Prop) : Prop := ∃ (t : Addr), ∃ (kb : ClassId), v = none ∧ (∀ y, bk' y → bk y ∨ (@LE.le Nat _ (Array.size h0) y ∧ @LT.lt Nat _ y (Array.size h))) ∧ Keep h0 h [x] ∧ (StrL Z h x t kb ([] : List Int32))
theorem d0 : decode jdk_42_method_149_code 0 = .ok (.aload_n 0, 1) := by decide +kernel
theorem d1 : decode jdk_42_method_149_code 1 = .ok (.invokespecial 1, 3) := by decide +kernel
theorem d2 : decode jdk_42_method_149_code 4 = .ok (.iload_n 3, 1) := by decide +kernel
theorem d3 : decode jdk_42_method_149_code 5 = .ok (.ifCond .ne 22, 3) := by decide +kernel
theorem d4 : decode jdk_42_method_149_code 8 = .ok (.aload_n 0, 1) := by decide +kernel
theorem d5 : decode jdk_42_method_149_code 9 = .ok (.ldc 7, 2) := by decide +kernel
theorem d6 : decode jdk_42_method_149_code 11 = .ok (.getfield 9, 3) := by decide +kernel
theorem d7 : decode jdk_42_method_149_code 14 = .ok (.putfield 9, 3) := by decide +kernel
theorem d8 : decode jdk_42_method_149_code 17 = .ok (.aload_n 0, 1) := by decide +kernel
theorem d9 : decode jdk_42_method_149_code 18 = .ok (.ldc 7, 2) := by decide +kernel
theorem d10 : decode jdk_42_method_149_code 20 = .ok (.getfield 15, 3) := by decide +kernel
theorem d11 : decode jdk_42_method_149_code 23 = .ok (.putfield 15, 3) := by decide +kernel
theorem d12 : decode jdk_42_method_149_code 26 = .ok (.return_, 1) := by decide +kernel
abbrev RM_es2 : Room := { frames := 1, cells := 4, slots := 8, locals := 12 }
theorem ef_es2 (m : MethodId) (x0 : Addr) (x1 : Addr) (x2 : Int32) (x3 : Int32) : entryFrame m #[(.ref x0), (.ref x1), (.int x2), (.int x3), .null] 6 = mkF m 0 #[.val (.ref x0), .val (.ref x1), .val (.int x2), .val (.int x3), .val .null, .unset] [] := by first | (simp [entryFrame, mkF, argsToLocals, Value.category]; done) | rfl
set_option maxRecDepth 65536 in
set_option maxHeartbeats 40000000 in
theorem rm_es2 (l : Launch) (Z : State) (a0 : Array Value) (G1 : Int32) (G3 : Value) (us ss : Addr) (hX : Ctx Z a0 G1 G3) (hY : More Z us ss) (n0 : Nat) (bk : Addr → Prop) (h0 : Heap) (O0 : Old Z n0 h0) (x : Addr) (q : Addr) (pf_0 : Exa Z h0 x "java/lang/String") (pf_1 : Fld Z h0 x "java/lang/String" "value" "[B" .null) (pf_2 : Fld Z h0 x "java/lang/String" "coder" "B" (.int (0 : Int32))) (hbl : ∀ y, bk y → @LT.lt Nat _ y (Array.size h0)) (nbx : ¬ bk x) (gx : n0 ≤ x) (ws : List Jvm.Cond) : Met l Z EL1 n0 bk (⟨"java/lang/String", "<init>", "([CIILjava/lang/Void;)V"⟩ : MethodName) jdk_42_method_149_code 6 (Option.none : Option FieldType) RM_es2 #[(.ref x), (.ref q), (.int (0 : Int32)), (.int (0 : Int32)), .null] h0 (Q_es2 Z G1 G3 us ss x q h0 n0 bk) ws := by
  have hX' := hX
  obtain ⟨hw, hE, S1, P1, S3, P3⟩ := hX'
  have hY' := hY
  obtain ⟨s_us, s_ss⟩ := hY'
  have hSA := sa_of hw
  have wT : ∀ (i : Nat) {d : Jvm.Cond}, tables_1[i]? = some d → d.before a0 Z = true := fun i d h => hw d (List.mem_of_getElem? h)
  have z0 : n0 ≤ h0.size := by rw [← O0.1]; exact O0.2.1
  refine Met.of (by decide +kernel) O0 hE ?_
  intro p e s m below meth c hx hby hml hret hlk hnm
  refine k_cast (ef_es2 m x q (0 : Int32) (0 : Int32)) ?_
  show Run p l e _ s m _ below meth c Z EL1 _ n0 bk h0 0 0 (mkF m 0 #[.val (.ref x), .val (.ref q), .val (.int (0 : Int32)), .val (.int (0 : Int32)), .val .null, .unset] []) _
  have lt_1 : @LT.lt Nat _ x (Array.size h0) := pf_0.lt
  have lt_2 : @LT.lt Nat _ x (Array.size h0) := pf_1.lt
  have lt_3 : @LT.lt Nat _ x (Array.size h0) := pf_2.lt
  refine k_pure (g' := (mkF m 1 #[.val (.ref x), .val (.ref q), .val (.int (0 : Int32)), .val (.int (0 : Int32)), .val .null, .unset] [(.ref x)])) (fun _ J _ j => XS.aloadN J hx rfl (hb hby d0) rfl rfl j) ?_
  refine k_initO hx (wT 11 rfl) (wT 12 rfl) (wT 13 rfl) rfl (by rw [hml]; rfl) rfl (hb hby d1) (by decide) (W := 0) (by show 2 * 0 + _ ≤ _; exact Nat.le_of_eq rfl) (by decide) ?_
  show Run p l e _ s m _ below meth c Z EL1 _ n0 bk h0 0 0 (mkF m 4 #[.val (.ref x), .val (.ref q), .val (.int (0 : Int32)), .val (.int (0 : Int32)), .val .null, .unset] []) _
  refine k_pure (g' := (mkF m 5 #[.val (.ref x), .val (.ref q), .val (.int (0 : Int32)), .val (.int (0 : Int32)), .val .null, .unset] [(.int (0 : Int32))])) (fun _ J _ j => XS.iloadN J hx rfl (hb hby d2) rfl j) ?_
  refine k_pure (g' := (mkF m 8 #[.val (.ref x), .val (.ref q), .val (.int (0 : Int32)), .val (.int (0 : Int32)), .val .null, .unset] [])) (fun _ J _ j => XS.ifNo J hx rfl (hb hby d3) rfl ((if0 _ _).trans (teq (by decide : ((0 : Int32) = (0 : Int32)))).2) j) ?_
  refine k_pure (g' := (mkF m 9 #[.val (.ref x), .val (.ref q), .val (.int (0 : Int32)), .val (.int (0 : Int32)), .val .null, .unset] [(.ref x)])) (fun _ J _ j => XS.aloadN J hx rfl (hb hby d4) rfl rfl j) ?_
  refine k_ldcC hx (wT 14 rfl) hSA (by decide +kernel) (z := (Int32.ofNat ([] : List Int32).length)) (vs := ((([] : List Int32).map (fun c => c.toInt8.toInt32)).map Value.int)) (by decide +kernel) (by decide) (by decide +kernel) rfl (hb hby d5) (n := 0) (by decide +kernel) (by decide) (by decide) (by decide) ?_
  intro h_4 a_5 a_10 k_11 bk_8 O_6 E_7 hbk_9 X_12 F_13 F_14 V_15 nl_16
  have z_17 := E_7.1
  have lt_18 : @LT.lt Nat _ a_5 (Array.size h_4) := X_12.lt
  have lt_19 : @LT.lt Nat _ a_10 (Array.size h_4) := V_15.lt
  have ne_20 : @Ne Nat x a_5 := (nl_16 x (show @LT.lt Nat _ x (Array.size h0) by omega) nbx).1
  have ne_21 : @Ne Nat x a_10 := (nl_16 x (show @LT.lt Nat _ x (Array.size h0) by omega) nbx).2
  have S_22 : StrL Z h_4 a_5 a_10 k_11 ([] : List Int32) := ⟨X_12, F_13, F_14, V_15, (fun _ q => nomatch q), by decide⟩
  have nb_23 : ¬ bk_8 x := fun q => (hbk_9 _ q).elim nbx (fun r => Nat.not_le_of_lt (show @LT.lt Nat _ x (Array.size h0) by omega) r.1)
  have hbl_24 : ∀ y, bk_8 y → @LT.lt Nat _ y (Array.size h_4) := fun y q => (hbk_9 y q).elim (fun r => Nat.lt_of_lt_of_le (hbl y r) (by omega)) (fun r => r.2)
  have hbs_25 : ∀ y, bk_8 y → bk y ∨ (@LE.le Nat _ (Array.size h0) y ∧ @LT.lt Nat _ y (Array.size h_4)) := fun y q => (hbk_9 y q).imp id (fun r => ⟨Nat.le_trans (by omega) r.1, r.2⟩)
  show Run p l e _ s m _ below meth c Z EL1 _ n0 bk_8 h_4 2 4 (mkF m 11 #[.val (.ref x), .val (.ref q), .val (.int (0 : Int32)), .val (.int (0 : Int32)), .val .null, .unset] [(.ref a_5), (.ref x)]) _
  refine k_getF hx (host := "") (Or.inl (wT 20 rfl)) Via.refl S_22.2.2.1 rfl rfl (hb hby d6) ?_
  show Run p l e _ s m _ below meth c Z EL1 _ n0 bk_8 h_4 2 4 (mkF m 14 #[.val (.ref x), .val (.ref q), .val (.int (0 : Int32)), .val (.int (0 : Int32)), .val .null, .unset] [(.ref a_10), (.ref x)]) _
  have F_26 : Fld Z h_4 x "java/lang/String" "value" "[B" .null := (pf_1.ext E_7)
  have F_27 : Exa Z h_4 x "java/lang/String" := (pf_0.ext E_7)
  refine k_putF hx (host := "") (Or.inl (wT 20 rfl)) Via.refl F_26 F_27 (Or.inr ⟨(wT 16 rfl), rfl, hnm⟩) (wT 1 rfl) (ty := (.array .byte)) (by decide) rfl rfl (by omega) nb_23 rfl rfl (hb hby d7) ?_
  intro h_28 O_30 W_29
  have z_31 := W_29.size
  show Run p l e _ s m _ below meth c Z EL1 _ n0 bk_8 h_28 2 4 (mkF m 17 #[.val (.ref x), .val (.ref q), .val (.int (0 : Int32)), .val (.int (0 : Int32)), .val .null, .unset] []) _
  refine k_pure (g' := (mkF m 18 #[.val (.ref x), .val (.ref q), .val (.int (0 : Int32)), .val (.int (0 : Int32)), .val .null, .unset] [(.ref x)])) (fun _ J _ j => XS.aloadN J hx rfl (hb hby d8) rfl rfl j) ?_
  refine k_ldcC hx (wT 14 rfl) hSA (by decide +kernel) (z := (Int32.ofNat ([] : List Int32).length)) (vs := ((([] : List Int32).map (fun c => c.toInt8.toInt32)).map Value.int)) (by decide +kernel) (by decide) (by decide +kernel) rfl (hb hby d9) (n := 0) (by decide +kernel) (by decide) (by decide) (by decide) ?_
  intro h_32 a_33 a_38 k_39 bk_36 O_34 E_35 hbk_37 X_40 F_41 F_42 V_43 nl_44
  have z_45 := E_35.1
  have lt_46 : @LT.lt Nat _ a_33 (Array.size h_32) := X_40.lt
  have lt_47 : @LT.lt Nat _ a_38 (Array.size h_32) := V_43.lt
  have ne_48 : @Ne Nat x a_33 := (nl_44 x (show @LT.lt Nat _ x (Array.size h_28) by omega) nb_23).1
  have ne_49 : @Ne Nat x a_38 := (nl_44 x (show @LT.lt Nat _ x (Array.size h_28) by omega) nb_23).2
  have S_50 : StrL Z h_32 a_33 a_38 k_39 ([] : List Int32) := ⟨X_40, F_41, F_42, V_43, (fun _ q => nomatch q), by decide⟩
  have hbl_51 : ∀ y, bk_8 y → @LT.lt Nat _ y (Array.size h_28) := fun y q => Nat.lt_of_lt_of_le (hbl_24 y q) (by omega)
  have nb_52 : ¬ bk_36 x := fun q => (hbk_37 _ q).elim nb_23 (fun r => Nat.not_le_of_lt (show @LT.lt Nat _ x (Array.size h_28) by omega) r.1)
  have hbl_53 : ∀ y, bk_36 y → @LT.lt Nat _ y (Array.size h_32) := fun y q => (hbk_37 y q).elim (fun r => Nat.lt_of_lt_of_le (hbl_51 y r) (by omega)) (fun r => r.2)
  have hbs_54 : ∀ y, bk_36 y → bk y ∨ (@LE.le Nat _ (Array.size h0) y ∧ @LT.lt Nat _ y (Array.size h_32)) := fun y q => (hbk_37 y q).elim (fun r => (hbs_25 y r).imp id (fun t => ⟨t.1, Nat.lt_of_lt_of_le t.2 (by omega)⟩)) (fun r => Or.inr ⟨Nat.le_trans (by omega) r.1, r.2⟩)
  show Run p l e _ s m _ below meth c Z EL1 _ n0 bk_36 h_32 4 8 (mkF m 20 #[.val (.ref x), .val (.ref q), .val (.int (0 : Int32)), .val (.int (0 : Int32)), .val .null, .unset] [(.ref a_33), (.ref x)]) _
  refine k_getF hx (host := "") (Or.inl (wT 21 rfl)) Via.refl S_50.2.1 rfl rfl (hb hby d10) ?_
  show Run p l e _ s m _ below meth c Z EL1 _ n0 bk_36 h_32 4 8 (mkF m 23 #[.val (.ref x), .val (.ref q), .val (.int (0 : Int32)), .val (.int (0 : Int32)), .val .null, .unset] [(.int (0 : Int32)), (.ref x)]) _
  have F_55 : Fld Z h_32 x "java/lang/String" "coder" "B" (.int (0 : Int32)) := (((pf_2.ext E_7).other W_29 (Or.inr (RoadKit.slot_ne (C := "java/lang/String") (Or.inr (wT 17 rfl)) (Or.inr (wT 16 rfl)) (by decide) (t := .byte) (t' := (.array .byte)) (by decide) (by decide)))).ext E_35)
  have F_56 : Exa Z h_32 x "java/lang/String" := ((F_27.wr W_29).ext E_35)
  refine k_putF hx (host := "") (Or.inl (wT 21 rfl)) Via.refl F_55 F_56 (Or.inr ⟨(wT 17 rfl), rfl, hnm⟩) (wT 1 rfl) (ty := .byte) (by decide) rfl rfl (by omega) nb_52 rfl rfl (hb hby d11) ?_
  intro h_57 O_59 W_58
  have z_60 := W_58.size
  show Run p l e _ s m _ below meth c Z EL1 _ n0 bk_36 h_57 4 8 (mkF m 26 #[.val (.ref x), .val (.ref q), .val (.int (0 : Int32)), .val (.int (0 : Int32)), .val .null, .unset] []) _
  have F_61 : Exa Z h_57 x "java/lang/String" := (F_56.wr W_58)
  have F_62 : Fld Z h_57 x "java/lang/String" "value" "[B" (.ref a_10) := (((F_26.same W_29).ext E_35).other W_58 (Or.inr (RoadKit.slot_ne (C := "java/lang/String") (Or.inr (wT 16 rfl)) (Or.inr (wT 17 rfl)) (by decide) (t := (.array .byte)) (t' := .byte) (by decide) (by decide))))
  have F_63 : Arv Z h_57 a_10 k_11 .byte (Int32.ofNat (([] : List Int32)).length) (((([] : List Int32)).map (fun c => c.toInt8.toInt32)).map Value.int) (.int 0) := (((S_22.2.2.2.1.other W_29 (ne_ad (by omega))).ext E_35).other W_58 (ne_ad (by omega)))
  exact k_ret0 hx hlk hret (hb hby d12) (by decide) (by decide) ⟨a_10, k_11, rfl, (fun y q => (hbs_54 y q).imp id (fun t => ⟨t.1, Nat.lt_of_lt_of_le t.2 (by omega)⟩)), (((((Keep.refl _ _).ext E_7).wr W_29 (Or.inl (by simp))).ext E_35).wr W_58 (Or.inl (by simp))), ⟨F_61, (F_55.same W_58), F_62, F_63, (fun _ q => nomatch q), by decide⟩⟩
def Q_es1 (Z : State) (G1 : Int32) (G3 : Value) (us ss : Addr) (x : Addr) (q : Addr) (kq : ClassId) (h0 : Heap) (n0 : Nat) (bk : Addr → Prop) (v : Option Value) (h : Heap) (bk' : Addr → Prop) : Prop := ∃ (t : Addr), ∃ (kb : ClassId), v = none ∧ (∀ y, bk' y → bk y ∨ (@LE.le Nat _ (Array.size h0) y ∧ @LT.lt Nat _ y (Array.size h))) ∧ Keep h0 h [x] ∧ (StrL Z h x t kb ([] : List Int32))
theorem d13 : decode jdk_42_method_3_code 0 = .ok (.aload_n 0, 1) := by decide +kernel
theorem d14 : decode jdk_42_method_3_code 1 = .ok (.aload_n 1, 1) := by decide +kernel
theorem d15 : decode jdk_42_method_3_code 2 = .ok (.iconst 0, 1) := by decide +kernel
theorem d16 : decode jdk_42_method_3_code 3 = .ok (.aload_n 1, 1) := by decide +kernel
theorem d17 : decode jdk_42_method_3_code 4 = .ok (.arraylength, 1) := by decide +kernel
theorem d18 : decode jdk_42_method_3_code 5 = .ok (.aconst_null, 1) := by decide +kernel
theorem d19 : decode jdk_42_method_3_code 6 = .ok (.invokespecial 27, 3) := by decide +kernel
theorem pd__28__5b_CIILjava_2f_lang_2f_Void_3b__29_V : parseMethodDescriptor "([CIILjava/lang/Void;)V" = some ⟨[(.array .char), .int, .int, (.object "java/lang/Void")], none⟩ := by decide +kernel
theorem d20 : decode jdk_42_method_3_code 9 = .ok (.return_, 1) := by decide +kernel
abbrev RM_es1 : Room := { frames := 2, cells := 4, slots := 8, locals := 29 }
theorem ef_es1 (m : MethodId) (x0 : Addr) (x1 : Addr) : entryFrame m #[(.ref x0), (.ref x1)] 2 = mkF m 0 #[.val (.ref x0), .val (.ref x1)] [] := by first | (simp [entryFrame, mkF, argsToLocals, Value.category]; done) | rfl
set_option maxRecDepth 65536 in
set_option maxHeartbeats 40000000 in
theorem rm_es1 (l : Launch) (Z : State) (a0 : Array Value) (G1 : Int32) (G3 : Value) (us ss : Addr) (hX : Ctx Z a0 G1 G3) (hY : More Z us ss) (n0 : Nat) (bk : Addr → Prop) (h0 : Heap) (O0 : Old Z n0 h0) (x : Addr) (q : Addr) (kq : ClassId) (pf_0 : Exa Z h0 x "java/lang/String") (pf_1 : Fld Z h0 x "java/lang/String" "value" "[B" .null) (pf_2 : Fld Z h0 x "java/lang/String" "coder" "B" (.int (0 : Int32))) (hbl : ∀ y, bk y → @LT.lt Nat _ y (Array.size h0)) (nbx : ¬ bk x) (gx : n0 ≤ x) (pf_6 : Arv Z h0 q kq .char (0 : Int32) [] (.int (0 : Int32))) (ws : List Jvm.Cond) : Met l Z EL1 n0 bk (⟨"java/lang/String", "<init>", "([C)V"⟩ : MethodName) jdk_42_method_3_code 2 (Option.none : Option FieldType) RM_es1 #[(.ref x), (.ref q)] h0 (Q_es1 Z G1 G3 us ss x q kq h0 n0 bk) ws := by
  have hX' := hX
  obtain ⟨hw, hE, S1, P1, S3, P3⟩ := hX'
  have hY' := hY
  obtain ⟨s_us, s_ss⟩ := hY'
  have hSA := sa_of hw
  have wT : ∀ (i : Nat) {d : Jvm.Cond}, tables_1[i]? = some d → d.before a0 Z = true := fun i d h => hw d (List.mem_of_getElem? h)
  have z0 : n0 ≤ h0.size := by rw [← O0.1]; exact O0.2.1
  refine Met.of (by decide +kernel) O0 hE ?_
  intro p e s m below meth c hx hby hml hret hlk hnm
  refine k_cast (ef_es1 m x q) ?_
  show Run p l e _ s m _ below meth c Z EL1 _ n0 bk h0 0 0 (mkF m 0 #[.val (.ref x), .val (.ref q)] []) _
  have lt_1 : @LT.lt Nat _ x (Array.size h0) := pf_0.lt
  have lt_2 : @LT.lt Nat _ x (Array.size h0) := pf_1.lt
  have lt_3 : @LT.lt Nat _ x (Array.size h0) := pf_2.lt
  have lt_4 : @LT.lt Nat _ q (Array.size h0) := pf_6.lt
  refine k_pure (g' := (mkF m 1 #[.val (.ref x), .val (.ref q)] [(.ref x)])) (fun _ J _ j => XS.aloadN J hx rfl (hb hby d13) rfl rfl j) ?_
  refine k_pure (g' := (mkF m 2 #[.val (.ref x), .val (.ref q)] [(.ref q), (.ref x)])) (fun _ J _ j => XS.aloadN J hx rfl (hb hby d14) rfl rfl j) ?_
  refine k_pure (g' := (mkF m 3 #[.val (.ref x), .val (.ref q)] [(.int (0 : Int32)), (.ref q), (.ref x)])) (fun _ J _ j => XS.iconst J hx rfl (hb hby d15) j) ?_
  refine k_pure (g' := (mkF m 4 #[.val (.ref x), .val (.ref q)] [(.ref q), (.int (0 : Int32)), (.ref q), (.ref x)])) (fun _ J _ j => XS.aloadN J hx rfl (hb hby d16) rfl rfl j) ?_
  refine k_alen hx pf_6 rfl rfl (hb hby d17) ?_
  show Run p l e _ s m _ below meth c Z EL1 _ n0 bk h0 0 0 (mkF m 5 #[.val (.ref x), .val (.ref q)] [(.int (0 : Int32)), (.int (0 : Int32)), (.ref q), (.ref x)]) _
  refine k_pure (g' := (mkF m 6 #[.val (.ref x), .val (.ref q)] [.null, (.int (0 : Int32)), (.int (0 : Int32)), (.ref q), (.ref x)])) (fun _ J _ j => XS.aconstNull J hx rfl (hb hby d18) j) ?_
  refine k_callI hx (y := (⟨"java/lang/String", "<init>", "([CIILjava/lang/Void;)V"⟩ : MethodName)) rfl (wT 7 rfl) (wT 8 rfl) (wT 10 rfl) (by decide) (W := 0) (a := x) (argsL := [(.ref q), (.int (0 : Int32)), (.int (0 : Int32)), .null]) (rest := []) (Pays.of_met (rm_es2 l Z a0 G1 G3 us ss hX hY n0 bk h0 O0 x q pf_0 pf_1 pf_2 hbl nbx (by omega) []) (wT 10 rfl) (wT 2 rfl) (by decide) (by decide)) rfl (by rw [hml]; rfl) (lenOf pd__28__5b_CIILjava_2f_lang_2f_Void_3b__29_V rfl) rfl (by show 2 * 0 + _ ≤ _; exact Nat.le_of_eq rfl) (hb hby d19) (by decide) (by decide) ?_
  intro v_5 h_6 bk_7 O_8 z_9 Q_10
  obtain ⟨a_11, k_12, rfl, hbk_13, K_14, F_15⟩ := Q_10
  have nb_16 : ¬ bk_7 x := fun q => (hbk_13 _ q).elim nbx (fun r => Nat.not_le_of_lt (show @LT.lt Nat _ x (Array.size h0) by omega) r.1)
  have hbl_17 : ∀ y, bk_7 y → @LT.lt Nat _ y (Array.size h_6) := fun y q => (hbk_13 y q).elim (fun r => Nat.lt_of_lt_of_le (hbl y r) (by omega)) (fun r => r.2)
  have hbs_18 : ∀ y, bk_7 y → bk y ∨ (@LE.le Nat _ (Array.size h0) y ∧ @LT.lt Nat _ y (Array.size h_6)) := fun y q => (hbk_13 y q).imp id (fun r => ⟨Nat.le_trans (by omega) r.1, r.2⟩)
  have lt_19 : @LT.lt Nat _ x (Array.size h_6) := F_15.lt1
  have lt_20 : @LT.lt Nat _ a_11 (Array.size h_6) := F_15.lt2
  show Run p l e _ s m _ below meth c Z EL1 _ n0 bk_7 h_6 4 8 (mkF m 9 #[.val (.ref x), .val (.ref q)] []) _
  exact k_ret0 hx hlk hret (hb hby d20) (by decide) (by decide) ⟨a_11, k_12, rfl, (fun y q => (hbs_18 y q).imp id (fun t => ⟨t.1, Nat.lt_of_lt_of_le t.2 (by omega)⟩)), ((Keep.refl _ _).trans K_14 (kkS (Or.inl (by simp)) kk0)), F_15⟩
def Q_coder (Z : State) (G1 : Int32) (G3 : Value) (us ss : Addr) (a : Addr) (t : Addr) (kb : ClassId) (cs : List Int32) (h0 : Heap) (n0 : Nat) (bk : Addr → Prop) (v : Option Value) (h : Heap) (bk' : Addr → Prop) : Prop := v = some (.int (0 : Int32)) ∧ h0 = h ∧ bk = bk'
theorem d21 : decode jdk_42_method_152_code 0 = .ok (.getstatic 38, 3) := by decide +kernel
theorem d22 : decode jdk_42_method_152_code 3 = .ok (.ifCond .eq 10, 3) := by decide +kernel
theorem d23 : decode jdk_42_method_152_code 6 = .ok (.aload_n 0, 1) := by decide +kernel
theorem d24 : decode jdk_42_method_152_code 7 = .ok (.getfield 15, 3) := by decide +kernel
theorem d25 : decode jdk_42_method_152_code 10 = .ok (.goto 4, 3) := by decide +kernel
theorem d26 : decode jdk_42_method_152_code 14 = .ok (.ireturn, 1) := by decide +kernel
abbrev RM_coder : Room := { frames := 0, cells := 0, slots := 0, locals := 0 }
theorem ef_coder (m : MethodId) (x0 : Addr) : entryFrame m #[(.ref x0)] 1 = mkF m 0 #[.val (.ref x0)] [] := by first | (simp [entryFrame, mkF, argsToLocals, Value.category]; done) | rfl
set_option maxRecDepth 65536 in
set_option maxHeartbeats 40000000 in
theorem rm_coder (l : Launch) (Z : State) (a0 : Array Value) (G1 : Int32) (G3 : Value) (us ss : Addr) (hX : Ctx Z a0 G1 G3) (hY : More Z us ss) (n0 : Nat) (bk : Addr → Prop) (h0 : Heap) (O0 : Old Z n0 h0) (a : Addr) (t : Addr) (kb : ClassId) (cs : List Int32) (pf_0 : StrL Z h0 a t kb cs) (ws : List Jvm.Cond) : Met l Z EL1 n0 bk (⟨"java/lang/String", "coder", "()B"⟩ : MethodName) jdk_42_method_152_code 1 (Option.some FieldType.byte) RM_coder #[(.ref a)] h0 (Q_coder Z G1 G3 us ss a t kb cs h0 n0 bk) ws := by
  have hX' := hX
  obtain ⟨hw, hE, S1, P1, S3, P3⟩ := hX'
  have hY' := hY
  obtain ⟨s_us, s_ss⟩ := hY'
  have hSA := sa_of hw
  have wT : ∀ (i : Nat) {d : Jvm.Cond}, tables_1[i]? = some d → d.before a0 Z = true := fun i d h => hw d (List.mem_of_getElem? h)
  have z0 : n0 ≤ h0.size := by rw [← O0.1]; exact O0.2.1
  refine Met.of (by decide +kernel) O0 hE ?_
  intro p e s m below meth c hx hby hml hret hlk hnm
  refine k_cast (ef_coder m a) ?_
  show Run p l e _ s m _ below meth c Z EL1 _ n0 bk h0 0 0 (mkF m 0 #[.val (.ref a)] []) _
  have lt_1 : @LT.lt Nat _ a (Array.size h0) := pf_0.lt1
  have lt_2 : @LT.lt Nat _ t (Array.size h0) := pf_0.lt2
  refine k_getS hx (host := "") (Or.inl (wT 67 rfl)) Via.refl (S1.ext O0.2) rfl (hb hby d21) ?_
  show Run p l e _ s m _ below meth c Z EL1 _ n0 bk h0 0 0 (mkF m 3 #[.val (.ref a)] [(.int G1)]) _
  refine k_pure (g' := (mkF m 6 #[.val (.ref a)] [])) (fun _ J _ j => XS.ifNo J hx rfl (hb hby d22) rfl ((if0 _ _).trans (feq P1).1) j) ?_
  refine k_pure (g' := (mkF m 7 #[.val (.ref a)] [(.ref a)])) (fun _ J _ j => XS.aloadN J hx rfl (hb hby d23) rfl rfl j) ?_
  refine k_getF hx (host := "") (Or.inl (wT 21 rfl)) Via.refl pf_0.2.1 rfl rfl (hb hby d24) ?_
  show Run p l e _ s m _ below meth c Z EL1 _ n0 bk h0 0 0 (mkF m 10 #[.val (.ref a)] [(.int (0 : Int32))]) _
  refine k_pure (g' := (mkF m 14 #[.val (.ref a)] [(.int (0 : Int32))])) (fun _ J _ j => XS.goto J hx rfl (pc0 := 10) (pc' := 14) rfl (hb hby d25) (by decide) (by decide) j) ?_
  exact k_retN hx hlk hret (by simp) (hb hby d26) (by decide) (by decide) ⟨rfl, rfl, rfl⟩
def Q_asi (Z : State) (G1 : Int32) (G3 : Value) (us ss : Addr) (a : Addr) (h0 : Heap) (n0 : Nat) (bk : Addr → Prop) (v : Option Value) (h : Heap) (bk' : Addr → Prop) : Prop := ∃ (t : Addr), ∃ (kb : ClassId), v = none ∧ bk = bk' ∧ Keep h0 h [a] ∧ (SbL Z h a t kb 16 ([] : List Int32)) ∧ (Exa Z h t "[B") ∧ (@LE.le Nat _ (Array.size h0) t) ∧ (¬ bk' t)
theorem d27 : decode jdk_68_method_2_code 0 = .ok (.aload_n 0, 1) := by decide +kernel
theorem d28 : decode jdk_68_method_2_code 1 = .ok (.invokespecial 3, 3) := by decide +kernel
theorem d29 : decode jdk_68_method_2_code 4 = .ok (.getstatic 18, 3) := by decide +kernel
theorem d30 : decode jdk_68_method_2_code 7 = .ok (.ifCond .eq 18, 3) := by decide +kernel
theorem d31 : decode jdk_68_method_2_code 10 = .ok (.aload_n 0, 1) := by decide +kernel
theorem d32 : decode jdk_68_method_2_code 11 = .ok (.iload_n 1, 1) := by decide +kernel
theorem d33 : decode jdk_68_method_2_code 12 = .ok (.newarray .byte, 2) := by decide +kernel
theorem d34 : decode jdk_68_method_2_code 14 = .ok (.putfield 15, 3) := by decide +kernel
theorem d35 : decode jdk_68_method_2_code 17 = .ok (.aload_n 0, 1) := by decide +kernel
theorem d36 : decode jdk_68_method_2_code 18 = .ok (.iconst 0, 1) := by decide +kernel
theorem d37 : decode jdk_68_method_2_code 19 = .ok (.putfield 22, 3) := by decide +kernel
theorem d38 : decode jdk_68_method_2_code 22 = .ok (.goto 16, 3) := by decide +kernel
theorem d39 : decode jdk_68_method_2_code 38 = .ok (.return_, 1) := by decide +kernel
abbrev RM_asi : Room := { frames := 1, cells := 1, slots := 16, locals := 12 }
theorem ef_asi (m : MethodId) (x0 : Addr) (x1 : Int32) : entryFrame m #[(.ref x0), (.int x1)] 2 = mkF m 0 #[.val (.ref x0), .val (.int x1)] [] := by first | (simp [entryFrame, mkF, argsToLocals, Value.category]; done) | rfl
set_option maxRecDepth 65536 in
set_option maxHeartbeats 40000000 in
theorem rm_asi (l : Launch) (Z : State) (a0 : Array Value) (G1 : Int32) (G3 : Value) (us ss : Addr) (hX : Ctx Z a0 G1 G3) (hY : More Z us ss) (n0 : Nat) (bk : Addr → Prop) (h0 : Heap) (O0 : Old Z n0 h0) (a : Addr) (pf_0 : Exa Z h0 a "java/lang/StringBuilder") (pf_1 : Fld Z h0 a "java/lang/AbstractStringBuilder" "value" "[B" .null) (pf_2 : Fld Z h0 a "java/lang/AbstractStringBuilder" "coder" "B" (.int (0 : Int32))) (pf_3 : Fld Z h0 a "java/lang/AbstractStringBuilder" "count" "I" (.int (0 : Int32))) (hbl : ∀ y, bk y → @LT.lt Nat _ y (Array.size h0)) (nba : ¬ bk a) (ga : n0 ≤ a) (ws : List Jvm.Cond) : Met l Z EL1 n0 bk (⟨"java/lang/AbstractStringBuilder", "<init>", "(I)V"⟩ : MethodName) jdk_68_method_2_code 2 (Option.none : Option FieldType) RM_asi #[(.ref a), (.int (16 : Int32))] h0 (Q_asi Z G1 G3 us ss a h0 n0 bk) ws := by
  have hX' := hX
  obtain ⟨hw, hE, S1, P1, S3, P3⟩ := hX'
  have hY' := hY
  obtain ⟨s_us, s_ss⟩ := hY'
  have hSA := sa_of hw
  have wT : ∀ (i : Nat) {d : Jvm.Cond}, tables_1[i]? = some d → d.before a0 Z = true := fun i d h => hw d (List.mem_of_getElem? h)
  have z0 : n0 ≤ h0.size := by rw [← O0.1]; exact O0.2.1
  refine Met.of (by decide +kernel) O0 hE ?_
  intro p e s m below meth c hx hby hml hret hlk hnm
  refine k_cast (ef_asi m a (16 : Int32)) ?_
  show Run p l e _ s m _ below meth c Z EL1 _ n0 bk h0 0 0 (mkF m 0 #[.val (.ref a), .val (.int (16 : Int32))] []) _
  have lt_1 : @LT.lt Nat _ a (Array.size h0) := pf_0.lt
  have lt_2 : @LT.lt Nat _ a (Array.size h0) := pf_1.lt
  have lt_3 : @LT.lt Nat _ a (Array.size h0) := pf_2.lt
  have lt_4 : @LT.lt Nat _ a (Array.size h0) := pf_3.lt
  refine k_pure (g' := (mkF m 1 #[.val (.ref a), .val (.int (16 : Int32))] [(.ref a)])) (fun _ J _ j => XS.aloadN J hx rfl (hb hby d27) rfl rfl j) ?_
  refine k_initO hx (wT 40 rfl) (wT 12 rfl) (wT 13 rfl) rfl (by rw [hml]; rfl) rfl (hb hby d28) (by decide) (W := 0) (by show 2 * 0 + _ ≤ _; exact Nat.le_of_eq rfl) (by decide) ?_
  show Run p l e _ s m _ below meth c Z EL1 _ n0 bk h0 0 0 (mkF m 4 #[.val (.ref a), .val (.int (16 : Int32))] []) _
  refine k_getS hx (host := "") (Or.inl (wT 41 rfl)) Via.refl (S1.ext O0.2) rfl (hb hby d29) ?_
  show Run p l e _ s m _ below meth c Z EL1 _ n0 bk h0 0 0 (mkF m 7 #[.val (.ref a), .val (.int (16 : Int32))] [(.int G1)]) _
  refine k_pure (g' := (mkF m 10 #[.val (.ref a), .val (.int (16 : Int32))] [])) (fun _ J _ j => XS.ifNo J hx rfl (hb hby d30) rfl ((if0 _ _).trans (feq P1).1) j) ?_
  refine k_pure (g' := (mkF m 11 #[.val (.ref a), .val (.int (16 : Int32))] [(.ref a)])) (fun _ J _ j => XS.aloadN J hx rfl (hb hby d31) rfl rfl j) ?_
  refine k_pure (g' := (mkF m 12 #[.val (.ref a), .val (.int (16 : Int32))] [(.int (16 : Int32)), (.ref a)])) (fun _ J _ j => XS.iloadN J hx rfl (hb hby d32) rfl j) ?_
  refine k_newP hx (wT 15 rfl) rfl (hb hby d33) rfl (by decide) (cap := 16) (by decide) (by decide) (by decide) (by decide) "[B" (by decide +kernel) ?_
  intro h_6 a_5 k_7 g_8 O_9 E_10 A_11 X_12
  have z_13 := E_10.1
  have lt_14 : @LT.lt Nat _ a_5 (Array.size h_6) := A_11.lt
  have nb_15 : ¬ bk a_5 := fun q => Nat.not_le_of_lt (hbl _ q) (show @LE.le Nat _ (Array.size h0) a_5 by omega)
  show Run p l e _ s m _ below meth c Z EL1 _ n0 bk h_6 1 16 (mkF m 14 #[.val (.ref a), .val (.int (16 : Int32))] [(.ref a_5), (.ref a)]) _
  have F_16 : Fld Z h_6 a "java/lang/AbstractStringBuilder" "value" "[B" .null := (pf_1.ext E_10)
  have F_17 : Exa Z h_6 a "java/lang/StringBuilder" := (pf_0.ext E_10)
  refine k_putF hx (host := "") (Or.inl (wT 42 rfl)) Via.refl F_16 F_17 (Or.inl (wT 43 rfl)) (wT 29 rfl) (ty := (.array .byte)) (by decide) rfl rfl (by omega) nba rfl rfl (hb hby d34) ?_
  intro h_18 O_20 W_19
  have z_21 := W_19.size
  show Run p l e _ s m _ below meth c Z EL1 _ n0 bk h_18 1 16 (mkF m 17 #[.val (.ref a), .val (.int (16 : Int32))] []) _
  refine k_pure (g' := (mkF m 18 #[.val (.ref a), .val (.int (16 : Int32))] [(.ref a)])) (fun _ J _ j => XS.aloadN J hx rfl (hb hby d35) rfl rfl j) ?_
  refine k_pure (g' := (mkF m 19 #[.val (.ref a), .val (.int (16 : Int32))] [(.int (0 : Int32)), (.ref a)])) (fun _ J _ j => XS.iconst J hx rfl (hb hby d36) j) ?_
  have F_22 : Fld Z h_18 a "java/lang/AbstractStringBuilder" "coder" "B" (.int (0 : Int32)) := ((pf_2.ext E_10).other W_19 (Or.inr (RoadKit.slot_ne (C := "java/lang/StringBuilder") (Or.inl (wT 45 rfl)) (Or.inl (wT 43 rfl)) (by decide) (t := .byte) (t' := (.array .byte)) (by decide) (by decide))))
  have F_23 : Exa Z h_18 a "java/lang/StringBuilder" := (F_17.wr W_19)
  refine k_putF hx (host := "") (Or.inl (wT 44 rfl)) Via.refl F_22 F_23 (Or.inl (wT 45 rfl)) (wT 29 rfl) (ty := .byte) (by decide) rfl rfl (by omega) nba rfl rfl (hb hby d37) ?_
  intro h_24 O_26 W_25
  have z_27 := W_25.size
  show Run p l e _ s m _ below meth c Z EL1 _ n0 bk h_24 1 16 (mkF m 22 #[.val (.ref a), .val (.int (16 : Int32))] []) _
  refine k_pure (g' := (mkF m 38 #[.val (.ref a), .val (.int (16 : Int32))] [])) (fun _ J _ j => XS.goto J hx rfl (pc0 := 22) (pc' := 38) rfl (hb hby d38) (by decide) (by decide) j) ?_
  have F_28 : Exa Z h_24 a "java/lang/StringBuilder" := (F_23.wr W_25)
  have F_29 : Fld Z h_24 a "java/lang/AbstractStringBuilder" "value" "[B" (.ref a_5) := ((F_16.same W_19).other W_25 (Or.inr (RoadKit.slot_ne (C := "java/lang/StringBuilder") (Or.inl (wT 43 rfl)) (Or.inl (wT 45 rfl)) (by decide) (t := (.array .byte)) (t' := .byte) (by decide) (by decide))))
  have F_30 : Fld Z h_24 a "java/lang/AbstractStringBuilder" "count" "I" (.int (0 : Int32)) := (((pf_3.ext E_10).other W_19 (Or.inr (RoadKit.slot_ne (C := "java/lang/StringBuilder") (Or.inl (wT 69 rfl)) (Or.inl (wT 43 rfl)) (by decide) (t := .int) (t' := (.array .byte)) (by decide) (by decide)))).other W_25 (Or.inr (RoadKit.slot_ne (C := "java/lang/StringBuilder") (Or.inl (wT 69 rfl)) (Or.inl (wT 45 rfl)) (by decide) (t := .int) (t' := .byte) (by decide) (by decide))))
  have F_31 : Arv Z h_24 a_5 k_7 .byte (16 : Int32) [] (.int (0 : Int32)) := ((A_11.other W_19 (ne_ad (by omega))).other W_25 (ne_ad (by omega)))
  have F_32 : Exa Z h_24 a_5 "[B" := ((X_12.wr W_19).wr W_25)
  exact k_ret0 hx hlk hret (hb hby d39) (by decide) (by decide) ⟨a_5, k_7, rfl, rfl, ((((Keep.refl _ _).ext E_10).wr W_19 (Or.inl (by simp))).wr W_25 (Or.inl (by simp))), ⟨F_28, (F_22.same W_25), F_29, F_30, F_31, (fun _ q => nomatch q), by decide, by decide, (show @Ne Nat _ _ by omega)⟩, F_32, (by omega), nb_15⟩
def Q_sbi (Z : State) (G1 : Int32) (G3 : Value) (us ss : Addr) (a : Addr) (h0 : Heap) (n0 : Nat) (bk : Addr → Prop) (v : Option Value) (h : Heap) (bk' : Addr → Prop) : Prop := ∃ (t : Addr), ∃ (kb : ClassId), v = none ∧ bk = bk' ∧ Keep h0 h [a] ∧ (SbL Z h a t kb 16 ([] : List Int32)) ∧ (Exa Z h t "[B") ∧ (@LE.le Nat _ (Array.size h0) t) ∧ (¬ bk' t)
theorem d40 : decode jdk_67_method_1_code 0 = .ok (.aload_n 0, 1) := by decide +kernel
theorem d41 : decode jdk_67_method_1_code 1 = .ok (.bipush 16, 2) := by decide +kernel
theorem d42 : decode jdk_67_method_1_code 3 = .ok (.invokespecial 1, 3) := by decide +kernel
theorem pd__28_I_29_V : parseMethodDescriptor "(I)V" = some ⟨[.int], none⟩ := by decide +kernel
theorem d43 : decode jdk_67_method_1_code 6 = .ok (.return_, 1) := by decide +kernel
abbrev RM_sbi : Room := { frames := 2, cells := 1, slots := 16, locals := 25 }
theorem ef_sbi (m : MethodId) (x0 : Addr) : entryFrame m #[(.ref x0)] 1 = mkF m 0 #[.val (.ref x0)] [] := by first | (simp [entryFrame, mkF, argsToLocals, Value.category]; done) | rfl
set_option maxRecDepth 65536 in
set_option maxHeartbeats 40000000 in
theorem rm_sbi (l : Launch) (Z : State) (a0 : Array Value) (G1 : Int32) (G3 : Value) (us ss : Addr) (hX : Ctx Z a0 G1 G3) (hY : More Z us ss) (n0 : Nat) (bk : Addr → Prop) (h0 : Heap) (O0 : Old Z n0 h0) (a : Addr) (pf_0 : Exa Z h0 a "java/lang/StringBuilder") (pf_1 : Fld Z h0 a "java/lang/AbstractStringBuilder" "value" "[B" .null) (pf_2 : Fld Z h0 a "java/lang/AbstractStringBuilder" "coder" "B" (.int (0 : Int32))) (pf_3 : Fld Z h0 a "java/lang/AbstractStringBuilder" "count" "I" (.int (0 : Int32))) (hbl : ∀ y, bk y → @LT.lt Nat _ y (Array.size h0)) (nba : ¬ bk a) (ga : n0 ≤ a) (ws : List Jvm.Cond) : Met l Z EL1 n0 bk (⟨"java/lang/StringBuilder", "<init>", "()V"⟩ : MethodName) jdk_67_method_1_code 1 (Option.none : Option FieldType) RM_sbi #[(.ref a)] h0 (Q_sbi Z G1 G3 us ss a h0 n0 bk) ws := by
  have hX' := hX
  obtain ⟨hw, hE, S1, P1, S3, P3⟩ := hX'
  have hY' := hY
  obtain ⟨s_us, s_ss⟩ := hY'
  have hSA := sa_of hw
  have wT : ∀ (i : Nat) {d : Jvm.Cond}, tables_1[i]? = some d → d.before a0 Z = true := fun i d h => hw d (List.mem_of_getElem? h)
  have z0 : n0 ≤ h0.size := by rw [← O0.1]; exact O0.2.1
  refine Met.of (by decide +kernel) O0 hE ?_
  intro p e s m below meth c hx hby hml hret hlk hnm
  refine k_cast (ef_sbi m a) ?_
  show Run p l e _ s m _ below meth c Z EL1 _ n0 bk h0 0 0 (mkF m 0 #[.val (.ref a)] []) _
  have lt_1 : @LT.lt Nat _ a (Array.size h0) := pf_0.lt
  have lt_2 : @LT.lt Nat _ a (Array.size h0) := pf_1.lt
  have lt_3 : @LT.lt Nat _ a (Array.size h0) := pf_2.lt
  have lt_4 : @LT.lt Nat _ a (Array.size h0) := pf_3.lt
  refine k_pure (g' := (mkF m 1 #[.val (.ref a)] [(.ref a)])) (fun _ J _ j => XS.aloadN J hx rfl (hb hby d40) rfl rfl j) ?_
  refine k_pure (g' := (mkF m 3 #[.val (.ref a)] [(.int (16 : Int32)), (.ref a)])) (fun _ J _ j => XS.bipush J hx rfl (hb hby d41) j) ?_
  refine k_callI hx (y := (⟨"java/lang/AbstractStringBuilder", "<init>", "(I)V"⟩ : MethodName)) rfl (wT 34 rfl) (wT 35 rfl) (wT 39 rfl) (by decide) (W := 0) (a := a) (argsL := [(.int (16 : Int32))]) (rest := []) (Pays.of_met (rm_asi l Z a0 G1 G3 us ss hX hY n0 bk h0 O0 a pf_0 pf_1 pf_2 pf_3 hbl nba (by omega) []) (wT 39 rfl) (wT 38 rfl) (by decide) (by decide)) rfl (by rw [hml]; rfl) (lenOf pd__28_I_29_V rfl) rfl (by show 2 * 0 + _ ≤ _; exact Nat.le_of_eq rfl) (hb hby d42) (by decide) (by decide) ?_
  intro v_5 h_6 bk_7 O_8 z_9 Q_10
  obtain ⟨a_11, k_12, rfl, rfl, K_13, F_14, F_15, P_16, P_17⟩ := Q_10
  have ne_18 : @Ne Nat a a_11 := F_14.2.2.2.2.2.2.2.2
  have lt_19 : @LT.lt Nat _ a (Array.size h_6) := F_14.lt1
  have lt_20 : @LT.lt Nat _ a_11 (Array.size h_6) := F_14.lt2
  have lt_21 : @LT.lt Nat _ a_11 (Array.size h_6) := F_15.lt
  show Run p l e _ s m _ below meth c Z EL1 _ n0 bk h_6 1 16 (mkF m 6 #[.val (.ref a)] []) _
  exact k_ret0 hx hlk hret (hb hby d43) (by decide) (by decide) ⟨a_11, k_12, rfl, rfl, ((Keep.refl _ _).trans K_13 (kkS (Or.inl (by simp)) kk0)), F_14, F_15, (by omega), P_17⟩
def Q_maxg (Z : State) (G1 : Int32) (G3 : Value) (us ss : Addr) (u : Int32) (w : Int32) (h0 : Heap) (n0 : Nat) (bk : Addr → Prop) (v : Option Value) (h : Heap) (bk' : Addr → Prop) : Prop := ∃ (r : Int32), v = some (.int r) ∧ h0 = h ∧ bk = bk' ∧ (u.toInt ≤ r.toInt ∧ w.toInt ≤ r.toInt ∧ (r.toInt = u.toInt ∨ r.toInt = w.toInt))
theorem d44 : decode jdk_29_method_65_code 0 = .ok (.iload_n 0, 1) := by decide +kernel
theorem d45 : decode jdk_29_method_65_code 1 = .ok (.iload_n 1, 1) := by decide +kernel
theorem d46 : decode jdk_29_method_65_code 2 = .ok (.if_icmp .lt 7, 3) := by decide +kernel
theorem d47 : decode jdk_29_method_65_code 9 = .ok (.iload_n 1, 1) := by decide +kernel
theorem d48 : decode jdk_29_method_65_code 10 = .ok (.ireturn, 1) := by decide +kernel
theorem d49 : decode jdk_29_method_65_code 5 = .ok (.iload_n 0, 1) := by decide +kernel
theorem d50 : decode jdk_29_method_65_code 6 = .ok (.goto 4, 3) := by decide +kernel
abbrev RM_maxg : Room := { frames := 0, cells := 0, slots := 0, locals := 0 }
theorem ef_maxg (m : MethodId) (x0 : Int32) (x1 : Int32) : entryFrame m #[(.int x0), (.int x1)] 2 = mkF m 0 #[.val (.int x0), .val (.int x1)] [] := by first | (simp [entryFrame, mkF, argsToLocals, Value.category]; done) | rfl
set_option maxRecDepth 65536 in
set_option maxHeartbeats 40000000 in
theorem rm_maxg (l : Launch) (Z : State) (a0 : Array Value) (G1 : Int32) (G3 : Value) (us ss : Addr) (hX : Ctx Z a0 G1 G3) (hY : More Z us ss) (n0 : Nat) (bk : Addr → Prop) (h0 : Heap) (O0 : Old Z n0 h0) (u : Int32) (w : Int32)  (ws : List Jvm.Cond) : Met l Z EL1 n0 bk (⟨"java/lang/Math", "max", "(II)I"⟩ : MethodName) jdk_29_method_65_code 2 (Option.some FieldType.int) RM_maxg #[(.int u), (.int w)] h0 (Q_maxg Z G1 G3 us ss u w h0 n0 bk) ws := by
  have hX' := hX
  obtain ⟨hw, hE, S1, P1, S3, P3⟩ := hX'
  have hY' := hY
  obtain ⟨s_us, s_ss⟩ := hY'
  have hSA := sa_of hw
  have wT : ∀ (i : Nat) {d : Jvm.Cond}, tables_1[i]? = some d → d.before a0 Z = true := fun i d h => hw d (List.mem_of_getElem? h)
  have z0 : n0 ≤ h0.size := by rw [← O0.1]; exact O0.2.1
  refine Met.of (by decide +kernel) O0 hE ?_
  intro p e s m below meth c hx hby hml hret hlk hnm
  refine k_cast (ef_maxg m u w) ?_
  show Run p l e _ s m _ below meth c Z EL1 _ n0 bk h0 0 0 (mkF m 0 #[.val (.int u), .val (.int w)] []) _
  refine k_pure (g' := (mkF m 1 #[.val (.int u), .val (.int w)] [(.int u)])) (fun _ J _ j => XS.iloadN J hx rfl (hb hby d44) rfl j) ?_
  refine k_pure (g' := (mkF m 2 #[.val (.int u), .val (.int w)] [(.int w), (.int u)])) (fun _ J _ j => XS.iloadN J hx rfl (hb hby d45) rfl j) ?_
  by_cases c_1 : u < w
  · refine k_pure (g' := (mkF m 9 #[.val (.int u), .val (.int w)] [])) (fun _ J _ j => XS.icmpYes J hx rfl (pc0 := 2) (pc' := 9) rfl (hb hby d46) rfl (tlt c_1).1 (by decide) (by decide) j) ?_
    refine k_pure (g' := (mkF m 10 #[.val (.int u), .val (.int w)] [(.int w)])) (fun _ J _ j => XS.iloadN J hx rfl (hb hby d47) rfl j) ?_
    exact k_retI hx hlk hret (hb hby d48) (by decide) (by decide) ⟨_, rfl, rfl, rfl, (by have r0 := rng32 u; have r1 := rng32 w; have r2 := (Int32.lt_iff_toInt_lt.mp c_1); omega)⟩
  · refine k_pure (g' := (mkF m 5 #[.val (.int u), .val (.int w)] [])) (fun _ J _ j => XS.icmpNo J hx rfl (hb hby d46) rfl (flt c_1).1 j) ?_
    refine k_pure (g' := (mkF m 6 #[.val (.int u), .val (.int w)] [(.int u)])) (fun _ J _ j => XS.iloadN J hx rfl (hb hby d49) rfl j) ?_
    refine k_pure (g' := (mkF m 10 #[.val (.int u), .val (.int w)] [(.int u)])) (fun _ J _ j => XS.goto J hx rfl (pc0 := 6) (pc' := 10) rfl (hb hby d50) (by decide) (by decide) j) ?_
    exact k_retI hx hlk hret (hb hby d48) (by decide) (by decide) ⟨_, rfl, rfl, rfl, (by have r0 := rng32 u; have r1 := rng32 w; have r2 : ¬ (u).toInt < (w).toInt := fun q => c_1 (Int32.lt_iff_toInt_lt.mpr q); omega)⟩
def Q_min0 (Z : State) (G1 : Int32) (G3 : Value) (us ss : Addr) (u : Int32) (w : Int32) (h0 : Heap) (n0 : Nat) (bk : Addr → Prop) (v : Option Value) (h : Heap) (bk' : Addr → Prop) : Prop := v = some (.int u) ∧ h0 = h ∧ bk = bk'
theorem d51 : decode jdk_29_method_69_code 0 = .ok (.iload_n 0, 1) := by decide +kernel
theorem d52 : decode jdk_29_method_69_code 1 = .ok (.iload_n 1, 1) := by decide +kernel
theorem d53 : decode jdk_29_method_69_code 2 = .ok (.if_icmp .gt 7, 3) := by decide +kernel
theorem d54 : decode jdk_29_method_69_code 5 = .ok (.iload_n 0, 1) := by decide +kernel
theorem d55 : decode jdk_29_method_69_code 6 = .ok (.goto 4, 3) := by decide +kernel
theorem d56 : decode jdk_29_method_69_code 10 = .ok (.ireturn, 1) := by decide +kernel
abbrev RM_min0 : Room := { frames := 0, cells := 0, slots := 0, locals := 0 }
theorem ef_min0 (m : MethodId) (x0 : Int32) (x1 : Int32) : entryFrame m #[(.int x0), (.int x1)] 2 = mkF m 0 #[.val (.int x0), .val (.int x1)] [] := by first | (simp [entryFrame, mkF, argsToLocals, Value.category]; done) | rfl
set_option maxRecDepth 65536 in
set_option maxHeartbeats 40000000 in
theorem rm_min0 (l : Launch) (Z : State) (a0 : Array Value) (G1 : Int32) (G3 : Value) (us ss : Addr) (hX : Ctx Z a0 G1 G3) (hY : More Z us ss) (n0 : Nat) (bk : Addr → Prop) (h0 : Heap) (O0 : Old Z n0 h0) (u : Int32) (w : Int32) (h : ¬ w < u) (ws : List Jvm.Cond) : Met l Z EL1 n0 bk (⟨"java/lang/Math", "min", "(II)I"⟩ : MethodName) jdk_29_method_69_code 2 (Option.some FieldType.int) RM_min0 #[(.int u), (.int w)] h0 (Q_min0 Z G1 G3 us ss u w h0 n0 bk) ws := by
  have hX' := hX
  obtain ⟨hw, hE, S1, P1, S3, P3⟩ := hX'
  have hY' := hY
  obtain ⟨s_us, s_ss⟩ := hY'
  have hSA := sa_of hw
  have wT : ∀ (i : Nat) {d : Jvm.Cond}, tables_1[i]? = some d → d.before a0 Z = true := fun i d h => hw d (List.mem_of_getElem? h)
  have z0 : n0 ≤ h0.size := by rw [← O0.1]; exact O0.2.1
  refine Met.of (by decide +kernel) O0 hE ?_
  intro p e s m below meth c hx hby hml hret hlk hnm
  refine k_cast (ef_min0 m u w) ?_
  show Run p l e _ s m _ below meth c Z EL1 _ n0 bk h0 0 0 (mkF m 0 #[.val (.int u), .val (.int w)] []) _
  refine k_pure (g' := (mkF m 1 #[.val (.int u), .val (.int w)] [(.int u)])) (fun _ J _ j => XS.iloadN J hx rfl (hb hby d51) rfl j) ?_
  refine k_pure (g' := (mkF m 2 #[.val (.int u), .val (.int w)] [(.int w), (.int u)])) (fun _ J _ j => XS.iloadN J hx rfl (hb hby d52) rfl j) ?_
  refine k_pure (g' := (mkF m 5 #[.val (.int u), .val (.int w)] [])) (fun _ J _ j => XS.icmpNo J hx rfl (hb hby d53) rfl (flt h).2.2.1 j) ?_
  refine k_pure (g' := (mkF m 6 #[.val (.int u), .val (.int w)] [(.int u)])) (fun _ J _ j => XS.iloadN J hx rfl (hb hby d54) rfl j) ?_
  refine k_pure (g' := (mkF m 10 #[.val (.int u), .val (.int w)] [(.int u)])) (fun _ J _ j => XS.goto J hx rfl (pc0 := 6) (pc' := 10) rfl (hb hby d55) (by decide) (by decide) j) ?_
  exact k_retI hx hlk hret (hb hby d56) (by decide) (by decide) ⟨rfl, rfl, rfl⟩
def Q_min1 (Z : State) (G1 : Int32) (G3 : Value) (us ss : Addr) (u : Int32) (w : Int32) (h0 : Heap) (n0 : Nat) (bk : Addr → Prop) (v : Option Value) (h : Heap) (bk' : Addr → Prop) : Prop := v = some (.int w) ∧ h0 = h ∧ bk = bk'
theorem d57 : decode jdk_29_method_69_code 9 = .ok (.iload_n 1, 1) := by decide +kernel
abbrev RM_min1 : Room := { frames := 0, cells := 0, slots := 0, locals := 0 }
theorem ef_min1 (m : MethodId) (x0 : Int32) (x1 : Int32) : entryFrame m #[(.int x0), (.int x1)] 2 = mkF m 0 #[.val (.int x0), .val (.int x1)] [] := by first | (simp [entryFrame, mkF, argsToLocals, Value.category]; done) | rfl
set_option maxRecDepth 65536 in
set_option maxHeartbeats 40000000 in
theorem rm_min1 (l : Launch) (Z : State) (a0 : Array Value) (G1 : Int32) (G3 : Value) (us ss : Addr) (hX : Ctx Z a0 G1 G3) (hY : More Z us ss) (n0 : Nat) (bk : Addr → Prop) (h0 : Heap) (O0 : Old Z n0 h0) (u : Int32) (w : Int32) (h : w < u) (ws : List Jvm.Cond) : Met l Z EL1 n0 bk (⟨"java/lang/Math", "min", "(II)I"⟩ : MethodName) jdk_29_method_69_code 2 (Option.some FieldType.int) RM_min1 #[(.int u), (.int w)] h0 (Q_min1 Z G1 G3 us ss u w h0 n0 bk) ws := by
  have hX' := hX
  obtain ⟨hw, hE, S1, P1, S3, P3⟩ := hX'
  have hY' := hY
  obtain ⟨s_us, s_ss⟩ := hY'
  have hSA := sa_of hw
  have wT : ∀ (i : Nat) {d : Jvm.Cond}, tables_1[i]? = some d → d.before a0 Z = true := fun i d h => hw d (List.mem_of_getElem? h)
  have z0 : n0 ≤ h0.size := by rw [← O0.1]; exact O0.2.1
  refine Met.of (by decide +kernel) O0 hE ?_
  intro p e s m below meth c hx hby hml hret hlk hnm
  refine k_cast (ef_min1 m u w) ?_
  show Run p l e _ s m _ below meth c Z EL1 _ n0 bk h0 0 0 (mkF m 0 #[.val (.int u), .val (.int w)] []) _
  refine k_pure (g' := (mkF m 1 #[.val (.int u), .val (.int w)] [(.int u)])) (fun _ J _ j => XS.iloadN J hx rfl (hb hby d51) rfl j) ?_
  refine k_pure (g' := (mkF m 2 #[.val (.int u), .val (.int w)] [(.int w), (.int u)])) (fun _ J _ j => XS.iloadN J hx rfl (hb hby d52) rfl j) ?_
  refine k_pure (g' := (mkF m 9 #[.val (.int u), .val (.int w)] [])) (fun _ J _ j => XS.icmpYes J hx rfl (pc0 := 2) (pc' := 9) rfl (hb hby d53) rfl (tlt h).2.2.1 (by decide) (by decide) j) ?_
  refine k_pure (g' := (mkF m 10 #[.val (.int u), .val (.int w)] [(.int w)])) (fun _ J _ j => XS.iloadN J hx rfl (hb hby d57) rfl j) ?_
  exact k_retI hx hlk hret (hb hby d56) (by decide) (by decide) ⟨rfl, rfl, rfl⟩
def Q_nle (Z : State) (G1 : Int32) (G3 : Value) (us ss : Addr) (u : Int32) (va : Int32) (wa : Int32) (h0 : Heap) (n0 : Nat) (bk : Addr → Prop) (v : Option Value) (h : Heap) (bk' : Addr → Prop) : Prop := ∃ (r : Int32), v = some (.int r) ∧ h0 = h ∧ bk = bk' ∧ (u.toInt + va.toInt ≤ r.toInt ∧ u.toInt + wa.toInt ≤ r.toInt ∧ r.toInt ≤ u.toInt + va.toInt + wa.toInt ∧ (r.toInt = u.toInt + va.toInt ∨ r.toInt = u.toInt + wa.toInt))
theorem d58 : decode jdk_48_method_27_code 0 = .ok (.iload_n 0, 1) := by decide +kernel
theorem d59 : decode jdk_48_method_27_code 1 = .ok (.iload_n 1, 1) := by decide +kernel
theorem d60 : decode jdk_48_method_27_code 2 = .ok (.iload_n 2, 1) := by decide +kernel
theorem d61 : decode jdk_48_method_27_code 3 = .ok (.invokestatic 194, 3) := by decide +kernel
theorem pd__28_II_29_I : parseMethodDescriptor "(II)I" = some ⟨[.int, .int], some .int⟩ := by decide +kernel
theorem d62 : decode jdk_48_method_27_code 6 = .ok (.iadd, 1) := by decide +kernel
theorem d63 : decode jdk_48_method_27_code 7 = .ok (.istore_n 3, 1) := by decide +kernel
theorem d64 : decode jdk_48_method_27_code 8 = .ok (.iconst 0, 1) := by decide +kernel
theorem d65 : decode jdk_48_method_27_code 9 = .ok (.iload_n 3, 1) := by decide +kernel
theorem d66 : decode jdk_48_method_27_code 10 = .ok (.if_icmp .ge 11, 3) := by decide +kernel
theorem d67 : decode jdk_48_method_27_code 13 = .ok (.iload_n 3, 1) := by decide +kernel
theorem d68 : decode jdk_48_method_27_code 14 = .ok (.ldc 200, 2) := by decide +kernel
theorem d69 : decode jdk_48_method_27_code 16 = .ok (.if_icmp .gt 5, 3) := by decide +kernel
theorem d70 : decode jdk_48_method_27_code 19 = .ok (.iload_n 3, 1) := by decide +kernel
theorem d71 : decode jdk_48_method_27_code 20 = .ok (.ireturn, 1) := by decide +kernel
abbrev RM_nle : Room := { frames := 1, cells := 0, slots := 0, locals := 14 }
theorem ef_nle (m : MethodId) (x0 : Int32) (x1 : Int32) (x2 : Int32) : entryFrame m #[(.int x0), (.int x1), (.int x2)] 4 = mkF m 0 #[.val (.int x0), .val (.int x1), .val (.int x2), .unset] [] := by first | (simp [entryFrame, mkF, argsToLocals, Value.category]; done) | rfl
set_option maxRecDepth 65536 in
set_option maxHeartbeats 40000000 in
theorem rm_nle (l : Launch) (Z : State) (a0 : Array Value) (G1 : Int32) (G3 : Value) (us ss : Addr) (hX : Ctx Z a0 G1 G3) (hY : More Z us ss) (n0 : Nat) (bk : Addr → Prop) (h0 : Heap) (O0 : Old Z n0 h0) (u : Int32) (va : Int32) (wa : Int32) (h1 : 0 ≤ u.toInt ∧ u.toInt ≤ 1000) (h2 : 0 < va.toInt ∧ va.toInt ≤ 1000) (h3 : 0 ≤ wa.toInt ∧ wa.toInt ≤ 3000) (ws : List Jvm.Cond) : Met l Z EL1 n0 bk (⟨"jdk/internal/util/ArraysSupport", "newLength", "(III)I"⟩ : MethodName) jdk_48_method_27_code 4 (Option.some FieldType.int) RM_nle #[(.int u), (.int va), (.int wa)] h0 (Q_nle Z G1 G3 us ss u va wa h0 n0 bk) ws := by
  have hX' := hX
  obtain ⟨hw, hE, S1, P1, S3, P3⟩ := hX'
  have hY' := hY
  obtain ⟨s_us, s_ss⟩ := hY'
  have hSA := sa_of hw
  have wT : ∀ (i : Nat) {d : Jvm.Cond}, tables_1[i]? = some d → d.before a0 Z = true := fun i d h => hw d (List.mem_of_getElem? h)
  have z0 : n0 ≤ h0.size := by rw [← O0.1]; exact O0.2.1
  refine Met.of (by decide +kernel) O0 hE ?_
  intro p e s m below meth c hx hby hml hret hlk hnm
  refine k_cast (ef_nle m u va wa) ?_
  show Run p l e _ s m _ below meth c Z EL1 _ n0 bk h0 0 0 (mkF m 0 #[.val (.int u), .val (.int va), .val (.int wa), .unset] []) _
  refine k_pure (g' := (mkF m 1 #[.val (.int u), .val (.int va), .val (.int wa), .unset] [(.int u)])) (fun _ J _ j => XS.iloadN J hx rfl (hb hby d58) rfl j) ?_
  refine k_pure (g' := (mkF m 2 #[.val (.int u), .val (.int va), .val (.int wa), .unset] [(.int va), (.int u)])) (fun _ J _ j => XS.iloadN J hx rfl (hb hby d59) rfl j) ?_
  refine k_pure (g' := (mkF m 3 #[.val (.int u), .val (.int va), .val (.int wa), .unset] [(.int wa), (.int va), (.int u)])) (fun _ J _ j => XS.iloadN J hx rfl (hb hby d60) rfl j) ?_
  refine k_callS hx (y := (⟨"java/lang/Math", "max", "(II)I"⟩ : MethodName)) (wT 84 rfl) (wT 85 rfl) (wT 86 rfl) (wT 87 rfl) (by decide) (W := 1) (argsL := [(.int va), (.int wa)]) (rest := [(.int u)]) (Pays.of_met (rm_maxg l Z a0 G1 G3 us ss hX hY n0 bk h0 O0 va wa  []) (wT 87 rfl) (wT 86 rfl) (by decide) (by decide)) rfl (by rw [hml]; rfl) (lenOf pd__28_II_29_I rfl) rfl (by show 2 * 0 + _ ≤ _; exact Nat.le_of_eq rfl) (hb hby d61) (by decide) (by decide) ?_
  intro v_1 h_2 bk_3 O_4 z_5 Q_6
  obtain ⟨i_7, rfl, rfl, rfl, P_8⟩ := Q_6
  show Run p l e _ s m _ below meth c Z EL1 _ n0 bk h0 0 0 (mkF m 6 #[.val (.int u), .val (.int va), .val (.int wa), .unset] [(.int i_7), (.int u)]) _
  refine k_pure (g' := (mkF m 7 #[.val (.int u), .val (.int va), .val (.int wa), .unset] [(.int (u + i_7))])) (fun _ J _ j => XS.iadd J hx rfl (hb hby d62) rfl j) ?_
  refine k_pure (g' := (mkF m 8 #[.val (.int u), .val (.int va), .val (.int wa), .val (.int (u + i_7))] [])) (fun _ J _ j => XS.istoreN J hx rfl (hb hby d63) rfl (l' := #[.val (.int u), .val (.int va), .val (.int wa), .val (.int (u + i_7))]) rfl j) ?_
  refine k_pure (g' := (mkF m 9 #[.val (.int u), .val (.int va), .val (.int wa), .val (.int (u + i_7))] [(.int (0 : Int32))])) (fun _ J _ j => XS.iconst J hx rfl (hb hby d64) j) ?_
  refine k_pure (g' := (mkF m 10 #[.val (.int u), .val (.int va), .val (.int wa), .val (.int (u + i_7))] [(.int (u + i_7)), (.int (0 : Int32))])) (fun _ J _ j => XS.iloadN J hx rfl (hb hby d65) rfl j) ?_
  refine k_pure (g' := (mkF m 13 #[.val (.int u), .val (.int va), .val (.int wa), .val (.int (u + i_7))] [])) (fun _ J _ j => XS.icmpNo J hx rfl (hb hby d66) rfl (tlt (by have r0 : (0 : Int32).toInt = 0 := (by decide); have r1 := rng32 u; have r2 := rng32 i_7; have r3 := c_iadd u i_7; have r4 := rng32 (u + i_7); have r5 := h1.1; have r6 := h1.2; have r7 := h2.1; have r8 := h2.2; have r9 := h3.1; have r10 := h3.2; have r11 := P_8.1; have r12 := P_8.2.1; have r13 := P_8.2.2; rw [Int32.lt_iff_toInt_lt]; omega)).2.1 j) ?_
  refine k_pure (g' := (mkF m 14 #[.val (.int u), .val (.int va), .val (.int wa), .val (.int (u + i_7))] [(.int (u + i_7))])) (fun _ J _ j => XS.iloadN J hx rfl (hb hby d67) rfl j) ?_
  refine k_ldcI hx (wT 88 rfl) rfl (hb hby d68) ?_
  show Run p l e _ s m _ below meth c Z EL1 _ n0 bk h0 0 0 (mkF m 16 #[.val (.int u), .val (.int va), .val (.int wa), .val (.int (u + i_7))] [(.int (2147483639 : Int32)), (.int (u + i_7))]) _
  refine k_pure (g' := (mkF m 19 #[.val (.int u), .val (.int va), .val (.int wa), .val (.int (u + i_7))] [])) (fun _ J _ j => XS.icmpNo J hx rfl (hb hby d69) rfl (flt (by have r0 : (2147483639 : Int32).toInt = 2147483639 := (by decide); have r1 := rng32 u; have r2 := rng32 i_7; have r3 := c_iadd u i_7; have r4 := rng32 (u + i_7); have r5 := h1.1; have r6 := h1.2; have r7 := h2.1; have r8 := h2.2; have r9 := h3.1; have r10 := h3.2; have r11 := P_8.1; have r12 := P_8.2.1; have r13 := P_8.2.2; rw [Int32.lt_iff_toInt_lt]; omega)).2.2.1 j) ?_
  refine k_pure (g' := (mkF m 20 #[.val (.int u), .val (.int va), .val (.int wa), .val (.int (u + i_7))] [(.int (u + i_7))])) (fun _ J _ j => XS.iloadN J hx rfl (hb hby d70) rfl j) ?_
  exact k_retI hx hlk hret (hb hby d71) (by decide) (by decide) ⟨_, rfl, rfl, rfl, (by have r0 := rng32 u; have r1 := rng32 i_7; have r2 := c_iadd u i_7; have r3 := rng32 (u + i_7); have r4 := h1.1; have r5 := h1.2; have r6 := h2.1; have r7 := h2.2; have r8 := h3.1; have r9 := h3.2; have r10 := P_8.1; have r11 := P_8.2.1; have r12 := P_8.2.2; omega)⟩
def Q_nca (Z : State) (G1 : Int32) (G3 : Value) (us ss : Addr) (a : Addr) (t : Addr) (kb : ClassId) (N : Nat) (cs : List Int32) (k : Nat) (h0 : Heap) (n0 : Nat) (bk : Addr → Prop) (v : Option Value) (h : Heap) (bk' : Addr → Prop) : Prop := ∃ (M : Nat), v = some (.int (Int32.ofNat M)) ∧ h0 = h ∧ bk = bk' ∧ (k ≤ M ∧ 2 * N + 2 ≤ M ∧ M ≤ k + N + 2 ∧ (M = k ∨ M = 2 * N + 2))
theorem d72 : decode jdk_68_method_10_code 0 = .ok (.aload_n 0, 1) := by decide +kernel
theorem d73 : decode jdk_68_method_10_code 1 = .ok (.getfield 15, 3) := by decide +kernel
theorem d74 : decode jdk_68_method_10_code 4 = .ok (.arraylength, 1) := by decide +kernel
theorem d75 : decode jdk_68_method_10_code 5 = .ok (.istore_n 2, 1) := by decide +kernel
theorem d76 : decode jdk_68_method_10_code 6 = .ok (.iload_n 1, 1) := by decide +kernel
theorem d77 : decode jdk_68_method_10_code 7 = .ok (.aload_n 0, 1) := by decide +kernel
theorem d78 : decode jdk_68_method_10_code 8 = .ok (.getfield 22, 3) := by decide +kernel
theorem d79 : decode jdk_68_method_10_code 11 = .ok (.ishl, 1) := by decide +kernel
theorem d80 : decode jdk_68_method_10_code 12 = .ok (.istore_n 3, 1) := by decide +kernel
theorem d81 : decode jdk_68_method_10_code 13 = .ok (.iload_n 3, 1) := by decide +kernel
theorem d82 : decode jdk_68_method_10_code 14 = .ok (.iload_n 2, 1) := by decide +kernel
theorem d83 : decode jdk_68_method_10_code 15 = .ok (.isub, 1) := by decide +kernel
theorem d84 : decode jdk_68_method_10_code 16 = .ok (.istore 4, 2) := by decide +kernel
theorem d85 : decode jdk_68_method_10_code 18 = .ok (.iload_n 2, 1) := by decide +kernel
theorem d86 : decode jdk_68_method_10_code 19 = .ok (.iload 4, 2) := by decide +kernel
theorem d87 : decode jdk_68_method_10_code 21 = .ok (.iload_n 2, 1) := by decide +kernel
theorem d88 : decode jdk_68_method_10_code 22 = .ok (.iconst 2, 1) := by decide +kernel
theorem d89 : decode jdk_68_method_10_code 23 = .ok (.aload_n 0, 1) := by decide +kernel
theorem d90 : decode jdk_68_method_10_code 24 = .ok (.getfield 22, 3) := by decide +kernel
theorem d91 : decode jdk_68_method_10_code 27 = .ok (.ishl, 1) := by decide +kernel
theorem d92 : decode jdk_68_method_10_code 28 = .ok (.iadd, 1) := by decide +kernel
theorem d93 : decode jdk_68_method_10_code 29 = .ok (.invokestatic 114, 3) := by decide +kernel
theorem pd__28_III_29_I : parseMethodDescriptor "(III)I" = some ⟨[.int, .int, .int], some .int⟩ := by decide +kernel
theorem d94 : decode jdk_68_method_10_code 32 = .ok (.istore 5, 2) := by decide +kernel
theorem d95 : decode jdk_68_method_10_code 34 = .ok (.iload 5, 2) := by decide +kernel
theorem d96 : decode jdk_68_method_10_code 36 = .ok (.ldc 39, 2) := by decide +kernel
theorem d97 : decode jdk_68_method_10_code 38 = .ok (.if_icmp .ne 13, 3) := by decide +kernel
theorem d98 : decode jdk_68_method_10_code 51 = .ok (.iload 5, 2) := by decide +kernel
theorem d99 : decode jdk_68_method_10_code 53 = .ok (.aload_n 0, 1) := by decide +kernel
theorem d100 : decode jdk_68_method_10_code 54 = .ok (.getfield 22, 3) := by decide +kernel
theorem d101 : decode jdk_68_method_10_code 57 = .ok (.ishr, 1) := by decide +kernel
theorem d102 : decode jdk_68_method_10_code 58 = .ok (.ireturn, 1) := by decide +kernel
abbrev RM_nca : Room := { frames := 2, cells := 0, slots := 0, locals := 29 }
theorem ef_nca (m : MethodId) (x0 : Addr) (x1 : Int32) : entryFrame m #[(.ref x0), (.int x1)] 6 = mkF m 0 #[.val (.ref x0), .val (.int x1), .unset, .unset, .unset, .unset] [] := by first | (simp [entryFrame, mkF, argsToLocals, Value.category]; done) | rfl
set_option maxRecDepth 65536 in
set_option maxHeartbeats 40000000 in
theorem rm_nca (l : Launch) (Z : State) (a0 : Array Value) (G1 : Int32) (G3 : Value) (us ss : Addr) (hX : Ctx Z a0 G1 G3) (hY : More Z us ss) (n0 : Nat) (bk : Addr → Prop) (h0 : Heap) (O0 : Old Z n0 h0) (a : Addr) (t : Addr) (kb : ClassId) (N : Nat) (cs : List Int32) (k : Nat) (pf_0 : SbL Z h0 a t kb N cs) (h1 : N < k) (h2 : k ≤ 1000) (ws : List Jvm.Cond) : Met l Z EL1 n0 bk (⟨"java/lang/AbstractStringBuilder", "newCapacity", "(I)I"⟩ : MethodName) jdk_68_method_10_code 6 (Option.some FieldType.int) RM_nca #[(.ref a), (.int (Int32.ofNat k))] h0 (Q_nca Z G1 G3 us ss a t kb N cs k h0 n0 bk) ws := by
  have hX' := hX
  obtain ⟨hw, hE, S1, P1, S3, P3⟩ := hX'
  have hY' := hY
  obtain ⟨s_us, s_ss⟩ := hY'
  have hSA := sa_of hw
  have wT : ∀ (i : Nat) {d : Jvm.Cond}, tables_1[i]? = some d → d.before a0 Z = true := fun i d h => hw d (List.mem_of_getElem? h)
  have z0 : n0 ≤ h0.size := by rw [← O0.1]; exact O0.2.1
  refine Met.of (by decide +kernel) O0 hE ?_
  intro p e s m below meth c hx hby hml hret hlk hnm
  refine k_cast (ef_nca m a (Int32.ofNat k)) ?_
  show Run p l e _ s m _ below meth c Z EL1 _ n0 bk h0 0 0 (mkF m 0 #[.val (.ref a), .val (.int (Int32.ofNat k)), .unset, .unset, .unset, .unset] []) _
  have ne_1 : @Ne Nat a t := pf_0.2.2.2.2.2.2.2.2
  have lt_2 : @LT.lt Nat _ a (Array.size h0) := pf_0.lt1
  have lt_3 : @LT.lt Nat _ t (Array.size h0) := pf_0.lt2
  refine k_pure (g' := (mkF m 1 #[.val (.ref a), .val (.int (Int32.ofNat k)), .unset, .unset, .unset, .unset] [(.ref a)])) (fun _ J _ j => XS.aloadN J hx rfl (hb hby d72) rfl rfl j) ?_
  refine k_getF hx (host := "") (Or.inl (wT 42 rfl)) Via.refl pf_0.2.2.1 rfl rfl (hb hby d73) ?_
  show Run p l e _ s m _ below meth c Z EL1 _ n0 bk h0 0 0 (mkF m 4 #[.val (.ref a), .val (.int (Int32.ofNat k)), .unset, .unset, .unset, .unset] [(.ref t)]) _
  refine k_alen hx pf_0.2.2.2.2.1 rfl rfl (hb hby d74) ?_
  show Run p l e _ s m _ below meth c Z EL1 _ n0 bk h0 0 0 (mkF m 5 #[.val (.ref a), .val (.int (Int32.ofNat k)), .unset, .unset, .unset, .unset] [(.int (Int32.ofNat N))]) _
  refine k_pure (g' := (mkF m 6 #[.val (.ref a), .val (.int (Int32.ofNat k)), .val (.int (Int32.ofNat N)), .unset, .unset, .unset] [])) (fun _ J _ j => XS.istoreN J hx rfl (hb hby d75) rfl (l' := #[.val (.ref a), .val (.int (Int32.ofNat k)), .val (.int (Int32.ofNat N)), .unset, .unset, .unset]) rfl j) ?_
  refine k_pure (g' := (mkF m 7 #[.val (.ref a), .val (.int (Int32.ofNat k)), .val (.int (Int32.ofNat N)), .unset, .unset, .unset] [(.int (Int32.ofNat k))])) (fun _ J _ j => XS.iloadN J hx rfl (hb hby d76) rfl j) ?_
  refine k_pure (g' := (mkF m 8 #[.val (.ref a), .val (.int (Int32.ofNat k)), .val (.int (Int32.ofNat N)), .unset, .unset, .unset] [(.ref a), (.int (Int32.ofNat k))])) (fun _ J _ j => XS.aloadN J hx rfl (hb hby d77) rfl rfl j) ?_
  refine k_getF hx (host := "") (Or.inl (wT 44 rfl)) Via.refl pf_0.2.1 rfl rfl (hb hby d78) ?_
  show Run p l e _ s m _ below meth c Z EL1 _ n0 bk h0 0 0 (mkF m 11 #[.val (.ref a), .val (.int (Int32.ofNat k)), .val (.int (Int32.ofNat N)), .unset, .unset, .unset] [(.int (0 : Int32)), (.int (Int32.ofNat k))]) _
  refine k_pure (g' := (mkF m 12 #[.val (.ref a), .val (.int (Int32.ofNat k)), .val (.int (Int32.ofNat N)), .unset, .unset, .unset] [(.int ((Int32.ofNat k) <<< ((0 : Int32) &&& 31)))])) (fun _ J _ j => XS.ishl J hx rfl (hb hby d79) rfl j) ?_
  rw [shl0]
  show Run p l e _ s m _ below meth c Z EL1 _ n0 bk h0 0 0 (mkF m 12 #[.val (.ref a), .val (.int (Int32.ofNat k)), .val (.int (Int32.ofNat N)), .unset, .unset, .unset] [(.int (Int32.ofNat k))]) _
  refine k_pure (g' := (mkF m 13 #[.val (.ref a), .val (.int (Int32.ofNat k)), .val (.int (Int32.ofNat N)), .val (.int (Int32.ofNat k)), .unset, .unset] [])) (fun _ J _ j => XS.istoreN J hx rfl (hb hby d80) rfl (l' := #[.val (.ref a), .val (.int (Int32.ofNat k)), .val (.int (Int32.ofNat N)), .val (.int (Int32.ofNat k)), .unset, .unset]) rfl j) ?_
  refine k_pure (g' := (mkF m 14 #[.val (.ref a), .val (.int (Int32.ofNat k)), .val (.int (Int32.ofNat N)), .val (.int (Int32.ofNat k)), .unset, .unset] [(.int (Int32.ofNat k))])) (fun _ J _ j => XS.iloadN J hx rfl (hb hby d81) rfl j) ?_
  refine k_pure (g' := (mkF m 15 #[.val (.ref a), .val (.int (Int32.ofNat k)), .val (.int (Int32.ofNat N)), .val (.int (Int32.ofNat k)), .unset, .unset] [(.int (Int32.ofNat N)), (.int (Int32.ofNat k))])) (fun _ J _ j => XS.iloadN J hx rfl (hb hby d82) rfl j) ?_
  refine k_pure (g' := (mkF m 16 #[.val (.ref a), .val (.int (Int32.ofNat k)), .val (.int (Int32.ofNat N)), .val (.int (Int32.ofNat k)), .unset, .unset] [(.int ((Int32.ofNat k) - (Int32.ofNat N)))])) (fun _ J _ j => XS.isub J hx rfl (hb hby d83) rfl j) ?_
  refine k_pure (g' := (mkF m 18 #[.val (.ref a), .val (.int (Int32.ofNat k)), .val (.int (Int32.ofNat N)), .val (.int (Int32.ofNat k)), .val (.int ((Int32.ofNat k) - (Int32.ofNat N))), .unset] [])) (fun _ J _ j => XS.istore J hx rfl (hb hby d84) rfl (l' := #[.val (.ref a), .val (.int (Int32.ofNat k)), .val (.int (Int32.ofNat N)), .val (.int (Int32.ofNat k)), .val (.int ((Int32.ofNat k) - (Int32.ofNat N))), .unset]) rfl j) ?_
  refine k_pure (g' := (mkF m 19 #[.val (.ref a), .val (.int (Int32.ofNat k)), .val (.int (Int32.ofNat N)), .val (.int (Int32.ofNat k)), .val (.int ((Int32.ofNat k) - (Int32.ofNat N))), .unset] [(.int (Int32.ofNat N))])) (fun _ J _ j => XS.iloadN J hx rfl (hb hby d85) rfl j) ?_
  refine k_pure (g' := (mkF m 21 #[.val (.ref a), .val (.int (Int32.ofNat k)), .val (.int (Int32.ofNat N)), .val (.int (Int32.ofNat k)), .val (.int ((Int32.ofNat k) - (Int32.ofNat N))), .unset] [(.int ((Int32.ofNat k) - (Int32.ofNat N))), (.int (Int32.ofNat N))])) (fun _ J _ j => XS.iload J hx rfl (hb hby d86) rfl j) ?_
  refine k_pure (g' := (mkF m 22 #[.val (.ref a), .val (.int (Int32.ofNat k)), .val (.int (Int32.ofNat N)), .val (.int (Int32.ofNat k)), .val (.int ((Int32.ofNat k) - (Int32.ofNat N))), .unset] [(.int (Int32.ofNat N)), (.int ((Int32.ofNat k) - (Int32.ofNat N))), (.int (Int32.ofNat N))])) (fun _ J _ j => XS.iloadN J hx rfl (hb hby d87) rfl j) ?_
  refine k_pure (g' := (mkF m 23 #[.val (.ref a), .val (.int (Int32.ofNat k)), .val (.int (Int32.ofNat N)), .val (.int (Int32.ofNat k)), .val (.int ((Int32.ofNat k) - (Int32.ofNat N))), .unset] [(.int (2 : Int32)), (.int (Int32.ofNat N)), (.int ((Int32.ofNat k) - (Int32.ofNat N))), (.int (Int32.ofNat N))])) (fun _ J _ j => XS.iconst J hx rfl (hb hby d88) j) ?_
  refine k_pure (g' := (mkF m 24 #[.val (.ref a), .val (.int (Int32.ofNat k)), .val (.int (Int32.ofNat N)), .val (.int (Int32.ofNat k)), .val (.int ((Int32.ofNat k) - (Int32.ofNat N))), .unset] [(.ref a), (.int (2 : Int32)), (.int (Int32.ofNat N)), (.int ((Int32.ofNat k) - (Int32.ofNat N))), (.int (Int32.ofNat N))])) (fun _ J _ j => XS.aloadN J hx rfl (hb hby d89) rfl rfl j) ?_
  refine k_getF hx (host := "") (Or.inl (wT 44 rfl)) Via.refl pf_0.2.1 rfl rfl (hb hby d90) ?_
  show Run p l e _ s m _ below meth c Z EL1 _ n0 bk h0 0 0 (mkF m 27 #[.val (.ref a), .val (.int (Int32.ofNat k)), .val (.int (Int32.ofNat N)), .val (.int (Int32.ofNat k)), .val (.int ((Int32.ofNat k) - (Int32.ofNat N))), .unset] [(.int (0 : Int32)), (.int (2 : Int32)), (.int (Int32.ofNat N)), (.int ((Int32.ofNat k) - (Int32.ofNat N))), (.int (Int32.ofNat N))]) _
  refine k_pure (g' := (mkF m 28 #[.val (.ref a), .val (.int (Int32.ofNat k)), .val (.int (Int32.ofNat N)), .val (.int (Int32.ofNat k)), .val (.int ((Int32.ofNat k) - (Int32.ofNat N))), .unset] [(.int (2 : Int32)), (.int (Int32.ofNat N)), (.int ((Int32.ofNat k) - (Int32.ofNat N))), (.int (Int32.ofNat N))])) (fun _ J _ j => XS.ishl J hx rfl (hb hby d91) rfl j) ?_
  refine k_pure (g' := (mkF m 29 #[.val (.ref a), .val (.int (Int32.ofNat k)), .val (.int (Int32.ofNat N)), .val (.int (Int32.ofNat k)), .val (.int ((Int32.ofNat k) - (Int32.ofNat N))), .unset] [(.int ((Int32.ofNat N) + (2 : Int32))), (.int ((Int32.ofNat k) - (Int32.ofNat N))), (.int (Int32.ofNat N))])) (fun _ J _ j => XS.iadd J hx rfl (hb hby d92) rfl j) ?_
  refine k_callS hx (y := (⟨"jdk/internal/util/ArraysSupport", "newLength", "(III)I"⟩ : MethodName)) (wT 80 rfl) (wT 81 rfl) (wT 82 rfl) (wT 83 rfl) (by decide) (W := 0) (argsL := [(.int (Int32.ofNat N)), (.int ((Int32.ofNat k) - (Int32.ofNat N))), (.int ((Int32.ofNat N) + (2 : Int32)))]) (rest := []) (Pays.of_met (rm_nle l Z a0 G1 G3 us ss hX hY n0 bk h0 O0 (Int32.ofNat N) ((Int32.ofNat k) - (Int32.ofNat N)) ((Int32.ofNat N) + (2 : Int32)) (by have r0 := rng32 (Int32.ofNat N); have r1 := toI (n := k) (by omega); have r2 := toI (n := N) (by omega); have r3 := h1; have r4 := h2; omega) (by have r0 := rng32 (Int32.ofNat k); have r1 := rng32 (Int32.ofNat N); have r2 := c_isub (Int32.ofNat k) (Int32.ofNat N); have r3 := rng32 ((Int32.ofNat k) - (Int32.ofNat N)); have r4 := toI (n := k) (by omega); have r5 := toI (n := N) (by omega); have r6 := h1; have r7 := h2; omega) (by have r0 := rng32 (Int32.ofNat N); have r1 : (2 : Int32).toInt = 2 := (by decide); have r2 := c_iadd (Int32.ofNat N) (2 : Int32); have r3 := rng32 ((Int32.ofNat N) + (2 : Int32)); have r4 := toI (n := k) (by omega); have r5 := toI (n := N) (by omega); have r6 := h1; have r7 := h2; omega) []) (wT 83 rfl) (wT 82 rfl) (by decide) (by decide)) rfl (by rw [hml]; rfl) (lenOf pd__28_III_29_I rfl) rfl (by show 2 * 0 + _ ≤ _; exact Nat.le_of_eq rfl) (hb hby d93) (by decide) (by decide) ?_
  intro v_4 h_5 bk_6 O_7 z_8 Q_9
  obtain ⟨i_10, rfl, rfl, rfl, P_11⟩ := Q_9
  show Run p l e _ s m _ below meth c Z EL1 _ n0 bk h0 0 0 (mkF m 32 #[.val (.ref a), .val (.int (Int32.ofNat k)), .val (.int (Int32.ofNat N)), .val (.int (Int32.ofNat k)), .val (.int ((Int32.ofNat k) - (Int32.ofNat N))), .unset] [(.int i_10)]) _
  refine k_pure (g' := (mkF m 34 #[.val (.ref a), .val (.int (Int32.ofNat k)), .val (.int (Int32.ofNat N)), .val (.int (Int32.ofNat k)), .val (.int ((Int32.ofNat k) - (Int32.ofNat N))), .val (.int i_10)] [])) (fun _ J _ j => XS.istore J hx rfl (hb hby d94) rfl (l' := #[.val (.ref a), .val (.int (Int32.ofNat k)), .val (.int (Int32.ofNat N)), .val (.int (Int32.ofNat k)), .val (.int ((Int32.ofNat k) - (Int32.ofNat N))), .val (.int i_10)]) rfl j) ?_
  refine k_pure (g' := (mkF m 36 #[.val (.ref a), .val (.int (Int32.ofNat k)), .val (.int (Int32.ofNat N)), .val (.int (Int32.ofNat k)), .val (.int ((Int32.ofNat k) - (Int32.ofNat N))), .val (.int i_10)] [(.int i_10)])) (fun _ J _ j => XS.iload J hx rfl (hb hby d95) rfl j) ?_
  refine k_ldcI hx (wT 89 rfl) rfl (hb hby d96) ?_
  show Run p l e _ s m _ below meth c Z EL1 _ n0 bk h0 0 0 (mkF m 38 #[.val (.ref a), .val (.int (Int32.ofNat k)), .val (.int (Int32.ofNat N)), .val (.int (Int32.ofNat k)), .val (.int ((Int32.ofNat k) - (Int32.ofNat N))), .val (.int i_10)] [(.int (2147483647 : Int32)), (.int i_10)]) _
  refine k_pure (g' := (mkF m 51 #[.val (.ref a), .val (.int (Int32.ofNat k)), .val (.int (Int32.ofNat N)), .val (.int (Int32.ofNat k)), .val (.int ((Int32.ofNat k) - (Int32.ofNat N))), .val (.int i_10)] [])) (fun _ J _ j => XS.icmpYes J hx rfl (pc0 := 38) (pc' := 51) rfl (hb hby d97) rfl (feq (by have r0 := rng32 i_10; have r1 : (2147483647 : Int32).toInt = 2147483647 := (by decide); have r2 := toI (n := k) (by omega); have r3 := toI (n := N) (by omega); have r4 := h1; have r5 := h2; have r6 := P_11.1; have r7 := P_11.2.2; have r8 := rng32 (Int32.ofNat k); have r9 := rng32 (Int32.ofNat N); have r10 := c_isub (Int32.ofNat k) (Int32.ofNat N); have r11 := rng32 ((Int32.ofNat k) - (Int32.ofNat N)); have r12 := rng32 (Int32.ofNat N); have r13 : (2 : Int32).toInt = 2 := (by decide); have r14 := c_iadd (Int32.ofNat N) (2 : Int32); have r15 := rng32 ((Int32.ofNat N) + (2 : Int32)); rw [← Int32.toInt_inj]; omega)).2 (by decide) (by decide) j) ?_
  refine k_pure (g' := (mkF m 53 #[.val (.ref a), .val (.int (Int32.ofNat k)), .val (.int (Int32.ofNat N)), .val (.int (Int32.ofNat k)), .val (.int ((Int32.ofNat k) - (Int32.ofNat N))), .val (.int i_10)] [(.int i_10)])) (fun _ J _ j => XS.iload J hx rfl (hb hby d98) rfl j) ?_
  refine k_pure (g' := (mkF m 54 #[.val (.ref a), .val (.int (Int32.ofNat k)), .val (.int (Int32.ofNat N)), .val (.int (Int32.ofNat k)), .val (.int ((Int32.ofNat k) - (Int32.ofNat N))), .val (.int i_10)] [(.ref a), (.int i_10)])) (fun _ J _ j => XS.aloadN J hx rfl (hb hby d99) rfl rfl j) ?_
  refine k_getF hx (host := "") (Or.inl (wT 44 rfl)) Via.refl pf_0.2.1 rfl rfl (hb hby d100) ?_
  show Run p l e _ s m _ below meth c Z EL1 _ n0 bk h0 0 0 (mkF m 57 #[.val (.ref a), .val (.int (Int32.ofNat k)), .val (.int (Int32.ofNat N)), .val (.int (Int32.ofNat k)), .val (.int ((Int32.ofNat k) - (Int32.ofNat N))), .val (.int i_10)] [(.int (0 : Int32)), (.int i_10)]) _
  refine k_pure (g' := (mkF m 58 #[.val (.ref a), .val (.int (Int32.ofNat k)), .val (.int (Int32.ofNat N)), .val (.int (Int32.ofNat k)), .val (.int ((Int32.ofNat k) - (Int32.ofNat N))), .val (.int i_10)] [(.int (i_10 >>> ((0 : Int32) &&& 31)))])) (fun _ J _ j => XS.ishr J hx rfl (hb hby d101) rfl j) ?_
  rw [shr0]
  show Run p l e _ s m _ below meth c Z EL1 _ n0 bk h0 0 0 (mkF m 58 #[.val (.ref a), .val (.int (Int32.ofNat k)), .val (.int (Int32.ofNat N)), .val (.int (Int32.ofNat k)), .val (.int ((Int32.ofNat k) - (Int32.ofNat N))), .val (.int i_10)] [(.int i_10)]) _
  exact k_retI hx hlk hret (hb hby d102) (by decide) (by decide) ⟨(i_10).toInt.toNat, (by rw [of_toNat (by have r0 := rng32 i_10; have r1 := toI (n := k) (by omega); have r2 := toI (n := N) (by omega); have r3 := h1; have r4 := h2; have r5 := P_11.1; have r6 := rng32 (Int32.ofNat k); have r7 := rng32 (Int32.ofNat N); have r8 := c_isub (Int32.ofNat k) (Int32.ofNat N); have r9 := rng32 ((Int32.ofNat k) - (Int32.ofNat N)); have r10 := rng32 (Int32.ofNat N); have r11 : (2 : Int32).toInt = 2 := (by decide); have r12 := c_iadd (Int32.ofNat N) (2 : Int32); have r13 := rng32 ((Int32.ofNat N) + (2 : Int32)); omega)]), rfl, rfl, (by have r0 := rng32 i_10; have r1 := toI (n := k) (by omega); have r2 := toI (n := N) (by omega); have r3 := h1; have r4 := h2; have r5 := P_11.1; have r6 := P_11.2.1; have r7 := P_11.2.2; have r8 := rng32 (Int32.ofNat k); have r9 := rng32 (Int32.ofNat N); have r10 := c_isub (Int32.ofNat k) (Int32.ofNat N); have r11 := rng32 ((Int32.ofNat k) - (Int32.ofNat N)); have r12 := rng32 (Int32.ofNat N); have r13 : (2 : Int32).toInt = 2 := (by decide); have r14 := c_iadd (Int32.ofNat N) (2 : Int32); have r15 := rng32 ((Int32.ofNat N) + (2 : Int32)); omega)⟩
def Q_cof (Z : State) (G1 : Int32) (G3 : Value) (us ss : Addr) (t : Addr) (kb : ClassId) (N : Nat) (cs : List Int32) (M : Nat) (h0 : Heap) (n0 : Nat) (bk : Addr → Prop) (v : Option Value) (h : Heap) (bk' : Addr → Prop) : Prop := ∃ (u : Addr), ∃ (ku : ClassId), v = some (.ref u) ∧ bk = bk' ∧ Keep h0 h [] ∧ (Arv Z h u ku .byte (Int32.ofNat M) (((cs).map (fun c => c.toInt8.toInt32)).map Value.int) (.int 0)) ∧ (Exa Z h u "[B") ∧ (@LE.le Nat _ (Array.size h0) u) ∧ (¬ bk' u)
theorem d103 : decode jdk_65_method_121_code 0 = .ok (.iload_n 1, 1) := by decide +kernel
theorem d104 : decode jdk_65_method_121_code 1 = .ok (.aload_n 0, 1) := by decide +kernel
theorem d105 : decode jdk_65_method_121_code 2 = .ok (.arraylength, 1) := by decide +kernel
theorem d106 : decode jdk_65_method_121_code 3 = .ok (.if_icmp .ne 11, 3) := by decide +kernel
theorem d107 : decode jdk_65_method_121_code 14 = .ok (.iload_n 1, 1) := by decide +kernel
theorem d108 : decode jdk_65_method_121_code 15 = .ok (.newarray .byte, 2) := by decide +kernel
theorem d109 : decode jdk_65_method_121_code 17 = .ok (.astore_n 2, 1) := by decide +kernel
theorem d110 : decode jdk_65_method_121_code 18 = .ok (.aload_n 0, 1) := by decide +kernel
theorem d111 : decode jdk_65_method_121_code 19 = .ok (.iconst 0, 1) := by decide +kernel
theorem d112 : decode jdk_65_method_121_code 20 = .ok (.aload_n 2, 1) := by decide +kernel
theorem d113 : decode jdk_65_method_121_code 21 = .ok (.iconst 0, 1) := by decide +kernel
theorem d114 : decode jdk_65_method_121_code 22 = .ok (.aload_n 0, 1) := by decide +kernel
theorem d115 : decode jdk_65_method_121_code 23 = .ok (.arraylength, 1) := by decide +kernel
theorem d116 : decode jdk_65_method_121_code 24 = .ok (.iload_n 1, 1) := by decide +kernel
theorem d117 : decode jdk_65_method_121_code 25 = .ok (.invokestatic 304, 3) := by decide +kernel
theorem d118 : decode jdk_65_method_121_code 28 = .ok (.invokestatic 150, 3) := by decide +kernel
theorem d119 : decode jdk_65_method_121_code 31 = .ok (.aload_n 2, 1) := by decide +kernel
theorem d120 : decode jdk_65_method_121_code 32 = .ok (.areturn, 1) := by decide +kernel
abbrev RM_cof : Room := { frames := 1, cells := 1, slots := 130, locals := 18 }
theorem ef_cof (m : MethodId) (x0 : Addr) (x1 : Int32) : entryFrame m #[(.ref x0), (.int x1)] 3 = mkF m 0 #[.val (.ref x0), .val (.int x1), .unset] [] := by first | (simp [entryFrame, mkF, argsToLocals, Value.category]; done) | rfl
set_option maxRecDepth 65536 in
set_option maxHeartbeats 40000000 in
theorem rm_cof (l : Launch) (Z : State) (a0 : Array Value) (G1 : Int32) (G3 : Value) (us ss : Addr) (hX : Ctx Z a0 G1 G3) (hY : More Z us ss) (n0 : Nat) (bk : Addr → Prop) (h0 : Heap) (O0 : Old Z n0 h0) (t : Addr) (kb : ClassId) (N : Nat) (cs : List Int32) (M : Nat) (pf_0 : Arv Z h0 t kb .byte (Int32.ofNat N) (((cs).map (fun c => c.toInt8.toInt32)).map Value.int) (.int 0)) (h0_ : cs.length ≤ N) (h1 : N < M) (h2 : M ≤ 130) (hbl : ∀ y, bk y → @LT.lt Nat _ y (Array.size h0)) (ws : List Jvm.Cond) : Met l Z EL1 n0 bk (⟨"java/util/Arrays", "copyOf", "([BI)[B"⟩ : MethodName) jdk_65_method_121_code 3 (Option.some (FieldType.array FieldType.byte)) RM_cof #[(.ref t), (.int (Int32.ofNat M))] h0 (Q_cof Z G1 G3 us ss t kb N cs M h0 n0 bk) ws := by
  have hX' := hX
  obtain ⟨hw, hE, S1, P1, S3, P3⟩ := hX'
  have hY' := hY
  obtain ⟨s_us, s_ss⟩ := hY'
  have hSA := sa_of hw
  have wT : ∀ (i : Nat) {d : Jvm.Cond}, tables_1[i]? = some d → d.before a0 Z = true := fun i d h => hw d (List.mem_of_getElem? h)
  have z0 : n0 ≤ h0.size := by rw [← O0.1]; exact O0.2.1
  refine Met.of (by decide +kernel) O0 hE ?_
  intro p e s m below meth c hx hby hml hret hlk hnm
  refine k_cast (ef_cof m t (Int32.ofNat M)) ?_
  show Run p l e _ s m _ below meth c Z EL1 _ n0 bk h0 0 0 (mkF m 0 #[.val (.ref t), .val (.int (Int32.ofNat M)), .unset] []) _
  have lt_1 : @LT.lt Nat _ t (Array.size h0) := pf_0.lt
  refine k_pure (g' := (mkF m 1 #[.val (.ref t), .val (.int (Int32.ofNat M)), .unset] [(.int (Int32.ofNat M))])) (fun _ J _ j => XS.iloadN J hx rfl (hb hby d103) rfl j) ?_
  refine k_pure (g' := (mkF m 2 #[.val (.ref t), .val (.int (Int32.ofNat M)), .unset] [(.ref t), (.int (Int32.ofNat M))])) (fun _ J _ j => XS.aloadN J hx rfl (hb hby d104) rfl rfl j) ?_
  refine k_alen hx pf_0 rfl rfl (hb hby d105) ?_
  show Run p l e _ s m _ below meth c Z EL1 _ n0 bk h0 0 0 (mkF m 3 #[.val (.ref t), .val (.int (Int32.ofNat M)), .unset] [(.int (Int32.ofNat N)), (.int (Int32.ofNat M))]) _
  refine k_pure (g' := (mkF m 14 #[.val (.ref t), .val (.int (Int32.ofNat M)), .unset] [])) (fun _ J _ j => XS.icmpYes J hx rfl (pc0 := 3) (pc' := 14) rfl (hb hby d106) rfl (feq (fun q => ne_nat h1 (by omega) q.symm)).2 (by decide) (by decide) j) ?_
  refine k_pure (g' := (mkF m 15 #[.val (.ref t), .val (.int (Int32.ofNat M)), .unset] [(.int (Int32.ofNat M))])) (fun _ J _ j => XS.iloadN J hx rfl (hb hby d107) rfl j) ?_
  refine k_newP hx (wT 15 rfl) rfl (hb hby d108) rfl (not_lt_nat (n := 0) (Nat.zero_le _) (by omega)) (cap := 130) (by rw [clampN (by omega)]; exact h2) (by decide) (by decide) (by decide) "[B" (by decide +kernel) ?_
  intro h_3 a_2 k_4 g_5 O_6 E_7 A_8 X_9
  have z_10 := E_7.1
  have lt_11 : @LT.lt Nat _ a_2 (Array.size h_3) := A_8.lt
  have nb_12 : ¬ bk a_2 := fun q => Nat.not_le_of_lt (hbl _ q) (show @LE.le Nat _ (Array.size h0) a_2 by omega)
  show Run p l e _ s m _ below meth c Z EL1 _ n0 bk h_3 1 130 (mkF m 17 #[.val (.ref t), .val (.int (Int32.ofNat M)), .unset] [(.ref a_2)]) _
  refine k_pure (g' := (mkF m 18 #[.val (.ref t), .val (.int (Int32.ofNat M)), .val (.ref a_2)] [])) (fun _ J _ j => XS.astoreN J hx rfl (hb hby d109) rfl rfl (l' := #[.val (.ref t), .val (.int (Int32.ofNat M)), .val (.ref a_2)]) rfl j) ?_
  refine k_pure (g' := (mkF m 19 #[.val (.ref t), .val (.int (Int32.ofNat M)), .val (.ref a_2)] [(.ref t)])) (fun _ J _ j => XS.aloadN J hx rfl (hb hby d110) rfl rfl j) ?_
  refine k_pure (g' := (mkF m 20 #[.val (.ref t), .val (.int (Int32.ofNat M)), .val (.ref a_2)] [(.int (0 : Int32)), (.ref t)])) (fun _ J _ j => XS.iconst J hx rfl (hb hby d111) j) ?_
  refine k_pure (g' := (mkF m 21 #[.val (.ref t), .val (.int (Int32.ofNat M)), .val (.ref a_2)] [(.ref a_2), (.int (0 : Int32)), (.ref t)])) (fun _ J _ j => XS.aloadN J hx rfl (hb hby d112) rfl rfl j) ?_
  refine k_pure (g' := (mkF m 22 #[.val (.ref t), .val (.int (Int32.ofNat M)), .val (.ref a_2)] [(.int (0 : Int32)), (.ref a_2), (.int (0 : Int32)), (.ref t)])) (fun _ J _ j => XS.iconst J hx rfl (hb hby d113) j) ?_
  refine k_pure (g' := (mkF m 23 #[.val (.ref t), .val (.int (Int32.ofNat M)), .val (.ref a_2)] [(.ref t), (.int (0 : Int32)), (.ref a_2), (.int (0 : Int32)), (.ref t)])) (fun _ J _ j => XS.aloadN J hx rfl (hb hby d114) rfl rfl j) ?_
  have F_13 : Arv Z h_3 t kb .byte (Int32.ofNat N) (((cs).map (fun c => c.toInt8.toInt32)).map Value.int) (.int 0) := (pf_0.ext E_7)
  refine k_alen hx F_13 rfl rfl (hb hby d115) ?_
  show Run p l e _ s m _ below meth c Z EL1 _ n0 bk h_3 1 130 (mkF m 24 #[.val (.ref t), .val (.int (Int32.ofNat M)), .val (.ref a_2)] [(.int (Int32.ofNat N)), (.int (0 : Int32)), (.ref a_2), (.int (0 : Int32)), (.ref t)]) _
  refine k_pure (g' := (mkF m 25 #[.val (.ref t), .val (.int (Int32.ofNat M)), .val (.ref a_2)] [(.int (Int32.ofNat M)), (.int (Int32.ofNat N)), (.int (0 : Int32)), (.ref a_2), (.int (0 : Int32)), (.ref t)])) (fun _ J _ j => XS.iloadN J hx rfl (hb hby d116) rfl j) ?_
  refine k_callS hx (y := (⟨"java/lang/Math", "min", "(II)I"⟩ : MethodName)) (wT 94 rfl) (wT 95 rfl) (wT 86 rfl) (wT 96 rfl) (by decide) (W := 4) (argsL := [(.int (Int32.ofNat N)), (.int (Int32.ofNat M))]) (rest := [(.int (0 : Int32)), (.ref a_2), (.int (0 : Int32)), (.ref t)]) (Pays.of_met (rm_min0 l Z a0 G1 G3 us ss hX hY n0 bk h_3 O_6 (Int32.ofNat N) (Int32.ofNat M) (not_lt_nat (by omega) (by omega)) []) (wT 96 rfl) (wT 86 rfl) (by decide) (by decide)) rfl (by rw [hml]; rfl) (lenOf pd__28_II_29_I rfl) rfl (by show 2 * 0 + _ ≤ _; exact Nat.le_of_eq rfl) (hb hby d117) (by decide) (by decide) ?_
  intro v_14 h_15 bk_16 O_17 z_18 Q_19
  obtain ⟨rfl, rfl, rfl⟩ := Q_19
  show Run p l e _ s m _ below meth c Z EL1 _ n0 bk h_3 1 130 (mkF m 28 #[.val (.ref t), .val (.int (Int32.ofNat M)), .val (.ref a_2)] [(.int (Int32.ofNat N)), (.int (0 : Int32)), (.ref a_2), (.int (0 : Int32)), (.ref t)]) _
  have B_20 : Arv Z h_3 a_2 k_4 .byte (Int32.ofNat M) (([] : List Value) ++ List.replicate N (Value.int 0)) (.int (0 : Int32)) := Arv.pad A_8 (pad_rep [] (.int 0) N)
  refine k_cpA hx (wT 97 rfl) (wT 100 rfl) (wT 98 rfl) (wT 99 rfl) F_13 B_20 (Or.inl ⟨rfl, rfl⟩) (by decide) (by decide) (not_lt_nat (n := 0) (Nat.zero_le _) (by omega)) (by first | (rw [clampN (by omega)]; show 0 + _ ≤ _; rw [clampN (by omega)]; omega) | (rw [clampN (by omega)]; show 0 + _ ≤ _; omega)) (by first | (rw [clampN (by omega)]; show 0 + _ ≤ _; rw [clampN (by omega)]; omega) | (rw [clampN (by omega)]; show 0 + _ ≤ _; omega)) rfl (by rw [clampN (by omega)]; first | (simp; done) | (simp; exact Nat.le_of_eq (Nat.zero_add _))) (by omega) nb_12 rfl (by rw [hml]; rfl) rfl (hb hby d118) (by decide) (W := 0) (by show 2 * 0 + _ ≤ _; exact Nat.le_of_eq rfl) (by decide) ?_
  intro h_21 O_22 K_23 V_24
  have z_25 := K_23.1
  have V_26 : Arv Z h_21 a_2 k_4 .byte (Int32.ofNat M) (((cs).map (fun c => c.toInt8.toInt32)).map Value.int) (.int (0 : Int32)) := Arv.pad V_24 (cpy_pad (by omega) (by rw [List.length_map, List.length_map]; exact h0_))
  show Run p l e _ s m _ below meth c Z EL1 _ n0 bk h_21 1 130 (mkF m 31 #[.val (.ref t), .val (.int (Int32.ofNat M)), .val (.ref a_2)] []) _
  refine k_pure (g' := (mkF m 32 #[.val (.ref t), .val (.int (Int32.ofNat M)), .val (.ref a_2)] [(.ref a_2)])) (fun _ J _ j => XS.aloadN J hx rfl (hb hby d119) rfl rfl j) ?_
  have F_27 : Exa Z h_21 a_2 "[B" := (X_9.keep K_23)
  exact k_retA hx hlk hret rfl rfl rfl (hb hby d120) (by decide) (by decide) ⟨a_2, k_4, rfl, rfl, (((Keep.refl _ _).ext E_7).trans K_23 (kkS (Or.inr (by omega)) kk0)), V_26, F_27, (by omega), nb_12⟩
def Q_ecg (Z : State) (G1 : Int32) (G3 : Value) (us ss : Addr) (a : Addr) (t : Addr) (kb : ClassId) (N : Nat) (cs : List Int32) (k : Nat) (h0 : Heap) (n0 : Nat) (bk : Addr → Prop) (v : Option Value) (h : Heap) (bk' : Addr → Prop) : Prop := ∃ (u : Addr), ∃ (ku : ClassId), ∃ (M : Nat), v = none ∧ bk = bk' ∧ Keep h0 h [a] ∧ (SbL Z h a u ku M cs) ∧ (Exa Z h u "[B") ∧ (k ≤ M ∧ 2 * N + 2 ≤ M ∧ M ≤ 130 ∧ (M = k ∨ M = 2 * N + 2)) ∧ (@LE.le Nat _ (Array.size h0) u) ∧ (¬ bk' u)
theorem d121 : decode jdk_68_method_9_code 0 = .ok (.aload_n 0, 1) := by decide +kernel
theorem d122 : decode jdk_68_method_9_code 1 = .ok (.getfield 15, 3) := by decide +kernel
theorem d123 : decode jdk_68_method_9_code 4 = .ok (.arraylength, 1) := by decide +kernel
theorem d124 : decode jdk_68_method_9_code 5 = .ok (.aload_n 0, 1) := by decide +kernel
theorem d125 : decode jdk_68_method_9_code 6 = .ok (.getfield 22, 3) := by decide +kernel
theorem d126 : decode jdk_68_method_9_code 9 = .ok (.ishr, 1) := by decide +kernel
theorem d127 : decode jdk_68_method_9_code 10 = .ok (.istore_n 2, 1) := by decide +kernel
theorem d128 : decode jdk_68_method_9_code 11 = .ok (.iload_n 1, 1) := by decide +kernel
theorem d129 : decode jdk_68_method_9_code 12 = .ok (.iload_n 2, 1) := by decide +kernel
theorem d130 : decode jdk_68_method_9_code 13 = .ok (.isub, 1) := by decide +kernel
theorem d131 : decode jdk_68_method_9_code 14 = .ok (.ifCond .le 24, 3) := by decide +kernel
theorem d132 : decode jdk_68_method_9_code 17 = .ok (.aload_n 0, 1) := by decide +kernel
theorem d133 : decode jdk_68_method_9_code 18 = .ok (.aload_n 0, 1) := by decide +kernel
theorem d134 : decode jdk_68_method_9_code 19 = .ok (.getfield 15, 3) := by decide +kernel
theorem d135 : decode jdk_68_method_9_code 22 = .ok (.aload_n 0, 1) := by decide +kernel
theorem d136 : decode jdk_68_method_9_code 23 = .ok (.iload_n 1, 1) := by decide +kernel
theorem d137 : decode jdk_68_method_9_code 24 = .ok (.invokevirtual 104, 3) := by decide +kernel
theorem pd__28_I_29_I : parseMethodDescriptor "(I)I" = some ⟨[.int], some .int⟩ := by decide +kernel
theorem d138 : decode jdk_68_method_9_code 27 = .ok (.aload_n 0, 1) := by decide +kernel
theorem d139 : decode jdk_68_method_9_code 28 = .ok (.getfield 22, 3) := by decide +kernel
theorem d140 : decode jdk_68_method_9_code 31 = .ok (.ishl, 1) := by decide +kernel
theorem d141 : decode jdk_68_method_9_code 32 = .ok (.invokestatic 108, 3) := by decide +kernel
theorem pd__28__5b_BI_29__5b_B : parseMethodDescriptor "([BI)[B" = some ⟨[(.array .byte), .int], some (.array .byte)⟩ := by decide +kernel
theorem d142 : decode jdk_68_method_9_code 35 = .ok (.putfield 15, 3) := by decide +kernel
theorem d143 : decode jdk_68_method_9_code 38 = .ok (.return_, 1) := by decide +kernel
abbrev RM_ecg : Room := { frames := 3, cells := 1, slots := 130, locals := 48 }
theorem ef_ecg (m : MethodId) (x0 : Addr) (x1 : Int32) : entryFrame m #[(.ref x0), (.int x1)] 3 = mkF m 0 #[.val (.ref x0), .val (.int x1), .unset] [] := by first | (simp [entryFrame, mkF, argsToLocals, Value.category]; done) | rfl
set_option maxRecDepth 65536 in
set_option maxHeartbeats 40000000 in
theorem rm_ecg (l : Launch) (Z : State) (a0 : Array Value) (G1 : Int32) (G3 : Value) (us ss : Addr) (hX : Ctx Z a0 G1 G3) (hY : More Z us ss) (n0 : Nat) (bk : Addr → Prop) (h0 : Heap) (O0 : Old Z n0 h0) (a : Addr) (t : Addr) (kb : ClassId) (N : Nat) (cs : List Int32) (k : Nat) (pf_0 : SbL Z h0 a t kb N cs) (h1 : N < k) (h2 : k + N + 2 ≤ 130) (hbl : ∀ y, bk y → @LT.lt Nat _ y (Array.size h0)) (nba : ¬ bk a) (ga : n0 ≤ a) (ws : List Jvm.Cond) : Met l Z EL1 n0 bk (⟨"java/lang/AbstractStringBuilder", "ensureCapacityInternal", "(I)V"⟩ : MethodName) jdk_68_method_9_code 3 (Option.none : Option FieldType) RM_ecg #[(.ref a), (.int (Int32.ofNat k))] h0 (Q_ecg Z G1 G3 us ss a t kb N cs k h0 n0 bk) ws := by
  have hX' := hX
  obtain ⟨hw, hE, S1, P1, S3, P3⟩ := hX'
  have hY' := hY
  obtain ⟨s_us, s_ss⟩ := hY'
  have hSA := sa_of hw
  have wT : ∀ (i : Nat) {d : Jvm.Cond}, tables_1[i]? = some d → d.before a0 Z = true := fun i d h => hw d (List.mem_of_getElem? h)
  have z0 : n0 ≤ h0.size := by rw [← O0.1]; exact O0.2.1
  refine Met.of (by decide +kernel) O0 hE ?_
  intro p e s m below meth c hx hby hml hret hlk hnm
  refine k_cast (ef_ecg m a (Int32.ofNat k)) ?_
  show Run p l e _ s m _ below meth c Z EL1 _ n0 bk h0 0 0 (mkF m 0 #[.val (.ref a), .val (.int (Int32.ofNat k)), .unset] []) _
  have ne_1 : @Ne Nat a t := pf_0.2.2.2.2.2.2.2.2
  have lt_2 : @LT.lt Nat _ a (Array.size h0) := pf_0.lt1
  have lt_3 : @LT.lt Nat _ t (Array.size h0) := pf_0.lt2
  have hNN := pf_0.2.2.2.2.2.2.2.1
  have hnN := pf_0.2.2.2.2.2.2.1
  refine k_pure (g' := (mkF m 1 #[.val (.ref a), .val (.int (Int32.ofNat k)), .unset] [(.ref a)])) (fun _ J _ j => XS.aloadN J hx rfl (hb hby d121) rfl rfl j) ?_
  refine k_getF hx (host := "") (Or.inl (wT 42 rfl)) Via.refl pf_0.2.2.1 rfl rfl (hb hby d122) ?_
  show Run p l e _ s m _ below meth c Z EL1 _ n0 bk h0 0 0 (mkF m 4 #[.val (.ref a), .val (.int (Int32.ofNat k)), .unset] [(.ref t)]) _
  refine k_alen hx pf_0.2.2.2.2.1 rfl rfl (hb hby d123) ?_
  show Run p l e _ s m _ below meth c Z EL1 _ n0 bk h0 0 0 (mkF m 5 #[.val (.ref a), .val (.int (Int32.ofNat k)), .unset] [(.int (Int32.ofNat N))]) _
  refine k_pure (g' := (mkF m 6 #[.val (.ref a), .val (.int (Int32.ofNat k)), .unset] [(.ref a), (.int (Int32.ofNat N))])) (fun _ J _ j => XS.aloadN J hx rfl (hb hby d124) rfl rfl j) ?_
  refine k_getF hx (host := "") (Or.inl (wT 44 rfl)) Via.refl pf_0.2.1 rfl rfl (hb hby d125) ?_
  show Run p l e _ s m _ below meth c Z EL1 _ n0 bk h0 0 0 (mkF m 9 #[.val (.ref a), .val (.int (Int32.ofNat k)), .unset] [(.int (0 : Int32)), (.int (Int32.ofNat N))]) _
  refine k_pure (g' := (mkF m 10 #[.val (.ref a), .val (.int (Int32.ofNat k)), .unset] [(.int ((Int32.ofNat N) >>> ((0 : Int32) &&& 31)))])) (fun _ J _ j => XS.ishr J hx rfl (hb hby d126) rfl j) ?_
  rw [shr0]
  show Run p l e _ s m _ below meth c Z EL1 _ n0 bk h0 0 0 (mkF m 10 #[.val (.ref a), .val (.int (Int32.ofNat k)), .unset] [(.int (Int32.ofNat N))]) _
  refine k_pure (g' := (mkF m 11 #[.val (.ref a), .val (.int (Int32.ofNat k)), .val (.int (Int32.ofNat N))] [])) (fun _ J _ j => XS.istoreN J hx rfl (hb hby d127) rfl (l' := #[.val (.ref a), .val (.int (Int32.ofNat k)), .val (.int (Int32.ofNat N))]) rfl j) ?_
  refine k_pure (g' := (mkF m 12 #[.val (.ref a), .val (.int (Int32.ofNat k)), .val (.int (Int32.ofNat N))] [(.int (Int32.ofNat k))])) (fun _ J _ j => XS.iloadN J hx rfl (hb hby d128) rfl j) ?_
  refine k_pure (g' := (mkF m 13 #[.val (.ref a), .val (.int (Int32.ofNat k)), .val (.int (Int32.ofNat N))] [(.int (Int32.ofNat N)), (.int (Int32.ofNat k))])) (fun _ J _ j => XS.iloadN J hx rfl (hb hby d129) rfl j) ?_
  refine k_pure (g' := (mkF m 14 #[.val (.ref a), .val (.int (Int32.ofNat k)), .val (.int (Int32.ofNat N))] [(.int ((Int32.ofNat k) - (Int32.ofNat N)))])) (fun _ J _ j => XS.isub J hx rfl (hb hby d130) rfl j) ?_
  refine k_pure (g' := (mkF m 17 #[.val (.ref a), .val (.int (Int32.ofNat k)), .val (.int (Int32.ofNat N))] [])) (fun _ J _ j => XS.ifNo J hx rfl (hb hby d131) rfl ((if0 _ _).trans (tlt (ens_no h1 (by omega))).2.2.2) j) ?_
  refine k_pure (g' := (mkF m 18 #[.val (.ref a), .val (.int (Int32.ofNat k)), .val (.int (Int32.ofNat N))] [(.ref a)])) (fun _ J _ j => XS.aloadN J hx rfl (hb hby d132) rfl rfl j) ?_
  refine k_pure (g' := (mkF m 19 #[.val (.ref a), .val (.int (Int32.ofNat k)), .val (.int (Int32.ofNat N))] [(.ref a), (.ref a)])) (fun _ J _ j => XS.aloadN J hx rfl (hb hby d133) rfl rfl j) ?_
  refine k_getF hx (host := "") (Or.inl (wT 42 rfl)) Via.refl pf_0.2.2.1 rfl rfl (hb hby d134) ?_
  show Run p l e _ s m _ below meth c Z EL1 _ n0 bk h0 0 0 (mkF m 22 #[.val (.ref a), .val (.int (Int32.ofNat k)), .val (.int (Int32.ofNat N))] [(.ref t), (.ref a)]) _
  refine k_pure (g' := (mkF m 23 #[.val (.ref a), .val (.int (Int32.ofNat k)), .val (.int (Int32.ofNat N))] [(.ref a), (.ref t), (.ref a)])) (fun _ J _ j => XS.aloadN J hx rfl (hb hby d135) rfl rfl j) ?_
  refine k_pure (g' := (mkF m 24 #[.val (.ref a), .val (.int (Int32.ofNat k)), .val (.int (Int32.ofNat N))] [(.int (Int32.ofNat k)), (.ref a), (.ref t), (.ref a)])) (fun _ J _ j => XS.iloadN J hx rfl (hb hby d136) rfl j) ?_
  refine k_callV hx (y := (⟨"java/lang/AbstractStringBuilder", "newCapacity", "(I)I"⟩ : MethodName)) (z := (⟨"java/lang/AbstractStringBuilder", "newCapacity", "(I)I"⟩ : MethodName)) (wT 75 rfl) (decl_of (wT 76 rfl) (wT 79 rfl)) (fun s' hZ => notFace_of_selects (args := #[]) (mv hZ (wT 78 rfl))) (wT 78 rfl) (wT 76 rfl) (by decide) (W := 2) (a := a) (argsL := [(.int (Int32.ofNat k))]) (rest := [(.ref t), (.ref a)]) (Pays.of_met (rm_nca l Z a0 G1 G3 us ss hX hY n0 bk h0 O0 a t kb N cs k pf_0 h1 (by omega) []) (wT 79 rfl) (wT 38 rfl) (by decide) (by decide)) pf_0.1 rfl (by rw [hml]; rfl) (lenOf pd__28_I_29_I rfl) rfl (by show 2 * 0 + _ ≤ _; exact Nat.le_of_eq rfl) (hb hby d137) (by decide) (by decide) ?_
  intro v_4 h_5 bk_6 O_7 z_8 Q_9
  obtain ⟨e_10, rfl, rfl, rfl, P_11⟩ := Q_9
  show Run p l e _ s m _ below meth c Z EL1 _ n0 bk h0 0 0 (mkF m 27 #[.val (.ref a), .val (.int (Int32.ofNat k)), .val (.int (Int32.ofNat N))] [(.int (Int32.ofNat e_10)), (.ref t), (.ref a)]) _
  have hP := P_11
  refine k_pure (g' := (mkF m 28 #[.val (.ref a), .val (.int (Int32.ofNat k)), .val (.int (Int32.ofNat N))] [(.ref a), (.int (Int32.ofNat e_10)), (.ref t), (.ref a)])) (fun _ J _ j => XS.aloadN J hx rfl (hb hby d138) rfl rfl j) ?_
  refine k_getF hx (host := "") (Or.inl (wT 44 rfl)) Via.refl pf_0.2.1 rfl rfl (hb hby d139) ?_
  show Run p l e _ s m _ below meth c Z EL1 _ n0 bk h0 0 0 (mkF m 31 #[.val (.ref a), .val (.int (Int32.ofNat k)), .val (.int (Int32.ofNat N))] [(.int (0 : Int32)), (.int (Int32.ofNat e_10)), (.ref t), (.ref a)]) _
  refine k_pure (g' := (mkF m 32 #[.val (.ref a), .val (.int (Int32.ofNat k)), .val (.int (Int32.ofNat N))] [(.int ((Int32.ofNat e_10) <<< ((0 : Int32) &&& 31))), (.ref t), (.ref a)])) (fun _ J _ j => XS.ishl J hx rfl (hb hby d140) rfl j) ?_
  rw [shl0]
  show Run p l e _ s m _ below meth c Z EL1 _ n0 bk h0 0 0 (mkF m 32 #[.val (.ref a), .val (.int (Int32.ofNat k)), .val (.int (Int32.ofNat N))] [(.int (Int32.ofNat e_10)), (.ref t), (.ref a)]) _
  refine k_callS hx (y := (⟨"java/util/Arrays", "copyOf", "([BI)[B"⟩ : MethodName)) (wT 90 rfl) (wT 91 rfl) (wT 92 rfl) (wT 93 rfl) (by decide) (W := 1) (argsL := [(.ref t), (.int (Int32.ofNat e_10))]) (rest := [(.ref a)]) (Pays.of_met (rm_cof l Z a0 G1 G3 us ss hX hY n0 bk h0 O0 t kb N cs e_10 pf_0.2.2.2.2.1 hnN (by omega) (by omega) hbl []) (wT 93 rfl) (wT 92 rfl) (by decide) (by decide)) rfl (by rw [hml]; rfl) (lenOf pd__28__5b_BI_29__5b_B rfl) rfl (by show 2 * 0 + _ ≤ _; exact Nat.le_of_eq rfl) (hb hby d141) (by decide) (by decide) ?_
  intro v_12 h_13 bk_14 O_15 z_16 Q_17
  obtain ⟨a_18, k_19, rfl, rfl, K_20, F_21, F_22, P_23, P_24⟩ := Q_17
  have lt_25 : @LT.lt Nat _ a_18 (Array.size h_13) := F_21.lt
  have lt_26 : @LT.lt Nat _ a_18 (Array.size h_13) := F_22.lt
  show Run p l e _ s m _ below meth c Z EL1 _ n0 bk h_13 1 130 (mkF m 35 #[.val (.ref a), .val (.int (Int32.ofNat k)), .val (.int (Int32.ofNat N))] [(.ref a_18), (.ref a)]) _
  have F_27 : Fld Z h_13 a "java/lang/AbstractStringBuilder" "value" "[B" (.ref t) := (pf_0.2.2.1.keep K_20 nin0)
  have F_28 : Exa Z h_13 a "java/lang/StringBuilder" := (pf_0.1.keep K_20)
  refine k_putF hx (host := "") (Or.inl (wT 42 rfl)) Via.refl F_27 F_28 (Or.inl (wT 43 rfl)) (wT 29 rfl) (ty := (.array .byte)) (by decide) rfl rfl (by omega) nba rfl rfl (hb hby d142) ?_
  intro h_29 O_31 W_30
  have z_32 := W_30.size
  show Run p l e _ s m _ below meth c Z EL1 _ n0 bk h_29 1 130 (mkF m 38 #[.val (.ref a), .val (.int (Int32.ofNat k)), .val (.int (Int32.ofNat N))] []) _
  have F_33 : Exa Z h_29 a "java/lang/StringBuilder" := (F_28.wr W_30)
  have F_34 : Fld Z h_29 a "java/lang/AbstractStringBuilder" "coder" "B" (.int (0 : Int32)) := ((pf_0.2.1.keep K_20 nin0).other W_30 (Or.inr (RoadKit.slot_ne (C := "java/lang/StringBuilder") (Or.inl (wT 45 rfl)) (Or.inl (wT 43 rfl)) (by decide) (t := .byte) (t' := (.array .byte)) (by decide) (by decide))))
  have F_35 : Fld Z h_29 a "java/lang/AbstractStringBuilder" "count" "I" (.int (Int32.ofNat (cs).length)) := ((pf_0.2.2.2.1.keep K_20 nin0).other W_30 (Or.inr (RoadKit.slot_ne (C := "java/lang/StringBuilder") (Or.inl (wT 69 rfl)) (Or.inl (wT 43 rfl)) (by decide) (t := .int) (t' := (.array .byte)) (by decide) (by decide))))
  have F_36 : Arv Z h_29 a_18 k_19 .byte (Int32.ofNat e_10) (((cs).map (fun c => c.toInt8.toInt32)).map Value.int) (.int 0) := (F_21.other W_30 (ne_ad (by omega)))
  have F_37 : Exa Z h_29 a_18 "[B" := (F_22.wr W_30)
  exact k_ret0 hx hlk hret (hb hby d143) (by decide) (by decide) ⟨a_18, k_19, e_10, rfl, rfl, (((Keep.refl _ _).trans K_20 kk0).wr W_30 (Or.inl (by simp))), ⟨F_33, F_34, (F_27.same W_30), F_35, F_36, pf_0.2.2.2.2.2.1, (by omega), (by omega), (show @Ne Nat _ _ by omega)⟩, F_37, ⟨(by omega), (by omega), (by omega), (by omega)⟩, (by omega), P_24⟩
def Q_eci (Z : State) (G1 : Int32) (G3 : Value) (us ss : Addr) (a : Addr) (t : Addr) (kb : ClassId) (N : Nat) (cs : List Int32) (k : Nat) (h0 : Heap) (n0 : Nat) (bk : Addr → Prop) (v : Option Value) (h : Heap) (bk' : Addr → Prop) : Prop := v = none ∧ h0 = h ∧ bk = bk'
abbrev RM_eci : Room := { frames := 0, cells := 0, slots := 0, locals := 0 }
theorem ef_eci (m : MethodId) (x0 : Addr) (x1 : Int32) : entryFrame m #[(.ref x0), (.int x1)] 3 = mkF m 0 #[.val (.ref x0), .val (.int x1), .unset] [] := by first | (simp [entryFrame, mkF, argsToLocals, Value.category]; done) | rfl
set_option maxRecDepth 65536 in
set_option maxHeartbeats 40000000 in
theorem rm_eci (l : Launch) (Z : State) (a0 : Array Value) (G1 : Int32) (G3 : Value) (us ss : Addr) (hX : Ctx Z a0 G1 G3) (hY : More Z us ss) (n0 : Nat) (bk : Addr → Prop) (h0 : Heap) (O0 : Old Z n0 h0) (a : Addr) (t : Addr) (kb : ClassId) (N : Nat) (cs : List Int32) (k : Nat) (pf_0 : SbL Z h0 a t kb N cs) (hk : k ≤ N) (ws : List Jvm.Cond) : Met l Z EL1 n0 bk (⟨"java/lang/AbstractStringBuilder", "ensureCapacityInternal", "(I)V"⟩ : MethodName) jdk_68_method_9_code 3 (Option.none : Option FieldType) RM_eci #[(.ref a), (.int (Int32.ofNat k))] h0 (Q_eci Z G1 G3 us ss a t kb N cs k h0 n0 bk) ws := by
  have hX' := hX
  obtain ⟨hw, hE, S1, P1, S3, P3⟩ := hX'
  have hY' := hY
  obtain ⟨s_us, s_ss⟩ := hY'
  have hSA := sa_of hw
  have wT : ∀ (i : Nat) {d : Jvm.Cond}, tables_1[i]? = some d → d.before a0 Z = true := fun i d h => hw d (List.mem_of_getElem? h)
  have z0 : n0 ≤ h0.size := by rw [← O0.1]; exact O0.2.1
  refine Met.of (by decide +kernel) O0 hE ?_
  intro p e s m below meth c hx hby hml hret hlk hnm
  refine k_cast (ef_eci m a (Int32.ofNat k)) ?_
  show Run p l e _ s m _ below meth c Z EL1 _ n0 bk h0 0 0 (mkF m 0 #[.val (.ref a), .val (.int (Int32.ofNat k)), .unset] []) _
  have ne_1 : @Ne Nat a t := pf_0.2.2.2.2.2.2.2.2
  have lt_2 : @LT.lt Nat _ a (Array.size h0) := pf_0.lt1
  have lt_3 : @LT.lt Nat _ t (Array.size h0) := pf_0.lt2
  have hNN := pf_0.2.2.2.2.2.2.2.1
  have hnN := pf_0.2.2.2.2.2.2.1
  refine k_pure (g' := (mkF m 1 #[.val (.ref a), .val (.int (Int32.ofNat k)), .unset] [(.ref a)])) (fun _ J _ j => XS.aloadN J hx rfl (hb hby d121) rfl rfl j) ?_
  refine k_getF hx (host := "") (Or.inl (wT 42 rfl)) Via.refl pf_0.2.2.1 rfl rfl (hb hby d122) ?_
  show Run p l e _ s m _ below meth c Z EL1 _ n0 bk h0 0 0 (mkF m 4 #[.val (.ref a), .val (.int (Int32.ofNat k)), .unset] [(.ref t)]) _
  refine k_alen hx pf_0.2.2.2.2.1 rfl rfl (hb hby d123) ?_
  show Run p l e _ s m _ below meth c Z EL1 _ n0 bk h0 0 0 (mkF m 5 #[.val (.ref a), .val (.int (Int32.ofNat k)), .unset] [(.int (Int32.ofNat N))]) _
  refine k_pure (g' := (mkF m 6 #[.val (.ref a), .val (.int (Int32.ofNat k)), .unset] [(.ref a), (.int (Int32.ofNat N))])) (fun _ J _ j => XS.aloadN J hx rfl (hb hby d124) rfl rfl j) ?_
  refine k_getF hx (host := "") (Or.inl (wT 44 rfl)) Via.refl pf_0.2.1 rfl rfl (hb hby d125) ?_
  show Run p l e _ s m _ below meth c Z EL1 _ n0 bk h0 0 0 (mkF m 9 #[.val (.ref a), .val (.int (Int32.ofNat k)), .unset] [(.int (0 : Int32)), (.int (Int32.ofNat N))]) _
  refine k_pure (g' := (mkF m 10 #[.val (.ref a), .val (.int (Int32.ofNat k)), .unset] [(.int ((Int32.ofNat N) >>> ((0 : Int32) &&& 31)))])) (fun _ J _ j => XS.ishr J hx rfl (hb hby d126) rfl j) ?_
  rw [shr0]
  show Run p l e _ s m _ below meth c Z EL1 _ n0 bk h0 0 0 (mkF m 10 #[.val (.ref a), .val (.int (Int32.ofNat k)), .unset] [(.int (Int32.ofNat N))]) _
  refine k_pure (g' := (mkF m 11 #[.val (.ref a), .val (.int (Int32.ofNat k)), .val (.int (Int32.ofNat N))] [])) (fun _ J _ j => XS.istoreN J hx rfl (hb hby d127) rfl (l' := #[.val (.ref a), .val (.int (Int32.ofNat k)), .val (.int (Int32.ofNat N))]) rfl j) ?_
  refine k_pure (g' := (mkF m 12 #[.val (.ref a), .val (.int (Int32.ofNat k)), .val (.int (Int32.ofNat N))] [(.int (Int32.ofNat k))])) (fun _ J _ j => XS.iloadN J hx rfl (hb hby d128) rfl j) ?_
  refine k_pure (g' := (mkF m 13 #[.val (.ref a), .val (.int (Int32.ofNat k)), .val (.int (Int32.ofNat N))] [(.int (Int32.ofNat N)), (.int (Int32.ofNat k))])) (fun _ J _ j => XS.iloadN J hx rfl (hb hby d129) rfl j) ?_
  refine k_pure (g' := (mkF m 14 #[.val (.ref a), .val (.int (Int32.ofNat k)), .val (.int (Int32.ofNat N))] [(.int ((Int32.ofNat k) - (Int32.ofNat N)))])) (fun _ J _ j => XS.isub J hx rfl (hb hby d130) rfl j) ?_
  refine k_pure (g' := (mkF m 38 #[.val (.ref a), .val (.int (Int32.ofNat k)), .val (.int (Int32.ofNat N))] [])) (fun _ J _ j => XS.ifYes J hx rfl (pc0 := 14) (pc' := 38) rfl (hb hby d131) rfl ((if0 _ _).trans (flt (ens_ok hk (by omega))).2.2.2) (by decide) (by decide) j) ?_
  exact k_ret0 hx hlk hret (hb hby d143) (by decide) (by decide) ⟨rfl, rfl, rfl⟩
def Q_inf (Z : State) (G1 : Int32) (G3 : Value) (us ss : Addr) (a : Addr) (t : Addr) (kb : ClassId) (N : Nat) (cs : List Int32) (b : Addr) (t2 : Addr) (kb2 : ClassId) (ds : List Int32) (h0 : Heap) (n0 : Nat) (bk : Addr → Prop) (v : Option Value) (h : Heap) (bk' : Addr → Prop) : Prop := v = none ∧ h0 = h ∧ bk = bk'
theorem d144 : decode jdk_68_method_71_code 0 = .ok (.getstatic 18, 3) := by decide +kernel
theorem d145 : decode jdk_68_method_71_code 3 = .ok (.ifCond .eq 18, 3) := by decide +kernel
theorem d146 : decode jdk_68_method_71_code 6 = .ok (.aload_n 0, 1) := by decide +kernel
theorem d147 : decode jdk_68_method_71_code 7 = .ok (.getfield 22, 3) := by decide +kernel
theorem d148 : decode jdk_68_method_71_code 10 = .ok (.aload_n 1, 1) := by decide +kernel
theorem d149 : decode jdk_68_method_71_code 11 = .ok (.invokevirtual 40, 3) := by decide +kernel
theorem pd__28__29_B : parseMethodDescriptor "()B" = some ⟨[], some .byte⟩ := by decide +kernel
theorem d150 : decode jdk_68_method_71_code 14 = .ok (.if_icmp .eq 7, 3) := by decide +kernel
theorem d151 : decode jdk_68_method_71_code 21 = .ok (.return_, 1) := by decide +kernel
abbrev RM_inf : Room := { frames := 1, cells := 0, slots := 0, locals := 13 }
theorem ef_inf (m : MethodId) (x0 : Addr) (x1 : Addr) : entryFrame m #[(.ref x0), (.ref x1)] 2 = mkF m 0 #[.val (.ref x0), .val (.ref x1)] [] := by first | (simp [entryFrame, mkF, argsToLocals, Value.category]; done) | rfl
set_option maxRecDepth 65536 in
set_option maxHeartbeats 40000000 in
theorem rm_inf (l : Launch) (Z : State) (a0 : Array Value) (G1 : Int32) (G3 : Value) (us ss : Addr) (hX : Ctx Z a0 G1 G3) (hY : More Z us ss) (n0 : Nat) (bk : Addr → Prop) (h0 : Heap) (O0 : Old Z n0 h0) (a : Addr) (t : Addr) (kb : ClassId) (N : Nat) (cs : List Int32) (b : Addr) (t2 : Addr) (kb2 : ClassId) (ds : List Int32) (pf_0 : SbL Z h0 a t kb N cs) (pf_1 : StrL Z h0 b t2 kb2 ds) (ws : List Jvm.Cond) : Met l Z EL1 n0 bk (⟨"java/lang/AbstractStringBuilder", "inflateIfNeededFor", "(Ljava/lang/String;)V"⟩ : MethodName) jdk_68_method_71_code 2 (Option.none : Option FieldType) RM_inf #[(.ref a), (.ref b)] h0 (Q_inf Z G1 G3 us ss a t kb N cs b t2 kb2 ds h0 n0 bk) ws := by
  have hX' := hX
  obtain ⟨hw, hE, S1, P1, S3, P3⟩ := hX'
  have hY' := hY
  obtain ⟨s_us, s_ss⟩ := hY'
  have hSA := sa_of hw
  have wT : ∀ (i : Nat) {d : Jvm.Cond}, tables_1[i]? = some d → d.before a0 Z = true := fun i d h => hw d (List.mem_of_getElem? h)
  have z0 : n0 ≤ h0.size := by rw [← O0.1]; exact O0.2.1
  refine Met.of (by decide +kernel) O0 hE ?_
  intro p e s m below meth c hx hby hml hret hlk hnm
  refine k_cast (ef_inf m a b) ?_
  show Run p l e _ s m _ below meth c Z EL1 _ n0 bk h0 0 0 (mkF m 0 #[.val (.ref a), .val (.ref b)] []) _
  have ne_1 : @Ne Nat a t := pf_0.2.2.2.2.2.2.2.2
  have lt_2 : @LT.lt Nat _ a (Array.size h0) := pf_0.lt1
  have lt_3 : @LT.lt Nat _ t (Array.size h0) := pf_0.lt2
  have lt_4 : @LT.lt Nat _ b (Array.size h0) := pf_1.lt1
  have lt_5 : @LT.lt Nat _ t2 (Array.size h0) := pf_1.lt2
  refine k_getS hx (host := "") (Or.inl (wT 41 rfl)) Via.refl (S1.ext O0.2) rfl (hb hby d144) ?_
  show Run p l e _ s m _ below meth c Z EL1 _ n0 bk h0 0 0 (mkF m 3 #[.val (.ref a), .val (.ref b)] [(.int G1)]) _
  refine k_pure (g' := (mkF m 6 #[.val (.ref a), .val (.ref b)] [])) (fun _ J _ j => XS.ifNo J hx rfl (hb hby d145) rfl ((if0 _ _).trans (feq P1).1) j) ?_
  refine k_pure (g' := (mkF m 7 #[.val (.ref a), .val (.ref b)] [(.ref a)])) (fun _ J _ j => XS.aloadN J hx rfl (hb hby d146) rfl rfl j) ?_
  refine k_getF hx (host := "") (Or.inl (wT 44 rfl)) Via.refl pf_0.2.1 rfl rfl (hb hby d147) ?_
  show Run p l e _ s m _ below meth c Z EL1 _ n0 bk h0 0 0 (mkF m 10 #[.val (.ref a), .val (.ref b)] [(.int (0 : Int32))]) _
  refine k_pure (g' := (mkF m 11 #[.val (.ref a), .val (.ref b)] [(.ref b), (.int (0 : Int32))])) (fun _ J _ j => XS.aloadN J hx rfl (hb hby d148) rfl rfl j) ?_
  refine k_callV hx (y := (⟨"java/lang/String", "coder", "()B"⟩ : MethodName)) (z := (⟨"java/lang/String", "coder", "()B"⟩ : MethodName)) (wT 111 rfl) (wT 63 rfl) (fun s' hZ => notFace_of_selects (args := #[]) (mv hZ (wT 65 rfl))) (wT 65 rfl) (wT 64 rfl) (by decide) (W := 1) (a := b) (argsL := []) (rest := [(.int (0 : Int32))]) (Pays.of_met (rm_coder l Z a0 G1 G3 us ss hX hY n0 bk h0 O0 b t2 kb2 ds pf_1 []) (wT 66 rfl) (wT 2 rfl) (by decide) (by decide)) pf_1.1 rfl (by rw [hml]; rfl) (lenOf pd__28__29_B rfl) rfl (by show 2 * 0 + _ ≤ _; exact Nat.le_of_eq rfl) (hb hby d149) (by decide) (by decide) ?_
  intro v_6 h_7 bk_8 O_9 z_10 Q_11
  obtain ⟨rfl, rfl, rfl⟩ := Q_11
  show Run p l e _ s m _ below meth c Z EL1 _ n0 bk h0 0 0 (mkF m 14 #[.val (.ref a), .val (.ref b)] [(.int (0 : Int32)), (.int (0 : Int32))]) _
  refine k_pure (g' := (mkF m 21 #[.val (.ref a), .val (.ref b)] [])) (fun _ J _ j => XS.icmpYes J hx rfl (pc0 := 14) (pc' := 21) rfl (hb hby d150) rfl (teq (by decide : ((0 : Int32) = (0 : Int32)))).1 (by decide) (by decide) j) ?_
  exact k_ret0 hx hlk hret (hb hby d151) (by decide) (by decide) ⟨rfl, rfl, rfl⟩
def Q_gby (Z : State) (G1 : Int32) (G3 : Value) (us ss : Addr) (t : Addr) (kb : ClassId) (N : Nat) (cs : List Int32) (b : Addr) (t2 : Addr) (kb2 : ClassId) (ds : List Int32) (h0 : Heap) (n0 : Nat) (bk : Addr → Prop) (v : Option Value) (h : Heap) (bk' : Addr → Prop) : Prop := v = none ∧ bk = bk' ∧ Keep h0 h [t] ∧ (Arv Z h t kb .byte (Int32.ofNat N) (((cs ++ ds).map (fun c => c.toInt8.toInt32)).map Value.int) (.int 0))
theorem d152 : decode jdk_42_method_147_code 0 = .ok (.aload_n 0, 1) := by decide +kernel
theorem d153 : decode jdk_42_method_147_code 1 = .ok (.invokevirtual 335, 3) := by decide +kernel
theorem d154 : decode jdk_42_method_147_code 4 = .ok (.iload_n 3, 1) := by decide +kernel
theorem d155 : decode jdk_42_method_147_code 5 = .ok (.if_icmp .ne 23, 3) := by decide +kernel
theorem d156 : decode jdk_42_method_147_code 8 = .ok (.aload_n 0, 1) := by decide +kernel
theorem d157 : decode jdk_42_method_147_code 9 = .ok (.getfield 9, 3) := by decide +kernel
theorem d158 : decode jdk_42_method_147_code 12 = .ok (.iconst 0, 1) := by decide +kernel
theorem d159 : decode jdk_42_method_147_code 13 = .ok (.aload_n 1, 1) := by decide +kernel
theorem d160 : decode jdk_42_method_147_code 14 = .ok (.iload_n 2, 1) := by decide +kernel
theorem d161 : decode jdk_42_method_147_code 15 = .ok (.iload_n 3, 1) := by decide +kernel
theorem d162 : decode jdk_42_method_147_code 16 = .ok (.ishl, 1) := by decide +kernel
theorem d163 : decode jdk_42_method_147_code 17 = .ok (.aload_n 0, 1) := by decide +kernel
theorem d164 : decode jdk_42_method_147_code 18 = .ok (.getfield 9, 3) := by decide +kernel
theorem d165 : decode jdk_42_method_147_code 21 = .ok (.arraylength, 1) := by decide +kernel
theorem d166 : decode jdk_42_method_147_code 22 = .ok (.invokestatic 212, 3) := by decide +kernel
theorem d167 : decode jdk_42_method_147_code 25 = .ok (.goto 18, 3) := by decide +kernel
theorem d168 : decode jdk_42_method_147_code 43 = .ok (.return_, 1) := by decide +kernel
abbrev RM_gby : Room := { frames := 1, cells := 0, slots := 0, locals := 18 }
theorem ef_gby (m : MethodId) (x0 : Addr) (x1 : Addr) (x2 : Int32) (x3 : Int32) : entryFrame m #[(.ref x0), (.ref x1), (.int x2), (.int x3)] 4 = mkF m 0 #[.val (.ref x0), .val (.ref x1), .val (.int x2), .val (.int x3)] [] := by first | (simp [entryFrame, mkF, argsToLocals, Value.category]; done) | rfl
set_option maxRecDepth 65536 in
set_option maxHeartbeats 40000000 in
theorem rm_gby (l : Launch) (Z : State) (a0 : Array Value) (G1 : Int32) (G3 : Value) (us ss : Addr) (hX : Ctx Z a0 G1 G3) (hY : More Z us ss) (n0 : Nat) (bk : Addr → Prop) (h0 : Heap) (O0 : Old Z n0 h0) (t : Addr) (kb : ClassId) (N : Nat) (cs : List Int32) (b : Addr) (t2 : Addr) (kb2 : ClassId) (ds : List Int32) (pf_0 : StrL Z h0 b t2 kb2 ds) (pf_1 : Arv Z h0 t kb .byte (Int32.ofNat N) (((cs).map (fun c => c.toInt8.toInt32)).map Value.int) (.int 0)) (hl : cs.length + ds.length ≤ N) (hN : N ≤ 4000) (nbt : ¬ bk t) (gt : n0 ≤ t) (ws : List Jvm.Cond) : Met l Z EL1 n0 bk (⟨"java/lang/String", "getBytes", "([BIB)V"⟩ : MethodName) jdk_42_method_147_code 4 (Option.none : Option FieldType) RM_gby #[(.ref b), (.ref t), (.int (Int32.ofNat (cs).length)), (.int (0 : Int32))] h0 (Q_gby Z G1 G3 us ss t kb N cs b t2 kb2 ds h0 n0 bk) ws := by
  have hX' := hX
  obtain ⟨hw, hE, S1, P1, S3, P3⟩ := hX'
  have hY' := hY
  obtain ⟨s_us, s_ss⟩ := hY'
  have hSA := sa_of hw
  have wT : ∀ (i : Nat) {d : Jvm.Cond}, tables_1[i]? = some d → d.before a0 Z = true := fun i d h => hw d (List.mem_of_getElem? h)
  have z0 : n0 ≤ h0.size := by rw [← O0.1]; exact O0.2.1
  refine Met.of (by decide +kernel) O0 hE ?_
  intro p e s m below meth c hx hby hml hret hlk hnm
  refine k_cast (ef_gby m b t (Int32.ofNat (cs).length) (0 : Int32)) ?_
  show Run p l e _ s m _ below meth c Z EL1 _ n0 bk h0 0 0 (mkF m 0 #[.val (.ref b), .val (.ref t), .val (.int (Int32.ofNat (cs).length)), .val (.int (0 : Int32))] []) _
  have lt_1 : @LT.lt Nat _ b (Array.size h0) := pf_0.lt1
  have lt_2 : @LT.lt Nat _ t2 (Array.size h0) := pf_0.lt2
  have lt_3 : @LT.lt Nat _ t (Array.size h0) := pf_1.lt
  refine k_pure (g' := (mkF m 1 #[.val (.ref b), .val (.ref t), .val (.int (Int32.ofNat (cs).length)), .val (.int (0 : Int32))] [(.ref b)])) (fun _ J _ j => XS.aloadN J hx rfl (hb hby d152) rfl rfl j) ?_
  refine k_callV hx (y := (⟨"java/lang/String", "coder", "()B"⟩ : MethodName)) (z := (⟨"java/lang/String", "coder", "()B"⟩ : MethodName)) (wT 62 rfl) (wT 63 rfl) (fun s' hZ => notFace_of_selects (args := #[]) (mv hZ (wT 65 rfl))) (wT 65 rfl) (wT 64 rfl) (by decide) (W := 0) (a := b) (argsL := []) (rest := []) (Pays.of_met (rm_coder l Z a0 G1 G3 us ss hX hY n0 bk h0 O0 b t2 kb2 ds pf_0 []) (wT 66 rfl) (wT 2 rfl) (by decide) (by decide)) pf_0.1 rfl (by rw [hml]; rfl) (lenOf pd__28__29_B rfl) rfl (by show 2 * 0 + _ ≤ _; exact Nat.le_of_eq rfl) (hb hby d153) (by decide) (by decide) ?_
  intro v_4 h_5 bk_6 O_7 z_8 Q_9
  obtain ⟨rfl, rfl, rfl⟩ := Q_9
  show Run p l e _ s m _ below meth c Z EL1 _ n0 bk h0 0 0 (mkF m 4 #[.val (.ref b), .val (.ref t), .val (.int (Int32.ofNat (cs).length)), .val (.int (0 : Int32))] [(.int (0 : Int32))]) _
  refine k_pure (g' := (mkF m 5 #[.val (.ref b), .val (.ref t), .val (.int (Int32.ofNat (cs).length)), .val (.int (0 : Int32))] [(.int (0 : Int32)), (.int (0 : Int32))])) (fun _ J _ j => XS.iloadN J hx rfl (hb hby d154) rfl j) ?_
  refine k_pure (g' := (mkF m 8 #[.val (.ref b), .val (.ref t), .val (.int (Int32.ofNat (cs).length)), .val (.int (0 : Int32))] [])) (fun _ J _ j => XS.icmpNo J hx rfl (hb hby d155) rfl (teq (by decide : ((0 : Int32) = (0 : Int32)))).2 j) ?_
  refine k_pure (g' := (mkF m 9 #[.val (.ref b), .val (.ref t), .val (.int (Int32.ofNat (cs).length)), .val (.int (0 : Int32))] [(.ref b)])) (fun _ J _ j => XS.aloadN J hx rfl (hb hby d156) rfl rfl j) ?_
  refine k_getF hx (host := "") (Or.inl (wT 20 rfl)) Via.refl pf_0.2.2.1 rfl rfl (hb hby d157) ?_
  show Run p l e _ s m _ below meth c Z EL1 _ n0 bk h0 0 0 (mkF m 12 #[.val (.ref b), .val (.ref t), .val (.int (Int32.ofNat (cs).length)), .val (.int (0 : Int32))] [(.ref t2)]) _
  refine k_pure (g' := (mkF m 13 #[.val (.ref b), .val (.ref t), .val (.int (Int32.ofNat (cs).length)), .val (.int (0 : Int32))] [(.int (0 : Int32)), (.ref t2)])) (fun _ J _ j => XS.iconst J hx rfl (hb hby d158) j) ?_
  refine k_pure (g' := (mkF m 14 #[.val (.ref b), .val (.ref t), .val (.int (Int32.ofNat (cs).length)), .val (.int (0 : Int32))] [(.ref t), (.int (0 : Int32)), (.ref t2)])) (fun _ J _ j => XS.aloadN J hx rfl (hb hby d159) rfl rfl j) ?_
  refine k_pure (g' := (mkF m 15 #[.val (.ref b), .val (.ref t), .val (.int (Int32.ofNat (cs).length)), .val (.int (0 : Int32))] [(.int (Int32.ofNat (cs).length)), (.ref t), (.int (0 : Int32)), (.ref t2)])) (fun _ J _ j => XS.iloadN J hx rfl (hb hby d160) rfl j) ?_
  refine k_pure (g' := (mkF m 16 #[.val (.ref b), .val (.ref t), .val (.int (Int32.ofNat (cs).length)), .val (.int (0 : Int32))] [(.int (0 : Int32)), (.int (Int32.ofNat (cs).length)), (.ref t), (.int (0 : Int32)), (.ref t2)])) (fun _ J _ j => XS.iloadN J hx rfl (hb hby d161) rfl j) ?_
  refine k_pure (g' := (mkF m 17 #[.val (.ref b), .val (.ref t), .val (.int (Int32.ofNat (cs).length)), .val (.int (0 : Int32))] [(.int ((Int32.ofNat (cs).length) <<< ((0 : Int32) &&& 31))), (.ref t), (.int (0 : Int32)), (.ref t2)])) (fun _ J _ j => XS.ishl J hx rfl (hb hby d162) rfl j) ?_
  rw [shl0]
  show Run p l e _ s m _ below meth c Z EL1 _ n0 bk h0 0 0 (mkF m 17 #[.val (.ref b), .val (.ref t), .val (.int (Int32.ofNat (cs).length)), .val (.int (0 : Int32))] [(.int (Int32.ofNat (cs).length)), (.ref t), (.int (0 : Int32)), (.ref t2)]) _
  refine k_pure (g' := (mkF m 18 #[.val (.ref b), .val (.ref t), .val (.int (Int32.ofNat (cs).length)), .val (.int (0 : Int32))] [(.ref b), (.int (Int32.ofNat (cs).length)), (.ref t), (.int (0 : Int32)), (.ref t2)])) (fun _ J _ j => XS.aloadN J hx rfl (hb hby d163) rfl rfl j) ?_
  refine k_getF hx (host := "") (Or.inl (wT 20 rfl)) Via.refl pf_0.2.2.1 rfl rfl (hb hby d164) ?_
  show Run p l e _ s m _ below meth c Z EL1 _ n0 bk h0 0 0 (mkF m 21 #[.val (.ref b), .val (.ref t), .val (.int (Int32.ofNat (cs).length)), .val (.int (0 : Int32))] [(.ref t2), (.int (Int32.ofNat (cs).length)), (.ref t), (.int (0 : Int32)), (.ref t2)]) _
  refine k_alen hx pf_0.2.2.2.1 rfl rfl (hb hby d165) ?_
  show Run p l e _ s m _ below meth c Z EL1 _ n0 bk h0 0 0 (mkF m 22 #[.val (.ref b), .val (.ref t), .val (.int (Int32.ofNat (cs).length)), .val (.int (0 : Int32))] [(.int (Int32.ofNat (ds).length)), (.int (Int32.ofNat (cs).length)), (.ref t), (.int (0 : Int32)), (.ref t2)]) _
  have B_10 : Arv Z h0 t kb .byte (Int32.ofNat N) (((cs).map (fun c => c.toInt8.toInt32)).map Value.int ++ List.replicate (ds).length (Value.int 0)) (.int 0) := Arv.pad pf_1 (pad_rep _ (.int 0) (ds).length)
  refine k_cpA hx (wT 117 rfl) (wT 100 rfl) (wT 98 rfl) (wT 99 rfl) pf_0.2.2.2.1 B_10 (Or.inl ⟨rfl, rfl⟩) (by decide) (not_lt_nat (n := 0) (Nat.zero_le _) (by omega)) (not_lt_nat (n := 0) (Nat.zero_le _) (by omega)) (Nat.le_of_eq (Nat.zero_add _)) (by rw [clampN (by omega), clampN (by omega), clampN (by omega)]; exact hl) rfl (by rw [clampN (by omega), clampN (by omega)]; simp) (by omega) nbt rfl (by rw [hml]; rfl) rfl (hb hby d166) (by decide) (W := 0) (by show 2 * 0 + _ ≤ _; exact Nat.le_of_eq rfl) (by decide) ?_
  intro h_11 O_12 K_13 V_14
  have z_15 := K_13.1
  have V_16 : Arv Z h_11 t kb .byte (Int32.ofNat N) (((cs ++ ds).map (fun c => c.toInt8.toInt32)).map Value.int) (.int 0) := (cpy_app (cs := cs) (ds := ds) (by omega) (by omega)) ▸ V_14
  show Run p l e _ s m _ below meth c Z EL1 _ n0 bk h_11 0 0 (mkF m 25 #[.val (.ref b), .val (.ref t), .val (.int (Int32.ofNat (cs).length)), .val (.int (0 : Int32))] []) _
  refine k_pure (g' := (mkF m 43 #[.val (.ref b), .val (.ref t), .val (.int (Int32.ofNat (cs).length)), .val (.int (0 : Int32))] [])) (fun _ J _ j => XS.goto J hx rfl (pc0 := 25) (pc' := 43) rfl (hb hby d167) (by decide) (by decide) j) ?_
  exact k_ret0 hx hlk hret (hb hby d168) (by decide) (by decide) ⟨rfl, rfl, ((Keep.refl _ _).trans K_13 (kkS (Or.inl (by simp)) kk0)), V_16⟩
def Q_psa (Z : State) (G1 : Int32) (G3 : Value) (us ss : Addr) (a : Addr) (t : Addr) (kb : ClassId) (N : Nat) (cs : List Int32) (b : Addr) (t2 : Addr) (kb2 : ClassId) (ds : List Int32) (h0 : Heap) (n0 : Nat) (bk : Addr → Prop) (v : Option Value) (h : Heap) (bk' : Addr → Prop) : Prop := v = none ∧ bk = bk' ∧ Keep h0 h [t] ∧ (Arv Z h t kb .byte (Int32.ofNat N) (((cs ++ ds).map (fun c => c.toInt8.toInt32)).map Value.int) (.int 0))
theorem d169 : decode jdk_68_method_73_code 0 = .ok (.aload_n 0, 1) := by decide +kernel
theorem d170 : decode jdk_68_method_73_code 1 = .ok (.aload_n 2, 1) := by decide +kernel
theorem d171 : decode jdk_68_method_73_code 2 = .ok (.invokevirtual 397, 3) := by decide +kernel
theorem pd__28_Ljava_2f_lang_2f_String_3b__29_V : parseMethodDescriptor "(Ljava/lang/String;)V" = some ⟨[(.object "java/lang/String")], none⟩ := by decide +kernel
theorem d172 : decode jdk_68_method_73_code 5 = .ok (.aload_n 2, 1) := by decide +kernel
theorem d173 : decode jdk_68_method_73_code 6 = .ok (.aload_n 0, 1) := by decide +kernel
theorem d174 : decode jdk_68_method_73_code 7 = .ok (.getfield 15, 3) := by decide +kernel
theorem d175 : decode jdk_68_method_73_code 10 = .ok (.iload_n 1, 1) := by decide +kernel
theorem d176 : decode jdk_68_method_73_code 11 = .ok (.aload_n 0, 1) := by decide +kernel
theorem d177 : decode jdk_68_method_73_code 12 = .ok (.getfield 22, 3) := by decide +kernel
theorem d178 : decode jdk_68_method_73_code 15 = .ok (.invokevirtual 399, 3) := by decide +kernel
theorem pd__28__5b_BIB_29_V : parseMethodDescriptor "([BIB)V" = some ⟨[(.array .byte), .int, .byte], none⟩ := by decide +kernel
theorem d179 : decode jdk_68_method_73_code 18 = .ok (.return_, 1) := by decide +kernel
abbrev RM_psa : Room := { frames := 2, cells := 0, slots := 0, locals := 33 }
theorem ef_psa (m : MethodId) (x0 : Addr) (x1 : Int32) (x2 : Addr) : entryFrame m #[(.ref x0), (.int x1), (.ref x2)] 3 = mkF m 0 #[.val (.ref x0), .val (.int x1), .val (.ref x2)] [] := by first | (simp [entryFrame, mkF, argsToLocals, Value.category]; done) | rfl
set_option maxRecDepth 65536 in
set_option maxHeartbeats 40000000 in
theorem rm_psa (l : Launch) (Z : State) (a0 : Array Value) (G1 : Int32) (G3 : Value) (us ss : Addr) (hX : Ctx Z a0 G1 G3) (hY : More Z us ss) (n0 : Nat) (bk : Addr → Prop) (h0 : Heap) (O0 : Old Z n0 h0) (a : Addr) (t : Addr) (kb : ClassId) (N : Nat) (cs : List Int32) (b : Addr) (t2 : Addr) (kb2 : ClassId) (ds : List Int32) (pf_0 : SbL Z h0 a t kb N cs) (pf_1 : StrL Z h0 b t2 kb2 ds) (hl : cs.length + ds.length ≤ N) (nba : ¬ bk a) (nbt : ¬ bk t) (ga : n0 ≤ a) (gt : n0 ≤ t) (ws : List Jvm.Cond) : Met l Z EL1 n0 bk (⟨"java/lang/AbstractStringBuilder", "putStringAt", "(ILjava/lang/String;)V"⟩ : MethodName) jdk_68_method_73_code 3 (Option.none : Option FieldType) RM_psa #[(.ref a), (.int (Int32.ofNat (cs).length)), (.ref b)] h0 (Q_psa Z G1 G3 us ss a t kb N cs b t2 kb2 ds h0 n0 bk) ws := by
  have hX' := hX
  obtain ⟨hw, hE, S1, P1, S3, P3⟩ := hX'
  have hY' := hY
  obtain ⟨s_us, s_ss⟩ := hY'
  have hSA := sa_of hw
  have wT : ∀ (i : Nat) {d : Jvm.Cond}, tables_1[i]? = some d → d.before a0 Z = true := fun i d h => hw d (List.mem_of_getElem? h)
  have z0 : n0 ≤ h0.size := by rw [← O0.1]; exact O0.2.1
  refine Met.of (by decide +kernel) O0 hE ?_
  intro p e s m below meth c hx hby hml hret hlk hnm
  refine k_cast (ef_psa m a (Int32.ofNat (cs).length) b) ?_
  show Run p l e _ s m _ below meth c Z EL1 _ n0 bk h0 0 0 (mkF m 0 #[.val (.ref a), .val (.int (Int32.ofNat (cs).length)), .val (.ref b)] []) _
  have ne_1 : @Ne Nat a t := pf_0.2.2.2.2.2.2.2.2
  have lt_2 : @LT.lt Nat _ a (Array.size h0) := pf_0.lt1
  have lt_3 : @LT.lt Nat _ t (Array.size h0) := pf_0.lt2
  have lt_4 : @LT.lt Nat _ b (Array.size h0) := pf_1.lt1
  have lt_5 : @LT.lt Nat _ t2 (Array.size h0) := pf_1.lt2
  refine k_pure (g' := (mkF m 1 #[.val (.ref a), .val (.int (Int32.ofNat (cs).length)), .val (.ref b)] [(.ref a)])) (fun _ J _ j => XS.aloadN J hx rfl (hb hby d169) rfl rfl j) ?_
  refine k_pure (g' := (mkF m 2 #[.val (.ref a), .val (.int (Int32.ofNat (cs).length)), .val (.ref b)] [(.ref b), (.ref a)])) (fun _ J _ j => XS.aloadN J hx rfl (hb hby d170) rfl rfl j) ?_
  refine k_callV hx (y := (⟨"java/lang/AbstractStringBuilder", "inflateIfNeededFor", "(Ljava/lang/String;)V"⟩ : MethodName)) (z := (⟨"java/lang/AbstractStringBuilder", "inflateIfNeededFor", "(Ljava/lang/String;)V"⟩ : MethodName)) (wT 106 rfl) (decl_of (wT 107 rfl) (wT 110 rfl)) (fun s' hZ => notFace_of_selects (args := #[]) (mv hZ (wT 109 rfl))) (wT 109 rfl) (wT 107 rfl) (by decide) (W := 0) (a := a) (argsL := [(.ref b)]) (rest := []) (Pays.of_met (rm_inf l Z a0 G1 G3 us ss hX hY n0 bk h0 O0 a t kb N cs b t2 kb2 ds pf_0 pf_1 []) (wT 110 rfl) (wT 38 rfl) (by decide) (by decide)) pf_0.1 rfl (by rw [hml]; rfl) (lenOf pd__28_Ljava_2f_lang_2f_String_3b__29_V rfl) rfl (by show 2 * 0 + _ ≤ _; exact Nat.le_of_eq rfl) (hb hby d171) (by decide) (by decide) ?_
  intro v_6 h_7 bk_8 O_9 z_10 Q_11
  obtain ⟨rfl, rfl, rfl⟩ := Q_11
  show Run p l e _ s m _ below meth c Z EL1 _ n0 bk h0 0 0 (mkF m 5 #[.val (.ref a), .val (.int (Int32.ofNat (cs).length)), .val (.ref b)] []) _
  refine k_pure (g' := (mkF m 6 #[.val (.ref a), .val (.int (Int32.ofNat (cs).length)), .val (.ref b)] [(.ref b)])) (fun _ J _ j => XS.aloadN J hx rfl (hb hby d172) rfl rfl j) ?_
  refine k_pure (g' := (mkF m 7 #[.val (.ref a), .val (.int (Int32.ofNat (cs).length)), .val (.ref b)] [(.ref a), (.ref b)])) (fun _ J _ j => XS.aloadN J hx rfl (hb hby d173) rfl rfl j) ?_
  refine k_getF hx (host := "") (Or.inl (wT 42 rfl)) Via.refl pf_0.2.2.1 rfl rfl (hb hby d174) ?_
  show Run p l e _ s m _ below meth c Z EL1 _ n0 bk h0 0 0 (mkF m 10 #[.val (.ref a), .val (.int (Int32.ofNat (cs).length)), .val (.ref b)] [(.ref t), (.ref b)]) _
  refine k_pure (g' := (mkF m 11 #[.val (.ref a), .val (.int (Int32.ofNat (cs).length)), .val (.ref b)] [(.int (Int32.ofNat (cs).length)), (.ref t), (.ref b)])) (fun _ J _ j => XS.iloadN J hx rfl (hb hby d175) rfl j) ?_
  refine k_pure (g' := (mkF m 12 #[.val (.ref a), .val (.int (Int32.ofNat (cs).length)), .val (.ref b)] [(.ref a), (.int (Int32.ofNat (cs).length)), (.ref t), (.ref b)])) (fun _ J _ j => XS.aloadN J hx rfl (hb hby d176) rfl rfl j) ?_
  refine k_getF hx (host := "") (Or.inl (wT 44 rfl)) Via.refl pf_0.2.1 rfl rfl (hb hby d177) ?_
  show Run p l e _ s m _ below meth c Z EL1 _ n0 bk h0 0 0 (mkF m 15 #[.val (.ref a), .val (.int (Int32.ofNat (cs).length)), .val (.ref b)] [(.int (0 : Int32)), (.int (Int32.ofNat (cs).length)), (.ref t), (.ref b)]) _
  refine k_callV hx (y := (⟨"java/lang/String", "getBytes", "([BIB)V"⟩ : MethodName)) (z := (⟨"java/lang/String", "getBytes", "([BIB)V"⟩ : MethodName)) (wT 112 rfl) (wT 113 rfl) (fun s' hZ => notFace_of_selects (args := #[]) (mv hZ (wT 115 rfl))) (wT 115 rfl) (wT 114 rfl) (by decide) (W := 0) (a := b) (argsL := [(.ref t), (.int (Int32.ofNat (cs).length)), (.int (0 : Int32))]) (rest := []) (Pays.of_met (rm_gby l Z a0 G1 G3 us ss hX hY n0 bk h0 O0 t kb N cs b t2 kb2 ds pf_1 pf_0.2.2.2.2.1 hl pf_0.2.2.2.2.2.2.2.1 nbt (by omega) []) (wT 116 rfl) (wT 2 rfl) (by decide) (by decide)) pf_1.1 rfl (by rw [hml]; rfl) (lenOf pd__28__5b_BIB_29_V rfl) rfl (by show 2 * 0 + _ ≤ _; exact Nat.le_of_eq rfl) (hb hby d178) (by decide) (by decide) ?_
  intro v_12 h_13 bk_14 O_15 z_16 Q_17
  obtain ⟨rfl, rfl, K_18, F_19⟩ := Q_17
  have lt_20 : @LT.lt Nat _ t (Array.size h_13) := F_19.lt
  show Run p l e _ s m _ below meth c Z EL1 _ n0 bk h_13 0 0 (mkF m 18 #[.val (.ref a), .val (.int (Int32.ofNat (cs).length)), .val (.ref b)] []) _
  exact k_ret0 hx hlk hret (hb hby d179) (by decide) (by decide) ⟨rfl, rfl, ((Keep.refl _ _).trans K_18 (kkS (Or.inl (by simp)) kk0)), F_19⟩
def Q_aps (Z : State) (G1 : Int32) (G3 : Value) (us ss : Addr) (a : Addr) (t : Addr) (kb : ClassId) (N : Nat) (cs : List Int32) (b : Addr) (t2 : Addr) (kb2 : ClassId) (ds : List Int32) (h0 : Heap) (n0 : Nat) (bk : Addr → Prop) (v : Option Value) (h : Heap) (bk' : Addr → Prop) : Prop := v = some (.ref a) ∧ bk = bk' ∧ Keep h0 h [a, t] ∧ (SbL Z h a t kb N (cs ++ ds))
theorem d180 : decode jdk_68_method_22_code 0 = .ok (.aload_n 1, 1) := by decide +kernel
theorem d181 : decode jdk_68_method_22_code 1 = .ok (.ifnonnull 8, 3) := by decide +kernel
theorem d182 : decode jdk_68_method_22_code 9 = .ok (.aload_n 1, 1) := by decide +kernel
theorem d183 : decode jdk_68_method_22_code 10 = .ok (.invokevirtual 32, 3) := by decide +kernel
theorem pd__28__29_I : parseMethodDescriptor "()I" = some ⟨[], some .int⟩ := by decide +kernel
theorem d184 : decode jdk_68_method_22_code 13 = .ok (.istore_n 2, 1) := by decide +kernel
theorem d185 : decode jdk_68_method_22_code 14 = .ok (.aload_n 0, 1) := by decide +kernel
theorem d186 : decode jdk_68_method_22_code 15 = .ok (.aload_n 0, 1) := by decide +kernel
theorem d187 : decode jdk_68_method_22_code 16 = .ok (.getfield 79, 3) := by decide +kernel
theorem d188 : decode jdk_68_method_22_code 19 = .ok (.iload_n 2, 1) := by decide +kernel
theorem d189 : decode jdk_68_method_22_code 20 = .ok (.iadd, 1) := by decide +kernel
theorem d190 : decode jdk_68_method_22_code 21 = .ok (.invokevirtual 100, 3) := by decide +kernel
theorem d191 : decode jdk_68_method_22_code 24 = .ok (.aload_n 0, 1) := by decide +kernel
theorem d192 : decode jdk_68_method_22_code 25 = .ok (.aload_n 0, 1) := by decide +kernel
theorem d193 : decode jdk_68_method_22_code 26 = .ok (.getfield 79, 3) := by decide +kernel
theorem d194 : decode jdk_68_method_22_code 29 = .ok (.aload_n 1, 1) := by decide +kernel
theorem d195 : decode jdk_68_method_22_code 30 = .ok (.invokevirtual 208, 3) := by decide +kernel
theorem pd__28_ILjava_2f_lang_2f_String_3b__29_V : parseMethodDescriptor "(ILjava/lang/String;)V" = some ⟨[.int, (.object "java/lang/String")], none⟩ := by decide +kernel
theorem d196 : decode jdk_68_method_22_code 33 = .ok (.aload_n 0, 1) := by decide +kernel
theorem d197 : decode jdk_68_method_22_code 34 = .ok (.dup, 1) := by decide +kernel
theorem d198 : decode jdk_68_method_22_code 35 = .ok (.getfield 79, 3) := by decide +kernel
theorem d199 : decode jdk_68_method_22_code 38 = .ok (.iload_n 2, 1) := by decide +kernel
theorem d200 : decode jdk_68_method_22_code 39 = .ok (.iadd, 1) := by decide +kernel
theorem d201 : decode jdk_68_method_22_code 40 = .ok (.putfield 79, 3) := by decide +kernel
theorem d202 : decode jdk_68_method_22_code 43 = .ok (.aload_n 0, 1) := by decide +kernel
theorem d203 : decode jdk_68_method_22_code 44 = .ok (.areturn, 1) := by decide +kernel
abbrev RM_aps : Room := { frames := 3, cells := 0, slots := 0, locals := 47 }
theorem ef_aps (m : MethodId) (x0 : Addr) (x1 : Addr) : entryFrame m #[(.ref x0), (.ref x1)] 3 = mkF m 0 #[.val (.ref x0), .val (.ref x1), .unset] [] := by first | (simp [entryFrame, mkF, argsToLocals, Value.category]; done) | rfl
set_option maxRecDepth 65536 in
set_option maxHeartbeats 40000000 in
theorem rm_aps (l : Launch) (Z : State) (a0 : Array Value) (G1 : Int32) (G3 : Value) (us ss : Addr) (hX : Ctx Z a0 G1 G3) (hY : More Z us ss) (n0 : Nat) (bk : Addr → Prop) (h0 : Heap) (O0 : Old Z n0 h0) (a : Addr) (t : Addr) (kb : ClassId) (N : Nat) (cs : List Int32) (b : Addr) (t2 : Addr) (kb2 : ClassId) (ds : List Int32) (pf_0 : SbL Z h0 a t kb N cs) (pf_1 : StrL Z h0 b t2 kb2 ds) (hl : cs.length + ds.length ≤ N) (n1 : @Ne Nat b a) (n2 : @Ne Nat b t) (n3 : @Ne Nat t2 a) (n4 : @Ne Nat t2 t) (nba : ¬ bk a) (nbt : ¬ bk t) (ga : n0 ≤ a) (gt : n0 ≤ t) (ws : List Jvm.Cond) : Met l Z EL1 n0 bk (⟨"java/lang/AbstractStringBuilder", "append", "(Ljava/lang/String;)Ljava/lang/AbstractStringBuilder;"⟩ : MethodName) jdk_68_method_22_code 3 (Option.some (FieldType.object "java/lang/AbstractStringBuilder")) RM_aps #[(.ref a), (.ref b)] h0 (Q_aps Z G1 G3 us ss a t kb N cs b t2 kb2 ds h0 n0 bk) ws := by
  have hX' := hX
  obtain ⟨hw, hE, S1, P1, S3, P3⟩ := hX'
  have hY' := hY
  obtain ⟨s_us, s_ss⟩ := hY'
  have hSA := sa_of hw
  have wT : ∀ (i : Nat) {d : Jvm.Cond}, tables_1[i]? = some d → d.before a0 Z = true := fun i d h => hw d (List.mem_of_getElem? h)
  have z0 : n0 ≤ h0.size := by rw [← O0.1]; exact O0.2.1
  refine Met.of (by decide +kernel) O0 hE ?_
  intro p e s m below meth c hx hby hml hret hlk hnm
  refine k_cast (ef_aps m a b) ?_
  show Run p l e _ s m _ below meth c Z EL1 _ n0 bk h0 0 0 (mkF m 0 #[.val (.ref a), .val (.ref b), .unset] []) _
  have ne_1 : @Ne Nat a t := pf_0.2.2.2.2.2.2.2.2
  have lt_2 : @LT.lt Nat _ a (Array.size h0) := pf_0.lt1
  have lt_3 : @LT.lt Nat _ t (Array.size h0) := pf_0.lt2
  have lt_4 : @LT.lt Nat _ b (Array.size h0) := pf_1.lt1
  have lt_5 : @LT.lt Nat _ t2 (Array.size h0) := pf_1.lt2
  have hNN := pf_0.2.2.2.2.2.2.2.1
  have hnN := pf_0.2.2.2.2.2.2.1
  refine k_pure (g' := (mkF m 1 #[.val (.ref a), .val (.ref b), .unset] [(.ref b)])) (fun _ J _ j => XS.aloadN J hx rfl (hb hby d180) rfl rfl j) ?_
  refine k_pure (g' := (mkF m 9 #[.val (.ref a), .val (.ref b), .unset] [])) (fun _ J _ j => XS.ifnonnullYes J hx rfl (pc0 := 1) (pc' := 9) rfl (hb hby d181) rfl (by decide) (by decide) j) ?_
  refine k_pure (g' := (mkF m 10 #[.val (.ref a), .val (.ref b), .unset] [(.ref b)])) (fun _ J _ j => XS.aloadN J hx rfl (hb hby d182) rfl rfl j) ?_
  refine k_callV hx (y := (⟨"java/lang/String", "length", "()I"⟩ : MethodName)) (z := (⟨"java/lang/String", "length", "()I"⟩ : MethodName)) (wT 57 rfl) (wT 58 rfl) (fun s' hZ => notFace_of_selects (args := #[]) (mv hZ (wT 60 rfl))) (wT 60 rfl) (wT 59 rfl) (by decide) (W := 0) (a := b) (argsL := []) (rest := []) (pay_len (W := 0) hX O0 pf_1 (by decide) (by decide)) pf_1.1 rfl (by rw [hml]; rfl) (lenOf pd__28__29_I rfl) rfl (by show 2 * 0 + _ ≤ _; exact Nat.le_of_eq rfl) (hb hby d183) (by decide) (by decide) ?_
  intro v_6 h_7 bk_8 O_9 z_10 Q_11
  obtain ⟨rfl, rfl, rfl⟩ := Q_11
  show Run p l e _ s m _ below meth c Z EL1 _ n0 bk h0 0 0 (mkF m 13 #[.val (.ref a), .val (.ref b), .unset] [(.int (Int32.ofNat (ds).length))]) _
  refine k_pure (g' := (mkF m 14 #[.val (.ref a), .val (.ref b), .val (.int (Int32.ofNat (ds).length))] [])) (fun _ J _ j => XS.istoreN J hx rfl (hb hby d184) rfl (l' := #[.val (.ref a), .val (.ref b), .val (.int (Int32.ofNat (ds).length))]) rfl j) ?_
  refine k_pure (g' := (mkF m 15 #[.val (.ref a), .val (.ref b), .val (.int (Int32.ofNat (ds).length))] [(.ref a)])) (fun _ J _ j => XS.aloadN J hx rfl (hb hby d185) rfl rfl j) ?_
  refine k_pure (g' := (mkF m 16 #[.val (.ref a), .val (.ref b), .val (.int (Int32.ofNat (ds).length))] [(.ref a), (.ref a)])) (fun _ J _ j => XS.aloadN J hx rfl (hb hby d186) rfl rfl j) ?_
  refine k_getF hx (host := "") (Or.inl (wT 68 rfl)) Via.refl pf_0.2.2.2.1 rfl rfl (hb hby d187) ?_
  show Run p l e _ s m _ below meth c Z EL1 _ n0 bk h0 0 0 (mkF m 19 #[.val (.ref a), .val (.ref b), .val (.int (Int32.ofNat (ds).length))] [(.int (Int32.ofNat (cs).length)), (.ref a)]) _
  refine k_pure (g' := (mkF m 20 #[.val (.ref a), .val (.ref b), .val (.int (Int32.ofNat (ds).length))] [(.int (Int32.ofNat (ds).length)), (.int (Int32.ofNat (cs).length)), (.ref a)])) (fun _ J _ j => XS.iloadN J hx rfl (hb hby d188) rfl j) ?_
  refine k_pure (g' := (mkF m 21 #[.val (.ref a), .val (.ref b), .val (.int (Int32.ofNat (ds).length))] [(.int ((Int32.ofNat (cs).length) + (Int32.ofNat (ds).length))), (.ref a)])) (fun _ J _ j => XS.iadd J hx rfl (hb hby d189) rfl j) ?_
  rw [add_len]
  show Run p l e _ s m _ below meth c Z EL1 _ n0 bk h0 0 0 (mkF m 21 #[.val (.ref a), .val (.ref b), .val (.int (Int32.ofNat (ds).length))] [(.int (Int32.ofNat (cs ++ ds).length)), (.ref a)]) _
  refine k_callV hx (y := (⟨"java/lang/AbstractStringBuilder", "ensureCapacityInternal", "(I)V"⟩ : MethodName)) (z := (⟨"java/lang/AbstractStringBuilder", "ensureCapacityInternal", "(I)V"⟩ : MethodName)) (wT 70 rfl) (decl_of (wT 71 rfl) (wT 74 rfl)) (fun s' hZ => notFace_of_selects (args := #[]) (mv hZ (wT 73 rfl))) (wT 73 rfl) (wT 71 rfl) (by decide) (W := 0) (a := a) (argsL := [(.int (Int32.ofNat (cs ++ ds).length))]) (rest := []) (Pays.of_met (rm_eci l Z a0 G1 G3 us ss hX hY n0 bk h0 O0 a t kb N cs ((cs ++ ds).length) pf_0 (by rw [List.length_append]; exact hl) []) (wT 74 rfl) (wT 38 rfl) (by decide) (by decide)) pf_0.1 rfl (by rw [hml]; rfl) (lenOf pd__28_I_29_V rfl) rfl (by show 2 * 0 + _ ≤ _; exact Nat.le_of_eq rfl) (hb hby d190) (by decide) (by decide) ?_
  intro v_12 h_13 bk_14 O_15 z_16 Q_17
  obtain ⟨rfl, rfl, rfl⟩ := Q_17
  show Run p l e _ s m _ below meth c Z EL1 _ n0 bk h0 0 0 (mkF m 24 #[.val (.ref a), .val (.ref b), .val (.int (Int32.ofNat (ds).length))] []) _
  refine k_pure (g' := (mkF m 25 #[.val (.ref a), .val (.ref b), .val (.int (Int32.ofNat (ds).length))] [(.ref a)])) (fun _ J _ j => XS.aloadN J hx rfl (hb hby d191) rfl rfl j) ?_
  refine k_pure (g' := (mkF m 26 #[.val (.ref a), .val (.ref b), .val (.int (Int32.ofNat (ds).length))] [(.ref a), (.ref a)])) (fun _ J _ j => XS.aloadN J hx rfl (hb hby d192) rfl rfl j) ?_
  refine k_getF hx (host := "") (Or.inl (wT 68 rfl)) Via.refl pf_0.2.2.2.1 rfl rfl (hb hby d193) ?_
  show Run p l e _ s m _ below meth c Z EL1 _ n0 bk h0 0 0 (mkF m 29 #[.val (.ref a), .val (.ref b), .val (.int (Int32.ofNat (ds).length))] [(.int (Int32.ofNat (cs).length)), (.ref a)]) _
  refine k_pure (g' := (mkF m 30 #[.val (.ref a), .val (.ref b), .val (.int (Int32.ofNat (ds).length))] [(.ref b), (.int (Int32.ofNat (cs).length)), (.ref a)])) (fun _ J _ j => XS.aloadN J hx rfl (hb hby d194) rfl rfl j) ?_
  refine k_callV hx (y := (⟨"java/lang/AbstractStringBuilder", "putStringAt", "(ILjava/lang/String;)V"⟩ : MethodName)) (z := (⟨"java/lang/AbstractStringBuilder", "putStringAt", "(ILjava/lang/String;)V"⟩ : MethodName)) (wT 101 rfl) (decl_of (wT 102 rfl) (wT 105 rfl)) (fun s' hZ => notFace_of_selects (args := #[]) (mv hZ (wT 104 rfl))) (wT 104 rfl) (wT 102 rfl) (by decide) (W := 0) (a := a) (argsL := [(.int (Int32.ofNat (cs).length)), (.ref b)]) (rest := []) (Pays.of_met (rm_psa l Z a0 G1 G3 us ss hX hY n0 bk h0 O0 a t kb N cs b t2 kb2 ds pf_0 pf_1 (by omega) nba nbt (by omega) (by omega) []) (wT 105 rfl) (wT 38 rfl) (by decide) (by decide)) pf_0.1 rfl (by rw [hml]; rfl) (lenOf pd__28_ILjava_2f_lang_2f_String_3b__29_V rfl) rfl (by show 2 * 0 + _ ≤ _; exact Nat.le_of_eq rfl) (hb hby d195) (by decide) (by decide) ?_
  intro v_18 h_19 bk_20 O_21 z_22 Q_23
  obtain ⟨rfl, rfl, K_24, F_25⟩ := Q_23
  have lt_26 : @LT.lt Nat _ t (Array.size h_19) := F_25.lt
  show Run p l e _ s m _ below meth c Z EL1 _ n0 bk h_19 0 0 (mkF m 33 #[.val (.ref a), .val (.ref b), .val (.int (Int32.ofNat (ds).length))] []) _
  refine k_pure (g' := (mkF m 34 #[.val (.ref a), .val (.ref b), .val (.int (Int32.ofNat (ds).length))] [(.ref a)])) (fun _ J _ j => XS.aloadN J hx rfl (hb hby d196) rfl rfl j) ?_
  refine k_pure (g' := (mkF m 35 #[.val (.ref a), .val (.ref b), .val (.int (Int32.ofNat (ds).length))] [(.ref a), (.ref a)])) (fun _ J _ j => XS.dup J hx rfl (hb hby d197) rfl rfl j) ?_
  have F_27 : Fld Z h_19 a "java/lang/AbstractStringBuilder" "count" "I" (.int (Int32.ofNat (cs).length)) := (pf_0.2.2.2.1.keep K_24 (ninS (ne_ad (by omega)) nin0))
  refine k_getF hx (host := "") (Or.inl (wT 68 rfl)) Via.refl F_27 rfl rfl (hb hby d198) ?_
  show Run p l e _ s m _ below meth c Z EL1 _ n0 bk h_19 0 0 (mkF m 38 #[.val (.ref a), .val (.ref b), .val (.int (Int32.ofNat (ds).length))] [(.int (Int32.ofNat (cs).length)), (.ref a)]) _
  refine k_pure (g' := (mkF m 39 #[.val (.ref a), .val (.ref b), .val (.int (Int32.ofNat (ds).length))] [(.int (Int32.ofNat (ds).length)), (.int (Int32.ofNat (cs).length)), (.ref a)])) (fun _ J _ j => XS.iloadN J hx rfl (hb hby d199) rfl j) ?_
  refine k_pure (g' := (mkF m 40 #[.val (.ref a), .val (.ref b), .val (.int (Int32.ofNat (ds).length))] [(.int ((Int32.ofNat (cs).length) + (Int32.ofNat (ds).length))), (.ref a)])) (fun _ J _ j => XS.iadd J hx rfl (hb hby d200) rfl j) ?_
  rw [add_len]
  show Run p l e _ s m _ below meth c Z EL1 _ n0 bk h_19 0 0 (mkF m 40 #[.val (.ref a), .val (.ref b), .val (.int (Int32.ofNat (ds).length))] [(.int (Int32.ofNat (cs ++ ds).length)), (.ref a)]) _
  have F_28 : Exa Z h_19 a "java/lang/StringBuilder" := (pf_0.1.keep K_24)
  refine k_putF hx (host := "") (Or.inl (wT 68 rfl)) Via.refl F_27 F_28 (Or.inl (wT 69 rfl)) (wT 29 rfl) (ty := .int) (by decide) rfl rfl (by omega) nba rfl rfl (hb hby d201) ?_
  intro h_29 O_31 W_30
  have z_32 := W_30.size
  show Run p l e _ s m _ below meth c Z EL1 _ n0 bk h_29 0 0 (mkF m 43 #[.val (.ref a), .val (.ref b), .val (.int (Int32.ofNat (ds).length))] []) _
  refine k_pure (g' := (mkF m 44 #[.val (.ref a), .val (.ref b), .val (.int (Int32.ofNat (ds).length))] [(.ref a)])) (fun _ J _ j => XS.aloadN J hx rfl (hb hby d202) rfl rfl j) ?_
  have F_33 : Exa Z h_29 a "java/lang/StringBuilder" := (F_28.wr W_30)
  have F_34 : Fld Z h_29 a "java/lang/AbstractStringBuilder" "coder" "B" (.int (0 : Int32)) := ((pf_0.2.1.keep K_24 (ninS (ne_ad (by omega)) nin0)).other W_30 (Or.inr (RoadKit.slot_ne (C := "java/lang/StringBuilder") (Or.inl (wT 45 rfl)) (Or.inl (wT 69 rfl)) (by decide) (t := .byte) (t' := .int) (by decide) (by decide))))
  have F_35 : Fld Z h_29 a "java/lang/AbstractStringBuilder" "value" "[B" (.ref t) := ((pf_0.2.2.1.keep K_24 (ninS (ne_ad (by omega)) nin0)).other W_30 (Or.inr (RoadKit.slot_ne (C := "java/lang/StringBuilder") (Or.inl (wT 43 rfl)) (Or.inl (wT 69 rfl)) (by decide) (t := (.array .byte)) (t' := .int) (by decide) (by decide))))
  have F_36 : Arv Z h_29 t kb .byte (Int32.ofNat N) (((cs ++ ds).map (fun c => c.toInt8.toInt32)).map Value.int) (.int 0) := (F_25.other W_30 (ne_ad (by omega)))
  exact k_retA hx hlk hret rfl rfl rfl (hb hby d203) (by decide) (by decide) ⟨rfl, rfl, (((Keep.refl _ _).trans K_24 (kkS (Or.inl (by simp)) kk0)).wr W_30 (Or.inl (by simp))), ⟨F_33, F_34, F_35, (F_27.same W_30), F_36, (fun c hc => (List.mem_append.mp hc).elim (pf_0.2.2.2.2.2.1 c) (pf_1.2.2.2.2.1 c)), (by rw [List.length_append]; omega), (by omega), (show @Ne Nat _ _ by omega)⟩⟩
def Q_apg (Z : State) (G1 : Int32) (G3 : Value) (us ss : Addr) (a : Addr) (t : Addr) (kb : ClassId) (N : Nat) (cs : List Int32) (b : Addr) (t2 : Addr) (kb2 : ClassId) (ds : List Int32) (h0 : Heap) (n0 : Nat) (bk : Addr → Prop) (v : Option Value) (h : Heap) (bk' : Addr → Prop) : Prop := ∃ (u : Addr), ∃ (ku : ClassId), ∃ (M : Nat), v = some (.ref a) ∧ bk = bk' ∧ Keep h0 h [a] ∧ (SbL Z h a u ku M (cs ++ ds)) ∧ (Exa Z h u "[B") ∧ (cs.length + ds.length ≤ M ∧ 2 * N + 2 ≤ M ∧ M ≤ 130 ∧ (M = cs.length + ds.length ∨ M = 2 * N + 2)) ∧ (@LE.le Nat _ (Array.size h0) u) ∧ (¬ bk' u)
abbrev RM_apg : Room := { frames := 4, cells := 1, slots := 130, locals := 62 }
theorem ef_apg (m : MethodId) (x0 : Addr) (x1 : Addr) : entryFrame m #[(.ref x0), (.ref x1)] 3 = mkF m 0 #[.val (.ref x0), .val (.ref x1), .unset] [] := by first | (simp [entryFrame, mkF, argsToLocals, Value.category]; done) | rfl
set_option maxRecDepth 65536 in
set_option maxHeartbeats 40000000 in
theorem rm_apg (l : Launch) (Z : State) (a0 : Array Value) (G1 : Int32) (G3 : Value) (us ss : Addr) (hX : Ctx Z a0 G1 G3) (hY : More Z us ss) (n0 : Nat) (bk : Addr → Prop) (h0 : Heap) (O0 : Old Z n0 h0) (a : Addr) (t : Addr) (kb : ClassId) (N : Nat) (cs : List Int32) (b : Addr) (t2 : Addr) (kb2 : ClassId) (ds : List Int32) (pf_0 : SbL Z h0 a t kb N cs) (pf_1 : StrL Z h0 b t2 kb2 ds) (hl : N < cs.length + ds.length) (h2 : cs.length + ds.length + N + 2 ≤ 130) (hbl : ∀ y, bk y → @LT.lt Nat _ y (Array.size h0)) (n1 : @Ne Nat b a) (n2 : @Ne Nat b t) (n3 : @Ne Nat t2 a) (n4 : @Ne Nat t2 t) (nba : ¬ bk a) (nbt : ¬ bk t) (ga : n0 ≤ a) (gt : n0 ≤ t) (ws : List Jvm.Cond) : Met l Z EL1 n0 bk (⟨"java/lang/AbstractStringBuilder", "append", "(Ljava/lang/String;)Ljava/lang/AbstractStringBuilder;"⟩ : MethodName) jdk_68_method_22_code 3 (Option.some (FieldType.object "java/lang/AbstractStringBuilder")) RM_apg #[(.ref a), (.ref b)] h0 (Q_apg Z G1 G3 us ss a t kb N cs b t2 kb2 ds h0 n0 bk) ws := by
  have hX' := hX
  obtain ⟨hw, hE, S1, P1, S3, P3⟩ := hX'
  have hY' := hY
  obtain ⟨s_us, s_ss⟩ := hY'
  have hSA := sa_of hw
  have wT : ∀ (i : Nat) {d : Jvm.Cond}, tables_1[i]? = some d → d.before a0 Z = true := fun i d h => hw d (List.mem_of_getElem? h)
  have z0 : n0 ≤ h0.size := by rw [← O0.1]; exact O0.2.1
  refine Met.of (by decide +kernel) O0 hE ?_
  intro p e s m below meth c hx hby hml hret hlk hnm
  refine k_cast (ef_apg m a b) ?_
  show Run p l e _ s m _ below meth c Z EL1 _ n0 bk h0 0 0 (mkF m 0 #[.val (.ref a), .val (.ref b), .unset] []) _
  have ne_1 : @Ne Nat a t := pf_0.2.2.2.2.2.2.2.2
  have lt_2 : @LT.lt Nat _ a (Array.size h0) := pf_0.lt1
  have lt_3 : @LT.lt Nat _ t (Array.size h0) := pf_0.lt2
  have lt_4 : @LT.lt Nat _ b (Array.size h0) := pf_1.lt1
  have lt_5 : @LT.lt Nat _ t2 (Array.size h0) := pf_1.lt2
  have hNN := pf_0.2.2.2.2.2.2.2.1
  have hnN := pf_0.2.2.2.2.2.2.1
  refine k_pure (g' := (mkF m 1 #[.val (.ref a), .val (.ref b), .unset] [(.ref b)])) (fun _ J _ j => XS.aloadN J hx rfl (hb hby d180) rfl rfl j) ?_
  refine k_pure (g' := (mkF m 9 #[.val (.ref a), .val (.ref b), .unset] [])) (fun _ J _ j => XS.ifnonnullYes J hx rfl (pc0 := 1) (pc' := 9) rfl (hb hby d181) rfl (by decide) (by decide) j) ?_
  refine k_pure (g' := (mkF m 10 #[.val (.ref a), .val (.ref b), .unset] [(.ref b)])) (fun _ J _ j => XS.aloadN J hx rfl (hb hby d182) rfl rfl j) ?_
  refine k_callV hx (y := (⟨"java/lang/String", "length", "()I"⟩ : MethodName)) (z := (⟨"java/lang/String", "length", "()I"⟩ : MethodName)) (wT 57 rfl) (wT 58 rfl) (fun s' hZ => notFace_of_selects (args := #[]) (mv hZ (wT 60 rfl))) (wT 60 rfl) (wT 59 rfl) (by decide) (W := 0) (a := b) (argsL := []) (rest := []) (pay_len (W := 0) hX O0 pf_1 (by decide) (by decide)) pf_1.1 rfl (by rw [hml]; rfl) (lenOf pd__28__29_I rfl) rfl (by show 2 * 0 + _ ≤ _; exact Nat.le_of_eq rfl) (hb hby d183) (by decide) (by decide) ?_
  intro v_6 h_7 bk_8 O_9 z_10 Q_11
  obtain ⟨rfl, rfl, rfl⟩ := Q_11
  show Run p l e _ s m _ below meth c Z EL1 _ n0 bk h0 0 0 (mkF m 13 #[.val (.ref a), .val (.ref b), .unset] [(.int (Int32.ofNat (ds).length))]) _
  refine k_pure (g' := (mkF m 14 #[.val (.ref a), .val (.ref b), .val (.int (Int32.ofNat (ds).length))] [])) (fun _ J _ j => XS.istoreN J hx rfl (hb hby d184) rfl (l' := #[.val (.ref a), .val (.ref b), .val (.int (Int32.ofNat (ds).length))]) rfl j) ?_
  refine k_pure (g' := (mkF m 15 #[.val (.ref a), .val (.ref b), .val (.int (Int32.ofNat (ds).length))] [(.ref a)])) (fun _ J _ j => XS.aloadN J hx rfl (hb hby d185) rfl rfl j) ?_
  refine k_pure (g' := (mkF m 16 #[.val (.ref a), .val (.ref b), .val (.int (Int32.ofNat (ds).length))] [(.ref a), (.ref a)])) (fun _ J _ j => XS.aloadN J hx rfl (hb hby d186) rfl rfl j) ?_
  refine k_getF hx (host := "") (Or.inl (wT 68 rfl)) Via.refl pf_0.2.2.2.1 rfl rfl (hb hby d187) ?_
  show Run p l e _ s m _ below meth c Z EL1 _ n0 bk h0 0 0 (mkF m 19 #[.val (.ref a), .val (.ref b), .val (.int (Int32.ofNat (ds).length))] [(.int (Int32.ofNat (cs).length)), (.ref a)]) _
  refine k_pure (g' := (mkF m 20 #[.val (.ref a), .val (.ref b), .val (.int (Int32.ofNat (ds).length))] [(.int (Int32.ofNat (ds).length)), (.int (Int32.ofNat (cs).length)), (.ref a)])) (fun _ J _ j => XS.iloadN J hx rfl (hb hby d188) rfl j) ?_
  refine k_pure (g' := (mkF m 21 #[.val (.ref a), .val (.ref b), .val (.int (Int32.ofNat (ds).length))] [(.int ((Int32.ofNat (cs).length) + (Int32.ofNat (ds).length))), (.ref a)])) (fun _ J _ j => XS.iadd J hx rfl (hb hby d189) rfl j) ?_
  rw [add_len]
  show Run p l e _ s m _ below meth c Z EL1 _ n0 bk h0 0 0 (mkF m 21 #[.val (.ref a), .val (.ref b), .val (.int (Int32.ofNat (ds).length))] [(.int (Int32.ofNat (cs ++ ds).length)), (.ref a)]) _
  refine k_callV hx (y := (⟨"java/lang/AbstractStringBuilder", "ensureCapacityInternal", "(I)V"⟩ : MethodName)) (z := (⟨"java/lang/AbstractStringBuilder", "ensureCapacityInternal", "(I)V"⟩ : MethodName)) (wT 70 rfl) (decl_of (wT 71 rfl) (wT 74 rfl)) (fun s' hZ => notFace_of_selects (args := #[]) (mv hZ (wT 73 rfl))) (wT 73 rfl) (wT 71 rfl) (by decide) (W := 0) (a := a) (argsL := [(.int (Int32.ofNat (cs ++ ds).length))]) (rest := []) (Pays.of_met (rm_ecg l Z a0 G1 G3 us ss hX hY n0 bk h0 O0 a t kb N cs ((cs ++ ds).length) pf_0 (by rw [List.length_append]; exact hl) (by rw [List.length_append]; omega) hbl nba (by omega) []) (wT 74 rfl) (wT 38 rfl) (by decide) (by decide)) pf_0.1 rfl (by rw [hml]; rfl) (lenOf pd__28_I_29_V rfl) rfl (by show 2 * 0 + _ ≤ _; exact Nat.le_of_eq rfl) (hb hby d190) (by decide) (by decide) ?_
  intro v_12 h_13 bk_14 O_15 z_16 Q_17
  obtain ⟨a_18, k_19, e_20, rfl, rfl, K_21, F_22, F_23, P_24, P_25, P_26⟩ := Q_17
  have ne_27 : @Ne Nat a a_18 := F_22.2.2.2.2.2.2.2.2
  have lt_28 : @LT.lt Nat _ a (Array.size h_13) := F_22.lt1
  have lt_29 : @LT.lt Nat _ a_18 (Array.size h_13) := F_22.lt2
  have lt_30 : @LT.lt Nat _ a_18 (Array.size h_13) := F_23.lt
  show Run p l e _ s m _ below meth c Z EL1 _ n0 bk h_13 1 130 (mkF m 24 #[.val (.ref a), .val (.ref b), .val (.int (Int32.ofNat (ds).length))] []) _
  have hPG := P_24
  rw [List.length_append] at hPG
  refine k_pure (g' := (mkF m 25 #[.val (.ref a), .val (.ref b), .val (.int (Int32.ofNat (ds).length))] [(.ref a)])) (fun _ J _ j => XS.aloadN J hx rfl (hb hby d191) rfl rfl j) ?_
  refine k_pure (g' := (mkF m 26 #[.val (.ref a), .val (.ref b), .val (.int (Int32.ofNat (ds).length))] [(.ref a), (.ref a)])) (fun _ J _ j => XS.aloadN J hx rfl (hb hby d192) rfl rfl j) ?_
  refine k_getF hx (host := "") (Or.inl (wT 68 rfl)) Via.refl F_22.2.2.2.1 rfl rfl (hb hby d193) ?_
  show Run p l e _ s m _ below meth c Z EL1 _ n0 bk h_13 1 130 (mkF m 29 #[.val (.ref a), .val (.ref b), .val (.int (Int32.ofNat (ds).length))] [(.int (Int32.ofNat (cs).length)), (.ref a)]) _
  refine k_pure (g' := (mkF m 30 #[.val (.ref a), .val (.ref b), .val (.int (Int32.ofNat (ds).length))] [(.ref b), (.int (Int32.ofNat (cs).length)), (.ref a)])) (fun _ J _ j => XS.aloadN J hx rfl (hb hby d194) rfl rfl j) ?_
  have F_31 : StrL Z h_13 b t2 kb2 ds := (pf_1.keep K_21 (ninS (ne_ad (by omega)) nin0) (ninS (ne_ad (by omega)) nin0))
  refine k_callV hx (y := (⟨"java/lang/AbstractStringBuilder", "putStringAt", "(ILjava/lang/String;)V"⟩ : MethodName)) (z := (⟨"java/lang/AbstractStringBuilder", "putStringAt", "(ILjava/lang/String;)V"⟩ : MethodName)) (wT 101 rfl) (decl_of (wT 102 rfl) (wT 105 rfl)) (fun s' hZ => notFace_of_selects (args := #[]) (mv hZ (wT 104 rfl))) (wT 104 rfl) (wT 102 rfl) (by decide) (W := 0) (a := a) (argsL := [(.int (Int32.ofNat (cs).length)), (.ref b)]) (rest := []) (Pays.of_met (rm_psa l Z a0 G1 G3 us ss hX hY n0 bk h_13 O_15 a a_18 k_19 e_20 cs b t2 kb2 ds F_22 F_31 (by omega) nba P_26 (by omega) (by omega) []) (wT 105 rfl) (wT 38 rfl) (by decide) (by decide)) F_22.1 rfl (by rw [hml]; rfl) (lenOf pd__28_ILjava_2f_lang_2f_String_3b__29_V rfl) rfl (by show 2 * 0 + _ ≤ _; exact Nat.le_of_eq rfl) (hb hby d195) (by decide) (by decide) ?_
  intro v_32 h_33 bk_34 O_35 z_36 Q_37
  obtain ⟨rfl, rfl, K_38, F_39⟩ := Q_37
  have lt_40 : @LT.lt Nat _ a_18 (Array.size h_33) := F_39.lt
  show Run p l e _ s m _ below meth c Z EL1 _ n0 bk h_33 1 130 (mkF m 33 #[.val (.ref a), .val (.ref b), .val (.int (Int32.ofNat (ds).length))] []) _
  refine k_pure (g' := (mkF m 34 #[.val (.ref a), .val (.ref b), .val (.int (Int32.ofNat (ds).length))] [(.ref a)])) (fun _ J _ j => XS.aloadN J hx rfl (hb hby d196) rfl rfl j) ?_
  refine k_pure (g' := (mkF m 35 #[.val (.ref a), .val (.ref b), .val (.int (Int32.ofNat (ds).length))] [(.ref a), (.ref a)])) (fun _ J _ j => XS.dup J hx rfl (hb hby d197) rfl rfl j) ?_
  have F_41 : Fld Z h_33 a "java/lang/AbstractStringBuilder" "count" "I" (.int (Int32.ofNat (cs).length)) := (F_22.2.2.2.1.keep K_38 (ninS (ne_ad (by omega)) nin0))
  refine k_getF hx (host := "") (Or.inl (wT 68 rfl)) Via.refl F_41 rfl rfl (hb hby d198) ?_
  show Run p l e _ s m _ below meth c Z EL1 _ n0 bk h_33 1 130 (mkF m 38 #[.val (.ref a), .val (.ref b), .val (.int (Int32.ofNat (ds).length))] [(.int (Int32.ofNat (cs).length)), (.ref a)]) _
  refine k_pure (g' := (mkF m 39 #[.val (.ref a), .val (.ref b), .val (.int (Int32.ofNat (ds).length))] [(.int (Int32.ofNat (ds).length)), (.int (Int32.ofNat (cs).length)), (.ref a)])) (fun _ J _ j => XS.iloadN J hx rfl (hb hby d199) rfl j) ?_
  refine k_pure (g' := (mkF m 40 #[.val (.ref a), .val (.ref b), .val (.int (Int32.ofNat (ds).length))] [(.int ((Int32.ofNat (cs).length) + (Int32.ofNat (ds).length))), (.ref a)])) (fun _ J _ j => XS.iadd J hx rfl (hb hby d200) rfl j) ?_
  rw [add_len]
  show Run p l e _ s m _ below meth c Z EL1 _ n0 bk h_33 1 130 (mkF m 40 #[.val (.ref a), .val (.ref b), .val (.int (Int32.ofNat (ds).length))] [(.int (Int32.ofNat (cs ++ ds).length)), (.ref a)]) _
  have F_42 : Exa Z h_33 a "java/lang/StringBuilder" := (F_22.1.keep K_38)
  refine k_putF hx (host := "") (Or.inl (wT 68 rfl)) Via.refl F_41 F_42 (Or.inl (wT 69 rfl)) (wT 29 rfl) (ty := .int) (by decide) rfl rfl (by omega) nba rfl rfl (hb hby d201) ?_
  intro h_43 O_45 W_44
  have z_46 := W_44.size
  show Run p l e _ s m _ below meth c Z EL1 _ n0 bk h_43 1 130 (mkF m 43 #[.val (.ref a), .val (.ref b), .val (.int (Int32.ofNat (ds).length))] []) _
  refine k_pure (g' := (mkF m 44 #[.val (.ref a), .val (.ref b), .val (.int (Int32.ofNat (ds).length))] [(.ref a)])) (fun _ J _ j => XS.aloadN J hx rfl (hb hby d202) rfl rfl j) ?_
  have F_47 : Exa Z h_43 a "java/lang/StringBuilder" := (F_42.wr W_44)
  have F_48 : Fld Z h_43 a "java/lang/AbstractStringBuilder" "coder" "B" (.int (0 : Int32)) := ((F_22.2.1.keep K_38 (ninS (ne_ad (by omega)) nin0)).other W_44 (Or.inr (RoadKit.slot_ne (C := "java/lang/StringBuilder") (Or.inl (wT 45 rfl)) (Or.inl (wT 69 rfl)) (by decide) (t := .byte) (t' := .int) (by decide) (by decide))))
  have F_49 : Fld Z h_43 a "java/lang/AbstractStringBuilder" "value" "[B" (.ref a_18) := ((F_22.2.2.1.keep K_38 (ninS (ne_ad (by omega)) nin0)).other W_44 (Or.inr (RoadKit.slot_ne (C := "java/lang/StringBuilder") (Or.inl (wT 43 rfl)) (Or.inl (wT 69 rfl)) (by decide) (t := (.array .byte)) (t' := .int) (by decide) (by decide))))
  have F_50 : Arv Z h_43 a_18 k_19 .byte (Int32.ofNat e_20) (((cs ++ ds).map (fun c => c.toInt8.toInt32)).map Value.int) (.int 0) := (F_39.other W_44 (ne_ad (by omega)))
  have F_51 : Exa Z h_43 a_18 "[B" := ((F_23.keep K_38).wr W_44)
  exact k_retA hx hlk hret rfl rfl rfl (hb hby d203) (by decide) (by decide) ⟨a_18, k_19, e_20, rfl, rfl, ((((Keep.refl _ _).trans K_21 (kkS (Or.inl (by simp)) kk0)).trans K_38 (kkS (Or.inr (by omega)) kk0)).wr W_44 (Or.inl (by simp))), ⟨F_47, F_48, F_49, (F_41.same W_44), F_50, (fun c hc => (List.mem_append.mp hc).elim (pf_0.2.2.2.2.2.1 c) (pf_1.2.2.2.2.1 c)), (by rw [List.length_append]; omega), (by omega), (show @Ne Nat _ _ by omega)⟩, F_51, (by omega), (by omega), P_26⟩
def Q_sbaps (Z : State) (G1 : Int32) (G3 : Value) (us ss : Addr) (a : Addr) (t : Addr) (kb : ClassId) (N : Nat) (cs : List Int32) (b : Addr) (t2 : Addr) (kb2 : ClassId) (ds : List Int32) (h0 : Heap) (n0 : Nat) (bk : Addr → Prop) (v : Option Value) (h : Heap) (bk' : Addr → Prop) : Prop := v = some (.ref a) ∧ bk = bk' ∧ Keep h0 h [a, t] ∧ (SbL Z h a t kb N (cs ++ ds))
theorem d204 : decode jdk_67_method_7_code 0 = .ok (.aload_n 0, 1) := by decide +kernel
theorem d205 : decode jdk_67_method_7_code 1 = .ok (.aload_n 1, 1) := by decide +kernel
theorem d206 : decode jdk_67_method_7_code 2 = .ok (.invokespecial 29, 3) := by decide +kernel
theorem pd__28_Ljava_2f_lang_2f_String_3b__29_Ljava_2f_lang_2f_AbstractStringBuilder_3b_ : parseMethodDescriptor "(Ljava/lang/String;)Ljava/lang/AbstractStringBuilder;" = some ⟨[(.object "java/lang/String")], some (.object "java/lang/AbstractStringBuilder")⟩ := by decide +kernel
theorem d207 : decode jdk_67_method_7_code 5 = .ok (.pop, 1) := by decide +kernel
theorem d208 : decode jdk_67_method_7_code 6 = .ok (.aload_n 0, 1) := by decide +kernel
theorem d209 : decode jdk_67_method_7_code 7 = .ok (.areturn, 1) := by decide +kernel
abbrev RM_sbaps : Room := { frames := 4, cells := 0, slots := 0, locals := 61 }
theorem ef_sbaps (m : MethodId) (x0 : Addr) (x1 : Addr) : entryFrame m #[(.ref x0), (.ref x1)] 2 = mkF m 0 #[.val (.ref x0), .val (.ref x1)] [] := by first | (simp [entryFrame, mkF, argsToLocals, Value.category]; done) | rfl
set_option maxRecDepth 65536 in
set_option maxHeartbeats 40000000 in
theorem rm_sbaps (l : Launch) (Z : State) (a0 : Array Value) (G1 : Int32) (G3 : Value) (us ss : Addr) (hX : Ctx Z a0 G1 G3) (hY : More Z us ss) (n0 : Nat) (bk : Addr → Prop) (h0 : Heap) (O0 : Old Z n0 h0) (a : Addr) (t : Addr) (kb : ClassId) (N : Nat) (cs : List Int32) (b : Addr) (t2 : Addr) (kb2 : ClassId) (ds : List Int32) (pf_0 : SbL Z h0 a t kb N cs) (pf_1 : StrL Z h0 b t2 kb2 ds) (hl : cs.length + ds.length ≤ N) (n1 : @Ne Nat b a) (n2 : @Ne Nat b t) (n3 : @Ne Nat t2 a) (n4 : @Ne Nat t2 t) (nba : ¬ bk a) (nbt : ¬ bk t) (ga : n0 ≤ a) (gt : n0 ≤ t) (ws : List Jvm.Cond) : Met l Z EL1 n0 bk (⟨"java/lang/StringBuilder", "append", "(Ljava/lang/String;)Ljava/lang/StringBuilder;"⟩ : MethodName) jdk_67_method_7_code 2 (Option.some (FieldType.object "java/lang/StringBuilder")) RM_sbaps #[(.ref a), (.ref b)] h0 (Q_sbaps Z G1 G3 us ss a t kb N cs b t2 kb2 ds h0 n0 bk) ws := by
  have hX' := hX
  obtain ⟨hw, hE, S1, P1, S3, P3⟩ := hX'
  have hY' := hY
  obtain ⟨s_us, s_ss⟩ := hY'
  have hSA := sa_of hw
  have wT : ∀ (i : Nat) {d : Jvm.Cond}, tables_1[i]? = some d → d.before a0 Z = true := fun i d h => hw d (List.mem_of_getElem? h)
  have z0 : n0 ≤ h0.size := by rw [← O0.1]; exact O0.2.1
  refine Met.of (by decide +kernel) O0 hE ?_
  intro p e s m below meth c hx hby hml hret hlk hnm
  refine k_cast (ef_sbaps m a b) ?_
  show Run p l e _ s m _ below meth c Z EL1 _ n0 bk h0 0 0 (mkF m 0 #[.val (.ref a), .val (.ref b)] []) _
  have ne_1 : @Ne Nat a t := pf_0.2.2.2.2.2.2.2.2
  have lt_2 : @LT.lt Nat _ a (Array.size h0) := pf_0.lt1
  have lt_3 : @LT.lt Nat _ t (Array.size h0) := pf_0.lt2
  have lt_4 : @LT.lt Nat _ b (Array.size h0) := pf_1.lt1
  have lt_5 : @LT.lt Nat _ t2 (Array.size h0) := pf_1.lt2
  refine k_pure (g' := (mkF m 1 #[.val (.ref a), .val (.ref b)] [(.ref a)])) (fun _ J _ j => XS.aloadN J hx rfl (hb hby d204) rfl rfl j) ?_
  refine k_pure (g' := (mkF m 2 #[.val (.ref a), .val (.ref b)] [(.ref b), (.ref a)])) (fun _ J _ j => XS.aloadN J hx rfl (hb hby d205) rfl rfl j) ?_
  refine k_callX hx (y := (⟨"java/lang/AbstractStringBuilder", "append", "(Ljava/lang/String;)Ljava/lang/AbstractStringBuilder;"⟩ : MethodName)) (K := "java/lang/StringBuilder") (wT 52 rfl) (same_of (by decide) (wT 55 rfl) (nf_of (y' := (⟨"java/lang/AbstractStringBuilder", "ensureCapacityInternal", "(I)V"⟩ : MethodName)) rfl (wT 73 rfl))) (wT 53 rfl) (wT 54 rfl) (by decide) (wT 56 rfl) (W := 0) (a := a) (argsL := [(.ref b)]) (rest := []) (Pays.of_met (rm_aps l Z a0 G1 G3 us ss hX hY n0 bk h0 O0 a t kb N cs b t2 kb2 ds pf_0 pf_1 hl (by omega) (by omega) (by omega) (by omega) nba nbt (by omega) (by omega) []) (wT 56 rfl) (wT 38 rfl) (by decide) (by decide)) (Ins.self pf_0.1) rfl (by rw [hml]; rfl) (lenOf pd__28_Ljava_2f_lang_2f_String_3b__29_Ljava_2f_lang_2f_AbstractStringBuilder_3b_ rfl) rfl (by show 2 * 0 + _ ≤ _; exact Nat.le_of_eq rfl) (hb hby d206) (by decide) (by decide) ?_
  intro v_6 h_7 bk_8 O_9 z_10 Q_11
  obtain ⟨rfl, rfl, K_12, F_13⟩ := Q_11
  have ne_14 : @Ne Nat a t := F_13.2.2.2.2.2.2.2.2
  have lt_15 : @LT.lt Nat _ a (Array.size h_7) := F_13.lt1
  have lt_16 : @LT.lt Nat _ t (Array.size h_7) := F_13.lt2
  show Run p l e _ s m _ below meth c Z EL1 _ n0 bk h_7 0 0 (mkF m 5 #[.val (.ref a), .val (.ref b)] [(.ref a)]) _
  refine k_pure (g' := (mkF m 6 #[.val (.ref a), .val (.ref b)] [])) (fun _ J _ j => XS.pop J hx rfl (hb hby d207) rfl rfl j) ?_
  refine k_pure (g' := (mkF m 7 #[.val (.ref a), .val (.ref b)] [(.ref a)])) (fun _ J _ j => XS.aloadN J hx rfl (hb hby d208) rfl rfl j) ?_
  exact k_retA hx hlk hret rfl rfl rfl (hb hby d209) (by decide) (by decide) ⟨rfl, rfl, ((Keep.refl _ _).trans K_12 (kkS (Or.inl (by simp)) (kkS (Or.inl (by simp)) kk0))), F_13⟩
def Q_sbapg (Z : State) (G1 : Int32) (G3 : Value) (us ss : Addr) (a : Addr) (t : Addr) (kb : ClassId) (N : Nat) (cs : List Int32) (b : Addr) (t2 : Addr) (kb2 : ClassId) (ds : List Int32) (h0 : Heap) (n0 : Nat) (bk : Addr → Prop) (v : Option Value) (h : Heap) (bk' : Addr → Prop) : Prop := ∃ (u : Addr), ∃ (ku : ClassId), ∃ (M : Nat), v = some (.ref a) ∧ bk = bk' ∧ Keep h0 h [a] ∧ (SbL Z h a u ku M (cs ++ ds)) ∧ (Exa Z h u "[B") ∧ (cs.length + ds.length ≤ M ∧ 2 * N + 2 ≤ M ∧ M ≤ 130 ∧ (M = cs.length + ds.length ∨ M = 2 * N + 2)) ∧ (@LE.le Nat _ (Array.size h0) u) ∧ (¬ bk' u)
abbrev RM_sbapg : Room := { frames := 5, cells := 1, slots := 130, locals := 76 }
theorem ef_sbapg (m : MethodId) (x0 : Addr) (x1 : Addr) : entryFrame m #[(.ref x0), (.ref x1)] 2 = mkF m 0 #[.val (.ref x0), .val (.ref x1)] [] := by first | (simp [entryFrame, mkF, argsToLocals, Value.category]; done) | rfl
set_option maxRecDepth 65536 in
set_option maxHeartbeats 40000000 in
theorem rm_sbapg (l : Launch) (Z : State) (a0 : Array Value) (G1 : Int32) (G3 : Value) (us ss : Addr) (hX : Ctx Z a0 G1 G3) (hY : More Z us ss) (n0 : Nat) (bk : Addr → Prop) (h0 : Heap) (O0 : Old Z n0 h0) (a : Addr) (t : Addr) (kb : ClassId) (N : Nat) (cs : List Int32) (b : Addr) (t2 : Addr) (kb2 : ClassId) (ds : List Int32) (pf_0 : SbL Z h0 a t kb N cs) (pf_1 : StrL Z h0 b t2 kb2 ds) (hl : N < cs.length + ds.length) (h2 : cs.length + ds.length + N + 2 ≤ 130) (hbl : ∀ y, bk y → @LT.lt Nat _ y (Array.size h0)) (n1 : @Ne Nat b a) (n2 : @Ne Nat b t) (n3 : @Ne Nat t2 a) (n4 : @Ne Nat t2 t) (nba : ¬ bk a) (nbt : ¬ bk t) (ga : n0 ≤ a) (gt : n0 ≤ t) (ws : List Jvm.Cond) : Met l Z EL1 n0 bk (⟨"java/lang/StringBuilder", "append", "(Ljava/lang/String;)Ljava/lang/StringBuilder;"⟩ : MethodName) jdk_67_method_7_code 2 (Option.some (FieldType.object "java/lang/StringBuilder")) RM_sbapg #[(.ref a), (.ref b)] h0 (Q_sbapg Z G1 G3 us ss a t kb N cs b t2 kb2 ds h0 n0 bk) ws := by
  have hX' := hX
  obtain ⟨hw, hE, S1, P1, S3, P3⟩ := hX'
  have hY' := hY
  obtain ⟨s_us, s_ss⟩ := hY'
  have hSA := sa_of hw
  have wT : ∀ (i : Nat) {d : Jvm.Cond}, tables_1[i]? = some d → d.before a0 Z = true := fun i d h => hw d (List.mem_of_getElem? h)
  have z0 : n0 ≤ h0.size := by rw [← O0.1]; exact O0.2.1
  refine Met.of (by decide +kernel) O0 hE ?_
  intro p e s m below meth c hx hby hml hret hlk hnm
  refine k_cast (ef_sbapg m a b) ?_
  show Run p l e _ s m _ below meth c Z EL1 _ n0 bk h0 0 0 (mkF m 0 #[.val (.ref a), .val (.ref b)] []) _
  have ne_1 : @Ne Nat a t := pf_0.2.2.2.2.2.2.2.2
  have lt_2 : @LT.lt Nat _ a (Array.size h0) := pf_0.lt1
  have lt_3 : @LT.lt Nat _ t (Array.size h0) := pf_0.lt2
  have lt_4 : @LT.lt Nat _ b (Array.size h0) := pf_1.lt1
  have lt_5 : @LT.lt Nat _ t2 (Array.size h0) := pf_1.lt2
  refine k_pure (g' := (mkF m 1 #[.val (.ref a), .val (.ref b)] [(.ref a)])) (fun _ J _ j => XS.aloadN J hx rfl (hb hby d204) rfl rfl j) ?_
  refine k_pure (g' := (mkF m 2 #[.val (.ref a), .val (.ref b)] [(.ref b), (.ref a)])) (fun _ J _ j => XS.aloadN J hx rfl (hb hby d205) rfl rfl j) ?_
  refine k_callX hx (y := (⟨"java/lang/AbstractStringBuilder", "append", "(Ljava/lang/String;)Ljava/lang/AbstractStringBuilder;"⟩ : MethodName)) (K := "java/lang/StringBuilder") (wT 52 rfl) (same_of (by decide) (wT 55 rfl) (nf_of (y' := (⟨"java/lang/AbstractStringBuilder", "ensureCapacityInternal", "(I)V"⟩ : MethodName)) rfl (wT 73 rfl))) (wT 53 rfl) (wT 54 rfl) (by decide) (wT 56 rfl) (W := 0) (a := a) (argsL := [(.ref b)]) (rest := []) (Pays.of_met (rm_apg l Z a0 G1 G3 us ss hX hY n0 bk h0 O0 a t kb N cs b t2 kb2 ds pf_0 pf_1 hl h2 hbl (by omega) (by omega) (by omega) (by omega) nba nbt (by omega) (by omega) []) (wT 56 rfl) (wT 38 rfl) (by decide) (by decide)) (Ins.self pf_0.1) rfl (by rw [hml]; rfl) (lenOf pd__28_Ljava_2f_lang_2f_String_3b__29_Ljava_2f_lang_2f_AbstractStringBuilder_3b_ rfl) rfl (by show 2 * 0 + _ ≤ _; exact Nat.le_of_eq rfl) (hb hby d206) (by decide) (by decide) ?_
  intro v_6 h_7 bk_8 O_9 z_10 Q_11
  obtain ⟨a_12, k_13, e_14, rfl, rfl, K_15, F_16, F_17, P_18, P_19, P_20⟩ := Q_11
  have ne_21 : @Ne Nat a a_12 := F_16.2.2.2.2.2.2.2.2
  have lt_22 : @LT.lt Nat _ a (Array.size h_7) := F_16.lt1
  have lt_23 : @LT.lt Nat _ a_12 (Array.size h_7) := F_16.lt2
  have lt_24 : @LT.lt Nat _ a_12 (Array.size h_7) := F_17.lt
  show Run p l e _ s m _ below meth c Z EL1 _ n0 bk h_7 1 130 (mkF m 5 #[.val (.ref a), .val (.ref b)] [(.ref a)]) _
  refine k_pure (g' := (mkF m 6 #[.val (.ref a), .val (.ref b)] [])) (fun _ J _ j => XS.pop J hx rfl (hb hby d207) rfl rfl j) ?_
  refine k_pure (g' := (mkF m 7 #[.val (.ref a), .val (.ref b)] [(.ref a)])) (fun _ J _ j => XS.aloadN J hx rfl (hb hby d208) rfl rfl j) ?_
  exact k_retA hx hlk hret rfl rfl rfl (hb hby d209) (by decide) (by decide) ⟨a_12, k_13, e_14, rfl, rfl, ((Keep.refl _ _).trans K_15 (kkS (Or.inl (by simp)) kk0)), F_16, F_17, P_18, (by omega), P_20⟩
def Q_gvl (Z : State) (G1 : Int32) (G3 : Value) (us ss : Addr) (a : Addr) (t : Addr) (kb : ClassId) (N : Nat) (cs : List Int32) (h0 : Heap) (n0 : Nat) (bk : Addr → Prop) (v : Option Value) (h : Heap) (bk' : Addr → Prop) : Prop := v = some (.ref t) ∧ h0 = h ∧ bk = bk'
theorem d210 : decode jdk_68_method_64_code 0 = .ok (.aload_n 0, 1) := by decide +kernel
theorem d211 : decode jdk_68_method_64_code 1 = .ok (.getfield 15, 3) := by decide +kernel
theorem d212 : decode jdk_68_method_64_code 4 = .ok (.areturn, 1) := by decide +kernel
abbrev RM_gvl : Room := { frames := 0, cells := 0, slots := 0, locals := 0 }
theorem ef_gvl (m : MethodId) (x0 : Addr) : entryFrame m #[(.ref x0)] 1 = mkF m 0 #[.val (.ref x0)] [] := by first | (simp [entryFrame, mkF, argsToLocals, Value.category]; done) | rfl
set_option maxRecDepth 65536 in
set_option maxHeartbeats 40000000 in
theorem rm_gvl (l : Launch) (Z : State) (a0 : Array Value) (G1 : Int32) (G3 : Value) (us ss : Addr) (hX : Ctx Z a0 G1 G3) (hY : More Z us ss) (n0 : Nat) (bk : Addr → Prop) (h0 : Heap) (O0 : Old Z n0 h0) (a : Addr) (t : Addr) (kb : ClassId) (N : Nat) (cs : List Int32) (pf_0 : SbL Z h0 a t kb N cs) (ws : List Jvm.Cond) : Met l Z EL1 n0 bk (⟨"java/lang/AbstractStringBuilder", "getValue", "()[B"⟩ : MethodName) jdk_68_method_64_code 1 (Option.some (FieldType.array FieldType.byte)) RM_gvl #[(.ref a)] h0 (Q_gvl Z G1 G3 us ss a t kb N cs h0 n0 bk) ws := by
  have hX' := hX
  obtain ⟨hw, hE, S1, P1, S3, P3⟩ := hX'
  have hY' := hY
  obtain ⟨s_us, s_ss⟩ := hY'
  have hSA := sa_of hw
  have wT : ∀ (i : Nat) {d : Jvm.Cond}, tables_1[i]? = some d → d.before a0 Z = true := fun i d h => hw d (List.mem_of_getElem? h)
  have z0 : n0 ≤ h0.size := by rw [← O0.1]; exact O0.2.1
  refine Met.of (by decide +kernel) O0 hE ?_
  intro p e s m below meth c hx hby hml hret hlk hnm
  refine k_cast (ef_gvl m a) ?_
  show Run p l e _ s m _ below meth c Z EL1 _ n0 bk h0 0 0 (mkF m 0 #[.val (.ref a)] []) _
  have ne_1 : @Ne Nat a t := pf_0.2.2.2.2.2.2.2.2
  have lt_2 : @LT.lt Nat _ a (Array.size h0) := pf_0.lt1
  have lt_3 : @LT.lt Nat _ t (Array.size h0) := pf_0.lt2
  refine k_pure (g' := (mkF m 1 #[.val (.ref a)] [(.ref a)])) (fun _ J _ j => XS.aloadN J hx rfl (hb hby d210) rfl rfl j) ?_
  refine k_getF hx (host := "") (Or.inl (wT 42 rfl)) Via.refl pf_0.2.2.1 rfl rfl (hb hby d211) ?_
  show Run p l e _ s m _ below meth c Z EL1 _ n0 bk h0 0 0 (mkF m 4 #[.val (.ref a)] [(.ref t)]) _
  exact k_retA hx hlk hret rfl rfl rfl (hb hby d212) (by decide) (by decide) ⟨rfl, rfl, rfl⟩
def Q_asl (Z : State) (G1 : Int32) (G3 : Value) (us ss : Addr) (a : Addr) (t : Addr) (kb : ClassId) (N : Nat) (cs : List Int32) (h0 : Heap) (n0 : Nat) (bk : Addr → Prop) (v : Option Value) (h : Heap) (bk' : Addr → Prop) : Prop := v = some (.int (Int32.ofNat (cs).length)) ∧ h0 = h ∧ bk = bk'
theorem d213 : decode jdk_68_method_6_code 0 = .ok (.aload_n 0, 1) := by decide +kernel
theorem d214 : decode jdk_68_method_6_code 1 = .ok (.getfield 79, 3) := by decide +kernel
theorem d215 : decode jdk_68_method_6_code 4 = .ok (.ireturn, 1) := by decide +kernel
abbrev RM_asl : Room := { frames := 0, cells := 0, slots := 0, locals := 0 }
theorem ef_asl (m : MethodId) (x0 : Addr) : entryFrame m #[(.ref x0)] 1 = mkF m 0 #[.val (.ref x0)] [] := by first | (simp [entryFrame, mkF, argsToLocals, Value.category]; done) | rfl
set_option maxRecDepth 65536 in
set_option maxHeartbeats 40000000 in
theorem rm_asl (l : Launch) (Z : State) (a0 : Array Value) (G1 : Int32) (G3 : Value) (us ss : Addr) (hX : Ctx Z a0 G1 G3) (hY : More Z us ss) (n0 : Nat) (bk : Addr → Prop) (h0 : Heap) (O0 : Old Z n0 h0) (a : Addr) (t : Addr) (kb : ClassId) (N : Nat) (cs : List Int32) (pf_0 : SbL Z h0 a t kb N cs) (ws : List Jvm.Cond) : Met l Z EL1 n0 bk (⟨"java/lang/AbstractStringBuilder", "length", "()I"⟩ : MethodName) jdk_68_method_6_code 1 (Option.some FieldType.int) RM_asl #[(.ref a)] h0 (Q_asl Z G1 G3 us ss a t kb N cs h0 n0 bk) ws := by
  have hX' := hX
  obtain ⟨hw, hE, S1, P1, S3, P3⟩ := hX'
  have hY' := hY
  obtain ⟨s_us, s_ss⟩ := hY'
  have hSA := sa_of hw
  have wT : ∀ (i : Nat) {d : Jvm.Cond}, tables_1[i]? = some d → d.before a0 Z = true := fun i d h => hw d (List.mem_of_getElem? h)
  have z0 : n0 ≤ h0.size := by rw [← O0.1]; exact O0.2.1
  refine Met.of (by decide +kernel) O0 hE ?_
  intro p e s m below meth c hx hby hml hret hlk hnm
  refine k_cast (ef_asl m a) ?_
  show Run p l e _ s m _ below meth c Z EL1 _ n0 bk h0 0 0 (mkF m 0 #[.val (.ref a)] []) _
  have ne_1 : @Ne Nat a t := pf_0.2.2.2.2.2.2.2.2
  have lt_2 : @LT.lt Nat _ a (Array.size h0) := pf_0.lt1
  have lt_3 : @LT.lt Nat _ t (Array.size h0) := pf_0.lt2
  refine k_pure (g' := (mkF m 1 #[.val (.ref a)] [(.ref a)])) (fun _ J _ j => XS.aloadN J hx rfl (hb hby d213) rfl rfl j) ?_
  refine k_getF hx (host := "") (Or.inl (wT 68 rfl)) Via.refl pf_0.2.2.2.1 rfl rfl (hb hby d214) ?_
  show Run p l e _ s m _ below meth c Z EL1 _ n0 bk h0 0 0 (mkF m 4 #[.val (.ref a)] [(.int (Int32.ofNat (cs).length))]) _
  exact k_retI hx hlk hret (hb hby d215) (by decide) (by decide) ⟨rfl, rfl, rfl⟩
def Q_sbl (Z : State) (G1 : Int32) (G3 : Value) (us ss : Addr) (a : Addr) (t : Addr) (kb : ClassId) (N : Nat) (cs : List Int32) (h0 : Heap) (n0 : Nat) (bk : Addr → Prop) (v : Option Value) (h : Heap) (bk' : Addr → Prop) : Prop := v = some (.int (Int32.ofNat (cs).length)) ∧ h0 = h ∧ bk = bk'
theorem d216 : decode jdk_67_method_93_code 0 = .ok (.aload_n 0, 1) := by decide +kernel
theorem d217 : decode jdk_67_method_93_code 1 = .ok (.invokespecial 343, 3) := by decide +kernel
theorem d218 : decode jdk_67_method_93_code 4 = .ok (.ireturn, 1) := by decide +kernel
abbrev RM_sbl : Room := { frames := 1, cells := 0, slots := 0, locals := 12 }
theorem ef_sbl (m : MethodId) (x0 : Addr) : entryFrame m #[(.ref x0)] 1 = mkF m 0 #[.val (.ref x0)] [] := by first | (simp [entryFrame, mkF, argsToLocals, Value.category]; done) | rfl
set_option maxRecDepth 65536 in
set_option maxHeartbeats 40000000 in
theorem rm_sbl (l : Launch) (Z : State) (a0 : Array Value) (G1 : Int32) (G3 : Value) (us ss : Addr) (hX : Ctx Z a0 G1 G3) (hY : More Z us ss) (n0 : Nat) (bk : Addr → Prop) (h0 : Heap) (O0 : Old Z n0 h0) (a : Addr) (t : Addr) (kb : ClassId) (N : Nat) (cs : List Int32) (pf_0 : SbL Z h0 a t kb N cs) (ws : List Jvm.Cond) : Met l Z EL1 n0 bk (⟨"java/lang/StringBuilder", "length", "()I"⟩ : MethodName) jdk_67_method_93_code 1 (Option.some FieldType.int) RM_sbl #[(.ref a)] h0 (Q_sbl Z G1 G3 us ss a t kb N cs h0 n0 bk) ws := by
  have hX' := hX
  obtain ⟨hw, hE, S1, P1, S3, P3⟩ := hX'
  have hY' := hY
  obtain ⟨s_us, s_ss⟩ := hY'
  have hSA := sa_of hw
  have wT : ∀ (i : Nat) {d : Jvm.Cond}, tables_1[i]? = some d → d.before a0 Z = true := fun i d h => hw d (List.mem_of_getElem? h)
  have z0 : n0 ≤ h0.size := by rw [← O0.1]; exact O0.2.1
  refine Met.of (by decide +kernel) O0 hE ?_
  intro p e s m below meth c hx hby hml hret hlk hnm
  refine k_cast (ef_sbl m a) ?_
  show Run p l e _ s m _ below meth c Z EL1 _ n0 bk h0 0 0 (mkF m 0 #[.val (.ref a)] []) _
  have ne_1 : @Ne Nat a t := pf_0.2.2.2.2.2.2.2.2
  have lt_2 : @LT.lt Nat _ a (Array.size h0) := pf_0.lt1
  have lt_3 : @LT.lt Nat _ t (Array.size h0) := pf_0.lt2
  refine k_pure (g' := (mkF m 1 #[.val (.ref a)] [(.ref a)])) (fun _ J _ j => XS.aloadN J hx rfl (hb hby d216) rfl rfl j) ?_
  refine k_callX hx (y := (⟨"java/lang/AbstractStringBuilder", "length", "()I"⟩ : MethodName)) (K := "java/lang/StringBuilder") (wT 142 rfl) (same_of (by decide) (wT 137 rfl) (nf_of (y' := (⟨"java/lang/AbstractStringBuilder", "ensureCapacityInternal", "(I)V"⟩ : MethodName)) rfl (wT 73 rfl))) (wT 138 rfl) (wT 54 rfl) (by decide) (wT 143 rfl) (W := 0) (a := a) (argsL := []) (rest := []) (Pays.of_met (rm_asl l Z a0 G1 G3 us ss hX hY n0 bk h0 O0 a t kb N cs pf_0 []) (wT 143 rfl) (wT 38 rfl) (by decide) (by decide)) (Ins.self pf_0.1) rfl (by rw [hml]; rfl) (lenOf pd__28__29_I rfl) rfl (by show 2 * 0 + _ ≤ _; exact Nat.le_of_eq rfl) (hb hby d217) (by decide) (by decide) ?_
  intro v_4 h_5 bk_6 O_7 z_8 Q_9
  obtain ⟨rfl, rfl, rfl⟩ := Q_9
  show Run p l e _ s m _ below meth c Z EL1 _ n0 bk h0 0 0 (mkF m 4 #[.val (.ref a)] [(.int (Int32.ofNat (cs).length))]) _
  exact k_retI hx hlk hret (hb hby d218) (by decide) (by decide) ⟨rfl, rfl, rfl⟩
def Q_ail (Z : State) (G1 : Int32) (G3 : Value) (us ss : Addr) (a : Addr) (t : Addr) (kb : ClassId) (N : Nat) (cs : List Int32) (h0 : Heap) (n0 : Nat) (bk : Addr → Prop) (v : Option Value) (h : Heap) (bk' : Addr → Prop) : Prop := v = some (.int (1 : Int32)) ∧ h0 = h ∧ bk = bk'
theorem d219 : decode jdk_68_method_68_code 0 = .ok (.getstatic 18, 3) := by decide +kernel
theorem d220 : decode jdk_68_method_68_code 3 = .ok (.ifCond .eq 14, 3) := by decide +kernel
theorem d221 : decode jdk_68_method_68_code 6 = .ok (.aload_n 0, 1) := by decide +kernel
theorem d222 : decode jdk_68_method_68_code 7 = .ok (.getfield 22, 3) := by decide +kernel
theorem d223 : decode jdk_68_method_68_code 10 = .ok (.ifCond .ne 7, 3) := by decide +kernel
theorem d224 : decode jdk_68_method_68_code 13 = .ok (.iconst 1, 1) := by decide +kernel
theorem d225 : decode jdk_68_method_68_code 14 = .ok (.goto 4, 3) := by decide +kernel
theorem d226 : decode jdk_68_method_68_code 18 = .ok (.ireturn, 1) := by decide +kernel
abbrev RM_ail : Room := { frames := 0, cells := 0, slots := 0, locals := 0 }
theorem ef_ail (m : MethodId) (x0 : Addr) : entryFrame m #[(.ref x0)] 1 = mkF m 0 #[.val (.ref x0)] [] := by first | (simp [entryFrame, mkF, argsToLocals, Value.category]; done) | rfl
set_option maxRecDepth 65536 in
set_option maxHeartbeats 40000000 in
theorem rm_ail (l : Launch) (Z : State) (a0 : Array Value) (G1 : Int32) (G3 : Value) (us ss : Addr) (hX : Ctx Z a0 G1 G3) (hY : More Z us ss) (n0 : Nat) (bk : Addr → Prop) (h0 : Heap) (O0 : Old Z n0 h0) (a : Addr) (t : Addr) (kb : ClassId) (N : Nat) (cs : List Int32) (pf_0 : SbL Z h0 a t kb N cs) (ws : List Jvm.Cond) : Met l Z EL1 n0 bk (⟨"java/lang/AbstractStringBuilder", "isLatin1", "()Z"⟩ : MethodName) jdk_68_method_68_code 1 (Option.some FieldType.boolean) RM_ail #[(.ref a)] h0 (Q_ail Z G1 G3 us ss a t kb N cs h0 n0 bk) ws := by
  have hX' := hX
  obtain ⟨hw, hE, S1, P1, S3, P3⟩ := hX'
  have hY' := hY
  obtain ⟨s_us, s_ss⟩ := hY'
  have hSA := sa_of hw
  have wT : ∀ (i : Nat) {d : Jvm.Cond}, tables_1[i]? = some d → d.before a0 Z = true := fun i d h => hw d (List.mem_of_getElem? h)
  have z0 : n0 ≤ h0.size := by rw [← O0.1]; exact O0.2.1
  refine Met.of (by decide +kernel) O0 hE ?_
  intro p e s m below meth c hx hby hml hret hlk hnm
  refine k_cast (ef_ail m a) ?_
  show Run p l e _ s m _ below meth c Z EL1 _ n0 bk h0 0 0 (mkF m 0 #[.val (.ref a)] []) _
  have ne_1 : @Ne Nat a t := pf_0.2.2.2.2.2.2.2.2
  have lt_2 : @LT.lt Nat _ a (Array.size h0) := pf_0.lt1
  have lt_3 : @LT.lt Nat _ t (Array.size h0) := pf_0.lt2
  refine k_getS hx (host := "") (Or.inl (wT 41 rfl)) Via.refl (S1.ext O0.2) rfl (hb hby d219) ?_
  show Run p l e _ s m _ below meth c Z EL1 _ n0 bk h0 0 0 (mkF m 3 #[.val (.ref a)] [(.int G1)]) _
  refine k_pure (g' := (mkF m 6 #[.val (.ref a)] [])) (fun _ J _ j => XS.ifNo J hx rfl (hb hby d220) rfl ((if0 _ _).trans (feq P1).1) j) ?_
  refine k_pure (g' := (mkF m 7 #[.val (.ref a)] [(.ref a)])) (fun _ J _ j => XS.aloadN J hx rfl (hb hby d221) rfl rfl j) ?_
  refine k_getF hx (host := "") (Or.inl (wT 44 rfl)) Via.refl pf_0.2.1 rfl rfl (hb hby d222) ?_
  show Run p l e _ s m _ below meth c Z EL1 _ n0 bk h0 0 0 (mkF m 10 #[.val (.ref a)] [(.int (0 : Int32))]) _
  refine k_pure (g' := (mkF m 13 #[.val (.ref a)] [])) (fun _ J _ j => XS.ifNo J hx rfl (hb hby d223) rfl ((if0 _ _).trans (teq (by decide : ((0 : Int32) = (0 : Int32)))).2) j) ?_
  refine k_pure (g' := (mkF m 14 #[.val (.ref a)] [(.int (1 : Int32))])) (fun _ J _ j => XS.iconst J hx rfl (hb hby d224) j) ?_
  refine k_pure (g' := (mkF m 18 #[.val (.ref a)] [(.int (1 : Int32))])) (fun _ J _ j => XS.goto J hx rfl (pc0 := 14) (pc' := 18) rfl (hb hby d225) (by decide) (by decide) j) ?_
  exact k_retN hx hlk hret (by simp) (hb hby d226) (by decide) (by decide) ⟨rfl, rfl, rfl⟩
def Q_ckl (Z : State) (G1 : Int32) (G3 : Value) (us ss : Addr) (n : Int32) (h0 : Heap) (n0 : Nat) (bk : Addr → Prop) (v : Option Value) (h : Heap) (bk' : Addr → Prop) : Prop := v = none ∧ h0 = h ∧ bk = bk'
theorem d227 : decode jdk_65_method_131_code 0 = .ok (.iload_n 1, 1) := by decide +kernel
theorem d228 : decode jdk_65_method_131_code 1 = .ok (.iload_n 0, 1) := by decide +kernel
theorem d229 : decode jdk_65_method_131_code 2 = .ok (.if_icmp .ge 35, 3) := by decide +kernel
theorem d230 : decode jdk_65_method_131_code 37 = .ok (.return_, 1) := by decide +kernel
abbrev RM_ckl : Room := { frames := 0, cells := 0, slots := 0, locals := 0 }
theorem ef_ckl (m : MethodId) (x0 : Int32) (x1 : Int32) : entryFrame m #[(.int x0), (.int x1)] 2 = mkF m 0 #[.val (.int x0), .val (.int x1)] [] := by first | (simp [entryFrame, mkF, argsToLocals, Value.category]; done) | rfl
set_option maxRecDepth 65536 in
set_option maxHeartbeats 40000000 in
theorem rm_ckl (l : Launch) (Z : State) (a0 : Array Value) (G1 : Int32) (G3 : Value) (us ss : Addr) (hX : Ctx Z a0 G1 G3) (hY : More Z us ss) (n0 : Nat) (bk : Addr → Prop) (h0 : Heap) (O0 : Old Z n0 h0) (n : Int32) (h : ¬ n < (0 : Int32)) (ws : List Jvm.Cond) : Met l Z EL1 n0 bk (⟨"java/util/Arrays", "checkLength", "(II)V"⟩ : MethodName) jdk_65_method_131_code 2 (Option.none : Option FieldType) RM_ckl #[(.int (0 : Int32)), (.int n)] h0 (Q_ckl Z G1 G3 us ss n h0 n0 bk) ws := by
  have hX' := hX
  obtain ⟨hw, hE, S1, P1, S3, P3⟩ := hX'
  have hY' := hY
  obtain ⟨s_us, s_ss⟩ := hY'
  have hSA := sa_of hw
  have wT : ∀ (i : Nat) {d : Jvm.Cond}, tables_1[i]? = some d → d.before a0 Z = true := fun i d h => hw d (List.mem_of_getElem? h)
  have z0 : n0 ≤ h0.size := by rw [← O0.1]; exact O0.2.1
  refine Met.of (by decide +kernel) O0 hE ?_
  intro p e s m below meth c hx hby hml hret hlk hnm
  refine k_cast (ef_ckl m (0 : Int32) n) ?_
  show Run p l e _ s m _ below meth c Z EL1 _ n0 bk h0 0 0 (mkF m 0 #[.val (.int (0 : Int32)), .val (.int n)] []) _
  refine k_pure (g' := (mkF m 1 #[.val (.int (0 : Int32)), .val (.int n)] [(.int n)])) (fun _ J _ j => XS.iloadN J hx rfl (hb hby d227) rfl j) ?_
  refine k_pure (g' := (mkF m 2 #[.val (.int (0 : Int32)), .val (.int n)] [(.int (0 : Int32)), (.int n)])) (fun _ J _ j => XS.iloadN J hx rfl (hb hby d228) rfl j) ?_
  refine k_pure (g' := (mkF m 37 #[.val (.int (0 : Int32)), .val (.int n)] [])) (fun _ J _ j => XS.icmpYes J hx rfl (pc0 := 2) (pc' := 37) rfl (hb hby d229) rfl (flt h).2.1 (by decide) (by decide) j) ?_
  exact k_ret0 hx hlk hret (hb hby d230) (by decide) (by decide) ⟨rfl, rfl, rfl⟩
def Q_crb (Z : State) (G1 : Int32) (G3 : Value) (us ss : Addr) (t : Addr) (kb : ClassId) (N : Nat) (cs : List Int32) (h0 : Heap) (n0 : Nat) (bk : Addr → Prop) (v : Option Value) (h : Heap) (bk' : Addr → Prop) : Prop := ∃ (u : Addr), ∃ (ku : ClassId), v = some (.ref u) ∧ bk = bk' ∧ Keep h0 h [] ∧ (Arv Z h u ku .byte (Int32.ofNat (cs).length) (((cs).map (fun c => c.toInt8.toInt32)).map Value.int) (.int 0)) ∧ (@LE.le Nat _ (Array.size h0) u)
theorem d231 : decode jdk_65_method_133_code 0 = .ok (.iload_n 1, 1) := by decide +kernel
theorem d232 : decode jdk_65_method_133_code 1 = .ok (.iload_n 2, 1) := by decide +kernel
theorem d233 : decode jdk_65_method_133_code 2 = .ok (.invokestatic 343, 3) := by decide +kernel
theorem pd__28_II_29_V : parseMethodDescriptor "(II)V" = some ⟨[.int, .int], none⟩ := by decide +kernel
theorem d234 : decode jdk_65_method_133_code 5 = .ok (.iload_n 2, 1) := by decide +kernel
theorem d235 : decode jdk_65_method_133_code 6 = .ok (.iload_n 1, 1) := by decide +kernel
theorem d236 : decode jdk_65_method_133_code 7 = .ok (.isub, 1) := by decide +kernel
theorem d237 : decode jdk_65_method_133_code 8 = .ok (.istore_n 3, 1) := by decide +kernel
theorem d238 : decode jdk_65_method_133_code 9 = .ok (.iload_n 3, 1) := by decide +kernel
theorem d239 : decode jdk_65_method_133_code 10 = .ok (.newarray .byte, 2) := by decide +kernel
theorem d240 : decode jdk_65_method_133_code 12 = .ok (.astore 4, 2) := by decide +kernel
theorem d241 : decode jdk_65_method_133_code 14 = .ok (.aload_n 0, 1) := by decide +kernel
theorem d242 : decode jdk_65_method_133_code 15 = .ok (.iload_n 1, 1) := by decide +kernel
theorem d243 : decode jdk_65_method_133_code 16 = .ok (.aload 4, 2) := by decide +kernel
theorem d244 : decode jdk_65_method_133_code 18 = .ok (.iconst 0, 1) := by decide +kernel
theorem d245 : decode jdk_65_method_133_code 19 = .ok (.aload_n 0, 1) := by decide +kernel
theorem d246 : decode jdk_65_method_133_code 20 = .ok (.arraylength, 1) := by decide +kernel
theorem d247 : decode jdk_65_method_133_code 21 = .ok (.iload_n 1, 1) := by decide +kernel
theorem d248 : decode jdk_65_method_133_code 22 = .ok (.isub, 1) := by decide +kernel
theorem d249 : decode jdk_65_method_133_code 23 = .ok (.iload_n 3, 1) := by decide +kernel
theorem d250 : decode jdk_65_method_133_code 24 = .ok (.invokestatic 304, 3) := by decide +kernel
theorem d251 : decode jdk_65_method_133_code 27 = .ok (.invokestatic 150, 3) := by decide +kernel
theorem d252 : decode jdk_65_method_133_code 30 = .ok (.aload 4, 2) := by decide +kernel
theorem d253 : decode jdk_65_method_133_code 32 = .ok (.areturn, 1) := by decide +kernel
abbrev RM_crb : Room := { frames := 1, cells := 1, slots := 40, locals := 18 }
theorem ef_crb (m : MethodId) (x0 : Addr) (x1 : Int32) (x2 : Int32) : entryFrame m #[(.ref x0), (.int x1), (.int x2)] 5 = mkF m 0 #[.val (.ref x0), .val (.int x1), .val (.int x2), .unset, .unset] [] := by first | (simp [entryFrame, mkF, argsToLocals, Value.category]; done) | rfl
set_option maxRecDepth 65536 in
set_option maxHeartbeats 40000000 in
theorem rm_crb (l : Launch) (Z : State) (a0 : Array Value) (G1 : Int32) (G3 : Value) (us ss : Addr) (hX : Ctx Z a0 G1 G3) (hY : More Z us ss) (n0 : Nat) (bk : Addr → Prop) (h0 : Heap) (O0 : Old Z n0 h0) (t : Addr) (kb : ClassId) (N : Nat) (cs : List Int32) (pf_0 : Arv Z h0 t kb .byte (Int32.ofNat N) (((cs).map (fun c => c.toInt8.toInt32)).map Value.int) (.int 0)) (l1 : cs.length < N) (l2 : N ≤ 4000) (l3 : cs.length ≤ 40) (hbl : ∀ y, bk y → @LT.lt Nat _ y (Array.size h0)) (ws : List Jvm.Cond) : Met l Z EL1 n0 bk (⟨"java/util/Arrays", "copyOfRangeByte", "([BII)[B"⟩ : MethodName) jdk_65_method_133_code 5 (Option.some (FieldType.array FieldType.byte)) RM_crb #[(.ref t), (.int (0 : Int32)), (.int (Int32.ofNat (cs).length))] h0 (Q_crb Z G1 G3 us ss t kb N cs h0 n0 bk) ws := by
  have hX' := hX
  obtain ⟨hw, hE, S1, P1, S3, P3⟩ := hX'
  have hY' := hY
  obtain ⟨s_us, s_ss⟩ := hY'
  have hSA := sa_of hw
  have wT : ∀ (i : Nat) {d : Jvm.Cond}, tables_1[i]? = some d → d.before a0 Z = true := fun i d h => hw d (List.mem_of_getElem? h)
  have z0 : n0 ≤ h0.size := by rw [← O0.1]; exact O0.2.1
  refine Met.of (by decide +kernel) O0 hE ?_
  intro p e s m below meth c hx hby hml hret hlk hnm
  refine k_cast (ef_crb m t (0 : Int32) (Int32.ofNat (cs).length)) ?_
  show Run p l e _ s m _ below meth c Z EL1 _ n0 bk h0 0 0 (mkF m 0 #[.val (.ref t), .val (.int (0 : Int32)), .val (.int (Int32.ofNat (cs).length)), .unset, .unset] []) _
  have lt_1 : @LT.lt Nat _ t (Array.size h0) := pf_0.lt
  refine k_pure (g' := (mkF m 1 #[.val (.ref t), .val (.int (0 : Int32)), .val (.int (Int32.ofNat (cs).length)), .unset, .unset] [(.int (0 : Int32))])) (fun _ J _ j => XS.iloadN J hx rfl (hb hby d231) rfl j) ?_
  refine k_pure (g' := (mkF m 2 #[.val (.ref t), .val (.int (0 : Int32)), .val (.int (Int32.ofNat (cs).length)), .unset, .unset] [(.int (Int32.ofNat (cs).length)), (.int (0 : Int32))])) (fun _ J _ j => XS.iloadN J hx rfl (hb hby d232) rfl j) ?_
  refine k_callS hx (y := (⟨"java/util/Arrays", "checkLength", "(II)V"⟩ : MethodName)) (wT 155 rfl) (wT 156 rfl) (wT 92 rfl) (wT 157 rfl) (by decide) (W := 0) (argsL := [(.int (0 : Int32)), (.int (Int32.ofNat (cs).length))]) (rest := []) (Pays.of_met (rm_ckl l Z a0 G1 G3 us ss hX hY n0 bk h0 O0 (Int32.ofNat (cs).length) (not_lt_nat (n := 0) (Nat.zero_le _) (by omega)) []) (wT 157 rfl) (wT 92 rfl) (by decide) (by decide)) rfl (by rw [hml]; rfl) (lenOf pd__28_II_29_V rfl) rfl (by show 2 * 0 + _ ≤ _; exact Nat.le_of_eq rfl) (hb hby d233) (by decide) (by decide) ?_
  intro v_2 h_3 bk_4 O_5 z_6 Q_7
  obtain ⟨rfl, rfl, rfl⟩ := Q_7
  show Run p l e _ s m _ below meth c Z EL1 _ n0 bk h0 0 0 (mkF m 5 #[.val (.ref t), .val (.int (0 : Int32)), .val (.int (Int32.ofNat (cs).length)), .unset, .unset] []) _
  refine k_pure (g' := (mkF m 6 #[.val (.ref t), .val (.int (0 : Int32)), .val (.int (Int32.ofNat (cs).length)), .unset, .unset] [(.int (Int32.ofNat (cs).length))])) (fun _ J _ j => XS.iloadN J hx rfl (hb hby d234) rfl j) ?_
  refine k_pure (g' := (mkF m 7 #[.val (.ref t), .val (.int (0 : Int32)), .val (.int (Int32.ofNat (cs).length)), .unset, .unset] [(.int (0 : Int32)), (.int (Int32.ofNat (cs).length))])) (fun _ J _ j => XS.iloadN J hx rfl (hb hby d235) rfl j) ?_
  refine k_pure (g' := (mkF m 8 #[.val (.ref t), .val (.int (0 : Int32)), .val (.int (Int32.ofNat (cs).length)), .unset, .unset] [(.int ((Int32.ofNat (cs).length) - (0 : Int32)))])) (fun _ J _ j => XS.isub J hx rfl (hb hby d236) rfl j) ?_
  rw [sub0]
  show Run p l e _ s m _ below meth c Z EL1 _ n0 bk h0 0 0 (mkF m 8 #[.val (.ref t), .val (.int (0 : Int32)), .val (.int (Int32.ofNat (cs).length)), .unset, .unset] [(.int (Int32.ofNat (cs).length))]) _
  refine k_pure (g' := (mkF m 9 #[.val (.ref t), .val (.int (0 : Int32)), .val (.int (Int32.ofNat (cs).length)), .val (.int (Int32.ofNat (cs).length)), .unset] [])) (fun _ J _ j => XS.istoreN J hx rfl (hb hby d237) rfl (l' := #[.val (.ref t), .val (.int (0 : Int32)), .val (.int (Int32.ofNat (cs).length)), .val (.int (Int32.ofNat (cs).length)), .unset]) rfl j) ?_
  refine k_pure (g' := (mkF m 10 #[.val (.ref t), .val (.int (0 : Int32)), .val (.int (Int32.ofNat (cs).length)), .val (.int (Int32.ofNat (cs).length)), .unset] [(.int (Int32.ofNat (cs).length))])) (fun _ J _ j => XS.iloadN J hx rfl (hb hby d238) rfl j) ?_
  refine k_newP hx (wT 15 rfl) rfl (hb hby d239) rfl (not_lt_nat (n := 0) (Nat.zero_le _) (by omega)) (cap := 40) (by rw [clampN (by omega)]; exact l3) (by decide) (by decide) (by decide) "[B" (by decide +kernel) ?_
  intro h_9 a_8 k_10 g_11 O_12 E_13 A_14 X_15
  have z_16 := E_13.1
  have lt_17 : @LT.lt Nat _ a_8 (Array.size h_9) := A_14.lt
  have nb_18 : ¬ bk a_8 := fun q => Nat.not_le_of_lt (hbl _ q) (show @LE.le Nat _ (Array.size h0) a_8 by omega)
  show Run p l e _ s m _ below meth c Z EL1 _ n0 bk h_9 1 40 (mkF m 12 #[.val (.ref t), .val (.int (0 : Int32)), .val (.int (Int32.ofNat (cs).length)), .val (.int (Int32.ofNat (cs).length)), .unset] [(.ref a_8)]) _
  refine k_pure (g' := (mkF m 14 #[.val (.ref t), .val (.int (0 : Int32)), .val (.int (Int32.ofNat (cs).length)), .val (.int (Int32.ofNat (cs).length)), .val (.ref a_8)] [])) (fun _ J _ j => XS.astore J hx rfl (hb hby d240) rfl rfl (l' := #[.val (.ref t), .val (.int (0 : Int32)), .val (.int (Int32.ofNat (cs).length)), .val (.int (Int32.ofNat (cs).length)), .val (.ref a_8)]) rfl j) ?_
  refine k_pure (g' := (mkF m 15 #[.val (.ref t), .val (.int (0 : Int32)), .val (.int (Int32.ofNat (cs).length)), .val (.int (Int32.ofNat (cs).length)), .val (.ref a_8)] [(.ref t)])) (fun _ J _ j => XS.aloadN J hx rfl (hb hby d241) rfl rfl j) ?_
  refine k_pure (g' := (mkF m 16 #[.val (.ref t), .val (.int (0 : Int32)), .val (.int (Int32.ofNat (cs).length)), .val (.int (Int32.ofNat (cs).length)), .val (.ref a_8)] [(.int (0 : Int32)), (.ref t)])) (fun _ J _ j => XS.iloadN J hx rfl (hb hby d242) rfl j) ?_
  refine k_pure (g' := (mkF m 18 #[.val (.ref t), .val (.int (0 : Int32)), .val (.int (Int32.ofNat (cs).length)), .val (.int (Int32.ofNat (cs).length)), .val (.ref a_8)] [(.ref a_8), (.int (0 : Int32)), (.ref t)])) (fun _ J _ j => XS.aload J hx rfl (hb hby d243) rfl rfl j) ?_
  refine k_pure (g' := (mkF m 19 #[.val (.ref t), .val (.int (0 : Int32)), .val (.int (Int32.ofNat (cs).length)), .val (.int (Int32.ofNat (cs).length)), .val (.ref a_8)] [(.int (0 : Int32)), (.ref a_8), (.int (0 : Int32)), (.ref t)])) (fun _ J _ j => XS.iconst J hx rfl (hb hby d244) j) ?_
  refine k_pure (g' := (mkF m 20 #[.val (.ref t), .val (.int (0 : Int32)), .val (.int (Int32.ofNat (cs).length)), .val (.int (Int32.ofNat (cs).length)), .val (.ref a_8)] [(.ref t), (.int (0 : Int32)), (.ref a_8), (.int (0 : Int32)), (.ref t)])) (fun _ J _ j => XS.aloadN J hx rfl (hb hby d245) rfl rfl j) ?_
  have F_19 : Arv Z h_9 t kb .byte (Int32.ofNat N) (((cs).map (fun c => c.toInt8.toInt32)).map Value.int) (.int 0) := (pf_0.ext E_13)
  refine k_alen hx F_19 rfl rfl (hb hby d246) ?_
  show Run p l e _ s m _ below meth c Z EL1 _ n0 bk h_9 1 40 (mkF m 21 #[.val (.ref t), .val (.int (0 : Int32)), .val (.int (Int32.ofNat (cs).length)), .val (.int (Int32.ofNat (cs).length)), .val (.ref a_8)] [(.int (Int32.ofNat N)), (.int (0 : Int32)), (.ref a_8), (.int (0 : Int32)), (.ref t)]) _
  refine k_pure (g' := (mkF m 22 #[.val (.ref t), .val (.int (0 : Int32)), .val (.int (Int32.ofNat (cs).length)), .val (.int (Int32.ofNat (cs).length)), .val (.ref a_8)] [(.int (0 : Int32)), (.int (Int32.ofNat N)), (.int (0 : Int32)), (.ref a_8), (.int (0 : Int32)), (.ref t)])) (fun _ J _ j => XS.iloadN J hx rfl (hb hby d247) rfl j) ?_
  refine k_pure (g' := (mkF m 23 #[.val (.ref t), .val (.int (0 : Int32)), .val (.int (Int32.ofNat (cs).length)), .val (.int (Int32.ofNat (cs).length)), .val (.ref a_8)] [(.int ((Int32.ofNat N) - (0 : Int32))), (.int (0 : Int32)), (.ref a_8), (.int (0 : Int32)), (.ref t)])) (fun _ J _ j => XS.isub J hx rfl (hb hby d248) rfl j) ?_
  rw [sub0]
  show Run p l e _ s m _ below meth c Z EL1 _ n0 bk h_9 1 40 (mkF m 23 #[.val (.ref t), .val (.int (0 : Int32)), .val (.int (Int32.ofNat (cs).length)), .val (.int (Int32.ofNat (cs).length)), .val (.ref a_8)] [(.int (Int32.ofNat N)), (.int (0 : Int32)), (.ref a_8), (.int (0 : Int32)), (.ref t)]) _
  refine k_pure (g' := (mkF m 24 #[.val (.ref t), .val (.int (0 : Int32)), .val (.int (Int32.ofNat (cs).length)), .val (.int (Int32.ofNat (cs).length)), .val (.ref a_8)] [(.int (Int32.ofNat (cs).length)), (.int (Int32.ofNat N)), (.int (0 : Int32)), (.ref a_8), (.int (0 : Int32)), (.ref t)])) (fun _ J _ j => XS.iloadN J hx rfl (hb hby d249) rfl j) ?_
  refine k_callS hx (y := (⟨"java/lang/Math", "min", "(II)I"⟩ : MethodName)) (wT 94 rfl) (wT 95 rfl) (wT 86 rfl) (wT 96 rfl) (by decide) (W := 4) (argsL := [(.int (Int32.ofNat N)), (.int (Int32.ofNat (cs).length))]) (rest := [(.int (0 : Int32)), (.ref a_8), (.int (0 : Int32)), (.ref t)]) (Pays.of_met (rm_min1 l Z a0 G1 G3 us ss hX hY n0 bk h_9 O_12 (Int32.ofNat N) (Int32.ofNat (cs).length) (lt_nat l1 l2) []) (wT 96 rfl) (wT 86 rfl) (by decide) (by decide)) rfl (by rw [hml]; rfl) (lenOf pd__28_II_29_I rfl) rfl (by show 2 * 0 + _ ≤ _; exact Nat.le_of_eq rfl) (hb hby d250) (by decide) (by decide) ?_
  intro v_20 h_21 bk_22 O_23 z_24 Q_25
  obtain ⟨rfl, rfl, rfl⟩ := Q_25
  show Run p l e _ s m _ below meth c Z EL1 _ n0 bk h_9 1 40 (mkF m 27 #[.val (.ref t), .val (.int (0 : Int32)), .val (.int (Int32.ofNat (cs).length)), .val (.int (Int32.ofNat (cs).length)), .val (.ref a_8)] [(.int (Int32.ofNat (cs).length)), (.int (0 : Int32)), (.ref a_8), (.int (0 : Int32)), (.ref t)]) _
  have B_26 : Arv Z h_9 a_8 k_10 .byte (Int32.ofNat (cs).length) (([] : List Value) ++ List.replicate (cs).length (Value.int 0)) (.int (0 : Int32)) := Arv.pad A_14 (pad_rep [] (.int 0) (cs).length)
  refine k_cpA hx (wT 97 rfl) (wT 100 rfl) (wT 98 rfl) (wT 99 rfl) F_19 B_26 (Or.inl ⟨rfl, rfl⟩) (by decide) (by decide) (not_lt_nat (n := 0) (Nat.zero_le _) (by omega)) (by rw [clampN (by omega), clampN (by omega)]; exact Nat.le_trans (Nat.le_of_eq (Nat.zero_add _)) (Nat.le_of_lt l1)) (Nat.le_of_eq (Nat.zero_add _)) rfl (by rw [clampN (by omega)]; simp) (by omega) nb_18 rfl (by rw [hml]; rfl) rfl (hb hby d251) (by decide) (W := 0) (by show 2 * 0 + _ ≤ _; exact Nat.le_of_eq rfl) (by decide) ?_
  intro h_27 O_28 K_29 V_30
  have z_31 := K_29.1
  have V_32 : Arv Z h_27 a_8 k_10 .byte (Int32.ofNat (cs).length) (((cs).map (fun c => c.toInt8.toInt32)).map Value.int) (.int (0 : Int32)) := (cpy_all (cs := cs) (by omega)) ▸ V_30
  show Run p l e _ s m _ below meth c Z EL1 _ n0 bk h_27 1 40 (mkF m 30 #[.val (.ref t), .val (.int (0 : Int32)), .val (.int (Int32.ofNat (cs).length)), .val (.int (Int32.ofNat (cs).length)), .val (.ref a_8)] []) _
  refine k_pure (g' := (mkF m 32 #[.val (.ref t), .val (.int (0 : Int32)), .val (.int (Int32.ofNat (cs).length)), .val (.int (Int32.ofNat (cs).length)), .val (.ref a_8)] [(.ref a_8)])) (fun _ J _ j => XS.aload J hx rfl (hb hby d252) rfl rfl j) ?_
  exact k_retA hx hlk hret rfl rfl rfl (hb hby d253) (by decide) (by decide) ⟨_, _, rfl, rfl, (((Keep.refl _ _).ext E_13).trans K_29 (kkS (Or.inr (by omega)) kk0)), V_32, (by omega)⟩
def Q_cor (Z : State) (G1 : Int32) (G3 : Value) (us ss : Addr) (t : Addr) (kb : ClassId) (N : Nat) (cs : List Int32) (h0 : Heap) (n0 : Nat) (bk : Addr → Prop) (v : Option Value) (h : Heap) (bk' : Addr → Prop) : Prop := ∃ (u : Addr), ∃ (ku : ClassId), v = some (.ref u) ∧ bk = bk' ∧ Keep h0 h [] ∧ (Arv Z h u ku .byte (Int32.ofNat (cs).length) (((cs).map (fun c => c.toInt8.toInt32)).map Value.int) (.int 0)) ∧ (@LE.le Nat _ (Array.size h0) u)
theorem d254 : decode jdk_65_method_132_code 0 = .ok (.iload_n 1, 1) := by decide +kernel
theorem d255 : decode jdk_65_method_132_code 1 = .ok (.ifCond .ne 9, 3) := by decide +kernel
theorem d256 : decode jdk_65_method_132_code 4 = .ok (.iload_n 2, 1) := by decide +kernel
theorem d257 : decode jdk_65_method_132_code 5 = .ok (.aload_n 0, 1) := by decide +kernel
theorem d258 : decode jdk_65_method_132_code 6 = .ok (.arraylength, 1) := by decide +kernel
theorem d259 : decode jdk_65_method_132_code 7 = .ok (.if_icmp .eq 10, 3) := by decide +kernel
theorem d260 : decode jdk_65_method_132_code 10 = .ok (.aload_n 0, 1) := by decide +kernel
theorem d261 : decode jdk_65_method_132_code 11 = .ok (.iload_n 1, 1) := by decide +kernel
theorem d262 : decode jdk_65_method_132_code 12 = .ok (.iload_n 2, 1) := by decide +kernel
theorem d263 : decode jdk_65_method_132_code 13 = .ok (.invokestatic 339, 3) := by decide +kernel
theorem pd__28__5b_BII_29__5b_B : parseMethodDescriptor "([BII)[B" = some ⟨[(.array .byte), .int, .int], some (.array .byte)⟩ := by decide +kernel
theorem d264 : decode jdk_65_method_132_code 16 = .ok (.areturn, 1) := by decide +kernel
abbrev RM_cor : Room := { frames := 2, cells := 1, slots := 40, locals := 34 }
theorem ef_cor (m : MethodId) (x0 : Addr) (x1 : Int32) (x2 : Int32) : entryFrame m #[(.ref x0), (.int x1), (.int x2)] 3 = mkF m 0 #[.val (.ref x0), .val (.int x1), .val (.int x2)] [] := by first | (simp [entryFrame, mkF, argsToLocals, Value.category]; done) | rfl
set_option maxRecDepth 65536 in
set_option maxHeartbeats 40000000 in
theorem rm_cor (l : Launch) (Z : State) (a0 : Array Value) (G1 : Int32) (G3 : Value) (us ss : Addr) (hX : Ctx Z a0 G1 G3) (hY : More Z us ss) (n0 : Nat) (bk : Addr → Prop) (h0 : Heap) (O0 : Old Z n0 h0) (t : Addr) (kb : ClassId) (N : Nat) (cs : List Int32) (pf_0 : Arv Z h0 t kb .byte (Int32.ofNat N) (((cs).map (fun c => c.toInt8.toInt32)).map Value.int) (.int 0)) (l1 : cs.length < N) (l2 : N ≤ 4000) (l3 : cs.length ≤ 40) (hbl : ∀ y, bk y → @LT.lt Nat _ y (Array.size h0)) (ws : List Jvm.Cond) : Met l Z EL1 n0 bk (⟨"java/util/Arrays", "copyOfRange", "([BII)[B"⟩ : MethodName) jdk_65_method_132_code 3 (Option.some (FieldType.array FieldType.byte)) RM_cor #[(.ref t), (.int (0 : Int32)), (.int (Int32.ofNat (cs).length))] h0 (Q_cor Z G1 G3 us ss t kb N cs h0 n0 bk) ws := by
  have hX' := hX
  obtain ⟨hw, hE, S1, P1, S3, P3⟩ := hX'
  have hY' := hY
  obtain ⟨s_us, s_ss⟩ := hY'
  have hSA := sa_of hw
  have wT : ∀ (i : Nat) {d : Jvm.Cond}, tables_1[i]? = some d → d.before a0 Z = true := fun i d h => hw d (List.mem_of_getElem? h)
  have z0 : n0 ≤ h0.size := by rw [← O0.1]; exact O0.2.1
  refine Met.of (by decide +kernel) O0 hE ?_
  intro p e s m below meth c hx hby hml hret hlk hnm
  refine k_cast (ef_cor m t (0 : Int32) (Int32.ofNat (cs).length)) ?_
  show Run p l e _ s m _ below meth c Z EL1 _ n0 bk h0 0 0 (mkF m 0 #[.val (.ref t), .val (.int (0 : Int32)), .val (.int (Int32.ofNat (cs).length))] []) _
  have lt_1 : @LT.lt Nat _ t (Array.size h0) := pf_0.lt
  refine k_pure (g' := (mkF m 1 #[.val (.ref t), .val (.int (0 : Int32)), .val (.int (Int32.ofNat (cs).length))] [(.int (0 : Int32))])) (fun _ J _ j => XS.iloadN J hx rfl (hb hby d254) rfl j) ?_
  refine k_pure (g' := (mkF m 4 #[.val (.ref t), .val (.int (0 : Int32)), .val (.int (Int32.ofNat (cs).length))] [])) (fun _ J _ j => XS.ifNo J hx rfl (hb hby d255) rfl ((if0 _ _).trans (teq (by decide : ((0 : Int32) = (0 : Int32)))).2) j) ?_
  refine k_pure (g' := (mkF m 5 #[.val (.ref t), .val (.int (0 : Int32)), .val (.int (Int32.ofNat (cs).length))] [(.int (Int32.ofNat (cs).length))])) (fun _ J _ j => XS.iloadN J hx rfl (hb hby d256) rfl j) ?_
  refine k_pure (g' := (mkF m 6 #[.val (.ref t), .val (.int (0 : Int32)), .val (.int (Int32.ofNat (cs).length))] [(.ref t), (.int (Int32.ofNat (cs).length))])) (fun _ J _ j => XS.aloadN J hx rfl (hb hby d257) rfl rfl j) ?_
  refine k_alen hx pf_0 rfl rfl (hb hby d258) ?_
  show Run p l e _ s m _ below meth c Z EL1 _ n0 bk h0 0 0 (mkF m 7 #[.val (.ref t), .val (.int (0 : Int32)), .val (.int (Int32.ofNat (cs).length))] [(.int (Int32.ofNat N)), (.int (Int32.ofNat (cs).length))]) _
  refine k_pure (g' := (mkF m 10 #[.val (.ref t), .val (.int (0 : Int32)), .val (.int (Int32.ofNat (cs).length))] [])) (fun _ J _ j => XS.icmpNo J hx rfl (hb hby d259) rfl (feq (ne_nat l1 l2)).1 j) ?_
  refine k_pure (g' := (mkF m 11 #[.val (.ref t), .val (.int (0 : Int32)), .val (.int (Int32.ofNat (cs).length))] [(.ref t)])) (fun _ J _ j => XS.aloadN J hx rfl (hb hby d260) rfl rfl j) ?_
  refine k_pure (g' := (mkF m 12 #[.val (.ref t), .val (.int (0 : Int32)), .val (.int (Int32.ofNat (cs).length))] [(.int (0 : Int32)), (.ref t)])) (fun _ J _ j => XS.iloadN J hx rfl (hb hby d261) rfl j) ?_
  refine k_pure (g' := (mkF m 13 #[.val (.ref t), .val (.int (0 : Int32)), .val (.int (Int32.ofNat (cs).length))] [(.int (Int32.ofNat (cs).length)), (.int (0 : Int32)), (.ref t)])) (fun _ J _ j => XS.iloadN J hx rfl (hb hby d262) rfl j) ?_
  refine k_callS hx (y := (⟨"java/util/Arrays", "copyOfRangeByte", "([BII)[B"⟩ : MethodName)) (wT 152 rfl) (wT 153 rfl) (wT 92 rfl) (wT 154 rfl) (by decide) (W := 0) (argsL := [(.ref t), (.int (0 : Int32)), (.int (Int32.ofNat (cs).length))]) (rest := []) (Pays.of_met (rm_crb l Z a0 G1 G3 us ss hX hY n0 bk h0 O0 t kb N cs pf_0 l1 l2 l3 hbl []) (wT 154 rfl) (wT 92 rfl) (by decide) (by decide)) rfl (by rw [hml]; rfl) (lenOf pd__28__5b_BII_29__5b_B rfl) rfl (by show 2 * 0 + _ ≤ _; exact Nat.le_of_eq rfl) (hb hby d263) (by decide) (by decide) ?_
  intro v_2 h_3 bk_4 O_5 z_6 Q_7
  obtain ⟨a_8, k_9, rfl, rfl, K_10, F_11, P_12⟩ := Q_7
  have lt_13 : @LT.lt Nat _ a_8 (Array.size h_3) := F_11.lt
  show Run p l e _ s m _ below meth c Z EL1 _ n0 bk h_3 1 40 (mkF m 16 #[.val (.ref t), .val (.int (0 : Int32)), .val (.int (Int32.ofNat (cs).length))] [(.ref a_8)]) _
  exact k_retA hx hlk hret rfl rfl rfl (hb hby d264) (by decide) (by decide) ⟨_, _, rfl, rfl, ((Keep.refl _ _).trans K_10 kk0), F_11, (by omega)⟩
def Q_coc (Z : State) (G1 : Int32) (G3 : Value) (us ss : Addr) (t : Addr) (kb : ClassId) (N : Nat) (cs : List Int32) (h0 : Heap) (n0 : Nat) (bk : Addr → Prop) (v : Option Value) (h : Heap) (bk' : Addr → Prop) : Prop := ∃ (u : Addr), ∃ (ku : ClassId), v = some (.ref u) ∧ bk = bk' ∧ Keep h0 h [] ∧ (Arv Z h u ku .byte (Int32.ofNat (cs).length) (((cs).map (fun c => c.toInt8.toInt32)).map Value.int) (.int 0)) ∧ (@LE.le Nat _ (Array.size h0) u)
theorem d265 : decode jdk_65_method_132_code 17 = .ok (.aload_n 0, 1) := by decide +kernel
theorem d266 : decode jdk_65_method_132_code 18 = .ok (.invokevirtual 310, 3) := by decide +kernel
theorem d267 : decode jdk_65_method_132_code 21 = .ok (.checkcast 311, 3) := by decide +kernel
theorem d268 : decode jdk_65_method_132_code 24 = .ok (.areturn, 1) := by decide +kernel
abbrev RM_coc : Room := { frames := 1, cells := 1, slots := 40, locals := 14 }
theorem ef_coc (m : MethodId) (x0 : Addr) (x1 : Int32) (x2 : Int32) : entryFrame m #[(.ref x0), (.int x1), (.int x2)] 3 = mkF m 0 #[.val (.ref x0), .val (.int x1), .val (.int x2)] [] := by first | (simp [entryFrame, mkF, argsToLocals, Value.category]; done) | rfl
set_option maxRecDepth 65536 in
set_option maxHeartbeats 40000000 in
theorem rm_coc (l : Launch) (Z : State) (a0 : Array Value) (G1 : Int32) (G3 : Value) (us ss : Addr) (hX : Ctx Z a0 G1 G3) (hY : More Z us ss) (n0 : Nat) (bk : Addr → Prop) (h0 : Heap) (O0 : Old Z n0 h0) (t : Addr) (kb : ClassId) (N : Nat) (cs : List Int32) (pf_0 : Arv Z h0 t kb .byte (Int32.ofNat N) (((cs).map (fun c => c.toInt8.toInt32)).map Value.int) (.int 0)) (pf_1 : Exa Z h0 t "[B") (l1 : cs.length = N) (l2 : N ≤ 4000) (l3 : cs.length ≤ 40) (hbl : ∀ y, bk y → @LT.lt Nat _ y (Array.size h0)) (ws : List Jvm.Cond) : Met l Z EL1 n0 bk (⟨"java/util/Arrays", "copyOfRange", "([BII)[B"⟩ : MethodName) jdk_65_method_132_code 3 (Option.some (FieldType.array FieldType.byte)) RM_coc #[(.ref t), (.int (0 : Int32)), (.int (Int32.ofNat (cs).length))] h0 (Q_coc Z G1 G3 us ss t kb N cs h0 n0 bk) ws := by
  have hX' := hX
  obtain ⟨hw, hE, S1, P1, S3, P3⟩ := hX'
  have hY' := hY
  obtain ⟨s_us, s_ss⟩ := hY'
  have hSA := sa_of hw
  have wT : ∀ (i : Nat) {d : Jvm.Cond}, tables_1[i]? = some d → d.before a0 Z = true := fun i d h => hw d (List.mem_of_getElem? h)
  have z0 : n0 ≤ h0.size := by rw [← O0.1]; exact O0.2.1
  refine Met.of (by decide +kernel) O0 hE ?_
  intro p e s m below meth c hx hby hml hret hlk hnm
  refine k_cast (ef_coc m t (0 : Int32) (Int32.ofNat (cs).length)) ?_
  show Run p l e _ s m _ below meth c Z EL1 _ n0 bk h0 0 0 (mkF m 0 #[.val (.ref t), .val (.int (0 : Int32)), .val (.int (Int32.ofNat (cs).length))] []) _
  have lt_1 : @LT.lt Nat _ t (Array.size h0) := pf_0.lt
  have lt_2 : @LT.lt Nat _ t (Array.size h0) := pf_1.lt
  refine k_pure (g' := (mkF m 1 #[.val (.ref t), .val (.int (0 : Int32)), .val (.int (Int32.ofNat (cs).length))] [(.int (0 : Int32))])) (fun _ J _ j => XS.iloadN J hx rfl (hb hby d254) rfl j) ?_
  refine k_pure (g' := (mkF m 4 #[.val (.ref t), .val (.int (0 : Int32)), .val (.int (Int32.ofNat (cs).length))] [])) (fun _ J _ j => XS.ifNo J hx rfl (hb hby d255) rfl ((if0 _ _).trans (teq (by decide : ((0 : Int32) = (0 : Int32)))).2) j) ?_
  refine k_pure (g' := (mkF m 5 #[.val (.ref t), .val (.int (0 : Int32)), .val (.int (Int32.ofNat (cs).length))] [(.int (Int32.ofNat (cs).length))])) (fun _ J _ j => XS.iloadN J hx rfl (hb hby d256) rfl j) ?_
  refine k_pure (g' := (mkF m 6 #[.val (.ref t), .val (.int (0 : Int32)), .val (.int (Int32.ofNat (cs).length))] [(.ref t), (.int (Int32.ofNat (cs).length))])) (fun _ J _ j => XS.aloadN J hx rfl (hb hby d257) rfl rfl j) ?_
  refine k_alen hx pf_0 rfl rfl (hb hby d258) ?_
  show Run p l e _ s m _ below meth c Z EL1 _ n0 bk h0 0 0 (mkF m 7 #[.val (.ref t), .val (.int (0 : Int32)), .val (.int (Int32.ofNat (cs).length))] [(.int (Int32.ofNat N)), (.int (Int32.ofNat (cs).length))]) _
  refine k_pure (g' := (mkF m 17 #[.val (.ref t), .val (.int (0 : Int32)), .val (.int (Int32.ofNat (cs).length))] [])) (fun _ J _ j => XS.icmpYes J hx rfl (pc0 := 7) (pc' := 17) rfl (hb hby d259) rfl (teq (by rw [l1])).1 (by decide) (by decide) j) ?_
  refine k_pure (g' := (mkF m 18 #[.val (.ref t), .val (.int (0 : Int32)), .val (.int (Int32.ofNat (cs).length))] [(.ref t)])) (fun _ J _ j => XS.aloadN J hx rfl (hb hby d265) rfl rfl j) ?_
  refine k_clone hx (wT 253 rfl) (wT 254 rfl) (wT 258 rfl) (wT 256 rfl) (wT 257 rfl) (wT 259 rfl) pf_0 pf_1 rfl (by rw [hml]; rfl) rfl (hb hby d266) (by decide) (W := 0) (cap := 40) (by show 2 * 0 + _ ≤ _; exact Nat.le_of_eq rfl) (by decide) (by rw [clampN (by omega)]; omega) (by decide) (by decide) ?_
  intro h_4 a_3 g_5 O_6 E_7 A_8 X_9
  have z_10 := E_7.1
  have lt_11 : @LT.lt Nat _ a_3 (Array.size h_4) := A_8.lt
  have nb_12 : ¬ bk a_3 := fun q => Nat.not_le_of_lt (hbl _ q) (show @LE.le Nat _ (Array.size h0) a_3 by omega)
  show Run p l e _ s m _ below meth c Z EL1 _ n0 bk h_4 1 40 (mkF m 21 #[.val (.ref t), .val (.int (0 : Int32)), .val (.int (Int32.ofNat (cs).length))] [(.ref a_3)]) _
  refine k_cast' hx (wT 260 rfl) (Ins.self X_9) rfl rfl (hb hby d267) ?_
  show Run p l e _ s m _ below meth c Z EL1 _ n0 bk h_4 1 40 (mkF m 24 #[.val (.ref t), .val (.int (0 : Int32)), .val (.int (Int32.ofNat (cs).length))] [(.ref a_3)]) _
  exact k_retA hx hlk hret rfl rfl rfl (hb hby d268) (by decide) (by decide) ⟨_, _, rfl, rfl, ((Keep.refl _ _).ext E_7), (by rw [l1]; exact A_8), (by omega)⟩
def Q_stb_0 (Z : State) (G1 : Int32) (G3 : Value) (us ss : Addr) (x : Addr) (a : Addr) (t : Addr) (kb : ClassId) (N : Nat) (cs : List Int32) (h0 : Heap) (n0 : Nat) (bk : Addr → Prop) (v : Option Value) (h : Heap) (bk' : Addr → Prop) : Prop := ∃ (u : Addr), ∃ (ku : ClassId), v = none ∧ bk = bk' ∧ Keep h0 h [x] ∧ (StrL Z h x u ku cs) ∧ (@LE.le Nat _ (Array.size h0) u)
theorem d269 : decode jdk_42_method_150_code 0 = .ok (.aload_n 0, 1) := by decide +kernel
theorem d270 : decode jdk_42_method_150_code 1 = .ok (.invokespecial 1, 3) := by decide +kernel
theorem d271 : decode jdk_42_method_150_code 4 = .ok (.aload_n 1, 1) := by decide +kernel
theorem d272 : decode jdk_42_method_150_code 5 = .ok (.invokevirtual 552, 3) := by decide +kernel
theorem pd__28__29__5b_B : parseMethodDescriptor "()[B" = some ⟨[], some (.array .byte)⟩ := by decide +kernel
theorem d273 : decode jdk_42_method_150_code 8 = .ok (.astore_n 3, 1) := by decide +kernel
theorem d274 : decode jdk_42_method_150_code 9 = .ok (.aload_n 1, 1) := by decide +kernel
theorem d275 : decode jdk_42_method_150_code 10 = .ok (.invokevirtual 549, 3) := by decide +kernel
theorem d276 : decode jdk_42_method_150_code 13 = .ok (.istore 4, 2) := by decide +kernel
theorem d277 : decode jdk_42_method_150_code 15 = .ok (.aload_n 1, 1) := by decide +kernel
theorem d278 : decode jdk_42_method_150_code 16 = .ok (.invokevirtual 1047, 3) := by decide +kernel
theorem pd__28__29_Z : parseMethodDescriptor "()Z" = some ⟨[], some .boolean⟩ := by decide +kernel
theorem d279 : decode jdk_42_method_150_code 19 = .ok (.ifCond .eq 22, 3) := by decide +kernel
theorem d280 : decode jdk_42_method_150_code 22 = .ok (.aload_n 0, 1) := by decide +kernel
theorem d281 : decode jdk_42_method_150_code 23 = .ok (.iconst 0, 1) := by decide +kernel
theorem d282 : decode jdk_42_method_150_code 24 = .ok (.putfield 15, 3) := by decide +kernel
theorem d283 : decode jdk_42_method_150_code 27 = .ok (.aload_n 0, 1) := by decide +kernel
theorem d284 : decode jdk_42_method_150_code 28 = .ok (.aload_n 3, 1) := by decide +kernel
theorem d285 : decode jdk_42_method_150_code 29 = .ok (.iconst 0, 1) := by decide +kernel
theorem d286 : decode jdk_42_method_150_code 30 = .ok (.iload 4, 2) := by decide +kernel
theorem d287 : decode jdk_42_method_150_code 32 = .ok (.invokestatic 54, 3) := by decide +kernel
theorem d288 : decode jdk_42_method_150_code 35 = .ok (.putfield 9, 3) := by decide +kernel
theorem d289 : decode jdk_42_method_150_code 38 = .ok (.goto 59, 3) := by decide +kernel
theorem d290 : decode jdk_42_method_150_code 97 = .ok (.return_, 1) := by decide +kernel
abbrev RM_stb_0 : Room := { frames := 3, cells := 1, slots := 40, locals := 49 }
theorem ef_stb_0 (m : MethodId) (x0 : Addr) (x1 : Addr) : entryFrame m #[(.ref x0), (.ref x1), .null] 5 = mkF m 0 #[.val (.ref x0), .val (.ref x1), .val .null, .unset, .unset] [] := by first | (simp [entryFrame, mkF, argsToLocals, Value.category]; done) | rfl
set_option maxRecDepth 65536 in
set_option maxHeartbeats 40000000 in
theorem rm_stb_0 (l : Launch) (Z : State) (a0 : Array Value) (G1 : Int32) (G3 : Value) (us ss : Addr) (hX : Ctx Z a0 G1 G3) (hY : More Z us ss) (n0 : Nat) (bk : Addr → Prop) (h0 : Heap) (O0 : Old Z n0 h0) (x : Addr) (a : Addr) (t : Addr) (kb : ClassId) (N : Nat) (cs : List Int32) (pf_0 : Exa Z h0 x "java/lang/String") (pf_1 : Fld Z h0 x "java/lang/String" "value" "[B" .null) (pf_2 : Fld Z h0 x "java/lang/String" "coder" "B" (.int (0 : Int32))) (pf_3 : SbL Z h0 a t kb N cs) (pf_4 : Exa Z h0 t "[B") (l1 : cs.length < N) (l3 : cs.length ≤ 40) (hbl : ∀ y, bk y → @LT.lt Nat _ y (Array.size h0)) (nbx : ¬ bk x) (gx : n0 ≤ x) (m1 : @Ne Nat x a) (m2 : @Ne Nat x t) (ws : List Jvm.Cond) : Met l Z EL1 n0 bk (⟨"java/lang/String", "<init>", "(Ljava/lang/AbstractStringBuilder;Ljava/lang/Void;)V"⟩ : MethodName) jdk_42_method_150_code 5 (Option.none : Option FieldType) RM_stb_0 #[(.ref x), (.ref a), .null] h0 (Q_stb_0 Z G1 G3 us ss x a t kb N cs h0 n0 bk) ws := by
  have hX' := hX
  obtain ⟨hw, hE, S1, P1, S3, P3⟩ := hX'
  have hY' := hY
  obtain ⟨s_us, s_ss⟩ := hY'
  have hSA := sa_of hw
  have wT : ∀ (i : Nat) {d : Jvm.Cond}, tables_1[i]? = some d → d.before a0 Z = true := fun i d h => hw d (List.mem_of_getElem? h)
  have z0 : n0 ≤ h0.size := by rw [← O0.1]; exact O0.2.1
  refine Met.of (by decide +kernel) O0 hE ?_
  intro p e s m below meth c hx hby hml hret hlk hnm
  refine k_cast (ef_stb_0 m x a) ?_
  show Run p l e _ s m _ below meth c Z EL1 _ n0 bk h0 0 0 (mkF m 0 #[.val (.ref x), .val (.ref a), .val .null, .unset, .unset] []) _
  have ne_1 : @Ne Nat a t := pf_3.2.2.2.2.2.2.2.2
  have lt_2 : @LT.lt Nat _ x (Array.size h0) := pf_0.lt
  have lt_3 : @LT.lt Nat _ x (Array.size h0) := pf_1.lt
  have lt_4 : @LT.lt Nat _ x (Array.size h0) := pf_2.lt
  have lt_5 : @LT.lt Nat _ a (Array.size h0) := pf_3.lt1
  have lt_6 : @LT.lt Nat _ t (Array.size h0) := pf_3.lt2
  have lt_7 : @LT.lt Nat _ t (Array.size h0) := pf_4.lt
  refine k_pure (g' := (mkF m 1 #[.val (.ref x), .val (.ref a), .val .null, .unset, .unset] [(.ref x)])) (fun _ J _ j => XS.aloadN J hx rfl (hb hby d269) rfl rfl j) ?_
  refine k_initO hx (wT 11 rfl) (wT 12 rfl) (wT 13 rfl) rfl (by rw [hml]; rfl) rfl (hb hby d270) (by decide) (W := 0) (by show 2 * 0 + _ ≤ _; exact Nat.le_of_eq rfl) (by decide) ?_
  show Run p l e _ s m _ below meth c Z EL1 _ n0 bk h0 0 0 (mkF m 4 #[.val (.ref x), .val (.ref a), .val .null, .unset, .unset] []) _
  refine k_pure (g' := (mkF m 5 #[.val (.ref x), .val (.ref a), .val .null, .unset, .unset] [(.ref a)])) (fun _ J _ j => XS.aloadN J hx rfl (hb hby d271) rfl rfl j) ?_
  refine k_callV hx (y := (⟨"java/lang/AbstractStringBuilder", "getValue", "()[B"⟩ : MethodName)) (z := (⟨"java/lang/AbstractStringBuilder", "getValue", "()[B"⟩ : MethodName)) (wT 131 rfl) (wT 132 rfl) (fun s' hZ => notFace_of_selects (args := #[]) (mv hZ (wT 134 rfl))) (wT 134 rfl) (wT 133 rfl) (by decide) (W := 0) (a := a) (argsL := []) (rest := []) (Pays.of_met (rm_gvl l Z a0 G1 G3 us ss hX hY n0 bk h0 O0 a t kb N cs pf_3 []) (wT 135 rfl) (wT 38 rfl) (by decide) (by decide)) pf_3.1 rfl (by rw [hml]; rfl) (lenOf pd__28__29__5b_B rfl) rfl (by show 2 * 0 + _ ≤ _; exact Nat.le_of_eq rfl) (hb hby d272) (by decide) (by decide) ?_
  intro v_8 h_9 bk_10 O_11 z_12 Q_13
  obtain ⟨rfl, rfl, rfl⟩ := Q_13
  show Run p l e _ s m _ below meth c Z EL1 _ n0 bk h0 0 0 (mkF m 8 #[.val (.ref x), .val (.ref a), .val .null, .unset, .unset] [(.ref t)]) _
  refine k_pure (g' := (mkF m 9 #[.val (.ref x), .val (.ref a), .val .null, .val (.ref t), .unset] [])) (fun _ J _ j => XS.astoreN J hx rfl (hb hby d273) rfl rfl (l' := #[.val (.ref x), .val (.ref a), .val .null, .val (.ref t), .unset]) rfl j) ?_
  refine k_pure (g' := (mkF m 10 #[.val (.ref x), .val (.ref a), .val .null, .val (.ref t), .unset] [(.ref a)])) (fun _ J _ j => XS.aloadN J hx rfl (hb hby d274) rfl rfl j) ?_
  refine k_callV hx (y := (⟨"java/lang/AbstractStringBuilder", "length", "()I"⟩ : MethodName)) (z := (⟨"java/lang/StringBuilder", "length", "()I"⟩ : MethodName)) (wT 136 rfl) (wT 137 rfl) (fun s' hZ => nf_of' (y' := (⟨"java/lang/AbstractStringBuilder", "ensureCapacityInternal", "(I)V"⟩ : MethodName)) rfl hZ (wT 73 rfl)) (wT 139 rfl) (wT 140 rfl) (by decide) (W := 0) (a := a) (argsL := []) (rest := []) (Pays.of_met (rm_sbl l Z a0 G1 G3 us ss hX hY n0 bk h0 O0 a t kb N cs pf_3 []) (wT 141 rfl) (wT 30 rfl) (by decide) (by decide)) pf_3.1 rfl (by rw [hml]; rfl) (lenOf pd__28__29_I rfl) rfl (by show 2 * 0 + _ ≤ _; exact Nat.le_of_eq rfl) (hb hby d275) (by decide) (by decide) ?_
  intro v_14 h_15 bk_16 O_17 z_18 Q_19
  obtain ⟨rfl, rfl, rfl⟩ := Q_19
  show Run p l e _ s m _ below meth c Z EL1 _ n0 bk h0 0 0 (mkF m 13 #[.val (.ref x), .val (.ref a), .val .null, .val (.ref t), .unset] [(.int (Int32.ofNat (cs).length))]) _
  refine k_pure (g' := (mkF m 15 #[.val (.ref x), .val (.ref a), .val .null, .val (.ref t), .val (.int (Int32.ofNat (cs).length))] [])) (fun _ J _ j => XS.istore J hx rfl (hb hby d276) rfl (l' := #[.val (.ref x), .val (.ref a), .val .null, .val (.ref t), .val (.int (Int32.ofNat (cs).length))]) rfl j) ?_
  refine k_pure (g' := (mkF m 16 #[.val (.ref x), .val (.ref a), .val .null, .val (.ref t), .val (.int (Int32.ofNat (cs).length))] [(.ref a)])) (fun _ J _ j => XS.aloadN J hx rfl (hb hby d277) rfl rfl j) ?_
  refine k_callV hx (y := (⟨"java/lang/AbstractStringBuilder", "isLatin1", "()Z"⟩ : MethodName)) (z := (⟨"java/lang/AbstractStringBuilder", "isLatin1", "()Z"⟩ : MethodName)) (wT 144 rfl) (wT 145 rfl) (fun s' hZ => notFace_of_selects (args := #[]) (mv hZ (wT 147 rfl))) (wT 147 rfl) (wT 146 rfl) (by decide) (W := 0) (a := a) (argsL := []) (rest := []) (Pays.of_met (rm_ail l Z a0 G1 G3 us ss hX hY n0 bk h0 O0 a t kb N cs pf_3 []) (wT 148 rfl) (wT 38 rfl) (by decide) (by decide)) pf_3.1 rfl (by rw [hml]; rfl) (lenOf pd__28__29_Z rfl) rfl (by show 2 * 0 + _ ≤ _; exact Nat.le_of_eq rfl) (hb hby d278) (by decide) (by decide) ?_
  intro v_20 h_21 bk_22 O_23 z_24 Q_25
  obtain ⟨rfl, rfl, rfl⟩ := Q_25
  show Run p l e _ s m _ below meth c Z EL1 _ n0 bk h0 0 0 (mkF m 19 #[.val (.ref x), .val (.ref a), .val .null, .val (.ref t), .val (.int (Int32.ofNat (cs).length))] [(.int (1 : Int32))]) _
  refine k_pure (g' := (mkF m 22 #[.val (.ref x), .val (.ref a), .val .null, .val (.ref t), .val (.int (Int32.ofNat (cs).length))] [])) (fun _ J _ j => XS.ifNo J hx rfl (hb hby d279) rfl ((if0 _ _).trans (feq (by decide : ¬ ((1 : Int32) = (0 : Int32)))).1) j) ?_
  refine k_pure (g' := (mkF m 23 #[.val (.ref x), .val (.ref a), .val .null, .val (.ref t), .val (.int (Int32.ofNat (cs).length))] [(.ref x)])) (fun _ J _ j => XS.aloadN J hx rfl (hb hby d280) rfl rfl j) ?_
  refine k_pure (g' := (mkF m 24 #[.val (.ref x), .val (.ref a), .val .null, .val (.ref t), .val (.int (Int32.ofNat (cs).length))] [(.int (0 : Int32)), (.ref x)])) (fun _ J _ j => XS.iconst J hx rfl (hb hby d281) j) ?_
  refine k_putF hx (host := "") (Or.inl (wT 21 rfl)) Via.refl pf_2 pf_0 (Or.inr ⟨(wT 17 rfl), rfl, hnm⟩) (wT 1 rfl) (ty := .byte) (by decide) rfl rfl (by omega) nbx rfl rfl (hb hby d282) ?_
  intro h_26 O_28 W_27
  have z_29 := W_27.size
  show Run p l e _ s m _ below meth c Z EL1 _ n0 bk h_26 0 0 (mkF m 27 #[.val (.ref x), .val (.ref a), .val .null, .val (.ref t), .val (.int (Int32.ofNat (cs).length))] []) _
  refine k_pure (g' := (mkF m 28 #[.val (.ref x), .val (.ref a), .val .null, .val (.ref t), .val (.int (Int32.ofNat (cs).length))] [(.ref x)])) (fun _ J _ j => XS.aloadN J hx rfl (hb hby d283) rfl rfl j) ?_
  refine k_pure (g' := (mkF m 29 #[.val (.ref x), .val (.ref a), .val .null, .val (.ref t), .val (.int (Int32.ofNat (cs).length))] [(.ref t), (.ref x)])) (fun _ J _ j => XS.aloadN J hx rfl (hb hby d284) rfl rfl j) ?_
  refine k_pure (g' := (mkF m 30 #[.val (.ref x), .val (.ref a), .val .null, .val (.ref t), .val (.int (Int32.ofNat (cs).length))] [(.int (0 : Int32)), (.ref t), (.ref x)])) (fun _ J _ j => XS.iconst J hx rfl (hb hby d285) j) ?_
  refine k_pure (g' := (mkF m 32 #[.val (.ref x), .val (.ref a), .val .null, .val (.ref t), .val (.int (Int32.ofNat (cs).length))] [(.int (Int32.ofNat (cs).length)), (.int (0 : Int32)), (.ref t), (.ref x)])) (fun _ J _ j => XS.iload J hx rfl (hb hby d286) rfl j) ?_
  have F_30 : Arv Z h_26 t kb .byte (Int32.ofNat N) (((cs).map (fun c => c.toInt8.toInt32)).map Value.int) (.int 0) := (pf_3.2.2.2.2.1.other W_27 (ne_ad (by omega)))
  have hbl_31 : ∀ y, bk y → @LT.lt Nat _ y (Array.size h_26) := fun y q => Nat.lt_of_lt_of_le (hbl y q) (by omega)
  refine k_callS hx (y := (⟨"java/util/Arrays", "copyOfRange", "([BII)[B"⟩ : MethodName)) (wT 149 rfl) (wT 150 rfl) (wT 92 rfl) (wT 151 rfl) (by decide) (W := 1) (argsL := [(.ref t), (.int (0 : Int32)), (.int (Int32.ofNat (cs).length))]) (rest := [(.ref x)]) (Pays.of_met (rm_cor l Z a0 G1 G3 us ss hX hY n0 bk h_26 O_28 t kb N cs F_30 l1 pf_3.2.2.2.2.2.2.2.1 l3 hbl_31 []) (wT 151 rfl) (wT 92 rfl) (by decide) (by decide)) rfl (by rw [hml]; rfl) (lenOf pd__28__5b_BII_29__5b_B rfl) rfl (by show 2 * 0 + _ ≤ _; exact Nat.le_of_eq rfl) (hb hby d287) (by decide) (by decide) ?_
  intro v_32 h_33 bk_34 O_35 z_36 Q_37
  obtain ⟨a_38, k_39, rfl, rfl, K_40, F_41, P_42⟩ := Q_37
  have lt_43 : @LT.lt Nat _ a_38 (Array.size h_33) := F_41.lt
  show Run p l e _ s m _ below meth c Z EL1 _ n0 bk h_33 1 40 (mkF m 35 #[.val (.ref x), .val (.ref a), .val .null, .val (.ref t), .val (.int (Int32.ofNat (cs).length))] [(.ref a_38), (.ref x)]) _
  have F_44 : Fld Z h_33 x "java/lang/String" "value" "[B" .null := ((pf_1.other W_27 (Or.inr (RoadKit.slot_ne (C := "java/lang/String") (Or.inr (wT 16 rfl)) (Or.inr (wT 17 rfl)) (by decide) (t := (.array .byte)) (t' := .byte) (by decide) (by decide)))).keep K_40 nin0)
  have F_45 : Exa Z h_33 x "java/lang/String" := ((pf_0.wr W_27).keep K_40)
  refine k_putF hx (host := "") (Or.inl (wT 20 rfl)) Via.refl F_44 F_45 (Or.inr ⟨(wT 16 rfl), rfl, hnm⟩) (wT 1 rfl) (ty := (.array .byte)) (by decide) rfl rfl (by omega) nbx rfl rfl (hb hby d288) ?_
  intro h_46 O_48 W_47
  have z_49 := W_47.size
  show Run p l e _ s m _ below meth c Z EL1 _ n0 bk h_46 1 40 (mkF m 38 #[.val (.ref x), .val (.ref a), .val .null, .val (.ref t), .val (.int (Int32.ofNat (cs).length))] []) _
  refine k_pure (g' := (mkF m 97 #[.val (.ref x), .val (.ref a), .val .null, .val (.ref t), .val (.int (Int32.ofNat (cs).length))] [])) (fun _ J _ j => XS.goto J hx rfl (pc0 := 38) (pc' := 97) rfl (hb hby d289) (by decide) (by decide) j) ?_
  have F_50 : Exa Z h_46 x "java/lang/String" := (F_45.wr W_47)
  have F_51 : Fld Z h_46 x "java/lang/String" "coder" "B" (.int (0 : Int32)) := (((pf_2.same W_27).keep K_40 nin0).other W_47 (Or.inr (RoadKit.slot_ne (C := "java/lang/String") (Or.inr (wT 17 rfl)) (Or.inr (wT 16 rfl)) (by decide) (t := .byte) (t' := (.array .byte)) (by decide) (by decide))))
  have F_52 : Arv Z h_46 a_38 k_39 .byte (Int32.ofNat (cs).length) (((cs).map (fun c => c.toInt8.toInt32)).map Value.int) (.int 0) := (F_41.other W_47 (ne_ad (by omega)))
  exact k_ret0 hx hlk hret (hb hby d290) (by decide) (by decide) ⟨a_38, k_39, rfl, rfl, ((((Keep.refl _ _).wr W_27 (Or.inl (by simp))).trans K_40 kk0).wr W_47 (Or.inl (by simp))), ⟨F_50, F_51, (F_44.same W_47), F_52, pf_3.2.2.2.2.2.1, Nat.le_trans pf_3.2.2.2.2.2.2.1 pf_3.2.2.2.2.2.2.2.1⟩, (by omega)⟩
def Q_stc_0 (Z : State) (G1 : Int32) (G3 : Value) (us ss : Addr) (x : Addr) (a : Addr) (t : Addr) (kb : ClassId) (N : Nat) (cs : List Int32) (h0 : Heap) (n0 : Nat) (bk : Addr → Prop) (v : Option Value) (h : Heap) (bk' : Addr → Prop) : Prop := ∃ (u : Addr), ∃ (ku : ClassId), v = none ∧ bk = bk' ∧ Keep h0 h [x] ∧ (StrL Z h x u ku cs) ∧ (@LE.le Nat _ (Array.size h0) u)
theorem d291 : decode jdk_42_method_53_code 0 = .ok (.aload_n 0, 1) := by decide +kernel
theorem d292 : decode jdk_42_method_53_code 1 = .ok (.aload_n 1, 1) := by decide +kernel
theorem d293 : decode jdk_42_method_53_code 2 = .ok (.aconst_null, 1) := by decide +kernel
theorem d294 : decode jdk_42_method_53_code 3 = .ok (.invokespecial 489, 3) := by decide +kernel
theorem pd__28_Ljava_2f_lang_2f_AbstractStringBuilder_3b_Ljava_2f_lang_2f_Void_3b__29_V : parseMethodDescriptor "(Ljava/lang/AbstractStringBuilder;Ljava/lang/Void;)V" = some ⟨[(.object "java/lang/AbstractStringBuilder"), (.object "java/lang/Void")], none⟩ := by decide +kernel
theorem d295 : decode jdk_42_method_53_code 6 = .ok (.return_, 1) := by decide +kernel
abbrev RM_stc_0 : Room := { frames := 4, cells := 1, slots := 40, locals := 65 }
theorem ef_stc_0 (m : MethodId) (x0 : Addr) (x1 : Addr) : entryFrame m #[(.ref x0), (.ref x1)] 2 = mkF m 0 #[.val (.ref x0), .val (.ref x1)] [] := by first | (simp [entryFrame, mkF, argsToLocals, Value.category]; done) | rfl
set_option maxRecDepth 65536 in
set_option maxHeartbeats 40000000 in
theorem rm_stc_0 (l : Launch) (Z : State) (a0 : Array Value) (G1 : Int32) (G3 : Value) (us ss : Addr) (hX : Ctx Z a0 G1 G3) (hY : More Z us ss) (n0 : Nat) (bk : Addr → Prop) (h0 : Heap) (O0 : Old Z n0 h0) (x : Addr) (a : Addr) (t : Addr) (kb : ClassId) (N : Nat) (cs : List Int32) (pf_0 : Exa Z h0 x "java/lang/String") (pf_1 : Fld Z h0 x "java/lang/String" "value" "[B" .null) (pf_2 : Fld Z h0 x "java/lang/String" "coder" "B" (.int (0 : Int32))) (pf_3 : SbL Z h0 a t kb N cs) (pf_4 : Exa Z h0 t "[B") (l1 : cs.length < N) (l3 : cs.length ≤ 40) (hbl : ∀ y, bk y → @LT.lt Nat _ y (Array.size h0)) (nbx : ¬ bk x) (gx : n0 ≤ x) (m1 : @Ne Nat x a) (m2 : @Ne Nat x t) (ws : List Jvm.Cond) : Met l Z EL1 n0 bk (⟨"java/lang/String", "<init>", "(Ljava/lang/StringBuilder;)V"⟩ : MethodName) jdk_42_method_53_code 2 (Option.none : Option FieldType) RM_stc_0 #[(.ref x), (.ref a)] h0 (Q_stc_0 Z G1 G3 us ss x a t kb N cs h0 n0 bk) ws := by
  have hX' := hX
  obtain ⟨hw, hE, S1, P1, S3, P3⟩ := hX'
  have hY' := hY
  obtain ⟨s_us, s_ss⟩ := hY'
  have hSA := sa_of hw
  have wT : ∀ (i : Nat) {d : Jvm.Cond}, tables_1[i]? = some d → d.before a0 Z = true := fun i d h => hw d (List.mem_of_getElem? h)
  have z0 : n0 ≤ h0.size := by rw [← O0.1]; exact O0.2.1
  refine Met.of (by decide +kernel) O0 hE ?_
  intro p e s m below meth c hx hby hml hret hlk hnm
  refine k_cast (ef_stc_0 m x a) ?_
  show Run p l e _ s m _ below meth c Z EL1 _ n0 bk h0 0 0 (mkF m 0 #[.val (.ref x), .val (.ref a)] []) _
  have ne_1 : @Ne Nat a t := pf_3.2.2.2.2.2.2.2.2
  have lt_2 : @LT.lt Nat _ x (Array.size h0) := pf_0.lt
  have lt_3 : @LT.lt Nat _ x (Array.size h0) := pf_1.lt
  have lt_4 : @LT.lt Nat _ x (Array.size h0) := pf_2.lt
  have lt_5 : @LT.lt Nat _ a (Array.size h0) := pf_3.lt1
  have lt_6 : @LT.lt Nat _ t (Array.size h0) := pf_3.lt2
  have lt_7 : @LT.lt Nat _ t (Array.size h0) := pf_4.lt
  refine k_pure (g' := (mkF m 1 #[.val (.ref x), .val (.ref a)] [(.ref x)])) (fun _ J _ j => XS.aloadN J hx rfl (hb hby d291) rfl rfl j) ?_
  refine k_pure (g' := (mkF m 2 #[.val (.ref x), .val (.ref a)] [(.ref a), (.ref x)])) (fun _ J _ j => XS.aloadN J hx rfl (hb hby d292) rfl rfl j) ?_
  refine k_pure (g' := (mkF m 3 #[.val (.ref x), .val (.ref a)] [.null, (.ref a), (.ref x)])) (fun _ J _ j => XS.aconstNull J hx rfl (hb hby d293) j) ?_
  refine k_callI hx (y := (⟨"java/lang/String", "<init>", "(Ljava/lang/AbstractStringBuilder;Ljava/lang/Void;)V"⟩ : MethodName)) rfl (wT 128 rfl) (wT 129 rfl) (wT 130 rfl) (by decide) (W := 0) (a := x) (argsL := [(.ref a), .null]) (rest := []) (Pays.of_met (rm_stb_0 l Z a0 G1 G3 us ss hX hY n0 bk h0 O0 x a t kb N cs pf_0 pf_1 pf_2 pf_3 pf_4 l1 l3 hbl nbx (by omega) (by omega) (by omega) []) (wT 130 rfl) (wT 2 rfl) (by decide) (by decide)) rfl (by rw [hml]; rfl) (lenOf pd__28_Ljava_2f_lang_2f_AbstractStringBuilder_3b_Ljava_2f_lang_2f_Void_3b__29_V rfl) rfl (by show 2 * 0 + _ ≤ _; exact Nat.le_of_eq rfl) (hb hby d294) (by decide) (by decide) ?_
  intro v_8 h_9 bk_10 O_11 z_12 Q_13
  obtain ⟨a_14, k_15, rfl, rfl, K_16, F_17, P_18⟩ := Q_13
  have lt_19 : @LT.lt Nat _ x (Array.size h_9) := F_17.lt1
  have lt_20 : @LT.lt Nat _ a_14 (Array.size h_9) := F_17.lt2
  show Run p l e _ s m _ below meth c Z EL1 _ n0 bk h_9 1 40 (mkF m 6 #[.val (.ref x), .val (.ref a)] []) _
  exact k_ret0 hx hlk hret (hb hby d295) (by decide) (by decide) ⟨a_14, k_15, rfl, rfl, ((Keep.refl _ _).trans K_16 (kkS (Or.inl (by simp)) kk0)), F_17, (by omega)⟩
def Q_sts_0 (Z : State) (G1 : Int32) (G3 : Value) (us ss : Addr) (a : Addr) (t : Addr) (kb : ClassId) (N : Nat) (cs : List Int32) (h0 : Heap) (n0 : Nat) (bk : Addr → Prop) (v : Option Value) (h : Heap) (bk' : Addr → Prop) : Prop := ∃ (x : Addr), ∃ (u : Addr), ∃ (ku : ClassId), v = some (.ref x) ∧ bk = bk' ∧ Keep h0 h [] ∧ (StrL Z h x u ku cs) ∧ (@LE.le Nat _ (Array.size h0) x) ∧ (@LE.le Nat _ (Array.size h0) u)
theorem d296 : decode jdk_67_method_42_code 0 = .ok (.new 18, 3) := by decide +kernel
theorem d297 : decode jdk_67_method_42_code 3 = .ok (.dup, 1) := by decide +kernel
theorem d298 : decode jdk_67_method_42_code 4 = .ok (.aload_n 0, 1) := by decide +kernel
theorem d299 : decode jdk_67_method_42_code 5 = .ok (.invokespecial 137, 3) := by decide +kernel
theorem pd__28_Ljava_2f_lang_2f_StringBuilder_3b__29_V : parseMethodDescriptor "(Ljava/lang/StringBuilder;)V" = some ⟨[(.object "java/lang/StringBuilder")], none⟩ := by decide +kernel
theorem d300 : decode jdk_67_method_42_code 8 = .ok (.areturn, 1) := by decide +kernel
abbrev RM_sts_0 : Room := { frames := 5, cells := 2, slots := 44, locals := 79 }
theorem ef_sts_0 (m : MethodId) (x0 : Addr) : entryFrame m #[(.ref x0)] 1 = mkF m 0 #[.val (.ref x0)] [] := by first | (simp [entryFrame, mkF, argsToLocals, Value.category]; done) | rfl
set_option maxRecDepth 65536 in
set_option maxHeartbeats 40000000 in
theorem rm_sts_0 (l : Launch) (Z : State) (a0 : Array Value) (G1 : Int32) (G3 : Value) (us ss : Addr) (hX : Ctx Z a0 G1 G3) (hY : More Z us ss) (n0 : Nat) (bk : Addr → Prop) (h0 : Heap) (O0 : Old Z n0 h0) (a : Addr) (t : Addr) (kb : ClassId) (N : Nat) (cs : List Int32) (pf_0 : SbL Z h0 a t kb N cs) (pf_1 : Exa Z h0 t "[B") (l1 : cs.length < N) (l3 : cs.length ≤ 40) (hbl : ∀ y, bk y → @LT.lt Nat _ y (Array.size h0)) (ws : List Jvm.Cond) : Met l Z EL1 n0 bk (⟨"java/lang/StringBuilder", "toString", "()Ljava/lang/String;"⟩ : MethodName) jdk_67_method_42_code 1 (Option.some (FieldType.object "java/lang/String")) RM_sts_0 #[(.ref a)] h0 (Q_sts_0 Z G1 G3 us ss a t kb N cs h0 n0 bk) ws := by
  have hX' := hX
  obtain ⟨hw, hE, S1, P1, S3, P3⟩ := hX'
  have hY' := hY
  obtain ⟨s_us, s_ss⟩ := hY'
  have hSA := sa_of hw
  have wT : ∀ (i : Nat) {d : Jvm.Cond}, tables_1[i]? = some d → d.before a0 Z = true := fun i d h => hw d (List.mem_of_getElem? h)
  have z0 : n0 ≤ h0.size := by rw [← O0.1]; exact O0.2.1
  refine Met.of (by decide +kernel) O0 hE ?_
  intro p e s m below meth c hx hby hml hret hlk hnm
  refine k_cast (ef_sts_0 m a) ?_
  show Run p l e _ s m _ below meth c Z EL1 _ n0 bk h0 0 0 (mkF m 0 #[.val (.ref a)] []) _
  have ne_1 : @Ne Nat a t := pf_0.2.2.2.2.2.2.2.2
  have lt_2 : @LT.lt Nat _ a (Array.size h0) := pf_0.lt1
  have lt_3 : @LT.lt Nat _ t (Array.size h0) := pf_0.lt2
  have lt_4 : @LT.lt Nat _ t (Array.size h0) := pf_1.lt
  refine k_newO hx (wT 124 rfl) (wT 1 rfl) (wT 2 rfl) rfl (hb hby d296) (by decide) (by decide) ?_
  intro h_6 a_5 g_12 O_7 E_8 A_9 D_10 U_11
  have z_13 := E_8.1
  have lt_14 : @LT.lt Nat _ a_5 (Array.size h_6) := A_9.lt
  have nb_15 : ¬ bk a_5 := fun q => Nat.not_le_of_lt (hbl _ q) (show @LE.le Nat _ (Array.size h0) a_5 by omega)
  show Run p l e _ s m _ below meth c Z EL1 _ n0 bk h_6 1 4 (mkF m 3 #[.val (.ref a)] [(.ref a_5)]) _
  refine k_pure (g' := (mkF m 4 #[.val (.ref a)] [(.ref a_5), (.ref a_5)])) (fun _ J _ j => XS.dup J hx rfl (hb hby d297) rfl rfl j) ?_
  refine k_pure (g' := (mkF m 5 #[.val (.ref a)] [(.ref a), (.ref a_5), (.ref a_5)])) (fun _ J _ j => XS.aloadN J hx rfl (hb hby d298) rfl rfl j) ?_
  have F_16 : SbL Z h_6 a t kb N cs := (pf_0.ext E_8)
  have F_17 : Exa Z h_6 t "[B" := (pf_1.ext E_8)
  have hbl_18 : ∀ y, bk y → @LT.lt Nat _ y (Array.size h_6) := fun y q => Nat.lt_of_lt_of_le (hbl y q) (by omega)
  refine k_callI hx (y := (⟨"java/lang/String", "<init>", "(Ljava/lang/StringBuilder;)V"⟩ : MethodName)) rfl (wT 125 rfl) (wT 126 rfl) (wT 127 rfl) (by decide) (W := 1) (a := a_5) (argsL := [(.ref a)]) (rest := [(.ref a_5)]) (Pays.of_met (rm_stc_0 l Z a0 G1 G3 us ss hX hY n0 bk h_6 O_7 a_5 a t kb N cs A_9 (D_10 (Or.inr (wT 16 rfl)) (ty := (.array .byte)) (by decide)) (D_10 (Or.inr (wT 17 rfl)) (ty := .byte) (by decide)) F_16 F_17 l1 l3 hbl_18 nb_15 (by omega) (by omega) (by omega) []) (wT 127 rfl) (wT 2 rfl) (by decide) (by decide)) rfl (by rw [hml]; rfl) (lenOf pd__28_Ljava_2f_lang_2f_StringBuilder_3b__29_V rfl) rfl (by show 2 * 0 + _ ≤ _; exact Nat.le_of_eq rfl) (hb hby d299) (by decide) (by decide) ?_
  intro v_19 h_20 bk_21 O_22 z_23 Q_24
  obtain ⟨a_25, k_26, rfl, rfl, K_27, F_28, P_29⟩ := Q_24
  have lt_30 : @LT.lt Nat _ a_5 (Array.size h_20) := F_28.lt1
  have lt_31 : @LT.lt Nat _ a_25 (Array.size h_20) := F_28.lt2
  show Run p l e _ s m _ below meth c Z EL1 _ n0 bk h_20 2 44 (mkF m 8 #[.val (.ref a)] [(.ref a_5)]) _
  exact k_retA hx hlk hret rfl rfl rfl (hb hby d300) (by decide) (by decide) ⟨a_5, a_25, k_26, rfl, rfl, (((Keep.refl _ _).ext E_8).trans K_27 (kkS (Or.inr (by omega)) kk0)), F_28, (by omega), (by omega)⟩
def Q_stb_1 (Z : State) (G1 : Int32) (G3 : Value) (us ss : Addr) (x : Addr) (a : Addr) (t : Addr) (kb : ClassId) (N : Nat) (cs : List Int32) (h0 : Heap) (n0 : Nat) (bk : Addr → Prop) (v : Option Value) (h : Heap) (bk' : Addr → Prop) : Prop := ∃ (u : Addr), ∃ (ku : ClassId), v = none ∧ bk = bk' ∧ Keep h0 h [x] ∧ (StrL Z h x u ku cs) ∧ (@LE.le Nat _ (Array.size h0) u)
abbrev RM_stb_1 : Room := { frames := 2, cells := 1, slots := 40, locals := 29 }
theorem ef_stb_1 (m : MethodId) (x0 : Addr) (x1 : Addr) : entryFrame m #[(.ref x0), (.ref x1), .null] 5 = mkF m 0 #[.val (.ref x0), .val (.ref x1), .val .null, .unset, .unset] [] := by first | (simp [entryFrame, mkF, argsToLocals, Value.category]; done) | rfl
set_option maxRecDepth 65536 in
set_option maxHeartbeats 40000000 in
theorem rm_stb_1 (l : Launch) (Z : State) (a0 : Array Value) (G1 : Int32) (G3 : Value) (us ss : Addr) (hX : Ctx Z a0 G1 G3) (hY : More Z us ss) (n0 : Nat) (bk : Addr → Prop) (h0 : Heap) (O0 : Old Z n0 h0) (x : Addr) (a : Addr) (t : Addr) (kb : ClassId) (N : Nat) (cs : List Int32) (pf_0 : Exa Z h0 x "java/lang/String") (pf_1 : Fld Z h0 x "java/lang/String" "value" "[B" .null) (pf_2 : Fld Z h0 x "java/lang/String" "coder" "B" (.int (0 : Int32))) (pf_3 : SbL Z h0 a t kb N cs) (pf_4 : Exa Z h0 t "[B") (l1 : cs.length = N) (l3 : cs.length ≤ 40) (hbl : ∀ y, bk y → @LT.lt Nat _ y (Array.size h0)) (nbx : ¬ bk x) (gx : n0 ≤ x) (m1 : @Ne Nat x a) (m2 : @Ne Nat x t) (ws : List Jvm.Cond) : Met l Z EL1 n0 bk (⟨"java/lang/String", "<init>", "(Ljava/lang/AbstractStringBuilder;Ljava/lang/Void;)V"⟩ : MethodName) jdk_42_method_150_code 5 (Option.none : Option FieldType) RM_stb_1 #[(.ref x), (.ref a), .null] h0 (Q_stb_1 Z G1 G3 us ss x a t kb N cs h0 n0 bk) ws := by
  have hX' := hX
  obtain ⟨hw, hE, S1, P1, S3, P3⟩ := hX'
  have hY' := hY
  obtain ⟨s_us, s_ss⟩ := hY'
  have hSA := sa_of hw
  have wT : ∀ (i : Nat) {d : Jvm.Cond}, tables_1[i]? = some d → d.before a0 Z = true := fun i d h => hw d (List.mem_of_getElem? h)
  have z0 : n0 ≤ h0.size := by rw [← O0.1]; exact O0.2.1
  refine Met.of (by decide +kernel) O0 hE ?_
  intro p e s m below meth c hx hby hml hret hlk hnm
  refine k_cast (ef_stb_1 m x a) ?_
  show Run p l e _ s m _ below meth c Z EL1 _ n0 bk h0 0 0 (mkF m 0 #[.val (.ref x), .val (.ref a), .val .null, .unset, .unset] []) _
  have ne_1 : @Ne Nat a t := pf_3.2.2.2.2.2.2.2.2
  have lt_2 : @LT.lt Nat _ x (Array.size h0) := pf_0.lt
  have lt_3 : @LT.lt Nat _ x (Array.size h0) := pf_1.lt
  have lt_4 : @LT.lt Nat _ x (Array.size h0) := pf_2.lt
  have lt_5 : @LT.lt Nat _ a (Array.size h0) := pf_3.lt1
  have lt_6 : @LT.lt Nat _ t (Array.size h0) := pf_3.lt2
  have lt_7 : @LT.lt Nat _ t (Array.size h0) := pf_4.lt
  refine k_pure (g' := (mkF m 1 #[.val (.ref x), .val (.ref a), .val .null, .unset, .unset] [(.ref x)])) (fun _ J _ j => XS.aloadN J hx rfl (hb hby d269) rfl rfl j) ?_
  refine k_initO hx (wT 11 rfl) (wT 12 rfl) (wT 13 rfl) rfl (by rw [hml]; rfl) rfl (hb hby d270) (by decide) (W := 0) (by show 2 * 0 + _ ≤ _; exact Nat.le_of_eq rfl) (by decide) ?_
  show Run p l e _ s m _ below meth c Z EL1 _ n0 bk h0 0 0 (mkF m 4 #[.val (.ref x), .val (.ref a), .val .null, .unset, .unset] []) _
  refine k_pure (g' := (mkF m 5 #[.val (.ref x), .val (.ref a), .val .null, .unset, .unset] [(.ref a)])) (fun _ J _ j => XS.aloadN J hx rfl (hb hby d271) rfl rfl j) ?_
  refine k_callV hx (y := (⟨"java/lang/AbstractStringBuilder", "getValue", "()[B"⟩ : MethodName)) (z := (⟨"java/lang/AbstractStringBuilder", "getValue", "()[B"⟩ : MethodName)) (wT 131 rfl) (wT 132 rfl) (fun s' hZ => notFace_of_selects (args := #[]) (mv hZ (wT 134 rfl))) (wT 134 rfl) (wT 133 rfl) (by decide) (W := 0) (a := a) (argsL := []) (rest := []) (Pays.of_met (rm_gvl l Z a0 G1 G3 us ss hX hY n0 bk h0 O0 a t kb N cs pf_3 []) (wT 135 rfl) (wT 38 rfl) (by decide) (by decide)) pf_3.1 rfl (by rw [hml]; rfl) (lenOf pd__28__29__5b_B rfl) rfl (by show 2 * 0 + _ ≤ _; exact Nat.le_of_eq rfl) (hb hby d272) (by decide) (by decide) ?_
  intro v_8 h_9 bk_10 O_11 z_12 Q_13
  obtain ⟨rfl, rfl, rfl⟩ := Q_13
  show Run p l e _ s m _ below meth c Z EL1 _ n0 bk h0 0 0 (mkF m 8 #[.val (.ref x), .val (.ref a), .val .null, .unset, .unset] [(.ref t)]) _
  refine k_pure (g' := (mkF m 9 #[.val (.ref x), .val (.ref a), .val .null, .val (.ref t), .unset] [])) (fun _ J _ j => XS.astoreN J hx rfl (hb hby d273) rfl rfl (l' := #[.val (.ref x), .val (.ref a), .val .null, .val (.ref t), .unset]) rfl j) ?_
  refine k_pure (g' := (mkF m 10 #[.val (.ref x), .val (.ref a), .val .null, .val (.ref t), .unset] [(.ref a)])) (fun _ J _ j => XS.aloadN J hx rfl (hb hby d274) rfl rfl j) ?_
  refine k_callV hx (y := (⟨"java/lang/AbstractStringBuilder", "length", "()I"⟩ : MethodName)) (z := (⟨"java/lang/StringBuilder", "length", "()I"⟩ : MethodName)) (wT 136 rfl) (wT 137 rfl) (fun s' hZ => nf_of' (y' := (⟨"java/lang/AbstractStringBuilder", "ensureCapacityInternal", "(I)V"⟩ : MethodName)) rfl hZ (wT 73 rfl)) (wT 139 rfl) (wT 140 rfl) (by decide) (W := 0) (a := a) (argsL := []) (rest := []) (Pays.of_met (rm_sbl l Z a0 G1 G3 us ss hX hY n0 bk h0 O0 a t kb N cs pf_3 []) (wT 141 rfl) (wT 30 rfl) (by decide) (by decide)) pf_3.1 rfl (by rw [hml]; rfl) (lenOf pd__28__29_I rfl) rfl (by show 2 * 0 + _ ≤ _; exact Nat.le_of_eq rfl) (hb hby d275) (by decide) (by decide) ?_
  intro v_14 h_15 bk_16 O_17 z_18 Q_19
  obtain ⟨rfl, rfl, rfl⟩ := Q_19
  show Run p l e _ s m _ below meth c Z EL1 _ n0 bk h0 0 0 (mkF m 13 #[.val (.ref x), .val (.ref a), .val .null, .val (.ref t), .unset] [(.int (Int32.ofNat (cs).length))]) _
  refine k_pure (g' := (mkF m 15 #[.val (.ref x), .val (.ref a), .val .null, .val (.ref t), .val (.int (Int32.ofNat (cs).length))] [])) (fun _ J _ j => XS.istore J hx rfl (hb hby d276) rfl (l' := #[.val (.ref x), .val (.ref a), .val .null, .val (.ref t), .val (.int (Int32.ofNat (cs).length))]) rfl j) ?_
  refine k_pure (g' := (mkF m 16 #[.val (.ref x), .val (.ref a), .val .null, .val (.ref t), .val (.int (Int32.ofNat (cs).length))] [(.ref a)])) (fun _ J _ j => XS.aloadN J hx rfl (hb hby d277) rfl rfl j) ?_
  refine k_callV hx (y := (⟨"java/lang/AbstractStringBuilder", "isLatin1", "()Z"⟩ : MethodName)) (z := (⟨"java/lang/AbstractStringBuilder", "isLatin1", "()Z"⟩ : MethodName)) (wT 144 rfl) (wT 145 rfl) (fun s' hZ => notFace_of_selects (args := #[]) (mv hZ (wT 147 rfl))) (wT 147 rfl) (wT 146 rfl) (by decide) (W := 0) (a := a) (argsL := []) (rest := []) (Pays.of_met (rm_ail l Z a0 G1 G3 us ss hX hY n0 bk h0 O0 a t kb N cs pf_3 []) (wT 148 rfl) (wT 38 rfl) (by decide) (by decide)) pf_3.1 rfl (by rw [hml]; rfl) (lenOf pd__28__29_Z rfl) rfl (by show 2 * 0 + _ ≤ _; exact Nat.le_of_eq rfl) (hb hby d278) (by decide) (by decide) ?_
  intro v_20 h_21 bk_22 O_23 z_24 Q_25
  obtain ⟨rfl, rfl, rfl⟩ := Q_25
  show Run p l e _ s m _ below meth c Z EL1 _ n0 bk h0 0 0 (mkF m 19 #[.val (.ref x), .val (.ref a), .val .null, .val (.ref t), .val (.int (Int32.ofNat (cs).length))] [(.int (1 : Int32))]) _
  refine k_pure (g' := (mkF m 22 #[.val (.ref x), .val (.ref a), .val .null, .val (.ref t), .val (.int (Int32.ofNat (cs).length))] [])) (fun _ J _ j => XS.ifNo J hx rfl (hb hby d279) rfl ((if0 _ _).trans (feq (by decide : ¬ ((1 : Int32) = (0 : Int32)))).1) j) ?_
  refine k_pure (g' := (mkF m 23 #[.val (.ref x), .val (.ref a), .val .null, .val (.ref t), .val (.int (Int32.ofNat (cs).length))] [(.ref x)])) (fun _ J _ j => XS.aloadN J hx rfl (hb hby d280) rfl rfl j) ?_
  refine k_pure (g' := (mkF m 24 #[.val (.ref x), .val (.ref a), .val .null, .val (.ref t), .val (.int (Int32.ofNat (cs).length))] [(.int (0 : Int32)), (.ref x)])) (fun _ J _ j => XS.iconst J hx rfl (hb hby d281) j) ?_
  refine k_putF hx (host := "") (Or.inl (wT 21 rfl)) Via.refl pf_2 pf_0 (Or.inr ⟨(wT 17 rfl), rfl, hnm⟩) (wT 1 rfl) (ty := .byte) (by decide) rfl rfl (by omega) nbx rfl rfl (hb hby d282) ?_
  intro h_26 O_28 W_27
  have z_29 := W_27.size
  show Run p l e _ s m _ below meth c Z EL1 _ n0 bk h_26 0 0 (mkF m 27 #[.val (.ref x), .val (.ref a), .val .null, .val (.ref t), .val (.int (Int32.ofNat (cs).length))] []) _
  refine k_pure (g' := (mkF m 28 #[.val (.ref x), .val (.ref a), .val .null, .val (.ref t), .val (.int (Int32.ofNat (cs).length))] [(.ref x)])) (fun _ J _ j => XS.aloadN J hx rfl (hb hby d283) rfl rfl j) ?_
  refine k_pure (g' := (mkF m 29 #[.val (.ref x), .val (.ref a), .val .null, .val (.ref t), .val (.int (Int32.ofNat (cs).length))] [(.ref t), (.ref x)])) (fun _ J _ j => XS.aloadN J hx rfl (hb hby d284) rfl rfl j) ?_
  refine k_pure (g' := (mkF m 30 #[.val (.ref x), .val (.ref a), .val .null, .val (.ref t), .val (.int (Int32.ofNat (cs).length))] [(.int (0 : Int32)), (.ref t), (.ref x)])) (fun _ J _ j => XS.iconst J hx rfl (hb hby d285) j) ?_
  refine k_pure (g' := (mkF m 32 #[.val (.ref x), .val (.ref a), .val .null, .val (.ref t), .val (.int (Int32.ofNat (cs).length))] [(.int (Int32.ofNat (cs).length)), (.int (0 : Int32)), (.ref t), (.ref x)])) (fun _ J _ j => XS.iload J hx rfl (hb hby d286) rfl j) ?_
  have F_30 : Arv Z h_26 t kb .byte (Int32.ofNat N) (((cs).map (fun c => c.toInt8.toInt32)).map Value.int) (.int 0) := (pf_3.2.2.2.2.1.other W_27 (ne_ad (by omega)))
  have F_31 : Exa Z h_26 t "[B" := (pf_4.wr W_27)
  have hbl_32 : ∀ y, bk y → @LT.lt Nat _ y (Array.size h_26) := fun y q => Nat.lt_of_lt_of_le (hbl y q) (by omega)
  refine k_callS hx (y := (⟨"java/util/Arrays", "copyOfRange", "([BII)[B"⟩ : MethodName)) (wT 149 rfl) (wT 150 rfl) (wT 92 rfl) (wT 151 rfl) (by decide) (W := 1) (argsL := [(.ref t), (.int (0 : Int32)), (.int (Int32.ofNat (cs).length))]) (rest := [(.ref x)]) (Pays.of_met (rm_coc l Z a0 G1 G3 us ss hX hY n0 bk h_26 O_28 t kb N cs F_30 F_31 l1 pf_3.2.2.2.2.2.2.2.1 l3 hbl_32 []) (wT 151 rfl) (wT 92 rfl) (by decide) (by decide)) rfl (by rw [hml]; rfl) (lenOf pd__28__5b_BII_29__5b_B rfl) rfl (by show 2 * 0 + _ ≤ _; exact Nat.le_of_eq rfl) (hb hby d287) (by decide) (by decide) ?_
  intro v_33 h_34 bk_35 O_36 z_37 Q_38
  obtain ⟨a_39, k_40, rfl, rfl, K_41, F_42, P_43⟩ := Q_38
  have lt_44 : @LT.lt Nat _ a_39 (Array.size h_34) := F_42.lt
  show Run p l e _ s m _ below meth c Z EL1 _ n0 bk h_34 1 40 (mkF m 35 #[.val (.ref x), .val (.ref a), .val .null, .val (.ref t), .val (.int (Int32.ofNat (cs).length))] [(.ref a_39), (.ref x)]) _
  have F_45 : Fld Z h_34 x "java/lang/String" "value" "[B" .null := ((pf_1.other W_27 (Or.inr (RoadKit.slot_ne (C := "java/lang/String") (Or.inr (wT 16 rfl)) (Or.inr (wT 17 rfl)) (by decide) (t := (.array .byte)) (t' := .byte) (by decide) (by decide)))).keep K_41 nin0)
  have F_46 : Exa Z h_34 x "java/lang/String" := ((pf_0.wr W_27).keep K_41)
  refine k_putF hx (host := "") (Or.inl (wT 20 rfl)) Via.refl F_45 F_46 (Or.inr ⟨(wT 16 rfl), rfl, hnm⟩) (wT 1 rfl) (ty := (.array .byte)) (by decide) rfl rfl (by omega) nbx rfl rfl (hb hby d288) ?_
  intro h_47 O_49 W_48
  have z_50 := W_48.size
  show Run p l e _ s m _ below meth c Z EL1 _ n0 bk h_47 1 40 (mkF m 38 #[.val (.ref x), .val (.ref a), .val .null, .val (.ref t), .val (.int (Int32.ofNat (cs).length))] []) _
  refine k_pure (g' := (mkF m 97 #[.val (.ref x), .val (.ref a), .val .null, .val (.ref t), .val (.int (Int32.ofNat (cs).length))] [])) (fun _ J _ j => XS.goto J hx rfl (pc0 := 38) (pc' := 97) rfl (hb hby d289) (by decide) (by decide) j) ?_
  have F_51 : Exa Z h_47 x "java/lang/String" := (F_46.wr W_48)
  have F_52 : Fld Z h_47 x "java/lang/String" "coder" "B" (.int (0 : Int32)) := (((pf_2.same W_27).keep K_41 nin0).other W_48 (Or.inr (RoadKit.slot_ne (C := "java/lang/String") (Or.inr (wT 17 rfl)) (Or.inr (wT 16 rfl)) (by decide) (t := .byte) (t' := (.array .byte)) (by decide) (by decide))))
  have F_53 : Arv Z h_47 a_39 k_40 .byte (Int32.ofNat (cs).length) (((cs).map (fun c => c.toInt8.toInt32)).map Value.int) (.int 0) := (F_42.other W_48 (ne_ad (by omega)))
  exact k_ret0 hx hlk hret (hb hby d290) (by decide) (by decide) ⟨a_39, k_40, rfl, rfl, ((((Keep.refl _ _).wr W_27 (Or.inl (by simp))).trans K_41 kk0).wr W_48 (Or.inl (by simp))), ⟨F_51, F_52, (F_45.same W_48), F_53, pf_3.2.2.2.2.2.1, Nat.le_trans pf_3.2.2.2.2.2.2.1 pf_3.2.2.2.2.2.2.2.1⟩, (by omega)⟩
def Q_stc_1 (Z : State) (G1 : Int32) (G3 : Value) (us ss : Addr) (x : Addr) (a : Addr) (t : Addr) (kb : ClassId) (N : Nat) (cs : List Int32) (h0 : Heap) (n0 : Nat) (bk : Addr → Prop) (v : Option Value) (h : Heap) (bk' : Addr → Prop) : Prop := ∃ (u : Addr), ∃ (ku : ClassId), v = none ∧ bk = bk' ∧ Keep h0 h [x] ∧ (StrL Z h x u ku cs) ∧ (@LE.le Nat _ (Array.size h0) u)
abbrev RM_stc_1 : Room := { frames := 3, cells := 1, slots := 40, locals := 45 }
theorem ef_stc_1 (m : MethodId) (x0 : Addr) (x1 : Addr) : entryFrame m #[(.ref x0), (.ref x1)] 2 = mkF m 0 #[.val (.ref x0), .val (.ref x1)] [] := by first | (simp [entryFrame, mkF, argsToLocals, Value.category]; done) | rfl
set_option maxRecDepth 65536 in
set_option maxHeartbeats 40000000 in
theorem rm_stc_1 (l : Launch) (Z : State) (a0 : Array Value) (G1 : Int32) (G3 : Value) (us ss : Addr) (hX : Ctx Z a0 G1 G3) (hY : More Z us ss) (n0 : Nat) (bk : Addr → Prop) (h0 : Heap) (O0 : Old Z n0 h0) (x : Addr) (a : Addr) (t : Addr) (kb : ClassId) (N : Nat) (cs : List Int32) (pf_0 : Exa Z h0 x "java/lang/String") (pf_1 : Fld Z h0 x "java/lang/String" "value" "[B" .null) (pf_2 : Fld Z h0 x "java/lang/String" "coder" "B" (.int (0 : Int32))) (pf_3 : SbL Z h0 a t kb N cs) (pf_4 : Exa Z h0 t "[B") (l1 : cs.length = N) (l3 : cs.length ≤ 40) (hbl : ∀ y, bk y → @LT.lt Nat _ y (Array.size h0)) (nbx : ¬ bk x) (gx : n0 ≤ x) (m1 : @Ne Nat x a) (m2 : @Ne Nat x t) (ws : List Jvm.Cond) : Met l Z EL1 n0 bk (⟨"java/lang/String", "<init>", "(Ljava/lang/StringBuilder;)V"⟩ : MethodName) jdk_42_method_53_code 2 (Option.none : Option FieldType) RM_stc_1 #[(.ref x), (.ref a)] h0 (Q_stc_1 Z G1 G3 us ss x a t kb N cs h0 n0 bk) ws := by
  have hX' := hX
  obtain ⟨hw, hE, S1, P1, S3, P3⟩ := hX'
  have hY' := hY
  obtain ⟨s_us, s_ss⟩ := hY'
  have hSA := sa_of hw
  have wT : ∀ (i : Nat) {d : Jvm.Cond}, tables_1[i]? = some d → d.before a0 Z = true := fun i d h => hw d (List.mem_of_getElem? h)
  have z0 : n0 ≤ h0.size := by rw [← O0.1]; exact O0.2.1
  refine Met.of (by decide +kernel) O0 hE ?_
  intro p e s m below meth c hx hby hml hret hlk hnm
  refine k_cast (ef_stc_1 m x a) ?_
  show Run p l e _ s m _ below meth c Z EL1 _ n0 bk h0 0 0 (mkF m 0 #[.val (.ref x), .val (.ref a)] []) _
  have ne_1 : @Ne Nat a t := pf_3.2.2.2.2.2.2.2.2
  have lt_2 : @LT.lt Nat _ x (Array.size h0) := pf_0.lt
  have lt_3 : @LT.lt Nat _ x (Array.size h0) := pf_1.lt
  have lt_4 : @LT.lt Nat _ x (Array.size h0) := pf_2.lt
  have lt_5 : @LT.lt Nat _ a (Array.size h0) := pf_3.lt1
  have lt_6 : @LT.lt Nat _ t (Array.size h0) := pf_3.lt2
  have lt_7 : @LT.lt Nat _ t (Array.size h0) := pf_4.lt
  refine k_pure (g' := (mkF m 1 #[.val (.ref x), .val (.ref a)] [(.ref x)])) (fun _ J _ j => XS.aloadN J hx rfl (hb hby d291) rfl rfl j) ?_
  refine k_pure (g' := (mkF m 2 #[.val (.ref x), .val (.ref a)] [(.ref a), (.ref x)])) (fun _ J _ j => XS.aloadN J hx rfl (hb hby d292) rfl rfl j) ?_
  refine k_pure (g' := (mkF m 3 #[.val (.ref x), .val (.ref a)] [.null, (.ref a), (.ref x)])) (fun _ J _ j => XS.aconstNull J hx rfl (hb hby d293) j) ?_
  refine k_callI hx (y := (⟨"java/lang/String", "<init>", "(Ljava/lang/AbstractStringBuilder;Ljava/lang/Void;)V"⟩ : MethodName)) rfl (wT 128 rfl) (wT 129 rfl) (wT 130 rfl) (by decide) (W := 0) (a := x) (argsL := [(.ref a), .null]) (rest := []) (Pays.of_met (rm_stb_1 l Z a0 G1 G3 us ss hX hY n0 bk h0 O0 x a t kb N cs pf_0 pf_1 pf_2 pf_3 pf_4 l1 l3 hbl nbx (by omega) (by omega) (by omega) []) (wT 130 rfl) (wT 2 rfl) (by decide) (by decide)) rfl (by rw [hml]; rfl) (lenOf pd__28_Ljava_2f_lang_2f_AbstractStringBuilder_3b_Ljava_2f_lang_2f_Void_3b__29_V rfl) rfl (by show 2 * 0 + _ ≤ _; exact Nat.le_of_eq rfl) (hb hby d294) (by decide) (by decide) ?_
  intro v_8 h_9 bk_10 O_11 z_12 Q_13
  obtain ⟨a_14, k_15, rfl, rfl, K_16, F_17, P_18⟩ := Q_13
  have lt_19 : @LT.lt Nat _ x (Array.size h_9) := F_17.lt1
  have lt_20 : @LT.lt Nat _ a_14 (Array.size h_9) := F_17.lt2
  show Run p l e _ s m _ below meth c Z EL1 _ n0 bk h_9 1 40 (mkF m 6 #[.val (.ref x), .val (.ref a)] []) _
  exact k_ret0 hx hlk hret (hb hby d295) (by decide) (by decide) ⟨a_14, k_15, rfl, rfl, ((Keep.refl _ _).trans K_16 (kkS (Or.inl (by simp)) kk0)), F_17, (by omega)⟩
def Q_sts_1 (Z : State) (G1 : Int32) (G3 : Value) (us ss : Addr) (a : Addr) (t : Addr) (kb : ClassId) (N : Nat) (cs : List Int32) (h0 : Heap) (n0 : Nat) (bk : Addr → Prop) (v : Option Value) (h : Heap) (bk' : Addr → Prop) : Prop := ∃ (x : Addr), ∃ (u : Addr), ∃ (ku : ClassId), v = some (.ref x) ∧ bk = bk' ∧ Keep h0 h [] ∧ (StrL Z h x u ku cs) ∧ (@LE.le Nat _ (Array.size h0) x) ∧ (@LE.le Nat _ (Array.size h0) u)
abbrev RM_sts_1 : Room := { frames := 4, cells := 2, slots := 44, locals := 59 }
theorem ef_sts_1 (m : MethodId) (x0 : Addr) : entryFrame m #[(.ref x0)] 1 = mkF m 0 #[.val (.ref x0)] [] := by first | (simp [entryFrame, mkF, argsToLocals, Value.category]; done) | rfl
set_option maxRecDepth 65536 in
set_option maxHeartbeats 40000000 in
theorem rm_sts_1 (l : Launch) (Z : State) (a0 : Array Value) (G1 : Int32) (G3 : Value) (us ss : Addr) (hX : Ctx Z a0 G1 G3) (hY : More Z us ss) (n0 : Nat) (bk : Addr → Prop) (h0 : Heap) (O0 : Old Z n0 h0) (a : Addr) (t : Addr) (kb : ClassId) (N : Nat) (cs : List Int32) (pf_0 : SbL Z h0 a t kb N cs) (pf_1 : Exa Z h0 t "[B") (l1 : cs.length = N) (l3 : cs.length ≤ 40) (hbl : ∀ y, bk y → @LT.lt Nat _ y (Array.size h0)) (ws : List Jvm.Cond) : Met l Z EL1 n0 bk (⟨"java/lang/StringBuilder", "toString", "()Ljava/lang/String;"⟩ : MethodName) jdk_67_method_42_code 1 (Option.some (FieldType.object "java/lang/String")) RM_sts_1 #[(.ref a)] h0 (Q_sts_1 Z G1 G3 us ss a t kb N cs h0 n0 bk) ws := by
  have hX' := hX
  obtain ⟨hw, hE, S1, P1, S3, P3⟩ := hX'
  have hY' := hY
  obtain ⟨s_us, s_ss⟩ := hY'
  have hSA := sa_of hw
  have wT : ∀ (i : Nat) {d : Jvm.Cond}, tables_1[i]? = some d → d.before a0 Z = true := fun i d h => hw d (List.mem_of_getElem? h)
  have z0 : n0 ≤ h0.size := by rw [← O0.1]; exact O0.2.1
  refine Met.of (by decide +kernel) O0 hE ?_
  intro p e s m below meth c hx hby hml hret hlk hnm
  refine k_cast (ef_sts_1 m a) ?_
  show Run p l e _ s m _ below meth c Z EL1 _ n0 bk h0 0 0 (mkF m 0 #[.val (.ref a)] []) _
  have ne_1 : @Ne Nat a t := pf_0.2.2.2.2.2.2.2.2
  have lt_2 : @LT.lt Nat _ a (Array.size h0) := pf_0.lt1
  have lt_3 : @LT.lt Nat _ t (Array.size h0) := pf_0.lt2
  have lt_4 : @LT.lt Nat _ t (Array.size h0) := pf_1.lt
  refine k_newO hx (wT 124 rfl) (wT 1 rfl) (wT 2 rfl) rfl (hb hby d296) (by decide) (by decide) ?_
  intro h_6 a_5 g_12 O_7 E_8 A_9 D_10 U_11
  have z_13 := E_8.1
  have lt_14 : @LT.lt Nat _ a_5 (Array.size h_6) := A_9.lt
  have nb_15 : ¬ bk a_5 := fun q => Nat.not_le_of_lt (hbl _ q) (show @LE.le Nat _ (Array.size h0) a_5 by omega)
  show Run p l e _ s m _ below meth c Z EL1 _ n0 bk h_6 1 4 (mkF m 3 #[.val (.ref a)] [(.ref a_5)]) _
  refine k_pure (g' := (mkF m 4 #[.val (.ref a)] [(.ref a_5), (.ref a_5)])) (fun _ J _ j => XS.dup J hx rfl (hb hby d297) rfl rfl j) ?_
  refine k_pure (g' := (mkF m 5 #[.val (.ref a)] [(.ref a), (.ref a_5), (.ref a_5)])) (fun _ J _ j => XS.aloadN J hx rfl (hb hby d298) rfl rfl j) ?_
  have F_16 : SbL Z h_6 a t kb N cs := (pf_0.ext E_8)
  have F_17 : Exa Z h_6 t "[B" := (pf_1.ext E_8)
  have hbl_18 : ∀ y, bk y → @LT.lt Nat _ y (Array.size h_6) := fun y q => Nat.lt_of_lt_of_le (hbl y q) (by omega)
  refine k_callI hx (y := (⟨"java/lang/String", "<init>", "(Ljava/lang/StringBuilder;)V"⟩ : MethodName)) rfl (wT 125 rfl) (wT 126 rfl) (wT 127 rfl) (by decide) (W := 1) (a := a_5) (argsL := [(.ref a)]) (rest := [(.ref a_5)]) (Pays.of_met (rm_stc_1 l Z a0 G1 G3 us ss hX hY n0 bk h_6 O_7 a_5 a t kb N cs A_9 (D_10 (Or.inr (wT 16 rfl)) (ty := (.array .byte)) (by decide)) (D_10 (Or.inr (wT 17 rfl)) (ty := .byte) (by decide)) F_16 F_17 l1 l3 hbl_18 nb_15 (by omega) (by omega) (by omega) []) (wT 127 rfl) (wT 2 rfl) (by decide) (by decide)) rfl (by rw [hml]; rfl) (lenOf pd__28_Ljava_2f_lang_2f_StringBuilder_3b__29_V rfl) rfl (by show 2 * 0 + _ ≤ _; exact Nat.le_of_eq rfl) (hb hby d299) (by decide) (by decide) ?_
  intro v_19 h_20 bk_21 O_22 z_23 Q_24
  obtain ⟨a_25, k_26, rfl, rfl, K_27, F_28, P_29⟩ := Q_24
  have lt_30 : @LT.lt Nat _ a_5 (Array.size h_20) := F_28.lt1
  have lt_31 : @LT.lt Nat _ a_25 (Array.size h_20) := F_28.lt2
  show Run p l e _ s m _ below meth c Z EL1 _ n0 bk h_20 2 44 (mkF m 8 #[.val (.ref a)] [(.ref a_5)]) _
  exact k_retA hx hlk hret rfl rfl rfl (hb hby d300) (by decide) (by decide) ⟨a_5, a_25, k_26, rfl, rfl, (((Keep.refl _ _).ext E_8).trans K_27 (kkS (Or.inr (by omega)) kk0)), F_28, (by omega), (by omega)⟩
def Q_cen (Z : State) (G1 : Int32) (G3 : Value) (us ss : Addr) (c1 : Int32) (h0 : Heap) (n0 : Nat) (bk : Addr → Prop) (v : Option Value) (h : Heap) (bk' : Addr → Prop) : Prop := v = some (.int (1 : Int32)) ∧ h0 = h ∧ bk = bk'
theorem d301 : decode jdk_43_method_3_code 0 = .ok (.iload_n 0, 1) := by decide +kernel
theorem d302 : decode jdk_43_method_3_code 1 = .ok (.sipush 255, 3) := by decide +kernel
theorem d303 : decode jdk_43_method_3_code 4 = .ok (.if_icmp .gt 7, 3) := by decide +kernel
theorem d304 : decode jdk_43_method_3_code 7 = .ok (.iconst 1, 1) := by decide +kernel
theorem d305 : decode jdk_43_method_3_code 8 = .ok (.goto 4, 3) := by decide +kernel
theorem d306 : decode jdk_43_method_3_code 12 = .ok (.ireturn, 1) := by decide +kernel
abbrev RM_cen : Room := { frames := 0, cells := 0, slots := 0, locals := 0 }
theorem ef_cen (m : MethodId) (x0 : Int32) : entryFrame m #[(.int x0)] 1 = mkF m 0 #[.val (.int x0)] [] := by first | (simp [entryFrame, mkF, argsToLocals, Value.category]; done) | rfl
set_option maxRecDepth 65536 in
set_option maxHeartbeats 40000000 in
theorem rm_cen (l : Launch) (Z : State) (a0 : Array Value) (G1 : Int32) (G3 : Value) (us ss : Addr) (hX : Ctx Z a0 G1 G3) (hY : More Z us ss) (n0 : Nat) (bk : Addr → Prop) (h0 : Heap) (O0 : Old Z n0 h0) (c1 : Int32) (h2 : ¬ (255 : Int32) < c1) (ws : List Jvm.Cond) : Met l Z EL1 n0 bk (⟨"java/lang/StringLatin1", "canEncode", "(C)Z"⟩ : MethodName) jdk_43_method_3_code 1 (Option.some FieldType.boolean) RM_cen #[(.int c1)] h0 (Q_cen Z G1 G3 us ss c1 h0 n0 bk) ws := by
  have hX' := hX
  obtain ⟨hw, hE, S1, P1, S3, P3⟩ := hX'
  have hY' := hY
  obtain ⟨s_us, s_ss⟩ := hY'
  have hSA := sa_of hw
  have wT : ∀ (i : Nat) {d : Jvm.Cond}, tables_1[i]? = some d → d.before a0 Z = true := fun i d h => hw d (List.mem_of_getElem? h)
  have z0 : n0 ≤ h0.size := by rw [← O0.1]; exact O0.2.1
  refine Met.of (by decide +kernel) O0 hE ?_
  intro p e s m below meth c hx hby hml hret hlk hnm
  refine k_cast (ef_cen m c1) ?_
  show Run p l e _ s m _ below meth c Z EL1 _ n0 bk h0 0 0 (mkF m 0 #[.val (.int c1)] []) _
  refine k_pure (g' := (mkF m 1 #[.val (.int c1)] [(.int c1)])) (fun _ J _ j => XS.iloadN J hx rfl (hb hby d301) rfl j) ?_
  refine k_pure (g' := (mkF m 4 #[.val (.int c1)] [(.int (255 : Int32)), (.int c1)])) (fun _ J _ j => XS.sipush J hx rfl (hb hby d302) j) ?_
  refine k_pure (g' := (mkF m 7 #[.val (.int c1)] [])) (fun _ J _ j => XS.icmpNo J hx rfl (hb hby d303) rfl (flt h2).2.2.1 j) ?_
  refine k_pure (g' := (mkF m 8 #[.val (.int c1)] [(.int (1 : Int32))])) (fun _ J _ j => XS.iconst J hx rfl (hb hby d304) j) ?_
  refine k_pure (g' := (mkF m 12 #[.val (.int c1)] [(.int (1 : Int32))])) (fun _ J _ j => XS.goto J hx rfl (pc0 := 8) (pc' := 12) rfl (hb hby d305) (by decide) (by decide) j) ?_
  exact k_retN hx hlk hret (by simp) (hb hby d306) (by decide) (by decide) ⟨rfl, rfl, rfl⟩
def Q_tob (Z : State) (G1 : Int32) (G3 : Value) (us ss : Addr) (c1 : Int32) (h0 : Heap) (n0 : Nat) (bk : Addr → Prop) (v : Option Value) (h : Heap) (bk' : Addr → Prop) : Prop := ∃ (t : Addr), ∃ (kb : ClassId), v = some (.ref t) ∧ bk = bk' ∧ Keep h0 h [] ∧ (Arv Z h t kb .byte (1 : Int32) [.int (c1.toInt8.toInt32)] (.int (0 : Int32))) ∧ (@LE.le Nat _ (Array.size h0) t)
theorem d307 : decode jdk_43_method_46_code 0 = .ok (.iconst 1, 1) := by decide +kernel
theorem d308 : decode jdk_43_method_46_code 1 = .ok (.newarray .byte, 2) := by decide +kernel
theorem d309 : decode jdk_43_method_46_code 3 = .ok (.dup, 1) := by decide +kernel
theorem d310 : decode jdk_43_method_46_code 4 = .ok (.iconst 0, 1) := by decide +kernel
theorem d311 : decode jdk_43_method_46_code 5 = .ok (.iload_n 0, 1) := by decide +kernel
theorem d312 : decode jdk_43_method_46_code 6 = .ok (.i2b, 1) := by decide +kernel
theorem d313 : decode jdk_43_method_46_code 7 = .ok (.bastore, 1) := by decide +kernel
theorem d314 : decode jdk_43_method_46_code 8 = .ok (.areturn, 1) := by decide +kernel
abbrev RM_tob : Room := { frames := 0, cells := 1, slots := 1, locals := 0 }
theorem ef_tob (m : MethodId) (x0 : Int32) : entryFrame m #[(.int x0)] 1 = mkF m 0 #[.val (.int x0)] [] := by first | (simp [entryFrame, mkF, argsToLocals, Value.category]; done) | rfl
set_option maxRecDepth 65536 in
set_option maxHeartbeats 40000000 in
theorem rm_tob (l : Launch) (Z : State) (a0 : Array Value) (G1 : Int32) (G3 : Value) (us ss : Addr) (hX : Ctx Z a0 G1 G3) (hY : More Z us ss) (n0 : Nat) (bk : Addr → Prop) (h0 : Heap) (O0 : Old Z n0 h0) (c1 : Int32) (hbl : ∀ y, bk y → @LT.lt Nat _ y (Array.size h0)) (ws : List Jvm.Cond) : Met l Z EL1 n0 bk (⟨"java/lang/StringLatin1", "toBytes", "(C)[B"⟩ : MethodName) jdk_43_method_46_code 1 (Option.some (FieldType.array FieldType.byte)) RM_tob #[(.int c1)] h0 (Q_tob Z G1 G3 us ss c1 h0 n0 bk) ws := by
  have hX' := hX
  obtain ⟨hw, hE, S1, P1, S3, P3⟩ := hX'
  have hY' := hY
  obtain ⟨s_us, s_ss⟩ := hY'
  have hSA := sa_of hw
  have wT : ∀ (i : Nat) {d : Jvm.Cond}, tables_1[i]? = some d → d.before a0 Z = true := fun i d h => hw d (List.mem_of_getElem? h)
  have z0 : n0 ≤ h0.size := by rw [← O0.1]; exact O0.2.1
  refine Met.of (by decide +kernel) O0 hE ?_
  intro p e s m below meth c hx hby hml hret hlk hnm
  refine k_cast (ef_tob m c1) ?_
  show Run p l e _ s m _ below meth c Z EL1 _ n0 bk h0 0 0 (mkF m 0 #[.val (.int c1)] []) _
  refine k_pure (g' := (mkF m 1 #[.val (.int c1)] [(.int (1 : Int32))])) (fun _ J _ j => XS.iconst J hx rfl (hb hby d307) j) ?_
  refine k_newP hx (wT 15 rfl) rfl (hb hby d308) rfl (by decide) (cap := 1) (by decide) (by decide) (by decide) (by decide) "[B" (by decide +kernel) ?_
  intro h_2 a_1 k_3 g_4 O_5 E_6 A_7 X_8
  have z_9 := E_6.1
  have lt_10 : @LT.lt Nat _ a_1 (Array.size h_2) := A_7.lt
  have V_11 : Arv Z h_2 a_1 k_3 .byte (1 : Int32) [(.int (0 : Int32))] (.int (0 : Int32)) := Arv.pad A_7 (pad_rep [] (.int (0 : Int32)) 1)
  have nb_12 : ¬ bk a_1 := fun q => Nat.not_le_of_lt (hbl _ q) (show @LE.le Nat _ (Array.size h0) a_1 by omega)
  show Run p l e _ s m _ below meth c Z EL1 _ n0 bk h_2 1 1 (mkF m 3 #[.val (.int c1)] [(.ref a_1)]) _
  refine k_pure (g' := (mkF m 4 #[.val (.int c1)] [(.ref a_1), (.ref a_1)])) (fun _ J _ j => XS.dup J hx rfl (hb hby d309) rfl rfl j) ?_
  refine k_pure (g' := (mkF m 5 #[.val (.int c1)] [(.int (0 : Int32)), (.ref a_1), (.ref a_1)])) (fun _ J _ j => XS.iconst J hx rfl (hb hby d310) j) ?_
  refine k_pure (g' := (mkF m 6 #[.val (.int c1)] [(.int c1), (.int (0 : Int32)), (.ref a_1), (.ref a_1)])) (fun _ J _ j => XS.iloadN J hx rfl (hb hby d311) rfl j) ?_
  refine k_pure (g' := (mkF m 7 #[.val (.int c1)] [(.int (c1.toInt8.toInt32)), (.int (0 : Int32)), (.ref a_1), (.ref a_1)])) (fun _ J _ j => XS.i2b J hx rfl (hb hby d312) rfl j) ?_
  refine k_stB hx V_11 ⟨by decide, by decide⟩ 0 (by decide) (Nat.le_of_ble_eq_true rfl) (by omega) nb_12 rfl rfl (hb hby d313) ?_
  intro h_13 O_14 W_15 A_16
  have z_17 := W_15.size
  have V_18 : Arv Z h_13 a_1 k_3 .byte (1 : Int32) [(.int (c1.toInt8.toInt32))] (.int (0 : Int32)) := by rw [nb8 c1] at A_16; exact A_16
  show Run p l e _ s m _ below meth c Z EL1 _ n0 bk h_13 1 1 (mkF m 8 #[.val (.int c1)] [(.ref a_1)]) _
  exact k_retA hx hlk hret rfl rfl rfl (hb hby d314) (by decide) (by decide) ⟨a_1, k_3, rfl, rfl, (((Keep.refl _ _).ext E_6).wr W_15 (Or.inr (by omega))), V_18, (by omega)⟩
def Q_ibb (Z : State) (G1 : Int32) (G3 : Value) (us ss : Addr) (x : Addr) (t : Addr) (h0 : Heap) (n0 : Nat) (bk : Addr → Prop) (v : Option Value) (h : Heap) (bk' : Addr → Prop) : Prop := v = none ∧ bk = bk' ∧ Keep h0 h [x] ∧ (Exa Z h x "java/lang/String") ∧ (Fld Z h x "java/lang/String" "value" "[B" (.ref t)) ∧ (Fld Z h x "java/lang/String" "coder" "B" (.int (0 : Int32)))
theorem d315 : decode jdk_42_method_151_code 0 = .ok (.aload_n 0, 1) := by decide +kernel
theorem d316 : decode jdk_42_method_151_code 1 = .ok (.invokespecial 1, 3) := by decide +kernel
theorem d317 : decode jdk_42_method_151_code 4 = .ok (.aload_n 0, 1) := by decide +kernel
theorem d318 : decode jdk_42_method_151_code 5 = .ok (.aload_n 1, 1) := by decide +kernel
theorem d319 : decode jdk_42_method_151_code 6 = .ok (.putfield 9, 3) := by decide +kernel
theorem d320 : decode jdk_42_method_151_code 9 = .ok (.aload_n 0, 1) := by decide +kernel
theorem d321 : decode jdk_42_method_151_code 10 = .ok (.iload_n 2, 1) := by decide +kernel
theorem d322 : decode jdk_42_method_151_code 11 = .ok (.putfield 15, 3) := by decide +kernel
theorem d323 : decode jdk_42_method_151_code 14 = .ok (.return_, 1) := by decide +kernel
abbrev RM_ibb : Room := { frames := 1, cells := 0, slots := 0, locals := 12 }
theorem ef_ibb (m : MethodId) (x0 : Addr) (x1 : Addr) (x2 : Int32) : entryFrame m #[(.ref x0), (.ref x1), (.int x2)] 3 = mkF m 0 #[.val (.ref x0), .val (.ref x1), .val (.int x2)] [] := by first | (simp [entryFrame, mkF, argsToLocals, Value.category]; done) | rfl
set_option maxRecDepth 65536 in
set_option maxHeartbeats 40000000 in
theorem rm_ibb (l : Launch) (Z : State) (a0 : Array Value) (G1 : Int32) (G3 : Value) (us ss : Addr) (hX : Ctx Z a0 G1 G3) (hY : More Z us ss) (n0 : Nat) (bk : Addr → Prop) (h0 : Heap) (O0 : Old Z n0 h0) (x : Addr) (t : Addr) (pf_0 : Exa Z h0 x "java/lang/String") (pf_1 : Fld Z h0 x "java/lang/String" "value" "[B" .null) (pf_2 : Fld Z h0 x "java/lang/String" "coder" "B" (.int (0 : Int32))) (nbx : ¬ bk x) (gx : n0 ≤ x) (ws : List Jvm.Cond) : Met l Z EL1 n0 bk (⟨"java/lang/String", "<init>", "([BB)V"⟩ : MethodName) jdk_42_method_151_code 3 (Option.none : Option FieldType) RM_ibb #[(.ref x), (.ref t), (.int (0 : Int32))] h0 (Q_ibb Z G1 G3 us ss x t h0 n0 bk) ws := by
  have hX' := hX
  obtain ⟨hw, hE, S1, P1, S3, P3⟩ := hX'
  have hY' := hY
  obtain ⟨s_us, s_ss⟩ := hY'
  have hSA := sa_of hw
  have wT : ∀ (i : Nat) {d : Jvm.Cond}, tables_1[i]? = some d → d.before a0 Z = true := fun i d h => hw d (List.mem_of_getElem? h)
  have z0 : n0 ≤ h0.size := by rw [← O0.1]; exact O0.2.1
  refine Met.of (by decide +kernel) O0 hE ?_
  intro p e s m below meth c hx hby hml hret hlk hnm
  refine k_cast (ef_ibb m x t (0 : Int32)) ?_
  show Run p l e _ s m _ below meth c Z EL1 _ n0 bk h0 0 0 (mkF m 0 #[.val (.ref x), .val (.ref t), .val (.int (0 : Int32))] []) _
  have lt_1 : @LT.lt Nat _ x (Array.size h0) := pf_0.lt
  have lt_2 : @LT.lt Nat _ x (Array.size h0) := pf_1.lt
  have lt_3 : @LT.lt Nat _ x (Array.size h0) := pf_2.lt
  refine k_pure (g' := (mkF m 1 #[.val (.ref x), .val (.ref t), .val (.int (0 : Int32))] [(.ref x)])) (fun _ J _ j => XS.aloadN J hx rfl (hb hby d315) rfl rfl j) ?_
  refine k_initO hx (wT 11 rfl) (wT 12 rfl) (wT 13 rfl) rfl (by rw [hml]; rfl) rfl (hb hby d316) (by decide) (W := 0) (by show 2 * 0 + _ ≤ _; exact Nat.le_of_eq rfl) (by decide) ?_
  show Run p l e _ s m _ below meth c Z EL1 _ n0 bk h0 0 0 (mkF m 4 #[.val (.ref x), .val (.ref t), .val (.int (0 : Int32))] []) _
  refine k_pure (g' := (mkF m 5 #[.val (.ref x), .val (.ref t), .val (.int (0 : Int32))] [(.ref x)])) (fun _ J _ j => XS.aloadN J hx rfl (hb hby d317) rfl rfl j) ?_
  refine k_pure (g' := (mkF m 6 #[.val (.ref x), .val (.ref t), .val (.int (0 : Int32))] [(.ref t), (.ref x)])) (fun _ J _ j => XS.aloadN J hx rfl (hb hby d318) rfl rfl j) ?_
  refine k_putF hx (host := "") (Or.inl (wT 20 rfl)) Via.refl pf_1 pf_0 (Or.inr ⟨(wT 16 rfl), rfl, hnm⟩) (wT 1 rfl) (ty := (.array .byte)) (by decide) rfl rfl (by omega) nbx rfl rfl (hb hby d319) ?_
  intro h_4 O_6 W_5
  have z_7 := W_5.size
  show Run p l e _ s m _ below meth c Z EL1 _ n0 bk h_4 0 0 (mkF m 9 #[.val (.ref x), .val (.ref t), .val (.int (0 : Int32))] []) _
  refine k_pure (g' := (mkF m 10 #[.val (.ref x), .val (.ref t), .val (.int (0 : Int32))] [(.ref x)])) (fun _ J _ j => XS.aloadN J hx rfl (hb hby d320) rfl rfl j) ?_
  refine k_pure (g' := (mkF m 11 #[.val (.ref x), .val (.ref t), .val (.int (0 : Int32))] [(.int (0 : Int32)), (.ref x)])) (fun _ J _ j => XS.iloadN J hx rfl (hb hby d321) rfl j) ?_
  have F_8 : Fld Z h_4 x "java/lang/String" "coder" "B" (.int (0 : Int32)) := (pf_2.other W_5 (Or.inr (RoadKit.slot_ne (C := "java/lang/String") (Or.inr (wT 17 rfl)) (Or.inr (wT 16 rfl)) (by decide) (t := .byte) (t' := (.array .byte)) (by decide) (by decide))))
  have F_9 : Exa Z h_4 x "java/lang/String" := (pf_0.wr W_5)
  refine k_putF hx (host := "") (Or.inl (wT 21 rfl)) Via.refl F_8 F_9 (Or.inr ⟨(wT 17 rfl), rfl, hnm⟩) (wT 1 rfl) (ty := .byte) (by decide) rfl rfl (by omega) nbx rfl rfl (hb hby d322) ?_
  intro h_10 O_12 W_11
  have z_13 := W_11.size
  show Run p l e _ s m _ below meth c Z EL1 _ n0 bk h_10 0 0 (mkF m 14 #[.val (.ref x), .val (.ref t), .val (.int (0 : Int32))] []) _
  have F_14 : Exa Z h_10 x "java/lang/String" := (F_9.wr W_11)
  have F_15 : Fld Z h_10 x "java/lang/String" "value" "[B" (.ref t) := ((pf_1.same W_5).other W_11 (Or.inr (RoadKit.slot_ne (C := "java/lang/String") (Or.inr (wT 16 rfl)) (Or.inr (wT 17 rfl)) (by decide) (t := (.array .byte)) (t' := .byte) (by decide) (by decide))))
  exact k_ret0 hx hlk hret (hb hby d323) (by decide) (by decide) ⟨rfl, rfl, (((Keep.refl _ _).wr W_5 (Or.inl (by simp))).wr W_11 (Or.inl (by simp))), F_14, F_15, (F_8.same W_11)⟩
def Q_vof (Z : State) (G1 : Int32) (G3 : Value) (us ss : Addr) (c1 : Int32) (h0 : Heap) (n0 : Nat) (bk : Addr → Prop) (v : Option Value) (h : Heap) (bk' : Addr → Prop) : Prop := ∃ (a : Addr), ∃ (t : Addr), ∃ (kb : ClassId), v = some (.ref a) ∧ bk = bk' ∧ Keep h0 h [] ∧ (StrL Z h a t kb [c1])
theorem d324 : decode jdk_42_method_139_code 0 = .ok (.getstatic 38, 3) := by decide +kernel
theorem d325 : decode jdk_42_method_139_code 3 = .ok (.ifCond .eq 23, 3) := by decide +kernel
theorem d326 : decode jdk_42_method_139_code 6 = .ok (.iload_n 0, 1) := by decide +kernel
theorem d327 : decode jdk_42_method_139_code 7 = .ok (.invokestatic 1015, 3) := by decide +kernel
theorem pd__28_C_29_Z : parseMethodDescriptor "(C)Z" = some ⟨[.char], some .boolean⟩ := by decide +kernel
theorem d328 : decode jdk_42_method_139_code 10 = .ok (.ifCond .eq 16, 3) := by decide +kernel
theorem d329 : decode jdk_42_method_139_code 13 = .ok (.new 10, 3) := by decide +kernel
theorem d330 : decode jdk_42_method_139_code 16 = .ok (.dup, 1) := by decide +kernel
theorem d331 : decode jdk_42_method_139_code 17 = .ok (.iload_n 0, 1) := by decide +kernel
theorem d332 : decode jdk_42_method_139_code 18 = .ok (.invokestatic 1018, 3) := by decide +kernel
theorem pd__28_C_29__5b_B : parseMethodDescriptor "(C)[B" = some ⟨[.char], some (.array .byte)⟩ := by decide +kernel
theorem d333 : decode jdk_42_method_139_code 21 = .ok (.iconst 0, 1) := by decide +kernel
theorem d334 : decode jdk_42_method_139_code 22 = .ok (.invokespecial 209, 3) := by decide +kernel
theorem pd__28__5b_BB_29_V : parseMethodDescriptor "([BB)V" = some ⟨[(.array .byte), .byte], none⟩ := by decide +kernel
theorem d335 : decode jdk_42_method_139_code 25 = .ok (.areturn, 1) := by decide +kernel
abbrev RM_vof : Room := { frames := 2, cells := 2, slots := 5, locals := 27 }
theorem ef_vof (m : MethodId) (x0 : Int32) : entryFrame m #[(.int x0)] 1 = mkF m 0 #[.val (.int x0)] [] := by first | (simp [entryFrame, mkF, argsToLocals, Value.category]; done) | rfl
set_option maxRecDepth 65536 in
set_option maxHeartbeats 40000000 in
theorem rm_vof (l : Launch) (Z : State) (a0 : Array Value) (G1 : Int32) (G3 : Value) (us ss : Addr) (hX : Ctx Z a0 G1 G3) (hY : More Z us ss) (n0 : Nat) (bk : Addr → Prop) (h0 : Heap) (O0 : Old Z n0 h0) (c1 : Int32) (hbl : ∀ y, bk y → @LT.lt Nat _ y (Array.size h0)) (g1 : ¬ c1 < 0 ∧ ¬ (255 : Int32) < c1) (ws : List Jvm.Cond) : Met l Z EL1 n0 bk (⟨"java/lang/String", "valueOf", "(C)Ljava/lang/String;"⟩ : MethodName) jdk_42_method_139_code 1 (Option.some (FieldType.object "java/lang/String")) RM_vof #[(.int c1)] h0 (Q_vof Z G1 G3 us ss c1 h0 n0 bk) ws := by
  have hX' := hX
  obtain ⟨hw, hE, S1, P1, S3, P3⟩ := hX'
  have hY' := hY
  obtain ⟨s_us, s_ss⟩ := hY'
  have hSA := sa_of hw
  have wT : ∀ (i : Nat) {d : Jvm.Cond}, tables_1[i]? = some d → d.before a0 Z = true := fun i d h => hw d (List.mem_of_getElem? h)
  have z0 : n0 ≤ h0.size := by rw [← O0.1]; exact O0.2.1
  refine Met.of (by decide +kernel) O0 hE ?_
  intro p e s m below meth c hx hby hml hret hlk hnm
  refine k_cast (ef_vof m c1) ?_
  show Run p l e _ s m _ below meth c Z EL1 _ n0 bk h0 0 0 (mkF m 0 #[.val (.int c1)] []) _
  refine k_getS hx (host := "") (Or.inl (wT 67 rfl)) Via.refl (S1.ext O0.2) rfl (hb hby d324) ?_
  show Run p l e _ s m _ below meth c Z EL1 _ n0 bk h0 0 0 (mkF m 3 #[.val (.int c1)] [(.int G1)]) _
  refine k_pure (g' := (mkF m 6 #[.val (.int c1)] [])) (fun _ J _ j => XS.ifNo J hx rfl (hb hby d325) rfl ((if0 _ _).trans (feq P1).1) j) ?_
  refine k_pure (g' := (mkF m 7 #[.val (.int c1)] [(.int c1)])) (fun _ J _ j => XS.iloadN J hx rfl (hb hby d326) rfl j) ?_
  refine k_callS hx (y := (⟨"java/lang/StringLatin1", "canEncode", "(C)Z"⟩ : MethodName)) (wT 265 rfl) (wT 266 rfl) (wT 219 rfl) (wT 267 rfl) (by decide) (W := 0) (argsL := [(.int c1)]) (rest := []) (Pays.of_met (rm_cen l Z a0 G1 G3 us ss hX hY n0 bk h0 O0 c1 g1.2 []) (wT 267 rfl) (wT 219 rfl) (by decide) (by decide)) rfl (by rw [hml]; rfl) (lenOf pd__28_C_29_Z rfl) rfl (by show 2 * 0 + _ ≤ _; exact Nat.le_of_eq rfl) (hb hby d327) (by decide) (by decide) ?_
  intro v_1 h_2 bk_3 O_4 z_5 Q_6
  obtain ⟨rfl, rfl, rfl⟩ := Q_6
  show Run p l e _ s m _ below meth c Z EL1 _ n0 bk h0 0 0 (mkF m 10 #[.val (.int c1)] [(.int (1 : Int32))]) _
  refine k_pure (g' := (mkF m 13 #[.val (.int c1)] [])) (fun _ J _ j => XS.ifNo J hx rfl (hb hby d328) rfl ((if0 _ _).trans (feq (by decide : ¬ ((1 : Int32) = (0 : Int32)))).1) j) ?_
  refine k_newO hx (wT 245 rfl) (wT 1 rfl) (wT 2 rfl) rfl (hb hby d329) (by decide) (by decide) ?_
  intro h_8 a_7 g_14 O_9 E_10 A_11 D_12 U_13
  have z_15 := E_10.1
  have lt_16 : @LT.lt Nat _ a_7 (Array.size h_8) := A_11.lt
  have nb_17 : ¬ bk a_7 := fun q => Nat.not_le_of_lt (hbl _ q) (show @LE.le Nat _ (Array.size h0) a_7 by omega)
  show Run p l e _ s m _ below meth c Z EL1 _ n0 bk h_8 1 4 (mkF m 16 #[.val (.int c1)] [(.ref a_7)]) _
  refine k_pure (g' := (mkF m 17 #[.val (.int c1)] [(.ref a_7), (.ref a_7)])) (fun _ J _ j => XS.dup J hx rfl (hb hby d330) rfl rfl j) ?_
  refine k_pure (g' := (mkF m 18 #[.val (.int c1)] [(.int c1), (.ref a_7), (.ref a_7)])) (fun _ J _ j => XS.iloadN J hx rfl (hb hby d331) rfl j) ?_
  have hbl_18 : ∀ y, bk y → @LT.lt Nat _ y (Array.size h_8) := fun y q => Nat.lt_of_lt_of_le (hbl y q) (by omega)
  refine k_callS hx (y := (⟨"java/lang/StringLatin1", "toBytes", "(C)[B"⟩ : MethodName)) (wT 268 rfl) (wT 269 rfl) (wT 219 rfl) (wT 270 rfl) (by decide) (W := 2) (argsL := [(.int c1)]) (rest := [(.ref a_7), (.ref a_7)]) (Pays.of_met (rm_tob l Z a0 G1 G3 us ss hX hY n0 bk h_8 O_9 c1 hbl_18 []) (wT 270 rfl) (wT 219 rfl) (by decide) (by decide)) rfl (by rw [hml]; rfl) (lenOf pd__28_C_29__5b_B rfl) rfl (by show 2 * 0 + _ ≤ _; exact Nat.le_of_eq rfl) (hb hby d332) (by decide) (by decide) ?_
  intro v_19 h_20 bk_21 O_22 z_23 Q_24
  obtain ⟨a_25, k_26, rfl, rfl, K_27, F_28, P_29⟩ := Q_24
  have lt_30 : @LT.lt Nat _ a_25 (Array.size h_20) := F_28.lt
  show Run p l e _ s m _ below meth c Z EL1 _ n0 bk h_20 2 5 (mkF m 21 #[.val (.int c1)] [(.ref a_25), (.ref a_7), (.ref a_7)]) _
  refine k_pure (g' := (mkF m 22 #[.val (.int c1)] [(.int (0 : Int32)), (.ref a_25), (.ref a_7), (.ref a_7)])) (fun _ J _ j => XS.iconst J hx rfl (hb hby d333) j) ?_
  have F_31 : Exa Z h_20 a_7 "java/lang/String" := (A_11.keep K_27)
  have F_32 : Fld Z h_20 a_7 "java/lang/String" "value" "[B" .null := ((D_12 (Or.inr (wT 16 rfl)) (ty := (.array .byte)) (by decide)).keep K_27 nin0)
  have F_33 : Fld Z h_20 a_7 "java/lang/String" "coder" "B" (.int (0 : Int32)) := ((D_12 (Or.inr (wT 17 rfl)) (ty := .byte) (by decide)).keep K_27 nin0)
  refine k_callI hx (y := (⟨"java/lang/String", "<init>", "([BB)V"⟩ : MethodName)) rfl (wT 271 rfl) (wT 272 rfl) (wT 273 rfl) (by decide) (W := 1) (a := a_7) (argsL := [(.ref a_25), (.int (0 : Int32))]) (rest := [(.ref a_7)]) (Pays.of_met (rm_ibb l Z a0 G1 G3 us ss hX hY n0 bk h_20 O_22 a_7 a_25 F_31 F_32 F_33 nb_17 (by omega) []) (wT 273 rfl) (wT 2 rfl) (by decide) (by decide)) rfl (by rw [hml]; rfl) (lenOf pd__28__5b_BB_29_V rfl) rfl (by show 2 * 0 + _ ≤ _; exact Nat.le_of_eq rfl) (hb hby d334) (by decide) (by decide) ?_
  intro v_34 h_35 bk_36 O_37 z_38 Q_39
  obtain ⟨rfl, rfl, K_40, F_41, F_42, F_43⟩ := Q_39
  have lt_44 : @LT.lt Nat _ a_7 (Array.size h_35) := F_41.lt
  have lt_45 : @LT.lt Nat _ a_7 (Array.size h_35) := F_42.lt
  have lt_46 : @LT.lt Nat _ a_7 (Array.size h_35) := F_43.lt
  show Run p l e _ s m _ below meth c Z EL1 _ n0 bk h_35 2 5 (mkF m 25 #[.val (.int c1)] [(.ref a_7)]) _
  have F_47 : Arv Z h_35 a_25 k_26 .byte (1 : Int32) [.int (c1.toInt8.toInt32)] (.int (0 : Int32)) := (F_28.keep K_40 (ninS (ne_ad (by omega)) nin0))
  exact k_retA hx hlk hret rfl rfl rfl (hb hby d335) (by decide) (by decide) ⟨a_7, a_25, k_26, rfl, rfl, ((((Keep.refl _ _).ext E_10).trans K_27 kk0).trans K_40 (kkS (Or.inr (by omega)) kk0)), ⟨F_41, F_43, F_42, F_47, one_ch g1, (by simp)⟩⟩
def Q_thr (Z : State) (G1 : Int32) (G3 : Value) (us ss : Addr) (x : Addr) (mg : Addr) (h0 : Heap) (n0 : Nat) (bk : Addr → Prop) (v : Option Value) (h : Heap) (bk' : Addr → Prop) : Prop := v = none ∧ bk = bk' ∧ Keep h0 h [x] ∧ (Exa Z h x "com/example/lidmaat/lidmaat/http/Refusal") ∧ (Unt h x) ∧ (Fld Z h x "java/lang/Throwable" "cause" "Ljava/lang/Throwable;" .null) ∧ (Fld Z h x "java/lang/Throwable" "detailMessage" "Ljava/lang/String;" (.ref mg)) ∧ (Fld Z h x "com/example/lidmaat/lidmaat/http/Refusal" "status" "I" (.int (0 : Int32)))
theorem d336 : decode jdk_78_method_5_code 0 = .ok (.aload_n 0, 1) := by decide +kernel
theorem d337 : decode jdk_78_method_5_code 1 = .ok (.invokespecial 1, 3) := by decide +kernel
theorem d338 : decode jdk_78_method_5_code 4 = .ok (.aload_n 0, 1) := by decide +kernel
theorem d339 : decode jdk_78_method_5_code 5 = .ok (.aload_n 0, 1) := by decide +kernel
theorem d340 : decode jdk_78_method_5_code 6 = .ok (.putfield 7, 3) := by decide +kernel
theorem d341 : decode jdk_78_method_5_code 9 = .ok (.aload_n 0, 1) := by decide +kernel
theorem d342 : decode jdk_78_method_5_code 10 = .ok (.getstatic 13, 3) := by decide +kernel
theorem d343 : decode jdk_78_method_5_code 13 = .ok (.putfield 17, 3) := by decide +kernel
theorem d344 : decode jdk_78_method_5_code 16 = .ok (.aload_n 0, 1) := by decide +kernel
theorem d345 : decode jdk_78_method_5_code 17 = .ok (.getstatic 20, 3) := by decide +kernel
theorem d346 : decode jdk_78_method_5_code 20 = .ok (.putfield 24, 3) := by decide +kernel
theorem d347 : decode jdk_78_method_5_code 23 = .ok (.iload 4, 2) := by decide +kernel
theorem d348 : decode jdk_78_method_5_code 25 = .ok (.ifCond .eq 11, 3) := by decide +kernel
theorem d349 : decode jdk_78_method_5_code 36 = .ok (.aload_n 0, 1) := by decide +kernel
theorem d350 : decode jdk_78_method_5_code 37 = .ok (.aconst_null, 1) := by decide +kernel
theorem d351 : decode jdk_78_method_5_code 38 = .ok (.putfield 17, 3) := by decide +kernel
theorem d352 : decode jdk_78_method_5_code 41 = .ok (.aload_n 0, 1) := by decide +kernel
theorem d353 : decode jdk_78_method_5_code 42 = .ok (.aload_n 1, 1) := by decide +kernel
theorem d354 : decode jdk_78_method_5_code 43 = .ok (.putfield 31, 3) := by decide +kernel
theorem d355 : decode jdk_78_method_5_code 46 = .ok (.aload_n 0, 1) := by decide +kernel
theorem d356 : decode jdk_78_method_5_code 47 = .ok (.aload_n 2, 1) := by decide +kernel
theorem d357 : decode jdk_78_method_5_code 48 = .ok (.putfield 7, 3) := by decide +kernel
theorem d358 : decode jdk_78_method_5_code 51 = .ok (.iload_n 3, 1) := by decide +kernel
theorem d359 : decode jdk_78_method_5_code 52 = .ok (.ifCond .ne 8, 3) := by decide +kernel
theorem d360 : decode jdk_78_method_5_code 55 = .ok (.aload_n 0, 1) := by decide +kernel
theorem d361 : decode jdk_78_method_5_code 56 = .ok (.aconst_null, 1) := by decide +kernel
theorem d362 : decode jdk_78_method_5_code 57 = .ok (.putfield 24, 3) := by decide +kernel
theorem d363 : decode jdk_78_method_5_code 60 = .ok (.return_, 1) := by decide +kernel
abbrev RM_thr : Room := { frames := 1, cells := 0, slots := 0, locals := 12 }
theorem ef_thr (m : MethodId) (x0 : Addr) (x1 : Addr) (x3 : Int32) (x4 : Int32) : entryFrame m #[(.ref x0), (.ref x1), .null, (.int x3), (.int x4)] 5 = mkF m 0 #[.val (.ref x0), .val (.ref x1), .val .null, .val (.int x3), .val (.int x4)] [] := by first | (simp [entryFrame, mkF, argsToLocals, Value.category]; done) | rfl
set_option maxRecDepth 65536 in
set_option maxHeartbeats 40000000 in
theorem rm_thr (l : Launch) (Z : State) (a0 : Array Value) (G1 : Int32) (G3 : Value) (us ss : Addr) (hX : Ctx Z a0 G1 G3) (hY : More Z us ss) (n0 : Nat) (bk : Addr → Prop) (h0 : Heap) (O0 : Old Z n0 h0) (x : Addr) (mg : Addr) (pf_0 : Exa Z h0 x "com/example/lidmaat/lidmaat/http/Refusal") (pf_1 : Unt h0 x) (pf_2 : Fld Z h0 x "java/lang/Throwable" "cause" "Ljava/lang/Throwable;" .null) (pf_3 : Fld Z h0 x "java/lang/Throwable" "stackTrace" "[Ljava/lang/StackTraceElement;" .null) (pf_4 : Fld Z h0 x "java/lang/Throwable" "suppressedExceptions" "Ljava/util/List;" .null) (pf_5 : Fld Z h0 x "java/lang/Throwable" "detailMessage" "Ljava/lang/String;" .null) (pf_6 : Fld Z h0 x "com/example/lidmaat/lidmaat/http/Refusal" "status" "I" (.int (0 : Int32))) (nbx : ¬ bk x) (gx : n0 ≤ x) (ws : List Jvm.Cond) : Met l Z EL1 n0 bk (⟨"java/lang/Throwable", "<init>", "(Ljava/lang/String;Ljava/lang/Throwable;ZZ)V"⟩ : MethodName) jdk_78_method_5_code 5 (Option.none : Option FieldType) RM_thr #[(.ref x), (.ref mg), .null, (.int (0 : Int32)), (.int (0 : Int32))] h0 (Q_thr Z G1 G3 us ss x mg h0 n0 bk) ws := by
  have hX' := hX
  obtain ⟨hw, hE, S1, P1, S3, P3⟩ := hX'
  have hY' := hY
  obtain ⟨s_us, s_ss⟩ := hY'
  have hSA := sa_of hw
  have wT : ∀ (i : Nat) {d : Jvm.Cond}, tables_1[i]? = some d → d.before a0 Z = true := fun i d h => hw d (List.mem_of_getElem? h)
  have z0 : n0 ≤ h0.size := by rw [← O0.1]; exact O0.2.1
  refine Met.of (by decide +kernel) O0 hE ?_
  intro p e s m below meth c hx hby hml hret hlk hnm
  refine k_cast (ef_thr m x mg (0 : Int32) (0 : Int32)) ?_
  show Run p l e _ s m _ below meth c Z EL1 _ n0 bk h0 0 0 (mkF m 0 #[.val (.ref x), .val (.ref mg), .val .null, .val (.int (0 : Int32)), .val (.int (0 : Int32))] []) _
  have lt_1 : @LT.lt Nat _ x (Array.size h0) := pf_0.lt
  have lt_2 : @LT.lt Nat _ x (Array.size h0) := pf_2.lt
  have lt_3 : @LT.lt Nat _ x (Array.size h0) := pf_3.lt
  have lt_4 : @LT.lt Nat _ x (Array.size h0) := pf_4.lt
  have lt_5 : @LT.lt Nat _ x (Array.size h0) := pf_5.lt
  have lt_6 : @LT.lt Nat _ x (Array.size h0) := pf_6.lt
  refine k_pure (g' := (mkF m 1 #[.val (.ref x), .val (.ref mg), .val .null, .val (.int (0 : Int32)), .val (.int (0 : Int32))] [(.ref x)])) (fun _ J _ j => XS.aloadN J hx rfl (hb hby d336) rfl rfl j) ?_
  refine k_initO hx (wT 172 rfl) (wT 12 rfl) (wT 13 rfl) rfl (by rw [hml]; rfl) rfl (hb hby d337) (by decide) (W := 0) (by show 2 * 0 + _ ≤ _; exact Nat.le_of_eq rfl) (by decide) ?_
  show Run p l e _ s m _ below meth c Z EL1 _ n0 bk h0 0 0 (mkF m 4 #[.val (.ref x), .val (.ref mg), .val .null, .val (.int (0 : Int32)), .val (.int (0 : Int32))] []) _
  refine k_pure (g' := (mkF m 5 #[.val (.ref x), .val (.ref mg), .val .null, .val (.int (0 : Int32)), .val (.int (0 : Int32))] [(.ref x)])) (fun _ J _ j => XS.aloadN J hx rfl (hb hby d338) rfl rfl j) ?_
  refine k_pure (g' := (mkF m 6 #[.val (.ref x), .val (.ref mg), .val .null, .val (.int (0 : Int32)), .val (.int (0 : Int32))] [(.ref x), (.ref x)])) (fun _ J _ j => XS.aloadN J hx rfl (hb hby d339) rfl rfl j) ?_
  refine k_putF hx (host := "") (Or.inl (wT 173 rfl)) Via.refl pf_2 pf_0 (Or.inl (wT 174 rfl)) (wT 27 rfl) (ty := (.object "java/lang/Throwable")) (by decide) rfl rfl (by omega) nbx rfl rfl (hb hby d340) ?_
  intro h_7 O_9 W_8
  have z_10 := W_8.size
  show Run p l e _ s m _ below meth c Z EL1 _ n0 bk h_7 0 0 (mkF m 9 #[.val (.ref x), .val (.ref mg), .val .null, .val (.int (0 : Int32)), .val (.int (0 : Int32))] []) _
  refine k_pure (g' := (mkF m 10 #[.val (.ref x), .val (.ref mg), .val .null, .val (.int (0 : Int32)), .val (.int (0 : Int32))] [(.ref x)])) (fun _ J _ j => XS.aloadN J hx rfl (hb hby d341) rfl rfl j) ?_
  refine k_getS hx (host := "") (Or.inl (wT 175 rfl)) Via.refl (s_us.ext O_9.2) rfl (hb hby d342) ?_
  show Run p l e _ s m _ below meth c Z EL1 _ n0 bk h_7 0 0 (mkF m 13 #[.val (.ref x), .val (.ref mg), .val .null, .val (.int (0 : Int32)), .val (.int (0 : Int32))] [(.ref us), (.ref x)]) _
  have F_11 : Fld Z h_7 x "java/lang/Throwable" "stackTrace" "[Ljava/lang/StackTraceElement;" .null := (pf_3.other W_8 (Or.inr (RoadKit.slot_ne (C := "com/example/lidmaat/lidmaat/http/Refusal") (Or.inl (wT 177 rfl)) (Or.inl (wT 174 rfl)) (by decide) (t := (.array (.object "java/lang/StackTraceElement"))) (t' := (.object "java/lang/Throwable")) (by decide) (by decide))))
  have F_12 : Exa Z h_7 x "com/example/lidmaat/lidmaat/http/Refusal" := (pf_0.wr W_8)
  refine k_putF hx (host := "") (Or.inl (wT 176 rfl)) Via.refl F_11 F_12 (Or.inl (wT 177 rfl)) (wT 27 rfl) (ty := (.array (.object "java/lang/StackTraceElement"))) (by decide) rfl rfl (by omega) nbx rfl rfl (hb hby d343) ?_
  intro h_13 O_15 W_14
  have z_16 := W_14.size
  show Run p l e _ s m _ below meth c Z EL1 _ n0 bk h_13 0 0 (mkF m 16 #[.val (.ref x), .val (.ref mg), .val .null, .val (.int (0 : Int32)), .val (.int (0 : Int32))] []) _
  refine k_pure (g' := (mkF m 17 #[.val (.ref x), .val (.ref mg), .val .null, .val (.int (0 : Int32)), .val (.int (0 : Int32))] [(.ref x)])) (fun _ J _ j => XS.aloadN J hx rfl (hb hby d344) rfl rfl j) ?_
  refine k_getS hx (host := "") (Or.inl (wT 178 rfl)) Via.refl (s_ss.ext O_15.2) rfl (hb hby d345) ?_
  show Run p l e _ s m _ below meth c Z EL1 _ n0 bk h_13 0 0 (mkF m 20 #[.val (.ref x), .val (.ref mg), .val .null, .val (.int (0 : Int32)), .val (.int (0 : Int32))] [(.ref ss), (.ref x)]) _
  have F_17 : Fld Z h_13 x "java/lang/Throwable" "suppressedExceptions" "Ljava/util/List;" .null := ((pf_4.other W_8 (Or.inr (RoadKit.slot_ne (C := "com/example/lidmaat/lidmaat/http/Refusal") (Or.inl (wT 180 rfl)) (Or.inl (wT 174 rfl)) (by decide) (t := (.object "java/util/List")) (t' := (.object "java/lang/Throwable")) (by decide) (by decide)))).other W_14 (Or.inr (RoadKit.slot_ne (C := "com/example/lidmaat/lidmaat/http/Refusal") (Or.inl (wT 180 rfl)) (Or.inl (wT 177 rfl)) (by decide) (t := (.object "java/util/List")) (t' := (.array (.object "java/lang/StackTraceElement"))) (by decide) (by decide))))
  have F_18 : Exa Z h_13 x "com/example/lidmaat/lidmaat/http/Refusal" := (F_12.wr W_14)
  refine k_putF hx (host := "") (Or.inl (wT 179 rfl)) Via.refl F_17 F_18 (Or.inl (wT 180 rfl)) (wT 27 rfl) (ty := (.object "java/util/List")) (by decide) rfl rfl (by omega) nbx rfl rfl (hb hby d346) ?_
  intro h_19 O_21 W_20
  have z_22 := W_20.size
  show Run p l e _ s m _ below meth c Z EL1 _ n0 bk h_19 0 0 (mkF m 23 #[.val (.ref x), .val (.ref mg), .val .null, .val (.int (0 : Int32)), .val (.int (0 : Int32))] []) _
  refine k_pure (g' := (mkF m 25 #[.val (.ref x), .val (.ref mg), .val .null, .val (.int (0 : Int32)), .val (.int (0 : Int32))] [(.int (0 : Int32))])) (fun _ J _ j => XS.iload J hx rfl (hb hby d347) rfl j) ?_
  refine k_pure (g' := (mkF m 36 #[.val (.ref x), .val (.ref mg), .val .null, .val (.int (0 : Int32)), .val (.int (0 : Int32))] [])) (fun _ J _ j => XS.ifYes J hx rfl (pc0 := 25) (pc' := 36) rfl (hb hby d348) rfl ((if0 _ _).trans (teq (by decide : ((0 : Int32) = (0 : Int32)))).1) (by decide) (by decide) j) ?_
  refine k_pure (g' := (mkF m 37 #[.val (.ref x), .val (.ref mg), .val .null, .val (.int (0 : Int32)), .val (.int (0 : Int32))] [(.ref x)])) (fun _ J _ j => XS.aloadN J hx rfl (hb hby d349) rfl rfl j) ?_
  refine k_pure (g' := (mkF m 38 #[.val (.ref x), .val (.ref mg), .val .null, .val (.int (0 : Int32)), .val (.int (0 : Int32))] [.null, (.ref x)])) (fun _ J _ j => XS.aconstNull J hx rfl (hb hby d350) j) ?_
  have F_23 : Fld Z h_19 x "java/lang/Throwable" "stackTrace" "[Ljava/lang/StackTraceElement;" (.ref us) := ((F_11.same W_14).other W_20 (Or.inr (RoadKit.slot_ne (C := "com/example/lidmaat/lidmaat/http/Refusal") (Or.inl (wT 177 rfl)) (Or.inl (wT 180 rfl)) (by decide) (t := (.array (.object "java/lang/StackTraceElement"))) (t' := (.object "java/util/List")) (by decide) (by decide))))
  have F_24 : Exa Z h_19 x "com/example/lidmaat/lidmaat/http/Refusal" := (F_18.wr W_20)
  refine k_putF hx (host := "") (Or.inl (wT 176 rfl)) Via.refl F_23 F_24 (Or.inl (wT 177 rfl)) (wT 27 rfl) (ty := (.array (.object "java/lang/StackTraceElement"))) (by decide) rfl rfl (by omega) nbx rfl rfl (hb hby d351) ?_
  intro h_25 O_27 W_26
  have z_28 := W_26.size
  show Run p l e _ s m _ below meth c Z EL1 _ n0 bk h_25 0 0 (mkF m 41 #[.val (.ref x), .val (.ref mg), .val .null, .val (.int (0 : Int32)), .val (.int (0 : Int32))] []) _
  refine k_pure (g' := (mkF m 42 #[.val (.ref x), .val (.ref mg), .val .null, .val (.int (0 : Int32)), .val (.int (0 : Int32))] [(.ref x)])) (fun _ J _ j => XS.aloadN J hx rfl (hb hby d352) rfl rfl j) ?_
  refine k_pure (g' := (mkF m 43 #[.val (.ref x), .val (.ref mg), .val .null, .val (.int (0 : Int32)), .val (.int (0 : Int32))] [(.ref mg), (.ref x)])) (fun _ J _ j => XS.aloadN J hx rfl (hb hby d353) rfl rfl j) ?_
  have F_29 : Fld Z h_25 x "java/lang/Throwable" "detailMessage" "Ljava/lang/String;" .null := ((((pf_5.other W_8 (Or.inr (RoadKit.slot_ne (C := "com/example/lidmaat/lidmaat/http/Refusal") (Or.inl (wT 182 rfl)) (Or.inl (wT 174 rfl)) (by decide) (t := (.object "java/lang/String")) (t' := (.object "java/lang/Throwable")) (by decide) (by decide)))).other W_14 (Or.inr (RoadKit.slot_ne (C := "com/example/lidmaat/lidmaat/http/Refusal") (Or.inl (wT 182 rfl)) (Or.inl (wT 177 rfl)) (by decide) (t := (.object "java/lang/String")) (t' := (.array (.object "java/lang/StackTraceElement"))) (by decide) (by decide)))).other W_20 (Or.inr (RoadKit.slot_ne (C := "com/example/lidmaat/lidmaat/http/Refusal") (Or.inl (wT 182 rfl)) (Or.inl (wT 180 rfl)) (by decide) (t := (.object "java/lang/String")) (t' := (.object "java/util/List")) (by decide) (by decide)))).other W_26 (Or.inr (RoadKit.slot_ne (C := "com/example/lidmaat/lidmaat/http/Refusal") (Or.inl (wT 182 rfl)) (Or.inl (wT 177 rfl)) (by decide) (t := (.object "java/lang/String")) (t' := (.array (.object "java/lang/StackTraceElement"))) (by decide) (by decide))))
  have F_30 : Exa Z h_25 x "com/example/lidmaat/lidmaat/http/Refusal" := (F_24.wr W_26)
  refine k_putF hx (host := "") (Or.inl (wT 181 rfl)) Via.refl F_29 F_30 (Or.inl (wT 182 rfl)) (wT 27 rfl) (ty := (.object "java/lang/String")) (by decide) rfl rfl (by omega) nbx rfl rfl (hb hby d354) ?_
  intro h_31 O_33 W_32
  have z_34 := W_32.size
  show Run p l e _ s m _ below meth c Z EL1 _ n0 bk h_31 0 0 (mkF m 46 #[.val (.ref x), .val (.ref mg), .val .null, .val (.int (0 : Int32)), .val (.int (0 : Int32))] []) _
  refine k_pure (g' := (mkF m 47 #[.val (.ref x), .val (.ref mg), .val .null, .val (.int (0 : Int32)), .val (.int (0 : Int32))] [(.ref x)])) (fun _ J _ j => XS.aloadN J hx rfl (hb hby d355) rfl rfl j) ?_
  refine k_pure (g' := (mkF m 48 #[.val (.ref x), .val (.ref mg), .val .null, .val (.int (0 : Int32)), .val (.int (0 : Int32))] [.null, (.ref x)])) (fun _ J _ j => XS.aloadN J hx rfl (hb hby d356) rfl rfl j) ?_
  have F_35 : Fld Z h_31 x "java/lang/Throwable" "cause" "Ljava/lang/Throwable;" (.ref x) := (((((pf_2.same W_8).other W_14 (Or.inr (RoadKit.slot_ne (C := "com/example/lidmaat/lidmaat/http/Refusal") (Or.inl (wT 174 rfl)) (Or.inl (wT 177 rfl)) (by decide) (t := (.object "java/lang/Throwable")) (t' := (.array (.object "java/lang/StackTraceElement"))) (by decide) (by decide)))).other W_20 (Or.inr (RoadKit.slot_ne (C := "com/example/lidmaat/lidmaat/http/Refusal") (Or.inl (wT 174 rfl)) (Or.inl (wT 180 rfl)) (by decide) (t := (.object "java/lang/Throwable")) (t' := (.object "java/util/List")) (by decide) (by decide)))).other W_26 (Or.inr (RoadKit.slot_ne (C := "com/example/lidmaat/lidmaat/http/Refusal") (Or.inl (wT 174 rfl)) (Or.inl (wT 177 rfl)) (by decide) (t := (.object "java/lang/Throwable")) (t' := (.array (.object "java/lang/StackTraceElement"))) (by decide) (by decide)))).other W_32 (Or.inr (RoadKit.slot_ne (C := "com/example/lidmaat/lidmaat/http/Refusal") (Or.inl (wT 174 rfl)) (Or.inl (wT 182 rfl)) (by decide) (t := (.object "java/lang/Throwable")) (t' := (.object "java/lang/String")) (by decide) (by decide))))
  have F_36 : Exa Z h_31 x "com/example/lidmaat/lidmaat/http/Refusal" := (F_30.wr W_32)
  refine k_putF hx (host := "") (Or.inl (wT 173 rfl)) Via.refl F_35 F_36 (Or.inl (wT 174 rfl)) (wT 27 rfl) (ty := (.object "java/lang/Throwable")) (by decide) rfl rfl (by omega) nbx rfl rfl (hb hby d357) ?_
  intro h_37 O_39 W_38
  have z_40 := W_38.size
  show Run p l e _ s m _ below meth c Z EL1 _ n0 bk h_37 0 0 (mkF m 51 #[.val (.ref x), .val (.ref mg), .val .null, .val (.int (0 : Int32)), .val (.int (0 : Int32))] []) _
  refine k_pure (g' := (mkF m 52 #[.val (.ref x), .val (.ref mg), .val .null, .val (.int (0 : Int32)), .val (.int (0 : Int32))] [(.int (0 : Int32))])) (fun _ J _ j => XS.iloadN J hx rfl (hb hby d358) rfl j) ?_
  refine k_pure (g' := (mkF m 55 #[.val (.ref x), .val (.ref mg), .val .null, .val (.int (0 : Int32)), .val (.int (0 : Int32))] [])) (fun _ J _ j => XS.ifNo J hx rfl (hb hby d359) rfl ((if0 _ _).trans (teq (by decide : ((0 : Int32) = (0 : Int32)))).2) j) ?_
  refine k_pure (g' := (mkF m 56 #[.val (.ref x), .val (.ref mg), .val .null, .val (.int (0 : Int32)), .val (.int (0 : Int32))] [(.ref x)])) (fun _ J _ j => XS.aloadN J hx rfl (hb hby d360) rfl rfl j) ?_
  refine k_pure (g' := (mkF m 57 #[.val (.ref x), .val (.ref mg), .val .null, .val (.int (0 : Int32)), .val (.int (0 : Int32))] [.null, (.ref x)])) (fun _ J _ j => XS.aconstNull J hx rfl (hb hby d361) j) ?_
  have F_41 : Fld Z h_37 x "java/lang/Throwable" "suppressedExceptions" "Ljava/util/List;" (.ref ss) := ((((F_17.same W_20).other W_26 (Or.inr (RoadKit.slot_ne (C := "com/example/lidmaat/lidmaat/http/Refusal") (Or.inl (wT 180 rfl)) (Or.inl (wT 177 rfl)) (by decide) (t := (.object "java/util/List")) (t' := (.array (.object "java/lang/StackTraceElement"))) (by decide) (by decide)))).other W_32 (Or.inr (RoadKit.slot_ne (C := "com/example/lidmaat/lidmaat/http/Refusal") (Or.inl (wT 180 rfl)) (Or.inl (wT 182 rfl)) (by decide) (t := (.object "java/util/List")) (t' := (.object "java/lang/String")) (by decide) (by decide)))).other W_38 (Or.inr (RoadKit.slot_ne (C := "com/example/lidmaat/lidmaat/http/Refusal") (Or.inl (wT 180 rfl)) (Or.inl (wT 174 rfl)) (by decide) (t := (.object "java/util/List")) (t' := (.object "java/lang/Throwable")) (by decide) (by decide))))
  have F_42 : Exa Z h_37 x "com/example/lidmaat/lidmaat/http/Refusal" := (F_36.wr W_38)
  refine k_putF hx (host := "") (Or.inl (wT 179 rfl)) Via.refl F_41 F_42 (Or.inl (wT 180 rfl)) (wT 27 rfl) (ty := (.object "java/util/List")) (by decide) rfl rfl (by omega) nbx rfl rfl (hb hby d362) ?_
  intro h_43 O_45 W_44
  have z_46 := W_44.size
  show Run p l e _ s m _ below meth c Z EL1 _ n0 bk h_43 0 0 (mkF m 60 #[.val (.ref x), .val (.ref mg), .val .null, .val (.int (0 : Int32)), .val (.int (0 : Int32))] []) _
  have F_47 : Exa Z h_43 x "com/example/lidmaat/lidmaat/http/Refusal" := (F_42.wr W_44)
  have F_48 : Unt h_43 x := (((((((pf_1.wr W_8).wr W_14).wr W_20).wr W_26).wr W_32).wr W_38).wr W_44)
  have F_49 : Fld Z h_43 x "java/lang/Throwable" "cause" "Ljava/lang/Throwable;" .null := ((F_35.same W_38).other W_44 (Or.inr (RoadKit.slot_ne (C := "com/example/lidmaat/lidmaat/http/Refusal") (Or.inl (wT 174 rfl)) (Or.inl (wT 180 rfl)) (by decide) (t := (.object "java/lang/Throwable")) (t' := (.object "java/util/List")) (by decide) (by decide))))
  have F_50 : Fld Z h_43 x "java/lang/Throwable" "detailMessage" "Ljava/lang/String;" (.ref mg) := (((F_29.same W_32).other W_38 (Or.inr (RoadKit.slot_ne (C := "com/example/lidmaat/lidmaat/http/Refusal") (Or.inl (wT 182 rfl)) (Or.inl (wT 174 rfl)) (by decide) (t := (.object "java/lang/String")) (t' := (.object "java/lang/Throwable")) (by decide) (by decide)))).other W_44 (Or.inr (RoadKit.slot_ne (C := "com/example/lidmaat/lidmaat/http/Refusal") (Or.inl (wT 182 rfl)) (Or.inl (wT 180 rfl)) (by decide) (t := (.object "java/lang/String")) (t' := (.object "java/util/List")) (by decide) (by decide))))
  have F_51 : Fld Z h_43 x "com/example/lidmaat/lidmaat/http/Refusal" "status" "I" (.int (0 : Int32)) := (((((((pf_6.other W_8 (Or.inr (RoadKit.slot_ne (C := "com/example/lidmaat/lidmaat/http/Refusal") (Or.inr (wT 184 rfl)) (Or.inl (wT 174 rfl)) (by decide) (t := .int) (t' := (.object "java/lang/Throwable")) (by decide) (by decide)))).other W_14 (Or.inr (RoadKit.slot_ne (C := "com/example/lidmaat/lidmaat/http/Refusal") (Or.inr (wT 184 rfl)) (Or.inl (wT 177 rfl)) (by decide) (t := .int) (t' := (.array (.object "java/lang/StackTraceElement"))) (by decide) (by decide)))).other W_20 (Or.inr (RoadKit.slot_ne (C := "com/example/lidmaat/lidmaat/http/Refusal") (Or.inr (wT 184 rfl)) (Or.inl (wT 180 rfl)) (by decide) (t := .int) (t' := (.object "java/util/List")) (by decide) (by decide)))).other W_26 (Or.inr (RoadKit.slot_ne (C := "com/example/lidmaat/lidmaat/http/Refusal") (Or.inr (wT 184 rfl)) (Or.inl (wT 177 rfl)) (by decide) (t := .int) (t' := (.array (.object "java/lang/StackTraceElement"))) (by decide) (by decide)))).other W_32 (Or.inr (RoadKit.slot_ne (C := "com/example/lidmaat/lidmaat/http/Refusal") (Or.inr (wT 184 rfl)) (Or.inl (wT 182 rfl)) (by decide) (t := .int) (t' := (.object "java/lang/String")) (by decide) (by decide)))).other W_38 (Or.inr (RoadKit.slot_ne (C := "com/example/lidmaat/lidmaat/http/Refusal") (Or.inr (wT 184 rfl)) (Or.inl (wT 174 rfl)) (by decide) (t := .int) (t' := (.object "java/lang/Throwable")) (by decide) (by decide)))).other W_44 (Or.inr (RoadKit.slot_ne (C := "com/example/lidmaat/lidmaat/http/Refusal") (Or.inr (wT 184 rfl)) (Or.inl (wT 180 rfl)) (by decide) (t := .int) (t' := (.object "java/util/List")) (by decide) (by decide))))
  exact k_ret0 hx hlk hret (hb hby d363) (by decide) (by decide) ⟨rfl, rfl, ((((((((Keep.refl _ _).wr W_8 (Or.inl (by simp))).wr W_14 (Or.inl (by simp))).wr W_20 (Or.inl (by simp))).wr W_26 (Or.inl (by simp))).wr W_32 (Or.inl (by simp))).wr W_38 (Or.inl (by simp))).wr W_44 (Or.inl (by simp))), F_47, F_48, F_49, F_50, F_51⟩
def Q_exc (Z : State) (G1 : Int32) (G3 : Value) (us ss : Addr) (x : Addr) (mg : Addr) (h0 : Heap) (n0 : Nat) (bk : Addr → Prop) (v : Option Value) (h : Heap) (bk' : Addr → Prop) : Prop := v = none ∧ bk = bk' ∧ Keep h0 h [x] ∧ (Exa Z h x "com/example/lidmaat/lidmaat/http/Refusal") ∧ (Unt h x) ∧ (Fld Z h x "java/lang/Throwable" "cause" "Ljava/lang/Throwable;" .null) ∧ (Fld Z h x "java/lang/Throwable" "detailMessage" "Ljava/lang/String;" (.ref mg)) ∧ (Fld Z h x "com/example/lidmaat/lidmaat/http/Refusal" "status" "I" (.int (0 : Int32)))
theorem d364 : decode jdk_59_method_5_code 0 = .ok (.aload_n 0, 1) := by decide +kernel
theorem d365 : decode jdk_59_method_5_code 1 = .ok (.aload_n 1, 1) := by decide +kernel
theorem d366 : decode jdk_59_method_5_code 2 = .ok (.aload_n 2, 1) := by decide +kernel
theorem d367 : decode jdk_59_method_5_code 3 = .ok (.iload_n 3, 1) := by decide +kernel
theorem d368 : decode jdk_59_method_5_code 4 = .ok (.iload 4, 2) := by decide +kernel
theorem d369 : decode jdk_59_method_5_code 6 = .ok (.invokespecial 16, 3) := by decide +kernel
theorem pd__28_Ljava_2f_lang_2f_String_3b_Ljava_2f_lang_2f_Throwable_3b_ZZ_29_V : parseMethodDescriptor "(Ljava/lang/String;Ljava/lang/Throwable;ZZ)V" = some ⟨[(.object "java/lang/String"), (.object "java/lang/Throwable"), .boolean, .boolean], none⟩ := by decide +kernel
theorem d370 : decode jdk_59_method_5_code 9 = .ok (.return_, 1) := by decide +kernel
abbrev RM_exc : Room := { frames := 2, cells := 0, slots := 0, locals := 28 }
theorem ef_exc (m : MethodId) (x0 : Addr) (x1 : Addr) (x3 : Int32) (x4 : Int32) : entryFrame m #[(.ref x0), (.ref x1), .null, (.int x3), (.int x4)] 5 = mkF m 0 #[.val (.ref x0), .val (.ref x1), .val .null, .val (.int x3), .val (.int x4)] [] := by first | (simp [entryFrame, mkF, argsToLocals, Value.category]; done) | rfl
set_option maxRecDepth 65536 in
set_option maxHeartbeats 40000000 in
theorem rm_exc (l : Launch) (Z : State) (a0 : Array Value) (G1 : Int32) (G3 : Value) (us ss : Addr) (hX : Ctx Z a0 G1 G3) (hY : More Z us ss) (n0 : Nat) (bk : Addr → Prop) (h0 : Heap) (O0 : Old Z n0 h0) (x : Addr) (mg : Addr) (pf_0 : Exa Z h0 x "com/example/lidmaat/lidmaat/http/Refusal") (pf_1 : Unt h0 x) (pf_2 : Fld Z h0 x "java/lang/Throwable" "cause" "Ljava/lang/Throwable;" .null) (pf_3 : Fld Z h0 x "java/lang/Throwable" "stackTrace" "[Ljava/lang/StackTraceElement;" .null) (pf_4 : Fld Z h0 x "java/lang/Throwable" "suppressedExceptions" "Ljava/util/List;" .null) (pf_5 : Fld Z h0 x "java/lang/Throwable" "detailMessage" "Ljava/lang/String;" .null) (pf_6 : Fld Z h0 x "com/example/lidmaat/lidmaat/http/Refusal" "status" "I" (.int (0 : Int32))) (nbx : ¬ bk x) (gx : n0 ≤ x) (ws : List Jvm.Cond) : Met l Z EL1 n0 bk (⟨"java/lang/Exception", "<init>", "(Ljava/lang/String;Ljava/lang/Throwable;ZZ)V"⟩ : MethodName) jdk_59_method_5_code 5 (Option.none : Option FieldType) RM_exc #[(.ref x), (.ref mg), .null, (.int (0 : Int32)), (.int (0 : Int32))] h0 (Q_exc Z G1 G3 us ss x mg h0 n0 bk) ws := by
  have hX' := hX
  obtain ⟨hw, hE, S1, P1, S3, P3⟩ := hX'
  have hY' := hY
  obtain ⟨s_us, s_ss⟩ := hY'
  have hSA := sa_of hw
  have wT : ∀ (i : Nat) {d : Jvm.Cond}, tables_1[i]? = some d → d.before a0 Z = true := fun i d h => hw d (List.mem_of_getElem? h)
  have z0 : n0 ≤ h0.size := by rw [← O0.1]; exact O0.2.1
  refine Met.of (by decide +kernel) O0 hE ?_
  intro p e s m below meth c hx hby hml hret hlk hnm
  refine k_cast (ef_exc m x mg (0 : Int32) (0 : Int32)) ?_
  show Run p l e _ s m _ below meth c Z EL1 _ n0 bk h0 0 0 (mkF m 0 #[.val (.ref x), .val (.ref mg), .val .null, .val (.int (0 : Int32)), .val (.int (0 : Int32))] []) _
  have lt_1 : @LT.lt Nat _ x (Array.size h0) := pf_0.lt
  have lt_2 : @LT.lt Nat _ x (Array.size h0) := pf_2.lt
  have lt_3 : @LT.lt Nat _ x (Array.size h0) := pf_3.lt
  have lt_4 : @LT.lt Nat _ x (Array.size h0) := pf_4.lt
  have lt_5 : @LT.lt Nat _ x (Array.size h0) := pf_5.lt
  have lt_6 : @LT.lt Nat _ x (Array.size h0) := pf_6.lt
  refine k_pure (g' := (mkF m 1 #[.val (.ref x), .val (.ref mg), .val .null, .val (.int (0 : Int32)), .val (.int (0 : Int32))] [(.ref x)])) (fun _ J _ j => XS.aloadN J hx rfl (hb hby d364) rfl rfl j) ?_
  refine k_pure (g' := (mkF m 2 #[.val (.ref x), .val (.ref mg), .val .null, .val (.int (0 : Int32)), .val (.int (0 : Int32))] [(.ref mg), (.ref x)])) (fun _ J _ j => XS.aloadN J hx rfl (hb hby d365) rfl rfl j) ?_
  refine k_pure (g' := (mkF m 3 #[.val (.ref x), .val (.ref mg), .val .null, .val (.int (0 : Int32)), .val (.int (0 : Int32))] [.null, (.ref mg), (.ref x)])) (fun _ J _ j => XS.aloadN J hx rfl (hb hby d366) rfl rfl j) ?_
  refine k_pure (g' := (mkF m 4 #[.val (.ref x), .val (.ref mg), .val .null, .val (.int (0 : Int32)), .val (.int (0 : Int32))] [(.int (0 : Int32)), .null, (.ref mg), (.ref x)])) (fun _ J _ j => XS.iloadN J hx rfl (hb hby d367) rfl j) ?_
  refine k_pure (g' := (mkF m 6 #[.val (.ref x), .val (.ref mg), .val .null, .val (.int (0 : Int32)), .val (.int (0 : Int32))] [(.int (0 : Int32)), (.int (0 : Int32)), .null, (.ref mg), (.ref x)])) (fun _ J _ j => XS.iload J hx rfl (hb hby d368) rfl j) ?_
  refine k_callI hx (y := (⟨"java/lang/Throwable", "<init>", "(Ljava/lang/String;Ljava/lang/Throwable;ZZ)V"⟩ : MethodName)) rfl (wT 166 rfl) (wT 167 rfl) (wT 171 rfl) (by decide) (W := 0) (a := x) (argsL := [(.ref mg), .null, (.int (0 : Int32)), (.int (0 : Int32))]) (rest := []) (Pays.of_met (rm_thr l Z a0 G1 G3 us ss hX hY n0 bk h0 O0 x mg pf_0 pf_1 pf_2 pf_3 pf_4 pf_5 pf_6 nbx (by omega) []) (wT 171 rfl) (wT 170 rfl) (by decide) (by decide)) rfl (by rw [hml]; rfl) (lenOf pd__28_Ljava_2f_lang_2f_String_3b_Ljava_2f_lang_2f_Throwable_3b_ZZ_29_V rfl) rfl (by show 2 * 0 + _ ≤ _; exact Nat.le_of_eq rfl) (hb hby d369) (by decide) (by decide) ?_
  intro v_7 h_8 bk_9 O_10 z_11 Q_12
  obtain ⟨rfl, rfl, K_13, F_14, F_15, F_16, F_17, F_18⟩ := Q_12
  have lt_19 : @LT.lt Nat _ x (Array.size h_8) := F_14.lt
  have lt_20 : @LT.lt Nat _ x (Array.size h_8) := F_16.lt
  have lt_21 : @LT.lt Nat _ x (Array.size h_8) := F_17.lt
  have lt_22 : @LT.lt Nat _ x (Array.size h_8) := F_18.lt
  show Run p l e _ s m _ below meth c Z EL1 _ n0 bk h_8 0 0 (mkF m 9 #[.val (.ref x), .val (.ref mg), .val .null, .val (.int (0 : Int32)), .val (.int (0 : Int32))] []) _
  exact k_ret0 hx hlk hret (hb hby d370) (by decide) (by decide) ⟨rfl, rfl, ((Keep.refl _ _).trans K_13 (kkS (Or.inl (by simp)) kk0)), F_14, F_15, F_16, F_17, F_18⟩
def Q_rin (Z : State) (G1 : Int32) (G3 : Value) (us ss : Addr) (x : Addr) (st : Int32) (mg : Addr) (h0 : Heap) (n0 : Nat) (bk : Addr → Prop) (v : Option Value) (h : Heap) (bk' : Addr → Prop) : Prop := v = none ∧ bk = bk' ∧ Keep h0 h [x] ∧ (Exa Z h x "com/example/lidmaat/lidmaat/http/Refusal") ∧ (Unt h x) ∧ (Fld Z h x "java/lang/Throwable" "cause" "Ljava/lang/Throwable;" .null) ∧ (Fld Z h x "java/lang/Throwable" "detailMessage" "Ljava/lang/String;" (.ref mg)) ∧ (Fld Z h x "com/example/lidmaat/lidmaat/http/Refusal" "status" "I" (.int st))
theorem d371 : decode prog_19_method_1_code 0 = .ok (.aload_n 0, 1) := by decide +kernel
theorem d372 : decode prog_19_method_1_code 1 = .ok (.aload_n 2, 1) := by decide +kernel
theorem d373 : decode prog_19_method_1_code 2 = .ok (.aconst_null, 1) := by decide +kernel
theorem d374 : decode prog_19_method_1_code 3 = .ok (.iconst 0, 1) := by decide +kernel
theorem d375 : decode prog_19_method_1_code 4 = .ok (.iconst 0, 1) := by decide +kernel
theorem d376 : decode prog_19_method_1_code 5 = .ok (.invokespecial 1, 3) := by decide +kernel
theorem d377 : decode prog_19_method_1_code 8 = .ok (.aload_n 0, 1) := by decide +kernel
theorem d378 : decode prog_19_method_1_code 9 = .ok (.iload_n 1, 1) := by decide +kernel
theorem d379 : decode prog_19_method_1_code 10 = .ok (.putfield 7, 3) := by decide +kernel
theorem d380 : decode prog_19_method_1_code 13 = .ok (.return_, 1) := by decide +kernel
abbrev RM_rin : Room := { frames := 3, cells := 0, slots := 0, locals := 44 }
theorem ef_rin (m : MethodId) (x0 : Addr) (x1 : Int32) (x2 : Addr) : entryFrame m #[(.ref x0), (.int x1), (.ref x2)] 3 = mkF m 0 #[.val (.ref x0), .val (.int x1), .val (.ref x2)] [] := by first | (simp [entryFrame, mkF, argsToLocals, Value.category]; done) | rfl
set_option maxRecDepth 65536 in
set_option maxHeartbeats 40000000 in
theorem rm_rin (l : Launch) (Z : State) (a0 : Array Value) (G1 : Int32) (G3 : Value) (us ss : Addr) (hX : Ctx Z a0 G1 G3) (hY : More Z us ss) (n0 : Nat) (bk : Addr → Prop) (h0 : Heap) (O0 : Old Z n0 h0) (x : Addr) (st : Int32) (mg : Addr) (pf_0 : Exa Z h0 x "com/example/lidmaat/lidmaat/http/Refusal") (pf_1 : Unt h0 x) (pf_2 : Fld Z h0 x "java/lang/Throwable" "cause" "Ljava/lang/Throwable;" .null) (pf_3 : Fld Z h0 x "java/lang/Throwable" "stackTrace" "[Ljava/lang/StackTraceElement;" .null) (pf_4 : Fld Z h0 x "java/lang/Throwable" "suppressedExceptions" "Ljava/util/List;" .null) (pf_5 : Fld Z h0 x "java/lang/Throwable" "detailMessage" "Ljava/lang/String;" .null) (pf_6 : Fld Z h0 x "com/example/lidmaat/lidmaat/http/Refusal" "status" "I" (.int (0 : Int32))) (nbx : ¬ bk x) (gx : n0 ≤ x) (ws : List Jvm.Cond) : Met l Z EL1 n0 bk (⟨"com/example/lidmaat/lidmaat/http/Refusal", "<init>", "(ILjava/lang/String;)V"⟩ : MethodName) prog_19_method_1_code 3 (Option.none : Option FieldType) RM_rin #[(.ref x), (.int st), (.ref mg)] h0 (Q_rin Z G1 G3 us ss x st mg h0 n0 bk) ws := by
  have hX' := hX
  obtain ⟨hw, hE, S1, P1, S3, P3⟩ := hX'
  have hY' := hY
  obtain ⟨s_us, s_ss⟩ := hY'
  have hSA := sa_of hw
  have wT : ∀ (i : Nat) {d : Jvm.Cond}, tables_1[i]? = some d → d.before a0 Z = true := fun i d h => hw d (List.mem_of_getElem? h)
  have z0 : n0 ≤ h0.size := by rw [← O0.1]; exact O0.2.1
  refine Met.of (by decide +kernel) O0 hE ?_
  intro p e s m below meth c hx hby hml hret hlk hnm
  refine k_cast (ef_rin m x st mg) ?_
  show Run p l e _ s m _ below meth c Z EL1 _ n0 bk h0 0 0 (mkF m 0 #[.val (.ref x), .val (.int st), .val (.ref mg)] []) _
  have lt_1 : @LT.lt Nat _ x (Array.size h0) := pf_0.lt
  have lt_2 : @LT.lt Nat _ x (Array.size h0) := pf_2.lt
  have lt_3 : @LT.lt Nat _ x (Array.size h0) := pf_3.lt
  have lt_4 : @LT.lt Nat _ x (Array.size h0) := pf_4.lt
  have lt_5 : @LT.lt Nat _ x (Array.size h0) := pf_5.lt
  have lt_6 : @LT.lt Nat _ x (Array.size h0) := pf_6.lt
  refine k_pure (g' := (mkF m 1 #[.val (.ref x), .val (.int st), .val (.ref mg)] [(.ref x)])) (fun _ J _ j => XS.aloadN J hx rfl (hb hby d371) rfl rfl j) ?_
  refine k_pure (g' := (mkF m 2 #[.val (.ref x), .val (.int st), .val (.ref mg)] [(.ref mg), (.ref x)])) (fun _ J _ j => XS.aloadN J hx rfl (hb hby d372) rfl rfl j) ?_
  refine k_pure (g' := (mkF m 3 #[.val (.ref x), .val (.int st), .val (.ref mg)] [.null, (.ref mg), (.ref x)])) (fun _ J _ j => XS.aconstNull J hx rfl (hb hby d373) j) ?_
  refine k_pure (g' := (mkF m 4 #[.val (.ref x), .val (.int st), .val (.ref mg)] [(.int (0 : Int32)), .null, (.ref mg), (.ref x)])) (fun _ J _ j => XS.iconst J hx rfl (hb hby d374) j) ?_
  refine k_pure (g' := (mkF m 5 #[.val (.ref x), .val (.int st), .val (.ref mg)] [(.int (0 : Int32)), (.int (0 : Int32)), .null, (.ref mg), (.ref x)])) (fun _ J _ j => XS.iconst J hx rfl (hb hby d375) j) ?_
  refine k_callI hx (y := (⟨"java/lang/Exception", "<init>", "(Ljava/lang/String;Ljava/lang/Throwable;ZZ)V"⟩ : MethodName)) rfl (wT 161 rfl) (wT 162 rfl) (wT 165 rfl) (by decide) (W := 0) (a := x) (argsL := [(.ref mg), .null, (.int (0 : Int32)), (.int (0 : Int32))]) (rest := []) (Pays.of_met (rm_exc l Z a0 G1 G3 us ss hX hY n0 bk h0 O0 x mg pf_0 pf_1 pf_2 pf_3 pf_4 pf_5 pf_6 nbx (by omega) []) (wT 165 rfl) (wT 164 rfl) (by decide) (by decide)) rfl (by rw [hml]; rfl) (lenOf pd__28_Ljava_2f_lang_2f_String_3b_Ljava_2f_lang_2f_Throwable_3b_ZZ_29_V rfl) rfl (by show 2 * 0 + _ ≤ _; exact Nat.le_of_eq rfl) (hb hby d376) (by decide) (by decide) ?_
  intro v_7 h_8 bk_9 O_10 z_11 Q_12
  obtain ⟨rfl, rfl, K_13, F_14, F_15, F_16, F_17, F_18⟩ := Q_12
  have lt_19 : @LT.lt Nat _ x (Array.size h_8) := F_14.lt
  have lt_20 : @LT.lt Nat _ x (Array.size h_8) := F_16.lt
  have lt_21 : @LT.lt Nat _ x (Array.size h_8) := F_17.lt
  have lt_22 : @LT.lt Nat _ x (Array.size h_8) := F_18.lt
  show Run p l e _ s m _ below meth c Z EL1 _ n0 bk h_8 0 0 (mkF m 8 #[.val (.ref x), .val (.int st), .val (.ref mg)] []) _
  refine k_pure (g' := (mkF m 9 #[.val (.ref x), .val (.int st), .val (.ref mg)] [(.ref x)])) (fun _ J _ j => XS.aloadN J hx rfl (hb hby d377) rfl rfl j) ?_
  refine k_pure (g' := (mkF m 10 #[.val (.ref x), .val (.int st), .val (.ref mg)] [(.int st), (.ref x)])) (fun _ J _ j => XS.iloadN J hx rfl (hb hby d378) rfl j) ?_
  refine k_putF hx (host := "") (Or.inl (wT 183 rfl)) Via.refl F_18 F_14 (Or.inr ⟨(wT 184 rfl), rfl, hnm⟩) (wT 27 rfl) (ty := .int) (by decide) rfl rfl (by omega) nbx rfl rfl (hb hby d379) ?_
  intro h_23 O_25 W_24
  have z_26 := W_24.size
  show Run p l e _ s m _ below meth c Z EL1 _ n0 bk h_23 0 0 (mkF m 13 #[.val (.ref x), .val (.int st), .val (.ref mg)] []) _
  have F_27 : Exa Z h_23 x "com/example/lidmaat/lidmaat/http/Refusal" := (F_14.wr W_24)
  have F_28 : Unt h_23 x := (F_15.wr W_24)
  have F_29 : Fld Z h_23 x "java/lang/Throwable" "cause" "Ljava/lang/Throwable;" .null := (F_16.other W_24 (Or.inr (RoadKit.slot_ne (C := "com/example/lidmaat/lidmaat/http/Refusal") (Or.inl (wT 174 rfl)) (Or.inr (wT 184 rfl)) (by decide) (t := (.object "java/lang/Throwable")) (t' := .int) (by decide) (by decide))))
  have F_30 : Fld Z h_23 x "java/lang/Throwable" "detailMessage" "Ljava/lang/String;" (.ref mg) := (F_17.other W_24 (Or.inr (RoadKit.slot_ne (C := "com/example/lidmaat/lidmaat/http/Refusal") (Or.inl (wT 182 rfl)) (Or.inr (wT 184 rfl)) (by decide) (t := (.object "java/lang/String")) (t' := .int) (by decide) (by decide))))
  exact k_ret0 hx hlk hret (hb hby d380) (by decide) (by decide) ⟨rfl, rfl, (((Keep.refl _ _).trans K_13 (kkS (Or.inl (by simp)) kk0)).wr W_24 (Or.inl (by simp))), F_27, F_28, F_29, F_30, (F_18.same W_24)⟩
def Q_sta (Z : State) (G1 : Int32) (G3 : Value) (us ss : Addr) (x : Addr) (st : Int32) (h0 : Heap) (n0 : Nat) (bk : Addr → Prop) (v : Option Value) (h : Heap) (bk' : Addr → Prop) : Prop := v = some (.int st) ∧ h0 = h ∧ bk = bk'
theorem d381 : decode prog_19_method_6_code 0 = .ok (.aload_n 0, 1) := by decide +kernel
theorem d382 : decode prog_19_method_6_code 1 = .ok (.getfield 7, 3) := by decide +kernel
theorem d383 : decode prog_19_method_6_code 4 = .ok (.ireturn, 1) := by decide +kernel
abbrev RM_sta : Room := { frames := 0, cells := 0, slots := 0, locals := 0 }
theorem ef_sta (m : MethodId) (x0 : Addr) : entryFrame m #[(.ref x0)] 1 = mkF m 0 #[.val (.ref x0)] [] := by first | (simp [entryFrame, mkF, argsToLocals, Value.category]; done) | rfl
set_option maxRecDepth 65536 in
set_option maxHeartbeats 40000000 in
theorem rm_sta (l : Launch) (Z : State) (a0 : Array Value) (G1 : Int32) (G3 : Value) (us ss : Addr) (hX : Ctx Z a0 G1 G3) (hY : More Z us ss) (n0 : Nat) (bk : Addr → Prop) (h0 : Heap) (O0 : Old Z n0 h0) (x : Addr) (st : Int32) (pf_0 : Exa Z h0 x "com/example/lidmaat/lidmaat/http/Refusal") (pf_1 : Fld Z h0 x "com/example/lidmaat/lidmaat/http/Refusal" "status" "I" (.int st)) (ws : List Jvm.Cond) : Met l Z EL1 n0 bk (⟨"com/example/lidmaat/lidmaat/http/Refusal", "status", "()I"⟩ : MethodName) prog_19_method_6_code 1 (Option.some FieldType.int) RM_sta #[(.ref x)] h0 (Q_sta Z G1 G3 us ss x st h0 n0 bk) ws := by
  have hX' := hX
  obtain ⟨hw, hE, S1, P1, S3, P3⟩ := hX'
  have hY' := hY
  obtain ⟨s_us, s_ss⟩ := hY'
  have hSA := sa_of hw
  have wT : ∀ (i : Nat) {d : Jvm.Cond}, tables_1[i]? = some d → d.before a0 Z = true := fun i d h => hw d (List.mem_of_getElem? h)
  have z0 : n0 ≤ h0.size := by rw [← O0.1]; exact O0.2.1
  refine Met.of (by decide +kernel) O0 hE ?_
  intro p e s m below meth c hx hby hml hret hlk hnm
  refine k_cast (ef_sta m x) ?_
  show Run p l e _ s m _ below meth c Z EL1 _ n0 bk h0 0 0 (mkF m 0 #[.val (.ref x)] []) _
  have lt_1 : @LT.lt Nat _ x (Array.size h0) := pf_0.lt
  have lt_2 : @LT.lt Nat _ x (Array.size h0) := pf_1.lt
  refine k_pure (g' := (mkF m 1 #[.val (.ref x)] [(.ref x)])) (fun _ J _ j => XS.aloadN J hx rfl (hb hby d381) rfl rfl j) ?_
  refine k_getF hx (host := "") (Or.inl (wT 183 rfl)) Via.refl pf_1 rfl rfl (hb hby d382) ?_
  show Run p l e _ s m _ below meth c Z EL1 _ n0 bk h0 0 0 (mkF m 4 #[.val (.ref x)] [(.int st)]) _
  exact k_retI hx hlk hret (hb hby d383) (by decide) (by decide) ⟨rfl, rfl, rfl⟩
def Q_gms (Z : State) (G1 : Int32) (G3 : Value) (us ss : Addr) (x : Addr) (mg : Addr) (h0 : Heap) (n0 : Nat) (bk : Addr → Prop) (v : Option Value) (h : Heap) (bk' : Addr → Prop) : Prop := v = some (.ref mg) ∧ h0 = h ∧ bk = bk'
theorem d384 : decode jdk_78_method_6_code 0 = .ok (.aload_n 0, 1) := by decide +kernel
theorem d385 : decode jdk_78_method_6_code 1 = .ok (.getfield 31, 3) := by decide +kernel
theorem d386 : decode jdk_78_method_6_code 4 = .ok (.areturn, 1) := by decide +kernel
abbrev RM_gms : Room := { frames := 0, cells := 0, slots := 0, locals := 0 }
theorem ef_gms (m : MethodId) (x0 : Addr) : entryFrame m #[(.ref x0)] 1 = mkF m 0 #[.val (.ref x0)] [] := by first | (simp [entryFrame, mkF, argsToLocals, Value.category]; done) | rfl
set_option maxRecDepth 65536 in
set_option maxHeartbeats 40000000 in
theorem rm_gms (l : Launch) (Z : State) (a0 : Array Value) (G1 : Int32) (G3 : Value) (us ss : Addr) (hX : Ctx Z a0 G1 G3) (hY : More Z us ss) (n0 : Nat) (bk : Addr → Prop) (h0 : Heap) (O0 : Old Z n0 h0) (x : Addr) (mg : Addr) (pf_0 : Exa Z h0 x "com/example/lidmaat/lidmaat/http/Refusal") (pf_1 : Fld Z h0 x "java/lang/Throwable" "detailMessage" "Ljava/lang/String;" (.ref mg)) (ws : List Jvm.Cond) : Met l Z EL1 n0 bk (⟨"java/lang/Throwable", "getMessage", "()Ljava/lang/String;"⟩ : MethodName) jdk_78_method_6_code 1 (Option.some (FieldType.object "java/lang/String")) RM_gms #[(.ref x)] h0 (Q_gms Z G1 G3 us ss x mg h0 n0 bk) ws := by
  have hX' := hX
  obtain ⟨hw, hE, S1, P1, S3, P3⟩ := hX'
  have hY' := hY
  obtain ⟨s_us, s_ss⟩ := hY'
  have hSA := sa_of hw
  have wT : ∀ (i : Nat) {d : Jvm.Cond}, tables_1[i]? = some d → d.before a0 Z = true := fun i d h => hw d (List.mem_of_getElem? h)
  have z0 : n0 ≤ h0.size := by rw [← O0.1]; exact O0.2.1
  refine Met.of (by decide +kernel) O0 hE ?_
  intro p e s m below meth c hx hby hml hret hlk hnm
  refine k_cast (ef_gms m x) ?_
  show Run p l e _ s m _ below meth c Z EL1 _ n0 bk h0 0 0 (mkF m 0 #[.val (.ref x)] []) _
  have lt_1 : @LT.lt Nat _ x (Array.size h0) := pf_0.lt
  have lt_2 : @LT.lt Nat _ x (Array.size h0) := pf_1.lt
  refine k_pure (g' := (mkF m 1 #[.val (.ref x)] [(.ref x)])) (fun _ J _ j => XS.aloadN J hx rfl (hb hby d384) rfl rfl j) ?_
  refine k_getF hx (host := "") (Or.inl (wT 181 rfl)) Via.refl pf_1 rfl rfl (hb hby d385) ?_
  show Run p l e _ s m _ below meth c Z EL1 _ n0 bk h0 0 0 (mkF m 4 #[.val (.ref x)] [(.ref mg)]) _
  exact k_retA hx hlk hret rfl rfl rfl (hb hby d386) (by decide) (by decide) ⟨rfl, rfl, rfl⟩
def Q_mal (Z : State) (G1 : Int32) (G3 : Value) (us ss : Addr) (b : Addr) (t2 : Addr) (kb2 : ClassId) (ds : List Int32) (h0 : Heap) (n0 : Nat) (bk : Addr → Prop) (v : Option Value) (h : Heap) (bk' : Addr → Prop) : Prop := ∃ (x : Addr), ∃ (mg : Addr), ∃ (u : Addr), ∃ (ku : ClassId), v = some (.ref x) ∧ (∀ y, bk' y → bk y ∨ (@LE.le Nat _ (Array.size h0) y ∧ @LT.lt Nat _ y (Array.size h))) ∧ Keep h0 h [] ∧ (Exa Z h x "com/example/lidmaat/lidmaat/http/Refusal") ∧ (Unt h x) ∧ (Fld Z h x "java/lang/Throwable" "cause" "Ljava/lang/Throwable;" .null) ∧ (Fld Z h x "java/lang/Throwable" "detailMessage" "Ljava/lang/String;" (.ref mg)) ∧ (Fld Z h x "com/example/lidmaat/lidmaat/http/Refusal" "status" "I" (.int (400 : Int32))) ∧ (StrL Z h mg u ku (((([] : List Int32) ++ lit1) ++ ds) ++ lit2))
theorem d387 : decode prog_19_method_2_code 0 = .ok (.new 8, 3) := by decide +kernel
theorem d388 : decode prog_19_method_2_code 3 = .ok (.dup, 1) := by decide +kernel
theorem d389 : decode prog_19_method_2_code 4 = .ok (.sipush 400, 3) := by decide +kernel
theorem d390 : decode prog_19_method_2_code 7 = .ok (.new 13, 3) := by decide +kernel
theorem d391 : decode prog_19_method_2_code 10 = .ok (.dup, 1) := by decide +kernel
theorem d392 : decode prog_19_method_2_code 11 = .ok (.invokespecial 15, 3) := by decide +kernel
theorem pd__28__29_V : parseMethodDescriptor "()V" = some ⟨[], none⟩ := by decide +kernel
theorem d393 : decode prog_19_method_2_code 14 = .ok (.ldc 18, 2) := by decide +kernel
theorem d394 : decode prog_19_method_2_code 16 = .ok (.invokevirtual 20, 3) := by decide +kernel
theorem pd__28_Ljava_2f_lang_2f_String_3b__29_Ljava_2f_lang_2f_StringBuilder_3b_ : parseMethodDescriptor "(Ljava/lang/String;)Ljava/lang/StringBuilder;" = some ⟨[(.object "java/lang/String")], some (.object "java/lang/StringBuilder")⟩ := by decide +kernel
theorem d395 : decode prog_19_method_2_code 19 = .ok (.aload_n 0, 1) := by decide +kernel
theorem d396 : decode prog_19_method_2_code 20 = .ok (.invokevirtual 20, 3) := by decide +kernel
theorem d397 : decode prog_19_method_2_code 23 = .ok (.ldc 24, 2) := by decide +kernel
theorem d398 : decode prog_19_method_2_code 25 = .ok (.invokevirtual 20, 3) := by decide +kernel
theorem d399 : decode prog_19_method_2_code 28 = .ok (.invokevirtual 26, 3) := by decide +kernel
theorem pd__28__29_Ljava_2f_lang_2f_String_3b_ : parseMethodDescriptor "()Ljava/lang/String;" = some ⟨[], some (.object "java/lang/String")⟩ := by decide +kernel
theorem d400 : decode prog_19_method_2_code 31 = .ok (.invokespecial 30, 3) := by decide +kernel
theorem d401 : decode prog_19_method_2_code 34 = .ok (.areturn, 1) := by decide +kernel
abbrev RM_mal : Room := { frames := 6, cells := 11, slots := 467, locals := 94 }
theorem ef_mal (m : MethodId) (x0 : Addr) : entryFrame m #[(.ref x0)] 1 = mkF m 0 #[.val (.ref x0)] [] := by first | (simp [entryFrame, mkF, argsToLocals, Value.category]; done) | rfl
set_option maxRecDepth 65536 in
set_option maxHeartbeats 40000000 in
theorem rm_mal (l : Launch) (Z : State) (a0 : Array Value) (G1 : Int32) (G3 : Value) (us ss : Addr) (hX : Ctx Z a0 G1 G3) (hY : More Z us ss) (n0 : Nat) (bk : Addr → Prop) (h0 : Heap) (O0 : Old Z n0 h0) (b : Addr) (t2 : Addr) (kb2 : ClassId) (ds : List Int32) (pf_0 : StrL Z h0 b t2 kb2 ds) (l3 : ds.length ≤ 3) (hbl : ∀ y, bk y → @LT.lt Nat _ y (Array.size h0)) (ws : List Jvm.Cond) : Met l Z EL1 n0 bk (⟨"com/example/lidmaat/lidmaat/http/Refusal", "malformed", "(Ljava/lang/String;)Lcom/example/lidmaat/lidmaat/http/Refusal;"⟩ : MethodName) prog_19_method_2_code 1 (Option.some (FieldType.object "com/example/lidmaat/lidmaat/http/Refusal")) RM_mal #[(.ref b)] h0 (Q_mal Z G1 G3 us ss b t2 kb2 ds h0 n0 bk) ws := by
  have hX' := hX
  obtain ⟨hw, hE, S1, P1, S3, P3⟩ := hX'
  have hY' := hY
  obtain ⟨s_us, s_ss⟩ := hY'
  have hSA := sa_of hw
  have wT : ∀ (i : Nat) {d : Jvm.Cond}, tables_1[i]? = some d → d.before a0 Z = true := fun i d h => hw d (List.mem_of_getElem? h)
  have z0 : n0 ≤ h0.size := by rw [← O0.1]; exact O0.2.1
  refine Met.of (by decide +kernel) O0 hE ?_
  intro p e s m below meth c hx hby hml hret hlk hnm
  refine k_cast (ef_mal m b) ?_
  show Run p l e _ s m _ below meth c Z EL1 _ n0 bk h0 0 0 (mkF m 0 #[.val (.ref b)] []) _
  have lt_1 : @LT.lt Nat _ b (Array.size h0) := pf_0.lt1
  have lt_2 : @LT.lt Nat _ t2 (Array.size h0) := pf_0.lt2
  have lA : (([] : List Int32) ++ lit1).length = 19 := rfl
  have lB : ((([] : List Int32) ++ lit1) ++ ds).length = 19 + ds.length := by rw [List.length_append, lA]
  have lC : (((([] : List Int32) ++ lit1) ++ ds) ++ lit2).length = 19 + ds.length + 13 := by rw [List.length_append, lB, len2]
  rcases (by omega : ds.length ≤ 1 ∨ ds.length = 2 ∨ ds.length = 3) with hd | hd | hd
  · show Run p l e _ s m _ below meth c Z EL1 _ n0 bk h0 0 0 (mkF m 0 #[.val (.ref b)] []) _
    refine k_newO hx (wT 26 rfl) (wT 27 rfl) (wT 24 rfl) rfl (hb hby d387) (by decide) (by decide) ?_
    intro h_4 a_3 g_10 O_5 E_6 A_7 D_8 U_9
    have z_11 := E_6.1
    have lt_12 : @LT.lt Nat _ a_3 (Array.size h_4) := A_7.lt
    have nb_13 : ¬ bk a_3 := fun q => Nat.not_le_of_lt (hbl _ q) (show @LE.le Nat _ (Array.size h0) a_3 by omega)
    show Run p l e _ s m _ below meth c Z EL1 _ n0 bk h_4 1 7 (mkF m 3 #[.val (.ref b)] [(.ref a_3)]) _
    refine k_pure (g' := (mkF m 4 #[.val (.ref b)] [(.ref a_3), (.ref a_3)])) (fun _ J _ j => XS.dup J hx rfl (hb hby d388) rfl rfl j) ?_
    refine k_pure (g' := (mkF m 7 #[.val (.ref b)] [(.int (400 : Int32)), (.ref a_3), (.ref a_3)])) (fun _ J _ j => XS.sipush J hx rfl (hb hby d389) j) ?_
    refine k_newO hx (wT 28 rfl) (wT 29 rfl) (wT 30 rfl) rfl (hb hby d390) (by decide) (by decide) ?_
    intro h_15 a_14 g_21 O_16 E_17 A_18 D_19 U_20
    have z_22 := E_17.1
    have lt_23 : @LT.lt Nat _ a_14 (Array.size h_15) := A_18.lt
    have hbl_24 : ∀ y, bk y → @LT.lt Nat _ y (Array.size h_4) := fun y q => Nat.lt_of_lt_of_le (hbl y q) (by omega)
    have nb_25 : ¬ bk a_14 := fun q => Nat.not_le_of_lt (hbl_24 _ q) (show @LE.le Nat _ (Array.size h_4) a_14 by omega)
    show Run p l e _ s m _ below meth c Z EL1 _ n0 bk h_15 2 11 (mkF m 10 #[.val (.ref b)] [(.ref a_14), (.int (400 : Int32)), (.ref a_3), (.ref a_3)]) _
    refine k_pure (g' := (mkF m 11 #[.val (.ref b)] [(.ref a_14), (.ref a_14), (.int (400 : Int32)), (.ref a_3), (.ref a_3)])) (fun _ J _ j => XS.dup J hx rfl (hb hby d391) rfl rfl j) ?_
    have hbl_26 : ∀ y, bk y → @LT.lt Nat _ y (Array.size h_15) := fun y q => Nat.lt_of_lt_of_le (hbl_24 y q) (by omega)
    refine k_callI hx (y := (⟨"java/lang/StringBuilder", "<init>", "()V"⟩ : MethodName)) rfl (wT 31 rfl) (wT 32 rfl) (wT 33 rfl) (by decide) (W := 4) (a := a_14) (argsL := []) (rest := [(.ref a_14), (.int (400 : Int32)), (.ref a_3), (.ref a_3)]) (Pays.of_met (rm_sbi l Z a0 G1 G3 us ss hX hY n0 bk h_15 O_16 a_14 A_18 (D_19 (Or.inl (wT 43 rfl)) (ty := (.array .byte)) (by decide)) (D_19 (Or.inl (wT 45 rfl)) (ty := .byte) (by decide)) (D_19 (Or.inl (wT 69 rfl)) (ty := .int) (by decide)) hbl_26 nb_25 (by omega) []) (wT 33 rfl) (wT 30 rfl) (by decide) (by decide)) rfl (by rw [hml]; rfl) (lenOf pd__28__29_V rfl) rfl (by show 2 * 0 + _ ≤ _; exact Nat.le_of_eq rfl) (hb hby d392) (by decide) (by decide) ?_
    intro v_27 h_28 bk_29 O_30 z_31 Q_32
    obtain ⟨a_33, k_34, rfl, rfl, K_35, F_36, F_37, P_38, P_39⟩ := Q_32
    have ne_40 : @Ne Nat a_14 a_33 := F_36.2.2.2.2.2.2.2.2
    have lt_41 : @LT.lt Nat _ a_14 (Array.size h_28) := F_36.lt1
    have lt_42 : @LT.lt Nat _ a_33 (Array.size h_28) := F_36.lt2
    have lt_43 : @LT.lt Nat _ a_33 (Array.size h_28) := F_37.lt
    show Run p l e _ s m _ below meth c Z EL1 _ n0 bk h_28 3 27 (mkF m 14 #[.val (.ref b)] [(.ref a_14), (.int (400 : Int32)), (.ref a_3), (.ref a_3)]) _
    refine k_ldcC hx (wT 46 rfl) hSA (by decide +kernel) (z := (Int32.ofNat lit1.length)) (vs := (lit1.map (fun c => c.toInt8.toInt32)).map Value.int) (by decide +kernel) (by decide) (by decide +kernel) rfl (hb hby d393) (n := 76) (by decide +kernel) (by decide) (by decide) (by decide) ?_
    intro h_44 a_45 a_50 k_51 bk_48 O_46 E_47 hbk_49 X_52 F_53 F_54 V_55 nl_56
    have z_57 := E_47.1
    have lt_58 : @LT.lt Nat _ a_45 (Array.size h_44) := X_52.lt
    have lt_59 : @LT.lt Nat _ a_50 (Array.size h_44) := V_55.lt
    have ne_60 : @Ne Nat a_3 a_45 := (nl_56 a_3 (show @LT.lt Nat _ a_3 (Array.size h_28) by omega) nb_13).1
    have ne_61 : @Ne Nat a_3 a_50 := (nl_56 a_3 (show @LT.lt Nat _ a_3 (Array.size h_28) by omega) nb_13).2
    have ne_62 : @Ne Nat a_14 a_45 := (nl_56 a_14 (show @LT.lt Nat _ a_14 (Array.size h_28) by omega) nb_25).1
    have ne_63 : @Ne Nat a_14 a_50 := (nl_56 a_14 (show @LT.lt Nat _ a_14 (Array.size h_28) by omega) nb_25).2
    have ne_64 : @Ne Nat a_33 a_45 := (nl_56 a_33 (show @LT.lt Nat _ a_33 (Array.size h_28) by omega) P_39).1
    have ne_65 : @Ne Nat a_33 a_50 := (nl_56 a_33 (show @LT.lt Nat _ a_33 (Array.size h_28) by omega) P_39).2
    have S_66 : StrL Z h_44 a_45 a_50 k_51 lit1 := ⟨X_52, F_53, F_54, V_55, bd1, by decide⟩
    have hbl_67 : ∀ y, bk y → @LT.lt Nat _ y (Array.size h_28) := fun y q => Nat.lt_of_lt_of_le (hbl_26 y q) (by omega)
    have nb_68 : ¬ bk_48 a_3 := fun q => (hbk_49 _ q).elim nb_13 (fun r => Nat.not_le_of_lt (show @LT.lt Nat _ a_3 (Array.size h_28) by omega) r.1)
    have nb_69 : ¬ bk_48 a_14 := fun q => (hbk_49 _ q).elim nb_25 (fun r => Nat.not_le_of_lt (show @LT.lt Nat _ a_14 (Array.size h_28) by omega) r.1)
    have nb_70 : ¬ bk_48 a_33 := fun q => (hbk_49 _ q).elim P_39 (fun r => Nat.not_le_of_lt (show @LT.lt Nat _ a_33 (Array.size h_28) by omega) r.1)
    have hbl_71 : ∀ y, bk_48 y → @LT.lt Nat _ y (Array.size h_44) := fun y q => (hbk_49 y q).elim (fun r => Nat.lt_of_lt_of_le (hbl_67 y r) (by omega)) (fun r => r.2)
    have hbs_72 : ∀ y, bk_48 y → bk y ∨ (@LE.le Nat _ (Array.size h0) y ∧ @LT.lt Nat _ y (Array.size h_44)) := fun y q => (hbk_49 y q).imp id (fun r => ⟨Nat.le_trans (by omega) r.1, r.2⟩)
    show Run p l e _ s m _ below meth c Z EL1 _ n0 bk_48 h_44 5 107 (mkF m 16 #[.val (.ref b)] [(.ref a_45), (.ref a_14), (.int (400 : Int32)), (.ref a_3), (.ref a_3)]) _
    have F_73 : SbL Z h_44 a_14 a_33 k_34 16 ([] : List Int32) := (F_36.ext E_47)
    have F_74 : Exa Z h_44 a_14 "java/lang/StringBuilder" := (F_36.1.ext E_47)
    refine k_callV hx (y := (⟨"java/lang/StringBuilder", "append", "(Ljava/lang/String;)Ljava/lang/StringBuilder;"⟩ : MethodName)) (z := (⟨"java/lang/StringBuilder", "append", "(Ljava/lang/String;)Ljava/lang/StringBuilder;"⟩ : MethodName)) (wT 47 rfl) (wT 48 rfl) (fun s' hZ => notFace_of_selects (args := #[]) (mv hZ (wT 50 rfl))) (wT 50 rfl) (wT 49 rfl) (by decide) (W := 3) (a := a_14) (argsL := [(.ref a_45)]) (rest := [(.int (400 : Int32)), (.ref a_3), (.ref a_3)]) (Pays.of_met (rm_sbapg l Z a0 G1 G3 us ss hX hY n0 bk_48 h_44 O_46 a_14 a_33 k_34 16 ([] : List Int32) a_45 a_50 k_51 lit1 F_73 S_66 (by rw [len1]; decide) (by rw [len1]; decide) hbl_71 (by omega) (by omega) (by omega) (by omega) nb_69 nb_70 (by omega) (by omega) []) (wT 51 rfl) (wT 30 rfl) (by decide) (by decide)) F_74 rfl (by rw [hml]; rfl) (lenOf pd__28_Ljava_2f_lang_2f_String_3b__29_Ljava_2f_lang_2f_StringBuilder_3b_ rfl) rfl (by show 2 * 0 + _ ≤ _; exact Nat.le_of_eq rfl) (hb hby d394) (by decide) (by decide) ?_
    intro v_75 h_76 bk_77 O_78 z_79 Q_80
    obtain ⟨a_81, k_82, e_83, rfl, rfl, K_84, F_85, F_86, P_87, P_88, P_89⟩ := Q_80
    have ne_90 : @Ne Nat a_14 a_81 := F_85.2.2.2.2.2.2.2.2
    have lt_91 : @LT.lt Nat _ a_14 (Array.size h_76) := F_85.lt1
    have lt_92 : @LT.lt Nat _ a_81 (Array.size h_76) := F_85.lt2
    have lt_93 : @LT.lt Nat _ a_81 (Array.size h_76) := F_86.lt
    show Run p l e _ s m _ below meth c Z EL1 _ n0 bk_48 h_76 6 237 (mkF m 19 #[.val (.ref b)] [(.ref a_14), (.int (400 : Int32)), (.ref a_3), (.ref a_3)]) _
    have hA := P_87
    rw [len1, show (([] : List Int32)).length = 0 from rfl] at hA
    refine k_pure (g' := (mkF m 20 #[.val (.ref b)] [(.ref b), (.ref a_14), (.int (400 : Int32)), (.ref a_3), (.ref a_3)])) (fun _ J _ j => XS.aloadN J hx rfl (hb hby d395) rfl rfl j) ?_
    have F_94 : StrL Z h_76 b t2 kb2 ds := (((((pf_0.ext E_6).ext E_17).keep K_35 (ninS (ne_ad (by omega)) nin0) (ninS (ne_ad (by omega)) nin0)).ext E_47).keep K_84 (ninS (ne_ad (by omega)) nin0) (ninS (ne_ad (by omega)) nin0))
    refine k_callV hx (y := (⟨"java/lang/StringBuilder", "append", "(Ljava/lang/String;)Ljava/lang/StringBuilder;"⟩ : MethodName)) (z := (⟨"java/lang/StringBuilder", "append", "(Ljava/lang/String;)Ljava/lang/StringBuilder;"⟩ : MethodName)) (wT 47 rfl) (wT 48 rfl) (fun s' hZ => notFace_of_selects (args := #[]) (mv hZ (wT 50 rfl))) (wT 50 rfl) (wT 49 rfl) (by decide) (W := 3) (a := a_14) (argsL := [(.ref b)]) (rest := [(.int (400 : Int32)), (.ref a_3), (.ref a_3)]) (Pays.of_met (rm_sbaps l Z a0 G1 G3 us ss hX hY n0 bk_48 h_76 O_78 a_14 a_81 k_82 e_83 (([] : List Int32) ++ lit1) b t2 kb2 ds F_85 F_94 (by rw [lA]; omega) (by omega) (by omega) (by omega) (by omega) nb_69 P_89 (by omega) (by omega) []) (wT 51 rfl) (wT 30 rfl) (by decide) (by decide)) F_85.1 rfl (by rw [hml]; rfl) (lenOf pd__28_Ljava_2f_lang_2f_String_3b__29_Ljava_2f_lang_2f_StringBuilder_3b_ rfl) rfl (by show 2 * 0 + _ ≤ _; exact Nat.le_of_eq rfl) (hb hby d396) (by decide) (by decide) ?_
    intro v_95 h_96 bk_97 O_98 z_99 Q_100
    obtain ⟨rfl, rfl, K_101, F_102⟩ := Q_100
    have ne_103 : @Ne Nat a_14 a_81 := F_102.2.2.2.2.2.2.2.2
    have lt_104 : @LT.lt Nat _ a_14 (Array.size h_96) := F_102.lt1
    have lt_105 : @LT.lt Nat _ a_81 (Array.size h_96) := F_102.lt2
    show Run p l e _ s m _ below meth c Z EL1 _ n0 bk_48 h_96 6 237 (mkF m 23 #[.val (.ref b)] [(.ref a_14), (.int (400 : Int32)), (.ref a_3), (.ref a_3)]) _
    refine k_ldcC hx (wT 118 rfl) hSA (by decide +kernel) (z := (Int32.ofNat lit2.length)) (vs := (lit2.map (fun c => c.toInt8.toInt32)).map Value.int) (by decide +kernel) (by decide) (by decide +kernel) rfl (hb hby d397) (n := 52) (by decide +kernel) (by decide) (by decide) (by decide) ?_
    intro h_106 a_107 a_112 k_113 bk_110 O_108 E_109 hbk_111 X_114 F_115 F_116 V_117 nl_118
    have z_119 := E_109.1
    have lt_120 : @LT.lt Nat _ a_107 (Array.size h_106) := X_114.lt
    have lt_121 : @LT.lt Nat _ a_112 (Array.size h_106) := V_117.lt
    have ne_122 : @Ne Nat a_3 a_107 := (nl_118 a_3 (show @LT.lt Nat _ a_3 (Array.size h_96) by omega) nb_68).1
    have ne_123 : @Ne Nat a_3 a_112 := (nl_118 a_3 (show @LT.lt Nat _ a_3 (Array.size h_96) by omega) nb_68).2
    have ne_124 : @Ne Nat a_14 a_107 := (nl_118 a_14 (show @LT.lt Nat _ a_14 (Array.size h_96) by omega) nb_69).1
    have ne_125 : @Ne Nat a_14 a_112 := (nl_118 a_14 (show @LT.lt Nat _ a_14 (Array.size h_96) by omega) nb_69).2
    have ne_126 : @Ne Nat a_33 a_107 := (nl_118 a_33 (show @LT.lt Nat _ a_33 (Array.size h_96) by omega) nb_70).1
    have ne_127 : @Ne Nat a_33 a_112 := (nl_118 a_33 (show @LT.lt Nat _ a_33 (Array.size h_96) by omega) nb_70).2
    have ne_128 : @Ne Nat a_81 a_107 := (nl_118 a_81 (show @LT.lt Nat _ a_81 (Array.size h_96) by omega) P_89).1
    have ne_129 : @Ne Nat a_81 a_112 := (nl_118 a_81 (show @LT.lt Nat _ a_81 (Array.size h_96) by omega) P_89).2
    have S_130 : StrL Z h_106 a_107 a_112 k_113 lit2 := ⟨X_114, F_115, F_116, V_117, bd2, by decide⟩
    have hbl_131 : ∀ y, bk_48 y → @LT.lt Nat _ y (Array.size h_96) := fun y q => Nat.lt_of_lt_of_le (hbl_71 y q) (by omega)
    have nb_132 : ¬ bk_110 a_3 := fun q => (hbk_111 _ q).elim nb_68 (fun r => Nat.not_le_of_lt (show @LT.lt Nat _ a_3 (Array.size h_96) by omega) r.1)
    have nb_133 : ¬ bk_110 a_14 := fun q => (hbk_111 _ q).elim nb_69 (fun r => Nat.not_le_of_lt (show @LT.lt Nat _ a_14 (Array.size h_96) by omega) r.1)
    have nb_134 : ¬ bk_110 a_33 := fun q => (hbk_111 _ q).elim nb_70 (fun r => Nat.not_le_of_lt (show @LT.lt Nat _ a_33 (Array.size h_96) by omega) r.1)
    have nb_135 : ¬ bk_110 a_81 := fun q => (hbk_111 _ q).elim P_89 (fun r => Nat.not_le_of_lt (show @LT.lt Nat _ a_81 (Array.size h_96) by omega) r.1)
    have hbl_136 : ∀ y, bk_110 y → @LT.lt Nat _ y (Array.size h_106) := fun y q => (hbk_111 y q).elim (fun r => Nat.lt_of_lt_of_le (hbl_131 y r) (by omega)) (fun r => r.2)
    have hbs_137 : ∀ y, bk_110 y → bk y ∨ (@LE.le Nat _ (Array.size h0) y ∧ @LT.lt Nat _ y (Array.size h_106)) := fun y q => (hbk_111 y q).elim (fun r => (hbs_72 y r).imp id (fun t => ⟨t.1, Nat.lt_of_lt_of_le t.2 (by omega)⟩)) (fun r => Or.inr ⟨Nat.le_trans (by omega) r.1, r.2⟩)
    show Run p l e _ s m _ below meth c Z EL1 _ n0 bk_110 h_106 8 293 (mkF m 25 #[.val (.ref b)] [(.ref a_107), (.ref a_14), (.int (400 : Int32)), (.ref a_3), (.ref a_3)]) _
    have F_138 : SbL Z h_106 a_14 a_81 k_82 e_83 ((([] : List Int32) ++ lit1) ++ ds) := (F_102.ext E_109)
    have F_139 : Exa Z h_106 a_14 "java/lang/StringBuilder" := (F_102.1.ext E_109)
    refine k_callV hx (y := (⟨"java/lang/StringBuilder", "append", "(Ljava/lang/String;)Ljava/lang/StringBuilder;"⟩ : MethodName)) (z := (⟨"java/lang/StringBuilder", "append", "(Ljava/lang/String;)Ljava/lang/StringBuilder;"⟩ : MethodName)) (wT 47 rfl) (wT 48 rfl) (fun s' hZ => notFace_of_selects (args := #[]) (mv hZ (wT 50 rfl))) (wT 50 rfl) (wT 49 rfl) (by decide) (W := 3) (a := a_14) (argsL := [(.ref a_107)]) (rest := [(.int (400 : Int32)), (.ref a_3), (.ref a_3)]) (Pays.of_met (rm_sbaps l Z a0 G1 G3 us ss hX hY n0 bk_110 h_106 O_108 a_14 a_81 k_82 e_83 ((([] : List Int32) ++ lit1) ++ ds) a_107 a_112 k_113 lit2 F_138 S_130 (by rw [lB, len2]; omega) (by omega) (by omega) (by omega) (by omega) nb_133 nb_135 (by omega) (by omega) []) (wT 51 rfl) (wT 30 rfl) (by decide) (by decide)) F_139 rfl (by rw [hml]; rfl) (lenOf pd__28_Ljava_2f_lang_2f_String_3b__29_Ljava_2f_lang_2f_StringBuilder_3b_ rfl) rfl (by show 2 * 0 + _ ≤ _; exact Nat.le_of_eq rfl) (hb hby d398) (by decide) (by decide) ?_
    intro v_140 h_141 bk_142 O_143 z_144 Q_145
    obtain ⟨rfl, rfl, K_146, F_147⟩ := Q_145
    have ne_148 : @Ne Nat a_14 a_81 := F_147.2.2.2.2.2.2.2.2
    have lt_149 : @LT.lt Nat _ a_14 (Array.size h_141) := F_147.lt1
    have lt_150 : @LT.lt Nat _ a_81 (Array.size h_141) := F_147.lt2
    show Run p l e _ s m _ below meth c Z EL1 _ n0 bk_110 h_141 8 293 (mkF m 28 #[.val (.ref b)] [(.ref a_14), (.int (400 : Int32)), (.ref a_3), (.ref a_3)]) _
    have F_151 : Exa Z h_141 a_81 "[B" := (((F_86.keep K_101).ext E_109).keep K_146)
    have hbl_152 : ∀ y, bk_110 y → @LT.lt Nat _ y (Array.size h_141) := fun y q => Nat.lt_of_lt_of_le (hbl_136 y q) (by omega)
    refine k_callV hx (y := (⟨"java/lang/StringBuilder", "toString", "()Ljava/lang/String;"⟩ : MethodName)) (z := (⟨"java/lang/StringBuilder", "toString", "()Ljava/lang/String;"⟩ : MethodName)) (wT 119 rfl) (wT 120 rfl) (fun s' hZ => notFace_of_selects (args := #[]) (mv hZ (wT 122 rfl))) (wT 122 rfl) (wT 121 rfl) (by decide) (W := 3) (a := a_14) (argsL := []) (rest := [(.int (400 : Int32)), (.ref a_3), (.ref a_3)]) (Pays.of_met (rm_sts_0 l Z a0 G1 G3 us ss hX hY n0 bk_110 h_141 O_143 a_14 a_81 k_82 e_83 (((([] : List Int32) ++ lit1) ++ ds) ++ lit2) F_147 F_151 (by rw [lC]; omega) (by rw [lC]; omega) hbl_152 []) (wT 123 rfl) (wT 30 rfl) (by decide) (by decide)) F_147.1 rfl (by rw [hml]; rfl) (lenOf pd__28__29_Ljava_2f_lang_2f_String_3b_ rfl) rfl (by show 2 * 0 + _ ≤ _; exact Nat.le_of_eq rfl) (hb hby d399) (by decide) (by decide) ?_
    intro v_153 h_154 bk_155 O_156 z_157 Q_158
    obtain ⟨a_159, a_160, k_161, rfl, rfl, K_162, F_163, P_164, P_165⟩ := Q_158
    have lt_166 : @LT.lt Nat _ a_159 (Array.size h_154) := F_163.lt1
    have lt_167 : @LT.lt Nat _ a_160 (Array.size h_154) := F_163.lt2
    show Run p l e _ s m _ below meth c Z EL1 _ n0 bk_110 h_154 10 337 (mkF m 31 #[.val (.ref b)] [(.ref a_159), (.int (400 : Int32)), (.ref a_3), (.ref a_3)]) _
    have F_168 : Exa Z h_154 a_3 "com/example/lidmaat/lidmaat/http/Refusal" := ((((((((A_7.ext E_17).keep K_35).ext E_47).keep K_84).keep K_101).ext E_109).keep K_146).keep K_162)
    have F_169 : Unt h_154 a_3 := (((((((((show Unt h_4 a_3 from U_9).ext E_17).keep K_35 (ninS (ne_ad (by omega)) nin0)).ext E_47).keep K_84 (ninS (ne_ad (by omega)) nin0)).keep K_101 (ninS (ne_ad (by omega)) (ninS (ne_ad (by omega)) nin0))).ext E_109).keep K_146 (ninS (ne_ad (by omega)) (ninS (ne_ad (by omega)) nin0))).keep K_162 nin0)
    have F_170 : Fld Z h_154 a_3 "java/lang/Throwable" "cause" "Ljava/lang/Throwable;" .null := (((((((((D_8 (Or.inl (wT 174 rfl)) (ty := (.object "java/lang/Throwable")) (by decide)).ext E_17).keep K_35 (ninS (ne_ad (by omega)) nin0)).ext E_47).keep K_84 (ninS (ne_ad (by omega)) nin0)).keep K_101 (ninS (ne_ad (by omega)) (ninS (ne_ad (by omega)) nin0))).ext E_109).keep K_146 (ninS (ne_ad (by omega)) (ninS (ne_ad (by omega)) nin0))).keep K_162 nin0)
    have F_171 : Fld Z h_154 a_3 "java/lang/Throwable" "stackTrace" "[Ljava/lang/StackTraceElement;" .null := (((((((((D_8 (Or.inl (wT 177 rfl)) (ty := (.array (.object "java/lang/StackTraceElement"))) (by decide)).ext E_17).keep K_35 (ninS (ne_ad (by omega)) nin0)).ext E_47).keep K_84 (ninS (ne_ad (by omega)) nin0)).keep K_101 (ninS (ne_ad (by omega)) (ninS (ne_ad (by omega)) nin0))).ext E_109).keep K_146 (ninS (ne_ad (by omega)) (ninS (ne_ad (by omega)) nin0))).keep K_162 nin0)
    have F_172 : Fld Z h_154 a_3 "java/lang/Throwable" "suppressedExceptions" "Ljava/util/List;" .null := (((((((((D_8 (Or.inl (wT 180 rfl)) (ty := (.object "java/util/List")) (by decide)).ext E_17).keep K_35 (ninS (ne_ad (by omega)) nin0)).ext E_47).keep K_84 (ninS (ne_ad (by omega)) nin0)).keep K_101 (ninS (ne_ad (by omega)) (ninS (ne_ad (by omega)) nin0))).ext E_109).keep K_146 (ninS (ne_ad (by omega)) (ninS (ne_ad (by omega)) nin0))).keep K_162 nin0)
    have F_173 : Fld Z h_154 a_3 "java/lang/Throwable" "detailMessage" "Ljava/lang/String;" .null := (((((((((D_8 (Or.inl (wT 182 rfl)) (ty := (.object "java/lang/String")) (by decide)).ext E_17).keep K_35 (ninS (ne_ad (by omega)) nin0)).ext E_47).keep K_84 (ninS (ne_ad (by omega)) nin0)).keep K_101 (ninS (ne_ad (by omega)) (ninS (ne_ad (by omega)) nin0))).ext E_109).keep K_146 (ninS (ne_ad (by omega)) (ninS (ne_ad (by omega)) nin0))).keep K_162 nin0)
    have F_174 : Fld Z h_154 a_3 "com/example/lidmaat/lidmaat/http/Refusal" "status" "I" (.int (0 : Int32)) := (((((((((D_8 (Or.inr (wT 184 rfl)) (ty := .int) (by decide)).ext E_17).keep K_35 (ninS (ne_ad (by omega)) nin0)).ext E_47).keep K_84 (ninS (ne_ad (by omega)) nin0)).keep K_101 (ninS (ne_ad (by omega)) (ninS (ne_ad (by omega)) nin0))).ext E_109).keep K_146 (ninS (ne_ad (by omega)) (ninS (ne_ad (by omega)) nin0))).keep K_162 nin0)
    refine k_callI hx (y := (⟨"com/example/lidmaat/lidmaat/http/Refusal", "<init>", "(ILjava/lang/String;)V"⟩ : MethodName)) rfl (wT 158 rfl) (wT 159 rfl) (wT 160 rfl) (by decide) (W := 1) (a := a_3) (argsL := [(.int (400 : Int32)), (.ref a_159)]) (rest := [(.ref a_3)]) (Pays.of_met (rm_rin l Z a0 G1 G3 us ss hX hY n0 bk_110 h_154 O_156 a_3 (400 : Int32) a_159 F_168 F_169 F_170 F_171 F_172 F_173 F_174 nb_132 (by omega) []) (wT 160 rfl) (wT 24 rfl) (by decide) (by decide)) rfl (by rw [hml]; rfl) (lenOf pd__28_ILjava_2f_lang_2f_String_3b__29_V rfl) rfl (by show 2 * 0 + _ ≤ _; exact Nat.le_of_eq rfl) (hb hby d400) (by decide) (by decide) ?_
    intro v_175 h_176 bk_177 O_178 z_179 Q_180
    obtain ⟨rfl, rfl, K_181, F_182, F_183, F_184, F_185, F_186⟩ := Q_180
    have lt_187 : @LT.lt Nat _ a_3 (Array.size h_176) := F_182.lt
    have lt_188 : @LT.lt Nat _ a_3 (Array.size h_176) := F_184.lt
    have lt_189 : @LT.lt Nat _ a_3 (Array.size h_176) := F_185.lt
    have lt_190 : @LT.lt Nat _ a_3 (Array.size h_176) := F_186.lt
    show Run p l e _ s m _ below meth c Z EL1 _ n0 bk_110 h_176 10 337 (mkF m 34 #[.val (.ref b)] [(.ref a_3)]) _
    have F_191 : StrL Z h_176 a_159 a_160 k_161 (((([] : List Int32) ++ lit1) ++ ds) ++ lit2) := (F_163.keep K_181 (ninS (ne_ad (by omega)) nin0) (ninS (ne_ad (by omega)) nin0))
    exact k_retA hx hlk hret rfl rfl rfl (hb hby d401) (by decide) (by decide) ⟨a_3, a_159, a_160, k_161, rfl, (fun y q => (hbs_137 y q).imp id (fun t => ⟨t.1, Nat.lt_of_lt_of_le t.2 (by omega)⟩)), (((((((((((Keep.refl _ _).ext E_6).ext E_17).trans K_35 (kkS (Or.inr (by omega)) kk0)).ext E_47).trans K_84 (kkS (Or.inr (by omega)) kk0)).trans K_101 (kkS (Or.inr (by omega)) (kkS (Or.inr (by omega)) kk0))).ext E_109).trans K_146 (kkS (Or.inr (by omega)) (kkS (Or.inr (by omega)) kk0))).trans K_162 kk0).trans K_181 (kkS (Or.inr (by omega)) kk0)), F_182, F_183, F_184, F_185, F_186, F_191⟩
  · show Run p l e _ s m _ below meth c Z EL1 _ n0 bk h0 0 0 (mkF m 0 #[.val (.ref b)] []) _
    refine k_newO hx (wT 26 rfl) (wT 27 rfl) (wT 24 rfl) rfl (hb hby d387) (by decide) (by decide) ?_
    intro h_193 a_192 g_199 O_194 E_195 A_196 D_197 U_198
    have z_200 := E_195.1
    have lt_201 : @LT.lt Nat _ a_192 (Array.size h_193) := A_196.lt
    have nb_202 : ¬ bk a_192 := fun q => Nat.not_le_of_lt (hbl _ q) (show @LE.le Nat _ (Array.size h0) a_192 by omega)
    show Run p l e _ s m _ below meth c Z EL1 _ n0 bk h_193 1 7 (mkF m 3 #[.val (.ref b)] [(.ref a_192)]) _
    refine k_pure (g' := (mkF m 4 #[.val (.ref b)] [(.ref a_192), (.ref a_192)])) (fun _ J _ j => XS.dup J hx rfl (hb hby d388) rfl rfl j) ?_
    refine k_pure (g' := (mkF m 7 #[.val (.ref b)] [(.int (400 : Int32)), (.ref a_192), (.ref a_192)])) (fun _ J _ j => XS.sipush J hx rfl (hb hby d389) j) ?_
    refine k_newO hx (wT 28 rfl) (wT 29 rfl) (wT 30 rfl) rfl (hb hby d390) (by decide) (by decide) ?_
    intro h_204 a_203 g_210 O_205 E_206 A_207 D_208 U_209
    have z_211 := E_206.1
    have lt_212 : @LT.lt Nat _ a_203 (Array.size h_204) := A_207.lt
    have hbl_213 : ∀ y, bk y → @LT.lt Nat _ y (Array.size h_193) := fun y q => Nat.lt_of_lt_of_le (hbl y q) (by omega)
    have nb_214 : ¬ bk a_203 := fun q => Nat.not_le_of_lt (hbl_213 _ q) (show @LE.le Nat _ (Array.size h_193) a_203 by omega)
    show Run p l e _ s m _ below meth c Z EL1 _ n0 bk h_204 2 11 (mkF m 10 #[.val (.ref b)] [(.ref a_203), (.int (400 : Int32)), (.ref a_192), (.ref a_192)]) _
    refine k_pure (g' := (mkF m 11 #[.val (.ref b)] [(.ref a_203), (.ref a_203), (.int (400 : Int32)), (.ref a_192), (.ref a_192)])) (fun _ J _ j => XS.dup J hx rfl (hb hby d391) rfl rfl j) ?_
    have hbl_215 : ∀ y, bk y → @LT.lt Nat _ y (Array.size h_204) := fun y q => Nat.lt_of_lt_of_le (hbl_213 y q) (by omega)
    refine k_callI hx (y := (⟨"java/lang/StringBuilder", "<init>", "()V"⟩ : MethodName)) rfl (wT 31 rfl) (wT 32 rfl) (wT 33 rfl) (by decide) (W := 4) (a := a_203) (argsL := []) (rest := [(.ref a_203), (.int (400 : Int32)), (.ref a_192), (.ref a_192)]) (Pays.of_met (rm_sbi l Z a0 G1 G3 us ss hX hY n0 bk h_204 O_205 a_203 A_207 (D_208 (Or.inl (wT 43 rfl)) (ty := (.array .byte)) (by decide)) (D_208 (Or.inl (wT 45 rfl)) (ty := .byte) (by decide)) (D_208 (Or.inl (wT 69 rfl)) (ty := .int) (by decide)) hbl_215 nb_214 (by omega) []) (wT 33 rfl) (wT 30 rfl) (by decide) (by decide)) rfl (by rw [hml]; rfl) (lenOf pd__28__29_V rfl) rfl (by show 2 * 0 + _ ≤ _; exact Nat.le_of_eq rfl) (hb hby d392) (by decide) (by decide) ?_
    intro v_216 h_217 bk_218 O_219 z_220 Q_221
    obtain ⟨a_222, k_223, rfl, rfl, K_224, F_225, F_226, P_227, P_228⟩ := Q_221
    have ne_229 : @Ne Nat a_203 a_222 := F_225.2.2.2.2.2.2.2.2
    have lt_230 : @LT.lt Nat _ a_203 (Array.size h_217) := F_225.lt1
    have lt_231 : @LT.lt Nat _ a_222 (Array.size h_217) := F_225.lt2
    have lt_232 : @LT.lt Nat _ a_222 (Array.size h_217) := F_226.lt
    show Run p l e _ s m _ below meth c Z EL1 _ n0 bk h_217 3 27 (mkF m 14 #[.val (.ref b)] [(.ref a_203), (.int (400 : Int32)), (.ref a_192), (.ref a_192)]) _
    refine k_ldcC hx (wT 46 rfl) hSA (by decide +kernel) (z := (Int32.ofNat lit1.length)) (vs := (lit1.map (fun c => c.toInt8.toInt32)).map Value.int) (by decide +kernel) (by decide) (by decide +kernel) rfl (hb hby d393) (n := 76) (by decide +kernel) (by decide) (by decide) (by decide) ?_
    intro h_233 a_234 a_239 k_240 bk_237 O_235 E_236 hbk_238 X_241 F_242 F_243 V_244 nl_245
    have z_246 := E_236.1
    have lt_247 : @LT.lt Nat _ a_234 (Array.size h_233) := X_241.lt
    have lt_248 : @LT.lt Nat _ a_239 (Array.size h_233) := V_244.lt
    have ne_249 : @Ne Nat a_192 a_234 := (nl_245 a_192 (show @LT.lt Nat _ a_192 (Array.size h_217) by omega) nb_202).1
    have ne_250 : @Ne Nat a_192 a_239 := (nl_245 a_192 (show @LT.lt Nat _ a_192 (Array.size h_217) by omega) nb_202).2
    have ne_251 : @Ne Nat a_203 a_234 := (nl_245 a_203 (show @LT.lt Nat _ a_203 (Array.size h_217) by omega) nb_214).1
    have ne_252 : @Ne Nat a_203 a_239 := (nl_245 a_203 (show @LT.lt Nat _ a_203 (Array.size h_217) by omega) nb_214).2
    have ne_253 : @Ne Nat a_222 a_234 := (nl_245 a_222 (show @LT.lt Nat _ a_222 (Array.size h_217) by omega) P_228).1
    have ne_254 : @Ne Nat a_222 a_239 := (nl_245 a_222 (show @LT.lt Nat _ a_222 (Array.size h_217) by omega) P_228).2
    have S_255 : StrL Z h_233 a_234 a_239 k_240 lit1 := ⟨X_241, F_242, F_243, V_244, bd1, by decide⟩
    have hbl_256 : ∀ y, bk y → @LT.lt Nat _ y (Array.size h_217) := fun y q => Nat.lt_of_lt_of_le (hbl_215 y q) (by omega)
    have nb_257 : ¬ bk_237 a_192 := fun q => (hbk_238 _ q).elim nb_202 (fun r => Nat.not_le_of_lt (show @LT.lt Nat _ a_192 (Array.size h_217) by omega) r.1)
    have nb_258 : ¬ bk_237 a_203 := fun q => (hbk_238 _ q).elim nb_214 (fun r => Nat.not_le_of_lt (show @LT.lt Nat _ a_203 (Array.size h_217) by omega) r.1)
    have nb_259 : ¬ bk_237 a_222 := fun q => (hbk_238 _ q).elim P_228 (fun r => Nat.not_le_of_lt (show @LT.lt Nat _ a_222 (Array.size h_217) by omega) r.1)
    have hbl_260 : ∀ y, bk_237 y → @LT.lt Nat _ y (Array.size h_233) := fun y q => (hbk_238 y q).elim (fun r => Nat.lt_of_lt_of_le (hbl_256 y r) (by omega)) (fun r => r.2)
    have hbs_261 : ∀ y, bk_237 y → bk y ∨ (@LE.le Nat _ (Array.size h0) y ∧ @LT.lt Nat _ y (Array.size h_233)) := fun y q => (hbk_238 y q).imp id (fun r => ⟨Nat.le_trans (by omega) r.1, r.2⟩)
    show Run p l e _ s m _ below meth c Z EL1 _ n0 bk_237 h_233 5 107 (mkF m 16 #[.val (.ref b)] [(.ref a_234), (.ref a_203), (.int (400 : Int32)), (.ref a_192), (.ref a_192)]) _
    have F_262 : SbL Z h_233 a_203 a_222 k_223 16 ([] : List Int32) := (F_225.ext E_236)
    have F_263 : Exa Z h_233 a_203 "java/lang/StringBuilder" := (F_225.1.ext E_236)
    refine k_callV hx (y := (⟨"java/lang/StringBuilder", "append", "(Ljava/lang/String;)Ljava/lang/StringBuilder;"⟩ : MethodName)) (z := (⟨"java/lang/StringBuilder", "append", "(Ljava/lang/String;)Ljava/lang/StringBuilder;"⟩ : MethodName)) (wT 47 rfl) (wT 48 rfl) (fun s' hZ => notFace_of_selects (args := #[]) (mv hZ (wT 50 rfl))) (wT 50 rfl) (wT 49 rfl) (by decide) (W := 3) (a := a_203) (argsL := [(.ref a_234)]) (rest := [(.int (400 : Int32)), (.ref a_192), (.ref a_192)]) (Pays.of_met (rm_sbapg l Z a0 G1 G3 us ss hX hY n0 bk_237 h_233 O_235 a_203 a_222 k_223 16 ([] : List Int32) a_234 a_239 k_240 lit1 F_262 S_255 (by rw [len1]; decide) (by rw [len1]; decide) hbl_260 (by omega) (by omega) (by omega) (by omega) nb_258 nb_259 (by omega) (by omega) []) (wT 51 rfl) (wT 30 rfl) (by decide) (by decide)) F_263 rfl (by rw [hml]; rfl) (lenOf pd__28_Ljava_2f_lang_2f_String_3b__29_Ljava_2f_lang_2f_StringBuilder_3b_ rfl) rfl (by show 2 * 0 + _ ≤ _; exact Nat.le_of_eq rfl) (hb hby d394) (by decide) (by decide) ?_
    intro v_264 h_265 bk_266 O_267 z_268 Q_269
    obtain ⟨a_270, k_271, e_272, rfl, rfl, K_273, F_274, F_275, P_276, P_277, P_278⟩ := Q_269
    have ne_279 : @Ne Nat a_203 a_270 := F_274.2.2.2.2.2.2.2.2
    have lt_280 : @LT.lt Nat _ a_203 (Array.size h_265) := F_274.lt1
    have lt_281 : @LT.lt Nat _ a_270 (Array.size h_265) := F_274.lt2
    have lt_282 : @LT.lt Nat _ a_270 (Array.size h_265) := F_275.lt
    show Run p l e _ s m _ below meth c Z EL1 _ n0 bk_237 h_265 6 237 (mkF m 19 #[.val (.ref b)] [(.ref a_203), (.int (400 : Int32)), (.ref a_192), (.ref a_192)]) _
    have hA := P_276
    rw [len1, show (([] : List Int32)).length = 0 from rfl] at hA
    refine k_pure (g' := (mkF m 20 #[.val (.ref b)] [(.ref b), (.ref a_203), (.int (400 : Int32)), (.ref a_192), (.ref a_192)])) (fun _ J _ j => XS.aloadN J hx rfl (hb hby d395) rfl rfl j) ?_
    have F_283 : StrL Z h_265 b t2 kb2 ds := (((((pf_0.ext E_195).ext E_206).keep K_224 (ninS (ne_ad (by omega)) nin0) (ninS (ne_ad (by omega)) nin0)).ext E_236).keep K_273 (ninS (ne_ad (by omega)) nin0) (ninS (ne_ad (by omega)) nin0))
    refine k_callV hx (y := (⟨"java/lang/StringBuilder", "append", "(Ljava/lang/String;)Ljava/lang/StringBuilder;"⟩ : MethodName)) (z := (⟨"java/lang/StringBuilder", "append", "(Ljava/lang/String;)Ljava/lang/StringBuilder;"⟩ : MethodName)) (wT 47 rfl) (wT 48 rfl) (fun s' hZ => notFace_of_selects (args := #[]) (mv hZ (wT 50 rfl))) (wT 50 rfl) (wT 49 rfl) (by decide) (W := 3) (a := a_203) (argsL := [(.ref b)]) (rest := [(.int (400 : Int32)), (.ref a_192), (.ref a_192)]) (Pays.of_met (rm_sbaps l Z a0 G1 G3 us ss hX hY n0 bk_237 h_265 O_267 a_203 a_270 k_271 e_272 (([] : List Int32) ++ lit1) b t2 kb2 ds F_274 F_283 (by rw [lA]; omega) (by omega) (by omega) (by omega) (by omega) nb_258 P_278 (by omega) (by omega) []) (wT 51 rfl) (wT 30 rfl) (by decide) (by decide)) F_274.1 rfl (by rw [hml]; rfl) (lenOf pd__28_Ljava_2f_lang_2f_String_3b__29_Ljava_2f_lang_2f_StringBuilder_3b_ rfl) rfl (by show 2 * 0 + _ ≤ _; exact Nat.le_of_eq rfl) (hb hby d396) (by decide) (by decide) ?_
    intro v_284 h_285 bk_286 O_287 z_288 Q_289
    obtain ⟨rfl, rfl, K_290, F_291⟩ := Q_289
    have ne_292 : @Ne Nat a_203 a_270 := F_291.2.2.2.2.2.2.2.2
    have lt_293 : @LT.lt Nat _ a_203 (Array.size h_285) := F_291.lt1
    have lt_294 : @LT.lt Nat _ a_270 (Array.size h_285) := F_291.lt2
    show Run p l e _ s m _ below meth c Z EL1 _ n0 bk_237 h_285 6 237 (mkF m 23 #[.val (.ref b)] [(.ref a_203), (.int (400 : Int32)), (.ref a_192), (.ref a_192)]) _
    refine k_ldcC hx (wT 118 rfl) hSA (by decide +kernel) (z := (Int32.ofNat lit2.length)) (vs := (lit2.map (fun c => c.toInt8.toInt32)).map Value.int) (by decide +kernel) (by decide) (by decide +kernel) rfl (hb hby d397) (n := 52) (by decide +kernel) (by decide) (by decide) (by decide) ?_
    intro h_295 a_296 a_301 k_302 bk_299 O_297 E_298 hbk_300 X_303 F_304 F_305 V_306 nl_307
    have z_308 := E_298.1
    have lt_309 : @LT.lt Nat _ a_296 (Array.size h_295) := X_303.lt
    have lt_310 : @LT.lt Nat _ a_301 (Array.size h_295) := V_306.lt
    have ne_311 : @Ne Nat a_192 a_296 := (nl_307 a_192 (show @LT.lt Nat _ a_192 (Array.size h_285) by omega) nb_257).1
    have ne_312 : @Ne Nat a_192 a_301 := (nl_307 a_192 (show @LT.lt Nat _ a_192 (Array.size h_285) by omega) nb_257).2
    have ne_313 : @Ne Nat a_203 a_296 := (nl_307 a_203 (show @LT.lt Nat _ a_203 (Array.size h_285) by omega) nb_258).1
    have ne_314 : @Ne Nat a_203 a_301 := (nl_307 a_203 (show @LT.lt Nat _ a_203 (Array.size h_285) by omega) nb_258).2
    have ne_315 : @Ne Nat a_222 a_296 := (nl_307 a_222 (show @LT.lt Nat _ a_222 (Array.size h_285) by omega) nb_259).1
    have ne_316 : @Ne Nat a_222 a_301 := (nl_307 a_222 (show @LT.lt Nat _ a_222 (Array.size h_285) by omega) nb_259).2
    have ne_317 : @Ne Nat a_270 a_296 := (nl_307 a_270 (show @LT.lt Nat _ a_270 (Array.size h_285) by omega) P_278).1
    have ne_318 : @Ne Nat a_270 a_301 := (nl_307 a_270 (show @LT.lt Nat _ a_270 (Array.size h_285) by omega) P_278).2
    have S_319 : StrL Z h_295 a_296 a_301 k_302 lit2 := ⟨X_303, F_304, F_305, V_306, bd2, by decide⟩
    have hbl_320 : ∀ y, bk_237 y → @LT.lt Nat _ y (Array.size h_285) := fun y q => Nat.lt_of_lt_of_le (hbl_260 y q) (by omega)
    have nb_321 : ¬ bk_299 a_192 := fun q => (hbk_300 _ q).elim nb_257 (fun r => Nat.not_le_of_lt (show @LT.lt Nat _ a_192 (Array.size h_285) by omega) r.1)
    have nb_322 : ¬ bk_299 a_203 := fun q => (hbk_300 _ q).elim nb_258 (fun r => Nat.not_le_of_lt (show @LT.lt Nat _ a_203 (Array.size h_285) by omega) r.1)
    have nb_323 : ¬ bk_299 a_222 := fun q => (hbk_300 _ q).elim nb_259 (fun r => Nat.not_le_of_lt (show @LT.lt Nat _ a_222 (Array.size h_285) by omega) r.1)
    have nb_324 : ¬ bk_299 a_270 := fun q => (hbk_300 _ q).elim P_278 (fun r => Nat.not_le_of_lt (show @LT.lt Nat _ a_270 (Array.size h_285) by omega) r.1)
    have hbl_325 : ∀ y, bk_299 y → @LT.lt Nat _ y (Array.size h_295) := fun y q => (hbk_300 y q).elim (fun r => Nat.lt_of_lt_of_le (hbl_320 y r) (by omega)) (fun r => r.2)
    have hbs_326 : ∀ y, bk_299 y → bk y ∨ (@LE.le Nat _ (Array.size h0) y ∧ @LT.lt Nat _ y (Array.size h_295)) := fun y q => (hbk_300 y q).elim (fun r => (hbs_261 y r).imp id (fun t => ⟨t.1, Nat.lt_of_lt_of_le t.2 (by omega)⟩)) (fun r => Or.inr ⟨Nat.le_trans (by omega) r.1, r.2⟩)
    show Run p l e _ s m _ below meth c Z EL1 _ n0 bk_299 h_295 8 293 (mkF m 25 #[.val (.ref b)] [(.ref a_296), (.ref a_203), (.int (400 : Int32)), (.ref a_192), (.ref a_192)]) _
    have F_327 : SbL Z h_295 a_203 a_270 k_271 e_272 ((([] : List Int32) ++ lit1) ++ ds) := (F_291.ext E_298)
    have F_328 : Exa Z h_295 a_203 "java/lang/StringBuilder" := (F_291.1.ext E_298)
    refine k_callV hx (y := (⟨"java/lang/StringBuilder", "append", "(Ljava/lang/String;)Ljava/lang/StringBuilder;"⟩ : MethodName)) (z := (⟨"java/lang/StringBuilder", "append", "(Ljava/lang/String;)Ljava/lang/StringBuilder;"⟩ : MethodName)) (wT 47 rfl) (wT 48 rfl) (fun s' hZ => notFace_of_selects (args := #[]) (mv hZ (wT 50 rfl))) (wT 50 rfl) (wT 49 rfl) (by decide) (W := 3) (a := a_203) (argsL := [(.ref a_296)]) (rest := [(.int (400 : Int32)), (.ref a_192), (.ref a_192)]) (Pays.of_met (rm_sbaps l Z a0 G1 G3 us ss hX hY n0 bk_299 h_295 O_297 a_203 a_270 k_271 e_272 ((([] : List Int32) ++ lit1) ++ ds) a_296 a_301 k_302 lit2 F_327 S_319 (by rw [lB, len2]; omega) (by omega) (by omega) (by omega) (by omega) nb_322 nb_324 (by omega) (by omega) []) (wT 51 rfl) (wT 30 rfl) (by decide) (by decide)) F_328 rfl (by rw [hml]; rfl) (lenOf pd__28_Ljava_2f_lang_2f_String_3b__29_Ljava_2f_lang_2f_StringBuilder_3b_ rfl) rfl (by show 2 * 0 + _ ≤ _; exact Nat.le_of_eq rfl) (hb hby d398) (by decide) (by decide) ?_
    intro v_329 h_330 bk_331 O_332 z_333 Q_334
    obtain ⟨rfl, rfl, K_335, F_336⟩ := Q_334
    have ne_337 : @Ne Nat a_203 a_270 := F_336.2.2.2.2.2.2.2.2
    have lt_338 : @LT.lt Nat _ a_203 (Array.size h_330) := F_336.lt1
    have lt_339 : @LT.lt Nat _ a_270 (Array.size h_330) := F_336.lt2
    show Run p l e _ s m _ below meth c Z EL1 _ n0 bk_299 h_330 8 293 (mkF m 28 #[.val (.ref b)] [(.ref a_203), (.int (400 : Int32)), (.ref a_192), (.ref a_192)]) _
    have F_340 : Exa Z h_330 a_270 "[B" := (((F_275.keep K_290).ext E_298).keep K_335)
    have hbl_341 : ∀ y, bk_299 y → @LT.lt Nat _ y (Array.size h_330) := fun y q => Nat.lt_of_lt_of_le (hbl_325 y q) (by omega)
    refine k_callV hx (y := (⟨"java/lang/StringBuilder", "toString", "()Ljava/lang/String;"⟩ : MethodName)) (z := (⟨"java/lang/StringBuilder", "toString", "()Ljava/lang/String;"⟩ : MethodName)) (wT 119 rfl) (wT 120 rfl) (fun s' hZ => notFace_of_selects (args := #[]) (mv hZ (wT 122 rfl))) (wT 122 rfl) (wT 121 rfl) (by decide) (W := 3) (a := a_203) (argsL := []) (rest := [(.int (400 : Int32)), (.ref a_192), (.ref a_192)]) (Pays.of_met (rm_sts_1 l Z a0 G1 G3 us ss hX hY n0 bk_299 h_330 O_332 a_203 a_270 k_271 e_272 (((([] : List Int32) ++ lit1) ++ ds) ++ lit2) F_336 F_340 (by rw [lC]; omega) (by rw [lC]; omega) hbl_341 []) (wT 123 rfl) (wT 30 rfl) (by decide) (by decide)) F_336.1 rfl (by rw [hml]; rfl) (lenOf pd__28__29_Ljava_2f_lang_2f_String_3b_ rfl) rfl (by show 2 * 0 + _ ≤ _; exact Nat.le_of_eq rfl) (hb hby d399) (by decide) (by decide) ?_
    intro v_342 h_343 bk_344 O_345 z_346 Q_347
    obtain ⟨a_348, a_349, k_350, rfl, rfl, K_351, F_352, P_353, P_354⟩ := Q_347
    have lt_355 : @LT.lt Nat _ a_348 (Array.size h_343) := F_352.lt1
    have lt_356 : @LT.lt Nat _ a_349 (Array.size h_343) := F_352.lt2
    show Run p l e _ s m _ below meth c Z EL1 _ n0 bk_299 h_343 10 337 (mkF m 31 #[.val (.ref b)] [(.ref a_348), (.int (400 : Int32)), (.ref a_192), (.ref a_192)]) _
    have F_357 : Exa Z h_343 a_192 "com/example/lidmaat/lidmaat/http/Refusal" := ((((((((A_196.ext E_206).keep K_224).ext E_236).keep K_273).keep K_290).ext E_298).keep K_335).keep K_351)
    have F_358 : Unt h_343 a_192 := (((((((((show Unt h_193 a_192 from U_198).ext E_206).keep K_224 (ninS (ne_ad (by omega)) nin0)).ext E_236).keep K_273 (ninS (ne_ad (by omega)) nin0)).keep K_290 (ninS (ne_ad (by omega)) (ninS (ne_ad (by omega)) nin0))).ext E_298).keep K_335 (ninS (ne_ad (by omega)) (ninS (ne_ad (by omega)) nin0))).keep K_351 nin0)
    have F_359 : Fld Z h_343 a_192 "java/lang/Throwable" "cause" "Ljava/lang/Throwable;" .null := (((((((((D_197 (Or.inl (wT 174 rfl)) (ty := (.object "java/lang/Throwable")) (by decide)).ext E_206).keep K_224 (ninS (ne_ad (by omega)) nin0)).ext E_236).keep K_273 (ninS (ne_ad (by omega)) nin0)).keep K_290 (ninS (ne_ad (by omega)) (ninS (ne_ad (by omega)) nin0))).ext E_298).keep K_335 (ninS (ne_ad (by omega)) (ninS (ne_ad (by omega)) nin0))).keep K_351 nin0)
    have F_360 : Fld Z h_343 a_192 "java/lang/Throwable" "stackTrace" "[Ljava/lang/StackTraceElement;" .null := (((((((((D_197 (Or.inl (wT 177 rfl)) (ty := (.array (.object "java/lang/StackTraceElement"))) (by decide)).ext E_206).keep K_224 (ninS (ne_ad (by omega)) nin0)).ext E_236).keep K_273 (ninS (ne_ad (by omega)) nin0)).keep K_290 (ninS (ne_ad (by omega)) (ninS (ne_ad (by omega)) nin0))).ext E_298).keep K_335 (ninS (ne_ad (by omega)) (ninS (ne_ad (by omega)) nin0))).keep K_351 nin0)
    have F_361 : Fld Z h_343 a_192 "java/lang/Throwable" "suppressedExceptions" "Ljava/util/List;" .null := (((((((((D_197 (Or.inl (wT 180 rfl)) (ty := (.object "java/util/List")) (by decide)).ext E_206).keep K_224 (ninS (ne_ad (by omega)) nin0)).ext E_236).keep K_273 (ninS (ne_ad (by omega)) nin0)).keep K_290 (ninS (ne_ad (by omega)) (ninS (ne_ad (by omega)) nin0))).ext E_298).keep K_335 (ninS (ne_ad (by omega)) (ninS (ne_ad (by omega)) nin0))).keep K_351 nin0)
    have F_362 : Fld Z h_343 a_192 "java/lang/Throwable" "detailMessage" "Ljava/lang/String;" .null := (((((((((D_197 (Or.inl (wT 182 rfl)) (ty := (.object "java/lang/String")) (by decide)).ext E_206).keep K_224 (ninS (ne_ad (by omega)) nin0)).ext E_236).keep K_273 (ninS (ne_ad (by omega)) nin0)).keep K_290 (ninS (ne_ad (by omega)) (ninS (ne_ad (by omega)) nin0))).ext E_298).keep K_335 (ninS (ne_ad (by omega)) (ninS (ne_ad (by omega)) nin0))).keep K_351 nin0)
    have F_363 : Fld Z h_343 a_192 "com/example/lidmaat/lidmaat/http/Refusal" "status" "I" (.int (0 : Int32)) := (((((((((D_197 (Or.inr (wT 184 rfl)) (ty := .int) (by decide)).ext E_206).keep K_224 (ninS (ne_ad (by omega)) nin0)).ext E_236).keep K_273 (ninS (ne_ad (by omega)) nin0)).keep K_290 (ninS (ne_ad (by omega)) (ninS (ne_ad (by omega)) nin0))).ext E_298).keep K_335 (ninS (ne_ad (by omega)) (ninS (ne_ad (by omega)) nin0))).keep K_351 nin0)
    refine k_callI hx (y := (⟨"com/example/lidmaat/lidmaat/http/Refusal", "<init>", "(ILjava/lang/String;)V"⟩ : MethodName)) rfl (wT 158 rfl) (wT 159 rfl) (wT 160 rfl) (by decide) (W := 1) (a := a_192) (argsL := [(.int (400 : Int32)), (.ref a_348)]) (rest := [(.ref a_192)]) (Pays.of_met (rm_rin l Z a0 G1 G3 us ss hX hY n0 bk_299 h_343 O_345 a_192 (400 : Int32) a_348 F_357 F_358 F_359 F_360 F_361 F_362 F_363 nb_321 (by omega) []) (wT 160 rfl) (wT 24 rfl) (by decide) (by decide)) rfl (by rw [hml]; rfl) (lenOf pd__28_ILjava_2f_lang_2f_String_3b__29_V rfl) rfl (by show 2 * 0 + _ ≤ _; exact Nat.le_of_eq rfl) (hb hby d400) (by decide) (by decide) ?_
    intro v_364 h_365 bk_366 O_367 z_368 Q_369
    obtain ⟨rfl, rfl, K_370, F_371, F_372, F_373, F_374, F_375⟩ := Q_369
    have lt_376 : @LT.lt Nat _ a_192 (Array.size h_365) := F_371.lt
    have lt_377 : @LT.lt Nat _ a_192 (Array.size h_365) := F_373.lt
    have lt_378 : @LT.lt Nat _ a_192 (Array.size h_365) := F_374.lt
    have lt_379 : @LT.lt Nat _ a_192 (Array.size h_365) := F_375.lt
    show Run p l e _ s m _ below meth c Z EL1 _ n0 bk_299 h_365 10 337 (mkF m 34 #[.val (.ref b)] [(.ref a_192)]) _
    have F_380 : StrL Z h_365 a_348 a_349 k_350 (((([] : List Int32) ++ lit1) ++ ds) ++ lit2) := (F_352.keep K_370 (ninS (ne_ad (by omega)) nin0) (ninS (ne_ad (by omega)) nin0))
    exact k_retA hx hlk hret rfl rfl rfl (hb hby d401) (by decide) (by decide) ⟨a_192, a_348, a_349, k_350, rfl, (fun y q => (hbs_326 y q).imp id (fun t => ⟨t.1, Nat.lt_of_lt_of_le t.2 (by omega)⟩)), (((((((((((Keep.refl _ _).ext E_195).ext E_206).trans K_224 (kkS (Or.inr (by omega)) kk0)).ext E_236).trans K_273 (kkS (Or.inr (by omega)) kk0)).trans K_290 (kkS (Or.inr (by omega)) (kkS (Or.inr (by omega)) kk0))).ext E_298).trans K_335 (kkS (Or.inr (by omega)) (kkS (Or.inr (by omega)) kk0))).trans K_351 kk0).trans K_370 (kkS (Or.inr (by omega)) kk0)), F_371, F_372, F_373, F_374, F_375, F_380⟩
  · show Run p l e _ s m _ below meth c Z EL1 _ n0 bk h0 0 0 (mkF m 0 #[.val (.ref b)] []) _
    refine k_newO hx (wT 26 rfl) (wT 27 rfl) (wT 24 rfl) rfl (hb hby d387) (by decide) (by decide) ?_
    intro h_382 a_381 g_388 O_383 E_384 A_385 D_386 U_387
    have z_389 := E_384.1
    have lt_390 : @LT.lt Nat _ a_381 (Array.size h_382) := A_385.lt
    have nb_391 : ¬ bk a_381 := fun q => Nat.not_le_of_lt (hbl _ q) (show @LE.le Nat _ (Array.size h0) a_381 by omega)
    show Run p l e _ s m _ below meth c Z EL1 _ n0 bk h_382 1 7 (mkF m 3 #[.val (.ref b)] [(.ref a_381)]) _
    refine k_pure (g' := (mkF m 4 #[.val (.ref b)] [(.ref a_381), (.ref a_381)])) (fun _ J _ j => XS.dup J hx rfl (hb hby d388) rfl rfl j) ?_
    refine k_pure (g' := (mkF m 7 #[.val (.ref b)] [(.int (400 : Int32)), (.ref a_381), (.ref a_381)])) (fun _ J _ j => XS.sipush J hx rfl (hb hby d389) j) ?_
    refine k_newO hx (wT 28 rfl) (wT 29 rfl) (wT 30 rfl) rfl (hb hby d390) (by decide) (by decide) ?_
    intro h_393 a_392 g_399 O_394 E_395 A_396 D_397 U_398
    have z_400 := E_395.1
    have lt_401 : @LT.lt Nat _ a_392 (Array.size h_393) := A_396.lt
    have hbl_402 : ∀ y, bk y → @LT.lt Nat _ y (Array.size h_382) := fun y q => Nat.lt_of_lt_of_le (hbl y q) (by omega)
    have nb_403 : ¬ bk a_392 := fun q => Nat.not_le_of_lt (hbl_402 _ q) (show @LE.le Nat _ (Array.size h_382) a_392 by omega)
    show Run p l e _ s m _ below meth c Z EL1 _ n0 bk h_393 2 11 (mkF m 10 #[.val (.ref b)] [(.ref a_392), (.int (400 : Int32)), (.ref a_381), (.ref a_381)]) _
    refine k_pure (g' := (mkF m 11 #[.val (.ref b)] [(.ref a_392), (.ref a_392), (.int (400 : Int32)), (.ref a_381), (.ref a_381)])) (fun _ J _ j => XS.dup J hx rfl (hb hby d391) rfl rfl j) ?_
    have hbl_404 : ∀ y, bk y → @LT.lt Nat _ y (Array.size h_393) := fun y q => Nat.lt_of_lt_of_le (hbl_402 y q) (by omega)
    refine k_callI hx (y := (⟨"java/lang/StringBuilder", "<init>", "()V"⟩ : MethodName)) rfl (wT 31 rfl) (wT 32 rfl) (wT 33 rfl) (by decide) (W := 4) (a := a_392) (argsL := []) (rest := [(.ref a_392), (.int (400 : Int32)), (.ref a_381), (.ref a_381)]) (Pays.of_met (rm_sbi l Z a0 G1 G3 us ss hX hY n0 bk h_393 O_394 a_392 A_396 (D_397 (Or.inl (wT 43 rfl)) (ty := (.array .byte)) (by decide)) (D_397 (Or.inl (wT 45 rfl)) (ty := .byte) (by decide)) (D_397 (Or.inl (wT 69 rfl)) (ty := .int) (by decide)) hbl_404 nb_403 (by omega) []) (wT 33 rfl) (wT 30 rfl) (by decide) (by decide)) rfl (by rw [hml]; rfl) (lenOf pd__28__29_V rfl) rfl (by show 2 * 0 + _ ≤ _; exact Nat.le_of_eq rfl) (hb hby d392) (by decide) (by decide) ?_
    intro v_405 h_406 bk_407 O_408 z_409 Q_410
    obtain ⟨a_411, k_412, rfl, rfl, K_413, F_414, F_415, P_416, P_417⟩ := Q_410
    have ne_418 : @Ne Nat a_392 a_411 := F_414.2.2.2.2.2.2.2.2
    have lt_419 : @LT.lt Nat _ a_392 (Array.size h_406) := F_414.lt1
    have lt_420 : @LT.lt Nat _ a_411 (Array.size h_406) := F_414.lt2
    have lt_421 : @LT.lt Nat _ a_411 (Array.size h_406) := F_415.lt
    show Run p l e _ s m _ below meth c Z EL1 _ n0 bk h_406 3 27 (mkF m 14 #[.val (.ref b)] [(.ref a_392), (.int (400 : Int32)), (.ref a_381), (.ref a_381)]) _
    refine k_ldcC hx (wT 46 rfl) hSA (by decide +kernel) (z := (Int32.ofNat lit1.length)) (vs := (lit1.map (fun c => c.toInt8.toInt32)).map Value.int) (by decide +kernel) (by decide) (by decide +kernel) rfl (hb hby d393) (n := 76) (by decide +kernel) (by decide) (by decide) (by decide) ?_
    intro h_422 a_423 a_428 k_429 bk_426 O_424 E_425 hbk_427 X_430 F_431 F_432 V_433 nl_434
    have z_435 := E_425.1
    have lt_436 : @LT.lt Nat _ a_423 (Array.size h_422) := X_430.lt
    have lt_437 : @LT.lt Nat _ a_428 (Array.size h_422) := V_433.lt
    have ne_438 : @Ne Nat a_381 a_423 := (nl_434 a_381 (show @LT.lt Nat _ a_381 (Array.size h_406) by omega) nb_391).1
    have ne_439 : @Ne Nat a_381 a_428 := (nl_434 a_381 (show @LT.lt Nat _ a_381 (Array.size h_406) by omega) nb_391).2
    have ne_440 : @Ne Nat a_392 a_423 := (nl_434 a_392 (show @LT.lt Nat _ a_392 (Array.size h_406) by omega) nb_403).1
    have ne_441 : @Ne Nat a_392 a_428 := (nl_434 a_392 (show @LT.lt Nat _ a_392 (Array.size h_406) by omega) nb_403).2
    have ne_442 : @Ne Nat a_411 a_423 := (nl_434 a_411 (show @LT.lt Nat _ a_411 (Array.size h_406) by omega) P_417).1
    have ne_443 : @Ne Nat a_411 a_428 := (nl_434 a_411 (show @LT.lt Nat _ a_411 (Array.size h_406) by omega) P_417).2
    have S_444 : StrL Z h_422 a_423 a_428 k_429 lit1 := ⟨X_430, F_431, F_432, V_433, bd1, by decide⟩
    have hbl_445 : ∀ y, bk y → @LT.lt Nat _ y (Array.size h_406) := fun y q => Nat.lt_of_lt_of_le (hbl_404 y q) (by omega)
    have nb_446 : ¬ bk_426 a_381 := fun q => (hbk_427 _ q).elim nb_391 (fun r => Nat.not_le_of_lt (show @LT.lt Nat _ a_381 (Array.size h_406) by omega) r.1)
    have nb_447 : ¬ bk_426 a_392 := fun q => (hbk_427 _ q).elim nb_403 (fun r => Nat.not_le_of_lt (show @LT.lt Nat _ a_392 (Array.size h_406) by omega) r.1)
    have nb_448 : ¬ bk_426 a_411 := fun q => (hbk_427 _ q).elim P_417 (fun r => Nat.not_le_of_lt (show @LT.lt Nat _ a_411 (Array.size h_406) by omega) r.1)
    have hbl_449 : ∀ y, bk_426 y → @LT.lt Nat _ y (Array.size h_422) := fun y q => (hbk_427 y q).elim (fun r => Nat.lt_of_lt_of_le (hbl_445 y r) (by omega)) (fun r => r.2)
    have hbs_450 : ∀ y, bk_426 y → bk y ∨ (@LE.le Nat _ (Array.size h0) y ∧ @LT.lt Nat _ y (Array.size h_422)) := fun y q => (hbk_427 y q).imp id (fun r => ⟨Nat.le_trans (by omega) r.1, r.2⟩)
    show Run p l e _ s m _ below meth c Z EL1 _ n0 bk_426 h_422 5 107 (mkF m 16 #[.val (.ref b)] [(.ref a_423), (.ref a_392), (.int (400 : Int32)), (.ref a_381), (.ref a_381)]) _
    have F_451 : SbL Z h_422 a_392 a_411 k_412 16 ([] : List Int32) := (F_414.ext E_425)
    have F_452 : Exa Z h_422 a_392 "java/lang/StringBuilder" := (F_414.1.ext E_425)
    refine k_callV hx (y := (⟨"java/lang/StringBuilder", "append", "(Ljava/lang/String;)Ljava/lang/StringBuilder;"⟩ : MethodName)) (z := (⟨"java/lang/StringBuilder", "append", "(Ljava/lang/String;)Ljava/lang/StringBuilder;"⟩ : MethodName)) (wT 47 rfl) (wT 48 rfl) (fun s' hZ => notFace_of_selects (args := #[]) (mv hZ (wT 50 rfl))) (wT 50 rfl) (wT 49 rfl) (by decide) (W := 3) (a := a_392) (argsL := [(.ref a_423)]) (rest := [(.int (400 : Int32)), (.ref a_381), (.ref a_381)]) (Pays.of_met (rm_sbapg l Z a0 G1 G3 us ss hX hY n0 bk_426 h_422 O_424 a_392 a_411 k_412 16 ([] : List Int32) a_423 a_428 k_429 lit1 F_451 S_444 (by rw [len1]; decide) (by rw [len1]; decide) hbl_449 (by omega) (by omega) (by omega) (by omega) nb_447 nb_448 (by omega) (by omega) []) (wT 51 rfl) (wT 30 rfl) (by decide) (by decide)) F_452 rfl (by rw [hml]; rfl) (lenOf pd__28_Ljava_2f_lang_2f_String_3b__29_Ljava_2f_lang_2f_StringBuilder_3b_ rfl) rfl (by show 2 * 0 + _ ≤ _; exact Nat.le_of_eq rfl) (hb hby d394) (by decide) (by decide) ?_
    intro v_453 h_454 bk_455 O_456 z_457 Q_458
    obtain ⟨a_459, k_460, e_461, rfl, rfl, K_462, F_463, F_464, P_465, P_466, P_467⟩ := Q_458
    have ne_468 : @Ne Nat a_392 a_459 := F_463.2.2.2.2.2.2.2.2
    have lt_469 : @LT.lt Nat _ a_392 (Array.size h_454) := F_463.lt1
    have lt_470 : @LT.lt Nat _ a_459 (Array.size h_454) := F_463.lt2
    have lt_471 : @LT.lt Nat _ a_459 (Array.size h_454) := F_464.lt
    show Run p l e _ s m _ below meth c Z EL1 _ n0 bk_426 h_454 6 237 (mkF m 19 #[.val (.ref b)] [(.ref a_392), (.int (400 : Int32)), (.ref a_381), (.ref a_381)]) _
    have hA := P_465
    rw [len1, show (([] : List Int32)).length = 0 from rfl] at hA
    refine k_pure (g' := (mkF m 20 #[.val (.ref b)] [(.ref b), (.ref a_392), (.int (400 : Int32)), (.ref a_381), (.ref a_381)])) (fun _ J _ j => XS.aloadN J hx rfl (hb hby d395) rfl rfl j) ?_
    have F_472 : StrL Z h_454 b t2 kb2 ds := (((((pf_0.ext E_384).ext E_395).keep K_413 (ninS (ne_ad (by omega)) nin0) (ninS (ne_ad (by omega)) nin0)).ext E_425).keep K_462 (ninS (ne_ad (by omega)) nin0) (ninS (ne_ad (by omega)) nin0))
    refine k_callV hx (y := (⟨"java/lang/StringBuilder", "append", "(Ljava/lang/String;)Ljava/lang/StringBuilder;"⟩ : MethodName)) (z := (⟨"java/lang/StringBuilder", "append", "(Ljava/lang/String;)Ljava/lang/StringBuilder;"⟩ : MethodName)) (wT 47 rfl) (wT 48 rfl) (fun s' hZ => notFace_of_selects (args := #[]) (mv hZ (wT 50 rfl))) (wT 50 rfl) (wT 49 rfl) (by decide) (W := 3) (a := a_392) (argsL := [(.ref b)]) (rest := [(.int (400 : Int32)), (.ref a_381), (.ref a_381)]) (Pays.of_met (rm_sbaps l Z a0 G1 G3 us ss hX hY n0 bk_426 h_454 O_456 a_392 a_459 k_460 e_461 (([] : List Int32) ++ lit1) b t2 kb2 ds F_463 F_472 (by rw [lA]; omega) (by omega) (by omega) (by omega) (by omega) nb_447 P_467 (by omega) (by omega) []) (wT 51 rfl) (wT 30 rfl) (by decide) (by decide)) F_463.1 rfl (by rw [hml]; rfl) (lenOf pd__28_Ljava_2f_lang_2f_String_3b__29_Ljava_2f_lang_2f_StringBuilder_3b_ rfl) rfl (by show 2 * 0 + _ ≤ _; exact Nat.le_of_eq rfl) (hb hby d396) (by decide) (by decide) ?_
    intro v_473 h_474 bk_475 O_476 z_477 Q_478
    obtain ⟨rfl, rfl, K_479, F_480⟩ := Q_478
    have ne_481 : @Ne Nat a_392 a_459 := F_480.2.2.2.2.2.2.2.2
    have lt_482 : @LT.lt Nat _ a_392 (Array.size h_474) := F_480.lt1
    have lt_483 : @LT.lt Nat _ a_459 (Array.size h_474) := F_480.lt2
    show Run p l e _ s m _ below meth c Z EL1 _ n0 bk_426 h_474 6 237 (mkF m 23 #[.val (.ref b)] [(.ref a_392), (.int (400 : Int32)), (.ref a_381), (.ref a_381)]) _
    refine k_ldcC hx (wT 118 rfl) hSA (by decide +kernel) (z := (Int32.ofNat lit2.length)) (vs := (lit2.map (fun c => c.toInt8.toInt32)).map Value.int) (by decide +kernel) (by decide) (by decide +kernel) rfl (hb hby d397) (n := 52) (by decide +kernel) (by decide) (by decide) (by decide) ?_
    intro h_484 a_485 a_490 k_491 bk_488 O_486 E_487 hbk_489 X_492 F_493 F_494 V_495 nl_496
    have z_497 := E_487.1
    have lt_498 : @LT.lt Nat _ a_485 (Array.size h_484) := X_492.lt
    have lt_499 : @LT.lt Nat _ a_490 (Array.size h_484) := V_495.lt
    have ne_500 : @Ne Nat a_381 a_485 := (nl_496 a_381 (show @LT.lt Nat _ a_381 (Array.size h_474) by omega) nb_446).1
    have ne_501 : @Ne Nat a_381 a_490 := (nl_496 a_381 (show @LT.lt Nat _ a_381 (Array.size h_474) by omega) nb_446).2
    have ne_502 : @Ne Nat a_392 a_485 := (nl_496 a_392 (show @LT.lt Nat _ a_392 (Array.size h_474) by omega) nb_447).1
    have ne_503 : @Ne Nat a_392 a_490 := (nl_496 a_392 (show @LT.lt Nat _ a_392 (Array.size h_474) by omega) nb_447).2
    have ne_504 : @Ne Nat a_411 a_485 := (nl_496 a_411 (show @LT.lt Nat _ a_411 (Array.size h_474) by omega) nb_448).1
    have ne_505 : @Ne Nat a_411 a_490 := (nl_496 a_411 (show @LT.lt Nat _ a_411 (Array.size h_474) by omega) nb_448).2
    have ne_506 : @Ne Nat a_459 a_485 := (nl_496 a_459 (show @LT.lt Nat _ a_459 (Array.size h_474) by omega) P_467).1
    have ne_507 : @Ne Nat a_459 a_490 := (nl_496 a_459 (show @LT.lt Nat _ a_459 (Array.size h_474) by omega) P_467).2
    have S_508 : StrL Z h_484 a_485 a_490 k_491 lit2 := ⟨X_492, F_493, F_494, V_495, bd2, by decide⟩
    have hbl_509 : ∀ y, bk_426 y → @LT.lt Nat _ y (Array.size h_474) := fun y q => Nat.lt_of_lt_of_le (hbl_449 y q) (by omega)
    have nb_510 : ¬ bk_488 a_381 := fun q => (hbk_489 _ q).elim nb_446 (fun r => Nat.not_le_of_lt (show @LT.lt Nat _ a_381 (Array.size h_474) by omega) r.1)
    have nb_511 : ¬ bk_488 a_392 := fun q => (hbk_489 _ q).elim nb_447 (fun r => Nat.not_le_of_lt (show @LT.lt Nat _ a_392 (Array.size h_474) by omega) r.1)
    have nb_512 : ¬ bk_488 a_411 := fun q => (hbk_489 _ q).elim nb_448 (fun r => Nat.not_le_of_lt (show @LT.lt Nat _ a_411 (Array.size h_474) by omega) r.1)
    have nb_513 : ¬ bk_488 a_459 := fun q => (hbk_489 _ q).elim P_467 (fun r => Nat.not_le_of_lt (show @LT.lt Nat _ a_459 (Array.size h_474) by omega) r.1)
    have hbl_514 : ∀ y, bk_488 y → @LT.lt Nat _ y (Array.size h_484) := fun y q => (hbk_489 y q).elim (fun r => Nat.lt_of_lt_of_le (hbl_509 y r) (by omega)) (fun r => r.2)
    have hbs_515 : ∀ y, bk_488 y → bk y ∨ (@LE.le Nat _ (Array.size h0) y ∧ @LT.lt Nat _ y (Array.size h_484)) := fun y q => (hbk_489 y q).elim (fun r => (hbs_450 y r).imp id (fun t => ⟨t.1, Nat.lt_of_lt_of_le t.2 (by omega)⟩)) (fun r => Or.inr ⟨Nat.le_trans (by omega) r.1, r.2⟩)
    show Run p l e _ s m _ below meth c Z EL1 _ n0 bk_488 h_484 8 293 (mkF m 25 #[.val (.ref b)] [(.ref a_485), (.ref a_392), (.int (400 : Int32)), (.ref a_381), (.ref a_381)]) _
    have F_516 : SbL Z h_484 a_392 a_459 k_460 e_461 ((([] : List Int32) ++ lit1) ++ ds) := (F_480.ext E_487)
    have F_517 : Exa Z h_484 a_392 "java/lang/StringBuilder" := (F_480.1.ext E_487)
    refine k_callV hx (y := (⟨"java/lang/StringBuilder", "append", "(Ljava/lang/String;)Ljava/lang/StringBuilder;"⟩ : MethodName)) (z := (⟨"java/lang/StringBuilder", "append", "(Ljava/lang/String;)Ljava/lang/StringBuilder;"⟩ : MethodName)) (wT 47 rfl) (wT 48 rfl) (fun s' hZ => notFace_of_selects (args := #[]) (mv hZ (wT 50 rfl))) (wT 50 rfl) (wT 49 rfl) (by decide) (W := 3) (a := a_392) (argsL := [(.ref a_485)]) (rest := [(.int (400 : Int32)), (.ref a_381), (.ref a_381)]) (Pays.of_met (rm_sbapg l Z a0 G1 G3 us ss hX hY n0 bk_488 h_484 O_486 a_392 a_459 k_460 e_461 ((([] : List Int32) ++ lit1) ++ ds) a_485 a_490 k_491 lit2 F_516 S_508 (by rw [lB, len2]; omega) (by rw [lB, len2]; omega) hbl_514 (by omega) (by omega) (by omega) (by omega) nb_511 nb_513 (by omega) (by omega) []) (wT 51 rfl) (wT 30 rfl) (by decide) (by decide)) F_517 rfl (by rw [hml]; rfl) (lenOf pd__28_Ljava_2f_lang_2f_String_3b__29_Ljava_2f_lang_2f_StringBuilder_3b_ rfl) rfl (by show 2 * 0 + _ ≤ _; exact Nat.le_of_eq rfl) (hb hby d398) (by decide) (by decide) ?_
    intro v_518 h_519 bk_520 O_521 z_522 Q_523
    obtain ⟨a_524, k_525, e_526, rfl, rfl, K_527, F_528, F_529, P_530, P_531, P_532⟩ := Q_523
    have ne_533 : @Ne Nat a_392 a_524 := F_528.2.2.2.2.2.2.2.2
    have lt_534 : @LT.lt Nat _ a_392 (Array.size h_519) := F_528.lt1
    have lt_535 : @LT.lt Nat _ a_524 (Array.size h_519) := F_528.lt2
    have lt_536 : @LT.lt Nat _ a_524 (Array.size h_519) := F_529.lt
    show Run p l e _ s m _ below meth c Z EL1 _ n0 bk_488 h_519 9 423 (mkF m 28 #[.val (.ref b)] [(.ref a_392), (.int (400 : Int32)), (.ref a_381), (.ref a_381)]) _
    have hB := P_530
    rw [lB, len2] at hB
    have hbl_537 : ∀ y, bk_488 y → @LT.lt Nat _ y (Array.size h_519) := fun y q => Nat.lt_of_lt_of_le (hbl_514 y q) (by omega)
    refine k_callV hx (y := (⟨"java/lang/StringBuilder", "toString", "()Ljava/lang/String;"⟩ : MethodName)) (z := (⟨"java/lang/StringBuilder", "toString", "()Ljava/lang/String;"⟩ : MethodName)) (wT 119 rfl) (wT 120 rfl) (fun s' hZ => notFace_of_selects (args := #[]) (mv hZ (wT 122 rfl))) (wT 122 rfl) (wT 121 rfl) (by decide) (W := 3) (a := a_392) (argsL := []) (rest := [(.int (400 : Int32)), (.ref a_381), (.ref a_381)]) (Pays.of_met (rm_sts_0 l Z a0 G1 G3 us ss hX hY n0 bk_488 h_519 O_521 a_392 a_524 k_525 e_526 (((([] : List Int32) ++ lit1) ++ ds) ++ lit2) F_528 F_529 (by rw [lC]; omega) (by rw [lC]; omega) hbl_537 []) (wT 123 rfl) (wT 30 rfl) (by decide) (by decide)) F_528.1 rfl (by rw [hml]; rfl) (lenOf pd__28__29_Ljava_2f_lang_2f_String_3b_ rfl) rfl (by show 2 * 0 + _ ≤ _; exact Nat.le_of_eq rfl) (hb hby d399) (by decide) (by decide) ?_
    intro v_538 h_539 bk_540 O_541 z_542 Q_543
    obtain ⟨a_544, a_545, k_546, rfl, rfl, K_547, F_548, P_549, P_550⟩ := Q_543
    have lt_551 : @LT.lt Nat _ a_544 (Array.size h_539) := F_548.lt1
    have lt_552 : @LT.lt Nat _ a_545 (Array.size h_539) := F_548.lt2
    show Run p l e _ s m _ below meth c Z EL1 _ n0 bk_488 h_539 11 467 (mkF m 31 #[.val (.ref b)] [(.ref a_544), (.int (400 : Int32)), (.ref a_381), (.ref a_381)]) _
    have F_553 : Exa Z h_539 a_381 "com/example/lidmaat/lidmaat/http/Refusal" := ((((((((A_385.ext E_395).keep K_413).ext E_425).keep K_462).keep K_479).ext E_487).keep K_527).keep K_547)
    have F_554 : Unt h_539 a_381 := (((((((((show Unt h_382 a_381 from U_387).ext E_395).keep K_413 (ninS (ne_ad (by omega)) nin0)).ext E_425).keep K_462 (ninS (ne_ad (by omega)) nin0)).keep K_479 (ninS (ne_ad (by omega)) (ninS (ne_ad (by omega)) nin0))).ext E_487).keep K_527 (ninS (ne_ad (by omega)) nin0)).keep K_547 nin0)
    have F_555 : Fld Z h_539 a_381 "java/lang/Throwable" "cause" "Ljava/lang/Throwable;" .null := (((((((((D_386 (Or.inl (wT 174 rfl)) (ty := (.object "java/lang/Throwable")) (by decide)).ext E_395).keep K_413 (ninS (ne_ad (by omega)) nin0)).ext E_425).keep K_462 (ninS (ne_ad (by omega)) nin0)).keep K_479 (ninS (ne_ad (by omega)) (ninS (ne_ad (by omega)) nin0))).ext E_487).keep K_527 (ninS (ne_ad (by omega)) nin0)).keep K_547 nin0)
    have F_556 : Fld Z h_539 a_381 "java/lang/Throwable" "stackTrace" "[Ljava/lang/StackTraceElement;" .null := (((((((((D_386 (Or.inl (wT 177 rfl)) (ty := (.array (.object "java/lang/StackTraceElement"))) (by decide)).ext E_395).keep K_413 (ninS (ne_ad (by omega)) nin0)).ext E_425).keep K_462 (ninS (ne_ad (by omega)) nin0)).keep K_479 (ninS (ne_ad (by omega)) (ninS (ne_ad (by omega)) nin0))).ext E_487).keep K_527 (ninS (ne_ad (by omega)) nin0)).keep K_547 nin0)
    have F_557 : Fld Z h_539 a_381 "java/lang/Throwable" "suppressedExceptions" "Ljava/util/List;" .null := (((((((((D_386 (Or.inl (wT 180 rfl)) (ty := (.object "java/util/List")) (by decide)).ext E_395).keep K_413 (ninS (ne_ad (by omega)) nin0)).ext E_425).keep K_462 (ninS (ne_ad (by omega)) nin0)).keep K_479 (ninS (ne_ad (by omega)) (ninS (ne_ad (by omega)) nin0))).ext E_487).keep K_527 (ninS (ne_ad (by omega)) nin0)).keep K_547 nin0)
    have F_558 : Fld Z h_539 a_381 "java/lang/Throwable" "detailMessage" "Ljava/lang/String;" .null := (((((((((D_386 (Or.inl (wT 182 rfl)) (ty := (.object "java/lang/String")) (by decide)).ext E_395).keep K_413 (ninS (ne_ad (by omega)) nin0)).ext E_425).keep K_462 (ninS (ne_ad (by omega)) nin0)).keep K_479 (ninS (ne_ad (by omega)) (ninS (ne_ad (by omega)) nin0))).ext E_487).keep K_527 (ninS (ne_ad (by omega)) nin0)).keep K_547 nin0)
    have F_559 : Fld Z h_539 a_381 "com/example/lidmaat/lidmaat/http/Refusal" "status" "I" (.int (0 : Int32)) := (((((((((D_386 (Or.inr (wT 184 rfl)) (ty := .int) (by decide)).ext E_395).keep K_413 (ninS (ne_ad (by omega)) nin0)).ext E_425).keep K_462 (ninS (ne_ad (by omega)) nin0)).keep K_479 (ninS (ne_ad (by omega)) (ninS (ne_ad (by omega)) nin0))).ext E_487).keep K_527 (ninS (ne_ad (by omega)) nin0)).keep K_547 nin0)
    refine k_callI hx (y := (⟨"com/example/lidmaat/lidmaat/http/Refusal", "<init>", "(ILjava/lang/String;)V"⟩ : MethodName)) rfl (wT 158 rfl) (wT 159 rfl) (wT 160 rfl) (by decide) (W := 1) (a := a_381) (argsL := [(.int (400 : Int32)), (.ref a_544)]) (rest := [(.ref a_381)]) (Pays.of_met (rm_rin l Z a0 G1 G3 us ss hX hY n0 bk_488 h_539 O_541 a_381 (400 : Int32) a_544 F_553 F_554 F_555 F_556 F_557 F_558 F_559 nb_510 (by omega) []) (wT 160 rfl) (wT 24 rfl) (by decide) (by decide)) rfl (by rw [hml]; rfl) (lenOf pd__28_ILjava_2f_lang_2f_String_3b__29_V rfl) rfl (by show 2 * 0 + _ ≤ _; exact Nat.le_of_eq rfl) (hb hby d400) (by decide) (by decide) ?_
    intro v_560 h_561 bk_562 O_563 z_564 Q_565
    obtain ⟨rfl, rfl, K_566, F_567, F_568, F_569, F_570, F_571⟩ := Q_565
    have lt_572 : @LT.lt Nat _ a_381 (Array.size h_561) := F_567.lt
    have lt_573 : @LT.lt Nat _ a_381 (Array.size h_561) := F_569.lt
    have lt_574 : @LT.lt Nat _ a_381 (Array.size h_561) := F_570.lt
    have lt_575 : @LT.lt Nat _ a_381 (Array.size h_561) := F_571.lt
    show Run p l e _ s m _ below meth c Z EL1 _ n0 bk_488 h_561 11 467 (mkF m 34 #[.val (.ref b)] [(.ref a_381)]) _
    have F_576 : StrL Z h_561 a_544 a_545 k_546 (((([] : List Int32) ++ lit1) ++ ds) ++ lit2) := (F_548.keep K_566 (ninS (ne_ad (by omega)) nin0) (ninS (ne_ad (by omega)) nin0))
    exact k_retA hx hlk hret rfl rfl rfl (hb hby d401) (by decide) (by decide) ⟨a_381, a_544, a_545, k_546, rfl, (fun y q => (hbs_515 y q).imp id (fun t => ⟨t.1, Nat.lt_of_lt_of_le t.2 (by omega)⟩)), (((((((((((Keep.refl _ _).ext E_384).ext E_395).trans K_413 (kkS (Or.inr (by omega)) kk0)).ext E_425).trans K_462 (kkS (Or.inr (by omega)) kk0)).trans K_479 (kkS (Or.inr (by omega)) (kkS (Or.inr (by omega)) kk0))).ext E_487).trans K_527 (kkS (Or.inr (by omega)) kk0)).trans K_547 kk0).trans K_566 (kkS (Or.inr (by omega)) kk0)), F_567, F_568, F_569, F_570, F_571, F_576⟩
def Q_pre (Z : State) (G1 : Int32) (G3 : Value) (us ss : Addr) (a : Addr) (t : Addr) (kb : ClassId) (cs : List Int32) (h0 : Heap) (n0 : Nat) (bk : Addr → Prop) (v : Option Value) (h : Heap) (bk' : Addr → Prop) : Prop := v = some (.int (1 : Int32)) ∧ (∀ y, bk' y → bk y ∨ (@LE.le Nat _ (Array.size h0) y ∧ @LT.lt Nat _ y (Array.size h))) ∧ Keep h0 h []
theorem d402 : decode method_3_code 0 = .ok (.new 7, 3) := by decide +kernel
theorem d403 : decode method_3_code 3 = .ok (.dup, 1) := by decide +kernel
theorem d404 : decode method_3_code 4 = .ok (.bipush 19, 2) := by decide +kernel
theorem d405 : decode method_3_code 6 = .ok (.newarray .char, 2) := by decide +kernel
theorem d406 : decode method_3_code 8 = .ok (.dup, 1) := by decide +kernel
theorem d407 : decode method_3_code 9 = .ok (.iconst 0, 1) := by decide +kernel
theorem d408 : decode method_3_code 10 = .ok (.aload_n 0, 1) := by decide +kernel
theorem d409 : decode method_3_code 11 = .ok (.iconst 0, 1) := by decide +kernel
theorem d410 : decode method_3_code 12 = .ok (.invokevirtual 43, 3) := by decide +kernel
theorem pd__28_I_29_C : parseMethodDescriptor "(I)C" = some ⟨[.int], some .char⟩ := by decide +kernel
theorem d411 : decode method_3_code 15 = .ok (.castore, 1) := by decide +kernel
theorem d412 : decode method_3_code 16 = .ok (.dup, 1) := by decide +kernel
theorem d413 : decode method_3_code 17 = .ok (.iconst 1, 1) := by decide +kernel
theorem d414 : decode method_3_code 18 = .ok (.aload_n 0, 1) := by decide +kernel
theorem d415 : decode method_3_code 19 = .ok (.iconst 1, 1) := by decide +kernel
theorem d416 : decode method_3_code 20 = .ok (.invokevirtual 43, 3) := by decide +kernel
theorem d417 : decode method_3_code 23 = .ok (.castore, 1) := by decide +kernel
theorem d418 : decode method_3_code 24 = .ok (.dup, 1) := by decide +kernel
theorem d419 : decode method_3_code 25 = .ok (.iconst 2, 1) := by decide +kernel
theorem d420 : decode method_3_code 26 = .ok (.aload_n 0, 1) := by decide +kernel
theorem d421 : decode method_3_code 27 = .ok (.iconst 2, 1) := by decide +kernel
theorem d422 : decode method_3_code 28 = .ok (.invokevirtual 43, 3) := by decide +kernel
theorem d423 : decode method_3_code 31 = .ok (.castore, 1) := by decide +kernel
theorem d424 : decode method_3_code 32 = .ok (.dup, 1) := by decide +kernel
theorem d425 : decode method_3_code 33 = .ok (.iconst 3, 1) := by decide +kernel
theorem d426 : decode method_3_code 34 = .ok (.aload_n 0, 1) := by decide +kernel
theorem d427 : decode method_3_code 35 = .ok (.iconst 3, 1) := by decide +kernel
theorem d428 : decode method_3_code 36 = .ok (.invokevirtual 43, 3) := by decide +kernel
theorem d429 : decode method_3_code 39 = .ok (.castore, 1) := by decide +kernel
theorem d430 : decode method_3_code 40 = .ok (.dup, 1) := by decide +kernel
theorem d431 : decode method_3_code 41 = .ok (.iconst 4, 1) := by decide +kernel
theorem d432 : decode method_3_code 42 = .ok (.aload_n 0, 1) := by decide +kernel
theorem d433 : decode method_3_code 43 = .ok (.iconst 4, 1) := by decide +kernel
theorem d434 : decode method_3_code 44 = .ok (.invokevirtual 43, 3) := by decide +kernel
theorem d435 : decode method_3_code 47 = .ok (.castore, 1) := by decide +kernel
theorem d436 : decode method_3_code 48 = .ok (.dup, 1) := by decide +kernel
theorem d437 : decode method_3_code 49 = .ok (.iconst 5, 1) := by decide +kernel
theorem d438 : decode method_3_code 50 = .ok (.aload_n 0, 1) := by decide +kernel
theorem d439 : decode method_3_code 51 = .ok (.iconst 5, 1) := by decide +kernel
theorem d440 : decode method_3_code 52 = .ok (.invokevirtual 43, 3) := by decide +kernel
theorem d441 : decode method_3_code 55 = .ok (.castore, 1) := by decide +kernel
theorem d442 : decode method_3_code 56 = .ok (.dup, 1) := by decide +kernel
theorem d443 : decode method_3_code 57 = .ok (.bipush 6, 2) := by decide +kernel
theorem d444 : decode method_3_code 59 = .ok (.aload_n 0, 1) := by decide +kernel
theorem d445 : decode method_3_code 60 = .ok (.bipush 6, 2) := by decide +kernel
theorem d446 : decode method_3_code 62 = .ok (.invokevirtual 43, 3) := by decide +kernel
theorem d447 : decode method_3_code 65 = .ok (.castore, 1) := by decide +kernel
theorem d448 : decode method_3_code 66 = .ok (.dup, 1) := by decide +kernel
theorem d449 : decode method_3_code 67 = .ok (.bipush 7, 2) := by decide +kernel
theorem d450 : decode method_3_code 69 = .ok (.aload_n 0, 1) := by decide +kernel
theorem d451 : decode method_3_code 70 = .ok (.bipush 7, 2) := by decide +kernel
theorem d452 : decode method_3_code 72 = .ok (.invokevirtual 43, 3) := by decide +kernel
theorem d453 : decode method_3_code 75 = .ok (.castore, 1) := by decide +kernel
theorem d454 : decode method_3_code 76 = .ok (.dup, 1) := by decide +kernel
theorem d455 : decode method_3_code 77 = .ok (.bipush 8, 2) := by decide +kernel
theorem d456 : decode method_3_code 79 = .ok (.aload_n 0, 1) := by decide +kernel
theorem d457 : decode method_3_code 80 = .ok (.bipush 8, 2) := by decide +kernel
theorem d458 : decode method_3_code 82 = .ok (.invokevirtual 43, 3) := by decide +kernel
theorem d459 : decode method_3_code 85 = .ok (.castore, 1) := by decide +kernel
theorem d460 : decode method_3_code 86 = .ok (.dup, 1) := by decide +kernel
theorem d461 : decode method_3_code 87 = .ok (.bipush 9, 2) := by decide +kernel
theorem d462 : decode method_3_code 89 = .ok (.aload_n 0, 1) := by decide +kernel
theorem d463 : decode method_3_code 90 = .ok (.bipush 9, 2) := by decide +kernel
theorem d464 : decode method_3_code 92 = .ok (.invokevirtual 43, 3) := by decide +kernel
theorem d465 : decode method_3_code 95 = .ok (.castore, 1) := by decide +kernel
theorem d466 : decode method_3_code 96 = .ok (.dup, 1) := by decide +kernel
theorem d467 : decode method_3_code 97 = .ok (.bipush 10, 2) := by decide +kernel
theorem d468 : decode method_3_code 99 = .ok (.aload_n 0, 1) := by decide +kernel
theorem d469 : decode method_3_code 100 = .ok (.bipush 10, 2) := by decide +kernel
theorem d470 : decode method_3_code 102 = .ok (.invokevirtual 43, 3) := by decide +kernel
theorem d471 : decode method_3_code 105 = .ok (.castore, 1) := by decide +kernel
theorem d472 : decode method_3_code 106 = .ok (.dup, 1) := by decide +kernel
theorem d473 : decode method_3_code 107 = .ok (.bipush 11, 2) := by decide +kernel
theorem d474 : decode method_3_code 109 = .ok (.aload_n 0, 1) := by decide +kernel
theorem d475 : decode method_3_code 110 = .ok (.bipush 11, 2) := by decide +kernel
theorem d476 : decode method_3_code 112 = .ok (.invokevirtual 43, 3) := by decide +kernel
theorem d477 : decode method_3_code 115 = .ok (.castore, 1) := by decide +kernel
theorem d478 : decode method_3_code 116 = .ok (.dup, 1) := by decide +kernel
theorem d479 : decode method_3_code 117 = .ok (.bipush 12, 2) := by decide +kernel
theorem d480 : decode method_3_code 119 = .ok (.aload_n 0, 1) := by decide +kernel
theorem d481 : decode method_3_code 120 = .ok (.bipush 12, 2) := by decide +kernel
theorem d482 : decode method_3_code 122 = .ok (.invokevirtual 43, 3) := by decide +kernel
theorem d483 : decode method_3_code 125 = .ok (.castore, 1) := by decide +kernel
theorem d484 : decode method_3_code 126 = .ok (.dup, 1) := by decide +kernel
theorem d485 : decode method_3_code 127 = .ok (.bipush 13, 2) := by decide +kernel
theorem d486 : decode method_3_code 129 = .ok (.aload_n 0, 1) := by decide +kernel
theorem d487 : decode method_3_code 130 = .ok (.bipush 13, 2) := by decide +kernel
theorem d488 : decode method_3_code 132 = .ok (.invokevirtual 43, 3) := by decide +kernel
theorem d489 : decode method_3_code 135 = .ok (.castore, 1) := by decide +kernel
theorem d490 : decode method_3_code 136 = .ok (.dup, 1) := by decide +kernel
theorem d491 : decode method_3_code 137 = .ok (.bipush 14, 2) := by decide +kernel
theorem d492 : decode method_3_code 139 = .ok (.aload_n 0, 1) := by decide +kernel
theorem d493 : decode method_3_code 140 = .ok (.bipush 14, 2) := by decide +kernel
theorem d494 : decode method_3_code 142 = .ok (.invokevirtual 43, 3) := by decide +kernel
theorem d495 : decode method_3_code 145 = .ok (.castore, 1) := by decide +kernel
theorem d496 : decode method_3_code 146 = .ok (.dup, 1) := by decide +kernel
theorem d497 : decode method_3_code 147 = .ok (.bipush 15, 2) := by decide +kernel
theorem d498 : decode method_3_code 149 = .ok (.aload_n 0, 1) := by decide +kernel
theorem d499 : decode method_3_code 150 = .ok (.bipush 15, 2) := by decide +kernel
theorem d500 : decode method_3_code 152 = .ok (.invokevirtual 43, 3) := by decide +kernel
theorem d501 : decode method_3_code 155 = .ok (.castore, 1) := by decide +kernel
theorem d502 : decode method_3_code 156 = .ok (.dup, 1) := by decide +kernel
theorem d503 : decode method_3_code 157 = .ok (.bipush 16, 2) := by decide +kernel
theorem d504 : decode method_3_code 159 = .ok (.aload_n 0, 1) := by decide +kernel
theorem d505 : decode method_3_code 160 = .ok (.bipush 16, 2) := by decide +kernel
theorem d506 : decode method_3_code 162 = .ok (.invokevirtual 43, 3) := by decide +kernel
theorem d507 : decode method_3_code 165 = .ok (.castore, 1) := by decide +kernel
theorem d508 : decode method_3_code 166 = .ok (.dup, 1) := by decide +kernel
theorem d509 : decode method_3_code 167 = .ok (.bipush 17, 2) := by decide +kernel
theorem d510 : decode method_3_code 169 = .ok (.aload_n 0, 1) := by decide +kernel
theorem d511 : decode method_3_code 170 = .ok (.bipush 17, 2) := by decide +kernel
theorem d512 : decode method_3_code 172 = .ok (.invokevirtual 43, 3) := by decide +kernel
theorem d513 : decode method_3_code 175 = .ok (.castore, 1) := by decide +kernel
theorem d514 : decode method_3_code 176 = .ok (.dup, 1) := by decide +kernel
theorem d515 : decode method_3_code 177 = .ok (.bipush 18, 2) := by decide +kernel
theorem d516 : decode method_3_code 179 = .ok (.aload_n 0, 1) := by decide +kernel
theorem d517 : decode method_3_code 180 = .ok (.bipush 18, 2) := by decide +kernel
theorem d518 : decode method_3_code 182 = .ok (.invokevirtual 43, 3) := by decide +kernel
theorem d519 : decode method_3_code 185 = .ok (.castore, 1) := by decide +kernel
theorem d520 : decode method_3_code 186 = .ok (.invokespecial 9, 3) := by decide +kernel
theorem pd__28__5b_C_29_V : parseMethodDescriptor "([C)V" = some ⟨[(.array .char)], none⟩ := by decide +kernel
theorem d521 : decode method_3_code 189 = .ok (.astore_n 1, 1) := by decide +kernel
theorem d522 : decode method_3_code 190 = .ok (.aload_n 1, 1) := by decide +kernel
theorem d523 : decode method_3_code 191 = .ok (.ldc 51, 2) := by decide +kernel
theorem d524 : decode method_3_code 193 = .ok (.invokevirtual 53, 3) := by decide +kernel
theorem pd__28_Ljava_2f_lang_2f_Object_3b__29_Z : parseMethodDescriptor "(Ljava/lang/Object;)Z" = some ⟨[(.object "java/lang/Object")], some .boolean⟩ := by decide +kernel
theorem d525 : decode method_3_code 196 = .ok (.ireturn, 1) := by decide +kernel
abbrev RM_pre : Room := { frames := 4, cells := 5, slots := 122, locals := 66 }
theorem ef_pre (m : MethodId) (x0 : Addr) : entryFrame m #[(.ref x0)] 2 = mkF m 0 #[.val (.ref x0), .unset] [] := by first | (simp [entryFrame, mkF, argsToLocals, Value.category]; done) | rfl
set_option maxRecDepth 65536 in
set_option maxHeartbeats 40000000 in
theorem rm_pre (l : Launch) (Z : State) (a0 : Array Value) (G1 : Int32) (G3 : Value) (us ss : Addr) (hX : Ctx Z a0 G1 G3) (hY : More Z us ss) (n0 : Nat) (bk : Addr → Prop) (h0 : Heap) (O0 : Old Z n0 h0) (a : Addr) (t : Addr) (kb : ClassId) (cs : List Int32) (pf_0 : StrL Z h0 a t kb cs) (hp : [(cs.getD 0 0), (cs.getD 1 0), (cs.getD 2 0), (cs.getD 3 0), (cs.getD 4 0), (cs.getD 5 0), (cs.getD 6 0), (cs.getD 7 0), (cs.getD 8 0), (cs.getD 9 0), (cs.getD 10 0), (cs.getD 11 0), (cs.getD 12 0), (cs.getD 13 0), (cs.getD 14 0), (cs.getD 15 0), (cs.getD 16 0), (cs.getD 17 0), (cs.getD 18 0)] = lit1) (l1 : 19 ≤ cs.length) (hbl : ∀ y, bk y → @LT.lt Nat _ y (Array.size h0)) (ws : List Jvm.Cond) : Met l Z EL1 n0 bk (⟨"com/example/lidmaat/lidmaat/http/RefusalMalformedPinLaw", "prefix", "(Ljava/lang/String;)Z"⟩ : MethodName) method_3_code 2 (Option.some FieldType.boolean) RM_pre #[(.ref a)] h0 (Q_pre Z G1 G3 us ss a t kb cs h0 n0 bk) ws := by
  have hX' := hX
  obtain ⟨hw, hE, S1, P1, S3, P3⟩ := hX'
  have hY' := hY
  obtain ⟨s_us, s_ss⟩ := hY'
  have hSA := sa_of hw
  have wT : ∀ (i : Nat) {d : Jvm.Cond}, tables_1[i]? = some d → d.before a0 Z = true := fun i d h => hw d (List.mem_of_getElem? h)
  have z0 : n0 ≤ h0.size := by rw [← O0.1]; exact O0.2.1
  refine Met.of (by decide +kernel) O0 hE ?_
  intro p e s m below meth c hx hby hml hret hlk hnm
  refine k_cast (ef_pre m a) ?_
  show Run p l e _ s m _ below meth c Z EL1 _ n0 bk h0 0 0 (mkF m 0 #[.val (.ref a), .unset] []) _
  have lt_1 : @LT.lt Nat _ a (Array.size h0) := pf_0.lt1
  have lt_2 : @LT.lt Nat _ t (Array.size h0) := pf_0.lt2
  refine k_newO hx (wT 0 rfl) (wT 1 rfl) (wT 2 rfl) rfl (hb hby d402) (by decide) (by decide) ?_
  intro h_4 a_3 g_10 O_5 E_6 A_7 D_8 U_9
  have z_11 := E_6.1
  have lt_12 : @LT.lt Nat _ a_3 (Array.size h_4) := A_7.lt
  have nb_13 : ¬ bk a_3 := fun q => Nat.not_le_of_lt (hbl _ q) (show @LE.le Nat _ (Array.size h0) a_3 by omega)
  show Run p l e _ s m _ below meth c Z EL1 _ n0 bk h_4 1 4 (mkF m 3 #[.val (.ref a), .unset] [(.ref a_3)]) _
  refine k_pure (g' := (mkF m 4 #[.val (.ref a), .unset] [(.ref a_3), (.ref a_3)])) (fun _ J _ j => XS.dup J hx rfl (hb hby d403) rfl rfl j) ?_
  refine k_pure (g' := (mkF m 6 #[.val (.ref a), .unset] [(.int (19 : Int32)), (.ref a_3), (.ref a_3)])) (fun _ J _ j => XS.bipush J hx rfl (hb hby d404) j) ?_
  refine k_newP hx (wT 3 rfl) rfl (hb hby d405) rfl (by decide) (cap := 19) (by decide) (by decide) (by decide) (by decide) "[C" (by decide +kernel) ?_
  intro h_15 a_14 k_16 g_17 O_18 E_19 A_20 X_21
  have z_22 := E_19.1
  have lt_23 : @LT.lt Nat _ a_14 (Array.size h_15) := A_20.lt
  have V_24 : Arv Z h_15 a_14 k_16 .char (19 : Int32) [(.int (0 : Int32)), (.int (0 : Int32)), (.int (0 : Int32)), (.int (0 : Int32)), (.int (0 : Int32)), (.int (0 : Int32)), (.int (0 : Int32)), (.int (0 : Int32)), (.int (0 : Int32)), (.int (0 : Int32)), (.int (0 : Int32)), (.int (0 : Int32)), (.int (0 : Int32)), (.int (0 : Int32)), (.int (0 : Int32)), (.int (0 : Int32)), (.int (0 : Int32)), (.int (0 : Int32)), (.int (0 : Int32))] (.int (0 : Int32)) := Arv.pad A_20 (pad_rep [] (.int (0 : Int32)) 19)
  have hbl_25 : ∀ y, bk y → @LT.lt Nat _ y (Array.size h_4) := fun y q => Nat.lt_of_lt_of_le (hbl y q) (by omega)
  have nb_26 : ¬ bk a_14 := fun q => Nat.not_le_of_lt (hbl_25 _ q) (show @LE.le Nat _ (Array.size h_4) a_14 by omega)
  show Run p l e _ s m _ below meth c Z EL1 _ n0 bk h_15 2 23 (mkF m 8 #[.val (.ref a), .unset] [(.ref a_14), (.ref a_3), (.ref a_3)]) _
  refine k_pure (g' := (mkF m 9 #[.val (.ref a), .unset] [(.ref a_14), (.ref a_14), (.ref a_3), (.ref a_3)])) (fun _ J _ j => XS.dup J hx rfl (hb hby d406) rfl rfl j) ?_
  refine k_pure (g' := (mkF m 10 #[.val (.ref a), .unset] [(.int (0 : Int32)), (.ref a_14), (.ref a_14), (.ref a_3), (.ref a_3)])) (fun _ J _ j => XS.iconst J hx rfl (hb hby d407) j) ?_
  refine k_pure (g' := (mkF m 11 #[.val (.ref a), .unset] [(.ref a), (.int (0 : Int32)), (.ref a_14), (.ref a_14), (.ref a_3), (.ref a_3)])) (fun _ J _ j => XS.aloadN J hx rfl (hb hby d408) rfl rfl j) ?_
  refine k_pure (g' := (mkF m 12 #[.val (.ref a), .unset] [(.int (0 : Int32)), (.ref a), (.int (0 : Int32)), (.ref a_14), (.ref a_14), (.ref a_3), (.ref a_3)])) (fun _ J _ j => XS.iconst J hx rfl (hb hby d409) j) ?_
  have F_27 : StrL Z h_15 a t kb cs := ((pf_0.ext E_6).ext E_19)
  have F_28 : Exa Z h_15 a "java/lang/String" := ((pf_0.1.ext E_6).ext E_19)
  refine k_callV hx (y := (⟨"java/lang/String", "charAt", "(I)C"⟩ : MethodName)) (z := (⟨"java/lang/String", "charAt", "(I)C"⟩ : MethodName)) (wT 207 rfl) (wT 208 rfl) (fun s' hZ => notFace_of_selects (args := #[]) (mv hZ (wT 210 rfl))) (wT 210 rfl) (wT 209 rfl) (by decide) (W := 5) (a := a) (argsL := [(.int (0 : Int32))]) (rest := [(.int (0 : Int32)), (.ref a_14), (.ref a_14), (.ref a_3), (.ref a_3)]) (pay_ch (W := 5) hX O_18 F_27 0 (by omega) rfl (by decide) (by decide)) F_28 rfl (by rw [hml]; rfl) (lenOf pd__28_I_29_C rfl) rfl (by show 2 * 0 + _ ≤ _; exact Nat.le_of_eq rfl) (hb hby d410) (by decide) (by decide) ?_
  intro v_29 h_30 bk_31 O_32 z_33 Q_34
  obtain ⟨rfl, rfl, rfl⟩ := Q_34
  show Run p l e _ s m _ below meth c Z EL1 _ n0 bk h_15 2 23 (mkF m 15 #[.val (.ref a), .unset] [(.int ((cs).getD 0 0)), (.int (0 : Int32)), (.ref a_14), (.ref a_14), (.ref a_3), (.ref a_3)]) _
  refine k_stC hx V_24 ⟨by decide, by decide⟩ 0 (by decide) (Nat.le_of_ble_eq_true rfl) (by omega) nb_26 rfl rfl (hb hby d411) ?_
  intro h_35 O_36 W_37 A_38
  have z_39 := W_37.size
  have V_40 : Arv Z h_35 a_14 k_16 .char (19 : Int32) [(.int ((cs).getD 0 0)), (.int (0 : Int32)), (.int (0 : Int32)), (.int (0 : Int32)), (.int (0 : Int32)), (.int (0 : Int32)), (.int (0 : Int32)), (.int (0 : Int32)), (.int (0 : Int32)), (.int (0 : Int32)), (.int (0 : Int32)), (.int (0 : Int32)), (.int (0 : Int32)), (.int (0 : Int32)), (.int (0 : Int32)), (.int (0 : Int32)), (.int (0 : Int32)), (.int (0 : Int32)), (.int (0 : Int32))] (.int (0 : Int32)) := by rw [nr_ch (pf_0.2.2.2.2.1 _ (getD_mem cs 0 (by omega)))] at A_38; exact A_38
  show Run p l e _ s m _ below meth c Z EL1 _ n0 bk h_35 2 23 (mkF m 16 #[.val (.ref a), .unset] [(.ref a_14), (.ref a_3), (.ref a_3)]) _
  refine k_pure (g' := (mkF m 17 #[.val (.ref a), .unset] [(.ref a_14), (.ref a_14), (.ref a_3), (.ref a_3)])) (fun _ J _ j => XS.dup J hx rfl (hb hby d412) rfl rfl j) ?_
  refine k_pure (g' := (mkF m 18 #[.val (.ref a), .unset] [(.int (1 : Int32)), (.ref a_14), (.ref a_14), (.ref a_3), (.ref a_3)])) (fun _ J _ j => XS.iconst J hx rfl (hb hby d413) j) ?_
  refine k_pure (g' := (mkF m 19 #[.val (.ref a), .unset] [(.ref a), (.int (1 : Int32)), (.ref a_14), (.ref a_14), (.ref a_3), (.ref a_3)])) (fun _ J _ j => XS.aloadN J hx rfl (hb hby d414) rfl rfl j) ?_
  refine k_pure (g' := (mkF m 20 #[.val (.ref a), .unset] [(.int (1 : Int32)), (.ref a), (.int (1 : Int32)), (.ref a_14), (.ref a_14), (.ref a_3), (.ref a_3)])) (fun _ J _ j => XS.iconst J hx rfl (hb hby d415) j) ?_
  have F_41 : StrL Z h_35 a t kb cs := (F_27.other W_37 (ne_ad (by omega)) (ne_ad (by omega)))
  have F_42 : Exa Z h_35 a "java/lang/String" := (F_28.wr W_37)
  refine k_callV hx (y := (⟨"java/lang/String", "charAt", "(I)C"⟩ : MethodName)) (z := (⟨"java/lang/String", "charAt", "(I)C"⟩ : MethodName)) (wT 207 rfl) (wT 208 rfl) (fun s' hZ => notFace_of_selects (args := #[]) (mv hZ (wT 210 rfl))) (wT 210 rfl) (wT 209 rfl) (by decide) (W := 5) (a := a) (argsL := [(.int (1 : Int32))]) (rest := [(.int (1 : Int32)), (.ref a_14), (.ref a_14), (.ref a_3), (.ref a_3)]) (pay_ch (W := 5) hX O_36 F_41 1 (by omega) rfl (by decide) (by decide)) F_42 rfl (by rw [hml]; rfl) (lenOf pd__28_I_29_C rfl) rfl (by show 2 * 0 + _ ≤ _; exact Nat.le_of_eq rfl) (hb hby d416) (by decide) (by decide) ?_
  intro v_43 h_44 bk_45 O_46 z_47 Q_48
  obtain ⟨rfl, rfl, rfl⟩ := Q_48
  show Run p l e _ s m _ below meth c Z EL1 _ n0 bk h_35 2 23 (mkF m 23 #[.val (.ref a), .unset] [(.int ((cs).getD 1 0)), (.int (1 : Int32)), (.ref a_14), (.ref a_14), (.ref a_3), (.ref a_3)]) _
  refine k_stC hx V_40 ⟨by decide, by decide⟩ 1 (by decide) (Nat.le_of_ble_eq_true rfl) (by omega) nb_26 rfl rfl (hb hby d417) ?_
  intro h_49 O_50 W_51 A_52
  have z_53 := W_51.size
  have V_54 : Arv Z h_49 a_14 k_16 .char (19 : Int32) [(.int ((cs).getD 0 0)), (.int ((cs).getD 1 0)), (.int (0 : Int32)), (.int (0 : Int32)), (.int (0 : Int32)), (.int (0 : Int32)), (.int (0 : Int32)), (.int (0 : Int32)), (.int (0 : Int32)), (.int (0 : Int32)), (.int (0 : Int32)), (.int (0 : Int32)), (.int (0 : Int32)), (.int (0 : Int32)), (.int (0 : Int32)), (.int (0 : Int32)), (.int (0 : Int32)), (.int (0 : Int32)), (.int (0 : Int32))] (.int (0 : Int32)) := by rw [nr_ch (pf_0.2.2.2.2.1 _ (getD_mem cs 1 (by omega)))] at A_52; exact A_52
  show Run p l e _ s m _ below meth c Z EL1 _ n0 bk h_49 2 23 (mkF m 24 #[.val (.ref a), .unset] [(.ref a_14), (.ref a_3), (.ref a_3)]) _
  refine k_pure (g' := (mkF m 25 #[.val (.ref a), .unset] [(.ref a_14), (.ref a_14), (.ref a_3), (.ref a_3)])) (fun _ J _ j => XS.dup J hx rfl (hb hby d418) rfl rfl j) ?_
  refine k_pure (g' := (mkF m 26 #[.val (.ref a), .unset] [(.int (2 : Int32)), (.ref a_14), (.ref a_14), (.ref a_3), (.ref a_3)])) (fun _ J _ j => XS.iconst J hx rfl (hb hby d419) j) ?_
  refine k_pure (g' := (mkF m 27 #[.val (.ref a), .unset] [(.ref a), (.int (2 : Int32)), (.ref a_14), (.ref a_14), (.ref a_3), (.ref a_3)])) (fun _ J _ j => XS.aloadN J hx rfl (hb hby d420) rfl rfl j) ?_
  refine k_pure (g' := (mkF m 28 #[.val (.ref a), .unset] [(.int (2 : Int32)), (.ref a), (.int (2 : Int32)), (.ref a_14), (.ref a_14), (.ref a_3), (.ref a_3)])) (fun _ J _ j => XS.iconst J hx rfl (hb hby d421) j) ?_
  have F_55 : StrL Z h_49 a t kb cs := (F_41.other W_51 (ne_ad (by omega)) (ne_ad (by omega)))
  have F_56 : Exa Z h_49 a "java/lang/String" := (F_42.wr W_51)
  refine k_callV hx (y := (⟨"java/lang/String", "charAt", "(I)C"⟩ : MethodName)) (z := (⟨"java/lang/String", "charAt", "(I)C"⟩ : MethodName)) (wT 207 rfl) (wT 208 rfl) (fun s' hZ => notFace_of_selects (args := #[]) (mv hZ (wT 210 rfl))) (wT 210 rfl) (wT 209 rfl) (by decide) (W := 5) (a := a) (argsL := [(.int (2 : Int32))]) (rest := [(.int (2 : Int32)), (.ref a_14), (.ref a_14), (.ref a_3), (.ref a_3)]) (pay_ch (W := 5) hX O_50 F_55 2 (by omega) rfl (by decide) (by decide)) F_56 rfl (by rw [hml]; rfl) (lenOf pd__28_I_29_C rfl) rfl (by show 2 * 0 + _ ≤ _; exact Nat.le_of_eq rfl) (hb hby d422) (by decide) (by decide) ?_
  intro v_57 h_58 bk_59 O_60 z_61 Q_62
  obtain ⟨rfl, rfl, rfl⟩ := Q_62
  show Run p l e _ s m _ below meth c Z EL1 _ n0 bk h_49 2 23 (mkF m 31 #[.val (.ref a), .unset] [(.int ((cs).getD 2 0)), (.int (2 : Int32)), (.ref a_14), (.ref a_14), (.ref a_3), (.ref a_3)]) _
  refine k_stC hx V_54 ⟨by decide, by decide⟩ 2 (by decide) (Nat.le_of_ble_eq_true rfl) (by omega) nb_26 rfl rfl (hb hby d423) ?_
  intro h_63 O_64 W_65 A_66
  have z_67 := W_65.size
  have V_68 : Arv Z h_63 a_14 k_16 .char (19 : Int32) [(.int ((cs).getD 0 0)), (.int ((cs).getD 1 0)), (.int ((cs).getD 2 0)), (.int (0 : Int32)), (.int (0 : Int32)), (.int (0 : Int32)), (.int (0 : Int32)), (.int (0 : Int32)), (.int (0 : Int32)), (.int (0 : Int32)), (.int (0 : Int32)), (.int (0 : Int32)), (.int (0 : Int32)), (.int (0 : Int32)), (.int (0 : Int32)), (.int (0 : Int32)), (.int (0 : Int32)), (.int (0 : Int32)), (.int (0 : Int32))] (.int (0 : Int32)) := by rw [nr_ch (pf_0.2.2.2.2.1 _ (getD_mem cs 2 (by omega)))] at A_66; exact A_66
  show Run p l e _ s m _ below meth c Z EL1 _ n0 bk h_63 2 23 (mkF m 32 #[.val (.ref a), .unset] [(.ref a_14), (.ref a_3), (.ref a_3)]) _
  refine k_pure (g' := (mkF m 33 #[.val (.ref a), .unset] [(.ref a_14), (.ref a_14), (.ref a_3), (.ref a_3)])) (fun _ J _ j => XS.dup J hx rfl (hb hby d424) rfl rfl j) ?_
  refine k_pure (g' := (mkF m 34 #[.val (.ref a), .unset] [(.int (3 : Int32)), (.ref a_14), (.ref a_14), (.ref a_3), (.ref a_3)])) (fun _ J _ j => XS.iconst J hx rfl (hb hby d425) j) ?_
  refine k_pure (g' := (mkF m 35 #[.val (.ref a), .unset] [(.ref a), (.int (3 : Int32)), (.ref a_14), (.ref a_14), (.ref a_3), (.ref a_3)])) (fun _ J _ j => XS.aloadN J hx rfl (hb hby d426) rfl rfl j) ?_
  refine k_pure (g' := (mkF m 36 #[.val (.ref a), .unset] [(.int (3 : Int32)), (.ref a), (.int (3 : Int32)), (.ref a_14), (.ref a_14), (.ref a_3), (.ref a_3)])) (fun _ J _ j => XS.iconst J hx rfl (hb hby d427) j) ?_
  have F_69 : StrL Z h_63 a t kb cs := (F_55.other W_65 (ne_ad (by omega)) (ne_ad (by omega)))
  have F_70 : Exa Z h_63 a "java/lang/String" := (F_56.wr W_65)
  refine k_callV hx (y := (⟨"java/lang/String", "charAt", "(I)C"⟩ : MethodName)) (z := (⟨"java/lang/String", "charAt", "(I)C"⟩ : MethodName)) (wT 207 rfl) (wT 208 rfl) (fun s' hZ => notFace_of_selects (args := #[]) (mv hZ (wT 210 rfl))) (wT 210 rfl) (wT 209 rfl) (by decide) (W := 5) (a := a) (argsL := [(.int (3 : Int32))]) (rest := [(.int (3 : Int32)), (.ref a_14), (.ref a_14), (.ref a_3), (.ref a_3)]) (pay_ch (W := 5) hX O_64 F_69 3 (by omega) rfl (by decide) (by decide)) F_70 rfl (by rw [hml]; rfl) (lenOf pd__28_I_29_C rfl) rfl (by show 2 * 0 + _ ≤ _; exact Nat.le_of_eq rfl) (hb hby d428) (by decide) (by decide) ?_
  intro v_71 h_72 bk_73 O_74 z_75 Q_76
  obtain ⟨rfl, rfl, rfl⟩ := Q_76
  show Run p l e _ s m _ below meth c Z EL1 _ n0 bk h_63 2 23 (mkF m 39 #[.val (.ref a), .unset] [(.int ((cs).getD 3 0)), (.int (3 : Int32)), (.ref a_14), (.ref a_14), (.ref a_3), (.ref a_3)]) _
  refine k_stC hx V_68 ⟨by decide, by decide⟩ 3 (by decide) (Nat.le_of_ble_eq_true rfl) (by omega) nb_26 rfl rfl (hb hby d429) ?_
  intro h_77 O_78 W_79 A_80
  have z_81 := W_79.size
  have V_82 : Arv Z h_77 a_14 k_16 .char (19 : Int32) [(.int ((cs).getD 0 0)), (.int ((cs).getD 1 0)), (.int ((cs).getD 2 0)), (.int ((cs).getD 3 0)), (.int (0 : Int32)), (.int (0 : Int32)), (.int (0 : Int32)), (.int (0 : Int32)), (.int (0 : Int32)), (.int (0 : Int32)), (.int (0 : Int32)), (.int (0 : Int32)), (.int (0 : Int32)), (.int (0 : Int32)), (.int (0 : Int32)), (.int (0 : Int32)), (.int (0 : Int32)), (.int (0 : Int32)), (.int (0 : Int32))] (.int (0 : Int32)) := by rw [nr_ch (pf_0.2.2.2.2.1 _ (getD_mem cs 3 (by omega)))] at A_80; exact A_80
  show Run p l e _ s m _ below meth c Z EL1 _ n0 bk h_77 2 23 (mkF m 40 #[.val (.ref a), .unset] [(.ref a_14), (.ref a_3), (.ref a_3)]) _
  refine k_pure (g' := (mkF m 41 #[.val (.ref a), .unset] [(.ref a_14), (.ref a_14), (.ref a_3), (.ref a_3)])) (fun _ J _ j => XS.dup J hx rfl (hb hby d430) rfl rfl j) ?_
  refine k_pure (g' := (mkF m 42 #[.val (.ref a), .unset] [(.int (4 : Int32)), (.ref a_14), (.ref a_14), (.ref a_3), (.ref a_3)])) (fun _ J _ j => XS.iconst J hx rfl (hb hby d431) j) ?_
  refine k_pure (g' := (mkF m 43 #[.val (.ref a), .unset] [(.ref a), (.int (4 : Int32)), (.ref a_14), (.ref a_14), (.ref a_3), (.ref a_3)])) (fun _ J _ j => XS.aloadN J hx rfl (hb hby d432) rfl rfl j) ?_
  refine k_pure (g' := (mkF m 44 #[.val (.ref a), .unset] [(.int (4 : Int32)), (.ref a), (.int (4 : Int32)), (.ref a_14), (.ref a_14), (.ref a_3), (.ref a_3)])) (fun _ J _ j => XS.iconst J hx rfl (hb hby d433) j) ?_
  have F_83 : StrL Z h_77 a t kb cs := (F_69.other W_79 (ne_ad (by omega)) (ne_ad (by omega)))
  have F_84 : Exa Z h_77 a "java/lang/String" := (F_70.wr W_79)
  refine k_callV hx (y := (⟨"java/lang/String", "charAt", "(I)C"⟩ : MethodName)) (z := (⟨"java/lang/String", "charAt", "(I)C"⟩ : MethodName)) (wT 207 rfl) (wT 208 rfl) (fun s' hZ => notFace_of_selects (args := #[]) (mv hZ (wT 210 rfl))) (wT 210 rfl) (wT 209 rfl) (by decide) (W := 5) (a := a) (argsL := [(.int (4 : Int32))]) (rest := [(.int (4 : Int32)), (.ref a_14), (.ref a_14), (.ref a_3), (.ref a_3)]) (pay_ch (W := 5) hX O_78 F_83 4 (by omega) rfl (by decide) (by decide)) F_84 rfl (by rw [hml]; rfl) (lenOf pd__28_I_29_C rfl) rfl (by show 2 * 0 + _ ≤ _; exact Nat.le_of_eq rfl) (hb hby d434) (by decide) (by decide) ?_
  intro v_85 h_86 bk_87 O_88 z_89 Q_90
  obtain ⟨rfl, rfl, rfl⟩ := Q_90
  show Run p l e _ s m _ below meth c Z EL1 _ n0 bk h_77 2 23 (mkF m 47 #[.val (.ref a), .unset] [(.int ((cs).getD 4 0)), (.int (4 : Int32)), (.ref a_14), (.ref a_14), (.ref a_3), (.ref a_3)]) _
  refine k_stC hx V_82 ⟨by decide, by decide⟩ 4 (by decide) (Nat.le_of_ble_eq_true rfl) (by omega) nb_26 rfl rfl (hb hby d435) ?_
  intro h_91 O_92 W_93 A_94
  have z_95 := W_93.size
  have V_96 : Arv Z h_91 a_14 k_16 .char (19 : Int32) [(.int ((cs).getD 0 0)), (.int ((cs).getD 1 0)), (.int ((cs).getD 2 0)), (.int ((cs).getD 3 0)), (.int ((cs).getD 4 0)), (.int (0 : Int32)), (.int (0 : Int32)), (.int (0 : Int32)), (.int (0 : Int32)), (.int (0 : Int32)), (.int (0 : Int32)), (.int (0 : Int32)), (.int (0 : Int32)), (.int (0 : Int32)), (.int (0 : Int32)), (.int (0 : Int32)), (.int (0 : Int32)), (.int (0 : Int32)), (.int (0 : Int32))] (.int (0 : Int32)) := by rw [nr_ch (pf_0.2.2.2.2.1 _ (getD_mem cs 4 (by omega)))] at A_94; exact A_94
  show Run p l e _ s m _ below meth c Z EL1 _ n0 bk h_91 2 23 (mkF m 48 #[.val (.ref a), .unset] [(.ref a_14), (.ref a_3), (.ref a_3)]) _
  refine k_pure (g' := (mkF m 49 #[.val (.ref a), .unset] [(.ref a_14), (.ref a_14), (.ref a_3), (.ref a_3)])) (fun _ J _ j => XS.dup J hx rfl (hb hby d436) rfl rfl j) ?_
  refine k_pure (g' := (mkF m 50 #[.val (.ref a), .unset] [(.int (5 : Int32)), (.ref a_14), (.ref a_14), (.ref a_3), (.ref a_3)])) (fun _ J _ j => XS.iconst J hx rfl (hb hby d437) j) ?_
  refine k_pure (g' := (mkF m 51 #[.val (.ref a), .unset] [(.ref a), (.int (5 : Int32)), (.ref a_14), (.ref a_14), (.ref a_3), (.ref a_3)])) (fun _ J _ j => XS.aloadN J hx rfl (hb hby d438) rfl rfl j) ?_
  refine k_pure (g' := (mkF m 52 #[.val (.ref a), .unset] [(.int (5 : Int32)), (.ref a), (.int (5 : Int32)), (.ref a_14), (.ref a_14), (.ref a_3), (.ref a_3)])) (fun _ J _ j => XS.iconst J hx rfl (hb hby d439) j) ?_
  have F_97 : StrL Z h_91 a t kb cs := (F_83.other W_93 (ne_ad (by omega)) (ne_ad (by omega)))
  have F_98 : Exa Z h_91 a "java/lang/String" := (F_84.wr W_93)
  refine k_callV hx (y := (⟨"java/lang/String", "charAt", "(I)C"⟩ : MethodName)) (z := (⟨"java/lang/String", "charAt", "(I)C"⟩ : MethodName)) (wT 207 rfl) (wT 208 rfl) (fun s' hZ => notFace_of_selects (args := #[]) (mv hZ (wT 210 rfl))) (wT 210 rfl) (wT 209 rfl) (by decide) (W := 5) (a := a) (argsL := [(.int (5 : Int32))]) (rest := [(.int (5 : Int32)), (.ref a_14), (.ref a_14), (.ref a_3), (.ref a_3)]) (pay_ch (W := 5) hX O_92 F_97 5 (by omega) rfl (by decide) (by decide)) F_98 rfl (by rw [hml]; rfl) (lenOf pd__28_I_29_C rfl) rfl (by show 2 * 0 + _ ≤ _; exact Nat.le_of_eq rfl) (hb hby d440) (by decide) (by decide) ?_
  intro v_99 h_100 bk_101 O_102 z_103 Q_104
  obtain ⟨rfl, rfl, rfl⟩ := Q_104
  show Run p l e _ s m _ below meth c Z EL1 _ n0 bk h_91 2 23 (mkF m 55 #[.val (.ref a), .unset] [(.int ((cs).getD 5 0)), (.int (5 : Int32)), (.ref a_14), (.ref a_14), (.ref a_3), (.ref a_3)]) _
  refine k_stC hx V_96 ⟨by decide, by decide⟩ 5 (by decide) (Nat.le_of_ble_eq_true rfl) (by omega) nb_26 rfl rfl (hb hby d441) ?_
  intro h_105 O_106 W_107 A_108
  have z_109 := W_107.size
  have V_110 : Arv Z h_105 a_14 k_16 .char (19 : Int32) [(.int ((cs).getD 0 0)), (.int ((cs).getD 1 0)), (.int ((cs).getD 2 0)), (.int ((cs).getD 3 0)), (.int ((cs).getD 4 0)), (.int ((cs).getD 5 0)), (.int (0 : Int32)), (.int (0 : Int32)), (.int (0 : Int32)), (.int (0 : Int32)), (.int (0 : Int32)), (.int (0 : Int32)), (.int (0 : Int32)), (.int (0 : Int32)), (.int (0 : Int32)), (.int (0 : Int32)), (.int (0 : Int32)), (.int (0 : Int32)), (.int (0 : Int32))] (.int (0 : Int32)) := by rw [nr_ch (pf_0.2.2.2.2.1 _ (getD_mem cs 5 (by omega)))] at A_108; exact A_108
  show Run p l e _ s m _ below meth c Z EL1 _ n0 bk h_105 2 23 (mkF m 56 #[.val (.ref a), .unset] [(.ref a_14), (.ref a_3), (.ref a_3)]) _
  refine k_pure (g' := (mkF m 57 #[.val (.ref a), .unset] [(.ref a_14), (.ref a_14), (.ref a_3), (.ref a_3)])) (fun _ J _ j => XS.dup J hx rfl (hb hby d442) rfl rfl j) ?_
  refine k_pure (g' := (mkF m 59 #[.val (.ref a), .unset] [(.int (6 : Int32)), (.ref a_14), (.ref a_14), (.ref a_3), (.ref a_3)])) (fun _ J _ j => XS.bipush J hx rfl (hb hby d443) j) ?_
  refine k_pure (g' := (mkF m 60 #[.val (.ref a), .unset] [(.ref a), (.int (6 : Int32)), (.ref a_14), (.ref a_14), (.ref a_3), (.ref a_3)])) (fun _ J _ j => XS.aloadN J hx rfl (hb hby d444) rfl rfl j) ?_
  refine k_pure (g' := (mkF m 62 #[.val (.ref a), .unset] [(.int (6 : Int32)), (.ref a), (.int (6 : Int32)), (.ref a_14), (.ref a_14), (.ref a_3), (.ref a_3)])) (fun _ J _ j => XS.bipush J hx rfl (hb hby d445) j) ?_
  have F_111 : StrL Z h_105 a t kb cs := (F_97.other W_107 (ne_ad (by omega)) (ne_ad (by omega)))
  have F_112 : Exa Z h_105 a "java/lang/String" := (F_98.wr W_107)
  refine k_callV hx (y := (⟨"java/lang/String", "charAt", "(I)C"⟩ : MethodName)) (z := (⟨"java/lang/String", "charAt", "(I)C"⟩ : MethodName)) (wT 207 rfl) (wT 208 rfl) (fun s' hZ => notFace_of_selects (args := #[]) (mv hZ (wT 210 rfl))) (wT 210 rfl) (wT 209 rfl) (by decide) (W := 5) (a := a) (argsL := [(.int (6 : Int32))]) (rest := [(.int (6 : Int32)), (.ref a_14), (.ref a_14), (.ref a_3), (.ref a_3)]) (pay_ch (W := 5) hX O_106 F_111 6 (by omega) rfl (by decide) (by decide)) F_112 rfl (by rw [hml]; rfl) (lenOf pd__28_I_29_C rfl) rfl (by show 2 * 0 + _ ≤ _; exact Nat.le_of_eq rfl) (hb hby d446) (by decide) (by decide) ?_
  intro v_113 h_114 bk_115 O_116 z_117 Q_118
  obtain ⟨rfl, rfl, rfl⟩ := Q_118
  show Run p l e _ s m _ below meth c Z EL1 _ n0 bk h_105 2 23 (mkF m 65 #[.val (.ref a), .unset] [(.int ((cs).getD 6 0)), (.int (6 : Int32)), (.ref a_14), (.ref a_14), (.ref a_3), (.ref a_3)]) _
  refine k_stC hx V_110 ⟨by decide, by decide⟩ 6 (by decide) (Nat.le_of_ble_eq_true rfl) (by omega) nb_26 rfl rfl (hb hby d447) ?_
  intro h_119 O_120 W_121 A_122
  have z_123 := W_121.size
  have V_124 : Arv Z h_119 a_14 k_16 .char (19 : Int32) [(.int ((cs).getD 0 0)), (.int ((cs).getD 1 0)), (.int ((cs).getD 2 0)), (.int ((cs).getD 3 0)), (.int ((cs).getD 4 0)), (.int ((cs).getD 5 0)), (.int ((cs).getD 6 0)), (.int (0 : Int32)), (.int (0 : Int32)), (.int (0 : Int32)), (.int (0 : Int32)), (.int (0 : Int32)), (.int (0 : Int32)), (.int (0 : Int32)), (.int (0 : Int32)), (.int (0 : Int32)), (.int (0 : Int32)), (.int (0 : Int32)), (.int (0 : Int32))] (.int (0 : Int32)) := by rw [nr_ch (pf_0.2.2.2.2.1 _ (getD_mem cs 6 (by omega)))] at A_122; exact A_122
  show Run p l e _ s m _ below meth c Z EL1 _ n0 bk h_119 2 23 (mkF m 66 #[.val (.ref a), .unset] [(.ref a_14), (.ref a_3), (.ref a_3)]) _
  refine k_pure (g' := (mkF m 67 #[.val (.ref a), .unset] [(.ref a_14), (.ref a_14), (.ref a_3), (.ref a_3)])) (fun _ J _ j => XS.dup J hx rfl (hb hby d448) rfl rfl j) ?_
  refine k_pure (g' := (mkF m 69 #[.val (.ref a), .unset] [(.int (7 : Int32)), (.ref a_14), (.ref a_14), (.ref a_3), (.ref a_3)])) (fun _ J _ j => XS.bipush J hx rfl (hb hby d449) j) ?_
  refine k_pure (g' := (mkF m 70 #[.val (.ref a), .unset] [(.ref a), (.int (7 : Int32)), (.ref a_14), (.ref a_14), (.ref a_3), (.ref a_3)])) (fun _ J _ j => XS.aloadN J hx rfl (hb hby d450) rfl rfl j) ?_
  refine k_pure (g' := (mkF m 72 #[.val (.ref a), .unset] [(.int (7 : Int32)), (.ref a), (.int (7 : Int32)), (.ref a_14), (.ref a_14), (.ref a_3), (.ref a_3)])) (fun _ J _ j => XS.bipush J hx rfl (hb hby d451) j) ?_
  have F_125 : StrL Z h_119 a t kb cs := (F_111.other W_121 (ne_ad (by omega)) (ne_ad (by omega)))
  have F_126 : Exa Z h_119 a "java/lang/String" := (F_112.wr W_121)
  refine k_callV hx (y := (⟨"java/lang/String", "charAt", "(I)C"⟩ : MethodName)) (z := (⟨"java/lang/String", "charAt", "(I)C"⟩ : MethodName)) (wT 207 rfl) (wT 208 rfl) (fun s' hZ => notFace_of_selects (args := #[]) (mv hZ (wT 210 rfl))) (wT 210 rfl) (wT 209 rfl) (by decide) (W := 5) (a := a) (argsL := [(.int (7 : Int32))]) (rest := [(.int (7 : Int32)), (.ref a_14), (.ref a_14), (.ref a_3), (.ref a_3)]) (pay_ch (W := 5) hX O_120 F_125 7 (by omega) rfl (by decide) (by decide)) F_126 rfl (by rw [hml]; rfl) (lenOf pd__28_I_29_C rfl) rfl (by show 2 * 0 + _ ≤ _; exact Nat.le_of_eq rfl) (hb hby d452) (by decide) (by decide) ?_
  intro v_127 h_128 bk_129 O_130 z_131 Q_132
  obtain ⟨rfl, rfl, rfl⟩ := Q_132
  show Run p l e _ s m _ below meth c Z EL1 _ n0 bk h_119 2 23 (mkF m 75 #[.val (.ref a), .unset] [(.int ((cs).getD 7 0)), (.int (7 : Int32)), (.ref a_14), (.ref a_14), (.ref a_3), (.ref a_3)]) _
  refine k_stC hx V_124 ⟨by decide, by decide⟩ 7 (by decide) (Nat.le_of_ble_eq_true rfl) (by omega) nb_26 rfl rfl (hb hby d453) ?_
  intro h_133 O_134 W_135 A_136
  have z_137 := W_135.size
  have V_138 : Arv Z h_133 a_14 k_16 .char (19 : Int32) [(.int ((cs).getD 0 0)), (.int ((cs).getD 1 0)), (.int ((cs).getD 2 0)), (.int ((cs).getD 3 0)), (.int ((cs).getD 4 0)), (.int ((cs).getD 5 0)), (.int ((cs).getD 6 0)), (.int ((cs).getD 7 0)), (.int (0 : Int32)), (.int (0 : Int32)), (.int (0 : Int32)), (.int (0 : Int32)), (.int (0 : Int32)), (.int (0 : Int32)), (.int (0 : Int32)), (.int (0 : Int32)), (.int (0 : Int32)), (.int (0 : Int32)), (.int (0 : Int32))] (.int (0 : Int32)) := by rw [nr_ch (pf_0.2.2.2.2.1 _ (getD_mem cs 7 (by omega)))] at A_136; exact A_136
  show Run p l e _ s m _ below meth c Z EL1 _ n0 bk h_133 2 23 (mkF m 76 #[.val (.ref a), .unset] [(.ref a_14), (.ref a_3), (.ref a_3)]) _
  refine k_pure (g' := (mkF m 77 #[.val (.ref a), .unset] [(.ref a_14), (.ref a_14), (.ref a_3), (.ref a_3)])) (fun _ J _ j => XS.dup J hx rfl (hb hby d454) rfl rfl j) ?_
  refine k_pure (g' := (mkF m 79 #[.val (.ref a), .unset] [(.int (8 : Int32)), (.ref a_14), (.ref a_14), (.ref a_3), (.ref a_3)])) (fun _ J _ j => XS.bipush J hx rfl (hb hby d455) j) ?_
  refine k_pure (g' := (mkF m 80 #[.val (.ref a), .unset] [(.ref a), (.int (8 : Int32)), (.ref a_14), (.ref a_14), (.ref a_3), (.ref a_3)])) (fun _ J _ j => XS.aloadN J hx rfl (hb hby d456) rfl rfl j) ?_
  refine k_pure (g' := (mkF m 82 #[.val (.ref a), .unset] [(.int (8 : Int32)), (.ref a), (.int (8 : Int32)), (.ref a_14), (.ref a_14), (.ref a_3), (.ref a_3)])) (fun _ J _ j => XS.bipush J hx rfl (hb hby d457) j) ?_
  have F_139 : StrL Z h_133 a t kb cs := (F_125.other W_135 (ne_ad (by omega)) (ne_ad (by omega)))
  have F_140 : Exa Z h_133 a "java/lang/String" := (F_126.wr W_135)
  refine k_callV hx (y := (⟨"java/lang/String", "charAt", "(I)C"⟩ : MethodName)) (z := (⟨"java/lang/String", "charAt", "(I)C"⟩ : MethodName)) (wT 207 rfl) (wT 208 rfl) (fun s' hZ => notFace_of_selects (args := #[]) (mv hZ (wT 210 rfl))) (wT 210 rfl) (wT 209 rfl) (by decide) (W := 5) (a := a) (argsL := [(.int (8 : Int32))]) (rest := [(.int (8 : Int32)), (.ref a_14), (.ref a_14), (.ref a_3), (.ref a_3)]) (pay_ch (W := 5) hX O_134 F_139 8 (by omega) rfl (by decide) (by decide)) F_140 rfl (by rw [hml]; rfl) (lenOf pd__28_I_29_C rfl) rfl (by show 2 * 0 + _ ≤ _; exact Nat.le_of_eq rfl) (hb hby d458) (by decide) (by decide) ?_
  intro v_141 h_142 bk_143 O_144 z_145 Q_146
  obtain ⟨rfl, rfl, rfl⟩ := Q_146
  show Run p l e _ s m _ below meth c Z EL1 _ n0 bk h_133 2 23 (mkF m 85 #[.val (.ref a), .unset] [(.int ((cs).getD 8 0)), (.int (8 : Int32)), (.ref a_14), (.ref a_14), (.ref a_3), (.ref a_3)]) _
  refine k_stC hx V_138 ⟨by decide, by decide⟩ 8 (by decide) (Nat.le_of_ble_eq_true rfl) (by omega) nb_26 rfl rfl (hb hby d459) ?_
  intro h_147 O_148 W_149 A_150
  have z_151 := W_149.size
  have V_152 : Arv Z h_147 a_14 k_16 .char (19 : Int32) [(.int ((cs).getD 0 0)), (.int ((cs).getD 1 0)), (.int ((cs).getD 2 0)), (.int ((cs).getD 3 0)), (.int ((cs).getD 4 0)), (.int ((cs).getD 5 0)), (.int ((cs).getD 6 0)), (.int ((cs).getD 7 0)), (.int ((cs).getD 8 0)), (.int (0 : Int32)), (.int (0 : Int32)), (.int (0 : Int32)), (.int (0 : Int32)), (.int (0 : Int32)), (.int (0 : Int32)), (.int (0 : Int32)), (.int (0 : Int32)), (.int (0 : Int32)), (.int (0 : Int32))] (.int (0 : Int32)) := by rw [nr_ch (pf_0.2.2.2.2.1 _ (getD_mem cs 8 (by omega)))] at A_150; exact A_150
  show Run p l e _ s m _ below meth c Z EL1 _ n0 bk h_147 2 23 (mkF m 86 #[.val (.ref a), .unset] [(.ref a_14), (.ref a_3), (.ref a_3)]) _
  refine k_pure (g' := (mkF m 87 #[.val (.ref a), .unset] [(.ref a_14), (.ref a_14), (.ref a_3), (.ref a_3)])) (fun _ J _ j => XS.dup J hx rfl (hb hby d460) rfl rfl j) ?_
  refine k_pure (g' := (mkF m 89 #[.val (.ref a), .unset] [(.int (9 : Int32)), (.ref a_14), (.ref a_14), (.ref a_3), (.ref a_3)])) (fun _ J _ j => XS.bipush J hx rfl (hb hby d461) j) ?_
  refine k_pure (g' := (mkF m 90 #[.val (.ref a), .unset] [(.ref a), (.int (9 : Int32)), (.ref a_14), (.ref a_14), (.ref a_3), (.ref a_3)])) (fun _ J _ j => XS.aloadN J hx rfl (hb hby d462) rfl rfl j) ?_
  refine k_pure (g' := (mkF m 92 #[.val (.ref a), .unset] [(.int (9 : Int32)), (.ref a), (.int (9 : Int32)), (.ref a_14), (.ref a_14), (.ref a_3), (.ref a_3)])) (fun _ J _ j => XS.bipush J hx rfl (hb hby d463) j) ?_
  have F_153 : StrL Z h_147 a t kb cs := (F_139.other W_149 (ne_ad (by omega)) (ne_ad (by omega)))
  have F_154 : Exa Z h_147 a "java/lang/String" := (F_140.wr W_149)
  refine k_callV hx (y := (⟨"java/lang/String", "charAt", "(I)C"⟩ : MethodName)) (z := (⟨"java/lang/String", "charAt", "(I)C"⟩ : MethodName)) (wT 207 rfl) (wT 208 rfl) (fun s' hZ => notFace_of_selects (args := #[]) (mv hZ (wT 210 rfl))) (wT 210 rfl) (wT 209 rfl) (by decide) (W := 5) (a := a) (argsL := [(.int (9 : Int32))]) (rest := [(.int (9 : Int32)), (.ref a_14), (.ref a_14), (.ref a_3), (.ref a_3)]) (pay_ch (W := 5) hX O_148 F_153 9 (by omega) rfl (by decide) (by decide)) F_154 rfl (by rw [hml]; rfl) (lenOf pd__28_I_29_C rfl) rfl (by show 2 * 0 + _ ≤ _; exact Nat.le_of_eq rfl) (hb hby d464) (by decide) (by decide) ?_
  intro v_155 h_156 bk_157 O_158 z_159 Q_160
  obtain ⟨rfl, rfl, rfl⟩ := Q_160
  show Run p l e _ s m _ below meth c Z EL1 _ n0 bk h_147 2 23 (mkF m 95 #[.val (.ref a), .unset] [(.int ((cs).getD 9 0)), (.int (9 : Int32)), (.ref a_14), (.ref a_14), (.ref a_3), (.ref a_3)]) _
  refine k_stC hx V_152 ⟨by decide, by decide⟩ 9 (by decide) (Nat.le_of_ble_eq_true rfl) (by omega) nb_26 rfl rfl (hb hby d465) ?_
  intro h_161 O_162 W_163 A_164
  have z_165 := W_163.size
  have V_166 : Arv Z h_161 a_14 k_16 .char (19 : Int32) [(.int ((cs).getD 0 0)), (.int ((cs).getD 1 0)), (.int ((cs).getD 2 0)), (.int ((cs).getD 3 0)), (.int ((cs).getD 4 0)), (.int ((cs).getD 5 0)), (.int ((cs).getD 6 0)), (.int ((cs).getD 7 0)), (.int ((cs).getD 8 0)), (.int ((cs).getD 9 0)), (.int (0 : Int32)), (.int (0 : Int32)), (.int (0 : Int32)), (.int (0 : Int32)), (.int (0 : Int32)), (.int (0 : Int32)), (.int (0 : Int32)), (.int (0 : Int32)), (.int (0 : Int32))] (.int (0 : Int32)) := by rw [nr_ch (pf_0.2.2.2.2.1 _ (getD_mem cs 9 (by omega)))] at A_164; exact A_164
  show Run p l e _ s m _ below meth c Z EL1 _ n0 bk h_161 2 23 (mkF m 96 #[.val (.ref a), .unset] [(.ref a_14), (.ref a_3), (.ref a_3)]) _
  refine k_pure (g' := (mkF m 97 #[.val (.ref a), .unset] [(.ref a_14), (.ref a_14), (.ref a_3), (.ref a_3)])) (fun _ J _ j => XS.dup J hx rfl (hb hby d466) rfl rfl j) ?_
  refine k_pure (g' := (mkF m 99 #[.val (.ref a), .unset] [(.int (10 : Int32)), (.ref a_14), (.ref a_14), (.ref a_3), (.ref a_3)])) (fun _ J _ j => XS.bipush J hx rfl (hb hby d467) j) ?_
  refine k_pure (g' := (mkF m 100 #[.val (.ref a), .unset] [(.ref a), (.int (10 : Int32)), (.ref a_14), (.ref a_14), (.ref a_3), (.ref a_3)])) (fun _ J _ j => XS.aloadN J hx rfl (hb hby d468) rfl rfl j) ?_
  refine k_pure (g' := (mkF m 102 #[.val (.ref a), .unset] [(.int (10 : Int32)), (.ref a), (.int (10 : Int32)), (.ref a_14), (.ref a_14), (.ref a_3), (.ref a_3)])) (fun _ J _ j => XS.bipush J hx rfl (hb hby d469) j) ?_
  have F_167 : StrL Z h_161 a t kb cs := (F_153.other W_163 (ne_ad (by omega)) (ne_ad (by omega)))
  have F_168 : Exa Z h_161 a "java/lang/String" := (F_154.wr W_163)
  refine k_callV hx (y := (⟨"java/lang/String", "charAt", "(I)C"⟩ : MethodName)) (z := (⟨"java/lang/String", "charAt", "(I)C"⟩ : MethodName)) (wT 207 rfl) (wT 208 rfl) (fun s' hZ => notFace_of_selects (args := #[]) (mv hZ (wT 210 rfl))) (wT 210 rfl) (wT 209 rfl) (by decide) (W := 5) (a := a) (argsL := [(.int (10 : Int32))]) (rest := [(.int (10 : Int32)), (.ref a_14), (.ref a_14), (.ref a_3), (.ref a_3)]) (pay_ch (W := 5) hX O_162 F_167 10 (by omega) rfl (by decide) (by decide)) F_168 rfl (by rw [hml]; rfl) (lenOf pd__28_I_29_C rfl) rfl (by show 2 * 0 + _ ≤ _; exact Nat.le_of_eq rfl) (hb hby d470) (by decide) (by decide) ?_
  intro v_169 h_170 bk_171 O_172 z_173 Q_174
  obtain ⟨rfl, rfl, rfl⟩ := Q_174
  show Run p l e _ s m _ below meth c Z EL1 _ n0 bk h_161 2 23 (mkF m 105 #[.val (.ref a), .unset] [(.int ((cs).getD 10 0)), (.int (10 : Int32)), (.ref a_14), (.ref a_14), (.ref a_3), (.ref a_3)]) _
  refine k_stC hx V_166 ⟨by decide, by decide⟩ 10 (by decide) (Nat.le_of_ble_eq_true rfl) (by omega) nb_26 rfl rfl (hb hby d471) ?_
  intro h_175 O_176 W_177 A_178
  have z_179 := W_177.size
  have V_180 : Arv Z h_175 a_14 k_16 .char (19 : Int32) [(.int ((cs).getD 0 0)), (.int ((cs).getD 1 0)), (.int ((cs).getD 2 0)), (.int ((cs).getD 3 0)), (.int ((cs).getD 4 0)), (.int ((cs).getD 5 0)), (.int ((cs).getD 6 0)), (.int ((cs).getD 7 0)), (.int ((cs).getD 8 0)), (.int ((cs).getD 9 0)), (.int ((cs).getD 10 0)), (.int (0 : Int32)), (.int (0 : Int32)), (.int (0 : Int32)), (.int (0 : Int32)), (.int (0 : Int32)), (.int (0 : Int32)), (.int (0 : Int32)), (.int (0 : Int32))] (.int (0 : Int32)) := by rw [nr_ch (pf_0.2.2.2.2.1 _ (getD_mem cs 10 (by omega)))] at A_178; exact A_178
  show Run p l e _ s m _ below meth c Z EL1 _ n0 bk h_175 2 23 (mkF m 106 #[.val (.ref a), .unset] [(.ref a_14), (.ref a_3), (.ref a_3)]) _
  refine k_pure (g' := (mkF m 107 #[.val (.ref a), .unset] [(.ref a_14), (.ref a_14), (.ref a_3), (.ref a_3)])) (fun _ J _ j => XS.dup J hx rfl (hb hby d472) rfl rfl j) ?_
  refine k_pure (g' := (mkF m 109 #[.val (.ref a), .unset] [(.int (11 : Int32)), (.ref a_14), (.ref a_14), (.ref a_3), (.ref a_3)])) (fun _ J _ j => XS.bipush J hx rfl (hb hby d473) j) ?_
  refine k_pure (g' := (mkF m 110 #[.val (.ref a), .unset] [(.ref a), (.int (11 : Int32)), (.ref a_14), (.ref a_14), (.ref a_3), (.ref a_3)])) (fun _ J _ j => XS.aloadN J hx rfl (hb hby d474) rfl rfl j) ?_
  refine k_pure (g' := (mkF m 112 #[.val (.ref a), .unset] [(.int (11 : Int32)), (.ref a), (.int (11 : Int32)), (.ref a_14), (.ref a_14), (.ref a_3), (.ref a_3)])) (fun _ J _ j => XS.bipush J hx rfl (hb hby d475) j) ?_
  have F_181 : StrL Z h_175 a t kb cs := (F_167.other W_177 (ne_ad (by omega)) (ne_ad (by omega)))
  have F_182 : Exa Z h_175 a "java/lang/String" := (F_168.wr W_177)
  refine k_callV hx (y := (⟨"java/lang/String", "charAt", "(I)C"⟩ : MethodName)) (z := (⟨"java/lang/String", "charAt", "(I)C"⟩ : MethodName)) (wT 207 rfl) (wT 208 rfl) (fun s' hZ => notFace_of_selects (args := #[]) (mv hZ (wT 210 rfl))) (wT 210 rfl) (wT 209 rfl) (by decide) (W := 5) (a := a) (argsL := [(.int (11 : Int32))]) (rest := [(.int (11 : Int32)), (.ref a_14), (.ref a_14), (.ref a_3), (.ref a_3)]) (pay_ch (W := 5) hX O_176 F_181 11 (by omega) rfl (by decide) (by decide)) F_182 rfl (by rw [hml]; rfl) (lenOf pd__28_I_29_C rfl) rfl (by show 2 * 0 + _ ≤ _; exact Nat.le_of_eq rfl) (hb hby d476) (by decide) (by decide) ?_
  intro v_183 h_184 bk_185 O_186 z_187 Q_188
  obtain ⟨rfl, rfl, rfl⟩ := Q_188
  show Run p l e _ s m _ below meth c Z EL1 _ n0 bk h_175 2 23 (mkF m 115 #[.val (.ref a), .unset] [(.int ((cs).getD 11 0)), (.int (11 : Int32)), (.ref a_14), (.ref a_14), (.ref a_3), (.ref a_3)]) _
  refine k_stC hx V_180 ⟨by decide, by decide⟩ 11 (by decide) (Nat.le_of_ble_eq_true rfl) (by omega) nb_26 rfl rfl (hb hby d477) ?_
  intro h_189 O_190 W_191 A_192
  have z_193 := W_191.size
  have V_194 : Arv Z h_189 a_14 k_16 .char (19 : Int32) [(.int ((cs).getD 0 0)), (.int ((cs).getD 1 0)), (.int ((cs).getD 2 0)), (.int ((cs).getD 3 0)), (.int ((cs).getD 4 0)), (.int ((cs).getD 5 0)), (.int ((cs).getD 6 0)), (.int ((cs).getD 7 0)), (.int ((cs).getD 8 0)), (.int ((cs).getD 9 0)), (.int ((cs).getD 10 0)), (.int ((cs).getD 11 0)), (.int (0 : Int32)), (.int (0 : Int32)), (.int (0 : Int32)), (.int (0 : Int32)), (.int (0 : Int32)), (.int (0 : Int32)), (.int (0 : Int32))] (.int (0 : Int32)) := by rw [nr_ch (pf_0.2.2.2.2.1 _ (getD_mem cs 11 (by omega)))] at A_192; exact A_192
  show Run p l e _ s m _ below meth c Z EL1 _ n0 bk h_189 2 23 (mkF m 116 #[.val (.ref a), .unset] [(.ref a_14), (.ref a_3), (.ref a_3)]) _
  refine k_pure (g' := (mkF m 117 #[.val (.ref a), .unset] [(.ref a_14), (.ref a_14), (.ref a_3), (.ref a_3)])) (fun _ J _ j => XS.dup J hx rfl (hb hby d478) rfl rfl j) ?_
  refine k_pure (g' := (mkF m 119 #[.val (.ref a), .unset] [(.int (12 : Int32)), (.ref a_14), (.ref a_14), (.ref a_3), (.ref a_3)])) (fun _ J _ j => XS.bipush J hx rfl (hb hby d479) j) ?_
  refine k_pure (g' := (mkF m 120 #[.val (.ref a), .unset] [(.ref a), (.int (12 : Int32)), (.ref a_14), (.ref a_14), (.ref a_3), (.ref a_3)])) (fun _ J _ j => XS.aloadN J hx rfl (hb hby d480) rfl rfl j) ?_
  refine k_pure (g' := (mkF m 122 #[.val (.ref a), .unset] [(.int (12 : Int32)), (.ref a), (.int (12 : Int32)), (.ref a_14), (.ref a_14), (.ref a_3), (.ref a_3)])) (fun _ J _ j => XS.bipush J hx rfl (hb hby d481) j) ?_
  have F_195 : StrL Z h_189 a t kb cs := (F_181.other W_191 (ne_ad (by omega)) (ne_ad (by omega)))
  have F_196 : Exa Z h_189 a "java/lang/String" := (F_182.wr W_191)
  refine k_callV hx (y := (⟨"java/lang/String", "charAt", "(I)C"⟩ : MethodName)) (z := (⟨"java/lang/String", "charAt", "(I)C"⟩ : MethodName)) (wT 207 rfl) (wT 208 rfl) (fun s' hZ => notFace_of_selects (args := #[]) (mv hZ (wT 210 rfl))) (wT 210 rfl) (wT 209 rfl) (by decide) (W := 5) (a := a) (argsL := [(.int (12 : Int32))]) (rest := [(.int (12 : Int32)), (.ref a_14), (.ref a_14), (.ref a_3), (.ref a_3)]) (pay_ch (W := 5) hX O_190 F_195 12 (by omega) rfl (by decide) (by decide)) F_196 rfl (by rw [hml]; rfl) (lenOf pd__28_I_29_C rfl) rfl (by show 2 * 0 + _ ≤ _; exact Nat.le_of_eq rfl) (hb hby d482) (by decide) (by decide) ?_
  intro v_197 h_198 bk_199 O_200 z_201 Q_202
  obtain ⟨rfl, rfl, rfl⟩ := Q_202
  show Run p l e _ s m _ below meth c Z EL1 _ n0 bk h_189 2 23 (mkF m 125 #[.val (.ref a), .unset] [(.int ((cs).getD 12 0)), (.int (12 : Int32)), (.ref a_14), (.ref a_14), (.ref a_3), (.ref a_3)]) _
  refine k_stC hx V_194 ⟨by decide, by decide⟩ 12 (by decide) (Nat.le_of_ble_eq_true rfl) (by omega) nb_26 rfl rfl (hb hby d483) ?_
  intro h_203 O_204 W_205 A_206
  have z_207 := W_205.size
  have V_208 : Arv Z h_203 a_14 k_16 .char (19 : Int32) [(.int ((cs).getD 0 0)), (.int ((cs).getD 1 0)), (.int ((cs).getD 2 0)), (.int ((cs).getD 3 0)), (.int ((cs).getD 4 0)), (.int ((cs).getD 5 0)), (.int ((cs).getD 6 0)), (.int ((cs).getD 7 0)), (.int ((cs).getD 8 0)), (.int ((cs).getD 9 0)), (.int ((cs).getD 10 0)), (.int ((cs).getD 11 0)), (.int ((cs).getD 12 0)), (.int (0 : Int32)), (.int (0 : Int32)), (.int (0 : Int32)), (.int (0 : Int32)), (.int (0 : Int32)), (.int (0 : Int32))] (.int (0 : Int32)) := by rw [nr_ch (pf_0.2.2.2.2.1 _ (getD_mem cs 12 (by omega)))] at A_206; exact A_206
  show Run p l e _ s m _ below meth c Z EL1 _ n0 bk h_203 2 23 (mkF m 126 #[.val (.ref a), .unset] [(.ref a_14), (.ref a_3), (.ref a_3)]) _
  refine k_pure (g' := (mkF m 127 #[.val (.ref a), .unset] [(.ref a_14), (.ref a_14), (.ref a_3), (.ref a_3)])) (fun _ J _ j => XS.dup J hx rfl (hb hby d484) rfl rfl j) ?_
  refine k_pure (g' := (mkF m 129 #[.val (.ref a), .unset] [(.int (13 : Int32)), (.ref a_14), (.ref a_14), (.ref a_3), (.ref a_3)])) (fun _ J _ j => XS.bipush J hx rfl (hb hby d485) j) ?_
  refine k_pure (g' := (mkF m 130 #[.val (.ref a), .unset] [(.ref a), (.int (13 : Int32)), (.ref a_14), (.ref a_14), (.ref a_3), (.ref a_3)])) (fun _ J _ j => XS.aloadN J hx rfl (hb hby d486) rfl rfl j) ?_
  refine k_pure (g' := (mkF m 132 #[.val (.ref a), .unset] [(.int (13 : Int32)), (.ref a), (.int (13 : Int32)), (.ref a_14), (.ref a_14), (.ref a_3), (.ref a_3)])) (fun _ J _ j => XS.bipush J hx rfl (hb hby d487) j) ?_
  have F_209 : StrL Z h_203 a t kb cs := (F_195.other W_205 (ne_ad (by omega)) (ne_ad (by omega)))
  have F_210 : Exa Z h_203 a "java/lang/String" := (F_196.wr W_205)
  refine k_callV hx (y := (⟨"java/lang/String", "charAt", "(I)C"⟩ : MethodName)) (z := (⟨"java/lang/String", "charAt", "(I)C"⟩ : MethodName)) (wT 207 rfl) (wT 208 rfl) (fun s' hZ => notFace_of_selects (args := #[]) (mv hZ (wT 210 rfl))) (wT 210 rfl) (wT 209 rfl) (by decide) (W := 5) (a := a) (argsL := [(.int (13 : Int32))]) (rest := [(.int (13 : Int32)), (.ref a_14), (.ref a_14), (.ref a_3), (.ref a_3)]) (pay_ch (W := 5) hX O_204 F_209 13 (by omega) rfl (by decide) (by decide)) F_210 rfl (by rw [hml]; rfl) (lenOf pd__28_I_29_C rfl) rfl (by show 2 * 0 + _ ≤ _; exact Nat.le_of_eq rfl) (hb hby d488) (by decide) (by decide) ?_
  intro v_211 h_212 bk_213 O_214 z_215 Q_216
  obtain ⟨rfl, rfl, rfl⟩ := Q_216
  show Run p l e _ s m _ below meth c Z EL1 _ n0 bk h_203 2 23 (mkF m 135 #[.val (.ref a), .unset] [(.int ((cs).getD 13 0)), (.int (13 : Int32)), (.ref a_14), (.ref a_14), (.ref a_3), (.ref a_3)]) _
  refine k_stC hx V_208 ⟨by decide, by decide⟩ 13 (by decide) (Nat.le_of_ble_eq_true rfl) (by omega) nb_26 rfl rfl (hb hby d489) ?_
  intro h_217 O_218 W_219 A_220
  have z_221 := W_219.size
  have V_222 : Arv Z h_217 a_14 k_16 .char (19 : Int32) [(.int ((cs).getD 0 0)), (.int ((cs).getD 1 0)), (.int ((cs).getD 2 0)), (.int ((cs).getD 3 0)), (.int ((cs).getD 4 0)), (.int ((cs).getD 5 0)), (.int ((cs).getD 6 0)), (.int ((cs).getD 7 0)), (.int ((cs).getD 8 0)), (.int ((cs).getD 9 0)), (.int ((cs).getD 10 0)), (.int ((cs).getD 11 0)), (.int ((cs).getD 12 0)), (.int ((cs).getD 13 0)), (.int (0 : Int32)), (.int (0 : Int32)), (.int (0 : Int32)), (.int (0 : Int32)), (.int (0 : Int32))] (.int (0 : Int32)) := by rw [nr_ch (pf_0.2.2.2.2.1 _ (getD_mem cs 13 (by omega)))] at A_220; exact A_220
  show Run p l e _ s m _ below meth c Z EL1 _ n0 bk h_217 2 23 (mkF m 136 #[.val (.ref a), .unset] [(.ref a_14), (.ref a_3), (.ref a_3)]) _
  refine k_pure (g' := (mkF m 137 #[.val (.ref a), .unset] [(.ref a_14), (.ref a_14), (.ref a_3), (.ref a_3)])) (fun _ J _ j => XS.dup J hx rfl (hb hby d490) rfl rfl j) ?_
  refine k_pure (g' := (mkF m 139 #[.val (.ref a), .unset] [(.int (14 : Int32)), (.ref a_14), (.ref a_14), (.ref a_3), (.ref a_3)])) (fun _ J _ j => XS.bipush J hx rfl (hb hby d491) j) ?_
  refine k_pure (g' := (mkF m 140 #[.val (.ref a), .unset] [(.ref a), (.int (14 : Int32)), (.ref a_14), (.ref a_14), (.ref a_3), (.ref a_3)])) (fun _ J _ j => XS.aloadN J hx rfl (hb hby d492) rfl rfl j) ?_
  refine k_pure (g' := (mkF m 142 #[.val (.ref a), .unset] [(.int (14 : Int32)), (.ref a), (.int (14 : Int32)), (.ref a_14), (.ref a_14), (.ref a_3), (.ref a_3)])) (fun _ J _ j => XS.bipush J hx rfl (hb hby d493) j) ?_
  have F_223 : StrL Z h_217 a t kb cs := (F_209.other W_219 (ne_ad (by omega)) (ne_ad (by omega)))
  have F_224 : Exa Z h_217 a "java/lang/String" := (F_210.wr W_219)
  refine k_callV hx (y := (⟨"java/lang/String", "charAt", "(I)C"⟩ : MethodName)) (z := (⟨"java/lang/String", "charAt", "(I)C"⟩ : MethodName)) (wT 207 rfl) (wT 208 rfl) (fun s' hZ => notFace_of_selects (args := #[]) (mv hZ (wT 210 rfl))) (wT 210 rfl) (wT 209 rfl) (by decide) (W := 5) (a := a) (argsL := [(.int (14 : Int32))]) (rest := [(.int (14 : Int32)), (.ref a_14), (.ref a_14), (.ref a_3), (.ref a_3)]) (pay_ch (W := 5) hX O_218 F_223 14 (by omega) rfl (by decide) (by decide)) F_224 rfl (by rw [hml]; rfl) (lenOf pd__28_I_29_C rfl) rfl (by show 2 * 0 + _ ≤ _; exact Nat.le_of_eq rfl) (hb hby d494) (by decide) (by decide) ?_
  intro v_225 h_226 bk_227 O_228 z_229 Q_230
  obtain ⟨rfl, rfl, rfl⟩ := Q_230
  show Run p l e _ s m _ below meth c Z EL1 _ n0 bk h_217 2 23 (mkF m 145 #[.val (.ref a), .unset] [(.int ((cs).getD 14 0)), (.int (14 : Int32)), (.ref a_14), (.ref a_14), (.ref a_3), (.ref a_3)]) _
  refine k_stC hx V_222 ⟨by decide, by decide⟩ 14 (by decide) (Nat.le_of_ble_eq_true rfl) (by omega) nb_26 rfl rfl (hb hby d495) ?_
  intro h_231 O_232 W_233 A_234
  have z_235 := W_233.size
  have V_236 : Arv Z h_231 a_14 k_16 .char (19 : Int32) [(.int ((cs).getD 0 0)), (.int ((cs).getD 1 0)), (.int ((cs).getD 2 0)), (.int ((cs).getD 3 0)), (.int ((cs).getD 4 0)), (.int ((cs).getD 5 0)), (.int ((cs).getD 6 0)), (.int ((cs).getD 7 0)), (.int ((cs).getD 8 0)), (.int ((cs).getD 9 0)), (.int ((cs).getD 10 0)), (.int ((cs).getD 11 0)), (.int ((cs).getD 12 0)), (.int ((cs).getD 13 0)), (.int ((cs).getD 14 0)), (.int (0 : Int32)), (.int (0 : Int32)), (.int (0 : Int32)), (.int (0 : Int32))] (.int (0 : Int32)) := by rw [nr_ch (pf_0.2.2.2.2.1 _ (getD_mem cs 14 (by omega)))] at A_234; exact A_234
  show Run p l e _ s m _ below meth c Z EL1 _ n0 bk h_231 2 23 (mkF m 146 #[.val (.ref a), .unset] [(.ref a_14), (.ref a_3), (.ref a_3)]) _
  refine k_pure (g' := (mkF m 147 #[.val (.ref a), .unset] [(.ref a_14), (.ref a_14), (.ref a_3), (.ref a_3)])) (fun _ J _ j => XS.dup J hx rfl (hb hby d496) rfl rfl j) ?_
  refine k_pure (g' := (mkF m 149 #[.val (.ref a), .unset] [(.int (15 : Int32)), (.ref a_14), (.ref a_14), (.ref a_3), (.ref a_3)])) (fun _ J _ j => XS.bipush J hx rfl (hb hby d497) j) ?_
  refine k_pure (g' := (mkF m 150 #[.val (.ref a), .unset] [(.ref a), (.int (15 : Int32)), (.ref a_14), (.ref a_14), (.ref a_3), (.ref a_3)])) (fun _ J _ j => XS.aloadN J hx rfl (hb hby d498) rfl rfl j) ?_
  refine k_pure (g' := (mkF m 152 #[.val (.ref a), .unset] [(.int (15 : Int32)), (.ref a), (.int (15 : Int32)), (.ref a_14), (.ref a_14), (.ref a_3), (.ref a_3)])) (fun _ J _ j => XS.bipush J hx rfl (hb hby d499) j) ?_
  have F_237 : StrL Z h_231 a t kb cs := (F_223.other W_233 (ne_ad (by omega)) (ne_ad (by omega)))
  have F_238 : Exa Z h_231 a "java/lang/String" := (F_224.wr W_233)
  refine k_callV hx (y := (⟨"java/lang/String", "charAt", "(I)C"⟩ : MethodName)) (z := (⟨"java/lang/String", "charAt", "(I)C"⟩ : MethodName)) (wT 207 rfl) (wT 208 rfl) (fun s' hZ => notFace_of_selects (args := #[]) (mv hZ (wT 210 rfl))) (wT 210 rfl) (wT 209 rfl) (by decide) (W := 5) (a := a) (argsL := [(.int (15 : Int32))]) (rest := [(.int (15 : Int32)), (.ref a_14), (.ref a_14), (.ref a_3), (.ref a_3)]) (pay_ch (W := 5) hX O_232 F_237 15 (by omega) rfl (by decide) (by decide)) F_238 rfl (by rw [hml]; rfl) (lenOf pd__28_I_29_C rfl) rfl (by show 2 * 0 + _ ≤ _; exact Nat.le_of_eq rfl) (hb hby d500) (by decide) (by decide) ?_
  intro v_239 h_240 bk_241 O_242 z_243 Q_244
  obtain ⟨rfl, rfl, rfl⟩ := Q_244
  show Run p l e _ s m _ below meth c Z EL1 _ n0 bk h_231 2 23 (mkF m 155 #[.val (.ref a), .unset] [(.int ((cs).getD 15 0)), (.int (15 : Int32)), (.ref a_14), (.ref a_14), (.ref a_3), (.ref a_3)]) _
  refine k_stC hx V_236 ⟨by decide, by decide⟩ 15 (by decide) (Nat.le_of_ble_eq_true rfl) (by omega) nb_26 rfl rfl (hb hby d501) ?_
  intro h_245 O_246 W_247 A_248
  have z_249 := W_247.size
  have V_250 : Arv Z h_245 a_14 k_16 .char (19 : Int32) [(.int ((cs).getD 0 0)), (.int ((cs).getD 1 0)), (.int ((cs).getD 2 0)), (.int ((cs).getD 3 0)), (.int ((cs).getD 4 0)), (.int ((cs).getD 5 0)), (.int ((cs).getD 6 0)), (.int ((cs).getD 7 0)), (.int ((cs).getD 8 0)), (.int ((cs).getD 9 0)), (.int ((cs).getD 10 0)), (.int ((cs).getD 11 0)), (.int ((cs).getD 12 0)), (.int ((cs).getD 13 0)), (.int ((cs).getD 14 0)), (.int ((cs).getD 15 0)), (.int (0 : Int32)), (.int (0 : Int32)), (.int (0 : Int32))] (.int (0 : Int32)) := by rw [nr_ch (pf_0.2.2.2.2.1 _ (getD_mem cs 15 (by omega)))] at A_248; exact A_248
  show Run p l e _ s m _ below meth c Z EL1 _ n0 bk h_245 2 23 (mkF m 156 #[.val (.ref a), .unset] [(.ref a_14), (.ref a_3), (.ref a_3)]) _
  refine k_pure (g' := (mkF m 157 #[.val (.ref a), .unset] [(.ref a_14), (.ref a_14), (.ref a_3), (.ref a_3)])) (fun _ J _ j => XS.dup J hx rfl (hb hby d502) rfl rfl j) ?_
  refine k_pure (g' := (mkF m 159 #[.val (.ref a), .unset] [(.int (16 : Int32)), (.ref a_14), (.ref a_14), (.ref a_3), (.ref a_3)])) (fun _ J _ j => XS.bipush J hx rfl (hb hby d503) j) ?_
  refine k_pure (g' := (mkF m 160 #[.val (.ref a), .unset] [(.ref a), (.int (16 : Int32)), (.ref a_14), (.ref a_14), (.ref a_3), (.ref a_3)])) (fun _ J _ j => XS.aloadN J hx rfl (hb hby d504) rfl rfl j) ?_
  refine k_pure (g' := (mkF m 162 #[.val (.ref a), .unset] [(.int (16 : Int32)), (.ref a), (.int (16 : Int32)), (.ref a_14), (.ref a_14), (.ref a_3), (.ref a_3)])) (fun _ J _ j => XS.bipush J hx rfl (hb hby d505) j) ?_
  have F_251 : StrL Z h_245 a t kb cs := (F_237.other W_247 (ne_ad (by omega)) (ne_ad (by omega)))
  have F_252 : Exa Z h_245 a "java/lang/String" := (F_238.wr W_247)
  refine k_callV hx (y := (⟨"java/lang/String", "charAt", "(I)C"⟩ : MethodName)) (z := (⟨"java/lang/String", "charAt", "(I)C"⟩ : MethodName)) (wT 207 rfl) (wT 208 rfl) (fun s' hZ => notFace_of_selects (args := #[]) (mv hZ (wT 210 rfl))) (wT 210 rfl) (wT 209 rfl) (by decide) (W := 5) (a := a) (argsL := [(.int (16 : Int32))]) (rest := [(.int (16 : Int32)), (.ref a_14), (.ref a_14), (.ref a_3), (.ref a_3)]) (pay_ch (W := 5) hX O_246 F_251 16 (by omega) rfl (by decide) (by decide)) F_252 rfl (by rw [hml]; rfl) (lenOf pd__28_I_29_C rfl) rfl (by show 2 * 0 + _ ≤ _; exact Nat.le_of_eq rfl) (hb hby d506) (by decide) (by decide) ?_
  intro v_253 h_254 bk_255 O_256 z_257 Q_258
  obtain ⟨rfl, rfl, rfl⟩ := Q_258
  show Run p l e _ s m _ below meth c Z EL1 _ n0 bk h_245 2 23 (mkF m 165 #[.val (.ref a), .unset] [(.int ((cs).getD 16 0)), (.int (16 : Int32)), (.ref a_14), (.ref a_14), (.ref a_3), (.ref a_3)]) _
  refine k_stC hx V_250 ⟨by decide, by decide⟩ 16 (by decide) (Nat.le_of_ble_eq_true rfl) (by omega) nb_26 rfl rfl (hb hby d507) ?_
  intro h_259 O_260 W_261 A_262
  have z_263 := W_261.size
  have V_264 : Arv Z h_259 a_14 k_16 .char (19 : Int32) [(.int ((cs).getD 0 0)), (.int ((cs).getD 1 0)), (.int ((cs).getD 2 0)), (.int ((cs).getD 3 0)), (.int ((cs).getD 4 0)), (.int ((cs).getD 5 0)), (.int ((cs).getD 6 0)), (.int ((cs).getD 7 0)), (.int ((cs).getD 8 0)), (.int ((cs).getD 9 0)), (.int ((cs).getD 10 0)), (.int ((cs).getD 11 0)), (.int ((cs).getD 12 0)), (.int ((cs).getD 13 0)), (.int ((cs).getD 14 0)), (.int ((cs).getD 15 0)), (.int ((cs).getD 16 0)), (.int (0 : Int32)), (.int (0 : Int32))] (.int (0 : Int32)) := by rw [nr_ch (pf_0.2.2.2.2.1 _ (getD_mem cs 16 (by omega)))] at A_262; exact A_262
  show Run p l e _ s m _ below meth c Z EL1 _ n0 bk h_259 2 23 (mkF m 166 #[.val (.ref a), .unset] [(.ref a_14), (.ref a_3), (.ref a_3)]) _
  refine k_pure (g' := (mkF m 167 #[.val (.ref a), .unset] [(.ref a_14), (.ref a_14), (.ref a_3), (.ref a_3)])) (fun _ J _ j => XS.dup J hx rfl (hb hby d508) rfl rfl j) ?_
  refine k_pure (g' := (mkF m 169 #[.val (.ref a), .unset] [(.int (17 : Int32)), (.ref a_14), (.ref a_14), (.ref a_3), (.ref a_3)])) (fun _ J _ j => XS.bipush J hx rfl (hb hby d509) j) ?_
  refine k_pure (g' := (mkF m 170 #[.val (.ref a), .unset] [(.ref a), (.int (17 : Int32)), (.ref a_14), (.ref a_14), (.ref a_3), (.ref a_3)])) (fun _ J _ j => XS.aloadN J hx rfl (hb hby d510) rfl rfl j) ?_
  refine k_pure (g' := (mkF m 172 #[.val (.ref a), .unset] [(.int (17 : Int32)), (.ref a), (.int (17 : Int32)), (.ref a_14), (.ref a_14), (.ref a_3), (.ref a_3)])) (fun _ J _ j => XS.bipush J hx rfl (hb hby d511) j) ?_
  have F_265 : StrL Z h_259 a t kb cs := (F_251.other W_261 (ne_ad (by omega)) (ne_ad (by omega)))
  have F_266 : Exa Z h_259 a "java/lang/String" := (F_252.wr W_261)
  refine k_callV hx (y := (⟨"java/lang/String", "charAt", "(I)C"⟩ : MethodName)) (z := (⟨"java/lang/String", "charAt", "(I)C"⟩ : MethodName)) (wT 207 rfl) (wT 208 rfl) (fun s' hZ => notFace_of_selects (args := #[]) (mv hZ (wT 210 rfl))) (wT 210 rfl) (wT 209 rfl) (by decide) (W := 5) (a := a) (argsL := [(.int (17 : Int32))]) (rest := [(.int (17 : Int32)), (.ref a_14), (.ref a_14), (.ref a_3), (.ref a_3)]) (pay_ch (W := 5) hX O_260 F_265 17 (by omega) rfl (by decide) (by decide)) F_266 rfl (by rw [hml]; rfl) (lenOf pd__28_I_29_C rfl) rfl (by show 2 * 0 + _ ≤ _; exact Nat.le_of_eq rfl) (hb hby d512) (by decide) (by decide) ?_
  intro v_267 h_268 bk_269 O_270 z_271 Q_272
  obtain ⟨rfl, rfl, rfl⟩ := Q_272
  show Run p l e _ s m _ below meth c Z EL1 _ n0 bk h_259 2 23 (mkF m 175 #[.val (.ref a), .unset] [(.int ((cs).getD 17 0)), (.int (17 : Int32)), (.ref a_14), (.ref a_14), (.ref a_3), (.ref a_3)]) _
  refine k_stC hx V_264 ⟨by decide, by decide⟩ 17 (by decide) (Nat.le_of_ble_eq_true rfl) (by omega) nb_26 rfl rfl (hb hby d513) ?_
  intro h_273 O_274 W_275 A_276
  have z_277 := W_275.size
  have V_278 : Arv Z h_273 a_14 k_16 .char (19 : Int32) [(.int ((cs).getD 0 0)), (.int ((cs).getD 1 0)), (.int ((cs).getD 2 0)), (.int ((cs).getD 3 0)), (.int ((cs).getD 4 0)), (.int ((cs).getD 5 0)), (.int ((cs).getD 6 0)), (.int ((cs).getD 7 0)), (.int ((cs).getD 8 0)), (.int ((cs).getD 9 0)), (.int ((cs).getD 10 0)), (.int ((cs).getD 11 0)), (.int ((cs).getD 12 0)), (.int ((cs).getD 13 0)), (.int ((cs).getD 14 0)), (.int ((cs).getD 15 0)), (.int ((cs).getD 16 0)), (.int ((cs).getD 17 0)), (.int (0 : Int32))] (.int (0 : Int32)) := by rw [nr_ch (pf_0.2.2.2.2.1 _ (getD_mem cs 17 (by omega)))] at A_276; exact A_276
  show Run p l e _ s m _ below meth c Z EL1 _ n0 bk h_273 2 23 (mkF m 176 #[.val (.ref a), .unset] [(.ref a_14), (.ref a_3), (.ref a_3)]) _
  refine k_pure (g' := (mkF m 177 #[.val (.ref a), .unset] [(.ref a_14), (.ref a_14), (.ref a_3), (.ref a_3)])) (fun _ J _ j => XS.dup J hx rfl (hb hby d514) rfl rfl j) ?_
  refine k_pure (g' := (mkF m 179 #[.val (.ref a), .unset] [(.int (18 : Int32)), (.ref a_14), (.ref a_14), (.ref a_3), (.ref a_3)])) (fun _ J _ j => XS.bipush J hx rfl (hb hby d515) j) ?_
  refine k_pure (g' := (mkF m 180 #[.val (.ref a), .unset] [(.ref a), (.int (18 : Int32)), (.ref a_14), (.ref a_14), (.ref a_3), (.ref a_3)])) (fun _ J _ j => XS.aloadN J hx rfl (hb hby d516) rfl rfl j) ?_
  refine k_pure (g' := (mkF m 182 #[.val (.ref a), .unset] [(.int (18 : Int32)), (.ref a), (.int (18 : Int32)), (.ref a_14), (.ref a_14), (.ref a_3), (.ref a_3)])) (fun _ J _ j => XS.bipush J hx rfl (hb hby d517) j) ?_
  have F_279 : StrL Z h_273 a t kb cs := (F_265.other W_275 (ne_ad (by omega)) (ne_ad (by omega)))
  have F_280 : Exa Z h_273 a "java/lang/String" := (F_266.wr W_275)
  refine k_callV hx (y := (⟨"java/lang/String", "charAt", "(I)C"⟩ : MethodName)) (z := (⟨"java/lang/String", "charAt", "(I)C"⟩ : MethodName)) (wT 207 rfl) (wT 208 rfl) (fun s' hZ => notFace_of_selects (args := #[]) (mv hZ (wT 210 rfl))) (wT 210 rfl) (wT 209 rfl) (by decide) (W := 5) (a := a) (argsL := [(.int (18 : Int32))]) (rest := [(.int (18 : Int32)), (.ref a_14), (.ref a_14), (.ref a_3), (.ref a_3)]) (pay_ch (W := 5) hX O_274 F_279 18 (by omega) rfl (by decide) (by decide)) F_280 rfl (by rw [hml]; rfl) (lenOf pd__28_I_29_C rfl) rfl (by show 2 * 0 + _ ≤ _; exact Nat.le_of_eq rfl) (hb hby d518) (by decide) (by decide) ?_
  intro v_281 h_282 bk_283 O_284 z_285 Q_286
  obtain ⟨rfl, rfl, rfl⟩ := Q_286
  show Run p l e _ s m _ below meth c Z EL1 _ n0 bk h_273 2 23 (mkF m 185 #[.val (.ref a), .unset] [(.int ((cs).getD 18 0)), (.int (18 : Int32)), (.ref a_14), (.ref a_14), (.ref a_3), (.ref a_3)]) _
  refine k_stC hx V_278 ⟨by decide, by decide⟩ 18 (by decide) (Nat.le_of_ble_eq_true rfl) (by omega) nb_26 rfl rfl (hb hby d519) ?_
  intro h_287 O_288 W_289 A_290
  have z_291 := W_289.size
  have V_292 : Arv Z h_287 a_14 k_16 .char (19 : Int32) [(.int ((cs).getD 0 0)), (.int ((cs).getD 1 0)), (.int ((cs).getD 2 0)), (.int ((cs).getD 3 0)), (.int ((cs).getD 4 0)), (.int ((cs).getD 5 0)), (.int ((cs).getD 6 0)), (.int ((cs).getD 7 0)), (.int ((cs).getD 8 0)), (.int ((cs).getD 9 0)), (.int ((cs).getD 10 0)), (.int ((cs).getD 11 0)), (.int ((cs).getD 12 0)), (.int ((cs).getD 13 0)), (.int ((cs).getD 14 0)), (.int ((cs).getD 15 0)), (.int ((cs).getD 16 0)), (.int ((cs).getD 17 0)), (.int ((cs).getD 18 0))] (.int (0 : Int32)) := by rw [nr_ch (pf_0.2.2.2.2.1 _ (getD_mem cs 18 (by omega)))] at A_290; exact A_290
  show Run p l e _ s m _ below meth c Z EL1 _ n0 bk h_287 2 23 (mkF m 186 #[.val (.ref a), .unset] [(.ref a_14), (.ref a_3), (.ref a_3)]) _
  have F_293 : Exa Z h_287 a_3 "java/lang/String" := ((((((((((((((((((((A_7.ext E_19).wr W_37).wr W_51).wr W_65).wr W_79).wr W_93).wr W_107).wr W_121).wr W_135).wr W_149).wr W_163).wr W_177).wr W_191).wr W_205).wr W_219).wr W_233).wr W_247).wr W_261).wr W_275).wr W_289)
  have F_294 : Fld Z h_287 a_3 "java/lang/String" "value" "[B" .null := (((((((((((((((((((((D_8 (Or.inr (wT 16 rfl)) (ty := (.array .byte)) (by decide)).ext E_19).other W_37 (Or.inl (ne_ad (by omega)))).other W_51 (Or.inl (ne_ad (by omega)))).other W_65 (Or.inl (ne_ad (by omega)))).other W_79 (Or.inl (ne_ad (by omega)))).other W_93 (Or.inl (ne_ad (by omega)))).other W_107 (Or.inl (ne_ad (by omega)))).other W_121 (Or.inl (ne_ad (by omega)))).other W_135 (Or.inl (ne_ad (by omega)))).other W_149 (Or.inl (ne_ad (by omega)))).other W_163 (Or.inl (ne_ad (by omega)))).other W_177 (Or.inl (ne_ad (by omega)))).other W_191 (Or.inl (ne_ad (by omega)))).other W_205 (Or.inl (ne_ad (by omega)))).other W_219 (Or.inl (ne_ad (by omega)))).other W_233 (Or.inl (ne_ad (by omega)))).other W_247 (Or.inl (ne_ad (by omega)))).other W_261 (Or.inl (ne_ad (by omega)))).other W_275 (Or.inl (ne_ad (by omega)))).other W_289 (Or.inl (ne_ad (by omega))))
  have F_295 : Fld Z h_287 a_3 "java/lang/String" "coder" "B" (.int (0 : Int32)) := (((((((((((((((((((((D_8 (Or.inr (wT 17 rfl)) (ty := .byte) (by decide)).ext E_19).other W_37 (Or.inl (ne_ad (by omega)))).other W_51 (Or.inl (ne_ad (by omega)))).other W_65 (Or.inl (ne_ad (by omega)))).other W_79 (Or.inl (ne_ad (by omega)))).other W_93 (Or.inl (ne_ad (by omega)))).other W_107 (Or.inl (ne_ad (by omega)))).other W_121 (Or.inl (ne_ad (by omega)))).other W_135 (Or.inl (ne_ad (by omega)))).other W_149 (Or.inl (ne_ad (by omega)))).other W_163 (Or.inl (ne_ad (by omega)))).other W_177 (Or.inl (ne_ad (by omega)))).other W_191 (Or.inl (ne_ad (by omega)))).other W_205 (Or.inl (ne_ad (by omega)))).other W_219 (Or.inl (ne_ad (by omega)))).other W_233 (Or.inl (ne_ad (by omega)))).other W_247 (Or.inl (ne_ad (by omega)))).other W_261 (Or.inl (ne_ad (by omega)))).other W_275 (Or.inl (ne_ad (by omega)))).other W_289 (Or.inl (ne_ad (by omega))))
  refine k_callI hx (y := (⟨"java/lang/String", "<init>", "([C)V"⟩ : MethodName)) rfl (wT 4 rfl) (wT 5 rfl) (wT 6 rfl) (by decide) (W := 1) (a := a_3) (argsL := [(.ref a_14)]) (rest := [(.ref a_3)]) (pay_new (W := 1) hX O_288 nb_13 (cs := [(cs.getD 0 0), (cs.getD 1 0), (cs.getD 2 0), (cs.getD 3 0), (cs.getD 4 0), (cs.getD 5 0), (cs.getD 6 0), (cs.getD 7 0), (cs.getD 8 0), (cs.getD 9 0), (cs.getD 10 0), (cs.getD 11 0), (cs.getD 12 0), (cs.getD 13 0), (cs.getD 14 0), (cs.getD 15 0), (cs.getD 16 0), (cs.getD 17 0), (cs.getD 18 0)]) F_293 F_294 F_295 V_292 19 rfl rfl (by decide) (by decide) (hp ▸ bd1) (by omega) (by decide) (by decide)) rfl (by rw [hml]; rfl) (lenOf pd__28__5b_C_29_V rfl) rfl (by show 2 * 0 + _ ≤ _; exact Nat.le_of_eq rfl) (hb hby d520) (by decide) (by decide) ?_
  intro v_296 h_297 bk_298 O_299 z_300 Q_301
  obtain ⟨rfl, rfl, K_302, a_303, k_304, ge_305, ge_306, S_307⟩ := Q_301
  have lt_308 : @LT.lt Nat _ a_3 (Array.size h_297) := S_307.lt1
  have lt_309 : @LT.lt Nat _ a_303 (Array.size h_297) := S_307.lt2
  show Run p l e _ s m _ below meth c Z EL1 _ n0 bk h_297 3 42 (mkF m 189 #[.val (.ref a), .unset] [(.ref a_3)]) _
  refine k_pure (g' := (mkF m 190 #[.val (.ref a), .val (.ref a_3)] [])) (fun _ J _ j => XS.astoreN J hx rfl (hb hby d521) rfl rfl (l' := #[.val (.ref a), .val (.ref a_3)]) rfl j) ?_
  refine k_pure (g' := (mkF m 191 #[.val (.ref a), .val (.ref a_3)] [(.ref a_3)])) (fun _ J _ j => XS.aloadN J hx rfl (hb hby d522) rfl rfl j) ?_
  refine k_ldcC hx (wT 239 rfl) hSA (by decide +kernel) (z := (Int32.ofNat lit1.length)) (vs := (lit1.map (fun c => c.toInt8.toInt32)).map Value.int) (by decide +kernel) (by decide) (by decide +kernel) rfl (hb hby d523) (n := 76) (by decide +kernel) (by decide) (by decide) (by decide) ?_
  intro h_310 a_311 a_316 k_317 bk_314 O_312 E_313 hbk_315 X_318 F_319 F_320 V_321 nl_322
  have z_323 := E_313.1
  have lt_324 : @LT.lt Nat _ a_311 (Array.size h_310) := X_318.lt
  have lt_325 : @LT.lt Nat _ a_316 (Array.size h_310) := V_321.lt
  have ne_326 : @Ne Nat a_3 a_311 := (nl_322 a_3 (show @LT.lt Nat _ a_3 (Array.size h_297) by omega) nb_13).1
  have ne_327 : @Ne Nat a_3 a_316 := (nl_322 a_3 (show @LT.lt Nat _ a_3 (Array.size h_297) by omega) nb_13).2
  have ne_328 : @Ne Nat a_14 a_311 := (nl_322 a_14 (show @LT.lt Nat _ a_14 (Array.size h_297) by omega) nb_26).1
  have ne_329 : @Ne Nat a_14 a_316 := (nl_322 a_14 (show @LT.lt Nat _ a_14 (Array.size h_297) by omega) nb_26).2
  have S_330 : StrL Z h_310 a_311 a_316 k_317 lit1 := ⟨X_318, F_319, F_320, V_321, bd1, by decide⟩
  have hbl_331 : ∀ y, bk y → @LT.lt Nat _ y (Array.size h_297) := fun y q => Nat.lt_of_lt_of_le (hbl_25 y q) (by omega)
  have nb_332 : ¬ bk_314 a_3 := fun q => (hbk_315 _ q).elim nb_13 (fun r => Nat.not_le_of_lt (show @LT.lt Nat _ a_3 (Array.size h_297) by omega) r.1)
  have nb_333 : ¬ bk_314 a_14 := fun q => (hbk_315 _ q).elim nb_26 (fun r => Nat.not_le_of_lt (show @LT.lt Nat _ a_14 (Array.size h_297) by omega) r.1)
  have hbl_334 : ∀ y, bk_314 y → @LT.lt Nat _ y (Array.size h_310) := fun y q => (hbk_315 y q).elim (fun r => Nat.lt_of_lt_of_le (hbl_331 y r) (by omega)) (fun r => r.2)
  have hbs_335 : ∀ y, bk_314 y → bk y ∨ (@LE.le Nat _ (Array.size h0) y ∧ @LT.lt Nat _ y (Array.size h_310)) := fun y q => (hbk_315 y q).imp id (fun r => ⟨Nat.le_trans (by omega) r.1, r.2⟩)
  show Run p l e _ s m _ below meth c Z EL1 _ n0 bk_314 h_310 5 122 (mkF m 193 #[.val (.ref a), .val (.ref a_3)] [(.ref a_311), (.ref a_3)]) _
  have F_336 : StrL Z h_310 a_3 a_303 k_304 [(cs.getD 0 0), (cs.getD 1 0), (cs.getD 2 0), (cs.getD 3 0), (cs.getD 4 0), (cs.getD 5 0), (cs.getD 6 0), (cs.getD 7 0), (cs.getD 8 0), (cs.getD 9 0), (cs.getD 10 0), (cs.getD 11 0), (cs.getD 12 0), (cs.getD 13 0), (cs.getD 14 0), (cs.getD 15 0), (cs.getD 16 0), (cs.getD 17 0), (cs.getD 18 0)] := (S_307.ext E_313)
  have F_337 : Exa Z h_310 a_3 "java/lang/String" := (S_307.1.ext E_313)
  refine k_callV hx (y := (⟨"java/lang/String", "equals", "(Ljava/lang/Object;)Z"⟩ : MethodName)) (z := (⟨"java/lang/String", "equals", "(Ljava/lang/Object;)Z"⟩ : MethodName)) (wT 240 rfl) (wT 241 rfl) (fun s' hZ => notFace_of_selects (args := #[]) (mv hZ (wT 243 rfl))) (wT 243 rfl) (wT 242 rfl) (by decide) (W := 0) (a := a_3) (argsL := [(.ref a_311)]) (rest := []) (pay_eq (W := 0) hX O_312 F_336 S_330 (by decide) (by decide)) F_337 rfl (by rw [hml]; rfl) (lenOf pd__28_Ljava_2f_lang_2f_Object_3b__29_Z rfl) rfl (by show 2 * 0 + _ ≤ _; exact Nat.le_of_eq rfl) (hb hby d524) (by decide) (by decide) ?_
  intro v_338 h_339 bk_340 O_341 z_342 Q_343
  obtain ⟨rfl, rfl, rfl⟩ := Q_343
  show Run p l e _ s m _ below meth c Z EL1 _ n0 bk_314 h_310 5 122 (mkF m 196 #[.val (.ref a), .val (.ref a_3)] [(.int (if [(cs.getD 0 0), (cs.getD 1 0), (cs.getD 2 0), (cs.getD 3 0), (cs.getD 4 0), (cs.getD 5 0), (cs.getD 6 0), (cs.getD 7 0), (cs.getD 8 0), (cs.getD 9 0), (cs.getD 10 0), (cs.getD 11 0), (cs.getD 12 0), (cs.getD 13 0), (cs.getD 14 0), (cs.getD 15 0), (cs.getD 16 0), (cs.getD 17 0), (cs.getD 18 0)] = lit1 then (1 : Int32) else 0))]) _
  exact k_retN hx hlk hret (by simp) (hb hby d525) (by decide) (by decide) ⟨(by rw [if_pos hp]; rfl), (fun y q => (hbs_335 y q).imp id (fun t => ⟨t.1, Nat.lt_of_lt_of_le t.2 (by omega)⟩)), ((((((((((((((((((((((((Keep.refl _ _).ext E_6).ext E_19).wr W_37 (Or.inr (by omega))).wr W_51 (Or.inr (by omega))).wr W_65 (Or.inr (by omega))).wr W_79 (Or.inr (by omega))).wr W_93 (Or.inr (by omega))).wr W_107 (Or.inr (by omega))).wr W_121 (Or.inr (by omega))).wr W_135 (Or.inr (by omega))).wr W_149 (Or.inr (by omega))).wr W_163 (Or.inr (by omega))).wr W_177 (Or.inr (by omega))).wr W_191 (Or.inr (by omega))).wr W_205 (Or.inr (by omega))).wr W_219 (Or.inr (by omega))).wr W_233 (Or.inr (by omega))).wr W_247 (Or.inr (by omega))).wr W_261 (Or.inr (by omega))).wr W_275 (Or.inr (by omega))).wr W_289 (Or.inr (by omega))).trans K_302 (kkS (Or.inr (by omega)) kk0)).ext E_313)⟩
def Q_suf (Z : State) (G1 : Int32) (G3 : Value) (us ss : Addr) (a : Addr) (t : Addr) (kb : ClassId) (cs : List Int32) (q : Nat) (h0 : Heap) (n0 : Nat) (bk : Addr → Prop) (v : Option Value) (h : Heap) (bk' : Addr → Prop) : Prop := v = some (.int (1 : Int32)) ∧ (∀ y, bk' y → bk y ∨ (@LE.le Nat _ (Array.size h0) y ∧ @LT.lt Nat _ y (Array.size h))) ∧ Keep h0 h []
theorem d526 : decode method_4_code 0 = .ok (.new 7, 3) := by decide +kernel
theorem d527 : decode method_4_code 3 = .ok (.dup, 1) := by decide +kernel
theorem d528 : decode method_4_code 4 = .ok (.bipush 13, 2) := by decide +kernel
theorem d529 : decode method_4_code 6 = .ok (.newarray .char, 2) := by decide +kernel
theorem d530 : decode method_4_code 8 = .ok (.dup, 1) := by decide +kernel
theorem d531 : decode method_4_code 9 = .ok (.iconst 0, 1) := by decide +kernel
theorem d532 : decode method_4_code 10 = .ok (.aload_n 0, 1) := by decide +kernel
theorem d533 : decode method_4_code 11 = .ok (.iload_n 1, 1) := by decide +kernel
theorem d534 : decode method_4_code 12 = .ok (.invokevirtual 43, 3) := by decide +kernel
theorem d535 : decode method_4_code 15 = .ok (.castore, 1) := by decide +kernel
theorem d536 : decode method_4_code 16 = .ok (.dup, 1) := by decide +kernel
theorem d537 : decode method_4_code 17 = .ok (.iconst 1, 1) := by decide +kernel
theorem d538 : decode method_4_code 18 = .ok (.aload_n 0, 1) := by decide +kernel
theorem d539 : decode method_4_code 19 = .ok (.iload_n 1, 1) := by decide +kernel
theorem d540 : decode method_4_code 20 = .ok (.iconst 1, 1) := by decide +kernel
theorem d541 : decode method_4_code 21 = .ok (.iadd, 1) := by decide +kernel
theorem d542 : decode method_4_code 22 = .ok (.invokevirtual 43, 3) := by decide +kernel
theorem d543 : decode method_4_code 25 = .ok (.castore, 1) := by decide +kernel
theorem d544 : decode method_4_code 26 = .ok (.dup, 1) := by decide +kernel
theorem d545 : decode method_4_code 27 = .ok (.iconst 2, 1) := by decide +kernel
theorem d546 : decode method_4_code 28 = .ok (.aload_n 0, 1) := by decide +kernel
theorem d547 : decode method_4_code 29 = .ok (.iload_n 1, 1) := by decide +kernel
theorem d548 : decode method_4_code 30 = .ok (.iconst 2, 1) := by decide +kernel
theorem d549 : decode method_4_code 31 = .ok (.iadd, 1) := by decide +kernel
theorem d550 : decode method_4_code 32 = .ok (.invokevirtual 43, 3) := by decide +kernel
theorem d551 : decode method_4_code 35 = .ok (.castore, 1) := by decide +kernel
theorem d552 : decode method_4_code 36 = .ok (.dup, 1) := by decide +kernel
theorem d553 : decode method_4_code 37 = .ok (.iconst 3, 1) := by decide +kernel
theorem d554 : decode method_4_code 38 = .ok (.aload_n 0, 1) := by decide +kernel
theorem d555 : decode method_4_code 39 = .ok (.iload_n 1, 1) := by decide +kernel
theorem d556 : decode method_4_code 40 = .ok (.iconst 3, 1) := by decide +kernel
theorem d557 : decode method_4_code 41 = .ok (.iadd, 1) := by decide +kernel
theorem d558 : decode method_4_code 42 = .ok (.invokevirtual 43, 3) := by decide +kernel
theorem d559 : decode method_4_code 45 = .ok (.castore, 1) := by decide +kernel
theorem d560 : decode method_4_code 46 = .ok (.dup, 1) := by decide +kernel
theorem d561 : decode method_4_code 47 = .ok (.iconst 4, 1) := by decide +kernel
theorem d562 : decode method_4_code 48 = .ok (.aload_n 0, 1) := by decide +kernel
theorem d563 : decode method_4_code 49 = .ok (.iload_n 1, 1) := by decide +kernel
theorem d564 : decode method_4_code 50 = .ok (.iconst 4, 1) := by decide +kernel
theorem d565 : decode method_4_code 51 = .ok (.iadd, 1) := by decide +kernel
theorem d566 : decode method_4_code 52 = .ok (.invokevirtual 43, 3) := by decide +kernel
theorem d567 : decode method_4_code 55 = .ok (.castore, 1) := by decide +kernel
theorem d568 : decode method_4_code 56 = .ok (.dup, 1) := by decide +kernel
theorem d569 : decode method_4_code 57 = .ok (.iconst 5, 1) := by decide +kernel
theorem d570 : decode method_4_code 58 = .ok (.aload_n 0, 1) := by decide +kernel
theorem d571 : decode method_4_code 59 = .ok (.iload_n 1, 1) := by decide +kernel
theorem d572 : decode method_4_code 60 = .ok (.iconst 5, 1) := by decide +kernel
theorem d573 : decode method_4_code 61 = .ok (.iadd, 1) := by decide +kernel
theorem d574 : decode method_4_code 62 = .ok (.invokevirtual 43, 3) := by decide +kernel
theorem d575 : decode method_4_code 65 = .ok (.castore, 1) := by decide +kernel
theorem d576 : decode method_4_code 66 = .ok (.dup, 1) := by decide +kernel
theorem d577 : decode method_4_code 67 = .ok (.bipush 6, 2) := by decide +kernel
theorem d578 : decode method_4_code 69 = .ok (.aload_n 0, 1) := by decide +kernel
theorem d579 : decode method_4_code 70 = .ok (.iload_n 1, 1) := by decide +kernel
theorem d580 : decode method_4_code 71 = .ok (.bipush 6, 2) := by decide +kernel
theorem d581 : decode method_4_code 73 = .ok (.iadd, 1) := by decide +kernel
theorem d582 : decode method_4_code 74 = .ok (.invokevirtual 43, 3) := by decide +kernel
theorem d583 : decode method_4_code 77 = .ok (.castore, 1) := by decide +kernel
theorem d584 : decode method_4_code 78 = .ok (.dup, 1) := by decide +kernel
theorem d585 : decode method_4_code 79 = .ok (.bipush 7, 2) := by decide +kernel
theorem d586 : decode method_4_code 81 = .ok (.aload_n 0, 1) := by decide +kernel
theorem d587 : decode method_4_code 82 = .ok (.iload_n 1, 1) := by decide +kernel
theorem d588 : decode method_4_code 83 = .ok (.bipush 7, 2) := by decide +kernel
theorem d589 : decode method_4_code 85 = .ok (.iadd, 1) := by decide +kernel
theorem d590 : decode method_4_code 86 = .ok (.invokevirtual 43, 3) := by decide +kernel
theorem d591 : decode method_4_code 89 = .ok (.castore, 1) := by decide +kernel
theorem d592 : decode method_4_code 90 = .ok (.dup, 1) := by decide +kernel
theorem d593 : decode method_4_code 91 = .ok (.bipush 8, 2) := by decide +kernel
theorem d594 : decode method_4_code 93 = .ok (.aload_n 0, 1) := by decide +kernel
theorem d595 : decode method_4_code 94 = .ok (.iload_n 1, 1) := by decide +kernel
theorem d596 : decode method_4_code 95 = .ok (.bipush 8, 2) := by decide +kernel
theorem d597 : decode method_4_code 97 = .ok (.iadd, 1) := by decide +kernel
theorem d598 : decode method_4_code 98 = .ok (.invokevirtual 43, 3) := by decide +kernel
theorem d599 : decode method_4_code 101 = .ok (.castore, 1) := by decide +kernel
theorem d600 : decode method_4_code 102 = .ok (.dup, 1) := by decide +kernel
theorem d601 : decode method_4_code 103 = .ok (.bipush 9, 2) := by decide +kernel
theorem d602 : decode method_4_code 105 = .ok (.aload_n 0, 1) := by decide +kernel
theorem d603 : decode method_4_code 106 = .ok (.iload_n 1, 1) := by decide +kernel
theorem d604 : decode method_4_code 107 = .ok (.bipush 9, 2) := by decide +kernel
theorem d605 : decode method_4_code 109 = .ok (.iadd, 1) := by decide +kernel
theorem d606 : decode method_4_code 110 = .ok (.invokevirtual 43, 3) := by decide +kernel
theorem d607 : decode method_4_code 113 = .ok (.castore, 1) := by decide +kernel
theorem d608 : decode method_4_code 114 = .ok (.dup, 1) := by decide +kernel
theorem d609 : decode method_4_code 115 = .ok (.bipush 10, 2) := by decide +kernel
theorem d610 : decode method_4_code 117 = .ok (.aload_n 0, 1) := by decide +kernel
theorem d611 : decode method_4_code 118 = .ok (.iload_n 1, 1) := by decide +kernel
theorem d612 : decode method_4_code 119 = .ok (.bipush 10, 2) := by decide +kernel
theorem d613 : decode method_4_code 121 = .ok (.iadd, 1) := by decide +kernel
theorem d614 : decode method_4_code 122 = .ok (.invokevirtual 43, 3) := by decide +kernel
theorem d615 : decode method_4_code 125 = .ok (.castore, 1) := by decide +kernel
theorem d616 : decode method_4_code 126 = .ok (.dup, 1) := by decide +kernel
theorem d617 : decode method_4_code 127 = .ok (.bipush 11, 2) := by decide +kernel
theorem d618 : decode method_4_code 129 = .ok (.aload_n 0, 1) := by decide +kernel
theorem d619 : decode method_4_code 130 = .ok (.iload_n 1, 1) := by decide +kernel
theorem d620 : decode method_4_code 131 = .ok (.bipush 11, 2) := by decide +kernel
theorem d621 : decode method_4_code 133 = .ok (.iadd, 1) := by decide +kernel
theorem d622 : decode method_4_code 134 = .ok (.invokevirtual 43, 3) := by decide +kernel
theorem d623 : decode method_4_code 137 = .ok (.castore, 1) := by decide +kernel
theorem d624 : decode method_4_code 138 = .ok (.dup, 1) := by decide +kernel
theorem d625 : decode method_4_code 139 = .ok (.bipush 12, 2) := by decide +kernel
theorem d626 : decode method_4_code 141 = .ok (.aload_n 0, 1) := by decide +kernel
theorem d627 : decode method_4_code 142 = .ok (.iload_n 1, 1) := by decide +kernel
theorem d628 : decode method_4_code 143 = .ok (.bipush 12, 2) := by decide +kernel
theorem d629 : decode method_4_code 145 = .ok (.iadd, 1) := by decide +kernel
theorem d630 : decode method_4_code 146 = .ok (.invokevirtual 43, 3) := by decide +kernel
theorem d631 : decode method_4_code 149 = .ok (.castore, 1) := by decide +kernel
theorem d632 : decode method_4_code 150 = .ok (.invokespecial 9, 3) := by decide +kernel
theorem d633 : decode method_4_code 153 = .ok (.astore_n 2, 1) := by decide +kernel
theorem d634 : decode method_4_code 154 = .ok (.aload_n 2, 1) := by decide +kernel
theorem d635 : decode method_4_code 155 = .ok (.ldc 57, 2) := by decide +kernel
theorem d636 : decode method_4_code 157 = .ok (.invokevirtual 53, 3) := by decide +kernel
theorem d637 : decode method_4_code 160 = .ok (.ireturn, 1) := by decide +kernel
abbrev RM_suf : Room := { frames := 4, cells := 5, slots := 86, locals := 66 }
theorem ef_suf (m : MethodId) (x0 : Addr) (x1 : Int32) : entryFrame m #[(.ref x0), (.int x1)] 3 = mkF m 0 #[.val (.ref x0), .val (.int x1), .unset] [] := by first | (simp [entryFrame, mkF, argsToLocals, Value.category]; done) | rfl
set_option maxRecDepth 65536 in
set_option maxHeartbeats 40000000 in
theorem rm_suf (l : Launch) (Z : State) (a0 : Array Value) (G1 : Int32) (G3 : Value) (us ss : Addr) (hX : Ctx Z a0 G1 G3) (hY : More Z us ss) (n0 : Nat) (bk : Addr → Prop) (h0 : Heap) (O0 : Old Z n0 h0) (a : Addr) (t : Addr) (kb : ClassId) (cs : List Int32) (q : Nat) (pf_0 : StrL Z h0 a t kb cs) (hp : [(cs.getD q 0), (cs.getD (q + 1) 0), (cs.getD (q + 2) 0), (cs.getD (q + 3) 0), (cs.getD (q + 4) 0), (cs.getD (q + 5) 0), (cs.getD (q + 6) 0), (cs.getD (q + 7) 0), (cs.getD (q + 8) 0), (cs.getD (q + 9) 0), (cs.getD (q + 10) 0), (cs.getD (q + 11) 0), (cs.getD (q + 12) 0)] = lit2) (l1 : q + 13 ≤ cs.length) (hbl : ∀ y, bk y → @LT.lt Nat _ y (Array.size h0)) (ws : List Jvm.Cond) : Met l Z EL1 n0 bk (⟨"com/example/lidmaat/lidmaat/http/RefusalMalformedPinLaw", "suffix", "(Ljava/lang/String;I)Z"⟩ : MethodName) method_4_code 3 (Option.some FieldType.boolean) RM_suf #[(.ref a), (.int (Int32.ofNat q))] h0 (Q_suf Z G1 G3 us ss a t kb cs q h0 n0 bk) ws := by
  have hX' := hX
  obtain ⟨hw, hE, S1, P1, S3, P3⟩ := hX'
  have hY' := hY
  obtain ⟨s_us, s_ss⟩ := hY'
  have hSA := sa_of hw
  have wT : ∀ (i : Nat) {d : Jvm.Cond}, tables_1[i]? = some d → d.before a0 Z = true := fun i d h => hw d (List.mem_of_getElem? h)
  have z0 : n0 ≤ h0.size := by rw [← O0.1]; exact O0.2.1
  refine Met.of (by decide +kernel) O0 hE ?_
  intro p e s m below meth c hx hby hml hret hlk hnm
  refine k_cast (ef_suf m a (Int32.ofNat q)) ?_
  show Run p l e _ s m _ below meth c Z EL1 _ n0 bk h0 0 0 (mkF m 0 #[.val (.ref a), .val (.int (Int32.ofNat q)), .unset] []) _
  have lt_1 : @LT.lt Nat _ a (Array.size h0) := pf_0.lt1
  have lt_2 : @LT.lt Nat _ t (Array.size h0) := pf_0.lt2
  refine k_newO hx (wT 0 rfl) (wT 1 rfl) (wT 2 rfl) rfl (hb hby d526) (by decide) (by decide) ?_
  intro h_4 a_3 g_10 O_5 E_6 A_7 D_8 U_9
  have z_11 := E_6.1
  have lt_12 : @LT.lt Nat _ a_3 (Array.size h_4) := A_7.lt
  have nb_13 : ¬ bk a_3 := fun q => Nat.not_le_of_lt (hbl _ q) (show @LE.le Nat _ (Array.size h0) a_3 by omega)
  show Run p l e _ s m _ below meth c Z EL1 _ n0 bk h_4 1 4 (mkF m 3 #[.val (.ref a), .val (.int (Int32.ofNat q)), .unset] [(.ref a_3)]) _
  refine k_pure (g' := (mkF m 4 #[.val (.ref a), .val (.int (Int32.ofNat q)), .unset] [(.ref a_3), (.ref a_3)])) (fun _ J _ j => XS.dup J hx rfl (hb hby d527) rfl rfl j) ?_
  refine k_pure (g' := (mkF m 6 #[.val (.ref a), .val (.int (Int32.ofNat q)), .unset] [(.int (13 : Int32)), (.ref a_3), (.ref a_3)])) (fun _ J _ j => XS.bipush J hx rfl (hb hby d528) j) ?_
  refine k_newP hx (wT 3 rfl) rfl (hb hby d529) rfl (by decide) (cap := 13) (by decide) (by decide) (by decide) (by decide) "[C" (by decide +kernel) ?_
  intro h_15 a_14 k_16 g_17 O_18 E_19 A_20 X_21
  have z_22 := E_19.1
  have lt_23 : @LT.lt Nat _ a_14 (Array.size h_15) := A_20.lt
  have V_24 : Arv Z h_15 a_14 k_16 .char (13 : Int32) [(.int (0 : Int32)), (.int (0 : Int32)), (.int (0 : Int32)), (.int (0 : Int32)), (.int (0 : Int32)), (.int (0 : Int32)), (.int (0 : Int32)), (.int (0 : Int32)), (.int (0 : Int32)), (.int (0 : Int32)), (.int (0 : Int32)), (.int (0 : Int32)), (.int (0 : Int32))] (.int (0 : Int32)) := Arv.pad A_20 (pad_rep [] (.int (0 : Int32)) 13)
  have hbl_25 : ∀ y, bk y → @LT.lt Nat _ y (Array.size h_4) := fun y q => Nat.lt_of_lt_of_le (hbl y q) (by omega)
  have nb_26 : ¬ bk a_14 := fun q => Nat.not_le_of_lt (hbl_25 _ q) (show @LE.le Nat _ (Array.size h_4) a_14 by omega)
  show Run p l e _ s m _ below meth c Z EL1 _ n0 bk h_15 2 17 (mkF m 8 #[.val (.ref a), .val (.int (Int32.ofNat q)), .unset] [(.ref a_14), (.ref a_3), (.ref a_3)]) _
  refine k_pure (g' := (mkF m 9 #[.val (.ref a), .val (.int (Int32.ofNat q)), .unset] [(.ref a_14), (.ref a_14), (.ref a_3), (.ref a_3)])) (fun _ J _ j => XS.dup J hx rfl (hb hby d530) rfl rfl j) ?_
  refine k_pure (g' := (mkF m 10 #[.val (.ref a), .val (.int (Int32.ofNat q)), .unset] [(.int (0 : Int32)), (.ref a_14), (.ref a_14), (.ref a_3), (.ref a_3)])) (fun _ J _ j => XS.iconst J hx rfl (hb hby d531) j) ?_
  refine k_pure (g' := (mkF m 11 #[.val (.ref a), .val (.int (Int32.ofNat q)), .unset] [(.ref a), (.int (0 : Int32)), (.ref a_14), (.ref a_14), (.ref a_3), (.ref a_3)])) (fun _ J _ j => XS.aloadN J hx rfl (hb hby d532) rfl rfl j) ?_
  refine k_pure (g' := (mkF m 12 #[.val (.ref a), .val (.int (Int32.ofNat q)), .unset] [(.int (Int32.ofNat q)), (.ref a), (.int (0 : Int32)), (.ref a_14), (.ref a_14), (.ref a_3), (.ref a_3)])) (fun _ J _ j => XS.iloadN J hx rfl (hb hby d533) rfl j) ?_
  have F_27 : StrL Z h_15 a t kb cs := ((pf_0.ext E_6).ext E_19)
  have F_28 : Exa Z h_15 a "java/lang/String" := ((pf_0.1.ext E_6).ext E_19)
  refine k_callV hx (y := (⟨"java/lang/String", "charAt", "(I)C"⟩ : MethodName)) (z := (⟨"java/lang/String", "charAt", "(I)C"⟩ : MethodName)) (wT 207 rfl) (wT 208 rfl) (fun s' hZ => notFace_of_selects (args := #[]) (mv hZ (wT 210 rfl))) (wT 210 rfl) (wT 209 rfl) (by decide) (W := 5) (a := a) (argsL := [(.int (Int32.ofNat q))]) (rest := [(.int (0 : Int32)), (.ref a_14), (.ref a_14), (.ref a_3), (.ref a_3)]) (pay_ch (W := 5) hX O_18 F_27 q (by omega) rfl (by decide) (by decide)) F_28 rfl (by rw [hml]; rfl) (lenOf pd__28_I_29_C rfl) rfl (by show 2 * 0 + _ ≤ _; exact Nat.le_of_eq rfl) (hb hby d534) (by decide) (by decide) ?_
  intro v_29 h_30 bk_31 O_32 z_33 Q_34
  obtain ⟨rfl, rfl, rfl⟩ := Q_34
  show Run p l e _ s m _ below meth c Z EL1 _ n0 bk h_15 2 17 (mkF m 15 #[.val (.ref a), .val (.int (Int32.ofNat q)), .unset] [(.int ((cs).getD q 0)), (.int (0 : Int32)), (.ref a_14), (.ref a_14), (.ref a_3), (.ref a_3)]) _
  refine k_stC hx V_24 ⟨by decide, by decide⟩ 0 (by decide) (Nat.le_of_ble_eq_true rfl) (by omega) nb_26 rfl rfl (hb hby d535) ?_
  intro h_35 O_36 W_37 A_38
  have z_39 := W_37.size
  have V_40 : Arv Z h_35 a_14 k_16 .char (13 : Int32) [(.int ((cs).getD q 0)), (.int (0 : Int32)), (.int (0 : Int32)), (.int (0 : Int32)), (.int (0 : Int32)), (.int (0 : Int32)), (.int (0 : Int32)), (.int (0 : Int32)), (.int (0 : Int32)), (.int (0 : Int32)), (.int (0 : Int32)), (.int (0 : Int32)), (.int (0 : Int32))] (.int (0 : Int32)) := by rw [nr_ch (pf_0.2.2.2.2.1 _ (getD_mem cs q (by omega)))] at A_38; exact A_38
  show Run p l e _ s m _ below meth c Z EL1 _ n0 bk h_35 2 17 (mkF m 16 #[.val (.ref a), .val (.int (Int32.ofNat q)), .unset] [(.ref a_14), (.ref a_3), (.ref a_3)]) _
  refine k_pure (g' := (mkF m 17 #[.val (.ref a), .val (.int (Int32.ofNat q)), .unset] [(.ref a_14), (.ref a_14), (.ref a_3), (.ref a_3)])) (fun _ J _ j => XS.dup J hx rfl (hb hby d536) rfl rfl j) ?_
  refine k_pure (g' := (mkF m 18 #[.val (.ref a), .val (.int (Int32.ofNat q)), .unset] [(.int (1 : Int32)), (.ref a_14), (.ref a_14), (.ref a_3), (.ref a_3)])) (fun _ J _ j => XS.iconst J hx rfl (hb hby d537) j) ?_
  refine k_pure (g' := (mkF m 19 #[.val (.ref a), .val (.int (Int32.ofNat q)), .unset] [(.ref a), (.int (1 : Int32)), (.ref a_14), (.ref a_14), (.ref a_3), (.ref a_3)])) (fun _ J _ j => XS.aloadN J hx rfl (hb hby d538) rfl rfl j) ?_
  refine k_pure (g' := (mkF m 20 #[.val (.ref a), .val (.int (Int32.ofNat q)), .unset] [(.int (Int32.ofNat q)), (.ref a), (.int (1 : Int32)), (.ref a_14), (.ref a_14), (.ref a_3), (.ref a_3)])) (fun _ J _ j => XS.iloadN J hx rfl (hb hby d539) rfl j) ?_
  refine k_pure (g' := (mkF m 21 #[.val (.ref a), .val (.int (Int32.ofNat q)), .unset] [(.int (1 : Int32)), (.int (Int32.ofNat q)), (.ref a), (.int (1 : Int32)), (.ref a_14), (.ref a_14), (.ref a_3), (.ref a_3)])) (fun _ J _ j => XS.iconst J hx rfl (hb hby d540) j) ?_
  refine k_pure (g' := (mkF m 22 #[.val (.ref a), .val (.int (Int32.ofNat q)), .unset] [(.int ((Int32.ofNat q) + (1 : Int32))), (.ref a), (.int (1 : Int32)), (.ref a_14), (.ref a_14), (.ref a_3), (.ref a_3)])) (fun _ J _ j => XS.iadd J hx rfl (hb hby d541) rfl j) ?_
  have F_41 : StrL Z h_35 a t kb cs := (F_27.other W_37 (ne_ad (by omega)) (ne_ad (by omega)))
  have F_42 : Exa Z h_35 a "java/lang/String" := (F_28.wr W_37)
  refine k_callV hx (y := (⟨"java/lang/String", "charAt", "(I)C"⟩ : MethodName)) (z := (⟨"java/lang/String", "charAt", "(I)C"⟩ : MethodName)) (wT 207 rfl) (wT 208 rfl) (fun s' hZ => notFace_of_selects (args := #[]) (mv hZ (wT 210 rfl))) (wT 210 rfl) (wT 209 rfl) (by decide) (W := 5) (a := a) (argsL := [(.int ((Int32.ofNat q) + (1 : Int32)))]) (rest := [(.int (1 : Int32)), (.ref a_14), (.ref a_14), (.ref a_3), (.ref a_3)]) (pay_ch (W := 5) hX O_36 F_41 (q + 1) (by omega) (add_n q 1) (by decide) (by decide)) F_42 rfl (by rw [hml]; rfl) (lenOf pd__28_I_29_C rfl) rfl (by show 2 * 0 + _ ≤ _; exact Nat.le_of_eq rfl) (hb hby d542) (by decide) (by decide) ?_
  intro v_43 h_44 bk_45 O_46 z_47 Q_48
  obtain ⟨rfl, rfl, rfl⟩ := Q_48
  show Run p l e _ s m _ below meth c Z EL1 _ n0 bk h_35 2 17 (mkF m 25 #[.val (.ref a), .val (.int (Int32.ofNat q)), .unset] [(.int ((cs).getD (q + 1) 0)), (.int (1 : Int32)), (.ref a_14), (.ref a_14), (.ref a_3), (.ref a_3)]) _
  refine k_stC hx V_40 ⟨by decide, by decide⟩ 1 (by decide) (Nat.le_of_ble_eq_true rfl) (by omega) nb_26 rfl rfl (hb hby d543) ?_
  intro h_49 O_50 W_51 A_52
  have z_53 := W_51.size
  have V_54 : Arv Z h_49 a_14 k_16 .char (13 : Int32) [(.int ((cs).getD q 0)), (.int ((cs).getD (q + 1) 0)), (.int (0 : Int32)), (.int (0 : Int32)), (.int (0 : Int32)), (.int (0 : Int32)), (.int (0 : Int32)), (.int (0 : Int32)), (.int (0 : Int32)), (.int (0 : Int32)), (.int (0 : Int32)), (.int (0 : Int32)), (.int (0 : Int32))] (.int (0 : Int32)) := by rw [nr_ch (pf_0.2.2.2.2.1 _ (getD_mem cs (q + 1) (by omega)))] at A_52; exact A_52
  show Run p l e _ s m _ below meth c Z EL1 _ n0 bk h_49 2 17 (mkF m 26 #[.val (.ref a), .val (.int (Int32.ofNat q)), .unset] [(.ref a_14), (.ref a_3), (.ref a_3)]) _
  refine k_pure (g' := (mkF m 27 #[.val (.ref a), .val (.int (Int32.ofNat q)), .unset] [(.ref a_14), (.ref a_14), (.ref a_3), (.ref a_3)])) (fun _ J _ j => XS.dup J hx rfl (hb hby d544) rfl rfl j) ?_
  refine k_pure (g' := (mkF m 28 #[.val (.ref a), .val (.int (Int32.ofNat q)), .unset] [(.int (2 : Int32)), (.ref a_14), (.ref a_14), (.ref a_3), (.ref a_3)])) (fun _ J _ j => XS.iconst J hx rfl (hb hby d545) j) ?_
  refine k_pure (g' := (mkF m 29 #[.val (.ref a), .val (.int (Int32.ofNat q)), .unset] [(.ref a), (.int (2 : Int32)), (.ref a_14), (.ref a_14), (.ref a_3), (.ref a_3)])) (fun _ J _ j => XS.aloadN J hx rfl (hb hby d546) rfl rfl j) ?_
  refine k_pure (g' := (mkF m 30 #[.val (.ref a), .val (.int (Int32.ofNat q)), .unset] [(.int (Int32.ofNat q)), (.ref a), (.int (2 : Int32)), (.ref a_14), (.ref a_14), (.ref a_3), (.ref a_3)])) (fun _ J _ j => XS.iloadN J hx rfl (hb hby d547) rfl j) ?_
  refine k_pure (g' := (mkF m 31 #[.val (.ref a), .val (.int (Int32.ofNat q)), .unset] [(.int (2 : Int32)), (.int (Int32.ofNat q)), (.ref a), (.int (2 : Int32)), (.ref a_14), (.ref a_14), (.ref a_3), (.ref a_3)])) (fun _ J _ j => XS.iconst J hx rfl (hb hby d548) j) ?_
  refine k_pure (g' := (mkF m 32 #[.val (.ref a), .val (.int (Int32.ofNat q)), .unset] [(.int ((Int32.ofNat q) + (2 : Int32))), (.ref a), (.int (2 : Int32)), (.ref a_14), (.ref a_14), (.ref a_3), (.ref a_3)])) (fun _ J _ j => XS.iadd J hx rfl (hb hby d549) rfl j) ?_
  have F_55 : StrL Z h_49 a t kb cs := (F_41.other W_51 (ne_ad (by omega)) (ne_ad (by omega)))
  have F_56 : Exa Z h_49 a "java/lang/String" := (F_42.wr W_51)
  refine k_callV hx (y := (⟨"java/lang/String", "charAt", "(I)C"⟩ : MethodName)) (z := (⟨"java/lang/String", "charAt", "(I)C"⟩ : MethodName)) (wT 207 rfl) (wT 208 rfl) (fun s' hZ => notFace_of_selects (args := #[]) (mv hZ (wT 210 rfl))) (wT 210 rfl) (wT 209 rfl) (by decide) (W := 5) (a := a) (argsL := [(.int ((Int32.ofNat q) + (2 : Int32)))]) (rest := [(.int (2 : Int32)), (.ref a_14), (.ref a_14), (.ref a_3), (.ref a_3)]) (pay_ch (W := 5) hX O_50 F_55 (q + 2) (by omega) (add_n q 2) (by decide) (by decide)) F_56 rfl (by rw [hml]; rfl) (lenOf pd__28_I_29_C rfl) rfl (by show 2 * 0 + _ ≤ _; exact Nat.le_of_eq rfl) (hb hby d550) (by decide) (by decide) ?_
  intro v_57 h_58 bk_59 O_60 z_61 Q_62
  obtain ⟨rfl, rfl, rfl⟩ := Q_62
  show Run p l e _ s m _ below meth c Z EL1 _ n0 bk h_49 2 17 (mkF m 35 #[.val (.ref a), .val (.int (Int32.ofNat q)), .unset] [(.int ((cs).getD (q + 2) 0)), (.int (2 : Int32)), (.ref a_14), (.ref a_14), (.ref a_3), (.ref a_3)]) _
  refine k_stC hx V_54 ⟨by decide, by decide⟩ 2 (by decide) (Nat.le_of_ble_eq_true rfl) (by omega) nb_26 rfl rfl (hb hby d551) ?_
  intro h_63 O_64 W_65 A_66
  have z_67 := W_65.size
  have V_68 : Arv Z h_63 a_14 k_16 .char (13 : Int32) [(.int ((cs).getD q 0)), (.int ((cs).getD (q + 1) 0)), (.int ((cs).getD (q + 2) 0)), (.int (0 : Int32)), (.int (0 : Int32)), (.int (0 : Int32)), (.int (0 : Int32)), (.int (0 : Int32)), (.int (0 : Int32)), (.int (0 : Int32)), (.int (0 : Int32)), (.int (0 : Int32)), (.int (0 : Int32))] (.int (0 : Int32)) := by rw [nr_ch (pf_0.2.2.2.2.1 _ (getD_mem cs (q + 2) (by omega)))] at A_66; exact A_66
  show Run p l e _ s m _ below meth c Z EL1 _ n0 bk h_63 2 17 (mkF m 36 #[.val (.ref a), .val (.int (Int32.ofNat q)), .unset] [(.ref a_14), (.ref a_3), (.ref a_3)]) _
  refine k_pure (g' := (mkF m 37 #[.val (.ref a), .val (.int (Int32.ofNat q)), .unset] [(.ref a_14), (.ref a_14), (.ref a_3), (.ref a_3)])) (fun _ J _ j => XS.dup J hx rfl (hb hby d552) rfl rfl j) ?_
  refine k_pure (g' := (mkF m 38 #[.val (.ref a), .val (.int (Int32.ofNat q)), .unset] [(.int (3 : Int32)), (.ref a_14), (.ref a_14), (.ref a_3), (.ref a_3)])) (fun _ J _ j => XS.iconst J hx rfl (hb hby d553) j) ?_
  refine k_pure (g' := (mkF m 39 #[.val (.ref a), .val (.int (Int32.ofNat q)), .unset] [(.ref a), (.int (3 : Int32)), (.ref a_14), (.ref a_14), (.ref a_3), (.ref a_3)])) (fun _ J _ j => XS.aloadN J hx rfl (hb hby d554) rfl rfl j) ?_
  refine k_pure (g' := (mkF m 40 #[.val (.ref a), .val (.int (Int32.ofNat q)), .unset] [(.int (Int32.ofNat q)), (.ref a), (.int (3 : Int32)), (.ref a_14), (.ref a_14), (.ref a_3), (.ref a_3)])) (fun _ J _ j => XS.iloadN J hx rfl (hb hby d555) rfl j) ?_
  refine k_pure (g' := (mkF m 41 #[.val (.ref a), .val (.int (Int32.ofNat q)), .unset] [(.int (3 : Int32)), (.int (Int32.ofNat q)), (.ref a), (.int (3 : Int32)), (.ref a_14), (.ref a_14), (.ref a_3), (.ref a_3)])) (fun _ J _ j => XS.iconst J hx rfl (hb hby d556) j) ?_
  refine k_pure (g' := (mkF m 42 #[.val (.ref a), .val (.int (Int32.ofNat q)), .unset] [(.int ((Int32.ofNat q) + (3 : Int32))), (.ref a), (.int (3 : Int32)), (.ref a_14), (.ref a_14), (.ref a_3), (.ref a_3)])) (fun _ J _ j => XS.iadd J hx rfl (hb hby d557) rfl j) ?_
  have F_69 : StrL Z h_63 a t kb cs := (F_55.other W_65 (ne_ad (by omega)) (ne_ad (by omega)))
  have F_70 : Exa Z h_63 a "java/lang/String" := (F_56.wr W_65)
  refine k_callV hx (y := (⟨"java/lang/String", "charAt", "(I)C"⟩ : MethodName)) (z := (⟨"java/lang/String", "charAt", "(I)C"⟩ : MethodName)) (wT 207 rfl) (wT 208 rfl) (fun s' hZ => notFace_of_selects (args := #[]) (mv hZ (wT 210 rfl))) (wT 210 rfl) (wT 209 rfl) (by decide) (W := 5) (a := a) (argsL := [(.int ((Int32.ofNat q) + (3 : Int32)))]) (rest := [(.int (3 : Int32)), (.ref a_14), (.ref a_14), (.ref a_3), (.ref a_3)]) (pay_ch (W := 5) hX O_64 F_69 (q + 3) (by omega) (add_n q 3) (by decide) (by decide)) F_70 rfl (by rw [hml]; rfl) (lenOf pd__28_I_29_C rfl) rfl (by show 2 * 0 + _ ≤ _; exact Nat.le_of_eq rfl) (hb hby d558) (by decide) (by decide) ?_
  intro v_71 h_72 bk_73 O_74 z_75 Q_76
  obtain ⟨rfl, rfl, rfl⟩ := Q_76
  show Run p l e _ s m _ below meth c Z EL1 _ n0 bk h_63 2 17 (mkF m 45 #[.val (.ref a), .val (.int (Int32.ofNat q)), .unset] [(.int ((cs).getD (q + 3) 0)), (.int (3 : Int32)), (.ref a_14), (.ref a_14), (.ref a_3), (.ref a_3)]) _
  refine k_stC hx V_68 ⟨by decide, by decide⟩ 3 (by decide) (Nat.le_of_ble_eq_true rfl) (by omega) nb_26 rfl rfl (hb hby d559) ?_
  intro h_77 O_78 W_79 A_80
  have z_81 := W_79.size
  have V_82 : Arv Z h_77 a_14 k_16 .char (13 : Int32) [(.int ((cs).getD q 0)), (.int ((cs).getD (q + 1) 0)), (.int ((cs).getD (q + 2) 0)), (.int ((cs).getD (q + 3) 0)), (.int (0 : Int32)), (.int (0 : Int32)), (.int (0 : Int32)), (.int (0 : Int32)), (.int (0 : Int32)), (.int (0 : Int32)), (.int (0 : Int32)), (.int (0 : Int32)), (.int (0 : Int32))] (.int (0 : Int32)) := by rw [nr_ch (pf_0.2.2.2.2.1 _ (getD_mem cs (q + 3) (by omega)))] at A_80; exact A_80
  show Run p l e _ s m _ below meth c Z EL1 _ n0 bk h_77 2 17 (mkF m 46 #[.val (.ref a), .val (.int (Int32.ofNat q)), .unset] [(.ref a_14), (.ref a_3), (.ref a_3)]) _
  refine k_pure (g' := (mkF m 47 #[.val (.ref a), .val (.int (Int32.ofNat q)), .unset] [(.ref a_14), (.ref a_14), (.ref a_3), (.ref a_3)])) (fun _ J _ j => XS.dup J hx rfl (hb hby d560) rfl rfl j) ?_
  refine k_pure (g' := (mkF m 48 #[.val (.ref a), .val (.int (Int32.ofNat q)), .unset] [(.int (4 : Int32)), (.ref a_14), (.ref a_14), (.ref a_3), (.ref a_3)])) (fun _ J _ j => XS.iconst J hx rfl (hb hby d561) j) ?_
  refine k_pure (g' := (mkF m 49 #[.val (.ref a), .val (.int (Int32.ofNat q)), .unset] [(.ref a), (.int (4 : Int32)), (.ref a_14), (.ref a_14), (.ref a_3), (.ref a_3)])) (fun _ J _ j => XS.aloadN J hx rfl (hb hby d562) rfl rfl j) ?_
  refine k_pure (g' := (mkF m 50 #[.val (.ref a), .val (.int (Int32.ofNat q)), .unset] [(.int (Int32.ofNat q)), (.ref a), (.int (4 : Int32)), (.ref a_14), (.ref a_14), (.ref a_3), (.ref a_3)])) (fun _ J _ j => XS.iloadN J hx rfl (hb hby d563) rfl j) ?_
  refine k_pure (g' := (mkF m 51 #[.val (.ref a), .val (.int (Int32.ofNat q)), .unset] [(.int (4 : Int32)), (.int (Int32.ofNat q)), (.ref a), (.int (4 : Int32)), (.ref a_14), (.ref a_14), (.ref a_3), (.ref a_3)])) (fun _ J _ j => XS.iconst J hx rfl (hb hby d564) j) ?_
  refine k_pure (g' := (mkF m 52 #[.val (.ref a), .val (.int (Int32.ofNat q)), .unset] [(.int ((Int32.ofNat q) + (4 : Int32))), (.ref a), (.int (4 : Int32)), (.ref a_14), (.ref a_14), (.ref a_3), (.ref a_3)])) (fun _ J _ j => XS.iadd J hx rfl (hb hby d565) rfl j) ?_
  have F_83 : StrL Z h_77 a t kb cs := (F_69.other W_79 (ne_ad (by omega)) (ne_ad (by omega)))
  have F_84 : Exa Z h_77 a "java/lang/String" := (F_70.wr W_79)
  refine k_callV hx (y := (⟨"java/lang/String", "charAt", "(I)C"⟩ : MethodName)) (z := (⟨"java/lang/String", "charAt", "(I)C"⟩ : MethodName)) (wT 207 rfl) (wT 208 rfl) (fun s' hZ => notFace_of_selects (args := #[]) (mv hZ (wT 210 rfl))) (wT 210 rfl) (wT 209 rfl) (by decide) (W := 5) (a := a) (argsL := [(.int ((Int32.ofNat q) + (4 : Int32)))]) (rest := [(.int (4 : Int32)), (.ref a_14), (.ref a_14), (.ref a_3), (.ref a_3)]) (pay_ch (W := 5) hX O_78 F_83 (q + 4) (by omega) (add_n q 4) (by decide) (by decide)) F_84 rfl (by rw [hml]; rfl) (lenOf pd__28_I_29_C rfl) rfl (by show 2 * 0 + _ ≤ _; exact Nat.le_of_eq rfl) (hb hby d566) (by decide) (by decide) ?_
  intro v_85 h_86 bk_87 O_88 z_89 Q_90
  obtain ⟨rfl, rfl, rfl⟩ := Q_90
  show Run p l e _ s m _ below meth c Z EL1 _ n0 bk h_77 2 17 (mkF m 55 #[.val (.ref a), .val (.int (Int32.ofNat q)), .unset] [(.int ((cs).getD (q + 4) 0)), (.int (4 : Int32)), (.ref a_14), (.ref a_14), (.ref a_3), (.ref a_3)]) _
  refine k_stC hx V_82 ⟨by decide, by decide⟩ 4 (by decide) (Nat.le_of_ble_eq_true rfl) (by omega) nb_26 rfl rfl (hb hby d567) ?_
  intro h_91 O_92 W_93 A_94
  have z_95 := W_93.size
  have V_96 : Arv Z h_91 a_14 k_16 .char (13 : Int32) [(.int ((cs).getD q 0)), (.int ((cs).getD (q + 1) 0)), (.int ((cs).getD (q + 2) 0)), (.int ((cs).getD (q + 3) 0)), (.int ((cs).getD (q + 4) 0)), (.int (0 : Int32)), (.int (0 : Int32)), (.int (0 : Int32)), (.int (0 : Int32)), (.int (0 : Int32)), (.int (0 : Int32)), (.int (0 : Int32)), (.int (0 : Int32))] (.int (0 : Int32)) := by rw [nr_ch (pf_0.2.2.2.2.1 _ (getD_mem cs (q + 4) (by omega)))] at A_94; exact A_94
  show Run p l e _ s m _ below meth c Z EL1 _ n0 bk h_91 2 17 (mkF m 56 #[.val (.ref a), .val (.int (Int32.ofNat q)), .unset] [(.ref a_14), (.ref a_3), (.ref a_3)]) _
  refine k_pure (g' := (mkF m 57 #[.val (.ref a), .val (.int (Int32.ofNat q)), .unset] [(.ref a_14), (.ref a_14), (.ref a_3), (.ref a_3)])) (fun _ J _ j => XS.dup J hx rfl (hb hby d568) rfl rfl j) ?_
  refine k_pure (g' := (mkF m 58 #[.val (.ref a), .val (.int (Int32.ofNat q)), .unset] [(.int (5 : Int32)), (.ref a_14), (.ref a_14), (.ref a_3), (.ref a_3)])) (fun _ J _ j => XS.iconst J hx rfl (hb hby d569) j) ?_
  refine k_pure (g' := (mkF m 59 #[.val (.ref a), .val (.int (Int32.ofNat q)), .unset] [(.ref a), (.int (5 : Int32)), (.ref a_14), (.ref a_14), (.ref a_3), (.ref a_3)])) (fun _ J _ j => XS.aloadN J hx rfl (hb hby d570) rfl rfl j) ?_
  refine k_pure (g' := (mkF m 60 #[.val (.ref a), .val (.int (Int32.ofNat q)), .unset] [(.int (Int32.ofNat q)), (.ref a), (.int (5 : Int32)), (.ref a_14), (.ref a_14), (.ref a_3), (.ref a_3)])) (fun _ J _ j => XS.iloadN J hx rfl (hb hby d571) rfl j) ?_
  refine k_pure (g' := (mkF m 61 #[.val (.ref a), .val (.int (Int32.ofNat q)), .unset] [(.int (5 : Int32)), (.int (Int32.ofNat q)), (.ref a), (.int (5 : Int32)), (.ref a_14), (.ref a_14), (.ref a_3), (.ref a_3)])) (fun _ J _ j => XS.iconst J hx rfl (hb hby d572) j) ?_
  refine k_pure (g' := (mkF m 62 #[.val (.ref a), .val (.int (Int32.ofNat q)), .unset] [(.int ((Int32.ofNat q) + (5 : Int32))), (.ref a), (.int (5 : Int32)), (.ref a_14), (.ref a_14), (.ref a_3), (.ref a_3)])) (fun _ J _ j => XS.iadd J hx rfl (hb hby d573) rfl j) ?_
  have F_97 : StrL Z h_91 a t kb cs := (F_83.other W_93 (ne_ad (by omega)) (ne_ad (by omega)))
  have F_98 : Exa Z h_91 a "java/lang/String" := (F_84.wr W_93)
  refine k_callV hx (y := (⟨"java/lang/String", "charAt", "(I)C"⟩ : MethodName)) (z := (⟨"java/lang/String", "charAt", "(I)C"⟩ : MethodName)) (wT 207 rfl) (wT 208 rfl) (fun s' hZ => notFace_of_selects (args := #[]) (mv hZ (wT 210 rfl))) (wT 210 rfl) (wT 209 rfl) (by decide) (W := 5) (a := a) (argsL := [(.int ((Int32.ofNat q) + (5 : Int32)))]) (rest := [(.int (5 : Int32)), (.ref a_14), (.ref a_14), (.ref a_3), (.ref a_3)]) (pay_ch (W := 5) hX O_92 F_97 (q + 5) (by omega) (add_n q 5) (by decide) (by decide)) F_98 rfl (by rw [hml]; rfl) (lenOf pd__28_I_29_C rfl) rfl (by show 2 * 0 + _ ≤ _; exact Nat.le_of_eq rfl) (hb hby d574) (by decide) (by decide) ?_
  intro v_99 h_100 bk_101 O_102 z_103 Q_104
  obtain ⟨rfl, rfl, rfl⟩ := Q_104
  show Run p l e _ s m _ below meth c Z EL1 _ n0 bk h_91 2 17 (mkF m 65 #[.val (.ref a), .val (.int (Int32.ofNat q)), .unset] [(.int ((cs).getD (q + 5) 0)), (.int (5 : Int32)), (.ref a_14), (.ref a_14), (.ref a_3), (.ref a_3)]) _
  refine k_stC hx V_96 ⟨by decide, by decide⟩ 5 (by decide) (Nat.le_of_ble_eq_true rfl) (by omega) nb_26 rfl rfl (hb hby d575) ?_
  intro h_105 O_106 W_107 A_108
  have z_109 := W_107.size
  have V_110 : Arv Z h_105 a_14 k_16 .char (13 : Int32) [(.int ((cs).getD q 0)), (.int ((cs).getD (q + 1) 0)), (.int ((cs).getD (q + 2) 0)), (.int ((cs).getD (q + 3) 0)), (.int ((cs).getD (q + 4) 0)), (.int ((cs).getD (q + 5) 0)), (.int (0 : Int32)), (.int (0 : Int32)), (.int (0 : Int32)), (.int (0 : Int32)), (.int (0 : Int32)), (.int (0 : Int32)), (.int (0 : Int32))] (.int (0 : Int32)) := by rw [nr_ch (pf_0.2.2.2.2.1 _ (getD_mem cs (q + 5) (by omega)))] at A_108; exact A_108
  show Run p l e _ s m _ below meth c Z EL1 _ n0 bk h_105 2 17 (mkF m 66 #[.val (.ref a), .val (.int (Int32.ofNat q)), .unset] [(.ref a_14), (.ref a_3), (.ref a_3)]) _
  refine k_pure (g' := (mkF m 67 #[.val (.ref a), .val (.int (Int32.ofNat q)), .unset] [(.ref a_14), (.ref a_14), (.ref a_3), (.ref a_3)])) (fun _ J _ j => XS.dup J hx rfl (hb hby d576) rfl rfl j) ?_
  refine k_pure (g' := (mkF m 69 #[.val (.ref a), .val (.int (Int32.ofNat q)), .unset] [(.int (6 : Int32)), (.ref a_14), (.ref a_14), (.ref a_3), (.ref a_3)])) (fun _ J _ j => XS.bipush J hx rfl (hb hby d577) j) ?_
  refine k_pure (g' := (mkF m 70 #[.val (.ref a), .val (.int (Int32.ofNat q)), .unset] [(.ref a), (.int (6 : Int32)), (.ref a_14), (.ref a_14), (.ref a_3), (.ref a_3)])) (fun _ J _ j => XS.aloadN J hx rfl (hb hby d578) rfl rfl j) ?_
  refine k_pure (g' := (mkF m 71 #[.val (.ref a), .val (.int (Int32.ofNat q)), .unset] [(.int (Int32.ofNat q)), (.ref a), (.int (6 : Int32)), (.ref a_14), (.ref a_14), (.ref a_3), (.ref a_3)])) (fun _ J _ j => XS.iloadN J hx rfl (hb hby d579) rfl j) ?_
  refine k_pure (g' := (mkF m 73 #[.val (.ref a), .val (.int (Int32.ofNat q)), .unset] [(.int (6 : Int32)), (.int (Int32.ofNat q)), (.ref a), (.int (6 : Int32)), (.ref a_14), (.ref a_14), (.ref a_3), (.ref a_3)])) (fun _ J _ j => XS.bipush J hx rfl (hb hby d580) j) ?_
  refine k_pure (g' := (mkF m 74 #[.val (.ref a), .val (.int (Int32.ofNat q)), .unset] [(.int ((Int32.ofNat q) + (6 : Int32))), (.ref a), (.int (6 : Int32)), (.ref a_14), (.ref a_14), (.ref a_3), (.ref a_3)])) (fun _ J _ j => XS.iadd J hx rfl (hb hby d581) rfl j) ?_
  have F_111 : StrL Z h_105 a t kb cs := (F_97.other W_107 (ne_ad (by omega)) (ne_ad (by omega)))
  have F_112 : Exa Z h_105 a "java/lang/String" := (F_98.wr W_107)
  refine k_callV hx (y := (⟨"java/lang/String", "charAt", "(I)C"⟩ : MethodName)) (z := (⟨"java/lang/String", "charAt", "(I)C"⟩ : MethodName)) (wT 207 rfl) (wT 208 rfl) (fun s' hZ => notFace_of_selects (args := #[]) (mv hZ (wT 210 rfl))) (wT 210 rfl) (wT 209 rfl) (by decide) (W := 5) (a := a) (argsL := [(.int ((Int32.ofNat q) + (6 : Int32)))]) (rest := [(.int (6 : Int32)), (.ref a_14), (.ref a_14), (.ref a_3), (.ref a_3)]) (pay_ch (W := 5) hX O_106 F_111 (q + 6) (by omega) (add_n q 6) (by decide) (by decide)) F_112 rfl (by rw [hml]; rfl) (lenOf pd__28_I_29_C rfl) rfl (by show 2 * 0 + _ ≤ _; exact Nat.le_of_eq rfl) (hb hby d582) (by decide) (by decide) ?_
  intro v_113 h_114 bk_115 O_116 z_117 Q_118
  obtain ⟨rfl, rfl, rfl⟩ := Q_118
  show Run p l e _ s m _ below meth c Z EL1 _ n0 bk h_105 2 17 (mkF m 77 #[.val (.ref a), .val (.int (Int32.ofNat q)), .unset] [(.int ((cs).getD (q + 6) 0)), (.int (6 : Int32)), (.ref a_14), (.ref a_14), (.ref a_3), (.ref a_3)]) _
  refine k_stC hx V_110 ⟨by decide, by decide⟩ 6 (by decide) (Nat.le_of_ble_eq_true rfl) (by omega) nb_26 rfl rfl (hb hby d583) ?_
  intro h_119 O_120 W_121 A_122
  have z_123 := W_121.size
  have V_124 : Arv Z h_119 a_14 k_16 .char (13 : Int32) [(.int ((cs).getD q 0)), (.int ((cs).getD (q + 1) 0)), (.int ((cs).getD (q + 2) 0)), (.int ((cs).getD (q + 3) 0)), (.int ((cs).getD (q + 4) 0)), (.int ((cs).getD (q + 5) 0)), (.int ((cs).getD (q + 6) 0)), (.int (0 : Int32)), (.int (0 : Int32)), (.int (0 : Int32)), (.int (0 : Int32)), (.int (0 : Int32)), (.int (0 : Int32))] (.int (0 : Int32)) := by rw [nr_ch (pf_0.2.2.2.2.1 _ (getD_mem cs (q + 6) (by omega)))] at A_122; exact A_122
  show Run p l e _ s m _ below meth c Z EL1 _ n0 bk h_119 2 17 (mkF m 78 #[.val (.ref a), .val (.int (Int32.ofNat q)), .unset] [(.ref a_14), (.ref a_3), (.ref a_3)]) _
  refine k_pure (g' := (mkF m 79 #[.val (.ref a), .val (.int (Int32.ofNat q)), .unset] [(.ref a_14), (.ref a_14), (.ref a_3), (.ref a_3)])) (fun _ J _ j => XS.dup J hx rfl (hb hby d584) rfl rfl j) ?_
  refine k_pure (g' := (mkF m 81 #[.val (.ref a), .val (.int (Int32.ofNat q)), .unset] [(.int (7 : Int32)), (.ref a_14), (.ref a_14), (.ref a_3), (.ref a_3)])) (fun _ J _ j => XS.bipush J hx rfl (hb hby d585) j) ?_
  refine k_pure (g' := (mkF m 82 #[.val (.ref a), .val (.int (Int32.ofNat q)), .unset] [(.ref a), (.int (7 : Int32)), (.ref a_14), (.ref a_14), (.ref a_3), (.ref a_3)])) (fun _ J _ j => XS.aloadN J hx rfl (hb hby d586) rfl rfl j) ?_
  refine k_pure (g' := (mkF m 83 #[.val (.ref a), .val (.int (Int32.ofNat q)), .unset] [(.int (Int32.ofNat q)), (.ref a), (.int (7 : Int32)), (.ref a_14), (.ref a_14), (.ref a_3), (.ref a_3)])) (fun _ J _ j => XS.iloadN J hx rfl (hb hby d587) rfl j) ?_
  refine k_pure (g' := (mkF m 85 #[.val (.ref a), .val (.int (Int32.ofNat q)), .unset] [(.int (7 : Int32)), (.int (Int32.ofNat q)), (.ref a), (.int (7 : Int32)), (.ref a_14), (.ref a_14), (.ref a_3), (.ref a_3)])) (fun _ J _ j => XS.bipush J hx rfl (hb hby d588) j) ?_
  refine k_pure (g' := (mkF m 86 #[.val (.ref a), .val (.int (Int32.ofNat q)), .unset] [(.int ((Int32.ofNat q) + (7 : Int32))), (.ref a), (.int (7 : Int32)), (.ref a_14), (.ref a_14), (.ref a_3), (.ref a_3)])) (fun _ J _ j => XS.iadd J hx rfl (hb hby d589) rfl j) ?_
  have F_125 : StrL Z h_119 a t kb cs := (F_111.other W_121 (ne_ad (by omega)) (ne_ad (by omega)))
  have F_126 : Exa Z h_119 a "java/lang/String" := (F_112.wr W_121)
  refine k_callV hx (y := (⟨"java/lang/String", "charAt", "(I)C"⟩ : MethodName)) (z := (⟨"java/lang/String", "charAt", "(I)C"⟩ : MethodName)) (wT 207 rfl) (wT 208 rfl) (fun s' hZ => notFace_of_selects (args := #[]) (mv hZ (wT 210 rfl))) (wT 210 rfl) (wT 209 rfl) (by decide) (W := 5) (a := a) (argsL := [(.int ((Int32.ofNat q) + (7 : Int32)))]) (rest := [(.int (7 : Int32)), (.ref a_14), (.ref a_14), (.ref a_3), (.ref a_3)]) (pay_ch (W := 5) hX O_120 F_125 (q + 7) (by omega) (add_n q 7) (by decide) (by decide)) F_126 rfl (by rw [hml]; rfl) (lenOf pd__28_I_29_C rfl) rfl (by show 2 * 0 + _ ≤ _; exact Nat.le_of_eq rfl) (hb hby d590) (by decide) (by decide) ?_
  intro v_127 h_128 bk_129 O_130 z_131 Q_132
  obtain ⟨rfl, rfl, rfl⟩ := Q_132
  show Run p l e _ s m _ below meth c Z EL1 _ n0 bk h_119 2 17 (mkF m 89 #[.val (.ref a), .val (.int (Int32.ofNat q)), .unset] [(.int ((cs).getD (q + 7) 0)), (.int (7 : Int32)), (.ref a_14), (.ref a_14), (.ref a_3), (.ref a_3)]) _
  refine k_stC hx V_124 ⟨by decide, by decide⟩ 7 (by decide) (Nat.le_of_ble_eq_true rfl) (by omega) nb_26 rfl rfl (hb hby d591) ?_
  intro h_133 O_134 W_135 A_136
  have z_137 := W_135.size
  have V_138 : Arv Z h_133 a_14 k_16 .char (13 : Int32) [(.int ((cs).getD q 0)), (.int ((cs).getD (q + 1) 0)), (.int ((cs).getD (q + 2) 0)), (.int ((cs).getD (q + 3) 0)), (.int ((cs).getD (q + 4) 0)), (.int ((cs).getD (q + 5) 0)), (.int ((cs).getD (q + 6) 0)), (.int ((cs).getD (q + 7) 0)), (.int (0 : Int32)), (.int (0 : Int32)), (.int (0 : Int32)), (.int (0 : Int32)), (.int (0 : Int32))] (.int (0 : Int32)) := by rw [nr_ch (pf_0.2.2.2.2.1 _ (getD_mem cs (q + 7) (by omega)))] at A_136; exact A_136
  show Run p l e _ s m _ below meth c Z EL1 _ n0 bk h_133 2 17 (mkF m 90 #[.val (.ref a), .val (.int (Int32.ofNat q)), .unset] [(.ref a_14), (.ref a_3), (.ref a_3)]) _
  refine k_pure (g' := (mkF m 91 #[.val (.ref a), .val (.int (Int32.ofNat q)), .unset] [(.ref a_14), (.ref a_14), (.ref a_3), (.ref a_3)])) (fun _ J _ j => XS.dup J hx rfl (hb hby d592) rfl rfl j) ?_
  refine k_pure (g' := (mkF m 93 #[.val (.ref a), .val (.int (Int32.ofNat q)), .unset] [(.int (8 : Int32)), (.ref a_14), (.ref a_14), (.ref a_3), (.ref a_3)])) (fun _ J _ j => XS.bipush J hx rfl (hb hby d593) j) ?_
  refine k_pure (g' := (mkF m 94 #[.val (.ref a), .val (.int (Int32.ofNat q)), .unset] [(.ref a), (.int (8 : Int32)), (.ref a_14), (.ref a_14), (.ref a_3), (.ref a_3)])) (fun _ J _ j => XS.aloadN J hx rfl (hb hby d594) rfl rfl j) ?_
  refine k_pure (g' := (mkF m 95 #[.val (.ref a), .val (.int (Int32.ofNat q)), .unset] [(.int (Int32.ofNat q)), (.ref a), (.int (8 : Int32)), (.ref a_14), (.ref a_14), (.ref a_3), (.ref a_3)])) (fun _ J _ j => XS.iloadN J hx rfl (hb hby d595) rfl j) ?_
  refine k_pure (g' := (mkF m 97 #[.val (.ref a), .val (.int (Int32.ofNat q)), .unset] [(.int (8 : Int32)), (.int (Int32.ofNat q)), (.ref a), (.int (8 : Int32)), (.ref a_14), (.ref a_14), (.ref a_3), (.ref a_3)])) (fun _ J _ j => XS.bipush J hx rfl (hb hby d596) j) ?_
  refine k_pure (g' := (mkF m 98 #[.val (.ref a), .val (.int (Int32.ofNat q)), .unset] [(.int ((Int32.ofNat q) + (8 : Int32))), (.ref a), (.int (8 : Int32)), (.ref a_14), (.ref a_14), (.ref a_3), (.ref a_3)])) (fun _ J _ j => XS.iadd J hx rfl (hb hby d597) rfl j) ?_
  have F_139 : StrL Z h_133 a t kb cs := (F_125.other W_135 (ne_ad (by omega)) (ne_ad (by omega)))
  have F_140 : Exa Z h_133 a "java/lang/String" := (F_126.wr W_135)
  refine k_callV hx (y := (⟨"java/lang/String", "charAt", "(I)C"⟩ : MethodName)) (z := (⟨"java/lang/String", "charAt", "(I)C"⟩ : MethodName)) (wT 207 rfl) (wT 208 rfl) (fun s' hZ => notFace_of_selects (args := #[]) (mv hZ (wT 210 rfl))) (wT 210 rfl) (wT 209 rfl) (by decide) (W := 5) (a := a) (argsL := [(.int ((Int32.ofNat q) + (8 : Int32)))]) (rest := [(.int (8 : Int32)), (.ref a_14), (.ref a_14), (.ref a_3), (.ref a_3)]) (pay_ch (W := 5) hX O_134 F_139 (q + 8) (by omega) (add_n q 8) (by decide) (by decide)) F_140 rfl (by rw [hml]; rfl) (lenOf pd__28_I_29_C rfl) rfl (by show 2 * 0 + _ ≤ _; exact Nat.le_of_eq rfl) (hb hby d598) (by decide) (by decide) ?_
  intro v_141 h_142 bk_143 O_144 z_145 Q_146
  obtain ⟨rfl, rfl, rfl⟩ := Q_146
  show Run p l e _ s m _ below meth c Z EL1 _ n0 bk h_133 2 17 (mkF m 101 #[.val (.ref a), .val (.int (Int32.ofNat q)), .unset] [(.int ((cs).getD (q + 8) 0)), (.int (8 : Int32)), (.ref a_14), (.ref a_14), (.ref a_3), (.ref a_3)]) _
  refine k_stC hx V_138 ⟨by decide, by decide⟩ 8 (by decide) (Nat.le_of_ble_eq_true rfl) (by omega) nb_26 rfl rfl (hb hby d599) ?_
  intro h_147 O_148 W_149 A_150
  have z_151 := W_149.size
  have V_152 : Arv Z h_147 a_14 k_16 .char (13 : Int32) [(.int ((cs).getD q 0)), (.int ((cs).getD (q + 1) 0)), (.int ((cs).getD (q + 2) 0)), (.int ((cs).getD (q + 3) 0)), (.int ((cs).getD (q + 4) 0)), (.int ((cs).getD (q + 5) 0)), (.int ((cs).getD (q + 6) 0)), (.int ((cs).getD (q + 7) 0)), (.int ((cs).getD (q + 8) 0)), (.int (0 : Int32)), (.int (0 : Int32)), (.int (0 : Int32)), (.int (0 : Int32))] (.int (0 : Int32)) := by rw [nr_ch (pf_0.2.2.2.2.1 _ (getD_mem cs (q + 8) (by omega)))] at A_150; exact A_150
  show Run p l e _ s m _ below meth c Z EL1 _ n0 bk h_147 2 17 (mkF m 102 #[.val (.ref a), .val (.int (Int32.ofNat q)), .unset] [(.ref a_14), (.ref a_3), (.ref a_3)]) _
  refine k_pure (g' := (mkF m 103 #[.val (.ref a), .val (.int (Int32.ofNat q)), .unset] [(.ref a_14), (.ref a_14), (.ref a_3), (.ref a_3)])) (fun _ J _ j => XS.dup J hx rfl (hb hby d600) rfl rfl j) ?_
  refine k_pure (g' := (mkF m 105 #[.val (.ref a), .val (.int (Int32.ofNat q)), .unset] [(.int (9 : Int32)), (.ref a_14), (.ref a_14), (.ref a_3), (.ref a_3)])) (fun _ J _ j => XS.bipush J hx rfl (hb hby d601) j) ?_
  refine k_pure (g' := (mkF m 106 #[.val (.ref a), .val (.int (Int32.ofNat q)), .unset] [(.ref a), (.int (9 : Int32)), (.ref a_14), (.ref a_14), (.ref a_3), (.ref a_3)])) (fun _ J _ j => XS.aloadN J hx rfl (hb hby d602) rfl rfl j) ?_
  refine k_pure (g' := (mkF m 107 #[.val (.ref a), .val (.int (Int32.ofNat q)), .unset] [(.int (Int32.ofNat q)), (.ref a), (.int (9 : Int32)), (.ref a_14), (.ref a_14), (.ref a_3), (.ref a_3)])) (fun _ J _ j => XS.iloadN J hx rfl (hb hby d603) rfl j) ?_
  refine k_pure (g' := (mkF m 109 #[.val (.ref a), .val (.int (Int32.ofNat q)), .unset] [(.int (9 : Int32)), (.int (Int32.ofNat q)), (.ref a), (.int (9 : Int32)), (.ref a_14), (.ref a_14), (.ref a_3), (.ref a_3)])) (fun _ J _ j => XS.bipush J hx rfl (hb hby d604) j) ?_
  refine k_pure (g' := (mkF m 110 #[.val (.ref a), .val (.int (Int32.ofNat q)), .unset] [(.int ((Int32.ofNat q) + (9 : Int32))), (.ref a), (.int (9 : Int32)), (.ref a_14), (.ref a_14), (.ref a_3), (.ref a_3)])) (fun _ J _ j => XS.iadd J hx rfl (hb hby d605) rfl j) ?_
  have F_153 : StrL Z h_147 a t kb cs := (F_139.other W_149 (ne_ad (by omega)) (ne_ad (by omega)))
  have F_154 : Exa Z h_147 a "java/lang/String" := (F_140.wr W_149)
  refine k_callV hx (y := (⟨"java/lang/String", "charAt", "(I)C"⟩ : MethodName)) (z := (⟨"java/lang/String", "charAt", "(I)C"⟩ : MethodName)) (wT 207 rfl) (wT 208 rfl) (fun s' hZ => notFace_of_selects (args := #[]) (mv hZ (wT 210 rfl))) (wT 210 rfl) (wT 209 rfl) (by decide) (W := 5) (a := a) (argsL := [(.int ((Int32.ofNat q) + (9 : Int32)))]) (rest := [(.int (9 : Int32)), (.ref a_14), (.ref a_14), (.ref a_3), (.ref a_3)]) (pay_ch (W := 5) hX O_148 F_153 (q + 9) (by omega) (add_n q 9) (by decide) (by decide)) F_154 rfl (by rw [hml]; rfl) (lenOf pd__28_I_29_C rfl) rfl (by show 2 * 0 + _ ≤ _; exact Nat.le_of_eq rfl) (hb hby d606) (by decide) (by decide) ?_
  intro v_155 h_156 bk_157 O_158 z_159 Q_160
  obtain ⟨rfl, rfl, rfl⟩ := Q_160
  show Run p l e _ s m _ below meth c Z EL1 _ n0 bk h_147 2 17 (mkF m 113 #[.val (.ref a), .val (.int (Int32.ofNat q)), .unset] [(.int ((cs).getD (q + 9) 0)), (.int (9 : Int32)), (.ref a_14), (.ref a_14), (.ref a_3), (.ref a_3)]) _
  refine k_stC hx V_152 ⟨by decide, by decide⟩ 9 (by decide) (Nat.le_of_ble_eq_true rfl) (by omega) nb_26 rfl rfl (hb hby d607) ?_
  intro h_161 O_162 W_163 A_164
  have z_165 := W_163.size
  have V_166 : Arv Z h_161 a_14 k_16 .char (13 : Int32) [(.int ((cs).getD q 0)), (.int ((cs).getD (q + 1) 0)), (.int ((cs).getD (q + 2) 0)), (.int ((cs).getD (q + 3) 0)), (.int ((cs).getD (q + 4) 0)), (.int ((cs).getD (q + 5) 0)), (.int ((cs).getD (q + 6) 0)), (.int ((cs).getD (q + 7) 0)), (.int ((cs).getD (q + 8) 0)), (.int ((cs).getD (q + 9) 0)), (.int (0 : Int32)), (.int (0 : Int32)), (.int (0 : Int32))] (.int (0 : Int32)) := by rw [nr_ch (pf_0.2.2.2.2.1 _ (getD_mem cs (q + 9) (by omega)))] at A_164; exact A_164
  show Run p l e _ s m _ below meth c Z EL1 _ n0 bk h_161 2 17 (mkF m 114 #[.val (.ref a), .val (.int (Int32.ofNat q)), .unset] [(.ref a_14), (.ref a_3), (.ref a_3)]) _
  refine k_pure (g' := (mkF m 115 #[.val (.ref a), .val (.int (Int32.ofNat q)), .unset] [(.ref a_14), (.ref a_14), (.ref a_3), (.ref a_3)])) (fun _ J _ j => XS.dup J hx rfl (hb hby d608) rfl rfl j) ?_
  refine k_pure (g' := (mkF m 117 #[.val (.ref a), .val (.int (Int32.ofNat q)), .unset] [(.int (10 : Int32)), (.ref a_14), (.ref a_14), (.ref a_3), (.ref a_3)])) (fun _ J _ j => XS.bipush J hx rfl (hb hby d609) j) ?_
  refine k_pure (g' := (mkF m 118 #[.val (.ref a), .val (.int (Int32.ofNat q)), .unset] [(.ref a), (.int (10 : Int32)), (.ref a_14), (.ref a_14), (.ref a_3), (.ref a_3)])) (fun _ J _ j => XS.aloadN J hx rfl (hb hby d610) rfl rfl j) ?_
  refine k_pure (g' := (mkF m 119 #[.val (.ref a), .val (.int (Int32.ofNat q)), .unset] [(.int (Int32.ofNat q)), (.ref a), (.int (10 : Int32)), (.ref a_14), (.ref a_14), (.ref a_3), (.ref a_3)])) (fun _ J _ j => XS.iloadN J hx rfl (hb hby d611) rfl j) ?_
  refine k_pure (g' := (mkF m 121 #[.val (.ref a), .val (.int (Int32.ofNat q)), .unset] [(.int (10 : Int32)), (.int (Int32.ofNat q)), (.ref a), (.int (10 : Int32)), (.ref a_14), (.ref a_14), (.ref a_3), (.ref a_3)])) (fun _ J _ j => XS.bipush J hx rfl (hb hby d612) j) ?_
  refine k_pure (g' := (mkF m 122 #[.val (.ref a), .val (.int (Int32.ofNat q)), .unset] [(.int ((Int32.ofNat q) + (10 : Int32))), (.ref a), (.int (10 : Int32)), (.ref a_14), (.ref a_14), (.ref a_3), (.ref a_3)])) (fun _ J _ j => XS.iadd J hx rfl (hb hby d613) rfl j) ?_
  have F_167 : StrL Z h_161 a t kb cs := (F_153.other W_163 (ne_ad (by omega)) (ne_ad (by omega)))
  have F_168 : Exa Z h_161 a "java/lang/String" := (F_154.wr W_163)
  refine k_callV hx (y := (⟨"java/lang/String", "charAt", "(I)C"⟩ : MethodName)) (z := (⟨"java/lang/String", "charAt", "(I)C"⟩ : MethodName)) (wT 207 rfl) (wT 208 rfl) (fun s' hZ => notFace_of_selects (args := #[]) (mv hZ (wT 210 rfl))) (wT 210 rfl) (wT 209 rfl) (by decide) (W := 5) (a := a) (argsL := [(.int ((Int32.ofNat q) + (10 : Int32)))]) (rest := [(.int (10 : Int32)), (.ref a_14), (.ref a_14), (.ref a_3), (.ref a_3)]) (pay_ch (W := 5) hX O_162 F_167 (q + 10) (by omega) (add_n q 10) (by decide) (by decide)) F_168 rfl (by rw [hml]; rfl) (lenOf pd__28_I_29_C rfl) rfl (by show 2 * 0 + _ ≤ _; exact Nat.le_of_eq rfl) (hb hby d614) (by decide) (by decide) ?_
  intro v_169 h_170 bk_171 O_172 z_173 Q_174
  obtain ⟨rfl, rfl, rfl⟩ := Q_174
  show Run p l e _ s m _ below meth c Z EL1 _ n0 bk h_161 2 17 (mkF m 125 #[.val (.ref a), .val (.int (Int32.ofNat q)), .unset] [(.int ((cs).getD (q + 10) 0)), (.int (10 : Int32)), (.ref a_14), (.ref a_14), (.ref a_3), (.ref a_3)]) _
  refine k_stC hx V_166 ⟨by decide, by decide⟩ 10 (by decide) (Nat.le_of_ble_eq_true rfl) (by omega) nb_26 rfl rfl (hb hby d615) ?_
  intro h_175 O_176 W_177 A_178
  have z_179 := W_177.size
  have V_180 : Arv Z h_175 a_14 k_16 .char (13 : Int32) [(.int ((cs).getD q 0)), (.int ((cs).getD (q + 1) 0)), (.int ((cs).getD (q + 2) 0)), (.int ((cs).getD (q + 3) 0)), (.int ((cs).getD (q + 4) 0)), (.int ((cs).getD (q + 5) 0)), (.int ((cs).getD (q + 6) 0)), (.int ((cs).getD (q + 7) 0)), (.int ((cs).getD (q + 8) 0)), (.int ((cs).getD (q + 9) 0)), (.int ((cs).getD (q + 10) 0)), (.int (0 : Int32)), (.int (0 : Int32))] (.int (0 : Int32)) := by rw [nr_ch (pf_0.2.2.2.2.1 _ (getD_mem cs (q + 10) (by omega)))] at A_178; exact A_178
  show Run p l e _ s m _ below meth c Z EL1 _ n0 bk h_175 2 17 (mkF m 126 #[.val (.ref a), .val (.int (Int32.ofNat q)), .unset] [(.ref a_14), (.ref a_3), (.ref a_3)]) _
  refine k_pure (g' := (mkF m 127 #[.val (.ref a), .val (.int (Int32.ofNat q)), .unset] [(.ref a_14), (.ref a_14), (.ref a_3), (.ref a_3)])) (fun _ J _ j => XS.dup J hx rfl (hb hby d616) rfl rfl j) ?_
  refine k_pure (g' := (mkF m 129 #[.val (.ref a), .val (.int (Int32.ofNat q)), .unset] [(.int (11 : Int32)), (.ref a_14), (.ref a_14), (.ref a_3), (.ref a_3)])) (fun _ J _ j => XS.bipush J hx rfl (hb hby d617) j) ?_
  refine k_pure (g' := (mkF m 130 #[.val (.ref a), .val (.int (Int32.ofNat q)), .unset] [(.ref a), (.int (11 : Int32)), (.ref a_14), (.ref a_14), (.ref a_3), (.ref a_3)])) (fun _ J _ j => XS.aloadN J hx rfl (hb hby d618) rfl rfl j) ?_
  refine k_pure (g' := (mkF m 131 #[.val (.ref a), .val (.int (Int32.ofNat q)), .unset] [(.int (Int32.ofNat q)), (.ref a), (.int (11 : Int32)), (.ref a_14), (.ref a_14), (.ref a_3), (.ref a_3)])) (fun _ J _ j => XS.iloadN J hx rfl (hb hby d619) rfl j) ?_
  refine k_pure (g' := (mkF m 133 #[.val (.ref a), .val (.int (Int32.ofNat q)), .unset] [(.int (11 : Int32)), (.int (Int32.ofNat q)), (.ref a), (.int (11 : Int32)), (.ref a_14), (.ref a_14), (.ref a_3), (.ref a_3)])) (fun _ J _ j => XS.bipush J hx rfl (hb hby d620) j) ?_
  refine k_pure (g' := (mkF m 134 #[.val (.ref a), .val (.int (Int32.ofNat q)), .unset] [(.int ((Int32.ofNat q) + (11 : Int32))), (.ref a), (.int (11 : Int32)), (.ref a_14), (.ref a_14), (.ref a_3), (.ref a_3)])) (fun _ J _ j => XS.iadd J hx rfl (hb hby d621) rfl j) ?_
  have F_181 : StrL Z h_175 a t kb cs := (F_167.other W_177 (ne_ad (by omega)) (ne_ad (by omega)))
  have F_182 : Exa Z h_175 a "java/lang/String" := (F_168.wr W_177)
  refine k_callV hx (y := (⟨"java/lang/String", "charAt", "(I)C"⟩ : MethodName)) (z := (⟨"java/lang/String", "charAt", "(I)C"⟩ : MethodName)) (wT 207 rfl) (wT 208 rfl) (fun s' hZ => notFace_of_selects (args := #[]) (mv hZ (wT 210 rfl))) (wT 210 rfl) (wT 209 rfl) (by decide) (W := 5) (a := a) (argsL := [(.int ((Int32.ofNat q) + (11 : Int32)))]) (rest := [(.int (11 : Int32)), (.ref a_14), (.ref a_14), (.ref a_3), (.ref a_3)]) (pay_ch (W := 5) hX O_176 F_181 (q + 11) (by omega) (add_n q 11) (by decide) (by decide)) F_182 rfl (by rw [hml]; rfl) (lenOf pd__28_I_29_C rfl) rfl (by show 2 * 0 + _ ≤ _; exact Nat.le_of_eq rfl) (hb hby d622) (by decide) (by decide) ?_
  intro v_183 h_184 bk_185 O_186 z_187 Q_188
  obtain ⟨rfl, rfl, rfl⟩ := Q_188
  show Run p l e _ s m _ below meth c Z EL1 _ n0 bk h_175 2 17 (mkF m 137 #[.val (.ref a), .val (.int (Int32.ofNat q)), .unset] [(.int ((cs).getD (q + 11) 0)), (.int (11 : Int32)), (.ref a_14), (.ref a_14), (.ref a_3), (.ref a_3)]) _
  refine k_stC hx V_180 ⟨by decide, by decide⟩ 11 (by decide) (Nat.le_of_ble_eq_true rfl) (by omega) nb_26 rfl rfl (hb hby d623) ?_
  intro h_189 O_190 W_191 A_192
  have z_193 := W_191.size
  have V_194 : Arv Z h_189 a_14 k_16 .char (13 : Int32) [(.int ((cs).getD q 0)), (.int ((cs).getD (q + 1) 0)), (.int ((cs).getD (q + 2) 0)), (.int ((cs).getD (q + 3) 0)), (.int ((cs).getD (q + 4) 0)), (.int ((cs).getD (q + 5) 0)), (.int ((cs).getD (q + 6) 0)), (.int ((cs).getD (q + 7) 0)), (.int ((cs).getD (q + 8) 0)), (.int ((cs).getD (q + 9) 0)), (.int ((cs).getD (q + 10) 0)), (.int ((cs).getD (q + 11) 0)), (.int (0 : Int32))] (.int (0 : Int32)) := by rw [nr_ch (pf_0.2.2.2.2.1 _ (getD_mem cs (q + 11) (by omega)))] at A_192; exact A_192
  show Run p l e _ s m _ below meth c Z EL1 _ n0 bk h_189 2 17 (mkF m 138 #[.val (.ref a), .val (.int (Int32.ofNat q)), .unset] [(.ref a_14), (.ref a_3), (.ref a_3)]) _
  refine k_pure (g' := (mkF m 139 #[.val (.ref a), .val (.int (Int32.ofNat q)), .unset] [(.ref a_14), (.ref a_14), (.ref a_3), (.ref a_3)])) (fun _ J _ j => XS.dup J hx rfl (hb hby d624) rfl rfl j) ?_
  refine k_pure (g' := (mkF m 141 #[.val (.ref a), .val (.int (Int32.ofNat q)), .unset] [(.int (12 : Int32)), (.ref a_14), (.ref a_14), (.ref a_3), (.ref a_3)])) (fun _ J _ j => XS.bipush J hx rfl (hb hby d625) j) ?_
  refine k_pure (g' := (mkF m 142 #[.val (.ref a), .val (.int (Int32.ofNat q)), .unset] [(.ref a), (.int (12 : Int32)), (.ref a_14), (.ref a_14), (.ref a_3), (.ref a_3)])) (fun _ J _ j => XS.aloadN J hx rfl (hb hby d626) rfl rfl j) ?_
  refine k_pure (g' := (mkF m 143 #[.val (.ref a), .val (.int (Int32.ofNat q)), .unset] [(.int (Int32.ofNat q)), (.ref a), (.int (12 : Int32)), (.ref a_14), (.ref a_14), (.ref a_3), (.ref a_3)])) (fun _ J _ j => XS.iloadN J hx rfl (hb hby d627) rfl j) ?_
  refine k_pure (g' := (mkF m 145 #[.val (.ref a), .val (.int (Int32.ofNat q)), .unset] [(.int (12 : Int32)), (.int (Int32.ofNat q)), (.ref a), (.int (12 : Int32)), (.ref a_14), (.ref a_14), (.ref a_3), (.ref a_3)])) (fun _ J _ j => XS.bipush J hx rfl (hb hby d628) j) ?_
  refine k_pure (g' := (mkF m 146 #[.val (.ref a), .val (.int (Int32.ofNat q)), .unset] [(.int ((Int32.ofNat q) + (12 : Int32))), (.ref a), (.int (12 : Int32)), (.ref a_14), (.ref a_14), (.ref a_3), (.ref a_3)])) (fun _ J _ j => XS.iadd J hx rfl (hb hby d629) rfl j) ?_
  have F_195 : StrL Z h_189 a t kb cs := (F_181.other W_191 (ne_ad (by omega)) (ne_ad (by omega)))
  have F_196 : Exa Z h_189 a "java/lang/String" := (F_182.wr W_191)
  refine k_callV hx (y := (⟨"java/lang/String", "charAt", "(I)C"⟩ : MethodName)) (z := (⟨"java/lang/String", "charAt", "(I)C"⟩ : MethodName)) (wT 207 rfl) (wT 208 rfl) (fun s' hZ => notFace_of_selects (args := #[]) (mv hZ (wT 210 rfl))) (wT 210 rfl) (wT 209 rfl) (by decide) (W := 5) (a := a) (argsL := [(.int ((Int32.ofNat q) + (12 : Int32)))]) (rest := [(.int (12 : Int32)), (.ref a_14), (.ref a_14), (.ref a_3), (.ref a_3)]) (pay_ch (W := 5) hX O_190 F_195 (q + 12) (by omega) (add_n q 12) (by decide) (by decide)) F_196 rfl (by rw [hml]; rfl) (lenOf pd__28_I_29_C rfl) rfl (by show 2 * 0 + _ ≤ _; exact Nat.le_of_eq rfl) (hb hby d630) (by decide) (by decide) ?_
  intro v_197 h_198 bk_199 O_200 z_201 Q_202
  obtain ⟨rfl, rfl, rfl⟩ := Q_202
  show Run p l e _ s m _ below meth c Z EL1 _ n0 bk h_189 2 17 (mkF m 149 #[.val (.ref a), .val (.int (Int32.ofNat q)), .unset] [(.int ((cs).getD (q + 12) 0)), (.int (12 : Int32)), (.ref a_14), (.ref a_14), (.ref a_3), (.ref a_3)]) _
  refine k_stC hx V_194 ⟨by decide, by decide⟩ 12 (by decide) (Nat.le_of_ble_eq_true rfl) (by omega) nb_26 rfl rfl (hb hby d631) ?_
  intro h_203 O_204 W_205 A_206
  have z_207 := W_205.size
  have V_208 : Arv Z h_203 a_14 k_16 .char (13 : Int32) [(.int ((cs).getD q 0)), (.int ((cs).getD (q + 1) 0)), (.int ((cs).getD (q + 2) 0)), (.int ((cs).getD (q + 3) 0)), (.int ((cs).getD (q + 4) 0)), (.int ((cs).getD (q + 5) 0)), (.int ((cs).getD (q + 6) 0)), (.int ((cs).getD (q + 7) 0)), (.int ((cs).getD (q + 8) 0)), (.int ((cs).getD (q + 9) 0)), (.int ((cs).getD (q + 10) 0)), (.int ((cs).getD (q + 11) 0)), (.int ((cs).getD (q + 12) 0))] (.int (0 : Int32)) := by rw [nr_ch (pf_0.2.2.2.2.1 _ (getD_mem cs (q + 12) (by omega)))] at A_206; exact A_206
  show Run p l e _ s m _ below meth c Z EL1 _ n0 bk h_203 2 17 (mkF m 150 #[.val (.ref a), .val (.int (Int32.ofNat q)), .unset] [(.ref a_14), (.ref a_3), (.ref a_3)]) _
  have F_209 : Exa Z h_203 a_3 "java/lang/String" := ((((((((((((((A_7.ext E_19).wr W_37).wr W_51).wr W_65).wr W_79).wr W_93).wr W_107).wr W_121).wr W_135).wr W_149).wr W_163).wr W_177).wr W_191).wr W_205)
  have F_210 : Fld Z h_203 a_3 "java/lang/String" "value" "[B" .null := (((((((((((((((D_8 (Or.inr (wT 16 rfl)) (ty := (.array .byte)) (by decide)).ext E_19).other W_37 (Or.inl (ne_ad (by omega)))).other W_51 (Or.inl (ne_ad (by omega)))).other W_65 (Or.inl (ne_ad (by omega)))).other W_79 (Or.inl (ne_ad (by omega)))).other W_93 (Or.inl (ne_ad (by omega)))).other W_107 (Or.inl (ne_ad (by omega)))).other W_121 (Or.inl (ne_ad (by omega)))).other W_135 (Or.inl (ne_ad (by omega)))).other W_149 (Or.inl (ne_ad (by omega)))).other W_163 (Or.inl (ne_ad (by omega)))).other W_177 (Or.inl (ne_ad (by omega)))).other W_191 (Or.inl (ne_ad (by omega)))).other W_205 (Or.inl (ne_ad (by omega))))
  have F_211 : Fld Z h_203 a_3 "java/lang/String" "coder" "B" (.int (0 : Int32)) := (((((((((((((((D_8 (Or.inr (wT 17 rfl)) (ty := .byte) (by decide)).ext E_19).other W_37 (Or.inl (ne_ad (by omega)))).other W_51 (Or.inl (ne_ad (by omega)))).other W_65 (Or.inl (ne_ad (by omega)))).other W_79 (Or.inl (ne_ad (by omega)))).other W_93 (Or.inl (ne_ad (by omega)))).other W_107 (Or.inl (ne_ad (by omega)))).other W_121 (Or.inl (ne_ad (by omega)))).other W_135 (Or.inl (ne_ad (by omega)))).other W_149 (Or.inl (ne_ad (by omega)))).other W_163 (Or.inl (ne_ad (by omega)))).other W_177 (Or.inl (ne_ad (by omega)))).other W_191 (Or.inl (ne_ad (by omega)))).other W_205 (Or.inl (ne_ad (by omega))))
  refine k_callI hx (y := (⟨"java/lang/String", "<init>", "([C)V"⟩ : MethodName)) rfl (wT 4 rfl) (wT 5 rfl) (wT 6 rfl) (by decide) (W := 1) (a := a_3) (argsL := [(.ref a_14)]) (rest := [(.ref a_3)]) (pay_new (W := 1) hX O_204 nb_13 (cs := [(cs.getD q 0), (cs.getD (q + 1) 0), (cs.getD (q + 2) 0), (cs.getD (q + 3) 0), (cs.getD (q + 4) 0), (cs.getD (q + 5) 0), (cs.getD (q + 6) 0), (cs.getD (q + 7) 0), (cs.getD (q + 8) 0), (cs.getD (q + 9) 0), (cs.getD (q + 10) 0), (cs.getD (q + 11) 0), (cs.getD (q + 12) 0)]) F_209 F_210 F_211 V_208 13 rfl rfl (by decide) (by decide) (hp ▸ bd2) (by omega) (by decide) (by decide)) rfl (by rw [hml]; rfl) (lenOf pd__28__5b_C_29_V rfl) rfl (by show 2 * 0 + _ ≤ _; exact Nat.le_of_eq rfl) (hb hby d632) (by decide) (by decide) ?_
  intro v_212 h_213 bk_214 O_215 z_216 Q_217
  obtain ⟨rfl, rfl, K_218, a_219, k_220, ge_221, ge_222, S_223⟩ := Q_217
  have lt_224 : @LT.lt Nat _ a_3 (Array.size h_213) := S_223.lt1
  have lt_225 : @LT.lt Nat _ a_219 (Array.size h_213) := S_223.lt2
  show Run p l e _ s m _ below meth c Z EL1 _ n0 bk h_213 3 30 (mkF m 153 #[.val (.ref a), .val (.int (Int32.ofNat q)), .unset] [(.ref a_3)]) _
  refine k_pure (g' := (mkF m 154 #[.val (.ref a), .val (.int (Int32.ofNat q)), .val (.ref a_3)] [])) (fun _ J _ j => XS.astoreN J hx rfl (hb hby d633) rfl rfl (l' := #[.val (.ref a), .val (.int (Int32.ofNat q)), .val (.ref a_3)]) rfl j) ?_
  refine k_pure (g' := (mkF m 155 #[.val (.ref a), .val (.int (Int32.ofNat q)), .val (.ref a_3)] [(.ref a_3)])) (fun _ J _ j => XS.aloadN J hx rfl (hb hby d634) rfl rfl j) ?_
  refine k_ldcC hx (wT 252 rfl) hSA (by decide +kernel) (z := (Int32.ofNat lit2.length)) (vs := (lit2.map (fun c => c.toInt8.toInt32)).map Value.int) (by decide +kernel) (by decide) (by decide +kernel) rfl (hb hby d635) (n := 52) (by decide +kernel) (by decide) (by decide) (by decide) ?_
  intro h_226 a_227 a_232 k_233 bk_230 O_228 E_229 hbk_231 X_234 F_235 F_236 V_237 nl_238
  have z_239 := E_229.1
  have lt_240 : @LT.lt Nat _ a_227 (Array.size h_226) := X_234.lt
  have lt_241 : @LT.lt Nat _ a_232 (Array.size h_226) := V_237.lt
  have ne_242 : @Ne Nat a_3 a_227 := (nl_238 a_3 (show @LT.lt Nat _ a_3 (Array.size h_213) by omega) nb_13).1
  have ne_243 : @Ne Nat a_3 a_232 := (nl_238 a_3 (show @LT.lt Nat _ a_3 (Array.size h_213) by omega) nb_13).2
  have ne_244 : @Ne Nat a_14 a_227 := (nl_238 a_14 (show @LT.lt Nat _ a_14 (Array.size h_213) by omega) nb_26).1
  have ne_245 : @Ne Nat a_14 a_232 := (nl_238 a_14 (show @LT.lt Nat _ a_14 (Array.size h_213) by omega) nb_26).2
  have S_246 : StrL Z h_226 a_227 a_232 k_233 lit2 := ⟨X_234, F_235, F_236, V_237, bd2, by decide⟩
  have hbl_247 : ∀ y, bk y → @LT.lt Nat _ y (Array.size h_213) := fun y q => Nat.lt_of_lt_of_le (hbl_25 y q) (by omega)
  have nb_248 : ¬ bk_230 a_3 := fun q => (hbk_231 _ q).elim nb_13 (fun r => Nat.not_le_of_lt (show @LT.lt Nat _ a_3 (Array.size h_213) by omega) r.1)
  have nb_249 : ¬ bk_230 a_14 := fun q => (hbk_231 _ q).elim nb_26 (fun r => Nat.not_le_of_lt (show @LT.lt Nat _ a_14 (Array.size h_213) by omega) r.1)
  have hbl_250 : ∀ y, bk_230 y → @LT.lt Nat _ y (Array.size h_226) := fun y q => (hbk_231 y q).elim (fun r => Nat.lt_of_lt_of_le (hbl_247 y r) (by omega)) (fun r => r.2)
  have hbs_251 : ∀ y, bk_230 y → bk y ∨ (@LE.le Nat _ (Array.size h0) y ∧ @LT.lt Nat _ y (Array.size h_226)) := fun y q => (hbk_231 y q).imp id (fun r => ⟨Nat.le_trans (by omega) r.1, r.2⟩)
  show Run p l e _ s m _ below meth c Z EL1 _ n0 bk_230 h_226 5 86 (mkF m 157 #[.val (.ref a), .val (.int (Int32.ofNat q)), .val (.ref a_3)] [(.ref a_227), (.ref a_3)]) _
  have F_252 : StrL Z h_226 a_3 a_219 k_220 [(cs.getD q 0), (cs.getD (q + 1) 0), (cs.getD (q + 2) 0), (cs.getD (q + 3) 0), (cs.getD (q + 4) 0), (cs.getD (q + 5) 0), (cs.getD (q + 6) 0), (cs.getD (q + 7) 0), (cs.getD (q + 8) 0), (cs.getD (q + 9) 0), (cs.getD (q + 10) 0), (cs.getD (q + 11) 0), (cs.getD (q + 12) 0)] := (S_223.ext E_229)
  have F_253 : Exa Z h_226 a_3 "java/lang/String" := (S_223.1.ext E_229)
  refine k_callV hx (y := (⟨"java/lang/String", "equals", "(Ljava/lang/Object;)Z"⟩ : MethodName)) (z := (⟨"java/lang/String", "equals", "(Ljava/lang/Object;)Z"⟩ : MethodName)) (wT 240 rfl) (wT 241 rfl) (fun s' hZ => notFace_of_selects (args := #[]) (mv hZ (wT 243 rfl))) (wT 243 rfl) (wT 242 rfl) (by decide) (W := 0) (a := a_3) (argsL := [(.ref a_227)]) (rest := []) (pay_eq (W := 0) hX O_228 F_252 S_246 (by decide) (by decide)) F_253 rfl (by rw [hml]; rfl) (lenOf pd__28_Ljava_2f_lang_2f_Object_3b__29_Z rfl) rfl (by show 2 * 0 + _ ≤ _; exact Nat.le_of_eq rfl) (hb hby d636) (by decide) (by decide) ?_
  intro v_254 h_255 bk_256 O_257 z_258 Q_259
  obtain ⟨rfl, rfl, rfl⟩ := Q_259
  show Run p l e _ s m _ below meth c Z EL1 _ n0 bk_230 h_226 5 86 (mkF m 160 #[.val (.ref a), .val (.int (Int32.ofNat q)), .val (.ref a_3)] [(.int (if [(cs.getD q 0), (cs.getD (q + 1) 0), (cs.getD (q + 2) 0), (cs.getD (q + 3) 0), (cs.getD (q + 4) 0), (cs.getD (q + 5) 0), (cs.getD (q + 6) 0), (cs.getD (q + 7) 0), (cs.getD (q + 8) 0), (cs.getD (q + 9) 0), (cs.getD (q + 10) 0), (cs.getD (q + 11) 0), (cs.getD (q + 12) 0)] = lit2 then (1 : Int32) else 0))]) _
  exact k_retN hx hlk hret (by simp) (hb hby d637) (by decide) (by decide) ⟨(by rw [if_pos hp]; rfl), (fun y q => (hbs_251 y q).imp id (fun t => ⟨t.1, Nat.lt_of_lt_of_le t.2 (by omega)⟩)), ((((((((((((((((((Keep.refl _ _).ext E_6).ext E_19).wr W_37 (Or.inr (by omega))).wr W_51 (Or.inr (by omega))).wr W_65 (Or.inr (by omega))).wr W_79 (Or.inr (by omega))).wr W_93 (Or.inr (by omega))).wr W_107 (Or.inr (by omega))).wr W_121 (Or.inr (by omega))).wr W_135 (Or.inr (by omega))).wr W_149 (Or.inr (by omega))).wr W_163 (Or.inr (by omega))).wr W_177 (Or.inr (by omega))).wr W_191 (Or.inr (by omega))).wr W_205 (Or.inr (by omega))).trans K_218 (kkS (Or.inr (by omega)) kk0)).ext E_229)⟩
def Q_law (Z : State) (G1 : Int32) (G3 : Value) (us ss : Addr) (a : Int32) (b : Int32) (h0 : Heap) (n0 : Nat) (bk : Addr → Prop) (v : Option Value) (h : Heap) (bk' : Addr → Prop) : Prop := v = some (.int (1 : Int32)) ∧ (∀ y, bk' y → bk y ∨ (@LE.le Nat _ (Array.size h0) y ∧ @LT.lt Nat _ y (Array.size h))) ∧ Keep h0 h []
theorem pd__28_Ljava_2f_lang_2f_String_3b__29_Lcom_2f_example_2f_lidmaat_2f_lidmaat_2f_http_2f_Refusal_3b_ : parseMethodDescriptor "(Ljava/lang/String;)Lcom/example/lidmaat/lidmaat/http/Refusal;" = some ⟨[(.object "java/lang/String")], some (.object "com/example/lidmaat/lidmaat/http/Refusal")⟩ := by decide +kernel
theorem pd__28__29_Ljava_2f_lang_2f_Throwable_3b_ : parseMethodDescriptor "()Ljava/lang/Throwable;" = some ⟨[], some (.object "java/lang/Throwable")⟩ := by decide +kernel
theorem pd__28_Ljava_2f_lang_2f_String_3b__29_Z : parseMethodDescriptor "(Ljava/lang/String;)Z" = some ⟨[(.object "java/lang/String")], some .boolean⟩ := by decide +kernel
theorem pd__28_Ljava_2f_lang_2f_String_3b_I_29_Z : parseMethodDescriptor "(Ljava/lang/String;I)Z" = some ⟨[(.object "java/lang/String"), .int], some .boolean⟩ := by decide +kernel
theorem pd__28_C_29_Ljava_2f_lang_2f_String_3b_ : parseMethodDescriptor "(C)Ljava/lang/String;" = some ⟨[.char], some (.object "java/lang/String")⟩ := by decide +kernel
theorem ef_law (m : MethodId) (x0 : Int32) (x1 : Int32) : entryFrame m #[(.int x0), (.int x1)] maxLocals = mkF m 0 #[.val (.int x0), .val (.int x1), .unset, .unset, .unset, .unset, .unset, .unset, .unset] [] := by first | (simp [entryFrame, mkF, argsToLocals, Value.category, maxLocals]; done) | rfl
set_option maxRecDepth 65536 in
set_option maxHeartbeats 40000000 in
theorem rm_law (l : Launch) (Z : State) (a0 : Array Value) (G1 : Int32) (G3 : Value) (us ss : Addr) (hX : Ctx Z a0 G1 G3) (hY : More Z us ss) (n0 : Nat) (bk : Addr → Prop) (h0 : Heap) (O0 : Old Z n0 h0) (a : Int32) (b : Int32) (hbl : ∀ y, bk y → @LT.lt Nat _ y (Array.size h0)) (ws : List Jvm.Cond) : Met l Z EL1 n0 bk Jvm.Pilot.@@N@@.x code maxLocals ret room_1 #[(.int a), (.int b)] h0 (Q_law Z G1 G3 us ss a b h0 n0 bk) ws := by
  have hX' := hX
  obtain ⟨hw, hE, S1, P1, S3, P3⟩ := hX'
  have hY' := hY
  obtain ⟨s_us, s_ss⟩ := hY'
  have hSA := sa_of hw
  have wT : ∀ (i : Nat) {d : Jvm.Cond}, tables_1[i]? = some d → d.before a0 Z = true := fun i d h => hw d (List.mem_of_getElem? h)
  have z0 : n0 ≤ h0.size := by rw [← O0.1]; exact O0.2.1
  refine Met.of (by decide +kernel) O0 hE ?_
  intro p e s m below meth c hx hby hml hret hlk hnm
  refine k_cast (ef_law m a b) ?_
  refine k_pure (g' := (mkF m 1 #[.val (.int a), .val (.int b), .unset, .unset, .unset, .unset, .unset, .unset, .unset] [(.int a)])) (fun _ J _ j => XS.iloadN J hx rfl (hb hby at_0) rfl j) ?_
  refine k_pure (g' := (mkF m 2 #[.val (.int a), .val (.int b), .unset, .unset, .unset, .unset, .unset, .unset, .unset] [(.int (3 : Int32)), (.int a)])) (fun _ J _ j => XS.iconst J hx rfl (hb hby at_1) j) ?_
  refine k_pure (g' := (mkF m 3 #[.val (.int a), .val (.int b), .unset, .unset, .unset, .unset, .unset, .unset, .unset] [(.int (a &&& (3 : Int32)))])) (fun _ J _ j => XS.iand J hx rfl (hb hby at_2) rfl j) ?_
  refine k_pure (g' := (mkF m 4 #[.val (.int a), .val (.int b), .val (.int (a &&& (3 : Int32))), .unset, .unset, .unset, .unset, .unset, .unset] [])) (fun _ J _ j => XS.istoreN J hx rfl (hb hby at_3) rfl (l' := #[.val (.int a), .val (.int b), .val (.int (a &&& (3 : Int32))), .unset, .unset, .unset, .unset, .unset, .unset]) rfl j) ?_
  refine k_pure (g' := (mkF m 5 #[.val (.int a), .val (.int b), .val (.int (a &&& (3 : Int32))), .unset, .unset, .unset, .unset, .unset, .unset] [(.int b)])) (fun _ J _ j => XS.iloadN J hx rfl (hb hby at_4) rfl j) ?_
  refine k_pure (g' := (mkF m 8 #[.val (.int a), .val (.int b), .val (.int (a &&& (3 : Int32))), .unset, .unset, .unset, .unset, .unset, .unset] [(.int (255 : Int32)), (.int b)])) (fun _ J _ j => XS.sipush J hx rfl (hb hby at_5) j) ?_
  refine k_pure (g' := (mkF m 9 #[.val (.int a), .val (.int b), .val (.int (a &&& (3 : Int32))), .unset, .unset, .unset, .unset, .unset, .unset] [(.int (b &&& (255 : Int32)))])) (fun _ J _ j => XS.iand J hx rfl (hb hby at_8) rfl j) ?_
  refine k_pure (g' := (mkF m 10 #[.val (.int a), .val (.int b), .val (.int (a &&& (3 : Int32))), .unset, .unset, .unset, .unset, .unset, .unset] [(.int ((b &&& (255 : Int32)).toUInt32.toUInt16.toUInt32.toInt32))])) (fun _ J _ j => XS.i2c J hx rfl (hb hby at_9) rfl j) ?_
  refine k_pure (g' := (mkF m 11 #[.val (.int a), .val (.int b), .val (.int (a &&& (3 : Int32))), .val (.int ((b &&& (255 : Int32)).toUInt32.toUInt16.toUInt32.toInt32)), .unset, .unset, .unset, .unset, .unset] [])) (fun _ J _ j => XS.istoreN J hx rfl (hb hby at_10) rfl (l' := #[.val (.int a), .val (.int b), .val (.int (a &&& (3 : Int32))), .val (.int ((b &&& (255 : Int32)).toUInt32.toUInt16.toUInt32.toInt32)), .unset, .unset, .unset, .unset, .unset]) rfl j) ?_
  refine k_pure (g' := (mkF m 12 #[.val (.int a), .val (.int b), .val (.int (a &&& (3 : Int32))), .val (.int ((b &&& (255 : Int32)).toUInt32.toUInt16.toUInt32.toInt32)), .unset, .unset, .unset, .unset, .unset] [(.int b)])) (fun _ J _ j => XS.iloadN J hx rfl (hb hby at_11) rfl j) ?_
  refine k_pure (g' := (mkF m 14 #[.val (.int a), .val (.int b), .val (.int (a &&& (3 : Int32))), .val (.int ((b &&& (255 : Int32)).toUInt32.toUInt16.toUInt32.toInt32)), .unset, .unset, .unset, .unset, .unset] [(.int (8 : Int32)), (.int b)])) (fun _ J _ j => XS.bipush J hx rfl (hb hby at_12) j) ?_
  refine k_pure (g' := (mkF m 15 #[.val (.int a), .val (.int b), .val (.int (a &&& (3 : Int32))), .val (.int ((b &&& (255 : Int32)).toUInt32.toUInt16.toUInt32.toInt32)), .unset, .unset, .unset, .unset, .unset] [(.int ((b.toUInt32 >>> ((8 : Int32) &&& 31).toUInt32).toInt32))])) (fun _ J _ j => XS.iushr J hx rfl (hb hby at_14) rfl j) ?_
  refine k_pure (g' := (mkF m 18 #[.val (.int a), .val (.int b), .val (.int (a &&& (3 : Int32))), .val (.int ((b &&& (255 : Int32)).toUInt32.toUInt16.toUInt32.toInt32)), .unset, .unset, .unset, .unset, .unset] [(.int (255 : Int32)), (.int ((b.toUInt32 >>> ((8 : Int32) &&& 31).toUInt32).toInt32))])) (fun _ J _ j => XS.sipush J hx rfl (hb hby at_15) j) ?_
  refine k_pure (g' := (mkF m 19 #[.val (.int a), .val (.int b), .val (.int (a &&& (3 : Int32))), .val (.int ((b &&& (255 : Int32)).toUInt32.toUInt16.toUInt32.toInt32)), .unset, .unset, .unset, .unset, .unset] [(.int (((b.toUInt32 >>> ((8 : Int32) &&& 31).toUInt32).toInt32) &&& (255 : Int32)))])) (fun _ J _ j => XS.iand J hx rfl (hb hby at_18) rfl j) ?_
  refine k_pure (g' := (mkF m 20 #[.val (.int a), .val (.int b), .val (.int (a &&& (3 : Int32))), .val (.int ((b &&& (255 : Int32)).toUInt32.toUInt16.toUInt32.toInt32)), .unset, .unset, .unset, .unset, .unset] [(.int ((((b.toUInt32 >>> ((8 : Int32) &&& 31).toUInt32).toInt32) &&& (255 : Int32)).toUInt32.toUInt16.toUInt32.toInt32))])) (fun _ J _ j => XS.i2c J hx rfl (hb hby at_19) rfl j) ?_
  refine k_pure (g' := (mkF m 22 #[.val (.int a), .val (.int b), .val (.int (a &&& (3 : Int32))), .val (.int ((b &&& (255 : Int32)).toUInt32.toUInt16.toUInt32.toInt32)), .val (.int ((((b.toUInt32 >>> ((8 : Int32) &&& 31).toUInt32).toInt32) &&& (255 : Int32)).toUInt32.toUInt16.toUInt32.toInt32)), .unset, .unset, .unset, .unset] [])) (fun _ J _ j => XS.istore J hx rfl (hb hby at_20) rfl (l' := #[.val (.int a), .val (.int b), .val (.int (a &&& (3 : Int32))), .val (.int ((b &&& (255 : Int32)).toUInt32.toUInt16.toUInt32.toInt32)), .val (.int ((((b.toUInt32 >>> ((8 : Int32) &&& 31).toUInt32).toInt32) &&& (255 : Int32)).toUInt32.toUInt16.toUInt32.toInt32)), .unset, .unset, .unset, .unset]) rfl j) ?_
  refine k_pure (g' := (mkF m 23 #[.val (.int a), .val (.int b), .val (.int (a &&& (3 : Int32))), .val (.int ((b &&& (255 : Int32)).toUInt32.toUInt16.toUInt32.toInt32)), .val (.int ((((b.toUInt32 >>> ((8 : Int32) &&& 31).toUInt32).toInt32) &&& (255 : Int32)).toUInt32.toUInt16.toUInt32.toInt32)), .unset, .unset, .unset, .unset] [(.int b)])) (fun _ J _ j => XS.iloadN J hx rfl (hb hby at_22) rfl j) ?_
  refine k_pure (g' := (mkF m 25 #[.val (.int a), .val (.int b), .val (.int (a &&& (3 : Int32))), .val (.int ((b &&& (255 : Int32)).toUInt32.toUInt16.toUInt32.toInt32)), .val (.int ((((b.toUInt32 >>> ((8 : Int32) &&& 31).toUInt32).toInt32) &&& (255 : Int32)).toUInt32.toUInt16.toUInt32.toInt32)), .unset, .unset, .unset, .unset] [(.int (16 : Int32)), (.int b)])) (fun _ J _ j => XS.bipush J hx rfl (hb hby at_23) j) ?_
  refine k_pure (g' := (mkF m 26 #[.val (.int a), .val (.int b), .val (.int (a &&& (3 : Int32))), .val (.int ((b &&& (255 : Int32)).toUInt32.toUInt16.toUInt32.toInt32)), .val (.int ((((b.toUInt32 >>> ((8 : Int32) &&& 31).toUInt32).toInt32) &&& (255 : Int32)).toUInt32.toUInt16.toUInt32.toInt32)), .unset, .unset, .unset, .unset] [(.int ((b.toUInt32 >>> ((16 : Int32) &&& 31).toUInt32).toInt32))])) (fun _ J _ j => XS.iushr J hx rfl (hb hby at_25) rfl j) ?_
  refine k_pure (g' := (mkF m 29 #[.val (.int a), .val (.int b), .val (.int (a &&& (3 : Int32))), .val (.int ((b &&& (255 : Int32)).toUInt32.toUInt16.toUInt32.toInt32)), .val (.int ((((b.toUInt32 >>> ((8 : Int32) &&& 31).toUInt32).toInt32) &&& (255 : Int32)).toUInt32.toUInt16.toUInt32.toInt32)), .unset, .unset, .unset, .unset] [(.int (255 : Int32)), (.int ((b.toUInt32 >>> ((16 : Int32) &&& 31).toUInt32).toInt32))])) (fun _ J _ j => XS.sipush J hx rfl (hb hby at_26) j) ?_
  refine k_pure (g' := (mkF m 30 #[.val (.int a), .val (.int b), .val (.int (a &&& (3 : Int32))), .val (.int ((b &&& (255 : Int32)).toUInt32.toUInt16.toUInt32.toInt32)), .val (.int ((((b.toUInt32 >>> ((8 : Int32) &&& 31).toUInt32).toInt32) &&& (255 : Int32)).toUInt32.toUInt16.toUInt32.toInt32)), .unset, .unset, .unset, .unset] [(.int (((b.toUInt32 >>> ((16 : Int32) &&& 31).toUInt32).toInt32) &&& (255 : Int32)))])) (fun _ J _ j => XS.iand J hx rfl (hb hby at_29) rfl j) ?_
  refine k_pure (g' := (mkF m 31 #[.val (.int a), .val (.int b), .val (.int (a &&& (3 : Int32))), .val (.int ((b &&& (255 : Int32)).toUInt32.toUInt16.toUInt32.toInt32)), .val (.int ((((b.toUInt32 >>> ((8 : Int32) &&& 31).toUInt32).toInt32) &&& (255 : Int32)).toUInt32.toUInt16.toUInt32.toInt32)), .unset, .unset, .unset, .unset] [(.int ((((b.toUInt32 >>> ((16 : Int32) &&& 31).toUInt32).toInt32) &&& (255 : Int32)).toUInt32.toUInt16.toUInt32.toInt32))])) (fun _ J _ j => XS.i2c J hx rfl (hb hby at_30) rfl j) ?_
  refine k_pure (g' := (mkF m 33 #[.val (.int a), .val (.int b), .val (.int (a &&& (3 : Int32))), .val (.int ((b &&& (255 : Int32)).toUInt32.toUInt16.toUInt32.toInt32)), .val (.int ((((b.toUInt32 >>> ((8 : Int32) &&& 31).toUInt32).toInt32) &&& (255 : Int32)).toUInt32.toUInt16.toUInt32.toInt32)), .val (.int ((((b.toUInt32 >>> ((16 : Int32) &&& 31).toUInt32).toInt32) &&& (255 : Int32)).toUInt32.toUInt16.toUInt32.toInt32)), .unset, .unset, .unset] [])) (fun _ J _ j => XS.istore J hx rfl (hb hby at_31) rfl (l' := #[.val (.int a), .val (.int b), .val (.int (a &&& (3 : Int32))), .val (.int ((b &&& (255 : Int32)).toUInt32.toUInt16.toUInt32.toInt32)), .val (.int ((((b.toUInt32 >>> ((8 : Int32) &&& 31).toUInt32).toInt32) &&& (255 : Int32)).toUInt32.toUInt16.toUInt32.toInt32)), .val (.int ((((b.toUInt32 >>> ((16 : Int32) &&& 31).toUInt32).toInt32) &&& (255 : Int32)).toUInt32.toUInt16.toUInt32.toInt32)), .unset, .unset, .unset]) rfl j) ?_
  have g2 : L4 (a &&& (3 : Int32)) := (by have r0 := rng32 a; have r1 : (a &&& (3 : Int32)).toInt = a.toInt % 4 := (c_mask a (3 : Int32) 2 (by decide) (by decide)); have r2 := rng32 (a &&& (3 : Int32)); exact L4.of (by omega) (by omega))
  generalize (a &&& (3 : Int32)) = n at g2 ⊢
  have hc0 : ¬ ((b &&& (255 : Int32)).toUInt32.toUInt16.toUInt32.toInt32) < 0 ∧ ¬ (255 : Int32) < ((b &&& (255 : Int32)).toUInt32.toUInt16.toUInt32.toInt32) := ch_of (by have r0 := rng32 b; have r1 : (b &&& (255 : Int32)).toInt = b.toInt % 256 := (c_mask b (255 : Int32) 8 (by decide) (by decide)); have r2 := rng32 (b &&& (255 : Int32)); have r3 := c_i2c (b &&& (255 : Int32)); omega)
  generalize ((b &&& (255 : Int32)).toUInt32.toUInt16.toUInt32.toInt32) = c0 at hc0 ⊢
  have hc1 : ¬ ((((b.toUInt32 >>> ((8 : Int32) &&& 31).toUInt32).toInt32) &&& (255 : Int32)).toUInt32.toUInt16.toUInt32.toInt32) < 0 ∧ ¬ (255 : Int32) < ((((b.toUInt32 >>> ((8 : Int32) &&& 31).toUInt32).toInt32) &&& (255 : Int32)).toUInt32.toUInt16.toUInt32.toInt32) := ch_of (by have r0 := rng32 b; have r1 : ((b.toUInt32 >>> ((8 : Int32) &&& 31).toUInt32).toInt32).toInt = (b.toInt % 4294967296) / 256 := (c_iushr b (8 : Int32) 8 (by decide) (by decide)); have r2 := rng32 ((b.toUInt32 >>> ((8 : Int32) &&& 31).toUInt32).toInt32); have r3 : (((b.toUInt32 >>> ((8 : Int32) &&& 31).toUInt32).toInt32) &&& (255 : Int32)).toInt = ((b.toUInt32 >>> ((8 : Int32) &&& 31).toUInt32).toInt32).toInt % 256 := (c_mask ((b.toUInt32 >>> ((8 : Int32) &&& 31).toUInt32).toInt32) (255 : Int32) 8 (by decide) (by decide)); have r4 := rng32 (((b.toUInt32 >>> ((8 : Int32) &&& 31).toUInt32).toInt32) &&& (255 : Int32)); have r5 := c_i2c (((b.toUInt32 >>> ((8 : Int32) &&& 31).toUInt32).toInt32) &&& (255 : Int32)); omega)
  generalize ((((b.toUInt32 >>> ((8 : Int32) &&& 31).toUInt32).toInt32) &&& (255 : Int32)).toUInt32.toUInt16.toUInt32.toInt32) = c1 at hc1 ⊢
  have hc2 : ¬ ((((b.toUInt32 >>> ((16 : Int32) &&& 31).toUInt32).toInt32) &&& (255 : Int32)).toUInt32.toUInt16.toUInt32.toInt32) < 0 ∧ ¬ (255 : Int32) < ((((b.toUInt32 >>> ((16 : Int32) &&& 31).toUInt32).toInt32) &&& (255 : Int32)).toUInt32.toUInt16.toUInt32.toInt32) := ch_of (by have r0 := rng32 b; have r1 : ((b.toUInt32 >>> ((16 : Int32) &&& 31).toUInt32).toInt32).toInt = (b.toInt % 4294967296) / 65536 := (c_iushr b (16 : Int32) 16 (by decide) (by decide)); have r2 := rng32 ((b.toUInt32 >>> ((16 : Int32) &&& 31).toUInt32).toInt32); have r3 : (((b.toUInt32 >>> ((16 : Int32) &&& 31).toUInt32).toInt32) &&& (255 : Int32)).toInt = ((b.toUInt32 >>> ((16 : Int32) &&& 31).toUInt32).toInt32).toInt % 256 := (c_mask ((b.toUInt32 >>> ((16 : Int32) &&& 31).toUInt32).toInt32) (255 : Int32) 8 (by decide) (by decide)); have r4 := rng32 (((b.toUInt32 >>> ((16 : Int32) &&& 31).toUInt32).toInt32) &&& (255 : Int32)); have r5 := c_i2c (((b.toUInt32 >>> ((16 : Int32) &&& 31).toUInt32).toInt32) &&& (255 : Int32)); omega)
  generalize ((((b.toUInt32 >>> ((16 : Int32) &&& 31).toUInt32).toInt32) &&& (255 : Int32)).toUInt32.toUInt16.toUInt32.toInt32) = c2 at hc2 ⊢
  show Run p l e _ s m _ below meth c Z EL1 _ n0 bk h0 0 0 (mkF m 33 #[.val (.int a), .val (.int b), .val (.int n), .val (.int c0), .val (.int c1), .val (.int c2), .unset, .unset, .unset] []) _
  rcases g2 with rfl | rfl | rfl | rfl
  · show Run p l e _ s m _ below meth c Z EL1 _ n0 bk h0 0 0 (mkF m 33 #[.val (.int a), .val (.int b), .val (.int (0 : Int32)), .val (.int c0), .val (.int c1), .val (.int c2), .unset, .unset, .unset] []) _
    refine k_pure (g' := (mkF m 34 #[.val (.int a), .val (.int b), .val (.int (0 : Int32)), .val (.int c0), .val (.int c1), .val (.int c2), .unset, .unset, .unset] [(.int (0 : Int32))])) (fun _ J _ j => XS.iloadN J hx rfl (hb hby at_33) rfl j) ?_
    refine k_pure (g' := (mkF m 37 #[.val (.int a), .val (.int b), .val (.int (0 : Int32)), .val (.int c0), .val (.int c1), .val (.int c2), .unset, .unset, .unset] [])) (fun _ J _ j => XS.ifNo J hx rfl (hb hby at_34) rfl ((if0 _ _).trans (teq (by decide : ((0 : Int32) = (0 : Int32)))).2) j) ?_
    refine k_newO hx (wT 0 rfl) (wT 1 rfl) (wT 2 rfl) rfl (hb hby at_37) (by decide) (by decide) ?_
    intro h_2 a_1 g_8 O_3 E_4 A_5 D_6 U_7
    have z_9 := E_4.1
    have lt_10 : @LT.lt Nat _ a_1 (Array.size h_2) := A_5.lt
    have nb_11 : ¬ bk a_1 := fun q => Nat.not_le_of_lt (hbl _ q) (show @LE.le Nat _ (Array.size h0) a_1 by omega)
    refine k_pure (g' := (mkF m 41 #[.val (.int a), .val (.int b), .val (.int (0 : Int32)), .val (.int c0), .val (.int c1), .val (.int c2), .unset, .unset, .unset] [(.ref a_1), (.ref a_1)])) (fun _ J _ j => XS.dup J hx rfl (hb hby at_40) rfl rfl j) ?_
    refine k_pure (g' := (mkF m 42 #[.val (.int a), .val (.int b), .val (.int (0 : Int32)), .val (.int c0), .val (.int c1), .val (.int c2), .unset, .unset, .unset] [(.int (0 : Int32)), (.ref a_1), (.ref a_1)])) (fun _ J _ j => XS.iconst J hx rfl (hb hby at_41) j) ?_
    refine k_newP hx (wT 3 rfl) rfl (hb hby at_42) rfl (by decide) (cap := 0) (by decide) (by decide) (by decide) (by decide) "[C" (by decide +kernel) ?_
    intro h_13 a_12 k_14 g_15 O_16 E_17 A_18 X_19
    have z_20 := E_17.1
    have lt_21 : @LT.lt Nat _ a_12 (Array.size h_13) := A_18.lt
    have V_22 : Arv Z h_13 a_12 k_14 .char (0 : Int32) [] (.int (0 : Int32)) := Arv.pad A_18 (pad_rep [] (.int (0 : Int32)) 0)
    have hbl_23 : ∀ y, bk y → @LT.lt Nat _ y (Array.size h_2) := fun y q => Nat.lt_of_lt_of_le (hbl y q) (by omega)
    have nb_24 : ¬ bk a_12 := fun q => Nat.not_le_of_lt (hbl_23 _ q) (show @LE.le Nat _ (Array.size h_2) a_12 by omega)
    show Run p l e _ s m _ below meth c Z EL1 _ n0 bk h_13 2 4 (mkF m 44 #[.val (.int a), .val (.int b), .val (.int (0 : Int32)), .val (.int c0), .val (.int c1), .val (.int c2), .unset, .unset, .unset] [(.ref a_12), (.ref a_1), (.ref a_1)]) _
    have F_25 : Exa Z h_13 a_1 "java/lang/String" := (A_5.ext E_17)
    have F_26 : Fld Z h_13 a_1 "java/lang/String" "value" "[B" .null := ((D_6 (Or.inr (wT 16 rfl)) (ty := (.array .byte)) (by decide)).ext E_17)
    have F_27 : Fld Z h_13 a_1 "java/lang/String" "coder" "B" (.int (0 : Int32)) := ((D_6 (Or.inr (wT 17 rfl)) (ty := .byte) (by decide)).ext E_17)
    have hbl_28 : ∀ y, bk y → @LT.lt Nat _ y (Array.size h_13) := fun y q => Nat.lt_of_lt_of_le (hbl_23 y q) (by omega)
    refine k_callI hx (y := (⟨"java/lang/String", "<init>", "([C)V"⟩ : MethodName)) rfl (wT 4 rfl) (wT 5 rfl) (wT 6 rfl) (by decide) (W := 1) (a := a_1) (argsL := [(.ref a_12)]) (rest := [(.ref a_1)]) (Pays.of_met (rm_es1 l Z a0 G1 G3 us ss hX hY n0 bk h_13 O_16 a_1 a_12 k_14 F_25 F_26 F_27 hbl_28 nb_11 (by omega) V_22 []) (wT 6 rfl) (wT 2 rfl) (by decide) (by decide)) rfl (by rw [hml]; rfl) (lenOf pd__28__5b_C_29_V rfl) rfl (by show 2 * 0 + _ ≤ _; exact Nat.le_of_eq rfl) (hb hby at_44) (by decide) (by decide) ?_
    intro v_29 h_30 bk_31 O_32 z_33 Q_34
    obtain ⟨a_35, k_36, rfl, hbk_37, K_38, F_39⟩ := Q_34
    have nb_40 : ¬ bk_31 a_1 := fun q => (hbk_37 _ q).elim nb_11 (fun r => Nat.not_le_of_lt (show @LT.lt Nat _ a_1 (Array.size h_13) by omega) r.1)
    have nb_41 : ¬ bk_31 a_12 := fun q => (hbk_37 _ q).elim nb_24 (fun r => Nat.not_le_of_lt (show @LT.lt Nat _ a_12 (Array.size h_13) by omega) r.1)
    have hbl_42 : ∀ y, bk_31 y → @LT.lt Nat _ y (Array.size h_30) := fun y q => (hbk_37 y q).elim (fun r => Nat.lt_of_lt_of_le (hbl_28 y r) (by omega)) (fun r => r.2)
    have hbs_43 : ∀ y, bk_31 y → bk y ∨ (@LE.le Nat _ (Array.size h0) y ∧ @LT.lt Nat _ y (Array.size h_30)) := fun y q => (hbk_37 y q).imp id (fun r => ⟨Nat.le_trans (by omega) r.1, r.2⟩)
    have lt_44 : @LT.lt Nat _ a_1 (Array.size h_30) := F_39.lt1
    have lt_45 : @LT.lt Nat _ a_35 (Array.size h_30) := F_39.lt2
    refine k_pure (g' := (mkF m 49 #[.val (.int a), .val (.int b), .val (.int (0 : Int32)), .val (.int c0), .val (.int c1), .val (.int c2), .val (.ref a_1), .unset, .unset] [])) (fun _ J _ j => XS.astore J hx rfl (hb hby at_47) rfl rfl (l' := #[.val (.int a), .val (.int b), .val (.int (0 : Int32)), .val (.int c0), .val (.int c1), .val (.int c2), .val (.ref a_1), .unset, .unset]) rfl j) ?_
    refine k_pure (g' := (mkF m 121 #[.val (.int a), .val (.int b), .val (.int (0 : Int32)), .val (.int c0), .val (.int c1), .val (.int c2), .val (.ref a_1), .unset, .unset] [])) (fun _ J _ j => XS.goto J hx rfl (pc0 := 49) (pc' := 121) rfl (hb hby at_49) (by decide) (by decide) j) ?_
    refine k_pure (g' := (mkF m 123 #[.val (.int a), .val (.int b), .val (.int (0 : Int32)), .val (.int c0), .val (.int c1), .val (.int c2), .val (.ref a_1), .unset, .unset] [(.ref a_1)])) (fun _ J _ j => XS.aload J hx rfl (hb hby at_121) rfl rfl j) ?_
    refine k_callS hx (y := (⟨"com/example/lidmaat/lidmaat/http/Refusal", "malformed", "(Ljava/lang/String;)Lcom/example/lidmaat/lidmaat/http/Refusal;"⟩ : MethodName)) (wT 22 rfl) (wT 23 rfl) (wT 24 rfl) (wT 25 rfl) (by decide) (W := 0) (argsL := [(.ref a_1)]) (rest := []) (Pays.of_met (rm_mal l Z a0 G1 G3 us ss hX hY n0 bk_31 h_30 O_32 a_1 a_35 k_36 ([] : List Int32) F_39 (by simp) hbl_42 []) (wT 25 rfl) (wT 24 rfl) (by decide) (by decide)) rfl (by rw [hml]; rfl) (lenOf pd__28_Ljava_2f_lang_2f_String_3b__29_Lcom_2f_example_2f_lidmaat_2f_lidmaat_2f_http_2f_Refusal_3b_ rfl) rfl (by show 2 * 0 + _ ≤ _; exact Nat.le_of_eq rfl) (hb hby at_123) (by decide) (by decide) ?_
    intro v_46 h_47 bk_48 O_49 z_50 Q_51
    obtain ⟨a_52, a_53, a_54, k_55, rfl, hbk_56, K_57, F_58, F_59, F_60, F_61, F_62, F_63⟩ := Q_51
    have nb_64 : ¬ bk_48 a_1 := fun q => (hbk_56 _ q).elim nb_40 (fun r => Nat.not_le_of_lt (show @LT.lt Nat _ a_1 (Array.size h_30) by omega) r.1)
    have nb_65 : ¬ bk_48 a_12 := fun q => (hbk_56 _ q).elim nb_41 (fun r => Nat.not_le_of_lt (show @LT.lt Nat _ a_12 (Array.size h_30) by omega) r.1)
    have hbl_66 : ∀ y, bk_48 y → @LT.lt Nat _ y (Array.size h_47) := fun y q => (hbk_56 y q).elim (fun r => Nat.lt_of_lt_of_le (hbl_42 y r) (by omega)) (fun r => r.2)
    have hbs_67 : ∀ y, bk_48 y → bk y ∨ (@LE.le Nat _ (Array.size h0) y ∧ @LT.lt Nat _ y (Array.size h_47)) := fun y q => (hbk_56 y q).elim (fun r => (hbs_43 y r).imp id (fun t => ⟨t.1, Nat.lt_of_lt_of_le t.2 (by omega)⟩)) (fun r => Or.inr ⟨Nat.le_trans (by omega) r.1, r.2⟩)
    have lt_68 : @LT.lt Nat _ a_52 (Array.size h_47) := F_58.lt
    have lt_69 : @LT.lt Nat _ a_52 (Array.size h_47) := F_60.lt
    have lt_70 : @LT.lt Nat _ a_52 (Array.size h_47) := F_61.lt
    have lt_71 : @LT.lt Nat _ a_52 (Array.size h_47) := F_62.lt
    have lt_72 : @LT.lt Nat _ a_53 (Array.size h_47) := F_63.lt1
    have lt_73 : @LT.lt Nat _ a_54 (Array.size h_47) := F_63.lt2
    refine k_pure (g' := (mkF m 128 #[.val (.int a), .val (.int b), .val (.int (0 : Int32)), .val (.int c0), .val (.int c1), .val (.int c2), .val (.ref a_1), .val (.ref a_52), .unset] [])) (fun _ J _ j => XS.astore J hx rfl (hb hby at_126) rfl rfl (l' := #[.val (.int a), .val (.int b), .val (.int (0 : Int32)), .val (.int c0), .val (.int c1), .val (.int c2), .val (.ref a_1), .val (.ref a_52), .unset]) rfl j) ?_
    refine k_pure (g' := (mkF m 130 #[.val (.int a), .val (.int b), .val (.int (0 : Int32)), .val (.int c0), .val (.int c1), .val (.int c2), .val (.ref a_1), .val (.ref a_52), .unset] [(.ref a_52)])) (fun _ J _ j => XS.aload J hx rfl (hb hby at_128) rfl rfl j) ?_
    refine k_callV hx (y := (⟨"com/example/lidmaat/lidmaat/http/Refusal", "status", "()I"⟩ : MethodName)) (z := (⟨"com/example/lidmaat/lidmaat/http/Refusal", "status", "()I"⟩ : MethodName)) (wT 185 rfl) (wT 186 rfl) (fun s' hZ => notFace_of_selects (args := #[]) (mv hZ (wT 188 rfl))) (wT 188 rfl) (wT 187 rfl) (by decide) (W := 0) (a := a_52) (argsL := []) (rest := []) (Pays.of_met (rm_sta l Z a0 G1 G3 us ss hX hY n0 bk_48 h_47 O_49 a_52 (400 : Int32) F_58 F_62 []) (wT 189 rfl) (wT 24 rfl) (by decide) (by decide)) F_58 rfl (by rw [hml]; rfl) (lenOf pd__28__29_I rfl) rfl (by show 2 * 0 + _ ≤ _; exact Nat.le_of_eq rfl) (hb hby at_130) (by decide) (by decide) ?_
    intro v_74 h_75 bk_76 O_77 z_78 Q_79
    obtain ⟨rfl, rfl, rfl⟩ := Q_79
    refine k_pure (g' := (mkF m 136 #[.val (.int a), .val (.int b), .val (.int (0 : Int32)), .val (.int c0), .val (.int c1), .val (.int c2), .val (.ref a_1), .val (.ref a_52), .unset] [(.int (400 : Int32)), (.int (400 : Int32))])) (fun _ J _ j => XS.sipush J hx rfl (hb hby at_133) j) ?_
    refine k_pure (g' := (mkF m 141 #[.val (.int a), .val (.int b), .val (.int (0 : Int32)), .val (.int c0), .val (.int c1), .val (.int c2), .val (.ref a_1), .val (.ref a_52), .unset] [])) (fun _ J _ j => XS.icmpYes J hx rfl (pc0 := 136) (pc' := 141) rfl (hb hby at_136) rfl (teq rfl).1 (by decide) (by decide) j) ?_
    refine k_pure (g' := (mkF m 143 #[.val (.int a), .val (.int b), .val (.int (0 : Int32)), .val (.int c0), .val (.int c1), .val (.int c2), .val (.ref a_1), .val (.ref a_52), .unset] [(.ref a_52)])) (fun _ J _ j => XS.aload J hx rfl (hb hby at_141) rfl rfl j) ?_
    refine k_callU hx (y := (⟨"com/example/lidmaat/lidmaat/http/Refusal", "getCause", "()Ljava/lang/Throwable;"⟩ : MethodName)) (z := (⟨"java/lang/Throwable", "getCause", "()Ljava/lang/Throwable;"⟩ : MethodName)) (wT 190 rfl) (wT 191 rfl) (wT 192 rfl) (by decide) (wT 194 rfl) (wT 193 rfl) (W := 0) (a := a_52) (argsL := []) (rest := []) (pay_cause (W := 0) hX F_59 F_60 (by decide) (by decide)) F_58 rfl (by rw [hml]; rfl) (lenOf pd__28__29_Ljava_2f_lang_2f_Throwable_3b_ rfl) rfl (by show 2 * 0 + _ ≤ _; exact Nat.le_of_eq rfl) (hb hby at_143) (by decide) (by decide) ?_
    intro v_80 h_81 bk_82 O_83 z_84 Q_85
    obtain ⟨rfl, rfl, rfl⟩ := Q_85
    refine k_pure (g' := (mkF m 151 #[.val (.int a), .val (.int b), .val (.int (0 : Int32)), .val (.int c0), .val (.int c1), .val (.int c2), .val (.ref a_1), .val (.ref a_52), .unset] [])) (fun _ J _ j => XS.ifnullYes J hx rfl (pc0 := 146) (pc' := 151) rfl (hb hby at_146) rfl (by decide) (by decide) j) ?_
    refine k_pure (g' := (mkF m 153 #[.val (.int a), .val (.int b), .val (.int (0 : Int32)), .val (.int c0), .val (.int c1), .val (.int c2), .val (.ref a_1), .val (.ref a_52), .unset] [(.ref a_52)])) (fun _ J _ j => XS.aload J hx rfl (hb hby at_151) rfl rfl j) ?_
    refine k_callU hx (y := (⟨"com/example/lidmaat/lidmaat/http/Refusal", "getMessage", "()Ljava/lang/String;"⟩ : MethodName)) (z := (⟨"java/lang/Throwable", "getMessage", "()Ljava/lang/String;"⟩ : MethodName)) (wT 196 rfl) (wT 197 rfl) (wT 198 rfl) (by decide) (wT 200 rfl) (wT 199 rfl) (W := 0) (a := a_52) (argsL := []) (rest := []) (Pays.of_met (rm_gms l Z a0 G1 G3 us ss hX hY n0 bk_48 h_47 O_49 a_52 a_53 F_58 F_61 []) (wT 201 rfl) (wT 170 rfl) (by decide) (by decide)) F_58 rfl (by rw [hml]; rfl) (lenOf pd__28__29_Ljava_2f_lang_2f_String_3b_ rfl) rfl (by show 2 * 0 + _ ≤ _; exact Nat.le_of_eq rfl) (hb hby at_153) (by decide) (by decide) ?_
    intro v_86 h_87 bk_88 O_89 z_90 Q_91
    obtain ⟨rfl, rfl, rfl⟩ := Q_91
    refine k_pure (g' := (mkF m 158 #[.val (.int a), .val (.int b), .val (.int (0 : Int32)), .val (.int c0), .val (.int c1), .val (.int c2), .val (.ref a_1), .val (.ref a_52), .val (.ref a_53)] [])) (fun _ J _ j => XS.astore J hx rfl (hb hby at_156) rfl rfl (l' := #[.val (.int a), .val (.int b), .val (.int (0 : Int32)), .val (.int c0), .val (.int c1), .val (.int c2), .val (.ref a_1), .val (.ref a_52), .val (.ref a_53)]) rfl j) ?_
    refine k_pure (g' := (mkF m 160 #[.val (.int a), .val (.int b), .val (.int (0 : Int32)), .val (.int c0), .val (.int c1), .val (.int c2), .val (.ref a_1), .val (.ref a_52), .val (.ref a_53)] [(.ref a_53)])) (fun _ J _ j => XS.aload J hx rfl (hb hby at_158) rfl rfl j) ?_
    refine k_pure (g' := (mkF m 163 #[.val (.int a), .val (.int b), .val (.int (0 : Int32)), .val (.int c0), .val (.int c1), .val (.int c2), .val (.ref a_1), .val (.ref a_52), .val (.ref a_53)] [])) (fun _ J _ j => XS.ifnullNo J hx rfl (hb hby at_160) rfl j) ?_
    refine k_pure (g' := (mkF m 165 #[.val (.int a), .val (.int b), .val (.int (0 : Int32)), .val (.int c0), .val (.int c1), .val (.int c2), .val (.ref a_1), .val (.ref a_52), .val (.ref a_53)] [(.ref a_53)])) (fun _ J _ j => XS.aload J hx rfl (hb hby at_163) rfl rfl j) ?_
    refine k_callV hx (y := (⟨"java/lang/String", "length", "()I"⟩ : MethodName)) (z := (⟨"java/lang/String", "length", "()I"⟩ : MethodName)) (wT 202 rfl) (wT 58 rfl) (fun s' hZ => notFace_of_selects (args := #[]) (mv hZ (wT 60 rfl))) (wT 60 rfl) (wT 59 rfl) (by decide) (W := 0) (a := a_53) (argsL := []) (rest := []) (pay_len (W := 0) hX O_49 F_63 (by decide) (by decide)) F_63.1 rfl (by rw [hml]; rfl) (lenOf pd__28__29_I rfl) rfl (by show 2 * 0 + _ ≤ _; exact Nat.le_of_eq rfl) (hb hby at_165) (by decide) (by decide) ?_
    intro v_92 h_93 bk_94 O_95 z_96 Q_97
    obtain ⟨rfl, rfl, rfl⟩ := Q_97
    refine k_pure (g' := (mkF m 170 #[.val (.int a), .val (.int b), .val (.int (0 : Int32)), .val (.int c0), .val (.int c1), .val (.int c2), .val (.ref a_1), .val (.ref a_52), .val (.ref a_53)] [(.int (32 : Int32)), (.int (Int32.ofNat ((((([] : List Int32) ++ lit1) ++ ([] : List Int32)) ++ lit2)).length))])) (fun _ J _ j => XS.bipush J hx rfl (hb hby at_168) j) ?_
    refine k_pure (g' := (mkF m 171 #[.val (.int a), .val (.int b), .val (.int (0 : Int32)), .val (.int c0), .val (.int c1), .val (.int c2), .val (.ref a_1), .val (.ref a_52), .val (.ref a_53)] [(.int (0 : Int32)), (.int (32 : Int32)), (.int (Int32.ofNat ((((([] : List Int32) ++ lit1) ++ ([] : List Int32)) ++ lit2)).length))])) (fun _ J _ j => XS.iloadN J hx rfl (hb hby at_170) rfl j) ?_
    refine k_pure (g' := (mkF m 172 #[.val (.int a), .val (.int b), .val (.int (0 : Int32)), .val (.int c0), .val (.int c1), .val (.int c2), .val (.ref a_1), .val (.ref a_52), .val (.ref a_53)] [(.int (32 : Int32)), (.int (Int32.ofNat ((((([] : List Int32) ++ lit1) ++ ([] : List Int32)) ++ lit2)).length))])) (fun _ J _ j => XS.iadd J hx rfl (hb hby at_171) rfl j) ?_
    refine k_pure (g' := (mkF m 177 #[.val (.int a), .val (.int b), .val (.int (0 : Int32)), .val (.int c0), .val (.int c1), .val (.int c2), .val (.ref a_1), .val (.ref a_52), .val (.ref a_53)] [])) (fun _ J _ j => XS.icmpYes J hx rfl (pc0 := 172) (pc' := 177) rfl (hb hby at_172) rfl (teq rfl).1 (by decide) (by decide) j) ?_
    refine k_pure (g' := (mkF m 179 #[.val (.int a), .val (.int b), .val (.int (0 : Int32)), .val (.int c0), .val (.int c1), .val (.int c2), .val (.ref a_1), .val (.ref a_52), .val (.ref a_53)] [(.ref a_53)])) (fun _ J _ j => XS.aload J hx rfl (hb hby at_177) rfl rfl j) ?_
    refine k_callS hx (y := (⟨"com/example/lidmaat/lidmaat/http/RefusalMalformedPinLaw", "prefix", "(Ljava/lang/String;)Z"⟩ : MethodName)) (wT 203 rfl) (wT 204 rfl) (wT 205 rfl) (wT 206 rfl) (by decide) (W := 0) (argsL := [(.ref a_53)]) (rest := []) (Pays.of_met (rm_pre l Z a0 G1 G3 us ss hX hY n0 bk_48 h_47 O_49 a_53 a_54 k_55 (((([] : List Int32) ++ lit1) ++ ([] : List Int32)) ++ lit2) F_63 rfl (by simp [len1, len2]) hbl_66 []) (wT 206 rfl) (wT 205 rfl) (by decide) (by decide)) rfl (by rw [hml]; rfl) (lenOf pd__28_Ljava_2f_lang_2f_String_3b__29_Z rfl) rfl (by show 2 * 0 + _ ≤ _; exact Nat.le_of_eq rfl) (hb hby at_179) (by decide) (by decide) ?_
    intro v_98 h_99 bk_100 O_101 z_102 Q_103
    obtain ⟨rfl, hbk_104, K_105⟩ := Q_103
    have nb_106 : ¬ bk_100 a_1 := fun q => (hbk_104 _ q).elim nb_64 (fun r => Nat.not_le_of_lt (show @LT.lt Nat _ a_1 (Array.size h_47) by omega) r.1)
    have nb_107 : ¬ bk_100 a_12 := fun q => (hbk_104 _ q).elim nb_65 (fun r => Nat.not_le_of_lt (show @LT.lt Nat _ a_12 (Array.size h_47) by omega) r.1)
    have hbl_108 : ∀ y, bk_100 y → @LT.lt Nat _ y (Array.size h_99) := fun y q => (hbk_104 y q).elim (fun r => Nat.lt_of_lt_of_le (hbl_66 y r) (by omega)) (fun r => r.2)
    have hbs_109 : ∀ y, bk_100 y → bk y ∨ (@LE.le Nat _ (Array.size h0) y ∧ @LT.lt Nat _ y (Array.size h_99)) := fun y q => (hbk_104 y q).elim (fun r => (hbs_67 y r).imp id (fun t => ⟨t.1, Nat.lt_of_lt_of_le t.2 (by omega)⟩)) (fun r => Or.inr ⟨Nat.le_trans (by omega) r.1, r.2⟩)
    refine k_pure (g' := (mkF m 187 #[.val (.int a), .val (.int b), .val (.int (0 : Int32)), .val (.int c0), .val (.int c1), .val (.int c2), .val (.ref a_1), .val (.ref a_52), .val (.ref a_53)] [])) (fun _ J _ j => XS.ifYes J hx rfl (pc0 := 182) (pc' := 187) rfl (hb hby at_182) rfl ((if0 _ _).trans (feq (by decide : ¬ ((1 : Int32) = (0 : Int32)))).2) (by decide) (by decide) j) ?_
    refine k_pure (g' := (mkF m 188 #[.val (.int a), .val (.int b), .val (.int (0 : Int32)), .val (.int c0), .val (.int c1), .val (.int c2), .val (.ref a_1), .val (.ref a_52), .val (.ref a_53)] [(.int (0 : Int32))])) (fun _ J _ j => XS.iloadN J hx rfl (hb hby at_187) rfl j) ?_
    refine k_pure (g' := (mkF m 189 #[.val (.int a), .val (.int b), .val (.int (0 : Int32)), .val (.int c0), .val (.int c1), .val (.int c2), .val (.ref a_1), .val (.ref a_52), .val (.ref a_53)] [(.int (1 : Int32)), (.int (0 : Int32))])) (fun _ J _ j => XS.iconst J hx rfl (hb hby at_188) j) ?_
    refine k_pure (g' := (mkF m 205 #[.val (.int a), .val (.int b), .val (.int (0 : Int32)), .val (.int c0), .val (.int c1), .val (.int c2), .val (.ref a_1), .val (.ref a_52), .val (.ref a_53)] [])) (fun _ J _ j => XS.icmpYes J hx rfl (pc0 := 189) (pc' := 205) rfl (hb hby at_189) rfl (tlt (by decide : ((0 : Int32) < (1 : Int32)))).1 (by decide) (by decide) j) ?_
    refine k_pure (g' := (mkF m 206 #[.val (.int a), .val (.int b), .val (.int (0 : Int32)), .val (.int c0), .val (.int c1), .val (.int c2), .val (.ref a_1), .val (.ref a_52), .val (.ref a_53)] [(.int (0 : Int32))])) (fun _ J _ j => XS.iloadN J hx rfl (hb hby at_205) rfl j) ?_
    refine k_pure (g' := (mkF m 207 #[.val (.int a), .val (.int b), .val (.int (0 : Int32)), .val (.int c0), .val (.int c1), .val (.int c2), .val (.ref a_1), .val (.ref a_52), .val (.ref a_53)] [(.int (2 : Int32)), (.int (0 : Int32))])) (fun _ J _ j => XS.iconst J hx rfl (hb hby at_206) j) ?_
    refine k_pure (g' := (mkF m 224 #[.val (.int a), .val (.int b), .val (.int (0 : Int32)), .val (.int c0), .val (.int c1), .val (.int c2), .val (.ref a_1), .val (.ref a_52), .val (.ref a_53)] [])) (fun _ J _ j => XS.icmpYes J hx rfl (pc0 := 207) (pc' := 224) rfl (hb hby at_207) rfl (tlt (by decide : ((0 : Int32) < (2 : Int32)))).1 (by decide) (by decide) j) ?_
    refine k_pure (g' := (mkF m 225 #[.val (.int a), .val (.int b), .val (.int (0 : Int32)), .val (.int c0), .val (.int c1), .val (.int c2), .val (.ref a_1), .val (.ref a_52), .val (.ref a_53)] [(.int (0 : Int32))])) (fun _ J _ j => XS.iloadN J hx rfl (hb hby at_224) rfl j) ?_
    refine k_pure (g' := (mkF m 226 #[.val (.int a), .val (.int b), .val (.int (0 : Int32)), .val (.int c0), .val (.int c1), .val (.int c2), .val (.ref a_1), .val (.ref a_52), .val (.ref a_53)] [(.int (3 : Int32)), (.int (0 : Int32))])) (fun _ J _ j => XS.iconst J hx rfl (hb hby at_225) j) ?_
    refine k_pure (g' := (mkF m 243 #[.val (.int a), .val (.int b), .val (.int (0 : Int32)), .val (.int c0), .val (.int c1), .val (.int c2), .val (.ref a_1), .val (.ref a_52), .val (.ref a_53)] [])) (fun _ J _ j => XS.icmpYes J hx rfl (pc0 := 226) (pc' := 243) rfl (hb hby at_226) rfl (tlt (by decide : ((0 : Int32) < (3 : Int32)))).1 (by decide) (by decide) j) ?_
    refine k_pure (g' := (mkF m 245 #[.val (.int a), .val (.int b), .val (.int (0 : Int32)), .val (.int c0), .val (.int c1), .val (.int c2), .val (.ref a_1), .val (.ref a_52), .val (.ref a_53)] [(.ref a_53)])) (fun _ J _ j => XS.aload J hx rfl (hb hby at_243) rfl rfl j) ?_
    refine k_pure (g' := (mkF m 247 #[.val (.int a), .val (.int b), .val (.int (0 : Int32)), .val (.int c0), .val (.int c1), .val (.int c2), .val (.ref a_1), .val (.ref a_52), .val (.ref a_53)] [(.int (19 : Int32)), (.ref a_53)])) (fun _ J _ j => XS.bipush J hx rfl (hb hby at_245) j) ?_
    refine k_pure (g' := (mkF m 248 #[.val (.int a), .val (.int b), .val (.int (0 : Int32)), .val (.int c0), .val (.int c1), .val (.int c2), .val (.ref a_1), .val (.ref a_52), .val (.ref a_53)] [(.int (0 : Int32)), (.int (19 : Int32)), (.ref a_53)])) (fun _ J _ j => XS.iloadN J hx rfl (hb hby at_247) rfl j) ?_
    refine k_pure (g' := (mkF m 249 #[.val (.int a), .val (.int b), .val (.int (0 : Int32)), .val (.int c0), .val (.int c1), .val (.int c2), .val (.ref a_1), .val (.ref a_52), .val (.ref a_53)] [(.int (19 : Int32)), (.ref a_53)])) (fun _ J _ j => XS.iadd J hx rfl (hb hby at_248) rfl j) ?_
    have F_110 : StrL Z h_99 a_53 a_54 k_55 (((([] : List Int32) ++ lit1) ++ ([] : List Int32)) ++ lit2) := (F_63.keep K_105 nin0 nin0)
    refine k_callS hx (y := (⟨"com/example/lidmaat/lidmaat/http/RefusalMalformedPinLaw", "suffix", "(Ljava/lang/String;I)Z"⟩ : MethodName)) (wT 249 rfl) (wT 250 rfl) (wT 205 rfl) (wT 251 rfl) (by decide) (W := 0) (argsL := [(.ref a_53), (.int (19 : Int32))]) (rest := []) (Pays.of_met (rm_suf l Z a0 G1 G3 us ss hX hY n0 bk_100 h_99 O_101 a_53 a_54 k_55 (((([] : List Int32) ++ lit1) ++ ([] : List Int32)) ++ lit2) 19 F_110 rfl (by simp [len1, len2]) hbl_108 []) (wT 251 rfl) (wT 205 rfl) (by decide) (by decide)) rfl (by rw [hml]; rfl) (lenOf pd__28_Ljava_2f_lang_2f_String_3b_I_29_Z rfl) rfl (by show 2 * 0 + _ ≤ _; exact Nat.le_of_eq rfl) (hb hby at_249) (by decide) (by decide) ?_
    intro v_111 h_112 bk_113 O_114 z_115 Q_116
    obtain ⟨rfl, hbk_117, K_118⟩ := Q_116
    have nb_119 : ¬ bk_113 a_1 := fun q => (hbk_117 _ q).elim nb_106 (fun r => Nat.not_le_of_lt (show @LT.lt Nat _ a_1 (Array.size h_99) by omega) r.1)
    have nb_120 : ¬ bk_113 a_12 := fun q => (hbk_117 _ q).elim nb_107 (fun r => Nat.not_le_of_lt (show @LT.lt Nat _ a_12 (Array.size h_99) by omega) r.1)
    have hbl_121 : ∀ y, bk_113 y → @LT.lt Nat _ y (Array.size h_112) := fun y q => (hbk_117 y q).elim (fun r => Nat.lt_of_lt_of_le (hbl_108 y r) (by omega)) (fun r => r.2)
    have hbs_122 : ∀ y, bk_113 y → bk y ∨ (@LE.le Nat _ (Array.size h0) y ∧ @LT.lt Nat _ y (Array.size h_112)) := fun y q => (hbk_117 y q).elim (fun r => (hbs_109 y r).imp id (fun t => ⟨t.1, Nat.lt_of_lt_of_le t.2 (by omega)⟩)) (fun r => Or.inr ⟨Nat.le_trans (by omega) r.1, r.2⟩)
    show Run p l e _ s m _ below meth c Z EL1 _ n0 bk_113 h_112 27 687 (mkF m 252 #[.val (.int a), .val (.int b), .val (.int (0 : Int32)), .val (.int c0), .val (.int c1), .val (.int c2), .val (.ref a_1), .val (.ref a_52), .val (.ref a_53)] [(.int (1 : Int32))]) _
    exact k_retN hx hlk hret (by simp) (hb hby at_252) (by decide) (by decide) ⟨rfl, (fun y q => (hbs_122 y q).imp id (fun t => ⟨t.1, Nat.lt_of_lt_of_le t.2 (by omega)⟩)), (((((((Keep.refl _ _).ext E_4).ext E_17).trans K_38 (kkS (Or.inr (by omega)) kk0)).trans K_57 kk0).trans K_105 kk0).trans K_118 kk0)⟩
  · show Run p l e _ s m _ below meth c Z EL1 _ n0 bk h0 0 0 (mkF m 33 #[.val (.int a), .val (.int b), .val (.int (1 : Int32)), .val (.int c0), .val (.int c1), .val (.int c2), .unset, .unset, .unset] []) _
    refine k_pure (g' := (mkF m 34 #[.val (.int a), .val (.int b), .val (.int (1 : Int32)), .val (.int c0), .val (.int c1), .val (.int c2), .unset, .unset, .unset] [(.int (1 : Int32))])) (fun _ J _ j => XS.iloadN J hx rfl (hb hby at_33) rfl j) ?_
    refine k_pure (g' := (mkF m 52 #[.val (.int a), .val (.int b), .val (.int (1 : Int32)), .val (.int c0), .val (.int c1), .val (.int c2), .unset, .unset, .unset] [])) (fun _ J _ j => XS.ifYes J hx rfl (pc0 := 34) (pc' := 52) rfl (hb hby at_34) rfl ((if0 _ _).trans (feq (by decide : ¬ ((1 : Int32) = (0 : Int32)))).2) (by decide) (by decide) j) ?_
    refine k_pure (g' := (mkF m 53 #[.val (.int a), .val (.int b), .val (.int (1 : Int32)), .val (.int c0), .val (.int c1), .val (.int c2), .unset, .unset, .unset] [(.int (1 : Int32))])) (fun _ J _ j => XS.iloadN J hx rfl (hb hby at_52) rfl j) ?_
    refine k_pure (g' := (mkF m 54 #[.val (.int a), .val (.int b), .val (.int (1 : Int32)), .val (.int c0), .val (.int c1), .val (.int c2), .unset, .unset, .unset] [(.int (1 : Int32)), (.int (1 : Int32))])) (fun _ J _ j => XS.iconst J hx rfl (hb hby at_53) j) ?_
    refine k_pure (g' := (mkF m 57 #[.val (.int a), .val (.int b), .val (.int (1 : Int32)), .val (.int c0), .val (.int c1), .val (.int c2), .unset, .unset, .unset] [])) (fun _ J _ j => XS.icmpNo J hx rfl (hb hby at_54) rfl (teq (by decide : ((1 : Int32) = (1 : Int32)))).2 j) ?_
    refine k_pure (g' := (mkF m 58 #[.val (.int a), .val (.int b), .val (.int (1 : Int32)), .val (.int c0), .val (.int c1), .val (.int c2), .unset, .unset, .unset] [(.int c0)])) (fun _ J _ j => XS.iloadN J hx rfl (hb hby at_57) rfl j) ?_
    refine k_callS hx (y := (⟨"java/lang/String", "valueOf", "(C)Ljava/lang/String;"⟩ : MethodName)) (wT 262 rfl) (wT 263 rfl) (wT 2 rfl) (wT 264 rfl) (by decide) (W := 0) (argsL := [(.int c0)]) (rest := []) (Pays.of_met (rm_vof l Z a0 G1 G3 us ss hX hY n0 bk h0 O0 c0 hbl hc0 []) (wT 264 rfl) (wT 2 rfl) (by decide) (by decide)) rfl (by rw [hml]; rfl) (lenOf pd__28_C_29_Ljava_2f_lang_2f_String_3b_ rfl) rfl (by show 2 * 0 + _ ≤ _; exact Nat.le_of_eq rfl) (hb hby at_58) (by decide) (by decide) ?_
    intro v_123 h_124 bk_125 O_126 z_127 Q_128
    obtain ⟨a_129, a_130, k_131, rfl, rfl, K_132, F_133⟩ := Q_128
    have lt_134 : @LT.lt Nat _ a_129 (Array.size h_124) := F_133.lt1
    have lt_135 : @LT.lt Nat _ a_130 (Array.size h_124) := F_133.lt2
    refine k_pure (g' := (mkF m 63 #[.val (.int a), .val (.int b), .val (.int (1 : Int32)), .val (.int c0), .val (.int c1), .val (.int c2), .val (.ref a_129), .unset, .unset] [])) (fun _ J _ j => XS.astore J hx rfl (hb hby at_61) rfl rfl (l' := #[.val (.int a), .val (.int b), .val (.int (1 : Int32)), .val (.int c0), .val (.int c1), .val (.int c2), .val (.ref a_129), .unset, .unset]) rfl j) ?_
    refine k_pure (g' := (mkF m 121 #[.val (.int a), .val (.int b), .val (.int (1 : Int32)), .val (.int c0), .val (.int c1), .val (.int c2), .val (.ref a_129), .unset, .unset] [])) (fun _ J _ j => XS.goto J hx rfl (pc0 := 63) (pc' := 121) rfl (hb hby at_63) (by decide) (by decide) j) ?_
    refine k_pure (g' := (mkF m 123 #[.val (.int a), .val (.int b), .val (.int (1 : Int32)), .val (.int c0), .val (.int c1), .val (.int c2), .val (.ref a_129), .unset, .unset] [(.ref a_129)])) (fun _ J _ j => XS.aload J hx rfl (hb hby at_121) rfl rfl j) ?_
    have hbl_136 : ∀ y, bk y → @LT.lt Nat _ y (Array.size h_124) := fun y q => Nat.lt_of_lt_of_le (hbl y q) (by omega)
    refine k_callS hx (y := (⟨"com/example/lidmaat/lidmaat/http/Refusal", "malformed", "(Ljava/lang/String;)Lcom/example/lidmaat/lidmaat/http/Refusal;"⟩ : MethodName)) (wT 22 rfl) (wT 23 rfl) (wT 24 rfl) (wT 25 rfl) (by decide) (W := 0) (argsL := [(.ref a_129)]) (rest := []) (Pays.of_met (rm_mal l Z a0 G1 G3 us ss hX hY n0 bk h_124 O_126 a_129 a_130 k_131 [c0] F_133 (by simp) hbl_136 []) (wT 25 rfl) (wT 24 rfl) (by decide) (by decide)) rfl (by rw [hml]; rfl) (lenOf pd__28_Ljava_2f_lang_2f_String_3b__29_Lcom_2f_example_2f_lidmaat_2f_lidmaat_2f_http_2f_Refusal_3b_ rfl) rfl (by show 2 * 0 + _ ≤ _; exact Nat.le_of_eq rfl) (hb hby at_123) (by decide) (by decide) ?_
    intro v_137 h_138 bk_139 O_140 z_141 Q_142
    obtain ⟨a_143, a_144, a_145, k_146, rfl, hbk_147, K_148, F_149, F_150, F_151, F_152, F_153, F_154⟩ := Q_142
    have hbl_155 : ∀ y, bk_139 y → @LT.lt Nat _ y (Array.size h_138) := fun y q => (hbk_147 y q).elim (fun r => Nat.lt_of_lt_of_le (hbl_136 y r) (by omega)) (fun r => r.2)
    have hbs_156 : ∀ y, bk_139 y → bk y ∨ (@LE.le Nat _ (Array.size h0) y ∧ @LT.lt Nat _ y (Array.size h_138)) := fun y q => (hbk_147 y q).imp id (fun r => ⟨Nat.le_trans (by omega) r.1, r.2⟩)
    have lt_157 : @LT.lt Nat _ a_143 (Array.size h_138) := F_149.lt
    have lt_158 : @LT.lt Nat _ a_143 (Array.size h_138) := F_151.lt
    have lt_159 : @LT.lt Nat _ a_143 (Array.size h_138) := F_152.lt
    have lt_160 : @LT.lt Nat _ a_143 (Array.size h_138) := F_153.lt
    have lt_161 : @LT.lt Nat _ a_144 (Array.size h_138) := F_154.lt1
    have lt_162 : @LT.lt Nat _ a_145 (Array.size h_138) := F_154.lt2
    refine k_pure (g' := (mkF m 128 #[.val (.int a), .val (.int b), .val (.int (1 : Int32)), .val (.int c0), .val (.int c1), .val (.int c2), .val (.ref a_129), .val (.ref a_143), .unset] [])) (fun _ J _ j => XS.astore J hx rfl (hb hby at_126) rfl rfl (l' := #[.val (.int a), .val (.int b), .val (.int (1 : Int32)), .val (.int c0), .val (.int c1), .val (.int c2), .val (.ref a_129), .val (.ref a_143), .unset]) rfl j) ?_
    refine k_pure (g' := (mkF m 130 #[.val (.int a), .val (.int b), .val (.int (1 : Int32)), .val (.int c0), .val (.int c1), .val (.int c2), .val (.ref a_129), .val (.ref a_143), .unset] [(.ref a_143)])) (fun _ J _ j => XS.aload J hx rfl (hb hby at_128) rfl rfl j) ?_
    refine k_callV hx (y := (⟨"com/example/lidmaat/lidmaat/http/Refusal", "status", "()I"⟩ : MethodName)) (z := (⟨"com/example/lidmaat/lidmaat/http/Refusal", "status", "()I"⟩ : MethodName)) (wT 185 rfl) (wT 186 rfl) (fun s' hZ => notFace_of_selects (args := #[]) (mv hZ (wT 188 rfl))) (wT 188 rfl) (wT 187 rfl) (by decide) (W := 0) (a := a_143) (argsL := []) (rest := []) (Pays.of_met (rm_sta l Z a0 G1 G3 us ss hX hY n0 bk_139 h_138 O_140 a_143 (400 : Int32) F_149 F_153 []) (wT 189 rfl) (wT 24 rfl) (by decide) (by decide)) F_149 rfl (by rw [hml]; rfl) (lenOf pd__28__29_I rfl) rfl (by show 2 * 0 + _ ≤ _; exact Nat.le_of_eq rfl) (hb hby at_130) (by decide) (by decide) ?_
    intro v_163 h_164 bk_165 O_166 z_167 Q_168
    obtain ⟨rfl, rfl, rfl⟩ := Q_168
    refine k_pure (g' := (mkF m 136 #[.val (.int a), .val (.int b), .val (.int (1 : Int32)), .val (.int c0), .val (.int c1), .val (.int c2), .val (.ref a_129), .val (.ref a_143), .unset] [(.int (400 : Int32)), (.int (400 : Int32))])) (fun _ J _ j => XS.sipush J hx rfl (hb hby at_133) j) ?_
    refine k_pure (g' := (mkF m 141 #[.val (.int a), .val (.int b), .val (.int (1 : Int32)), .val (.int c0), .val (.int c1), .val (.int c2), .val (.ref a_129), .val (.ref a_143), .unset] [])) (fun _ J _ j => XS.icmpYes J hx rfl (pc0 := 136) (pc' := 141) rfl (hb hby at_136) rfl (teq rfl).1 (by decide) (by decide) j) ?_
    refine k_pure (g' := (mkF m 143 #[.val (.int a), .val (.int b), .val (.int (1 : Int32)), .val (.int c0), .val (.int c1), .val (.int c2), .val (.ref a_129), .val (.ref a_143), .unset] [(.ref a_143)])) (fun _ J _ j => XS.aload J hx rfl (hb hby at_141) rfl rfl j) ?_
    refine k_callU hx (y := (⟨"com/example/lidmaat/lidmaat/http/Refusal", "getCause", "()Ljava/lang/Throwable;"⟩ : MethodName)) (z := (⟨"java/lang/Throwable", "getCause", "()Ljava/lang/Throwable;"⟩ : MethodName)) (wT 190 rfl) (wT 191 rfl) (wT 192 rfl) (by decide) (wT 194 rfl) (wT 193 rfl) (W := 0) (a := a_143) (argsL := []) (rest := []) (pay_cause (W := 0) hX F_150 F_151 (by decide) (by decide)) F_149 rfl (by rw [hml]; rfl) (lenOf pd__28__29_Ljava_2f_lang_2f_Throwable_3b_ rfl) rfl (by show 2 * 0 + _ ≤ _; exact Nat.le_of_eq rfl) (hb hby at_143) (by decide) (by decide) ?_
    intro v_169 h_170 bk_171 O_172 z_173 Q_174
    obtain ⟨rfl, rfl, rfl⟩ := Q_174
    refine k_pure (g' := (mkF m 151 #[.val (.int a), .val (.int b), .val (.int (1 : Int32)), .val (.int c0), .val (.int c1), .val (.int c2), .val (.ref a_129), .val (.ref a_143), .unset] [])) (fun _ J _ j => XS.ifnullYes J hx rfl (pc0 := 146) (pc' := 151) rfl (hb hby at_146) rfl (by decide) (by decide) j) ?_
    refine k_pure (g' := (mkF m 153 #[.val (.int a), .val (.int b), .val (.int (1 : Int32)), .val (.int c0), .val (.int c1), .val (.int c2), .val (.ref a_129), .val (.ref a_143), .unset] [(.ref a_143)])) (fun _ J _ j => XS.aload J hx rfl (hb hby at_151) rfl rfl j) ?_
    refine k_callU hx (y := (⟨"com/example/lidmaat/lidmaat/http/Refusal", "getMessage", "()Ljava/lang/String;"⟩ : MethodName)) (z := (⟨"java/lang/Throwable", "getMessage", "()Ljava/lang/String;"⟩ : MethodName)) (wT 196 rfl) (wT 197 rfl) (wT 198 rfl) (by decide) (wT 200 rfl) (wT 199 rfl) (W := 0) (a := a_143) (argsL := []) (rest := []) (Pays.of_met (rm_gms l Z a0 G1 G3 us ss hX hY n0 bk_139 h_138 O_140 a_143 a_144 F_149 F_152 []) (wT 201 rfl) (wT 170 rfl) (by decide) (by decide)) F_149 rfl (by rw [hml]; rfl) (lenOf pd__28__29_Ljava_2f_lang_2f_String_3b_ rfl) rfl (by show 2 * 0 + _ ≤ _; exact Nat.le_of_eq rfl) (hb hby at_153) (by decide) (by decide) ?_
    intro v_175 h_176 bk_177 O_178 z_179 Q_180
    obtain ⟨rfl, rfl, rfl⟩ := Q_180
    refine k_pure (g' := (mkF m 158 #[.val (.int a), .val (.int b), .val (.int (1 : Int32)), .val (.int c0), .val (.int c1), .val (.int c2), .val (.ref a_129), .val (.ref a_143), .val (.ref a_144)] [])) (fun _ J _ j => XS.astore J hx rfl (hb hby at_156) rfl rfl (l' := #[.val (.int a), .val (.int b), .val (.int (1 : Int32)), .val (.int c0), .val (.int c1), .val (.int c2), .val (.ref a_129), .val (.ref a_143), .val (.ref a_144)]) rfl j) ?_
    refine k_pure (g' := (mkF m 160 #[.val (.int a), .val (.int b), .val (.int (1 : Int32)), .val (.int c0), .val (.int c1), .val (.int c2), .val (.ref a_129), .val (.ref a_143), .val (.ref a_144)] [(.ref a_144)])) (fun _ J _ j => XS.aload J hx rfl (hb hby at_158) rfl rfl j) ?_
    refine k_pure (g' := (mkF m 163 #[.val (.int a), .val (.int b), .val (.int (1 : Int32)), .val (.int c0), .val (.int c1), .val (.int c2), .val (.ref a_129), .val (.ref a_143), .val (.ref a_144)] [])) (fun _ J _ j => XS.ifnullNo J hx rfl (hb hby at_160) rfl j) ?_
    refine k_pure (g' := (mkF m 165 #[.val (.int a), .val (.int b), .val (.int (1 : Int32)), .val (.int c0), .val (.int c1), .val (.int c2), .val (.ref a_129), .val (.ref a_143), .val (.ref a_144)] [(.ref a_144)])) (fun _ J _ j => XS.aload J hx rfl (hb hby at_163) rfl rfl j) ?_
    refine k_callV hx (y := (⟨"java/lang/String", "length", "()I"⟩ : MethodName)) (z := (⟨"java/lang/String", "length", "()I"⟩ : MethodName)) (wT 202 rfl) (wT 58 rfl) (fun s' hZ => notFace_of_selects (args := #[]) (mv hZ (wT 60 rfl))) (wT 60 rfl) (wT 59 rfl) (by decide) (W := 0) (a := a_144) (argsL := []) (rest := []) (pay_len (W := 0) hX O_140 F_154 (by decide) (by decide)) F_154.1 rfl (by rw [hml]; rfl) (lenOf pd__28__29_I rfl) rfl (by show 2 * 0 + _ ≤ _; exact Nat.le_of_eq rfl) (hb hby at_165) (by decide) (by decide) ?_
    intro v_181 h_182 bk_183 O_184 z_185 Q_186
    obtain ⟨rfl, rfl, rfl⟩ := Q_186
    refine k_pure (g' := (mkF m 170 #[.val (.int a), .val (.int b), .val (.int (1 : Int32)), .val (.int c0), .val (.int c1), .val (.int c2), .val (.ref a_129), .val (.ref a_143), .val (.ref a_144)] [(.int (32 : Int32)), (.int (Int32.ofNat ((((([] : List Int32) ++ lit1) ++ [c0]) ++ lit2)).length))])) (fun _ J _ j => XS.bipush J hx rfl (hb hby at_168) j) ?_
    refine k_pure (g' := (mkF m 171 #[.val (.int a), .val (.int b), .val (.int (1 : Int32)), .val (.int c0), .val (.int c1), .val (.int c2), .val (.ref a_129), .val (.ref a_143), .val (.ref a_144)] [(.int (1 : Int32)), (.int (32 : Int32)), (.int (Int32.ofNat ((((([] : List Int32) ++ lit1) ++ [c0]) ++ lit2)).length))])) (fun _ J _ j => XS.iloadN J hx rfl (hb hby at_170) rfl j) ?_
    refine k_pure (g' := (mkF m 172 #[.val (.int a), .val (.int b), .val (.int (1 : Int32)), .val (.int c0), .val (.int c1), .val (.int c2), .val (.ref a_129), .val (.ref a_143), .val (.ref a_144)] [(.int (33 : Int32)), (.int (Int32.ofNat ((((([] : List Int32) ++ lit1) ++ [c0]) ++ lit2)).length))])) (fun _ J _ j => XS.iadd J hx rfl (hb hby at_171) rfl j) ?_
    refine k_pure (g' := (mkF m 177 #[.val (.int a), .val (.int b), .val (.int (1 : Int32)), .val (.int c0), .val (.int c1), .val (.int c2), .val (.ref a_129), .val (.ref a_143), .val (.ref a_144)] [])) (fun _ J _ j => XS.icmpYes J hx rfl (pc0 := 172) (pc' := 177) rfl (hb hby at_172) rfl (teq rfl).1 (by decide) (by decide) j) ?_
    refine k_pure (g' := (mkF m 179 #[.val (.int a), .val (.int b), .val (.int (1 : Int32)), .val (.int c0), .val (.int c1), .val (.int c2), .val (.ref a_129), .val (.ref a_143), .val (.ref a_144)] [(.ref a_144)])) (fun _ J _ j => XS.aload J hx rfl (hb hby at_177) rfl rfl j) ?_
    refine k_callS hx (y := (⟨"com/example/lidmaat/lidmaat/http/RefusalMalformedPinLaw", "prefix", "(Ljava/lang/String;)Z"⟩ : MethodName)) (wT 203 rfl) (wT 204 rfl) (wT 205 rfl) (wT 206 rfl) (by decide) (W := 0) (argsL := [(.ref a_144)]) (rest := []) (Pays.of_met (rm_pre l Z a0 G1 G3 us ss hX hY n0 bk_139 h_138 O_140 a_144 a_145 k_146 (((([] : List Int32) ++ lit1) ++ [c0]) ++ lit2) F_154 rfl (by simp [len1, len2]) hbl_155 []) (wT 206 rfl) (wT 205 rfl) (by decide) (by decide)) rfl (by rw [hml]; rfl) (lenOf pd__28_Ljava_2f_lang_2f_String_3b__29_Z rfl) rfl (by show 2 * 0 + _ ≤ _; exact Nat.le_of_eq rfl) (hb hby at_179) (by decide) (by decide) ?_
    intro v_187 h_188 bk_189 O_190 z_191 Q_192
    obtain ⟨rfl, hbk_193, K_194⟩ := Q_192
    have hbl_195 : ∀ y, bk_189 y → @LT.lt Nat _ y (Array.size h_188) := fun y q => (hbk_193 y q).elim (fun r => Nat.lt_of_lt_of_le (hbl_155 y r) (by omega)) (fun r => r.2)
    have hbs_196 : ∀ y, bk_189 y → bk y ∨ (@LE.le Nat _ (Array.size h0) y ∧ @LT.lt Nat _ y (Array.size h_188)) := fun y q => (hbk_193 y q).elim (fun r => (hbs_156 y r).imp id (fun t => ⟨t.1, Nat.lt_of_lt_of_le t.2 (by omega)⟩)) (fun r => Or.inr ⟨Nat.le_trans (by omega) r.1, r.2⟩)
    refine k_pure (g' := (mkF m 187 #[.val (.int a), .val (.int b), .val (.int (1 : Int32)), .val (.int c0), .val (.int c1), .val (.int c2), .val (.ref a_129), .val (.ref a_143), .val (.ref a_144)] [])) (fun _ J _ j => XS.ifYes J hx rfl (pc0 := 182) (pc' := 187) rfl (hb hby at_182) rfl ((if0 _ _).trans (feq (by decide : ¬ ((1 : Int32) = (0 : Int32)))).2) (by decide) (by decide) j) ?_
    refine k_pure (g' := (mkF m 188 #[.val (.int a), .val (.int b), .val (.int (1 : Int32)), .val (.int c0), .val (.int c1), .val (.int c2), .val (.ref a_129), .val (.ref a_143), .val (.ref a_144)] [(.int (1 : Int32))])) (fun _ J _ j => XS.iloadN J hx rfl (hb hby at_187) rfl j) ?_
    refine k_pure (g' := (mkF m 189 #[.val (.int a), .val (.int b), .val (.int (1 : Int32)), .val (.int c0), .val (.int c1), .val (.int c2), .val (.ref a_129), .val (.ref a_143), .val (.ref a_144)] [(.int (1 : Int32)), (.int (1 : Int32))])) (fun _ J _ j => XS.iconst J hx rfl (hb hby at_188) j) ?_
    refine k_pure (g' := (mkF m 192 #[.val (.int a), .val (.int b), .val (.int (1 : Int32)), .val (.int c0), .val (.int c1), .val (.int c2), .val (.ref a_129), .val (.ref a_143), .val (.ref a_144)] [])) (fun _ J _ j => XS.icmpNo J hx rfl (hb hby at_189) rfl (flt (by decide : ¬ ((1 : Int32) < (1 : Int32)))).1 j) ?_
    refine k_pure (g' := (mkF m 194 #[.val (.int a), .val (.int b), .val (.int (1 : Int32)), .val (.int c0), .val (.int c1), .val (.int c2), .val (.ref a_129), .val (.ref a_143), .val (.ref a_144)] [(.ref a_144)])) (fun _ J _ j => XS.aload J hx rfl (hb hby at_192) rfl rfl j) ?_
    refine k_pure (g' := (mkF m 196 #[.val (.int a), .val (.int b), .val (.int (1 : Int32)), .val (.int c0), .val (.int c1), .val (.int c2), .val (.ref a_129), .val (.ref a_143), .val (.ref a_144)] [(.int (19 : Int32)), (.ref a_144)])) (fun _ J _ j => XS.bipush J hx rfl (hb hby at_194) j) ?_
    have F_197 : StrL Z h_188 a_144 a_145 k_146 (((([] : List Int32) ++ lit1) ++ [c0]) ++ lit2) := (F_154.keep K_194 nin0 nin0)
    have F_198 : Exa Z h_188 a_144 "java/lang/String" := (F_154.1.keep K_194)
    refine k_callV hx (y := (⟨"java/lang/String", "charAt", "(I)C"⟩ : MethodName)) (z := (⟨"java/lang/String", "charAt", "(I)C"⟩ : MethodName)) (wT 207 rfl) (wT 208 rfl) (fun s' hZ => notFace_of_selects (args := #[]) (mv hZ (wT 210 rfl))) (wT 210 rfl) (wT 209 rfl) (by decide) (W := 0) (a := a_144) (argsL := [(.int (19 : Int32))]) (rest := []) (pay_ch (W := 0) hX O_190 F_197 19 (by simp [len1, len2]) rfl (by decide) (by decide)) F_198 rfl (by rw [hml]; rfl) (lenOf pd__28_I_29_C rfl) rfl (by show 2 * 0 + _ ≤ _; exact Nat.le_of_eq rfl) (hb hby at_196) (by decide) (by decide) ?_
    intro v_199 h_200 bk_201 O_202 z_203 Q_204
    obtain ⟨rfl, rfl, rfl⟩ := Q_204
    refine k_pure (g' := (mkF m 200 #[.val (.int a), .val (.int b), .val (.int (1 : Int32)), .val (.int c0), .val (.int c1), .val (.int c2), .val (.ref a_129), .val (.ref a_143), .val (.ref a_144)] [(.int c0), (.int (((((([] : List Int32) ++ lit1) ++ [c0]) ++ lit2)).getD 19 0))])) (fun _ J _ j => XS.iloadN J hx rfl (hb hby at_199) rfl j) ?_
    refine k_pure (g' := (mkF m 205 #[.val (.int a), .val (.int b), .val (.int (1 : Int32)), .val (.int c0), .val (.int c1), .val (.int c2), .val (.ref a_129), .val (.ref a_143), .val (.ref a_144)] [])) (fun _ J _ j => XS.icmpYes J hx rfl (pc0 := 200) (pc' := 205) rfl (hb hby at_200) rfl (teq rfl).1 (by decide) (by decide) j) ?_
    refine k_pure (g' := (mkF m 206 #[.val (.int a), .val (.int b), .val (.int (1 : Int32)), .val (.int c0), .val (.int c1), .val (.int c2), .val (.ref a_129), .val (.ref a_143), .val (.ref a_144)] [(.int (1 : Int32))])) (fun _ J _ j => XS.iloadN J hx rfl (hb hby at_205) rfl j) ?_
    refine k_pure (g' := (mkF m 207 #[.val (.int a), .val (.int b), .val (.int (1 : Int32)), .val (.int c0), .val (.int c1), .val (.int c2), .val (.ref a_129), .val (.ref a_143), .val (.ref a_144)] [(.int (2 : Int32)), (.int (1 : Int32))])) (fun _ J _ j => XS.iconst J hx rfl (hb hby at_206) j) ?_
    refine k_pure (g' := (mkF m 224 #[.val (.int a), .val (.int b), .val (.int (1 : Int32)), .val (.int c0), .val (.int c1), .val (.int c2), .val (.ref a_129), .val (.ref a_143), .val (.ref a_144)] [])) (fun _ J _ j => XS.icmpYes J hx rfl (pc0 := 207) (pc' := 224) rfl (hb hby at_207) rfl (tlt (by decide : ((1 : Int32) < (2 : Int32)))).1 (by decide) (by decide) j) ?_
    refine k_pure (g' := (mkF m 225 #[.val (.int a), .val (.int b), .val (.int (1 : Int32)), .val (.int c0), .val (.int c1), .val (.int c2), .val (.ref a_129), .val (.ref a_143), .val (.ref a_144)] [(.int (1 : Int32))])) (fun _ J _ j => XS.iloadN J hx rfl (hb hby at_224) rfl j) ?_
    refine k_pure (g' := (mkF m 226 #[.val (.int a), .val (.int b), .val (.int (1 : Int32)), .val (.int c0), .val (.int c1), .val (.int c2), .val (.ref a_129), .val (.ref a_143), .val (.ref a_144)] [(.int (3 : Int32)), (.int (1 : Int32))])) (fun _ J _ j => XS.iconst J hx rfl (hb hby at_225) j) ?_
    refine k_pure (g' := (mkF m 243 #[.val (.int a), .val (.int b), .val (.int (1 : Int32)), .val (.int c0), .val (.int c1), .val (.int c2), .val (.ref a_129), .val (.ref a_143), .val (.ref a_144)] [])) (fun _ J _ j => XS.icmpYes J hx rfl (pc0 := 226) (pc' := 243) rfl (hb hby at_226) rfl (tlt (by decide : ((1 : Int32) < (3 : Int32)))).1 (by decide) (by decide) j) ?_
    refine k_pure (g' := (mkF m 245 #[.val (.int a), .val (.int b), .val (.int (1 : Int32)), .val (.int c0), .val (.int c1), .val (.int c2), .val (.ref a_129), .val (.ref a_143), .val (.ref a_144)] [(.ref a_144)])) (fun _ J _ j => XS.aload J hx rfl (hb hby at_243) rfl rfl j) ?_
    refine k_pure (g' := (mkF m 247 #[.val (.int a), .val (.int b), .val (.int (1 : Int32)), .val (.int c0), .val (.int c1), .val (.int c2), .val (.ref a_129), .val (.ref a_143), .val (.ref a_144)] [(.int (19 : Int32)), (.ref a_144)])) (fun _ J _ j => XS.bipush J hx rfl (hb hby at_245) j) ?_
    refine k_pure (g' := (mkF m 248 #[.val (.int a), .val (.int b), .val (.int (1 : Int32)), .val (.int c0), .val (.int c1), .val (.int c2), .val (.ref a_129), .val (.ref a_143), .val (.ref a_144)] [(.int (1 : Int32)), (.int (19 : Int32)), (.ref a_144)])) (fun _ J _ j => XS.iloadN J hx rfl (hb hby at_247) rfl j) ?_
    refine k_pure (g' := (mkF m 249 #[.val (.int a), .val (.int b), .val (.int (1 : Int32)), .val (.int c0), .val (.int c1), .val (.int c2), .val (.ref a_129), .val (.ref a_143), .val (.ref a_144)] [(.int (20 : Int32)), (.ref a_144)])) (fun _ J _ j => XS.iadd J hx rfl (hb hby at_248) rfl j) ?_
    refine k_callS hx (y := (⟨"com/example/lidmaat/lidmaat/http/RefusalMalformedPinLaw", "suffix", "(Ljava/lang/String;I)Z"⟩ : MethodName)) (wT 249 rfl) (wT 250 rfl) (wT 205 rfl) (wT 251 rfl) (by decide) (W := 0) (argsL := [(.ref a_144), (.int (20 : Int32))]) (rest := []) (Pays.of_met (rm_suf l Z a0 G1 G3 us ss hX hY n0 bk_189 h_188 O_190 a_144 a_145 k_146 (((([] : List Int32) ++ lit1) ++ [c0]) ++ lit2) 20 F_197 rfl (by simp [len1, len2]) hbl_195 []) (wT 251 rfl) (wT 205 rfl) (by decide) (by decide)) rfl (by rw [hml]; rfl) (lenOf pd__28_Ljava_2f_lang_2f_String_3b_I_29_Z rfl) rfl (by show 2 * 0 + _ ≤ _; exact Nat.le_of_eq rfl) (hb hby at_249) (by decide) (by decide) ?_
    intro v_205 h_206 bk_207 O_208 z_209 Q_210
    obtain ⟨rfl, hbk_211, K_212⟩ := Q_210
    have hbl_213 : ∀ y, bk_207 y → @LT.lt Nat _ y (Array.size h_206) := fun y q => (hbk_211 y q).elim (fun r => Nat.lt_of_lt_of_le (hbl_195 y r) (by omega)) (fun r => r.2)
    have hbs_214 : ∀ y, bk_207 y → bk y ∨ (@LE.le Nat _ (Array.size h0) y ∧ @LT.lt Nat _ y (Array.size h_206)) := fun y q => (hbk_211 y q).elim (fun r => (hbs_196 y r).imp id (fun t => ⟨t.1, Nat.lt_of_lt_of_le t.2 (by omega)⟩)) (fun r => Or.inr ⟨Nat.le_trans (by omega) r.1, r.2⟩)
    show Run p l e _ s m _ below meth c Z EL1 _ n0 bk_207 h_206 23 680 (mkF m 252 #[.val (.int a), .val (.int b), .val (.int (1 : Int32)), .val (.int c0), .val (.int c1), .val (.int c2), .val (.ref a_129), .val (.ref a_143), .val (.ref a_144)] [(.int (1 : Int32))]) _
    exact k_retN hx hlk hret (by simp) (hb hby at_252) (by decide) (by decide) ⟨rfl, (fun y q => (hbs_214 y q).imp id (fun t => ⟨t.1, Nat.lt_of_lt_of_le t.2 (by omega)⟩)), (((((Keep.refl _ _).trans K_132 kk0).trans K_148 kk0).trans K_194 kk0).trans K_212 kk0)⟩
  · show Run p l e _ s m _ below meth c Z EL1 _ n0 bk h0 0 0 (mkF m 33 #[.val (.int a), .val (.int b), .val (.int (2 : Int32)), .val (.int c0), .val (.int c1), .val (.int c2), .unset, .unset, .unset] []) _
    refine k_pure (g' := (mkF m 34 #[.val (.int a), .val (.int b), .val (.int (2 : Int32)), .val (.int c0), .val (.int c1), .val (.int c2), .unset, .unset, .unset] [(.int (2 : Int32))])) (fun _ J _ j => XS.iloadN J hx rfl (hb hby at_33) rfl j) ?_
    refine k_pure (g' := (mkF m 52 #[.val (.int a), .val (.int b), .val (.int (2 : Int32)), .val (.int c0), .val (.int c1), .val (.int c2), .unset, .unset, .unset] [])) (fun _ J _ j => XS.ifYes J hx rfl (pc0 := 34) (pc' := 52) rfl (hb hby at_34) rfl ((if0 _ _).trans (feq (by decide : ¬ ((2 : Int32) = (0 : Int32)))).2) (by decide) (by decide) j) ?_
    refine k_pure (g' := (mkF m 53 #[.val (.int a), .val (.int b), .val (.int (2 : Int32)), .val (.int c0), .val (.int c1), .val (.int c2), .unset, .unset, .unset] [(.int (2 : Int32))])) (fun _ J _ j => XS.iloadN J hx rfl (hb hby at_52) rfl j) ?_
    refine k_pure (g' := (mkF m 54 #[.val (.int a), .val (.int b), .val (.int (2 : Int32)), .val (.int c0), .val (.int c1), .val (.int c2), .unset, .unset, .unset] [(.int (1 : Int32)), (.int (2 : Int32))])) (fun _ J _ j => XS.iconst J hx rfl (hb hby at_53) j) ?_
    refine k_pure (g' := (mkF m 66 #[.val (.int a), .val (.int b), .val (.int (2 : Int32)), .val (.int c0), .val (.int c1), .val (.int c2), .unset, .unset, .unset] [])) (fun _ J _ j => XS.icmpYes J hx rfl (pc0 := 54) (pc' := 66) rfl (hb hby at_54) rfl (feq (by decide : ¬ ((2 : Int32) = (1 : Int32)))).2 (by decide) (by decide) j) ?_
    refine k_pure (g' := (mkF m 67 #[.val (.int a), .val (.int b), .val (.int (2 : Int32)), .val (.int c0), .val (.int c1), .val (.int c2), .unset, .unset, .unset] [(.int (2 : Int32))])) (fun _ J _ j => XS.iloadN J hx rfl (hb hby at_66) rfl j) ?_
    refine k_pure (g' := (mkF m 68 #[.val (.int a), .val (.int b), .val (.int (2 : Int32)), .val (.int c0), .val (.int c1), .val (.int c2), .unset, .unset, .unset] [(.int (2 : Int32)), (.int (2 : Int32))])) (fun _ J _ j => XS.iconst J hx rfl (hb hby at_67) j) ?_
    refine k_pure (g' := (mkF m 71 #[.val (.int a), .val (.int b), .val (.int (2 : Int32)), .val (.int c0), .val (.int c1), .val (.int c2), .unset, .unset, .unset] [])) (fun _ J _ j => XS.icmpNo J hx rfl (hb hby at_68) rfl (teq (by decide : ((2 : Int32) = (2 : Int32)))).2 j) ?_
    refine k_newO hx (wT 0 rfl) (wT 1 rfl) (wT 2 rfl) rfl (hb hby at_71) (by decide) (by decide) ?_
    intro h_216 a_215 g_222 O_217 E_218 A_219 D_220 U_221
    have z_223 := E_218.1
    have lt_224 : @LT.lt Nat _ a_215 (Array.size h_216) := A_219.lt
    have nb_225 : ¬ bk a_215 := fun q => Nat.not_le_of_lt (hbl _ q) (show @LE.le Nat _ (Array.size h0) a_215 by omega)
    refine k_pure (g' := (mkF m 75 #[.val (.int a), .val (.int b), .val (.int (2 : Int32)), .val (.int c0), .val (.int c1), .val (.int c2), .unset, .unset, .unset] [(.ref a_215), (.ref a_215)])) (fun _ J _ j => XS.dup J hx rfl (hb hby at_74) rfl rfl j) ?_
    refine k_pure (g' := (mkF m 76 #[.val (.int a), .val (.int b), .val (.int (2 : Int32)), .val (.int c0), .val (.int c1), .val (.int c2), .unset, .unset, .unset] [(.int (2 : Int32)), (.ref a_215), (.ref a_215)])) (fun _ J _ j => XS.iconst J hx rfl (hb hby at_75) j) ?_
    refine k_newP hx (wT 3 rfl) rfl (hb hby at_76) rfl (by decide) (cap := 2) (by decide) (by decide) (by decide) (by decide) "[C" (by decide +kernel) ?_
    intro h_227 a_226 k_228 g_229 O_230 E_231 A_232 X_233
    have z_234 := E_231.1
    have lt_235 : @LT.lt Nat _ a_226 (Array.size h_227) := A_232.lt
    have V_236 : Arv Z h_227 a_226 k_228 .char (2 : Int32) [(.int (0 : Int32)), (.int (0 : Int32))] (.int (0 : Int32)) := Arv.pad A_232 (pad_rep [] (.int (0 : Int32)) 2)
    have hbl_237 : ∀ y, bk y → @LT.lt Nat _ y (Array.size h_216) := fun y q => Nat.lt_of_lt_of_le (hbl y q) (by omega)
    have nb_238 : ¬ bk a_226 := fun q => Nat.not_le_of_lt (hbl_237 _ q) (show @LE.le Nat _ (Array.size h_216) a_226 by omega)
    refine k_pure (g' := (mkF m 79 #[.val (.int a), .val (.int b), .val (.int (2 : Int32)), .val (.int c0), .val (.int c1), .val (.int c2), .unset, .unset, .unset] [(.ref a_226), (.ref a_226), (.ref a_215), (.ref a_215)])) (fun _ J _ j => XS.dup J hx rfl (hb hby at_78) rfl rfl j) ?_
    refine k_pure (g' := (mkF m 80 #[.val (.int a), .val (.int b), .val (.int (2 : Int32)), .val (.int c0), .val (.int c1), .val (.int c2), .unset, .unset, .unset] [(.int (0 : Int32)), (.ref a_226), (.ref a_226), (.ref a_215), (.ref a_215)])) (fun _ J _ j => XS.iconst J hx rfl (hb hby at_79) j) ?_
    refine k_pure (g' := (mkF m 81 #[.val (.int a), .val (.int b), .val (.int (2 : Int32)), .val (.int c0), .val (.int c1), .val (.int c2), .unset, .unset, .unset] [(.int c0), (.int (0 : Int32)), (.ref a_226), (.ref a_226), (.ref a_215), (.ref a_215)])) (fun _ J _ j => XS.iloadN J hx rfl (hb hby at_80) rfl j) ?_
    refine k_stC hx V_236 ⟨by decide, by decide⟩ 0 (by decide) (Nat.le_of_ble_eq_true rfl) (by omega) nb_238 rfl rfl (hb hby at_81) ?_
    intro h_239 O_240 W_241 A_242
    have z_243 := W_241.size
    have V_244 : Arv Z h_239 a_226 k_228 .char (2 : Int32) [(.int c0), (.int (0 : Int32))] (.int (0 : Int32)) := by rw [nr_ch hc0] at A_242; exact A_242
    refine k_pure (g' := (mkF m 83 #[.val (.int a), .val (.int b), .val (.int (2 : Int32)), .val (.int c0), .val (.int c1), .val (.int c2), .unset, .unset, .unset] [(.ref a_226), (.ref a_226), (.ref a_215), (.ref a_215)])) (fun _ J _ j => XS.dup J hx rfl (hb hby at_82) rfl rfl j) ?_
    refine k_pure (g' := (mkF m 84 #[.val (.int a), .val (.int b), .val (.int (2 : Int32)), .val (.int c0), .val (.int c1), .val (.int c2), .unset, .unset, .unset] [(.int (1 : Int32)), (.ref a_226), (.ref a_226), (.ref a_215), (.ref a_215)])) (fun _ J _ j => XS.iconst J hx rfl (hb hby at_83) j) ?_
    refine k_pure (g' := (mkF m 86 #[.val (.int a), .val (.int b), .val (.int (2 : Int32)), .val (.int c0), .val (.int c1), .val (.int c2), .unset, .unset, .unset] [(.int c1), (.int (1 : Int32)), (.ref a_226), (.ref a_226), (.ref a_215), (.ref a_215)])) (fun _ J _ j => XS.iload J hx rfl (hb hby at_84) rfl j) ?_
    refine k_stC hx V_244 ⟨by decide, by decide⟩ 1 (by decide) (Nat.le_of_ble_eq_true rfl) (by omega) nb_238 rfl rfl (hb hby at_86) ?_
    intro h_245 O_246 W_247 A_248
    have z_249 := W_247.size
    have V_250 : Arv Z h_245 a_226 k_228 .char (2 : Int32) [(.int c0), (.int c1)] (.int (0 : Int32)) := by rw [nr_ch hc1] at A_248; exact A_248
    show Run p l e _ s m _ below meth c Z EL1 _ n0 bk h_245 2 6 (mkF m 87 #[.val (.int a), .val (.int b), .val (.int (2 : Int32)), .val (.int c0), .val (.int c1), .val (.int c2), .unset, .unset, .unset] [(.ref a_226), (.ref a_215), (.ref a_215)]) _
    have F_251 : Exa Z h_245 a_215 "java/lang/String" := (((A_219.ext E_231).wr W_241).wr W_247)
    have F_252 : Fld Z h_245 a_215 "java/lang/String" "value" "[B" .null := ((((D_220 (Or.inr (wT 16 rfl)) (ty := (.array .byte)) (by decide)).ext E_231).other W_241 (Or.inl (ne_ad (by omega)))).other W_247 (Or.inl (ne_ad (by omega))))
    have F_253 : Fld Z h_245 a_215 "java/lang/String" "coder" "B" (.int (0 : Int32)) := ((((D_220 (Or.inr (wT 17 rfl)) (ty := .byte) (by decide)).ext E_231).other W_241 (Or.inl (ne_ad (by omega)))).other W_247 (Or.inl (ne_ad (by omega))))
    refine k_callI hx (y := (⟨"java/lang/String", "<init>", "([C)V"⟩ : MethodName)) rfl (wT 4 rfl) (wT 5 rfl) (wT 6 rfl) (by decide) (W := 1) (a := a_215) (argsL := [(.ref a_226)]) (rest := [(.ref a_215)]) (pay_new (W := 1) hX O_246 nb_225 (cs := [c0, c1]) F_251 F_252 F_253 V_250 2 rfl rfl (by decide) (by decide) (two_ch hc0 hc1) (by omega) (by decide) (by decide)) rfl (by rw [hml]; rfl) (lenOf pd__28__5b_C_29_V rfl) rfl (by show 2 * 0 + _ ≤ _; exact Nat.le_of_eq rfl) (hb hby at_87) (by decide) (by decide) ?_
    intro v_254 h_255 bk_256 O_257 z_258 Q_259
    obtain ⟨rfl, rfl, K_260, a_261, k_262, ge_263, ge_264, S_265⟩ := Q_259
    have lt_266 : @LT.lt Nat _ a_215 (Array.size h_255) := S_265.lt1
    have lt_267 : @LT.lt Nat _ a_261 (Array.size h_255) := S_265.lt2
    refine k_pure (g' := (mkF m 92 #[.val (.int a), .val (.int b), .val (.int (2 : Int32)), .val (.int c0), .val (.int c1), .val (.int c2), .val (.ref a_215), .unset, .unset] [])) (fun _ J _ j => XS.astore J hx rfl (hb hby at_90) rfl rfl (l' := #[.val (.int a), .val (.int b), .val (.int (2 : Int32)), .val (.int c0), .val (.int c1), .val (.int c2), .val (.ref a_215), .unset, .unset]) rfl j) ?_
    refine k_pure (g' := (mkF m 121 #[.val (.int a), .val (.int b), .val (.int (2 : Int32)), .val (.int c0), .val (.int c1), .val (.int c2), .val (.ref a_215), .unset, .unset] [])) (fun _ J _ j => XS.goto J hx rfl (pc0 := 92) (pc' := 121) rfl (hb hby at_92) (by decide) (by decide) j) ?_
    refine k_pure (g' := (mkF m 123 #[.val (.int a), .val (.int b), .val (.int (2 : Int32)), .val (.int c0), .val (.int c1), .val (.int c2), .val (.ref a_215), .unset, .unset] [(.ref a_215)])) (fun _ J _ j => XS.aload J hx rfl (hb hby at_121) rfl rfl j) ?_
    have hbl_268 : ∀ y, bk y → @LT.lt Nat _ y (Array.size h_255) := fun y q => Nat.lt_of_lt_of_le (hbl_237 y q) (by omega)
    refine k_callS hx (y := (⟨"com/example/lidmaat/lidmaat/http/Refusal", "malformed", "(Ljava/lang/String;)Lcom/example/lidmaat/lidmaat/http/Refusal;"⟩ : MethodName)) (wT 22 rfl) (wT 23 rfl) (wT 24 rfl) (wT 25 rfl) (by decide) (W := 0) (argsL := [(.ref a_215)]) (rest := []) (Pays.of_met (rm_mal l Z a0 G1 G3 us ss hX hY n0 bk h_255 O_257 a_215 a_261 k_262 [c0, c1] S_265 (by simp) hbl_268 []) (wT 25 rfl) (wT 24 rfl) (by decide) (by decide)) rfl (by rw [hml]; rfl) (lenOf pd__28_Ljava_2f_lang_2f_String_3b__29_Lcom_2f_example_2f_lidmaat_2f_lidmaat_2f_http_2f_Refusal_3b_ rfl) rfl (by show 2 * 0 + _ ≤ _; exact Nat.le_of_eq rfl) (hb hby at_123) (by decide) (by decide) ?_
    intro v_269 h_270 bk_271 O_272 z_273 Q_274
    obtain ⟨a_275, a_276, a_277, k_278, rfl, hbk_279, K_280, F_281, F_282, F_283, F_284, F_285, F_286⟩ := Q_274
    have nb_287 : ¬ bk_271 a_215 := fun q => (hbk_279 _ q).elim nb_225 (fun r => Nat.not_le_of_lt (show @LT.lt Nat _ a_215 (Array.size h_255) by omega) r.1)
    have nb_288 : ¬ bk_271 a_226 := fun q => (hbk_279 _ q).elim nb_238 (fun r => Nat.not_le_of_lt (show @LT.lt Nat _ a_226 (Array.size h_255) by omega) r.1)
    have hbl_289 : ∀ y, bk_271 y → @LT.lt Nat _ y (Array.size h_270) := fun y q => (hbk_279 y q).elim (fun r => Nat.lt_of_lt_of_le (hbl_268 y r) (by omega)) (fun r => r.2)
    have hbs_290 : ∀ y, bk_271 y → bk y ∨ (@LE.le Nat _ (Array.size h0) y ∧ @LT.lt Nat _ y (Array.size h_270)) := fun y q => (hbk_279 y q).imp id (fun r => ⟨Nat.le_trans (by omega) r.1, r.2⟩)
    have lt_291 : @LT.lt Nat _ a_275 (Array.size h_270) := F_281.lt
    have lt_292 : @LT.lt Nat _ a_275 (Array.size h_270) := F_283.lt
    have lt_293 : @LT.lt Nat _ a_275 (Array.size h_270) := F_284.lt
    have lt_294 : @LT.lt Nat _ a_275 (Array.size h_270) := F_285.lt
    have lt_295 : @LT.lt Nat _ a_276 (Array.size h_270) := F_286.lt1
    have lt_296 : @LT.lt Nat _ a_277 (Array.size h_270) := F_286.lt2
    refine k_pure (g' := (mkF m 128 #[.val (.int a), .val (.int b), .val (.int (2 : Int32)), .val (.int c0), .val (.int c1), .val (.int c2), .val (.ref a_215), .val (.ref a_275), .unset] [])) (fun _ J _ j => XS.astore J hx rfl (hb hby at_126) rfl rfl (l' := #[.val (.int a), .val (.int b), .val (.int (2 : Int32)), .val (.int c0), .val (.int c1), .val (.int c2), .val (.ref a_215), .val (.ref a_275), .unset]) rfl j) ?_
    refine k_pure (g' := (mkF m 130 #[.val (.int a), .val (.int b), .val (.int (2 : Int32)), .val (.int c0), .val (.int c1), .val (.int c2), .val (.ref a_215), .val (.ref a_275), .unset] [(.ref a_275)])) (fun _ J _ j => XS.aload J hx rfl (hb hby at_128) rfl rfl j) ?_
    refine k_callV hx (y := (⟨"com/example/lidmaat/lidmaat/http/Refusal", "status", "()I"⟩ : MethodName)) (z := (⟨"com/example/lidmaat/lidmaat/http/Refusal", "status", "()I"⟩ : MethodName)) (wT 185 rfl) (wT 186 rfl) (fun s' hZ => notFace_of_selects (args := #[]) (mv hZ (wT 188 rfl))) (wT 188 rfl) (wT 187 rfl) (by decide) (W := 0) (a := a_275) (argsL := []) (rest := []) (Pays.of_met (rm_sta l Z a0 G1 G3 us ss hX hY n0 bk_271 h_270 O_272 a_275 (400 : Int32) F_281 F_285 []) (wT 189 rfl) (wT 24 rfl) (by decide) (by decide)) F_281 rfl (by rw [hml]; rfl) (lenOf pd__28__29_I rfl) rfl (by show 2 * 0 + _ ≤ _; exact Nat.le_of_eq rfl) (hb hby at_130) (by decide) (by decide) ?_
    intro v_297 h_298 bk_299 O_300 z_301 Q_302
    obtain ⟨rfl, rfl, rfl⟩ := Q_302
    refine k_pure (g' := (mkF m 136 #[.val (.int a), .val (.int b), .val (.int (2 : Int32)), .val (.int c0), .val (.int c1), .val (.int c2), .val (.ref a_215), .val (.ref a_275), .unset] [(.int (400 : Int32)), (.int (400 : Int32))])) (fun _ J _ j => XS.sipush J hx rfl (hb hby at_133) j) ?_
    refine k_pure (g' := (mkF m 141 #[.val (.int a), .val (.int b), .val (.int (2 : Int32)), .val (.int c0), .val (.int c1), .val (.int c2), .val (.ref a_215), .val (.ref a_275), .unset] [])) (fun _ J _ j => XS.icmpYes J hx rfl (pc0 := 136) (pc' := 141) rfl (hb hby at_136) rfl (teq rfl).1 (by decide) (by decide) j) ?_
    refine k_pure (g' := (mkF m 143 #[.val (.int a), .val (.int b), .val (.int (2 : Int32)), .val (.int c0), .val (.int c1), .val (.int c2), .val (.ref a_215), .val (.ref a_275), .unset] [(.ref a_275)])) (fun _ J _ j => XS.aload J hx rfl (hb hby at_141) rfl rfl j) ?_
    refine k_callU hx (y := (⟨"com/example/lidmaat/lidmaat/http/Refusal", "getCause", "()Ljava/lang/Throwable;"⟩ : MethodName)) (z := (⟨"java/lang/Throwable", "getCause", "()Ljava/lang/Throwable;"⟩ : MethodName)) (wT 190 rfl) (wT 191 rfl) (wT 192 rfl) (by decide) (wT 194 rfl) (wT 193 rfl) (W := 0) (a := a_275) (argsL := []) (rest := []) (pay_cause (W := 0) hX F_282 F_283 (by decide) (by decide)) F_281 rfl (by rw [hml]; rfl) (lenOf pd__28__29_Ljava_2f_lang_2f_Throwable_3b_ rfl) rfl (by show 2 * 0 + _ ≤ _; exact Nat.le_of_eq rfl) (hb hby at_143) (by decide) (by decide) ?_
    intro v_303 h_304 bk_305 O_306 z_307 Q_308
    obtain ⟨rfl, rfl, rfl⟩ := Q_308
    refine k_pure (g' := (mkF m 151 #[.val (.int a), .val (.int b), .val (.int (2 : Int32)), .val (.int c0), .val (.int c1), .val (.int c2), .val (.ref a_215), .val (.ref a_275), .unset] [])) (fun _ J _ j => XS.ifnullYes J hx rfl (pc0 := 146) (pc' := 151) rfl (hb hby at_146) rfl (by decide) (by decide) j) ?_
    refine k_pure (g' := (mkF m 153 #[.val (.int a), .val (.int b), .val (.int (2 : Int32)), .val (.int c0), .val (.int c1), .val (.int c2), .val (.ref a_215), .val (.ref a_275), .unset] [(.ref a_275)])) (fun _ J _ j => XS.aload J hx rfl (hb hby at_151) rfl rfl j) ?_
    refine k_callU hx (y := (⟨"com/example/lidmaat/lidmaat/http/Refusal", "getMessage", "()Ljava/lang/String;"⟩ : MethodName)) (z := (⟨"java/lang/Throwable", "getMessage", "()Ljava/lang/String;"⟩ : MethodName)) (wT 196 rfl) (wT 197 rfl) (wT 198 rfl) (by decide) (wT 200 rfl) (wT 199 rfl) (W := 0) (a := a_275) (argsL := []) (rest := []) (Pays.of_met (rm_gms l Z a0 G1 G3 us ss hX hY n0 bk_271 h_270 O_272 a_275 a_276 F_281 F_284 []) (wT 201 rfl) (wT 170 rfl) (by decide) (by decide)) F_281 rfl (by rw [hml]; rfl) (lenOf pd__28__29_Ljava_2f_lang_2f_String_3b_ rfl) rfl (by show 2 * 0 + _ ≤ _; exact Nat.le_of_eq rfl) (hb hby at_153) (by decide) (by decide) ?_
    intro v_309 h_310 bk_311 O_312 z_313 Q_314
    obtain ⟨rfl, rfl, rfl⟩ := Q_314
    refine k_pure (g' := (mkF m 158 #[.val (.int a), .val (.int b), .val (.int (2 : Int32)), .val (.int c0), .val (.int c1), .val (.int c2), .val (.ref a_215), .val (.ref a_275), .val (.ref a_276)] [])) (fun _ J _ j => XS.astore J hx rfl (hb hby at_156) rfl rfl (l' := #[.val (.int a), .val (.int b), .val (.int (2 : Int32)), .val (.int c0), .val (.int c1), .val (.int c2), .val (.ref a_215), .val (.ref a_275), .val (.ref a_276)]) rfl j) ?_
    refine k_pure (g' := (mkF m 160 #[.val (.int a), .val (.int b), .val (.int (2 : Int32)), .val (.int c0), .val (.int c1), .val (.int c2), .val (.ref a_215), .val (.ref a_275), .val (.ref a_276)] [(.ref a_276)])) (fun _ J _ j => XS.aload J hx rfl (hb hby at_158) rfl rfl j) ?_
    refine k_pure (g' := (mkF m 163 #[.val (.int a), .val (.int b), .val (.int (2 : Int32)), .val (.int c0), .val (.int c1), .val (.int c2), .val (.ref a_215), .val (.ref a_275), .val (.ref a_276)] [])) (fun _ J _ j => XS.ifnullNo J hx rfl (hb hby at_160) rfl j) ?_
    refine k_pure (g' := (mkF m 165 #[.val (.int a), .val (.int b), .val (.int (2 : Int32)), .val (.int c0), .val (.int c1), .val (.int c2), .val (.ref a_215), .val (.ref a_275), .val (.ref a_276)] [(.ref a_276)])) (fun _ J _ j => XS.aload J hx rfl (hb hby at_163) rfl rfl j) ?_
    refine k_callV hx (y := (⟨"java/lang/String", "length", "()I"⟩ : MethodName)) (z := (⟨"java/lang/String", "length", "()I"⟩ : MethodName)) (wT 202 rfl) (wT 58 rfl) (fun s' hZ => notFace_of_selects (args := #[]) (mv hZ (wT 60 rfl))) (wT 60 rfl) (wT 59 rfl) (by decide) (W := 0) (a := a_276) (argsL := []) (rest := []) (pay_len (W := 0) hX O_272 F_286 (by decide) (by decide)) F_286.1 rfl (by rw [hml]; rfl) (lenOf pd__28__29_I rfl) rfl (by show 2 * 0 + _ ≤ _; exact Nat.le_of_eq rfl) (hb hby at_165) (by decide) (by decide) ?_
    intro v_315 h_316 bk_317 O_318 z_319 Q_320
    obtain ⟨rfl, rfl, rfl⟩ := Q_320
    refine k_pure (g' := (mkF m 170 #[.val (.int a), .val (.int b), .val (.int (2 : Int32)), .val (.int c0), .val (.int c1), .val (.int c2), .val (.ref a_215), .val (.ref a_275), .val (.ref a_276)] [(.int (32 : Int32)), (.int (Int32.ofNat ((((([] : List Int32) ++ lit1) ++ [c0, c1]) ++ lit2)).length))])) (fun _ J _ j => XS.bipush J hx rfl (hb hby at_168) j) ?_
    refine k_pure (g' := (mkF m 171 #[.val (.int a), .val (.int b), .val (.int (2 : Int32)), .val (.int c0), .val (.int c1), .val (.int c2), .val (.ref a_215), .val (.ref a_275), .val (.ref a_276)] [(.int (2 : Int32)), (.int (32 : Int32)), (.int (Int32.ofNat ((((([] : List Int32) ++ lit1) ++ [c0, c1]) ++ lit2)).length))])) (fun _ J _ j => XS.iloadN J hx rfl (hb hby at_170) rfl j) ?_
    refine k_pure (g' := (mkF m 172 #[.val (.int a), .val (.int b), .val (.int (2 : Int32)), .val (.int c0), .val (.int c1), .val (.int c2), .val (.ref a_215), .val (.ref a_275), .val (.ref a_276)] [(.int (34 : Int32)), (.int (Int32.ofNat ((((([] : List Int32) ++ lit1) ++ [c0, c1]) ++ lit2)).length))])) (fun _ J _ j => XS.iadd J hx rfl (hb hby at_171) rfl j) ?_
    refine k_pure (g' := (mkF m 177 #[.val (.int a), .val (.int b), .val (.int (2 : Int32)), .val (.int c0), .val (.int c1), .val (.int c2), .val (.ref a_215), .val (.ref a_275), .val (.ref a_276)] [])) (fun _ J _ j => XS.icmpYes J hx rfl (pc0 := 172) (pc' := 177) rfl (hb hby at_172) rfl (teq rfl).1 (by decide) (by decide) j) ?_
    refine k_pure (g' := (mkF m 179 #[.val (.int a), .val (.int b), .val (.int (2 : Int32)), .val (.int c0), .val (.int c1), .val (.int c2), .val (.ref a_215), .val (.ref a_275), .val (.ref a_276)] [(.ref a_276)])) (fun _ J _ j => XS.aload J hx rfl (hb hby at_177) rfl rfl j) ?_
    refine k_callS hx (y := (⟨"com/example/lidmaat/lidmaat/http/RefusalMalformedPinLaw", "prefix", "(Ljava/lang/String;)Z"⟩ : MethodName)) (wT 203 rfl) (wT 204 rfl) (wT 205 rfl) (wT 206 rfl) (by decide) (W := 0) (argsL := [(.ref a_276)]) (rest := []) (Pays.of_met (rm_pre l Z a0 G1 G3 us ss hX hY n0 bk_271 h_270 O_272 a_276 a_277 k_278 (((([] : List Int32) ++ lit1) ++ [c0, c1]) ++ lit2) F_286 rfl (by simp [len1, len2]) hbl_289 []) (wT 206 rfl) (wT 205 rfl) (by decide) (by decide)) rfl (by rw [hml]; rfl) (lenOf pd__28_Ljava_2f_lang_2f_String_3b__29_Z rfl) rfl (by show 2 * 0 + _ ≤ _; exact Nat.le_of_eq rfl) (hb hby at_179) (by decide) (by decide) ?_
    intro v_321 h_322 bk_323 O_324 z_325 Q_326
    obtain ⟨rfl, hbk_327, K_328⟩ := Q_326
    have nb_329 : ¬ bk_323 a_215 := fun q => (hbk_327 _ q).elim nb_287 (fun r => Nat.not_le_of_lt (show @LT.lt Nat _ a_215 (Array.size h_270) by omega) r.1)
    have nb_330 : ¬ bk_323 a_226 := fun q => (hbk_327 _ q).elim nb_288 (fun r => Nat.not_le_of_lt (show @LT.lt Nat _ a_226 (Array.size h_270) by omega) r.1)
    have hbl_331 : ∀ y, bk_323 y → @LT.lt Nat _ y (Array.size h_322) := fun y q => (hbk_327 y q).elim (fun r => Nat.lt_of_lt_of_le (hbl_289 y r) (by omega)) (fun r => r.2)
    have hbs_332 : ∀ y, bk_323 y → bk y ∨ (@LE.le Nat _ (Array.size h0) y ∧ @LT.lt Nat _ y (Array.size h_322)) := fun y q => (hbk_327 y q).elim (fun r => (hbs_290 y r).imp id (fun t => ⟨t.1, Nat.lt_of_lt_of_le t.2 (by omega)⟩)) (fun r => Or.inr ⟨Nat.le_trans (by omega) r.1, r.2⟩)
    refine k_pure (g' := (mkF m 187 #[.val (.int a), .val (.int b), .val (.int (2 : Int32)), .val (.int c0), .val (.int c1), .val (.int c2), .val (.ref a_215), .val (.ref a_275), .val (.ref a_276)] [])) (fun _ J _ j => XS.ifYes J hx rfl (pc0 := 182) (pc' := 187) rfl (hb hby at_182) rfl ((if0 _ _).trans (feq (by decide : ¬ ((1 : Int32) = (0 : Int32)))).2) (by decide) (by decide) j) ?_
    refine k_pure (g' := (mkF m 188 #[.val (.int a), .val (.int b), .val (.int (2 : Int32)), .val (.int c0), .val (.int c1), .val (.int c2), .val (.ref a_215), .val (.ref a_275), .val (.ref a_276)] [(.int (2 : Int32))])) (fun _ J _ j => XS.iloadN J hx rfl (hb hby at_187) rfl j) ?_
    refine k_pure (g' := (mkF m 189 #[.val (.int a), .val (.int b), .val (.int (2 : Int32)), .val (.int c0), .val (.int c1), .val (.int c2), .val (.ref a_215), .val (.ref a_275), .val (.ref a_276)] [(.int (1 : Int32)), (.int (2 : Int32))])) (fun _ J _ j => XS.iconst J hx rfl (hb hby at_188) j) ?_
    refine k_pure (g' := (mkF m 192 #[.val (.int a), .val (.int b), .val (.int (2 : Int32)), .val (.int c0), .val (.int c1), .val (.int c2), .val (.ref a_215), .val (.ref a_275), .val (.ref a_276)] [])) (fun _ J _ j => XS.icmpNo J hx rfl (hb hby at_189) rfl (flt (by decide : ¬ ((2 : Int32) < (1 : Int32)))).1 j) ?_
    refine k_pure (g' := (mkF m 194 #[.val (.int a), .val (.int b), .val (.int (2 : Int32)), .val (.int c0), .val (.int c1), .val (.int c2), .val (.ref a_215), .val (.ref a_275), .val (.ref a_276)] [(.ref a_276)])) (fun _ J _ j => XS.aload J hx rfl (hb hby at_192) rfl rfl j) ?_
    refine k_pure (g' := (mkF m 196 #[.val (.int a), .val (.int b), .val (.int (2 : Int32)), .val (.int c0), .val (.int c1), .val (.int c2), .val (.ref a_215), .val (.ref a_275), .val (.ref a_276)] [(.int (19 : Int32)), (.ref a_276)])) (fun _ J _ j => XS.bipush J hx rfl (hb hby at_194) j) ?_
    have F_333 : StrL Z h_322 a_276 a_277 k_278 (((([] : List Int32) ++ lit1) ++ [c0, c1]) ++ lit2) := (F_286.keep K_328 nin0 nin0)
    have F_334 : Exa Z h_322 a_276 "java/lang/String" := (F_286.1.keep K_328)
    refine k_callV hx (y := (⟨"java/lang/String", "charAt", "(I)C"⟩ : MethodName)) (z := (⟨"java/lang/String", "charAt", "(I)C"⟩ : MethodName)) (wT 207 rfl) (wT 208 rfl) (fun s' hZ => notFace_of_selects (args := #[]) (mv hZ (wT 210 rfl))) (wT 210 rfl) (wT 209 rfl) (by decide) (W := 0) (a := a_276) (argsL := [(.int (19 : Int32))]) (rest := []) (pay_ch (W := 0) hX O_324 F_333 19 (by simp [len1, len2]) rfl (by decide) (by decide)) F_334 rfl (by rw [hml]; rfl) (lenOf pd__28_I_29_C rfl) rfl (by show 2 * 0 + _ ≤ _; exact Nat.le_of_eq rfl) (hb hby at_196) (by decide) (by decide) ?_
    intro v_335 h_336 bk_337 O_338 z_339 Q_340
    obtain ⟨rfl, rfl, rfl⟩ := Q_340
    refine k_pure (g' := (mkF m 200 #[.val (.int a), .val (.int b), .val (.int (2 : Int32)), .val (.int c0), .val (.int c1), .val (.int c2), .val (.ref a_215), .val (.ref a_275), .val (.ref a_276)] [(.int c0), (.int (((((([] : List Int32) ++ lit1) ++ [c0, c1]) ++ lit2)).getD 19 0))])) (fun _ J _ j => XS.iloadN J hx rfl (hb hby at_199) rfl j) ?_
    refine k_pure (g' := (mkF m 205 #[.val (.int a), .val (.int b), .val (.int (2 : Int32)), .val (.int c0), .val (.int c1), .val (.int c2), .val (.ref a_215), .val (.ref a_275), .val (.ref a_276)] [])) (fun _ J _ j => XS.icmpYes J hx rfl (pc0 := 200) (pc' := 205) rfl (hb hby at_200) rfl (teq rfl).1 (by decide) (by decide) j) ?_
    refine k_pure (g' := (mkF m 206 #[.val (.int a), .val (.int b), .val (.int (2 : Int32)), .val (.int c0), .val (.int c1), .val (.int c2), .val (.ref a_215), .val (.ref a_275), .val (.ref a_276)] [(.int (2 : Int32))])) (fun _ J _ j => XS.iloadN J hx rfl (hb hby at_205) rfl j) ?_
    refine k_pure (g' := (mkF m 207 #[.val (.int a), .val (.int b), .val (.int (2 : Int32)), .val (.int c0), .val (.int c1), .val (.int c2), .val (.ref a_215), .val (.ref a_275), .val (.ref a_276)] [(.int (2 : Int32)), (.int (2 : Int32))])) (fun _ J _ j => XS.iconst J hx rfl (hb hby at_206) j) ?_
    refine k_pure (g' := (mkF m 210 #[.val (.int a), .val (.int b), .val (.int (2 : Int32)), .val (.int c0), .val (.int c1), .val (.int c2), .val (.ref a_215), .val (.ref a_275), .val (.ref a_276)] [])) (fun _ J _ j => XS.icmpNo J hx rfl (hb hby at_207) rfl (flt (by decide : ¬ ((2 : Int32) < (2 : Int32)))).1 j) ?_
    refine k_pure (g' := (mkF m 212 #[.val (.int a), .val (.int b), .val (.int (2 : Int32)), .val (.int c0), .val (.int c1), .val (.int c2), .val (.ref a_215), .val (.ref a_275), .val (.ref a_276)] [(.ref a_276)])) (fun _ J _ j => XS.aload J hx rfl (hb hby at_210) rfl rfl j) ?_
    refine k_pure (g' := (mkF m 214 #[.val (.int a), .val (.int b), .val (.int (2 : Int32)), .val (.int c0), .val (.int c1), .val (.int c2), .val (.ref a_215), .val (.ref a_275), .val (.ref a_276)] [(.int (20 : Int32)), (.ref a_276)])) (fun _ J _ j => XS.bipush J hx rfl (hb hby at_212) j) ?_
    refine k_callV hx (y := (⟨"java/lang/String", "charAt", "(I)C"⟩ : MethodName)) (z := (⟨"java/lang/String", "charAt", "(I)C"⟩ : MethodName)) (wT 207 rfl) (wT 208 rfl) (fun s' hZ => notFace_of_selects (args := #[]) (mv hZ (wT 210 rfl))) (wT 210 rfl) (wT 209 rfl) (by decide) (W := 0) (a := a_276) (argsL := [(.int (20 : Int32))]) (rest := []) (pay_ch (W := 0) hX O_324 F_333 20 (by simp [len1, len2]) rfl (by decide) (by decide)) F_334 rfl (by rw [hml]; rfl) (lenOf pd__28_I_29_C rfl) rfl (by show 2 * 0 + _ ≤ _; exact Nat.le_of_eq rfl) (hb hby at_214) (by decide) (by decide) ?_
    intro v_341 h_342 bk_343 O_344 z_345 Q_346
    obtain ⟨rfl, rfl, rfl⟩ := Q_346
    refine k_pure (g' := (mkF m 219 #[.val (.int a), .val (.int b), .val (.int (2 : Int32)), .val (.int c0), .val (.int c1), .val (.int c2), .val (.ref a_215), .val (.ref a_275), .val (.ref a_276)] [(.int c1), (.int (((((([] : List Int32) ++ lit1) ++ [c0, c1]) ++ lit2)).getD 20 0))])) (fun _ J _ j => XS.iload J hx rfl (hb hby at_217) rfl j) ?_
    refine k_pure (g' := (mkF m 224 #[.val (.int a), .val (.int b), .val (.int (2 : Int32)), .val (.int c0), .val (.int c1), .val (.int c2), .val (.ref a_215), .val (.ref a_275), .val (.ref a_276)] [])) (fun _ J _ j => XS.icmpYes J hx rfl (pc0 := 219) (pc' := 224) rfl (hb hby at_219) rfl (teq rfl).1 (by decide) (by decide) j) ?_
    refine k_pure (g' := (mkF m 225 #[.val (.int a), .val (.int b), .val (.int (2 : Int32)), .val (.int c0), .val (.int c1), .val (.int c2), .val (.ref a_215), .val (.ref a_275), .val (.ref a_276)] [(.int (2 : Int32))])) (fun _ J _ j => XS.iloadN J hx rfl (hb hby at_224) rfl j) ?_
    refine k_pure (g' := (mkF m 226 #[.val (.int a), .val (.int b), .val (.int (2 : Int32)), .val (.int c0), .val (.int c1), .val (.int c2), .val (.ref a_215), .val (.ref a_275), .val (.ref a_276)] [(.int (3 : Int32)), (.int (2 : Int32))])) (fun _ J _ j => XS.iconst J hx rfl (hb hby at_225) j) ?_
    refine k_pure (g' := (mkF m 243 #[.val (.int a), .val (.int b), .val (.int (2 : Int32)), .val (.int c0), .val (.int c1), .val (.int c2), .val (.ref a_215), .val (.ref a_275), .val (.ref a_276)] [])) (fun _ J _ j => XS.icmpYes J hx rfl (pc0 := 226) (pc' := 243) rfl (hb hby at_226) rfl (tlt (by decide : ((2 : Int32) < (3 : Int32)))).1 (by decide) (by decide) j) ?_
    refine k_pure (g' := (mkF m 245 #[.val (.int a), .val (.int b), .val (.int (2 : Int32)), .val (.int c0), .val (.int c1), .val (.int c2), .val (.ref a_215), .val (.ref a_275), .val (.ref a_276)] [(.ref a_276)])) (fun _ J _ j => XS.aload J hx rfl (hb hby at_243) rfl rfl j) ?_
    refine k_pure (g' := (mkF m 247 #[.val (.int a), .val (.int b), .val (.int (2 : Int32)), .val (.int c0), .val (.int c1), .val (.int c2), .val (.ref a_215), .val (.ref a_275), .val (.ref a_276)] [(.int (19 : Int32)), (.ref a_276)])) (fun _ J _ j => XS.bipush J hx rfl (hb hby at_245) j) ?_
    refine k_pure (g' := (mkF m 248 #[.val (.int a), .val (.int b), .val (.int (2 : Int32)), .val (.int c0), .val (.int c1), .val (.int c2), .val (.ref a_215), .val (.ref a_275), .val (.ref a_276)] [(.int (2 : Int32)), (.int (19 : Int32)), (.ref a_276)])) (fun _ J _ j => XS.iloadN J hx rfl (hb hby at_247) rfl j) ?_
    refine k_pure (g' := (mkF m 249 #[.val (.int a), .val (.int b), .val (.int (2 : Int32)), .val (.int c0), .val (.int c1), .val (.int c2), .val (.ref a_215), .val (.ref a_275), .val (.ref a_276)] [(.int (21 : Int32)), (.ref a_276)])) (fun _ J _ j => XS.iadd J hx rfl (hb hby at_248) rfl j) ?_
    refine k_callS hx (y := (⟨"com/example/lidmaat/lidmaat/http/RefusalMalformedPinLaw", "suffix", "(Ljava/lang/String;I)Z"⟩ : MethodName)) (wT 249 rfl) (wT 250 rfl) (wT 205 rfl) (wT 251 rfl) (by decide) (W := 0) (argsL := [(.ref a_276), (.int (21 : Int32))]) (rest := []) (Pays.of_met (rm_suf l Z a0 G1 G3 us ss hX hY n0 bk_323 h_322 O_324 a_276 a_277 k_278 (((([] : List Int32) ++ lit1) ++ [c0, c1]) ++ lit2) 21 F_333 rfl (by simp [len1, len2]) hbl_331 []) (wT 251 rfl) (wT 205 rfl) (by decide) (by decide)) rfl (by rw [hml]; rfl) (lenOf pd__28_Ljava_2f_lang_2f_String_3b_I_29_Z rfl) rfl (by show 2 * 0 + _ ≤ _; exact Nat.le_of_eq rfl) (hb hby at_249) (by decide) (by decide) ?_
    intro v_347 h_348 bk_349 O_350 z_351 Q_352
    obtain ⟨rfl, hbk_353, K_354⟩ := Q_352
    have nb_355 : ¬ bk_349 a_215 := fun q => (hbk_353 _ q).elim nb_329 (fun r => Nat.not_le_of_lt (show @LT.lt Nat _ a_215 (Array.size h_322) by omega) r.1)
    have nb_356 : ¬ bk_349 a_226 := fun q => (hbk_353 _ q).elim nb_330 (fun r => Nat.not_le_of_lt (show @LT.lt Nat _ a_226 (Array.size h_322) by omega) r.1)
    have hbl_357 : ∀ y, bk_349 y → @LT.lt Nat _ y (Array.size h_348) := fun y q => (hbk_353 y q).elim (fun r => Nat.lt_of_lt_of_le (hbl_331 y r) (by omega)) (fun r => r.2)
    have hbs_358 : ∀ y, bk_349 y → bk y ∨ (@LE.le Nat _ (Array.size h0) y ∧ @LT.lt Nat _ y (Array.size h_348)) := fun y q => (hbk_353 y q).elim (fun r => (hbs_332 y r).imp id (fun t => ⟨t.1, Nat.lt_of_lt_of_le t.2 (by omega)⟩)) (fun r => Or.inr ⟨Nat.le_trans (by omega) r.1, r.2⟩)
    show Run p l e _ s m _ below meth c Z EL1 _ n0 bk_349 h_348 24 683 (mkF m 252 #[.val (.int a), .val (.int b), .val (.int (2 : Int32)), .val (.int c0), .val (.int c1), .val (.int c2), .val (.ref a_215), .val (.ref a_275), .val (.ref a_276)] [(.int (1 : Int32))]) _
    exact k_retN hx hlk hret (by simp) (hb hby at_252) (by decide) (by decide) ⟨rfl, (fun y q => (hbs_358 y q).imp id (fun t => ⟨t.1, Nat.lt_of_lt_of_le t.2 (by omega)⟩)), (((((((((Keep.refl _ _).ext E_218).ext E_231).wr W_241 (Or.inr (by omega))).wr W_247 (Or.inr (by omega))).trans K_260 (kkS (Or.inr (by omega)) kk0)).trans K_280 kk0).trans K_328 kk0).trans K_354 kk0)⟩
  · show Run p l e _ s m _ below meth c Z EL1 _ n0 bk h0 0 0 (mkF m 33 #[.val (.int a), .val (.int b), .val (.int (3 : Int32)), .val (.int c0), .val (.int c1), .val (.int c2), .unset, .unset, .unset] []) _
    refine k_pure (g' := (mkF m 34 #[.val (.int a), .val (.int b), .val (.int (3 : Int32)), .val (.int c0), .val (.int c1), .val (.int c2), .unset, .unset, .unset] [(.int (3 : Int32))])) (fun _ J _ j => XS.iloadN J hx rfl (hb hby at_33) rfl j) ?_
    refine k_pure (g' := (mkF m 52 #[.val (.int a), .val (.int b), .val (.int (3 : Int32)), .val (.int c0), .val (.int c1), .val (.int c2), .unset, .unset, .unset] [])) (fun _ J _ j => XS.ifYes J hx rfl (pc0 := 34) (pc' := 52) rfl (hb hby at_34) rfl ((if0 _ _).trans (feq (by decide : ¬ ((3 : Int32) = (0 : Int32)))).2) (by decide) (by decide) j) ?_
    refine k_pure (g' := (mkF m 53 #[.val (.int a), .val (.int b), .val (.int (3 : Int32)), .val (.int c0), .val (.int c1), .val (.int c2), .unset, .unset, .unset] [(.int (3 : Int32))])) (fun _ J _ j => XS.iloadN J hx rfl (hb hby at_52) rfl j) ?_
    refine k_pure (g' := (mkF m 54 #[.val (.int a), .val (.int b), .val (.int (3 : Int32)), .val (.int c0), .val (.int c1), .val (.int c2), .unset, .unset, .unset] [(.int (1 : Int32)), (.int (3 : Int32))])) (fun _ J _ j => XS.iconst J hx rfl (hb hby at_53) j) ?_
    refine k_pure (g' := (mkF m 66 #[.val (.int a), .val (.int b), .val (.int (3 : Int32)), .val (.int c0), .val (.int c1), .val (.int c2), .unset, .unset, .unset] [])) (fun _ J _ j => XS.icmpYes J hx rfl (pc0 := 54) (pc' := 66) rfl (hb hby at_54) rfl (feq (by decide : ¬ ((3 : Int32) = (1 : Int32)))).2 (by decide) (by decide) j) ?_
    refine k_pure (g' := (mkF m 67 #[.val (.int a), .val (.int b), .val (.int (3 : Int32)), .val (.int c0), .val (.int c1), .val (.int c2), .unset, .unset, .unset] [(.int (3 : Int32))])) (fun _ J _ j => XS.iloadN J hx rfl (hb hby at_66) rfl j) ?_
    refine k_pure (g' := (mkF m 68 #[.val (.int a), .val (.int b), .val (.int (3 : Int32)), .val (.int c0), .val (.int c1), .val (.int c2), .unset, .unset, .unset] [(.int (2 : Int32)), (.int (3 : Int32))])) (fun _ J _ j => XS.iconst J hx rfl (hb hby at_67) j) ?_
    refine k_pure (g' := (mkF m 95 #[.val (.int a), .val (.int b), .val (.int (3 : Int32)), .val (.int c0), .val (.int c1), .val (.int c2), .unset, .unset, .unset] [])) (fun _ J _ j => XS.icmpYes J hx rfl (pc0 := 68) (pc' := 95) rfl (hb hby at_68) rfl (feq (by decide : ¬ ((3 : Int32) = (2 : Int32)))).2 (by decide) (by decide) j) ?_
    refine k_newO hx (wT 0 rfl) (wT 1 rfl) (wT 2 rfl) rfl (hb hby at_95) (by decide) (by decide) ?_
    intro h_360 a_359 g_366 O_361 E_362 A_363 D_364 U_365
    have z_367 := E_362.1
    have lt_368 : @LT.lt Nat _ a_359 (Array.size h_360) := A_363.lt
    have nb_369 : ¬ bk a_359 := fun q => Nat.not_le_of_lt (hbl _ q) (show @LE.le Nat _ (Array.size h0) a_359 by omega)
    refine k_pure (g' := (mkF m 99 #[.val (.int a), .val (.int b), .val (.int (3 : Int32)), .val (.int c0), .val (.int c1), .val (.int c2), .unset, .unset, .unset] [(.ref a_359), (.ref a_359)])) (fun _ J _ j => XS.dup J hx rfl (hb hby at_98) rfl rfl j) ?_
    refine k_pure (g' := (mkF m 100 #[.val (.int a), .val (.int b), .val (.int (3 : Int32)), .val (.int c0), .val (.int c1), .val (.int c2), .unset, .unset, .unset] [(.int (3 : Int32)), (.ref a_359), (.ref a_359)])) (fun _ J _ j => XS.iconst J hx rfl (hb hby at_99) j) ?_
    refine k_newP hx (wT 3 rfl) rfl (hb hby at_100) rfl (by decide) (cap := 3) (by decide) (by decide) (by decide) (by decide) "[C" (by decide +kernel) ?_
    intro h_371 a_370 k_372 g_373 O_374 E_375 A_376 X_377
    have z_378 := E_375.1
    have lt_379 : @LT.lt Nat _ a_370 (Array.size h_371) := A_376.lt
    have V_380 : Arv Z h_371 a_370 k_372 .char (3 : Int32) [(.int (0 : Int32)), (.int (0 : Int32)), (.int (0 : Int32))] (.int (0 : Int32)) := Arv.pad A_376 (pad_rep [] (.int (0 : Int32)) 3)
    have hbl_381 : ∀ y, bk y → @LT.lt Nat _ y (Array.size h_360) := fun y q => Nat.lt_of_lt_of_le (hbl y q) (by omega)
    have nb_382 : ¬ bk a_370 := fun q => Nat.not_le_of_lt (hbl_381 _ q) (show @LE.le Nat _ (Array.size h_360) a_370 by omega)
    refine k_pure (g' := (mkF m 103 #[.val (.int a), .val (.int b), .val (.int (3 : Int32)), .val (.int c0), .val (.int c1), .val (.int c2), .unset, .unset, .unset] [(.ref a_370), (.ref a_370), (.ref a_359), (.ref a_359)])) (fun _ J _ j => XS.dup J hx rfl (hb hby at_102) rfl rfl j) ?_
    refine k_pure (g' := (mkF m 104 #[.val (.int a), .val (.int b), .val (.int (3 : Int32)), .val (.int c0), .val (.int c1), .val (.int c2), .unset, .unset, .unset] [(.int (0 : Int32)), (.ref a_370), (.ref a_370), (.ref a_359), (.ref a_359)])) (fun _ J _ j => XS.iconst J hx rfl (hb hby at_103) j) ?_
    refine k_pure (g' := (mkF m 105 #[.val (.int a), .val (.int b), .val (.int (3 : Int32)), .val (.int c0), .val (.int c1), .val (.int c2), .unset, .unset, .unset] [(.int c0), (.int (0 : Int32)), (.ref a_370), (.ref a_370), (.ref a_359), (.ref a_359)])) (fun _ J _ j => XS.iloadN J hx rfl (hb hby at_104) rfl j) ?_
    refine k_stC hx V_380 ⟨by decide, by decide⟩ 0 (by decide) (Nat.le_of_ble_eq_true rfl) (by omega) nb_382 rfl rfl (hb hby at_105) ?_
    intro h_383 O_384 W_385 A_386
    have z_387 := W_385.size
    have V_388 : Arv Z h_383 a_370 k_372 .char (3 : Int32) [(.int c0), (.int (0 : Int32)), (.int (0 : Int32))] (.int (0 : Int32)) := by rw [nr_ch hc0] at A_386; exact A_386
    refine k_pure (g' := (mkF m 107 #[.val (.int a), .val (.int b), .val (.int (3 : Int32)), .val (.int c0), .val (.int c1), .val (.int c2), .unset, .unset, .unset] [(.ref a_370), (.ref a_370), (.ref a_359), (.ref a_359)])) (fun _ J _ j => XS.dup J hx rfl (hb hby at_106) rfl rfl j) ?_
    refine k_pure (g' := (mkF m 108 #[.val (.int a), .val (.int b), .val (.int (3 : Int32)), .val (.int c0), .val (.int c1), .val (.int c2), .unset, .unset, .unset] [(.int (1 : Int32)), (.ref a_370), (.ref a_370), (.ref a_359), (.ref a_359)])) (fun _ J _ j => XS.iconst J hx rfl (hb hby at_107) j) ?_
    refine k_pure (g' := (mkF m 110 #[.val (.int a), .val (.int b), .val (.int (3 : Int32)), .val (.int c0), .val (.int c1), .val (.int c2), .unset, .unset, .unset] [(.int c1), (.int (1 : Int32)), (.ref a_370), (.ref a_370), (.ref a_359), (.ref a_359)])) (fun _ J _ j => XS.iload J hx rfl (hb hby at_108) rfl j) ?_
    refine k_stC hx V_388 ⟨by decide, by decide⟩ 1 (by decide) (Nat.le_of_ble_eq_true rfl) (by omega) nb_382 rfl rfl (hb hby at_110) ?_
    intro h_389 O_390 W_391 A_392
    have z_393 := W_391.size
    have V_394 : Arv Z h_389 a_370 k_372 .char (3 : Int32) [(.int c0), (.int c1), (.int (0 : Int32))] (.int (0 : Int32)) := by rw [nr_ch hc1] at A_392; exact A_392
    refine k_pure (g' := (mkF m 112 #[.val (.int a), .val (.int b), .val (.int (3 : Int32)), .val (.int c0), .val (.int c1), .val (.int c2), .unset, .unset, .unset] [(.ref a_370), (.ref a_370), (.ref a_359), (.ref a_359)])) (fun _ J _ j => XS.dup J hx rfl (hb hby at_111) rfl rfl j) ?_
    refine k_pure (g' := (mkF m 113 #[.val (.int a), .val (.int b), .val (.int (3 : Int32)), .val (.int c0), .val (.int c1), .val (.int c2), .unset, .unset, .unset] [(.int (2 : Int32)), (.ref a_370), (.ref a_370), (.ref a_359), (.ref a_359)])) (fun _ J _ j => XS.iconst J hx rfl (hb hby at_112) j) ?_
    refine k_pure (g' := (mkF m 115 #[.val (.int a), .val (.int b), .val (.int (3 : Int32)), .val (.int c0), .val (.int c1), .val (.int c2), .unset, .unset, .unset] [(.int c2), (.int (2 : Int32)), (.ref a_370), (.ref a_370), (.ref a_359), (.ref a_359)])) (fun _ J _ j => XS.iload J hx rfl (hb hby at_113) rfl j) ?_
    refine k_stC hx V_394 ⟨by decide, by decide⟩ 2 (by decide) (Nat.le_of_ble_eq_true rfl) (by omega) nb_382 rfl rfl (hb hby at_115) ?_
    intro h_395 O_396 W_397 A_398
    have z_399 := W_397.size
    have V_400 : Arv Z h_395 a_370 k_372 .char (3 : Int32) [(.int c0), (.int c1), (.int c2)] (.int (0 : Int32)) := by rw [nr_ch hc2] at A_398; exact A_398
    show Run p l e _ s m _ below meth c Z EL1 _ n0 bk h_395 2 7 (mkF m 116 #[.val (.int a), .val (.int b), .val (.int (3 : Int32)), .val (.int c0), .val (.int c1), .val (.int c2), .unset, .unset, .unset] [(.ref a_370), (.ref a_359), (.ref a_359)]) _
    have F_401 : Exa Z h_395 a_359 "java/lang/String" := ((((A_363.ext E_375).wr W_385).wr W_391).wr W_397)
    have F_402 : Fld Z h_395 a_359 "java/lang/String" "value" "[B" .null := (((((D_364 (Or.inr (wT 16 rfl)) (ty := (.array .byte)) (by decide)).ext E_375).other W_385 (Or.inl (ne_ad (by omega)))).other W_391 (Or.inl (ne_ad (by omega)))).other W_397 (Or.inl (ne_ad (by omega))))
    have F_403 : Fld Z h_395 a_359 "java/lang/String" "coder" "B" (.int (0 : Int32)) := (((((D_364 (Or.inr (wT 17 rfl)) (ty := .byte) (by decide)).ext E_375).other W_385 (Or.inl (ne_ad (by omega)))).other W_391 (Or.inl (ne_ad (by omega)))).other W_397 (Or.inl (ne_ad (by omega))))
    refine k_callI hx (y := (⟨"java/lang/String", "<init>", "([C)V"⟩ : MethodName)) rfl (wT 4 rfl) (wT 5 rfl) (wT 6 rfl) (by decide) (W := 1) (a := a_359) (argsL := [(.ref a_370)]) (rest := [(.ref a_359)]) (pay_new (W := 1) hX O_396 nb_369 (cs := [c0, c1, c2]) F_401 F_402 F_403 V_400 3 rfl rfl (by decide) (by decide) (three_ch hc0 hc1 hc2) (by omega) (by decide) (by decide)) rfl (by rw [hml]; rfl) (lenOf pd__28__5b_C_29_V rfl) rfl (by show 2 * 0 + _ ≤ _; exact Nat.le_of_eq rfl) (hb hby at_116) (by decide) (by decide) ?_
    intro v_404 h_405 bk_406 O_407 z_408 Q_409
    obtain ⟨rfl, rfl, K_410, a_411, k_412, ge_413, ge_414, S_415⟩ := Q_409
    have lt_416 : @LT.lt Nat _ a_359 (Array.size h_405) := S_415.lt1
    have lt_417 : @LT.lt Nat _ a_411 (Array.size h_405) := S_415.lt2
    refine k_pure (g' := (mkF m 121 #[.val (.int a), .val (.int b), .val (.int (3 : Int32)), .val (.int c0), .val (.int c1), .val (.int c2), .val (.ref a_359), .unset, .unset] [])) (fun _ J _ j => XS.astore J hx rfl (hb hby at_119) rfl rfl (l' := #[.val (.int a), .val (.int b), .val (.int (3 : Int32)), .val (.int c0), .val (.int c1), .val (.int c2), .val (.ref a_359), .unset, .unset]) rfl j) ?_
    refine k_pure (g' := (mkF m 123 #[.val (.int a), .val (.int b), .val (.int (3 : Int32)), .val (.int c0), .val (.int c1), .val (.int c2), .val (.ref a_359), .unset, .unset] [(.ref a_359)])) (fun _ J _ j => XS.aload J hx rfl (hb hby at_121) rfl rfl j) ?_
    have hbl_418 : ∀ y, bk y → @LT.lt Nat _ y (Array.size h_405) := fun y q => Nat.lt_of_lt_of_le (hbl_381 y q) (by omega)
    refine k_callS hx (y := (⟨"com/example/lidmaat/lidmaat/http/Refusal", "malformed", "(Ljava/lang/String;)Lcom/example/lidmaat/lidmaat/http/Refusal;"⟩ : MethodName)) (wT 22 rfl) (wT 23 rfl) (wT 24 rfl) (wT 25 rfl) (by decide) (W := 0) (argsL := [(.ref a_359)]) (rest := []) (Pays.of_met (rm_mal l Z a0 G1 G3 us ss hX hY n0 bk h_405 O_407 a_359 a_411 k_412 [c0, c1, c2] S_415 (by simp) hbl_418 []) (wT 25 rfl) (wT 24 rfl) (by decide) (by decide)) rfl (by rw [hml]; rfl) (lenOf pd__28_Ljava_2f_lang_2f_String_3b__29_Lcom_2f_example_2f_lidmaat_2f_lidmaat_2f_http_2f_Refusal_3b_ rfl) rfl (by show 2 * 0 + _ ≤ _; exact Nat.le_of_eq rfl) (hb hby at_123) (by decide) (by decide) ?_
    intro v_419 h_420 bk_421 O_422 z_423 Q_424
    obtain ⟨a_425, a_426, a_427, k_428, rfl, hbk_429, K_430, F_431, F_432, F_433, F_434, F_435, F_436⟩ := Q_424
    have nb_437 : ¬ bk_421 a_359 := fun q => (hbk_429 _ q).elim nb_369 (fun r => Nat.not_le_of_lt (show @LT.lt Nat _ a_359 (Array.size h_405) by omega) r.1)
    have nb_438 : ¬ bk_421 a_370 := fun q => (hbk_429 _ q).elim nb_382 (fun r => Nat.not_le_of_lt (show @LT.lt Nat _ a_370 (Array.size h_405) by omega) r.1)
    have hbl_439 : ∀ y, bk_421 y → @LT.lt Nat _ y (Array.size h_420) := fun y q => (hbk_429 y q).elim (fun r => Nat.lt_of_lt_of_le (hbl_418 y r) (by omega)) (fun r => r.2)
    have hbs_440 : ∀ y, bk_421 y → bk y ∨ (@LE.le Nat _ (Array.size h0) y ∧ @LT.lt Nat _ y (Array.size h_420)) := fun y q => (hbk_429 y q).imp id (fun r => ⟨Nat.le_trans (by omega) r.1, r.2⟩)
    have lt_441 : @LT.lt Nat _ a_425 (Array.size h_420) := F_431.lt
    have lt_442 : @LT.lt Nat _ a_425 (Array.size h_420) := F_433.lt
    have lt_443 : @LT.lt Nat _ a_425 (Array.size h_420) := F_434.lt
    have lt_444 : @LT.lt Nat _ a_425 (Array.size h_420) := F_435.lt
    have lt_445 : @LT.lt Nat _ a_426 (Array.size h_420) := F_436.lt1
    have lt_446 : @LT.lt Nat _ a_427 (Array.size h_420) := F_436.lt2
    refine k_pure (g' := (mkF m 128 #[.val (.int a), .val (.int b), .val (.int (3 : Int32)), .val (.int c0), .val (.int c1), .val (.int c2), .val (.ref a_359), .val (.ref a_425), .unset] [])) (fun _ J _ j => XS.astore J hx rfl (hb hby at_126) rfl rfl (l' := #[.val (.int a), .val (.int b), .val (.int (3 : Int32)), .val (.int c0), .val (.int c1), .val (.int c2), .val (.ref a_359), .val (.ref a_425), .unset]) rfl j) ?_
    refine k_pure (g' := (mkF m 130 #[.val (.int a), .val (.int b), .val (.int (3 : Int32)), .val (.int c0), .val (.int c1), .val (.int c2), .val (.ref a_359), .val (.ref a_425), .unset] [(.ref a_425)])) (fun _ J _ j => XS.aload J hx rfl (hb hby at_128) rfl rfl j) ?_
    refine k_callV hx (y := (⟨"com/example/lidmaat/lidmaat/http/Refusal", "status", "()I"⟩ : MethodName)) (z := (⟨"com/example/lidmaat/lidmaat/http/Refusal", "status", "()I"⟩ : MethodName)) (wT 185 rfl) (wT 186 rfl) (fun s' hZ => notFace_of_selects (args := #[]) (mv hZ (wT 188 rfl))) (wT 188 rfl) (wT 187 rfl) (by decide) (W := 0) (a := a_425) (argsL := []) (rest := []) (Pays.of_met (rm_sta l Z a0 G1 G3 us ss hX hY n0 bk_421 h_420 O_422 a_425 (400 : Int32) F_431 F_435 []) (wT 189 rfl) (wT 24 rfl) (by decide) (by decide)) F_431 rfl (by rw [hml]; rfl) (lenOf pd__28__29_I rfl) rfl (by show 2 * 0 + _ ≤ _; exact Nat.le_of_eq rfl) (hb hby at_130) (by decide) (by decide) ?_
    intro v_447 h_448 bk_449 O_450 z_451 Q_452
    obtain ⟨rfl, rfl, rfl⟩ := Q_452
    refine k_pure (g' := (mkF m 136 #[.val (.int a), .val (.int b), .val (.int (3 : Int32)), .val (.int c0), .val (.int c1), .val (.int c2), .val (.ref a_359), .val (.ref a_425), .unset] [(.int (400 : Int32)), (.int (400 : Int32))])) (fun _ J _ j => XS.sipush J hx rfl (hb hby at_133) j) ?_
    refine k_pure (g' := (mkF m 141 #[.val (.int a), .val (.int b), .val (.int (3 : Int32)), .val (.int c0), .val (.int c1), .val (.int c2), .val (.ref a_359), .val (.ref a_425), .unset] [])) (fun _ J _ j => XS.icmpYes J hx rfl (pc0 := 136) (pc' := 141) rfl (hb hby at_136) rfl (teq rfl).1 (by decide) (by decide) j) ?_
    refine k_pure (g' := (mkF m 143 #[.val (.int a), .val (.int b), .val (.int (3 : Int32)), .val (.int c0), .val (.int c1), .val (.int c2), .val (.ref a_359), .val (.ref a_425), .unset] [(.ref a_425)])) (fun _ J _ j => XS.aload J hx rfl (hb hby at_141) rfl rfl j) ?_
    refine k_callU hx (y := (⟨"com/example/lidmaat/lidmaat/http/Refusal", "getCause", "()Ljava/lang/Throwable;"⟩ : MethodName)) (z := (⟨"java/lang/Throwable", "getCause", "()Ljava/lang/Throwable;"⟩ : MethodName)) (wT 190 rfl) (wT 191 rfl) (wT 192 rfl) (by decide) (wT 194 rfl) (wT 193 rfl) (W := 0) (a := a_425) (argsL := []) (rest := []) (pay_cause (W := 0) hX F_432 F_433 (by decide) (by decide)) F_431 rfl (by rw [hml]; rfl) (lenOf pd__28__29_Ljava_2f_lang_2f_Throwable_3b_ rfl) rfl (by show 2 * 0 + _ ≤ _; exact Nat.le_of_eq rfl) (hb hby at_143) (by decide) (by decide) ?_
    intro v_453 h_454 bk_455 O_456 z_457 Q_458
    obtain ⟨rfl, rfl, rfl⟩ := Q_458
    refine k_pure (g' := (mkF m 151 #[.val (.int a), .val (.int b), .val (.int (3 : Int32)), .val (.int c0), .val (.int c1), .val (.int c2), .val (.ref a_359), .val (.ref a_425), .unset] [])) (fun _ J _ j => XS.ifnullYes J hx rfl (pc0 := 146) (pc' := 151) rfl (hb hby at_146) rfl (by decide) (by decide) j) ?_
    refine k_pure (g' := (mkF m 153 #[.val (.int a), .val (.int b), .val (.int (3 : Int32)), .val (.int c0), .val (.int c1), .val (.int c2), .val (.ref a_359), .val (.ref a_425), .unset] [(.ref a_425)])) (fun _ J _ j => XS.aload J hx rfl (hb hby at_151) rfl rfl j) ?_
    refine k_callU hx (y := (⟨"com/example/lidmaat/lidmaat/http/Refusal", "getMessage", "()Ljava/lang/String;"⟩ : MethodName)) (z := (⟨"java/lang/Throwable", "getMessage", "()Ljava/lang/String;"⟩ : MethodName)) (wT 196 rfl) (wT 197 rfl) (wT 198 rfl) (by decide) (wT 200 rfl) (wT 199 rfl) (W := 0) (a := a_425) (argsL := []) (rest := []) (Pays.of_met (rm_gms l Z a0 G1 G3 us ss hX hY n0 bk_421 h_420 O_422 a_425 a_426 F_431 F_434 []) (wT 201 rfl) (wT 170 rfl) (by decide) (by decide)) F_431 rfl (by rw [hml]; rfl) (lenOf pd__28__29_Ljava_2f_lang_2f_String_3b_ rfl) rfl (by show 2 * 0 + _ ≤ _; exact Nat.le_of_eq rfl) (hb hby at_153) (by decide) (by decide) ?_
    intro v_459 h_460 bk_461 O_462 z_463 Q_464
    obtain ⟨rfl, rfl, rfl⟩ := Q_464
    refine k_pure (g' := (mkF m 158 #[.val (.int a), .val (.int b), .val (.int (3 : Int32)), .val (.int c0), .val (.int c1), .val (.int c2), .val (.ref a_359), .val (.ref a_425), .val (.ref a_426)] [])) (fun _ J _ j => XS.astore J hx rfl (hb hby at_156) rfl rfl (l' := #[.val (.int a), .val (.int b), .val (.int (3 : Int32)), .val (.int c0), .val (.int c1), .val (.int c2), .val (.ref a_359), .val (.ref a_425), .val (.ref a_426)]) rfl j) ?_
    refine k_pure (g' := (mkF m 160 #[.val (.int a), .val (.int b), .val (.int (3 : Int32)), .val (.int c0), .val (.int c1), .val (.int c2), .val (.ref a_359), .val (.ref a_425), .val (.ref a_426)] [(.ref a_426)])) (fun _ J _ j => XS.aload J hx rfl (hb hby at_158) rfl rfl j) ?_
    refine k_pure (g' := (mkF m 163 #[.val (.int a), .val (.int b), .val (.int (3 : Int32)), .val (.int c0), .val (.int c1), .val (.int c2), .val (.ref a_359), .val (.ref a_425), .val (.ref a_426)] [])) (fun _ J _ j => XS.ifnullNo J hx rfl (hb hby at_160) rfl j) ?_
    refine k_pure (g' := (mkF m 165 #[.val (.int a), .val (.int b), .val (.int (3 : Int32)), .val (.int c0), .val (.int c1), .val (.int c2), .val (.ref a_359), .val (.ref a_425), .val (.ref a_426)] [(.ref a_426)])) (fun _ J _ j => XS.aload J hx rfl (hb hby at_163) rfl rfl j) ?_
    refine k_callV hx (y := (⟨"java/lang/String", "length", "()I"⟩ : MethodName)) (z := (⟨"java/lang/String", "length", "()I"⟩ : MethodName)) (wT 202 rfl) (wT 58 rfl) (fun s' hZ => notFace_of_selects (args := #[]) (mv hZ (wT 60 rfl))) (wT 60 rfl) (wT 59 rfl) (by decide) (W := 0) (a := a_426) (argsL := []) (rest := []) (pay_len (W := 0) hX O_422 F_436 (by decide) (by decide)) F_436.1 rfl (by rw [hml]; rfl) (lenOf pd__28__29_I rfl) rfl (by show 2 * 0 + _ ≤ _; exact Nat.le_of_eq rfl) (hb hby at_165) (by decide) (by decide) ?_
    intro v_465 h_466 bk_467 O_468 z_469 Q_470
    obtain ⟨rfl, rfl, rfl⟩ := Q_470
    refine k_pure (g' := (mkF m 170 #[.val (.int a), .val (.int b), .val (.int (3 : Int32)), .val (.int c0), .val (.int c1), .val (.int c2), .val (.ref a_359), .val (.ref a_425), .val (.ref a_426)] [(.int (32 : Int32)), (.int (Int32.ofNat ((((([] : List Int32) ++ lit1) ++ [c0, c1, c2]) ++ lit2)).length))])) (fun _ J _ j => XS.bipush J hx rfl (hb hby at_168) j) ?_
    refine k_pure (g' := (mkF m 171 #[.val (.int a), .val (.int b), .val (.int (3 : Int32)), .val (.int c0), .val (.int c1), .val (.int c2), .val (.ref a_359), .val (.ref a_425), .val (.ref a_426)] [(.int (3 : Int32)), (.int (32 : Int32)), (.int (Int32.ofNat ((((([] : List Int32) ++ lit1) ++ [c0, c1, c2]) ++ lit2)).length))])) (fun _ J _ j => XS.iloadN J hx rfl (hb hby at_170) rfl j) ?_
    refine k_pure (g' := (mkF m 172 #[.val (.int a), .val (.int b), .val (.int (3 : Int32)), .val (.int c0), .val (.int c1), .val (.int c2), .val (.ref a_359), .val (.ref a_425), .val (.ref a_426)] [(.int (35 : Int32)), (.int (Int32.ofNat ((((([] : List Int32) ++ lit1) ++ [c0, c1, c2]) ++ lit2)).length))])) (fun _ J _ j => XS.iadd J hx rfl (hb hby at_171) rfl j) ?_
    refine k_pure (g' := (mkF m 177 #[.val (.int a), .val (.int b), .val (.int (3 : Int32)), .val (.int c0), .val (.int c1), .val (.int c2), .val (.ref a_359), .val (.ref a_425), .val (.ref a_426)] [])) (fun _ J _ j => XS.icmpYes J hx rfl (pc0 := 172) (pc' := 177) rfl (hb hby at_172) rfl (teq rfl).1 (by decide) (by decide) j) ?_
    refine k_pure (g' := (mkF m 179 #[.val (.int a), .val (.int b), .val (.int (3 : Int32)), .val (.int c0), .val (.int c1), .val (.int c2), .val (.ref a_359), .val (.ref a_425), .val (.ref a_426)] [(.ref a_426)])) (fun _ J _ j => XS.aload J hx rfl (hb hby at_177) rfl rfl j) ?_
    refine k_callS hx (y := (⟨"com/example/lidmaat/lidmaat/http/RefusalMalformedPinLaw", "prefix", "(Ljava/lang/String;)Z"⟩ : MethodName)) (wT 203 rfl) (wT 204 rfl) (wT 205 rfl) (wT 206 rfl) (by decide) (W := 0) (argsL := [(.ref a_426)]) (rest := []) (Pays.of_met (rm_pre l Z a0 G1 G3 us ss hX hY n0 bk_421 h_420 O_422 a_426 a_427 k_428 (((([] : List Int32) ++ lit1) ++ [c0, c1, c2]) ++ lit2) F_436 rfl (by simp [len1, len2]) hbl_439 []) (wT 206 rfl) (wT 205 rfl) (by decide) (by decide)) rfl (by rw [hml]; rfl) (lenOf pd__28_Ljava_2f_lang_2f_String_3b__29_Z rfl) rfl (by show 2 * 0 + _ ≤ _; exact Nat.le_of_eq rfl) (hb hby at_179) (by decide) (by decide) ?_
    intro v_471 h_472 bk_473 O_474 z_475 Q_476
    obtain ⟨rfl, hbk_477, K_478⟩ := Q_476
    have nb_479 : ¬ bk_473 a_359 := fun q => (hbk_477 _ q).elim nb_437 (fun r => Nat.not_le_of_lt (show @LT.lt Nat _ a_359 (Array.size h_420) by omega) r.1)
    have nb_480 : ¬ bk_473 a_370 := fun q => (hbk_477 _ q).elim nb_438 (fun r => Nat.not_le_of_lt (show @LT.lt Nat _ a_370 (Array.size h_420) by omega) r.1)
    have hbl_481 : ∀ y, bk_473 y → @LT.lt Nat _ y (Array.size h_472) := fun y q => (hbk_477 y q).elim (fun r => Nat.lt_of_lt_of_le (hbl_439 y r) (by omega)) (fun r => r.2)
    have hbs_482 : ∀ y, bk_473 y → bk y ∨ (@LE.le Nat _ (Array.size h0) y ∧ @LT.lt Nat _ y (Array.size h_472)) := fun y q => (hbk_477 y q).elim (fun r => (hbs_440 y r).imp id (fun t => ⟨t.1, Nat.lt_of_lt_of_le t.2 (by omega)⟩)) (fun r => Or.inr ⟨Nat.le_trans (by omega) r.1, r.2⟩)
    refine k_pure (g' := (mkF m 187 #[.val (.int a), .val (.int b), .val (.int (3 : Int32)), .val (.int c0), .val (.int c1), .val (.int c2), .val (.ref a_359), .val (.ref a_425), .val (.ref a_426)] [])) (fun _ J _ j => XS.ifYes J hx rfl (pc0 := 182) (pc' := 187) rfl (hb hby at_182) rfl ((if0 _ _).trans (feq (by decide : ¬ ((1 : Int32) = (0 : Int32)))).2) (by decide) (by decide) j) ?_
    refine k_pure (g' := (mkF m 188 #[.val (.int a), .val (.int b), .val (.int (3 : Int32)), .val (.int c0), .val (.int c1), .val (.int c2), .val (.ref a_359), .val (.ref a_425), .val (.ref a_426)] [(.int (3 : Int32))])) (fun _ J _ j => XS.iloadN J hx rfl (hb hby at_187) rfl j) ?_
    refine k_pure (g' := (mkF m 189 #[.val (.int a), .val (.int b), .val (.int (3 : Int32)), .val (.int c0), .val (.int c1), .val (.int c2), .val (.ref a_359), .val (.ref a_425), .val (.ref a_426)] [(.int (1 : Int32)), (.int (3 : Int32))])) (fun _ J _ j => XS.iconst J hx rfl (hb hby at_188) j) ?_
    refine k_pure (g' := (mkF m 192 #[.val (.int a), .val (.int b), .val (.int (3 : Int32)), .val (.int c0), .val (.int c1), .val (.int c2), .val (.ref a_359), .val (.ref a_425), .val (.ref a_426)] [])) (fun _ J _ j => XS.icmpNo J hx rfl (hb hby at_189) rfl (flt (by decide : ¬ ((3 : Int32) < (1 : Int32)))).1 j) ?_
    refine k_pure (g' := (mkF m 194 #[.val (.int a), .val (.int b), .val (.int (3 : Int32)), .val (.int c0), .val (.int c1), .val (.int c2), .val (.ref a_359), .val (.ref a_425), .val (.ref a_426)] [(.ref a_426)])) (fun _ J _ j => XS.aload J hx rfl (hb hby at_192) rfl rfl j) ?_
    refine k_pure (g' := (mkF m 196 #[.val (.int a), .val (.int b), .val (.int (3 : Int32)), .val (.int c0), .val (.int c1), .val (.int c2), .val (.ref a_359), .val (.ref a_425), .val (.ref a_426)] [(.int (19 : Int32)), (.ref a_426)])) (fun _ J _ j => XS.bipush J hx rfl (hb hby at_194) j) ?_
    have F_483 : StrL Z h_472 a_426 a_427 k_428 (((([] : List Int32) ++ lit1) ++ [c0, c1, c2]) ++ lit2) := (F_436.keep K_478 nin0 nin0)
    have F_484 : Exa Z h_472 a_426 "java/lang/String" := (F_436.1.keep K_478)
    refine k_callV hx (y := (⟨"java/lang/String", "charAt", "(I)C"⟩ : MethodName)) (z := (⟨"java/lang/String", "charAt", "(I)C"⟩ : MethodName)) (wT 207 rfl) (wT 208 rfl) (fun s' hZ => notFace_of_selects (args := #[]) (mv hZ (wT 210 rfl))) (wT 210 rfl) (wT 209 rfl) (by decide) (W := 0) (a := a_426) (argsL := [(.int (19 : Int32))]) (rest := []) (pay_ch (W := 0) hX O_474 F_483 19 (by simp [len1, len2]) rfl (by decide) (by decide)) F_484 rfl (by rw [hml]; rfl) (lenOf pd__28_I_29_C rfl) rfl (by show 2 * 0 + _ ≤ _; exact Nat.le_of_eq rfl) (hb hby at_196) (by decide) (by decide) ?_
    intro v_485 h_486 bk_487 O_488 z_489 Q_490
    obtain ⟨rfl, rfl, rfl⟩ := Q_490
    refine k_pure (g' := (mkF m 200 #[.val (.int a), .val (.int b), .val (.int (3 : Int32)), .val (.int c0), .val (.int c1), .val (.int c2), .val (.ref a_359), .val (.ref a_425), .val (.ref a_426)] [(.int c0), (.int (((((([] : List Int32) ++ lit1) ++ [c0, c1, c2]) ++ lit2)).getD 19 0))])) (fun _ J _ j => XS.iloadN J hx rfl (hb hby at_199) rfl j) ?_
    refine k_pure (g' := (mkF m 205 #[.val (.int a), .val (.int b), .val (.int (3 : Int32)), .val (.int c0), .val (.int c1), .val (.int c2), .val (.ref a_359), .val (.ref a_425), .val (.ref a_426)] [])) (fun _ J _ j => XS.icmpYes J hx rfl (pc0 := 200) (pc' := 205) rfl (hb hby at_200) rfl (teq rfl).1 (by decide) (by decide) j) ?_
    refine k_pure (g' := (mkF m 206 #[.val (.int a), .val (.int b), .val (.int (3 : Int32)), .val (.int c0), .val (.int c1), .val (.int c2), .val (.ref a_359), .val (.ref a_425), .val (.ref a_426)] [(.int (3 : Int32))])) (fun _ J _ j => XS.iloadN J hx rfl (hb hby at_205) rfl j) ?_
    refine k_pure (g' := (mkF m 207 #[.val (.int a), .val (.int b), .val (.int (3 : Int32)), .val (.int c0), .val (.int c1), .val (.int c2), .val (.ref a_359), .val (.ref a_425), .val (.ref a_426)] [(.int (2 : Int32)), (.int (3 : Int32))])) (fun _ J _ j => XS.iconst J hx rfl (hb hby at_206) j) ?_
    refine k_pure (g' := (mkF m 210 #[.val (.int a), .val (.int b), .val (.int (3 : Int32)), .val (.int c0), .val (.int c1), .val (.int c2), .val (.ref a_359), .val (.ref a_425), .val (.ref a_426)] [])) (fun _ J _ j => XS.icmpNo J hx rfl (hb hby at_207) rfl (flt (by decide : ¬ ((3 : Int32) < (2 : Int32)))).1 j) ?_
    refine k_pure (g' := (mkF m 212 #[.val (.int a), .val (.int b), .val (.int (3 : Int32)), .val (.int c0), .val (.int c1), .val (.int c2), .val (.ref a_359), .val (.ref a_425), .val (.ref a_426)] [(.ref a_426)])) (fun _ J _ j => XS.aload J hx rfl (hb hby at_210) rfl rfl j) ?_
    refine k_pure (g' := (mkF m 214 #[.val (.int a), .val (.int b), .val (.int (3 : Int32)), .val (.int c0), .val (.int c1), .val (.int c2), .val (.ref a_359), .val (.ref a_425), .val (.ref a_426)] [(.int (20 : Int32)), (.ref a_426)])) (fun _ J _ j => XS.bipush J hx rfl (hb hby at_212) j) ?_
    refine k_callV hx (y := (⟨"java/lang/String", "charAt", "(I)C"⟩ : MethodName)) (z := (⟨"java/lang/String", "charAt", "(I)C"⟩ : MethodName)) (wT 207 rfl) (wT 208 rfl) (fun s' hZ => notFace_of_selects (args := #[]) (mv hZ (wT 210 rfl))) (wT 210 rfl) (wT 209 rfl) (by decide) (W := 0) (a := a_426) (argsL := [(.int (20 : Int32))]) (rest := []) (pay_ch (W := 0) hX O_474 F_483 20 (by simp [len1, len2]) rfl (by decide) (by decide)) F_484 rfl (by rw [hml]; rfl) (lenOf pd__28_I_29_C rfl) rfl (by show 2 * 0 + _ ≤ _; exact Nat.le_of_eq rfl) (hb hby at_214) (by decide) (by decide) ?_
    intro v_491 h_492 bk_493 O_494 z_495 Q_496
    obtain ⟨rfl, rfl, rfl⟩ := Q_496
    refine k_pure (g' := (mkF m 219 #[.val (.int a), .val (.int b), .val (.int (3 : Int32)), .val (.int c0), .val (.int c1), .val (.int c2), .val (.ref a_359), .val (.ref a_425), .val (.ref a_426)] [(.int c1), (.int (((((([] : List Int32) ++ lit1) ++ [c0, c1, c2]) ++ lit2)).getD 20 0))])) (fun _ J _ j => XS.iload J hx rfl (hb hby at_217) rfl j) ?_
    refine k_pure (g' := (mkF m 224 #[.val (.int a), .val (.int b), .val (.int (3 : Int32)), .val (.int c0), .val (.int c1), .val (.int c2), .val (.ref a_359), .val (.ref a_425), .val (.ref a_426)] [])) (fun _ J _ j => XS.icmpYes J hx rfl (pc0 := 219) (pc' := 224) rfl (hb hby at_219) rfl (teq rfl).1 (by decide) (by decide) j) ?_
    refine k_pure (g' := (mkF m 225 #[.val (.int a), .val (.int b), .val (.int (3 : Int32)), .val (.int c0), .val (.int c1), .val (.int c2), .val (.ref a_359), .val (.ref a_425), .val (.ref a_426)] [(.int (3 : Int32))])) (fun _ J _ j => XS.iloadN J hx rfl (hb hby at_224) rfl j) ?_
    refine k_pure (g' := (mkF m 226 #[.val (.int a), .val (.int b), .val (.int (3 : Int32)), .val (.int c0), .val (.int c1), .val (.int c2), .val (.ref a_359), .val (.ref a_425), .val (.ref a_426)] [(.int (3 : Int32)), (.int (3 : Int32))])) (fun _ J _ j => XS.iconst J hx rfl (hb hby at_225) j) ?_
    refine k_pure (g' := (mkF m 229 #[.val (.int a), .val (.int b), .val (.int (3 : Int32)), .val (.int c0), .val (.int c1), .val (.int c2), .val (.ref a_359), .val (.ref a_425), .val (.ref a_426)] [])) (fun _ J _ j => XS.icmpNo J hx rfl (hb hby at_226) rfl (flt (by decide : ¬ ((3 : Int32) < (3 : Int32)))).1 j) ?_
    refine k_pure (g' := (mkF m 231 #[.val (.int a), .val (.int b), .val (.int (3 : Int32)), .val (.int c0), .val (.int c1), .val (.int c2), .val (.ref a_359), .val (.ref a_425), .val (.ref a_426)] [(.ref a_426)])) (fun _ J _ j => XS.aload J hx rfl (hb hby at_229) rfl rfl j) ?_
    refine k_pure (g' := (mkF m 233 #[.val (.int a), .val (.int b), .val (.int (3 : Int32)), .val (.int c0), .val (.int c1), .val (.int c2), .val (.ref a_359), .val (.ref a_425), .val (.ref a_426)] [(.int (21 : Int32)), (.ref a_426)])) (fun _ J _ j => XS.bipush J hx rfl (hb hby at_231) j) ?_
    refine k_callV hx (y := (⟨"java/lang/String", "charAt", "(I)C"⟩ : MethodName)) (z := (⟨"java/lang/String", "charAt", "(I)C"⟩ : MethodName)) (wT 207 rfl) (wT 208 rfl) (fun s' hZ => notFace_of_selects (args := #[]) (mv hZ (wT 210 rfl))) (wT 210 rfl) (wT 209 rfl) (by decide) (W := 0) (a := a_426) (argsL := [(.int (21 : Int32))]) (rest := []) (pay_ch (W := 0) hX O_474 F_483 21 (by simp [len1, len2]) rfl (by decide) (by decide)) F_484 rfl (by rw [hml]; rfl) (lenOf pd__28_I_29_C rfl) rfl (by show 2 * 0 + _ ≤ _; exact Nat.le_of_eq rfl) (hb hby at_233) (by decide) (by decide) ?_
    intro v_497 h_498 bk_499 O_500 z_501 Q_502
    obtain ⟨rfl, rfl, rfl⟩ := Q_502
    refine k_pure (g' := (mkF m 238 #[.val (.int a), .val (.int b), .val (.int (3 : Int32)), .val (.int c0), .val (.int c1), .val (.int c2), .val (.ref a_359), .val (.ref a_425), .val (.ref a_426)] [(.int c2), (.int (((((([] : List Int32) ++ lit1) ++ [c0, c1, c2]) ++ lit2)).getD 21 0))])) (fun _ J _ j => XS.iload J hx rfl (hb hby at_236) rfl j) ?_
    refine k_pure (g' := (mkF m 243 #[.val (.int a), .val (.int b), .val (.int (3 : Int32)), .val (.int c0), .val (.int c1), .val (.int c2), .val (.ref a_359), .val (.ref a_425), .val (.ref a_426)] [])) (fun _ J _ j => XS.icmpYes J hx rfl (pc0 := 238) (pc' := 243) rfl (hb hby at_238) rfl (teq rfl).1 (by decide) (by decide) j) ?_
    refine k_pure (g' := (mkF m 245 #[.val (.int a), .val (.int b), .val (.int (3 : Int32)), .val (.int c0), .val (.int c1), .val (.int c2), .val (.ref a_359), .val (.ref a_425), .val (.ref a_426)] [(.ref a_426)])) (fun _ J _ j => XS.aload J hx rfl (hb hby at_243) rfl rfl j) ?_
    refine k_pure (g' := (mkF m 247 #[.val (.int a), .val (.int b), .val (.int (3 : Int32)), .val (.int c0), .val (.int c1), .val (.int c2), .val (.ref a_359), .val (.ref a_425), .val (.ref a_426)] [(.int (19 : Int32)), (.ref a_426)])) (fun _ J _ j => XS.bipush J hx rfl (hb hby at_245) j) ?_
    refine k_pure (g' := (mkF m 248 #[.val (.int a), .val (.int b), .val (.int (3 : Int32)), .val (.int c0), .val (.int c1), .val (.int c2), .val (.ref a_359), .val (.ref a_425), .val (.ref a_426)] [(.int (3 : Int32)), (.int (19 : Int32)), (.ref a_426)])) (fun _ J _ j => XS.iloadN J hx rfl (hb hby at_247) rfl j) ?_
    refine k_pure (g' := (mkF m 249 #[.val (.int a), .val (.int b), .val (.int (3 : Int32)), .val (.int c0), .val (.int c1), .val (.int c2), .val (.ref a_359), .val (.ref a_425), .val (.ref a_426)] [(.int (22 : Int32)), (.ref a_426)])) (fun _ J _ j => XS.iadd J hx rfl (hb hby at_248) rfl j) ?_
    refine k_callS hx (y := (⟨"com/example/lidmaat/lidmaat/http/RefusalMalformedPinLaw", "suffix", "(Ljava/lang/String;I)Z"⟩ : MethodName)) (wT 249 rfl) (wT 250 rfl) (wT 205 rfl) (wT 251 rfl) (by decide) (W := 0) (argsL := [(.ref a_426), (.int (22 : Int32))]) (rest := []) (Pays.of_met (rm_suf l Z a0 G1 G3 us ss hX hY n0 bk_473 h_472 O_474 a_426 a_427 k_428 (((([] : List Int32) ++ lit1) ++ [c0, c1, c2]) ++ lit2) 22 F_483 rfl (by simp [len1, len2]) hbl_481 []) (wT 251 rfl) (wT 205 rfl) (by decide) (by decide)) rfl (by rw [hml]; rfl) (lenOf pd__28_Ljava_2f_lang_2f_String_3b_I_29_Z rfl) rfl (by show 2 * 0 + _ ≤ _; exact Nat.le_of_eq rfl) (hb hby at_249) (by decide) (by decide) ?_
    intro v_503 h_504 bk_505 O_506 z_507 Q_508
    obtain ⟨rfl, hbk_509, K_510⟩ := Q_508
    have nb_511 : ¬ bk_505 a_359 := fun q => (hbk_509 _ q).elim nb_479 (fun r => Nat.not_le_of_lt (show @LT.lt Nat _ a_359 (Array.size h_472) by omega) r.1)
    have nb_512 : ¬ bk_505 a_370 := fun q => (hbk_509 _ q).elim nb_480 (fun r => Nat.not_le_of_lt (show @LT.lt Nat _ a_370 (Array.size h_472) by omega) r.1)
    have hbl_513 : ∀ y, bk_505 y → @LT.lt Nat _ y (Array.size h_504) := fun y q => (hbk_509 y q).elim (fun r => Nat.lt_of_lt_of_le (hbl_481 y r) (by omega)) (fun r => r.2)
    have hbs_514 : ∀ y, bk_505 y → bk y ∨ (@LE.le Nat _ (Array.size h0) y ∧ @LT.lt Nat _ y (Array.size h_504)) := fun y q => (hbk_509 y q).elim (fun r => (hbs_482 y r).imp id (fun t => ⟨t.1, Nat.lt_of_lt_of_le t.2 (by omega)⟩)) (fun r => Or.inr ⟨Nat.le_trans (by omega) r.1, r.2⟩)
    show Run p l e _ s m _ below meth c Z EL1 _ n0 bk_505 h_504 24 685 (mkF m 252 #[.val (.int a), .val (.int b), .val (.int (3 : Int32)), .val (.int c0), .val (.int c1), .val (.int c2), .val (.ref a_359), .val (.ref a_425), .val (.ref a_426)] [(.int (1 : Int32))]) _
    exact k_retN hx hlk hret (by simp) (hb hby at_252) (by decide) (by decide) ⟨rfl, (fun y q => (hbs_514 y q).imp id (fun t => ⟨t.1, Nat.lt_of_lt_of_le t.2 (by omega)⟩)), ((((((((((Keep.refl _ _).ext E_362).ext E_375).wr W_385 (Or.inr (by omega))).wr W_391 (Or.inr (by omega))).wr W_397 (Or.inr (by omega))).trans K_410 (kkS (Or.inr (by omega)) kk0)).trans K_430 kk0).trans K_478 kk0).trans K_510 kk0)⟩
set_option maxRecDepth 65536 in
set_option maxHeartbeats 40000000 in
theorem comes_1 {Post : Tables → Env → Array Value → State → Outcome → State → Prop} (hpost : ∀ tb e args s v u, (limb_1_1.after args s (.returned v) u = true ∧ limb_1_2.after args s (.returned v) u = true ∧ True) → FramedW s (.returned v) u (Jvm.fieldLocs frame_1_writes args s ++ Jvm.arrayLocs frame_1_arrays args s ++ Jvm.staticLocs frame_1_statics s) 56 5760 → Post tb e args s (.returned v) u) :
    ArmFor flags0 classFile x code maxLocals ret World_1 tables_1 room_1 Calls_1 rest_1 Pre_1 Post := by
  intro l hfl _ _ p e ha hc hk s m args below hf hA hF happ hP
  obtain ⟨hcalls, hrest, hpre⟩ := hP
  obtain ⟨-, -, -, hnamed, -, -, -, hat⟩ := (Spec.applies_iff hf).mp happ
  obtain ⟨hg, hn⟩ := and_e (Cond.before_iff.mp (show (Jvm.Cond.and given_1 narrow_1).before args s = true from hpre))
  obtain ⟨q0, r0⟩ := and_e hg
  obtain ⟨q1, r1⟩ := and_e r0
  obtain ⟨w0, w1, rfl⟩ : ∃ w0 w1 : Value, args = #[w0, w1] := by
    have hs : args.size = 2 := by simpa [Cond.value, given_1] using q0
    obtain ⟨L⟩ := args
    match L, hs with
    | [w0, w1], _ => exact ⟨w0, w1, rfl⟩
  have hw := fun d (hd : d ∈ tables_1) => atoms_spec (ws := Jvm.Cond.code x code maxLocals ret :: tables_1) hat d (List.mem_cons_of_mem _ hd)
  have wT : ∀ (i : Nat) {d : Jvm.Cond}, tables_1[i]? = some d → d.before _ s = true := fun i d h => hw d (List.mem_of_getElem? h)
  obtain ⟨hsets, hown0⟩ := atoms_of _ (rest_1_c_eq ▸ (show rest_1_c.before _ s = true from hrest))
  obtain ⟨i0, e0⟩ := is_v q1
  obtain rfl : w0 = (.int i0) := Option.some.inj e0
  obtain ⟨i1, e1⟩ := is_v r1
  obtain rfl : w1 = (.int i1) := Option.some.inj e1
  obtain ⟨G1, eG1⟩ := is_v (Cond.before_iff.mp (hsets _ (List.mem_of_getElem? (i := 1) rfl)))
  have S1 : Sta s s.heap "java/lang/String" "COMPACT_STRINGS" "Z" (.int G1) := Sta.start eG1 (Or.inl (hsets _ (List.mem_of_getElem? (i := 0) rfl)))
  have P1 : ¬ (G1 = (0 : Int32)) := gotF (Cond.eq_ints eG1 (Term.int_eval (0))) (not_v (Cond.before_iff.mp (hsets _ (List.mem_of_getElem? (i := 2) rfl))))
  obtain ⟨G3, eG3, P3⟩ := isR_v (Cond.before_iff.mp (hsets _ (List.mem_of_getElem? (i := 8) rfl)))
  have S3 : Sta s s.heap "jdk/internal/util/Preconditions" "SIOOBE_FORMATTER" "Ljava/util/function/BiFunction;" G3 := Sta.start eG3 (Or.inl (hsets _ (List.mem_of_getElem? (i := 7) rfl)))
  have hE : EW s #[(.int i0), (.int i1)] EL1 := (EW.cons (wT 46 rfl) (by decide +kernel) (EW.cons (wT 118 rfl) (by decide +kernel) (EW.cons (wT 239 rfl) (by decide +kernel) (EW.cons (wT 252 rfl) (by decide +kernel) (EW.cons (wT 14 rfl) (by decide +kernel) EW.nil)))))
  have hCH : CHv s EL1 s.vm s.heap := CHv.start hE (fun p hp => hcalls.1 p ((by decide +kernel : ∀ p ∈ EL1, p ∈ consts_1) p hp)) (hsets _ (List.mem_of_getElem? (i := 2) rfl)) (wT 15 rfl) (wT 1 rfl)
  obtain ⟨us, e_us⟩ := arr_v (Cond.before_iff.mp (hsets _ (List.mem_of_getElem? (i := 17) rfl)))
  have s_us := Sta.start e_us (Or.inl (hsets _ (List.mem_of_getElem? (i := 15) rfl)))
  obtain ⟨ss, e_ss, -⟩ := exa_start (hsets _ (List.mem_of_getElem? (i := 22) rfl))
  have s_ss := Sta.start e_ss (Or.inl (hsets _ (List.mem_of_getElem? (i := 20) rfl)))
  have hY : More s us ss := ⟨s_us, s_ss⟩
  have hX : Ctx s _ G1 G3 := ⟨hw, hE, S1, P1, S3, P3⟩
  obtain ⟨n, o, h1, h2, h3, v, L, bk', rfl, ⟨⟨rfl, -⟩, N, -⟩, hq⟩ := rm_law l s _ G1 G3 us ss hX hY s.heap.size (Bk s EL1 s.vm s.heap) s.heap (Old.start s) i0 i1 (fun y q => (Array.getElem?_eq_some_iff.mp (Bk.there q).choose_spec).1) tables_1 p e ha hc hk s m _ below hf ((Spec.applies_iff_loose hf).mp happ).1 ⟨rfl, State.Warmed39.refl s, rfl, hCH, (fun _ q => q)⟩ trivial
  refine ⟨n, _, h1, h2, h3, hpost _ _ _ _ _ _ ⟨Cond.after_iff.mpr rfl, Cond.after_iff.mpr (eq_i res_at (Term.int_eval (1)) rfl), trivial⟩ ⟨hq.1, hq.2.1, hq.2.2.1, (hq.2.2.2.sift fun y hy => Or.inr (N y hy)).mono (by decide) (by decide)⟩⟩
theorem main_1_1 : Claimed_1_1 := comes_1 fun _ _ _ _ _ _ h hF => ⟨h.1, hF⟩
theorem main_1_2 : Claimed_1_2 := comes_1 fun _ _ _ _ _ _ h hF => ⟨h.2.1, hF⟩
end Jvm.Pilot.@@N@@
namespace Jvm.Pilot.@@N@@
open Jvm Jvm.ClassFile Sem Op Lib Jvm.Free Jvm.Stand Jvm.Pilot.@@N@@.Jvm.D
/-! MADE BY PROGRAM (witnessworld.py) out of the Statement's table words and the real class files: 40 classes; the members and pool entries that the words name. The judged class is class 1, her method 1. -/
namespace start1
open Jvm.ClassFile
def u (s : String) : CpInfo := .utf8 (stringToUtf16 s)
/-- a pool by its gaps: so many unusable entries, then the entry; so many at the end -/
def gap : Nat → List CpInfo → List CpInfo
  | 0, r => r
  | n + 1, r => .unusable :: gap n r
def poolList (es : List (Nat × CpInfo)) (last : Nat) : List CpInfo := es.foldr (fun e r => gap e.1 (e.2 :: r)) (gap last [])
def pool (es : List (Nat × CpInfo)) (last : Nat) : Array CpInfo := ⟨poolList es last⟩
def fileOf (pool : Array CpInfo) (this : Nat) (attrs : Array Attribute := #[]) (ms : Array MethodInfo := #[]) (fl : Nat := 33) (sup : Nat := 0) (ifs : Array Nat := #[]) (fds : Array FieldInfo := #[]) : ClassFile where
  minorVersion := 0
  majorVersion := 65
  constantPool := pool
  accessFlags := fl
  thisClass := this
  superClass := sup
  interfaces := ifs
  fields := fds
  methods := ms
  attributes := attrs
def plain (name : String) (sup : Option ClassId) : Class where
  name := name
  kind := .ordinary
  loader := none
  accessFlags := 33
  super := sup
  interfaces := #[]
  cf := none
  fields := #[]
  methods := #[]
  instanceTypes := #[]
  staticTypes := #[]
  resolved := #[]
  callSites := []
  init := .initialized
  statics := none
  mirror := none

def pool0 : Array CpInfo := pool [(5, u "<init>"), (0, u "()V"), (1, .class_ 10), (1, u "java/lang/Object"), (85, u "clone"), (0, u "()Ljava/lang/Object;")] 26

def k0c0 : Code := { maxStack := 0, maxLocals := 1, code := object_method_1_code, exceptionTable := #[], attributes := #[] }
def k0m0 : Method := { name := "<init>", desc := "()V", sig := { parameters := [], returnType := none }, accessFlags := 1, code := some k0c0 }
def k0m1 : Method := { name := "clone", desc := "()Ljava/lang/Object;", sig := { parameters := [], returnType := some (.object "java/lang/Object") }, accessFlags := 260, code := none }
/-- java/lang/Object -/
def k0 : Class := { plain "java/lang/Object" none with
  accessFlags := 33
  interfaces := #[]
  cf := some (fileOf pool0 8 #[] #[{ accessFlags := 1, nameIndex := 5, descriptorIndex := 6, attributes := #[] }, { accessFlags := 260, nameIndex := 96, descriptorIndex := 97, attributes := #[] }] 33 0 #[] #[])
  fields := #[]
  methods := #[k0m0, k0m1]
  instanceTypes := #[]
  staticTypes := #[]
  resolved := Array.replicate 124 none
  statics := none }

def pool1 : Array CpInfo := pool [(2, .class_ 4), (1, u "java/lang/Object"), (0, u "<init>"), (0, u "()V"), (0, .class_ 8), (0, u "java/lang/String"), (0, .methodref 7 10), (0, .nameAndType 5 11), (0, u "([C)V"), (0, .methodref 7 13), (0, .nameAndType 14 15), (0, u "valueOf"), (0, u "(C)Ljava/lang/String;"), (0, .methodref 17 18), (0, .class_ 19), (0, .nameAndType 20 21), (0, u "com/example/lidmaat/lidmaat/http/Refusal"), (0, u "malformed"), (0, u "(Ljava/lang/String;)Lcom/example/lidmaat/lidmaat/http/Refusal;"), (0, .methodref 17 23), (0, .nameAndType 24 25), (0, u "status"), (0, u "()I"), (0, .methodref 17 27), (0, .nameAndType 28 29), (0, u "getCause"), (0, u "()Ljava/lang/Throwable;"), (0, .methodref 17 31), (0, .nameAndType 32 33), (0, u "getMessage"), (0, u "()Ljava/lang/String;"), (0, .methodref 7 35), (0, .nameAndType 36 25), (0, u "length"), (0, .methodref 38 39), (0, .class_ 40), (0, .nameAndType 41 42), (0, u "com/example/lidmaat/lidmaat/http/RefusalMalformedPinLaw"), (0, u "prefix"), (0, u "(Ljava/lang/String;)Z"), (0, .methodref 7 44), (0, .nameAndType 45 46), (0, u "charAt"), (0, u "(I)C"), (0, .methodref 38 48), (0, .nameAndType 49 50), (0, u "suffix"), (0, u "(Ljava/lang/String;I)Z"), (0, .string 52), (0, u "Could not read the "), (0, .methodref 7 54), (0, .nameAndType 55 56), (0, u "equals"), (0, u "(Ljava/lang/Object;)Z"), (0, .string 58), (0, u " as HTTP/1.1."), (2, u "law"), (0, u "(II)Z")] 3

def k1m0 : Method := { name := "<init>", desc := "()V", sig := { parameters := [], returnType := none }, accessFlags := 1, code := none }
def k1c1 : Code := { maxStack := 6, maxLocals := 9, code := code, exceptionTable := #[], attributes := #[] }
def k1m1 : Method := { name := "law", desc := "(II)Z", sig := { parameters := [.int, .int], returnType := some .boolean }, accessFlags := 9, code := some k1c1 }
def k1c2 : Code := { maxStack := 7, maxLocals := 2, code := method_3_code, exceptionTable := #[], attributes := #[] }
def k1m2 : Method := { name := "prefix", desc := "(Ljava/lang/String;)Z", sig := { parameters := [(.object "java/lang/String")], returnType := some .boolean }, accessFlags := 10, code := some k1c2 }
def k1c3 : Code := { maxStack := 8, maxLocals := 3, code := method_4_code, exceptionTable := #[], attributes := #[] }
def k1m3 : Method := { name := "suffix", desc := "(Ljava/lang/String;I)Z", sig := { parameters := [(.object "java/lang/String"), .int], returnType := some .boolean }, accessFlags := 10, code := some k1c3 }
/-- com/example/lidmaat/lidmaat/http/RefusalMalformedPinLaw -/
def k1 : Class := { plain "com/example/lidmaat/lidmaat/http/RefusalMalformedPinLaw" (some 0) with
  accessFlags := 49
  interfaces := #[]
  cf := some (fileOf pool1 38 #[] #[{ accessFlags := 1, nameIndex := 5, descriptorIndex := 6, attributes := #[] }, { accessFlags := 9, nameIndex := 61, descriptorIndex := 62, attributes := #[] }, { accessFlags := 10, nameIndex := 41, descriptorIndex := 42, attributes := #[] }, { accessFlags := 10, nameIndex := 49, descriptorIndex := 50, attributes := #[] }] 49 2 #[] #[])
  fields := #[]
  methods := #[k1m0, k1m1, k1m2, k1m3]
  instanceTypes := #[]
  staticTypes := #[]
  resolved := Array.replicate 66 none
  statics := none }

def pool2 : Array CpInfo := pool [(1, .class_ 2), (0, u "java/io/Serializable"), (0, .class_ 4), (0, u "java/lang/Object")] 2

/-- java/io/Serializable -/
def k2 : Class := { plain "java/io/Serializable" (some 0) with
  accessFlags := 1537
  interfaces := #[]
  cf := some (fileOf pool2 1 #[] #[] 1537 3 #[] #[])
  fields := #[]
  methods := #[]
  instanceTypes := #[]
  staticTypes := #[]
  resolved := Array.replicate 7 none
  statics := none }

def pool3 : Array CpInfo := pool [(1, .class_ 2), (0, u "java/lang/Comparable"), (0, .class_ 4), (0, u "java/lang/Object")] 7

/-- java/lang/Comparable -/
def k3 : Class := { plain "java/lang/Comparable" (some 0) with
  accessFlags := 1537
  interfaces := #[]
  cf := some (fileOf pool3 1 #[] #[] 1537 3 #[] #[])
  fields := #[]
  methods := #[]
  instanceTypes := #[]
  staticTypes := #[]
  resolved := Array.replicate 12 none
  statics := none }

def pool4 : Array CpInfo := pool [(2, .class_ 4), (1, u "java/lang/CharSequence"), (42, .class_ 48), (0, u "java/lang/CharSequence$1CodePointIterator"), (10, .class_ 60), (0, u "java/lang/CharSequence$1CharIterator"), (5, .class_ 67), (0, u "java/lang/Object")] 63

/-- java/lang/CharSequence -/
def k4 : Class := { plain "java/lang/CharSequence" (some 0) with
  accessFlags := 1537
  interfaces := #[]
  cf := some (fileOf pool4 2 #[.nestMembers #[47, 59]] #[] 1537 66 #[] #[])
  fields := #[]
  methods := #[]
  instanceTypes := #[]
  staticTypes := #[]
  resolved := Array.replicate 131 none
  statics := none }

def pool5 : Array CpInfo := pool [(1, .class_ 2), (0, u "java/lang/constant/Constable"), (0, .class_ 4), (0, u "java/lang/Object")] 6

/-- java/lang/constant/Constable -/
def k5 : Class := { plain "java/lang/constant/Constable" (some 0) with
  accessFlags := 1537
  interfaces := #[]
  cf := some (fileOf pool5 1 #[] #[] 1537 3 #[] #[])
  fields := #[]
  methods := #[]
  instanceTypes := #[]
  staticTypes := #[]
  resolved := Array.replicate 11 none
  statics := none }

def pool6 : Array CpInfo := pool [(1, .class_ 2), (0, u "java/lang/constant/ConstantDesc"), (0, .class_ 4), (0, u "java/lang/Object")] 32

/-- java/lang/constant/ConstantDesc -/
def k6 : Class := { plain "java/lang/constant/ConstantDesc" (some 0) with
  accessFlags := 1537
  interfaces := #[]
  cf := some (fileOf pool6 1 #[] #[] 1537 3 #[] #[])
  fields := #[]
  methods := #[]
  instanceTypes := #[]
  staticTypes := #[]
  resolved := Array.replicate 37 none
  statics := none }

def pool7 : Array CpInfo := pool [(1, .methodref 2 3), (0, .class_ 4), (0, .nameAndType 5 6), (0, u "java/lang/Object"), (0, u "<init>"), (0, u "()V"), (0, .string 8), (0, u ""), (0, .fieldref 10 11), (0, .class_ 12), (0, .nameAndType 13 14), (0, u "java/lang/String"), (0, u "value"), (0, u "[B"), (0, .fieldref 10 16), (0, .nameAndType 17 18), (0, u "coder"), (0, u "B"), (2, u "hash"), (0, u "I"), (2, u "hashIsZero"), (0, u "Z"), (0, .methodref 10 28), (0, .nameAndType 5 29), (0, u "([CIILjava/lang/Void;)V"), (8, .fieldref 10 39), (0, .nameAndType 40 26), (0, u "COMPACT_STRINGS"), (1, .class_ 44), (1, u "java/lang/StringUTF16"), (0, u "compress"), (1, .methodref 42 48), (0, .nameAndType 49 50), (0, u "coderFromArrayLen"), (0, u "([BI)B"), (2, u "toBytes"), (0, .methodref 55 56), (0, .class_ 57), (0, .nameAndType 58 59), (0, u "java/util/Arrays"), (0, u "copyOfRange"), (0, u "([BII)[B"), (47, .class_ 109), (1, u "java/lang/StringLatin1"), (32, u "()Z"), (34, .methodref 42 178), (0, .nameAndType 45 179), (0, u "([CII)[B"), (13, .class_ 195), (1, u "java/lang/System"), (13, .methodref 10 210), (0, .nameAndType 5 211), (0, u "([BB)V"), (0, .methodref 193 213), (0, .nameAndType 214 215), (0, u "arraycopy"), (0, u "(Ljava/lang/Object;ILjava/lang/Object;II)V"), (118, u "()I"), (0, .methodref 10 336), (0, .nameAndType 17 337), (0, u "()B"), (2, u "()[B"), (22, u "([BI)C"), (5, u "(C)Z"), (21, u "(II)V"), (35, u "(I)C"), (61, .methodref 10 490), (0, .nameAndType 5 491), (0, u "(Ljava/lang/AbstractStringBuilder;Ljava/lang/Void;)V"), (0, .methodref 10 493), (0, .nameAndType 494 142), (0, u "isLatin1"), (0, .methodref 107 496), (0, .nameAndType 497 363), (0, u "charAt"), (3, u "checkIndex"), (4, .nameAndType 507 334), (0, u "length"), (24, u "getBytes"), (8, .methodref 107 542), (0, .nameAndType 543 544), (0, u "equals"), (0, u "([B[B)Z"), (4, .methodref 550 506), (0, .class_ 551), (0, u "java/lang/AbstractStringBuilder"), (0, .methodref 550 553), (0, .nameAndType 554 340), (0, u "getValue"), (18, u "(Ljava/lang/Object;)Z"), (1, .class_ 576), (0, u "java/lang/CharSequence"), (22, u "CASE_INSENSITIVE_ORDER"), (0, u "Ljava/util/Comparator;"), (181, u "valueOf"), (0, u "(C)Ljava/lang/String;"), (37, u "([BIB)V"), (188, u "([C)V"), (4, .methodref 107 1016), (0, .nameAndType 1017 369), (0, u "canEncode"), (0, .methodref 107 1019), (0, .nameAndType 53 1020), (0, u "(C)[B"), (26, .methodref 550 493), (5, .fieldref 1054 1055), (0, .class_ 1056), (0, .nameAndType 1057 1058), (0, u "jdk/internal/util/Preconditions"), (0, u "SIOOBE_FORMATTER"), (0, u "Ljava/util/function/BiFunction;"), (0, .methodref 1054 1060), (0, .nameAndType 501 1061), (0, u "(IILjava/util/function/BiFunction;)I"), (39, u "serialPersistentFields"), (0, u "[Ljava/io/ObjectStreamField;"), (0, .class_ 1104), (0, u "java/lang/String$CaseInsensitiveComparator"), (1, .class_ 1107), (0, u "java/io/Serializable"), (0, .class_ 1109), (0, u "java/lang/Comparable"), (0, .class_ 1111), (0, u "java/lang/constant/Constable"), (0, .class_ 1113), (0, u "java/lang/constant/ConstantDesc"), (2, u "serialVersionUID"), (0, u "J"), (3, u "REPL"), (0, u "C"), (2, u "LATIN1"), (1, u "UTF16"), (105, u "(Ljava/lang/StringBuilder;)V")] 217

def k7m0 : Method := { name := "<init>", desc := "()V", sig := { parameters := [], returnType := none }, accessFlags := 1, code := none }
def k7c1 : Code := { maxStack := 5, maxLocals := 2, code := jdk_42_method_3_code, exceptionTable := #[], attributes := #[] }
def k7m1 : Method := { name := "<init>", desc := "([C)V", sig := { parameters := [(.array .char)], returnType := none }, accessFlags := 1, code := some k7c1 }
def k7c2 : Code := { maxStack := 3, maxLocals := 2, code := jdk_42_method_53_code, exceptionTable := #[], attributes := #[] }
def k7m2 : Method := { name := "<init>", desc := "(Ljava/lang/StringBuilder;)V", sig := { parameters := [(.object "java/lang/StringBuilder")], returnType := none }, accessFlags := 1, code := some k7c2 }
def k7c3 : Code := { maxStack := 2, maxLocals := 1, code := jdk_42_method_54_code, exceptionTable := #[], attributes := #[] }
def k7m3 : Method := { name := "length", desc := "()I", sig := { parameters := [], returnType := some .int }, accessFlags := 1, code := some k7c3 }
def k7c4 : Code := { maxStack := 2, maxLocals := 2, code := jdk_42_method_56_code, exceptionTable := #[], attributes := #[] }
def k7m4 : Method := { name := "charAt", desc := "(I)C", sig := { parameters := [.int], returnType := some .char }, accessFlags := 1, code := some k7c4 }
def k7c5 : Code := { maxStack := 2, maxLocals := 3, code := jdk_42_method_66_code, exceptionTable := #[], attributes := #[] }
def k7m5 : Method := { name := "equals", desc := "(Ljava/lang/Object;)Z", sig := { parameters := [(.object "java/lang/Object")], returnType := some .boolean }, accessFlags := 1, code := some k7c5 }
def k7c6 : Code := { maxStack := 4, maxLocals := 1, code := jdk_42_method_139_code, exceptionTable := #[], attributes := #[] }
def k7m6 : Method := { name := "valueOf", desc := "(C)Ljava/lang/String;", sig := { parameters := [.char], returnType := some (.object "java/lang/String") }, accessFlags := 9, code := some k7c6 }
def k7c7 : Code := { maxStack := 5, maxLocals := 4, code := jdk_42_method_147_code, exceptionTable := #[], attributes := #[] }
def k7m7 : Method := { name := "getBytes", desc := "([BIB)V", sig := { parameters := [(.array .byte), .int, .byte], returnType := none }, accessFlags := 0, code := some k7c7 }
def k7c8 : Code := { maxStack := 4, maxLocals := 6, code := jdk_42_method_149_code, exceptionTable := #[], attributes := #[] }
def k7m8 : Method := { name := "<init>", desc := "([CIILjava/lang/Void;)V", sig := { parameters := [(.array .char), .int, .int, (.object "java/lang/Void")], returnType := none }, accessFlags := 2, code := some k7c8 }
def k7c9 : Code := { maxStack := 5, maxLocals := 5, code := jdk_42_method_150_code, exceptionTable := #[], attributes := #[] }
def k7m9 : Method := { name := "<init>", desc := "(Ljava/lang/AbstractStringBuilder;Ljava/lang/Void;)V", sig := { parameters := [(.object "java/lang/AbstractStringBuilder"), (.object "java/lang/Void")], returnType := none }, accessFlags := 0, code := some k7c9 }
def k7c10 : Code := { maxStack := 2, maxLocals := 3, code := jdk_42_method_151_code, exceptionTable := #[], attributes := #[] }
def k7m10 : Method := { name := "<init>", desc := "([BB)V", sig := { parameters := [(.array .byte), .byte], returnType := none }, accessFlags := 0, code := some k7c10 }
def k7c11 : Code := { maxStack := 1, maxLocals := 1, code := jdk_42_method_152_code, exceptionTable := #[], attributes := #[] }
def k7m11 : Method := { name := "coder", desc := "()B", sig := { parameters := [], returnType := some .byte }, accessFlags := 0, code := some k7c11 }
def k7c12 : Code := { maxStack := 1, maxLocals := 1, code := jdk_42_method_154_code, exceptionTable := #[], attributes := #[] }
def k7m12 : Method := { name := "isLatin1", desc := "()Z", sig := { parameters := [], returnType := some .boolean }, accessFlags := 0, code := some k7c12 }
def k7c13 : Code := { maxStack := 3, maxLocals := 2, code := jdk_42_method_155_code, exceptionTable := #[], attributes := #[] }
def k7m13 : Method := { name := "checkIndex", desc := "(II)V", sig := { parameters := [.int, .int], returnType := none }, accessFlags := 8, code := some k7c13 }
/-- java/lang/String -/
def k7 : Class := { plain "java/lang/String" (some 0) with
  accessFlags := 49
  interfaces := #[2, 3, 4, 5, 6]
  cf := some (fileOf pool7 10 #[.nestMembers #[1103]] #[{ accessFlags := 1, nameIndex := 5, descriptorIndex := 6, attributes := #[] }, { accessFlags := 1, nameIndex := 5, descriptorIndex := 1010, attributes := #[] }, { accessFlags := 1, nameIndex := 5, descriptorIndex := 1233, attributes := #[] }, { accessFlags := 1, nameIndex := 507, descriptorIndex := 334, attributes := #[] }, { accessFlags := 1, nameIndex := 497, descriptorIndex := 427, attributes := #[] }, { accessFlags := 1, nameIndex := 543, descriptorIndex := 573, attributes := #[] }, { accessFlags := 9, nameIndex := 782, descriptorIndex := 783, attributes := #[] }, { accessFlags := 0, nameIndex := 532, descriptorIndex := 821, attributes := #[] }, { accessFlags := 2, nameIndex := 5, descriptorIndex := 29, attributes := #[] }, { accessFlags := 0, nameIndex := 5, descriptorIndex := 491, attributes := #[] }, { accessFlags := 0, nameIndex := 5, descriptorIndex := 211, attributes := #[] }, { accessFlags := 0, nameIndex := 17, descriptorIndex := 337, attributes := #[] }, { accessFlags := 0, nameIndex := 494, descriptorIndex := 142, attributes := #[] }, { accessFlags := 8, nameIndex := 501, descriptorIndex := 391, attributes := #[] }] 49 2 #[1106, 1108, 575, 1110, 1112] #[{ accessFlags := 18, nameIndex := 13, descriptorIndex := 14, attributes := #[] }, { accessFlags := 18, nameIndex := 17, descriptorIndex := 18, attributes := #[] }, { accessFlags := 2, nameIndex := 21, descriptorIndex := 22, attributes := #[] }, { accessFlags := 2, nameIndex := 25, descriptorIndex := 26, attributes := #[] }, { accessFlags := 26, nameIndex := 1116, descriptorIndex := 1117, attributes := #[] }, { accessFlags := 24, nameIndex := 40, descriptorIndex := 26, attributes := #[] }, { accessFlags := 26, nameIndex := 1101, descriptorIndex := 1102, attributes := #[] }, { accessFlags := 26, nameIndex := 1121, descriptorIndex := 1122, attributes := #[] }, { accessFlags := 25, nameIndex := 599, descriptorIndex := 600, attributes := #[] }, { accessFlags := 24, nameIndex := 1125, descriptorIndex := 18, attributes := #[] }, { accessFlags := 24, nameIndex := 1127, descriptorIndex := 18, attributes := #[] }])
  fields := #[{ name := "value", type := (.array .byte), accessFlags := 18, slot := 0, constantValue := 0 }, { name := "coder", type := .byte, accessFlags := 18, slot := 1, constantValue := 0 }, { name := "hash", type := .int, accessFlags := 2, slot := 2, constantValue := 0 }, { name := "hashIsZero", type := .boolean, accessFlags := 2, slot := 3, constantValue := 0 }, { name := "serialVersionUID", type := .long, accessFlags := 26, slot := 0, constantValue := 0 }, { name := "COMPACT_STRINGS", type := .boolean, accessFlags := 24, slot := 1, constantValue := 0 }, { name := "serialPersistentFields", type := (.array (.object "java/io/ObjectStreamField")), accessFlags := 26, slot := 2, constantValue := 0 }, { name := "REPL", type := .char, accessFlags := 26, slot := 3, constantValue := 0 }, { name := "CASE_INSENSITIVE_ORDER", type := (.object "java/util/Comparator"), accessFlags := 25, slot := 4, constantValue := 0 }, { name := "LATIN1", type := .byte, accessFlags := 24, slot := 5, constantValue := 0 }, { name := "UTF16", type := .byte, accessFlags := 24, slot := 6, constantValue := 0 }]
  methods := #[k7m0, k7m1, k7m2, k7m3, k7m4, k7m5, k7m6, k7m7, k7m8, k7m9, k7m10, k7m11, k7m12, k7m13]
  instanceTypes := #[(.array .byte), .byte, .int, .boolean]
  staticTypes := #[.long, .boolean, (.array (.object "java/io/ObjectStreamField")), .char, (.object "java/util/Comparator"), .byte, .byte]
  resolved := Array.replicate 1451 none
  statics := some 0 }

def pool8 : Array CpInfo := pool [(1, .methodref 2 3), (0, .class_ 4), (0, .nameAndType 5 6), (0, u "java/lang/Object"), (0, u "<init>"), (0, u "()V"), (0, .fieldref 8 9), (0, .class_ 10), (0, .nameAndType 11 12), (0, u "java/lang/Throwable"), (0, u "cause"), (0, u "Ljava/lang/Throwable;"), (0, .fieldref 8 14), (0, .nameAndType 15 16), (0, u "UNASSIGNED_STACK"), (0, u "[Ljava/lang/StackTraceElement;"), (0, .fieldref 8 18), (0, .nameAndType 19 16), (0, u "stackTrace"), (0, .fieldref 8 21), (0, .nameAndType 22 23), (0, u "SUPPRESSED_SENTINEL"), (0, u "Ljava/util/List;"), (0, .fieldref 8 25), (0, .nameAndType 26 23), (0, u "suppressedExceptions"), (3, u "()Ljava/lang/Throwable;"), (0, .fieldref 8 32), (0, .nameAndType 33 34), (0, u "detailMessage"), (0, u "Ljava/lang/String;"), (3, u "()Ljava/lang/String;"), (2, u "getMessage"), (51, .class_ 94), (0, u "java/lang/Throwable$WrappedPrintStream"), (6, .class_ 103), (1, u "java/lang/Throwable$PrintStreamOrWriter"), (54, u "getCause"), (6, u "$assertionsDisabled"), (0, u "Z"), (26, .class_ 194), (0, u "java/lang/Throwable$WrappedPrintWriter"), (5, u "backtrace"), (0, u "Ljava/lang/Object;"), (9, u "depth"), (0, u "I"), (56, .class_ 271), (1, u "java/lang/Throwable$SentinelHolder"), (32, u "EMPTY_THROWABLE_ARRAY"), (0, u "[Ljava/lang/Throwable;"), (12, .class_ 319), (0, u "java/io/Serializable"), (0, u "serialVersionUID"), (0, u "J"), (5, u "NULL_CAUSE_MESSAGE"), (0, u "SELF_SUPPRESSION_MESSAGE"), (0, u "CAUSE_CAPTION"), (0, u "SUPPRESSED_CAPTION"), (9, u "(Ljava/lang/String;Ljava/lang/Throwable;ZZ)V")] 63

def k8m0 : Method := { name := "<init>", desc := "()V", sig := { parameters := [], returnType := none }, accessFlags := 1, code := none }
def k8c1 : Code := { maxStack := 2, maxLocals := 5, code := jdk_78_method_5_code, exceptionTable := #[], attributes := #[] }
def k8m1 : Method := { name := "<init>", desc := "(Ljava/lang/String;Ljava/lang/Throwable;ZZ)V", sig := { parameters := [(.object "java/lang/String"), (.object "java/lang/Throwable"), .boolean, .boolean], returnType := none }, accessFlags := 4, code := some k8c1 }
def k8c2 : Code := { maxStack := 1, maxLocals := 1, code := jdk_78_method_6_code, exceptionTable := #[], attributes := #[] }
def k8m2 : Method := { name := "getMessage", desc := "()Ljava/lang/String;", sig := { parameters := [], returnType := some (.object "java/lang/String") }, accessFlags := 1, code := some k8c2 }
def k8c3 : Code := { maxStack := 2, maxLocals := 1, code := ⟨#[0x2a, 0xb4, 0x00, 0x07, 0x2a, 0xa6, 0x00, 0x07, 0x01, 0xa7, 0x00, 0x07, 0x2a, 0xb4, 0x00, 0x07, 0xb0]⟩, exceptionTable := #[], attributes := #[] }
def k8m3 : Method := { name := "getCause", desc := "()Ljava/lang/Throwable;", sig := { parameters := [], returnType := some (.object "java/lang/Throwable") }, accessFlags := 33, code := some k8c3 }
/-- java/lang/Throwable -/
def k8 : Class := { plain "java/lang/Throwable" (some 0) with
  accessFlags := 33
  interfaces := #[2]
  cf := some (fileOf pool8 8 #[.nestMembers #[193, 93, 101, 269]] #[{ accessFlags := 1, nameIndex := 5, descriptorIndex := 6, attributes := #[] }, { accessFlags := 4, nameIndex := 5, descriptorIndex := 340, attributes := #[] }, { accessFlags := 1, nameIndex := 41, descriptorIndex := 38, attributes := #[] }, { accessFlags := 33, nameIndex := 158, descriptorIndex := 30, attributes := #[] }] 33 2 #[318] #[{ accessFlags := 26, nameIndex := 320, descriptorIndex := 321, attributes := #[] }, { accessFlags := 130, nameIndex := 200, descriptorIndex := 201, attributes := #[] }, { accessFlags := 2, nameIndex := 33, descriptorIndex := 34, attributes := #[] }, { accessFlags := 26, nameIndex := 15, descriptorIndex := 16, attributes := #[] }, { accessFlags := 2, nameIndex := 11, descriptorIndex := 12, attributes := #[] }, { accessFlags := 2, nameIndex := 19, descriptorIndex := 16, attributes := #[] }, { accessFlags := 130, nameIndex := 211, descriptorIndex := 212, attributes := #[] }, { accessFlags := 26, nameIndex := 22, descriptorIndex := 23, attributes := #[] }, { accessFlags := 2, nameIndex := 26, descriptorIndex := 23, attributes := #[] }, { accessFlags := 26, nameIndex := 327, descriptorIndex := 34, attributes := #[] }, { accessFlags := 26, nameIndex := 328, descriptorIndex := 34, attributes := #[] }, { accessFlags := 26, nameIndex := 329, descriptorIndex := 34, attributes := #[] }, { accessFlags := 26, nameIndex := 330, descriptorIndex := 34, attributes := #[] }, { accessFlags := 26, nameIndex := 304, descriptorIndex := 305, attributes := #[] }, { accessFlags := 4120, nameIndex := 165, descriptorIndex := 166, attributes := #[] }])
  fields := #[{ name := "serialVersionUID", type := .long, accessFlags := 26, slot := 0, constantValue := 0 }, { name := "backtrace", type := (.object "java/lang/Object"), accessFlags := 130, slot := 0, constantValue := 0 }, { name := "detailMessage", type := (.object "java/lang/String"), accessFlags := 2, slot := 1, constantValue := 0 }, { name := "UNASSIGNED_STACK", type := (.array (.object "java/lang/StackTraceElement")), accessFlags := 26, slot := 1, constantValue := 0 }, { name := "cause", type := (.object "java/lang/Throwable"), accessFlags := 2, slot := 2, constantValue := 0 }, { name := "stackTrace", type := (.array (.object "java/lang/StackTraceElement")), accessFlags := 2, slot := 3, constantValue := 0 }, { name := "depth", type := .int, accessFlags := 130, slot := 4, constantValue := 0 }, { name := "SUPPRESSED_SENTINEL", type := (.object "java/util/List"), accessFlags := 26, slot := 2, constantValue := 0 }, { name := "suppressedExceptions", type := (.object "java/util/List"), accessFlags := 2, slot := 5, constantValue := 0 }, { name := "NULL_CAUSE_MESSAGE", type := (.object "java/lang/String"), accessFlags := 26, slot := 3, constantValue := 0 }, { name := "SELF_SUPPRESSION_MESSAGE", type := (.object "java/lang/String"), accessFlags := 26, slot := 4, constantValue := 0 }, { name := "CAUSE_CAPTION", type := (.object "java/lang/String"), accessFlags := 26, slot := 5, constantValue := 0 }, { name := "SUPPRESSED_CAPTION", type := (.object "java/lang/String"), accessFlags := 26, slot := 6, constantValue := 0 }, { name := "EMPTY_THROWABLE_ARRAY", type := (.array (.object "java/lang/Throwable")), accessFlags := 26, slot := 7, constantValue := 0 }, { name := "$assertionsDisabled", type := .boolean, accessFlags := 4120, slot := 8, constantValue := 0 }]
  methods := #[k8m0, k8m1, k8m2, k8m3]
  instanceTypes := #[(.object "java/lang/Object"), (.object "java/lang/String"), (.object "java/lang/Throwable"), (.array (.object "java/lang/StackTraceElement")), .int, (.object "java/util/List")]
  staticTypes := #[.long, (.array (.object "java/lang/StackTraceElement")), (.object "java/util/List"), (.object "java/lang/String"), (.object "java/lang/String"), (.object "java/lang/String"), (.object "java/lang/String"), (.array (.object "java/lang/Throwable")), .boolean]
  resolved := Array.replicate 404 none
  statics := some 1 }

def pool9 : Array CpInfo := pool [(2, .class_ 4), (1, u "java/lang/Throwable"), (0, u "<init>"), (0, u "()V"), (9, .methodref 2 17), (0, .nameAndType 5 18), (0, u "(Ljava/lang/String;Ljava/lang/Throwable;ZZ)V"), (0, .class_ 20), (0, u "java/lang/Exception"), (0, u "serialVersionUID"), (0, u "J")] 17

def k9m0 : Method := { name := "<init>", desc := "()V", sig := { parameters := [], returnType := none }, accessFlags := 1, code := none }
def k9c1 : Code := { maxStack := 5, maxLocals := 5, code := jdk_59_method_5_code, exceptionTable := #[], attributes := #[] }
def k9m1 : Method := { name := "<init>", desc := "(Ljava/lang/String;Ljava/lang/Throwable;ZZ)V", sig := { parameters := [(.object "java/lang/String"), (.object "java/lang/Throwable"), .boolean, .boolean], returnType := none }, accessFlags := 4, code := some k9c1 }
/-- java/lang/Exception -/
def k9 : Class := { plain "java/lang/Exception" (some 8) with
  accessFlags := 33
  interfaces := #[]
  cf := some (fileOf pool9 19 #[] #[{ accessFlags := 1, nameIndex := 5, descriptorIndex := 6, attributes := #[] }, { accessFlags := 4, nameIndex := 5, descriptorIndex := 18, attributes := #[] }] 33 2 #[] #[{ accessFlags := 24, nameIndex := 21, descriptorIndex := 22, attributes := #[] }])
  fields := #[{ name := "serialVersionUID", type := .long, accessFlags := 24, slot := 0, constantValue := 0 }]
  methods := #[k9m0, k9m1]
  instanceTypes := #[(.object "java/lang/Object"), (.object "java/lang/String"), (.object "java/lang/Throwable"), (.array (.object "java/lang/StackTraceElement")), .int, (.object "java/util/List")]
  staticTypes := #[.long]
  resolved := Array.replicate 40 none
  statics := none }

def pool10 : Array CpInfo := pool [(1, .methodref 2 3), (0, .class_ 4), (0, .nameAndType 5 6), (0, u "java/lang/Exception"), (0, u "<init>"), (0, u "(Ljava/lang/String;Ljava/lang/Throwable;ZZ)V"), (0, .fieldref 8 9), (0, .class_ 10), (0, .nameAndType 11 12), (0, u "com/example/lidmaat/lidmaat/http/Refusal"), (0, u "status"), (0, u "I"), (0, .class_ 14), (0, u "java/lang/StringBuilder"), (0, .methodref 13 16), (0, .nameAndType 5 17), (0, u "()V"), (0, .string 19), (0, u "Could not read the "), (0, .methodref 13 21), (0, .nameAndType 22 23), (0, u "append"), (0, u "(Ljava/lang/String;)Ljava/lang/StringBuilder;"), (0, .string 25), (0, u " as HTTP/1.1."), (0, .methodref 13 27), (0, .nameAndType 28 29), (0, u "toString"), (0, u "()Ljava/lang/String;"), (0, .methodref 8 31), (0, .nameAndType 5 32), (0, u "(ILjava/lang/String;)V"), (11, u "serialVersionUID"), (0, u "J"), (5, u "malformed"), (0, u "(Ljava/lang/String;)Lcom/example/lidmaat/lidmaat/http/Refusal;"), (5, u "()I")] 2

def k10c0 : Code := { maxStack := 5, maxLocals := 3, code := prog_19_method_1_code, exceptionTable := #[], attributes := #[] }
def k10m0 : Method := { name := "<init>", desc := "(ILjava/lang/String;)V", sig := { parameters := [.int, (.object "java/lang/String")], returnType := none }, accessFlags := 2, code := some k10c0 }
def k10c1 : Code := { maxStack := 5, maxLocals := 1, code := prog_19_method_2_code, exceptionTable := #[], attributes := #[] }
def k10m1 : Method := { name := "malformed", desc := "(Ljava/lang/String;)Lcom/example/lidmaat/lidmaat/http/Refusal;", sig := { parameters := [(.object "java/lang/String")], returnType := some (.object "com/example/lidmaat/lidmaat/http/Refusal") }, accessFlags := 8, code := some k10c1 }
def k10c2 : Code := { maxStack := 1, maxLocals := 1, code := prog_19_method_6_code, exceptionTable := #[], attributes := #[] }
def k10m2 : Method := { name := "status", desc := "()I", sig := { parameters := [], returnType := some .int }, accessFlags := 1, code := some k10c2 }
/-- com/example/lidmaat/lidmaat/http/Refusal -/
def k10 : Class := { plain "com/example/lidmaat/lidmaat/http/Refusal" (some 9) with
  accessFlags := 49
  interfaces := #[]
  cf := some (fileOf pool10 8 #[] #[{ accessFlags := 2, nameIndex := 5, descriptorIndex := 32, attributes := #[] }, { accessFlags := 8, nameIndex := 51, descriptorIndex := 52, attributes := #[] }, { accessFlags := 1, nameIndex := 11, descriptorIndex := 58, attributes := #[] }] 49 2 #[] #[{ accessFlags := 26, nameIndex := 44, descriptorIndex := 45, attributes := #[] }, { accessFlags := 18, nameIndex := 11, descriptorIndex := 12, attributes := #[] }])
  fields := #[{ name := "serialVersionUID", type := .long, accessFlags := 26, slot := 0, constantValue := 0 }, { name := "status", type := .int, accessFlags := 18, slot := 6, constantValue := 0 }]
  methods := #[k10m0, k10m1, k10m2]
  instanceTypes := #[(.object "java/lang/Object"), (.object "java/lang/String"), (.object "java/lang/Throwable"), (.array (.object "java/lang/StackTraceElement")), .int, (.object "java/util/List"), .int]
  staticTypes := #[.long]
  resolved := Array.replicate 61 none
  statics := none }

def pool11 : Array CpInfo := pool [(1, .class_ 2), (0, u "java/lang/Appendable"), (0, .class_ 4), (0, u "java/lang/Object")] 9

/-- java/lang/Appendable -/
def k11 : Class := { plain "java/lang/Appendable" (some 0) with
  accessFlags := 1537
  interfaces := #[]
  cf := some (fileOf pool11 1 #[] #[] 1537 3 #[] #[])
  fields := #[]
  methods := #[]
  instanceTypes := #[]
  staticTypes := #[]
  resolved := Array.replicate 14 none
  statics := none }

def pool12 : Array CpInfo := pool [(1, .class_ 2), (0, u "java/lang/String"), (0, .methodref 4 5), (0, .class_ 6), (0, .nameAndType 7 8), (0, u "java/lang/Object"), (0, u "<init>"), (0, u "()V"), (1, .class_ 12), (1, u "java/lang/AbstractStringBuilder"), (0, u "EMPTYVALUE"), (0, u "[B"), (0, .fieldref 10 16), (0, .nameAndType 17 14), (0, u "value"), (0, .fieldref 1 19), (0, .nameAndType 20 21), (0, u "COMPACT_STRINGS"), (0, u "Z"), (0, .fieldref 10 23), (0, .nameAndType 24 25), (0, u "coder"), (0, u "B"), (6, .methodref 1 33), (0, .nameAndType 34 35), (0, u "length"), (0, u "()I"), (3, .integer 2147483647), (0, .methodref 1 41), (0, .nameAndType 24 42), (0, u "()B"), (2, u "append"), (0, u "(Ljava/lang/String;)Ljava/lang/AbstractStringBuilder;"), (1, .class_ 49), (0, u "java/lang/CharSequence"), (19, u "(Ljava/lang/String;)V"), (5, u "maybeLatin1"), (3, .fieldref 10 80), (0, .nameAndType 81 82), (0, u "count"), (0, u "I"), (2, u "isLatin1"), (0, u "()Z"), (13, .methodref 10 101), (0, .nameAndType 102 103), (0, u "ensureCapacityInternal"), (0, u "(I)V"), (0, .methodref 10 105), (0, .nameAndType 106 107), (0, u "newCapacity"), (0, u "(I)I"), (0, .methodref 109 110), (0, .class_ 111), (0, .nameAndType 112 113), (0, u "java/util/Arrays"), (0, u "copyOf"), (0, u "([BI)[B"), (0, .methodref 115 116), (0, .class_ 117), (0, .nameAndType 118 119), (0, u "jdk/internal/util/ArraysSupport"), (0, u "newLength"), (0, u "(III)I"), (88, .methodref 10 209), (0, .nameAndType 210 211), (0, u "putStringAt"), (0, u "(ILjava/lang/String;)V"), (5, u "inflateIfNeededFor"), (2, .nameAndType 221 222), (0, u "getBytes"), (0, u "([BIB)V"), (174, .methodref 10 398), (0, .nameAndType 217 69), (0, .methodref 1 220), (3, u "()[B"), (40, .class_ 445), (0, u "java/lang/Appendable"), (106, u "getValue")] 56

def k12m0 : Method := { name := "<init>", desc := "()V", sig := { parameters := [], returnType := none }, accessFlags := 0, code := none }
def k12c1 : Code := { maxStack := 2, maxLocals := 2, code := jdk_68_method_2_code, exceptionTable := #[], attributes := #[] }
def k12m1 : Method := { name := "<init>", desc := "(I)V", sig := { parameters := [.int], returnType := none }, accessFlags := 0, code := some k12c1 }
def k12c2 : Code := { maxStack := 1, maxLocals := 1, code := jdk_68_method_6_code, exceptionTable := #[], attributes := #[] }
def k12m2 : Method := { name := "length", desc := "()I", sig := { parameters := [], returnType := some .int }, accessFlags := 1, code := some k12c2 }
def k12c3 : Code := { maxStack := 4, maxLocals := 3, code := jdk_68_method_9_code, exceptionTable := #[], attributes := #[] }
def k12m3 : Method := { name := "ensureCapacityInternal", desc := "(I)V", sig := { parameters := [.int], returnType := none }, accessFlags := 2, code := some k12c3 }
def k12c4 : Code := { maxStack := 5, maxLocals := 6, code := jdk_68_method_10_code, exceptionTable := #[], attributes := #[] }
def k12m4 : Method := { name := "newCapacity", desc := "(I)I", sig := { parameters := [.int], returnType := some .int }, accessFlags := 2, code := some k12c4 }
def k12c5 : Code := { maxStack := 3, maxLocals := 3, code := jdk_68_method_22_code, exceptionTable := #[], attributes := #[] }
def k12m5 : Method := { name := "append", desc := "(Ljava/lang/String;)Ljava/lang/AbstractStringBuilder;", sig := { parameters := [(.object "java/lang/String")], returnType := some (.object "java/lang/AbstractStringBuilder") }, accessFlags := 1, code := some k12c5 }
def k12c6 : Code := { maxStack := 1, maxLocals := 1, code := jdk_68_method_64_code, exceptionTable := #[], attributes := #[] }
def k12m6 : Method := { name := "getValue", desc := "()[B", sig := { parameters := [], returnType := some (.array .byte) }, accessFlags := 16, code := some k12c6 }
def k12c7 : Code := { maxStack := 1, maxLocals := 1, code := jdk_68_method_68_code, exceptionTable := #[], attributes := #[] }
def k12m7 : Method := { name := "isLatin1", desc := "()Z", sig := { parameters := [], returnType := some .boolean }, accessFlags := 16, code := some k12c7 }
def k12c8 : Code := { maxStack := 2, maxLocals := 2, code := jdk_68_method_71_code, exceptionTable := #[], attributes := #[] }
def k12m8 : Method := { name := "inflateIfNeededFor", desc := "(Ljava/lang/String;)V", sig := { parameters := [(.object "java/lang/String")], returnType := none }, accessFlags := 2, code := some k12c8 }
def k12c9 : Code := { maxStack := 4, maxLocals := 3, code := jdk_68_method_73_code, exceptionTable := #[], attributes := #[] }
def k12m9 : Method := { name := "putStringAt", desc := "(ILjava/lang/String;)V", sig := { parameters := [.int, (.object "java/lang/String")], returnType := none }, accessFlags := 2, code := some k12c9 }
/-- java/lang/AbstractStringBuilder -/
def k12 : Class := { plain "java/lang/AbstractStringBuilder" (some 0) with
  accessFlags := 1056
  interfaces := #[11, 4]
  cf := some (fileOf pool12 10 #[] #[{ accessFlags := 0, nameIndex := 7, descriptorIndex := 8, attributes := #[] }, { accessFlags := 0, nameIndex := 7, descriptorIndex := 103, attributes := #[] }, { accessFlags := 1, nameIndex := 34, descriptorIndex := 35, attributes := #[] }, { accessFlags := 2, nameIndex := 102, descriptorIndex := 103, attributes := #[] }, { accessFlags := 2, nameIndex := 106, descriptorIndex := 107, attributes := #[] }, { accessFlags := 1, nameIndex := 45, descriptorIndex := 46, attributes := #[] }, { accessFlags := 16, nameIndex := 552, descriptorIndex := 403, attributes := #[] }, { accessFlags := 16, nameIndex := 85, descriptorIndex := 86, attributes := #[] }, { accessFlags := 2, nameIndex := 217, descriptorIndex := 69, attributes := #[] }, { accessFlags := 2, nameIndex := 210, descriptorIndex := 211, attributes := #[] }] 1056 4 #[444, 48] #[{ accessFlags := 0, nameIndex := 17, descriptorIndex := 14, attributes := #[] }, { accessFlags := 0, nameIndex := 24, descriptorIndex := 25, attributes := #[] }, { accessFlags := 0, nameIndex := 75, descriptorIndex := 21, attributes := #[] }, { accessFlags := 0, nameIndex := 81, descriptorIndex := 82, attributes := #[] }, { accessFlags := 26, nameIndex := 13, descriptorIndex := 14, attributes := #[] }])
  fields := #[{ name := "value", type := (.array .byte), accessFlags := 0, slot := 0, constantValue := 0 }, { name := "coder", type := .byte, accessFlags := 0, slot := 1, constantValue := 0 }, { name := "maybeLatin1", type := .boolean, accessFlags := 0, slot := 2, constantValue := 0 }, { name := "count", type := .int, accessFlags := 0, slot := 3, constantValue := 0 }, { name := "EMPTYVALUE", type := (.array .byte), accessFlags := 26, slot := 0, constantValue := 0 }]
  methods := #[k12m0, k12m1, k12m2, k12m3, k12m4, k12m5, k12m6, k12m7, k12m8, k12m9]
  instanceTypes := #[(.array .byte), .byte, .boolean, .int]
  staticTypes := #[(.array .byte)]
  resolved := Array.replicate 609 none
  statics := none }

def pool13 : Array CpInfo := pool [(1, .methodref 2 3), (0, .class_ 4), (0, .nameAndType 5 6), (0, u "java/lang/AbstractStringBuilder"), (0, u "<init>"), (0, u "(I)V"), (11, .class_ 20), (1, u "java/lang/String"), (3, .class_ 26), (1, u "java/lang/StringBuilder"), (0, u "append"), (0, u "(Ljava/lang/String;)Ljava/lang/StringBuilder;"), (0, .methodref 2 30), (0, .nameAndType 27 31), (0, u "(Ljava/lang/String;)Ljava/lang/AbstractStringBuilder;"), (105, .methodref 18 138), (0, .nameAndType 5 139), (0, u "(Ljava/lang/StringBuilder;)V"), (5, u "()V"), (10, u "()I"), (186, .methodref 2 344), (0, .nameAndType 345 156), (0, u "length"), (3, .class_ 350), (0, u "java/lang/Appendable"), (0, .class_ 352), (0, u "java/io/Serializable"), (0, .class_ 354), (0, u "java/lang/Comparable"), (0, .class_ 356), (0, u "java/lang/CharSequence"), (0, u "serialVersionUID"), (0, u "J"), (40, u "toString"), (0, u "()Ljava/lang/String;")] 21

def k13c0 : Code := { maxStack := 2, maxLocals := 1, code := jdk_67_method_1_code, exceptionTable := #[], attributes := #[] }
def k13m0 : Method := { name := "<init>", desc := "()V", sig := { parameters := [], returnType := none }, accessFlags := 1, code := some k13c0 }
def k13c1 : Code := { maxStack := 2, maxLocals := 2, code := jdk_67_method_7_code, exceptionTable := #[], attributes := #[] }
def k13m1 : Method := { name := "append", desc := "(Ljava/lang/String;)Ljava/lang/StringBuilder;", sig := { parameters := [(.object "java/lang/String")], returnType := some (.object "java/lang/StringBuilder") }, accessFlags := 1, code := some k13c1 }
def k13c2 : Code := { maxStack := 3, maxLocals := 1, code := jdk_67_method_42_code, exceptionTable := #[], attributes := #[] }
def k13m2 : Method := { name := "toString", desc := "()Ljava/lang/String;", sig := { parameters := [], returnType := some (.object "java/lang/String") }, accessFlags := 1, code := some k13c2 }
def k13c3 : Code := { maxStack := 1, maxLocals := 1, code := jdk_67_method_93_code, exceptionTable := #[], attributes := #[] }
def k13m3 : Method := { name := "length", desc := "()I", sig := { parameters := [], returnType := some .int }, accessFlags := 4161, code := some k13c3 }
/-- java/lang/StringBuilder -/
def k13 : Class := { plain "java/lang/StringBuilder" (some 12) with
  accessFlags := 49
  interfaces := #[11, 2, 3, 4]
  cf := some (fileOf pool13 24 #[] #[{ accessFlags := 1, nameIndex := 5, descriptorIndex := 145, attributes := #[] }, { accessFlags := 1, nameIndex := 27, descriptorIndex := 28, attributes := #[] }, { accessFlags := 1, nameIndex := 399, descriptorIndex := 400, attributes := #[] }, { accessFlags := 4161, nameIndex := 345, descriptorIndex := 156, attributes := #[] }] 49 2 #[349, 351, 353, 355] #[{ accessFlags := 24, nameIndex := 357, descriptorIndex := 358, attributes := #[] }])
  fields := #[{ name := "serialVersionUID", type := .long, accessFlags := 24, slot := 0, constantValue := 0 }]
  methods := #[k13m0, k13m1, k13m2, k13m3]
  instanceTypes := #[(.array .byte), .byte, .boolean, .int]
  staticTypes := #[.long]
  resolved := Array.replicate 422 none
  statics := none }

def pool14 : Array CpInfo := pool [(9, u "<init>"), (6, .class_ 18), (1, u "java/lang/Object"), (0, u "()V"), (1, .class_ 23), (1, u "jdk/internal/util/ArraysSupport"), (0, u "LOG2_ARRAY_LONG_INDEX_SCALE"), (0, u "I"), (2, u "U"), (0, u "Ljdk/internal/misc/Unsafe;"), (8, u "BIG_ENDIAN"), (0, u "Z"), (8, u "LOG2_BYTE_BIT_SIZE"), (4, u "LOG2_ARRAY_INT_INDEX_SCALE"), (54, u "JLA"), (0, u "Ljdk/internal/access/JavaLangAccess;"), (11, u "LOG2_ARRAY_BOOLEAN_INDEX_SCALE"), (9, u "LOG2_ARRAY_BYTE_INDEX_SCALE"), (5, u "LOG2_ARRAY_CHAR_INDEX_SCALE"), (5, u "LOG2_ARRAY_SHORT_INDEX_SCALE"), (18, u "LOG2_ARRAY_FLOAT_INDEX_SCALE"), (24, u "LOG2_ARRAY_DOUBLE_INDEX_SCALE"), (6, .methodref 195 196), (0, .class_ 197), (0, .nameAndType 198 199), (0, u "java/lang/Math"), (0, u "max"), (0, u "(II)I"), (0, .integer 2147483639), (76, u "T_BOOLEAN"), (2, u "T_CHAR"), (1, u "T_FLOAT"), (1, u "T_DOUBLE"), (1, u "T_BYTE"), (1, u "T_SHORT"), (1, u "T_INT"), (1, u "T_LONG"), (1, u "SOFT_MAX_ARRAY_LENGTH"), (56, u "newLength"), (0, u "(III)I")] 25

def k14m0 : Method := { name := "<init>", desc := "()V", sig := { parameters := [], returnType := none }, accessFlags := 2, code := none }
def k14c1 : Code := { maxStack := 3, maxLocals := 4, code := jdk_48_method_27_code, exceptionTable := #[], attributes := #[] }
def k14m1 : Method := { name := "newLength", desc := "(III)I", sig := { parameters := [.int, .int, .int], returnType := some .int }, accessFlags := 9, code := some k14c1 }
/-- jdk/internal/util/ArraysSupport -/
def k14 : Class := { plain "jdk/internal/util/ArraysSupport" (some 0) with
  accessFlags := 33
  interfaces := #[]
  cf := some (fileOf pool14 21 #[] #[{ accessFlags := 2, nameIndex := 9, descriptorIndex := 19, attributes := #[] }, { accessFlags := 9, nameIndex := 351, descriptorIndex := 352, attributes := #[] }] 33 16 #[] #[{ accessFlags := 24, nameIndex := 28, descriptorIndex := 29, attributes := #[] }, { accessFlags := 26, nameIndex := 38, descriptorIndex := 39, attributes := #[] }, { accessFlags := 25, nameIndex := 121, descriptorIndex := 25, attributes := #[] }, { accessFlags := 25, nameIndex := 131, descriptorIndex := 25, attributes := #[] }, { accessFlags := 25, nameIndex := 137, descriptorIndex := 25, attributes := #[] }, { accessFlags := 25, nameIndex := 143, descriptorIndex := 25, attributes := #[] }, { accessFlags := 25, nameIndex := 53, descriptorIndex := 25, attributes := #[] }, { accessFlags := 25, nameIndex := 24, descriptorIndex := 25, attributes := #[] }, { accessFlags := 25, nameIndex := 162, descriptorIndex := 25, attributes := #[] }, { accessFlags := 25, nameIndex := 187, descriptorIndex := 25, attributes := #[] }, { accessFlags := 26, nameIndex := 48, descriptorIndex := 25, attributes := #[] }, { accessFlags := 25, nameIndex := 277, descriptorIndex := 25, attributes := #[] }, { accessFlags := 25, nameIndex := 280, descriptorIndex := 25, attributes := #[] }, { accessFlags := 25, nameIndex := 282, descriptorIndex := 25, attributes := #[] }, { accessFlags := 25, nameIndex := 284, descriptorIndex := 25, attributes := #[] }, { accessFlags := 25, nameIndex := 286, descriptorIndex := 25, attributes := #[] }, { accessFlags := 25, nameIndex := 288, descriptorIndex := 25, attributes := #[] }, { accessFlags := 25, nameIndex := 290, descriptorIndex := 25, attributes := #[] }, { accessFlags := 25, nameIndex := 292, descriptorIndex := 25, attributes := #[] }, { accessFlags := 26, nameIndex := 108, descriptorIndex := 109, attributes := #[] }, { accessFlags := 25, nameIndex := 294, descriptorIndex := 25, attributes := #[] }])
  fields := #[{ name := "U", type := (.object "jdk/internal/misc/Unsafe"), accessFlags := 24, slot := 0, constantValue := 0 }, { name := "BIG_ENDIAN", type := .boolean, accessFlags := 26, slot := 1, constantValue := 0 }, { name := "LOG2_ARRAY_BOOLEAN_INDEX_SCALE", type := .int, accessFlags := 25, slot := 2, constantValue := 0 }, { name := "LOG2_ARRAY_BYTE_INDEX_SCALE", type := .int, accessFlags := 25, slot := 3, constantValue := 0 }, { name := "LOG2_ARRAY_CHAR_INDEX_SCALE", type := .int, accessFlags := 25, slot := 4, constantValue := 0 }, { name := "LOG2_ARRAY_SHORT_INDEX_SCALE", type := .int, accessFlags := 25, slot := 5, constantValue := 0 }, { name := "LOG2_ARRAY_INT_INDEX_SCALE", type := .int, accessFlags := 25, slot := 6, constantValue := 0 }, { name := "LOG2_ARRAY_LONG_INDEX_SCALE", type := .int, accessFlags := 25, slot := 7, constantValue := 0 }, { name := "LOG2_ARRAY_FLOAT_INDEX_SCALE", type := .int, accessFlags := 25, slot := 8, constantValue := 0 }, { name := "LOG2_ARRAY_DOUBLE_INDEX_SCALE", type := .int, accessFlags := 25, slot := 9, constantValue := 0 }, { name := "LOG2_BYTE_BIT_SIZE", type := .int, accessFlags := 26, slot := 10, constantValue := 0 }, { name := "T_BOOLEAN", type := .int, accessFlags := 25, slot := 11, constantValue := 0 }, { name := "T_CHAR", type := .int, accessFlags := 25, slot := 12, constantValue := 0 }, { name := "T_FLOAT", type := .int, accessFlags := 25, slot := 13, constantValue := 0 }, { name := "T_DOUBLE", type := .int, accessFlags := 25, slot := 14, constantValue := 0 }, { name := "T_BYTE", type := .int, accessFlags := 25, slot := 15, constantValue := 0 }, { name := "T_SHORT", type := .int, accessFlags := 25, slot := 16, constantValue := 0 }, { name := "T_INT", type := .int, accessFlags := 25, slot := 17, constantValue := 0 }, { name := "T_LONG", type := .int, accessFlags := 25, slot := 18, constantValue := 0 }, { name := "JLA", type := (.object "jdk/internal/access/JavaLangAccess"), accessFlags := 26, slot := 19, constantValue := 0 }, { name := "SOFT_MAX_ARRAY_LENGTH", type := .int, accessFlags := 25, slot := 20, constantValue := 0 }]
  methods := #[k14m0, k14m1]
  instanceTypes := #[]
  staticTypes := #[(.object "jdk/internal/misc/Unsafe"), .boolean, .int, .int, .int, .int, .int, .int, .int, .int, .int, .int, .int, .int, .int, .int, .int, .int, .int, (.object "jdk/internal/access/JavaLangAccess"), .int]
  resolved := Array.replicate 378 none
  statics := none }

def pool15 : Array CpInfo := pool [(1, .class_ 2), (0, u "java/lang/Math"), (1, .class_ 6), (1, u "java/lang/Object"), (0, u "<init>"), (0, u "()V"), (89, .class_ 100), (1, u "java/lang/Math$RandomNumberGeneratorHolder"), (71, u "negativeZeroFloatBits"), (0, u "J"), (2, u "negativeZeroDoubleBits"), (21, u "max"), (2, u "min"), (43, u "$assertionsDisabled"), (0, u "Z"), (88, u "(II)I"), (2, u "twoToTheDoubleScaleDown"), (0, u "D"), (4, u "twoToTheDoubleScaleUp"), (9, u "E"), (3, u "PI"), (2, u "TAU"), (2, u "DEGREES_TO_RADIANS"), (0, u "RADIANS_TO_DEGREES")] 94

def k15m0 : Method := { name := "<init>", desc := "()V", sig := { parameters := [], returnType := none }, accessFlags := 2, code := none }
def k15c1 : Code := { maxStack := 2, maxLocals := 2, code := jdk_29_method_65_code, exceptionTable := #[], attributes := #[] }
def k15m1 : Method := { name := "max", desc := "(II)I", sig := { parameters := [.int, .int], returnType := some .int }, accessFlags := 9, code := some k15c1 }
def k15c2 : Code := { maxStack := 2, maxLocals := 2, code := jdk_29_method_69_code, exceptionTable := #[], attributes := #[] }
def k15m2 : Method := { name := "min", desc := "(II)I", sig := { parameters := [.int, .int], returnType := some .int }, accessFlags := 9, code := some k15c2 }
/-- java/lang/Math -/
def k15 : Class := { plain "java/lang/Math" (some 0) with
  accessFlags := 49
  interfaces := #[]
  cf := some (fileOf pool15 1 #[.nestMembers #[98]] #[{ accessFlags := 2, nameIndex := 7, descriptorIndex := 8, attributes := #[] }, { accessFlags := 9, nameIndex := 198, descriptorIndex := 335, attributes := #[] }, { accessFlags := 9, nameIndex := 201, descriptorIndex := 335, attributes := #[] }] 49 4 #[] #[{ accessFlags := 25, nameIndex := 354, descriptorIndex := 339, attributes := #[] }, { accessFlags := 25, nameIndex := 358, descriptorIndex := 339, attributes := #[] }, { accessFlags := 25, nameIndex := 361, descriptorIndex := 339, attributes := #[] }, { accessFlags := 26, nameIndex := 364, descriptorIndex := 339, attributes := #[] }, { accessFlags := 26, nameIndex := 365, descriptorIndex := 339, attributes := #[] }, { accessFlags := 26, nameIndex := 172, descriptorIndex := 173, attributes := #[] }, { accessFlags := 26, nameIndex := 176, descriptorIndex := 173, attributes := #[] }, { accessFlags := 8, nameIndex := 344, descriptorIndex := 339, attributes := #[] }, { accessFlags := 8, nameIndex := 338, descriptorIndex := 339, attributes := #[] }, { accessFlags := 4120, nameIndex := 245, descriptorIndex := 246, attributes := #[] }])
  fields := #[{ name := "E", type := .double, accessFlags := 25, slot := 0, constantValue := 0 }, { name := "PI", type := .double, accessFlags := 25, slot := 1, constantValue := 0 }, { name := "TAU", type := .double, accessFlags := 25, slot := 2, constantValue := 0 }, { name := "DEGREES_TO_RADIANS", type := .double, accessFlags := 26, slot := 3, constantValue := 0 }, { name := "RADIANS_TO_DEGREES", type := .double, accessFlags := 26, slot := 4, constantValue := 0 }, { name := "negativeZeroFloatBits", type := .long, accessFlags := 26, slot := 5, constantValue := 0 }, { name := "negativeZeroDoubleBits", type := .long, accessFlags := 26, slot := 6, constantValue := 0 }, { name := "twoToTheDoubleScaleUp", type := .double, accessFlags := 8, slot := 7, constantValue := 0 }, { name := "twoToTheDoubleScaleDown", type := .double, accessFlags := 8, slot := 8, constantValue := 0 }, { name := "$assertionsDisabled", type := .boolean, accessFlags := 4120, slot := 9, constantValue := 0 }]
  methods := #[k15m0, k15m1, k15m2]
  instanceTypes := #[]
  staticTypes := #[.double, .double, .double, .double, .double, .long, .long, .double, .double, .boolean]
  resolved := Array.replicate 460 none
  statics := none }

def pool16 : Array CpInfo := pool [(2, .class_ 4), (1, u "java/lang/Object"), (0, u "<init>"), (0, u "()V"), (7, .class_ 16), (1, u "java/util/Arrays"), (57, .class_ 76), (1, u "java/util/Arrays$NaturalOrder"), (32, u "()Ljava/lang/Object;"), (3, .class_ 115), (1, u "java/util/Arrays$LegacyMergeSort"), (1, u "Z"), (10, .nameAndType 129 109), (0, u "clone"), (9, u "copyOfRange"), (10, .methodref 151 152), (0, .class_ 153), (0, .nameAndType 154 155), (0, u "java/lang/System"), (0, u "arraycopy"), (0, u "(Ljava/lang/Object;ILjava/lang/Object;II)V"), (146, u "copyOf"), (1, .methodref 305 306), (0, .class_ 307), (0, .nameAndType 308 309), (0, u "java/lang/Math"), (0, u "min"), (0, u "(II)I"), (0, .methodref 311 128), (0, .class_ 312), (0, u "[B"), (26, .methodref 14 340), (0, .nameAndType 341 342), (0, u "copyOfRangeByte"), (0, u "([BII)[B"), (0, .methodref 14 344), (0, .nameAndType 345 346), (0, u "checkLength"), (0, u "(II)V"), (28, .class_ 376), (0, u "java/util/Arrays$ArrayList"), (68, u "$assertionsDisabled"), (269, u "MIN_ARRAY_SORT_GRAN"), (0, u "I"), (2, u "INSERTIONSORT_THRESHOLD"), (149, u "([BI)[B"), (105, .class_ 976), (0, u "java/util/Arrays$ArrayItr")] 52

def k16m0 : Method := { name := "<init>", desc := "()V", sig := { parameters := [], returnType := none }, accessFlags := 2, code := none }
def k16c1 : Code := { maxStack := 6, maxLocals := 3, code := jdk_65_method_121_code, exceptionTable := #[], attributes := #[] }
def k16m1 : Method := { name := "copyOf", desc := "([BI)[B", sig := { parameters := [(.array .byte), .int], returnType := some (.array .byte) }, accessFlags := 9, code := some k16c1 }
def k16c2 : Code := { maxStack := 4, maxLocals := 2, code := jdk_65_method_131_code, exceptionTable := #[], attributes := #[] }
def k16m2 : Method := { name := "checkLength", desc := "(II)V", sig := { parameters := [.int, .int], returnType := none }, accessFlags := 10, code := some k16c2 }
def k16c3 : Code := { maxStack := 3, maxLocals := 3, code := jdk_65_method_132_code, exceptionTable := #[], attributes := #[] }
def k16m3 : Method := { name := "copyOfRange", desc := "([BII)[B", sig := { parameters := [(.array .byte), .int, .int], returnType := some (.array .byte) }, accessFlags := 9, code := some k16c3 }
def k16c4 : Code := { maxStack := 6, maxLocals := 5, code := jdk_65_method_133_code, exceptionTable := #[], attributes := #[] }
def k16m4 : Method := { name := "copyOfRangeByte", desc := "([BII)[B", sig := { parameters := [(.array .byte), .int, .int], returnType := some (.array .byte) }, accessFlags := 10, code := some k16c4 }
/-- java/util/Arrays -/
def k16 : Class := { plain "java/util/Arrays" (some 0) with
  accessFlags := 49
  interfaces := #[]
  cf := some (fileOf pool16 14 #[.nestMembers #[975, 375, 113, 74]] #[{ accessFlags := 2, nameIndex := 5, descriptorIndex := 6, attributes := #[] }, { accessFlags := 9, nameIndex := 302, descriptorIndex := 869, attributes := #[] }, { accessFlags := 10, nameIndex := 345, descriptorIndex := 346, attributes := #[] }, { accessFlags := 9, nameIndex := 139, descriptorIndex := 342, attributes := #[] }, { accessFlags := 10, nameIndex := 341, descriptorIndex := 342, attributes := #[] }] 49 2 #[] #[{ accessFlags := 26, nameIndex := 715, descriptorIndex := 716, attributes := #[] }, { accessFlags := 26, nameIndex := 719, descriptorIndex := 716, attributes := #[] }, { accessFlags := 4120, nameIndex := 445, descriptorIndex := 117, attributes := #[] }])
  fields := #[{ name := "MIN_ARRAY_SORT_GRAN", type := .int, accessFlags := 26, slot := 0, constantValue := 0 }, { name := "INSERTIONSORT_THRESHOLD", type := .int, accessFlags := 26, slot := 1, constantValue := 0 }, { name := "$assertionsDisabled", type := .boolean, accessFlags := 4120, slot := 2, constantValue := 0 }]
  methods := #[k16m0, k16m1, k16m2, k16m3, k16m4]
  instanceTypes := #[]
  staticTypes := #[.int, .int, .boolean]
  resolved := Array.replicate 1029 none
  statics := none }

def pool17 : Array CpInfo := pool [(2, .class_ 4), (1, u "java/lang/Object"), (0, u "<init>"), (0, u "()V"), (1, .class_ 10), (1, u "java/lang/System"), (0, u "allowSecurityManager"), (0, u "I"), (16, u "cons"), (0, u "Ljava/io/Console;"), (77, .class_ 110), (1, u "java/lang/System$CallersHolder"), (43, u "initialErrStream"), (0, u "Ljava/io/PrintStream;"), (19, u "security"), (0, u "Ljava/lang/SecurityManager;"), (31, .class_ 209), (0, u "java/lang/System$1"), (7, u "props"), (0, u "Ljava/util/Properties;"), (2, u "lineSeparator"), (0, u "Ljava/lang/String;"), (96, .class_ 321), (1, u "java/lang/System$LoggerFinder"), (5, .class_ 328), (0, u "java/lang/System$Logger"), (67, u "err"), (2, u "out"), (91, u "notSupportedJnuEncoding"), (15, u "in"), (17, u "initialIn"), (0, u "Ljava/io/InputStream;"), (35, u "bootLayer"), (0, u "Ljava/lang/ModuleLayer;"), (99, .class_ 664), (0, u "java/lang/System$2"), (9, u "NEVER"), (2, u "MAYBE"), (49, u "arraycopy"), (0, u "(Ljava/lang/Object;ILjava/lang/Object;II)V"), (72, .class_ 802), (0, u "java/lang/System$Logger$Level")] 31

def k17m0 : Method := { name := "<init>", desc := "()V", sig := { parameters := [], returnType := none }, accessFlags := 2, code := none }
def k17m1 : Method := { name := "arraycopy", desc := "(Ljava/lang/Object;ILjava/lang/Object;II)V", sig := { parameters := [(.object "java/lang/Object"), .int, (.object "java/lang/Object"), .int, .int], returnType := none }, accessFlags := 265, code := none }
/-- java/lang/System -/
def k17 : Class := { plain "java/lang/System" (some 0) with
  accessFlags := 49
  interfaces := #[]
  cf := some (fileOf pool17 8 #[.nestMembers #[319, 327, 801, 108, 663, 208]] #[{ accessFlags := 2, nameIndex := 5, descriptorIndex := 6, attributes := #[] }, { accessFlags := 265, nameIndex := 727, descriptorIndex := 728, attributes := #[] }] 49 2 #[] #[{ accessFlags := 25, nameIndex := 507, descriptorIndex := 526, attributes := #[] }, { accessFlags := 25, nameIndex := 399, descriptorIndex := 155, attributes := #[] }, { accessFlags := 25, nameIndex := 396, descriptorIndex := 155, attributes := #[] }, { accessFlags := 10, nameIndex := 525, descriptorIndex := 526, attributes := #[] }, { accessFlags := 26, nameIndex := 674, descriptorIndex := 12, attributes := #[] }, { accessFlags := 26, nameIndex := 677, descriptorIndex := 12, attributes := #[] }, { accessFlags := 10, nameIndex := 11, descriptorIndex := 12, attributes := #[] }, { accessFlags := 74, nameIndex := 175, descriptorIndex := 176, attributes := #[] }, { accessFlags := 10, nameIndex := 491, descriptorIndex := 222, attributes := #[] }, { accessFlags := 74, nameIndex := 29, descriptorIndex := 30, attributes := #[] }, { accessFlags := 74, nameIndex := 154, descriptorIndex := 155, attributes := #[] }, { accessFlags := 10, nameIndex := 217, descriptorIndex := 218, attributes := #[] }, { accessFlags := 10, nameIndex := 221, descriptorIndex := 222, attributes := #[] }, { accessFlags := 8, nameIndex := 562, descriptorIndex := 563, attributes := #[] }])
  fields := #[{ name := "in", type := (.object "java/io/InputStream"), accessFlags := 25, slot := 0, constantValue := 0 }, { name := "out", type := (.object "java/io/PrintStream"), accessFlags := 25, slot := 1, constantValue := 0 }, { name := "err", type := (.object "java/io/PrintStream"), accessFlags := 25, slot := 2, constantValue := 0 }, { name := "initialIn", type := (.object "java/io/InputStream"), accessFlags := 10, slot := 3, constantValue := 0 }, { name := "NEVER", type := .int, accessFlags := 26, slot := 4, constantValue := 0 }, { name := "MAYBE", type := .int, accessFlags := 26, slot := 5, constantValue := 0 }, { name := "allowSecurityManager", type := .int, accessFlags := 10, slot := 6, constantValue := 0 }, { name := "security", type := (.object "java/lang/SecurityManager"), accessFlags := 74, slot := 7, constantValue := 0 }, { name := "notSupportedJnuEncoding", type := (.object "java/lang/String"), accessFlags := 10, slot := 8, constantValue := 0 }, { name := "cons", type := (.object "java/io/Console"), accessFlags := 74, slot := 9, constantValue := 0 }, { name := "initialErrStream", type := (.object "java/io/PrintStream"), accessFlags := 74, slot := 10, constantValue := 0 }, { name := "props", type := (.object "java/util/Properties"), accessFlags := 10, slot := 11, constantValue := 0 }, { name := "lineSeparator", type := (.object "java/lang/String"), accessFlags := 10, slot := 12, constantValue := 0 }, { name := "bootLayer", type := (.object "java/lang/ModuleLayer"), accessFlags := 8, slot := 13, constantValue := 0 }]
  methods := #[k17m0, k17m1]
  instanceTypes := #[]
  staticTypes := #[(.object "java/io/InputStream"), (.object "java/io/PrintStream"), (.object "java/io/PrintStream"), (.object "java/io/InputStream"), .int, .int, .int, (.object "java/lang/SecurityManager"), (.object "java/lang/String"), (.object "java/io/Console"), (.object "java/io/PrintStream"), (.object "java/util/Properties"), (.object "java/lang/String"), (.object "java/lang/ModuleLayer")]
  resolved := Array.replicate 834 none
  statics := none }

def pool18 : Array CpInfo := pool [(1, .class_ 2), (0, u "java/lang/String"), (1, .class_ 6), (1, u "java/lang/Object"), (0, u "<init>"), (0, u "()V"), (0, .methodref 1 10), (0, .nameAndType 11 12), (0, u "checkIndex"), (0, u "(II)V"), (1, .class_ 16), (1, u "java/lang/StringLatin1"), (36, u "([BI)C"), (36, u "canEncode"), (14, u "(C)Z"), (15, u "$assertionsDisabled"), (0, u "Z"), (98, .class_ 223), (1, u "java/lang/StringLatin1$LinesSpliterator"), (28, u "charAt"), (28, u "equals"), (0, u "([B[B)Z"), (97, u "toBytes"), (1, u "(C)[B"), (7, .class_ 391), (0, u "java/lang/StringLatin1$CharsSpliterator")] 3

def k18m0 : Method := { name := "<init>", desc := "()V", sig := { parameters := [], returnType := none }, accessFlags := 0, code := none }
def k18c1 : Code := { maxStack := 2, maxLocals := 2, code := jdk_43_method_2_code, exceptionTable := #[], attributes := #[] }
def k18m1 : Method := { name := "charAt", desc := "([BI)C", sig := { parameters := [(.array .byte), .int], returnType := some .char }, accessFlags := 9, code := some k18c1 }
def k18c2 : Code := { maxStack := 2, maxLocals := 1, code := jdk_43_method_3_code, exceptionTable := #[], attributes := #[] }
def k18m2 : Method := { name := "canEncode", desc := "(C)Z", sig := { parameters := [.char], returnType := some .boolean }, accessFlags := 9, code := some k18c2 }
def k18c3 : Code := { maxStack := 3, maxLocals := 3, code := jdk_43_method_13_code, exceptionTable := #[], attributes := #[] }
def k18m3 : Method := { name := "equals", desc := "([B[B)Z", sig := { parameters := [(.array .byte), (.array .byte)], returnType := some .boolean }, accessFlags := 9, code := some k18c3 }
def k18c4 : Code := { maxStack := 4, maxLocals := 1, code := jdk_43_method_46_code, exceptionTable := #[], attributes := #[] }
def k18m4 : Method := { name := "toBytes", desc := "(C)[B", sig := { parameters := [.char], returnType := some (.array .byte) }, accessFlags := 9, code := some k18c4 }
/-- java/lang/StringLatin1 -/
def k18 : Class := { plain "java/lang/StringLatin1" (some 0) with
  accessFlags := 48
  interfaces := #[]
  cf := some (fileOf pool18 14 #[.nestMembers #[390, 221]] #[{ accessFlags := 0, nameIndex := 7, descriptorIndex := 8, attributes := #[] }, { accessFlags := 9, nameIndex := 252, descriptorIndex := 53, attributes := #[] }, { accessFlags := 9, nameIndex := 90, descriptorIndex := 105, attributes := #[] }, { accessFlags := 9, nameIndex := 281, descriptorIndex := 282, attributes := #[] }, { accessFlags := 9, nameIndex := 380, descriptorIndex := 382, attributes := #[] }] 48 4 #[] #[{ accessFlags := 4120, nameIndex := 121, descriptorIndex := 122, attributes := #[] }])
  fields := #[{ name := "$assertionsDisabled", type := .boolean, accessFlags := 4120, slot := 0, constantValue := 0 }]
  methods := #[k18m0, k18m1, k18m2, k18m3, k18m4]
  instanceTypes := #[]
  staticTypes := #[.boolean]
  resolved := Array.replicate 395 none
  statics := none }

def pool19 : Array CpInfo := pool [(2, .class_ 4), (1, u "java/lang/Object"), (0, u "<init>"), (0, u "()V"), (17, .class_ 26), (1, u "jdk/internal/util/Preconditions"), (6, u "checkIndex"), (21, .class_ 56), (0, u "jdk/internal/util/Preconditions$4"), (57, .class_ 115), (0, u "jdk/internal/util/Preconditions$1"), (7, u "SIOOBE_FORMATTER"), (0, u "Ljava/util/function/BiFunction;"), (0, .class_ 126), (0, u "jdk/internal/util/Preconditions$2"), (3, u "AIOOBE_FORMATTER"), (0, .class_ 132), (0, u "jdk/internal/util/Preconditions$3"), (3, u "IOOBE_FORMATTER"), (41, u "(IILjava/util/function/BiFunction;)I")] 15

def k19m0 : Method := { name := "<init>", desc := "()V", sig := { parameters := [], returnType := none }, accessFlags := 1, code := none }
def k19c1 : Code := { maxStack := 3, maxLocals := 3, code := jdk_41_method_11_code, exceptionTable := #[], attributes := #[] }
def k19m1 : Method := { name := "checkIndex", desc := "(IILjava/util/function/BiFunction;)I", sig := { parameters := [.int, .int, (.object "java/util/function/BiFunction")], returnType := some .int }, accessFlags := 9, code := some k19c1 }
/-- jdk/internal/util/Preconditions -/
def k19 : Class := { plain "jdk/internal/util/Preconditions" (some 0) with
  accessFlags := 33
  interfaces := #[]
  cf := some (fileOf pool19 24 #[.nestMembers #[55, 131, 125, 114]] #[{ accessFlags := 1, nameIndex := 5, descriptorIndex := 6, attributes := #[] }, { accessFlags := 9, nameIndex := 33, descriptorIndex := 178, attributes := #[] }] 33 2 #[] #[{ accessFlags := 25, nameIndex := 123, descriptorIndex := 124, attributes := #[] }, { accessFlags := 25, nameIndex := 130, descriptorIndex := 124, attributes := #[] }, { accessFlags := 25, nameIndex := 136, descriptorIndex := 124, attributes := #[] }])
  fields := #[{ name := "SIOOBE_FORMATTER", type := (.object "java/util/function/BiFunction"), accessFlags := 25, slot := 0, constantValue := 0 }, { name := "AIOOBE_FORMATTER", type := (.object "java/util/function/BiFunction"), accessFlags := 25, slot := 1, constantValue := 0 }, { name := "IOOBE_FORMATTER", type := (.object "java/util/function/BiFunction"), accessFlags := 25, slot := 2, constantValue := 0 }]
  methods := #[k19m0, k19m1]
  instanceTypes := #[]
  staticTypes := #[(.object "java/util/function/BiFunction"), (.object "java/util/function/BiFunction"), (.object "java/util/function/BiFunction")]
  resolved := Array.replicate 194 none
  statics := some 2 }

def pool20 : Array CpInfo := pool [(6, .class_ 8), (1, u "java/lang/Object"), (0, u "<init>"), (0, u "()V"), (1, .class_ 14), (1, u "java/lang/StringUTF16"), (31, u "$assertionsDisabled"), (0, u "Z"), (13, u "HI_BYTE_SHIFT"), (0, u "I"), (2, u "LO_BYTE_SHIFT"), (49, .methodref 12 116), (0, .nameAndType 117 118), (0, u "compress"), (0, u "([CI[BII)I"), (3, u "([CII)[B"), (138, u "coderFromArrayLen"), (0, u "([BI)B"), (106, .class_ 371), (1, u "java/lang/StringUTF16$LinesSpliterator"), (58, u "MAX_LENGTH"), (196, .class_ 628), (0, u "java/lang/StringUTF16$CodePointsSpliterator"), (0, .class_ 630), (0, u "java/lang/StringUTF16$CharsSpliterator")] 4

def k20m0 : Method := { name := "<init>", desc := "()V", sig := { parameters := [], returnType := none }, accessFlags := 0, code := none }
def k20c1 : Code := { maxStack := 2, maxLocals := 2, code := jdk_52_method_15_code, exceptionTable := #[], attributes := #[] }
def k20m1 : Method := { name := "coderFromArrayLen", desc := "([BI)B", sig := { parameters := [(.array .byte), .int], returnType := some .byte }, accessFlags := 8, code := some k20c1 }
def k20c2 : Code := { maxStack := 5, maxLocals := 6, code := jdk_52_method_16_code, exceptionTable := #[], attributes := #[] }
def k20m2 : Method := { name := "compress", desc := "([CII)[B", sig := { parameters := [(.array .char), .int, .int], returnType := some (.array .byte) }, accessFlags := 9, code := some k20c2 }
def k20c3 : Code := { maxStack := 3, maxLocals := 7, code := jdk_52_method_21_code, exceptionTable := #[], attributes := #[] }
def k20m3 : Method := { name := "compress", desc := "([CI[BII)I", sig := { parameters := [(.array .char), .int, (.array .byte), .int, .int], returnType := some .int }, accessFlags := 9, code := some k20c3 }
/-- java/lang/StringUTF16 -/
def k20 : Class := { plain "java/lang/StringUTF16" (some 0) with
  accessFlags := 48
  interfaces := #[]
  cf := some (fileOf pool20 12 #[.nestMembers #[627, 629, 369]] #[{ accessFlags := 0, nameIndex := 9, descriptorIndex := 10, attributes := #[] }, { accessFlags := 8, nameIndex := 261, descriptorIndex := 262, attributes := #[] }, { accessFlags := 9, nameIndex := 117, descriptorIndex := 122, attributes := #[] }, { accessFlags := 9, nameIndex := 117, descriptorIndex := 118, attributes := #[] }] 48 6 #[] #[{ accessFlags := 26, nameIndex := 61, descriptorIndex := 62, attributes := #[] }, { accessFlags := 26, nameIndex := 65, descriptorIndex := 62, attributes := #[] }, { accessFlags := 24, nameIndex := 430, descriptorIndex := 62, attributes := #[] }, { accessFlags := 4120, nameIndex := 46, descriptorIndex := 47, attributes := #[] }])
  fields := #[{ name := "HI_BYTE_SHIFT", type := .int, accessFlags := 26, slot := 0, constantValue := 0 }, { name := "LO_BYTE_SHIFT", type := .int, accessFlags := 26, slot := 1, constantValue := 0 }, { name := "MAX_LENGTH", type := .int, accessFlags := 24, slot := 2, constantValue := 0 }, { name := "$assertionsDisabled", type := .boolean, accessFlags := 4120, slot := 3, constantValue := 0 }]
  methods := #[k20m0, k20m1, k20m2, k20m3]
  instanceTypes := #[]
  staticTypes := #[.int, .int, .int, .boolean]
  resolved := Array.replicate 635 none
  statics := none }

def pool21 : Array CpInfo := pool [(1, .class_ 2), (0, u "java/lang/Cloneable"), (0, .class_ 4), (0, u "java/lang/Object")] 2

/-- java/lang/Cloneable -/
def k21 : Class := { plain "java/lang/Cloneable" (some 0) with
  accessFlags := 1537
  interfaces := #[]
  cf := some (fileOf pool21 1 #[] #[] 1537 3 #[] #[])
  fields := #[]
  methods := #[]
  instanceTypes := #[]
  staticTypes := #[]
  resolved := Array.replicate 7 none
  statics := none }

def pool22 : Array CpInfo := pool [(2, .class_ 4), (1, u "java/lang/Object"), (0, u "<init>"), (0, u "()V"), (12, .class_ 20), (0, u "java/util/Collections"), (63, u "r"), (0, u "Ljava/util/Random;"), (80, .class_ 167), (0, u "java/util/Collections$UnmodifiableCollection"), (6, .class_ 175), (0, u "java/util/Collections$UnmodifiableSequencedCollection"), (6, .class_ 183), (0, u "java/util/Collections$UnmodifiableSet"), (6, .class_ 191), (0, u "java/util/Collections$UnmodifiableSequencedSet"), (6, .class_ 199), (0, u "java/util/Collections$UnmodifiableSortedSet"), (6, .class_ 207), (0, u "java/util/Collections$UnmodifiableNavigableSet"), (4, .class_ 213), (0, u "java/util/Collections$UnmodifiableList"), (1, .class_ 216), (0, u "java/util/Collections$UnmodifiableRandomAccessList"), (6, .class_ 224), (0, u "java/util/Collections$UnmodifiableMap"), (6, .class_ 232), (0, u "java/util/Collections$UnmodifiableSequencedMap"), (4, .class_ 238), (0, u "java/util/Collections$UnmodifiableSortedMap"), (6, .class_ 246), (0, u "java/util/Collections$UnmodifiableNavigableMap"), (3, .class_ 251), (0, u "java/util/Collections$SynchronizedCollection"), (4, .class_ 257), (0, u "java/util/Collections$SynchronizedSet"), (4, .class_ 263), (0, u "java/util/Collections$SynchronizedSortedSet"), (1, .class_ 266), (0, u "java/util/Collections$SynchronizedNavigableSet"), (1, .class_ 269), (0, u "java/util/Collections$SynchronizedRandomAccessList"), (1, .class_ 272), (0, u "java/util/Collections$SynchronizedList"), (5, .class_ 279), (0, u "java/util/Collections$SynchronizedMap"), (1, .class_ 282), (0, u "java/util/Collections$SynchronizedSortedMap"), (1, .class_ 285), (0, u "java/util/Collections$SynchronizedNavigableMap"), (1, .class_ 288), (0, u "java/util/Collections$CheckedCollection"), (11, .class_ 301), (0, u "java/util/Collections$CheckedQueue"), (3, .class_ 306), (0, u "java/util/Collections$CheckedSet"), (3, .class_ 311), (0, u "java/util/Collections$CheckedSortedSet"), (3, .class_ 316), (0, u "java/util/Collections$CheckedNavigableSet"), (3, .class_ 321), (0, u "java/util/Collections$CheckedRandomAccessList"), (3, .class_ 326), (0, u "java/util/Collections$CheckedList"), (1, .class_ 329), (0, u "java/util/Collections$CheckedMap"), (3, .class_ 334), (0, u "java/util/Collections$CheckedSortedMap"), (3, .class_ 339), (0, u "java/util/Collections$CheckedNavigableMap"), (4, .class_ 346), (1, u "java/util/Collections$EmptyIterator"), (3, .class_ 352), (1, u "java/util/Collections$EmptyListIterator"), (2, .class_ 357), (1, u "java/util/Collections$EmptyEnumeration"), (4, u "EMPTY_SET"), (0, u "Ljava/util/Set;"), (6, u "EMPTY_LIST"), (0, u "Ljava/util/List;"), (2, u "EMPTY_MAP"), (0, u "Ljava/util/Map;"), (4, .class_ 381), (0, u "java/util/Collections$SingletonSet"), (2, .class_ 385), (0, u "java/util/Collections$1"), (1, .class_ 388), (0, u "java/util/Collections$2"), (1, .class_ 391), (0, u "java/util/Collections$SingletonList"), (1, .class_ 394), (0, u "java/util/Collections$SingletonMap"), (22, .class_ 418), (0, u "java/util/Collections$CopiesList"), (4, .class_ 425), (1, u "java/util/Collections$ReverseComparator"), (8, .class_ 435), (0, u "java/util/Collections$ReverseComparator2"), (6, .class_ 443), (0, u "java/util/Collections$3"), (25, .class_ 470), (0, u "java/util/Collections$SetFromMap"), (2, .class_ 474), (0, u "java/util/Collections$SequencedSetFromMap"), (3, .class_ 479), (0, u "java/util/Collections$AsLIFOQueue"), (11, .class_ 492), (0, u "java/util/Collections$EmptySet"), (1, .class_ 495), (0, u "java/util/Collections$EmptyList"), (1, .class_ 498), (0, u "java/util/Collections$EmptyMap"), (1, u "BINARYSEARCH_THRESHOLD"), (0, u "I"), (2, u "REVERSE_THRESHOLD"), (1, u "SHUFFLE_THRESHOLD"), (1, u "FILL_THRESHOLD"), (1, u "ROTATE_THRESHOLD"), (1, u "COPY_THRESHOLD"), (1, u "REPLACEALL_THRESHOLD"), (1, u "INDEXOFSUBLIST_THRESHOLD"), (333, .class_ 851), (0, u "java/util/Collections$CheckedMap$CheckedEntrySet"), (0, .class_ 853), (0, u "java/util/Collections$CheckedMap$CheckedEntrySet$CheckedEntry"), (0, .class_ 855), (0, u "java/util/Collections$CheckedMap$CheckedEntrySet$1"), (0, .class_ 857), (0, u "java/util/Collections$CheckedList$1"), (0, .class_ 859), (0, u "java/util/Collections$CheckedCollection$1"), (0, .class_ 861), (0, u "java/util/Collections$UnmodifiableNavigableMap$EmptyNavigableMap"), (0, .class_ 863), (0, u "java/util/Collections$UnmodifiableMap$UnmodifiableEntrySet"), (0, .class_ 865), (0, u "java/util/Collections$UnmodifiableMap$UnmodifiableEntrySet$UnmodifiableEntry"), (0, .class_ 867), (0, u "java/util/Collections$UnmodifiableMap$UnmodifiableEntrySet$UnmodifiableEntrySetSpliterator"), (0, .class_ 869), (0, u "java/util/Collections$UnmodifiableMap$UnmodifiableEntrySet$1"), (0, .class_ 871), (0, u "java/util/Collections$UnmodifiableList$1"), (0, .class_ 873), (0, u "java/util/Collections$UnmodifiableNavigableSet$EmptyNavigableSet"), (0, .class_ 875), (0, u "java/util/Collections$UnmodifiableCollection$1")] 57

def k22m0 : Method := { name := "<init>", desc := "()V", sig := { parameters := [], returnType := none }, accessFlags := 2, code := none }
/-- java/util/Collections -/
def k22 : Class := { plain "java/util/Collections" (some 0) with
  accessFlags := 33
  interfaces := #[]
  cf := some (fileOf pool22 19 #[.nestMembers #[478, 473, 469, 434, 423, 417, 393, 390, 380, 497, 494, 491, 355, 350, 344, 338, 333, 328, 850, 852, 854, 320, 325, 856, 315, 310, 305, 300, 287, 858, 284, 281, 278, 268, 271, 265, 262, 256, 250, 245, 860, 237, 231, 223, 862, 864, 866, 868, 215, 212, 870, 206, 872, 198, 190, 182, 174, 166, 874, 442, 387, 384]] #[{ accessFlags := 2, nameIndex := 5, descriptorIndex := 6, attributes := #[] }] 33 2 #[] #[{ accessFlags := 26, nameIndex := 500, descriptorIndex := 501, attributes := #[] }, { accessFlags := 26, nameIndex := 504, descriptorIndex := 501, attributes := #[] }, { accessFlags := 26, nameIndex := 506, descriptorIndex := 501, attributes := #[] }, { accessFlags := 26, nameIndex := 508, descriptorIndex := 501, attributes := #[] }, { accessFlags := 26, nameIndex := 510, descriptorIndex := 501, attributes := #[] }, { accessFlags := 26, nameIndex := 512, descriptorIndex := 501, attributes := #[] }, { accessFlags := 26, nameIndex := 514, descriptorIndex := 501, attributes := #[] }, { accessFlags := 26, nameIndex := 516, descriptorIndex := 501, attributes := #[] }, { accessFlags := 10, nameIndex := 84, descriptorIndex := 85, attributes := #[] }, { accessFlags := 25, nameIndex := 362, descriptorIndex := 363, attributes := #[] }, { accessFlags := 25, nameIndex := 370, descriptorIndex := 371, attributes := #[] }, { accessFlags := 25, nameIndex := 374, descriptorIndex := 375, attributes := #[] }])
  fields := #[{ name := "BINARYSEARCH_THRESHOLD", type := .int, accessFlags := 26, slot := 0, constantValue := 0 }, { name := "REVERSE_THRESHOLD", type := .int, accessFlags := 26, slot := 1, constantValue := 0 }, { name := "SHUFFLE_THRESHOLD", type := .int, accessFlags := 26, slot := 2, constantValue := 0 }, { name := "FILL_THRESHOLD", type := .int, accessFlags := 26, slot := 3, constantValue := 0 }, { name := "ROTATE_THRESHOLD", type := .int, accessFlags := 26, slot := 4, constantValue := 0 }, { name := "COPY_THRESHOLD", type := .int, accessFlags := 26, slot := 5, constantValue := 0 }, { name := "REPLACEALL_THRESHOLD", type := .int, accessFlags := 26, slot := 6, constantValue := 0 }, { name := "INDEXOFSUBLIST_THRESHOLD", type := .int, accessFlags := 26, slot := 7, constantValue := 0 }, { name := "r", type := (.object "java/util/Random"), accessFlags := 10, slot := 8, constantValue := 0 }, { name := "EMPTY_SET", type := (.object "java/util/Set"), accessFlags := 25, slot := 9, constantValue := 0 }, { name := "EMPTY_LIST", type := (.object "java/util/List"), accessFlags := 25, slot := 10, constantValue := 0 }, { name := "EMPTY_MAP", type := (.object "java/util/Map"), accessFlags := 25, slot := 11, constantValue := 0 }]
  methods := #[k22m0]
  instanceTypes := #[]
  staticTypes := #[.int, .int, .int, .int, .int, .int, .int, .int, (.object "java/util/Random"), (.object "java/util/Set"), (.object "java/util/List"), (.object "java/util/Map")]
  resolved := Array.replicate 933 none
  statics := some 3 }

def pool23 : Array CpInfo := pool [(8, .class_ 10), (1, u "java/lang/Iterable"), (24, .class_ 36), (0, u "java/lang/Object")] 25

/-- java/lang/Iterable -/
def k23 : Class := { plain "java/lang/Iterable" (some 0) with
  accessFlags := 1537
  interfaces := #[]
  cf := some (fileOf pool23 8 #[] #[] 1537 35 #[] #[])
  fields := #[]
  methods := #[]
  instanceTypes := #[]
  staticTypes := #[]
  resolved := Array.replicate 62 none
  statics := none }

def pool24 : Array CpInfo := pool [(10, .class_ 12), (1, u "java/util/Collection"), (47, .class_ 61), (0, u "java/lang/Object"), (0, .class_ 63), (0, u "java/lang/Iterable")] 51

/-- java/util/Collection -/
def k24 : Class := { plain "java/util/Collection" (some 0) with
  accessFlags := 1537
  interfaces := #[23]
  cf := some (fileOf pool24 10 #[] #[] 1537 60 #[62] #[])
  fields := #[]
  methods := #[]
  instanceTypes := #[]
  staticTypes := #[]
  resolved := Array.replicate 115 none
  statics := none }

def pool25 : Array CpInfo := pool [(2, .class_ 4), (1, u "java/lang/Object"), (0, u "<init>"), (0, u "()V"), (1, .class_ 10), (1, u "java/util/AbstractCollection"), (66, .class_ 78), (0, u "java/util/Collection")] 81

def k25m0 : Method := { name := "<init>", desc := "()V", sig := { parameters := [], returnType := none }, accessFlags := 4, code := none }
/-- java/util/AbstractCollection -/
def k25 : Class := { plain "java/util/AbstractCollection" (some 0) with
  accessFlags := 1057
  interfaces := #[24]
  cf := some (fileOf pool25 8 #[] #[{ accessFlags := 4, nameIndex := 5, descriptorIndex := 6, attributes := #[] }] 1057 2 #[77] #[])
  fields := #[]
  methods := #[k25m0]
  instanceTypes := #[]
  staticTypes := #[]
  resolved := Array.replicate 160 none
  statics := none }

def pool26 : Array CpInfo := pool [(8, .class_ 10), (1, u "java/util/SequencedCollection"), (15, .class_ 27), (0, u "java/lang/Object"), (0, .class_ 29), (0, u "java/util/Collection")] 27

/-- java/util/SequencedCollection -/
def k26 : Class := { plain "java/util/SequencedCollection" (some 0) with
  accessFlags := 1537
  interfaces := #[24]
  cf := some (fileOf pool26 8 #[] #[] 1537 26 #[28] #[])
  fields := #[]
  methods := #[]
  instanceTypes := #[]
  staticTypes := #[]
  resolved := Array.replicate 57 none
  statics := none }

def pool27 : Array CpInfo := pool [(8, .class_ 10), (1, u "java/util/List"), (92, .class_ 104), (0, u "java/lang/Object"), (15, .class_ 121), (0, u "java/util/SequencedCollection")] 129

/-- java/util/List -/
def k27 : Class := { plain "java/util/List" (some 0) with
  accessFlags := 1537
  interfaces := #[26]
  cf := some (fileOf pool27 8 #[] #[] 1537 103 #[120] #[])
  fields := #[]
  methods := #[]
  instanceTypes := #[]
  staticTypes := #[]
  resolved := Array.replicate 251 none
  statics := none }

def pool28 : Array CpInfo := pool [(2, .class_ 4), (1, u "java/util/AbstractCollection"), (0, u "<init>"), (0, u "()V"), (1, .class_ 10), (1, u "java/util/AbstractList"), (0, u "modCount"), (0, u "I"), (64, .class_ 78), (0, u "java/util/AbstractList$Itr"), (3, .class_ 83), (0, u "java/util/AbstractList$ListItr"), (9, .class_ 94), (0, u "java/util/AbstractList$RandomAccessSubList"), (3, .class_ 99), (0, u "java/util/AbstractList$SubList"), (33, .class_ 134), (0, u "java/util/List"), (73, .class_ 209), (0, u "java/util/AbstractList$SubList$1"), (0, .class_ 211), (0, u "java/util/AbstractList$RandomAccessSpliterator")] 6

def k28m0 : Method := { name := "<init>", desc := "()V", sig := { parameters := [], returnType := none }, accessFlags := 4, code := none }
/-- java/util/AbstractList -/
def k28 : Class := { plain "java/util/AbstractList" (some 25) with
  accessFlags := 1057
  interfaces := #[27]
  cf := some (fileOf pool28 8 #[.nestMembers #[93, 98, 208, 210, 82, 77]] #[{ accessFlags := 4, nameIndex := 5, descriptorIndex := 6, attributes := #[] }] 1057 2 #[133] #[{ accessFlags := 132, nameIndex := 11, descriptorIndex := 12, attributes := #[] }])
  fields := #[{ name := "modCount", type := .int, accessFlags := 132, slot := 0, constantValue := 0 }]
  methods := #[k28m0]
  instanceTypes := #[.int]
  staticTypes := #[]
  resolved := Array.replicate 218 none
  statics := none }

def pool29 : Array CpInfo := pool [(1, .class_ 2), (0, u "java/util/RandomAccess"), (0, .class_ 4), (0, u "java/lang/Object")] 2

/-- java/util/RandomAccess -/
def k29 : Class := { plain "java/util/RandomAccess" (some 0) with
  accessFlags := 1537
  interfaces := #[]
  cf := some (fileOf pool29 1 #[] #[] 1537 3 #[] #[])
  fields := #[]
  methods := #[]
  instanceTypes := #[]
  staticTypes := #[]
  resolved := Array.replicate 7 none
  statics := none }

def pool30 : Array CpInfo := pool [(2, .class_ 4), (1, u "java/util/AbstractList"), (0, u "<init>"), (0, u "()V"), (1, .class_ 10), (1, u "java/util/Collections"), (54, .class_ 66), (0, u "java/util/Collections$EmptyList"), (0, .class_ 68), (0, u "java/util/RandomAccess"), (0, .class_ 70), (0, u "java/io/Serializable"), (0, u "serialVersionUID"), (0, u "J")] 77

def k30m0 : Method := { name := "<init>", desc := "()V", sig := { parameters := [], returnType := none }, accessFlags := 2, code := none }
/-- java/util/Collections$EmptyList -/
def k30 : Class := { plain "java/util/Collections$EmptyList" (some 28) with
  accessFlags := 32
  interfaces := #[29, 2]
  cf := some (fileOf pool30 65 #[.nestHost 8] #[{ accessFlags := 2, nameIndex := 5, descriptorIndex := 6, attributes := #[] }] 32 2 #[67, 69] #[{ accessFlags := 26, nameIndex := 71, descriptorIndex := 72, attributes := #[] }])
  fields := #[{ name := "serialVersionUID", type := .long, accessFlags := 26, slot := 0, constantValue := 0 }]
  methods := #[k30m0]
  instanceTypes := #[.int]
  staticTypes := #[.long]
  resolved := Array.replicate 150 none
  statics := none }

def pool31 : Array CpInfo := pool [(2, .class_ 4), (1, u "java/lang/StackTraceElement"), (0, u "<init>"), (2, .class_ 10), (1, u "java/lang/Object"), (0, u "()V"), (2, u "format"), (0, u "B"), (2, u "classLoaderName"), (0, u "Ljava/lang/String;"), (2, u "moduleName"), (2, u "moduleVersion"), (12, u "declaringClass"), (4, u "methodName"), (2, u "fileName"), (2, u "lineNumber"), (0, u "I"), (65, u "declaringClassObject"), (0, u "Ljava/lang/Class;"), (33, .class_ 153), (1, u "java/lang/StackTraceElement$HashedModules"), (17, .class_ 172), (0, u "java/io/Serializable"), (0, u "NATIVE_METHOD"), (1, u "UNKNOWN_SOURCE"), (2, u "BUILTIN_CLASS_LOADER"), (1, u "JDK_NON_UPGRADEABLE_MODULE"), (1, u "serialVersionUID"), (0, u "J")] 51

def k31m0 : Method := { name := "<init>", desc := "()V", sig := { parameters := [], returnType := none }, accessFlags := 2, code := none }
/-- java/lang/StackTraceElement -/
def k31 : Class := { plain "java/lang/StackTraceElement" (some 0) with
  accessFlags := 49
  interfaces := #[2]
  cf := some (fileOf pool31 2 #[.nestMembers #[151]] #[{ accessFlags := 2, nameIndex := 5, descriptorIndex := 11, attributes := #[] }] 49 8 #[171] #[{ accessFlags := 26, nameIndex := 173, descriptorIndex := 19, attributes := #[] }, { accessFlags := 26, nameIndex := 175, descriptorIndex := 19, attributes := #[] }, { accessFlags := 130, nameIndex := 116, descriptorIndex := 117, attributes := #[] }, { accessFlags := 2, nameIndex := 18, descriptorIndex := 19, attributes := #[] }, { accessFlags := 2, nameIndex := 22, descriptorIndex := 19, attributes := #[] }, { accessFlags := 2, nameIndex := 25, descriptorIndex := 19, attributes := #[] }, { accessFlags := 2, nameIndex := 38, descriptorIndex := 19, attributes := #[] }, { accessFlags := 2, nameIndex := 43, descriptorIndex := 19, attributes := #[] }, { accessFlags := 2, nameIndex := 46, descriptorIndex := 19, attributes := #[] }, { accessFlags := 2, nameIndex := 49, descriptorIndex := 50, attributes := #[] }, { accessFlags := 2, nameIndex := 14, descriptorIndex := 15, attributes := #[] }, { accessFlags := 26, nameIndex := 178, descriptorIndex := 15, attributes := #[] }, { accessFlags := 26, nameIndex := 180, descriptorIndex := 15, attributes := #[] }, { accessFlags := 26, nameIndex := 182, descriptorIndex := 183, attributes := #[] }])
  fields := #[{ name := "NATIVE_METHOD", type := (.object "java/lang/String"), accessFlags := 26, slot := 0, constantValue := 0 }, { name := "UNKNOWN_SOURCE", type := (.object "java/lang/String"), accessFlags := 26, slot := 1, constantValue := 0 }, { name := "declaringClassObject", type := (.object "java/lang/Class"), accessFlags := 130, slot := 0, constantValue := 0 }, { name := "classLoaderName", type := (.object "java/lang/String"), accessFlags := 2, slot := 1, constantValue := 0 }, { name := "moduleName", type := (.object "java/lang/String"), accessFlags := 2, slot := 2, constantValue := 0 }, { name := "moduleVersion", type := (.object "java/lang/String"), accessFlags := 2, slot := 3, constantValue := 0 }, { name := "declaringClass", type := (.object "java/lang/String"), accessFlags := 2, slot := 4, constantValue := 0 }, { name := "methodName", type := (.object "java/lang/String"), accessFlags := 2, slot := 5, constantValue := 0 }, { name := "fileName", type := (.object "java/lang/String"), accessFlags := 2, slot := 6, constantValue := 0 }, { name := "lineNumber", type := .int, accessFlags := 2, slot := 7, constantValue := 0 }, { name := "format", type := .byte, accessFlags := 2, slot := 8, constantValue := 0 }, { name := "BUILTIN_CLASS_LOADER", type := .byte, accessFlags := 26, slot := 2, constantValue := 0 }, { name := "JDK_NON_UPGRADEABLE_MODULE", type := .byte, accessFlags := 26, slot := 3, constantValue := 0 }, { name := "serialVersionUID", type := .long, accessFlags := 26, slot := 4, constantValue := 0 }]
  methods := #[k31m0]
  instanceTypes := #[(.object "java/lang/Class"), (.object "java/lang/String"), (.object "java/lang/String"), (.object "java/lang/String"), (.object "java/lang/String"), (.object "java/lang/String"), (.object "java/lang/String"), .int, .byte]
  staticTypes := #[(.object "java/lang/String"), (.object "java/lang/String"), .byte, .byte, .long]
  resolved := Array.replicate 235 none
  statics := none }

/-- the primitive byte -/
def k32 : Class := { plain "byte" none with kind := .primitive 'B', accessFlags := 0x411 }
/-- [B -/
def k33 : Class := { plain "[B" (some 0) with kind := .array 32 .byte, interfaces := #[21, 2], accessFlags := 1041 }

/-- the primitive char -/
def k34 : Class := { plain "char" none with kind := .primitive 'C', accessFlags := 0x411 }
/-- [C -/
def k35 : Class := { plain "[C" (some 0) with kind := .array 34 .char, interfaces := #[21, 2], accessFlags := 1041 }

/-- the primitive int -/
def k36 : Class := { plain "int" none with kind := .primitive 'I', accessFlags := 0x411 }
/-- [I -/
def k37 : Class := { plain "[I" (some 0) with kind := .array 36 .int, interfaces := #[21, 2], accessFlags := 1041 }

/-- [Ljava/lang/StackTraceElement; -/
def k38 : Class := { plain "[Ljava/lang/StackTraceElement;" (some 0) with kind := .array 31 (.object "java/lang/StackTraceElement"), interfaces := #[21, 2], accessFlags := 1041 }

/-- [Ljava/lang/Throwable; -/
def k39 : Class := { plain "[Ljava/lang/Throwable;" (some 0) with kind := .array 8 (.object "java/lang/Throwable"), interfaces := #[21, 2], accessFlags := 1041 }

def heap : Heap := #[{ cls := 7, slots := #[.long 0, .int 1, .null, .int 0, .null, .int 0, .int 0], vm := .statics 7 },
  { cls := 8, slots := #[.long 0, .ref 4, .ref 5, .null, .null, .null, .null, .ref 6, .int 1], vm := .statics 8 },
  { cls := 19, slots := #[.null, .null, .null], vm := .statics 19 },
  { cls := 22, slots := #[.int 0, .int 0, .int 0, .int 0, .int 0, .int 0, .int 0, .int 0, .null, .null, .ref 5, .null], vm := .statics 22 },
  { cls := 38, slots := #[], vm := .none },
  { cls := 30, slots := #[.int 0], vm := .none },
  { cls := 39, slots := #[], vm := .none }]
def classes : Array Class := #[k0, k1, k2, k3, k4, k5, k6, k7, k8, k9, k10, k11, k12, k13, k14, k15, k16, k17, k18, k19, k20, k21, k22, k23, k24, k25, k26, k27, k28, k29, k30, k31, k32, k33, k34, k35, k36, k37, k38, k39]
def interned : List (Array UInt16 × Addr) := []
def slotsUsed : Nat := 32
def theMethod : MethodId := ⟨1, 1⟩
def args0 : Array Value := #[.int 5, .int 5]
def aboutOver (below : List Frame) : State where
  vm := { classes := classes, interned := interned.toArray }
  heap := heap
  slotsUsed := slotsUsed
  threads := #[{ frames := .invoking theMethod args0 :: below }]
def below0 : List Frame := [.native { method := ⟨0, 0⟩, args := #[] }]
def about1 : State := aboutOver below0
def p0 : Program := .bare "" "" ""
def e0 : Env := launch0.env 0 0 0
theorem w_frames : about1.frames = Frame.invoking theMethod args0 :: below0 := rfl
set_option maxRecDepth 65536 in
theorem w_args : argsFit about1.vm theMethod args0 = true := by decide +kernel
set_option maxRecDepth 65536 in
theorem w_heap : heapFits about1 = true := by decide +kernel
set_option maxRecDepth 65536 in
theorem w_runnable : about1.curStatus? = some .runnable := by decide +kernel
set_option maxRecDepth 65536 in
theorem w_alone : about1.alone = true := by decide +kernel
set_option maxRecDepth 65536 in
theorem w_named : about1.methodNamed? x = some theMethod := by decide +kernel
set_option maxRecDepth 65536 in
theorem w_hears : about1.hears theMethod below0 = true := by decide +kernel
set_option maxRecDepth 65536 in
theorem w_ripe : about1.ripe theMethod args0 below0 = true := by decide +kernel
theorem w_running : about1.status = .running := rfl
set_option maxRecDepth 65536 in
theorem w_room : about1.hasRoom e0.platform room_1 = true :=
  launch0.hasRoom_least _ room_1 (by decide +kernel) (by decide +kernel) (by decide +kernel) (by decide +kernel) (by decide +kernel) (by decide +kernel)
theorem allAtoms_all (ts : List Jvm.Cond) (a : Array Jvm.Value) (st : Jvm.State) : (allAtoms ts).before a st = ts.all (fun c => c.before a st) := by
  induction ts with
  | nil => rfl
  | cons c t ih =>
    show (Jvm.Cond.and c (allAtoms t)).before a st = _
    rw [Jvm.Cond.before_and, ih, List.all_cons]
def words1 : List Jvm.Cond := Jvm.Cond.code x code maxLocals ret :: tables_1
/-- a 'code' word, met by the world's own term for the bytes: nothing is compared byte by byte -/
theorem code_word {y : MethodName} {bytes : ByteArray} {mx : Nat} {rt : Option FieldType} {a : Array Value} {s : State} {m : MethodId} {meth : Method} {c : Code} (h1 : s.methodNamed? y = some m) (h2 : s.vm.method? m = some meth) (h3 : meth.code = some c) (h4 : c.code = bytes)
    (h5 : (c.maxLocals == mx && c.exceptionTable.isEmpty && decide (c.maxStack ≤ mostOperands) && decide (meth.sig.returnType = rt) && !meth.locks && decide (parseMethodDescriptor y.desc = some meth.sig)) = true) : (Jvm.Cond.code y bytes mx rt).before a s = true := by
  simp only [Bool.and_eq_true, beq_iff_eq, Bool.not_eq_true', decide_eq_true_eq] at h5
  obtain ⟨⟨⟨⟨⟨g1, g2⟩, g3⟩, g4⟩, g5⟩, g6⟩ := h5
  simp [Cond.before, Cond.holds, Cond.value, h1, h2, h3, h4, g1, g2, g3, g4, g5, g6]
def isCode : Jvm.Cond → Bool
  | .code _ _ _ _ => true
  | _ => false
theorem all_split {L : List Jvm.Cond} {P : Jvm.Cond → Bool} (h1 : L.all (fun c => isCode c || P c) = true) (h2 : ∀ c ∈ L.filter isCode, P c = true) : L.all P = true := by
  refine List.all_eq_true.mpr fun c hc => ?_
  have h := List.all_eq_true.mp h1 c hc
  rcases Bool.eq_false_or_eq_true (isCode c) with hi | hi
  · exact h2 c (List.mem_filter.mpr ⟨hc, hi⟩)
  · simpa [hi] using h
set_option maxRecDepth 65536 in
theorem w_c0 : (Jvm.Cond.code x code maxLocals ret).before args0 about1 = true := code_word (m := ⟨1, 1⟩) (meth := k1m1) (c := k1c1) (by decide +kernel) rfl rfl rfl (by decide +kernel)
set_option maxRecDepth 65536 in
theorem w_c1 : (Jvm.Cond.code ({ cls := "java/lang/String", name := "<init>", desc := "([C)V" } : Jvm.MethodName) jdk_42_method_3_code (2 : Nat) (Option.none : Option Jvm.ClassFile.FieldType)).before args0 about1 = true := code_word (m := ⟨7, 1⟩) (meth := k7m1) (c := k7c1) (by decide +kernel) rfl rfl rfl (by decide +kernel)
set_option maxRecDepth 65536 in
theorem w_c2 : (Jvm.Cond.code ({ cls := "java/lang/String", name := "<init>", desc := "([CIILjava/lang/Void;)V" } : Jvm.MethodName) jdk_42_method_149_code (6 : Nat) (Option.none : Option Jvm.ClassFile.FieldType)).before args0 about1 = true := code_word (m := ⟨7, 8⟩) (meth := k7m8) (c := k7c8) (by decide +kernel) rfl rfl rfl (by decide +kernel)
set_option maxRecDepth 65536 in
theorem w_c3 : (Jvm.Cond.code ({ cls := "java/lang/Object", name := "<init>", desc := "()V" } : Jvm.MethodName) object_method_1_code (1 : Nat) (Option.none : Option Jvm.ClassFile.FieldType)).before args0 about1 = true := code_word (m := ⟨0, 0⟩) (meth := k0m0) (c := k0c0) (by decide +kernel) rfl rfl rfl (by decide +kernel)
set_option maxRecDepth 65536 in
theorem w_c4 : (Jvm.Cond.code ({ cls := "com/example/lidmaat/lidmaat/http/Refusal", name := "malformed", desc := "(Ljava/lang/String;)Lcom/example/lidmaat/lidmaat/http/Refusal;" } : Jvm.MethodName) prog_19_method_2_code (1 : Nat) (Option.some (Jvm.ClassFile.FieldType.object "com/example/lidmaat/lidmaat/http/Refusal"))).before args0 about1 = true := code_word (m := ⟨10, 1⟩) (meth := k10m1) (c := k10c1) (by decide +kernel) rfl rfl rfl (by decide +kernel)
set_option maxRecDepth 65536 in
theorem w_c5 : (Jvm.Cond.code ({ cls := "java/lang/StringBuilder", name := "<init>", desc := "()V" } : Jvm.MethodName) jdk_67_method_1_code (1 : Nat) (Option.none : Option Jvm.ClassFile.FieldType)).before args0 about1 = true := code_word (m := ⟨13, 0⟩) (meth := k13m0) (c := k13c0) (by decide +kernel) rfl rfl rfl (by decide +kernel)
set_option maxRecDepth 65536 in
theorem w_c6 : (Jvm.Cond.code ({ cls := "java/lang/AbstractStringBuilder", name := "<init>", desc := "(I)V" } : Jvm.MethodName) jdk_68_method_2_code (2 : Nat) (Option.none : Option Jvm.ClassFile.FieldType)).before args0 about1 = true := code_word (m := ⟨12, 1⟩) (meth := k12m1) (c := k12c1) (by decide +kernel) rfl rfl rfl (by decide +kernel)
set_option maxRecDepth 65536 in
theorem w_c7 : (Jvm.Cond.code ({ cls := "java/lang/StringBuilder", name := "append", desc := "(Ljava/lang/String;)Ljava/lang/StringBuilder;" } : Jvm.MethodName) jdk_67_method_7_code (2 : Nat) (Option.some (Jvm.ClassFile.FieldType.object "java/lang/StringBuilder"))).before args0 about1 = true := code_word (m := ⟨13, 1⟩) (meth := k13m1) (c := k13c1) (by decide +kernel) rfl rfl rfl (by decide +kernel)
set_option maxRecDepth 65536 in
theorem w_c8 : (Jvm.Cond.code ({ cls := "java/lang/AbstractStringBuilder", name := "append", desc := "(Ljava/lang/String;)Ljava/lang/AbstractStringBuilder;" } : Jvm.MethodName) jdk_68_method_22_code (3 : Nat) (Option.some (Jvm.ClassFile.FieldType.object "java/lang/AbstractStringBuilder"))).before args0 about1 = true := code_word (m := ⟨12, 5⟩) (meth := k12m5) (c := k12c5) (by decide +kernel) rfl rfl rfl (by decide +kernel)
set_option maxRecDepth 65536 in
theorem w_c9 : (Jvm.Cond.code ({ cls := "java/lang/String", name := "length", desc := "()I" } : Jvm.MethodName) jdk_42_method_54_code (1 : Nat) (Option.some Jvm.ClassFile.FieldType.int)).before args0 about1 = true := code_word (m := ⟨7, 3⟩) (meth := k7m3) (c := k7c3) (by decide +kernel) rfl rfl rfl (by decide +kernel)
set_option maxRecDepth 65536 in
theorem w_c10 : (Jvm.Cond.code ({ cls := "java/lang/String", name := "coder", desc := "()B" } : Jvm.MethodName) jdk_42_method_152_code (1 : Nat) (Option.some Jvm.ClassFile.FieldType.byte)).before args0 about1 = true := code_word (m := ⟨7, 11⟩) (meth := k7m11) (c := k7c11) (by decide +kernel) rfl rfl rfl (by decide +kernel)
set_option maxRecDepth 65536 in
theorem w_c11 : (Jvm.Cond.code ({ cls := "java/lang/AbstractStringBuilder", name := "ensureCapacityInternal", desc := "(I)V" } : Jvm.MethodName) jdk_68_method_9_code (3 : Nat) (Option.none : Option Jvm.ClassFile.FieldType)).before args0 about1 = true := code_word (m := ⟨12, 3⟩) (meth := k12m3) (c := k12c3) (by decide +kernel) rfl rfl rfl (by decide +kernel)
set_option maxRecDepth 65536 in
theorem w_c12 : (Jvm.Cond.code ({ cls := "java/lang/AbstractStringBuilder", name := "newCapacity", desc := "(I)I" } : Jvm.MethodName) jdk_68_method_10_code (6 : Nat) (Option.some Jvm.ClassFile.FieldType.int)).before args0 about1 = true := code_word (m := ⟨12, 4⟩) (meth := k12m4) (c := k12c4) (by decide +kernel) rfl rfl rfl (by decide +kernel)
set_option maxRecDepth 65536 in
theorem w_c13 : (Jvm.Cond.code ({ cls := "jdk/internal/util/ArraysSupport", name := "newLength", desc := "(III)I" } : Jvm.MethodName) jdk_48_method_27_code (4 : Nat) (Option.some Jvm.ClassFile.FieldType.int)).before args0 about1 = true := code_word (m := ⟨14, 1⟩) (meth := k14m1) (c := k14c1) (by decide +kernel) rfl rfl rfl (by decide +kernel)
set_option maxRecDepth 65536 in
theorem w_c14 : (Jvm.Cond.code ({ cls := "java/lang/Math", name := "max", desc := "(II)I" } : Jvm.MethodName) jdk_29_method_65_code (2 : Nat) (Option.some Jvm.ClassFile.FieldType.int)).before args0 about1 = true := code_word (m := ⟨15, 1⟩) (meth := k15m1) (c := k15c1) (by decide +kernel) rfl rfl rfl (by decide +kernel)
set_option maxRecDepth 65536 in
theorem w_c15 : (Jvm.Cond.code ({ cls := "java/util/Arrays", name := "copyOf", desc := "([BI)[B" } : Jvm.MethodName) jdk_65_method_121_code (3 : Nat) (Option.some (Jvm.ClassFile.FieldType.array Jvm.ClassFile.FieldType.byte))).before args0 about1 = true := code_word (m := ⟨16, 1⟩) (meth := k16m1) (c := k16c1) (by decide +kernel) rfl rfl rfl (by decide +kernel)
set_option maxRecDepth 65536 in
theorem w_c16 : (Jvm.Cond.code ({ cls := "java/lang/Math", name := "min", desc := "(II)I" } : Jvm.MethodName) jdk_29_method_69_code (2 : Nat) (Option.some Jvm.ClassFile.FieldType.int)).before args0 about1 = true := code_word (m := ⟨15, 2⟩) (meth := k15m2) (c := k15c2) (by decide +kernel) rfl rfl rfl (by decide +kernel)
set_option maxRecDepth 65536 in
theorem w_c17 : (Jvm.Cond.code ({ cls := "java/lang/AbstractStringBuilder", name := "putStringAt", desc := "(ILjava/lang/String;)V" } : Jvm.MethodName) jdk_68_method_73_code (3 : Nat) (Option.none : Option Jvm.ClassFile.FieldType)).before args0 about1 = true := code_word (m := ⟨12, 9⟩) (meth := k12m9) (c := k12c9) (by decide +kernel) rfl rfl rfl (by decide +kernel)
set_option maxRecDepth 65536 in
theorem w_c18 : (Jvm.Cond.code ({ cls := "java/lang/AbstractStringBuilder", name := "inflateIfNeededFor", desc := "(Ljava/lang/String;)V" } : Jvm.MethodName) jdk_68_method_71_code (2 : Nat) (Option.none : Option Jvm.ClassFile.FieldType)).before args0 about1 = true := code_word (m := ⟨12, 8⟩) (meth := k12m8) (c := k12c8) (by decide +kernel) rfl rfl rfl (by decide +kernel)
set_option maxRecDepth 65536 in
theorem w_c19 : (Jvm.Cond.code ({ cls := "java/lang/String", name := "getBytes", desc := "([BIB)V" } : Jvm.MethodName) jdk_42_method_147_code (4 : Nat) (Option.none : Option Jvm.ClassFile.FieldType)).before args0 about1 = true := code_word (m := ⟨7, 7⟩) (meth := k7m7) (c := k7c7) (by decide +kernel) rfl rfl rfl (by decide +kernel)
set_option maxRecDepth 65536 in
theorem w_c20 : (Jvm.Cond.code ({ cls := "java/lang/StringBuilder", name := "toString", desc := "()Ljava/lang/String;" } : Jvm.MethodName) jdk_67_method_42_code (1 : Nat) (Option.some (Jvm.ClassFile.FieldType.object "java/lang/String"))).before args0 about1 = true := code_word (m := ⟨13, 2⟩) (meth := k13m2) (c := k13c2) (by decide +kernel) rfl rfl rfl (by decide +kernel)
set_option maxRecDepth 65536 in
theorem w_c21 : (Jvm.Cond.code ({ cls := "java/lang/String", name := "<init>", desc := "(Ljava/lang/StringBuilder;)V" } : Jvm.MethodName) jdk_42_method_53_code (2 : Nat) (Option.none : Option Jvm.ClassFile.FieldType)).before args0 about1 = true := code_word (m := ⟨7, 2⟩) (meth := k7m2) (c := k7c2) (by decide +kernel) rfl rfl rfl (by decide +kernel)
set_option maxRecDepth 65536 in
theorem w_c22 : (Jvm.Cond.code ({ cls := "java/lang/String", name := "<init>", desc := "(Ljava/lang/AbstractStringBuilder;Ljava/lang/Void;)V" } : Jvm.MethodName) jdk_42_method_150_code (5 : Nat) (Option.none : Option Jvm.ClassFile.FieldType)).before args0 about1 = true := code_word (m := ⟨7, 9⟩) (meth := k7m9) (c := k7c9) (by decide +kernel) rfl rfl rfl (by decide +kernel)
set_option maxRecDepth 65536 in
theorem w_c23 : (Jvm.Cond.code ({ cls := "java/lang/AbstractStringBuilder", name := "getValue", desc := "()[B" } : Jvm.MethodName) jdk_68_method_64_code (1 : Nat) (Option.some (Jvm.ClassFile.FieldType.array Jvm.ClassFile.FieldType.byte))).before args0 about1 = true := code_word (m := ⟨12, 6⟩) (meth := k12m6) (c := k12c6) (by decide +kernel) rfl rfl rfl (by decide +kernel)
set_option maxRecDepth 65536 in
theorem w_c24 : (Jvm.Cond.code ({ cls := "java/lang/StringBuilder", name := "length", desc := "()I" } : Jvm.MethodName) jdk_67_method_93_code (1 : Nat) (Option.some Jvm.ClassFile.FieldType.int)).before args0 about1 = true := code_word (m := ⟨13, 3⟩) (meth := k13m3) (c := k13c3) (by decide +kernel) rfl rfl rfl (by decide +kernel)
set_option maxRecDepth 65536 in
theorem w_c25 : (Jvm.Cond.code ({ cls := "java/lang/AbstractStringBuilder", name := "length", desc := "()I" } : Jvm.MethodName) jdk_68_method_6_code (1 : Nat) (Option.some Jvm.ClassFile.FieldType.int)).before args0 about1 = true := code_word (m := ⟨12, 2⟩) (meth := k12m2) (c := k12c2) (by decide +kernel) rfl rfl rfl (by decide +kernel)
set_option maxRecDepth 65536 in
theorem w_c26 : (Jvm.Cond.code ({ cls := "java/lang/AbstractStringBuilder", name := "isLatin1", desc := "()Z" } : Jvm.MethodName) jdk_68_method_68_code (1 : Nat) (Option.some Jvm.ClassFile.FieldType.boolean)).before args0 about1 = true := code_word (m := ⟨12, 7⟩) (meth := k12m7) (c := k12c7) (by decide +kernel) rfl rfl rfl (by decide +kernel)
set_option maxRecDepth 65536 in
theorem w_c27 : (Jvm.Cond.code ({ cls := "java/util/Arrays", name := "copyOfRange", desc := "([BII)[B" } : Jvm.MethodName) jdk_65_method_132_code (3 : Nat) (Option.some (Jvm.ClassFile.FieldType.array Jvm.ClassFile.FieldType.byte))).before args0 about1 = true := code_word (m := ⟨16, 3⟩) (meth := k16m3) (c := k16c3) (by decide +kernel) rfl rfl rfl (by decide +kernel)
set_option maxRecDepth 65536 in
theorem w_c28 : (Jvm.Cond.code ({ cls := "java/util/Arrays", name := "copyOfRangeByte", desc := "([BII)[B" } : Jvm.MethodName) jdk_65_method_133_code (5 : Nat) (Option.some (Jvm.ClassFile.FieldType.array Jvm.ClassFile.FieldType.byte))).before args0 about1 = true := code_word (m := ⟨16, 4⟩) (meth := k16m4) (c := k16c4) (by decide +kernel) rfl rfl rfl (by decide +kernel)
set_option maxRecDepth 65536 in
theorem w_c29 : (Jvm.Cond.code ({ cls := "java/util/Arrays", name := "checkLength", desc := "(II)V" } : Jvm.MethodName) jdk_65_method_131_code (2 : Nat) (Option.none : Option Jvm.ClassFile.FieldType)).before args0 about1 = true := code_word (m := ⟨16, 2⟩) (meth := k16m2) (c := k16c2) (by decide +kernel) rfl rfl rfl (by decide +kernel)
set_option maxRecDepth 65536 in
theorem w_c30 : (Jvm.Cond.code ({ cls := "com/example/lidmaat/lidmaat/http/Refusal", name := "<init>", desc := "(ILjava/lang/String;)V" } : Jvm.MethodName) prog_19_method_1_code (3 : Nat) (Option.none : Option Jvm.ClassFile.FieldType)).before args0 about1 = true := code_word (m := ⟨10, 0⟩) (meth := k10m0) (c := k10c0) (by decide +kernel) rfl rfl rfl (by decide +kernel)
set_option maxRecDepth 65536 in
theorem w_c31 : (Jvm.Cond.code ({ cls := "java/lang/Exception", name := "<init>", desc := "(Ljava/lang/String;Ljava/lang/Throwable;ZZ)V" } : Jvm.MethodName) jdk_59_method_5_code (5 : Nat) (Option.none : Option Jvm.ClassFile.FieldType)).before args0 about1 = true := code_word (m := ⟨9, 1⟩) (meth := k9m1) (c := k9c1) (by decide +kernel) rfl rfl rfl (by decide +kernel)
set_option maxRecDepth 65536 in
theorem w_c32 : (Jvm.Cond.code ({ cls := "java/lang/Throwable", name := "<init>", desc := "(Ljava/lang/String;Ljava/lang/Throwable;ZZ)V" } : Jvm.MethodName) jdk_78_method_5_code (5 : Nat) (Option.none : Option Jvm.ClassFile.FieldType)).before args0 about1 = true := code_word (m := ⟨8, 1⟩) (meth := k8m1) (c := k8c1) (by decide +kernel) rfl rfl rfl (by decide +kernel)
set_option maxRecDepth 65536 in
theorem w_c33 : (Jvm.Cond.code ({ cls := "com/example/lidmaat/lidmaat/http/Refusal", name := "status", desc := "()I" } : Jvm.MethodName) prog_19_method_6_code (1 : Nat) (Option.some Jvm.ClassFile.FieldType.int)).before args0 about1 = true := code_word (m := ⟨10, 2⟩) (meth := k10m2) (c := k10c2) (by decide +kernel) rfl rfl rfl (by decide +kernel)
set_option maxRecDepth 65536 in
theorem w_c34 : (Jvm.Cond.code ({ cls := "java/lang/Throwable", name := "getMessage", desc := "()Ljava/lang/String;" } : Jvm.MethodName) jdk_78_method_6_code (1 : Nat) (Option.some (Jvm.ClassFile.FieldType.object "java/lang/String"))).before args0 about1 = true := code_word (m := ⟨8, 2⟩) (meth := k8m2) (c := k8c2) (by decide +kernel) rfl rfl rfl (by decide +kernel)
set_option maxRecDepth 65536 in
theorem w_c35 : (Jvm.Cond.code ({ cls := "com/example/lidmaat/lidmaat/http/RefusalMalformedPinLaw", name := "prefix", desc := "(Ljava/lang/String;)Z" } : Jvm.MethodName) method_3_code (2 : Nat) (Option.some Jvm.ClassFile.FieldType.boolean)).before args0 about1 = true := code_word (m := ⟨1, 2⟩) (meth := k1m2) (c := k1c2) (by decide +kernel) rfl rfl rfl (by decide +kernel)
set_option maxRecDepth 65536 in
theorem w_c36 : (Jvm.Cond.code ({ cls := "java/lang/String", name := "charAt", desc := "(I)C" } : Jvm.MethodName) jdk_42_method_56_code (2 : Nat) (Option.some Jvm.ClassFile.FieldType.char)).before args0 about1 = true := code_word (m := ⟨7, 4⟩) (meth := k7m4) (c := k7c4) (by decide +kernel) rfl rfl rfl (by decide +kernel)
set_option maxRecDepth 65536 in
theorem w_c37 : (Jvm.Cond.code ({ cls := "java/lang/String", name := "isLatin1", desc := "()Z" } : Jvm.MethodName) jdk_42_method_154_code (1 : Nat) (Option.some Jvm.ClassFile.FieldType.boolean)).before args0 about1 = true := code_word (m := ⟨7, 12⟩) (meth := k7m12) (c := k7c12) (by decide +kernel) rfl rfl rfl (by decide +kernel)
set_option maxRecDepth 65536 in
theorem w_c38 : (Jvm.Cond.code ({ cls := "java/lang/StringLatin1", name := "charAt", desc := "([BI)C" } : Jvm.MethodName) jdk_43_method_2_code (2 : Nat) (Option.some Jvm.ClassFile.FieldType.char)).before args0 about1 = true := code_word (m := ⟨18, 1⟩) (meth := k18m1) (c := k18c1) (by decide +kernel) rfl rfl rfl (by decide +kernel)
set_option maxRecDepth 65536 in
theorem w_c39 : (Jvm.Cond.code ({ cls := "java/lang/String", name := "checkIndex", desc := "(II)V" } : Jvm.MethodName) jdk_42_method_155_code (2 : Nat) (Option.none : Option Jvm.ClassFile.FieldType)).before args0 about1 = true := code_word (m := ⟨7, 13⟩) (meth := k7m13) (c := k7c13) (by decide +kernel) rfl rfl rfl (by decide +kernel)
set_option maxRecDepth 65536 in
theorem w_c40 : (Jvm.Cond.code ({ cls := "jdk/internal/util/Preconditions", name := "checkIndex", desc := "(IILjava/util/function/BiFunction;)I" } : Jvm.MethodName) jdk_41_method_11_code (3 : Nat) (Option.some Jvm.ClassFile.FieldType.int)).before args0 about1 = true := code_word (m := ⟨19, 1⟩) (meth := k19m1) (c := k19c1) (by decide +kernel) rfl rfl rfl (by decide +kernel)
set_option maxRecDepth 65536 in
theorem w_c41 : (Jvm.Cond.code ({ cls := "java/lang/StringUTF16", name := "compress", desc := "([CII)[B" } : Jvm.MethodName) jdk_52_method_16_code (6 : Nat) (Option.some (Jvm.ClassFile.FieldType.array Jvm.ClassFile.FieldType.byte))).before args0 about1 = true := code_word (m := ⟨20, 2⟩) (meth := k20m2) (c := k20c2) (by decide +kernel) rfl rfl rfl (by decide +kernel)
set_option maxRecDepth 65536 in
theorem w_c42 : (Jvm.Cond.code ({ cls := "java/lang/StringUTF16", name := "compress", desc := "([CI[BII)I" } : Jvm.MethodName) jdk_52_method_21_code (7 : Nat) (Option.some Jvm.ClassFile.FieldType.int)).before args0 about1 = true := code_word (m := ⟨20, 3⟩) (meth := k20m3) (c := k20c3) (by decide +kernel) rfl rfl rfl (by decide +kernel)
set_option maxRecDepth 65536 in
theorem w_c43 : (Jvm.Cond.code ({ cls := "java/lang/StringUTF16", name := "coderFromArrayLen", desc := "([BI)B" } : Jvm.MethodName) jdk_52_method_15_code (2 : Nat) (Option.some Jvm.ClassFile.FieldType.byte)).before args0 about1 = true := code_word (m := ⟨20, 1⟩) (meth := k20m1) (c := k20c1) (by decide +kernel) rfl rfl rfl (by decide +kernel)
set_option maxRecDepth 65536 in
theorem w_c44 : (Jvm.Cond.code ({ cls := "java/lang/String", name := "equals", desc := "(Ljava/lang/Object;)Z" } : Jvm.MethodName) jdk_42_method_66_code (3 : Nat) (Option.some Jvm.ClassFile.FieldType.boolean)).before args0 about1 = true := code_word (m := ⟨7, 5⟩) (meth := k7m5) (c := k7c5) (by decide +kernel) rfl rfl rfl (by decide +kernel)
set_option maxRecDepth 65536 in
theorem w_c45 : (Jvm.Cond.code ({ cls := "java/lang/StringLatin1", name := "equals", desc := "([B[B)Z" } : Jvm.MethodName) jdk_43_method_13_code (3 : Nat) (Option.some Jvm.ClassFile.FieldType.boolean)).before args0 about1 = true := code_word (m := ⟨18, 3⟩) (meth := k18m3) (c := k18c3) (by decide +kernel) rfl rfl rfl (by decide +kernel)
set_option maxRecDepth 65536 in
theorem w_c46 : (Jvm.Cond.code ({ cls := "com/example/lidmaat/lidmaat/http/RefusalMalformedPinLaw", name := "suffix", desc := "(Ljava/lang/String;I)Z" } : Jvm.MethodName) method_4_code (3 : Nat) (Option.some Jvm.ClassFile.FieldType.boolean)).before args0 about1 = true := code_word (m := ⟨1, 3⟩) (meth := k1m3) (c := k1c3) (by decide +kernel) rfl rfl rfl (by decide +kernel)
set_option maxRecDepth 65536 in
theorem w_c47 : (Jvm.Cond.code ({ cls := "java/lang/String", name := "valueOf", desc := "(C)Ljava/lang/String;" } : Jvm.MethodName) jdk_42_method_139_code (1 : Nat) (Option.some (Jvm.ClassFile.FieldType.object "java/lang/String"))).before args0 about1 = true := code_word (m := ⟨7, 6⟩) (meth := k7m6) (c := k7c6) (by decide +kernel) rfl rfl rfl (by decide +kernel)
set_option maxRecDepth 65536 in
theorem w_c48 : (Jvm.Cond.code ({ cls := "java/lang/StringLatin1", name := "canEncode", desc := "(C)Z" } : Jvm.MethodName) jdk_43_method_3_code (1 : Nat) (Option.some Jvm.ClassFile.FieldType.boolean)).before args0 about1 = true := code_word (m := ⟨18, 2⟩) (meth := k18m2) (c := k18c2) (by decide +kernel) rfl rfl rfl (by decide +kernel)
set_option maxRecDepth 65536 in
theorem w_c49 : (Jvm.Cond.code ({ cls := "java/lang/StringLatin1", name := "toBytes", desc := "(C)[B" } : Jvm.MethodName) jdk_43_method_46_code (1 : Nat) (Option.some (Jvm.ClassFile.FieldType.array Jvm.ClassFile.FieldType.byte))).before args0 about1 = true := code_word (m := ⟨18, 4⟩) (meth := k18m4) (c := k18c4) (by decide +kernel) rfl rfl rfl (by decide +kernel)
set_option maxRecDepth 65536 in
theorem w_c50 : (Jvm.Cond.code ({ cls := "java/lang/String", name := "<init>", desc := "([BB)V" } : Jvm.MethodName) jdk_42_method_151_code (3 : Nat) (Option.none : Option Jvm.ClassFile.FieldType)).before args0 about1 = true := code_word (m := ⟨7, 10⟩) (meth := k7m10) (c := k7c10) (by decide +kernel) rfl rfl rfl (by decide +kernel)
def codes1 : List Jvm.Cond := [Jvm.Cond.code x code maxLocals ret, Jvm.Cond.code ({ cls := "java/lang/String", name := "<init>", desc := "([C)V" } : Jvm.MethodName) jdk_42_method_3_code (2 : Nat) (Option.none : Option Jvm.ClassFile.FieldType), Jvm.Cond.code ({ cls := "java/lang/String", name := "<init>", desc := "([CIILjava/lang/Void;)V" } : Jvm.MethodName) jdk_42_method_149_code (6 : Nat) (Option.none : Option Jvm.ClassFile.FieldType), Jvm.Cond.code ({ cls := "java/lang/Object", name := "<init>", desc := "()V" } : Jvm.MethodName) object_method_1_code (1 : Nat) (Option.none : Option Jvm.ClassFile.FieldType), Jvm.Cond.code ({ cls := "com/example/lidmaat/lidmaat/http/Refusal", name := "malformed", desc := "(Ljava/lang/String;)Lcom/example/lidmaat/lidmaat/http/Refusal;" } : Jvm.MethodName) prog_19_method_2_code (1 : Nat) (Option.some (Jvm.ClassFile.FieldType.object "com/example/lidmaat/lidmaat/http/Refusal")), Jvm.Cond.code ({ cls := "java/lang/StringBuilder", name := "<init>", desc := "()V" } : Jvm.MethodName) jdk_67_method_1_code (1 : Nat) (Option.none : Option Jvm.ClassFile.FieldType), Jvm.Cond.code ({ cls := "java/lang/AbstractStringBuilder", name := "<init>", desc := "(I)V" } : Jvm.MethodName) jdk_68_method_2_code (2 : Nat) (Option.none : Option Jvm.ClassFile.FieldType), Jvm.Cond.code ({ cls := "java/lang/StringBuilder", name := "append", desc := "(Ljava/lang/String;)Ljava/lang/StringBuilder;" } : Jvm.MethodName) jdk_67_method_7_code (2 : Nat) (Option.some (Jvm.ClassFile.FieldType.object "java/lang/StringBuilder")), Jvm.Cond.code ({ cls := "java/lang/AbstractStringBuilder", name := "append", desc := "(Ljava/lang/String;)Ljava/lang/AbstractStringBuilder;" } : Jvm.MethodName) jdk_68_method_22_code (3 : Nat) (Option.some (Jvm.ClassFile.FieldType.object "java/lang/AbstractStringBuilder")), Jvm.Cond.code ({ cls := "java/lang/String", name := "length", desc := "()I" } : Jvm.MethodName) jdk_42_method_54_code (1 : Nat) (Option.some Jvm.ClassFile.FieldType.int), Jvm.Cond.code ({ cls := "java/lang/String", name := "coder", desc := "()B" } : Jvm.MethodName) jdk_42_method_152_code (1 : Nat) (Option.some Jvm.ClassFile.FieldType.byte), Jvm.Cond.code ({ cls := "java/lang/AbstractStringBuilder", name := "ensureCapacityInternal", desc := "(I)V" } : Jvm.MethodName) jdk_68_method_9_code (3 : Nat) (Option.none : Option Jvm.ClassFile.FieldType), Jvm.Cond.code ({ cls := "java/lang/AbstractStringBuilder", name := "newCapacity", desc := "(I)I" } : Jvm.MethodName) jdk_68_method_10_code (6 : Nat) (Option.some Jvm.ClassFile.FieldType.int), Jvm.Cond.code ({ cls := "jdk/internal/util/ArraysSupport", name := "newLength", desc := "(III)I" } : Jvm.MethodName) jdk_48_method_27_code (4 : Nat) (Option.some Jvm.ClassFile.FieldType.int), Jvm.Cond.code ({ cls := "java/lang/Math", name := "max", desc := "(II)I" } : Jvm.MethodName) jdk_29_method_65_code (2 : Nat) (Option.some Jvm.ClassFile.FieldType.int), Jvm.Cond.code ({ cls := "java/util/Arrays", name := "copyOf", desc := "([BI)[B" } : Jvm.MethodName) jdk_65_method_121_code (3 : Nat) (Option.some (Jvm.ClassFile.FieldType.array Jvm.ClassFile.FieldType.byte)), Jvm.Cond.code ({ cls := "java/lang/Math", name := "min", desc := "(II)I" } : Jvm.MethodName) jdk_29_method_69_code (2 : Nat) (Option.some Jvm.ClassFile.FieldType.int), Jvm.Cond.code ({ cls := "java/lang/AbstractStringBuilder", name := "putStringAt", desc := "(ILjava/lang/String;)V" } : Jvm.MethodName) jdk_68_method_73_code (3 : Nat) (Option.none : Option Jvm.ClassFile.FieldType), Jvm.Cond.code ({ cls := "java/lang/AbstractStringBuilder", name := "inflateIfNeededFor", desc := "(Ljava/lang/String;)V" } : Jvm.MethodName) jdk_68_method_71_code (2 : Nat) (Option.none : Option Jvm.ClassFile.FieldType), Jvm.Cond.code ({ cls := "java/lang/String", name := "getBytes", desc := "([BIB)V" } : Jvm.MethodName) jdk_42_method_147_code (4 : Nat) (Option.none : Option Jvm.ClassFile.FieldType), Jvm.Cond.code ({ cls := "java/lang/StringBuilder", name := "toString", desc := "()Ljava/lang/String;" } : Jvm.MethodName) jdk_67_method_42_code (1 : Nat) (Option.some (Jvm.ClassFile.FieldType.object "java/lang/String")), Jvm.Cond.code ({ cls := "java/lang/String", name := "<init>", desc := "(Ljava/lang/StringBuilder;)V" } : Jvm.MethodName) jdk_42_method_53_code (2 : Nat) (Option.none : Option Jvm.ClassFile.FieldType), Jvm.Cond.code ({ cls := "java/lang/String", name := "<init>", desc := "(Ljava/lang/AbstractStringBuilder;Ljava/lang/Void;)V" } : Jvm.MethodName) jdk_42_method_150_code (5 : Nat) (Option.none : Option Jvm.ClassFile.FieldType), Jvm.Cond.code ({ cls := "java/lang/AbstractStringBuilder", name := "getValue", desc := "()[B" } : Jvm.MethodName) jdk_68_method_64_code (1 : Nat) (Option.some (Jvm.ClassFile.FieldType.array Jvm.ClassFile.FieldType.byte)), Jvm.Cond.code ({ cls := "java/lang/StringBuilder", name := "length", desc := "()I" } : Jvm.MethodName) jdk_67_method_93_code (1 : Nat) (Option.some Jvm.ClassFile.FieldType.int), Jvm.Cond.code ({ cls := "java/lang/AbstractStringBuilder", name := "length", desc := "()I" } : Jvm.MethodName) jdk_68_method_6_code (1 : Nat) (Option.some Jvm.ClassFile.FieldType.int), Jvm.Cond.code ({ cls := "java/lang/AbstractStringBuilder", name := "isLatin1", desc := "()Z" } : Jvm.MethodName) jdk_68_method_68_code (1 : Nat) (Option.some Jvm.ClassFile.FieldType.boolean), Jvm.Cond.code ({ cls := "java/util/Arrays", name := "copyOfRange", desc := "([BII)[B" } : Jvm.MethodName) jdk_65_method_132_code (3 : Nat) (Option.some (Jvm.ClassFile.FieldType.array Jvm.ClassFile.FieldType.byte)), Jvm.Cond.code ({ cls := "java/util/Arrays", name := "copyOfRangeByte", desc := "([BII)[B" } : Jvm.MethodName) jdk_65_method_133_code (5 : Nat) (Option.some (Jvm.ClassFile.FieldType.array Jvm.ClassFile.FieldType.byte)), Jvm.Cond.code ({ cls := "java/util/Arrays", name := "checkLength", desc := "(II)V" } : Jvm.MethodName) jdk_65_method_131_code (2 : Nat) (Option.none : Option Jvm.ClassFile.FieldType), Jvm.Cond.code ({ cls := "com/example/lidmaat/lidmaat/http/Refusal", name := "<init>", desc := "(ILjava/lang/String;)V" } : Jvm.MethodName) prog_19_method_1_code (3 : Nat) (Option.none : Option Jvm.ClassFile.FieldType), Jvm.Cond.code ({ cls := "java/lang/Exception", name := "<init>", desc := "(Ljava/lang/String;Ljava/lang/Throwable;ZZ)V" } : Jvm.MethodName) jdk_59_method_5_code (5 : Nat) (Option.none : Option Jvm.ClassFile.FieldType), Jvm.Cond.code ({ cls := "java/lang/Throwable", name := "<init>", desc := "(Ljava/lang/String;Ljava/lang/Throwable;ZZ)V" } : Jvm.MethodName) jdk_78_method_5_code (5 : Nat) (Option.none : Option Jvm.ClassFile.FieldType), Jvm.Cond.code ({ cls := "com/example/lidmaat/lidmaat/http/Refusal", name := "status", desc := "()I" } : Jvm.MethodName) prog_19_method_6_code (1 : Nat) (Option.some Jvm.ClassFile.FieldType.int), Jvm.Cond.code ({ cls := "java/lang/Throwable", name := "getMessage", desc := "()Ljava/lang/String;" } : Jvm.MethodName) jdk_78_method_6_code (1 : Nat) (Option.some (Jvm.ClassFile.FieldType.object "java/lang/String")), Jvm.Cond.code ({ cls := "com/example/lidmaat/lidmaat/http/RefusalMalformedPinLaw", name := "prefix", desc := "(Ljava/lang/String;)Z" } : Jvm.MethodName) method_3_code (2 : Nat) (Option.some Jvm.ClassFile.FieldType.boolean), Jvm.Cond.code ({ cls := "java/lang/String", name := "charAt", desc := "(I)C" } : Jvm.MethodName) jdk_42_method_56_code (2 : Nat) (Option.some Jvm.ClassFile.FieldType.char), Jvm.Cond.code ({ cls := "java/lang/String", name := "isLatin1", desc := "()Z" } : Jvm.MethodName) jdk_42_method_154_code (1 : Nat) (Option.some Jvm.ClassFile.FieldType.boolean), Jvm.Cond.code ({ cls := "java/lang/StringLatin1", name := "charAt", desc := "([BI)C" } : Jvm.MethodName) jdk_43_method_2_code (2 : Nat) (Option.some Jvm.ClassFile.FieldType.char), Jvm.Cond.code ({ cls := "java/lang/String", name := "checkIndex", desc := "(II)V" } : Jvm.MethodName) jdk_42_method_155_code (2 : Nat) (Option.none : Option Jvm.ClassFile.FieldType), Jvm.Cond.code ({ cls := "jdk/internal/util/Preconditions", name := "checkIndex", desc := "(IILjava/util/function/BiFunction;)I" } : Jvm.MethodName) jdk_41_method_11_code (3 : Nat) (Option.some Jvm.ClassFile.FieldType.int), Jvm.Cond.code ({ cls := "java/lang/StringUTF16", name := "compress", desc := "([CII)[B" } : Jvm.MethodName) jdk_52_method_16_code (6 : Nat) (Option.some (Jvm.ClassFile.FieldType.array Jvm.ClassFile.FieldType.byte)), Jvm.Cond.code ({ cls := "java/lang/StringUTF16", name := "compress", desc := "([CI[BII)I" } : Jvm.MethodName) jdk_52_method_21_code (7 : Nat) (Option.some Jvm.ClassFile.FieldType.int), Jvm.Cond.code ({ cls := "java/lang/StringUTF16", name := "coderFromArrayLen", desc := "([BI)B" } : Jvm.MethodName) jdk_52_method_15_code (2 : Nat) (Option.some Jvm.ClassFile.FieldType.byte), Jvm.Cond.code ({ cls := "java/lang/String", name := "equals", desc := "(Ljava/lang/Object;)Z" } : Jvm.MethodName) jdk_42_method_66_code (3 : Nat) (Option.some Jvm.ClassFile.FieldType.boolean), Jvm.Cond.code ({ cls := "java/lang/StringLatin1", name := "equals", desc := "([B[B)Z" } : Jvm.MethodName) jdk_43_method_13_code (3 : Nat) (Option.some Jvm.ClassFile.FieldType.boolean), Jvm.Cond.code ({ cls := "com/example/lidmaat/lidmaat/http/RefusalMalformedPinLaw", name := "suffix", desc := "(Ljava/lang/String;I)Z" } : Jvm.MethodName) method_4_code (3 : Nat) (Option.some Jvm.ClassFile.FieldType.boolean), Jvm.Cond.code ({ cls := "java/lang/String", name := "valueOf", desc := "(C)Ljava/lang/String;" } : Jvm.MethodName) jdk_42_method_139_code (1 : Nat) (Option.some (Jvm.ClassFile.FieldType.object "java/lang/String")), Jvm.Cond.code ({ cls := "java/lang/StringLatin1", name := "canEncode", desc := "(C)Z" } : Jvm.MethodName) jdk_43_method_3_code (1 : Nat) (Option.some Jvm.ClassFile.FieldType.boolean), Jvm.Cond.code ({ cls := "java/lang/StringLatin1", name := "toBytes", desc := "(C)[B" } : Jvm.MethodName) jdk_43_method_46_code (1 : Nat) (Option.some (Jvm.ClassFile.FieldType.array Jvm.ClassFile.FieldType.byte)), Jvm.Cond.code ({ cls := "java/lang/String", name := "<init>", desc := "([BB)V" } : Jvm.MethodName) jdk_42_method_151_code (3 : Nat) (Option.none : Option Jvm.ClassFile.FieldType)]
set_option maxRecDepth 65536 in
theorem codes_eq : words1.filter isCode = codes1 := rfl
theorem w_codes : ∀ c ∈ words1.filter isCode, c.before args0 about1 = true := by
  rw [codes_eq]
  intro c hc
  simp only [codes1, List.mem_cons, List.not_mem_nil, or_false] at hc
  rcases hc with rfl | rfl | rfl | rfl | rfl | rfl | rfl | rfl | rfl | rfl | rfl | rfl | rfl | rfl | rfl | rfl | rfl | rfl | rfl | rfl | rfl | rfl | rfl | rfl | rfl | rfl | rfl | rfl | rfl | rfl | rfl | rfl | rfl | rfl | rfl | rfl | rfl | rfl | rfl | rfl | rfl | rfl | rfl | rfl | rfl | rfl | rfl | rfl | rfl | rfl | rfl
  · exact w_c0
  · exact w_c1
  · exact w_c2
  · exact w_c3
  · exact w_c4
  · exact w_c5
  · exact w_c6
  · exact w_c7
  · exact w_c8
  · exact w_c9
  · exact w_c10
  · exact w_c11
  · exact w_c12
  · exact w_c13
  · exact w_c14
  · exact w_c15
  · exact w_c16
  · exact w_c17
  · exact w_c18
  · exact w_c19
  · exact w_c20
  · exact w_c21
  · exact w_c22
  · exact w_c23
  · exact w_c24
  · exact w_c25
  · exact w_c26
  · exact w_c27
  · exact w_c28
  · exact w_c29
  · exact w_c30
  · exact w_c31
  · exact w_c32
  · exact w_c33
  · exact w_c34
  · exact w_c35
  · exact w_c36
  · exact w_c37
  · exact w_c38
  · exact w_c39
  · exact w_c40
  · exact w_c41
  · exact w_c42
  · exact w_c43
  · exact w_c44
  · exact w_c45
  · exact w_c46
  · exact w_c47
  · exact w_c48
  · exact w_c49
  · exact w_c50
set_option maxRecDepth 65536 in
theorem w_t1 : (words1.take 24).all (fun c => isCode c || c.before args0 about1) = true := by decide +kernel
set_option maxRecDepth 65536 in
theorem w_t2 : ((words1.drop 24).take 24).all (fun c => isCode c || c.before args0 about1) = true := by decide +kernel
set_option maxRecDepth 65536 in
theorem w_t3 : (((words1.drop 24).drop 24).take 24).all (fun c => isCode c || c.before args0 about1) = true := by decide +kernel
set_option maxRecDepth 65536 in
theorem w_t4 : ((((words1.drop 24).drop 24).drop 24).take 24).all (fun c => isCode c || c.before args0 about1) = true := by decide +kernel
set_option maxRecDepth 65536 in
theorem w_t5 : (((((words1.drop 24).drop 24).drop 24).drop 24).take 24).all (fun c => isCode c || c.before args0 about1) = true := by decide +kernel
set_option maxRecDepth 65536 in
theorem w_t6 : ((((((words1.drop 24).drop 24).drop 24).drop 24).drop 24).take 24).all (fun c => isCode c || c.before args0 about1) = true := by decide +kernel
set_option maxRecDepth 65536 in
theorem w_t7 : (((((((words1.drop 24).drop 24).drop 24).drop 24).drop 24).drop 24).take 24).all (fun c => isCode c || c.before args0 about1) = true := by decide +kernel
set_option maxRecDepth 65536 in
theorem w_t8 : ((((((((words1.drop 24).drop 24).drop 24).drop 24).drop 24).drop 24).drop 24).take 24).all (fun c => isCode c || c.before args0 about1) = true := by decide +kernel
set_option maxRecDepth 65536 in
theorem w_t9 : (((((((((words1.drop 24).drop 24).drop 24).drop 24).drop 24).drop 24).drop 24).drop 24).take 24).all (fun c => isCode c || c.before args0 about1) = true := by decide +kernel
set_option maxRecDepth 65536 in
theorem w_t10 : ((((((((((words1.drop 24).drop 24).drop 24).drop 24).drop 24).drop 24).drop 24).drop 24).drop 24).take 24).all (fun c => isCode c || c.before args0 about1) = true := by decide +kernel
set_option maxRecDepth 65536 in
theorem w_t11 : (((((((((((words1.drop 24).drop 24).drop 24).drop 24).drop 24).drop 24).drop 24).drop 24).drop 24).drop 24).take 24).all (fun c => isCode c || c.before args0 about1) = true := by decide +kernel
set_option maxRecDepth 65536 in
theorem w_t12 : (((((((((((words1.drop 24).drop 24).drop 24).drop 24).drop 24).drop 24).drop 24).drop 24).drop 24).drop 24).drop 24).all (fun c => isCode c || c.before args0 about1) = true := by decide +kernel
theorem w_tables : (allAtoms (Jvm.Cond.code x code maxLocals ret :: tables_1)).before args0 about1 = true := by
  rw [allAtoms_all]
  show words1.all (fun c => c.before args0 about1) = true
  refine all_split ?_ w_codes
  rw [← List.take_append_drop 24 words1, List.all_append, w_t1, ← List.take_append_drop 24 (words1.drop 24), List.all_append, w_t2, ← List.take_append_drop 24 ((words1.drop 24).drop 24), List.all_append, w_t3, ← List.take_append_drop 24 (((words1.drop 24).drop 24).drop 24), List.all_append, w_t4, ← List.take_append_drop 24 ((((words1.drop 24).drop 24).drop 24).drop 24), List.all_append, w_t5, ← List.take_append_drop 24 (((((words1.drop 24).drop 24).drop 24).drop 24).drop 24), List.all_append, w_t6, ← List.take_append_drop 24 ((((((words1.drop 24).drop 24).drop 24).drop 24).drop 24).drop 24), List.all_append, w_t7, ← List.take_append_drop 24 (((((((words1.drop 24).drop 24).drop 24).drop 24).drop 24).drop 24).drop 24), List.all_append, w_t8, ← List.take_append_drop 24 ((((((((words1.drop 24).drop 24).drop 24).drop 24).drop 24).drop 24).drop 24).drop 24), List.all_append, w_t9, ← List.take_append_drop 24 (((((((((words1.drop 24).drop 24).drop 24).drop 24).drop 24).drop 24).drop 24).drop 24).drop 24), List.all_append, w_t10, ← List.take_append_drop 24 ((((((((((words1.drop 24).drop 24).drop 24).drop 24).drop 24).drop 24).drop 24).drop 24).drop 24).drop 24), List.all_append, w_t11, w_t12]
  rfl
set_option maxRecDepth 65536 in
theorem w_rest : rest_1_c.before args0 about1 = true := by decide +kernel
set_option maxRecDepth 65536 in
theorem w_case : (Jvm.Cond.and given_1 narrow_1).before args0 about1 = true := by decide +kernel
set_option maxRecDepth 65536 in
theorem w_consts : constsHeld consts_1 about1 := Jvm.Lit.constsHeldB_iff.mp (by decide +kernel)
theorem w_applies : (headSpec (Jvm.Cond.code x code maxLocals ret :: tables_1) room_1).applies x e0.platform about1 = true :=
  (Spec.applies_iff w_frames).mpr ⟨w_running, w_runnable, w_alone, w_named, w_hears, w_ripe, w_room, w_tables⟩
theorem atStart : AtStart classFile x code maxLocals ret World_1 tables_1 room_1 Calls_1 rest_1 Pre_1 launch0 p0 e0 about1 theMethod args0 below0 :=
  ⟨lists_1, trivial, launch0.admits_env _ _ _, launch0.least_env, fairChoices_fair.cas, fairChoices_fair.clock, w_frames, w_args, w_heap, w_applies, ⟨w_consts, trivial⟩, w_rest, w_case⟩
end start1
theorem witness_1 : WitnessClaimed_1 := ⟨start1.p0, start1.e0, start1.about1, start1.theMethod, start1.args0, start1.below0, start1.atStart⟩
end Jvm.Pilot.@@N@@
