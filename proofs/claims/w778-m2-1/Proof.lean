import JvmDerived
import JvmDerived.Pilot.@@N@@Statement
import JvmDerived.Pilot.@@N@@Code
set_option linter.unusedVariables false
set_option linter.unusedSimpArgs false
/- laws to paste: Road.backV (cut by pick.py; bodies as the Statement names them) -/
namespace Jvm.Pilot.@@N@@
namespace StrChars
open Jvm Sem ClassFile Op Lib Jvm.Stand Jvm.Free.XT Jvm.Free.ALB Jvm.Free.JM Jvm.Free
open Jvm.Lib.Cold (StaticIs)
/-- a char array whose places are chars -/
def Ch (a : Addr) (A : Cell) (U : State) : Prop := Arr .char a A U ∧ Typed .char A
theorem Ch.mv {a : Addr} {A : Cell} {U U' : State} (h : Ch a A U) (hal : U.vm.Alike U'.vm) (hh : U'.heap = U.heap) : Ch a A U' := ⟨h.1.mv hal hh, h.2⟩
theorem Ch.keep {a : Addr} {A : Cell} {U U' : State} (h : Ch a A U) (hal : U.vm.Alike U'.vm) (hk : U'.heap[a]? = some A) : Ch a A U' := ⟨h.1.keep hal hk, h.2⟩
/-- what place i of a char[]'s cell holds -/
def cv (A : Cell) (i : Nat) : Int32 := match A.slots[i]? with | some (.int x) => x | _ => 0
theorem Ch.get {a : Addr} {A : Cell} {U : State} (h : Ch a A U) {i : Nat} (hi : i < A.slots.size) : A.slots[i]? = some (.int (cv A i)) := by
  have e := Array.getElem?_eq_getElem hi
  have f := h.2 i _ e
  unfold cv; rw [e]
  generalize A.slots[i] = v at f
  cases v <;> simp [fits] at f ⊢
/-- the byte that i2b leaves of a char -/
def lo8 (x : Int32) : Int32 := x.toInt8.toInt32
theorem fits_lo8 (y : Int32) : fits .byte (.int (lo8 y)) = true := by
  have h1 := y.toInt8.le_toInt
  have h2 := y.toInt8.toInt_lt
  simp only [lo8, fits, Bool.and_eq_true, decide_eq_true_eq, Int32.le_iff_toInt_le, Int8.toInt_toInt32, show (-128 : Int32).toInt = -128 from by decide, show (127 : Int32).toInt = 127 from by decide]
  omega
/-- A' is A but that each place j of lo .. hi - 1 holds f j -/
def Laid (A A' : Cell) (lo hi : Nat) (f : Nat → Value) : Prop := A'.cls = A.cls ∧ A'.vm = A.vm ∧ A'.slots.size = A.slots.size ∧ ∀ i, A'.slots[i]? = if lo ≤ i ∧ i < hi then some (f i) else A.slots[i]?
theorem Laid.zero (A : Cell) (lo : Nat) (f : Nat → Value) : Laid A A lo (lo + 0) f := ⟨rfl, rfl, rfl, fun i => by rw [if_neg (by omega)]⟩
theorem Laid.step {A Ak : Cell} {lo k : Nat} {f : Nat → Value} {v : Value} (h : Laid A Ak lo k f) (hlo : lo ≤ k) (hk : k < Ak.slots.size) (hv : v = f k) : Laid A (Ak.setSlot k v) lo (k + 1) f := by
  refine ⟨h.1, h.2.1, by simpa [Cell.setSlot] using h.2.2.1, fun i => ?_⟩
  by_cases e : k = i
  · subst e; rw [Cell.slots_setSlot_self v hk, if_pos (by omega), hv]
  · rw [Cell.slots_setSlot_ne v e, h.2.2.2 i]
    by_cases q : lo ≤ i ∧ i < k
    · rw [if_pos q, if_pos (by omega)]
    · rw [if_neg q, if_neg (by omega)]
def U16 : String := "java/lang/StringUTF16"
namespace Cmp5
def yN : MethodName := ⟨"java/lang/StringUTF16", "compress", "([CI[BII)I"⟩
abbrev yB : ByteArray := jdk_52_method_21_code
theorem d0 : decode yB 0 = .ok (.iconst 0, 1) := by decide +kernel
theorem d1 : decode yB 1 = .ok (.istore 5, 2) := by decide +kernel
theorem d3 : decode yB 3 = .ok (.iload 5, 2) := by decide +kernel
theorem d5 : decode yB 5 = .ok (.iload 4, 2) := by decide +kernel
theorem d7 : decode yB 7 = .ok (.if_icmp (.ge) 37, 3) := by decide +kernel
theorem d10 : decode yB 10 = .ok (.aload_n 0, 1) := by decide +kernel
theorem d11 : decode yB 11 = .ok (.iload_n 1, 1) := by decide +kernel
theorem d12 : decode yB 12 = .ok (.caload, 1) := by decide +kernel
theorem d13 : decode yB 13 = .ok (.istore 6, 2) := by decide +kernel
theorem d15 : decode yB 15 = .ok (.iload 6, 2) := by decide +kernel
theorem d17 : decode yB 17 = .ok (.sipush 255, 3) := by decide +kernel
theorem d20 : decode yB 20 = .ok (.if_icmp (.le) 6, 3) := by decide +kernel
theorem d26 : decode yB 26 = .ok (.aload_n 2, 1) := by decide +kernel
theorem d27 : decode yB 27 = .ok (.iload_n 3, 1) := by decide +kernel
theorem d28 : decode yB 28 = .ok (.iload 6, 2) := by decide +kernel
theorem d30 : decode yB 30 = .ok (.i2b, 1) := by decide +kernel
theorem d31 : decode yB 31 = .ok (.bastore, 1) := by decide +kernel
theorem d32 : decode yB 32 = .ok (.iinc 1 1, 3) := by decide +kernel
theorem d35 : decode yB 35 = .ok (.iinc 3 1, 3) := by decide +kernel
theorem d38 : decode yB 38 = .ok (.iinc 5 1, 3) := by decide +kernel
theorem d41 : decode yB 41 = .ok (.goto (-38), 3) := by decide +kernel
theorem d44 : decode yB 44 = .ok (.iload 4, 2) := by decide +kernel
theorem d46 : decode yB 46 = .ok (.ireturn, 1) := by decide +kernel
def site : List Cond := []
def tab : Cond := tabOf yN yB 7 (some .int) site
def P (b : Addr) (A : Cell) (d : Addr) (B : Cell) (o q len : Nat) (args : Array Value) (s : State) : Prop := args = #[.ref b, .int (Int32.ofNat o), .ref d, .int (Int32.ofNat q), .int (Int32.ofNat len)] ∧ Ch b A s ∧ Arr .byte d B s ∧ b ≠ d ∧ o + len ≤ A.slots.size ∧ q + len ≤ B.slots.size ∧ ∀ i, i < len → ¬ 255 < cv A (o + i)
def E (b : Addr) (A : Cell) (d : Addr) (B : Cell) (o q len : Nat) (r : Option Value) (s u : State) : Prop := r = some (.int (Int32.ofNat len)) ∧ ∃ B', Put d B' s u ∧ Laid B B' q (q + len) (fun j => Value.int (lo8 (cv A (o + (j - q)))))
/-- no char of the range above 255: len; the places written hold each char's low byte -/
theorem law (l : Launch) (b : Addr) (A : Cell) (d : Addr) (B : Cell) (o q len : Nat) : Law l yN 5 5 0 0 yB 7 (some .int) site (P b A d B o q len) (E b A d B o q len) (copyLocs d q len) 0 0 := by
  refine Law.of_walk (plainFor_of_name (by decide +kernel)) (by decide +kernel) (by decide +kernel) (by decide) (fun _ _ h => by rw [h.1]; rfl) (fun _ U U' hal hh h => ⟨h.1, h.2.1.mv hal hh, h.2.2.1.mv hal hh, h.2.2.2⟩) (fun r U U' V V' h1 hal h2 h => ⟨h.1, h.2.elim fun B' q => ⟨B', q.1.mv h1 h2, q.2⟩⟩) ?_
  intro p e s m args below meth c s₁ X0 hexec hbytes hml hret hlk hnm hown hh0 W hP
  obtain ⟨rfl, hA, hB, hne, l1, l2, hp⟩ := hP
  have c1 : Steps p.tables e below (s₁.setTop (entryFrame m #[.ref b, .int (Int32.ofNat o), .ref d, .int (Int32.ofNat q), .int (Int32.ofNat len)] 7)) (s₁.setTop (mkF m 0 #[.val (.ref b), .val (.int (Int32.ofNat o)), .val (.ref d), .val (.int (Int32.ofNat q)), .val (.int (Int32.ofNat len)), .unset, .unset] [])) := entry rfl
  have hA0 := hA.1.mv X0.warmed.alike hh0
  have hB0 := hB.mv X0.warmed.alike hh0
  have a31 := hA.1.2.2.2
  have c2 : Steps p.tables e below (s₁.setTop (entryFrame m #[.ref b, .int (Int32.ofNat o), .ref d, .int (Int32.ofNat q), .int (Int32.ofNat len)] 7)) (s₁.setTop (mkF m 3 #[.val (.ref b), .val (.int (Int32.ofNat o)), .val (.ref d), .val (.int (Int32.ofNat q)), .val (.int (Int32.ofNat len)), .val (.int 0), .unset] [])) := c1.trans (by
    refine iconstV X0.here hexec rfl 0 (hb hbytes d0) (by decide) ?_
    refine XS.istore X0.here hexec rfl (hb hbytes d1) rfl rfl ?_
    exact Steps.refl _)
  have loop : ∀ (r i : Nat), i + r = len → ∀ (z : Slot), (z = .unset ∨ ∃ w, z = .val w ∧ w.category = 1) → ∀ (Tl : State) (Bk : Cell), Stand p l e { frames := 0, locals := 0, cells := 0, slots := 0 } s m #[.ref b, .int (Int32.ofNat o), .ref d, .int (Int32.ofNat q), .int (Int32.ofNat len)] below meth c Tl ([] ++ copyLocs d q i) 0 0 → Put d Bk s₁ Tl → Laid B Bk q (q + i) (fun j => Value.int (lo8 (cv A (o + (j - q))))) →
      Steps p.tables e below (s₁.setTop (entryFrame m #[.ref b, .int (Int32.ofNat o), .ref d, .int (Int32.ofNat q), .int (Int32.ofNat len)] 7)) (Tl.setTop (mkF m 3 #[.val (.ref b), .val (.int (Int32.ofNat (o + i))), .val (.ref d), .val (.int (Int32.ofNat (q + i))), .val (.int (Int32.ofNat len)), .val (.int (Int32.ofNat i)), z] [])) → ∃ (T' : State) (B' : Cell) (z' : Slot), Stand p l e { frames := 0, locals := 0, cells := 0, slots := 0 } s m #[.ref b, .int (Int32.ofNat o), .ref d, .int (Int32.ofNat q), .int (Int32.ofNat len)] below meth c T' ([] ++ copyLocs d q len) 0 0 ∧ Put d B' s₁ T' ∧ Laid B B' q (q + len) (fun j => Value.int (lo8 (cv A (o + (j - q))))) ∧
      Steps p.tables e below (s₁.setTop (entryFrame m #[.ref b, .int (Int32.ofNat o), .ref d, .int (Int32.ofNat q), .int (Int32.ofNat len)] 7)) (T'.setTop (mkF m 3 #[.val (.ref b), .val (.int (Int32.ofNat (o + len))), .val (.ref d), .val (.int (Int32.ofNat (q + len))), .val (.int (Int32.ofNat len)), .val (.int (Int32.ofNat len)), z'] [])) := by
    intro r
    induction r with
    | zero =>
      intro i hi z hz Tl Bk Xl pl fl cl
      have hil : i = len := by omega
      rw [hil] at Xl fl cl
      exact ⟨Tl, Bk, z, Xl, pl, fl, cl⟩
    | succ r ih =>
      intro i hi z hz Tl Bk Xl pl fl cl
      have all := X0.warmed.alike.symm.trans Xl.warmed.alike
      have hAl := hA0.keep all (pl.other hne hA0.1)
      have hBk := hB0.like all pl.1 fl.1 fl.2.1 fl.2.2.1
      have hlt : q + i < Bk.slots.size := by rw [fl.2.2.1]; omega
      have c3 : Steps p.tables e below (s₁.setTop (entryFrame m #[.ref b, .int (Int32.ofNat o), .ref d, .int (Int32.ofNat q), .int (Int32.ofNat len)] 7)) (Tl.setTop (mkF m 12 #[.val (.ref b), .val (.int (Int32.ofNat (o + i))), .val (.ref d), .val (.int (Int32.ofNat (q + i))), .val (.int (Int32.ofNat len)), .val (.int (Int32.ofNat i)), z] [.int (Int32.ofNat (o + i)), .ref b])) := cl.trans (by
        refine XS.iload Xl.here hexec rfl (hb hbytes d3) rfl ?_
        refine XS.iload Xl.here hexec rfl (hb hbytes d5) rfl ?_
        refine XS.icmpNo Xl.here hexec rfl (hb hbytes d7) rfl (ii_ge_f (lt32 (by omega) (by omega))) ?_
        refine XS.aloadN Xl.here hexec rfl (hb hbytes d10) rfl rfl ?_
        refine XS.iloadN Xl.here hexec rfl (hb hbytes d11) rfl ?_
        exact Steps.refl _)
      have c4 : Steps p.tables e below (s₁.setTop (entryFrame m #[.ref b, .int (Int32.ofNat o), .ref d, .int (Int32.ofNat q), .int (Int32.ofNat len)] 7)) (Tl.setTop (mkF m 13 #[.val (.ref b), .val (.int (Int32.ofNat (o + i))), .val (.ref d), .val (.int (Int32.ofNat (q + i))), .val (.int (Int32.ofNat len)), .val (.int (Int32.ofNat i)), z] [.int (cv A (o + i))])) := c3.trans (by
        refine Xl.aget hexec hAl rfl (hA.get (i := o + i) (by omega)) rfl rfl (hb hbytes d12) ?_
        exact Steps.refl _)
      have c5 : Steps p.tables e below (s₁.setTop (entryFrame m #[.ref b, .int (Int32.ofNat o), .ref d, .int (Int32.ofNat q), .int (Int32.ofNat len)] 7)) (Tl.setTop (mkF m 15 #[.val (.ref b), .val (.int (Int32.ofNat (o + i))), .val (.ref d), .val (.int (Int32.ofNat (q + i))), .val (.int (Int32.ofNat len)), .val (.int (Int32.ofNat i)), .val (.int (cv A (o + i)))] [])) := c4.trans (by
        refine XS.istoreS Xl.here hexec rfl (hb hbytes d13) rfl rfl hz ?_
        exact Steps.refl _)
      have c6 : Steps p.tables e below (s₁.setTop (entryFrame m #[.ref b, .int (Int32.ofNat o), .ref d, .int (Int32.ofNat q), .int (Int32.ofNat len)] 7)) (Tl.setTop (mkF m 31 #[.val (.ref b), .val (.int (Int32.ofNat (o + i))), .val (.ref d), .val (.int (Int32.ofNat (q + i))), .val (.int (Int32.ofNat len)), .val (.int (Int32.ofNat i)), .val (.int (cv A (o + i)))] [.int (lo8 (cv A (o + i))), .int (Int32.ofNat (q + i)), .ref d])) := c5.trans (by
        refine XS.iload Xl.here hexec rfl (hb hbytes d15) rfl ?_
        refine sipushV Xl.here hexec rfl 255 (hb hbytes d17) (by decide) ?_
        refine XS.icmpYes Xl.here hexec rfl (pc0 := 20) rfl (hb hbytes d20) rfl (ii_le_t (hp i (by omega))) (by decide) rfl ?_
        refine XS.aloadN Xl.here hexec rfl (hb hbytes d26) rfl rfl ?_
        refine XS.iloadN Xl.here hexec rfl (hb hbytes d27) rfl ?_
        refine XS.iload Xl.here hexec rfl (hb hbytes d28) rfl ?_
        refine i2b Xl.here hexec rfl (hb hbytes d30) rfl ?_
        exact Steps.refl _)
      obtain ⟨T7, X7, p7, st7⟩ := Xl.aput hexec hBk rfl hlt rfl (fits_lo8 (cv A (o + i))) (g := (mkF m 31 #[.val (.ref b), .val (.int (Int32.ofNat (o + i))), .val (.ref d), .val (.int (Int32.ofNat (q + i))), .val (.int (Int32.ofNat len)), .val (.int (Int32.ofNat i)), .val (.int (cv A (o + i)))] [.int (lo8 (cv A (o + i))), .int (Int32.ofNat (q + i)), .ref d])) rfl (rest := []) rfl (hb hbytes d31)
      have c8 : Steps p.tables e below (s₁.setTop (entryFrame m #[.ref b, .int (Int32.ofNat o), .ref d, .int (Int32.ofNat q), .int (Int32.ofNat len)] 7)) (T7.setTop (mkF m 32 #[.val (.ref b), .val (.int (Int32.ofNat (o + i))), .val (.ref d), .val (.int (Int32.ofNat (q + i))), .val (.int (Int32.ofNat len)), .val (.int (Int32.ofNat i)), .val (.int (cv A (o + i)))] [])) := c6.trans (st7 _ (Steps.refl _))
      have c9 : Steps p.tables e below (s₁.setTop (entryFrame m #[.ref b, .int (Int32.ofNat o), .ref d, .int (Int32.ofNat q), .int (Int32.ofNat len)] 7)) (T7.setTop (mkF m 3 #[.val (.ref b), .val (.int (Int32.ofNat (o + i) + 1)), .val (.ref d), .val (.int (Int32.ofNat (q + i) + 1)), .val (.int (Int32.ofNat len)), .val (.int (Int32.ofNat i + 1)), .val (.int (cv A (o + i)))] [])) := c8.trans (by
        refine iincV X7.here hexec rfl 1 (hb hbytes d32) (by decide) rfl rfl ?_
        refine iincV X7.here hexec rfl 1 (hb hbytes d35) (by decide) rfl rfl ?_
        refine iincV X7.here hexec rfl 1 (hb hbytes d38) (by decide) rfl rfl ?_
        refine XS.goto X7.here hexec rfl (pc0 := 41) rfl (hb hbytes d41) (by decide) rfl ?_
        exact Steps.refl _)
      have c10 : Steps p.tables e below (s₁.setTop (entryFrame m #[.ref b, .int (Int32.ofNat o), .ref d, .int (Int32.ofNat q), .int (Int32.ofNat len)] 7)) (T7.setTop (mkF m 3 #[.val (.ref b), .val (.int (Int32.ofNat (o + (i + 1)))), .val (.ref d), .val (.int (Int32.ofNat (q + (i + 1)))), .val (.int (Int32.ofNat len)), .val (.int (Int32.ofNat (i + 1))), .val (.int (cv A (o + i)))] [])) := by
        have := c9
        rw [succ32, succ32, succ32] at this
        exact this
      exact ih (i + 1) (by omega) _ (Or.inr ⟨_, rfl, rfl⟩) T7 _ (by rw [copyLocs_step, ← List.append_assoc]; exact X7) (pl.trans p7) (fl.step (by omega) hlt (by simp)) c10
  obtain ⟨T9, B9, z9, X9, p9, f9, g9⟩ := loop len 0 (by omega) .unset (Or.inl rfl) s₁ B (by simpa [copyLocs] using X0) ⟨hB0.1, fun _ _ => rfl, rfl⟩ (Laid.zero _ _ _) c2
  have c11 : Steps p.tables e below (s₁.setTop (entryFrame m #[.ref b, .int (Int32.ofNat o), .ref d, .int (Int32.ofNat q), .int (Int32.ofNat len)] 7)) (T9.setTop (mkF m 46 #[.val (.ref b), .val (.int (Int32.ofNat (o + len))), .val (.ref d), .val (.int (Int32.ofNat (q + len))), .val (.int (Int32.ofNat len)), .val (.int (Int32.ofNat len)), z9] [.int (Int32.ofNat len)])) := g9.trans (by
    refine XS.iload X9.here hexec rfl (hb hbytes d3) rfl ?_
    refine XS.iload X9.here hexec rfl (hb hbytes d5) rfl ?_
    refine XS.icmpYes X9.here hexec rfl (pc0 := 7) rfl (hb hbytes d7) rfl (ii_ge_t (nlt32 (by omega) (Nat.le_refl _))) (by decide) rfl ?_
    refine XS.iload X9.here hexec rfl (hb hbytes d44) rfl ?_
    exact Steps.refl _)
  exact ⟨T9, some (.int (Int32.ofNat len)), _, _, _, X9, by simp, rfl, rfl, (fun h => by cases h), ⟨rfl, B9, p9.from hh0, f9⟩, fun fs hl => c11.trans (X9.ireturnOut hexec hret rfl (Or.inl rfl) (hb hbytes d46) hl)⟩
end Cmp5
namespace Cmp3
def yN : MethodName := ⟨"java/lang/StringUTF16", "compress", "([CII)[B"⟩
abbrev yB : ByteArray := jdk_52_method_16_code
theorem d0 : decode yB 0 = .ok (.iload_n 2, 1) := by decide +kernel
theorem d1 : decode yB 1 = .ok (.newarray .byte, 2) := by decide +kernel
theorem d3 : decode yB 3 = .ok (.astore_n 3, 1) := by decide +kernel
theorem d4 : decode yB 4 = .ok (.aload_n 0, 1) := by decide +kernel
theorem d5 : decode yB 5 = .ok (.iload_n 1, 1) := by decide +kernel
theorem d6 : decode yB 6 = .ok (.aload_n 3, 1) := by decide +kernel
theorem d7 : decode yB 7 = .ok (.iconst 0, 1) := by decide +kernel
theorem d8 : decode yB 8 = .ok (.iload_n 2, 1) := by decide +kernel
theorem d9 : decode yB 9 = .ok (.invokestatic 115, 3) := by decide +kernel
theorem d12 : decode yB 12 = .ok (.istore 4, 2) := by decide +kernel
theorem d14 : decode yB 14 = .ok (.iload 4, 2) := by decide +kernel
theorem d16 : decode yB 16 = .ok (.iload_n 2, 1) := by decide +kernel
theorem d17 : decode yB 17 = .ok (.if_icmp (.eq) 40, 3) := by decide +kernel
theorem d57 : decode yB 57 = .ok (.aload_n 3, 1) := by decide +kernel
theorem d58 : decode yB 58 = .ok (.areturn, 1) := by decide +kernel
def site : List Cond := [.arrayClass .byte, Cmp5.tab] ++ staticW U16 115 Cmp5.yN
def tab : Cond := tabOf yN yB 6 (some (.array .byte)) site
def P (b : Addr) (A : Cell) (o len : Nat) (args : Array Value) (s : State) : Prop := args = #[.ref b, .int (Int32.ofNat o), .int (Int32.ofNat len)] ∧ Ch b A s ∧ o + len ≤ A.slots.size ∧ len ≤ 536870912 ∧ ∀ i, i < len → ¬ 255 < cv A (o + i)
def E (b : Addr) (A : Cell) (o len : Nat) (r : Option Value) (s u : State) : Prop := NewArr .byte "[B" len (fun j => .int (lo8 (cv A (o + j)))) r s u ∧ u.heap.size = s.heap.size + 1
/-- no char of the range above 255: a new byte[] of their low bytes -/
theorem law (l : Launch) (b : Addr) (A : Cell) (o len : Nat) : Law l yN 3 3 1 18 yB 6 (some (.array .byte)) site (P b A o len) (E b A o len) [] 1 len := by
  refine Law.of_walk (plainFor_of_name (by decide +kernel)) (by decide +kernel) (by decide +kernel) (by decide) (fun _ _ h => by rw [h.1]; rfl) (fun _ U U' hal hh h => ⟨h.1, h.2.1.mv hal hh, h.2.2⟩) (fun r U U' V V' h1 hal h2 h => ⟨NewArr.mv r U U' V V' h1 hal h2 h.1, by rw [h1, h2]; exact h.2⟩) ?_
  intro p e s m args below meth c s₁ X0 hexec hbytes hml hret hlk hnm hown hh0 W hP
  obtain ⟨rfl, hA, l1, l2, hp⟩ := hP
  have a31 := hA.1.2.2.2
  have c1 : Steps p.tables e below (s₁.setTop (entryFrame m #[.ref b, .int (Int32.ofNat o), .int (Int32.ofNat len)] 6)) (s₁.setTop (mkF m 0 #[.val (.ref b), .val (.int (Int32.ofNat o)), .val (.int (Int32.ofNat len)), .unset, .unset, .unset] [])) := entry rfl
  have c2 : Steps p.tables e below (s₁.setTop (entryFrame m #[.ref b, .int (Int32.ofNat o), .int (Int32.ofNat len)] 6)) (s₁.setTop (mkF m 1 #[.val (.ref b), .val (.int (Int32.ofNat o)), .val (.int (Int32.ofNat len)), .unset, .unset, .unset] [.int (Int32.ofNat len)])) := c1.trans (by
    refine XS.iloadN X0.here hexec rfl (hb hbytes d0) rfl ?_
    exact Steps.refl _)
  obtain ⟨T3, B3, X3, ba3, bs3, bv3, bh3, bf3, st3⟩ := X0.anew hexec (atype := .byte) (wk W (.arrayClass .byte)) rfl (by show len * 1 ≤ _; omega) (by omega) (g := (mkF m 1 #[.val (.ref b), .val (.int (Int32.ofNat o)), .val (.int (Int32.ofNat len)), .unset, .unset, .unset] [.int (Int32.ofNat len)])) rfl (hb hbytes d1) (rest := []) rfl (Nat.le_refl _) (by show 0 + len ≤ len; omega)
  rw [hh0] at ba3 st3
  have kp3 : XT.Kept s T3 := (XT.Kept.of_eq hh0).push bh3
  have hA3 := hA.keep X3.warmed.alike (kp3 _ _ hA.1.1)
  have hne : b ≠ s.heap.size := hA.1.ne
  have c4 : Steps p.tables e below (s₁.setTop (entryFrame m #[.ref b, .int (Int32.ofNat o), .int (Int32.ofNat len)] 6)) (T3.setTop (mkF m 3 #[.val (.ref b), .val (.int (Int32.ofNat o)), .val (.int (Int32.ofNat len)), .unset, .unset, .unset] [.ref s.heap.size])) := c2.trans (st3 _ (Steps.refl _))
  have c5 : Steps p.tables e below (s₁.setTop (entryFrame m #[.ref b, .int (Int32.ofNat o), .int (Int32.ofNat len)] 6)) (T3.setTop (mkF m 9 #[.val (.ref b), .val (.int (Int32.ofNat o)), .val (.int (Int32.ofNat len)), .val (.ref s.heap.size), .unset, .unset] [.int (Int32.ofNat len), .int 0, .ref s.heap.size, .int (Int32.ofNat o), .ref b])) := c4.trans (by
    refine XS.astoreN X3.here hexec rfl (hb hbytes d3) rfl rfl rfl ?_
    refine XS.aloadN X3.here hexec rfl (hb hbytes d4) rfl rfl ?_
    refine XS.iloadN X3.here hexec rfl (hb hbytes d5) rfl ?_
    refine XS.aloadN X3.here hexec rfl (hb hbytes d6) rfl rfl ?_
    refine iconstV X3.here hexec rfl 0 (hb hbytes d7) (by decide) ?_
    refine XS.iloadN X3.here hexec rfl (hb hbytes d8) rfl ?_
    exact Steps.refl _)
  obtain ⟨v6, T6, X6, E6, g6⟩ := X3.callS hexec (Cmp5.law l b A s.heap.size B3 o 0 len) hown (wks W (staticW U16 115 Cmp5.yN)) (wk W Cmp5.tab) (W := 0) (Nat.le_of_ble_eq_true rfl) (Nat.le_of_ble_eq_true rfl) (Nat.le_refl _) (by show 0 + len + 0 ≤ len; omega) (g := (mkF m 9 #[.val (.ref b), .val (.int (Int32.ofNat o)), .val (.int (Int32.ofNat len)), .val (.ref s.heap.size), .unset, .unset] [.int (Int32.ofNat len), .int (Int32.ofNat 0), .ref s.heap.size, .int (Int32.ofNat o), .ref b])) rfl (by rw [hml]; rfl) c5 (argsL := [.ref b, .int (Int32.ofNat o), .ref s.heap.size, .int (Int32.ofNat 0), .int (Int32.ofNat len)]) (rest := []) rfl rfl (by show 2 * 0 + 0 ≤ _; decide) (hb hbytes d9) (⟨rfl, hA3, ba3, hne, l1, by rw [bs3]; simp, hp⟩)
  obtain ⟨rfl, B6, p6, f6⟩ := E6
  have c7 : Steps p.tables e below (s₁.setTop (entryFrame m #[.ref b, .int (Int32.ofNat o), .int (Int32.ofNat len)] 6)) (T6.setTop (mkF m 12 #[.val (.ref b), .val (.int (Int32.ofNat o)), .val (.int (Int32.ofNat len)), .val (.ref s.heap.size), .unset, .unset] [.int (Int32.ofNat len)])) := g6
  have c8 : Steps p.tables e below (s₁.setTop (entryFrame m #[.ref b, .int (Int32.ofNat o), .int (Int32.ofNat len)] 6)) (T6.setTop (mkF m 58 #[.val (.ref b), .val (.int (Int32.ofNat o)), .val (.int (Int32.ofNat len)), .val (.ref s.heap.size), .val (.int (Int32.ofNat len)), .unset] [.ref s.heap.size])) := c7.trans (by
    refine XS.istore X6.here hexec rfl (hb hbytes d12) rfl rfl ?_
    refine XS.iload X6.here hexec rfl (hb hbytes d14) rfl ?_
    refine XS.iloadN X6.here hexec rfl (hb hbytes d16) rfl ?_
    refine XS.icmpYes X6.here hexec rfl (pc0 := 17) rfl (hb hbytes d17) rfl (ii_eq_t rfl) (by decide) rfl ?_
    refine XS.aloadN X6.here hexec rfl (hb hbytes d57) rfl rfl ?_
    exact Steps.refl _)
  have X8 := X6.wide (L' := []) (cells' := 1) (slots' := len) (fun x hx hlt => by
    simp only [List.nil_append, copyLocs, List.mem_map, List.mem_range] at hx
    obtain ⟨i, -, rfl⟩ := hx
    exact absurd hlt (Nat.lt_irrefl _)) (Nat.le_refl _) (by omega)
  exact ⟨T6, some (.ref s.heap.size), _, _, _, X8, rfl, rfl, rfl, (fun h => by cases h), ⟨⟨rfl, B6, ba3.like (X3.warmed.alike.symm.trans X6.warmed.alike) p6.1 f6.1 f6.2.1 f6.2.2.1, f6.2.1.trans bv3, by rw [X6.warmed.alike.findClass, f6.1]; exact bf3, by rw [f6.2.2.1, bs3]; simp, fun j hj => by rw [f6.2.2.2 j, if_pos (by omega)]; rfl, kp3.put p6 (Nat.le_refl _)⟩, by rw [p6.2.2, bh3, hh0]; simp⟩, fun fs hl => c8.trans (X8.areturnOut hexec rfl hret rfl (hb hbytes d58) hl)⟩
end Cmp3
namespace CodL
def yN : MethodName := ⟨"java/lang/StringUTF16", "coderFromArrayLen", "([BI)B"⟩
abbrev yB : ByteArray := jdk_52_method_15_code
theorem d0 : decode yB 0 = .ok (.iload_n 1, 1) := by decide +kernel
theorem d1 : decode yB 1 = .ok (.aload_n 0, 1) := by decide +kernel
theorem d2 : decode yB 2 = .ok (.arraylength, 1) := by decide +kernel
theorem d3 : decode yB 3 = .ok (.isub, 1) := by decide +kernel
theorem d4 : decode yB 4 = .ok (.bipush 31, 2) := by decide +kernel
theorem d6 : decode yB 6 = .ok (.iushr, 1) := by decide +kernel
theorem d7 : decode yB 7 = .ok (.i2b, 1) := by decide +kernel
theorem d8 : decode yB 8 = .ok (.ireturn, 1) := by decide +kernel
def site : List Cond := []
def tab : Cond := tabOf yN yB 2 (some .byte) site
def P (d : Addr) (B : Cell) (args : Array Value) (s : State) : Prop := args = #[.ref d, .int (Int32.ofNat B.slots.size)] ∧ Arr .byte d B s
def E (r : Option Value) (s u : State) : Prop := XT.PureE (some (.int 0)) r s u
/-- an array as long as the number of chars: LATIN1 -/
theorem law (l : Launch) (d : Addr) (B : Cell) : Law l yN 2 2 0 0 yB 2 (some .byte) site (P d B) E [] 0 0 := by
  refine Law.of_walk (plainFor_of_name (by decide +kernel)) (by decide +kernel) (by decide +kernel) (by decide) (fun _ _ h => by rw [h.1]; rfl) (fun _ U U' hal hh h => ⟨h.1, h.2.mv hal hh⟩) (fun r U U' V V' h1 hal h2 h => XT.PureE.mv r U U' V V' h1 hal h2 h) ?_
  intro p e s m args below meth c s₁ X0 hexec hbytes hml hret hlk hnm hown hh0 W hP
  obtain ⟨rfl, hB⟩ := hP
  have hB0 := hB.mv X0.warmed.alike hh0
  have c1 : Steps p.tables e below (s₁.setTop (entryFrame m #[.ref d, .int (Int32.ofNat B.slots.size)] 2)) (s₁.setTop (mkF m 0 #[.val (.ref d), .val (.int (Int32.ofNat B.slots.size))] [])) := entry rfl
  have c2 : Steps p.tables e below (s₁.setTop (entryFrame m #[.ref d, .int (Int32.ofNat B.slots.size)] 2)) (s₁.setTop (mkF m 2 #[.val (.ref d), .val (.int (Int32.ofNat B.slots.size))] [.ref d, .int (Int32.ofNat B.slots.size)])) := c1.trans (by
    refine XS.iloadN X0.here hexec rfl (hb hbytes d0) rfl ?_
    refine XS.aloadN X0.here hexec rfl (hb hbytes d1) rfl rfl ?_
    exact Steps.refl _)
  have c3 : Steps p.tables e below (s₁.setTop (entryFrame m #[.ref d, .int (Int32.ofNat B.slots.size)] 2)) (s₁.setTop (mkF m 8 #[.val (.ref d), .val (.int (Int32.ofNat B.slots.size))] [.int (lo8 (ushr (Int32.ofNat B.slots.size - Int32.ofNat B.slots.size) 31))])) := c2.trans (by
    refine X0.alen hexec hB0 rfl rfl (hb hbytes d2) ?_
    refine XS.isub X0.here hexec rfl (hb hbytes d3) rfl ?_
    refine bipushV X0.here hexec rfl 31 (hb hbytes d4) (by decide) ?_
    refine iushr X0.here hexec rfl (hb hbytes d6) rfl ?_
    refine i2b X0.here hexec rfl (hb hbytes d7) rfl ?_
    exact Steps.refl _)
  have e0 : lo8 (ushr (Int32.ofNat B.slots.size - Int32.ofNat B.slots.size) 31) = 0 := by rw [Int32.sub_self]; decide
  rw [e0] at c3
  exact ⟨s₁, some (.int 0), _, _, _, X0, rfl, rfl, rfl, (fun h => by cases h), ⟨rfl, hh0⟩, fun fs hl => c3.trans (X0.ireturnOut hexec hret rfl (Or.inr (Or.inr (Or.inl rfl))) (hb hbytes d8) hl)⟩
end CodL
/-- the String at a is Latin-1 over a new byte[] (the heap's one new cell): the low bytes of the len chars of A from o on; every cell but a is kept -/
def Got (a : Addr) (D : Cell) (fV fC : Field) (A : Cell) (o len : Nat) (r : Option Value) (s u : State) : Prop := r = none ∧ ∃ D' V : Cell, Blank "java/lang/String" a D' u ∧ Same D D' [fV.slot, fC.slot] ∧ D'.slots[fV.slot]? = some (.ref s.heap.size) ∧ D'.slots[fC.slot]? = some (.int 0) ∧ Arr .byte s.heap.size V u ∧ V.vm = .none ∧ u.vm.findClass "[B" = some V.cls ∧ V.slots.size = len ∧ (∀ j, j < len → V.slots[j]? = some (.int (lo8 (cv A (o + j))))) ∧ (∀ (y : Addr) (c : Cell), y ≠ a → s.heap[y]? = some c → u.heap[y]? = some c) ∧ u.heap.size = s.heap.size + 1
theorem Got.mv {a : Addr} {D A : Cell} {fV fC : Field} {o len : Nat} : ∀ r (U U' V V' : State), U'.heap = U.heap → V.vm.Alike V'.vm → V'.heap = V.heap → Got a D fV fC A o len r U V → Got a D fV fC A o len r U' V' :=
  fun r U U' V V' h1 hal h2 ⟨e0, D', X, a1, a2, a3, a4, a5, a6, a7, a8, a9, a10, a11⟩ => ⟨e0, D', X, a1.mv hal h2, a2, by rw [h1]; exact a3, a4, by rw [h1]; exact a5.mv hal h2, a6, by rw [hal.findClass]; exact a7, a8, a9, by rw [h1, h2]; exact a10, by rw [h1, h2]; exact a11⟩
namespace New4
def yN : MethodName := ⟨"java/lang/String", "<init>", "([CIILjava/lang/Void;)V"⟩
abbrev yB : ByteArray := jdk_42_method_149_code
theorem d0 : decode yB 0 = .ok (.aload_n 0, 1) := by decide +kernel
theorem d1 : decode yB 1 = .ok (.invokespecial 1, 3) := by decide +kernel
theorem d4 : decode yB 4 = .ok (.iload_n 3, 1) := by decide +kernel
theorem d5 : decode yB 5 = .ok (.ifCond (.ne) 22, 3) := by decide +kernel
theorem d27 : decode yB 27 = .ok (.getstatic 38, 3) := by decide +kernel
theorem d30 : decode yB 30 = .ok (.ifCond (.eq) 28, 3) := by decide +kernel
theorem d33 : decode yB 33 = .ok (.aload_n 1, 1) := by decide +kernel
theorem d34 : decode yB 34 = .ok (.iload_n 2, 1) := by decide +kernel
theorem d35 : decode yB 35 = .ok (.iload_n 3, 1) := by decide +kernel
theorem d36 : decode yB 36 = .ok (.invokestatic 177, 3) := by decide +kernel
theorem d39 : decode yB 39 = .ok (.astore 5, 2) := by decide +kernel
theorem d41 : decode yB 41 = .ok (.aload_n 0, 1) := by decide +kernel
theorem d42 : decode yB 42 = .ok (.aload 5, 2) := by decide +kernel
theorem d44 : decode yB 44 = .ok (.iload_n 3, 1) := by decide +kernel
theorem d45 : decode yB 45 = .ok (.invokestatic 47, 3) := by decide +kernel
theorem d48 : decode yB 48 = .ok (.putfield 15, 3) := by decide +kernel
theorem d51 : decode yB 51 = .ok (.aload_n 0, 1) := by decide +kernel
theorem d52 : decode yB 52 = .ok (.aload 5, 2) := by decide +kernel
theorem d54 : decode yB 54 = .ok (.putfield 9, 3) := by decide +kernel
theorem d57 : decode yB 57 = .ok (.return_, 1) := by decide +kernel
def site : List Cond := [.fieldLink "java/lang/String" 38 "java/lang/String" "COMPACT_STRINGS" "Z", Cmp3.tab, CodL.tab, .laysFinal "java/lang/String" "java/lang/String" "value" "[B", .fieldLink "java/lang/String" 9 "java/lang/String" "value" "[B", .laysFinal "java/lang/String" "java/lang/String" "coder" "B", .fieldLink "java/lang/String" 15 "java/lang/String" "coder" "B"] ++ objW "java/lang/String" 1 ++ staticW "java/lang/String" 177 Cmp3.yN ++ staticW "java/lang/String" 47 CodL.yN
def tab : Cond := tabOf yN yB 6 none site
def P (a : Addr) (D : Cell) (fV fC : Field) (b : Addr) (A : Cell) (z : Int32) (o len : Nat) (args : Array Value) (s : State) : Prop := args = #[.ref a, .ref b, .int (Int32.ofNat o), .int (Int32.ofNat len), .null] ∧ Blank "java/lang/String" a D s ∧ Found "java/lang/String" "value" "[B" fV s ∧ Found "java/lang/String" "coder" "B" fC s ∧ Ch b A s ∧ StaticIs s "java/lang/String" "COMPACT_STRINGS" "Z" (.int z) ∧ ¬ z = 0 ∧ 0 < len ∧ o + len ≤ A.slots.size ∧ len ≤ 536870912 ∧ ∀ i, i < len → ¬ 255 < cv A (o + i)
def E (a : Addr) (D : Cell) (fV fC : Field) (A : Cell) (o len : Nat) (r : Option Value) (s u : State) : Prop := Got a D fV fC A o len r s u
/-- len > 0, no char of the range above 255: a Latin-1 String of their low bytes -/
theorem law (l : Launch) (a : Addr) (D : Cell) (fV fC : Field) (b : Addr) (A : Cell) (z : Int32) (o len : Nat) : Law l yN 5 4 2 35 yB 6 none site (P a D fV fC b A z o len) (E a D fV fC A o len) [⟨a, fC.slot⟩, ⟨a, fV.slot⟩] 1 len := by
  refine Law.of_walk (plainFor_of_name (by decide +kernel)) (by decide +kernel) (by decide +kernel) (by decide) (fun _ _ h => by rw [h.1]; rfl) (fun _ U U' hal hh h => ⟨h.1, h.2.1.mv hal hh, h.2.2.1.al hal, h.2.2.2.1.al hal, h.2.2.2.2.1.mv hal hh, h.2.2.2.2.2.1.there hal hh, h.2.2.2.2.2.2⟩) (fun r U U' V V' h1 hal h2 h => Got.mv r U U' V V' h1 hal h2 h) ?_
  intro p e s m args below meth c s₁ X0 hexec hbytes hml hret hlk hnm hown hh0 W hP
  obtain ⟨rfl, hB, f1, f2, hA, s1, hz, l0, l1, l2, hp⟩ := hP
  have a31 := hA.1.2.2.2
  have c1 : Steps p.tables e below (s₁.setTop (entryFrame m #[.ref a, .ref b, .int (Int32.ofNat o), .int (Int32.ofNat len), .null] 6)) (s₁.setTop (mkF m 0 #[.val (.ref a), .val (.ref b), .val (.int (Int32.ofNat o)), .val (.int (Int32.ofNat len)), .val .null, .unset] [])) := entry rfl
  have c2 : Steps p.tables e below (s₁.setTop (entryFrame m #[.ref a, .ref b, .int (Int32.ofNat o), .int (Int32.ofNat len), .null] 6)) (s₁.setTop (mkF m 1 #[.val (.ref a), .val (.ref b), .val (.int (Int32.ofNat o)), .val (.int (Int32.ofNat len)), .val .null, .unset] [.ref a])) := c1.trans (by
    refine XS.aloadN X0.here hexec rfl (hb hbytes d0) rfl rfl ?_
    exact Steps.refl _)
  obtain ⟨T3, X3, q3, st3⟩ := X0.oinit hexec hown (wks W (objW "java/lang/String" 1)) (g := (mkF m 1 #[.val (.ref a), .val (.ref b), .val (.int (Int32.ofNat o)), .val (.int (Int32.ofNat len)), .val .null, .unset] [.ref a])) rfl (by rw [hml]; rfl) (rest := []) rfl (hb hbytes d1) (W := 0) (by show 2 * 0 + 0 ≤ _; decide) (Nat.le_of_ble_eq_true rfl) (Nat.le_of_ble_eq_true rfl)
  have hh3 := q3.trans hh0
  have c4 : Steps p.tables e below (s₁.setTop (entryFrame m #[.ref a, .ref b, .int (Int32.ofNat o), .int (Int32.ofNat len), .null] 6)) (T3.setTop (mkF m 27 #[.val (.ref a), .val (.ref b), .val (.int (Int32.ofNat o)), .val (.int (Int32.ofNat len)), .val .null, .unset] [])) := (c2.trans (st3 _ (Steps.refl _))).trans (by
    refine XS.iloadN X3.here hexec rfl (hb hbytes d4) rfl ?_
    refine XS.ifYes X3.here hexec rfl (pc0 := 5) rfl (hb hbytes d5) rfl (i0_ne_t (nz32 (by omega) l0)) (by decide) rfl ?_
    exact Steps.refl _)
  obtain ⟨T5, X5, q5, st5⟩ := X3.sget hexec hown (wk W (.fieldLink "java/lang/String" 38 "java/lang/String" "COMPACT_STRINGS" "Z")) s1 (fun _ _ h => by rw [hh3]; exact h) (g := (mkF m 27 #[.val (.ref a), .val (.ref b), .val (.int (Int32.ofNat o)), .val (.int (Int32.ofNat len)), .val .null, .unset] [])) rfl (hb hbytes d27)
  have hh5 := q5.trans hh3
  have c6 : Steps p.tables e below (s₁.setTop (entryFrame m #[.ref a, .ref b, .int (Int32.ofNat o), .int (Int32.ofNat len), .null] 6)) (T5.setTop (mkF m 30 #[.val (.ref a), .val (.ref b), .val (.int (Int32.ofNat o)), .val (.int (Int32.ofNat len)), .val .null, .unset] [.int z])) := c4.trans (st5 _ (Steps.refl _))
  have c7 : Steps p.tables e below (s₁.setTop (entryFrame m #[.ref a, .ref b, .int (Int32.ofNat o), .int (Int32.ofNat len), .null] 6)) (T5.setTop (mkF m 36 #[.val (.ref a), .val (.ref b), .val (.int (Int32.ofNat o)), .val (.int (Int32.ofNat len)), .val .null, .unset] [.int (Int32.ofNat len), .int (Int32.ofNat o), .ref b])) := c6.trans (by
    refine XS.ifNo X5.here hexec rfl (hb hbytes d30) rfl (i0_eq_f hz) ?_
    refine XS.aloadN X5.here hexec rfl (hb hbytes d33) rfl rfl ?_
    refine XS.iloadN X5.here hexec rfl (hb hbytes d34) rfl ?_
    refine XS.iloadN X5.here hexec rfl (hb hbytes d35) rfl ?_
    exact Steps.refl _)
  obtain ⟨v8, T8, X8, E8, g8⟩ := X5.callS hexec (Cmp3.law l b A o len) hown (wks W (staticW "java/lang/String" 177 Cmp3.yN)) (wk W Cmp3.tab) (W := 0) (Nat.le_of_ble_eq_true rfl) (Nat.le_of_ble_eq_true rfl) (Nat.le_refl _) (by show 0 + len ≤ len; omega) (g := (mkF m 36 #[.val (.ref a), .val (.ref b), .val (.int (Int32.ofNat o)), .val (.int (Int32.ofNat len)), .val .null, .unset] [.int (Int32.ofNat len), .int (Int32.ofNat o), .ref b])) rfl (by rw [hml]; rfl) c7 (argsL := [.ref b, .int (Int32.ofNat o), .int (Int32.ofNat len)]) (rest := []) rfl rfl (by show 2 * 0 + 0 ≤ _; decide) (hb hbytes d36) (⟨rfl, hA.mv X5.warmed.alike hh5, l1, l2, hp⟩)
  obtain ⟨e8, z8⟩ := E8
  obtain ⟨rfl, N, n1, n2, n3, n4, n5, n6⟩ := NewArr.mv _ T5 s _ _ hh5.symm (Vm.Alike.refl _) rfl e8
  rw [hh5] at z8
  have hB1 := hB.keep X8.warmed.alike (n6 _ _ hB.1)
  have hne : s.heap.size ≠ a := (Nat.ne_of_lt (Array.getElem?_eq_some_iff.mp hB.1).1).symm
  have c9 : Steps p.tables e below (s₁.setTop (entryFrame m #[.ref a, .ref b, .int (Int32.ofNat o), .int (Int32.ofNat len), .null] 6)) (T8.setTop (mkF m 39 #[.val (.ref a), .val (.ref b), .val (.int (Int32.ofNat o)), .val (.int (Int32.ofNat len)), .val .null, .unset] [.ref s.heap.size])) := g8
  have c10 : Steps p.tables e below (s₁.setTop (entryFrame m #[.ref a, .ref b, .int (Int32.ofNat o), .int (Int32.ofNat len), .null] 6)) (T8.setTop (mkF m 45 #[.val (.ref a), .val (.ref b), .val (.int (Int32.ofNat o)), .val (.int (Int32.ofNat len)), .val .null, .val (.ref s.heap.size)] [.int (Int32.ofNat N.slots.size), .ref s.heap.size, .ref a])) := by
    have hc : Steps p.tables e below (s₁.setTop (entryFrame m #[.ref a, .ref b, .int (Int32.ofNat o), .int (Int32.ofNat len), .null] 6)) (T8.setTop (mkF m 45 #[.val (.ref a), .val (.ref b), .val (.int (Int32.ofNat o)), .val (.int (Int32.ofNat len)), .val .null, .val (.ref s.heap.size)] [.int (Int32.ofNat len), .ref s.heap.size, .ref a])) := c9.trans (by
      refine XS.astore X8.here hexec rfl (hb hbytes d39) rfl rfl rfl ?_
      refine XS.aloadN X8.here hexec rfl (hb hbytes d41) rfl rfl ?_
      refine XS.aload X8.here hexec rfl (hb hbytes d42) rfl rfl ?_
      refine XS.iloadN X8.here hexec rfl (hb hbytes d44) rfl ?_
      exact Steps.refl _)
    rw [n4]; exact hc
  obtain ⟨v11, T11, X11, E11, g11⟩ := X8.callS hexec (CodL.law l s.heap.size N) hown (wks W (staticW "java/lang/String" 47 CodL.yN)) (wk W CodL.tab) (W := 1) (Nat.le_of_ble_eq_true rfl) (Nat.le_of_ble_eq_true rfl) (Nat.le_refl _) (by show 0 + len + 0 ≤ len; omega) (g := (mkF m 45 #[.val (.ref a), .val (.ref b), .val (.int (Int32.ofNat o)), .val (.int (Int32.ofNat len)), .val .null, .val (.ref s.heap.size)] [.int (Int32.ofNat N.slots.size), .ref s.heap.size, .ref a])) rfl (by rw [hml]; rfl) c10 (argsL := [.ref s.heap.size, .int (Int32.ofNat N.slots.size)]) (rest := [.ref a]) rfl rfl (by show 2 * 0 + (1 + 0) ≤ _; decide) (hb hbytes d45) (⟨rfl, n1⟩)
  obtain ⟨rfl, q11⟩ := E11
  have hB11 := hB1.mv (X8.warmed.alike.symm.trans X11.warmed.alike) q11
  have c12 : Steps p.tables e below (s₁.setTop (entryFrame m #[.ref a, .ref b, .int (Int32.ofNat o), .int (Int32.ofNat len), .null] 6)) (T11.setTop (mkF m 48 #[.val (.ref a), .val (.ref b), .val (.int (Int32.ofNat o)), .val (.int (Int32.ofNat len)), .val .null, .val (.ref s.heap.size)] [.int 0, .ref a])) := g11
  obtain ⟨T13, X13, p13, bl13, sl13, st13⟩ := X11.finit hexec hown (wk W (.fieldLink "java/lang/String" 15 "java/lang/String" "coder" "B")) (Or.inr ⟨_, (wk W (.laysFinal "java/lang/String" "java/lang/String" "coder" "B"))⟩) (Or.inl ⟨rfl, hnm⟩) f2 (Or.inl rfl) hB11 (t := .byte) (by decide +kernel) rfl (g := (mkF m 48 #[.val (.ref a), .val (.ref b), .val (.int (Int32.ofNat o)), .val (.int (Int32.ofNat len)), .val .null, .val (.ref s.heap.size)] [.int 0, .ref a])) rfl (rest := []) rfl (hb hbytes d48)
  have c14 : Steps p.tables e below (s₁.setTop (entryFrame m #[.ref a, .ref b, .int (Int32.ofNat o), .int (Int32.ofNat len), .null] 6)) (T13.setTop (mkF m 54 #[.val (.ref a), .val (.ref b), .val (.int (Int32.ofNat o)), .val (.int (Int32.ofNat len)), .val .null, .val (.ref s.heap.size)] [.ref s.heap.size, .ref a])) := (c12.trans (st13 _ (Steps.refl _))).trans (by
    refine XS.aloadN X13.here hexec rfl (hb hbytes d51) rfl rfl ?_
    refine XS.aload X13.here hexec rfl (hb hbytes d52) rfl rfl ?_
    exact Steps.refl _)
  obtain ⟨T15, X15, p15, bl15, sl15, st15⟩ := X13.finit hexec hown (wk W (.fieldLink "java/lang/String" 9 "java/lang/String" "value" "[B")) (Or.inr ⟨_, (wk W (.laysFinal "java/lang/String" "java/lang/String" "value" "[B"))⟩) (Or.inl ⟨rfl, hnm⟩) f1 (Or.inl rfl) bl13 (t := (.array .byte)) (by decide +kernel) rfl (g := (mkF m 54 #[.val (.ref a), .val (.ref b), .val (.int (Int32.ofNat o)), .val (.int (Int32.ofNat len)), .val .null, .val (.ref s.heap.size)] [.ref s.heap.size, .ref a])) rfl (rest := []) rfl (hb hbytes d54)
  have c16 : Steps p.tables e below (s₁.setTop (entryFrame m #[.ref a, .ref b, .int (Int32.ofNat o), .int (Int32.ofNat len), .null] 6)) (T15.setTop (mkF m 57 #[.val (.ref a), .val (.ref b), .val (.int (Int32.ofNat o)), .val (.int (Int32.ofNat len)), .val .null, .val (.ref s.heap.size)] [])) := c14.trans (st15 _ (Steps.refl _))
  have ap := apart (Or.inr ⟨_, (wk W (.laysFinal "java/lang/String" "java/lang/String" "value" "[B"))⟩) (Or.inr ⟨_, (wk W (.laysFinal "java/lang/String" "java/lang/String" "coder" "B"))⟩) f1 f2 (t₁ := .array .byte) (t₂ := .byte) (by decide +kernel) (by decide +kernel) (by decide)
  have al := X8.warmed.alike.symm.trans X15.warmed.alike
  have n7 : T11.heap[s.heap.size]? = some N := by rw [q11]; exact n1.1
  exact ⟨T15, none, _, _, _, X15, by simp, rfl, by omega, (fun _ => rfl), ⟨rfl, _, N, bl15, ((Same.refl D _).set _ (by simp)).set _ (by simp), sl15, (Cell.slots_setSlot_ne _ ap).trans sl13, n1.keep al (p15.other hne (p13.other hne n7)), n2, by rw [al.findClass]; exact n3, n4, n5, fun y c h1 h2 => p15.other h1 (p13.other h1 (by rw [q11]; exact n6 y c h2)), by rw [p15.2.2, p13.2.2, q11]; exact z8⟩, fun fs hl => c16.trans (X15.returnOut hexec hret (hb hbytes d57) hl)⟩
end New4
namespace New1
def yN : MethodName := ⟨"java/lang/String", "<init>", "([C)V"⟩
abbrev yB : ByteArray := jdk_42_method_3_code
theorem d0 : decode yB 0 = .ok (.aload_n 0, 1) := by decide +kernel
theorem d1 : decode yB 1 = .ok (.aload_n 1, 1) := by decide +kernel
theorem d2 : decode yB 2 = .ok (.iconst 0, 1) := by decide +kernel
theorem d3 : decode yB 3 = .ok (.aload_n 1, 1) := by decide +kernel
theorem d4 : decode yB 4 = .ok (.arraylength, 1) := by decide +kernel
theorem d5 : decode yB 5 = .ok (.aconst_null, 1) := by decide +kernel
theorem d6 : decode yB 6 = .ok (.invokespecial 27, 3) := by decide +kernel
theorem d9 : decode yB 9 = .ok (.return_, 1) := by decide +kernel
def site : List Cond := [New4.tab] ++ initW "java/lang/String" 27 New4.yN
def tab : Cond := tabOf yN yB 2 none site
def P (a : Addr) (D : Cell) (fV fC : Field) (b : Addr) (A : Cell) (z : Int32) (args : Array Value) (s : State) : Prop := args = #[.ref a, .ref b] ∧ Blank "java/lang/String" a D s ∧ Found "java/lang/String" "value" "[B" fV s ∧ Found "java/lang/String" "coder" "B" fC s ∧ Ch b A s ∧ StaticIs s "java/lang/String" "COMPACT_STRINGS" "Z" (.int z) ∧ ¬ z = 0 ∧ 0 < A.slots.size ∧ A.slots.size ≤ 536870912 ∧ ∀ i, i < A.slots.size → ¬ 255 < cv A i
def E (a : Addr) (D : Cell) (fV fC : Field) (A : Cell) (r : Option Value) (s u : State) : Prop := Got a D fV fC A 0 A.slots.size r s u
/-- new String(chars), not empty, no char above 255: a Latin-1 String of their low bytes -/
theorem law (l : Launch) (a : Addr) (D : Cell) (fV fC : Field) (b : Addr) (A : Cell) (z : Int32) : Law l yN 2 1 3 52 yB 2 none site (P a D fV fC b A z) (E a D fV fC A) [⟨a, fC.slot⟩, ⟨a, fV.slot⟩] 1 A.slots.size := by
  refine Law.of_walk (plainFor_of_name (by decide +kernel)) (by decide +kernel) (by decide +kernel) (by decide) (fun _ _ h => by rw [h.1]; rfl) (fun _ U U' hal hh h => ⟨h.1, h.2.1.mv hal hh, h.2.2.1.al hal, h.2.2.2.1.al hal, h.2.2.2.2.1.mv hal hh, h.2.2.2.2.2.1.there hal hh, h.2.2.2.2.2.2⟩) (fun r U U' V V' h1 hal h2 h => Got.mv r U U' V V' h1 hal h2 h) ?_
  intro p e s m args below meth c s₁ X0 hexec hbytes hml hret hlk hnm hown hh0 W hP
  obtain ⟨rfl, hB, f1, f2, hA, s1, hz, l0, l2, hp⟩ := hP
  have c1 : Steps p.tables e below (s₁.setTop (entryFrame m #[.ref a, .ref b] 2)) (s₁.setTop (mkF m 0 #[.val (.ref a), .val (.ref b)] [])) := entry rfl
  have c2 : Steps p.tables e below (s₁.setTop (entryFrame m #[.ref a, .ref b] 2)) (s₁.setTop (mkF m 6 #[.val (.ref a), .val (.ref b)] [.null, .int (Int32.ofNat A.slots.size), .int 0, .ref b, .ref a])) := c1.trans (by
    refine XS.aloadN X0.here hexec rfl (hb hbytes d0) rfl rfl ?_
    refine XS.aloadN X0.here hexec rfl (hb hbytes d1) rfl rfl ?_
    refine iconstV X0.here hexec rfl 0 (hb hbytes d2) (by decide) ?_
    refine XS.aloadN X0.here hexec rfl (hb hbytes d3) rfl rfl ?_
    refine X0.alen hexec (hA.1.mv X0.warmed.alike hh0) rfl rfl (hb hbytes d4) ?_
    refine XS.aconstNull X0.here hexec rfl (hb hbytes d5) ?_
    exact Steps.refl _)
  obtain ⟨v3, T3, X3, E3, g3⟩ := X0.callN hexec (New4.law l a D fV fC b A z 0 A.slots.size) rfl hown (wks W (initW "java/lang/String" 27 New4.yN)) (W New4.tab (by simp only [site, List.mem_cons, List.mem_append, true_or, or_true])) (W := 0) (Nat.le_of_ble_eq_true rfl) (Nat.le_of_ble_eq_true rfl) (Nat.le_refl _) (by show 0 + A.slots.size ≤ A.slots.size; omega) (g := (mkF m 6 #[.val (.ref a), .val (.ref b)] [.null, .int (Int32.ofNat A.slots.size), .int (Int32.ofNat 0), .ref b, .ref a])) rfl (by rw [hml]; rfl) c2 (argsL := [.ref b, .int (Int32.ofNat 0), .int (Int32.ofNat A.slots.size), .null]) (rest := []) rfl rfl (by show 2 * 0 + 0 ≤ _; decide) (hb hbytes d6) (⟨rfl, hB.mv X0.warmed.alike hh0, f1.al X0.warmed.alike, f2.al X0.warmed.alike, hA.mv X0.warmed.alike hh0, s1.there X0.warmed.alike hh0, hz, l0, by omega, l2, fun i hi => by rw [Nat.zero_add]; exact hp i hi⟩)
  have e0 := Got.mv _ s₁ s _ _ hh0.symm (Vm.Alike.refl _) rfl E3
  obtain rfl := e0.1
  have c4 : Steps p.tables e below (s₁.setTop (entryFrame m #[.ref a, .ref b] 2)) (T3.setTop (mkF m 9 #[.val (.ref a), .val (.ref b)] [])) := g3
  exact ⟨T3, none, _, _, _, X3, by simp, rfl, by omega, (fun _ => rfl), e0, fun fs hl => c4.trans (X3.returnOut hexec hret (hb hbytes d9) hl)⟩
theorem pays {l : Launch} {R : Room} {p : Program} {e : Env} {below : List Frame} {s : State} {sargs : Array Value} {len W : Nat} (a : Addr) (D : Cell) (fV fC : Field) (b : Addr) (A : Cell) (z : Int32) (htab : tab.before sargs s = true) (hfr : 4 ≤ R.frames) (hlo : W + 65 ≤ R.locals) :
    Back l R p e below s sargs yN len W (fun A₁ a₁ => A₁.cells + 1 ≤ R.cells ∧ A₁.slots + A.slots.size ≤ R.slots ∧ P a D fV fC b A z a₁ A₁.U) (fun A₁ _ v₁ B₁ => E a D fV fC A v₁ A₁.U B₁.U ∧ B₁.locs = A₁.locs ++ [⟨a, fC.slot⟩, ⟨a, fV.slot⟩] ∧ B₁.cells = A₁.cells + 1 ∧ B₁.slots = A₁.slots + A.slots.size) :=
  (law l a D fV fC b A z).pays htab hfr (by omega)
end New1
end StrChars
namespace StrChars.Road
open Jvm Sem ClassFile Op Lib Jvm.Stand Jvm.Free Jvm.Free.XT
open Jvm.Lib.Cold (StaticIs)
abbrev ST : String := "java/lang/String"
/-- every table word that New1's law asks, flat -/
abbrev words : List Jvm.Cond := [.code New1.yN New1.yB 2 none, .initialized ST, .methodLink ST 27 New4.yN, .instanceMethod New4.yN,
  .code New4.yN New4.yB 6 none, .fieldLink ST 38 ST "COMPACT_STRINGS" "Z", .laysFinal ST ST "value" "[B", .fieldLink ST 9 ST "value" "[B", .laysFinal ST ST "coder" "B", .fieldLink ST 15 ST "coder" "B",
  .methodLink ST 1 Lib.objectInit, .instanceMethod Lib.objectInit, .code Lib.objectInit ⟨#[0xb1]⟩ 1 none, .methodLink ST 177 Cmp3.yN, .static Cmp3.yN, .methodLink ST 47 CodL.yN, .static CodL.yN,
  .code Cmp3.yN Cmp3.yB 6 (some (.array .byte)), .initialized U16, .arrayClass .byte, .methodLink U16 115 Cmp5.yN, .static Cmp5.yN, .code Cmp5.yN Cmp5.yB 7 (some .int), .code CodL.yN CodL.yB 2 (some .byte)]
theorem tab_of {a : Array Value} {s : State} (h : ∀ w ∈ words, w.before a s = true) : New1.tab.before a s = true := by
  have h5 : Cmp5.tab.before a s = true := unparts (wk h (.code Cmp5.yN Cmp5.yB 7 (some .int))) (wks h (.initialized Cmp5.yN.cls :: Cmp5.site))
  have hc : CodL.tab.before a s = true := unparts (wk h (.code CodL.yN CodL.yB 2 (some .byte))) (wks h (.initialized CodL.yN.cls :: CodL.site))
  have q5 : ∀ w ∈ Cmp5.tab :: words, w.before a s = true := fun w hw => (List.mem_cons.mp hw).elim (fun e => e ▸ h5) (h w)
  have h3 : Cmp3.tab.before a s = true := unparts (wk q5 (.code Cmp3.yN Cmp3.yB 6 (some (.array .byte)))) (wks q5 (.initialized Cmp3.yN.cls :: Cmp3.site))
  have q3 : ∀ w ∈ Cmp3.tab :: CodL.tab :: words, w.before a s = true := fun w hw => (List.mem_cons.mp hw).elim (fun e => e ▸ h3) fun hw => (List.mem_cons.mp hw).elim (fun e => e ▸ hc) (h w)
  have h4 : New4.tab.before a s = true := unparts (wk q3 (.code New4.yN New4.yB 6 none)) (wks q3 (.initialized New4.yN.cls :: New4.site))
  have q4 : ∀ w ∈ New4.tab :: words, w.before a s = true := fun w hw => (List.mem_cons.mp hw).elim (fun e => e ▸ h4) (h w)
  exact unparts (wk q4 (.code New1.yN New1.yB 2 none)) (wks q4 (.initialized New1.yN.cls :: New1.site))
/-- the words ride from the start Z to the walk's own state -/
theorem moved {Z s : State} {a0 args : Array Value} (hZ : Z.Warmed39 s.vm) (hw : ∀ d ∈ words, d.before a0 Z = true) : ∀ d ∈ words, d.before args s = true := fun d hd => by
  have q := hw d hd
  have t : ∀ d ∈ words, d = .arrayClass .byte ∨ (d.onTables && d.keepsFace) = true := by decide +kernel
  rcases t d hd with rfl | t
  · exact RoadKit.mvA hZ q
  · exact RoadKit.mv hZ q t
/-- WHAT COMES BACK, over the tables of the start Z: h the heap at the call, h' behind it -/
def Q (Z : State) (x : Addr) (A : Cell) (h : Heap) (v : Option Value) (h' : Heap) (L : List Loc) : Prop := v = none ∧ (∀ y ∈ L, y.base = x) ∧ RoadKit.Keep h h' [x] ∧ h'.size = h.size + 1 ∧ RoadKit.Exa Z h' x ST ∧ RoadKit.Fld Z h' x ST "value" "[B" (.ref h.size) ∧ RoadKit.Fld Z h' x ST "coder" "B" (.int 0) ∧
  (∃ V : Cell, RoadKit.Arr Z h' h.size V .byte ∧ V.vm = .none ∧ Z.vm.findClass "[B" = some V.cls ∧ V.slots.size = A.slots.size ∧ ∀ j, j < A.slots.size → V.slots[j]? = some (.int (lo8 (cv A j)))) ∧
  ∀ (O n d : String) (w : Value), RoadKit.Fld Z h x O n d w → RoadKit.slotOf Z O n d ≠ RoadKit.slotOf Z ST "value" "[B" → RoadKit.slotOf Z O n d ≠ RoadKit.slotOf Z ST "coder" "B" → RoadKit.Fld Z h' x O n d w
/-- **new String(chars) AT A CALL, IN THE ROAD'S FORM**: for specialBack behind newO: x the fresh String, b the char[] with the cell A -/
theorem back {p : Program} {l : Launch} {e : Env} {R : Room} {s : State} {args : Array Value} {below : List Frame} {len W : Nat} {Z : State} {a0 : Array Value} {h : Heap} (hZ : Z.Warmed39 s.vm) (hw : ∀ d ∈ words, d.before a0 Z = true) {kI : Nat} (wi : (Jvm.Cond.instantiable ST kI).before a0 Z = true)
    {x b : Addr} {A : Cell} {z : Int32} {v0 c0 : Value} (E : RoadKit.Exa Z h x ST) (V : RoadKit.Fld Z h x ST "value" "[B" v0) (C : RoadKit.Fld Z h x ST "coder" "B" c0) (K : RoadKit.Arr Z h b A .char) (hty : Typed .char A) (S : RoadKit.Sta Z h ST "COMPACT_STRINGS" "Z" (.int z)) (hz : ¬ z = 0)
    (l0 : 0 < A.slots.size) (l2 : A.slots.size ≤ 536870912) (hp : ∀ i, i < A.slots.size → ¬ 255 < cv A i) (hfr : 4 ≤ R.frames) (hlo : W + 65 ≤ R.locals) :
    Back l R p e below s args New1.yN len W (fun P a => a = #[.ref x, .ref b] ∧ P.U.heap = h ∧ P.cells + 1 ≤ R.cells ∧ P.slots + A.slots.size ≤ R.slots)
      (fun P _ v B => ∃ L, Q Z x A h v B.U.heap L ∧ B.locs = P.locs ++ L ∧ B.cells = P.cells + 1 ∧ B.slots = P.slots + A.slots.size) := by
  intro m meth c P g ig mk a X hg hsize hdg hW hn hp'
  obtain ⟨rfl, rfl, r1, r2⟩ := hp'
  have al : Z.vm.Alike P.U.vm := hZ.alike.trans X.warmed.alike
  obtain ⟨D, cfV, kV, iV, fV, hD, gV, stV, knV, obV, asV, slV⟩ := id V
  obtain ⟨D', cfC, kC, iC, fC, hD', gC, stC, -, -, asC, slC⟩ := id C
  cases hD.symm.trans hD'
  obtain ⟨D2, kD, e1, e2, e3, e4, e5⟩ := id E
  cases hD.symm.trans e1
  obtain ⟨c2, k2, i1, i2, i3, -⟩ := Cond.instantiable_spec wi
  cases e2.symm.trans i1
  cases e3.symm.trans i2
  obtain ⟨kU, u1, u2⟩ := al.2.2 _ _ e3
  have hB : Blank ST x D P.U := ⟨hD, ⟨knV, fun q hq => by rw [hq] at obV; cases obV⟩, by rw [al.findClass]; exact e2, kU, u1, by rw [u2]; exact i3, by rw [u2]; exact e5 i3⟩
  have F1 : Found ST "value" "[B" fV P.U := ⟨SBG.found_only al ⟨cfV, kV, iV, gV⟩, stV⟩
  have F2 : Found ST "coder" "B" fC P.U := ⟨SBG.found_only al ⟨cfC, kC, iC, gC⟩, stC⟩
  have hA : Ch b A P.U := ⟨⟨K.1, State.isArrayOf_alike al K.2.1, K.2.2, by omega⟩, hty⟩
  have hS : StaticIs P.U ST "COMPACT_STRINGS" "Z" (.int z) := by
    obtain ⟨cfS, iS, kS, fS, st, cS, t1, t2, t3, t4, t5, t6, t7⟩ := S
    exact StaticIs.there (s := { Z with heap := P.U.heap }) ⟨cfS, iS, kS, fS, st, cS, t1, t2, t3, t4, t5, (fun q => by rw [q] at t6; cases t6), t7⟩ al rfl
  obtain ⟨v, B, X', ⟨⟨hv, E', V', q1, q2, q3, q4, q5, q6, q7, q8, q9, q10, q11⟩, hl, hc, hs⟩, st⟩ := New1.pays x D fV fC b A z (tab_of (moved hZ hw)) hfr hlo m meth c P g ig mk _ X hg hsize hdg hW hn ⟨r1, r2, rfl, hB, F1, F2, hA, hS, hz, l0, l2, hp⟩
  have al' : Z.vm.Alike B.U.vm := hZ.alike.trans X'.warmed.alike
  have hsz : E'.slots.size = D.slots.size := by
    obtain ⟨-, -, -, kB, w1, w2, w3⟩ := q1
    obtain ⟨kB', y1, y2⟩ := al'.2.2 _ _ e3
    rw [q2.2.1] at w1
    cases w1.symm.trans y1
    rw [w3, e5 i3, y2]
  refine ⟨v, B, X', ⟨_, ⟨hv, ?_, ⟨by omega, fun y cy hy hn' => q10 y cy (by simpa using hn') hy, fun y cy hy => ?_⟩, q11, ⟨E', _, q1.1, by rw [q2.2.1]; exact e2, by rw [q2.2.1]; exact e3, by rw [q2.1]; exact obV, fun _ => by rw [hsz]; exact e5 i3⟩,
    ⟨E', cfV, kV, iV, fV, q1.1, gV, stV, by rw [q2.1]; exact knV, by rw [q2.1]; exact obV, by rw [q2.2.1]; exact asV, q3⟩, ⟨E', cfC, kC, iC, fC, q1.1, gC, stC, by rw [q2.1]; exact knV, by rw [q2.1]; exact obV, by rw [q2.2.1]; exact asC, q4⟩,
    ⟨V', ⟨q5.1, State.isArrayOf_alike al'.symm q5.2.1, q5.2.2.1⟩, q6, by rw [← al'.findClass]; exact q7, q8, fun j hj => by have := q9 j hj; rwa [Nat.zero_add] at this⟩, fun O n d w F n1 n2 => ?_⟩, hl, hc, hs⟩, st⟩
  · intro y hy
    simp only [List.mem_cons, List.not_mem_nil, or_false] at hy
    rcases hy with rfl | rfl <;> rfl
  · by_cases q : y = x
    · subst q
      cases hD.symm.trans hy
      exact ⟨E', q1.1, q2.2.1, q2.1, hsz⟩
    · exact ⟨cy, q10 y cy q hy, rfl, rfl, rfl⟩
  · obtain ⟨D3, cf, k, i, f, g1, g2, g3, g4, g5, g6, g7⟩ := F
    cases hD.symm.trans g1
    simp only [RoadKit.slotOf, g2, gV, gC, Option.map_some, Option.getD_some] at n1 n2
    exact ⟨E', cf, k, i, f, q1.1, g2, g3, by rw [q2.1]; exact g4, by rw [q2.1]; exact g5, by rw [q2.2.1]; exact g6, by rw [q2.2.2 f.slot (by simp [n1, n2])]; exact g7⟩
end StrChars.Road
namespace StrChars.Road
open Jvm Sem ClassFile Op Lib Jvm.Stand Jvm.Free Jvm.Free.XT
/-- WHAT COMES BACK, the byte[] as a list of values -/
def QA (Z : State) (x : Addr) (zn : Int32) (cs : List Int32) (h : Heap) (v : Option Value) (h' : Heap) (L : List Loc) : Prop := v = none ∧ (∀ y ∈ L, y.base = x) ∧ RoadKit.Keep h h' [x] ∧ h'.size = h.size + 1 ∧ RoadKit.Exa Z h' x ST ∧ RoadKit.Fld Z h' x ST "value" "[B" (.ref h.size) ∧ RoadKit.Fld Z h' x ST "coder" "B" (.int 0) ∧
  (∃ kb, Z.vm.findClass "[B" = some kb ∧ RoadKit.Arv Z h' h.size kb .byte zn (cs.map fun c => .int (lo8 c)) (.int 0)) ∧
  ∀ (O n d : String) (w : Value), RoadKit.Fld Z h x O n d w → RoadKit.slotOf Z O n d ≠ RoadKit.slotOf Z ST "value" "[B" → RoadKit.slotOf Z O n d ≠ RoadKit.slotOf Z ST "coder" "B" → RoadKit.Fld Z h' x O n d w
/-- **new String(chars) AT A CALL, THE ARRAYS AS LISTS**: the char[] at b holds cs, not empty, no char above 255 -/
theorem backArv {p : Program} {l : Launch} {e : Env} {R : Room} {s : State} {args : Array Value} {below : List Frame} {len W : Nat} {Z : State} {a0 : Array Value} {h : Heap} (hZ : Z.Warmed39 s.vm) (hw : ∀ d ∈ words, d.before a0 Z = true) {kI : Nat} (wi : (Jvm.Cond.instantiable ST kI).before a0 Z = true)
    {x b : Addr} {k : ClassId} {zn z : Int32} {cs : List Int32} {dv v0 c0 : Value} (E : RoadKit.Exa Z h x ST) (V : RoadKit.Fld Z h x ST "value" "[B" v0) (C : RoadKit.Fld Z h x ST "coder" "B" c0) (K : RoadKit.Arv Z h b k .char zn (cs.map Value.int) dv) (S : RoadKit.Sta Z h ST "COMPACT_STRINGS" "Z" (.int z)) (hz : ¬ z = 0)
    (hlen : zn.toNatClampNeg = cs.length) (h0 : 0 < cs.length) (hbig : cs.length ≤ 536870912) (hall : ∀ c ∈ cs, ¬ 255 < c) (hfr : 4 ≤ R.frames) (hlo : W + 65 ≤ R.locals) :
    Back l R p e below s args New1.yN len W (fun P a => a = #[.ref x, .ref b] ∧ P.U.heap = h ∧ P.cells + 1 ≤ R.cells ∧ P.slots + cs.length ≤ R.slots)
      (fun P _ v B => ∃ L, QA Z x zn cs h v B.U.heap L ∧ B.locs = P.locs ++ L ∧ B.cells = P.cells + 1 ∧ B.slots = P.slots + cs.length) := by
  obtain ⟨A, K1, K2, K3, K4, K5, K6⟩ := K
  have e : A.slots.size = cs.length := K3.trans hlen
  have hat : ∀ (i : Nat) (hi : i < cs.length), A.slots[i]? = some (.int cs[i]) := fun i hi => by rw [K5 i (by omega)]; simp [List.getD_eq_getElem?_getD, hi]
  have hcv : ∀ (i : Nat) (hi : i < cs.length), cv A i = cs[i] := fun i hi => by unfold cv; rw [hat i hi]
  have hty : Typed .char A := fun i v hv => by
    have hi : i < A.slots.size := (Array.getElem?_eq_some_iff.mp hv).1
    have q := K5 i hi
    rw [hv] at q
    rw [Option.some.inj q]
    exact K6 i hi
  refine Back.mono (back hZ hw wi E V C K1 hty S hz (by omega) (by omega) (fun i hi => by rw [hcv i (by omega)]; exact hall _ (List.getElem_mem _)) hfr hlo) (fun P a hp => ⟨hp.1, hp.2.1, hp.2.2.1, by rw [e]; exact hp.2.2.2⟩) (fun P a v B hp hq => ?_)
  obtain ⟨L, ⟨q1, q2, q3, q4, q5, q6, q7, ⟨V', v1, v2, v3, v4, v5⟩, q9⟩, hl, hc, hs⟩ := hq
  refine ⟨L, ⟨q1, q2, q3, q4, q5, q6, q7, ⟨V'.cls, v3, V', v1, rfl, by rw [v4, e, hlen], K4, fun i hi => ?_, fun i hi => ?_⟩, q9⟩, hl, hc, by rw [hs, e]⟩
  · have hi' : i < cs.length := by omega
    rw [v5 i (by omega), hcv i hi']; simp [List.getD_eq_getElem?_getD, hi']
  · have hi' : i < cs.length := by omega
    simp only [List.getD_eq_getElem?_getD, List.getElem?_map, List.getElem?_eq_getElem hi', Option.map_some, Option.getD_some]
    exact fits_lo8 _
end StrChars.Road
namespace StrChars.Road
open Jvm Sem ClassFile Op Lib Jvm.Stand Jvm.Free Jvm.Free.XT
/-- WHAT COMES BACK, in the writer's own shape -/
def QV (Z : State) (x : Addr) (N : Int32) (bs : List Int32) (h : Heap) (n0 : Nat) (v : Option Value) (h' : Heap) (L : List Loc) : Prop := v = none ∧ RoadKit.Fr n0 L ∧ RoadKit.Keep h h' [x] ∧ RoadKit.Exa Z h' x ST ∧ RoadKit.Fld Z h' x ST "coder" "B" (.int 0) ∧
  ∃ (t : Addr) (kb : ClassId), n0 ≤ t ∧ h.size ≤ t ∧ ¬ t = x ∧ RoadKit.Fld Z h' x ST "value" "[B" (.ref t) ∧ RoadKit.Arv Z h' t kb .byte N (bs.map Value.int) (.int 0)
/-- **new String(chars) AT A CALL, FOR THE WRITER**: a char[] of n known ints, each 0 to 255 -/
theorem backV {p : Program} {l : Launch} {e : Env} {R : Room} {s : State} {args : Array Value} {below : List Frame} {len W : Nat} {Z : State} {a0 : Array Value} {h : Heap} (hZ : Z.Warmed39 s.vm) (hw : ∀ d ∈ words, d.before a0 Z = true) {kI : Nat} (wi : (Jvm.Cond.instantiable ST kI).before a0 Z = true)
    {x b : Addr} {kC : ClassId} {cs bs : List Int32} {d v0 c0 : Value} {z N : Int32} {n n0 : Nat} (hx0 : n0 ≤ x) (hh0 : n0 ≤ h.size) (E : RoadKit.Exa Z h x ST) (V : RoadKit.Fld Z h x ST "value" "[B" v0) (C : RoadKit.Fld Z h x ST "coder" "B" c0) (K : RoadKit.Arv Z h b kC .char N (cs.map Value.int) d) (S : RoadKit.Sta Z h ST "COMPACT_STRINGS" "Z" (.int z)) (hz : ¬ z = 0)
    (hn : cs.length = n) (hN : N = Int32.ofNat n) (l0 : 0 < n) (l2 : n ≤ 4000) (hp : ∀ c ∈ cs, ¬ c < 0 ∧ ¬ (255 : Int32) < c) (hb : bs = cs.map (fun c => c.toInt8.toInt32)) (hfr : 4 ≤ R.frames) (hlo : W + 65 ≤ R.locals) :
    Back l R p e below s args (⟨"java/lang/String", "<init>", "([C)V"⟩ : MethodName) len W (fun P a => a = #[.ref x, .ref b] ∧ P.U.heap = h ∧ P.cells + 1 ≤ R.cells ∧ P.slots + n ≤ R.slots)
      (fun P _ v B => ∃ L, QV Z x N bs h n0 v B.U.heap L ∧ B.locs = P.locs ++ L ∧ B.cells = P.cells + 1 ∧ B.slots = P.slots + n) := by
  subst hn hN hb
  refine Back.mono (backArv hZ hw wi E V C K S hz (n32 (by omega)) l0 (by omega) (fun c hc => (hp c hc).2) hfr hlo) (fun P a hp => hp) (fun P a v B hp hq => ?_)
  obtain ⟨L, ⟨q1, q2, q3, q4, q5, q6, q7, ⟨kb, v1, v2⟩, q9⟩, hl, hc, hs⟩ := hq
  exact ⟨L, ⟨q1, fun y hy => by rw [q2 y hy]; exact hx0, q3, q5, q7, h.size, kb, hh0, Nat.le_refl _, Nat.ne_of_gt E.lt, q6, by rw [List.map_map]; exact v2⟩, hl, hc, hs⟩
end StrChars.Road
end Jvm.Pilot.@@N@@

namespace Jvm.Pilot.@@N@@
open Jvm Jvm.ClassFile Sem Op Lib Jvm.Free Jvm.Stand Jvm.LawKit Jvm.RoadKit Bundle Jvm.Pilot.@@N@@.Jvm.D
section OwnKit
variable {p : Program} {l : Launch} {e : Env} {R : Room} {s : State} {m : MethodId} {args : Array Value} {below : List Frame} {meth : Method} {c : Code} {T T' : State} {locs : List Loc} {cells slots : Nat}
/-- from the frame f in the state T the run comes to the method's end, and G holds there -/
def own_Goes (p : Program) (e : Env) (below : List Frame) (G : Outcome → State → Prop) (T : State) (f : JFrame) : Prop :=
  ∃ s₂ o, Steps p.tables e below (T.setTop f) s₂ ∧ s₂.status = .running ∧ Ended s₂ below o ∧ G o s₂
theorem own_of {G : Outcome → State → Prop} {f f' : JFrame} (st : ∀ t, Steps p.tables e below (T'.setTop f') t → Steps p.tables e below (T.setTop f) t) (h : own_Goes p e below G T' f') : own_Goes p e below G T f := by
  obtain ⟨s₂, o, h1, h2⟩ := h
  exact ⟨s₂, o, st _ h1, h2⟩
theorem own_start {G : Outcome → State → Prop} {f f' : JFrame} (q : f = f') (h : own_Goes p e below G T f') : ∃ s₂ o, Steps p.tables e below (T.setTop f) s₂ ∧ s₂.status = .running ∧ Ended s₂ below o ∧ G o s₂ := q ▸ h
theorem own_retI (X : Stand p l e R s m args below meth c T locs cells slots) (hx : p.tables.exec = Jvm.exec) {pc : Nat} {Ls : Array Slot} {z : Int32} {rest : List Value} (hret : meth.sig.returnType = some .int) (hd : decode c.code pc = .ok (.ireturn, 1)) {fs : List Frame}
    (hl : ∀ (f : JFrame) (acts : List Action), f.method = m → f.locked = none → f.entered = [] → (doReturn e (T.setTop f) acts (some (.int z))).1 = T.setFrames fs) : Steps p.tables e below (T.setTop (mkF m pc Ls (.int z :: rest))) (T.setFrames fs) :=
  retOut X hx hret rfl (Or.inl ⟨rfl, Or.inl rfl, _, rfl⟩) hd hl
theorem own_retJ (X : Stand p l e R s m args below meth c T locs cells slots) (hx : p.tables.exec = Jvm.exec) {pc : Nat} {Ls : Array Slot} {z : Int64} {rest : List Value} (hret : meth.sig.returnType = some .long) (hd : decode c.code pc = .ok (.lreturn, 1)) {fs : List Frame}
    (hl : ∀ (f : JFrame) (acts : List Action), f.method = m → f.locked = none → f.entered = [] → (doReturn e (T.setTop f) acts (some (.long z))).1 = T.setFrames fs) : Steps p.tables e below (T.setTop (mkF m pc Ls (.long z :: rest))) (T.setFrames fs) :=
  retOut X hx hret rfl (Or.inr (Or.inl ⟨rfl, rfl, _, rfl⟩)) hd hl
theorem own_retD (X : Stand p l e R s m args below meth c T locs cells slots) (hx : p.tables.exec = Jvm.exec) {pc : Nat} {Ls : Array Slot} {z : UInt64} {rest : List Value} (hret : meth.sig.returnType = some .double) (hd : decode c.code pc = .ok (.dreturn, 1)) {fs : List Frame}
    (hl : ∀ (f : JFrame) (acts : List Action), f.method = m → f.locked = none → f.entered = [] → (doReturn e (T.setTop f) acts (some (.double z))).1 = T.setFrames fs) : Steps p.tables e below (T.setTop (mkF m pc Ls (.double z :: rest))) (T.setFrames fs) :=
  retOut X hx hret rfl (Or.inr (Or.inr (Or.inl ⟨rfl, rfl, _, rfl⟩))) hd hl
theorem own_retA (X : Stand p l e R s m args below meth c T locs cells slots) (hx : p.tables.exec = Jvm.exec) {pc : Nat} {Ls : Array Slot} {z : Value} {rest : List Value} {t : FieldType} (hret : meth.sig.returnType = some t) (ht : t.isReference = true) (hn : narrow t z = z) (hz : z.isRef = true) (hd : decode c.code pc = .ok (.areturn, 1)) {fs : List Frame}
    (hl : ∀ (f : JFrame) (acts : List Action), f.method = m → f.locked = none → f.entered = [] → (doReturn e (T.setTop f) acts (some z)).1 = T.setFrames fs) : Steps p.tables e below (T.setTop (mkF m pc Ls (z :: rest))) (T.setFrames fs) :=
  retOut X hx hret hn (Or.inr (Or.inr (Or.inr (Or.inr ⟨rfl, ht, hz⟩)))) hd hl
theorem own_stakeep {Z : State} {h h' : Heap} {C n d : String} {v : Value} {ws : List Addr} (F : Sta Z h C n d v) (K : Keep h h' ws) (q : ∀ x ∈ ws, ∀ cell : Cell, h[x]? = some cell → cell.vm.isStatics = false) : Sta Z h' C n d v := by
  obtain ⟨cf, i, k, f, st, cell, h1, h2, h3, h4, h5, h6, h7⟩ := F
  exact ⟨cf, i, k, f, st, cell, h1, h2, h3, h4, K.2.1 st cell h5 (fun z => by rw [q st z cell h5] at h6; cases h6), h6, h7⟩
theorem own_plainE {Z : State} {h : Heap} {a : Addr} {C : String} (F : Exa Z h a C) : ∀ cell : Cell, h[a]? = some cell → cell.vm.isStatics = false := fun cell hc => by
  obtain ⟨c', k, h1, -, -, h4, -⟩ := F
  cases h1.symm.trans hc
  exact h4
theorem own_noI {Z : State} {a0 : Array Value} {C K O : String} {n : Nat} (w : (Jvm.Cond.superclass C O).before a0 Z = true) (wo : (Jvm.Cond.noSuperclass O).before a0 Z = true) (wi : (Jvm.Cond.instantiable K n).before a0 Z = true) (hn : C ≠ K) (ho : O ≠ K) : ∃ c t, Z.vm.findClass C = some c ∧ Z.vm.findClass K = some t ∧ Z.vm.assignable c t = false := by
  obtain ⟨t, kt, g0, g2, g5, g7, -, -⟩ := Cond.instantiable_spec wi
  simp only [Bool.or_eq_false_iff] at g7
  obtain ⟨oc, ok, o1, o2, o3, -, -⟩ := Cond.noSuperclass_spec wo
  obtain ⟨c, h0⟩ := found_sup w
  obtain ⟨p, k, kp, h1, h2, h3, h4, h5, -, h7⟩ := Cond.superclass_spec h0 w
  cases o1.symm.trans h1
  have ne := ids_ne h0 g0 hn
  have neo := ids_ne o1 g0 ho
  have n3 : ∀ fuel, Z.vm.isSubclassAux fuel c t = false := fun fuel => by
    cases fuel with
    | zero => rfl
    | succ f =>
      have n4 : Z.vm.isSubclassAux f oc t = false := by
        cases f with
        | zero => rfl
        | succ f => simp [Vm.isSubclassAux, neo, o2, o3]
      simp [Vm.isSubclassAux, ne, h2, h4, n4]
  refine ⟨c, t, h0, g0, ?_⟩
  show Z.vm.assignableAux (255 + 1) c t = false
  simp [Vm.assignableAux, ne, h2, g2, h5, g5, g7, Vm.isSubclass, n3]
theorem own_ask {Z : State} {a0 : Array Value} {h : Heap} {a : Addr} {C K : String} (E : Exa Z h a C) (w : (Jvm.Cond.castable K K).before a0 Z = true) : Ins Z h a K true ∨ ∃ c t, Z.vm.findClass C = some c ∧ Z.vm.findClass K = some t ∧ Z.vm.assignable c t = false := by
  obtain ⟨cell, k, h1, h2, h3, h4, -⟩ := E
  cases ht : Z.vm.findClass K with
  | none => simp [Cond.before, Cond.holds, Cond.value, ht] at w
  | some t =>
    cases ha : Z.vm.assignable cell.cls t with
    | true => exact Or.inl ⟨cell, t, h1, ht, by rw [h4, ha]; rfl⟩
    | false => exact Or.inr ⟨cell.cls, t, h2, rfl, ha⟩
theorem own_dupX2 {tb : Tables} [Ours tb] {e : Env} {below : List Frame} {T target : State} {m : MethodId} {c : Code} {g : JFrame} (h : At T m c below) (hx : tb.exec = Jvm.exec) (hg : g.method = m) {x y z : Value} {rest : List Value} (hd : decode c.code g.pc = .ok (.dup_x2, 1)) (hs : g.stack = x :: y :: z :: rest) (hc : x.category = 1) (hc' : y.category = 1) (hc'' : z.category = 1)
    (hr : Steps tb e below (T.setTop { g with pc := g.pc + 1, stack := x :: y :: z :: x :: rest }) target) : Steps tb e below (T.setTop g) target := by
  subst hg
  jvm_step h [h.top, hx, hd, hs, hc, hc', hc'']
  exact hr
theorem own_dz : FP.dconst0 = FP.l2d 0 := by decide +kernel
theorem own_cat1 {x : Value} (h : x.isRef = true) : x.category = 1 := by cases x <;> first | rfl | cases h
theorem own_astoreN {tb : Tables} [Ours tb] {e : Env} {below : List Frame} {T target : State} {m : MethodId} {c : Code} {g : JFrame} (h : At T m c below) (hx : tb.exec = Jvm.exec) (hg : g.method = m) {k : Fin 4} {x : Value} {rest : List Value} {o : Slot} {l' : Array Slot} (hd : decode c.code g.pc = .ok (.astore_n k, 1)) (hs : g.stack = x :: rest) (hv : x.isRef = true) (hold : g.locals[k.val]? = some o) (ho : One o) (hl : g.locals.setIfInBounds k.val (.val x) = l')
    (hr : Steps tb e below (T.setTop { g with pc := g.pc + 1, stack := rest, locals := l' }) target) : Steps tb e below (T.setTop g) target := XS.astoreN h hx hg hd hs hv (l' := l') (by rw [← hl]; exact XS.store1 hold ho (own_cat1 hv)) hr
theorem own_astore {tb : Tables} [Ours tb] {e : Env} {below : List Frame} {T target : State} {m : MethodId} {c : Code} {g : JFrame} (h : At T m c below) (hx : tb.exec = Jvm.exec) (hg : g.method = m) {k : Nat} {x : Value} {rest : List Value} {o : Slot} {l' : Array Slot} (hd : decode c.code g.pc = .ok (.astore k, 2)) (hs : g.stack = x :: rest) (hv : x.isRef = true) (hold : g.locals[k]? = some o) (ho : One o) (hl : g.locals.setIfInBounds k (.val x) = l')
    (hr : Steps tb e below (T.setTop { g with pc := g.pc + 2, stack := rest, locals := l' }) target) : Steps tb e below (T.setTop g) target := XS.astore h hx hg hd hs hv (l' := l') (by rw [← hl]; exact XS.store1 hold ho (own_cat1 hv)) hr
end OwnKit
def own_max (a b : Int32) : Int32 := if a < b then b else a
theorem own_maxr (s : Int32) : 1024 ≤ (own_max 1024 (s &&& (2047 : Int32))).toInt ∧ (own_max 1024 (s &&& (2047 : Int32))).toInt ≤ 2047 := by
  have e := c_mask s 2047 11 (by decide) (by decide)
  have q : (1024 : Int32).toInt = 1024 := by decide
  unfold own_max
  by_cases c : (1024 : Int32) < (s &&& (2047 : Int32))
  · rw [if_pos c]; rw [Int32.lt_iff_toInt_lt] at c; omega
  · rw [if_neg c]; omega
theorem own_and (x : Int32) : 0 ≤ (x &&& (2147483647 : Int32)).toInt ∧ (x &&& (2147483647 : Int32)).toInt ≤ 2147483647 := c_and x (2147483647 : Int32) (by decide)
theorem own_rem (x z : Int32) (hz : 0 < z.toInt) : 0 ≤ ((x &&& (2147483647 : Int32)) % z).toInt ∧ ((x &&& (2147483647 : Int32)) % z).toInt < z.toInt := by
  have h := (c_iremV (x &&& (2147483647 : Int32)) z).1 (own_and x).1 hz
  omega
theorem own_nz (z : Int32) (h : 0 < z.toInt) : z ≠ 0 := fun q => by rw [q] at h; exact absurd h (by decide)
theorem own_sub (z f : Int32) (hz : z.toInt ≤ 2047) (h0 : 0 ≤ f.toInt) (h1 : f.toInt < z.toInt) : (z - f).toInt = z.toInt - f.toInt ∧ 0 < (z - f).toInt := by
  have e := c_isub z f
  have r := rng32 (z - f)
  omega
theorem own_in (z f s : Int32) (hz : z.toInt ≤ 2047) (h0 : 0 ≤ f.toInt) (h1 : f.toInt < z.toInt) (h2 : 0 ≤ s.toInt) (h3 : s.toInt < (z - f).toInt) : ¬ (f + s) < 0 ∧ (f + s) < z := by
  have e := c_iadd f s
  have r := rng32 (f + s)
  have q := own_sub z f hz h0 h1
  rw [Int32.lt_iff_toInt_lt, Int32.lt_iff_toInt_lt]
  show ¬ (f + s).toInt < 0 ∧ _
  omega
theorem own_in0 (z s : Int32) (h2 : 0 ≤ s.toInt) (h3 : s.toInt < z.toInt) : ¬ ((0 : Int32) + s) < 0 ∧ ((0 : Int32) + s) < z := by
  rw [Int32.zero_add, Int32.lt_iff_toInt_lt, Int32.lt_iff_toInt_lt]
  show ¬ s.toInt < 0 ∧ _
  omega
theorem own_cap (z : Int32) (h : 1024 ≤ z.toInt ∧ z.toInt ≤ 2047) : ¬ z < 0 ∧ z.toNatClampNeg ≤ 2047 := by
  refine ⟨?_, ?_⟩
  · rw [Int32.lt_iff_toInt_lt]; show ¬ z.toInt < 0; omega
  · show z.toInt.toNat ≤ 2047; omega
theorem own_gt (i : Int32) (w : Value) (h : ¬ i < 0) : getH [] [] w i.toNatClampNeg = w := rfl
theorem own_ef_max (m : MethodId) (p1 : Int32) (p2 : Int32) : entryFrame m #[(.int p1), (.int p2)] 2 = mkF m 0 #[.val (.int p1), .val (.int p2)] [] := by first | (simp [entryFrame, mkF, argsToLocals, Value.category]; done) | rfl
def own_Q_max (Z : State) (p1 : Int32) (p2 : Int32)  (h0 : Heap) (n0 : Nat) (v : Option Value) (h : Heap) (L : List Loc) : Prop := v = some (.int (own_max p1 p2)) ∧ Fr n0 L ∧ h = h0
theorem own_d_jdk_29_method_65_code_0 : decode jdk_29_method_65_code 0 = .ok (.iload_n 0, 1) := by decide +kernel
theorem own_d_jdk_29_method_65_code_1 : decode jdk_29_method_65_code 1 = .ok (.iload_n 1, 1) := by decide +kernel
theorem own_d_jdk_29_method_65_code_2 : decode jdk_29_method_65_code 2 = .ok (.if_icmp .lt 7, 3) := by decide +kernel
theorem own_d_jdk_29_method_65_code_9 : decode jdk_29_method_65_code 9 = .ok (.iload_n 1, 1) := by decide +kernel
theorem own_d_jdk_29_method_65_code_5 : decode jdk_29_method_65_code 5 = .ok (.iload_n 0, 1) := by decide +kernel
theorem own_d_jdk_29_method_65_code_6 : decode jdk_29_method_65_code 6 = .ok (.goto 4, 3) := by decide +kernel
theorem own_d_jdk_29_method_65_code_10 : decode jdk_29_method_65_code 10 = .ok (.ireturn, 1) := by decide +kernel
set_option maxRecDepth 65536 in
set_option maxHeartbeats 40000000 in
theorem own_rm_max (l : Launch) (Z : State) (a0 : Array Value) (hw : ∀ d ∈ tables_1, d.before a0 Z = true) (ws : List Jvm.Cond) (p1 : Int32) (p2 : Int32)  (h0 : Heap) (n0 : Nat) (Z0 : n0 ≤ h0.size)  :
    MetFree l (⟨"java/lang/Math", "max", "(II)I"⟩ : MethodName) (head1 (Jvm.Cond.code (⟨"java/lang/Math", "max", "(II)I"⟩ : MethodName) jdk_29_method_65_code 2 (some .int) :: ws) ({ frames := 0, cells := 0, slots := 0, locals := 0 } : Room)) (fun a U => a = #[(.int p1), (.int p2)] ∧ Z.Warmed39 U.vm ∧ U.heap = h0) (fun _ _ _ _ _ => True) (fun _ U o U' => ∃ v L, o = .returned v ∧ own_Q_max Z p1 p2  h0 n0 v U'.heap L ∧ FrameEnd U o U' L ({ frames := 0, cells := 0, slots := 0, locals := 0 } : Room).cells ({ frames := 0, cells := 0, slots := 0, locals := 0 } : Room).slots) := by
  refine MetFree.of_bodySF (Jvm.Free.JP.mathPlain rfl (by decide +kernel)) hisR ?_
  intro p e s m args below meth c s₁ Bd hml0 hP hK
  obtain ⟨rfl, hZ, hh⟩ := hP
  have hx := Bd.exec
  have hby := Bd.bytes
  have hml : c.maxLocals = 2 := hml0
  have hown : s.vm.findClass "java/lang/Math" = some m.cls := findClass_of_methodNamed Bd.named
  have hnm := (name_of_methodNamed Bd.named Bd.method).1
  have X0 : Stand p l e ({ frames := 0, cells := 0, slots := 0, locals := 0 } : Room) s m #[(.int p1), (.int p2)] below meth c s₁ [] 0 0 := Stand.of_body Bd
  have e0 : s₁.heap = h0 := by rw [← hh, Bd.state]; rfl
  have N0 := Fr.nil n0
  refine own_start (own_ef_max m p1 p2 ) ?_
  refine own_of (T' := s₁) (f' := (mkF m 2 #[.val (.int p1), .val (.int p2)] [(.int p2), (.int p1)])) (fun t_ k_ => (XS.iloadN X0.here hx rfl (Jvm.hb hby own_d_jdk_29_method_65_code_0) rfl (XS.iloadN X0.here hx rfl (Jvm.hb hby own_d_jdk_29_method_65_code_1) rfl k_))) ?_
  obtain ⟨r, hr⟩ : ∃ z : Int32, z = (if p1 < p2 then p2 else p1) := ⟨_, rfl⟩
  have st2 : ∀ t_, Steps p.tables e below (s₁.setTop (mkF m 10 #[.val (.int p1), .val (.int p2)] [(.int r)])) t_ → Steps p.tables e below (s₁.setTop (mkF m 2 #[.val (.int p1), .val (.int p2)] [(.int p2), (.int p1)])) t_ := by
    intro t_ k_
    by_cases hc2_1 : (p1 < p2)
    · skip
      refine (XS.icmpYes X0.here hx rfl (pc0 := 2) (pc' := 9) rfl (Jvm.hb hby own_d_jdk_29_method_65_code_2) rfl (tlt hc2_1).1 (by decide) (by decide) (XS.iloadN X0.here hx rfl (Jvm.hb hby own_d_jdk_29_method_65_code_9) rfl ?_))
      show Steps p.tables e below (s₁.setTop (mkF m 10 #[.val (.int p1), .val (.int p2)] [(.int p2)])) t_
      rw [hr, if_pos hc2_1] at k_
      exact k_
    · skip
      refine (XS.icmpNo X0.here hx rfl (Jvm.hb hby own_d_jdk_29_method_65_code_2) rfl (flt hc2_1).1 (XS.iloadN X0.here hx rfl (Jvm.hb hby own_d_jdk_29_method_65_code_5) rfl (XS.goto X0.here hx rfl (pc0 := 6) (pc' := 10) rfl (Jvm.hb hby own_d_jdk_29_method_65_code_6) (by decide) (by decide) ?_)))
      show Steps p.tables e below (s₁.setTop (mkF m 10 #[.val (.int p1), .val (.int p2)] [(.int p1)])) t_
      rw [hr, if_neg hc2_1] at k_
      exact k_
  refine own_of (T' := s₁) (f' := (mkF m 10 #[.val (.int p1), .val (.int p2)] [(.int r)])) st2 ?_
  have er : own_max p1 p2 = r := hr.symm
  obtain ⟨fs, hr, hrun, hended, hW, hsame⟩ := X0.leave (v := some (.int r)) (fun h => by rw [Bd.returns] at h; cases h)
  exact ⟨_, _, own_retI X0 hx Bd.returns (Jvm.hb hby own_d_jdk_29_method_65_code_10) hr, hrun, hended, _, _, rfl, (by show own_Q_max Z p1 p2  h0 n0 _ s₁.heap _; rw [e0]; exact ⟨by rw [er], N0, rfl⟩), ⟨_, rfl⟩, hW, hsame.mono (by decide) (by decide)⟩
theorem own_pn_1 : plainName "com/example/kreide/kreide/interpreter/CallStack" = true := by first | (simp [plainName, overriddenIn]; done) | decide +kernel
theorem own_ef_init (m : MethodId) (a1 : Addr) (p2 : Int32) : entryFrame m #[(.ref a1), (.int p2)] 2 = mkF m 0 #[.val (.ref a1), .val (.int p2)] [] := by first | (simp [entryFrame, mkF, argsToLocals, Value.category]; done) | rfl
def own_Q_init (Z : State) (a1 : Addr) (p2 : Int32)  (h0 : Heap) (n0 : Nat) (v : Option Value) (h : Heap) (L : List Loc) : Prop := v = none ∧ Fr n0 L ∧ Keep h0 h [a1] ∧ Exa Z h a1 "com/example/kreide/kreide/interpreter/CallStack" ∧ ∃ b k, h0.size ≤ b ∧ Fld Z h a1 "com/example/kreide/kreide/interpreter/CallStack" "primitives" "[J" (.ref b) ∧ Fld Z h a1 "com/example/kreide/kreide/interpreter/CallStack" "references" "[Ljava/lang/Object;" .null ∧ Arh Z h b k .long (own_max 1024 p2) [] [] (.long (0 : Int64))
theorem own_d_prog_14_method_1_code_0 : decode prog_14_method_1_code 0 = .ok (.aload_n 0, 1) := by decide +kernel
theorem own_d_prog_14_method_1_code_1 : decode prog_14_method_1_code 1 = .ok (.invokespecial 3, 3) := by decide +kernel
theorem own_d_prog_14_method_1_code_4 : decode prog_14_method_1_code 4 = .ok (.aload_n 0, 1) := by decide +kernel
theorem own_d_prog_14_method_1_code_5 : decode prog_14_method_1_code 5 = .ok (.sipush 1024, 3) := by decide +kernel
theorem own_d_prog_14_method_1_code_8 : decode prog_14_method_1_code 8 = .ok (.iload_n 1, 1) := by decide +kernel
theorem own_d_prog_14_method_1_code_9 : decode prog_14_method_1_code 9 = .ok (.invokestatic 11, 3) := by decide +kernel
theorem own_pd_0 : parseMethodDescriptor "(II)I" = some ⟨[.int, .int], some .int⟩ := by decide +kernel
theorem own_d_prog_14_method_1_code_12 : decode prog_14_method_1_code 12 = .ok (.newarray .long, 2) := by decide +kernel
theorem own_d_prog_14_method_1_code_14 : decode prog_14_method_1_code 14 = .ok (.putfield 17, 3) := by decide +kernel
theorem own_d_prog_14_method_1_code_17 : decode prog_14_method_1_code 17 = .ok (.aload_n 0, 1) := by decide +kernel
theorem own_d_prog_14_method_1_code_18 : decode prog_14_method_1_code 18 = .ok (.iload_n 1, 1) := by decide +kernel
theorem own_d_prog_14_method_1_code_19 : decode prog_14_method_1_code 19 = .ok (.putfield 21, 3) := by decide +kernel
theorem own_d_prog_14_method_1_code_22 : decode prog_14_method_1_code 22 = .ok (.return_, 1) := by decide +kernel
set_option maxRecDepth 65536 in
set_option maxHeartbeats 40000000 in
theorem own_rm_init (l : Launch) (Z : State) (a0 : Array Value) (hw : ∀ d ∈ tables_1, d.before a0 Z = true) (ws : List Jvm.Cond) (a1 : Addr) (p2 : Int32)  (h0 : Heap) (n0 : Nat) (Z0 : n0 ≤ h0.size) (F1 : Fld Z h0 a1 "com/example/kreide/kreide/interpreter/CallStack" "primitives" "[J" .null) (F2 : Fld Z h0 a1 "com/example/kreide/kreide/interpreter/CallStack" "references" "[Ljava/lang/Object;" .null) (F3 : Fld Z h0 a1 "com/example/kreide/kreide/interpreter/CallStack" "top" "I" (.int 0)) (E1 : Exa Z h0 a1 "com/example/kreide/kreide/interpreter/CallStack") (g_a1 : n0 ≤ a1) (hz : ¬ own_max 1024 p2 < 0 ∧ (own_max 1024 p2).toNatClampNeg ≤ 2047) :
    MetFree l (⟨"com/example/kreide/kreide/interpreter/CallStack", "<init>", "(I)V"⟩ : MethodName) (head1 (Jvm.Cond.code (⟨"com/example/kreide/kreide/interpreter/CallStack", "<init>", "(I)V"⟩ : MethodName) prog_14_method_1_code 2 none :: ws) ({ frames := 1, cells := 1, slots := 2047, locals := 14 } : Room)) (fun a U => a = #[(.ref a1), (.int p2)] ∧ Z.Warmed39 U.vm ∧ U.heap = h0) (fun _ _ _ _ _ => True) (fun _ U o U' => ∃ v L, o = .returned v ∧ own_Q_init Z a1 p2  h0 n0 v U'.heap L ∧ FrameEnd U o U' L ({ frames := 1, cells := 1, slots := 2047, locals := 14 } : Room).cells ({ frames := 1, cells := 1, slots := 2047, locals := 14 } : Room).slots) := by
  refine MetFree.of_bodySF (plainFor_of_name own_pn_1) hisR ?_
  intro p e s m args below meth c s₁ Bd hml0 hP hK
  obtain ⟨rfl, hZ, hh⟩ := hP
  have hx := Bd.exec
  have hby := Bd.bytes
  have hml : c.maxLocals = 2 := hml0
  have hown : s.vm.findClass "com/example/kreide/kreide/interpreter/CallStack" = some m.cls := findClass_of_methodNamed Bd.named
  have hnm := (name_of_methodNamed Bd.named Bd.method).1
  have X0 : Stand p l e ({ frames := 1, cells := 1, slots := 2047, locals := 14 } : Room) s m #[(.ref a1), (.int p2)] below meth c s₁ [] 0 0 := Stand.of_body Bd
  have e0 : s₁.heap = h0 := by rw [← hh, Bd.state]; rfl
  have N0 := Fr.nil n0
  refine own_start (own_ef_init m a1 p2 ) ?_
  have K0 : Keep h0 h0 [a1] := Keep.refl _ _
  obtain ⟨T1, X1, e1, st1⟩ := initO X0 hx hZ hown (hw _ (List.mem_of_getElem? (i := 41) rfl)) (hw _ (List.mem_of_getElem? (i := 17) rfl)) (hw _ (List.mem_of_getElem? (i := 18) rfl)) e0 (g := (mkF m 1 #[.val (.ref a1), .val (.int p2)] [(.ref a1)])) rfl (by rw [hml]; rfl) rfl (Jvm.hb hby own_d_prog_14_method_1_code_1) (by decide) (W := 0) (by show 2 * 0 + _ ≤ _; exact Nat.le_of_eq rfl) (by decide)
  refine own_of (T' := T1) (f' := (mkF m 9 #[.val (.ref a1), .val (.int p2)] [(.int p2), (.int (1024 : Int32)), (.ref a1)])) (fun t_ k_ => (XS.aloadN X0.here hx rfl (Jvm.hb hby own_d_prog_14_method_1_code_0) rfl rfl (st1 _ (XS.aloadN X1.here hx rfl (Jvm.hb hby own_d_prog_14_method_1_code_4) rfl rfl (XS.sipush X1.here hx rfl (Jvm.hb hby own_d_prog_14_method_1_code_5) (XS.iloadN X1.here hx rfl (Jvm.hb hby own_d_prog_14_method_1_code_8) rfl k_)))))) ?_
  obtain ⟨_, _, ⟨T2, L2, k2, n2⟩, -, X2, ⟨Lc2, hQ2, l2, y2, z2⟩, st2⟩ := Jvm.LawKit.callS X1 hx (y := (⟨"java/lang/Math", "max", "(II)I"⟩ : MethodName)) hown (mvT hZ (hw _ (List.mem_of_getElem? (i := 42) rfl))) (mvT hZ (hw _ (List.mem_of_getElem? (i := 1) rfl))) (mvT hZ (hw _ (List.mem_of_getElem? (i := 2) rfl))) (mvT hZ (hw _ (List.mem_of_getElem? (i := 3) rfl))) (by decide) (backOf (W := 1) (own_rm_max l Z a0 hw [] (1024 : Int32) p2 h0 n0 Z0) hZ (hw _ (List.mem_of_getElem? (i := 3) rfl)) (hw _ (List.mem_of_getElem? (i := 2) rfl)) (by decide) (by decide)) (g := (mkF m 9 #[.val (.ref a1), .val (.int p2)] [(.int p2), (.int (1024 : Int32)), (.ref a1)])) rfl (by rw [hml]; rfl) (argsL := [(.int (1024 : Int32)), (.int p2)]) (rest := [(.ref a1)]) (lenOf own_pd_0 rfl) rfl (by show 2 * 0 + _ ≤ _; exact Nat.le_of_eq rfl) (Jvm.hb hby own_d_prog_14_method_1_code_9) (fun _ _ => ⟨rfl, e1, Nat.le_of_ble_eq_true rfl, Nat.le_of_ble_eq_true rfl⟩)
  dsimp only [Pt.U, Pt.locs, Pt.cells, Pt.slots] at X2 l2 y2 z2 st2 hQ2
  subst l2 y2 z2
  obtain ⟨rfl, N2, e2⟩ := hQ2
  have N3 := Fr.app N0 N2
  refine own_of (T' := T2) (f' := (mkF m 12 #[.val (.ref a1), .val (.int p2)] [(.int (own_max (1024 : Int32) p2)), (.ref a1)])) (fun t_ k_ => (st2 _ k_)) ?_
  obtain ⟨T4, h4, k4, X4, e4, E4, A4, st4⟩ := newP X2 hx hZ (hw _ (List.mem_of_getElem? (i := 43) rfl)) e2 (g := (mkF m 12 #[.val (.ref a1), .val (.int p2)] [(.int (own_max (1024 : Int32) p2)), (.ref a1)])) rfl (Jvm.hb hby own_d_prog_14_method_1_code_12) rfl hz.1 (cap := 2047) hz.2 (by decide) (by decide) (by decide)
  obtain ⟨b, g4⟩ : ∃ z, z = h0.size := ⟨_, rfl⟩
  rw [← g4] at A4 st4
  have ne_a1_b : a1 ≠ b := by rw [g4]; exact Nat.ne_of_lt E1.lt
  have g_b : n0 ≤ b := Nat.le_trans Z0 (Nat.le_of_eq g4.symm)
  have sz_b : h0.size ≤ b := Nat.le_trans K0.1 (Nat.le_of_eq g4.symm)
  have f5 := K0.ext E4
  have f6 := Nat.le_trans Z0 E4.1
  have f7 := E1.ext E4
  have f8 := F1.ext E4
  have f9 := F2.ext E4
  have f10 := F3.ext E4
  refine own_of (T' := T4) (f' := (mkF m 14 #[.val (.ref a1), .val (.int p2)] [(.ref b), (.ref a1)])) (fun t_ k_ => (st4 _ k_)) ?_
  have f11 : Arh Z h4 b k4 .long (own_max (1024 : Int32) p2) [] [] (.long (0 : Int64)) := (Arv.new A4 hz.1).arh
  obtain ⟨T12, h12, X12, e12, W12, st12⟩ := putF X4 hx hZ hown (host := "") (Or.inl (hw _ (List.mem_of_getElem? (i := 44) rfl))) Via.refl e4 f8 f7 (Or.inl (hw _ (List.mem_of_getElem? (i := 45) rfl))) (hw _ (List.mem_of_getElem? (i := 36) rfl)) (ty := (.array .long)) (by decide) rfl rfl (g := (mkF m 14 #[.val (.ref a1), .val (.int p2)] [(.ref b), (.ref a1)])) rfl rfl (Jvm.hb hby own_d_prog_14_method_1_code_14)
  refine own_of (T' := T12) (f' := (mkF m 17 #[.val (.ref a1), .val (.int p2)] [])) (fun t_ k_ => (st12 _ k_)) ?_
  have N12 := Fr.snoc X12 N3 g_a1
  have f13 := f5.wr W12 (Or.inl (List.mem_of_getElem? (i := 0) rfl))
  have f14 := Nat.le_trans f6 (Keep.of_wr W12).1
  have f15 := f7.wr W12
  have f16 := f8.same W12
  have f17 := f9.other W12 (Or.inr (slot_ne (Or.inl (hw _ (List.mem_of_getElem? (i := 59) rfl))) (Or.inl (hw _ (List.mem_of_getElem? (i := 45) rfl))) (by decide) (t := (.array (.object "java/lang/Object"))) (t' := (.array .long)) (by decide) (by decide)))
  have f18 := f10.other W12 (Or.inr (slot_ne (Or.inl (hw _ (List.mem_of_getElem? (i := 47) rfl))) (Or.inl (hw _ (List.mem_of_getElem? (i := 45) rfl))) (by decide) (t := .int) (t' := (.array .long)) (by decide) (by decide)))
  have f19 := f11.other W12 (Ne.symm ne_a1_b)
  obtain ⟨T20, h20, X20, e20, W20, st20⟩ := putF X12 hx hZ hown (host := "") (Or.inl (hw _ (List.mem_of_getElem? (i := 46) rfl))) Via.refl e12 f18 f15 (Or.inl (hw _ (List.mem_of_getElem? (i := 47) rfl))) (hw _ (List.mem_of_getElem? (i := 36) rfl)) (ty := .int) (by decide) rfl rfl (g := (mkF m 19 #[.val (.ref a1), .val (.int p2)] [(.int p2), (.ref a1)])) rfl rfl (Jvm.hb hby own_d_prog_14_method_1_code_19)
  refine own_of (T' := T20) (f' := (mkF m 22 #[.val (.ref a1), .val (.int p2)] [])) (fun t_ k_ => (XS.aloadN X12.here hx rfl (Jvm.hb hby own_d_prog_14_method_1_code_17) rfl rfl (XS.iloadN X12.here hx rfl (Jvm.hb hby own_d_prog_14_method_1_code_18) rfl (st20 _ k_)))) ?_
  have N20 := Fr.snoc X20 N12 g_a1
  have f21 := f13.wr W20 (Or.inl (List.mem_of_getElem? (i := 0) rfl))
  have f22 := Nat.le_trans f14 (Keep.of_wr W20).1
  have f23 := f15.wr W20
  have f24 := f16.other W20 (Or.inr (slot_ne (Or.inl (hw _ (List.mem_of_getElem? (i := 45) rfl))) (Or.inl (hw _ (List.mem_of_getElem? (i := 47) rfl))) (by decide) (t := (.array .long)) (t' := .int) (by decide) (by decide)))
  have f25 := f17.other W20 (Or.inr (slot_ne (Or.inl (hw _ (List.mem_of_getElem? (i := 59) rfl))) (Or.inl (hw _ (List.mem_of_getElem? (i := 47) rfl))) (by decide) (t := (.array (.object "java/lang/Object"))) (t' := .int) (by decide) (by decide)))
  have f26 := f18.same W20
  have f27 := f19.other W20 (Ne.symm ne_a1_b)
  obtain ⟨fs, hr, hrun, hended, hW, hsame⟩ := X20.leave (v := none) (fun _ => rfl)
  exact ⟨_, _, X20.returnOut hx Bd.returns (Jvm.hb hby own_d_prog_14_method_1_code_22) hr, hrun, hended, _, _, rfl, (by show own_Q_init Z a1 p2  h0 n0 _ T20.heap _; rw [e20]; exact ⟨rfl, N20, f21, f23, b, _, sz_b, f24, f25, f27⟩), ⟨_, rfl⟩, hW, hsame.mono (by decide) (by decide)⟩
theorem own_ef_setL (m : MethodId) (a1 : Addr) (p2 : Int32) (p3 : Int32) (q4 : Int64) : entryFrame m #[(.ref a1), (.int p2), (.int p3), (.long q4)] 5 = mkF m 0 #[.val (.ref a1), .val (.int p2), .val (.int p3), .val (.long q4), .second] [] := by first | (simp [entryFrame, mkF, argsToLocals, Value.category]; done) | rfl
def own_Q_setL (Z : State) (a1 : Addr) (p2 : Int32) (p3 : Int32) (q4 : Int64) (pa : Addr) (k : ClassId) (z : Int32) (hs : List (Int32 × Value)) (h0 : Heap) (n0 : Nat) (v : Option Value) (h : Heap) (L : List Loc) : Prop := v = none ∧ Fr n0 L ∧ Keep h0 h [pa] ∧ Arh Z h pa k .long z (((p2 + p3), .long q4) :: hs) [] (.long (0 : Int64))
theorem own_d_prog_14_method_19_code_0 : decode prog_14_method_19_code 0 = .ok (.aload_n 0, 1) := by decide +kernel
theorem own_d_prog_14_method_19_code_1 : decode prog_14_method_19_code 1 = .ok (.getfield 17, 3) := by decide +kernel
theorem own_d_prog_14_method_19_code_4 : decode prog_14_method_19_code 4 = .ok (.iload_n 1, 1) := by decide +kernel
theorem own_d_prog_14_method_19_code_5 : decode prog_14_method_19_code 5 = .ok (.iload_n 2, 1) := by decide +kernel
theorem own_d_prog_14_method_19_code_6 : decode prog_14_method_19_code 6 = .ok (.iadd, 1) := by decide +kernel
theorem own_d_prog_14_method_19_code_7 : decode prog_14_method_19_code 7 = .ok (.lload_n 3, 1) := by decide +kernel
theorem own_d_prog_14_method_19_code_8 : decode prog_14_method_19_code 8 = .ok (.lastore, 1) := by decide +kernel
theorem own_d_prog_14_method_19_code_9 : decode prog_14_method_19_code 9 = .ok (.return_, 1) := by decide +kernel
set_option maxRecDepth 65536 in
set_option maxHeartbeats 40000000 in
theorem own_rm_setL (l : Launch) (Z : State) (a0 : Array Value) (hw : ∀ d ∈ tables_1, d.before a0 Z = true) (ws : List Jvm.Cond) (a1 : Addr) (p2 : Int32) (p3 : Int32) (q4 : Int64) (pa : Addr) (k : ClassId) (z : Int32) (hs : List (Int32 × Value)) (h0 : Heap) (n0 : Nat) (Z0 : n0 ≤ h0.size) (F1 : Fld Z h0 a1 "com/example/kreide/kreide/interpreter/CallStack" "primitives" "[J" (.ref pa)) (Ah : Arh Z h0 pa k .long z hs [] (.long (0 : Int64))) (hi : ¬ (p2 + p3) < 0 ∧ (p2 + p3) < z) (g_pa : n0 ≤ pa) :
    MetFree l (⟨"com/example/kreide/kreide/interpreter/CallStack", "setLongAt", "(IIJ)V"⟩ : MethodName) (head1 (Jvm.Cond.code (⟨"com/example/kreide/kreide/interpreter/CallStack", "setLongAt", "(IIJ)V"⟩ : MethodName) prog_14_method_19_code 5 none :: ws) ({ frames := 0, cells := 0, slots := 0, locals := 0 } : Room)) (fun a U => a = #[(.ref a1), (.int p2), (.int p3), (.long q4)] ∧ Z.Warmed39 U.vm ∧ U.heap = h0) (fun _ _ _ _ _ => True) (fun _ U o U' => ∃ v L, o = .returned v ∧ own_Q_setL Z a1 p2 p3 q4 pa k z hs h0 n0 v U'.heap L ∧ FrameEnd U o U' L ({ frames := 0, cells := 0, slots := 0, locals := 0 } : Room).cells ({ frames := 0, cells := 0, slots := 0, locals := 0 } : Room).slots) := by
  refine MetFree.of_bodySF (plainFor_of_name own_pn_1) hisR ?_
  intro p e s m args below meth c s₁ Bd hml0 hP hK
  obtain ⟨rfl, hZ, hh⟩ := hP
  have hx := Bd.exec
  have hby := Bd.bytes
  have hml : c.maxLocals = 5 := hml0
  have hown : s.vm.findClass "com/example/kreide/kreide/interpreter/CallStack" = some m.cls := findClass_of_methodNamed Bd.named
  have hnm := (name_of_methodNamed Bd.named Bd.method).1
  have X0 : Stand p l e ({ frames := 0, cells := 0, slots := 0, locals := 0 } : Room) s m #[(.ref a1), (.int p2), (.int p3), (.long q4)] below meth c s₁ [] 0 0 := Stand.of_body Bd
  have e0 : s₁.heap = h0 := by rw [← hh, Bd.state]; rfl
  have N0 := Fr.nil n0
  refine own_start (own_ef_setL m a1 p2 p3 q4 ) ?_
  have K0 : Keep h0 h0 [pa] := Keep.refl _ _
  obtain ⟨T1, X1, e1, st1⟩ := getF X0 hx hZ hown (host := "") (Or.inl (hw _ (List.mem_of_getElem? (i := 44) rfl))) Via.refl e0 F1 (g := (mkF m 1 #[.val (.ref a1), .val (.int p2), .val (.int p3), .val (.long q4), .second] [(.ref a1)])) rfl rfl (Jvm.hb hby own_d_prog_14_method_19_code_1)
  refine own_of (T' := T1) (f' := (mkF m 8 #[.val (.ref a1), .val (.int p2), .val (.int p3), .val (.long q4), .second] [(.long q4), (.int (p2 + p3)), (.ref pa)])) (fun t_ k_ => (XS.aloadN X0.here hx rfl (Jvm.hb hby own_d_prog_14_method_19_code_0) rfl rfl (st1 _ (XS.iloadN X1.here hx rfl (Jvm.hb hby own_d_prog_14_method_19_code_4) rfl (XS.iloadN X1.here hx rfl (Jvm.hb hby own_d_prog_14_method_19_code_5) rfl (XS.iadd X1.here hx rfl (Jvm.hb hby own_d_prog_14_method_19_code_6) rfl (XS.lloadN X1.here hx rfl (Jvm.hb hby own_d_prog_14_method_19_code_7) rfl k_))))))) ?_
  obtain ⟨cl2, Ar2, qq2, Sz2, Nn2, Hh2, Gg2⟩ := Ah
  have hin2 : ¬ ((p2 + p3) < 0 ∨ cl2.slots.size ≤ ((p2 + p3)).toNatClampNeg) := inb_of Sz2 hi
  obtain ⟨T2, h2, X2, e2, W2, st2⟩ := stJ X1 hx hZ e1 Ar2 (j := (p2 + p3)) hin2 (g := (mkF m 8 #[.val (.ref a1), .val (.int p2), .val (.int p3), .val (.long q4), .second] [(.long q4), (.int (p2 + p3)), (.ref pa)])) rfl rfl (Jvm.hb hby own_d_prog_14_method_19_code_8)
  refine own_of (T' := T2) (f' := (mkF m 9 #[.val (.ref a1), .val (.int p2), .val (.int p3), .val (.long q4), .second] [])) (fun t_ k_ => (st2 _ k_)) ?_
  have N2 := Fr.snoc X2 N0 g_pa
  have Ah2 := Arh.push Ar2 qq2 Sz2 Nn2 Hh2 Gg2 rfl W2 hin2
  have f3 := K0.wr W2 (Or.inl (List.mem_of_getElem? (i := 0) rfl))
  obtain ⟨fs, hr, hrun, hended, hW, hsame⟩ := X2.leave (v := none) (fun _ => rfl)
  exact ⟨_, _, X2.returnOut hx Bd.returns (Jvm.hb hby own_d_prog_14_method_19_code_9) hr, hrun, hended, _, _, rfl, (by show own_Q_setL Z a1 p2 p3 q4 pa k z hs h0 n0 _ T2.heap _; rw [e2]; exact ⟨rfl, N2, f3, Ah2⟩), ⟨_, rfl⟩, hW, hsame.mono (by decide) (by decide)⟩
theorem own_ef_setO1 (m : MethodId) (a1 : Addr) (p2 : Int32) (p3 : Int32) (a4 : Addr) : entryFrame m #[(.ref a1), (.int p2), (.int p3), (.ref a4)] 4 = mkF m 0 #[.val (.ref a1), .val (.int p2), .val (.int p3), .val (.ref a4)] [] := by first | (simp [entryFrame, mkF, argsToLocals, Value.category]; done) | rfl
def own_Q_setO1 (Z : State) (a1 : Addr) (p2 : Int32) (p3 : Int32) (a4 : Addr) (pa : Addr) (k : ClassId) (z : Int32) (hs : List (Int32 × Value)) (h0 : Heap) (n0 : Nat) (v : Option Value) (h : Heap) (L : List Loc) : Prop := v = none ∧ Fr n0 L ∧ Keep h0 h [a1] ∧ Exa Z h a1 "com/example/kreide/kreide/interpreter/CallStack" ∧ Fld Z h a1 "com/example/kreide/kreide/interpreter/CallStack" "primitives" "[J" (.ref pa) ∧ ∃ b kb, h0.size ≤ b ∧ Fld Z h a1 "com/example/kreide/kreide/interpreter/CallStack" "references" "[Ljava/lang/Object;" (.ref b) ∧ Arh Z h b kb (.object "java/lang/Object") z [((p2 + p3), .ref a4)] [] .null ∧ Ovr Z kb "java/lang/Object"
theorem own_d_prog_14_method_25_code_0 : decode prog_14_method_25_code 0 = .ok (.aload_n 0, 1) := by decide +kernel
theorem own_d_prog_14_method_25_code_1 : decode prog_14_method_25_code 1 = .ok (.getfield 54, 3) := by decide +kernel
theorem own_d_prog_14_method_25_code_4 : decode prog_14_method_25_code 4 = .ok (.ifnonnull 15, 3) := by decide +kernel
theorem own_d_prog_14_method_25_code_7 : decode prog_14_method_25_code 7 = .ok (.aload_n 0, 1) := by decide +kernel
theorem own_d_prog_14_method_25_code_8 : decode prog_14_method_25_code 8 = .ok (.aload_n 0, 1) := by decide +kernel
theorem own_d_prog_14_method_25_code_9 : decode prog_14_method_25_code 9 = .ok (.getfield 17, 3) := by decide +kernel
theorem own_d_prog_14_method_25_code_12 : decode prog_14_method_25_code 12 = .ok (.arraylength, 1) := by decide +kernel
theorem own_d_prog_14_method_25_code_13 : decode prog_14_method_25_code 13 = .ok (.anewarray 4, 3) := by decide +kernel
theorem own_d_prog_14_method_25_code_16 : decode prog_14_method_25_code 16 = .ok (.putfield 54, 3) := by decide +kernel
theorem own_d_prog_14_method_25_code_19 : decode prog_14_method_25_code 19 = .ok (.aload_n 0, 1) := by decide +kernel
theorem own_d_prog_14_method_25_code_20 : decode prog_14_method_25_code 20 = .ok (.getfield 54, 3) := by decide +kernel
theorem own_d_prog_14_method_25_code_23 : decode prog_14_method_25_code 23 = .ok (.iload_n 1, 1) := by decide +kernel
theorem own_d_prog_14_method_25_code_24 : decode prog_14_method_25_code 24 = .ok (.iload_n 2, 1) := by decide +kernel
theorem own_d_prog_14_method_25_code_25 : decode prog_14_method_25_code 25 = .ok (.iadd, 1) := by decide +kernel
theorem own_d_prog_14_method_25_code_26 : decode prog_14_method_25_code 26 = .ok (.aload_n 3, 1) := by decide +kernel
theorem own_d_prog_14_method_25_code_27 : decode prog_14_method_25_code 27 = .ok (.aastore, 1) := by decide +kernel
theorem own_d_prog_14_method_25_code_28 : decode prog_14_method_25_code 28 = .ok (.return_, 1) := by decide +kernel
set_option maxRecDepth 65536 in
set_option maxHeartbeats 40000000 in
theorem own_rm_setO1 (l : Launch) (Z : State) (a0 : Array Value) (hw : ∀ d ∈ tables_1, d.before a0 Z = true) (ws : List Jvm.Cond) (a1 : Addr) (p2 : Int32) (p3 : Int32) (a4 : Addr) (pa : Addr) (k : ClassId) (z : Int32) (hs : List (Int32 × Value)) (h0 : Heap) (n0 : Nat) (Z0 : n0 ≤ h0.size) (F1 : Fld Z h0 a1 "com/example/kreide/kreide/interpreter/CallStack" "primitives" "[J" (.ref pa)) (F2 : Fld Z h0 a1 "com/example/kreide/kreide/interpreter/CallStack" "references" "[Ljava/lang/Object;" .null) (E1 : Exa Z h0 a1 "com/example/kreide/kreide/interpreter/CallStack") (E4 : Exa Z h0 a4 "java/lang/String") (Ap : Arh Z h0 pa k .long z hs [] (.long (0 : Int64))) (hi : ¬ (p2 + p3) < 0 ∧ (p2 + p3) < z) (hz : ¬ z < 0 ∧ z.toNatClampNeg ≤ 2047) (g_a1 : n0 ≤ a1) :
    MetFree l (⟨"com/example/kreide/kreide/interpreter/CallStack", "setObjectAt", "(IILjava/lang/Object;)V"⟩ : MethodName) (head1 (Jvm.Cond.code (⟨"com/example/kreide/kreide/interpreter/CallStack", "setObjectAt", "(IILjava/lang/Object;)V"⟩ : MethodName) prog_14_method_25_code 4 none :: ws) ({ frames := 0, cells := 1, slots := 2047, locals := 0 } : Room)) (fun a U => a = #[(.ref a1), (.int p2), (.int p3), (.ref a4)] ∧ Z.Warmed39 U.vm ∧ U.heap = h0) (fun _ _ _ _ _ => True) (fun _ U o U' => ∃ v L, o = .returned v ∧ own_Q_setO1 Z a1 p2 p3 a4 pa k z hs h0 n0 v U'.heap L ∧ FrameEnd U o U' L ({ frames := 0, cells := 1, slots := 2047, locals := 0 } : Room).cells ({ frames := 0, cells := 1, slots := 2047, locals := 0 } : Room).slots) := by
  refine MetFree.of_bodySF (plainFor_of_name own_pn_1) hisR ?_
  intro p e s m args below meth c s₁ Bd hml0 hP hK
  obtain ⟨rfl, hZ, hh⟩ := hP
  have hx := Bd.exec
  have hby := Bd.bytes
  have hml : c.maxLocals = 4 := hml0
  have hown : s.vm.findClass "com/example/kreide/kreide/interpreter/CallStack" = some m.cls := findClass_of_methodNamed Bd.named
  have hnm := (name_of_methodNamed Bd.named Bd.method).1
  have X0 : Stand p l e ({ frames := 0, cells := 1, slots := 2047, locals := 0 } : Room) s m #[(.ref a1), (.int p2), (.int p3), (.ref a4)] below meth c s₁ [] 0 0 := Stand.of_body Bd
  have e0 : s₁.heap = h0 := by rw [← hh, Bd.state]; rfl
  have N0 := Fr.nil n0
  refine own_start (own_ef_setO1 m a1 p2 p3 a4 ) ?_
  have K0 : Keep h0 h0 [a1] := Keep.refl _ _
  obtain ⟨T1, X1, e1, st1⟩ := getF X0 hx hZ hown (host := "") (Or.inl (hw _ (List.mem_of_getElem? (i := 58) rfl))) Via.refl e0 F2 (g := (mkF m 1 #[.val (.ref a1), .val (.int p2), .val (.int p3), .val (.ref a4)] [(.ref a1)])) rfl rfl (Jvm.hb hby own_d_prog_14_method_25_code_1)
  obtain ⟨T2, X2, e2, st2⟩ := getF X1 hx hZ hown (host := "") (Or.inl (hw _ (List.mem_of_getElem? (i := 44) rfl))) Via.refl e1 F1 (g := (mkF m 9 #[.val (.ref a1), .val (.int p2), .val (.int p3), .val (.ref a4)] [(.ref a1), (.ref a1)])) rfl rfl (Jvm.hb hby own_d_prog_14_method_25_code_9)
  refine own_of (T' := T2) (f' := (mkF m 12 #[.val (.ref a1), .val (.int p2), .val (.int p3), .val (.ref a4)] [(.ref pa), (.ref a1)])) (fun t_ k_ => (XS.aloadN X0.here hx rfl (Jvm.hb hby own_d_prog_14_method_25_code_0) rfl rfl (st1 _ (XS.ifnonnullNo X1.here hx rfl (Jvm.hb hby own_d_prog_14_method_25_code_4) rfl (XS.aloadN X1.here hx rfl (Jvm.hb hby own_d_prog_14_method_25_code_7) rfl rfl (XS.aloadN X1.here hx rfl (Jvm.hb hby own_d_prog_14_method_25_code_8) rfl rfl (st2 _ k_))))))) ?_
  obtain ⟨clz, Arz, -, Szz, Nnz, -⟩ := id Ap
  refine own_of (T' := T2) (f' := (mkF m 13 #[.val (.ref a1), .val (.int p2), .val (.int p3), .val (.ref a4)] [(.int (clz.slots.size).toInt32), (.ref a1)])) (fun t_ k_ => (X2.arraylength hx (by rw [e2]; exact Arz.1) (State.isArrayOf_alike hZ.alike Arz.2.1) (g := (mkF m 12 #[.val (.ref a1), .val (.int p2), .val (.int p3), .val (.ref a4)] [(.ref pa), (.ref a1)])) rfl rfl (Jvm.hb hby own_d_prog_14_method_25_code_12) _ k_)) ?_
  rw [len_of Szz Nnz]
  obtain ⟨T3, h3, k3, X3, e3, E3, A3, Ov3, st3⟩ := newR X2 hx hZ hown (hw _ (List.mem_of_getElem? (i := 60) rfl)) (hw _ (List.mem_of_getElem? (i := 61) rfl)) e2 (g := (mkF m 13 #[.val (.ref a1), .val (.int p2), .val (.int p3), .val (.ref a4)] [(.int z), (.ref a1)])) rfl (Jvm.hb hby own_d_prog_14_method_25_code_13) rfl hz.1 (cap := 2047) hz.2 (by decide) (by decide) (by decide)
  obtain ⟨b, g3⟩ : ∃ z, z = h0.size := ⟨_, rfl⟩
  rw [← g3] at A3 st3
  have ne_a1_b : a1 ≠ b := by rw [g3]; exact Nat.ne_of_lt E1.lt
  have ne_a4_b : a4 ≠ b := by rw [g3]; exact Nat.ne_of_lt E4.lt
  have g_b : n0 ≤ b := Nat.le_trans Z0 (Nat.le_of_eq g3.symm)
  have sz_b : h0.size ≤ b := Nat.le_trans K0.1 (Nat.le_of_eq g3.symm)
  have f4 := K0.ext E3
  have f5 := Nat.le_trans Z0 E3.1
  have f6 := E1.ext E3
  have f7 := E4.ext E3
  have f8 := F1.ext E3
  have f9 := F2.ext E3
  refine own_of (T' := T3) (f' := (mkF m 16 #[.val (.ref a1), .val (.int p2), .val (.int p3), .val (.ref a4)] [(.ref b), (.ref a1)])) (fun t_ k_ => (st3 _ k_)) ?_
  have f10 : Arh Z h3 b k3 (.object "java/lang/Object") z [] [] .null := (Arv.new A3 hz.1).arh
  have Ovb := Ov3
  obtain ⟨T11, h11, X11, e11, W11, st11⟩ := putF X3 hx hZ hown (host := "") (Or.inl (hw _ (List.mem_of_getElem? (i := 58) rfl))) Via.refl e3 f9 f6 (Or.inl (hw _ (List.mem_of_getElem? (i := 59) rfl))) (hw _ (List.mem_of_getElem? (i := 36) rfl)) (ty := (.array (.object "java/lang/Object"))) (by decide) rfl rfl (g := (mkF m 16 #[.val (.ref a1), .val (.int p2), .val (.int p3), .val (.ref a4)] [(.ref b), (.ref a1)])) rfl rfl (Jvm.hb hby own_d_prog_14_method_25_code_16)
  refine own_of (T' := T11) (f' := (mkF m 19 #[.val (.ref a1), .val (.int p2), .val (.int p3), .val (.ref a4)] [])) (fun t_ k_ => (st11 _ k_)) ?_
  have N11 := Fr.snoc X11 N0 g_a1
  have f12 := f4.wr W11 (Or.inl (List.mem_of_getElem? (i := 0) rfl))
  have f13 := Nat.le_trans f5 (Keep.of_wr W11).1
  have f14 := f6.wr W11
  have f15 := f7.wr W11
  have f16 := f8.other W11 (Or.inr (slot_ne (Or.inl (hw _ (List.mem_of_getElem? (i := 45) rfl))) (Or.inl (hw _ (List.mem_of_getElem? (i := 59) rfl))) (by decide) (t := (.array .long)) (t' := (.array (.object "java/lang/Object"))) (by decide) (by decide)))
  have f17 := f9.same W11
  have f18 := f10.other W11 (Ne.symm ne_a1_b)
  obtain ⟨T19, X19, e19, st19⟩ := getF X11 hx hZ hown (host := "") (Or.inl (hw _ (List.mem_of_getElem? (i := 58) rfl))) Via.refl e11 f17 (g := (mkF m 20 #[.val (.ref a1), .val (.int p2), .val (.int p3), .val (.ref a4)] [(.ref a1)])) rfl rfl (Jvm.hb hby own_d_prog_14_method_25_code_20)
  refine own_of (T' := T19) (f' := (mkF m 27 #[.val (.ref a1), .val (.int p2), .val (.int p3), .val (.ref a4)] [(.ref a4), (.int (p2 + p3)), (.ref b)])) (fun t_ k_ => (XS.aloadN X11.here hx rfl (Jvm.hb hby own_d_prog_14_method_25_code_19) rfl rfl (st19 _ (XS.iloadN X19.here hx rfl (Jvm.hb hby own_d_prog_14_method_25_code_23) rfl (XS.iloadN X19.here hx rfl (Jvm.hb hby own_d_prog_14_method_25_code_24) rfl (XS.iadd X19.here hx rfl (Jvm.hb hby own_d_prog_14_method_25_code_25) rfl (XS.aloadN X19.here hx rfl (Jvm.hb hby own_d_prog_14_method_25_code_26) rfl rfl k_))))))) ?_
  obtain ⟨cl20, Ar20, qq20, Sz20, Nn20, Hh20, Gg20⟩ := f18
  have hin20 : ¬ ((p2 + p3) < 0 ∨ cl20.slots.size ≤ ((p2 + p3)).toNatClampNeg) := inb_of Sz20 hi
  obtain ⟨T20, h20, X20, e20, W20, st20⟩ := stR X19 hx hZ e19 Ar20 (j := (p2 + p3)) hin20 rfl (Sto.of Ar20 (qq20 ▸ Ovb) (Ins.of_exa f15 (hw _ (List.mem_of_getElem? (i := 62) rfl)))) (g := (mkF m 27 #[.val (.ref a1), .val (.int p2), .val (.int p3), .val (.ref a4)] [(.ref a4), (.int (p2 + p3)), (.ref b)])) rfl rfl (Jvm.hb hby own_d_prog_14_method_25_code_27)
  refine own_of (T' := T20) (f' := (mkF m 28 #[.val (.ref a1), .val (.int p2), .val (.int p3), .val (.ref a4)] [])) (fun t_ k_ => (st20 _ k_)) ?_
  have N20 := Fr.snoc X20 N11 g_b
  have Ah20 := Arh.push Ar20 qq20 Sz20 Nn20 Hh20 Gg20 rfl W20 hin20
  have f21 := f12.wr W20 (Or.inr sz_b)
  have f22 := Nat.le_trans f13 (Keep.of_wr W20).1
  have f23 := f14.wr W20
  have f24 := f15.wr W20
  have f25 := f16.other W20 (Or.inl ne_a1_b)
  have f26 := f17.other W20 (Or.inl ne_a1_b)
  obtain ⟨fs, hr, hrun, hended, hW, hsame⟩ := X20.leave (v := none) (fun _ => rfl)
  exact ⟨_, _, X20.returnOut hx Bd.returns (Jvm.hb hby own_d_prog_14_method_25_code_28) hr, hrun, hended, _, _, rfl, (by show own_Q_setO1 Z a1 p2 p3 a4 pa k z hs h0 n0 _ T20.heap _; rw [e20]; exact ⟨rfl, N20, f21, f23, f25, b, _, sz_b, f26, Ah20, Ovb⟩), ⟨_, rfl⟩, hW, hsame.mono (by decide) (by decide)⟩
theorem own_ef_setO2R (m : MethodId) (a1 : Addr) (p2 : Int32) (p3 : Int32) (a4 : Addr) : entryFrame m #[(.ref a1), (.int p2), (.int p3), (.ref a4)] 4 = mkF m 0 #[.val (.ref a1), .val (.int p2), .val (.int p3), .val (.ref a4)] [] := by first | (simp [entryFrame, mkF, argsToLocals, Value.category]; done) | rfl
def own_Q_setO2R (Z : State) (a1 : Addr) (p2 : Int32) (p3 : Int32) (a4 : Addr) (ra : Addr) (kb : ClassId) (z : Int32) (hs : List (Int32 × Value)) (h0 : Heap) (n0 : Nat) (v : Option Value) (h : Heap) (L : List Loc) : Prop := v = none ∧ Fr n0 L ∧ Keep h0 h [ra] ∧ Arh Z h ra kb (.object "java/lang/Object") z (((p2 + p3), .ref a4) :: hs) [] .null
set_option maxRecDepth 65536 in
set_option maxHeartbeats 40000000 in
theorem own_rm_setO2R (l : Launch) (Z : State) (a0 : Array Value) (hw : ∀ d ∈ tables_1, d.before a0 Z = true) (ws : List Jvm.Cond) (a1 : Addr) (p2 : Int32) (p3 : Int32) (a4 : Addr) (ra : Addr) (kb : ClassId) (z : Int32) (hs : List (Int32 × Value)) (h0 : Heap) (n0 : Nat) (Z0 : n0 ≤ h0.size) (F2 : Fld Z h0 a1 "com/example/kreide/kreide/interpreter/CallStack" "references" "[Ljava/lang/Object;" (.ref ra)) (Ah : Arh Z h0 ra kb (.object "java/lang/Object") z hs [] .null) (Ov : Ovr Z kb "java/lang/Object") (hi : ¬ (p2 + p3) < 0 ∧ (p2 + p3) < z) (E4 : Exa Z h0 a4 "java/lang/String") (g_ra : n0 ≤ ra) :
    MetFree l (⟨"com/example/kreide/kreide/interpreter/CallStack", "setObjectAt", "(IILjava/lang/Object;)V"⟩ : MethodName) (head1 (Jvm.Cond.code (⟨"com/example/kreide/kreide/interpreter/CallStack", "setObjectAt", "(IILjava/lang/Object;)V"⟩ : MethodName) prog_14_method_25_code 4 none :: ws) ({ frames := 0, cells := 0, slots := 0, locals := 0 } : Room)) (fun a U => a = #[(.ref a1), (.int p2), (.int p3), (.ref a4)] ∧ Z.Warmed39 U.vm ∧ U.heap = h0) (fun _ _ _ _ _ => True) (fun _ U o U' => ∃ v L, o = .returned v ∧ own_Q_setO2R Z a1 p2 p3 a4 ra kb z hs h0 n0 v U'.heap L ∧ FrameEnd U o U' L ({ frames := 0, cells := 0, slots := 0, locals := 0 } : Room).cells ({ frames := 0, cells := 0, slots := 0, locals := 0 } : Room).slots) := by
  refine MetFree.of_bodySF (plainFor_of_name own_pn_1) hisR ?_
  intro p e s m args below meth c s₁ Bd hml0 hP hK
  obtain ⟨rfl, hZ, hh⟩ := hP
  have hx := Bd.exec
  have hby := Bd.bytes
  have hml : c.maxLocals = 4 := hml0
  have hown : s.vm.findClass "com/example/kreide/kreide/interpreter/CallStack" = some m.cls := findClass_of_methodNamed Bd.named
  have hnm := (name_of_methodNamed Bd.named Bd.method).1
  have X0 : Stand p l e ({ frames := 0, cells := 0, slots := 0, locals := 0 } : Room) s m #[(.ref a1), (.int p2), (.int p3), (.ref a4)] below meth c s₁ [] 0 0 := Stand.of_body Bd
  have e0 : s₁.heap = h0 := by rw [← hh, Bd.state]; rfl
  have N0 := Fr.nil n0
  refine own_start (own_ef_setO2R m a1 p2 p3 a4 ) ?_
  have K0 : Keep h0 h0 [ra] := Keep.refl _ _
  obtain ⟨T1, X1, e1, st1⟩ := getF X0 hx hZ hown (host := "") (Or.inl (hw _ (List.mem_of_getElem? (i := 58) rfl))) Via.refl e0 F2 (g := (mkF m 1 #[.val (.ref a1), .val (.int p2), .val (.int p3), .val (.ref a4)] [(.ref a1)])) rfl rfl (Jvm.hb hby own_d_prog_14_method_25_code_1)
  obtain ⟨T2, X2, e2, st2⟩ := getF X1 hx hZ hown (host := "") (Or.inl (hw _ (List.mem_of_getElem? (i := 58) rfl))) Via.refl e1 F2 (g := (mkF m 20 #[.val (.ref a1), .val (.int p2), .val (.int p3), .val (.ref a4)] [(.ref a1)])) rfl rfl (Jvm.hb hby own_d_prog_14_method_25_code_20)
  refine own_of (T' := T2) (f' := (mkF m 26 #[.val (.ref a1), .val (.int p2), .val (.int p3), .val (.ref a4)] [(.int (p2 + p3)), (.ref ra)])) (fun t_ k_ => (XS.aloadN X0.here hx rfl (Jvm.hb hby own_d_prog_14_method_25_code_0) rfl rfl (st1 _ (XS.ifnonnullYes X1.here hx rfl (pc0 := 4) (pc' := 19) rfl (Jvm.hb hby own_d_prog_14_method_25_code_4) rfl (by decide) (by decide) (XS.aloadN X1.here hx rfl (Jvm.hb hby own_d_prog_14_method_25_code_19) rfl rfl (st2 _ (XS.iloadN X2.here hx rfl (Jvm.hb hby own_d_prog_14_method_25_code_23) rfl (XS.iloadN X2.here hx rfl (Jvm.hb hby own_d_prog_14_method_25_code_24) rfl (XS.iadd X2.here hx rfl (Jvm.hb hby own_d_prog_14_method_25_code_25) rfl k_))))))))) ?_
  refine own_of (T' := T2) (f' := (mkF m 27 #[.val (.ref a1), .val (.int p2), .val (.int p3), .val (.ref a4)] [(.ref a4), (.int (p2 + p3)), (.ref ra)])) (fun t_ k_ => (XS.aloadN X2.here hx rfl (Jvm.hb hby own_d_prog_14_method_25_code_26) rfl rfl k_)) ?_
  obtain ⟨cl3, Ar3, qq3, Sz3, Nn3, Hh3, Gg3⟩ := Ah
  have hin3 : ¬ ((p2 + p3) < 0 ∨ cl3.slots.size ≤ ((p2 + p3)).toNatClampNeg) := inb_of Sz3 hi
  obtain ⟨T3, h3, X3, e3, W3, st3⟩ := stR X2 hx hZ e2 Ar3 (j := (p2 + p3)) hin3 rfl (Sto.of Ar3 (qq3 ▸ Ov) (Ins.of_exa E4 (hw _ (List.mem_of_getElem? (i := 62) rfl)))) (g := (mkF m 27 #[.val (.ref a1), .val (.int p2), .val (.int p3), .val (.ref a4)] [(.ref a4), (.int (p2 + p3)), (.ref ra)])) rfl rfl (Jvm.hb hby own_d_prog_14_method_25_code_27)
  refine own_of (T' := T3) (f' := (mkF m 28 #[.val (.ref a1), .val (.int p2), .val (.int p3), .val (.ref a4)] [])) (fun t_ k_ => (st3 _ k_)) ?_
  have N3 := Fr.snoc X3 N0 g_ra
  have Ah3 := Arh.push Ar3 qq3 Sz3 Nn3 Hh3 Gg3 rfl W3 hin3
  have f4 := K0.wr W3 (Or.inl (List.mem_of_getElem? (i := 0) rfl))
  obtain ⟨fs, hr, hrun, hended, hW, hsame⟩ := X3.leave (v := none) (fun _ => rfl)
  exact ⟨_, _, X3.returnOut hx Bd.returns (Jvm.hb hby own_d_prog_14_method_25_code_28) hr, hrun, hended, _, _, rfl, (by show own_Q_setO2R Z a1 p2 p3 a4 ra kb z hs h0 n0 _ T3.heap _; rw [e3]; exact ⟨rfl, N3, f4, Ah3⟩), ⟨_, rfl⟩, hW, hsame.mono (by decide) (by decide)⟩
theorem own_ef_setO2N (m : MethodId) (a1 : Addr) (p2 : Int32) (p3 : Int32) : entryFrame m #[(.ref a1), (.int p2), (.int p3), .null] 4 = mkF m 0 #[.val (.ref a1), .val (.int p2), .val (.int p3), .val .null] [] := by first | (simp [entryFrame, mkF, argsToLocals, Value.category]; done) | rfl
def own_Q_setO2N (Z : State) (a1 : Addr) (p2 : Int32) (p3 : Int32) (ra : Addr) (kb : ClassId) (z : Int32) (hs : List (Int32 × Value)) (h0 : Heap) (n0 : Nat) (v : Option Value) (h : Heap) (L : List Loc) : Prop := v = none ∧ Fr n0 L ∧ Keep h0 h [ra] ∧ Arh Z h ra kb (.object "java/lang/Object") z (((p2 + p3), .null) :: hs) [] .null
set_option maxRecDepth 65536 in
set_option maxHeartbeats 40000000 in
theorem own_rm_setO2N (l : Launch) (Z : State) (a0 : Array Value) (hw : ∀ d ∈ tables_1, d.before a0 Z = true) (ws : List Jvm.Cond) (a1 : Addr) (p2 : Int32) (p3 : Int32) (ra : Addr) (kb : ClassId) (z : Int32) (hs : List (Int32 × Value)) (h0 : Heap) (n0 : Nat) (Z0 : n0 ≤ h0.size) (F2 : Fld Z h0 a1 "com/example/kreide/kreide/interpreter/CallStack" "references" "[Ljava/lang/Object;" (.ref ra)) (Ah : Arh Z h0 ra kb (.object "java/lang/Object") z hs [] .null) (Ov : Ovr Z kb "java/lang/Object") (hi : ¬ (p2 + p3) < 0 ∧ (p2 + p3) < z)  (g_ra : n0 ≤ ra) :
    MetFree l (⟨"com/example/kreide/kreide/interpreter/CallStack", "setObjectAt", "(IILjava/lang/Object;)V"⟩ : MethodName) (head1 (Jvm.Cond.code (⟨"com/example/kreide/kreide/interpreter/CallStack", "setObjectAt", "(IILjava/lang/Object;)V"⟩ : MethodName) prog_14_method_25_code 4 none :: ws) ({ frames := 0, cells := 0, slots := 0, locals := 0 } : Room)) (fun a U => a = #[(.ref a1), (.int p2), (.int p3), .null] ∧ Z.Warmed39 U.vm ∧ U.heap = h0) (fun _ _ _ _ _ => True) (fun _ U o U' => ∃ v L, o = .returned v ∧ own_Q_setO2N Z a1 p2 p3 ra kb z hs h0 n0 v U'.heap L ∧ FrameEnd U o U' L ({ frames := 0, cells := 0, slots := 0, locals := 0 } : Room).cells ({ frames := 0, cells := 0, slots := 0, locals := 0 } : Room).slots) := by
  refine MetFree.of_bodySF (plainFor_of_name own_pn_1) hisR ?_
  intro p e s m args below meth c s₁ Bd hml0 hP hK
  obtain ⟨rfl, hZ, hh⟩ := hP
  have hx := Bd.exec
  have hby := Bd.bytes
  have hml : c.maxLocals = 4 := hml0
  have hown : s.vm.findClass "com/example/kreide/kreide/interpreter/CallStack" = some m.cls := findClass_of_methodNamed Bd.named
  have hnm := (name_of_methodNamed Bd.named Bd.method).1
  have X0 : Stand p l e ({ frames := 0, cells := 0, slots := 0, locals := 0 } : Room) s m #[(.ref a1), (.int p2), (.int p3), .null] below meth c s₁ [] 0 0 := Stand.of_body Bd
  have e0 : s₁.heap = h0 := by rw [← hh, Bd.state]; rfl
  have N0 := Fr.nil n0
  refine own_start (own_ef_setO2N m a1 p2 p3 ) ?_
  have K0 : Keep h0 h0 [ra] := Keep.refl _ _
  obtain ⟨T1, X1, e1, st1⟩ := getF X0 hx hZ hown (host := "") (Or.inl (hw _ (List.mem_of_getElem? (i := 58) rfl))) Via.refl e0 F2 (g := (mkF m 1 #[.val (.ref a1), .val (.int p2), .val (.int p3), .val .null] [(.ref a1)])) rfl rfl (Jvm.hb hby own_d_prog_14_method_25_code_1)
  obtain ⟨T2, X2, e2, st2⟩ := getF X1 hx hZ hown (host := "") (Or.inl (hw _ (List.mem_of_getElem? (i := 58) rfl))) Via.refl e1 F2 (g := (mkF m 20 #[.val (.ref a1), .val (.int p2), .val (.int p3), .val .null] [(.ref a1)])) rfl rfl (Jvm.hb hby own_d_prog_14_method_25_code_20)
  refine own_of (T' := T2) (f' := (mkF m 26 #[.val (.ref a1), .val (.int p2), .val (.int p3), .val .null] [(.int (p2 + p3)), (.ref ra)])) (fun t_ k_ => (XS.aloadN X0.here hx rfl (Jvm.hb hby own_d_prog_14_method_25_code_0) rfl rfl (st1 _ (XS.ifnonnullYes X1.here hx rfl (pc0 := 4) (pc' := 19) rfl (Jvm.hb hby own_d_prog_14_method_25_code_4) rfl (by decide) (by decide) (XS.aloadN X1.here hx rfl (Jvm.hb hby own_d_prog_14_method_25_code_19) rfl rfl (st2 _ (XS.iloadN X2.here hx rfl (Jvm.hb hby own_d_prog_14_method_25_code_23) rfl (XS.iloadN X2.here hx rfl (Jvm.hb hby own_d_prog_14_method_25_code_24) rfl (XS.iadd X2.here hx rfl (Jvm.hb hby own_d_prog_14_method_25_code_25) rfl k_))))))))) ?_
  refine own_of (T' := T2) (f' := (mkF m 27 #[.val (.ref a1), .val (.int p2), .val (.int p3), .val .null] [.null, (.int (p2 + p3)), (.ref ra)])) (fun t_ k_ => (XS.aloadN X2.here hx rfl (Jvm.hb hby own_d_prog_14_method_25_code_26) rfl rfl k_)) ?_
  obtain ⟨cl3, Ar3, qq3, Sz3, Nn3, Hh3, Gg3⟩ := Ah
  have hin3 : ¬ ((p2 + p3) < 0 ∨ cl3.slots.size ≤ ((p2 + p3)).toNatClampNeg) := inb_of Sz3 hi
  obtain ⟨T3, h3, X3, e3, W3, st3⟩ := stR X2 hx hZ e2 Ar3 (j := (p2 + p3)) hin3 rfl (Or.inl rfl) (g := (mkF m 27 #[.val (.ref a1), .val (.int p2), .val (.int p3), .val .null] [.null, (.int (p2 + p3)), (.ref ra)])) rfl rfl (Jvm.hb hby own_d_prog_14_method_25_code_27)
  refine own_of (T' := T3) (f' := (mkF m 28 #[.val (.ref a1), .val (.int p2), .val (.int p3), .val .null] [])) (fun t_ k_ => (st3 _ k_)) ?_
  have N3 := Fr.snoc X3 N0 g_ra
  have Ah3 := Arh.push Ar3 qq3 Sz3 Nn3 Hh3 Gg3 rfl W3 hin3
  have f4 := K0.wr W3 (Or.inl (List.mem_of_getElem? (i := 0) rfl))
  obtain ⟨fs, hr, hrun, hended, hW, hsame⟩ := X3.leave (v := none) (fun _ => rfl)
  exact ⟨_, _, X3.returnOut hx Bd.returns (Jvm.hb hby own_d_prog_14_method_25_code_28) hr, hrun, hended, _, _, rfl, (by show own_Q_setO2N Z a1 p2 p3 ra kb z hs h0 n0 _ T3.heap _; rw [e3]; exact ⟨rfl, N3, f4, Ah3⟩), ⟨_, rfl⟩, hW, hsame.mono (by decide) (by decide)⟩
theorem own_ef_getO (m : MethodId) (a1 : Addr) (p2 : Int32) (p3 : Int32) : entryFrame m #[(.ref a1), (.int p2), (.int p3)] 3 = mkF m 0 #[.val (.ref a1), .val (.int p2), .val (.int p3)] [] := by first | (simp [entryFrame, mkF, argsToLocals, Value.category]; done) | rfl
def own_Q_getO (Z : State) (a1 : Addr) (p2 : Int32) (p3 : Int32) (ra : Addr) (k : ClassId) (z : Int32) (hs : List (Int32 × Value)) (u : Value) (h0 : Heap) (n0 : Nat) (v : Option Value) (h : Heap) (L : List Loc) : Prop := v = some u ∧ Fr n0 L ∧ h = h0
theorem own_d_prog_14_method_24_code_0 : decode prog_14_method_24_code 0 = .ok (.aload_n 0, 1) := by decide +kernel
theorem own_d_prog_14_method_24_code_1 : decode prog_14_method_24_code 1 = .ok (.getfield 54, 3) := by decide +kernel
theorem own_d_prog_14_method_24_code_4 : decode prog_14_method_24_code 4 = .ok (.iload_n 1, 1) := by decide +kernel
theorem own_d_prog_14_method_24_code_5 : decode prog_14_method_24_code 5 = .ok (.iload_n 2, 1) := by decide +kernel
theorem own_d_prog_14_method_24_code_6 : decode prog_14_method_24_code 6 = .ok (.iadd, 1) := by decide +kernel
theorem own_d_prog_14_method_24_code_7 : decode prog_14_method_24_code 7 = .ok (.aaload, 1) := by decide +kernel
theorem own_d_prog_14_method_24_code_8 : decode prog_14_method_24_code 8 = .ok (.areturn, 1) := by decide +kernel
set_option maxRecDepth 65536 in
set_option maxHeartbeats 40000000 in
theorem own_rm_getO (l : Launch) (Z : State) (a0 : Array Value) (hw : ∀ d ∈ tables_1, d.before a0 Z = true) (ws : List Jvm.Cond) (a1 : Addr) (p2 : Int32) (p3 : Int32) (ra : Addr) (k : ClassId) (z : Int32) (hs : List (Int32 × Value)) (u : Value) (h0 : Heap) (n0 : Nat) (Z0 : n0 ≤ h0.size) (F1 : Fld Z h0 a1 "com/example/kreide/kreide/interpreter/CallStack" "references" "[Ljava/lang/Object;" (.ref ra)) (Ah : Arh Z h0 ra k (.object "java/lang/Object") z hs [] .null) (hi : ¬ (p2 + p3) < 0 ∧ (p2 + p3) < z) (hg : getH hs [] .null ((p2 + p3)).toNatClampNeg = u) (ru : u.isRef = true) :
    MetFree l (⟨"com/example/kreide/kreide/interpreter/CallStack", "getObjectAt", "(II)Ljava/lang/Object;"⟩ : MethodName) (head1 (Jvm.Cond.code (⟨"com/example/kreide/kreide/interpreter/CallStack", "getObjectAt", "(II)Ljava/lang/Object;"⟩ : MethodName) prog_14_method_24_code 3 (some (.object "java/lang/Object")) :: ws) ({ frames := 0, cells := 0, slots := 0, locals := 0 } : Room)) (fun a U => a = #[(.ref a1), (.int p2), (.int p3)] ∧ Z.Warmed39 U.vm ∧ U.heap = h0) (fun _ _ _ _ _ => True) (fun _ U o U' => ∃ v L, o = .returned v ∧ own_Q_getO Z a1 p2 p3 ra k z hs u h0 n0 v U'.heap L ∧ FrameEnd U o U' L ({ frames := 0, cells := 0, slots := 0, locals := 0 } : Room).cells ({ frames := 0, cells := 0, slots := 0, locals := 0 } : Room).slots) := by
  refine MetFree.of_bodySF (plainFor_of_name own_pn_1) hisR ?_
  intro p e s m args below meth c s₁ Bd hml0 hP hK
  obtain ⟨rfl, hZ, hh⟩ := hP
  have hx := Bd.exec
  have hby := Bd.bytes
  have hml : c.maxLocals = 3 := hml0
  have hown : s.vm.findClass "com/example/kreide/kreide/interpreter/CallStack" = some m.cls := findClass_of_methodNamed Bd.named
  have hnm := (name_of_methodNamed Bd.named Bd.method).1
  have X0 : Stand p l e ({ frames := 0, cells := 0, slots := 0, locals := 0 } : Room) s m #[(.ref a1), (.int p2), (.int p3)] below meth c s₁ [] 0 0 := Stand.of_body Bd
  have e0 : s₁.heap = h0 := by rw [← hh, Bd.state]; rfl
  have N0 := Fr.nil n0
  refine own_start (own_ef_getO m a1 p2 p3 ) ?_
  obtain ⟨T1, X1, e1, st1⟩ := getF X0 hx hZ hown (host := "") (Or.inl (hw _ (List.mem_of_getElem? (i := 58) rfl))) Via.refl e0 F1 (g := (mkF m 1 #[.val (.ref a1), .val (.int p2), .val (.int p3)] [(.ref a1)])) rfl rfl (Jvm.hb hby own_d_prog_14_method_24_code_1)
  refine own_of (T' := T1) (f' := (mkF m 7 #[.val (.ref a1), .val (.int p2), .val (.int p3)] [(.int (p2 + p3)), (.ref ra)])) (fun t_ k_ => (XS.aloadN X0.here hx rfl (Jvm.hb hby own_d_prog_14_method_24_code_0) rfl rfl (st1 _ (XS.iloadN X1.here hx rfl (Jvm.hb hby own_d_prog_14_method_24_code_4) rfl (XS.iloadN X1.here hx rfl (Jvm.hb hby own_d_prog_14_method_24_code_5) rfl (XS.iadd X1.here hx rfl (Jvm.hb hby own_d_prog_14_method_24_code_6) rfl k_)))))) ?_
  obtain ⟨cl, Ar, qq, Sz, Nn, Hh, Gg⟩ := Ah
  have hin : ¬ ((p2 + p3) < 0 ∨ cl.slots.size ≤ ((p2 + p3)).toNatClampNeg) := inb_of Sz hi
  refine own_of (T' := T1) (f' := (mkF m 8 #[.val (.ref a1), .val (.int p2), .val (.int p3)] [u])) (fun t_ k_ => (X1.aaload hx (j := (p2 + p3)) (v := u) (by rw [e1]; exact Ar.1) (State.isArrayOf_alike hZ.alike Ar.2.1) rfl Ar.2.2 hin (atH Hh hin hg) (g := (mkF m 7 #[.val (.ref a1), .val (.int p2), .val (.int p3)] [(.int (p2 + p3)), (.ref ra)])) rfl rfl (Jvm.hb hby own_d_prog_14_method_24_code_7) _ k_)) ?_
  obtain ⟨fs, hr, hrun, hended, hW, hsame⟩ := X1.leave (v := some u) (fun h => by rw [Bd.returns] at h; cases h)
  exact ⟨_, _, own_retA X1 hx Bd.returns rfl rfl ru (Jvm.hb hby own_d_prog_14_method_24_code_8) hr, hrun, hended, _, _, rfl, (by show own_Q_getO Z a1 p2 p3 ra k z hs u h0 n0 _ T1.heap _; rw [e1]; exact ⟨rfl, N0, rfl⟩), ⟨_, rfl⟩, hW, hsame.mono (by decide) (by decide)⟩
theorem own_ef_getL (m : MethodId) (a1 : Addr) (p2 : Int32) (p3 : Int32) : entryFrame m #[(.ref a1), (.int p2), (.int p3)] 3 = mkF m 0 #[.val (.ref a1), .val (.int p2), .val (.int p3)] [] := by first | (simp [entryFrame, mkF, argsToLocals, Value.category]; done) | rfl
def own_Q_getL (Z : State) (a1 : Addr) (p2 : Int32) (p3 : Int32) (ra : Addr) (k : ClassId) (z : Int32) (hs : List (Int32 × Value)) (u : Int64) (h0 : Heap) (n0 : Nat) (v : Option Value) (h : Heap) (L : List Loc) : Prop := v = some (.long u) ∧ Fr n0 L ∧ h = h0
theorem own_d_prog_14_method_18_code_0 : decode prog_14_method_18_code 0 = .ok (.aload_n 0, 1) := by decide +kernel
theorem own_d_prog_14_method_18_code_1 : decode prog_14_method_18_code 1 = .ok (.getfield 17, 3) := by decide +kernel
theorem own_d_prog_14_method_18_code_4 : decode prog_14_method_18_code 4 = .ok (.iload_n 1, 1) := by decide +kernel
theorem own_d_prog_14_method_18_code_5 : decode prog_14_method_18_code 5 = .ok (.iload_n 2, 1) := by decide +kernel
theorem own_d_prog_14_method_18_code_6 : decode prog_14_method_18_code 6 = .ok (.iadd, 1) := by decide +kernel
theorem own_d_prog_14_method_18_code_7 : decode prog_14_method_18_code 7 = .ok (.laload, 1) := by decide +kernel
theorem own_d_prog_14_method_18_code_8 : decode prog_14_method_18_code 8 = .ok (.lreturn, 1) := by decide +kernel
set_option maxRecDepth 65536 in
set_option maxHeartbeats 40000000 in
theorem own_rm_getL (l : Launch) (Z : State) (a0 : Array Value) (hw : ∀ d ∈ tables_1, d.before a0 Z = true) (ws : List Jvm.Cond) (a1 : Addr) (p2 : Int32) (p3 : Int32) (ra : Addr) (k : ClassId) (z : Int32) (hs : List (Int32 × Value)) (u : Int64) (h0 : Heap) (n0 : Nat) (Z0 : n0 ≤ h0.size) (F1 : Fld Z h0 a1 "com/example/kreide/kreide/interpreter/CallStack" "primitives" "[J" (.ref ra)) (Ah : Arh Z h0 ra k .long z hs [] (.long (0 : Int64))) (hi : ¬ (p2 + p3) < 0 ∧ (p2 + p3) < z) (hg : getH hs [] (.long (0 : Int64)) ((p2 + p3)).toNatClampNeg = .long u) :
    MetFree l (⟨"com/example/kreide/kreide/interpreter/CallStack", "getLongAt", "(II)J"⟩ : MethodName) (head1 (Jvm.Cond.code (⟨"com/example/kreide/kreide/interpreter/CallStack", "getLongAt", "(II)J"⟩ : MethodName) prog_14_method_18_code 3 (some .long) :: ws) ({ frames := 0, cells := 0, slots := 0, locals := 0 } : Room)) (fun a U => a = #[(.ref a1), (.int p2), (.int p3)] ∧ Z.Warmed39 U.vm ∧ U.heap = h0) (fun _ _ _ _ _ => True) (fun _ U o U' => ∃ v L, o = .returned v ∧ own_Q_getL Z a1 p2 p3 ra k z hs u h0 n0 v U'.heap L ∧ FrameEnd U o U' L ({ frames := 0, cells := 0, slots := 0, locals := 0 } : Room).cells ({ frames := 0, cells := 0, slots := 0, locals := 0 } : Room).slots) := by
  refine MetFree.of_bodySF (plainFor_of_name own_pn_1) hisR ?_
  intro p e s m args below meth c s₁ Bd hml0 hP hK
  obtain ⟨rfl, hZ, hh⟩ := hP
  have hx := Bd.exec
  have hby := Bd.bytes
  have hml : c.maxLocals = 3 := hml0
  have hown : s.vm.findClass "com/example/kreide/kreide/interpreter/CallStack" = some m.cls := findClass_of_methodNamed Bd.named
  have hnm := (name_of_methodNamed Bd.named Bd.method).1
  have X0 : Stand p l e ({ frames := 0, cells := 0, slots := 0, locals := 0 } : Room) s m #[(.ref a1), (.int p2), (.int p3)] below meth c s₁ [] 0 0 := Stand.of_body Bd
  have e0 : s₁.heap = h0 := by rw [← hh, Bd.state]; rfl
  have N0 := Fr.nil n0
  refine own_start (own_ef_getL m a1 p2 p3 ) ?_
  obtain ⟨T1, X1, e1, st1⟩ := getF X0 hx hZ hown (host := "") (Or.inl (hw _ (List.mem_of_getElem? (i := 44) rfl))) Via.refl e0 F1 (g := (mkF m 1 #[.val (.ref a1), .val (.int p2), .val (.int p3)] [(.ref a1)])) rfl rfl (Jvm.hb hby own_d_prog_14_method_18_code_1)
  refine own_of (T' := T1) (f' := (mkF m 7 #[.val (.ref a1), .val (.int p2), .val (.int p3)] [(.int (p2 + p3)), (.ref ra)])) (fun t_ k_ => (XS.aloadN X0.here hx rfl (Jvm.hb hby own_d_prog_14_method_18_code_0) rfl rfl (st1 _ (XS.iloadN X1.here hx rfl (Jvm.hb hby own_d_prog_14_method_18_code_4) rfl (XS.iloadN X1.here hx rfl (Jvm.hb hby own_d_prog_14_method_18_code_5) rfl (XS.iadd X1.here hx rfl (Jvm.hb hby own_d_prog_14_method_18_code_6) rfl k_)))))) ?_
  obtain ⟨cl, Ar, qq, Sz, Nn, Hh, Gg⟩ := Ah
  have hin : ¬ ((p2 + p3) < 0 ∨ cl.slots.size ≤ ((p2 + p3)).toNatClampNeg) := inb_of Sz hi
  refine own_of (T' := T1) (f' := (mkF m 8 #[.val (.ref a1), .val (.int p2), .val (.int p3)] [(.long u)])) (fun t_ k_ => (X1.laload hx (j := (p2 + p3)) (v := (.long u)) (by rw [e1]; exact Ar.1) (State.isArrayOf_alike hZ.alike Ar.2.1) Ar.2.2 hin (atH Hh hin hg) (g := (mkF m 7 #[.val (.ref a1), .val (.int p2), .val (.int p3)] [(.int (p2 + p3)), (.ref ra)])) rfl rfl (Jvm.hb hby own_d_prog_14_method_18_code_7) _ k_)) ?_
  obtain ⟨fs, hr, hrun, hended, hW, hsame⟩ := X1.leave (v := some (.long u)) (fun h => by rw [Bd.returns] at h; cases h)
  exact ⟨_, _, own_retJ X1 hx Bd.returns (Jvm.hb hby own_d_prog_14_method_18_code_8) hr, hrun, hended, _, _, rfl, (by show own_Q_getL Z a1 p2 p3 ra k z hs u h0 n0 _ T1.heap _; rw [e1]; exact ⟨rfl, N0, rfl⟩), ⟨_, rfl⟩, hW, hsame.mono (by decide) (by decide)⟩
theorem own_pn_2 : plainName "com/example/kreide/kreide/interpreter/CallStackSetObjectAtPinLaw" = true := by first | (simp [plainName, overriddenIn]; done) | decide +kernel
theorem own_ef_0 (m : MethodId) (p0 : Int32) (p1 : Int32) (p2 : Int32) (p3 : Int32) (p4 : Int32) (p5 : Int32) : entryFrame m #[(.int p0), (.int p1), (.int p2), (.int p3), (.int p4), (.int p5)] maxLocals = mkF m 0 #[.val (.int p0), .val (.int p1), .val (.int p2), .val (.int p3), .val (.int p4), .val (.int p5), .unset, .unset, .unset, .unset, .unset, .unset, .unset, .unset, .unset, .unset, .unset, .unset, .unset, .unset, .unset, .unset, .unset, .unset, .unset] [] := by first | (simp [entryFrame, mkF, argsToLocals, Value.category, maxLocals]; done) | rfl
def own_Q_0 (Z : State) (p0 : Int32) (p1 : Int32) (p2 : Int32) (p3 : Int32) (p4 : Int32) (p5 : Int32) (G1 : Int32) (h0 : Heap) (n0 : Nat) (v : Option Value) (h : Heap) (L : List Loc) : Prop := v = some (.int 1) ∧ Fr n0 L
theorem own_strw : ∀ d ∈ StrChars.Road.words, d ∈ tables_1 := by decide +kernel
theorem own_pd_1 : parseMethodDescriptor "([C)V" = some ⟨[(.array .char)], none⟩ := by decide +kernel
theorem own_pd_2 : parseMethodDescriptor "(I)V" = some ⟨[.int], none⟩ := by decide +kernel
theorem own_pd_3 : parseMethodDescriptor "(IIJ)V" = some ⟨[.int, .int, .long], none⟩ := by decide +kernel
theorem own_pd_4 : parseMethodDescriptor "(IILjava/lang/Object;)V" = some ⟨[.int, .int, (.object "java/lang/Object")], none⟩ := by decide +kernel
theorem own_pd_5 : parseMethodDescriptor "(II)Ljava/lang/Object;" = some ⟨[.int, .int], some (.object "java/lang/Object")⟩ := by decide +kernel
theorem own_pd_6 : parseMethodDescriptor "(II)J" = some ⟨[.int, .int], some .long⟩ := by decide +kernel
set_option maxRecDepth 65536 in
set_option maxHeartbeats 40000000 in
theorem own_rm_0 (l : Launch) (Z : State) (a0 : Array Value) (hw : ∀ d ∈ tables_1, d.before a0 Z = true) (ws : List Jvm.Cond) (p0 : Int32) (p1 : Int32) (p2 : Int32) (p3 : Int32) (p4 : Int32) (p5 : Int32) (G1 : Int32) (h0 : Heap) (n0 : Nat) (Z0 : n0 ≤ h0.size) (O2 : Sta Z Z.heap "java/lang/String" "COMPACT_STRINGS" "Z" (.int G1)) (P5 : ¬ (G1 = (0 : Int32))) (X00 : Old Z n0 h0) :
    MetFree l x (head1 (Jvm.Cond.code x code maxLocals ret :: ws) room_1) (fun a U => a = #[(.int p0), (.int p1), (.int p2), (.int p3), (.int p4), (.int p5)] ∧ Z.Warmed39 U.vm ∧ U.heap = h0) (fun _ _ _ _ _ => True) (fun _ U o U' => ∃ v L, o = .returned v ∧ own_Q_0 Z p0 p1 p2 p3 p4 p5 G1 h0 n0 v U'.heap L ∧ FrameEnd U o U' L room_1.cells room_1.slots) := by
  refine MetFree.of_bodySF (plainFor_of_name own_pn_2) hisR ?_
  intro p e s m args below meth c s₁ Bd hml0 hP hK
  obtain ⟨rfl, hZ, hh⟩ := hP
  have hx := Bd.exec
  have hby := Bd.bytes
  have hml : c.maxLocals = 25 := hml0
  have hown : s.vm.findClass "com/example/kreide/kreide/interpreter/CallStackSetObjectAtPinLaw" = some m.cls := findClass_of_methodNamed Bd.named
  have hnm := (name_of_methodNamed Bd.named Bd.method).1
  have X0 : Stand p l e room_1 s m #[(.int p0), (.int p1), (.int p2), (.int p3), (.int p4), (.int p5)] below meth c s₁ [] 0 0 := Stand.of_body Bd
  have e0 : s₁.heap = h0 := by rw [← hh, Bd.state]; rfl
  have N0 := Fr.nil n0
  refine own_start (own_ef_0 m p0 p1 p2 p3 p4 p5 ) ?_
  refine own_of (T' := s₁) (f' := (mkF m 12 #[.val (.int p0), .val (.int p1), .val (.int p2), .val (.int p3), .val (.int p4), .val (.int p5), .val (.int (p0 &&& (2047 : Int32))), .unset, .unset, .unset, .unset, .unset, .unset, .unset, .unset, .unset, .unset, .unset, .unset, .unset, .unset, .unset, .unset, .unset, .unset] [(.int (p0 &&& (2047 : Int32))), (.int (1024 : Int32))])) (fun t_ k_ => (XS.iloadN X0.here hx rfl (Jvm.hb hby at_0) rfl (XS.sipush X0.here hx rfl (Jvm.hb hby at_1) (XS.iand X0.here hx rfl (Jvm.hb hby at_4) rfl (XS.istore X0.here hx rfl (Jvm.hb hby at_5) rfl (l' := #[.val (.int p0), .val (.int p1), .val (.int p2), .val (.int p3), .val (.int p4), .val (.int p5), .val (.int (p0 &&& (2047 : Int32))), .unset, .unset, .unset, .unset, .unset, .unset, .unset, .unset, .unset, .unset, .unset, .unset, .unset, .unset, .unset, .unset, .unset, .unset]) rfl (XS.sipush X0.here hx rfl (Jvm.hb hby at_7) (XS.iload X0.here hx rfl (Jvm.hb hby at_10) rfl k_))))))) ?_
  obtain ⟨_, _, ⟨T1, L1, k1, n1⟩, -, X1, ⟨Lc1, hQ1, l1, y1, z1⟩, st1⟩ := Jvm.LawKit.callS X0 hx (y := (⟨"java/lang/Math", "max", "(II)I"⟩ : MethodName)) hown (mvT hZ (hw _ (List.mem_of_getElem? (i := 0) rfl))) (mvT hZ (hw _ (List.mem_of_getElem? (i := 1) rfl))) (mvT hZ (hw _ (List.mem_of_getElem? (i := 2) rfl))) (mvT hZ (hw _ (List.mem_of_getElem? (i := 3) rfl))) (by decide) (backOf (W := 0) (own_rm_max l Z a0 hw [] (1024 : Int32) (p0 &&& (2047 : Int32)) h0 n0 Z0) hZ (hw _ (List.mem_of_getElem? (i := 3) rfl)) (hw _ (List.mem_of_getElem? (i := 2) rfl)) (by decide) (by decide)) (g := (mkF m 12 #[.val (.int p0), .val (.int p1), .val (.int p2), .val (.int p3), .val (.int p4), .val (.int p5), .val (.int (p0 &&& (2047 : Int32))), .unset, .unset, .unset, .unset, .unset, .unset, .unset, .unset, .unset, .unset, .unset, .unset, .unset, .unset, .unset, .unset, .unset, .unset] [(.int (p0 &&& (2047 : Int32))), (.int (1024 : Int32))])) rfl (by rw [hml]; rfl) (argsL := [(.int (1024 : Int32)), (.int (p0 &&& (2047 : Int32)))]) (rest := []) (lenOf own_pd_0 rfl) rfl (by show 2 * 0 + _ ≤ _; exact Nat.le_of_eq rfl) (Jvm.hb hby at_12) (fun _ _ => ⟨rfl, e0, Nat.le_of_ble_eq_true rfl, Nat.le_of_ble_eq_true rfl⟩)
  dsimp only [Pt.U, Pt.locs, Pt.cells, Pt.slots] at X1 l1 y1 z1 st1 hQ1
  subst l1 y1 z1
  obtain ⟨rfl, N1, e1⟩ := hQ1
  have N2 := Fr.app N0 N1
  refine own_of (T' := T1) (f' := (mkF m 15 #[.val (.int p0), .val (.int p1), .val (.int p2), .val (.int p3), .val (.int p4), .val (.int p5), .val (.int (p0 &&& (2047 : Int32))), .unset, .unset, .unset, .unset, .unset, .unset, .unset, .unset, .unset, .unset, .unset, .unset, .unset, .unset, .unset, .unset, .unset, .unset] [(.int (own_max (1024 : Int32) (p0 &&& (2047 : Int32))))])) (fun t_ k_ => (st1 _ k_)) ?_
  obtain ⟨len, hlen⟩ : ∃ z : Int32, (own_max (1024 : Int32) (p0 &&& (2047 : Int32))) = z := ⟨_, rfl⟩
  rw [hlen]
  have rl : 1024 ≤ len.toInt ∧ len.toInt ≤ 2047 := hlen ▸ own_maxr p0
  have hcap := own_cap len rl
  have nzl : len ≠ 0 := own_nz len (by omega)
  refine own_of (T' := T1) (f' := (mkF m 24 #[.val (.int p0), .val (.int p1), .val (.int p2), .val (.int p3), .val (.int p4), .val (.int p5), .val (.int (p0 &&& (2047 : Int32))), .val (.int len), .unset, .unset, .unset, .unset, .unset, .unset, .unset, .unset, .unset, .unset, .unset, .unset, .unset, .unset, .unset, .unset, .unset] [(.int ((p1 &&& (2147483647 : Int32)) % len))])) (fun t_ k_ => (XS.istore X1.here hx rfl (Jvm.hb hby at_15) rfl (l' := #[.val (.int p0), .val (.int p1), .val (.int p2), .val (.int p3), .val (.int p4), .val (.int p5), .val (.int (p0 &&& (2047 : Int32))), .val (.int len), .unset, .unset, .unset, .unset, .unset, .unset, .unset, .unset, .unset, .unset, .unset, .unset, .unset, .unset, .unset, .unset, .unset]) rfl (XS.iloadN X1.here hx rfl (Jvm.hb hby at_17) rfl (Jvm.Stand.ldcI X1 hx hown (mvT hZ (hw _ (List.mem_of_getElem? (i := 4) rfl))) rfl (Jvm.hb hby at_18) (XS.iand X1.here hx rfl (Jvm.hb hby at_20) rfl (XS.iload X1.here hx rfl (Jvm.hb hby at_21) rfl (Jvm.RoadKit.iremM X1 hx rfl (Jvm.hb hby at_23) rfl nzl k_))))))) ?_
  obtain ⟨fa, hfa⟩ : ∃ z : Int32, ((p1 &&& (2147483647 : Int32)) % len) = z := ⟨_, rfl⟩
  rw [hfa]
  have rfa : 0 ≤ fa.toInt ∧ fa.toInt < len.toInt := hfa ▸ own_rem _ _ (by omega)
  have qfa := own_sub len fa rl.2 rfa.1 rfa.2
  have nzfa : (len - fa) ≠ 0 := own_nz _ qfa.2
  refine own_of (T' := T1) (f' := (mkF m 36 #[.val (.int p0), .val (.int p1), .val (.int p2), .val (.int p3), .val (.int p4), .val (.int p5), .val (.int (p0 &&& (2047 : Int32))), .val (.int len), .val (.int fa), .unset, .unset, .unset, .unset, .unset, .unset, .unset, .unset, .unset, .unset, .unset, .unset, .unset, .unset, .unset, .unset] [(.int ((p2 &&& (2147483647 : Int32)) % (len - fa)))])) (fun t_ k_ => (XS.istore X1.here hx rfl (Jvm.hb hby at_24) rfl (l' := #[.val (.int p0), .val (.int p1), .val (.int p2), .val (.int p3), .val (.int p4), .val (.int p5), .val (.int (p0 &&& (2047 : Int32))), .val (.int len), .val (.int fa), .unset, .unset, .unset, .unset, .unset, .unset, .unset, .unset, .unset, .unset, .unset, .unset, .unset, .unset, .unset, .unset]) rfl (XS.iloadN X1.here hx rfl (Jvm.hb hby at_26) rfl (Jvm.Stand.ldcI X1 hx hown (mvT hZ (hw _ (List.mem_of_getElem? (i := 4) rfl))) rfl (Jvm.hb hby at_27) (XS.iand X1.here hx rfl (Jvm.hb hby at_29) rfl (XS.iload X1.here hx rfl (Jvm.hb hby at_30) rfl (XS.iload X1.here hx rfl (Jvm.hb hby at_32) rfl (XS.isub X1.here hx rfl (Jvm.hb hby at_34) rfl (Jvm.RoadKit.iremM X1 hx rfl (Jvm.hb hby at_35) rfl nzfa k_))))))))) ?_
  obtain ⟨sa, hsa⟩ : ∃ z : Int32, ((p2 &&& (2147483647 : Int32)) % (len - fa)) = z := ⟨_, rfl⟩
  rw [hsa]
  have rsa : 0 ≤ sa.toInt ∧ sa.toInt < (len - fa).toInt := hsa ▸ own_rem _ _ qfa.2
  have inia := own_in len fa sa rl.2 rfa.1 rfa.2 rsa.1 rsa.2
  refine own_of (T' := T1) (f' := (mkF m 43 #[.val (.int p0), .val (.int p1), .val (.int p2), .val (.int p3), .val (.int p4), .val (.int p5), .val (.int (p0 &&& (2047 : Int32))), .val (.int len), .val (.int fa), .val (.int sa), .unset, .unset, .unset, .unset, .unset, .unset, .unset, .unset, .unset, .unset, .unset, .unset, .unset, .unset, .unset] [(.int (fa + sa))])) (fun t_ k_ => (XS.istore X1.here hx rfl (Jvm.hb hby at_36) rfl (l' := #[.val (.int p0), .val (.int p1), .val (.int p2), .val (.int p3), .val (.int p4), .val (.int p5), .val (.int (p0 &&& (2047 : Int32))), .val (.int len), .val (.int fa), .val (.int sa), .unset, .unset, .unset, .unset, .unset, .unset, .unset, .unset, .unset, .unset, .unset, .unset, .unset, .unset, .unset]) rfl (XS.iload X1.here hx rfl (Jvm.hb hby at_38) rfl (XS.iload X1.here hx rfl (Jvm.hb hby at_40) rfl (XS.iadd X1.here hx rfl (Jvm.hb hby at_42) rfl k_))))) ?_
  obtain ⟨ia, hia⟩ : ∃ z : Int32, (fa + sa) = z := ⟨_, rfl⟩
  rw [hia]
  have jnia := inia
  rw [hia] at jnia
  refine own_of (T' := T1) (f' := (mkF m 52 #[.val (.int p0), .val (.int p1), .val (.int p2), .val (.int p3), .val (.int p4), .val (.int p5), .val (.int (p0 &&& (2047 : Int32))), .val (.int len), .val (.int fa), .val (.int sa), .val (.int ia), .unset, .unset, .unset, .unset, .unset, .unset, .unset, .unset, .unset, .unset, .unset, .unset, .unset, .unset] [(.int ((p3 &&& (2147483647 : Int32)) % len))])) (fun t_ k_ => (XS.istore X1.here hx rfl (Jvm.hb hby at_43) rfl (l' := #[.val (.int p0), .val (.int p1), .val (.int p2), .val (.int p3), .val (.int p4), .val (.int p5), .val (.int (p0 &&& (2047 : Int32))), .val (.int len), .val (.int fa), .val (.int sa), .val (.int ia), .unset, .unset, .unset, .unset, .unset, .unset, .unset, .unset, .unset, .unset, .unset, .unset, .unset, .unset]) rfl (XS.iloadN X1.here hx rfl (Jvm.hb hby at_45) rfl (Jvm.Stand.ldcI X1 hx hown (mvT hZ (hw _ (List.mem_of_getElem? (i := 4) rfl))) rfl (Jvm.hb hby at_46) (XS.iand X1.here hx rfl (Jvm.hb hby at_48) rfl (XS.iload X1.here hx rfl (Jvm.hb hby at_49) rfl (Jvm.RoadKit.iremM X1 hx rfl (Jvm.hb hby at_51) rfl nzl k_))))))) ?_
  obtain ⟨fb, hfb⟩ : ∃ z : Int32, ((p3 &&& (2147483647 : Int32)) % len) = z := ⟨_, rfl⟩
  rw [hfb]
  have rfb : 0 ≤ fb.toInt ∧ fb.toInt < len.toInt := hfb ▸ own_rem _ _ (by omega)
  have qfb := own_sub len fb rl.2 rfb.1 rfb.2
  have nzfb : (len - fb) ≠ 0 := own_nz _ qfb.2
  refine own_of (T' := T1) (f' := (mkF m 65 #[.val (.int p0), .val (.int p1), .val (.int p2), .val (.int p3), .val (.int p4), .val (.int p5), .val (.int (p0 &&& (2047 : Int32))), .val (.int len), .val (.int fa), .val (.int sa), .val (.int ia), .val (.int fb), .unset, .unset, .unset, .unset, .unset, .unset, .unset, .unset, .unset, .unset, .unset, .unset, .unset] [(.int ((p4 &&& (2147483647 : Int32)) % (len - fb)))])) (fun t_ k_ => (XS.istore X1.here hx rfl (Jvm.hb hby at_52) rfl (l' := #[.val (.int p0), .val (.int p1), .val (.int p2), .val (.int p3), .val (.int p4), .val (.int p5), .val (.int (p0 &&& (2047 : Int32))), .val (.int len), .val (.int fa), .val (.int sa), .val (.int ia), .val (.int fb), .unset, .unset, .unset, .unset, .unset, .unset, .unset, .unset, .unset, .unset, .unset, .unset, .unset]) rfl (XS.iload X1.here hx rfl (Jvm.hb hby at_54) rfl (Jvm.Stand.ldcI X1 hx hown (mvT hZ (hw _ (List.mem_of_getElem? (i := 4) rfl))) rfl (Jvm.hb hby at_56) (XS.iand X1.here hx rfl (Jvm.hb hby at_58) rfl (XS.iload X1.here hx rfl (Jvm.hb hby at_59) rfl (XS.iload X1.here hx rfl (Jvm.hb hby at_61) rfl (XS.isub X1.here hx rfl (Jvm.hb hby at_63) rfl (Jvm.RoadKit.iremM X1 hx rfl (Jvm.hb hby at_64) rfl nzfb k_))))))))) ?_
  obtain ⟨sb, hsb⟩ : ∃ z : Int32, ((p4 &&& (2147483647 : Int32)) % (len - fb)) = z := ⟨_, rfl⟩
  rw [hsb]
  have rsb : 0 ≤ sb.toInt ∧ sb.toInt < (len - fb).toInt := hsb ▸ own_rem _ _ qfb.2
  have inib := own_in len fb sb rl.2 rfb.1 rfb.2 rsb.1 rsb.2
  refine own_of (T' := T1) (f' := (mkF m 72 #[.val (.int p0), .val (.int p1), .val (.int p2), .val (.int p3), .val (.int p4), .val (.int p5), .val (.int (p0 &&& (2047 : Int32))), .val (.int len), .val (.int fa), .val (.int sa), .val (.int ia), .val (.int fb), .val (.int sb), .unset, .unset, .unset, .unset, .unset, .unset, .unset, .unset, .unset, .unset, .unset, .unset] [(.int (fb + sb))])) (fun t_ k_ => (XS.istore X1.here hx rfl (Jvm.hb hby at_65) rfl (l' := #[.val (.int p0), .val (.int p1), .val (.int p2), .val (.int p3), .val (.int p4), .val (.int p5), .val (.int (p0 &&& (2047 : Int32))), .val (.int len), .val (.int fa), .val (.int sa), .val (.int ia), .val (.int fb), .val (.int sb), .unset, .unset, .unset, .unset, .unset, .unset, .unset, .unset, .unset, .unset, .unset, .unset]) rfl (XS.iload X1.here hx rfl (Jvm.hb hby at_67) rfl (XS.iload X1.here hx rfl (Jvm.hb hby at_69) rfl (XS.iadd X1.here hx rfl (Jvm.hb hby at_71) rfl k_))))) ?_
  obtain ⟨ib, hib⟩ : ∃ z : Int32, (fb + sb) = z := ⟨_, rfl⟩
  rw [hib]
  have jnib := inib
  rw [hib] at jnib
  refine own_of (T' := T1) (f' := (mkF m 82 #[.val (.int p0), .val (.int p1), .val (.int p2), .val (.int p3), .val (.int p4), .val (.int p5), .val (.int (p0 &&& (2047 : Int32))), .val (.int len), .val (.int fa), .val (.int sa), .val (.int ia), .val (.int fb), .val (.int sb), .val (.int ib), .unset, .unset, .unset, .unset, .unset, .unset, .unset, .unset, .unset, .unset, .unset] [(.int ((p5 &&& (2147483647 : Int32)) % len))])) (fun t_ k_ => (XS.istore X1.here hx rfl (Jvm.hb hby at_72) rfl (l' := #[.val (.int p0), .val (.int p1), .val (.int p2), .val (.int p3), .val (.int p4), .val (.int p5), .val (.int (p0 &&& (2047 : Int32))), .val (.int len), .val (.int fa), .val (.int sa), .val (.int ia), .val (.int fb), .val (.int sb), .val (.int ib), .unset, .unset, .unset, .unset, .unset, .unset, .unset, .unset, .unset, .unset, .unset]) rfl (XS.iload X1.here hx rfl (Jvm.hb hby at_74) rfl (Jvm.Stand.ldcI X1 hx hown (mvT hZ (hw _ (List.mem_of_getElem? (i := 4) rfl))) rfl (Jvm.hb hby at_76) (XS.iand X1.here hx rfl (Jvm.hb hby at_78) rfl (XS.iload X1.here hx rfl (Jvm.hb hby at_79) rfl (Jvm.RoadKit.iremM X1 hx rfl (Jvm.hb hby at_81) rfl nzl k_))))))) ?_
  obtain ⟨j, hj⟩ : ∃ z : Int32, ((p5 &&& (2147483647 : Int32)) % len) = z := ⟨_, rfl⟩
  rw [hj]
  have rj : 0 ≤ j.toInt ∧ j.toInt < len.toInt := hj ▸ own_rem _ _ (by omega)
  have inj := own_in0 len j rj.1 rj.2
  have nj : ¬ ((0 : Int32) + j) < 0 := inj.1
  have ej : (0 : Int32) + j = j := Int32.zero_add j
  have eia : (0 : Int32) + ia = ia := Int32.zero_add ia
  refine own_of (T' := T1) (f' := (mkF m 86 #[.val (.int p0), .val (.int p1), .val (.int p2), .val (.int p3), .val (.int p4), .val (.int p5), .val (.int (p0 &&& (2047 : Int32))), .val (.int len), .val (.int fa), .val (.int sa), .val (.int ia), .val (.int fb), .val (.int sb), .val (.int ib), .val (.int j), .unset, .unset, .unset, .unset, .unset, .unset, .unset, .unset, .unset, .unset] [(.int p5)])) (fun t_ k_ => (XS.istore X1.here hx rfl (Jvm.hb hby at_82) rfl (l' := #[.val (.int p0), .val (.int p1), .val (.int p2), .val (.int p3), .val (.int p4), .val (.int p5), .val (.int (p0 &&& (2047 : Int32))), .val (.int len), .val (.int fa), .val (.int sa), .val (.int ia), .val (.int fb), .val (.int sb), .val (.int ib), .val (.int j), .unset, .unset, .unset, .unset, .unset, .unset, .unset, .unset, .unset, .unset]) rfl (XS.iload X1.here hx rfl (Jvm.hb hby at_84) rfl k_))) ?_
  by_cases hc86_3 : (p5 < (0 : Int32))
  · skip
    refine own_of (T' := T1) (f' := (mkF m 101 #[.val (.int p0), .val (.int p1), .val (.int p2), .val (.int p3), .val (.int p4), .val (.int p5), .val (.int (p0 &&& (2047 : Int32))), .val (.int len), .val (.int fa), .val (.int sa), .val (.int ia), .val (.int fb), .val (.int sb), .val (.int ib), .val (.int j), .val (.int (1 : Int32)), .unset, .unset, .unset, .unset, .unset, .unset, .unset, .unset, .unset] [(.long ((p1.toInt64) <<< ((32 : Int32) &&& 0x3f).toInt64))])) (fun t_ k_ => (XS.ifNo X1.here hx rfl (Jvm.hb hby at_86) rfl ((if0 _ _).trans (tlt hc86_3).2.1) (XS.iconst X1.here hx rfl (Jvm.hb hby at_89) (XS.goto X1.here hx rfl (pc0 := 90) (pc' := 94) rfl (Jvm.hb hby at_90) (by decide) (by decide) (XS.istore X1.here hx rfl (Jvm.hb hby at_94) rfl (l' := #[.val (.int p0), .val (.int p1), .val (.int p2), .val (.int p3), .val (.int p4), .val (.int p5), .val (.int (p0 &&& (2047 : Int32))), .val (.int len), .val (.int fa), .val (.int sa), .val (.int ia), .val (.int fb), .val (.int sb), .val (.int ib), .val (.int j), .val (.int (1 : Int32)), .unset, .unset, .unset, .unset, .unset, .unset, .unset, .unset, .unset]) rfl (XS.iloadN X1.here hx rfl (Jvm.hb hby at_96) rfl (XS.i2l X1.here hx rfl (Jvm.hb hby at_97) rfl (XS.bipush X1.here hx rfl (Jvm.hb hby at_98) (XS.lshl X1.here hx rfl (Jvm.hb hby at_100) rfl k_))))))))) ?_
    refine own_of (T' := T1) (f' := (mkF m 104 #[.val (.int p0), .val (.int p1), .val (.int p2), .val (.int p3), .val (.int p4), .val (.int p5), .val (.int (p0 &&& (2047 : Int32))), .val (.int len), .val (.int fa), .val (.int sa), .val (.int ia), .val (.int fb), .val (.int sb), .val (.int ib), .val (.int j), .val (.int (1 : Int32)), .unset, .unset, .unset, .unset, .unset, .unset, .unset, .unset, .unset] [(.long (((p1.toInt64) <<< ((32 : Int32) &&& 0x3f).toInt64) ^^^ (p2.toInt64)))])) (fun t_ k_ => (XS.iloadN X1.here hx rfl (Jvm.hb hby at_101) rfl (XS.i2l X1.here hx rfl (Jvm.hb hby at_102) rfl (XS.lxor X1.here hx rfl (Jvm.hb hby at_103) rfl k_)))) ?_
    obtain ⟨mark, hmark⟩ : ∃ z : Int64, (((p1.toInt64) <<< ((32 : Int32) &&& 0x3f).toInt64) ^^^ (p2.toInt64)) = z := ⟨_, rfl⟩
    rw [hmark]
    refine own_of (T' := T1) (f' := (mkF m 106 #[.val (.int p0), .val (.int p1), .val (.int p2), .val (.int p3), .val (.int p4), .val (.int p5), .val (.int (p0 &&& (2047 : Int32))), .val (.int len), .val (.int fa), .val (.int sa), .val (.int ia), .val (.int fb), .val (.int sb), .val (.int ib), .val (.int j), .val (.int (1 : Int32)), .val (.long mark), .second, .unset, .unset, .unset, .unset, .unset, .unset, .unset] [])) (fun t_ k_ => (XS.lstore X1.here hx rfl (Jvm.hb hby at_104) rfl (l' := #[.val (.int p0), .val (.int p1), .val (.int p2), .val (.int p3), .val (.int p4), .val (.int p5), .val (.int (p0 &&& (2047 : Int32))), .val (.int len), .val (.int fa), .val (.int sa), .val (.int ia), .val (.int fb), .val (.int sb), .val (.int ib), .val (.int j), .val (.int (1 : Int32)), .val (.long mark), .second, .unset, .unset, .unset, .unset, .unset, .unset, .unset]) rfl k_)) ?_
    obtain ⟨T4, h4, X4, e4, E4, A4, D4, -, st4⟩ := newO X1 hx hZ hown (hw _ (List.mem_of_getElem? (i := 5) rfl)) (hw _ (List.mem_of_getElem? (i := 6) rfl)) (hw _ (List.mem_of_getElem? (i := 7) rfl)) e1 (g := (mkF m 106 #[.val (.int p0), .val (.int p1), .val (.int p2), .val (.int p3), .val (.int p4), .val (.int p5), .val (.int (p0 &&& (2047 : Int32))), .val (.int len), .val (.int fa), .val (.int sa), .val (.int ia), .val (.int fb), .val (.int sb), .val (.int ib), .val (.int j), .val (.int (1 : Int32)), .val (.long mark), .second, .unset, .unset, .unset, .unset, .unset, .unset, .unset] [])) rfl (Jvm.hb hby at_106) (by decide) (by decide)
    obtain ⟨s1, g4⟩ : ∃ z, z = h0.size := ⟨_, rfl⟩
    rw [← g4] at A4 D4 st4
    have g_s1 : n0 ≤ s1 := Nat.le_trans Z0 (Nat.le_of_eq g4.symm)
    have f5 := Nat.le_trans Z0 E4.1
    have f6 := X00.ext E4
    have f7 : Fld Z h4 s1 "java/lang/String" "coder" "B" (.int (0 : Int32)) := D4 (Or.inr (hw _ (List.mem_of_getElem? (i := 32) rfl))) (ty := .byte) (by decide)
    have f8 : Fld Z h4 s1 "java/lang/String" "value" "[B" .null := D4 (Or.inr (hw _ (List.mem_of_getElem? (i := 34) rfl))) (ty := (.array .byte)) (by decide)
    refine own_of (T' := T4) (f' := (mkF m 111 #[.val (.int p0), .val (.int p1), .val (.int p2), .val (.int p3), .val (.int p4), .val (.int p5), .val (.int (p0 &&& (2047 : Int32))), .val (.int len), .val (.int fa), .val (.int sa), .val (.int ia), .val (.int fb), .val (.int sb), .val (.int ib), .val (.int j), .val (.int (1 : Int32)), .val (.long mark), .second, .unset, .unset, .unset, .unset, .unset, .unset, .unset] [(.int (1 : Int32)), (.ref s1), (.ref s1)])) (fun t_ k_ => (st4 _ (XS.dup X4.here hx rfl (Jvm.hb hby at_109) rfl rfl (XS.iconst X4.here hx rfl (Jvm.hb hby at_110) k_)))) ?_
    obtain ⟨T9, h9, k9, X9, e9, E9, A9, Ex9, st9⟩ := newPE X4 hx hZ (hw _ (List.mem_of_getElem? (i := 8) rfl)) e4 (g := (mkF m 111 #[.val (.int p0), .val (.int p1), .val (.int p2), .val (.int p3), .val (.int p4), .val (.int p5), .val (.int (p0 &&& (2047 : Int32))), .val (.int len), .val (.int fa), .val (.int sa), .val (.int ia), .val (.int fb), .val (.int sb), .val (.int ib), .val (.int j), .val (.int (1 : Int32)), .val (.long mark), .second, .unset, .unset, .unset, .unset, .unset, .unset, .unset] [(.int (1 : Int32)), (.ref s1), (.ref s1)])) rfl (Jvm.hb hby at_111) rfl (by decide) (cap := 1) (by decide) (by decide) (by decide) (by decide) (ad := "[C") (by decide)
    obtain ⟨c1, g9⟩ : ∃ z, z = h4.size := ⟨_, rfl⟩
    rw [← g9] at A9 Ex9 st9
    have ne_s1_c1 : s1 ≠ c1 := by rw [g9]; exact Nat.ne_of_lt A4.lt
    have g_c1 : n0 ≤ c1 := Nat.le_trans f5 (Nat.le_of_eq g9.symm)
    have f10 := Nat.le_trans f5 E9.1
    have f11 := f6.ext E9
    have f12 := A4.ext E9
    have f13 := f7.ext E9
    have f14 := f8.ext E9
    have f15 : Arv Z h9 c1 k9 .char (1 : Int32) [(.int (0 : Int32))] (.int (0 : Int32)) := (Arv.new A9 (by decide)).pad (pad_rep [] (.int (0 : Int32)) 1)
    refine own_of (T' := T9) (f' := (mkF m 117 #[.val (.int p0), .val (.int p1), .val (.int p2), .val (.int p3), .val (.int p4), .val (.int p5), .val (.int (p0 &&& (2047 : Int32))), .val (.int len), .val (.int fa), .val (.int sa), .val (.int ia), .val (.int fb), .val (.int sb), .val (.int ib), .val (.int j), .val (.int (1 : Int32)), .val (.long mark), .second, .unset, .unset, .unset, .unset, .unset, .unset, .unset] [(.int (97 : Int32)), (.int (0 : Int32)), (.ref c1), (.ref c1), (.ref s1), (.ref s1)])) (fun t_ k_ => (st9 _ (XS.dup X9.here hx rfl (Jvm.hb hby at_113) rfl rfl (XS.iconst X9.here hx rfl (Jvm.hb hby at_114) (XS.bipush X9.here hx rfl (Jvm.hb hby at_115) k_))))) ?_
    obtain ⟨cl16, Ar16, qq16, Sz16, Nn16, Hh16, Gg16⟩ := id f15
    have hin16 : ¬ ((0 : Int32) < 0 ∨ cl16.slots.size ≤ ((0 : Int32)).toNatClampNeg) := inb_of Sz16 ⟨by decide, by decide⟩
    obtain ⟨T17, h17, X17, e17, W17, st17⟩ := stC X9 hx hZ e9 Ar16 (j := (0 : Int32)) hin16 (g := (mkF m 117 #[.val (.int p0), .val (.int p1), .val (.int p2), .val (.int p3), .val (.int p4), .val (.int p5), .val (.int (p0 &&& (2047 : Int32))), .val (.int len), .val (.int fa), .val (.int sa), .val (.int ia), .val (.int fb), .val (.int sb), .val (.int ib), .val (.int j), .val (.int (1 : Int32)), .val (.long mark), .second, .unset, .unset, .unset, .unset, .unset, .unset, .unset] [(.int (97 : Int32)), (.int (0 : Int32)), (.ref c1), (.ref c1), (.ref s1), (.ref s1)])) rfl rfl (Jvm.hb hby at_117)
    refine own_of (T' := T17) (f' := (mkF m 118 #[.val (.int p0), .val (.int p1), .val (.int p2), .val (.int p3), .val (.int p4), .val (.int p5), .val (.int (p0 &&& (2047 : Int32))), .val (.int len), .val (.int fa), .val (.int sa), .val (.int ia), .val (.int fb), .val (.int sb), .val (.int ib), .val (.int j), .val (.int (1 : Int32)), .val (.long mark), .second, .unset, .unset, .unset, .unset, .unset, .unset, .unset] [(.ref c1), (.ref s1), (.ref s1)])) (fun t_ k_ => (st17 _ k_)) ?_
    have f18 := Arv.set Ar16 qq16 Sz16 Nn16 Hh16 Gg16 (fits_nar_char _) W17 0 rfl (Nat.le_of_ble_eq_true rfl)
    have N17 := Fr.snoc X17 N2 g_c1
    have f19 := Nat.le_trans f10 (Keep.of_wr W17).1
    have f20 := f11.wr W17 g_c1
    have f21 := f12.wr W17
    have f22 := f13.other W17 (Or.inl ne_s1_c1)
    have f23 := f14.other W17 (Or.inl ne_s1_c1)
    have f24 := Ex9.wr W17
    have hp_s1 : ∀ c ∈ ([(nar .char (97 : Int32))] : List Int32), ¬ c < 0 ∧ ¬ (255 : Int32) < c := by decide
    have hws26 : ∀ d ∈ StrChars.Road.words, d.before a0 Z = true := fun d hd => hw d (own_strw d hd)
    obtain ⟨_, _, ⟨T26, L26, k26, n26⟩, -, X26, ⟨Lc26, hQ26, l26, y26, z26⟩, st26⟩ := X17.specialBack hx (y := (⟨"java/lang/String", "<init>", "([C)V"⟩ : MethodName)) rfl hown (mvT hZ (hw _ (List.mem_of_getElem? (i := 9) rfl))) (mvT hZ (hw _ (List.mem_of_getElem? (i := 10) rfl))) (mvT hZ (hw _ (List.mem_of_getElem? (i := 11) rfl))) (by decide) (StrChars.Road.backV (W := 1) hZ hws26 (kI := 4) (hw _ (List.mem_of_getElem? (i := 6) rfl)) (cs := ([(nar .char (97 : Int32))] : List Int32)) (bs := (([(nar .char (97 : Int32))] : List Int32)).map (fun c => c.toInt8.toInt32)) (n := 1) g_s1 f19 f21 f23 f22 f18 (O2.ext f20.2) P5 rfl rfl (by decide) (by decide) hp_s1 rfl (by decide) (by decide)) (g := (mkF m 118 #[.val (.int p0), .val (.int p1), .val (.int p2), .val (.int p3), .val (.int p4), .val (.int p5), .val (.int (p0 &&& (2047 : Int32))), .val (.int len), .val (.int fa), .val (.int sa), .val (.int ia), .val (.int fb), .val (.int sb), .val (.int ib), .val (.int j), .val (.int (1 : Int32)), .val (.long mark), .second, .unset, .unset, .unset, .unset, .unset, .unset, .unset] [(.ref c1), (.ref s1), (.ref s1)])) rfl (by rw [hml]; rfl) (Steps.refl _) (a := s1) (argsL := [(.ref c1)]) (rest := [(.ref s1)]) (lenOf own_pd_1 rfl) rfl (by show 2 * 0 + _ ≤ _; exact Nat.le_of_eq rfl) (Jvm.hb hby at_118) (fun _ _ => ⟨rfl, e17, Nat.le_of_ble_eq_true rfl, Nat.le_of_ble_eq_true rfl⟩)
    dsimp only [Pt.U, Pt.locs, Pt.cells, Pt.slots] at X26 l26 y26 z26 st26 hQ26
    subst l26 y26 z26
    obtain ⟨rfl, N26, K26, Es26, Fc26, t26, kt26, -, -, -, Fv26, Vt26⟩ := hQ26
    have N27 := Fr.app N17 N26
    have f28 := Nat.le_trans f19 K26.1
    have f29 := f20.keep K26 (allS g_s1 all0)
    have f30 := f21.keep K26
    have f33 := f24.keep K26
    have f34 := f18.keep K26 (ninS (Ne.symm ne_s1_c1) nin0)
    refine own_of (T' := T26) (f' := (mkF m 149 #[.val (.int p0), .val (.int p1), .val (.int p2), .val (.int p3), .val (.int p4), .val (.int p5), .val (.int (p0 &&& (2047 : Int32))), .val (.int len), .val (.int fa), .val (.int sa), .val (.int ia), .val (.int fb), .val (.int sb), .val (.int ib), .val (.int j), .val (.int (1 : Int32)), .val (.long mark), .second, .val (.ref s1), .val .null, .unset, .unset, .unset, .unset, .unset] [])) (fun t_ k_ => (st26.trans (XS.astore X26.here hx rfl (Jvm.hb hby at_121) rfl rfl (l' := #[.val (.int p0), .val (.int p1), .val (.int p2), .val (.int p3), .val (.int p4), .val (.int p5), .val (.int (p0 &&& (2047 : Int32))), .val (.int len), .val (.int fa), .val (.int sa), .val (.int ia), .val (.int fb), .val (.int sb), .val (.int ib), .val (.int j), .val (.int (1 : Int32)), .val (.long mark), .second, .val (.ref s1), .unset, .unset, .unset, .unset, .unset, .unset]) rfl (XS.iload X26.here hx rfl (Jvm.hb hby at_123) rfl (XS.ifNo X26.here hx rfl (Jvm.hb hby at_125) rfl ((if0 _ _).trans (feq (by decide)).1) (XS.aconstNull X26.here hx rfl (Jvm.hb hby at_128) (XS.goto X26.here hx rfl (pc0 := 129) (pc' := 147) rfl (Jvm.hb hby at_129) (by decide) (by decide) (XS.astore X26.here hx rfl (Jvm.hb hby at_147) rfl rfl (l' := #[.val (.int p0), .val (.int p1), .val (.int p2), .val (.int p3), .val (.int p4), .val (.int p5), .val (.int (p0 &&& (2047 : Int32))), .val (.int len), .val (.int fa), .val (.int sa), .val (.int ia), .val (.int fb), .val (.int sb), .val (.int ib), .val (.int j), .val (.int (1 : Int32)), .val (.long mark), .second, .val (.ref s1), .val .null, .unset, .unset, .unset, .unset, .unset]) rfl k_)))))))) ?_
    obtain ⟨T35, h35, X35, e35, E35, A35, D35, -, st35⟩ := newO X26 hx hZ hown (hw _ (List.mem_of_getElem? (i := 35) rfl)) (hw _ (List.mem_of_getElem? (i := 36) rfl)) (hw _ (List.mem_of_getElem? (i := 37) rfl)) rfl (g := (mkF m 149 #[.val (.int p0), .val (.int p1), .val (.int p2), .val (.int p3), .val (.int p4), .val (.int p5), .val (.int (p0 &&& (2047 : Int32))), .val (.int len), .val (.int fa), .val (.int sa), .val (.int ia), .val (.int fb), .val (.int sb), .val (.int ib), .val (.int j), .val (.int (1 : Int32)), .val (.long mark), .second, .val (.ref s1), .val .null, .unset, .unset, .unset, .unset, .unset] [])) rfl (Jvm.hb hby at_149) (by decide) (by decide)
    obtain ⟨o, g35⟩ : ∃ z, z = T26.heap.size := ⟨_, rfl⟩
    rw [← g35] at A35 D35 st35
    have ne_s1_o : s1 ≠ o := by rw [g35]; exact Nat.ne_of_lt Es26.lt
    have g_o : n0 ≤ o := Nat.le_trans f28 (Nat.le_of_eq g35.symm)
    have f36 := Nat.le_trans f28 E35.1
    have f37 := f29.ext E35
    have f38 := Es26.ext E35
    have f39 : Fld Z h35 o "com/example/kreide/kreide/interpreter/CallStack" "primitives" "[J" .null := D35 (Or.inl (hw _ (List.mem_of_getElem? (i := 45) rfl))) (ty := (.array .long)) (by decide)
    have f40 : Fld Z h35 o "com/example/kreide/kreide/interpreter/CallStack" "top" "I" (.int (0 : Int32)) := D35 (Or.inl (hw _ (List.mem_of_getElem? (i := 47) rfl))) (ty := .int) (by decide)
    have f41 : Fld Z h35 o "com/example/kreide/kreide/interpreter/CallStack" "references" "[Ljava/lang/Object;" .null := D35 (Or.inl (hw _ (List.mem_of_getElem? (i := 59) rfl))) (ty := (.array (.object "java/lang/Object"))) (by decide)
    refine own_of (T' := T35) (f' := (mkF m 155 #[.val (.int p0), .val (.int p1), .val (.int p2), .val (.int p3), .val (.int p4), .val (.int p5), .val (.int (p0 &&& (2047 : Int32))), .val (.int len), .val (.int fa), .val (.int sa), .val (.int ia), .val (.int fb), .val (.int sb), .val (.int ib), .val (.int j), .val (.int (1 : Int32)), .val (.long mark), .second, .val (.ref s1), .val .null, .unset, .unset, .unset, .unset, .unset] [(.int (p0 &&& (2047 : Int32))), (.ref o), (.ref o)])) (fun t_ k_ => (st35 _ (XS.dup X35.here hx rfl (Jvm.hb hby at_152) rfl rfl (XS.iload X35.here hx rfl (Jvm.hb hby at_153) rfl k_)))) ?_
    obtain ⟨_, _, ⟨T42, L42, k42, n42⟩, -, X42, ⟨Lc42, hQ42, l42, y42, z42⟩, st42⟩ := X35.specialBack hx (y := (⟨"com/example/kreide/kreide/interpreter/CallStack", "<init>", "(I)V"⟩ : MethodName)) rfl hown (mvT hZ (hw _ (List.mem_of_getElem? (i := 38) rfl))) (mvT hZ (hw _ (List.mem_of_getElem? (i := 39) rfl))) (mvT hZ (hw _ (List.mem_of_getElem? (i := 40) rfl))) (by decide) (backOf (W := 1) (own_rm_init l Z a0 hw [] o (p0 &&& (2047 : Int32)) h35 n0 f36 f39 f41 f40 A35 g_o (hlen ▸ hcap)) hZ (hw _ (List.mem_of_getElem? (i := 40) rfl)) (hw _ (List.mem_of_getElem? (i := 37) rfl)) (by decide) (by decide)) (g := (mkF m 155 #[.val (.int p0), .val (.int p1), .val (.int p2), .val (.int p3), .val (.int p4), .val (.int p5), .val (.int (p0 &&& (2047 : Int32))), .val (.int len), .val (.int fa), .val (.int sa), .val (.int ia), .val (.int fb), .val (.int sb), .val (.int ib), .val (.int j), .val (.int (1 : Int32)), .val (.long mark), .second, .val (.ref s1), .val .null, .unset, .unset, .unset, .unset, .unset] [(.int (p0 &&& (2047 : Int32))), (.ref o), (.ref o)])) rfl (by rw [hml]; rfl) (Steps.refl _) (a := o) (argsL := [(.int (p0 &&& (2047 : Int32)))]) (rest := [(.ref o)]) (lenOf own_pd_2 rfl) rfl (by show 2 * 0 + _ ≤ _; exact Nat.le_of_eq rfl) (Jvm.hb hby at_155) (fun _ _ => ⟨rfl, e35, Nat.le_of_ble_eq_true rfl, Nat.le_of_ble_eq_true rfl⟩)
    dsimp only [Pt.U, Pt.locs, Pt.cells, Pt.slots] at X42 l42 y42 z42 st42 hQ42
    subst l42 y42 z42
    obtain ⟨rfl, N42, K42, Eo42, pa, kp, szp, Fp42, Fr42, Ap42⟩ := hQ42
    rw [hlen] at Ap42
    have ne_o_pa : o ≠ pa := Nat.ne_of_lt (Nat.lt_of_lt_of_le A35.lt szp)
    have g_pa : n0 ≤ pa := Nat.le_trans f36 szp
    have N43 := Fr.app N27 N42
    have f44 := Nat.le_trans f36 K42.1
    have f45 := f37.keep K42 (allS g_o all0)
    have f46 := f38.keep K42
    have f47 := A35.keep K42
    refine own_of (T' := T42) (f' := (mkF m 167 #[.val (.int p0), .val (.int p1), .val (.int p2), .val (.int p3), .val (.int p4), .val (.int p5), .val (.int (p0 &&& (2047 : Int32))), .val (.int len), .val (.int fa), .val (.int sa), .val (.int ia), .val (.int fb), .val (.int sb), .val (.int ib), .val (.int j), .val (.int (1 : Int32)), .val (.long mark), .second, .val (.ref s1), .val .null, .val (.ref o), .unset, .unset, .unset, .unset] [(.long mark), (.int j), (.int (0 : Int32)), (.ref o)])) (fun t_ k_ => (st42.trans (XS.astore X42.here hx rfl (Jvm.hb hby at_158) rfl rfl (l' := #[.val (.int p0), .val (.int p1), .val (.int p2), .val (.int p3), .val (.int p4), .val (.int p5), .val (.int (p0 &&& (2047 : Int32))), .val (.int len), .val (.int fa), .val (.int sa), .val (.int ia), .val (.int fb), .val (.int sb), .val (.int ib), .val (.int j), .val (.int (1 : Int32)), .val (.long mark), .second, .val (.ref s1), .val .null, .val (.ref o), .unset, .unset, .unset, .unset]) rfl (XS.aload X42.here hx rfl (Jvm.hb hby at_160) rfl rfl (XS.iconst X42.here hx rfl (Jvm.hb hby at_162) (XS.iload X42.here hx rfl (Jvm.hb hby at_163) rfl (XS.lload X42.here hx rfl (Jvm.hb hby at_165) rfl k_))))))) ?_
    obtain ⟨cq52, kq52, q52a, q52b, q52c⟩ := isOf hZ rfl Eo42
    obtain ⟨_, _, ⟨T51, L51, k51, n51⟩, -, X51, ⟨Lc51, hQ51, l51, y51, z51⟩, st51⟩ := X42.virtualBack hx (y := (⟨"com/example/kreide/kreide/interpreter/CallStack", "setLongAt", "(IIJ)V"⟩ : MethodName)) (z := (⟨"com/example/kreide/kreide/interpreter/CallStack", "setLongAt", "(IIJ)V"⟩ : MethodName)) hown (mvT hZ (hw _ (List.mem_of_getElem? (i := 48) rfl))) (mvT hZ (hw _ (List.mem_of_getElem? (i := 49) rfl))) (notFace_of_selects (args := #[]) (mvT hZ (hw _ (List.mem_of_getElem? (i := 51) rfl)))) (mvT hZ (hw _ (List.mem_of_getElem? (i := 51) rfl))) (mvT hZ (hw _ (List.mem_of_getElem? (i := 50) rfl))) (by decide) (backOf (W := 0) (own_rm_setL l Z a0 hw [] o (0 : Int32) j mark pa kp len [] T42.heap n0 f44 Fp42 Ap42 inj g_pa) hZ (hw _ (List.mem_of_getElem? (i := 52) rfl)) (hw _ (List.mem_of_getElem? (i := 37) rfl)) (by decide) (by decide)) q52a q52c (g := (mkF m 167 #[.val (.int p0), .val (.int p1), .val (.int p2), .val (.int p3), .val (.int p4), .val (.int p5), .val (.int (p0 &&& (2047 : Int32))), .val (.int len), .val (.int fa), .val (.int sa), .val (.int ia), .val (.int fb), .val (.int sb), .val (.int ib), .val (.int j), .val (.int (1 : Int32)), .val (.long mark), .second, .val (.ref s1), .val .null, .val (.ref o), .unset, .unset, .unset, .unset] [(.long mark), (.int j), (.int (0 : Int32)), (.ref o)])) rfl (by rw [hml]; rfl) (Steps.refl _) (argsL := [(.int (0 : Int32)), (.int j), (.long mark)]) (rest := []) (lenOf own_pd_3 rfl) rfl (by show 2 * 0 + _ ≤ _; exact Nat.le_of_eq rfl) (Jvm.hb hby at_167) (fun _ _ => ⟨rfl, rfl, Nat.le_of_ble_eq_true rfl, Nat.le_of_ble_eq_true rfl⟩)
    dsimp only [Pt.U, Pt.locs, Pt.cells, Pt.slots] at X51 l51 y51 z51 st51 hQ51
    subst l51 y51 z51
    obtain ⟨rfl, N51, K51, Ap51⟩ := hQ51
    have N53 := Fr.app N43 N51
    have f54 := Nat.le_trans f44 K51.1
    have f55 := f45.keep K51 (allS g_pa all0)
    have f56 := f46.keep K51
    have f57 := Eo42.keep K51
    have f58 := Fp42.keep K51 (ninS ne_o_pa nin0)
    have f59 := Fr42.keep K51 (ninS ne_o_pa nin0)
    refine own_of (T' := T51) (f' := (mkF m 178 #[.val (.int p0), .val (.int p1), .val (.int p2), .val (.int p3), .val (.int p4), .val (.int p5), .val (.int (p0 &&& (2047 : Int32))), .val (.int len), .val (.int fa), .val (.int sa), .val (.int ia), .val (.int fb), .val (.int sb), .val (.int ib), .val (.int j), .val (.int (1 : Int32)), .val (.long mark), .second, .val (.ref s1), .val .null, .val (.ref o), .unset, .unset, .unset, .unset] [(.ref s1), (.int sa), (.int fa), (.ref o)])) (fun t_ k_ => (st51.trans (XS.aload X51.here hx rfl (Jvm.hb hby at_170) rfl rfl (XS.iload X51.here hx rfl (Jvm.hb hby at_172) rfl (XS.iload X51.here hx rfl (Jvm.hb hby at_174) rfl (XS.aload X51.here hx rfl (Jvm.hb hby at_176) rfl rfl k_)))))) ?_
    obtain ⟨cq62, kq62, q62a, q62b, q62c⟩ := isOf hZ rfl f57
    obtain ⟨_, _, ⟨T61, L61, k61, n61⟩, -, X61, ⟨Lc61, hQ61, l61, y61, z61⟩, st61⟩ := X51.virtualBack hx (y := (⟨"com/example/kreide/kreide/interpreter/CallStack", "setObjectAt", "(IILjava/lang/Object;)V"⟩ : MethodName)) (z := (⟨"com/example/kreide/kreide/interpreter/CallStack", "setObjectAt", "(IILjava/lang/Object;)V"⟩ : MethodName)) hown (mvT hZ (hw _ (List.mem_of_getElem? (i := 53) rfl))) (mvT hZ (hw _ (List.mem_of_getElem? (i := 54) rfl))) (notFace_of_selects (args := #[]) (mvT hZ (hw _ (List.mem_of_getElem? (i := 56) rfl)))) (mvT hZ (hw _ (List.mem_of_getElem? (i := 56) rfl))) (mvT hZ (hw _ (List.mem_of_getElem? (i := 55) rfl))) (by decide) (backOf (W := 0) (own_rm_setO1 l Z a0 hw [] o fa sa s1 pa kp len [((0 : Int32) + j, .long mark)] T51.heap n0 f54 f58 f59 f57 f56 Ap51 inia hcap g_o) hZ (hw _ (List.mem_of_getElem? (i := 57) rfl)) (hw _ (List.mem_of_getElem? (i := 37) rfl)) (by decide) (by decide)) q62a q62c (g := (mkF m 178 #[.val (.int p0), .val (.int p1), .val (.int p2), .val (.int p3), .val (.int p4), .val (.int p5), .val (.int (p0 &&& (2047 : Int32))), .val (.int len), .val (.int fa), .val (.int sa), .val (.int ia), .val (.int fb), .val (.int sb), .val (.int ib), .val (.int j), .val (.int (1 : Int32)), .val (.long mark), .second, .val (.ref s1), .val .null, .val (.ref o), .unset, .unset, .unset, .unset] [(.ref s1), (.int sa), (.int fa), (.ref o)])) rfl (by rw [hml]; rfl) (Steps.refl _) (argsL := [(.int fa), (.int sa), (.ref s1)]) (rest := []) (lenOf own_pd_4 rfl) rfl (by show 2 * 0 + _ ≤ _; exact Nat.le_of_eq rfl) (Jvm.hb hby at_178) (fun _ _ => ⟨rfl, rfl, Nat.le_of_ble_eq_true rfl, Nat.le_of_ble_eq_true rfl⟩)
    dsimp only [Pt.U, Pt.locs, Pt.cells, Pt.slots] at X61 l61 y61 z61 st61 hQ61
    subst l61 y61 z61
    obtain ⟨rfl, N61, K61, Eo61, Fp61, ra, kr, szr, Fr61, Ar61, Ovr_⟩ := hQ61
    have ne_o_ra : o ≠ ra := Nat.ne_of_lt (Nat.lt_of_lt_of_le f57.lt szr)
    have ne_pa_ra : pa ≠ ra := Nat.ne_of_lt (Nat.lt_of_lt_of_le Ap51.lt szr)
    have g_ra : n0 ≤ ra := Nat.le_trans f54 szr
    rw [hia] at Ar61
    have N63 := Fr.app N53 N61
    have f64 := Nat.le_trans f54 K61.1
    have f65 := f55.keep K61 (allS g_o all0)
    have f66 := f56.keep K61
    have f67 := f57.keep K61
    have f70 := Ap51.keep K61 (ninS (Ne.symm ne_o_pa) nin0)
    refine own_of (T' := T61) (f' := (mkF m 185 #[.val (.int p0), .val (.int p1), .val (.int p2), .val (.int p3), .val (.int p4), .val (.int p5), .val (.int (p0 &&& (2047 : Int32))), .val (.int len), .val (.int fa), .val (.int sa), .val (.int ia), .val (.int fb), .val (.int sb), .val (.int ib), .val (.int j), .val (.int (1 : Int32)), .val (.long mark), .second, .val (.ref s1), .val .null, .val (.ref o), .unset, .unset, .unset, .unset] [(.int ia), (.int j)])) (fun t_ k_ => (st61.trans (XS.iload X61.here hx rfl (Jvm.hb hby at_181) rfl (XS.iload X61.here hx rfl (Jvm.hb hby at_183) rfl k_)))) ?_
    obtain ⟨fst, hfst⟩ : ∃ z : Value, z = (if j = ia then (.ref s1) else .null) := ⟨_, rfl⟩
    have st72 : ∀ t_, Steps p.tables e below (T61.setTop (mkF m 194 #[.val (.int p0), .val (.int p1), .val (.int p2), .val (.int p3), .val (.int p4), .val (.int p5), .val (.int (p0 &&& (2047 : Int32))), .val (.int len), .val (.int fa), .val (.int sa), .val (.int ia), .val (.int fb), .val (.int sb), .val (.int ib), .val (.int j), .val (.int (1 : Int32)), .val (.long mark), .second, .val (.ref s1), .val .null, .val (.ref o), .unset, .unset, .unset, .unset] [fst])) t_ → Steps p.tables e below (T61.setTop (mkF m 185 #[.val (.int p0), .val (.int p1), .val (.int p2), .val (.int p3), .val (.int p4), .val (.int p5), .val (.int (p0 &&& (2047 : Int32))), .val (.int len), .val (.int fa), .val (.int sa), .val (.int ia), .val (.int fb), .val (.int sb), .val (.int ib), .val (.int j), .val (.int (1 : Int32)), .val (.long mark), .second, .val (.ref s1), .val .null, .val (.ref o), .unset, .unset, .unset, .unset] [(.int ia), (.int j)])) t_ := by
      intro t_ k_
      by_cases hc185_71 : (j = ia)
      · skip
        refine (XS.icmpNo X61.here hx rfl (Jvm.hb hby at_185) rfl (teq hc185_71).2 (XS.aload X61.here hx rfl (Jvm.hb hby at_188) rfl rfl (XS.goto X61.here hx rfl (pc0 := 190) (pc' := 194) rfl (Jvm.hb hby at_190) (by decide) (by decide) ?_)))
        show Steps p.tables e below (T61.setTop (mkF m 194 #[.val (.int p0), .val (.int p1), .val (.int p2), .val (.int p3), .val (.int p4), .val (.int p5), .val (.int (p0 &&& (2047 : Int32))), .val (.int len), .val (.int fa), .val (.int sa), .val (.int ia), .val (.int fb), .val (.int sb), .val (.int ib), .val (.int j), .val (.int (1 : Int32)), .val (.long mark), .second, .val (.ref s1), .val .null, .val (.ref o), .unset, .unset, .unset, .unset] [(.ref s1)])) t_
        rw [hfst, if_pos hc185_71] at k_
        exact k_
      · skip
        refine (XS.icmpYes X61.here hx rfl (pc0 := 185) (pc' := 193) rfl (Jvm.hb hby at_185) rfl (feq hc185_71).2 (by decide) (by decide) (XS.aconstNull X61.here hx rfl (Jvm.hb hby at_193) ?_))
        show Steps p.tables e below (T61.setTop (mkF m 194 #[.val (.int p0), .val (.int p1), .val (.int p2), .val (.int p3), .val (.int p4), .val (.int p5), .val (.int (p0 &&& (2047 : Int32))), .val (.int len), .val (.int fa), .val (.int sa), .val (.int ia), .val (.int fb), .val (.int sb), .val (.int ib), .val (.int j), .val (.int (1 : Int32)), .val (.long mark), .second, .val (.ref s1), .val .null, .val (.ref o), .unset, .unset, .unset, .unset] [.null])) t_
        rw [hfst, if_neg hc185_71] at k_
        exact k_
    have rfst : fst.isRef = true := by
      rw [hfst]
      repeat' split
      all_goals first | rfl
    refine own_of (T' := T61) (f' := (mkF m 194 #[.val (.int p0), .val (.int p1), .val (.int p2), .val (.int p3), .val (.int p4), .val (.int p5), .val (.int (p0 &&& (2047 : Int32))), .val (.int len), .val (.int fa), .val (.int sa), .val (.int ia), .val (.int fb), .val (.int sb), .val (.int ib), .val (.int j), .val (.int (1 : Int32)), .val (.long mark), .second, .val (.ref s1), .val .null, .val (.ref o), .unset, .unset, .unset, .unset] [fst])) st72 ?_
    refine own_of (T' := T61) (f' := (mkF m 201 #[.val (.int p0), .val (.int p1), .val (.int p2), .val (.int p3), .val (.int p4), .val (.int p5), .val (.int (p0 &&& (2047 : Int32))), .val (.int len), .val (.int fa), .val (.int sa), .val (.int ia), .val (.int fb), .val (.int sb), .val (.int ib), .val (.int j), .val (.int (1 : Int32)), .val (.long mark), .second, .val (.ref s1), .val .null, .val (.ref o), .val fst, .unset, .unset, .unset] [(.int ia), (.int (0 : Int32)), (.ref o)])) (fun t_ k_ => (own_astore X61.here hx rfl (Jvm.hb hby at_194) rfl rfst rfl One.u (l' := #[.val (.int p0), .val (.int p1), .val (.int p2), .val (.int p3), .val (.int p4), .val (.int p5), .val (.int (p0 &&& (2047 : Int32))), .val (.int len), .val (.int fa), .val (.int sa), .val (.int ia), .val (.int fb), .val (.int sb), .val (.int ib), .val (.int j), .val (.int (1 : Int32)), .val (.long mark), .second, .val (.ref s1), .val .null, .val (.ref o), .val fst, .unset, .unset, .unset]) rfl (XS.aload X61.here hx rfl (Jvm.hb hby at_196) rfl rfl (XS.iconst X61.here hx rfl (Jvm.hb hby at_198) (XS.iload X61.here hx rfl (Jvm.hb hby at_199) rfl k_))))) ?_
    have in0a := own_in0 len ia (by have := jnia.1; rw [Int32.lt_iff_toInt_lt] at this; exact Int.not_lt.mp this) (by have := jnia.2; rw [Int32.lt_iff_toInt_lt] at this; exact this)
    have gj1 : getH [(ia, .ref s1)] [] .null ((0 : Int32) + j).toNatClampNeg = fst := by
      rw [hfst]
      by_cases c : j = ia
      · rw [if_pos c]; exact getH_hit nj (ej.trans c)
      · rw [if_neg c]; exact getH_miss nj (fun q => c (ej.symm.trans q)) rfl
    obtain ⟨cq74, kq74, q74a, q74b, q74c⟩ := isOf hZ rfl Eo61
    obtain ⟨_, _, ⟨T73, L73, k73, n73⟩, -, X73, ⟨Lc73, hQ73, l73, y73, z73⟩, st73⟩ := X61.virtualBack hx (y := (⟨"com/example/kreide/kreide/interpreter/CallStack", "getObjectAt", "(II)Ljava/lang/Object;"⟩ : MethodName)) (z := (⟨"com/example/kreide/kreide/interpreter/CallStack", "getObjectAt", "(II)Ljava/lang/Object;"⟩ : MethodName)) hown (mvT hZ (hw _ (List.mem_of_getElem? (i := 63) rfl))) (mvT hZ (hw _ (List.mem_of_getElem? (i := 64) rfl))) (notFace_of_selects (args := #[]) (mvT hZ (hw _ (List.mem_of_getElem? (i := 66) rfl)))) (mvT hZ (hw _ (List.mem_of_getElem? (i := 66) rfl))) (mvT hZ (hw _ (List.mem_of_getElem? (i := 65) rfl))) (by decide) (backOf (W := 0) (own_rm_getO l Z a0 hw [] o (0 : Int32) ia ra kr len [(ia, .ref s1)] (.ref s1) T61.heap n0 f64 Fr61 Ar61 in0a (getH_hit in0a.1 eia) rfl) hZ (hw _ (List.mem_of_getElem? (i := 67) rfl)) (hw _ (List.mem_of_getElem? (i := 37) rfl)) (by decide) (by decide)) q74a q74c (g := (mkF m 201 #[.val (.int p0), .val (.int p1), .val (.int p2), .val (.int p3), .val (.int p4), .val (.int p5), .val (.int (p0 &&& (2047 : Int32))), .val (.int len), .val (.int fa), .val (.int sa), .val (.int ia), .val (.int fb), .val (.int sb), .val (.int ib), .val (.int j), .val (.int (1 : Int32)), .val (.long mark), .second, .val (.ref s1), .val .null, .val (.ref o), .val fst, .unset, .unset, .unset] [(.int ia), (.int (0 : Int32)), (.ref o)])) rfl (by rw [hml]; rfl) (Steps.refl _) (argsL := [(.int (0 : Int32)), (.int ia)]) (rest := []) (lenOf own_pd_5 rfl) rfl (by show 2 * 0 + _ ≤ _; exact Nat.le_of_eq rfl) (Jvm.hb hby at_201) (fun _ _ => ⟨rfl, rfl, Nat.le_of_ble_eq_true rfl, Nat.le_of_ble_eq_true rfl⟩)
    dsimp only [Pt.U, Pt.locs, Pt.cells, Pt.slots] at X73 l73 y73 z73 st73 hQ73
    subst l73 y73 z73
    obtain ⟨rfl, N73, e73⟩ := hQ73
    have N75 := Fr.app N63 N73
    refine own_of (T' := T73) (f' := (mkF m 214 #[.val (.int p0), .val (.int p1), .val (.int p2), .val (.int p3), .val (.int p4), .val (.int p5), .val (.int (p0 &&& (2047 : Int32))), .val (.int len), .val (.int fa), .val (.int sa), .val (.int ia), .val (.int fb), .val (.int sb), .val (.int ib), .val (.int j), .val (.int (1 : Int32)), .val (.long mark), .second, .val (.ref s1), .val .null, .val (.ref o), .val fst, .unset, .unset, .unset] [(.int j), (.int (0 : Int32)), (.ref o)])) (fun t_ k_ => (st73.trans (XS.aload X73.here hx rfl (Jvm.hb hby at_204) rfl rfl (Jvm.RoadKit.acmp (g := (mkF m 206 #[.val (.int p0), .val (.int p1), .val (.int p2), .val (.int p3), .val (.int p4), .val (.int p5), .val (.int (p0 &&& (2047 : Int32))), .val (.int len), .val (.int fa), .val (.int sa), .val (.int ia), .val (.int fb), .val (.int sb), .val (.int ib), .val (.int j), .val (.int (1 : Int32)), .val (.long mark), .second, .val (.ref s1), .val .null, .val (.ref o), .val fst, .unset, .unset, .unset] [(.ref s1), (.ref s1)])) X73 hx rfl rfl rfl (pc0 := 206) (pc' := 209) (same := true) rfl (Jvm.hb hby at_206) rfl (decide_eq_true rfl) (by decide) (by decide) (XS.aload X73.here hx rfl (Jvm.hb hby at_209) rfl rfl (XS.iconst X73.here hx rfl (Jvm.hb hby at_211) (XS.iload X73.here hx rfl (Jvm.hb hby at_212) rfl k_))))))) ?_
    obtain ⟨cq77, kq77, q77a, q77b, q77c⟩ := isOf hZ e73 Eo61
    obtain ⟨_, _, ⟨T76, L76, k76, n76⟩, -, X76, ⟨Lc76, hQ76, l76, y76, z76⟩, st76⟩ := X73.virtualBack hx (y := (⟨"com/example/kreide/kreide/interpreter/CallStack", "getObjectAt", "(II)Ljava/lang/Object;"⟩ : MethodName)) (z := (⟨"com/example/kreide/kreide/interpreter/CallStack", "getObjectAt", "(II)Ljava/lang/Object;"⟩ : MethodName)) hown (mvT hZ (hw _ (List.mem_of_getElem? (i := 63) rfl))) (mvT hZ (hw _ (List.mem_of_getElem? (i := 64) rfl))) (notFace_of_selects (args := #[]) (mvT hZ (hw _ (List.mem_of_getElem? (i := 66) rfl)))) (mvT hZ (hw _ (List.mem_of_getElem? (i := 66) rfl))) (mvT hZ (hw _ (List.mem_of_getElem? (i := 65) rfl))) (by decide) (backOf (W := 0) (own_rm_getO l Z a0 hw [] o (0 : Int32) j ra kr len [(ia, .ref s1)] fst T61.heap n0 f64 Fr61 Ar61 inj gj1 rfst) hZ (hw _ (List.mem_of_getElem? (i := 67) rfl)) (hw _ (List.mem_of_getElem? (i := 37) rfl)) (by decide) (by decide)) q77a q77c (g := (mkF m 214 #[.val (.int p0), .val (.int p1), .val (.int p2), .val (.int p3), .val (.int p4), .val (.int p5), .val (.int (p0 &&& (2047 : Int32))), .val (.int len), .val (.int fa), .val (.int sa), .val (.int ia), .val (.int fb), .val (.int sb), .val (.int ib), .val (.int j), .val (.int (1 : Int32)), .val (.long mark), .second, .val (.ref s1), .val .null, .val (.ref o), .val fst, .unset, .unset, .unset] [(.int j), (.int (0 : Int32)), (.ref o)])) rfl (by rw [hml]; rfl) (Steps.refl _) (argsL := [(.int (0 : Int32)), (.int j)]) (rest := []) (lenOf own_pd_5 rfl) rfl (by show 2 * 0 + _ ≤ _; exact Nat.le_of_eq rfl) (Jvm.hb hby at_214) (fun _ _ => ⟨rfl, e73, Nat.le_of_ble_eq_true rfl, Nat.le_of_ble_eq_true rfl⟩)
    dsimp only [Pt.U, Pt.locs, Pt.cells, Pt.slots] at X76 l76 y76 z76 st76 hQ76
    subst l76 y76 z76
    obtain ⟨rfl, N76, e76⟩ := hQ76
    have N78 := Fr.app N75 N76
    refine own_of (T' := T76) (f' := (mkF m 233 #[.val (.int p0), .val (.int p1), .val (.int p2), .val (.int p3), .val (.int p4), .val (.int p5), .val (.int (p0 &&& (2047 : Int32))), .val (.int len), .val (.int fa), .val (.int sa), .val (.int ia), .val (.int fb), .val (.int sb), .val (.int ib), .val (.int j), .val (.int (1 : Int32)), .val (.long mark), .second, .val (.ref s1), .val .null, .val (.ref o), .val fst, .val (.int (1 : Int32)), .unset, .unset] [(.int fb), (.ref o)])) (fun t_ k_ => (st76.trans (XS.aload X76.here hx rfl (Jvm.hb hby at_217) rfl rfst (Jvm.RoadKit.acmp (g := (mkF m 219 #[.val (.int p0), .val (.int p1), .val (.int p2), .val (.int p3), .val (.int p4), .val (.int p5), .val (.int (p0 &&& (2047 : Int32))), .val (.int len), .val (.int fa), .val (.int sa), .val (.int ia), .val (.int fb), .val (.int sb), .val (.int ib), .val (.int j), .val (.int (1 : Int32)), .val (.long mark), .second, .val (.ref s1), .val .null, .val (.ref o), .val fst, .unset, .unset, .unset] [fst, fst])) X76 hx rfl rfst rfst (pc0 := 219) (pc' := 222) (same := true) rfl (Jvm.hb hby at_219) rfl (decide_eq_true rfl) (by decide) (by decide) (XS.iconst X76.here hx rfl (Jvm.hb hby at_222) (XS.goto X76.here hx rfl (pc0 := 223) (pc' := 227) rfl (Jvm.hb hby at_223) (by decide) (by decide) (XS.istore X76.here hx rfl (Jvm.hb hby at_227) rfl (l' := #[.val (.int p0), .val (.int p1), .val (.int p2), .val (.int p3), .val (.int p4), .val (.int p5), .val (.int (p0 &&& (2047 : Int32))), .val (.int len), .val (.int fa), .val (.int sa), .val (.int ia), .val (.int fb), .val (.int sb), .val (.int ib), .val (.int j), .val (.int (1 : Int32)), .val (.long mark), .second, .val (.ref s1), .val .null, .val (.ref o), .val fst, .val (.int (1 : Int32)), .unset, .unset]) rfl (XS.aload X76.here hx rfl (Jvm.hb hby at_229) rfl rfl (XS.iload X76.here hx rfl (Jvm.hb hby at_231) rfl k_))))))))) ?_
    refine own_of (T' := T76) (f' := (mkF m 237 #[.val (.int p0), .val (.int p1), .val (.int p2), .val (.int p3), .val (.int p4), .val (.int p5), .val (.int (p0 &&& (2047 : Int32))), .val (.int len), .val (.int fa), .val (.int sa), .val (.int ia), .val (.int fb), .val (.int sb), .val (.int ib), .val (.int j), .val (.int (1 : Int32)), .val (.long mark), .second, .val (.ref s1), .val .null, .val (.ref o), .val fst, .val (.int (1 : Int32)), .unset, .unset] [.null, (.int sb), (.int fb), (.ref o)])) (fun t_ k_ => (XS.iload X76.here hx rfl (Jvm.hb hby at_233) rfl (XS.aload X76.here hx rfl (Jvm.hb hby at_235) rfl rfl k_))) ?_
    obtain ⟨cq80, kq80, q80a, q80b, q80c⟩ := isOf hZ e76 Eo61
    obtain ⟨_, _, ⟨T79, L79, k79, n79⟩, -, X79, ⟨Lc79, hQ79, l79, y79, z79⟩, st79⟩ := X76.virtualBack hx (y := (⟨"com/example/kreide/kreide/interpreter/CallStack", "setObjectAt", "(IILjava/lang/Object;)V"⟩ : MethodName)) (z := (⟨"com/example/kreide/kreide/interpreter/CallStack", "setObjectAt", "(IILjava/lang/Object;)V"⟩ : MethodName)) hown (mvT hZ (hw _ (List.mem_of_getElem? (i := 53) rfl))) (mvT hZ (hw _ (List.mem_of_getElem? (i := 54) rfl))) (notFace_of_selects (args := #[]) (mvT hZ (hw _ (List.mem_of_getElem? (i := 56) rfl)))) (mvT hZ (hw _ (List.mem_of_getElem? (i := 56) rfl))) (mvT hZ (hw _ (List.mem_of_getElem? (i := 55) rfl))) (by decide) (backOf (W := 0) (own_rm_setO2N l Z a0 hw [] o fb sb  ra kr len [(ia, .ref s1)] T61.heap n0 f64 Fr61 Ar61 Ovr_ inib  g_ra) hZ (hw _ (List.mem_of_getElem? (i := 57) rfl)) (hw _ (List.mem_of_getElem? (i := 37) rfl)) (by decide) (by decide)) q80a q80c (g := (mkF m 237 #[.val (.int p0), .val (.int p1), .val (.int p2), .val (.int p3), .val (.int p4), .val (.int p5), .val (.int (p0 &&& (2047 : Int32))), .val (.int len), .val (.int fa), .val (.int sa), .val (.int ia), .val (.int fb), .val (.int sb), .val (.int ib), .val (.int j), .val (.int (1 : Int32)), .val (.long mark), .second, .val (.ref s1), .val .null, .val (.ref o), .val fst, .val (.int (1 : Int32)), .unset, .unset] [.null, (.int sb), (.int fb), (.ref o)])) rfl (by rw [hml]; rfl) (Steps.refl _) (argsL := [(.int fb), (.int sb), .null]) (rest := []) (lenOf own_pd_4 rfl) rfl (by show 2 * 0 + _ ≤ _; exact Nat.le_of_eq rfl) (Jvm.hb hby at_237) (fun _ _ => ⟨rfl, e76, Nat.le_of_ble_eq_true rfl, Nat.le_of_ble_eq_true rfl⟩)
    dsimp only [Pt.U, Pt.locs, Pt.cells, Pt.slots] at X79 l79 y79 z79 st79 hQ79
    subst l79 y79 z79
    obtain ⟨rfl, N79, K79, Ar79⟩ := hQ79
    rw [hib] at Ar79
    have N81 := Fr.app N78 N79
    have f82 := Nat.le_trans f64 K79.1
    have f83 := f65.keep K79 (allS g_ra all0)
    have f84 := f66.keep K79
    have f85 := Eo61.keep K79
    have f86 := f70.keep K79 (ninS ne_pa_ra nin0)
    have f87 := Fp61.keep K79 (ninS ne_o_ra nin0)
    have f88 := Fr61.keep K79 (ninS ne_o_ra nin0)
    refine own_of (T' := T79) (f' := (mkF m 244 #[.val (.int p0), .val (.int p1), .val (.int p2), .val (.int p3), .val (.int p4), .val (.int p5), .val (.int (p0 &&& (2047 : Int32))), .val (.int len), .val (.int fa), .val (.int sa), .val (.int ia), .val (.int fb), .val (.int sb), .val (.int ib), .val (.int j), .val (.int (1 : Int32)), .val (.long mark), .second, .val (.ref s1), .val .null, .val (.ref o), .val fst, .val (.int (1 : Int32)), .unset, .unset] [(.int ib), (.int ia)])) (fun t_ k_ => (st79.trans (XS.iload X79.here hx rfl (Jvm.hb hby at_240) rfl (XS.iload X79.here hx rfl (Jvm.hb hby at_242) rfl k_)))) ?_
    obtain ⟨e1, he1⟩ : ∃ z : Value, z = (if ia = ib then .null else (.ref s1)) := ⟨_, rfl⟩
    have st91 : ∀ t_, Steps p.tables e below (T79.setTop (mkF m 254 #[.val (.int p0), .val (.int p1), .val (.int p2), .val (.int p3), .val (.int p4), .val (.int p5), .val (.int (p0 &&& (2047 : Int32))), .val (.int len), .val (.int fa), .val (.int sa), .val (.int ia), .val (.int fb), .val (.int sb), .val (.int ib), .val (.int j), .val (.int (1 : Int32)), .val (.long mark), .second, .val (.ref s1), .val .null, .val (.ref o), .val fst, .val (.int (1 : Int32)), .unset, .unset] [e1])) t_ → Steps p.tables e below (T79.setTop (mkF m 244 #[.val (.int p0), .val (.int p1), .val (.int p2), .val (.int p3), .val (.int p4), .val (.int p5), .val (.int (p0 &&& (2047 : Int32))), .val (.int len), .val (.int fa), .val (.int sa), .val (.int ia), .val (.int fb), .val (.int sb), .val (.int ib), .val (.int j), .val (.int (1 : Int32)), .val (.long mark), .second, .val (.ref s1), .val .null, .val (.ref o), .val fst, .val (.int (1 : Int32)), .unset, .unset] [(.int ib), (.int ia)])) t_ := by
      intro t_ k_
      by_cases hc244_90 : (ia = ib)
      · skip
        refine (XS.icmpNo X79.here hx rfl (Jvm.hb hby at_244) rfl (teq hc244_90).2 (XS.aload X79.here hx rfl (Jvm.hb hby at_247) rfl rfl (XS.goto X79.here hx rfl (pc0 := 249) (pc' := 254) rfl (Jvm.hb hby at_249) (by decide) (by decide) ?_)))
        show Steps p.tables e below (T79.setTop (mkF m 254 #[.val (.int p0), .val (.int p1), .val (.int p2), .val (.int p3), .val (.int p4), .val (.int p5), .val (.int (p0 &&& (2047 : Int32))), .val (.int len), .val (.int fa), .val (.int sa), .val (.int ia), .val (.int fb), .val (.int sb), .val (.int ib), .val (.int j), .val (.int (1 : Int32)), .val (.long mark), .second, .val (.ref s1), .val .null, .val (.ref o), .val fst, .val (.int (1 : Int32)), .unset, .unset] [.null])) t_
        rw [he1, if_pos hc244_90] at k_
        exact k_
      · skip
        refine (XS.icmpYes X79.here hx rfl (pc0 := 244) (pc' := 252) rfl (Jvm.hb hby at_244) rfl (feq hc244_90).2 (by decide) (by decide) (XS.aload X79.here hx rfl (Jvm.hb hby at_252) rfl rfl ?_))
        show Steps p.tables e below (T79.setTop (mkF m 254 #[.val (.int p0), .val (.int p1), .val (.int p2), .val (.int p3), .val (.int p4), .val (.int p5), .val (.int (p0 &&& (2047 : Int32))), .val (.int len), .val (.int fa), .val (.int sa), .val (.int ia), .val (.int fb), .val (.int sb), .val (.int ib), .val (.int j), .val (.int (1 : Int32)), .val (.long mark), .second, .val (.ref s1), .val .null, .val (.ref o), .val fst, .val (.int (1 : Int32)), .unset, .unset] [(.ref s1)])) t_
        rw [he1, if_neg hc244_90] at k_
        exact k_
    have re1 : e1.isRef = true := by
      rw [he1]
      repeat' split
      all_goals first | rfl
    refine own_of (T' := T79) (f' := (mkF m 254 #[.val (.int p0), .val (.int p1), .val (.int p2), .val (.int p3), .val (.int p4), .val (.int p5), .val (.int (p0 &&& (2047 : Int32))), .val (.int len), .val (.int fa), .val (.int sa), .val (.int ia), .val (.int fb), .val (.int sb), .val (.int ib), .val (.int j), .val (.int (1 : Int32)), .val (.long mark), .second, .val (.ref s1), .val .null, .val (.ref o), .val fst, .val (.int (1 : Int32)), .unset, .unset] [e1])) st91 ?_
    refine own_of (T' := T79) (f' := (mkF m 260 #[.val (.int p0), .val (.int p1), .val (.int p2), .val (.int p3), .val (.int p4), .val (.int p5), .val (.int (p0 &&& (2047 : Int32))), .val (.int len), .val (.int fa), .val (.int sa), .val (.int ia), .val (.int fb), .val (.int sb), .val (.int ib), .val (.int j), .val (.int (1 : Int32)), .val (.long mark), .second, .val (.ref s1), .val .null, .val (.ref o), .val fst, .val (.int (1 : Int32)), .val e1, .unset] [(.int ib), (.int j)])) (fun t_ k_ => (own_astore X79.here hx rfl (Jvm.hb hby at_254) rfl re1 rfl One.u (l' := #[.val (.int p0), .val (.int p1), .val (.int p2), .val (.int p3), .val (.int p4), .val (.int p5), .val (.int (p0 &&& (2047 : Int32))), .val (.int len), .val (.int fa), .val (.int sa), .val (.int ia), .val (.int fb), .val (.int sb), .val (.int ib), .val (.int j), .val (.int (1 : Int32)), .val (.long mark), .second, .val (.ref s1), .val .null, .val (.ref o), .val fst, .val (.int (1 : Int32)), .val e1, .unset]) rfl (XS.iload X79.here hx rfl (Jvm.hb hby at_256) rfl (XS.iload X79.here hx rfl (Jvm.hb hby at_258) rfl k_)))) ?_
    obtain ⟨ejv, hejv⟩ : ∃ z : Value, z = (if j = ib then .null else fst) := ⟨_, rfl⟩
    have st93 : ∀ t_, Steps p.tables e below (T79.setTop (mkF m 270 #[.val (.int p0), .val (.int p1), .val (.int p2), .val (.int p3), .val (.int p4), .val (.int p5), .val (.int (p0 &&& (2047 : Int32))), .val (.int len), .val (.int fa), .val (.int sa), .val (.int ia), .val (.int fb), .val (.int sb), .val (.int ib), .val (.int j), .val (.int (1 : Int32)), .val (.long mark), .second, .val (.ref s1), .val .null, .val (.ref o), .val fst, .val (.int (1 : Int32)), .val e1, .unset] [ejv])) t_ → Steps p.tables e below (T79.setTop (mkF m 260 #[.val (.int p0), .val (.int p1), .val (.int p2), .val (.int p3), .val (.int p4), .val (.int p5), .val (.int (p0 &&& (2047 : Int32))), .val (.int len), .val (.int fa), .val (.int sa), .val (.int ia), .val (.int fb), .val (.int sb), .val (.int ib), .val (.int j), .val (.int (1 : Int32)), .val (.long mark), .second, .val (.ref s1), .val .null, .val (.ref o), .val fst, .val (.int (1 : Int32)), .val e1, .unset] [(.int ib), (.int j)])) t_ := by
      intro t_ k_
      by_cases hc260_92 : (j = ib)
      · skip
        refine (XS.icmpNo X79.here hx rfl (Jvm.hb hby at_260) rfl (teq hc260_92).2 (XS.aload X79.here hx rfl (Jvm.hb hby at_263) rfl rfl (XS.goto X79.here hx rfl (pc0 := 265) (pc' := 270) rfl (Jvm.hb hby at_265) (by decide) (by decide) ?_)))
        show Steps p.tables e below (T79.setTop (mkF m 270 #[.val (.int p0), .val (.int p1), .val (.int p2), .val (.int p3), .val (.int p4), .val (.int p5), .val (.int (p0 &&& (2047 : Int32))), .val (.int len), .val (.int fa), .val (.int sa), .val (.int ia), .val (.int fb), .val (.int sb), .val (.int ib), .val (.int j), .val (.int (1 : Int32)), .val (.long mark), .second, .val (.ref s1), .val .null, .val (.ref o), .val fst, .val (.int (1 : Int32)), .val e1, .unset] [.null])) t_
        rw [hejv, if_pos hc260_92] at k_
        exact k_
      · skip
        refine (XS.icmpYes X79.here hx rfl (pc0 := 260) (pc' := 268) rfl (Jvm.hb hby at_260) rfl (feq hc260_92).2 (by decide) (by decide) (XS.aload X79.here hx rfl (Jvm.hb hby at_268) rfl rfst ?_))
        show Steps p.tables e below (T79.setTop (mkF m 270 #[.val (.int p0), .val (.int p1), .val (.int p2), .val (.int p3), .val (.int p4), .val (.int p5), .val (.int (p0 &&& (2047 : Int32))), .val (.int len), .val (.int fa), .val (.int sa), .val (.int ia), .val (.int fb), .val (.int sb), .val (.int ib), .val (.int j), .val (.int (1 : Int32)), .val (.long mark), .second, .val (.ref s1), .val .null, .val (.ref o), .val fst, .val (.int (1 : Int32)), .val e1, .unset] [fst])) t_
        rw [hejv, if_neg hc260_92] at k_
        exact k_
    have rejv : ejv.isRef = true := by
      rw [hejv]
      repeat' split
      all_goals first | rfl | exact rfst
    refine own_of (T' := T79) (f' := (mkF m 270 #[.val (.int p0), .val (.int p1), .val (.int p2), .val (.int p3), .val (.int p4), .val (.int p5), .val (.int (p0 &&& (2047 : Int32))), .val (.int len), .val (.int fa), .val (.int sa), .val (.int ia), .val (.int fb), .val (.int sb), .val (.int ib), .val (.int j), .val (.int (1 : Int32)), .val (.long mark), .second, .val (.ref s1), .val .null, .val (.ref o), .val fst, .val (.int (1 : Int32)), .val e1, .unset] [ejv])) st93 ?_
    refine own_of (T' := T79) (f' := (mkF m 283 #[.val (.int p0), .val (.int p1), .val (.int p2), .val (.int p3), .val (.int p4), .val (.int p5), .val (.int (p0 &&& (2047 : Int32))), .val (.int len), .val (.int fa), .val (.int sa), .val (.int ia), .val (.int fb), .val (.int sb), .val (.int ib), .val (.int j), .val (.int (1 : Int32)), .val (.long mark), .second, .val (.ref s1), .val .null, .val (.ref o), .val fst, .val (.int (1 : Int32)), .val e1, .val ejv] [(.int sb), (.int fb), (.ref o)])) (fun t_ k_ => (own_astore X79.here hx rfl (Jvm.hb hby at_270) rfl rejv rfl One.u (l' := #[.val (.int p0), .val (.int p1), .val (.int p2), .val (.int p3), .val (.int p4), .val (.int p5), .val (.int (p0 &&& (2047 : Int32))), .val (.int len), .val (.int fa), .val (.int sa), .val (.int ia), .val (.int fb), .val (.int sb), .val (.int ib), .val (.int j), .val (.int (1 : Int32)), .val (.long mark), .second, .val (.ref s1), .val .null, .val (.ref o), .val fst, .val (.int (1 : Int32)), .val e1, .val ejv]) rfl (XS.iload X79.here hx rfl (Jvm.hb hby at_272) rfl (XS.ifNo X79.here hx rfl (Jvm.hb hby at_274) rfl ((if0 _ _).trans (feq (by decide : ¬ (1 : Int32) = 0)).1) (XS.aload X79.here hx rfl (Jvm.hb hby at_277) rfl rfl (XS.iload X79.here hx rfl (Jvm.hb hby at_279) rfl (XS.iload X79.here hx rfl (Jvm.hb hby at_281) rfl k_))))))) ?_
    have g1 : getH [(ib, .null), (ia, .ref s1)] [] .null (fb + sb).toNatClampNeg = .null := getH_hit inib.1 hib
    obtain ⟨cq95, kq95, q95a, q95b, q95c⟩ := isOf hZ rfl f85
    obtain ⟨_, _, ⟨T94, L94, k94, n94⟩, -, X94, ⟨Lc94, hQ94, l94, y94, z94⟩, st94⟩ := X79.virtualBack hx (y := (⟨"com/example/kreide/kreide/interpreter/CallStack", "getObjectAt", "(II)Ljava/lang/Object;"⟩ : MethodName)) (z := (⟨"com/example/kreide/kreide/interpreter/CallStack", "getObjectAt", "(II)Ljava/lang/Object;"⟩ : MethodName)) hown (mvT hZ (hw _ (List.mem_of_getElem? (i := 63) rfl))) (mvT hZ (hw _ (List.mem_of_getElem? (i := 64) rfl))) (notFace_of_selects (args := #[]) (mvT hZ (hw _ (List.mem_of_getElem? (i := 66) rfl)))) (mvT hZ (hw _ (List.mem_of_getElem? (i := 66) rfl))) (mvT hZ (hw _ (List.mem_of_getElem? (i := 65) rfl))) (by decide) (backOf (W := 0) (own_rm_getO l Z a0 hw [] o fb sb ra kr len [(ib, .null), (ia, .ref s1)] .null T79.heap n0 f82 f88 Ar79 inib g1 rfl) hZ (hw _ (List.mem_of_getElem? (i := 67) rfl)) (hw _ (List.mem_of_getElem? (i := 37) rfl)) (by decide) (by decide)) q95a q95c (g := (mkF m 283 #[.val (.int p0), .val (.int p1), .val (.int p2), .val (.int p3), .val (.int p4), .val (.int p5), .val (.int (p0 &&& (2047 : Int32))), .val (.int len), .val (.int fa), .val (.int sa), .val (.int ia), .val (.int fb), .val (.int sb), .val (.int ib), .val (.int j), .val (.int (1 : Int32)), .val (.long mark), .second, .val (.ref s1), .val .null, .val (.ref o), .val fst, .val (.int (1 : Int32)), .val e1, .val ejv] [(.int sb), (.int fb), (.ref o)])) rfl (by rw [hml]; rfl) (Steps.refl _) (argsL := [(.int fb), (.int sb)]) (rest := []) (lenOf own_pd_5 rfl) rfl (by show 2 * 0 + _ ≤ _; exact Nat.le_of_eq rfl) (Jvm.hb hby at_283) (fun _ _ => ⟨rfl, rfl, Nat.le_of_ble_eq_true rfl, Nat.le_of_ble_eq_true rfl⟩)
    dsimp only [Pt.U, Pt.locs, Pt.cells, Pt.slots] at X94 l94 y94 z94 st94 hQ94
    subst l94 y94 z94
    obtain ⟨rfl, N94, e94⟩ := hQ94
    have N96 := Fr.app N81 N94
    refine own_of (T' := T94) (f' := (mkF m 303 #[.val (.int p0), .val (.int p1), .val (.int p2), .val (.int p3), .val (.int p4), .val (.int p5), .val (.int (p0 &&& (2047 : Int32))), .val (.int len), .val (.int fa), .val (.int sa), .val (.int ia), .val (.int fb), .val (.int sb), .val (.int ib), .val (.int j), .val (.int (1 : Int32)), .val (.long mark), .second, .val (.ref s1), .val .null, .val (.ref o), .val fst, .val (.int (1 : Int32)), .val e1, .val ejv] [])) (fun t_ k_ => (st94.trans (XS.aload X94.here hx rfl (Jvm.hb hby at_286) rfl rfl (Jvm.RoadKit.acmp (g := (mkF m 288 #[.val (.int p0), .val (.int p1), .val (.int p2), .val (.int p3), .val (.int p4), .val (.int p5), .val (.int (p0 &&& (2047 : Int32))), .val (.int len), .val (.int fa), .val (.int sa), .val (.int ia), .val (.int fb), .val (.int sb), .val (.int ib), .val (.int j), .val (.int (1 : Int32)), .val (.long mark), .second, .val (.ref s1), .val .null, .val (.ref o), .val fst, .val (.int (1 : Int32)), .val e1, .val ejv] [.null, .null])) X94 hx rfl rfl rfl (pc0 := 288) (pc' := 291) (same := true) rfl (Jvm.hb hby at_288) rfl (decide_eq_true rfl) (by decide) (by decide) (XS.iconst X94.here hx rfl (Jvm.hb hby at_291) (XS.goto X94.here hx rfl (pc0 := 292) (pc' := 296) rfl (Jvm.hb hby at_292) (by decide) (by decide) (XS.istore X94.here hx rfl (Jvm.hb hby at_296) rfl (l' := #[.val (.int p0), .val (.int p1), .val (.int p2), .val (.int p3), .val (.int p4), .val (.int p5), .val (.int (p0 &&& (2047 : Int32))), .val (.int len), .val (.int fa), .val (.int sa), .val (.int ia), .val (.int fb), .val (.int sb), .val (.int ib), .val (.int j), .val (.int (1 : Int32)), .val (.long mark), .second, .val (.ref s1), .val .null, .val (.ref o), .val fst, .val (.int (1 : Int32)), .val e1, .val ejv]) rfl (XS.iload X94.here hx rfl (Jvm.hb hby at_298) rfl (XS.ifNo X94.here hx rfl (Jvm.hb hby at_300) rfl ((if0 _ _).trans (feq (by decide : ¬ (1 : Int32) = 0)).1) k_))))))))) ?_
    refine own_of (T' := T94) (f' := (mkF m 309 #[.val (.int p0), .val (.int p1), .val (.int p2), .val (.int p3), .val (.int p4), .val (.int p5), .val (.int (p0 &&& (2047 : Int32))), .val (.int len), .val (.int fa), .val (.int sa), .val (.int ia), .val (.int fb), .val (.int sb), .val (.int ib), .val (.int j), .val (.int (1 : Int32)), .val (.long mark), .second, .val (.ref s1), .val .null, .val (.ref o), .val fst, .val (.int (1 : Int32)), .val e1, .val ejv] [(.int sa), (.int fa), (.ref o)])) (fun t_ k_ => (XS.aload X94.here hx rfl (Jvm.hb hby at_303) rfl rfl (XS.iload X94.here hx rfl (Jvm.hb hby at_305) rfl (XS.iload X94.here hx rfl (Jvm.hb hby at_307) rfl k_)))) ?_
    have g2 : getH [(ib, .null), (ia, .ref s1)] [] .null (fa + sa).toNatClampNeg = e1 := by
      rw [he1]
      by_cases c : ia = ib
      · rw [if_pos c]; exact getH_hit inia.1 (hia.trans c)
      · rw [if_neg c]; exact getH_miss inia.1 (fun q => c (hia.symm.trans q)) (getH_hit inia.1 hia)
    obtain ⟨cq98, kq98, q98a, q98b, q98c⟩ := isOf hZ e94 f85
    obtain ⟨_, _, ⟨T97, L97, k97, n97⟩, -, X97, ⟨Lc97, hQ97, l97, y97, z97⟩, st97⟩ := X94.virtualBack hx (y := (⟨"com/example/kreide/kreide/interpreter/CallStack", "getObjectAt", "(II)Ljava/lang/Object;"⟩ : MethodName)) (z := (⟨"com/example/kreide/kreide/interpreter/CallStack", "getObjectAt", "(II)Ljava/lang/Object;"⟩ : MethodName)) hown (mvT hZ (hw _ (List.mem_of_getElem? (i := 63) rfl))) (mvT hZ (hw _ (List.mem_of_getElem? (i := 64) rfl))) (notFace_of_selects (args := #[]) (mvT hZ (hw _ (List.mem_of_getElem? (i := 66) rfl)))) (mvT hZ (hw _ (List.mem_of_getElem? (i := 66) rfl))) (mvT hZ (hw _ (List.mem_of_getElem? (i := 65) rfl))) (by decide) (backOf (W := 0) (own_rm_getO l Z a0 hw [] o fa sa ra kr len [(ib, .null), (ia, .ref s1)] e1 T79.heap n0 f82 f88 Ar79 inia g2 re1) hZ (hw _ (List.mem_of_getElem? (i := 67) rfl)) (hw _ (List.mem_of_getElem? (i := 37) rfl)) (by decide) (by decide)) q98a q98c (g := (mkF m 309 #[.val (.int p0), .val (.int p1), .val (.int p2), .val (.int p3), .val (.int p4), .val (.int p5), .val (.int (p0 &&& (2047 : Int32))), .val (.int len), .val (.int fa), .val (.int sa), .val (.int ia), .val (.int fb), .val (.int sb), .val (.int ib), .val (.int j), .val (.int (1 : Int32)), .val (.long mark), .second, .val (.ref s1), .val .null, .val (.ref o), .val fst, .val (.int (1 : Int32)), .val e1, .val ejv] [(.int sa), (.int fa), (.ref o)])) rfl (by rw [hml]; rfl) (Steps.refl _) (argsL := [(.int fa), (.int sa)]) (rest := []) (lenOf own_pd_5 rfl) rfl (by show 2 * 0 + _ ≤ _; exact Nat.le_of_eq rfl) (Jvm.hb hby at_309) (fun _ _ => ⟨rfl, e94, Nat.le_of_ble_eq_true rfl, Nat.le_of_ble_eq_true rfl⟩)
    dsimp only [Pt.U, Pt.locs, Pt.cells, Pt.slots] at X97 l97 y97 z97 st97 hQ97
    subst l97 y97 z97
    obtain ⟨rfl, N97, e97⟩ := hQ97
    have N99 := Fr.app N96 N97
    refine own_of (T' := T97) (f' := (mkF m 329 #[.val (.int p0), .val (.int p1), .val (.int p2), .val (.int p3), .val (.int p4), .val (.int p5), .val (.int (p0 &&& (2047 : Int32))), .val (.int len), .val (.int fa), .val (.int sa), .val (.int ia), .val (.int fb), .val (.int sb), .val (.int ib), .val (.int j), .val (.int (1 : Int32)), .val (.long mark), .second, .val (.ref s1), .val .null, .val (.ref o), .val fst, .val (.int (1 : Int32)), .val e1, .val ejv] [])) (fun t_ k_ => (st97.trans (XS.aload X97.here hx rfl (Jvm.hb hby at_312) rfl re1 (Jvm.RoadKit.acmp (g := (mkF m 314 #[.val (.int p0), .val (.int p1), .val (.int p2), .val (.int p3), .val (.int p4), .val (.int p5), .val (.int (p0 &&& (2047 : Int32))), .val (.int len), .val (.int fa), .val (.int sa), .val (.int ia), .val (.int fb), .val (.int sb), .val (.int ib), .val (.int j), .val (.int (1 : Int32)), .val (.long mark), .second, .val (.ref s1), .val .null, .val (.ref o), .val fst, .val (.int (1 : Int32)), .val e1, .val ejv] [e1, e1])) X97 hx rfl re1 re1 (pc0 := 314) (pc' := 317) (same := true) rfl (Jvm.hb hby at_314) rfl (decide_eq_true rfl) (by decide) (by decide) (XS.iconst X97.here hx rfl (Jvm.hb hby at_317) (XS.goto X97.here hx rfl (pc0 := 318) (pc' := 322) rfl (Jvm.hb hby at_318) (by decide) (by decide) (XS.istore X97.here hx rfl (Jvm.hb hby at_322) rfl (l' := #[.val (.int p0), .val (.int p1), .val (.int p2), .val (.int p3), .val (.int p4), .val (.int p5), .val (.int (p0 &&& (2047 : Int32))), .val (.int len), .val (.int fa), .val (.int sa), .val (.int ia), .val (.int fb), .val (.int sb), .val (.int ib), .val (.int j), .val (.int (1 : Int32)), .val (.long mark), .second, .val (.ref s1), .val .null, .val (.ref o), .val fst, .val (.int (1 : Int32)), .val e1, .val ejv]) rfl (XS.iload X97.here hx rfl (Jvm.hb hby at_324) rfl (XS.ifNo X97.here hx rfl (Jvm.hb hby at_326) rfl ((if0 _ _).trans (feq (by decide : ¬ (1 : Int32) = 0)).1) k_))))))))) ?_
    refine own_of (T' := T97) (f' := (mkF m 334 #[.val (.int p0), .val (.int p1), .val (.int p2), .val (.int p3), .val (.int p4), .val (.int p5), .val (.int (p0 &&& (2047 : Int32))), .val (.int len), .val (.int fa), .val (.int sa), .val (.int ia), .val (.int fb), .val (.int sb), .val (.int ib), .val (.int j), .val (.int (1 : Int32)), .val (.long mark), .second, .val (.ref s1), .val .null, .val (.ref o), .val fst, .val (.int (1 : Int32)), .val e1, .val ejv] [(.int j), (.int (0 : Int32)), (.ref o)])) (fun t_ k_ => (XS.aload X97.here hx rfl (Jvm.hb hby at_329) rfl rfl (XS.iconst X97.here hx rfl (Jvm.hb hby at_331) (XS.iload X97.here hx rfl (Jvm.hb hby at_332) rfl k_)))) ?_
    have g3 : getH [(ib, .null), (ia, .ref s1)] [] .null ((0 : Int32) + j).toNatClampNeg = ejv := by
      rw [hejv]
      by_cases c : j = ib
      · rw [if_pos c]; exact getH_hit nj (ej.trans c)
      · rw [if_neg c]; exact getH_miss nj (fun q => c (ej.symm.trans q)) gj1
    obtain ⟨cq101, kq101, q101a, q101b, q101c⟩ := isOf hZ e97 f85
    obtain ⟨_, _, ⟨T100, L100, k100, n100⟩, -, X100, ⟨Lc100, hQ100, l100, y100, z100⟩, st100⟩ := X97.virtualBack hx (y := (⟨"com/example/kreide/kreide/interpreter/CallStack", "getObjectAt", "(II)Ljava/lang/Object;"⟩ : MethodName)) (z := (⟨"com/example/kreide/kreide/interpreter/CallStack", "getObjectAt", "(II)Ljava/lang/Object;"⟩ : MethodName)) hown (mvT hZ (hw _ (List.mem_of_getElem? (i := 63) rfl))) (mvT hZ (hw _ (List.mem_of_getElem? (i := 64) rfl))) (notFace_of_selects (args := #[]) (mvT hZ (hw _ (List.mem_of_getElem? (i := 66) rfl)))) (mvT hZ (hw _ (List.mem_of_getElem? (i := 66) rfl))) (mvT hZ (hw _ (List.mem_of_getElem? (i := 65) rfl))) (by decide) (backOf (W := 0) (own_rm_getO l Z a0 hw [] o (0 : Int32) j ra kr len [(ib, .null), (ia, .ref s1)] ejv T79.heap n0 f82 f88 Ar79 inj g3 rejv) hZ (hw _ (List.mem_of_getElem? (i := 67) rfl)) (hw _ (List.mem_of_getElem? (i := 37) rfl)) (by decide) (by decide)) q101a q101c (g := (mkF m 334 #[.val (.int p0), .val (.int p1), .val (.int p2), .val (.int p3), .val (.int p4), .val (.int p5), .val (.int (p0 &&& (2047 : Int32))), .val (.int len), .val (.int fa), .val (.int sa), .val (.int ia), .val (.int fb), .val (.int sb), .val (.int ib), .val (.int j), .val (.int (1 : Int32)), .val (.long mark), .second, .val (.ref s1), .val .null, .val (.ref o), .val fst, .val (.int (1 : Int32)), .val e1, .val ejv] [(.int j), (.int (0 : Int32)), (.ref o)])) rfl (by rw [hml]; rfl) (Steps.refl _) (argsL := [(.int (0 : Int32)), (.int j)]) (rest := []) (lenOf own_pd_5 rfl) rfl (by show 2 * 0 + _ ≤ _; exact Nat.le_of_eq rfl) (Jvm.hb hby at_334) (fun _ _ => ⟨rfl, e97, Nat.le_of_ble_eq_true rfl, Nat.le_of_ble_eq_true rfl⟩)
    dsimp only [Pt.U, Pt.locs, Pt.cells, Pt.slots] at X100 l100 y100 z100 st100 hQ100
    subst l100 y100 z100
    obtain ⟨rfl, N100, e100⟩ := hQ100
    have N102 := Fr.app N99 N100
    refine own_of (T' := T100) (f' := (mkF m 354 #[.val (.int p0), .val (.int p1), .val (.int p2), .val (.int p3), .val (.int p4), .val (.int p5), .val (.int (p0 &&& (2047 : Int32))), .val (.int len), .val (.int fa), .val (.int sa), .val (.int ia), .val (.int fb), .val (.int sb), .val (.int ib), .val (.int j), .val (.int (1 : Int32)), .val (.long mark), .second, .val (.ref s1), .val .null, .val (.ref o), .val fst, .val (.int (1 : Int32)), .val e1, .val ejv] [])) (fun t_ k_ => (st100.trans (XS.aload X100.here hx rfl (Jvm.hb hby at_337) rfl rejv (Jvm.RoadKit.acmp (g := (mkF m 339 #[.val (.int p0), .val (.int p1), .val (.int p2), .val (.int p3), .val (.int p4), .val (.int p5), .val (.int (p0 &&& (2047 : Int32))), .val (.int len), .val (.int fa), .val (.int sa), .val (.int ia), .val (.int fb), .val (.int sb), .val (.int ib), .val (.int j), .val (.int (1 : Int32)), .val (.long mark), .second, .val (.ref s1), .val .null, .val (.ref o), .val fst, .val (.int (1 : Int32)), .val e1, .val ejv] [ejv, ejv])) X100 hx rfl rejv rejv (pc0 := 339) (pc' := 342) (same := true) rfl (Jvm.hb hby at_339) rfl (decide_eq_true rfl) (by decide) (by decide) (XS.iconst X100.here hx rfl (Jvm.hb hby at_342) (XS.goto X100.here hx rfl (pc0 := 343) (pc' := 347) rfl (Jvm.hb hby at_343) (by decide) (by decide) (XS.istore X100.here hx rfl (Jvm.hb hby at_347) rfl (l' := #[.val (.int p0), .val (.int p1), .val (.int p2), .val (.int p3), .val (.int p4), .val (.int p5), .val (.int (p0 &&& (2047 : Int32))), .val (.int len), .val (.int fa), .val (.int sa), .val (.int ia), .val (.int fb), .val (.int sb), .val (.int ib), .val (.int j), .val (.int (1 : Int32)), .val (.long mark), .second, .val (.ref s1), .val .null, .val (.ref o), .val fst, .val (.int (1 : Int32)), .val e1, .val ejv]) rfl (XS.iload X100.here hx rfl (Jvm.hb hby at_349) rfl (XS.ifNo X100.here hx rfl (Jvm.hb hby at_351) rfl ((if0 _ _).trans (feq (by decide : ¬ (1 : Int32) = 0)).1) k_))))))))) ?_
    refine own_of (T' := T100) (f' := (mkF m 359 #[.val (.int p0), .val (.int p1), .val (.int p2), .val (.int p3), .val (.int p4), .val (.int p5), .val (.int (p0 &&& (2047 : Int32))), .val (.int len), .val (.int fa), .val (.int sa), .val (.int ia), .val (.int fb), .val (.int sb), .val (.int ib), .val (.int j), .val (.int (1 : Int32)), .val (.long mark), .second, .val (.ref s1), .val .null, .val (.ref o), .val fst, .val (.int (1 : Int32)), .val e1, .val ejv] [(.int j), (.int (0 : Int32)), (.ref o)])) (fun t_ k_ => (XS.aload X100.here hx rfl (Jvm.hb hby at_354) rfl rfl (XS.iconst X100.here hx rfl (Jvm.hb hby at_356) (XS.iload X100.here hx rfl (Jvm.hb hby at_357) rfl k_)))) ?_
    obtain ⟨cq104, kq104, q104a, q104b, q104c⟩ := isOf hZ e100 f85
    obtain ⟨_, _, ⟨T103, L103, k103, n103⟩, -, X103, ⟨Lc103, hQ103, l103, y103, z103⟩, st103⟩ := X100.virtualBack hx (y := (⟨"com/example/kreide/kreide/interpreter/CallStack", "getLongAt", "(II)J"⟩ : MethodName)) (z := (⟨"com/example/kreide/kreide/interpreter/CallStack", "getLongAt", "(II)J"⟩ : MethodName)) hown (mvT hZ (hw _ (List.mem_of_getElem? (i := 68) rfl))) (mvT hZ (hw _ (List.mem_of_getElem? (i := 69) rfl))) (notFace_of_selects (args := #[]) (mvT hZ (hw _ (List.mem_of_getElem? (i := 71) rfl)))) (mvT hZ (hw _ (List.mem_of_getElem? (i := 71) rfl))) (mvT hZ (hw _ (List.mem_of_getElem? (i := 70) rfl))) (by decide) (backOf (W := 0) (own_rm_getL l Z a0 hw [] o (0 : Int32) j pa kp len [((0 : Int32) + j, .long mark)] mark T79.heap n0 f82 f87 f86 inj (getH_hit nj rfl)) hZ (hw _ (List.mem_of_getElem? (i := 72) rfl)) (hw _ (List.mem_of_getElem? (i := 37) rfl)) (by decide) (by decide)) q104a q104c (g := (mkF m 359 #[.val (.int p0), .val (.int p1), .val (.int p2), .val (.int p3), .val (.int p4), .val (.int p5), .val (.int (p0 &&& (2047 : Int32))), .val (.int len), .val (.int fa), .val (.int sa), .val (.int ia), .val (.int fb), .val (.int sb), .val (.int ib), .val (.int j), .val (.int (1 : Int32)), .val (.long mark), .second, .val (.ref s1), .val .null, .val (.ref o), .val fst, .val (.int (1 : Int32)), .val e1, .val ejv] [(.int j), (.int (0 : Int32)), (.ref o)])) rfl (by rw [hml]; rfl) (Steps.refl _) (argsL := [(.int (0 : Int32)), (.int j)]) (rest := []) (lenOf own_pd_6 rfl) rfl (by show 2 * 0 + _ ≤ _; exact Nat.le_of_eq rfl) (Jvm.hb hby at_359) (fun _ _ => ⟨rfl, e100, Nat.le_of_ble_eq_true rfl, Nat.le_of_ble_eq_true rfl⟩)
    dsimp only [Pt.U, Pt.locs, Pt.cells, Pt.slots] at X103 l103 y103 z103 st103 hQ103
    subst l103 y103 z103
    obtain ⟨rfl, N103, e103⟩ := hQ103
    have N105 := Fr.app N102 N103
    refine own_of (T' := T103) (f' := (mkF m 377 #[.val (.int p0), .val (.int p1), .val (.int p2), .val (.int p3), .val (.int p4), .val (.int p5), .val (.int (p0 &&& (2047 : Int32))), .val (.int len), .val (.int fa), .val (.int sa), .val (.int ia), .val (.int fb), .val (.int sb), .val (.int ib), .val (.int j), .val (.int (1 : Int32)), .val (.long mark), .second, .val (.ref s1), .val .null, .val (.ref o), .val fst, .val (.int (1 : Int32)), .val e1, .val ejv] [(.int (1 : Int32))])) (fun t_ k_ => (st103.trans (XS.lload X103.here hx rfl (Jvm.hb hby at_362) rfl (XS.lcmp X103.here hx rfl (Jvm.hb hby at_364) rfl (XS.ifNo X103.here hx rfl (Jvm.hb hby at_365) rfl ((if0 _ _).trans (teq ((lw_eq mark mark).mpr rfl)).2) (XS.iconst X103.here hx rfl (Jvm.hb hby at_368) (XS.goto X103.here hx rfl (pc0 := 369) (pc' := 373) rfl (Jvm.hb hby at_369) (by decide) (by decide) (XS.istore X103.here hx rfl (Jvm.hb hby at_373) rfl (l' := #[.val (.int p0), .val (.int p1), .val (.int p2), .val (.int p3), .val (.int p4), .val (.int p5), .val (.int (p0 &&& (2047 : Int32))), .val (.int len), .val (.int fa), .val (.int sa), .val (.int ia), .val (.int fb), .val (.int sb), .val (.int ib), .val (.int j), .val (.int (1 : Int32)), .val (.long mark), .second, .val (.ref s1), .val .null, .val (.ref o), .val fst, .val (.int (1 : Int32)), .val e1, .val ejv]) rfl (XS.iload X103.here hx rfl (Jvm.hb hby at_375) rfl k_))))))))) ?_
    obtain ⟨fs, hr, hrun, hended, hW, hsame⟩ := X103.leave (v := some (.int (1 : Int32))) (fun h => by rw [Bd.returns] at h; cases h)
    exact ⟨_, _, retN X103 hx (t := .boolean) Bd.returns (by simp) (Jvm.hb hby at_377) hr, hrun, hended, _, _, rfl, (by show own_Q_0 Z p0 p1 p2 p3 p4 p5 G1 h0 n0 _ T103.heap _; rw [e103]; exact ⟨rfl, N105⟩), ⟨_, rfl⟩, hW, hsame.mono (by decide) (by decide)⟩
  · skip
    refine own_of (T' := T1) (f' := (mkF m 102 #[.val (.int p0), .val (.int p1), .val (.int p2), .val (.int p3), .val (.int p4), .val (.int p5), .val (.int (p0 &&& (2047 : Int32))), .val (.int len), .val (.int fa), .val (.int sa), .val (.int ia), .val (.int fb), .val (.int sb), .val (.int ib), .val (.int j), .val (.int (0 : Int32)), .unset, .unset, .unset, .unset, .unset, .unset, .unset, .unset, .unset] [(.int p2), (.long ((p1.toInt64) <<< ((32 : Int32) &&& 0x3f).toInt64))])) (fun t_ k_ => (XS.ifYes X1.here hx rfl (pc0 := 86) (pc' := 93) rfl (Jvm.hb hby at_86) rfl ((if0 _ _).trans (flt hc86_3).2.1) (by decide) (by decide) (XS.iconst X1.here hx rfl (Jvm.hb hby at_93) (XS.istore X1.here hx rfl (Jvm.hb hby at_94) rfl (l' := #[.val (.int p0), .val (.int p1), .val (.int p2), .val (.int p3), .val (.int p4), .val (.int p5), .val (.int (p0 &&& (2047 : Int32))), .val (.int len), .val (.int fa), .val (.int sa), .val (.int ia), .val (.int fb), .val (.int sb), .val (.int ib), .val (.int j), .val (.int (0 : Int32)), .unset, .unset, .unset, .unset, .unset, .unset, .unset, .unset, .unset]) rfl (XS.iloadN X1.here hx rfl (Jvm.hb hby at_96) rfl (XS.i2l X1.here hx rfl (Jvm.hb hby at_97) rfl (XS.bipush X1.here hx rfl (Jvm.hb hby at_98) (XS.lshl X1.here hx rfl (Jvm.hb hby at_100) rfl (XS.iloadN X1.here hx rfl (Jvm.hb hby at_101) rfl k_))))))))) ?_
    refine own_of (T' := T1) (f' := (mkF m 104 #[.val (.int p0), .val (.int p1), .val (.int p2), .val (.int p3), .val (.int p4), .val (.int p5), .val (.int (p0 &&& (2047 : Int32))), .val (.int len), .val (.int fa), .val (.int sa), .val (.int ia), .val (.int fb), .val (.int sb), .val (.int ib), .val (.int j), .val (.int (0 : Int32)), .unset, .unset, .unset, .unset, .unset, .unset, .unset, .unset, .unset] [(.long (((p1.toInt64) <<< ((32 : Int32) &&& 0x3f).toInt64) ^^^ (p2.toInt64)))])) (fun t_ k_ => (XS.i2l X1.here hx rfl (Jvm.hb hby at_102) rfl (XS.lxor X1.here hx rfl (Jvm.hb hby at_103) rfl k_))) ?_
    obtain ⟨mark, hmark⟩ : ∃ z : Int64, (((p1.toInt64) <<< ((32 : Int32) &&& 0x3f).toInt64) ^^^ (p2.toInt64)) = z := ⟨_, rfl⟩
    rw [hmark]
    refine own_of (T' := T1) (f' := (mkF m 106 #[.val (.int p0), .val (.int p1), .val (.int p2), .val (.int p3), .val (.int p4), .val (.int p5), .val (.int (p0 &&& (2047 : Int32))), .val (.int len), .val (.int fa), .val (.int sa), .val (.int ia), .val (.int fb), .val (.int sb), .val (.int ib), .val (.int j), .val (.int (0 : Int32)), .val (.long mark), .second, .unset, .unset, .unset, .unset, .unset, .unset, .unset] [])) (fun t_ k_ => (XS.lstore X1.here hx rfl (Jvm.hb hby at_104) rfl (l' := #[.val (.int p0), .val (.int p1), .val (.int p2), .val (.int p3), .val (.int p4), .val (.int p5), .val (.int (p0 &&& (2047 : Int32))), .val (.int len), .val (.int fa), .val (.int sa), .val (.int ia), .val (.int fb), .val (.int sb), .val (.int ib), .val (.int j), .val (.int (0 : Int32)), .val (.long mark), .second, .unset, .unset, .unset, .unset, .unset, .unset, .unset]) rfl k_)) ?_
    obtain ⟨T106, h106, X106, e106, E106, A106, D106, -, st106⟩ := newO X1 hx hZ hown (hw _ (List.mem_of_getElem? (i := 5) rfl)) (hw _ (List.mem_of_getElem? (i := 6) rfl)) (hw _ (List.mem_of_getElem? (i := 7) rfl)) e1 (g := (mkF m 106 #[.val (.int p0), .val (.int p1), .val (.int p2), .val (.int p3), .val (.int p4), .val (.int p5), .val (.int (p0 &&& (2047 : Int32))), .val (.int len), .val (.int fa), .val (.int sa), .val (.int ia), .val (.int fb), .val (.int sb), .val (.int ib), .val (.int j), .val (.int (0 : Int32)), .val (.long mark), .second, .unset, .unset, .unset, .unset, .unset, .unset, .unset] [])) rfl (Jvm.hb hby at_106) (by decide) (by decide)
    obtain ⟨s1, g106⟩ : ∃ z, z = h0.size := ⟨_, rfl⟩
    rw [← g106] at A106 D106 st106
    have g_s1 : n0 ≤ s1 := Nat.le_trans Z0 (Nat.le_of_eq g106.symm)
    have f107 := Nat.le_trans Z0 E106.1
    have f108 := X00.ext E106
    have f109 : Fld Z h106 s1 "java/lang/String" "coder" "B" (.int (0 : Int32)) := D106 (Or.inr (hw _ (List.mem_of_getElem? (i := 32) rfl))) (ty := .byte) (by decide)
    have f110 : Fld Z h106 s1 "java/lang/String" "value" "[B" .null := D106 (Or.inr (hw _ (List.mem_of_getElem? (i := 34) rfl))) (ty := (.array .byte)) (by decide)
    refine own_of (T' := T106) (f' := (mkF m 111 #[.val (.int p0), .val (.int p1), .val (.int p2), .val (.int p3), .val (.int p4), .val (.int p5), .val (.int (p0 &&& (2047 : Int32))), .val (.int len), .val (.int fa), .val (.int sa), .val (.int ia), .val (.int fb), .val (.int sb), .val (.int ib), .val (.int j), .val (.int (0 : Int32)), .val (.long mark), .second, .unset, .unset, .unset, .unset, .unset, .unset, .unset] [(.int (1 : Int32)), (.ref s1), (.ref s1)])) (fun t_ k_ => (st106 _ (XS.dup X106.here hx rfl (Jvm.hb hby at_109) rfl rfl (XS.iconst X106.here hx rfl (Jvm.hb hby at_110) k_)))) ?_
    obtain ⟨T111, h111, k111, X111, e111, E111, A111, Ex111, st111⟩ := newPE X106 hx hZ (hw _ (List.mem_of_getElem? (i := 8) rfl)) e106 (g := (mkF m 111 #[.val (.int p0), .val (.int p1), .val (.int p2), .val (.int p3), .val (.int p4), .val (.int p5), .val (.int (p0 &&& (2047 : Int32))), .val (.int len), .val (.int fa), .val (.int sa), .val (.int ia), .val (.int fb), .val (.int sb), .val (.int ib), .val (.int j), .val (.int (0 : Int32)), .val (.long mark), .second, .unset, .unset, .unset, .unset, .unset, .unset, .unset] [(.int (1 : Int32)), (.ref s1), (.ref s1)])) rfl (Jvm.hb hby at_111) rfl (by decide) (cap := 1) (by decide) (by decide) (by decide) (by decide) (ad := "[C") (by decide)
    obtain ⟨c1, g111⟩ : ∃ z, z = h106.size := ⟨_, rfl⟩
    rw [← g111] at A111 Ex111 st111
    have ne_s1_c1 : s1 ≠ c1 := by rw [g111]; exact Nat.ne_of_lt A106.lt
    have g_c1 : n0 ≤ c1 := Nat.le_trans f107 (Nat.le_of_eq g111.symm)
    have f112 := Nat.le_trans f107 E111.1
    have f113 := f108.ext E111
    have f114 := A106.ext E111
    have f115 := f109.ext E111
    have f116 := f110.ext E111
    have f117 : Arv Z h111 c1 k111 .char (1 : Int32) [(.int (0 : Int32))] (.int (0 : Int32)) := (Arv.new A111 (by decide)).pad (pad_rep [] (.int (0 : Int32)) 1)
    refine own_of (T' := T111) (f' := (mkF m 117 #[.val (.int p0), .val (.int p1), .val (.int p2), .val (.int p3), .val (.int p4), .val (.int p5), .val (.int (p0 &&& (2047 : Int32))), .val (.int len), .val (.int fa), .val (.int sa), .val (.int ia), .val (.int fb), .val (.int sb), .val (.int ib), .val (.int j), .val (.int (0 : Int32)), .val (.long mark), .second, .unset, .unset, .unset, .unset, .unset, .unset, .unset] [(.int (97 : Int32)), (.int (0 : Int32)), (.ref c1), (.ref c1), (.ref s1), (.ref s1)])) (fun t_ k_ => (st111 _ (XS.dup X111.here hx rfl (Jvm.hb hby at_113) rfl rfl (XS.iconst X111.here hx rfl (Jvm.hb hby at_114) (XS.bipush X111.here hx rfl (Jvm.hb hby at_115) k_))))) ?_
    obtain ⟨cl118, Ar118, qq118, Sz118, Nn118, Hh118, Gg118⟩ := id f117
    have hin118 : ¬ ((0 : Int32) < 0 ∨ cl118.slots.size ≤ ((0 : Int32)).toNatClampNeg) := inb_of Sz118 ⟨by decide, by decide⟩
    obtain ⟨T119, h119, X119, e119, W119, st119⟩ := stC X111 hx hZ e111 Ar118 (j := (0 : Int32)) hin118 (g := (mkF m 117 #[.val (.int p0), .val (.int p1), .val (.int p2), .val (.int p3), .val (.int p4), .val (.int p5), .val (.int (p0 &&& (2047 : Int32))), .val (.int len), .val (.int fa), .val (.int sa), .val (.int ia), .val (.int fb), .val (.int sb), .val (.int ib), .val (.int j), .val (.int (0 : Int32)), .val (.long mark), .second, .unset, .unset, .unset, .unset, .unset, .unset, .unset] [(.int (97 : Int32)), (.int (0 : Int32)), (.ref c1), (.ref c1), (.ref s1), (.ref s1)])) rfl rfl (Jvm.hb hby at_117)
    refine own_of (T' := T119) (f' := (mkF m 118 #[.val (.int p0), .val (.int p1), .val (.int p2), .val (.int p3), .val (.int p4), .val (.int p5), .val (.int (p0 &&& (2047 : Int32))), .val (.int len), .val (.int fa), .val (.int sa), .val (.int ia), .val (.int fb), .val (.int sb), .val (.int ib), .val (.int j), .val (.int (0 : Int32)), .val (.long mark), .second, .unset, .unset, .unset, .unset, .unset, .unset, .unset] [(.ref c1), (.ref s1), (.ref s1)])) (fun t_ k_ => (st119 _ k_)) ?_
    have f120 := Arv.set Ar118 qq118 Sz118 Nn118 Hh118 Gg118 (fits_nar_char _) W119 0 rfl (Nat.le_of_ble_eq_true rfl)
    have N119 := Fr.snoc X119 N2 g_c1
    have f121 := Nat.le_trans f112 (Keep.of_wr W119).1
    have f122 := f113.wr W119 g_c1
    have f123 := f114.wr W119
    have f124 := f115.other W119 (Or.inl ne_s1_c1)
    have f125 := f116.other W119 (Or.inl ne_s1_c1)
    have f126 := Ex111.wr W119
    have hp_s1 : ∀ c ∈ ([(nar .char (97 : Int32))] : List Int32), ¬ c < 0 ∧ ¬ (255 : Int32) < c := by decide
    have hws128 : ∀ d ∈ StrChars.Road.words, d.before a0 Z = true := fun d hd => hw d (own_strw d hd)
    obtain ⟨_, _, ⟨T128, L128, k128, n128⟩, -, X128, ⟨Lc128, hQ128, l128, y128, z128⟩, st128⟩ := X119.specialBack hx (y := (⟨"java/lang/String", "<init>", "([C)V"⟩ : MethodName)) rfl hown (mvT hZ (hw _ (List.mem_of_getElem? (i := 9) rfl))) (mvT hZ (hw _ (List.mem_of_getElem? (i := 10) rfl))) (mvT hZ (hw _ (List.mem_of_getElem? (i := 11) rfl))) (by decide) (StrChars.Road.backV (W := 1) hZ hws128 (kI := 4) (hw _ (List.mem_of_getElem? (i := 6) rfl)) (cs := ([(nar .char (97 : Int32))] : List Int32)) (bs := (([(nar .char (97 : Int32))] : List Int32)).map (fun c => c.toInt8.toInt32)) (n := 1) g_s1 f121 f123 f125 f124 f120 (O2.ext f122.2) P5 rfl rfl (by decide) (by decide) hp_s1 rfl (by decide) (by decide)) (g := (mkF m 118 #[.val (.int p0), .val (.int p1), .val (.int p2), .val (.int p3), .val (.int p4), .val (.int p5), .val (.int (p0 &&& (2047 : Int32))), .val (.int len), .val (.int fa), .val (.int sa), .val (.int ia), .val (.int fb), .val (.int sb), .val (.int ib), .val (.int j), .val (.int (0 : Int32)), .val (.long mark), .second, .unset, .unset, .unset, .unset, .unset, .unset, .unset] [(.ref c1), (.ref s1), (.ref s1)])) rfl (by rw [hml]; rfl) (Steps.refl _) (a := s1) (argsL := [(.ref c1)]) (rest := [(.ref s1)]) (lenOf own_pd_1 rfl) rfl (by show 2 * 0 + _ ≤ _; exact Nat.le_of_eq rfl) (Jvm.hb hby at_118) (fun _ _ => ⟨rfl, e119, Nat.le_of_ble_eq_true rfl, Nat.le_of_ble_eq_true rfl⟩)
    dsimp only [Pt.U, Pt.locs, Pt.cells, Pt.slots] at X128 l128 y128 z128 st128 hQ128
    subst l128 y128 z128
    obtain ⟨rfl, N128, K128, Es128, Fc128, t128, kt128, -, -, -, Fv128, Vt128⟩ := hQ128
    have N129 := Fr.app N119 N128
    have f130 := Nat.le_trans f121 K128.1
    have f131 := f122.keep K128 (allS g_s1 all0)
    have f132 := f123.keep K128
    have f135 := f126.keep K128
    have f136 := f120.keep K128 (ninS (Ne.symm ne_s1_c1) nin0)
    refine own_of (T' := T128) (f' := (mkF m 132 #[.val (.int p0), .val (.int p1), .val (.int p2), .val (.int p3), .val (.int p4), .val (.int p5), .val (.int (p0 &&& (2047 : Int32))), .val (.int len), .val (.int fa), .val (.int sa), .val (.int ia), .val (.int fb), .val (.int sb), .val (.int ib), .val (.int j), .val (.int (0 : Int32)), .val (.long mark), .second, .val (.ref s1), .unset, .unset, .unset, .unset, .unset, .unset] [])) (fun t_ k_ => (st128.trans (XS.astore X128.here hx rfl (Jvm.hb hby at_121) rfl rfl (l' := #[.val (.int p0), .val (.int p1), .val (.int p2), .val (.int p3), .val (.int p4), .val (.int p5), .val (.int (p0 &&& (2047 : Int32))), .val (.int len), .val (.int fa), .val (.int sa), .val (.int ia), .val (.int fb), .val (.int sb), .val (.int ib), .val (.int j), .val (.int (0 : Int32)), .val (.long mark), .second, .val (.ref s1), .unset, .unset, .unset, .unset, .unset, .unset]) rfl (XS.iload X128.here hx rfl (Jvm.hb hby at_123) rfl (XS.ifYes X128.here hx rfl (pc0 := 125) (pc' := 132) rfl (Jvm.hb hby at_125) rfl ((if0 _ _).trans (teq rfl).1) (by decide) (by decide) k_))))) ?_
    obtain ⟨T137, h137, X137, e137, E137, A137, D137, -, st137⟩ := newO X128 hx hZ hown (hw _ (List.mem_of_getElem? (i := 5) rfl)) (hw _ (List.mem_of_getElem? (i := 6) rfl)) (hw _ (List.mem_of_getElem? (i := 7) rfl)) rfl (g := (mkF m 132 #[.val (.int p0), .val (.int p1), .val (.int p2), .val (.int p3), .val (.int p4), .val (.int p5), .val (.int (p0 &&& (2047 : Int32))), .val (.int len), .val (.int fa), .val (.int sa), .val (.int ia), .val (.int fb), .val (.int sb), .val (.int ib), .val (.int j), .val (.int (0 : Int32)), .val (.long mark), .second, .val (.ref s1), .unset, .unset, .unset, .unset, .unset, .unset] [])) rfl (Jvm.hb hby at_132) (by decide) (by decide)
    obtain ⟨s2, g137⟩ : ∃ z, z = T128.heap.size := ⟨_, rfl⟩
    rw [← g137] at A137 D137 st137
    have ne_s1_s2 : s1 ≠ s2 := by rw [g137]; exact Nat.ne_of_lt Es128.lt
    have g_s2 : n0 ≤ s2 := Nat.le_trans f130 (Nat.le_of_eq g137.symm)
    have f138 := Nat.le_trans f130 E137.1
    have f139 := f131.ext E137
    have f140 := Es128.ext E137
    have f141 : Fld Z h137 s2 "java/lang/String" "coder" "B" (.int (0 : Int32)) := D137 (Or.inr (hw _ (List.mem_of_getElem? (i := 32) rfl))) (ty := .byte) (by decide)
    have f142 : Fld Z h137 s2 "java/lang/String" "value" "[B" .null := D137 (Or.inr (hw _ (List.mem_of_getElem? (i := 34) rfl))) (ty := (.array .byte)) (by decide)
    refine own_of (T' := T137) (f' := (mkF m 137 #[.val (.int p0), .val (.int p1), .val (.int p2), .val (.int p3), .val (.int p4), .val (.int p5), .val (.int (p0 &&& (2047 : Int32))), .val (.int len), .val (.int fa), .val (.int sa), .val (.int ia), .val (.int fb), .val (.int sb), .val (.int ib), .val (.int j), .val (.int (0 : Int32)), .val (.long mark), .second, .val (.ref s1), .unset, .unset, .unset, .unset, .unset, .unset] [(.int (1 : Int32)), (.ref s2), (.ref s2)])) (fun t_ k_ => (st137 _ (XS.dup X137.here hx rfl (Jvm.hb hby at_135) rfl rfl (XS.iconst X137.here hx rfl (Jvm.hb hby at_136) k_)))) ?_
    obtain ⟨T143, h143, k143, X143, e143, E143, A143, Ex143, st143⟩ := newPE X137 hx hZ (hw _ (List.mem_of_getElem? (i := 8) rfl)) e137 (g := (mkF m 137 #[.val (.int p0), .val (.int p1), .val (.int p2), .val (.int p3), .val (.int p4), .val (.int p5), .val (.int (p0 &&& (2047 : Int32))), .val (.int len), .val (.int fa), .val (.int sa), .val (.int ia), .val (.int fb), .val (.int sb), .val (.int ib), .val (.int j), .val (.int (0 : Int32)), .val (.long mark), .second, .val (.ref s1), .unset, .unset, .unset, .unset, .unset, .unset] [(.int (1 : Int32)), (.ref s2), (.ref s2)])) rfl (Jvm.hb hby at_137) rfl (by decide) (cap := 1) (by decide) (by decide) (by decide) (by decide) (ad := "[C") (by decide)
    obtain ⟨c2, g143⟩ : ∃ z, z = h137.size := ⟨_, rfl⟩
    rw [← g143] at A143 Ex143 st143
    have ne_s1_c2 : s1 ≠ c2 := by rw [g143]; exact Nat.ne_of_lt f140.lt
    have ne_s2_c2 : s2 ≠ c2 := by rw [g143]; exact Nat.ne_of_lt A137.lt
    have g_c2 : n0 ≤ c2 := Nat.le_trans f138 (Nat.le_of_eq g143.symm)
    have f144 := Nat.le_trans f138 E143.1
    have f145 := f139.ext E143
    have f146 := f140.ext E143
    have f147 := A137.ext E143
    have f148 := f141.ext E143
    have f149 := f142.ext E143
    have f150 : Arv Z h143 c2 k143 .char (1 : Int32) [(.int (0 : Int32))] (.int (0 : Int32)) := (Arv.new A143 (by decide)).pad (pad_rep [] (.int (0 : Int32)) 1)
    refine own_of (T' := T143) (f' := (mkF m 143 #[.val (.int p0), .val (.int p1), .val (.int p2), .val (.int p3), .val (.int p4), .val (.int p5), .val (.int (p0 &&& (2047 : Int32))), .val (.int len), .val (.int fa), .val (.int sa), .val (.int ia), .val (.int fb), .val (.int sb), .val (.int ib), .val (.int j), .val (.int (0 : Int32)), .val (.long mark), .second, .val (.ref s1), .unset, .unset, .unset, .unset, .unset, .unset] [(.int (98 : Int32)), (.int (0 : Int32)), (.ref c2), (.ref c2), (.ref s2), (.ref s2)])) (fun t_ k_ => (st143 _ (XS.dup X143.here hx rfl (Jvm.hb hby at_139) rfl rfl (XS.iconst X143.here hx rfl (Jvm.hb hby at_140) (XS.bipush X143.here hx rfl (Jvm.hb hby at_141) k_))))) ?_
    obtain ⟨cl151, Ar151, qq151, Sz151, Nn151, Hh151, Gg151⟩ := id f150
    have hin151 : ¬ ((0 : Int32) < 0 ∨ cl151.slots.size ≤ ((0 : Int32)).toNatClampNeg) := inb_of Sz151 ⟨by decide, by decide⟩
    obtain ⟨T152, h152, X152, e152, W152, st152⟩ := stC X143 hx hZ e143 Ar151 (j := (0 : Int32)) hin151 (g := (mkF m 143 #[.val (.int p0), .val (.int p1), .val (.int p2), .val (.int p3), .val (.int p4), .val (.int p5), .val (.int (p0 &&& (2047 : Int32))), .val (.int len), .val (.int fa), .val (.int sa), .val (.int ia), .val (.int fb), .val (.int sb), .val (.int ib), .val (.int j), .val (.int (0 : Int32)), .val (.long mark), .second, .val (.ref s1), .unset, .unset, .unset, .unset, .unset, .unset] [(.int (98 : Int32)), (.int (0 : Int32)), (.ref c2), (.ref c2), (.ref s2), (.ref s2)])) rfl rfl (Jvm.hb hby at_143)
    refine own_of (T' := T152) (f' := (mkF m 144 #[.val (.int p0), .val (.int p1), .val (.int p2), .val (.int p3), .val (.int p4), .val (.int p5), .val (.int (p0 &&& (2047 : Int32))), .val (.int len), .val (.int fa), .val (.int sa), .val (.int ia), .val (.int fb), .val (.int sb), .val (.int ib), .val (.int j), .val (.int (0 : Int32)), .val (.long mark), .second, .val (.ref s1), .unset, .unset, .unset, .unset, .unset, .unset] [(.ref c2), (.ref s2), (.ref s2)])) (fun t_ k_ => (st152 _ k_)) ?_
    have f153 := Arv.set Ar151 qq151 Sz151 Nn151 Hh151 Gg151 (fits_nar_char _) W152 0 rfl (Nat.le_of_ble_eq_true rfl)
    have N152 := Fr.snoc X152 N129 g_c2
    have f154 := Nat.le_trans f144 (Keep.of_wr W152).1
    have f155 := f145.wr W152 g_c2
    have f156 := f146.wr W152
    have f157 := f147.wr W152
    have f158 := f148.other W152 (Or.inl ne_s2_c2)
    have f159 := f149.other W152 (Or.inl ne_s2_c2)
    have f160 := Ex143.wr W152
    have hp_s2 : ∀ c ∈ ([(nar .char (98 : Int32))] : List Int32), ¬ c < 0 ∧ ¬ (255 : Int32) < c := by decide
    have hws162 : ∀ d ∈ StrChars.Road.words, d.before a0 Z = true := fun d hd => hw d (own_strw d hd)
    obtain ⟨_, _, ⟨T162, L162, k162, n162⟩, -, X162, ⟨Lc162, hQ162, l162, y162, z162⟩, st162⟩ := X152.specialBack hx (y := (⟨"java/lang/String", "<init>", "([C)V"⟩ : MethodName)) rfl hown (mvT hZ (hw _ (List.mem_of_getElem? (i := 9) rfl))) (mvT hZ (hw _ (List.mem_of_getElem? (i := 10) rfl))) (mvT hZ (hw _ (List.mem_of_getElem? (i := 11) rfl))) (by decide) (StrChars.Road.backV (W := 1) hZ hws162 (kI := 4) (hw _ (List.mem_of_getElem? (i := 6) rfl)) (cs := ([(nar .char (98 : Int32))] : List Int32)) (bs := (([(nar .char (98 : Int32))] : List Int32)).map (fun c => c.toInt8.toInt32)) (n := 1) g_s2 f154 f157 f159 f158 f153 (O2.ext f155.2) P5 rfl rfl (by decide) (by decide) hp_s2 rfl (by decide) (by decide)) (g := (mkF m 144 #[.val (.int p0), .val (.int p1), .val (.int p2), .val (.int p3), .val (.int p4), .val (.int p5), .val (.int (p0 &&& (2047 : Int32))), .val (.int len), .val (.int fa), .val (.int sa), .val (.int ia), .val (.int fb), .val (.int sb), .val (.int ib), .val (.int j), .val (.int (0 : Int32)), .val (.long mark), .second, .val (.ref s1), .unset, .unset, .unset, .unset, .unset, .unset] [(.ref c2), (.ref s2), (.ref s2)])) rfl (by rw [hml]; rfl) (Steps.refl _) (a := s2) (argsL := [(.ref c2)]) (rest := [(.ref s2)]) (lenOf own_pd_1 rfl) rfl (by show 2 * 0 + _ ≤ _; exact Nat.le_of_eq rfl) (Jvm.hb hby at_144) (fun _ _ => ⟨rfl, e152, Nat.le_of_ble_eq_true rfl, Nat.le_of_ble_eq_true rfl⟩)
    dsimp only [Pt.U, Pt.locs, Pt.cells, Pt.slots] at X162 l162 y162 z162 st162 hQ162
    subst l162 y162 z162
    obtain ⟨rfl, N162, K162, Es162, Fc162, t162, kt162, -, -, -, Fv162, Vt162⟩ := hQ162
    have N163 := Fr.app N152 N162
    have f164 := Nat.le_trans f154 K162.1
    have f165 := f155.keep K162 (allS g_s2 all0)
    have f166 := f156.keep K162
    have f167 := f157.keep K162
    have f170 := f160.keep K162
    have f171 := f153.keep K162 (ninS (Ne.symm ne_s2_c2) nin0)
    refine own_of (T' := T162) (f' := (mkF m 149 #[.val (.int p0), .val (.int p1), .val (.int p2), .val (.int p3), .val (.int p4), .val (.int p5), .val (.int (p0 &&& (2047 : Int32))), .val (.int len), .val (.int fa), .val (.int sa), .val (.int ia), .val (.int fb), .val (.int sb), .val (.int ib), .val (.int j), .val (.int (0 : Int32)), .val (.long mark), .second, .val (.ref s1), .val (.ref s2), .unset, .unset, .unset, .unset, .unset] [])) (fun t_ k_ => (st162.trans (XS.astore X162.here hx rfl (Jvm.hb hby at_147) rfl rfl (l' := #[.val (.int p0), .val (.int p1), .val (.int p2), .val (.int p3), .val (.int p4), .val (.int p5), .val (.int (p0 &&& (2047 : Int32))), .val (.int len), .val (.int fa), .val (.int sa), .val (.int ia), .val (.int fb), .val (.int sb), .val (.int ib), .val (.int j), .val (.int (0 : Int32)), .val (.long mark), .second, .val (.ref s1), .val (.ref s2), .unset, .unset, .unset, .unset, .unset]) rfl k_))) ?_
    obtain ⟨T172, h172, X172, e172, E172, A172, D172, -, st172⟩ := newO X162 hx hZ hown (hw _ (List.mem_of_getElem? (i := 35) rfl)) (hw _ (List.mem_of_getElem? (i := 36) rfl)) (hw _ (List.mem_of_getElem? (i := 37) rfl)) rfl (g := (mkF m 149 #[.val (.int p0), .val (.int p1), .val (.int p2), .val (.int p3), .val (.int p4), .val (.int p5), .val (.int (p0 &&& (2047 : Int32))), .val (.int len), .val (.int fa), .val (.int sa), .val (.int ia), .val (.int fb), .val (.int sb), .val (.int ib), .val (.int j), .val (.int (0 : Int32)), .val (.long mark), .second, .val (.ref s1), .val (.ref s2), .unset, .unset, .unset, .unset, .unset] [])) rfl (Jvm.hb hby at_149) (by decide) (by decide)
    obtain ⟨o, g172⟩ : ∃ z, z = T162.heap.size := ⟨_, rfl⟩
    rw [← g172] at A172 D172 st172
    have ne_s1_o : s1 ≠ o := by rw [g172]; exact Nat.ne_of_lt f166.lt
    have ne_s2_o : s2 ≠ o := by rw [g172]; exact Nat.ne_of_lt Es162.lt
    have g_o : n0 ≤ o := Nat.le_trans f164 (Nat.le_of_eq g172.symm)
    have f173 := Nat.le_trans f164 E172.1
    have f174 := f165.ext E172
    have f175 := f166.ext E172
    have f176 := Es162.ext E172
    have f177 : Fld Z h172 o "com/example/kreide/kreide/interpreter/CallStack" "primitives" "[J" .null := D172 (Or.inl (hw _ (List.mem_of_getElem? (i := 45) rfl))) (ty := (.array .long)) (by decide)
    have f178 : Fld Z h172 o "com/example/kreide/kreide/interpreter/CallStack" "top" "I" (.int (0 : Int32)) := D172 (Or.inl (hw _ (List.mem_of_getElem? (i := 47) rfl))) (ty := .int) (by decide)
    have f179 : Fld Z h172 o "com/example/kreide/kreide/interpreter/CallStack" "references" "[Ljava/lang/Object;" .null := D172 (Or.inl (hw _ (List.mem_of_getElem? (i := 59) rfl))) (ty := (.array (.object "java/lang/Object"))) (by decide)
    refine own_of (T' := T172) (f' := (mkF m 155 #[.val (.int p0), .val (.int p1), .val (.int p2), .val (.int p3), .val (.int p4), .val (.int p5), .val (.int (p0 &&& (2047 : Int32))), .val (.int len), .val (.int fa), .val (.int sa), .val (.int ia), .val (.int fb), .val (.int sb), .val (.int ib), .val (.int j), .val (.int (0 : Int32)), .val (.long mark), .second, .val (.ref s1), .val (.ref s2), .unset, .unset, .unset, .unset, .unset] [(.int (p0 &&& (2047 : Int32))), (.ref o), (.ref o)])) (fun t_ k_ => (st172 _ (XS.dup X172.here hx rfl (Jvm.hb hby at_152) rfl rfl (XS.iload X172.here hx rfl (Jvm.hb hby at_153) rfl k_)))) ?_
    obtain ⟨_, _, ⟨T180, L180, k180, n180⟩, -, X180, ⟨Lc180, hQ180, l180, y180, z180⟩, st180⟩ := X172.specialBack hx (y := (⟨"com/example/kreide/kreide/interpreter/CallStack", "<init>", "(I)V"⟩ : MethodName)) rfl hown (mvT hZ (hw _ (List.mem_of_getElem? (i := 38) rfl))) (mvT hZ (hw _ (List.mem_of_getElem? (i := 39) rfl))) (mvT hZ (hw _ (List.mem_of_getElem? (i := 40) rfl))) (by decide) (backOf (W := 1) (own_rm_init l Z a0 hw [] o (p0 &&& (2047 : Int32)) h172 n0 f173 f177 f179 f178 A172 g_o (hlen ▸ hcap)) hZ (hw _ (List.mem_of_getElem? (i := 40) rfl)) (hw _ (List.mem_of_getElem? (i := 37) rfl)) (by decide) (by decide)) (g := (mkF m 155 #[.val (.int p0), .val (.int p1), .val (.int p2), .val (.int p3), .val (.int p4), .val (.int p5), .val (.int (p0 &&& (2047 : Int32))), .val (.int len), .val (.int fa), .val (.int sa), .val (.int ia), .val (.int fb), .val (.int sb), .val (.int ib), .val (.int j), .val (.int (0 : Int32)), .val (.long mark), .second, .val (.ref s1), .val (.ref s2), .unset, .unset, .unset, .unset, .unset] [(.int (p0 &&& (2047 : Int32))), (.ref o), (.ref o)])) rfl (by rw [hml]; rfl) (Steps.refl _) (a := o) (argsL := [(.int (p0 &&& (2047 : Int32)))]) (rest := [(.ref o)]) (lenOf own_pd_2 rfl) rfl (by show 2 * 0 + _ ≤ _; exact Nat.le_of_eq rfl) (Jvm.hb hby at_155) (fun _ _ => ⟨rfl, e172, Nat.le_of_ble_eq_true rfl, Nat.le_of_ble_eq_true rfl⟩)
    dsimp only [Pt.U, Pt.locs, Pt.cells, Pt.slots] at X180 l180 y180 z180 st180 hQ180
    subst l180 y180 z180
    obtain ⟨rfl, N180, K180, Eo180, pa, kp, szp, Fp180, Fr180, Ap180⟩ := hQ180
    rw [hlen] at Ap180
    have ne_o_pa : o ≠ pa := Nat.ne_of_lt (Nat.lt_of_lt_of_le A172.lt szp)
    have g_pa : n0 ≤ pa := Nat.le_trans f173 szp
    have N181 := Fr.app N163 N180
    have f182 := Nat.le_trans f173 K180.1
    have f183 := f174.keep K180 (allS g_o all0)
    have f184 := f175.keep K180
    have f185 := f176.keep K180
    have f186 := A172.keep K180
    refine own_of (T' := T180) (f' := (mkF m 167 #[.val (.int p0), .val (.int p1), .val (.int p2), .val (.int p3), .val (.int p4), .val (.int p5), .val (.int (p0 &&& (2047 : Int32))), .val (.int len), .val (.int fa), .val (.int sa), .val (.int ia), .val (.int fb), .val (.int sb), .val (.int ib), .val (.int j), .val (.int (0 : Int32)), .val (.long mark), .second, .val (.ref s1), .val (.ref s2), .val (.ref o), .unset, .unset, .unset, .unset] [(.long mark), (.int j), (.int (0 : Int32)), (.ref o)])) (fun t_ k_ => (st180.trans (XS.astore X180.here hx rfl (Jvm.hb hby at_158) rfl rfl (l' := #[.val (.int p0), .val (.int p1), .val (.int p2), .val (.int p3), .val (.int p4), .val (.int p5), .val (.int (p0 &&& (2047 : Int32))), .val (.int len), .val (.int fa), .val (.int sa), .val (.int ia), .val (.int fb), .val (.int sb), .val (.int ib), .val (.int j), .val (.int (0 : Int32)), .val (.long mark), .second, .val (.ref s1), .val (.ref s2), .val (.ref o), .unset, .unset, .unset, .unset]) rfl (XS.aload X180.here hx rfl (Jvm.hb hby at_160) rfl rfl (XS.iconst X180.here hx rfl (Jvm.hb hby at_162) (XS.iload X180.here hx rfl (Jvm.hb hby at_163) rfl (XS.lload X180.here hx rfl (Jvm.hb hby at_165) rfl k_))))))) ?_
    obtain ⟨cq191, kq191, q191a, q191b, q191c⟩ := isOf hZ rfl Eo180
    obtain ⟨_, _, ⟨T190, L190, k190, n190⟩, -, X190, ⟨Lc190, hQ190, l190, y190, z190⟩, st190⟩ := X180.virtualBack hx (y := (⟨"com/example/kreide/kreide/interpreter/CallStack", "setLongAt", "(IIJ)V"⟩ : MethodName)) (z := (⟨"com/example/kreide/kreide/interpreter/CallStack", "setLongAt", "(IIJ)V"⟩ : MethodName)) hown (mvT hZ (hw _ (List.mem_of_getElem? (i := 48) rfl))) (mvT hZ (hw _ (List.mem_of_getElem? (i := 49) rfl))) (notFace_of_selects (args := #[]) (mvT hZ (hw _ (List.mem_of_getElem? (i := 51) rfl)))) (mvT hZ (hw _ (List.mem_of_getElem? (i := 51) rfl))) (mvT hZ (hw _ (List.mem_of_getElem? (i := 50) rfl))) (by decide) (backOf (W := 0) (own_rm_setL l Z a0 hw [] o (0 : Int32) j mark pa kp len [] T180.heap n0 f182 Fp180 Ap180 inj g_pa) hZ (hw _ (List.mem_of_getElem? (i := 52) rfl)) (hw _ (List.mem_of_getElem? (i := 37) rfl)) (by decide) (by decide)) q191a q191c (g := (mkF m 167 #[.val (.int p0), .val (.int p1), .val (.int p2), .val (.int p3), .val (.int p4), .val (.int p5), .val (.int (p0 &&& (2047 : Int32))), .val (.int len), .val (.int fa), .val (.int sa), .val (.int ia), .val (.int fb), .val (.int sb), .val (.int ib), .val (.int j), .val (.int (0 : Int32)), .val (.long mark), .second, .val (.ref s1), .val (.ref s2), .val (.ref o), .unset, .unset, .unset, .unset] [(.long mark), (.int j), (.int (0 : Int32)), (.ref o)])) rfl (by rw [hml]; rfl) (Steps.refl _) (argsL := [(.int (0 : Int32)), (.int j), (.long mark)]) (rest := []) (lenOf own_pd_3 rfl) rfl (by show 2 * 0 + _ ≤ _; exact Nat.le_of_eq rfl) (Jvm.hb hby at_167) (fun _ _ => ⟨rfl, rfl, Nat.le_of_ble_eq_true rfl, Nat.le_of_ble_eq_true rfl⟩)
    dsimp only [Pt.U, Pt.locs, Pt.cells, Pt.slots] at X190 l190 y190 z190 st190 hQ190
    subst l190 y190 z190
    obtain ⟨rfl, N190, K190, Ap190⟩ := hQ190
    have N192 := Fr.app N181 N190
    have f193 := Nat.le_trans f182 K190.1
    have f194 := f183.keep K190 (allS g_pa all0)
    have f195 := f184.keep K190
    have f196 := f185.keep K190
    have f197 := Eo180.keep K190
    have f198 := Fp180.keep K190 (ninS ne_o_pa nin0)
    have f199 := Fr180.keep K190 (ninS ne_o_pa nin0)
    refine own_of (T' := T190) (f' := (mkF m 178 #[.val (.int p0), .val (.int p1), .val (.int p2), .val (.int p3), .val (.int p4), .val (.int p5), .val (.int (p0 &&& (2047 : Int32))), .val (.int len), .val (.int fa), .val (.int sa), .val (.int ia), .val (.int fb), .val (.int sb), .val (.int ib), .val (.int j), .val (.int (0 : Int32)), .val (.long mark), .second, .val (.ref s1), .val (.ref s2), .val (.ref o), .unset, .unset, .unset, .unset] [(.ref s1), (.int sa), (.int fa), (.ref o)])) (fun t_ k_ => (st190.trans (XS.aload X190.here hx rfl (Jvm.hb hby at_170) rfl rfl (XS.iload X190.here hx rfl (Jvm.hb hby at_172) rfl (XS.iload X190.here hx rfl (Jvm.hb hby at_174) rfl (XS.aload X190.here hx rfl (Jvm.hb hby at_176) rfl rfl k_)))))) ?_
    obtain ⟨cq202, kq202, q202a, q202b, q202c⟩ := isOf hZ rfl f197
    obtain ⟨_, _, ⟨T201, L201, k201, n201⟩, -, X201, ⟨Lc201, hQ201, l201, y201, z201⟩, st201⟩ := X190.virtualBack hx (y := (⟨"com/example/kreide/kreide/interpreter/CallStack", "setObjectAt", "(IILjava/lang/Object;)V"⟩ : MethodName)) (z := (⟨"com/example/kreide/kreide/interpreter/CallStack", "setObjectAt", "(IILjava/lang/Object;)V"⟩ : MethodName)) hown (mvT hZ (hw _ (List.mem_of_getElem? (i := 53) rfl))) (mvT hZ (hw _ (List.mem_of_getElem? (i := 54) rfl))) (notFace_of_selects (args := #[]) (mvT hZ (hw _ (List.mem_of_getElem? (i := 56) rfl)))) (mvT hZ (hw _ (List.mem_of_getElem? (i := 56) rfl))) (mvT hZ (hw _ (List.mem_of_getElem? (i := 55) rfl))) (by decide) (backOf (W := 0) (own_rm_setO1 l Z a0 hw [] o fa sa s1 pa kp len [((0 : Int32) + j, .long mark)] T190.heap n0 f193 f198 f199 f197 f195 Ap190 inia hcap g_o) hZ (hw _ (List.mem_of_getElem? (i := 57) rfl)) (hw _ (List.mem_of_getElem? (i := 37) rfl)) (by decide) (by decide)) q202a q202c (g := (mkF m 178 #[.val (.int p0), .val (.int p1), .val (.int p2), .val (.int p3), .val (.int p4), .val (.int p5), .val (.int (p0 &&& (2047 : Int32))), .val (.int len), .val (.int fa), .val (.int sa), .val (.int ia), .val (.int fb), .val (.int sb), .val (.int ib), .val (.int j), .val (.int (0 : Int32)), .val (.long mark), .second, .val (.ref s1), .val (.ref s2), .val (.ref o), .unset, .unset, .unset, .unset] [(.ref s1), (.int sa), (.int fa), (.ref o)])) rfl (by rw [hml]; rfl) (Steps.refl _) (argsL := [(.int fa), (.int sa), (.ref s1)]) (rest := []) (lenOf own_pd_4 rfl) rfl (by show 2 * 0 + _ ≤ _; exact Nat.le_of_eq rfl) (Jvm.hb hby at_178) (fun _ _ => ⟨rfl, rfl, Nat.le_of_ble_eq_true rfl, Nat.le_of_ble_eq_true rfl⟩)
    dsimp only [Pt.U, Pt.locs, Pt.cells, Pt.slots] at X201 l201 y201 z201 st201 hQ201
    subst l201 y201 z201
    obtain ⟨rfl, N201, K201, Eo201, Fp201, ra, kr, szr, Fr201, Ar201, Ovr_⟩ := hQ201
    have ne_o_ra : o ≠ ra := Nat.ne_of_lt (Nat.lt_of_lt_of_le f197.lt szr)
    have ne_pa_ra : pa ≠ ra := Nat.ne_of_lt (Nat.lt_of_lt_of_le Ap190.lt szr)
    have g_ra : n0 ≤ ra := Nat.le_trans f193 szr
    rw [hia] at Ar201
    have N203 := Fr.app N192 N201
    have f204 := Nat.le_trans f193 K201.1
    have f205 := f194.keep K201 (allS g_o all0)
    have f206 := f195.keep K201
    have f207 := f196.keep K201
    have f208 := f197.keep K201
    have f211 := Ap190.keep K201 (ninS (Ne.symm ne_o_pa) nin0)
    refine own_of (T' := T201) (f' := (mkF m 185 #[.val (.int p0), .val (.int p1), .val (.int p2), .val (.int p3), .val (.int p4), .val (.int p5), .val (.int (p0 &&& (2047 : Int32))), .val (.int len), .val (.int fa), .val (.int sa), .val (.int ia), .val (.int fb), .val (.int sb), .val (.int ib), .val (.int j), .val (.int (0 : Int32)), .val (.long mark), .second, .val (.ref s1), .val (.ref s2), .val (.ref o), .unset, .unset, .unset, .unset] [(.int ia), (.int j)])) (fun t_ k_ => (st201.trans (XS.iload X201.here hx rfl (Jvm.hb hby at_181) rfl (XS.iload X201.here hx rfl (Jvm.hb hby at_183) rfl k_)))) ?_
    obtain ⟨fst, hfst⟩ : ∃ z : Value, z = (if j = ia then (.ref s1) else .null) := ⟨_, rfl⟩
    have st213 : ∀ t_, Steps p.tables e below (T201.setTop (mkF m 194 #[.val (.int p0), .val (.int p1), .val (.int p2), .val (.int p3), .val (.int p4), .val (.int p5), .val (.int (p0 &&& (2047 : Int32))), .val (.int len), .val (.int fa), .val (.int sa), .val (.int ia), .val (.int fb), .val (.int sb), .val (.int ib), .val (.int j), .val (.int (0 : Int32)), .val (.long mark), .second, .val (.ref s1), .val (.ref s2), .val (.ref o), .unset, .unset, .unset, .unset] [fst])) t_ → Steps p.tables e below (T201.setTop (mkF m 185 #[.val (.int p0), .val (.int p1), .val (.int p2), .val (.int p3), .val (.int p4), .val (.int p5), .val (.int (p0 &&& (2047 : Int32))), .val (.int len), .val (.int fa), .val (.int sa), .val (.int ia), .val (.int fb), .val (.int sb), .val (.int ib), .val (.int j), .val (.int (0 : Int32)), .val (.long mark), .second, .val (.ref s1), .val (.ref s2), .val (.ref o), .unset, .unset, .unset, .unset] [(.int ia), (.int j)])) t_ := by
      intro t_ k_
      by_cases hc185_212 : (j = ia)
      · skip
        refine (XS.icmpNo X201.here hx rfl (Jvm.hb hby at_185) rfl (teq hc185_212).2 (XS.aload X201.here hx rfl (Jvm.hb hby at_188) rfl rfl (XS.goto X201.here hx rfl (pc0 := 190) (pc' := 194) rfl (Jvm.hb hby at_190) (by decide) (by decide) ?_)))
        show Steps p.tables e below (T201.setTop (mkF m 194 #[.val (.int p0), .val (.int p1), .val (.int p2), .val (.int p3), .val (.int p4), .val (.int p5), .val (.int (p0 &&& (2047 : Int32))), .val (.int len), .val (.int fa), .val (.int sa), .val (.int ia), .val (.int fb), .val (.int sb), .val (.int ib), .val (.int j), .val (.int (0 : Int32)), .val (.long mark), .second, .val (.ref s1), .val (.ref s2), .val (.ref o), .unset, .unset, .unset, .unset] [(.ref s1)])) t_
        rw [hfst, if_pos hc185_212] at k_
        exact k_
      · skip
        refine (XS.icmpYes X201.here hx rfl (pc0 := 185) (pc' := 193) rfl (Jvm.hb hby at_185) rfl (feq hc185_212).2 (by decide) (by decide) (XS.aconstNull X201.here hx rfl (Jvm.hb hby at_193) ?_))
        show Steps p.tables e below (T201.setTop (mkF m 194 #[.val (.int p0), .val (.int p1), .val (.int p2), .val (.int p3), .val (.int p4), .val (.int p5), .val (.int (p0 &&& (2047 : Int32))), .val (.int len), .val (.int fa), .val (.int sa), .val (.int ia), .val (.int fb), .val (.int sb), .val (.int ib), .val (.int j), .val (.int (0 : Int32)), .val (.long mark), .second, .val (.ref s1), .val (.ref s2), .val (.ref o), .unset, .unset, .unset, .unset] [.null])) t_
        rw [hfst, if_neg hc185_212] at k_
        exact k_
    have rfst : fst.isRef = true := by
      rw [hfst]
      repeat' split
      all_goals first | rfl
    refine own_of (T' := T201) (f' := (mkF m 194 #[.val (.int p0), .val (.int p1), .val (.int p2), .val (.int p3), .val (.int p4), .val (.int p5), .val (.int (p0 &&& (2047 : Int32))), .val (.int len), .val (.int fa), .val (.int sa), .val (.int ia), .val (.int fb), .val (.int sb), .val (.int ib), .val (.int j), .val (.int (0 : Int32)), .val (.long mark), .second, .val (.ref s1), .val (.ref s2), .val (.ref o), .unset, .unset, .unset, .unset] [fst])) st213 ?_
    refine own_of (T' := T201) (f' := (mkF m 201 #[.val (.int p0), .val (.int p1), .val (.int p2), .val (.int p3), .val (.int p4), .val (.int p5), .val (.int (p0 &&& (2047 : Int32))), .val (.int len), .val (.int fa), .val (.int sa), .val (.int ia), .val (.int fb), .val (.int sb), .val (.int ib), .val (.int j), .val (.int (0 : Int32)), .val (.long mark), .second, .val (.ref s1), .val (.ref s2), .val (.ref o), .val fst, .unset, .unset, .unset] [(.int ia), (.int (0 : Int32)), (.ref o)])) (fun t_ k_ => (own_astore X201.here hx rfl (Jvm.hb hby at_194) rfl rfst rfl One.u (l' := #[.val (.int p0), .val (.int p1), .val (.int p2), .val (.int p3), .val (.int p4), .val (.int p5), .val (.int (p0 &&& (2047 : Int32))), .val (.int len), .val (.int fa), .val (.int sa), .val (.int ia), .val (.int fb), .val (.int sb), .val (.int ib), .val (.int j), .val (.int (0 : Int32)), .val (.long mark), .second, .val (.ref s1), .val (.ref s2), .val (.ref o), .val fst, .unset, .unset, .unset]) rfl (XS.aload X201.here hx rfl (Jvm.hb hby at_196) rfl rfl (XS.iconst X201.here hx rfl (Jvm.hb hby at_198) (XS.iload X201.here hx rfl (Jvm.hb hby at_199) rfl k_))))) ?_
    have in0a := own_in0 len ia (by have := jnia.1; rw [Int32.lt_iff_toInt_lt] at this; exact Int.not_lt.mp this) (by have := jnia.2; rw [Int32.lt_iff_toInt_lt] at this; exact this)
    have gj1 : getH [(ia, .ref s1)] [] .null ((0 : Int32) + j).toNatClampNeg = fst := by
      rw [hfst]
      by_cases c : j = ia
      · rw [if_pos c]; exact getH_hit nj (ej.trans c)
      · rw [if_neg c]; exact getH_miss nj (fun q => c (ej.symm.trans q)) rfl
    obtain ⟨cq215, kq215, q215a, q215b, q215c⟩ := isOf hZ rfl Eo201
    obtain ⟨_, _, ⟨T214, L214, k214, n214⟩, -, X214, ⟨Lc214, hQ214, l214, y214, z214⟩, st214⟩ := X201.virtualBack hx (y := (⟨"com/example/kreide/kreide/interpreter/CallStack", "getObjectAt", "(II)Ljava/lang/Object;"⟩ : MethodName)) (z := (⟨"com/example/kreide/kreide/interpreter/CallStack", "getObjectAt", "(II)Ljava/lang/Object;"⟩ : MethodName)) hown (mvT hZ (hw _ (List.mem_of_getElem? (i := 63) rfl))) (mvT hZ (hw _ (List.mem_of_getElem? (i := 64) rfl))) (notFace_of_selects (args := #[]) (mvT hZ (hw _ (List.mem_of_getElem? (i := 66) rfl)))) (mvT hZ (hw _ (List.mem_of_getElem? (i := 66) rfl))) (mvT hZ (hw _ (List.mem_of_getElem? (i := 65) rfl))) (by decide) (backOf (W := 0) (own_rm_getO l Z a0 hw [] o (0 : Int32) ia ra kr len [(ia, .ref s1)] (.ref s1) T201.heap n0 f204 Fr201 Ar201 in0a (getH_hit in0a.1 eia) rfl) hZ (hw _ (List.mem_of_getElem? (i := 67) rfl)) (hw _ (List.mem_of_getElem? (i := 37) rfl)) (by decide) (by decide)) q215a q215c (g := (mkF m 201 #[.val (.int p0), .val (.int p1), .val (.int p2), .val (.int p3), .val (.int p4), .val (.int p5), .val (.int (p0 &&& (2047 : Int32))), .val (.int len), .val (.int fa), .val (.int sa), .val (.int ia), .val (.int fb), .val (.int sb), .val (.int ib), .val (.int j), .val (.int (0 : Int32)), .val (.long mark), .second, .val (.ref s1), .val (.ref s2), .val (.ref o), .val fst, .unset, .unset, .unset] [(.int ia), (.int (0 : Int32)), (.ref o)])) rfl (by rw [hml]; rfl) (Steps.refl _) (argsL := [(.int (0 : Int32)), (.int ia)]) (rest := []) (lenOf own_pd_5 rfl) rfl (by show 2 * 0 + _ ≤ _; exact Nat.le_of_eq rfl) (Jvm.hb hby at_201) (fun _ _ => ⟨rfl, rfl, Nat.le_of_ble_eq_true rfl, Nat.le_of_ble_eq_true rfl⟩)
    dsimp only [Pt.U, Pt.locs, Pt.cells, Pt.slots] at X214 l214 y214 z214 st214 hQ214
    subst l214 y214 z214
    obtain ⟨rfl, N214, e214⟩ := hQ214
    have N216 := Fr.app N203 N214
    refine own_of (T' := T214) (f' := (mkF m 214 #[.val (.int p0), .val (.int p1), .val (.int p2), .val (.int p3), .val (.int p4), .val (.int p5), .val (.int (p0 &&& (2047 : Int32))), .val (.int len), .val (.int fa), .val (.int sa), .val (.int ia), .val (.int fb), .val (.int sb), .val (.int ib), .val (.int j), .val (.int (0 : Int32)), .val (.long mark), .second, .val (.ref s1), .val (.ref s2), .val (.ref o), .val fst, .unset, .unset, .unset] [(.int j), (.int (0 : Int32)), (.ref o)])) (fun t_ k_ => (st214.trans (XS.aload X214.here hx rfl (Jvm.hb hby at_204) rfl rfl (Jvm.RoadKit.acmp (g := (mkF m 206 #[.val (.int p0), .val (.int p1), .val (.int p2), .val (.int p3), .val (.int p4), .val (.int p5), .val (.int (p0 &&& (2047 : Int32))), .val (.int len), .val (.int fa), .val (.int sa), .val (.int ia), .val (.int fb), .val (.int sb), .val (.int ib), .val (.int j), .val (.int (0 : Int32)), .val (.long mark), .second, .val (.ref s1), .val (.ref s2), .val (.ref o), .val fst, .unset, .unset, .unset] [(.ref s1), (.ref s1)])) X214 hx rfl rfl rfl (pc0 := 206) (pc' := 209) (same := true) rfl (Jvm.hb hby at_206) rfl (decide_eq_true rfl) (by decide) (by decide) (XS.aload X214.here hx rfl (Jvm.hb hby at_209) rfl rfl (XS.iconst X214.here hx rfl (Jvm.hb hby at_211) (XS.iload X214.here hx rfl (Jvm.hb hby at_212) rfl k_))))))) ?_
    obtain ⟨cq218, kq218, q218a, q218b, q218c⟩ := isOf hZ e214 Eo201
    obtain ⟨_, _, ⟨T217, L217, k217, n217⟩, -, X217, ⟨Lc217, hQ217, l217, y217, z217⟩, st217⟩ := X214.virtualBack hx (y := (⟨"com/example/kreide/kreide/interpreter/CallStack", "getObjectAt", "(II)Ljava/lang/Object;"⟩ : MethodName)) (z := (⟨"com/example/kreide/kreide/interpreter/CallStack", "getObjectAt", "(II)Ljava/lang/Object;"⟩ : MethodName)) hown (mvT hZ (hw _ (List.mem_of_getElem? (i := 63) rfl))) (mvT hZ (hw _ (List.mem_of_getElem? (i := 64) rfl))) (notFace_of_selects (args := #[]) (mvT hZ (hw _ (List.mem_of_getElem? (i := 66) rfl)))) (mvT hZ (hw _ (List.mem_of_getElem? (i := 66) rfl))) (mvT hZ (hw _ (List.mem_of_getElem? (i := 65) rfl))) (by decide) (backOf (W := 0) (own_rm_getO l Z a0 hw [] o (0 : Int32) j ra kr len [(ia, .ref s1)] fst T201.heap n0 f204 Fr201 Ar201 inj gj1 rfst) hZ (hw _ (List.mem_of_getElem? (i := 67) rfl)) (hw _ (List.mem_of_getElem? (i := 37) rfl)) (by decide) (by decide)) q218a q218c (g := (mkF m 214 #[.val (.int p0), .val (.int p1), .val (.int p2), .val (.int p3), .val (.int p4), .val (.int p5), .val (.int (p0 &&& (2047 : Int32))), .val (.int len), .val (.int fa), .val (.int sa), .val (.int ia), .val (.int fb), .val (.int sb), .val (.int ib), .val (.int j), .val (.int (0 : Int32)), .val (.long mark), .second, .val (.ref s1), .val (.ref s2), .val (.ref o), .val fst, .unset, .unset, .unset] [(.int j), (.int (0 : Int32)), (.ref o)])) rfl (by rw [hml]; rfl) (Steps.refl _) (argsL := [(.int (0 : Int32)), (.int j)]) (rest := []) (lenOf own_pd_5 rfl) rfl (by show 2 * 0 + _ ≤ _; exact Nat.le_of_eq rfl) (Jvm.hb hby at_214) (fun _ _ => ⟨rfl, e214, Nat.le_of_ble_eq_true rfl, Nat.le_of_ble_eq_true rfl⟩)
    dsimp only [Pt.U, Pt.locs, Pt.cells, Pt.slots] at X217 l217 y217 z217 st217 hQ217
    subst l217 y217 z217
    obtain ⟨rfl, N217, e217⟩ := hQ217
    have N219 := Fr.app N216 N217
    refine own_of (T' := T217) (f' := (mkF m 233 #[.val (.int p0), .val (.int p1), .val (.int p2), .val (.int p3), .val (.int p4), .val (.int p5), .val (.int (p0 &&& (2047 : Int32))), .val (.int len), .val (.int fa), .val (.int sa), .val (.int ia), .val (.int fb), .val (.int sb), .val (.int ib), .val (.int j), .val (.int (0 : Int32)), .val (.long mark), .second, .val (.ref s1), .val (.ref s2), .val (.ref o), .val fst, .val (.int (1 : Int32)), .unset, .unset] [(.int fb), (.ref o)])) (fun t_ k_ => (st217.trans (XS.aload X217.here hx rfl (Jvm.hb hby at_217) rfl rfst (Jvm.RoadKit.acmp (g := (mkF m 219 #[.val (.int p0), .val (.int p1), .val (.int p2), .val (.int p3), .val (.int p4), .val (.int p5), .val (.int (p0 &&& (2047 : Int32))), .val (.int len), .val (.int fa), .val (.int sa), .val (.int ia), .val (.int fb), .val (.int sb), .val (.int ib), .val (.int j), .val (.int (0 : Int32)), .val (.long mark), .second, .val (.ref s1), .val (.ref s2), .val (.ref o), .val fst, .unset, .unset, .unset] [fst, fst])) X217 hx rfl rfst rfst (pc0 := 219) (pc' := 222) (same := true) rfl (Jvm.hb hby at_219) rfl (decide_eq_true rfl) (by decide) (by decide) (XS.iconst X217.here hx rfl (Jvm.hb hby at_222) (XS.goto X217.here hx rfl (pc0 := 223) (pc' := 227) rfl (Jvm.hb hby at_223) (by decide) (by decide) (XS.istore X217.here hx rfl (Jvm.hb hby at_227) rfl (l' := #[.val (.int p0), .val (.int p1), .val (.int p2), .val (.int p3), .val (.int p4), .val (.int p5), .val (.int (p0 &&& (2047 : Int32))), .val (.int len), .val (.int fa), .val (.int sa), .val (.int ia), .val (.int fb), .val (.int sb), .val (.int ib), .val (.int j), .val (.int (0 : Int32)), .val (.long mark), .second, .val (.ref s1), .val (.ref s2), .val (.ref o), .val fst, .val (.int (1 : Int32)), .unset, .unset]) rfl (XS.aload X217.here hx rfl (Jvm.hb hby at_229) rfl rfl (XS.iload X217.here hx rfl (Jvm.hb hby at_231) rfl k_))))))))) ?_
    refine own_of (T' := T217) (f' := (mkF m 237 #[.val (.int p0), .val (.int p1), .val (.int p2), .val (.int p3), .val (.int p4), .val (.int p5), .val (.int (p0 &&& (2047 : Int32))), .val (.int len), .val (.int fa), .val (.int sa), .val (.int ia), .val (.int fb), .val (.int sb), .val (.int ib), .val (.int j), .val (.int (0 : Int32)), .val (.long mark), .second, .val (.ref s1), .val (.ref s2), .val (.ref o), .val fst, .val (.int (1 : Int32)), .unset, .unset] [(.ref s2), (.int sb), (.int fb), (.ref o)])) (fun t_ k_ => (XS.iload X217.here hx rfl (Jvm.hb hby at_233) rfl (XS.aload X217.here hx rfl (Jvm.hb hby at_235) rfl rfl k_))) ?_
    obtain ⟨cq221, kq221, q221a, q221b, q221c⟩ := isOf hZ e217 Eo201
    obtain ⟨_, _, ⟨T220, L220, k220, n220⟩, -, X220, ⟨Lc220, hQ220, l220, y220, z220⟩, st220⟩ := X217.virtualBack hx (y := (⟨"com/example/kreide/kreide/interpreter/CallStack", "setObjectAt", "(IILjava/lang/Object;)V"⟩ : MethodName)) (z := (⟨"com/example/kreide/kreide/interpreter/CallStack", "setObjectAt", "(IILjava/lang/Object;)V"⟩ : MethodName)) hown (mvT hZ (hw _ (List.mem_of_getElem? (i := 53) rfl))) (mvT hZ (hw _ (List.mem_of_getElem? (i := 54) rfl))) (notFace_of_selects (args := #[]) (mvT hZ (hw _ (List.mem_of_getElem? (i := 56) rfl)))) (mvT hZ (hw _ (List.mem_of_getElem? (i := 56) rfl))) (mvT hZ (hw _ (List.mem_of_getElem? (i := 55) rfl))) (by decide) (backOf (W := 0) (own_rm_setO2R l Z a0 hw [] o fb sb s2 ra kr len [(ia, .ref s1)] T201.heap n0 f204 Fr201 Ar201 Ovr_ inib f207 g_ra) hZ (hw _ (List.mem_of_getElem? (i := 57) rfl)) (hw _ (List.mem_of_getElem? (i := 37) rfl)) (by decide) (by decide)) q221a q221c (g := (mkF m 237 #[.val (.int p0), .val (.int p1), .val (.int p2), .val (.int p3), .val (.int p4), .val (.int p5), .val (.int (p0 &&& (2047 : Int32))), .val (.int len), .val (.int fa), .val (.int sa), .val (.int ia), .val (.int fb), .val (.int sb), .val (.int ib), .val (.int j), .val (.int (0 : Int32)), .val (.long mark), .second, .val (.ref s1), .val (.ref s2), .val (.ref o), .val fst, .val (.int (1 : Int32)), .unset, .unset] [(.ref s2), (.int sb), (.int fb), (.ref o)])) rfl (by rw [hml]; rfl) (Steps.refl _) (argsL := [(.int fb), (.int sb), (.ref s2)]) (rest := []) (lenOf own_pd_4 rfl) rfl (by show 2 * 0 + _ ≤ _; exact Nat.le_of_eq rfl) (Jvm.hb hby at_237) (fun _ _ => ⟨rfl, e217, Nat.le_of_ble_eq_true rfl, Nat.le_of_ble_eq_true rfl⟩)
    dsimp only [Pt.U, Pt.locs, Pt.cells, Pt.slots] at X220 l220 y220 z220 st220 hQ220
    subst l220 y220 z220
    obtain ⟨rfl, N220, K220, Ar220⟩ := hQ220
    rw [hib] at Ar220
    have N222 := Fr.app N219 N220
    have f223 := Nat.le_trans f204 K220.1
    have f224 := f205.keep K220 (allS g_ra all0)
    have f225 := f206.keep K220
    have f226 := f207.keep K220
    have f227 := Eo201.keep K220
    have f228 := f211.keep K220 (ninS ne_pa_ra nin0)
    have f229 := Fp201.keep K220 (ninS ne_o_ra nin0)
    have f230 := Fr201.keep K220 (ninS ne_o_ra nin0)
    refine own_of (T' := T220) (f' := (mkF m 244 #[.val (.int p0), .val (.int p1), .val (.int p2), .val (.int p3), .val (.int p4), .val (.int p5), .val (.int (p0 &&& (2047 : Int32))), .val (.int len), .val (.int fa), .val (.int sa), .val (.int ia), .val (.int fb), .val (.int sb), .val (.int ib), .val (.int j), .val (.int (0 : Int32)), .val (.long mark), .second, .val (.ref s1), .val (.ref s2), .val (.ref o), .val fst, .val (.int (1 : Int32)), .unset, .unset] [(.int ib), (.int ia)])) (fun t_ k_ => (st220.trans (XS.iload X220.here hx rfl (Jvm.hb hby at_240) rfl (XS.iload X220.here hx rfl (Jvm.hb hby at_242) rfl k_)))) ?_
    obtain ⟨e1, he1⟩ : ∃ z : Value, z = (if ia = ib then (.ref s2) else (.ref s1)) := ⟨_, rfl⟩
    have st233 : ∀ t_, Steps p.tables e below (T220.setTop (mkF m 254 #[.val (.int p0), .val (.int p1), .val (.int p2), .val (.int p3), .val (.int p4), .val (.int p5), .val (.int (p0 &&& (2047 : Int32))), .val (.int len), .val (.int fa), .val (.int sa), .val (.int ia), .val (.int fb), .val (.int sb), .val (.int ib), .val (.int j), .val (.int (0 : Int32)), .val (.long mark), .second, .val (.ref s1), .val (.ref s2), .val (.ref o), .val fst, .val (.int (1 : Int32)), .unset, .unset] [e1])) t_ → Steps p.tables e below (T220.setTop (mkF m 244 #[.val (.int p0), .val (.int p1), .val (.int p2), .val (.int p3), .val (.int p4), .val (.int p5), .val (.int (p0 &&& (2047 : Int32))), .val (.int len), .val (.int fa), .val (.int sa), .val (.int ia), .val (.int fb), .val (.int sb), .val (.int ib), .val (.int j), .val (.int (0 : Int32)), .val (.long mark), .second, .val (.ref s1), .val (.ref s2), .val (.ref o), .val fst, .val (.int (1 : Int32)), .unset, .unset] [(.int ib), (.int ia)])) t_ := by
      intro t_ k_
      by_cases hc244_232 : (ia = ib)
      · skip
        refine (XS.icmpNo X220.here hx rfl (Jvm.hb hby at_244) rfl (teq hc244_232).2 (XS.aload X220.here hx rfl (Jvm.hb hby at_247) rfl rfl (XS.goto X220.here hx rfl (pc0 := 249) (pc' := 254) rfl (Jvm.hb hby at_249) (by decide) (by decide) ?_)))
        show Steps p.tables e below (T220.setTop (mkF m 254 #[.val (.int p0), .val (.int p1), .val (.int p2), .val (.int p3), .val (.int p4), .val (.int p5), .val (.int (p0 &&& (2047 : Int32))), .val (.int len), .val (.int fa), .val (.int sa), .val (.int ia), .val (.int fb), .val (.int sb), .val (.int ib), .val (.int j), .val (.int (0 : Int32)), .val (.long mark), .second, .val (.ref s1), .val (.ref s2), .val (.ref o), .val fst, .val (.int (1 : Int32)), .unset, .unset] [(.ref s2)])) t_
        rw [he1, if_pos hc244_232] at k_
        exact k_
      · skip
        refine (XS.icmpYes X220.here hx rfl (pc0 := 244) (pc' := 252) rfl (Jvm.hb hby at_244) rfl (feq hc244_232).2 (by decide) (by decide) (XS.aload X220.here hx rfl (Jvm.hb hby at_252) rfl rfl ?_))
        show Steps p.tables e below (T220.setTop (mkF m 254 #[.val (.int p0), .val (.int p1), .val (.int p2), .val (.int p3), .val (.int p4), .val (.int p5), .val (.int (p0 &&& (2047 : Int32))), .val (.int len), .val (.int fa), .val (.int sa), .val (.int ia), .val (.int fb), .val (.int sb), .val (.int ib), .val (.int j), .val (.int (0 : Int32)), .val (.long mark), .second, .val (.ref s1), .val (.ref s2), .val (.ref o), .val fst, .val (.int (1 : Int32)), .unset, .unset] [(.ref s1)])) t_
        rw [he1, if_neg hc244_232] at k_
        exact k_
    have re1 : e1.isRef = true := by
      rw [he1]
      repeat' split
      all_goals first | rfl
    refine own_of (T' := T220) (f' := (mkF m 254 #[.val (.int p0), .val (.int p1), .val (.int p2), .val (.int p3), .val (.int p4), .val (.int p5), .val (.int (p0 &&& (2047 : Int32))), .val (.int len), .val (.int fa), .val (.int sa), .val (.int ia), .val (.int fb), .val (.int sb), .val (.int ib), .val (.int j), .val (.int (0 : Int32)), .val (.long mark), .second, .val (.ref s1), .val (.ref s2), .val (.ref o), .val fst, .val (.int (1 : Int32)), .unset, .unset] [e1])) st233 ?_
    refine own_of (T' := T220) (f' := (mkF m 260 #[.val (.int p0), .val (.int p1), .val (.int p2), .val (.int p3), .val (.int p4), .val (.int p5), .val (.int (p0 &&& (2047 : Int32))), .val (.int len), .val (.int fa), .val (.int sa), .val (.int ia), .val (.int fb), .val (.int sb), .val (.int ib), .val (.int j), .val (.int (0 : Int32)), .val (.long mark), .second, .val (.ref s1), .val (.ref s2), .val (.ref o), .val fst, .val (.int (1 : Int32)), .val e1, .unset] [(.int ib), (.int j)])) (fun t_ k_ => (own_astore X220.here hx rfl (Jvm.hb hby at_254) rfl re1 rfl One.u (l' := #[.val (.int p0), .val (.int p1), .val (.int p2), .val (.int p3), .val (.int p4), .val (.int p5), .val (.int (p0 &&& (2047 : Int32))), .val (.int len), .val (.int fa), .val (.int sa), .val (.int ia), .val (.int fb), .val (.int sb), .val (.int ib), .val (.int j), .val (.int (0 : Int32)), .val (.long mark), .second, .val (.ref s1), .val (.ref s2), .val (.ref o), .val fst, .val (.int (1 : Int32)), .val e1, .unset]) rfl (XS.iload X220.here hx rfl (Jvm.hb hby at_256) rfl (XS.iload X220.here hx rfl (Jvm.hb hby at_258) rfl k_)))) ?_
    obtain ⟨ejv, hejv⟩ : ∃ z : Value, z = (if j = ib then (.ref s2) else fst) := ⟨_, rfl⟩
    have st235 : ∀ t_, Steps p.tables e below (T220.setTop (mkF m 270 #[.val (.int p0), .val (.int p1), .val (.int p2), .val (.int p3), .val (.int p4), .val (.int p5), .val (.int (p0 &&& (2047 : Int32))), .val (.int len), .val (.int fa), .val (.int sa), .val (.int ia), .val (.int fb), .val (.int sb), .val (.int ib), .val (.int j), .val (.int (0 : Int32)), .val (.long mark), .second, .val (.ref s1), .val (.ref s2), .val (.ref o), .val fst, .val (.int (1 : Int32)), .val e1, .unset] [ejv])) t_ → Steps p.tables e below (T220.setTop (mkF m 260 #[.val (.int p0), .val (.int p1), .val (.int p2), .val (.int p3), .val (.int p4), .val (.int p5), .val (.int (p0 &&& (2047 : Int32))), .val (.int len), .val (.int fa), .val (.int sa), .val (.int ia), .val (.int fb), .val (.int sb), .val (.int ib), .val (.int j), .val (.int (0 : Int32)), .val (.long mark), .second, .val (.ref s1), .val (.ref s2), .val (.ref o), .val fst, .val (.int (1 : Int32)), .val e1, .unset] [(.int ib), (.int j)])) t_ := by
      intro t_ k_
      by_cases hc260_234 : (j = ib)
      · skip
        refine (XS.icmpNo X220.here hx rfl (Jvm.hb hby at_260) rfl (teq hc260_234).2 (XS.aload X220.here hx rfl (Jvm.hb hby at_263) rfl rfl (XS.goto X220.here hx rfl (pc0 := 265) (pc' := 270) rfl (Jvm.hb hby at_265) (by decide) (by decide) ?_)))
        show Steps p.tables e below (T220.setTop (mkF m 270 #[.val (.int p0), .val (.int p1), .val (.int p2), .val (.int p3), .val (.int p4), .val (.int p5), .val (.int (p0 &&& (2047 : Int32))), .val (.int len), .val (.int fa), .val (.int sa), .val (.int ia), .val (.int fb), .val (.int sb), .val (.int ib), .val (.int j), .val (.int (0 : Int32)), .val (.long mark), .second, .val (.ref s1), .val (.ref s2), .val (.ref o), .val fst, .val (.int (1 : Int32)), .val e1, .unset] [(.ref s2)])) t_
        rw [hejv, if_pos hc260_234] at k_
        exact k_
      · skip
        refine (XS.icmpYes X220.here hx rfl (pc0 := 260) (pc' := 268) rfl (Jvm.hb hby at_260) rfl (feq hc260_234).2 (by decide) (by decide) (XS.aload X220.here hx rfl (Jvm.hb hby at_268) rfl rfst ?_))
        show Steps p.tables e below (T220.setTop (mkF m 270 #[.val (.int p0), .val (.int p1), .val (.int p2), .val (.int p3), .val (.int p4), .val (.int p5), .val (.int (p0 &&& (2047 : Int32))), .val (.int len), .val (.int fa), .val (.int sa), .val (.int ia), .val (.int fb), .val (.int sb), .val (.int ib), .val (.int j), .val (.int (0 : Int32)), .val (.long mark), .second, .val (.ref s1), .val (.ref s2), .val (.ref o), .val fst, .val (.int (1 : Int32)), .val e1, .unset] [fst])) t_
        rw [hejv, if_neg hc260_234] at k_
        exact k_
    have rejv : ejv.isRef = true := by
      rw [hejv]
      repeat' split
      all_goals first | rfl | exact rfst
    refine own_of (T' := T220) (f' := (mkF m 270 #[.val (.int p0), .val (.int p1), .val (.int p2), .val (.int p3), .val (.int p4), .val (.int p5), .val (.int (p0 &&& (2047 : Int32))), .val (.int len), .val (.int fa), .val (.int sa), .val (.int ia), .val (.int fb), .val (.int sb), .val (.int ib), .val (.int j), .val (.int (0 : Int32)), .val (.long mark), .second, .val (.ref s1), .val (.ref s2), .val (.ref o), .val fst, .val (.int (1 : Int32)), .val e1, .unset] [ejv])) st235 ?_
    refine own_of (T' := T220) (f' := (mkF m 283 #[.val (.int p0), .val (.int p1), .val (.int p2), .val (.int p3), .val (.int p4), .val (.int p5), .val (.int (p0 &&& (2047 : Int32))), .val (.int len), .val (.int fa), .val (.int sa), .val (.int ia), .val (.int fb), .val (.int sb), .val (.int ib), .val (.int j), .val (.int (0 : Int32)), .val (.long mark), .second, .val (.ref s1), .val (.ref s2), .val (.ref o), .val fst, .val (.int (1 : Int32)), .val e1, .val ejv] [(.int sb), (.int fb), (.ref o)])) (fun t_ k_ => (own_astore X220.here hx rfl (Jvm.hb hby at_270) rfl rejv rfl One.u (l' := #[.val (.int p0), .val (.int p1), .val (.int p2), .val (.int p3), .val (.int p4), .val (.int p5), .val (.int (p0 &&& (2047 : Int32))), .val (.int len), .val (.int fa), .val (.int sa), .val (.int ia), .val (.int fb), .val (.int sb), .val (.int ib), .val (.int j), .val (.int (0 : Int32)), .val (.long mark), .second, .val (.ref s1), .val (.ref s2), .val (.ref o), .val fst, .val (.int (1 : Int32)), .val e1, .val ejv]) rfl (XS.iload X220.here hx rfl (Jvm.hb hby at_272) rfl (XS.ifNo X220.here hx rfl (Jvm.hb hby at_274) rfl ((if0 _ _).trans (feq (by decide : ¬ (1 : Int32) = 0)).1) (XS.aload X220.here hx rfl (Jvm.hb hby at_277) rfl rfl (XS.iload X220.here hx rfl (Jvm.hb hby at_279) rfl (XS.iload X220.here hx rfl (Jvm.hb hby at_281) rfl k_))))))) ?_
    have g1 : getH [(ib, .ref s2), (ia, .ref s1)] [] .null (fb + sb).toNatClampNeg = .ref s2 := getH_hit inib.1 hib
    obtain ⟨cq237, kq237, q237a, q237b, q237c⟩ := isOf hZ rfl f227
    obtain ⟨_, _, ⟨T236, L236, k236, n236⟩, -, X236, ⟨Lc236, hQ236, l236, y236, z236⟩, st236⟩ := X220.virtualBack hx (y := (⟨"com/example/kreide/kreide/interpreter/CallStack", "getObjectAt", "(II)Ljava/lang/Object;"⟩ : MethodName)) (z := (⟨"com/example/kreide/kreide/interpreter/CallStack", "getObjectAt", "(II)Ljava/lang/Object;"⟩ : MethodName)) hown (mvT hZ (hw _ (List.mem_of_getElem? (i := 63) rfl))) (mvT hZ (hw _ (List.mem_of_getElem? (i := 64) rfl))) (notFace_of_selects (args := #[]) (mvT hZ (hw _ (List.mem_of_getElem? (i := 66) rfl)))) (mvT hZ (hw _ (List.mem_of_getElem? (i := 66) rfl))) (mvT hZ (hw _ (List.mem_of_getElem? (i := 65) rfl))) (by decide) (backOf (W := 0) (own_rm_getO l Z a0 hw [] o fb sb ra kr len [(ib, .ref s2), (ia, .ref s1)] (.ref s2) T220.heap n0 f223 f230 Ar220 inib g1 rfl) hZ (hw _ (List.mem_of_getElem? (i := 67) rfl)) (hw _ (List.mem_of_getElem? (i := 37) rfl)) (by decide) (by decide)) q237a q237c (g := (mkF m 283 #[.val (.int p0), .val (.int p1), .val (.int p2), .val (.int p3), .val (.int p4), .val (.int p5), .val (.int (p0 &&& (2047 : Int32))), .val (.int len), .val (.int fa), .val (.int sa), .val (.int ia), .val (.int fb), .val (.int sb), .val (.int ib), .val (.int j), .val (.int (0 : Int32)), .val (.long mark), .second, .val (.ref s1), .val (.ref s2), .val (.ref o), .val fst, .val (.int (1 : Int32)), .val e1, .val ejv] [(.int sb), (.int fb), (.ref o)])) rfl (by rw [hml]; rfl) (Steps.refl _) (argsL := [(.int fb), (.int sb)]) (rest := []) (lenOf own_pd_5 rfl) rfl (by show 2 * 0 + _ ≤ _; exact Nat.le_of_eq rfl) (Jvm.hb hby at_283) (fun _ _ => ⟨rfl, rfl, Nat.le_of_ble_eq_true rfl, Nat.le_of_ble_eq_true rfl⟩)
    dsimp only [Pt.U, Pt.locs, Pt.cells, Pt.slots] at X236 l236 y236 z236 st236 hQ236
    subst l236 y236 z236
    obtain ⟨rfl, N236, e236⟩ := hQ236
    have N238 := Fr.app N222 N236
    refine own_of (T' := T236) (f' := (mkF m 303 #[.val (.int p0), .val (.int p1), .val (.int p2), .val (.int p3), .val (.int p4), .val (.int p5), .val (.int (p0 &&& (2047 : Int32))), .val (.int len), .val (.int fa), .val (.int sa), .val (.int ia), .val (.int fb), .val (.int sb), .val (.int ib), .val (.int j), .val (.int (0 : Int32)), .val (.long mark), .second, .val (.ref s1), .val (.ref s2), .val (.ref o), .val fst, .val (.int (1 : Int32)), .val e1, .val ejv] [])) (fun t_ k_ => (st236.trans (XS.aload X236.here hx rfl (Jvm.hb hby at_286) rfl rfl (Jvm.RoadKit.acmp (g := (mkF m 288 #[.val (.int p0), .val (.int p1), .val (.int p2), .val (.int p3), .val (.int p4), .val (.int p5), .val (.int (p0 &&& (2047 : Int32))), .val (.int len), .val (.int fa), .val (.int sa), .val (.int ia), .val (.int fb), .val (.int sb), .val (.int ib), .val (.int j), .val (.int (0 : Int32)), .val (.long mark), .second, .val (.ref s1), .val (.ref s2), .val (.ref o), .val fst, .val (.int (1 : Int32)), .val e1, .val ejv] [(.ref s2), (.ref s2)])) X236 hx rfl rfl rfl (pc0 := 288) (pc' := 291) (same := true) rfl (Jvm.hb hby at_288) rfl (decide_eq_true rfl) (by decide) (by decide) (XS.iconst X236.here hx rfl (Jvm.hb hby at_291) (XS.goto X236.here hx rfl (pc0 := 292) (pc' := 296) rfl (Jvm.hb hby at_292) (by decide) (by decide) (XS.istore X236.here hx rfl (Jvm.hb hby at_296) rfl (l' := #[.val (.int p0), .val (.int p1), .val (.int p2), .val (.int p3), .val (.int p4), .val (.int p5), .val (.int (p0 &&& (2047 : Int32))), .val (.int len), .val (.int fa), .val (.int sa), .val (.int ia), .val (.int fb), .val (.int sb), .val (.int ib), .val (.int j), .val (.int (0 : Int32)), .val (.long mark), .second, .val (.ref s1), .val (.ref s2), .val (.ref o), .val fst, .val (.int (1 : Int32)), .val e1, .val ejv]) rfl (XS.iload X236.here hx rfl (Jvm.hb hby at_298) rfl (XS.ifNo X236.here hx rfl (Jvm.hb hby at_300) rfl ((if0 _ _).trans (feq (by decide : ¬ (1 : Int32) = 0)).1) k_))))))))) ?_
    refine own_of (T' := T236) (f' := (mkF m 309 #[.val (.int p0), .val (.int p1), .val (.int p2), .val (.int p3), .val (.int p4), .val (.int p5), .val (.int (p0 &&& (2047 : Int32))), .val (.int len), .val (.int fa), .val (.int sa), .val (.int ia), .val (.int fb), .val (.int sb), .val (.int ib), .val (.int j), .val (.int (0 : Int32)), .val (.long mark), .second, .val (.ref s1), .val (.ref s2), .val (.ref o), .val fst, .val (.int (1 : Int32)), .val e1, .val ejv] [(.int sa), (.int fa), (.ref o)])) (fun t_ k_ => (XS.aload X236.here hx rfl (Jvm.hb hby at_303) rfl rfl (XS.iload X236.here hx rfl (Jvm.hb hby at_305) rfl (XS.iload X236.here hx rfl (Jvm.hb hby at_307) rfl k_)))) ?_
    have g2 : getH [(ib, .ref s2), (ia, .ref s1)] [] .null (fa + sa).toNatClampNeg = e1 := by
      rw [he1]
      by_cases c : ia = ib
      · rw [if_pos c]; exact getH_hit inia.1 (hia.trans c)
      · rw [if_neg c]; exact getH_miss inia.1 (fun q => c (hia.symm.trans q)) (getH_hit inia.1 hia)
    obtain ⟨cq240, kq240, q240a, q240b, q240c⟩ := isOf hZ e236 f227
    obtain ⟨_, _, ⟨T239, L239, k239, n239⟩, -, X239, ⟨Lc239, hQ239, l239, y239, z239⟩, st239⟩ := X236.virtualBack hx (y := (⟨"com/example/kreide/kreide/interpreter/CallStack", "getObjectAt", "(II)Ljava/lang/Object;"⟩ : MethodName)) (z := (⟨"com/example/kreide/kreide/interpreter/CallStack", "getObjectAt", "(II)Ljava/lang/Object;"⟩ : MethodName)) hown (mvT hZ (hw _ (List.mem_of_getElem? (i := 63) rfl))) (mvT hZ (hw _ (List.mem_of_getElem? (i := 64) rfl))) (notFace_of_selects (args := #[]) (mvT hZ (hw _ (List.mem_of_getElem? (i := 66) rfl)))) (mvT hZ (hw _ (List.mem_of_getElem? (i := 66) rfl))) (mvT hZ (hw _ (List.mem_of_getElem? (i := 65) rfl))) (by decide) (backOf (W := 0) (own_rm_getO l Z a0 hw [] o fa sa ra kr len [(ib, .ref s2), (ia, .ref s1)] e1 T220.heap n0 f223 f230 Ar220 inia g2 re1) hZ (hw _ (List.mem_of_getElem? (i := 67) rfl)) (hw _ (List.mem_of_getElem? (i := 37) rfl)) (by decide) (by decide)) q240a q240c (g := (mkF m 309 #[.val (.int p0), .val (.int p1), .val (.int p2), .val (.int p3), .val (.int p4), .val (.int p5), .val (.int (p0 &&& (2047 : Int32))), .val (.int len), .val (.int fa), .val (.int sa), .val (.int ia), .val (.int fb), .val (.int sb), .val (.int ib), .val (.int j), .val (.int (0 : Int32)), .val (.long mark), .second, .val (.ref s1), .val (.ref s2), .val (.ref o), .val fst, .val (.int (1 : Int32)), .val e1, .val ejv] [(.int sa), (.int fa), (.ref o)])) rfl (by rw [hml]; rfl) (Steps.refl _) (argsL := [(.int fa), (.int sa)]) (rest := []) (lenOf own_pd_5 rfl) rfl (by show 2 * 0 + _ ≤ _; exact Nat.le_of_eq rfl) (Jvm.hb hby at_309) (fun _ _ => ⟨rfl, e236, Nat.le_of_ble_eq_true rfl, Nat.le_of_ble_eq_true rfl⟩)
    dsimp only [Pt.U, Pt.locs, Pt.cells, Pt.slots] at X239 l239 y239 z239 st239 hQ239
    subst l239 y239 z239
    obtain ⟨rfl, N239, e239⟩ := hQ239
    have N241 := Fr.app N238 N239
    refine own_of (T' := T239) (f' := (mkF m 329 #[.val (.int p0), .val (.int p1), .val (.int p2), .val (.int p3), .val (.int p4), .val (.int p5), .val (.int (p0 &&& (2047 : Int32))), .val (.int len), .val (.int fa), .val (.int sa), .val (.int ia), .val (.int fb), .val (.int sb), .val (.int ib), .val (.int j), .val (.int (0 : Int32)), .val (.long mark), .second, .val (.ref s1), .val (.ref s2), .val (.ref o), .val fst, .val (.int (1 : Int32)), .val e1, .val ejv] [])) (fun t_ k_ => (st239.trans (XS.aload X239.here hx rfl (Jvm.hb hby at_312) rfl re1 (Jvm.RoadKit.acmp (g := (mkF m 314 #[.val (.int p0), .val (.int p1), .val (.int p2), .val (.int p3), .val (.int p4), .val (.int p5), .val (.int (p0 &&& (2047 : Int32))), .val (.int len), .val (.int fa), .val (.int sa), .val (.int ia), .val (.int fb), .val (.int sb), .val (.int ib), .val (.int j), .val (.int (0 : Int32)), .val (.long mark), .second, .val (.ref s1), .val (.ref s2), .val (.ref o), .val fst, .val (.int (1 : Int32)), .val e1, .val ejv] [e1, e1])) X239 hx rfl re1 re1 (pc0 := 314) (pc' := 317) (same := true) rfl (Jvm.hb hby at_314) rfl (decide_eq_true rfl) (by decide) (by decide) (XS.iconst X239.here hx rfl (Jvm.hb hby at_317) (XS.goto X239.here hx rfl (pc0 := 318) (pc' := 322) rfl (Jvm.hb hby at_318) (by decide) (by decide) (XS.istore X239.here hx rfl (Jvm.hb hby at_322) rfl (l' := #[.val (.int p0), .val (.int p1), .val (.int p2), .val (.int p3), .val (.int p4), .val (.int p5), .val (.int (p0 &&& (2047 : Int32))), .val (.int len), .val (.int fa), .val (.int sa), .val (.int ia), .val (.int fb), .val (.int sb), .val (.int ib), .val (.int j), .val (.int (0 : Int32)), .val (.long mark), .second, .val (.ref s1), .val (.ref s2), .val (.ref o), .val fst, .val (.int (1 : Int32)), .val e1, .val ejv]) rfl (XS.iload X239.here hx rfl (Jvm.hb hby at_324) rfl (XS.ifNo X239.here hx rfl (Jvm.hb hby at_326) rfl ((if0 _ _).trans (feq (by decide : ¬ (1 : Int32) = 0)).1) k_))))))))) ?_
    refine own_of (T' := T239) (f' := (mkF m 334 #[.val (.int p0), .val (.int p1), .val (.int p2), .val (.int p3), .val (.int p4), .val (.int p5), .val (.int (p0 &&& (2047 : Int32))), .val (.int len), .val (.int fa), .val (.int sa), .val (.int ia), .val (.int fb), .val (.int sb), .val (.int ib), .val (.int j), .val (.int (0 : Int32)), .val (.long mark), .second, .val (.ref s1), .val (.ref s2), .val (.ref o), .val fst, .val (.int (1 : Int32)), .val e1, .val ejv] [(.int j), (.int (0 : Int32)), (.ref o)])) (fun t_ k_ => (XS.aload X239.here hx rfl (Jvm.hb hby at_329) rfl rfl (XS.iconst X239.here hx rfl (Jvm.hb hby at_331) (XS.iload X239.here hx rfl (Jvm.hb hby at_332) rfl k_)))) ?_
    have g3 : getH [(ib, .ref s2), (ia, .ref s1)] [] .null ((0 : Int32) + j).toNatClampNeg = ejv := by
      rw [hejv]
      by_cases c : j = ib
      · rw [if_pos c]; exact getH_hit nj (ej.trans c)
      · rw [if_neg c]; exact getH_miss nj (fun q => c (ej.symm.trans q)) gj1
    obtain ⟨cq243, kq243, q243a, q243b, q243c⟩ := isOf hZ e239 f227
    obtain ⟨_, _, ⟨T242, L242, k242, n242⟩, -, X242, ⟨Lc242, hQ242, l242, y242, z242⟩, st242⟩ := X239.virtualBack hx (y := (⟨"com/example/kreide/kreide/interpreter/CallStack", "getObjectAt", "(II)Ljava/lang/Object;"⟩ : MethodName)) (z := (⟨"com/example/kreide/kreide/interpreter/CallStack", "getObjectAt", "(II)Ljava/lang/Object;"⟩ : MethodName)) hown (mvT hZ (hw _ (List.mem_of_getElem? (i := 63) rfl))) (mvT hZ (hw _ (List.mem_of_getElem? (i := 64) rfl))) (notFace_of_selects (args := #[]) (mvT hZ (hw _ (List.mem_of_getElem? (i := 66) rfl)))) (mvT hZ (hw _ (List.mem_of_getElem? (i := 66) rfl))) (mvT hZ (hw _ (List.mem_of_getElem? (i := 65) rfl))) (by decide) (backOf (W := 0) (own_rm_getO l Z a0 hw [] o (0 : Int32) j ra kr len [(ib, .ref s2), (ia, .ref s1)] ejv T220.heap n0 f223 f230 Ar220 inj g3 rejv) hZ (hw _ (List.mem_of_getElem? (i := 67) rfl)) (hw _ (List.mem_of_getElem? (i := 37) rfl)) (by decide) (by decide)) q243a q243c (g := (mkF m 334 #[.val (.int p0), .val (.int p1), .val (.int p2), .val (.int p3), .val (.int p4), .val (.int p5), .val (.int (p0 &&& (2047 : Int32))), .val (.int len), .val (.int fa), .val (.int sa), .val (.int ia), .val (.int fb), .val (.int sb), .val (.int ib), .val (.int j), .val (.int (0 : Int32)), .val (.long mark), .second, .val (.ref s1), .val (.ref s2), .val (.ref o), .val fst, .val (.int (1 : Int32)), .val e1, .val ejv] [(.int j), (.int (0 : Int32)), (.ref o)])) rfl (by rw [hml]; rfl) (Steps.refl _) (argsL := [(.int (0 : Int32)), (.int j)]) (rest := []) (lenOf own_pd_5 rfl) rfl (by show 2 * 0 + _ ≤ _; exact Nat.le_of_eq rfl) (Jvm.hb hby at_334) (fun _ _ => ⟨rfl, e239, Nat.le_of_ble_eq_true rfl, Nat.le_of_ble_eq_true rfl⟩)
    dsimp only [Pt.U, Pt.locs, Pt.cells, Pt.slots] at X242 l242 y242 z242 st242 hQ242
    subst l242 y242 z242
    obtain ⟨rfl, N242, e242⟩ := hQ242
    have N244 := Fr.app N241 N242
    refine own_of (T' := T242) (f' := (mkF m 354 #[.val (.int p0), .val (.int p1), .val (.int p2), .val (.int p3), .val (.int p4), .val (.int p5), .val (.int (p0 &&& (2047 : Int32))), .val (.int len), .val (.int fa), .val (.int sa), .val (.int ia), .val (.int fb), .val (.int sb), .val (.int ib), .val (.int j), .val (.int (0 : Int32)), .val (.long mark), .second, .val (.ref s1), .val (.ref s2), .val (.ref o), .val fst, .val (.int (1 : Int32)), .val e1, .val ejv] [])) (fun t_ k_ => (st242.trans (XS.aload X242.here hx rfl (Jvm.hb hby at_337) rfl rejv (Jvm.RoadKit.acmp (g := (mkF m 339 #[.val (.int p0), .val (.int p1), .val (.int p2), .val (.int p3), .val (.int p4), .val (.int p5), .val (.int (p0 &&& (2047 : Int32))), .val (.int len), .val (.int fa), .val (.int sa), .val (.int ia), .val (.int fb), .val (.int sb), .val (.int ib), .val (.int j), .val (.int (0 : Int32)), .val (.long mark), .second, .val (.ref s1), .val (.ref s2), .val (.ref o), .val fst, .val (.int (1 : Int32)), .val e1, .val ejv] [ejv, ejv])) X242 hx rfl rejv rejv (pc0 := 339) (pc' := 342) (same := true) rfl (Jvm.hb hby at_339) rfl (decide_eq_true rfl) (by decide) (by decide) (XS.iconst X242.here hx rfl (Jvm.hb hby at_342) (XS.goto X242.here hx rfl (pc0 := 343) (pc' := 347) rfl (Jvm.hb hby at_343) (by decide) (by decide) (XS.istore X242.here hx rfl (Jvm.hb hby at_347) rfl (l' := #[.val (.int p0), .val (.int p1), .val (.int p2), .val (.int p3), .val (.int p4), .val (.int p5), .val (.int (p0 &&& (2047 : Int32))), .val (.int len), .val (.int fa), .val (.int sa), .val (.int ia), .val (.int fb), .val (.int sb), .val (.int ib), .val (.int j), .val (.int (0 : Int32)), .val (.long mark), .second, .val (.ref s1), .val (.ref s2), .val (.ref o), .val fst, .val (.int (1 : Int32)), .val e1, .val ejv]) rfl (XS.iload X242.here hx rfl (Jvm.hb hby at_349) rfl (XS.ifNo X242.here hx rfl (Jvm.hb hby at_351) rfl ((if0 _ _).trans (feq (by decide : ¬ (1 : Int32) = 0)).1) k_))))))))) ?_
    refine own_of (T' := T242) (f' := (mkF m 359 #[.val (.int p0), .val (.int p1), .val (.int p2), .val (.int p3), .val (.int p4), .val (.int p5), .val (.int (p0 &&& (2047 : Int32))), .val (.int len), .val (.int fa), .val (.int sa), .val (.int ia), .val (.int fb), .val (.int sb), .val (.int ib), .val (.int j), .val (.int (0 : Int32)), .val (.long mark), .second, .val (.ref s1), .val (.ref s2), .val (.ref o), .val fst, .val (.int (1 : Int32)), .val e1, .val ejv] [(.int j), (.int (0 : Int32)), (.ref o)])) (fun t_ k_ => (XS.aload X242.here hx rfl (Jvm.hb hby at_354) rfl rfl (XS.iconst X242.here hx rfl (Jvm.hb hby at_356) (XS.iload X242.here hx rfl (Jvm.hb hby at_357) rfl k_)))) ?_
    obtain ⟨cq246, kq246, q246a, q246b, q246c⟩ := isOf hZ e242 f227
    obtain ⟨_, _, ⟨T245, L245, k245, n245⟩, -, X245, ⟨Lc245, hQ245, l245, y245, z245⟩, st245⟩ := X242.virtualBack hx (y := (⟨"com/example/kreide/kreide/interpreter/CallStack", "getLongAt", "(II)J"⟩ : MethodName)) (z := (⟨"com/example/kreide/kreide/interpreter/CallStack", "getLongAt", "(II)J"⟩ : MethodName)) hown (mvT hZ (hw _ (List.mem_of_getElem? (i := 68) rfl))) (mvT hZ (hw _ (List.mem_of_getElem? (i := 69) rfl))) (notFace_of_selects (args := #[]) (mvT hZ (hw _ (List.mem_of_getElem? (i := 71) rfl)))) (mvT hZ (hw _ (List.mem_of_getElem? (i := 71) rfl))) (mvT hZ (hw _ (List.mem_of_getElem? (i := 70) rfl))) (by decide) (backOf (W := 0) (own_rm_getL l Z a0 hw [] o (0 : Int32) j pa kp len [((0 : Int32) + j, .long mark)] mark T220.heap n0 f223 f229 f228 inj (getH_hit nj rfl)) hZ (hw _ (List.mem_of_getElem? (i := 72) rfl)) (hw _ (List.mem_of_getElem? (i := 37) rfl)) (by decide) (by decide)) q246a q246c (g := (mkF m 359 #[.val (.int p0), .val (.int p1), .val (.int p2), .val (.int p3), .val (.int p4), .val (.int p5), .val (.int (p0 &&& (2047 : Int32))), .val (.int len), .val (.int fa), .val (.int sa), .val (.int ia), .val (.int fb), .val (.int sb), .val (.int ib), .val (.int j), .val (.int (0 : Int32)), .val (.long mark), .second, .val (.ref s1), .val (.ref s2), .val (.ref o), .val fst, .val (.int (1 : Int32)), .val e1, .val ejv] [(.int j), (.int (0 : Int32)), (.ref o)])) rfl (by rw [hml]; rfl) (Steps.refl _) (argsL := [(.int (0 : Int32)), (.int j)]) (rest := []) (lenOf own_pd_6 rfl) rfl (by show 2 * 0 + _ ≤ _; exact Nat.le_of_eq rfl) (Jvm.hb hby at_359) (fun _ _ => ⟨rfl, e242, Nat.le_of_ble_eq_true rfl, Nat.le_of_ble_eq_true rfl⟩)
    dsimp only [Pt.U, Pt.locs, Pt.cells, Pt.slots] at X245 l245 y245 z245 st245 hQ245
    subst l245 y245 z245
    obtain ⟨rfl, N245, e245⟩ := hQ245
    have N247 := Fr.app N244 N245
    refine own_of (T' := T245) (f' := (mkF m 377 #[.val (.int p0), .val (.int p1), .val (.int p2), .val (.int p3), .val (.int p4), .val (.int p5), .val (.int (p0 &&& (2047 : Int32))), .val (.int len), .val (.int fa), .val (.int sa), .val (.int ia), .val (.int fb), .val (.int sb), .val (.int ib), .val (.int j), .val (.int (0 : Int32)), .val (.long mark), .second, .val (.ref s1), .val (.ref s2), .val (.ref o), .val fst, .val (.int (1 : Int32)), .val e1, .val ejv] [(.int (1 : Int32))])) (fun t_ k_ => (st245.trans (XS.lload X245.here hx rfl (Jvm.hb hby at_362) rfl (XS.lcmp X245.here hx rfl (Jvm.hb hby at_364) rfl (XS.ifNo X245.here hx rfl (Jvm.hb hby at_365) rfl ((if0 _ _).trans (teq ((lw_eq mark mark).mpr rfl)).2) (XS.iconst X245.here hx rfl (Jvm.hb hby at_368) (XS.goto X245.here hx rfl (pc0 := 369) (pc' := 373) rfl (Jvm.hb hby at_369) (by decide) (by decide) (XS.istore X245.here hx rfl (Jvm.hb hby at_373) rfl (l' := #[.val (.int p0), .val (.int p1), .val (.int p2), .val (.int p3), .val (.int p4), .val (.int p5), .val (.int (p0 &&& (2047 : Int32))), .val (.int len), .val (.int fa), .val (.int sa), .val (.int ia), .val (.int fb), .val (.int sb), .val (.int ib), .val (.int j), .val (.int (0 : Int32)), .val (.long mark), .second, .val (.ref s1), .val (.ref s2), .val (.ref o), .val fst, .val (.int (1 : Int32)), .val e1, .val ejv]) rfl (XS.iload X245.here hx rfl (Jvm.hb hby at_375) rfl k_))))))))) ?_
    obtain ⟨fs, hr, hrun, hended, hW, hsame⟩ := X245.leave (v := some (.int (1 : Int32))) (fun h => by rw [Bd.returns] at h; cases h)
    exact ⟨_, _, retN X245 hx (t := .boolean) Bd.returns (by simp) (Jvm.hb hby at_377) hr, hrun, hended, _, _, rfl, (by show own_Q_0 Z p0 p1 p2 p3 p4 p5 G1 h0 n0 _ T245.heap _; rw [e245]; exact ⟨rfl, N247⟩), ⟨_, rfl⟩, hW, hsame.mono (by decide) (by decide)⟩
set_option maxRecDepth 65536 in
set_option maxHeartbeats 40000000 in
theorem own_comes_1 {Post : Tables → Env → Array Value → State → Outcome → State → Prop} (hpost : ∀ tb e args s v u, (limb_1_1.after args s (.returned v) u = true ∧ limb_1_2.after args s (.returned v) u = true ∧ True) → FrameEnd s (.returned v) u (Jvm.fieldLocs frame_1_writes args s ++ Jvm.arrayLocs frame_1_arrays args s ++ Jvm.staticLocs frame_1_statics s) 32 8320 → Post tb e args s (.returned v) u) :
    ArmFor flags0 classFile x code maxLocals ret World_1 tables_1 room_1 Calls_1 rest_1 Pre_1 Post := by
  intro l hfl _ _ p e ha hc hk s m args below hf hA hF happ hP
  obtain ⟨hcalls, hrest, hpre⟩ := hP
  obtain ⟨-, -, -, hnamed, -, -, -, hat⟩ := (Spec.applies_iff hf).mp happ
  obtain ⟨hg, hn⟩ := and_e (Cond.before_iff.mp (show (Jvm.Cond.and given_1 narrow_1).before args s = true from hpre))
  obtain ⟨hg0, hg⟩ := and_e hg
  obtain ⟨ga0, hg⟩ := and_e hg
  obtain ⟨ga1, hg⟩ := and_e hg
  obtain ⟨ga2, hg⟩ := and_e hg
  obtain ⟨ga3, hg⟩ := and_e hg
  obtain ⟨ga4, hg⟩ := and_e hg
  have ga5 := hg
  obtain ⟨w0, w1, w2, w3, w4, w5, rfl⟩ : ∃ w0 w1 w2 w3 w4 w5 : Value, args = #[w0, w1, w2, w3, w4, w5] := by
    have hs : args.size = 6 := by simpa [Cond.value, given_1] using hg0
    obtain ⟨L⟩ := args
    match L, hs with
    | [w0, w1, w2, w3, w4, w5], _ => exact ⟨w0, w1, w2, w3, w4, w5, rfl⟩
  have hw := fun d (hd : d ∈ tables_1) => atoms_spec (ws := Jvm.Cond.code x code maxLocals ret :: tables_1) hat d (List.mem_cons_of_mem _ hd)
  have hfit : Fit s := fun {y c} hc i hi => by
    obtain ⟨ha, rfl⟩ := Array.getElem?_eq_some_iff.mp hc
    have q := List.all_eq_true.mp ((Array.all_eq_true_iff_forall_mem.mp hF) _ (Array.getElem_mem ha)) i (List.mem_range.mpr hi)
    simpa [Array.getElem?_eq_getElem hi] using q
  obtain ⟨hsets, hown0⟩ := atoms_of _ (rest_1_c_eq ▸ (show rest_1_c.before _ s = true from hrest))
  have hr0 := Cond.before_iff.mp hown0
  obtain ⟨i0, ei0⟩ := is_v ga0
  obtain rfl : w0 = (.int i0) := Option.some.inj ei0
  obtain ⟨i1, ei1⟩ := is_v ga1
  obtain rfl : w1 = (.int i1) := Option.some.inj ei1
  obtain ⟨i2, ei2⟩ := is_v ga2
  obtain rfl : w2 = (.int i2) := Option.some.inj ei2
  obtain ⟨i3, ei3⟩ := is_v ga3
  obtain rfl : w3 = (.int i3) := Option.some.inj ei3
  obtain ⟨i4, ei4⟩ := is_v ga4
  obtain rfl : w4 = (.int i4) := Option.some.inj ei4
  obtain ⟨i5, ei5⟩ := is_v ga5
  obtain rfl : w5 = (.int i5) := Option.some.inj ei5
  obtain ⟨G1, e6⟩ := is_v (Cond.before_iff.mp (hsets _ (List.mem_of_getElem? (i := 1) rfl)))
  have O2 : Sta s s.heap "java/lang/String" "COMPACT_STRINGS" "Z" (.int G1) := Sta.start e6 (Or.inl (hsets _ (List.mem_of_getElem? (i := 0) rfl)))
  have P5 : ¬ (G1 = (0 : Int32)) := gotF (Cond.eq_ints e6 (Term.int_eval 0)) (not_v (Cond.before_iff.mp (hsets _ (List.mem_of_getElem? (i := 2) rfl))))
  obtain ⟨n, o, h1, h2, h3, _, L, rfl, ⟨rfl, N⟩, hq⟩ := own_rm_0 l s _ hw tables_1 i0 i1 i2 i3 i4 i5 G1 s.heap s.heap.size (Nat.le_refl _) O2 P5 (Old.start s) p e ha hc hk s m _ below hf ((Spec.applies_iff_loose hf).mp happ).1 ⟨rfl, State.Warmed39.refl s, rfl⟩ trivial
  refine ⟨n, _, h1, h2, h3, hpost _ _ _ _ _ _ ⟨Cond.after_iff.mpr rfl, Cond.after_iff.mpr (eq_i res_at (Term.int_eval (1)) rfl), trivial⟩ ⟨hq.1, hq.2.1, (hq.2.2.sift fun y hy => Or.inr (N y hy)).mono (by decide) (by decide)⟩⟩
theorem main_1_1 : Claimed_1_1 := own_comes_1 fun _ _ _ _ _ _ h hF => ⟨h.1, hF⟩
theorem main_1_2 : Claimed_1_2 := own_comes_1 fun _ _ _ _ _ _ h hF => ⟨h.2.1, hF⟩
end Jvm.Pilot.@@N@@
namespace Jvm.Pilot.@@N@@
open Jvm Jvm.ClassFile Sem Op Lib Jvm.Free Jvm.Stand Jvm.Pilot.@@N@@.Jvm.D
/-! MADE BY PROGRAM (witnessworld.py) out of the Statement's table words and the real class files: 24 classes; the members and pool entries that the words name. The judged class is class 1, her method 1. -/
namespace start1
open Jvm.ClassFile
def u (s : String) : CpInfo := .utf8 (stringToUtf16 s)
/-- a pool by its gaps: so many unusable entries, then the entry; so many at the end -/
def gap : Nat → List CpInfo → List CpInfo
  | 0, r => r
  | n + 1, r => .unusable :: gap n r
def poolList (es : List (Nat × CpInfo)) (last : Nat) : List CpInfo := es.foldr (fun e r => gap e.1 (e.2 :: r)) (gap last [])
def pool (es : List (Nat × CpInfo)) (last : Nat) : Array CpInfo := ⟨poolList es last⟩
def fileOf (pool : Array CpInfo) (this : Nat) (attrs : Array Attribute := #[]) (ms : Array MethodInfo := #[]) (fl : Nat := 33) (sup : Nat := 0) (ifs : Array Nat := #[]) (fds : Array FieldInfo := #[]) : ClassFile where
  minorVersion := 0
  majorVersion := 65
  constantPool := pool
  accessFlags := fl
  thisClass := this
  superClass := sup
  interfaces := ifs
  fields := fds
  methods := ms
  attributes := attrs
def plain (name : String) (sup : Option ClassId) : Class where
  name := name
  kind := .ordinary
  loader := none
  accessFlags := 33
  super := sup
  interfaces := #[]
  cf := none
  fields := #[]
  methods := #[]
  instanceTypes := #[]
  staticTypes := #[]
  resolved := #[]
  callSites := []
  init := .initialized
  statics := none
  mirror := none

def pool0 : Array CpInfo := pool [(5, u "<init>"), (0, u "()V"), (1, .class_ 10), (1, u "java/lang/Object")] 113

def k0c0 : Code := { maxStack := 0, maxLocals := 1, code := object_method_1_code, exceptionTable := #[], attributes := #[] }
def k0m0 : Method := { name := "<init>", desc := "()V", sig := { parameters := [], returnType := none }, accessFlags := 1, code := some k0c0 }
/-- java/lang/Object -/
def k0 : Class := { plain "java/lang/Object" none with
  accessFlags := 33
  interfaces := #[]
  cf := some (fileOf pool0 8 #[] #[{ accessFlags := 1, nameIndex := 5, descriptorIndex := 6, attributes := #[] }] 33 0 #[] #[])
  fields := #[]
  methods := #[k0m0]
  instanceTypes := #[]
  staticTypes := #[]
  resolved := Array.replicate 124 none
  statics := none }

def pool1 : Array CpInfo := pool [(2, .class_ 4), (1, u "java/lang/Object"), (0, u "<init>"), (0, u "()V"), (0, .methodref 8 9), (0, .class_ 10), (0, .nameAndType 11 12), (0, u "java/lang/Math"), (0, u "max"), (0, u "(II)I"), (0, .integer 2147483647), (0, .class_ 15), (0, u "java/lang/String"), (0, .methodref 14 17), (0, .nameAndType 5 18), (0, u "([C)V"), (0, .class_ 20), (0, u "com/example/kreide/kreide/interpreter/CallStack"), (0, .methodref 19 22), (0, .nameAndType 5 23), (0, u "(I)V"), (0, .methodref 19 25), (0, .nameAndType 26 27), (0, u "setLongAt"), (0, u "(IIJ)V"), (0, .methodref 19 29), (0, .nameAndType 30 31), (0, u "setObjectAt"), (0, u "(IILjava/lang/Object;)V"), (0, .methodref 19 33), (0, .nameAndType 34 35), (0, u "getObjectAt"), (0, u "(II)Ljava/lang/Object;"), (0, .methodref 19 37), (0, .nameAndType 38 39), (0, u "getLongAt"), (0, u "(II)J"), (0, .class_ 41), (0, u "com/example/kreide/kreide/interpreter/CallStackSetObjectAtPinLaw"), (2, u "law"), (0, u "(IIIIII)Z")] 3

def k1m0 : Method := { name := "<init>", desc := "()V", sig := { parameters := [], returnType := none }, accessFlags := 1, code := none }
def k1c1 : Code := { maxStack := 6, maxLocals := 25, code := code, exceptionTable := #[], attributes := #[] }
def k1m1 : Method := { name := "law", desc := "(IIIIII)Z", sig := { parameters := [.int, .int, .int, .int, .int, .int], returnType := some .boolean }, accessFlags := 9, code := some k1c1 }
/-- com/example/kreide/kreide/interpreter/CallStackSetObjectAtPinLaw -/
def k1 : Class := { plain "com/example/kreide/kreide/interpreter/CallStackSetObjectAtPinLaw" (some 0) with
  accessFlags := 49
  interfaces := #[]
  cf := some (fileOf pool1 40 #[] #[{ accessFlags := 1, nameIndex := 5, descriptorIndex := 6, attributes := #[] }, { accessFlags := 9, nameIndex := 44, descriptorIndex := 45, attributes := #[] }] 49 2 #[] #[])
  fields := #[]
  methods := #[k1m0, k1m1]
  instanceTypes := #[]
  staticTypes := #[]
  resolved := Array.replicate 49 none
  statics := none }

def pool2 : Array CpInfo := pool [(1, .class_ 2), (0, u "java/lang/Math"), (1, .class_ 6), (1, u "java/lang/Object"), (0, u "<init>"), (0, u "()V"), (89, .class_ 100), (1, u "java/lang/Math$RandomNumberGeneratorHolder"), (71, u "negativeZeroFloatBits"), (0, u "J"), (2, u "negativeZeroDoubleBits"), (21, u "max"), (46, u "$assertionsDisabled"), (0, u "Z"), (88, u "(II)I"), (2, u "twoToTheDoubleScaleDown"), (0, u "D"), (4, u "twoToTheDoubleScaleUp"), (9, u "E"), (3, u "PI"), (2, u "TAU"), (2, u "DEGREES_TO_RADIANS"), (0, u "RADIANS_TO_DEGREES")] 94

def k2m0 : Method := { name := "<init>", desc := "()V", sig := { parameters := [], returnType := none }, accessFlags := 2, code := none }
def k2c1 : Code := { maxStack := 2, maxLocals := 2, code := jdk_29_method_65_code, exceptionTable := #[], attributes := #[] }
def k2m1 : Method := { name := "max", desc := "(II)I", sig := { parameters := [.int, .int], returnType := some .int }, accessFlags := 9, code := some k2c1 }
/-- java/lang/Math -/
def k2 : Class := { plain "java/lang/Math" (some 0) with
  accessFlags := 49
  interfaces := #[]
  cf := some (fileOf pool2 1 #[.nestMembers #[98]] #[{ accessFlags := 2, nameIndex := 7, descriptorIndex := 8, attributes := #[] }, { accessFlags := 9, nameIndex := 198, descriptorIndex := 335, attributes := #[] }] 49 4 #[] #[{ accessFlags := 25, nameIndex := 354, descriptorIndex := 339, attributes := #[] }, { accessFlags := 25, nameIndex := 358, descriptorIndex := 339, attributes := #[] }, { accessFlags := 25, nameIndex := 361, descriptorIndex := 339, attributes := #[] }, { accessFlags := 26, nameIndex := 364, descriptorIndex := 339, attributes := #[] }, { accessFlags := 26, nameIndex := 365, descriptorIndex := 339, attributes := #[] }, { accessFlags := 26, nameIndex := 172, descriptorIndex := 173, attributes := #[] }, { accessFlags := 26, nameIndex := 176, descriptorIndex := 173, attributes := #[] }, { accessFlags := 8, nameIndex := 344, descriptorIndex := 339, attributes := #[] }, { accessFlags := 8, nameIndex := 338, descriptorIndex := 339, attributes := #[] }, { accessFlags := 4120, nameIndex := 245, descriptorIndex := 246, attributes := #[] }])
  fields := #[{ name := "E", type := .double, accessFlags := 25, slot := 0, constantValue := 0 }, { name := "PI", type := .double, accessFlags := 25, slot := 1, constantValue := 0 }, { name := "TAU", type := .double, accessFlags := 25, slot := 2, constantValue := 0 }, { name := "DEGREES_TO_RADIANS", type := .double, accessFlags := 26, slot := 3, constantValue := 0 }, { name := "RADIANS_TO_DEGREES", type := .double, accessFlags := 26, slot := 4, constantValue := 0 }, { name := "negativeZeroFloatBits", type := .long, accessFlags := 26, slot := 5, constantValue := 0 }, { name := "negativeZeroDoubleBits", type := .long, accessFlags := 26, slot := 6, constantValue := 0 }, { name := "twoToTheDoubleScaleUp", type := .double, accessFlags := 8, slot := 7, constantValue := 0 }, { name := "twoToTheDoubleScaleDown", type := .double, accessFlags := 8, slot := 8, constantValue := 0 }, { name := "$assertionsDisabled", type := .boolean, accessFlags := 4120, slot := 9, constantValue := 0 }]
  methods := #[k2m0, k2m1]
  instanceTypes := #[]
  staticTypes := #[.double, .double, .double, .double, .double, .long, .long, .double, .double, .boolean]
  resolved := Array.replicate 460 none
  statics := none }

def pool3 : Array CpInfo := pool [(1, .class_ 2), (0, u "java/io/Serializable"), (0, .class_ 4), (0, u "java/lang/Object")] 2

/-- java/io/Serializable -/
def k3 : Class := { plain "java/io/Serializable" (some 0) with
  accessFlags := 1537
  interfaces := #[]
  cf := some (fileOf pool3 1 #[] #[] 1537 3 #[] #[])
  fields := #[]
  methods := #[]
  instanceTypes := #[]
  staticTypes := #[]
  resolved := Array.replicate 7 none
  statics := none }

def pool4 : Array CpInfo := pool [(1, .class_ 2), (0, u "java/lang/Comparable"), (0, .class_ 4), (0, u "java/lang/Object")] 7

/-- java/lang/Comparable -/
def k4 : Class := { plain "java/lang/Comparable" (some 0) with
  accessFlags := 1537
  interfaces := #[]
  cf := some (fileOf pool4 1 #[] #[] 1537 3 #[] #[])
  fields := #[]
  methods := #[]
  instanceTypes := #[]
  staticTypes := #[]
  resolved := Array.replicate 12 none
  statics := none }

def pool5 : Array CpInfo := pool [(2, .class_ 4), (1, u "java/lang/CharSequence"), (42, .class_ 48), (0, u "java/lang/CharSequence$1CodePointIterator"), (10, .class_ 60), (0, u "java/lang/CharSequence$1CharIterator"), (5, .class_ 67), (0, u "java/lang/Object")] 63

/-- java/lang/CharSequence -/
def k5 : Class := { plain "java/lang/CharSequence" (some 0) with
  accessFlags := 1537
  interfaces := #[]
  cf := some (fileOf pool5 2 #[.nestMembers #[47, 59]] #[] 1537 66 #[] #[])
  fields := #[]
  methods := #[]
  instanceTypes := #[]
  staticTypes := #[]
  resolved := Array.replicate 131 none
  statics := none }

def pool6 : Array CpInfo := pool [(1, .class_ 2), (0, u "java/lang/constant/Constable"), (0, .class_ 4), (0, u "java/lang/Object")] 6

/-- java/lang/constant/Constable -/
def k6 : Class := { plain "java/lang/constant/Constable" (some 0) with
  accessFlags := 1537
  interfaces := #[]
  cf := some (fileOf pool6 1 #[] #[] 1537 3 #[] #[])
  fields := #[]
  methods := #[]
  instanceTypes := #[]
  staticTypes := #[]
  resolved := Array.replicate 11 none
  statics := none }

def pool7 : Array CpInfo := pool [(1, .class_ 2), (0, u "java/lang/constant/ConstantDesc"), (0, .class_ 4), (0, u "java/lang/Object")] 32

/-- java/lang/constant/ConstantDesc -/
def k7 : Class := { plain "java/lang/constant/ConstantDesc" (some 0) with
  accessFlags := 1537
  interfaces := #[]
  cf := some (fileOf pool7 1 #[] #[] 1537 3 #[] #[])
  fields := #[]
  methods := #[]
  instanceTypes := #[]
  staticTypes := #[]
  resolved := Array.replicate 37 none
  statics := none }

def pool8 : Array CpInfo := pool [(1, .methodref 2 3), (0, .class_ 4), (0, .nameAndType 5 6), (0, u "java/lang/Object"), (0, u "<init>"), (0, u "()V"), (2, .fieldref 10 11), (0, .class_ 12), (0, .nameAndType 13 14), (0, u "java/lang/String"), (0, u "value"), (0, u "[B"), (0, .fieldref 10 16), (0, .nameAndType 17 18), (0, u "coder"), (0, u "B"), (2, u "hash"), (0, u "I"), (2, u "hashIsZero"), (0, u "Z"), (0, .methodref 10 28), (0, .nameAndType 5 29), (0, u "([CIILjava/lang/Void;)V"), (8, .fieldref 10 39), (0, .nameAndType 40 26), (0, u "COMPACT_STRINGS"), (1, .class_ 44), (1, u "java/lang/StringUTF16"), (0, u "compress"), (1, .methodref 42 48), (0, .nameAndType 49 50), (0, u "coderFromArrayLen"), (0, u "([BI)B"), (126, .methodref 42 178), (0, .nameAndType 45 179), (0, u "([CII)[B"), (395, .class_ 576), (0, u "java/lang/CharSequence"), (22, u "CASE_INSENSITIVE_ORDER"), (0, u "Ljava/util/Comparator;"), (409, u "([C)V"), (90, u "serialPersistentFields"), (0, u "[Ljava/io/ObjectStreamField;"), (0, .class_ 1104), (0, u "java/lang/String$CaseInsensitiveComparator"), (1, .class_ 1107), (0, u "java/io/Serializable"), (0, .class_ 1109), (0, u "java/lang/Comparable"), (0, .class_ 1111), (0, u "java/lang/constant/Constable"), (0, .class_ 1113), (0, u "java/lang/constant/ConstantDesc"), (2, u "serialVersionUID"), (0, u "J"), (3, u "REPL"), (0, u "C"), (2, u "LATIN1"), (1, u "UTF16")] 323

def k8m0 : Method := { name := "<init>", desc := "()V", sig := { parameters := [], returnType := none }, accessFlags := 1, code := none }
def k8c1 : Code := { maxStack := 5, maxLocals := 2, code := jdk_42_method_3_code, exceptionTable := #[], attributes := #[] }
def k8m1 : Method := { name := "<init>", desc := "([C)V", sig := { parameters := [(.array .char)], returnType := none }, accessFlags := 1, code := some k8c1 }
def k8c2 : Code := { maxStack := 4, maxLocals := 6, code := jdk_42_method_149_code, exceptionTable := #[], attributes := #[] }
def k8m2 : Method := { name := "<init>", desc := "([CIILjava/lang/Void;)V", sig := { parameters := [(.array .char), .int, .int, (.object "java/lang/Void")], returnType := none }, accessFlags := 2, code := some k8c2 }
/-- java/lang/String -/
def k8 : Class := { plain "java/lang/String" (some 0) with
  accessFlags := 49
  interfaces := #[3, 4, 5, 6, 7]
  cf := some (fileOf pool8 10 #[.nestMembers #[1103]] #[{ accessFlags := 1, nameIndex := 5, descriptorIndex := 6, attributes := #[] }, { accessFlags := 1, nameIndex := 5, descriptorIndex := 1010, attributes := #[] }, { accessFlags := 2, nameIndex := 5, descriptorIndex := 29, attributes := #[] }] 49 2 #[1106, 1108, 575, 1110, 1112] #[{ accessFlags := 18, nameIndex := 13, descriptorIndex := 14, attributes := #[] }, { accessFlags := 18, nameIndex := 17, descriptorIndex := 18, attributes := #[] }, { accessFlags := 2, nameIndex := 21, descriptorIndex := 22, attributes := #[] }, { accessFlags := 2, nameIndex := 25, descriptorIndex := 26, attributes := #[] }, { accessFlags := 26, nameIndex := 1116, descriptorIndex := 1117, attributes := #[] }, { accessFlags := 24, nameIndex := 40, descriptorIndex := 26, attributes := #[] }, { accessFlags := 26, nameIndex := 1101, descriptorIndex := 1102, attributes := #[] }, { accessFlags := 26, nameIndex := 1121, descriptorIndex := 1122, attributes := #[] }, { accessFlags := 25, nameIndex := 599, descriptorIndex := 600, attributes := #[] }, { accessFlags := 24, nameIndex := 1125, descriptorIndex := 18, attributes := #[] }, { accessFlags := 24, nameIndex := 1127, descriptorIndex := 18, attributes := #[] }])
  fields := #[{ name := "value", type := (.array .byte), accessFlags := 18, slot := 0, constantValue := 0 }, { name := "coder", type := .byte, accessFlags := 18, slot := 1, constantValue := 0 }, { name := "hash", type := .int, accessFlags := 2, slot := 2, constantValue := 0 }, { name := "hashIsZero", type := .boolean, accessFlags := 2, slot := 3, constantValue := 0 }, { name := "serialVersionUID", type := .long, accessFlags := 26, slot := 0, constantValue := 0 }, { name := "COMPACT_STRINGS", type := .boolean, accessFlags := 24, slot := 1, constantValue := 0 }, { name := "serialPersistentFields", type := (.array (.object "java/io/ObjectStreamField")), accessFlags := 26, slot := 2, constantValue := 0 }, { name := "REPL", type := .char, accessFlags := 26, slot := 3, constantValue := 0 }, { name := "CASE_INSENSITIVE_ORDER", type := (.object "java/util/Comparator"), accessFlags := 25, slot := 4, constantValue := 0 }, { name := "LATIN1", type := .byte, accessFlags := 24, slot := 5, constantValue := 0 }, { name := "UTF16", type := .byte, accessFlags := 24, slot := 6, constantValue := 0 }]
  methods := #[k8m0, k8m1, k8m2]
  instanceTypes := #[(.array .byte), .byte, .int, .boolean]
  staticTypes := #[.long, .boolean, (.array (.object "java/io/ObjectStreamField")), .char, (.object "java/util/Comparator"), .byte, .byte]
  resolved := Array.replicate 1451 none
  statics := some 0 }

def pool9 : Array CpInfo := pool [(6, .class_ 8), (1, u "java/lang/Object"), (0, u "<init>"), (0, u "()V"), (1, .class_ 14), (1, u "java/lang/StringUTF16"), (31, u "$assertionsDisabled"), (0, u "Z"), (13, u "HI_BYTE_SHIFT"), (0, u "I"), (2, u "LO_BYTE_SHIFT"), (49, .methodref 12 116), (0, .nameAndType 117 118), (0, u "compress"), (0, u "([CI[BII)I"), (3, u "([CII)[B"), (138, u "coderFromArrayLen"), (0, u "([BI)B"), (106, .class_ 371), (1, u "java/lang/StringUTF16$LinesSpliterator"), (58, u "MAX_LENGTH"), (196, .class_ 628), (0, u "java/lang/StringUTF16$CodePointsSpliterator"), (0, .class_ 630), (0, u "java/lang/StringUTF16$CharsSpliterator")] 4

def k9m0 : Method := { name := "<init>", desc := "()V", sig := { parameters := [], returnType := none }, accessFlags := 0, code := none }
def k9c1 : Code := { maxStack := 2, maxLocals := 2, code := jdk_52_method_15_code, exceptionTable := #[], attributes := #[] }
def k9m1 : Method := { name := "coderFromArrayLen", desc := "([BI)B", sig := { parameters := [(.array .byte), .int], returnType := some .byte }, accessFlags := 8, code := some k9c1 }
def k9c2 : Code := { maxStack := 5, maxLocals := 6, code := jdk_52_method_16_code, exceptionTable := #[], attributes := #[] }
def k9m2 : Method := { name := "compress", desc := "([CII)[B", sig := { parameters := [(.array .char), .int, .int], returnType := some (.array .byte) }, accessFlags := 9, code := some k9c2 }
def k9c3 : Code := { maxStack := 3, maxLocals := 7, code := jdk_52_method_21_code, exceptionTable := #[], attributes := #[] }
def k9m3 : Method := { name := "compress", desc := "([CI[BII)I", sig := { parameters := [(.array .char), .int, (.array .byte), .int, .int], returnType := some .int }, accessFlags := 9, code := some k9c3 }
/-- java/lang/StringUTF16 -/
def k9 : Class := { plain "java/lang/StringUTF16" (some 0) with
  accessFlags := 48
  interfaces := #[]
  cf := some (fileOf pool9 12 #[.nestMembers #[627, 629, 369]] #[{ accessFlags := 0, nameIndex := 9, descriptorIndex := 10, attributes := #[] }, { accessFlags := 8, nameIndex := 261, descriptorIndex := 262, attributes := #[] }, { accessFlags := 9, nameIndex := 117, descriptorIndex := 122, attributes := #[] }, { accessFlags := 9, nameIndex := 117, descriptorIndex := 118, attributes := #[] }] 48 6 #[] #[{ accessFlags := 26, nameIndex := 61, descriptorIndex := 62, attributes := #[] }, { accessFlags := 26, nameIndex := 65, descriptorIndex := 62, attributes := #[] }, { accessFlags := 24, nameIndex := 430, descriptorIndex := 62, attributes := #[] }, { accessFlags := 4120, nameIndex := 46, descriptorIndex := 47, attributes := #[] }])
  fields := #[{ name := "HI_BYTE_SHIFT", type := .int, accessFlags := 26, slot := 0, constantValue := 0 }, { name := "LO_BYTE_SHIFT", type := .int, accessFlags := 26, slot := 1, constantValue := 0 }, { name := "MAX_LENGTH", type := .int, accessFlags := 24, slot := 2, constantValue := 0 }, { name := "$assertionsDisabled", type := .boolean, accessFlags := 4120, slot := 3, constantValue := 0 }]
  methods := #[k9m0, k9m1, k9m2, k9m3]
  instanceTypes := #[]
  staticTypes := #[.int, .int, .int, .boolean]
  resolved := Array.replicate 635 none
  statics := none }

def pool10 : Array CpInfo := pool [(3, .methodref 4 5), (0, .class_ 6), (0, .nameAndType 7 8), (0, u "java/lang/Object"), (0, u "<init>"), (0, u "()V"), (0, .class_ 10), (0, u "com/example/kreide/kreide/interpreter/CallStack"), (0, .methodref 12 13), (0, .class_ 14), (0, .nameAndType 15 16), (0, u "java/lang/Math"), (0, u "max"), (0, u "(II)I"), (0, .fieldref 9 18), (0, .nameAndType 19 20), (0, u "primitives"), (0, u "[J"), (0, .fieldref 9 22), (0, .nameAndType 23 24), (0, u "top"), (0, u "I"), (12, u "depth"), (2, u "base"), (12, u "(I)V"), (0, .fieldref 9 55), (0, .nameAndType 56 57), (0, u "references"), (0, u "[Ljava/lang/Object;"), (27, u "setObjectAt"), (0, u "(IILjava/lang/Object;)V"), (0, u "FIRST_ROOM"), (2, u "MOST_ROOM"), (29, u "getLongAt"), (0, u "(II)J"), (0, u "setLongAt"), (0, u "(IIJ)V"), (8, u "getObjectAt"), (0, u "(II)Ljava/lang/Object;")] 2

def k10c0 : Code := { maxStack := 3, maxLocals := 2, code := prog_14_method_1_code, exceptionTable := #[], attributes := #[] }
def k10m0 : Method := { name := "<init>", desc := "(I)V", sig := { parameters := [.int], returnType := none }, accessFlags := 0, code := some k10c0 }
def k10c1 : Code := { maxStack := 3, maxLocals := 3, code := prog_14_method_18_code, exceptionTable := #[], attributes := #[] }
def k10m1 : Method := { name := "getLongAt", desc := "(II)J", sig := { parameters := [.int, .int], returnType := some .long }, accessFlags := 0, code := some k10c1 }
def k10c2 : Code := { maxStack := 4, maxLocals := 5, code := prog_14_method_19_code, exceptionTable := #[], attributes := #[] }
def k10m2 : Method := { name := "setLongAt", desc := "(IIJ)V", sig := { parameters := [.int, .int, .long], returnType := none }, accessFlags := 0, code := some k10c2 }
def k10c3 : Code := { maxStack := 3, maxLocals := 3, code := prog_14_method_24_code, exceptionTable := #[], attributes := #[] }
def k10m3 : Method := { name := "getObjectAt", desc := "(II)Ljava/lang/Object;", sig := { parameters := [.int, .int], returnType := some (.object "java/lang/Object") }, accessFlags := 0, code := some k10c3 }
def k10c4 : Code := { maxStack := 3, maxLocals := 4, code := prog_14_method_25_code, exceptionTable := #[], attributes := #[] }
def k10m4 : Method := { name := "setObjectAt", desc := "(IILjava/lang/Object;)V", sig := { parameters := [.int, .int, (.object "java/lang/Object")], returnType := none }, accessFlags := 0, code := some k10c4 }
/-- com/example/kreide/kreide/interpreter/CallStack -/
def k10 : Class := { plain "com/example/kreide/kreide/interpreter/CallStack" (some 0) with
  accessFlags := 48
  interfaces := #[]
  cf := some (fileOf pool10 9 #[] #[{ accessFlags := 0, nameIndex := 7, descriptorIndex := 53, attributes := #[] }, { accessFlags := 0, nameIndex := 120, descriptorIndex := 121, attributes := #[] }, { accessFlags := 0, nameIndex := 122, descriptorIndex := 123, attributes := #[] }, { accessFlags := 0, nameIndex := 132, descriptorIndex := 133, attributes := #[] }, { accessFlags := 0, nameIndex := 85, descriptorIndex := 86, attributes := #[] }] 48 4 #[] #[{ accessFlags := 26, nameIndex := 87, descriptorIndex := 24, attributes := #[] }, { accessFlags := 26, nameIndex := 90, descriptorIndex := 24, attributes := #[] }, { accessFlags := 2, nameIndex := 19, descriptorIndex := 20, attributes := #[] }, { accessFlags := 2, nameIndex := 56, descriptorIndex := 57, attributes := #[] }, { accessFlags := 2, nameIndex := 40, descriptorIndex := 24, attributes := #[] }, { accessFlags := 2, nameIndex := 23, descriptorIndex := 24, attributes := #[] }, { accessFlags := 2, nameIndex := 37, descriptorIndex := 24, attributes := #[] }])
  fields := #[{ name := "FIRST_ROOM", type := .int, accessFlags := 26, slot := 0, constantValue := 0 }, { name := "MOST_ROOM", type := .int, accessFlags := 26, slot := 1, constantValue := 0 }, { name := "primitives", type := (.array .long), accessFlags := 2, slot := 0, constantValue := 0 }, { name := "references", type := (.array (.object "java/lang/Object")), accessFlags := 2, slot := 1, constantValue := 0 }, { name := "base", type := .int, accessFlags := 2, slot := 2, constantValue := 0 }, { name := "top", type := .int, accessFlags := 2, slot := 3, constantValue := 0 }, { name := "depth", type := .int, accessFlags := 2, slot := 4, constantValue := 0 }]
  methods := #[k10m0, k10m1, k10m2, k10m3, k10m4]
  instanceTypes := #[(.array .long), (.array (.object "java/lang/Object")), .int, .int, .int]
  staticTypes := #[.int, .int]
  resolved := Array.replicate 136 none
  statics := none }

def pool11 : Array CpInfo := pool [(4, .class_ 6), (1, u "java/lang/Object"), (0, u "<init>"), (0, u "()V"), (5, .class_ 16), (1, u "java/lang/StringLatin1"), (104, u "$assertionsDisabled"), (0, u "Z"), (98, .class_ 223), (1, u "java/lang/StringLatin1$LinesSpliterator"), (166, .class_ 391), (0, u "java/lang/StringLatin1$CharsSpliterator")] 3

def k11m0 : Method := { name := "<init>", desc := "()V", sig := { parameters := [], returnType := none }, accessFlags := 0, code := none }
/-- java/lang/StringLatin1 -/
def k11 : Class := { plain "java/lang/StringLatin1" (some 0) with
  accessFlags := 48
  interfaces := #[]
  cf := some (fileOf pool11 14 #[.nestMembers #[390, 221]] #[{ accessFlags := 0, nameIndex := 7, descriptorIndex := 8, attributes := #[] }] 48 4 #[] #[{ accessFlags := 4120, nameIndex := 121, descriptorIndex := 122, attributes := #[] }])
  fields := #[{ name := "$assertionsDisabled", type := .boolean, accessFlags := 4120, slot := 0, constantValue := 0 }]
  methods := #[k11m0]
  instanceTypes := #[]
  staticTypes := #[.boolean]
  resolved := Array.replicate 395 none
  statics := none }

def pool12 : Array CpInfo := pool [(2, .class_ 4), (1, u "java/lang/Object"), (0, u "<init>"), (0, u "()V"), (17, .class_ 26), (1, u "jdk/internal/util/Preconditions"), (28, .class_ 56), (0, u "jdk/internal/util/Preconditions$4"), (57, .class_ 115), (0, u "jdk/internal/util/Preconditions$1"), (7, u "SIOOBE_FORMATTER"), (0, u "Ljava/util/function/BiFunction;"), (0, .class_ 126), (0, u "jdk/internal/util/Preconditions$2"), (3, u "AIOOBE_FORMATTER"), (0, .class_ 132), (0, u "jdk/internal/util/Preconditions$3"), (3, u "IOOBE_FORMATTER")] 57

def k12m0 : Method := { name := "<init>", desc := "()V", sig := { parameters := [], returnType := none }, accessFlags := 1, code := none }
/-- jdk/internal/util/Preconditions -/
def k12 : Class := { plain "jdk/internal/util/Preconditions" (some 0) with
  accessFlags := 33
  interfaces := #[]
  cf := some (fileOf pool12 24 #[.nestMembers #[55, 131, 125, 114]] #[{ accessFlags := 1, nameIndex := 5, descriptorIndex := 6, attributes := #[] }] 33 2 #[] #[{ accessFlags := 25, nameIndex := 123, descriptorIndex := 124, attributes := #[] }, { accessFlags := 25, nameIndex := 130, descriptorIndex := 124, attributes := #[] }, { accessFlags := 25, nameIndex := 136, descriptorIndex := 124, attributes := #[] }])
  fields := #[{ name := "SIOOBE_FORMATTER", type := (.object "java/util/function/BiFunction"), accessFlags := 25, slot := 0, constantValue := 0 }, { name := "AIOOBE_FORMATTER", type := (.object "java/util/function/BiFunction"), accessFlags := 25, slot := 1, constantValue := 0 }, { name := "IOOBE_FORMATTER", type := (.object "java/util/function/BiFunction"), accessFlags := 25, slot := 2, constantValue := 0 }]
  methods := #[k12m0]
  instanceTypes := #[]
  staticTypes := #[(.object "java/util/function/BiFunction"), (.object "java/util/function/BiFunction"), (.object "java/util/function/BiFunction")]
  resolved := Array.replicate 194 none
  statics := some 1 }

def pool13 : Array CpInfo := pool [(9, u "<init>"), (6, .class_ 18), (1, u "java/lang/Object"), (0, u "()V"), (1, .class_ 23), (1, u "jdk/internal/util/ArraysSupport"), (0, u "LOG2_ARRAY_LONG_INDEX_SCALE"), (0, u "I"), (2, u "U"), (0, u "Ljdk/internal/misc/Unsafe;"), (8, u "BIG_ENDIAN"), (0, u "Z"), (8, u "LOG2_BYTE_BIT_SIZE"), (4, u "LOG2_ARRAY_INT_INDEX_SCALE"), (54, u "JLA"), (0, u "Ljdk/internal/access/JavaLangAccess;"), (11, u "LOG2_ARRAY_BOOLEAN_INDEX_SCALE"), (9, u "LOG2_ARRAY_BYTE_INDEX_SCALE"), (5, u "LOG2_ARRAY_CHAR_INDEX_SCALE"), (5, u "LOG2_ARRAY_SHORT_INDEX_SCALE"), (18, u "LOG2_ARRAY_FLOAT_INDEX_SCALE"), (24, u "LOG2_ARRAY_DOUBLE_INDEX_SCALE"), (89, u "T_BOOLEAN"), (2, u "T_CHAR"), (1, u "T_FLOAT"), (1, u "T_DOUBLE"), (1, u "T_BYTE"), (1, u "T_SHORT"), (1, u "T_INT"), (1, u "T_LONG"), (1, u "SOFT_MAX_ARRAY_LENGTH")] 83

def k13m0 : Method := { name := "<init>", desc := "()V", sig := { parameters := [], returnType := none }, accessFlags := 2, code := none }
/-- jdk/internal/util/ArraysSupport -/
def k13 : Class := { plain "jdk/internal/util/ArraysSupport" (some 0) with
  accessFlags := 33
  interfaces := #[]
  cf := some (fileOf pool13 21 #[] #[{ accessFlags := 2, nameIndex := 9, descriptorIndex := 19, attributes := #[] }] 33 16 #[] #[{ accessFlags := 24, nameIndex := 28, descriptorIndex := 29, attributes := #[] }, { accessFlags := 26, nameIndex := 38, descriptorIndex := 39, attributes := #[] }, { accessFlags := 25, nameIndex := 121, descriptorIndex := 25, attributes := #[] }, { accessFlags := 25, nameIndex := 131, descriptorIndex := 25, attributes := #[] }, { accessFlags := 25, nameIndex := 137, descriptorIndex := 25, attributes := #[] }, { accessFlags := 25, nameIndex := 143, descriptorIndex := 25, attributes := #[] }, { accessFlags := 25, nameIndex := 53, descriptorIndex := 25, attributes := #[] }, { accessFlags := 25, nameIndex := 24, descriptorIndex := 25, attributes := #[] }, { accessFlags := 25, nameIndex := 162, descriptorIndex := 25, attributes := #[] }, { accessFlags := 25, nameIndex := 187, descriptorIndex := 25, attributes := #[] }, { accessFlags := 26, nameIndex := 48, descriptorIndex := 25, attributes := #[] }, { accessFlags := 25, nameIndex := 277, descriptorIndex := 25, attributes := #[] }, { accessFlags := 25, nameIndex := 280, descriptorIndex := 25, attributes := #[] }, { accessFlags := 25, nameIndex := 282, descriptorIndex := 25, attributes := #[] }, { accessFlags := 25, nameIndex := 284, descriptorIndex := 25, attributes := #[] }, { accessFlags := 25, nameIndex := 286, descriptorIndex := 25, attributes := #[] }, { accessFlags := 25, nameIndex := 288, descriptorIndex := 25, attributes := #[] }, { accessFlags := 25, nameIndex := 290, descriptorIndex := 25, attributes := #[] }, { accessFlags := 25, nameIndex := 292, descriptorIndex := 25, attributes := #[] }, { accessFlags := 26, nameIndex := 108, descriptorIndex := 109, attributes := #[] }, { accessFlags := 25, nameIndex := 294, descriptorIndex := 25, attributes := #[] }])
  fields := #[{ name := "U", type := (.object "jdk/internal/misc/Unsafe"), accessFlags := 24, slot := 0, constantValue := 0 }, { name := "BIG_ENDIAN", type := .boolean, accessFlags := 26, slot := 1, constantValue := 0 }, { name := "LOG2_ARRAY_BOOLEAN_INDEX_SCALE", type := .int, accessFlags := 25, slot := 2, constantValue := 0 }, { name := "LOG2_ARRAY_BYTE_INDEX_SCALE", type := .int, accessFlags := 25, slot := 3, constantValue := 0 }, { name := "LOG2_ARRAY_CHAR_INDEX_SCALE", type := .int, accessFlags := 25, slot := 4, constantValue := 0 }, { name := "LOG2_ARRAY_SHORT_INDEX_SCALE", type := .int, accessFlags := 25, slot := 5, constantValue := 0 }, { name := "LOG2_ARRAY_INT_INDEX_SCALE", type := .int, accessFlags := 25, slot := 6, constantValue := 0 }, { name := "LOG2_ARRAY_LONG_INDEX_SCALE", type := .int, accessFlags := 25, slot := 7, constantValue := 0 }, { name := "LOG2_ARRAY_FLOAT_INDEX_SCALE", type := .int, accessFlags := 25, slot := 8, constantValue := 0 }, { name := "LOG2_ARRAY_DOUBLE_INDEX_SCALE", type := .int, accessFlags := 25, slot := 9, constantValue := 0 }, { name := "LOG2_BYTE_BIT_SIZE", type := .int, accessFlags := 26, slot := 10, constantValue := 0 }, { name := "T_BOOLEAN", type := .int, accessFlags := 25, slot := 11, constantValue := 0 }, { name := "T_CHAR", type := .int, accessFlags := 25, slot := 12, constantValue := 0 }, { name := "T_FLOAT", type := .int, accessFlags := 25, slot := 13, constantValue := 0 }, { name := "T_DOUBLE", type := .int, accessFlags := 25, slot := 14, constantValue := 0 }, { name := "T_BYTE", type := .int, accessFlags := 25, slot := 15, constantValue := 0 }, { name := "T_SHORT", type := .int, accessFlags := 25, slot := 16, constantValue := 0 }, { name := "T_INT", type := .int, accessFlags := 25, slot := 17, constantValue := 0 }, { name := "T_LONG", type := .int, accessFlags := 25, slot := 18, constantValue := 0 }, { name := "JLA", type := (.object "jdk/internal/access/JavaLangAccess"), accessFlags := 26, slot := 19, constantValue := 0 }, { name := "SOFT_MAX_ARRAY_LENGTH", type := .int, accessFlags := 25, slot := 20, constantValue := 0 }]
  methods := #[k13m0]
  instanceTypes := #[]
  staticTypes := #[(.object "jdk/internal/misc/Unsafe"), .boolean, .int, .int, .int, .int, .int, .int, .int, .int, .int, .int, .int, .int, .int, .int, .int, .int, .int, (.object "jdk/internal/access/JavaLangAccess"), .int]
  resolved := Array.replicate 378 none
  statics := none }

def pool14 : Array CpInfo := pool [(1, u "java/lang/Cloneable"), (0, .class_ 1), (0, u "java/lang/Object"), (0, .class_ 3)] 3

/-- java/lang/Cloneable -/
def k14 : Class := { plain "java/lang/Cloneable" (some 0) with
  accessFlags := 1537
  interfaces := #[]
  cf := some (fileOf pool14 2 #[] #[] 1537 4 #[] #[])
  fields := #[]
  methods := #[]
  instanceTypes := #[]
  staticTypes := #[]
  resolved := Array.replicate 8 none
  statics := none }

/-- the primitive byte -/
def k15 : Class := { plain "byte" none with kind := .primitive 'B', accessFlags := 0x411 }
/-- [B -/
def k16 : Class := { plain "[B" (some 0) with kind := .array 15 .byte, interfaces := #[14, 3], accessFlags := 1041 }

/-- the primitive char -/
def k17 : Class := { plain "char" none with kind := .primitive 'C', accessFlags := 0x411 }
/-- [C -/
def k18 : Class := { plain "[C" (some 0) with kind := .array 17 .char, interfaces := #[14, 3], accessFlags := 1041 }

/-- the primitive int -/
def k19 : Class := { plain "int" none with kind := .primitive 'I', accessFlags := 0x411 }
/-- [I -/
def k20 : Class := { plain "[I" (some 0) with kind := .array 19 .int, interfaces := #[14, 3], accessFlags := 1041 }

/-- the primitive long -/
def k21 : Class := { plain "long" none with kind := .primitive 'J', accessFlags := 0x411 }
/-- [J -/
def k22 : Class := { plain "[J" (some 0) with kind := .array 21 .long, interfaces := #[14, 3], accessFlags := 1041 }

/-- [Ljava/lang/Object; -/
def k23 : Class := { plain "[Ljava/lang/Object;" (some 0) with kind := .array 0 (.object "java/lang/Object"), interfaces := #[14, 3], accessFlags := 1041 }

def heap : Heap := #[{ cls := 8, slots := #[.long 0, .int 1, .null, .int 0, .null, .int 0, .int 0], vm := .statics 8 },
  { cls := 12, slots := #[.null, .null, .null], vm := .statics 12 }]
def classes : Array Class := #[k0, k1, k2, k3, k4, k5, k6, k7, k8, k9, k10, k11, k12, k13, k14, k15, k16, k17, k18, k19, k20, k21, k22, k23]
def interned : List (Array UInt16 × Addr) := []
def slotsUsed : Nat := 10
def theMethod : MethodId := ⟨1, 1⟩
def args0 : Array Value := #[.int 5, .int 5, .int 5, .int 5, .int 5, .int 5]
def aboutOver (below : List Frame) : State where
  vm := { classes := classes, interned := interned.toArray }
  heap := heap
  slotsUsed := slotsUsed
  threads := #[{ frames := .invoking theMethod args0 :: below }]
def below0 : List Frame := [.native { method := ⟨0, 0⟩, args := #[] }]
def about1 : State := aboutOver below0
def p0 : Program := .bare "" "" ""
def e0 : Env := launch0.env 0 0 0
theorem w_frames : about1.frames = Frame.invoking theMethod args0 :: below0 := rfl
set_option maxRecDepth 65536 in
theorem w_args : argsFit about1.vm theMethod args0 = true := by decide +kernel
set_option maxRecDepth 65536 in
theorem w_heap : heapFits about1 = true := by decide +kernel
set_option maxRecDepth 65536 in
theorem w_runnable : about1.curStatus? = some .runnable := by decide +kernel
set_option maxRecDepth 65536 in
theorem w_alone : about1.alone = true := by decide +kernel
set_option maxRecDepth 65536 in
theorem w_named : about1.methodNamed? x = some theMethod := by decide +kernel
set_option maxRecDepth 65536 in
theorem w_hears : about1.hears theMethod below0 = true := by decide +kernel
set_option maxRecDepth 65536 in
theorem w_ripe : about1.ripe theMethod args0 below0 = true := by decide +kernel
theorem w_running : about1.status = .running := rfl
set_option maxRecDepth 65536 in
theorem w_room : about1.hasRoom e0.platform room_1 = true :=
  launch0.hasRoom_least _ room_1 (by decide +kernel) (by decide +kernel) (by decide +kernel) (by decide +kernel) (by decide +kernel) (by decide +kernel)
theorem allAtoms_all (ts : List Jvm.Cond) (a : Array Jvm.Value) (st : Jvm.State) : (allAtoms ts).before a st = ts.all (fun c => c.before a st) := by
  induction ts with
  | nil => rfl
  | cons c t ih =>
    show (Jvm.Cond.and c (allAtoms t)).before a st = _
    rw [Jvm.Cond.before_and, ih, List.all_cons]
def words1 : List Jvm.Cond := Jvm.Cond.code x code maxLocals ret :: tables_1
/-- a 'code' word, met by the world's own term for the bytes: nothing is compared byte by byte -/
theorem code_word {y : MethodName} {bytes : ByteArray} {mx : Nat} {rt : Option FieldType} {a : Array Value} {s : State} {m : MethodId} {meth : Method} {c : Code} (h1 : s.methodNamed? y = some m) (h2 : s.vm.method? m = some meth) (h3 : meth.code = some c) (h4 : c.code = bytes)
    (h5 : (c.maxLocals == mx && c.exceptionTable.isEmpty && decide (c.maxStack ≤ mostOperands) && decide (meth.sig.returnType = rt) && !meth.locks && decide (parseMethodDescriptor y.desc = some meth.sig)) = true) : (Jvm.Cond.code y bytes mx rt).before a s = true := by
  simp only [Bool.and_eq_true, beq_iff_eq, Bool.not_eq_true', decide_eq_true_eq] at h5
  obtain ⟨⟨⟨⟨⟨g1, g2⟩, g3⟩, g4⟩, g5⟩, g6⟩ := h5
  simp [Cond.before, Cond.holds, Cond.value, h1, h2, h3, h4, g1, g2, g3, g4, g5, g6]
def isCode : Jvm.Cond → Bool
  | .code _ _ _ _ => true
  | _ => false
theorem all_split {L : List Jvm.Cond} {P : Jvm.Cond → Bool} (h1 : L.all (fun c => isCode c || P c) = true) (h2 : ∀ c ∈ L.filter isCode, P c = true) : L.all P = true := by
  refine List.all_eq_true.mpr fun c hc => ?_
  have h := List.all_eq_true.mp h1 c hc
  rcases Bool.eq_false_or_eq_true (isCode c) with hi | hi
  · exact h2 c (List.mem_filter.mpr ⟨hc, hi⟩)
  · simpa [hi] using h
set_option maxRecDepth 65536 in
theorem w_c0 : (Jvm.Cond.code x code maxLocals ret).before args0 about1 = true := code_word (m := ⟨1, 1⟩) (meth := k1m1) (c := k1c1) (by decide +kernel) rfl rfl rfl (by decide +kernel)
set_option maxRecDepth 65536 in
theorem w_c1 : (Jvm.Cond.code ({ cls := "java/lang/Math", name := "max", desc := "(II)I" } : Jvm.MethodName) jdk_29_method_65_code (2 : Nat) (Option.some Jvm.ClassFile.FieldType.int)).before args0 about1 = true := code_word (m := ⟨2, 1⟩) (meth := k2m1) (c := k2c1) (by decide +kernel) rfl rfl rfl (by decide +kernel)
set_option maxRecDepth 65536 in
theorem w_c2 : (Jvm.Cond.code ({ cls := "java/lang/String", name := "<init>", desc := "([C)V" } : Jvm.MethodName) jdk_42_method_3_code (2 : Nat) (Option.none : Option Jvm.ClassFile.FieldType)).before args0 about1 = true := code_word (m := ⟨8, 1⟩) (meth := k8m1) (c := k8c1) (by decide +kernel) rfl rfl rfl (by decide +kernel)
set_option maxRecDepth 65536 in
theorem w_c3 : (Jvm.Cond.code ({ cls := "java/lang/String", name := "<init>", desc := "([CIILjava/lang/Void;)V" } : Jvm.MethodName) jdk_42_method_149_code (6 : Nat) (Option.none : Option Jvm.ClassFile.FieldType)).before args0 about1 = true := code_word (m := ⟨8, 2⟩) (meth := k8m2) (c := k8c2) (by decide +kernel) rfl rfl rfl (by decide +kernel)
set_option maxRecDepth 65536 in
theorem w_c4 : (Jvm.Cond.code ({ cls := "java/lang/Object", name := "<init>", desc := "()V" } : Jvm.MethodName) object_method_1_code (1 : Nat) (Option.none : Option Jvm.ClassFile.FieldType)).before args0 about1 = true := code_word (m := ⟨0, 0⟩) (meth := k0m0) (c := k0c0) (by decide +kernel) rfl rfl rfl (by decide +kernel)
set_option maxRecDepth 65536 in
theorem w_c5 : (Jvm.Cond.code ({ cls := "java/lang/StringUTF16", name := "compress", desc := "([CII)[B" } : Jvm.MethodName) jdk_52_method_16_code (6 : Nat) (Option.some (Jvm.ClassFile.FieldType.array Jvm.ClassFile.FieldType.byte))).before args0 about1 = true := code_word (m := ⟨9, 2⟩) (meth := k9m2) (c := k9c2) (by decide +kernel) rfl rfl rfl (by decide +kernel)
set_option maxRecDepth 65536 in
theorem w_c6 : (Jvm.Cond.code ({ cls := "java/lang/StringUTF16", name := "compress", desc := "([CI[BII)I" } : Jvm.MethodName) jdk_52_method_21_code (7 : Nat) (Option.some Jvm.ClassFile.FieldType.int)).before args0 about1 = true := code_word (m := ⟨9, 3⟩) (meth := k9m3) (c := k9c3) (by decide +kernel) rfl rfl rfl (by decide +kernel)
set_option maxRecDepth 65536 in
theorem w_c7 : (Jvm.Cond.code ({ cls := "java/lang/StringUTF16", name := "coderFromArrayLen", desc := "([BI)B" } : Jvm.MethodName) jdk_52_method_15_code (2 : Nat) (Option.some Jvm.ClassFile.FieldType.byte)).before args0 about1 = true := code_word (m := ⟨9, 1⟩) (meth := k9m1) (c := k9c1) (by decide +kernel) rfl rfl rfl (by decide +kernel)
set_option maxRecDepth 65536 in
theorem w_c8 : (Jvm.Cond.code ({ cls := "com/example/kreide/kreide/interpreter/CallStack", name := "<init>", desc := "(I)V" } : Jvm.MethodName) prog_14_method_1_code (2 : Nat) (Option.none : Option Jvm.ClassFile.FieldType)).before args0 about1 = true := code_word (m := ⟨10, 0⟩) (meth := k10m0) (c := k10c0) (by decide +kernel) rfl rfl rfl (by decide +kernel)
set_option maxRecDepth 65536 in
theorem w_c9 : (Jvm.Cond.code ({ cls := "com/example/kreide/kreide/interpreter/CallStack", name := "setLongAt", desc := "(IIJ)V" } : Jvm.MethodName) prog_14_method_19_code (5 : Nat) (Option.none : Option Jvm.ClassFile.FieldType)).before args0 about1 = true := code_word (m := ⟨10, 2⟩) (meth := k10m2) (c := k10c2) (by decide +kernel) rfl rfl rfl (by decide +kernel)
set_option maxRecDepth 65536 in
theorem w_c10 : (Jvm.Cond.code ({ cls := "com/example/kreide/kreide/interpreter/CallStack", name := "setObjectAt", desc := "(IILjava/lang/Object;)V" } : Jvm.MethodName) prog_14_method_25_code (4 : Nat) (Option.none : Option Jvm.ClassFile.FieldType)).before args0 about1 = true := code_word (m := ⟨10, 4⟩) (meth := k10m4) (c := k10c4) (by decide +kernel) rfl rfl rfl (by decide +kernel)
set_option maxRecDepth 65536 in
theorem w_c11 : (Jvm.Cond.code ({ cls := "com/example/kreide/kreide/interpreter/CallStack", name := "getObjectAt", desc := "(II)Ljava/lang/Object;" } : Jvm.MethodName) prog_14_method_24_code (3 : Nat) (Option.some (Jvm.ClassFile.FieldType.object "java/lang/Object"))).before args0 about1 = true := code_word (m := ⟨10, 3⟩) (meth := k10m3) (c := k10c3) (by decide +kernel) rfl rfl rfl (by decide +kernel)
set_option maxRecDepth 65536 in
theorem w_c12 : (Jvm.Cond.code ({ cls := "com/example/kreide/kreide/interpreter/CallStack", name := "getLongAt", desc := "(II)J" } : Jvm.MethodName) prog_14_method_18_code (3 : Nat) (Option.some Jvm.ClassFile.FieldType.long)).before args0 about1 = true := code_word (m := ⟨10, 1⟩) (meth := k10m1) (c := k10c1) (by decide +kernel) rfl rfl rfl (by decide +kernel)
def codes1 : List Jvm.Cond := [Jvm.Cond.code x code maxLocals ret, Jvm.Cond.code ({ cls := "java/lang/Math", name := "max", desc := "(II)I" } : Jvm.MethodName) jdk_29_method_65_code (2 : Nat) (Option.some Jvm.ClassFile.FieldType.int), Jvm.Cond.code ({ cls := "java/lang/String", name := "<init>", desc := "([C)V" } : Jvm.MethodName) jdk_42_method_3_code (2 : Nat) (Option.none : Option Jvm.ClassFile.FieldType), Jvm.Cond.code ({ cls := "java/lang/String", name := "<init>", desc := "([CIILjava/lang/Void;)V" } : Jvm.MethodName) jdk_42_method_149_code (6 : Nat) (Option.none : Option Jvm.ClassFile.FieldType), Jvm.Cond.code ({ cls := "java/lang/Object", name := "<init>", desc := "()V" } : Jvm.MethodName) object_method_1_code (1 : Nat) (Option.none : Option Jvm.ClassFile.FieldType), Jvm.Cond.code ({ cls := "java/lang/StringUTF16", name := "compress", desc := "([CII)[B" } : Jvm.MethodName) jdk_52_method_16_code (6 : Nat) (Option.some (Jvm.ClassFile.FieldType.array Jvm.ClassFile.FieldType.byte)), Jvm.Cond.code ({ cls := "java/lang/StringUTF16", name := "compress", desc := "([CI[BII)I" } : Jvm.MethodName) jdk_52_method_21_code (7 : Nat) (Option.some Jvm.ClassFile.FieldType.int), Jvm.Cond.code ({ cls := "java/lang/StringUTF16", name := "coderFromArrayLen", desc := "([BI)B" } : Jvm.MethodName) jdk_52_method_15_code (2 : Nat) (Option.some Jvm.ClassFile.FieldType.byte), Jvm.Cond.code ({ cls := "com/example/kreide/kreide/interpreter/CallStack", name := "<init>", desc := "(I)V" } : Jvm.MethodName) prog_14_method_1_code (2 : Nat) (Option.none : Option Jvm.ClassFile.FieldType), Jvm.Cond.code ({ cls := "com/example/kreide/kreide/interpreter/CallStack", name := "setLongAt", desc := "(IIJ)V" } : Jvm.MethodName) prog_14_method_19_code (5 : Nat) (Option.none : Option Jvm.ClassFile.FieldType), Jvm.Cond.code ({ cls := "com/example/kreide/kreide/interpreter/CallStack", name := "setObjectAt", desc := "(IILjava/lang/Object;)V" } : Jvm.MethodName) prog_14_method_25_code (4 : Nat) (Option.none : Option Jvm.ClassFile.FieldType), Jvm.Cond.code ({ cls := "com/example/kreide/kreide/interpreter/CallStack", name := "getObjectAt", desc := "(II)Ljava/lang/Object;" } : Jvm.MethodName) prog_14_method_24_code (3 : Nat) (Option.some (Jvm.ClassFile.FieldType.object "java/lang/Object")), Jvm.Cond.code ({ cls := "com/example/kreide/kreide/interpreter/CallStack", name := "getLongAt", desc := "(II)J" } : Jvm.MethodName) prog_14_method_18_code (3 : Nat) (Option.some Jvm.ClassFile.FieldType.long)]
set_option maxRecDepth 65536 in
theorem codes_eq : words1.filter isCode = codes1 := rfl
theorem w_codes : ∀ c ∈ words1.filter isCode, c.before args0 about1 = true := by
  rw [codes_eq]
  intro c hc
  simp only [codes1, List.mem_cons, List.not_mem_nil, or_false] at hc
  rcases hc with rfl | rfl | rfl | rfl | rfl | rfl | rfl | rfl | rfl | rfl | rfl | rfl | rfl
  · exact w_c0
  · exact w_c1
  · exact w_c2
  · exact w_c3
  · exact w_c4
  · exact w_c5
  · exact w_c6
  · exact w_c7
  · exact w_c8
  · exact w_c9
  · exact w_c10
  · exact w_c11
  · exact w_c12
set_option maxRecDepth 65536 in
theorem w_t1 : (words1.take 24).all (fun c => isCode c || c.before args0 about1) = true := by decide +kernel
set_option maxRecDepth 65536 in
theorem w_t2 : ((words1.drop 24).take 24).all (fun c => isCode c || c.before args0 about1) = true := by decide +kernel
set_option maxRecDepth 65536 in
theorem w_t3 : (((words1.drop 24).drop 24).take 24).all (fun c => isCode c || c.before args0 about1) = true := by decide +kernel
set_option maxRecDepth 65536 in
theorem w_t4 : (((words1.drop 24).drop 24).drop 24).all (fun c => isCode c || c.before args0 about1) = true := by decide +kernel
theorem w_tables : (allAtoms (Jvm.Cond.code x code maxLocals ret :: tables_1)).before args0 about1 = true := by
  rw [allAtoms_all]
  show words1.all (fun c => c.before args0 about1) = true
  refine all_split ?_ w_codes
  rw [← List.take_append_drop 24 words1, List.all_append, w_t1, ← List.take_append_drop 24 (words1.drop 24), List.all_append, w_t2, ← List.take_append_drop 24 ((words1.drop 24).drop 24), List.all_append, w_t3, w_t4]
  rfl
set_option maxRecDepth 65536 in
theorem w_rest : rest_1_c.before args0 about1 = true := by decide +kernel
set_option maxRecDepth 65536 in
theorem w_case : (Jvm.Cond.and given_1 narrow_1).before args0 about1 = true := by decide +kernel
theorem w_applies : (headSpec (Jvm.Cond.code x code maxLocals ret :: tables_1) room_1).applies x e0.platform about1 = true :=
  (Spec.applies_iff w_frames).mpr ⟨w_running, w_runnable, w_alone, w_named, w_hears, w_ripe, w_room, w_tables⟩
theorem atStart : AtStart classFile x code maxLocals ret World_1 tables_1 room_1 Calls_1 rest_1 Pre_1 launch0 p0 e0 about1 theMethod args0 below0 :=
  ⟨lists_1, trivial, launch0.admits_env _ _ _, launch0.least_env, fairChoices_fair.cas, fairChoices_fair.clock, w_frames, w_args, w_heap, w_applies, trivial, w_rest, w_case⟩
end start1
theorem witness_1 : WitnessClaimed_1 := ⟨start1.p0, start1.e0, start1.about1, start1.theMethod, start1.args0, start1.below0, start1.atStart⟩
end Jvm.Pilot.@@N@@
