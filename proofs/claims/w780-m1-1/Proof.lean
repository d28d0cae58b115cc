import JvmDerived
import JvmDerived.Pilot.@@N@@Statement
import JvmDerived.Pilot.@@N@@Code
set_option linter.unusedVariables false
set_option linter.unusedSimpArgs false
/- laws to paste: Road.backV, Road.lenW, Road.empW, Road.chN (cut by pick.py; bodies as the Statement names them) -/
namespace Jvm.Pilot.@@N@@
namespace StrChars
open Jvm Sem ClassFile Op Lib Jvm.Stand Jvm.Free.XT Jvm.Free.ALB Jvm.Free.JM Jvm.Free
open Jvm.Lib.Cold (StaticIs)
/-- a char array whose places are chars -/
def Ch (a : Addr) (A : Cell) (U : State) : Prop := Arr .char a A U ∧ Typed .char A
theorem Ch.mv {a : Addr} {A : Cell} {U U' : State} (h : Ch a A U) (hal : U.vm.Alike U'.vm) (hh : U'.heap = U.heap) : Ch a A U' := ⟨h.1.mv hal hh, h.2⟩
theorem Ch.keep {a : Addr} {A : Cell} {U U' : State} (h : Ch a A U) (hal : U.vm.Alike U'.vm) (hk : U'.heap[a]? = some A) : Ch a A U' := ⟨h.1.keep hal hk, h.2⟩
/-- what place i of a char[]'s cell holds -/
def cv (A : Cell) (i : Nat) : Int32 := match A.slots[i]? with | some (.int x) => x | _ => 0
theorem Ch.get {a : Addr} {A : Cell} {U : State} (h : Ch a A U) {i : Nat} (hi : i < A.slots.size) : A.slots[i]? = some (.int (cv A i)) := by
  have e := Array.getElem?_eq_getElem hi
  have f := h.2 i _ e
  unfold cv; rw [e]
  generalize A.slots[i] = v at f
  cases v <;> simp [fits] at f ⊢
/-- the byte that i2b leaves of a char -/
def lo8 (x : Int32) : Int32 := x.toInt8.toInt32
theorem fits_lo8 (y : Int32) : fits .byte (.int (lo8 y)) = true := by
  have h1 := y.toInt8.le_toInt
  have h2 := y.toInt8.toInt_lt
  simp only [lo8, fits, Bool.and_eq_true, decide_eq_true_eq, Int32.le_iff_toInt_le, Int8.toInt_toInt32, show (-128 : Int32).toInt = -128 from by decide, show (127 : Int32).toInt = 127 from by decide]
  omega
/-- A' is A but that each place j of lo .. hi - 1 holds f j -/
def Laid (A A' : Cell) (lo hi : Nat) (f : Nat → Value) : Prop := A'.cls = A.cls ∧ A'.vm = A.vm ∧ A'.slots.size = A.slots.size ∧ ∀ i, A'.slots[i]? = if lo ≤ i ∧ i < hi then some (f i) else A.slots[i]?
theorem Laid.zero (A : Cell) (lo : Nat) (f : Nat → Value) : Laid A A lo (lo + 0) f := ⟨rfl, rfl, rfl, fun i => by rw [if_neg (by omega)]⟩
theorem Laid.step {A Ak : Cell} {lo k : Nat} {f : Nat → Value} {v : Value} (h : Laid A Ak lo k f) (hlo : lo ≤ k) (hk : k < Ak.slots.size) (hv : v = f k) : Laid A (Ak.setSlot k v) lo (k + 1) f := by
  refine ⟨h.1, h.2.1, by simpa [Cell.setSlot] using h.2.2.1, fun i => ?_⟩
  by_cases e : k = i
  · subst e; rw [Cell.slots_setSlot_self v hk, if_pos (by omega), hv]
  · rw [Cell.slots_setSlot_ne v e, h.2.2.2 i]
    by_cases q : lo ≤ i ∧ i < k
    · rw [if_pos q, if_pos (by omega)]
    · rw [if_neg q, if_neg (by omega)]
def U16 : String := "java/lang/StringUTF16"
namespace Cmp5
def yN : MethodName := ⟨"java/lang/StringUTF16", "compress", "([CI[BII)I"⟩
abbrev yB : ByteArray := jdk_52_method_21_code
theorem d0 : decode yB 0 = .ok (.iconst 0, 1) := by decide +kernel
theorem d1 : decode yB 1 = .ok (.istore 5, 2) := by decide +kernel
theorem d3 : decode yB 3 = .ok (.iload 5, 2) := by decide +kernel
theorem d5 : decode yB 5 = .ok (.iload 4, 2) := by decide +kernel
theorem d7 : decode yB 7 = .ok (.if_icmp (.ge) 37, 3) := by decide +kernel
theorem d10 : decode yB 10 = .ok (.aload_n 0, 1) := by decide +kernel
theorem d11 : decode yB 11 = .ok (.iload_n 1, 1) := by decide +kernel
theorem d12 : decode yB 12 = .ok (.caload, 1) := by decide +kernel
theorem d13 : decode yB 13 = .ok (.istore 6, 2) := by decide +kernel
theorem d15 : decode yB 15 = .ok (.iload 6, 2) := by decide +kernel
theorem d17 : decode yB 17 = .ok (.sipush 255, 3) := by decide +kernel
theorem d20 : decode yB 20 = .ok (.if_icmp (.le) 6, 3) := by decide +kernel
theorem d26 : decode yB 26 = .ok (.aload_n 2, 1) := by decide +kernel
theorem d27 : decode yB 27 = .ok (.iload_n 3, 1) := by decide +kernel
theorem d28 : decode yB 28 = .ok (.iload 6, 2) := by decide +kernel
theorem d30 : decode yB 30 = .ok (.i2b, 1) := by decide +kernel
theorem d31 : decode yB 31 = .ok (.bastore, 1) := by decide +kernel
theorem d32 : decode yB 32 = .ok (.iinc 1 1, 3) := by decide +kernel
theorem d35 : decode yB 35 = .ok (.iinc 3 1, 3) := by decide +kernel
theorem d38 : decode yB 38 = .ok (.iinc 5 1, 3) := by decide +kernel
theorem d41 : decode yB 41 = .ok (.goto (-38), 3) := by decide +kernel
theorem d44 : decode yB 44 = .ok (.iload 4, 2) := by decide +kernel
theorem d46 : decode yB 46 = .ok (.ireturn, 1) := by decide +kernel
def site : List Cond := []
def tab : Cond := tabOf yN yB 7 (some .int) site
def P (b : Addr) (A : Cell) (d : Addr) (B : Cell) (o q len : Nat) (args : Array Value) (s : State) : Prop := args = #[.ref b, .int (Int32.ofNat o), .ref d, .int (Int32.ofNat q), .int (Int32.ofNat len)] ∧ Ch b A s ∧ Arr .byte d B s ∧ b ≠ d ∧ o + len ≤ A.slots.size ∧ q + len ≤ B.slots.size ∧ ∀ i, i < len → ¬ 255 < cv A (o + i)
def E (b : Addr) (A : Cell) (d : Addr) (B : Cell) (o q len : Nat) (r : Option Value) (s u : State) : Prop := r = some (.int (Int32.ofNat len)) ∧ ∃ B', Put d B' s u ∧ Laid B B' q (q + len) (fun j => Value.int (lo8 (cv A (o + (j - q)))))
/-- no char of the range above 255: len; the places written hold each char's low byte -/
theorem law (l : Launch) (b : Addr) (A : Cell) (d : Addr) (B : Cell) (o q len : Nat) : Law l yN 5 5 0 0 yB 7 (some .int) site (P b A d B o q len) (E b A d B o q len) (copyLocs d q len) 0 0 := by
  refine Law.of_walk (plainFor_of_name (by decide +kernel)) (by decide +kernel) (by decide +kernel) (by decide) (fun _ _ h => by rw [h.1]; rfl) (fun _ U U' hal hh h => ⟨h.1, h.2.1.mv hal hh, h.2.2.1.mv hal hh, h.2.2.2⟩) (fun r U U' V V' h1 hal h2 h => ⟨h.1, h.2.elim fun B' q => ⟨B', q.1.mv h1 h2, q.2⟩⟩) ?_
  intro p e s m args below meth c s₁ X0 hexec hbytes hml hret hlk hnm hown hh0 W hP
  obtain ⟨rfl, hA, hB, hne, l1, l2, hp⟩ := hP
  have c1 : Steps p.tables e below (s₁.setTop (entryFrame m #[.ref b, .int (Int32.ofNat o), .ref d, .int (Int32.ofNat q), .int (Int32.ofNat len)] 7)) (s₁.setTop (mkF m 0 #[.val (.ref b), .val (.int (Int32.ofNat o)), .val (.ref d), .val (.int (Int32.ofNat q)), .val (.int (Int32.ofNat len)), .unset, .unset] [])) := entry rfl
  have hA0 := hA.1.mv X0.warmed.alike hh0
  have hB0 := hB.mv X0.warmed.alike hh0
  have a31 := hA.1.2.2.2
  have c2 : Steps p.tables e below (s₁.setTop (entryFrame m #[.ref b, .int (Int32.ofNat o), .ref d, .int (Int32.ofNat q), .int (Int32.ofNat len)] 7)) (s₁.setTop (mkF m 3 #[.val (.ref b), .val (.int (Int32.ofNat o)), .val (.ref d), .val (.int (Int32.ofNat q)), .val (.int (Int32.ofNat len)), .val (.int 0), .unset] [])) := c1.trans (by
    refine iconstV X0.here hexec rfl 0 (hb hbytes d0) (by decide) ?_
    refine XS.istore X0.here hexec rfl (hb hbytes d1) rfl rfl ?_
    exact Steps.refl _)
  have loop : ∀ (r i : Nat), i + r = len → ∀ (z : Slot), (z = .unset ∨ ∃ w, z = .val w ∧ w.category = 1) → ∀ (Tl : State) (Bk : Cell), Stand p l e { frames := 0, locals := 0, cells := 0, slots := 0 } s m #[.ref b, .int (Int32.ofNat o), .ref d, .int (Int32.ofNat q), .int (Int32.ofNat len)] below meth c Tl ([] ++ copyLocs d q i) 0 0 → Put d Bk s₁ Tl → Laid B Bk q (q + i) (fun j => Value.int (lo8 (cv A (o + (j - q))))) →
      Steps p.tables e below (s₁.setTop (entryFrame m #[.ref b, .int (Int32.ofNat o), .ref d, .int (Int32.ofNat q), .int (Int32.ofNat len)] 7)) (Tl.setTop (mkF m 3 #[.val (.ref b), .val (.int (Int32.ofNat (o + i))), .val (.ref d), .val (.int (Int32.ofNat (q + i))), .val (.int (Int32.ofNat len)), .val (.int (Int32.ofNat i)), z] [])) → ∃ (T' : State) (B' : Cell) (z' : Slot), Stand p l e { frames := 0, locals := 0, cells := 0, slots := 0 } s m #[.ref b, .int (Int32.ofNat o), .ref d, .int (Int32.ofNat q), .int (Int32.ofNat len)] below meth c T' ([] ++ copyLocs d q len) 0 0 ∧ Put d B' s₁ T' ∧ Laid B B' q (q + len) (fun j => Value.int (lo8 (cv A (o + (j - q))))) ∧
      Steps p.tables e below (s₁.setTop (entryFrame m #[.ref b, .int (Int32.ofNat o), .ref d, .int (Int32.ofNat q), .int (Int32.ofNat len)] 7)) (T'.setTop (mkF m 3 #[.val (.ref b), .val (.int (Int32.ofNat (o + len))), .val (.ref d), .val (.int (Int32.ofNat (q + len))), .val (.int (Int32.ofNat len)), .val (.int (Int32.ofNat len)), z'] [])) := by
    intro r
    induction r with
    | zero =>
      intro i hi z hz Tl Bk Xl pl fl cl
      have hil : i = len := by omega
      rw [hil] at Xl fl cl
      exact ⟨Tl, Bk, z, Xl, pl, fl, cl⟩
    | succ r ih =>
      intro i hi z hz Tl Bk Xl pl fl cl
      have all := X0.warmed.alike.symm.trans Xl.warmed.alike
      have hAl := hA0.keep all (pl.other hne hA0.1)
      have hBk := hB0.like all pl.1 fl.1 fl.2.1 fl.2.2.1
      have hlt : q + i < Bk.slots.size := by rw [fl.2.2.1]; omega
      have c3 : Steps p.tables e below (s₁.setTop (entryFrame m #[.ref b, .int (Int32.ofNat o), .ref d, .int (Int32.ofNat q), .int (Int32.ofNat len)] 7)) (Tl.setTop (mkF m 12 #[.val (.ref b), .val (.int (Int32.ofNat (o + i))), .val (.ref d), .val (.int (Int32.ofNat (q + i))), .val (.int (Int32.ofNat len)), .val (.int (Int32.ofNat i)), z] [.int (Int32.ofNat (o + i)), .ref b])) := cl.trans (by
        refine XS.iload Xl.here hexec rfl (hb hbytes d3) rfl ?_
        refine XS.iload Xl.here hexec rfl (hb hbytes d5) rfl ?_
        refine XS.icmpNo Xl.here hexec rfl (hb hbytes d7) rfl (ii_ge_f (lt32 (by omega) (by omega))) ?_
        refine XS.aloadN Xl.here hexec rfl (hb hbytes d10) rfl rfl ?_
        refine XS.iloadN Xl.here hexec rfl (hb hbytes d11) rfl ?_
        exact Steps.refl _)
      have c4 : Steps p.tables e below (s₁.setTop (entryFrame m #[.ref b, .int (Int32.ofNat o), .ref d, .int (Int32.ofNat q), .int (Int32.ofNat len)] 7)) (Tl.setTop (mkF m 13 #[.val (.ref b), .val (.int (Int32.ofNat (o + i))), .val (.ref d), .val (.int (Int32.ofNat (q + i))), .val (.int (Int32.ofNat len)), .val (.int (Int32.ofNat i)), z] [.int (cv A (o + i))])) := c3.trans (by
        refine Xl.aget hexec hAl rfl (hA.get (i := o + i) (by omega)) rfl rfl (hb hbytes d12) ?_
        exact Steps.refl _)
      have c5 : Steps p.tables e below (s₁.setTop (entryFrame m #[.ref b, .int (Int32.ofNat o), .ref d, .int (Int32.ofNat q), .int (Int32.ofNat len)] 7)) (Tl.setTop (mkF m 15 #[.val (.ref b), .val (.int (Int32.ofNat (o + i))), .val (.ref d), .val (.int (Int32.ofNat (q + i))), .val (.int (Int32.ofNat len)), .val (.int (Int32.ofNat i)), .val (.int (cv A (o + i)))] [])) := c4.trans (by
        refine XS.istoreS Xl.here hexec rfl (hb hbytes d13) rfl rfl hz ?_
        exact Steps.refl _)
      have c6 : Steps p.tables e below (s₁.setTop (entryFrame m #[.ref b, .int (Int32.ofNat o), .ref d, .int (Int32.ofNat q), .int (Int32.ofNat len)] 7)) (Tl.setTop (mkF m 31 #[.val (.ref b), .val (.int (Int32.ofNat (o + i))), .val (.ref d), .val (.int (Int32.ofNat (q + i))), .val (.int (Int32.ofNat len)), .val (.int (Int32.ofNat i)), .val (.int (cv A (o + i)))] [.int (lo8 (cv A (o + i))), .int (Int32.ofNat (q + i)), .ref d])) := c5.trans (by
        refine XS.iload Xl.here hexec rfl (hb hbytes d15) rfl ?_
        refine sipushV Xl.here hexec rfl 255 (hb hbytes d17) (by decide) ?_
        refine XS.icmpYes Xl.here hexec rfl (pc0 := 20) rfl (hb hbytes d20) rfl (ii_le_t (hp i (by omega))) (by decide) rfl ?_
        refine XS.aloadN Xl.here hexec rfl (hb hbytes d26) rfl rfl ?_
        refine XS.iloadN Xl.here hexec rfl (hb hbytes d27) rfl ?_
        refine XS.iload Xl.here hexec rfl (hb hbytes d28) rfl ?_
        refine i2b Xl.here hexec rfl (hb hbytes d30) rfl ?_
        exact Steps.refl _)
      obtain ⟨T7, X7, p7, st7⟩ := Xl.aput hexec hBk rfl hlt rfl (fits_lo8 (cv A (o + i))) (g := (mkF m 31 #[.val (.ref b), .val (.int (Int32.ofNat (o + i))), .val (.ref d), .val (.int (Int32.ofNat (q + i))), .val (.int (Int32.ofNat len)), .val (.int (Int32.ofNat i)), .val (.int (cv A (o + i)))] [.int (lo8 (cv A (o + i))), .int (Int32.ofNat (q + i)), .ref d])) rfl (rest := []) rfl (hb hbytes d31)
      have c8 : Steps p.tables e below (s₁.setTop (entryFrame m #[.ref b, .int (Int32.ofNat o), .ref d, .int (Int32.ofNat q), .int (Int32.ofNat len)] 7)) (T7.setTop (mkF m 32 #[.val (.ref b), .val (.int (Int32.ofNat (o + i))), .val (.ref d), .val (.int (Int32.ofNat (q + i))), .val (.int (Int32.ofNat len)), .val (.int (Int32.ofNat i)), .val (.int (cv A (o + i)))] [])) := c6.trans (st7 _ (Steps.refl _))
      have c9 : Steps p.tables e below (s₁.setTop (entryFrame m #[.ref b, .int (Int32.ofNat o), .ref d, .int (Int32.ofNat q), .int (Int32.ofNat len)] 7)) (T7.setTop (mkF m 3 #[.val (.ref b), .val (.int (Int32.ofNat (o + i) + 1)), .val (.ref d), .val (.int (Int32.ofNat (q + i) + 1)), .val (.int (Int32.ofNat len)), .val (.int (Int32.ofNat i + 1)), .val (.int (cv A (o + i)))] [])) := c8.trans (by
        refine iincV X7.here hexec rfl 1 (hb hbytes d32) (by decide) rfl rfl ?_
        refine iincV X7.here hexec rfl 1 (hb hbytes d35) (by decide) rfl rfl ?_
        refine iincV X7.here hexec rfl 1 (hb hbytes d38) (by decide) rfl rfl ?_
        refine XS.goto X7.here hexec rfl (pc0 := 41) rfl (hb hbytes d41) (by decide) rfl ?_
        exact Steps.refl _)
      have c10 : Steps p.tables e below (s₁.setTop (entryFrame m #[.ref b, .int (Int32.ofNat o), .ref d, .int (Int32.ofNat q), .int (Int32.ofNat len)] 7)) (T7.setTop (mkF m 3 #[.val (.ref b), .val (.int (Int32.ofNat (o + (i + 1)))), .val (.ref d), .val (.int (Int32.ofNat (q + (i + 1)))), .val (.int (Int32.ofNat len)), .val (.int (Int32.ofNat (i + 1))), .val (.int (cv A (o + i)))] [])) := by
        have := c9
        rw [succ32, succ32, succ32] at this
        exact this
      exact ih (i + 1) (by omega) _ (Or.inr ⟨_, rfl, rfl⟩) T7 _ (by rw [copyLocs_step, ← List.append_assoc]; exact X7) (pl.trans p7) (fl.step (by omega) hlt (by simp)) c10
  obtain ⟨T9, B9, z9, X9, p9, f9, g9⟩ := loop len 0 (by omega) .unset (Or.inl rfl) s₁ B (by simpa [copyLocs] using X0) ⟨hB0.1, fun _ _ => rfl, rfl⟩ (Laid.zero _ _ _) c2
  have c11 : Steps p.tables e below (s₁.setTop (entryFrame m #[.ref b, .int (Int32.ofNat o), .ref d, .int (Int32.ofNat q), .int (Int32.ofNat len)] 7)) (T9.setTop (mkF m 46 #[.val (.ref b), .val (.int (Int32.ofNat (o + len))), .val (.ref d), .val (.int (Int32.ofNat (q + len))), .val (.int (Int32.ofNat len)), .val (.int (Int32.ofNat len)), z9] [.int (Int32.ofNat len)])) := g9.trans (by
    refine XS.iload X9.here hexec rfl (hb hbytes d3) rfl ?_
    refine XS.iload X9.here hexec rfl (hb hbytes d5) rfl ?_
    refine XS.icmpYes X9.here hexec rfl (pc0 := 7) rfl (hb hbytes d7) rfl (ii_ge_t (nlt32 (by omega) (Nat.le_refl _))) (by decide) rfl ?_
    refine XS.iload X9.here hexec rfl (hb hbytes d44) rfl ?_
    exact Steps.refl _)
  exact ⟨T9, some (.int (Int32.ofNat len)), _, _, _, X9, by simp, rfl, rfl, (fun h => by cases h), ⟨rfl, B9, p9.from hh0, f9⟩, fun fs hl => c11.trans (X9.ireturnOut hexec hret rfl (Or.inl rfl) (hb hbytes d46) hl)⟩
end Cmp5
namespace Cmp3
def yN : MethodName := ⟨"java/lang/StringUTF16", "compress", "([CII)[B"⟩
abbrev yB : ByteArray := jdk_52_method_16_code
theorem d0 : decode yB 0 = .ok (.iload_n 2, 1) := by decide +kernel
theorem d1 : decode yB 1 = .ok (.newarray .byte, 2) := by decide +kernel
theorem d3 : decode yB 3 = .ok (.astore_n 3, 1) := by decide +kernel
theorem d4 : decode yB 4 = .ok (.aload_n 0, 1) := by decide +kernel
theorem d5 : decode yB 5 = .ok (.iload_n 1, 1) := by decide +kernel
theorem d6 : decode yB 6 = .ok (.aload_n 3, 1) := by decide +kernel
theorem d7 : decode yB 7 = .ok (.iconst 0, 1) := by decide +kernel
theorem d8 : decode yB 8 = .ok (.iload_n 2, 1) := by decide +kernel
theorem d9 : decode yB 9 = .ok (.invokestatic 115, 3) := by decide +kernel
theorem d12 : decode yB 12 = .ok (.istore 4, 2) := by decide +kernel
theorem d14 : decode yB 14 = .ok (.iload 4, 2) := by decide +kernel
theorem d16 : decode yB 16 = .ok (.iload_n 2, 1) := by decide +kernel
theorem d17 : decode yB 17 = .ok (.if_icmp (.eq) 40, 3) := by decide +kernel
theorem d57 : decode yB 57 = .ok (.aload_n 3, 1) := by decide +kernel
theorem d58 : decode yB 58 = .ok (.areturn, 1) := by decide +kernel
def site : List Cond := [.arrayClass .byte, Cmp5.tab] ++ staticW U16 115 Cmp5.yN
def tab : Cond := tabOf yN yB 6 (some (.array .byte)) site
def P (b : Addr) (A : Cell) (o len : Nat) (args : Array Value) (s : State) : Prop := args = #[.ref b, .int (Int32.ofNat o), .int (Int32.ofNat len)] ∧ Ch b A s ∧ o + len ≤ A.slots.size ∧ len ≤ 536870912 ∧ ∀ i, i < len → ¬ 255 < cv A (o + i)
def E (b : Addr) (A : Cell) (o len : Nat) (r : Option Value) (s u : State) : Prop := NewArr .byte "[B" len (fun j => .int (lo8 (cv A (o + j)))) r s u ∧ u.heap.size = s.heap.size + 1
/-- no char of the range above 255: a new byte[] of their low bytes -/
theorem law (l : Launch) (b : Addr) (A : Cell) (o len : Nat) : Law l yN 3 3 1 18 yB 6 (some (.array .byte)) site (P b A o len) (E b A o len) [] 1 len := by
  refine Law.of_walk (plainFor_of_name (by decide +kernel)) (by decide +kernel) (by decide +kernel) (by decide) (fun _ _ h => by rw [h.1]; rfl) (fun _ U U' hal hh h => ⟨h.1, h.2.1.mv hal hh, h.2.2⟩) (fun r U U' V V' h1 hal h2 h => ⟨NewArr.mv r U U' V V' h1 hal h2 h.1, by rw [h1, h2]; exact h.2⟩) ?_
  intro p e s m args below meth c s₁ X0 hexec hbytes hml hret hlk hnm hown hh0 W hP
  obtain ⟨rfl, hA, l1, l2, hp⟩ := hP
  have a31 := hA.1.2.2.2
  have c1 : Steps p.tables e below (s₁.setTop (entryFrame m #[.ref b, .int (Int32.ofNat o), .int (Int32.ofNat len)] 6)) (s₁.setTop (mkF m 0 #[.val (.ref b), .val (.int (Int32.ofNat o)), .val (.int (Int32.ofNat len)), .unset, .unset, .unset] [])) := entry rfl
  have c2 : Steps p.tables e below (s₁.setTop (entryFrame m #[.ref b, .int (Int32.ofNat o), .int (Int32.ofNat len)] 6)) (s₁.setTop (mkF m 1 #[.val (.ref b), .val (.int (Int32.ofNat o)), .val (.int (Int32.ofNat len)), .unset, .unset, .unset] [.int (Int32.ofNat len)])) := c1.trans (by
    refine XS.iloadN X0.here hexec rfl (hb hbytes d0) rfl ?_
    exact Steps.refl _)
  obtain ⟨T3, B3, X3, ba3, bs3, bv3, bh3, bf3, st3⟩ := X0.anew hexec (atype := .byte) (wk W (.arrayClass .byte)) rfl (by show len * 1 ≤ _; omega) (by omega) (g := (mkF m 1 #[.val (.ref b), .val (.int (Int32.ofNat o)), .val (.int (Int32.ofNat len)), .unset, .unset, .unset] [.int (Int32.ofNat len)])) rfl (hb hbytes d1) (rest := []) rfl (Nat.le_refl _) (by show 0 + len ≤ len; omega)
  rw [hh0] at ba3 st3
  have kp3 : XT.Kept s T3 := (XT.Kept.of_eq hh0).push bh3
  have hA3 := hA.keep X3.warmed.alike (kp3 _ _ hA.1.1)
  have hne : b ≠ s.heap.size := hA.1.ne
  have c4 : Steps p.tables e below (s₁.setTop (entryFrame m #[.ref b, .int (Int32.ofNat o), .int (Int32.ofNat len)] 6)) (T3.setTop (mkF m 3 #[.val (.ref b), .val (.int (Int32.ofNat o)), .val (.int (Int32.ofNat len)), .unset, .unset, .unset] [.ref s.heap.size])) := c2.trans (st3 _ (Steps.refl _))
  have c5 : Steps p.tables e below (s₁.setTop (entryFrame m #[.ref b, .int (Int32.ofNat o), .int (Int32.ofNat len)] 6)) (T3.setTop (mkF m 9 #[.val (.ref b), .val (.int (Int32.ofNat o)), .val (.int (Int32.ofNat len)), .val (.ref s.heap.size), .unset, .unset] [.int (Int32.ofNat len), .int 0, .ref s.heap.size, .int (Int32.ofNat o), .ref b])) := c4.trans (by
    refine XS.astoreN X3.here hexec rfl (hb hbytes d3) rfl rfl rfl ?_
    refine XS.aloadN X3.here hexec rfl (hb hbytes d4) rfl rfl ?_
    refine XS.iloadN X3.here hexec rfl (hb hbytes d5) rfl ?_
    refine XS.aloadN X3.here hexec rfl (hb hbytes d6) rfl rfl ?_
    refine iconstV X3.here hexec rfl 0 (hb hbytes d7) (by decide) ?_
    refine XS.iloadN X3.here hexec rfl (hb hbytes d8) rfl ?_
    exact Steps.refl _)
  obtain ⟨v6, T6, X6, E6, g6⟩ := X3.callS hexec (Cmp5.law l b A s.heap.size B3 o 0 len) hown (wks W (staticW U16 115 Cmp5.yN)) (wk W Cmp5.tab) (W := 0) (Nat.le_of_ble_eq_true rfl) (Nat.le_of_ble_eq_true rfl) (Nat.le_refl _) (by show 0 + len + 0 ≤ len; omega) (g := (mkF m 9 #[.val (.ref b), .val (.int (Int32.ofNat o)), .val (.int (Int32.ofNat len)), .val (.ref s.heap.size), .unset, .unset] [.int (Int32.ofNat len), .int (Int32.ofNat 0), .ref s.heap.size, .int (Int32.ofNat o), .ref b])) rfl (by rw [hml]; rfl) c5 (argsL := [.ref b, .int (Int32.ofNat o), .ref s.heap.size, .int (Int32.ofNat 0), .int (Int32.ofNat len)]) (rest := []) rfl rfl (by show 2 * 0 + 0 ≤ _; decide) (hb hbytes d9) (⟨rfl, hA3, ba3, hne, l1, by rw [bs3]; simp, hp⟩)
  obtain ⟨rfl, B6, p6, f6⟩ := E6
  have c7 : Steps p.tables e below (s₁.setTop (entryFrame m #[.ref b, .int (Int32.ofNat o), .int (Int32.ofNat len)] 6)) (T6.setTop (mkF m 12 #[.val (.ref b), .val (.int (Int32.ofNat o)), .val (.int (Int32.ofNat len)), .val (.ref s.heap.size), .unset, .unset] [.int (Int32.ofNat len)])) := g6
  have c8 : Steps p.tables e below (s₁.setTop (entryFrame m #[.ref b, .int (Int32.ofNat o), .int (Int32.ofNat len)] 6)) (T6.setTop (mkF m 58 #[.val (.ref b), .val (.int (Int32.ofNat o)), .val (.int (Int32.ofNat len)), .val (.ref s.heap.size), .val (.int (Int32.ofNat len)), .unset] [.ref s.heap.size])) := c7.trans (by
    refine XS.istore X6.here hexec rfl (hb hbytes d12) rfl rfl ?_
    refine XS.iload X6.here hexec rfl (hb hbytes d14) rfl ?_
    refine XS.iloadN X6.here hexec rfl (hb hbytes d16) rfl ?_
    refine XS.icmpYes X6.here hexec rfl (pc0 := 17) rfl (hb hbytes d17) rfl (ii_eq_t rfl) (by decide) rfl ?_
    refine XS.aloadN X6.here hexec rfl (hb hbytes d57) rfl rfl ?_
    exact Steps.refl _)
  have X8 := X6.wide (L' := []) (cells' := 1) (slots' := len) (fun x hx hlt => by
    simp only [List.nil_append, copyLocs, List.mem_map, List.mem_range] at hx
    obtain ⟨i, -, rfl⟩ := hx
    exact absurd hlt (Nat.lt_irrefl _)) (Nat.le_refl _) (by omega)
  exact ⟨T6, some (.ref s.heap.size), _, _, _, X8, rfl, rfl, rfl, (fun h => by cases h), ⟨⟨rfl, B6, ba3.like (X3.warmed.alike.symm.trans X6.warmed.alike) p6.1 f6.1 f6.2.1 f6.2.2.1, f6.2.1.trans bv3, by rw [X6.warmed.alike.findClass, f6.1]; exact bf3, by rw [f6.2.2.1, bs3]; simp, fun j hj => by rw [f6.2.2.2 j, if_pos (by omega)]; rfl, kp3.put p6 (Nat.le_refl _)⟩, by rw [p6.2.2, bh3, hh0]; simp⟩, fun fs hl => c8.trans (X8.areturnOut hexec rfl hret rfl (hb hbytes d58) hl)⟩
end Cmp3
namespace CodL
def yN : MethodName := ⟨"java/lang/StringUTF16", "coderFromArrayLen", "([BI)B"⟩
abbrev yB : ByteArray := jdk_52_method_15_code
theorem d0 : decode yB 0 = .ok (.iload_n 1, 1) := by decide +kernel
theorem d1 : decode yB 1 = .ok (.aload_n 0, 1) := by decide +kernel
theorem d2 : decode yB 2 = .ok (.arraylength, 1) := by decide +kernel
theorem d3 : decode yB 3 = .ok (.isub, 1) := by decide +kernel
theorem d4 : decode yB 4 = .ok (.bipush 31, 2) := by decide +kernel
theorem d6 : decode yB 6 = .ok (.iushr, 1) := by decide +kernel
theorem d7 : decode yB 7 = .ok (.i2b, 1) := by decide +kernel
theorem d8 : decode yB 8 = .ok (.ireturn, 1) := by decide +kernel
def site : List Cond := []
def tab : Cond := tabOf yN yB 2 (some .byte) site
def P (d : Addr) (B : Cell) (args : Array Value) (s : State) : Prop := args = #[.ref d, .int (Int32.ofNat B.slots.size)] ∧ Arr .byte d B s
def E (r : Option Value) (s u : State) : Prop := XT.PureE (some (.int 0)) r s u
/-- an array as long as the number of chars: LATIN1 -/
theorem law (l : Launch) (d : Addr) (B : Cell) : Law l yN 2 2 0 0 yB 2 (some .byte) site (P d B) E [] 0 0 := by
  refine Law.of_walk (plainFor_of_name (by decide +kernel)) (by decide +kernel) (by decide +kernel) (by decide) (fun _ _ h => by rw [h.1]; rfl) (fun _ U U' hal hh h => ⟨h.1, h.2.mv hal hh⟩) (fun r U U' V V' h1 hal h2 h => XT.PureE.mv r U U' V V' h1 hal h2 h) ?_
  intro p e s m args below meth c s₁ X0 hexec hbytes hml hret hlk hnm hown hh0 W hP
  obtain ⟨rfl, hB⟩ := hP
  have hB0 := hB.mv X0.warmed.alike hh0
  have c1 : Steps p.tables e below (s₁.setTop (entryFrame m #[.ref d, .int (Int32.ofNat B.slots.size)] 2)) (s₁.setTop (mkF m 0 #[.val (.ref d), .val (.int (Int32.ofNat B.slots.size))] [])) := entry rfl
  have c2 : Steps p.tables e below (s₁.setTop (entryFrame m #[.ref d, .int (Int32.ofNat B.slots.size)] 2)) (s₁.setTop (mkF m 2 #[.val (.ref d), .val (.int (Int32.ofNat B.slots.size))] [.ref d, .int (Int32.ofNat B.slots.size)])) := c1.trans (by
    refine XS.iloadN X0.here hexec rfl (hb hbytes d0) rfl ?_
    refine XS.aloadN X0.here hexec rfl (hb hbytes d1) rfl rfl ?_
    exact Steps.refl _)
  have c3 : Steps p.tables e below (s₁.setTop (entryFrame m #[.ref d, .int (Int32.ofNat B.slots.size)] 2)) (s₁.setTop (mkF m 8 #[.val (.ref d), .val (.int (Int32.ofNat B.slots.size))] [.int (lo8 (ushr (Int32.ofNat B.slots.size - Int32.ofNat B.slots.size) 31))])) := c2.trans (by
    refine X0.alen hexec hB0 rfl rfl (hb hbytes d2) ?_
    refine XS.isub X0.here hexec rfl (hb hbytes d3) rfl ?_
    refine bipushV X0.here hexec rfl 31 (hb hbytes d4) (by decide) ?_
    refine iushr X0.here hexec rfl (hb hbytes d6) rfl ?_
    refine i2b X0.here hexec rfl (hb hbytes d7) rfl ?_
    exact Steps.refl _)
  have e0 : lo8 (ushr (Int32.ofNat B.slots.size - Int32.ofNat B.slots.size) 31) = 0 := by rw [Int32.sub_self]; decide
  rw [e0] at c3
  exact ⟨s₁, some (.int 0), _, _, _, X0, rfl, rfl, rfl, (fun h => by cases h), ⟨rfl, hh0⟩, fun fs hl => c3.trans (X0.ireturnOut hexec hret rfl (Or.inr (Or.inr (Or.inl rfl))) (hb hbytes d8) hl)⟩
end CodL
/-- the String at a is Latin-1 over a new byte[] (the heap's one new cell): the low bytes of the len chars of A from o on; every cell but a is kept -/
def Got (a : Addr) (D : Cell) (fV fC : Field) (A : Cell) (o len : Nat) (r : Option Value) (s u : State) : Prop := r = none ∧ ∃ D' V : Cell, Blank "java/lang/String" a D' u ∧ Same D D' [fV.slot, fC.slot] ∧ D'.slots[fV.slot]? = some (.ref s.heap.size) ∧ D'.slots[fC.slot]? = some (.int 0) ∧ Arr .byte s.heap.size V u ∧ V.vm = .none ∧ u.vm.findClass "[B" = some V.cls ∧ V.slots.size = len ∧ (∀ j, j < len → V.slots[j]? = some (.int (lo8 (cv A (o + j))))) ∧ (∀ (y : Addr) (c : Cell), y ≠ a → s.heap[y]? = some c → u.heap[y]? = some c) ∧ u.heap.size = s.heap.size + 1
theorem Got.mv {a : Addr} {D A : Cell} {fV fC : Field} {o len : Nat} : ∀ r (U U' V V' : State), U'.heap = U.heap → V.vm.Alike V'.vm → V'.heap = V.heap → Got a D fV fC A o len r U V → Got a D fV fC A o len r U' V' :=
  fun r U U' V V' h1 hal h2 ⟨e0, D', X, a1, a2, a3, a4, a5, a6, a7, a8, a9, a10, a11⟩ => ⟨e0, D', X, a1.mv hal h2, a2, by rw [h1]; exact a3, a4, by rw [h1]; exact a5.mv hal h2, a6, by rw [hal.findClass]; exact a7, a8, a9, by rw [h1, h2]; exact a10, by rw [h1, h2]; exact a11⟩
namespace New4
def yN : MethodName := ⟨"java/lang/String", "<init>", "([CIILjava/lang/Void;)V"⟩
abbrev yB : ByteArray := jdk_42_method_149_code
theorem d0 : decode yB 0 = .ok (.aload_n 0, 1) := by decide +kernel
theorem d1 : decode yB 1 = .ok (.invokespecial 1, 3) := by decide +kernel
theorem d4 : decode yB 4 = .ok (.iload_n 3, 1) := by decide +kernel
theorem d5 : decode yB 5 = .ok (.ifCond (.ne) 22, 3) := by decide +kernel
theorem d27 : decode yB 27 = .ok (.getstatic 38, 3) := by decide +kernel
theorem d30 : decode yB 30 = .ok (.ifCond (.eq) 28, 3) := by decide +kernel
theorem d33 : decode yB 33 = .ok (.aload_n 1, 1) := by decide +kernel
theorem d34 : decode yB 34 = .ok (.iload_n 2, 1) := by decide +kernel
theorem d35 : decode yB 35 = .ok (.iload_n 3, 1) := by decide +kernel
theorem d36 : decode yB 36 = .ok (.invokestatic 177, 3) := by decide +kernel
theorem d39 : decode yB 39 = .ok (.astore 5, 2) := by decide +kernel
theorem d41 : decode yB 41 = .ok (.aload_n 0, 1) := by decide +kernel
theorem d42 : decode yB 42 = .ok (.aload 5, 2) := by decide +kernel
theorem d44 : decode yB 44 = .ok (.iload_n 3, 1) := by decide +kernel
theorem d45 : decode yB 45 = .ok (.invokestatic 47, 3) := by decide +kernel
theorem d48 : decode yB 48 = .ok (.putfield 15, 3) := by decide +kernel
theorem d51 : decode yB 51 = .ok (.aload_n 0, 1) := by decide +kernel
theorem d52 : decode yB 52 = .ok (.aload 5, 2) := by decide +kernel
theorem d54 : decode yB 54 = .ok (.putfield 9, 3) := by decide +kernel
theorem d57 : decode yB 57 = .ok (.return_, 1) := by decide +kernel
def site : List Cond := [.fieldLink "java/lang/String" 38 "java/lang/String" "COMPACT_STRINGS" "Z", Cmp3.tab, CodL.tab, .laysFinal "java/lang/String" "java/lang/String" "value" "[B", .fieldLink "java/lang/String" 9 "java/lang/String" "value" "[B", .laysFinal "java/lang/String" "java/lang/String" "coder" "B", .fieldLink "java/lang/String" 15 "java/lang/String" "coder" "B"] ++ objW "java/lang/String" 1 ++ staticW "java/lang/String" 177 Cmp3.yN ++ staticW "java/lang/String" 47 CodL.yN
def tab : Cond := tabOf yN yB 6 none site
def P (a : Addr) (D : Cell) (fV fC : Field) (b : Addr) (A : Cell) (z : Int32) (o len : Nat) (args : Array Value) (s : State) : Prop := args = #[.ref a, .ref b, .int (Int32.ofNat o), .int (Int32.ofNat len), .null] ∧ Blank "java/lang/String" a D s ∧ Found "java/lang/String" "value" "[B" fV s ∧ Found "java/lang/String" "coder" "B" fC s ∧ Ch b A s ∧ StaticIs s "java/lang/String" "COMPACT_STRINGS" "Z" (.int z) ∧ ¬ z = 0 ∧ 0 < len ∧ o + len ≤ A.slots.size ∧ len ≤ 536870912 ∧ ∀ i, i < len → ¬ 255 < cv A (o + i)
def E (a : Addr) (D : Cell) (fV fC : Field) (A : Cell) (o len : Nat) (r : Option Value) (s u : State) : Prop := Got a D fV fC A o len r s u
/-- len > 0, no char of the range above 255: a Latin-1 String of their low bytes -/
theorem law (l : Launch) (a : Addr) (D : Cell) (fV fC : Field) (b : Addr) (A : Cell) (z : Int32) (o len : Nat) : Law l yN 5 4 2 35 yB 6 none site (P a D fV fC b A z o len) (E a D fV fC A o len) [⟨a, fC.slot⟩, ⟨a, fV.slot⟩] 1 len := by
  refine Law.of_walk (plainFor_of_name (by decide +kernel)) (by decide +kernel) (by decide +kernel) (by decide) (fun _ _ h => by rw [h.1]; rfl) (fun _ U U' hal hh h => ⟨h.1, h.2.1.mv hal hh, h.2.2.1.al hal, h.2.2.2.1.al hal, h.2.2.2.2.1.mv hal hh, h.2.2.2.2.2.1.there hal hh, h.2.2.2.2.2.2⟩) (fun r U U' V V' h1 hal h2 h => Got.mv r U U' V V' h1 hal h2 h) ?_
  intro p e s m args below meth c s₁ X0 hexec hbytes hml hret hlk hnm hown hh0 W hP
  obtain ⟨rfl, hB, f1, f2, hA, s1, hz, l0, l1, l2, hp⟩ := hP
  have a31 := hA.1.2.2.2
  have c1 : Steps p.tables e below (s₁.setTop (entryFrame m #[.ref a, .ref b, .int (Int32.ofNat o), .int (Int32.ofNat len), .null] 6)) (s₁.setTop (mkF m 0 #[.val (.ref a), .val (.ref b), .val (.int (Int32.ofNat o)), .val (.int (Int32.ofNat len)), .val .null, .unset] [])) := entry rfl
  have c2 : Steps p.tables e below (s₁.setTop (entryFrame m #[.ref a, .ref b, .int (Int32.ofNat o), .int (Int32.ofNat len), .null] 6)) (s₁.setTop (mkF m 1 #[.val (.ref a), .val (.ref b), .val (.int (Int32.ofNat o)), .val (.int (Int32.ofNat len)), .val .null, .unset] [.ref a])) := c1.trans (by
    refine XS.aloadN X0.here hexec rfl (hb hbytes d0) rfl rfl ?_
    exact Steps.refl _)
  obtain ⟨T3, X3, q3, st3⟩ := X0.oinit hexec hown (wks W (objW "java/lang/String" 1)) (g := (mkF m 1 #[.val (.ref a), .val (.ref b), .val (.int (Int32.ofNat o)), .val (.int (Int32.ofNat len)), .val .null, .unset] [.ref a])) rfl (by rw [hml]; rfl) (rest := []) rfl (hb hbytes d1) (W := 0) (by show 2 * 0 + 0 ≤ _; decide) (Nat.le_of_ble_eq_true rfl) (Nat.le_of_ble_eq_true rfl)
  have hh3 := q3.trans hh0
  have c4 : Steps p.tables e below (s₁.setTop (entryFrame m #[.ref a, .ref b, .int (Int32.ofNat o), .int (Int32.ofNat len), .null] 6)) (T3.setTop (mkF m 27 #[.val (.ref a), .val (.ref b), .val (.int (Int32.ofNat o)), .val (.int (Int32.ofNat len)), .val .null, .unset] [])) := (c2.trans (st3 _ (Steps.refl _))).trans (by
    refine XS.iloadN X3.here hexec rfl (hb hbytes d4) rfl ?_
    refine XS.ifYes X3.here hexec rfl (pc0 := 5) rfl (hb hbytes d5) rfl (i0_ne_t (nz32 (by omega) l0)) (by decide) rfl ?_
    exact Steps.refl _)
  obtain ⟨T5, X5, q5, st5⟩ := X3.sget hexec hown (wk W (.fieldLink "java/lang/String" 38 "java/lang/String" "COMPACT_STRINGS" "Z")) s1 (fun _ _ h => by rw [hh3]; exact h) (g := (mkF m 27 #[.val (.ref a), .val (.ref b), .val (.int (Int32.ofNat o)), .val (.int (Int32.ofNat len)), .val .null, .unset] [])) rfl (hb hbytes d27)
  have hh5 := q5.trans hh3
  have c6 : Steps p.tables e below (s₁.setTop (entryFrame m #[.ref a, .ref b, .int (Int32.ofNat o), .int (Int32.ofNat len), .null] 6)) (T5.setTop (mkF m 30 #[.val (.ref a), .val (.ref b), .val (.int (Int32.ofNat o)), .val (.int (Int32.ofNat len)), .val .null, .unset] [.int z])) := c4.trans (st5 _ (Steps.refl _))
  have c7 : Steps p.tables e below (s₁.setTop (entryFrame m #[.ref a, .ref b, .int (Int32.ofNat o), .int (Int32.ofNat len), .null] 6)) (T5.setTop (mkF m 36 #[.val (.ref a), .val (.ref b), .val (.int (Int32.ofNat o)), .val (.int (Int32.ofNat len)), .val .null, .unset] [.int (Int32.ofNat len), .int (Int32.ofNat o), .ref b])) := c6.trans (by
    refine XS.ifNo X5.here hexec rfl (hb hbytes d30) rfl (i0_eq_f hz) ?_
    refine XS.aloadN X5.here hexec rfl (hb hbytes d33) rfl rfl ?_
    refine XS.iloadN X5.here hexec rfl (hb hbytes d34) rfl ?_
    refine XS.iloadN X5.here hexec rfl (hb hbytes d35) rfl ?_
    exact Steps.refl _)
  obtain ⟨v8, T8, X8, E8, g8⟩ := X5.callS hexec (Cmp3.law l b A o len) hown (wks W (staticW "java/lang/String" 177 Cmp3.yN)) (wk W Cmp3.tab) (W := 0) (Nat.le_of_ble_eq_true rfl) (Nat.le_of_ble_eq_true rfl) (Nat.le_refl _) (by show 0 + len ≤ len; omega) (g := (mkF m 36 #[.val (.ref a), .val (.ref b), .val (.int (Int32.ofNat o)), .val (.int (Int32.ofNat len)), .val .null, .unset] [.int (Int32.ofNat len), .int (Int32.ofNat o), .ref b])) rfl (by rw [hml]; rfl) c7 (argsL := [.ref b, .int (Int32.ofNat o), .int (Int32.ofNat len)]) (rest := []) rfl rfl (by show 2 * 0 + 0 ≤ _; decide) (hb hbytes d36) (⟨rfl, hA.mv X5.warmed.alike hh5, l1, l2, hp⟩)
  obtain ⟨e8, z8⟩ := E8
  obtain ⟨rfl, N, n1, n2, n3, n4, n5, n6⟩ := NewArr.mv _ T5 s _ _ hh5.symm (Vm.Alike.refl _) rfl e8
  rw [hh5] at z8
  have hB1 := hB.keep X8.warmed.alike (n6 _ _ hB.1)
  have hne : s.heap.size ≠ a := (Nat.ne_of_lt (Array.getElem?_eq_some_iff.mp hB.1).1).symm
  have c9 : Steps p.tables e below (s₁.setTop (entryFrame m #[.ref a, .ref b, .int (Int32.ofNat o), .int (Int32.ofNat len), .null] 6)) (T8.setTop (mkF m 39 #[.val (.ref a), .val (.ref b), .val (.int (Int32.ofNat o)), .val (.int (Int32.ofNat len)), .val .null, .unset] [.ref s.heap.size])) := g8
  have c10 : Steps p.tables e below (s₁.setTop (entryFrame m #[.ref a, .ref b, .int (Int32.ofNat o), .int (Int32.ofNat len), .null] 6)) (T8.setTop (mkF m 45 #[.val (.ref a), .val (.ref b), .val (.int (Int32.ofNat o)), .val (.int (Int32.ofNat len)), .val .null, .val (.ref s.heap.size)] [.int (Int32.ofNat N.slots.size), .ref s.heap.size, .ref a])) := by
    have hc : Steps p.tables e below (s₁.setTop (entryFrame m #[.ref a, .ref b, .int (Int32.ofNat o), .int (Int32.ofNat len), .null] 6)) (T8.setTop (mkF m 45 #[.val (.ref a), .val (.ref b), .val (.int (Int32.ofNat o)), .val (.int (Int32.ofNat len)), .val .null, .val (.ref s.heap.size)] [.int (Int32.ofNat len), .ref s.heap.size, .ref a])) := c9.trans (by
      refine XS.astore X8.here hexec rfl (hb hbytes d39) rfl rfl rfl ?_
      refine XS.aloadN X8.here hexec rfl (hb hbytes d41) rfl rfl ?_
      refine XS.aload X8.here hexec rfl (hb hbytes d42) rfl rfl ?_
      refine XS.iloadN X8.here hexec rfl (hb hbytes d44) rfl ?_
      exact Steps.refl _)
    rw [n4]; exact hc
  obtain ⟨v11, T11, X11, E11, g11⟩ := X8.callS hexec (CodL.law l s.heap.size N) hown (wks W (staticW "java/lang/String" 47 CodL.yN)) (wk W CodL.tab) (W := 1) (Nat.le_of_ble_eq_true rfl) (Nat.le_of_ble_eq_true rfl) (Nat.le_refl _) (by show 0 + len + 0 ≤ len; omega) (g := (mkF m 45 #[.val (.ref a), .val (.ref b), .val (.int (Int32.ofNat o)), .val (.int (Int32.ofNat len)), .val .null, .val (.ref s.heap.size)] [.int (Int32.ofNat N.slots.size), .ref s.heap.size, .ref a])) rfl (by rw [hml]; rfl) c10 (argsL := [.ref s.heap.size, .int (Int32.ofNat N.slots.size)]) (rest := [.ref a]) rfl rfl (by show 2 * 0 + (1 + 0) ≤ _; decide) (hb hbytes d45) (⟨rfl, n1⟩)
  obtain ⟨rfl, q11⟩ := E11
  have hB11 := hB1.mv (X8.warmed.alike.symm.trans X11.warmed.alike) q11
  have c12 : Steps p.tables e below (s₁.setTop (entryFrame m #[.ref a, .ref b, .int (Int32.ofNat o), .int (Int32.ofNat len), .null] 6)) (T11.setTop (mkF m 48 #[.val (.ref a), .val (.ref b), .val (.int (Int32.ofNat o)), .val (.int (Int32.ofNat len)), .val .null, .val (.ref s.heap.size)] [.int 0, .ref a])) := g11
  obtain ⟨T13, X13, p13, bl13, sl13, st13⟩ := X11.finit hexec hown (wk W (.fieldLink "java/lang/String" 15 "java/lang/String" "coder" "B")) (Or.inr ⟨_, (wk W (.laysFinal "java/lang/String" "java/lang/String" "coder" "B"))⟩) (Or.inl ⟨rfl, hnm⟩) f2 (Or.inl rfl) hB11 (t := .byte) (by decide +kernel) rfl (g := (mkF m 48 #[.val (.ref a), .val (.ref b), .val (.int (Int32.ofNat o)), .val (.int (Int32.ofNat len)), .val .null, .val (.ref s.heap.size)] [.int 0, .ref a])) rfl (rest := []) rfl (hb hbytes d48)
  have c14 : Steps p.tables e below (s₁.setTop (entryFrame m #[.ref a, .ref b, .int (Int32.ofNat o), .int (Int32.ofNat len), .null] 6)) (T13.setTop (mkF m 54 #[.val (.ref a), .val (.ref b), .val (.int (Int32.ofNat o)), .val (.int (Int32.ofNat len)), .val .null, .val (.ref s.heap.size)] [.ref s.heap.size, .ref a])) := (c12.trans (st13 _ (Steps.refl _))).trans (by
    refine XS.aloadN X13.here hexec rfl (hb hbytes d51) rfl rfl ?_
    refine XS.aload X13.here hexec rfl (hb hbytes d52) rfl rfl ?_
    exact Steps.refl _)
  obtain ⟨T15, X15, p15, bl15, sl15, st15⟩ := X13.finit hexec hown (wk W (.fieldLink "java/lang/String" 9 "java/lang/String" "value" "[B")) (Or.inr ⟨_, (wk W (.laysFinal "java/lang/String" "java/lang/String" "value" "[B"))⟩) (Or.inl ⟨rfl, hnm⟩) f1 (Or.inl rfl) bl13 (t := (.array .byte)) (by decide +kernel) rfl (g := (mkF m 54 #[.val (.ref a), .val (.ref b), .val (.int (Int32.ofNat o)), .val (.int (Int32.ofNat len)), .val .null, .val (.ref s.heap.size)] [.ref s.heap.size, .ref a])) rfl (rest := []) rfl (hb hbytes d54)
  have c16 : Steps p.tables e below (s₁.setTop (entryFrame m #[.ref a, .ref b, .int (Int32.ofNat o), .int (Int32.ofNat len), .null] 6)) (T15.setTop (mkF m 57 #[.val (.ref a), .val (.ref b), .val (.int (Int32.ofNat o)), .val (.int (Int32.ofNat len)), .val .null, .val (.ref s.heap.size)] [])) := c14.trans (st15 _ (Steps.refl _))
  have ap := apart (Or.inr ⟨_, (wk W (.laysFinal "java/lang/String" "java/lang/String" "value" "[B"))⟩) (Or.inr ⟨_, (wk W (.laysFinal "java/lang/String" "java/lang/String" "coder" "B"))⟩) f1 f2 (t₁ := .array .byte) (t₂ := .byte) (by decide +kernel) (by decide +kernel) (by decide)
  have al := X8.warmed.alike.symm.trans X15.warmed.alike
  have n7 : T11.heap[s.heap.size]? = some N := by rw [q11]; exact n1.1
  exact ⟨T15, none, _, _, _, X15, by simp, rfl, by omega, (fun _ => rfl), ⟨rfl, _, N, bl15, ((Same.refl D _).set _ (by simp)).set _ (by simp), sl15, (Cell.slots_setSlot_ne _ ap).trans sl13, n1.keep al (p15.other hne (p13.other hne n7)), n2, by rw [al.findClass]; exact n3, n4, n5, fun y c h1 h2 => p15.other h1 (p13.other h1 (by rw [q11]; exact n6 y c h2)), by rw [p15.2.2, p13.2.2, q11]; exact z8⟩, fun fs hl => c16.trans (X15.returnOut hexec hret (hb hbytes d57) hl)⟩
end New4
namespace New1
def yN : MethodName := ⟨"java/lang/String", "<init>", "([C)V"⟩
abbrev yB : ByteArray := jdk_42_method_3_code
theorem d0 : decode yB 0 = .ok (.aload_n 0, 1) := by decide +kernel
theorem d1 : decode yB 1 = .ok (.aload_n 1, 1) := by decide +kernel
theorem d2 : decode yB 2 = .ok (.iconst 0, 1) := by decide +kernel
theorem d3 : decode yB 3 = .ok (.aload_n 1, 1) := by decide +kernel
theorem d4 : decode yB 4 = .ok (.arraylength, 1) := by decide +kernel
theorem d5 : decode yB 5 = .ok (.aconst_null, 1) := by decide +kernel
theorem d6 : decode yB 6 = .ok (.invokespecial 27, 3) := by decide +kernel
theorem d9 : decode yB 9 = .ok (.return_, 1) := by decide +kernel
def site : List Cond := [New4.tab] ++ initW "java/lang/String" 27 New4.yN
def tab : Cond := tabOf yN yB 2 none site
def P (a : Addr) (D : Cell) (fV fC : Field) (b : Addr) (A : Cell) (z : Int32) (args : Array Value) (s : State) : Prop := args = #[.ref a, .ref b] ∧ Blank "java/lang/String" a D s ∧ Found "java/lang/String" "value" "[B" fV s ∧ Found "java/lang/String" "coder" "B" fC s ∧ Ch b A s ∧ StaticIs s "java/lang/String" "COMPACT_STRINGS" "Z" (.int z) ∧ ¬ z = 0 ∧ 0 < A.slots.size ∧ A.slots.size ≤ 536870912 ∧ ∀ i, i < A.slots.size → ¬ 255 < cv A i
def E (a : Addr) (D : Cell) (fV fC : Field) (A : Cell) (r : Option Value) (s u : State) : Prop := Got a D fV fC A 0 A.slots.size r s u
/-- new String(chars), not empty, no char above 255: a Latin-1 String of their low bytes -/
theorem law (l : Launch) (a : Addr) (D : Cell) (fV fC : Field) (b : Addr) (A : Cell) (z : Int32) : Law l yN 2 1 3 52 yB 2 none site (P a D fV fC b A z) (E a D fV fC A) [⟨a, fC.slot⟩, ⟨a, fV.slot⟩] 1 A.slots.size := by
  refine Law.of_walk (plainFor_of_name (by decide +kernel)) (by decide +kernel) (by decide +kernel) (by decide) (fun _ _ h => by rw [h.1]; rfl) (fun _ U U' hal hh h => ⟨h.1, h.2.1.mv hal hh, h.2.2.1.al hal, h.2.2.2.1.al hal, h.2.2.2.2.1.mv hal hh, h.2.2.2.2.2.1.there hal hh, h.2.2.2.2.2.2⟩) (fun r U U' V V' h1 hal h2 h => Got.mv r U U' V V' h1 hal h2 h) ?_
  intro p e s m args below meth c s₁ X0 hexec hbytes hml hret hlk hnm hown hh0 W hP
  obtain ⟨rfl, hB, f1, f2, hA, s1, hz, l0, l2, hp⟩ := hP
  have c1 : Steps p.tables e below (s₁.setTop (entryFrame m #[.ref a, .ref b] 2)) (s₁.setTop (mkF m 0 #[.val (.ref a), .val (.ref b)] [])) := entry rfl
  have c2 : Steps p.tables e below (s₁.setTop (entryFrame m #[.ref a, .ref b] 2)) (s₁.setTop (mkF m 6 #[.val (.ref a), .val (.ref b)] [.null, .int (Int32.ofNat A.slots.size), .int 0, .ref b, .ref a])) := c1.trans (by
    refine XS.aloadN X0.here hexec rfl (hb hbytes d0) rfl rfl ?_
    refine XS.aloadN X0.here hexec rfl (hb hbytes d1) rfl rfl ?_
    refine iconstV X0.here hexec rfl 0 (hb hbytes d2) (by decide) ?_
    refine XS.aloadN X0.here hexec rfl (hb hbytes d3) rfl rfl ?_
    refine X0.alen hexec (hA.1.mv X0.warmed.alike hh0) rfl rfl (hb hbytes d4) ?_
    refine XS.aconstNull X0.here hexec rfl (hb hbytes d5) ?_
    exact Steps.refl _)
  obtain ⟨v3, T3, X3, E3, g3⟩ := X0.callN hexec (New4.law l a D fV fC b A z 0 A.slots.size) rfl hown (wks W (initW "java/lang/String" 27 New4.yN)) (W New4.tab (by simp only [site, List.mem_cons, List.mem_append, true_or, or_true])) (W := 0) (Nat.le_of_ble_eq_true rfl) (Nat.le_of_ble_eq_true rfl) (Nat.le_refl _) (by show 0 + A.slots.size ≤ A.slots.size; omega) (g := (mkF m 6 #[.val (.ref a), .val (.ref b)] [.null, .int (Int32.ofNat A.slots.size), .int (Int32.ofNat 0), .ref b, .ref a])) rfl (by rw [hml]; rfl) c2 (argsL := [.ref b, .int (Int32.ofNat 0), .int (Int32.ofNat A.slots.size), .null]) (rest := []) rfl rfl (by show 2 * 0 + 0 ≤ _; decide) (hb hbytes d6) (⟨rfl, hB.mv X0.warmed.alike hh0, f1.al X0.warmed.alike, f2.al X0.warmed.alike, hA.mv X0.warmed.alike hh0, s1.there X0.warmed.alike hh0, hz, l0, by omega, l2, fun i hi => by rw [Nat.zero_add]; exact hp i hi⟩)
  have e0 := Got.mv _ s₁ s _ _ hh0.symm (Vm.Alike.refl _) rfl E3
  obtain rfl := e0.1
  have c4 : Steps p.tables e below (s₁.setTop (entryFrame m #[.ref a, .ref b] 2)) (T3.setTop (mkF m 9 #[.val (.ref a), .val (.ref b)] [])) := g3
  exact ⟨T3, none, _, _, _, X3, by simp, rfl, by omega, (fun _ => rfl), e0, fun fs hl => c4.trans (X3.returnOut hexec hret (hb hbytes d9) hl)⟩
theorem pays {l : Launch} {R : Room} {p : Program} {e : Env} {below : List Frame} {s : State} {sargs : Array Value} {len W : Nat} (a : Addr) (D : Cell) (fV fC : Field) (b : Addr) (A : Cell) (z : Int32) (htab : tab.before sargs s = true) (hfr : 4 ≤ R.frames) (hlo : W + 65 ≤ R.locals) :
    Back l R p e below s sargs yN len W (fun A₁ a₁ => A₁.cells + 1 ≤ R.cells ∧ A₁.slots + A.slots.size ≤ R.slots ∧ P a D fV fC b A z a₁ A₁.U) (fun A₁ _ v₁ B₁ => E a D fV fC A v₁ A₁.U B₁.U ∧ B₁.locs = A₁.locs ++ [⟨a, fC.slot⟩, ⟨a, fV.slot⟩] ∧ B₁.cells = A₁.cells + 1 ∧ B₁.slots = A₁.slots + A.slots.size) :=
  (law l a D fV fC b A z).pays htab hfr (by omega)
end New1
/-- the byte, read back as charAt reads it, is the char -/
theorem lo8_mask {x : Int32} (h0 : ¬ x < 0) (h1 : ¬ 255 < x) : lo8 x &&& 255 = x := by
  have t : ∀ k : Fin 256, lo8 (Int32.ofNat k.val) &&& 255 = Int32.ofNat k.val := by decide +kernel
  rw [Int32.lt_iff_toInt_lt] at h0 h1
  have e0 : (0 : Int32).toInt = 0 := rfl
  have e1 : (255 : Int32).toInt = 255 := rfl
  obtain ⟨k, hk⟩ : ∃ k : Nat, x.toInt = k := ⟨x.toInt.toNat, by omega⟩
  have hx : x = Int32.ofNat k := Int32.toInt_inj.mp (by rw [hk, Int32.toInt_ofNat_small (by omega)])
  rw [hx]
  exact t ⟨k, by omega⟩
end StrChars
namespace StrChars.Road
open Jvm Sem ClassFile Op Lib Jvm.Stand Jvm.Free Jvm.Free.XT
open Jvm.Lib.Cold (StaticIs)
abbrev ST : String := "java/lang/String"
/-- every table word that New1's law asks, flat -/
abbrev words : List Jvm.Cond := [.code New1.yN New1.yB 2 none, .initialized ST, .methodLink ST 27 New4.yN, .instanceMethod New4.yN,
  .code New4.yN New4.yB 6 none, .fieldLink ST 38 ST "COMPACT_STRINGS" "Z", .laysFinal ST ST "value" "[B", .fieldLink ST 9 ST "value" "[B", .laysFinal ST ST "coder" "B", .fieldLink ST 15 ST "coder" "B",
  .methodLink ST 1 Lib.objectInit, .instanceMethod Lib.objectInit, .code Lib.objectInit ⟨#[0xb1]⟩ 1 none, .methodLink ST 177 Cmp3.yN, .static Cmp3.yN, .methodLink ST 47 CodL.yN, .static CodL.yN,
  .code Cmp3.yN Cmp3.yB 6 (some (.array .byte)), .initialized U16, .arrayClass .byte, .methodLink U16 115 Cmp5.yN, .static Cmp5.yN, .code Cmp5.yN Cmp5.yB 7 (some .int), .code CodL.yN CodL.yB 2 (some .byte)]
theorem tab_of {a : Array Value} {s : State} (h : ∀ w ∈ words, w.before a s = true) : New1.tab.before a s = true := by
  have h5 : Cmp5.tab.before a s = true := unparts (wk h (.code Cmp5.yN Cmp5.yB 7 (some .int))) (wks h (.initialized Cmp5.yN.cls :: Cmp5.site))
  have hc : CodL.tab.before a s = true := unparts (wk h (.code CodL.yN CodL.yB 2 (some .byte))) (wks h (.initialized CodL.yN.cls :: CodL.site))
  have q5 : ∀ w ∈ Cmp5.tab :: words, w.before a s = true := fun w hw => (List.mem_cons.mp hw).elim (fun e => e ▸ h5) (h w)
  have h3 : Cmp3.tab.before a s = true := unparts (wk q5 (.code Cmp3.yN Cmp3.yB 6 (some (.array .byte)))) (wks q5 (.initialized Cmp3.yN.cls :: Cmp3.site))
  have q3 : ∀ w ∈ Cmp3.tab :: CodL.tab :: words, w.before a s = true := fun w hw => (List.mem_cons.mp hw).elim (fun e => e ▸ h3) fun hw => (List.mem_cons.mp hw).elim (fun e => e ▸ hc) (h w)
  have h4 : New4.tab.before a s = true := unparts (wk q3 (.code New4.yN New4.yB 6 none)) (wks q3 (.initialized New4.yN.cls :: New4.site))
  have q4 : ∀ w ∈ New4.tab :: words, w.before a s = true := fun w hw => (List.mem_cons.mp hw).elim (fun e => e ▸ h4) (h w)
  exact unparts (wk q4 (.code New1.yN New1.yB 2 none)) (wks q4 (.initialized New1.yN.cls :: New1.site))
/-- the words ride from the start Z to the walk's own state -/
theorem moved {Z s : State} {a0 args : Array Value} (hZ : Z.Warmed39 s.vm) (hw : ∀ d ∈ words, d.before a0 Z = true) : ∀ d ∈ words, d.before args s = true := fun d hd => by
  have q := hw d hd
  have t : ∀ d ∈ words, d = .arrayClass .byte ∨ (d.onTables && d.keepsFace) = true := by decide +kernel
  rcases t d hd with rfl | t
  · exact RoadKit.mvA hZ q
  · exact RoadKit.mv hZ q t
/-- WHAT COMES BACK, over the tables of the start Z: h the heap at the call, h' behind it -/
def Q (Z : State) (x : Addr) (A : Cell) (h : Heap) (v : Option Value) (h' : Heap) (L : List Loc) : Prop := v = none ∧ (∀ y ∈ L, y.base = x) ∧ RoadKit.Keep h h' [x] ∧ h'.size = h.size + 1 ∧ RoadKit.Exa Z h' x ST ∧ RoadKit.Fld Z h' x ST "value" "[B" (.ref h.size) ∧ RoadKit.Fld Z h' x ST "coder" "B" (.int 0) ∧
  (∃ V : Cell, RoadKit.Arr Z h' h.size V .byte ∧ V.vm = .none ∧ Z.vm.findClass "[B" = some V.cls ∧ V.slots.size = A.slots.size ∧ ∀ j, j < A.slots.size → V.slots[j]? = some (.int (lo8 (cv A j)))) ∧
  ∀ (O n d : String) (w : Value), RoadKit.Fld Z h x O n d w → RoadKit.slotOf Z O n d ≠ RoadKit.slotOf Z ST "value" "[B" → RoadKit.slotOf Z O n d ≠ RoadKit.slotOf Z ST "coder" "B" → RoadKit.Fld Z h' x O n d w
/-- **new String(chars) AT A CALL, IN THE ROAD'S FORM**: for specialBack behind newO: x the fresh String, b the char[] with the cell A -/
theorem back {p : Program} {l : Launch} {e : Env} {R : Room} {s : State} {args : Array Value} {below : List Frame} {len W : Nat} {Z : State} {a0 : Array Value} {h : Heap} (hZ : Z.Warmed39 s.vm) (hw : ∀ d ∈ words, d.before a0 Z = true) {kI : Nat} (wi : (Jvm.Cond.instantiable ST kI).before a0 Z = true)
    {x b : Addr} {A : Cell} {z : Int32} {v0 c0 : Value} (E : RoadKit.Exa Z h x ST) (V : RoadKit.Fld Z h x ST "value" "[B" v0) (C : RoadKit.Fld Z h x ST "coder" "B" c0) (K : RoadKit.Arr Z h b A .char) (hty : Typed .char A) (S : RoadKit.Sta Z h ST "COMPACT_STRINGS" "Z" (.int z)) (hz : ¬ z = 0)
    (l0 : 0 < A.slots.size) (l2 : A.slots.size ≤ 536870912) (hp : ∀ i, i < A.slots.size → ¬ 255 < cv A i) (hfr : 4 ≤ R.frames) (hlo : W + 65 ≤ R.locals) :
    Back l R p e below s args New1.yN len W (fun P a => a = #[.ref x, .ref b] ∧ P.U.heap = h ∧ P.cells + 1 ≤ R.cells ∧ P.slots + A.slots.size ≤ R.slots)
      (fun P _ v B => ∃ L, Q Z x A h v B.U.heap L ∧ B.locs = P.locs ++ L ∧ B.cells = P.cells + 1 ∧ B.slots = P.slots + A.slots.size) := by
  intro m meth c P g ig mk a X hg hsize hdg hW hn hp'
  obtain ⟨rfl, rfl, r1, r2⟩ := hp'
  have al : Z.vm.Alike P.U.vm := hZ.alike.trans X.warmed.alike
  obtain ⟨D, cfV, kV, iV, fV, hD, gV, stV, knV, obV, asV, slV⟩ := id V
  obtain ⟨D', cfC, kC, iC, fC, hD', gC, stC, -, -, asC, slC⟩ := id C
  cases hD.symm.trans hD'
  obtain ⟨D2, kD, e1, e2, e3, e4, e5⟩ := id E
  cases hD.symm.trans e1
  obtain ⟨c2, k2, i1, i2, i3, -⟩ := Cond.instantiable_spec wi
  cases e2.symm.trans i1
  cases e3.symm.trans i2
  obtain ⟨kU, u1, u2⟩ := al.2.2 _ _ e3
  have hB : Blank ST x D P.U := ⟨hD, ⟨knV, fun q hq => by rw [hq] at obV; cases obV⟩, by rw [al.findClass]; exact e2, kU, u1, by rw [u2]; exact i3, by rw [u2]; exact e5 i3⟩
  have F1 : Found ST "value" "[B" fV P.U := ⟨SBG.found_only al ⟨cfV, kV, iV, gV⟩, stV⟩
  have F2 : Found ST "coder" "B" fC P.U := ⟨SBG.found_only al ⟨cfC, kC, iC, gC⟩, stC⟩
  have hA : Ch b A P.U := ⟨⟨K.1, State.isArrayOf_alike al K.2.1, K.2.2, by omega⟩, hty⟩
  have hS : StaticIs P.U ST "COMPACT_STRINGS" "Z" (.int z) := by
    obtain ⟨cfS, iS, kS, fS, st, cS, t1, t2, t3, t4, t5, t6, t7⟩ := S
    exact StaticIs.there (s := { Z with heap := P.U.heap }) ⟨cfS, iS, kS, fS, st, cS, t1, t2, t3, t4, t5, (fun q => by rw [q] at t6; cases t6), t7⟩ al rfl
  obtain ⟨v, B, X', ⟨⟨hv, E', V', q1, q2, q3, q4, q5, q6, q7, q8, q9, q10, q11⟩, hl, hc, hs⟩, st⟩ := New1.pays x D fV fC b A z (tab_of (moved hZ hw)) hfr hlo m meth c P g ig mk _ X hg hsize hdg hW hn ⟨r1, r2, rfl, hB, F1, F2, hA, hS, hz, l0, l2, hp⟩
  have al' : Z.vm.Alike B.U.vm := hZ.alike.trans X'.warmed.alike
  have hsz : E'.slots.size = D.slots.size := by
    obtain ⟨-, -, -, kB, w1, w2, w3⟩ := q1
    obtain ⟨kB', y1, y2⟩ := al'.2.2 _ _ e3
    rw [q2.2.1] at w1
    cases w1.symm.trans y1
    rw [w3, e5 i3, y2]
  refine ⟨v, B, X', ⟨_, ⟨hv, ?_, ⟨by omega, fun y cy hy hn' => q10 y cy (by simpa using hn') hy, fun y cy hy => ?_⟩, q11, ⟨E', _, q1.1, by rw [q2.2.1]; exact e2, by rw [q2.2.1]; exact e3, by rw [q2.1]; exact obV, fun _ => by rw [hsz]; exact e5 i3⟩,
    ⟨E', cfV, kV, iV, fV, q1.1, gV, stV, by rw [q2.1]; exact knV, by rw [q2.1]; exact obV, by rw [q2.2.1]; exact asV, q3⟩, ⟨E', cfC, kC, iC, fC, q1.1, gC, stC, by rw [q2.1]; exact knV, by rw [q2.1]; exact obV, by rw [q2.2.1]; exact asC, q4⟩,
    ⟨V', ⟨q5.1, State.isArrayOf_alike al'.symm q5.2.1, q5.2.2.1⟩, q6, by rw [← al'.findClass]; exact q7, q8, fun j hj => by have := q9 j hj; rwa [Nat.zero_add] at this⟩, fun O n d w F n1 n2 => ?_⟩, hl, hc, hs⟩, st⟩
  · intro y hy
    simp only [List.mem_cons, List.not_mem_nil, or_false] at hy
    rcases hy with rfl | rfl <;> rfl
  · by_cases q : y = x
    · subst q
      cases hD.symm.trans hy
      exact ⟨E', q1.1, q2.2.1, q2.1, hsz⟩
    · exact ⟨cy, q10 y cy q hy, rfl, rfl, rfl⟩
  · obtain ⟨D3, cf, k, i, f, g1, g2, g3, g4, g5, g6, g7⟩ := F
    cases hD.symm.trans g1
    simp only [RoadKit.slotOf, g2, gV, gC, Option.map_some, Option.getD_some] at n1 n2
    exact ⟨E', cf, k, i, f, q1.1, g2, g3, by rw [q2.1]; exact g4, by rw [q2.1]; exact g5, by rw [q2.2.1]; exact g6, by rw [q2.2.2 f.slot (by simp [n1, n2])]; exact g7⟩
end StrChars.Road
namespace StrChars.Road
open Jvm Sem ClassFile Op Lib Jvm.Stand Jvm.Free Jvm.Free.XT
/-- WHAT COMES BACK, the byte[] as a list of values -/
def QA (Z : State) (x : Addr) (zn : Int32) (cs : List Int32) (h : Heap) (v : Option Value) (h' : Heap) (L : List Loc) : Prop := v = none ∧ (∀ y ∈ L, y.base = x) ∧ RoadKit.Keep h h' [x] ∧ h'.size = h.size + 1 ∧ RoadKit.Exa Z h' x ST ∧ RoadKit.Fld Z h' x ST "value" "[B" (.ref h.size) ∧ RoadKit.Fld Z h' x ST "coder" "B" (.int 0) ∧
  (∃ kb, Z.vm.findClass "[B" = some kb ∧ RoadKit.Arv Z h' h.size kb .byte zn (cs.map fun c => .int (lo8 c)) (.int 0)) ∧
  ∀ (O n d : String) (w : Value), RoadKit.Fld Z h x O n d w → RoadKit.slotOf Z O n d ≠ RoadKit.slotOf Z ST "value" "[B" → RoadKit.slotOf Z O n d ≠ RoadKit.slotOf Z ST "coder" "B" → RoadKit.Fld Z h' x O n d w
/-- **new String(chars) AT A CALL, THE ARRAYS AS LISTS**: the char[] at b holds cs, not empty, no char above 255 -/
theorem backArv {p : Program} {l : Launch} {e : Env} {R : Room} {s : State} {args : Array Value} {below : List Frame} {len W : Nat} {Z : State} {a0 : Array Value} {h : Heap} (hZ : Z.Warmed39 s.vm) (hw : ∀ d ∈ words, d.before a0 Z = true) {kI : Nat} (wi : (Jvm.Cond.instantiable ST kI).before a0 Z = true)
    {x b : Addr} {k : ClassId} {zn z : Int32} {cs : List Int32} {dv v0 c0 : Value} (E : RoadKit.Exa Z h x ST) (V : RoadKit.Fld Z h x ST "value" "[B" v0) (C : RoadKit.Fld Z h x ST "coder" "B" c0) (K : RoadKit.Arv Z h b k .char zn (cs.map Value.int) dv) (S : RoadKit.Sta Z h ST "COMPACT_STRINGS" "Z" (.int z)) (hz : ¬ z = 0)
    (hlen : zn.toNatClampNeg = cs.length) (h0 : 0 < cs.length) (hbig : cs.length ≤ 536870912) (hall : ∀ c ∈ cs, ¬ 255 < c) (hfr : 4 ≤ R.frames) (hlo : W + 65 ≤ R.locals) :
    Back l R p e below s args New1.yN len W (fun P a => a = #[.ref x, .ref b] ∧ P.U.heap = h ∧ P.cells + 1 ≤ R.cells ∧ P.slots + cs.length ≤ R.slots)
      (fun P _ v B => ∃ L, QA Z x zn cs h v B.U.heap L ∧ B.locs = P.locs ++ L ∧ B.cells = P.cells + 1 ∧ B.slots = P.slots + cs.length) := by
  obtain ⟨A, K1, K2, K3, K4, K5, K6⟩ := K
  have e : A.slots.size = cs.length := K3.trans hlen
  have hat : ∀ (i : Nat) (hi : i < cs.length), A.slots[i]? = some (.int cs[i]) := fun i hi => by rw [K5 i (by omega)]; simp [List.getD_eq_getElem?_getD, hi]
  have hcv : ∀ (i : Nat) (hi : i < cs.length), cv A i = cs[i] := fun i hi => by unfold cv; rw [hat i hi]
  have hty : Typed .char A := fun i v hv => by
    have hi : i < A.slots.size := (Array.getElem?_eq_some_iff.mp hv).1
    have q := K5 i hi
    rw [hv] at q
    rw [Option.some.inj q]
    exact K6 i hi
  refine Back.mono (back hZ hw wi E V C K1 hty S hz (by omega) (by omega) (fun i hi => by rw [hcv i (by omega)]; exact hall _ (List.getElem_mem _)) hfr hlo) (fun P a hp => ⟨hp.1, hp.2.1, hp.2.2.1, by rw [e]; exact hp.2.2.2⟩) (fun P a v B hp hq => ?_)
  obtain ⟨L, ⟨q1, q2, q3, q4, q5, q6, q7, ⟨V', v1, v2, v3, v4, v5⟩, q9⟩, hl, hc, hs⟩ := hq
  refine ⟨L, ⟨q1, q2, q3, q4, q5, q6, q7, ⟨V'.cls, v3, V', v1, rfl, by rw [v4, e, hlen], K4, fun i hi => ?_, fun i hi => ?_⟩, q9⟩, hl, hc, by rw [hs, e]⟩
  · have hi' : i < cs.length := by omega
    rw [v5 i (by omega), hcv i hi']; simp [List.getD_eq_getElem?_getD, hi']
  · have hi' : i < cs.length := by omega
    simp only [List.getD_eq_getElem?_getD, List.getElem?_map, List.getElem?_eq_getElem hi', Option.map_some, Option.getD_some]
    exact fits_lo8 _
end StrChars.Road
namespace StrChars.Road
open Jvm Sem ClassFile Op Lib Jvm.Stand Jvm.Free Jvm.Free.XT
/-- WHAT COMES BACK, in the writer's own shape -/
def QV (Z : State) (x : Addr) (N : Int32) (bs : List Int32) (h : Heap) (n0 : Nat) (v : Option Value) (h' : Heap) (L : List Loc) : Prop := v = none ∧ RoadKit.Fr n0 L ∧ RoadKit.Keep h h' [x] ∧ RoadKit.Exa Z h' x ST ∧ RoadKit.Fld Z h' x ST "coder" "B" (.int 0) ∧
  ∃ (t : Addr) (kb : ClassId), n0 ≤ t ∧ h.size ≤ t ∧ ¬ t = x ∧ RoadKit.Fld Z h' x ST "value" "[B" (.ref t) ∧ RoadKit.Arv Z h' t kb .byte N (bs.map Value.int) (.int 0)
/-- **new String(chars) AT A CALL, FOR THE WRITER**: a char[] of n known ints, each 0 to 255 -/
theorem backV {p : Program} {l : Launch} {e : Env} {R : Room} {s : State} {args : Array Value} {below : List Frame} {len W : Nat} {Z : State} {a0 : Array Value} {h : Heap} (hZ : Z.Warmed39 s.vm) (hw : ∀ d ∈ words, d.before a0 Z = true) {kI : Nat} (wi : (Jvm.Cond.instantiable ST kI).before a0 Z = true)
    {x b : Addr} {kC : ClassId} {cs bs : List Int32} {d v0 c0 : Value} {z N : Int32} {n n0 : Nat} (hx0 : n0 ≤ x) (hh0 : n0 ≤ h.size) (E : RoadKit.Exa Z h x ST) (V : RoadKit.Fld Z h x ST "value" "[B" v0) (C : RoadKit.Fld Z h x ST "coder" "B" c0) (K : RoadKit.Arv Z h b kC .char N (cs.map Value.int) d) (S : RoadKit.Sta Z h ST "COMPACT_STRINGS" "Z" (.int z)) (hz : ¬ z = 0)
    (hn : cs.length = n) (hN : N = Int32.ofNat n) (l0 : 0 < n) (l2 : n ≤ 4000) (hp : ∀ c ∈ cs, ¬ c < 0 ∧ ¬ (255 : Int32) < c) (hb : bs = cs.map (fun c => c.toInt8.toInt32)) (hfr : 4 ≤ R.frames) (hlo : W + 65 ≤ R.locals) :
    Back l R p e below s args (⟨"java/lang/String", "<init>", "([C)V"⟩ : MethodName) len W (fun P a => a = #[.ref x, .ref b] ∧ P.U.heap = h ∧ P.cells + 1 ≤ R.cells ∧ P.slots + n ≤ R.slots)
      (fun P _ v B => ∃ L, QV Z x N bs h n0 v B.U.heap L ∧ B.locs = P.locs ++ L ∧ B.cells = P.cells + 1 ∧ B.slots = P.slots + n) := by
  subst hn hN hb
  refine Back.mono (backArv hZ hw wi E V C K S hz (n32 (by omega)) l0 (by omega) (fun c hc => (hp c hc).2) hfr hlo) (fun P a hp => hp) (fun P a v B hp hq => ?_)
  obtain ⟨L, ⟨q1, q2, q3, q4, q5, q6, q7, ⟨kb, v1, v2⟩, q9⟩, hl, hc, hs⟩ := hq
  exact ⟨L, ⟨q1, fun y hy => by rw [q2 y hy]; exact hx0, q3, q5, q7, h.size, kb, hh0, Nat.le_refl _, Nat.ne_of_gt E.lt, q6, by rw [List.map_map]; exact v2⟩, hl, hc, hs⟩
end StrChars.Road
namespace StrChars
open Jvm Sem ClassFile Op Lib Jvm.Stand Jvm.Free.XT Jvm.Free.ALB Jvm.Free.JM Jvm.Free
open Jvm.Lib.Cold (StaticIs)
def hi8 (x : Int32) : Int32 := lo8 (x >>> ((8 : Int32) &&& 31))
/-- what StringUTF16.getChar makes of two bytes -/
def pairCh (u v : Int32) : Int32 := (((u &&& 255) <<< ((0 : Int32) &&& 31)) ||| ((v &&& 255) <<< ((8 : Int32) &&& 31))).toUInt32.toUInt16.toUInt32.toInt32
theorem shr0 (c : Int32) : c >>> ((0 : Int32) &&& 31) = c := by
  have e : ((0 : Int32) &&& 31) = 0 := by decide
  rw [e]
  apply Int32.toBitVec_inj.mp
  rw [Int32.toBitVec_shiftRight]
  have e1 : ((0 : Int32).toBitVec.smod 32) = 0#32 := by decide
  rw [e1, BitVec.sshiftRight_eq']
  exact BitVec.sshiftRight_zero
theorem lo8_and (x : Int32) : (lo8 x &&& 255).toBitVec.toNat = x.toBitVec.toNat % 256 := by
  have h : (lo8 x).toBitVec = (x.toBitVec.signExtend 8).signExtend 32 := by rw [lo8, Int8.toBitVec_toInt32, Int32.toBitVec_toInt8]
  rw [Int32.toBitVec_and, BitVec.toNat_and, h]
  have e : ((x.toBitVec.signExtend 8).signExtend 32).toNat % 256 = x.toBitVec.toNat % 256 := by
    rw [BitVec.toNat_signExtend]
    have hlt := x.toBitVec.isLt
    simp only [BitVec.toNat_setWidth, BitVec.toNat_signExtend]
    split <;> split <;> omega
  rw [← e]
  exact Nat.and_two_pow_sub_one_eq_mod _ 8
theorem pair_says {c : Int32} (h0 : ¬ c < 0) (h1 : ¬ 65535 < c) : pairCh (lo8 c) (hi8 c) = c := by
  rw [Int32.lt_iff_toInt_lt] at h0 h1
  have e0 : (0 : Int32).toInt = 0 := rfl
  have e1 : (65535 : Int32).toInt = 65535 := rfl
  have hc : c.toInt = c.toBitVec.toNat := by
    have := c.toBitVec.isLt
    have e : c.toInt = c.toBitVec.toInt := rfl
    rw [e] at h0 h1
    rw [e]
    rw [BitVec.toInt_eq_toNat_cond] at h0 h1 ⊢
    split at h0 <;> split <;> omega
  have hn : c.toBitVec.toNat < 65536 := by omega
  have a1 := lo8_and c
  have a2 : (hi8 c &&& 255).toBitVec.toNat = c.toBitVec.toNat / 256 := by
    rw [hi8, lo8_and]
    have e : ((8 : Int32) &&& 31) = 8 := by decide
    rw [e, Int32.toBitVec_shiftRight]
    have e2 : ((8 : Int32).toBitVec.smod 32) = 8#32 := by decide
    rw [e2, BitVec.sshiftRight_eq', BitVec.toNat_sshiftRight_of_msb_false (by rw [BitVec.msb_eq_false_iff_two_mul_lt]; omega)]
    show c.toBitVec.toNat >>> 8 % 256 = _
    rw [Nat.shiftRight_eq_div_pow]
    omega
  unfold pairCh
  apply Int32.toBitVec_inj.mp
  apply BitVec.eq_of_toNat_eq
  have f0 : ((0 : Int32) &&& 31) = 0 := by decide
  have f8 : ((8 : Int32) &&& 31) = 8 := by decide
  rw [f0, f8]
  have g : (((lo8 c &&& 255) <<< (0 : Int32)) ||| ((hi8 c &&& 255) <<< (8 : Int32))).toBitVec.toNat = c.toBitVec.toNat := by
    rw [Int32.toBitVec_or, Int32.toBitVec_shiftLeft, Int32.toBitVec_shiftLeft]
    have s0 : ((0 : Int32).toBitVec.smod 32) = 0#32 := by decide
    have s8 : ((8 : Int32).toBitVec.smod 32) = 8#32 := by decide
    rw [s0, s8, BitVec.toNat_or]
    simp only [BitVec.shiftLeft_eq', BitVec.toNat_shiftLeft, a1, a2]
    show (c.toBitVec.toNat % 256) <<< 0 % 2 ^ 32 ||| (c.toBitVec.toNat / 256) <<< 8 % 2 ^ 32 = _
    rw [Nat.shiftLeft_zero, Nat.mod_eq_of_lt (show c.toBitVec.toNat % 256 < 2 ^ 32 by omega), Nat.mod_eq_of_lt (show (c.toBitVec.toNat / 256) <<< 8 < 2 ^ 32 by rw [Nat.shiftLeft_eq]; omega), Nat.or_comm, ← Nat.shiftLeft_add_eq_or_of_lt (by omega), Nat.shiftLeft_eq]
    omega
  show BitVec.toNat (((((lo8 c &&& 255) <<< (0 : Int32)) ||| ((hi8 c &&& 255) <<< (8 : Int32))).toBitVec.setWidth 16).setWidth 32) = _
  rw [BitVec.toNat_setWidth, BitVec.toNat_setWidth, g]
  omega
end StrChars
namespace StrChars
open Jvm Sem ClassFile Op Lib Jvm.Stand Jvm.Free.XT Jvm.Free.ALB Jvm.Free.JM Jvm.Free
open Jvm.Lib.Cold (StaticIs)
theorem shr1 {n : Nat} (h : 2 * n < 2 ^ 31) : Int32.ofNat (2 * n) >>> ((1 : Int32) &&& 31) = Int32.ofNat n := by
  have e : ((1 : Int32) &&& 31) = 1 := by decide
  rw [e]
  apply Int32.toBitVec_inj.mp
  rw [Int32.toBitVec_shiftRight]
  have e1 : ((1 : Int32).toBitVec.smod 32) = 1#32 := by decide
  have hm : (BitVec.ofNat 32 (2 * n)).toNat = 2 * n := by rw [BitVec.toNat_ofNat, Nat.mod_eq_of_lt (by omega)]
  rw [e1, BitVec.sshiftRight_eq']
  apply BitVec.eq_of_toNat_eq
  show ((BitVec.ofNat 32 (2 * n)).sshiftRight 1).toNat = (BitVec.ofNat 32 n).toNat
  rw [BitVec.toNat_sshiftRight_of_msb_false (by rw [BitVec.msb_eq_false_iff_two_mul_lt, hm]; omega), hm, BitVec.toNat_ofNat, Nat.shiftRight_eq_div_pow]
  omega
/-- charAt's cast of a byte read back -/
def chr8 (u : Int32) : Int32 := (u &&& 255).toUInt32.toUInt16.toUInt32.toInt32
theorem chr8_lo8 {c : Int32} (h0 : ¬ c < 0) (h1 : ¬ 255 < c) : chr8 (lo8 c) = c := by
  have t : ∀ k : Fin 256, (Int32.ofNat k.val).toUInt32.toUInt16.toUInt32.toInt32 = Int32.ofNat k.val := by decide +kernel
  unfold chr8
  rw [lo8_mask h0 h1]
  rw [Int32.lt_iff_toInt_lt] at h0 h1
  have e0 : (0 : Int32).toInt = 0 := rfl
  have e1 : (255 : Int32).toInt = 255 := rfl
  obtain ⟨k, hk⟩ : ∃ k : Nat, c.toInt = k := ⟨c.toInt.toNat, by omega⟩
  have hx : c = Int32.ofNat k := Int32.toInt_inj.mp (by rw [hk, Int32.toInt_ofNat_small (by omega)])
  rw [hx]
  exact t ⟨k, by omega⟩
theorem narrow_ch {c : Int32} (h0 : ¬ c < 0) (h1 : ¬ 65535 < c) : narrow .char (.int c) = .int c := by
  have q : narrow .char (.int (pairCh (lo8 c) (hi8 c))) = .int (pairCh (lo8 c) (hi8 c)) := narrow_c _
  rwa [pair_says h0 h1] at q
/-- the array's cell V codes the n chars f 0 .. f (n - 1) by the coder cd, as the JDK does: coder 1 just where some char is above 255 -/
def Cod (cd : Int32) (n : Nat) (f : Nat → Int32) (V : Cell) : Prop := (cd = 0 ∧ V.slots.size = n ∧ ∀ j, j < n → V.slots[j]? = some (.int (lo8 (f j))) ∧ ¬ 255 < f j) ∨ (cd = 1 ∧ V.slots.size = 2 * n ∧ (∀ j, j < n → V.slots[2 * j]? = some (.int (lo8 (f j))) ∧ V.slots[2 * j + 1]? = some (.int (hi8 (f j)))) ∧ ∃ j, j < n ∧ 255 < f j)
theorem Cod.cd {cd : Int32} {n : Nat} {f : Nat → Int32} {V : Cell} (h : Cod cd n f V) : cd = 0 ∨ cd = 1 := h.imp (fun q => q.1) fun q => q.1
theorem Cod.len {cd : Int32} {n : Nat} {f : Nat → Int32} {V : Cell} (h : Cod cd n f V) (hs : V.slots.size < 2 ^ 31) : Int32.ofNat V.slots.size >>> (cd &&& 31) = Int32.ofNat n := by
  rcases h with ⟨rfl, h, -⟩ | ⟨rfl, h, -⟩
  · rw [shr0, h]
  · rw [h, shr1 (by omega)]
/-- **x is a String of the n chars f 0 .. f (n - 1)**, Latin-1 or UTF-16; its array at t has the cell V -/
def Txt (x t : Addr) (V : Cell) (cd : Int32) (n : Nat) (f : Nat → Int32) (U : State) : Prop := Exact "java/lang/String" x U ∧ Has x "java/lang/String" "value" "[B" (.ref t) U ∧ Has x "java/lang/String" "coder" "B" (.int cd) U ∧ XT.Arr .byte t V U ∧ Cod cd n f V ∧ ∀ j, j < n → ¬ f j < 0 ∧ ¬ 65535 < f j
theorem Txt.mv {x t : Addr} {V : Cell} {cd : Int32} {n : Nat} {f : Nat → Int32} {U U' : State} (h : Txt x t V cd n f U) (hal : U.vm.Alike U'.vm) (hh : U'.heap = U.heap) : Txt x t V cd n f U' := ⟨h.1.mv hal hh, h.2.1.mv hal hh, h.2.2.1.mv hal hh, h.2.2.2.1.mv hal hh, h.2.2.2.2⟩
namespace Cdr
def yN : MethodName := ⟨"java/lang/String", "coder", "()B"⟩
abbrev yB : ByteArray := jdk_42_method_152_code
theorem d0 : decode yB 0 = .ok (.getstatic 38, 3) := by decide +kernel
theorem d3 : decode yB 3 = .ok (.ifCond (.eq) 10, 3) := by decide +kernel
theorem d6 : decode yB 6 = .ok (.aload_n 0, 1) := by decide +kernel
theorem d7 : decode yB 7 = .ok (.getfield 15, 3) := by decide +kernel
theorem d10 : decode yB 10 = .ok (.goto 4, 3) := by decide +kernel
theorem d14 : decode yB 14 = .ok (.ireturn, 1) := by decide +kernel
def site : List Cond := [.fieldLink "java/lang/String" 38 "java/lang/String" "COMPACT_STRINGS" "Z", .fieldLink "java/lang/String" 15 "java/lang/String" "coder" "B"]
def tab : Cond := tabOf yN yB 1 (some .byte) site
def P (x : Addr) (cd z : Int32) (args : Array Value) (s : State) : Prop := args = #[.ref x] ∧ Has x "java/lang/String" "coder" "B" (.int cd) s ∧ (cd = 0 ∨ cd = 1) ∧ StaticIs s "java/lang/String" "COMPACT_STRINGS" "Z" (.int z) ∧ ¬ z = 0
def E (cd : Int32) (r : Option Value) (s u : State) : Prop := XT.PureE (some (.int cd)) r s u
theorem law (l : Launch) (x : Addr) (cd z : Int32) : Law l yN 1 0 0 0 yB 1 (some .byte) site (P x cd z) (E cd) [] 0 0 := by
  refine Law.of_walk (plainFor_of_name (by decide +kernel)) (by decide +kernel) (by decide +kernel) (by decide) (fun _ _ h => by rw [h.1]; rfl) (fun _ U U' hal hh h => ⟨h.1, h.2.1.mv hal hh, h.2.2.1, h.2.2.2.1.there hal hh, h.2.2.2.2⟩) (fun r U U' V V' h1 hal h2 h => XT.PureE.mv r U U' V V' h1 hal h2 h) ?_
  intro p e s m args below meth c s₁ X0 hexec hbytes hml hret hlk hnm hown hh0 W hP
  obtain ⟨rfl, hx, hc, s1, hz⟩ := hP
  have c1 : Steps p.tables e below (s₁.setTop (entryFrame m #[.ref x] 1)) (s₁.setTop (mkF m 0 #[.val (.ref x)] [])) := entry rfl
  obtain ⟨T2, X2, q2, st2⟩ := X0.sget hexec hown (wk W (.fieldLink "java/lang/String" 38 "java/lang/String" "COMPACT_STRINGS" "Z")) s1 (fun _ _ h => by rw [hh0]; exact h) (g := (mkF m 0 #[.val (.ref x)] [])) rfl (hb hbytes d0)
  have hh2 := q2.trans hh0
  have c3 : Steps p.tables e below (s₁.setTop (entryFrame m #[.ref x] 1)) (T2.setTop (mkF m 7 #[.val (.ref x)] [.ref x])) := (c1.trans (st2 _ (Steps.refl _))).trans (by
    refine XS.ifNo X2.here hexec rfl (hb hbytes d3) rfl (i0_eq_f hz) ?_
    refine XS.aloadN X2.here hexec rfl (hb hbytes d6) rfl rfl ?_
    exact Steps.refl _)
  obtain ⟨T4, X4, q4, st4⟩ := X2.hget hexec hown (wk W (.fieldLink "java/lang/String" 15 "java/lang/String" "coder" "B")) (hx.mv X2.warmed.alike hh2) (g := (mkF m 7 #[.val (.ref x)] [.ref x])) rfl (rest := []) rfl (hb hbytes d7)
  have c5 : Steps p.tables e below (s₁.setTop (entryFrame m #[.ref x] 1)) (T4.setTop (mkF m 14 #[.val (.ref x)] [.int cd])) := (c3.trans (st4 _ (Steps.refl _))).trans (by
    refine XS.goto X4.here hexec rfl (pc0 := 10) rfl (hb hbytes d10) (by decide) rfl ?_
    exact Steps.refl _)
  exact ⟨T4, some (.int cd), _, _, _, X4, rfl, rfl, rfl, (fun h => by cases h), ⟨rfl, q4.trans hh2⟩, fun fs hl => c5.trans (X4.ireturnOut hexec hret (by rcases hc with rfl | rfl <;> rfl) (Or.inr (Or.inr (Or.inl rfl))) (hb hbytes d14) hl)⟩
end Cdr
namespace Len
def yN : MethodName := ⟨"java/lang/String", "length", "()I"⟩
abbrev yB : ByteArray := jdk_42_method_54_code
theorem d0 : decode yB 0 = .ok (.aload_n 0, 1) := by decide +kernel
theorem d1 : decode yB 1 = .ok (.getfield 9, 3) := by decide +kernel
theorem d4 : decode yB 4 = .ok (.arraylength, 1) := by decide +kernel
theorem d5 : decode yB 5 = .ok (.aload_n 0, 1) := by decide +kernel
theorem d6 : decode yB 6 = .ok (.invokevirtual 335, 3) := by decide +kernel
theorem d9 : decode yB 9 = .ok (.ishr, 1) := by decide +kernel
theorem d10 : decode yB 10 = .ok (.ireturn, 1) := by decide +kernel
def site : List Cond := [.fieldLink "java/lang/String" 9 "java/lang/String" "value" "[B", Cdr.tab] ++ virtW "java/lang/String" 335 "java/lang/String" Cdr.yN Cdr.yN
def tab : Cond := tabOf yN yB 1 (some .int) site
def P (x t : Addr) (V : Cell) (cd : Int32) (n : Nat) (f : Nat → Int32) (z : Int32) (args : Array Value) (s : State) : Prop := args = #[.ref x] ∧ Txt x t V cd n f s ∧ StaticIs s "java/lang/String" "COMPACT_STRINGS" "Z" (.int z) ∧ ¬ z = 0
def E (n : Nat) (r : Option Value) (s u : State) : Prop := XT.PureE (some (.int (Int32.ofNat n))) r s u
/-- length() of a String of n chars, in either coding -/
theorem law (l : Launch) (x t : Addr) (V : Cell) (cd : Int32) (n : Nat) (f : Nat → Int32) (z : Int32) : Law l yN 1 0 1 13 yB 1 (some .int) site (P x t V cd n f z) (E n) [] 0 0 := by
  refine Law.of_walk (plainFor_of_name (by decide +kernel)) (by decide +kernel) (by decide +kernel) (by decide) (fun _ _ h => by rw [h.1]; rfl) (fun _ U U' hal hh h => ⟨h.1, h.2.1.mv hal hh, h.2.2.1.there hal hh, h.2.2.2⟩) (fun r U U' V V' h1 hal h2 h => XT.PureE.mv r U U' V V' h1 hal h2 h) ?_
  intro p e s m args below meth c s₁ X0 hexec hbytes hml hret hlk hnm hown hh0 W hP
  obtain ⟨rfl, hx, s1, hz⟩ := hP
  have v31 := hx.2.2.2.1.2.2.2
  have c1 : Steps p.tables e below (s₁.setTop (entryFrame m #[.ref x] 1)) (s₁.setTop (mkF m 1 #[.val (.ref x)] [.ref x])) := Steps.trans (entry rfl) (by
    show Steps p.tables e below (s₁.setTop (mkF m 0 #[.val (.ref x)] [])) _
    refine XS.aloadN X0.here hexec rfl (hb hbytes d0) rfl rfl ?_
    exact Steps.refl _)
  obtain ⟨T2, X2, q2, st2⟩ := X0.hget hexec hown (wk W (.fieldLink "java/lang/String" 9 "java/lang/String" "value" "[B")) (hx.mv X0.warmed.alike hh0).2.1 (g := (mkF m 1 #[.val (.ref x)] [.ref x])) rfl (rest := []) rfl (hb hbytes d1)
  have hh2 := q2.trans hh0
  have hx2 := hx.mv X2.warmed.alike hh2
  have c3 : Steps p.tables e below (s₁.setTop (entryFrame m #[.ref x] 1)) (T2.setTop (mkF m 6 #[.val (.ref x)] [.ref x, .int (Int32.ofNat V.slots.size)])) := (c1.trans (st2 _ (Steps.refl _))).trans (by
    refine X2.alen hexec hx2.2.2.2.1 rfl rfl (hb hbytes d4) ?_
    refine XS.aloadN X2.here hexec rfl (hb hbytes d5) rfl rfl ?_
    exact Steps.refl _)
  obtain ⟨v4, T4, X4, E4, g4⟩ := X2.callV hexec (Cdr.law l x cd z) hown (wks W (virtW "java/lang/String" 335 "java/lang/String" Cdr.yN Cdr.yN)) rfl (by decide) (wk W Cdr.tab) (W := 1) (Nat.le_of_ble_eq_true rfl) (Nat.le_of_ble_eq_true rfl) (Nat.le_refl _) (Nat.le_refl _) (hx2.1.fc X2.warmed.alike) hx2.1.is (g := (mkF m 6 #[.val (.ref x)] [.ref x, .int (Int32.ofNat V.slots.size)])) rfl (by rw [hml]; rfl) c3 (argsL := []) (rest := [.int (Int32.ofNat V.slots.size)]) rfl rfl (by show 2 * 0 + (1 + 0) ≤ _; decide) (hb hbytes d6) (⟨rfl, hx2.2.2.1, hx.2.2.2.2.1.cd, s1.there X2.warmed.alike hh2, hz⟩)
  obtain ⟨rfl, q4⟩ := E4
  have c5 : Steps p.tables e below (s₁.setTop (entryFrame m #[.ref x] 1)) (T4.setTop (mkF m 10 #[.val (.ref x)] [.int (Int32.ofNat V.slots.size >>> (cd &&& 31))])) := Steps.trans g4 (by
    refine ishr X4.here hexec rfl (hb hbytes d9) rfl ?_
    exact Steps.refl _)
  rw [hx.2.2.2.2.1.len v31] at c5
  exact ⟨T4, some (.int (Int32.ofNat n)), _, _, _, X4, rfl, rfl, rfl, (fun h => by cases h), ⟨rfl, q4.trans hh2⟩, fun fs hl => c5.trans (X4.ireturnOut hexec hret rfl (Or.inl rfl) (hb hbytes d10) hl)⟩
theorem pays {l : Launch} {R : Room} {p : Program} {e : Env} {below : List Frame} {s : State} {sargs : Array Value} {len W : Nat} (x t : Addr) (V : Cell) (cd : Int32) (n : Nat) (f : Nat → Int32) (z : Int32) (htab : tab.before sargs s = true) (hfr : 2 ≤ R.frames) (hlo : W + 25 ≤ R.locals) :
    Back l R p e below s sargs yN len W (fun A₁ a₁ => A₁.cells + 0 ≤ R.cells ∧ A₁.slots + 0 ≤ R.slots ∧ P x t V cd n f z a₁ A₁.U) (fun A₁ _ v₁ B₁ => E n v₁ A₁.U B₁.U ∧ B₁.locs = A₁.locs ++ [] ∧ B₁.cells = A₁.cells + 0 ∧ B₁.slots = A₁.slots + 0) :=
  (law l x t V cd n f z).pays htab hfr (by omega)
end Len
namespace IsL
def yN : MethodName := ⟨"java/lang/String", "isLatin1", "()Z"⟩
abbrev yB : ByteArray := jdk_42_method_154_code
theorem d0 : decode yB 0 = .ok (.getstatic 38, 3) := by decide +kernel
theorem d3 : decode yB 3 = .ok (.ifCond (.eq) 14, 3) := by decide +kernel
theorem d6 : decode yB 6 = .ok (.aload_n 0, 1) := by decide +kernel
theorem d7 : decode yB 7 = .ok (.getfield 15, 3) := by decide +kernel
theorem d10 : decode yB 10 = .ok (.ifCond (.ne) 7, 3) := by decide +kernel
theorem d13 : decode yB 13 = .ok (.iconst 1, 1) := by decide +kernel
theorem d14 : decode yB 14 = .ok (.goto 4, 3) := by decide +kernel
theorem d17 : decode yB 17 = .ok (.iconst 0, 1) := by decide +kernel
theorem d18 : decode yB 18 = .ok (.ireturn, 1) := by decide +kernel
def site : List Cond := [.fieldLink "java/lang/String" 38 "java/lang/String" "COMPACT_STRINGS" "Z", .fieldLink "java/lang/String" 15 "java/lang/String" "coder" "B"]
def tab : Cond := tabOf yN yB 1 (some .boolean) site
def P (x : Addr) (cd z : Int32) (args : Array Value) (s : State) : Prop := args = #[.ref x] ∧ Has x "java/lang/String" "coder" "B" (.int cd) s ∧ (cd = 0 ∨ cd = 1) ∧ StaticIs s "java/lang/String" "COMPACT_STRINGS" "Z" (.int z) ∧ ¬ z = 0
def E (cd : Int32) (r : Option Value) (s u : State) : Prop := XT.PureE (some (.int (1 - cd))) r s u
theorem law (l : Launch) (x : Addr) (cd z : Int32) : Law l yN 1 0 0 0 yB 1 (some .boolean) site (P x cd z) (E cd) [] 0 0 := by
  refine Law.of_walk (plainFor_of_name (by decide +kernel)) (by decide +kernel) (by decide +kernel) (by decide) (fun _ _ h => by rw [h.1]; rfl) (fun _ U U' hal hh h => ⟨h.1, h.2.1.mv hal hh, h.2.2.1, h.2.2.2.1.there hal hh, h.2.2.2.2⟩) (fun r U U' V V' h1 hal h2 h => XT.PureE.mv r U U' V V' h1 hal h2 h) ?_
  intro p e s m args below meth c s₁ X0 hexec hbytes hml hret hlk hnm hown hh0 W hP
  obtain ⟨rfl, hx, hc, s1, hz⟩ := hP
  have c1 : Steps p.tables e below (s₁.setTop (entryFrame m #[.ref x] 1)) (s₁.setTop (mkF m 0 #[.val (.ref x)] [])) := entry rfl
  obtain ⟨T2, X2, q2, st2⟩ := X0.sget hexec hown (wk W (.fieldLink "java/lang/String" 38 "java/lang/String" "COMPACT_STRINGS" "Z")) s1 (fun _ _ h => by rw [hh0]; exact h) (g := (mkF m 0 #[.val (.ref x)] [])) rfl (hb hbytes d0)
  have hh2 := q2.trans hh0
  have c3 : Steps p.tables e below (s₁.setTop (entryFrame m #[.ref x] 1)) (T2.setTop (mkF m 7 #[.val (.ref x)] [.ref x])) := (c1.trans (st2 _ (Steps.refl _))).trans (by
    refine XS.ifNo X2.here hexec rfl (hb hbytes d3) rfl (i0_eq_f hz) ?_
    refine XS.aloadN X2.here hexec rfl (hb hbytes d6) rfl rfl ?_
    exact Steps.refl _)
  obtain ⟨T4, X4, q4, st4⟩ := X2.hget hexec hown (wk W (.fieldLink "java/lang/String" 15 "java/lang/String" "coder" "B")) (hx.mv X2.warmed.alike hh2) (g := (mkF m 7 #[.val (.ref x)] [.ref x])) rfl (rest := []) rfl (hb hbytes d7)
  have c5 : Steps p.tables e below (s₁.setTop (entryFrame m #[.ref x] 1)) (T4.setTop (mkF m 10 #[.val (.ref x)] [.int cd])) := c3.trans (st4 _ (Steps.refl _))
  have c6 : Steps p.tables e below (s₁.setTop (entryFrame m #[.ref x] 1)) (T4.setTop (mkF m 18 #[.val (.ref x)] [.int (1 - cd)])) := by
    rcases hc with rfl | rfl
    · exact c5.trans (by
        refine XS.ifNo X4.here hexec rfl (hb hbytes d10) rfl (i0_ne_f rfl) ?_
        refine iconstV X4.here hexec rfl 1 (hb hbytes d13) (by decide) ?_
        refine XS.goto X4.here hexec rfl (pc0 := 14) rfl (hb hbytes d14) (by decide) rfl ?_
        exact Steps.refl _)
    · exact c5.trans (by
        refine XS.ifYes X4.here hexec rfl (pc0 := 10) rfl (hb hbytes d10) rfl (i0_ne_t (by decide)) (by decide) rfl ?_
        refine iconstV X4.here hexec rfl 0 (hb hbytes d17) (by decide) ?_
        exact Steps.refl _)
  exact ⟨T4, some (.int (1 - cd)), _, _, _, X4, rfl, rfl, rfl, (fun h => by cases h), ⟨rfl, q4.trans hh2⟩, fun fs hl => c6.trans (X4.ireturnOut hexec hret (by rcases hc with rfl | rfl <;> rfl) (Or.inr (Or.inl rfl)) (hb hbytes d18) hl)⟩
end IsL
namespace LChA
def yN : MethodName := ⟨"java/lang/StringLatin1", "charAt", "([BI)C"⟩
abbrev yB : ByteArray := jdk_43_method_2_code
theorem d0 : decode yB 0 = .ok (.iload_n 1, 1) := by decide +kernel
theorem d1 : decode yB 1 = .ok (.aload_n 0, 1) := by decide +kernel
theorem d2 : decode yB 2 = .ok (.arraylength, 1) := by decide +kernel
theorem d3 : decode yB 3 = .ok (.invokestatic 9, 3) := by decide +kernel
theorem d6 : decode yB 6 = .ok (.aload_n 0, 1) := by decide +kernel
theorem d7 : decode yB 7 = .ok (.iload_n 1, 1) := by decide +kernel
theorem d8 : decode yB 8 = .ok (.baload, 1) := by decide +kernel
theorem d9 : decode yB 9 = .ok (.sipush 255, 3) := by decide +kernel
theorem d12 : decode yB 12 = .ok (.iand, 1) := by decide +kernel
theorem d13 : decode yB 13 = .ok (.i2c, 1) := by decide +kernel
theorem d14 : decode yB 14 = .ok (.ireturn, 1) := by decide +kernel
def site : List Cond := [JO.Str_checkIndex.tab] ++ staticW "java/lang/StringLatin1" 9 JO.Str_checkIndex.yN
def tab : Cond := tabOf yN yB 2 (some .char) site
def P (t : Addr) (V : Cell) (i : Nat) (u : Int32) (fm : Value) (args : Array Value) (s : State) : Prop := args = #[.ref t, .int (Int32.ofNat i)] ∧ XT.Arr .byte t V s ∧ V.slots[i]? = some (.int u) ∧ (StaticIs s "jdk/internal/util/Preconditions" "SIOOBE_FORMATTER" "Ljava/util/function/BiFunction;" fm ∧ fm.isRef = true)
def E (u : Int32) (r : Option Value) (s w : State) : Prop := XT.PureE (some (.int (chr8 u))) r s w
theorem law (l : Launch) (t : Addr) (V : Cell) (i : Nat) (u : Int32) (fm : Value) : Law l yN 2 2 2 27 yB 2 (some .char) site (P t V i u fm) (E u) [] 0 0 := by
  refine Law.of_walk (plainFor_of_name (by decide +kernel)) (by decide +kernel) (by decide +kernel) (by decide) (fun _ _ h => by rw [h.1]; rfl) (fun _ U U' hal hh h => ⟨h.1, h.2.1.mv hal hh, h.2.2.1, h.2.2.2.1.there hal hh, h.2.2.2.2⟩) (fun r U U' V V' h1 hal h2 h => XT.PureE.mv r U U' V V' h1 hal h2 h) ?_
  intro p e s m args below meth c s₁ X0 hexec hbytes hml hret hlk hnm hown hh0 W hP
  obtain ⟨rfl, hV, hu, s1, rf⟩ := hP
  have v31 := hV.2.2.2
  have hi : i < V.slots.size := (Array.getElem?_eq_some_iff.mp hu).1
  have c1 : Steps p.tables e below (s₁.setTop (entryFrame m #[.ref t, .int (Int32.ofNat i)] 2)) (s₁.setTop (mkF m 0 #[.val (.ref t), .val (.int (Int32.ofNat i))] [])) := entry rfl
  have c2 : Steps p.tables e below (s₁.setTop (entryFrame m #[.ref t, .int (Int32.ofNat i)] 2)) (s₁.setTop (mkF m 3 #[.val (.ref t), .val (.int (Int32.ofNat i))] [.int (Int32.ofNat V.slots.size), .int (Int32.ofNat i)])) := c1.trans (by
    refine XS.iloadN X0.here hexec rfl (hb hbytes d0) rfl ?_
    refine XS.aloadN X0.here hexec rfl (hb hbytes d1) rfl rfl ?_
    refine X0.alen hexec (hV.mv X0.warmed.alike hh0) rfl rfl (hb hbytes d2) ?_
    exact Steps.refl _)
  obtain ⟨v3, T3, X3, E3, g3⟩ := X0.callS hexec (JO.Str_checkIndex.law l (Int32.ofNat i) (Int32.ofNat V.slots.size) fm) hown (wks W (staticW "java/lang/StringLatin1" 9 JO.Str_checkIndex.yN)) (wk W JO.Str_checkIndex.tab) (W := 0) (Nat.le_of_ble_eq_true rfl) (Nat.le_of_ble_eq_true rfl) (Nat.le_refl _) (Nat.le_refl _) (g := (mkF m 3 #[.val (.ref t), .val (.int (Int32.ofNat i))] [.int (Int32.ofNat V.slots.size), .int (Int32.ofNat i)])) rfl (by rw [hml]; rfl) c2 (argsL := [.int (Int32.ofNat i), .int (Int32.ofNat V.slots.size)]) (rest := []) rfl rfl (by show 2 * 0 + 0 ≤ _; decide) (hb hbytes d3) (⟨rfl, rf, s1.there X0.warmed.alike hh0, Int32.ofNat_not_neg (by omega), lt32 v31 hi⟩)
  obtain ⟨rfl, q3⟩ := E3
  have hh3 := q3.trans hh0
  have c4 : Steps p.tables e below (s₁.setTop (entryFrame m #[.ref t, .int (Int32.ofNat i)] 2)) (T3.setTop (mkF m 14 #[.val (.ref t), .val (.int (Int32.ofNat i))] [.int (chr8 u)])) := Steps.trans g3 (by
    refine XS.aloadN X3.here hexec rfl (hb hbytes d6) rfl rfl ?_
    refine XS.iloadN X3.here hexec rfl (hb hbytes d7) rfl ?_
    refine X3.aget hexec (hV.mv X3.warmed.alike hh3) rfl hu rfl rfl (hb hbytes d8) ?_
    refine sipushV X3.here hexec rfl 255 (hb hbytes d9) (by decide) ?_
    refine XS.iand X3.here hexec rfl (hb hbytes d12) rfl ?_
    refine i2c X3.here hexec rfl (hb hbytes d13) rfl ?_
    exact Steps.refl _)
  exact ⟨T3, some (.int (chr8 u)), _, _, _, X3, rfl, rfl, rfl, (fun h => by cases h), ⟨rfl, hh3⟩, fun fs hl => c4.trans (X3.ireturnOut hexec hret (narrow_c _) (Or.inr (Or.inr (Or.inr (Or.inl rfl)))) (hb hbytes d14) hl)⟩
end LChA
end StrChars
namespace StrChars.Road
open Jvm Sem ClassFile Op Lib Jvm.Stand Jvm.Free Jvm.Free.XT
open Jvm.Lib.Cold (StaticIs)
theorem consq {a : Array Value} {s : State} {c : Jvm.Cond} {L : List Jvm.Cond} (h0 : c.before a s = true) (h : ∀ w ∈ L, w.before a s = true) : ∀ w ∈ c :: L, w.before a s = true := fun w hw => (List.mem_cons.mp hw).elim (fun e => e ▸ h0) (h w)
/-- the words of String.length(), either coding -/
abbrev wordsLen : List Jvm.Cond := [.code Len.yN Len.yB 1 (some .int), .initialized ST, .fieldLink ST 9 ST "value" "[B", .fieldLink ST 38 ST "COMPACT_STRINGS" "Z", .fieldLink ST 15 ST "coder" "B", .code Cdr.yN Cdr.yB 1 (some .byte), .methodLink ST 335 Cdr.yN, .declares Cdr.yN, .selects ST Cdr.yN Cdr.yN, .instanceMethod Cdr.yN]
theorem tabLen_of {a : Array Value} {s : State} (h : ∀ w ∈ wordsLen, w.before a s = true) : Len.tab.before a s = true := by
  have hc : Cdr.tab.before a s = true := unparts (wk h (.code Cdr.yN Cdr.yB 1 (some .byte))) (wks h (.initialized Cdr.yN.cls :: Cdr.site))
  have q := consq hc h
  exact unparts (wk q (.code Len.yN Len.yB 1 (some .int))) (wks q (.initialized Len.yN.cls :: Len.site))
theorem movedLen {Z s : State} {a0 args : Array Value} (hZ : Z.Warmed39 s.vm) (hw : ∀ d ∈ wordsLen, d.before a0 Z = true) : ∀ d ∈ wordsLen, d.before args s = true := fun d hd => by
  have q := hw d hd
  have t : ∀ d ∈ wordsLen, d = .arrayClass .byte ∨ (d.onTables && d.keepsFace) = true := by decide +kernel
  rcases t d hd with rfl | t
  · exact RoadKit.mvA hZ q
  · exact RoadKit.mv hZ q t
/-- the bytes of the chars cs, low before high -/
def wideBytes : List Int32 → List Value
  | [] => []
  | c :: cs => .int (lo8 c) :: .int (hi8 c) :: wideBytes cs
theorem wide_lo (d : Value) : ∀ (cs : List Int32) (j : Nat), j < cs.length → (wideBytes cs).getD (2 * j) d = .int (lo8 (cs.getD j 0))
  | [], j, h => absurd h (Nat.not_lt_zero j)
  | c :: cs, 0, _ => rfl
  | c :: cs, j + 1, h => by
    have q := wide_lo d cs j (by simpa using h)
    rw [show 2 * (j + 1) = 2 * j + 1 + 1 from by omega]
    simpa [wideBytes] using q
theorem wide_hi (d : Value) : ∀ (cs : List Int32) (j : Nat), j < cs.length → (wideBytes cs).getD (2 * j + 1) d = .int (hi8 (cs.getD j 0))
  | [], j, h => absurd h (Nat.not_lt_zero j)
  | c :: cs, 0, _ => rfl
  | c :: cs, j + 1, h => by
    have q := wide_hi d cs j (by simpa using h)
    rw [show 2 * (j + 1) + 1 = 2 * j + 1 + 1 + 1 from by omega]
    simpa [wideBytes] using q
theorem low_at (d : Value) (cs : List Int32) (j : Nat) (h : j < cs.length) : (cs.map fun c => Value.int (lo8 c)).getD j d = .int (lo8 (cs.getD j 0)) := by
  simp [List.getD_eq_getElem?_getD, h]
/-- an array of N2 bytes vs codes the chars cs by the coder cd -/
def CodA (cs : List Int32) (cd N2 : Int32) (vs : List Value) : Prop := (cd = 0 ∧ N2 = Int32.ofNat cs.length ∧ vs = (cs.map fun c => Value.int (lo8 c)) ∧ ∀ c ∈ cs, ¬ 255 < c) ∨ (cd = 1 ∧ N2 = Int32.ofNat (2 * cs.length) ∧ vs = wideBytes cs ∧ ∃ c ∈ cs, 255 < c)
theorem CodA.cod {cs : List Int32} {cd N2 : Int32} {vs : List Value} {V : Cell} (h : CodA cs cd N2 vs) (hn : 2 * cs.length < 2 ^ 31) (hs : V.slots.size = N2.toNatClampNeg) (hv : RoadKit.Has V vs (.int 0)) : Cod cd cs.length (fun j => cs.getD j 0) V := by
  rcases h with ⟨rfl, rfl, rfl, h⟩ | ⟨rfl, rfl, rfl, c, hc, hw⟩
  · rw [n32 (by omega)] at hs
    exact Or.inl ⟨rfl, hs, fun j hj => ⟨by rw [hv j (by omega), low_at _ _ _ hj], by
      have e : cs.getD j 0 = cs[j] := by simp [List.getD_eq_getElem?_getD, hj]
      show ¬ 255 < cs.getD j 0
      rw [e]; exact h _ (List.getElem_mem _)⟩⟩
  · rw [n32 (by omega)] at hs
    obtain ⟨j, hj, rfl⟩ := List.getElem_of_mem hc
    exact Or.inr ⟨rfl, hs, fun j hj => ⟨by rw [hv _ (by omega), wide_lo _ _ _ hj], by rw [hv _ (by omega), wide_hi _ _ _ hj]⟩, j, hj, by
      have e : cs.getD j 0 = cs[j] := by simp [List.getD_eq_getElem?_getD, hj]
      show 255 < cs.getD j 0
      rw [e]; exact hw⟩
/-- an object of exactly java/lang/String, its two fields found: as the laws ask it -/
theorem strObj {Z U : State} {a0 : Array Value} {kI : Nat} (wi : (Jvm.Cond.instantiable ST kI).before a0 Z = true) (al : Z.vm.Alike U.vm) {x : Addr} {v0 c0 : Value} (E : RoadKit.Exa Z U.heap x ST) (V : RoadKit.Fld Z U.heap x ST "value" "[B" v0) (C : RoadKit.Fld Z U.heap x ST "coder" "B" c0) :
    ∃ (D : Cell) (fV fC : Field), Blank ST x D U ∧ Found ST "value" "[B" fV U ∧ Found ST "coder" "B" fC U ∧ D.slots[fV.slot]? = some v0 ∧ D.slots[fC.slot]? = some c0 ∧ RoadKit.slotOf Z ST "value" "[B" = fV.slot ∧ RoadKit.slotOf Z ST "coder" "B" = fC.slot := by
  obtain ⟨D, cfV, kV, iV, fV, hD, gV, stV, knV, obV, asV, slV⟩ := V
  obtain ⟨D', cfC, kC, iC, fC, hD', gC, stC, -, -, asC, slC⟩ := C
  cases hD.symm.trans hD'
  obtain ⟨D2, kD, e1, e2, e3, e4, e5⟩ := E
  cases hD.symm.trans e1
  obtain ⟨c2, k2, i1, i2, i3, -⟩ := Cond.instantiable_spec wi
  cases e2.symm.trans i1
  cases e3.symm.trans i2
  obtain ⟨kU, u1, u2⟩ := al.2.2 _ _ e3
  exact ⟨D, fV, fC, ⟨hD, ⟨knV, fun q hq => by rw [hq] at obV; cases obV⟩, by rw [al.findClass]; exact e2, kU, u1, by rw [u2]; exact i3, by rw [u2]; exact e5 i3⟩, ⟨SBG.found_only al ⟨cfV, kV, iV, gV⟩, stV⟩, ⟨SBG.found_only al ⟨cfC, kC, iC, gC⟩, stC⟩, slV, slC, by simp [RoadKit.slotOf, gV], by simp [RoadKit.slotOf, gC]⟩
theorem sta_is {Z U : State} (al : Z.vm.Alike U.vm) {C n d : String} {v : Value} (S : RoadKit.Sta Z U.heap C n d v) : StaticIs U C n d v := by
  obtain ⟨cfS, iS, kS, fS, st, cS, t1, t2, t3, t4, t5, t6, t7⟩ := S
  exact StaticIs.there (s := { Z with heap := U.heap }) ⟨cfS, iS, kS, fS, st, cS, t1, t2, t3, t4, t5, (fun q => by rw [q] at t6; cases t6), t7⟩ al rfl
/-- **length() OF SUCH A STRING** -/
theorem lenW {p : Program} {l : Launch} {e : Env} {R : Room} {s : State} {args : Array Value} {below : List Frame} {len W : Nat} {Z : State} {a0 : Array Value} {h : Heap} (hZ : Z.Warmed39 s.vm) (hw : ∀ d ∈ wordsLen, d.before a0 Z = true) {kI : Nat} (wi : (Jvm.Cond.instantiable ST kI).before a0 Z = true)
    {x t : Addr} {kb : ClassId} {cs : List Int32} {cd N2 z : Int32} {vs : List Value} (E : RoadKit.Exa Z h x ST) (V : RoadKit.Fld Z h x ST "value" "[B" (.ref t)) (C : RoadKit.Fld Z h x ST "coder" "B" (.int cd)) (K : RoadKit.Arv Z h t kb .byte N2 vs (.int 0)) (hc : CodA cs cd N2 vs) (hb : ∀ c ∈ cs, ¬ c < 0 ∧ ¬ (65535 : Int32) < c)
    (S : RoadKit.Sta Z h ST "COMPACT_STRINGS" "Z" (.int z)) (hz : ¬ z = 0) (l2 : cs.length ≤ 4000) (hfr : 2 ≤ R.frames) (hlo : W + 25 ≤ R.locals) :
    Back l R p e below s args (⟨"java/lang/String", "length", "()I"⟩ : MethodName) len W (fun P a => a = #[.ref x] ∧ P.U.heap = h ∧ P.cells + 0 ≤ R.cells ∧ P.slots + 0 ≤ R.slots)
      (fun P _ v B => ∃ L, (v = some (.int (Int32.ofNat cs.length)) ∧ L = [] ∧ B.U.heap = h) ∧ B.locs = P.locs ++ L ∧ B.cells = P.cells + 0 ∧ B.slots = P.slots + 0) := by
  obtain ⟨A, K1, K2, K3, K4, K5, K6⟩ := K
  have hcod := hc.cod (by omega) K3 K5
  intro m meth c P g ig mk a X hg hsize hdg hW hn hp'
  obtain ⟨rfl, rfl, r1, r2⟩ := hp'
  have al : Z.vm.Alike P.U.vm := hZ.alike.trans X.warmed.alike
  obtain ⟨D, fV, fC, hB, F1, F2, g1, g2, -, -⟩ := strObj wi al E V C
  have hx : Txt x t A cd cs.length (fun j => cs.getD j 0) P.U := ⟨⟨_, hB.2.2.1, D, hB.1, rfl, by cases q : D.vm <;> first | rfl | exact absurd q (hB.2.1.2 _)⟩, Has.of hB F1 g1, Has.of hB F2 g2, ⟨K1.1, State.isArrayOf_alike al K1.2.1, K1.2.2, by rcases hcod with ⟨-, q, -⟩ | ⟨-, q, -⟩ <;> omega⟩, hcod, fun j hj => by
    have e : cs.getD j 0 = cs[j] := by simp [List.getD_eq_getElem?_getD, hj]
    show ¬ cs.getD j 0 < 0 ∧ ¬ 65535 < cs.getD j 0
    rw [e]; exact hb _ (List.getElem_mem _)⟩
  obtain ⟨v, B, X', ⟨⟨hv, hh⟩, hl, hk, hs⟩, st⟩ := Len.pays x t A cd cs.length (fun j => cs.getD j 0) z (tabLen_of (movedLen hZ hw)) hfr hlo m meth c P g ig mk _ X hg hsize hdg hW hn ⟨r1, r2, rfl, hx, sta_is al S, hz⟩
  exact ⟨v, B, X', ⟨[], ⟨hv, rfl, hh⟩, hl, hk, hs⟩, st⟩
end StrChars.Road
namespace StrChars
open Jvm Sem ClassFile Op Lib Jvm.Stand Jvm.Free.XT Jvm.Free.ALB Jvm.Free.JM Jvm.Free
open Jvm.Lib.Cold (StaticIs)
namespace Emp
def yN : MethodName := ⟨"java/lang/String", "isEmpty", "()Z"⟩
abbrev yB : ByteArray := jdk_42_method_55_code
theorem d0 : decode yB 0 = .ok (.aload_n 0, 1) := by decide +kernel
theorem d1 : decode yB 1 = .ok (.getfield 9, 3) := by decide +kernel
theorem d4 : decode yB 4 = .ok (.arraylength, 1) := by decide +kernel
theorem d5 : decode yB 5 = .ok (.ifCond (.ne) 7, 3) := by decide +kernel
theorem d8 : decode yB 8 = .ok (.iconst 1, 1) := by decide +kernel
theorem d9 : decode yB 9 = .ok (.goto 4, 3) := by decide +kernel
theorem d12 : decode yB 12 = .ok (.iconst 0, 1) := by decide +kernel
theorem d13 : decode yB 13 = .ok (.ireturn, 1) := by decide +kernel
def site : List Cond := [.fieldLink "java/lang/String" 9 "java/lang/String" "value" "[B"]
def tab : Cond := tabOf yN yB 1 (some .boolean) site
def P (x t : Addr) (V : Cell) (cd : Int32) (n : Nat) (f : Nat → Int32) (args : Array Value) (s : State) : Prop := args = #[.ref x] ∧ Txt x t V cd n f s
def E (n : Nat) (r : Option Value) (s u : State) : Prop := XT.PureE (some (.int (if n = 0 then 1 else 0))) r s u
/-- isEmpty() of a String of n chars -/
theorem law (l : Launch) (x t : Addr) (V : Cell) (cd : Int32) (n : Nat) (f : Nat → Int32) : Law l yN 1 0 0 0 yB 1 (some .boolean) site (P x t V cd n f) (E n) [] 0 0 := by
  refine Law.of_walk (plainFor_of_name (by decide +kernel)) (by decide +kernel) (by decide +kernel) (by decide) (fun _ _ h => by rw [h.1]; rfl) (fun _ U U' hal hh h => ⟨h.1, h.2.mv hal hh⟩) (fun r U U' V V' h1 hal h2 h => XT.PureE.mv r U U' V V' h1 hal h2 h) ?_
  intro p e s m args below meth c s₁ X0 hexec hbytes hml hret hlk hnm hown hh0 W hP
  obtain ⟨rfl, hx⟩ := hP
  have v31 := hx.2.2.2.1.2.2.2
  have c1 : Steps p.tables e below (s₁.setTop (entryFrame m #[.ref x] 1)) (s₁.setTop (mkF m 1 #[.val (.ref x)] [.ref x])) := Steps.trans (entry rfl) (by
    show Steps p.tables e below (s₁.setTop (mkF m 0 #[.val (.ref x)] [])) _
    refine XS.aloadN X0.here hexec rfl (hb hbytes d0) rfl rfl ?_
    exact Steps.refl _)
  obtain ⟨T2, X2, q2, st2⟩ := X0.hget hexec hown (wk W (.fieldLink "java/lang/String" 9 "java/lang/String" "value" "[B")) (hx.mv X0.warmed.alike hh0).2.1 (g := (mkF m 1 #[.val (.ref x)] [.ref x])) rfl (rest := []) rfl (hb hbytes d1)
  have hh2 := q2.trans hh0
  have hx2 := hx.mv X2.warmed.alike hh2
  have c3 : Steps p.tables e below (s₁.setTop (entryFrame m #[.ref x] 1)) (T2.setTop (mkF m 5 #[.val (.ref x)] [.int (Int32.ofNat V.slots.size)])) := (c1.trans (st2 _ (Steps.refl _))).trans (by
    refine X2.alen hexec hx2.2.2.2.1 rfl rfl (hb hbytes d4) ?_
    exact Steps.refl _)
  have hz : V.slots.size = 0 ↔ n = 0 := by
    rcases hx.2.2.2.2.1 with ⟨-, q, -⟩ | ⟨-, q, -⟩ <;> omega
  by_cases h0 : n = 0
  · have c4 : Steps p.tables e below (s₁.setTop (entryFrame m #[.ref x] 1)) (T2.setTop (mkF m 13 #[.val (.ref x)] [.int 1])) := c3.trans (by
      refine XS.ifNo X2.here hexec rfl (hb hbytes d5) rfl (i0_ne_f (by rw [hz.mpr h0]; rfl)) ?_
      refine iconstV X2.here hexec rfl 1 (hb hbytes d8) (by decide) ?_
      refine XS.goto X2.here hexec rfl (pc0 := 9) rfl (hb hbytes d9) (by decide) rfl ?_
      exact Steps.refl _)
    exact ⟨T2, some (.int 1), _, _, _, X2, rfl, rfl, rfl, (fun h => by cases h), ⟨by rw [if_pos h0], hh2⟩, fun fs hl => c4.trans (X2.ireturnOut hexec hret rfl (Or.inr (Or.inl rfl)) (hb hbytes d13) hl)⟩
  · have c4 : Steps p.tables e below (s₁.setTop (entryFrame m #[.ref x] 1)) (T2.setTop (mkF m 13 #[.val (.ref x)] [.int 0])) := c3.trans (by
      refine XS.ifYes X2.here hexec rfl (pc0 := 5) rfl (hb hbytes d5) rfl (i0_ne_t (nz32 v31 (by omega))) (by decide) rfl ?_
      refine iconstV X2.here hexec rfl 0 (hb hbytes d12) (by decide) ?_
      exact Steps.refl _)
    exact ⟨T2, some (.int 0), _, _, _, X2, rfl, rfl, rfl, (fun h => by cases h), ⟨by rw [if_neg h0], hh2⟩, fun fs hl => c4.trans (X2.ireturnOut hexec hret rfl (Or.inr (Or.inl rfl)) (hb hbytes d13) hl)⟩
theorem pays {l : Launch} {R : Room} {p : Program} {e : Env} {below : List Frame} {s : State} {sargs : Array Value} {len W : Nat} (x t : Addr) (V : Cell) (cd : Int32) (n : Nat) (f : Nat → Int32) (htab : tab.before sargs s = true) (hfr : 1 ≤ R.frames) (hlo : W + 12 ≤ R.locals) :
    Back l R p e below s sargs yN len W (fun A₁ a₁ => A₁.cells + 0 ≤ R.cells ∧ A₁.slots + 0 ≤ R.slots ∧ P x t V cd n f a₁ A₁.U) (fun A₁ _ v₁ B₁ => E n v₁ A₁.U B₁.U ∧ B₁.locs = A₁.locs ++ [] ∧ B₁.cells = A₁.cells + 0 ∧ B₁.slots = A₁.slots + 0) :=
  (law l x t V cd n f).pays htab hfr (by omega)
end Emp
end StrChars
namespace StrChars.Road
open Jvm Sem ClassFile Op Lib Jvm.Stand Jvm.Free Jvm.Free.XT
open Jvm.Lib.Cold (StaticIs)
/-- the words of String.isEmpty() -/
abbrev wordsEmp : List Jvm.Cond := [.code Emp.yN Emp.yB 1 (some .boolean), .initialized ST, .fieldLink ST 9 ST "value" "[B"]
theorem tabEmp_of {a : Array Value} {s : State} (h : ∀ w ∈ wordsEmp, w.before a s = true) : Emp.tab.before a s = true := unparts (wk h (.code Emp.yN Emp.yB 1 (some .boolean))) (wks h (.initialized Emp.yN.cls :: Emp.site))
theorem movedEmp {Z s : State} {a0 args : Array Value} (hZ : Z.Warmed39 s.vm) (hw : ∀ d ∈ wordsEmp, d.before a0 Z = true) : ∀ d ∈ wordsEmp, d.before args s = true := fun d hd => by
  have t : ∀ d ∈ wordsEmp, (d.onTables && d.keepsFace) = true := by decide +kernel
  exact RoadKit.mv hZ (hw d hd) (t d hd)
/-- the road's facts of a String, as the laws ask it -/
theorem txt_of {Z U : State} {a0 : Array Value} {kI : Nat} (wi : (Jvm.Cond.instantiable ST kI).before a0 Z = true) (al : Z.vm.Alike U.vm) {x t : Addr} {kb : ClassId} {cs : List Int32} {cd N2 : Int32} {vs : List Value} (E : RoadKit.Exa Z U.heap x ST) (V : RoadKit.Fld Z U.heap x ST "value" "[B" (.ref t)) (C : RoadKit.Fld Z U.heap x ST "coder" "B" (.int cd)) (K : RoadKit.Arv Z U.heap t kb .byte N2 vs (.int 0)) (hc : CodA cs cd N2 vs) (hb : ∀ c ∈ cs, ¬ c < 0 ∧ ¬ (65535 : Int32) < c) (l2 : cs.length ≤ 4000) :
    ∃ A, Txt x t A cd cs.length (fun j => cs.getD j 0) U := by
  obtain ⟨A, K1, K2, K3, K4, K5, K6⟩ := K
  have hcod := hc.cod (by omega) K3 K5
  obtain ⟨D, fV, fC, hB, F1, F2, g1, g2, -, -⟩ := strObj wi al E V C
  exact ⟨A, ⟨_, hB.2.2.1, D, hB.1, rfl, by cases q : D.vm <;> first | rfl | exact absurd q (hB.2.1.2 _)⟩, Has.of hB F1 g1, Has.of hB F2 g2, ⟨K1.1, State.isArrayOf_alike al K1.2.1, K1.2.2, by rcases hcod with ⟨-, q, -⟩ | ⟨-, q, -⟩ <;> omega⟩, hcod, fun j hj => by
    have e : cs.getD j 0 = cs[j] := by simp [List.getD_eq_getElem?_getD, hj]
    show ¬ cs.getD j 0 < 0 ∧ ¬ 65535 < cs.getD j 0
    rw [e]; exact hb _ (List.getElem_mem _)⟩
/-- **isEmpty() OF SUCH A STRING** -/
theorem empW {p : Program} {l : Launch} {e : Env} {R : Room} {s : State} {args : Array Value} {below : List Frame} {len W : Nat} {Z : State} {a0 : Array Value} {h : Heap} (hZ : Z.Warmed39 s.vm) (hw : ∀ d ∈ wordsEmp, d.before a0 Z = true) {kI : Nat} (wi : (Jvm.Cond.instantiable ST kI).before a0 Z = true)
    {x t : Addr} {kb : ClassId} {cs : List Int32} {cd N2 : Int32} {vs : List Value} (E : RoadKit.Exa Z h x ST) (V : RoadKit.Fld Z h x ST "value" "[B" (.ref t)) (C : RoadKit.Fld Z h x ST "coder" "B" (.int cd)) (K : RoadKit.Arv Z h t kb .byte N2 vs (.int 0)) (hc : CodA cs cd N2 vs) (hb : ∀ c ∈ cs, ¬ c < 0 ∧ ¬ (65535 : Int32) < c) (l2 : cs.length ≤ 4000) (hfr : 1 ≤ R.frames) (hlo : W + 12 ≤ R.locals) :
    Back l R p e below s args (⟨"java/lang/String", "isEmpty", "()Z"⟩ : MethodName) len W (fun P a => a = #[.ref x] ∧ P.U.heap = h ∧ P.cells + 0 ≤ R.cells ∧ P.slots + 0 ≤ R.slots)
      (fun P _ v B => ∃ L, (v = some (.int (if cs.length = 0 then 1 else 0)) ∧ L = [] ∧ B.U.heap = h) ∧ B.locs = P.locs ++ L ∧ B.cells = P.cells + 0 ∧ B.slots = P.slots + 0) := by
  intro m meth c P g ig mk a X hg hsize hdg hW hn hp'
  obtain ⟨rfl, rfl, r1, r2⟩ := hp'
  have al : Z.vm.Alike P.U.vm := hZ.alike.trans X.warmed.alike
  obtain ⟨A, hx⟩ := txt_of wi al E V C K hc hb l2
  obtain ⟨v, B, X', ⟨⟨hv, hh⟩, hl, hk, hs⟩, st⟩ := Emp.pays x t A cd cs.length (fun j => cs.getD j 0) (tabEmp_of (movedEmp hZ hw)) hfr hlo m meth c P g ig mk _ X hg hsize hdg hW hn ⟨r1, r2, rfl, hx⟩
  exact ⟨v, B, X', ⟨[], ⟨hv, rfl, hh⟩, hl, hk, hs⟩, st⟩
end StrChars.Road
namespace StrChars
open Jvm Sem ClassFile Op Lib Jvm.Stand Jvm.Free.XT Jvm.Free.ALB Jvm.Free.JM Jvm.Free
open Jvm.Lib.Cold (StaticIs)
namespace ChN
def yN : MethodName := ⟨"java/lang/String", "charAt", "(I)C"⟩
abbrev yB : ByteArray := jdk_42_method_56_code
theorem d0 : decode yB 0 = .ok (.aload_n 0, 1) := by decide +kernel
theorem d1 : decode yB 1 = .ok (.invokevirtual 492, 3) := by decide +kernel
theorem d4 : decode yB 4 = .ok (.ifCond (.eq) 12, 3) := by decide +kernel
theorem d7 : decode yB 7 = .ok (.aload_n 0, 1) := by decide +kernel
theorem d8 : decode yB 8 = .ok (.getfield 9, 3) := by decide +kernel
theorem d11 : decode yB 11 = .ok (.iload_n 1, 1) := by decide +kernel
theorem d12 : decode yB 12 = .ok (.invokestatic 495, 3) := by decide +kernel
theorem d15 : decode yB 15 = .ok (.ireturn, 1) := by decide +kernel
def site : List Cond := [.fieldLink "java/lang/String" 9 "java/lang/String" "value" "[B", IsL.tab, LChA.tab] ++ virtW "java/lang/String" 492 "java/lang/String" IsL.yN IsL.yN ++ staticW "java/lang/String" 495 LChA.yN
def tab : Cond := tabOf yN yB 2 (some .char) site
def P (x t : Addr) (V : Cell) (n : Nat) (f : Nat → Int32) (z : Int32) (fm : Value) (i : Nat) (args : Array Value) (s : State) : Prop := args = #[.ref x, .int (Int32.ofNat i)] ∧ Txt x t V 0 n f s ∧ i < n ∧ StaticIs s "java/lang/String" "COMPACT_STRINGS" "Z" (.int z) ∧ ¬ z = 0 ∧ StaticIs s "jdk/internal/util/Preconditions" "SIOOBE_FORMATTER" "Ljava/util/function/BiFunction;" fm ∧ fm.isRef = true
def E (f : Nat → Int32) (i : Nat) (r : Option Value) (s u : State) : Prop := XT.PureE (some (.int (f i))) r s u
/-- charAt(i) of a Latin-1 String of n chars, i < n: f i -/
theorem law (l : Launch) (x t : Addr) (V : Cell) (n : Nat) (f : Nat → Int32) (z : Int32) (fm : Value) (i : Nat) : Law l yN 2 1 3 40 yB 2 (some .char) site (P x t V n f z fm i) (E f i) [] 0 0 := by
  refine Law.of_walk (plainFor_of_name (by decide +kernel)) (by decide +kernel) (by decide +kernel) (by decide) (fun _ _ h => by rw [h.1]; rfl) (fun _ U U' hal hh h => ⟨h.1, h.2.1.mv hal hh, h.2.2.1, h.2.2.2.1.there hal hh, h.2.2.2.2.1, h.2.2.2.2.2.1.there hal hh, h.2.2.2.2.2.2⟩) (fun r U U' V V' h1 hal h2 h => XT.PureE.mv r U U' V V' h1 hal h2 h) ?_
  intro p e s m args below meth c s₁ X0 hexec hbytes hml hret hlk hnm hown hh0 W hP
  obtain ⟨rfl, hx, hi, s1, hz, s3, rf⟩ := hP
  have v31 := hx.2.2.2.1.2.2.2
  have hr := hx.2.2.2.2.2 i hi
  have hx0 := hx.mv X0.warmed.alike hh0
  have c1 : Steps p.tables e below (s₁.setTop (entryFrame m #[.ref x, .int (Int32.ofNat i)] 2)) (s₁.setTop (mkF m 1 #[.val (.ref x), .val (.int (Int32.ofNat i))] [.ref x])) := Steps.trans (entry rfl) (by
    show Steps p.tables e below (s₁.setTop (mkF m 0 #[.val (.ref x), .val (.int (Int32.ofNat i))] [])) _
    refine XS.aloadN X0.here hexec rfl (hb hbytes d0) rfl rfl ?_
    exact Steps.refl _)
  obtain ⟨v2, T2, X2, E2, g2⟩ := X0.callV hexec (IsL.law l x 0 z) hown (wks W (virtW "java/lang/String" 492 "java/lang/String" IsL.yN IsL.yN)) rfl (by decide) (wk W IsL.tab) (W := 0) (Nat.le_of_ble_eq_true rfl) (Nat.le_of_ble_eq_true rfl) (Nat.le_refl _) (Nat.le_refl _) (hx0.1.fc X0.warmed.alike) hx0.1.is (g := (mkF m 1 #[.val (.ref x), .val (.int (Int32.ofNat i))] [.ref x])) rfl (by rw [hml]; rfl) c1 (argsL := []) (rest := []) rfl rfl (by show 2 * 0 + 0 ≤ _; decide) (hb hbytes d1) (⟨rfl, hx0.2.2.1, hx.2.2.2.2.1.cd, s1.there X0.warmed.alike hh0, hz⟩)
  obtain ⟨rfl, q2⟩ := E2
  have hh2 := q2.trans hh0
  have hx2 := hx.mv X2.warmed.alike hh2
  obtain ⟨-, k1, k2⟩ | ⟨k0, -⟩ := hx.2.2.2.2.1
  · have c3 : Steps p.tables e below (s₁.setTop (entryFrame m #[.ref x, .int (Int32.ofNat i)] 2)) (T2.setTop (mkF m 8 #[.val (.ref x), .val (.int (Int32.ofNat i))] [.ref x])) := Steps.trans g2 (by
      refine XS.ifNo X2.here hexec rfl (hb hbytes d4) rfl (i0_eq_f (by decide)) ?_
      refine XS.aloadN X2.here hexec rfl (hb hbytes d7) rfl rfl ?_
      exact Steps.refl _)
    obtain ⟨T4, X4, q4, st4⟩ := X2.hget hexec hown (wk W (.fieldLink "java/lang/String" 9 "java/lang/String" "value" "[B")) hx2.2.1 (g := (mkF m 8 #[.val (.ref x), .val (.int (Int32.ofNat i))] [.ref x])) rfl (rest := []) rfl (hb hbytes d8)
    have hh4 := q4.trans hh2
    have c5 : Steps p.tables e below (s₁.setTop (entryFrame m #[.ref x, .int (Int32.ofNat i)] 2)) (T4.setTop (mkF m 12 #[.val (.ref x), .val (.int (Int32.ofNat i))] [.int (Int32.ofNat i), .ref t])) := (c3.trans (st4 _ (Steps.refl _))).trans (by
      refine XS.iloadN X4.here hexec rfl (hb hbytes d11) rfl ?_
      exact Steps.refl _)
    obtain ⟨v6, T6, X6, E6, g6⟩ := X4.callS hexec (LChA.law l t V i (lo8 (f i)) fm) hown (wks W (staticW "java/lang/String" 495 LChA.yN)) (wk W LChA.tab) (W := 0) (Nat.le_of_ble_eq_true rfl) (Nat.le_of_ble_eq_true rfl) (Nat.le_refl _) (Nat.le_refl _) (g := (mkF m 12 #[.val (.ref x), .val (.int (Int32.ofNat i))] [.int (Int32.ofNat i), .ref t])) rfl (by rw [hml]; rfl) c5 (argsL := [.ref t, .int (Int32.ofNat i)]) (rest := []) rfl rfl (by show 2 * 0 + 0 ≤ _; decide) (hb hbytes d12) (⟨rfl, hx.2.2.2.1.mv X4.warmed.alike hh4, (k2 i hi).1, s3.there X4.warmed.alike hh4, rf⟩)
    obtain ⟨rfl, q6⟩ := E6
    rw [chr8_lo8 hr.1 (k2 i hi).2] at g6
    exact ⟨T6, some (.int (f i)), _, _, _, X6, rfl, rfl, rfl, (fun h => by cases h), ⟨rfl, q6.trans hh4⟩, fun fs hl => Steps.trans g6 (X6.ireturnOut hexec hret (narrow_ch hr.1 hr.2) (Or.inr (Or.inr (Or.inr (Or.inl rfl)))) (hb hbytes d15) hl)⟩
  · exact absurd k0 (by decide)
theorem pays {l : Launch} {R : Room} {p : Program} {e : Env} {below : List Frame} {s : State} {sargs : Array Value} {len W : Nat} (x t : Addr) (V : Cell) (n : Nat) (f : Nat → Int32) (z : Int32) (fm : Value) (i : Nat) (htab : tab.before sargs s = true) (hfr : 4 ≤ R.frames) (hlo : W + 53 ≤ R.locals) :
    Back l R p e below s sargs yN len W (fun A₁ a₁ => A₁.cells + 0 ≤ R.cells ∧ A₁.slots + 0 ≤ R.slots ∧ P x t V n f z fm i a₁ A₁.U) (fun A₁ _ v₁ B₁ => E f i v₁ A₁.U B₁.U ∧ B₁.locs = A₁.locs ++ [] ∧ B₁.cells = A₁.cells + 0 ∧ B₁.slots = A₁.slots + 0) :=
  (law l x t V n f z fm i).pays htab hfr (by omega)
end ChN
end StrChars
namespace StrChars.Road
open Jvm Sem ClassFile Op Lib Jvm.Stand Jvm.Free Jvm.Free.XT
open Jvm.Lib.Cold (StaticIs)
/-- the words of String.charAt(int), the Latin-1 road alone -/
abbrev wordsChN : List Jvm.Cond := [.code ChN.yN ChN.yB 2 (some .char), .initialized ST, .fieldLink ST 9 ST "value" "[B", .fieldLink ST 38 ST "COMPACT_STRINGS" "Z", .fieldLink ST 15 ST "coder" "B", .code IsL.yN IsL.yB 1 (some .boolean), .methodLink ST 492 IsL.yN, .declares IsL.yN, .selects ST IsL.yN IsL.yN, .instanceMethod IsL.yN,
  .methodLink ST 495 LChA.yN, .static LChA.yN, .code LChA.yN LChA.yB 2 (some .char), .initialized "java/lang/StringLatin1", .methodLink "java/lang/StringLatin1" 9 JO.Str_checkIndex.yN, .static JO.Str_checkIndex.yN, .code JO.Str_checkIndex.yN JO.Str_checkIndex.yB 2 none,
  .fieldLink ST 1053 "jdk/internal/util/Preconditions" "SIOOBE_FORMATTER" "Ljava/util/function/BiFunction;", .methodLink ST 1059 JC.PreCheck.yN, .static JC.PreCheck.yN, .code JC.PreCheck.yN JC.PreCheck.yB 3 (some .int), .initialized "jdk/internal/util/Preconditions"]
theorem tabChN_of {a : Array Value} {s : State} (h : ∀ w ∈ wordsChN, w.before a s = true) : ChN.tab.before a s = true := by
  have hp : JC.PreCheck.tab.before a s = true := unparts (wk h (.code JC.PreCheck.yN JC.PreCheck.yB 3 (some .int))) (wks h (.initialized JC.PreCheck.yN.cls :: JC.PreCheck.site))
  have qk := consq hp h
  have hk : JO.Str_checkIndex.tab.before a s = true := unparts (wk qk (.code JO.Str_checkIndex.yN JO.Str_checkIndex.yB 2 none)) (wks qk (.initialized JO.Str_checkIndex.yN.cls :: JO.Str_checkIndex.site))
  have ql := consq hk h
  have hl : LChA.tab.before a s = true := unparts (wk ql (.code LChA.yN LChA.yB 2 (some .char))) (wks ql (.initialized LChA.yN.cls :: LChA.site))
  have hi : IsL.tab.before a s = true := unparts (wk h (.code IsL.yN IsL.yB 1 (some .boolean))) (wks h (.initialized IsL.yN.cls :: IsL.site))
  have q := consq hi (consq hl h)
  exact unparts (wk q (.code ChN.yN ChN.yB 2 (some .char))) (wks q (.initialized ChN.yN.cls :: ChN.site))
theorem movedChN {Z s : State} {a0 args : Array Value} (hZ : Z.Warmed39 s.vm) (hw : ∀ d ∈ wordsChN, d.before a0 Z = true) : ∀ d ∈ wordsChN, d.before args s = true := fun d hd => by
  have t : ∀ d ∈ wordsChN, (d.onTables && d.keepsFace) = true := by decide +kernel
  exact RoadKit.mv hZ (hw d hd) (t d hd)
/-- **charAt(i) OF A LATIN-1 STRING**, i < n: the char -/
theorem chN {p : Program} {l : Launch} {e : Env} {R : Room} {s : State} {args : Array Value} {below : List Frame} {len W : Nat} {Z : State} {a0 : Array Value} {h : Heap} (hZ : Z.Warmed39 s.vm) (hw : ∀ d ∈ wordsChN, d.before a0 Z = true) {kI : Nat} (wi : (Jvm.Cond.instantiable ST kI).before a0 Z = true)
    {x t : Addr} {kb : ClassId} {cs : List Int32} {N2 z : Int32} {vs : List Value} {fm : Value} {i : Nat} {j : Int32} (E : RoadKit.Exa Z h x ST) (V : RoadKit.Fld Z h x ST "value" "[B" (.ref t)) (C : RoadKit.Fld Z h x ST "coder" "B" (.int 0)) (K : RoadKit.Arv Z h t kb .byte N2 vs (.int 0)) (hc : CodA cs 0 N2 vs) (hb : ∀ c ∈ cs, ¬ c < 0 ∧ ¬ (65535 : Int32) < c)
    (S : RoadKit.Sta Z h ST "COMPACT_STRINGS" "Z" (.int z)) (hz : ¬ z = 0) (F : RoadKit.Sta Z h "jdk/internal/util/Preconditions" "SIOOBE_FORMATTER" "Ljava/util/function/BiFunction;" fm) (rf : fm.isRef = true) (l2 : cs.length ≤ 4000) (hi : i < cs.length) (hj : j = Int32.ofNat i) (hfr : 4 ≤ R.frames) (hlo : W + 53 ≤ R.locals) :
    Back l R p e below s args (⟨"java/lang/String", "charAt", "(I)C"⟩ : MethodName) len W (fun P a => a = #[.ref x, .int j] ∧ P.U.heap = h ∧ P.cells + 0 ≤ R.cells ∧ P.slots + 0 ≤ R.slots)
      (fun P _ v B => ∃ L, (v = some (.int (cs.getD i 0)) ∧ L = [] ∧ B.U.heap = h) ∧ B.locs = P.locs ++ L ∧ B.cells = P.cells + 0 ∧ B.slots = P.slots + 0) := by
  subst hj
  intro m meth c P g ig mk a X hg hsize hdg hW hn hp'
  obtain ⟨rfl, rfl, r1, r2⟩ := hp'
  have al : Z.vm.Alike P.U.vm := hZ.alike.trans X.warmed.alike
  obtain ⟨A, hx⟩ := txt_of wi al E V C K hc hb l2
  obtain ⟨v, B, X', ⟨⟨hv, hh⟩, hl, hk, hs⟩, st⟩ := ChN.pays x t A cs.length (fun j => cs.getD j 0) z fm i (tabChN_of (movedChN hZ hw)) hfr hlo m meth c P g ig mk _ X hg hsize hdg hW hn ⟨r1, r2, rfl, hx, hi, sta_is al S, hz, sta_is al F, rf⟩
  exact ⟨v, B, X', ⟨[], ⟨hv, rfl, hh⟩, hl, hk, hs⟩, st⟩
end StrChars.Road
end Jvm.Pilot.@@N@@

namespace Jvm.Pilot.@@N@@
open Jvm Jvm.ClassFile Sem Op Lib Jvm.Free Jvm.Stand Jvm.LawKit Jvm.RoadKit Bundle Jvm.Pilot.@@N@@.Jvm.D
section OwnKit
variable {p : Program} {l : Launch} {e : Env} {R : Room} {s : State} {m : MethodId} {args : Array Value} {below : List Frame} {meth : Method} {c : Code} {T T' : State} {locs : List Loc} {cells slots : Nat}
/-- from the frame f in the state T the run comes to the method's end, and G holds there -/
def own_Goes (p : Program) (e : Env) (below : List Frame) (G : Outcome → State → Prop) (T : State) (f : JFrame) : Prop :=
  ∃ s₂ o, Steps p.tables e below (T.setTop f) s₂ ∧ s₂.status = .running ∧ Ended s₂ below o ∧ G o s₂
theorem own_of {G : Outcome → State → Prop} {f f' : JFrame} (st : ∀ t, Steps p.tables e below (T'.setTop f') t → Steps p.tables e below (T.setTop f) t) (h : own_Goes p e below G T' f') : own_Goes p e below G T f := by
  obtain ⟨s₂, o, h1, h2⟩ := h
  exact ⟨s₂, o, st _ h1, h2⟩
theorem own_start {G : Outcome → State → Prop} {f f' : JFrame} (q : f = f') (h : own_Goes p e below G T f') : ∃ s₂ o, Steps p.tables e below (T.setTop f) s₂ ∧ s₂.status = .running ∧ Ended s₂ below o ∧ G o s₂ := q ▸ h
theorem own_retI (X : Stand p l e R s m args below meth c T locs cells slots) (hx : p.tables.exec = Jvm.exec) {pc : Nat} {Ls : Array Slot} {z : Int32} {rest : List Value} (hret : meth.sig.returnType = some .int) (hd : decode c.code pc = .ok (.ireturn, 1)) {fs : List Frame}
    (hl : ∀ (f : JFrame) (acts : List Action), f.method = m → f.locked = none → f.entered = [] → (doReturn e (T.setTop f) acts (some (.int z))).1 = T.setFrames fs) : Steps p.tables e below (T.setTop (mkF m pc Ls (.int z :: rest))) (T.setFrames fs) :=
  retOut X hx hret rfl (Or.inl ⟨rfl, Or.inl rfl, _, rfl⟩) hd hl
theorem own_retJ (X : Stand p l e R s m args below meth c T locs cells slots) (hx : p.tables.exec = Jvm.exec) {pc : Nat} {Ls : Array Slot} {z : Int64} {rest : List Value} (hret : meth.sig.returnType = some .long) (hd : decode c.code pc = .ok (.lreturn, 1)) {fs : List Frame}
    (hl : ∀ (f : JFrame) (acts : List Action), f.method = m → f.locked = none → f.entered = [] → (doReturn e (T.setTop f) acts (some (.long z))).1 = T.setFrames fs) : Steps p.tables e below (T.setTop (mkF m pc Ls (.long z :: rest))) (T.setFrames fs) :=
  retOut X hx hret rfl (Or.inr (Or.inl ⟨rfl, rfl, _, rfl⟩)) hd hl
theorem own_retD (X : Stand p l e R s m args below meth c T locs cells slots) (hx : p.tables.exec = Jvm.exec) {pc : Nat} {Ls : Array Slot} {z : UInt64} {rest : List Value} (hret : meth.sig.returnType = some .double) (hd : decode c.code pc = .ok (.dreturn, 1)) {fs : List Frame}
    (hl : ∀ (f : JFrame) (acts : List Action), f.method = m → f.locked = none → f.entered = [] → (doReturn e (T.setTop f) acts (some (.double z))).1 = T.setFrames fs) : Steps p.tables e below (T.setTop (mkF m pc Ls (.double z :: rest))) (T.setFrames fs) :=
  retOut X hx hret rfl (Or.inr (Or.inr (Or.inl ⟨rfl, rfl, _, rfl⟩))) hd hl
theorem own_retA (X : Stand p l e R s m args below meth c T locs cells slots) (hx : p.tables.exec = Jvm.exec) {pc : Nat} {Ls : Array Slot} {z : Value} {rest : List Value} {t : FieldType} (hret : meth.sig.returnType = some t) (ht : t.isReference = true) (hn : narrow t z = z) (hz : z.isRef = true) (hd : decode c.code pc = .ok (.areturn, 1)) {fs : List Frame}
    (hl : ∀ (f : JFrame) (acts : List Action), f.method = m → f.locked = none → f.entered = [] → (doReturn e (T.setTop f) acts (some z)).1 = T.setFrames fs) : Steps p.tables e below (T.setTop (mkF m pc Ls (z :: rest))) (T.setFrames fs) :=
  retOut X hx hret hn (Or.inr (Or.inr (Or.inr (Or.inr ⟨rfl, ht, hz⟩)))) hd hl
theorem own_stakeep {Z : State} {h h' : Heap} {C n d : String} {v : Value} {ws : List Addr} (F : Sta Z h C n d v) (K : Keep h h' ws) (q : ∀ x ∈ ws, ∀ cell : Cell, h[x]? = some cell → cell.vm.isStatics = false) : Sta Z h' C n d v := by
  obtain ⟨cf, i, k, f, st, cell, h1, h2, h3, h4, h5, h6, h7⟩ := F
  exact ⟨cf, i, k, f, st, cell, h1, h2, h3, h4, K.2.1 st cell h5 (fun z => by rw [q st z cell h5] at h6; cases h6), h6, h7⟩
theorem own_plainE {Z : State} {h : Heap} {a : Addr} {C : String} (F : Exa Z h a C) : ∀ cell : Cell, h[a]? = some cell → cell.vm.isStatics = false := fun cell hc => by
  obtain ⟨c', k, h1, -, -, h4, -⟩ := F
  cases h1.symm.trans hc
  exact h4
theorem own_noI {Z : State} {a0 : Array Value} {C K O : String} {n : Nat} (w : (Jvm.Cond.superclass C O).before a0 Z = true) (wo : (Jvm.Cond.noSuperclass O).before a0 Z = true) (wi : (Jvm.Cond.instantiable K n).before a0 Z = true) (hn : C ≠ K) (ho : O ≠ K) : ∃ c t, Z.vm.findClass C = some c ∧ Z.vm.findClass K = some t ∧ Z.vm.assignable c t = false := by
  obtain ⟨t, kt, g0, g2, g5, g7, -, -⟩ := Cond.instantiable_spec wi
  simp only [Bool.or_eq_false_iff] at g7
  obtain ⟨oc, ok, o1, o2, o3, -, -⟩ := Cond.noSuperclass_spec wo
  obtain ⟨c, h0⟩ := found_sup w
  obtain ⟨p, k, kp, h1, h2, h3, h4, h5, -, h7⟩ := Cond.superclass_spec h0 w
  cases o1.symm.trans h1
  have ne := ids_ne h0 g0 hn
  have neo := ids_ne o1 g0 ho
  have n3 : ∀ fuel, Z.vm.isSubclassAux fuel c t = false := fun fuel => by
    cases fuel with
    | zero => rfl
    | succ f =>
      have n4 : Z.vm.isSubclassAux f oc t = false := by
        cases f with
        | zero => rfl
        | succ f => simp [Vm.isSubclassAux, neo, o2, o3]
      simp [Vm.isSubclassAux, ne, h2, h4, n4]
  refine ⟨c, t, h0, g0, ?_⟩
  show Z.vm.assignableAux (255 + 1) c t = false
  simp [Vm.assignableAux, ne, h2, g2, h5, g5, g7, Vm.isSubclass, n3]
theorem own_ask {Z : State} {a0 : Array Value} {h : Heap} {a : Addr} {C K : String} (E : Exa Z h a C) (w : (Jvm.Cond.castable K K).before a0 Z = true) : Ins Z h a K true ∨ ∃ c t, Z.vm.findClass C = some c ∧ Z.vm.findClass K = some t ∧ Z.vm.assignable c t = false := by
  obtain ⟨cell, k, h1, h2, h3, h4, -⟩ := E
  cases ht : Z.vm.findClass K with
  | none => simp [Cond.before, Cond.holds, Cond.value, ht] at w
  | some t =>
    cases ha : Z.vm.assignable cell.cls t with
    | true => exact Or.inl ⟨cell, t, h1, ht, by rw [h4, ha]; rfl⟩
    | false => exact Or.inr ⟨cell.cls, t, h2, rfl, ha⟩
theorem own_dupX2 {tb : Tables} [Ours tb] {e : Env} {below : List Frame} {T target : State} {m : MethodId} {c : Code} {g : JFrame} (h : At T m c below) (hx : tb.exec = Jvm.exec) (hg : g.method = m) {x y z : Value} {rest : List Value} (hd : decode c.code g.pc = .ok (.dup_x2, 1)) (hs : g.stack = x :: y :: z :: rest) (hc : x.category = 1) (hc' : y.category = 1) (hc'' : z.category = 1)
    (hr : Steps tb e below (T.setTop { g with pc := g.pc + 1, stack := x :: y :: z :: x :: rest }) target) : Steps tb e below (T.setTop g) target := by
  subst hg
  jvm_step h [h.top, hx, hd, hs, hc, hc', hc'']
  exact hr
theorem own_dz : FP.dconst0 = FP.l2d 0 := by decide +kernel
theorem own_cR (a : Addr) : (Value.ref a).category = 1 := rfl
theorem own_cN : Value.null.category = 1 := rfl
theorem own_cI (x : Int32) : (Value.int x).category = 1 := rfl
theorem own_cat1 {x : Value} (h : x.isRef = true) : x.category = 1 := by cases x <;> first | rfl | cases h
theorem own_astoreN {tb : Tables} [Ours tb] {e : Env} {below : List Frame} {T target : State} {m : MethodId} {c : Code} {g : JFrame} (h : At T m c below) (hx : tb.exec = Jvm.exec) (hg : g.method = m) {k : Fin 4} {x : Value} {rest : List Value} {o : Slot} {l' : Array Slot} (hd : decode c.code g.pc = .ok (.astore_n k, 1)) (hs : g.stack = x :: rest) (hv : x.isRef = true) (hold : g.locals[k.val]? = some o) (ho : One o) (hl : g.locals.setIfInBounds k.val (.val x) = l')
    (hr : Steps tb e below (T.setTop { g with pc := g.pc + 1, stack := rest, locals := l' }) target) : Steps tb e below (T.setTop g) target := XS.astoreN h hx hg hd hs hv (l' := l') (by rw [← hl]; exact XS.store1 hold ho (own_cat1 hv)) hr
theorem own_astore {tb : Tables} [Ours tb] {e : Env} {below : List Frame} {T target : State} {m : MethodId} {c : Code} {g : JFrame} (h : At T m c below) (hx : tb.exec = Jvm.exec) (hg : g.method = m) {k : Nat} {x : Value} {rest : List Value} {o : Slot} {l' : Array Slot} (hd : decode c.code g.pc = .ok (.astore k, 2)) (hs : g.stack = x :: rest) (hv : x.isRef = true) (hold : g.locals[k]? = some o) (ho : One o) (hl : g.locals.setIfInBounds k (.val x) = l')
    (hr : Steps tb e below (T.setTop { g with pc := g.pc + 2, stack := rest, locals := l' }) target) : Steps tb e below (T.setTop g) target := XS.astore h hx hg hd hs hv (l' := l') (by rw [← hl]; exact XS.store1 hold ho (own_cat1 hv)) hr
end OwnKit
theorem own_nb (x : Int32) : nar .byte (x.toInt8.toInt32) = x.toInt8.toInt32 := by
  show x.toInt8.toInt32.toInt8.toInt32 = x.toInt8.toInt32
  simp
theorem own_b0 (c : Int32) : nar .byte ((c >>> ((0 : Int32) &&& 31)).toInt8.toInt32) = StrChars.lo8 c := by
  rw [own_nb, StrChars.shr0]
  rfl
theorem own_b1 (c : Int32) : nar .byte ((c >>> ((8 : Int32) &&& 31)).toInt8.toInt32) = StrChars.hi8 c := by
  rw [own_nb]
  rfl
theorem own_nc (x : Int32) (h : ¬ x < 0 ∧ ¬ (65535 : Int32) < x) : nar .char x = x := by
  have c1 := c_i2c x
  have h1 := h.1
  have h2 := h.2
  rw [Int32.lt_iff_toInt_lt] at h1 h2
  have z : (0 : Int32).toInt = 0 := by decide
  have q : (65535 : Int32).toInt = 65535 := by decide
  rw [z] at h1
  rw [q] at h2
  apply Int32.toInt_inj.mp
  show (x.toUInt32.toUInt16.toUInt32.toInt32).toInt = x.toInt
  omega
theorem own_c16 (x : Int32) : ¬ ((x &&& (65535 : Int32)).toUInt32.toUInt16.toUInt32.toInt32) < 0 ∧ ¬ (65535 : Int32) < ((x &&& (65535 : Int32)).toUInt32.toUInt16.toUInt32.toInt32) := by
  have c1 := c_i2c (x &&& (65535 : Int32))
  have z : (0 : Int32).toInt = 0 := by decide
  have q : (65535 : Int32).toInt = 65535 := by decide
  rw [Int32.lt_iff_toInt_lt, Int32.lt_iff_toInt_lt]
  omega
theorem own_n4 (x n : Int32) (h : (1 : Int32) + (x &&& (3 : Int32)) = n) (h1 : ¬ n = 1) (h2 : ¬ n = 2) (h3 : ¬ n = 3) : n = 4 := by
  have e := c_mask x 3 2 (by decide) (by decide)
  have k : ∀ y : Int32, y.toInt = 0 ∨ y.toInt = 1 ∨ y.toInt = 2 ∨ y.toInt = 3 → (1 : Int32) + y = n → n = 4 := fun y q r => by
    rcases q with q | q | q | q
    · have z : y = 0 := Int32.toInt_inj.mp q
      subst z; exact absurd r.symm h1
    · have z : y = 1 := Int32.toInt_inj.mp q
      subst z; exact absurd r.symm h2
    · have z : y = 2 := Int32.toInt_inj.mp q
      subst z; exact absurd r.symm h3
    · have z : y = 3 := Int32.toInt_inj.mp q
      subst z; exact r.symm
  exact k _ (by omega) h
theorem own_pn_0 : plainName "java/lang/StringUTF16" = true := by first | (simp [plainName, overriddenIn]; done) | decide +kernel
theorem own_ef_gch0 (m : MethodId) (a1 : Addr) (p2 : Int32) : entryFrame m #[(.ref a1), (.int p2)] 2 = mkF m 0 #[.val (.ref a1), .val (.int p2)] [] := by first | (simp [entryFrame, mkF, argsToLocals, Value.category]; done) | rfl
def own_Q_gch0 (Z : State) (a1 : Addr) (p2 : Int32) (k : ClassId) (z : Int32) (vs : List Value) (cc : Int32) (h0 : Heap) (n0 : Nat) (v : Option Value) (h : Heap) (L : List Loc) : Prop := v = some (.int cc) ∧ Fr n0 L ∧ h = h0
theorem own_d_jdk_52_method_5_code_0 : decode jdk_52_method_5_code 0 = .ok (.getstatic 44, 3) := by decide +kernel
theorem own_d_jdk_52_method_5_code_3 : decode jdk_52_method_5_code 3 = .ok (.ifCond .ne 25, 3) := by decide +kernel
theorem own_d_jdk_52_method_5_code_28 : decode jdk_52_method_5_code 28 = .ok (.iload_n 1, 1) := by decide +kernel
theorem own_d_jdk_52_method_5_code_29 : decode jdk_52_method_5_code 29 = .ok (.iconst 1, 1) := by decide +kernel
theorem own_d_jdk_52_method_5_code_30 : decode jdk_52_method_5_code 30 = .ok (.ishl, 1) := by decide +kernel
theorem own_d_jdk_52_method_5_code_31 : decode jdk_52_method_5_code 31 = .ok (.istore_n 1, 1) := by decide +kernel
theorem own_d_jdk_52_method_5_code_32 : decode jdk_52_method_5_code 32 = .ok (.aload_n 0, 1) := by decide +kernel
theorem own_d_jdk_52_method_5_code_33 : decode jdk_52_method_5_code 33 = .ok (.iload_n 1, 1) := by decide +kernel
theorem own_d_jdk_52_method_5_code_34 : decode jdk_52_method_5_code 34 = .ok (.iinc 1 1, 3) := by decide +kernel
theorem own_d_jdk_52_method_5_code_37 : decode jdk_52_method_5_code 37 = .ok (.baload, 1) := by decide +kernel
theorem own_d_jdk_52_method_5_code_38 : decode jdk_52_method_5_code 38 = .ok (.sipush 255, 3) := by decide +kernel
theorem own_d_jdk_52_method_5_code_41 : decode jdk_52_method_5_code 41 = .ok (.iand, 1) := by decide +kernel
theorem own_d_jdk_52_method_5_code_42 : decode jdk_52_method_5_code 42 = .ok (.getstatic 59, 3) := by decide +kernel
theorem own_d_jdk_52_method_5_code_45 : decode jdk_52_method_5_code 45 = .ok (.ishl, 1) := by decide +kernel
theorem own_d_jdk_52_method_5_code_46 : decode jdk_52_method_5_code 46 = .ok (.aload_n 0, 1) := by decide +kernel
theorem own_d_jdk_52_method_5_code_47 : decode jdk_52_method_5_code 47 = .ok (.iload_n 1, 1) := by decide +kernel
theorem own_d_jdk_52_method_5_code_48 : decode jdk_52_method_5_code 48 = .ok (.baload, 1) := by decide +kernel
theorem own_d_jdk_52_method_5_code_49 : decode jdk_52_method_5_code 49 = .ok (.sipush 255, 3) := by decide +kernel
theorem own_d_jdk_52_method_5_code_52 : decode jdk_52_method_5_code 52 = .ok (.iand, 1) := by decide +kernel
theorem own_d_jdk_52_method_5_code_53 : decode jdk_52_method_5_code 53 = .ok (.getstatic 63, 3) := by decide +kernel
theorem own_d_jdk_52_method_5_code_56 : decode jdk_52_method_5_code 56 = .ok (.ishl, 1) := by decide +kernel
theorem own_d_jdk_52_method_5_code_57 : decode jdk_52_method_5_code 57 = .ok (.ior, 1) := by decide +kernel
theorem own_d_jdk_52_method_5_code_58 : decode jdk_52_method_5_code 58 = .ok (.i2c, 1) := by decide +kernel
theorem own_d_jdk_52_method_5_code_59 : decode jdk_52_method_5_code 59 = .ok (.ireturn, 1) := by decide +kernel
set_option maxRecDepth 65536 in
set_option maxHeartbeats 40000000 in
theorem own_rm_gch0 (l : Launch) (Z : State) (a0 : Array Value) (hw : ∀ d ∈ tables_1, d.before a0 Z = true) (ws : List Jvm.Cond) (a1 : Addr) (p2 : Int32) (k : ClassId) (z : Int32) (vs : List Value) (cc : Int32) (h0 : Heap) (n0 : Nat) (Z0 : n0 ≤ h0.size) (S1 : Sta Z h0 "java/lang/StringUTF16" "$assertionsDisabled" "Z" (.int 1)) (S2 : Sta Z h0 "java/lang/StringUTF16" "HI_BYTE_SHIFT" "I" (.int 0)) (S3 : Sta Z h0 "java/lang/StringUTF16" "LO_BYTE_SHIFT" "I" (.int 8)) (Va : Arv Z h0 a1 k .byte z vs (.int 0)) (hp : p2 = (0 : Int32)) (hz0 : (0 : Int32) < z) (hz1 : (1 : Int32) < z) (hx0 : vs.getD 0 (.int 0) = .int (StrChars.lo8 cc)) (hy0 : vs.getD 1 (.int 0) = .int (StrChars.hi8 cc)) (hc : ¬ cc < 0 ∧ ¬ (65535 : Int32) < cc) :
    MetFree l (⟨"java/lang/StringUTF16", "getChar", "([BI)C"⟩ : MethodName) (head1 (Jvm.Cond.code (⟨"java/lang/StringUTF16", "getChar", "([BI)C"⟩ : MethodName) jdk_52_method_5_code 2 (some .char) :: ws) ({ frames := 0, cells := 0, slots := 0, locals := 0 } : Room)) (fun a U => a = #[(.ref a1), (.int p2)] ∧ Z.Warmed39 U.vm ∧ U.heap = h0) (fun _ _ _ _ _ => True) (fun _ U o U' => ∃ v L, o = .returned v ∧ own_Q_gch0 Z a1 p2 k z vs cc h0 n0 v U'.heap L ∧ FrameEnd U o U' L ({ frames := 0, cells := 0, slots := 0, locals := 0 } : Room).cells ({ frames := 0, cells := 0, slots := 0, locals := 0 } : Room).slots) := by
  refine MetFree.of_bodySF (plainFor_of_name own_pn_0) hisR ?_
  intro p e s m args below meth c s₁ Bd hml0 hP hK
  obtain ⟨rfl, hZ, hh⟩ := hP
  have hx := Bd.exec
  have hby := Bd.bytes
  have hml : c.maxLocals = 2 := hml0
  have hown : s.vm.findClass "java/lang/StringUTF16" = some m.cls := findClass_of_methodNamed Bd.named
  have hnm := (name_of_methodNamed Bd.named Bd.method).1
  have X0 : Stand p l e ({ frames := 0, cells := 0, slots := 0, locals := 0 } : Room) s m #[(.ref a1), (.int p2)] below meth c s₁ [] 0 0 := Stand.of_body Bd
  have e0 : s₁.heap = h0 := by rw [← hh, Bd.state]; rfl
  have N0 := Fr.nil n0
  refine own_start (own_ef_gch0 m a1 p2 ) ?_
  subst hp
  obtain ⟨T1, X1, e1, st1⟩ := getS2 X0 hx hZ hown (host := "") (Or.inl (hw _ (List.mem_of_getElem? (i := 111) rfl))) Via.refl e0 S1 (g := (mkF m 0 #[.val (.ref a1), .val (.int (0 : Int32))] [])) rfl (Jvm.hb hby own_d_jdk_52_method_5_code_0)
  refine own_of (T' := T1) (f' := (mkF m 31 #[.val (.ref a1), .val (.int (0 : Int32))] [(.int ((0 : Int32) <<< ((1 : Int32) &&& 31)))])) (fun t_ k_ => (st1 _ (XS.ifYes X1.here hx rfl (pc0 := 3) (pc' := 28) rfl (Jvm.hb hby own_d_jdk_52_method_5_code_3) rfl ((if0 _ _).trans (feq (by decide : ¬ (1 : Int32) = 0)).2) (by decide) (by decide) (XS.iloadN X1.here hx rfl (Jvm.hb hby own_d_jdk_52_method_5_code_28) rfl (XS.iconst X1.here hx rfl (Jvm.hb hby own_d_jdk_52_method_5_code_29) (XS.ishl X1.here hx rfl (Jvm.hb hby own_d_jdk_52_method_5_code_30) rfl k_)))))) ?_
  rw [(by decide : ((0 : Int32) <<< ((1 : Int32) &&& 31)) = (0 : Int32))]
  refine own_of (T' := T1) (f' := (mkF m 37 #[.val (.ref a1), .val (.int ((0 : Int32) + (1 : Int32)))] [(.int (0 : Int32)), (.ref a1)])) (fun t_ k_ => (XS.istoreN X1.here hx rfl (Jvm.hb hby own_d_jdk_52_method_5_code_31) rfl (l' := #[.val (.ref a1), .val (.int (0 : Int32))]) rfl (XS.aloadN X1.here hx rfl (Jvm.hb hby own_d_jdk_52_method_5_code_32) rfl rfl (XS.iloadN X1.here hx rfl (Jvm.hb hby own_d_jdk_52_method_5_code_33) rfl (XS.iinc X1.here hx rfl (Jvm.hb hby own_d_jdk_52_method_5_code_34) rfl (l' := #[.val (.ref a1), .val (.int ((0 : Int32) + (1 : Int32)))]) rfl k_))))) ?_
  obtain ⟨cl, Ar, qq, Sz, Nn, Hh, Gg⟩ := id Va
  try rw [(by decide : ((0 : Int32) + (1 : Int32)) = (1 : Int32))]
  have hin2 : ¬ ((0 : Int32) < 0 ∨ cl.slots.size ≤ ((0 : Int32) : Int32).toNatClampNeg) := inb_of Sz ⟨by decide, hz0⟩
  obtain ⟨T3, X3, e3, st3⟩ := getS2 X1 hx hZ hown (host := "") (Or.inl (hw _ (List.mem_of_getElem? (i := 112) rfl))) Via.refl e1 S2 (g := (mkF m 42 #[.val (.ref a1), .val (.int (1 : Int32))] [(.int ((StrChars.lo8 cc) &&& (255 : Int32)))])) rfl (Jvm.hb hby own_d_jdk_52_method_5_code_42)
  refine own_of (T' := T3) (f' := (mkF m 48 #[.val (.ref a1), .val (.int (1 : Int32))] [(.int (1 : Int32)), (.ref a1), (.int (((StrChars.lo8 cc) &&& (255 : Int32)) <<< ((0 : Int32) &&& 31)))])) (fun t_ k_ => (X1.baloadBytes hx (j := (0 : Int32)) (v := .int (StrChars.lo8 cc)) (by rw [e1]; exact Ar.1) (State.isArrayOf_alike hZ.alike Ar.2.1) Ar.2.2 hin2 (Hh.at hin2 hx0) (g := (mkF m 37 #[.val (.ref a1), .val (.int (1 : Int32))] [(.int (0 : Int32)), (.ref a1)])) rfl rfl (Jvm.hb hby own_d_jdk_52_method_5_code_37) _ (XS.sipush X1.here hx rfl (Jvm.hb hby own_d_jdk_52_method_5_code_38) (XS.iand X1.here hx rfl (Jvm.hb hby own_d_jdk_52_method_5_code_41) rfl (st3 _ (XS.ishl X3.here hx rfl (Jvm.hb hby own_d_jdk_52_method_5_code_45) rfl (XS.aloadN X3.here hx rfl (Jvm.hb hby own_d_jdk_52_method_5_code_46) rfl rfl (XS.iloadN X3.here hx rfl (Jvm.hb hby own_d_jdk_52_method_5_code_47) rfl k_)))))))) ?_
  have hin4 : ¬ ((1 : Int32) < 0 ∨ cl.slots.size ≤ ((1 : Int32) : Int32).toNatClampNeg) := inb_of Sz ⟨by decide, hz1⟩
  obtain ⟨T5, X5, e5, st5⟩ := getS2 X3 hx hZ hown (host := "") (Or.inl (hw _ (List.mem_of_getElem? (i := 113) rfl))) Via.refl e3 S3 (g := (mkF m 53 #[.val (.ref a1), .val (.int (1 : Int32))] [(.int ((StrChars.hi8 cc) &&& (255 : Int32))), (.int (((StrChars.lo8 cc) &&& (255 : Int32)) <<< ((0 : Int32) &&& 31)))])) rfl (Jvm.hb hby own_d_jdk_52_method_5_code_53)
  refine own_of (T' := T5) (f' := (mkF m 59 #[.val (.ref a1), .val (.int (1 : Int32))] [(.int (((((StrChars.lo8 cc) &&& (255 : Int32)) <<< ((0 : Int32) &&& 31)) ||| (((StrChars.hi8 cc) &&& (255 : Int32)) <<< ((8 : Int32) &&& 31))).toUInt32.toUInt16.toUInt32.toInt32))])) (fun t_ k_ => (X3.baloadBytes hx (j := (1 : Int32)) (v := .int (StrChars.hi8 cc)) (by rw [e3]; exact Ar.1) (State.isArrayOf_alike hZ.alike Ar.2.1) Ar.2.2 hin4 (Hh.at hin4 hy0) (g := (mkF m 48 #[.val (.ref a1), .val (.int (1 : Int32))] [(.int (1 : Int32)), (.ref a1), (.int (((StrChars.lo8 cc) &&& (255 : Int32)) <<< ((0 : Int32) &&& 31)))])) rfl rfl (Jvm.hb hby own_d_jdk_52_method_5_code_48) _ (XS.sipush X3.here hx rfl (Jvm.hb hby own_d_jdk_52_method_5_code_49) (XS.iand X3.here hx rfl (Jvm.hb hby own_d_jdk_52_method_5_code_52) rfl (st5 _ (XS.ishl X5.here hx rfl (Jvm.hb hby own_d_jdk_52_method_5_code_56) rfl (XS.ior X5.here hx rfl (Jvm.hb hby own_d_jdk_52_method_5_code_57) rfl (XS.i2c X5.here hx rfl (Jvm.hb hby own_d_jdk_52_method_5_code_58) rfl k_)))))))) ?_
  have hpair : nar .char (((((StrChars.lo8 cc) &&& (255 : Int32)) <<< ((0 : Int32) &&& 31)) ||| (((StrChars.hi8 cc) &&& (255 : Int32)) <<< ((8 : Int32) &&& 31))).toUInt32.toUInt16.toUInt32.toInt32) = cc := by
    have q_ : (((((StrChars.lo8 cc) &&& (255 : Int32)) <<< ((0 : Int32) &&& 31)) ||| (((StrChars.hi8 cc) &&& (255 : Int32)) <<< ((8 : Int32) &&& 31))).toUInt32.toUInt16.toUInt32.toInt32) = cc := StrChars.pair_says hc.1 hc.2
    rw [q_]
    exact own_nc cc hc
  obtain ⟨fs, hr, hrun, hended, hW, hsame⟩ := X5.leave (v := some (.int (nar .char (((((StrChars.lo8 cc) &&& (255 : Int32)) <<< ((0 : Int32) &&& 31)) ||| (((StrChars.hi8 cc) &&& (255 : Int32)) <<< ((8 : Int32) &&& 31))).toUInt32.toUInt16.toUInt32.toInt32)))) (fun h => by rw [Bd.returns] at h; cases h)
  exact ⟨_, _, retN X5 hx (t := .char) Bd.returns (by simp) (Jvm.hb hby own_d_jdk_52_method_5_code_59) hr, hrun, hended, _, _, rfl, (by show own_Q_gch0 Z a1 (0 : Int32) k z vs cc h0 n0 _ T5.heap _; rw [e5]; exact ⟨by rw [hpair], N0, rfl⟩), ⟨_, rfl⟩, hW, hsame.mono (by decide) (by decide)⟩
theorem own_ef_pch0 (m : MethodId) (a1 : Addr) (p2 : Int32) (p3 : Int32) : entryFrame m #[(.ref a1), (.int p2), (.int p3)] 3 = mkF m 0 #[.val (.ref a1), .val (.int p2), .val (.int p3)] [] := by first | (simp [entryFrame, mkF, argsToLocals, Value.category]; done) | rfl
def own_Q_pch0 (Z : State) (a1 : Addr) (p2 : Int32) (p3 : Int32) (k : ClassId) (z : Int32) (vs : List Value) (h0 : Heap) (n0 : Nat) (v : Option Value) (h : Heap) (L : List Loc) : Prop := v = none ∧ Fr n0 L ∧ Keep h0 h [a1] ∧ Arv Z h a1 k .byte z ((vs.set 0 (.int (StrChars.lo8 p3))).set 1 (.int (StrChars.hi8 p3))) (.int 0)
theorem own_d_jdk_52_method_4_code_0 : decode jdk_52_method_4_code 0 = .ok (.getstatic 44, 3) := by decide +kernel
theorem own_d_jdk_52_method_4_code_3 : decode jdk_52_method_4_code 3 = .ok (.ifCond .ne 25, 3) := by decide +kernel
theorem own_d_jdk_52_method_4_code_28 : decode jdk_52_method_4_code 28 = .ok (.iload_n 1, 1) := by decide +kernel
theorem own_d_jdk_52_method_4_code_29 : decode jdk_52_method_4_code 29 = .ok (.iconst 1, 1) := by decide +kernel
theorem own_d_jdk_52_method_4_code_30 : decode jdk_52_method_4_code 30 = .ok (.ishl, 1) := by decide +kernel
theorem own_d_jdk_52_method_4_code_31 : decode jdk_52_method_4_code 31 = .ok (.istore_n 1, 1) := by decide +kernel
theorem own_d_jdk_52_method_4_code_32 : decode jdk_52_method_4_code 32 = .ok (.aload_n 0, 1) := by decide +kernel
theorem own_d_jdk_52_method_4_code_33 : decode jdk_52_method_4_code 33 = .ok (.iload_n 1, 1) := by decide +kernel
theorem own_d_jdk_52_method_4_code_34 : decode jdk_52_method_4_code 34 = .ok (.iinc 1 1, 3) := by decide +kernel
theorem own_d_jdk_52_method_4_code_37 : decode jdk_52_method_4_code 37 = .ok (.iload_n 2, 1) := by decide +kernel
theorem own_d_jdk_52_method_4_code_38 : decode jdk_52_method_4_code 38 = .ok (.getstatic 59, 3) := by decide +kernel
theorem own_d_jdk_52_method_4_code_41 : decode jdk_52_method_4_code 41 = .ok (.ishr, 1) := by decide +kernel
theorem own_d_jdk_52_method_4_code_42 : decode jdk_52_method_4_code 42 = .ok (.i2b, 1) := by decide +kernel
theorem own_d_jdk_52_method_4_code_43 : decode jdk_52_method_4_code 43 = .ok (.bastore, 1) := by decide +kernel
theorem own_d_jdk_52_method_4_code_44 : decode jdk_52_method_4_code 44 = .ok (.aload_n 0, 1) := by decide +kernel
theorem own_d_jdk_52_method_4_code_45 : decode jdk_52_method_4_code 45 = .ok (.iload_n 1, 1) := by decide +kernel
theorem own_d_jdk_52_method_4_code_46 : decode jdk_52_method_4_code 46 = .ok (.iload_n 2, 1) := by decide +kernel
theorem own_d_jdk_52_method_4_code_47 : decode jdk_52_method_4_code 47 = .ok (.getstatic 63, 3) := by decide +kernel
theorem own_d_jdk_52_method_4_code_50 : decode jdk_52_method_4_code 50 = .ok (.ishr, 1) := by decide +kernel
theorem own_d_jdk_52_method_4_code_51 : decode jdk_52_method_4_code 51 = .ok (.i2b, 1) := by decide +kernel
theorem own_d_jdk_52_method_4_code_52 : decode jdk_52_method_4_code 52 = .ok (.bastore, 1) := by decide +kernel
theorem own_d_jdk_52_method_4_code_53 : decode jdk_52_method_4_code 53 = .ok (.return_, 1) := by decide +kernel
set_option maxRecDepth 65536 in
set_option maxHeartbeats 40000000 in
theorem own_rm_pch0 (l : Launch) (Z : State) (a0 : Array Value) (hw : ∀ d ∈ tables_1, d.before a0 Z = true) (ws : List Jvm.Cond) (a1 : Addr) (p2 : Int32) (p3 : Int32) (k : ClassId) (z : Int32) (vs : List Value) (h0 : Heap) (n0 : Nat) (Z0 : n0 ≤ h0.size) (S1 : Sta Z h0 "java/lang/StringUTF16" "$assertionsDisabled" "Z" (.int 1)) (S2 : Sta Z h0 "java/lang/StringUTF16" "HI_BYTE_SHIFT" "I" (.int 0)) (S3 : Sta Z h0 "java/lang/StringUTF16" "LO_BYTE_SHIFT" "I" (.int 8)) (Va : Arv Z h0 a1 k .byte z vs (.int 0)) (hp : p2 = (0 : Int32)) (hz0 : (0 : Int32) < z) (hz1 : (1 : Int32) < z) (hl : 1 < vs.length) (g_a1 : n0 ≤ a1) (E1 : Exa Z h0 a1 "[B") :
    MetFree l (⟨"java/lang/StringUTF16", "putChar", "([BII)V"⟩ : MethodName) (head1 (Jvm.Cond.code (⟨"java/lang/StringUTF16", "putChar", "([BII)V"⟩ : MethodName) jdk_52_method_4_code 3 none :: ws) ({ frames := 0, cells := 0, slots := 0, locals := 0 } : Room)) (fun a U => a = #[(.ref a1), (.int p2), (.int p3)] ∧ Z.Warmed39 U.vm ∧ U.heap = h0) (fun _ _ _ _ _ => True) (fun _ U o U' => ∃ v L, o = .returned v ∧ own_Q_pch0 Z a1 p2 p3 k z vs h0 n0 v U'.heap L ∧ FrameEnd U o U' L ({ frames := 0, cells := 0, slots := 0, locals := 0 } : Room).cells ({ frames := 0, cells := 0, slots := 0, locals := 0 } : Room).slots) := by
  refine MetFree.of_bodySF (plainFor_of_name own_pn_0) hisR ?_
  intro p e s m args below meth c s₁ Bd hml0 hP hK
  obtain ⟨rfl, hZ, hh⟩ := hP
  have hx := Bd.exec
  have hby := Bd.bytes
  have hml : c.maxLocals = 3 := hml0
  have hown : s.vm.findClass "java/lang/StringUTF16" = some m.cls := findClass_of_methodNamed Bd.named
  have hnm := (name_of_methodNamed Bd.named Bd.method).1
  have X0 : Stand p l e ({ frames := 0, cells := 0, slots := 0, locals := 0 } : Room) s m #[(.ref a1), (.int p2), (.int p3)] below meth c s₁ [] 0 0 := Stand.of_body Bd
  have e0 : s₁.heap = h0 := by rw [← hh, Bd.state]; rfl
  have N0 := Fr.nil n0
  refine own_start (own_ef_pch0 m a1 p2 p3 ) ?_
  subst hp
  have K0 : Keep h0 h0 [a1] := Keep.refl _ _
  obtain ⟨T1, X1, e1, st1⟩ := getS2 X0 hx hZ hown (host := "") (Or.inl (hw _ (List.mem_of_getElem? (i := 111) rfl))) Via.refl e0 S1 (g := (mkF m 0 #[.val (.ref a1), .val (.int (0 : Int32)), .val (.int p3)] [])) rfl (Jvm.hb hby own_d_jdk_52_method_4_code_0)
  refine own_of (T' := T1) (f' := (mkF m 31 #[.val (.ref a1), .val (.int (0 : Int32)), .val (.int p3)] [(.int ((0 : Int32) <<< ((1 : Int32) &&& 31)))])) (fun t_ k_ => (st1 _ (XS.ifYes X1.here hx rfl (pc0 := 3) (pc' := 28) rfl (Jvm.hb hby own_d_jdk_52_method_4_code_3) rfl ((if0 _ _).trans (feq (by decide : ¬ (1 : Int32) = 0)).2) (by decide) (by decide) (XS.iloadN X1.here hx rfl (Jvm.hb hby own_d_jdk_52_method_4_code_28) rfl (XS.iconst X1.here hx rfl (Jvm.hb hby own_d_jdk_52_method_4_code_29) (XS.ishl X1.here hx rfl (Jvm.hb hby own_d_jdk_52_method_4_code_30) rfl k_)))))) ?_
  rw [(by decide : ((0 : Int32) <<< ((1 : Int32) &&& 31)) = (0 : Int32))]
  refine own_of (T' := T1) (f' := (mkF m 37 #[.val (.ref a1), .val (.int ((0 : Int32) + (1 : Int32))), .val (.int p3)] [(.int (0 : Int32)), (.ref a1)])) (fun t_ k_ => (XS.istoreN X1.here hx rfl (Jvm.hb hby own_d_jdk_52_method_4_code_31) rfl (l' := #[.val (.ref a1), .val (.int (0 : Int32)), .val (.int p3)]) rfl (XS.aloadN X1.here hx rfl (Jvm.hb hby own_d_jdk_52_method_4_code_32) rfl rfl (XS.iloadN X1.here hx rfl (Jvm.hb hby own_d_jdk_52_method_4_code_33) rfl (XS.iinc X1.here hx rfl (Jvm.hb hby own_d_jdk_52_method_4_code_34) rfl (l' := #[.val (.ref a1), .val (.int ((0 : Int32) + (1 : Int32))), .val (.int p3)]) rfl k_))))) ?_
  try rw [(by decide : ((0 : Int32) + (1 : Int32)) = (1 : Int32))]
  obtain ⟨T2, X2, e2, st2⟩ := getS2 X1 hx hZ hown (host := "") (Or.inl (hw _ (List.mem_of_getElem? (i := 112) rfl))) Via.refl e1 S2 (g := (mkF m 38 #[.val (.ref a1), .val (.int (1 : Int32)), .val (.int p3)] [(.int p3), (.int (0 : Int32)), (.ref a1)])) rfl (Jvm.hb hby own_d_jdk_52_method_4_code_38)
  refine own_of (T' := T2) (f' := (mkF m 43 #[.val (.ref a1), .val (.int (1 : Int32)), .val (.int p3)] [(.int ((p3 >>> ((0 : Int32) &&& 31)).toInt8.toInt32)), (.int (0 : Int32)), (.ref a1)])) (fun t_ k_ => (XS.iloadN X1.here hx rfl (Jvm.hb hby own_d_jdk_52_method_4_code_37) rfl (st2 _ (XS.ishr X2.here hx rfl (Jvm.hb hby own_d_jdk_52_method_4_code_41) rfl (XS.i2b X2.here hx rfl (Jvm.hb hby own_d_jdk_52_method_4_code_42) rfl k_))))) ?_
  obtain ⟨cl3, Ar3, qq3, Sz3, Nn3, Hh3, Gg3⟩ := Va
  have hin3 : ¬ ((0 : Int32) < 0 ∨ cl3.slots.size ≤ ((0 : Int32) : Int32).toNatClampNeg) := inb_of Sz3 ⟨by decide, hz0⟩
  obtain ⟨T3, h3, X3, e3, W3, st3⟩ := stB X2 hx hZ e2 Ar3 (j := (0 : Int32)) hin3 (g := (mkF m 43 #[.val (.ref a1), .val (.int (1 : Int32)), .val (.int p3)] [(.int ((p3 >>> ((0 : Int32) &&& 31)).toInt8.toInt32)), (.int (0 : Int32)), (.ref a1)])) rfl rfl (Jvm.hb hby own_d_jdk_52_method_4_code_43)
  refine own_of (T' := T3) (f' := (mkF m 44 #[.val (.ref a1), .val (.int (1 : Int32)), .val (.int p3)] [])) (fun t_ k_ => (st3 _ k_)) ?_
  rw [own_b0] at W3
  have Vn3 := Arv.set Ar3 qq3 Sz3 Nn3 Hh3 Gg3 (fits_nar_byte _) W3 0 rfl (by omega)
  have N3 := Fr.snoc X3 N0 g_a1
  have f4 := K0.wr W3 (Or.inl (List.mem_of_getElem? (i := 0) rfl))
  have f5 := Nat.le_trans Z0 (Keep.of_wr W3).1
  have f6 := E1.wr W3
  have f7 := S1.wr W3
  have f8 := S2.wr W3
  have f9 := S3.wr W3
  obtain ⟨T10, X10, e10, st10⟩ := getS2 X3 hx hZ hown (host := "") (Or.inl (hw _ (List.mem_of_getElem? (i := 113) rfl))) Via.refl e3 f9 (g := (mkF m 47 #[.val (.ref a1), .val (.int (1 : Int32)), .val (.int p3)] [(.int p3), (.int (1 : Int32)), (.ref a1)])) rfl (Jvm.hb hby own_d_jdk_52_method_4_code_47)
  refine own_of (T' := T10) (f' := (mkF m 52 #[.val (.ref a1), .val (.int (1 : Int32)), .val (.int p3)] [(.int ((p3 >>> ((8 : Int32) &&& 31)).toInt8.toInt32)), (.int (1 : Int32)), (.ref a1)])) (fun t_ k_ => (XS.aloadN X3.here hx rfl (Jvm.hb hby own_d_jdk_52_method_4_code_44) rfl rfl (XS.iloadN X3.here hx rfl (Jvm.hb hby own_d_jdk_52_method_4_code_45) rfl (XS.iloadN X3.here hx rfl (Jvm.hb hby own_d_jdk_52_method_4_code_46) rfl (st10 _ (XS.ishr X10.here hx rfl (Jvm.hb hby own_d_jdk_52_method_4_code_50) rfl (XS.i2b X10.here hx rfl (Jvm.hb hby own_d_jdk_52_method_4_code_51) rfl k_))))))) ?_
  obtain ⟨cl11, Ar11, qq11, Sz11, Nn11, Hh11, Gg11⟩ := Vn3
  have hin11 : ¬ ((1 : Int32) < 0 ∨ cl11.slots.size ≤ ((1 : Int32) : Int32).toNatClampNeg) := inb_of Sz11 ⟨by decide, hz1⟩
  obtain ⟨T11, h11, X11, e11, W11, st11⟩ := stB X10 hx hZ e10 Ar11 (j := (1 : Int32)) hin11 (g := (mkF m 52 #[.val (.ref a1), .val (.int (1 : Int32)), .val (.int p3)] [(.int ((p3 >>> ((8 : Int32) &&& 31)).toInt8.toInt32)), (.int (1 : Int32)), (.ref a1)])) rfl rfl (Jvm.hb hby own_d_jdk_52_method_4_code_52)
  refine own_of (T' := T11) (f' := (mkF m 53 #[.val (.ref a1), .val (.int (1 : Int32)), .val (.int p3)] [])) (fun t_ k_ => (st11 _ k_)) ?_
  rw [own_b1] at W11
  have Vn11 := Arv.set Ar11 qq11 Sz11 Nn11 Hh11 Gg11 (fits_nar_byte _) W11 1 rfl (by rw [List.length_set]; omega)
  have N11 := Fr.snoc X11 N3 g_a1
  have f12 := f4.wr W11 (Or.inl (List.mem_of_getElem? (i := 0) rfl))
  have f13 := Nat.le_trans f5 (Keep.of_wr W11).1
  have f14 := f6.wr W11
  have f15 := f7.wr W11
  have f16 := f8.wr W11
  have f17 := f9.wr W11
  obtain ⟨fs, hr, hrun, hended, hW, hsame⟩ := X11.leave (v := none) (fun _ => rfl)
  exact ⟨_, _, X11.returnOut hx Bd.returns (Jvm.hb hby own_d_jdk_52_method_4_code_53) hr, hrun, hended, _, _, rfl, (by show own_Q_pch0 Z a1 (0 : Int32) p3 k z vs h0 n0 _ T11.heap _; rw [e11]; exact ⟨rfl, N11, f12, Vn11⟩), ⟨_, rfl⟩, hW, hsame.mono (by decide) (by decide)⟩
theorem own_ef_gch1 (m : MethodId) (a1 : Addr) (p2 : Int32) : entryFrame m #[(.ref a1), (.int p2)] 2 = mkF m 0 #[.val (.ref a1), .val (.int p2)] [] := by first | (simp [entryFrame, mkF, argsToLocals, Value.category]; done) | rfl
def own_Q_gch1 (Z : State) (a1 : Addr) (p2 : Int32) (k : ClassId) (z : Int32) (vs : List Value) (cc : Int32) (h0 : Heap) (n0 : Nat) (v : Option Value) (h : Heap) (L : List Loc) : Prop := v = some (.int cc) ∧ Fr n0 L ∧ h = h0
set_option maxRecDepth 65536 in
set_option maxHeartbeats 40000000 in
theorem own_rm_gch1 (l : Launch) (Z : State) (a0 : Array Value) (hw : ∀ d ∈ tables_1, d.before a0 Z = true) (ws : List Jvm.Cond) (a1 : Addr) (p2 : Int32) (k : ClassId) (z : Int32) (vs : List Value) (cc : Int32) (h0 : Heap) (n0 : Nat) (Z0 : n0 ≤ h0.size) (S1 : Sta Z h0 "java/lang/StringUTF16" "$assertionsDisabled" "Z" (.int 1)) (S2 : Sta Z h0 "java/lang/StringUTF16" "HI_BYTE_SHIFT" "I" (.int 0)) (S3 : Sta Z h0 "java/lang/StringUTF16" "LO_BYTE_SHIFT" "I" (.int 8)) (Va : Arv Z h0 a1 k .byte z vs (.int 0)) (hp : p2 = (1 : Int32)) (hz0 : (2 : Int32) < z) (hz1 : (3 : Int32) < z) (hx0 : vs.getD 2 (.int 0) = .int (StrChars.lo8 cc)) (hy0 : vs.getD 3 (.int 0) = .int (StrChars.hi8 cc)) (hc : ¬ cc < 0 ∧ ¬ (65535 : Int32) < cc) :
    MetFree l (⟨"java/lang/StringUTF16", "getChar", "([BI)C"⟩ : MethodName) (head1 (Jvm.Cond.code (⟨"java/lang/StringUTF16", "getChar", "([BI)C"⟩ : MethodName) jdk_52_method_5_code 2 (some .char) :: ws) ({ frames := 0, cells := 0, slots := 0, locals := 0 } : Room)) (fun a U => a = #[(.ref a1), (.int p2)] ∧ Z.Warmed39 U.vm ∧ U.heap = h0) (fun _ _ _ _ _ => True) (fun _ U o U' => ∃ v L, o = .returned v ∧ own_Q_gch1 Z a1 p2 k z vs cc h0 n0 v U'.heap L ∧ FrameEnd U o U' L ({ frames := 0, cells := 0, slots := 0, locals := 0 } : Room).cells ({ frames := 0, cells := 0, slots := 0, locals := 0 } : Room).slots) := by
  refine MetFree.of_bodySF (plainFor_of_name own_pn_0) hisR ?_
  intro p e s m args below meth c s₁ Bd hml0 hP hK
  obtain ⟨rfl, hZ, hh⟩ := hP
  have hx := Bd.exec
  have hby := Bd.bytes
  have hml : c.maxLocals = 2 := hml0
  have hown : s.vm.findClass "java/lang/StringUTF16" = some m.cls := findClass_of_methodNamed Bd.named
  have hnm := (name_of_methodNamed Bd.named Bd.method).1
  have X0 : Stand p l e ({ frames := 0, cells := 0, slots := 0, locals := 0 } : Room) s m #[(.ref a1), (.int p2)] below meth c s₁ [] 0 0 := Stand.of_body Bd
  have e0 : s₁.heap = h0 := by rw [← hh, Bd.state]; rfl
  have N0 := Fr.nil n0
  refine own_start (own_ef_gch1 m a1 p2 ) ?_
  subst hp
  obtain ⟨T1, X1, e1, st1⟩ := getS2 X0 hx hZ hown (host := "") (Or.inl (hw _ (List.mem_of_getElem? (i := 111) rfl))) Via.refl e0 S1 (g := (mkF m 0 #[.val (.ref a1), .val (.int (1 : Int32))] [])) rfl (Jvm.hb hby own_d_jdk_52_method_5_code_0)
  refine own_of (T' := T1) (f' := (mkF m 31 #[.val (.ref a1), .val (.int (1 : Int32))] [(.int ((1 : Int32) <<< ((1 : Int32) &&& 31)))])) (fun t_ k_ => (st1 _ (XS.ifYes X1.here hx rfl (pc0 := 3) (pc' := 28) rfl (Jvm.hb hby own_d_jdk_52_method_5_code_3) rfl ((if0 _ _).trans (feq (by decide : ¬ (1 : Int32) = 0)).2) (by decide) (by decide) (XS.iloadN X1.here hx rfl (Jvm.hb hby own_d_jdk_52_method_5_code_28) rfl (XS.iconst X1.here hx rfl (Jvm.hb hby own_d_jdk_52_method_5_code_29) (XS.ishl X1.here hx rfl (Jvm.hb hby own_d_jdk_52_method_5_code_30) rfl k_)))))) ?_
  rw [(by decide : ((1 : Int32) <<< ((1 : Int32) &&& 31)) = (2 : Int32))]
  refine own_of (T' := T1) (f' := (mkF m 37 #[.val (.ref a1), .val (.int ((2 : Int32) + (1 : Int32)))] [(.int (2 : Int32)), (.ref a1)])) (fun t_ k_ => (XS.istoreN X1.here hx rfl (Jvm.hb hby own_d_jdk_52_method_5_code_31) rfl (l' := #[.val (.ref a1), .val (.int (2 : Int32))]) rfl (XS.aloadN X1.here hx rfl (Jvm.hb hby own_d_jdk_52_method_5_code_32) rfl rfl (XS.iloadN X1.here hx rfl (Jvm.hb hby own_d_jdk_52_method_5_code_33) rfl (XS.iinc X1.here hx rfl (Jvm.hb hby own_d_jdk_52_method_5_code_34) rfl (l' := #[.val (.ref a1), .val (.int ((2 : Int32) + (1 : Int32)))]) rfl k_))))) ?_
  obtain ⟨cl, Ar, qq, Sz, Nn, Hh, Gg⟩ := id Va
  try rw [(by decide : ((2 : Int32) + (1 : Int32)) = (3 : Int32))]
  have hin2 : ¬ ((2 : Int32) < 0 ∨ cl.slots.size ≤ ((2 : Int32) : Int32).toNatClampNeg) := inb_of Sz ⟨by decide, hz0⟩
  obtain ⟨T3, X3, e3, st3⟩ := getS2 X1 hx hZ hown (host := "") (Or.inl (hw _ (List.mem_of_getElem? (i := 112) rfl))) Via.refl e1 S2 (g := (mkF m 42 #[.val (.ref a1), .val (.int (3 : Int32))] [(.int ((StrChars.lo8 cc) &&& (255 : Int32)))])) rfl (Jvm.hb hby own_d_jdk_52_method_5_code_42)
  refine own_of (T' := T3) (f' := (mkF m 48 #[.val (.ref a1), .val (.int (3 : Int32))] [(.int (3 : Int32)), (.ref a1), (.int (((StrChars.lo8 cc) &&& (255 : Int32)) <<< ((0 : Int32) &&& 31)))])) (fun t_ k_ => (X1.baloadBytes hx (j := (2 : Int32)) (v := .int (StrChars.lo8 cc)) (by rw [e1]; exact Ar.1) (State.isArrayOf_alike hZ.alike Ar.2.1) Ar.2.2 hin2 (Hh.at hin2 hx0) (g := (mkF m 37 #[.val (.ref a1), .val (.int (3 : Int32))] [(.int (2 : Int32)), (.ref a1)])) rfl rfl (Jvm.hb hby own_d_jdk_52_method_5_code_37) _ (XS.sipush X1.here hx rfl (Jvm.hb hby own_d_jdk_52_method_5_code_38) (XS.iand X1.here hx rfl (Jvm.hb hby own_d_jdk_52_method_5_code_41) rfl (st3 _ (XS.ishl X3.here hx rfl (Jvm.hb hby own_d_jdk_52_method_5_code_45) rfl (XS.aloadN X3.here hx rfl (Jvm.hb hby own_d_jdk_52_method_5_code_46) rfl rfl (XS.iloadN X3.here hx rfl (Jvm.hb hby own_d_jdk_52_method_5_code_47) rfl k_)))))))) ?_
  have hin4 : ¬ ((3 : Int32) < 0 ∨ cl.slots.size ≤ ((3 : Int32) : Int32).toNatClampNeg) := inb_of Sz ⟨by decide, hz1⟩
  obtain ⟨T5, X5, e5, st5⟩ := getS2 X3 hx hZ hown (host := "") (Or.inl (hw _ (List.mem_of_getElem? (i := 113) rfl))) Via.refl e3 S3 (g := (mkF m 53 #[.val (.ref a1), .val (.int (3 : Int32))] [(.int ((StrChars.hi8 cc) &&& (255 : Int32))), (.int (((StrChars.lo8 cc) &&& (255 : Int32)) <<< ((0 : Int32) &&& 31)))])) rfl (Jvm.hb hby own_d_jdk_52_method_5_code_53)
  refine own_of (T' := T5) (f' := (mkF m 59 #[.val (.ref a1), .val (.int (3 : Int32))] [(.int (((((StrChars.lo8 cc) &&& (255 : Int32)) <<< ((0 : Int32) &&& 31)) ||| (((StrChars.hi8 cc) &&& (255 : Int32)) <<< ((8 : Int32) &&& 31))).toUInt32.toUInt16.toUInt32.toInt32))])) (fun t_ k_ => (X3.baloadBytes hx (j := (3 : Int32)) (v := .int (StrChars.hi8 cc)) (by rw [e3]; exact Ar.1) (State.isArrayOf_alike hZ.alike Ar.2.1) Ar.2.2 hin4 (Hh.at hin4 hy0) (g := (mkF m 48 #[.val (.ref a1), .val (.int (3 : Int32))] [(.int (3 : Int32)), (.ref a1), (.int (((StrChars.lo8 cc) &&& (255 : Int32)) <<< ((0 : Int32) &&& 31)))])) rfl rfl (Jvm.hb hby own_d_jdk_52_method_5_code_48) _ (XS.sipush X3.here hx rfl (Jvm.hb hby own_d_jdk_52_method_5_code_49) (XS.iand X3.here hx rfl (Jvm.hb hby own_d_jdk_52_method_5_code_52) rfl (st5 _ (XS.ishl X5.here hx rfl (Jvm.hb hby own_d_jdk_52_method_5_code_56) rfl (XS.ior X5.here hx rfl (Jvm.hb hby own_d_jdk_52_method_5_code_57) rfl (XS.i2c X5.here hx rfl (Jvm.hb hby own_d_jdk_52_method_5_code_58) rfl k_)))))))) ?_
  have hpair : nar .char (((((StrChars.lo8 cc) &&& (255 : Int32)) <<< ((0 : Int32) &&& 31)) ||| (((StrChars.hi8 cc) &&& (255 : Int32)) <<< ((8 : Int32) &&& 31))).toUInt32.toUInt16.toUInt32.toInt32) = cc := by
    have q_ : (((((StrChars.lo8 cc) &&& (255 : Int32)) <<< ((0 : Int32) &&& 31)) ||| (((StrChars.hi8 cc) &&& (255 : Int32)) <<< ((8 : Int32) &&& 31))).toUInt32.toUInt16.toUInt32.toInt32) = cc := StrChars.pair_says hc.1 hc.2
    rw [q_]
    exact own_nc cc hc
  obtain ⟨fs, hr, hrun, hended, hW, hsame⟩ := X5.leave (v := some (.int (nar .char (((((StrChars.lo8 cc) &&& (255 : Int32)) <<< ((0 : Int32) &&& 31)) ||| (((StrChars.hi8 cc) &&& (255 : Int32)) <<< ((8 : Int32) &&& 31))).toUInt32.toUInt16.toUInt32.toInt32)))) (fun h => by rw [Bd.returns] at h; cases h)
  exact ⟨_, _, retN X5 hx (t := .char) Bd.returns (by simp) (Jvm.hb hby own_d_jdk_52_method_5_code_59) hr, hrun, hended, _, _, rfl, (by show own_Q_gch1 Z a1 (1 : Int32) k z vs cc h0 n0 _ T5.heap _; rw [e5]; exact ⟨by rw [hpair], N0, rfl⟩), ⟨_, rfl⟩, hW, hsame.mono (by decide) (by decide)⟩
theorem own_ef_pch1 (m : MethodId) (a1 : Addr) (p2 : Int32) (p3 : Int32) : entryFrame m #[(.ref a1), (.int p2), (.int p3)] 3 = mkF m 0 #[.val (.ref a1), .val (.int p2), .val (.int p3)] [] := by first | (simp [entryFrame, mkF, argsToLocals, Value.category]; done) | rfl
def own_Q_pch1 (Z : State) (a1 : Addr) (p2 : Int32) (p3 : Int32) (k : ClassId) (z : Int32) (vs : List Value) (h0 : Heap) (n0 : Nat) (v : Option Value) (h : Heap) (L : List Loc) : Prop := v = none ∧ Fr n0 L ∧ Keep h0 h [a1] ∧ Arv Z h a1 k .byte z ((vs.set 2 (.int (StrChars.lo8 p3))).set 3 (.int (StrChars.hi8 p3))) (.int 0)
set_option maxRecDepth 65536 in
set_option maxHeartbeats 40000000 in
theorem own_rm_pch1 (l : Launch) (Z : State) (a0 : Array Value) (hw : ∀ d ∈ tables_1, d.before a0 Z = true) (ws : List Jvm.Cond) (a1 : Addr) (p2 : Int32) (p3 : Int32) (k : ClassId) (z : Int32) (vs : List Value) (h0 : Heap) (n0 : Nat) (Z0 : n0 ≤ h0.size) (S1 : Sta Z h0 "java/lang/StringUTF16" "$assertionsDisabled" "Z" (.int 1)) (S2 : Sta Z h0 "java/lang/StringUTF16" "HI_BYTE_SHIFT" "I" (.int 0)) (S3 : Sta Z h0 "java/lang/StringUTF16" "LO_BYTE_SHIFT" "I" (.int 8)) (Va : Arv Z h0 a1 k .byte z vs (.int 0)) (hp : p2 = (1 : Int32)) (hz0 : (2 : Int32) < z) (hz1 : (3 : Int32) < z) (hl : 3 < vs.length) (g_a1 : n0 ≤ a1) (E1 : Exa Z h0 a1 "[B") :
    MetFree l (⟨"java/lang/StringUTF16", "putChar", "([BII)V"⟩ : MethodName) (head1 (Jvm.Cond.code (⟨"java/lang/StringUTF16", "putChar", "([BII)V"⟩ : MethodName) jdk_52_method_4_code 3 none :: ws) ({ frames := 0, cells := 0, slots := 0, locals := 0 } : Room)) (fun a U => a = #[(.ref a1), (.int p2), (.int p3)] ∧ Z.Warmed39 U.vm ∧ U.heap = h0) (fun _ _ _ _ _ => True) (fun _ U o U' => ∃ v L, o = .returned v ∧ own_Q_pch1 Z a1 p2 p3 k z vs h0 n0 v U'.heap L ∧ FrameEnd U o U' L ({ frames := 0, cells := 0, slots := 0, locals := 0 } : Room).cells ({ frames := 0, cells := 0, slots := 0, locals := 0 } : Room).slots) := by
  refine MetFree.of_bodySF (plainFor_of_name own_pn_0) hisR ?_
  intro p e s m args below meth c s₁ Bd hml0 hP hK
  obtain ⟨rfl, hZ, hh⟩ := hP
  have hx := Bd.exec
  have hby := Bd.bytes
  have hml : c.maxLocals = 3 := hml0
  have hown : s.vm.findClass "java/lang/StringUTF16" = some m.cls := findClass_of_methodNamed Bd.named
  have hnm := (name_of_methodNamed Bd.named Bd.method).1
  have X0 : Stand p l e ({ frames := 0, cells := 0, slots := 0, locals := 0 } : Room) s m #[(.ref a1), (.int p2), (.int p3)] below meth c s₁ [] 0 0 := Stand.of_body Bd
  have e0 : s₁.heap = h0 := by rw [← hh, Bd.state]; rfl
  have N0 := Fr.nil n0
  refine own_start (own_ef_pch1 m a1 p2 p3 ) ?_
  subst hp
  have K0 : Keep h0 h0 [a1] := Keep.refl _ _
  obtain ⟨T1, X1, e1, st1⟩ := getS2 X0 hx hZ hown (host := "") (Or.inl (hw _ (List.mem_of_getElem? (i := 111) rfl))) Via.refl e0 S1 (g := (mkF m 0 #[.val (.ref a1), .val (.int (1 : Int32)), .val (.int p3)] [])) rfl (Jvm.hb hby own_d_jdk_52_method_4_code_0)
  refine own_of (T' := T1) (f' := (mkF m 31 #[.val (.ref a1), .val (.int (1 : Int32)), .val (.int p3)] [(.int ((1 : Int32) <<< ((1 : Int32) &&& 31)))])) (fun t_ k_ => (st1 _ (XS.ifYes X1.here hx rfl (pc0 := 3) (pc' := 28) rfl (Jvm.hb hby own_d_jdk_52_method_4_code_3) rfl ((if0 _ _).trans (feq (by decide : ¬ (1 : Int32) = 0)).2) (by decide) (by decide) (XS.iloadN X1.here hx rfl (Jvm.hb hby own_d_jdk_52_method_4_code_28) rfl (XS.iconst X1.here hx rfl (Jvm.hb hby own_d_jdk_52_method_4_code_29) (XS.ishl X1.here hx rfl (Jvm.hb hby own_d_jdk_52_method_4_code_30) rfl k_)))))) ?_
  rw [(by decide : ((1 : Int32) <<< ((1 : Int32) &&& 31)) = (2 : Int32))]
  refine own_of (T' := T1) (f' := (mkF m 37 #[.val (.ref a1), .val (.int ((2 : Int32) + (1 : Int32))), .val (.int p3)] [(.int (2 : Int32)), (.ref a1)])) (fun t_ k_ => (XS.istoreN X1.here hx rfl (Jvm.hb hby own_d_jdk_52_method_4_code_31) rfl (l' := #[.val (.ref a1), .val (.int (2 : Int32)), .val (.int p3)]) rfl (XS.aloadN X1.here hx rfl (Jvm.hb hby own_d_jdk_52_method_4_code_32) rfl rfl (XS.iloadN X1.here hx rfl (Jvm.hb hby own_d_jdk_52_method_4_code_33) rfl (XS.iinc X1.here hx rfl (Jvm.hb hby own_d_jdk_52_method_4_code_34) rfl (l' := #[.val (.ref a1), .val (.int ((2 : Int32) + (1 : Int32))), .val (.int p3)]) rfl k_))))) ?_
  try rw [(by decide : ((2 : Int32) + (1 : Int32)) = (3 : Int32))]
  obtain ⟨T2, X2, e2, st2⟩ := getS2 X1 hx hZ hown (host := "") (Or.inl (hw _ (List.mem_of_getElem? (i := 112) rfl))) Via.refl e1 S2 (g := (mkF m 38 #[.val (.ref a1), .val (.int (3 : Int32)), .val (.int p3)] [(.int p3), (.int (2 : Int32)), (.ref a1)])) rfl (Jvm.hb hby own_d_jdk_52_method_4_code_38)
  refine own_of (T' := T2) (f' := (mkF m 43 #[.val (.ref a1), .val (.int (3 : Int32)), .val (.int p3)] [(.int ((p3 >>> ((0 : Int32) &&& 31)).toInt8.toInt32)), (.int (2 : Int32)), (.ref a1)])) (fun t_ k_ => (XS.iloadN X1.here hx rfl (Jvm.hb hby own_d_jdk_52_method_4_code_37) rfl (st2 _ (XS.ishr X2.here hx rfl (Jvm.hb hby own_d_jdk_52_method_4_code_41) rfl (XS.i2b X2.here hx rfl (Jvm.hb hby own_d_jdk_52_method_4_code_42) rfl k_))))) ?_
  obtain ⟨cl3, Ar3, qq3, Sz3, Nn3, Hh3, Gg3⟩ := Va
  have hin3 : ¬ ((2 : Int32) < 0 ∨ cl3.slots.size ≤ ((2 : Int32) : Int32).toNatClampNeg) := inb_of Sz3 ⟨by decide, hz0⟩
  obtain ⟨T3, h3, X3, e3, W3, st3⟩ := stB X2 hx hZ e2 Ar3 (j := (2 : Int32)) hin3 (g := (mkF m 43 #[.val (.ref a1), .val (.int (3 : Int32)), .val (.int p3)] [(.int ((p3 >>> ((0 : Int32) &&& 31)).toInt8.toInt32)), (.int (2 : Int32)), (.ref a1)])) rfl rfl (Jvm.hb hby own_d_jdk_52_method_4_code_43)
  refine own_of (T' := T3) (f' := (mkF m 44 #[.val (.ref a1), .val (.int (3 : Int32)), .val (.int p3)] [])) (fun t_ k_ => (st3 _ k_)) ?_
  rw [own_b0] at W3
  have Vn3 := Arv.set Ar3 qq3 Sz3 Nn3 Hh3 Gg3 (fits_nar_byte _) W3 2 rfl (by omega)
  have N3 := Fr.snoc X3 N0 g_a1
  have f4 := K0.wr W3 (Or.inl (List.mem_of_getElem? (i := 0) rfl))
  have f5 := Nat.le_trans Z0 (Keep.of_wr W3).1
  have f6 := E1.wr W3
  have f7 := S1.wr W3
  have f8 := S2.wr W3
  have f9 := S3.wr W3
  obtain ⟨T10, X10, e10, st10⟩ := getS2 X3 hx hZ hown (host := "") (Or.inl (hw _ (List.mem_of_getElem? (i := 113) rfl))) Via.refl e3 f9 (g := (mkF m 47 #[.val (.ref a1), .val (.int (3 : Int32)), .val (.int p3)] [(.int p3), (.int (3 : Int32)), (.ref a1)])) rfl (Jvm.hb hby own_d_jdk_52_method_4_code_47)
  refine own_of (T' := T10) (f' := (mkF m 52 #[.val (.ref a1), .val (.int (3 : Int32)), .val (.int p3)] [(.int ((p3 >>> ((8 : Int32) &&& 31)).toInt8.toInt32)), (.int (3 : Int32)), (.ref a1)])) (fun t_ k_ => (XS.aloadN X3.here hx rfl (Jvm.hb hby own_d_jdk_52_method_4_code_44) rfl rfl (XS.iloadN X3.here hx rfl (Jvm.hb hby own_d_jdk_52_method_4_code_45) rfl (XS.iloadN X3.here hx rfl (Jvm.hb hby own_d_jdk_52_method_4_code_46) rfl (st10 _ (XS.ishr X10.here hx rfl (Jvm.hb hby own_d_jdk_52_method_4_code_50) rfl (XS.i2b X10.here hx rfl (Jvm.hb hby own_d_jdk_52_method_4_code_51) rfl k_))))))) ?_
  obtain ⟨cl11, Ar11, qq11, Sz11, Nn11, Hh11, Gg11⟩ := Vn3
  have hin11 : ¬ ((3 : Int32) < 0 ∨ cl11.slots.size ≤ ((3 : Int32) : Int32).toNatClampNeg) := inb_of Sz11 ⟨by decide, hz1⟩
  obtain ⟨T11, h11, X11, e11, W11, st11⟩ := stB X10 hx hZ e10 Ar11 (j := (3 : Int32)) hin11 (g := (mkF m 52 #[.val (.ref a1), .val (.int (3 : Int32)), .val (.int p3)] [(.int ((p3 >>> ((8 : Int32) &&& 31)).toInt8.toInt32)), (.int (3 : Int32)), (.ref a1)])) rfl rfl (Jvm.hb hby own_d_jdk_52_method_4_code_52)
  refine own_of (T' := T11) (f' := (mkF m 53 #[.val (.ref a1), .val (.int (3 : Int32)), .val (.int p3)] [])) (fun t_ k_ => (st11 _ k_)) ?_
  rw [own_b1] at W11
  have Vn11 := Arv.set Ar11 qq11 Sz11 Nn11 Hh11 Gg11 (fits_nar_byte _) W11 3 rfl (by rw [List.length_set]; omega)
  have N11 := Fr.snoc X11 N3 g_a1
  have f12 := f4.wr W11 (Or.inl (List.mem_of_getElem? (i := 0) rfl))
  have f13 := Nat.le_trans f5 (Keep.of_wr W11).1
  have f14 := f6.wr W11
  have f15 := f7.wr W11
  have f16 := f8.wr W11
  have f17 := f9.wr W11
  obtain ⟨fs, hr, hrun, hended, hW, hsame⟩ := X11.leave (v := none) (fun _ => rfl)
  exact ⟨_, _, X11.returnOut hx Bd.returns (Jvm.hb hby own_d_jdk_52_method_4_code_53) hr, hrun, hended, _, _, rfl, (by show own_Q_pch1 Z a1 (1 : Int32) p3 k z vs h0 n0 _ T11.heap _; rw [e11]; exact ⟨rfl, N11, f12, Vn11⟩), ⟨_, rfl⟩, hW, hsame.mono (by decide) (by decide)⟩
theorem own_ef_gch2 (m : MethodId) (a1 : Addr) (p2 : Int32) : entryFrame m #[(.ref a1), (.int p2)] 2 = mkF m 0 #[.val (.ref a1), .val (.int p2)] [] := by first | (simp [entryFrame, mkF, argsToLocals, Value.category]; done) | rfl
def own_Q_gch2 (Z : State) (a1 : Addr) (p2 : Int32) (k : ClassId) (z : Int32) (vs : List Value) (cc : Int32) (h0 : Heap) (n0 : Nat) (v : Option Value) (h : Heap) (L : List Loc) : Prop := v = some (.int cc) ∧ Fr n0 L ∧ h = h0
set_option maxRecDepth 65536 in
set_option maxHeartbeats 40000000 in
theorem own_rm_gch2 (l : Launch) (Z : State) (a0 : Array Value) (hw : ∀ d ∈ tables_1, d.before a0 Z = true) (ws : List Jvm.Cond) (a1 : Addr) (p2 : Int32) (k : ClassId) (z : Int32) (vs : List Value) (cc : Int32) (h0 : Heap) (n0 : Nat) (Z0 : n0 ≤ h0.size) (S1 : Sta Z h0 "java/lang/StringUTF16" "$assertionsDisabled" "Z" (.int 1)) (S2 : Sta Z h0 "java/lang/StringUTF16" "HI_BYTE_SHIFT" "I" (.int 0)) (S3 : Sta Z h0 "java/lang/StringUTF16" "LO_BYTE_SHIFT" "I" (.int 8)) (Va : Arv Z h0 a1 k .byte z vs (.int 0)) (hp : p2 = (2 : Int32)) (hz0 : (4 : Int32) < z) (hz1 : (5 : Int32) < z) (hx0 : vs.getD 4 (.int 0) = .int (StrChars.lo8 cc)) (hy0 : vs.getD 5 (.int 0) = .int (StrChars.hi8 cc)) (hc : ¬ cc < 0 ∧ ¬ (65535 : Int32) < cc) :
    MetFree l (⟨"java/lang/StringUTF16", "getChar", "([BI)C"⟩ : MethodName) (head1 (Jvm.Cond.code (⟨"java/lang/StringUTF16", "getChar", "([BI)C"⟩ : MethodName) jdk_52_method_5_code 2 (some .char) :: ws) ({ frames := 0, cells := 0, slots := 0, locals := 0 } : Room)) (fun a U => a = #[(.ref a1), (.int p2)] ∧ Z.Warmed39 U.vm ∧ U.heap = h0) (fun _ _ _ _ _ => True) (fun _ U o U' => ∃ v L, o = .returned v ∧ own_Q_gch2 Z a1 p2 k z vs cc h0 n0 v U'.heap L ∧ FrameEnd U o U' L ({ frames := 0, cells := 0, slots := 0, locals := 0 } : Room).cells ({ frames := 0, cells := 0, slots := 0, locals := 0 } : Room).slots) := by
  refine MetFree.of_bodySF (plainFor_of_name own_pn_0) hisR ?_
  intro p e s m args below meth c s₁ Bd hml0 hP hK
  obtain ⟨rfl, hZ, hh⟩ := hP
  have hx := Bd.exec
  have hby := Bd.bytes
  have hml : c.maxLocals = 2 := hml0
  have hown : s.vm.findClass "java/lang/StringUTF16" = some m.cls := findClass_of_methodNamed Bd.named
  have hnm := (name_of_methodNamed Bd.named Bd.method).1
  have X0 : Stand p l e ({ frames := 0, cells := 0, slots := 0, locals := 0 } : Room) s m #[(.ref a1), (.int p2)] below meth c s₁ [] 0 0 := Stand.of_body Bd
  have e0 : s₁.heap = h0 := by rw [← hh, Bd.state]; rfl
  have N0 := Fr.nil n0
  refine own_start (own_ef_gch2 m a1 p2 ) ?_
  subst hp
  obtain ⟨T1, X1, e1, st1⟩ := getS2 X0 hx hZ hown (host := "") (Or.inl (hw _ (List.mem_of_getElem? (i := 111) rfl))) Via.refl e0 S1 (g := (mkF m 0 #[.val (.ref a1), .val (.int (2 : Int32))] [])) rfl (Jvm.hb hby own_d_jdk_52_method_5_code_0)
  refine own_of (T' := T1) (f' := (mkF m 31 #[.val (.ref a1), .val (.int (2 : Int32))] [(.int ((2 : Int32) <<< ((1 : Int32) &&& 31)))])) (fun t_ k_ => (st1 _ (XS.ifYes X1.here hx rfl (pc0 := 3) (pc' := 28) rfl (Jvm.hb hby own_d_jdk_52_method_5_code_3) rfl ((if0 _ _).trans (feq (by decide : ¬ (1 : Int32) = 0)).2) (by decide) (by decide) (XS.iloadN X1.here hx rfl (Jvm.hb hby own_d_jdk_52_method_5_code_28) rfl (XS.iconst X1.here hx rfl (Jvm.hb hby own_d_jdk_52_method_5_code_29) (XS.ishl X1.here hx rfl (Jvm.hb hby own_d_jdk_52_method_5_code_30) rfl k_)))))) ?_
  rw [(by decide : ((2 : Int32) <<< ((1 : Int32) &&& 31)) = (4 : Int32))]
  refine own_of (T' := T1) (f' := (mkF m 37 #[.val (.ref a1), .val (.int ((4 : Int32) + (1 : Int32)))] [(.int (4 : Int32)), (.ref a1)])) (fun t_ k_ => (XS.istoreN X1.here hx rfl (Jvm.hb hby own_d_jdk_52_method_5_code_31) rfl (l' := #[.val (.ref a1), .val (.int (4 : Int32))]) rfl (XS.aloadN X1.here hx rfl (Jvm.hb hby own_d_jdk_52_method_5_code_32) rfl rfl (XS.iloadN X1.here hx rfl (Jvm.hb hby own_d_jdk_52_method_5_code_33) rfl (XS.iinc X1.here hx rfl (Jvm.hb hby own_d_jdk_52_method_5_code_34) rfl (l' := #[.val (.ref a1), .val (.int ((4 : Int32) + (1 : Int32)))]) rfl k_))))) ?_
  obtain ⟨cl, Ar, qq, Sz, Nn, Hh, Gg⟩ := id Va
  try rw [(by decide : ((4 : Int32) + (1 : Int32)) = (5 : Int32))]
  have hin2 : ¬ ((4 : Int32) < 0 ∨ cl.slots.size ≤ ((4 : Int32) : Int32).toNatClampNeg) := inb_of Sz ⟨by decide, hz0⟩
  obtain ⟨T3, X3, e3, st3⟩ := getS2 X1 hx hZ hown (host := "") (Or.inl (hw _ (List.mem_of_getElem? (i := 112) rfl))) Via.refl e1 S2 (g := (mkF m 42 #[.val (.ref a1), .val (.int (5 : Int32))] [(.int ((StrChars.lo8 cc) &&& (255 : Int32)))])) rfl (Jvm.hb hby own_d_jdk_52_method_5_code_42)
  refine own_of (T' := T3) (f' := (mkF m 48 #[.val (.ref a1), .val (.int (5 : Int32))] [(.int (5 : Int32)), (.ref a1), (.int (((StrChars.lo8 cc) &&& (255 : Int32)) <<< ((0 : Int32) &&& 31)))])) (fun t_ k_ => (X1.baloadBytes hx (j := (4 : Int32)) (v := .int (StrChars.lo8 cc)) (by rw [e1]; exact Ar.1) (State.isArrayOf_alike hZ.alike Ar.2.1) Ar.2.2 hin2 (Hh.at hin2 hx0) (g := (mkF m 37 #[.val (.ref a1), .val (.int (5 : Int32))] [(.int (4 : Int32)), (.ref a1)])) rfl rfl (Jvm.hb hby own_d_jdk_52_method_5_code_37) _ (XS.sipush X1.here hx rfl (Jvm.hb hby own_d_jdk_52_method_5_code_38) (XS.iand X1.here hx rfl (Jvm.hb hby own_d_jdk_52_method_5_code_41) rfl (st3 _ (XS.ishl X3.here hx rfl (Jvm.hb hby own_d_jdk_52_method_5_code_45) rfl (XS.aloadN X3.here hx rfl (Jvm.hb hby own_d_jdk_52_method_5_code_46) rfl rfl (XS.iloadN X3.here hx rfl (Jvm.hb hby own_d_jdk_52_method_5_code_47) rfl k_)))))))) ?_
  have hin4 : ¬ ((5 : Int32) < 0 ∨ cl.slots.size ≤ ((5 : Int32) : Int32).toNatClampNeg) := inb_of Sz ⟨by decide, hz1⟩
  obtain ⟨T5, X5, e5, st5⟩ := getS2 X3 hx hZ hown (host := "") (Or.inl (hw _ (List.mem_of_getElem? (i := 113) rfl))) Via.refl e3 S3 (g := (mkF m 53 #[.val (.ref a1), .val (.int (5 : Int32))] [(.int ((StrChars.hi8 cc) &&& (255 : Int32))), (.int (((StrChars.lo8 cc) &&& (255 : Int32)) <<< ((0 : Int32) &&& 31)))])) rfl (Jvm.hb hby own_d_jdk_52_method_5_code_53)
  refine own_of (T' := T5) (f' := (mkF m 59 #[.val (.ref a1), .val (.int (5 : Int32))] [(.int (((((StrChars.lo8 cc) &&& (255 : Int32)) <<< ((0 : Int32) &&& 31)) ||| (((StrChars.hi8 cc) &&& (255 : Int32)) <<< ((8 : Int32) &&& 31))).toUInt32.toUInt16.toUInt32.toInt32))])) (fun t_ k_ => (X3.baloadBytes hx (j := (5 : Int32)) (v := .int (StrChars.hi8 cc)) (by rw [e3]; exact Ar.1) (State.isArrayOf_alike hZ.alike Ar.2.1) Ar.2.2 hin4 (Hh.at hin4 hy0) (g := (mkF m 48 #[.val (.ref a1), .val (.int (5 : Int32))] [(.int (5 : Int32)), (.ref a1), (.int (((StrChars.lo8 cc) &&& (255 : Int32)) <<< ((0 : Int32) &&& 31)))])) rfl rfl (Jvm.hb hby own_d_jdk_52_method_5_code_48) _ (XS.sipush X3.here hx rfl (Jvm.hb hby own_d_jdk_52_method_5_code_49) (XS.iand X3.here hx rfl (Jvm.hb hby own_d_jdk_52_method_5_code_52) rfl (st5 _ (XS.ishl X5.here hx rfl (Jvm.hb hby own_d_jdk_52_method_5_code_56) rfl (XS.ior X5.here hx rfl (Jvm.hb hby own_d_jdk_52_method_5_code_57) rfl (XS.i2c X5.here hx rfl (Jvm.hb hby own_d_jdk_52_method_5_code_58) rfl k_)))))))) ?_
  have hpair : nar .char (((((StrChars.lo8 cc) &&& (255 : Int32)) <<< ((0 : Int32) &&& 31)) ||| (((StrChars.hi8 cc) &&& (255 : Int32)) <<< ((8 : Int32) &&& 31))).toUInt32.toUInt16.toUInt32.toInt32) = cc := by
    have q_ : (((((StrChars.lo8 cc) &&& (255 : Int32)) <<< ((0 : Int32) &&& 31)) ||| (((StrChars.hi8 cc) &&& (255 : Int32)) <<< ((8 : Int32) &&& 31))).toUInt32.toUInt16.toUInt32.toInt32) = cc := StrChars.pair_says hc.1 hc.2
    rw [q_]
    exact own_nc cc hc
  obtain ⟨fs, hr, hrun, hended, hW, hsame⟩ := X5.leave (v := some (.int (nar .char (((((StrChars.lo8 cc) &&& (255 : Int32)) <<< ((0 : Int32) &&& 31)) ||| (((StrChars.hi8 cc) &&& (255 : Int32)) <<< ((8 : Int32) &&& 31))).toUInt32.toUInt16.toUInt32.toInt32)))) (fun h => by rw [Bd.returns] at h; cases h)
  exact ⟨_, _, retN X5 hx (t := .char) Bd.returns (by simp) (Jvm.hb hby own_d_jdk_52_method_5_code_59) hr, hrun, hended, _, _, rfl, (by show own_Q_gch2 Z a1 (2 : Int32) k z vs cc h0 n0 _ T5.heap _; rw [e5]; exact ⟨by rw [hpair], N0, rfl⟩), ⟨_, rfl⟩, hW, hsame.mono (by decide) (by decide)⟩
theorem own_ef_pch2 (m : MethodId) (a1 : Addr) (p2 : Int32) (p3 : Int32) : entryFrame m #[(.ref a1), (.int p2), (.int p3)] 3 = mkF m 0 #[.val (.ref a1), .val (.int p2), .val (.int p3)] [] := by first | (simp [entryFrame, mkF, argsToLocals, Value.category]; done) | rfl
def own_Q_pch2 (Z : State) (a1 : Addr) (p2 : Int32) (p3 : Int32) (k : ClassId) (z : Int32) (vs : List Value) (h0 : Heap) (n0 : Nat) (v : Option Value) (h : Heap) (L : List Loc) : Prop := v = none ∧ Fr n0 L ∧ Keep h0 h [a1] ∧ Arv Z h a1 k .byte z ((vs.set 4 (.int (StrChars.lo8 p3))).set 5 (.int (StrChars.hi8 p3))) (.int 0)
set_option maxRecDepth 65536 in
set_option maxHeartbeats 40000000 in
theorem own_rm_pch2 (l : Launch) (Z : State) (a0 : Array Value) (hw : ∀ d ∈ tables_1, d.before a0 Z = true) (ws : List Jvm.Cond) (a1 : Addr) (p2 : Int32) (p3 : Int32) (k : ClassId) (z : Int32) (vs : List Value) (h0 : Heap) (n0 : Nat) (Z0 : n0 ≤ h0.size) (S1 : Sta Z h0 "java/lang/StringUTF16" "$assertionsDisabled" "Z" (.int 1)) (S2 : Sta Z h0 "java/lang/StringUTF16" "HI_BYTE_SHIFT" "I" (.int 0)) (S3 : Sta Z h0 "java/lang/StringUTF16" "LO_BYTE_SHIFT" "I" (.int 8)) (Va : Arv Z h0 a1 k .byte z vs (.int 0)) (hp : p2 = (2 : Int32)) (hz0 : (4 : Int32) < z) (hz1 : (5 : Int32) < z) (hl : 5 < vs.length) (g_a1 : n0 ≤ a1) (E1 : Exa Z h0 a1 "[B") :
    MetFree l (⟨"java/lang/StringUTF16", "putChar", "([BII)V"⟩ : MethodName) (head1 (Jvm.Cond.code (⟨"java/lang/StringUTF16", "putChar", "([BII)V"⟩ : MethodName) jdk_52_method_4_code 3 none :: ws) ({ frames := 0, cells := 0, slots := 0, locals := 0 } : Room)) (fun a U => a = #[(.ref a1), (.int p2), (.int p3)] ∧ Z.Warmed39 U.vm ∧ U.heap = h0) (fun _ _ _ _ _ => True) (fun _ U o U' => ∃ v L, o = .returned v ∧ own_Q_pch2 Z a1 p2 p3 k z vs h0 n0 v U'.heap L ∧ FrameEnd U o U' L ({ frames := 0, cells := 0, slots := 0, locals := 0 } : Room).cells ({ frames := 0, cells := 0, slots := 0, locals := 0 } : Room).slots) := by
  refine MetFree.of_bodySF (plainFor_of_name own_pn_0) hisR ?_
  intro p e s m args below meth c s₁ Bd hml0 hP hK
  obtain ⟨rfl, hZ, hh⟩ := hP
  have hx := Bd.exec
  have hby := Bd.bytes
  have hml : c.maxLocals = 3 := hml0
  have hown : s.vm.findClass "java/lang/StringUTF16" = some m.cls := findClass_of_methodNamed Bd.named
  have hnm := (name_of_methodNamed Bd.named Bd.method).1
  have X0 : Stand p l e ({ frames := 0, cells := 0, slots := 0, locals := 0 } : Room) s m #[(.ref a1), (.int p2), (.int p3)] below meth c s₁ [] 0 0 := Stand.of_body Bd
  have e0 : s₁.heap = h0 := by rw [← hh, Bd.state]; rfl
  have N0 := Fr.nil n0
  refine own_start (own_ef_pch2 m a1 p2 p3 ) ?_
  subst hp
  have K0 : Keep h0 h0 [a1] := Keep.refl _ _
  obtain ⟨T1, X1, e1, st1⟩ := getS2 X0 hx hZ hown (host := "") (Or.inl (hw _ (List.mem_of_getElem? (i := 111) rfl))) Via.refl e0 S1 (g := (mkF m 0 #[.val (.ref a1), .val (.int (2 : Int32)), .val (.int p3)] [])) rfl (Jvm.hb hby own_d_jdk_52_method_4_code_0)
  refine own_of (T' := T1) (f' := (mkF m 31 #[.val (.ref a1), .val (.int (2 : Int32)), .val (.int p3)] [(.int ((2 : Int32) <<< ((1 : Int32) &&& 31)))])) (fun t_ k_ => (st1 _ (XS.ifYes X1.here hx rfl (pc0 := 3) (pc' := 28) rfl (Jvm.hb hby own_d_jdk_52_method_4_code_3) rfl ((if0 _ _).trans (feq (by decide : ¬ (1 : Int32) = 0)).2) (by decide) (by decide) (XS.iloadN X1.here hx rfl (Jvm.hb hby own_d_jdk_52_method_4_code_28) rfl (XS.iconst X1.here hx rfl (Jvm.hb hby own_d_jdk_52_method_4_code_29) (XS.ishl X1.here hx rfl (Jvm.hb hby own_d_jdk_52_method_4_code_30) rfl k_)))))) ?_
  rw [(by decide : ((2 : Int32) <<< ((1 : Int32) &&& 31)) = (4 : Int32))]
  refine own_of (T' := T1) (f' := (mkF m 37 #[.val (.ref a1), .val (.int ((4 : Int32) + (1 : Int32))), .val (.int p3)] [(.int (4 : Int32)), (.ref a1)])) (fun t_ k_ => (XS.istoreN X1.here hx rfl (Jvm.hb hby own_d_jdk_52_method_4_code_31) rfl (l' := #[.val (.ref a1), .val (.int (4 : Int32)), .val (.int p3)]) rfl (XS.aloadN X1.here hx rfl (Jvm.hb hby own_d_jdk_52_method_4_code_32) rfl rfl (XS.iloadN X1.here hx rfl (Jvm.hb hby own_d_jdk_52_method_4_code_33) rfl (XS.iinc X1.here hx rfl (Jvm.hb hby own_d_jdk_52_method_4_code_34) rfl (l' := #[.val (.ref a1), .val (.int ((4 : Int32) + (1 : Int32))), .val (.int p3)]) rfl k_))))) ?_
  try rw [(by decide : ((4 : Int32) + (1 : Int32)) = (5 : Int32))]
  obtain ⟨T2, X2, e2, st2⟩ := getS2 X1 hx hZ hown (host := "") (Or.inl (hw _ (List.mem_of_getElem? (i := 112) rfl))) Via.refl e1 S2 (g := (mkF m 38 #[.val (.ref a1), .val (.int (5 : Int32)), .val (.int p3)] [(.int p3), (.int (4 : Int32)), (.ref a1)])) rfl (Jvm.hb hby own_d_jdk_52_method_4_code_38)
  refine own_of (T' := T2) (f' := (mkF m 43 #[.val (.ref a1), .val (.int (5 : Int32)), .val (.int p3)] [(.int ((p3 >>> ((0 : Int32) &&& 31)).toInt8.toInt32)), (.int (4 : Int32)), (.ref a1)])) (fun t_ k_ => (XS.iloadN X1.here hx rfl (Jvm.hb hby own_d_jdk_52_method_4_code_37) rfl (st2 _ (XS.ishr X2.here hx rfl (Jvm.hb hby own_d_jdk_52_method_4_code_41) rfl (XS.i2b X2.here hx rfl (Jvm.hb hby own_d_jdk_52_method_4_code_42) rfl k_))))) ?_
  obtain ⟨cl3, Ar3, qq3, Sz3, Nn3, Hh3, Gg3⟩ := Va
  have hin3 : ¬ ((4 : Int32) < 0 ∨ cl3.slots.size ≤ ((4 : Int32) : Int32).toNatClampNeg) := inb_of Sz3 ⟨by decide, hz0⟩
  obtain ⟨T3, h3, X3, e3, W3, st3⟩ := stB X2 hx hZ e2 Ar3 (j := (4 : Int32)) hin3 (g := (mkF m 43 #[.val (.ref a1), .val (.int (5 : Int32)), .val (.int p3)] [(.int ((p3 >>> ((0 : Int32) &&& 31)).toInt8.toInt32)), (.int (4 : Int32)), (.ref a1)])) rfl rfl (Jvm.hb hby own_d_jdk_52_method_4_code_43)
  refine own_of (T' := T3) (f' := (mkF m 44 #[.val (.ref a1), .val (.int (5 : Int32)), .val (.int p3)] [])) (fun t_ k_ => (st3 _ k_)) ?_
  rw [own_b0] at W3
  have Vn3 := Arv.set Ar3 qq3 Sz3 Nn3 Hh3 Gg3 (fits_nar_byte _) W3 4 rfl (by omega)
  have N3 := Fr.snoc X3 N0 g_a1
  have f4 := K0.wr W3 (Or.inl (List.mem_of_getElem? (i := 0) rfl))
  have f5 := Nat.le_trans Z0 (Keep.of_wr W3).1
  have f6 := E1.wr W3
  have f7 := S1.wr W3
  have f8 := S2.wr W3
  have f9 := S3.wr W3
  obtain ⟨T10, X10, e10, st10⟩ := getS2 X3 hx hZ hown (host := "") (Or.inl (hw _ (List.mem_of_getElem? (i := 113) rfl))) Via.refl e3 f9 (g := (mkF m 47 #[.val (.ref a1), .val (.int (5 : Int32)), .val (.int p3)] [(.int p3), (.int (5 : Int32)), (.ref a1)])) rfl (Jvm.hb hby own_d_jdk_52_method_4_code_47)
  refine own_of (T' := T10) (f' := (mkF m 52 #[.val (.ref a1), .val (.int (5 : Int32)), .val (.int p3)] [(.int ((p3 >>> ((8 : Int32) &&& 31)).toInt8.toInt32)), (.int (5 : Int32)), (.ref a1)])) (fun t_ k_ => (XS.aloadN X3.here hx rfl (Jvm.hb hby own_d_jdk_52_method_4_code_44) rfl rfl (XS.iloadN X3.here hx rfl (Jvm.hb hby own_d_jdk_52_method_4_code_45) rfl (XS.iloadN X3.here hx rfl (Jvm.hb hby own_d_jdk_52_method_4_code_46) rfl (st10 _ (XS.ishr X10.here hx rfl (Jvm.hb hby own_d_jdk_52_method_4_code_50) rfl (XS.i2b X10.here hx rfl (Jvm.hb hby own_d_jdk_52_method_4_code_51) rfl k_))))))) ?_
  obtain ⟨cl11, Ar11, qq11, Sz11, Nn11, Hh11, Gg11⟩ := Vn3
  have hin11 : ¬ ((5 : Int32) < 0 ∨ cl11.slots.size ≤ ((5 : Int32) : Int32).toNatClampNeg) := inb_of Sz11 ⟨by decide, hz1⟩
  obtain ⟨T11, h11, X11, e11, W11, st11⟩ := stB X10 hx hZ e10 Ar11 (j := (5 : Int32)) hin11 (g := (mkF m 52 #[.val (.ref a1), .val (.int (5 : Int32)), .val (.int p3)] [(.int ((p3 >>> ((8 : Int32) &&& 31)).toInt8.toInt32)), (.int (5 : Int32)), (.ref a1)])) rfl rfl (Jvm.hb hby own_d_jdk_52_method_4_code_52)
  refine own_of (T' := T11) (f' := (mkF m 53 #[.val (.ref a1), .val (.int (5 : Int32)), .val (.int p3)] [])) (fun t_ k_ => (st11 _ k_)) ?_
  rw [own_b1] at W11
  have Vn11 := Arv.set Ar11 qq11 Sz11 Nn11 Hh11 Gg11 (fits_nar_byte _) W11 5 rfl (by rw [List.length_set]; omega)
  have N11 := Fr.snoc X11 N3 g_a1
  have f12 := f4.wr W11 (Or.inl (List.mem_of_getElem? (i := 0) rfl))
  have f13 := Nat.le_trans f5 (Keep.of_wr W11).1
  have f14 := f6.wr W11
  have f15 := f7.wr W11
  have f16 := f8.wr W11
  have f17 := f9.wr W11
  obtain ⟨fs, hr, hrun, hended, hW, hsame⟩ := X11.leave (v := none) (fun _ => rfl)
  exact ⟨_, _, X11.returnOut hx Bd.returns (Jvm.hb hby own_d_jdk_52_method_4_code_53) hr, hrun, hended, _, _, rfl, (by show own_Q_pch2 Z a1 (2 : Int32) p3 k z vs h0 n0 _ T11.heap _; rw [e11]; exact ⟨rfl, N11, f12, Vn11⟩), ⟨_, rfl⟩, hW, hsame.mono (by decide) (by decide)⟩
theorem own_ef_gch3 (m : MethodId) (a1 : Addr) (p2 : Int32) : entryFrame m #[(.ref a1), (.int p2)] 2 = mkF m 0 #[.val (.ref a1), .val (.int p2)] [] := by first | (simp [entryFrame, mkF, argsToLocals, Value.category]; done) | rfl
def own_Q_gch3 (Z : State) (a1 : Addr) (p2 : Int32) (k : ClassId) (z : Int32) (vs : List Value) (cc : Int32) (h0 : Heap) (n0 : Nat) (v : Option Value) (h : Heap) (L : List Loc) : Prop := v = some (.int cc) ∧ Fr n0 L ∧ h = h0
set_option maxRecDepth 65536 in
set_option maxHeartbeats 40000000 in
theorem own_rm_gch3 (l : Launch) (Z : State) (a0 : Array Value) (hw : ∀ d ∈ tables_1, d.before a0 Z = true) (ws : List Jvm.Cond) (a1 : Addr) (p2 : Int32) (k : ClassId) (z : Int32) (vs : List Value) (cc : Int32) (h0 : Heap) (n0 : Nat) (Z0 : n0 ≤ h0.size) (S1 : Sta Z h0 "java/lang/StringUTF16" "$assertionsDisabled" "Z" (.int 1)) (S2 : Sta Z h0 "java/lang/StringUTF16" "HI_BYTE_SHIFT" "I" (.int 0)) (S3 : Sta Z h0 "java/lang/StringUTF16" "LO_BYTE_SHIFT" "I" (.int 8)) (Va : Arv Z h0 a1 k .byte z vs (.int 0)) (hp : p2 = (3 : Int32)) (hz0 : (6 : Int32) < z) (hz1 : (7 : Int32) < z) (hx0 : vs.getD 6 (.int 0) = .int (StrChars.lo8 cc)) (hy0 : vs.getD 7 (.int 0) = .int (StrChars.hi8 cc)) (hc : ¬ cc < 0 ∧ ¬ (65535 : Int32) < cc) :
    MetFree l (⟨"java/lang/StringUTF16", "getChar", "([BI)C"⟩ : MethodName) (head1 (Jvm.Cond.code (⟨"java/lang/StringUTF16", "getChar", "([BI)C"⟩ : MethodName) jdk_52_method_5_code 2 (some .char) :: ws) ({ frames := 0, cells := 0, slots := 0, locals := 0 } : Room)) (fun a U => a = #[(.ref a1), (.int p2)] ∧ Z.Warmed39 U.vm ∧ U.heap = h0) (fun _ _ _ _ _ => True) (fun _ U o U' => ∃ v L, o = .returned v ∧ own_Q_gch3 Z a1 p2 k z vs cc h0 n0 v U'.heap L ∧ FrameEnd U o U' L ({ frames := 0, cells := 0, slots := 0, locals := 0 } : Room).cells ({ frames := 0, cells := 0, slots := 0, locals := 0 } : Room).slots) := by
  refine MetFree.of_bodySF (plainFor_of_name own_pn_0) hisR ?_
  intro p e s m args below meth c s₁ Bd hml0 hP hK
  obtain ⟨rfl, hZ, hh⟩ := hP
  have hx := Bd.exec
  have hby := Bd.bytes
  have hml : c.maxLocals = 2 := hml0
  have hown : s.vm.findClass "java/lang/StringUTF16" = some m.cls := findClass_of_methodNamed Bd.named
  have hnm := (name_of_methodNamed Bd.named Bd.method).1
  have X0 : Stand p l e ({ frames := 0, cells := 0, slots := 0, locals := 0 } : Room) s m #[(.ref a1), (.int p2)] below meth c s₁ [] 0 0 := Stand.of_body Bd
  have e0 : s₁.heap = h0 := by rw [← hh, Bd.state]; rfl
  have N0 := Fr.nil n0
  refine own_start (own_ef_gch3 m a1 p2 ) ?_
  subst hp
  obtain ⟨T1, X1, e1, st1⟩ := getS2 X0 hx hZ hown (host := "") (Or.inl (hw _ (List.mem_of_getElem? (i := 111) rfl))) Via.refl e0 S1 (g := (mkF m 0 #[.val (.ref a1), .val (.int (3 : Int32))] [])) rfl (Jvm.hb hby own_d_jdk_52_method_5_code_0)
  refine own_of (T' := T1) (f' := (mkF m 31 #[.val (.ref a1), .val (.int (3 : Int32))] [(.int ((3 : Int32) <<< ((1 : Int32) &&& 31)))])) (fun t_ k_ => (st1 _ (XS.ifYes X1.here hx rfl (pc0 := 3) (pc' := 28) rfl (Jvm.hb hby own_d_jdk_52_method_5_code_3) rfl ((if0 _ _).trans (feq (by decide : ¬ (1 : Int32) = 0)).2) (by decide) (by decide) (XS.iloadN X1.here hx rfl (Jvm.hb hby own_d_jdk_52_method_5_code_28) rfl (XS.iconst X1.here hx rfl (Jvm.hb hby own_d_jdk_52_method_5_code_29) (XS.ishl X1.here hx rfl (Jvm.hb hby own_d_jdk_52_method_5_code_30) rfl k_)))))) ?_
  rw [(by decide : ((3 : Int32) <<< ((1 : Int32) &&& 31)) = (6 : Int32))]
  refine own_of (T' := T1) (f' := (mkF m 37 #[.val (.ref a1), .val (.int ((6 : Int32) + (1 : Int32)))] [(.int (6 : Int32)), (.ref a1)])) (fun t_ k_ => (XS.istoreN X1.here hx rfl (Jvm.hb hby own_d_jdk_52_method_5_code_31) rfl (l' := #[.val (.ref a1), .val (.int (6 : Int32))]) rfl (XS.aloadN X1.here hx rfl (Jvm.hb hby own_d_jdk_52_method_5_code_32) rfl rfl (XS.iloadN X1.here hx rfl (Jvm.hb hby own_d_jdk_52_method_5_code_33) rfl (XS.iinc X1.here hx rfl (Jvm.hb hby own_d_jdk_52_method_5_code_34) rfl (l' := #[.val (.ref a1), .val (.int ((6 : Int32) + (1 : Int32)))]) rfl k_))))) ?_
  obtain ⟨cl, Ar, qq, Sz, Nn, Hh, Gg⟩ := id Va
  try rw [(by decide : ((6 : Int32) + (1 : Int32)) = (7 : Int32))]
  have hin2 : ¬ ((6 : Int32) < 0 ∨ cl.slots.size ≤ ((6 : Int32) : Int32).toNatClampNeg) := inb_of Sz ⟨by decide, hz0⟩
  obtain ⟨T3, X3, e3, st3⟩ := getS2 X1 hx hZ hown (host := "") (Or.inl (hw _ (List.mem_of_getElem? (i := 112) rfl))) Via.refl e1 S2 (g := (mkF m 42 #[.val (.ref a1), .val (.int (7 : Int32))] [(.int ((StrChars.lo8 cc) &&& (255 : Int32)))])) rfl (Jvm.hb hby own_d_jdk_52_method_5_code_42)
  refine own_of (T' := T3) (f' := (mkF m 48 #[.val (.ref a1), .val (.int (7 : Int32))] [(.int (7 : Int32)), (.ref a1), (.int (((StrChars.lo8 cc) &&& (255 : Int32)) <<< ((0 : Int32) &&& 31)))])) (fun t_ k_ => (X1.baloadBytes hx (j := (6 : Int32)) (v := .int (StrChars.lo8 cc)) (by rw [e1]; exact Ar.1) (State.isArrayOf_alike hZ.alike Ar.2.1) Ar.2.2 hin2 (Hh.at hin2 hx0) (g := (mkF m 37 #[.val (.ref a1), .val (.int (7 : Int32))] [(.int (6 : Int32)), (.ref a1)])) rfl rfl (Jvm.hb hby own_d_jdk_52_method_5_code_37) _ (XS.sipush X1.here hx rfl (Jvm.hb hby own_d_jdk_52_method_5_code_38) (XS.iand X1.here hx rfl (Jvm.hb hby own_d_jdk_52_method_5_code_41) rfl (st3 _ (XS.ishl X3.here hx rfl (Jvm.hb hby own_d_jdk_52_method_5_code_45) rfl (XS.aloadN X3.here hx rfl (Jvm.hb hby own_d_jdk_52_method_5_code_46) rfl rfl (XS.iloadN X3.here hx rfl (Jvm.hb hby own_d_jdk_52_method_5_code_47) rfl k_)))))))) ?_
  have hin4 : ¬ ((7 : Int32) < 0 ∨ cl.slots.size ≤ ((7 : Int32) : Int32).toNatClampNeg) := inb_of Sz ⟨by decide, hz1⟩
  obtain ⟨T5, X5, e5, st5⟩ := getS2 X3 hx hZ hown (host := "") (Or.inl (hw _ (List.mem_of_getElem? (i := 113) rfl))) Via.refl e3 S3 (g := (mkF m 53 #[.val (.ref a1), .val (.int (7 : Int32))] [(.int ((StrChars.hi8 cc) &&& (255 : Int32))), (.int (((StrChars.lo8 cc) &&& (255 : Int32)) <<< ((0 : Int32) &&& 31)))])) rfl (Jvm.hb hby own_d_jdk_52_method_5_code_53)
  refine own_of (T' := T5) (f' := (mkF m 59 #[.val (.ref a1), .val (.int (7 : Int32))] [(.int (((((StrChars.lo8 cc) &&& (255 : Int32)) <<< ((0 : Int32) &&& 31)) ||| (((StrChars.hi8 cc) &&& (255 : Int32)) <<< ((8 : Int32) &&& 31))).toUInt32.toUInt16.toUInt32.toInt32))])) (fun t_ k_ => (X3.baloadBytes hx (j := (7 : Int32)) (v := .int (StrChars.hi8 cc)) (by rw [e3]; exact Ar.1) (State.isArrayOf_alike hZ.alike Ar.2.1) Ar.2.2 hin4 (Hh.at hin4 hy0) (g := (mkF m 48 #[.val (.ref a1), .val (.int (7 : Int32))] [(.int (7 : Int32)), (.ref a1), (.int (((StrChars.lo8 cc) &&& (255 : Int32)) <<< ((0 : Int32) &&& 31)))])) rfl rfl (Jvm.hb hby own_d_jdk_52_method_5_code_48) _ (XS.sipush X3.here hx rfl (Jvm.hb hby own_d_jdk_52_method_5_code_49) (XS.iand X3.here hx rfl (Jvm.hb hby own_d_jdk_52_method_5_code_52) rfl (st5 _ (XS.ishl X5.here hx rfl (Jvm.hb hby own_d_jdk_52_method_5_code_56) rfl (XS.ior X5.here hx rfl (Jvm.hb hby own_d_jdk_52_method_5_code_57) rfl (XS.i2c X5.here hx rfl (Jvm.hb hby own_d_jdk_52_method_5_code_58) rfl k_)))))))) ?_
  have hpair : nar .char (((((StrChars.lo8 cc) &&& (255 : Int32)) <<< ((0 : Int32) &&& 31)) ||| (((StrChars.hi8 cc) &&& (255 : Int32)) <<< ((8 : Int32) &&& 31))).toUInt32.toUInt16.toUInt32.toInt32) = cc := by
    have q_ : (((((StrChars.lo8 cc) &&& (255 : Int32)) <<< ((0 : Int32) &&& 31)) ||| (((StrChars.hi8 cc) &&& (255 : Int32)) <<< ((8 : Int32) &&& 31))).toUInt32.toUInt16.toUInt32.toInt32) = cc := StrChars.pair_says hc.1 hc.2
    rw [q_]
    exact own_nc cc hc
  obtain ⟨fs, hr, hrun, hended, hW, hsame⟩ := X5.leave (v := some (.int (nar .char (((((StrChars.lo8 cc) &&& (255 : Int32)) <<< ((0 : Int32) &&& 31)) ||| (((StrChars.hi8 cc) &&& (255 : Int32)) <<< ((8 : Int32) &&& 31))).toUInt32.toUInt16.toUInt32.toInt32)))) (fun h => by rw [Bd.returns] at h; cases h)
  exact ⟨_, _, retN X5 hx (t := .char) Bd.returns (by simp) (Jvm.hb hby own_d_jdk_52_method_5_code_59) hr, hrun, hended, _, _, rfl, (by show own_Q_gch3 Z a1 (3 : Int32) k z vs cc h0 n0 _ T5.heap _; rw [e5]; exact ⟨by rw [hpair], N0, rfl⟩), ⟨_, rfl⟩, hW, hsame.mono (by decide) (by decide)⟩
theorem own_ef_pch3 (m : MethodId) (a1 : Addr) (p2 : Int32) (p3 : Int32) : entryFrame m #[(.ref a1), (.int p2), (.int p3)] 3 = mkF m 0 #[.val (.ref a1), .val (.int p2), .val (.int p3)] [] := by first | (simp [entryFrame, mkF, argsToLocals, Value.category]; done) | rfl
def own_Q_pch3 (Z : State) (a1 : Addr) (p2 : Int32) (p3 : Int32) (k : ClassId) (z : Int32) (vs : List Value) (h0 : Heap) (n0 : Nat) (v : Option Value) (h : Heap) (L : List Loc) : Prop := v = none ∧ Fr n0 L ∧ Keep h0 h [a1] ∧ Arv Z h a1 k .byte z ((vs.set 6 (.int (StrChars.lo8 p3))).set 7 (.int (StrChars.hi8 p3))) (.int 0)
set_option maxRecDepth 65536 in
set_option maxHeartbeats 40000000 in
theorem own_rm_pch3 (l : Launch) (Z : State) (a0 : Array Value) (hw : ∀ d ∈ tables_1, d.before a0 Z = true) (ws : List Jvm.Cond) (a1 : Addr) (p2 : Int32) (p3 : Int32) (k : ClassId) (z : Int32) (vs : List Value) (h0 : Heap) (n0 : Nat) (Z0 : n0 ≤ h0.size) (S1 : Sta Z h0 "java/lang/StringUTF16" "$assertionsDisabled" "Z" (.int 1)) (S2 : Sta Z h0 "java/lang/StringUTF16" "HI_BYTE_SHIFT" "I" (.int 0)) (S3 : Sta Z h0 "java/lang/StringUTF16" "LO_BYTE_SHIFT" "I" (.int 8)) (Va : Arv Z h0 a1 k .byte z vs (.int 0)) (hp : p2 = (3 : Int32)) (hz0 : (6 : Int32) < z) (hz1 : (7 : Int32) < z) (hl : 7 < vs.length) (g_a1 : n0 ≤ a1) (E1 : Exa Z h0 a1 "[B") :
    MetFree l (⟨"java/lang/StringUTF16", "putChar", "([BII)V"⟩ : MethodName) (head1 (Jvm.Cond.code (⟨"java/lang/StringUTF16", "putChar", "([BII)V"⟩ : MethodName) jdk_52_method_4_code 3 none :: ws) ({ frames := 0, cells := 0, slots := 0, locals := 0 } : Room)) (fun a U => a = #[(.ref a1), (.int p2), (.int p3)] ∧ Z.Warmed39 U.vm ∧ U.heap = h0) (fun _ _ _ _ _ => True) (fun _ U o U' => ∃ v L, o = .returned v ∧ own_Q_pch3 Z a1 p2 p3 k z vs h0 n0 v U'.heap L ∧ FrameEnd U o U' L ({ frames := 0, cells := 0, slots := 0, locals := 0 } : Room).cells ({ frames := 0, cells := 0, slots := 0, locals := 0 } : Room).slots) := by
  refine MetFree.of_bodySF (plainFor_of_name own_pn_0) hisR ?_
  intro p e s m args below meth c s₁ Bd hml0 hP hK
  obtain ⟨rfl, hZ, hh⟩ := hP
  have hx := Bd.exec
  have hby := Bd.bytes
  have hml : c.maxLocals = 3 := hml0
  have hown : s.vm.findClass "java/lang/StringUTF16" = some m.cls := findClass_of_methodNamed Bd.named
  have hnm := (name_of_methodNamed Bd.named Bd.method).1
  have X0 : Stand p l e ({ frames := 0, cells := 0, slots := 0, locals := 0 } : Room) s m #[(.ref a1), (.int p2), (.int p3)] below meth c s₁ [] 0 0 := Stand.of_body Bd
  have e0 : s₁.heap = h0 := by rw [← hh, Bd.state]; rfl
  have N0 := Fr.nil n0
  refine own_start (own_ef_pch3 m a1 p2 p3 ) ?_
  subst hp
  have K0 : Keep h0 h0 [a1] := Keep.refl _ _
  obtain ⟨T1, X1, e1, st1⟩ := getS2 X0 hx hZ hown (host := "") (Or.inl (hw _ (List.mem_of_getElem? (i := 111) rfl))) Via.refl e0 S1 (g := (mkF m 0 #[.val (.ref a1), .val (.int (3 : Int32)), .val (.int p3)] [])) rfl (Jvm.hb hby own_d_jdk_52_method_4_code_0)
  refine own_of (T' := T1) (f' := (mkF m 31 #[.val (.ref a1), .val (.int (3 : Int32)), .val (.int p3)] [(.int ((3 : Int32) <<< ((1 : Int32) &&& 31)))])) (fun t_ k_ => (st1 _ (XS.ifYes X1.here hx rfl (pc0 := 3) (pc' := 28) rfl (Jvm.hb hby own_d_jdk_52_method_4_code_3) rfl ((if0 _ _).trans (feq (by decide : ¬ (1 : Int32) = 0)).2) (by decide) (by decide) (XS.iloadN X1.here hx rfl (Jvm.hb hby own_d_jdk_52_method_4_code_28) rfl (XS.iconst X1.here hx rfl (Jvm.hb hby own_d_jdk_52_method_4_code_29) (XS.ishl X1.here hx rfl (Jvm.hb hby own_d_jdk_52_method_4_code_30) rfl k_)))))) ?_
  rw [(by decide : ((3 : Int32) <<< ((1 : Int32) &&& 31)) = (6 : Int32))]
  refine own_of (T' := T1) (f' := (mkF m 37 #[.val (.ref a1), .val (.int ((6 : Int32) + (1 : Int32))), .val (.int p3)] [(.int (6 : Int32)), (.ref a1)])) (fun t_ k_ => (XS.istoreN X1.here hx rfl (Jvm.hb hby own_d_jdk_52_method_4_code_31) rfl (l' := #[.val (.ref a1), .val (.int (6 : Int32)), .val (.int p3)]) rfl (XS.aloadN X1.here hx rfl (Jvm.hb hby own_d_jdk_52_method_4_code_32) rfl rfl (XS.iloadN X1.here hx rfl (Jvm.hb hby own_d_jdk_52_method_4_code_33) rfl (XS.iinc X1.here hx rfl (Jvm.hb hby own_d_jdk_52_method_4_code_34) rfl (l' := #[.val (.ref a1), .val (.int ((6 : Int32) + (1 : Int32))), .val (.int p3)]) rfl k_))))) ?_
  try rw [(by decide : ((6 : Int32) + (1 : Int32)) = (7 : Int32))]
  obtain ⟨T2, X2, e2, st2⟩ := getS2 X1 hx hZ hown (host := "") (Or.inl (hw _ (List.mem_of_getElem? (i := 112) rfl))) Via.refl e1 S2 (g := (mkF m 38 #[.val (.ref a1), .val (.int (7 : Int32)), .val (.int p3)] [(.int p3), (.int (6 : Int32)), (.ref a1)])) rfl (Jvm.hb hby own_d_jdk_52_method_4_code_38)
  refine own_of (T' := T2) (f' := (mkF m 43 #[.val (.ref a1), .val (.int (7 : Int32)), .val (.int p3)] [(.int ((p3 >>> ((0 : Int32) &&& 31)).toInt8.toInt32)), (.int (6 : Int32)), (.ref a1)])) (fun t_ k_ => (XS.iloadN X1.here hx rfl (Jvm.hb hby own_d_jdk_52_method_4_code_37) rfl (st2 _ (XS.ishr X2.here hx rfl (Jvm.hb hby own_d_jdk_52_method_4_code_41) rfl (XS.i2b X2.here hx rfl (Jvm.hb hby own_d_jdk_52_method_4_code_42) rfl k_))))) ?_
  obtain ⟨cl3, Ar3, qq3, Sz3, Nn3, Hh3, Gg3⟩ := Va
  have hin3 : ¬ ((6 : Int32) < 0 ∨ cl3.slots.size ≤ ((6 : Int32) : Int32).toNatClampNeg) := inb_of Sz3 ⟨by decide, hz0⟩
  obtain ⟨T3, h3, X3, e3, W3, st3⟩ := stB X2 hx hZ e2 Ar3 (j := (6 : Int32)) hin3 (g := (mkF m 43 #[.val (.ref a1), .val (.int (7 : Int32)), .val (.int p3)] [(.int ((p3 >>> ((0 : Int32) &&& 31)).toInt8.toInt32)), (.int (6 : Int32)), (.ref a1)])) rfl rfl (Jvm.hb hby own_d_jdk_52_method_4_code_43)
  refine own_of (T' := T3) (f' := (mkF m 44 #[.val (.ref a1), .val (.int (7 : Int32)), .val (.int p3)] [])) (fun t_ k_ => (st3 _ k_)) ?_
  rw [own_b0] at W3
  have Vn3 := Arv.set Ar3 qq3 Sz3 Nn3 Hh3 Gg3 (fits_nar_byte _) W3 6 rfl (by omega)
  have N3 := Fr.snoc X3 N0 g_a1
  have f4 := K0.wr W3 (Or.inl (List.mem_of_getElem? (i := 0) rfl))
  have f5 := Nat.le_trans Z0 (Keep.of_wr W3).1
  have f6 := E1.wr W3
  have f7 := S1.wr W3
  have f8 := S2.wr W3
  have f9 := S3.wr W3
  obtain ⟨T10, X10, e10, st10⟩ := getS2 X3 hx hZ hown (host := "") (Or.inl (hw _ (List.mem_of_getElem? (i := 113) rfl))) Via.refl e3 f9 (g := (mkF m 47 #[.val (.ref a1), .val (.int (7 : Int32)), .val (.int p3)] [(.int p3), (.int (7 : Int32)), (.ref a1)])) rfl (Jvm.hb hby own_d_jdk_52_method_4_code_47)
  refine own_of (T' := T10) (f' := (mkF m 52 #[.val (.ref a1), .val (.int (7 : Int32)), .val (.int p3)] [(.int ((p3 >>> ((8 : Int32) &&& 31)).toInt8.toInt32)), (.int (7 : Int32)), (.ref a1)])) (fun t_ k_ => (XS.aloadN X3.here hx rfl (Jvm.hb hby own_d_jdk_52_method_4_code_44) rfl rfl (XS.iloadN X3.here hx rfl (Jvm.hb hby own_d_jdk_52_method_4_code_45) rfl (XS.iloadN X3.here hx rfl (Jvm.hb hby own_d_jdk_52_method_4_code_46) rfl (st10 _ (XS.ishr X10.here hx rfl (Jvm.hb hby own_d_jdk_52_method_4_code_50) rfl (XS.i2b X10.here hx rfl (Jvm.hb hby own_d_jdk_52_method_4_code_51) rfl k_))))))) ?_
  obtain ⟨cl11, Ar11, qq11, Sz11, Nn11, Hh11, Gg11⟩ := Vn3
  have hin11 : ¬ ((7 : Int32) < 0 ∨ cl11.slots.size ≤ ((7 : Int32) : Int32).toNatClampNeg) := inb_of Sz11 ⟨by decide, hz1⟩
  obtain ⟨T11, h11, X11, e11, W11, st11⟩ := stB X10 hx hZ e10 Ar11 (j := (7 : Int32)) hin11 (g := (mkF m 52 #[.val (.ref a1), .val (.int (7 : Int32)), .val (.int p3)] [(.int ((p3 >>> ((8 : Int32) &&& 31)).toInt8.toInt32)), (.int (7 : Int32)), (.ref a1)])) rfl rfl (Jvm.hb hby own_d_jdk_52_method_4_code_52)
  refine own_of (T' := T11) (f' := (mkF m 53 #[.val (.ref a1), .val (.int (7 : Int32)), .val (.int p3)] [])) (fun t_ k_ => (st11 _ k_)) ?_
  rw [own_b1] at W11
  have Vn11 := Arv.set Ar11 qq11 Sz11 Nn11 Hh11 Gg11 (fits_nar_byte _) W11 7 rfl (by rw [List.length_set]; omega)
  have N11 := Fr.snoc X11 N3 g_a1
  have f12 := f4.wr W11 (Or.inl (List.mem_of_getElem? (i := 0) rfl))
  have f13 := Nat.le_trans f5 (Keep.of_wr W11).1
  have f14 := f6.wr W11
  have f15 := f7.wr W11
  have f16 := f8.wr W11
  have f17 := f9.wr W11
  obtain ⟨fs, hr, hrun, hended, hW, hsame⟩ := X11.leave (v := none) (fun _ => rfl)
  exact ⟨_, _, X11.returnOut hx Bd.returns (Jvm.hb hby own_d_jdk_52_method_4_code_53) hr, hrun, hended, _, _, rfl, (by show own_Q_pch3 Z a1 (3 : Int32) p3 k z vs h0 n0 _ T11.heap _; rw [e11]; exact ⟨rfl, N11, f12, Vn11⟩), ⟨_, rfl⟩, hW, hsame.mono (by decide) (by decide)⟩
theorem own_ef_nbl1 (m : MethodId) (p1 : Int32) : entryFrame m #[(.int p1)] 1 = mkF m 0 #[.val (.int p1)] [] := by first | (simp [entryFrame, mkF, argsToLocals, Value.category]; done) | rfl
def own_Q_nbl1 (Z : State) (p1 : Int32)  (h0 : Heap) (n0 : Nat) (v : Option Value) (h : Heap) (L : List Loc) : Prop := v = some (.int (2 : Int32)) ∧ Fr n0 L ∧ h = h0
theorem own_d_jdk_52_method_3_code_0 : decode jdk_52_method_3_code 0 = .ok (.iload_n 0, 1) := by decide +kernel
theorem own_d_jdk_52_method_3_code_1 : decode jdk_52_method_3_code 1 = .ok (.ifCond .ge 11, 3) := by decide +kernel
theorem own_d_jdk_52_method_3_code_12 : decode jdk_52_method_3_code 12 = .ok (.iload_n 0, 1) := by decide +kernel
theorem own_d_jdk_52_method_3_code_13 : decode jdk_52_method_3_code 13 = .ok (.ldc 20, 2) := by decide +kernel
theorem own_d_jdk_52_method_3_code_15 : decode jdk_52_method_3_code 15 = .ok (.if_icmp .lt 40, 3) := by decide +kernel
theorem own_d_jdk_52_method_3_code_55 : decode jdk_52_method_3_code 55 = .ok (.iload_n 0, 1) := by decide +kernel
theorem own_d_jdk_52_method_3_code_56 : decode jdk_52_method_3_code 56 = .ok (.iconst 1, 1) := by decide +kernel
theorem own_d_jdk_52_method_3_code_57 : decode jdk_52_method_3_code 57 = .ok (.ishl, 1) := by decide +kernel
theorem own_d_jdk_52_method_3_code_58 : decode jdk_52_method_3_code 58 = .ok (.ireturn, 1) := by decide +kernel
set_option maxRecDepth 65536 in
set_option maxHeartbeats 40000000 in
theorem own_rm_nbl1 (l : Launch) (Z : State) (a0 : Array Value) (hw : ∀ d ∈ tables_1, d.before a0 Z = true) (ws : List Jvm.Cond) (p1 : Int32)  (h0 : Heap) (n0 : Nat) (Z0 : n0 ≤ h0.size) (hp : p1 = (1 : Int32)) :
    MetFree l (⟨"java/lang/StringUTF16", "newBytesLength", "(I)I"⟩ : MethodName) (head1 (Jvm.Cond.code (⟨"java/lang/StringUTF16", "newBytesLength", "(I)I"⟩ : MethodName) jdk_52_method_3_code 1 (some .int) :: ws) ({ frames := 0, cells := 0, slots := 0, locals := 0 } : Room)) (fun a U => a = #[(.int p1)] ∧ Z.Warmed39 U.vm ∧ U.heap = h0) (fun _ _ _ _ _ => True) (fun _ U o U' => ∃ v L, o = .returned v ∧ own_Q_nbl1 Z p1  h0 n0 v U'.heap L ∧ FrameEnd U o U' L ({ frames := 0, cells := 0, slots := 0, locals := 0 } : Room).cells ({ frames := 0, cells := 0, slots := 0, locals := 0 } : Room).slots) := by
  refine MetFree.of_bodySF (plainFor_of_name own_pn_0) hisR ?_
  intro p e s m args below meth c s₁ Bd hml0 hP hK
  obtain ⟨rfl, hZ, hh⟩ := hP
  have hx := Bd.exec
  have hby := Bd.bytes
  have hml : c.maxLocals = 1 := hml0
  have hown : s.vm.findClass "java/lang/StringUTF16" = some m.cls := findClass_of_methodNamed Bd.named
  have hnm := (name_of_methodNamed Bd.named Bd.method).1
  have X0 : Stand p l e ({ frames := 0, cells := 0, slots := 0, locals := 0 } : Room) s m #[(.int p1)] below meth c s₁ [] 0 0 := Stand.of_body Bd
  have e0 : s₁.heap = h0 := by rw [← hh, Bd.state]; rfl
  have N0 := Fr.nil n0
  refine own_start (own_ef_nbl1 m p1 ) ?_
  subst hp
  refine own_of (T' := s₁) (f' := (mkF m 58 #[.val (.int (1 : Int32))] [(.int ((1 : Int32) <<< ((1 : Int32) &&& 31)))])) (fun t_ k_ => (XS.iloadN X0.here hx rfl (Jvm.hb hby own_d_jdk_52_method_3_code_0) rfl (XS.ifYes X0.here hx rfl (pc0 := 1) (pc' := 12) rfl (Jvm.hb hby own_d_jdk_52_method_3_code_1) rfl ((if0 _ _).trans (flt (by decide : ¬ (1 : Int32) < 0)).2.1) (by decide) (by decide) (XS.iloadN X0.here hx rfl (Jvm.hb hby own_d_jdk_52_method_3_code_12) rfl (Jvm.Stand.ldcI X0 hx hown (mvT hZ (hw _ (List.mem_of_getElem? (i := 107) rfl))) rfl (Jvm.hb hby own_d_jdk_52_method_3_code_13) (XS.icmpYes X0.here hx rfl (pc0 := 15) (pc' := 55) rfl (Jvm.hb hby own_d_jdk_52_method_3_code_15) rfl (tlt (by decide)).1 (by decide) (by decide) (XS.iloadN X0.here hx rfl (Jvm.hb hby own_d_jdk_52_method_3_code_55) rfl (XS.iconst X0.here hx rfl (Jvm.hb hby own_d_jdk_52_method_3_code_56) (XS.ishl X0.here hx rfl (Jvm.hb hby own_d_jdk_52_method_3_code_57) rfl k_))))))))) ?_
  rw [(by decide : ((1 : Int32) <<< ((1 : Int32) &&& 31)) = (2 : Int32))]
  obtain ⟨fs, hr, hrun, hended, hW, hsame⟩ := X0.leave (v := some (.int (2 : Int32))) (fun h => by rw [Bd.returns] at h; cases h)
  exact ⟨_, _, own_retI X0 hx Bd.returns (Jvm.hb hby own_d_jdk_52_method_3_code_58) hr, hrun, hended, _, _, rfl, (by show own_Q_nbl1 Z (1 : Int32)  h0 n0 _ s₁.heap _; rw [e0]; exact ⟨rfl, N0, rfl⟩), ⟨_, rfl⟩, hW, hsame.mono (by decide) (by decide)⟩
theorem own_ef_nbf1 (m : MethodId) (p1 : Int32) : entryFrame m #[(.int p1)] 1 = mkF m 0 #[.val (.int p1)] [] := by first | (simp [entryFrame, mkF, argsToLocals, Value.category]; done) | rfl
def own_Q_nbf1 (Z : State) (p1 : Int32)  (h0 : Heap) (n0 : Nat) (v : Option Value) (h : Heap) (L : List Loc) : Prop := ∃ b k, v = some (.ref b) ∧ Fr n0 L ∧ Keep h0 h [] ∧ h0.size ≤ b ∧ Exa Z h b "[B" ∧ Arv Z h b k .byte (2 : Int32) [(.int (0 : Int32)), (.int (0 : Int32))] (.int 0)
theorem own_d_jdk_52_method_2_code_0 : decode jdk_52_method_2_code 0 = .ok (.iload_n 0, 1) := by decide +kernel
theorem own_d_jdk_52_method_2_code_1 : decode jdk_52_method_2_code 1 = .ok (.invokestatic 11, 3) := by decide +kernel
theorem own_pd_0 : parseMethodDescriptor "(I)I" = some ⟨[.int], some .int⟩ := by decide +kernel
theorem own_d_jdk_52_method_2_code_4 : decode jdk_52_method_2_code 4 = .ok (.newarray .byte, 2) := by decide +kernel
theorem own_d_jdk_52_method_2_code_6 : decode jdk_52_method_2_code 6 = .ok (.areturn, 1) := by decide +kernel
set_option maxRecDepth 65536 in
set_option maxHeartbeats 40000000 in
theorem own_rm_nbf1 (l : Launch) (Z : State) (a0 : Array Value) (hw : ∀ d ∈ tables_1, d.before a0 Z = true) (ws : List Jvm.Cond) (p1 : Int32)  (h0 : Heap) (n0 : Nat) (Z0 : n0 ≤ h0.size) (hp : p1 = (1 : Int32)) :
    MetFree l (⟨"java/lang/StringUTF16", "newBytesFor", "(I)[B"⟩ : MethodName) (head1 (Jvm.Cond.code (⟨"java/lang/StringUTF16", "newBytesFor", "(I)[B"⟩ : MethodName) jdk_52_method_2_code 1 (some (.array .byte)) :: ws) ({ frames := 1, cells := 1, slots := 2, locals := 12 } : Room)) (fun a U => a = #[(.int p1)] ∧ Z.Warmed39 U.vm ∧ U.heap = h0) (fun _ _ _ _ _ => True) (fun _ U o U' => ∃ v L, o = .returned v ∧ own_Q_nbf1 Z p1  h0 n0 v U'.heap L ∧ FrameEnd U o U' L ({ frames := 1, cells := 1, slots := 2, locals := 12 } : Room).cells ({ frames := 1, cells := 1, slots := 2, locals := 12 } : Room).slots) := by
  refine MetFree.of_bodySF (plainFor_of_name own_pn_0) hisR ?_
  intro p e s m args below meth c s₁ Bd hml0 hP hK
  obtain ⟨rfl, hZ, hh⟩ := hP
  have hx := Bd.exec
  have hby := Bd.bytes
  have hml : c.maxLocals = 1 := hml0
  have hown : s.vm.findClass "java/lang/StringUTF16" = some m.cls := findClass_of_methodNamed Bd.named
  have hnm := (name_of_methodNamed Bd.named Bd.method).1
  have X0 : Stand p l e ({ frames := 1, cells := 1, slots := 2, locals := 12 } : Room) s m #[(.int p1)] below meth c s₁ [] 0 0 := Stand.of_body Bd
  have e0 : s₁.heap = h0 := by rw [← hh, Bd.state]; rfl
  have N0 := Fr.nil n0
  refine own_start (own_ef_nbf1 m p1 ) ?_
  subst hp
  have K0 : Keep h0 h0 [] := Keep.refl _ _
  refine own_of (T' := s₁) (f' := (mkF m 1 #[.val (.int (1 : Int32))] [(.int (1 : Int32))])) (fun t_ k_ => (XS.iloadN X0.here hx rfl (Jvm.hb hby own_d_jdk_52_method_2_code_0) rfl k_)) ?_
  obtain ⟨_, _, ⟨T1, L1, k1, n1⟩, -, X1, ⟨Lc1, hQ1, l1, y1, z1⟩, st1⟩ := Jvm.LawKit.callS X0 hx (y := (⟨"java/lang/StringUTF16", "newBytesLength", "(I)I"⟩ : MethodName)) hown (mvT hZ (hw _ (List.mem_of_getElem? (i := 104) rfl))) (mvT hZ (hw _ (List.mem_of_getElem? (i := 105) rfl))) (mvT hZ (hw _ (List.mem_of_getElem? (i := 18) rfl))) (mvT hZ (hw _ (List.mem_of_getElem? (i := 106) rfl))) (by decide) (backOf (W := 0) (own_rm_nbl1 l Z a0 hw [] (1 : Int32) h0 n0 Z0 rfl) hZ (hw _ (List.mem_of_getElem? (i := 106) rfl)) (hw _ (List.mem_of_getElem? (i := 18) rfl)) (by decide) (by decide)) (g := (mkF m 1 #[.val (.int (1 : Int32))] [(.int (1 : Int32))])) rfl (by rw [hml]; rfl) (argsL := [(.int (1 : Int32))]) (rest := []) (lenOf own_pd_0 rfl) rfl (by show 2 * 0 + _ ≤ _; exact Nat.le_of_eq rfl) (Jvm.hb hby own_d_jdk_52_method_2_code_1) (fun _ _ => ⟨rfl, e0, Nat.le_of_ble_eq_true rfl, Nat.le_of_ble_eq_true rfl⟩)
  dsimp only [Pt.U, Pt.locs, Pt.cells, Pt.slots] at X1 l1 y1 z1 st1 hQ1
  subst l1 y1 z1
  obtain ⟨rfl, N1, e1⟩ := hQ1
  have N2 := Fr.app N0 N1
  refine own_of (T' := T1) (f' := (mkF m 4 #[.val (.int (1 : Int32))] [(.int (2 : Int32))])) (fun t_ k_ => (st1 _ k_)) ?_
  obtain ⟨T3, h3, k3, X3, e3, E3, A3, Ex3, st3⟩ := newPE X1 hx hZ (hw _ (List.mem_of_getElem? (i := 20) rfl)) e1 (g := (mkF m 4 #[.val (.int (1 : Int32))] [(.int (2 : Int32))])) rfl (Jvm.hb hby own_d_jdk_52_method_2_code_4) rfl (by decide) (cap := 2) (by decide) (by decide) (by decide) (by decide) (ad := "[B") (by decide)
  obtain ⟨b, g3⟩ : ∃ z, z = h0.size := ⟨_, rfl⟩
  rw [← g3] at A3 Ex3 st3
  have g_b : n0 ≤ b := Nat.le_trans Z0 (Nat.le_of_eq g3.symm)
  have sz_b : h0.size ≤ b := Nat.le_trans K0.1 (Nat.le_of_eq g3.symm)
  have f4 := K0.ext E3
  have f5 := Nat.le_trans Z0 E3.1
  have f6 : Arv Z h3 b k3 .byte (2 : Int32) [(.int (0 : Int32)), (.int (0 : Int32))] (.int (0 : Int32)) := (Arv.new A3 (by decide)).pad (pad_rep [] (.int (0 : Int32)) 2)
  refine own_of (T' := T3) (f' := (mkF m 6 #[.val (.int (1 : Int32))] [(.ref b)])) (fun t_ k_ => (st3 _ k_)) ?_
  obtain ⟨fs, hr, hrun, hended, hW, hsame⟩ := X3.leave (v := some (.ref b)) (fun h => by rw [Bd.returns] at h; cases h)
  exact ⟨_, _, own_retA X3 hx Bd.returns rfl rfl rfl (Jvm.hb hby own_d_jdk_52_method_2_code_6) hr, hrun, hended, _, _, rfl, (by show own_Q_nbf1 Z (1 : Int32)  h0 n0 _ T3.heap _; rw [e3]; exact ⟨b, _, rfl, N2, f4, sz_b, Ex3, f6⟩), ⟨_, rfl⟩, hW, hsame.mono (by decide) (by decide)⟩
theorem own_ef_tob1 (m : MethodId) (a1 : Addr) (p2 : Int32) (p3 : Int32) : entryFrame m #[(.ref a1), (.int p2), (.int p3)] 5 = mkF m 0 #[.val (.ref a1), .val (.int p2), .val (.int p3), .unset, .unset] [] := by first | (simp [entryFrame, mkF, argsToLocals, Value.category]; done) | rfl
def own_Q_tob1 (Z : State) (a1 : Addr) (p2 : Int32) (p3 : Int32) (c0 : Int32) (kc : ClassId) (h0 : Heap) (n0 : Nat) (v : Option Value) (h : Heap) (L : List Loc) : Prop := ∃ b k, v = some (.ref b) ∧ Fr n0 L ∧ Keep h0 h [] ∧ h0.size ≤ b ∧ Exa Z h b "[B" ∧ Arv Z h b k .byte (2 : Int32) [(.int (StrChars.lo8 c0)), (.int (StrChars.hi8 c0))] (.int 0)
theorem own_d_jdk_52_method_14_code_0 : decode jdk_52_method_14_code 0 = .ok (.iload_n 2, 1) := by decide +kernel
theorem own_d_jdk_52_method_14_code_1 : decode jdk_52_method_14_code 1 = .ok (.invokestatic 107, 3) := by decide +kernel
theorem own_pd_1 : parseMethodDescriptor "(I)[B" = some ⟨[.int], some (.array .byte)⟩ := by decide +kernel
theorem own_d_jdk_52_method_14_code_4 : decode jdk_52_method_14_code 4 = .ok (.astore_n 3, 1) := by decide +kernel
theorem own_d_jdk_52_method_14_code_5 : decode jdk_52_method_14_code 5 = .ok (.iconst 0, 1) := by decide +kernel
theorem own_d_jdk_52_method_14_code_6 : decode jdk_52_method_14_code 6 = .ok (.istore 4, 2) := by decide +kernel
theorem own_d_jdk_52_method_14_code_8 : decode jdk_52_method_14_code 8 = .ok (.iload 4, 2) := by decide +kernel
theorem own_d_jdk_52_method_14_code_10 : decode jdk_52_method_14_code 10 = .ok (.iload_n 2, 1) := by decide +kernel
theorem own_d_jdk_52_method_14_code_11 : decode jdk_52_method_14_code 11 = .ok (.if_icmp .ge 21, 3) := by decide +kernel
theorem own_d_jdk_52_method_14_code_14 : decode jdk_52_method_14_code 14 = .ok (.aload_n 3, 1) := by decide +kernel
theorem own_d_jdk_52_method_14_code_15 : decode jdk_52_method_14_code 15 = .ok (.iload 4, 2) := by decide +kernel
theorem own_d_jdk_52_method_14_code_17 : decode jdk_52_method_14_code 17 = .ok (.aload_n 0, 1) := by decide +kernel
theorem own_d_jdk_52_method_14_code_18 : decode jdk_52_method_14_code 18 = .ok (.iload_n 1, 1) := by decide +kernel
theorem own_d_jdk_52_method_14_code_19 : decode jdk_52_method_14_code 19 = .ok (.caload, 1) := by decide +kernel
theorem own_d_jdk_52_method_14_code_20 : decode jdk_52_method_14_code 20 = .ok (.invokestatic 111, 3) := by decide +kernel
theorem own_pd_2 : parseMethodDescriptor "([BII)V" = some ⟨[(.array .byte), .int, .int], none⟩ := by decide +kernel
theorem own_d_jdk_52_method_14_code_23 : decode jdk_52_method_14_code 23 = .ok (.iinc 1 1, 3) := by decide +kernel
theorem own_d_jdk_52_method_14_code_26 : decode jdk_52_method_14_code 26 = .ok (.iinc 4 1, 3) := by decide +kernel
theorem own_d_jdk_52_method_14_code_29 : decode jdk_52_method_14_code 29 = .ok (.goto (-21), 3) := by decide +kernel
theorem own_d_jdk_52_method_14_code_32 : decode jdk_52_method_14_code 32 = .ok (.aload_n 3, 1) := by decide +kernel
theorem own_d_jdk_52_method_14_code_33 : decode jdk_52_method_14_code 33 = .ok (.areturn, 1) := by decide +kernel
set_option maxRecDepth 65536 in
set_option maxHeartbeats 40000000 in
theorem own_rm_tob1 (l : Launch) (Z : State) (a0 : Array Value) (hw : ∀ d ∈ tables_1, d.before a0 Z = true) (ws : List Jvm.Cond) (a1 : Addr) (p2 : Int32) (p3 : Int32) (c0 : Int32) (kc : ClassId) (h0 : Heap) (n0 : Nat) (Z0 : n0 ≤ h0.size) (S1 : Sta Z h0 "java/lang/StringUTF16" "$assertionsDisabled" "Z" (.int 1)) (S2 : Sta Z h0 "java/lang/StringUTF16" "HI_BYTE_SHIFT" "I" (.int 0)) (S3 : Sta Z h0 "java/lang/StringUTF16" "LO_BYTE_SHIFT" "I" (.int 8)) (Vc : Arv Z h0 a1 kc .char (1 : Int32) [(.int c0)] (.int 0)) (hp2 : p2 = 0) (hp3 : p3 = (1 : Int32)) :
    MetFree l (⟨"java/lang/StringUTF16", "toBytes", "([CII)[B"⟩ : MethodName) (head1 (Jvm.Cond.code (⟨"java/lang/StringUTF16", "toBytes", "([CII)[B"⟩ : MethodName) jdk_52_method_14_code 5 (some (.array .byte)) :: ws) ({ frames := 2, cells := 1, slots := 2, locals := 24 } : Room)) (fun a U => a = #[(.ref a1), (.int p2), (.int p3)] ∧ Z.Warmed39 U.vm ∧ U.heap = h0) (fun _ _ _ _ _ => True) (fun _ U o U' => ∃ v L, o = .returned v ∧ own_Q_tob1 Z a1 p2 p3 c0 kc h0 n0 v U'.heap L ∧ FrameEnd U o U' L ({ frames := 2, cells := 1, slots := 2, locals := 24 } : Room).cells ({ frames := 2, cells := 1, slots := 2, locals := 24 } : Room).slots) := by
  refine MetFree.of_bodySF (plainFor_of_name own_pn_0) hisR ?_
  intro p e s m args below meth c s₁ Bd hml0 hP hK
  obtain ⟨rfl, hZ, hh⟩ := hP
  have hx := Bd.exec
  have hby := Bd.bytes
  have hml : c.maxLocals = 5 := hml0
  have hown : s.vm.findClass "java/lang/StringUTF16" = some m.cls := findClass_of_methodNamed Bd.named
  have hnm := (name_of_methodNamed Bd.named Bd.method).1
  have X0 : Stand p l e ({ frames := 2, cells := 1, slots := 2, locals := 24 } : Room) s m #[(.ref a1), (.int p2), (.int p3)] below meth c s₁ [] 0 0 := Stand.of_body Bd
  have e0 : s₁.heap = h0 := by rw [← hh, Bd.state]; rfl
  have N0 := Fr.nil n0
  refine own_start (own_ef_tob1 m a1 p2 p3 ) ?_
  subst hp2 hp3
  have K0 : Keep h0 h0 [] := Keep.refl _ _
  refine own_of (T' := s₁) (f' := (mkF m 1 #[.val (.ref a1), .val (.int (0 : Int32)), .val (.int (1 : Int32)), .unset, .unset] [(.int (1 : Int32))])) (fun t_ k_ => (XS.iloadN X0.here hx rfl (Jvm.hb hby own_d_jdk_52_method_14_code_0) rfl k_)) ?_
  obtain ⟨_, _, ⟨T1, L1, k1, n1⟩, -, X1, ⟨Lc1, hQ1, l1, y1, z1⟩, st1⟩ := Jvm.LawKit.callS X0 hx (y := (⟨"java/lang/StringUTF16", "newBytesFor", "(I)[B"⟩ : MethodName)) hown (mvT hZ (hw _ (List.mem_of_getElem? (i := 101) rfl))) (mvT hZ (hw _ (List.mem_of_getElem? (i := 102) rfl))) (mvT hZ (hw _ (List.mem_of_getElem? (i := 18) rfl))) (mvT hZ (hw _ (List.mem_of_getElem? (i := 103) rfl))) (by decide) (backOf (W := 0) (own_rm_nbf1 l Z a0 hw [] (1 : Int32) h0 n0 Z0 rfl) hZ (hw _ (List.mem_of_getElem? (i := 103) rfl)) (hw _ (List.mem_of_getElem? (i := 18) rfl)) (by decide) (by decide)) (g := (mkF m 1 #[.val (.ref a1), .val (.int (0 : Int32)), .val (.int (1 : Int32)), .unset, .unset] [(.int (1 : Int32))])) rfl (by rw [hml]; rfl) (argsL := [(.int (1 : Int32))]) (rest := []) (lenOf own_pd_1 rfl) rfl (by show 2 * 0 + _ ≤ _; exact Nat.le_of_eq rfl) (Jvm.hb hby own_d_jdk_52_method_14_code_1) (fun _ _ => ⟨rfl, e0, Nat.le_of_ble_eq_true rfl, Nat.le_of_ble_eq_true rfl⟩)
  dsimp only [Pt.U, Pt.locs, Pt.cells, Pt.slots] at X1 l1 y1 z1 st1 hQ1
  subst l1 y1 z1
  obtain ⟨b, kb, rfl, N1, K1, szb, Eb, Vb0⟩ := hQ1
  have ne_a1_b : a1 ≠ b := Nat.ne_of_lt (Nat.lt_of_lt_of_le Vc.lt szb)
  have g_b : n0 ≤ b := Nat.le_trans Z0 szb
  have sz_b : h0.size ≤ b := Nat.le_trans K0.1 szb
  have N2 := Fr.app N0 N1
  have f3 := K0.trans K1 all0
  have f4 := Nat.le_trans Z0 K1.1
  have f5 := own_stakeep S1 K1 all0
  have f6 := own_stakeep S2 K1 all0
  have f7 := own_stakeep S3 K1 all0
  have f8 := Vc.keep K1 nin0
  refine own_of (T' := T1) (f' := (mkF m 15 #[.val (.ref a1), .val (.int (0 : Int32)), .val (.int (1 : Int32)), .val (.ref b), .val (.int (0 : Int32))] [(.ref b)])) (fun t_ k_ => (st1 _ (XS.astoreN X1.here hx rfl (Jvm.hb hby own_d_jdk_52_method_14_code_4) rfl rfl (l' := #[.val (.ref a1), .val (.int (0 : Int32)), .val (.int (1 : Int32)), .val (.ref b), .unset]) rfl (XS.iconst X1.here hx rfl (Jvm.hb hby own_d_jdk_52_method_14_code_5) (XS.istore X1.here hx rfl (Jvm.hb hby own_d_jdk_52_method_14_code_6) rfl (l' := #[.val (.ref a1), .val (.int (0 : Int32)), .val (.int (1 : Int32)), .val (.ref b), .val (.int (0 : Int32))]) rfl (XS.iload X1.here hx rfl (Jvm.hb hby own_d_jdk_52_method_14_code_8) rfl (XS.iloadN X1.here hx rfl (Jvm.hb hby own_d_jdk_52_method_14_code_10) rfl (XS.icmpNo X1.here hx rfl (Jvm.hb hby own_d_jdk_52_method_14_code_11) rfl (tlt (by decide)).2.1 (XS.aloadN X1.here hx rfl (Jvm.hb hby own_d_jdk_52_method_14_code_14) rfl rfl k_))))))))) ?_
  refine own_of (T' := T1) (f' := (mkF m 19 #[.val (.ref a1), .val (.int (0 : Int32)), .val (.int (1 : Int32)), .val (.ref b), .val (.int (0 : Int32))] [(.int (0 : Int32)), (.ref a1), (.int (0 : Int32)), (.ref b)])) (fun t_ k_ => (XS.iload X1.here hx rfl (Jvm.hb hby own_d_jdk_52_method_14_code_15) rfl (XS.aloadN X1.here hx rfl (Jvm.hb hby own_d_jdk_52_method_14_code_17) rfl rfl (XS.iloadN X1.here hx rfl (Jvm.hb hby own_d_jdk_52_method_14_code_18) rfl k_)))) ?_
  obtain ⟨cl9, Ar9, qq9, Sz9, Nn9, Hh9, Gg9⟩ := id f8
  have hin9 : ¬ ((0 : Int32) < 0 ∨ cl9.slots.size ≤ ((0 : Int32)).toNatClampNeg) := inb_of Sz9 ⟨by decide, by decide⟩
  refine own_of (T' := T1) (f' := (mkF m 20 #[.val (.ref a1), .val (.int (0 : Int32)), .val (.int (1 : Int32)), .val (.ref b), .val (.int (0 : Int32))] [(.int c0), (.int (0 : Int32)), (.ref b)])) (fun t_ k_ => (X1.caload hx (j := (0 : Int32)) (v := (.int c0)) (by first | (rw [rfl]; exact Ar9.1) | exact Ar9.1) (State.isArrayOf_alike hZ.alike Ar9.2.1) Ar9.2.2 hin9 (Hh9.at hin9 rfl) (g := (mkF m 19 #[.val (.ref a1), .val (.int (0 : Int32)), .val (.int (1 : Int32)), .val (.ref b), .val (.int (0 : Int32))] [(.int (0 : Int32)), (.ref a1), (.int (0 : Int32)), (.ref b)])) rfl rfl (Jvm.hb hby own_d_jdk_52_method_14_code_19) _ k_)) ?_
  obtain ⟨_, _, ⟨T10, L10, k10, n10⟩, -, X10, ⟨Lc10, hQ10, l10, y10, z10⟩, st10⟩ := Jvm.LawKit.callS X1 hx (y := (⟨"java/lang/StringUTF16", "putChar", "([BII)V"⟩ : MethodName)) hown (mvT hZ (hw _ (List.mem_of_getElem? (i := 108) rfl))) (mvT hZ (hw _ (List.mem_of_getElem? (i := 109) rfl))) (mvT hZ (hw _ (List.mem_of_getElem? (i := 18) rfl))) (mvT hZ (hw _ (List.mem_of_getElem? (i := 110) rfl))) (by decide) (backOf (W := 0) (own_rm_pch0 l Z a0 hw [] b (0 : Int32) c0 kb (2 : Int32) [(.int (0 : Int32)), (.int (0 : Int32))] T1.heap n0 f4 f5 f6 f7 Vb0 rfl (by decide) (by decide) (Nat.le_of_ble_eq_true rfl) g_b Eb) hZ (hw _ (List.mem_of_getElem? (i := 110) rfl)) (hw _ (List.mem_of_getElem? (i := 18) rfl)) (by decide) (by decide)) (g := (mkF m 20 #[.val (.ref a1), .val (.int (0 : Int32)), .val (.int (1 : Int32)), .val (.ref b), .val (.int (0 : Int32))] [(.int c0), (.int (0 : Int32)), (.ref b)])) rfl (by rw [hml]; rfl) (argsL := [(.ref b), (.int (0 : Int32)), (.int c0)]) (rest := []) (lenOf own_pd_2 rfl) rfl (by show 2 * 0 + _ ≤ _; exact Nat.le_of_eq rfl) (Jvm.hb hby own_d_jdk_52_method_14_code_20) (fun _ _ => ⟨rfl, rfl, Nat.le_of_ble_eq_true rfl, Nat.le_of_ble_eq_true rfl⟩)
  dsimp only [Pt.U, Pt.locs, Pt.cells, Pt.slots] at X10 l10 y10 z10 st10 hQ10
  subst l10 y10 z10
  obtain ⟨rfl, N10, K10, Vn10⟩ := hQ10
  have N11 := Fr.app N2 N10
  have f12 := f3.trans K10 (allS (Or.inr sz_b) all0)
  have f13 := Nat.le_trans f4 K10.1
  have f14 := own_stakeep f5 K10 (allS (own_plainE Eb) all0)
  have f15 := own_stakeep f6 K10 (allS (own_plainE Eb) all0)
  have f16 := own_stakeep f7 K10 (allS (own_plainE Eb) all0)
  have f17 := f8.keep K10 (ninS ne_a1_b nin0)
  have f18 := Eb.keep K10
  have Vb1 : Arv Z T10.heap b kb .byte (2 : Int32) [(.int (StrChars.lo8 c0)), (.int (StrChars.hi8 c0))] (.int 0) := Vn10
  refine own_of (T' := T10) (f' := (mkF m 29 #[.val (.ref a1), .val (.int ((0 : Int32) + (1 : Int32))), .val (.int (1 : Int32)), .val (.ref b), .val (.int ((0 : Int32) + (1 : Int32)))] [])) (fun t_ k_ => (st10 _ (XS.iinc X10.here hx rfl (Jvm.hb hby own_d_jdk_52_method_14_code_23) rfl (l' := #[.val (.ref a1), .val (.int ((0 : Int32) + (1 : Int32))), .val (.int (1 : Int32)), .val (.ref b), .val (.int (0 : Int32))]) rfl (XS.iinc X10.here hx rfl (Jvm.hb hby own_d_jdk_52_method_14_code_26) rfl (l' := #[.val (.ref a1), .val (.int ((0 : Int32) + (1 : Int32))), .val (.int (1 : Int32)), .val (.ref b), .val (.int ((0 : Int32) + (1 : Int32)))]) rfl k_)))) ?_
  try rw [(by decide : ((0 : Int32) + (1 : Int32)) = (1 : Int32))]
  try rw [(by decide : ((0 : Int32) + (1 : Int32)) = (1 : Int32))]
  refine own_of (T' := T10) (f' := (mkF m 33 #[.val (.ref a1), .val (.int (1 : Int32)), .val (.int (1 : Int32)), .val (.ref b), .val (.int (1 : Int32))] [(.ref b)])) (fun t_ k_ => (XS.goto X10.here hx rfl (pc0 := 29) (pc' := 8) rfl (Jvm.hb hby own_d_jdk_52_method_14_code_29) (by decide) (by decide) (XS.iload X10.here hx rfl (Jvm.hb hby own_d_jdk_52_method_14_code_8) rfl (XS.iloadN X10.here hx rfl (Jvm.hb hby own_d_jdk_52_method_14_code_10) rfl (XS.icmpYes X10.here hx rfl (pc0 := 11) (pc' := 32) rfl (Jvm.hb hby own_d_jdk_52_method_14_code_11) rfl (flt (by decide)).2.1 (by decide) (by decide) (XS.aloadN X10.here hx rfl (Jvm.hb hby own_d_jdk_52_method_14_code_32) rfl rfl k_)))))) ?_
  obtain ⟨fs, hr, hrun, hended, hW, hsame⟩ := X10.leave (v := some (.ref b)) (fun h => by rw [Bd.returns] at h; cases h)
  exact ⟨_, _, own_retA X10 hx Bd.returns rfl rfl rfl (Jvm.hb hby own_d_jdk_52_method_14_code_33) hr, hrun, hended, _, _, rfl, (by show own_Q_tob1 Z a1 0 (1 : Int32) c0 kc h0 n0 _ T10.heap _; exact ⟨b, kb, rfl, N11, f12, sz_b, f18, Vb1⟩), ⟨_, rfl⟩, hW, hsame.mono (by decide) (by decide)⟩
theorem own_ef_cp5_1 (m : MethodId) (a1 : Addr) (p2 : Int32) (a3 : Addr) (p4 : Int32) (p5 : Int32) : entryFrame m #[(.ref a1), (.int p2), (.ref a3), (.int p4), (.int p5)] 7 = mkF m 0 #[.val (.ref a1), .val (.int p2), .val (.ref a3), .val (.int p4), .val (.int p5), .unset, .unset] [] := by first | (simp [entryFrame, mkF, argsToLocals, Value.category]; done) | rfl
def own_Q_cp5_1 (Z : State) (a1 : Addr) (p2 : Int32) (a3 : Addr) (p4 : Int32) (p5 : Int32) (c0 : Int32) (kc kd : ClassId) (h0 : Heap) (n0 : Nat) (v : Option Value) (h : Heap) (L : List Loc) : Prop := Fr n0 L ∧ Keep h0 h [a3] ∧ ((v = some (.int (0 : Int32)) ∧ (255 : Int32) < c0))
theorem own_d_jdk_52_method_21_code_0 : decode jdk_52_method_21_code 0 = .ok (.iconst 0, 1) := by decide +kernel
theorem own_d_jdk_52_method_21_code_1 : decode jdk_52_method_21_code 1 = .ok (.istore 5, 2) := by decide +kernel
theorem own_d_jdk_52_method_21_code_3 : decode jdk_52_method_21_code 3 = .ok (.iload 5, 2) := by decide +kernel
theorem own_d_jdk_52_method_21_code_5 : decode jdk_52_method_21_code 5 = .ok (.iload 4, 2) := by decide +kernel
theorem own_d_jdk_52_method_21_code_7 : decode jdk_52_method_21_code 7 = .ok (.if_icmp .ge 37, 3) := by decide +kernel
theorem own_d_jdk_52_method_21_code_10 : decode jdk_52_method_21_code 10 = .ok (.aload_n 0, 1) := by decide +kernel
theorem own_d_jdk_52_method_21_code_11 : decode jdk_52_method_21_code 11 = .ok (.iload_n 1, 1) := by decide +kernel
theorem own_d_jdk_52_method_21_code_12 : decode jdk_52_method_21_code 12 = .ok (.caload, 1) := by decide +kernel
theorem own_d_jdk_52_method_21_code_13 : decode jdk_52_method_21_code 13 = .ok (.istore 6, 2) := by decide +kernel
theorem own_d_jdk_52_method_21_code_15 : decode jdk_52_method_21_code 15 = .ok (.iload 6, 2) := by decide +kernel
theorem own_d_jdk_52_method_21_code_17 : decode jdk_52_method_21_code 17 = .ok (.sipush 255, 3) := by decide +kernel
theorem own_d_jdk_52_method_21_code_20 : decode jdk_52_method_21_code 20 = .ok (.if_icmp .le 6, 3) := by decide +kernel
theorem own_d_jdk_52_method_21_code_23 : decode jdk_52_method_21_code 23 = .ok (.iload 5, 2) := by decide +kernel
theorem own_d_jdk_52_method_21_code_25 : decode jdk_52_method_21_code 25 = .ok (.ireturn, 1) := by decide +kernel
theorem own_d_jdk_52_method_21_code_26 : decode jdk_52_method_21_code 26 = .ok (.aload_n 2, 1) := by decide +kernel
theorem own_d_jdk_52_method_21_code_27 : decode jdk_52_method_21_code 27 = .ok (.iload_n 3, 1) := by decide +kernel
theorem own_d_jdk_52_method_21_code_28 : decode jdk_52_method_21_code 28 = .ok (.iload 6, 2) := by decide +kernel
theorem own_d_jdk_52_method_21_code_30 : decode jdk_52_method_21_code 30 = .ok (.i2b, 1) := by decide +kernel
theorem own_d_jdk_52_method_21_code_31 : decode jdk_52_method_21_code 31 = .ok (.bastore, 1) := by decide +kernel
theorem own_d_jdk_52_method_21_code_32 : decode jdk_52_method_21_code 32 = .ok (.iinc 1 1, 3) := by decide +kernel
theorem own_d_jdk_52_method_21_code_35 : decode jdk_52_method_21_code 35 = .ok (.iinc 3 1, 3) := by decide +kernel
theorem own_d_jdk_52_method_21_code_38 : decode jdk_52_method_21_code 38 = .ok (.iinc 5 1, 3) := by decide +kernel
theorem own_d_jdk_52_method_21_code_41 : decode jdk_52_method_21_code 41 = .ok (.goto (-38), 3) := by decide +kernel
set_option maxRecDepth 65536 in
set_option maxHeartbeats 40000000 in
theorem own_rm_cp5_1 (l : Launch) (Z : State) (a0 : Array Value) (hw : ∀ d ∈ tables_1, d.before a0 Z = true) (ws : List Jvm.Cond) (a1 : Addr) (p2 : Int32) (a3 : Addr) (p4 : Int32) (p5 : Int32) (c0 : Int32) (kc kd : ClassId) (h0 : Heap) (n0 : Nat) (Z0 : n0 ≤ h0.size) (Vc : Arv Z h0 a1 kc .char (1 : Int32) [(.int c0)] (.int 0)) (Vd : Arv Z h0 a3 kd .byte (1 : Int32) [(.int (0 : Int32))] (.int 0)) (ne13 : a1 ≠ a3) (g_a3 : n0 ≤ a3) (E3 : Exa Z h0 a3 "[B") (hp2 : p2 = 0) (hp4 : p4 = 0) (hp5 : p5 = (1 : Int32)) (hwd : (255 : Int32) < c0) :
    MetFree l (⟨"java/lang/StringUTF16", "compress", "([CI[BII)I"⟩ : MethodName) (head1 (Jvm.Cond.code (⟨"java/lang/StringUTF16", "compress", "([CI[BII)I"⟩ : MethodName) jdk_52_method_21_code 7 (some .int) :: ws) ({ frames := 0, cells := 0, slots := 0, locals := 0 } : Room)) (fun a U => a = #[(.ref a1), (.int p2), (.ref a3), (.int p4), (.int p5)] ∧ Z.Warmed39 U.vm ∧ U.heap = h0) (fun _ _ _ _ _ => True) (fun _ U o U' => ∃ v L, o = .returned v ∧ own_Q_cp5_1 Z a1 p2 a3 p4 p5 c0 kc kd h0 n0 v U'.heap L ∧ FrameEnd U o U' L ({ frames := 0, cells := 0, slots := 0, locals := 0 } : Room).cells ({ frames := 0, cells := 0, slots := 0, locals := 0 } : Room).slots) := by
  refine MetFree.of_bodySF (plainFor_of_name own_pn_0) hisR ?_
  intro p e s m args below meth c s₁ Bd hml0 hP hK
  obtain ⟨rfl, hZ, hh⟩ := hP
  have hx := Bd.exec
  have hby := Bd.bytes
  have hml : c.maxLocals = 7 := hml0
  have hown : s.vm.findClass "java/lang/StringUTF16" = some m.cls := findClass_of_methodNamed Bd.named
  have hnm := (name_of_methodNamed Bd.named Bd.method).1
  have X0 : Stand p l e ({ frames := 0, cells := 0, slots := 0, locals := 0 } : Room) s m #[(.ref a1), (.int p2), (.ref a3), (.int p4), (.int p5)] below meth c s₁ [] 0 0 := Stand.of_body Bd
  have e0 : s₁.heap = h0 := by rw [← hh, Bd.state]; rfl
  have N0 := Fr.nil n0
  refine own_start (own_ef_cp5_1 m a1 p2 a3 p4 p5 ) ?_
  subst hp2 hp4 hp5
  have K0 : Keep h0 h0 [a3] := Keep.refl _ _
  refine own_of (T' := s₁) (f' := (mkF m 12 #[.val (.ref a1), .val (.int (0 : Int32)), .val (.ref a3), .val (.int (0 : Int32)), .val (.int (1 : Int32)), .val (.int (0 : Int32)), .unset] [(.int (0 : Int32)), (.ref a1)])) (fun t_ k_ => (XS.iconst X0.here hx rfl (Jvm.hb hby own_d_jdk_52_method_21_code_0) (XS.istore X0.here hx rfl (Jvm.hb hby own_d_jdk_52_method_21_code_1) rfl (l' := #[.val (.ref a1), .val (.int (0 : Int32)), .val (.ref a3), .val (.int (0 : Int32)), .val (.int (1 : Int32)), .val (.int (0 : Int32)), .unset]) rfl (XS.iload X0.here hx rfl (Jvm.hb hby own_d_jdk_52_method_21_code_3) rfl (XS.iload X0.here hx rfl (Jvm.hb hby own_d_jdk_52_method_21_code_5) rfl (XS.icmpNo X0.here hx rfl (Jvm.hb hby own_d_jdk_52_method_21_code_7) rfl (tlt (by decide)).2.1 (XS.aloadN X0.here hx rfl (Jvm.hb hby own_d_jdk_52_method_21_code_10) rfl rfl (XS.iloadN X0.here hx rfl (Jvm.hb hby own_d_jdk_52_method_21_code_11) rfl k_)))))))) ?_
  obtain ⟨cl1, Ar1, qq1, Sz1, Nn1, Hh1, Gg1⟩ := id Vc
  have hin1 : ¬ ((0 : Int32) < 0 ∨ cl1.slots.size ≤ ((0 : Int32)).toNatClampNeg) := inb_of Sz1 ⟨by decide, by decide⟩
  refine own_of (T' := s₁) (f' := (mkF m 20 #[.val (.ref a1), .val (.int (0 : Int32)), .val (.ref a3), .val (.int (0 : Int32)), .val (.int (1 : Int32)), .val (.int (0 : Int32)), .val (.int c0)] [(.int (255 : Int32)), (.int c0)])) (fun t_ k_ => (X0.caload hx (j := (0 : Int32)) (v := (.int c0)) (by first | (rw [e0]; exact Ar1.1) | exact Ar1.1) (State.isArrayOf_alike hZ.alike Ar1.2.1) Ar1.2.2 hin1 (Hh1.at hin1 rfl) (g := (mkF m 12 #[.val (.ref a1), .val (.int (0 : Int32)), .val (.ref a3), .val (.int (0 : Int32)), .val (.int (1 : Int32)), .val (.int (0 : Int32)), .unset] [(.int (0 : Int32)), (.ref a1)])) rfl rfl (Jvm.hb hby own_d_jdk_52_method_21_code_12) _ (XS.istore X0.here hx rfl (Jvm.hb hby own_d_jdk_52_method_21_code_13) rfl (l' := #[.val (.ref a1), .val (.int (0 : Int32)), .val (.ref a3), .val (.int (0 : Int32)), .val (.int (1 : Int32)), .val (.int (0 : Int32)), .val (.int c0)]) rfl (XS.iload X0.here hx rfl (Jvm.hb hby own_d_jdk_52_method_21_code_15) rfl (XS.sipush X0.here hx rfl (Jvm.hb hby own_d_jdk_52_method_21_code_17) k_))))) ?_
  by_cases hc20_2 : ((255 : Int32) < c0)
  · skip
    refine own_of (T' := s₁) (f' := (mkF m 25 #[.val (.ref a1), .val (.int (0 : Int32)), .val (.ref a3), .val (.int (0 : Int32)), .val (.int (1 : Int32)), .val (.int (0 : Int32)), .val (.int c0)] [(.int (0 : Int32))])) (fun t_ k_ => (XS.icmpNo X0.here hx rfl (Jvm.hb hby own_d_jdk_52_method_21_code_20) rfl (tlt hc20_2).2.2.2 (XS.iload X0.here hx rfl (Jvm.hb hby own_d_jdk_52_method_21_code_23) rfl k_))) ?_
    obtain ⟨fs, hr, hrun, hended, hW, hsame⟩ := X0.leave (v := some (.int (0 : Int32))) (fun h => by rw [Bd.returns] at h; cases h)
    exact ⟨_, _, own_retI X0 hx Bd.returns (Jvm.hb hby own_d_jdk_52_method_21_code_25) hr, hrun, hended, _, _, rfl, (by show own_Q_cp5_1 Z a1 0 a3 0 (1 : Int32) c0 kc kd h0 n0 _ s₁.heap _; rw [e0]; exact ⟨N0, K0, ⟨rfl, hc20_2⟩⟩), ⟨_, rfl⟩, hW, hsame.mono (by decide) (by decide)⟩
  · skip
    refine own_of (T' := s₁) (f' := (mkF m 31 #[.val (.ref a1), .val (.int (0 : Int32)), .val (.ref a3), .val (.int (0 : Int32)), .val (.int (1 : Int32)), .val (.int (0 : Int32)), .val (.int c0)] [(.int (c0.toInt8.toInt32)), (.int (0 : Int32)), (.ref a3)])) (fun t_ k_ => (XS.icmpYes X0.here hx rfl (pc0 := 20) (pc' := 26) rfl (Jvm.hb hby own_d_jdk_52_method_21_code_20) rfl (flt hc20_2).2.2.2 (by decide) (by decide) (XS.aloadN X0.here hx rfl (Jvm.hb hby own_d_jdk_52_method_21_code_26) rfl rfl (XS.iloadN X0.here hx rfl (Jvm.hb hby own_d_jdk_52_method_21_code_27) rfl (XS.iload X0.here hx rfl (Jvm.hb hby own_d_jdk_52_method_21_code_28) rfl (XS.i2b X0.here hx rfl (Jvm.hb hby own_d_jdk_52_method_21_code_30) rfl k_)))))) ?_
    obtain ⟨cl3, Ar3, qq3, Sz3, Nn3, Hh3, Gg3⟩ := id Vd
    have hin3 : ¬ ((0 : Int32) < 0 ∨ cl3.slots.size ≤ ((0 : Int32)).toNatClampNeg) := inb_of Sz3 ⟨by decide, by decide⟩
    obtain ⟨T4, h4, X4, e4, W4, st4⟩ := stB X0 hx hZ e0 Ar3 (j := (0 : Int32)) hin3 (g := (mkF m 31 #[.val (.ref a1), .val (.int (0 : Int32)), .val (.ref a3), .val (.int (0 : Int32)), .val (.int (1 : Int32)), .val (.int (0 : Int32)), .val (.int c0)] [(.int (c0.toInt8.toInt32)), (.int (0 : Int32)), (.ref a3)])) rfl rfl (Jvm.hb hby own_d_jdk_52_method_21_code_31)
    refine own_of (T' := T4) (f' := (mkF m 32 #[.val (.ref a1), .val (.int (0 : Int32)), .val (.ref a3), .val (.int (0 : Int32)), .val (.int (1 : Int32)), .val (.int (0 : Int32)), .val (.int c0)] [])) (fun t_ k_ => (st4 _ k_)) ?_
    have f5 := Arv.set Ar3 qq3 Sz3 Nn3 Hh3 Gg3 (fits_nar_byte _) W4 0 rfl (Nat.le_of_ble_eq_true rfl)
    have N4 := Fr.snoc X4 N0 g_a3
    have f6 := K0.wr W4 (Or.inl (List.mem_of_getElem? (i := 0) rfl))
    have f7 := Nat.le_trans Z0 (Keep.of_wr W4).1
    have f8 := E3.wr W4
    have f9 := Vc.other W4 ne13
    refine own_of (T' := T4) (f' := (mkF m 41 #[.val (.ref a1), .val (.int ((0 : Int32) + (1 : Int32))), .val (.ref a3), .val (.int ((0 : Int32) + (1 : Int32))), .val (.int (1 : Int32)), .val (.int ((0 : Int32) + (1 : Int32))), .val (.int c0)] [])) (fun t_ k_ => (XS.iinc X4.here hx rfl (Jvm.hb hby own_d_jdk_52_method_21_code_32) rfl (l' := #[.val (.ref a1), .val (.int ((0 : Int32) + (1 : Int32))), .val (.ref a3), .val (.int (0 : Int32)), .val (.int (1 : Int32)), .val (.int (0 : Int32)), .val (.int c0)]) rfl (XS.iinc X4.here hx rfl (Jvm.hb hby own_d_jdk_52_method_21_code_35) rfl (l' := #[.val (.ref a1), .val (.int ((0 : Int32) + (1 : Int32))), .val (.ref a3), .val (.int ((0 : Int32) + (1 : Int32))), .val (.int (1 : Int32)), .val (.int (0 : Int32)), .val (.int c0)]) rfl (XS.iinc X4.here hx rfl (Jvm.hb hby own_d_jdk_52_method_21_code_38) rfl (l' := #[.val (.ref a1), .val (.int ((0 : Int32) + (1 : Int32))), .val (.ref a3), .val (.int ((0 : Int32) + (1 : Int32))), .val (.int (1 : Int32)), .val (.int ((0 : Int32) + (1 : Int32))), .val (.int c0)]) rfl k_)))) ?_
    try rw [(by decide : ((0 : Int32) + (1 : Int32)) = (1 : Int32))]
    try rw [(by decide : ((0 : Int32) + (1 : Int32)) = (1 : Int32))]
    try rw [(by decide : ((0 : Int32) + (1 : Int32)) = (1 : Int32))]
    refine own_of (T' := T4) (f' := (mkF m 7 #[.val (.ref a1), .val (.int (1 : Int32)), .val (.ref a3), .val (.int (1 : Int32)), .val (.int (1 : Int32)), .val (.int (1 : Int32)), .val (.int c0)] [(.int (1 : Int32)), (.int (1 : Int32))])) (fun t_ k_ => (XS.goto X4.here hx rfl (pc0 := 41) (pc' := 3) rfl (Jvm.hb hby own_d_jdk_52_method_21_code_41) (by decide) (by decide) (XS.iload X4.here hx rfl (Jvm.hb hby own_d_jdk_52_method_21_code_3) rfl (XS.iload X4.here hx rfl (Jvm.hb hby own_d_jdk_52_method_21_code_5) rfl k_)))) ?_
    exact absurd hwd (by simp only [hc20_2, or_self, not_false_eq_true])
theorem own_ef_cp3_1 (m : MethodId) (a1 : Addr) (p2 : Int32) (p3 : Int32) : entryFrame m #[(.ref a1), (.int p2), (.int p3)] 6 = mkF m 0 #[.val (.ref a1), .val (.int p2), .val (.int p3), .unset, .unset, .unset] [] := by first | (simp [entryFrame, mkF, argsToLocals, Value.category]; done) | rfl
def own_Q_cp3_1 (Z : State) (a1 : Addr) (p2 : Int32) (p3 : Int32) (c0 : Int32) (kc : ClassId) (h0 : Heap) (n0 : Nat) (v : Option Value) (h : Heap) (L : List Loc) : Prop := ∃ b k, v = some (.ref b) ∧ Fr n0 L ∧ Keep h0 h [] ∧ h0.size ≤ b ∧ Exa Z h b "[B" ∧ Arv Z h b k .byte (2 : Int32) [(.int (StrChars.lo8 c0)), (.int (StrChars.hi8 c0))] (.int 0)
theorem own_d_jdk_52_method_16_code_0 : decode jdk_52_method_16_code 0 = .ok (.iload_n 2, 1) := by decide +kernel
theorem own_d_jdk_52_method_16_code_1 : decode jdk_52_method_16_code 1 = .ok (.newarray .byte, 2) := by decide +kernel
theorem own_d_jdk_52_method_16_code_3 : decode jdk_52_method_16_code 3 = .ok (.astore_n 3, 1) := by decide +kernel
theorem own_d_jdk_52_method_16_code_4 : decode jdk_52_method_16_code 4 = .ok (.aload_n 0, 1) := by decide +kernel
theorem own_d_jdk_52_method_16_code_5 : decode jdk_52_method_16_code 5 = .ok (.iload_n 1, 1) := by decide +kernel
theorem own_d_jdk_52_method_16_code_6 : decode jdk_52_method_16_code 6 = .ok (.aload_n 3, 1) := by decide +kernel
theorem own_d_jdk_52_method_16_code_7 : decode jdk_52_method_16_code 7 = .ok (.iconst 0, 1) := by decide +kernel
theorem own_d_jdk_52_method_16_code_8 : decode jdk_52_method_16_code 8 = .ok (.iload_n 2, 1) := by decide +kernel
theorem own_d_jdk_52_method_16_code_9 : decode jdk_52_method_16_code 9 = .ok (.invokestatic 115, 3) := by decide +kernel
theorem own_pd_3 : parseMethodDescriptor "([CI[BII)I" = some ⟨[(.array .char), .int, (.array .byte), .int, .int], some .int⟩ := by decide +kernel
theorem own_d_jdk_52_method_16_code_12 : decode jdk_52_method_16_code 12 = .ok (.istore 4, 2) := by decide +kernel
theorem own_d_jdk_52_method_16_code_14 : decode jdk_52_method_16_code 14 = .ok (.iload 4, 2) := by decide +kernel
theorem own_d_jdk_52_method_16_code_16 : decode jdk_52_method_16_code 16 = .ok (.iload_n 2, 1) := by decide +kernel
theorem own_d_jdk_52_method_16_code_17 : decode jdk_52_method_16_code 17 = .ok (.if_icmp .eq 40, 3) := by decide +kernel
theorem own_d_jdk_52_method_16_code_20 : decode jdk_52_method_16_code 20 = .ok (.aload_n 0, 1) := by decide +kernel
theorem own_d_jdk_52_method_16_code_21 : decode jdk_52_method_16_code 21 = .ok (.iload_n 1, 1) := by decide +kernel
theorem own_d_jdk_52_method_16_code_22 : decode jdk_52_method_16_code 22 = .ok (.iload_n 2, 1) := by decide +kernel
theorem own_d_jdk_52_method_16_code_23 : decode jdk_52_method_16_code 23 = .ok (.invokestatic 119, 3) := by decide +kernel
theorem own_pd_4 : parseMethodDescriptor "([CII)[B" = some ⟨[(.array .char), .int, .int], some (.array .byte)⟩ := by decide +kernel
theorem own_d_jdk_52_method_16_code_26 : decode jdk_52_method_16_code 26 = .ok (.astore 5, 2) := by decide +kernel
theorem own_d_jdk_52_method_16_code_28 : decode jdk_52_method_16_code 28 = .ok (.aload 5, 2) := by decide +kernel
theorem own_d_jdk_52_method_16_code_30 : decode jdk_52_method_16_code 30 = .ok (.iload 4, 2) := by decide +kernel
theorem own_d_jdk_52_method_16_code_32 : decode jdk_52_method_16_code 32 = .ok (.invokestatic 71, 3) := by decide +kernel
theorem own_pd_5 : parseMethodDescriptor "([BI)C" = some ⟨[(.array .byte), .int], some .char⟩ := by decide +kernel
theorem own_d_jdk_52_method_16_code_35 : decode jdk_52_method_16_code 35 = .ok (.sipush 255, 3) := by decide +kernel
theorem own_d_jdk_52_method_16_code_38 : decode jdk_52_method_16_code 38 = .ok (.if_icmp .gt 16, 3) := by decide +kernel
theorem own_d_jdk_52_method_16_code_54 : decode jdk_52_method_16_code 54 = .ok (.aload 5, 2) := by decide +kernel
theorem own_d_jdk_52_method_16_code_56 : decode jdk_52_method_16_code 56 = .ok (.areturn, 1) := by decide +kernel
set_option maxRecDepth 65536 in
set_option maxHeartbeats 40000000 in
theorem own_rm_cp3_1 (l : Launch) (Z : State) (a0 : Array Value) (hw : ∀ d ∈ tables_1, d.before a0 Z = true) (ws : List Jvm.Cond) (a1 : Addr) (p2 : Int32) (p3 : Int32) (c0 : Int32) (kc : ClassId) (h0 : Heap) (n0 : Nat) (Z0 : n0 ≤ h0.size) (S1 : Sta Z h0 "java/lang/StringUTF16" "$assertionsDisabled" "Z" (.int 1)) (S2 : Sta Z h0 "java/lang/StringUTF16" "HI_BYTE_SHIFT" "I" (.int 0)) (S3 : Sta Z h0 "java/lang/StringUTF16" "LO_BYTE_SHIFT" "I" (.int 8)) (Vc : Arv Z h0 a1 kc .char (1 : Int32) [(.int c0)] (.int 0)) (hp2 : p2 = 0) (hp3 : p3 = (1 : Int32)) (hr : ∀ c ∈ ([c0] : List Int32), ¬ c < 0 ∧ ¬ (65535 : Int32) < c) (hwd : (255 : Int32) < c0) :
    MetFree l (⟨"java/lang/StringUTF16", "compress", "([CII)[B"⟩ : MethodName) (head1 (Jvm.Cond.code (⟨"java/lang/StringUTF16", "compress", "([CII)[B"⟩ : MethodName) jdk_52_method_16_code 6 (some (.array .byte)) :: ws) ({ frames := 3, cells := 2, slots := 3, locals := 40 } : Room)) (fun a U => a = #[(.ref a1), (.int p2), (.int p3)] ∧ Z.Warmed39 U.vm ∧ U.heap = h0) (fun _ _ _ _ _ => True) (fun _ U o U' => ∃ v L, o = .returned v ∧ own_Q_cp3_1 Z a1 p2 p3 c0 kc h0 n0 v U'.heap L ∧ FrameEnd U o U' L ({ frames := 3, cells := 2, slots := 3, locals := 40 } : Room).cells ({ frames := 3, cells := 2, slots := 3, locals := 40 } : Room).slots) := by
  refine MetFree.of_bodySF (plainFor_of_name own_pn_0) hisR ?_
  intro p e s m args below meth c s₁ Bd hml0 hP hK
  obtain ⟨rfl, hZ, hh⟩ := hP
  have hx := Bd.exec
  have hby := Bd.bytes
  have hml : c.maxLocals = 6 := hml0
  have hown : s.vm.findClass "java/lang/StringUTF16" = some m.cls := findClass_of_methodNamed Bd.named
  have hnm := (name_of_methodNamed Bd.named Bd.method).1
  have X0 : Stand p l e ({ frames := 3, cells := 2, slots := 3, locals := 40 } : Room) s m #[(.ref a1), (.int p2), (.int p3)] below meth c s₁ [] 0 0 := Stand.of_body Bd
  have e0 : s₁.heap = h0 := by rw [← hh, Bd.state]; rfl
  have N0 := Fr.nil n0
  refine own_start (own_ef_cp3_1 m a1 p2 p3 ) ?_
  subst hp2 hp3
  have K0 : Keep h0 h0 [] := Keep.refl _ _
  refine own_of (T' := s₁) (f' := (mkF m 1 #[.val (.ref a1), .val (.int (0 : Int32)), .val (.int (1 : Int32)), .unset, .unset, .unset] [(.int (1 : Int32))])) (fun t_ k_ => (XS.iloadN X0.here hx rfl (Jvm.hb hby own_d_jdk_52_method_16_code_0) rfl k_)) ?_
  obtain ⟨T1, h1, k1, X1, e1, E1, A1, Ex1, st1⟩ := newPE X0 hx hZ (hw _ (List.mem_of_getElem? (i := 20) rfl)) e0 (g := (mkF m 1 #[.val (.ref a1), .val (.int (0 : Int32)), .val (.int (1 : Int32)), .unset, .unset, .unset] [(.int (1 : Int32))])) rfl (Jvm.hb hby own_d_jdk_52_method_16_code_1) rfl (by decide) (cap := 1) (by decide) (by decide) (by decide) (by decide) (ad := "[B") (by decide)
  obtain ⟨bb, g1⟩ : ∃ z, z = h0.size := ⟨_, rfl⟩
  rw [← g1] at A1 Ex1 st1
  have ne_a1_bb : a1 ≠ bb := by rw [g1]; exact Nat.ne_of_lt Vc.lt
  have g_bb : n0 ≤ bb := Nat.le_trans Z0 (Nat.le_of_eq g1.symm)
  have sz_bb : h0.size ≤ bb := Nat.le_trans K0.1 (Nat.le_of_eq g1.symm)
  have f2 := K0.ext E1
  have f3 := Nat.le_trans Z0 E1.1
  have f4 := S1.ext E1
  have f5 := S2.ext E1
  have f6 := S3.ext E1
  have f7 := Vc.ext E1
  have f8 : Arv Z h1 bb k1 .byte (1 : Int32) [(.int (0 : Int32))] (.int (0 : Int32)) := (Arv.new A1 (by decide)).pad (pad_rep [] (.int (0 : Int32)) 1)
  refine own_of (T' := T1) (f' := (mkF m 9 #[.val (.ref a1), .val (.int (0 : Int32)), .val (.int (1 : Int32)), .val (.ref bb), .unset, .unset] [(.int (1 : Int32)), (.int (0 : Int32)), (.ref bb), (.int (0 : Int32)), (.ref a1)])) (fun t_ k_ => (st1 _ (XS.astoreN X1.here hx rfl (Jvm.hb hby own_d_jdk_52_method_16_code_3) rfl rfl (l' := #[.val (.ref a1), .val (.int (0 : Int32)), .val (.int (1 : Int32)), .val (.ref bb), .unset, .unset]) rfl (XS.aloadN X1.here hx rfl (Jvm.hb hby own_d_jdk_52_method_16_code_4) rfl rfl (XS.iloadN X1.here hx rfl (Jvm.hb hby own_d_jdk_52_method_16_code_5) rfl (XS.aloadN X1.here hx rfl (Jvm.hb hby own_d_jdk_52_method_16_code_6) rfl rfl (XS.iconst X1.here hx rfl (Jvm.hb hby own_d_jdk_52_method_16_code_7) (XS.iloadN X1.here hx rfl (Jvm.hb hby own_d_jdk_52_method_16_code_8) rfl k_)))))))) ?_
  obtain ⟨_, _, ⟨T9, L9, k9, n9⟩, -, X9, ⟨Lc9, hQ9, l9, y9, z9⟩, st9⟩ := Jvm.LawKit.callS X1 hx (y := (⟨"java/lang/StringUTF16", "compress", "([CI[BII)I"⟩ : MethodName)) hown (mvT hZ (hw _ (List.mem_of_getElem? (i := 21) rfl))) (mvT hZ (hw _ (List.mem_of_getElem? (i := 22) rfl))) (mvT hZ (hw _ (List.mem_of_getElem? (i := 18) rfl))) (mvT hZ (hw _ (List.mem_of_getElem? (i := 23) rfl))) (by decide) (backOf (W := 0) (own_rm_cp5_1 l Z a0 hw [] a1 (0 : Int32) bb (0 : Int32) (1 : Int32) c0 kc k1 h1 n0 f3 f7 f8 ne_a1_bb g_bb Ex1 rfl rfl rfl hwd) hZ (hw _ (List.mem_of_getElem? (i := 23) rfl)) (hw _ (List.mem_of_getElem? (i := 18) rfl)) (by decide) (by decide)) (g := (mkF m 9 #[.val (.ref a1), .val (.int (0 : Int32)), .val (.int (1 : Int32)), .val (.ref bb), .unset, .unset] [(.int (1 : Int32)), (.int (0 : Int32)), (.ref bb), (.int (0 : Int32)), (.ref a1)])) rfl (by rw [hml]; rfl) (argsL := [(.ref a1), (.int (0 : Int32)), (.ref bb), (.int (0 : Int32)), (.int (1 : Int32))]) (rest := []) (lenOf own_pd_3 rfl) rfl (by show 2 * 0 + _ ≤ _; exact Nat.le_of_eq rfl) (Jvm.hb hby own_d_jdk_52_method_16_code_9) (fun _ _ => ⟨rfl, e1, Nat.le_of_ble_eq_true rfl, Nat.le_of_ble_eq_true rfl⟩)
  dsimp only [Pt.U, Pt.locs, Pt.cells, Pt.slots] at X9 l9 y9 z9 st9 hQ9
  subst l9 y9 z9
  obtain ⟨N9, K9, hj9⟩ := hQ9
  have N10 := Fr.app N0 N9
  have f11 := f2.trans K9 (allS (Or.inr sz_bb) all0)
  have f12 := Nat.le_trans f3 K9.1
  have f13 := own_stakeep f4 K9 (allS (own_plainE Ex1) all0)
  have f14 := own_stakeep f5 K9 (allS (own_plainE Ex1) all0)
  have f15 := own_stakeep f6 K9 (allS (own_plainE Ex1) all0)
  have f16 := f7.keep K9 (ninS ne_a1_bb nin0)
  have f17 := Ex1.keep K9
  obtain ⟨rfl, hj⟩ := hj9
  · skip
    refine own_of (T' := T9) (f' := (mkF m 23 #[.val (.ref a1), .val (.int (0 : Int32)), .val (.int (1 : Int32)), .val (.ref bb), .val (.int (0 : Int32)), .unset] [(.int (1 : Int32)), (.int (0 : Int32)), (.ref a1)])) (fun t_ k_ => (st9 _ (XS.istore X9.here hx rfl (Jvm.hb hby own_d_jdk_52_method_16_code_12) rfl (l' := #[.val (.ref a1), .val (.int (0 : Int32)), .val (.int (1 : Int32)), .val (.ref bb), .val (.int (0 : Int32)), .unset]) rfl (XS.iload X9.here hx rfl (Jvm.hb hby own_d_jdk_52_method_16_code_14) rfl (XS.iloadN X9.here hx rfl (Jvm.hb hby own_d_jdk_52_method_16_code_16) rfl (XS.icmpNo X9.here hx rfl (Jvm.hb hby own_d_jdk_52_method_16_code_17) rfl (feq (by decide)).1 (XS.aloadN X9.here hx rfl (Jvm.hb hby own_d_jdk_52_method_16_code_20) rfl rfl (XS.iloadN X9.here hx rfl (Jvm.hb hby own_d_jdk_52_method_16_code_21) rfl (XS.iloadN X9.here hx rfl (Jvm.hb hby own_d_jdk_52_method_16_code_22) rfl k_))))))))) ?_
    obtain ⟨_, _, ⟨T19, L19, k19, n19⟩, -, X19, ⟨Lc19, hQ19, l19, y19, z19⟩, st19⟩ := Jvm.LawKit.callS X9 hx (y := (⟨"java/lang/StringUTF16", "toBytes", "([CII)[B"⟩ : MethodName)) hown (mvT hZ (hw _ (List.mem_of_getElem? (i := 98) rfl))) (mvT hZ (hw _ (List.mem_of_getElem? (i := 99) rfl))) (mvT hZ (hw _ (List.mem_of_getElem? (i := 18) rfl))) (mvT hZ (hw _ (List.mem_of_getElem? (i := 100) rfl))) (by decide) (backOf (W := 0) (own_rm_tob1 l Z a0 hw [] a1 (0 : Int32) (1 : Int32) c0 kc T9.heap n0 f12 f13 f14 f15 f16 rfl rfl) hZ (hw _ (List.mem_of_getElem? (i := 100) rfl)) (hw _ (List.mem_of_getElem? (i := 18) rfl)) (by decide) (by decide)) (g := (mkF m 23 #[.val (.ref a1), .val (.int (0 : Int32)), .val (.int (1 : Int32)), .val (.ref bb), .val (.int (0 : Int32)), .unset] [(.int (1 : Int32)), (.int (0 : Int32)), (.ref a1)])) rfl (by rw [hml]; rfl) (argsL := [(.ref a1), (.int (0 : Int32)), (.int (1 : Int32))]) (rest := []) (lenOf own_pd_4 rfl) rfl (by show 2 * 0 + _ ≤ _; exact Nat.le_of_eq rfl) (Jvm.hb hby own_d_jdk_52_method_16_code_23) (fun _ _ => ⟨rfl, rfl, Nat.le_of_ble_eq_true rfl, Nat.le_of_ble_eq_true rfl⟩)
    dsimp only [Pt.U, Pt.locs, Pt.cells, Pt.slots] at X19 l19 y19 z19 st19 hQ19
    subst l19 y19 z19
    obtain ⟨tb, kt, rfl, N19, K19, sztb, Etb, Vtb⟩ := hQ19
    have ne_a1_tb : a1 ≠ tb := Nat.ne_of_lt (Nat.lt_of_lt_of_le f16.lt sztb)
    have ne_bb_tb : bb ≠ tb := Nat.ne_of_lt (Nat.lt_of_lt_of_le f17.lt sztb)
    have g_tb : n0 ≤ tb := Nat.le_trans f12 sztb
    have sz_tb : h0.size ≤ tb := Nat.le_trans f11.1 sztb
    have N20 := Fr.app N10 N19
    have f21 := f11.trans K19 all0
    have f22 := Nat.le_trans f12 K19.1
    have f23 := own_stakeep f13 K19 all0
    have f24 := own_stakeep f14 K19 all0
    have f25 := own_stakeep f15 K19 all0
    have f26 := f16.keep K19 nin0
    have f27 := f17.keep K19
    refine own_of (T' := T19) (f' := (mkF m 32 #[.val (.ref a1), .val (.int (0 : Int32)), .val (.int (1 : Int32)), .val (.ref bb), .val (.int (0 : Int32)), .val (.ref tb)] [(.int (0 : Int32)), (.ref tb)])) (fun t_ k_ => (st19 _ (XS.astore X19.here hx rfl (Jvm.hb hby own_d_jdk_52_method_16_code_26) rfl rfl (l' := #[.val (.ref a1), .val (.int (0 : Int32)), .val (.int (1 : Int32)), .val (.ref bb), .val (.int (0 : Int32)), .val (.ref tb)]) rfl (XS.aload X19.here hx rfl (Jvm.hb hby own_d_jdk_52_method_16_code_28) rfl rfl (XS.iload X19.here hx rfl (Jvm.hb hby own_d_jdk_52_method_16_code_30) rfl k_))))) ?_
    obtain ⟨_, _, ⟨T28, L28, k28, n28⟩, -, X28, ⟨Lc28, hQ28, l28, y28, z28⟩, st28⟩ := Jvm.LawKit.callS X19 hx (y := (⟨"java/lang/StringUTF16", "getChar", "([BI)C"⟩ : MethodName)) hown (mvT hZ (hw _ (List.mem_of_getElem? (i := 114) rfl))) (mvT hZ (hw _ (List.mem_of_getElem? (i := 115) rfl))) (mvT hZ (hw _ (List.mem_of_getElem? (i := 18) rfl))) (mvT hZ (hw _ (List.mem_of_getElem? (i := 116) rfl))) (by decide) (backOf (W := 0) (own_rm_gch0 l Z a0 hw [] tb (0 : Int32) kt (2 : Int32) [(.int (StrChars.lo8 c0)), (.int (StrChars.hi8 c0))] c0 T19.heap n0 f22 f23 f24 f25 Vtb rfl (by decide) (by decide) rfl rfl (hr c0 (by simp))) hZ (hw _ (List.mem_of_getElem? (i := 116) rfl)) (hw _ (List.mem_of_getElem? (i := 18) rfl)) (by decide) (by decide)) (g := (mkF m 32 #[.val (.ref a1), .val (.int (0 : Int32)), .val (.int (1 : Int32)), .val (.ref bb), .val (.int (0 : Int32)), .val (.ref tb)] [(.int (0 : Int32)), (.ref tb)])) rfl (by rw [hml]; rfl) (argsL := [(.ref tb), (.int (0 : Int32))]) (rest := []) (lenOf own_pd_5 rfl) rfl (by show 2 * 0 + _ ≤ _; exact Nat.le_of_eq rfl) (Jvm.hb hby own_d_jdk_52_method_16_code_32) (fun _ _ => ⟨rfl, rfl, Nat.le_of_ble_eq_true rfl, Nat.le_of_ble_eq_true rfl⟩)
    dsimp only [Pt.U, Pt.locs, Pt.cells, Pt.slots] at X28 l28 y28 z28 st28 hQ28
    subst l28 y28 z28
    obtain ⟨rfl, N28, e28⟩ := hQ28
    have N29 := Fr.app N20 N28
    refine own_of (T' := T28) (f' := (mkF m 56 #[.val (.ref a1), .val (.int (0 : Int32)), .val (.int (1 : Int32)), .val (.ref bb), .val (.int (0 : Int32)), .val (.ref tb)] [(.ref tb)])) (fun t_ k_ => (st28 _ (XS.sipush X28.here hx rfl (Jvm.hb hby own_d_jdk_52_method_16_code_35) (XS.icmpYes X28.here hx rfl (pc0 := 38) (pc' := 54) rfl (Jvm.hb hby own_d_jdk_52_method_16_code_38) rfl (tlt hj).2.2.1 (by decide) (by decide) (XS.aload X28.here hx rfl (Jvm.hb hby own_d_jdk_52_method_16_code_54) rfl rfl k_))))) ?_
    obtain ⟨fs, hr, hrun, hended, hW, hsame⟩ := X28.leave (v := some (.ref tb)) (fun h => by rw [Bd.returns] at h; cases h)
    exact ⟨_, _, own_retA X28 hx Bd.returns rfl rfl rfl (Jvm.hb hby own_d_jdk_52_method_16_code_56) hr, hrun, hended, _, _, rfl, (by show own_Q_cp3_1 Z a1 0 (1 : Int32) c0 kc h0 n0 _ T28.heap _; rw [e28]; exact ⟨tb, kt, rfl, N29, f21, sz_tb, Etb, Vtb⟩), ⟨_, rfl⟩, hW, hsame.mono (by decide) (by decide)⟩
theorem own_ef_nbl2 (m : MethodId) (p1 : Int32) : entryFrame m #[(.int p1)] 1 = mkF m 0 #[.val (.int p1)] [] := by first | (simp [entryFrame, mkF, argsToLocals, Value.category]; done) | rfl
def own_Q_nbl2 (Z : State) (p1 : Int32)  (h0 : Heap) (n0 : Nat) (v : Option Value) (h : Heap) (L : List Loc) : Prop := v = some (.int (4 : Int32)) ∧ Fr n0 L ∧ h = h0
set_option maxRecDepth 65536 in
set_option maxHeartbeats 40000000 in
theorem own_rm_nbl2 (l : Launch) (Z : State) (a0 : Array Value) (hw : ∀ d ∈ tables_1, d.before a0 Z = true) (ws : List Jvm.Cond) (p1 : Int32)  (h0 : Heap) (n0 : Nat) (Z0 : n0 ≤ h0.size) (hp : p1 = (2 : Int32)) :
    MetFree l (⟨"java/lang/StringUTF16", "newBytesLength", "(I)I"⟩ : MethodName) (head1 (Jvm.Cond.code (⟨"java/lang/StringUTF16", "newBytesLength", "(I)I"⟩ : MethodName) jdk_52_method_3_code 1 (some .int) :: ws) ({ frames := 0, cells := 0, slots := 0, locals := 0 } : Room)) (fun a U => a = #[(.int p1)] ∧ Z.Warmed39 U.vm ∧ U.heap = h0) (fun _ _ _ _ _ => True) (fun _ U o U' => ∃ v L, o = .returned v ∧ own_Q_nbl2 Z p1  h0 n0 v U'.heap L ∧ FrameEnd U o U' L ({ frames := 0, cells := 0, slots := 0, locals := 0 } : Room).cells ({ frames := 0, cells := 0, slots := 0, locals := 0 } : Room).slots) := by
  refine MetFree.of_bodySF (plainFor_of_name own_pn_0) hisR ?_
  intro p e s m args below meth c s₁ Bd hml0 hP hK
  obtain ⟨rfl, hZ, hh⟩ := hP
  have hx := Bd.exec
  have hby := Bd.bytes
  have hml : c.maxLocals = 1 := hml0
  have hown : s.vm.findClass "java/lang/StringUTF16" = some m.cls := findClass_of_methodNamed Bd.named
  have hnm := (name_of_methodNamed Bd.named Bd.method).1
  have X0 : Stand p l e ({ frames := 0, cells := 0, slots := 0, locals := 0 } : Room) s m #[(.int p1)] below meth c s₁ [] 0 0 := Stand.of_body Bd
  have e0 : s₁.heap = h0 := by rw [← hh, Bd.state]; rfl
  have N0 := Fr.nil n0
  refine own_start (own_ef_nbl2 m p1 ) ?_
  subst hp
  refine own_of (T' := s₁) (f' := (mkF m 58 #[.val (.int (2 : Int32))] [(.int ((2 : Int32) <<< ((1 : Int32) &&& 31)))])) (fun t_ k_ => (XS.iloadN X0.here hx rfl (Jvm.hb hby own_d_jdk_52_method_3_code_0) rfl (XS.ifYes X0.here hx rfl (pc0 := 1) (pc' := 12) rfl (Jvm.hb hby own_d_jdk_52_method_3_code_1) rfl ((if0 _ _).trans (flt (by decide : ¬ (2 : Int32) < 0)).2.1) (by decide) (by decide) (XS.iloadN X0.here hx rfl (Jvm.hb hby own_d_jdk_52_method_3_code_12) rfl (Jvm.Stand.ldcI X0 hx hown (mvT hZ (hw _ (List.mem_of_getElem? (i := 107) rfl))) rfl (Jvm.hb hby own_d_jdk_52_method_3_code_13) (XS.icmpYes X0.here hx rfl (pc0 := 15) (pc' := 55) rfl (Jvm.hb hby own_d_jdk_52_method_3_code_15) rfl (tlt (by decide)).1 (by decide) (by decide) (XS.iloadN X0.here hx rfl (Jvm.hb hby own_d_jdk_52_method_3_code_55) rfl (XS.iconst X0.here hx rfl (Jvm.hb hby own_d_jdk_52_method_3_code_56) (XS.ishl X0.here hx rfl (Jvm.hb hby own_d_jdk_52_method_3_code_57) rfl k_))))))))) ?_
  rw [(by decide : ((2 : Int32) <<< ((1 : Int32) &&& 31)) = (4 : Int32))]
  obtain ⟨fs, hr, hrun, hended, hW, hsame⟩ := X0.leave (v := some (.int (4 : Int32))) (fun h => by rw [Bd.returns] at h; cases h)
  exact ⟨_, _, own_retI X0 hx Bd.returns (Jvm.hb hby own_d_jdk_52_method_3_code_58) hr, hrun, hended, _, _, rfl, (by show own_Q_nbl2 Z (2 : Int32)  h0 n0 _ s₁.heap _; rw [e0]; exact ⟨rfl, N0, rfl⟩), ⟨_, rfl⟩, hW, hsame.mono (by decide) (by decide)⟩
theorem own_ef_nbf2 (m : MethodId) (p1 : Int32) : entryFrame m #[(.int p1)] 1 = mkF m 0 #[.val (.int p1)] [] := by first | (simp [entryFrame, mkF, argsToLocals, Value.category]; done) | rfl
def own_Q_nbf2 (Z : State) (p1 : Int32)  (h0 : Heap) (n0 : Nat) (v : Option Value) (h : Heap) (L : List Loc) : Prop := ∃ b k, v = some (.ref b) ∧ Fr n0 L ∧ Keep h0 h [] ∧ h0.size ≤ b ∧ Exa Z h b "[B" ∧ Arv Z h b k .byte (4 : Int32) [(.int (0 : Int32)), (.int (0 : Int32)), (.int (0 : Int32)), (.int (0 : Int32))] (.int 0)
set_option maxRecDepth 65536 in
set_option maxHeartbeats 40000000 in
theorem own_rm_nbf2 (l : Launch) (Z : State) (a0 : Array Value) (hw : ∀ d ∈ tables_1, d.before a0 Z = true) (ws : List Jvm.Cond) (p1 : Int32)  (h0 : Heap) (n0 : Nat) (Z0 : n0 ≤ h0.size) (hp : p1 = (2 : Int32)) :
    MetFree l (⟨"java/lang/StringUTF16", "newBytesFor", "(I)[B"⟩ : MethodName) (head1 (Jvm.Cond.code (⟨"java/lang/StringUTF16", "newBytesFor", "(I)[B"⟩ : MethodName) jdk_52_method_2_code 1 (some (.array .byte)) :: ws) ({ frames := 1, cells := 1, slots := 4, locals := 12 } : Room)) (fun a U => a = #[(.int p1)] ∧ Z.Warmed39 U.vm ∧ U.heap = h0) (fun _ _ _ _ _ => True) (fun _ U o U' => ∃ v L, o = .returned v ∧ own_Q_nbf2 Z p1  h0 n0 v U'.heap L ∧ FrameEnd U o U' L ({ frames := 1, cells := 1, slots := 4, locals := 12 } : Room).cells ({ frames := 1, cells := 1, slots := 4, locals := 12 } : Room).slots) := by
  refine MetFree.of_bodySF (plainFor_of_name own_pn_0) hisR ?_
  intro p e s m args below meth c s₁ Bd hml0 hP hK
  obtain ⟨rfl, hZ, hh⟩ := hP
  have hx := Bd.exec
  have hby := Bd.bytes
  have hml : c.maxLocals = 1 := hml0
  have hown : s.vm.findClass "java/lang/StringUTF16" = some m.cls := findClass_of_methodNamed Bd.named
  have hnm := (name_of_methodNamed Bd.named Bd.method).1
  have X0 : Stand p l e ({ frames := 1, cells := 1, slots := 4, locals := 12 } : Room) s m #[(.int p1)] below meth c s₁ [] 0 0 := Stand.of_body Bd
  have e0 : s₁.heap = h0 := by rw [← hh, Bd.state]; rfl
  have N0 := Fr.nil n0
  refine own_start (own_ef_nbf2 m p1 ) ?_
  subst hp
  have K0 : Keep h0 h0 [] := Keep.refl _ _
  refine own_of (T' := s₁) (f' := (mkF m 1 #[.val (.int (2 : Int32))] [(.int (2 : Int32))])) (fun t_ k_ => (XS.iloadN X0.here hx rfl (Jvm.hb hby own_d_jdk_52_method_2_code_0) rfl k_)) ?_
  obtain ⟨_, _, ⟨T1, L1, k1, n1⟩, -, X1, ⟨Lc1, hQ1, l1, y1, z1⟩, st1⟩ := Jvm.LawKit.callS X0 hx (y := (⟨"java/lang/StringUTF16", "newBytesLength", "(I)I"⟩ : MethodName)) hown (mvT hZ (hw _ (List.mem_of_getElem? (i := 104) rfl))) (mvT hZ (hw _ (List.mem_of_getElem? (i := 105) rfl))) (mvT hZ (hw _ (List.mem_of_getElem? (i := 18) rfl))) (mvT hZ (hw _ (List.mem_of_getElem? (i := 106) rfl))) (by decide) (backOf (W := 0) (own_rm_nbl2 l Z a0 hw [] (2 : Int32) h0 n0 Z0 rfl) hZ (hw _ (List.mem_of_getElem? (i := 106) rfl)) (hw _ (List.mem_of_getElem? (i := 18) rfl)) (by decide) (by decide)) (g := (mkF m 1 #[.val (.int (2 : Int32))] [(.int (2 : Int32))])) rfl (by rw [hml]; rfl) (argsL := [(.int (2 : Int32))]) (rest := []) (lenOf own_pd_0 rfl) rfl (by show 2 * 0 + _ ≤ _; exact Nat.le_of_eq rfl) (Jvm.hb hby own_d_jdk_52_method_2_code_1) (fun _ _ => ⟨rfl, e0, Nat.le_of_ble_eq_true rfl, Nat.le_of_ble_eq_true rfl⟩)
  dsimp only [Pt.U, Pt.locs, Pt.cells, Pt.slots] at X1 l1 y1 z1 st1 hQ1
  subst l1 y1 z1
  obtain ⟨rfl, N1, e1⟩ := hQ1
  have N2 := Fr.app N0 N1
  refine own_of (T' := T1) (f' := (mkF m 4 #[.val (.int (2 : Int32))] [(.int (4 : Int32))])) (fun t_ k_ => (st1 _ k_)) ?_
  obtain ⟨T3, h3, k3, X3, e3, E3, A3, Ex3, st3⟩ := newPE X1 hx hZ (hw _ (List.mem_of_getElem? (i := 20) rfl)) e1 (g := (mkF m 4 #[.val (.int (2 : Int32))] [(.int (4 : Int32))])) rfl (Jvm.hb hby own_d_jdk_52_method_2_code_4) rfl (by decide) (cap := 4) (by decide) (by decide) (by decide) (by decide) (ad := "[B") (by decide)
  obtain ⟨b, g3⟩ : ∃ z, z = h0.size := ⟨_, rfl⟩
  rw [← g3] at A3 Ex3 st3
  have g_b : n0 ≤ b := Nat.le_trans Z0 (Nat.le_of_eq g3.symm)
  have sz_b : h0.size ≤ b := Nat.le_trans K0.1 (Nat.le_of_eq g3.symm)
  have f4 := K0.ext E3
  have f5 := Nat.le_trans Z0 E3.1
  have f6 : Arv Z h3 b k3 .byte (4 : Int32) [(.int (0 : Int32)), (.int (0 : Int32)), (.int (0 : Int32)), (.int (0 : Int32))] (.int (0 : Int32)) := (Arv.new A3 (by decide)).pad (pad_rep [] (.int (0 : Int32)) 4)
  refine own_of (T' := T3) (f' := (mkF m 6 #[.val (.int (2 : Int32))] [(.ref b)])) (fun t_ k_ => (st3 _ k_)) ?_
  obtain ⟨fs, hr, hrun, hended, hW, hsame⟩ := X3.leave (v := some (.ref b)) (fun h => by rw [Bd.returns] at h; cases h)
  exact ⟨_, _, own_retA X3 hx Bd.returns rfl rfl rfl (Jvm.hb hby own_d_jdk_52_method_2_code_6) hr, hrun, hended, _, _, rfl, (by show own_Q_nbf2 Z (2 : Int32)  h0 n0 _ T3.heap _; rw [e3]; exact ⟨b, _, rfl, N2, f4, sz_b, Ex3, f6⟩), ⟨_, rfl⟩, hW, hsame.mono (by decide) (by decide)⟩
theorem own_ef_tob2 (m : MethodId) (a1 : Addr) (p2 : Int32) (p3 : Int32) : entryFrame m #[(.ref a1), (.int p2), (.int p3)] 5 = mkF m 0 #[.val (.ref a1), .val (.int p2), .val (.int p3), .unset, .unset] [] := by first | (simp [entryFrame, mkF, argsToLocals, Value.category]; done) | rfl
def own_Q_tob2 (Z : State) (a1 : Addr) (p2 : Int32) (p3 : Int32) (c0 c1 : Int32) (kc : ClassId) (h0 : Heap) (n0 : Nat) (v : Option Value) (h : Heap) (L : List Loc) : Prop := ∃ b k, v = some (.ref b) ∧ Fr n0 L ∧ Keep h0 h [] ∧ h0.size ≤ b ∧ Exa Z h b "[B" ∧ Arv Z h b k .byte (4 : Int32) [(.int (StrChars.lo8 c0)), (.int (StrChars.hi8 c0)), (.int (StrChars.lo8 c1)), (.int (StrChars.hi8 c1))] (.int 0)
set_option maxRecDepth 65536 in
set_option maxHeartbeats 40000000 in
theorem own_rm_tob2 (l : Launch) (Z : State) (a0 : Array Value) (hw : ∀ d ∈ tables_1, d.before a0 Z = true) (ws : List Jvm.Cond) (a1 : Addr) (p2 : Int32) (p3 : Int32) (c0 c1 : Int32) (kc : ClassId) (h0 : Heap) (n0 : Nat) (Z0 : n0 ≤ h0.size) (S1 : Sta Z h0 "java/lang/StringUTF16" "$assertionsDisabled" "Z" (.int 1)) (S2 : Sta Z h0 "java/lang/StringUTF16" "HI_BYTE_SHIFT" "I" (.int 0)) (S3 : Sta Z h0 "java/lang/StringUTF16" "LO_BYTE_SHIFT" "I" (.int 8)) (Vc : Arv Z h0 a1 kc .char (2 : Int32) [(.int c0), (.int c1)] (.int 0)) (hp2 : p2 = 0) (hp3 : p3 = (2 : Int32)) :
    MetFree l (⟨"java/lang/StringUTF16", "toBytes", "([CII)[B"⟩ : MethodName) (head1 (Jvm.Cond.code (⟨"java/lang/StringUTF16", "toBytes", "([CII)[B"⟩ : MethodName) jdk_52_method_14_code 5 (some (.array .byte)) :: ws) ({ frames := 2, cells := 1, slots := 4, locals := 24 } : Room)) (fun a U => a = #[(.ref a1), (.int p2), (.int p3)] ∧ Z.Warmed39 U.vm ∧ U.heap = h0) (fun _ _ _ _ _ => True) (fun _ U o U' => ∃ v L, o = .returned v ∧ own_Q_tob2 Z a1 p2 p3 c0 c1 kc h0 n0 v U'.heap L ∧ FrameEnd U o U' L ({ frames := 2, cells := 1, slots := 4, locals := 24 } : Room).cells ({ frames := 2, cells := 1, slots := 4, locals := 24 } : Room).slots) := by
  refine MetFree.of_bodySF (plainFor_of_name own_pn_0) hisR ?_
  intro p e s m args below meth c s₁ Bd hml0 hP hK
  obtain ⟨rfl, hZ, hh⟩ := hP
  have hx := Bd.exec
  have hby := Bd.bytes
  have hml : c.maxLocals = 5 := hml0
  have hown : s.vm.findClass "java/lang/StringUTF16" = some m.cls := findClass_of_methodNamed Bd.named
  have hnm := (name_of_methodNamed Bd.named Bd.method).1
  have X0 : Stand p l e ({ frames := 2, cells := 1, slots := 4, locals := 24 } : Room) s m #[(.ref a1), (.int p2), (.int p3)] below meth c s₁ [] 0 0 := Stand.of_body Bd
  have e0 : s₁.heap = h0 := by rw [← hh, Bd.state]; rfl
  have N0 := Fr.nil n0
  refine own_start (own_ef_tob2 m a1 p2 p3 ) ?_
  subst hp2 hp3
  have K0 : Keep h0 h0 [] := Keep.refl _ _
  refine own_of (T' := s₁) (f' := (mkF m 1 #[.val (.ref a1), .val (.int (0 : Int32)), .val (.int (2 : Int32)), .unset, .unset] [(.int (2 : Int32))])) (fun t_ k_ => (XS.iloadN X0.here hx rfl (Jvm.hb hby own_d_jdk_52_method_14_code_0) rfl k_)) ?_
  obtain ⟨_, _, ⟨T1, L1, k1, n1⟩, -, X1, ⟨Lc1, hQ1, l1, y1, z1⟩, st1⟩ := Jvm.LawKit.callS X0 hx (y := (⟨"java/lang/StringUTF16", "newBytesFor", "(I)[B"⟩ : MethodName)) hown (mvT hZ (hw _ (List.mem_of_getElem? (i := 101) rfl))) (mvT hZ (hw _ (List.mem_of_getElem? (i := 102) rfl))) (mvT hZ (hw _ (List.mem_of_getElem? (i := 18) rfl))) (mvT hZ (hw _ (List.mem_of_getElem? (i := 103) rfl))) (by decide) (backOf (W := 0) (own_rm_nbf2 l Z a0 hw [] (2 : Int32) h0 n0 Z0 rfl) hZ (hw _ (List.mem_of_getElem? (i := 103) rfl)) (hw _ (List.mem_of_getElem? (i := 18) rfl)) (by decide) (by decide)) (g := (mkF m 1 #[.val (.ref a1), .val (.int (0 : Int32)), .val (.int (2 : Int32)), .unset, .unset] [(.int (2 : Int32))])) rfl (by rw [hml]; rfl) (argsL := [(.int (2 : Int32))]) (rest := []) (lenOf own_pd_1 rfl) rfl (by show 2 * 0 + _ ≤ _; exact Nat.le_of_eq rfl) (Jvm.hb hby own_d_jdk_52_method_14_code_1) (fun _ _ => ⟨rfl, e0, Nat.le_of_ble_eq_true rfl, Nat.le_of_ble_eq_true rfl⟩)
  dsimp only [Pt.U, Pt.locs, Pt.cells, Pt.slots] at X1 l1 y1 z1 st1 hQ1
  subst l1 y1 z1
  obtain ⟨b, kb, rfl, N1, K1, szb, Eb, Vb0⟩ := hQ1
  have ne_a1_b : a1 ≠ b := Nat.ne_of_lt (Nat.lt_of_lt_of_le Vc.lt szb)
  have g_b : n0 ≤ b := Nat.le_trans Z0 szb
  have sz_b : h0.size ≤ b := Nat.le_trans K0.1 szb
  have N2 := Fr.app N0 N1
  have f3 := K0.trans K1 all0
  have f4 := Nat.le_trans Z0 K1.1
  have f5 := own_stakeep S1 K1 all0
  have f6 := own_stakeep S2 K1 all0
  have f7 := own_stakeep S3 K1 all0
  have f8 := Vc.keep K1 nin0
  refine own_of (T' := T1) (f' := (mkF m 15 #[.val (.ref a1), .val (.int (0 : Int32)), .val (.int (2 : Int32)), .val (.ref b), .val (.int (0 : Int32))] [(.ref b)])) (fun t_ k_ => (st1 _ (XS.astoreN X1.here hx rfl (Jvm.hb hby own_d_jdk_52_method_14_code_4) rfl rfl (l' := #[.val (.ref a1), .val (.int (0 : Int32)), .val (.int (2 : Int32)), .val (.ref b), .unset]) rfl (XS.iconst X1.here hx rfl (Jvm.hb hby own_d_jdk_52_method_14_code_5) (XS.istore X1.here hx rfl (Jvm.hb hby own_d_jdk_52_method_14_code_6) rfl (l' := #[.val (.ref a1), .val (.int (0 : Int32)), .val (.int (2 : Int32)), .val (.ref b), .val (.int (0 : Int32))]) rfl (XS.iload X1.here hx rfl (Jvm.hb hby own_d_jdk_52_method_14_code_8) rfl (XS.iloadN X1.here hx rfl (Jvm.hb hby own_d_jdk_52_method_14_code_10) rfl (XS.icmpNo X1.here hx rfl (Jvm.hb hby own_d_jdk_52_method_14_code_11) rfl (tlt (by decide)).2.1 (XS.aloadN X1.here hx rfl (Jvm.hb hby own_d_jdk_52_method_14_code_14) rfl rfl k_))))))))) ?_
  refine own_of (T' := T1) (f' := (mkF m 19 #[.val (.ref a1), .val (.int (0 : Int32)), .val (.int (2 : Int32)), .val (.ref b), .val (.int (0 : Int32))] [(.int (0 : Int32)), (.ref a1), (.int (0 : Int32)), (.ref b)])) (fun t_ k_ => (XS.iload X1.here hx rfl (Jvm.hb hby own_d_jdk_52_method_14_code_15) rfl (XS.aloadN X1.here hx rfl (Jvm.hb hby own_d_jdk_52_method_14_code_17) rfl rfl (XS.iloadN X1.here hx rfl (Jvm.hb hby own_d_jdk_52_method_14_code_18) rfl k_)))) ?_
  obtain ⟨cl9, Ar9, qq9, Sz9, Nn9, Hh9, Gg9⟩ := id f8
  have hin9 : ¬ ((0 : Int32) < 0 ∨ cl9.slots.size ≤ ((0 : Int32)).toNatClampNeg) := inb_of Sz9 ⟨by decide, by decide⟩
  refine own_of (T' := T1) (f' := (mkF m 20 #[.val (.ref a1), .val (.int (0 : Int32)), .val (.int (2 : Int32)), .val (.ref b), .val (.int (0 : Int32))] [(.int c0), (.int (0 : Int32)), (.ref b)])) (fun t_ k_ => (X1.caload hx (j := (0 : Int32)) (v := (.int c0)) (by first | (rw [rfl]; exact Ar9.1) | exact Ar9.1) (State.isArrayOf_alike hZ.alike Ar9.2.1) Ar9.2.2 hin9 (Hh9.at hin9 rfl) (g := (mkF m 19 #[.val (.ref a1), .val (.int (0 : Int32)), .val (.int (2 : Int32)), .val (.ref b), .val (.int (0 : Int32))] [(.int (0 : Int32)), (.ref a1), (.int (0 : Int32)), (.ref b)])) rfl rfl (Jvm.hb hby own_d_jdk_52_method_14_code_19) _ k_)) ?_
  obtain ⟨_, _, ⟨T10, L10, k10, n10⟩, -, X10, ⟨Lc10, hQ10, l10, y10, z10⟩, st10⟩ := Jvm.LawKit.callS X1 hx (y := (⟨"java/lang/StringUTF16", "putChar", "([BII)V"⟩ : MethodName)) hown (mvT hZ (hw _ (List.mem_of_getElem? (i := 108) rfl))) (mvT hZ (hw _ (List.mem_of_getElem? (i := 109) rfl))) (mvT hZ (hw _ (List.mem_of_getElem? (i := 18) rfl))) (mvT hZ (hw _ (List.mem_of_getElem? (i := 110) rfl))) (by decide) (backOf (W := 0) (own_rm_pch0 l Z a0 hw [] b (0 : Int32) c0 kb (4 : Int32) [(.int (0 : Int32)), (.int (0 : Int32)), (.int (0 : Int32)), (.int (0 : Int32))] T1.heap n0 f4 f5 f6 f7 Vb0 rfl (by decide) (by decide) (Nat.le_of_ble_eq_true rfl) g_b Eb) hZ (hw _ (List.mem_of_getElem? (i := 110) rfl)) (hw _ (List.mem_of_getElem? (i := 18) rfl)) (by decide) (by decide)) (g := (mkF m 20 #[.val (.ref a1), .val (.int (0 : Int32)), .val (.int (2 : Int32)), .val (.ref b), .val (.int (0 : Int32))] [(.int c0), (.int (0 : Int32)), (.ref b)])) rfl (by rw [hml]; rfl) (argsL := [(.ref b), (.int (0 : Int32)), (.int c0)]) (rest := []) (lenOf own_pd_2 rfl) rfl (by show 2 * 0 + _ ≤ _; exact Nat.le_of_eq rfl) (Jvm.hb hby own_d_jdk_52_method_14_code_20) (fun _ _ => ⟨rfl, rfl, Nat.le_of_ble_eq_true rfl, Nat.le_of_ble_eq_true rfl⟩)
  dsimp only [Pt.U, Pt.locs, Pt.cells, Pt.slots] at X10 l10 y10 z10 st10 hQ10
  subst l10 y10 z10
  obtain ⟨rfl, N10, K10, Vn10⟩ := hQ10
  have N11 := Fr.app N2 N10
  have f12 := f3.trans K10 (allS (Or.inr sz_b) all0)
  have f13 := Nat.le_trans f4 K10.1
  have f14 := own_stakeep f5 K10 (allS (own_plainE Eb) all0)
  have f15 := own_stakeep f6 K10 (allS (own_plainE Eb) all0)
  have f16 := own_stakeep f7 K10 (allS (own_plainE Eb) all0)
  have f17 := f8.keep K10 (ninS ne_a1_b nin0)
  have f18 := Eb.keep K10
  have Vb1 : Arv Z T10.heap b kb .byte (4 : Int32) [(.int (StrChars.lo8 c0)), (.int (StrChars.hi8 c0)), (.int (0 : Int32)), (.int (0 : Int32))] (.int 0) := Vn10
  refine own_of (T' := T10) (f' := (mkF m 29 #[.val (.ref a1), .val (.int ((0 : Int32) + (1 : Int32))), .val (.int (2 : Int32)), .val (.ref b), .val (.int ((0 : Int32) + (1 : Int32)))] [])) (fun t_ k_ => (st10 _ (XS.iinc X10.here hx rfl (Jvm.hb hby own_d_jdk_52_method_14_code_23) rfl (l' := #[.val (.ref a1), .val (.int ((0 : Int32) + (1 : Int32))), .val (.int (2 : Int32)), .val (.ref b), .val (.int (0 : Int32))]) rfl (XS.iinc X10.here hx rfl (Jvm.hb hby own_d_jdk_52_method_14_code_26) rfl (l' := #[.val (.ref a1), .val (.int ((0 : Int32) + (1 : Int32))), .val (.int (2 : Int32)), .val (.ref b), .val (.int ((0 : Int32) + (1 : Int32)))]) rfl k_)))) ?_
  try rw [(by decide : ((0 : Int32) + (1 : Int32)) = (1 : Int32))]
  try rw [(by decide : ((0 : Int32) + (1 : Int32)) = (1 : Int32))]
  refine own_of (T' := T10) (f' := (mkF m 19 #[.val (.ref a1), .val (.int (1 : Int32)), .val (.int (2 : Int32)), .val (.ref b), .val (.int (1 : Int32))] [(.int (1 : Int32)), (.ref a1), (.int (1 : Int32)), (.ref b)])) (fun t_ k_ => (XS.goto X10.here hx rfl (pc0 := 29) (pc' := 8) rfl (Jvm.hb hby own_d_jdk_52_method_14_code_29) (by decide) (by decide) (XS.iload X10.here hx rfl (Jvm.hb hby own_d_jdk_52_method_14_code_8) rfl (XS.iloadN X10.here hx rfl (Jvm.hb hby own_d_jdk_52_method_14_code_10) rfl (XS.icmpNo X10.here hx rfl (Jvm.hb hby own_d_jdk_52_method_14_code_11) rfl (tlt (by decide)).2.1 (XS.aloadN X10.here hx rfl (Jvm.hb hby own_d_jdk_52_method_14_code_14) rfl rfl (XS.iload X10.here hx rfl (Jvm.hb hby own_d_jdk_52_method_14_code_15) rfl (XS.aloadN X10.here hx rfl (Jvm.hb hby own_d_jdk_52_method_14_code_17) rfl rfl (XS.iloadN X10.here hx rfl (Jvm.hb hby own_d_jdk_52_method_14_code_18) rfl k_))))))))) ?_
  obtain ⟨cl20, Ar20, qq20, Sz20, Nn20, Hh20, Gg20⟩ := id f17
  have hin20 : ¬ ((1 : Int32) < 0 ∨ cl20.slots.size ≤ ((1 : Int32)).toNatClampNeg) := inb_of Sz20 ⟨by decide, by decide⟩
  refine own_of (T' := T10) (f' := (mkF m 20 #[.val (.ref a1), .val (.int (1 : Int32)), .val (.int (2 : Int32)), .val (.ref b), .val (.int (1 : Int32))] [(.int c1), (.int (1 : Int32)), (.ref b)])) (fun t_ k_ => (X10.caload hx (j := (1 : Int32)) (v := (.int c1)) (by first | (rw [rfl]; exact Ar20.1) | exact Ar20.1) (State.isArrayOf_alike hZ.alike Ar20.2.1) Ar20.2.2 hin20 (Hh20.at hin20 rfl) (g := (mkF m 19 #[.val (.ref a1), .val (.int (1 : Int32)), .val (.int (2 : Int32)), .val (.ref b), .val (.int (1 : Int32))] [(.int (1 : Int32)), (.ref a1), (.int (1 : Int32)), (.ref b)])) rfl rfl (Jvm.hb hby own_d_jdk_52_method_14_code_19) _ k_)) ?_
  obtain ⟨_, _, ⟨T21, L21, k21, n21⟩, -, X21, ⟨Lc21, hQ21, l21, y21, z21⟩, st21⟩ := Jvm.LawKit.callS X10 hx (y := (⟨"java/lang/StringUTF16", "putChar", "([BII)V"⟩ : MethodName)) hown (mvT hZ (hw _ (List.mem_of_getElem? (i := 108) rfl))) (mvT hZ (hw _ (List.mem_of_getElem? (i := 109) rfl))) (mvT hZ (hw _ (List.mem_of_getElem? (i := 18) rfl))) (mvT hZ (hw _ (List.mem_of_getElem? (i := 110) rfl))) (by decide) (backOf (W := 0) (own_rm_pch1 l Z a0 hw [] b (1 : Int32) c1 kb (4 : Int32) [(.int (StrChars.lo8 c0)), (.int (StrChars.hi8 c0)), (.int (0 : Int32)), (.int (0 : Int32))] T10.heap n0 f13 f14 f15 f16 Vb1 rfl (by decide) (by decide) (Nat.le_of_ble_eq_true rfl) g_b f18) hZ (hw _ (List.mem_of_getElem? (i := 110) rfl)) (hw _ (List.mem_of_getElem? (i := 18) rfl)) (by decide) (by decide)) (g := (mkF m 20 #[.val (.ref a1), .val (.int (1 : Int32)), .val (.int (2 : Int32)), .val (.ref b), .val (.int (1 : Int32))] [(.int c1), (.int (1 : Int32)), (.ref b)])) rfl (by rw [hml]; rfl) (argsL := [(.ref b), (.int (1 : Int32)), (.int c1)]) (rest := []) (lenOf own_pd_2 rfl) rfl (by show 2 * 0 + _ ≤ _; exact Nat.le_of_eq rfl) (Jvm.hb hby own_d_jdk_52_method_14_code_20) (fun _ _ => ⟨rfl, rfl, Nat.le_of_ble_eq_true rfl, Nat.le_of_ble_eq_true rfl⟩)
  dsimp only [Pt.U, Pt.locs, Pt.cells, Pt.slots] at X21 l21 y21 z21 st21 hQ21
  subst l21 y21 z21
  obtain ⟨rfl, N21, K21, Vn21⟩ := hQ21
  have N22 := Fr.app N11 N21
  have f23 := f12.trans K21 (allS (Or.inr sz_b) all0)
  have f24 := Nat.le_trans f13 K21.1
  have f25 := own_stakeep f14 K21 (allS (own_plainE f18) all0)
  have f26 := own_stakeep f15 K21 (allS (own_plainE f18) all0)
  have f27 := own_stakeep f16 K21 (allS (own_plainE f18) all0)
  have f28 := f17.keep K21 (ninS ne_a1_b nin0)
  have f29 := f18.keep K21
  have Vb2 : Arv Z T21.heap b kb .byte (4 : Int32) [(.int (StrChars.lo8 c0)), (.int (StrChars.hi8 c0)), (.int (StrChars.lo8 c1)), (.int (StrChars.hi8 c1))] (.int 0) := Vn21
  refine own_of (T' := T21) (f' := (mkF m 29 #[.val (.ref a1), .val (.int ((1 : Int32) + (1 : Int32))), .val (.int (2 : Int32)), .val (.ref b), .val (.int ((1 : Int32) + (1 : Int32)))] [])) (fun t_ k_ => (st21 _ (XS.iinc X21.here hx rfl (Jvm.hb hby own_d_jdk_52_method_14_code_23) rfl (l' := #[.val (.ref a1), .val (.int ((1 : Int32) + (1 : Int32))), .val (.int (2 : Int32)), .val (.ref b), .val (.int (1 : Int32))]) rfl (XS.iinc X21.here hx rfl (Jvm.hb hby own_d_jdk_52_method_14_code_26) rfl (l' := #[.val (.ref a1), .val (.int ((1 : Int32) + (1 : Int32))), .val (.int (2 : Int32)), .val (.ref b), .val (.int ((1 : Int32) + (1 : Int32)))]) rfl k_)))) ?_
  try rw [(by decide : ((1 : Int32) + (1 : Int32)) = (2 : Int32))]
  try rw [(by decide : ((1 : Int32) + (1 : Int32)) = (2 : Int32))]
  refine own_of (T' := T21) (f' := (mkF m 33 #[.val (.ref a1), .val (.int (2 : Int32)), .val (.int (2 : Int32)), .val (.ref b), .val (.int (2 : Int32))] [(.ref b)])) (fun t_ k_ => (XS.goto X21.here hx rfl (pc0 := 29) (pc' := 8) rfl (Jvm.hb hby own_d_jdk_52_method_14_code_29) (by decide) (by decide) (XS.iload X21.here hx rfl (Jvm.hb hby own_d_jdk_52_method_14_code_8) rfl (XS.iloadN X21.here hx rfl (Jvm.hb hby own_d_jdk_52_method_14_code_10) rfl (XS.icmpYes X21.here hx rfl (pc0 := 11) (pc' := 32) rfl (Jvm.hb hby own_d_jdk_52_method_14_code_11) rfl (flt (by decide)).2.1 (by decide) (by decide) (XS.aloadN X21.here hx rfl (Jvm.hb hby own_d_jdk_52_method_14_code_32) rfl rfl k_)))))) ?_
  obtain ⟨fs, hr, hrun, hended, hW, hsame⟩ := X21.leave (v := some (.ref b)) (fun h => by rw [Bd.returns] at h; cases h)
  exact ⟨_, _, own_retA X21 hx Bd.returns rfl rfl rfl (Jvm.hb hby own_d_jdk_52_method_14_code_33) hr, hrun, hended, _, _, rfl, (by show own_Q_tob2 Z a1 0 (2 : Int32) c0 c1 kc h0 n0 _ T21.heap _; exact ⟨b, kb, rfl, N22, f23, sz_b, f29, Vb2⟩), ⟨_, rfl⟩, hW, hsame.mono (by decide) (by decide)⟩
theorem own_ef_cp5_2 (m : MethodId) (a1 : Addr) (p2 : Int32) (a3 : Addr) (p4 : Int32) (p5 : Int32) : entryFrame m #[(.ref a1), (.int p2), (.ref a3), (.int p4), (.int p5)] 7 = mkF m 0 #[.val (.ref a1), .val (.int p2), .val (.ref a3), .val (.int p4), .val (.int p5), .unset, .unset] [] := by first | (simp [entryFrame, mkF, argsToLocals, Value.category]; done) | rfl
def own_Q_cp5_2 (Z : State) (a1 : Addr) (p2 : Int32) (a3 : Addr) (p4 : Int32) (p5 : Int32) (c0 c1 : Int32) (kc kd : ClassId) (h0 : Heap) (n0 : Nat) (v : Option Value) (h : Heap) (L : List Loc) : Prop := Fr n0 L ∧ Keep h0 h [a3] ∧ ((v = some (.int (0 : Int32)) ∧ (255 : Int32) < c0) ∨ (v = some (.int (1 : Int32)) ∧ (255 : Int32) < c1))
set_option maxRecDepth 65536 in
set_option maxHeartbeats 40000000 in
theorem own_rm_cp5_2 (l : Launch) (Z : State) (a0 : Array Value) (hw : ∀ d ∈ tables_1, d.before a0 Z = true) (ws : List Jvm.Cond) (a1 : Addr) (p2 : Int32) (a3 : Addr) (p4 : Int32) (p5 : Int32) (c0 c1 : Int32) (kc kd : ClassId) (h0 : Heap) (n0 : Nat) (Z0 : n0 ≤ h0.size) (Vc : Arv Z h0 a1 kc .char (2 : Int32) [(.int c0), (.int c1)] (.int 0)) (Vd : Arv Z h0 a3 kd .byte (2 : Int32) [(.int (0 : Int32)), (.int (0 : Int32))] (.int 0)) (ne13 : a1 ≠ a3) (g_a3 : n0 ≤ a3) (E3 : Exa Z h0 a3 "[B") (hp2 : p2 = 0) (hp4 : p4 = 0) (hp5 : p5 = (2 : Int32)) (hwd : (255 : Int32) < c0 ∨ (255 : Int32) < c1) :
    MetFree l (⟨"java/lang/StringUTF16", "compress", "([CI[BII)I"⟩ : MethodName) (head1 (Jvm.Cond.code (⟨"java/lang/StringUTF16", "compress", "([CI[BII)I"⟩ : MethodName) jdk_52_method_21_code 7 (some .int) :: ws) ({ frames := 0, cells := 0, slots := 0, locals := 0 } : Room)) (fun a U => a = #[(.ref a1), (.int p2), (.ref a3), (.int p4), (.int p5)] ∧ Z.Warmed39 U.vm ∧ U.heap = h0) (fun _ _ _ _ _ => True) (fun _ U o U' => ∃ v L, o = .returned v ∧ own_Q_cp5_2 Z a1 p2 a3 p4 p5 c0 c1 kc kd h0 n0 v U'.heap L ∧ FrameEnd U o U' L ({ frames := 0, cells := 0, slots := 0, locals := 0 } : Room).cells ({ frames := 0, cells := 0, slots := 0, locals := 0 } : Room).slots) := by
  refine MetFree.of_bodySF (plainFor_of_name own_pn_0) hisR ?_
  intro p e s m args below meth c s₁ Bd hml0 hP hK
  obtain ⟨rfl, hZ, hh⟩ := hP
  have hx := Bd.exec
  have hby := Bd.bytes
  have hml : c.maxLocals = 7 := hml0
  have hown : s.vm.findClass "java/lang/StringUTF16" = some m.cls := findClass_of_methodNamed Bd.named
  have hnm := (name_of_methodNamed Bd.named Bd.method).1
  have X0 : Stand p l e ({ frames := 0, cells := 0, slots := 0, locals := 0 } : Room) s m #[(.ref a1), (.int p2), (.ref a3), (.int p4), (.int p5)] below meth c s₁ [] 0 0 := Stand.of_body Bd
  have e0 : s₁.heap = h0 := by rw [← hh, Bd.state]; rfl
  have N0 := Fr.nil n0
  refine own_start (own_ef_cp5_2 m a1 p2 a3 p4 p5 ) ?_
  subst hp2 hp4 hp5
  have K0 : Keep h0 h0 [a3] := Keep.refl _ _
  refine own_of (T' := s₁) (f' := (mkF m 12 #[.val (.ref a1), .val (.int (0 : Int32)), .val (.ref a3), .val (.int (0 : Int32)), .val (.int (2 : Int32)), .val (.int (0 : Int32)), .unset] [(.int (0 : Int32)), (.ref a1)])) (fun t_ k_ => (XS.iconst X0.here hx rfl (Jvm.hb hby own_d_jdk_52_method_21_code_0) (XS.istore X0.here hx rfl (Jvm.hb hby own_d_jdk_52_method_21_code_1) rfl (l' := #[.val (.ref a1), .val (.int (0 : Int32)), .val (.ref a3), .val (.int (0 : Int32)), .val (.int (2 : Int32)), .val (.int (0 : Int32)), .unset]) rfl (XS.iload X0.here hx rfl (Jvm.hb hby own_d_jdk_52_method_21_code_3) rfl (XS.iload X0.here hx rfl (Jvm.hb hby own_d_jdk_52_method_21_code_5) rfl (XS.icmpNo X0.here hx rfl (Jvm.hb hby own_d_jdk_52_method_21_code_7) rfl (tlt (by decide)).2.1 (XS.aloadN X0.here hx rfl (Jvm.hb hby own_d_jdk_52_method_21_code_10) rfl rfl (XS.iloadN X0.here hx rfl (Jvm.hb hby own_d_jdk_52_method_21_code_11) rfl k_)))))))) ?_
  obtain ⟨cl1, Ar1, qq1, Sz1, Nn1, Hh1, Gg1⟩ := id Vc
  have hin1 : ¬ ((0 : Int32) < 0 ∨ cl1.slots.size ≤ ((0 : Int32)).toNatClampNeg) := inb_of Sz1 ⟨by decide, by decide⟩
  refine own_of (T' := s₁) (f' := (mkF m 20 #[.val (.ref a1), .val (.int (0 : Int32)), .val (.ref a3), .val (.int (0 : Int32)), .val (.int (2 : Int32)), .val (.int (0 : Int32)), .val (.int c0)] [(.int (255 : Int32)), (.int c0)])) (fun t_ k_ => (X0.caload hx (j := (0 : Int32)) (v := (.int c0)) (by first | (rw [e0]; exact Ar1.1) | exact Ar1.1) (State.isArrayOf_alike hZ.alike Ar1.2.1) Ar1.2.2 hin1 (Hh1.at hin1 rfl) (g := (mkF m 12 #[.val (.ref a1), .val (.int (0 : Int32)), .val (.ref a3), .val (.int (0 : Int32)), .val (.int (2 : Int32)), .val (.int (0 : Int32)), .unset] [(.int (0 : Int32)), (.ref a1)])) rfl rfl (Jvm.hb hby own_d_jdk_52_method_21_code_12) _ (XS.istore X0.here hx rfl (Jvm.hb hby own_d_jdk_52_method_21_code_13) rfl (l' := #[.val (.ref a1), .val (.int (0 : Int32)), .val (.ref a3), .val (.int (0 : Int32)), .val (.int (2 : Int32)), .val (.int (0 : Int32)), .val (.int c0)]) rfl (XS.iload X0.here hx rfl (Jvm.hb hby own_d_jdk_52_method_21_code_15) rfl (XS.sipush X0.here hx rfl (Jvm.hb hby own_d_jdk_52_method_21_code_17) k_))))) ?_
  by_cases hc20_2 : ((255 : Int32) < c0)
  · skip
    refine own_of (T' := s₁) (f' := (mkF m 25 #[.val (.ref a1), .val (.int (0 : Int32)), .val (.ref a3), .val (.int (0 : Int32)), .val (.int (2 : Int32)), .val (.int (0 : Int32)), .val (.int c0)] [(.int (0 : Int32))])) (fun t_ k_ => (XS.icmpNo X0.here hx rfl (Jvm.hb hby own_d_jdk_52_method_21_code_20) rfl (tlt hc20_2).2.2.2 (XS.iload X0.here hx rfl (Jvm.hb hby own_d_jdk_52_method_21_code_23) rfl k_))) ?_
    obtain ⟨fs, hr, hrun, hended, hW, hsame⟩ := X0.leave (v := some (.int (0 : Int32))) (fun h => by rw [Bd.returns] at h; cases h)
    exact ⟨_, _, own_retI X0 hx Bd.returns (Jvm.hb hby own_d_jdk_52_method_21_code_25) hr, hrun, hended, _, _, rfl, (by show own_Q_cp5_2 Z a1 0 a3 0 (2 : Int32) c0 c1 kc kd h0 n0 _ s₁.heap _; rw [e0]; exact ⟨N0, K0, Or.inl ⟨rfl, hc20_2⟩⟩), ⟨_, rfl⟩, hW, hsame.mono (by decide) (by decide)⟩
  · skip
    refine own_of (T' := s₁) (f' := (mkF m 31 #[.val (.ref a1), .val (.int (0 : Int32)), .val (.ref a3), .val (.int (0 : Int32)), .val (.int (2 : Int32)), .val (.int (0 : Int32)), .val (.int c0)] [(.int (c0.toInt8.toInt32)), (.int (0 : Int32)), (.ref a3)])) (fun t_ k_ => (XS.icmpYes X0.here hx rfl (pc0 := 20) (pc' := 26) rfl (Jvm.hb hby own_d_jdk_52_method_21_code_20) rfl (flt hc20_2).2.2.2 (by decide) (by decide) (XS.aloadN X0.here hx rfl (Jvm.hb hby own_d_jdk_52_method_21_code_26) rfl rfl (XS.iloadN X0.here hx rfl (Jvm.hb hby own_d_jdk_52_method_21_code_27) rfl (XS.iload X0.here hx rfl (Jvm.hb hby own_d_jdk_52_method_21_code_28) rfl (XS.i2b X0.here hx rfl (Jvm.hb hby own_d_jdk_52_method_21_code_30) rfl k_)))))) ?_
    obtain ⟨cl3, Ar3, qq3, Sz3, Nn3, Hh3, Gg3⟩ := id Vd
    have hin3 : ¬ ((0 : Int32) < 0 ∨ cl3.slots.size ≤ ((0 : Int32)).toNatClampNeg) := inb_of Sz3 ⟨by decide, by decide⟩
    obtain ⟨T4, h4, X4, e4, W4, st4⟩ := stB X0 hx hZ e0 Ar3 (j := (0 : Int32)) hin3 (g := (mkF m 31 #[.val (.ref a1), .val (.int (0 : Int32)), .val (.ref a3), .val (.int (0 : Int32)), .val (.int (2 : Int32)), .val (.int (0 : Int32)), .val (.int c0)] [(.int (c0.toInt8.toInt32)), (.int (0 : Int32)), (.ref a3)])) rfl rfl (Jvm.hb hby own_d_jdk_52_method_21_code_31)
    refine own_of (T' := T4) (f' := (mkF m 32 #[.val (.ref a1), .val (.int (0 : Int32)), .val (.ref a3), .val (.int (0 : Int32)), .val (.int (2 : Int32)), .val (.int (0 : Int32)), .val (.int c0)] [])) (fun t_ k_ => (st4 _ k_)) ?_
    have f5 := Arv.set Ar3 qq3 Sz3 Nn3 Hh3 Gg3 (fits_nar_byte _) W4 0 rfl (Nat.le_of_ble_eq_true rfl)
    have N4 := Fr.snoc X4 N0 g_a3
    have f6 := K0.wr W4 (Or.inl (List.mem_of_getElem? (i := 0) rfl))
    have f7 := Nat.le_trans Z0 (Keep.of_wr W4).1
    have f8 := E3.wr W4
    have f9 := Vc.other W4 ne13
    refine own_of (T' := T4) (f' := (mkF m 41 #[.val (.ref a1), .val (.int ((0 : Int32) + (1 : Int32))), .val (.ref a3), .val (.int ((0 : Int32) + (1 : Int32))), .val (.int (2 : Int32)), .val (.int ((0 : Int32) + (1 : Int32))), .val (.int c0)] [])) (fun t_ k_ => (XS.iinc X4.here hx rfl (Jvm.hb hby own_d_jdk_52_method_21_code_32) rfl (l' := #[.val (.ref a1), .val (.int ((0 : Int32) + (1 : Int32))), .val (.ref a3), .val (.int (0 : Int32)), .val (.int (2 : Int32)), .val (.int (0 : Int32)), .val (.int c0)]) rfl (XS.iinc X4.here hx rfl (Jvm.hb hby own_d_jdk_52_method_21_code_35) rfl (l' := #[.val (.ref a1), .val (.int ((0 : Int32) + (1 : Int32))), .val (.ref a3), .val (.int ((0 : Int32) + (1 : Int32))), .val (.int (2 : Int32)), .val (.int (0 : Int32)), .val (.int c0)]) rfl (XS.iinc X4.here hx rfl (Jvm.hb hby own_d_jdk_52_method_21_code_38) rfl (l' := #[.val (.ref a1), .val (.int ((0 : Int32) + (1 : Int32))), .val (.ref a3), .val (.int ((0 : Int32) + (1 : Int32))), .val (.int (2 : Int32)), .val (.int ((0 : Int32) + (1 : Int32))), .val (.int c0)]) rfl k_)))) ?_
    try rw [(by decide : ((0 : Int32) + (1 : Int32)) = (1 : Int32))]
    try rw [(by decide : ((0 : Int32) + (1 : Int32)) = (1 : Int32))]
    try rw [(by decide : ((0 : Int32) + (1 : Int32)) = (1 : Int32))]
    refine own_of (T' := T4) (f' := (mkF m 12 #[.val (.ref a1), .val (.int (1 : Int32)), .val (.ref a3), .val (.int (1 : Int32)), .val (.int (2 : Int32)), .val (.int (1 : Int32)), .val (.int c0)] [(.int (1 : Int32)), (.ref a1)])) (fun t_ k_ => (XS.goto X4.here hx rfl (pc0 := 41) (pc' := 3) rfl (Jvm.hb hby own_d_jdk_52_method_21_code_41) (by decide) (by decide) (XS.iload X4.here hx rfl (Jvm.hb hby own_d_jdk_52_method_21_code_3) rfl (XS.iload X4.here hx rfl (Jvm.hb hby own_d_jdk_52_method_21_code_5) rfl (XS.icmpNo X4.here hx rfl (Jvm.hb hby own_d_jdk_52_method_21_code_7) rfl (tlt (by decide)).2.1 (XS.aloadN X4.here hx rfl (Jvm.hb hby own_d_jdk_52_method_21_code_10) rfl rfl (XS.iloadN X4.here hx rfl (Jvm.hb hby own_d_jdk_52_method_21_code_11) rfl k_))))))) ?_
    obtain ⟨cl11, Ar11, qq11, Sz11, Nn11, Hh11, Gg11⟩ := id f9
    have hin11 : ¬ ((1 : Int32) < 0 ∨ cl11.slots.size ≤ ((1 : Int32)).toNatClampNeg) := inb_of Sz11 ⟨by decide, by decide⟩
    refine own_of (T' := T4) (f' := (mkF m 20 #[.val (.ref a1), .val (.int (1 : Int32)), .val (.ref a3), .val (.int (1 : Int32)), .val (.int (2 : Int32)), .val (.int (1 : Int32)), .val (.int c1)] [(.int (255 : Int32)), (.int c1)])) (fun t_ k_ => (X4.caload hx (j := (1 : Int32)) (v := (.int c1)) (by first | (rw [e4]; exact Ar11.1) | exact Ar11.1) (State.isArrayOf_alike hZ.alike Ar11.2.1) Ar11.2.2 hin11 (Hh11.at hin11 rfl) (g := (mkF m 12 #[.val (.ref a1), .val (.int (1 : Int32)), .val (.ref a3), .val (.int (1 : Int32)), .val (.int (2 : Int32)), .val (.int (1 : Int32)), .val (.int c0)] [(.int (1 : Int32)), (.ref a1)])) rfl rfl (Jvm.hb hby own_d_jdk_52_method_21_code_12) _ (XS.istore X4.here hx rfl (Jvm.hb hby own_d_jdk_52_method_21_code_13) rfl (l' := #[.val (.ref a1), .val (.int (1 : Int32)), .val (.ref a3), .val (.int (1 : Int32)), .val (.int (2 : Int32)), .val (.int (1 : Int32)), .val (.int c1)]) rfl (XS.iload X4.here hx rfl (Jvm.hb hby own_d_jdk_52_method_21_code_15) rfl (XS.sipush X4.here hx rfl (Jvm.hb hby own_d_jdk_52_method_21_code_17) k_))))) ?_
    by_cases hc20_12 : ((255 : Int32) < c1)
    · skip
      refine own_of (T' := T4) (f' := (mkF m 25 #[.val (.ref a1), .val (.int (1 : Int32)), .val (.ref a3), .val (.int (1 : Int32)), .val (.int (2 : Int32)), .val (.int (1 : Int32)), .val (.int c1)] [(.int (1 : Int32))])) (fun t_ k_ => (XS.icmpNo X4.here hx rfl (Jvm.hb hby own_d_jdk_52_method_21_code_20) rfl (tlt hc20_12).2.2.2 (XS.iload X4.here hx rfl (Jvm.hb hby own_d_jdk_52_method_21_code_23) rfl k_))) ?_
      obtain ⟨fs, hr, hrun, hended, hW, hsame⟩ := X4.leave (v := some (.int (1 : Int32))) (fun h => by rw [Bd.returns] at h; cases h)
      exact ⟨_, _, own_retI X4 hx Bd.returns (Jvm.hb hby own_d_jdk_52_method_21_code_25) hr, hrun, hended, _, _, rfl, (by show own_Q_cp5_2 Z a1 0 a3 0 (2 : Int32) c0 c1 kc kd h0 n0 _ T4.heap _; rw [e4]; exact ⟨N4, f6, Or.inr (⟨rfl, hc20_12⟩)⟩), ⟨_, rfl⟩, hW, hsame.mono (by decide) (by decide)⟩
    · skip
      refine own_of (T' := T4) (f' := (mkF m 31 #[.val (.ref a1), .val (.int (1 : Int32)), .val (.ref a3), .val (.int (1 : Int32)), .val (.int (2 : Int32)), .val (.int (1 : Int32)), .val (.int c1)] [(.int (c1.toInt8.toInt32)), (.int (1 : Int32)), (.ref a3)])) (fun t_ k_ => (XS.icmpYes X4.here hx rfl (pc0 := 20) (pc' := 26) rfl (Jvm.hb hby own_d_jdk_52_method_21_code_20) rfl (flt hc20_12).2.2.2 (by decide) (by decide) (XS.aloadN X4.here hx rfl (Jvm.hb hby own_d_jdk_52_method_21_code_26) rfl rfl (XS.iloadN X4.here hx rfl (Jvm.hb hby own_d_jdk_52_method_21_code_27) rfl (XS.iload X4.here hx rfl (Jvm.hb hby own_d_jdk_52_method_21_code_28) rfl (XS.i2b X4.here hx rfl (Jvm.hb hby own_d_jdk_52_method_21_code_30) rfl k_)))))) ?_
      obtain ⟨cl13, Ar13, qq13, Sz13, Nn13, Hh13, Gg13⟩ := id f5
      have hin13 : ¬ ((1 : Int32) < 0 ∨ cl13.slots.size ≤ ((1 : Int32)).toNatClampNeg) := inb_of Sz13 ⟨by decide, by decide⟩
      obtain ⟨T14, h14, X14, e14, W14, st14⟩ := stB X4 hx hZ e4 Ar13 (j := (1 : Int32)) hin13 (g := (mkF m 31 #[.val (.ref a1), .val (.int (1 : Int32)), .val (.ref a3), .val (.int (1 : Int32)), .val (.int (2 : Int32)), .val (.int (1 : Int32)), .val (.int c1)] [(.int (c1.toInt8.toInt32)), (.int (1 : Int32)), (.ref a3)])) rfl rfl (Jvm.hb hby own_d_jdk_52_method_21_code_31)
      refine own_of (T' := T14) (f' := (mkF m 32 #[.val (.ref a1), .val (.int (1 : Int32)), .val (.ref a3), .val (.int (1 : Int32)), .val (.int (2 : Int32)), .val (.int (1 : Int32)), .val (.int c1)] [])) (fun t_ k_ => (st14 _ k_)) ?_
      have f15 := Arv.set Ar13 qq13 Sz13 Nn13 Hh13 Gg13 (fits_nar_byte _) W14 1 rfl (Nat.le_of_ble_eq_true rfl)
      have N14 := Fr.snoc X14 N4 g_a3
      have f16 := f6.wr W14 (Or.inl (List.mem_of_getElem? (i := 0) rfl))
      have f17 := Nat.le_trans f7 (Keep.of_wr W14).1
      have f18 := f8.wr W14
      have f19 := f9.other W14 ne13
      refine own_of (T' := T14) (f' := (mkF m 41 #[.val (.ref a1), .val (.int ((1 : Int32) + (1 : Int32))), .val (.ref a3), .val (.int ((1 : Int32) + (1 : Int32))), .val (.int (2 : Int32)), .val (.int ((1 : Int32) + (1 : Int32))), .val (.int c1)] [])) (fun t_ k_ => (XS.iinc X14.here hx rfl (Jvm.hb hby own_d_jdk_52_method_21_code_32) rfl (l' := #[.val (.ref a1), .val (.int ((1 : Int32) + (1 : Int32))), .val (.ref a3), .val (.int (1 : Int32)), .val (.int (2 : Int32)), .val (.int (1 : Int32)), .val (.int c1)]) rfl (XS.iinc X14.here hx rfl (Jvm.hb hby own_d_jdk_52_method_21_code_35) rfl (l' := #[.val (.ref a1), .val (.int ((1 : Int32) + (1 : Int32))), .val (.ref a3), .val (.int ((1 : Int32) + (1 : Int32))), .val (.int (2 : Int32)), .val (.int (1 : Int32)), .val (.int c1)]) rfl (XS.iinc X14.here hx rfl (Jvm.hb hby own_d_jdk_52_method_21_code_38) rfl (l' := #[.val (.ref a1), .val (.int ((1 : Int32) + (1 : Int32))), .val (.ref a3), .val (.int ((1 : Int32) + (1 : Int32))), .val (.int (2 : Int32)), .val (.int ((1 : Int32) + (1 : Int32))), .val (.int c1)]) rfl k_)))) ?_
      try rw [(by decide : ((1 : Int32) + (1 : Int32)) = (2 : Int32))]
      try rw [(by decide : ((1 : Int32) + (1 : Int32)) = (2 : Int32))]
      try rw [(by decide : ((1 : Int32) + (1 : Int32)) = (2 : Int32))]
      refine own_of (T' := T14) (f' := (mkF m 7 #[.val (.ref a1), .val (.int (2 : Int32)), .val (.ref a3), .val (.int (2 : Int32)), .val (.int (2 : Int32)), .val (.int (2 : Int32)), .val (.int c1)] [(.int (2 : Int32)), (.int (2 : Int32))])) (fun t_ k_ => (XS.goto X14.here hx rfl (pc0 := 41) (pc' := 3) rfl (Jvm.hb hby own_d_jdk_52_method_21_code_41) (by decide) (by decide) (XS.iload X14.here hx rfl (Jvm.hb hby own_d_jdk_52_method_21_code_3) rfl (XS.iload X14.here hx rfl (Jvm.hb hby own_d_jdk_52_method_21_code_5) rfl k_)))) ?_
      exact absurd hwd (by simp only [hc20_2, hc20_12, or_self, not_false_eq_true])
theorem own_ef_cp3_2 (m : MethodId) (a1 : Addr) (p2 : Int32) (p3 : Int32) : entryFrame m #[(.ref a1), (.int p2), (.int p3)] 6 = mkF m 0 #[.val (.ref a1), .val (.int p2), .val (.int p3), .unset, .unset, .unset] [] := by first | (simp [entryFrame, mkF, argsToLocals, Value.category]; done) | rfl
def own_Q_cp3_2 (Z : State) (a1 : Addr) (p2 : Int32) (p3 : Int32) (c0 c1 : Int32) (kc : ClassId) (h0 : Heap) (n0 : Nat) (v : Option Value) (h : Heap) (L : List Loc) : Prop := ∃ b k, v = some (.ref b) ∧ Fr n0 L ∧ Keep h0 h [] ∧ h0.size ≤ b ∧ Exa Z h b "[B" ∧ Arv Z h b k .byte (4 : Int32) [(.int (StrChars.lo8 c0)), (.int (StrChars.hi8 c0)), (.int (StrChars.lo8 c1)), (.int (StrChars.hi8 c1))] (.int 0)
set_option maxRecDepth 65536 in
set_option maxHeartbeats 40000000 in
theorem own_rm_cp3_2 (l : Launch) (Z : State) (a0 : Array Value) (hw : ∀ d ∈ tables_1, d.before a0 Z = true) (ws : List Jvm.Cond) (a1 : Addr) (p2 : Int32) (p3 : Int32) (c0 c1 : Int32) (kc : ClassId) (h0 : Heap) (n0 : Nat) (Z0 : n0 ≤ h0.size) (S1 : Sta Z h0 "java/lang/StringUTF16" "$assertionsDisabled" "Z" (.int 1)) (S2 : Sta Z h0 "java/lang/StringUTF16" "HI_BYTE_SHIFT" "I" (.int 0)) (S3 : Sta Z h0 "java/lang/StringUTF16" "LO_BYTE_SHIFT" "I" (.int 8)) (Vc : Arv Z h0 a1 kc .char (2 : Int32) [(.int c0), (.int c1)] (.int 0)) (hp2 : p2 = 0) (hp3 : p3 = (2 : Int32)) (hr : ∀ c ∈ ([c0, c1] : List Int32), ¬ c < 0 ∧ ¬ (65535 : Int32) < c) (hwd : (255 : Int32) < c0 ∨ (255 : Int32) < c1) :
    MetFree l (⟨"java/lang/StringUTF16", "compress", "([CII)[B"⟩ : MethodName) (head1 (Jvm.Cond.code (⟨"java/lang/StringUTF16", "compress", "([CII)[B"⟩ : MethodName) jdk_52_method_16_code 6 (some (.array .byte)) :: ws) ({ frames := 3, cells := 2, slots := 6, locals := 40 } : Room)) (fun a U => a = #[(.ref a1), (.int p2), (.int p3)] ∧ Z.Warmed39 U.vm ∧ U.heap = h0) (fun _ _ _ _ _ => True) (fun _ U o U' => ∃ v L, o = .returned v ∧ own_Q_cp3_2 Z a1 p2 p3 c0 c1 kc h0 n0 v U'.heap L ∧ FrameEnd U o U' L ({ frames := 3, cells := 2, slots := 6, locals := 40 } : Room).cells ({ frames := 3, cells := 2, slots := 6, locals := 40 } : Room).slots) := by
  refine MetFree.of_bodySF (plainFor_of_name own_pn_0) hisR ?_
  intro p e s m args below meth c s₁ Bd hml0 hP hK
  obtain ⟨rfl, hZ, hh⟩ := hP
  have hx := Bd.exec
  have hby := Bd.bytes
  have hml : c.maxLocals = 6 := hml0
  have hown : s.vm.findClass "java/lang/StringUTF16" = some m.cls := findClass_of_methodNamed Bd.named
  have hnm := (name_of_methodNamed Bd.named Bd.method).1
  have X0 : Stand p l e ({ frames := 3, cells := 2, slots := 6, locals := 40 } : Room) s m #[(.ref a1), (.int p2), (.int p3)] below meth c s₁ [] 0 0 := Stand.of_body Bd
  have e0 : s₁.heap = h0 := by rw [← hh, Bd.state]; rfl
  have N0 := Fr.nil n0
  refine own_start (own_ef_cp3_2 m a1 p2 p3 ) ?_
  subst hp2 hp3
  have K0 : Keep h0 h0 [] := Keep.refl _ _
  refine own_of (T' := s₁) (f' := (mkF m 1 #[.val (.ref a1), .val (.int (0 : Int32)), .val (.int (2 : Int32)), .unset, .unset, .unset] [(.int (2 : Int32))])) (fun t_ k_ => (XS.iloadN X0.here hx rfl (Jvm.hb hby own_d_jdk_52_method_16_code_0) rfl k_)) ?_
  obtain ⟨T1, h1, k1, X1, e1, E1, A1, Ex1, st1⟩ := newPE X0 hx hZ (hw _ (List.mem_of_getElem? (i := 20) rfl)) e0 (g := (mkF m 1 #[.val (.ref a1), .val (.int (0 : Int32)), .val (.int (2 : Int32)), .unset, .unset, .unset] [(.int (2 : Int32))])) rfl (Jvm.hb hby own_d_jdk_52_method_16_code_1) rfl (by decide) (cap := 2) (by decide) (by decide) (by decide) (by decide) (ad := "[B") (by decide)
  obtain ⟨bb, g1⟩ : ∃ z, z = h0.size := ⟨_, rfl⟩
  rw [← g1] at A1 Ex1 st1
  have ne_a1_bb : a1 ≠ bb := by rw [g1]; exact Nat.ne_of_lt Vc.lt
  have g_bb : n0 ≤ bb := Nat.le_trans Z0 (Nat.le_of_eq g1.symm)
  have sz_bb : h0.size ≤ bb := Nat.le_trans K0.1 (Nat.le_of_eq g1.symm)
  have f2 := K0.ext E1
  have f3 := Nat.le_trans Z0 E1.1
  have f4 := S1.ext E1
  have f5 := S2.ext E1
  have f6 := S3.ext E1
  have f7 := Vc.ext E1
  have f8 : Arv Z h1 bb k1 .byte (2 : Int32) [(.int (0 : Int32)), (.int (0 : Int32))] (.int (0 : Int32)) := (Arv.new A1 (by decide)).pad (pad_rep [] (.int (0 : Int32)) 2)
  refine own_of (T' := T1) (f' := (mkF m 9 #[.val (.ref a1), .val (.int (0 : Int32)), .val (.int (2 : Int32)), .val (.ref bb), .unset, .unset] [(.int (2 : Int32)), (.int (0 : Int32)), (.ref bb), (.int (0 : Int32)), (.ref a1)])) (fun t_ k_ => (st1 _ (XS.astoreN X1.here hx rfl (Jvm.hb hby own_d_jdk_52_method_16_code_3) rfl rfl (l' := #[.val (.ref a1), .val (.int (0 : Int32)), .val (.int (2 : Int32)), .val (.ref bb), .unset, .unset]) rfl (XS.aloadN X1.here hx rfl (Jvm.hb hby own_d_jdk_52_method_16_code_4) rfl rfl (XS.iloadN X1.here hx rfl (Jvm.hb hby own_d_jdk_52_method_16_code_5) rfl (XS.aloadN X1.here hx rfl (Jvm.hb hby own_d_jdk_52_method_16_code_6) rfl rfl (XS.iconst X1.here hx rfl (Jvm.hb hby own_d_jdk_52_method_16_code_7) (XS.iloadN X1.here hx rfl (Jvm.hb hby own_d_jdk_52_method_16_code_8) rfl k_)))))))) ?_
  obtain ⟨_, _, ⟨T9, L9, k9, n9⟩, -, X9, ⟨Lc9, hQ9, l9, y9, z9⟩, st9⟩ := Jvm.LawKit.callS X1 hx (y := (⟨"java/lang/StringUTF16", "compress", "([CI[BII)I"⟩ : MethodName)) hown (mvT hZ (hw _ (List.mem_of_getElem? (i := 21) rfl))) (mvT hZ (hw _ (List.mem_of_getElem? (i := 22) rfl))) (mvT hZ (hw _ (List.mem_of_getElem? (i := 18) rfl))) (mvT hZ (hw _ (List.mem_of_getElem? (i := 23) rfl))) (by decide) (backOf (W := 0) (own_rm_cp5_2 l Z a0 hw [] a1 (0 : Int32) bb (0 : Int32) (2 : Int32) c0 c1 kc k1 h1 n0 f3 f7 f8 ne_a1_bb g_bb Ex1 rfl rfl rfl hwd) hZ (hw _ (List.mem_of_getElem? (i := 23) rfl)) (hw _ (List.mem_of_getElem? (i := 18) rfl)) (by decide) (by decide)) (g := (mkF m 9 #[.val (.ref a1), .val (.int (0 : Int32)), .val (.int (2 : Int32)), .val (.ref bb), .unset, .unset] [(.int (2 : Int32)), (.int (0 : Int32)), (.ref bb), (.int (0 : Int32)), (.ref a1)])) rfl (by rw [hml]; rfl) (argsL := [(.ref a1), (.int (0 : Int32)), (.ref bb), (.int (0 : Int32)), (.int (2 : Int32))]) (rest := []) (lenOf own_pd_3 rfl) rfl (by show 2 * 0 + _ ≤ _; exact Nat.le_of_eq rfl) (Jvm.hb hby own_d_jdk_52_method_16_code_9) (fun _ _ => ⟨rfl, e1, Nat.le_of_ble_eq_true rfl, Nat.le_of_ble_eq_true rfl⟩)
  dsimp only [Pt.U, Pt.locs, Pt.cells, Pt.slots] at X9 l9 y9 z9 st9 hQ9
  subst l9 y9 z9
  obtain ⟨N9, K9, hj9⟩ := hQ9
  have N10 := Fr.app N0 N9
  have f11 := f2.trans K9 (allS (Or.inr sz_bb) all0)
  have f12 := Nat.le_trans f3 K9.1
  have f13 := own_stakeep f4 K9 (allS (own_plainE Ex1) all0)
  have f14 := own_stakeep f5 K9 (allS (own_plainE Ex1) all0)
  have f15 := own_stakeep f6 K9 (allS (own_plainE Ex1) all0)
  have f16 := f7.keep K9 (ninS ne_a1_bb nin0)
  have f17 := Ex1.keep K9
  rcases hj9 with ⟨rfl, hj⟩ | ⟨rfl, hj⟩
  · skip
    refine own_of (T' := T9) (f' := (mkF m 23 #[.val (.ref a1), .val (.int (0 : Int32)), .val (.int (2 : Int32)), .val (.ref bb), .val (.int (0 : Int32)), .unset] [(.int (2 : Int32)), (.int (0 : Int32)), (.ref a1)])) (fun t_ k_ => (st9 _ (XS.istore X9.here hx rfl (Jvm.hb hby own_d_jdk_52_method_16_code_12) rfl (l' := #[.val (.ref a1), .val (.int (0 : Int32)), .val (.int (2 : Int32)), .val (.ref bb), .val (.int (0 : Int32)), .unset]) rfl (XS.iload X9.here hx rfl (Jvm.hb hby own_d_jdk_52_method_16_code_14) rfl (XS.iloadN X9.here hx rfl (Jvm.hb hby own_d_jdk_52_method_16_code_16) rfl (XS.icmpNo X9.here hx rfl (Jvm.hb hby own_d_jdk_52_method_16_code_17) rfl (feq (by decide)).1 (XS.aloadN X9.here hx rfl (Jvm.hb hby own_d_jdk_52_method_16_code_20) rfl rfl (XS.iloadN X9.here hx rfl (Jvm.hb hby own_d_jdk_52_method_16_code_21) rfl (XS.iloadN X9.here hx rfl (Jvm.hb hby own_d_jdk_52_method_16_code_22) rfl k_))))))))) ?_
    obtain ⟨_, _, ⟨T19, L19, k19, n19⟩, -, X19, ⟨Lc19, hQ19, l19, y19, z19⟩, st19⟩ := Jvm.LawKit.callS X9 hx (y := (⟨"java/lang/StringUTF16", "toBytes", "([CII)[B"⟩ : MethodName)) hown (mvT hZ (hw _ (List.mem_of_getElem? (i := 98) rfl))) (mvT hZ (hw _ (List.mem_of_getElem? (i := 99) rfl))) (mvT hZ (hw _ (List.mem_of_getElem? (i := 18) rfl))) (mvT hZ (hw _ (List.mem_of_getElem? (i := 100) rfl))) (by decide) (backOf (W := 0) (own_rm_tob2 l Z a0 hw [] a1 (0 : Int32) (2 : Int32) c0 c1 kc T9.heap n0 f12 f13 f14 f15 f16 rfl rfl) hZ (hw _ (List.mem_of_getElem? (i := 100) rfl)) (hw _ (List.mem_of_getElem? (i := 18) rfl)) (by decide) (by decide)) (g := (mkF m 23 #[.val (.ref a1), .val (.int (0 : Int32)), .val (.int (2 : Int32)), .val (.ref bb), .val (.int (0 : Int32)), .unset] [(.int (2 : Int32)), (.int (0 : Int32)), (.ref a1)])) rfl (by rw [hml]; rfl) (argsL := [(.ref a1), (.int (0 : Int32)), (.int (2 : Int32))]) (rest := []) (lenOf own_pd_4 rfl) rfl (by show 2 * 0 + _ ≤ _; exact Nat.le_of_eq rfl) (Jvm.hb hby own_d_jdk_52_method_16_code_23) (fun _ _ => ⟨rfl, rfl, Nat.le_of_ble_eq_true rfl, Nat.le_of_ble_eq_true rfl⟩)
    dsimp only [Pt.U, Pt.locs, Pt.cells, Pt.slots] at X19 l19 y19 z19 st19 hQ19
    subst l19 y19 z19
    obtain ⟨tb, kt, rfl, N19, K19, sztb, Etb, Vtb⟩ := hQ19
    have ne_a1_tb : a1 ≠ tb := Nat.ne_of_lt (Nat.lt_of_lt_of_le f16.lt sztb)
    have ne_bb_tb : bb ≠ tb := Nat.ne_of_lt (Nat.lt_of_lt_of_le f17.lt sztb)
    have g_tb : n0 ≤ tb := Nat.le_trans f12 sztb
    have sz_tb : h0.size ≤ tb := Nat.le_trans f11.1 sztb
    have N20 := Fr.app N10 N19
    have f21 := f11.trans K19 all0
    have f22 := Nat.le_trans f12 K19.1
    have f23 := own_stakeep f13 K19 all0
    have f24 := own_stakeep f14 K19 all0
    have f25 := own_stakeep f15 K19 all0
    have f26 := f16.keep K19 nin0
    have f27 := f17.keep K19
    refine own_of (T' := T19) (f' := (mkF m 32 #[.val (.ref a1), .val (.int (0 : Int32)), .val (.int (2 : Int32)), .val (.ref bb), .val (.int (0 : Int32)), .val (.ref tb)] [(.int (0 : Int32)), (.ref tb)])) (fun t_ k_ => (st19 _ (XS.astore X19.here hx rfl (Jvm.hb hby own_d_jdk_52_method_16_code_26) rfl rfl (l' := #[.val (.ref a1), .val (.int (0 : Int32)), .val (.int (2 : Int32)), .val (.ref bb), .val (.int (0 : Int32)), .val (.ref tb)]) rfl (XS.aload X19.here hx rfl (Jvm.hb hby own_d_jdk_52_method_16_code_28) rfl rfl (XS.iload X19.here hx rfl (Jvm.hb hby own_d_jdk_52_method_16_code_30) rfl k_))))) ?_
    obtain ⟨_, _, ⟨T28, L28, k28, n28⟩, -, X28, ⟨Lc28, hQ28, l28, y28, z28⟩, st28⟩ := Jvm.LawKit.callS X19 hx (y := (⟨"java/lang/StringUTF16", "getChar", "([BI)C"⟩ : MethodName)) hown (mvT hZ (hw _ (List.mem_of_getElem? (i := 114) rfl))) (mvT hZ (hw _ (List.mem_of_getElem? (i := 115) rfl))) (mvT hZ (hw _ (List.mem_of_getElem? (i := 18) rfl))) (mvT hZ (hw _ (List.mem_of_getElem? (i := 116) rfl))) (by decide) (backOf (W := 0) (own_rm_gch0 l Z a0 hw [] tb (0 : Int32) kt (4 : Int32) [(.int (StrChars.lo8 c0)), (.int (StrChars.hi8 c0)), (.int (StrChars.lo8 c1)), (.int (StrChars.hi8 c1))] c0 T19.heap n0 f22 f23 f24 f25 Vtb rfl (by decide) (by decide) rfl rfl (hr c0 (by simp))) hZ (hw _ (List.mem_of_getElem? (i := 116) rfl)) (hw _ (List.mem_of_getElem? (i := 18) rfl)) (by decide) (by decide)) (g := (mkF m 32 #[.val (.ref a1), .val (.int (0 : Int32)), .val (.int (2 : Int32)), .val (.ref bb), .val (.int (0 : Int32)), .val (.ref tb)] [(.int (0 : Int32)), (.ref tb)])) rfl (by rw [hml]; rfl) (argsL := [(.ref tb), (.int (0 : Int32))]) (rest := []) (lenOf own_pd_5 rfl) rfl (by show 2 * 0 + _ ≤ _; exact Nat.le_of_eq rfl) (Jvm.hb hby own_d_jdk_52_method_16_code_32) (fun _ _ => ⟨rfl, rfl, Nat.le_of_ble_eq_true rfl, Nat.le_of_ble_eq_true rfl⟩)
    dsimp only [Pt.U, Pt.locs, Pt.cells, Pt.slots] at X28 l28 y28 z28 st28 hQ28
    subst l28 y28 z28
    obtain ⟨rfl, N28, e28⟩ := hQ28
    have N29 := Fr.app N20 N28
    refine own_of (T' := T28) (f' := (mkF m 56 #[.val (.ref a1), .val (.int (0 : Int32)), .val (.int (2 : Int32)), .val (.ref bb), .val (.int (0 : Int32)), .val (.ref tb)] [(.ref tb)])) (fun t_ k_ => (st28 _ (XS.sipush X28.here hx rfl (Jvm.hb hby own_d_jdk_52_method_16_code_35) (XS.icmpYes X28.here hx rfl (pc0 := 38) (pc' := 54) rfl (Jvm.hb hby own_d_jdk_52_method_16_code_38) rfl (tlt hj).2.2.1 (by decide) (by decide) (XS.aload X28.here hx rfl (Jvm.hb hby own_d_jdk_52_method_16_code_54) rfl rfl k_))))) ?_
    obtain ⟨fs, hr, hrun, hended, hW, hsame⟩ := X28.leave (v := some (.ref tb)) (fun h => by rw [Bd.returns] at h; cases h)
    exact ⟨_, _, own_retA X28 hx Bd.returns rfl rfl rfl (Jvm.hb hby own_d_jdk_52_method_16_code_56) hr, hrun, hended, _, _, rfl, (by show own_Q_cp3_2 Z a1 0 (2 : Int32) c0 c1 kc h0 n0 _ T28.heap _; rw [e28]; exact ⟨tb, kt, rfl, N29, f21, sz_tb, Etb, Vtb⟩), ⟨_, rfl⟩, hW, hsame.mono (by decide) (by decide)⟩
  · skip
    refine own_of (T' := T9) (f' := (mkF m 23 #[.val (.ref a1), .val (.int (0 : Int32)), .val (.int (2 : Int32)), .val (.ref bb), .val (.int (1 : Int32)), .unset] [(.int (2 : Int32)), (.int (0 : Int32)), (.ref a1)])) (fun t_ k_ => (st9 _ (XS.istore X9.here hx rfl (Jvm.hb hby own_d_jdk_52_method_16_code_12) rfl (l' := #[.val (.ref a1), .val (.int (0 : Int32)), .val (.int (2 : Int32)), .val (.ref bb), .val (.int (1 : Int32)), .unset]) rfl (XS.iload X9.here hx rfl (Jvm.hb hby own_d_jdk_52_method_16_code_14) rfl (XS.iloadN X9.here hx rfl (Jvm.hb hby own_d_jdk_52_method_16_code_16) rfl (XS.icmpNo X9.here hx rfl (Jvm.hb hby own_d_jdk_52_method_16_code_17) rfl (feq (by decide)).1 (XS.aloadN X9.here hx rfl (Jvm.hb hby own_d_jdk_52_method_16_code_20) rfl rfl (XS.iloadN X9.here hx rfl (Jvm.hb hby own_d_jdk_52_method_16_code_21) rfl (XS.iloadN X9.here hx rfl (Jvm.hb hby own_d_jdk_52_method_16_code_22) rfl k_))))))))) ?_
    obtain ⟨_, _, ⟨T30, L30, k30, n30⟩, -, X30, ⟨Lc30, hQ30, l30, y30, z30⟩, st30⟩ := Jvm.LawKit.callS X9 hx (y := (⟨"java/lang/StringUTF16", "toBytes", "([CII)[B"⟩ : MethodName)) hown (mvT hZ (hw _ (List.mem_of_getElem? (i := 98) rfl))) (mvT hZ (hw _ (List.mem_of_getElem? (i := 99) rfl))) (mvT hZ (hw _ (List.mem_of_getElem? (i := 18) rfl))) (mvT hZ (hw _ (List.mem_of_getElem? (i := 100) rfl))) (by decide) (backOf (W := 0) (own_rm_tob2 l Z a0 hw [] a1 (0 : Int32) (2 : Int32) c0 c1 kc T9.heap n0 f12 f13 f14 f15 f16 rfl rfl) hZ (hw _ (List.mem_of_getElem? (i := 100) rfl)) (hw _ (List.mem_of_getElem? (i := 18) rfl)) (by decide) (by decide)) (g := (mkF m 23 #[.val (.ref a1), .val (.int (0 : Int32)), .val (.int (2 : Int32)), .val (.ref bb), .val (.int (1 : Int32)), .unset] [(.int (2 : Int32)), (.int (0 : Int32)), (.ref a1)])) rfl (by rw [hml]; rfl) (argsL := [(.ref a1), (.int (0 : Int32)), (.int (2 : Int32))]) (rest := []) (lenOf own_pd_4 rfl) rfl (by show 2 * 0 + _ ≤ _; exact Nat.le_of_eq rfl) (Jvm.hb hby own_d_jdk_52_method_16_code_23) (fun _ _ => ⟨rfl, rfl, Nat.le_of_ble_eq_true rfl, Nat.le_of_ble_eq_true rfl⟩)
    dsimp only [Pt.U, Pt.locs, Pt.cells, Pt.slots] at X30 l30 y30 z30 st30 hQ30
    subst l30 y30 z30
    obtain ⟨tb, kt, rfl, N30, K30, sztb, Etb, Vtb⟩ := hQ30
    have ne_a1_tb : a1 ≠ tb := Nat.ne_of_lt (Nat.lt_of_lt_of_le f16.lt sztb)
    have ne_bb_tb : bb ≠ tb := Nat.ne_of_lt (Nat.lt_of_lt_of_le f17.lt sztb)
    have g_tb : n0 ≤ tb := Nat.le_trans f12 sztb
    have sz_tb : h0.size ≤ tb := Nat.le_trans f11.1 sztb
    have N31 := Fr.app N10 N30
    have f32 := f11.trans K30 all0
    have f33 := Nat.le_trans f12 K30.1
    have f34 := own_stakeep f13 K30 all0
    have f35 := own_stakeep f14 K30 all0
    have f36 := own_stakeep f15 K30 all0
    have f37 := f16.keep K30 nin0
    have f38 := f17.keep K30
    refine own_of (T' := T30) (f' := (mkF m 32 #[.val (.ref a1), .val (.int (0 : Int32)), .val (.int (2 : Int32)), .val (.ref bb), .val (.int (1 : Int32)), .val (.ref tb)] [(.int (1 : Int32)), (.ref tb)])) (fun t_ k_ => (st30 _ (XS.astore X30.here hx rfl (Jvm.hb hby own_d_jdk_52_method_16_code_26) rfl rfl (l' := #[.val (.ref a1), .val (.int (0 : Int32)), .val (.int (2 : Int32)), .val (.ref bb), .val (.int (1 : Int32)), .val (.ref tb)]) rfl (XS.aload X30.here hx rfl (Jvm.hb hby own_d_jdk_52_method_16_code_28) rfl rfl (XS.iload X30.here hx rfl (Jvm.hb hby own_d_jdk_52_method_16_code_30) rfl k_))))) ?_
    obtain ⟨_, _, ⟨T39, L39, k39, n39⟩, -, X39, ⟨Lc39, hQ39, l39, y39, z39⟩, st39⟩ := Jvm.LawKit.callS X30 hx (y := (⟨"java/lang/StringUTF16", "getChar", "([BI)C"⟩ : MethodName)) hown (mvT hZ (hw _ (List.mem_of_getElem? (i := 114) rfl))) (mvT hZ (hw _ (List.mem_of_getElem? (i := 115) rfl))) (mvT hZ (hw _ (List.mem_of_getElem? (i := 18) rfl))) (mvT hZ (hw _ (List.mem_of_getElem? (i := 116) rfl))) (by decide) (backOf (W := 0) (own_rm_gch1 l Z a0 hw [] tb (1 : Int32) kt (4 : Int32) [(.int (StrChars.lo8 c0)), (.int (StrChars.hi8 c0)), (.int (StrChars.lo8 c1)), (.int (StrChars.hi8 c1))] c1 T30.heap n0 f33 f34 f35 f36 Vtb rfl (by decide) (by decide) rfl rfl (hr c1 (by simp))) hZ (hw _ (List.mem_of_getElem? (i := 116) rfl)) (hw _ (List.mem_of_getElem? (i := 18) rfl)) (by decide) (by decide)) (g := (mkF m 32 #[.val (.ref a1), .val (.int (0 : Int32)), .val (.int (2 : Int32)), .val (.ref bb), .val (.int (1 : Int32)), .val (.ref tb)] [(.int (1 : Int32)), (.ref tb)])) rfl (by rw [hml]; rfl) (argsL := [(.ref tb), (.int (1 : Int32))]) (rest := []) (lenOf own_pd_5 rfl) rfl (by show 2 * 0 + _ ≤ _; exact Nat.le_of_eq rfl) (Jvm.hb hby own_d_jdk_52_method_16_code_32) (fun _ _ => ⟨rfl, rfl, Nat.le_of_ble_eq_true rfl, Nat.le_of_ble_eq_true rfl⟩)
    dsimp only [Pt.U, Pt.locs, Pt.cells, Pt.slots] at X39 l39 y39 z39 st39 hQ39
    subst l39 y39 z39
    obtain ⟨rfl, N39, e39⟩ := hQ39
    have N40 := Fr.app N31 N39
    refine own_of (T' := T39) (f' := (mkF m 56 #[.val (.ref a1), .val (.int (0 : Int32)), .val (.int (2 : Int32)), .val (.ref bb), .val (.int (1 : Int32)), .val (.ref tb)] [(.ref tb)])) (fun t_ k_ => (st39 _ (XS.sipush X39.here hx rfl (Jvm.hb hby own_d_jdk_52_method_16_code_35) (XS.icmpYes X39.here hx rfl (pc0 := 38) (pc' := 54) rfl (Jvm.hb hby own_d_jdk_52_method_16_code_38) rfl (tlt hj).2.2.1 (by decide) (by decide) (XS.aload X39.here hx rfl (Jvm.hb hby own_d_jdk_52_method_16_code_54) rfl rfl k_))))) ?_
    obtain ⟨fs, hr, hrun, hended, hW, hsame⟩ := X39.leave (v := some (.ref tb)) (fun h => by rw [Bd.returns] at h; cases h)
    exact ⟨_, _, own_retA X39 hx Bd.returns rfl rfl rfl (Jvm.hb hby own_d_jdk_52_method_16_code_56) hr, hrun, hended, _, _, rfl, (by show own_Q_cp3_2 Z a1 0 (2 : Int32) c0 c1 kc h0 n0 _ T39.heap _; rw [e39]; exact ⟨tb, kt, rfl, N40, f32, sz_tb, Etb, Vtb⟩), ⟨_, rfl⟩, hW, hsame.mono (by decide) (by decide)⟩
theorem own_ef_nbl3 (m : MethodId) (p1 : Int32) : entryFrame m #[(.int p1)] 1 = mkF m 0 #[.val (.int p1)] [] := by first | (simp [entryFrame, mkF, argsToLocals, Value.category]; done) | rfl
def own_Q_nbl3 (Z : State) (p1 : Int32)  (h0 : Heap) (n0 : Nat) (v : Option Value) (h : Heap) (L : List Loc) : Prop := v = some (.int (6 : Int32)) ∧ Fr n0 L ∧ h = h0
set_option maxRecDepth 65536 in
set_option maxHeartbeats 40000000 in
theorem own_rm_nbl3 (l : Launch) (Z : State) (a0 : Array Value) (hw : ∀ d ∈ tables_1, d.before a0 Z = true) (ws : List Jvm.Cond) (p1 : Int32)  (h0 : Heap) (n0 : Nat) (Z0 : n0 ≤ h0.size) (hp : p1 = (3 : Int32)) :
    MetFree l (⟨"java/lang/StringUTF16", "newBytesLength", "(I)I"⟩ : MethodName) (head1 (Jvm.Cond.code (⟨"java/lang/StringUTF16", "newBytesLength", "(I)I"⟩ : MethodName) jdk_52_method_3_code 1 (some .int) :: ws) ({ frames := 0, cells := 0, slots := 0, locals := 0 } : Room)) (fun a U => a = #[(.int p1)] ∧ Z.Warmed39 U.vm ∧ U.heap = h0) (fun _ _ _ _ _ => True) (fun _ U o U' => ∃ v L, o = .returned v ∧ own_Q_nbl3 Z p1  h0 n0 v U'.heap L ∧ FrameEnd U o U' L ({ frames := 0, cells := 0, slots := 0, locals := 0 } : Room).cells ({ frames := 0, cells := 0, slots := 0, locals := 0 } : Room).slots) := by
  refine MetFree.of_bodySF (plainFor_of_name own_pn_0) hisR ?_
  intro p e s m args below meth c s₁ Bd hml0 hP hK
  obtain ⟨rfl, hZ, hh⟩ := hP
  have hx := Bd.exec
  have hby := Bd.bytes
  have hml : c.maxLocals = 1 := hml0
  have hown : s.vm.findClass "java/lang/StringUTF16" = some m.cls := findClass_of_methodNamed Bd.named
  have hnm := (name_of_methodNamed Bd.named Bd.method).1
  have X0 : Stand p l e ({ frames := 0, cells := 0, slots := 0, locals := 0 } : Room) s m #[(.int p1)] below meth c s₁ [] 0 0 := Stand.of_body Bd
  have e0 : s₁.heap = h0 := by rw [← hh, Bd.state]; rfl
  have N0 := Fr.nil n0
  refine own_start (own_ef_nbl3 m p1 ) ?_
  subst hp
  refine own_of (T' := s₁) (f' := (mkF m 58 #[.val (.int (3 : Int32))] [(.int ((3 : Int32) <<< ((1 : Int32) &&& 31)))])) (fun t_ k_ => (XS.iloadN X0.here hx rfl (Jvm.hb hby own_d_jdk_52_method_3_code_0) rfl (XS.ifYes X0.here hx rfl (pc0 := 1) (pc' := 12) rfl (Jvm.hb hby own_d_jdk_52_method_3_code_1) rfl ((if0 _ _).trans (flt (by decide : ¬ (3 : Int32) < 0)).2.1) (by decide) (by decide) (XS.iloadN X0.here hx rfl (Jvm.hb hby own_d_jdk_52_method_3_code_12) rfl (Jvm.Stand.ldcI X0 hx hown (mvT hZ (hw _ (List.mem_of_getElem? (i := 107) rfl))) rfl (Jvm.hb hby own_d_jdk_52_method_3_code_13) (XS.icmpYes X0.here hx rfl (pc0 := 15) (pc' := 55) rfl (Jvm.hb hby own_d_jdk_52_method_3_code_15) rfl (tlt (by decide)).1 (by decide) (by decide) (XS.iloadN X0.here hx rfl (Jvm.hb hby own_d_jdk_52_method_3_code_55) rfl (XS.iconst X0.here hx rfl (Jvm.hb hby own_d_jdk_52_method_3_code_56) (XS.ishl X0.here hx rfl (Jvm.hb hby own_d_jdk_52_method_3_code_57) rfl k_))))))))) ?_
  rw [(by decide : ((3 : Int32) <<< ((1 : Int32) &&& 31)) = (6 : Int32))]
  obtain ⟨fs, hr, hrun, hended, hW, hsame⟩ := X0.leave (v := some (.int (6 : Int32))) (fun h => by rw [Bd.returns] at h; cases h)
  exact ⟨_, _, own_retI X0 hx Bd.returns (Jvm.hb hby own_d_jdk_52_method_3_code_58) hr, hrun, hended, _, _, rfl, (by show own_Q_nbl3 Z (3 : Int32)  h0 n0 _ s₁.heap _; rw [e0]; exact ⟨rfl, N0, rfl⟩), ⟨_, rfl⟩, hW, hsame.mono (by decide) (by decide)⟩
theorem own_ef_nbf3 (m : MethodId) (p1 : Int32) : entryFrame m #[(.int p1)] 1 = mkF m 0 #[.val (.int p1)] [] := by first | (simp [entryFrame, mkF, argsToLocals, Value.category]; done) | rfl
def own_Q_nbf3 (Z : State) (p1 : Int32)  (h0 : Heap) (n0 : Nat) (v : Option Value) (h : Heap) (L : List Loc) : Prop := ∃ b k, v = some (.ref b) ∧ Fr n0 L ∧ Keep h0 h [] ∧ h0.size ≤ b ∧ Exa Z h b "[B" ∧ Arv Z h b k .byte (6 : Int32) [(.int (0 : Int32)), (.int (0 : Int32)), (.int (0 : Int32)), (.int (0 : Int32)), (.int (0 : Int32)), (.int (0 : Int32))] (.int 0)
set_option maxRecDepth 65536 in
set_option maxHeartbeats 40000000 in
theorem own_rm_nbf3 (l : Launch) (Z : State) (a0 : Array Value) (hw : ∀ d ∈ tables_1, d.before a0 Z = true) (ws : List Jvm.Cond) (p1 : Int32)  (h0 : Heap) (n0 : Nat) (Z0 : n0 ≤ h0.size) (hp : p1 = (3 : Int32)) :
    MetFree l (⟨"java/lang/StringUTF16", "newBytesFor", "(I)[B"⟩ : MethodName) (head1 (Jvm.Cond.code (⟨"java/lang/StringUTF16", "newBytesFor", "(I)[B"⟩ : MethodName) jdk_52_method_2_code 1 (some (.array .byte)) :: ws) ({ frames := 1, cells := 1, slots := 6, locals := 12 } : Room)) (fun a U => a = #[(.int p1)] ∧ Z.Warmed39 U.vm ∧ U.heap = h0) (fun _ _ _ _ _ => True) (fun _ U o U' => ∃ v L, o = .returned v ∧ own_Q_nbf3 Z p1  h0 n0 v U'.heap L ∧ FrameEnd U o U' L ({ frames := 1, cells := 1, slots := 6, locals := 12 } : Room).cells ({ frames := 1, cells := 1, slots := 6, locals := 12 } : Room).slots) := by
  refine MetFree.of_bodySF (plainFor_of_name own_pn_0) hisR ?_
  intro p e s m args below meth c s₁ Bd hml0 hP hK
  obtain ⟨rfl, hZ, hh⟩ := hP
  have hx := Bd.exec
  have hby := Bd.bytes
  have hml : c.maxLocals = 1 := hml0
  have hown : s.vm.findClass "java/lang/StringUTF16" = some m.cls := findClass_of_methodNamed Bd.named
  have hnm := (name_of_methodNamed Bd.named Bd.method).1
  have X0 : Stand p l e ({ frames := 1, cells := 1, slots := 6, locals := 12 } : Room) s m #[(.int p1)] below meth c s₁ [] 0 0 := Stand.of_body Bd
  have e0 : s₁.heap = h0 := by rw [← hh, Bd.state]; rfl
  have N0 := Fr.nil n0
  refine own_start (own_ef_nbf3 m p1 ) ?_
  subst hp
  have K0 : Keep h0 h0 [] := Keep.refl _ _
  refine own_of (T' := s₁) (f' := (mkF m 1 #[.val (.int (3 : Int32))] [(.int (3 : Int32))])) (fun t_ k_ => (XS.iloadN X0.here hx rfl (Jvm.hb hby own_d_jdk_52_method_2_code_0) rfl k_)) ?_
  obtain ⟨_, _, ⟨T1, L1, k1, n1⟩, -, X1, ⟨Lc1, hQ1, l1, y1, z1⟩, st1⟩ := Jvm.LawKit.callS X0 hx (y := (⟨"java/lang/StringUTF16", "newBytesLength", "(I)I"⟩ : MethodName)) hown (mvT hZ (hw _ (List.mem_of_getElem? (i := 104) rfl))) (mvT hZ (hw _ (List.mem_of_getElem? (i := 105) rfl))) (mvT hZ (hw _ (List.mem_of_getElem? (i := 18) rfl))) (mvT hZ (hw _ (List.mem_of_getElem? (i := 106) rfl))) (by decide) (backOf (W := 0) (own_rm_nbl3 l Z a0 hw [] (3 : Int32) h0 n0 Z0 rfl) hZ (hw _ (List.mem_of_getElem? (i := 106) rfl)) (hw _ (List.mem_of_getElem? (i := 18) rfl)) (by decide) (by decide)) (g := (mkF m 1 #[.val (.int (3 : Int32))] [(.int (3 : Int32))])) rfl (by rw [hml]; rfl) (argsL := [(.int (3 : Int32))]) (rest := []) (lenOf own_pd_0 rfl) rfl (by show 2 * 0 + _ ≤ _; exact Nat.le_of_eq rfl) (Jvm.hb hby own_d_jdk_52_method_2_code_1) (fun _ _ => ⟨rfl, e0, Nat.le_of_ble_eq_true rfl, Nat.le_of_ble_eq_true rfl⟩)
  dsimp only [Pt.U, Pt.locs, Pt.cells, Pt.slots] at X1 l1 y1 z1 st1 hQ1
  subst l1 y1 z1
  obtain ⟨rfl, N1, e1⟩ := hQ1
  have N2 := Fr.app N0 N1
  refine own_of (T' := T1) (f' := (mkF m 4 #[.val (.int (3 : Int32))] [(.int (6 : Int32))])) (fun t_ k_ => (st1 _ k_)) ?_
  obtain ⟨T3, h3, k3, X3, e3, E3, A3, Ex3, st3⟩ := newPE X1 hx hZ (hw _ (List.mem_of_getElem? (i := 20) rfl)) e1 (g := (mkF m 4 #[.val (.int (3 : Int32))] [(.int (6 : Int32))])) rfl (Jvm.hb hby own_d_jdk_52_method_2_code_4) rfl (by decide) (cap := 6) (by decide) (by decide) (by decide) (by decide) (ad := "[B") (by decide)
  obtain ⟨b, g3⟩ : ∃ z, z = h0.size := ⟨_, rfl⟩
  rw [← g3] at A3 Ex3 st3
  have g_b : n0 ≤ b := Nat.le_trans Z0 (Nat.le_of_eq g3.symm)
  have sz_b : h0.size ≤ b := Nat.le_trans K0.1 (Nat.le_of_eq g3.symm)
  have f4 := K0.ext E3
  have f5 := Nat.le_trans Z0 E3.1
  have f6 : Arv Z h3 b k3 .byte (6 : Int32) [(.int (0 : Int32)), (.int (0 : Int32)), (.int (0 : Int32)), (.int (0 : Int32)), (.int (0 : Int32)), (.int (0 : Int32))] (.int (0 : Int32)) := (Arv.new A3 (by decide)).pad (pad_rep [] (.int (0 : Int32)) 6)
  refine own_of (T' := T3) (f' := (mkF m 6 #[.val (.int (3 : Int32))] [(.ref b)])) (fun t_ k_ => (st3 _ k_)) ?_
  obtain ⟨fs, hr, hrun, hended, hW, hsame⟩ := X3.leave (v := some (.ref b)) (fun h => by rw [Bd.returns] at h; cases h)
  exact ⟨_, _, own_retA X3 hx Bd.returns rfl rfl rfl (Jvm.hb hby own_d_jdk_52_method_2_code_6) hr, hrun, hended, _, _, rfl, (by show own_Q_nbf3 Z (3 : Int32)  h0 n0 _ T3.heap _; rw [e3]; exact ⟨b, _, rfl, N2, f4, sz_b, Ex3, f6⟩), ⟨_, rfl⟩, hW, hsame.mono (by decide) (by decide)⟩
theorem own_ef_tob3 (m : MethodId) (a1 : Addr) (p2 : Int32) (p3 : Int32) : entryFrame m #[(.ref a1), (.int p2), (.int p3)] 5 = mkF m 0 #[.val (.ref a1), .val (.int p2), .val (.int p3), .unset, .unset] [] := by first | (simp [entryFrame, mkF, argsToLocals, Value.category]; done) | rfl
def own_Q_tob3 (Z : State) (a1 : Addr) (p2 : Int32) (p3 : Int32) (c0 c1 c2 : Int32) (kc : ClassId) (h0 : Heap) (n0 : Nat) (v : Option Value) (h : Heap) (L : List Loc) : Prop := ∃ b k, v = some (.ref b) ∧ Fr n0 L ∧ Keep h0 h [] ∧ h0.size ≤ b ∧ Exa Z h b "[B" ∧ Arv Z h b k .byte (6 : Int32) [(.int (StrChars.lo8 c0)), (.int (StrChars.hi8 c0)), (.int (StrChars.lo8 c1)), (.int (StrChars.hi8 c1)), (.int (StrChars.lo8 c2)), (.int (StrChars.hi8 c2))] (.int 0)
set_option maxRecDepth 65536 in
set_option maxHeartbeats 40000000 in
theorem own_rm_tob3 (l : Launch) (Z : State) (a0 : Array Value) (hw : ∀ d ∈ tables_1, d.before a0 Z = true) (ws : List Jvm.Cond) (a1 : Addr) (p2 : Int32) (p3 : Int32) (c0 c1 c2 : Int32) (kc : ClassId) (h0 : Heap) (n0 : Nat) (Z0 : n0 ≤ h0.size) (S1 : Sta Z h0 "java/lang/StringUTF16" "$assertionsDisabled" "Z" (.int 1)) (S2 : Sta Z h0 "java/lang/StringUTF16" "HI_BYTE_SHIFT" "I" (.int 0)) (S3 : Sta Z h0 "java/lang/StringUTF16" "LO_BYTE_SHIFT" "I" (.int 8)) (Vc : Arv Z h0 a1 kc .char (3 : Int32) [(.int c0), (.int c1), (.int c2)] (.int 0)) (hp2 : p2 = 0) (hp3 : p3 = (3 : Int32)) :
    MetFree l (⟨"java/lang/StringUTF16", "toBytes", "([CII)[B"⟩ : MethodName) (head1 (Jvm.Cond.code (⟨"java/lang/StringUTF16", "toBytes", "([CII)[B"⟩ : MethodName) jdk_52_method_14_code 5 (some (.array .byte)) :: ws) ({ frames := 2, cells := 1, slots := 6, locals := 24 } : Room)) (fun a U => a = #[(.ref a1), (.int p2), (.int p3)] ∧ Z.Warmed39 U.vm ∧ U.heap = h0) (fun _ _ _ _ _ => True) (fun _ U o U' => ∃ v L, o = .returned v ∧ own_Q_tob3 Z a1 p2 p3 c0 c1 c2 kc h0 n0 v U'.heap L ∧ FrameEnd U o U' L ({ frames := 2, cells := 1, slots := 6, locals := 24 } : Room).cells ({ frames := 2, cells := 1, slots := 6, locals := 24 } : Room).slots) := by
  refine MetFree.of_bodySF (plainFor_of_name own_pn_0) hisR ?_
  intro p e s m args below meth c s₁ Bd hml0 hP hK
  obtain ⟨rfl, hZ, hh⟩ := hP
  have hx := Bd.exec
  have hby := Bd.bytes
  have hml : c.maxLocals = 5 := hml0
  have hown : s.vm.findClass "java/lang/StringUTF16" = some m.cls := findClass_of_methodNamed Bd.named
  have hnm := (name_of_methodNamed Bd.named Bd.method).1
  have X0 : Stand p l e ({ frames := 2, cells := 1, slots := 6, locals := 24 } : Room) s m #[(.ref a1), (.int p2), (.int p3)] below meth c s₁ [] 0 0 := Stand.of_body Bd
  have e0 : s₁.heap = h0 := by rw [← hh, Bd.state]; rfl
  have N0 := Fr.nil n0
  refine own_start (own_ef_tob3 m a1 p2 p3 ) ?_
  subst hp2 hp3
  have K0 : Keep h0 h0 [] := Keep.refl _ _
  refine own_of (T' := s₁) (f' := (mkF m 1 #[.val (.ref a1), .val (.int (0 : Int32)), .val (.int (3 : Int32)), .unset, .unset] [(.int (3 : Int32))])) (fun t_ k_ => (XS.iloadN X0.here hx rfl (Jvm.hb hby own_d_jdk_52_method_14_code_0) rfl k_)) ?_
  obtain ⟨_, _, ⟨T1, L1, k1, n1⟩, -, X1, ⟨Lc1, hQ1, l1, y1, z1⟩, st1⟩ := Jvm.LawKit.callS X0 hx (y := (⟨"java/lang/StringUTF16", "newBytesFor", "(I)[B"⟩ : MethodName)) hown (mvT hZ (hw _ (List.mem_of_getElem? (i := 101) rfl))) (mvT hZ (hw _ (List.mem_of_getElem? (i := 102) rfl))) (mvT hZ (hw _ (List.mem_of_getElem? (i := 18) rfl))) (mvT hZ (hw _ (List.mem_of_getElem? (i := 103) rfl))) (by decide) (backOf (W := 0) (own_rm_nbf3 l Z a0 hw [] (3 : Int32) h0 n0 Z0 rfl) hZ (hw _ (List.mem_of_getElem? (i := 103) rfl)) (hw _ (List.mem_of_getElem? (i := 18) rfl)) (by decide) (by decide)) (g := (mkF m 1 #[.val (.ref a1), .val (.int (0 : Int32)), .val (.int (3 : Int32)), .unset, .unset] [(.int (3 : Int32))])) rfl (by rw [hml]; rfl) (argsL := [(.int (3 : Int32))]) (rest := []) (lenOf own_pd_1 rfl) rfl (by show 2 * 0 + _ ≤ _; exact Nat.le_of_eq rfl) (Jvm.hb hby own_d_jdk_52_method_14_code_1) (fun _ _ => ⟨rfl, e0, Nat.le_of_ble_eq_true rfl, Nat.le_of_ble_eq_true rfl⟩)
  dsimp only [Pt.U, Pt.locs, Pt.cells, Pt.slots] at X1 l1 y1 z1 st1 hQ1
  subst l1 y1 z1
  obtain ⟨b, kb, rfl, N1, K1, szb, Eb, Vb0⟩ := hQ1
  have ne_a1_b : a1 ≠ b := Nat.ne_of_lt (Nat.lt_of_lt_of_le Vc.lt szb)
  have g_b : n0 ≤ b := Nat.le_trans Z0 szb
  have sz_b : h0.size ≤ b := Nat.le_trans K0.1 szb
  have N2 := Fr.app N0 N1
  have f3 := K0.trans K1 all0
  have f4 := Nat.le_trans Z0 K1.1
  have f5 := own_stakeep S1 K1 all0
  have f6 := own_stakeep S2 K1 all0
  have f7 := own_stakeep S3 K1 all0
  have f8 := Vc.keep K1 nin0
  refine own_of (T' := T1) (f' := (mkF m 15 #[.val (.ref a1), .val (.int (0 : Int32)), .val (.int (3 : Int32)), .val (.ref b), .val (.int (0 : Int32))] [(.ref b)])) (fun t_ k_ => (st1 _ (XS.astoreN X1.here hx rfl (Jvm.hb hby own_d_jdk_52_method_14_code_4) rfl rfl (l' := #[.val (.ref a1), .val (.int (0 : Int32)), .val (.int (3 : Int32)), .val (.ref b), .unset]) rfl (XS.iconst X1.here hx rfl (Jvm.hb hby own_d_jdk_52_method_14_code_5) (XS.istore X1.here hx rfl (Jvm.hb hby own_d_jdk_52_method_14_code_6) rfl (l' := #[.val (.ref a1), .val (.int (0 : Int32)), .val (.int (3 : Int32)), .val (.ref b), .val (.int (0 : Int32))]) rfl (XS.iload X1.here hx rfl (Jvm.hb hby own_d_jdk_52_method_14_code_8) rfl (XS.iloadN X1.here hx rfl (Jvm.hb hby own_d_jdk_52_method_14_code_10) rfl (XS.icmpNo X1.here hx rfl (Jvm.hb hby own_d_jdk_52_method_14_code_11) rfl (tlt (by decide)).2.1 (XS.aloadN X1.here hx rfl (Jvm.hb hby own_d_jdk_52_method_14_code_14) rfl rfl k_))))))))) ?_
  refine own_of (T' := T1) (f' := (mkF m 19 #[.val (.ref a1), .val (.int (0 : Int32)), .val (.int (3 : Int32)), .val (.ref b), .val (.int (0 : Int32))] [(.int (0 : Int32)), (.ref a1), (.int (0 : Int32)), (.ref b)])) (fun t_ k_ => (XS.iload X1.here hx rfl (Jvm.hb hby own_d_jdk_52_method_14_code_15) rfl (XS.aloadN X1.here hx rfl (Jvm.hb hby own_d_jdk_52_method_14_code_17) rfl rfl (XS.iloadN X1.here hx rfl (Jvm.hb hby own_d_jdk_52_method_14_code_18) rfl k_)))) ?_
  obtain ⟨cl9, Ar9, qq9, Sz9, Nn9, Hh9, Gg9⟩ := id f8
  have hin9 : ¬ ((0 : Int32) < 0 ∨ cl9.slots.size ≤ ((0 : Int32)).toNatClampNeg) := inb_of Sz9 ⟨by decide, by decide⟩
  refine own_of (T' := T1) (f' := (mkF m 20 #[.val (.ref a1), .val (.int (0 : Int32)), .val (.int (3 : Int32)), .val (.ref b), .val (.int (0 : Int32))] [(.int c0), (.int (0 : Int32)), (.ref b)])) (fun t_ k_ => (X1.caload hx (j := (0 : Int32)) (v := (.int c0)) (by first | (rw [rfl]; exact Ar9.1) | exact Ar9.1) (State.isArrayOf_alike hZ.alike Ar9.2.1) Ar9.2.2 hin9 (Hh9.at hin9 rfl) (g := (mkF m 19 #[.val (.ref a1), .val (.int (0 : Int32)), .val (.int (3 : Int32)), .val (.ref b), .val (.int (0 : Int32))] [(.int (0 : Int32)), (.ref a1), (.int (0 : Int32)), (.ref b)])) rfl rfl (Jvm.hb hby own_d_jdk_52_method_14_code_19) _ k_)) ?_
  obtain ⟨_, _, ⟨T10, L10, k10, n10⟩, -, X10, ⟨Lc10, hQ10, l10, y10, z10⟩, st10⟩ := Jvm.LawKit.callS X1 hx (y := (⟨"java/lang/StringUTF16", "putChar", "([BII)V"⟩ : MethodName)) hown (mvT hZ (hw _ (List.mem_of_getElem? (i := 108) rfl))) (mvT hZ (hw _ (List.mem_of_getElem? (i := 109) rfl))) (mvT hZ (hw _ (List.mem_of_getElem? (i := 18) rfl))) (mvT hZ (hw _ (List.mem_of_getElem? (i := 110) rfl))) (by decide) (backOf (W := 0) (own_rm_pch0 l Z a0 hw [] b (0 : Int32) c0 kb (6 : Int32) [(.int (0 : Int32)), (.int (0 : Int32)), (.int (0 : Int32)), (.int (0 : Int32)), (.int (0 : Int32)), (.int (0 : Int32))] T1.heap n0 f4 f5 f6 f7 Vb0 rfl (by decide) (by decide) (Nat.le_of_ble_eq_true rfl) g_b Eb) hZ (hw _ (List.mem_of_getElem? (i := 110) rfl)) (hw _ (List.mem_of_getElem? (i := 18) rfl)) (by decide) (by decide)) (g := (mkF m 20 #[.val (.ref a1), .val (.int (0 : Int32)), .val (.int (3 : Int32)), .val (.ref b), .val (.int (0 : Int32))] [(.int c0), (.int (0 : Int32)), (.ref b)])) rfl (by rw [hml]; rfl) (argsL := [(.ref b), (.int (0 : Int32)), (.int c0)]) (rest := []) (lenOf own_pd_2 rfl) rfl (by show 2 * 0 + _ ≤ _; exact Nat.le_of_eq rfl) (Jvm.hb hby own_d_jdk_52_method_14_code_20) (fun _ _ => ⟨rfl, rfl, Nat.le_of_ble_eq_true rfl, Nat.le_of_ble_eq_true rfl⟩)
  dsimp only [Pt.U, Pt.locs, Pt.cells, Pt.slots] at X10 l10 y10 z10 st10 hQ10
  subst l10 y10 z10
  obtain ⟨rfl, N10, K10, Vn10⟩ := hQ10
  have N11 := Fr.app N2 N10
  have f12 := f3.trans K10 (allS (Or.inr sz_b) all0)
  have f13 := Nat.le_trans f4 K10.1
  have f14 := own_stakeep f5 K10 (allS (own_plainE Eb) all0)
  have f15 := own_stakeep f6 K10 (allS (own_plainE Eb) all0)
  have f16 := own_stakeep f7 K10 (allS (own_plainE Eb) all0)
  have f17 := f8.keep K10 (ninS ne_a1_b nin0)
  have f18 := Eb.keep K10
  have Vb1 : Arv Z T10.heap b kb .byte (6 : Int32) [(.int (StrChars.lo8 c0)), (.int (StrChars.hi8 c0)), (.int (0 : Int32)), (.int (0 : Int32)), (.int (0 : Int32)), (.int (0 : Int32))] (.int 0) := Vn10
  refine own_of (T' := T10) (f' := (mkF m 29 #[.val (.ref a1), .val (.int ((0 : Int32) + (1 : Int32))), .val (.int (3 : Int32)), .val (.ref b), .val (.int ((0 : Int32) + (1 : Int32)))] [])) (fun t_ k_ => (st10 _ (XS.iinc X10.here hx rfl (Jvm.hb hby own_d_jdk_52_method_14_code_23) rfl (l' := #[.val (.ref a1), .val (.int ((0 : Int32) + (1 : Int32))), .val (.int (3 : Int32)), .val (.ref b), .val (.int (0 : Int32))]) rfl (XS.iinc X10.here hx rfl (Jvm.hb hby own_d_jdk_52_method_14_code_26) rfl (l' := #[.val (.ref a1), .val (.int ((0 : Int32) + (1 : Int32))), .val (.int (3 : Int32)), .val (.ref b), .val (.int ((0 : Int32) + (1 : Int32)))]) rfl k_)))) ?_
  try rw [(by decide : ((0 : Int32) + (1 : Int32)) = (1 : Int32))]
  try rw [(by decide : ((0 : Int32) + (1 : Int32)) = (1 : Int32))]
  refine own_of (T' := T10) (f' := (mkF m 19 #[.val (.ref a1), .val (.int (1 : Int32)), .val (.int (3 : Int32)), .val (.ref b), .val (.int (1 : Int32))] [(.int (1 : Int32)), (.ref a1), (.int (1 : Int32)), (.ref b)])) (fun t_ k_ => (XS.goto X10.here hx rfl (pc0 := 29) (pc' := 8) rfl (Jvm.hb hby own_d_jdk_52_method_14_code_29) (by decide) (by decide) (XS.iload X10.here hx rfl (Jvm.hb hby own_d_jdk_52_method_14_code_8) rfl (XS.iloadN X10.here hx rfl (Jvm.hb hby own_d_jdk_52_method_14_code_10) rfl (XS.icmpNo X10.here hx rfl (Jvm.hb hby own_d_jdk_52_method_14_code_11) rfl (tlt (by decide)).2.1 (XS.aloadN X10.here hx rfl (Jvm.hb hby own_d_jdk_52_method_14_code_14) rfl rfl (XS.iload X10.here hx rfl (Jvm.hb hby own_d_jdk_52_method_14_code_15) rfl (XS.aloadN X10.here hx rfl (Jvm.hb hby own_d_jdk_52_method_14_code_17) rfl rfl (XS.iloadN X10.here hx rfl (Jvm.hb hby own_d_jdk_52_method_14_code_18) rfl k_))))))))) ?_
  obtain ⟨cl20, Ar20, qq20, Sz20, Nn20, Hh20, Gg20⟩ := id f17
  have hin20 : ¬ ((1 : Int32) < 0 ∨ cl20.slots.size ≤ ((1 : Int32)).toNatClampNeg) := inb_of Sz20 ⟨by decide, by decide⟩
  refine own_of (T' := T10) (f' := (mkF m 20 #[.val (.ref a1), .val (.int (1 : Int32)), .val (.int (3 : Int32)), .val (.ref b), .val (.int (1 : Int32))] [(.int c1), (.int (1 : Int32)), (.ref b)])) (fun t_ k_ => (X10.caload hx (j := (1 : Int32)) (v := (.int c1)) (by first | (rw [rfl]; exact Ar20.1) | exact Ar20.1) (State.isArrayOf_alike hZ.alike Ar20.2.1) Ar20.2.2 hin20 (Hh20.at hin20 rfl) (g := (mkF m 19 #[.val (.ref a1), .val (.int (1 : Int32)), .val (.int (3 : Int32)), .val (.ref b), .val (.int (1 : Int32))] [(.int (1 : Int32)), (.ref a1), (.int (1 : Int32)), (.ref b)])) rfl rfl (Jvm.hb hby own_d_jdk_52_method_14_code_19) _ k_)) ?_
  obtain ⟨_, _, ⟨T21, L21, k21, n21⟩, -, X21, ⟨Lc21, hQ21, l21, y21, z21⟩, st21⟩ := Jvm.LawKit.callS X10 hx (y := (⟨"java/lang/StringUTF16", "putChar", "([BII)V"⟩ : MethodName)) hown (mvT hZ (hw _ (List.mem_of_getElem? (i := 108) rfl))) (mvT hZ (hw _ (List.mem_of_getElem? (i := 109) rfl))) (mvT hZ (hw _ (List.mem_of_getElem? (i := 18) rfl))) (mvT hZ (hw _ (List.mem_of_getElem? (i := 110) rfl))) (by decide) (backOf (W := 0) (own_rm_pch1 l Z a0 hw [] b (1 : Int32) c1 kb (6 : Int32) [(.int (StrChars.lo8 c0)), (.int (StrChars.hi8 c0)), (.int (0 : Int32)), (.int (0 : Int32)), (.int (0 : Int32)), (.int (0 : Int32))] T10.heap n0 f13 f14 f15 f16 Vb1 rfl (by decide) (by decide) (Nat.le_of_ble_eq_true rfl) g_b f18) hZ (hw _ (List.mem_of_getElem? (i := 110) rfl)) (hw _ (List.mem_of_getElem? (i := 18) rfl)) (by decide) (by decide)) (g := (mkF m 20 #[.val (.ref a1), .val (.int (1 : Int32)), .val (.int (3 : Int32)), .val (.ref b), .val (.int (1 : Int32))] [(.int c1), (.int (1 : Int32)), (.ref b)])) rfl (by rw [hml]; rfl) (argsL := [(.ref b), (.int (1 : Int32)), (.int c1)]) (rest := []) (lenOf own_pd_2 rfl) rfl (by show 2 * 0 + _ ≤ _; exact Nat.le_of_eq rfl) (Jvm.hb hby own_d_jdk_52_method_14_code_20) (fun _ _ => ⟨rfl, rfl, Nat.le_of_ble_eq_true rfl, Nat.le_of_ble_eq_true rfl⟩)
  dsimp only [Pt.U, Pt.locs, Pt.cells, Pt.slots] at X21 l21 y21 z21 st21 hQ21
  subst l21 y21 z21
  obtain ⟨rfl, N21, K21, Vn21⟩ := hQ21
  have N22 := Fr.app N11 N21
  have f23 := f12.trans K21 (allS (Or.inr sz_b) all0)
  have f24 := Nat.le_trans f13 K21.1
  have f25 := own_stakeep f14 K21 (allS (own_plainE f18) all0)
  have f26 := own_stakeep f15 K21 (allS (own_plainE f18) all0)
  have f27 := own_stakeep f16 K21 (allS (own_plainE f18) all0)
  have f28 := f17.keep K21 (ninS ne_a1_b nin0)
  have f29 := f18.keep K21
  have Vb2 : Arv Z T21.heap b kb .byte (6 : Int32) [(.int (StrChars.lo8 c0)), (.int (StrChars.hi8 c0)), (.int (StrChars.lo8 c1)), (.int (StrChars.hi8 c1)), (.int (0 : Int32)), (.int (0 : Int32))] (.int 0) := Vn21
  refine own_of (T' := T21) (f' := (mkF m 29 #[.val (.ref a1), .val (.int ((1 : Int32) + (1 : Int32))), .val (.int (3 : Int32)), .val (.ref b), .val (.int ((1 : Int32) + (1 : Int32)))] [])) (fun t_ k_ => (st21 _ (XS.iinc X21.here hx rfl (Jvm.hb hby own_d_jdk_52_method_14_code_23) rfl (l' := #[.val (.ref a1), .val (.int ((1 : Int32) + (1 : Int32))), .val (.int (3 : Int32)), .val (.ref b), .val (.int (1 : Int32))]) rfl (XS.iinc X21.here hx rfl (Jvm.hb hby own_d_jdk_52_method_14_code_26) rfl (l' := #[.val (.ref a1), .val (.int ((1 : Int32) + (1 : Int32))), .val (.int (3 : Int32)), .val (.ref b), .val (.int ((1 : Int32) + (1 : Int32)))]) rfl k_)))) ?_
  try rw [(by decide : ((1 : Int32) + (1 : Int32)) = (2 : Int32))]
  try rw [(by decide : ((1 : Int32) + (1 : Int32)) = (2 : Int32))]
  refine own_of (T' := T21) (f' := (mkF m 19 #[.val (.ref a1), .val (.int (2 : Int32)), .val (.int (3 : Int32)), .val (.ref b), .val (.int (2 : Int32))] [(.int (2 : Int32)), (.ref a1), (.int (2 : Int32)), (.ref b)])) (fun t_ k_ => (XS.goto X21.here hx rfl (pc0 := 29) (pc' := 8) rfl (Jvm.hb hby own_d_jdk_52_method_14_code_29) (by decide) (by decide) (XS.iload X21.here hx rfl (Jvm.hb hby own_d_jdk_52_method_14_code_8) rfl (XS.iloadN X21.here hx rfl (Jvm.hb hby own_d_jdk_52_method_14_code_10) rfl (XS.icmpNo X21.here hx rfl (Jvm.hb hby own_d_jdk_52_method_14_code_11) rfl (tlt (by decide)).2.1 (XS.aloadN X21.here hx rfl (Jvm.hb hby own_d_jdk_52_method_14_code_14) rfl rfl (XS.iload X21.here hx rfl (Jvm.hb hby own_d_jdk_52_method_14_code_15) rfl (XS.aloadN X21.here hx rfl (Jvm.hb hby own_d_jdk_52_method_14_code_17) rfl rfl (XS.iloadN X21.here hx rfl (Jvm.hb hby own_d_jdk_52_method_14_code_18) rfl k_))))))))) ?_
  obtain ⟨cl31, Ar31, qq31, Sz31, Nn31, Hh31, Gg31⟩ := id f28
  have hin31 : ¬ ((2 : Int32) < 0 ∨ cl31.slots.size ≤ ((2 : Int32)).toNatClampNeg) := inb_of Sz31 ⟨by decide, by decide⟩
  refine own_of (T' := T21) (f' := (mkF m 20 #[.val (.ref a1), .val (.int (2 : Int32)), .val (.int (3 : Int32)), .val (.ref b), .val (.int (2 : Int32))] [(.int c2), (.int (2 : Int32)), (.ref b)])) (fun t_ k_ => (X21.caload hx (j := (2 : Int32)) (v := (.int c2)) (by first | (rw [rfl]; exact Ar31.1) | exact Ar31.1) (State.isArrayOf_alike hZ.alike Ar31.2.1) Ar31.2.2 hin31 (Hh31.at hin31 rfl) (g := (mkF m 19 #[.val (.ref a1), .val (.int (2 : Int32)), .val (.int (3 : Int32)), .val (.ref b), .val (.int (2 : Int32))] [(.int (2 : Int32)), (.ref a1), (.int (2 : Int32)), (.ref b)])) rfl rfl (Jvm.hb hby own_d_jdk_52_method_14_code_19) _ k_)) ?_
  obtain ⟨_, _, ⟨T32, L32, k32, n32⟩, -, X32, ⟨Lc32, hQ32, l32, y32, z32⟩, st32⟩ := Jvm.LawKit.callS X21 hx (y := (⟨"java/lang/StringUTF16", "putChar", "([BII)V"⟩ : MethodName)) hown (mvT hZ (hw _ (List.mem_of_getElem? (i := 108) rfl))) (mvT hZ (hw _ (List.mem_of_getElem? (i := 109) rfl))) (mvT hZ (hw _ (List.mem_of_getElem? (i := 18) rfl))) (mvT hZ (hw _ (List.mem_of_getElem? (i := 110) rfl))) (by decide) (backOf (W := 0) (own_rm_pch2 l Z a0 hw [] b (2 : Int32) c2 kb (6 : Int32) [(.int (StrChars.lo8 c0)), (.int (StrChars.hi8 c0)), (.int (StrChars.lo8 c1)), (.int (StrChars.hi8 c1)), (.int (0 : Int32)), (.int (0 : Int32))] T21.heap n0 f24 f25 f26 f27 Vb2 rfl (by decide) (by decide) (Nat.le_of_ble_eq_true rfl) g_b f29) hZ (hw _ (List.mem_of_getElem? (i := 110) rfl)) (hw _ (List.mem_of_getElem? (i := 18) rfl)) (by decide) (by decide)) (g := (mkF m 20 #[.val (.ref a1), .val (.int (2 : Int32)), .val (.int (3 : Int32)), .val (.ref b), .val (.int (2 : Int32))] [(.int c2), (.int (2 : Int32)), (.ref b)])) rfl (by rw [hml]; rfl) (argsL := [(.ref b), (.int (2 : Int32)), (.int c2)]) (rest := []) (lenOf own_pd_2 rfl) rfl (by show 2 * 0 + _ ≤ _; exact Nat.le_of_eq rfl) (Jvm.hb hby own_d_jdk_52_method_14_code_20) (fun _ _ => ⟨rfl, rfl, Nat.le_of_ble_eq_true rfl, Nat.le_of_ble_eq_true rfl⟩)
  dsimp only [Pt.U, Pt.locs, Pt.cells, Pt.slots] at X32 l32 y32 z32 st32 hQ32
  subst l32 y32 z32
  obtain ⟨rfl, N32, K32, Vn32⟩ := hQ32
  have N33 := Fr.app N22 N32
  have f34 := f23.trans K32 (allS (Or.inr sz_b) all0)
  have f35 := Nat.le_trans f24 K32.1
  have f36 := own_stakeep f25 K32 (allS (own_plainE f29) all0)
  have f37 := own_stakeep f26 K32 (allS (own_plainE f29) all0)
  have f38 := own_stakeep f27 K32 (allS (own_plainE f29) all0)
  have f39 := f28.keep K32 (ninS ne_a1_b nin0)
  have f40 := f29.keep K32
  have Vb3 : Arv Z T32.heap b kb .byte (6 : Int32) [(.int (StrChars.lo8 c0)), (.int (StrChars.hi8 c0)), (.int (StrChars.lo8 c1)), (.int (StrChars.hi8 c1)), (.int (StrChars.lo8 c2)), (.int (StrChars.hi8 c2))] (.int 0) := Vn32
  refine own_of (T' := T32) (f' := (mkF m 29 #[.val (.ref a1), .val (.int ((2 : Int32) + (1 : Int32))), .val (.int (3 : Int32)), .val (.ref b), .val (.int ((2 : Int32) + (1 : Int32)))] [])) (fun t_ k_ => (st32 _ (XS.iinc X32.here hx rfl (Jvm.hb hby own_d_jdk_52_method_14_code_23) rfl (l' := #[.val (.ref a1), .val (.int ((2 : Int32) + (1 : Int32))), .val (.int (3 : Int32)), .val (.ref b), .val (.int (2 : Int32))]) rfl (XS.iinc X32.here hx rfl (Jvm.hb hby own_d_jdk_52_method_14_code_26) rfl (l' := #[.val (.ref a1), .val (.int ((2 : Int32) + (1 : Int32))), .val (.int (3 : Int32)), .val (.ref b), .val (.int ((2 : Int32) + (1 : Int32)))]) rfl k_)))) ?_
  try rw [(by decide : ((2 : Int32) + (1 : Int32)) = (3 : Int32))]
  try rw [(by decide : ((2 : Int32) + (1 : Int32)) = (3 : Int32))]
  refine own_of (T' := T32) (f' := (mkF m 33 #[.val (.ref a1), .val (.int (3 : Int32)), .val (.int (3 : Int32)), .val (.ref b), .val (.int (3 : Int32))] [(.ref b)])) (fun t_ k_ => (XS.goto X32.here hx rfl (pc0 := 29) (pc' := 8) rfl (Jvm.hb hby own_d_jdk_52_method_14_code_29) (by decide) (by decide) (XS.iload X32.here hx rfl (Jvm.hb hby own_d_jdk_52_method_14_code_8) rfl (XS.iloadN X32.here hx rfl (Jvm.hb hby own_d_jdk_52_method_14_code_10) rfl (XS.icmpYes X32.here hx rfl (pc0 := 11) (pc' := 32) rfl (Jvm.hb hby own_d_jdk_52_method_14_code_11) rfl (flt (by decide)).2.1 (by decide) (by decide) (XS.aloadN X32.here hx rfl (Jvm.hb hby own_d_jdk_52_method_14_code_32) rfl rfl k_)))))) ?_
  obtain ⟨fs, hr, hrun, hended, hW, hsame⟩ := X32.leave (v := some (.ref b)) (fun h => by rw [Bd.returns] at h; cases h)
  exact ⟨_, _, own_retA X32 hx Bd.returns rfl rfl rfl (Jvm.hb hby own_d_jdk_52_method_14_code_33) hr, hrun, hended, _, _, rfl, (by show own_Q_tob3 Z a1 0 (3 : Int32) c0 c1 c2 kc h0 n0 _ T32.heap _; exact ⟨b, kb, rfl, N33, f34, sz_b, f40, Vb3⟩), ⟨_, rfl⟩, hW, hsame.mono (by decide) (by decide)⟩
theorem own_ef_cp5_3 (m : MethodId) (a1 : Addr) (p2 : Int32) (a3 : Addr) (p4 : Int32) (p5 : Int32) : entryFrame m #[(.ref a1), (.int p2), (.ref a3), (.int p4), (.int p5)] 7 = mkF m 0 #[.val (.ref a1), .val (.int p2), .val (.ref a3), .val (.int p4), .val (.int p5), .unset, .unset] [] := by first | (simp [entryFrame, mkF, argsToLocals, Value.category]; done) | rfl
def own_Q_cp5_3 (Z : State) (a1 : Addr) (p2 : Int32) (a3 : Addr) (p4 : Int32) (p5 : Int32) (c0 c1 c2 : Int32) (kc kd : ClassId) (h0 : Heap) (n0 : Nat) (v : Option Value) (h : Heap) (L : List Loc) : Prop := Fr n0 L ∧ Keep h0 h [a3] ∧ ((v = some (.int (0 : Int32)) ∧ (255 : Int32) < c0) ∨ (v = some (.int (1 : Int32)) ∧ (255 : Int32) < c1) ∨ (v = some (.int (2 : Int32)) ∧ (255 : Int32) < c2))
set_option maxRecDepth 65536 in
set_option maxHeartbeats 40000000 in
theorem own_rm_cp5_3 (l : Launch) (Z : State) (a0 : Array Value) (hw : ∀ d ∈ tables_1, d.before a0 Z = true) (ws : List Jvm.Cond) (a1 : Addr) (p2 : Int32) (a3 : Addr) (p4 : Int32) (p5 : Int32) (c0 c1 c2 : Int32) (kc kd : ClassId) (h0 : Heap) (n0 : Nat) (Z0 : n0 ≤ h0.size) (Vc : Arv Z h0 a1 kc .char (3 : Int32) [(.int c0), (.int c1), (.int c2)] (.int 0)) (Vd : Arv Z h0 a3 kd .byte (3 : Int32) [(.int (0 : Int32)), (.int (0 : Int32)), (.int (0 : Int32))] (.int 0)) (ne13 : a1 ≠ a3) (g_a3 : n0 ≤ a3) (E3 : Exa Z h0 a3 "[B") (hp2 : p2 = 0) (hp4 : p4 = 0) (hp5 : p5 = (3 : Int32)) (hwd : (255 : Int32) < c0 ∨ (255 : Int32) < c1 ∨ (255 : Int32) < c2) :
    MetFree l (⟨"java/lang/StringUTF16", "compress", "([CI[BII)I"⟩ : MethodName) (head1 (Jvm.Cond.code (⟨"java/lang/StringUTF16", "compress", "([CI[BII)I"⟩ : MethodName) jdk_52_method_21_code 7 (some .int) :: ws) ({ frames := 0, cells := 0, slots := 0, locals := 0 } : Room)) (fun a U => a = #[(.ref a1), (.int p2), (.ref a3), (.int p4), (.int p5)] ∧ Z.Warmed39 U.vm ∧ U.heap = h0) (fun _ _ _ _ _ => True) (fun _ U o U' => ∃ v L, o = .returned v ∧ own_Q_cp5_3 Z a1 p2 a3 p4 p5 c0 c1 c2 kc kd h0 n0 v U'.heap L ∧ FrameEnd U o U' L ({ frames := 0, cells := 0, slots := 0, locals := 0 } : Room).cells ({ frames := 0, cells := 0, slots := 0, locals := 0 } : Room).slots) := by
  refine MetFree.of_bodySF (plainFor_of_name own_pn_0) hisR ?_
  intro p e s m args below meth c s₁ Bd hml0 hP hK
  obtain ⟨rfl, hZ, hh⟩ := hP
  have hx := Bd.exec
  have hby := Bd.bytes
  have hml : c.maxLocals = 7 := hml0
  have hown : s.vm.findClass "java/lang/StringUTF16" = some m.cls := findClass_of_methodNamed Bd.named
  have hnm := (name_of_methodNamed Bd.named Bd.method).1
  have X0 : Stand p l e ({ frames := 0, cells := 0, slots := 0, locals := 0 } : Room) s m #[(.ref a1), (.int p2), (.ref a3), (.int p4), (.int p5)] below meth c s₁ [] 0 0 := Stand.of_body Bd
  have e0 : s₁.heap = h0 := by rw [← hh, Bd.state]; rfl
  have N0 := Fr.nil n0
  refine own_start (own_ef_cp5_3 m a1 p2 a3 p4 p5 ) ?_
  subst hp2 hp4 hp5
  have K0 : Keep h0 h0 [a3] := Keep.refl _ _
  refine own_of (T' := s₁) (f' := (mkF m 12 #[.val (.ref a1), .val (.int (0 : Int32)), .val (.ref a3), .val (.int (0 : Int32)), .val (.int (3 : Int32)), .val (.int (0 : Int32)), .unset] [(.int (0 : Int32)), (.ref a1)])) (fun t_ k_ => (XS.iconst X0.here hx rfl (Jvm.hb hby own_d_jdk_52_method_21_code_0) (XS.istore X0.here hx rfl (Jvm.hb hby own_d_jdk_52_method_21_code_1) rfl (l' := #[.val (.ref a1), .val (.int (0 : Int32)), .val (.ref a3), .val (.int (0 : Int32)), .val (.int (3 : Int32)), .val (.int (0 : Int32)), .unset]) rfl (XS.iload X0.here hx rfl (Jvm.hb hby own_d_jdk_52_method_21_code_3) rfl (XS.iload X0.here hx rfl (Jvm.hb hby own_d_jdk_52_method_21_code_5) rfl (XS.icmpNo X0.here hx rfl (Jvm.hb hby own_d_jdk_52_method_21_code_7) rfl (tlt (by decide)).2.1 (XS.aloadN X0.here hx rfl (Jvm.hb hby own_d_jdk_52_method_21_code_10) rfl rfl (XS.iloadN X0.here hx rfl (Jvm.hb hby own_d_jdk_52_method_21_code_11) rfl k_)))))))) ?_
  obtain ⟨cl1, Ar1, qq1, Sz1, Nn1, Hh1, Gg1⟩ := id Vc
  have hin1 : ¬ ((0 : Int32) < 0 ∨ cl1.slots.size ≤ ((0 : Int32)).toNatClampNeg) := inb_of Sz1 ⟨by decide, by decide⟩
  refine own_of (T' := s₁) (f' := (mkF m 20 #[.val (.ref a1), .val (.int (0 : Int32)), .val (.ref a3), .val (.int (0 : Int32)), .val (.int (3 : Int32)), .val (.int (0 : Int32)), .val (.int c0)] [(.int (255 : Int32)), (.int c0)])) (fun t_ k_ => (X0.caload hx (j := (0 : Int32)) (v := (.int c0)) (by first | (rw [e0]; exact Ar1.1) | exact Ar1.1) (State.isArrayOf_alike hZ.alike Ar1.2.1) Ar1.2.2 hin1 (Hh1.at hin1 rfl) (g := (mkF m 12 #[.val (.ref a1), .val (.int (0 : Int32)), .val (.ref a3), .val (.int (0 : Int32)), .val (.int (3 : Int32)), .val (.int (0 : Int32)), .unset] [(.int (0 : Int32)), (.ref a1)])) rfl rfl (Jvm.hb hby own_d_jdk_52_method_21_code_12) _ (XS.istore X0.here hx rfl (Jvm.hb hby own_d_jdk_52_method_21_code_13) rfl (l' := #[.val (.ref a1), .val (.int (0 : Int32)), .val (.ref a3), .val (.int (0 : Int32)), .val (.int (3 : Int32)), .val (.int (0 : Int32)), .val (.int c0)]) rfl (XS.iload X0.here hx rfl (Jvm.hb hby own_d_jdk_52_method_21_code_15) rfl (XS.sipush X0.here hx rfl (Jvm.hb hby own_d_jdk_52_method_21_code_17) k_))))) ?_
  by_cases hc20_2 : ((255 : Int32) < c0)
  · skip
    refine own_of (T' := s₁) (f' := (mkF m 25 #[.val (.ref a1), .val (.int (0 : Int32)), .val (.ref a3), .val (.int (0 : Int32)), .val (.int (3 : Int32)), .val (.int (0 : Int32)), .val (.int c0)] [(.int (0 : Int32))])) (fun t_ k_ => (XS.icmpNo X0.here hx rfl (Jvm.hb hby own_d_jdk_52_method_21_code_20) rfl (tlt hc20_2).2.2.2 (XS.iload X0.here hx rfl (Jvm.hb hby own_d_jdk_52_method_21_code_23) rfl k_))) ?_
    obtain ⟨fs, hr, hrun, hended, hW, hsame⟩ := X0.leave (v := some (.int (0 : Int32))) (fun h => by rw [Bd.returns] at h; cases h)
    exact ⟨_, _, own_retI X0 hx Bd.returns (Jvm.hb hby own_d_jdk_52_method_21_code_25) hr, hrun, hended, _, _, rfl, (by show own_Q_cp5_3 Z a1 0 a3 0 (3 : Int32) c0 c1 c2 kc kd h0 n0 _ s₁.heap _; rw [e0]; exact ⟨N0, K0, Or.inl ⟨rfl, hc20_2⟩⟩), ⟨_, rfl⟩, hW, hsame.mono (by decide) (by decide)⟩
  · skip
    refine own_of (T' := s₁) (f' := (mkF m 31 #[.val (.ref a1), .val (.int (0 : Int32)), .val (.ref a3), .val (.int (0 : Int32)), .val (.int (3 : Int32)), .val (.int (0 : Int32)), .val (.int c0)] [(.int (c0.toInt8.toInt32)), (.int (0 : Int32)), (.ref a3)])) (fun t_ k_ => (XS.icmpYes X0.here hx rfl (pc0 := 20) (pc' := 26) rfl (Jvm.hb hby own_d_jdk_52_method_21_code_20) rfl (flt hc20_2).2.2.2 (by decide) (by decide) (XS.aloadN X0.here hx rfl (Jvm.hb hby own_d_jdk_52_method_21_code_26) rfl rfl (XS.iloadN X0.here hx rfl (Jvm.hb hby own_d_jdk_52_method_21_code_27) rfl (XS.iload X0.here hx rfl (Jvm.hb hby own_d_jdk_52_method_21_code_28) rfl (XS.i2b X0.here hx rfl (Jvm.hb hby own_d_jdk_52_method_21_code_30) rfl k_)))))) ?_
    obtain ⟨cl3, Ar3, qq3, Sz3, Nn3, Hh3, Gg3⟩ := id Vd
    have hin3 : ¬ ((0 : Int32) < 0 ∨ cl3.slots.size ≤ ((0 : Int32)).toNatClampNeg) := inb_of Sz3 ⟨by decide, by decide⟩
    obtain ⟨T4, h4, X4, e4, W4, st4⟩ := stB X0 hx hZ e0 Ar3 (j := (0 : Int32)) hin3 (g := (mkF m 31 #[.val (.ref a1), .val (.int (0 : Int32)), .val (.ref a3), .val (.int (0 : Int32)), .val (.int (3 : Int32)), .val (.int (0 : Int32)), .val (.int c0)] [(.int (c0.toInt8.toInt32)), (.int (0 : Int32)), (.ref a3)])) rfl rfl (Jvm.hb hby own_d_jdk_52_method_21_code_31)
    refine own_of (T' := T4) (f' := (mkF m 32 #[.val (.ref a1), .val (.int (0 : Int32)), .val (.ref a3), .val (.int (0 : Int32)), .val (.int (3 : Int32)), .val (.int (0 : Int32)), .val (.int c0)] [])) (fun t_ k_ => (st4 _ k_)) ?_
    have f5 := Arv.set Ar3 qq3 Sz3 Nn3 Hh3 Gg3 (fits_nar_byte _) W4 0 rfl (Nat.le_of_ble_eq_true rfl)
    have N4 := Fr.snoc X4 N0 g_a3
    have f6 := K0.wr W4 (Or.inl (List.mem_of_getElem? (i := 0) rfl))
    have f7 := Nat.le_trans Z0 (Keep.of_wr W4).1
    have f8 := E3.wr W4
    have f9 := Vc.other W4 ne13
    refine own_of (T' := T4) (f' := (mkF m 41 #[.val (.ref a1), .val (.int ((0 : Int32) + (1 : Int32))), .val (.ref a3), .val (.int ((0 : Int32) + (1 : Int32))), .val (.int (3 : Int32)), .val (.int ((0 : Int32) + (1 : Int32))), .val (.int c0)] [])) (fun t_ k_ => (XS.iinc X4.here hx rfl (Jvm.hb hby own_d_jdk_52_method_21_code_32) rfl (l' := #[.val (.ref a1), .val (.int ((0 : Int32) + (1 : Int32))), .val (.ref a3), .val (.int (0 : Int32)), .val (.int (3 : Int32)), .val (.int (0 : Int32)), .val (.int c0)]) rfl (XS.iinc X4.here hx rfl (Jvm.hb hby own_d_jdk_52_method_21_code_35) rfl (l' := #[.val (.ref a1), .val (.int ((0 : Int32) + (1 : Int32))), .val (.ref a3), .val (.int ((0 : Int32) + (1 : Int32))), .val (.int (3 : Int32)), .val (.int (0 : Int32)), .val (.int c0)]) rfl (XS.iinc X4.here hx rfl (Jvm.hb hby own_d_jdk_52_method_21_code_38) rfl (l' := #[.val (.ref a1), .val (.int ((0 : Int32) + (1 : Int32))), .val (.ref a3), .val (.int ((0 : Int32) + (1 : Int32))), .val (.int (3 : Int32)), .val (.int ((0 : Int32) + (1 : Int32))), .val (.int c0)]) rfl k_)))) ?_
    try rw [(by decide : ((0 : Int32) + (1 : Int32)) = (1 : Int32))]
    try rw [(by decide : ((0 : Int32) + (1 : Int32)) = (1 : Int32))]
    try rw [(by decide : ((0 : Int32) + (1 : Int32)) = (1 : Int32))]
    refine own_of (T' := T4) (f' := (mkF m 12 #[.val (.ref a1), .val (.int (1 : Int32)), .val (.ref a3), .val (.int (1 : Int32)), .val (.int (3 : Int32)), .val (.int (1 : Int32)), .val (.int c0)] [(.int (1 : Int32)), (.ref a1)])) (fun t_ k_ => (XS.goto X4.here hx rfl (pc0 := 41) (pc' := 3) rfl (Jvm.hb hby own_d_jdk_52_method_21_code_41) (by decide) (by decide) (XS.iload X4.here hx rfl (Jvm.hb hby own_d_jdk_52_method_21_code_3) rfl (XS.iload X4.here hx rfl (Jvm.hb hby own_d_jdk_52_method_21_code_5) rfl (XS.icmpNo X4.here hx rfl (Jvm.hb hby own_d_jdk_52_method_21_code_7) rfl (tlt (by decide)).2.1 (XS.aloadN X4.here hx rfl (Jvm.hb hby own_d_jdk_52_method_21_code_10) rfl rfl (XS.iloadN X4.here hx rfl (Jvm.hb hby own_d_jdk_52_method_21_code_11) rfl k_))))))) ?_
    obtain ⟨cl11, Ar11, qq11, Sz11, Nn11, Hh11, Gg11⟩ := id f9
    have hin11 : ¬ ((1 : Int32) < 0 ∨ cl11.slots.size ≤ ((1 : Int32)).toNatClampNeg) := inb_of Sz11 ⟨by decide, by decide⟩
    refine own_of (T' := T4) (f' := (mkF m 20 #[.val (.ref a1), .val (.int (1 : Int32)), .val (.ref a3), .val (.int (1 : Int32)), .val (.int (3 : Int32)), .val (.int (1 : Int32)), .val (.int c1)] [(.int (255 : Int32)), (.int c1)])) (fun t_ k_ => (X4.caload hx (j := (1 : Int32)) (v := (.int c1)) (by first | (rw [e4]; exact Ar11.1) | exact Ar11.1) (State.isArrayOf_alike hZ.alike Ar11.2.1) Ar11.2.2 hin11 (Hh11.at hin11 rfl) (g := (mkF m 12 #[.val (.ref a1), .val (.int (1 : Int32)), .val (.ref a3), .val (.int (1 : Int32)), .val (.int (3 : Int32)), .val (.int (1 : Int32)), .val (.int c0)] [(.int (1 : Int32)), (.ref a1)])) rfl rfl (Jvm.hb hby own_d_jdk_52_method_21_code_12) _ (XS.istore X4.here hx rfl (Jvm.hb hby own_d_jdk_52_method_21_code_13) rfl (l' := #[.val (.ref a1), .val (.int (1 : Int32)), .val (.ref a3), .val (.int (1 : Int32)), .val (.int (3 : Int32)), .val (.int (1 : Int32)), .val (.int c1)]) rfl (XS.iload X4.here hx rfl (Jvm.hb hby own_d_jdk_52_method_21_code_15) rfl (XS.sipush X4.here hx rfl (Jvm.hb hby own_d_jdk_52_method_21_code_17) k_))))) ?_
    by_cases hc20_12 : ((255 : Int32) < c1)
    · skip
      refine own_of (T' := T4) (f' := (mkF m 25 #[.val (.ref a1), .val (.int (1 : Int32)), .val (.ref a3), .val (.int (1 : Int32)), .val (.int (3 : Int32)), .val (.int (1 : Int32)), .val (.int c1)] [(.int (1 : Int32))])) (fun t_ k_ => (XS.icmpNo X4.here hx rfl (Jvm.hb hby own_d_jdk_52_method_21_code_20) rfl (tlt hc20_12).2.2.2 (XS.iload X4.here hx rfl (Jvm.hb hby own_d_jdk_52_method_21_code_23) rfl k_))) ?_
      obtain ⟨fs, hr, hrun, hended, hW, hsame⟩ := X4.leave (v := some (.int (1 : Int32))) (fun h => by rw [Bd.returns] at h; cases h)
      exact ⟨_, _, own_retI X4 hx Bd.returns (Jvm.hb hby own_d_jdk_52_method_21_code_25) hr, hrun, hended, _, _, rfl, (by show own_Q_cp5_3 Z a1 0 a3 0 (3 : Int32) c0 c1 c2 kc kd h0 n0 _ T4.heap _; rw [e4]; exact ⟨N4, f6, Or.inr (Or.inl ⟨rfl, hc20_12⟩)⟩), ⟨_, rfl⟩, hW, hsame.mono (by decide) (by decide)⟩
    · skip
      refine own_of (T' := T4) (f' := (mkF m 31 #[.val (.ref a1), .val (.int (1 : Int32)), .val (.ref a3), .val (.int (1 : Int32)), .val (.int (3 : Int32)), .val (.int (1 : Int32)), .val (.int c1)] [(.int (c1.toInt8.toInt32)), (.int (1 : Int32)), (.ref a3)])) (fun t_ k_ => (XS.icmpYes X4.here hx rfl (pc0 := 20) (pc' := 26) rfl (Jvm.hb hby own_d_jdk_52_method_21_code_20) rfl (flt hc20_12).2.2.2 (by decide) (by decide) (XS.aloadN X4.here hx rfl (Jvm.hb hby own_d_jdk_52_method_21_code_26) rfl rfl (XS.iloadN X4.here hx rfl (Jvm.hb hby own_d_jdk_52_method_21_code_27) rfl (XS.iload X4.here hx rfl (Jvm.hb hby own_d_jdk_52_method_21_code_28) rfl (XS.i2b X4.here hx rfl (Jvm.hb hby own_d_jdk_52_method_21_code_30) rfl k_)))))) ?_
      obtain ⟨cl13, Ar13, qq13, Sz13, Nn13, Hh13, Gg13⟩ := id f5
      have hin13 : ¬ ((1 : Int32) < 0 ∨ cl13.slots.size ≤ ((1 : Int32)).toNatClampNeg) := inb_of Sz13 ⟨by decide, by decide⟩
      obtain ⟨T14, h14, X14, e14, W14, st14⟩ := stB X4 hx hZ e4 Ar13 (j := (1 : Int32)) hin13 (g := (mkF m 31 #[.val (.ref a1), .val (.int (1 : Int32)), .val (.ref a3), .val (.int (1 : Int32)), .val (.int (3 : Int32)), .val (.int (1 : Int32)), .val (.int c1)] [(.int (c1.toInt8.toInt32)), (.int (1 : Int32)), (.ref a3)])) rfl rfl (Jvm.hb hby own_d_jdk_52_method_21_code_31)
      refine own_of (T' := T14) (f' := (mkF m 32 #[.val (.ref a1), .val (.int (1 : Int32)), .val (.ref a3), .val (.int (1 : Int32)), .val (.int (3 : Int32)), .val (.int (1 : Int32)), .val (.int c1)] [])) (fun t_ k_ => (st14 _ k_)) ?_
      have f15 := Arv.set Ar13 qq13 Sz13 Nn13 Hh13 Gg13 (fits_nar_byte _) W14 1 rfl (Nat.le_of_ble_eq_true rfl)
      have N14 := Fr.snoc X14 N4 g_a3
      have f16 := f6.wr W14 (Or.inl (List.mem_of_getElem? (i := 0) rfl))
      have f17 := Nat.le_trans f7 (Keep.of_wr W14).1
      have f18 := f8.wr W14
      have f19 := f9.other W14 ne13
      refine own_of (T' := T14) (f' := (mkF m 41 #[.val (.ref a1), .val (.int ((1 : Int32) + (1 : Int32))), .val (.ref a3), .val (.int ((1 : Int32) + (1 : Int32))), .val (.int (3 : Int32)), .val (.int ((1 : Int32) + (1 : Int32))), .val (.int c1)] [])) (fun t_ k_ => (XS.iinc X14.here hx rfl (Jvm.hb hby own_d_jdk_52_method_21_code_32) rfl (l' := #[.val (.ref a1), .val (.int ((1 : Int32) + (1 : Int32))), .val (.ref a3), .val (.int (1 : Int32)), .val (.int (3 : Int32)), .val (.int (1 : Int32)), .val (.int c1)]) rfl (XS.iinc X14.here hx rfl (Jvm.hb hby own_d_jdk_52_method_21_code_35) rfl (l' := #[.val (.ref a1), .val (.int ((1 : Int32) + (1 : Int32))), .val (.ref a3), .val (.int ((1 : Int32) + (1 : Int32))), .val (.int (3 : Int32)), .val (.int (1 : Int32)), .val (.int c1)]) rfl (XS.iinc X14.here hx rfl (Jvm.hb hby own_d_jdk_52_method_21_code_38) rfl (l' := #[.val (.ref a1), .val (.int ((1 : Int32) + (1 : Int32))), .val (.ref a3), .val (.int ((1 : Int32) + (1 : Int32))), .val (.int (3 : Int32)), .val (.int ((1 : Int32) + (1 : Int32))), .val (.int c1)]) rfl k_)))) ?_
      try rw [(by decide : ((1 : Int32) + (1 : Int32)) = (2 : Int32))]
      try rw [(by decide : ((1 : Int32) + (1 : Int32)) = (2 : Int32))]
      try rw [(by decide : ((1 : Int32) + (1 : Int32)) = (2 : Int32))]
      refine own_of (T' := T14) (f' := (mkF m 12 #[.val (.ref a1), .val (.int (2 : Int32)), .val (.ref a3), .val (.int (2 : Int32)), .val (.int (3 : Int32)), .val (.int (2 : Int32)), .val (.int c1)] [(.int (2 : Int32)), (.ref a1)])) (fun t_ k_ => (XS.goto X14.here hx rfl (pc0 := 41) (pc' := 3) rfl (Jvm.hb hby own_d_jdk_52_method_21_code_41) (by decide) (by decide) (XS.iload X14.here hx rfl (Jvm.hb hby own_d_jdk_52_method_21_code_3) rfl (XS.iload X14.here hx rfl (Jvm.hb hby own_d_jdk_52_method_21_code_5) rfl (XS.icmpNo X14.here hx rfl (Jvm.hb hby own_d_jdk_52_method_21_code_7) rfl (tlt (by decide)).2.1 (XS.aloadN X14.here hx rfl (Jvm.hb hby own_d_jdk_52_method_21_code_10) rfl rfl (XS.iloadN X14.here hx rfl (Jvm.hb hby own_d_jdk_52_method_21_code_11) rfl k_))))))) ?_
      obtain ⟨cl21, Ar21, qq21, Sz21, Nn21, Hh21, Gg21⟩ := id f19
      have hin21 : ¬ ((2 : Int32) < 0 ∨ cl21.slots.size ≤ ((2 : Int32)).toNatClampNeg) := inb_of Sz21 ⟨by decide, by decide⟩
      refine own_of (T' := T14) (f' := (mkF m 20 #[.val (.ref a1), .val (.int (2 : Int32)), .val (.ref a3), .val (.int (2 : Int32)), .val (.int (3 : Int32)), .val (.int (2 : Int32)), .val (.int c2)] [(.int (255 : Int32)), (.int c2)])) (fun t_ k_ => (X14.caload hx (j := (2 : Int32)) (v := (.int c2)) (by first | (rw [e14]; exact Ar21.1) | exact Ar21.1) (State.isArrayOf_alike hZ.alike Ar21.2.1) Ar21.2.2 hin21 (Hh21.at hin21 rfl) (g := (mkF m 12 #[.val (.ref a1), .val (.int (2 : Int32)), .val (.ref a3), .val (.int (2 : Int32)), .val (.int (3 : Int32)), .val (.int (2 : Int32)), .val (.int c1)] [(.int (2 : Int32)), (.ref a1)])) rfl rfl (Jvm.hb hby own_d_jdk_52_method_21_code_12) _ (XS.istore X14.here hx rfl (Jvm.hb hby own_d_jdk_52_method_21_code_13) rfl (l' := #[.val (.ref a1), .val (.int (2 : Int32)), .val (.ref a3), .val (.int (2 : Int32)), .val (.int (3 : Int32)), .val (.int (2 : Int32)), .val (.int c2)]) rfl (XS.iload X14.here hx rfl (Jvm.hb hby own_d_jdk_52_method_21_code_15) rfl (XS.sipush X14.here hx rfl (Jvm.hb hby own_d_jdk_52_method_21_code_17) k_))))) ?_
      by_cases hc20_22 : ((255 : Int32) < c2)
      · skip
        refine own_of (T' := T14) (f' := (mkF m 25 #[.val (.ref a1), .val (.int (2 : Int32)), .val (.ref a3), .val (.int (2 : Int32)), .val (.int (3 : Int32)), .val (.int (2 : Int32)), .val (.int c2)] [(.int (2 : Int32))])) (fun t_ k_ => (XS.icmpNo X14.here hx rfl (Jvm.hb hby own_d_jdk_52_method_21_code_20) rfl (tlt hc20_22).2.2.2 (XS.iload X14.here hx rfl (Jvm.hb hby own_d_jdk_52_method_21_code_23) rfl k_))) ?_
        obtain ⟨fs, hr, hrun, hended, hW, hsame⟩ := X14.leave (v := some (.int (2 : Int32))) (fun h => by rw [Bd.returns] at h; cases h)
        exact ⟨_, _, own_retI X14 hx Bd.returns (Jvm.hb hby own_d_jdk_52_method_21_code_25) hr, hrun, hended, _, _, rfl, (by show own_Q_cp5_3 Z a1 0 a3 0 (3 : Int32) c0 c1 c2 kc kd h0 n0 _ T14.heap _; rw [e14]; exact ⟨N14, f16, Or.inr (Or.inr (⟨rfl, hc20_22⟩))⟩), ⟨_, rfl⟩, hW, hsame.mono (by decide) (by decide)⟩
      · skip
        refine own_of (T' := T14) (f' := (mkF m 31 #[.val (.ref a1), .val (.int (2 : Int32)), .val (.ref a3), .val (.int (2 : Int32)), .val (.int (3 : Int32)), .val (.int (2 : Int32)), .val (.int c2)] [(.int (c2.toInt8.toInt32)), (.int (2 : Int32)), (.ref a3)])) (fun t_ k_ => (XS.icmpYes X14.here hx rfl (pc0 := 20) (pc' := 26) rfl (Jvm.hb hby own_d_jdk_52_method_21_code_20) rfl (flt hc20_22).2.2.2 (by decide) (by decide) (XS.aloadN X14.here hx rfl (Jvm.hb hby own_d_jdk_52_method_21_code_26) rfl rfl (XS.iloadN X14.here hx rfl (Jvm.hb hby own_d_jdk_52_method_21_code_27) rfl (XS.iload X14.here hx rfl (Jvm.hb hby own_d_jdk_52_method_21_code_28) rfl (XS.i2b X14.here hx rfl (Jvm.hb hby own_d_jdk_52_method_21_code_30) rfl k_)))))) ?_
        obtain ⟨cl23, Ar23, qq23, Sz23, Nn23, Hh23, Gg23⟩ := id f15
        have hin23 : ¬ ((2 : Int32) < 0 ∨ cl23.slots.size ≤ ((2 : Int32)).toNatClampNeg) := inb_of Sz23 ⟨by decide, by decide⟩
        obtain ⟨T24, h24, X24, e24, W24, st24⟩ := stB X14 hx hZ e14 Ar23 (j := (2 : Int32)) hin23 (g := (mkF m 31 #[.val (.ref a1), .val (.int (2 : Int32)), .val (.ref a3), .val (.int (2 : Int32)), .val (.int (3 : Int32)), .val (.int (2 : Int32)), .val (.int c2)] [(.int (c2.toInt8.toInt32)), (.int (2 : Int32)), (.ref a3)])) rfl rfl (Jvm.hb hby own_d_jdk_52_method_21_code_31)
        refine own_of (T' := T24) (f' := (mkF m 32 #[.val (.ref a1), .val (.int (2 : Int32)), .val (.ref a3), .val (.int (2 : Int32)), .val (.int (3 : Int32)), .val (.int (2 : Int32)), .val (.int c2)] [])) (fun t_ k_ => (st24 _ k_)) ?_
        have f25 := Arv.set Ar23 qq23 Sz23 Nn23 Hh23 Gg23 (fits_nar_byte _) W24 2 rfl (Nat.le_of_ble_eq_true rfl)
        have N24 := Fr.snoc X24 N14 g_a3
        have f26 := f16.wr W24 (Or.inl (List.mem_of_getElem? (i := 0) rfl))
        have f27 := Nat.le_trans f17 (Keep.of_wr W24).1
        have f28 := f18.wr W24
        have f29 := f19.other W24 ne13
        refine own_of (T' := T24) (f' := (mkF m 41 #[.val (.ref a1), .val (.int ((2 : Int32) + (1 : Int32))), .val (.ref a3), .val (.int ((2 : Int32) + (1 : Int32))), .val (.int (3 : Int32)), .val (.int ((2 : Int32) + (1 : Int32))), .val (.int c2)] [])) (fun t_ k_ => (XS.iinc X24.here hx rfl (Jvm.hb hby own_d_jdk_52_method_21_code_32) rfl (l' := #[.val (.ref a1), .val (.int ((2 : Int32) + (1 : Int32))), .val (.ref a3), .val (.int (2 : Int32)), .val (.int (3 : Int32)), .val (.int (2 : Int32)), .val (.int c2)]) rfl (XS.iinc X24.here hx rfl (Jvm.hb hby own_d_jdk_52_method_21_code_35) rfl (l' := #[.val (.ref a1), .val (.int ((2 : Int32) + (1 : Int32))), .val (.ref a3), .val (.int ((2 : Int32) + (1 : Int32))), .val (.int (3 : Int32)), .val (.int (2 : Int32)), .val (.int c2)]) rfl (XS.iinc X24.here hx rfl (Jvm.hb hby own_d_jdk_52_method_21_code_38) rfl (l' := #[.val (.ref a1), .val (.int ((2 : Int32) + (1 : Int32))), .val (.ref a3), .val (.int ((2 : Int32) + (1 : Int32))), .val (.int (3 : Int32)), .val (.int ((2 : Int32) + (1 : Int32))), .val (.int c2)]) rfl k_)))) ?_
        try rw [(by decide : ((2 : Int32) + (1 : Int32)) = (3 : Int32))]
        try rw [(by decide : ((2 : Int32) + (1 : Int32)) = (3 : Int32))]
        try rw [(by decide : ((2 : Int32) + (1 : Int32)) = (3 : Int32))]
        refine own_of (T' := T24) (f' := (mkF m 7 #[.val (.ref a1), .val (.int (3 : Int32)), .val (.ref a3), .val (.int (3 : Int32)), .val (.int (3 : Int32)), .val (.int (3 : Int32)), .val (.int c2)] [(.int (3 : Int32)), (.int (3 : Int32))])) (fun t_ k_ => (XS.goto X24.here hx rfl (pc0 := 41) (pc' := 3) rfl (Jvm.hb hby own_d_jdk_52_method_21_code_41) (by decide) (by decide) (XS.iload X24.here hx rfl (Jvm.hb hby own_d_jdk_52_method_21_code_3) rfl (XS.iload X24.here hx rfl (Jvm.hb hby own_d_jdk_52_method_21_code_5) rfl k_)))) ?_
        exact absurd hwd (by simp only [hc20_2, hc20_12, hc20_22, or_self, not_false_eq_true])
theorem own_ef_cp3_3 (m : MethodId) (a1 : Addr) (p2 : Int32) (p3 : Int32) : entryFrame m #[(.ref a1), (.int p2), (.int p3)] 6 = mkF m 0 #[.val (.ref a1), .val (.int p2), .val (.int p3), .unset, .unset, .unset] [] := by first | (simp [entryFrame, mkF, argsToLocals, Value.category]; done) | rfl
def own_Q_cp3_3 (Z : State) (a1 : Addr) (p2 : Int32) (p3 : Int32) (c0 c1 c2 : Int32) (kc : ClassId) (h0 : Heap) (n0 : Nat) (v : Option Value) (h : Heap) (L : List Loc) : Prop := ∃ b k, v = some (.ref b) ∧ Fr n0 L ∧ Keep h0 h [] ∧ h0.size ≤ b ∧ Exa Z h b "[B" ∧ Arv Z h b k .byte (6 : Int32) [(.int (StrChars.lo8 c0)), (.int (StrChars.hi8 c0)), (.int (StrChars.lo8 c1)), (.int (StrChars.hi8 c1)), (.int (StrChars.lo8 c2)), (.int (StrChars.hi8 c2))] (.int 0)
set_option maxRecDepth 65536 in
set_option maxHeartbeats 40000000 in
theorem own_rm_cp3_3 (l : Launch) (Z : State) (a0 : Array Value) (hw : ∀ d ∈ tables_1, d.before a0 Z = true) (ws : List Jvm.Cond) (a1 : Addr) (p2 : Int32) (p3 : Int32) (c0 c1 c2 : Int32) (kc : ClassId) (h0 : Heap) (n0 : Nat) (Z0 : n0 ≤ h0.size) (S1 : Sta Z h0 "java/lang/StringUTF16" "$assertionsDisabled" "Z" (.int 1)) (S2 : Sta Z h0 "java/lang/StringUTF16" "HI_BYTE_SHIFT" "I" (.int 0)) (S3 : Sta Z h0 "java/lang/StringUTF16" "LO_BYTE_SHIFT" "I" (.int 8)) (Vc : Arv Z h0 a1 kc .char (3 : Int32) [(.int c0), (.int c1), (.int c2)] (.int 0)) (hp2 : p2 = 0) (hp3 : p3 = (3 : Int32)) (hr : ∀ c ∈ ([c0, c1, c2] : List Int32), ¬ c < 0 ∧ ¬ (65535 : Int32) < c) (hwd : (255 : Int32) < c0 ∨ (255 : Int32) < c1 ∨ (255 : Int32) < c2) :
    MetFree l (⟨"java/lang/StringUTF16", "compress", "([CII)[B"⟩ : MethodName) (head1 (Jvm.Cond.code (⟨"java/lang/StringUTF16", "compress", "([CII)[B"⟩ : MethodName) jdk_52_method_16_code 6 (some (.array .byte)) :: ws) ({ frames := 3, cells := 2, slots := 9, locals := 40 } : Room)) (fun a U => a = #[(.ref a1), (.int p2), (.int p3)] ∧ Z.Warmed39 U.vm ∧ U.heap = h0) (fun _ _ _ _ _ => True) (fun _ U o U' => ∃ v L, o = .returned v ∧ own_Q_cp3_3 Z a1 p2 p3 c0 c1 c2 kc h0 n0 v U'.heap L ∧ FrameEnd U o U' L ({ frames := 3, cells := 2, slots := 9, locals := 40 } : Room).cells ({ frames := 3, cells := 2, slots := 9, locals := 40 } : Room).slots) := by
  refine MetFree.of_bodySF (plainFor_of_name own_pn_0) hisR ?_
  intro p e s m args below meth c s₁ Bd hml0 hP hK
  obtain ⟨rfl, hZ, hh⟩ := hP
  have hx := Bd.exec
  have hby := Bd.bytes
  have hml : c.maxLocals = 6 := hml0
  have hown : s.vm.findClass "java/lang/StringUTF16" = some m.cls := findClass_of_methodNamed Bd.named
  have hnm := (name_of_methodNamed Bd.named Bd.method).1
  have X0 : Stand p l e ({ frames := 3, cells := 2, slots := 9, locals := 40 } : Room) s m #[(.ref a1), (.int p2), (.int p3)] below meth c s₁ [] 0 0 := Stand.of_body Bd
  have e0 : s₁.heap = h0 := by rw [← hh, Bd.state]; rfl
  have N0 := Fr.nil n0
  refine own_start (own_ef_cp3_3 m a1 p2 p3 ) ?_
  subst hp2 hp3
  have K0 : Keep h0 h0 [] := Keep.refl _ _
  refine own_of (T' := s₁) (f' := (mkF m 1 #[.val (.ref a1), .val (.int (0 : Int32)), .val (.int (3 : Int32)), .unset, .unset, .unset] [(.int (3 : Int32))])) (fun t_ k_ => (XS.iloadN X0.here hx rfl (Jvm.hb hby own_d_jdk_52_method_16_code_0) rfl k_)) ?_
  obtain ⟨T1, h1, k1, X1, e1, E1, A1, Ex1, st1⟩ := newPE X0 hx hZ (hw _ (List.mem_of_getElem? (i := 20) rfl)) e0 (g := (mkF m 1 #[.val (.ref a1), .val (.int (0 : Int32)), .val (.int (3 : Int32)), .unset, .unset, .unset] [(.int (3 : Int32))])) rfl (Jvm.hb hby own_d_jdk_52_method_16_code_1) rfl (by decide) (cap := 3) (by decide) (by decide) (by decide) (by decide) (ad := "[B") (by decide)
  obtain ⟨bb, g1⟩ : ∃ z, z = h0.size := ⟨_, rfl⟩
  rw [← g1] at A1 Ex1 st1
  have ne_a1_bb : a1 ≠ bb := by rw [g1]; exact Nat.ne_of_lt Vc.lt
  have g_bb : n0 ≤ bb := Nat.le_trans Z0 (Nat.le_of_eq g1.symm)
  have sz_bb : h0.size ≤ bb := Nat.le_trans K0.1 (Nat.le_of_eq g1.symm)
  have f2 := K0.ext E1
  have f3 := Nat.le_trans Z0 E1.1
  have f4 := S1.ext E1
  have f5 := S2.ext E1
  have f6 := S3.ext E1
  have f7 := Vc.ext E1
  have f8 : Arv Z h1 bb k1 .byte (3 : Int32) [(.int (0 : Int32)), (.int (0 : Int32)), (.int (0 : Int32))] (.int (0 : Int32)) := (Arv.new A1 (by decide)).pad (pad_rep [] (.int (0 : Int32)) 3)
  refine own_of (T' := T1) (f' := (mkF m 9 #[.val (.ref a1), .val (.int (0 : Int32)), .val (.int (3 : Int32)), .val (.ref bb), .unset, .unset] [(.int (3 : Int32)), (.int (0 : Int32)), (.ref bb), (.int (0 : Int32)), (.ref a1)])) (fun t_ k_ => (st1 _ (XS.astoreN X1.here hx rfl (Jvm.hb hby own_d_jdk_52_method_16_code_3) rfl rfl (l' := #[.val (.ref a1), .val (.int (0 : Int32)), .val (.int (3 : Int32)), .val (.ref bb), .unset, .unset]) rfl (XS.aloadN X1.here hx rfl (Jvm.hb hby own_d_jdk_52_method_16_code_4) rfl rfl (XS.iloadN X1.here hx rfl (Jvm.hb hby own_d_jdk_52_method_16_code_5) rfl (XS.aloadN X1.here hx rfl (Jvm.hb hby own_d_jdk_52_method_16_code_6) rfl rfl (XS.iconst X1.here hx rfl (Jvm.hb hby own_d_jdk_52_method_16_code_7) (XS.iloadN X1.here hx rfl (Jvm.hb hby own_d_jdk_52_method_16_code_8) rfl k_)))))))) ?_
  obtain ⟨_, _, ⟨T9, L9, k9, n9⟩, -, X9, ⟨Lc9, hQ9, l9, y9, z9⟩, st9⟩ := Jvm.LawKit.callS X1 hx (y := (⟨"java/lang/StringUTF16", "compress", "([CI[BII)I"⟩ : MethodName)) hown (mvT hZ (hw _ (List.mem_of_getElem? (i := 21) rfl))) (mvT hZ (hw _ (List.mem_of_getElem? (i := 22) rfl))) (mvT hZ (hw _ (List.mem_of_getElem? (i := 18) rfl))) (mvT hZ (hw _ (List.mem_of_getElem? (i := 23) rfl))) (by decide) (backOf (W := 0) (own_rm_cp5_3 l Z a0 hw [] a1 (0 : Int32) bb (0 : Int32) (3 : Int32) c0 c1 c2 kc k1 h1 n0 f3 f7 f8 ne_a1_bb g_bb Ex1 rfl rfl rfl hwd) hZ (hw _ (List.mem_of_getElem? (i := 23) rfl)) (hw _ (List.mem_of_getElem? (i := 18) rfl)) (by decide) (by decide)) (g := (mkF m 9 #[.val (.ref a1), .val (.int (0 : Int32)), .val (.int (3 : Int32)), .val (.ref bb), .unset, .unset] [(.int (3 : Int32)), (.int (0 : Int32)), (.ref bb), (.int (0 : Int32)), (.ref a1)])) rfl (by rw [hml]; rfl) (argsL := [(.ref a1), (.int (0 : Int32)), (.ref bb), (.int (0 : Int32)), (.int (3 : Int32))]) (rest := []) (lenOf own_pd_3 rfl) rfl (by show 2 * 0 + _ ≤ _; exact Nat.le_of_eq rfl) (Jvm.hb hby own_d_jdk_52_method_16_code_9) (fun _ _ => ⟨rfl, e1, Nat.le_of_ble_eq_true rfl, Nat.le_of_ble_eq_true rfl⟩)
  dsimp only [Pt.U, Pt.locs, Pt.cells, Pt.slots] at X9 l9 y9 z9 st9 hQ9
  subst l9 y9 z9
  obtain ⟨N9, K9, hj9⟩ := hQ9
  have N10 := Fr.app N0 N9
  have f11 := f2.trans K9 (allS (Or.inr sz_bb) all0)
  have f12 := Nat.le_trans f3 K9.1
  have f13 := own_stakeep f4 K9 (allS (own_plainE Ex1) all0)
  have f14 := own_stakeep f5 K9 (allS (own_plainE Ex1) all0)
  have f15 := own_stakeep f6 K9 (allS (own_plainE Ex1) all0)
  have f16 := f7.keep K9 (ninS ne_a1_bb nin0)
  have f17 := Ex1.keep K9
  rcases hj9 with ⟨rfl, hj⟩ | ⟨rfl, hj⟩ | ⟨rfl, hj⟩
  · skip
    refine own_of (T' := T9) (f' := (mkF m 23 #[.val (.ref a1), .val (.int (0 : Int32)), .val (.int (3 : Int32)), .val (.ref bb), .val (.int (0 : Int32)), .unset] [(.int (3 : Int32)), (.int (0 : Int32)), (.ref a1)])) (fun t_ k_ => (st9 _ (XS.istore X9.here hx rfl (Jvm.hb hby own_d_jdk_52_method_16_code_12) rfl (l' := #[.val (.ref a1), .val (.int (0 : Int32)), .val (.int (3 : Int32)), .val (.ref bb), .val (.int (0 : Int32)), .unset]) rfl (XS.iload X9.here hx rfl (Jvm.hb hby own_d_jdk_52_method_16_code_14) rfl (XS.iloadN X9.here hx rfl (Jvm.hb hby own_d_jdk_52_method_16_code_16) rfl (XS.icmpNo X9.here hx rfl (Jvm.hb hby own_d_jdk_52_method_16_code_17) rfl (feq (by decide)).1 (XS.aloadN X9.here hx rfl (Jvm.hb hby own_d_jdk_52_method_16_code_20) rfl rfl (XS.iloadN X9.here hx rfl (Jvm.hb hby own_d_jdk_52_method_16_code_21) rfl (XS.iloadN X9.here hx rfl (Jvm.hb hby own_d_jdk_52_method_16_code_22) rfl k_))))))))) ?_
    obtain ⟨_, _, ⟨T19, L19, k19, n19⟩, -, X19, ⟨Lc19, hQ19, l19, y19, z19⟩, st19⟩ := Jvm.LawKit.callS X9 hx (y := (⟨"java/lang/StringUTF16", "toBytes", "([CII)[B"⟩ : MethodName)) hown (mvT hZ (hw _ (List.mem_of_getElem? (i := 98) rfl))) (mvT hZ (hw _ (List.mem_of_getElem? (i := 99) rfl))) (mvT hZ (hw _ (List.mem_of_getElem? (i := 18) rfl))) (mvT hZ (hw _ (List.mem_of_getElem? (i := 100) rfl))) (by decide) (backOf (W := 0) (own_rm_tob3 l Z a0 hw [] a1 (0 : Int32) (3 : Int32) c0 c1 c2 kc T9.heap n0 f12 f13 f14 f15 f16 rfl rfl) hZ (hw _ (List.mem_of_getElem? (i := 100) rfl)) (hw _ (List.mem_of_getElem? (i := 18) rfl)) (by decide) (by decide)) (g := (mkF m 23 #[.val (.ref a1), .val (.int (0 : Int32)), .val (.int (3 : Int32)), .val (.ref bb), .val (.int (0 : Int32)), .unset] [(.int (3 : Int32)), (.int (0 : Int32)), (.ref a1)])) rfl (by rw [hml]; rfl) (argsL := [(.ref a1), (.int (0 : Int32)), (.int (3 : Int32))]) (rest := []) (lenOf own_pd_4 rfl) rfl (by show 2 * 0 + _ ≤ _; exact Nat.le_of_eq rfl) (Jvm.hb hby own_d_jdk_52_method_16_code_23) (fun _ _ => ⟨rfl, rfl, Nat.le_of_ble_eq_true rfl, Nat.le_of_ble_eq_true rfl⟩)
    dsimp only [Pt.U, Pt.locs, Pt.cells, Pt.slots] at X19 l19 y19 z19 st19 hQ19
    subst l19 y19 z19
    obtain ⟨tb, kt, rfl, N19, K19, sztb, Etb, Vtb⟩ := hQ19
    have ne_a1_tb : a1 ≠ tb := Nat.ne_of_lt (Nat.lt_of_lt_of_le f16.lt sztb)
    have ne_bb_tb : bb ≠ tb := Nat.ne_of_lt (Nat.lt_of_lt_of_le f17.lt sztb)
    have g_tb : n0 ≤ tb := Nat.le_trans f12 sztb
    have sz_tb : h0.size ≤ tb := Nat.le_trans f11.1 sztb
    have N20 := Fr.app N10 N19
    have f21 := f11.trans K19 all0
    have f22 := Nat.le_trans f12 K19.1
    have f23 := own_stakeep f13 K19 all0
    have f24 := own_stakeep f14 K19 all0
    have f25 := own_stakeep f15 K19 all0
    have f26 := f16.keep K19 nin0
    have f27 := f17.keep K19
    refine own_of (T' := T19) (f' := (mkF m 32 #[.val (.ref a1), .val (.int (0 : Int32)), .val (.int (3 : Int32)), .val (.ref bb), .val (.int (0 : Int32)), .val (.ref tb)] [(.int (0 : Int32)), (.ref tb)])) (fun t_ k_ => (st19 _ (XS.astore X19.here hx rfl (Jvm.hb hby own_d_jdk_52_method_16_code_26) rfl rfl (l' := #[.val (.ref a1), .val (.int (0 : Int32)), .val (.int (3 : Int32)), .val (.ref bb), .val (.int (0 : Int32)), .val (.ref tb)]) rfl (XS.aload X19.here hx rfl (Jvm.hb hby own_d_jdk_52_method_16_code_28) rfl rfl (XS.iload X19.here hx rfl (Jvm.hb hby own_d_jdk_52_method_16_code_30) rfl k_))))) ?_
    obtain ⟨_, _, ⟨T28, L28, k28, n28⟩, -, X28, ⟨Lc28, hQ28, l28, y28, z28⟩, st28⟩ := Jvm.LawKit.callS X19 hx (y := (⟨"java/lang/StringUTF16", "getChar", "([BI)C"⟩ : MethodName)) hown (mvT hZ (hw _ (List.mem_of_getElem? (i := 114) rfl))) (mvT hZ (hw _ (List.mem_of_getElem? (i := 115) rfl))) (mvT hZ (hw _ (List.mem_of_getElem? (i := 18) rfl))) (mvT hZ (hw _ (List.mem_of_getElem? (i := 116) rfl))) (by decide) (backOf (W := 0) (own_rm_gch0 l Z a0 hw [] tb (0 : Int32) kt (6 : Int32) [(.int (StrChars.lo8 c0)), (.int (StrChars.hi8 c0)), (.int (StrChars.lo8 c1)), (.int (StrChars.hi8 c1)), (.int (StrChars.lo8 c2)), (.int (StrChars.hi8 c2))] c0 T19.heap n0 f22 f23 f24 f25 Vtb rfl (by decide) (by decide) rfl rfl (hr c0 (by simp))) hZ (hw _ (List.mem_of_getElem? (i := 116) rfl)) (hw _ (List.mem_of_getElem? (i := 18) rfl)) (by decide) (by decide)) (g := (mkF m 32 #[.val (.ref a1), .val (.int (0 : Int32)), .val (.int (3 : Int32)), .val (.ref bb), .val (.int (0 : Int32)), .val (.ref tb)] [(.int (0 : Int32)), (.ref tb)])) rfl (by rw [hml]; rfl) (argsL := [(.ref tb), (.int (0 : Int32))]) (rest := []) (lenOf own_pd_5 rfl) rfl (by show 2 * 0 + _ ≤ _; exact Nat.le_of_eq rfl) (Jvm.hb hby own_d_jdk_52_method_16_code_32) (fun _ _ => ⟨rfl, rfl, Nat.le_of_ble_eq_true rfl, Nat.le_of_ble_eq_true rfl⟩)
    dsimp only [Pt.U, Pt.locs, Pt.cells, Pt.slots] at X28 l28 y28 z28 st28 hQ28
    subst l28 y28 z28
    obtain ⟨rfl, N28, e28⟩ := hQ28
    have N29 := Fr.app N20 N28
    refine own_of (T' := T28) (f' := (mkF m 56 #[.val (.ref a1), .val (.int (0 : Int32)), .val (.int (3 : Int32)), .val (.ref bb), .val (.int (0 : Int32)), .val (.ref tb)] [(.ref tb)])) (fun t_ k_ => (st28 _ (XS.sipush X28.here hx rfl (Jvm.hb hby own_d_jdk_52_method_16_code_35) (XS.icmpYes X28.here hx rfl (pc0 := 38) (pc' := 54) rfl (Jvm.hb hby own_d_jdk_52_method_16_code_38) rfl (tlt hj).2.2.1 (by decide) (by decide) (XS.aload X28.here hx rfl (Jvm.hb hby own_d_jdk_52_method_16_code_54) rfl rfl k_))))) ?_
    obtain ⟨fs, hr, hrun, hended, hW, hsame⟩ := X28.leave (v := some (.ref tb)) (fun h => by rw [Bd.returns] at h; cases h)
    exact ⟨_, _, own_retA X28 hx Bd.returns rfl rfl rfl (Jvm.hb hby own_d_jdk_52_method_16_code_56) hr, hrun, hended, _, _, rfl, (by show own_Q_cp3_3 Z a1 0 (3 : Int32) c0 c1 c2 kc h0 n0 _ T28.heap _; rw [e28]; exact ⟨tb, kt, rfl, N29, f21, sz_tb, Etb, Vtb⟩), ⟨_, rfl⟩, hW, hsame.mono (by decide) (by decide)⟩
  · skip
    refine own_of (T' := T9) (f' := (mkF m 23 #[.val (.ref a1), .val (.int (0 : Int32)), .val (.int (3 : Int32)), .val (.ref bb), .val (.int (1 : Int32)), .unset] [(.int (3 : Int32)), (.int (0 : Int32)), (.ref a1)])) (fun t_ k_ => (st9 _ (XS.istore X9.here hx rfl (Jvm.hb hby own_d_jdk_52_method_16_code_12) rfl (l' := #[.val (.ref a1), .val (.int (0 : Int32)), .val (.int (3 : Int32)), .val (.ref bb), .val (.int (1 : Int32)), .unset]) rfl (XS.iload X9.here hx rfl (Jvm.hb hby own_d_jdk_52_method_16_code_14) rfl (XS.iloadN X9.here hx rfl (Jvm.hb hby own_d_jdk_52_method_16_code_16) rfl (XS.icmpNo X9.here hx rfl (Jvm.hb hby own_d_jdk_52_method_16_code_17) rfl (feq (by decide)).1 (XS.aloadN X9.here hx rfl (Jvm.hb hby own_d_jdk_52_method_16_code_20) rfl rfl (XS.iloadN X9.here hx rfl (Jvm.hb hby own_d_jdk_52_method_16_code_21) rfl (XS.iloadN X9.here hx rfl (Jvm.hb hby own_d_jdk_52_method_16_code_22) rfl k_))))))))) ?_
    obtain ⟨_, _, ⟨T30, L30, k30, n30⟩, -, X30, ⟨Lc30, hQ30, l30, y30, z30⟩, st30⟩ := Jvm.LawKit.callS X9 hx (y := (⟨"java/lang/StringUTF16", "toBytes", "([CII)[B"⟩ : MethodName)) hown (mvT hZ (hw _ (List.mem_of_getElem? (i := 98) rfl))) (mvT hZ (hw _ (List.mem_of_getElem? (i := 99) rfl))) (mvT hZ (hw _ (List.mem_of_getElem? (i := 18) rfl))) (mvT hZ (hw _ (List.mem_of_getElem? (i := 100) rfl))) (by decide) (backOf (W := 0) (own_rm_tob3 l Z a0 hw [] a1 (0 : Int32) (3 : Int32) c0 c1 c2 kc T9.heap n0 f12 f13 f14 f15 f16 rfl rfl) hZ (hw _ (List.mem_of_getElem? (i := 100) rfl)) (hw _ (List.mem_of_getElem? (i := 18) rfl)) (by decide) (by decide)) (g := (mkF m 23 #[.val (.ref a1), .val (.int (0 : Int32)), .val (.int (3 : Int32)), .val (.ref bb), .val (.int (1 : Int32)), .unset] [(.int (3 : Int32)), (.int (0 : Int32)), (.ref a1)])) rfl (by rw [hml]; rfl) (argsL := [(.ref a1), (.int (0 : Int32)), (.int (3 : Int32))]) (rest := []) (lenOf own_pd_4 rfl) rfl (by show 2 * 0 + _ ≤ _; exact Nat.le_of_eq rfl) (Jvm.hb hby own_d_jdk_52_method_16_code_23) (fun _ _ => ⟨rfl, rfl, Nat.le_of_ble_eq_true rfl, Nat.le_of_ble_eq_true rfl⟩)
    dsimp only [Pt.U, Pt.locs, Pt.cells, Pt.slots] at X30 l30 y30 z30 st30 hQ30
    subst l30 y30 z30
    obtain ⟨tb, kt, rfl, N30, K30, sztb, Etb, Vtb⟩ := hQ30
    have ne_a1_tb : a1 ≠ tb := Nat.ne_of_lt (Nat.lt_of_lt_of_le f16.lt sztb)
    have ne_bb_tb : bb ≠ tb := Nat.ne_of_lt (Nat.lt_of_lt_of_le f17.lt sztb)
    have g_tb : n0 ≤ tb := Nat.le_trans f12 sztb
    have sz_tb : h0.size ≤ tb := Nat.le_trans f11.1 sztb
    have N31 := Fr.app N10 N30
    have f32 := f11.trans K30 all0
    have f33 := Nat.le_trans f12 K30.1
    have f34 := own_stakeep f13 K30 all0
    have f35 := own_stakeep f14 K30 all0
    have f36 := own_stakeep f15 K30 all0
    have f37 := f16.keep K30 nin0
    have f38 := f17.keep K30
    refine own_of (T' := T30) (f' := (mkF m 32 #[.val (.ref a1), .val (.int (0 : Int32)), .val (.int (3 : Int32)), .val (.ref bb), .val (.int (1 : Int32)), .val (.ref tb)] [(.int (1 : Int32)), (.ref tb)])) (fun t_ k_ => (st30 _ (XS.astore X30.here hx rfl (Jvm.hb hby own_d_jdk_52_method_16_code_26) rfl rfl (l' := #[.val (.ref a1), .val (.int (0 : Int32)), .val (.int (3 : Int32)), .val (.ref bb), .val (.int (1 : Int32)), .val (.ref tb)]) rfl (XS.aload X30.here hx rfl (Jvm.hb hby own_d_jdk_52_method_16_code_28) rfl rfl (XS.iload X30.here hx rfl (Jvm.hb hby own_d_jdk_52_method_16_code_30) rfl k_))))) ?_
    obtain ⟨_, _, ⟨T39, L39, k39, n39⟩, -, X39, ⟨Lc39, hQ39, l39, y39, z39⟩, st39⟩ := Jvm.LawKit.callS X30 hx (y := (⟨"java/lang/StringUTF16", "getChar", "([BI)C"⟩ : MethodName)) hown (mvT hZ (hw _ (List.mem_of_getElem? (i := 114) rfl))) (mvT hZ (hw _ (List.mem_of_getElem? (i := 115) rfl))) (mvT hZ (hw _ (List.mem_of_getElem? (i := 18) rfl))) (mvT hZ (hw _ (List.mem_of_getElem? (i := 116) rfl))) (by decide) (backOf (W := 0) (own_rm_gch1 l Z a0 hw [] tb (1 : Int32) kt (6 : Int32) [(.int (StrChars.lo8 c0)), (.int (StrChars.hi8 c0)), (.int (StrChars.lo8 c1)), (.int (StrChars.hi8 c1)), (.int (StrChars.lo8 c2)), (.int (StrChars.hi8 c2))] c1 T30.heap n0 f33 f34 f35 f36 Vtb rfl (by decide) (by decide) rfl rfl (hr c1 (by simp))) hZ (hw _ (List.mem_of_getElem? (i := 116) rfl)) (hw _ (List.mem_of_getElem? (i := 18) rfl)) (by decide) (by decide)) (g := (mkF m 32 #[.val (.ref a1), .val (.int (0 : Int32)), .val (.int (3 : Int32)), .val (.ref bb), .val (.int (1 : Int32)), .val (.ref tb)] [(.int (1 : Int32)), (.ref tb)])) rfl (by rw [hml]; rfl) (argsL := [(.ref tb), (.int (1 : Int32))]) (rest := []) (lenOf own_pd_5 rfl) rfl (by show 2 * 0 + _ ≤ _; exact Nat.le_of_eq rfl) (Jvm.hb hby own_d_jdk_52_method_16_code_32) (fun _ _ => ⟨rfl, rfl, Nat.le_of_ble_eq_true rfl, Nat.le_of_ble_eq_true rfl⟩)
    dsimp only [Pt.U, Pt.locs, Pt.cells, Pt.slots] at X39 l39 y39 z39 st39 hQ39
    subst l39 y39 z39
    obtain ⟨rfl, N39, e39⟩ := hQ39
    have N40 := Fr.app N31 N39
    refine own_of (T' := T39) (f' := (mkF m 56 #[.val (.ref a1), .val (.int (0 : Int32)), .val (.int (3 : Int32)), .val (.ref bb), .val (.int (1 : Int32)), .val (.ref tb)] [(.ref tb)])) (fun t_ k_ => (st39 _ (XS.sipush X39.here hx rfl (Jvm.hb hby own_d_jdk_52_method_16_code_35) (XS.icmpYes X39.here hx rfl (pc0 := 38) (pc' := 54) rfl (Jvm.hb hby own_d_jdk_52_method_16_code_38) rfl (tlt hj).2.2.1 (by decide) (by decide) (XS.aload X39.here hx rfl (Jvm.hb hby own_d_jdk_52_method_16_code_54) rfl rfl k_))))) ?_
    obtain ⟨fs, hr, hrun, hended, hW, hsame⟩ := X39.leave (v := some (.ref tb)) (fun h => by rw [Bd.returns] at h; cases h)
    exact ⟨_, _, own_retA X39 hx Bd.returns rfl rfl rfl (Jvm.hb hby own_d_jdk_52_method_16_code_56) hr, hrun, hended, _, _, rfl, (by show own_Q_cp3_3 Z a1 0 (3 : Int32) c0 c1 c2 kc h0 n0 _ T39.heap _; rw [e39]; exact ⟨tb, kt, rfl, N40, f32, sz_tb, Etb, Vtb⟩), ⟨_, rfl⟩, hW, hsame.mono (by decide) (by decide)⟩
  · skip
    refine own_of (T' := T9) (f' := (mkF m 23 #[.val (.ref a1), .val (.int (0 : Int32)), .val (.int (3 : Int32)), .val (.ref bb), .val (.int (2 : Int32)), .unset] [(.int (3 : Int32)), (.int (0 : Int32)), (.ref a1)])) (fun t_ k_ => (st9 _ (XS.istore X9.here hx rfl (Jvm.hb hby own_d_jdk_52_method_16_code_12) rfl (l' := #[.val (.ref a1), .val (.int (0 : Int32)), .val (.int (3 : Int32)), .val (.ref bb), .val (.int (2 : Int32)), .unset]) rfl (XS.iload X9.here hx rfl (Jvm.hb hby own_d_jdk_52_method_16_code_14) rfl (XS.iloadN X9.here hx rfl (Jvm.hb hby own_d_jdk_52_method_16_code_16) rfl (XS.icmpNo X9.here hx rfl (Jvm.hb hby own_d_jdk_52_method_16_code_17) rfl (feq (by decide)).1 (XS.aloadN X9.here hx rfl (Jvm.hb hby own_d_jdk_52_method_16_code_20) rfl rfl (XS.iloadN X9.here hx rfl (Jvm.hb hby own_d_jdk_52_method_16_code_21) rfl (XS.iloadN X9.here hx rfl (Jvm.hb hby own_d_jdk_52_method_16_code_22) rfl k_))))))))) ?_
    obtain ⟨_, _, ⟨T41, L41, k41, n41⟩, -, X41, ⟨Lc41, hQ41, l41, y41, z41⟩, st41⟩ := Jvm.LawKit.callS X9 hx (y := (⟨"java/lang/StringUTF16", "toBytes", "([CII)[B"⟩ : MethodName)) hown (mvT hZ (hw _ (List.mem_of_getElem? (i := 98) rfl))) (mvT hZ (hw _ (List.mem_of_getElem? (i := 99) rfl))) (mvT hZ (hw _ (List.mem_of_getElem? (i := 18) rfl))) (mvT hZ (hw _ (List.mem_of_getElem? (i := 100) rfl))) (by decide) (backOf (W := 0) (own_rm_tob3 l Z a0 hw [] a1 (0 : Int32) (3 : Int32) c0 c1 c2 kc T9.heap n0 f12 f13 f14 f15 f16 rfl rfl) hZ (hw _ (List.mem_of_getElem? (i := 100) rfl)) (hw _ (List.mem_of_getElem? (i := 18) rfl)) (by decide) (by decide)) (g := (mkF m 23 #[.val (.ref a1), .val (.int (0 : Int32)), .val (.int (3 : Int32)), .val (.ref bb), .val (.int (2 : Int32)), .unset] [(.int (3 : Int32)), (.int (0 : Int32)), (.ref a1)])) rfl (by rw [hml]; rfl) (argsL := [(.ref a1), (.int (0 : Int32)), (.int (3 : Int32))]) (rest := []) (lenOf own_pd_4 rfl) rfl (by show 2 * 0 + _ ≤ _; exact Nat.le_of_eq rfl) (Jvm.hb hby own_d_jdk_52_method_16_code_23) (fun _ _ => ⟨rfl, rfl, Nat.le_of_ble_eq_true rfl, Nat.le_of_ble_eq_true rfl⟩)
    dsimp only [Pt.U, Pt.locs, Pt.cells, Pt.slots] at X41 l41 y41 z41 st41 hQ41
    subst l41 y41 z41
    obtain ⟨tb, kt, rfl, N41, K41, sztb, Etb, Vtb⟩ := hQ41
    have ne_a1_tb : a1 ≠ tb := Nat.ne_of_lt (Nat.lt_of_lt_of_le f16.lt sztb)
    have ne_bb_tb : bb ≠ tb := Nat.ne_of_lt (Nat.lt_of_lt_of_le f17.lt sztb)
    have g_tb : n0 ≤ tb := Nat.le_trans f12 sztb
    have sz_tb : h0.size ≤ tb := Nat.le_trans f11.1 sztb
    have N42 := Fr.app N10 N41
    have f43 := f11.trans K41 all0
    have f44 := Nat.le_trans f12 K41.1
    have f45 := own_stakeep f13 K41 all0
    have f46 := own_stakeep f14 K41 all0
    have f47 := own_stakeep f15 K41 all0
    have f48 := f16.keep K41 nin0
    have f49 := f17.keep K41
    refine own_of (T' := T41) (f' := (mkF m 32 #[.val (.ref a1), .val (.int (0 : Int32)), .val (.int (3 : Int32)), .val (.ref bb), .val (.int (2 : Int32)), .val (.ref tb)] [(.int (2 : Int32)), (.ref tb)])) (fun t_ k_ => (st41 _ (XS.astore X41.here hx rfl (Jvm.hb hby own_d_jdk_52_method_16_code_26) rfl rfl (l' := #[.val (.ref a1), .val (.int (0 : Int32)), .val (.int (3 : Int32)), .val (.ref bb), .val (.int (2 : Int32)), .val (.ref tb)]) rfl (XS.aload X41.here hx rfl (Jvm.hb hby own_d_jdk_52_method_16_code_28) rfl rfl (XS.iload X41.here hx rfl (Jvm.hb hby own_d_jdk_52_method_16_code_30) rfl k_))))) ?_
    obtain ⟨_, _, ⟨T50, L50, k50, n50⟩, -, X50, ⟨Lc50, hQ50, l50, y50, z50⟩, st50⟩ := Jvm.LawKit.callS X41 hx (y := (⟨"java/lang/StringUTF16", "getChar", "([BI)C"⟩ : MethodName)) hown (mvT hZ (hw _ (List.mem_of_getElem? (i := 114) rfl))) (mvT hZ (hw _ (List.mem_of_getElem? (i := 115) rfl))) (mvT hZ (hw _ (List.mem_of_getElem? (i := 18) rfl))) (mvT hZ (hw _ (List.mem_of_getElem? (i := 116) rfl))) (by decide) (backOf (W := 0) (own_rm_gch2 l Z a0 hw [] tb (2 : Int32) kt (6 : Int32) [(.int (StrChars.lo8 c0)), (.int (StrChars.hi8 c0)), (.int (StrChars.lo8 c1)), (.int (StrChars.hi8 c1)), (.int (StrChars.lo8 c2)), (.int (StrChars.hi8 c2))] c2 T41.heap n0 f44 f45 f46 f47 Vtb rfl (by decide) (by decide) rfl rfl (hr c2 (by simp))) hZ (hw _ (List.mem_of_getElem? (i := 116) rfl)) (hw _ (List.mem_of_getElem? (i := 18) rfl)) (by decide) (by decide)) (g := (mkF m 32 #[.val (.ref a1), .val (.int (0 : Int32)), .val (.int (3 : Int32)), .val (.ref bb), .val (.int (2 : Int32)), .val (.ref tb)] [(.int (2 : Int32)), (.ref tb)])) rfl (by rw [hml]; rfl) (argsL := [(.ref tb), (.int (2 : Int32))]) (rest := []) (lenOf own_pd_5 rfl) rfl (by show 2 * 0 + _ ≤ _; exact Nat.le_of_eq rfl) (Jvm.hb hby own_d_jdk_52_method_16_code_32) (fun _ _ => ⟨rfl, rfl, Nat.le_of_ble_eq_true rfl, Nat.le_of_ble_eq_true rfl⟩)
    dsimp only [Pt.U, Pt.locs, Pt.cells, Pt.slots] at X50 l50 y50 z50 st50 hQ50
    subst l50 y50 z50
    obtain ⟨rfl, N50, e50⟩ := hQ50
    have N51 := Fr.app N42 N50
    refine own_of (T' := T50) (f' := (mkF m 56 #[.val (.ref a1), .val (.int (0 : Int32)), .val (.int (3 : Int32)), .val (.ref bb), .val (.int (2 : Int32)), .val (.ref tb)] [(.ref tb)])) (fun t_ k_ => (st50 _ (XS.sipush X50.here hx rfl (Jvm.hb hby own_d_jdk_52_method_16_code_35) (XS.icmpYes X50.here hx rfl (pc0 := 38) (pc' := 54) rfl (Jvm.hb hby own_d_jdk_52_method_16_code_38) rfl (tlt hj).2.2.1 (by decide) (by decide) (XS.aload X50.here hx rfl (Jvm.hb hby own_d_jdk_52_method_16_code_54) rfl rfl k_))))) ?_
    obtain ⟨fs, hr, hrun, hended, hW, hsame⟩ := X50.leave (v := some (.ref tb)) (fun h => by rw [Bd.returns] at h; cases h)
    exact ⟨_, _, own_retA X50 hx Bd.returns rfl rfl rfl (Jvm.hb hby own_d_jdk_52_method_16_code_56) hr, hrun, hended, _, _, rfl, (by show own_Q_cp3_3 Z a1 0 (3 : Int32) c0 c1 c2 kc h0 n0 _ T50.heap _; rw [e50]; exact ⟨tb, kt, rfl, N51, f43, sz_tb, Etb, Vtb⟩), ⟨_, rfl⟩, hW, hsame.mono (by decide) (by decide)⟩
theorem own_ef_nbl4 (m : MethodId) (p1 : Int32) : entryFrame m #[(.int p1)] 1 = mkF m 0 #[.val (.int p1)] [] := by first | (simp [entryFrame, mkF, argsToLocals, Value.category]; done) | rfl
def own_Q_nbl4 (Z : State) (p1 : Int32)  (h0 : Heap) (n0 : Nat) (v : Option Value) (h : Heap) (L : List Loc) : Prop := v = some (.int (8 : Int32)) ∧ Fr n0 L ∧ h = h0
set_option maxRecDepth 65536 in
set_option maxHeartbeats 40000000 in
theorem own_rm_nbl4 (l : Launch) (Z : State) (a0 : Array Value) (hw : ∀ d ∈ tables_1, d.before a0 Z = true) (ws : List Jvm.Cond) (p1 : Int32)  (h0 : Heap) (n0 : Nat) (Z0 : n0 ≤ h0.size) (hp : p1 = (4 : Int32)) :
    MetFree l (⟨"java/lang/StringUTF16", "newBytesLength", "(I)I"⟩ : MethodName) (head1 (Jvm.Cond.code (⟨"java/lang/StringUTF16", "newBytesLength", "(I)I"⟩ : MethodName) jdk_52_method_3_code 1 (some .int) :: ws) ({ frames := 0, cells := 0, slots := 0, locals := 0 } : Room)) (fun a U => a = #[(.int p1)] ∧ Z.Warmed39 U.vm ∧ U.heap = h0) (fun _ _ _ _ _ => True) (fun _ U o U' => ∃ v L, o = .returned v ∧ own_Q_nbl4 Z p1  h0 n0 v U'.heap L ∧ FrameEnd U o U' L ({ frames := 0, cells := 0, slots := 0, locals := 0 } : Room).cells ({ frames := 0, cells := 0, slots := 0, locals := 0 } : Room).slots) := by
  refine MetFree.of_bodySF (plainFor_of_name own_pn_0) hisR ?_
  intro p e s m args below meth c s₁ Bd hml0 hP hK
  obtain ⟨rfl, hZ, hh⟩ := hP
  have hx := Bd.exec
  have hby := Bd.bytes
  have hml : c.maxLocals = 1 := hml0
  have hown : s.vm.findClass "java/lang/StringUTF16" = some m.cls := findClass_of_methodNamed Bd.named
  have hnm := (name_of_methodNamed Bd.named Bd.method).1
  have X0 : Stand p l e ({ frames := 0, cells := 0, slots := 0, locals := 0 } : Room) s m #[(.int p1)] below meth c s₁ [] 0 0 := Stand.of_body Bd
  have e0 : s₁.heap = h0 := by rw [← hh, Bd.state]; rfl
  have N0 := Fr.nil n0
  refine own_start (own_ef_nbl4 m p1 ) ?_
  subst hp
  refine own_of (T' := s₁) (f' := (mkF m 58 #[.val (.int (4 : Int32))] [(.int ((4 : Int32) <<< ((1 : Int32) &&& 31)))])) (fun t_ k_ => (XS.iloadN X0.here hx rfl (Jvm.hb hby own_d_jdk_52_method_3_code_0) rfl (XS.ifYes X0.here hx rfl (pc0 := 1) (pc' := 12) rfl (Jvm.hb hby own_d_jdk_52_method_3_code_1) rfl ((if0 _ _).trans (flt (by decide : ¬ (4 : Int32) < 0)).2.1) (by decide) (by decide) (XS.iloadN X0.here hx rfl (Jvm.hb hby own_d_jdk_52_method_3_code_12) rfl (Jvm.Stand.ldcI X0 hx hown (mvT hZ (hw _ (List.mem_of_getElem? (i := 107) rfl))) rfl (Jvm.hb hby own_d_jdk_52_method_3_code_13) (XS.icmpYes X0.here hx rfl (pc0 := 15) (pc' := 55) rfl (Jvm.hb hby own_d_jdk_52_method_3_code_15) rfl (tlt (by decide)).1 (by decide) (by decide) (XS.iloadN X0.here hx rfl (Jvm.hb hby own_d_jdk_52_method_3_code_55) rfl (XS.iconst X0.here hx rfl (Jvm.hb hby own_d_jdk_52_method_3_code_56) (XS.ishl X0.here hx rfl (Jvm.hb hby own_d_jdk_52_method_3_code_57) rfl k_))))))))) ?_
  rw [(by decide : ((4 : Int32) <<< ((1 : Int32) &&& 31)) = (8 : Int32))]
  obtain ⟨fs, hr, hrun, hended, hW, hsame⟩ := X0.leave (v := some (.int (8 : Int32))) (fun h => by rw [Bd.returns] at h; cases h)
  exact ⟨_, _, own_retI X0 hx Bd.returns (Jvm.hb hby own_d_jdk_52_method_3_code_58) hr, hrun, hended, _, _, rfl, (by show own_Q_nbl4 Z (4 : Int32)  h0 n0 _ s₁.heap _; rw [e0]; exact ⟨rfl, N0, rfl⟩), ⟨_, rfl⟩, hW, hsame.mono (by decide) (by decide)⟩
theorem own_ef_nbf4 (m : MethodId) (p1 : Int32) : entryFrame m #[(.int p1)] 1 = mkF m 0 #[.val (.int p1)] [] := by first | (simp [entryFrame, mkF, argsToLocals, Value.category]; done) | rfl
def own_Q_nbf4 (Z : State) (p1 : Int32)  (h0 : Heap) (n0 : Nat) (v : Option Value) (h : Heap) (L : List Loc) : Prop := ∃ b k, v = some (.ref b) ∧ Fr n0 L ∧ Keep h0 h [] ∧ h0.size ≤ b ∧ Exa Z h b "[B" ∧ Arv Z h b k .byte (8 : Int32) [(.int (0 : Int32)), (.int (0 : Int32)), (.int (0 : Int32)), (.int (0 : Int32)), (.int (0 : Int32)), (.int (0 : Int32)), (.int (0 : Int32)), (.int (0 : Int32))] (.int 0)
set_option maxRecDepth 65536 in
set_option maxHeartbeats 40000000 in
theorem own_rm_nbf4 (l : Launch) (Z : State) (a0 : Array Value) (hw : ∀ d ∈ tables_1, d.before a0 Z = true) (ws : List Jvm.Cond) (p1 : Int32)  (h0 : Heap) (n0 : Nat) (Z0 : n0 ≤ h0.size) (hp : p1 = (4 : Int32)) :
    MetFree l (⟨"java/lang/StringUTF16", "newBytesFor", "(I)[B"⟩ : MethodName) (head1 (Jvm.Cond.code (⟨"java/lang/StringUTF16", "newBytesFor", "(I)[B"⟩ : MethodName) jdk_52_method_2_code 1 (some (.array .byte)) :: ws) ({ frames := 1, cells := 1, slots := 8, locals := 12 } : Room)) (fun a U => a = #[(.int p1)] ∧ Z.Warmed39 U.vm ∧ U.heap = h0) (fun _ _ _ _ _ => True) (fun _ U o U' => ∃ v L, o = .returned v ∧ own_Q_nbf4 Z p1  h0 n0 v U'.heap L ∧ FrameEnd U o U' L ({ frames := 1, cells := 1, slots := 8, locals := 12 } : Room).cells ({ frames := 1, cells := 1, slots := 8, locals := 12 } : Room).slots) := by
  refine MetFree.of_bodySF (plainFor_of_name own_pn_0) hisR ?_
  intro p e s m args below meth c s₁ Bd hml0 hP hK
  obtain ⟨rfl, hZ, hh⟩ := hP
  have hx := Bd.exec
  have hby := Bd.bytes
  have hml : c.maxLocals = 1 := hml0
  have hown : s.vm.findClass "java/lang/StringUTF16" = some m.cls := findClass_of_methodNamed Bd.named
  have hnm := (name_of_methodNamed Bd.named Bd.method).1
  have X0 : Stand p l e ({ frames := 1, cells := 1, slots := 8, locals := 12 } : Room) s m #[(.int p1)] below meth c s₁ [] 0 0 := Stand.of_body Bd
  have e0 : s₁.heap = h0 := by rw [← hh, Bd.state]; rfl
  have N0 := Fr.nil n0
  refine own_start (own_ef_nbf4 m p1 ) ?_
  subst hp
  have K0 : Keep h0 h0 [] := Keep.refl _ _
  refine own_of (T' := s₁) (f' := (mkF m 1 #[.val (.int (4 : Int32))] [(.int (4 : Int32))])) (fun t_ k_ => (XS.iloadN X0.here hx rfl (Jvm.hb hby own_d_jdk_52_method_2_code_0) rfl k_)) ?_
  obtain ⟨_, _, ⟨T1, L1, k1, n1⟩, -, X1, ⟨Lc1, hQ1, l1, y1, z1⟩, st1⟩ := Jvm.LawKit.callS X0 hx (y := (⟨"java/lang/StringUTF16", "newBytesLength", "(I)I"⟩ : MethodName)) hown (mvT hZ (hw _ (List.mem_of_getElem? (i := 104) rfl))) (mvT hZ (hw _ (List.mem_of_getElem? (i := 105) rfl))) (mvT hZ (hw _ (List.mem_of_getElem? (i := 18) rfl))) (mvT hZ (hw _ (List.mem_of_getElem? (i := 106) rfl))) (by decide) (backOf (W := 0) (own_rm_nbl4 l Z a0 hw [] (4 : Int32) h0 n0 Z0 rfl) hZ (hw _ (List.mem_of_getElem? (i := 106) rfl)) (hw _ (List.mem_of_getElem? (i := 18) rfl)) (by decide) (by decide)) (g := (mkF m 1 #[.val (.int (4 : Int32))] [(.int (4 : Int32))])) rfl (by rw [hml]; rfl) (argsL := [(.int (4 : Int32))]) (rest := []) (lenOf own_pd_0 rfl) rfl (by show 2 * 0 + _ ≤ _; exact Nat.le_of_eq rfl) (Jvm.hb hby own_d_jdk_52_method_2_code_1) (fun _ _ => ⟨rfl, e0, Nat.le_of_ble_eq_true rfl, Nat.le_of_ble_eq_true rfl⟩)
  dsimp only [Pt.U, Pt.locs, Pt.cells, Pt.slots] at X1 l1 y1 z1 st1 hQ1
  subst l1 y1 z1
  obtain ⟨rfl, N1, e1⟩ := hQ1
  have N2 := Fr.app N0 N1
  refine own_of (T' := T1) (f' := (mkF m 4 #[.val (.int (4 : Int32))] [(.int (8 : Int32))])) (fun t_ k_ => (st1 _ k_)) ?_
  obtain ⟨T3, h3, k3, X3, e3, E3, A3, Ex3, st3⟩ := newPE X1 hx hZ (hw _ (List.mem_of_getElem? (i := 20) rfl)) e1 (g := (mkF m 4 #[.val (.int (4 : Int32))] [(.int (8 : Int32))])) rfl (Jvm.hb hby own_d_jdk_52_method_2_code_4) rfl (by decide) (cap := 8) (by decide) (by decide) (by decide) (by decide) (ad := "[B") (by decide)
  obtain ⟨b, g3⟩ : ∃ z, z = h0.size := ⟨_, rfl⟩
  rw [← g3] at A3 Ex3 st3
  have g_b : n0 ≤ b := Nat.le_trans Z0 (Nat.le_of_eq g3.symm)
  have sz_b : h0.size ≤ b := Nat.le_trans K0.1 (Nat.le_of_eq g3.symm)
  have f4 := K0.ext E3
  have f5 := Nat.le_trans Z0 E3.1
  have f6 : Arv Z h3 b k3 .byte (8 : Int32) [(.int (0 : Int32)), (.int (0 : Int32)), (.int (0 : Int32)), (.int (0 : Int32)), (.int (0 : Int32)), (.int (0 : Int32)), (.int (0 : Int32)), (.int (0 : Int32))] (.int (0 : Int32)) := (Arv.new A3 (by decide)).pad (pad_rep [] (.int (0 : Int32)) 8)
  refine own_of (T' := T3) (f' := (mkF m 6 #[.val (.int (4 : Int32))] [(.ref b)])) (fun t_ k_ => (st3 _ k_)) ?_
  obtain ⟨fs, hr, hrun, hended, hW, hsame⟩ := X3.leave (v := some (.ref b)) (fun h => by rw [Bd.returns] at h; cases h)
  exact ⟨_, _, own_retA X3 hx Bd.returns rfl rfl rfl (Jvm.hb hby own_d_jdk_52_method_2_code_6) hr, hrun, hended, _, _, rfl, (by show own_Q_nbf4 Z (4 : Int32)  h0 n0 _ T3.heap _; rw [e3]; exact ⟨b, _, rfl, N2, f4, sz_b, Ex3, f6⟩), ⟨_, rfl⟩, hW, hsame.mono (by decide) (by decide)⟩
theorem own_ef_tob4 (m : MethodId) (a1 : Addr) (p2 : Int32) (p3 : Int32) : entryFrame m #[(.ref a1), (.int p2), (.int p3)] 5 = mkF m 0 #[.val (.ref a1), .val (.int p2), .val (.int p3), .unset, .unset] [] := by first | (simp [entryFrame, mkF, argsToLocals, Value.category]; done) | rfl
def own_Q_tob4 (Z : State) (a1 : Addr) (p2 : Int32) (p3 : Int32) (c0 c1 c2 c3 : Int32) (kc : ClassId) (h0 : Heap) (n0 : Nat) (v : Option Value) (h : Heap) (L : List Loc) : Prop := ∃ b k, v = some (.ref b) ∧ Fr n0 L ∧ Keep h0 h [] ∧ h0.size ≤ b ∧ Exa Z h b "[B" ∧ Arv Z h b k .byte (8 : Int32) [(.int (StrChars.lo8 c0)), (.int (StrChars.hi8 c0)), (.int (StrChars.lo8 c1)), (.int (StrChars.hi8 c1)), (.int (StrChars.lo8 c2)), (.int (StrChars.hi8 c2)), (.int (StrChars.lo8 c3)), (.int (StrChars.hi8 c3))] (.int 0)
set_option maxRecDepth 65536 in
set_option maxHeartbeats 40000000 in
theorem own_rm_tob4 (l : Launch) (Z : State) (a0 : Array Value) (hw : ∀ d ∈ tables_1, d.before a0 Z = true) (ws : List Jvm.Cond) (a1 : Addr) (p2 : Int32) (p3 : Int32) (c0 c1 c2 c3 : Int32) (kc : ClassId) (h0 : Heap) (n0 : Nat) (Z0 : n0 ≤ h0.size) (S1 : Sta Z h0 "java/lang/StringUTF16" "$assertionsDisabled" "Z" (.int 1)) (S2 : Sta Z h0 "java/lang/StringUTF16" "HI_BYTE_SHIFT" "I" (.int 0)) (S3 : Sta Z h0 "java/lang/StringUTF16" "LO_BYTE_SHIFT" "I" (.int 8)) (Vc : Arv Z h0 a1 kc .char (4 : Int32) [(.int c0), (.int c1), (.int c2), (.int c3)] (.int 0)) (hp2 : p2 = 0) (hp3 : p3 = (4 : Int32)) :
    MetFree l (⟨"java/lang/StringUTF16", "toBytes", "([CII)[B"⟩ : MethodName) (head1 (Jvm.Cond.code (⟨"java/lang/StringUTF16", "toBytes", "([CII)[B"⟩ : MethodName) jdk_52_method_14_code 5 (some (.array .byte)) :: ws) ({ frames := 2, cells := 1, slots := 8, locals := 24 } : Room)) (fun a U => a = #[(.ref a1), (.int p2), (.int p3)] ∧ Z.Warmed39 U.vm ∧ U.heap = h0) (fun _ _ _ _ _ => True) (fun _ U o U' => ∃ v L, o = .returned v ∧ own_Q_tob4 Z a1 p2 p3 c0 c1 c2 c3 kc h0 n0 v U'.heap L ∧ FrameEnd U o U' L ({ frames := 2, cells := 1, slots := 8, locals := 24 } : Room).cells ({ frames := 2, cells := 1, slots := 8, locals := 24 } : Room).slots) := by
  refine MetFree.of_bodySF (plainFor_of_name own_pn_0) hisR ?_
  intro p e s m args below meth c s₁ Bd hml0 hP hK
  obtain ⟨rfl, hZ, hh⟩ := hP
  have hx := Bd.exec
  have hby := Bd.bytes
  have hml : c.maxLocals = 5 := hml0
  have hown : s.vm.findClass "java/lang/StringUTF16" = some m.cls := findClass_of_methodNamed Bd.named
  have hnm := (name_of_methodNamed Bd.named Bd.method).1
  have X0 : Stand p l e ({ frames := 2, cells := 1, slots := 8, locals := 24 } : Room) s m #[(.ref a1), (.int p2), (.int p3)] below meth c s₁ [] 0 0 := Stand.of_body Bd
  have e0 : s₁.heap = h0 := by rw [← hh, Bd.state]; rfl
  have N0 := Fr.nil n0
  refine own_start (own_ef_tob4 m a1 p2 p3 ) ?_
  subst hp2 hp3
  have K0 : Keep h0 h0 [] := Keep.refl _ _
  refine own_of (T' := s₁) (f' := (mkF m 1 #[.val (.ref a1), .val (.int (0 : Int32)), .val (.int (4 : Int32)), .unset, .unset] [(.int (4 : Int32))])) (fun t_ k_ => (XS.iloadN X0.here hx rfl (Jvm.hb hby own_d_jdk_52_method_14_code_0) rfl k_)) ?_
  obtain ⟨_, _, ⟨T1, L1, k1, n1⟩, -, X1, ⟨Lc1, hQ1, l1, y1, z1⟩, st1⟩ := Jvm.LawKit.callS X0 hx (y := (⟨"java/lang/StringUTF16", "newBytesFor", "(I)[B"⟩ : MethodName)) hown (mvT hZ (hw _ (List.mem_of_getElem? (i := 101) rfl))) (mvT hZ (hw _ (List.mem_of_getElem? (i := 102) rfl))) (mvT hZ (hw _ (List.mem_of_getElem? (i := 18) rfl))) (mvT hZ (hw _ (List.mem_of_getElem? (i := 103) rfl))) (by decide) (backOf (W := 0) (own_rm_nbf4 l Z a0 hw [] (4 : Int32) h0 n0 Z0 rfl) hZ (hw _ (List.mem_of_getElem? (i := 103) rfl)) (hw _ (List.mem_of_getElem? (i := 18) rfl)) (by decide) (by decide)) (g := (mkF m 1 #[.val (.ref a1), .val (.int (0 : Int32)), .val (.int (4 : Int32)), .unset, .unset] [(.int (4 : Int32))])) rfl (by rw [hml]; rfl) (argsL := [(.int (4 : Int32))]) (rest := []) (lenOf own_pd_1 rfl) rfl (by show 2 * 0 + _ ≤ _; exact Nat.le_of_eq rfl) (Jvm.hb hby own_d_jdk_52_method_14_code_1) (fun _ _ => ⟨rfl, e0, Nat.le_of_ble_eq_true rfl, Nat.le_of_ble_eq_true rfl⟩)
  dsimp only [Pt.U, Pt.locs, Pt.cells, Pt.slots] at X1 l1 y1 z1 st1 hQ1
  subst l1 y1 z1
  obtain ⟨b, kb, rfl, N1, K1, szb, Eb, Vb0⟩ := hQ1
  have ne_a1_b : a1 ≠ b := Nat.ne_of_lt (Nat.lt_of_lt_of_le Vc.lt szb)
  have g_b : n0 ≤ b := Nat.le_trans Z0 szb
  have sz_b : h0.size ≤ b := Nat.le_trans K0.1 szb
  have N2 := Fr.app N0 N1
  have f3 := K0.trans K1 all0
  have f4 := Nat.le_trans Z0 K1.1
  have f5 := own_stakeep S1 K1 all0
  have f6 := own_stakeep S2 K1 all0
  have f7 := own_stakeep S3 K1 all0
  have f8 := Vc.keep K1 nin0
  refine own_of (T' := T1) (f' := (mkF m 15 #[.val (.ref a1), .val (.int (0 : Int32)), .val (.int (4 : Int32)), .val (.ref b), .val (.int (0 : Int32))] [(.ref b)])) (fun t_ k_ => (st1 _ (XS.astoreN X1.here hx rfl (Jvm.hb hby own_d_jdk_52_method_14_code_4) rfl rfl (l' := #[.val (.ref a1), .val (.int (0 : Int32)), .val (.int (4 : Int32)), .val (.ref b), .unset]) rfl (XS.iconst X1.here hx rfl (Jvm.hb hby own_d_jdk_52_method_14_code_5) (XS.istore X1.here hx rfl (Jvm.hb hby own_d_jdk_52_method_14_code_6) rfl (l' := #[.val (.ref a1), .val (.int (0 : Int32)), .val (.int (4 : Int32)), .val (.ref b), .val (.int (0 : Int32))]) rfl (XS.iload X1.here hx rfl (Jvm.hb hby own_d_jdk_52_method_14_code_8) rfl (XS.iloadN X1.here hx rfl (Jvm.hb hby own_d_jdk_52_method_14_code_10) rfl (XS.icmpNo X1.here hx rfl (Jvm.hb hby own_d_jdk_52_method_14_code_11) rfl (tlt (by decide)).2.1 (XS.aloadN X1.here hx rfl (Jvm.hb hby own_d_jdk_52_method_14_code_14) rfl rfl k_))))))))) ?_
  refine own_of (T' := T1) (f' := (mkF m 19 #[.val (.ref a1), .val (.int (0 : Int32)), .val (.int (4 : Int32)), .val (.ref b), .val (.int (0 : Int32))] [(.int (0 : Int32)), (.ref a1), (.int (0 : Int32)), (.ref b)])) (fun t_ k_ => (XS.iload X1.here hx rfl (Jvm.hb hby own_d_jdk_52_method_14_code_15) rfl (XS.aloadN X1.here hx rfl (Jvm.hb hby own_d_jdk_52_method_14_code_17) rfl rfl (XS.iloadN X1.here hx rfl (Jvm.hb hby own_d_jdk_52_method_14_code_18) rfl k_)))) ?_
  obtain ⟨cl9, Ar9, qq9, Sz9, Nn9, Hh9, Gg9⟩ := id f8
  have hin9 : ¬ ((0 : Int32) < 0 ∨ cl9.slots.size ≤ ((0 : Int32)).toNatClampNeg) := inb_of Sz9 ⟨by decide, by decide⟩
  refine own_of (T' := T1) (f' := (mkF m 20 #[.val (.ref a1), .val (.int (0 : Int32)), .val (.int (4 : Int32)), .val (.ref b), .val (.int (0 : Int32))] [(.int c0), (.int (0 : Int32)), (.ref b)])) (fun t_ k_ => (X1.caload hx (j := (0 : Int32)) (v := (.int c0)) (by first | (rw [rfl]; exact Ar9.1) | exact Ar9.1) (State.isArrayOf_alike hZ.alike Ar9.2.1) Ar9.2.2 hin9 (Hh9.at hin9 rfl) (g := (mkF m 19 #[.val (.ref a1), .val (.int (0 : Int32)), .val (.int (4 : Int32)), .val (.ref b), .val (.int (0 : Int32))] [(.int (0 : Int32)), (.ref a1), (.int (0 : Int32)), (.ref b)])) rfl rfl (Jvm.hb hby own_d_jdk_52_method_14_code_19) _ k_)) ?_
  obtain ⟨_, _, ⟨T10, L10, k10, n10⟩, -, X10, ⟨Lc10, hQ10, l10, y10, z10⟩, st10⟩ := Jvm.LawKit.callS X1 hx (y := (⟨"java/lang/StringUTF16", "putChar", "([BII)V"⟩ : MethodName)) hown (mvT hZ (hw _ (List.mem_of_getElem? (i := 108) rfl))) (mvT hZ (hw _ (List.mem_of_getElem? (i := 109) rfl))) (mvT hZ (hw _ (List.mem_of_getElem? (i := 18) rfl))) (mvT hZ (hw _ (List.mem_of_getElem? (i := 110) rfl))) (by decide) (backOf (W := 0) (own_rm_pch0 l Z a0 hw [] b (0 : Int32) c0 kb (8 : Int32) [(.int (0 : Int32)), (.int (0 : Int32)), (.int (0 : Int32)), (.int (0 : Int32)), (.int (0 : Int32)), (.int (0 : Int32)), (.int (0 : Int32)), (.int (0 : Int32))] T1.heap n0 f4 f5 f6 f7 Vb0 rfl (by decide) (by decide) (Nat.le_of_ble_eq_true rfl) g_b Eb) hZ (hw _ (List.mem_of_getElem? (i := 110) rfl)) (hw _ (List.mem_of_getElem? (i := 18) rfl)) (by decide) (by decide)) (g := (mkF m 20 #[.val (.ref a1), .val (.int (0 : Int32)), .val (.int (4 : Int32)), .val (.ref b), .val (.int (0 : Int32))] [(.int c0), (.int (0 : Int32)), (.ref b)])) rfl (by rw [hml]; rfl) (argsL := [(.ref b), (.int (0 : Int32)), (.int c0)]) (rest := []) (lenOf own_pd_2 rfl) rfl (by show 2 * 0 + _ ≤ _; exact Nat.le_of_eq rfl) (Jvm.hb hby own_d_jdk_52_method_14_code_20) (fun _ _ => ⟨rfl, rfl, Nat.le_of_ble_eq_true rfl, Nat.le_of_ble_eq_true rfl⟩)
  dsimp only [Pt.U, Pt.locs, Pt.cells, Pt.slots] at X10 l10 y10 z10 st10 hQ10
  subst l10 y10 z10
  obtain ⟨rfl, N10, K10, Vn10⟩ := hQ10
  have N11 := Fr.app N2 N10
  have f12 := f3.trans K10 (allS (Or.inr sz_b) all0)
  have f13 := Nat.le_trans f4 K10.1
  have f14 := own_stakeep f5 K10 (allS (own_plainE Eb) all0)
  have f15 := own_stakeep f6 K10 (allS (own_plainE Eb) all0)
  have f16 := own_stakeep f7 K10 (allS (own_plainE Eb) all0)
  have f17 := f8.keep K10 (ninS ne_a1_b nin0)
  have f18 := Eb.keep K10
  have Vb1 : Arv Z T10.heap b kb .byte (8 : Int32) [(.int (StrChars.lo8 c0)), (.int (StrChars.hi8 c0)), (.int (0 : Int32)), (.int (0 : Int32)), (.int (0 : Int32)), (.int (0 : Int32)), (.int (0 : Int32)), (.int (0 : Int32))] (.int 0) := Vn10
  refine own_of (T' := T10) (f' := (mkF m 29 #[.val (.ref a1), .val (.int ((0 : Int32) + (1 : Int32))), .val (.int (4 : Int32)), .val (.ref b), .val (.int ((0 : Int32) + (1 : Int32)))] [])) (fun t_ k_ => (st10 _ (XS.iinc X10.here hx rfl (Jvm.hb hby own_d_jdk_52_method_14_code_23) rfl (l' := #[.val (.ref a1), .val (.int ((0 : Int32) + (1 : Int32))), .val (.int (4 : Int32)), .val (.ref b), .val (.int (0 : Int32))]) rfl (XS.iinc X10.here hx rfl (Jvm.hb hby own_d_jdk_52_method_14_code_26) rfl (l' := #[.val (.ref a1), .val (.int ((0 : Int32) + (1 : Int32))), .val (.int (4 : Int32)), .val (.ref b), .val (.int ((0 : Int32) + (1 : Int32)))]) rfl k_)))) ?_
  try rw [(by decide : ((0 : Int32) + (1 : Int32)) = (1 : Int32))]
  try rw [(by decide : ((0 : Int32) + (1 : Int32)) = (1 : Int32))]
  refine own_of (T' := T10) (f' := (mkF m 19 #[.val (.ref a1), .val (.int (1 : Int32)), .val (.int (4 : Int32)), .val (.ref b), .val (.int (1 : Int32))] [(.int (1 : Int32)), (.ref a1), (.int (1 : Int32)), (.ref b)])) (fun t_ k_ => (XS.goto X10.here hx rfl (pc0 := 29) (pc' := 8) rfl (Jvm.hb hby own_d_jdk_52_method_14_code_29) (by decide) (by decide) (XS.iload X10.here hx rfl (Jvm.hb hby own_d_jdk_52_method_14_code_8) rfl (XS.iloadN X10.here hx rfl (Jvm.hb hby own_d_jdk_52_method_14_code_10) rfl (XS.icmpNo X10.here hx rfl (Jvm.hb hby own_d_jdk_52_method_14_code_11) rfl (tlt (by decide)).2.1 (XS.aloadN X10.here hx rfl (Jvm.hb hby own_d_jdk_52_method_14_code_14) rfl rfl (XS.iload X10.here hx rfl (Jvm.hb hby own_d_jdk_52_method_14_code_15) rfl (XS.aloadN X10.here hx rfl (Jvm.hb hby own_d_jdk_52_method_14_code_17) rfl rfl (XS.iloadN X10.here hx rfl (Jvm.hb hby own_d_jdk_52_method_14_code_18) rfl k_))))))))) ?_
  obtain ⟨cl20, Ar20, qq20, Sz20, Nn20, Hh20, Gg20⟩ := id f17
  have hin20 : ¬ ((1 : Int32) < 0 ∨ cl20.slots.size ≤ ((1 : Int32)).toNatClampNeg) := inb_of Sz20 ⟨by decide, by decide⟩
  refine own_of (T' := T10) (f' := (mkF m 20 #[.val (.ref a1), .val (.int (1 : Int32)), .val (.int (4 : Int32)), .val (.ref b), .val (.int (1 : Int32))] [(.int c1), (.int (1 : Int32)), (.ref b)])) (fun t_ k_ => (X10.caload hx (j := (1 : Int32)) (v := (.int c1)) (by first | (rw [rfl]; exact Ar20.1) | exact Ar20.1) (State.isArrayOf_alike hZ.alike Ar20.2.1) Ar20.2.2 hin20 (Hh20.at hin20 rfl) (g := (mkF m 19 #[.val (.ref a1), .val (.int (1 : Int32)), .val (.int (4 : Int32)), .val (.ref b), .val (.int (1 : Int32))] [(.int (1 : Int32)), (.ref a1), (.int (1 : Int32)), (.ref b)])) rfl rfl (Jvm.hb hby own_d_jdk_52_method_14_code_19) _ k_)) ?_
  obtain ⟨_, _, ⟨T21, L21, k21, n21⟩, -, X21, ⟨Lc21, hQ21, l21, y21, z21⟩, st21⟩ := Jvm.LawKit.callS X10 hx (y := (⟨"java/lang/StringUTF16", "putChar", "([BII)V"⟩ : MethodName)) hown (mvT hZ (hw _ (List.mem_of_getElem? (i := 108) rfl))) (mvT hZ (hw _ (List.mem_of_getElem? (i := 109) rfl))) (mvT hZ (hw _ (List.mem_of_getElem? (i := 18) rfl))) (mvT hZ (hw _ (List.mem_of_getElem? (i := 110) rfl))) (by decide) (backOf (W := 0) (own_rm_pch1 l Z a0 hw [] b (1 : Int32) c1 kb (8 : Int32) [(.int (StrChars.lo8 c0)), (.int (StrChars.hi8 c0)), (.int (0 : Int32)), (.int (0 : Int32)), (.int (0 : Int32)), (.int (0 : Int32)), (.int (0 : Int32)), (.int (0 : Int32))] T10.heap n0 f13 f14 f15 f16 Vb1 rfl (by decide) (by decide) (Nat.le_of_ble_eq_true rfl) g_b f18) hZ (hw _ (List.mem_of_getElem? (i := 110) rfl)) (hw _ (List.mem_of_getElem? (i := 18) rfl)) (by decide) (by decide)) (g := (mkF m 20 #[.val (.ref a1), .val (.int (1 : Int32)), .val (.int (4 : Int32)), .val (.ref b), .val (.int (1 : Int32))] [(.int c1), (.int (1 : Int32)), (.ref b)])) rfl (by rw [hml]; rfl) (argsL := [(.ref b), (.int (1 : Int32)), (.int c1)]) (rest := []) (lenOf own_pd_2 rfl) rfl (by show 2 * 0 + _ ≤ _; exact Nat.le_of_eq rfl) (Jvm.hb hby own_d_jdk_52_method_14_code_20) (fun _ _ => ⟨rfl, rfl, Nat.le_of_ble_eq_true rfl, Nat.le_of_ble_eq_true rfl⟩)
  dsimp only [Pt.U, Pt.locs, Pt.cells, Pt.slots] at X21 l21 y21 z21 st21 hQ21
  subst l21 y21 z21
  obtain ⟨rfl, N21, K21, Vn21⟩ := hQ21
  have N22 := Fr.app N11 N21
  have f23 := f12.trans K21 (allS (Or.inr sz_b) all0)
  have f24 := Nat.le_trans f13 K21.1
  have f25 := own_stakeep f14 K21 (allS (own_plainE f18) all0)
  have f26 := own_stakeep f15 K21 (allS (own_plainE f18) all0)
  have f27 := own_stakeep f16 K21 (allS (own_plainE f18) all0)
  have f28 := f17.keep K21 (ninS ne_a1_b nin0)
  have f29 := f18.keep K21
  have Vb2 : Arv Z T21.heap b kb .byte (8 : Int32) [(.int (StrChars.lo8 c0)), (.int (StrChars.hi8 c0)), (.int (StrChars.lo8 c1)), (.int (StrChars.hi8 c1)), (.int (0 : Int32)), (.int (0 : Int32)), (.int (0 : Int32)), (.int (0 : Int32))] (.int 0) := Vn21
  refine own_of (T' := T21) (f' := (mkF m 29 #[.val (.ref a1), .val (.int ((1 : Int32) + (1 : Int32))), .val (.int (4 : Int32)), .val (.ref b), .val (.int ((1 : Int32) + (1 : Int32)))] [])) (fun t_ k_ => (st21 _ (XS.iinc X21.here hx rfl (Jvm.hb hby own_d_jdk_52_method_14_code_23) rfl (l' := #[.val (.ref a1), .val (.int ((1 : Int32) + (1 : Int32))), .val (.int (4 : Int32)), .val (.ref b), .val (.int (1 : Int32))]) rfl (XS.iinc X21.here hx rfl (Jvm.hb hby own_d_jdk_52_method_14_code_26) rfl (l' := #[.val (.ref a1), .val (.int ((1 : Int32) + (1 : Int32))), .val (.int (4 : Int32)), .val (.ref b), .val (.int ((1 : Int32) + (1 : Int32)))]) rfl k_)))) ?_
  try rw [(by decide : ((1 : Int32) + (1 : Int32)) = (2 : Int32))]
  try rw [(by decide : ((1 : Int32) + (1 : Int32)) = (2 : Int32))]
  refine own_of (T' := T21) (f' := (mkF m 19 #[.val (.ref a1), .val (.int (2 : Int32)), .val (.int (4 : Int32)), .val (.ref b), .val (.int (2 : Int32))] [(.int (2 : Int32)), (.ref a1), (.int (2 : Int32)), (.ref b)])) (fun t_ k_ => (XS.goto X21.here hx rfl (pc0 := 29) (pc' := 8) rfl (Jvm.hb hby own_d_jdk_52_method_14_code_29) (by decide) (by decide) (XS.iload X21.here hx rfl (Jvm.hb hby own_d_jdk_52_method_14_code_8) rfl (XS.iloadN X21.here hx rfl (Jvm.hb hby own_d_jdk_52_method_14_code_10) rfl (XS.icmpNo X21.here hx rfl (Jvm.hb hby own_d_jdk_52_method_14_code_11) rfl (tlt (by decide)).2.1 (XS.aloadN X21.here hx rfl (Jvm.hb hby own_d_jdk_52_method_14_code_14) rfl rfl (XS.iload X21.here hx rfl (Jvm.hb hby own_d_jdk_52_method_14_code_15) rfl (XS.aloadN X21.here hx rfl (Jvm.hb hby own_d_jdk_52_method_14_code_17) rfl rfl (XS.iloadN X21.here hx rfl (Jvm.hb hby own_d_jdk_52_method_14_code_18) rfl k_))))))))) ?_
  obtain ⟨cl31, Ar31, qq31, Sz31, Nn31, Hh31, Gg31⟩ := id f28
  have hin31 : ¬ ((2 : Int32) < 0 ∨ cl31.slots.size ≤ ((2 : Int32)).toNatClampNeg) := inb_of Sz31 ⟨by decide, by decide⟩
  refine own_of (T' := T21) (f' := (mkF m 20 #[.val (.ref a1), .val (.int (2 : Int32)), .val (.int (4 : Int32)), .val (.ref b), .val (.int (2 : Int32))] [(.int c2), (.int (2 : Int32)), (.ref b)])) (fun t_ k_ => (X21.caload hx (j := (2 : Int32)) (v := (.int c2)) (by first | (rw [rfl]; exact Ar31.1) | exact Ar31.1) (State.isArrayOf_alike hZ.alike Ar31.2.1) Ar31.2.2 hin31 (Hh31.at hin31 rfl) (g := (mkF m 19 #[.val (.ref a1), .val (.int (2 : Int32)), .val (.int (4 : Int32)), .val (.ref b), .val (.int (2 : Int32))] [(.int (2 : Int32)), (.ref a1), (.int (2 : Int32)), (.ref b)])) rfl rfl (Jvm.hb hby own_d_jdk_52_method_14_code_19) _ k_)) ?_
  obtain ⟨_, _, ⟨T32, L32, k32, n32⟩, -, X32, ⟨Lc32, hQ32, l32, y32, z32⟩, st32⟩ := Jvm.LawKit.callS X21 hx (y := (⟨"java/lang/StringUTF16", "putChar", "([BII)V"⟩ : MethodName)) hown (mvT hZ (hw _ (List.mem_of_getElem? (i := 108) rfl))) (mvT hZ (hw _ (List.mem_of_getElem? (i := 109) rfl))) (mvT hZ (hw _ (List.mem_of_getElem? (i := 18) rfl))) (mvT hZ (hw _ (List.mem_of_getElem? (i := 110) rfl))) (by decide) (backOf (W := 0) (own_rm_pch2 l Z a0 hw [] b (2 : Int32) c2 kb (8 : Int32) [(.int (StrChars.lo8 c0)), (.int (StrChars.hi8 c0)), (.int (StrChars.lo8 c1)), (.int (StrChars.hi8 c1)), (.int (0 : Int32)), (.int (0 : Int32)), (.int (0 : Int32)), (.int (0 : Int32))] T21.heap n0 f24 f25 f26 f27 Vb2 rfl (by decide) (by decide) (Nat.le_of_ble_eq_true rfl) g_b f29) hZ (hw _ (List.mem_of_getElem? (i := 110) rfl)) (hw _ (List.mem_of_getElem? (i := 18) rfl)) (by decide) (by decide)) (g := (mkF m 20 #[.val (.ref a1), .val (.int (2 : Int32)), .val (.int (4 : Int32)), .val (.ref b), .val (.int (2 : Int32))] [(.int c2), (.int (2 : Int32)), (.ref b)])) rfl (by rw [hml]; rfl) (argsL := [(.ref b), (.int (2 : Int32)), (.int c2)]) (rest := []) (lenOf own_pd_2 rfl) rfl (by show 2 * 0 + _ ≤ _; exact Nat.le_of_eq rfl) (Jvm.hb hby own_d_jdk_52_method_14_code_20) (fun _ _ => ⟨rfl, rfl, Nat.le_of_ble_eq_true rfl, Nat.le_of_ble_eq_true rfl⟩)
  dsimp only [Pt.U, Pt.locs, Pt.cells, Pt.slots] at X32 l32 y32 z32 st32 hQ32
  subst l32 y32 z32
  obtain ⟨rfl, N32, K32, Vn32⟩ := hQ32
  have N33 := Fr.app N22 N32
  have f34 := f23.trans K32 (allS (Or.inr sz_b) all0)
  have f35 := Nat.le_trans f24 K32.1
  have f36 := own_stakeep f25 K32 (allS (own_plainE f29) all0)
  have f37 := own_stakeep f26 K32 (allS (own_plainE f29) all0)
  have f38 := own_stakeep f27 K32 (allS (own_plainE f29) all0)
  have f39 := f28.keep K32 (ninS ne_a1_b nin0)
  have f40 := f29.keep K32
  have Vb3 : Arv Z T32.heap b kb .byte (8 : Int32) [(.int (StrChars.lo8 c0)), (.int (StrChars.hi8 c0)), (.int (StrChars.lo8 c1)), (.int (StrChars.hi8 c1)), (.int (StrChars.lo8 c2)), (.int (StrChars.hi8 c2)), (.int (0 : Int32)), (.int (0 : Int32))] (.int 0) := Vn32
  refine own_of (T' := T32) (f' := (mkF m 29 #[.val (.ref a1), .val (.int ((2 : Int32) + (1 : Int32))), .val (.int (4 : Int32)), .val (.ref b), .val (.int ((2 : Int32) + (1 : Int32)))] [])) (fun t_ k_ => (st32 _ (XS.iinc X32.here hx rfl (Jvm.hb hby own_d_jdk_52_method_14_code_23) rfl (l' := #[.val (.ref a1), .val (.int ((2 : Int32) + (1 : Int32))), .val (.int (4 : Int32)), .val (.ref b), .val (.int (2 : Int32))]) rfl (XS.iinc X32.here hx rfl (Jvm.hb hby own_d_jdk_52_method_14_code_26) rfl (l' := #[.val (.ref a1), .val (.int ((2 : Int32) + (1 : Int32))), .val (.int (4 : Int32)), .val (.ref b), .val (.int ((2 : Int32) + (1 : Int32)))]) rfl k_)))) ?_
  try rw [(by decide : ((2 : Int32) + (1 : Int32)) = (3 : Int32))]
  try rw [(by decide : ((2 : Int32) + (1 : Int32)) = (3 : Int32))]
  refine own_of (T' := T32) (f' := (mkF m 19 #[.val (.ref a1), .val (.int (3 : Int32)), .val (.int (4 : Int32)), .val (.ref b), .val (.int (3 : Int32))] [(.int (3 : Int32)), (.ref a1), (.int (3 : Int32)), (.ref b)])) (fun t_ k_ => (XS.goto X32.here hx rfl (pc0 := 29) (pc' := 8) rfl (Jvm.hb hby own_d_jdk_52_method_14_code_29) (by decide) (by decide) (XS.iload X32.here hx rfl (Jvm.hb hby own_d_jdk_52_method_14_code_8) rfl (XS.iloadN X32.here hx rfl (Jvm.hb hby own_d_jdk_52_method_14_code_10) rfl (XS.icmpNo X32.here hx rfl (Jvm.hb hby own_d_jdk_52_method_14_code_11) rfl (tlt (by decide)).2.1 (XS.aloadN X32.here hx rfl (Jvm.hb hby own_d_jdk_52_method_14_code_14) rfl rfl (XS.iload X32.here hx rfl (Jvm.hb hby own_d_jdk_52_method_14_code_15) rfl (XS.aloadN X32.here hx rfl (Jvm.hb hby own_d_jdk_52_method_14_code_17) rfl rfl (XS.iloadN X32.here hx rfl (Jvm.hb hby own_d_jdk_52_method_14_code_18) rfl k_))))))))) ?_
  obtain ⟨cl42, Ar42, qq42, Sz42, Nn42, Hh42, Gg42⟩ := id f39
  have hin42 : ¬ ((3 : Int32) < 0 ∨ cl42.slots.size ≤ ((3 : Int32)).toNatClampNeg) := inb_of Sz42 ⟨by decide, by decide⟩
  refine own_of (T' := T32) (f' := (mkF m 20 #[.val (.ref a1), .val (.int (3 : Int32)), .val (.int (4 : Int32)), .val (.ref b), .val (.int (3 : Int32))] [(.int c3), (.int (3 : Int32)), (.ref b)])) (fun t_ k_ => (X32.caload hx (j := (3 : Int32)) (v := (.int c3)) (by first | (rw [rfl]; exact Ar42.1) | exact Ar42.1) (State.isArrayOf_alike hZ.alike Ar42.2.1) Ar42.2.2 hin42 (Hh42.at hin42 rfl) (g := (mkF m 19 #[.val (.ref a1), .val (.int (3 : Int32)), .val (.int (4 : Int32)), .val (.ref b), .val (.int (3 : Int32))] [(.int (3 : Int32)), (.ref a1), (.int (3 : Int32)), (.ref b)])) rfl rfl (Jvm.hb hby own_d_jdk_52_method_14_code_19) _ k_)) ?_
  obtain ⟨_, _, ⟨T43, L43, k43, n43⟩, -, X43, ⟨Lc43, hQ43, l43, y43, z43⟩, st43⟩ := Jvm.LawKit.callS X32 hx (y := (⟨"java/lang/StringUTF16", "putChar", "([BII)V"⟩ : MethodName)) hown (mvT hZ (hw _ (List.mem_of_getElem? (i := 108) rfl))) (mvT hZ (hw _ (List.mem_of_getElem? (i := 109) rfl))) (mvT hZ (hw _ (List.mem_of_getElem? (i := 18) rfl))) (mvT hZ (hw _ (List.mem_of_getElem? (i := 110) rfl))) (by decide) (backOf (W := 0) (own_rm_pch3 l Z a0 hw [] b (3 : Int32) c3 kb (8 : Int32) [(.int (StrChars.lo8 c0)), (.int (StrChars.hi8 c0)), (.int (StrChars.lo8 c1)), (.int (StrChars.hi8 c1)), (.int (StrChars.lo8 c2)), (.int (StrChars.hi8 c2)), (.int (0 : Int32)), (.int (0 : Int32))] T32.heap n0 f35 f36 f37 f38 Vb3 rfl (by decide) (by decide) (Nat.le_of_ble_eq_true rfl) g_b f40) hZ (hw _ (List.mem_of_getElem? (i := 110) rfl)) (hw _ (List.mem_of_getElem? (i := 18) rfl)) (by decide) (by decide)) (g := (mkF m 20 #[.val (.ref a1), .val (.int (3 : Int32)), .val (.int (4 : Int32)), .val (.ref b), .val (.int (3 : Int32))] [(.int c3), (.int (3 : Int32)), (.ref b)])) rfl (by rw [hml]; rfl) (argsL := [(.ref b), (.int (3 : Int32)), (.int c3)]) (rest := []) (lenOf own_pd_2 rfl) rfl (by show 2 * 0 + _ ≤ _; exact Nat.le_of_eq rfl) (Jvm.hb hby own_d_jdk_52_method_14_code_20) (fun _ _ => ⟨rfl, rfl, Nat.le_of_ble_eq_true rfl, Nat.le_of_ble_eq_true rfl⟩)
  dsimp only [Pt.U, Pt.locs, Pt.cells, Pt.slots] at X43 l43 y43 z43 st43 hQ43
  subst l43 y43 z43
  obtain ⟨rfl, N43, K43, Vn43⟩ := hQ43
  have N44 := Fr.app N33 N43
  have f45 := f34.trans K43 (allS (Or.inr sz_b) all0)
  have f46 := Nat.le_trans f35 K43.1
  have f47 := own_stakeep f36 K43 (allS (own_plainE f40) all0)
  have f48 := own_stakeep f37 K43 (allS (own_plainE f40) all0)
  have f49 := own_stakeep f38 K43 (allS (own_plainE f40) all0)
  have f50 := f39.keep K43 (ninS ne_a1_b nin0)
  have f51 := f40.keep K43
  have Vb4 : Arv Z T43.heap b kb .byte (8 : Int32) [(.int (StrChars.lo8 c0)), (.int (StrChars.hi8 c0)), (.int (StrChars.lo8 c1)), (.int (StrChars.hi8 c1)), (.int (StrChars.lo8 c2)), (.int (StrChars.hi8 c2)), (.int (StrChars.lo8 c3)), (.int (StrChars.hi8 c3))] (.int 0) := Vn43
  refine own_of (T' := T43) (f' := (mkF m 29 #[.val (.ref a1), .val (.int ((3 : Int32) + (1 : Int32))), .val (.int (4 : Int32)), .val (.ref b), .val (.int ((3 : Int32) + (1 : Int32)))] [])) (fun t_ k_ => (st43 _ (XS.iinc X43.here hx rfl (Jvm.hb hby own_d_jdk_52_method_14_code_23) rfl (l' := #[.val (.ref a1), .val (.int ((3 : Int32) + (1 : Int32))), .val (.int (4 : Int32)), .val (.ref b), .val (.int (3 : Int32))]) rfl (XS.iinc X43.here hx rfl (Jvm.hb hby own_d_jdk_52_method_14_code_26) rfl (l' := #[.val (.ref a1), .val (.int ((3 : Int32) + (1 : Int32))), .val (.int (4 : Int32)), .val (.ref b), .val (.int ((3 : Int32) + (1 : Int32)))]) rfl k_)))) ?_
  try rw [(by decide : ((3 : Int32) + (1 : Int32)) = (4 : Int32))]
  try rw [(by decide : ((3 : Int32) + (1 : Int32)) = (4 : Int32))]
  refine own_of (T' := T43) (f' := (mkF m 33 #[.val (.ref a1), .val (.int (4 : Int32)), .val (.int (4 : Int32)), .val (.ref b), .val (.int (4 : Int32))] [(.ref b)])) (fun t_ k_ => (XS.goto X43.here hx rfl (pc0 := 29) (pc' := 8) rfl (Jvm.hb hby own_d_jdk_52_method_14_code_29) (by decide) (by decide) (XS.iload X43.here hx rfl (Jvm.hb hby own_d_jdk_52_method_14_code_8) rfl (XS.iloadN X43.here hx rfl (Jvm.hb hby own_d_jdk_52_method_14_code_10) rfl (XS.icmpYes X43.here hx rfl (pc0 := 11) (pc' := 32) rfl (Jvm.hb hby own_d_jdk_52_method_14_code_11) rfl (flt (by decide)).2.1 (by decide) (by decide) (XS.aloadN X43.here hx rfl (Jvm.hb hby own_d_jdk_52_method_14_code_32) rfl rfl k_)))))) ?_
  obtain ⟨fs, hr, hrun, hended, hW, hsame⟩ := X43.leave (v := some (.ref b)) (fun h => by rw [Bd.returns] at h; cases h)
  exact ⟨_, _, own_retA X43 hx Bd.returns rfl rfl rfl (Jvm.hb hby own_d_jdk_52_method_14_code_33) hr, hrun, hended, _, _, rfl, (by show own_Q_tob4 Z a1 0 (4 : Int32) c0 c1 c2 c3 kc h0 n0 _ T43.heap _; exact ⟨b, kb, rfl, N44, f45, sz_b, f51, Vb4⟩), ⟨_, rfl⟩, hW, hsame.mono (by decide) (by decide)⟩
theorem own_ef_cp5_4 (m : MethodId) (a1 : Addr) (p2 : Int32) (a3 : Addr) (p4 : Int32) (p5 : Int32) : entryFrame m #[(.ref a1), (.int p2), (.ref a3), (.int p4), (.int p5)] 7 = mkF m 0 #[.val (.ref a1), .val (.int p2), .val (.ref a3), .val (.int p4), .val (.int p5), .unset, .unset] [] := by first | (simp [entryFrame, mkF, argsToLocals, Value.category]; done) | rfl
def own_Q_cp5_4 (Z : State) (a1 : Addr) (p2 : Int32) (a3 : Addr) (p4 : Int32) (p5 : Int32) (c0 c1 c2 c3 : Int32) (kc kd : ClassId) (h0 : Heap) (n0 : Nat) (v : Option Value) (h : Heap) (L : List Loc) : Prop := Fr n0 L ∧ Keep h0 h [a3] ∧ ((v = some (.int (0 : Int32)) ∧ (255 : Int32) < c0) ∨ (v = some (.int (1 : Int32)) ∧ (255 : Int32) < c1) ∨ (v = some (.int (2 : Int32)) ∧ (255 : Int32) < c2) ∨ (v = some (.int (3 : Int32)) ∧ (255 : Int32) < c3))
set_option maxRecDepth 65536 in
set_option maxHeartbeats 40000000 in
theorem own_rm_cp5_4 (l : Launch) (Z : State) (a0 : Array Value) (hw : ∀ d ∈ tables_1, d.before a0 Z = true) (ws : List Jvm.Cond) (a1 : Addr) (p2 : Int32) (a3 : Addr) (p4 : Int32) (p5 : Int32) (c0 c1 c2 c3 : Int32) (kc kd : ClassId) (h0 : Heap) (n0 : Nat) (Z0 : n0 ≤ h0.size) (Vc : Arv Z h0 a1 kc .char (4 : Int32) [(.int c0), (.int c1), (.int c2), (.int c3)] (.int 0)) (Vd : Arv Z h0 a3 kd .byte (4 : Int32) [(.int (0 : Int32)), (.int (0 : Int32)), (.int (0 : Int32)), (.int (0 : Int32))] (.int 0)) (ne13 : a1 ≠ a3) (g_a3 : n0 ≤ a3) (E3 : Exa Z h0 a3 "[B") (hp2 : p2 = 0) (hp4 : p4 = 0) (hp5 : p5 = (4 : Int32)) (hwd : (255 : Int32) < c0 ∨ (255 : Int32) < c1 ∨ (255 : Int32) < c2 ∨ (255 : Int32) < c3) :
    MetFree l (⟨"java/lang/StringUTF16", "compress", "([CI[BII)I"⟩ : MethodName) (head1 (Jvm.Cond.code (⟨"java/lang/StringUTF16", "compress", "([CI[BII)I"⟩ : MethodName) jdk_52_method_21_code 7 (some .int) :: ws) ({ frames := 0, cells := 0, slots := 0, locals := 0 } : Room)) (fun a U => a = #[(.ref a1), (.int p2), (.ref a3), (.int p4), (.int p5)] ∧ Z.Warmed39 U.vm ∧ U.heap = h0) (fun _ _ _ _ _ => True) (fun _ U o U' => ∃ v L, o = .returned v ∧ own_Q_cp5_4 Z a1 p2 a3 p4 p5 c0 c1 c2 c3 kc kd h0 n0 v U'.heap L ∧ FrameEnd U o U' L ({ frames := 0, cells := 0, slots := 0, locals := 0 } : Room).cells ({ frames := 0, cells := 0, slots := 0, locals := 0 } : Room).slots) := by
  refine MetFree.of_bodySF (plainFor_of_name own_pn_0) hisR ?_
  intro p e s m args below meth c s₁ Bd hml0 hP hK
  obtain ⟨rfl, hZ, hh⟩ := hP
  have hx := Bd.exec
  have hby := Bd.bytes
  have hml : c.maxLocals = 7 := hml0
  have hown : s.vm.findClass "java/lang/StringUTF16" = some m.cls := findClass_of_methodNamed Bd.named
  have hnm := (name_of_methodNamed Bd.named Bd.method).1
  have X0 : Stand p l e ({ frames := 0, cells := 0, slots := 0, locals := 0 } : Room) s m #[(.ref a1), (.int p2), (.ref a3), (.int p4), (.int p5)] below meth c s₁ [] 0 0 := Stand.of_body Bd
  have e0 : s₁.heap = h0 := by rw [← hh, Bd.state]; rfl
  have N0 := Fr.nil n0
  refine own_start (own_ef_cp5_4 m a1 p2 a3 p4 p5 ) ?_
  subst hp2 hp4 hp5
  have K0 : Keep h0 h0 [a3] := Keep.refl _ _
  refine own_of (T' := s₁) (f' := (mkF m 12 #[.val (.ref a1), .val (.int (0 : Int32)), .val (.ref a3), .val (.int (0 : Int32)), .val (.int (4 : Int32)), .val (.int (0 : Int32)), .unset] [(.int (0 : Int32)), (.ref a1)])) (fun t_ k_ => (XS.iconst X0.here hx rfl (Jvm.hb hby own_d_jdk_52_method_21_code_0) (XS.istore X0.here hx rfl (Jvm.hb hby own_d_jdk_52_method_21_code_1) rfl (l' := #[.val (.ref a1), .val (.int (0 : Int32)), .val (.ref a3), .val (.int (0 : Int32)), .val (.int (4 : Int32)), .val (.int (0 : Int32)), .unset]) rfl (XS.iload X0.here hx rfl (Jvm.hb hby own_d_jdk_52_method_21_code_3) rfl (XS.iload X0.here hx rfl (Jvm.hb hby own_d_jdk_52_method_21_code_5) rfl (XS.icmpNo X0.here hx rfl (Jvm.hb hby own_d_jdk_52_method_21_code_7) rfl (tlt (by decide)).2.1 (XS.aloadN X0.here hx rfl (Jvm.hb hby own_d_jdk_52_method_21_code_10) rfl rfl (XS.iloadN X0.here hx rfl (Jvm.hb hby own_d_jdk_52_method_21_code_11) rfl k_)))))))) ?_
  obtain ⟨cl1, Ar1, qq1, Sz1, Nn1, Hh1, Gg1⟩ := id Vc
  have hin1 : ¬ ((0 : Int32) < 0 ∨ cl1.slots.size ≤ ((0 : Int32)).toNatClampNeg) := inb_of Sz1 ⟨by decide, by decide⟩
  refine own_of (T' := s₁) (f' := (mkF m 20 #[.val (.ref a1), .val (.int (0 : Int32)), .val (.ref a3), .val (.int (0 : Int32)), .val (.int (4 : Int32)), .val (.int (0 : Int32)), .val (.int c0)] [(.int (255 : Int32)), (.int c0)])) (fun t_ k_ => (X0.caload hx (j := (0 : Int32)) (v := (.int c0)) (by first | (rw [e0]; exact Ar1.1) | exact Ar1.1) (State.isArrayOf_alike hZ.alike Ar1.2.1) Ar1.2.2 hin1 (Hh1.at hin1 rfl) (g := (mkF m 12 #[.val (.ref a1), .val (.int (0 : Int32)), .val (.ref a3), .val (.int (0 : Int32)), .val (.int (4 : Int32)), .val (.int (0 : Int32)), .unset] [(.int (0 : Int32)), (.ref a1)])) rfl rfl (Jvm.hb hby own_d_jdk_52_method_21_code_12) _ (XS.istore X0.here hx rfl (Jvm.hb hby own_d_jdk_52_method_21_code_13) rfl (l' := #[.val (.ref a1), .val (.int (0 : Int32)), .val (.ref a3), .val (.int (0 : Int32)), .val (.int (4 : Int32)), .val (.int (0 : Int32)), .val (.int c0)]) rfl (XS.iload X0.here hx rfl (Jvm.hb hby own_d_jdk_52_method_21_code_15) rfl (XS.sipush X0.here hx rfl (Jvm.hb hby own_d_jdk_52_method_21_code_17) k_))))) ?_
  by_cases hc20_2 : ((255 : Int32) < c0)
  · skip
    refine own_of (T' := s₁) (f' := (mkF m 25 #[.val (.ref a1), .val (.int (0 : Int32)), .val (.ref a3), .val (.int (0 : Int32)), .val (.int (4 : Int32)), .val (.int (0 : Int32)), .val (.int c0)] [(.int (0 : Int32))])) (fun t_ k_ => (XS.icmpNo X0.here hx rfl (Jvm.hb hby own_d_jdk_52_method_21_code_20) rfl (tlt hc20_2).2.2.2 (XS.iload X0.here hx rfl (Jvm.hb hby own_d_jdk_52_method_21_code_23) rfl k_))) ?_
    obtain ⟨fs, hr, hrun, hended, hW, hsame⟩ := X0.leave (v := some (.int (0 : Int32))) (fun h => by rw [Bd.returns] at h; cases h)
    exact ⟨_, _, own_retI X0 hx Bd.returns (Jvm.hb hby own_d_jdk_52_method_21_code_25) hr, hrun, hended, _, _, rfl, (by show own_Q_cp5_4 Z a1 0 a3 0 (4 : Int32) c0 c1 c2 c3 kc kd h0 n0 _ s₁.heap _; rw [e0]; exact ⟨N0, K0, Or.inl ⟨rfl, hc20_2⟩⟩), ⟨_, rfl⟩, hW, hsame.mono (by decide) (by decide)⟩
  · skip
    refine own_of (T' := s₁) (f' := (mkF m 31 #[.val (.ref a1), .val (.int (0 : Int32)), .val (.ref a3), .val (.int (0 : Int32)), .val (.int (4 : Int32)), .val (.int (0 : Int32)), .val (.int c0)] [(.int (c0.toInt8.toInt32)), (.int (0 : Int32)), (.ref a3)])) (fun t_ k_ => (XS.icmpYes X0.here hx rfl (pc0 := 20) (pc' := 26) rfl (Jvm.hb hby own_d_jdk_52_method_21_code_20) rfl (flt hc20_2).2.2.2 (by decide) (by decide) (XS.aloadN X0.here hx rfl (Jvm.hb hby own_d_jdk_52_method_21_code_26) rfl rfl (XS.iloadN X0.here hx rfl (Jvm.hb hby own_d_jdk_52_method_21_code_27) rfl (XS.iload X0.here hx rfl (Jvm.hb hby own_d_jdk_52_method_21_code_28) rfl (XS.i2b X0.here hx rfl (Jvm.hb hby own_d_jdk_52_method_21_code_30) rfl k_)))))) ?_
    obtain ⟨cl3, Ar3, qq3, Sz3, Nn3, Hh3, Gg3⟩ := id Vd
    have hin3 : ¬ ((0 : Int32) < 0 ∨ cl3.slots.size ≤ ((0 : Int32)).toNatClampNeg) := inb_of Sz3 ⟨by decide, by decide⟩
    obtain ⟨T4, h4, X4, e4, W4, st4⟩ := stB X0 hx hZ e0 Ar3 (j := (0 : Int32)) hin3 (g := (mkF m 31 #[.val (.ref a1), .val (.int (0 : Int32)), .val (.ref a3), .val (.int (0 : Int32)), .val (.int (4 : Int32)), .val (.int (0 : Int32)), .val (.int c0)] [(.int (c0.toInt8.toInt32)), (.int (0 : Int32)), (.ref a3)])) rfl rfl (Jvm.hb hby own_d_jdk_52_method_21_code_31)
    refine own_of (T' := T4) (f' := (mkF m 32 #[.val (.ref a1), .val (.int (0 : Int32)), .val (.ref a3), .val (.int (0 : Int32)), .val (.int (4 : Int32)), .val (.int (0 : Int32)), .val (.int c0)] [])) (fun t_ k_ => (st4 _ k_)) ?_
    have f5 := Arv.set Ar3 qq3 Sz3 Nn3 Hh3 Gg3 (fits_nar_byte _) W4 0 rfl (Nat.le_of_ble_eq_true rfl)
    have N4 := Fr.snoc X4 N0 g_a3
    have f6 := K0.wr W4 (Or.inl (List.mem_of_getElem? (i := 0) rfl))
    have f7 := Nat.le_trans Z0 (Keep.of_wr W4).1
    have f8 := E3.wr W4
    have f9 := Vc.other W4 ne13
    refine own_of (T' := T4) (f' := (mkF m 41 #[.val (.ref a1), .val (.int ((0 : Int32) + (1 : Int32))), .val (.ref a3), .val (.int ((0 : Int32) + (1 : Int32))), .val (.int (4 : Int32)), .val (.int ((0 : Int32) + (1 : Int32))), .val (.int c0)] [])) (fun t_ k_ => (XS.iinc X4.here hx rfl (Jvm.hb hby own_d_jdk_52_method_21_code_32) rfl (l' := #[.val (.ref a1), .val (.int ((0 : Int32) + (1 : Int32))), .val (.ref a3), .val (.int (0 : Int32)), .val (.int (4 : Int32)), .val (.int (0 : Int32)), .val (.int c0)]) rfl (XS.iinc X4.here hx rfl (Jvm.hb hby own_d_jdk_52_method_21_code_35) rfl (l' := #[.val (.ref a1), .val (.int ((0 : Int32) + (1 : Int32))), .val (.ref a3), .val (.int ((0 : Int32) + (1 : Int32))), .val (.int (4 : Int32)), .val (.int (0 : Int32)), .val (.int c0)]) rfl (XS.iinc X4.here hx rfl (Jvm.hb hby own_d_jdk_52_method_21_code_38) rfl (l' := #[.val (.ref a1), .val (.int ((0 : Int32) + (1 : Int32))), .val (.ref a3), .val (.int ((0 : Int32) + (1 : Int32))), .val (.int (4 : Int32)), .val (.int ((0 : Int32) + (1 : Int32))), .val (.int c0)]) rfl k_)))) ?_
    try rw [(by decide : ((0 : Int32) + (1 : Int32)) = (1 : Int32))]
    try rw [(by decide : ((0 : Int32) + (1 : Int32)) = (1 : Int32))]
    try rw [(by decide : ((0 : Int32) + (1 : Int32)) = (1 : Int32))]
    refine own_of (T' := T4) (f' := (mkF m 12 #[.val (.ref a1), .val (.int (1 : Int32)), .val (.ref a3), .val (.int (1 : Int32)), .val (.int (4 : Int32)), .val (.int (1 : Int32)), .val (.int c0)] [(.int (1 : Int32)), (.ref a1)])) (fun t_ k_ => (XS.goto X4.here hx rfl (pc0 := 41) (pc' := 3) rfl (Jvm.hb hby own_d_jdk_52_method_21_code_41) (by decide) (by decide) (XS.iload X4.here hx rfl (Jvm.hb hby own_d_jdk_52_method_21_code_3) rfl (XS.iload X4.here hx rfl (Jvm.hb hby own_d_jdk_52_method_21_code_5) rfl (XS.icmpNo X4.here hx rfl (Jvm.hb hby own_d_jdk_52_method_21_code_7) rfl (tlt (by decide)).2.1 (XS.aloadN X4.here hx rfl (Jvm.hb hby own_d_jdk_52_method_21_code_10) rfl rfl (XS.iloadN X4.here hx rfl (Jvm.hb hby own_d_jdk_52_method_21_code_11) rfl k_))))))) ?_
    obtain ⟨cl11, Ar11, qq11, Sz11, Nn11, Hh11, Gg11⟩ := id f9
    have hin11 : ¬ ((1 : Int32) < 0 ∨ cl11.slots.size ≤ ((1 : Int32)).toNatClampNeg) := inb_of Sz11 ⟨by decide, by decide⟩
    refine own_of (T' := T4) (f' := (mkF m 20 #[.val (.ref a1), .val (.int (1 : Int32)), .val (.ref a3), .val (.int (1 : Int32)), .val (.int (4 : Int32)), .val (.int (1 : Int32)), .val (.int c1)] [(.int (255 : Int32)), (.int c1)])) (fun t_ k_ => (X4.caload hx (j := (1 : Int32)) (v := (.int c1)) (by first | (rw [e4]; exact Ar11.1) | exact Ar11.1) (State.isArrayOf_alike hZ.alike Ar11.2.1) Ar11.2.2 hin11 (Hh11.at hin11 rfl) (g := (mkF m 12 #[.val (.ref a1), .val (.int (1 : Int32)), .val (.ref a3), .val (.int (1 : Int32)), .val (.int (4 : Int32)), .val (.int (1 : Int32)), .val (.int c0)] [(.int (1 : Int32)), (.ref a1)])) rfl rfl (Jvm.hb hby own_d_jdk_52_method_21_code_12) _ (XS.istore X4.here hx rfl (Jvm.hb hby own_d_jdk_52_method_21_code_13) rfl (l' := #[.val (.ref a1), .val (.int (1 : Int32)), .val (.ref a3), .val (.int (1 : Int32)), .val (.int (4 : Int32)), .val (.int (1 : Int32)), .val (.int c1)]) rfl (XS.iload X4.here hx rfl (Jvm.hb hby own_d_jdk_52_method_21_code_15) rfl (XS.sipush X4.here hx rfl (Jvm.hb hby own_d_jdk_52_method_21_code_17) k_))))) ?_
    by_cases hc20_12 : ((255 : Int32) < c1)
    · skip
      refine own_of (T' := T4) (f' := (mkF m 25 #[.val (.ref a1), .val (.int (1 : Int32)), .val (.ref a3), .val (.int (1 : Int32)), .val (.int (4 : Int32)), .val (.int (1 : Int32)), .val (.int c1)] [(.int (1 : Int32))])) (fun t_ k_ => (XS.icmpNo X4.here hx rfl (Jvm.hb hby own_d_jdk_52_method_21_code_20) rfl (tlt hc20_12).2.2.2 (XS.iload X4.here hx rfl (Jvm.hb hby own_d_jdk_52_method_21_code_23) rfl k_))) ?_
      obtain ⟨fs, hr, hrun, hended, hW, hsame⟩ := X4.leave (v := some (.int (1 : Int32))) (fun h => by rw [Bd.returns] at h; cases h)
      exact ⟨_, _, own_retI X4 hx Bd.returns (Jvm.hb hby own_d_jdk_52_method_21_code_25) hr, hrun, hended, _, _, rfl, (by show own_Q_cp5_4 Z a1 0 a3 0 (4 : Int32) c0 c1 c2 c3 kc kd h0 n0 _ T4.heap _; rw [e4]; exact ⟨N4, f6, Or.inr (Or.inl ⟨rfl, hc20_12⟩)⟩), ⟨_, rfl⟩, hW, hsame.mono (by decide) (by decide)⟩
    · skip
      refine own_of (T' := T4) (f' := (mkF m 31 #[.val (.ref a1), .val (.int (1 : Int32)), .val (.ref a3), .val (.int (1 : Int32)), .val (.int (4 : Int32)), .val (.int (1 : Int32)), .val (.int c1)] [(.int (c1.toInt8.toInt32)), (.int (1 : Int32)), (.ref a3)])) (fun t_ k_ => (XS.icmpYes X4.here hx rfl (pc0 := 20) (pc' := 26) rfl (Jvm.hb hby own_d_jdk_52_method_21_code_20) rfl (flt hc20_12).2.2.2 (by decide) (by decide) (XS.aloadN X4.here hx rfl (Jvm.hb hby own_d_jdk_52_method_21_code_26) rfl rfl (XS.iloadN X4.here hx rfl (Jvm.hb hby own_d_jdk_52_method_21_code_27) rfl (XS.iload X4.here hx rfl (Jvm.hb hby own_d_jdk_52_method_21_code_28) rfl (XS.i2b X4.here hx rfl (Jvm.hb hby own_d_jdk_52_method_21_code_30) rfl k_)))))) ?_
      obtain ⟨cl13, Ar13, qq13, Sz13, Nn13, Hh13, Gg13⟩ := id f5
      have hin13 : ¬ ((1 : Int32) < 0 ∨ cl13.slots.size ≤ ((1 : Int32)).toNatClampNeg) := inb_of Sz13 ⟨by decide, by decide⟩
      obtain ⟨T14, h14, X14, e14, W14, st14⟩ := stB X4 hx hZ e4 Ar13 (j := (1 : Int32)) hin13 (g := (mkF m 31 #[.val (.ref a1), .val (.int (1 : Int32)), .val (.ref a3), .val (.int (1 : Int32)), .val (.int (4 : Int32)), .val (.int (1 : Int32)), .val (.int c1)] [(.int (c1.toInt8.toInt32)), (.int (1 : Int32)), (.ref a3)])) rfl rfl (Jvm.hb hby own_d_jdk_52_method_21_code_31)
      refine own_of (T' := T14) (f' := (mkF m 32 #[.val (.ref a1), .val (.int (1 : Int32)), .val (.ref a3), .val (.int (1 : Int32)), .val (.int (4 : Int32)), .val (.int (1 : Int32)), .val (.int c1)] [])) (fun t_ k_ => (st14 _ k_)) ?_
      have f15 := Arv.set Ar13 qq13 Sz13 Nn13 Hh13 Gg13 (fits_nar_byte _) W14 1 rfl (Nat.le_of_ble_eq_true rfl)
      have N14 := Fr.snoc X14 N4 g_a3
      have f16 := f6.wr W14 (Or.inl (List.mem_of_getElem? (i := 0) rfl))
      have f17 := Nat.le_trans f7 (Keep.of_wr W14).1
      have f18 := f8.wr W14
      have f19 := f9.other W14 ne13
      refine own_of (T' := T14) (f' := (mkF m 41 #[.val (.ref a1), .val (.int ((1 : Int32) + (1 : Int32))), .val (.ref a3), .val (.int ((1 : Int32) + (1 : Int32))), .val (.int (4 : Int32)), .val (.int ((1 : Int32) + (1 : Int32))), .val (.int c1)] [])) (fun t_ k_ => (XS.iinc X14.here hx rfl (Jvm.hb hby own_d_jdk_52_method_21_code_32) rfl (l' := #[.val (.ref a1), .val (.int ((1 : Int32) + (1 : Int32))), .val (.ref a3), .val (.int (1 : Int32)), .val (.int (4 : Int32)), .val (.int (1 : Int32)), .val (.int c1)]) rfl (XS.iinc X14.here hx rfl (Jvm.hb hby own_d_jdk_52_method_21_code_35) rfl (l' := #[.val (.ref a1), .val (.int ((1 : Int32) + (1 : Int32))), .val (.ref a3), .val (.int ((1 : Int32) + (1 : Int32))), .val (.int (4 : Int32)), .val (.int (1 : Int32)), .val (.int c1)]) rfl (XS.iinc X14.here hx rfl (Jvm.hb hby own_d_jdk_52_method_21_code_38) rfl (l' := #[.val (.ref a1), .val (.int ((1 : Int32) + (1 : Int32))), .val (.ref a3), .val (.int ((1 : Int32) + (1 : Int32))), .val (.int (4 : Int32)), .val (.int ((1 : Int32) + (1 : Int32))), .val (.int c1)]) rfl k_)))) ?_
      try rw [(by decide : ((1 : Int32) + (1 : Int32)) = (2 : Int32))]
      try rw [(by decide : ((1 : Int32) + (1 : Int32)) = (2 : Int32))]
      try rw [(by decide : ((1 : Int32) + (1 : Int32)) = (2 : Int32))]
      refine own_of (T' := T14) (f' := (mkF m 12 #[.val (.ref a1), .val (.int (2 : Int32)), .val (.ref a3), .val (.int (2 : Int32)), .val (.int (4 : Int32)), .val (.int (2 : Int32)), .val (.int c1)] [(.int (2 : Int32)), (.ref a1)])) (fun t_ k_ => (XS.goto X14.here hx rfl (pc0 := 41) (pc' := 3) rfl (Jvm.hb hby own_d_jdk_52_method_21_code_41) (by decide) (by decide) (XS.iload X14.here hx rfl (Jvm.hb hby own_d_jdk_52_method_21_code_3) rfl (XS.iload X14.here hx rfl (Jvm.hb hby own_d_jdk_52_method_21_code_5) rfl (XS.icmpNo X14.here hx rfl (Jvm.hb hby own_d_jdk_52_method_21_code_7) rfl (tlt (by decide)).2.1 (XS.aloadN X14.here hx rfl (Jvm.hb hby own_d_jdk_52_method_21_code_10) rfl rfl (XS.iloadN X14.here hx rfl (Jvm.hb hby own_d_jdk_52_method_21_code_11) rfl k_))))))) ?_
      obtain ⟨cl21, Ar21, qq21, Sz21, Nn21, Hh21, Gg21⟩ := id f19
      have hin21 : ¬ ((2 : Int32) < 0 ∨ cl21.slots.size ≤ ((2 : Int32)).toNatClampNeg) := inb_of Sz21 ⟨by decide, by decide⟩
      refine own_of (T' := T14) (f' := (mkF m 20 #[.val (.ref a1), .val (.int (2 : Int32)), .val (.ref a3), .val (.int (2 : Int32)), .val (.int (4 : Int32)), .val (.int (2 : Int32)), .val (.int c2)] [(.int (255 : Int32)), (.int c2)])) (fun t_ k_ => (X14.caload hx (j := (2 : Int32)) (v := (.int c2)) (by first | (rw [e14]; exact Ar21.1) | exact Ar21.1) (State.isArrayOf_alike hZ.alike Ar21.2.1) Ar21.2.2 hin21 (Hh21.at hin21 rfl) (g := (mkF m 12 #[.val (.ref a1), .val (.int (2 : Int32)), .val (.ref a3), .val (.int (2 : Int32)), .val (.int (4 : Int32)), .val (.int (2 : Int32)), .val (.int c1)] [(.int (2 : Int32)), (.ref a1)])) rfl rfl (Jvm.hb hby own_d_jdk_52_method_21_code_12) _ (XS.istore X14.here hx rfl (Jvm.hb hby own_d_jdk_52_method_21_code_13) rfl (l' := #[.val (.ref a1), .val (.int (2 : Int32)), .val (.ref a3), .val (.int (2 : Int32)), .val (.int (4 : Int32)), .val (.int (2 : Int32)), .val (.int c2)]) rfl (XS.iload X14.here hx rfl (Jvm.hb hby own_d_jdk_52_method_21_code_15) rfl (XS.sipush X14.here hx rfl (Jvm.hb hby own_d_jdk_52_method_21_code_17) k_))))) ?_
      by_cases hc20_22 : ((255 : Int32) < c2)
      · skip
        refine own_of (T' := T14) (f' := (mkF m 25 #[.val (.ref a1), .val (.int (2 : Int32)), .val (.ref a3), .val (.int (2 : Int32)), .val (.int (4 : Int32)), .val (.int (2 : Int32)), .val (.int c2)] [(.int (2 : Int32))])) (fun t_ k_ => (XS.icmpNo X14.here hx rfl (Jvm.hb hby own_d_jdk_52_method_21_code_20) rfl (tlt hc20_22).2.2.2 (XS.iload X14.here hx rfl (Jvm.hb hby own_d_jdk_52_method_21_code_23) rfl k_))) ?_
        obtain ⟨fs, hr, hrun, hended, hW, hsame⟩ := X14.leave (v := some (.int (2 : Int32))) (fun h => by rw [Bd.returns] at h; cases h)
        exact ⟨_, _, own_retI X14 hx Bd.returns (Jvm.hb hby own_d_jdk_52_method_21_code_25) hr, hrun, hended, _, _, rfl, (by show own_Q_cp5_4 Z a1 0 a3 0 (4 : Int32) c0 c1 c2 c3 kc kd h0 n0 _ T14.heap _; rw [e14]; exact ⟨N14, f16, Or.inr (Or.inr (Or.inl ⟨rfl, hc20_22⟩))⟩), ⟨_, rfl⟩, hW, hsame.mono (by decide) (by decide)⟩
      · skip
        refine own_of (T' := T14) (f' := (mkF m 31 #[.val (.ref a1), .val (.int (2 : Int32)), .val (.ref a3), .val (.int (2 : Int32)), .val (.int (4 : Int32)), .val (.int (2 : Int32)), .val (.int c2)] [(.int (c2.toInt8.toInt32)), (.int (2 : Int32)), (.ref a3)])) (fun t_ k_ => (XS.icmpYes X14.here hx rfl (pc0 := 20) (pc' := 26) rfl (Jvm.hb hby own_d_jdk_52_method_21_code_20) rfl (flt hc20_22).2.2.2 (by decide) (by decide) (XS.aloadN X14.here hx rfl (Jvm.hb hby own_d_jdk_52_method_21_code_26) rfl rfl (XS.iloadN X14.here hx rfl (Jvm.hb hby own_d_jdk_52_method_21_code_27) rfl (XS.iload X14.here hx rfl (Jvm.hb hby own_d_jdk_52_method_21_code_28) rfl (XS.i2b X14.here hx rfl (Jvm.hb hby own_d_jdk_52_method_21_code_30) rfl k_)))))) ?_
        obtain ⟨cl23, Ar23, qq23, Sz23, Nn23, Hh23, Gg23⟩ := id f15
        have hin23 : ¬ ((2 : Int32) < 0 ∨ cl23.slots.size ≤ ((2 : Int32)).toNatClampNeg) := inb_of Sz23 ⟨by decide, by decide⟩
        obtain ⟨T24, h24, X24, e24, W24, st24⟩ := stB X14 hx hZ e14 Ar23 (j := (2 : Int32)) hin23 (g := (mkF m 31 #[.val (.ref a1), .val (.int (2 : Int32)), .val (.ref a3), .val (.int (2 : Int32)), .val (.int (4 : Int32)), .val (.int (2 : Int32)), .val (.int c2)] [(.int (c2.toInt8.toInt32)), (.int (2 : Int32)), (.ref a3)])) rfl rfl (Jvm.hb hby own_d_jdk_52_method_21_code_31)
        refine own_of (T' := T24) (f' := (mkF m 32 #[.val (.ref a1), .val (.int (2 : Int32)), .val (.ref a3), .val (.int (2 : Int32)), .val (.int (4 : Int32)), .val (.int (2 : Int32)), .val (.int c2)] [])) (fun t_ k_ => (st24 _ k_)) ?_
        have f25 := Arv.set Ar23 qq23 Sz23 Nn23 Hh23 Gg23 (fits_nar_byte _) W24 2 rfl (Nat.le_of_ble_eq_true rfl)
        have N24 := Fr.snoc X24 N14 g_a3
        have f26 := f16.wr W24 (Or.inl (List.mem_of_getElem? (i := 0) rfl))
        have f27 := Nat.le_trans f17 (Keep.of_wr W24).1
        have f28 := f18.wr W24
        have f29 := f19.other W24 ne13
        refine own_of (T' := T24) (f' := (mkF m 41 #[.val (.ref a1), .val (.int ((2 : Int32) + (1 : Int32))), .val (.ref a3), .val (.int ((2 : Int32) + (1 : Int32))), .val (.int (4 : Int32)), .val (.int ((2 : Int32) + (1 : Int32))), .val (.int c2)] [])) (fun t_ k_ => (XS.iinc X24.here hx rfl (Jvm.hb hby own_d_jdk_52_method_21_code_32) rfl (l' := #[.val (.ref a1), .val (.int ((2 : Int32) + (1 : Int32))), .val (.ref a3), .val (.int (2 : Int32)), .val (.int (4 : Int32)), .val (.int (2 : Int32)), .val (.int c2)]) rfl (XS.iinc X24.here hx rfl (Jvm.hb hby own_d_jdk_52_method_21_code_35) rfl (l' := #[.val (.ref a1), .val (.int ((2 : Int32) + (1 : Int32))), .val (.ref a3), .val (.int ((2 : Int32) + (1 : Int32))), .val (.int (4 : Int32)), .val (.int (2 : Int32)), .val (.int c2)]) rfl (XS.iinc X24.here hx rfl (Jvm.hb hby own_d_jdk_52_method_21_code_38) rfl (l' := #[.val (.ref a1), .val (.int ((2 : Int32) + (1 : Int32))), .val (.ref a3), .val (.int ((2 : Int32) + (1 : Int32))), .val (.int (4 : Int32)), .val (.int ((2 : Int32) + (1 : Int32))), .val (.int c2)]) rfl k_)))) ?_
        try rw [(by decide : ((2 : Int32) + (1 : Int32)) = (3 : Int32))]
        try rw [(by decide : ((2 : Int32) + (1 : Int32)) = (3 : Int32))]
        try rw [(by decide : ((2 : Int32) + (1 : Int32)) = (3 : Int32))]
        refine own_of (T' := T24) (f' := (mkF m 12 #[.val (.ref a1), .val (.int (3 : Int32)), .val (.ref a3), .val (.int (3 : Int32)), .val (.int (4 : Int32)), .val (.int (3 : Int32)), .val (.int c2)] [(.int (3 : Int32)), (.ref a1)])) (fun t_ k_ => (XS.goto X24.here hx rfl (pc0 := 41) (pc' := 3) rfl (Jvm.hb hby own_d_jdk_52_method_21_code_41) (by decide) (by decide) (XS.iload X24.here hx rfl (Jvm.hb hby own_d_jdk_52_method_21_code_3) rfl (XS.iload X24.here hx rfl (Jvm.hb hby own_d_jdk_52_method_21_code_5) rfl (XS.icmpNo X24.here hx rfl (Jvm.hb hby own_d_jdk_52_method_21_code_7) rfl (tlt (by decide)).2.1 (XS.aloadN X24.here hx rfl (Jvm.hb hby own_d_jdk_52_method_21_code_10) rfl rfl (XS.iloadN X24.here hx rfl (Jvm.hb hby own_d_jdk_52_method_21_code_11) rfl k_))))))) ?_
        obtain ⟨cl31, Ar31, qq31, Sz31, Nn31, Hh31, Gg31⟩ := id f29
        have hin31 : ¬ ((3 : Int32) < 0 ∨ cl31.slots.size ≤ ((3 : Int32)).toNatClampNeg) := inb_of Sz31 ⟨by decide, by decide⟩
        refine own_of (T' := T24) (f' := (mkF m 20 #[.val (.ref a1), .val (.int (3 : Int32)), .val (.ref a3), .val (.int (3 : Int32)), .val (.int (4 : Int32)), .val (.int (3 : Int32)), .val (.int c3)] [(.int (255 : Int32)), (.int c3)])) (fun t_ k_ => (X24.caload hx (j := (3 : Int32)) (v := (.int c3)) (by first | (rw [e24]; exact Ar31.1) | exact Ar31.1) (State.isArrayOf_alike hZ.alike Ar31.2.1) Ar31.2.2 hin31 (Hh31.at hin31 rfl) (g := (mkF m 12 #[.val (.ref a1), .val (.int (3 : Int32)), .val (.ref a3), .val (.int (3 : Int32)), .val (.int (4 : Int32)), .val (.int (3 : Int32)), .val (.int c2)] [(.int (3 : Int32)), (.ref a1)])) rfl rfl (Jvm.hb hby own_d_jdk_52_method_21_code_12) _ (XS.istore X24.here hx rfl (Jvm.hb hby own_d_jdk_52_method_21_code_13) rfl (l' := #[.val (.ref a1), .val (.int (3 : Int32)), .val (.ref a3), .val (.int (3 : Int32)), .val (.int (4 : Int32)), .val (.int (3 : Int32)), .val (.int c3)]) rfl (XS.iload X24.here hx rfl (Jvm.hb hby own_d_jdk_52_method_21_code_15) rfl (XS.sipush X24.here hx rfl (Jvm.hb hby own_d_jdk_52_method_21_code_17) k_))))) ?_
        by_cases hc20_32 : ((255 : Int32) < c3)
        · skip
          refine own_of (T' := T24) (f' := (mkF m 25 #[.val (.ref a1), .val (.int (3 : Int32)), .val (.ref a3), .val (.int (3 : Int32)), .val (.int (4 : Int32)), .val (.int (3 : Int32)), .val (.int c3)] [(.int (3 : Int32))])) (fun t_ k_ => (XS.icmpNo X24.here hx rfl (Jvm.hb hby own_d_jdk_52_method_21_code_20) rfl (tlt hc20_32).2.2.2 (XS.iload X24.here hx rfl (Jvm.hb hby own_d_jdk_52_method_21_code_23) rfl k_))) ?_
          obtain ⟨fs, hr, hrun, hended, hW, hsame⟩ := X24.leave (v := some (.int (3 : Int32))) (fun h => by rw [Bd.returns] at h; cases h)
          exact ⟨_, _, own_retI X24 hx Bd.returns (Jvm.hb hby own_d_jdk_52_method_21_code_25) hr, hrun, hended, _, _, rfl, (by show own_Q_cp5_4 Z a1 0 a3 0 (4 : Int32) c0 c1 c2 c3 kc kd h0 n0 _ T24.heap _; rw [e24]; exact ⟨N24, f26, Or.inr (Or.inr (Or.inr (⟨rfl, hc20_32⟩)))⟩), ⟨_, rfl⟩, hW, hsame.mono (by decide) (by decide)⟩
        · skip
          refine own_of (T' := T24) (f' := (mkF m 31 #[.val (.ref a1), .val (.int (3 : Int32)), .val (.ref a3), .val (.int (3 : Int32)), .val (.int (4 : Int32)), .val (.int (3 : Int32)), .val (.int c3)] [(.int (c3.toInt8.toInt32)), (.int (3 : Int32)), (.ref a3)])) (fun t_ k_ => (XS.icmpYes X24.here hx rfl (pc0 := 20) (pc' := 26) rfl (Jvm.hb hby own_d_jdk_52_method_21_code_20) rfl (flt hc20_32).2.2.2 (by decide) (by decide) (XS.aloadN X24.here hx rfl (Jvm.hb hby own_d_jdk_52_method_21_code_26) rfl rfl (XS.iloadN X24.here hx rfl (Jvm.hb hby own_d_jdk_52_method_21_code_27) rfl (XS.iload X24.here hx rfl (Jvm.hb hby own_d_jdk_52_method_21_code_28) rfl (XS.i2b X24.here hx rfl (Jvm.hb hby own_d_jdk_52_method_21_code_30) rfl k_)))))) ?_
          obtain ⟨cl33, Ar33, qq33, Sz33, Nn33, Hh33, Gg33⟩ := id f25
          have hin33 : ¬ ((3 : Int32) < 0 ∨ cl33.slots.size ≤ ((3 : Int32)).toNatClampNeg) := inb_of Sz33 ⟨by decide, by decide⟩
          obtain ⟨T34, h34, X34, e34, W34, st34⟩ := stB X24 hx hZ e24 Ar33 (j := (3 : Int32)) hin33 (g := (mkF m 31 #[.val (.ref a1), .val (.int (3 : Int32)), .val (.ref a3), .val (.int (3 : Int32)), .val (.int (4 : Int32)), .val (.int (3 : Int32)), .val (.int c3)] [(.int (c3.toInt8.toInt32)), (.int (3 : Int32)), (.ref a3)])) rfl rfl (Jvm.hb hby own_d_jdk_52_method_21_code_31)
          refine own_of (T' := T34) (f' := (mkF m 32 #[.val (.ref a1), .val (.int (3 : Int32)), .val (.ref a3), .val (.int (3 : Int32)), .val (.int (4 : Int32)), .val (.int (3 : Int32)), .val (.int c3)] [])) (fun t_ k_ => (st34 _ k_)) ?_
          have f35 := Arv.set Ar33 qq33 Sz33 Nn33 Hh33 Gg33 (fits_nar_byte _) W34 3 rfl (Nat.le_of_ble_eq_true rfl)
          have N34 := Fr.snoc X34 N24 g_a3
          have f36 := f26.wr W34 (Or.inl (List.mem_of_getElem? (i := 0) rfl))
          have f37 := Nat.le_trans f27 (Keep.of_wr W34).1
          have f38 := f28.wr W34
          have f39 := f29.other W34 ne13
          refine own_of (T' := T34) (f' := (mkF m 41 #[.val (.ref a1), .val (.int ((3 : Int32) + (1 : Int32))), .val (.ref a3), .val (.int ((3 : Int32) + (1 : Int32))), .val (.int (4 : Int32)), .val (.int ((3 : Int32) + (1 : Int32))), .val (.int c3)] [])) (fun t_ k_ => (XS.iinc X34.here hx rfl (Jvm.hb hby own_d_jdk_52_method_21_code_32) rfl (l' := #[.val (.ref a1), .val (.int ((3 : Int32) + (1 : Int32))), .val (.ref a3), .val (.int (3 : Int32)), .val (.int (4 : Int32)), .val (.int (3 : Int32)), .val (.int c3)]) rfl (XS.iinc X34.here hx rfl (Jvm.hb hby own_d_jdk_52_method_21_code_35) rfl (l' := #[.val (.ref a1), .val (.int ((3 : Int32) + (1 : Int32))), .val (.ref a3), .val (.int ((3 : Int32) + (1 : Int32))), .val (.int (4 : Int32)), .val (.int (3 : Int32)), .val (.int c3)]) rfl (XS.iinc X34.here hx rfl (Jvm.hb hby own_d_jdk_52_method_21_code_38) rfl (l' := #[.val (.ref a1), .val (.int ((3 : Int32) + (1 : Int32))), .val (.ref a3), .val (.int ((3 : Int32) + (1 : Int32))), .val (.int (4 : Int32)), .val (.int ((3 : Int32) + (1 : Int32))), .val (.int c3)]) rfl k_)))) ?_
          try rw [(by decide : ((3 : Int32) + (1 : Int32)) = (4 : Int32))]
          try rw [(by decide : ((3 : Int32) + (1 : Int32)) = (4 : Int32))]
          try rw [(by decide : ((3 : Int32) + (1 : Int32)) = (4 : Int32))]
          refine own_of (T' := T34) (f' := (mkF m 7 #[.val (.ref a1), .val (.int (4 : Int32)), .val (.ref a3), .val (.int (4 : Int32)), .val (.int (4 : Int32)), .val (.int (4 : Int32)), .val (.int c3)] [(.int (4 : Int32)), (.int (4 : Int32))])) (fun t_ k_ => (XS.goto X34.here hx rfl (pc0 := 41) (pc' := 3) rfl (Jvm.hb hby own_d_jdk_52_method_21_code_41) (by decide) (by decide) (XS.iload X34.here hx rfl (Jvm.hb hby own_d_jdk_52_method_21_code_3) rfl (XS.iload X34.here hx rfl (Jvm.hb hby own_d_jdk_52_method_21_code_5) rfl k_)))) ?_
          exact absurd hwd (by simp only [hc20_2, hc20_12, hc20_22, hc20_32, or_self, not_false_eq_true])
theorem own_ef_cp3_4 (m : MethodId) (a1 : Addr) (p2 : Int32) (p3 : Int32) : entryFrame m #[(.ref a1), (.int p2), (.int p3)] 6 = mkF m 0 #[.val (.ref a1), .val (.int p2), .val (.int p3), .unset, .unset, .unset] [] := by first | (simp [entryFrame, mkF, argsToLocals, Value.category]; done) | rfl
def own_Q_cp3_4 (Z : State) (a1 : Addr) (p2 : Int32) (p3 : Int32) (c0 c1 c2 c3 : Int32) (kc : ClassId) (h0 : Heap) (n0 : Nat) (v : Option Value) (h : Heap) (L : List Loc) : Prop := ∃ b k, v = some (.ref b) ∧ Fr n0 L ∧ Keep h0 h [] ∧ h0.size ≤ b ∧ Exa Z h b "[B" ∧ Arv Z h b k .byte (8 : Int32) [(.int (StrChars.lo8 c0)), (.int (StrChars.hi8 c0)), (.int (StrChars.lo8 c1)), (.int (StrChars.hi8 c1)), (.int (StrChars.lo8 c2)), (.int (StrChars.hi8 c2)), (.int (StrChars.lo8 c3)), (.int (StrChars.hi8 c3))] (.int 0)
set_option maxRecDepth 65536 in
set_option maxHeartbeats 40000000 in
theorem own_rm_cp3_4 (l : Launch) (Z : State) (a0 : Array Value) (hw : ∀ d ∈ tables_1, d.before a0 Z = true) (ws : List Jvm.Cond) (a1 : Addr) (p2 : Int32) (p3 : Int32) (c0 c1 c2 c3 : Int32) (kc : ClassId) (h0 : Heap) (n0 : Nat) (Z0 : n0 ≤ h0.size) (S1 : Sta Z h0 "java/lang/StringUTF16" "$assertionsDisabled" "Z" (.int 1)) (S2 : Sta Z h0 "java/lang/StringUTF16" "HI_BYTE_SHIFT" "I" (.int 0)) (S3 : Sta Z h0 "java/lang/StringUTF16" "LO_BYTE_SHIFT" "I" (.int 8)) (Vc : Arv Z h0 a1 kc .char (4 : Int32) [(.int c0), (.int c1), (.int c2), (.int c3)] (.int 0)) (hp2 : p2 = 0) (hp3 : p3 = (4 : Int32)) (hr : ∀ c ∈ ([c0, c1, c2, c3] : List Int32), ¬ c < 0 ∧ ¬ (65535 : Int32) < c) (hwd : (255 : Int32) < c0 ∨ (255 : Int32) < c1 ∨ (255 : Int32) < c2 ∨ (255 : Int32) < c3) :
    MetFree l (⟨"java/lang/StringUTF16", "compress", "([CII)[B"⟩ : MethodName) (head1 (Jvm.Cond.code (⟨"java/lang/StringUTF16", "compress", "([CII)[B"⟩ : MethodName) jdk_52_method_16_code 6 (some (.array .byte)) :: ws) ({ frames := 3, cells := 2, slots := 12, locals := 40 } : Room)) (fun a U => a = #[(.ref a1), (.int p2), (.int p3)] ∧ Z.Warmed39 U.vm ∧ U.heap = h0) (fun _ _ _ _ _ => True) (fun _ U o U' => ∃ v L, o = .returned v ∧ own_Q_cp3_4 Z a1 p2 p3 c0 c1 c2 c3 kc h0 n0 v U'.heap L ∧ FrameEnd U o U' L ({ frames := 3, cells := 2, slots := 12, locals := 40 } : Room).cells ({ frames := 3, cells := 2, slots := 12, locals := 40 } : Room).slots) := by
  refine MetFree.of_bodySF (plainFor_of_name own_pn_0) hisR ?_
  intro p e s m args below meth c s₁ Bd hml0 hP hK
  obtain ⟨rfl, hZ, hh⟩ := hP
  have hx := Bd.exec
  have hby := Bd.bytes
  have hml : c.maxLocals = 6 := hml0
  have hown : s.vm.findClass "java/lang/StringUTF16" = some m.cls := findClass_of_methodNamed Bd.named
  have hnm := (name_of_methodNamed Bd.named Bd.method).1
  have X0 : Stand p l e ({ frames := 3, cells := 2, slots := 12, locals := 40 } : Room) s m #[(.ref a1), (.int p2), (.int p3)] below meth c s₁ [] 0 0 := Stand.of_body Bd
  have e0 : s₁.heap = h0 := by rw [← hh, Bd.state]; rfl
  have N0 := Fr.nil n0
  refine own_start (own_ef_cp3_4 m a1 p2 p3 ) ?_
  subst hp2 hp3
  have K0 : Keep h0 h0 [] := Keep.refl _ _
  refine own_of (T' := s₁) (f' := (mkF m 1 #[.val (.ref a1), .val (.int (0 : Int32)), .val (.int (4 : Int32)), .unset, .unset, .unset] [(.int (4 : Int32))])) (fun t_ k_ => (XS.iloadN X0.here hx rfl (Jvm.hb hby own_d_jdk_52_method_16_code_0) rfl k_)) ?_
  obtain ⟨T1, h1, k1, X1, e1, E1, A1, Ex1, st1⟩ := newPE X0 hx hZ (hw _ (List.mem_of_getElem? (i := 20) rfl)) e0 (g := (mkF m 1 #[.val (.ref a1), .val (.int (0 : Int32)), .val (.int (4 : Int32)), .unset, .unset, .unset] [(.int (4 : Int32))])) rfl (Jvm.hb hby own_d_jdk_52_method_16_code_1) rfl (by decide) (cap := 4) (by decide) (by decide) (by decide) (by decide) (ad := "[B") (by decide)
  obtain ⟨bb, g1⟩ : ∃ z, z = h0.size := ⟨_, rfl⟩
  rw [← g1] at A1 Ex1 st1
  have ne_a1_bb : a1 ≠ bb := by rw [g1]; exact Nat.ne_of_lt Vc.lt
  have g_bb : n0 ≤ bb := Nat.le_trans Z0 (Nat.le_of_eq g1.symm)
  have sz_bb : h0.size ≤ bb := Nat.le_trans K0.1 (Nat.le_of_eq g1.symm)
  have f2 := K0.ext E1
  have f3 := Nat.le_trans Z0 E1.1
  have f4 := S1.ext E1
  have f5 := S2.ext E1
  have f6 := S3.ext E1
  have f7 := Vc.ext E1
  have f8 : Arv Z h1 bb k1 .byte (4 : Int32) [(.int (0 : Int32)), (.int (0 : Int32)), (.int (0 : Int32)), (.int (0 : Int32))] (.int (0 : Int32)) := (Arv.new A1 (by decide)).pad (pad_rep [] (.int (0 : Int32)) 4)
  refine own_of (T' := T1) (f' := (mkF m 9 #[.val (.ref a1), .val (.int (0 : Int32)), .val (.int (4 : Int32)), .val (.ref bb), .unset, .unset] [(.int (4 : Int32)), (.int (0 : Int32)), (.ref bb), (.int (0 : Int32)), (.ref a1)])) (fun t_ k_ => (st1 _ (XS.astoreN X1.here hx rfl (Jvm.hb hby own_d_jdk_52_method_16_code_3) rfl rfl (l' := #[.val (.ref a1), .val (.int (0 : Int32)), .val (.int (4 : Int32)), .val (.ref bb), .unset, .unset]) rfl (XS.aloadN X1.here hx rfl (Jvm.hb hby own_d_jdk_52_method_16_code_4) rfl rfl (XS.iloadN X1.here hx rfl (Jvm.hb hby own_d_jdk_52_method_16_code_5) rfl (XS.aloadN X1.here hx rfl (Jvm.hb hby own_d_jdk_52_method_16_code_6) rfl rfl (XS.iconst X1.here hx rfl (Jvm.hb hby own_d_jdk_52_method_16_code_7) (XS.iloadN X1.here hx rfl (Jvm.hb hby own_d_jdk_52_method_16_code_8) rfl k_)))))))) ?_
  obtain ⟨_, _, ⟨T9, L9, k9, n9⟩, -, X9, ⟨Lc9, hQ9, l9, y9, z9⟩, st9⟩ := Jvm.LawKit.callS X1 hx (y := (⟨"java/lang/StringUTF16", "compress", "([CI[BII)I"⟩ : MethodName)) hown (mvT hZ (hw _ (List.mem_of_getElem? (i := 21) rfl))) (mvT hZ (hw _ (List.mem_of_getElem? (i := 22) rfl))) (mvT hZ (hw _ (List.mem_of_getElem? (i := 18) rfl))) (mvT hZ (hw _ (List.mem_of_getElem? (i := 23) rfl))) (by decide) (backOf (W := 0) (own_rm_cp5_4 l Z a0 hw [] a1 (0 : Int32) bb (0 : Int32) (4 : Int32) c0 c1 c2 c3 kc k1 h1 n0 f3 f7 f8 ne_a1_bb g_bb Ex1 rfl rfl rfl hwd) hZ (hw _ (List.mem_of_getElem? (i := 23) rfl)) (hw _ (List.mem_of_getElem? (i := 18) rfl)) (by decide) (by decide)) (g := (mkF m 9 #[.val (.ref a1), .val (.int (0 : Int32)), .val (.int (4 : Int32)), .val (.ref bb), .unset, .unset] [(.int (4 : Int32)), (.int (0 : Int32)), (.ref bb), (.int (0 : Int32)), (.ref a1)])) rfl (by rw [hml]; rfl) (argsL := [(.ref a1), (.int (0 : Int32)), (.ref bb), (.int (0 : Int32)), (.int (4 : Int32))]) (rest := []) (lenOf own_pd_3 rfl) rfl (by show 2 * 0 + _ ≤ _; exact Nat.le_of_eq rfl) (Jvm.hb hby own_d_jdk_52_method_16_code_9) (fun _ _ => ⟨rfl, e1, Nat.le_of_ble_eq_true rfl, Nat.le_of_ble_eq_true rfl⟩)
  dsimp only [Pt.U, Pt.locs, Pt.cells, Pt.slots] at X9 l9 y9 z9 st9 hQ9
  subst l9 y9 z9
  obtain ⟨N9, K9, hj9⟩ := hQ9
  have N10 := Fr.app N0 N9
  have f11 := f2.trans K9 (allS (Or.inr sz_bb) all0)
  have f12 := Nat.le_trans f3 K9.1
  have f13 := own_stakeep f4 K9 (allS (own_plainE Ex1) all0)
  have f14 := own_stakeep f5 K9 (allS (own_plainE Ex1) all0)
  have f15 := own_stakeep f6 K9 (allS (own_plainE Ex1) all0)
  have f16 := f7.keep K9 (ninS ne_a1_bb nin0)
  have f17 := Ex1.keep K9
  rcases hj9 with ⟨rfl, hj⟩ | ⟨rfl, hj⟩ | ⟨rfl, hj⟩ | ⟨rfl, hj⟩
  · skip
    refine own_of (T' := T9) (f' := (mkF m 23 #[.val (.ref a1), .val (.int (0 : Int32)), .val (.int (4 : Int32)), .val (.ref bb), .val (.int (0 : Int32)), .unset] [(.int (4 : Int32)), (.int (0 : Int32)), (.ref a1)])) (fun t_ k_ => (st9 _ (XS.istore X9.here hx rfl (Jvm.hb hby own_d_jdk_52_method_16_code_12) rfl (l' := #[.val (.ref a1), .val (.int (0 : Int32)), .val (.int (4 : Int32)), .val (.ref bb), .val (.int (0 : Int32)), .unset]) rfl (XS.iload X9.here hx rfl (Jvm.hb hby own_d_jdk_52_method_16_code_14) rfl (XS.iloadN X9.here hx rfl (Jvm.hb hby own_d_jdk_52_method_16_code_16) rfl (XS.icmpNo X9.here hx rfl (Jvm.hb hby own_d_jdk_52_method_16_code_17) rfl (feq (by decide)).1 (XS.aloadN X9.here hx rfl (Jvm.hb hby own_d_jdk_52_method_16_code_20) rfl rfl (XS.iloadN X9.here hx rfl (Jvm.hb hby own_d_jdk_52_method_16_code_21) rfl (XS.iloadN X9.here hx rfl (Jvm.hb hby own_d_jdk_52_method_16_code_22) rfl k_))))))))) ?_
    obtain ⟨_, _, ⟨T19, L19, k19, n19⟩, -, X19, ⟨Lc19, hQ19, l19, y19, z19⟩, st19⟩ := Jvm.LawKit.callS X9 hx (y := (⟨"java/lang/StringUTF16", "toBytes", "([CII)[B"⟩ : MethodName)) hown (mvT hZ (hw _ (List.mem_of_getElem? (i := 98) rfl))) (mvT hZ (hw _ (List.mem_of_getElem? (i := 99) rfl))) (mvT hZ (hw _ (List.mem_of_getElem? (i := 18) rfl))) (mvT hZ (hw _ (List.mem_of_getElem? (i := 100) rfl))) (by decide) (backOf (W := 0) (own_rm_tob4 l Z a0 hw [] a1 (0 : Int32) (4 : Int32) c0 c1 c2 c3 kc T9.heap n0 f12 f13 f14 f15 f16 rfl rfl) hZ (hw _ (List.mem_of_getElem? (i := 100) rfl)) (hw _ (List.mem_of_getElem? (i := 18) rfl)) (by decide) (by decide)) (g := (mkF m 23 #[.val (.ref a1), .val (.int (0 : Int32)), .val (.int (4 : Int32)), .val (.ref bb), .val (.int (0 : Int32)), .unset] [(.int (4 : Int32)), (.int (0 : Int32)), (.ref a1)])) rfl (by rw [hml]; rfl) (argsL := [(.ref a1), (.int (0 : Int32)), (.int (4 : Int32))]) (rest := []) (lenOf own_pd_4 rfl) rfl (by show 2 * 0 + _ ≤ _; exact Nat.le_of_eq rfl) (Jvm.hb hby own_d_jdk_52_method_16_code_23) (fun _ _ => ⟨rfl, rfl, Nat.le_of_ble_eq_true rfl, Nat.le_of_ble_eq_true rfl⟩)
    dsimp only [Pt.U, Pt.locs, Pt.cells, Pt.slots] at X19 l19 y19 z19 st19 hQ19
    subst l19 y19 z19
    obtain ⟨tb, kt, rfl, N19, K19, sztb, Etb, Vtb⟩ := hQ19
    have ne_a1_tb : a1 ≠ tb := Nat.ne_of_lt (Nat.lt_of_lt_of_le f16.lt sztb)
    have ne_bb_tb : bb ≠ tb := Nat.ne_of_lt (Nat.lt_of_lt_of_le f17.lt sztb)
    have g_tb : n0 ≤ tb := Nat.le_trans f12 sztb
    have sz_tb : h0.size ≤ tb := Nat.le_trans f11.1 sztb
    have N20 := Fr.app N10 N19
    have f21 := f11.trans K19 all0
    have f22 := Nat.le_trans f12 K19.1
    have f23 := own_stakeep f13 K19 all0
    have f24 := own_stakeep f14 K19 all0
    have f25 := own_stakeep f15 K19 all0
    have f26 := f16.keep K19 nin0
    have f27 := f17.keep K19
    refine own_of (T' := T19) (f' := (mkF m 32 #[.val (.ref a1), .val (.int (0 : Int32)), .val (.int (4 : Int32)), .val (.ref bb), .val (.int (0 : Int32)), .val (.ref tb)] [(.int (0 : Int32)), (.ref tb)])) (fun t_ k_ => (st19 _ (XS.astore X19.here hx rfl (Jvm.hb hby own_d_jdk_52_method_16_code_26) rfl rfl (l' := #[.val (.ref a1), .val (.int (0 : Int32)), .val (.int (4 : Int32)), .val (.ref bb), .val (.int (0 : Int32)), .val (.ref tb)]) rfl (XS.aload X19.here hx rfl (Jvm.hb hby own_d_jdk_52_method_16_code_28) rfl rfl (XS.iload X19.here hx rfl (Jvm.hb hby own_d_jdk_52_method_16_code_30) rfl k_))))) ?_
    obtain ⟨_, _, ⟨T28, L28, k28, n28⟩, -, X28, ⟨Lc28, hQ28, l28, y28, z28⟩, st28⟩ := Jvm.LawKit.callS X19 hx (y := (⟨"java/lang/StringUTF16", "getChar", "([BI)C"⟩ : MethodName)) hown (mvT hZ (hw _ (List.mem_of_getElem? (i := 114) rfl))) (mvT hZ (hw _ (List.mem_of_getElem? (i := 115) rfl))) (mvT hZ (hw _ (List.mem_of_getElem? (i := 18) rfl))) (mvT hZ (hw _ (List.mem_of_getElem? (i := 116) rfl))) (by decide) (backOf (W := 0) (own_rm_gch0 l Z a0 hw [] tb (0 : Int32) kt (8 : Int32) [(.int (StrChars.lo8 c0)), (.int (StrChars.hi8 c0)), (.int (StrChars.lo8 c1)), (.int (StrChars.hi8 c1)), (.int (StrChars.lo8 c2)), (.int (StrChars.hi8 c2)), (.int (StrChars.lo8 c3)), (.int (StrChars.hi8 c3))] c0 T19.heap n0 f22 f23 f24 f25 Vtb rfl (by decide) (by decide) rfl rfl (hr c0 (by simp))) hZ (hw _ (List.mem_of_getElem? (i := 116) rfl)) (hw _ (List.mem_of_getElem? (i := 18) rfl)) (by decide) (by decide)) (g := (mkF m 32 #[.val (.ref a1), .val (.int (0 : Int32)), .val (.int (4 : Int32)), .val (.ref bb), .val (.int (0 : Int32)), .val (.ref tb)] [(.int (0 : Int32)), (.ref tb)])) rfl (by rw [hml]; rfl) (argsL := [(.ref tb), (.int (0 : Int32))]) (rest := []) (lenOf own_pd_5 rfl) rfl (by show 2 * 0 + _ ≤ _; exact Nat.le_of_eq rfl) (Jvm.hb hby own_d_jdk_52_method_16_code_32) (fun _ _ => ⟨rfl, rfl, Nat.le_of_ble_eq_true rfl, Nat.le_of_ble_eq_true rfl⟩)
    dsimp only [Pt.U, Pt.locs, Pt.cells, Pt.slots] at X28 l28 y28 z28 st28 hQ28
    subst l28 y28 z28
    obtain ⟨rfl, N28, e28⟩ := hQ28
    have N29 := Fr.app N20 N28
    refine own_of (T' := T28) (f' := (mkF m 56 #[.val (.ref a1), .val (.int (0 : Int32)), .val (.int (4 : Int32)), .val (.ref bb), .val (.int (0 : Int32)), .val (.ref tb)] [(.ref tb)])) (fun t_ k_ => (st28 _ (XS.sipush X28.here hx rfl (Jvm.hb hby own_d_jdk_52_method_16_code_35) (XS.icmpYes X28.here hx rfl (pc0 := 38) (pc' := 54) rfl (Jvm.hb hby own_d_jdk_52_method_16_code_38) rfl (tlt hj).2.2.1 (by decide) (by decide) (XS.aload X28.here hx rfl (Jvm.hb hby own_d_jdk_52_method_16_code_54) rfl rfl k_))))) ?_
    obtain ⟨fs, hr, hrun, hended, hW, hsame⟩ := X28.leave (v := some (.ref tb)) (fun h => by rw [Bd.returns] at h; cases h)
    exact ⟨_, _, own_retA X28 hx Bd.returns rfl rfl rfl (Jvm.hb hby own_d_jdk_52_method_16_code_56) hr, hrun, hended, _, _, rfl, (by show own_Q_cp3_4 Z a1 0 (4 : Int32) c0 c1 c2 c3 kc h0 n0 _ T28.heap _; rw [e28]; exact ⟨tb, kt, rfl, N29, f21, sz_tb, Etb, Vtb⟩), ⟨_, rfl⟩, hW, hsame.mono (by decide) (by decide)⟩
  · skip
    refine own_of (T' := T9) (f' := (mkF m 23 #[.val (.ref a1), .val (.int (0 : Int32)), .val (.int (4 : Int32)), .val (.ref bb), .val (.int (1 : Int32)), .unset] [(.int (4 : Int32)), (.int (0 : Int32)), (.ref a1)])) (fun t_ k_ => (st9 _ (XS.istore X9.here hx rfl (Jvm.hb hby own_d_jdk_52_method_16_code_12) rfl (l' := #[.val (.ref a1), .val (.int (0 : Int32)), .val (.int (4 : Int32)), .val (.ref bb), .val (.int (1 : Int32)), .unset]) rfl (XS.iload X9.here hx rfl (Jvm.hb hby own_d_jdk_52_method_16_code_14) rfl (XS.iloadN X9.here hx rfl (Jvm.hb hby own_d_jdk_52_method_16_code_16) rfl (XS.icmpNo X9.here hx rfl (Jvm.hb hby own_d_jdk_52_method_16_code_17) rfl (feq (by decide)).1 (XS.aloadN X9.here hx rfl (Jvm.hb hby own_d_jdk_52_method_16_code_20) rfl rfl (XS.iloadN X9.here hx rfl (Jvm.hb hby own_d_jdk_52_method_16_code_21) rfl (XS.iloadN X9.here hx rfl (Jvm.hb hby own_d_jdk_52_method_16_code_22) rfl k_))))))))) ?_
    obtain ⟨_, _, ⟨T30, L30, k30, n30⟩, -, X30, ⟨Lc30, hQ30, l30, y30, z30⟩, st30⟩ := Jvm.LawKit.callS X9 hx (y := (⟨"java/lang/StringUTF16", "toBytes", "([CII)[B"⟩ : MethodName)) hown (mvT hZ (hw _ (List.mem_of_getElem? (i := 98) rfl))) (mvT hZ (hw _ (List.mem_of_getElem? (i := 99) rfl))) (mvT hZ (hw _ (List.mem_of_getElem? (i := 18) rfl))) (mvT hZ (hw _ (List.mem_of_getElem? (i := 100) rfl))) (by decide) (backOf (W := 0) (own_rm_tob4 l Z a0 hw [] a1 (0 : Int32) (4 : Int32) c0 c1 c2 c3 kc T9.heap n0 f12 f13 f14 f15 f16 rfl rfl) hZ (hw _ (List.mem_of_getElem? (i := 100) rfl)) (hw _ (List.mem_of_getElem? (i := 18) rfl)) (by decide) (by decide)) (g := (mkF m 23 #[.val (.ref a1), .val (.int (0 : Int32)), .val (.int (4 : Int32)), .val (.ref bb), .val (.int (1 : Int32)), .unset] [(.int (4 : Int32)), (.int (0 : Int32)), (.ref a1)])) rfl (by rw [hml]; rfl) (argsL := [(.ref a1), (.int (0 : Int32)), (.int (4 : Int32))]) (rest := []) (lenOf own_pd_4 rfl) rfl (by show 2 * 0 + _ ≤ _; exact Nat.le_of_eq rfl) (Jvm.hb hby own_d_jdk_52_method_16_code_23) (fun _ _ => ⟨rfl, rfl, Nat.le_of_ble_eq_true rfl, Nat.le_of_ble_eq_true rfl⟩)
    dsimp only [Pt.U, Pt.locs, Pt.cells, Pt.slots] at X30 l30 y30 z30 st30 hQ30
    subst l30 y30 z30
    obtain ⟨tb, kt, rfl, N30, K30, sztb, Etb, Vtb⟩ := hQ30
    have ne_a1_tb : a1 ≠ tb := Nat.ne_of_lt (Nat.lt_of_lt_of_le f16.lt sztb)
    have ne_bb_tb : bb ≠ tb := Nat.ne_of_lt (Nat.lt_of_lt_of_le f17.lt sztb)
    have g_tb : n0 ≤ tb := Nat.le_trans f12 sztb
    have sz_tb : h0.size ≤ tb := Nat.le_trans f11.1 sztb
    have N31 := Fr.app N10 N30
    have f32 := f11.trans K30 all0
    have f33 := Nat.le_trans f12 K30.1
    have f34 := own_stakeep f13 K30 all0
    have f35 := own_stakeep f14 K30 all0
    have f36 := own_stakeep f15 K30 all0
    have f37 := f16.keep K30 nin0
    have f38 := f17.keep K30
    refine own_of (T' := T30) (f' := (mkF m 32 #[.val (.ref a1), .val (.int (0 : Int32)), .val (.int (4 : Int32)), .val (.ref bb), .val (.int (1 : Int32)), .val (.ref tb)] [(.int (1 : Int32)), (.ref tb)])) (fun t_ k_ => (st30 _ (XS.astore X30.here hx rfl (Jvm.hb hby own_d_jdk_52_method_16_code_26) rfl rfl (l' := #[.val (.ref a1), .val (.int (0 : Int32)), .val (.int (4 : Int32)), .val (.ref bb), .val (.int (1 : Int32)), .val (.ref tb)]) rfl (XS.aload X30.here hx rfl (Jvm.hb hby own_d_jdk_52_method_16_code_28) rfl rfl (XS.iload X30.here hx rfl (Jvm.hb hby own_d_jdk_52_method_16_code_30) rfl k_))))) ?_
    obtain ⟨_, _, ⟨T39, L39, k39, n39⟩, -, X39, ⟨Lc39, hQ39, l39, y39, z39⟩, st39⟩ := Jvm.LawKit.callS X30 hx (y := (⟨"java/lang/StringUTF16", "getChar", "([BI)C"⟩ : MethodName)) hown (mvT hZ (hw _ (List.mem_of_getElem? (i := 114) rfl))) (mvT hZ (hw _ (List.mem_of_getElem? (i := 115) rfl))) (mvT hZ (hw _ (List.mem_of_getElem? (i := 18) rfl))) (mvT hZ (hw _ (List.mem_of_getElem? (i := 116) rfl))) (by decide) (backOf (W := 0) (own_rm_gch1 l Z a0 hw [] tb (1 : Int32) kt (8 : Int32) [(.int (StrChars.lo8 c0)), (.int (StrChars.hi8 c0)), (.int (StrChars.lo8 c1)), (.int (StrChars.hi8 c1)), (.int (StrChars.lo8 c2)), (.int (StrChars.hi8 c2)), (.int (StrChars.lo8 c3)), (.int (StrChars.hi8 c3))] c1 T30.heap n0 f33 f34 f35 f36 Vtb rfl (by decide) (by decide) rfl rfl (hr c1 (by simp))) hZ (hw _ (List.mem_of_getElem? (i := 116) rfl)) (hw _ (List.mem_of_getElem? (i := 18) rfl)) (by decide) (by decide)) (g := (mkF m 32 #[.val (.ref a1), .val (.int (0 : Int32)), .val (.int (4 : Int32)), .val (.ref bb), .val (.int (1 : Int32)), .val (.ref tb)] [(.int (1 : Int32)), (.ref tb)])) rfl (by rw [hml]; rfl) (argsL := [(.ref tb), (.int (1 : Int32))]) (rest := []) (lenOf own_pd_5 rfl) rfl (by show 2 * 0 + _ ≤ _; exact Nat.le_of_eq rfl) (Jvm.hb hby own_d_jdk_52_method_16_code_32) (fun _ _ => ⟨rfl, rfl, Nat.le_of_ble_eq_true rfl, Nat.le_of_ble_eq_true rfl⟩)
    dsimp only [Pt.U, Pt.locs, Pt.cells, Pt.slots] at X39 l39 y39 z39 st39 hQ39
    subst l39 y39 z39
    obtain ⟨rfl, N39, e39⟩ := hQ39
    have N40 := Fr.app N31 N39
    refine own_of (T' := T39) (f' := (mkF m 56 #[.val (.ref a1), .val (.int (0 : Int32)), .val (.int (4 : Int32)), .val (.ref bb), .val (.int (1 : Int32)), .val (.ref tb)] [(.ref tb)])) (fun t_ k_ => (st39 _ (XS.sipush X39.here hx rfl (Jvm.hb hby own_d_jdk_52_method_16_code_35) (XS.icmpYes X39.here hx rfl (pc0 := 38) (pc' := 54) rfl (Jvm.hb hby own_d_jdk_52_method_16_code_38) rfl (tlt hj).2.2.1 (by decide) (by decide) (XS.aload X39.here hx rfl (Jvm.hb hby own_d_jdk_52_method_16_code_54) rfl rfl k_))))) ?_
    obtain ⟨fs, hr, hrun, hended, hW, hsame⟩ := X39.leave (v := some (.ref tb)) (fun h => by rw [Bd.returns] at h; cases h)
    exact ⟨_, _, own_retA X39 hx Bd.returns rfl rfl rfl (Jvm.hb hby own_d_jdk_52_method_16_code_56) hr, hrun, hended, _, _, rfl, (by show own_Q_cp3_4 Z a1 0 (4 : Int32) c0 c1 c2 c3 kc h0 n0 _ T39.heap _; rw [e39]; exact ⟨tb, kt, rfl, N40, f32, sz_tb, Etb, Vtb⟩), ⟨_, rfl⟩, hW, hsame.mono (by decide) (by decide)⟩
  · skip
    refine own_of (T' := T9) (f' := (mkF m 23 #[.val (.ref a1), .val (.int (0 : Int32)), .val (.int (4 : Int32)), .val (.ref bb), .val (.int (2 : Int32)), .unset] [(.int (4 : Int32)), (.int (0 : Int32)), (.ref a1)])) (fun t_ k_ => (st9 _ (XS.istore X9.here hx rfl (Jvm.hb hby own_d_jdk_52_method_16_code_12) rfl (l' := #[.val (.ref a1), .val (.int (0 : Int32)), .val (.int (4 : Int32)), .val (.ref bb), .val (.int (2 : Int32)), .unset]) rfl (XS.iload X9.here hx rfl (Jvm.hb hby own_d_jdk_52_method_16_code_14) rfl (XS.iloadN X9.here hx rfl (Jvm.hb hby own_d_jdk_52_method_16_code_16) rfl (XS.icmpNo X9.here hx rfl (Jvm.hb hby own_d_jdk_52_method_16_code_17) rfl (feq (by decide)).1 (XS.aloadN X9.here hx rfl (Jvm.hb hby own_d_jdk_52_method_16_code_20) rfl rfl (XS.iloadN X9.here hx rfl (Jvm.hb hby own_d_jdk_52_method_16_code_21) rfl (XS.iloadN X9.here hx rfl (Jvm.hb hby own_d_jdk_52_method_16_code_22) rfl k_))))))))) ?_
    obtain ⟨_, _, ⟨T41, L41, k41, n41⟩, -, X41, ⟨Lc41, hQ41, l41, y41, z41⟩, st41⟩ := Jvm.LawKit.callS X9 hx (y := (⟨"java/lang/StringUTF16", "toBytes", "([CII)[B"⟩ : MethodName)) hown (mvT hZ (hw _ (List.mem_of_getElem? (i := 98) rfl))) (mvT hZ (hw _ (List.mem_of_getElem? (i := 99) rfl))) (mvT hZ (hw _ (List.mem_of_getElem? (i := 18) rfl))) (mvT hZ (hw _ (List.mem_of_getElem? (i := 100) rfl))) (by decide) (backOf (W := 0) (own_rm_tob4 l Z a0 hw [] a1 (0 : Int32) (4 : Int32) c0 c1 c2 c3 kc T9.heap n0 f12 f13 f14 f15 f16 rfl rfl) hZ (hw _ (List.mem_of_getElem? (i := 100) rfl)) (hw _ (List.mem_of_getElem? (i := 18) rfl)) (by decide) (by decide)) (g := (mkF m 23 #[.val (.ref a1), .val (.int (0 : Int32)), .val (.int (4 : Int32)), .val (.ref bb), .val (.int (2 : Int32)), .unset] [(.int (4 : Int32)), (.int (0 : Int32)), (.ref a1)])) rfl (by rw [hml]; rfl) (argsL := [(.ref a1), (.int (0 : Int32)), (.int (4 : Int32))]) (rest := []) (lenOf own_pd_4 rfl) rfl (by show 2 * 0 + _ ≤ _; exact Nat.le_of_eq rfl) (Jvm.hb hby own_d_jdk_52_method_16_code_23) (fun _ _ => ⟨rfl, rfl, Nat.le_of_ble_eq_true rfl, Nat.le_of_ble_eq_true rfl⟩)
    dsimp only [Pt.U, Pt.locs, Pt.cells, Pt.slots] at X41 l41 y41 z41 st41 hQ41
    subst l41 y41 z41
    obtain ⟨tb, kt, rfl, N41, K41, sztb, Etb, Vtb⟩ := hQ41
    have ne_a1_tb : a1 ≠ tb := Nat.ne_of_lt (Nat.lt_of_lt_of_le f16.lt sztb)
    have ne_bb_tb : bb ≠ tb := Nat.ne_of_lt (Nat.lt_of_lt_of_le f17.lt sztb)
    have g_tb : n0 ≤ tb := Nat.le_trans f12 sztb
    have sz_tb : h0.size ≤ tb := Nat.le_trans f11.1 sztb
    have N42 := Fr.app N10 N41
    have f43 := f11.trans K41 all0
    have f44 := Nat.le_trans f12 K41.1
    have f45 := own_stakeep f13 K41 all0
    have f46 := own_stakeep f14 K41 all0
    have f47 := own_stakeep f15 K41 all0
    have f48 := f16.keep K41 nin0
    have f49 := f17.keep K41
    refine own_of (T' := T41) (f' := (mkF m 32 #[.val (.ref a1), .val (.int (0 : Int32)), .val (.int (4 : Int32)), .val (.ref bb), .val (.int (2 : Int32)), .val (.ref tb)] [(.int (2 : Int32)), (.ref tb)])) (fun t_ k_ => (st41 _ (XS.astore X41.here hx rfl (Jvm.hb hby own_d_jdk_52_method_16_code_26) rfl rfl (l' := #[.val (.ref a1), .val (.int (0 : Int32)), .val (.int (4 : Int32)), .val (.ref bb), .val (.int (2 : Int32)), .val (.ref tb)]) rfl (XS.aload X41.here hx rfl (Jvm.hb hby own_d_jdk_52_method_16_code_28) rfl rfl (XS.iload X41.here hx rfl (Jvm.hb hby own_d_jdk_52_method_16_code_30) rfl k_))))) ?_
    obtain ⟨_, _, ⟨T50, L50, k50, n50⟩, -, X50, ⟨Lc50, hQ50, l50, y50, z50⟩, st50⟩ := Jvm.LawKit.callS X41 hx (y := (⟨"java/lang/StringUTF16", "getChar", "([BI)C"⟩ : MethodName)) hown (mvT hZ (hw _ (List.mem_of_getElem? (i := 114) rfl))) (mvT hZ (hw _ (List.mem_of_getElem? (i := 115) rfl))) (mvT hZ (hw _ (List.mem_of_getElem? (i := 18) rfl))) (mvT hZ (hw _ (List.mem_of_getElem? (i := 116) rfl))) (by decide) (backOf (W := 0) (own_rm_gch2 l Z a0 hw [] tb (2 : Int32) kt (8 : Int32) [(.int (StrChars.lo8 c0)), (.int (StrChars.hi8 c0)), (.int (StrChars.lo8 c1)), (.int (StrChars.hi8 c1)), (.int (StrChars.lo8 c2)), (.int (StrChars.hi8 c2)), (.int (StrChars.lo8 c3)), (.int (StrChars.hi8 c3))] c2 T41.heap n0 f44 f45 f46 f47 Vtb rfl (by decide) (by decide) rfl rfl (hr c2 (by simp))) hZ (hw _ (List.mem_of_getElem? (i := 116) rfl)) (hw _ (List.mem_of_getElem? (i := 18) rfl)) (by decide) (by decide)) (g := (mkF m 32 #[.val (.ref a1), .val (.int (0 : Int32)), .val (.int (4 : Int32)), .val (.ref bb), .val (.int (2 : Int32)), .val (.ref tb)] [(.int (2 : Int32)), (.ref tb)])) rfl (by rw [hml]; rfl) (argsL := [(.ref tb), (.int (2 : Int32))]) (rest := []) (lenOf own_pd_5 rfl) rfl (by show 2 * 0 + _ ≤ _; exact Nat.le_of_eq rfl) (Jvm.hb hby own_d_jdk_52_method_16_code_32) (fun _ _ => ⟨rfl, rfl, Nat.le_of_ble_eq_true rfl, Nat.le_of_ble_eq_true rfl⟩)
    dsimp only [Pt.U, Pt.locs, Pt.cells, Pt.slots] at X50 l50 y50 z50 st50 hQ50
    subst l50 y50 z50
    obtain ⟨rfl, N50, e50⟩ := hQ50
    have N51 := Fr.app N42 N50
    refine own_of (T' := T50) (f' := (mkF m 56 #[.val (.ref a1), .val (.int (0 : Int32)), .val (.int (4 : Int32)), .val (.ref bb), .val (.int (2 : Int32)), .val (.ref tb)] [(.ref tb)])) (fun t_ k_ => (st50 _ (XS.sipush X50.here hx rfl (Jvm.hb hby own_d_jdk_52_method_16_code_35) (XS.icmpYes X50.here hx rfl (pc0 := 38) (pc' := 54) rfl (Jvm.hb hby own_d_jdk_52_method_16_code_38) rfl (tlt hj).2.2.1 (by decide) (by decide) (XS.aload X50.here hx rfl (Jvm.hb hby own_d_jdk_52_method_16_code_54) rfl rfl k_))))) ?_
    obtain ⟨fs, hr, hrun, hended, hW, hsame⟩ := X50.leave (v := some (.ref tb)) (fun h => by rw [Bd.returns] at h; cases h)
    exact ⟨_, _, own_retA X50 hx Bd.returns rfl rfl rfl (Jvm.hb hby own_d_jdk_52_method_16_code_56) hr, hrun, hended, _, _, rfl, (by show own_Q_cp3_4 Z a1 0 (4 : Int32) c0 c1 c2 c3 kc h0 n0 _ T50.heap _; rw [e50]; exact ⟨tb, kt, rfl, N51, f43, sz_tb, Etb, Vtb⟩), ⟨_, rfl⟩, hW, hsame.mono (by decide) (by decide)⟩
  · skip
    refine own_of (T' := T9) (f' := (mkF m 23 #[.val (.ref a1), .val (.int (0 : Int32)), .val (.int (4 : Int32)), .val (.ref bb), .val (.int (3 : Int32)), .unset] [(.int (4 : Int32)), (.int (0 : Int32)), (.ref a1)])) (fun t_ k_ => (st9 _ (XS.istore X9.here hx rfl (Jvm.hb hby own_d_jdk_52_method_16_code_12) rfl (l' := #[.val (.ref a1), .val (.int (0 : Int32)), .val (.int (4 : Int32)), .val (.ref bb), .val (.int (3 : Int32)), .unset]) rfl (XS.iload X9.here hx rfl (Jvm.hb hby own_d_jdk_52_method_16_code_14) rfl (XS.iloadN X9.here hx rfl (Jvm.hb hby own_d_jdk_52_method_16_code_16) rfl (XS.icmpNo X9.here hx rfl (Jvm.hb hby own_d_jdk_52_method_16_code_17) rfl (feq (by decide)).1 (XS.aloadN X9.here hx rfl (Jvm.hb hby own_d_jdk_52_method_16_code_20) rfl rfl (XS.iloadN X9.here hx rfl (Jvm.hb hby own_d_jdk_52_method_16_code_21) rfl (XS.iloadN X9.here hx rfl (Jvm.hb hby own_d_jdk_52_method_16_code_22) rfl k_))))))))) ?_
    obtain ⟨_, _, ⟨T52, L52, k52, n52⟩, -, X52, ⟨Lc52, hQ52, l52, y52, z52⟩, st52⟩ := Jvm.LawKit.callS X9 hx (y := (⟨"java/lang/StringUTF16", "toBytes", "([CII)[B"⟩ : MethodName)) hown (mvT hZ (hw _ (List.mem_of_getElem? (i := 98) rfl))) (mvT hZ (hw _ (List.mem_of_getElem? (i := 99) rfl))) (mvT hZ (hw _ (List.mem_of_getElem? (i := 18) rfl))) (mvT hZ (hw _ (List.mem_of_getElem? (i := 100) rfl))) (by decide) (backOf (W := 0) (own_rm_tob4 l Z a0 hw [] a1 (0 : Int32) (4 : Int32) c0 c1 c2 c3 kc T9.heap n0 f12 f13 f14 f15 f16 rfl rfl) hZ (hw _ (List.mem_of_getElem? (i := 100) rfl)) (hw _ (List.mem_of_getElem? (i := 18) rfl)) (by decide) (by decide)) (g := (mkF m 23 #[.val (.ref a1), .val (.int (0 : Int32)), .val (.int (4 : Int32)), .val (.ref bb), .val (.int (3 : Int32)), .unset] [(.int (4 : Int32)), (.int (0 : Int32)), (.ref a1)])) rfl (by rw [hml]; rfl) (argsL := [(.ref a1), (.int (0 : Int32)), (.int (4 : Int32))]) (rest := []) (lenOf own_pd_4 rfl) rfl (by show 2 * 0 + _ ≤ _; exact Nat.le_of_eq rfl) (Jvm.hb hby own_d_jdk_52_method_16_code_23) (fun _ _ => ⟨rfl, rfl, Nat.le_of_ble_eq_true rfl, Nat.le_of_ble_eq_true rfl⟩)
    dsimp only [Pt.U, Pt.locs, Pt.cells, Pt.slots] at X52 l52 y52 z52 st52 hQ52
    subst l52 y52 z52
    obtain ⟨tb, kt, rfl, N52, K52, sztb, Etb, Vtb⟩ := hQ52
    have ne_a1_tb : a1 ≠ tb := Nat.ne_of_lt (Nat.lt_of_lt_of_le f16.lt sztb)
    have ne_bb_tb : bb ≠ tb := Nat.ne_of_lt (Nat.lt_of_lt_of_le f17.lt sztb)
    have g_tb : n0 ≤ tb := Nat.le_trans f12 sztb
    have sz_tb : h0.size ≤ tb := Nat.le_trans f11.1 sztb
    have N53 := Fr.app N10 N52
    have f54 := f11.trans K52 all0
    have f55 := Nat.le_trans f12 K52.1
    have f56 := own_stakeep f13 K52 all0
    have f57 := own_stakeep f14 K52 all0
    have f58 := own_stakeep f15 K52 all0
    have f59 := f16.keep K52 nin0
    have f60 := f17.keep K52
    refine own_of (T' := T52) (f' := (mkF m 32 #[.val (.ref a1), .val (.int (0 : Int32)), .val (.int (4 : Int32)), .val (.ref bb), .val (.int (3 : Int32)), .val (.ref tb)] [(.int (3 : Int32)), (.ref tb)])) (fun t_ k_ => (st52 _ (XS.astore X52.here hx rfl (Jvm.hb hby own_d_jdk_52_method_16_code_26) rfl rfl (l' := #[.val (.ref a1), .val (.int (0 : Int32)), .val (.int (4 : Int32)), .val (.ref bb), .val (.int (3 : Int32)), .val (.ref tb)]) rfl (XS.aload X52.here hx rfl (Jvm.hb hby own_d_jdk_52_method_16_code_28) rfl rfl (XS.iload X52.here hx rfl (Jvm.hb hby own_d_jdk_52_method_16_code_30) rfl k_))))) ?_
    obtain ⟨_, _, ⟨T61, L61, k61, n61⟩, -, X61, ⟨Lc61, hQ61, l61, y61, z61⟩, st61⟩ := Jvm.LawKit.callS X52 hx (y := (⟨"java/lang/StringUTF16", "getChar", "([BI)C"⟩ : MethodName)) hown (mvT hZ (hw _ (List.mem_of_getElem? (i := 114) rfl))) (mvT hZ (hw _ (List.mem_of_getElem? (i := 115) rfl))) (mvT hZ (hw _ (List.mem_of_getElem? (i := 18) rfl))) (mvT hZ (hw _ (List.mem_of_getElem? (i := 116) rfl))) (by decide) (backOf (W := 0) (own_rm_gch3 l Z a0 hw [] tb (3 : Int32) kt (8 : Int32) [(.int (StrChars.lo8 c0)), (.int (StrChars.hi8 c0)), (.int (StrChars.lo8 c1)), (.int (StrChars.hi8 c1)), (.int (StrChars.lo8 c2)), (.int (StrChars.hi8 c2)), (.int (StrChars.lo8 c3)), (.int (StrChars.hi8 c3))] c3 T52.heap n0 f55 f56 f57 f58 Vtb rfl (by decide) (by decide) rfl rfl (hr c3 (by simp))) hZ (hw _ (List.mem_of_getElem? (i := 116) rfl)) (hw _ (List.mem_of_getElem? (i := 18) rfl)) (by decide) (by decide)) (g := (mkF m 32 #[.val (.ref a1), .val (.int (0 : Int32)), .val (.int (4 : Int32)), .val (.ref bb), .val (.int (3 : Int32)), .val (.ref tb)] [(.int (3 : Int32)), (.ref tb)])) rfl (by rw [hml]; rfl) (argsL := [(.ref tb), (.int (3 : Int32))]) (rest := []) (lenOf own_pd_5 rfl) rfl (by show 2 * 0 + _ ≤ _; exact Nat.le_of_eq rfl) (Jvm.hb hby own_d_jdk_52_method_16_code_32) (fun _ _ => ⟨rfl, rfl, Nat.le_of_ble_eq_true rfl, Nat.le_of_ble_eq_true rfl⟩)
    dsimp only [Pt.U, Pt.locs, Pt.cells, Pt.slots] at X61 l61 y61 z61 st61 hQ61
    subst l61 y61 z61
    obtain ⟨rfl, N61, e61⟩ := hQ61
    have N62 := Fr.app N53 N61
    refine own_of (T' := T61) (f' := (mkF m 56 #[.val (.ref a1), .val (.int (0 : Int32)), .val (.int (4 : Int32)), .val (.ref bb), .val (.int (3 : Int32)), .val (.ref tb)] [(.ref tb)])) (fun t_ k_ => (st61 _ (XS.sipush X61.here hx rfl (Jvm.hb hby own_d_jdk_52_method_16_code_35) (XS.icmpYes X61.here hx rfl (pc0 := 38) (pc' := 54) rfl (Jvm.hb hby own_d_jdk_52_method_16_code_38) rfl (tlt hj).2.2.1 (by decide) (by decide) (XS.aload X61.here hx rfl (Jvm.hb hby own_d_jdk_52_method_16_code_54) rfl rfl k_))))) ?_
    obtain ⟨fs, hr, hrun, hended, hW, hsame⟩ := X61.leave (v := some (.ref tb)) (fun h => by rw [Bd.returns] at h; cases h)
    exact ⟨_, _, own_retA X61 hx Bd.returns rfl rfl rfl (Jvm.hb hby own_d_jdk_52_method_16_code_56) hr, hrun, hended, _, _, rfl, (by show own_Q_cp3_4 Z a1 0 (4 : Int32) c0 c1 c2 c3 kc h0 n0 _ T61.heap _; rw [e61]; exact ⟨tb, kt, rfl, N62, f54, sz_tb, Etb, Vtb⟩), ⟨_, rfl⟩, hW, hsame.mono (by decide) (by decide)⟩
theorem own_ef_cfl (m : MethodId) (a1 : Addr) (p2 : Int32) : entryFrame m #[(.ref a1), (.int p2)] 2 = mkF m 0 #[.val (.ref a1), .val (.int p2)] [] := by first | (simp [entryFrame, mkF, argsToLocals, Value.category]; done) | rfl
def own_Q_cfl (Z : State) (a1 : Addr) (p2 : Int32) (k : ClassId) (z : Int32) (vs : List Value) (h0 : Heap) (n0 : Nat) (v : Option Value) (h : Heap) (L : List Loc) : Prop := v = some (.int 1) ∧ Fr n0 L ∧ h = h0
theorem own_d_jdk_52_method_15_code_0 : decode jdk_52_method_15_code 0 = .ok (.iload_n 1, 1) := by decide +kernel
theorem own_d_jdk_52_method_15_code_1 : decode jdk_52_method_15_code 1 = .ok (.aload_n 0, 1) := by decide +kernel
theorem own_d_jdk_52_method_15_code_2 : decode jdk_52_method_15_code 2 = .ok (.arraylength, 1) := by decide +kernel
theorem own_d_jdk_52_method_15_code_3 : decode jdk_52_method_15_code 3 = .ok (.isub, 1) := by decide +kernel
theorem own_d_jdk_52_method_15_code_4 : decode jdk_52_method_15_code 4 = .ok (.bipush 31, 2) := by decide +kernel
theorem own_d_jdk_52_method_15_code_6 : decode jdk_52_method_15_code 6 = .ok (.iushr, 1) := by decide +kernel
theorem own_d_jdk_52_method_15_code_7 : decode jdk_52_method_15_code 7 = .ok (.i2b, 1) := by decide +kernel
theorem own_d_jdk_52_method_15_code_8 : decode jdk_52_method_15_code 8 = .ok (.ireturn, 1) := by decide +kernel
set_option maxRecDepth 65536 in
set_option maxHeartbeats 40000000 in
theorem own_rm_cfl (l : Launch) (Z : State) (a0 : Array Value) (hw : ∀ d ∈ tables_1, d.before a0 Z = true) (ws : List Jvm.Cond) (a1 : Addr) (p2 : Int32) (k : ClassId) (z : Int32) (vs : List Value) (h0 : Heap) (n0 : Nat) (Z0 : n0 ≤ h0.size) (Va : Arv Z h0 a1 k .byte z vs (.int 0)) (hq : nar .byte ((((p2 - z).toUInt32 >>> ((31 : Int32) &&& 31).toUInt32).toInt32).toInt8.toInt32) = 1) :
    MetFree l (⟨"java/lang/StringUTF16", "coderFromArrayLen", "([BI)B"⟩ : MethodName) (head1 (Jvm.Cond.code (⟨"java/lang/StringUTF16", "coderFromArrayLen", "([BI)B"⟩ : MethodName) jdk_52_method_15_code 2 (some .byte) :: ws) ({ frames := 0, cells := 0, slots := 0, locals := 0 } : Room)) (fun a U => a = #[(.ref a1), (.int p2)] ∧ Z.Warmed39 U.vm ∧ U.heap = h0) (fun _ _ _ _ _ => True) (fun _ U o U' => ∃ v L, o = .returned v ∧ own_Q_cfl Z a1 p2 k z vs h0 n0 v U'.heap L ∧ FrameEnd U o U' L ({ frames := 0, cells := 0, slots := 0, locals := 0 } : Room).cells ({ frames := 0, cells := 0, slots := 0, locals := 0 } : Room).slots) := by
  refine MetFree.of_bodySF (plainFor_of_name own_pn_0) hisR ?_
  intro p e s m args below meth c s₁ Bd hml0 hP hK
  obtain ⟨rfl, hZ, hh⟩ := hP
  have hx := Bd.exec
  have hby := Bd.bytes
  have hml : c.maxLocals = 2 := hml0
  have hown : s.vm.findClass "java/lang/StringUTF16" = some m.cls := findClass_of_methodNamed Bd.named
  have hnm := (name_of_methodNamed Bd.named Bd.method).1
  have X0 : Stand p l e ({ frames := 0, cells := 0, slots := 0, locals := 0 } : Room) s m #[(.ref a1), (.int p2)] below meth c s₁ [] 0 0 := Stand.of_body Bd
  have e0 : s₁.heap = h0 := by rw [← hh, Bd.state]; rfl
  have N0 := Fr.nil n0
  refine own_start (own_ef_cfl m a1 p2 ) ?_
  refine own_of (T' := s₁) (f' := (mkF m 2 #[.val (.ref a1), .val (.int p2)] [(.ref a1), (.int p2)])) (fun t_ k_ => (XS.iloadN X0.here hx rfl (Jvm.hb hby own_d_jdk_52_method_15_code_0) rfl (XS.aloadN X0.here hx rfl (Jvm.hb hby own_d_jdk_52_method_15_code_1) rfl rfl k_))) ?_
  obtain ⟨clz, Arz, -, Szz, Nnz, -⟩ := id Va
  refine own_of (T' := s₁) (f' := (mkF m 3 #[.val (.ref a1), .val (.int p2)] [(.int (clz.slots.size).toInt32), (.int p2)])) (fun t_ k_ => (X0.arraylength hx (by first | (rw [e0]; exact Arz.1) | exact Arz.1) (State.isArrayOf_alike hZ.alike Arz.2.1) (g := (mkF m 2 #[.val (.ref a1), .val (.int p2)] [(.ref a1), (.int p2)])) rfl rfl (Jvm.hb hby own_d_jdk_52_method_15_code_2) _ k_)) ?_
  rw [len_of Szz Nnz]
  refine own_of (T' := s₁) (f' := (mkF m 8 #[.val (.ref a1), .val (.int p2)] [(.int ((((p2 - z).toUInt32 >>> ((31 : Int32) &&& 31).toUInt32).toInt32).toInt8.toInt32))])) (fun t_ k_ => (XS.isub X0.here hx rfl (Jvm.hb hby own_d_jdk_52_method_15_code_3) rfl (XS.bipush X0.here hx rfl (Jvm.hb hby own_d_jdk_52_method_15_code_4) (XS.iushr X0.here hx rfl (Jvm.hb hby own_d_jdk_52_method_15_code_6) rfl (XS.i2b X0.here hx rfl (Jvm.hb hby own_d_jdk_52_method_15_code_7) rfl k_))))) ?_
  obtain ⟨fs, hr, hrun, hended, hW, hsame⟩ := X0.leave (v := some (.int (nar .byte ((((p2 - z).toUInt32 >>> ((31 : Int32) &&& 31).toUInt32).toInt32).toInt8.toInt32)))) (fun h => by rw [Bd.returns] at h; cases h)
  exact ⟨_, _, retN X0 hx (t := .byte) Bd.returns (by simp) (Jvm.hb hby own_d_jdk_52_method_15_code_8) hr, hrun, hended, _, _, rfl, (by show own_Q_cfl Z a1 p2 k z vs h0 n0 _ s₁.heap _; rw [e0]; exact ⟨by rw [hq], N0, rfl⟩), ⟨_, rfl⟩, hW, hsame.mono (by decide) (by decide)⟩
theorem own_pn_1 : plainName "java/lang/String" = true := by first | (simp [plainName, overriddenIn]; done) | decide +kernel
theorem own_ef_vini1 (m : MethodId) (a1 : Addr) (a2 : Addr) (p3 : Int32) (p4 : Int32) : entryFrame m #[(.ref a1), (.ref a2), (.int p3), (.int p4), .null] 6 = mkF m 0 #[.val (.ref a1), .val (.ref a2), .val (.int p3), .val (.int p4), .val .null, .unset] [] := by first | (simp [entryFrame, mkF, argsToLocals, Value.category]; done) | rfl
def own_Q_vini1 (Z : State) (a1 : Addr) (a2 : Addr) (p3 : Int32) (p4 : Int32) (c0 : Int32) (kc : ClassId) (G1 : Int32) (h0 : Heap) (n0 : Nat) (v : Option Value) (h : Heap) (L : List Loc) : Prop := v = none ∧ Fr n0 L ∧ Keep h0 h [a1] ∧ Exa Z h a1 "java/lang/String" ∧ Fld Z h a1 "java/lang/String" "coder" "B" (.int 1) ∧ ∃ b k, Fld Z h a1 "java/lang/String" "value" "[B" (.ref b) ∧ Arv Z h b k .byte (2 : Int32) [(.int (StrChars.lo8 c0)), (.int (StrChars.hi8 c0))] (.int 0)
theorem own_d_jdk_42_method_149_code_0 : decode jdk_42_method_149_code 0 = .ok (.aload_n 0, 1) := by decide +kernel
theorem own_d_jdk_42_method_149_code_1 : decode jdk_42_method_149_code 1 = .ok (.invokespecial 1, 3) := by decide +kernel
theorem own_d_jdk_42_method_149_code_4 : decode jdk_42_method_149_code 4 = .ok (.iload_n 3, 1) := by decide +kernel
theorem own_d_jdk_42_method_149_code_5 : decode jdk_42_method_149_code 5 = .ok (.ifCond .ne 22, 3) := by decide +kernel
theorem own_d_jdk_42_method_149_code_27 : decode jdk_42_method_149_code 27 = .ok (.getstatic 38, 3) := by decide +kernel
theorem own_d_jdk_42_method_149_code_30 : decode jdk_42_method_149_code 30 = .ok (.ifCond .eq 28, 3) := by decide +kernel
theorem own_d_jdk_42_method_149_code_33 : decode jdk_42_method_149_code 33 = .ok (.aload_n 1, 1) := by decide +kernel
theorem own_d_jdk_42_method_149_code_34 : decode jdk_42_method_149_code 34 = .ok (.iload_n 2, 1) := by decide +kernel
theorem own_d_jdk_42_method_149_code_35 : decode jdk_42_method_149_code 35 = .ok (.iload_n 3, 1) := by decide +kernel
theorem own_d_jdk_42_method_149_code_36 : decode jdk_42_method_149_code 36 = .ok (.invokestatic 177, 3) := by decide +kernel
theorem own_d_jdk_42_method_149_code_39 : decode jdk_42_method_149_code 39 = .ok (.astore 5, 2) := by decide +kernel
theorem own_d_jdk_42_method_149_code_41 : decode jdk_42_method_149_code 41 = .ok (.aload_n 0, 1) := by decide +kernel
theorem own_d_jdk_42_method_149_code_42 : decode jdk_42_method_149_code 42 = .ok (.aload 5, 2) := by decide +kernel
theorem own_d_jdk_42_method_149_code_44 : decode jdk_42_method_149_code 44 = .ok (.iload_n 3, 1) := by decide +kernel
theorem own_d_jdk_42_method_149_code_45 : decode jdk_42_method_149_code 45 = .ok (.invokestatic 47, 3) := by decide +kernel
theorem own_pd_6 : parseMethodDescriptor "([BI)B" = some ⟨[(.array .byte), .int], some .byte⟩ := by decide +kernel
theorem own_d_jdk_42_method_149_code_48 : decode jdk_42_method_149_code 48 = .ok (.putfield 15, 3) := by decide +kernel
theorem own_d_jdk_42_method_149_code_51 : decode jdk_42_method_149_code 51 = .ok (.aload_n 0, 1) := by decide +kernel
theorem own_d_jdk_42_method_149_code_52 : decode jdk_42_method_149_code 52 = .ok (.aload 5, 2) := by decide +kernel
theorem own_d_jdk_42_method_149_code_54 : decode jdk_42_method_149_code 54 = .ok (.putfield 9, 3) := by decide +kernel
theorem own_d_jdk_42_method_149_code_57 : decode jdk_42_method_149_code 57 = .ok (.return_, 1) := by decide +kernel
set_option maxRecDepth 65536 in
set_option maxHeartbeats 40000000 in
theorem own_rm_vini1 (l : Launch) (Z : State) (a0 : Array Value) (hw : ∀ d ∈ tables_1, d.before a0 Z = true) (ws : List Jvm.Cond) (a1 : Addr) (a2 : Addr) (p3 : Int32) (p4 : Int32) (c0 : Int32) (kc : ClassId) (G1 : Int32) (h0 : Heap) (n0 : Nat) (Z0 : n0 ≤ h0.size) (F1 : Fld Z h0 a1 "java/lang/String" "value" "[B" .null) (F2 : Fld Z h0 a1 "java/lang/String" "coder" "B" (.int 0)) (E1 : Exa Z h0 a1 "java/lang/String") (g_a1 : n0 ≤ a1) (S1 : Sta Z h0 "java/lang/StringUTF16" "$assertionsDisabled" "Z" (.int 1)) (S2 : Sta Z h0 "java/lang/StringUTF16" "HI_BYTE_SHIFT" "I" (.int 0)) (S3 : Sta Z h0 "java/lang/StringUTF16" "LO_BYTE_SHIFT" "I" (.int 8)) (SC : Sta Z h0 "java/lang/String" "COMPACT_STRINGS" "Z" (.int G1)) (P5 : ¬ (G1 = (0 : Int32))) (Vc : Arv Z h0 a2 kc .char (1 : Int32) [(.int c0)] (.int 0)) (ne12 : a1 ≠ a2) (hp3 : p3 = 0) (hp4 : p4 = (1 : Int32)) (hr : ∀ c ∈ ([c0] : List Int32), ¬ c < 0 ∧ ¬ (65535 : Int32) < c) (hwd : (255 : Int32) < c0) :
    MetFree l (⟨"java/lang/String", "<init>", "([CIILjava/lang/Void;)V"⟩ : MethodName) (head1 (Jvm.Cond.code (⟨"java/lang/String", "<init>", "([CIILjava/lang/Void;)V"⟩ : MethodName) jdk_42_method_149_code 6 none :: ws) ({ frames := 4, cells := 2, slots := 3, locals := 57 } : Room)) (fun a U => a = #[(.ref a1), (.ref a2), (.int p3), (.int p4), .null] ∧ Z.Warmed39 U.vm ∧ U.heap = h0) (fun _ _ _ _ _ => True) (fun _ U o U' => ∃ v L, o = .returned v ∧ own_Q_vini1 Z a1 a2 p3 p4 c0 kc G1 h0 n0 v U'.heap L ∧ FrameEnd U o U' L ({ frames := 4, cells := 2, slots := 3, locals := 57 } : Room).cells ({ frames := 4, cells := 2, slots := 3, locals := 57 } : Room).slots) := by
  refine MetFree.of_bodySF (plainFor_of_name own_pn_1) hisR ?_
  intro p e s m args below meth c s₁ Bd hml0 hP hK
  obtain ⟨rfl, hZ, hh⟩ := hP
  have hx := Bd.exec
  have hby := Bd.bytes
  have hml : c.maxLocals = 6 := hml0
  have hown : s.vm.findClass "java/lang/String" = some m.cls := findClass_of_methodNamed Bd.named
  have hnm := (name_of_methodNamed Bd.named Bd.method).1
  have X0 : Stand p l e ({ frames := 4, cells := 2, slots := 3, locals := 57 } : Room) s m #[(.ref a1), (.ref a2), (.int p3), (.int p4), .null] below meth c s₁ [] 0 0 := Stand.of_body Bd
  have e0 : s₁.heap = h0 := by rw [← hh, Bd.state]; rfl
  have N0 := Fr.nil n0
  refine own_start (own_ef_vini1 m a1 a2 p3 p4 ) ?_
  subst hp3 hp4
  have K0 : Keep h0 h0 [a1] := Keep.refl _ _
  obtain ⟨T1, X1, e1, st1⟩ := initO X0 hx hZ hown (hw _ (List.mem_of_getElem? (i := 12) rfl)) (hw _ (List.mem_of_getElem? (i := 13) rfl)) (hw _ (List.mem_of_getElem? (i := 14) rfl)) e0 (g := (mkF m 1 #[.val (.ref a1), .val (.ref a2), .val (.int (0 : Int32)), .val (.int (1 : Int32)), .val .null, .unset] [(.ref a1)])) rfl (by rw [hml]; rfl) rfl (Jvm.hb hby own_d_jdk_42_method_149_code_1) (by decide) (W := 0) (by show 2 * 0 + _ ≤ _; exact Nat.le_of_eq rfl) (by decide)
  obtain ⟨T2, X2, e2, st2⟩ := getS2 X1 hx hZ hown (host := "") (Or.inl (hw _ (List.mem_of_getElem? (i := 15) rfl))) Via.refl e1 SC (g := (mkF m 27 #[.val (.ref a1), .val (.ref a2), .val (.int (0 : Int32)), .val (.int (1 : Int32)), .val .null, .unset] [])) rfl (Jvm.hb hby own_d_jdk_42_method_149_code_27)
  refine own_of (T' := T2) (f' := (mkF m 35 #[.val (.ref a1), .val (.ref a2), .val (.int (0 : Int32)), .val (.int (1 : Int32)), .val .null, .unset] [(.int (0 : Int32)), (.ref a2)])) (fun t_ k_ => (XS.aloadN X0.here hx rfl (Jvm.hb hby own_d_jdk_42_method_149_code_0) rfl rfl (st1 _ (XS.iloadN X1.here hx rfl (Jvm.hb hby own_d_jdk_42_method_149_code_4) rfl (XS.ifYes X1.here hx rfl (pc0 := 5) (pc' := 27) rfl (Jvm.hb hby own_d_jdk_42_method_149_code_5) rfl ((if0 _ _).trans (feq (by decide)).2) (by decide) (by decide) (st2 _ (XS.ifNo X2.here hx rfl (Jvm.hb hby own_d_jdk_42_method_149_code_30) rfl ((if0 _ _).trans (feq P5).1) (XS.aloadN X2.here hx rfl (Jvm.hb hby own_d_jdk_42_method_149_code_33) rfl rfl (XS.iloadN X2.here hx rfl (Jvm.hb hby own_d_jdk_42_method_149_code_34) rfl k_))))))))) ?_
  refine own_of (T' := T2) (f' := (mkF m 36 #[.val (.ref a1), .val (.ref a2), .val (.int (0 : Int32)), .val (.int (1 : Int32)), .val .null, .unset] [(.int (1 : Int32)), (.int (0 : Int32)), (.ref a2)])) (fun t_ k_ => (XS.iloadN X2.here hx rfl (Jvm.hb hby own_d_jdk_42_method_149_code_35) rfl k_)) ?_
  obtain ⟨_, _, ⟨T3, L3, k3, n3⟩, -, X3, ⟨Lc3, hQ3, l3, y3, z3⟩, st3⟩ := Jvm.LawKit.callS X2 hx (y := (⟨"java/lang/StringUTF16", "compress", "([CII)[B"⟩ : MethodName)) hown (mvT hZ (hw _ (List.mem_of_getElem? (i := 16) rfl))) (mvT hZ (hw _ (List.mem_of_getElem? (i := 17) rfl))) (mvT hZ (hw _ (List.mem_of_getElem? (i := 18) rfl))) (mvT hZ (hw _ (List.mem_of_getElem? (i := 19) rfl))) (by decide) (backOf (W := 0) (own_rm_cp3_1 l Z a0 hw [] a2 (0 : Int32) (1 : Int32) c0 kc h0 n0 Z0 S1 S2 S3 Vc rfl rfl hr hwd) hZ (hw _ (List.mem_of_getElem? (i := 19) rfl)) (hw _ (List.mem_of_getElem? (i := 18) rfl)) (by decide) (by decide)) (g := (mkF m 36 #[.val (.ref a1), .val (.ref a2), .val (.int (0 : Int32)), .val (.int (1 : Int32)), .val .null, .unset] [(.int (1 : Int32)), (.int (0 : Int32)), (.ref a2)])) rfl (by rw [hml]; rfl) (argsL := [(.ref a2), (.int (0 : Int32)), (.int (1 : Int32))]) (rest := []) (lenOf own_pd_4 rfl) rfl (by show 2 * 0 + _ ≤ _; exact Nat.le_of_eq rfl) (Jvm.hb hby own_d_jdk_42_method_149_code_36) (fun _ _ => ⟨rfl, e2, Nat.le_of_ble_eq_true rfl, Nat.le_of_ble_eq_true rfl⟩)
  dsimp only [Pt.U, Pt.locs, Pt.cells, Pt.slots] at X3 l3 y3 z3 st3 hQ3
  subst l3 y3 z3
  obtain ⟨b, kb, rfl, N3, K3, szb, Eb, Vb⟩ := hQ3
  have ne_a1_b : a1 ≠ b := Nat.ne_of_lt (Nat.lt_of_lt_of_le E1.lt szb)
  have ne_a2_b : a2 ≠ b := Nat.ne_of_lt (Nat.lt_of_lt_of_le Vc.lt szb)
  have g_b : n0 ≤ b := Nat.le_trans Z0 szb
  have sz_b : h0.size ≤ b := Nat.le_trans K0.1 szb
  have N4 := Fr.app N0 N3
  have f5 := K0.trans K3 all0
  have f6 := Nat.le_trans Z0 K3.1
  have f7 := E1.keep K3
  have f8 := F1.keep K3 nin0
  have f9 := F2.keep K3 nin0
  have f10 := own_stakeep S1 K3 all0
  have f11 := own_stakeep S2 K3 all0
  have f12 := own_stakeep S3 K3 all0
  have f13 := own_stakeep SC K3 all0
  have f14 := Vc.keep K3 nin0
  refine own_of (T' := T3) (f' := (mkF m 45 #[.val (.ref a1), .val (.ref a2), .val (.int (0 : Int32)), .val (.int (1 : Int32)), .val .null, .val (.ref b)] [(.int (1 : Int32)), (.ref b), (.ref a1)])) (fun t_ k_ => (st3 _ (XS.astore X3.here hx rfl (Jvm.hb hby own_d_jdk_42_method_149_code_39) rfl rfl (l' := #[.val (.ref a1), .val (.ref a2), .val (.int (0 : Int32)), .val (.int (1 : Int32)), .val .null, .val (.ref b)]) rfl (XS.aloadN X3.here hx rfl (Jvm.hb hby own_d_jdk_42_method_149_code_41) rfl rfl (XS.aload X3.here hx rfl (Jvm.hb hby own_d_jdk_42_method_149_code_42) rfl rfl (XS.iloadN X3.here hx rfl (Jvm.hb hby own_d_jdk_42_method_149_code_44) rfl k_)))))) ?_
  obtain ⟨_, _, ⟨T15, L15, k15, n15⟩, -, X15, ⟨Lc15, hQ15, l15, y15, z15⟩, st15⟩ := Jvm.LawKit.callS X3 hx (y := (⟨"java/lang/StringUTF16", "coderFromArrayLen", "([BI)B"⟩ : MethodName)) hown (mvT hZ (hw _ (List.mem_of_getElem? (i := 24) rfl))) (mvT hZ (hw _ (List.mem_of_getElem? (i := 25) rfl))) (mvT hZ (hw _ (List.mem_of_getElem? (i := 18) rfl))) (mvT hZ (hw _ (List.mem_of_getElem? (i := 26) rfl))) (by decide) (backOf (W := 1) (own_rm_cfl l Z a0 hw [] b (1 : Int32) kb (2 : Int32) [(.int (StrChars.lo8 c0)), (.int (StrChars.hi8 c0))] T3.heap n0 f6 Vb (by decide)) hZ (hw _ (List.mem_of_getElem? (i := 26) rfl)) (hw _ (List.mem_of_getElem? (i := 18) rfl)) (by decide) (by decide)) (g := (mkF m 45 #[.val (.ref a1), .val (.ref a2), .val (.int (0 : Int32)), .val (.int (1 : Int32)), .val .null, .val (.ref b)] [(.int (1 : Int32)), (.ref b), (.ref a1)])) rfl (by rw [hml]; rfl) (argsL := [(.ref b), (.int (1 : Int32))]) (rest := [(.ref a1)]) (lenOf own_pd_6 rfl) rfl (by show 2 * 0 + _ ≤ _; exact Nat.le_of_eq rfl) (Jvm.hb hby own_d_jdk_42_method_149_code_45) (fun _ _ => ⟨rfl, rfl, Nat.le_of_ble_eq_true rfl, Nat.le_of_ble_eq_true rfl⟩)
  dsimp only [Pt.U, Pt.locs, Pt.cells, Pt.slots] at X15 l15 y15 z15 st15 hQ15
  subst l15 y15 z15
  obtain ⟨rfl, N15, e15⟩ := hQ15
  have N16 := Fr.app N4 N15
  obtain ⟨T17, h17, X17, e17, W17, st17⟩ := putF X15 hx hZ hown (host := "") (Or.inl (hw _ (List.mem_of_getElem? (i := 27) rfl))) Via.refl e15 f9 f7 (Or.inr ⟨(hw _ (List.mem_of_getElem? (i := 28) rfl)), rfl, hnm⟩) (hw _ (List.mem_of_getElem? (i := 3) rfl)) (ty := .byte) (by decide) rfl rfl (g := (mkF m 48 #[.val (.ref a1), .val (.ref a2), .val (.int (0 : Int32)), .val (.int (1 : Int32)), .val .null, .val (.ref b)] [(.int (1 : Int32)), (.ref a1)])) rfl rfl (Jvm.hb hby own_d_jdk_42_method_149_code_48)
  refine own_of (T' := T17) (f' := (mkF m 51 #[.val (.ref a1), .val (.ref a2), .val (.int (0 : Int32)), .val (.int (1 : Int32)), .val .null, .val (.ref b)] [])) (fun t_ k_ => (st15 _ (st17 _ k_))) ?_
  have N17 := Fr.snoc X17 N16 g_a1
  have f18 := f5.wr W17 (Or.inl (List.mem_of_getElem? (i := 0) rfl))
  have f19 := Nat.le_trans f6 (Keep.of_wr W17).1
  have f20 := f7.wr W17
  have f21 := f8.other W17 (Or.inr (slot_ne (Or.inr (hw _ (List.mem_of_getElem? (i := 30) rfl))) (Or.inr (hw _ (List.mem_of_getElem? (i := 28) rfl))) (by decide) (t := (.array .byte)) (t' := .byte) (by decide) (by decide)))
  have f22 := f9.same W17
  have f23 := f10.wr W17
  have f24 := f11.wr W17
  have f25 := f12.wr W17
  have f26 := f13.wr W17
  have f27 := f14.other W17 (Ne.symm ne12)
  have f28 := Eb.wr W17
  have f29 := Vb.other W17 (Ne.symm ne_a1_b)
  obtain ⟨T30, h30, X30, e30, W30, st30⟩ := putF X17 hx hZ hown (host := "") (Or.inl (hw _ (List.mem_of_getElem? (i := 29) rfl))) Via.refl e17 f21 f20 (Or.inr ⟨(hw _ (List.mem_of_getElem? (i := 30) rfl)), rfl, hnm⟩) (hw _ (List.mem_of_getElem? (i := 3) rfl)) (ty := (.array .byte)) (by decide) rfl rfl (g := (mkF m 54 #[.val (.ref a1), .val (.ref a2), .val (.int (0 : Int32)), .val (.int (1 : Int32)), .val .null, .val (.ref b)] [(.ref b), (.ref a1)])) rfl rfl (Jvm.hb hby own_d_jdk_42_method_149_code_54)
  refine own_of (T' := T30) (f' := (mkF m 57 #[.val (.ref a1), .val (.ref a2), .val (.int (0 : Int32)), .val (.int (1 : Int32)), .val .null, .val (.ref b)] [])) (fun t_ k_ => (XS.aloadN X17.here hx rfl (Jvm.hb hby own_d_jdk_42_method_149_code_51) rfl rfl (XS.aload X17.here hx rfl (Jvm.hb hby own_d_jdk_42_method_149_code_52) rfl rfl (st30 _ k_)))) ?_
  have N30 := Fr.snoc X30 N17 g_a1
  have f31 := f18.wr W30 (Or.inl (List.mem_of_getElem? (i := 0) rfl))
  have f32 := Nat.le_trans f19 (Keep.of_wr W30).1
  have f33 := f20.wr W30
  have f34 := f21.same W30
  have f35 := f22.other W30 (Or.inr (slot_ne (Or.inr (hw _ (List.mem_of_getElem? (i := 28) rfl))) (Or.inr (hw _ (List.mem_of_getElem? (i := 30) rfl))) (by decide) (t := .byte) (t' := (.array .byte)) (by decide) (by decide)))
  have f36 := f23.wr W30
  have f37 := f24.wr W30
  have f38 := f25.wr W30
  have f39 := f26.wr W30
  have f40 := f27.other W30 (Ne.symm ne12)
  have f41 := f28.wr W30
  have f42 := f29.other W30 (Ne.symm ne_a1_b)
  obtain ⟨fs, hr, hrun, hended, hW, hsame⟩ := X30.leave (v := none) (fun _ => rfl)
  exact ⟨_, _, X30.returnOut hx Bd.returns (Jvm.hb hby own_d_jdk_42_method_149_code_57) hr, hrun, hended, _, _, rfl, (by show own_Q_vini1 Z a1 a2 0 (1 : Int32) c0 kc G1 h0 n0 _ T30.heap _; rw [e30]; exact ⟨rfl, N30, f31, f33, f35, b, kb, f34, f42⟩), ⟨_, rfl⟩, hW, hsame.mono (by decide) (by decide)⟩
theorem own_ef_cini1 (m : MethodId) (a1 : Addr) (a2 : Addr) : entryFrame m #[(.ref a1), (.ref a2)] 2 = mkF m 0 #[.val (.ref a1), .val (.ref a2)] [] := by first | (simp [entryFrame, mkF, argsToLocals, Value.category]; done) | rfl
def own_Q_cini1 (Z : State) (a1 : Addr) (a2 : Addr) (c0 : Int32) (kc : ClassId) (G1 : Int32) (h0 : Heap) (n0 : Nat) (v : Option Value) (h : Heap) (L : List Loc) : Prop := v = none ∧ Fr n0 L ∧ Keep h0 h [a1] ∧ Exa Z h a1 "java/lang/String" ∧ Fld Z h a1 "java/lang/String" "coder" "B" (.int 1) ∧ ∃ b k, Fld Z h a1 "java/lang/String" "value" "[B" (.ref b) ∧ Arv Z h b k .byte (2 : Int32) [(.int (StrChars.lo8 c0)), (.int (StrChars.hi8 c0))] (.int 0)
theorem own_d_jdk_42_method_3_code_0 : decode jdk_42_method_3_code 0 = .ok (.aload_n 0, 1) := by decide +kernel
theorem own_d_jdk_42_method_3_code_1 : decode jdk_42_method_3_code 1 = .ok (.aload_n 1, 1) := by decide +kernel
theorem own_d_jdk_42_method_3_code_2 : decode jdk_42_method_3_code 2 = .ok (.iconst 0, 1) := by decide +kernel
theorem own_d_jdk_42_method_3_code_3 : decode jdk_42_method_3_code 3 = .ok (.aload_n 1, 1) := by decide +kernel
theorem own_d_jdk_42_method_3_code_4 : decode jdk_42_method_3_code 4 = .ok (.arraylength, 1) := by decide +kernel
theorem own_d_jdk_42_method_3_code_5 : decode jdk_42_method_3_code 5 = .ok (.aconst_null, 1) := by decide +kernel
theorem own_d_jdk_42_method_3_code_6 : decode jdk_42_method_3_code 6 = .ok (.invokespecial 27, 3) := by decide +kernel
theorem own_pd_7 : parseMethodDescriptor "([CIILjava/lang/Void;)V" = some ⟨[(.array .char), .int, .int, (.object "java/lang/Void")], none⟩ := by decide +kernel
theorem own_d_jdk_42_method_3_code_9 : decode jdk_42_method_3_code 9 = .ok (.return_, 1) := by decide +kernel
set_option maxRecDepth 65536 in
set_option maxHeartbeats 40000000 in
theorem own_rm_cini1 (l : Launch) (Z : State) (a0 : Array Value) (hw : ∀ d ∈ tables_1, d.before a0 Z = true) (ws : List Jvm.Cond) (a1 : Addr) (a2 : Addr) (c0 : Int32) (kc : ClassId) (G1 : Int32) (h0 : Heap) (n0 : Nat) (Z0 : n0 ≤ h0.size) (F1 : Fld Z h0 a1 "java/lang/String" "value" "[B" .null) (F2 : Fld Z h0 a1 "java/lang/String" "coder" "B" (.int 0)) (E1 : Exa Z h0 a1 "java/lang/String") (g_a1 : n0 ≤ a1) (S1 : Sta Z h0 "java/lang/StringUTF16" "$assertionsDisabled" "Z" (.int 1)) (S2 : Sta Z h0 "java/lang/StringUTF16" "HI_BYTE_SHIFT" "I" (.int 0)) (S3 : Sta Z h0 "java/lang/StringUTF16" "LO_BYTE_SHIFT" "I" (.int 8)) (SC : Sta Z h0 "java/lang/String" "COMPACT_STRINGS" "Z" (.int G1)) (P5 : ¬ (G1 = (0 : Int32))) (Vc : Arv Z h0 a2 kc .char (1 : Int32) [(.int c0)] (.int 0)) (ne12 : a1 ≠ a2) (hr : ∀ c ∈ ([c0] : List Int32), ¬ c < 0 ∧ ¬ (65535 : Int32) < c) (hwd : (255 : Int32) < c0) :
    MetFree l (⟨"java/lang/String", "<init>", "([C)V"⟩ : MethodName) (head1 (Jvm.Cond.code (⟨"java/lang/String", "<init>", "([C)V"⟩ : MethodName) jdk_42_method_3_code 2 none :: ws) ({ frames := 5, cells := 2, slots := 3, locals := 74 } : Room)) (fun a U => a = #[(.ref a1), (.ref a2)] ∧ Z.Warmed39 U.vm ∧ U.heap = h0) (fun _ _ _ _ _ => True) (fun _ U o U' => ∃ v L, o = .returned v ∧ own_Q_cini1 Z a1 a2 c0 kc G1 h0 n0 v U'.heap L ∧ FrameEnd U o U' L ({ frames := 5, cells := 2, slots := 3, locals := 74 } : Room).cells ({ frames := 5, cells := 2, slots := 3, locals := 74 } : Room).slots) := by
  refine MetFree.of_bodySF (plainFor_of_name own_pn_1) hisR ?_
  intro p e s m args below meth c s₁ Bd hml0 hP hK
  obtain ⟨rfl, hZ, hh⟩ := hP
  have hx := Bd.exec
  have hby := Bd.bytes
  have hml : c.maxLocals = 2 := hml0
  have hown : s.vm.findClass "java/lang/String" = some m.cls := findClass_of_methodNamed Bd.named
  have hnm := (name_of_methodNamed Bd.named Bd.method).1
  have X0 : Stand p l e ({ frames := 5, cells := 2, slots := 3, locals := 74 } : Room) s m #[(.ref a1), (.ref a2)] below meth c s₁ [] 0 0 := Stand.of_body Bd
  have e0 : s₁.heap = h0 := by rw [← hh, Bd.state]; rfl
  have N0 := Fr.nil n0
  refine own_start (own_ef_cini1 m a1 a2 ) ?_
  have K0 : Keep h0 h0 [a1] := Keep.refl _ _
  refine own_of (T' := s₁) (f' := (mkF m 4 #[.val (.ref a1), .val (.ref a2)] [(.ref a2), (.int (0 : Int32)), (.ref a2), (.ref a1)])) (fun t_ k_ => (XS.aloadN X0.here hx rfl (Jvm.hb hby own_d_jdk_42_method_3_code_0) rfl rfl (XS.aloadN X0.here hx rfl (Jvm.hb hby own_d_jdk_42_method_3_code_1) rfl rfl (XS.iconst X0.here hx rfl (Jvm.hb hby own_d_jdk_42_method_3_code_2) (XS.aloadN X0.here hx rfl (Jvm.hb hby own_d_jdk_42_method_3_code_3) rfl rfl k_))))) ?_
  obtain ⟨clz, Arz, -, Szz, Nnz, -⟩ := id Vc
  refine own_of (T' := s₁) (f' := (mkF m 5 #[.val (.ref a1), .val (.ref a2)] [(.int (clz.slots.size).toInt32), (.int (0 : Int32)), (.ref a2), (.ref a1)])) (fun t_ k_ => (X0.arraylength hx (by first | (rw [e0]; exact Arz.1) | exact Arz.1) (State.isArrayOf_alike hZ.alike Arz.2.1) (g := (mkF m 4 #[.val (.ref a1), .val (.ref a2)] [(.ref a2), (.int (0 : Int32)), (.ref a2), (.ref a1)])) rfl rfl (Jvm.hb hby own_d_jdk_42_method_3_code_4) _ k_)) ?_
  rw [len_of Szz Nnz]
  refine own_of (T' := s₁) (f' := (mkF m 6 #[.val (.ref a1), .val (.ref a2)] [.null, (.int (1 : Int32)), (.int (0 : Int32)), (.ref a2), (.ref a1)])) (fun t_ k_ => (XS.aconstNull X0.here hx rfl (Jvm.hb hby own_d_jdk_42_method_3_code_5) k_)) ?_
  obtain ⟨_, _, ⟨T1, L1, k1, n1⟩, -, X1, ⟨Lc1, hQ1, l1, y1, z1⟩, st1⟩ := X0.specialBack hx (y := (⟨"java/lang/String", "<init>", "([CIILjava/lang/Void;)V"⟩ : MethodName)) rfl hown (mvT hZ (hw _ (List.mem_of_getElem? (i := 8) rfl))) (mvT hZ (hw _ (List.mem_of_getElem? (i := 9) rfl))) (mvT hZ (hw _ (List.mem_of_getElem? (i := 11) rfl))) (by decide) (backOf (W := 0) (own_rm_vini1 l Z a0 hw [] a1 a2 (0 : Int32) (1 : Int32) c0 kc G1 h0 n0 Z0 F1 F2 E1 g_a1 S1 S2 S3 SC P5 Vc ne12 rfl rfl hr hwd) hZ (hw _ (List.mem_of_getElem? (i := 11) rfl)) (hw _ (List.mem_of_getElem? (i := 4) rfl)) (by decide) (by decide)) (g := (mkF m 6 #[.val (.ref a1), .val (.ref a2)] [.null, (.int (1 : Int32)), (.int (0 : Int32)), (.ref a2), (.ref a1)])) rfl (by rw [hml]; rfl) (Steps.refl _) (a := a1) (argsL := [(.ref a2), (.int (0 : Int32)), (.int (1 : Int32)), .null]) (rest := []) (lenOf own_pd_7 rfl) rfl (by show 2 * 0 + _ ≤ _; exact Nat.le_of_eq rfl) (Jvm.hb hby own_d_jdk_42_method_3_code_6) (fun _ _ => ⟨rfl, e0, Nat.le_of_ble_eq_true rfl, Nat.le_of_ble_eq_true rfl⟩)
  dsimp only [Pt.U, Pt.locs, Pt.cells, Pt.slots] at X1 l1 y1 z1 st1 hQ1
  subst l1 y1 z1
  obtain ⟨rfl, N1, K1, q1, q2, b, k, q3, q4⟩ := hQ1
  have N2 := Fr.app N0 N1
  have f3 := K0.trans K1 (allS (Or.inl (List.mem_of_getElem? (i := 0) rfl)) all0)
  have f4 := Nat.le_trans Z0 K1.1
  have f5 := E1.keep K1
  refine own_of (T' := T1) (f' := (mkF m 9 #[.val (.ref a1), .val (.ref a2)] [])) (fun t_ k_ => (st1.trans k_)) ?_
  obtain ⟨fs, hr, hrun, hended, hW, hsame⟩ := X1.leave (v := none) (fun _ => rfl)
  exact ⟨_, _, X1.returnOut hx Bd.returns (Jvm.hb hby own_d_jdk_42_method_3_code_9) hr, hrun, hended, _, _, rfl, (by show own_Q_cini1 Z a1 a2 c0 kc G1 h0 n0 _ T1.heap _; exact ⟨rfl, N2, f3, q1, q2, b, k, q3, q4⟩), ⟨_, rfl⟩, hW, hsame.mono (by decide) (by decide)⟩
theorem own_ef_vini2 (m : MethodId) (a1 : Addr) (a2 : Addr) (p3 : Int32) (p4 : Int32) : entryFrame m #[(.ref a1), (.ref a2), (.int p3), (.int p4), .null] 6 = mkF m 0 #[.val (.ref a1), .val (.ref a2), .val (.int p3), .val (.int p4), .val .null, .unset] [] := by first | (simp [entryFrame, mkF, argsToLocals, Value.category]; done) | rfl
def own_Q_vini2 (Z : State) (a1 : Addr) (a2 : Addr) (p3 : Int32) (p4 : Int32) (c0 c1 : Int32) (kc : ClassId) (G1 : Int32) (h0 : Heap) (n0 : Nat) (v : Option Value) (h : Heap) (L : List Loc) : Prop := v = none ∧ Fr n0 L ∧ Keep h0 h [a1] ∧ Exa Z h a1 "java/lang/String" ∧ Fld Z h a1 "java/lang/String" "coder" "B" (.int 1) ∧ ∃ b k, Fld Z h a1 "java/lang/String" "value" "[B" (.ref b) ∧ Arv Z h b k .byte (4 : Int32) [(.int (StrChars.lo8 c0)), (.int (StrChars.hi8 c0)), (.int (StrChars.lo8 c1)), (.int (StrChars.hi8 c1))] (.int 0)
set_option maxRecDepth 65536 in
set_option maxHeartbeats 40000000 in
theorem own_rm_vini2 (l : Launch) (Z : State) (a0 : Array Value) (hw : ∀ d ∈ tables_1, d.before a0 Z = true) (ws : List Jvm.Cond) (a1 : Addr) (a2 : Addr) (p3 : Int32) (p4 : Int32) (c0 c1 : Int32) (kc : ClassId) (G1 : Int32) (h0 : Heap) (n0 : Nat) (Z0 : n0 ≤ h0.size) (F1 : Fld Z h0 a1 "java/lang/String" "value" "[B" .null) (F2 : Fld Z h0 a1 "java/lang/String" "coder" "B" (.int 0)) (E1 : Exa Z h0 a1 "java/lang/String") (g_a1 : n0 ≤ a1) (S1 : Sta Z h0 "java/lang/StringUTF16" "$assertionsDisabled" "Z" (.int 1)) (S2 : Sta Z h0 "java/lang/StringUTF16" "HI_BYTE_SHIFT" "I" (.int 0)) (S3 : Sta Z h0 "java/lang/StringUTF16" "LO_BYTE_SHIFT" "I" (.int 8)) (SC : Sta Z h0 "java/lang/String" "COMPACT_STRINGS" "Z" (.int G1)) (P5 : ¬ (G1 = (0 : Int32))) (Vc : Arv Z h0 a2 kc .char (2 : Int32) [(.int c0), (.int c1)] (.int 0)) (ne12 : a1 ≠ a2) (hp3 : p3 = 0) (hp4 : p4 = (2 : Int32)) (hr : ∀ c ∈ ([c0, c1] : List Int32), ¬ c < 0 ∧ ¬ (65535 : Int32) < c) (hwd : (255 : Int32) < c0 ∨ (255 : Int32) < c1) :
    MetFree l (⟨"java/lang/String", "<init>", "([CIILjava/lang/Void;)V"⟩ : MethodName) (head1 (Jvm.Cond.code (⟨"java/lang/String", "<init>", "([CIILjava/lang/Void;)V"⟩ : MethodName) jdk_42_method_149_code 6 none :: ws) ({ frames := 4, cells := 2, slots := 6, locals := 57 } : Room)) (fun a U => a = #[(.ref a1), (.ref a2), (.int p3), (.int p4), .null] ∧ Z.Warmed39 U.vm ∧ U.heap = h0) (fun _ _ _ _ _ => True) (fun _ U o U' => ∃ v L, o = .returned v ∧ own_Q_vini2 Z a1 a2 p3 p4 c0 c1 kc G1 h0 n0 v U'.heap L ∧ FrameEnd U o U' L ({ frames := 4, cells := 2, slots := 6, locals := 57 } : Room).cells ({ frames := 4, cells := 2, slots := 6, locals := 57 } : Room).slots) := by
  refine MetFree.of_bodySF (plainFor_of_name own_pn_1) hisR ?_
  intro p e s m args below meth c s₁ Bd hml0 hP hK
  obtain ⟨rfl, hZ, hh⟩ := hP
  have hx := Bd.exec
  have hby := Bd.bytes
  have hml : c.maxLocals = 6 := hml0
  have hown : s.vm.findClass "java/lang/String" = some m.cls := findClass_of_methodNamed Bd.named
  have hnm := (name_of_methodNamed Bd.named Bd.method).1
  have X0 : Stand p l e ({ frames := 4, cells := 2, slots := 6, locals := 57 } : Room) s m #[(.ref a1), (.ref a2), (.int p3), (.int p4), .null] below meth c s₁ [] 0 0 := Stand.of_body Bd
  have e0 : s₁.heap = h0 := by rw [← hh, Bd.state]; rfl
  have N0 := Fr.nil n0
  refine own_start (own_ef_vini2 m a1 a2 p3 p4 ) ?_
  subst hp3 hp4
  have K0 : Keep h0 h0 [a1] := Keep.refl _ _
  obtain ⟨T1, X1, e1, st1⟩ := initO X0 hx hZ hown (hw _ (List.mem_of_getElem? (i := 12) rfl)) (hw _ (List.mem_of_getElem? (i := 13) rfl)) (hw _ (List.mem_of_getElem? (i := 14) rfl)) e0 (g := (mkF m 1 #[.val (.ref a1), .val (.ref a2), .val (.int (0 : Int32)), .val (.int (2 : Int32)), .val .null, .unset] [(.ref a1)])) rfl (by rw [hml]; rfl) rfl (Jvm.hb hby own_d_jdk_42_method_149_code_1) (by decide) (W := 0) (by show 2 * 0 + _ ≤ _; exact Nat.le_of_eq rfl) (by decide)
  obtain ⟨T2, X2, e2, st2⟩ := getS2 X1 hx hZ hown (host := "") (Or.inl (hw _ (List.mem_of_getElem? (i := 15) rfl))) Via.refl e1 SC (g := (mkF m 27 #[.val (.ref a1), .val (.ref a2), .val (.int (0 : Int32)), .val (.int (2 : Int32)), .val .null, .unset] [])) rfl (Jvm.hb hby own_d_jdk_42_method_149_code_27)
  refine own_of (T' := T2) (f' := (mkF m 35 #[.val (.ref a1), .val (.ref a2), .val (.int (0 : Int32)), .val (.int (2 : Int32)), .val .null, .unset] [(.int (0 : Int32)), (.ref a2)])) (fun t_ k_ => (XS.aloadN X0.here hx rfl (Jvm.hb hby own_d_jdk_42_method_149_code_0) rfl rfl (st1 _ (XS.iloadN X1.here hx rfl (Jvm.hb hby own_d_jdk_42_method_149_code_4) rfl (XS.ifYes X1.here hx rfl (pc0 := 5) (pc' := 27) rfl (Jvm.hb hby own_d_jdk_42_method_149_code_5) rfl ((if0 _ _).trans (feq (by decide)).2) (by decide) (by decide) (st2 _ (XS.ifNo X2.here hx rfl (Jvm.hb hby own_d_jdk_42_method_149_code_30) rfl ((if0 _ _).trans (feq P5).1) (XS.aloadN X2.here hx rfl (Jvm.hb hby own_d_jdk_42_method_149_code_33) rfl rfl (XS.iloadN X2.here hx rfl (Jvm.hb hby own_d_jdk_42_method_149_code_34) rfl k_))))))))) ?_
  refine own_of (T' := T2) (f' := (mkF m 36 #[.val (.ref a1), .val (.ref a2), .val (.int (0 : Int32)), .val (.int (2 : Int32)), .val .null, .unset] [(.int (2 : Int32)), (.int (0 : Int32)), (.ref a2)])) (fun t_ k_ => (XS.iloadN X2.here hx rfl (Jvm.hb hby own_d_jdk_42_method_149_code_35) rfl k_)) ?_
  obtain ⟨_, _, ⟨T3, L3, k3, n3⟩, -, X3, ⟨Lc3, hQ3, l3, y3, z3⟩, st3⟩ := Jvm.LawKit.callS X2 hx (y := (⟨"java/lang/StringUTF16", "compress", "([CII)[B"⟩ : MethodName)) hown (mvT hZ (hw _ (List.mem_of_getElem? (i := 16) rfl))) (mvT hZ (hw _ (List.mem_of_getElem? (i := 17) rfl))) (mvT hZ (hw _ (List.mem_of_getElem? (i := 18) rfl))) (mvT hZ (hw _ (List.mem_of_getElem? (i := 19) rfl))) (by decide) (backOf (W := 0) (own_rm_cp3_2 l Z a0 hw [] a2 (0 : Int32) (2 : Int32) c0 c1 kc h0 n0 Z0 S1 S2 S3 Vc rfl rfl hr hwd) hZ (hw _ (List.mem_of_getElem? (i := 19) rfl)) (hw _ (List.mem_of_getElem? (i := 18) rfl)) (by decide) (by decide)) (g := (mkF m 36 #[.val (.ref a1), .val (.ref a2), .val (.int (0 : Int32)), .val (.int (2 : Int32)), .val .null, .unset] [(.int (2 : Int32)), (.int (0 : Int32)), (.ref a2)])) rfl (by rw [hml]; rfl) (argsL := [(.ref a2), (.int (0 : Int32)), (.int (2 : Int32))]) (rest := []) (lenOf own_pd_4 rfl) rfl (by show 2 * 0 + _ ≤ _; exact Nat.le_of_eq rfl) (Jvm.hb hby own_d_jdk_42_method_149_code_36) (fun _ _ => ⟨rfl, e2, Nat.le_of_ble_eq_true rfl, Nat.le_of_ble_eq_true rfl⟩)
  dsimp only [Pt.U, Pt.locs, Pt.cells, Pt.slots] at X3 l3 y3 z3 st3 hQ3
  subst l3 y3 z3
  obtain ⟨b, kb, rfl, N3, K3, szb, Eb, Vb⟩ := hQ3
  have ne_a1_b : a1 ≠ b := Nat.ne_of_lt (Nat.lt_of_lt_of_le E1.lt szb)
  have ne_a2_b : a2 ≠ b := Nat.ne_of_lt (Nat.lt_of_lt_of_le Vc.lt szb)
  have g_b : n0 ≤ b := Nat.le_trans Z0 szb
  have sz_b : h0.size ≤ b := Nat.le_trans K0.1 szb
  have N4 := Fr.app N0 N3
  have f5 := K0.trans K3 all0
  have f6 := Nat.le_trans Z0 K3.1
  have f7 := E1.keep K3
  have f8 := F1.keep K3 nin0
  have f9 := F2.keep K3 nin0
  have f10 := own_stakeep S1 K3 all0
  have f11 := own_stakeep S2 K3 all0
  have f12 := own_stakeep S3 K3 all0
  have f13 := own_stakeep SC K3 all0
  have f14 := Vc.keep K3 nin0
  refine own_of (T' := T3) (f' := (mkF m 45 #[.val (.ref a1), .val (.ref a2), .val (.int (0 : Int32)), .val (.int (2 : Int32)), .val .null, .val (.ref b)] [(.int (2 : Int32)), (.ref b), (.ref a1)])) (fun t_ k_ => (st3 _ (XS.astore X3.here hx rfl (Jvm.hb hby own_d_jdk_42_method_149_code_39) rfl rfl (l' := #[.val (.ref a1), .val (.ref a2), .val (.int (0 : Int32)), .val (.int (2 : Int32)), .val .null, .val (.ref b)]) rfl (XS.aloadN X3.here hx rfl (Jvm.hb hby own_d_jdk_42_method_149_code_41) rfl rfl (XS.aload X3.here hx rfl (Jvm.hb hby own_d_jdk_42_method_149_code_42) rfl rfl (XS.iloadN X3.here hx rfl (Jvm.hb hby own_d_jdk_42_method_149_code_44) rfl k_)))))) ?_
  obtain ⟨_, _, ⟨T15, L15, k15, n15⟩, -, X15, ⟨Lc15, hQ15, l15, y15, z15⟩, st15⟩ := Jvm.LawKit.callS X3 hx (y := (⟨"java/lang/StringUTF16", "coderFromArrayLen", "([BI)B"⟩ : MethodName)) hown (mvT hZ (hw _ (List.mem_of_getElem? (i := 24) rfl))) (mvT hZ (hw _ (List.mem_of_getElem? (i := 25) rfl))) (mvT hZ (hw _ (List.mem_of_getElem? (i := 18) rfl))) (mvT hZ (hw _ (List.mem_of_getElem? (i := 26) rfl))) (by decide) (backOf (W := 1) (own_rm_cfl l Z a0 hw [] b (2 : Int32) kb (4 : Int32) [(.int (StrChars.lo8 c0)), (.int (StrChars.hi8 c0)), (.int (StrChars.lo8 c1)), (.int (StrChars.hi8 c1))] T3.heap n0 f6 Vb (by decide)) hZ (hw _ (List.mem_of_getElem? (i := 26) rfl)) (hw _ (List.mem_of_getElem? (i := 18) rfl)) (by decide) (by decide)) (g := (mkF m 45 #[.val (.ref a1), .val (.ref a2), .val (.int (0 : Int32)), .val (.int (2 : Int32)), .val .null, .val (.ref b)] [(.int (2 : Int32)), (.ref b), (.ref a1)])) rfl (by rw [hml]; rfl) (argsL := [(.ref b), (.int (2 : Int32))]) (rest := [(.ref a1)]) (lenOf own_pd_6 rfl) rfl (by show 2 * 0 + _ ≤ _; exact Nat.le_of_eq rfl) (Jvm.hb hby own_d_jdk_42_method_149_code_45) (fun _ _ => ⟨rfl, rfl, Nat.le_of_ble_eq_true rfl, Nat.le_of_ble_eq_true rfl⟩)
  dsimp only [Pt.U, Pt.locs, Pt.cells, Pt.slots] at X15 l15 y15 z15 st15 hQ15
  subst l15 y15 z15
  obtain ⟨rfl, N15, e15⟩ := hQ15
  have N16 := Fr.app N4 N15
  obtain ⟨T17, h17, X17, e17, W17, st17⟩ := putF X15 hx hZ hown (host := "") (Or.inl (hw _ (List.mem_of_getElem? (i := 27) rfl))) Via.refl e15 f9 f7 (Or.inr ⟨(hw _ (List.mem_of_getElem? (i := 28) rfl)), rfl, hnm⟩) (hw _ (List.mem_of_getElem? (i := 3) rfl)) (ty := .byte) (by decide) rfl rfl (g := (mkF m 48 #[.val (.ref a1), .val (.ref a2), .val (.int (0 : Int32)), .val (.int (2 : Int32)), .val .null, .val (.ref b)] [(.int (1 : Int32)), (.ref a1)])) rfl rfl (Jvm.hb hby own_d_jdk_42_method_149_code_48)
  refine own_of (T' := T17) (f' := (mkF m 51 #[.val (.ref a1), .val (.ref a2), .val (.int (0 : Int32)), .val (.int (2 : Int32)), .val .null, .val (.ref b)] [])) (fun t_ k_ => (st15 _ (st17 _ k_))) ?_
  have N17 := Fr.snoc X17 N16 g_a1
  have f18 := f5.wr W17 (Or.inl (List.mem_of_getElem? (i := 0) rfl))
  have f19 := Nat.le_trans f6 (Keep.of_wr W17).1
  have f20 := f7.wr W17
  have f21 := f8.other W17 (Or.inr (slot_ne (Or.inr (hw _ (List.mem_of_getElem? (i := 30) rfl))) (Or.inr (hw _ (List.mem_of_getElem? (i := 28) rfl))) (by decide) (t := (.array .byte)) (t' := .byte) (by decide) (by decide)))
  have f22 := f9.same W17
  have f23 := f10.wr W17
  have f24 := f11.wr W17
  have f25 := f12.wr W17
  have f26 := f13.wr W17
  have f27 := f14.other W17 (Ne.symm ne12)
  have f28 := Eb.wr W17
  have f29 := Vb.other W17 (Ne.symm ne_a1_b)
  obtain ⟨T30, h30, X30, e30, W30, st30⟩ := putF X17 hx hZ hown (host := "") (Or.inl (hw _ (List.mem_of_getElem? (i := 29) rfl))) Via.refl e17 f21 f20 (Or.inr ⟨(hw _ (List.mem_of_getElem? (i := 30) rfl)), rfl, hnm⟩) (hw _ (List.mem_of_getElem? (i := 3) rfl)) (ty := (.array .byte)) (by decide) rfl rfl (g := (mkF m 54 #[.val (.ref a1), .val (.ref a2), .val (.int (0 : Int32)), .val (.int (2 : Int32)), .val .null, .val (.ref b)] [(.ref b), (.ref a1)])) rfl rfl (Jvm.hb hby own_d_jdk_42_method_149_code_54)
  refine own_of (T' := T30) (f' := (mkF m 57 #[.val (.ref a1), .val (.ref a2), .val (.int (0 : Int32)), .val (.int (2 : Int32)), .val .null, .val (.ref b)] [])) (fun t_ k_ => (XS.aloadN X17.here hx rfl (Jvm.hb hby own_d_jdk_42_method_149_code_51) rfl rfl (XS.aload X17.here hx rfl (Jvm.hb hby own_d_jdk_42_method_149_code_52) rfl rfl (st30 _ k_)))) ?_
  have N30 := Fr.snoc X30 N17 g_a1
  have f31 := f18.wr W30 (Or.inl (List.mem_of_getElem? (i := 0) rfl))
  have f32 := Nat.le_trans f19 (Keep.of_wr W30).1
  have f33 := f20.wr W30
  have f34 := f21.same W30
  have f35 := f22.other W30 (Or.inr (slot_ne (Or.inr (hw _ (List.mem_of_getElem? (i := 28) rfl))) (Or.inr (hw _ (List.mem_of_getElem? (i := 30) rfl))) (by decide) (t := .byte) (t' := (.array .byte)) (by decide) (by decide)))
  have f36 := f23.wr W30
  have f37 := f24.wr W30
  have f38 := f25.wr W30
  have f39 := f26.wr W30
  have f40 := f27.other W30 (Ne.symm ne12)
  have f41 := f28.wr W30
  have f42 := f29.other W30 (Ne.symm ne_a1_b)
  obtain ⟨fs, hr, hrun, hended, hW, hsame⟩ := X30.leave (v := none) (fun _ => rfl)
  exact ⟨_, _, X30.returnOut hx Bd.returns (Jvm.hb hby own_d_jdk_42_method_149_code_57) hr, hrun, hended, _, _, rfl, (by show own_Q_vini2 Z a1 a2 0 (2 : Int32) c0 c1 kc G1 h0 n0 _ T30.heap _; rw [e30]; exact ⟨rfl, N30, f31, f33, f35, b, kb, f34, f42⟩), ⟨_, rfl⟩, hW, hsame.mono (by decide) (by decide)⟩
theorem own_ef_cini2 (m : MethodId) (a1 : Addr) (a2 : Addr) : entryFrame m #[(.ref a1), (.ref a2)] 2 = mkF m 0 #[.val (.ref a1), .val (.ref a2)] [] := by first | (simp [entryFrame, mkF, argsToLocals, Value.category]; done) | rfl
def own_Q_cini2 (Z : State) (a1 : Addr) (a2 : Addr) (c0 c1 : Int32) (kc : ClassId) (G1 : Int32) (h0 : Heap) (n0 : Nat) (v : Option Value) (h : Heap) (L : List Loc) : Prop := v = none ∧ Fr n0 L ∧ Keep h0 h [a1] ∧ Exa Z h a1 "java/lang/String" ∧ Fld Z h a1 "java/lang/String" "coder" "B" (.int 1) ∧ ∃ b k, Fld Z h a1 "java/lang/String" "value" "[B" (.ref b) ∧ Arv Z h b k .byte (4 : Int32) [(.int (StrChars.lo8 c0)), (.int (StrChars.hi8 c0)), (.int (StrChars.lo8 c1)), (.int (StrChars.hi8 c1))] (.int 0)
set_option maxRecDepth 65536 in
set_option maxHeartbeats 40000000 in
theorem own_rm_cini2 (l : Launch) (Z : State) (a0 : Array Value) (hw : ∀ d ∈ tables_1, d.before a0 Z = true) (ws : List Jvm.Cond) (a1 : Addr) (a2 : Addr) (c0 c1 : Int32) (kc : ClassId) (G1 : Int32) (h0 : Heap) (n0 : Nat) (Z0 : n0 ≤ h0.size) (F1 : Fld Z h0 a1 "java/lang/String" "value" "[B" .null) (F2 : Fld Z h0 a1 "java/lang/String" "coder" "B" (.int 0)) (E1 : Exa Z h0 a1 "java/lang/String") (g_a1 : n0 ≤ a1) (S1 : Sta Z h0 "java/lang/StringUTF16" "$assertionsDisabled" "Z" (.int 1)) (S2 : Sta Z h0 "java/lang/StringUTF16" "HI_BYTE_SHIFT" "I" (.int 0)) (S3 : Sta Z h0 "java/lang/StringUTF16" "LO_BYTE_SHIFT" "I" (.int 8)) (SC : Sta Z h0 "java/lang/String" "COMPACT_STRINGS" "Z" (.int G1)) (P5 : ¬ (G1 = (0 : Int32))) (Vc : Arv Z h0 a2 kc .char (2 : Int32) [(.int c0), (.int c1)] (.int 0)) (ne12 : a1 ≠ a2) (hr : ∀ c ∈ ([c0, c1] : List Int32), ¬ c < 0 ∧ ¬ (65535 : Int32) < c) (hwd : (255 : Int32) < c0 ∨ (255 : Int32) < c1) :
    MetFree l (⟨"java/lang/String", "<init>", "([C)V"⟩ : MethodName) (head1 (Jvm.Cond.code (⟨"java/lang/String", "<init>", "([C)V"⟩ : MethodName) jdk_42_method_3_code 2 none :: ws) ({ frames := 5, cells := 2, slots := 6, locals := 74 } : Room)) (fun a U => a = #[(.ref a1), (.ref a2)] ∧ Z.Warmed39 U.vm ∧ U.heap = h0) (fun _ _ _ _ _ => True) (fun _ U o U' => ∃ v L, o = .returned v ∧ own_Q_cini2 Z a1 a2 c0 c1 kc G1 h0 n0 v U'.heap L ∧ FrameEnd U o U' L ({ frames := 5, cells := 2, slots := 6, locals := 74 } : Room).cells ({ frames := 5, cells := 2, slots := 6, locals := 74 } : Room).slots) := by
  refine MetFree.of_bodySF (plainFor_of_name own_pn_1) hisR ?_
  intro p e s m args below meth c s₁ Bd hml0 hP hK
  obtain ⟨rfl, hZ, hh⟩ := hP
  have hx := Bd.exec
  have hby := Bd.bytes
  have hml : c.maxLocals = 2 := hml0
  have hown : s.vm.findClass "java/lang/String" = some m.cls := findClass_of_methodNamed Bd.named
  have hnm := (name_of_methodNamed Bd.named Bd.method).1
  have X0 : Stand p l e ({ frames := 5, cells := 2, slots := 6, locals := 74 } : Room) s m #[(.ref a1), (.ref a2)] below meth c s₁ [] 0 0 := Stand.of_body Bd
  have e0 : s₁.heap = h0 := by rw [← hh, Bd.state]; rfl
  have N0 := Fr.nil n0
  refine own_start (own_ef_cini2 m a1 a2 ) ?_
  have K0 : Keep h0 h0 [a1] := Keep.refl _ _
  refine own_of (T' := s₁) (f' := (mkF m 4 #[.val (.ref a1), .val (.ref a2)] [(.ref a2), (.int (0 : Int32)), (.ref a2), (.ref a1)])) (fun t_ k_ => (XS.aloadN X0.here hx rfl (Jvm.hb hby own_d_jdk_42_method_3_code_0) rfl rfl (XS.aloadN X0.here hx rfl (Jvm.hb hby own_d_jdk_42_method_3_code_1) rfl rfl (XS.iconst X0.here hx rfl (Jvm.hb hby own_d_jdk_42_method_3_code_2) (XS.aloadN X0.here hx rfl (Jvm.hb hby own_d_jdk_42_method_3_code_3) rfl rfl k_))))) ?_
  obtain ⟨clz, Arz, -, Szz, Nnz, -⟩ := id Vc
  refine own_of (T' := s₁) (f' := (mkF m 5 #[.val (.ref a1), .val (.ref a2)] [(.int (clz.slots.size).toInt32), (.int (0 : Int32)), (.ref a2), (.ref a1)])) (fun t_ k_ => (X0.arraylength hx (by first | (rw [e0]; exact Arz.1) | exact Arz.1) (State.isArrayOf_alike hZ.alike Arz.2.1) (g := (mkF m 4 #[.val (.ref a1), .val (.ref a2)] [(.ref a2), (.int (0 : Int32)), (.ref a2), (.ref a1)])) rfl rfl (Jvm.hb hby own_d_jdk_42_method_3_code_4) _ k_)) ?_
  rw [len_of Szz Nnz]
  refine own_of (T' := s₁) (f' := (mkF m 6 #[.val (.ref a1), .val (.ref a2)] [.null, (.int (2 : Int32)), (.int (0 : Int32)), (.ref a2), (.ref a1)])) (fun t_ k_ => (XS.aconstNull X0.here hx rfl (Jvm.hb hby own_d_jdk_42_method_3_code_5) k_)) ?_
  obtain ⟨_, _, ⟨T1, L1, k1, n1⟩, -, X1, ⟨Lc1, hQ1, l1, y1, z1⟩, st1⟩ := X0.specialBack hx (y := (⟨"java/lang/String", "<init>", "([CIILjava/lang/Void;)V"⟩ : MethodName)) rfl hown (mvT hZ (hw _ (List.mem_of_getElem? (i := 8) rfl))) (mvT hZ (hw _ (List.mem_of_getElem? (i := 9) rfl))) (mvT hZ (hw _ (List.mem_of_getElem? (i := 11) rfl))) (by decide) (backOf (W := 0) (own_rm_vini2 l Z a0 hw [] a1 a2 (0 : Int32) (2 : Int32) c0 c1 kc G1 h0 n0 Z0 F1 F2 E1 g_a1 S1 S2 S3 SC P5 Vc ne12 rfl rfl hr hwd) hZ (hw _ (List.mem_of_getElem? (i := 11) rfl)) (hw _ (List.mem_of_getElem? (i := 4) rfl)) (by decide) (by decide)) (g := (mkF m 6 #[.val (.ref a1), .val (.ref a2)] [.null, (.int (2 : Int32)), (.int (0 : Int32)), (.ref a2), (.ref a1)])) rfl (by rw [hml]; rfl) (Steps.refl _) (a := a1) (argsL := [(.ref a2), (.int (0 : Int32)), (.int (2 : Int32)), .null]) (rest := []) (lenOf own_pd_7 rfl) rfl (by show 2 * 0 + _ ≤ _; exact Nat.le_of_eq rfl) (Jvm.hb hby own_d_jdk_42_method_3_code_6) (fun _ _ => ⟨rfl, e0, Nat.le_of_ble_eq_true rfl, Nat.le_of_ble_eq_true rfl⟩)
  dsimp only [Pt.U, Pt.locs, Pt.cells, Pt.slots] at X1 l1 y1 z1 st1 hQ1
  subst l1 y1 z1
  obtain ⟨rfl, N1, K1, q1, q2, b, k, q3, q4⟩ := hQ1
  have N2 := Fr.app N0 N1
  have f3 := K0.trans K1 (allS (Or.inl (List.mem_of_getElem? (i := 0) rfl)) all0)
  have f4 := Nat.le_trans Z0 K1.1
  have f5 := E1.keep K1
  refine own_of (T' := T1) (f' := (mkF m 9 #[.val (.ref a1), .val (.ref a2)] [])) (fun t_ k_ => (st1.trans k_)) ?_
  obtain ⟨fs, hr, hrun, hended, hW, hsame⟩ := X1.leave (v := none) (fun _ => rfl)
  exact ⟨_, _, X1.returnOut hx Bd.returns (Jvm.hb hby own_d_jdk_42_method_3_code_9) hr, hrun, hended, _, _, rfl, (by show own_Q_cini2 Z a1 a2 c0 c1 kc G1 h0 n0 _ T1.heap _; exact ⟨rfl, N2, f3, q1, q2, b, k, q3, q4⟩), ⟨_, rfl⟩, hW, hsame.mono (by decide) (by decide)⟩
theorem own_ef_vini3 (m : MethodId) (a1 : Addr) (a2 : Addr) (p3 : Int32) (p4 : Int32) : entryFrame m #[(.ref a1), (.ref a2), (.int p3), (.int p4), .null] 6 = mkF m 0 #[.val (.ref a1), .val (.ref a2), .val (.int p3), .val (.int p4), .val .null, .unset] [] := by first | (simp [entryFrame, mkF, argsToLocals, Value.category]; done) | rfl
def own_Q_vini3 (Z : State) (a1 : Addr) (a2 : Addr) (p3 : Int32) (p4 : Int32) (c0 c1 c2 : Int32) (kc : ClassId) (G1 : Int32) (h0 : Heap) (n0 : Nat) (v : Option Value) (h : Heap) (L : List Loc) : Prop := v = none ∧ Fr n0 L ∧ Keep h0 h [a1] ∧ Exa Z h a1 "java/lang/String" ∧ Fld Z h a1 "java/lang/String" "coder" "B" (.int 1) ∧ ∃ b k, Fld Z h a1 "java/lang/String" "value" "[B" (.ref b) ∧ Arv Z h b k .byte (6 : Int32) [(.int (StrChars.lo8 c0)), (.int (StrChars.hi8 c0)), (.int (StrChars.lo8 c1)), (.int (StrChars.hi8 c1)), (.int (StrChars.lo8 c2)), (.int (StrChars.hi8 c2))] (.int 0)
set_option maxRecDepth 65536 in
set_option maxHeartbeats 40000000 in
theorem own_rm_vini3 (l : Launch) (Z : State) (a0 : Array Value) (hw : ∀ d ∈ tables_1, d.before a0 Z = true) (ws : List Jvm.Cond) (a1 : Addr) (a2 : Addr) (p3 : Int32) (p4 : Int32) (c0 c1 c2 : Int32) (kc : ClassId) (G1 : Int32) (h0 : Heap) (n0 : Nat) (Z0 : n0 ≤ h0.size) (F1 : Fld Z h0 a1 "java/lang/String" "value" "[B" .null) (F2 : Fld Z h0 a1 "java/lang/String" "coder" "B" (.int 0)) (E1 : Exa Z h0 a1 "java/lang/String") (g_a1 : n0 ≤ a1) (S1 : Sta Z h0 "java/lang/StringUTF16" "$assertionsDisabled" "Z" (.int 1)) (S2 : Sta Z h0 "java/lang/StringUTF16" "HI_BYTE_SHIFT" "I" (.int 0)) (S3 : Sta Z h0 "java/lang/StringUTF16" "LO_BYTE_SHIFT" "I" (.int 8)) (SC : Sta Z h0 "java/lang/String" "COMPACT_STRINGS" "Z" (.int G1)) (P5 : ¬ (G1 = (0 : Int32))) (Vc : Arv Z h0 a2 kc .char (3 : Int32) [(.int c0), (.int c1), (.int c2)] (.int 0)) (ne12 : a1 ≠ a2) (hp3 : p3 = 0) (hp4 : p4 = (3 : Int32)) (hr : ∀ c ∈ ([c0, c1, c2] : List Int32), ¬ c < 0 ∧ ¬ (65535 : Int32) < c) (hwd : (255 : Int32) < c0 ∨ (255 : Int32) < c1 ∨ (255 : Int32) < c2) :
    MetFree l (⟨"java/lang/String", "<init>", "([CIILjava/lang/Void;)V"⟩ : MethodName) (head1 (Jvm.Cond.code (⟨"java/lang/String", "<init>", "([CIILjava/lang/Void;)V"⟩ : MethodName) jdk_42_method_149_code 6 none :: ws) ({ frames := 4, cells := 2, slots := 9, locals := 57 } : Room)) (fun a U => a = #[(.ref a1), (.ref a2), (.int p3), (.int p4), .null] ∧ Z.Warmed39 U.vm ∧ U.heap = h0) (fun _ _ _ _ _ => True) (fun _ U o U' => ∃ v L, o = .returned v ∧ own_Q_vini3 Z a1 a2 p3 p4 c0 c1 c2 kc G1 h0 n0 v U'.heap L ∧ FrameEnd U o U' L ({ frames := 4, cells := 2, slots := 9, locals := 57 } : Room).cells ({ frames := 4, cells := 2, slots := 9, locals := 57 } : Room).slots) := by
  refine MetFree.of_bodySF (plainFor_of_name own_pn_1) hisR ?_
  intro p e s m args below meth c s₁ Bd hml0 hP hK
  obtain ⟨rfl, hZ, hh⟩ := hP
  have hx := Bd.exec
  have hby := Bd.bytes
  have hml : c.maxLocals = 6 := hml0
  have hown : s.vm.findClass "java/lang/String" = some m.cls := findClass_of_methodNamed Bd.named
  have hnm := (name_of_methodNamed Bd.named Bd.method).1
  have X0 : Stand p l e ({ frames := 4, cells := 2, slots := 9, locals := 57 } : Room) s m #[(.ref a1), (.ref a2), (.int p3), (.int p4), .null] below meth c s₁ [] 0 0 := Stand.of_body Bd
  have e0 : s₁.heap = h0 := by rw [← hh, Bd.state]; rfl
  have N0 := Fr.nil n0
  refine own_start (own_ef_vini3 m a1 a2 p3 p4 ) ?_
  subst hp3 hp4
  have K0 : Keep h0 h0 [a1] := Keep.refl _ _
  obtain ⟨T1, X1, e1, st1⟩ := initO X0 hx hZ hown (hw _ (List.mem_of_getElem? (i := 12) rfl)) (hw _ (List.mem_of_getElem? (i := 13) rfl)) (hw _ (List.mem_of_getElem? (i := 14) rfl)) e0 (g := (mkF m 1 #[.val (.ref a1), .val (.ref a2), .val (.int (0 : Int32)), .val (.int (3 : Int32)), .val .null, .unset] [(.ref a1)])) rfl (by rw [hml]; rfl) rfl (Jvm.hb hby own_d_jdk_42_method_149_code_1) (by decide) (W := 0) (by show 2 * 0 + _ ≤ _; exact Nat.le_of_eq rfl) (by decide)
  obtain ⟨T2, X2, e2, st2⟩ := getS2 X1 hx hZ hown (host := "") (Or.inl (hw _ (List.mem_of_getElem? (i := 15) rfl))) Via.refl e1 SC (g := (mkF m 27 #[.val (.ref a1), .val (.ref a2), .val (.int (0 : Int32)), .val (.int (3 : Int32)), .val .null, .unset] [])) rfl (Jvm.hb hby own_d_jdk_42_method_149_code_27)
  refine own_of (T' := T2) (f' := (mkF m 35 #[.val (.ref a1), .val (.ref a2), .val (.int (0 : Int32)), .val (.int (3 : Int32)), .val .null, .unset] [(.int (0 : Int32)), (.ref a2)])) (fun t_ k_ => (XS.aloadN X0.here hx rfl (Jvm.hb hby own_d_jdk_42_method_149_code_0) rfl rfl (st1 _ (XS.iloadN X1.here hx rfl (Jvm.hb hby own_d_jdk_42_method_149_code_4) rfl (XS.ifYes X1.here hx rfl (pc0 := 5) (pc' := 27) rfl (Jvm.hb hby own_d_jdk_42_method_149_code_5) rfl ((if0 _ _).trans (feq (by decide)).2) (by decide) (by decide) (st2 _ (XS.ifNo X2.here hx rfl (Jvm.hb hby own_d_jdk_42_method_149_code_30) rfl ((if0 _ _).trans (feq P5).1) (XS.aloadN X2.here hx rfl (Jvm.hb hby own_d_jdk_42_method_149_code_33) rfl rfl (XS.iloadN X2.here hx rfl (Jvm.hb hby own_d_jdk_42_method_149_code_34) rfl k_))))))))) ?_
  refine own_of (T' := T2) (f' := (mkF m 36 #[.val (.ref a1), .val (.ref a2), .val (.int (0 : Int32)), .val (.int (3 : Int32)), .val .null, .unset] [(.int (3 : Int32)), (.int (0 : Int32)), (.ref a2)])) (fun t_ k_ => (XS.iloadN X2.here hx rfl (Jvm.hb hby own_d_jdk_42_method_149_code_35) rfl k_)) ?_
  obtain ⟨_, _, ⟨T3, L3, k3, n3⟩, -, X3, ⟨Lc3, hQ3, l3, y3, z3⟩, st3⟩ := Jvm.LawKit.callS X2 hx (y := (⟨"java/lang/StringUTF16", "compress", "([CII)[B"⟩ : MethodName)) hown (mvT hZ (hw _ (List.mem_of_getElem? (i := 16) rfl))) (mvT hZ (hw _ (List.mem_of_getElem? (i := 17) rfl))) (mvT hZ (hw _ (List.mem_of_getElem? (i := 18) rfl))) (mvT hZ (hw _ (List.mem_of_getElem? (i := 19) rfl))) (by decide) (backOf (W := 0) (own_rm_cp3_3 l Z a0 hw [] a2 (0 : Int32) (3 : Int32) c0 c1 c2 kc h0 n0 Z0 S1 S2 S3 Vc rfl rfl hr hwd) hZ (hw _ (List.mem_of_getElem? (i := 19) rfl)) (hw _ (List.mem_of_getElem? (i := 18) rfl)) (by decide) (by decide)) (g := (mkF m 36 #[.val (.ref a1), .val (.ref a2), .val (.int (0 : Int32)), .val (.int (3 : Int32)), .val .null, .unset] [(.int (3 : Int32)), (.int (0 : Int32)), (.ref a2)])) rfl (by rw [hml]; rfl) (argsL := [(.ref a2), (.int (0 : Int32)), (.int (3 : Int32))]) (rest := []) (lenOf own_pd_4 rfl) rfl (by show 2 * 0 + _ ≤ _; exact Nat.le_of_eq rfl) (Jvm.hb hby own_d_jdk_42_method_149_code_36) (fun _ _ => ⟨rfl, e2, Nat.le_of_ble_eq_true rfl, Nat.le_of_ble_eq_true rfl⟩)
  dsimp only [Pt.U, Pt.locs, Pt.cells, Pt.slots] at X3 l3 y3 z3 st3 hQ3
  subst l3 y3 z3
  obtain ⟨b, kb, rfl, N3, K3, szb, Eb, Vb⟩ := hQ3
  have ne_a1_b : a1 ≠ b := Nat.ne_of_lt (Nat.lt_of_lt_of_le E1.lt szb)
  have ne_a2_b : a2 ≠ b := Nat.ne_of_lt (Nat.lt_of_lt_of_le Vc.lt szb)
  have g_b : n0 ≤ b := Nat.le_trans Z0 szb
  have sz_b : h0.size ≤ b := Nat.le_trans K0.1 szb
  have N4 := Fr.app N0 N3
  have f5 := K0.trans K3 all0
  have f6 := Nat.le_trans Z0 K3.1
  have f7 := E1.keep K3
  have f8 := F1.keep K3 nin0
  have f9 := F2.keep K3 nin0
  have f10 := own_stakeep S1 K3 all0
  have f11 := own_stakeep S2 K3 all0
  have f12 := own_stakeep S3 K3 all0
  have f13 := own_stakeep SC K3 all0
  have f14 := Vc.keep K3 nin0
  refine own_of (T' := T3) (f' := (mkF m 45 #[.val (.ref a1), .val (.ref a2), .val (.int (0 : Int32)), .val (.int (3 : Int32)), .val .null, .val (.ref b)] [(.int (3 : Int32)), (.ref b), (.ref a1)])) (fun t_ k_ => (st3 _ (XS.astore X3.here hx rfl (Jvm.hb hby own_d_jdk_42_method_149_code_39) rfl rfl (l' := #[.val (.ref a1), .val (.ref a2), .val (.int (0 : Int32)), .val (.int (3 : Int32)), .val .null, .val (.ref b)]) rfl (XS.aloadN X3.here hx rfl (Jvm.hb hby own_d_jdk_42_method_149_code_41) rfl rfl (XS.aload X3.here hx rfl (Jvm.hb hby own_d_jdk_42_method_149_code_42) rfl rfl (XS.iloadN X3.here hx rfl (Jvm.hb hby own_d_jdk_42_method_149_code_44) rfl k_)))))) ?_
  obtain ⟨_, _, ⟨T15, L15, k15, n15⟩, -, X15, ⟨Lc15, hQ15, l15, y15, z15⟩, st15⟩ := Jvm.LawKit.callS X3 hx (y := (⟨"java/lang/StringUTF16", "coderFromArrayLen", "([BI)B"⟩ : MethodName)) hown (mvT hZ (hw _ (List.mem_of_getElem? (i := 24) rfl))) (mvT hZ (hw _ (List.mem_of_getElem? (i := 25) rfl))) (mvT hZ (hw _ (List.mem_of_getElem? (i := 18) rfl))) (mvT hZ (hw _ (List.mem_of_getElem? (i := 26) rfl))) (by decide) (backOf (W := 1) (own_rm_cfl l Z a0 hw [] b (3 : Int32) kb (6 : Int32) [(.int (StrChars.lo8 c0)), (.int (StrChars.hi8 c0)), (.int (StrChars.lo8 c1)), (.int (StrChars.hi8 c1)), (.int (StrChars.lo8 c2)), (.int (StrChars.hi8 c2))] T3.heap n0 f6 Vb (by decide)) hZ (hw _ (List.mem_of_getElem? (i := 26) rfl)) (hw _ (List.mem_of_getElem? (i := 18) rfl)) (by decide) (by decide)) (g := (mkF m 45 #[.val (.ref a1), .val (.ref a2), .val (.int (0 : Int32)), .val (.int (3 : Int32)), .val .null, .val (.ref b)] [(.int (3 : Int32)), (.ref b), (.ref a1)])) rfl (by rw [hml]; rfl) (argsL := [(.ref b), (.int (3 : Int32))]) (rest := [(.ref a1)]) (lenOf own_pd_6 rfl) rfl (by show 2 * 0 + _ ≤ _; exact Nat.le_of_eq rfl) (Jvm.hb hby own_d_jdk_42_method_149_code_45) (fun _ _ => ⟨rfl, rfl, Nat.le_of_ble_eq_true rfl, Nat.le_of_ble_eq_true rfl⟩)
  dsimp only [Pt.U, Pt.locs, Pt.cells, Pt.slots] at X15 l15 y15 z15 st15 hQ15
  subst l15 y15 z15
  obtain ⟨rfl, N15, e15⟩ := hQ15
  have N16 := Fr.app N4 N15
  obtain ⟨T17, h17, X17, e17, W17, st17⟩ := putF X15 hx hZ hown (host := "") (Or.inl (hw _ (List.mem_of_getElem? (i := 27) rfl))) Via.refl e15 f9 f7 (Or.inr ⟨(hw _ (List.mem_of_getElem? (i := 28) rfl)), rfl, hnm⟩) (hw _ (List.mem_of_getElem? (i := 3) rfl)) (ty := .byte) (by decide) rfl rfl (g := (mkF m 48 #[.val (.ref a1), .val (.ref a2), .val (.int (0 : Int32)), .val (.int (3 : Int32)), .val .null, .val (.ref b)] [(.int (1 : Int32)), (.ref a1)])) rfl rfl (Jvm.hb hby own_d_jdk_42_method_149_code_48)
  refine own_of (T' := T17) (f' := (mkF m 51 #[.val (.ref a1), .val (.ref a2), .val (.int (0 : Int32)), .val (.int (3 : Int32)), .val .null, .val (.ref b)] [])) (fun t_ k_ => (st15 _ (st17 _ k_))) ?_
  have N17 := Fr.snoc X17 N16 g_a1
  have f18 := f5.wr W17 (Or.inl (List.mem_of_getElem? (i := 0) rfl))
  have f19 := Nat.le_trans f6 (Keep.of_wr W17).1
  have f20 := f7.wr W17
  have f21 := f8.other W17 (Or.inr (slot_ne (Or.inr (hw _ (List.mem_of_getElem? (i := 30) rfl))) (Or.inr (hw _ (List.mem_of_getElem? (i := 28) rfl))) (by decide) (t := (.array .byte)) (t' := .byte) (by decide) (by decide)))
  have f22 := f9.same W17
  have f23 := f10.wr W17
  have f24 := f11.wr W17
  have f25 := f12.wr W17
  have f26 := f13.wr W17
  have f27 := f14.other W17 (Ne.symm ne12)
  have f28 := Eb.wr W17
  have f29 := Vb.other W17 (Ne.symm ne_a1_b)
  obtain ⟨T30, h30, X30, e30, W30, st30⟩ := putF X17 hx hZ hown (host := "") (Or.inl (hw _ (List.mem_of_getElem? (i := 29) rfl))) Via.refl e17 f21 f20 (Or.inr ⟨(hw _ (List.mem_of_getElem? (i := 30) rfl)), rfl, hnm⟩) (hw _ (List.mem_of_getElem? (i := 3) rfl)) (ty := (.array .byte)) (by decide) rfl rfl (g := (mkF m 54 #[.val (.ref a1), .val (.ref a2), .val (.int (0 : Int32)), .val (.int (3 : Int32)), .val .null, .val (.ref b)] [(.ref b), (.ref a1)])) rfl rfl (Jvm.hb hby own_d_jdk_42_method_149_code_54)
  refine own_of (T' := T30) (f' := (mkF m 57 #[.val (.ref a1), .val (.ref a2), .val (.int (0 : Int32)), .val (.int (3 : Int32)), .val .null, .val (.ref b)] [])) (fun t_ k_ => (XS.aloadN X17.here hx rfl (Jvm.hb hby own_d_jdk_42_method_149_code_51) rfl rfl (XS.aload X17.here hx rfl (Jvm.hb hby own_d_jdk_42_method_149_code_52) rfl rfl (st30 _ k_)))) ?_
  have N30 := Fr.snoc X30 N17 g_a1
  have f31 := f18.wr W30 (Or.inl (List.mem_of_getElem? (i := 0) rfl))
  have f32 := Nat.le_trans f19 (Keep.of_wr W30).1
  have f33 := f20.wr W30
  have f34 := f21.same W30
  have f35 := f22.other W30 (Or.inr (slot_ne (Or.inr (hw _ (List.mem_of_getElem? (i := 28) rfl))) (Or.inr (hw _ (List.mem_of_getElem? (i := 30) rfl))) (by decide) (t := .byte) (t' := (.array .byte)) (by decide) (by decide)))
  have f36 := f23.wr W30
  have f37 := f24.wr W30
  have f38 := f25.wr W30
  have f39 := f26.wr W30
  have f40 := f27.other W30 (Ne.symm ne12)
  have f41 := f28.wr W30
  have f42 := f29.other W30 (Ne.symm ne_a1_b)
  obtain ⟨fs, hr, hrun, hended, hW, hsame⟩ := X30.leave (v := none) (fun _ => rfl)
  exact ⟨_, _, X30.returnOut hx Bd.returns (Jvm.hb hby own_d_jdk_42_method_149_code_57) hr, hrun, hended, _, _, rfl, (by show own_Q_vini3 Z a1 a2 0 (3 : Int32) c0 c1 c2 kc G1 h0 n0 _ T30.heap _; rw [e30]; exact ⟨rfl, N30, f31, f33, f35, b, kb, f34, f42⟩), ⟨_, rfl⟩, hW, hsame.mono (by decide) (by decide)⟩
theorem own_ef_cini3 (m : MethodId) (a1 : Addr) (a2 : Addr) : entryFrame m #[(.ref a1), (.ref a2)] 2 = mkF m 0 #[.val (.ref a1), .val (.ref a2)] [] := by first | (simp [entryFrame, mkF, argsToLocals, Value.category]; done) | rfl
def own_Q_cini3 (Z : State) (a1 : Addr) (a2 : Addr) (c0 c1 c2 : Int32) (kc : ClassId) (G1 : Int32) (h0 : Heap) (n0 : Nat) (v : Option Value) (h : Heap) (L : List Loc) : Prop := v = none ∧ Fr n0 L ∧ Keep h0 h [a1] ∧ Exa Z h a1 "java/lang/String" ∧ Fld Z h a1 "java/lang/String" "coder" "B" (.int 1) ∧ ∃ b k, Fld Z h a1 "java/lang/String" "value" "[B" (.ref b) ∧ Arv Z h b k .byte (6 : Int32) [(.int (StrChars.lo8 c0)), (.int (StrChars.hi8 c0)), (.int (StrChars.lo8 c1)), (.int (StrChars.hi8 c1)), (.int (StrChars.lo8 c2)), (.int (StrChars.hi8 c2))] (.int 0)
set_option maxRecDepth 65536 in
set_option maxHeartbeats 40000000 in
theorem own_rm_cini3 (l : Launch) (Z : State) (a0 : Array Value) (hw : ∀ d ∈ tables_1, d.before a0 Z = true) (ws : List Jvm.Cond) (a1 : Addr) (a2 : Addr) (c0 c1 c2 : Int32) (kc : ClassId) (G1 : Int32) (h0 : Heap) (n0 : Nat) (Z0 : n0 ≤ h0.size) (F1 : Fld Z h0 a1 "java/lang/String" "value" "[B" .null) (F2 : Fld Z h0 a1 "java/lang/String" "coder" "B" (.int 0)) (E1 : Exa Z h0 a1 "java/lang/String") (g_a1 : n0 ≤ a1) (S1 : Sta Z h0 "java/lang/StringUTF16" "$assertionsDisabled" "Z" (.int 1)) (S2 : Sta Z h0 "java/lang/StringUTF16" "HI_BYTE_SHIFT" "I" (.int 0)) (S3 : Sta Z h0 "java/lang/StringUTF16" "LO_BYTE_SHIFT" "I" (.int 8)) (SC : Sta Z h0 "java/lang/String" "COMPACT_STRINGS" "Z" (.int G1)) (P5 : ¬ (G1 = (0 : Int32))) (Vc : Arv Z h0 a2 kc .char (3 : Int32) [(.int c0), (.int c1), (.int c2)] (.int 0)) (ne12 : a1 ≠ a2) (hr : ∀ c ∈ ([c0, c1, c2] : List Int32), ¬ c < 0 ∧ ¬ (65535 : Int32) < c) (hwd : (255 : Int32) < c0 ∨ (255 : Int32) < c1 ∨ (255 : Int32) < c2) :
    MetFree l (⟨"java/lang/String", "<init>", "([C)V"⟩ : MethodName) (head1 (Jvm.Cond.code (⟨"java/lang/String", "<init>", "([C)V"⟩ : MethodName) jdk_42_method_3_code 2 none :: ws) ({ frames := 5, cells := 2, slots := 9, locals := 74 } : Room)) (fun a U => a = #[(.ref a1), (.ref a2)] ∧ Z.Warmed39 U.vm ∧ U.heap = h0) (fun _ _ _ _ _ => True) (fun _ U o U' => ∃ v L, o = .returned v ∧ own_Q_cini3 Z a1 a2 c0 c1 c2 kc G1 h0 n0 v U'.heap L ∧ FrameEnd U o U' L ({ frames := 5, cells := 2, slots := 9, locals := 74 } : Room).cells ({ frames := 5, cells := 2, slots := 9, locals := 74 } : Room).slots) := by
  refine MetFree.of_bodySF (plainFor_of_name own_pn_1) hisR ?_
  intro p e s m args below meth c s₁ Bd hml0 hP hK
  obtain ⟨rfl, hZ, hh⟩ := hP
  have hx := Bd.exec
  have hby := Bd.bytes
  have hml : c.maxLocals = 2 := hml0
  have hown : s.vm.findClass "java/lang/String" = some m.cls := findClass_of_methodNamed Bd.named
  have hnm := (name_of_methodNamed Bd.named Bd.method).1
  have X0 : Stand p l e ({ frames := 5, cells := 2, slots := 9, locals := 74 } : Room) s m #[(.ref a1), (.ref a2)] below meth c s₁ [] 0 0 := Stand.of_body Bd
  have e0 : s₁.heap = h0 := by rw [← hh, Bd.state]; rfl
  have N0 := Fr.nil n0
  refine own_start (own_ef_cini3 m a1 a2 ) ?_
  have K0 : Keep h0 h0 [a1] := Keep.refl _ _
  refine own_of (T' := s₁) (f' := (mkF m 4 #[.val (.ref a1), .val (.ref a2)] [(.ref a2), (.int (0 : Int32)), (.ref a2), (.ref a1)])) (fun t_ k_ => (XS.aloadN X0.here hx rfl (Jvm.hb hby own_d_jdk_42_method_3_code_0) rfl rfl (XS.aloadN X0.here hx rfl (Jvm.hb hby own_d_jdk_42_method_3_code_1) rfl rfl (XS.iconst X0.here hx rfl (Jvm.hb hby own_d_jdk_42_method_3_code_2) (XS.aloadN X0.here hx rfl (Jvm.hb hby own_d_jdk_42_method_3_code_3) rfl rfl k_))))) ?_
  obtain ⟨clz, Arz, -, Szz, Nnz, -⟩ := id Vc
  refine own_of (T' := s₁) (f' := (mkF m 5 #[.val (.ref a1), .val (.ref a2)] [(.int (clz.slots.size).toInt32), (.int (0 : Int32)), (.ref a2), (.ref a1)])) (fun t_ k_ => (X0.arraylength hx (by first | (rw [e0]; exact Arz.1) | exact Arz.1) (State.isArrayOf_alike hZ.alike Arz.2.1) (g := (mkF m 4 #[.val (.ref a1), .val (.ref a2)] [(.ref a2), (.int (0 : Int32)), (.ref a2), (.ref a1)])) rfl rfl (Jvm.hb hby own_d_jdk_42_method_3_code_4) _ k_)) ?_
  rw [len_of Szz Nnz]
  refine own_of (T' := s₁) (f' := (mkF m 6 #[.val (.ref a1), .val (.ref a2)] [.null, (.int (3 : Int32)), (.int (0 : Int32)), (.ref a2), (.ref a1)])) (fun t_ k_ => (XS.aconstNull X0.here hx rfl (Jvm.hb hby own_d_jdk_42_method_3_code_5) k_)) ?_
  obtain ⟨_, _, ⟨T1, L1, k1, n1⟩, -, X1, ⟨Lc1, hQ1, l1, y1, z1⟩, st1⟩ := X0.specialBack hx (y := (⟨"java/lang/String", "<init>", "([CIILjava/lang/Void;)V"⟩ : MethodName)) rfl hown (mvT hZ (hw _ (List.mem_of_getElem? (i := 8) rfl))) (mvT hZ (hw _ (List.mem_of_getElem? (i := 9) rfl))) (mvT hZ (hw _ (List.mem_of_getElem? (i := 11) rfl))) (by decide) (backOf (W := 0) (own_rm_vini3 l Z a0 hw [] a1 a2 (0 : Int32) (3 : Int32) c0 c1 c2 kc G1 h0 n0 Z0 F1 F2 E1 g_a1 S1 S2 S3 SC P5 Vc ne12 rfl rfl hr hwd) hZ (hw _ (List.mem_of_getElem? (i := 11) rfl)) (hw _ (List.mem_of_getElem? (i := 4) rfl)) (by decide) (by decide)) (g := (mkF m 6 #[.val (.ref a1), .val (.ref a2)] [.null, (.int (3 : Int32)), (.int (0 : Int32)), (.ref a2), (.ref a1)])) rfl (by rw [hml]; rfl) (Steps.refl _) (a := a1) (argsL := [(.ref a2), (.int (0 : Int32)), (.int (3 : Int32)), .null]) (rest := []) (lenOf own_pd_7 rfl) rfl (by show 2 * 0 + _ ≤ _; exact Nat.le_of_eq rfl) (Jvm.hb hby own_d_jdk_42_method_3_code_6) (fun _ _ => ⟨rfl, e0, Nat.le_of_ble_eq_true rfl, Nat.le_of_ble_eq_true rfl⟩)
  dsimp only [Pt.U, Pt.locs, Pt.cells, Pt.slots] at X1 l1 y1 z1 st1 hQ1
  subst l1 y1 z1
  obtain ⟨rfl, N1, K1, q1, q2, b, k, q3, q4⟩ := hQ1
  have N2 := Fr.app N0 N1
  have f3 := K0.trans K1 (allS (Or.inl (List.mem_of_getElem? (i := 0) rfl)) all0)
  have f4 := Nat.le_trans Z0 K1.1
  have f5 := E1.keep K1
  refine own_of (T' := T1) (f' := (mkF m 9 #[.val (.ref a1), .val (.ref a2)] [])) (fun t_ k_ => (st1.trans k_)) ?_
  obtain ⟨fs, hr, hrun, hended, hW, hsame⟩ := X1.leave (v := none) (fun _ => rfl)
  exact ⟨_, _, X1.returnOut hx Bd.returns (Jvm.hb hby own_d_jdk_42_method_3_code_9) hr, hrun, hended, _, _, rfl, (by show own_Q_cini3 Z a1 a2 c0 c1 c2 kc G1 h0 n0 _ T1.heap _; exact ⟨rfl, N2, f3, q1, q2, b, k, q3, q4⟩), ⟨_, rfl⟩, hW, hsame.mono (by decide) (by decide)⟩
theorem own_ef_vini4 (m : MethodId) (a1 : Addr) (a2 : Addr) (p3 : Int32) (p4 : Int32) : entryFrame m #[(.ref a1), (.ref a2), (.int p3), (.int p4), .null] 6 = mkF m 0 #[.val (.ref a1), .val (.ref a2), .val (.int p3), .val (.int p4), .val .null, .unset] [] := by first | (simp [entryFrame, mkF, argsToLocals, Value.category]; done) | rfl
def own_Q_vini4 (Z : State) (a1 : Addr) (a2 : Addr) (p3 : Int32) (p4 : Int32) (c0 c1 c2 c3 : Int32) (kc : ClassId) (G1 : Int32) (h0 : Heap) (n0 : Nat) (v : Option Value) (h : Heap) (L : List Loc) : Prop := v = none ∧ Fr n0 L ∧ Keep h0 h [a1] ∧ Exa Z h a1 "java/lang/String" ∧ Fld Z h a1 "java/lang/String" "coder" "B" (.int 1) ∧ ∃ b k, Fld Z h a1 "java/lang/String" "value" "[B" (.ref b) ∧ Arv Z h b k .byte (8 : Int32) [(.int (StrChars.lo8 c0)), (.int (StrChars.hi8 c0)), (.int (StrChars.lo8 c1)), (.int (StrChars.hi8 c1)), (.int (StrChars.lo8 c2)), (.int (StrChars.hi8 c2)), (.int (StrChars.lo8 c3)), (.int (StrChars.hi8 c3))] (.int 0)
set_option maxRecDepth 65536 in
set_option maxHeartbeats 40000000 in
theorem own_rm_vini4 (l : Launch) (Z : State) (a0 : Array Value) (hw : ∀ d ∈ tables_1, d.before a0 Z = true) (ws : List Jvm.Cond) (a1 : Addr) (a2 : Addr) (p3 : Int32) (p4 : Int32) (c0 c1 c2 c3 : Int32) (kc : ClassId) (G1 : Int32) (h0 : Heap) (n0 : Nat) (Z0 : n0 ≤ h0.size) (F1 : Fld Z h0 a1 "java/lang/String" "value" "[B" .null) (F2 : Fld Z h0 a1 "java/lang/String" "coder" "B" (.int 0)) (E1 : Exa Z h0 a1 "java/lang/String") (g_a1 : n0 ≤ a1) (S1 : Sta Z h0 "java/lang/StringUTF16" "$assertionsDisabled" "Z" (.int 1)) (S2 : Sta Z h0 "java/lang/StringUTF16" "HI_BYTE_SHIFT" "I" (.int 0)) (S3 : Sta Z h0 "java/lang/StringUTF16" "LO_BYTE_SHIFT" "I" (.int 8)) (SC : Sta Z h0 "java/lang/String" "COMPACT_STRINGS" "Z" (.int G1)) (P5 : ¬ (G1 = (0 : Int32))) (Vc : Arv Z h0 a2 kc .char (4 : Int32) [(.int c0), (.int c1), (.int c2), (.int c3)] (.int 0)) (ne12 : a1 ≠ a2) (hp3 : p3 = 0) (hp4 : p4 = (4 : Int32)) (hr : ∀ c ∈ ([c0, c1, c2, c3] : List Int32), ¬ c < 0 ∧ ¬ (65535 : Int32) < c) (hwd : (255 : Int32) < c0 ∨ (255 : Int32) < c1 ∨ (255 : Int32) < c2 ∨ (255 : Int32) < c3) :
    MetFree l (⟨"java/lang/String", "<init>", "([CIILjava/lang/Void;)V"⟩ : MethodName) (head1 (Jvm.Cond.code (⟨"java/lang/String", "<init>", "([CIILjava/lang/Void;)V"⟩ : MethodName) jdk_42_method_149_code 6 none :: ws) ({ frames := 4, cells := 2, slots := 12, locals := 57 } : Room)) (fun a U => a = #[(.ref a1), (.ref a2), (.int p3), (.int p4), .null] ∧ Z.Warmed39 U.vm ∧ U.heap = h0) (fun _ _ _ _ _ => True) (fun _ U o U' => ∃ v L, o = .returned v ∧ own_Q_vini4 Z a1 a2 p3 p4 c0 c1 c2 c3 kc G1 h0 n0 v U'.heap L ∧ FrameEnd U o U' L ({ frames := 4, cells := 2, slots := 12, locals := 57 } : Room).cells ({ frames := 4, cells := 2, slots := 12, locals := 57 } : Room).slots) := by
  refine MetFree.of_bodySF (plainFor_of_name own_pn_1) hisR ?_
  intro p e s m args below meth c s₁ Bd hml0 hP hK
  obtain ⟨rfl, hZ, hh⟩ := hP
  have hx := Bd.exec
  have hby := Bd.bytes
  have hml : c.maxLocals = 6 := hml0
  have hown : s.vm.findClass "java/lang/String" = some m.cls := findClass_of_methodNamed Bd.named
  have hnm := (name_of_methodNamed Bd.named Bd.method).1
  have X0 : Stand p l e ({ frames := 4, cells := 2, slots := 12, locals := 57 } : Room) s m #[(.ref a1), (.ref a2), (.int p3), (.int p4), .null] below meth c s₁ [] 0 0 := Stand.of_body Bd
  have e0 : s₁.heap = h0 := by rw [← hh, Bd.state]; rfl
  have N0 := Fr.nil n0
  refine own_start (own_ef_vini4 m a1 a2 p3 p4 ) ?_
  subst hp3 hp4
  have K0 : Keep h0 h0 [a1] := Keep.refl _ _
  obtain ⟨T1, X1, e1, st1⟩ := initO X0 hx hZ hown (hw _ (List.mem_of_getElem? (i := 12) rfl)) (hw _ (List.mem_of_getElem? (i := 13) rfl)) (hw _ (List.mem_of_getElem? (i := 14) rfl)) e0 (g := (mkF m 1 #[.val (.ref a1), .val (.ref a2), .val (.int (0 : Int32)), .val (.int (4 : Int32)), .val .null, .unset] [(.ref a1)])) rfl (by rw [hml]; rfl) rfl (Jvm.hb hby own_d_jdk_42_method_149_code_1) (by decide) (W := 0) (by show 2 * 0 + _ ≤ _; exact Nat.le_of_eq rfl) (by decide)
  obtain ⟨T2, X2, e2, st2⟩ := getS2 X1 hx hZ hown (host := "") (Or.inl (hw _ (List.mem_of_getElem? (i := 15) rfl))) Via.refl e1 SC (g := (mkF m 27 #[.val (.ref a1), .val (.ref a2), .val (.int (0 : Int32)), .val (.int (4 : Int32)), .val .null, .unset] [])) rfl (Jvm.hb hby own_d_jdk_42_method_149_code_27)
  refine own_of (T' := T2) (f' := (mkF m 35 #[.val (.ref a1), .val (.ref a2), .val (.int (0 : Int32)), .val (.int (4 : Int32)), .val .null, .unset] [(.int (0 : Int32)), (.ref a2)])) (fun t_ k_ => (XS.aloadN X0.here hx rfl (Jvm.hb hby own_d_jdk_42_method_149_code_0) rfl rfl (st1 _ (XS.iloadN X1.here hx rfl (Jvm.hb hby own_d_jdk_42_method_149_code_4) rfl (XS.ifYes X1.here hx rfl (pc0 := 5) (pc' := 27) rfl (Jvm.hb hby own_d_jdk_42_method_149_code_5) rfl ((if0 _ _).trans (feq (by decide)).2) (by decide) (by decide) (st2 _ (XS.ifNo X2.here hx rfl (Jvm.hb hby own_d_jdk_42_method_149_code_30) rfl ((if0 _ _).trans (feq P5).1) (XS.aloadN X2.here hx rfl (Jvm.hb hby own_d_jdk_42_method_149_code_33) rfl rfl (XS.iloadN X2.here hx rfl (Jvm.hb hby own_d_jdk_42_method_149_code_34) rfl k_))))))))) ?_
  refine own_of (T' := T2) (f' := (mkF m 36 #[.val (.ref a1), .val (.ref a2), .val (.int (0 : Int32)), .val (.int (4 : Int32)), .val .null, .unset] [(.int (4 : Int32)), (.int (0 : Int32)), (.ref a2)])) (fun t_ k_ => (XS.iloadN X2.here hx rfl (Jvm.hb hby own_d_jdk_42_method_149_code_35) rfl k_)) ?_
  obtain ⟨_, _, ⟨T3, L3, k3, n3⟩, -, X3, ⟨Lc3, hQ3, l3, y3, z3⟩, st3⟩ := Jvm.LawKit.callS X2 hx (y := (⟨"java/lang/StringUTF16", "compress", "([CII)[B"⟩ : MethodName)) hown (mvT hZ (hw _ (List.mem_of_getElem? (i := 16) rfl))) (mvT hZ (hw _ (List.mem_of_getElem? (i := 17) rfl))) (mvT hZ (hw _ (List.mem_of_getElem? (i := 18) rfl))) (mvT hZ (hw _ (List.mem_of_getElem? (i := 19) rfl))) (by decide) (backOf (W := 0) (own_rm_cp3_4 l Z a0 hw [] a2 (0 : Int32) (4 : Int32) c0 c1 c2 c3 kc h0 n0 Z0 S1 S2 S3 Vc rfl rfl hr hwd) hZ (hw _ (List.mem_of_getElem? (i := 19) rfl)) (hw _ (List.mem_of_getElem? (i := 18) rfl)) (by decide) (by decide)) (g := (mkF m 36 #[.val (.ref a1), .val (.ref a2), .val (.int (0 : Int32)), .val (.int (4 : Int32)), .val .null, .unset] [(.int (4 : Int32)), (.int (0 : Int32)), (.ref a2)])) rfl (by rw [hml]; rfl) (argsL := [(.ref a2), (.int (0 : Int32)), (.int (4 : Int32))]) (rest := []) (lenOf own_pd_4 rfl) rfl (by show 2 * 0 + _ ≤ _; exact Nat.le_of_eq rfl) (Jvm.hb hby own_d_jdk_42_method_149_code_36) (fun _ _ => ⟨rfl, e2, Nat.le_of_ble_eq_true rfl, Nat.le_of_ble_eq_true rfl⟩)
  dsimp only [Pt.U, Pt.locs, Pt.cells, Pt.slots] at X3 l3 y3 z3 st3 hQ3
  subst l3 y3 z3
  obtain ⟨b, kb, rfl, N3, K3, szb, Eb, Vb⟩ := hQ3
  have ne_a1_b : a1 ≠ b := Nat.ne_of_lt (Nat.lt_of_lt_of_le E1.lt szb)
  have ne_a2_b : a2 ≠ b := Nat.ne_of_lt (Nat.lt_of_lt_of_le Vc.lt szb)
  have g_b : n0 ≤ b := Nat.le_trans Z0 szb
  have sz_b : h0.size ≤ b := Nat.le_trans K0.1 szb
  have N4 := Fr.app N0 N3
  have f5 := K0.trans K3 all0
  have f6 := Nat.le_trans Z0 K3.1
  have f7 := E1.keep K3
  have f8 := F1.keep K3 nin0
  have f9 := F2.keep K3 nin0
  have f10 := own_stakeep S1 K3 all0
  have f11 := own_stakeep S2 K3 all0
  have f12 := own_stakeep S3 K3 all0
  have f13 := own_stakeep SC K3 all0
  have f14 := Vc.keep K3 nin0
  refine own_of (T' := T3) (f' := (mkF m 45 #[.val (.ref a1), .val (.ref a2), .val (.int (0 : Int32)), .val (.int (4 : Int32)), .val .null, .val (.ref b)] [(.int (4 : Int32)), (.ref b), (.ref a1)])) (fun t_ k_ => (st3 _ (XS.astore X3.here hx rfl (Jvm.hb hby own_d_jdk_42_method_149_code_39) rfl rfl (l' := #[.val (.ref a1), .val (.ref a2), .val (.int (0 : Int32)), .val (.int (4 : Int32)), .val .null, .val (.ref b)]) rfl (XS.aloadN X3.here hx rfl (Jvm.hb hby own_d_jdk_42_method_149_code_41) rfl rfl (XS.aload X3.here hx rfl (Jvm.hb hby own_d_jdk_42_method_149_code_42) rfl rfl (XS.iloadN X3.here hx rfl (Jvm.hb hby own_d_jdk_42_method_149_code_44) rfl k_)))))) ?_
  obtain ⟨_, _, ⟨T15, L15, k15, n15⟩, -, X15, ⟨Lc15, hQ15, l15, y15, z15⟩, st15⟩ := Jvm.LawKit.callS X3 hx (y := (⟨"java/lang/StringUTF16", "coderFromArrayLen", "([BI)B"⟩ : MethodName)) hown (mvT hZ (hw _ (List.mem_of_getElem? (i := 24) rfl))) (mvT hZ (hw _ (List.mem_of_getElem? (i := 25) rfl))) (mvT hZ (hw _ (List.mem_of_getElem? (i := 18) rfl))) (mvT hZ (hw _ (List.mem_of_getElem? (i := 26) rfl))) (by decide) (backOf (W := 1) (own_rm_cfl l Z a0 hw [] b (4 : Int32) kb (8 : Int32) [(.int (StrChars.lo8 c0)), (.int (StrChars.hi8 c0)), (.int (StrChars.lo8 c1)), (.int (StrChars.hi8 c1)), (.int (StrChars.lo8 c2)), (.int (StrChars.hi8 c2)), (.int (StrChars.lo8 c3)), (.int (StrChars.hi8 c3))] T3.heap n0 f6 Vb (by decide)) hZ (hw _ (List.mem_of_getElem? (i := 26) rfl)) (hw _ (List.mem_of_getElem? (i := 18) rfl)) (by decide) (by decide)) (g := (mkF m 45 #[.val (.ref a1), .val (.ref a2), .val (.int (0 : Int32)), .val (.int (4 : Int32)), .val .null, .val (.ref b)] [(.int (4 : Int32)), (.ref b), (.ref a1)])) rfl (by rw [hml]; rfl) (argsL := [(.ref b), (.int (4 : Int32))]) (rest := [(.ref a1)]) (lenOf own_pd_6 rfl) rfl (by show 2 * 0 + _ ≤ _; exact Nat.le_of_eq rfl) (Jvm.hb hby own_d_jdk_42_method_149_code_45) (fun _ _ => ⟨rfl, rfl, Nat.le_of_ble_eq_true rfl, Nat.le_of_ble_eq_true rfl⟩)
  dsimp only [Pt.U, Pt.locs, Pt.cells, Pt.slots] at X15 l15 y15 z15 st15 hQ15
  subst l15 y15 z15
  obtain ⟨rfl, N15, e15⟩ := hQ15
  have N16 := Fr.app N4 N15
  obtain ⟨T17, h17, X17, e17, W17, st17⟩ := putF X15 hx hZ hown (host := "") (Or.inl (hw _ (List.mem_of_getElem? (i := 27) rfl))) Via.refl e15 f9 f7 (Or.inr ⟨(hw _ (List.mem_of_getElem? (i := 28) rfl)), rfl, hnm⟩) (hw _ (List.mem_of_getElem? (i := 3) rfl)) (ty := .byte) (by decide) rfl rfl (g := (mkF m 48 #[.val (.ref a1), .val (.ref a2), .val (.int (0 : Int32)), .val (.int (4 : Int32)), .val .null, .val (.ref b)] [(.int (1 : Int32)), (.ref a1)])) rfl rfl (Jvm.hb hby own_d_jdk_42_method_149_code_48)
  refine own_of (T' := T17) (f' := (mkF m 51 #[.val (.ref a1), .val (.ref a2), .val (.int (0 : Int32)), .val (.int (4 : Int32)), .val .null, .val (.ref b)] [])) (fun t_ k_ => (st15 _ (st17 _ k_))) ?_
  have N17 := Fr.snoc X17 N16 g_a1
  have f18 := f5.wr W17 (Or.inl (List.mem_of_getElem? (i := 0) rfl))
  have f19 := Nat.le_trans f6 (Keep.of_wr W17).1
  have f20 := f7.wr W17
  have f21 := f8.other W17 (Or.inr (slot_ne (Or.inr (hw _ (List.mem_of_getElem? (i := 30) rfl))) (Or.inr (hw _ (List.mem_of_getElem? (i := 28) rfl))) (by decide) (t := (.array .byte)) (t' := .byte) (by decide) (by decide)))
  have f22 := f9.same W17
  have f23 := f10.wr W17
  have f24 := f11.wr W17
  have f25 := f12.wr W17
  have f26 := f13.wr W17
  have f27 := f14.other W17 (Ne.symm ne12)
  have f28 := Eb.wr W17
  have f29 := Vb.other W17 (Ne.symm ne_a1_b)
  obtain ⟨T30, h30, X30, e30, W30, st30⟩ := putF X17 hx hZ hown (host := "") (Or.inl (hw _ (List.mem_of_getElem? (i := 29) rfl))) Via.refl e17 f21 f20 (Or.inr ⟨(hw _ (List.mem_of_getElem? (i := 30) rfl)), rfl, hnm⟩) (hw _ (List.mem_of_getElem? (i := 3) rfl)) (ty := (.array .byte)) (by decide) rfl rfl (g := (mkF m 54 #[.val (.ref a1), .val (.ref a2), .val (.int (0 : Int32)), .val (.int (4 : Int32)), .val .null, .val (.ref b)] [(.ref b), (.ref a1)])) rfl rfl (Jvm.hb hby own_d_jdk_42_method_149_code_54)
  refine own_of (T' := T30) (f' := (mkF m 57 #[.val (.ref a1), .val (.ref a2), .val (.int (0 : Int32)), .val (.int (4 : Int32)), .val .null, .val (.ref b)] [])) (fun t_ k_ => (XS.aloadN X17.here hx rfl (Jvm.hb hby own_d_jdk_42_method_149_code_51) rfl rfl (XS.aload X17.here hx rfl (Jvm.hb hby own_d_jdk_42_method_149_code_52) rfl rfl (st30 _ k_)))) ?_
  have N30 := Fr.snoc X30 N17 g_a1
  have f31 := f18.wr W30 (Or.inl (List.mem_of_getElem? (i := 0) rfl))
  have f32 := Nat.le_trans f19 (Keep.of_wr W30).1
  have f33 := f20.wr W30
  have f34 := f21.same W30
  have f35 := f22.other W30 (Or.inr (slot_ne (Or.inr (hw _ (List.mem_of_getElem? (i := 28) rfl))) (Or.inr (hw _ (List.mem_of_getElem? (i := 30) rfl))) (by decide) (t := .byte) (t' := (.array .byte)) (by decide) (by decide)))
  have f36 := f23.wr W30
  have f37 := f24.wr W30
  have f38 := f25.wr W30
  have f39 := f26.wr W30
  have f40 := f27.other W30 (Ne.symm ne12)
  have f41 := f28.wr W30
  have f42 := f29.other W30 (Ne.symm ne_a1_b)
  obtain ⟨fs, hr, hrun, hended, hW, hsame⟩ := X30.leave (v := none) (fun _ => rfl)
  exact ⟨_, _, X30.returnOut hx Bd.returns (Jvm.hb hby own_d_jdk_42_method_149_code_57) hr, hrun, hended, _, _, rfl, (by show own_Q_vini4 Z a1 a2 0 (4 : Int32) c0 c1 c2 c3 kc G1 h0 n0 _ T30.heap _; rw [e30]; exact ⟨rfl, N30, f31, f33, f35, b, kb, f34, f42⟩), ⟨_, rfl⟩, hW, hsame.mono (by decide) (by decide)⟩
theorem own_ef_cini4 (m : MethodId) (a1 : Addr) (a2 : Addr) : entryFrame m #[(.ref a1), (.ref a2)] 2 = mkF m 0 #[.val (.ref a1), .val (.ref a2)] [] := by first | (simp [entryFrame, mkF, argsToLocals, Value.category]; done) | rfl
def own_Q_cini4 (Z : State) (a1 : Addr) (a2 : Addr) (c0 c1 c2 c3 : Int32) (kc : ClassId) (G1 : Int32) (h0 : Heap) (n0 : Nat) (v : Option Value) (h : Heap) (L : List Loc) : Prop := v = none ∧ Fr n0 L ∧ Keep h0 h [a1] ∧ Exa Z h a1 "java/lang/String" ∧ Fld Z h a1 "java/lang/String" "coder" "B" (.int 1) ∧ ∃ b k, Fld Z h a1 "java/lang/String" "value" "[B" (.ref b) ∧ Arv Z h b k .byte (8 : Int32) [(.int (StrChars.lo8 c0)), (.int (StrChars.hi8 c0)), (.int (StrChars.lo8 c1)), (.int (StrChars.hi8 c1)), (.int (StrChars.lo8 c2)), (.int (StrChars.hi8 c2)), (.int (StrChars.lo8 c3)), (.int (StrChars.hi8 c3))] (.int 0)
set_option maxRecDepth 65536 in
set_option maxHeartbeats 40000000 in
theorem own_rm_cini4 (l : Launch) (Z : State) (a0 : Array Value) (hw : ∀ d ∈ tables_1, d.before a0 Z = true) (ws : List Jvm.Cond) (a1 : Addr) (a2 : Addr) (c0 c1 c2 c3 : Int32) (kc : ClassId) (G1 : Int32) (h0 : Heap) (n0 : Nat) (Z0 : n0 ≤ h0.size) (F1 : Fld Z h0 a1 "java/lang/String" "value" "[B" .null) (F2 : Fld Z h0 a1 "java/lang/String" "coder" "B" (.int 0)) (E1 : Exa Z h0 a1 "java/lang/String") (g_a1 : n0 ≤ a1) (S1 : Sta Z h0 "java/lang/StringUTF16" "$assertionsDisabled" "Z" (.int 1)) (S2 : Sta Z h0 "java/lang/StringUTF16" "HI_BYTE_SHIFT" "I" (.int 0)) (S3 : Sta Z h0 "java/lang/StringUTF16" "LO_BYTE_SHIFT" "I" (.int 8)) (SC : Sta Z h0 "java/lang/String" "COMPACT_STRINGS" "Z" (.int G1)) (P5 : ¬ (G1 = (0 : Int32))) (Vc : Arv Z h0 a2 kc .char (4 : Int32) [(.int c0), (.int c1), (.int c2), (.int c3)] (.int 0)) (ne12 : a1 ≠ a2) (hr : ∀ c ∈ ([c0, c1, c2, c3] : List Int32), ¬ c < 0 ∧ ¬ (65535 : Int32) < c) (hwd : (255 : Int32) < c0 ∨ (255 : Int32) < c1 ∨ (255 : Int32) < c2 ∨ (255 : Int32) < c3) :
    MetFree l (⟨"java/lang/String", "<init>", "([C)V"⟩ : MethodName) (head1 (Jvm.Cond.code (⟨"java/lang/String", "<init>", "([C)V"⟩ : MethodName) jdk_42_method_3_code 2 none :: ws) ({ frames := 5, cells := 2, slots := 12, locals := 74 } : Room)) (fun a U => a = #[(.ref a1), (.ref a2)] ∧ Z.Warmed39 U.vm ∧ U.heap = h0) (fun _ _ _ _ _ => True) (fun _ U o U' => ∃ v L, o = .returned v ∧ own_Q_cini4 Z a1 a2 c0 c1 c2 c3 kc G1 h0 n0 v U'.heap L ∧ FrameEnd U o U' L ({ frames := 5, cells := 2, slots := 12, locals := 74 } : Room).cells ({ frames := 5, cells := 2, slots := 12, locals := 74 } : Room).slots) := by
  refine MetFree.of_bodySF (plainFor_of_name own_pn_1) hisR ?_
  intro p e s m args below meth c s₁ Bd hml0 hP hK
  obtain ⟨rfl, hZ, hh⟩ := hP
  have hx := Bd.exec
  have hby := Bd.bytes
  have hml : c.maxLocals = 2 := hml0
  have hown : s.vm.findClass "java/lang/String" = some m.cls := findClass_of_methodNamed Bd.named
  have hnm := (name_of_methodNamed Bd.named Bd.method).1
  have X0 : Stand p l e ({ frames := 5, cells := 2, slots := 12, locals := 74 } : Room) s m #[(.ref a1), (.ref a2)] below meth c s₁ [] 0 0 := Stand.of_body Bd
  have e0 : s₁.heap = h0 := by rw [← hh, Bd.state]; rfl
  have N0 := Fr.nil n0
  refine own_start (own_ef_cini4 m a1 a2 ) ?_
  have K0 : Keep h0 h0 [a1] := Keep.refl _ _
  refine own_of (T' := s₁) (f' := (mkF m 4 #[.val (.ref a1), .val (.ref a2)] [(.ref a2), (.int (0 : Int32)), (.ref a2), (.ref a1)])) (fun t_ k_ => (XS.aloadN X0.here hx rfl (Jvm.hb hby own_d_jdk_42_method_3_code_0) rfl rfl (XS.aloadN X0.here hx rfl (Jvm.hb hby own_d_jdk_42_method_3_code_1) rfl rfl (XS.iconst X0.here hx rfl (Jvm.hb hby own_d_jdk_42_method_3_code_2) (XS.aloadN X0.here hx rfl (Jvm.hb hby own_d_jdk_42_method_3_code_3) rfl rfl k_))))) ?_
  obtain ⟨clz, Arz, -, Szz, Nnz, -⟩ := id Vc
  refine own_of (T' := s₁) (f' := (mkF m 5 #[.val (.ref a1), .val (.ref a2)] [(.int (clz.slots.size).toInt32), (.int (0 : Int32)), (.ref a2), (.ref a1)])) (fun t_ k_ => (X0.arraylength hx (by first | (rw [e0]; exact Arz.1) | exact Arz.1) (State.isArrayOf_alike hZ.alike Arz.2.1) (g := (mkF m 4 #[.val (.ref a1), .val (.ref a2)] [(.ref a2), (.int (0 : Int32)), (.ref a2), (.ref a1)])) rfl rfl (Jvm.hb hby own_d_jdk_42_method_3_code_4) _ k_)) ?_
  rw [len_of Szz Nnz]
  refine own_of (T' := s₁) (f' := (mkF m 6 #[.val (.ref a1), .val (.ref a2)] [.null, (.int (4 : Int32)), (.int (0 : Int32)), (.ref a2), (.ref a1)])) (fun t_ k_ => (XS.aconstNull X0.here hx rfl (Jvm.hb hby own_d_jdk_42_method_3_code_5) k_)) ?_
  obtain ⟨_, _, ⟨T1, L1, k1, n1⟩, -, X1, ⟨Lc1, hQ1, l1, y1, z1⟩, st1⟩ := X0.specialBack hx (y := (⟨"java/lang/String", "<init>", "([CIILjava/lang/Void;)V"⟩ : MethodName)) rfl hown (mvT hZ (hw _ (List.mem_of_getElem? (i := 8) rfl))) (mvT hZ (hw _ (List.mem_of_getElem? (i := 9) rfl))) (mvT hZ (hw _ (List.mem_of_getElem? (i := 11) rfl))) (by decide) (backOf (W := 0) (own_rm_vini4 l Z a0 hw [] a1 a2 (0 : Int32) (4 : Int32) c0 c1 c2 c3 kc G1 h0 n0 Z0 F1 F2 E1 g_a1 S1 S2 S3 SC P5 Vc ne12 rfl rfl hr hwd) hZ (hw _ (List.mem_of_getElem? (i := 11) rfl)) (hw _ (List.mem_of_getElem? (i := 4) rfl)) (by decide) (by decide)) (g := (mkF m 6 #[.val (.ref a1), .val (.ref a2)] [.null, (.int (4 : Int32)), (.int (0 : Int32)), (.ref a2), (.ref a1)])) rfl (by rw [hml]; rfl) (Steps.refl _) (a := a1) (argsL := [(.ref a2), (.int (0 : Int32)), (.int (4 : Int32)), .null]) (rest := []) (lenOf own_pd_7 rfl) rfl (by show 2 * 0 + _ ≤ _; exact Nat.le_of_eq rfl) (Jvm.hb hby own_d_jdk_42_method_3_code_6) (fun _ _ => ⟨rfl, e0, Nat.le_of_ble_eq_true rfl, Nat.le_of_ble_eq_true rfl⟩)
  dsimp only [Pt.U, Pt.locs, Pt.cells, Pt.slots] at X1 l1 y1 z1 st1 hQ1
  subst l1 y1 z1
  obtain ⟨rfl, N1, K1, q1, q2, b, k, q3, q4⟩ := hQ1
  have N2 := Fr.app N0 N1
  have f3 := K0.trans K1 (allS (Or.inl (List.mem_of_getElem? (i := 0) rfl)) all0)
  have f4 := Nat.le_trans Z0 K1.1
  have f5 := E1.keep K1
  refine own_of (T' := T1) (f' := (mkF m 9 #[.val (.ref a1), .val (.ref a2)] [])) (fun t_ k_ => (st1.trans k_)) ?_
  obtain ⟨fs, hr, hrun, hended, hW, hsame⟩ := X1.leave (v := none) (fun _ => rfl)
  exact ⟨_, _, X1.returnOut hx Bd.returns (Jvm.hb hby own_d_jdk_42_method_3_code_9) hr, hrun, hended, _, _, rfl, (by show own_Q_cini4 Z a1 a2 c0 c1 c2 c3 kc G1 h0 n0 _ T1.heap _; exact ⟨rfl, N2, f3, q1, q2, b, k, q3, q4⟩), ⟨_, rfl⟩, hW, hsame.mono (by decide) (by decide)⟩
theorem own_pn_2 : plainName "jdk/internal/util/Preconditions" = true := by first | (simp [plainName, overriddenIn]; done) | decide +kernel
theorem own_ef_pci (m : MethodId) (p1 : Int32) (p2 : Int32) (fm : Value) (hv_fm : fm.isRef = true) : entryFrame m #[(.int p1), (.int p2), fm] 3 = mkF m 0 #[.val (.int p1), .val (.int p2), .val fm] [] := by
  simp [entryFrame, mkF, argsToLocals, own_cR, own_cN, own_cI, own_cat1 hv_fm]
def own_Q_pci (Z : State) (p1 : Int32) (p2 : Int32) (fm : Value)  (h0 : Heap) (n0 : Nat) (v : Option Value) (h : Heap) (L : List Loc) : Prop := v = some (.int p1) ∧ Fr n0 L ∧ h = h0
theorem own_d_jdk_41_method_11_code_0 : decode jdk_41_method_11_code 0 = .ok (.iload_n 0, 1) := by decide +kernel
theorem own_d_jdk_41_method_11_code_1 : decode jdk_41_method_11_code 1 = .ok (.ifCond .lt 8, 3) := by decide +kernel
theorem own_d_jdk_41_method_11_code_4 : decode jdk_41_method_11_code 4 = .ok (.iload_n 0, 1) := by decide +kernel
theorem own_d_jdk_41_method_11_code_5 : decode jdk_41_method_11_code 5 = .ok (.iload_n 1, 1) := by decide +kernel
theorem own_d_jdk_41_method_11_code_6 : decode jdk_41_method_11_code 6 = .ok (.if_icmp .lt 10, 3) := by decide +kernel
theorem own_d_jdk_41_method_11_code_16 : decode jdk_41_method_11_code 16 = .ok (.iload_n 0, 1) := by decide +kernel
theorem own_d_jdk_41_method_11_code_17 : decode jdk_41_method_11_code 17 = .ok (.ireturn, 1) := by decide +kernel
set_option maxRecDepth 65536 in
set_option maxHeartbeats 40000000 in
theorem own_rm_pci (l : Launch) (Z : State) (a0 : Array Value) (hw : ∀ d ∈ tables_1, d.before a0 Z = true) (ws : List Jvm.Cond) (p1 : Int32) (p2 : Int32) (fm : Value)  (h0 : Heap) (n0 : Nat) (Z0 : n0 ≤ h0.size) (rfm : fm.isRef = true) (h1 : ¬ p1 < (0 : Int32)) (h2 : p1 < p2) :
    MetFree l (⟨"jdk/internal/util/Preconditions", "checkIndex", "(IILjava/util/function/BiFunction;)I"⟩ : MethodName) (head1 (Jvm.Cond.code (⟨"jdk/internal/util/Preconditions", "checkIndex", "(IILjava/util/function/BiFunction;)I"⟩ : MethodName) jdk_41_method_11_code 3 (some .int) :: ws) ({ frames := 0, cells := 0, slots := 0, locals := 0 } : Room)) (fun a U => a = #[(.int p1), (.int p2), fm] ∧ Z.Warmed39 U.vm ∧ U.heap = h0) (fun _ _ _ _ _ => True) (fun _ U o U' => ∃ v L, o = .returned v ∧ own_Q_pci Z p1 p2 fm  h0 n0 v U'.heap L ∧ FrameEnd U o U' L ({ frames := 0, cells := 0, slots := 0, locals := 0 } : Room).cells ({ frames := 0, cells := 0, slots := 0, locals := 0 } : Room).slots) := by
  refine MetFree.of_bodySF (plainFor_of_name own_pn_2) hisR ?_
  intro p e s m args below meth c s₁ Bd hml0 hP hK
  obtain ⟨rfl, hZ, hh⟩ := hP
  have hx := Bd.exec
  have hby := Bd.bytes
  have hml : c.maxLocals = 3 := hml0
  have hown : s.vm.findClass "jdk/internal/util/Preconditions" = some m.cls := findClass_of_methodNamed Bd.named
  have hnm := (name_of_methodNamed Bd.named Bd.method).1
  have X0 : Stand p l e ({ frames := 0, cells := 0, slots := 0, locals := 0 } : Room) s m #[(.int p1), (.int p2), fm] below meth c s₁ [] 0 0 := Stand.of_body Bd
  have e0 : s₁.heap = h0 := by rw [← hh, Bd.state]; rfl
  have N0 := Fr.nil n0
  refine own_start (own_ef_pci m p1 p2 fm (rfm)) ?_
  refine own_of (T' := s₁) (f' := (mkF m 17 #[.val (.int p1), .val (.int p2), .val fm] [(.int p1)])) (fun t_ k_ => (XS.iloadN X0.here hx rfl (Jvm.hb hby own_d_jdk_41_method_11_code_0) rfl (XS.ifNo X0.here hx rfl (Jvm.hb hby own_d_jdk_41_method_11_code_1) rfl ((if0 _ _).trans (flt h1).1) (XS.iloadN X0.here hx rfl (Jvm.hb hby own_d_jdk_41_method_11_code_4) rfl (XS.iloadN X0.here hx rfl (Jvm.hb hby own_d_jdk_41_method_11_code_5) rfl (XS.icmpYes X0.here hx rfl (pc0 := 6) (pc' := 16) rfl (Jvm.hb hby own_d_jdk_41_method_11_code_6) rfl (tlt h2).1 (by decide) (by decide) (XS.iloadN X0.here hx rfl (Jvm.hb hby own_d_jdk_41_method_11_code_16) rfl k_))))))) ?_
  obtain ⟨fs, hr, hrun, hended, hW, hsame⟩ := X0.leave (v := some (.int p1)) (fun h => by rw [Bd.returns] at h; cases h)
  exact ⟨_, _, own_retI X0 hx Bd.returns (Jvm.hb hby own_d_jdk_41_method_11_code_17) hr, hrun, hended, _, _, rfl, (by show own_Q_pci Z p1 p2 fm  h0 n0 _ s₁.heap _; rw [e0]; exact ⟨rfl, N0, rfl⟩), ⟨_, rfl⟩, hW, hsame.mono (by decide) (by decide)⟩
theorem own_ef_sci (m : MethodId) (p1 : Int32) (p2 : Int32) : entryFrame m #[(.int p1), (.int p2)] 2 = mkF m 0 #[.val (.int p1), .val (.int p2)] [] := by first | (simp [entryFrame, mkF, argsToLocals, Value.category]; done) | rfl
def own_Q_sci (Z : State) (p1 : Int32) (p2 : Int32) (fm : Value) (h0 : Heap) (n0 : Nat) (v : Option Value) (h : Heap) (L : List Loc) : Prop := v = none ∧ Fr n0 L ∧ h = h0
theorem own_d_jdk_42_method_155_code_0 : decode jdk_42_method_155_code 0 = .ok (.iload_n 0, 1) := by decide +kernel
theorem own_d_jdk_42_method_155_code_1 : decode jdk_42_method_155_code 1 = .ok (.iload_n 1, 1) := by decide +kernel
theorem own_d_jdk_42_method_155_code_2 : decode jdk_42_method_155_code 2 = .ok (.getstatic 1053, 3) := by decide +kernel
theorem own_d_jdk_42_method_155_code_5 : decode jdk_42_method_155_code 5 = .ok (.invokestatic 1059, 3) := by decide +kernel
theorem own_pd_8 : parseMethodDescriptor "(IILjava/util/function/BiFunction;)I" = some ⟨[.int, .int, (.object "java/util/function/BiFunction")], some .int⟩ := by decide +kernel
theorem own_d_jdk_42_method_155_code_8 : decode jdk_42_method_155_code 8 = .ok (.pop, 1) := by decide +kernel
theorem own_d_jdk_42_method_155_code_9 : decode jdk_42_method_155_code 9 = .ok (.return_, 1) := by decide +kernel
set_option maxRecDepth 65536 in
set_option maxHeartbeats 40000000 in
theorem own_rm_sci (l : Launch) (Z : State) (a0 : Array Value) (hw : ∀ d ∈ tables_1, d.before a0 Z = true) (ws : List Jvm.Cond) (p1 : Int32) (p2 : Int32) (fm : Value) (h0 : Heap) (n0 : Nat) (Z0 : n0 ≤ h0.size) (SF : Sta Z h0 "jdk/internal/util/Preconditions" "SIOOBE_FORMATTER" "Ljava/util/function/BiFunction;" fm) (rfm : fm.isRef = true) (h1 : ¬ p1 < (0 : Int32)) (h2 : p1 < p2) :
    MetFree l (⟨"java/lang/String", "checkIndex", "(II)V"⟩ : MethodName) (head1 (Jvm.Cond.code (⟨"java/lang/String", "checkIndex", "(II)V"⟩ : MethodName) jdk_42_method_155_code 2 none :: ws) ({ frames := 1, cells := 0, slots := 0, locals := 14 } : Room)) (fun a U => a = #[(.int p1), (.int p2)] ∧ Z.Warmed39 U.vm ∧ U.heap = h0) (fun _ _ _ _ _ => True) (fun _ U o U' => ∃ v L, o = .returned v ∧ own_Q_sci Z p1 p2 fm h0 n0 v U'.heap L ∧ FrameEnd U o U' L ({ frames := 1, cells := 0, slots := 0, locals := 14 } : Room).cells ({ frames := 1, cells := 0, slots := 0, locals := 14 } : Room).slots) := by
  refine MetFree.of_bodySF (plainFor_of_name own_pn_1) hisR ?_
  intro p e s m args below meth c s₁ Bd hml0 hP hK
  obtain ⟨rfl, hZ, hh⟩ := hP
  have hx := Bd.exec
  have hby := Bd.bytes
  have hml : c.maxLocals = 2 := hml0
  have hown : s.vm.findClass "java/lang/String" = some m.cls := findClass_of_methodNamed Bd.named
  have hnm := (name_of_methodNamed Bd.named Bd.method).1
  have X0 : Stand p l e ({ frames := 1, cells := 0, slots := 0, locals := 14 } : Room) s m #[(.int p1), (.int p2)] below meth c s₁ [] 0 0 := Stand.of_body Bd
  have e0 : s₁.heap = h0 := by rw [← hh, Bd.state]; rfl
  have N0 := Fr.nil n0
  refine own_start (own_ef_sci m p1 p2 ) ?_
  obtain ⟨T1, X1, e1, st1⟩ := getS2 X0 hx hZ hown (host := "") (Or.inl (hw _ (List.mem_of_getElem? (i := 93) rfl))) Via.refl e0 SF (g := (mkF m 2 #[.val (.int p1), .val (.int p2)] [(.int p2), (.int p1)])) rfl (Jvm.hb hby own_d_jdk_42_method_155_code_2)
  refine own_of (T' := T1) (f' := (mkF m 5 #[.val (.int p1), .val (.int p2)] [fm, (.int p2), (.int p1)])) (fun t_ k_ => (XS.iloadN X0.here hx rfl (Jvm.hb hby own_d_jdk_42_method_155_code_0) rfl (XS.iloadN X0.here hx rfl (Jvm.hb hby own_d_jdk_42_method_155_code_1) rfl (st1 _ k_)))) ?_
  obtain ⟨_, _, ⟨T2, L2, k2, n2⟩, -, X2, ⟨Lc2, hQ2, l2, y2, z2⟩, st2⟩ := Jvm.LawKit.callS X1 hx (y := (⟨"jdk/internal/util/Preconditions", "checkIndex", "(IILjava/util/function/BiFunction;)I"⟩ : MethodName)) hown (mvT hZ (hw _ (List.mem_of_getElem? (i := 95) rfl))) (mvT hZ (hw _ (List.mem_of_getElem? (i := 96) rfl))) (mvT hZ (hw _ (List.mem_of_getElem? (i := 94) rfl))) (mvT hZ (hw _ (List.mem_of_getElem? (i := 97) rfl))) (by decide) (backOf (W := 0) (own_rm_pci l Z a0 hw [] p1 p2 fm h0 n0 Z0 rfm h1 h2) hZ (hw _ (List.mem_of_getElem? (i := 97) rfl)) (hw _ (List.mem_of_getElem? (i := 94) rfl)) (by decide) (by decide)) (g := (mkF m 5 #[.val (.int p1), .val (.int p2)] [fm, (.int p2), (.int p1)])) rfl (by rw [hml]; rfl) (argsL := [(.int p1), (.int p2), fm]) (rest := []) (lenOf own_pd_8 rfl) rfl (by show 2 * 0 + _ ≤ _; exact Nat.le_of_eq rfl) (Jvm.hb hby own_d_jdk_42_method_155_code_5) (fun _ _ => ⟨rfl, e1, Nat.le_of_ble_eq_true rfl, Nat.le_of_ble_eq_true rfl⟩)
  dsimp only [Pt.U, Pt.locs, Pt.cells, Pt.slots] at X2 l2 y2 z2 st2 hQ2
  subst l2 y2 z2
  obtain ⟨rfl, N2, e2⟩ := hQ2
  have N3 := Fr.app N0 N2
  refine own_of (T' := T2) (f' := (mkF m 9 #[.val (.int p1), .val (.int p2)] [])) (fun t_ k_ => (st2 _ (XS.pop X2.here hx rfl (Jvm.hb hby own_d_jdk_42_method_155_code_8) rfl rfl k_))) ?_
  obtain ⟨fs, hr, hrun, hended, hW, hsame⟩ := X2.leave (v := none) (fun _ => rfl)
  exact ⟨_, _, X2.returnOut hx Bd.returns (Jvm.hb hby own_d_jdk_42_method_155_code_9) hr, hrun, hended, _, _, rfl, (by show own_Q_sci Z p1 p2 fm h0 n0 _ T2.heap _; rw [e2]; exact ⟨rfl, N3, rfl⟩), ⟨_, rfl⟩, hW, hsame.mono (by decide) (by decide)⟩
theorem own_ef_l16 (m : MethodId) (a1 : Addr) : entryFrame m #[(.ref a1)] 1 = mkF m 0 #[.val (.ref a1)] [] := by first | (simp [entryFrame, mkF, argsToLocals, Value.category]; done) | rfl
def own_Q_l16 (Z : State) (a1 : Addr) (k : ClassId) (z : Int32) (vs : List Value) (h0 : Heap) (n0 : Nat) (v : Option Value) (h : Heap) (L : List Loc) : Prop := v = some (.int (z >>> ((1 : Int32) &&& 31))) ∧ Fr n0 L ∧ h = h0
theorem own_d_jdk_52_method_6_code_0 : decode jdk_52_method_6_code 0 = .ok (.aload_n 0, 1) := by decide +kernel
theorem own_d_jdk_52_method_6_code_1 : decode jdk_52_method_6_code 1 = .ok (.arraylength, 1) := by decide +kernel
theorem own_d_jdk_52_method_6_code_2 : decode jdk_52_method_6_code 2 = .ok (.iconst 1, 1) := by decide +kernel
theorem own_d_jdk_52_method_6_code_3 : decode jdk_52_method_6_code 3 = .ok (.ishr, 1) := by decide +kernel
theorem own_d_jdk_52_method_6_code_4 : decode jdk_52_method_6_code 4 = .ok (.ireturn, 1) := by decide +kernel
set_option maxRecDepth 65536 in
set_option maxHeartbeats 40000000 in
theorem own_rm_l16 (l : Launch) (Z : State) (a0 : Array Value) (hw : ∀ d ∈ tables_1, d.before a0 Z = true) (ws : List Jvm.Cond) (a1 : Addr) (k : ClassId) (z : Int32) (vs : List Value) (h0 : Heap) (n0 : Nat) (Z0 : n0 ≤ h0.size) (Vt : Arv Z h0 a1 k .byte z vs (.int 0)) :
    MetFree l (⟨"java/lang/StringUTF16", "length", "([B)I"⟩ : MethodName) (head1 (Jvm.Cond.code (⟨"java/lang/StringUTF16", "length", "([B)I"⟩ : MethodName) jdk_52_method_6_code 1 (some .int) :: ws) ({ frames := 0, cells := 0, slots := 0, locals := 0 } : Room)) (fun a U => a = #[(.ref a1)] ∧ Z.Warmed39 U.vm ∧ U.heap = h0) (fun _ _ _ _ _ => True) (fun _ U o U' => ∃ v L, o = .returned v ∧ own_Q_l16 Z a1 k z vs h0 n0 v U'.heap L ∧ FrameEnd U o U' L ({ frames := 0, cells := 0, slots := 0, locals := 0 } : Room).cells ({ frames := 0, cells := 0, slots := 0, locals := 0 } : Room).slots) := by
  refine MetFree.of_bodySF (plainFor_of_name own_pn_0) hisR ?_
  intro p e s m args below meth c s₁ Bd hml0 hP hK
  obtain ⟨rfl, hZ, hh⟩ := hP
  have hx := Bd.exec
  have hby := Bd.bytes
  have hml : c.maxLocals = 1 := hml0
  have hown : s.vm.findClass "java/lang/StringUTF16" = some m.cls := findClass_of_methodNamed Bd.named
  have hnm := (name_of_methodNamed Bd.named Bd.method).1
  have X0 : Stand p l e ({ frames := 0, cells := 0, slots := 0, locals := 0 } : Room) s m #[(.ref a1)] below meth c s₁ [] 0 0 := Stand.of_body Bd
  have e0 : s₁.heap = h0 := by rw [← hh, Bd.state]; rfl
  have N0 := Fr.nil n0
  refine own_start (own_ef_l16 m a1 ) ?_
  refine own_of (T' := s₁) (f' := (mkF m 1 #[.val (.ref a1)] [(.ref a1)])) (fun t_ k_ => (XS.aloadN X0.here hx rfl (Jvm.hb hby own_d_jdk_52_method_6_code_0) rfl rfl k_)) ?_
  obtain ⟨clz, Arz, -, Szz, Nnz, -⟩ := id Vt
  refine own_of (T' := s₁) (f' := (mkF m 2 #[.val (.ref a1)] [(.int (clz.slots.size).toInt32)])) (fun t_ k_ => (X0.arraylength hx (by first | (rw [e0]; exact Arz.1) | exact Arz.1) (State.isArrayOf_alike hZ.alike Arz.2.1) (g := (mkF m 1 #[.val (.ref a1)] [(.ref a1)])) rfl rfl (Jvm.hb hby own_d_jdk_52_method_6_code_1) _ k_)) ?_
  rw [len_of Szz Nnz]
  refine own_of (T' := s₁) (f' := (mkF m 4 #[.val (.ref a1)] [(.int (z >>> ((1 : Int32) &&& 31)))])) (fun t_ k_ => (XS.iconst X0.here hx rfl (Jvm.hb hby own_d_jdk_52_method_6_code_2) (XS.ishr X0.here hx rfl (Jvm.hb hby own_d_jdk_52_method_6_code_3) rfl k_))) ?_
  obtain ⟨fs, hr, hrun, hended, hW, hsame⟩ := X0.leave (v := some (.int (z >>> ((1 : Int32) &&& 31)))) (fun h => by rw [Bd.returns] at h; cases h)
  exact ⟨_, _, own_retI X0 hx Bd.returns (Jvm.hb hby own_d_jdk_52_method_6_code_4) hr, hrun, hended, _, _, rfl, (by show own_Q_l16 Z a1 k z vs h0 n0 _ s₁.heap _; rw [e0]; exact ⟨rfl, N0, rfl⟩), ⟨_, rfl⟩, hW, hsame.mono (by decide) (by decide)⟩
theorem own_ef_uci (m : MethodId) (p1 : Int32) (a2 : Addr) : entryFrame m #[(.int p1), (.ref a2)] 2 = mkF m 0 #[.val (.int p1), .val (.ref a2)] [] := by first | (simp [entryFrame, mkF, argsToLocals, Value.category]; done) | rfl
def own_Q_uci (Z : State) (p1 : Int32) (a2 : Addr) (k : ClassId) (z : Int32) (vs : List Value) (fm : Value) (h0 : Heap) (n0 : Nat) (v : Option Value) (h : Heap) (L : List Loc) : Prop := v = none ∧ Fr n0 L ∧ h = h0
theorem own_d_jdk_52_method_91_code_0 : decode jdk_52_method_91_code 0 = .ok (.iload_n 0, 1) := by decide +kernel
theorem own_d_jdk_52_method_91_code_1 : decode jdk_52_method_91_code 1 = .ok (.aload_n 1, 1) := by decide +kernel
theorem own_d_jdk_52_method_91_code_2 : decode jdk_52_method_91_code 2 = .ok (.invokestatic 48, 3) := by decide +kernel
theorem own_pd_9 : parseMethodDescriptor "([B)I" = some ⟨[(.array .byte)], some .int⟩ := by decide +kernel
theorem own_d_jdk_52_method_91_code_5 : decode jdk_52_method_91_code 5 = .ok (.invokestatic 414, 3) := by decide +kernel
theorem own_pd_10 : parseMethodDescriptor "(II)V" = some ⟨[.int, .int], none⟩ := by decide +kernel
theorem own_d_jdk_52_method_91_code_8 : decode jdk_52_method_91_code 8 = .ok (.return_, 1) := by decide +kernel
set_option maxRecDepth 65536 in
set_option maxHeartbeats 40000000 in
theorem own_rm_uci (l : Launch) (Z : State) (a0 : Array Value) (hw : ∀ d ∈ tables_1, d.before a0 Z = true) (ws : List Jvm.Cond) (p1 : Int32) (a2 : Addr) (k : ClassId) (z : Int32) (vs : List Value) (fm : Value) (h0 : Heap) (n0 : Nat) (Z0 : n0 ≤ h0.size) (Vt : Arv Z h0 a2 k .byte z vs (.int 0)) (SF : Sta Z h0 "jdk/internal/util/Preconditions" "SIOOBE_FORMATTER" "Ljava/util/function/BiFunction;" fm) (rfm : fm.isRef = true) (h1 : ¬ p1 < (0 : Int32)) (h2 : p1 < (z >>> ((1 : Int32) &&& 31))) :
    MetFree l (⟨"java/lang/StringUTF16", "checkIndex", "(I[B)V"⟩ : MethodName) (head1 (Jvm.Cond.code (⟨"java/lang/StringUTF16", "checkIndex", "(I[B)V"⟩ : MethodName) jdk_52_method_91_code 2 none :: ws) ({ frames := 2, cells := 0, slots := 0, locals := 27 } : Room)) (fun a U => a = #[(.int p1), (.ref a2)] ∧ Z.Warmed39 U.vm ∧ U.heap = h0) (fun _ _ _ _ _ => True) (fun _ U o U' => ∃ v L, o = .returned v ∧ own_Q_uci Z p1 a2 k z vs fm h0 n0 v U'.heap L ∧ FrameEnd U o U' L ({ frames := 2, cells := 0, slots := 0, locals := 27 } : Room).cells ({ frames := 2, cells := 0, slots := 0, locals := 27 } : Room).slots) := by
  refine MetFree.of_bodySF (plainFor_of_name own_pn_0) hisR ?_
  intro p e s m args below meth c s₁ Bd hml0 hP hK
  obtain ⟨rfl, hZ, hh⟩ := hP
  have hx := Bd.exec
  have hby := Bd.bytes
  have hml : c.maxLocals = 2 := hml0
  have hown : s.vm.findClass "java/lang/StringUTF16" = some m.cls := findClass_of_methodNamed Bd.named
  have hnm := (name_of_methodNamed Bd.named Bd.method).1
  have X0 : Stand p l e ({ frames := 2, cells := 0, slots := 0, locals := 27 } : Room) s m #[(.int p1), (.ref a2)] below meth c s₁ [] 0 0 := Stand.of_body Bd
  have e0 : s₁.heap = h0 := by rw [← hh, Bd.state]; rfl
  have N0 := Fr.nil n0
  refine own_start (own_ef_uci m p1 a2 ) ?_
  refine own_of (T' := s₁) (f' := (mkF m 2 #[.val (.int p1), .val (.ref a2)] [(.ref a2), (.int p1)])) (fun t_ k_ => (XS.iloadN X0.here hx rfl (Jvm.hb hby own_d_jdk_52_method_91_code_0) rfl (XS.aloadN X0.here hx rfl (Jvm.hb hby own_d_jdk_52_method_91_code_1) rfl rfl k_))) ?_
  obtain ⟨_, _, ⟨T1, L1, k1, n1⟩, -, X1, ⟨Lc1, hQ1, l1, y1, z1⟩, st1⟩ := Jvm.LawKit.callS X0 hx (y := (⟨"java/lang/StringUTF16", "length", "([B)I"⟩ : MethodName)) hown (mvT hZ (hw _ (List.mem_of_getElem? (i := 123) rfl))) (mvT hZ (hw _ (List.mem_of_getElem? (i := 124) rfl))) (mvT hZ (hw _ (List.mem_of_getElem? (i := 18) rfl))) (mvT hZ (hw _ (List.mem_of_getElem? (i := 125) rfl))) (by decide) (backOf (W := 1) (own_rm_l16 l Z a0 hw [] a2 k z vs h0 n0 Z0 Vt) hZ (hw _ (List.mem_of_getElem? (i := 125) rfl)) (hw _ (List.mem_of_getElem? (i := 18) rfl)) (by decide) (by decide)) (g := (mkF m 2 #[.val (.int p1), .val (.ref a2)] [(.ref a2), (.int p1)])) rfl (by rw [hml]; rfl) (argsL := [(.ref a2)]) (rest := [(.int p1)]) (lenOf own_pd_9 rfl) rfl (by show 2 * 0 + _ ≤ _; exact Nat.le_of_eq rfl) (Jvm.hb hby own_d_jdk_52_method_91_code_2) (fun _ _ => ⟨rfl, e0, Nat.le_of_ble_eq_true rfl, Nat.le_of_ble_eq_true rfl⟩)
  dsimp only [Pt.U, Pt.locs, Pt.cells, Pt.slots] at X1 l1 y1 z1 st1 hQ1
  subst l1 y1 z1
  obtain ⟨rfl, N1, e1⟩ := hQ1
  have N2 := Fr.app N0 N1
  refine own_of (T' := T1) (f' := (mkF m 5 #[.val (.int p1), .val (.ref a2)] [(.int (z >>> ((1 : Int32) &&& 31))), (.int p1)])) (fun t_ k_ => (st1 _ k_)) ?_
  obtain ⟨_, _, ⟨T3, L3, k3, n3⟩, -, X3, ⟨Lc3, hQ3, l3, y3, z3⟩, st3⟩ := Jvm.LawKit.callS X1 hx (y := (⟨"java/lang/String", "checkIndex", "(II)V"⟩ : MethodName)) hown (mvT hZ (hw _ (List.mem_of_getElem? (i := 126) rfl))) (mvT hZ (hw _ (List.mem_of_getElem? (i := 91) rfl))) (mvT hZ (hw _ (List.mem_of_getElem? (i := 4) rfl))) (mvT hZ (hw _ (List.mem_of_getElem? (i := 92) rfl))) (by decide) (backOf (W := 0) (own_rm_sci l Z a0 hw [] p1 (z >>> ((1 : Int32) &&& 31)) fm h0 n0 Z0 SF rfm h1 h2) hZ (hw _ (List.mem_of_getElem? (i := 92) rfl)) (hw _ (List.mem_of_getElem? (i := 4) rfl)) (by decide) (by decide)) (g := (mkF m 5 #[.val (.int p1), .val (.ref a2)] [(.int (z >>> ((1 : Int32) &&& 31))), (.int p1)])) rfl (by rw [hml]; rfl) (argsL := [(.int p1), (.int (z >>> ((1 : Int32) &&& 31)))]) (rest := []) (lenOf own_pd_10 rfl) rfl (by show 2 * 0 + _ ≤ _; exact Nat.le_of_eq rfl) (Jvm.hb hby own_d_jdk_52_method_91_code_5) (fun _ _ => ⟨rfl, e1, Nat.le_of_ble_eq_true rfl, Nat.le_of_ble_eq_true rfl⟩)
  dsimp only [Pt.U, Pt.locs, Pt.cells, Pt.slots] at X3 l3 y3 z3 st3 hQ3
  subst l3 y3 z3
  obtain ⟨rfl, N3, e3⟩ := hQ3
  have N4 := Fr.app N2 N3
  refine own_of (T' := T3) (f' := (mkF m 8 #[.val (.int p1), .val (.ref a2)] [])) (fun t_ k_ => (st3 _ k_)) ?_
  obtain ⟨fs, hr, hrun, hended, hW, hsame⟩ := X3.leave (v := none) (fun _ => rfl)
  exact ⟨_, _, X3.returnOut hx Bd.returns (Jvm.hb hby own_d_jdk_52_method_91_code_8) hr, hrun, hended, _, _, rfl, (by show own_Q_uci Z p1 a2 k z vs fm h0 n0 _ T3.heap _; rw [e3]; exact ⟨rfl, N4, rfl⟩), ⟨_, rfl⟩, hW, hsame.mono (by decide) (by decide)⟩
theorem own_ef_uch (m : MethodId) (a1 : Addr) (p2 : Int32) : entryFrame m #[(.ref a1), (.int p2)] 2 = mkF m 0 #[.val (.ref a1), .val (.int p2)] [] := by first | (simp [entryFrame, mkF, argsToLocals, Value.category]; done) | rfl
def own_Q_uch (Z : State) (a1 : Addr) (p2 : Int32) (k : ClassId) (z : Int32) (vs : List Value) (fm : Value) (cc : Int32) (h0 : Heap) (n0 : Nat) (v : Option Value) (h : Heap) (L : List Loc) : Prop := v = some (.int cc) ∧ Fr n0 L ∧ h = h0
theorem own_d_jdk_52_method_83_code_0 : decode jdk_52_method_83_code 0 = .ok (.iload_n 1, 1) := by decide +kernel
theorem own_d_jdk_52_method_83_code_1 : decode jdk_52_method_83_code 1 = .ok (.aload_n 0, 1) := by decide +kernel
theorem own_d_jdk_52_method_83_code_2 : decode jdk_52_method_83_code 2 = .ok (.invokestatic 67, 3) := by decide +kernel
theorem own_pd_11 : parseMethodDescriptor "(I[B)V" = some ⟨[.int, (.array .byte)], none⟩ := by decide +kernel
theorem own_d_jdk_52_method_83_code_5 : decode jdk_52_method_83_code 5 = .ok (.aload_n 0, 1) := by decide +kernel
theorem own_d_jdk_52_method_83_code_6 : decode jdk_52_method_83_code 6 = .ok (.iload_n 1, 1) := by decide +kernel
theorem own_d_jdk_52_method_83_code_7 : decode jdk_52_method_83_code 7 = .ok (.invokestatic 71, 3) := by decide +kernel
theorem own_d_jdk_52_method_83_code_10 : decode jdk_52_method_83_code 10 = .ok (.ireturn, 1) := by decide +kernel
set_option maxRecDepth 65536 in
set_option maxHeartbeats 40000000 in
theorem own_rm_uch (l : Launch) (Z : State) (a0 : Array Value) (hw : ∀ d ∈ tables_1, d.before a0 Z = true) (ws : List Jvm.Cond) (a1 : Addr) (p2 : Int32) (k : ClassId) (z : Int32) (vs : List Value) (fm : Value) (cc : Int32) (h0 : Heap) (n0 : Nat) (Z0 : n0 ≤ h0.size) (S1 : Sta Z h0 "java/lang/StringUTF16" "$assertionsDisabled" "Z" (.int 1)) (S2 : Sta Z h0 "java/lang/StringUTF16" "HI_BYTE_SHIFT" "I" (.int 0)) (S3 : Sta Z h0 "java/lang/StringUTF16" "LO_BYTE_SHIFT" "I" (.int 8)) (Vt : Arv Z h0 a1 k .byte z vs (.int 0)) (SF : Sta Z h0 "jdk/internal/util/Preconditions" "SIOOBE_FORMATTER" "Ljava/util/function/BiFunction;" fm) (rfm : fm.isRef = true) (hx0 : vs.getD 0 (.int 0) = .int (StrChars.lo8 cc)) (hy0 : vs.getD 1 (.int 0) = .int (StrChars.hi8 cc)) (hc : ¬ cc < 0 ∧ ¬ (65535 : Int32) < cc) (hp : p2 = 0) (hz0 : (0 : Int32) < z) (hz1 : (1 : Int32) < z) (hz2 : (0 : Int32) < (z >>> ((1 : Int32) &&& 31))) :
    MetFree l (⟨"java/lang/StringUTF16", "charAt", "([BI)C"⟩ : MethodName) (head1 (Jvm.Cond.code (⟨"java/lang/StringUTF16", "charAt", "([BI)C"⟩ : MethodName) jdk_52_method_83_code 2 (some .char) :: ws) ({ frames := 3, cells := 0, slots := 0, locals := 40 } : Room)) (fun a U => a = #[(.ref a1), (.int p2)] ∧ Z.Warmed39 U.vm ∧ U.heap = h0) (fun _ _ _ _ _ => True) (fun _ U o U' => ∃ v L, o = .returned v ∧ own_Q_uch Z a1 p2 k z vs fm cc h0 n0 v U'.heap L ∧ FrameEnd U o U' L ({ frames := 3, cells := 0, slots := 0, locals := 40 } : Room).cells ({ frames := 3, cells := 0, slots := 0, locals := 40 } : Room).slots) := by
  refine MetFree.of_bodySF (plainFor_of_name own_pn_0) hisR ?_
  intro p e s m args below meth c s₁ Bd hml0 hP hK
  obtain ⟨rfl, hZ, hh⟩ := hP
  have hx := Bd.exec
  have hby := Bd.bytes
  have hml : c.maxLocals = 2 := hml0
  have hown : s.vm.findClass "java/lang/StringUTF16" = some m.cls := findClass_of_methodNamed Bd.named
  have hnm := (name_of_methodNamed Bd.named Bd.method).1
  have X0 : Stand p l e ({ frames := 3, cells := 0, slots := 0, locals := 40 } : Room) s m #[(.ref a1), (.int p2)] below meth c s₁ [] 0 0 := Stand.of_body Bd
  have e0 : s₁.heap = h0 := by rw [← hh, Bd.state]; rfl
  have N0 := Fr.nil n0
  refine own_start (own_ef_uch m a1 p2 ) ?_
  subst hp
  refine own_of (T' := s₁) (f' := (mkF m 2 #[.val (.ref a1), .val (.int (0 : Int32))] [(.ref a1), (.int (0 : Int32))])) (fun t_ k_ => (XS.iloadN X0.here hx rfl (Jvm.hb hby own_d_jdk_52_method_83_code_0) rfl (XS.aloadN X0.here hx rfl (Jvm.hb hby own_d_jdk_52_method_83_code_1) rfl rfl k_))) ?_
  obtain ⟨_, _, ⟨T1, L1, k1, n1⟩, -, X1, ⟨Lc1, hQ1, l1, y1, z1⟩, st1⟩ := Jvm.LawKit.callS X0 hx (y := (⟨"java/lang/StringUTF16", "checkIndex", "(I[B)V"⟩ : MethodName)) hown (mvT hZ (hw _ (List.mem_of_getElem? (i := 120) rfl))) (mvT hZ (hw _ (List.mem_of_getElem? (i := 121) rfl))) (mvT hZ (hw _ (List.mem_of_getElem? (i := 18) rfl))) (mvT hZ (hw _ (List.mem_of_getElem? (i := 122) rfl))) (by decide) (backOf (W := 0) (own_rm_uci l Z a0 hw [] (0 : Int32) a1 k z vs fm h0 n0 Z0 Vt SF rfm (by decide) hz2) hZ (hw _ (List.mem_of_getElem? (i := 122) rfl)) (hw _ (List.mem_of_getElem? (i := 18) rfl)) (by decide) (by decide)) (g := (mkF m 2 #[.val (.ref a1), .val (.int (0 : Int32))] [(.ref a1), (.int (0 : Int32))])) rfl (by rw [hml]; rfl) (argsL := [(.int (0 : Int32)), (.ref a1)]) (rest := []) (lenOf own_pd_11 rfl) rfl (by show 2 * 0 + _ ≤ _; exact Nat.le_of_eq rfl) (Jvm.hb hby own_d_jdk_52_method_83_code_2) (fun _ _ => ⟨rfl, e0, Nat.le_of_ble_eq_true rfl, Nat.le_of_ble_eq_true rfl⟩)
  dsimp only [Pt.U, Pt.locs, Pt.cells, Pt.slots] at X1 l1 y1 z1 st1 hQ1
  subst l1 y1 z1
  obtain ⟨rfl, N1, e1⟩ := hQ1
  have N2 := Fr.app N0 N1
  refine own_of (T' := T1) (f' := (mkF m 7 #[.val (.ref a1), .val (.int (0 : Int32))] [(.int (0 : Int32)), (.ref a1)])) (fun t_ k_ => (st1 _ (XS.aloadN X1.here hx rfl (Jvm.hb hby own_d_jdk_52_method_83_code_5) rfl rfl (XS.iloadN X1.here hx rfl (Jvm.hb hby own_d_jdk_52_method_83_code_6) rfl k_)))) ?_
  obtain ⟨_, _, ⟨T3, L3, k3, n3⟩, -, X3, ⟨Lc3, hQ3, l3, y3, z3⟩, st3⟩ := Jvm.LawKit.callS X1 hx (y := (⟨"java/lang/StringUTF16", "getChar", "([BI)C"⟩ : MethodName)) hown (mvT hZ (hw _ (List.mem_of_getElem? (i := 114) rfl))) (mvT hZ (hw _ (List.mem_of_getElem? (i := 115) rfl))) (mvT hZ (hw _ (List.mem_of_getElem? (i := 18) rfl))) (mvT hZ (hw _ (List.mem_of_getElem? (i := 116) rfl))) (by decide) (backOf (W := 0) (own_rm_gch0 l Z a0 hw [] a1 (0 : Int32) k z vs cc h0 n0 Z0 S1 S2 S3 Vt rfl hz0 hz1 hx0 hy0 hc) hZ (hw _ (List.mem_of_getElem? (i := 116) rfl)) (hw _ (List.mem_of_getElem? (i := 18) rfl)) (by decide) (by decide)) (g := (mkF m 7 #[.val (.ref a1), .val (.int (0 : Int32))] [(.int (0 : Int32)), (.ref a1)])) rfl (by rw [hml]; rfl) (argsL := [(.ref a1), (.int (0 : Int32))]) (rest := []) (lenOf own_pd_5 rfl) rfl (by show 2 * 0 + _ ≤ _; exact Nat.le_of_eq rfl) (Jvm.hb hby own_d_jdk_52_method_83_code_7) (fun _ _ => ⟨rfl, e1, Nat.le_of_ble_eq_true rfl, Nat.le_of_ble_eq_true rfl⟩)
  dsimp only [Pt.U, Pt.locs, Pt.cells, Pt.slots] at X3 l3 y3 z3 st3 hQ3
  subst l3 y3 z3
  obtain ⟨rfl, N3, e3⟩ := hQ3
  have N4 := Fr.app N2 N3
  refine own_of (T' := T3) (f' := (mkF m 10 #[.val (.ref a1), .val (.int (0 : Int32))] [(.int cc)])) (fun t_ k_ => (st3 _ k_)) ?_
  have hnc := own_nc cc hc
  obtain ⟨fs, hr, hrun, hended, hW, hsame⟩ := X3.leave (v := some (.int (nar .char cc))) (fun h => by rw [Bd.returns] at h; cases h)
  exact ⟨_, _, retN X3 hx (t := .char) Bd.returns (by simp) (Jvm.hb hby own_d_jdk_52_method_83_code_10) hr, hrun, hended, _, _, rfl, (by show own_Q_uch Z a1 0 k z vs fm cc h0 n0 _ T3.heap _; rw [e3]; exact ⟨by rw [hnc], N4, rfl⟩), ⟨_, rfl⟩, hW, hsame.mono (by decide) (by decide)⟩
theorem own_ef_lat (m : MethodId) (a1 : Addr) : entryFrame m #[(.ref a1)] 1 = mkF m 0 #[.val (.ref a1)] [] := by first | (simp [entryFrame, mkF, argsToLocals, Value.category]; done) | rfl
def own_Q_lat (Z : State) (a1 : Addr) (G1 : Int32) (h0 : Heap) (n0 : Nat) (v : Option Value) (h : Heap) (L : List Loc) : Prop := v = some (.int 0) ∧ Fr n0 L ∧ h = h0
theorem own_d_jdk_42_method_154_code_0 : decode jdk_42_method_154_code 0 = .ok (.getstatic 38, 3) := by decide +kernel
theorem own_d_jdk_42_method_154_code_3 : decode jdk_42_method_154_code 3 = .ok (.ifCond .eq 14, 3) := by decide +kernel
theorem own_d_jdk_42_method_154_code_6 : decode jdk_42_method_154_code 6 = .ok (.aload_n 0, 1) := by decide +kernel
theorem own_d_jdk_42_method_154_code_7 : decode jdk_42_method_154_code 7 = .ok (.getfield 15, 3) := by decide +kernel
theorem own_d_jdk_42_method_154_code_10 : decode jdk_42_method_154_code 10 = .ok (.ifCond .ne 7, 3) := by decide +kernel
theorem own_d_jdk_42_method_154_code_17 : decode jdk_42_method_154_code 17 = .ok (.iconst 0, 1) := by decide +kernel
theorem own_d_jdk_42_method_154_code_18 : decode jdk_42_method_154_code 18 = .ok (.ireturn, 1) := by decide +kernel
set_option maxRecDepth 65536 in
set_option maxHeartbeats 40000000 in
theorem own_rm_lat (l : Launch) (Z : State) (a0 : Array Value) (hw : ∀ d ∈ tables_1, d.before a0 Z = true) (ws : List Jvm.Cond) (a1 : Addr) (G1 : Int32) (h0 : Heap) (n0 : Nat) (Z0 : n0 ≤ h0.size) (SC : Sta Z h0 "java/lang/String" "COMPACT_STRINGS" "Z" (.int G1)) (P5 : ¬ (G1 = (0 : Int32))) (F2 : Fld Z h0 a1 "java/lang/String" "coder" "B" (.int 1)) :
    MetFree l (⟨"java/lang/String", "isLatin1", "()Z"⟩ : MethodName) (head1 (Jvm.Cond.code (⟨"java/lang/String", "isLatin1", "()Z"⟩ : MethodName) jdk_42_method_154_code 1 (some .boolean) :: ws) ({ frames := 0, cells := 0, slots := 0, locals := 0 } : Room)) (fun a U => a = #[(.ref a1)] ∧ Z.Warmed39 U.vm ∧ U.heap = h0) (fun _ _ _ _ _ => True) (fun _ U o U' => ∃ v L, o = .returned v ∧ own_Q_lat Z a1 G1 h0 n0 v U'.heap L ∧ FrameEnd U o U' L ({ frames := 0, cells := 0, slots := 0, locals := 0 } : Room).cells ({ frames := 0, cells := 0, slots := 0, locals := 0 } : Room).slots) := by
  refine MetFree.of_bodySF (plainFor_of_name own_pn_1) hisR ?_
  intro p e s m args below meth c s₁ Bd hml0 hP hK
  obtain ⟨rfl, hZ, hh⟩ := hP
  have hx := Bd.exec
  have hby := Bd.bytes
  have hml : c.maxLocals = 1 := hml0
  have hown : s.vm.findClass "java/lang/String" = some m.cls := findClass_of_methodNamed Bd.named
  have hnm := (name_of_methodNamed Bd.named Bd.method).1
  have X0 : Stand p l e ({ frames := 0, cells := 0, slots := 0, locals := 0 } : Room) s m #[(.ref a1)] below meth c s₁ [] 0 0 := Stand.of_body Bd
  have e0 : s₁.heap = h0 := by rw [← hh, Bd.state]; rfl
  have N0 := Fr.nil n0
  refine own_start (own_ef_lat m a1 ) ?_
  obtain ⟨T1, X1, e1, st1⟩ := getS2 X0 hx hZ hown (host := "") (Or.inl (hw _ (List.mem_of_getElem? (i := 15) rfl))) Via.refl e0 SC (g := (mkF m 0 #[.val (.ref a1)] [])) rfl (Jvm.hb hby own_d_jdk_42_method_154_code_0)
  obtain ⟨T2, X2, e2, st2⟩ := getF X1 hx hZ hown (host := "") (Or.inl (hw _ (List.mem_of_getElem? (i := 27) rfl))) Via.refl e1 F2 (g := (mkF m 7 #[.val (.ref a1)] [(.ref a1)])) rfl rfl (Jvm.hb hby own_d_jdk_42_method_154_code_7)
  refine own_of (T' := T2) (f' := (mkF m 18 #[.val (.ref a1)] [(.int (0 : Int32))])) (fun t_ k_ => (st1 _ (XS.ifNo X1.here hx rfl (Jvm.hb hby own_d_jdk_42_method_154_code_3) rfl ((if0 _ _).trans (feq P5).1) (XS.aloadN X1.here hx rfl (Jvm.hb hby own_d_jdk_42_method_154_code_6) rfl rfl (st2 _ (XS.ifYes X2.here hx rfl (pc0 := 10) (pc' := 17) rfl (Jvm.hb hby own_d_jdk_42_method_154_code_10) rfl ((if0 _ _).trans (feq (by decide)).2) (by decide) (by decide) (XS.iconst X2.here hx rfl (Jvm.hb hby own_d_jdk_42_method_154_code_17) k_))))))) ?_
  obtain ⟨fs, hr, hrun, hended, hW, hsame⟩ := X2.leave (v := some (.int (0 : Int32))) (fun h => by rw [Bd.returns] at h; cases h)
  exact ⟨_, _, retN X2 hx (t := .boolean) Bd.returns (by simp) (Jvm.hb hby own_d_jdk_42_method_154_code_18) hr, hrun, hended, _, _, rfl, (by show own_Q_lat Z a1 G1 h0 n0 _ T2.heap _; rw [e2]; exact ⟨rfl, N0, rfl⟩), ⟨_, rfl⟩, hW, hsame.mono (by decide) (by decide)⟩
theorem own_ef_cha (m : MethodId) (a1 : Addr) (p2 : Int32) : entryFrame m #[(.ref a1), (.int p2)] 2 = mkF m 0 #[.val (.ref a1), .val (.int p2)] [] := by first | (simp [entryFrame, mkF, argsToLocals, Value.category]; done) | rfl
def own_Q_cha (Z : State) (a1 : Addr) (p2 : Int32) (k : ClassId) (z : Int32) (vs : List Value) (fm : Value) (cc : Int32) (t : Addr) (G1 : Int32) (h0 : Heap) (n0 : Nat) (v : Option Value) (h : Heap) (L : List Loc) : Prop := v = some (.int cc) ∧ Fr n0 L ∧ h = h0
theorem own_d_jdk_42_method_56_code_0 : decode jdk_42_method_56_code 0 = .ok (.aload_n 0, 1) := by decide +kernel
theorem own_d_jdk_42_method_56_code_1 : decode jdk_42_method_56_code 1 = .ok (.invokevirtual 492, 3) := by decide +kernel
theorem own_pd_12 : parseMethodDescriptor "()Z" = some ⟨[], some .boolean⟩ := by decide +kernel
theorem own_d_jdk_42_method_56_code_4 : decode jdk_42_method_56_code 4 = .ok (.ifCond .eq 12, 3) := by decide +kernel
theorem own_d_jdk_42_method_56_code_16 : decode jdk_42_method_56_code 16 = .ok (.aload_n 0, 1) := by decide +kernel
theorem own_d_jdk_42_method_56_code_17 : decode jdk_42_method_56_code 17 = .ok (.getfield 9, 3) := by decide +kernel
theorem own_d_jdk_42_method_56_code_20 : decode jdk_42_method_56_code 20 = .ok (.iload_n 1, 1) := by decide +kernel
theorem own_d_jdk_42_method_56_code_21 : decode jdk_42_method_56_code 21 = .ok (.invokestatic 498, 3) := by decide +kernel
theorem own_d_jdk_42_method_56_code_24 : decode jdk_42_method_56_code 24 = .ok (.ireturn, 1) := by decide +kernel
set_option maxRecDepth 65536 in
set_option maxHeartbeats 40000000 in
theorem own_rm_cha (l : Launch) (Z : State) (a0 : Array Value) (hw : ∀ d ∈ tables_1, d.before a0 Z = true) (ws : List Jvm.Cond) (a1 : Addr) (p2 : Int32) (k : ClassId) (z : Int32) (vs : List Value) (fm : Value) (cc : Int32) (t : Addr) (G1 : Int32) (h0 : Heap) (n0 : Nat) (Z0 : n0 ≤ h0.size) (S1 : Sta Z h0 "java/lang/StringUTF16" "$assertionsDisabled" "Z" (.int 1)) (S2 : Sta Z h0 "java/lang/StringUTF16" "HI_BYTE_SHIFT" "I" (.int 0)) (S3 : Sta Z h0 "java/lang/StringUTF16" "LO_BYTE_SHIFT" "I" (.int 8)) (SC : Sta Z h0 "java/lang/String" "COMPACT_STRINGS" "Z" (.int G1)) (P5 : ¬ (G1 = (0 : Int32))) (E1 : Exa Z h0 a1 "java/lang/String") (F1 : Fld Z h0 a1 "java/lang/String" "value" "[B" (.ref t)) (F2 : Fld Z h0 a1 "java/lang/String" "coder" "B" (.int 1)) (Vt : Arv Z h0 t k .byte z vs (.int 0)) (SF : Sta Z h0 "jdk/internal/util/Preconditions" "SIOOBE_FORMATTER" "Ljava/util/function/BiFunction;" fm) (rfm : fm.isRef = true) (hx0 : vs.getD 0 (.int 0) = .int (StrChars.lo8 cc)) (hy0 : vs.getD 1 (.int 0) = .int (StrChars.hi8 cc)) (hc : ¬ cc < 0 ∧ ¬ (65535 : Int32) < cc) (hp : p2 = 0) (hz0 : (0 : Int32) < z) (hz1 : (1 : Int32) < z) (hz2 : (0 : Int32) < (z >>> ((1 : Int32) &&& 31))) :
    MetFree l (⟨"java/lang/String", "charAt", "(I)C"⟩ : MethodName) (head1 (Jvm.Cond.code (⟨"java/lang/String", "charAt", "(I)C"⟩ : MethodName) jdk_42_method_56_code 2 (some .char) :: ws) ({ frames := 4, cells := 0, slots := 0, locals := 53 } : Room)) (fun a U => a = #[(.ref a1), (.int p2)] ∧ Z.Warmed39 U.vm ∧ U.heap = h0) (fun _ _ _ _ _ => True) (fun _ U o U' => ∃ v L, o = .returned v ∧ own_Q_cha Z a1 p2 k z vs fm cc t G1 h0 n0 v U'.heap L ∧ FrameEnd U o U' L ({ frames := 4, cells := 0, slots := 0, locals := 53 } : Room).cells ({ frames := 4, cells := 0, slots := 0, locals := 53 } : Room).slots) := by
  refine MetFree.of_bodySF (plainFor_of_name own_pn_1) hisR ?_
  intro p e s m args below meth c s₁ Bd hml0 hP hK
  obtain ⟨rfl, hZ, hh⟩ := hP
  have hx := Bd.exec
  have hby := Bd.bytes
  have hml : c.maxLocals = 2 := hml0
  have hown : s.vm.findClass "java/lang/String" = some m.cls := findClass_of_methodNamed Bd.named
  have hnm := (name_of_methodNamed Bd.named Bd.method).1
  have X0 : Stand p l e ({ frames := 4, cells := 0, slots := 0, locals := 53 } : Room) s m #[(.ref a1), (.int p2)] below meth c s₁ [] 0 0 := Stand.of_body Bd
  have e0 : s₁.heap = h0 := by rw [← hh, Bd.state]; rfl
  have N0 := Fr.nil n0
  refine own_start (own_ef_cha m a1 p2 ) ?_
  subst hp
  refine own_of (T' := s₁) (f' := (mkF m 1 #[.val (.ref a1), .val (.int (0 : Int32))] [(.ref a1)])) (fun t_ k_ => (XS.aloadN X0.here hx rfl (Jvm.hb hby own_d_jdk_42_method_56_code_0) rfl rfl k_)) ?_
  obtain ⟨cq2, kq2, q2a, q2b, q2c⟩ := isOf hZ e0 E1
  obtain ⟨_, _, ⟨T1, L1, k1, n1⟩, -, X1, ⟨Lc1, hQ1, l1, y1, z1⟩, st1⟩ := X0.virtualBack hx (y := (⟨"java/lang/String", "isLatin1", "()Z"⟩ : MethodName)) (z := (⟨"java/lang/String", "isLatin1", "()Z"⟩ : MethodName)) hown (mvT hZ (hw _ (List.mem_of_getElem? (i := 81) rfl))) (mvT hZ (hw _ (List.mem_of_getElem? (i := 82) rfl))) (notFace_of_selects (args := #[]) (mvT hZ (hw _ (List.mem_of_getElem? (i := 84) rfl)))) (mvT hZ (hw _ (List.mem_of_getElem? (i := 84) rfl))) (mvT hZ (hw _ (List.mem_of_getElem? (i := 83) rfl))) (by decide) (backOf (W := 0) (own_rm_lat l Z a0 hw [] a1 G1 h0 n0 Z0 SC P5 F2) hZ (hw _ (List.mem_of_getElem? (i := 85) rfl)) (hw _ (List.mem_of_getElem? (i := 4) rfl)) (by decide) (by decide)) q2a q2c (g := (mkF m 1 #[.val (.ref a1), .val (.int (0 : Int32))] [(.ref a1)])) rfl (by rw [hml]; rfl) (Steps.refl _) (argsL := []) (rest := []) (lenOf own_pd_12 rfl) rfl (by show 2 * 0 + _ ≤ _; exact Nat.le_of_eq rfl) (Jvm.hb hby own_d_jdk_42_method_56_code_1) (fun _ _ => ⟨rfl, e0, Nat.le_of_ble_eq_true rfl, Nat.le_of_ble_eq_true rfl⟩)
  dsimp only [Pt.U, Pt.locs, Pt.cells, Pt.slots] at X1 l1 y1 z1 st1 hQ1
  subst l1 y1 z1
  obtain ⟨rfl, N1, e1⟩ := hQ1
  have N3 := Fr.app N0 N1
  obtain ⟨T4, X4, e4, st4⟩ := getF X1 hx hZ hown (host := "") (Or.inl (hw _ (List.mem_of_getElem? (i := 29) rfl))) Via.refl e1 F1 (g := (mkF m 17 #[.val (.ref a1), .val (.int (0 : Int32))] [(.ref a1)])) rfl rfl (Jvm.hb hby own_d_jdk_42_method_56_code_17)
  refine own_of (T' := T4) (f' := (mkF m 21 #[.val (.ref a1), .val (.int (0 : Int32))] [(.int (0 : Int32)), (.ref t)])) (fun t_ k_ => (st1.trans (XS.ifYes X1.here hx rfl (pc0 := 4) (pc' := 16) rfl (Jvm.hb hby own_d_jdk_42_method_56_code_4) rfl ((if0 _ _).trans (teq rfl).1) (by decide) (by decide) (XS.aloadN X1.here hx rfl (Jvm.hb hby own_d_jdk_42_method_56_code_16) rfl rfl (st4 _ (XS.iloadN X4.here hx rfl (Jvm.hb hby own_d_jdk_42_method_56_code_20) rfl k_)))))) ?_
  obtain ⟨_, _, ⟨T5, L5, k5, n5⟩, -, X5, ⟨Lc5, hQ5, l5, y5, z5⟩, st5⟩ := Jvm.LawKit.callS X4 hx (y := (⟨"java/lang/StringUTF16", "charAt", "([BI)C"⟩ : MethodName)) hown (mvT hZ (hw _ (List.mem_of_getElem? (i := 117) rfl))) (mvT hZ (hw _ (List.mem_of_getElem? (i := 118) rfl))) (mvT hZ (hw _ (List.mem_of_getElem? (i := 18) rfl))) (mvT hZ (hw _ (List.mem_of_getElem? (i := 119) rfl))) (by decide) (backOf (W := 0) (own_rm_uch l Z a0 hw [] t (0 : Int32) k z vs fm cc h0 n0 Z0 S1 S2 S3 Vt SF rfm hx0 hy0 hc rfl hz0 hz1 hz2) hZ (hw _ (List.mem_of_getElem? (i := 119) rfl)) (hw _ (List.mem_of_getElem? (i := 18) rfl)) (by decide) (by decide)) (g := (mkF m 21 #[.val (.ref a1), .val (.int (0 : Int32))] [(.int (0 : Int32)), (.ref t)])) rfl (by rw [hml]; rfl) (argsL := [(.ref t), (.int (0 : Int32))]) (rest := []) (lenOf own_pd_5 rfl) rfl (by show 2 * 0 + _ ≤ _; exact Nat.le_of_eq rfl) (Jvm.hb hby own_d_jdk_42_method_56_code_21) (fun _ _ => ⟨rfl, e4, Nat.le_of_ble_eq_true rfl, Nat.le_of_ble_eq_true rfl⟩)
  dsimp only [Pt.U, Pt.locs, Pt.cells, Pt.slots] at X5 l5 y5 z5 st5 hQ5
  subst l5 y5 z5
  obtain ⟨rfl, N5, e5⟩ := hQ5
  have N6 := Fr.app N3 N5
  refine own_of (T' := T5) (f' := (mkF m 24 #[.val (.ref a1), .val (.int (0 : Int32))] [(.int cc)])) (fun t_ k_ => (st5 _ k_)) ?_
  have hnc := own_nc cc hc
  obtain ⟨fs, hr, hrun, hended, hW, hsame⟩ := X5.leave (v := some (.int (nar .char cc))) (fun h => by rw [Bd.returns] at h; cases h)
  exact ⟨_, _, retN X5 hx (t := .char) Bd.returns (by simp) (Jvm.hb hby own_d_jdk_42_method_56_code_24) hr, hrun, hended, _, _, rfl, (by show own_Q_cha Z a1 0 k z vs fm cc t G1 h0 n0 _ T5.heap _; rw [e5]; exact ⟨by rw [hnc], N6, rfl⟩), ⟨_, rfl⟩, hW, hsame.mono (by decide) (by decide)⟩
theorem own_pn_3 : plainName "java/lang/Record" = true := by first | (simp [plainName, overriddenIn]; done) | decide +kernel
theorem own_ef_rec (m : MethodId) (a1 : Addr) : entryFrame m #[(.ref a1)] 1 = mkF m 0 #[.val (.ref a1)] [] := by first | (simp [entryFrame, mkF, argsToLocals, Value.category]; done) | rfl
def own_Q_rec (Z : State) (a1 : Addr)  (h0 : Heap) (n0 : Nat) (v : Option Value) (h : Heap) (L : List Loc) : Prop := v = none ∧ Fr n0 L ∧ h = h0
theorem own_d_jdk_30_method_1_code_0 : decode jdk_30_method_1_code 0 = .ok (.aload_n 0, 1) := by decide +kernel
theorem own_d_jdk_30_method_1_code_1 : decode jdk_30_method_1_code 1 = .ok (.invokespecial 1, 3) := by decide +kernel
theorem own_d_jdk_30_method_1_code_4 : decode jdk_30_method_1_code 4 = .ok (.return_, 1) := by decide +kernel
set_option maxRecDepth 65536 in
set_option maxHeartbeats 40000000 in
theorem own_rm_rec (l : Launch) (Z : State) (a0 : Array Value) (hw : ∀ d ∈ tables_1, d.before a0 Z = true) (ws : List Jvm.Cond) (a1 : Addr)  (h0 : Heap) (n0 : Nat) (Z0 : n0 ≤ h0.size)  :
    MetFree l (⟨"java/lang/Record", "<init>", "()V"⟩ : MethodName) (head1 (Jvm.Cond.code (⟨"java/lang/Record", "<init>", "()V"⟩ : MethodName) jdk_30_method_1_code 1 none :: ws) ({ frames := 1, cells := 0, slots := 0, locals := 12 } : Room)) (fun a U => a = #[(.ref a1)] ∧ Z.Warmed39 U.vm ∧ U.heap = h0) (fun _ _ _ _ _ => True) (fun _ U o U' => ∃ v L, o = .returned v ∧ own_Q_rec Z a1  h0 n0 v U'.heap L ∧ FrameEnd U o U' L ({ frames := 1, cells := 0, slots := 0, locals := 12 } : Room).cells ({ frames := 1, cells := 0, slots := 0, locals := 12 } : Room).slots) := by
  refine MetFree.of_bodySF (plainFor_of_name own_pn_3) hisR ?_
  intro p e s m args below meth c s₁ Bd hml0 hP hK
  obtain ⟨rfl, hZ, hh⟩ := hP
  have hx := Bd.exec
  have hby := Bd.bytes
  have hml : c.maxLocals = 1 := hml0
  have hown : s.vm.findClass "java/lang/Record" = some m.cls := findClass_of_methodNamed Bd.named
  have hnm := (name_of_methodNamed Bd.named Bd.method).1
  have X0 : Stand p l e ({ frames := 1, cells := 0, slots := 0, locals := 12 } : Room) s m #[(.ref a1)] below meth c s₁ [] 0 0 := Stand.of_body Bd
  have e0 : s₁.heap = h0 := by rw [← hh, Bd.state]; rfl
  have N0 := Fr.nil n0
  refine own_start (own_ef_rec m a1 ) ?_
  obtain ⟨T1, X1, e1, st1⟩ := initO X0 hx hZ hown (hw _ (List.mem_of_getElem? (i := 49) rfl)) (hw _ (List.mem_of_getElem? (i := 13) rfl)) (hw _ (List.mem_of_getElem? (i := 14) rfl)) e0 (g := (mkF m 1 #[.val (.ref a1)] [(.ref a1)])) rfl (by rw [hml]; rfl) rfl (Jvm.hb hby own_d_jdk_30_method_1_code_1) (by decide) (W := 0) (by show 2 * 0 + _ ≤ _; exact Nat.le_of_eq rfl) (by decide)
  refine own_of (T' := T1) (f' := (mkF m 4 #[.val (.ref a1)] [])) (fun t_ k_ => (XS.aloadN X0.here hx rfl (Jvm.hb hby own_d_jdk_30_method_1_code_0) rfl rfl (st1 _ k_))) ?_
  obtain ⟨fs, hr, hrun, hended, hW, hsame⟩ := X1.leave (v := none) (fun _ => rfl)
  exact ⟨_, _, X1.returnOut hx Bd.returns (Jvm.hb hby own_d_jdk_30_method_1_code_4) hr, hrun, hended, _, _, rfl, (by show own_Q_rec Z a1  h0 n0 _ T1.heap _; rw [e1]; exact ⟨rfl, N0, rfl⟩), ⟨_, rfl⟩, hW, hsame.mono (by decide) (by decide)⟩
theorem own_pn_4 : plainName "com/example/austere_auth/austereauth/refusal/Refusal" = true := by first | (simp [plainName, overriddenIn]; done) | decide +kernel
theorem own_ef_r4 (m : MethodId) (a1 : Addr) (p2 : Int32) (a3 : Addr) (a4 : Addr) : entryFrame m #[(.ref a1), (.int p2), (.ref a3), (.ref a4), .null] 5 = mkF m 0 #[.val (.ref a1), .val (.int p2), .val (.ref a3), .val (.ref a4), .val .null] [] := by first | (simp [entryFrame, mkF, argsToLocals, Value.category]; done) | rfl
def own_Q_r4 (Z : State) (a1 : Addr) (p2 : Int32) (a3 : Addr) (a4 : Addr)  (h0 : Heap) (n0 : Nat) (v : Option Value) (h : Heap) (L : List Loc) : Prop := v = none ∧ Fr n0 L ∧ Keep h0 h [a1]
theorem own_d_prog_24_method_2_code_0 : decode prog_24_method_2_code 0 = .ok (.aload_n 0, 1) := by decide +kernel
theorem own_d_prog_24_method_2_code_1 : decode prog_24_method_2_code 1 = .ok (.invokespecial 1, 3) := by decide +kernel
theorem own_pd_13 : parseMethodDescriptor "()V" = some ⟨[], none⟩ := by decide +kernel
theorem own_d_prog_24_method_2_code_4 : decode prog_24_method_2_code 4 = .ok (.aload_n 0, 1) := by decide +kernel
theorem own_d_prog_24_method_2_code_5 : decode prog_24_method_2_code 5 = .ok (.iload_n 1, 1) := by decide +kernel
theorem own_d_prog_24_method_2_code_6 : decode prog_24_method_2_code 6 = .ok (.putfield 7, 3) := by decide +kernel
theorem own_d_prog_24_method_2_code_9 : decode prog_24_method_2_code 9 = .ok (.aload_n 0, 1) := by decide +kernel
theorem own_d_prog_24_method_2_code_10 : decode prog_24_method_2_code 10 = .ok (.aload_n 2, 1) := by decide +kernel
theorem own_d_prog_24_method_2_code_11 : decode prog_24_method_2_code 11 = .ok (.putfield 13, 3) := by decide +kernel
theorem own_d_prog_24_method_2_code_14 : decode prog_24_method_2_code 14 = .ok (.aload_n 0, 1) := by decide +kernel
theorem own_d_prog_24_method_2_code_15 : decode prog_24_method_2_code 15 = .ok (.aload_n 3, 1) := by decide +kernel
theorem own_d_prog_24_method_2_code_16 : decode prog_24_method_2_code 16 = .ok (.putfield 17, 3) := by decide +kernel
theorem own_d_prog_24_method_2_code_19 : decode prog_24_method_2_code 19 = .ok (.aload_n 0, 1) := by decide +kernel
theorem own_d_prog_24_method_2_code_20 : decode prog_24_method_2_code 20 = .ok (.aload 4, 2) := by decide +kernel
theorem own_d_prog_24_method_2_code_22 : decode prog_24_method_2_code 22 = .ok (.putfield 20, 3) := by decide +kernel
theorem own_d_prog_24_method_2_code_25 : decode prog_24_method_2_code 25 = .ok (.return_, 1) := by decide +kernel
set_option maxRecDepth 65536 in
set_option maxHeartbeats 40000000 in
theorem own_rm_r4 (l : Launch) (Z : State) (a0 : Array Value) (hw : ∀ d ∈ tables_1, d.before a0 Z = true) (ws : List Jvm.Cond) (a1 : Addr) (p2 : Int32) (a3 : Addr) (a4 : Addr)  (h0 : Heap) (n0 : Nat) (Z0 : n0 ≤ h0.size) (F0 : Fld Z h0 a1 "com/example/austere_auth/austereauth/refusal/Refusal" "status" "I" (.int 0)) (F1 : Fld Z h0 a1 "com/example/austere_auth/austereauth/refusal/Refusal" "error" "Ljava/lang/String;" .null) (F2 : Fld Z h0 a1 "com/example/austere_auth/austereauth/refusal/Refusal" "description" "Ljava/lang/String;" .null) (F3 : Fld Z h0 a1 "com/example/austere_auth/austereauth/refusal/Refusal" "scope" "Ljava/lang/String;" .null) (E1 : Exa Z h0 a1 "com/example/austere_auth/austereauth/refusal/Refusal") (g_a1 : n0 ≤ a1) :
    MetFree l (⟨"com/example/austere_auth/austereauth/refusal/Refusal", "<init>", "(ILjava/lang/String;Ljava/lang/String;Ljava/lang/String;)V"⟩ : MethodName) (head1 (Jvm.Cond.code (⟨"com/example/austere_auth/austereauth/refusal/Refusal", "<init>", "(ILjava/lang/String;Ljava/lang/String;Ljava/lang/String;)V"⟩ : MethodName) prog_24_method_2_code 5 none :: ws) ({ frames := 2, cells := 0, slots := 0, locals := 24 } : Room)) (fun a U => a = #[(.ref a1), (.int p2), (.ref a3), (.ref a4), .null] ∧ Z.Warmed39 U.vm ∧ U.heap = h0) (fun _ _ _ _ _ => True) (fun _ U o U' => ∃ v L, o = .returned v ∧ own_Q_r4 Z a1 p2 a3 a4  h0 n0 v U'.heap L ∧ FrameEnd U o U' L ({ frames := 2, cells := 0, slots := 0, locals := 24 } : Room).cells ({ frames := 2, cells := 0, slots := 0, locals := 24 } : Room).slots) := by
  refine MetFree.of_bodySF (plainFor_of_name own_pn_4) hisR ?_
  intro p e s m args below meth c s₁ Bd hml0 hP hK
  obtain ⟨rfl, hZ, hh⟩ := hP
  have hx := Bd.exec
  have hby := Bd.bytes
  have hml : c.maxLocals = 5 := hml0
  have hown : s.vm.findClass "com/example/austere_auth/austereauth/refusal/Refusal" = some m.cls := findClass_of_methodNamed Bd.named
  have hnm := (name_of_methodNamed Bd.named Bd.method).1
  have X0 : Stand p l e ({ frames := 2, cells := 0, slots := 0, locals := 24 } : Room) s m #[(.ref a1), (.int p2), (.ref a3), (.ref a4), .null] below meth c s₁ [] 0 0 := Stand.of_body Bd
  have e0 : s₁.heap = h0 := by rw [← hh, Bd.state]; rfl
  have N0 := Fr.nil n0
  refine own_start (own_ef_r4 m a1 p2 a3 a4 ) ?_
  have K0 : Keep h0 h0 [a1] := Keep.refl _ _
  refine own_of (T' := s₁) (f' := (mkF m 1 #[.val (.ref a1), .val (.int p2), .val (.ref a3), .val (.ref a4), .val .null] [(.ref a1)])) (fun t_ k_ => (XS.aloadN X0.here hx rfl (Jvm.hb hby own_d_prog_24_method_2_code_0) rfl rfl k_)) ?_
  obtain ⟨_, _, ⟨T1, L1, k1, n1⟩, -, X1, ⟨Lc1, hQ1, l1, y1, z1⟩, st1⟩ := X0.specialBack hx (y := (⟨"java/lang/Record", "<init>", "()V"⟩ : MethodName)) rfl hown (mvT hZ (hw _ (List.mem_of_getElem? (i := 44) rfl))) (mvT hZ (hw _ (List.mem_of_getElem? (i := 45) rfl))) (mvT hZ (hw _ (List.mem_of_getElem? (i := 48) rfl))) (by decide) (backOf (W := 0) (own_rm_rec l Z a0 hw [] a1 h0 n0 Z0) hZ (hw _ (List.mem_of_getElem? (i := 48) rfl)) (hw _ (List.mem_of_getElem? (i := 47) rfl)) (by decide) (by decide)) (g := (mkF m 1 #[.val (.ref a1), .val (.int p2), .val (.ref a3), .val (.ref a4), .val .null] [(.ref a1)])) rfl (by rw [hml]; rfl) (Steps.refl _) (a := a1) (argsL := []) (rest := []) (lenOf own_pd_13 rfl) rfl (by show 2 * 0 + _ ≤ _; exact Nat.le_of_eq rfl) (Jvm.hb hby own_d_prog_24_method_2_code_1) (fun _ _ => ⟨rfl, e0, Nat.le_of_ble_eq_true rfl, Nat.le_of_ble_eq_true rfl⟩)
  dsimp only [Pt.U, Pt.locs, Pt.cells, Pt.slots] at X1 l1 y1 z1 st1 hQ1
  subst l1 y1 z1
  obtain ⟨rfl, N1, e1⟩ := hQ1
  have N2 := Fr.app N0 N1
  obtain ⟨T3, h3, X3, e3, W3, st3⟩ := putF X1 hx hZ hown (host := "") (Or.inl (hw _ (List.mem_of_getElem? (i := 50) rfl))) Via.refl e1 F0 E1 (Or.inr ⟨(hw _ (List.mem_of_getElem? (i := 51) rfl)), rfl, hnm⟩) (hw _ (List.mem_of_getElem? (i := 32) rfl)) (ty := .int) (by decide) rfl rfl (g := (mkF m 6 #[.val (.ref a1), .val (.int p2), .val (.ref a3), .val (.ref a4), .val .null] [(.int p2), (.ref a1)])) rfl rfl (Jvm.hb hby own_d_prog_24_method_2_code_6)
  refine own_of (T' := T3) (f' := (mkF m 9 #[.val (.ref a1), .val (.int p2), .val (.ref a3), .val (.ref a4), .val .null] [])) (fun t_ k_ => (st1.trans (XS.aloadN X1.here hx rfl (Jvm.hb hby own_d_prog_24_method_2_code_4) rfl rfl (XS.iloadN X1.here hx rfl (Jvm.hb hby own_d_prog_24_method_2_code_5) rfl (st3 _ k_))))) ?_
  have N3 := Fr.snoc X3 N2 g_a1
  have f4 := K0.wr W3 (Or.inl (List.mem_of_getElem? (i := 0) rfl))
  have f5 := Nat.le_trans Z0 (Keep.of_wr W3).1
  have f6 := E1.wr W3
  have f7 := F0.same W3
  have f8 := F1.other W3 (Or.inr (slot_ne (Or.inr (hw _ (List.mem_of_getElem? (i := 53) rfl))) (Or.inr (hw _ (List.mem_of_getElem? (i := 51) rfl))) (by decide) (t := (.object "java/lang/String")) (t' := .int) (by decide) (by decide)))
  have f9 := F2.other W3 (Or.inr (slot_ne (Or.inr (hw _ (List.mem_of_getElem? (i := 55) rfl))) (Or.inr (hw _ (List.mem_of_getElem? (i := 51) rfl))) (by decide) (t := (.object "java/lang/String")) (t' := .int) (by decide) (by decide)))
  have f10 := F3.other W3 (Or.inr (slot_ne (Or.inr (hw _ (List.mem_of_getElem? (i := 57) rfl))) (Or.inr (hw _ (List.mem_of_getElem? (i := 51) rfl))) (by decide) (t := (.object "java/lang/String")) (t' := .int) (by decide) (by decide)))
  obtain ⟨T11, h11, X11, e11, W11, st11⟩ := putF X3 hx hZ hown (host := "") (Or.inl (hw _ (List.mem_of_getElem? (i := 52) rfl))) Via.refl e3 f8 f6 (Or.inr ⟨(hw _ (List.mem_of_getElem? (i := 53) rfl)), rfl, hnm⟩) (hw _ (List.mem_of_getElem? (i := 32) rfl)) (ty := (.object "java/lang/String")) (by decide) rfl rfl (g := (mkF m 11 #[.val (.ref a1), .val (.int p2), .val (.ref a3), .val (.ref a4), .val .null] [(.ref a3), (.ref a1)])) rfl rfl (Jvm.hb hby own_d_prog_24_method_2_code_11)
  refine own_of (T' := T11) (f' := (mkF m 14 #[.val (.ref a1), .val (.int p2), .val (.ref a3), .val (.ref a4), .val .null] [])) (fun t_ k_ => (XS.aloadN X3.here hx rfl (Jvm.hb hby own_d_prog_24_method_2_code_9) rfl rfl (XS.aloadN X3.here hx rfl (Jvm.hb hby own_d_prog_24_method_2_code_10) rfl rfl (st11 _ k_)))) ?_
  have N11 := Fr.snoc X11 N3 g_a1
  have f12 := f4.wr W11 (Or.inl (List.mem_of_getElem? (i := 0) rfl))
  have f13 := Nat.le_trans f5 (Keep.of_wr W11).1
  have f14 := f6.wr W11
  have f15 := f7.other W11 (Or.inr (slot_ne (Or.inr (hw _ (List.mem_of_getElem? (i := 51) rfl))) (Or.inr (hw _ (List.mem_of_getElem? (i := 53) rfl))) (by decide) (t := .int) (t' := (.object "java/lang/String")) (by decide) (by decide)))
  have f16 := f8.same W11
  have f17 := f9.other W11 (Or.inr (slot_ne (Or.inr (hw _ (List.mem_of_getElem? (i := 55) rfl))) (Or.inr (hw _ (List.mem_of_getElem? (i := 53) rfl))) (by decide) (t := (.object "java/lang/String")) (t' := (.object "java/lang/String")) (by decide) (by decide)))
  have f18 := f10.other W11 (Or.inr (slot_ne (Or.inr (hw _ (List.mem_of_getElem? (i := 57) rfl))) (Or.inr (hw _ (List.mem_of_getElem? (i := 53) rfl))) (by decide) (t := (.object "java/lang/String")) (t' := (.object "java/lang/String")) (by decide) (by decide)))
  obtain ⟨T19, h19, X19, e19, W19, st19⟩ := putF X11 hx hZ hown (host := "") (Or.inl (hw _ (List.mem_of_getElem? (i := 54) rfl))) Via.refl e11 f17 f14 (Or.inr ⟨(hw _ (List.mem_of_getElem? (i := 55) rfl)), rfl, hnm⟩) (hw _ (List.mem_of_getElem? (i := 32) rfl)) (ty := (.object "java/lang/String")) (by decide) rfl rfl (g := (mkF m 16 #[.val (.ref a1), .val (.int p2), .val (.ref a3), .val (.ref a4), .val .null] [(.ref a4), (.ref a1)])) rfl rfl (Jvm.hb hby own_d_prog_24_method_2_code_16)
  refine own_of (T' := T19) (f' := (mkF m 19 #[.val (.ref a1), .val (.int p2), .val (.ref a3), .val (.ref a4), .val .null] [])) (fun t_ k_ => (XS.aloadN X11.here hx rfl (Jvm.hb hby own_d_prog_24_method_2_code_14) rfl rfl (XS.aloadN X11.here hx rfl (Jvm.hb hby own_d_prog_24_method_2_code_15) rfl rfl (st19 _ k_)))) ?_
  have N19 := Fr.snoc X19 N11 g_a1
  have f20 := f12.wr W19 (Or.inl (List.mem_of_getElem? (i := 0) rfl))
  have f21 := Nat.le_trans f13 (Keep.of_wr W19).1
  have f22 := f14.wr W19
  have f23 := f15.other W19 (Or.inr (slot_ne (Or.inr (hw _ (List.mem_of_getElem? (i := 51) rfl))) (Or.inr (hw _ (List.mem_of_getElem? (i := 55) rfl))) (by decide) (t := .int) (t' := (.object "java/lang/String")) (by decide) (by decide)))
  have f24 := f16.other W19 (Or.inr (slot_ne (Or.inr (hw _ (List.mem_of_getElem? (i := 53) rfl))) (Or.inr (hw _ (List.mem_of_getElem? (i := 55) rfl))) (by decide) (t := (.object "java/lang/String")) (t' := (.object "java/lang/String")) (by decide) (by decide)))
  have f25 := f17.same W19
  have f26 := f18.other W19 (Or.inr (slot_ne (Or.inr (hw _ (List.mem_of_getElem? (i := 57) rfl))) (Or.inr (hw _ (List.mem_of_getElem? (i := 55) rfl))) (by decide) (t := (.object "java/lang/String")) (t' := (.object "java/lang/String")) (by decide) (by decide)))
  obtain ⟨T27, h27, X27, e27, W27, st27⟩ := putF X19 hx hZ hown (host := "") (Or.inl (hw _ (List.mem_of_getElem? (i := 56) rfl))) Via.refl e19 f26 f22 (Or.inr ⟨(hw _ (List.mem_of_getElem? (i := 57) rfl)), rfl, hnm⟩) (hw _ (List.mem_of_getElem? (i := 32) rfl)) (ty := (.object "java/lang/String")) (by decide) rfl rfl (g := (mkF m 22 #[.val (.ref a1), .val (.int p2), .val (.ref a3), .val (.ref a4), .val .null] [.null, (.ref a1)])) rfl rfl (Jvm.hb hby own_d_prog_24_method_2_code_22)
  refine own_of (T' := T27) (f' := (mkF m 25 #[.val (.ref a1), .val (.int p2), .val (.ref a3), .val (.ref a4), .val .null] [])) (fun t_ k_ => (XS.aloadN X19.here hx rfl (Jvm.hb hby own_d_prog_24_method_2_code_19) rfl rfl (XS.aload X19.here hx rfl (Jvm.hb hby own_d_prog_24_method_2_code_20) rfl rfl (st27 _ k_)))) ?_
  have N27 := Fr.snoc X27 N19 g_a1
  have f28 := f20.wr W27 (Or.inl (List.mem_of_getElem? (i := 0) rfl))
  have f29 := Nat.le_trans f21 (Keep.of_wr W27).1
  have f30 := f22.wr W27
  have f31 := f23.other W27 (Or.inr (slot_ne (Or.inr (hw _ (List.mem_of_getElem? (i := 51) rfl))) (Or.inr (hw _ (List.mem_of_getElem? (i := 57) rfl))) (by decide) (t := .int) (t' := (.object "java/lang/String")) (by decide) (by decide)))
  have f32 := f24.other W27 (Or.inr (slot_ne (Or.inr (hw _ (List.mem_of_getElem? (i := 53) rfl))) (Or.inr (hw _ (List.mem_of_getElem? (i := 57) rfl))) (by decide) (t := (.object "java/lang/String")) (t' := (.object "java/lang/String")) (by decide) (by decide)))
  have f33 := f25.other W27 (Or.inr (slot_ne (Or.inr (hw _ (List.mem_of_getElem? (i := 55) rfl))) (Or.inr (hw _ (List.mem_of_getElem? (i := 57) rfl))) (by decide) (t := (.object "java/lang/String")) (t' := (.object "java/lang/String")) (by decide) (by decide)))
  have f34 := f26.same W27
  obtain ⟨fs, hr, hrun, hended, hW, hsame⟩ := X27.leave (v := none) (fun _ => rfl)
  exact ⟨_, _, X27.returnOut hx Bd.returns (Jvm.hb hby own_d_prog_24_method_2_code_25) hr, hrun, hended, _, _, rfl, (by show own_Q_r4 Z a1 p2 a3 a4  h0 n0 _ T27.heap _; rw [e27]; exact ⟨rfl, N27, f28⟩), ⟨_, rfl⟩, hW, hsame.mono (by decide) (by decide)⟩
theorem own_ef_r3 (m : MethodId) (a1 : Addr) (p2 : Int32) (a3 : Addr) (a4 : Addr) : entryFrame m #[(.ref a1), (.int p2), (.ref a3), (.ref a4)] 4 = mkF m 0 #[.val (.ref a1), .val (.int p2), .val (.ref a3), .val (.ref a4)] [] := by first | (simp [entryFrame, mkF, argsToLocals, Value.category]; done) | rfl
def own_Q_r3 (Z : State) (a1 : Addr) (p2 : Int32) (a3 : Addr) (a4 : Addr)  (h0 : Heap) (n0 : Nat) (v : Option Value) (h : Heap) (L : List Loc) : Prop := v = none ∧ Fr n0 L ∧ Keep h0 h [a1]
theorem own_d_prog_24_method_1_code_0 : decode prog_24_method_1_code 0 = .ok (.aload_n 0, 1) := by decide +kernel
theorem own_d_prog_24_method_1_code_1 : decode prog_24_method_1_code 1 = .ok (.iload_n 1, 1) := by decide +kernel
theorem own_d_prog_24_method_1_code_2 : decode prog_24_method_1_code 2 = .ok (.aload_n 2, 1) := by decide +kernel
theorem own_d_prog_24_method_1_code_3 : decode prog_24_method_1_code 3 = .ok (.aload_n 3, 1) := by decide +kernel
theorem own_d_prog_24_method_1_code_4 : decode prog_24_method_1_code 4 = .ok (.aconst_null, 1) := by decide +kernel
theorem own_d_prog_24_method_1_code_5 : decode prog_24_method_1_code 5 = .ok (.invokespecial 23, 3) := by decide +kernel
theorem own_pd_14 : parseMethodDescriptor "(ILjava/lang/String;Ljava/lang/String;Ljava/lang/String;)V" = some ⟨[.int, (.object "java/lang/String"), (.object "java/lang/String"), (.object "java/lang/String")], none⟩ := by decide +kernel
theorem own_d_prog_24_method_1_code_8 : decode prog_24_method_1_code 8 = .ok (.return_, 1) := by decide +kernel
set_option maxRecDepth 65536 in
set_option maxHeartbeats 40000000 in
theorem own_rm_r3 (l : Launch) (Z : State) (a0 : Array Value) (hw : ∀ d ∈ tables_1, d.before a0 Z = true) (ws : List Jvm.Cond) (a1 : Addr) (p2 : Int32) (a3 : Addr) (a4 : Addr)  (h0 : Heap) (n0 : Nat) (Z0 : n0 ≤ h0.size) (F0 : Fld Z h0 a1 "com/example/austere_auth/austereauth/refusal/Refusal" "status" "I" (.int 0)) (F1 : Fld Z h0 a1 "com/example/austere_auth/austereauth/refusal/Refusal" "error" "Ljava/lang/String;" .null) (F2 : Fld Z h0 a1 "com/example/austere_auth/austereauth/refusal/Refusal" "description" "Ljava/lang/String;" .null) (F3 : Fld Z h0 a1 "com/example/austere_auth/austereauth/refusal/Refusal" "scope" "Ljava/lang/String;" .null) (E1 : Exa Z h0 a1 "com/example/austere_auth/austereauth/refusal/Refusal") (g_a1 : n0 ≤ a1) :
    MetFree l (⟨"com/example/austere_auth/austereauth/refusal/Refusal", "<init>", "(ILjava/lang/String;Ljava/lang/String;)V"⟩ : MethodName) (head1 (Jvm.Cond.code (⟨"com/example/austere_auth/austereauth/refusal/Refusal", "<init>", "(ILjava/lang/String;Ljava/lang/String;)V"⟩ : MethodName) prog_24_method_1_code 4 none :: ws) ({ frames := 3, cells := 0, slots := 0, locals := 40 } : Room)) (fun a U => a = #[(.ref a1), (.int p2), (.ref a3), (.ref a4)] ∧ Z.Warmed39 U.vm ∧ U.heap = h0) (fun _ _ _ _ _ => True) (fun _ U o U' => ∃ v L, o = .returned v ∧ own_Q_r3 Z a1 p2 a3 a4  h0 n0 v U'.heap L ∧ FrameEnd U o U' L ({ frames := 3, cells := 0, slots := 0, locals := 40 } : Room).cells ({ frames := 3, cells := 0, slots := 0, locals := 40 } : Room).slots) := by
  refine MetFree.of_bodySF (plainFor_of_name own_pn_4) hisR ?_
  intro p e s m args below meth c s₁ Bd hml0 hP hK
  obtain ⟨rfl, hZ, hh⟩ := hP
  have hx := Bd.exec
  have hby := Bd.bytes
  have hml : c.maxLocals = 4 := hml0
  have hown : s.vm.findClass "com/example/austere_auth/austereauth/refusal/Refusal" = some m.cls := findClass_of_methodNamed Bd.named
  have hnm := (name_of_methodNamed Bd.named Bd.method).1
  have X0 : Stand p l e ({ frames := 3, cells := 0, slots := 0, locals := 40 } : Room) s m #[(.ref a1), (.int p2), (.ref a3), (.ref a4)] below meth c s₁ [] 0 0 := Stand.of_body Bd
  have e0 : s₁.heap = h0 := by rw [← hh, Bd.state]; rfl
  have N0 := Fr.nil n0
  refine own_start (own_ef_r3 m a1 p2 a3 a4 ) ?_
  refine own_of (T' := s₁) (f' := (mkF m 5 #[.val (.ref a1), .val (.int p2), .val (.ref a3), .val (.ref a4)] [.null, (.ref a4), (.ref a3), (.int p2), (.ref a1)])) (fun t_ k_ => (XS.aloadN X0.here hx rfl (Jvm.hb hby own_d_prog_24_method_1_code_0) rfl rfl (XS.iloadN X0.here hx rfl (Jvm.hb hby own_d_prog_24_method_1_code_1) rfl (XS.aloadN X0.here hx rfl (Jvm.hb hby own_d_prog_24_method_1_code_2) rfl rfl (XS.aloadN X0.here hx rfl (Jvm.hb hby own_d_prog_24_method_1_code_3) rfl rfl (XS.aconstNull X0.here hx rfl (Jvm.hb hby own_d_prog_24_method_1_code_4) k_)))))) ?_
  obtain ⟨_, _, ⟨T1, L1, k1, n1⟩, -, X1, ⟨Lc1, hQ1, l1, y1, z1⟩, st1⟩ := X0.specialBack hx (y := (⟨"com/example/austere_auth/austereauth/refusal/Refusal", "<init>", "(ILjava/lang/String;Ljava/lang/String;Ljava/lang/String;)V"⟩ : MethodName)) rfl hown (mvT hZ (hw _ (List.mem_of_getElem? (i := 41) rfl))) (mvT hZ (hw _ (List.mem_of_getElem? (i := 42) rfl))) (mvT hZ (hw _ (List.mem_of_getElem? (i := 43) rfl))) (by decide) (backOf (W := 0) (own_rm_r4 l Z a0 hw [] a1 p2 a3 a4 h0 n0 Z0 F0 F1 F2 F3 E1 g_a1) hZ (hw _ (List.mem_of_getElem? (i := 43) rfl)) (hw _ (List.mem_of_getElem? (i := 33) rfl)) (by decide) (by decide)) (g := (mkF m 5 #[.val (.ref a1), .val (.int p2), .val (.ref a3), .val (.ref a4)] [.null, (.ref a4), (.ref a3), (.int p2), (.ref a1)])) rfl (by rw [hml]; rfl) (Steps.refl _) (a := a1) (argsL := [(.int p2), (.ref a3), (.ref a4), .null]) (rest := []) (lenOf own_pd_14 rfl) rfl (by show 2 * 0 + _ ≤ _; exact Nat.le_of_eq rfl) (Jvm.hb hby own_d_prog_24_method_1_code_5) (fun _ _ => ⟨rfl, e0, Nat.le_of_ble_eq_true rfl, Nat.le_of_ble_eq_true rfl⟩)
  dsimp only [Pt.U, Pt.locs, Pt.cells, Pt.slots] at X1 l1 y1 z1 st1 hQ1
  subst l1 y1 z1
  obtain ⟨rfl, N1, K1⟩ := hQ1
  have N2 := Fr.app N0 N1
  refine own_of (T' := T1) (f' := (mkF m 8 #[.val (.ref a1), .val (.int p2), .val (.ref a3), .val (.ref a4)] [])) (fun t_ k_ => (st1.trans k_)) ?_
  obtain ⟨fs, hr, hrun, hended, hW, hsame⟩ := X1.leave (v := none) (fun _ => rfl)
  exact ⟨_, _, X1.returnOut hx Bd.returns (Jvm.hb hby own_d_prog_24_method_1_code_8) hr, hrun, hended, _, _, rfl, (by show own_Q_r3 Z a1 p2 a3 a4  h0 n0 _ T1.heap _; exact ⟨rfl, N2, K1⟩), ⟨_, rfl⟩, hW, hsame.mono (by decide) (by decide)⟩
theorem own_wLen : ∀ d ∈ StrChars.Road.wordsLen, d ∈ tables_1 := by decide +kernel
theorem own_wEmp : ∀ d ∈ StrChars.Road.wordsEmp, d ∈ tables_1 := by decide +kernel
theorem own_wChN : ∀ d ∈ StrChars.Road.wordsChN, d ∈ tables_1 := by decide +kernel
theorem own_ef_req (m : MethodId) (a1 : Addr) (a2 : Addr) : entryFrame m #[(.ref a1), (.ref a2)] 2 = mkF m 0 #[.val (.ref a1), .val (.ref a2)] [] := by first | (simp [entryFrame, mkF, argsToLocals, Value.category]; done) | rfl
def own_Q_req (Z : State) (a1 : Addr) (a2 : Addr) (t : Addr) (k : ClassId) (cs : List Int32) (cd z : Int32) (vs : List Value) (h0 : Heap) (n0 : Nat) (v : Option Value) (h : Heap) (L : List Loc) : Prop := v = some (.ref a1) ∧ Fr n0 L ∧ h = h0
theorem own_d_prog_24_method_5_code_0 : decode prog_24_method_5_code 0 = .ok (.aload_n 0, 1) := by decide +kernel
theorem own_d_prog_24_method_5_code_1 : decode prog_24_method_5_code 1 = .ok (.ifnull 10, 3) := by decide +kernel
theorem own_d_prog_24_method_5_code_4 : decode prog_24_method_5_code 4 = .ok (.aload_n 0, 1) := by decide +kernel
theorem own_d_prog_24_method_5_code_5 : decode prog_24_method_5_code 5 = .ok (.invokevirtual 44, 3) := by decide +kernel
theorem own_d_prog_24_method_5_code_8 : decode prog_24_method_5_code 8 = .ok (.ifCond .eq 8, 3) := by decide +kernel
theorem own_d_prog_24_method_5_code_16 : decode prog_24_method_5_code 16 = .ok (.aload_n 0, 1) := by decide +kernel
theorem own_d_prog_24_method_5_code_17 : decode prog_24_method_5_code 17 = .ok (.areturn, 1) := by decide +kernel
set_option maxRecDepth 65536 in
set_option maxHeartbeats 40000000 in
theorem own_rm_req (l : Launch) (Z : State) (a0 : Array Value) (hw : ∀ d ∈ tables_1, d.before a0 Z = true) (ws : List Jvm.Cond) (a1 : Addr) (a2 : Addr) (t : Addr) (k : ClassId) (cs : List Int32) (cd z : Int32) (vs : List Value) (h0 : Heap) (n0 : Nat) (Z0 : n0 ≤ h0.size) (E1 : Exa Z h0 a1 "java/lang/String") (F1 : Fld Z h0 a1 "java/lang/String" "value" "[B" (.ref t)) (F2 : Fld Z h0 a1 "java/lang/String" "coder" "B" (.int cd)) (Vt : Arv Z h0 t k .byte z vs (.int 0)) (Co : StrChars.Road.CodA cs cd z vs) (Cb : ∀ c ∈ cs, ¬ c < 0 ∧ ¬ (65535 : Int32) < c) (Cl : cs.length ≤ 4000) (Cn : ¬ cs.length = 0) :
    MetFree l (⟨"com/example/austere_auth/austereauth/refusal/Refusal", "requirePresent", "(Ljava/lang/String;Lcom/example/austere_auth/austereauth/refusal/Refusal;)Ljava/lang/String;"⟩ : MethodName) (head1 (Jvm.Cond.code (⟨"com/example/austere_auth/austereauth/refusal/Refusal", "requirePresent", "(Ljava/lang/String;Lcom/example/austere_auth/austereauth/refusal/Refusal;)Ljava/lang/String;"⟩ : MethodName) prog_24_method_5_code 2 (some (.object "java/lang/String")) :: ws) ({ frames := 1, cells := 0, slots := 0, locals := 12 } : Room)) (fun a U => a = #[(.ref a1), (.ref a2)] ∧ Z.Warmed39 U.vm ∧ U.heap = h0) (fun _ _ _ _ _ => True) (fun _ U o U' => ∃ v L, o = .returned v ∧ own_Q_req Z a1 a2 t k cs cd z vs h0 n0 v U'.heap L ∧ FrameEnd U o U' L ({ frames := 1, cells := 0, slots := 0, locals := 12 } : Room).cells ({ frames := 1, cells := 0, slots := 0, locals := 12 } : Room).slots) := by
  refine MetFree.of_bodySF (plainFor_of_name own_pn_4) hisR ?_
  intro p e s m args below meth c s₁ Bd hml0 hP hK
  obtain ⟨rfl, hZ, hh⟩ := hP
  have hx := Bd.exec
  have hby := Bd.bytes
  have hml : c.maxLocals = 2 := hml0
  have hown : s.vm.findClass "com/example/austere_auth/austereauth/refusal/Refusal" = some m.cls := findClass_of_methodNamed Bd.named
  have hnm := (name_of_methodNamed Bd.named Bd.method).1
  have X0 : Stand p l e ({ frames := 1, cells := 0, slots := 0, locals := 12 } : Room) s m #[(.ref a1), (.ref a2)] below meth c s₁ [] 0 0 := Stand.of_body Bd
  have e0 : s₁.heap = h0 := by rw [← hh, Bd.state]; rfl
  have N0 := Fr.nil n0
  refine own_start (own_ef_req m a1 a2 ) ?_
  have hws : ∀ d ∈ StrChars.Road.wordsEmp, d.before a0 Z = true := fun d hd => hw d (own_wEmp d hd)
  refine own_of (T' := s₁) (f' := (mkF m 5 #[.val (.ref a1), .val (.ref a2)] [(.ref a1)])) (fun t_ k_ => (XS.aloadN X0.here hx rfl (Jvm.hb hby own_d_prog_24_method_5_code_0) rfl rfl (XS.ifnullNo X0.here hx rfl (Jvm.hb hby own_d_prog_24_method_5_code_1) rfl (XS.aloadN X0.here hx rfl (Jvm.hb hby own_d_prog_24_method_5_code_4) rfl rfl k_)))) ?_
  obtain ⟨cq2, kq2, q2a, q2b, q2c⟩ := isOf hZ e0 E1
  obtain ⟨_, _, ⟨T1, L1, k1, n1⟩, -, X1, ⟨Lc1, hQ1, l1, y1, z1⟩, st1⟩ := X0.virtualBack hx (y := (⟨"java/lang/String", "isEmpty", "()Z"⟩ : MethodName)) (z := (⟨"java/lang/String", "isEmpty", "()Z"⟩ : MethodName)) hown (mvT hZ (hw _ (List.mem_of_getElem? (i := 61) rfl))) (mvT hZ (hw _ (List.mem_of_getElem? (i := 62) rfl))) (notFace_of_selects (args := #[]) (mvT hZ (hw _ (List.mem_of_getElem? (i := 64) rfl)))) (mvT hZ (hw _ (List.mem_of_getElem? (i := 64) rfl))) (mvT hZ (hw _ (List.mem_of_getElem? (i := 63) rfl))) (by decide) (StrChars.Road.empW (W := 0) hZ hws (kI := 4) (hw _ (List.mem_of_getElem? (i := 3) rfl)) E1 F1 F2 Vt Co Cb Cl (by decide) (by decide)) q2a q2c (g := (mkF m 5 #[.val (.ref a1), .val (.ref a2)] [(.ref a1)])) rfl (by rw [hml]; rfl) (Steps.refl _) (argsL := []) (rest := []) (lenOf own_pd_12 rfl) rfl (by show 2 * 0 + _ ≤ _; exact Nat.le_of_eq rfl) (Jvm.hb hby own_d_prog_24_method_5_code_5) (fun _ _ => ⟨rfl, e0, Nat.le_of_ble_eq_true rfl, Nat.le_of_ble_eq_true rfl⟩)
  dsimp only [Pt.U, Pt.locs, Pt.cells, Pt.slots] at X1 l1 y1 z1 st1 hQ1
  subst l1 y1 z1
  obtain ⟨rfl, rfl, e1⟩ := hQ1
  have N1 : Fr n0 ([] : List Loc) := Fr.nil n0
  have N3 := Fr.app N0 N1
  refine own_of (T' := T1) (f' := (mkF m 17 #[.val (.ref a1), .val (.ref a2)] [(.ref a1)])) (fun t_ k_ => (st1.trans (XS.ifYes X1.here hx rfl (pc0 := 8) (pc' := 16) rfl (Jvm.hb hby own_d_prog_24_method_5_code_8) rfl ((if0 _ _).trans (teq (if_neg Cn)).1) (by decide) (by decide) (XS.aloadN X1.here hx rfl (Jvm.hb hby own_d_prog_24_method_5_code_16) rfl rfl k_)))) ?_
  obtain ⟨fs, hr, hrun, hended, hW, hsame⟩ := X1.leave (v := some (.ref a1)) (fun h => by rw [Bd.returns] at h; cases h)
  exact ⟨_, _, own_retA X1 hx Bd.returns rfl rfl rfl (Jvm.hb hby own_d_prog_24_method_5_code_17) hr, hrun, hended, _, _, rfl, (by show own_Q_req Z a1 a2 t k cs cd z vs h0 n0 _ T1.heap _; rw [e1]; exact ⟨rfl, N3, rfl⟩), ⟨_, rfl⟩, hW, hsame.mono (by decide) (by decide)⟩
theorem own_pn_5 : plainName "com/example/austere_auth/austereauth/refusal/RefusalRequirePresentPinLaw" = true := by first | (simp [plainName, overriddenIn]; done) | decide +kernel
theorem own_ef_0 (m : MethodId) (p0 : Int32) (p1 : Int32) (p2 : Int32) (p3 : Int32) (p4 : Int32) (p5 : Int32) : entryFrame m #[(.int p0), (.int p1), (.int p2), (.int p3), (.int p4), (.int p5)] maxLocals = mkF m 0 #[.val (.int p0), .val (.int p1), .val (.int p2), .val (.int p3), .val (.int p4), .val (.int p5), .unset, .unset, .unset, .unset, .unset, .unset, .unset, .unset, .unset] [] := by first | (simp [entryFrame, mkF, argsToLocals, Value.category, maxLocals]; done) | rfl
def own_Q_0 (Z : State) (p0 : Int32) (p1 : Int32) (p2 : Int32) (p3 : Int32) (p4 : Int32) (p5 : Int32) (G1 : Int32) (fm : Value) (h0 : Heap) (n0 : Nat) (v : Option Value) (h : Heap) (L : List Loc) : Prop := v = some (.int 1) ∧ Fr n0 L
theorem own_sA : ∀ a ∈ Bundle.stringAtoms, a ∈ tables_1 := by decide +kernel
theorem own_strw : ∀ d ∈ StrChars.Road.words, d ∈ tables_1 := by decide +kernel
theorem own_pd_15 : parseMethodDescriptor "([C)V" = some ⟨[(.array .char)], none⟩ := by decide +kernel
theorem own_pd_16 : parseMethodDescriptor "(ILjava/lang/String;Ljava/lang/String;)V" = some ⟨[.int, (.object "java/lang/String"), (.object "java/lang/String")], none⟩ := by decide +kernel
theorem own_pd_17 : parseMethodDescriptor "(Ljava/lang/String;Lcom/example/austere_auth/austereauth/refusal/Refusal;)Ljava/lang/String;" = some ⟨[(.object "java/lang/String"), (.object "com/example/austere_auth/austereauth/refusal/Refusal")], some (.object "java/lang/String")⟩ := by decide +kernel
theorem own_pd_18 : parseMethodDescriptor "()I" = some ⟨[], some .int⟩ := by decide +kernel
theorem own_pd_19 : parseMethodDescriptor "(I)C" = some ⟨[.int], some .char⟩ := by decide +kernel
set_option maxRecDepth 65536 in
set_option maxHeartbeats 40000000 in
theorem own_rm_0 (l : Launch) (Z : State) (a0 : Array Value) (hw : ∀ d ∈ tables_1, d.before a0 Z = true) (ws : List Jvm.Cond) (p0 : Int32) (p1 : Int32) (p2 : Int32) (p3 : Int32) (p4 : Int32) (p5 : Int32) (G1 : Int32) (fm : Value) (h0 : Heap) (n0 : Nat) (Z0 : n0 ≤ h0.size) (O2 : Sta Z Z.heap "java/lang/String" "COMPACT_STRINGS" "Z" (.int G1)) (X00 : Old Z n0 h0) (SC : Sta Z h0 "java/lang/String" "COMPACT_STRINGS" "Z" (.int G1)) (P5 : ¬ (G1 = (0 : Int32))) (S1 : Sta Z h0 "java/lang/StringUTF16" "$assertionsDisabled" "Z" (.int 1)) (S2 : Sta Z h0 "java/lang/StringUTF16" "HI_BYTE_SHIFT" "I" (.int 0)) (S3 : Sta Z h0 "java/lang/StringUTF16" "LO_BYTE_SHIFT" "I" (.int 8)) (SF : Sta Z h0 "jdk/internal/util/Preconditions" "SIOOBE_FORMATTER" "Ljava/util/function/BiFunction;" fm) (rfm : fm.isRef = true) :
    MetFree l x (head1 (Jvm.Cond.code x code maxLocals ret :: ws) room_1) (fun a U => a = #[(.int p0), (.int p1), (.int p2), (.int p3), (.int p4), (.int p5)] ∧ Z.Warmed39 U.vm ∧ U.heap = h0) (fun _ _ _ _ _ => True) (fun _ U o U' => ∃ v L, o = .returned v ∧ own_Q_0 Z p0 p1 p2 p3 p4 p5 G1 fm h0 n0 v U'.heap L ∧ ReturnedEndW U o U' L room_1.cells room_1.slots) := by
  refine MetFree.of_bodySF (plainFor_of_name own_pn_5) hisR ?_
  intro p e s m args below meth c s₁ Bd hml0 hP hK
  obtain ⟨rfl, hZ, hh⟩ := hP
  have hx := Bd.exec
  have hby := Bd.bytes
  have hml : c.maxLocals = 15 := hml0
  have hown : s.vm.findClass "com/example/austere_auth/austereauth/refusal/RefusalRequirePresentPinLaw" = some m.cls := findClass_of_methodNamed Bd.named
  have hnm := (name_of_methodNamed Bd.named Bd.method).1
  have hZ : Z.Warmed39 (s.setVm s.vm).vm := hZ
  have hown : (s.setVm s.vm).vm.findClass "com/example/austere_auth/austereauth/refusal/RefusalRequirePresentPinLaw" = some m.cls := hown
  have hS : s.Since s.vm h0.size := (State.WarmedH.refl s).since _
  have hwS : ∀ a ∈ Bundle.stringAtoms, a.before a0 Z = true := fun a ha => hw a (own_sA a ha)
  have Y0 : h0.size ≤ h0.size := Nat.le_refl _
  have X0 : Stand p l e room_1 (s.setVm s.vm) m #[(.int p0), (.int p1), (.int p2), (.int p3), (.int p4), (.int p5)] below meth c s₁ [] 0 0 := Stand.of_body Bd
  have e0 : s₁.heap = h0 := by rw [← hh, Bd.state]; rfl
  have N0 := Fr.nil n0
  refine own_start (own_ef_0 m p0 p1 p2 p3 p4 p5 ) ?_
  refine own_of (T' := s₁) (f' := (mkF m 5 #[.val (.int p0), .val (.int p1), .val (.int p2), .val (.int p3), .val (.int p4), .val (.int p5), .unset, .unset, .unset, .unset, .unset, .unset, .unset, .unset, .unset] [(.int ((1 : Int32) + (p0 &&& (3 : Int32))))])) (fun t_ k_ => (XS.iconst X0.here hx rfl (Jvm.hb hby at_0) (XS.iloadN X0.here hx rfl (Jvm.hb hby at_1) rfl (XS.iconst X0.here hx rfl (Jvm.hb hby at_2) (XS.iand X0.here hx rfl (Jvm.hb hby at_3) rfl (XS.iadd X0.here hx rfl (Jvm.hb hby at_4) rfl k_)))))) ?_
  obtain ⟨nn, hnn⟩ : ∃ z : Int32, ((1 : Int32) + (p0 &&& (3 : Int32))) = z := ⟨_, rfl⟩
  rw [hnn]
  refine own_of (T' := s₁) (f' := (mkF m 12 #[.val (.int p0), .val (.int p1), .val (.int p2), .val (.int p3), .val (.int p4), .val (.int p5), .val (.int nn), .unset, .unset, .unset, .unset, .unset, .unset, .unset, .unset] [(.int ((p1 &&& (65535 : Int32)).toUInt32.toUInt16.toUInt32.toInt32))])) (fun t_ k_ => (XS.istore X0.here hx rfl (Jvm.hb hby at_5) rfl (l' := #[.val (.int p0), .val (.int p1), .val (.int p2), .val (.int p3), .val (.int p4), .val (.int p5), .val (.int nn), .unset, .unset, .unset, .unset, .unset, .unset, .unset, .unset]) rfl (XS.iloadN X0.here hx rfl (Jvm.hb hby at_7) rfl (Jvm.Stand.ldcI X0 hx hown (mvT hZ (hw _ (List.mem_of_getElem? (i := 0) rfl))) rfl (Jvm.hb hby at_8) (XS.iand X0.here hx rfl (Jvm.hb hby at_10) rfl (XS.i2c X0.here hx rfl (Jvm.hb hby at_11) rfl k_)))))) ?_
  obtain ⟨c0, hc0⟩ : ∃ z : Int32, ((p1 &&& (65535 : Int32)).toUInt32.toUInt16.toUInt32.toInt32) = z := ⟨_, rfl⟩
  rw [hc0]
  have rc0 : ¬ c0 < 0 ∧ ¬ (65535 : Int32) < c0 := by rw [← hc0]; exact own_c16 _
  refine own_of (T' := s₁) (f' := (mkF m 19 #[.val (.int p0), .val (.int p1), .val (.int p2), .val (.int p3), .val (.int p4), .val (.int p5), .val (.int nn), .val (.int c0), .unset, .unset, .unset, .unset, .unset, .unset, .unset] [(.int ((p2 &&& (65535 : Int32)).toUInt32.toUInt16.toUInt32.toInt32))])) (fun t_ k_ => (XS.istore X0.here hx rfl (Jvm.hb hby at_12) rfl (l' := #[.val (.int p0), .val (.int p1), .val (.int p2), .val (.int p3), .val (.int p4), .val (.int p5), .val (.int nn), .val (.int c0), .unset, .unset, .unset, .unset, .unset, .unset, .unset]) rfl (XS.iloadN X0.here hx rfl (Jvm.hb hby at_14) rfl (Jvm.Stand.ldcI X0 hx hown (mvT hZ (hw _ (List.mem_of_getElem? (i := 0) rfl))) rfl (Jvm.hb hby at_15) (XS.iand X0.here hx rfl (Jvm.hb hby at_17) rfl (XS.i2c X0.here hx rfl (Jvm.hb hby at_18) rfl k_)))))) ?_
  obtain ⟨c1, hc1⟩ : ∃ z : Int32, ((p2 &&& (65535 : Int32)).toUInt32.toUInt16.toUInt32.toInt32) = z := ⟨_, rfl⟩
  rw [hc1]
  have rc1 : ¬ c1 < 0 ∧ ¬ (65535 : Int32) < c1 := by rw [← hc1]; exact own_c16 _
  refine own_of (T' := s₁) (f' := (mkF m 26 #[.val (.int p0), .val (.int p1), .val (.int p2), .val (.int p3), .val (.int p4), .val (.int p5), .val (.int nn), .val (.int c0), .val (.int c1), .unset, .unset, .unset, .unset, .unset, .unset] [(.int ((p3 &&& (65535 : Int32)).toUInt32.toUInt16.toUInt32.toInt32))])) (fun t_ k_ => (XS.istore X0.here hx rfl (Jvm.hb hby at_19) rfl (l' := #[.val (.int p0), .val (.int p1), .val (.int p2), .val (.int p3), .val (.int p4), .val (.int p5), .val (.int nn), .val (.int c0), .val (.int c1), .unset, .unset, .unset, .unset, .unset, .unset]) rfl (XS.iloadN X0.here hx rfl (Jvm.hb hby at_21) rfl (Jvm.Stand.ldcI X0 hx hown (mvT hZ (hw _ (List.mem_of_getElem? (i := 0) rfl))) rfl (Jvm.hb hby at_22) (XS.iand X0.here hx rfl (Jvm.hb hby at_24) rfl (XS.i2c X0.here hx rfl (Jvm.hb hby at_25) rfl k_)))))) ?_
  obtain ⟨c2, hc2⟩ : ∃ z : Int32, ((p3 &&& (65535 : Int32)).toUInt32.toUInt16.toUInt32.toInt32) = z := ⟨_, rfl⟩
  rw [hc2]
  have rc2 : ¬ c2 < 0 ∧ ¬ (65535 : Int32) < c2 := by rw [← hc2]; exact own_c16 _
  refine own_of (T' := s₁) (f' := (mkF m 34 #[.val (.int p0), .val (.int p1), .val (.int p2), .val (.int p3), .val (.int p4), .val (.int p5), .val (.int nn), .val (.int c0), .val (.int c1), .val (.int c2), .unset, .unset, .unset, .unset, .unset] [(.int ((p4 &&& (65535 : Int32)).toUInt32.toUInt16.toUInt32.toInt32))])) (fun t_ k_ => (XS.istore X0.here hx rfl (Jvm.hb hby at_26) rfl (l' := #[.val (.int p0), .val (.int p1), .val (.int p2), .val (.int p3), .val (.int p4), .val (.int p5), .val (.int nn), .val (.int c0), .val (.int c1), .val (.int c2), .unset, .unset, .unset, .unset, .unset]) rfl (XS.iload X0.here hx rfl (Jvm.hb hby at_28) rfl (Jvm.Stand.ldcI X0 hx hown (mvT hZ (hw _ (List.mem_of_getElem? (i := 0) rfl))) rfl (Jvm.hb hby at_30) (XS.iand X0.here hx rfl (Jvm.hb hby at_32) rfl (XS.i2c X0.here hx rfl (Jvm.hb hby at_33) rfl k_)))))) ?_
  obtain ⟨c3, hc3⟩ : ∃ z : Int32, ((p4 &&& (65535 : Int32)).toUInt32.toUInt16.toUInt32.toInt32) = z := ⟨_, rfl⟩
  rw [hc3]
  have rc3 : ¬ c3 < 0 ∧ ¬ (65535 : Int32) < c3 := by rw [← hc3]; exact own_c16 _
  refine own_of (T' := s₁) (f' := (mkF m 39 #[.val (.int p0), .val (.int p1), .val (.int p2), .val (.int p3), .val (.int p4), .val (.int p5), .val (.int nn), .val (.int c0), .val (.int c1), .val (.int c2), .val (.int c3), .unset, .unset, .unset, .unset] [(.int (1 : Int32)), (.int nn)])) (fun t_ k_ => (XS.istore X0.here hx rfl (Jvm.hb hby at_34) rfl (l' := #[.val (.int p0), .val (.int p1), .val (.int p2), .val (.int p3), .val (.int p4), .val (.int p5), .val (.int nn), .val (.int c0), .val (.int c1), .val (.int c2), .val (.int c3), .unset, .unset, .unset, .unset]) rfl (XS.iload X0.here hx rfl (Jvm.hb hby at_36) rfl (XS.iconst X0.here hx rfl (Jvm.hb hby at_38) k_)))) ?_
  by_cases hc39_1 : (nn = (1 : Int32))
  · skip
    refine own_of (T' := s₁) (f' := (mkF m 43 #[.val (.int p0), .val (.int p1), .val (.int p2), .val (.int p3), .val (.int p4), .val (.int p5), .val (.int nn), .val (.int c0), .val (.int c1), .val (.int c2), .val (.int c3), .unset, .unset, .unset, .unset] [(.int (1 : Int32))])) (fun t_ k_ => (XS.icmpNo X0.here hx rfl (Jvm.hb hby at_39) rfl (teq hc39_1).2 (XS.iconst X0.here hx rfl (Jvm.hb hby at_42) k_))) ?_
    obtain ⟨T2, h2, k2, X2, e2, E2, A2, Ex2, st2⟩ := newPE X0 hx hZ (hw _ (List.mem_of_getElem? (i := 1) rfl)) e0 (g := (mkF m 43 #[.val (.int p0), .val (.int p1), .val (.int p2), .val (.int p3), .val (.int p4), .val (.int p5), .val (.int nn), .val (.int c0), .val (.int c1), .val (.int c2), .val (.int c3), .unset, .unset, .unset, .unset] [(.int (1 : Int32))])) rfl (Jvm.hb hby at_43) rfl (by decide) (cap := 1) (by decide) (by decide) (by decide) (by decide) (ad := "[C") (by decide)
    obtain ⟨ca, g2⟩ : ∃ z, z = h0.size := ⟨_, rfl⟩
    rw [← g2] at A2 Ex2 st2
    have g_ca : n0 ≤ ca := Nat.le_trans Z0 (Nat.le_of_eq g2.symm)
    have f3 := Nat.le_trans Y0 E2.1
    have f4 := Nat.le_trans Z0 E2.1
    have f5 := X00.ext E2
    have f6 := SC.ext E2
    have f7 := SF.ext E2
    have f8 := S1.ext E2
    have f9 := S2.ext E2
    have f10 := S3.ext E2
    have f11 : Arv Z h2 ca k2 .char (1 : Int32) [(.int (0 : Int32))] (.int (0 : Int32)) := (Arv.new A2 (by decide)).pad (pad_rep [] (.int (0 : Int32)) 1)
    refine own_of (T' := T2) (f' := (mkF m 49 #[.val (.int p0), .val (.int p1), .val (.int p2), .val (.int p3), .val (.int p4), .val (.int p5), .val (.int nn), .val (.int c0), .val (.int c1), .val (.int c2), .val (.int c3), .unset, .unset, .unset, .unset] [(.int c0), (.int (0 : Int32)), (.ref ca), (.ref ca)])) (fun t_ k_ => (st2 _ (XS.dup X2.here hx rfl (Jvm.hb hby at_45) rfl rfl (XS.iconst X2.here hx rfl (Jvm.hb hby at_46) (XS.iload X2.here hx rfl (Jvm.hb hby at_47) rfl k_))))) ?_
    obtain ⟨cl12, Ar12, qq12, Sz12, Nn12, Hh12, Gg12⟩ := id f11
    have hin12 : ¬ ((0 : Int32) < 0 ∨ cl12.slots.size ≤ ((0 : Int32)).toNatClampNeg) := inb_of Sz12 ⟨by decide, by decide⟩
    obtain ⟨T13, h13, X13, e13, W13, st13⟩ := stC X2 hx hZ e2 Ar12 (j := (0 : Int32)) hin12 (g := (mkF m 49 #[.val (.int p0), .val (.int p1), .val (.int p2), .val (.int p3), .val (.int p4), .val (.int p5), .val (.int nn), .val (.int c0), .val (.int c1), .val (.int c2), .val (.int c3), .unset, .unset, .unset, .unset] [(.int c0), (.int (0 : Int32)), (.ref ca), (.ref ca)])) rfl rfl (Jvm.hb hby at_49)
    refine own_of (T' := T13) (f' := (mkF m 50 #[.val (.int p0), .val (.int p1), .val (.int p2), .val (.int p3), .val (.int p4), .val (.int p5), .val (.int nn), .val (.int c0), .val (.int c1), .val (.int c2), .val (.int c3), .unset, .unset, .unset, .unset] [(.ref ca)])) (fun t_ k_ => (st13 _ k_)) ?_
    have f14 := Arv.set Ar12 qq12 Sz12 Nn12 Hh12 Gg12 (fits_nar_char _) W13 0 rfl (Nat.le_of_ble_eq_true rfl)
    have N13 := Fr.snoc X13 N0 g_ca
    have f15 := Nat.le_trans f3 (Keep.of_wr W13).1
    have f16 := Nat.le_trans f4 (Keep.of_wr W13).1
    have f17 := f5.wr W13 g_ca
    have f18 := f6.wr W13
    have f19 := f7.wr W13
    have f20 := f8.wr W13
    have f21 := f9.wr W13
    have f22 := f10.wr W13
    have f23 := Ex2.wr W13
    have Vc : Arv Z h13 ca k2 .char (1 : Int32) [(.int c0)] (.int 0) := by
      have q_ := f14
      rw [own_nc c0 rc0] at q_
      exact q_
    have hn : Int32.ofNat ([c0] : List Int32).length = nn := hc39_1.symm
    have hr : ∀ c ∈ ([c0] : List Int32), ¬ c < 0 ∧ ¬ (65535 : Int32) < c := by
      intro c hc
      simp only [List.mem_cons, List.not_mem_nil, or_false] at hc
      subst hc
      exact rc0
    refine own_of (T' := T13) (f' := (mkF m 133 #[.val (.int p0), .val (.int p1), .val (.int p2), .val (.int p3), .val (.int p4), .val (.int p5), .val (.int nn), .val (.int c0), .val (.int c1), .val (.int c2), .val (.int c3), .val (.ref ca), .unset, .unset, .unset] [])) (fun t_ k_ => (XS.astore X13.here hx rfl (Jvm.hb hby at_50) rfl rfl (l' := #[.val (.int p0), .val (.int p1), .val (.int p2), .val (.int p3), .val (.int p4), .val (.int p5), .val (.int nn), .val (.int c0), .val (.int c1), .val (.int c2), .val (.int c3), .val (.ref ca), .unset, .unset, .unset]) rfl (XS.goto X13.here hx rfl (pc0 := 52) (pc' := 133) rfl (Jvm.hb hby at_52) (by decide) (by decide) k_))) ?_
    obtain ⟨T25, h25, X25, e25, E25, A25, D25, -, st25⟩ := newO X13 hx hZ hown (hw _ (List.mem_of_getElem? (i := 2) rfl)) (hw _ (List.mem_of_getElem? (i := 3) rfl)) (hw _ (List.mem_of_getElem? (i := 4) rfl)) e13 (g := (mkF m 133 #[.val (.int p0), .val (.int p1), .val (.int p2), .val (.int p3), .val (.int p4), .val (.int p5), .val (.int nn), .val (.int c0), .val (.int c1), .val (.int c2), .val (.int c3), .val (.ref ca), .unset, .unset, .unset] [])) rfl (Jvm.hb hby at_133) (by decide) (by decide)
    obtain ⟨st, g25⟩ : ∃ z, z = h13.size := ⟨_, rfl⟩
    rw [← g25] at A25 D25 st25
    have ne_ca_st : ca ≠ st := by rw [g25]; exact Nat.ne_of_lt f23.lt
    have g_st : n0 ≤ st := Nat.le_trans f16 (Nat.le_of_eq g25.symm)
    have f26 := Nat.le_trans f15 E25.1
    have f27 := Nat.le_trans f16 E25.1
    have f28 := f17.ext E25
    have f29 := f18.ext E25
    have f30 := f19.ext E25
    have f31 := f20.ext E25
    have f32 := f21.ext E25
    have f33 := f22.ext E25
    have f34 := f23.ext E25
    have f35 := Vc.ext E25
    have f36 : Fld Z h25 st "java/lang/String" "coder" "B" (.int (0 : Int32)) := D25 (Or.inr (hw _ (List.mem_of_getElem? (i := 28) rfl))) (ty := .byte) (by decide)
    have f37 : Fld Z h25 st "java/lang/String" "value" "[B" .null := D25 (Or.inr (hw _ (List.mem_of_getElem? (i := 30) rfl))) (ty := (.array .byte)) (by decide)
    refine own_of (T' := T25) (f' := (mkF m 139 #[.val (.int p0), .val (.int p1), .val (.int p2), .val (.int p3), .val (.int p4), .val (.int p5), .val (.int nn), .val (.int c0), .val (.int c1), .val (.int c2), .val (.int c3), .val (.ref ca), .unset, .unset, .unset] [(.ref ca), (.ref st), (.ref st)])) (fun t_ k_ => (st25 _ (XS.dup X25.here hx rfl (Jvm.hb hby at_136) rfl rfl (XS.aload X25.here hx rfl (Jvm.hb hby at_137) rfl rfl k_)))) ?_
    by_cases hnw : ∀ c ∈ ([c0] : List Int32), ¬ (255 : Int32) < c
    · skip
      have hp : ∀ c ∈ ([c0] : List Int32), ¬ c < 0 ∧ ¬ (255 : Int32) < c := fun c hc => ⟨(hr c hc).1, hnw c hc⟩
      have hws38 : ∀ d ∈ StrChars.Road.words, d.before a0 Z = true := fun d hd => hw d (own_strw d hd)
      obtain ⟨_, _, ⟨T38, L38, k38, n38⟩, -, X38, ⟨Lc38, hQ38, l38, y38, z38⟩, st38⟩ := X25.specialBack hx (y := (⟨"java/lang/String", "<init>", "([C)V"⟩ : MethodName)) rfl hown (mvT hZ (hw _ (List.mem_of_getElem? (i := 5) rfl))) (mvT hZ (hw _ (List.mem_of_getElem? (i := 6) rfl))) (mvT hZ (hw _ (List.mem_of_getElem? (i := 7) rfl))) (by decide) (StrChars.Road.backV (W := 1) hZ hws38 (kI := 4) (hw _ (List.mem_of_getElem? (i := 3) rfl)) (cs := ([c0] : List Int32)) (bs := (([c0] : List Int32)).map (fun c => c.toInt8.toInt32)) (n := 1) g_st f27 A25 f37 f36 f35 (O2.ext f28.2) P5 rfl rfl (by decide) (by decide) hp rfl (by decide) (by decide)) (g := (mkF m 139 #[.val (.int p0), .val (.int p1), .val (.int p2), .val (.int p3), .val (.int p4), .val (.int p5), .val (.int nn), .val (.int c0), .val (.int c1), .val (.int c2), .val (.int c3), .val (.ref ca), .unset, .unset, .unset] [(.ref ca), (.ref st), (.ref st)])) rfl (by rw [hml]; rfl) (Steps.refl _) (a := st) (argsL := [(.ref ca)]) (rest := [(.ref st)]) (lenOf own_pd_15 rfl) rfl (by show 2 * 0 + _ ≤ _; exact Nat.le_of_eq rfl) (Jvm.hb hby at_139) (fun _ _ => ⟨rfl, e25, Nat.le_of_ble_eq_true rfl, Nat.le_of_ble_eq_true rfl⟩)
      dsimp only [Pt.U, Pt.locs, Pt.cells, Pt.slots] at X38 l38 y38 z38 st38 hQ38
      subst l38 y38 z38
      obtain ⟨rfl, N38, K38, Es38, Fc38, t38, kt38, -, -, -, Fv38, Vt38⟩ := hQ38
      have N39 := Fr.app N13 N38
      have f40 := Nat.le_trans f26 K38.1
      have f41 := Nat.le_trans f27 K38.1
      have f42 := f28.keep K38 (allS g_st all0)
      have f43 := own_stakeep f29 K38 (allS (own_plainE A25) all0)
      have f44 := own_stakeep f30 K38 (allS (own_plainE A25) all0)
      have f45 := own_stakeep f31 K38 (allS (own_plainE A25) all0)
      have f46 := own_stakeep f32 K38 (allS (own_plainE A25) all0)
      have f47 := own_stakeep f33 K38 (allS (own_plainE A25) all0)
      have f48 := f34.keep K38
      have f49 := f35.keep K38 (ninS ne_ca_st nin0)
      have f50 := A25.keep K38
      refine own_of (T' := T38) (f' := (mkF m 142 #[.val (.int p0), .val (.int p1), .val (.int p2), .val (.int p3), .val (.int p4), .val (.int p5), .val (.int nn), .val (.int c0), .val (.int c1), .val (.int c2), .val (.int c3), .val (.ref ca), .unset, .unset, .unset] [(.ref st)])) (fun t_ k_ => (st38.trans k_)) ?_
      have hco : StrChars.Road.CodA ([c0] : List Int32) 0 (1 : Int32) [(.int (StrChars.lo8 c0))] := Or.inl ⟨rfl, rfl, rfl, hnw⟩
      have Vs : Arv Z T38.heap t38 kt38 .byte (1 : Int32) [(.int (StrChars.lo8 c0))] (.int 0) := Vt38
      refine own_of (T' := T38) (f' := (mkF m 144 #[.val (.int p0), .val (.int p1), .val (.int p2), .val (.int p3), .val (.int p4), .val (.int p5), .val (.int nn), .val (.int c0), .val (.int c1), .val (.int c2), .val (.int c3), .val (.ref ca), .val (.ref st), .unset, .unset] [])) (fun t_ k_ => (XS.astore X38.here hx rfl (Jvm.hb hby at_142) rfl rfl (l' := #[.val (.int p0), .val (.int p1), .val (.int p2), .val (.int p3), .val (.int p4), .val (.int p5), .val (.int nn), .val (.int c0), .val (.int c1), .val (.int c2), .val (.int c3), .val (.ref ca), .val (.ref st), .unset, .unset]) rfl k_)) ?_
      obtain ⟨T53, h53, X53, e53, E53, A53, D53, -, st53⟩ := newO X38 hx hZ hown (hw _ (List.mem_of_getElem? (i := 31) rfl)) (hw _ (List.mem_of_getElem? (i := 32) rfl)) (hw _ (List.mem_of_getElem? (i := 33) rfl)) rfl (g := (mkF m 144 #[.val (.int p0), .val (.int p1), .val (.int p2), .val (.int p3), .val (.int p4), .val (.int p5), .val (.int nn), .val (.int c0), .val (.int c1), .val (.int c2), .val (.int c3), .val (.ref ca), .val (.ref st), .unset, .unset] [])) rfl (Jvm.hb hby at_144) (by decide) (by decide)
      obtain ⟨rf, g53⟩ : ∃ z, z = T38.heap.size := ⟨_, rfl⟩
      rw [← g53] at A53 D53 st53
      have ne_ca_rf : ca ≠ rf := by rw [g53]; exact Nat.ne_of_lt f48.lt
      have ne_st_rf : st ≠ rf := by rw [g53]; exact Nat.ne_of_lt Es38.lt
      have ne_t38_rf : t38 ≠ rf := by rw [g53]; exact Nat.ne_of_lt Vs.lt
      have g_rf : n0 ≤ rf := Nat.le_trans f41 (Nat.le_of_eq g53.symm)
      have f54 := Nat.le_trans f40 E53.1
      have f55 := Nat.le_trans f41 E53.1
      have f56 := f42.ext E53
      have f57 := f43.ext E53
      have f58 := f44.ext E53
      have f59 := f45.ext E53
      have f60 := f46.ext E53
      have f61 := f47.ext E53
      have f62 := f48.ext E53
      have f63 := f49.ext E53
      have f64 := Es38.ext E53
      have f65 := Fc38.ext E53
      have f66 := Fv38.ext E53
      have f67 := Vs.ext E53
      have f68 : Fld Z h53 rf "com/example/austere_auth/austereauth/refusal/Refusal" "status" "I" (.int (0 : Int32)) := D53 (Or.inr (hw _ (List.mem_of_getElem? (i := 51) rfl))) (ty := .int) (by decide)
      have f69 : Fld Z h53 rf "com/example/austere_auth/austereauth/refusal/Refusal" "error" "Ljava/lang/String;" .null := D53 (Or.inr (hw _ (List.mem_of_getElem? (i := 53) rfl))) (ty := (.object "java/lang/String")) (by decide)
      have f70 : Fld Z h53 rf "com/example/austere_auth/austereauth/refusal/Refusal" "description" "Ljava/lang/String;" .null := D53 (Or.inr (hw _ (List.mem_of_getElem? (i := 55) rfl))) (ty := (.object "java/lang/String")) (by decide)
      have f71 : Fld Z h53 rf "com/example/austere_auth/austereauth/refusal/Refusal" "scope" "Ljava/lang/String;" .null := D53 (Or.inr (hw _ (List.mem_of_getElem? (i := 57) rfl))) (ty := (.object "java/lang/String")) (by decide)
      refine own_of (T' := T53) (f' := (mkF m 150 #[.val (.int p0), .val (.int p1), .val (.int p2), .val (.int p3), .val (.int p4), .val (.int p5), .val (.int nn), .val (.int c0), .val (.int c1), .val (.int c2), .val (.int c3), .val (.ref ca), .val (.ref st), .unset, .unset] [(.int p5), (.ref rf), (.ref rf)])) (fun t_ k_ => (st53 _ (XS.dup X53.here hx rfl (Jvm.hb hby at_147) rfl rfl (XS.iload X53.here hx rfl (Jvm.hb hby at_148) rfl k_)))) ?_
      obtain ⟨k1, T72, h72, k72, X72, e72, E72, hS, Y72, hZ, hown, st72⟩ := ldcS X53 hx hZ hown (hw _ (List.mem_of_getElem? (i := 34) rfl)) hwS e53 hS f54 (g := (mkF m 150 #[.val (.int p0), .val (.int p1), .val (.int p2), .val (.int p3), .val (.int p4), .val (.int p5), .val (.int nn), .val (.int c0), .val (.int c1), .val (.int c2), .val (.int c3), .val (.ref ca), .val (.ref st), .unset, .unset] [(.int p5), (.ref rf), (.ref rf)])) rfl (Jvm.hb hby at_150) (n := 60) (by decide) (by decide) (by decide) (by decide)
      have f73 := Nat.le_trans f55 E72.1
      have f74 := f56.ext E72
      have f75 := f57.ext E72
      have f76 := f58.ext E72
      have f77 := f59.ext E72
      have f78 := f60.ext E72
      have f79 := f61.ext E72
      have f80 := f62.ext E72
      have f81 := f63.ext E72
      have f82 := f64.ext E72
      have f83 := f65.ext E72
      have f84 := f66.ext E72
      have f85 := f67.ext E72
      have f86 := A53.ext E72
      have f87 := f68.ext E72
      have f88 := f69.ext E72
      have f89 := f70.ext E72
      have f90 := f71.ext E72
      refine own_of (T' := T72) (f' := (mkF m 152 #[.val (.int p0), .val (.int p1), .val (.int p2), .val (.int p3), .val (.int p4), .val (.int p5), .val (.int nn), .val (.int c0), .val (.int c1), .val (.int c2), .val (.int c3), .val (.ref ca), .val (.ref st), .unset, .unset] [(.ref k1), (.int p5), (.ref rf), (.ref rf)])) (fun t_ k_ => (st72 _ k_)) ?_
      obtain ⟨k2, T91, h91, k91, X91, e91, E91, hS, Y91, hZ, hown, st91⟩ := ldcS X72 hx hZ hown (hw _ (List.mem_of_getElem? (i := 37) rfl)) hwS e72 hS Y72 (g := (mkF m 152 #[.val (.int p0), .val (.int p1), .val (.int p2), .val (.int p3), .val (.int p4), .val (.int p5), .val (.int nn), .val (.int c0), .val (.int c1), .val (.int c2), .val (.int c3), .val (.ref ca), .val (.ref st), .unset, .unset] [(.ref k1), (.int p5), (.ref rf), (.ref rf)])) rfl (Jvm.hb hby at_152) (n := 56) (by decide) (by decide) (by decide) (by decide)
      have f92 := Nat.le_trans f73 E91.1
      have f93 := f74.ext E91
      have f94 := f75.ext E91
      have f95 := f76.ext E91
      have f96 := f77.ext E91
      have f97 := f78.ext E91
      have f98 := f79.ext E91
      have f99 := f80.ext E91
      have f100 := f81.ext E91
      have f101 := f82.ext E91
      have f102 := f83.ext E91
      have f103 := f84.ext E91
      have f104 := f85.ext E91
      have f105 := f86.ext E91
      have f106 := f87.ext E91
      have f107 := f88.ext E91
      have f108 := f89.ext E91
      have f109 := f90.ext E91
      refine own_of (T' := T91) (f' := (mkF m 154 #[.val (.int p0), .val (.int p1), .val (.int p2), .val (.int p3), .val (.int p4), .val (.int p5), .val (.int nn), .val (.int c0), .val (.int c1), .val (.int c2), .val (.int c3), .val (.ref ca), .val (.ref st), .unset, .unset] [(.ref k2), (.ref k1), (.int p5), (.ref rf), (.ref rf)])) (fun t_ k_ => (st91 _ k_)) ?_
      obtain ⟨_, _, ⟨T110, L110, k110, n110⟩, -, X110, ⟨Lc110, hQ110, l110, y110, z110⟩, st110⟩ := X91.specialBack hx (y := (⟨"com/example/austere_auth/austereauth/refusal/Refusal", "<init>", "(ILjava/lang/String;Ljava/lang/String;)V"⟩ : MethodName)) rfl hown (mvT hZ (hw _ (List.mem_of_getElem? (i := 38) rfl))) (mvT hZ (hw _ (List.mem_of_getElem? (i := 39) rfl))) (mvT hZ (hw _ (List.mem_of_getElem? (i := 40) rfl))) (by decide) (backOf (W := 1) (own_rm_r3 l Z a0 hw [] rf p5 k1 k2 h91 n0 f92 f106 f107 f108 f109 f105 g_rf) hZ (hw _ (List.mem_of_getElem? (i := 40) rfl)) (hw _ (List.mem_of_getElem? (i := 33) rfl)) (by decide) (by decide)) (g := (mkF m 154 #[.val (.int p0), .val (.int p1), .val (.int p2), .val (.int p3), .val (.int p4), .val (.int p5), .val (.int nn), .val (.int c0), .val (.int c1), .val (.int c2), .val (.int c3), .val (.ref ca), .val (.ref st), .unset, .unset] [(.ref k2), (.ref k1), (.int p5), (.ref rf), (.ref rf)])) rfl (by rw [hml]; rfl) (Steps.refl _) (a := rf) (argsL := [(.int p5), (.ref k1), (.ref k2)]) (rest := [(.ref rf)]) (lenOf own_pd_16 rfl) rfl (by show 2 * 0 + _ ≤ _; exact Nat.le_of_eq rfl) (Jvm.hb hby at_154) (fun _ _ => ⟨rfl, e91, Nat.le_of_ble_eq_true rfl, Nat.le_of_ble_eq_true rfl⟩)
      dsimp only [Pt.U, Pt.locs, Pt.cells, Pt.slots] at X110 l110 y110 z110 st110 hQ110
      subst l110 y110 z110
      obtain ⟨rfl, N110, K110⟩ := hQ110
      have N111 := Fr.app N39 N110
      have f112 := Nat.le_trans f92 K110.1
      have f113 := f93.keep K110 (allS g_rf all0)
      have f114 := own_stakeep f94 K110 (allS (own_plainE f105) all0)
      have f115 := own_stakeep f95 K110 (allS (own_plainE f105) all0)
      have f116 := own_stakeep f96 K110 (allS (own_plainE f105) all0)
      have f117 := own_stakeep f97 K110 (allS (own_plainE f105) all0)
      have f118 := own_stakeep f98 K110 (allS (own_plainE f105) all0)
      have f119 := f99.keep K110
      have f120 := f100.keep K110 (ninS ne_ca_rf nin0)
      have f121 := f101.keep K110
      have f122 := f102.keep K110 (ninS ne_st_rf nin0)
      have f123 := f103.keep K110 (ninS ne_st_rf nin0)
      have f124 := f104.keep K110 (ninS ne_t38_rf nin0)
      have f125 := f105.keep K110
      have f130 := Nat.le_trans Y91 K110.1
      refine own_of (T' := T110) (f' := (mkF m 163 #[.val (.int p0), .val (.int p1), .val (.int p2), .val (.int p3), .val (.int p4), .val (.int p5), .val (.int nn), .val (.int c0), .val (.int c1), .val (.int c2), .val (.int c3), .val (.ref ca), .val (.ref st), .val (.ref rf), .unset] [(.ref rf), (.ref st)])) (fun t_ k_ => (st110.trans (XS.astore X110.here hx rfl (Jvm.hb hby at_157) rfl rfl (l' := #[.val (.int p0), .val (.int p1), .val (.int p2), .val (.int p3), .val (.int p4), .val (.int p5), .val (.int nn), .val (.int c0), .val (.int c1), .val (.int c2), .val (.int c3), .val (.ref ca), .val (.ref st), .val (.ref rf), .unset]) rfl (XS.aload X110.here hx rfl (Jvm.hb hby at_159) rfl rfl (XS.aload X110.here hx rfl (Jvm.hb hby at_161) rfl rfl k_))))) ?_
      obtain ⟨_, _, ⟨T131, L131, k131, n131⟩, -, X131, ⟨Lc131, hQ131, l131, y131, z131⟩, st131⟩ := Jvm.LawKit.callS X110 hx (y := (⟨"com/example/austere_auth/austereauth/refusal/Refusal", "requirePresent", "(Ljava/lang/String;Lcom/example/austere_auth/austereauth/refusal/Refusal;)Ljava/lang/String;"⟩ : MethodName)) hown (mvT hZ (hw _ (List.mem_of_getElem? (i := 58) rfl))) (mvT hZ (hw _ (List.mem_of_getElem? (i := 59) rfl))) (mvT hZ (hw _ (List.mem_of_getElem? (i := 33) rfl))) (mvT hZ (hw _ (List.mem_of_getElem? (i := 60) rfl))) (by decide) (backOf (W := 0) (own_rm_req l Z a0 hw [] st rf t38 kt38 ([c0] : List Int32) (0 : Int32) (1 : Int32) [(.int (StrChars.lo8 c0))] T110.heap n0 f112 f121 f123 f122 f124 hco hr (Nat.le_of_ble_eq_true rfl) (by simp)) hZ (hw _ (List.mem_of_getElem? (i := 60) rfl)) (hw _ (List.mem_of_getElem? (i := 33) rfl)) (by decide) (by decide)) (g := (mkF m 163 #[.val (.int p0), .val (.int p1), .val (.int p2), .val (.int p3), .val (.int p4), .val (.int p5), .val (.int nn), .val (.int c0), .val (.int c1), .val (.int c2), .val (.int c3), .val (.ref ca), .val (.ref st), .val (.ref rf), .unset] [(.ref rf), (.ref st)])) rfl (by rw [hml]; rfl) (argsL := [(.ref st), (.ref rf)]) (rest := []) (lenOf own_pd_17 rfl) rfl (by show 2 * 0 + _ ≤ _; exact Nat.le_of_eq rfl) (Jvm.hb hby at_163) (fun _ _ => ⟨rfl, rfl, Nat.le_of_ble_eq_true rfl, Nat.le_of_ble_eq_true rfl⟩)
      dsimp only [Pt.U, Pt.locs, Pt.cells, Pt.slots] at X131 l131 y131 z131 st131 hQ131
      subst l131 y131 z131
      obtain ⟨rfl, N131, e131⟩ := hQ131
      have N132 := Fr.app N111 N131
      refine own_of (T' := T131) (f' := (mkF m 177 #[.val (.int p0), .val (.int p1), .val (.int p2), .val (.int p3), .val (.int p4), .val (.int p5), .val (.int nn), .val (.int c0), .val (.int c1), .val (.int c2), .val (.int c3), .val (.ref ca), .val (.ref st), .val (.ref rf), .val (.ref st)] [(.ref st)])) (fun t_ k_ => (st131 _ (XS.astore X131.here hx rfl (Jvm.hb hby at_166) rfl rfl (l' := #[.val (.int p0), .val (.int p1), .val (.int p2), .val (.int p3), .val (.int p4), .val (.int p5), .val (.int nn), .val (.int c0), .val (.int c1), .val (.int c2), .val (.int c3), .val (.ref ca), .val (.ref st), .val (.ref rf), .val (.ref st)]) rfl (XS.aload X131.here hx rfl (Jvm.hb hby at_168) rfl rfl (XS.aload X131.here hx rfl (Jvm.hb hby at_170) rfl rfl (Jvm.RoadKit.acmp (g := (mkF m 172 #[.val (.int p0), .val (.int p1), .val (.int p2), .val (.int p3), .val (.int p4), .val (.int p5), .val (.int nn), .val (.int c0), .val (.int c1), .val (.int c2), .val (.int c3), .val (.ref ca), .val (.ref st), .val (.ref rf), .val (.ref st)] [(.ref st), (.ref st)])) X131 hx rfl rfl rfl (pc0 := 172) (pc' := 175) (same := true) rfl (Jvm.hb hby at_172) rfl (decide_eq_true rfl) (by decide) (by decide) (XS.aload X131.here hx rfl (Jvm.hb hby at_175) rfl rfl k_))))))) ?_
      have hwL : ∀ d ∈ StrChars.Road.wordsLen, d.before a0 Z = true := fun d hd => hw d (own_wLen d hd)
      have hwC : ∀ d ∈ StrChars.Road.wordsChN, d.before a0 Z = true := fun d hd => hw d (own_wChN d hd)
      obtain ⟨cq134, kq134, q134a, q134b, q134c⟩ := isOf hZ e131 f121
      obtain ⟨_, _, ⟨T133, L133, k133, n133⟩, -, X133, ⟨Lc133, hQ133, l133, y133, z133⟩, st133⟩ := X131.virtualBack hx (y := (⟨"java/lang/String", "length", "()I"⟩ : MethodName)) (z := (⟨"java/lang/String", "length", "()I"⟩ : MethodName)) hown (mvT hZ (hw _ (List.mem_of_getElem? (i := 66) rfl))) (mvT hZ (hw _ (List.mem_of_getElem? (i := 67) rfl))) (notFace_of_selects (args := #[]) (mvT hZ (hw _ (List.mem_of_getElem? (i := 69) rfl)))) (mvT hZ (hw _ (List.mem_of_getElem? (i := 69) rfl))) (mvT hZ (hw _ (List.mem_of_getElem? (i := 68) rfl))) (by decide) (StrChars.Road.lenW (W := 0) hZ hwL (kI := 4) (hw _ (List.mem_of_getElem? (i := 3) rfl)) f121 f123 f122 f124 hco hr f114 P5 (Nat.le_of_ble_eq_true rfl) (by decide) (by decide)) q134a q134c (g := (mkF m 177 #[.val (.int p0), .val (.int p1), .val (.int p2), .val (.int p3), .val (.int p4), .val (.int p5), .val (.int nn), .val (.int c0), .val (.int c1), .val (.int c2), .val (.int c3), .val (.ref ca), .val (.ref st), .val (.ref rf), .val (.ref st)] [(.ref st)])) rfl (by rw [hml]; rfl) (Steps.refl _) (argsL := []) (rest := []) (lenOf own_pd_18 rfl) rfl (by show 2 * 0 + _ ≤ _; exact Nat.le_of_eq rfl) (Jvm.hb hby at_177) (fun _ _ => ⟨rfl, e131, Nat.le_of_ble_eq_true rfl, Nat.le_of_ble_eq_true rfl⟩)
      dsimp only [Pt.U, Pt.locs, Pt.cells, Pt.slots] at X133 l133 y133 z133 st133 hQ133
      subst l133 y133 z133
      obtain ⟨rfl, rfl, e133⟩ := hQ133
      have N133 : Fr n0 ([] : List Loc) := Fr.nil n0
      have N135 := Fr.app N132 N133
      refine own_of (T' := T133) (f' := (mkF m 188 #[.val (.int p0), .val (.int p1), .val (.int p2), .val (.int p3), .val (.int p4), .val (.int p5), .val (.int nn), .val (.int c0), .val (.int c1), .val (.int c2), .val (.int c3), .val (.ref ca), .val (.ref st), .val (.ref rf), .val (.ref st)] [(.int (0 : Int32)), (.ref st)])) (fun t_ k_ => (st133.trans (XS.iload X133.here hx rfl (Jvm.hb hby at_180) rfl (XS.icmpNo X133.here hx rfl (Jvm.hb hby at_182) rfl (teq hn).2 (XS.aload X133.here hx rfl (Jvm.hb hby at_185) rfl rfl (XS.iconst X133.here hx rfl (Jvm.hb hby at_187) k_)))))) ?_
      obtain ⟨cq137, kq137, q137a, q137b, q137c⟩ := isOf hZ e133 f121
      obtain ⟨_, _, ⟨T136, L136, k136, n136⟩, -, X136, ⟨Lc136, hQ136, l136, y136, z136⟩, st136⟩ := X133.virtualBack hx (y := (⟨"java/lang/String", "charAt", "(I)C"⟩ : MethodName)) (z := (⟨"java/lang/String", "charAt", "(I)C"⟩ : MethodName)) hown (mvT hZ (hw _ (List.mem_of_getElem? (i := 76) rfl))) (mvT hZ (hw _ (List.mem_of_getElem? (i := 77) rfl))) (notFace_of_selects (args := #[]) (mvT hZ (hw _ (List.mem_of_getElem? (i := 79) rfl)))) (mvT hZ (hw _ (List.mem_of_getElem? (i := 79) rfl))) (mvT hZ (hw _ (List.mem_of_getElem? (i := 78) rfl))) (by decide) (StrChars.Road.chN (W := 0) hZ hwC (kI := 4) (i := 0) (j := (0 : Int32)) (hw _ (List.mem_of_getElem? (i := 3) rfl)) f121 f123 f122 f124 hco hr f114 P5 f115 rfm (Nat.le_of_ble_eq_true rfl) (by simp) rfl (by decide) (by decide)) q137a q137c (g := (mkF m 188 #[.val (.int p0), .val (.int p1), .val (.int p2), .val (.int p3), .val (.int p4), .val (.int p5), .val (.int nn), .val (.int c0), .val (.int c1), .val (.int c2), .val (.int c3), .val (.ref ca), .val (.ref st), .val (.ref rf), .val (.ref st)] [(.int (0 : Int32)), (.ref st)])) rfl (by rw [hml]; rfl) (Steps.refl _) (argsL := [(.int (0 : Int32))]) (rest := []) (lenOf own_pd_19 rfl) rfl (by show 2 * 0 + _ ≤ _; exact Nat.le_of_eq rfl) (Jvm.hb hby at_188) (fun _ _ => ⟨rfl, e133, Nat.le_of_ble_eq_true rfl, Nat.le_of_ble_eq_true rfl⟩)
      dsimp only [Pt.U, Pt.locs, Pt.cells, Pt.slots] at X136 l136 y136 z136 st136 hQ136
      subst l136 y136 z136
      obtain ⟨rfl, rfl, e136⟩ := hQ136
      have N136 : Fr n0 ([] : List Loc) := Fr.nil n0
      have N138 := Fr.app N135 N136
      refine own_of (T' := T136) (f' := (mkF m 201 #[.val (.int p0), .val (.int p1), .val (.int p2), .val (.int p3), .val (.int p4), .val (.int p5), .val (.int nn), .val (.int c0), .val (.int c1), .val (.int c2), .val (.int c3), .val (.ref ca), .val (.ref st), .val (.ref rf), .val (.ref st)] [(.int (1 : Int32))])) (fun t_ k_ => (st136.trans (XS.iload X136.here hx rfl (Jvm.hb hby at_191) rfl (XS.icmpNo X136.here hx rfl (Jvm.hb hby at_193) rfl (teq rfl).2 (XS.iconst X136.here hx rfl (Jvm.hb hby at_196) (XS.goto X136.here hx rfl (pc0 := 197) (pc' := 201) rfl (Jvm.hb hby at_197) (by decide) (by decide) k_)))))) ?_
      obtain ⟨fs, hr, hrun, hended, hEnd⟩ := X136.leaveW hS (by rw [e136]; exact f130) (v := some (.int (1 : Int32))) (fun h => by rw [Bd.returns] at h; cases h)
      exact ⟨_, _, retN X136 hx (t := .boolean) Bd.returns (by simp) (Jvm.hb hby at_201) hr, hrun, hended, _, _, rfl, (by show own_Q_0 Z p0 p1 p2 p3 p4 p5 G1 fm h0 n0 _ T136.heap _; rw [e136]; exact ⟨rfl, N138⟩), hEnd.1, hEnd.2.1, hEnd.2.2.1, hEnd.2.2.2.mono (by decide) (by decide)⟩
    · skip
      have hwd : (255 : Int32) < c0 := by
        apply Decidable.byContradiction
        intro q
        apply hnw
        intro c hc z
        apply q
        simp only [List.mem_cons, List.not_mem_nil, or_false] at hc
        subst hc
        exact z
      obtain ⟨_, _, ⟨T139, L139, k139, n139⟩, -, X139, ⟨Lc139, hQ139, l139, y139, z139⟩, st139⟩ := X25.specialBack hx (y := (⟨"java/lang/String", "<init>", "([C)V"⟩ : MethodName)) rfl hown (mvT hZ (hw _ (List.mem_of_getElem? (i := 5) rfl))) (mvT hZ (hw _ (List.mem_of_getElem? (i := 6) rfl))) (mvT hZ (hw _ (List.mem_of_getElem? (i := 7) rfl))) (by decide) (backOf (W := 1) (own_rm_cini1 l Z a0 hw [] st ca c0 k2 G1 h25 n0 f27 f37 f36 A25 g_st f31 f32 f33 f29 P5 f35 (Ne.symm ne_ca_st) hr hwd) hZ (hw _ (List.mem_of_getElem? (i := 7) rfl)) (hw _ (List.mem_of_getElem? (i := 4) rfl)) (by decide) (by decide)) (g := (mkF m 139 #[.val (.int p0), .val (.int p1), .val (.int p2), .val (.int p3), .val (.int p4), .val (.int p5), .val (.int nn), .val (.int c0), .val (.int c1), .val (.int c2), .val (.int c3), .val (.ref ca), .unset, .unset, .unset] [(.ref ca), (.ref st), (.ref st)])) rfl (by rw [hml]; rfl) (Steps.refl _) (a := st) (argsL := [(.ref ca)]) (rest := [(.ref st)]) (lenOf own_pd_15 rfl) rfl (by show 2 * 0 + _ ≤ _; exact Nat.le_of_eq rfl) (Jvm.hb hby at_139) (fun _ _ => ⟨rfl, e25, Nat.le_of_ble_eq_true rfl, Nat.le_of_ble_eq_true rfl⟩)
      dsimp only [Pt.U, Pt.locs, Pt.cells, Pt.slots] at X139 l139 y139 z139 st139 hQ139
      subst l139 y139 z139
      obtain ⟨rfl, N139, K139, q1, q2, tb, kt, q3, q4⟩ := hQ139
      have N140 := Fr.app N13 N139
      have f141 := Nat.le_trans f26 K139.1
      have f142 := Nat.le_trans f27 K139.1
      have f143 := f28.keep K139 (allS g_st all0)
      have f144 := own_stakeep f29 K139 (allS (own_plainE A25) all0)
      have f145 := own_stakeep f30 K139 (allS (own_plainE A25) all0)
      have f146 := own_stakeep f31 K139 (allS (own_plainE A25) all0)
      have f147 := own_stakeep f32 K139 (allS (own_plainE A25) all0)
      have f148 := own_stakeep f33 K139 (allS (own_plainE A25) all0)
      have f149 := f34.keep K139
      have f150 := f35.keep K139 (ninS ne_ca_st nin0)
      have f151 := A25.keep K139
      refine own_of (T' := T139) (f' := (mkF m 142 #[.val (.int p0), .val (.int p1), .val (.int p2), .val (.int p3), .val (.int p4), .val (.int p5), .val (.int nn), .val (.int c0), .val (.int c1), .val (.int c2), .val (.int c3), .val (.ref ca), .unset, .unset, .unset] [(.ref st)])) (fun t_ k_ => (st139.trans k_)) ?_
      have hco : StrChars.Road.CodA ([c0] : List Int32) 1 (2 : Int32) [(.int (StrChars.lo8 c0)), (.int (StrChars.hi8 c0))] := Or.inr ⟨rfl, rfl, rfl, by
        exact ⟨c0, by simp, hwd⟩⟩
      have ltb := q4.lt
      refine own_of (T' := T139) (f' := (mkF m 144 #[.val (.int p0), .val (.int p1), .val (.int p2), .val (.int p3), .val (.int p4), .val (.int p5), .val (.int nn), .val (.int c0), .val (.int c1), .val (.int c2), .val (.int c3), .val (.ref ca), .val (.ref st), .unset, .unset] [])) (fun t_ k_ => (XS.astore X139.here hx rfl (Jvm.hb hby at_142) rfl rfl (l' := #[.val (.int p0), .val (.int p1), .val (.int p2), .val (.int p3), .val (.int p4), .val (.int p5), .val (.int nn), .val (.int c0), .val (.int c1), .val (.int c2), .val (.int c3), .val (.ref ca), .val (.ref st), .unset, .unset]) rfl k_)) ?_
      obtain ⟨T154, h154, X154, e154, E154, A154, D154, -, st154⟩ := newO X139 hx hZ hown (hw _ (List.mem_of_getElem? (i := 31) rfl)) (hw _ (List.mem_of_getElem? (i := 32) rfl)) (hw _ (List.mem_of_getElem? (i := 33) rfl)) rfl (g := (mkF m 144 #[.val (.int p0), .val (.int p1), .val (.int p2), .val (.int p3), .val (.int p4), .val (.int p5), .val (.int nn), .val (.int c0), .val (.int c1), .val (.int c2), .val (.int c3), .val (.ref ca), .val (.ref st), .unset, .unset] [])) rfl (Jvm.hb hby at_144) (by decide) (by decide)
      obtain ⟨rf, g154⟩ : ∃ z, z = T139.heap.size := ⟨_, rfl⟩
      rw [← g154] at A154 D154 st154
      have ne_st_rf : st ≠ rf := by rw [g154]; exact Nat.ne_of_lt q1.lt
      have ne_tb_rf : tb ≠ rf := by rw [g154]; exact Nat.ne_of_lt q4.lt
      have g_rf : n0 ≤ rf := Nat.le_trans f142 (Nat.le_of_eq g154.symm)
      have f155 := Nat.le_trans f141 E154.1
      have f156 := Nat.le_trans f142 E154.1
      have f157 := f143.ext E154
      have f158 := f144.ext E154
      have f159 := f145.ext E154
      have f160 := f146.ext E154
      have f161 := f147.ext E154
      have f162 := f148.ext E154
      have f163 := q1.ext E154
      have f164 := q2.ext E154
      have f165 := q3.ext E154
      have f166 := q4.ext E154
      have f167 : Fld Z h154 rf "com/example/austere_auth/austereauth/refusal/Refusal" "status" "I" (.int (0 : Int32)) := D154 (Or.inr (hw _ (List.mem_of_getElem? (i := 51) rfl))) (ty := .int) (by decide)
      have f168 : Fld Z h154 rf "com/example/austere_auth/austereauth/refusal/Refusal" "error" "Ljava/lang/String;" .null := D154 (Or.inr (hw _ (List.mem_of_getElem? (i := 53) rfl))) (ty := (.object "java/lang/String")) (by decide)
      have f169 : Fld Z h154 rf "com/example/austere_auth/austereauth/refusal/Refusal" "description" "Ljava/lang/String;" .null := D154 (Or.inr (hw _ (List.mem_of_getElem? (i := 55) rfl))) (ty := (.object "java/lang/String")) (by decide)
      have f170 : Fld Z h154 rf "com/example/austere_auth/austereauth/refusal/Refusal" "scope" "Ljava/lang/String;" .null := D154 (Or.inr (hw _ (List.mem_of_getElem? (i := 57) rfl))) (ty := (.object "java/lang/String")) (by decide)
      refine own_of (T' := T154) (f' := (mkF m 150 #[.val (.int p0), .val (.int p1), .val (.int p2), .val (.int p3), .val (.int p4), .val (.int p5), .val (.int nn), .val (.int c0), .val (.int c1), .val (.int c2), .val (.int c3), .val (.ref ca), .val (.ref st), .unset, .unset] [(.int p5), (.ref rf), (.ref rf)])) (fun t_ k_ => (st154 _ (XS.dup X154.here hx rfl (Jvm.hb hby at_147) rfl rfl (XS.iload X154.here hx rfl (Jvm.hb hby at_148) rfl k_)))) ?_
      obtain ⟨k1, T171, h171, k171, X171, e171, E171, hS, Y171, hZ, hown, st171⟩ := ldcS X154 hx hZ hown (hw _ (List.mem_of_getElem? (i := 34) rfl)) hwS e154 hS f155 (g := (mkF m 150 #[.val (.int p0), .val (.int p1), .val (.int p2), .val (.int p3), .val (.int p4), .val (.int p5), .val (.int nn), .val (.int c0), .val (.int c1), .val (.int c2), .val (.int c3), .val (.ref ca), .val (.ref st), .unset, .unset] [(.int p5), (.ref rf), (.ref rf)])) rfl (Jvm.hb hby at_150) (n := 60) (by decide) (by decide) (by decide) (by decide)
      have f172 := Nat.le_trans f156 E171.1
      have f173 := f157.ext E171
      have f174 := f158.ext E171
      have f175 := f159.ext E171
      have f176 := f160.ext E171
      have f177 := f161.ext E171
      have f178 := f162.ext E171
      have f179 := f163.ext E171
      have f180 := f164.ext E171
      have f181 := f165.ext E171
      have f182 := f166.ext E171
      have f183 := A154.ext E171
      have f184 := f167.ext E171
      have f185 := f168.ext E171
      have f186 := f169.ext E171
      have f187 := f170.ext E171
      refine own_of (T' := T171) (f' := (mkF m 152 #[.val (.int p0), .val (.int p1), .val (.int p2), .val (.int p3), .val (.int p4), .val (.int p5), .val (.int nn), .val (.int c0), .val (.int c1), .val (.int c2), .val (.int c3), .val (.ref ca), .val (.ref st), .unset, .unset] [(.ref k1), (.int p5), (.ref rf), (.ref rf)])) (fun t_ k_ => (st171 _ k_)) ?_
      obtain ⟨k2, T188, h188, k188, X188, e188, E188, hS, Y188, hZ, hown, st188⟩ := ldcS X171 hx hZ hown (hw _ (List.mem_of_getElem? (i := 37) rfl)) hwS e171 hS Y171 (g := (mkF m 152 #[.val (.int p0), .val (.int p1), .val (.int p2), .val (.int p3), .val (.int p4), .val (.int p5), .val (.int nn), .val (.int c0), .val (.int c1), .val (.int c2), .val (.int c3), .val (.ref ca), .val (.ref st), .unset, .unset] [(.ref k1), (.int p5), (.ref rf), (.ref rf)])) rfl (Jvm.hb hby at_152) (n := 56) (by decide) (by decide) (by decide) (by decide)
      have f189 := Nat.le_trans f172 E188.1
      have f190 := f173.ext E188
      have f191 := f174.ext E188
      have f192 := f175.ext E188
      have f193 := f176.ext E188
      have f194 := f177.ext E188
      have f195 := f178.ext E188
      have f196 := f179.ext E188
      have f197 := f180.ext E188
      have f198 := f181.ext E188
      have f199 := f182.ext E188
      have f200 := f183.ext E188
      have f201 := f184.ext E188
      have f202 := f185.ext E188
      have f203 := f186.ext E188
      have f204 := f187.ext E188
      refine own_of (T' := T188) (f' := (mkF m 154 #[.val (.int p0), .val (.int p1), .val (.int p2), .val (.int p3), .val (.int p4), .val (.int p5), .val (.int nn), .val (.int c0), .val (.int c1), .val (.int c2), .val (.int c3), .val (.ref ca), .val (.ref st), .unset, .unset] [(.ref k2), (.ref k1), (.int p5), (.ref rf), (.ref rf)])) (fun t_ k_ => (st188 _ k_)) ?_
      obtain ⟨_, _, ⟨T205, L205, k205, n205⟩, -, X205, ⟨Lc205, hQ205, l205, y205, z205⟩, st205⟩ := X188.specialBack hx (y := (⟨"com/example/austere_auth/austereauth/refusal/Refusal", "<init>", "(ILjava/lang/String;Ljava/lang/String;)V"⟩ : MethodName)) rfl hown (mvT hZ (hw _ (List.mem_of_getElem? (i := 38) rfl))) (mvT hZ (hw _ (List.mem_of_getElem? (i := 39) rfl))) (mvT hZ (hw _ (List.mem_of_getElem? (i := 40) rfl))) (by decide) (backOf (W := 1) (own_rm_r3 l Z a0 hw [] rf p5 k1 k2 h188 n0 f189 f201 f202 f203 f204 f200 g_rf) hZ (hw _ (List.mem_of_getElem? (i := 40) rfl)) (hw _ (List.mem_of_getElem? (i := 33) rfl)) (by decide) (by decide)) (g := (mkF m 154 #[.val (.int p0), .val (.int p1), .val (.int p2), .val (.int p3), .val (.int p4), .val (.int p5), .val (.int nn), .val (.int c0), .val (.int c1), .val (.int c2), .val (.int c3), .val (.ref ca), .val (.ref st), .unset, .unset] [(.ref k2), (.ref k1), (.int p5), (.ref rf), (.ref rf)])) rfl (by rw [hml]; rfl) (Steps.refl _) (a := rf) (argsL := [(.int p5), (.ref k1), (.ref k2)]) (rest := [(.ref rf)]) (lenOf own_pd_16 rfl) rfl (by show 2 * 0 + _ ≤ _; exact Nat.le_of_eq rfl) (Jvm.hb hby at_154) (fun _ _ => ⟨rfl, e188, Nat.le_of_ble_eq_true rfl, Nat.le_of_ble_eq_true rfl⟩)
      dsimp only [Pt.U, Pt.locs, Pt.cells, Pt.slots] at X205 l205 y205 z205 st205 hQ205
      subst l205 y205 z205
      obtain ⟨rfl, N205, K205⟩ := hQ205
      have N206 := Fr.app N140 N205
      have f207 := Nat.le_trans f189 K205.1
      have f208 := f190.keep K205 (allS g_rf all0)
      have f209 := own_stakeep f191 K205 (allS (own_plainE f200) all0)
      have f210 := own_stakeep f192 K205 (allS (own_plainE f200) all0)
      have f211 := own_stakeep f193 K205 (allS (own_plainE f200) all0)
      have f212 := own_stakeep f194 K205 (allS (own_plainE f200) all0)
      have f213 := own_stakeep f195 K205 (allS (own_plainE f200) all0)
      have f214 := f196.keep K205
      have f215 := f197.keep K205 (ninS ne_st_rf nin0)
      have f216 := f198.keep K205 (ninS ne_st_rf nin0)
      have f217 := f199.keep K205 (ninS ne_tb_rf nin0)
      have f218 := f200.keep K205
      have f223 := Nat.le_trans Y188 K205.1
      refine own_of (T' := T205) (f' := (mkF m 163 #[.val (.int p0), .val (.int p1), .val (.int p2), .val (.int p3), .val (.int p4), .val (.int p5), .val (.int nn), .val (.int c0), .val (.int c1), .val (.int c2), .val (.int c3), .val (.ref ca), .val (.ref st), .val (.ref rf), .unset] [(.ref rf), (.ref st)])) (fun t_ k_ => (st205.trans (XS.astore X205.here hx rfl (Jvm.hb hby at_157) rfl rfl (l' := #[.val (.int p0), .val (.int p1), .val (.int p2), .val (.int p3), .val (.int p4), .val (.int p5), .val (.int nn), .val (.int c0), .val (.int c1), .val (.int c2), .val (.int c3), .val (.ref ca), .val (.ref st), .val (.ref rf), .unset]) rfl (XS.aload X205.here hx rfl (Jvm.hb hby at_159) rfl rfl (XS.aload X205.here hx rfl (Jvm.hb hby at_161) rfl rfl k_))))) ?_
      obtain ⟨_, _, ⟨T224, L224, k224, n224⟩, -, X224, ⟨Lc224, hQ224, l224, y224, z224⟩, st224⟩ := Jvm.LawKit.callS X205 hx (y := (⟨"com/example/austere_auth/austereauth/refusal/Refusal", "requirePresent", "(Ljava/lang/String;Lcom/example/austere_auth/austereauth/refusal/Refusal;)Ljava/lang/String;"⟩ : MethodName)) hown (mvT hZ (hw _ (List.mem_of_getElem? (i := 58) rfl))) (mvT hZ (hw _ (List.mem_of_getElem? (i := 59) rfl))) (mvT hZ (hw _ (List.mem_of_getElem? (i := 33) rfl))) (mvT hZ (hw _ (List.mem_of_getElem? (i := 60) rfl))) (by decide) (backOf (W := 0) (own_rm_req l Z a0 hw [] st rf tb kt ([c0] : List Int32) (1 : Int32) (2 : Int32) [(.int (StrChars.lo8 c0)), (.int (StrChars.hi8 c0))] T205.heap n0 f207 f214 f216 f215 f217 hco hr (Nat.le_of_ble_eq_true rfl) (by simp)) hZ (hw _ (List.mem_of_getElem? (i := 60) rfl)) (hw _ (List.mem_of_getElem? (i := 33) rfl)) (by decide) (by decide)) (g := (mkF m 163 #[.val (.int p0), .val (.int p1), .val (.int p2), .val (.int p3), .val (.int p4), .val (.int p5), .val (.int nn), .val (.int c0), .val (.int c1), .val (.int c2), .val (.int c3), .val (.ref ca), .val (.ref st), .val (.ref rf), .unset] [(.ref rf), (.ref st)])) rfl (by rw [hml]; rfl) (argsL := [(.ref st), (.ref rf)]) (rest := []) (lenOf own_pd_17 rfl) rfl (by show 2 * 0 + _ ≤ _; exact Nat.le_of_eq rfl) (Jvm.hb hby at_163) (fun _ _ => ⟨rfl, rfl, Nat.le_of_ble_eq_true rfl, Nat.le_of_ble_eq_true rfl⟩)
      dsimp only [Pt.U, Pt.locs, Pt.cells, Pt.slots] at X224 l224 y224 z224 st224 hQ224
      subst l224 y224 z224
      obtain ⟨rfl, N224, e224⟩ := hQ224
      have N225 := Fr.app N206 N224
      refine own_of (T' := T224) (f' := (mkF m 177 #[.val (.int p0), .val (.int p1), .val (.int p2), .val (.int p3), .val (.int p4), .val (.int p5), .val (.int nn), .val (.int c0), .val (.int c1), .val (.int c2), .val (.int c3), .val (.ref ca), .val (.ref st), .val (.ref rf), .val (.ref st)] [(.ref st)])) (fun t_ k_ => (st224 _ (XS.astore X224.here hx rfl (Jvm.hb hby at_166) rfl rfl (l' := #[.val (.int p0), .val (.int p1), .val (.int p2), .val (.int p3), .val (.int p4), .val (.int p5), .val (.int nn), .val (.int c0), .val (.int c1), .val (.int c2), .val (.int c3), .val (.ref ca), .val (.ref st), .val (.ref rf), .val (.ref st)]) rfl (XS.aload X224.here hx rfl (Jvm.hb hby at_168) rfl rfl (XS.aload X224.here hx rfl (Jvm.hb hby at_170) rfl rfl (Jvm.RoadKit.acmp (g := (mkF m 172 #[.val (.int p0), .val (.int p1), .val (.int p2), .val (.int p3), .val (.int p4), .val (.int p5), .val (.int nn), .val (.int c0), .val (.int c1), .val (.int c2), .val (.int c3), .val (.ref ca), .val (.ref st), .val (.ref rf), .val (.ref st)] [(.ref st), (.ref st)])) X224 hx rfl rfl rfl (pc0 := 172) (pc' := 175) (same := true) rfl (Jvm.hb hby at_172) rfl (decide_eq_true rfl) (by decide) (by decide) (XS.aload X224.here hx rfl (Jvm.hb hby at_175) rfl rfl k_))))))) ?_
      have hwL : ∀ d ∈ StrChars.Road.wordsLen, d.before a0 Z = true := fun d hd => hw d (own_wLen d hd)
      have hwC : ∀ d ∈ StrChars.Road.wordsChN, d.before a0 Z = true := fun d hd => hw d (own_wChN d hd)
      obtain ⟨cq227, kq227, q227a, q227b, q227c⟩ := isOf hZ e224 f214
      obtain ⟨_, _, ⟨T226, L226, k226, n226⟩, -, X226, ⟨Lc226, hQ226, l226, y226, z226⟩, st226⟩ := X224.virtualBack hx (y := (⟨"java/lang/String", "length", "()I"⟩ : MethodName)) (z := (⟨"java/lang/String", "length", "()I"⟩ : MethodName)) hown (mvT hZ (hw _ (List.mem_of_getElem? (i := 66) rfl))) (mvT hZ (hw _ (List.mem_of_getElem? (i := 67) rfl))) (notFace_of_selects (args := #[]) (mvT hZ (hw _ (List.mem_of_getElem? (i := 69) rfl)))) (mvT hZ (hw _ (List.mem_of_getElem? (i := 69) rfl))) (mvT hZ (hw _ (List.mem_of_getElem? (i := 68) rfl))) (by decide) (StrChars.Road.lenW (W := 0) hZ hwL (kI := 4) (hw _ (List.mem_of_getElem? (i := 3) rfl)) f214 f216 f215 f217 hco hr f209 P5 (Nat.le_of_ble_eq_true rfl) (by decide) (by decide)) q227a q227c (g := (mkF m 177 #[.val (.int p0), .val (.int p1), .val (.int p2), .val (.int p3), .val (.int p4), .val (.int p5), .val (.int nn), .val (.int c0), .val (.int c1), .val (.int c2), .val (.int c3), .val (.ref ca), .val (.ref st), .val (.ref rf), .val (.ref st)] [(.ref st)])) rfl (by rw [hml]; rfl) (Steps.refl _) (argsL := []) (rest := []) (lenOf own_pd_18 rfl) rfl (by show 2 * 0 + _ ≤ _; exact Nat.le_of_eq rfl) (Jvm.hb hby at_177) (fun _ _ => ⟨rfl, e224, Nat.le_of_ble_eq_true rfl, Nat.le_of_ble_eq_true rfl⟩)
      dsimp only [Pt.U, Pt.locs, Pt.cells, Pt.slots] at X226 l226 y226 z226 st226 hQ226
      subst l226 y226 z226
      obtain ⟨rfl, rfl, e226⟩ := hQ226
      have N226 : Fr n0 ([] : List Loc) := Fr.nil n0
      have N228 := Fr.app N225 N226
      refine own_of (T' := T226) (f' := (mkF m 188 #[.val (.int p0), .val (.int p1), .val (.int p2), .val (.int p3), .val (.int p4), .val (.int p5), .val (.int nn), .val (.int c0), .val (.int c1), .val (.int c2), .val (.int c3), .val (.ref ca), .val (.ref st), .val (.ref rf), .val (.ref st)] [(.int (0 : Int32)), (.ref st)])) (fun t_ k_ => (st226.trans (XS.iload X226.here hx rfl (Jvm.hb hby at_180) rfl (XS.icmpNo X226.here hx rfl (Jvm.hb hby at_182) rfl (teq hn).2 (XS.aload X226.here hx rfl (Jvm.hb hby at_185) rfl rfl (XS.iconst X226.here hx rfl (Jvm.hb hby at_187) k_)))))) ?_
      obtain ⟨cq230, kq230, q230a, q230b, q230c⟩ := isOf hZ e226 f214
      obtain ⟨_, _, ⟨T229, L229, k229, n229⟩, -, X229, ⟨Lc229, hQ229, l229, y229, z229⟩, st229⟩ := X226.virtualBack hx (y := (⟨"java/lang/String", "charAt", "(I)C"⟩ : MethodName)) (z := (⟨"java/lang/String", "charAt", "(I)C"⟩ : MethodName)) hown (mvT hZ (hw _ (List.mem_of_getElem? (i := 76) rfl))) (mvT hZ (hw _ (List.mem_of_getElem? (i := 77) rfl))) (notFace_of_selects (args := #[]) (mvT hZ (hw _ (List.mem_of_getElem? (i := 79) rfl)))) (mvT hZ (hw _ (List.mem_of_getElem? (i := 79) rfl))) (mvT hZ (hw _ (List.mem_of_getElem? (i := 78) rfl))) (by decide) (backOf (W := 0) (own_rm_cha l Z a0 hw [] st (0 : Int32) kt (2 : Int32) [(.int (StrChars.lo8 c0)), (.int (StrChars.hi8 c0))] fm c0 tb G1 T205.heap n0 f207 f211 f212 f213 f209 P5 f214 f216 f215 f217 f210 rfm rfl rfl rc0 rfl (by decide) (by decide) (by decide)) hZ (hw _ (List.mem_of_getElem? (i := 80) rfl)) (hw _ (List.mem_of_getElem? (i := 4) rfl)) (by decide) (by decide)) q230a q230c (g := (mkF m 188 #[.val (.int p0), .val (.int p1), .val (.int p2), .val (.int p3), .val (.int p4), .val (.int p5), .val (.int nn), .val (.int c0), .val (.int c1), .val (.int c2), .val (.int c3), .val (.ref ca), .val (.ref st), .val (.ref rf), .val (.ref st)] [(.int (0 : Int32)), (.ref st)])) rfl (by rw [hml]; rfl) (Steps.refl _) (argsL := [(.int (0 : Int32))]) (rest := []) (lenOf own_pd_19 rfl) rfl (by show 2 * 0 + _ ≤ _; exact Nat.le_of_eq rfl) (Jvm.hb hby at_188) (fun _ _ => ⟨rfl, e226, Nat.le_of_ble_eq_true rfl, Nat.le_of_ble_eq_true rfl⟩)
      dsimp only [Pt.U, Pt.locs, Pt.cells, Pt.slots] at X229 l229 y229 z229 st229 hQ229
      subst l229 y229 z229
      obtain ⟨rfl, N229, e229⟩ := hQ229
      have N231 := Fr.app N228 N229
      refine own_of (T' := T229) (f' := (mkF m 201 #[.val (.int p0), .val (.int p1), .val (.int p2), .val (.int p3), .val (.int p4), .val (.int p5), .val (.int nn), .val (.int c0), .val (.int c1), .val (.int c2), .val (.int c3), .val (.ref ca), .val (.ref st), .val (.ref rf), .val (.ref st)] [(.int (1 : Int32))])) (fun t_ k_ => (st229.trans (XS.iload X229.here hx rfl (Jvm.hb hby at_191) rfl (XS.icmpNo X229.here hx rfl (Jvm.hb hby at_193) rfl (teq rfl).2 (XS.iconst X229.here hx rfl (Jvm.hb hby at_196) (XS.goto X229.here hx rfl (pc0 := 197) (pc' := 201) rfl (Jvm.hb hby at_197) (by decide) (by decide) k_)))))) ?_
      obtain ⟨fs, hr, hrun, hended, hEnd⟩ := X229.leaveW hS (by rw [e229]; exact f223) (v := some (.int (1 : Int32))) (fun h => by rw [Bd.returns] at h; cases h)
      exact ⟨_, _, retN X229 hx (t := .boolean) Bd.returns (by simp) (Jvm.hb hby at_201) hr, hrun, hended, _, _, rfl, (by show own_Q_0 Z p0 p1 p2 p3 p4 p5 G1 fm h0 n0 _ T229.heap _; rw [e229]; exact ⟨rfl, N231⟩), hEnd.1, hEnd.2.1, hEnd.2.2.1, hEnd.2.2.2.mono (by decide) (by decide)⟩
  · skip
    refine own_of (T' := s₁) (f' := (mkF m 58 #[.val (.int p0), .val (.int p1), .val (.int p2), .val (.int p3), .val (.int p4), .val (.int p5), .val (.int nn), .val (.int c0), .val (.int c1), .val (.int c2), .val (.int c3), .unset, .unset, .unset, .unset] [(.int (2 : Int32)), (.int nn)])) (fun t_ k_ => (XS.icmpYes X0.here hx rfl (pc0 := 39) (pc' := 55) rfl (Jvm.hb hby at_39) rfl (feq hc39_1).2 (by decide) (by decide) (XS.iload X0.here hx rfl (Jvm.hb hby at_55) rfl (XS.iconst X0.here hx rfl (Jvm.hb hby at_57) k_)))) ?_
    by_cases hc58_232 : (nn = (2 : Int32))
    · skip
      refine own_of (T' := s₁) (f' := (mkF m 62 #[.val (.int p0), .val (.int p1), .val (.int p2), .val (.int p3), .val (.int p4), .val (.int p5), .val (.int nn), .val (.int c0), .val (.int c1), .val (.int c2), .val (.int c3), .unset, .unset, .unset, .unset] [(.int (2 : Int32))])) (fun t_ k_ => (XS.icmpNo X0.here hx rfl (Jvm.hb hby at_58) rfl (teq hc58_232).2 (XS.iconst X0.here hx rfl (Jvm.hb hby at_61) k_))) ?_
      obtain ⟨T233, h233, k233, X233, e233, E233, A233, Ex233, st233⟩ := newPE X0 hx hZ (hw _ (List.mem_of_getElem? (i := 1) rfl)) e0 (g := (mkF m 62 #[.val (.int p0), .val (.int p1), .val (.int p2), .val (.int p3), .val (.int p4), .val (.int p5), .val (.int nn), .val (.int c0), .val (.int c1), .val (.int c2), .val (.int c3), .unset, .unset, .unset, .unset] [(.int (2 : Int32))])) rfl (Jvm.hb hby at_62) rfl (by decide) (cap := 2) (by decide) (by decide) (by decide) (by decide) (ad := "[C") (by decide)
      obtain ⟨ca, g233⟩ : ∃ z, z = h0.size := ⟨_, rfl⟩
      rw [← g233] at A233 Ex233 st233
      have g_ca : n0 ≤ ca := Nat.le_trans Z0 (Nat.le_of_eq g233.symm)
      have f234 := Nat.le_trans Y0 E233.1
      have f235 := Nat.le_trans Z0 E233.1
      have f236 := X00.ext E233
      have f237 := SC.ext E233
      have f238 := SF.ext E233
      have f239 := S1.ext E233
      have f240 := S2.ext E233
      have f241 := S3.ext E233
      have f242 : Arv Z h233 ca k233 .char (2 : Int32) [(.int (0 : Int32)), (.int (0 : Int32))] (.int (0 : Int32)) := (Arv.new A233 (by decide)).pad (pad_rep [] (.int (0 : Int32)) 2)
      refine own_of (T' := T233) (f' := (mkF m 68 #[.val (.int p0), .val (.int p1), .val (.int p2), .val (.int p3), .val (.int p4), .val (.int p5), .val (.int nn), .val (.int c0), .val (.int c1), .val (.int c2), .val (.int c3), .unset, .unset, .unset, .unset] [(.int c0), (.int (0 : Int32)), (.ref ca), (.ref ca)])) (fun t_ k_ => (st233 _ (XS.dup X233.here hx rfl (Jvm.hb hby at_64) rfl rfl (XS.iconst X233.here hx rfl (Jvm.hb hby at_65) (XS.iload X233.here hx rfl (Jvm.hb hby at_66) rfl k_))))) ?_
      obtain ⟨cl243, Ar243, qq243, Sz243, Nn243, Hh243, Gg243⟩ := id f242
      have hin243 : ¬ ((0 : Int32) < 0 ∨ cl243.slots.size ≤ ((0 : Int32)).toNatClampNeg) := inb_of Sz243 ⟨by decide, by decide⟩
      obtain ⟨T244, h244, X244, e244, W244, st244⟩ := stC X233 hx hZ e233 Ar243 (j := (0 : Int32)) hin243 (g := (mkF m 68 #[.val (.int p0), .val (.int p1), .val (.int p2), .val (.int p3), .val (.int p4), .val (.int p5), .val (.int nn), .val (.int c0), .val (.int c1), .val (.int c2), .val (.int c3), .unset, .unset, .unset, .unset] [(.int c0), (.int (0 : Int32)), (.ref ca), (.ref ca)])) rfl rfl (Jvm.hb hby at_68)
      refine own_of (T' := T244) (f' := (mkF m 69 #[.val (.int p0), .val (.int p1), .val (.int p2), .val (.int p3), .val (.int p4), .val (.int p5), .val (.int nn), .val (.int c0), .val (.int c1), .val (.int c2), .val (.int c3), .unset, .unset, .unset, .unset] [(.ref ca)])) (fun t_ k_ => (st244 _ k_)) ?_
      have f245 := Arv.set Ar243 qq243 Sz243 Nn243 Hh243 Gg243 (fits_nar_char _) W244 0 rfl (Nat.le_of_ble_eq_true rfl)
      have N244 := Fr.snoc X244 N0 g_ca
      have f246 := Nat.le_trans f234 (Keep.of_wr W244).1
      have f247 := Nat.le_trans f235 (Keep.of_wr W244).1
      have f248 := f236.wr W244 g_ca
      have f249 := f237.wr W244
      have f250 := f238.wr W244
      have f251 := f239.wr W244
      have f252 := f240.wr W244
      have f253 := f241.wr W244
      have f254 := Ex233.wr W244
      refine own_of (T' := T244) (f' := (mkF m 73 #[.val (.int p0), .val (.int p1), .val (.int p2), .val (.int p3), .val (.int p4), .val (.int p5), .val (.int nn), .val (.int c0), .val (.int c1), .val (.int c2), .val (.int c3), .unset, .unset, .unset, .unset] [(.int c1), (.int (1 : Int32)), (.ref ca), (.ref ca)])) (fun t_ k_ => (XS.dup X244.here hx rfl (Jvm.hb hby at_69) rfl rfl (XS.iconst X244.here hx rfl (Jvm.hb hby at_70) (XS.iload X244.here hx rfl (Jvm.hb hby at_71) rfl k_)))) ?_
      obtain ⟨cl256, Ar256, qq256, Sz256, Nn256, Hh256, Gg256⟩ := id f245
      have hin256 : ¬ ((1 : Int32) < 0 ∨ cl256.slots.size ≤ ((1 : Int32)).toNatClampNeg) := inb_of Sz256 ⟨by decide, by decide⟩
      obtain ⟨T257, h257, X257, e257, W257, st257⟩ := stC X244 hx hZ e244 Ar256 (j := (1 : Int32)) hin256 (g := (mkF m 73 #[.val (.int p0), .val (.int p1), .val (.int p2), .val (.int p3), .val (.int p4), .val (.int p5), .val (.int nn), .val (.int c0), .val (.int c1), .val (.int c2), .val (.int c3), .unset, .unset, .unset, .unset] [(.int c1), (.int (1 : Int32)), (.ref ca), (.ref ca)])) rfl rfl (Jvm.hb hby at_73)
      refine own_of (T' := T257) (f' := (mkF m 74 #[.val (.int p0), .val (.int p1), .val (.int p2), .val (.int p3), .val (.int p4), .val (.int p5), .val (.int nn), .val (.int c0), .val (.int c1), .val (.int c2), .val (.int c3), .unset, .unset, .unset, .unset] [(.ref ca)])) (fun t_ k_ => (st257 _ k_)) ?_
      have f258 := Arv.set Ar256 qq256 Sz256 Nn256 Hh256 Gg256 (fits_nar_char _) W257 1 rfl (Nat.le_of_ble_eq_true rfl)
      have N257 := Fr.snoc X257 N244 g_ca
      have f259 := Nat.le_trans f246 (Keep.of_wr W257).1
      have f260 := Nat.le_trans f247 (Keep.of_wr W257).1
      have f261 := f248.wr W257 g_ca
      have f262 := f249.wr W257
      have f263 := f250.wr W257
      have f264 := f251.wr W257
      have f265 := f252.wr W257
      have f266 := f253.wr W257
      have f267 := f254.wr W257
      have Vc : Arv Z h257 ca k233 .char (2 : Int32) [(.int c0), (.int c1)] (.int 0) := by
        have q_ := f258
        rw [own_nc c0 rc0, own_nc c1 rc1] at q_
        exact q_
      have hn : Int32.ofNat ([c0, c1] : List Int32).length = nn := hc58_232.symm
      have hr : ∀ c ∈ ([c0, c1] : List Int32), ¬ c < 0 ∧ ¬ (65535 : Int32) < c := by
        intro c hc
        simp only [List.mem_cons, List.not_mem_nil, or_false] at hc
        rcases hc with rfl | rfl
        · exact rc0
        · exact rc1
      refine own_of (T' := T257) (f' := (mkF m 133 #[.val (.int p0), .val (.int p1), .val (.int p2), .val (.int p3), .val (.int p4), .val (.int p5), .val (.int nn), .val (.int c0), .val (.int c1), .val (.int c2), .val (.int c3), .val (.ref ca), .unset, .unset, .unset] [])) (fun t_ k_ => (XS.astore X257.here hx rfl (Jvm.hb hby at_74) rfl rfl (l' := #[.val (.int p0), .val (.int p1), .val (.int p2), .val (.int p3), .val (.int p4), .val (.int p5), .val (.int nn), .val (.int c0), .val (.int c1), .val (.int c2), .val (.int c3), .val (.ref ca), .unset, .unset, .unset]) rfl (XS.goto X257.here hx rfl (pc0 := 76) (pc' := 133) rfl (Jvm.hb hby at_76) (by decide) (by decide) k_))) ?_
      obtain ⟨T269, h269, X269, e269, E269, A269, D269, -, st269⟩ := newO X257 hx hZ hown (hw _ (List.mem_of_getElem? (i := 2) rfl)) (hw _ (List.mem_of_getElem? (i := 3) rfl)) (hw _ (List.mem_of_getElem? (i := 4) rfl)) e257 (g := (mkF m 133 #[.val (.int p0), .val (.int p1), .val (.int p2), .val (.int p3), .val (.int p4), .val (.int p5), .val (.int nn), .val (.int c0), .val (.int c1), .val (.int c2), .val (.int c3), .val (.ref ca), .unset, .unset, .unset] [])) rfl (Jvm.hb hby at_133) (by decide) (by decide)
      obtain ⟨st, g269⟩ : ∃ z, z = h257.size := ⟨_, rfl⟩
      rw [← g269] at A269 D269 st269
      have ne_ca_st : ca ≠ st := by rw [g269]; exact Nat.ne_of_lt f267.lt
      have g_st : n0 ≤ st := Nat.le_trans f260 (Nat.le_of_eq g269.symm)
      have f270 := Nat.le_trans f259 E269.1
      have f271 := Nat.le_trans f260 E269.1
      have f272 := f261.ext E269
      have f273 := f262.ext E269
      have f274 := f263.ext E269
      have f275 := f264.ext E269
      have f276 := f265.ext E269
      have f277 := f266.ext E269
      have f278 := f267.ext E269
      have f279 := Vc.ext E269
      have f280 : Fld Z h269 st "java/lang/String" "coder" "B" (.int (0 : Int32)) := D269 (Or.inr (hw _ (List.mem_of_getElem? (i := 28) rfl))) (ty := .byte) (by decide)
      have f281 : Fld Z h269 st "java/lang/String" "value" "[B" .null := D269 (Or.inr (hw _ (List.mem_of_getElem? (i := 30) rfl))) (ty := (.array .byte)) (by decide)
      refine own_of (T' := T269) (f' := (mkF m 139 #[.val (.int p0), .val (.int p1), .val (.int p2), .val (.int p3), .val (.int p4), .val (.int p5), .val (.int nn), .val (.int c0), .val (.int c1), .val (.int c2), .val (.int c3), .val (.ref ca), .unset, .unset, .unset] [(.ref ca), (.ref st), (.ref st)])) (fun t_ k_ => (st269 _ (XS.dup X269.here hx rfl (Jvm.hb hby at_136) rfl rfl (XS.aload X269.here hx rfl (Jvm.hb hby at_137) rfl rfl k_)))) ?_
      by_cases hnw : ∀ c ∈ ([c0, c1] : List Int32), ¬ (255 : Int32) < c
      · skip
        have hp : ∀ c ∈ ([c0, c1] : List Int32), ¬ c < 0 ∧ ¬ (255 : Int32) < c := fun c hc => ⟨(hr c hc).1, hnw c hc⟩
        have hws282 : ∀ d ∈ StrChars.Road.words, d.before a0 Z = true := fun d hd => hw d (own_strw d hd)
        obtain ⟨_, _, ⟨T282, L282, k282, n282⟩, -, X282, ⟨Lc282, hQ282, l282, y282, z282⟩, st282⟩ := X269.specialBack hx (y := (⟨"java/lang/String", "<init>", "([C)V"⟩ : MethodName)) rfl hown (mvT hZ (hw _ (List.mem_of_getElem? (i := 5) rfl))) (mvT hZ (hw _ (List.mem_of_getElem? (i := 6) rfl))) (mvT hZ (hw _ (List.mem_of_getElem? (i := 7) rfl))) (by decide) (StrChars.Road.backV (W := 1) hZ hws282 (kI := 4) (hw _ (List.mem_of_getElem? (i := 3) rfl)) (cs := ([c0, c1] : List Int32)) (bs := (([c0, c1] : List Int32)).map (fun c => c.toInt8.toInt32)) (n := 2) g_st f271 A269 f281 f280 f279 (O2.ext f272.2) P5 rfl rfl (by decide) (by decide) hp rfl (by decide) (by decide)) (g := (mkF m 139 #[.val (.int p0), .val (.int p1), .val (.int p2), .val (.int p3), .val (.int p4), .val (.int p5), .val (.int nn), .val (.int c0), .val (.int c1), .val (.int c2), .val (.int c3), .val (.ref ca), .unset, .unset, .unset] [(.ref ca), (.ref st), (.ref st)])) rfl (by rw [hml]; rfl) (Steps.refl _) (a := st) (argsL := [(.ref ca)]) (rest := [(.ref st)]) (lenOf own_pd_15 rfl) rfl (by show 2 * 0 + _ ≤ _; exact Nat.le_of_eq rfl) (Jvm.hb hby at_139) (fun _ _ => ⟨rfl, e269, Nat.le_of_ble_eq_true rfl, Nat.le_of_ble_eq_true rfl⟩)
        dsimp only [Pt.U, Pt.locs, Pt.cells, Pt.slots] at X282 l282 y282 z282 st282 hQ282
        subst l282 y282 z282
        obtain ⟨rfl, N282, K282, Es282, Fc282, t282, kt282, -, -, -, Fv282, Vt282⟩ := hQ282
        have N283 := Fr.app N257 N282
        have f284 := Nat.le_trans f270 K282.1
        have f285 := Nat.le_trans f271 K282.1
        have f286 := f272.keep K282 (allS g_st all0)
        have f287 := own_stakeep f273 K282 (allS (own_plainE A269) all0)
        have f288 := own_stakeep f274 K282 (allS (own_plainE A269) all0)
        have f289 := own_stakeep f275 K282 (allS (own_plainE A269) all0)
        have f290 := own_stakeep f276 K282 (allS (own_plainE A269) all0)
        have f291 := own_stakeep f277 K282 (allS (own_plainE A269) all0)
        have f292 := f278.keep K282
        have f293 := f279.keep K282 (ninS ne_ca_st nin0)
        have f294 := A269.keep K282
        refine own_of (T' := T282) (f' := (mkF m 142 #[.val (.int p0), .val (.int p1), .val (.int p2), .val (.int p3), .val (.int p4), .val (.int p5), .val (.int nn), .val (.int c0), .val (.int c1), .val (.int c2), .val (.int c3), .val (.ref ca), .unset, .unset, .unset] [(.ref st)])) (fun t_ k_ => (st282.trans k_)) ?_
        have hco : StrChars.Road.CodA ([c0, c1] : List Int32) 0 (2 : Int32) [(.int (StrChars.lo8 c0)), (.int (StrChars.lo8 c1))] := Or.inl ⟨rfl, rfl, rfl, hnw⟩
        have Vs : Arv Z T282.heap t282 kt282 .byte (2 : Int32) [(.int (StrChars.lo8 c0)), (.int (StrChars.lo8 c1))] (.int 0) := Vt282
        refine own_of (T' := T282) (f' := (mkF m 144 #[.val (.int p0), .val (.int p1), .val (.int p2), .val (.int p3), .val (.int p4), .val (.int p5), .val (.int nn), .val (.int c0), .val (.int c1), .val (.int c2), .val (.int c3), .val (.ref ca), .val (.ref st), .unset, .unset] [])) (fun t_ k_ => (XS.astore X282.here hx rfl (Jvm.hb hby at_142) rfl rfl (l' := #[.val (.int p0), .val (.int p1), .val (.int p2), .val (.int p3), .val (.int p4), .val (.int p5), .val (.int nn), .val (.int c0), .val (.int c1), .val (.int c2), .val (.int c3), .val (.ref ca), .val (.ref st), .unset, .unset]) rfl k_)) ?_
        obtain ⟨T297, h297, X297, e297, E297, A297, D297, -, st297⟩ := newO X282 hx hZ hown (hw _ (List.mem_of_getElem? (i := 31) rfl)) (hw _ (List.mem_of_getElem? (i := 32) rfl)) (hw _ (List.mem_of_getElem? (i := 33) rfl)) rfl (g := (mkF m 144 #[.val (.int p0), .val (.int p1), .val (.int p2), .val (.int p3), .val (.int p4), .val (.int p5), .val (.int nn), .val (.int c0), .val (.int c1), .val (.int c2), .val (.int c3), .val (.ref ca), .val (.ref st), .unset, .unset] [])) rfl (Jvm.hb hby at_144) (by decide) (by decide)
        obtain ⟨rf, g297⟩ : ∃ z, z = T282.heap.size := ⟨_, rfl⟩
        rw [← g297] at A297 D297 st297
        have ne_ca_rf : ca ≠ rf := by rw [g297]; exact Nat.ne_of_lt f292.lt
        have ne_st_rf : st ≠ rf := by rw [g297]; exact Nat.ne_of_lt Es282.lt
        have ne_t282_rf : t282 ≠ rf := by rw [g297]; exact Nat.ne_of_lt Vs.lt
        have g_rf : n0 ≤ rf := Nat.le_trans f285 (Nat.le_of_eq g297.symm)
        have f298 := Nat.le_trans f284 E297.1
        have f299 := Nat.le_trans f285 E297.1
        have f300 := f286.ext E297
        have f301 := f287.ext E297
        have f302 := f288.ext E297
        have f303 := f289.ext E297
        have f304 := f290.ext E297
        have f305 := f291.ext E297
        have f306 := f292.ext E297
        have f307 := f293.ext E297
        have f308 := Es282.ext E297
        have f309 := Fc282.ext E297
        have f310 := Fv282.ext E297
        have f311 := Vs.ext E297
        have f312 : Fld Z h297 rf "com/example/austere_auth/austereauth/refusal/Refusal" "status" "I" (.int (0 : Int32)) := D297 (Or.inr (hw _ (List.mem_of_getElem? (i := 51) rfl))) (ty := .int) (by decide)
        have f313 : Fld Z h297 rf "com/example/austere_auth/austereauth/refusal/Refusal" "error" "Ljava/lang/String;" .null := D297 (Or.inr (hw _ (List.mem_of_getElem? (i := 53) rfl))) (ty := (.object "java/lang/String")) (by decide)
        have f314 : Fld Z h297 rf "com/example/austere_auth/austereauth/refusal/Refusal" "description" "Ljava/lang/String;" .null := D297 (Or.inr (hw _ (List.mem_of_getElem? (i := 55) rfl))) (ty := (.object "java/lang/String")) (by decide)
        have f315 : Fld Z h297 rf "com/example/austere_auth/austereauth/refusal/Refusal" "scope" "Ljava/lang/String;" .null := D297 (Or.inr (hw _ (List.mem_of_getElem? (i := 57) rfl))) (ty := (.object "java/lang/String")) (by decide)
        refine own_of (T' := T297) (f' := (mkF m 150 #[.val (.int p0), .val (.int p1), .val (.int p2), .val (.int p3), .val (.int p4), .val (.int p5), .val (.int nn), .val (.int c0), .val (.int c1), .val (.int c2), .val (.int c3), .val (.ref ca), .val (.ref st), .unset, .unset] [(.int p5), (.ref rf), (.ref rf)])) (fun t_ k_ => (st297 _ (XS.dup X297.here hx rfl (Jvm.hb hby at_147) rfl rfl (XS.iload X297.here hx rfl (Jvm.hb hby at_148) rfl k_)))) ?_
        obtain ⟨k1, T316, h316, k316, X316, e316, E316, hS, Y316, hZ, hown, st316⟩ := ldcS X297 hx hZ hown (hw _ (List.mem_of_getElem? (i := 34) rfl)) hwS e297 hS f298 (g := (mkF m 150 #[.val (.int p0), .val (.int p1), .val (.int p2), .val (.int p3), .val (.int p4), .val (.int p5), .val (.int nn), .val (.int c0), .val (.int c1), .val (.int c2), .val (.int c3), .val (.ref ca), .val (.ref st), .unset, .unset] [(.int p5), (.ref rf), (.ref rf)])) rfl (Jvm.hb hby at_150) (n := 60) (by decide) (by decide) (by decide) (by decide)
        have f317 := Nat.le_trans f299 E316.1
        have f318 := f300.ext E316
        have f319 := f301.ext E316
        have f320 := f302.ext E316
        have f321 := f303.ext E316
        have f322 := f304.ext E316
        have f323 := f305.ext E316
        have f324 := f306.ext E316
        have f325 := f307.ext E316
        have f326 := f308.ext E316
        have f327 := f309.ext E316
        have f328 := f310.ext E316
        have f329 := f311.ext E316
        have f330 := A297.ext E316
        have f331 := f312.ext E316
        have f332 := f313.ext E316
        have f333 := f314.ext E316
        have f334 := f315.ext E316
        refine own_of (T' := T316) (f' := (mkF m 152 #[.val (.int p0), .val (.int p1), .val (.int p2), .val (.int p3), .val (.int p4), .val (.int p5), .val (.int nn), .val (.int c0), .val (.int c1), .val (.int c2), .val (.int c3), .val (.ref ca), .val (.ref st), .unset, .unset] [(.ref k1), (.int p5), (.ref rf), (.ref rf)])) (fun t_ k_ => (st316 _ k_)) ?_
        obtain ⟨k2, T335, h335, k335, X335, e335, E335, hS, Y335, hZ, hown, st335⟩ := ldcS X316 hx hZ hown (hw _ (List.mem_of_getElem? (i := 37) rfl)) hwS e316 hS Y316 (g := (mkF m 152 #[.val (.int p0), .val (.int p1), .val (.int p2), .val (.int p3), .val (.int p4), .val (.int p5), .val (.int nn), .val (.int c0), .val (.int c1), .val (.int c2), .val (.int c3), .val (.ref ca), .val (.ref st), .unset, .unset] [(.ref k1), (.int p5), (.ref rf), (.ref rf)])) rfl (Jvm.hb hby at_152) (n := 56) (by decide) (by decide) (by decide) (by decide)
        have f336 := Nat.le_trans f317 E335.1
        have f337 := f318.ext E335
        have f338 := f319.ext E335
        have f339 := f320.ext E335
        have f340 := f321.ext E335
        have f341 := f322.ext E335
        have f342 := f323.ext E335
        have f343 := f324.ext E335
        have f344 := f325.ext E335
        have f345 := f326.ext E335
        have f346 := f327.ext E335
        have f347 := f328.ext E335
        have f348 := f329.ext E335
        have f349 := f330.ext E335
        have f350 := f331.ext E335
        have f351 := f332.ext E335
        have f352 := f333.ext E335
        have f353 := f334.ext E335
        refine own_of (T' := T335) (f' := (mkF m 154 #[.val (.int p0), .val (.int p1), .val (.int p2), .val (.int p3), .val (.int p4), .val (.int p5), .val (.int nn), .val (.int c0), .val (.int c1), .val (.int c2), .val (.int c3), .val (.ref ca), .val (.ref st), .unset, .unset] [(.ref k2), (.ref k1), (.int p5), (.ref rf), (.ref rf)])) (fun t_ k_ => (st335 _ k_)) ?_
        obtain ⟨_, _, ⟨T354, L354, k354, n354⟩, -, X354, ⟨Lc354, hQ354, l354, y354, z354⟩, st354⟩ := X335.specialBack hx (y := (⟨"com/example/austere_auth/austereauth/refusal/Refusal", "<init>", "(ILjava/lang/String;Ljava/lang/String;)V"⟩ : MethodName)) rfl hown (mvT hZ (hw _ (List.mem_of_getElem? (i := 38) rfl))) (mvT hZ (hw _ (List.mem_of_getElem? (i := 39) rfl))) (mvT hZ (hw _ (List.mem_of_getElem? (i := 40) rfl))) (by decide) (backOf (W := 1) (own_rm_r3 l Z a0 hw [] rf p5 k1 k2 h335 n0 f336 f350 f351 f352 f353 f349 g_rf) hZ (hw _ (List.mem_of_getElem? (i := 40) rfl)) (hw _ (List.mem_of_getElem? (i := 33) rfl)) (by decide) (by decide)) (g := (mkF m 154 #[.val (.int p0), .val (.int p1), .val (.int p2), .val (.int p3), .val (.int p4), .val (.int p5), .val (.int nn), .val (.int c0), .val (.int c1), .val (.int c2), .val (.int c3), .val (.ref ca), .val (.ref st), .unset, .unset] [(.ref k2), (.ref k1), (.int p5), (.ref rf), (.ref rf)])) rfl (by rw [hml]; rfl) (Steps.refl _) (a := rf) (argsL := [(.int p5), (.ref k1), (.ref k2)]) (rest := [(.ref rf)]) (lenOf own_pd_16 rfl) rfl (by show 2 * 0 + _ ≤ _; exact Nat.le_of_eq rfl) (Jvm.hb hby at_154) (fun _ _ => ⟨rfl, e335, Nat.le_of_ble_eq_true rfl, Nat.le_of_ble_eq_true rfl⟩)
        dsimp only [Pt.U, Pt.locs, Pt.cells, Pt.slots] at X354 l354 y354 z354 st354 hQ354
        subst l354 y354 z354
        obtain ⟨rfl, N354, K354⟩ := hQ354
        have N355 := Fr.app N283 N354
        have f356 := Nat.le_trans f336 K354.1
        have f357 := f337.keep K354 (allS g_rf all0)
        have f358 := own_stakeep f338 K354 (allS (own_plainE f349) all0)
        have f359 := own_stakeep f339 K354 (allS (own_plainE f349) all0)
        have f360 := own_stakeep f340 K354 (allS (own_plainE f349) all0)
        have f361 := own_stakeep f341 K354 (allS (own_plainE f349) all0)
        have f362 := own_stakeep f342 K354 (allS (own_plainE f349) all0)
        have f363 := f343.keep K354
        have f364 := f344.keep K354 (ninS ne_ca_rf nin0)
        have f365 := f345.keep K354
        have f366 := f346.keep K354 (ninS ne_st_rf nin0)
        have f367 := f347.keep K354 (ninS ne_st_rf nin0)
        have f368 := f348.keep K354 (ninS ne_t282_rf nin0)
        have f369 := f349.keep K354
        have f374 := Nat.le_trans Y335 K354.1
        refine own_of (T' := T354) (f' := (mkF m 163 #[.val (.int p0), .val (.int p1), .val (.int p2), .val (.int p3), .val (.int p4), .val (.int p5), .val (.int nn), .val (.int c0), .val (.int c1), .val (.int c2), .val (.int c3), .val (.ref ca), .val (.ref st), .val (.ref rf), .unset] [(.ref rf), (.ref st)])) (fun t_ k_ => (st354.trans (XS.astore X354.here hx rfl (Jvm.hb hby at_157) rfl rfl (l' := #[.val (.int p0), .val (.int p1), .val (.int p2), .val (.int p3), .val (.int p4), .val (.int p5), .val (.int nn), .val (.int c0), .val (.int c1), .val (.int c2), .val (.int c3), .val (.ref ca), .val (.ref st), .val (.ref rf), .unset]) rfl (XS.aload X354.here hx rfl (Jvm.hb hby at_159) rfl rfl (XS.aload X354.here hx rfl (Jvm.hb hby at_161) rfl rfl k_))))) ?_
        obtain ⟨_, _, ⟨T375, L375, k375, n375⟩, -, X375, ⟨Lc375, hQ375, l375, y375, z375⟩, st375⟩ := Jvm.LawKit.callS X354 hx (y := (⟨"com/example/austere_auth/austereauth/refusal/Refusal", "requirePresent", "(Ljava/lang/String;Lcom/example/austere_auth/austereauth/refusal/Refusal;)Ljava/lang/String;"⟩ : MethodName)) hown (mvT hZ (hw _ (List.mem_of_getElem? (i := 58) rfl))) (mvT hZ (hw _ (List.mem_of_getElem? (i := 59) rfl))) (mvT hZ (hw _ (List.mem_of_getElem? (i := 33) rfl))) (mvT hZ (hw _ (List.mem_of_getElem? (i := 60) rfl))) (by decide) (backOf (W := 0) (own_rm_req l Z a0 hw [] st rf t282 kt282 ([c0, c1] : List Int32) (0 : Int32) (2 : Int32) [(.int (StrChars.lo8 c0)), (.int (StrChars.lo8 c1))] T354.heap n0 f356 f365 f367 f366 f368 hco hr (Nat.le_of_ble_eq_true rfl) (by simp)) hZ (hw _ (List.mem_of_getElem? (i := 60) rfl)) (hw _ (List.mem_of_getElem? (i := 33) rfl)) (by decide) (by decide)) (g := (mkF m 163 #[.val (.int p0), .val (.int p1), .val (.int p2), .val (.int p3), .val (.int p4), .val (.int p5), .val (.int nn), .val (.int c0), .val (.int c1), .val (.int c2), .val (.int c3), .val (.ref ca), .val (.ref st), .val (.ref rf), .unset] [(.ref rf), (.ref st)])) rfl (by rw [hml]; rfl) (argsL := [(.ref st), (.ref rf)]) (rest := []) (lenOf own_pd_17 rfl) rfl (by show 2 * 0 + _ ≤ _; exact Nat.le_of_eq rfl) (Jvm.hb hby at_163) (fun _ _ => ⟨rfl, rfl, Nat.le_of_ble_eq_true rfl, Nat.le_of_ble_eq_true rfl⟩)
        dsimp only [Pt.U, Pt.locs, Pt.cells, Pt.slots] at X375 l375 y375 z375 st375 hQ375
        subst l375 y375 z375
        obtain ⟨rfl, N375, e375⟩ := hQ375
        have N376 := Fr.app N355 N375
        refine own_of (T' := T375) (f' := (mkF m 177 #[.val (.int p0), .val (.int p1), .val (.int p2), .val (.int p3), .val (.int p4), .val (.int p5), .val (.int nn), .val (.int c0), .val (.int c1), .val (.int c2), .val (.int c3), .val (.ref ca), .val (.ref st), .val (.ref rf), .val (.ref st)] [(.ref st)])) (fun t_ k_ => (st375 _ (XS.astore X375.here hx rfl (Jvm.hb hby at_166) rfl rfl (l' := #[.val (.int p0), .val (.int p1), .val (.int p2), .val (.int p3), .val (.int p4), .val (.int p5), .val (.int nn), .val (.int c0), .val (.int c1), .val (.int c2), .val (.int c3), .val (.ref ca), .val (.ref st), .val (.ref rf), .val (.ref st)]) rfl (XS.aload X375.here hx rfl (Jvm.hb hby at_168) rfl rfl (XS.aload X375.here hx rfl (Jvm.hb hby at_170) rfl rfl (Jvm.RoadKit.acmp (g := (mkF m 172 #[.val (.int p0), .val (.int p1), .val (.int p2), .val (.int p3), .val (.int p4), .val (.int p5), .val (.int nn), .val (.int c0), .val (.int c1), .val (.int c2), .val (.int c3), .val (.ref ca), .val (.ref st), .val (.ref rf), .val (.ref st)] [(.ref st), (.ref st)])) X375 hx rfl rfl rfl (pc0 := 172) (pc' := 175) (same := true) rfl (Jvm.hb hby at_172) rfl (decide_eq_true rfl) (by decide) (by decide) (XS.aload X375.here hx rfl (Jvm.hb hby at_175) rfl rfl k_))))))) ?_
        have hwL : ∀ d ∈ StrChars.Road.wordsLen, d.before a0 Z = true := fun d hd => hw d (own_wLen d hd)
        have hwC : ∀ d ∈ StrChars.Road.wordsChN, d.before a0 Z = true := fun d hd => hw d (own_wChN d hd)
        obtain ⟨cq378, kq378, q378a, q378b, q378c⟩ := isOf hZ e375 f365
        obtain ⟨_, _, ⟨T377, L377, k377, n377⟩, -, X377, ⟨Lc377, hQ377, l377, y377, z377⟩, st377⟩ := X375.virtualBack hx (y := (⟨"java/lang/String", "length", "()I"⟩ : MethodName)) (z := (⟨"java/lang/String", "length", "()I"⟩ : MethodName)) hown (mvT hZ (hw _ (List.mem_of_getElem? (i := 66) rfl))) (mvT hZ (hw _ (List.mem_of_getElem? (i := 67) rfl))) (notFace_of_selects (args := #[]) (mvT hZ (hw _ (List.mem_of_getElem? (i := 69) rfl)))) (mvT hZ (hw _ (List.mem_of_getElem? (i := 69) rfl))) (mvT hZ (hw _ (List.mem_of_getElem? (i := 68) rfl))) (by decide) (StrChars.Road.lenW (W := 0) hZ hwL (kI := 4) (hw _ (List.mem_of_getElem? (i := 3) rfl)) f365 f367 f366 f368 hco hr f358 P5 (Nat.le_of_ble_eq_true rfl) (by decide) (by decide)) q378a q378c (g := (mkF m 177 #[.val (.int p0), .val (.int p1), .val (.int p2), .val (.int p3), .val (.int p4), .val (.int p5), .val (.int nn), .val (.int c0), .val (.int c1), .val (.int c2), .val (.int c3), .val (.ref ca), .val (.ref st), .val (.ref rf), .val (.ref st)] [(.ref st)])) rfl (by rw [hml]; rfl) (Steps.refl _) (argsL := []) (rest := []) (lenOf own_pd_18 rfl) rfl (by show 2 * 0 + _ ≤ _; exact Nat.le_of_eq rfl) (Jvm.hb hby at_177) (fun _ _ => ⟨rfl, e375, Nat.le_of_ble_eq_true rfl, Nat.le_of_ble_eq_true rfl⟩)
        dsimp only [Pt.U, Pt.locs, Pt.cells, Pt.slots] at X377 l377 y377 z377 st377 hQ377
        subst l377 y377 z377
        obtain ⟨rfl, rfl, e377⟩ := hQ377
        have N377 : Fr n0 ([] : List Loc) := Fr.nil n0
        have N379 := Fr.app N376 N377
        refine own_of (T' := T377) (f' := (mkF m 188 #[.val (.int p0), .val (.int p1), .val (.int p2), .val (.int p3), .val (.int p4), .val (.int p5), .val (.int nn), .val (.int c0), .val (.int c1), .val (.int c2), .val (.int c3), .val (.ref ca), .val (.ref st), .val (.ref rf), .val (.ref st)] [(.int (0 : Int32)), (.ref st)])) (fun t_ k_ => (st377.trans (XS.iload X377.here hx rfl (Jvm.hb hby at_180) rfl (XS.icmpNo X377.here hx rfl (Jvm.hb hby at_182) rfl (teq hn).2 (XS.aload X377.here hx rfl (Jvm.hb hby at_185) rfl rfl (XS.iconst X377.here hx rfl (Jvm.hb hby at_187) k_)))))) ?_
        obtain ⟨cq381, kq381, q381a, q381b, q381c⟩ := isOf hZ e377 f365
        obtain ⟨_, _, ⟨T380, L380, k380, n380⟩, -, X380, ⟨Lc380, hQ380, l380, y380, z380⟩, st380⟩ := X377.virtualBack hx (y := (⟨"java/lang/String", "charAt", "(I)C"⟩ : MethodName)) (z := (⟨"java/lang/String", "charAt", "(I)C"⟩ : MethodName)) hown (mvT hZ (hw _ (List.mem_of_getElem? (i := 76) rfl))) (mvT hZ (hw _ (List.mem_of_getElem? (i := 77) rfl))) (notFace_of_selects (args := #[]) (mvT hZ (hw _ (List.mem_of_getElem? (i := 79) rfl)))) (mvT hZ (hw _ (List.mem_of_getElem? (i := 79) rfl))) (mvT hZ (hw _ (List.mem_of_getElem? (i := 78) rfl))) (by decide) (StrChars.Road.chN (W := 0) hZ hwC (kI := 4) (i := 0) (j := (0 : Int32)) (hw _ (List.mem_of_getElem? (i := 3) rfl)) f365 f367 f366 f368 hco hr f358 P5 f359 rfm (Nat.le_of_ble_eq_true rfl) (by simp) rfl (by decide) (by decide)) q381a q381c (g := (mkF m 188 #[.val (.int p0), .val (.int p1), .val (.int p2), .val (.int p3), .val (.int p4), .val (.int p5), .val (.int nn), .val (.int c0), .val (.int c1), .val (.int c2), .val (.int c3), .val (.ref ca), .val (.ref st), .val (.ref rf), .val (.ref st)] [(.int (0 : Int32)), (.ref st)])) rfl (by rw [hml]; rfl) (Steps.refl _) (argsL := [(.int (0 : Int32))]) (rest := []) (lenOf own_pd_19 rfl) rfl (by show 2 * 0 + _ ≤ _; exact Nat.le_of_eq rfl) (Jvm.hb hby at_188) (fun _ _ => ⟨rfl, e377, Nat.le_of_ble_eq_true rfl, Nat.le_of_ble_eq_true rfl⟩)
        dsimp only [Pt.U, Pt.locs, Pt.cells, Pt.slots] at X380 l380 y380 z380 st380 hQ380
        subst l380 y380 z380
        obtain ⟨rfl, rfl, e380⟩ := hQ380
        have N380 : Fr n0 ([] : List Loc) := Fr.nil n0
        have N382 := Fr.app N379 N380
        refine own_of (T' := T380) (f' := (mkF m 201 #[.val (.int p0), .val (.int p1), .val (.int p2), .val (.int p3), .val (.int p4), .val (.int p5), .val (.int nn), .val (.int c0), .val (.int c1), .val (.int c2), .val (.int c3), .val (.ref ca), .val (.ref st), .val (.ref rf), .val (.ref st)] [(.int (1 : Int32))])) (fun t_ k_ => (st380.trans (XS.iload X380.here hx rfl (Jvm.hb hby at_191) rfl (XS.icmpNo X380.here hx rfl (Jvm.hb hby at_193) rfl (teq rfl).2 (XS.iconst X380.here hx rfl (Jvm.hb hby at_196) (XS.goto X380.here hx rfl (pc0 := 197) (pc' := 201) rfl (Jvm.hb hby at_197) (by decide) (by decide) k_)))))) ?_
        obtain ⟨fs, hr, hrun, hended, hEnd⟩ := X380.leaveW hS (by rw [e380]; exact f374) (v := some (.int (1 : Int32))) (fun h => by rw [Bd.returns] at h; cases h)
        exact ⟨_, _, retN X380 hx (t := .boolean) Bd.returns (by simp) (Jvm.hb hby at_201) hr, hrun, hended, _, _, rfl, (by show own_Q_0 Z p0 p1 p2 p3 p4 p5 G1 fm h0 n0 _ T380.heap _; rw [e380]; exact ⟨rfl, N382⟩), hEnd.1, hEnd.2.1, hEnd.2.2.1, hEnd.2.2.2.mono (by decide) (by decide)⟩
      · skip
        have hwd : (255 : Int32) < c0 ∨ (255 : Int32) < c1 := by
          apply Decidable.byContradiction
          intro q
          apply hnw
          intro c hc z
          apply q
          simp only [List.mem_cons, List.not_mem_nil, or_false] at hc
          rcases hc with rfl | rfl
          · exact Or.inl z
          · exact Or.inr (z)
        obtain ⟨_, _, ⟨T383, L383, k383, n383⟩, -, X383, ⟨Lc383, hQ383, l383, y383, z383⟩, st383⟩ := X269.specialBack hx (y := (⟨"java/lang/String", "<init>", "([C)V"⟩ : MethodName)) rfl hown (mvT hZ (hw _ (List.mem_of_getElem? (i := 5) rfl))) (mvT hZ (hw _ (List.mem_of_getElem? (i := 6) rfl))) (mvT hZ (hw _ (List.mem_of_getElem? (i := 7) rfl))) (by decide) (backOf (W := 1) (own_rm_cini2 l Z a0 hw [] st ca c0 c1 k233 G1 h269 n0 f271 f281 f280 A269 g_st f275 f276 f277 f273 P5 f279 (Ne.symm ne_ca_st) hr hwd) hZ (hw _ (List.mem_of_getElem? (i := 7) rfl)) (hw _ (List.mem_of_getElem? (i := 4) rfl)) (by decide) (by decide)) (g := (mkF m 139 #[.val (.int p0), .val (.int p1), .val (.int p2), .val (.int p3), .val (.int p4), .val (.int p5), .val (.int nn), .val (.int c0), .val (.int c1), .val (.int c2), .val (.int c3), .val (.ref ca), .unset, .unset, .unset] [(.ref ca), (.ref st), (.ref st)])) rfl (by rw [hml]; rfl) (Steps.refl _) (a := st) (argsL := [(.ref ca)]) (rest := [(.ref st)]) (lenOf own_pd_15 rfl) rfl (by show 2 * 0 + _ ≤ _; exact Nat.le_of_eq rfl) (Jvm.hb hby at_139) (fun _ _ => ⟨rfl, e269, Nat.le_of_ble_eq_true rfl, Nat.le_of_ble_eq_true rfl⟩)
        dsimp only [Pt.U, Pt.locs, Pt.cells, Pt.slots] at X383 l383 y383 z383 st383 hQ383
        subst l383 y383 z383
        obtain ⟨rfl, N383, K383, q1, q2, tb, kt, q3, q4⟩ := hQ383
        have N384 := Fr.app N257 N383
        have f385 := Nat.le_trans f270 K383.1
        have f386 := Nat.le_trans f271 K383.1
        have f387 := f272.keep K383 (allS g_st all0)
        have f388 := own_stakeep f273 K383 (allS (own_plainE A269) all0)
        have f389 := own_stakeep f274 K383 (allS (own_plainE A269) all0)
        have f390 := own_stakeep f275 K383 (allS (own_plainE A269) all0)
        have f391 := own_stakeep f276 K383 (allS (own_plainE A269) all0)
        have f392 := own_stakeep f277 K383 (allS (own_plainE A269) all0)
        have f393 := f278.keep K383
        have f394 := f279.keep K383 (ninS ne_ca_st nin0)
        have f395 := A269.keep K383
        refine own_of (T' := T383) (f' := (mkF m 142 #[.val (.int p0), .val (.int p1), .val (.int p2), .val (.int p3), .val (.int p4), .val (.int p5), .val (.int nn), .val (.int c0), .val (.int c1), .val (.int c2), .val (.int c3), .val (.ref ca), .unset, .unset, .unset] [(.ref st)])) (fun t_ k_ => (st383.trans k_)) ?_
        have hco : StrChars.Road.CodA ([c0, c1] : List Int32) 1 (4 : Int32) [(.int (StrChars.lo8 c0)), (.int (StrChars.hi8 c0)), (.int (StrChars.lo8 c1)), (.int (StrChars.hi8 c1))] := Or.inr ⟨rfl, rfl, rfl, by
          rcases hwd with z | z
          · exact ⟨c0, by simp, z⟩
          · exact ⟨c1, by simp, z⟩⟩
        have ltb := q4.lt
        refine own_of (T' := T383) (f' := (mkF m 144 #[.val (.int p0), .val (.int p1), .val (.int p2), .val (.int p3), .val (.int p4), .val (.int p5), .val (.int nn), .val (.int c0), .val (.int c1), .val (.int c2), .val (.int c3), .val (.ref ca), .val (.ref st), .unset, .unset] [])) (fun t_ k_ => (XS.astore X383.here hx rfl (Jvm.hb hby at_142) rfl rfl (l' := #[.val (.int p0), .val (.int p1), .val (.int p2), .val (.int p3), .val (.int p4), .val (.int p5), .val (.int nn), .val (.int c0), .val (.int c1), .val (.int c2), .val (.int c3), .val (.ref ca), .val (.ref st), .unset, .unset]) rfl k_)) ?_
        obtain ⟨T398, h398, X398, e398, E398, A398, D398, -, st398⟩ := newO X383 hx hZ hown (hw _ (List.mem_of_getElem? (i := 31) rfl)) (hw _ (List.mem_of_getElem? (i := 32) rfl)) (hw _ (List.mem_of_getElem? (i := 33) rfl)) rfl (g := (mkF m 144 #[.val (.int p0), .val (.int p1), .val (.int p2), .val (.int p3), .val (.int p4), .val (.int p5), .val (.int nn), .val (.int c0), .val (.int c1), .val (.int c2), .val (.int c3), .val (.ref ca), .val (.ref st), .unset, .unset] [])) rfl (Jvm.hb hby at_144) (by decide) (by decide)
        obtain ⟨rf, g398⟩ : ∃ z, z = T383.heap.size := ⟨_, rfl⟩
        rw [← g398] at A398 D398 st398
        have ne_st_rf : st ≠ rf := by rw [g398]; exact Nat.ne_of_lt q1.lt
        have ne_tb_rf : tb ≠ rf := by rw [g398]; exact Nat.ne_of_lt q4.lt
        have g_rf : n0 ≤ rf := Nat.le_trans f386 (Nat.le_of_eq g398.symm)
        have f399 := Nat.le_trans f385 E398.1
        have f400 := Nat.le_trans f386 E398.1
        have f401 := f387.ext E398
        have f402 := f388.ext E398
        have f403 := f389.ext E398
        have f404 := f390.ext E398
        have f405 := f391.ext E398
        have f406 := f392.ext E398
        have f407 := q1.ext E398
        have f408 := q2.ext E398
        have f409 := q3.ext E398
        have f410 := q4.ext E398
        have f411 : Fld Z h398 rf "com/example/austere_auth/austereauth/refusal/Refusal" "status" "I" (.int (0 : Int32)) := D398 (Or.inr (hw _ (List.mem_of_getElem? (i := 51) rfl))) (ty := .int) (by decide)
        have f412 : Fld Z h398 rf "com/example/austere_auth/austereauth/refusal/Refusal" "error" "Ljava/lang/String;" .null := D398 (Or.inr (hw _ (List.mem_of_getElem? (i := 53) rfl))) (ty := (.object "java/lang/String")) (by decide)
        have f413 : Fld Z h398 rf "com/example/austere_auth/austereauth/refusal/Refusal" "description" "Ljava/lang/String;" .null := D398 (Or.inr (hw _ (List.mem_of_getElem? (i := 55) rfl))) (ty := (.object "java/lang/String")) (by decide)
        have f414 : Fld Z h398 rf "com/example/austere_auth/austereauth/refusal/Refusal" "scope" "Ljava/lang/String;" .null := D398 (Or.inr (hw _ (List.mem_of_getElem? (i := 57) rfl))) (ty := (.object "java/lang/String")) (by decide)
        refine own_of (T' := T398) (f' := (mkF m 150 #[.val (.int p0), .val (.int p1), .val (.int p2), .val (.int p3), .val (.int p4), .val (.int p5), .val (.int nn), .val (.int c0), .val (.int c1), .val (.int c2), .val (.int c3), .val (.ref ca), .val (.ref st), .unset, .unset] [(.int p5), (.ref rf), (.ref rf)])) (fun t_ k_ => (st398 _ (XS.dup X398.here hx rfl (Jvm.hb hby at_147) rfl rfl (XS.iload X398.here hx rfl (Jvm.hb hby at_148) rfl k_)))) ?_
        obtain ⟨k1, T415, h415, k415, X415, e415, E415, hS, Y415, hZ, hown, st415⟩ := ldcS X398 hx hZ hown (hw _ (List.mem_of_getElem? (i := 34) rfl)) hwS e398 hS f399 (g := (mkF m 150 #[.val (.int p0), .val (.int p1), .val (.int p2), .val (.int p3), .val (.int p4), .val (.int p5), .val (.int nn), .val (.int c0), .val (.int c1), .val (.int c2), .val (.int c3), .val (.ref ca), .val (.ref st), .unset, .unset] [(.int p5), (.ref rf), (.ref rf)])) rfl (Jvm.hb hby at_150) (n := 60) (by decide) (by decide) (by decide) (by decide)
        have f416 := Nat.le_trans f400 E415.1
        have f417 := f401.ext E415
        have f418 := f402.ext E415
        have f419 := f403.ext E415
        have f420 := f404.ext E415
        have f421 := f405.ext E415
        have f422 := f406.ext E415
        have f423 := f407.ext E415
        have f424 := f408.ext E415
        have f425 := f409.ext E415
        have f426 := f410.ext E415
        have f427 := A398.ext E415
        have f428 := f411.ext E415
        have f429 := f412.ext E415
        have f430 := f413.ext E415
        have f431 := f414.ext E415
        refine own_of (T' := T415) (f' := (mkF m 152 #[.val (.int p0), .val (.int p1), .val (.int p2), .val (.int p3), .val (.int p4), .val (.int p5), .val (.int nn), .val (.int c0), .val (.int c1), .val (.int c2), .val (.int c3), .val (.ref ca), .val (.ref st), .unset, .unset] [(.ref k1), (.int p5), (.ref rf), (.ref rf)])) (fun t_ k_ => (st415 _ k_)) ?_
        obtain ⟨k2, T432, h432, k432, X432, e432, E432, hS, Y432, hZ, hown, st432⟩ := ldcS X415 hx hZ hown (hw _ (List.mem_of_getElem? (i := 37) rfl)) hwS e415 hS Y415 (g := (mkF m 152 #[.val (.int p0), .val (.int p1), .val (.int p2), .val (.int p3), .val (.int p4), .val (.int p5), .val (.int nn), .val (.int c0), .val (.int c1), .val (.int c2), .val (.int c3), .val (.ref ca), .val (.ref st), .unset, .unset] [(.ref k1), (.int p5), (.ref rf), (.ref rf)])) rfl (Jvm.hb hby at_152) (n := 56) (by decide) (by decide) (by decide) (by decide)
        have f433 := Nat.le_trans f416 E432.1
        have f434 := f417.ext E432
        have f435 := f418.ext E432
        have f436 := f419.ext E432
        have f437 := f420.ext E432
        have f438 := f421.ext E432
        have f439 := f422.ext E432
        have f440 := f423.ext E432
        have f441 := f424.ext E432
        have f442 := f425.ext E432
        have f443 := f426.ext E432
        have f444 := f427.ext E432
        have f445 := f428.ext E432
        have f446 := f429.ext E432
        have f447 := f430.ext E432
        have f448 := f431.ext E432
        refine own_of (T' := T432) (f' := (mkF m 154 #[.val (.int p0), .val (.int p1), .val (.int p2), .val (.int p3), .val (.int p4), .val (.int p5), .val (.int nn), .val (.int c0), .val (.int c1), .val (.int c2), .val (.int c3), .val (.ref ca), .val (.ref st), .unset, .unset] [(.ref k2), (.ref k1), (.int p5), (.ref rf), (.ref rf)])) (fun t_ k_ => (st432 _ k_)) ?_
        obtain ⟨_, _, ⟨T449, L449, k449, n449⟩, -, X449, ⟨Lc449, hQ449, l449, y449, z449⟩, st449⟩ := X432.specialBack hx (y := (⟨"com/example/austere_auth/austereauth/refusal/Refusal", "<init>", "(ILjava/lang/String;Ljava/lang/String;)V"⟩ : MethodName)) rfl hown (mvT hZ (hw _ (List.mem_of_getElem? (i := 38) rfl))) (mvT hZ (hw _ (List.mem_of_getElem? (i := 39) rfl))) (mvT hZ (hw _ (List.mem_of_getElem? (i := 40) rfl))) (by decide) (backOf (W := 1) (own_rm_r3 l Z a0 hw [] rf p5 k1 k2 h432 n0 f433 f445 f446 f447 f448 f444 g_rf) hZ (hw _ (List.mem_of_getElem? (i := 40) rfl)) (hw _ (List.mem_of_getElem? (i := 33) rfl)) (by decide) (by decide)) (g := (mkF m 154 #[.val (.int p0), .val (.int p1), .val (.int p2), .val (.int p3), .val (.int p4), .val (.int p5), .val (.int nn), .val (.int c0), .val (.int c1), .val (.int c2), .val (.int c3), .val (.ref ca), .val (.ref st), .unset, .unset] [(.ref k2), (.ref k1), (.int p5), (.ref rf), (.ref rf)])) rfl (by rw [hml]; rfl) (Steps.refl _) (a := rf) (argsL := [(.int p5), (.ref k1), (.ref k2)]) (rest := [(.ref rf)]) (lenOf own_pd_16 rfl) rfl (by show 2 * 0 + _ ≤ _; exact Nat.le_of_eq rfl) (Jvm.hb hby at_154) (fun _ _ => ⟨rfl, e432, Nat.le_of_ble_eq_true rfl, Nat.le_of_ble_eq_true rfl⟩)
        dsimp only [Pt.U, Pt.locs, Pt.cells, Pt.slots] at X449 l449 y449 z449 st449 hQ449
        subst l449 y449 z449
        obtain ⟨rfl, N449, K449⟩ := hQ449
        have N450 := Fr.app N384 N449
        have f451 := Nat.le_trans f433 K449.1
        have f452 := f434.keep K449 (allS g_rf all0)
        have f453 := own_stakeep f435 K449 (allS (own_plainE f444) all0)
        have f454 := own_stakeep f436 K449 (allS (own_plainE f444) all0)
        have f455 := own_stakeep f437 K449 (allS (own_plainE f444) all0)
        have f456 := own_stakeep f438 K449 (allS (own_plainE f444) all0)
        have f457 := own_stakeep f439 K449 (allS (own_plainE f444) all0)
        have f458 := f440.keep K449
        have f459 := f441.keep K449 (ninS ne_st_rf nin0)
        have f460 := f442.keep K449 (ninS ne_st_rf nin0)
        have f461 := f443.keep K449 (ninS ne_tb_rf nin0)
        have f462 := f444.keep K449
        have f467 := Nat.le_trans Y432 K449.1
        refine own_of (T' := T449) (f' := (mkF m 163 #[.val (.int p0), .val (.int p1), .val (.int p2), .val (.int p3), .val (.int p4), .val (.int p5), .val (.int nn), .val (.int c0), .val (.int c1), .val (.int c2), .val (.int c3), .val (.ref ca), .val (.ref st), .val (.ref rf), .unset] [(.ref rf), (.ref st)])) (fun t_ k_ => (st449.trans (XS.astore X449.here hx rfl (Jvm.hb hby at_157) rfl rfl (l' := #[.val (.int p0), .val (.int p1), .val (.int p2), .val (.int p3), .val (.int p4), .val (.int p5), .val (.int nn), .val (.int c0), .val (.int c1), .val (.int c2), .val (.int c3), .val (.ref ca), .val (.ref st), .val (.ref rf), .unset]) rfl (XS.aload X449.here hx rfl (Jvm.hb hby at_159) rfl rfl (XS.aload X449.here hx rfl (Jvm.hb hby at_161) rfl rfl k_))))) ?_
        obtain ⟨_, _, ⟨T468, L468, k468, n468⟩, -, X468, ⟨Lc468, hQ468, l468, y468, z468⟩, st468⟩ := Jvm.LawKit.callS X449 hx (y := (⟨"com/example/austere_auth/austereauth/refusal/Refusal", "requirePresent", "(Ljava/lang/String;Lcom/example/austere_auth/austereauth/refusal/Refusal;)Ljava/lang/String;"⟩ : MethodName)) hown (mvT hZ (hw _ (List.mem_of_getElem? (i := 58) rfl))) (mvT hZ (hw _ (List.mem_of_getElem? (i := 59) rfl))) (mvT hZ (hw _ (List.mem_of_getElem? (i := 33) rfl))) (mvT hZ (hw _ (List.mem_of_getElem? (i := 60) rfl))) (by decide) (backOf (W := 0) (own_rm_req l Z a0 hw [] st rf tb kt ([c0, c1] : List Int32) (1 : Int32) (4 : Int32) [(.int (StrChars.lo8 c0)), (.int (StrChars.hi8 c0)), (.int (StrChars.lo8 c1)), (.int (StrChars.hi8 c1))] T449.heap n0 f451 f458 f460 f459 f461 hco hr (Nat.le_of_ble_eq_true rfl) (by simp)) hZ (hw _ (List.mem_of_getElem? (i := 60) rfl)) (hw _ (List.mem_of_getElem? (i := 33) rfl)) (by decide) (by decide)) (g := (mkF m 163 #[.val (.int p0), .val (.int p1), .val (.int p2), .val (.int p3), .val (.int p4), .val (.int p5), .val (.int nn), .val (.int c0), .val (.int c1), .val (.int c2), .val (.int c3), .val (.ref ca), .val (.ref st), .val (.ref rf), .unset] [(.ref rf), (.ref st)])) rfl (by rw [hml]; rfl) (argsL := [(.ref st), (.ref rf)]) (rest := []) (lenOf own_pd_17 rfl) rfl (by show 2 * 0 + _ ≤ _; exact Nat.le_of_eq rfl) (Jvm.hb hby at_163) (fun _ _ => ⟨rfl, rfl, Nat.le_of_ble_eq_true rfl, Nat.le_of_ble_eq_true rfl⟩)
        dsimp only [Pt.U, Pt.locs, Pt.cells, Pt.slots] at X468 l468 y468 z468 st468 hQ468
        subst l468 y468 z468
        obtain ⟨rfl, N468, e468⟩ := hQ468
        have N469 := Fr.app N450 N468
        refine own_of (T' := T468) (f' := (mkF m 177 #[.val (.int p0), .val (.int p1), .val (.int p2), .val (.int p3), .val (.int p4), .val (.int p5), .val (.int nn), .val (.int c0), .val (.int c1), .val (.int c2), .val (.int c3), .val (.ref ca), .val (.ref st), .val (.ref rf), .val (.ref st)] [(.ref st)])) (fun t_ k_ => (st468 _ (XS.astore X468.here hx rfl (Jvm.hb hby at_166) rfl rfl (l' := #[.val (.int p0), .val (.int p1), .val (.int p2), .val (.int p3), .val (.int p4), .val (.int p5), .val (.int nn), .val (.int c0), .val (.int c1), .val (.int c2), .val (.int c3), .val (.ref ca), .val (.ref st), .val (.ref rf), .val (.ref st)]) rfl (XS.aload X468.here hx rfl (Jvm.hb hby at_168) rfl rfl (XS.aload X468.here hx rfl (Jvm.hb hby at_170) rfl rfl (Jvm.RoadKit.acmp (g := (mkF m 172 #[.val (.int p0), .val (.int p1), .val (.int p2), .val (.int p3), .val (.int p4), .val (.int p5), .val (.int nn), .val (.int c0), .val (.int c1), .val (.int c2), .val (.int c3), .val (.ref ca), .val (.ref st), .val (.ref rf), .val (.ref st)] [(.ref st), (.ref st)])) X468 hx rfl rfl rfl (pc0 := 172) (pc' := 175) (same := true) rfl (Jvm.hb hby at_172) rfl (decide_eq_true rfl) (by decide) (by decide) (XS.aload X468.here hx rfl (Jvm.hb hby at_175) rfl rfl k_))))))) ?_
        have hwL : ∀ d ∈ StrChars.Road.wordsLen, d.before a0 Z = true := fun d hd => hw d (own_wLen d hd)
        have hwC : ∀ d ∈ StrChars.Road.wordsChN, d.before a0 Z = true := fun d hd => hw d (own_wChN d hd)
        obtain ⟨cq471, kq471, q471a, q471b, q471c⟩ := isOf hZ e468 f458
        obtain ⟨_, _, ⟨T470, L470, k470, n470⟩, -, X470, ⟨Lc470, hQ470, l470, y470, z470⟩, st470⟩ := X468.virtualBack hx (y := (⟨"java/lang/String", "length", "()I"⟩ : MethodName)) (z := (⟨"java/lang/String", "length", "()I"⟩ : MethodName)) hown (mvT hZ (hw _ (List.mem_of_getElem? (i := 66) rfl))) (mvT hZ (hw _ (List.mem_of_getElem? (i := 67) rfl))) (notFace_of_selects (args := #[]) (mvT hZ (hw _ (List.mem_of_getElem? (i := 69) rfl)))) (mvT hZ (hw _ (List.mem_of_getElem? (i := 69) rfl))) (mvT hZ (hw _ (List.mem_of_getElem? (i := 68) rfl))) (by decide) (StrChars.Road.lenW (W := 0) hZ hwL (kI := 4) (hw _ (List.mem_of_getElem? (i := 3) rfl)) f458 f460 f459 f461 hco hr f453 P5 (Nat.le_of_ble_eq_true rfl) (by decide) (by decide)) q471a q471c (g := (mkF m 177 #[.val (.int p0), .val (.int p1), .val (.int p2), .val (.int p3), .val (.int p4), .val (.int p5), .val (.int nn), .val (.int c0), .val (.int c1), .val (.int c2), .val (.int c3), .val (.ref ca), .val (.ref st), .val (.ref rf), .val (.ref st)] [(.ref st)])) rfl (by rw [hml]; rfl) (Steps.refl _) (argsL := []) (rest := []) (lenOf own_pd_18 rfl) rfl (by show 2 * 0 + _ ≤ _; exact Nat.le_of_eq rfl) (Jvm.hb hby at_177) (fun _ _ => ⟨rfl, e468, Nat.le_of_ble_eq_true rfl, Nat.le_of_ble_eq_true rfl⟩)
        dsimp only [Pt.U, Pt.locs, Pt.cells, Pt.slots] at X470 l470 y470 z470 st470 hQ470
        subst l470 y470 z470
        obtain ⟨rfl, rfl, e470⟩ := hQ470
        have N470 : Fr n0 ([] : List Loc) := Fr.nil n0
        have N472 := Fr.app N469 N470
        refine own_of (T' := T470) (f' := (mkF m 188 #[.val (.int p0), .val (.int p1), .val (.int p2), .val (.int p3), .val (.int p4), .val (.int p5), .val (.int nn), .val (.int c0), .val (.int c1), .val (.int c2), .val (.int c3), .val (.ref ca), .val (.ref st), .val (.ref rf), .val (.ref st)] [(.int (0 : Int32)), (.ref st)])) (fun t_ k_ => (st470.trans (XS.iload X470.here hx rfl (Jvm.hb hby at_180) rfl (XS.icmpNo X470.here hx rfl (Jvm.hb hby at_182) rfl (teq hn).2 (XS.aload X470.here hx rfl (Jvm.hb hby at_185) rfl rfl (XS.iconst X470.here hx rfl (Jvm.hb hby at_187) k_)))))) ?_
        obtain ⟨cq474, kq474, q474a, q474b, q474c⟩ := isOf hZ e470 f458
        obtain ⟨_, _, ⟨T473, L473, k473, n473⟩, -, X473, ⟨Lc473, hQ473, l473, y473, z473⟩, st473⟩ := X470.virtualBack hx (y := (⟨"java/lang/String", "charAt", "(I)C"⟩ : MethodName)) (z := (⟨"java/lang/String", "charAt", "(I)C"⟩ : MethodName)) hown (mvT hZ (hw _ (List.mem_of_getElem? (i := 76) rfl))) (mvT hZ (hw _ (List.mem_of_getElem? (i := 77) rfl))) (notFace_of_selects (args := #[]) (mvT hZ (hw _ (List.mem_of_getElem? (i := 79) rfl)))) (mvT hZ (hw _ (List.mem_of_getElem? (i := 79) rfl))) (mvT hZ (hw _ (List.mem_of_getElem? (i := 78) rfl))) (by decide) (backOf (W := 0) (own_rm_cha l Z a0 hw [] st (0 : Int32) kt (4 : Int32) [(.int (StrChars.lo8 c0)), (.int (StrChars.hi8 c0)), (.int (StrChars.lo8 c1)), (.int (StrChars.hi8 c1))] fm c0 tb G1 T449.heap n0 f451 f455 f456 f457 f453 P5 f458 f460 f459 f461 f454 rfm rfl rfl rc0 rfl (by decide) (by decide) (by decide)) hZ (hw _ (List.mem_of_getElem? (i := 80) rfl)) (hw _ (List.mem_of_getElem? (i := 4) rfl)) (by decide) (by decide)) q474a q474c (g := (mkF m 188 #[.val (.int p0), .val (.int p1), .val (.int p2), .val (.int p3), .val (.int p4), .val (.int p5), .val (.int nn), .val (.int c0), .val (.int c1), .val (.int c2), .val (.int c3), .val (.ref ca), .val (.ref st), .val (.ref rf), .val (.ref st)] [(.int (0 : Int32)), (.ref st)])) rfl (by rw [hml]; rfl) (Steps.refl _) (argsL := [(.int (0 : Int32))]) (rest := []) (lenOf own_pd_19 rfl) rfl (by show 2 * 0 + _ ≤ _; exact Nat.le_of_eq rfl) (Jvm.hb hby at_188) (fun _ _ => ⟨rfl, e470, Nat.le_of_ble_eq_true rfl, Nat.le_of_ble_eq_true rfl⟩)
        dsimp only [Pt.U, Pt.locs, Pt.cells, Pt.slots] at X473 l473 y473 z473 st473 hQ473
        subst l473 y473 z473
        obtain ⟨rfl, N473, e473⟩ := hQ473
        have N475 := Fr.app N472 N473
        refine own_of (T' := T473) (f' := (mkF m 201 #[.val (.int p0), .val (.int p1), .val (.int p2), .val (.int p3), .val (.int p4), .val (.int p5), .val (.int nn), .val (.int c0), .val (.int c1), .val (.int c2), .val (.int c3), .val (.ref ca), .val (.ref st), .val (.ref rf), .val (.ref st)] [(.int (1 : Int32))])) (fun t_ k_ => (st473.trans (XS.iload X473.here hx rfl (Jvm.hb hby at_191) rfl (XS.icmpNo X473.here hx rfl (Jvm.hb hby at_193) rfl (teq rfl).2 (XS.iconst X473.here hx rfl (Jvm.hb hby at_196) (XS.goto X473.here hx rfl (pc0 := 197) (pc' := 201) rfl (Jvm.hb hby at_197) (by decide) (by decide) k_)))))) ?_
        obtain ⟨fs, hr, hrun, hended, hEnd⟩ := X473.leaveW hS (by rw [e473]; exact f467) (v := some (.int (1 : Int32))) (fun h => by rw [Bd.returns] at h; cases h)
        exact ⟨_, _, retN X473 hx (t := .boolean) Bd.returns (by simp) (Jvm.hb hby at_201) hr, hrun, hended, _, _, rfl, (by show own_Q_0 Z p0 p1 p2 p3 p4 p5 G1 fm h0 n0 _ T473.heap _; rw [e473]; exact ⟨rfl, N475⟩), hEnd.1, hEnd.2.1, hEnd.2.2.1, hEnd.2.2.2.mono (by decide) (by decide)⟩
    · skip
      refine own_of (T' := s₁) (f' := (mkF m 82 #[.val (.int p0), .val (.int p1), .val (.int p2), .val (.int p3), .val (.int p4), .val (.int p5), .val (.int nn), .val (.int c0), .val (.int c1), .val (.int c2), .val (.int c3), .unset, .unset, .unset, .unset] [(.int (3 : Int32)), (.int nn)])) (fun t_ k_ => (XS.icmpYes X0.here hx rfl (pc0 := 58) (pc' := 79) rfl (Jvm.hb hby at_58) rfl (feq hc58_232).2 (by decide) (by decide) (XS.iload X0.here hx rfl (Jvm.hb hby at_79) rfl (XS.iconst X0.here hx rfl (Jvm.hb hby at_81) k_)))) ?_
      by_cases hc82_476 : (nn = (3 : Int32))
      · skip
        refine own_of (T' := s₁) (f' := (mkF m 86 #[.val (.int p0), .val (.int p1), .val (.int p2), .val (.int p3), .val (.int p4), .val (.int p5), .val (.int nn), .val (.int c0), .val (.int c1), .val (.int c2), .val (.int c3), .unset, .unset, .unset, .unset] [(.int (3 : Int32))])) (fun t_ k_ => (XS.icmpNo X0.here hx rfl (Jvm.hb hby at_82) rfl (teq hc82_476).2 (XS.iconst X0.here hx rfl (Jvm.hb hby at_85) k_))) ?_
        obtain ⟨T477, h477, k477, X477, e477, E477, A477, Ex477, st477⟩ := newPE X0 hx hZ (hw _ (List.mem_of_getElem? (i := 1) rfl)) e0 (g := (mkF m 86 #[.val (.int p0), .val (.int p1), .val (.int p2), .val (.int p3), .val (.int p4), .val (.int p5), .val (.int nn), .val (.int c0), .val (.int c1), .val (.int c2), .val (.int c3), .unset, .unset, .unset, .unset] [(.int (3 : Int32))])) rfl (Jvm.hb hby at_86) rfl (by decide) (cap := 3) (by decide) (by decide) (by decide) (by decide) (ad := "[C") (by decide)
        obtain ⟨ca, g477⟩ : ∃ z, z = h0.size := ⟨_, rfl⟩
        rw [← g477] at A477 Ex477 st477
        have g_ca : n0 ≤ ca := Nat.le_trans Z0 (Nat.le_of_eq g477.symm)
        have f478 := Nat.le_trans Y0 E477.1
        have f479 := Nat.le_trans Z0 E477.1
        have f480 := X00.ext E477
        have f481 := SC.ext E477
        have f482 := SF.ext E477
        have f483 := S1.ext E477
        have f484 := S2.ext E477
        have f485 := S3.ext E477
        have f486 : Arv Z h477 ca k477 .char (3 : Int32) [(.int (0 : Int32)), (.int (0 : Int32)), (.int (0 : Int32))] (.int (0 : Int32)) := (Arv.new A477 (by decide)).pad (pad_rep [] (.int (0 : Int32)) 3)
        refine own_of (T' := T477) (f' := (mkF m 92 #[.val (.int p0), .val (.int p1), .val (.int p2), .val (.int p3), .val (.int p4), .val (.int p5), .val (.int nn), .val (.int c0), .val (.int c1), .val (.int c2), .val (.int c3), .unset, .unset, .unset, .unset] [(.int c0), (.int (0 : Int32)), (.ref ca), (.ref ca)])) (fun t_ k_ => (st477 _ (XS.dup X477.here hx rfl (Jvm.hb hby at_88) rfl rfl (XS.iconst X477.here hx rfl (Jvm.hb hby at_89) (XS.iload X477.here hx rfl (Jvm.hb hby at_90) rfl k_))))) ?_
        obtain ⟨cl487, Ar487, qq487, Sz487, Nn487, Hh487, Gg487⟩ := id f486
        have hin487 : ¬ ((0 : Int32) < 0 ∨ cl487.slots.size ≤ ((0 : Int32)).toNatClampNeg) := inb_of Sz487 ⟨by decide, by decide⟩
        obtain ⟨T488, h488, X488, e488, W488, st488⟩ := stC X477 hx hZ e477 Ar487 (j := (0 : Int32)) hin487 (g := (mkF m 92 #[.val (.int p0), .val (.int p1), .val (.int p2), .val (.int p3), .val (.int p4), .val (.int p5), .val (.int nn), .val (.int c0), .val (.int c1), .val (.int c2), .val (.int c3), .unset, .unset, .unset, .unset] [(.int c0), (.int (0 : Int32)), (.ref ca), (.ref ca)])) rfl rfl (Jvm.hb hby at_92)
        refine own_of (T' := T488) (f' := (mkF m 93 #[.val (.int p0), .val (.int p1), .val (.int p2), .val (.int p3), .val (.int p4), .val (.int p5), .val (.int nn), .val (.int c0), .val (.int c1), .val (.int c2), .val (.int c3), .unset, .unset, .unset, .unset] [(.ref ca)])) (fun t_ k_ => (st488 _ k_)) ?_
        have f489 := Arv.set Ar487 qq487 Sz487 Nn487 Hh487 Gg487 (fits_nar_char _) W488 0 rfl (Nat.le_of_ble_eq_true rfl)
        have N488 := Fr.snoc X488 N0 g_ca
        have f490 := Nat.le_trans f478 (Keep.of_wr W488).1
        have f491 := Nat.le_trans f479 (Keep.of_wr W488).1
        have f492 := f480.wr W488 g_ca
        have f493 := f481.wr W488
        have f494 := f482.wr W488
        have f495 := f483.wr W488
        have f496 := f484.wr W488
        have f497 := f485.wr W488
        have f498 := Ex477.wr W488
        refine own_of (T' := T488) (f' := (mkF m 97 #[.val (.int p0), .val (.int p1), .val (.int p2), .val (.int p3), .val (.int p4), .val (.int p5), .val (.int nn), .val (.int c0), .val (.int c1), .val (.int c2), .val (.int c3), .unset, .unset, .unset, .unset] [(.int c1), (.int (1 : Int32)), (.ref ca), (.ref ca)])) (fun t_ k_ => (XS.dup X488.here hx rfl (Jvm.hb hby at_93) rfl rfl (XS.iconst X488.here hx rfl (Jvm.hb hby at_94) (XS.iload X488.here hx rfl (Jvm.hb hby at_95) rfl k_)))) ?_
        obtain ⟨cl500, Ar500, qq500, Sz500, Nn500, Hh500, Gg500⟩ := id f489
        have hin500 : ¬ ((1 : Int32) < 0 ∨ cl500.slots.size ≤ ((1 : Int32)).toNatClampNeg) := inb_of Sz500 ⟨by decide, by decide⟩
        obtain ⟨T501, h501, X501, e501, W501, st501⟩ := stC X488 hx hZ e488 Ar500 (j := (1 : Int32)) hin500 (g := (mkF m 97 #[.val (.int p0), .val (.int p1), .val (.int p2), .val (.int p3), .val (.int p4), .val (.int p5), .val (.int nn), .val (.int c0), .val (.int c1), .val (.int c2), .val (.int c3), .unset, .unset, .unset, .unset] [(.int c1), (.int (1 : Int32)), (.ref ca), (.ref ca)])) rfl rfl (Jvm.hb hby at_97)
        refine own_of (T' := T501) (f' := (mkF m 98 #[.val (.int p0), .val (.int p1), .val (.int p2), .val (.int p3), .val (.int p4), .val (.int p5), .val (.int nn), .val (.int c0), .val (.int c1), .val (.int c2), .val (.int c3), .unset, .unset, .unset, .unset] [(.ref ca)])) (fun t_ k_ => (st501 _ k_)) ?_
        have f502 := Arv.set Ar500 qq500 Sz500 Nn500 Hh500 Gg500 (fits_nar_char _) W501 1 rfl (Nat.le_of_ble_eq_true rfl)
        have N501 := Fr.snoc X501 N488 g_ca
        have f503 := Nat.le_trans f490 (Keep.of_wr W501).1
        have f504 := Nat.le_trans f491 (Keep.of_wr W501).1
        have f505 := f492.wr W501 g_ca
        have f506 := f493.wr W501
        have f507 := f494.wr W501
        have f508 := f495.wr W501
        have f509 := f496.wr W501
        have f510 := f497.wr W501
        have f511 := f498.wr W501
        refine own_of (T' := T501) (f' := (mkF m 102 #[.val (.int p0), .val (.int p1), .val (.int p2), .val (.int p3), .val (.int p4), .val (.int p5), .val (.int nn), .val (.int c0), .val (.int c1), .val (.int c2), .val (.int c3), .unset, .unset, .unset, .unset] [(.int c2), (.int (2 : Int32)), (.ref ca), (.ref ca)])) (fun t_ k_ => (XS.dup X501.here hx rfl (Jvm.hb hby at_98) rfl rfl (XS.iconst X501.here hx rfl (Jvm.hb hby at_99) (XS.iload X501.here hx rfl (Jvm.hb hby at_100) rfl k_)))) ?_
        obtain ⟨cl513, Ar513, qq513, Sz513, Nn513, Hh513, Gg513⟩ := id f502
        have hin513 : ¬ ((2 : Int32) < 0 ∨ cl513.slots.size ≤ ((2 : Int32)).toNatClampNeg) := inb_of Sz513 ⟨by decide, by decide⟩
        obtain ⟨T514, h514, X514, e514, W514, st514⟩ := stC X501 hx hZ e501 Ar513 (j := (2 : Int32)) hin513 (g := (mkF m 102 #[.val (.int p0), .val (.int p1), .val (.int p2), .val (.int p3), .val (.int p4), .val (.int p5), .val (.int nn), .val (.int c0), .val (.int c1), .val (.int c2), .val (.int c3), .unset, .unset, .unset, .unset] [(.int c2), (.int (2 : Int32)), (.ref ca), (.ref ca)])) rfl rfl (Jvm.hb hby at_102)
        refine own_of (T' := T514) (f' := (mkF m 103 #[.val (.int p0), .val (.int p1), .val (.int p2), .val (.int p3), .val (.int p4), .val (.int p5), .val (.int nn), .val (.int c0), .val (.int c1), .val (.int c2), .val (.int c3), .unset, .unset, .unset, .unset] [(.ref ca)])) (fun t_ k_ => (st514 _ k_)) ?_
        have f515 := Arv.set Ar513 qq513 Sz513 Nn513 Hh513 Gg513 (fits_nar_char _) W514 2 rfl (Nat.le_of_ble_eq_true rfl)
        have N514 := Fr.snoc X514 N501 g_ca
        have f516 := Nat.le_trans f503 (Keep.of_wr W514).1
        have f517 := Nat.le_trans f504 (Keep.of_wr W514).1
        have f518 := f505.wr W514 g_ca
        have f519 := f506.wr W514
        have f520 := f507.wr W514
        have f521 := f508.wr W514
        have f522 := f509.wr W514
        have f523 := f510.wr W514
        have f524 := f511.wr W514
        have Vc : Arv Z h514 ca k477 .char (3 : Int32) [(.int c0), (.int c1), (.int c2)] (.int 0) := by
          have q_ := f515
          rw [own_nc c0 rc0, own_nc c1 rc1, own_nc c2 rc2] at q_
          exact q_
        have hn : Int32.ofNat ([c0, c1, c2] : List Int32).length = nn := hc82_476.symm
        have hr : ∀ c ∈ ([c0, c1, c2] : List Int32), ¬ c < 0 ∧ ¬ (65535 : Int32) < c := by
          intro c hc
          simp only [List.mem_cons, List.not_mem_nil, or_false] at hc
          rcases hc with rfl | rfl | rfl
          · exact rc0
          · exact rc1
          · exact rc2
        refine own_of (T' := T514) (f' := (mkF m 133 #[.val (.int p0), .val (.int p1), .val (.int p2), .val (.int p3), .val (.int p4), .val (.int p5), .val (.int nn), .val (.int c0), .val (.int c1), .val (.int c2), .val (.int c3), .val (.ref ca), .unset, .unset, .unset] [])) (fun t_ k_ => (XS.astore X514.here hx rfl (Jvm.hb hby at_103) rfl rfl (l' := #[.val (.int p0), .val (.int p1), .val (.int p2), .val (.int p3), .val (.int p4), .val (.int p5), .val (.int nn), .val (.int c0), .val (.int c1), .val (.int c2), .val (.int c3), .val (.ref ca), .unset, .unset, .unset]) rfl (XS.goto X514.here hx rfl (pc0 := 105) (pc' := 133) rfl (Jvm.hb hby at_105) (by decide) (by decide) k_))) ?_
        obtain ⟨T526, h526, X526, e526, E526, A526, D526, -, st526⟩ := newO X514 hx hZ hown (hw _ (List.mem_of_getElem? (i := 2) rfl)) (hw _ (List.mem_of_getElem? (i := 3) rfl)) (hw _ (List.mem_of_getElem? (i := 4) rfl)) e514 (g := (mkF m 133 #[.val (.int p0), .val (.int p1), .val (.int p2), .val (.int p3), .val (.int p4), .val (.int p5), .val (.int nn), .val (.int c0), .val (.int c1), .val (.int c2), .val (.int c3), .val (.ref ca), .unset, .unset, .unset] [])) rfl (Jvm.hb hby at_133) (by decide) (by decide)
        obtain ⟨st, g526⟩ : ∃ z, z = h514.size := ⟨_, rfl⟩
        rw [← g526] at A526 D526 st526
        have ne_ca_st : ca ≠ st := by rw [g526]; exact Nat.ne_of_lt f524.lt
        have g_st : n0 ≤ st := Nat.le_trans f517 (Nat.le_of_eq g526.symm)
        have f527 := Nat.le_trans f516 E526.1
        have f528 := Nat.le_trans f517 E526.1
        have f529 := f518.ext E526
        have f530 := f519.ext E526
        have f531 := f520.ext E526
        have f532 := f521.ext E526
        have f533 := f522.ext E526
        have f534 := f523.ext E526
        have f535 := f524.ext E526
        have f536 := Vc.ext E526
        have f537 : Fld Z h526 st "java/lang/String" "coder" "B" (.int (0 : Int32)) := D526 (Or.inr (hw _ (List.mem_of_getElem? (i := 28) rfl))) (ty := .byte) (by decide)
        have f538 : Fld Z h526 st "java/lang/String" "value" "[B" .null := D526 (Or.inr (hw _ (List.mem_of_getElem? (i := 30) rfl))) (ty := (.array .byte)) (by decide)
        refine own_of (T' := T526) (f' := (mkF m 139 #[.val (.int p0), .val (.int p1), .val (.int p2), .val (.int p3), .val (.int p4), .val (.int p5), .val (.int nn), .val (.int c0), .val (.int c1), .val (.int c2), .val (.int c3), .val (.ref ca), .unset, .unset, .unset] [(.ref ca), (.ref st), (.ref st)])) (fun t_ k_ => (st526 _ (XS.dup X526.here hx rfl (Jvm.hb hby at_136) rfl rfl (XS.aload X526.here hx rfl (Jvm.hb hby at_137) rfl rfl k_)))) ?_
        by_cases hnw : ∀ c ∈ ([c0, c1, c2] : List Int32), ¬ (255 : Int32) < c
        · skip
          have hp : ∀ c ∈ ([c0, c1, c2] : List Int32), ¬ c < 0 ∧ ¬ (255 : Int32) < c := fun c hc => ⟨(hr c hc).1, hnw c hc⟩
          have hws539 : ∀ d ∈ StrChars.Road.words, d.before a0 Z = true := fun d hd => hw d (own_strw d hd)
          obtain ⟨_, _, ⟨T539, L539, k539, n539⟩, -, X539, ⟨Lc539, hQ539, l539, y539, z539⟩, st539⟩ := X526.specialBack hx (y := (⟨"java/lang/String", "<init>", "([C)V"⟩ : MethodName)) rfl hown (mvT hZ (hw _ (List.mem_of_getElem? (i := 5) rfl))) (mvT hZ (hw _ (List.mem_of_getElem? (i := 6) rfl))) (mvT hZ (hw _ (List.mem_of_getElem? (i := 7) rfl))) (by decide) (StrChars.Road.backV (W := 1) hZ hws539 (kI := 4) (hw _ (List.mem_of_getElem? (i := 3) rfl)) (cs := ([c0, c1, c2] : List Int32)) (bs := (([c0, c1, c2] : List Int32)).map (fun c => c.toInt8.toInt32)) (n := 3) g_st f528 A526 f538 f537 f536 (O2.ext f529.2) P5 rfl rfl (by decide) (by decide) hp rfl (by decide) (by decide)) (g := (mkF m 139 #[.val (.int p0), .val (.int p1), .val (.int p2), .val (.int p3), .val (.int p4), .val (.int p5), .val (.int nn), .val (.int c0), .val (.int c1), .val (.int c2), .val (.int c3), .val (.ref ca), .unset, .unset, .unset] [(.ref ca), (.ref st), (.ref st)])) rfl (by rw [hml]; rfl) (Steps.refl _) (a := st) (argsL := [(.ref ca)]) (rest := [(.ref st)]) (lenOf own_pd_15 rfl) rfl (by show 2 * 0 + _ ≤ _; exact Nat.le_of_eq rfl) (Jvm.hb hby at_139) (fun _ _ => ⟨rfl, e526, Nat.le_of_ble_eq_true rfl, Nat.le_of_ble_eq_true rfl⟩)
          dsimp only [Pt.U, Pt.locs, Pt.cells, Pt.slots] at X539 l539 y539 z539 st539 hQ539
          subst l539 y539 z539
          obtain ⟨rfl, N539, K539, Es539, Fc539, t539, kt539, -, -, -, Fv539, Vt539⟩ := hQ539
          have N540 := Fr.app N514 N539
          have f541 := Nat.le_trans f527 K539.1
          have f542 := Nat.le_trans f528 K539.1
          have f543 := f529.keep K539 (allS g_st all0)
          have f544 := own_stakeep f530 K539 (allS (own_plainE A526) all0)
          have f545 := own_stakeep f531 K539 (allS (own_plainE A526) all0)
          have f546 := own_stakeep f532 K539 (allS (own_plainE A526) all0)
          have f547 := own_stakeep f533 K539 (allS (own_plainE A526) all0)
          have f548 := own_stakeep f534 K539 (allS (own_plainE A526) all0)
          have f549 := f535.keep K539
          have f550 := f536.keep K539 (ninS ne_ca_st nin0)
          have f551 := A526.keep K539
          refine own_of (T' := T539) (f' := (mkF m 142 #[.val (.int p0), .val (.int p1), .val (.int p2), .val (.int p3), .val (.int p4), .val (.int p5), .val (.int nn), .val (.int c0), .val (.int c1), .val (.int c2), .val (.int c3), .val (.ref ca), .unset, .unset, .unset] [(.ref st)])) (fun t_ k_ => (st539.trans k_)) ?_
          have hco : StrChars.Road.CodA ([c0, c1, c2] : List Int32) 0 (3 : Int32) [(.int (StrChars.lo8 c0)), (.int (StrChars.lo8 c1)), (.int (StrChars.lo8 c2))] := Or.inl ⟨rfl, rfl, rfl, hnw⟩
          have Vs : Arv Z T539.heap t539 kt539 .byte (3 : Int32) [(.int (StrChars.lo8 c0)), (.int (StrChars.lo8 c1)), (.int (StrChars.lo8 c2))] (.int 0) := Vt539
          refine own_of (T' := T539) (f' := (mkF m 144 #[.val (.int p0), .val (.int p1), .val (.int p2), .val (.int p3), .val (.int p4), .val (.int p5), .val (.int nn), .val (.int c0), .val (.int c1), .val (.int c2), .val (.int c3), .val (.ref ca), .val (.ref st), .unset, .unset] [])) (fun t_ k_ => (XS.astore X539.here hx rfl (Jvm.hb hby at_142) rfl rfl (l' := #[.val (.int p0), .val (.int p1), .val (.int p2), .val (.int p3), .val (.int p4), .val (.int p5), .val (.int nn), .val (.int c0), .val (.int c1), .val (.int c2), .val (.int c3), .val (.ref ca), .val (.ref st), .unset, .unset]) rfl k_)) ?_
          obtain ⟨T554, h554, X554, e554, E554, A554, D554, -, st554⟩ := newO X539 hx hZ hown (hw _ (List.mem_of_getElem? (i := 31) rfl)) (hw _ (List.mem_of_getElem? (i := 32) rfl)) (hw _ (List.mem_of_getElem? (i := 33) rfl)) rfl (g := (mkF m 144 #[.val (.int p0), .val (.int p1), .val (.int p2), .val (.int p3), .val (.int p4), .val (.int p5), .val (.int nn), .val (.int c0), .val (.int c1), .val (.int c2), .val (.int c3), .val (.ref ca), .val (.ref st), .unset, .unset] [])) rfl (Jvm.hb hby at_144) (by decide) (by decide)
          obtain ⟨rf, g554⟩ : ∃ z, z = T539.heap.size := ⟨_, rfl⟩
          rw [← g554] at A554 D554 st554
          have ne_ca_rf : ca ≠ rf := by rw [g554]; exact Nat.ne_of_lt f549.lt
          have ne_st_rf : st ≠ rf := by rw [g554]; exact Nat.ne_of_lt Es539.lt
          have ne_t539_rf : t539 ≠ rf := by rw [g554]; exact Nat.ne_of_lt Vs.lt
          have g_rf : n0 ≤ rf := Nat.le_trans f542 (Nat.le_of_eq g554.symm)
          have f555 := Nat.le_trans f541 E554.1
          have f556 := Nat.le_trans f542 E554.1
          have f557 := f543.ext E554
          have f558 := f544.ext E554
          have f559 := f545.ext E554
          have f560 := f546.ext E554
          have f561 := f547.ext E554
          have f562 := f548.ext E554
          have f563 := f549.ext E554
          have f564 := f550.ext E554
          have f565 := Es539.ext E554
          have f566 := Fc539.ext E554
          have f567 := Fv539.ext E554
          have f568 := Vs.ext E554
          have f569 : Fld Z h554 rf "com/example/austere_auth/austereauth/refusal/Refusal" "status" "I" (.int (0 : Int32)) := D554 (Or.inr (hw _ (List.mem_of_getElem? (i := 51) rfl))) (ty := .int) (by decide)
          have f570 : Fld Z h554 rf "com/example/austere_auth/austereauth/refusal/Refusal" "error" "Ljava/lang/String;" .null := D554 (Or.inr (hw _ (List.mem_of_getElem? (i := 53) rfl))) (ty := (.object "java/lang/String")) (by decide)
          have f571 : Fld Z h554 rf "com/example/austere_auth/austereauth/refusal/Refusal" "description" "Ljava/lang/String;" .null := D554 (Or.inr (hw _ (List.mem_of_getElem? (i := 55) rfl))) (ty := (.object "java/lang/String")) (by decide)
          have f572 : Fld Z h554 rf "com/example/austere_auth/austereauth/refusal/Refusal" "scope" "Ljava/lang/String;" .null := D554 (Or.inr (hw _ (List.mem_of_getElem? (i := 57) rfl))) (ty := (.object "java/lang/String")) (by decide)
          refine own_of (T' := T554) (f' := (mkF m 150 #[.val (.int p0), .val (.int p1), .val (.int p2), .val (.int p3), .val (.int p4), .val (.int p5), .val (.int nn), .val (.int c0), .val (.int c1), .val (.int c2), .val (.int c3), .val (.ref ca), .val (.ref st), .unset, .unset] [(.int p5), (.ref rf), (.ref rf)])) (fun t_ k_ => (st554 _ (XS.dup X554.here hx rfl (Jvm.hb hby at_147) rfl rfl (XS.iload X554.here hx rfl (Jvm.hb hby at_148) rfl k_)))) ?_
          obtain ⟨k1, T573, h573, k573, X573, e573, E573, hS, Y573, hZ, hown, st573⟩ := ldcS X554 hx hZ hown (hw _ (List.mem_of_getElem? (i := 34) rfl)) hwS e554 hS f555 (g := (mkF m 150 #[.val (.int p0), .val (.int p1), .val (.int p2), .val (.int p3), .val (.int p4), .val (.int p5), .val (.int nn), .val (.int c0), .val (.int c1), .val (.int c2), .val (.int c3), .val (.ref ca), .val (.ref st), .unset, .unset] [(.int p5), (.ref rf), (.ref rf)])) rfl (Jvm.hb hby at_150) (n := 60) (by decide) (by decide) (by decide) (by decide)
          have f574 := Nat.le_trans f556 E573.1
          have f575 := f557.ext E573
          have f576 := f558.ext E573
          have f577 := f559.ext E573
          have f578 := f560.ext E573
          have f579 := f561.ext E573
          have f580 := f562.ext E573
          have f581 := f563.ext E573
          have f582 := f564.ext E573
          have f583 := f565.ext E573
          have f584 := f566.ext E573
          have f585 := f567.ext E573
          have f586 := f568.ext E573
          have f587 := A554.ext E573
          have f588 := f569.ext E573
          have f589 := f570.ext E573
          have f590 := f571.ext E573
          have f591 := f572.ext E573
          refine own_of (T' := T573) (f' := (mkF m 152 #[.val (.int p0), .val (.int p1), .val (.int p2), .val (.int p3), .val (.int p4), .val (.int p5), .val (.int nn), .val (.int c0), .val (.int c1), .val (.int c2), .val (.int c3), .val (.ref ca), .val (.ref st), .unset, .unset] [(.ref k1), (.int p5), (.ref rf), (.ref rf)])) (fun t_ k_ => (st573 _ k_)) ?_
          obtain ⟨k2, T592, h592, k592, X592, e592, E592, hS, Y592, hZ, hown, st592⟩ := ldcS X573 hx hZ hown (hw _ (List.mem_of_getElem? (i := 37) rfl)) hwS e573 hS Y573 (g := (mkF m 152 #[.val (.int p0), .val (.int p1), .val (.int p2), .val (.int p3), .val (.int p4), .val (.int p5), .val (.int nn), .val (.int c0), .val (.int c1), .val (.int c2), .val (.int c3), .val (.ref ca), .val (.ref st), .unset, .unset] [(.ref k1), (.int p5), (.ref rf), (.ref rf)])) rfl (Jvm.hb hby at_152) (n := 56) (by decide) (by decide) (by decide) (by decide)
          have f593 := Nat.le_trans f574 E592.1
          have f594 := f575.ext E592
          have f595 := f576.ext E592
          have f596 := f577.ext E592
          have f597 := f578.ext E592
          have f598 := f579.ext E592
          have f599 := f580.ext E592
          have f600 := f581.ext E592
          have f601 := f582.ext E592
          have f602 := f583.ext E592
          have f603 := f584.ext E592
          have f604 := f585.ext E592
          have f605 := f586.ext E592
          have f606 := f587.ext E592
          have f607 := f588.ext E592
          have f608 := f589.ext E592
          have f609 := f590.ext E592
          have f610 := f591.ext E592
          refine own_of (T' := T592) (f' := (mkF m 154 #[.val (.int p0), .val (.int p1), .val (.int p2), .val (.int p3), .val (.int p4), .val (.int p5), .val (.int nn), .val (.int c0), .val (.int c1), .val (.int c2), .val (.int c3), .val (.ref ca), .val (.ref st), .unset, .unset] [(.ref k2), (.ref k1), (.int p5), (.ref rf), (.ref rf)])) (fun t_ k_ => (st592 _ k_)) ?_
          obtain ⟨_, _, ⟨T611, L611, k611, n611⟩, -, X611, ⟨Lc611, hQ611, l611, y611, z611⟩, st611⟩ := X592.specialBack hx (y := (⟨"com/example/austere_auth/austereauth/refusal/Refusal", "<init>", "(ILjava/lang/String;Ljava/lang/String;)V"⟩ : MethodName)) rfl hown (mvT hZ (hw _ (List.mem_of_getElem? (i := 38) rfl))) (mvT hZ (hw _ (List.mem_of_getElem? (i := 39) rfl))) (mvT hZ (hw _ (List.mem_of_getElem? (i := 40) rfl))) (by decide) (backOf (W := 1) (own_rm_r3 l Z a0 hw [] rf p5 k1 k2 h592 n0 f593 f607 f608 f609 f610 f606 g_rf) hZ (hw _ (List.mem_of_getElem? (i := 40) rfl)) (hw _ (List.mem_of_getElem? (i := 33) rfl)) (by decide) (by decide)) (g := (mkF m 154 #[.val (.int p0), .val (.int p1), .val (.int p2), .val (.int p3), .val (.int p4), .val (.int p5), .val (.int nn), .val (.int c0), .val (.int c1), .val (.int c2), .val (.int c3), .val (.ref ca), .val (.ref st), .unset, .unset] [(.ref k2), (.ref k1), (.int p5), (.ref rf), (.ref rf)])) rfl (by rw [hml]; rfl) (Steps.refl _) (a := rf) (argsL := [(.int p5), (.ref k1), (.ref k2)]) (rest := [(.ref rf)]) (lenOf own_pd_16 rfl) rfl (by show 2 * 0 + _ ≤ _; exact Nat.le_of_eq rfl) (Jvm.hb hby at_154) (fun _ _ => ⟨rfl, e592, Nat.le_of_ble_eq_true rfl, Nat.le_of_ble_eq_true rfl⟩)
          dsimp only [Pt.U, Pt.locs, Pt.cells, Pt.slots] at X611 l611 y611 z611 st611 hQ611
          subst l611 y611 z611
          obtain ⟨rfl, N611, K611⟩ := hQ611
          have N612 := Fr.app N540 N611
          have f613 := Nat.le_trans f593 K611.1
          have f614 := f594.keep K611 (allS g_rf all0)
          have f615 := own_stakeep f595 K611 (allS (own_plainE f606) all0)
          have f616 := own_stakeep f596 K611 (allS (own_plainE f606) all0)
          have f617 := own_stakeep f597 K611 (allS (own_plainE f606) all0)
          have f618 := own_stakeep f598 K611 (allS (own_plainE f606) all0)
          have f619 := own_stakeep f599 K611 (allS (own_plainE f606) all0)
          have f620 := f600.keep K611
          have f621 := f601.keep K611 (ninS ne_ca_rf nin0)
          have f622 := f602.keep K611
          have f623 := f603.keep K611 (ninS ne_st_rf nin0)
          have f624 := f604.keep K611 (ninS ne_st_rf nin0)
          have f625 := f605.keep K611 (ninS ne_t539_rf nin0)
          have f626 := f606.keep K611
          have f631 := Nat.le_trans Y592 K611.1
          refine own_of (T' := T611) (f' := (mkF m 163 #[.val (.int p0), .val (.int p1), .val (.int p2), .val (.int p3), .val (.int p4), .val (.int p5), .val (.int nn), .val (.int c0), .val (.int c1), .val (.int c2), .val (.int c3), .val (.ref ca), .val (.ref st), .val (.ref rf), .unset] [(.ref rf), (.ref st)])) (fun t_ k_ => (st611.trans (XS.astore X611.here hx rfl (Jvm.hb hby at_157) rfl rfl (l' := #[.val (.int p0), .val (.int p1), .val (.int p2), .val (.int p3), .val (.int p4), .val (.int p5), .val (.int nn), .val (.int c0), .val (.int c1), .val (.int c2), .val (.int c3), .val (.ref ca), .val (.ref st), .val (.ref rf), .unset]) rfl (XS.aload X611.here hx rfl (Jvm.hb hby at_159) rfl rfl (XS.aload X611.here hx rfl (Jvm.hb hby at_161) rfl rfl k_))))) ?_
          obtain ⟨_, _, ⟨T632, L632, k632, n632⟩, -, X632, ⟨Lc632, hQ632, l632, y632, z632⟩, st632⟩ := Jvm.LawKit.callS X611 hx (y := (⟨"com/example/austere_auth/austereauth/refusal/Refusal", "requirePresent", "(Ljava/lang/String;Lcom/example/austere_auth/austereauth/refusal/Refusal;)Ljava/lang/String;"⟩ : MethodName)) hown (mvT hZ (hw _ (List.mem_of_getElem? (i := 58) rfl))) (mvT hZ (hw _ (List.mem_of_getElem? (i := 59) rfl))) (mvT hZ (hw _ (List.mem_of_getElem? (i := 33) rfl))) (mvT hZ (hw _ (List.mem_of_getElem? (i := 60) rfl))) (by decide) (backOf (W := 0) (own_rm_req l Z a0 hw [] st rf t539 kt539 ([c0, c1, c2] : List Int32) (0 : Int32) (3 : Int32) [(.int (StrChars.lo8 c0)), (.int (StrChars.lo8 c1)), (.int (StrChars.lo8 c2))] T611.heap n0 f613 f622 f624 f623 f625 hco hr (Nat.le_of_ble_eq_true rfl) (by simp)) hZ (hw _ (List.mem_of_getElem? (i := 60) rfl)) (hw _ (List.mem_of_getElem? (i := 33) rfl)) (by decide) (by decide)) (g := (mkF m 163 #[.val (.int p0), .val (.int p1), .val (.int p2), .val (.int p3), .val (.int p4), .val (.int p5), .val (.int nn), .val (.int c0), .val (.int c1), .val (.int c2), .val (.int c3), .val (.ref ca), .val (.ref st), .val (.ref rf), .unset] [(.ref rf), (.ref st)])) rfl (by rw [hml]; rfl) (argsL := [(.ref st), (.ref rf)]) (rest := []) (lenOf own_pd_17 rfl) rfl (by show 2 * 0 + _ ≤ _; exact Nat.le_of_eq rfl) (Jvm.hb hby at_163) (fun _ _ => ⟨rfl, rfl, Nat.le_of_ble_eq_true rfl, Nat.le_of_ble_eq_true rfl⟩)
          dsimp only [Pt.U, Pt.locs, Pt.cells, Pt.slots] at X632 l632 y632 z632 st632 hQ632
          subst l632 y632 z632
          obtain ⟨rfl, N632, e632⟩ := hQ632
          have N633 := Fr.app N612 N632
          refine own_of (T' := T632) (f' := (mkF m 177 #[.val (.int p0), .val (.int p1), .val (.int p2), .val (.int p3), .val (.int p4), .val (.int p5), .val (.int nn), .val (.int c0), .val (.int c1), .val (.int c2), .val (.int c3), .val (.ref ca), .val (.ref st), .val (.ref rf), .val (.ref st)] [(.ref st)])) (fun t_ k_ => (st632 _ (XS.astore X632.here hx rfl (Jvm.hb hby at_166) rfl rfl (l' := #[.val (.int p0), .val (.int p1), .val (.int p2), .val (.int p3), .val (.int p4), .val (.int p5), .val (.int nn), .val (.int c0), .val (.int c1), .val (.int c2), .val (.int c3), .val (.ref ca), .val (.ref st), .val (.ref rf), .val (.ref st)]) rfl (XS.aload X632.here hx rfl (Jvm.hb hby at_168) rfl rfl (XS.aload X632.here hx rfl (Jvm.hb hby at_170) rfl rfl (Jvm.RoadKit.acmp (g := (mkF m 172 #[.val (.int p0), .val (.int p1), .val (.int p2), .val (.int p3), .val (.int p4), .val (.int p5), .val (.int nn), .val (.int c0), .val (.int c1), .val (.int c2), .val (.int c3), .val (.ref ca), .val (.ref st), .val (.ref rf), .val (.ref st)] [(.ref st), (.ref st)])) X632 hx rfl rfl rfl (pc0 := 172) (pc' := 175) (same := true) rfl (Jvm.hb hby at_172) rfl (decide_eq_true rfl) (by decide) (by decide) (XS.aload X632.here hx rfl (Jvm.hb hby at_175) rfl rfl k_))))))) ?_
          have hwL : ∀ d ∈ StrChars.Road.wordsLen, d.before a0 Z = true := fun d hd => hw d (own_wLen d hd)
          have hwC : ∀ d ∈ StrChars.Road.wordsChN, d.before a0 Z = true := fun d hd => hw d (own_wChN d hd)
          obtain ⟨cq635, kq635, q635a, q635b, q635c⟩ := isOf hZ e632 f622
          obtain ⟨_, _, ⟨T634, L634, k634, n634⟩, -, X634, ⟨Lc634, hQ634, l634, y634, z634⟩, st634⟩ := X632.virtualBack hx (y := (⟨"java/lang/String", "length", "()I"⟩ : MethodName)) (z := (⟨"java/lang/String", "length", "()I"⟩ : MethodName)) hown (mvT hZ (hw _ (List.mem_of_getElem? (i := 66) rfl))) (mvT hZ (hw _ (List.mem_of_getElem? (i := 67) rfl))) (notFace_of_selects (args := #[]) (mvT hZ (hw _ (List.mem_of_getElem? (i := 69) rfl)))) (mvT hZ (hw _ (List.mem_of_getElem? (i := 69) rfl))) (mvT hZ (hw _ (List.mem_of_getElem? (i := 68) rfl))) (by decide) (StrChars.Road.lenW (W := 0) hZ hwL (kI := 4) (hw _ (List.mem_of_getElem? (i := 3) rfl)) f622 f624 f623 f625 hco hr f615 P5 (Nat.le_of_ble_eq_true rfl) (by decide) (by decide)) q635a q635c (g := (mkF m 177 #[.val (.int p0), .val (.int p1), .val (.int p2), .val (.int p3), .val (.int p4), .val (.int p5), .val (.int nn), .val (.int c0), .val (.int c1), .val (.int c2), .val (.int c3), .val (.ref ca), .val (.ref st), .val (.ref rf), .val (.ref st)] [(.ref st)])) rfl (by rw [hml]; rfl) (Steps.refl _) (argsL := []) (rest := []) (lenOf own_pd_18 rfl) rfl (by show 2 * 0 + _ ≤ _; exact Nat.le_of_eq rfl) (Jvm.hb hby at_177) (fun _ _ => ⟨rfl, e632, Nat.le_of_ble_eq_true rfl, Nat.le_of_ble_eq_true rfl⟩)
          dsimp only [Pt.U, Pt.locs, Pt.cells, Pt.slots] at X634 l634 y634 z634 st634 hQ634
          subst l634 y634 z634
          obtain ⟨rfl, rfl, e634⟩ := hQ634
          have N634 : Fr n0 ([] : List Loc) := Fr.nil n0
          have N636 := Fr.app N633 N634
          refine own_of (T' := T634) (f' := (mkF m 188 #[.val (.int p0), .val (.int p1), .val (.int p2), .val (.int p3), .val (.int p4), .val (.int p5), .val (.int nn), .val (.int c0), .val (.int c1), .val (.int c2), .val (.int c3), .val (.ref ca), .val (.ref st), .val (.ref rf), .val (.ref st)] [(.int (0 : Int32)), (.ref st)])) (fun t_ k_ => (st634.trans (XS.iload X634.here hx rfl (Jvm.hb hby at_180) rfl (XS.icmpNo X634.here hx rfl (Jvm.hb hby at_182) rfl (teq hn).2 (XS.aload X634.here hx rfl (Jvm.hb hby at_185) rfl rfl (XS.iconst X634.here hx rfl (Jvm.hb hby at_187) k_)))))) ?_
          obtain ⟨cq638, kq638, q638a, q638b, q638c⟩ := isOf hZ e634 f622
          obtain ⟨_, _, ⟨T637, L637, k637, n637⟩, -, X637, ⟨Lc637, hQ637, l637, y637, z637⟩, st637⟩ := X634.virtualBack hx (y := (⟨"java/lang/String", "charAt", "(I)C"⟩ : MethodName)) (z := (⟨"java/lang/String", "charAt", "(I)C"⟩ : MethodName)) hown (mvT hZ (hw _ (List.mem_of_getElem? (i := 76) rfl))) (mvT hZ (hw _ (List.mem_of_getElem? (i := 77) rfl))) (notFace_of_selects (args := #[]) (mvT hZ (hw _ (List.mem_of_getElem? (i := 79) rfl)))) (mvT hZ (hw _ (List.mem_of_getElem? (i := 79) rfl))) (mvT hZ (hw _ (List.mem_of_getElem? (i := 78) rfl))) (by decide) (StrChars.Road.chN (W := 0) hZ hwC (kI := 4) (i := 0) (j := (0 : Int32)) (hw _ (List.mem_of_getElem? (i := 3) rfl)) f622 f624 f623 f625 hco hr f615 P5 f616 rfm (Nat.le_of_ble_eq_true rfl) (by simp) rfl (by decide) (by decide)) q638a q638c (g := (mkF m 188 #[.val (.int p0), .val (.int p1), .val (.int p2), .val (.int p3), .val (.int p4), .val (.int p5), .val (.int nn), .val (.int c0), .val (.int c1), .val (.int c2), .val (.int c3), .val (.ref ca), .val (.ref st), .val (.ref rf), .val (.ref st)] [(.int (0 : Int32)), (.ref st)])) rfl (by rw [hml]; rfl) (Steps.refl _) (argsL := [(.int (0 : Int32))]) (rest := []) (lenOf own_pd_19 rfl) rfl (by show 2 * 0 + _ ≤ _; exact Nat.le_of_eq rfl) (Jvm.hb hby at_188) (fun _ _ => ⟨rfl, e634, Nat.le_of_ble_eq_true rfl, Nat.le_of_ble_eq_true rfl⟩)
          dsimp only [Pt.U, Pt.locs, Pt.cells, Pt.slots] at X637 l637 y637 z637 st637 hQ637
          subst l637 y637 z637
          obtain ⟨rfl, rfl, e637⟩ := hQ637
          have N637 : Fr n0 ([] : List Loc) := Fr.nil n0
          have N639 := Fr.app N636 N637
          refine own_of (T' := T637) (f' := (mkF m 201 #[.val (.int p0), .val (.int p1), .val (.int p2), .val (.int p3), .val (.int p4), .val (.int p5), .val (.int nn), .val (.int c0), .val (.int c1), .val (.int c2), .val (.int c3), .val (.ref ca), .val (.ref st), .val (.ref rf), .val (.ref st)] [(.int (1 : Int32))])) (fun t_ k_ => (st637.trans (XS.iload X637.here hx rfl (Jvm.hb hby at_191) rfl (XS.icmpNo X637.here hx rfl (Jvm.hb hby at_193) rfl (teq rfl).2 (XS.iconst X637.here hx rfl (Jvm.hb hby at_196) (XS.goto X637.here hx rfl (pc0 := 197) (pc' := 201) rfl (Jvm.hb hby at_197) (by decide) (by decide) k_)))))) ?_
          obtain ⟨fs, hr, hrun, hended, hEnd⟩ := X637.leaveW hS (by rw [e637]; exact f631) (v := some (.int (1 : Int32))) (fun h => by rw [Bd.returns] at h; cases h)
          exact ⟨_, _, retN X637 hx (t := .boolean) Bd.returns (by simp) (Jvm.hb hby at_201) hr, hrun, hended, _, _, rfl, (by show own_Q_0 Z p0 p1 p2 p3 p4 p5 G1 fm h0 n0 _ T637.heap _; rw [e637]; exact ⟨rfl, N639⟩), hEnd.1, hEnd.2.1, hEnd.2.2.1, hEnd.2.2.2.mono (by decide) (by decide)⟩
        · skip
          have hwd : (255 : Int32) < c0 ∨ (255 : Int32) < c1 ∨ (255 : Int32) < c2 := by
            apply Decidable.byContradiction
            intro q
            apply hnw
            intro c hc z
            apply q
            simp only [List.mem_cons, List.not_mem_nil, or_false] at hc
            rcases hc with rfl | rfl | rfl
            · exact Or.inl z
            · exact Or.inr (Or.inl z)
            · exact Or.inr (Or.inr (z))
          obtain ⟨_, _, ⟨T640, L640, k640, n640⟩, -, X640, ⟨Lc640, hQ640, l640, y640, z640⟩, st640⟩ := X526.specialBack hx (y := (⟨"java/lang/String", "<init>", "([C)V"⟩ : MethodName)) rfl hown (mvT hZ (hw _ (List.mem_of_getElem? (i := 5) rfl))) (mvT hZ (hw _ (List.mem_of_getElem? (i := 6) rfl))) (mvT hZ (hw _ (List.mem_of_getElem? (i := 7) rfl))) (by decide) (backOf (W := 1) (own_rm_cini3 l Z a0 hw [] st ca c0 c1 c2 k477 G1 h526 n0 f528 f538 f537 A526 g_st f532 f533 f534 f530 P5 f536 (Ne.symm ne_ca_st) hr hwd) hZ (hw _ (List.mem_of_getElem? (i := 7) rfl)) (hw _ (List.mem_of_getElem? (i := 4) rfl)) (by decide) (by decide)) (g := (mkF m 139 #[.val (.int p0), .val (.int p1), .val (.int p2), .val (.int p3), .val (.int p4), .val (.int p5), .val (.int nn), .val (.int c0), .val (.int c1), .val (.int c2), .val (.int c3), .val (.ref ca), .unset, .unset, .unset] [(.ref ca), (.ref st), (.ref st)])) rfl (by rw [hml]; rfl) (Steps.refl _) (a := st) (argsL := [(.ref ca)]) (rest := [(.ref st)]) (lenOf own_pd_15 rfl) rfl (by show 2 * 0 + _ ≤ _; exact Nat.le_of_eq rfl) (Jvm.hb hby at_139) (fun _ _ => ⟨rfl, e526, Nat.le_of_ble_eq_true rfl, Nat.le_of_ble_eq_true rfl⟩)
          dsimp only [Pt.U, Pt.locs, Pt.cells, Pt.slots] at X640 l640 y640 z640 st640 hQ640
          subst l640 y640 z640
          obtain ⟨rfl, N640, K640, q1, q2, tb, kt, q3, q4⟩ := hQ640
          have N641 := Fr.app N514 N640
          have f642 := Nat.le_trans f527 K640.1
          have f643 := Nat.le_trans f528 K640.1
          have f644 := f529.keep K640 (allS g_st all0)
          have f645 := own_stakeep f530 K640 (allS (own_plainE A526) all0)
          have f646 := own_stakeep f531 K640 (allS (own_plainE A526) all0)
          have f647 := own_stakeep f532 K640 (allS (own_plainE A526) all0)
          have f648 := own_stakeep f533 K640 (allS (own_plainE A526) all0)
          have f649 := own_stakeep f534 K640 (allS (own_plainE A526) all0)
          have f650 := f535.keep K640
          have f651 := f536.keep K640 (ninS ne_ca_st nin0)
          have f652 := A526.keep K640
          refine own_of (T' := T640) (f' := (mkF m 142 #[.val (.int p0), .val (.int p1), .val (.int p2), .val (.int p3), .val (.int p4), .val (.int p5), .val (.int nn), .val (.int c0), .val (.int c1), .val (.int c2), .val (.int c3), .val (.ref ca), .unset, .unset, .unset] [(.ref st)])) (fun t_ k_ => (st640.trans k_)) ?_
          have hco : StrChars.Road.CodA ([c0, c1, c2] : List Int32) 1 (6 : Int32) [(.int (StrChars.lo8 c0)), (.int (StrChars.hi8 c0)), (.int (StrChars.lo8 c1)), (.int (StrChars.hi8 c1)), (.int (StrChars.lo8 c2)), (.int (StrChars.hi8 c2))] := Or.inr ⟨rfl, rfl, rfl, by
            rcases hwd with z | z | z
            · exact ⟨c0, by simp, z⟩
            · exact ⟨c1, by simp, z⟩
            · exact ⟨c2, by simp, z⟩⟩
          have ltb := q4.lt
          refine own_of (T' := T640) (f' := (mkF m 144 #[.val (.int p0), .val (.int p1), .val (.int p2), .val (.int p3), .val (.int p4), .val (.int p5), .val (.int nn), .val (.int c0), .val (.int c1), .val (.int c2), .val (.int c3), .val (.ref ca), .val (.ref st), .unset, .unset] [])) (fun t_ k_ => (XS.astore X640.here hx rfl (Jvm.hb hby at_142) rfl rfl (l' := #[.val (.int p0), .val (.int p1), .val (.int p2), .val (.int p3), .val (.int p4), .val (.int p5), .val (.int nn), .val (.int c0), .val (.int c1), .val (.int c2), .val (.int c3), .val (.ref ca), .val (.ref st), .unset, .unset]) rfl k_)) ?_
          obtain ⟨T655, h655, X655, e655, E655, A655, D655, -, st655⟩ := newO X640 hx hZ hown (hw _ (List.mem_of_getElem? (i := 31) rfl)) (hw _ (List.mem_of_getElem? (i := 32) rfl)) (hw _ (List.mem_of_getElem? (i := 33) rfl)) rfl (g := (mkF m 144 #[.val (.int p0), .val (.int p1), .val (.int p2), .val (.int p3), .val (.int p4), .val (.int p5), .val (.int nn), .val (.int c0), .val (.int c1), .val (.int c2), .val (.int c3), .val (.ref ca), .val (.ref st), .unset, .unset] [])) rfl (Jvm.hb hby at_144) (by decide) (by decide)
          obtain ⟨rf, g655⟩ : ∃ z, z = T640.heap.size := ⟨_, rfl⟩
          rw [← g655] at A655 D655 st655
          have ne_st_rf : st ≠ rf := by rw [g655]; exact Nat.ne_of_lt q1.lt
          have ne_tb_rf : tb ≠ rf := by rw [g655]; exact Nat.ne_of_lt q4.lt
          have g_rf : n0 ≤ rf := Nat.le_trans f643 (Nat.le_of_eq g655.symm)
          have f656 := Nat.le_trans f642 E655.1
          have f657 := Nat.le_trans f643 E655.1
          have f658 := f644.ext E655
          have f659 := f645.ext E655
          have f660 := f646.ext E655
          have f661 := f647.ext E655
          have f662 := f648.ext E655
          have f663 := f649.ext E655
          have f664 := q1.ext E655
          have f665 := q2.ext E655
          have f666 := q3.ext E655
          have f667 := q4.ext E655
          have f668 : Fld Z h655 rf "com/example/austere_auth/austereauth/refusal/Refusal" "status" "I" (.int (0 : Int32)) := D655 (Or.inr (hw _ (List.mem_of_getElem? (i := 51) rfl))) (ty := .int) (by decide)
          have f669 : Fld Z h655 rf "com/example/austere_auth/austereauth/refusal/Refusal" "error" "Ljava/lang/String;" .null := D655 (Or.inr (hw _ (List.mem_of_getElem? (i := 53) rfl))) (ty := (.object "java/lang/String")) (by decide)
          have f670 : Fld Z h655 rf "com/example/austere_auth/austereauth/refusal/Refusal" "description" "Ljava/lang/String;" .null := D655 (Or.inr (hw _ (List.mem_of_getElem? (i := 55) rfl))) (ty := (.object "java/lang/String")) (by decide)
          have f671 : Fld Z h655 rf "com/example/austere_auth/austereauth/refusal/Refusal" "scope" "Ljava/lang/String;" .null := D655 (Or.inr (hw _ (List.mem_of_getElem? (i := 57) rfl))) (ty := (.object "java/lang/String")) (by decide)
          refine own_of (T' := T655) (f' := (mkF m 150 #[.val (.int p0), .val (.int p1), .val (.int p2), .val (.int p3), .val (.int p4), .val (.int p5), .val (.int nn), .val (.int c0), .val (.int c1), .val (.int c2), .val (.int c3), .val (.ref ca), .val (.ref st), .unset, .unset] [(.int p5), (.ref rf), (.ref rf)])) (fun t_ k_ => (st655 _ (XS.dup X655.here hx rfl (Jvm.hb hby at_147) rfl rfl (XS.iload X655.here hx rfl (Jvm.hb hby at_148) rfl k_)))) ?_
          obtain ⟨k1, T672, h672, k672, X672, e672, E672, hS, Y672, hZ, hown, st672⟩ := ldcS X655 hx hZ hown (hw _ (List.mem_of_getElem? (i := 34) rfl)) hwS e655 hS f656 (g := (mkF m 150 #[.val (.int p0), .val (.int p1), .val (.int p2), .val (.int p3), .val (.int p4), .val (.int p5), .val (.int nn), .val (.int c0), .val (.int c1), .val (.int c2), .val (.int c3), .val (.ref ca), .val (.ref st), .unset, .unset] [(.int p5), (.ref rf), (.ref rf)])) rfl (Jvm.hb hby at_150) (n := 60) (by decide) (by decide) (by decide) (by decide)
          have f673 := Nat.le_trans f657 E672.1
          have f674 := f658.ext E672
          have f675 := f659.ext E672
          have f676 := f660.ext E672
          have f677 := f661.ext E672
          have f678 := f662.ext E672
          have f679 := f663.ext E672
          have f680 := f664.ext E672
          have f681 := f665.ext E672
          have f682 := f666.ext E672
          have f683 := f667.ext E672
          have f684 := A655.ext E672
          have f685 := f668.ext E672
          have f686 := f669.ext E672
          have f687 := f670.ext E672
          have f688 := f671.ext E672
          refine own_of (T' := T672) (f' := (mkF m 152 #[.val (.int p0), .val (.int p1), .val (.int p2), .val (.int p3), .val (.int p4), .val (.int p5), .val (.int nn), .val (.int c0), .val (.int c1), .val (.int c2), .val (.int c3), .val (.ref ca), .val (.ref st), .unset, .unset] [(.ref k1), (.int p5), (.ref rf), (.ref rf)])) (fun t_ k_ => (st672 _ k_)) ?_
          obtain ⟨k2, T689, h689, k689, X689, e689, E689, hS, Y689, hZ, hown, st689⟩ := ldcS X672 hx hZ hown (hw _ (List.mem_of_getElem? (i := 37) rfl)) hwS e672 hS Y672 (g := (mkF m 152 #[.val (.int p0), .val (.int p1), .val (.int p2), .val (.int p3), .val (.int p4), .val (.int p5), .val (.int nn), .val (.int c0), .val (.int c1), .val (.int c2), .val (.int c3), .val (.ref ca), .val (.ref st), .unset, .unset] [(.ref k1), (.int p5), (.ref rf), (.ref rf)])) rfl (Jvm.hb hby at_152) (n := 56) (by decide) (by decide) (by decide) (by decide)
          have f690 := Nat.le_trans f673 E689.1
          have f691 := f674.ext E689
          have f692 := f675.ext E689
          have f693 := f676.ext E689
          have f694 := f677.ext E689
          have f695 := f678.ext E689
          have f696 := f679.ext E689
          have f697 := f680.ext E689
          have f698 := f681.ext E689
          have f699 := f682.ext E689
          have f700 := f683.ext E689
          have f701 := f684.ext E689
          have f702 := f685.ext E689
          have f703 := f686.ext E689
          have f704 := f687.ext E689
          have f705 := f688.ext E689
          refine own_of (T' := T689) (f' := (mkF m 154 #[.val (.int p0), .val (.int p1), .val (.int p2), .val (.int p3), .val (.int p4), .val (.int p5), .val (.int nn), .val (.int c0), .val (.int c1), .val (.int c2), .val (.int c3), .val (.ref ca), .val (.ref st), .unset, .unset] [(.ref k2), (.ref k1), (.int p5), (.ref rf), (.ref rf)])) (fun t_ k_ => (st689 _ k_)) ?_
          obtain ⟨_, _, ⟨T706, L706, k706, n706⟩, -, X706, ⟨Lc706, hQ706, l706, y706, z706⟩, st706⟩ := X689.specialBack hx (y := (⟨"com/example/austere_auth/austereauth/refusal/Refusal", "<init>", "(ILjava/lang/String;Ljava/lang/String;)V"⟩ : MethodName)) rfl hown (mvT hZ (hw _ (List.mem_of_getElem? (i := 38) rfl))) (mvT hZ (hw _ (List.mem_of_getElem? (i := 39) rfl))) (mvT hZ (hw _ (List.mem_of_getElem? (i := 40) rfl))) (by decide) (backOf (W := 1) (own_rm_r3 l Z a0 hw [] rf p5 k1 k2 h689 n0 f690 f702 f703 f704 f705 f701 g_rf) hZ (hw _ (List.mem_of_getElem? (i := 40) rfl)) (hw _ (List.mem_of_getElem? (i := 33) rfl)) (by decide) (by decide)) (g := (mkF m 154 #[.val (.int p0), .val (.int p1), .val (.int p2), .val (.int p3), .val (.int p4), .val (.int p5), .val (.int nn), .val (.int c0), .val (.int c1), .val (.int c2), .val (.int c3), .val (.ref ca), .val (.ref st), .unset, .unset] [(.ref k2), (.ref k1), (.int p5), (.ref rf), (.ref rf)])) rfl (by rw [hml]; rfl) (Steps.refl _) (a := rf) (argsL := [(.int p5), (.ref k1), (.ref k2)]) (rest := [(.ref rf)]) (lenOf own_pd_16 rfl) rfl (by show 2 * 0 + _ ≤ _; exact Nat.le_of_eq rfl) (Jvm.hb hby at_154) (fun _ _ => ⟨rfl, e689, Nat.le_of_ble_eq_true rfl, Nat.le_of_ble_eq_true rfl⟩)
          dsimp only [Pt.U, Pt.locs, Pt.cells, Pt.slots] at X706 l706 y706 z706 st706 hQ706
          subst l706 y706 z706
          obtain ⟨rfl, N706, K706⟩ := hQ706
          have N707 := Fr.app N641 N706
          have f708 := Nat.le_trans f690 K706.1
          have f709 := f691.keep K706 (allS g_rf all0)
          have f710 := own_stakeep f692 K706 (allS (own_plainE f701) all0)
          have f711 := own_stakeep f693 K706 (allS (own_plainE f701) all0)
          have f712 := own_stakeep f694 K706 (allS (own_plainE f701) all0)
          have f713 := own_stakeep f695 K706 (allS (own_plainE f701) all0)
          have f714 := own_stakeep f696 K706 (allS (own_plainE f701) all0)
          have f715 := f697.keep K706
          have f716 := f698.keep K706 (ninS ne_st_rf nin0)
          have f717 := f699.keep K706 (ninS ne_st_rf nin0)
          have f718 := f700.keep K706 (ninS ne_tb_rf nin0)
          have f719 := f701.keep K706
          have f724 := Nat.le_trans Y689 K706.1
          refine own_of (T' := T706) (f' := (mkF m 163 #[.val (.int p0), .val (.int p1), .val (.int p2), .val (.int p3), .val (.int p4), .val (.int p5), .val (.int nn), .val (.int c0), .val (.int c1), .val (.int c2), .val (.int c3), .val (.ref ca), .val (.ref st), .val (.ref rf), .unset] [(.ref rf), (.ref st)])) (fun t_ k_ => (st706.trans (XS.astore X706.here hx rfl (Jvm.hb hby at_157) rfl rfl (l' := #[.val (.int p0), .val (.int p1), .val (.int p2), .val (.int p3), .val (.int p4), .val (.int p5), .val (.int nn), .val (.int c0), .val (.int c1), .val (.int c2), .val (.int c3), .val (.ref ca), .val (.ref st), .val (.ref rf), .unset]) rfl (XS.aload X706.here hx rfl (Jvm.hb hby at_159) rfl rfl (XS.aload X706.here hx rfl (Jvm.hb hby at_161) rfl rfl k_))))) ?_
          obtain ⟨_, _, ⟨T725, L725, k725, n725⟩, -, X725, ⟨Lc725, hQ725, l725, y725, z725⟩, st725⟩ := Jvm.LawKit.callS X706 hx (y := (⟨"com/example/austere_auth/austereauth/refusal/Refusal", "requirePresent", "(Ljava/lang/String;Lcom/example/austere_auth/austereauth/refusal/Refusal;)Ljava/lang/String;"⟩ : MethodName)) hown (mvT hZ (hw _ (List.mem_of_getElem? (i := 58) rfl))) (mvT hZ (hw _ (List.mem_of_getElem? (i := 59) rfl))) (mvT hZ (hw _ (List.mem_of_getElem? (i := 33) rfl))) (mvT hZ (hw _ (List.mem_of_getElem? (i := 60) rfl))) (by decide) (backOf (W := 0) (own_rm_req l Z a0 hw [] st rf tb kt ([c0, c1, c2] : List Int32) (1 : Int32) (6 : Int32) [(.int (StrChars.lo8 c0)), (.int (StrChars.hi8 c0)), (.int (StrChars.lo8 c1)), (.int (StrChars.hi8 c1)), (.int (StrChars.lo8 c2)), (.int (StrChars.hi8 c2))] T706.heap n0 f708 f715 f717 f716 f718 hco hr (Nat.le_of_ble_eq_true rfl) (by simp)) hZ (hw _ (List.mem_of_getElem? (i := 60) rfl)) (hw _ (List.mem_of_getElem? (i := 33) rfl)) (by decide) (by decide)) (g := (mkF m 163 #[.val (.int p0), .val (.int p1), .val (.int p2), .val (.int p3), .val (.int p4), .val (.int p5), .val (.int nn), .val (.int c0), .val (.int c1), .val (.int c2), .val (.int c3), .val (.ref ca), .val (.ref st), .val (.ref rf), .unset] [(.ref rf), (.ref st)])) rfl (by rw [hml]; rfl) (argsL := [(.ref st), (.ref rf)]) (rest := []) (lenOf own_pd_17 rfl) rfl (by show 2 * 0 + _ ≤ _; exact Nat.le_of_eq rfl) (Jvm.hb hby at_163) (fun _ _ => ⟨rfl, rfl, Nat.le_of_ble_eq_true rfl, Nat.le_of_ble_eq_true rfl⟩)
          dsimp only [Pt.U, Pt.locs, Pt.cells, Pt.slots] at X725 l725 y725 z725 st725 hQ725
          subst l725 y725 z725
          obtain ⟨rfl, N725, e725⟩ := hQ725
          have N726 := Fr.app N707 N725
          refine own_of (T' := T725) (f' := (mkF m 177 #[.val (.int p0), .val (.int p1), .val (.int p2), .val (.int p3), .val (.int p4), .val (.int p5), .val (.int nn), .val (.int c0), .val (.int c1), .val (.int c2), .val (.int c3), .val (.ref ca), .val (.ref st), .val (.ref rf), .val (.ref st)] [(.ref st)])) (fun t_ k_ => (st725 _ (XS.astore X725.here hx rfl (Jvm.hb hby at_166) rfl rfl (l' := #[.val (.int p0), .val (.int p1), .val (.int p2), .val (.int p3), .val (.int p4), .val (.int p5), .val (.int nn), .val (.int c0), .val (.int c1), .val (.int c2), .val (.int c3), .val (.ref ca), .val (.ref st), .val (.ref rf), .val (.ref st)]) rfl (XS.aload X725.here hx rfl (Jvm.hb hby at_168) rfl rfl (XS.aload X725.here hx rfl (Jvm.hb hby at_170) rfl rfl (Jvm.RoadKit.acmp (g := (mkF m 172 #[.val (.int p0), .val (.int p1), .val (.int p2), .val (.int p3), .val (.int p4), .val (.int p5), .val (.int nn), .val (.int c0), .val (.int c1), .val (.int c2), .val (.int c3), .val (.ref ca), .val (.ref st), .val (.ref rf), .val (.ref st)] [(.ref st), (.ref st)])) X725 hx rfl rfl rfl (pc0 := 172) (pc' := 175) (same := true) rfl (Jvm.hb hby at_172) rfl (decide_eq_true rfl) (by decide) (by decide) (XS.aload X725.here hx rfl (Jvm.hb hby at_175) rfl rfl k_))))))) ?_
          have hwL : ∀ d ∈ StrChars.Road.wordsLen, d.before a0 Z = true := fun d hd => hw d (own_wLen d hd)
          have hwC : ∀ d ∈ StrChars.Road.wordsChN, d.before a0 Z = true := fun d hd => hw d (own_wChN d hd)
          obtain ⟨cq728, kq728, q728a, q728b, q728c⟩ := isOf hZ e725 f715
          obtain ⟨_, _, ⟨T727, L727, k727, n727⟩, -, X727, ⟨Lc727, hQ727, l727, y727, z727⟩, st727⟩ := X725.virtualBack hx (y := (⟨"java/lang/String", "length", "()I"⟩ : MethodName)) (z := (⟨"java/lang/String", "length", "()I"⟩ : MethodName)) hown (mvT hZ (hw _ (List.mem_of_getElem? (i := 66) rfl))) (mvT hZ (hw _ (List.mem_of_getElem? (i := 67) rfl))) (notFace_of_selects (args := #[]) (mvT hZ (hw _ (List.mem_of_getElem? (i := 69) rfl)))) (mvT hZ (hw _ (List.mem_of_getElem? (i := 69) rfl))) (mvT hZ (hw _ (List.mem_of_getElem? (i := 68) rfl))) (by decide) (StrChars.Road.lenW (W := 0) hZ hwL (kI := 4) (hw _ (List.mem_of_getElem? (i := 3) rfl)) f715 f717 f716 f718 hco hr f710 P5 (Nat.le_of_ble_eq_true rfl) (by decide) (by decide)) q728a q728c (g := (mkF m 177 #[.val (.int p0), .val (.int p1), .val (.int p2), .val (.int p3), .val (.int p4), .val (.int p5), .val (.int nn), .val (.int c0), .val (.int c1), .val (.int c2), .val (.int c3), .val (.ref ca), .val (.ref st), .val (.ref rf), .val (.ref st)] [(.ref st)])) rfl (by rw [hml]; rfl) (Steps.refl _) (argsL := []) (rest := []) (lenOf own_pd_18 rfl) rfl (by show 2 * 0 + _ ≤ _; exact Nat.le_of_eq rfl) (Jvm.hb hby at_177) (fun _ _ => ⟨rfl, e725, Nat.le_of_ble_eq_true rfl, Nat.le_of_ble_eq_true rfl⟩)
          dsimp only [Pt.U, Pt.locs, Pt.cells, Pt.slots] at X727 l727 y727 z727 st727 hQ727
          subst l727 y727 z727
          obtain ⟨rfl, rfl, e727⟩ := hQ727
          have N727 : Fr n0 ([] : List Loc) := Fr.nil n0
          have N729 := Fr.app N726 N727
          refine own_of (T' := T727) (f' := (mkF m 188 #[.val (.int p0), .val (.int p1), .val (.int p2), .val (.int p3), .val (.int p4), .val (.int p5), .val (.int nn), .val (.int c0), .val (.int c1), .val (.int c2), .val (.int c3), .val (.ref ca), .val (.ref st), .val (.ref rf), .val (.ref st)] [(.int (0 : Int32)), (.ref st)])) (fun t_ k_ => (st727.trans (XS.iload X727.here hx rfl (Jvm.hb hby at_180) rfl (XS.icmpNo X727.here hx rfl (Jvm.hb hby at_182) rfl (teq hn).2 (XS.aload X727.here hx rfl (Jvm.hb hby at_185) rfl rfl (XS.iconst X727.here hx rfl (Jvm.hb hby at_187) k_)))))) ?_
          obtain ⟨cq731, kq731, q731a, q731b, q731c⟩ := isOf hZ e727 f715
          obtain ⟨_, _, ⟨T730, L730, k730, n730⟩, -, X730, ⟨Lc730, hQ730, l730, y730, z730⟩, st730⟩ := X727.virtualBack hx (y := (⟨"java/lang/String", "charAt", "(I)C"⟩ : MethodName)) (z := (⟨"java/lang/String", "charAt", "(I)C"⟩ : MethodName)) hown (mvT hZ (hw _ (List.mem_of_getElem? (i := 76) rfl))) (mvT hZ (hw _ (List.mem_of_getElem? (i := 77) rfl))) (notFace_of_selects (args := #[]) (mvT hZ (hw _ (List.mem_of_getElem? (i := 79) rfl)))) (mvT hZ (hw _ (List.mem_of_getElem? (i := 79) rfl))) (mvT hZ (hw _ (List.mem_of_getElem? (i := 78) rfl))) (by decide) (backOf (W := 0) (own_rm_cha l Z a0 hw [] st (0 : Int32) kt (6 : Int32) [(.int (StrChars.lo8 c0)), (.int (StrChars.hi8 c0)), (.int (StrChars.lo8 c1)), (.int (StrChars.hi8 c1)), (.int (StrChars.lo8 c2)), (.int (StrChars.hi8 c2))] fm c0 tb G1 T706.heap n0 f708 f712 f713 f714 f710 P5 f715 f717 f716 f718 f711 rfm rfl rfl rc0 rfl (by decide) (by decide) (by decide)) hZ (hw _ (List.mem_of_getElem? (i := 80) rfl)) (hw _ (List.mem_of_getElem? (i := 4) rfl)) (by decide) (by decide)) q731a q731c (g := (mkF m 188 #[.val (.int p0), .val (.int p1), .val (.int p2), .val (.int p3), .val (.int p4), .val (.int p5), .val (.int nn), .val (.int c0), .val (.int c1), .val (.int c2), .val (.int c3), .val (.ref ca), .val (.ref st), .val (.ref rf), .val (.ref st)] [(.int (0 : Int32)), (.ref st)])) rfl (by rw [hml]; rfl) (Steps.refl _) (argsL := [(.int (0 : Int32))]) (rest := []) (lenOf own_pd_19 rfl) rfl (by show 2 * 0 + _ ≤ _; exact Nat.le_of_eq rfl) (Jvm.hb hby at_188) (fun _ _ => ⟨rfl, e727, Nat.le_of_ble_eq_true rfl, Nat.le_of_ble_eq_true rfl⟩)
          dsimp only [Pt.U, Pt.locs, Pt.cells, Pt.slots] at X730 l730 y730 z730 st730 hQ730
          subst l730 y730 z730
          obtain ⟨rfl, N730, e730⟩ := hQ730
          have N732 := Fr.app N729 N730
          refine own_of (T' := T730) (f' := (mkF m 201 #[.val (.int p0), .val (.int p1), .val (.int p2), .val (.int p3), .val (.int p4), .val (.int p5), .val (.int nn), .val (.int c0), .val (.int c1), .val (.int c2), .val (.int c3), .val (.ref ca), .val (.ref st), .val (.ref rf), .val (.ref st)] [(.int (1 : Int32))])) (fun t_ k_ => (st730.trans (XS.iload X730.here hx rfl (Jvm.hb hby at_191) rfl (XS.icmpNo X730.here hx rfl (Jvm.hb hby at_193) rfl (teq rfl).2 (XS.iconst X730.here hx rfl (Jvm.hb hby at_196) (XS.goto X730.here hx rfl (pc0 := 197) (pc' := 201) rfl (Jvm.hb hby at_197) (by decide) (by decide) k_)))))) ?_
          obtain ⟨fs, hr, hrun, hended, hEnd⟩ := X730.leaveW hS (by rw [e730]; exact f724) (v := some (.int (1 : Int32))) (fun h => by rw [Bd.returns] at h; cases h)
          exact ⟨_, _, retN X730 hx (t := .boolean) Bd.returns (by simp) (Jvm.hb hby at_201) hr, hrun, hended, _, _, rfl, (by show own_Q_0 Z p0 p1 p2 p3 p4 p5 G1 fm h0 n0 _ T730.heap _; rw [e730]; exact ⟨rfl, N732⟩), hEnd.1, hEnd.2.1, hEnd.2.2.1, hEnd.2.2.2.mono (by decide) (by decide)⟩
      · skip
        refine own_of (T' := s₁) (f' := (mkF m 109 #[.val (.int p0), .val (.int p1), .val (.int p2), .val (.int p3), .val (.int p4), .val (.int p5), .val (.int nn), .val (.int c0), .val (.int c1), .val (.int c2), .val (.int c3), .unset, .unset, .unset, .unset] [(.int (4 : Int32))])) (fun t_ k_ => (XS.icmpYes X0.here hx rfl (pc0 := 82) (pc' := 108) rfl (Jvm.hb hby at_82) rfl (feq hc82_476).2 (by decide) (by decide) (XS.iconst X0.here hx rfl (Jvm.hb hby at_108) k_))) ?_
        obtain ⟨T733, h733, k733, X733, e733, E733, A733, Ex733, st733⟩ := newPE X0 hx hZ (hw _ (List.mem_of_getElem? (i := 1) rfl)) e0 (g := (mkF m 109 #[.val (.int p0), .val (.int p1), .val (.int p2), .val (.int p3), .val (.int p4), .val (.int p5), .val (.int nn), .val (.int c0), .val (.int c1), .val (.int c2), .val (.int c3), .unset, .unset, .unset, .unset] [(.int (4 : Int32))])) rfl (Jvm.hb hby at_109) rfl (by decide) (cap := 4) (by decide) (by decide) (by decide) (by decide) (ad := "[C") (by decide)
        obtain ⟨ca, g733⟩ : ∃ z, z = h0.size := ⟨_, rfl⟩
        rw [← g733] at A733 Ex733 st733
        have g_ca : n0 ≤ ca := Nat.le_trans Z0 (Nat.le_of_eq g733.symm)
        have f734 := Nat.le_trans Y0 E733.1
        have f735 := Nat.le_trans Z0 E733.1
        have f736 := X00.ext E733
        have f737 := SC.ext E733
        have f738 := SF.ext E733
        have f739 := S1.ext E733
        have f740 := S2.ext E733
        have f741 := S3.ext E733
        have f742 : Arv Z h733 ca k733 .char (4 : Int32) [(.int (0 : Int32)), (.int (0 : Int32)), (.int (0 : Int32)), (.int (0 : Int32))] (.int (0 : Int32)) := (Arv.new A733 (by decide)).pad (pad_rep [] (.int (0 : Int32)) 4)
        refine own_of (T' := T733) (f' := (mkF m 115 #[.val (.int p0), .val (.int p1), .val (.int p2), .val (.int p3), .val (.int p4), .val (.int p5), .val (.int nn), .val (.int c0), .val (.int c1), .val (.int c2), .val (.int c3), .unset, .unset, .unset, .unset] [(.int c0), (.int (0 : Int32)), (.ref ca), (.ref ca)])) (fun t_ k_ => (st733 _ (XS.dup X733.here hx rfl (Jvm.hb hby at_111) rfl rfl (XS.iconst X733.here hx rfl (Jvm.hb hby at_112) (XS.iload X733.here hx rfl (Jvm.hb hby at_113) rfl k_))))) ?_
        obtain ⟨cl743, Ar743, qq743, Sz743, Nn743, Hh743, Gg743⟩ := id f742
        have hin743 : ¬ ((0 : Int32) < 0 ∨ cl743.slots.size ≤ ((0 : Int32)).toNatClampNeg) := inb_of Sz743 ⟨by decide, by decide⟩
        obtain ⟨T744, h744, X744, e744, W744, st744⟩ := stC X733 hx hZ e733 Ar743 (j := (0 : Int32)) hin743 (g := (mkF m 115 #[.val (.int p0), .val (.int p1), .val (.int p2), .val (.int p3), .val (.int p4), .val (.int p5), .val (.int nn), .val (.int c0), .val (.int c1), .val (.int c2), .val (.int c3), .unset, .unset, .unset, .unset] [(.int c0), (.int (0 : Int32)), (.ref ca), (.ref ca)])) rfl rfl (Jvm.hb hby at_115)
        refine own_of (T' := T744) (f' := (mkF m 116 #[.val (.int p0), .val (.int p1), .val (.int p2), .val (.int p3), .val (.int p4), .val (.int p5), .val (.int nn), .val (.int c0), .val (.int c1), .val (.int c2), .val (.int c3), .unset, .unset, .unset, .unset] [(.ref ca)])) (fun t_ k_ => (st744 _ k_)) ?_
        have f745 := Arv.set Ar743 qq743 Sz743 Nn743 Hh743 Gg743 (fits_nar_char _) W744 0 rfl (Nat.le_of_ble_eq_true rfl)
        have N744 := Fr.snoc X744 N0 g_ca
        have f746 := Nat.le_trans f734 (Keep.of_wr W744).1
        have f747 := Nat.le_trans f735 (Keep.of_wr W744).1
        have f748 := f736.wr W744 g_ca
        have f749 := f737.wr W744
        have f750 := f738.wr W744
        have f751 := f739.wr W744
        have f752 := f740.wr W744
        have f753 := f741.wr W744
        have f754 := Ex733.wr W744
        refine own_of (T' := T744) (f' := (mkF m 120 #[.val (.int p0), .val (.int p1), .val (.int p2), .val (.int p3), .val (.int p4), .val (.int p5), .val (.int nn), .val (.int c0), .val (.int c1), .val (.int c2), .val (.int c3), .unset, .unset, .unset, .unset] [(.int c1), (.int (1 : Int32)), (.ref ca), (.ref ca)])) (fun t_ k_ => (XS.dup X744.here hx rfl (Jvm.hb hby at_116) rfl rfl (XS.iconst X744.here hx rfl (Jvm.hb hby at_117) (XS.iload X744.here hx rfl (Jvm.hb hby at_118) rfl k_)))) ?_
        obtain ⟨cl756, Ar756, qq756, Sz756, Nn756, Hh756, Gg756⟩ := id f745
        have hin756 : ¬ ((1 : Int32) < 0 ∨ cl756.slots.size ≤ ((1 : Int32)).toNatClampNeg) := inb_of Sz756 ⟨by decide, by decide⟩
        obtain ⟨T757, h757, X757, e757, W757, st757⟩ := stC X744 hx hZ e744 Ar756 (j := (1 : Int32)) hin756 (g := (mkF m 120 #[.val (.int p0), .val (.int p1), .val (.int p2), .val (.int p3), .val (.int p4), .val (.int p5), .val (.int nn), .val (.int c0), .val (.int c1), .val (.int c2), .val (.int c3), .unset, .unset, .unset, .unset] [(.int c1), (.int (1 : Int32)), (.ref ca), (.ref ca)])) rfl rfl (Jvm.hb hby at_120)
        refine own_of (T' := T757) (f' := (mkF m 121 #[.val (.int p0), .val (.int p1), .val (.int p2), .val (.int p3), .val (.int p4), .val (.int p5), .val (.int nn), .val (.int c0), .val (.int c1), .val (.int c2), .val (.int c3), .unset, .unset, .unset, .unset] [(.ref ca)])) (fun t_ k_ => (st757 _ k_)) ?_
        have f758 := Arv.set Ar756 qq756 Sz756 Nn756 Hh756 Gg756 (fits_nar_char _) W757 1 rfl (Nat.le_of_ble_eq_true rfl)
        have N757 := Fr.snoc X757 N744 g_ca
        have f759 := Nat.le_trans f746 (Keep.of_wr W757).1
        have f760 := Nat.le_trans f747 (Keep.of_wr W757).1
        have f761 := f748.wr W757 g_ca
        have f762 := f749.wr W757
        have f763 := f750.wr W757
        have f764 := f751.wr W757
        have f765 := f752.wr W757
        have f766 := f753.wr W757
        have f767 := f754.wr W757
        refine own_of (T' := T757) (f' := (mkF m 125 #[.val (.int p0), .val (.int p1), .val (.int p2), .val (.int p3), .val (.int p4), .val (.int p5), .val (.int nn), .val (.int c0), .val (.int c1), .val (.int c2), .val (.int c3), .unset, .unset, .unset, .unset] [(.int c2), (.int (2 : Int32)), (.ref ca), (.ref ca)])) (fun t_ k_ => (XS.dup X757.here hx rfl (Jvm.hb hby at_121) rfl rfl (XS.iconst X757.here hx rfl (Jvm.hb hby at_122) (XS.iload X757.here hx rfl (Jvm.hb hby at_123) rfl k_)))) ?_
        obtain ⟨cl769, Ar769, qq769, Sz769, Nn769, Hh769, Gg769⟩ := id f758
        have hin769 : ¬ ((2 : Int32) < 0 ∨ cl769.slots.size ≤ ((2 : Int32)).toNatClampNeg) := inb_of Sz769 ⟨by decide, by decide⟩
        obtain ⟨T770, h770, X770, e770, W770, st770⟩ := stC X757 hx hZ e757 Ar769 (j := (2 : Int32)) hin769 (g := (mkF m 125 #[.val (.int p0), .val (.int p1), .val (.int p2), .val (.int p3), .val (.int p4), .val (.int p5), .val (.int nn), .val (.int c0), .val (.int c1), .val (.int c2), .val (.int c3), .unset, .unset, .unset, .unset] [(.int c2), (.int (2 : Int32)), (.ref ca), (.ref ca)])) rfl rfl (Jvm.hb hby at_125)
        refine own_of (T' := T770) (f' := (mkF m 126 #[.val (.int p0), .val (.int p1), .val (.int p2), .val (.int p3), .val (.int p4), .val (.int p5), .val (.int nn), .val (.int c0), .val (.int c1), .val (.int c2), .val (.int c3), .unset, .unset, .unset, .unset] [(.ref ca)])) (fun t_ k_ => (st770 _ k_)) ?_
        have f771 := Arv.set Ar769 qq769 Sz769 Nn769 Hh769 Gg769 (fits_nar_char _) W770 2 rfl (Nat.le_of_ble_eq_true rfl)
        have N770 := Fr.snoc X770 N757 g_ca
        have f772 := Nat.le_trans f759 (Keep.of_wr W770).1
        have f773 := Nat.le_trans f760 (Keep.of_wr W770).1
        have f774 := f761.wr W770 g_ca
        have f775 := f762.wr W770
        have f776 := f763.wr W770
        have f777 := f764.wr W770
        have f778 := f765.wr W770
        have f779 := f766.wr W770
        have f780 := f767.wr W770
        refine own_of (T' := T770) (f' := (mkF m 130 #[.val (.int p0), .val (.int p1), .val (.int p2), .val (.int p3), .val (.int p4), .val (.int p5), .val (.int nn), .val (.int c0), .val (.int c1), .val (.int c2), .val (.int c3), .unset, .unset, .unset, .unset] [(.int c3), (.int (3 : Int32)), (.ref ca), (.ref ca)])) (fun t_ k_ => (XS.dup X770.here hx rfl (Jvm.hb hby at_126) rfl rfl (XS.iconst X770.here hx rfl (Jvm.hb hby at_127) (XS.iload X770.here hx rfl (Jvm.hb hby at_128) rfl k_)))) ?_
        obtain ⟨cl782, Ar782, qq782, Sz782, Nn782, Hh782, Gg782⟩ := id f771
        have hin782 : ¬ ((3 : Int32) < 0 ∨ cl782.slots.size ≤ ((3 : Int32)).toNatClampNeg) := inb_of Sz782 ⟨by decide, by decide⟩
        obtain ⟨T783, h783, X783, e783, W783, st783⟩ := stC X770 hx hZ e770 Ar782 (j := (3 : Int32)) hin782 (g := (mkF m 130 #[.val (.int p0), .val (.int p1), .val (.int p2), .val (.int p3), .val (.int p4), .val (.int p5), .val (.int nn), .val (.int c0), .val (.int c1), .val (.int c2), .val (.int c3), .unset, .unset, .unset, .unset] [(.int c3), (.int (3 : Int32)), (.ref ca), (.ref ca)])) rfl rfl (Jvm.hb hby at_130)
        refine own_of (T' := T783) (f' := (mkF m 131 #[.val (.int p0), .val (.int p1), .val (.int p2), .val (.int p3), .val (.int p4), .val (.int p5), .val (.int nn), .val (.int c0), .val (.int c1), .val (.int c2), .val (.int c3), .unset, .unset, .unset, .unset] [(.ref ca)])) (fun t_ k_ => (st783 _ k_)) ?_
        have f784 := Arv.set Ar782 qq782 Sz782 Nn782 Hh782 Gg782 (fits_nar_char _) W783 3 rfl (Nat.le_of_ble_eq_true rfl)
        have N783 := Fr.snoc X783 N770 g_ca
        have f785 := Nat.le_trans f772 (Keep.of_wr W783).1
        have f786 := Nat.le_trans f773 (Keep.of_wr W783).1
        have f787 := f774.wr W783 g_ca
        have f788 := f775.wr W783
        have f789 := f776.wr W783
        have f790 := f777.wr W783
        have f791 := f778.wr W783
        have f792 := f779.wr W783
        have f793 := f780.wr W783
        have Vc : Arv Z h783 ca k733 .char (4 : Int32) [(.int c0), (.int c1), (.int c2), (.int c3)] (.int 0) := by
          have q_ := f784
          rw [own_nc c0 rc0, own_nc c1 rc1, own_nc c2 rc2, own_nc c3 rc3] at q_
          exact q_
        have hn : Int32.ofNat ([c0, c1, c2, c3] : List Int32).length = nn := (own_n4 _ _ hnn hc39_1 hc58_232 hc82_476).symm
        have hr : ∀ c ∈ ([c0, c1, c2, c3] : List Int32), ¬ c < 0 ∧ ¬ (65535 : Int32) < c := by
          intro c hc
          simp only [List.mem_cons, List.not_mem_nil, or_false] at hc
          rcases hc with rfl | rfl | rfl | rfl
          · exact rc0
          · exact rc1
          · exact rc2
          · exact rc3
        refine own_of (T' := T783) (f' := (mkF m 133 #[.val (.int p0), .val (.int p1), .val (.int p2), .val (.int p3), .val (.int p4), .val (.int p5), .val (.int nn), .val (.int c0), .val (.int c1), .val (.int c2), .val (.int c3), .val (.ref ca), .unset, .unset, .unset] [])) (fun t_ k_ => (XS.astore X783.here hx rfl (Jvm.hb hby at_131) rfl rfl (l' := #[.val (.int p0), .val (.int p1), .val (.int p2), .val (.int p3), .val (.int p4), .val (.int p5), .val (.int nn), .val (.int c0), .val (.int c1), .val (.int c2), .val (.int c3), .val (.ref ca), .unset, .unset, .unset]) rfl k_)) ?_
        obtain ⟨T795, h795, X795, e795, E795, A795, D795, -, st795⟩ := newO X783 hx hZ hown (hw _ (List.mem_of_getElem? (i := 2) rfl)) (hw _ (List.mem_of_getElem? (i := 3) rfl)) (hw _ (List.mem_of_getElem? (i := 4) rfl)) e783 (g := (mkF m 133 #[.val (.int p0), .val (.int p1), .val (.int p2), .val (.int p3), .val (.int p4), .val (.int p5), .val (.int nn), .val (.int c0), .val (.int c1), .val (.int c2), .val (.int c3), .val (.ref ca), .unset, .unset, .unset] [])) rfl (Jvm.hb hby at_133) (by decide) (by decide)
        obtain ⟨st, g795⟩ : ∃ z, z = h783.size := ⟨_, rfl⟩
        rw [← g795] at A795 D795 st795
        have ne_ca_st : ca ≠ st := by rw [g795]; exact Nat.ne_of_lt f793.lt
        have g_st : n0 ≤ st := Nat.le_trans f786 (Nat.le_of_eq g795.symm)
        have f796 := Nat.le_trans f785 E795.1
        have f797 := Nat.le_trans f786 E795.1
        have f798 := f787.ext E795
        have f799 := f788.ext E795
        have f800 := f789.ext E795
        have f801 := f790.ext E795
        have f802 := f791.ext E795
        have f803 := f792.ext E795
        have f804 := f793.ext E795
        have f805 := Vc.ext E795
        have f806 : Fld Z h795 st "java/lang/String" "coder" "B" (.int (0 : Int32)) := D795 (Or.inr (hw _ (List.mem_of_getElem? (i := 28) rfl))) (ty := .byte) (by decide)
        have f807 : Fld Z h795 st "java/lang/String" "value" "[B" .null := D795 (Or.inr (hw _ (List.mem_of_getElem? (i := 30) rfl))) (ty := (.array .byte)) (by decide)
        refine own_of (T' := T795) (f' := (mkF m 139 #[.val (.int p0), .val (.int p1), .val (.int p2), .val (.int p3), .val (.int p4), .val (.int p5), .val (.int nn), .val (.int c0), .val (.int c1), .val (.int c2), .val (.int c3), .val (.ref ca), .unset, .unset, .unset] [(.ref ca), (.ref st), (.ref st)])) (fun t_ k_ => (st795 _ (XS.dup X795.here hx rfl (Jvm.hb hby at_136) rfl rfl (XS.aload X795.here hx rfl (Jvm.hb hby at_137) rfl rfl k_)))) ?_
        by_cases hnw : ∀ c ∈ ([c0, c1, c2, c3] : List Int32), ¬ (255 : Int32) < c
        · skip
          have hp : ∀ c ∈ ([c0, c1, c2, c3] : List Int32), ¬ c < 0 ∧ ¬ (255 : Int32) < c := fun c hc => ⟨(hr c hc).1, hnw c hc⟩
          have hws808 : ∀ d ∈ StrChars.Road.words, d.before a0 Z = true := fun d hd => hw d (own_strw d hd)
          obtain ⟨_, _, ⟨T808, L808, k808, n808⟩, -, X808, ⟨Lc808, hQ808, l808, y808, z808⟩, st808⟩ := X795.specialBack hx (y := (⟨"java/lang/String", "<init>", "([C)V"⟩ : MethodName)) rfl hown (mvT hZ (hw _ (List.mem_of_getElem? (i := 5) rfl))) (mvT hZ (hw _ (List.mem_of_getElem? (i := 6) rfl))) (mvT hZ (hw _ (List.mem_of_getElem? (i := 7) rfl))) (by decide) (StrChars.Road.backV (W := 1) hZ hws808 (kI := 4) (hw _ (List.mem_of_getElem? (i := 3) rfl)) (cs := ([c0, c1, c2, c3] : List Int32)) (bs := (([c0, c1, c2, c3] : List Int32)).map (fun c => c.toInt8.toInt32)) (n := 4) g_st f797 A795 f807 f806 f805 (O2.ext f798.2) P5 rfl rfl (by decide) (by decide) hp rfl (by decide) (by decide)) (g := (mkF m 139 #[.val (.int p0), .val (.int p1), .val (.int p2), .val (.int p3), .val (.int p4), .val (.int p5), .val (.int nn), .val (.int c0), .val (.int c1), .val (.int c2), .val (.int c3), .val (.ref ca), .unset, .unset, .unset] [(.ref ca), (.ref st), (.ref st)])) rfl (by rw [hml]; rfl) (Steps.refl _) (a := st) (argsL := [(.ref ca)]) (rest := [(.ref st)]) (lenOf own_pd_15 rfl) rfl (by show 2 * 0 + _ ≤ _; exact Nat.le_of_eq rfl) (Jvm.hb hby at_139) (fun _ _ => ⟨rfl, e795, Nat.le_of_ble_eq_true rfl, Nat.le_of_ble_eq_true rfl⟩)
          dsimp only [Pt.U, Pt.locs, Pt.cells, Pt.slots] at X808 l808 y808 z808 st808 hQ808
          subst l808 y808 z808
          obtain ⟨rfl, N808, K808, Es808, Fc808, t808, kt808, -, -, -, Fv808, Vt808⟩ := hQ808
          have N809 := Fr.app N783 N808
          have f810 := Nat.le_trans f796 K808.1
          have f811 := Nat.le_trans f797 K808.1
          have f812 := f798.keep K808 (allS g_st all0)
          have f813 := own_stakeep f799 K808 (allS (own_plainE A795) all0)
          have f814 := own_stakeep f800 K808 (allS (own_plainE A795) all0)
          have f815 := own_stakeep f801 K808 (allS (own_plainE A795) all0)
          have f816 := own_stakeep f802 K808 (allS (own_plainE A795) all0)
          have f817 := own_stakeep f803 K808 (allS (own_plainE A795) all0)
          have f818 := f804.keep K808
          have f819 := f805.keep K808 (ninS ne_ca_st nin0)
          have f820 := A795.keep K808
          refine own_of (T' := T808) (f' := (mkF m 142 #[.val (.int p0), .val (.int p1), .val (.int p2), .val (.int p3), .val (.int p4), .val (.int p5), .val (.int nn), .val (.int c0), .val (.int c1), .val (.int c2), .val (.int c3), .val (.ref ca), .unset, .unset, .unset] [(.ref st)])) (fun t_ k_ => (st808.trans k_)) ?_
          have hco : StrChars.Road.CodA ([c0, c1, c2, c3] : List Int32) 0 (4 : Int32) [(.int (StrChars.lo8 c0)), (.int (StrChars.lo8 c1)), (.int (StrChars.lo8 c2)), (.int (StrChars.lo8 c3))] := Or.inl ⟨rfl, rfl, rfl, hnw⟩
          have Vs : Arv Z T808.heap t808 kt808 .byte (4 : Int32) [(.int (StrChars.lo8 c0)), (.int (StrChars.lo8 c1)), (.int (StrChars.lo8 c2)), (.int (StrChars.lo8 c3))] (.int 0) := Vt808
          refine own_of (T' := T808) (f' := (mkF m 144 #[.val (.int p0), .val (.int p1), .val (.int p2), .val (.int p3), .val (.int p4), .val (.int p5), .val (.int nn), .val (.int c0), .val (.int c1), .val (.int c2), .val (.int c3), .val (.ref ca), .val (.ref st), .unset, .unset] [])) (fun t_ k_ => (XS.astore X808.here hx rfl (Jvm.hb hby at_142) rfl rfl (l' := #[.val (.int p0), .val (.int p1), .val (.int p2), .val (.int p3), .val (.int p4), .val (.int p5), .val (.int nn), .val (.int c0), .val (.int c1), .val (.int c2), .val (.int c3), .val (.ref ca), .val (.ref st), .unset, .unset]) rfl k_)) ?_
          obtain ⟨T823, h823, X823, e823, E823, A823, D823, -, st823⟩ := newO X808 hx hZ hown (hw _ (List.mem_of_getElem? (i := 31) rfl)) (hw _ (List.mem_of_getElem? (i := 32) rfl)) (hw _ (List.mem_of_getElem? (i := 33) rfl)) rfl (g := (mkF m 144 #[.val (.int p0), .val (.int p1), .val (.int p2), .val (.int p3), .val (.int p4), .val (.int p5), .val (.int nn), .val (.int c0), .val (.int c1), .val (.int c2), .val (.int c3), .val (.ref ca), .val (.ref st), .unset, .unset] [])) rfl (Jvm.hb hby at_144) (by decide) (by decide)
          obtain ⟨rf, g823⟩ : ∃ z, z = T808.heap.size := ⟨_, rfl⟩
          rw [← g823] at A823 D823 st823
          have ne_ca_rf : ca ≠ rf := by rw [g823]; exact Nat.ne_of_lt f818.lt
          have ne_st_rf : st ≠ rf := by rw [g823]; exact Nat.ne_of_lt Es808.lt
          have ne_t808_rf : t808 ≠ rf := by rw [g823]; exact Nat.ne_of_lt Vs.lt
          have g_rf : n0 ≤ rf := Nat.le_trans f811 (Nat.le_of_eq g823.symm)
          have f824 := Nat.le_trans f810 E823.1
          have f825 := Nat.le_trans f811 E823.1
          have f826 := f812.ext E823
          have f827 := f813.ext E823
          have f828 := f814.ext E823
          have f829 := f815.ext E823
          have f830 := f816.ext E823
          have f831 := f817.ext E823
          have f832 := f818.ext E823
          have f833 := f819.ext E823
          have f834 := Es808.ext E823
          have f835 := Fc808.ext E823
          have f836 := Fv808.ext E823
          have f837 := Vs.ext E823
          have f838 : Fld Z h823 rf "com/example/austere_auth/austereauth/refusal/Refusal" "status" "I" (.int (0 : Int32)) := D823 (Or.inr (hw _ (List.mem_of_getElem? (i := 51) rfl))) (ty := .int) (by decide)
          have f839 : Fld Z h823 rf "com/example/austere_auth/austereauth/refusal/Refusal" "error" "Ljava/lang/String;" .null := D823 (Or.inr (hw _ (List.mem_of_getElem? (i := 53) rfl))) (ty := (.object "java/lang/String")) (by decide)
          have f840 : Fld Z h823 rf "com/example/austere_auth/austereauth/refusal/Refusal" "description" "Ljava/lang/String;" .null := D823 (Or.inr (hw _ (List.mem_of_getElem? (i := 55) rfl))) (ty := (.object "java/lang/String")) (by decide)
          have f841 : Fld Z h823 rf "com/example/austere_auth/austereauth/refusal/Refusal" "scope" "Ljava/lang/String;" .null := D823 (Or.inr (hw _ (List.mem_of_getElem? (i := 57) rfl))) (ty := (.object "java/lang/String")) (by decide)
          refine own_of (T' := T823) (f' := (mkF m 150 #[.val (.int p0), .val (.int p1), .val (.int p2), .val (.int p3), .val (.int p4), .val (.int p5), .val (.int nn), .val (.int c0), .val (.int c1), .val (.int c2), .val (.int c3), .val (.ref ca), .val (.ref st), .unset, .unset] [(.int p5), (.ref rf), (.ref rf)])) (fun t_ k_ => (st823 _ (XS.dup X823.here hx rfl (Jvm.hb hby at_147) rfl rfl (XS.iload X823.here hx rfl (Jvm.hb hby at_148) rfl k_)))) ?_
          obtain ⟨k1, T842, h842, k842, X842, e842, E842, hS, Y842, hZ, hown, st842⟩ := ldcS X823 hx hZ hown (hw _ (List.mem_of_getElem? (i := 34) rfl)) hwS e823 hS f824 (g := (mkF m 150 #[.val (.int p0), .val (.int p1), .val (.int p2), .val (.int p3), .val (.int p4), .val (.int p5), .val (.int nn), .val (.int c0), .val (.int c1), .val (.int c2), .val (.int c3), .val (.ref ca), .val (.ref st), .unset, .unset] [(.int p5), (.ref rf), (.ref rf)])) rfl (Jvm.hb hby at_150) (n := 60) (by decide) (by decide) (by decide) (by decide)
          have f843 := Nat.le_trans f825 E842.1
          have f844 := f826.ext E842
          have f845 := f827.ext E842
          have f846 := f828.ext E842
          have f847 := f829.ext E842
          have f848 := f830.ext E842
          have f849 := f831.ext E842
          have f850 := f832.ext E842
          have f851 := f833.ext E842
          have f852 := f834.ext E842
          have f853 := f835.ext E842
          have f854 := f836.ext E842
          have f855 := f837.ext E842
          have f856 := A823.ext E842
          have f857 := f838.ext E842
          have f858 := f839.ext E842
          have f859 := f840.ext E842
          have f860 := f841.ext E842
          refine own_of (T' := T842) (f' := (mkF m 152 #[.val (.int p0), .val (.int p1), .val (.int p2), .val (.int p3), .val (.int p4), .val (.int p5), .val (.int nn), .val (.int c0), .val (.int c1), .val (.int c2), .val (.int c3), .val (.ref ca), .val (.ref st), .unset, .unset] [(.ref k1), (.int p5), (.ref rf), (.ref rf)])) (fun t_ k_ => (st842 _ k_)) ?_
          obtain ⟨k2, T861, h861, k861, X861, e861, E861, hS, Y861, hZ, hown, st861⟩ := ldcS X842 hx hZ hown (hw _ (List.mem_of_getElem? (i := 37) rfl)) hwS e842 hS Y842 (g := (mkF m 152 #[.val (.int p0), .val (.int p1), .val (.int p2), .val (.int p3), .val (.int p4), .val (.int p5), .val (.int nn), .val (.int c0), .val (.int c1), .val (.int c2), .val (.int c3), .val (.ref ca), .val (.ref st), .unset, .unset] [(.ref k1), (.int p5), (.ref rf), (.ref rf)])) rfl (Jvm.hb hby at_152) (n := 56) (by decide) (by decide) (by decide) (by decide)
          have f862 := Nat.le_trans f843 E861.1
          have f863 := f844.ext E861
          have f864 := f845.ext E861
          have f865 := f846.ext E861
          have f866 := f847.ext E861
          have f867 := f848.ext E861
          have f868 := f849.ext E861
          have f869 := f850.ext E861
          have f870 := f851.ext E861
          have f871 := f852.ext E861
          have f872 := f853.ext E861
          have f873 := f854.ext E861
          have f874 := f855.ext E861
          have f875 := f856.ext E861
          have f876 := f857.ext E861
          have f877 := f858.ext E861
          have f878 := f859.ext E861
          have f879 := f860.ext E861
          refine own_of (T' := T861) (f' := (mkF m 154 #[.val (.int p0), .val (.int p1), .val (.int p2), .val (.int p3), .val (.int p4), .val (.int p5), .val (.int nn), .val (.int c0), .val (.int c1), .val (.int c2), .val (.int c3), .val (.ref ca), .val (.ref st), .unset, .unset] [(.ref k2), (.ref k1), (.int p5), (.ref rf), (.ref rf)])) (fun t_ k_ => (st861 _ k_)) ?_
          obtain ⟨_, _, ⟨T880, L880, k880, n880⟩, -, X880, ⟨Lc880, hQ880, l880, y880, z880⟩, st880⟩ := X861.specialBack hx (y := (⟨"com/example/austere_auth/austereauth/refusal/Refusal", "<init>", "(ILjava/lang/String;Ljava/lang/String;)V"⟩ : MethodName)) rfl hown (mvT hZ (hw _ (List.mem_of_getElem? (i := 38) rfl))) (mvT hZ (hw _ (List.mem_of_getElem? (i := 39) rfl))) (mvT hZ (hw _ (List.mem_of_getElem? (i := 40) rfl))) (by decide) (backOf (W := 1) (own_rm_r3 l Z a0 hw [] rf p5 k1 k2 h861 n0 f862 f876 f877 f878 f879 f875 g_rf) hZ (hw _ (List.mem_of_getElem? (i := 40) rfl)) (hw _ (List.mem_of_getElem? (i := 33) rfl)) (by decide) (by decide)) (g := (mkF m 154 #[.val (.int p0), .val (.int p1), .val (.int p2), .val (.int p3), .val (.int p4), .val (.int p5), .val (.int nn), .val (.int c0), .val (.int c1), .val (.int c2), .val (.int c3), .val (.ref ca), .val (.ref st), .unset, .unset] [(.ref k2), (.ref k1), (.int p5), (.ref rf), (.ref rf)])) rfl (by rw [hml]; rfl) (Steps.refl _) (a := rf) (argsL := [(.int p5), (.ref k1), (.ref k2)]) (rest := [(.ref rf)]) (lenOf own_pd_16 rfl) rfl (by show 2 * 0 + _ ≤ _; exact Nat.le_of_eq rfl) (Jvm.hb hby at_154) (fun _ _ => ⟨rfl, e861, Nat.le_of_ble_eq_true rfl, Nat.le_of_ble_eq_true rfl⟩)
          dsimp only [Pt.U, Pt.locs, Pt.cells, Pt.slots] at X880 l880 y880 z880 st880 hQ880
          subst l880 y880 z880
          obtain ⟨rfl, N880, K880⟩ := hQ880
          have N881 := Fr.app N809 N880
          have f882 := Nat.le_trans f862 K880.1
          have f883 := f863.keep K880 (allS g_rf all0)
          have f884 := own_stakeep f864 K880 (allS (own_plainE f875) all0)
          have f885 := own_stakeep f865 K880 (allS (own_plainE f875) all0)
          have f886 := own_stakeep f866 K880 (allS (own_plainE f875) all0)
          have f887 := own_stakeep f867 K880 (allS (own_plainE f875) all0)
          have f888 := own_stakeep f868 K880 (allS (own_plainE f875) all0)
          have f889 := f869.keep K880
          have f890 := f870.keep K880 (ninS ne_ca_rf nin0)
          have f891 := f871.keep K880
          have f892 := f872.keep K880 (ninS ne_st_rf nin0)
          have f893 := f873.keep K880 (ninS ne_st_rf nin0)
          have f894 := f874.keep K880 (ninS ne_t808_rf nin0)
          have f895 := f875.keep K880
          have f900 := Nat.le_trans Y861 K880.1
          refine own_of (T' := T880) (f' := (mkF m 163 #[.val (.int p0), .val (.int p1), .val (.int p2), .val (.int p3), .val (.int p4), .val (.int p5), .val (.int nn), .val (.int c0), .val (.int c1), .val (.int c2), .val (.int c3), .val (.ref ca), .val (.ref st), .val (.ref rf), .unset] [(.ref rf), (.ref st)])) (fun t_ k_ => (st880.trans (XS.astore X880.here hx rfl (Jvm.hb hby at_157) rfl rfl (l' := #[.val (.int p0), .val (.int p1), .val (.int p2), .val (.int p3), .val (.int p4), .val (.int p5), .val (.int nn), .val (.int c0), .val (.int c1), .val (.int c2), .val (.int c3), .val (.ref ca), .val (.ref st), .val (.ref rf), .unset]) rfl (XS.aload X880.here hx rfl (Jvm.hb hby at_159) rfl rfl (XS.aload X880.here hx rfl (Jvm.hb hby at_161) rfl rfl k_))))) ?_
          obtain ⟨_, _, ⟨T901, L901, k901, n901⟩, -, X901, ⟨Lc901, hQ901, l901, y901, z901⟩, st901⟩ := Jvm.LawKit.callS X880 hx (y := (⟨"com/example/austere_auth/austereauth/refusal/Refusal", "requirePresent", "(Ljava/lang/String;Lcom/example/austere_auth/austereauth/refusal/Refusal;)Ljava/lang/String;"⟩ : MethodName)) hown (mvT hZ (hw _ (List.mem_of_getElem? (i := 58) rfl))) (mvT hZ (hw _ (List.mem_of_getElem? (i := 59) rfl))) (mvT hZ (hw _ (List.mem_of_getElem? (i := 33) rfl))) (mvT hZ (hw _ (List.mem_of_getElem? (i := 60) rfl))) (by decide) (backOf (W := 0) (own_rm_req l Z a0 hw [] st rf t808 kt808 ([c0, c1, c2, c3] : List Int32) (0 : Int32) (4 : Int32) [(.int (StrChars.lo8 c0)), (.int (StrChars.lo8 c1)), (.int (StrChars.lo8 c2)), (.int (StrChars.lo8 c3))] T880.heap n0 f882 f891 f893 f892 f894 hco hr (Nat.le_of_ble_eq_true rfl) (by simp)) hZ (hw _ (List.mem_of_getElem? (i := 60) rfl)) (hw _ (List.mem_of_getElem? (i := 33) rfl)) (by decide) (by decide)) (g := (mkF m 163 #[.val (.int p0), .val (.int p1), .val (.int p2), .val (.int p3), .val (.int p4), .val (.int p5), .val (.int nn), .val (.int c0), .val (.int c1), .val (.int c2), .val (.int c3), .val (.ref ca), .val (.ref st), .val (.ref rf), .unset] [(.ref rf), (.ref st)])) rfl (by rw [hml]; rfl) (argsL := [(.ref st), (.ref rf)]) (rest := []) (lenOf own_pd_17 rfl) rfl (by show 2 * 0 + _ ≤ _; exact Nat.le_of_eq rfl) (Jvm.hb hby at_163) (fun _ _ => ⟨rfl, rfl, Nat.le_of_ble_eq_true rfl, Nat.le_of_ble_eq_true rfl⟩)
          dsimp only [Pt.U, Pt.locs, Pt.cells, Pt.slots] at X901 l901 y901 z901 st901 hQ901
          subst l901 y901 z901
          obtain ⟨rfl, N901, e901⟩ := hQ901
          have N902 := Fr.app N881 N901
          refine own_of (T' := T901) (f' := (mkF m 177 #[.val (.int p0), .val (.int p1), .val (.int p2), .val (.int p3), .val (.int p4), .val (.int p5), .val (.int nn), .val (.int c0), .val (.int c1), .val (.int c2), .val (.int c3), .val (.ref ca), .val (.ref st), .val (.ref rf), .val (.ref st)] [(.ref st)])) (fun t_ k_ => (st901 _ (XS.astore X901.here hx rfl (Jvm.hb hby at_166) rfl rfl (l' := #[.val (.int p0), .val (.int p1), .val (.int p2), .val (.int p3), .val (.int p4), .val (.int p5), .val (.int nn), .val (.int c0), .val (.int c1), .val (.int c2), .val (.int c3), .val (.ref ca), .val (.ref st), .val (.ref rf), .val (.ref st)]) rfl (XS.aload X901.here hx rfl (Jvm.hb hby at_168) rfl rfl (XS.aload X901.here hx rfl (Jvm.hb hby at_170) rfl rfl (Jvm.RoadKit.acmp (g := (mkF m 172 #[.val (.int p0), .val (.int p1), .val (.int p2), .val (.int p3), .val (.int p4), .val (.int p5), .val (.int nn), .val (.int c0), .val (.int c1), .val (.int c2), .val (.int c3), .val (.ref ca), .val (.ref st), .val (.ref rf), .val (.ref st)] [(.ref st), (.ref st)])) X901 hx rfl rfl rfl (pc0 := 172) (pc' := 175) (same := true) rfl (Jvm.hb hby at_172) rfl (decide_eq_true rfl) (by decide) (by decide) (XS.aload X901.here hx rfl (Jvm.hb hby at_175) rfl rfl k_))))))) ?_
          have hwL : ∀ d ∈ StrChars.Road.wordsLen, d.before a0 Z = true := fun d hd => hw d (own_wLen d hd)
          have hwC : ∀ d ∈ StrChars.Road.wordsChN, d.before a0 Z = true := fun d hd => hw d (own_wChN d hd)
          obtain ⟨cq904, kq904, q904a, q904b, q904c⟩ := isOf hZ e901 f891
          obtain ⟨_, _, ⟨T903, L903, k903, n903⟩, -, X903, ⟨Lc903, hQ903, l903, y903, z903⟩, st903⟩ := X901.virtualBack hx (y := (⟨"java/lang/String", "length", "()I"⟩ : MethodName)) (z := (⟨"java/lang/String", "length", "()I"⟩ : MethodName)) hown (mvT hZ (hw _ (List.mem_of_getElem? (i := 66) rfl))) (mvT hZ (hw _ (List.mem_of_getElem? (i := 67) rfl))) (notFace_of_selects (args := #[]) (mvT hZ (hw _ (List.mem_of_getElem? (i := 69) rfl)))) (mvT hZ (hw _ (List.mem_of_getElem? (i := 69) rfl))) (mvT hZ (hw _ (List.mem_of_getElem? (i := 68) rfl))) (by decide) (StrChars.Road.lenW (W := 0) hZ hwL (kI := 4) (hw _ (List.mem_of_getElem? (i := 3) rfl)) f891 f893 f892 f894 hco hr f884 P5 (Nat.le_of_ble_eq_true rfl) (by decide) (by decide)) q904a q904c (g := (mkF m 177 #[.val (.int p0), .val (.int p1), .val (.int p2), .val (.int p3), .val (.int p4), .val (.int p5), .val (.int nn), .val (.int c0), .val (.int c1), .val (.int c2), .val (.int c3), .val (.ref ca), .val (.ref st), .val (.ref rf), .val (.ref st)] [(.ref st)])) rfl (by rw [hml]; rfl) (Steps.refl _) (argsL := []) (rest := []) (lenOf own_pd_18 rfl) rfl (by show 2 * 0 + _ ≤ _; exact Nat.le_of_eq rfl) (Jvm.hb hby at_177) (fun _ _ => ⟨rfl, e901, Nat.le_of_ble_eq_true rfl, Nat.le_of_ble_eq_true rfl⟩)
          dsimp only [Pt.U, Pt.locs, Pt.cells, Pt.slots] at X903 l903 y903 z903 st903 hQ903
          subst l903 y903 z903
          obtain ⟨rfl, rfl, e903⟩ := hQ903
          have N903 : Fr n0 ([] : List Loc) := Fr.nil n0
          have N905 := Fr.app N902 N903
          refine own_of (T' := T903) (f' := (mkF m 188 #[.val (.int p0), .val (.int p1), .val (.int p2), .val (.int p3), .val (.int p4), .val (.int p5), .val (.int nn), .val (.int c0), .val (.int c1), .val (.int c2), .val (.int c3), .val (.ref ca), .val (.ref st), .val (.ref rf), .val (.ref st)] [(.int (0 : Int32)), (.ref st)])) (fun t_ k_ => (st903.trans (XS.iload X903.here hx rfl (Jvm.hb hby at_180) rfl (XS.icmpNo X903.here hx rfl (Jvm.hb hby at_182) rfl (teq hn).2 (XS.aload X903.here hx rfl (Jvm.hb hby at_185) rfl rfl (XS.iconst X903.here hx rfl (Jvm.hb hby at_187) k_)))))) ?_
          obtain ⟨cq907, kq907, q907a, q907b, q907c⟩ := isOf hZ e903 f891
          obtain ⟨_, _, ⟨T906, L906, k906, n906⟩, -, X906, ⟨Lc906, hQ906, l906, y906, z906⟩, st906⟩ := X903.virtualBack hx (y := (⟨"java/lang/String", "charAt", "(I)C"⟩ : MethodName)) (z := (⟨"java/lang/String", "charAt", "(I)C"⟩ : MethodName)) hown (mvT hZ (hw _ (List.mem_of_getElem? (i := 76) rfl))) (mvT hZ (hw _ (List.mem_of_getElem? (i := 77) rfl))) (notFace_of_selects (args := #[]) (mvT hZ (hw _ (List.mem_of_getElem? (i := 79) rfl)))) (mvT hZ (hw _ (List.mem_of_getElem? (i := 79) rfl))) (mvT hZ (hw _ (List.mem_of_getElem? (i := 78) rfl))) (by decide) (StrChars.Road.chN (W := 0) hZ hwC (kI := 4) (i := 0) (j := (0 : Int32)) (hw _ (List.mem_of_getElem? (i := 3) rfl)) f891 f893 f892 f894 hco hr f884 P5 f885 rfm (Nat.le_of_ble_eq_true rfl) (by simp) rfl (by decide) (by decide)) q907a q907c (g := (mkF m 188 #[.val (.int p0), .val (.int p1), .val (.int p2), .val (.int p3), .val (.int p4), .val (.int p5), .val (.int nn), .val (.int c0), .val (.int c1), .val (.int c2), .val (.int c3), .val (.ref ca), .val (.ref st), .val (.ref rf), .val (.ref st)] [(.int (0 : Int32)), (.ref st)])) rfl (by rw [hml]; rfl) (Steps.refl _) (argsL := [(.int (0 : Int32))]) (rest := []) (lenOf own_pd_19 rfl) rfl (by show 2 * 0 + _ ≤ _; exact Nat.le_of_eq rfl) (Jvm.hb hby at_188) (fun _ _ => ⟨rfl, e903, Nat.le_of_ble_eq_true rfl, Nat.le_of_ble_eq_true rfl⟩)
          dsimp only [Pt.U, Pt.locs, Pt.cells, Pt.slots] at X906 l906 y906 z906 st906 hQ906
          subst l906 y906 z906
          obtain ⟨rfl, rfl, e906⟩ := hQ906
          have N906 : Fr n0 ([] : List Loc) := Fr.nil n0
          have N908 := Fr.app N905 N906
          refine own_of (T' := T906) (f' := (mkF m 201 #[.val (.int p0), .val (.int p1), .val (.int p2), .val (.int p3), .val (.int p4), .val (.int p5), .val (.int nn), .val (.int c0), .val (.int c1), .val (.int c2), .val (.int c3), .val (.ref ca), .val (.ref st), .val (.ref rf), .val (.ref st)] [(.int (1 : Int32))])) (fun t_ k_ => (st906.trans (XS.iload X906.here hx rfl (Jvm.hb hby at_191) rfl (XS.icmpNo X906.here hx rfl (Jvm.hb hby at_193) rfl (teq rfl).2 (XS.iconst X906.here hx rfl (Jvm.hb hby at_196) (XS.goto X906.here hx rfl (pc0 := 197) (pc' := 201) rfl (Jvm.hb hby at_197) (by decide) (by decide) k_)))))) ?_
          obtain ⟨fs, hr, hrun, hended, hEnd⟩ := X906.leaveW hS (by rw [e906]; exact f900) (v := some (.int (1 : Int32))) (fun h => by rw [Bd.returns] at h; cases h)
          exact ⟨_, _, retN X906 hx (t := .boolean) Bd.returns (by simp) (Jvm.hb hby at_201) hr, hrun, hended, _, _, rfl, (by show own_Q_0 Z p0 p1 p2 p3 p4 p5 G1 fm h0 n0 _ T906.heap _; rw [e906]; exact ⟨rfl, N908⟩), hEnd.1, hEnd.2.1, hEnd.2.2.1, hEnd.2.2.2.mono (by decide) (by decide)⟩
        · skip
          have hwd : (255 : Int32) < c0 ∨ (255 : Int32) < c1 ∨ (255 : Int32) < c2 ∨ (255 : Int32) < c3 := by
            apply Decidable.byContradiction
            intro q
            apply hnw
            intro c hc z
            apply q
            simp only [List.mem_cons, List.not_mem_nil, or_false] at hc
            rcases hc with rfl | rfl | rfl | rfl
            · exact Or.inl z
            · exact Or.inr (Or.inl z)
            · exact Or.inr (Or.inr (Or.inl z))
            · exact Or.inr (Or.inr (Or.inr (z)))
          obtain ⟨_, _, ⟨T909, L909, k909, n909⟩, -, X909, ⟨Lc909, hQ909, l909, y909, z909⟩, st909⟩ := X795.specialBack hx (y := (⟨"java/lang/String", "<init>", "([C)V"⟩ : MethodName)) rfl hown (mvT hZ (hw _ (List.mem_of_getElem? (i := 5) rfl))) (mvT hZ (hw _ (List.mem_of_getElem? (i := 6) rfl))) (mvT hZ (hw _ (List.mem_of_getElem? (i := 7) rfl))) (by decide) (backOf (W := 1) (own_rm_cini4 l Z a0 hw [] st ca c0 c1 c2 c3 k733 G1 h795 n0 f797 f807 f806 A795 g_st f801 f802 f803 f799 P5 f805 (Ne.symm ne_ca_st) hr hwd) hZ (hw _ (List.mem_of_getElem? (i := 7) rfl)) (hw _ (List.mem_of_getElem? (i := 4) rfl)) (by decide) (by decide)) (g := (mkF m 139 #[.val (.int p0), .val (.int p1), .val (.int p2), .val (.int p3), .val (.int p4), .val (.int p5), .val (.int nn), .val (.int c0), .val (.int c1), .val (.int c2), .val (.int c3), .val (.ref ca), .unset, .unset, .unset] [(.ref ca), (.ref st), (.ref st)])) rfl (by rw [hml]; rfl) (Steps.refl _) (a := st) (argsL := [(.ref ca)]) (rest := [(.ref st)]) (lenOf own_pd_15 rfl) rfl (by show 2 * 0 + _ ≤ _; exact Nat.le_of_eq rfl) (Jvm.hb hby at_139) (fun _ _ => ⟨rfl, e795, Nat.le_of_ble_eq_true rfl, Nat.le_of_ble_eq_true rfl⟩)
          dsimp only [Pt.U, Pt.locs, Pt.cells, Pt.slots] at X909 l909 y909 z909 st909 hQ909
          subst l909 y909 z909
          obtain ⟨rfl, N909, K909, q1, q2, tb, kt, q3, q4⟩ := hQ909
          have N910 := Fr.app N783 N909
          have f911 := Nat.le_trans f796 K909.1
          have f912 := Nat.le_trans f797 K909.1
          have f913 := f798.keep K909 (allS g_st all0)
          have f914 := own_stakeep f799 K909 (allS (own_plainE A795) all0)
          have f915 := own_stakeep f800 K909 (allS (own_plainE A795) all0)
          have f916 := own_stakeep f801 K909 (allS (own_plainE A795) all0)
          have f917 := own_stakeep f802 K909 (allS (own_plainE A795) all0)
          have f918 := own_stakeep f803 K909 (allS (own_plainE A795) all0)
          have f919 := f804.keep K909
          have f920 := f805.keep K909 (ninS ne_ca_st nin0)
          have f921 := A795.keep K909
          refine own_of (T' := T909) (f' := (mkF m 142 #[.val (.int p0), .val (.int p1), .val (.int p2), .val (.int p3), .val (.int p4), .val (.int p5), .val (.int nn), .val (.int c0), .val (.int c1), .val (.int c2), .val (.int c3), .val (.ref ca), .unset, .unset, .unset] [(.ref st)])) (fun t_ k_ => (st909.trans k_)) ?_
          have hco : StrChars.Road.CodA ([c0, c1, c2, c3] : List Int32) 1 (8 : Int32) [(.int (StrChars.lo8 c0)), (.int (StrChars.hi8 c0)), (.int (StrChars.lo8 c1)), (.int (StrChars.hi8 c1)), (.int (StrChars.lo8 c2)), (.int (StrChars.hi8 c2)), (.int (StrChars.lo8 c3)), (.int (StrChars.hi8 c3))] := Or.inr ⟨rfl, rfl, rfl, by
            rcases hwd with z | z | z | z
            · exact ⟨c0, by simp, z⟩
            · exact ⟨c1, by simp, z⟩
            · exact ⟨c2, by simp, z⟩
            · exact ⟨c3, by simp, z⟩⟩
          have ltb := q4.lt
          refine own_of (T' := T909) (f' := (mkF m 144 #[.val (.int p0), .val (.int p1), .val (.int p2), .val (.int p3), .val (.int p4), .val (.int p5), .val (.int nn), .val (.int c0), .val (.int c1), .val (.int c2), .val (.int c3), .val (.ref ca), .val (.ref st), .unset, .unset] [])) (fun t_ k_ => (XS.astore X909.here hx rfl (Jvm.hb hby at_142) rfl rfl (l' := #[.val (.int p0), .val (.int p1), .val (.int p2), .val (.int p3), .val (.int p4), .val (.int p5), .val (.int nn), .val (.int c0), .val (.int c1), .val (.int c2), .val (.int c3), .val (.ref ca), .val (.ref st), .unset, .unset]) rfl k_)) ?_
          obtain ⟨T924, h924, X924, e924, E924, A924, D924, -, st924⟩ := newO X909 hx hZ hown (hw _ (List.mem_of_getElem? (i := 31) rfl)) (hw _ (List.mem_of_getElem? (i := 32) rfl)) (hw _ (List.mem_of_getElem? (i := 33) rfl)) rfl (g := (mkF m 144 #[.val (.int p0), .val (.int p1), .val (.int p2), .val (.int p3), .val (.int p4), .val (.int p5), .val (.int nn), .val (.int c0), .val (.int c1), .val (.int c2), .val (.int c3), .val (.ref ca), .val (.ref st), .unset, .unset] [])) rfl (Jvm.hb hby at_144) (by decide) (by decide)
          obtain ⟨rf, g924⟩ : ∃ z, z = T909.heap.size := ⟨_, rfl⟩
          rw [← g924] at A924 D924 st924
          have ne_st_rf : st ≠ rf := by rw [g924]; exact Nat.ne_of_lt q1.lt
          have ne_tb_rf : tb ≠ rf := by rw [g924]; exact Nat.ne_of_lt q4.lt
          have g_rf : n0 ≤ rf := Nat.le_trans f912 (Nat.le_of_eq g924.symm)
          have f925 := Nat.le_trans f911 E924.1
          have f926 := Nat.le_trans f912 E924.1
          have f927 := f913.ext E924
          have f928 := f914.ext E924
          have f929 := f915.ext E924
          have f930 := f916.ext E924
          have f931 := f917.ext E924
          have f932 := f918.ext E924
          have f933 := q1.ext E924
          have f934 := q2.ext E924
          have f935 := q3.ext E924
          have f936 := q4.ext E924
          have f937 : Fld Z h924 rf "com/example/austere_auth/austereauth/refusal/Refusal" "status" "I" (.int (0 : Int32)) := D924 (Or.inr (hw _ (List.mem_of_getElem? (i := 51) rfl))) (ty := .int) (by decide)
          have f938 : Fld Z h924 rf "com/example/austere_auth/austereauth/refusal/Refusal" "error" "Ljava/lang/String;" .null := D924 (Or.inr (hw _ (List.mem_of_getElem? (i := 53) rfl))) (ty := (.object "java/lang/String")) (by decide)
          have f939 : Fld Z h924 rf "com/example/austere_auth/austereauth/refusal/Refusal" "description" "Ljava/lang/String;" .null := D924 (Or.inr (hw _ (List.mem_of_getElem? (i := 55) rfl))) (ty := (.object "java/lang/String")) (by decide)
          have f940 : Fld Z h924 rf "com/example/austere_auth/austereauth/refusal/Refusal" "scope" "Ljava/lang/String;" .null := D924 (Or.inr (hw _ (List.mem_of_getElem? (i := 57) rfl))) (ty := (.object "java/lang/String")) (by decide)
          refine own_of (T' := T924) (f' := (mkF m 150 #[.val (.int p0), .val (.int p1), .val (.int p2), .val (.int p3), .val (.int p4), .val (.int p5), .val (.int nn), .val (.int c0), .val (.int c1), .val (.int c2), .val (.int c3), .val (.ref ca), .val (.ref st), .unset, .unset] [(.int p5), (.ref rf), (.ref rf)])) (fun t_ k_ => (st924 _ (XS.dup X924.here hx rfl (Jvm.hb hby at_147) rfl rfl (XS.iload X924.here hx rfl (Jvm.hb hby at_148) rfl k_)))) ?_
          obtain ⟨k1, T941, h941, k941, X941, e941, E941, hS, Y941, hZ, hown, st941⟩ := ldcS X924 hx hZ hown (hw _ (List.mem_of_getElem? (i := 34) rfl)) hwS e924 hS f925 (g := (mkF m 150 #[.val (.int p0), .val (.int p1), .val (.int p2), .val (.int p3), .val (.int p4), .val (.int p5), .val (.int nn), .val (.int c0), .val (.int c1), .val (.int c2), .val (.int c3), .val (.ref ca), .val (.ref st), .unset, .unset] [(.int p5), (.ref rf), (.ref rf)])) rfl (Jvm.hb hby at_150) (n := 60) (by decide) (by decide) (by decide) (by decide)
          have f942 := Nat.le_trans f926 E941.1
          have f943 := f927.ext E941
          have f944 := f928.ext E941
          have f945 := f929.ext E941
          have f946 := f930.ext E941
          have f947 := f931.ext E941
          have f948 := f932.ext E941
          have f949 := f933.ext E941
          have f950 := f934.ext E941
          have f951 := f935.ext E941
          have f952 := f936.ext E941
          have f953 := A924.ext E941
          have f954 := f937.ext E941
          have f955 := f938.ext E941
          have f956 := f939.ext E941
          have f957 := f940.ext E941
          refine own_of (T' := T941) (f' := (mkF m 152 #[.val (.int p0), .val (.int p1), .val (.int p2), .val (.int p3), .val (.int p4), .val (.int p5), .val (.int nn), .val (.int c0), .val (.int c1), .val (.int c2), .val (.int c3), .val (.ref ca), .val (.ref st), .unset, .unset] [(.ref k1), (.int p5), (.ref rf), (.ref rf)])) (fun t_ k_ => (st941 _ k_)) ?_
          obtain ⟨k2, T958, h958, k958, X958, e958, E958, hS, Y958, hZ, hown, st958⟩ := ldcS X941 hx hZ hown (hw _ (List.mem_of_getElem? (i := 37) rfl)) hwS e941 hS Y941 (g := (mkF m 152 #[.val (.int p0), .val (.int p1), .val (.int p2), .val (.int p3), .val (.int p4), .val (.int p5), .val (.int nn), .val (.int c0), .val (.int c1), .val (.int c2), .val (.int c3), .val (.ref ca), .val (.ref st), .unset, .unset] [(.ref k1), (.int p5), (.ref rf), (.ref rf)])) rfl (Jvm.hb hby at_152) (n := 56) (by decide) (by decide) (by decide) (by decide)
          have f959 := Nat.le_trans f942 E958.1
          have f960 := f943.ext E958
          have f961 := f944.ext E958
          have f962 := f945.ext E958
          have f963 := f946.ext E958
          have f964 := f947.ext E958
          have f965 := f948.ext E958
          have f966 := f949.ext E958
          have f967 := f950.ext E958
          have f968 := f951.ext E958
          have f969 := f952.ext E958
          have f970 := f953.ext E958
          have f971 := f954.ext E958
          have f972 := f955.ext E958
          have f973 := f956.ext E958
          have f974 := f957.ext E958
          refine own_of (T' := T958) (f' := (mkF m 154 #[.val (.int p0), .val (.int p1), .val (.int p2), .val (.int p3), .val (.int p4), .val (.int p5), .val (.int nn), .val (.int c0), .val (.int c1), .val (.int c2), .val (.int c3), .val (.ref ca), .val (.ref st), .unset, .unset] [(.ref k2), (.ref k1), (.int p5), (.ref rf), (.ref rf)])) (fun t_ k_ => (st958 _ k_)) ?_
          obtain ⟨_, _, ⟨T975, L975, k975, n975⟩, -, X975, ⟨Lc975, hQ975, l975, y975, z975⟩, st975⟩ := X958.specialBack hx (y := (⟨"com/example/austere_auth/austereauth/refusal/Refusal", "<init>", "(ILjava/lang/String;Ljava/lang/String;)V"⟩ : MethodName)) rfl hown (mvT hZ (hw _ (List.mem_of_getElem? (i := 38) rfl))) (mvT hZ (hw _ (List.mem_of_getElem? (i := 39) rfl))) (mvT hZ (hw _ (List.mem_of_getElem? (i := 40) rfl))) (by decide) (backOf (W := 1) (own_rm_r3 l Z a0 hw [] rf p5 k1 k2 h958 n0 f959 f971 f972 f973 f974 f970 g_rf) hZ (hw _ (List.mem_of_getElem? (i := 40) rfl)) (hw _ (List.mem_of_getElem? (i := 33) rfl)) (by decide) (by decide)) (g := (mkF m 154 #[.val (.int p0), .val (.int p1), .val (.int p2), .val (.int p3), .val (.int p4), .val (.int p5), .val (.int nn), .val (.int c0), .val (.int c1), .val (.int c2), .val (.int c3), .val (.ref ca), .val (.ref st), .unset, .unset] [(.ref k2), (.ref k1), (.int p5), (.ref rf), (.ref rf)])) rfl (by rw [hml]; rfl) (Steps.refl _) (a := rf) (argsL := [(.int p5), (.ref k1), (.ref k2)]) (rest := [(.ref rf)]) (lenOf own_pd_16 rfl) rfl (by show 2 * 0 + _ ≤ _; exact Nat.le_of_eq rfl) (Jvm.hb hby at_154) (fun _ _ => ⟨rfl, e958, Nat.le_of_ble_eq_true rfl, Nat.le_of_ble_eq_true rfl⟩)
          dsimp only [Pt.U, Pt.locs, Pt.cells, Pt.slots] at X975 l975 y975 z975 st975 hQ975
          subst l975 y975 z975
          obtain ⟨rfl, N975, K975⟩ := hQ975
          have N976 := Fr.app N910 N975
          have f977 := Nat.le_trans f959 K975.1
          have f978 := f960.keep K975 (allS g_rf all0)
          have f979 := own_stakeep f961 K975 (allS (own_plainE f970) all0)
          have f980 := own_stakeep f962 K975 (allS (own_plainE f970) all0)
          have f981 := own_stakeep f963 K975 (allS (own_plainE f970) all0)
          have f982 := own_stakeep f964 K975 (allS (own_plainE f970) all0)
          have f983 := own_stakeep f965 K975 (allS (own_plainE f970) all0)
          have f984 := f966.keep K975
          have f985 := f967.keep K975 (ninS ne_st_rf nin0)
          have f986 := f968.keep K975 (ninS ne_st_rf nin0)
          have f987 := f969.keep K975 (ninS ne_tb_rf nin0)
          have f988 := f970.keep K975
          have f993 := Nat.le_trans Y958 K975.1
          refine own_of (T' := T975) (f' := (mkF m 163 #[.val (.int p0), .val (.int p1), .val (.int p2), .val (.int p3), .val (.int p4), .val (.int p5), .val (.int nn), .val (.int c0), .val (.int c1), .val (.int c2), .val (.int c3), .val (.ref ca), .val (.ref st), .val (.ref rf), .unset] [(.ref rf), (.ref st)])) (fun t_ k_ => (st975.trans (XS.astore X975.here hx rfl (Jvm.hb hby at_157) rfl rfl (l' := #[.val (.int p0), .val (.int p1), .val (.int p2), .val (.int p3), .val (.int p4), .val (.int p5), .val (.int nn), .val (.int c0), .val (.int c1), .val (.int c2), .val (.int c3), .val (.ref ca), .val (.ref st), .val (.ref rf), .unset]) rfl (XS.aload X975.here hx rfl (Jvm.hb hby at_159) rfl rfl (XS.aload X975.here hx rfl (Jvm.hb hby at_161) rfl rfl k_))))) ?_
          obtain ⟨_, _, ⟨T994, L994, k994, n994⟩, -, X994, ⟨Lc994, hQ994, l994, y994, z994⟩, st994⟩ := Jvm.LawKit.callS X975 hx (y := (⟨"com/example/austere_auth/austereauth/refusal/Refusal", "requirePresent", "(Ljava/lang/String;Lcom/example/austere_auth/austereauth/refusal/Refusal;)Ljava/lang/String;"⟩ : MethodName)) hown (mvT hZ (hw _ (List.mem_of_getElem? (i := 58) rfl))) (mvT hZ (hw _ (List.mem_of_getElem? (i := 59) rfl))) (mvT hZ (hw _ (List.mem_of_getElem? (i := 33) rfl))) (mvT hZ (hw _ (List.mem_of_getElem? (i := 60) rfl))) (by decide) (backOf (W := 0) (own_rm_req l Z a0 hw [] st rf tb kt ([c0, c1, c2, c3] : List Int32) (1 : Int32) (8 : Int32) [(.int (StrChars.lo8 c0)), (.int (StrChars.hi8 c0)), (.int (StrChars.lo8 c1)), (.int (StrChars.hi8 c1)), (.int (StrChars.lo8 c2)), (.int (StrChars.hi8 c2)), (.int (StrChars.lo8 c3)), (.int (StrChars.hi8 c3))] T975.heap n0 f977 f984 f986 f985 f987 hco hr (Nat.le_of_ble_eq_true rfl) (by simp)) hZ (hw _ (List.mem_of_getElem? (i := 60) rfl)) (hw _ (List.mem_of_getElem? (i := 33) rfl)) (by decide) (by decide)) (g := (mkF m 163 #[.val (.int p0), .val (.int p1), .val (.int p2), .val (.int p3), .val (.int p4), .val (.int p5), .val (.int nn), .val (.int c0), .val (.int c1), .val (.int c2), .val (.int c3), .val (.ref ca), .val (.ref st), .val (.ref rf), .unset] [(.ref rf), (.ref st)])) rfl (by rw [hml]; rfl) (argsL := [(.ref st), (.ref rf)]) (rest := []) (lenOf own_pd_17 rfl) rfl (by show 2 * 0 + _ ≤ _; exact Nat.le_of_eq rfl) (Jvm.hb hby at_163) (fun _ _ => ⟨rfl, rfl, Nat.le_of_ble_eq_true rfl, Nat.le_of_ble_eq_true rfl⟩)
          dsimp only [Pt.U, Pt.locs, Pt.cells, Pt.slots] at X994 l994 y994 z994 st994 hQ994
          subst l994 y994 z994
          obtain ⟨rfl, N994, e994⟩ := hQ994
          have N995 := Fr.app N976 N994
          refine own_of (T' := T994) (f' := (mkF m 177 #[.val (.int p0), .val (.int p1), .val (.int p2), .val (.int p3), .val (.int p4), .val (.int p5), .val (.int nn), .val (.int c0), .val (.int c1), .val (.int c2), .val (.int c3), .val (.ref ca), .val (.ref st), .val (.ref rf), .val (.ref st)] [(.ref st)])) (fun t_ k_ => (st994 _ (XS.astore X994.here hx rfl (Jvm.hb hby at_166) rfl rfl (l' := #[.val (.int p0), .val (.int p1), .val (.int p2), .val (.int p3), .val (.int p4), .val (.int p5), .val (.int nn), .val (.int c0), .val (.int c1), .val (.int c2), .val (.int c3), .val (.ref ca), .val (.ref st), .val (.ref rf), .val (.ref st)]) rfl (XS.aload X994.here hx rfl (Jvm.hb hby at_168) rfl rfl (XS.aload X994.here hx rfl (Jvm.hb hby at_170) rfl rfl (Jvm.RoadKit.acmp (g := (mkF m 172 #[.val (.int p0), .val (.int p1), .val (.int p2), .val (.int p3), .val (.int p4), .val (.int p5), .val (.int nn), .val (.int c0), .val (.int c1), .val (.int c2), .val (.int c3), .val (.ref ca), .val (.ref st), .val (.ref rf), .val (.ref st)] [(.ref st), (.ref st)])) X994 hx rfl rfl rfl (pc0 := 172) (pc' := 175) (same := true) rfl (Jvm.hb hby at_172) rfl (decide_eq_true rfl) (by decide) (by decide) (XS.aload X994.here hx rfl (Jvm.hb hby at_175) rfl rfl k_))))))) ?_
          have hwL : ∀ d ∈ StrChars.Road.wordsLen, d.before a0 Z = true := fun d hd => hw d (own_wLen d hd)
          have hwC : ∀ d ∈ StrChars.Road.wordsChN, d.before a0 Z = true := fun d hd => hw d (own_wChN d hd)
          obtain ⟨cq997, kq997, q997a, q997b, q997c⟩ := isOf hZ e994 f984
          obtain ⟨_, _, ⟨T996, L996, k996, n996⟩, -, X996, ⟨Lc996, hQ996, l996, y996, z996⟩, st996⟩ := X994.virtualBack hx (y := (⟨"java/lang/String", "length", "()I"⟩ : MethodName)) (z := (⟨"java/lang/String", "length", "()I"⟩ : MethodName)) hown (mvT hZ (hw _ (List.mem_of_getElem? (i := 66) rfl))) (mvT hZ (hw _ (List.mem_of_getElem? (i := 67) rfl))) (notFace_of_selects (args := #[]) (mvT hZ (hw _ (List.mem_of_getElem? (i := 69) rfl)))) (mvT hZ (hw _ (List.mem_of_getElem? (i := 69) rfl))) (mvT hZ (hw _ (List.mem_of_getElem? (i := 68) rfl))) (by decide) (StrChars.Road.lenW (W := 0) hZ hwL (kI := 4) (hw _ (List.mem_of_getElem? (i := 3) rfl)) f984 f986 f985 f987 hco hr f979 P5 (Nat.le_of_ble_eq_true rfl) (by decide) (by decide)) q997a q997c (g := (mkF m 177 #[.val (.int p0), .val (.int p1), .val (.int p2), .val (.int p3), .val (.int p4), .val (.int p5), .val (.int nn), .val (.int c0), .val (.int c1), .val (.int c2), .val (.int c3), .val (.ref ca), .val (.ref st), .val (.ref rf), .val (.ref st)] [(.ref st)])) rfl (by rw [hml]; rfl) (Steps.refl _) (argsL := []) (rest := []) (lenOf own_pd_18 rfl) rfl (by show 2 * 0 + _ ≤ _; exact Nat.le_of_eq rfl) (Jvm.hb hby at_177) (fun _ _ => ⟨rfl, e994, Nat.le_of_ble_eq_true rfl, Nat.le_of_ble_eq_true rfl⟩)
          dsimp only [Pt.U, Pt.locs, Pt.cells, Pt.slots] at X996 l996 y996 z996 st996 hQ996
          subst l996 y996 z996
          obtain ⟨rfl, rfl, e996⟩ := hQ996
          have N996 : Fr n0 ([] : List Loc) := Fr.nil n0
          have N998 := Fr.app N995 N996
          refine own_of (T' := T996) (f' := (mkF m 188 #[.val (.int p0), .val (.int p1), .val (.int p2), .val (.int p3), .val (.int p4), .val (.int p5), .val (.int nn), .val (.int c0), .val (.int c1), .val (.int c2), .val (.int c3), .val (.ref ca), .val (.ref st), .val (.ref rf), .val (.ref st)] [(.int (0 : Int32)), (.ref st)])) (fun t_ k_ => (st996.trans (XS.iload X996.here hx rfl (Jvm.hb hby at_180) rfl (XS.icmpNo X996.here hx rfl (Jvm.hb hby at_182) rfl (teq hn).2 (XS.aload X996.here hx rfl (Jvm.hb hby at_185) rfl rfl (XS.iconst X996.here hx rfl (Jvm.hb hby at_187) k_)))))) ?_
          obtain ⟨cq1000, kq1000, q1000a, q1000b, q1000c⟩ := isOf hZ e996 f984
          obtain ⟨_, _, ⟨T999, L999, k999, n999⟩, -, X999, ⟨Lc999, hQ999, l999, y999, z999⟩, st999⟩ := X996.virtualBack hx (y := (⟨"java/lang/String", "charAt", "(I)C"⟩ : MethodName)) (z := (⟨"java/lang/String", "charAt", "(I)C"⟩ : MethodName)) hown (mvT hZ (hw _ (List.mem_of_getElem? (i := 76) rfl))) (mvT hZ (hw _ (List.mem_of_getElem? (i := 77) rfl))) (notFace_of_selects (args := #[]) (mvT hZ (hw _ (List.mem_of_getElem? (i := 79) rfl)))) (mvT hZ (hw _ (List.mem_of_getElem? (i := 79) rfl))) (mvT hZ (hw _ (List.mem_of_getElem? (i := 78) rfl))) (by decide) (backOf (W := 0) (own_rm_cha l Z a0 hw [] st (0 : Int32) kt (8 : Int32) [(.int (StrChars.lo8 c0)), (.int (StrChars.hi8 c0)), (.int (StrChars.lo8 c1)), (.int (StrChars.hi8 c1)), (.int (StrChars.lo8 c2)), (.int (StrChars.hi8 c2)), (.int (StrChars.lo8 c3)), (.int (StrChars.hi8 c3))] fm c0 tb G1 T975.heap n0 f977 f981 f982 f983 f979 P5 f984 f986 f985 f987 f980 rfm rfl rfl rc0 rfl (by decide) (by decide) (by decide)) hZ (hw _ (List.mem_of_getElem? (i := 80) rfl)) (hw _ (List.mem_of_getElem? (i := 4) rfl)) (by decide) (by decide)) q1000a q1000c (g := (mkF m 188 #[.val (.int p0), .val (.int p1), .val (.int p2), .val (.int p3), .val (.int p4), .val (.int p5), .val (.int nn), .val (.int c0), .val (.int c1), .val (.int c2), .val (.int c3), .val (.ref ca), .val (.ref st), .val (.ref rf), .val (.ref st)] [(.int (0 : Int32)), (.ref st)])) rfl (by rw [hml]; rfl) (Steps.refl _) (argsL := [(.int (0 : Int32))]) (rest := []) (lenOf own_pd_19 rfl) rfl (by show 2 * 0 + _ ≤ _; exact Nat.le_of_eq rfl) (Jvm.hb hby at_188) (fun _ _ => ⟨rfl, e996, Nat.le_of_ble_eq_true rfl, Nat.le_of_ble_eq_true rfl⟩)
          dsimp only [Pt.U, Pt.locs, Pt.cells, Pt.slots] at X999 l999 y999 z999 st999 hQ999
          subst l999 y999 z999
          obtain ⟨rfl, N999, e999⟩ := hQ999
          have N1001 := Fr.app N998 N999
          refine own_of (T' := T999) (f' := (mkF m 201 #[.val (.int p0), .val (.int p1), .val (.int p2), .val (.int p3), .val (.int p4), .val (.int p5), .val (.int nn), .val (.int c0), .val (.int c1), .val (.int c2), .val (.int c3), .val (.ref ca), .val (.ref st), .val (.ref rf), .val (.ref st)] [(.int (1 : Int32))])) (fun t_ k_ => (st999.trans (XS.iload X999.here hx rfl (Jvm.hb hby at_191) rfl (XS.icmpNo X999.here hx rfl (Jvm.hb hby at_193) rfl (teq rfl).2 (XS.iconst X999.here hx rfl (Jvm.hb hby at_196) (XS.goto X999.here hx rfl (pc0 := 197) (pc' := 201) rfl (Jvm.hb hby at_197) (by decide) (by decide) k_)))))) ?_
          obtain ⟨fs, hr, hrun, hended, hEnd⟩ := X999.leaveW hS (by rw [e999]; exact f993) (v := some (.int (1 : Int32))) (fun h => by rw [Bd.returns] at h; cases h)
          exact ⟨_, _, retN X999 hx (t := .boolean) Bd.returns (by simp) (Jvm.hb hby at_201) hr, hrun, hended, _, _, rfl, (by show own_Q_0 Z p0 p1 p2 p3 p4 p5 G1 fm h0 n0 _ T999.heap _; rw [e999]; exact ⟨rfl, N1001⟩), hEnd.1, hEnd.2.1, hEnd.2.2.1, hEnd.2.2.2.mono (by decide) (by decide)⟩
theorem own_eqv {args : Array Value} {s : State} {t : Term} {k : Int32} (h : (Jvm.Cond.eq t (.int k)).before args s = true) : t.eval args s none [] s = some (.int k) := by
  have h' := Cond.before_iff.mp h
  obtain ⟨x, y, h1, h2, k1, k2⟩ := cmp_v (Or.inl h')
  have hy : y = .int k := (Option.some.inj h2).symm
  subst hy
  obtain ⟨z, rfl⟩ := k2
  have e := gotT (Cond.eq_ints h1 h2) h'
  subst e
  exact h1
set_option maxRecDepth 65536 in
set_option maxHeartbeats 40000000 in
theorem own_comes_1 {Post : Tables → Env → Array Value → State → Outcome → State → Prop} (hpost : ∀ tb e args s v u, (limb_1_1.after args s (.returned v) u = true ∧ limb_1_2.after args s (.returned v) u = true ∧ True) → ReturnedEndW s (.returned v) u (Jvm.fieldLocs frame_1_writes args s ++ Jvm.arrayLocs frame_1_arrays args s ++ Jvm.staticLocs frame_1_statics s) 24 2176 → Post tb e args s (.returned v) u) :
    ArmFor flags0 classFile x code maxLocals ret World_1 tables_1 room_1 Calls_1 rest_1 Pre_1 Post := by
  intro l hfl _ _ p e ha hc hk s m args below hf hA hF happ hP
  obtain ⟨hcalls, hrest, hpre⟩ := hP
  obtain ⟨-, -, -, hnamed, -, -, -, hat⟩ := (Spec.applies_iff hf).mp happ
  obtain ⟨hg, hn⟩ := and_e (Cond.before_iff.mp (show (Jvm.Cond.and given_1 narrow_1).before args s = true from hpre))
  obtain ⟨hg0, hg⟩ := and_e hg
  obtain ⟨ga0, hg⟩ := and_e hg
  obtain ⟨ga1, hg⟩ := and_e hg
  obtain ⟨ga2, hg⟩ := and_e hg
  obtain ⟨ga3, hg⟩ := and_e hg
  obtain ⟨ga4, hg⟩ := and_e hg
  have ga5 := hg
  obtain ⟨w0, w1, w2, w3, w4, w5, rfl⟩ : ∃ w0 w1 w2 w3 w4 w5 : Value, args = #[w0, w1, w2, w3, w4, w5] := by
    have hs : args.size = 6 := by simpa [Cond.value, given_1] using hg0
    obtain ⟨L⟩ := args
    match L, hs with
    | [w0, w1, w2, w3, w4, w5], _ => exact ⟨w0, w1, w2, w3, w4, w5, rfl⟩
  have hw := fun d (hd : d ∈ tables_1) => atoms_spec (ws := Jvm.Cond.code x code maxLocals ret :: tables_1) hat d (List.mem_cons_of_mem _ hd)
  have hfit : Fit s := fun {y c} hc i hi => by
    obtain ⟨ha, rfl⟩ := Array.getElem?_eq_some_iff.mp hc
    have q := List.all_eq_true.mp ((Array.all_eq_true_iff_forall_mem.mp hF) _ (Array.getElem_mem ha)) i (List.mem_range.mpr hi)
    simpa [Array.getElem?_eq_getElem hi] using q
  obtain ⟨hsets, hown0⟩ := atoms_of _ (rest_1_c_eq ▸ (show rest_1_c.before _ s = true from hrest))
  have hr0 := Cond.before_iff.mp hown0
  obtain ⟨i0, ei0⟩ := is_v ga0
  obtain rfl : w0 = (.int i0) := Option.some.inj ei0
  obtain ⟨i1, ei1⟩ := is_v ga1
  obtain rfl : w1 = (.int i1) := Option.some.inj ei1
  obtain ⟨i2, ei2⟩ := is_v ga2
  obtain rfl : w2 = (.int i2) := Option.some.inj ei2
  obtain ⟨i3, ei3⟩ := is_v ga3
  obtain rfl : w3 = (.int i3) := Option.some.inj ei3
  obtain ⟨i4, ei4⟩ := is_v ga4
  obtain rfl : w4 = (.int i4) := Option.some.inj ei4
  obtain ⟨i5, ei5⟩ := is_v ga5
  obtain rfl : w5 = (.int i5) := Option.some.inj ei5
  obtain ⟨G1, e6⟩ := is_v (Cond.before_iff.mp (hsets _ (List.mem_of_getElem? (i := 1) rfl)))
  have O2 : Sta s s.heap "java/lang/String" "COMPACT_STRINGS" "Z" (.int G1) := Sta.start e6 (Or.inl (hsets _ (List.mem_of_getElem? (i := 0) rfl)))
  have P5 : ¬ (G1 = (0 : Int32)) := gotF (Cond.eq_ints e6 (Term.int_eval 0)) (not_v (Cond.before_iff.mp (hsets _ (List.mem_of_getElem? (i := 2) rfl))))
  obtain ⟨fm, e8, rfm⟩ := isR_v (Cond.before_iff.mp (hsets _ (List.mem_of_getElem? (i := 8) rfl)))
  have SF : Sta s s.heap "jdk/internal/util/Preconditions" "SIOOBE_FORMATTER" "Ljava/util/function/BiFunction;" fm := Sta.start e8 (Or.inl (hsets _ (List.mem_of_getElem? (i := 7) rfl)))
  have S1 : Sta s s.heap "java/lang/StringUTF16" "$assertionsDisabled" "Z" (.int 1) := Sta.start (own_eqv (hsets _ (List.mem_of_getElem? (i := 12) rfl))) (Or.inl (hsets _ (List.mem_of_getElem? (i := 11) rfl)))
  have S2 : Sta s s.heap "java/lang/StringUTF16" "HI_BYTE_SHIFT" "I" (.int 0) := Sta.start (own_eqv (hsets _ (List.mem_of_getElem? (i := 15) rfl))) (Or.inl (hsets _ (List.mem_of_getElem? (i := 14) rfl)))
  have S3 : Sta s s.heap "java/lang/StringUTF16" "LO_BYTE_SHIFT" "I" (.int 8) := Sta.start (own_eqv (hsets _ (List.mem_of_getElem? (i := 18) rfl))) (Or.inl (hsets _ (List.mem_of_getElem? (i := 17) rfl)))
  obtain ⟨n, o, h1, h2, h3, _, L, rfl, ⟨rfl, N⟩, hq⟩ := own_rm_0 l s _ hw tables_1 i0 i1 i2 i3 i4 i5 G1 fm s.heap s.heap.size (Nat.le_refl _) O2 (Old.start s) O2 P5 S1 S2 S3 SF rfm p e ha hc hk s m _ below hf ((Spec.applies_iff_loose hf).mp happ).1 ⟨rfl, State.Warmed39.refl s, rfl⟩ trivial
  refine ⟨n, _, h1, h2, h3, hpost _ _ _ _ _ _ ⟨Cond.after_iff.mpr rfl, Cond.after_iff.mpr (eq_i res_at (Term.int_eval (1)) rfl), trivial⟩ ⟨hq.1, hq.2.1, hq.2.2.1, (hq.2.2.2.sift fun y hy => Or.inr (N y hy)).mono (by decide) (by decide)⟩⟩
theorem main_1_1 : Claimed_1_1 := own_comes_1 fun _ _ _ _ _ _ h hF => ⟨h.1, hF⟩
theorem main_1_2 : Claimed_1_2 := own_comes_1 fun _ _ _ _ _ _ h hF => ⟨h.2.1, hF⟩
end Jvm.Pilot.@@N@@
namespace Jvm.Pilot.@@N@@
open Jvm Jvm.ClassFile Sem Op Lib Jvm.Free Jvm.Stand Jvm.Pilot.@@N@@.Jvm.D
/-! MADE BY PROGRAM (witnessworld.py) out of the Statement's table words and the real class files: 21 classes; the members and pool entries that the words name. The judged class is class 1, her method 1. -/
namespace start1
open Jvm.ClassFile
def u (s : String) : CpInfo := .utf8 (stringToUtf16 s)
/-- a pool by its gaps: so many unusable entries, then the entry; so many at the end -/
def gap : Nat → List CpInfo → List CpInfo
  | 0, r => r
  | n + 1, r => .unusable :: gap n r
def poolList (es : List (Nat × CpInfo)) (last : Nat) : List CpInfo := es.foldr (fun e r => gap e.1 (e.2 :: r)) (gap last [])
def pool (es : List (Nat × CpInfo)) (last : Nat) : Array CpInfo := ⟨poolList es last⟩
def fileOf (pool : Array CpInfo) (this : Nat) (attrs : Array Attribute := #[]) (ms : Array MethodInfo := #[]) (fl : Nat := 33) (sup : Nat := 0) (ifs : Array Nat := #[]) (fds : Array FieldInfo := #[]) : ClassFile where
  minorVersion := 0
  majorVersion := 65
  constantPool := pool
  accessFlags := fl
  thisClass := this
  superClass := sup
  interfaces := ifs
  fields := fds
  methods := ms
  attributes := attrs
def plain (name : String) (sup : Option ClassId) : Class where
  name := name
  kind := .ordinary
  loader := none
  accessFlags := 33
  super := sup
  interfaces := #[]
  cf := none
  fields := #[]
  methods := #[]
  instanceTypes := #[]
  staticTypes := #[]
  resolved := #[]
  callSites := []
  init := .initialized
  statics := none
  mirror := none

def pool0 : Array CpInfo := pool [(5, u "<init>"), (0, u "()V"), (1, .class_ 10), (1, u "java/lang/Object")] 113

def k0c0 : Code := { maxStack := 0, maxLocals := 1, code := object_method_1_code, exceptionTable := #[], attributes := #[] }
def k0m0 : Method := { name := "<init>", desc := "()V", sig := { parameters := [], returnType := none }, accessFlags := 1, code := some k0c0 }
/-- java/lang/Object -/
def k0 : Class := { plain "java/lang/Object" none with
  accessFlags := 33
  interfaces := #[]
  cf := some (fileOf pool0 8 #[] #[{ accessFlags := 1, nameIndex := 5, descriptorIndex := 6, attributes := #[] }] 33 0 #[] #[])
  fields := #[]
  methods := #[k0m0]
  instanceTypes := #[]
  staticTypes := #[]
  resolved := Array.replicate 124 none
  statics := none }

def pool1 : Array CpInfo := pool [(2, .class_ 4), (1, u "java/lang/Object"), (0, u "<init>"), (0, u "()V"), (0, .integer 65535), (0, .class_ 9), (0, u "java/lang/String"), (0, .methodref 8 11), (0, .nameAndType 5 12), (0, u "([C)V"), (0, .class_ 14), (0, u "com/example/austere_auth/austereauth/refusal/Refusal"), (0, .string 16), (0, u "invalid_request"), (0, .string 18), (0, u "can't be blank"), (0, .methodref 13 20), (0, .nameAndType 5 21), (0, u "(ILjava/lang/String;Ljava/lang/String;)V"), (0, .methodref 13 23), (0, .nameAndType 24 25), (0, u "requirePresent"), (0, u "(Ljava/lang/String;Lcom/example/austere_auth/austereauth/refusal/Refusal;)Ljava/lang/String;"), (0, .methodref 8 27), (0, .nameAndType 28 29), (0, u "length"), (0, u "()I"), (0, .methodref 8 31), (0, .nameAndType 32 33), (0, u "charAt"), (0, u "(I)C"), (0, .class_ 35), (0, u "com/example/austere_auth/austereauth/refusal/RefusalRequirePresentPinLaw"), (2, u "law"), (0, u "(IIIIII)Z")] 8

def k1m0 : Method := { name := "<init>", desc := "()V", sig := { parameters := [], returnType := none }, accessFlags := 2, code := none }
def k1c1 : Code := { maxStack := 5, maxLocals := 15, code := code, exceptionTable := #[], attributes := #[] }
def k1m1 : Method := { name := "law", desc := "(IIIIII)Z", sig := { parameters := [.int, .int, .int, .int, .int, .int], returnType := some .boolean }, accessFlags := 9, code := some k1c1 }
/-- com/example/austere_auth/austereauth/refusal/RefusalRequirePresentPinLaw -/
def k1 : Class := { plain "com/example/austere_auth/austereauth/refusal/RefusalRequirePresentPinLaw" (some 0) with
  accessFlags := 49
  interfaces := #[]
  cf := some (fileOf pool1 34 #[] #[{ accessFlags := 2, nameIndex := 5, descriptorIndex := 6, attributes := #[] }, { accessFlags := 9, nameIndex := 38, descriptorIndex := 39, attributes := #[] }] 49 2 #[] #[])
  fields := #[]
  methods := #[k1m0, k1m1]
  instanceTypes := #[]
  staticTypes := #[]
  resolved := Array.replicate 48 none
  statics := none }

def pool2 : Array CpInfo := pool [(1, .class_ 2), (0, u "java/io/Serializable"), (0, .class_ 4), (0, u "java/lang/Object")] 2

/-- java/io/Serializable -/
def k2 : Class := { plain "java/io/Serializable" (some 0) with
  accessFlags := 1537
  interfaces := #[]
  cf := some (fileOf pool2 1 #[] #[] 1537 3 #[] #[])
  fields := #[]
  methods := #[]
  instanceTypes := #[]
  staticTypes := #[]
  resolved := Array.replicate 7 none
  statics := none }

def pool3 : Array CpInfo := pool [(1, .class_ 2), (0, u "java/lang/Comparable"), (0, .class_ 4), (0, u "java/lang/Object")] 7

/-- java/lang/Comparable -/
def k3 : Class := { plain "java/lang/Comparable" (some 0) with
  accessFlags := 1537
  interfaces := #[]
  cf := some (fileOf pool3 1 #[] #[] 1537 3 #[] #[])
  fields := #[]
  methods := #[]
  instanceTypes := #[]
  staticTypes := #[]
  resolved := Array.replicate 12 none
  statics := none }

def pool4 : Array CpInfo := pool [(2, .class_ 4), (1, u "java/lang/CharSequence"), (42, .class_ 48), (0, u "java/lang/CharSequence$1CodePointIterator"), (10, .class_ 60), (0, u "java/lang/CharSequence$1CharIterator"), (5, .class_ 67), (0, u "java/lang/Object")] 63

/-- java/lang/CharSequence -/
def k4 : Class := { plain "java/lang/CharSequence" (some 0) with
  accessFlags := 1537
  interfaces := #[]
  cf := some (fileOf pool4 2 #[.nestMembers #[47, 59]] #[] 1537 66 #[] #[])
  fields := #[]
  methods := #[]
  instanceTypes := #[]
  staticTypes := #[]
  resolved := Array.replicate 131 none
  statics := none }

def pool5 : Array CpInfo := pool [(1, .class_ 2), (0, u "java/lang/constant/Constable"), (0, .class_ 4), (0, u "java/lang/Object")] 6

/-- java/lang/constant/Constable -/
def k5 : Class := { plain "java/lang/constant/Constable" (some 0) with
  accessFlags := 1537
  interfaces := #[]
  cf := some (fileOf pool5 1 #[] #[] 1537 3 #[] #[])
  fields := #[]
  methods := #[]
  instanceTypes := #[]
  staticTypes := #[]
  resolved := Array.replicate 11 none
  statics := none }

def pool6 : Array CpInfo := pool [(1, .class_ 2), (0, u "java/lang/constant/ConstantDesc"), (0, .class_ 4), (0, u "java/lang/Object")] 32

/-- java/lang/constant/ConstantDesc -/
def k6 : Class := { plain "java/lang/constant/ConstantDesc" (some 0) with
  accessFlags := 1537
  interfaces := #[]
  cf := some (fileOf pool6 1 #[] #[] 1537 3 #[] #[])
  fields := #[]
  methods := #[]
  instanceTypes := #[]
  staticTypes := #[]
  resolved := Array.replicate 37 none
  statics := none }

def pool7 : Array CpInfo := pool [(1, .methodref 2 3), (0, .class_ 4), (0, .nameAndType 5 6), (0, u "java/lang/Object"), (0, u "<init>"), (0, u "()V"), (2, .fieldref 10 11), (0, .class_ 12), (0, .nameAndType 13 14), (0, u "java/lang/String"), (0, u "value"), (0, u "[B"), (0, .fieldref 10 16), (0, .nameAndType 17 18), (0, u "coder"), (0, u "B"), (2, u "hash"), (0, u "I"), (2, u "hashIsZero"), (0, u "Z"), (0, .methodref 10 28), (0, .nameAndType 5 29), (0, u "([CIILjava/lang/Void;)V"), (8, .fieldref 10 39), (0, .nameAndType 40 26), (0, u "COMPACT_STRINGS"), (1, .class_ 44), (1, u "java/lang/StringUTF16"), (0, u "compress"), (1, .methodref 42 48), (0, .nameAndType 49 50), (0, u "coderFromArrayLen"), (0, u "([BI)B"), (56, .class_ 109), (1, u "java/lang/StringLatin1"), (32, u "()Z"), (34, .methodref 42 178), (0, .nameAndType 45 179), (0, u "([CII)[B"), (154, u "()I"), (0, .methodref 10 336), (0, .nameAndType 17 337), (0, u "()B"), (25, u "([BI)C"), (27, u "(II)V"), (35, u "(I)C"), (64, .methodref 10 493), (0, .nameAndType 494 142), (0, u "isLatin1"), (0, .methodref 107 496), (0, .nameAndType 497 363), (0, u "charAt"), (0, .methodref 42 496), (2, u "checkIndex"), (5, u "length"), (67, .class_ 576), (0, u "java/lang/CharSequence"), (22, u "CASE_INSENSITIVE_ORDER"), (0, u "Ljava/util/Comparator;"), (91, u "isEmpty"), (317, u "([C)V"), (42, .fieldref 1054 1055), (0, .class_ 1056), (0, .nameAndType 1057 1058), (0, u "jdk/internal/util/Preconditions"), (0, u "SIOOBE_FORMATTER"), (0, u "Ljava/util/function/BiFunction;"), (0, .methodref 1054 1060), (0, .nameAndType 501 1061), (0, u "(IILjava/util/function/BiFunction;)I"), (39, u "serialPersistentFields"), (0, u "[Ljava/io/ObjectStreamField;"), (0, .class_ 1104), (0, u "java/lang/String$CaseInsensitiveComparator"), (1, .class_ 1107), (0, u "java/io/Serializable"), (0, .class_ 1109), (0, u "java/lang/Comparable"), (0, .class_ 1111), (0, u "java/lang/constant/Constable"), (0, .class_ 1113), (0, u "java/lang/constant/ConstantDesc"), (2, u "serialVersionUID"), (0, u "J"), (3, u "REPL"), (0, u "C"), (2, u "LATIN1"), (1, u "UTF16")] 323

def k7m0 : Method := { name := "<init>", desc := "()V", sig := { parameters := [], returnType := none }, accessFlags := 1, code := none }
def k7c1 : Code := { maxStack := 5, maxLocals := 2, code := jdk_42_method_3_code, exceptionTable := #[], attributes := #[] }
def k7m1 : Method := { name := "<init>", desc := "([C)V", sig := { parameters := [(.array .char)], returnType := none }, accessFlags := 1, code := some k7c1 }
def k7c2 : Code := { maxStack := 2, maxLocals := 1, code := jdk_42_method_54_code, exceptionTable := #[], attributes := #[] }
def k7m2 : Method := { name := "length", desc := "()I", sig := { parameters := [], returnType := some .int }, accessFlags := 1, code := some k7c2 }
def k7c3 : Code := { maxStack := 1, maxLocals := 1, code := jdk_42_method_55_code, exceptionTable := #[], attributes := #[] }
def k7m3 : Method := { name := "isEmpty", desc := "()Z", sig := { parameters := [], returnType := some .boolean }, accessFlags := 1, code := some k7c3 }
def k7c4 : Code := { maxStack := 2, maxLocals := 2, code := jdk_42_method_56_code, exceptionTable := #[], attributes := #[] }
def k7m4 : Method := { name := "charAt", desc := "(I)C", sig := { parameters := [.int], returnType := some .char }, accessFlags := 1, code := some k7c4 }
def k7c5 : Code := { maxStack := 4, maxLocals := 6, code := jdk_42_method_149_code, exceptionTable := #[], attributes := #[] }
def k7m5 : Method := { name := "<init>", desc := "([CIILjava/lang/Void;)V", sig := { parameters := [(.array .char), .int, .int, (.object "java/lang/Void")], returnType := none }, accessFlags := 2, code := some k7c5 }
def k7c6 : Code := { maxStack := 1, maxLocals := 1, code := jdk_42_method_152_code, exceptionTable := #[], attributes := #[] }
def k7m6 : Method := { name := "coder", desc := "()B", sig := { parameters := [], returnType := some .byte }, accessFlags := 0, code := some k7c6 }
def k7c7 : Code := { maxStack := 1, maxLocals := 1, code := jdk_42_method_154_code, exceptionTable := #[], attributes := #[] }
def k7m7 : Method := { name := "isLatin1", desc := "()Z", sig := { parameters := [], returnType := some .boolean }, accessFlags := 0, code := some k7c7 }
def k7c8 : Code := { maxStack := 3, maxLocals := 2, code := jdk_42_method_155_code, exceptionTable := #[], attributes := #[] }
def k7m8 : Method := { name := "checkIndex", desc := "(II)V", sig := { parameters := [.int, .int], returnType := none }, accessFlags := 8, code := some k7c8 }
/-- java/lang/String -/
def k7 : Class := { plain "java/lang/String" (some 0) with
  accessFlags := 49
  interfaces := #[2, 3, 4, 5, 6]
  cf := some (fileOf pool7 10 #[.nestMembers #[1103]] #[{ accessFlags := 1, nameIndex := 5, descriptorIndex := 6, attributes := #[] }, { accessFlags := 1, nameIndex := 5, descriptorIndex := 1010, attributes := #[] }, { accessFlags := 1, nameIndex := 507, descriptorIndex := 334, attributes := #[] }, { accessFlags := 1, nameIndex := 692, descriptorIndex := 142, attributes := #[] }, { accessFlags := 1, nameIndex := 497, descriptorIndex := 427, attributes := #[] }, { accessFlags := 2, nameIndex := 5, descriptorIndex := 29, attributes := #[] }, { accessFlags := 0, nameIndex := 17, descriptorIndex := 337, attributes := #[] }, { accessFlags := 0, nameIndex := 494, descriptorIndex := 142, attributes := #[] }, { accessFlags := 8, nameIndex := 501, descriptorIndex := 391, attributes := #[] }] 49 2 #[1106, 1108, 575, 1110, 1112] #[{ accessFlags := 18, nameIndex := 13, descriptorIndex := 14, attributes := #[] }, { accessFlags := 18, nameIndex := 17, descriptorIndex := 18, attributes := #[] }, { accessFlags := 2, nameIndex := 21, descriptorIndex := 22, attributes := #[] }, { accessFlags := 2, nameIndex := 25, descriptorIndex := 26, attributes := #[] }, { accessFlags := 26, nameIndex := 1116, descriptorIndex := 1117, attributes := #[] }, { accessFlags := 24, nameIndex := 40, descriptorIndex := 26, attributes := #[] }, { accessFlags := 26, nameIndex := 1101, descriptorIndex := 1102, attributes := #[] }, { accessFlags := 26, nameIndex := 1121, descriptorIndex := 1122, attributes := #[] }, { accessFlags := 25, nameIndex := 599, descriptorIndex := 600, attributes := #[] }, { accessFlags := 24, nameIndex := 1125, descriptorIndex := 18, attributes := #[] }, { accessFlags := 24, nameIndex := 1127, descriptorIndex := 18, attributes := #[] }])
  fields := #[{ name := "value", type := (.array .byte), accessFlags := 18, slot := 0, constantValue := 0 }, { name := "coder", type := .byte, accessFlags := 18, slot := 1, constantValue := 0 }, { name := "hash", type := .int, accessFlags := 2, slot := 2, constantValue := 0 }, { name := "hashIsZero", type := .boolean, accessFlags := 2, slot := 3, constantValue := 0 }, { name := "serialVersionUID", type := .long, accessFlags := 26, slot := 0, constantValue := 0 }, { name := "COMPACT_STRINGS", type := .boolean, accessFlags := 24, slot := 1, constantValue := 0 }, { name := "serialPersistentFields", type := (.array (.object "java/io/ObjectStreamField")), accessFlags := 26, slot := 2, constantValue := 0 }, { name := "REPL", type := .char, accessFlags := 26, slot := 3, constantValue := 0 }, { name := "CASE_INSENSITIVE_ORDER", type := (.object "java/util/Comparator"), accessFlags := 25, slot := 4, constantValue := 0 }, { name := "LATIN1", type := .byte, accessFlags := 24, slot := 5, constantValue := 0 }, { name := "UTF16", type := .byte, accessFlags := 24, slot := 6, constantValue := 0 }]
  methods := #[k7m0, k7m1, k7m2, k7m3, k7m4, k7m5, k7m6, k7m7, k7m8]
  instanceTypes := #[(.array .byte), .byte, .int, .boolean]
  staticTypes := #[.long, .boolean, (.array (.object "java/io/ObjectStreamField")), .char, (.object "java/util/Comparator"), .byte, .byte]
  resolved := Array.replicate 1451 none
  statics := some 0 }

def pool8 : Array CpInfo := pool [(3, .class_ 4), (0, u "java/lang/String"), (1, .class_ 8), (1, u "java/lang/Object"), (0, u "<init>"), (0, u "()V"), (0, .methodref 12 13), (0, .class_ 14), (0, .nameAndType 15 16), (0, u "java/lang/StringUTF16"), (0, u "newBytesLength"), (0, u "(I)I"), (3, .integer 1073741823), (23, .fieldref 12 45), (0, .nameAndType 46 47), (0, u "$assertionsDisabled"), (0, u "Z"), (0, .methodref 12 49), (0, .nameAndType 50 51), (0, u "length"), (0, u "([B)I"), (7, .fieldref 12 60), (0, .nameAndType 61 62), (0, u "HI_BYTE_SHIFT"), (0, u "I"), (0, .fieldref 12 64), (0, .nameAndType 65 62), (0, u "LO_BYTE_SHIFT"), (1, .methodref 12 68), (0, .nameAndType 69 70), (0, u "checkIndex"), (0, u "(I[B)V"), (0, .methodref 12 72), (0, .nameAndType 73 74), (0, u "getChar"), (0, u "([BI)C"), (32, .methodref 12 108), (0, .nameAndType 109 110), (0, u "newBytesFor"), (0, u "(I)[B"), (0, .methodref 12 112), (0, .nameAndType 113 114), (0, u "putChar"), (0, u "([BII)V"), (0, .methodref 12 116), (0, .nameAndType 117 118), (0, u "compress"), (0, u "([CI[BII)I"), (0, .methodref 12 120), (0, .nameAndType 121 122), (0, u "toBytes"), (0, u "([CII)[B"), (138, u "coderFromArrayLen"), (0, u "([BI)B"), (106, .class_ 371), (1, u "java/lang/StringUTF16$LinesSpliterator"), (20, u "charAt"), (21, .methodref 3 415), (0, .nameAndType 69 416), (0, u "(II)V"), (13, u "MAX_LENGTH"), (196, .class_ 628), (0, u "java/lang/StringUTF16$CodePointsSpliterator"), (0, .class_ 630), (0, u "java/lang/StringUTF16$CharsSpliterator")] 4

def k8m0 : Method := { name := "<init>", desc := "()V", sig := { parameters := [], returnType := none }, accessFlags := 0, code := none }
def k8c1 : Code := { maxStack := 1, maxLocals := 1, code := jdk_52_method_2_code, exceptionTable := #[], attributes := #[] }
def k8m1 : Method := { name := "newBytesFor", desc := "(I)[B", sig := { parameters := [.int], returnType := some (.array .byte) }, accessFlags := 9, code := some k8c1 }
def k8c2 : Code := { maxStack := 4, maxLocals := 1, code := jdk_52_method_3_code, exceptionTable := #[], attributes := #[] }
def k8m2 : Method := { name := "newBytesLength", desc := "(I)I", sig := { parameters := [.int], returnType := some .int }, accessFlags := 9, code := some k8c2 }
def k8c3 : Code := { maxStack := 4, maxLocals := 3, code := jdk_52_method_4_code, exceptionTable := #[], attributes := #[] }
def k8m3 : Method := { name := "putChar", desc := "([BII)V", sig := { parameters := [(.array .byte), .int, .int], returnType := none }, accessFlags := 8, code := some k8c3 }
def k8c4 : Code := { maxStack := 3, maxLocals := 2, code := jdk_52_method_5_code, exceptionTable := #[], attributes := #[] }
def k8m4 : Method := { name := "getChar", desc := "([BI)C", sig := { parameters := [(.array .byte), .int], returnType := some .char }, accessFlags := 8, code := some k8c4 }
def k8c5 : Code := { maxStack := 2, maxLocals := 1, code := jdk_52_method_6_code, exceptionTable := #[], attributes := #[] }
def k8m5 : Method := { name := "length", desc := "([B)I", sig := { parameters := [(.array .byte)], returnType := some .int }, accessFlags := 9, code := some k8c5 }
def k8c6 : Code := { maxStack := 4, maxLocals := 5, code := jdk_52_method_14_code, exceptionTable := #[], attributes := #[] }
def k8m6 : Method := { name := "toBytes", desc := "([CII)[B", sig := { parameters := [(.array .char), .int, .int], returnType := some (.array .byte) }, accessFlags := 9, code := some k8c6 }
def k8c7 : Code := { maxStack := 2, maxLocals := 2, code := jdk_52_method_15_code, exceptionTable := #[], attributes := #[] }
def k8m7 : Method := { name := "coderFromArrayLen", desc := "([BI)B", sig := { parameters := [(.array .byte), .int], returnType := some .byte }, accessFlags := 8, code := some k8c7 }
def k8c8 : Code := { maxStack := 5, maxLocals := 6, code := jdk_52_method_16_code, exceptionTable := #[], attributes := #[] }
def k8m8 : Method := { name := "compress", desc := "([CII)[B", sig := { parameters := [(.array .char), .int, .int], returnType := some (.array .byte) }, accessFlags := 9, code := some k8c8 }
def k8c9 : Code := { maxStack := 3, maxLocals := 7, code := jdk_52_method_21_code, exceptionTable := #[], attributes := #[] }
def k8m9 : Method := { name := "compress", desc := "([CI[BII)I", sig := { parameters := [(.array .char), .int, (.array .byte), .int, .int], returnType := some .int }, accessFlags := 9, code := some k8c9 }
def k8c10 : Code := { maxStack := 2, maxLocals := 2, code := jdk_52_method_83_code, exceptionTable := #[], attributes := #[] }
def k8m10 : Method := { name := "charAt", desc := "([BI)C", sig := { parameters := [(.array .byte), .int], returnType := some .char }, accessFlags := 9, code := some k8c10 }
def k8c11 : Code := { maxStack := 2, maxLocals := 2, code := jdk_52_method_91_code, exceptionTable := #[], attributes := #[] }
def k8m11 : Method := { name := "checkIndex", desc := "(I[B)V", sig := { parameters := [.int, (.array .byte)], returnType := none }, accessFlags := 9, code := some k8c11 }
/-- java/lang/StringUTF16 -/
def k8 : Class := { plain "java/lang/StringUTF16" (some 0) with
  accessFlags := 48
  interfaces := #[]
  cf := some (fileOf pool8 12 #[.nestMembers #[627, 629, 369]] #[{ accessFlags := 0, nameIndex := 9, descriptorIndex := 10, attributes := #[] }, { accessFlags := 9, nameIndex := 109, descriptorIndex := 110, attributes := #[] }, { accessFlags := 9, nameIndex := 15, descriptorIndex := 16, attributes := #[] }, { accessFlags := 8, nameIndex := 113, descriptorIndex := 114, attributes := #[] }, { accessFlags := 8, nameIndex := 73, descriptorIndex := 74, attributes := #[] }, { accessFlags := 9, nameIndex := 50, descriptorIndex := 51, attributes := #[] }, { accessFlags := 9, nameIndex := 121, descriptorIndex := 122, attributes := #[] }, { accessFlags := 8, nameIndex := 261, descriptorIndex := 262, attributes := #[] }, { accessFlags := 9, nameIndex := 117, descriptorIndex := 122, attributes := #[] }, { accessFlags := 9, nameIndex := 117, descriptorIndex := 118, attributes := #[] }, { accessFlags := 9, nameIndex := 392, descriptorIndex := 74, attributes := #[] }, { accessFlags := 9, nameIndex := 69, descriptorIndex := 70, attributes := #[] }] 48 6 #[] #[{ accessFlags := 26, nameIndex := 61, descriptorIndex := 62, attributes := #[] }, { accessFlags := 26, nameIndex := 65, descriptorIndex := 62, attributes := #[] }, { accessFlags := 24, nameIndex := 430, descriptorIndex := 62, attributes := #[] }, { accessFlags := 4120, nameIndex := 46, descriptorIndex := 47, attributes := #[] }])
  fields := #[{ name := "HI_BYTE_SHIFT", type := .int, accessFlags := 26, slot := 0, constantValue := 0 }, { name := "LO_BYTE_SHIFT", type := .int, accessFlags := 26, slot := 1, constantValue := 0 }, { name := "MAX_LENGTH", type := .int, accessFlags := 24, slot := 2, constantValue := 0 }, { name := "$assertionsDisabled", type := .boolean, accessFlags := 4120, slot := 3, constantValue := 0 }]
  methods := #[k8m0, k8m1, k8m2, k8m3, k8m4, k8m5, k8m6, k8m7, k8m8, k8m9, k8m10, k8m11]
  instanceTypes := #[]
  staticTypes := #[.int, .int, .int, .boolean]
  resolved := Array.replicate 635 none
  statics := some 1 }

def pool9 : Array CpInfo := pool [(1, .methodref 2 3), (0, .class_ 4), (0, .nameAndType 5 6), (0, u "java/lang/Object"), (0, u "<init>"), (0, u "()V"), (0, .class_ 8), (0, u "java/lang/Record")] 13

def k9c0 : Code := { maxStack := 1, maxLocals := 1, code := jdk_30_method_1_code, exceptionTable := #[], attributes := #[] }
def k9m0 : Method := { name := "<init>", desc := "()V", sig := { parameters := [], returnType := none }, accessFlags := 4, code := some k9c0 }
/-- java/lang/Record -/
def k9 : Class := { plain "java/lang/Record" (some 0) with
  accessFlags := 1057
  interfaces := #[]
  cf := some (fileOf pool9 7 #[] #[{ accessFlags := 4, nameIndex := 5, descriptorIndex := 6, attributes := #[] }] 1057 2 #[] #[])
  fields := #[]
  methods := #[k9m0]
  instanceTypes := #[]
  staticTypes := #[]
  resolved := Array.replicate 22 none
  statics := none }

def pool10 : Array CpInfo := pool [(1, .methodref 2 3), (0, .class_ 4), (0, .nameAndType 5 6), (0, u "java/lang/Record"), (0, u "<init>"), (0, u "()V"), (0, .fieldref 8 9), (0, .class_ 10), (0, .nameAndType 11 12), (0, u "com/example/austere_auth/austereauth/refusal/Refusal"), (0, u "status"), (0, u "I"), (0, .fieldref 8 14), (0, .nameAndType 15 16), (0, u "error"), (0, u "Ljava/lang/String;"), (0, .fieldref 8 18), (0, .nameAndType 19 16), (0, u "description"), (0, .fieldref 8 21), (0, .nameAndType 22 16), (0, u "scope"), (0, .methodref 8 24), (0, .nameAndType 5 25), (0, u "(ILjava/lang/String;Ljava/lang/String;Ljava/lang/String;)V"), (8, u "(ILjava/lang/String;Ljava/lang/String;)V"), (9, .methodref 45 46), (0, .class_ 47), (0, .nameAndType 48 49), (0, u "java/lang/String"), (0, u "isEmpty"), (0, u "()Z"), (27, u "INVALID_CLIENT"), (0, u "Lcom/example/austere_auth/austereauth/refusal/Refusal;"), (4, u "CLIENT_BLOCKED"), (6, u "FORBIDDEN"), (4, u "SCOPE_NOT_ALLOWED"), (6, u "GRANT_TYPE_NOT_ALLOWED"), (4, u "CLIENT_MAY_NOT_ISSUE"), (4, u "INVALID_SIGNED_CONTENT"), (4, u "ENCODING_INVALID"), (6, u "SIGNATURE_INVALID"), (4, u "NONCE_INVALID"), (4, u "UNABLE_TO_IDENTIFY"), (4, u "USER_BLOCKED"), (4, u "PERSON_NOT_FOUND"), (4, u "SIGNER_NOT_CONFIDANT"), (4, u "RELATIONSHIP_NOT_CONFIRMED"), (4, u "RELATIONSHIP_UNCONFIRMABLE"), (4, u "CONTENT_TYPE_NOT_JSON"), (6, u "TOKEN_MISSING"), (4, u "TOKEN_INVALID"), (4, u "BLANK"), (4, u "REDIRECT_URI_NOT_REGISTERED"), (4, u "SCOPE_EMPTY"), (6, u "SCOPE_NOT_ALLOWED_BY_ROLE"), (4, u "SCOPE_NOT_ALLOWED_BY_CLIENT_TYPE"), (4, u "CONTENT_TYPE_NOT_FORM_OR_JSON"), (4, u "GRANT_TYPE_UNSUPPORTED"), (4, u "INVALID_CLIENT_SECRET"), (4, u "TOKEN_NOT_FOUND"), (4, u "REDIRECT_URI_MISMATCH"), (2, u "REFRESH_TOKEN_INVALID"), (4, u "REFRESH_TOKEN_EXPIRED"), (4, u "APPROVAL_REVOKED"), (4, u "CLIENT_CREDENTIALS_TWICE"), (4, u "API_KEY_NOT_FOUND"), (4, u "API_KEY_NOT_MIS"), (4, u "MIS_MAY_NOT_RELAY"), (4, u "CONTENT_TYPE_NOT_FORM"), (4, u "FORM_NOT_FROM_PAGE"), (0, u "INVALID_CLIENT_ERROR"), (1, u "INVALID_TOKEN_ERROR"), (0, u "INSUFFICIENT_SCOPE_ERROR"), (9, u "requirePresent"), (0, u "(Ljava/lang/String;Lcom/example/austere_auth/austereauth/refusal/Refusal;)Ljava/lang/String;")] 39

def k10c0 : Code := { maxStack := 5, maxLocals := 4, code := prog_24_method_1_code, exceptionTable := #[], attributes := #[] }
def k10m0 : Method := { name := "<init>", desc := "(ILjava/lang/String;Ljava/lang/String;)V", sig := { parameters := [.int, (.object "java/lang/String"), (.object "java/lang/String")], returnType := none }, accessFlags := 1, code := some k10c0 }
def k10c1 : Code := { maxStack := 2, maxLocals := 5, code := prog_24_method_2_code, exceptionTable := #[], attributes := #[] }
def k10m1 : Method := { name := "<init>", desc := "(ILjava/lang/String;Ljava/lang/String;Ljava/lang/String;)V", sig := { parameters := [.int, (.object "java/lang/String"), (.object "java/lang/String"), (.object "java/lang/String")], returnType := none }, accessFlags := 1, code := some k10c1 }
def k10c2 : Code := { maxStack := 1, maxLocals := 2, code := prog_24_method_5_code, exceptionTable := #[], attributes := #[] }
def k10m2 : Method := { name := "requirePresent", desc := "(Ljava/lang/String;Lcom/example/austere_auth/austereauth/refusal/Refusal;)Ljava/lang/String;", sig := { parameters := [(.object "java/lang/String"), (.object "com/example/austere_auth/austereauth/refusal/Refusal")], returnType := some (.object "java/lang/String") }, accessFlags := 9, code := some k10c2 }
/-- com/example/austere_auth/austereauth/refusal/Refusal -/
def k10 : Class := { plain "com/example/austere_auth/austereauth/refusal/Refusal" (some 9) with
  accessFlags := 49
  interfaces := #[]
  cf := some (fileOf pool10 8 #[] #[{ accessFlags := 1, nameIndex := 5, descriptorIndex := 34, attributes := #[] }, { accessFlags := 1, nameIndex := 5, descriptorIndex := 25, attributes := #[] }, { accessFlags := 9, nameIndex := 285, descriptorIndex := 286, attributes := #[] }] 49 2 #[] #[{ accessFlags := 18, nameIndex := 11, descriptorIndex := 12, attributes := #[] }, { accessFlags := 18, nameIndex := 15, descriptorIndex := 16, attributes := #[] }, { accessFlags := 18, nameIndex := 19, descriptorIndex := 16, attributes := #[] }, { accessFlags := 18, nameIndex := 22, descriptorIndex := 16, attributes := #[] }, { accessFlags := 25, nameIndex := 272, descriptorIndex := 16, attributes := #[] }, { accessFlags := 25, nameIndex := 274, descriptorIndex := 16, attributes := #[] }, { accessFlags := 25, nameIndex := 275, descriptorIndex := 16, attributes := #[] }, { accessFlags := 25, nameIndex := 77, descriptorIndex := 78, attributes := #[] }, { accessFlags := 25, nameIndex := 83, descriptorIndex := 78, attributes := #[] }, { accessFlags := 25, nameIndex := 90, descriptorIndex := 78, attributes := #[] }, { accessFlags := 25, nameIndex := 95, descriptorIndex := 78, attributes := #[] }, { accessFlags := 25, nameIndex := 102, descriptorIndex := 78, attributes := #[] }, { accessFlags := 25, nameIndex := 107, descriptorIndex := 78, attributes := #[] }, { accessFlags := 25, nameIndex := 112, descriptorIndex := 78, attributes := #[] }, { accessFlags := 25, nameIndex := 117, descriptorIndex := 78, attributes := #[] }, { accessFlags := 25, nameIndex := 124, descriptorIndex := 78, attributes := #[] }, { accessFlags := 25, nameIndex := 129, descriptorIndex := 78, attributes := #[] }, { accessFlags := 25, nameIndex := 134, descriptorIndex := 78, attributes := #[] }, { accessFlags := 25, nameIndex := 139, descriptorIndex := 78, attributes := #[] }, { accessFlags := 25, nameIndex := 144, descriptorIndex := 78, attributes := #[] }, { accessFlags := 25, nameIndex := 149, descriptorIndex := 78, attributes := #[] }, { accessFlags := 25, nameIndex := 154, descriptorIndex := 78, attributes := #[] }, { accessFlags := 25, nameIndex := 159, descriptorIndex := 78, attributes := #[] }, { accessFlags := 25, nameIndex := 164, descriptorIndex := 78, attributes := #[] }, { accessFlags := 25, nameIndex := 171, descriptorIndex := 78, attributes := #[] }, { accessFlags := 25, nameIndex := 176, descriptorIndex := 78, attributes := #[] }, { accessFlags := 25, nameIndex := 181, descriptorIndex := 78, attributes := #[] }, { accessFlags := 25, nameIndex := 186, descriptorIndex := 78, attributes := #[] }, { accessFlags := 25, nameIndex := 191, descriptorIndex := 78, attributes := #[] }, { accessFlags := 25, nameIndex := 198, descriptorIndex := 78, attributes := #[] }, { accessFlags := 25, nameIndex := 203, descriptorIndex := 78, attributes := #[] }, { accessFlags := 25, nameIndex := 208, descriptorIndex := 78, attributes := #[] }, { accessFlags := 25, nameIndex := 213, descriptorIndex := 78, attributes := #[] }, { accessFlags := 25, nameIndex := 218, descriptorIndex := 78, attributes := #[] }, { accessFlags := 25, nameIndex := 223, descriptorIndex := 78, attributes := #[] }, { accessFlags := 25, nameIndex := 228, descriptorIndex := 78, attributes := #[] }, { accessFlags := 25, nameIndex := 231, descriptorIndex := 78, attributes := #[] }, { accessFlags := 25, nameIndex := 236, descriptorIndex := 78, attributes := #[] }, { accessFlags := 25, nameIndex := 241, descriptorIndex := 78, attributes := #[] }, { accessFlags := 25, nameIndex := 246, descriptorIndex := 78, attributes := #[] }, { accessFlags := 25, nameIndex := 251, descriptorIndex := 78, attributes := #[] }, { accessFlags := 25, nameIndex := 256, descriptorIndex := 78, attributes := #[] }, { accessFlags := 25, nameIndex := 261, descriptorIndex := 78, attributes := #[] }, { accessFlags := 25, nameIndex := 266, descriptorIndex := 78, attributes := #[] }, { accessFlags := 25, nameIndex := 271, descriptorIndex := 78, attributes := #[] }])
  fields := #[{ name := "status", type := .int, accessFlags := 18, slot := 0, constantValue := 0 }, { name := "error", type := (.object "java/lang/String"), accessFlags := 18, slot := 1, constantValue := 0 }, { name := "description", type := (.object "java/lang/String"), accessFlags := 18, slot := 2, constantValue := 0 }, { name := "scope", type := (.object "java/lang/String"), accessFlags := 18, slot := 3, constantValue := 0 }, { name := "INVALID_CLIENT_ERROR", type := (.object "java/lang/String"), accessFlags := 25, slot := 0, constantValue := 0 }, { name := "INVALID_TOKEN_ERROR", type := (.object "java/lang/String"), accessFlags := 25, slot := 1, constantValue := 0 }, { name := "INSUFFICIENT_SCOPE_ERROR", type := (.object "java/lang/String"), accessFlags := 25, slot := 2, constantValue := 0 }, { name := "INVALID_CLIENT", type := (.object "com/example/austere_auth/austereauth/refusal/Refusal"), accessFlags := 25, slot := 3, constantValue := 0 }, { name := "CLIENT_BLOCKED", type := (.object "com/example/austere_auth/austereauth/refusal/Refusal"), accessFlags := 25, slot := 4, constantValue := 0 }, { name := "FORBIDDEN", type := (.object "com/example/austere_auth/austereauth/refusal/Refusal"), accessFlags := 25, slot := 5, constantValue := 0 }, { name := "SCOPE_NOT_ALLOWED", type := (.object "com/example/austere_auth/austereauth/refusal/Refusal"), accessFlags := 25, slot := 6, constantValue := 0 }, { name := "GRANT_TYPE_NOT_ALLOWED", type := (.object "com/example/austere_auth/austereauth/refusal/Refusal"), accessFlags := 25, slot := 7, constantValue := 0 }, { name := "CLIENT_MAY_NOT_ISSUE", type := (.object "com/example/austere_auth/austereauth/refusal/Refusal"), accessFlags := 25, slot := 8, constantValue := 0 }, { name := "INVALID_SIGNED_CONTENT", type := (.object "com/example/austere_auth/austereauth/refusal/Refusal"), accessFlags := 25, slot := 9, constantValue := 0 }, { name := "ENCODING_INVALID", type := (.object "com/example/austere_auth/austereauth/refusal/Refusal"), accessFlags := 25, slot := 10, constantValue := 0 }, { name := "SIGNATURE_INVALID", type := (.object "com/example/austere_auth/austereauth/refusal/Refusal"), accessFlags := 25, slot := 11, constantValue := 0 }, { name := "NONCE_INVALID", type := (.object "com/example/austere_auth/austereauth/refusal/Refusal"), accessFlags := 25, slot := 12, constantValue := 0 }, { name := "UNABLE_TO_IDENTIFY", type := (.object "com/example/austere_auth/austereauth/refusal/Refusal"), accessFlags := 25, slot := 13, constantValue := 0 }, { name := "USER_BLOCKED", type := (.object "com/example/austere_auth/austereauth/refusal/Refusal"), accessFlags := 25, slot := 14, constantValue := 0 }, { name := "PERSON_NOT_FOUND", type := (.object "com/example/austere_auth/austereauth/refusal/Refusal"), accessFlags := 25, slot := 15, constantValue := 0 }, { name := "SIGNER_NOT_CONFIDANT", type := (.object "com/example/austere_auth/austereauth/refusal/Refusal"), accessFlags := 25, slot := 16, constantValue := 0 }, { name := "RELATIONSHIP_NOT_CONFIRMED", type := (.object "com/example/austere_auth/austereauth/refusal/Refusal"), accessFlags := 25, slot := 17, constantValue := 0 }, { name := "RELATIONSHIP_UNCONFIRMABLE", type := (.object "com/example/austere_auth/austereauth/refusal/Refusal"), accessFlags := 25, slot := 18, constantValue := 0 }, { name := "CONTENT_TYPE_NOT_JSON", type := (.object "com/example/austere_auth/austereauth/refusal/Refusal"), accessFlags := 25, slot := 19, constantValue := 0 }, { name := "TOKEN_MISSING", type := (.object "com/example/austere_auth/austereauth/refusal/Refusal"), accessFlags := 25, slot := 20, constantValue := 0 }, { name := "TOKEN_INVALID", type := (.object "com/example/austere_auth/austereauth/refusal/Refusal"), accessFlags := 25, slot := 21, constantValue := 0 }, { name := "BLANK", type := (.object "com/example/austere_auth/austereauth/refusal/Refusal"), accessFlags := 25, slot := 22, constantValue := 0 }, { name := "REDIRECT_URI_NOT_REGISTERED", type := (.object "com/example/austere_auth/austereauth/refusal/Refusal"), accessFlags := 25, slot := 23, constantValue := 0 }, { name := "SCOPE_EMPTY", type := (.object "com/example/austere_auth/austereauth/refusal/Refusal"), accessFlags := 25, slot := 24, constantValue := 0 }, { name := "SCOPE_NOT_ALLOWED_BY_ROLE", type := (.object "com/example/austere_auth/austereauth/refusal/Refusal"), accessFlags := 25, slot := 25, constantValue := 0 }, { name := "SCOPE_NOT_ALLOWED_BY_CLIENT_TYPE", type := (.object "com/example/austere_auth/austereauth/refusal/Refusal"), accessFlags := 25, slot := 26, constantValue := 0 }, { name := "CONTENT_TYPE_NOT_FORM_OR_JSON", type := (.object "com/example/austere_auth/austereauth/refusal/Refusal"), accessFlags := 25, slot := 27, constantValue := 0 }, { name := "GRANT_TYPE_UNSUPPORTED", type := (.object "com/example/austere_auth/austereauth/refusal/Refusal"), accessFlags := 25, slot := 28, constantValue := 0 }, { name := "INVALID_CLIENT_SECRET", type := (.object "com/example/austere_auth/austereauth/refusal/Refusal"), accessFlags := 25, slot := 29, constantValue := 0 }, { name := "TOKEN_NOT_FOUND", type := (.object "com/example/austere_auth/austereauth/refusal/Refusal"), accessFlags := 25, slot := 30, constantValue := 0 }, { name := "REDIRECT_URI_MISMATCH", type := (.object "com/example/austere_auth/austereauth/refusal/Refusal"), accessFlags := 25, slot := 31, constantValue := 0 }, { name := "REFRESH_TOKEN_INVALID", type := (.object "com/example/austere_auth/austereauth/refusal/Refusal"), accessFlags := 25, slot := 32, constantValue := 0 }, { name := "REFRESH_TOKEN_EXPIRED", type := (.object "com/example/austere_auth/austereauth/refusal/Refusal"), accessFlags := 25, slot := 33, constantValue := 0 }, { name := "APPROVAL_REVOKED", type := (.object "com/example/austere_auth/austereauth/refusal/Refusal"), accessFlags := 25, slot := 34, constantValue := 0 }, { name := "CLIENT_CREDENTIALS_TWICE", type := (.object "com/example/austere_auth/austereauth/refusal/Refusal"), accessFlags := 25, slot := 35, constantValue := 0 }, { name := "API_KEY_NOT_FOUND", type := (.object "com/example/austere_auth/austereauth/refusal/Refusal"), accessFlags := 25, slot := 36, constantValue := 0 }, { name := "API_KEY_NOT_MIS", type := (.object "com/example/austere_auth/austereauth/refusal/Refusal"), accessFlags := 25, slot := 37, constantValue := 0 }, { name := "MIS_MAY_NOT_RELAY", type := (.object "com/example/austere_auth/austereauth/refusal/Refusal"), accessFlags := 25, slot := 38, constantValue := 0 }, { name := "CONTENT_TYPE_NOT_FORM", type := (.object "com/example/austere_auth/austereauth/refusal/Refusal"), accessFlags := 25, slot := 39, constantValue := 0 }, { name := "FORM_NOT_FROM_PAGE", type := (.object "com/example/austere_auth/austereauth/refusal/Refusal"), accessFlags := 25, slot := 40, constantValue := 0 }]
  methods := #[k10m0, k10m1, k10m2]
  instanceTypes := #[.int, (.object "java/lang/String"), (.object "java/lang/String"), (.object "java/lang/String")]
  staticTypes := #[(.object "java/lang/String"), (.object "java/lang/String"), (.object "java/lang/String"), (.object "com/example/austere_auth/austereauth/refusal/Refusal"), (.object "com/example/austere_auth/austereauth/refusal/Refusal"), (.object "com/example/austere_auth/austereauth/refusal/Refusal"), (.object "com/example/austere_auth/austereauth/refusal/Refusal"), (.object "com/example/austere_auth/austereauth/refusal/Refusal"), (.object "com/example/austere_auth/austereauth/refusal/Refusal"), (.object "com/example/austere_auth/austereauth/refusal/Refusal"), (.object "com/example/austere_auth/austereauth/refusal/Refusal"), (.object "com/example/austere_auth/austereauth/refusal/Refusal"), (.object "com/example/austere_auth/austereauth/refusal/Refusal"), (.object "com/example/austere_auth/austereauth/refusal/Refusal"), (.object "com/example/austere_auth/austereauth/refusal/Refusal"), (.object "com/example/austere_auth/austereauth/refusal/Refusal"), (.object "com/example/austere_auth/austereauth/refusal/Refusal"), (.object "com/example/austere_auth/austereauth/refusal/Refusal"), (.object "com/example/austere_auth/austereauth/refusal/Refusal"), (.object "com/example/austere_auth/austereauth/refusal/Refusal"), (.object "com/example/austere_auth/austereauth/refusal/Refusal"), (.object "com/example/austere_auth/austereauth/refusal/Refusal"), (.object "com/example/austere_auth/austereauth/refusal/Refusal"), (.object "com/example/austere_auth/austereauth/refusal/Refusal"), (.object "com/example/austere_auth/austereauth/refusal/Refusal"), (.object "com/example/austere_auth/austereauth/refusal/Refusal"), (.object "com/example/austere_auth/austereauth/refusal/Refusal"), (.object "com/example/austere_auth/austereauth/refusal/Refusal"), (.object "com/example/austere_auth/austereauth/refusal/Refusal"), (.object "com/example/austere_auth/austereauth/refusal/Refusal"), (.object "com/example/austere_auth/austereauth/refusal/Refusal"), (.object "com/example/austere_auth/austereauth/refusal/Refusal"), (.object "com/example/austere_auth/austereauth/refusal/Refusal"), (.object "com/example/austere_auth/austereauth/refusal/Refusal"), (.object "com/example/austere_auth/austereauth/refusal/Refusal"), (.object "com/example/austere_auth/austereauth/refusal/Refusal"), (.object "com/example/austere_auth/austereauth/refusal/Refusal"), (.object "com/example/austere_auth/austereauth/refusal/Refusal"), (.object "com/example/austere_auth/austereauth/refusal/Refusal"), (.object "com/example/austere_auth/austereauth/refusal/Refusal"), (.object "com/example/austere_auth/austereauth/refusal/Refusal")]
  resolved := Array.replicate 326 none
  statics := none }

def pool11 : Array CpInfo := pool [(1, .class_ 2), (0, u "java/lang/String"), (1, .class_ 6), (1, u "java/lang/Object"), (0, u "<init>"), (0, u "()V"), (0, .methodref 1 10), (0, .nameAndType 11 12), (0, u "checkIndex"), (0, u "(II)V"), (1, .class_ 16), (1, u "java/lang/StringLatin1"), (36, u "([BI)C"), (67, u "$assertionsDisabled"), (0, u "Z"), (98, .class_ 223), (1, u "java/lang/StringLatin1$LinesSpliterator"), (28, u "charAt"), (137, .class_ 391), (0, u "java/lang/StringLatin1$CharsSpliterator")] 3

def k11m0 : Method := { name := "<init>", desc := "()V", sig := { parameters := [], returnType := none }, accessFlags := 0, code := none }
def k11c1 : Code := { maxStack := 2, maxLocals := 2, code := jdk_43_method_2_code, exceptionTable := #[], attributes := #[] }
def k11m1 : Method := { name := "charAt", desc := "([BI)C", sig := { parameters := [(.array .byte), .int], returnType := some .char }, accessFlags := 9, code := some k11c1 }
/-- java/lang/StringLatin1 -/
def k11 : Class := { plain "java/lang/StringLatin1" (some 0) with
  accessFlags := 48
  interfaces := #[]
  cf := some (fileOf pool11 14 #[.nestMembers #[390, 221]] #[{ accessFlags := 0, nameIndex := 7, descriptorIndex := 8, attributes := #[] }, { accessFlags := 9, nameIndex := 252, descriptorIndex := 53, attributes := #[] }] 48 4 #[] #[{ accessFlags := 4120, nameIndex := 121, descriptorIndex := 122, attributes := #[] }])
  fields := #[{ name := "$assertionsDisabled", type := .boolean, accessFlags := 4120, slot := 0, constantValue := 0 }]
  methods := #[k11m0, k11m1]
  instanceTypes := #[]
  staticTypes := #[.boolean]
  resolved := Array.replicate 395 none
  statics := none }

def pool12 : Array CpInfo := pool [(2, .class_ 4), (1, u "java/lang/Object"), (0, u "<init>"), (0, u "()V"), (17, .class_ 26), (1, u "jdk/internal/util/Preconditions"), (6, u "checkIndex"), (21, .class_ 56), (0, u "jdk/internal/util/Preconditions$4"), (57, .class_ 115), (0, u "jdk/internal/util/Preconditions$1"), (7, u "SIOOBE_FORMATTER"), (0, u "Ljava/util/function/BiFunction;"), (0, .class_ 126), (0, u "jdk/internal/util/Preconditions$2"), (3, u "AIOOBE_FORMATTER"), (0, .class_ 132), (0, u "jdk/internal/util/Preconditions$3"), (3, u "IOOBE_FORMATTER"), (41, u "(IILjava/util/function/BiFunction;)I")] 15

def k12m0 : Method := { name := "<init>", desc := "()V", sig := { parameters := [], returnType := none }, accessFlags := 1, code := none }
def k12c1 : Code := { maxStack := 3, maxLocals := 3, code := jdk_41_method_11_code, exceptionTable := #[], attributes := #[] }
def k12m1 : Method := { name := "checkIndex", desc := "(IILjava/util/function/BiFunction;)I", sig := { parameters := [.int, .int, (.object "java/util/function/BiFunction")], returnType := some .int }, accessFlags := 9, code := some k12c1 }
/-- jdk/internal/util/Preconditions -/
def k12 : Class := { plain "jdk/internal/util/Preconditions" (some 0) with
  accessFlags := 33
  interfaces := #[]
  cf := some (fileOf pool12 24 #[.nestMembers #[55, 131, 125, 114]] #[{ accessFlags := 1, nameIndex := 5, descriptorIndex := 6, attributes := #[] }, { accessFlags := 9, nameIndex := 33, descriptorIndex := 178, attributes := #[] }] 33 2 #[] #[{ accessFlags := 25, nameIndex := 123, descriptorIndex := 124, attributes := #[] }, { accessFlags := 25, nameIndex := 130, descriptorIndex := 124, attributes := #[] }, { accessFlags := 25, nameIndex := 136, descriptorIndex := 124, attributes := #[] }])
  fields := #[{ name := "SIOOBE_FORMATTER", type := (.object "java/util/function/BiFunction"), accessFlags := 25, slot := 0, constantValue := 0 }, { name := "AIOOBE_FORMATTER", type := (.object "java/util/function/BiFunction"), accessFlags := 25, slot := 1, constantValue := 0 }, { name := "IOOBE_FORMATTER", type := (.object "java/util/function/BiFunction"), accessFlags := 25, slot := 2, constantValue := 0 }]
  methods := #[k12m0, k12m1]
  instanceTypes := #[]
  staticTypes := #[(.object "java/util/function/BiFunction"), (.object "java/util/function/BiFunction"), (.object "java/util/function/BiFunction")]
  resolved := Array.replicate 194 none
  statics := some 2 }

def pool13 : Array CpInfo := pool [(9, u "<init>"), (6, .class_ 18), (1, u "java/lang/Object"), (0, u "()V"), (1, .class_ 23), (1, u "jdk/internal/util/ArraysSupport"), (0, u "LOG2_ARRAY_LONG_INDEX_SCALE"), (0, u "I"), (2, u "U"), (0, u "Ljdk/internal/misc/Unsafe;"), (8, u "BIG_ENDIAN"), (0, u "Z"), (8, u "LOG2_BYTE_BIT_SIZE"), (4, u "LOG2_ARRAY_INT_INDEX_SCALE"), (54, u "JLA"), (0, u "Ljdk/internal/access/JavaLangAccess;"), (11, u "LOG2_ARRAY_BOOLEAN_INDEX_SCALE"), (9, u "LOG2_ARRAY_BYTE_INDEX_SCALE"), (5, u "LOG2_ARRAY_CHAR_INDEX_SCALE"), (5, u "LOG2_ARRAY_SHORT_INDEX_SCALE"), (18, u "LOG2_ARRAY_FLOAT_INDEX_SCALE"), (24, u "LOG2_ARRAY_DOUBLE_INDEX_SCALE"), (89, u "T_BOOLEAN"), (2, u "T_CHAR"), (1, u "T_FLOAT"), (1, u "T_DOUBLE"), (1, u "T_BYTE"), (1, u "T_SHORT"), (1, u "T_INT"), (1, u "T_LONG"), (1, u "SOFT_MAX_ARRAY_LENGTH")] 83

def k13m0 : Method := { name := "<init>", desc := "()V", sig := { parameters := [], returnType := none }, accessFlags := 2, code := none }
/-- jdk/internal/util/ArraysSupport -/
def k13 : Class := { plain "jdk/internal/util/ArraysSupport" (some 0) with
  accessFlags := 33
  interfaces := #[]
  cf := some (fileOf pool13 21 #[] #[{ accessFlags := 2, nameIndex := 9, descriptorIndex := 19, attributes := #[] }] 33 16 #[] #[{ accessFlags := 24, nameIndex := 28, descriptorIndex := 29, attributes := #[] }, { accessFlags := 26, nameIndex := 38, descriptorIndex := 39, attributes := #[] }, { accessFlags := 25, nameIndex := 121, descriptorIndex := 25, attributes := #[] }, { accessFlags := 25, nameIndex := 131, descriptorIndex := 25, attributes := #[] }, { accessFlags := 25, nameIndex := 137, descriptorIndex := 25, attributes := #[] }, { accessFlags := 25, nameIndex := 143, descriptorIndex := 25, attributes := #[] }, { accessFlags := 25, nameIndex := 53, descriptorIndex := 25, attributes := #[] }, { accessFlags := 25, nameIndex := 24, descriptorIndex := 25, attributes := #[] }, { accessFlags := 25, nameIndex := 162, descriptorIndex := 25, attributes := #[] }, { accessFlags := 25, nameIndex := 187, descriptorIndex := 25, attributes := #[] }, { accessFlags := 26, nameIndex := 48, descriptorIndex := 25, attributes := #[] }, { accessFlags := 25, nameIndex := 277, descriptorIndex := 25, attributes := #[] }, { accessFlags := 25, nameIndex := 280, descriptorIndex := 25, attributes := #[] }, { accessFlags := 25, nameIndex := 282, descriptorIndex := 25, attributes := #[] }, { accessFlags := 25, nameIndex := 284, descriptorIndex := 25, attributes := #[] }, { accessFlags := 25, nameIndex := 286, descriptorIndex := 25, attributes := #[] }, { accessFlags := 25, nameIndex := 288, descriptorIndex := 25, attributes := #[] }, { accessFlags := 25, nameIndex := 290, descriptorIndex := 25, attributes := #[] }, { accessFlags := 25, nameIndex := 292, descriptorIndex := 25, attributes := #[] }, { accessFlags := 26, nameIndex := 108, descriptorIndex := 109, attributes := #[] }, { accessFlags := 25, nameIndex := 294, descriptorIndex := 25, attributes := #[] }])
  fields := #[{ name := "U", type := (.object "jdk/internal/misc/Unsafe"), accessFlags := 24, slot := 0, constantValue := 0 }, { name := "BIG_ENDIAN", type := .boolean, accessFlags := 26, slot := 1, constantValue := 0 }, { name := "LOG2_ARRAY_BOOLEAN_INDEX_SCALE", type := .int, accessFlags := 25, slot := 2, constantValue := 0 }, { name := "LOG2_ARRAY_BYTE_INDEX_SCALE", type := .int, accessFlags := 25, slot := 3, constantValue := 0 }, { name := "LOG2_ARRAY_CHAR_INDEX_SCALE", type := .int, accessFlags := 25, slot := 4, constantValue := 0 }, { name := "LOG2_ARRAY_SHORT_INDEX_SCALE", type := .int, accessFlags := 25, slot := 5, constantValue := 0 }, { name := "LOG2_ARRAY_INT_INDEX_SCALE", type := .int, accessFlags := 25, slot := 6, constantValue := 0 }, { name := "LOG2_ARRAY_LONG_INDEX_SCALE", type := .int, accessFlags := 25, slot := 7, constantValue := 0 }, { name := "LOG2_ARRAY_FLOAT_INDEX_SCALE", type := .int, accessFlags := 25, slot := 8, constantValue := 0 }, { name := "LOG2_ARRAY_DOUBLE_INDEX_SCALE", type := .int, accessFlags := 25, slot := 9, constantValue := 0 }, { name := "LOG2_BYTE_BIT_SIZE", type := .int, accessFlags := 26, slot := 10, constantValue := 0 }, { name := "T_BOOLEAN", type := .int, accessFlags := 25, slot := 11, constantValue := 0 }, { name := "T_CHAR", type := .int, accessFlags := 25, slot := 12, constantValue := 0 }, { name := "T_FLOAT", type := .int, accessFlags := 25, slot := 13, constantValue := 0 }, { name := "T_DOUBLE", type := .int, accessFlags := 25, slot := 14, constantValue := 0 }, { name := "T_BYTE", type := .int, accessFlags := 25, slot := 15, constantValue := 0 }, { name := "T_SHORT", type := .int, accessFlags := 25, slot := 16, constantValue := 0 }, { name := "T_INT", type := .int, accessFlags := 25, slot := 17, constantValue := 0 }, { name := "T_LONG", type := .int, accessFlags := 25, slot := 18, constantValue := 0 }, { name := "JLA", type := (.object "jdk/internal/access/JavaLangAccess"), accessFlags := 26, slot := 19, constantValue := 0 }, { name := "SOFT_MAX_ARRAY_LENGTH", type := .int, accessFlags := 25, slot := 20, constantValue := 0 }]
  methods := #[k13m0]
  instanceTypes := #[]
  staticTypes := #[(.object "jdk/internal/misc/Unsafe"), .boolean, .int, .int, .int, .int, .int, .int, .int, .int, .int, .int, .int, .int, .int, .int, .int, .int, .int, (.object "jdk/internal/access/JavaLangAccess"), .int]
  resolved := Array.replicate 378 none
  statics := none }

def pool14 : Array CpInfo := pool [(1, u "java/lang/Cloneable"), (0, .class_ 1), (0, u "java/lang/Object"), (0, .class_ 3)] 3

/-- java/lang/Cloneable -/
def k14 : Class := { plain "java/lang/Cloneable" (some 0) with
  accessFlags := 1537
  interfaces := #[]
  cf := some (fileOf pool14 2 #[] #[] 1537 4 #[] #[])
  fields := #[]
  methods := #[]
  instanceTypes := #[]
  staticTypes := #[]
  resolved := Array.replicate 8 none
  statics := none }

/-- the primitive byte -/
def k15 : Class := { plain "byte" none with kind := .primitive 'B', accessFlags := 0x411 }
/-- [B -/
def k16 : Class := { plain "[B" (some 0) with kind := .array 15 .byte, interfaces := #[14, 2], accessFlags := 1041 }

/-- the primitive char -/
def k17 : Class := { plain "char" none with kind := .primitive 'C', accessFlags := 0x411 }
/-- [C -/
def k18 : Class := { plain "[C" (some 0) with kind := .array 17 .char, interfaces := #[14, 2], accessFlags := 1041 }

/-- the primitive int -/
def k19 : Class := { plain "int" none with kind := .primitive 'I', accessFlags := 0x411 }
/-- [I -/
def k20 : Class := { plain "[I" (some 0) with kind := .array 19 .int, interfaces := #[14, 2], accessFlags := 1041 }

def heap : Heap := #[{ cls := 7, slots := #[.long 0, .int 1, .null, .int 0, .null, .int 0, .int 0], vm := .statics 7 },
  { cls := 8, slots := #[.int 0, .int 8, .int 0, .int 1], vm := .statics 8 },
  { cls := 12, slots := #[.null, .null, .null], vm := .statics 12 }]
def classes : Array Class := #[k0, k1, k2, k3, k4, k5, k6, k7, k8, k9, k10, k11, k12, k13, k14, k15, k16, k17, k18, k19, k20]
def interned : List (Array UInt16 × Addr) := []
def slotsUsed : Nat := 14
def theMethod : MethodId := ⟨1, 1⟩
def args0 : Array Value := #[.int 5, .int 5, .int 5, .int 5, .int 5, .int 5]
def aboutOver (below : List Frame) : State where
  vm := { classes := classes, interned := interned.toArray }
  heap := heap
  slotsUsed := slotsUsed
  threads := #[{ frames := .invoking theMethod args0 :: below }]
def below0 : List Frame := [.native { method := ⟨0, 0⟩, args := #[] }]
def about1 : State := aboutOver below0
def p0 : Program := .bare "" "" ""
def e0 : Env := launch0.env 0 0 0
theorem w_frames : about1.frames = Frame.invoking theMethod args0 :: below0 := rfl
set_option maxRecDepth 65536 in
theorem w_args : argsFit about1.vm theMethod args0 = true := by decide +kernel
set_option maxRecDepth 65536 in
theorem w_heap : heapFits about1 = true := by decide +kernel
set_option maxRecDepth 65536 in
theorem w_runnable : about1.curStatus? = some .runnable := by decide +kernel
set_option maxRecDepth 65536 in
theorem w_alone : about1.alone = true := by decide +kernel
set_option maxRecDepth 65536 in
theorem w_named : about1.methodNamed? x = some theMethod := by decide +kernel
set_option maxRecDepth 65536 in
theorem w_hears : about1.hears theMethod below0 = true := by decide +kernel
set_option maxRecDepth 65536 in
theorem w_ripe : about1.ripe theMethod args0 below0 = true := by decide +kernel
theorem w_running : about1.status = .running := rfl
set_option maxRecDepth 65536 in
theorem w_room : about1.hasRoom e0.platform room_1 = true :=
  launch0.hasRoom_least _ room_1 (by decide +kernel) (by decide +kernel) (by decide +kernel) (by decide +kernel) (by decide +kernel) (by decide +kernel)
theorem allAtoms_all (ts : List Jvm.Cond) (a : Array Jvm.Value) (st : Jvm.State) : (allAtoms ts).before a st = ts.all (fun c => c.before a st) := by
  induction ts with
  | nil => rfl
  | cons c t ih =>
    show (Jvm.Cond.and c (allAtoms t)).before a st = _
    rw [Jvm.Cond.before_and, ih, List.all_cons]
def words1 : List Jvm.Cond := Jvm.Cond.code x code maxLocals ret :: tables_1
/-- a 'code' word, met by the world's own term for the bytes: nothing is compared byte by byte -/
theorem code_word {y : MethodName} {bytes : ByteArray} {mx : Nat} {rt : Option FieldType} {a : Array Value} {s : State} {m : MethodId} {meth : Method} {c : Code} (h1 : s.methodNamed? y = some m) (h2 : s.vm.method? m = some meth) (h3 : meth.code = some c) (h4 : c.code = bytes)
    (h5 : (c.maxLocals == mx && c.exceptionTable.isEmpty && decide (c.maxStack ≤ mostOperands) && decide (meth.sig.returnType = rt) && !meth.locks && decide (parseMethodDescriptor y.desc = some meth.sig)) = true) : (Jvm.Cond.code y bytes mx rt).before a s = true := by
  simp only [Bool.and_eq_true, beq_iff_eq, Bool.not_eq_true', decide_eq_true_eq] at h5
  obtain ⟨⟨⟨⟨⟨g1, g2⟩, g3⟩, g4⟩, g5⟩, g6⟩ := h5
  simp [Cond.before, Cond.holds, Cond.value, h1, h2, h3, h4, g1, g2, g3, g4, g5, g6]
def isCode : Jvm.Cond → Bool
  | .code _ _ _ _ => true
  | _ => false
theorem all_split {L : List Jvm.Cond} {P : Jvm.Cond → Bool} (h1 : L.all (fun c => isCode c || P c) = true) (h2 : ∀ c ∈ L.filter isCode, P c = true) : L.all P = true := by
  refine List.all_eq_true.mpr fun c hc => ?_
  have h := List.all_eq_true.mp h1 c hc
  rcases Bool.eq_false_or_eq_true (isCode c) with hi | hi
  · exact h2 c (List.mem_filter.mpr ⟨hc, hi⟩)
  · simpa [hi] using h
set_option maxRecDepth 65536 in
theorem w_c0 : (Jvm.Cond.code x code maxLocals ret).before args0 about1 = true := code_word (m := ⟨1, 1⟩) (meth := k1m1) (c := k1c1) (by decide +kernel) rfl rfl rfl (by decide +kernel)
set_option maxRecDepth 65536 in
theorem w_c1 : (Jvm.Cond.code ({ cls := "java/lang/String", name := "<init>", desc := "([C)V" } : Jvm.MethodName) jdk_42_method_3_code (2 : Nat) (Option.none : Option Jvm.ClassFile.FieldType)).before args0 about1 = true := code_word (m := ⟨7, 1⟩) (meth := k7m1) (c := k7c1) (by decide +kernel) rfl rfl rfl (by decide +kernel)
set_option maxRecDepth 65536 in
theorem w_c2 : (Jvm.Cond.code ({ cls := "java/lang/String", name := "<init>", desc := "([CIILjava/lang/Void;)V" } : Jvm.MethodName) jdk_42_method_149_code (6 : Nat) (Option.none : Option Jvm.ClassFile.FieldType)).before args0 about1 = true := code_word (m := ⟨7, 5⟩) (meth := k7m5) (c := k7c5) (by decide +kernel) rfl rfl rfl (by decide +kernel)
set_option maxRecDepth 65536 in
theorem w_c3 : (Jvm.Cond.code ({ cls := "java/lang/Object", name := "<init>", desc := "()V" } : Jvm.MethodName) object_method_1_code (1 : Nat) (Option.none : Option Jvm.ClassFile.FieldType)).before args0 about1 = true := code_word (m := ⟨0, 0⟩) (meth := k0m0) (c := k0c0) (by decide +kernel) rfl rfl rfl (by decide +kernel)
set_option maxRecDepth 65536 in
theorem w_c4 : (Jvm.Cond.code ({ cls := "java/lang/StringUTF16", name := "compress", desc := "([CII)[B" } : Jvm.MethodName) jdk_52_method_16_code (6 : Nat) (Option.some (Jvm.ClassFile.FieldType.array Jvm.ClassFile.FieldType.byte))).before args0 about1 = true := code_word (m := ⟨8, 8⟩) (meth := k8m8) (c := k8c8) (by decide +kernel) rfl rfl rfl (by decide +kernel)
set_option maxRecDepth 65536 in
theorem w_c5 : (Jvm.Cond.code ({ cls := "java/lang/StringUTF16", name := "compress", desc := "([CI[BII)I" } : Jvm.MethodName) jdk_52_method_21_code (7 : Nat) (Option.some Jvm.ClassFile.FieldType.int)).before args0 about1 = true := code_word (m := ⟨8, 9⟩) (meth := k8m9) (c := k8c9) (by decide +kernel) rfl rfl rfl (by decide +kernel)
set_option maxRecDepth 65536 in
theorem w_c6 : (Jvm.Cond.code ({ cls := "java/lang/StringUTF16", name := "coderFromArrayLen", desc := "([BI)B" } : Jvm.MethodName) jdk_52_method_15_code (2 : Nat) (Option.some Jvm.ClassFile.FieldType.byte)).before args0 about1 = true := code_word (m := ⟨8, 7⟩) (meth := k8m7) (c := k8c7) (by decide +kernel) rfl rfl rfl (by decide +kernel)
set_option maxRecDepth 65536 in
theorem w_c7 : (Jvm.Cond.code ({ cls := "com/example/austere_auth/austereauth/refusal/Refusal", name := "<init>", desc := "(ILjava/lang/String;Ljava/lang/String;)V" } : Jvm.MethodName) prog_24_method_1_code (4 : Nat) (Option.none : Option Jvm.ClassFile.FieldType)).before args0 about1 = true := code_word (m := ⟨10, 0⟩) (meth := k10m0) (c := k10c0) (by decide +kernel) rfl rfl rfl (by decide +kernel)
set_option maxRecDepth 65536 in
theorem w_c8 : (Jvm.Cond.code ({ cls := "com/example/austere_auth/austereauth/refusal/Refusal", name := "<init>", desc := "(ILjava/lang/String;Ljava/lang/String;Ljava/lang/String;)V" } : Jvm.MethodName) prog_24_method_2_code (5 : Nat) (Option.none : Option Jvm.ClassFile.FieldType)).before args0 about1 = true := code_word (m := ⟨10, 1⟩) (meth := k10m1) (c := k10c1) (by decide +kernel) rfl rfl rfl (by decide +kernel)
set_option maxRecDepth 65536 in
theorem w_c9 : (Jvm.Cond.code ({ cls := "java/lang/Record", name := "<init>", desc := "()V" } : Jvm.MethodName) jdk_30_method_1_code (1 : Nat) (Option.none : Option Jvm.ClassFile.FieldType)).before args0 about1 = true := code_word (m := ⟨9, 0⟩) (meth := k9m0) (c := k9c0) (by decide +kernel) rfl rfl rfl (by decide +kernel)
set_option maxRecDepth 65536 in
theorem w_c10 : (Jvm.Cond.code ({ cls := "com/example/austere_auth/austereauth/refusal/Refusal", name := "requirePresent", desc := "(Ljava/lang/String;Lcom/example/austere_auth/austereauth/refusal/Refusal;)Ljava/lang/String;" } : Jvm.MethodName) prog_24_method_5_code (2 : Nat) (Option.some (Jvm.ClassFile.FieldType.object "java/lang/String"))).before args0 about1 = true := code_word (m := ⟨10, 2⟩) (meth := k10m2) (c := k10c2) (by decide +kernel) rfl rfl rfl (by decide +kernel)
set_option maxRecDepth 65536 in
theorem w_c11 : (Jvm.Cond.code ({ cls := "java/lang/String", name := "isEmpty", desc := "()Z" } : Jvm.MethodName) jdk_42_method_55_code (1 : Nat) (Option.some Jvm.ClassFile.FieldType.boolean)).before args0 about1 = true := code_word (m := ⟨7, 3⟩) (meth := k7m3) (c := k7c3) (by decide +kernel) rfl rfl rfl (by decide +kernel)
set_option maxRecDepth 65536 in
theorem w_c12 : (Jvm.Cond.code ({ cls := "java/lang/String", name := "length", desc := "()I" } : Jvm.MethodName) jdk_42_method_54_code (1 : Nat) (Option.some Jvm.ClassFile.FieldType.int)).before args0 about1 = true := code_word (m := ⟨7, 2⟩) (meth := k7m2) (c := k7c2) (by decide +kernel) rfl rfl rfl (by decide +kernel)
set_option maxRecDepth 65536 in
theorem w_c13 : (Jvm.Cond.code ({ cls := "java/lang/String", name := "coder", desc := "()B" } : Jvm.MethodName) jdk_42_method_152_code (1 : Nat) (Option.some Jvm.ClassFile.FieldType.byte)).before args0 about1 = true := code_word (m := ⟨7, 6⟩) (meth := k7m6) (c := k7c6) (by decide +kernel) rfl rfl rfl (by decide +kernel)
set_option maxRecDepth 65536 in
theorem w_c14 : (Jvm.Cond.code ({ cls := "java/lang/String", name := "charAt", desc := "(I)C" } : Jvm.MethodName) jdk_42_method_56_code (2 : Nat) (Option.some Jvm.ClassFile.FieldType.char)).before args0 about1 = true := code_word (m := ⟨7, 4⟩) (meth := k7m4) (c := k7c4) (by decide +kernel) rfl rfl rfl (by decide +kernel)
set_option maxRecDepth 65536 in
theorem w_c15 : (Jvm.Cond.code ({ cls := "java/lang/String", name := "isLatin1", desc := "()Z" } : Jvm.MethodName) jdk_42_method_154_code (1 : Nat) (Option.some Jvm.ClassFile.FieldType.boolean)).before args0 about1 = true := code_word (m := ⟨7, 7⟩) (meth := k7m7) (c := k7c7) (by decide +kernel) rfl rfl rfl (by decide +kernel)
set_option maxRecDepth 65536 in
theorem w_c16 : (Jvm.Cond.code ({ cls := "java/lang/StringLatin1", name := "charAt", desc := "([BI)C" } : Jvm.MethodName) jdk_43_method_2_code (2 : Nat) (Option.some Jvm.ClassFile.FieldType.char)).before args0 about1 = true := code_word (m := ⟨11, 1⟩) (meth := k11m1) (c := k11c1) (by decide +kernel) rfl rfl rfl (by decide +kernel)
set_option maxRecDepth 65536 in
theorem w_c17 : (Jvm.Cond.code ({ cls := "java/lang/String", name := "checkIndex", desc := "(II)V" } : Jvm.MethodName) jdk_42_method_155_code (2 : Nat) (Option.none : Option Jvm.ClassFile.FieldType)).before args0 about1 = true := code_word (m := ⟨7, 8⟩) (meth := k7m8) (c := k7c8) (by decide +kernel) rfl rfl rfl (by decide +kernel)
set_option maxRecDepth 65536 in
theorem w_c18 : (Jvm.Cond.code ({ cls := "jdk/internal/util/Preconditions", name := "checkIndex", desc := "(IILjava/util/function/BiFunction;)I" } : Jvm.MethodName) jdk_41_method_11_code (3 : Nat) (Option.some Jvm.ClassFile.FieldType.int)).before args0 about1 = true := code_word (m := ⟨12, 1⟩) (meth := k12m1) (c := k12c1) (by decide +kernel) rfl rfl rfl (by decide +kernel)
set_option maxRecDepth 65536 in
theorem w_c19 : (Jvm.Cond.code ({ cls := "java/lang/StringUTF16", name := "toBytes", desc := "([CII)[B" } : Jvm.MethodName) jdk_52_method_14_code (5 : Nat) (Option.some (Jvm.ClassFile.FieldType.array Jvm.ClassFile.FieldType.byte))).before args0 about1 = true := code_word (m := ⟨8, 6⟩) (meth := k8m6) (c := k8c6) (by decide +kernel) rfl rfl rfl (by decide +kernel)
set_option maxRecDepth 65536 in
theorem w_c20 : (Jvm.Cond.code ({ cls := "java/lang/StringUTF16", name := "newBytesFor", desc := "(I)[B" } : Jvm.MethodName) jdk_52_method_2_code (1 : Nat) (Option.some (Jvm.ClassFile.FieldType.array Jvm.ClassFile.FieldType.byte))).before args0 about1 = true := code_word (m := ⟨8, 1⟩) (meth := k8m1) (c := k8c1) (by decide +kernel) rfl rfl rfl (by decide +kernel)
set_option maxRecDepth 65536 in
theorem w_c21 : (Jvm.Cond.code ({ cls := "java/lang/StringUTF16", name := "newBytesLength", desc := "(I)I" } : Jvm.MethodName) jdk_52_method_3_code (1 : Nat) (Option.some Jvm.ClassFile.FieldType.int)).before args0 about1 = true := code_word (m := ⟨8, 2⟩) (meth := k8m2) (c := k8c2) (by decide +kernel) rfl rfl rfl (by decide +kernel)
set_option maxRecDepth 65536 in
theorem w_c22 : (Jvm.Cond.code ({ cls := "java/lang/StringUTF16", name := "putChar", desc := "([BII)V" } : Jvm.MethodName) jdk_52_method_4_code (3 : Nat) (Option.none : Option Jvm.ClassFile.FieldType)).before args0 about1 = true := code_word (m := ⟨8, 3⟩) (meth := k8m3) (c := k8c3) (by decide +kernel) rfl rfl rfl (by decide +kernel)
set_option maxRecDepth 65536 in
theorem w_c23 : (Jvm.Cond.code ({ cls := "java/lang/StringUTF16", name := "getChar", desc := "([BI)C" } : Jvm.MethodName) jdk_52_method_5_code (2 : Nat) (Option.some Jvm.ClassFile.FieldType.char)).before args0 about1 = true := code_word (m := ⟨8, 4⟩) (meth := k8m4) (c := k8c4) (by decide +kernel) rfl rfl rfl (by decide +kernel)
set_option maxRecDepth 65536 in
theorem w_c24 : (Jvm.Cond.code ({ cls := "java/lang/StringUTF16", name := "charAt", desc := "([BI)C" } : Jvm.MethodName) jdk_52_method_83_code (2 : Nat) (Option.some Jvm.ClassFile.FieldType.char)).before args0 about1 = true := code_word (m := ⟨8, 10⟩) (meth := k8m10) (c := k8c10) (by decide +kernel) rfl rfl rfl (by decide +kernel)
set_option maxRecDepth 65536 in
theorem w_c25 : (Jvm.Cond.code ({ cls := "java/lang/StringUTF16", name := "checkIndex", desc := "(I[B)V" } : Jvm.MethodName) jdk_52_method_91_code (2 : Nat) (Option.none : Option Jvm.ClassFile.FieldType)).before args0 about1 = true := code_word (m := ⟨8, 11⟩) (meth := k8m11) (c := k8c11) (by decide +kernel) rfl rfl rfl (by decide +kernel)
set_option maxRecDepth 65536 in
theorem w_c26 : (Jvm.Cond.code ({ cls := "java/lang/StringUTF16", name := "length", desc := "([B)I" } : Jvm.MethodName) jdk_52_method_6_code (1 : Nat) (Option.some Jvm.ClassFile.FieldType.int)).before args0 about1 = true := code_word (m := ⟨8, 5⟩) (meth := k8m5) (c := k8c5) (by decide +kernel) rfl rfl rfl (by decide +kernel)
def codes1 : List Jvm.Cond := [Jvm.Cond.code x code maxLocals ret, Jvm.Cond.code ({ cls := "java/lang/String", name := "<init>", desc := "([C)V" } : Jvm.MethodName) jdk_42_method_3_code (2 : Nat) (Option.none : Option Jvm.ClassFile.FieldType), Jvm.Cond.code ({ cls := "java/lang/String", name := "<init>", desc := "([CIILjava/lang/Void;)V" } : Jvm.MethodName) jdk_42_method_149_code (6 : Nat) (Option.none : Option Jvm.ClassFile.FieldType), Jvm.Cond.code ({ cls := "java/lang/Object", name := "<init>", desc := "()V" } : Jvm.MethodName) object_method_1_code (1 : Nat) (Option.none : Option Jvm.ClassFile.FieldType), Jvm.Cond.code ({ cls := "java/lang/StringUTF16", name := "compress", desc := "([CII)[B" } : Jvm.MethodName) jdk_52_method_16_code (6 : Nat) (Option.some (Jvm.ClassFile.FieldType.array Jvm.ClassFile.FieldType.byte)), Jvm.Cond.code ({ cls := "java/lang/StringUTF16", name := "compress", desc := "([CI[BII)I" } : Jvm.MethodName) jdk_52_method_21_code (7 : Nat) (Option.some Jvm.ClassFile.FieldType.int), Jvm.Cond.code ({ cls := "java/lang/StringUTF16", name := "coderFromArrayLen", desc := "([BI)B" } : Jvm.MethodName) jdk_52_method_15_code (2 : Nat) (Option.some Jvm.ClassFile.FieldType.byte), Jvm.Cond.code ({ cls := "com/example/austere_auth/austereauth/refusal/Refusal", name := "<init>", desc := "(ILjava/lang/String;Ljava/lang/String;)V" } : Jvm.MethodName) prog_24_method_1_code (4 : Nat) (Option.none : Option Jvm.ClassFile.FieldType), Jvm.Cond.code ({ cls := "com/example/austere_auth/austereauth/refusal/Refusal", name := "<init>", desc := "(ILjava/lang/String;Ljava/lang/String;Ljava/lang/String;)V" } : Jvm.MethodName) prog_24_method_2_code (5 : Nat) (Option.none : Option Jvm.ClassFile.FieldType), Jvm.Cond.code ({ cls := "java/lang/Record", name := "<init>", desc := "()V" } : Jvm.MethodName) jdk_30_method_1_code (1 : Nat) (Option.none : Option Jvm.ClassFile.FieldType), Jvm.Cond.code ({ cls := "com/example/austere_auth/austereauth/refusal/Refusal", name := "requirePresent", desc := "(Ljava/lang/String;Lcom/example/austere_auth/austereauth/refusal/Refusal;)Ljava/lang/String;" } : Jvm.MethodName) prog_24_method_5_code (2 : Nat) (Option.some (Jvm.ClassFile.FieldType.object "java/lang/String")), Jvm.Cond.code ({ cls := "java/lang/String", name := "isEmpty", desc := "()Z" } : Jvm.MethodName) jdk_42_method_55_code (1 : Nat) (Option.some Jvm.ClassFile.FieldType.boolean), Jvm.Cond.code ({ cls := "java/lang/String", name := "length", desc := "()I" } : Jvm.MethodName) jdk_42_method_54_code (1 : Nat) (Option.some Jvm.ClassFile.FieldType.int), Jvm.Cond.code ({ cls := "java/lang/String", name := "coder", desc := "()B" } : Jvm.MethodName) jdk_42_method_152_code (1 : Nat) (Option.some Jvm.ClassFile.FieldType.byte), Jvm.Cond.code ({ cls := "java/lang/String", name := "charAt", desc := "(I)C" } : Jvm.MethodName) jdk_42_method_56_code (2 : Nat) (Option.some Jvm.ClassFile.FieldType.char), Jvm.Cond.code ({ cls := "java/lang/String", name := "isLatin1", desc := "()Z" } : Jvm.MethodName) jdk_42_method_154_code (1 : Nat) (Option.some Jvm.ClassFile.FieldType.boolean), Jvm.Cond.code ({ cls := "java/lang/StringLatin1", name := "charAt", desc := "([BI)C" } : Jvm.MethodName) jdk_43_method_2_code (2 : Nat) (Option.some Jvm.ClassFile.FieldType.char), Jvm.Cond.code ({ cls := "java/lang/String", name := "checkIndex", desc := "(II)V" } : Jvm.MethodName) jdk_42_method_155_code (2 : Nat) (Option.none : Option Jvm.ClassFile.FieldType), Jvm.Cond.code ({ cls := "jdk/internal/util/Preconditions", name := "checkIndex", desc := "(IILjava/util/function/BiFunction;)I" } : Jvm.MethodName) jdk_41_method_11_code (3 : Nat) (Option.some Jvm.ClassFile.FieldType.int), Jvm.Cond.code ({ cls := "java/lang/StringUTF16", name := "toBytes", desc := "([CII)[B" } : Jvm.MethodName) jdk_52_method_14_code (5 : Nat) (Option.some (Jvm.ClassFile.FieldType.array Jvm.ClassFile.FieldType.byte)), Jvm.Cond.code ({ cls := "java/lang/StringUTF16", name := "newBytesFor", desc := "(I)[B" } : Jvm.MethodName) jdk_52_method_2_code (1 : Nat) (Option.some (Jvm.ClassFile.FieldType.array Jvm.ClassFile.FieldType.byte)), Jvm.Cond.code ({ cls := "java/lang/StringUTF16", name := "newBytesLength", desc := "(I)I" } : Jvm.MethodName) jdk_52_method_3_code (1 : Nat) (Option.some Jvm.ClassFile.FieldType.int), Jvm.Cond.code ({ cls := "java/lang/StringUTF16", name := "putChar", desc := "([BII)V" } : Jvm.MethodName) jdk_52_method_4_code (3 : Nat) (Option.none : Option Jvm.ClassFile.FieldType), Jvm.Cond.code ({ cls := "java/lang/StringUTF16", name := "getChar", desc := "([BI)C" } : Jvm.MethodName) jdk_52_method_5_code (2 : Nat) (Option.some Jvm.ClassFile.FieldType.char), Jvm.Cond.code ({ cls := "java/lang/StringUTF16", name := "charAt", desc := "([BI)C" } : Jvm.MethodName) jdk_52_method_83_code (2 : Nat) (Option.some Jvm.ClassFile.FieldType.char), Jvm.Cond.code ({ cls := "java/lang/StringUTF16", name := "checkIndex", desc := "(I[B)V" } : Jvm.MethodName) jdk_52_method_91_code (2 : Nat) (Option.none : Option Jvm.ClassFile.FieldType), Jvm.Cond.code ({ cls := "java/lang/StringUTF16", name := "length", desc := "([B)I" } : Jvm.MethodName) jdk_52_method_6_code (1 : Nat) (Option.some Jvm.ClassFile.FieldType.int)]
set_option maxRecDepth 65536 in
theorem codes_eq : words1.filter isCode = codes1 := rfl
theorem w_codes : ∀ c ∈ words1.filter isCode, c.before args0 about1 = true := by
  rw [codes_eq]
  intro c hc
  simp only [codes1, List.mem_cons, List.not_mem_nil, or_false] at hc
  rcases hc with rfl | rfl | rfl | rfl | rfl | rfl | rfl | rfl | rfl | rfl | rfl | rfl | rfl | rfl | rfl | rfl | rfl | rfl | rfl | rfl | rfl | rfl | rfl | rfl | rfl | rfl | rfl
  · exact w_c0
  · exact w_c1
  · exact w_c2
  · exact w_c3
  · exact w_c4
  · exact w_c5
  · exact w_c6
  · exact w_c7
  · exact w_c8
  · exact w_c9
  · exact w_c10
  · exact w_c11
  · exact w_c12
  · exact w_c13
  · exact w_c14
  · exact w_c15
  · exact w_c16
  · exact w_c17
  · exact w_c18
  · exact w_c19
  · exact w_c20
  · exact w_c21
  · exact w_c22
  · exact w_c23
  · exact w_c24
  · exact w_c25
  · exact w_c26
set_option maxRecDepth 65536 in
theorem w_t1 : (words1.take 24).all (fun c => isCode c || c.before args0 about1) = true := by decide +kernel
set_option maxRecDepth 65536 in
theorem w_t2 : ((words1.drop 24).take 24).all (fun c => isCode c || c.before args0 about1) = true := by decide +kernel
set_option maxRecDepth 65536 in
theorem w_t3 : (((words1.drop 24).drop 24).take 24).all (fun c => isCode c || c.before args0 about1) = true := by decide +kernel
set_option maxRecDepth 65536 in
theorem w_t4 : ((((words1.drop 24).drop 24).drop 24).take 24).all (fun c => isCode c || c.before args0 about1) = true := by decide +kernel
set_option maxRecDepth 65536 in
theorem w_t5 : (((((words1.drop 24).drop 24).drop 24).drop 24).take 24).all (fun c => isCode c || c.before args0 about1) = true := by decide +kernel
set_option maxRecDepth 65536 in
theorem w_t6 : (((((words1.drop 24).drop 24).drop 24).drop 24).drop 24).all (fun c => isCode c || c.before args0 about1) = true := by decide +kernel
theorem w_tables : (allAtoms (Jvm.Cond.code x code maxLocals ret :: tables_1)).before args0 about1 = true := by
  rw [allAtoms_all]
  show words1.all (fun c => c.before args0 about1) = true
  refine all_split ?_ w_codes
  rw [← List.take_append_drop 24 words1, List.all_append, w_t1, ← List.take_append_drop 24 (words1.drop 24), List.all_append, w_t2, ← List.take_append_drop 24 ((words1.drop 24).drop 24), List.all_append, w_t3, ← List.take_append_drop 24 (((words1.drop 24).drop 24).drop 24), List.all_append, w_t4, ← List.take_append_drop 24 ((((words1.drop 24).drop 24).drop 24).drop 24), List.all_append, w_t5, w_t6]
  rfl
set_option maxRecDepth 65536 in
theorem w_rest : rest_1_c.before args0 about1 = true := by decide +kernel
set_option maxRecDepth 65536 in
theorem w_case : (Jvm.Cond.and given_1 narrow_1).before args0 about1 = true := by decide +kernel
theorem w_applies : (headSpec (Jvm.Cond.code x code maxLocals ret :: tables_1) room_1).applies x e0.platform about1 = true :=
  (Spec.applies_iff w_frames).mpr ⟨w_running, w_runnable, w_alone, w_named, w_hears, w_ripe, w_room, w_tables⟩
theorem atStart : AtStart classFile x code maxLocals ret World_1 tables_1 room_1 Calls_1 rest_1 Pre_1 launch0 p0 e0 about1 theMethod args0 below0 :=
  ⟨lists_1, trivial, launch0.admits_env _ _ _, launch0.least_env, fairChoices_fair.cas, fairChoices_fair.clock, w_frames, w_args, w_heap, w_applies, trivial, w_rest, w_case⟩
end start1
theorem witness_1 : WitnessClaimed_1 := ⟨start1.p0, start1.e0, start1.about1, start1.theMethod, start1.args0, start1.below0, start1.atStart⟩
end Jvm.Pilot.@@N@@
