import JvmDerived
import JvmDerived.Pilot.@@N@@Statement
import JvmDerived.Pilot.@@N@@Code
set_option linter.unusedVariables false
set_option linter.unusedSimpArgs false
namespace Jvm.Pilot.@@N@@
open Jvm Jvm.ClassFile Sem Op Lib Jvm.Free Jvm.Stand Jvm.LawKit Jvm.RoadKit Bundle Jvm.Pilot.@@N@@.Jvm.D
section OwnKit
variable {p : Program} {l : Launch} {e : Env} {R : Room} {s : State} {m : MethodId} {args : Array Value} {below : List Frame} {meth : Method} {c : Code} {T T' : State} {locs : List Loc} {cells slots : Nat}
/-- from the frame f in the state T the run comes to the method's end, and G holds there -/
def own_Goes (p : Program) (e : Env) (below : List Frame) (G : Outcome → State → Prop) (T : State) (f : JFrame) : Prop :=
  ∃ s₂ o, Steps p.tables e below (T.setTop f) s₂ ∧ s₂.status = .running ∧ Ended s₂ below o ∧ G o s₂
theorem own_of {G : Outcome → State → Prop} {f f' : JFrame} (st : ∀ t, Steps p.tables e below (T'.setTop f') t → Steps p.tables e below (T.setTop f) t) (h : own_Goes p e below G T' f') : own_Goes p e below G T f := by
  obtain ⟨s₂, o, h1, h2⟩ := h
  exact ⟨s₂, o, st _ h1, h2⟩
theorem own_start {G : Outcome → State → Prop} {f f' : JFrame} (q : f = f') (h : own_Goes p e below G T f') : ∃ s₂ o, Steps p.tables e below (T.setTop f) s₂ ∧ s₂.status = .running ∧ Ended s₂ below o ∧ G o s₂ := q ▸ h
theorem own_retI (X : Stand p l e R s m args below meth c T locs cells slots) (hx : p.tables.exec = Jvm.exec) {pc : Nat} {Ls : Array Slot} {z : Int32} {rest : List Value} (hret : meth.sig.returnType = some .int) (hd : decode c.code pc = .ok (.ireturn, 1)) {fs : List Frame}
    (hl : ∀ (f : JFrame) (acts : List Action), f.method = m → f.locked = none → f.entered = [] → (doReturn e (T.setTop f) acts (some (.int z))).1 = T.setFrames fs) : Steps p.tables e below (T.setTop (mkF m pc Ls (.int z :: rest))) (T.setFrames fs) :=
  retOut X hx hret rfl (Or.inl ⟨rfl, Or.inl rfl, _, rfl⟩) hd hl
theorem own_retJ (X : Stand p l e R s m args below meth c T locs cells slots) (hx : p.tables.exec = Jvm.exec) {pc : Nat} {Ls : Array Slot} {z : Int64} {rest : List Value} (hret : meth.sig.returnType = some .long) (hd : decode c.code pc = .ok (.lreturn, 1)) {fs : List Frame}
    (hl : ∀ (f : JFrame) (acts : List Action), f.method = m → f.locked = none → f.entered = [] → (doReturn e (T.setTop f) acts (some (.long z))).1 = T.setFrames fs) : Steps p.tables e below (T.setTop (mkF m pc Ls (.long z :: rest))) (T.setFrames fs) :=
  retOut X hx hret rfl (Or.inr (Or.inl ⟨rfl, rfl, _, rfl⟩)) hd hl
theorem own_retD (X : Stand p l e R s m args below meth c T locs cells slots) (hx : p.tables.exec = Jvm.exec) {pc : Nat} {Ls : Array Slot} {z : UInt64} {rest : List Value} (hret : meth.sig.returnType = some .double) (hd : decode c.code pc = .ok (.dreturn, 1)) {fs : List Frame}
    (hl : ∀ (f : JFrame) (acts : List Action), f.method = m → f.locked = none → f.entered = [] → (doReturn e (T.setTop f) acts (some (.double z))).1 = T.setFrames fs) : Steps p.tables e below (T.setTop (mkF m pc Ls (.double z :: rest))) (T.setFrames fs) :=
  retOut X hx hret rfl (Or.inr (Or.inr (Or.inl ⟨rfl, rfl, _, rfl⟩))) hd hl
theorem own_retA (X : Stand p l e R s m args below meth c T locs cells slots) (hx : p.tables.exec = Jvm.exec) {pc : Nat} {Ls : Array Slot} {z : Value} {rest : List Value} {t : FieldType} (hret : meth.sig.returnType = some t) (ht : t.isReference = true) (hn : narrow t z = z) (hz : z.isRef = true) (hd : decode c.code pc = .ok (.areturn, 1)) {fs : List Frame}
    (hl : ∀ (f : JFrame) (acts : List Action), f.method = m → f.locked = none → f.entered = [] → (doReturn e (T.setTop f) acts (some z)).1 = T.setFrames fs) : Steps p.tables e below (T.setTop (mkF m pc Ls (z :: rest))) (T.setFrames fs) :=
  retOut X hx hret hn (Or.inr (Or.inr (Or.inr (Or.inr ⟨rfl, ht, hz⟩)))) hd hl
theorem own_stakeep {Z : State} {h h' : Heap} {C n d : String} {v : Value} {ws : List Addr} (F : Sta Z h C n d v) (K : Keep h h' ws) (q : ∀ x ∈ ws, ∀ cell : Cell, h[x]? = some cell → cell.vm.isStatics = false) : Sta Z h' C n d v := by
  obtain ⟨cf, i, k, f, st, cell, h1, h2, h3, h4, h5, h6, h7⟩ := F
  exact ⟨cf, i, k, f, st, cell, h1, h2, h3, h4, K.2.1 st cell h5 (fun z => by rw [q st z cell h5] at h6; cases h6), h6, h7⟩
theorem own_plainE {Z : State} {h : Heap} {a : Addr} {C : String} (F : Exa Z h a C) : ∀ cell : Cell, h[a]? = some cell → cell.vm.isStatics = false := fun cell hc => by
  obtain ⟨c', k, h1, -, -, h4, -⟩ := F
  cases h1.symm.trans hc
  exact h4
theorem own_noI {Z : State} {a0 : Array Value} {C K O : String} {n : Nat} (w : (Jvm.Cond.superclass C O).before a0 Z = true) (wo : (Jvm.Cond.noSuperclass O).before a0 Z = true) (wi : (Jvm.Cond.instantiable K n).before a0 Z = true) (hn : C ≠ K) (ho : O ≠ K) : ∃ c t, Z.vm.findClass C = some c ∧ Z.vm.findClass K = some t ∧ Z.vm.assignable c t = false := by
  obtain ⟨t, kt, g0, g2, g5, g7, -, -⟩ := Cond.instantiable_spec wi
  simp only [Bool.or_eq_false_iff] at g7
  obtain ⟨oc, ok, o1, o2, o3, -, -⟩ := Cond.noSuperclass_spec wo
  obtain ⟨c, h0⟩ := found_sup w
  obtain ⟨p, k, kp, h1, h2, h3, h4, h5, -, h7⟩ := Cond.superclass_spec h0 w
  cases o1.symm.trans h1
  have ne := ids_ne h0 g0 hn
  have neo := ids_ne o1 g0 ho
  have n3 : ∀ fuel, Z.vm.isSubclassAux fuel c t = false := fun fuel => by
    cases fuel with
    | zero => rfl
    | succ f =>
      have n4 : Z.vm.isSubclassAux f oc t = false := by
        cases f with
        | zero => rfl
        | succ f => simp [Vm.isSubclassAux, neo, o2, o3]
      simp [Vm.isSubclassAux, ne, h2, h4, n4]
  refine ⟨c, t, h0, g0, ?_⟩
  show Z.vm.assignableAux (255 + 1) c t = false
  simp [Vm.assignableAux, ne, h2, g2, h5, g5, g7, Vm.isSubclass, n3]
theorem own_ask {Z : State} {a0 : Array Value} {h : Heap} {a : Addr} {C K : String} (E : Exa Z h a C) (w : (Jvm.Cond.castable K K).before a0 Z = true) : Ins Z h a K true ∨ ∃ c t, Z.vm.findClass C = some c ∧ Z.vm.findClass K = some t ∧ Z.vm.assignable c t = false := by
  obtain ⟨cell, k, h1, h2, h3, h4, -⟩ := E
  cases ht : Z.vm.findClass K with
  | none => simp [Cond.before, Cond.holds, Cond.value, ht] at w
  | some t =>
    cases ha : Z.vm.assignable cell.cls t with
    | true => exact Or.inl ⟨cell, t, h1, ht, by rw [h4, ha]; rfl⟩
    | false => exact Or.inr ⟨cell.cls, t, h2, rfl, ha⟩
theorem own_dupX2 {tb : Tables} [Ours tb] {e : Env} {below : List Frame} {T target : State} {m : MethodId} {c : Code} {g : JFrame} (h : At T m c below) (hx : tb.exec = Jvm.exec) (hg : g.method = m) {x y z : Value} {rest : List Value} (hd : decode c.code g.pc = .ok (.dup_x2, 1)) (hs : g.stack = x :: y :: z :: rest) (hc : x.category = 1) (hc' : y.category = 1) (hc'' : z.category = 1)
    (hr : Steps tb e below (T.setTop { g with pc := g.pc + 1, stack := x :: y :: z :: x :: rest }) target) : Steps tb e below (T.setTop g) target := by
  subst hg
  jvm_step h [h.top, hx, hd, hs, hc, hc', hc'']
  exact hr
theorem own_dz : FP.dconst0 = FP.l2d 0 := by decide +kernel
theorem own_cR (a : Addr) : (Value.ref a).category = 1 := rfl
theorem own_cN : Value.null.category = 1 := rfl
theorem own_cI (x : Int32) : (Value.int x).category = 1 := rfl
theorem own_cat1 {x : Value} (h : x.isRef = true) : x.category = 1 := by cases x <;> first | rfl | cases h
theorem own_astoreN {tb : Tables} [Ours tb] {e : Env} {below : List Frame} {T target : State} {m : MethodId} {c : Code} {g : JFrame} (h : At T m c below) (hx : tb.exec = Jvm.exec) (hg : g.method = m) {k : Fin 4} {x : Value} {rest : List Value} {o : Slot} {l' : Array Slot} (hd : decode c.code g.pc = .ok (.astore_n k, 1)) (hs : g.stack = x :: rest) (hv : x.isRef = true) (hold : g.locals[k.val]? = some o) (ho : One o) (hl : g.locals.setIfInBounds k.val (.val x) = l')
    (hr : Steps tb e below (T.setTop { g with pc := g.pc + 1, stack := rest, locals := l' }) target) : Steps tb e below (T.setTop g) target := XS.astoreN h hx hg hd hs hv (l' := l') (by rw [← hl]; exact XS.store1 hold ho (own_cat1 hv)) hr
theorem own_astore {tb : Tables} [Ours tb] {e : Env} {below : List Frame} {T target : State} {m : MethodId} {c : Code} {g : JFrame} (h : At T m c below) (hx : tb.exec = Jvm.exec) (hg : g.method = m) {k : Nat} {x : Value} {rest : List Value} {o : Slot} {l' : Array Slot} (hd : decode c.code g.pc = .ok (.astore k, 2)) (hs : g.stack = x :: rest) (hv : x.isRef = true) (hold : g.locals[k]? = some o) (ho : One o) (hl : g.locals.setIfInBounds k (.val x) = l')
    (hr : Steps tb e below (T.setTop { g with pc := g.pc + 2, stack := rest, locals := l' }) target) : Steps tb e below (T.setTop g) target := XS.astore h hx hg hd hs hv (l' := l') (by rw [← hl]; exact XS.store1 hold ho (own_cat1 hv)) hr
end OwnKit
theorem own_nb (x : Int32) : nar .byte (x.toInt8.toInt32) = x.toInt8.toInt32 := by
  show x.toInt8.toInt32.toInt8.toInt32 = x.toInt8.toInt32
  simp
abbrev own_EL : List (String × Nat) := [("com/example/austere_auth/austereauth/grant/TokenRequest", 31), ("com/example/austere_auth/austereauth/grant/TokenRequest", 37), ("com/example/austere_auth/austereauth/grant/TokenRequest", 39), ("com/example/austere_auth/austereauth/grant/TokenRequest", 41)]
theorem own_EW {Z : State} {a0 : Array Value} (hw : ∀ d ∈ tables_1, d.before a0 Z = true) : EW Z a0 own_EL := EW.cons (text := "TokenRequest[grantType=") (hw _ (List.mem_of_getElem? (i := 77) rfl)) (by decide) (EW.cons (text := ", clientId=") (hw _ (List.mem_of_getElem? (i := 150) rfl)) (by decide) (EW.cons (text := ", redirectUri=") (hw _ (List.mem_of_getElem? (i := 151) rfl)) (by decide) (EW.cons (text := "]") (hw _ (List.mem_of_getElem? (i := 152) rfl)) (by decide) EW.nil)))
theorem own_cl (n : Nat) (h : n < 2000) : (Int32.ofNat n).toNatClampNeg = n := by
  have e : (Int32.ofNat n).toInt = n := Int32.toInt_ofNat_of_lt (by omega)
  simp only [Int32.toNatClampNeg, e]
  omega
theorem own_lt (a b : Nat) (ha : a < 2000) (hb : b < 2000) : Int32.ofNat a < Int32.ofNat b ↔ a < b := by
  rw [Int32.lt_iff_toInt_lt, Int32.toInt_ofNat_of_lt (by omega), Int32.toInt_ofNat_of_lt (by omega)]
  omega
theorem own_inj (a b : Nat) (ha : a < 2000) (hb : b < 2000) (h : Int32.ofNat a = Int32.ofNat b) : a = b := by
  have q := congrArg Int32.toInt h
  rw [Int32.toInt_ofNat_of_lt (by omega), Int32.toInt_ofNat_of_lt (by omega)] at q
  omega
theorem own_ng (n : Nat) (h : n < 2000) : ¬ Int32.ofNat n < 0 := by
  have e : (0 : Int32) = Int32.ofNat 0 := rfl
  rw [e, own_lt _ _ h (by decide)]
  omega
theorem own_add (a b : Nat) : Int32.ofNat a + Int32.ofNat b = Int32.ofNat (a + b) := (Int32.ofNat_add a b).symm
theorem own_sub (a b : Nat) (h : b ≤ a) : Int32.ofNat a - Int32.ofNat b = Int32.ofNat (a - b) := by
  have e : Int32.ofNat a = Int32.ofNat (a - b) + Int32.ofNat b := by rw [own_add, Nat.sub_add_cancel h]
  rw [e]
  exact Int32.add_sub_cancel _ _
theorem own_subpos (a b : Nat) (ha : a < 2000) (hb : b < 2000) : 0 < Int32.ofNat a - Int32.ofNat b ↔ b < a := by
  rw [Int32.lt_iff_toInt_lt, Int32.toInt_sub, Int32.toInt_ofNat_of_lt (by omega), Int32.toInt_ofNat_of_lt (by omega)]
  have z : (0 : Int32).toInt = 0 := rfl
  rw [z, Int.bmod_eq_of_le (by omega) (by omega)]
  omega
theorem own_shr (c : Int32) : c >>> ((0 : Int32) &&& 31) = c := by
  have e : ((0 : Int32) &&& 31) = 0 := by decide
  rw [e]
  exact Int32.shiftRight_zero
theorem own_shl (c : Int32) : c <<< ((0 : Int32) &&& 31) = c := by
  have e : ((0 : Int32) &&& 31) = 0 := by decide
  rw [e]
  exact Int32.shiftLeft_zero
def own_max (a b : Int32) : Int32 := if a < b then b else a
def own_min (a b : Int32) : Int32 := if b < a then b else a
theorem own_maxN (a b : Nat) (ha : a < 2000) (hb : b < 2000) : own_max (Int32.ofNat a) (Int32.ofNat b) = Int32.ofNat (max a b) := by
  unfold own_max
  by_cases h : a < b
  · rw [if_pos ((own_lt a b ha hb).mpr h), Nat.max_eq_right (Nat.le_of_lt h)]
  · rw [if_neg (fun q => h ((own_lt a b ha hb).mp q)), Nat.max_eq_left (Nat.le_of_not_lt h)]
theorem own_minL (a b : Nat) (ha : a < 2000) (hb : b < 2000) (h : a ≤ b) : own_min (Int32.ofNat a) (Int32.ofNat b) = Int32.ofNat a := by
  unfold own_min
  rw [if_neg (fun q => absurd ((own_lt b a hb ha).mp q) (Nat.not_lt.mpr h))]
theorem own_minR (a b : Nat) (ha : a < 2000) (hb : b < 2000) (h : b < a) : own_min (Int32.ofNat a) (Int32.ofNat b) = Int32.ofNat b := by
  unfold own_min
  rw [if_pos ((own_lt b a hb ha).mpr h)]
def own_grow (cap need : Nat) : Nat := if need ≤ cap then cap else cap + max (need - cap) (cap + 2)
theorem own_grow_ge (cap need : Nat) : cap ≤ own_grow cap need ∧ need ≤ own_grow cap need := by
  unfold own_grow
  split <;> omega
def own_lo8 (x : Int32) : Int32 := x.toInt8.toInt32
def own_by (cs : List Int32) : List Value := cs.map fun c => .int (own_lo8 c)
theorem own_byl (cs : List Int32) : (own_by cs).length = cs.length := List.length_map _
def own_S (Z : State) (h : Heap) (a t : Addr) (k : ClassId) (cs : List Int32) : Prop := Exa Z h a "java/lang/String" ∧ Fld Z h a "java/lang/String" "value" "[B" (.ref t) ∧ Fld Z h a "java/lang/String" "coder" "B" (.int 0) ∧ Arv Z h t k .byte (Int32.ofNat cs.length) (own_by cs) (.int 0)
def own_nul : List Int32 := [110, 117, 108, 108]
def own_O (Z : State) (h : Heap) (u : Value) (cs : List Int32) : Prop := (u = .null ∧ cs = own_nul) ∨ ∃ a t k, u = .ref a ∧ own_S Z h a t k cs
theorem own_S_keep {Z : State} {h h' : Heap} {a t : Addr} {k : ClassId} {cs : List Int32} {ws : List Addr} (F : own_S Z h a t k cs) (K : Keep h h' ws) (q1 : a ∉ ws) (q2 : t ∉ ws) : own_S Z h' a t k cs := ⟨F.1.keep K, F.2.1.keep K q1, F.2.2.1.keep K q1, F.2.2.2.keep K q2⟩
theorem own_S_ext {Z : State} {h h' : Heap} {a t : Addr} {k : ClassId} {cs : List Int32} (F : own_S Z h a t k cs) (E : Ext h h') : own_S Z h' a t k cs := ⟨F.1.ext E, F.2.1.ext E, F.2.2.1.ext E, F.2.2.2.ext E⟩
theorem own_O_keep {Z : State} {h h' : Heap} {u : Value} {cs : List Int32} (F : own_O Z h u cs) (K : Keep h h' []) : own_O Z h' u cs := by
  rcases F with F | ⟨a, t, k, q, F⟩
  · exact Or.inl F
  · exact Or.inr ⟨a, t, k, q, own_S_keep F K nin0 nin0⟩
theorem own_O_ext {Z : State} {h h' : Heap} {u : Value} {cs : List Int32} (F : own_O Z h u cs) (E : Ext h h') : own_O Z h' u cs := by
  rcases F with F | ⟨a, t, k, q, F⟩
  · exact Or.inl F
  · exact Or.inr ⟨a, t, k, q, own_S_ext F E⟩
theorem own_O_ref {Z : State} {h : Heap} {u : Value} {cs : List Int32} (F : own_O Z h u cs) : u.isRef = true ∧ narrow (.object "java/lang/String") u = u ∧ fits (.object "java/lang/String") u = true := by
  rcases F with ⟨rfl, -⟩ | ⟨a, t, k, rfl, -⟩
  · exact ⟨rfl, rfl, rfl⟩
  · exact ⟨rfl, rfl, rfl⟩
def own_C (cs : List Int32) : Prop := cs = own_nul ∨ ∃ x : Int32, cs = [x] ∧ ¬ x < 0 ∧ ¬ (255 : Int32) < x
def own_P (Z : State) (h : Heap) (u : Value) (cs : List Int32) : Prop := (u = .null ∧ cs = own_nul) ∨ ∃ a t k x, u = .ref a ∧ own_S Z h a t k [x] ∧ cs = [x] ∧ ¬ x < 0 ∧ ¬ (255 : Int32) < x
theorem own_P_O {Z : State} {h : Heap} {u : Value} {cs : List Int32} (F : own_P Z h u cs) : own_O Z h u cs := by
  rcases F with F | ⟨a, t, k, x, q, S, rfl, -⟩
  · exact Or.inl F
  · exact Or.inr ⟨a, t, k, q, S⟩
theorem own_P_C {Z : State} {h : Heap} {u : Value} {cs : List Int32} (F : own_P Z h u cs) : own_C cs := by
  rcases F with ⟨-, F⟩ | ⟨a, t, k, x, -, -, q, r⟩
  · exact Or.inl F
  · exact Or.inr ⟨x, q, r⟩
theorem own_P_ext {Z : State} {h h' : Heap} {u : Value} {cs : List Int32} (F : own_P Z h u cs) (E : Ext h h') : own_P Z h' u cs := by
  rcases F with F | ⟨a, t, k, x, q, S, r⟩
  · exact Or.inl F
  · exact Or.inr ⟨a, t, k, x, q, own_S_ext S E, r⟩
theorem own_P_keep {Z : State} {h h' : Heap} {u : Value} {cs : List Int32} (F : own_P Z h u cs) (K : Keep h h' []) : own_P Z h' u cs := by
  rcases F with F | ⟨a, t, k, x, q, S, r⟩
  · exact Or.inl F
  · exact Or.inr ⟨a, t, k, x, q, own_S_keep S K nin0 nin0, r⟩
theorem own_P_keepX {Z : State} {h h' : Heap} {u : Value} {cs : List Int32} {y : Addr} {a0 : Array Value} {n : Nat} (F : own_P Z h u cs) (K : Keep h h' [y]) (E : Exa Z h y "com/example/austere_auth/austereauth/grant/TokenRequest") (w : (Jvm.Cond.instantiable "com/example/austere_auth/austereauth/grant/TokenRequest" n).before a0 Z = true) : own_P Z h' u cs := by
  rcases F with F | ⟨a, t, k, x, q, S, r⟩
  · exact Or.inl F
  · exact Or.inr ⟨a, t, k, x, q, own_S_keep S K (ninS (S.1.ne E (by decide)) nin0) (ninS (Ne.symm (E.neArv S.2.2.2 w)) nin0), r⟩
theorem own_C_len {cs : List Int32} (h : own_C cs) : cs.length = 1 ∨ cs.length = 4 := by
  rcases h with rfl | ⟨x, rfl, -⟩
  · exact Or.inr rfl
  · exact Or.inl rfl
theorem own_C_0 {cs : List Int32} (h : own_C cs) : ¬ cs.getD 0 0 < 0 ∧ ¬ (255 : Int32) < cs.getD 0 0 := by
  rcases h with rfl | ⟨x, rfl, q⟩
  · decide
  · exact q
theorem own_rng (cs : List Value) (d : Value) (n : Nat) (h : cs.length = n) : cs = (List.range n).map fun i => cs.getD (0 + i) d := by
  apply List.ext_getElem
  · simp [h]
  · intro i h1 h2
    simp [List.getD_eq_getElem?_getD, h1]
theorem own_rngT (cs : List Value) (d : Value) (n : Nat) (h : n ≤ cs.length) : cs.take n = (List.range n).map fun i => cs.getD (0 + i) d := by
  apply List.ext_getElem
  · simp [Nat.min_eq_left h]
  · intro i h1 h2
    have h3 : i < cs.length := by simp at h1; omega
    simp [List.getD_eq_getElem?_getD, h3]
def own_B (Z : State) (h : Heap) (a da : Addr) (k : ClassId) (cap : Nat) (bs : List Value) : Prop := Exa Z h a "java/lang/StringBuilder" ∧ Fld Z h a "java/lang/AbstractStringBuilder" "value" "[B" (.ref da) ∧ Fld Z h a "java/lang/AbstractStringBuilder" "coder" "B" (.int 0) ∧ Fld Z h a "java/lang/AbstractStringBuilder" "count" "I" (.int (Int32.ofNat bs.length)) ∧ Exa Z h da "[B" ∧ Arv Z h da k .byte (Int32.ofNat cap) (bs ++ List.replicate (cap - bs.length) (.int 0)) (.int 0) ∧ bs.length ≤ cap
theorem own_B_keep {Z : State} {h h' : Heap} {a da : Addr} {k : ClassId} {cap : Nat} {bs : List Value} {ws : List Addr} (F : own_B Z h a da k cap bs) (K : Keep h h' ws) (q1 : a ∉ ws) (q2 : da ∉ ws) : own_B Z h' a da k cap bs := ⟨F.1.keep K, F.2.1.keep K q1, F.2.2.1.keep K q1, F.2.2.2.1.keep K q1, F.2.2.2.2.1.keep K, F.2.2.2.2.2.1.keep K q2, F.2.2.2.2.2.2⟩
theorem own_B_ext {Z : State} {h h' : Heap} {a da : Addr} {k : ClassId} {cap : Nat} {bs : List Value} (F : own_B Z h a da k cap bs) (E : Ext h h') : own_B Z h' a da k cap bs := ⟨F.1.ext E, F.2.1.ext E, F.2.2.1.ext E, F.2.2.2.1.ext E, F.2.2.2.2.1.ext E, F.2.2.2.2.2.1.ext E, F.2.2.2.2.2.2⟩
theorem own_put (bs cs : List Value) (cap : Nat) (h : bs.length + cs.length ≤ cap) : (bs ++ List.replicate (cap - bs.length) (Value.int 0)).take bs.length ++ cs ++ (bs ++ List.replicate (cap - bs.length) (Value.int 0)).drop (bs.length + cs.length) = (bs ++ cs) ++ List.replicate (cap - (bs ++ cs).length) (Value.int 0) := by
  rw [List.take_left' rfl, List.drop_append, List.drop_eq_nil_of_le (by omega), List.nil_append, List.drop_replicate, List.length_append]
  congr 2
  omega
theorem own_padmore (bs : List Value) (c d : Nat) (h1 : bs.length ≤ c) (h2 : c ≤ d) : (bs ++ List.replicate (c - bs.length) (Value.int 0)) ++ List.replicate (d - c) (Value.int 0) = bs ++ List.replicate (d - bs.length) (Value.int 0) := by
  rw [List.append_assoc, List.replicate_append_replicate]
  congr 2
  omega
theorem own_padlen (bs : List Value) (c : Nat) (h1 : bs.length ≤ c) : (bs ++ List.replicate (c - bs.length) (Value.int 0)).length = c := by
  rw [List.length_append, List.length_replicate]
  omega
theorem own_setp (bs : List Value) (v : Value) (c : Nat) (h : bs.length < c) : (bs ++ List.replicate (c - bs.length) (Value.int 0)).set bs.length v = (bs ++ [v]) ++ List.replicate (c - (bs ++ [v]).length) (Value.int 0) := by
  obtain ⟨m, hm⟩ : ∃ m, c - bs.length = m + 1 := ⟨c - bs.length - 1, by omega⟩
  have e : c - (bs ++ [v]).length = m := by rw [List.length_append, List.length_singleton]; omega
  rw [hm, e, List.replicate_succ, List.set_append_right (h := Nat.le_refl _), Nat.sub_self, List.set_cons_zero, List.append_assoc]
  rfl
theorem own_pn_0 : plainName "java/lang/String" = true := by first | (simp [plainName, overriddenIn]; done) | decide +kernel
theorem own_ef_cod (m : MethodId) (a1 : Addr) : entryFrame m #[(.ref a1)] 1 = mkF m 0 #[.val (.ref a1)] [] := by first | (simp [entryFrame, mkF, argsToLocals, Value.category]; done) | rfl
def own_Q_cod (Z : State) (a1 : Addr) (G1 : Int32) (h0 : Heap) (n0 : Nat) (v : Option Value) (h : Heap) (L : List Loc) : Prop := v = some (.int 0) ∧ Fr n0 L ∧ h = h0
theorem own_d_jdk_42_method_152_code_0 : decode jdk_42_method_152_code 0 = .ok (.getstatic 38, 3) := by decide +kernel
theorem own_d_jdk_42_method_152_code_3 : decode jdk_42_method_152_code 3 = .ok (.ifCond .eq 10, 3) := by decide +kernel
theorem own_d_jdk_42_method_152_code_6 : decode jdk_42_method_152_code 6 = .ok (.aload_n 0, 1) := by decide +kernel
theorem own_d_jdk_42_method_152_code_7 : decode jdk_42_method_152_code 7 = .ok (.getfield 15, 3) := by decide +kernel
theorem own_d_jdk_42_method_152_code_10 : decode jdk_42_method_152_code 10 = .ok (.goto 4, 3) := by decide +kernel
theorem own_d_jdk_42_method_152_code_14 : decode jdk_42_method_152_code 14 = .ok (.ireturn, 1) := by decide +kernel
set_option maxRecDepth 65536 in
set_option maxHeartbeats 40000000 in
theorem own_rm_cod (l : Launch) (Z : State) (a0 : Array Value) (hw : ∀ d ∈ tables_1, d.before a0 Z = true) (ws : List Jvm.Cond) (a1 : Addr) (G1 : Int32) (h0 : Heap) (n0 : Nat) (Z0 : n0 ≤ h0.size) (SC : Sta Z h0 "java/lang/String" "COMPACT_STRINGS" "Z" (.int G1)) (P5 : ¬ (G1 = (0 : Int32))) (F2 : Fld Z h0 a1 "java/lang/String" "coder" "B" (.int 0)) :
    MetFree l (⟨"java/lang/String", "coder", "()B"⟩ : MethodName) (head1 (Jvm.Cond.code (⟨"java/lang/String", "coder", "()B"⟩ : MethodName) jdk_42_method_152_code 1 (some .byte) :: ws) ({ frames := 0, cells := 0, slots := 0, locals := 0 } : Room)) (fun a U => a = #[(.ref a1)] ∧ Z.Warmed39 U.vm ∧ U.heap = h0) (fun _ _ _ _ _ => True) (fun _ U o U' => ∃ v L, o = .returned v ∧ own_Q_cod Z a1 G1 h0 n0 v U'.heap L ∧ FrameEnd U o U' L ({ frames := 0, cells := 0, slots := 0, locals := 0 } : Room).cells ({ frames := 0, cells := 0, slots := 0, locals := 0 } : Room).slots) := by
  refine MetFree.of_bodySF (plainFor_of_name own_pn_0) hisR ?_
  intro p e s m args below meth c s₁ Bd hml0 hP hK
  obtain ⟨rfl, hZ, hh⟩ := hP
  have hx := Bd.exec
  have hby := Bd.bytes
  have hml : c.maxLocals = 1 := hml0
  have hown : s.vm.findClass "java/lang/String" = some m.cls := findClass_of_methodNamed Bd.named
  have hnm := (name_of_methodNamed Bd.named Bd.method).1
  have X0 : Stand p l e ({ frames := 0, cells := 0, slots := 0, locals := 0 } : Room) s m #[(.ref a1)] below meth c s₁ [] 0 0 := Stand.of_body Bd
  have e0 : s₁.heap = h0 := by rw [← hh, Bd.state]; rfl
  have N0 := Fr.nil n0
  refine own_start (own_ef_cod m a1 ) ?_
  obtain ⟨T1, X1, e1, st1⟩ := getS2 X0 hx hZ hown (host := "") (Or.inl (hw _ (List.mem_of_getElem? (i := 8) rfl))) Via.refl e0 SC (g := (mkF m 0 #[.val (.ref a1)] [])) rfl (Jvm.hb hby own_d_jdk_42_method_152_code_0)
  obtain ⟨T2, X2, e2, st2⟩ := getF X1 hx hZ hown (host := "") (Or.inl (hw _ (List.mem_of_getElem? (i := 28) rfl))) Via.refl e1 F2 (g := (mkF m 7 #[.val (.ref a1)] [(.ref a1)])) rfl rfl (Jvm.hb hby own_d_jdk_42_method_152_code_7)
  refine own_of (T' := T2) (f' := (mkF m 14 #[.val (.ref a1)] [(.int (0 : Int32))])) (fun t_ k_ => (st1 _ (XS.ifNo X1.here hx rfl (Jvm.hb hby own_d_jdk_42_method_152_code_3) rfl ((if0 _ _).trans (feq P5).1) (XS.aloadN X1.here hx rfl (Jvm.hb hby own_d_jdk_42_method_152_code_6) rfl rfl (st2 _ (XS.goto X2.here hx rfl (pc0 := 10) (pc' := 14) rfl (Jvm.hb hby own_d_jdk_42_method_152_code_10) (by decide) (by decide) k_)))))) ?_
  obtain ⟨fs, hr, hrun, hended, hW, hsame⟩ := X2.leave (v := some (.int (0 : Int32))) (fun h => by rw [Bd.returns] at h; cases h)
  exact ⟨_, _, retN X2 hx (t := .byte) Bd.returns (by simp) (Jvm.hb hby own_d_jdk_42_method_152_code_14) hr, hrun, hended, _, _, rfl, (by show own_Q_cod Z a1 G1 h0 n0 _ T2.heap _; rw [e2]; exact ⟨rfl, N0, rfl⟩), ⟨_, rfl⟩, hW, hsame.mono (by decide) (by decide)⟩
theorem own_ef_sle (m : MethodId) (a1 : Addr) : entryFrame m #[(.ref a1)] 1 = mkF m 0 #[.val (.ref a1)] [] := by first | (simp [entryFrame, mkF, argsToLocals, Value.category]; done) | rfl
def own_Q_sle (Z : State) (a1 : Addr) (G1 : Int32) (t : Addr) (k : ClassId) (cs : List Int32) (h0 : Heap) (n0 : Nat) (v : Option Value) (h : Heap) (L : List Loc) : Prop := v = some (.int (Int32.ofNat (cs.length))) ∧ Fr n0 L ∧ h = h0
theorem own_d_jdk_42_method_54_code_0 : decode jdk_42_method_54_code 0 = .ok (.aload_n 0, 1) := by decide +kernel
theorem own_d_jdk_42_method_54_code_1 : decode jdk_42_method_54_code 1 = .ok (.getfield 9, 3) := by decide +kernel
theorem own_d_jdk_42_method_54_code_4 : decode jdk_42_method_54_code 4 = .ok (.arraylength, 1) := by decide +kernel
theorem own_d_jdk_42_method_54_code_5 : decode jdk_42_method_54_code 5 = .ok (.aload_n 0, 1) := by decide +kernel
theorem own_d_jdk_42_method_54_code_6 : decode jdk_42_method_54_code 6 = .ok (.invokevirtual 335, 3) := by decide +kernel
theorem own_pd_0 : parseMethodDescriptor "()B" = some ⟨[], some .byte⟩ := by decide +kernel
theorem own_d_jdk_42_method_54_code_9 : decode jdk_42_method_54_code 9 = .ok (.ishr, 1) := by decide +kernel
theorem own_d_jdk_42_method_54_code_10 : decode jdk_42_method_54_code 10 = .ok (.ireturn, 1) := by decide +kernel
set_option maxRecDepth 65536 in
set_option maxHeartbeats 40000000 in
theorem own_rm_sle (l : Launch) (Z : State) (a0 : Array Value) (hw : ∀ d ∈ tables_1, d.before a0 Z = true) (ws : List Jvm.Cond) (a1 : Addr) (G1 : Int32) (t : Addr) (k : ClassId) (cs : List Int32) (h0 : Heap) (n0 : Nat) (Z0 : n0 ≤ h0.size) (SC : Sta Z h0 "java/lang/String" "COMPACT_STRINGS" "Z" (.int G1)) (P5 : ¬ (G1 = (0 : Int32))) (S : own_S Z h0 a1 t k cs) :
    MetFree l (⟨"java/lang/String", "length", "()I"⟩ : MethodName) (head1 (Jvm.Cond.code (⟨"java/lang/String", "length", "()I"⟩ : MethodName) jdk_42_method_54_code 1 (some .int) :: ws) ({ frames := 1, cells := 0, slots := 0, locals := 13 } : Room)) (fun a U => a = #[(.ref a1)] ∧ Z.Warmed39 U.vm ∧ U.heap = h0) (fun _ _ _ _ _ => True) (fun _ U o U' => ∃ v L, o = .returned v ∧ own_Q_sle Z a1 G1 t k cs h0 n0 v U'.heap L ∧ FrameEnd U o U' L ({ frames := 1, cells := 0, slots := 0, locals := 13 } : Room).cells ({ frames := 1, cells := 0, slots := 0, locals := 13 } : Room).slots) := by
  refine MetFree.of_bodySF (plainFor_of_name own_pn_0) hisR ?_
  intro p e s m args below meth c s₁ Bd hml0 hP hK
  obtain ⟨rfl, hZ, hh⟩ := hP
  have hx := Bd.exec
  have hby := Bd.bytes
  have hml : c.maxLocals = 1 := hml0
  have hown : s.vm.findClass "java/lang/String" = some m.cls := findClass_of_methodNamed Bd.named
  have hnm := (name_of_methodNamed Bd.named Bd.method).1
  have X0 : Stand p l e ({ frames := 1, cells := 0, slots := 0, locals := 13 } : Room) s m #[(.ref a1)] below meth c s₁ [] 0 0 := Stand.of_body Bd
  have e0 : s₁.heap = h0 := by rw [← hh, Bd.state]; rfl
  have N0 := Fr.nil n0
  refine own_start (own_ef_sle m a1 ) ?_
  obtain ⟨T1, X1, e1, st1⟩ := getF X0 hx hZ hown (host := "") (Or.inl (hw _ (List.mem_of_getElem? (i := 26) rfl))) Via.refl e0 S.2.1 (g := (mkF m 1 #[.val (.ref a1)] [(.ref a1)])) rfl rfl (Jvm.hb hby own_d_jdk_42_method_54_code_1)
  refine own_of (T' := T1) (f' := (mkF m 4 #[.val (.ref a1)] [(.ref t)])) (fun t_ k_ => (XS.aloadN X0.here hx rfl (Jvm.hb hby own_d_jdk_42_method_54_code_0) rfl rfl (st1 _ k_))) ?_
  obtain ⟨cl2, Ar2, -, Sz2, Nn2, -⟩ := id S.2.2.2
  refine own_of (T' := T1) (f' := (mkF m 5 #[.val (.ref a1)] [(.int (cl2.slots.size).toInt32)])) (fun t_ k_ => (X1.arraylength hx (by first | (rw [e1]; exact Ar2.1) | exact Ar2.1) (State.isArrayOf_alike hZ.alike Ar2.2.1) (g := (mkF m 4 #[.val (.ref a1)] [(.ref t)])) rfl rfl (Jvm.hb hby own_d_jdk_42_method_54_code_4) _ k_)) ?_
  rw [len_of Sz2 Nn2]
  refine own_of (T' := T1) (f' := (mkF m 6 #[.val (.ref a1)] [(.ref a1), (.int (Int32.ofNat (cs.length)))])) (fun t_ k_ => (XS.aloadN X1.here hx rfl (Jvm.hb hby own_d_jdk_42_method_54_code_5) rfl rfl k_)) ?_
  obtain ⟨cq4, kq4, q4a, q4b, q4c⟩ := isOf hZ e1 S.1
  obtain ⟨_, _, ⟨T3, L3, k3, n3⟩, -, X3, ⟨Lc3, hQ3, l3, y3, z3⟩, st3⟩ := X1.virtualBack hx (y := (⟨"java/lang/String", "coder", "()B"⟩ : MethodName)) (z := (⟨"java/lang/String", "coder", "()B"⟩ : MethodName)) hown (mvT hZ (hw _ (List.mem_of_getElem? (i := 95) rfl))) (mvT hZ (hw _ (List.mem_of_getElem? (i := 96) rfl))) (notFace_of_selects (args := #[]) (mvT hZ (hw _ (List.mem_of_getElem? (i := 98) rfl)))) (mvT hZ (hw _ (List.mem_of_getElem? (i := 98) rfl))) (mvT hZ (hw _ (List.mem_of_getElem? (i := 97) rfl))) (by decide) (backOf (W := 1) (own_rm_cod l Z a0 hw [] a1 G1 h0 n0 Z0 SC P5 S.2.2.1) hZ (hw _ (List.mem_of_getElem? (i := 99) rfl)) (hw _ (List.mem_of_getElem? (i := 6) rfl)) (by decide) (by decide)) q4a q4c (g := (mkF m 6 #[.val (.ref a1)] [(.ref a1), (.int (Int32.ofNat (cs.length)))])) rfl (by rw [hml]; rfl) (Steps.refl _) (argsL := []) (rest := [(.int (Int32.ofNat (cs.length)))]) (lenOf own_pd_0 rfl) rfl (by show 2 * 0 + _ ≤ _; exact Nat.le_of_eq rfl) (Jvm.hb hby own_d_jdk_42_method_54_code_6) (fun _ _ => ⟨rfl, e1, Nat.le_of_ble_eq_true rfl, Nat.le_of_ble_eq_true rfl⟩)
  dsimp only [Pt.U, Pt.locs, Pt.cells, Pt.slots] at X3 l3 y3 z3 st3 hQ3
  subst y3 z3
  obtain ⟨rfl, N3, e3⟩ := hQ3
  have N5 : Fr n0 L3 := by rw [l3]; exact Fr.app N0 N3
  refine own_of (T' := T3) (f' := (mkF m 10 #[.val (.ref a1)] [(.int ((Int32.ofNat (cs.length)) >>> ((0 : Int32) &&& 31)))])) (fun t_ k_ => (st3.trans (XS.ishr X3.here hx rfl (Jvm.hb hby own_d_jdk_42_method_54_code_9) rfl k_))) ?_
  rw [own_shr]
  obtain ⟨fs, hr, hrun, hended, hW, hsame⟩ := X3.leave (v := some (.int (Int32.ofNat (cs.length)))) (fun h => by rw [Bd.returns] at h; cases h)
  exact ⟨_, _, own_retI X3 hx Bd.returns (Jvm.hb hby own_d_jdk_42_method_54_code_10) hr, hrun, hended, _, _, rfl, (by show own_Q_sle Z a1 G1 t k cs h0 n0 _ T3.heap _; rw [e3]; exact ⟨rfl, N5, rfl⟩), ⟨_, rfl⟩, hW, hsame.mono (by decide) (by decide)⟩
theorem own_ef_mmx (m : MethodId) (p1 : Int32) (p2 : Int32) : entryFrame m #[(.int p1), (.int p2)] 2 = mkF m 0 #[.val (.int p1), .val (.int p2)] [] := by first | (simp [entryFrame, mkF, argsToLocals, Value.category]; done) | rfl
def own_Q_mmx (Z : State) (p1 : Int32) (p2 : Int32)  (h0 : Heap) (n0 : Nat) (v : Option Value) (h : Heap) (L : List Loc) : Prop := v = some (.int (own_max p1 p2)) ∧ Fr n0 L ∧ h = h0
theorem own_d_jdk_29_method_65_code_0 : decode jdk_29_method_65_code 0 = .ok (.iload_n 0, 1) := by decide +kernel
theorem own_d_jdk_29_method_65_code_1 : decode jdk_29_method_65_code 1 = .ok (.iload_n 1, 1) := by decide +kernel
theorem own_d_jdk_29_method_65_code_2 : decode jdk_29_method_65_code 2 = .ok (.if_icmp .lt 7, 3) := by decide +kernel
theorem own_d_jdk_29_method_65_code_9 : decode jdk_29_method_65_code 9 = .ok (.iload_n 1, 1) := by decide +kernel
theorem own_d_jdk_29_method_65_code_5 : decode jdk_29_method_65_code 5 = .ok (.iload_n 0, 1) := by decide +kernel
theorem own_d_jdk_29_method_65_code_6 : decode jdk_29_method_65_code 6 = .ok (.goto 4, 3) := by decide +kernel
theorem own_d_jdk_29_method_65_code_10 : decode jdk_29_method_65_code 10 = .ok (.ireturn, 1) := by decide +kernel
set_option maxRecDepth 65536 in
set_option maxHeartbeats 40000000 in
theorem own_rm_mmx (l : Launch) (Z : State) (a0 : Array Value) (hw : ∀ d ∈ tables_1, d.before a0 Z = true) (ws : List Jvm.Cond) (p1 : Int32) (p2 : Int32)  (h0 : Heap) (n0 : Nat) (Z0 : n0 ≤ h0.size)  :
    MetFree l (⟨"java/lang/Math", "max", "(II)I"⟩ : MethodName) (head1 (Jvm.Cond.code (⟨"java/lang/Math", "max", "(II)I"⟩ : MethodName) jdk_29_method_65_code 2 (some .int) :: ws) ({ frames := 0, cells := 0, slots := 0, locals := 0 } : Room)) (fun a U => a = #[(.int p1), (.int p2)] ∧ Z.Warmed39 U.vm ∧ U.heap = h0) (fun _ _ _ _ _ => True) (fun _ U o U' => ∃ v L, o = .returned v ∧ own_Q_mmx Z p1 p2  h0 n0 v U'.heap L ∧ FrameEnd U o U' L ({ frames := 0, cells := 0, slots := 0, locals := 0 } : Room).cells ({ frames := 0, cells := 0, slots := 0, locals := 0 } : Room).slots) := by
  refine MetFree.of_bodySF (Jvm.Free.JP.mathPlain rfl (by decide +kernel)) hisR ?_
  intro p e s m args below meth c s₁ Bd hml0 hP hK
  obtain ⟨rfl, hZ, hh⟩ := hP
  have hx := Bd.exec
  have hby := Bd.bytes
  have hml : c.maxLocals = 2 := hml0
  have hown : s.vm.findClass "java/lang/Math" = some m.cls := findClass_of_methodNamed Bd.named
  have hnm := (name_of_methodNamed Bd.named Bd.method).1
  have X0 : Stand p l e ({ frames := 0, cells := 0, slots := 0, locals := 0 } : Room) s m #[(.int p1), (.int p2)] below meth c s₁ [] 0 0 := Stand.of_body Bd
  have e0 : s₁.heap = h0 := by rw [← hh, Bd.state]; rfl
  have N0 := Fr.nil n0
  refine own_start (own_ef_mmx m p1 p2 ) ?_
  refine own_of (T' := s₁) (f' := (mkF m 2 #[.val (.int p1), .val (.int p2)] [(.int p2), (.int p1)])) (fun t_ k_ => (XS.iloadN X0.here hx rfl (Jvm.hb hby own_d_jdk_29_method_65_code_0) rfl (XS.iloadN X0.here hx rfl (Jvm.hb hby own_d_jdk_29_method_65_code_1) rfl k_))) ?_
  obtain ⟨r, hr⟩ : ∃ z : Int32, z = (if p1 < p2 then p2 else p1) := ⟨_, rfl⟩
  have st2 : ∀ t_, Steps p.tables e below (s₁.setTop (mkF m 10 #[.val (.int p1), .val (.int p2)] [(.int r)])) t_ → Steps p.tables e below (s₁.setTop (mkF m 2 #[.val (.int p1), .val (.int p2)] [(.int p2), (.int p1)])) t_ := by
    intro t_ k_
    by_cases hc2_1 : (p1 < p2)
    · skip
      refine (XS.icmpYes X0.here hx rfl (pc0 := 2) (pc' := 9) rfl (Jvm.hb hby own_d_jdk_29_method_65_code_2) rfl (tlt hc2_1).1 (by decide) (by decide) (XS.iloadN X0.here hx rfl (Jvm.hb hby own_d_jdk_29_method_65_code_9) rfl ?_))
      show Steps p.tables e below (s₁.setTop (mkF m 10 #[.val (.int p1), .val (.int p2)] [(.int p2)])) t_
      rw [hr, if_pos hc2_1] at k_
      exact k_
    · skip
      refine (XS.icmpNo X0.here hx rfl (Jvm.hb hby own_d_jdk_29_method_65_code_2) rfl (flt hc2_1).1 (XS.iloadN X0.here hx rfl (Jvm.hb hby own_d_jdk_29_method_65_code_5) rfl (XS.goto X0.here hx rfl (pc0 := 6) (pc' := 10) rfl (Jvm.hb hby own_d_jdk_29_method_65_code_6) (by decide) (by decide) ?_)))
      show Steps p.tables e below (s₁.setTop (mkF m 10 #[.val (.int p1), .val (.int p2)] [(.int p1)])) t_
      rw [hr, if_neg hc2_1] at k_
      exact k_
  refine own_of (T' := s₁) (f' := (mkF m 10 #[.val (.int p1), .val (.int p2)] [(.int r)])) st2 ?_
  have er : own_max p1 p2 = r := hr.symm
  obtain ⟨fs, hr, hrun, hended, hW, hsame⟩ := X0.leave (v := some (.int r)) (fun h => by rw [Bd.returns] at h; cases h)
  exact ⟨_, _, own_retI X0 hx Bd.returns (Jvm.hb hby own_d_jdk_29_method_65_code_10) hr, hrun, hended, _, _, rfl, (by show own_Q_mmx Z p1 p2  h0 n0 _ s₁.heap _; rw [e0]; exact ⟨by rw [er], N0, rfl⟩), ⟨_, rfl⟩, hW, hsame.mono (by decide) (by decide)⟩
theorem own_ef_mmn (m : MethodId) (p1 : Int32) (p2 : Int32) : entryFrame m #[(.int p1), (.int p2)] 2 = mkF m 0 #[.val (.int p1), .val (.int p2)] [] := by first | (simp [entryFrame, mkF, argsToLocals, Value.category]; done) | rfl
def own_Q_mmn (Z : State) (p1 : Int32) (p2 : Int32)  (h0 : Heap) (n0 : Nat) (v : Option Value) (h : Heap) (L : List Loc) : Prop := v = some (.int (own_min p1 p2)) ∧ Fr n0 L ∧ h = h0
theorem own_d_jdk_29_method_69_code_0 : decode jdk_29_method_69_code 0 = .ok (.iload_n 0, 1) := by decide +kernel
theorem own_d_jdk_29_method_69_code_1 : decode jdk_29_method_69_code 1 = .ok (.iload_n 1, 1) := by decide +kernel
theorem own_d_jdk_29_method_69_code_2 : decode jdk_29_method_69_code 2 = .ok (.if_icmp .gt 7, 3) := by decide +kernel
theorem own_d_jdk_29_method_69_code_9 : decode jdk_29_method_69_code 9 = .ok (.iload_n 1, 1) := by decide +kernel
theorem own_d_jdk_29_method_69_code_5 : decode jdk_29_method_69_code 5 = .ok (.iload_n 0, 1) := by decide +kernel
theorem own_d_jdk_29_method_69_code_6 : decode jdk_29_method_69_code 6 = .ok (.goto 4, 3) := by decide +kernel
theorem own_d_jdk_29_method_69_code_10 : decode jdk_29_method_69_code 10 = .ok (.ireturn, 1) := by decide +kernel
set_option maxRecDepth 65536 in
set_option maxHeartbeats 40000000 in
theorem own_rm_mmn (l : Launch) (Z : State) (a0 : Array Value) (hw : ∀ d ∈ tables_1, d.before a0 Z = true) (ws : List Jvm.Cond) (p1 : Int32) (p2 : Int32)  (h0 : Heap) (n0 : Nat) (Z0 : n0 ≤ h0.size)  :
    MetFree l (⟨"java/lang/Math", "min", "(II)I"⟩ : MethodName) (head1 (Jvm.Cond.code (⟨"java/lang/Math", "min", "(II)I"⟩ : MethodName) jdk_29_method_69_code 2 (some .int) :: ws) ({ frames := 0, cells := 0, slots := 0, locals := 0 } : Room)) (fun a U => a = #[(.int p1), (.int p2)] ∧ Z.Warmed39 U.vm ∧ U.heap = h0) (fun _ _ _ _ _ => True) (fun _ U o U' => ∃ v L, o = .returned v ∧ own_Q_mmn Z p1 p2  h0 n0 v U'.heap L ∧ FrameEnd U o U' L ({ frames := 0, cells := 0, slots := 0, locals := 0 } : Room).cells ({ frames := 0, cells := 0, slots := 0, locals := 0 } : Room).slots) := by
  refine MetFree.of_bodySF (Jvm.Free.JP.mathPlain rfl (by decide +kernel)) hisR ?_
  intro p e s m args below meth c s₁ Bd hml0 hP hK
  obtain ⟨rfl, hZ, hh⟩ := hP
  have hx := Bd.exec
  have hby := Bd.bytes
  have hml : c.maxLocals = 2 := hml0
  have hown : s.vm.findClass "java/lang/Math" = some m.cls := findClass_of_methodNamed Bd.named
  have hnm := (name_of_methodNamed Bd.named Bd.method).1
  have X0 : Stand p l e ({ frames := 0, cells := 0, slots := 0, locals := 0 } : Room) s m #[(.int p1), (.int p2)] below meth c s₁ [] 0 0 := Stand.of_body Bd
  have e0 : s₁.heap = h0 := by rw [← hh, Bd.state]; rfl
  have N0 := Fr.nil n0
  refine own_start (own_ef_mmn m p1 p2 ) ?_
  refine own_of (T' := s₁) (f' := (mkF m 2 #[.val (.int p1), .val (.int p2)] [(.int p2), (.int p1)])) (fun t_ k_ => (XS.iloadN X0.here hx rfl (Jvm.hb hby own_d_jdk_29_method_69_code_0) rfl (XS.iloadN X0.here hx rfl (Jvm.hb hby own_d_jdk_29_method_69_code_1) rfl k_))) ?_
  obtain ⟨r, hr⟩ : ∃ z : Int32, z = (if p2 < p1 then p2 else p1) := ⟨_, rfl⟩
  have st2 : ∀ t_, Steps p.tables e below (s₁.setTop (mkF m 10 #[.val (.int p1), .val (.int p2)] [(.int r)])) t_ → Steps p.tables e below (s₁.setTop (mkF m 2 #[.val (.int p1), .val (.int p2)] [(.int p2), (.int p1)])) t_ := by
    intro t_ k_
    by_cases hc2_1 : (p2 < p1)
    · skip
      refine (XS.icmpYes X0.here hx rfl (pc0 := 2) (pc' := 9) rfl (Jvm.hb hby own_d_jdk_29_method_69_code_2) rfl (tlt hc2_1).2.2.1 (by decide) (by decide) (XS.iloadN X0.here hx rfl (Jvm.hb hby own_d_jdk_29_method_69_code_9) rfl ?_))
      show Steps p.tables e below (s₁.setTop (mkF m 10 #[.val (.int p1), .val (.int p2)] [(.int p2)])) t_
      rw [hr, if_pos hc2_1] at k_
      exact k_
    · skip
      refine (XS.icmpNo X0.here hx rfl (Jvm.hb hby own_d_jdk_29_method_69_code_2) rfl (flt hc2_1).2.2.1 (XS.iloadN X0.here hx rfl (Jvm.hb hby own_d_jdk_29_method_69_code_5) rfl (XS.goto X0.here hx rfl (pc0 := 6) (pc' := 10) rfl (Jvm.hb hby own_d_jdk_29_method_69_code_6) (by decide) (by decide) ?_)))
      show Steps p.tables e below (s₁.setTop (mkF m 10 #[.val (.int p1), .val (.int p2)] [(.int p1)])) t_
      rw [hr, if_neg hc2_1] at k_
      exact k_
  refine own_of (T' := s₁) (f' := (mkF m 10 #[.val (.int p1), .val (.int p2)] [(.int r)])) st2 ?_
  have er : own_min p1 p2 = r := hr.symm
  obtain ⟨fs, hr, hrun, hended, hW, hsame⟩ := X0.leave (v := some (.int r)) (fun h => by rw [Bd.returns] at h; cases h)
  exact ⟨_, _, own_retI X0 hx Bd.returns (Jvm.hb hby own_d_jdk_29_method_69_code_10) hr, hrun, hended, _, _, rfl, (by show own_Q_mmn Z p1 p2  h0 n0 _ s₁.heap _; rw [e0]; exact ⟨by rw [er], N0, rfl⟩), ⟨_, rfl⟩, hW, hsame.mono (by decide) (by decide)⟩
theorem own_pn_2 : plainName "jdk/internal/util/ArraysSupport" = true := by first | (simp [plainName, overriddenIn]; done) | decide +kernel
theorem own_ef_nle (m : MethodId) (p1 : Int32) (p2 : Int32) (p3 : Int32) : entryFrame m #[(.int p1), (.int p2), (.int p3)] 4 = mkF m 0 #[.val (.int p1), .val (.int p2), .val (.int p3), .unset] [] := by first | (simp [entryFrame, mkF, argsToLocals, Value.category]; done) | rfl
def own_Q_nle (Z : State) (p1 : Int32) (p2 : Int32) (p3 : Int32) (cap need : Nat) (h0 : Heap) (n0 : Nat) (v : Option Value) (h : Heap) (L : List Loc) : Prop := v = some (.int (Int32.ofNat ((cap + max (need - cap) (cap + 2))))) ∧ Fr n0 L ∧ h = h0
theorem own_d_jdk_48_method_27_code_0 : decode jdk_48_method_27_code 0 = .ok (.iload_n 0, 1) := by decide +kernel
theorem own_d_jdk_48_method_27_code_1 : decode jdk_48_method_27_code 1 = .ok (.iload_n 1, 1) := by decide +kernel
theorem own_d_jdk_48_method_27_code_2 : decode jdk_48_method_27_code 2 = .ok (.iload_n 2, 1) := by decide +kernel
theorem own_d_jdk_48_method_27_code_3 : decode jdk_48_method_27_code 3 = .ok (.invokestatic 194, 3) := by decide +kernel
theorem own_pd_1 : parseMethodDescriptor "(II)I" = some ⟨[.int, .int], some .int⟩ := by decide +kernel
theorem own_d_jdk_48_method_27_code_6 : decode jdk_48_method_27_code 6 = .ok (.iadd, 1) := by decide +kernel
theorem own_d_jdk_48_method_27_code_7 : decode jdk_48_method_27_code 7 = .ok (.istore_n 3, 1) := by decide +kernel
theorem own_d_jdk_48_method_27_code_8 : decode jdk_48_method_27_code 8 = .ok (.iconst 0, 1) := by decide +kernel
theorem own_d_jdk_48_method_27_code_9 : decode jdk_48_method_27_code 9 = .ok (.iload_n 3, 1) := by decide +kernel
theorem own_d_jdk_48_method_27_code_10 : decode jdk_48_method_27_code 10 = .ok (.if_icmp .ge 11, 3) := by decide +kernel
theorem own_d_jdk_48_method_27_code_13 : decode jdk_48_method_27_code 13 = .ok (.iload_n 3, 1) := by decide +kernel
theorem own_d_jdk_48_method_27_code_14 : decode jdk_48_method_27_code 14 = .ok (.ldc 200, 2) := by decide +kernel
theorem own_d_jdk_48_method_27_code_16 : decode jdk_48_method_27_code 16 = .ok (.if_icmp .gt 5, 3) := by decide +kernel
theorem own_d_jdk_48_method_27_code_19 : decode jdk_48_method_27_code 19 = .ok (.iload_n 3, 1) := by decide +kernel
theorem own_d_jdk_48_method_27_code_20 : decode jdk_48_method_27_code 20 = .ok (.ireturn, 1) := by decide +kernel
set_option maxRecDepth 65536 in
set_option maxHeartbeats 40000000 in
theorem own_rm_nle (l : Launch) (Z : State) (a0 : Array Value) (hw : ∀ d ∈ tables_1, d.before a0 Z = true) (ws : List Jvm.Cond) (p1 : Int32) (p2 : Int32) (p3 : Int32) (cap need : Nat) (h0 : Heap) (n0 : Nat) (Z0 : n0 ≤ h0.size) (hg : cap < need) (h1 : need < 400) (h2 : cap < 400) (hp1 : p1 = (Int32.ofNat (cap))) (hp2 : p2 = (Int32.ofNat (need - cap))) (hp3 : p3 = (Int32.ofNat (cap + 2))) :
    MetFree l (⟨"jdk/internal/util/ArraysSupport", "newLength", "(III)I"⟩ : MethodName) (head1 (Jvm.Cond.code (⟨"jdk/internal/util/ArraysSupport", "newLength", "(III)I"⟩ : MethodName) jdk_48_method_27_code 4 (some .int) :: ws) ({ frames := 1, cells := 0, slots := 0, locals := 14 } : Room)) (fun a U => a = #[(.int p1), (.int p2), (.int p3)] ∧ Z.Warmed39 U.vm ∧ U.heap = h0) (fun _ _ _ _ _ => True) (fun _ U o U' => ∃ v L, o = .returned v ∧ own_Q_nle Z p1 p2 p3 cap need h0 n0 v U'.heap L ∧ FrameEnd U o U' L ({ frames := 1, cells := 0, slots := 0, locals := 14 } : Room).cells ({ frames := 1, cells := 0, slots := 0, locals := 14 } : Room).slots) := by
  refine MetFree.of_bodySF (plainFor_of_name own_pn_2) hisR ?_
  intro p e s m args below meth c s₁ Bd hml0 hP hK
  obtain ⟨rfl, hZ, hh⟩ := hP
  have hx := Bd.exec
  have hby := Bd.bytes
  have hml : c.maxLocals = 4 := hml0
  have hown : s.vm.findClass "jdk/internal/util/ArraysSupport" = some m.cls := findClass_of_methodNamed Bd.named
  have hnm := (name_of_methodNamed Bd.named Bd.method).1
  have X0 : Stand p l e ({ frames := 1, cells := 0, slots := 0, locals := 14 } : Room) s m #[(.int p1), (.int p2), (.int p3)] below meth c s₁ [] 0 0 := Stand.of_body Bd
  have e0 : s₁.heap = h0 := by rw [← hh, Bd.state]; rfl
  have N0 := Fr.nil n0
  refine own_start (own_ef_nle m p1 p2 p3 ) ?_
  subst hp1 hp2 hp3
  refine own_of (T' := s₁) (f' := (mkF m 3 #[.val (.int (Int32.ofNat (cap))), .val (.int (Int32.ofNat (need - cap))), .val (.int (Int32.ofNat (cap + 2))), .unset] [(.int (Int32.ofNat (cap + 2))), (.int (Int32.ofNat (need - cap))), (.int (Int32.ofNat (cap)))])) (fun t_ k_ => (XS.iloadN X0.here hx rfl (Jvm.hb hby own_d_jdk_48_method_27_code_0) rfl (XS.iloadN X0.here hx rfl (Jvm.hb hby own_d_jdk_48_method_27_code_1) rfl (XS.iloadN X0.here hx rfl (Jvm.hb hby own_d_jdk_48_method_27_code_2) rfl k_)))) ?_
  obtain ⟨_, _, ⟨T1, L1, k1, n1⟩, -, X1, ⟨Lc1, hQ1, l1, y1, z1⟩, st1⟩ := Jvm.LawKit.callS X0 hx (y := (⟨"java/lang/Math", "max", "(II)I"⟩ : MethodName)) hown (mvT hZ (hw _ (List.mem_of_getElem? (i := 116) rfl))) (mvT hZ (hw _ (List.mem_of_getElem? (i := 117) rfl))) (mvT hZ (hw _ (List.mem_of_getElem? (i := 118) rfl))) (mvT hZ (hw _ (List.mem_of_getElem? (i := 119) rfl))) (by decide) (backOf (W := 1) (own_rm_mmx l Z a0 hw [] (Int32.ofNat (need - cap)) (Int32.ofNat (cap + 2)) h0 n0 Z0) hZ (hw _ (List.mem_of_getElem? (i := 119) rfl)) (hw _ (List.mem_of_getElem? (i := 118) rfl)) (by decide) (by decide)) (g := (mkF m 3 #[.val (.int (Int32.ofNat (cap))), .val (.int (Int32.ofNat (need - cap))), .val (.int (Int32.ofNat (cap + 2))), .unset] [(.int (Int32.ofNat (cap + 2))), (.int (Int32.ofNat (need - cap))), (.int (Int32.ofNat (cap)))])) rfl (by rw [hml]; rfl) (argsL := [(.int (Int32.ofNat (need - cap))), (.int (Int32.ofNat (cap + 2)))]) (rest := [(.int (Int32.ofNat (cap)))]) (lenOf own_pd_1 rfl) rfl (by show 2 * 0 + _ ≤ _; exact Nat.le_of_eq rfl) (Jvm.hb hby own_d_jdk_48_method_27_code_3) (fun _ _ => ⟨rfl, e0, Nat.le_of_ble_eq_true rfl, Nat.le_of_ble_eq_true rfl⟩)
  dsimp only [Pt.U, Pt.locs, Pt.cells, Pt.slots] at X1 l1 y1 z1 st1 hQ1
  subst y1 z1
  obtain ⟨rfl, N1, e1⟩ := hQ1
  have N2 : Fr n0 L1 := by rw [l1]; exact Fr.app N0 N1
  refine own_of (T' := T1) (f' := (mkF m 7 #[.val (.int (Int32.ofNat (cap))), .val (.int (Int32.ofNat (need - cap))), .val (.int (Int32.ofNat (cap + 2))), .unset] [(.int ((Int32.ofNat (cap)) + (own_max (Int32.ofNat (need - cap)) (Int32.ofNat (cap + 2)))))])) (fun t_ k_ => (st1 _ (XS.iadd X1.here hx rfl (Jvm.hb hby own_d_jdk_48_method_27_code_6) rfl k_))) ?_
  rw [own_maxN _ _ (by omega) (by omega), own_add]
  refine own_of (T' := T1) (f' := (mkF m 16 #[.val (.int (Int32.ofNat (cap))), .val (.int (Int32.ofNat (need - cap))), .val (.int (Int32.ofNat (cap + 2))), .val (.int (Int32.ofNat ((cap + max (need - cap) (cap + 2)))))] [(.int (2147483639 : Int32)), (.int (Int32.ofNat ((cap + max (need - cap) (cap + 2)))))])) (fun t_ k_ => (XS.istoreN X1.here hx rfl (Jvm.hb hby own_d_jdk_48_method_27_code_7) rfl (l' := #[.val (.int (Int32.ofNat (cap))), .val (.int (Int32.ofNat (need - cap))), .val (.int (Int32.ofNat (cap + 2))), .val (.int (Int32.ofNat ((cap + max (need - cap) (cap + 2)))))]) rfl (XS.iconst X1.here hx rfl (Jvm.hb hby own_d_jdk_48_method_27_code_8) (XS.iloadN X1.here hx rfl (Jvm.hb hby own_d_jdk_48_method_27_code_9) rfl (XS.icmpNo X1.here hx rfl (Jvm.hb hby own_d_jdk_48_method_27_code_10) rfl (tlt (show (0 : Int32) < (Int32.ofNat ((cap + max (need - cap) (cap + 2)))) from (own_lt 0 _ (by decide) (by omega)).mpr (by omega))).2.1 (XS.iloadN X1.here hx rfl (Jvm.hb hby own_d_jdk_48_method_27_code_13) rfl (Jvm.Stand.ldcI X1 hx hown (mvT hZ (hw _ (List.mem_of_getElem? (i := 120) rfl))) rfl (Jvm.hb hby own_d_jdk_48_method_27_code_14) k_))))))) ?_
  have hbb : ¬ (2147483639 : Int32) < (Int32.ofNat ((cap + max (need - cap) (cap + 2)))) := by
    rw [Int32.lt_iff_toInt_lt, Int32.toInt_ofNat_of_lt (by omega)]
    have q : (2147483639 : Int32).toInt = 2147483639 := by decide
    omega
  refine own_of (T' := T1) (f' := (mkF m 20 #[.val (.int (Int32.ofNat (cap))), .val (.int (Int32.ofNat (need - cap))), .val (.int (Int32.ofNat (cap + 2))), .val (.int (Int32.ofNat ((cap + max (need - cap) (cap + 2)))))] [(.int (Int32.ofNat ((cap + max (need - cap) (cap + 2)))))])) (fun t_ k_ => (XS.icmpNo X1.here hx rfl (Jvm.hb hby own_d_jdk_48_method_27_code_16) rfl (flt hbb).2.2.1 (XS.iloadN X1.here hx rfl (Jvm.hb hby own_d_jdk_48_method_27_code_19) rfl k_))) ?_
  obtain ⟨fs, hr, hrun, hended, hW, hsame⟩ := X1.leave (v := some (.int (Int32.ofNat ((cap + max (need - cap) (cap + 2)))))) (fun h => by rw [Bd.returns] at h; cases h)
  exact ⟨_, _, own_retI X1 hx Bd.returns (Jvm.hb hby own_d_jdk_48_method_27_code_20) hr, hrun, hended, _, _, rfl, (by show own_Q_nle Z (Int32.ofNat (cap)) (Int32.ofNat (need - cap)) (Int32.ofNat (cap + 2)) cap need h0 n0 _ T1.heap _; rw [e1]; exact ⟨rfl, N2, rfl⟩), ⟨_, rfl⟩, hW, hsame.mono (by decide) (by decide)⟩
theorem own_pn_3 : plainName "java/lang/AbstractStringBuilder" = true := by first | (simp [plainName, overriddenIn]; done) | decide +kernel
theorem own_ef_nca (m : MethodId) (a1 : Addr) (p2 : Int32) : entryFrame m #[(.ref a1), (.int p2)] 6 = mkF m 0 #[.val (.ref a1), .val (.int p2), .unset, .unset, .unset, .unset] [] := by first | (simp [entryFrame, mkF, argsToLocals, Value.category]; done) | rfl
def own_Q_nca (Z : State) (a1 : Addr) (p2 : Int32) (da : Addr) (k : ClassId) (cap : Nat) (bs : List Value) (need : Nat) (h0 : Heap) (n0 : Nat) (v : Option Value) (h : Heap) (L : List Loc) : Prop := v = some (.int (Int32.ofNat ((cap + max (need - cap) (cap + 2))))) ∧ Fr n0 L ∧ h = h0
theorem own_d_jdk_68_method_10_code_0 : decode jdk_68_method_10_code 0 = .ok (.aload_n 0, 1) := by decide +kernel
theorem own_d_jdk_68_method_10_code_1 : decode jdk_68_method_10_code 1 = .ok (.getfield 15, 3) := by decide +kernel
theorem own_d_jdk_68_method_10_code_4 : decode jdk_68_method_10_code 4 = .ok (.arraylength, 1) := by decide +kernel
theorem own_d_jdk_68_method_10_code_5 : decode jdk_68_method_10_code 5 = .ok (.istore_n 2, 1) := by decide +kernel
theorem own_d_jdk_68_method_10_code_6 : decode jdk_68_method_10_code 6 = .ok (.iload_n 1, 1) := by decide +kernel
theorem own_d_jdk_68_method_10_code_7 : decode jdk_68_method_10_code 7 = .ok (.aload_n 0, 1) := by decide +kernel
theorem own_d_jdk_68_method_10_code_8 : decode jdk_68_method_10_code 8 = .ok (.getfield 22, 3) := by decide +kernel
theorem own_d_jdk_68_method_10_code_11 : decode jdk_68_method_10_code 11 = .ok (.ishl, 1) := by decide +kernel
theorem own_d_jdk_68_method_10_code_12 : decode jdk_68_method_10_code 12 = .ok (.istore_n 3, 1) := by decide +kernel
theorem own_d_jdk_68_method_10_code_13 : decode jdk_68_method_10_code 13 = .ok (.iload_n 3, 1) := by decide +kernel
theorem own_d_jdk_68_method_10_code_14 : decode jdk_68_method_10_code 14 = .ok (.iload_n 2, 1) := by decide +kernel
theorem own_d_jdk_68_method_10_code_15 : decode jdk_68_method_10_code 15 = .ok (.isub, 1) := by decide +kernel
theorem own_d_jdk_68_method_10_code_16 : decode jdk_68_method_10_code 16 = .ok (.istore 4, 2) := by decide +kernel
theorem own_d_jdk_68_method_10_code_18 : decode jdk_68_method_10_code 18 = .ok (.iload_n 2, 1) := by decide +kernel
theorem own_d_jdk_68_method_10_code_19 : decode jdk_68_method_10_code 19 = .ok (.iload 4, 2) := by decide +kernel
theorem own_d_jdk_68_method_10_code_21 : decode jdk_68_method_10_code 21 = .ok (.iload_n 2, 1) := by decide +kernel
theorem own_d_jdk_68_method_10_code_22 : decode jdk_68_method_10_code 22 = .ok (.iconst 2, 1) := by decide +kernel
theorem own_d_jdk_68_method_10_code_23 : decode jdk_68_method_10_code 23 = .ok (.aload_n 0, 1) := by decide +kernel
theorem own_d_jdk_68_method_10_code_24 : decode jdk_68_method_10_code 24 = .ok (.getfield 22, 3) := by decide +kernel
theorem own_d_jdk_68_method_10_code_27 : decode jdk_68_method_10_code 27 = .ok (.ishl, 1) := by decide +kernel
theorem own_d_jdk_68_method_10_code_28 : decode jdk_68_method_10_code 28 = .ok (.iadd, 1) := by decide +kernel
theorem own_d_jdk_68_method_10_code_29 : decode jdk_68_method_10_code 29 = .ok (.invokestatic 114, 3) := by decide +kernel
theorem own_pd_2 : parseMethodDescriptor "(III)I" = some ⟨[.int, .int, .int], some .int⟩ := by decide +kernel
theorem own_d_jdk_68_method_10_code_32 : decode jdk_68_method_10_code 32 = .ok (.istore 5, 2) := by decide +kernel
theorem own_d_jdk_68_method_10_code_34 : decode jdk_68_method_10_code 34 = .ok (.iload 5, 2) := by decide +kernel
theorem own_d_jdk_68_method_10_code_36 : decode jdk_68_method_10_code 36 = .ok (.ldc 39, 2) := by decide +kernel
theorem own_d_jdk_68_method_10_code_38 : decode jdk_68_method_10_code 38 = .ok (.if_icmp .ne 13, 3) := by decide +kernel
theorem own_d_jdk_68_method_10_code_51 : decode jdk_68_method_10_code 51 = .ok (.iload 5, 2) := by decide +kernel
theorem own_d_jdk_68_method_10_code_53 : decode jdk_68_method_10_code 53 = .ok (.aload_n 0, 1) := by decide +kernel
theorem own_d_jdk_68_method_10_code_54 : decode jdk_68_method_10_code 54 = .ok (.getfield 22, 3) := by decide +kernel
theorem own_d_jdk_68_method_10_code_57 : decode jdk_68_method_10_code 57 = .ok (.ishr, 1) := by decide +kernel
theorem own_d_jdk_68_method_10_code_58 : decode jdk_68_method_10_code 58 = .ok (.ireturn, 1) := by decide +kernel
set_option maxRecDepth 65536 in
set_option maxHeartbeats 40000000 in
theorem own_rm_nca (l : Launch) (Z : State) (a0 : Array Value) (hw : ∀ d ∈ tables_1, d.before a0 Z = true) (ws : List Jvm.Cond) (a1 : Addr) (p2 : Int32) (da : Addr) (k : ClassId) (cap : Nat) (bs : List Value) (need : Nat) (h0 : Heap) (n0 : Nat) (Z0 : n0 ≤ h0.size) (Bd0 : own_B Z h0 a1 da k cap bs) (hg : cap < need) (h1 : need < 400) (h2 : cap < 400) (hp2 : p2 = (Int32.ofNat (need))) :
    MetFree l (⟨"java/lang/AbstractStringBuilder", "newCapacity", "(I)I"⟩ : MethodName) (head1 (Jvm.Cond.code (⟨"java/lang/AbstractStringBuilder", "newCapacity", "(I)I"⟩ : MethodName) jdk_68_method_10_code 6 (some .int) :: ws) ({ frames := 2, cells := 0, slots := 0, locals := 29 } : Room)) (fun a U => a = #[(.ref a1), (.int p2)] ∧ Z.Warmed39 U.vm ∧ U.heap = h0) (fun _ _ _ _ _ => True) (fun _ U o U' => ∃ v L, o = .returned v ∧ own_Q_nca Z a1 p2 da k cap bs need h0 n0 v U'.heap L ∧ FrameEnd U o U' L ({ frames := 2, cells := 0, slots := 0, locals := 29 } : Room).cells ({ frames := 2, cells := 0, slots := 0, locals := 29 } : Room).slots) := by
  refine MetFree.of_bodySF (plainFor_of_name own_pn_3) hisR ?_
  intro p e s m args below meth c s₁ Bd hml0 hP hK
  obtain ⟨rfl, hZ, hh⟩ := hP
  have hx := Bd.exec
  have hby := Bd.bytes
  have hml : c.maxLocals = 6 := hml0
  have hown : s.vm.findClass "java/lang/AbstractStringBuilder" = some m.cls := findClass_of_methodNamed Bd.named
  have hnm := (name_of_methodNamed Bd.named Bd.method).1
  have X0 : Stand p l e ({ frames := 2, cells := 0, slots := 0, locals := 29 } : Room) s m #[(.ref a1), (.int p2)] below meth c s₁ [] 0 0 := Stand.of_body Bd
  have e0 : s₁.heap = h0 := by rw [← hh, Bd.state]; rfl
  have N0 := Fr.nil n0
  refine own_start (own_ef_nca m a1 p2 ) ?_
  subst hp2
  obtain ⟨T1, X1, e1, st1⟩ := getF X0 hx hZ hown (host := "") (Or.inl (hw _ (List.mem_of_getElem? (i := 73) rfl))) Via.refl e0 Bd0.2.1 (g := (mkF m 1 #[.val (.ref a1), .val (.int (Int32.ofNat (need))), .unset, .unset, .unset, .unset] [(.ref a1)])) rfl rfl (Jvm.hb hby own_d_jdk_68_method_10_code_1)
  refine own_of (T' := T1) (f' := (mkF m 4 #[.val (.ref a1), .val (.int (Int32.ofNat (need))), .unset, .unset, .unset, .unset] [(.ref da)])) (fun t_ k_ => (XS.aloadN X0.here hx rfl (Jvm.hb hby own_d_jdk_68_method_10_code_0) rfl rfl (st1 _ k_))) ?_
  obtain ⟨cl2, Ar2, -, Sz2, Nn2, -⟩ := id Bd0.2.2.2.2.2.1
  refine own_of (T' := T1) (f' := (mkF m 5 #[.val (.ref a1), .val (.int (Int32.ofNat (need))), .unset, .unset, .unset, .unset] [(.int (cl2.slots.size).toInt32)])) (fun t_ k_ => (X1.arraylength hx (by first | (rw [e1]; exact Ar2.1) | exact Ar2.1) (State.isArrayOf_alike hZ.alike Ar2.2.1) (g := (mkF m 4 #[.val (.ref a1), .val (.int (Int32.ofNat (need))), .unset, .unset, .unset, .unset] [(.ref da)])) rfl rfl (Jvm.hb hby own_d_jdk_68_method_10_code_4) _ k_)) ?_
  rw [len_of Sz2 Nn2]
  obtain ⟨T3, X3, e3, st3⟩ := getF X1 hx hZ hown (host := "") (Or.inl (hw _ (List.mem_of_getElem? (i := 75) rfl))) Via.refl e1 Bd0.2.2.1 (g := (mkF m 8 #[.val (.ref a1), .val (.int (Int32.ofNat (need))), .val (.int (Int32.ofNat (cap))), .unset, .unset, .unset] [(.ref a1), (.int (Int32.ofNat (need)))])) rfl rfl (Jvm.hb hby own_d_jdk_68_method_10_code_8)
  refine own_of (T' := T3) (f' := (mkF m 12 #[.val (.ref a1), .val (.int (Int32.ofNat (need))), .val (.int (Int32.ofNat (cap))), .unset, .unset, .unset] [(.int ((Int32.ofNat (need)) <<< ((0 : Int32) &&& 31)))])) (fun t_ k_ => (XS.istoreN X1.here hx rfl (Jvm.hb hby own_d_jdk_68_method_10_code_5) rfl (l' := #[.val (.ref a1), .val (.int (Int32.ofNat (need))), .val (.int (Int32.ofNat (cap))), .unset, .unset, .unset]) rfl (XS.iloadN X1.here hx rfl (Jvm.hb hby own_d_jdk_68_method_10_code_6) rfl (XS.aloadN X1.here hx rfl (Jvm.hb hby own_d_jdk_68_method_10_code_7) rfl rfl (st3 _ (XS.ishl X3.here hx rfl (Jvm.hb hby own_d_jdk_68_method_10_code_11) rfl k_)))))) ?_
  rw [own_shl]
  refine own_of (T' := T3) (f' := (mkF m 16 #[.val (.ref a1), .val (.int (Int32.ofNat (need))), .val (.int (Int32.ofNat (cap))), .val (.int (Int32.ofNat (need))), .unset, .unset] [(.int ((Int32.ofNat (need)) - (Int32.ofNat (cap))))])) (fun t_ k_ => (XS.istoreN X3.here hx rfl (Jvm.hb hby own_d_jdk_68_method_10_code_12) rfl (l' := #[.val (.ref a1), .val (.int (Int32.ofNat (need))), .val (.int (Int32.ofNat (cap))), .val (.int (Int32.ofNat (need))), .unset, .unset]) rfl (XS.iloadN X3.here hx rfl (Jvm.hb hby own_d_jdk_68_method_10_code_13) rfl (XS.iloadN X3.here hx rfl (Jvm.hb hby own_d_jdk_68_method_10_code_14) rfl (XS.isub X3.here hx rfl (Jvm.hb hby own_d_jdk_68_method_10_code_15) rfl k_))))) ?_
  rw [own_sub _ _ (Nat.le_of_lt hg)]
  obtain ⟨T4, X4, e4, st4⟩ := getF X3 hx hZ hown (host := "") (Or.inl (hw _ (List.mem_of_getElem? (i := 75) rfl))) Via.refl e3 Bd0.2.2.1 (g := (mkF m 24 #[.val (.ref a1), .val (.int (Int32.ofNat (need))), .val (.int (Int32.ofNat (cap))), .val (.int (Int32.ofNat (need))), .val (.int (Int32.ofNat (need - cap))), .unset] [(.ref a1), (.int (2 : Int32)), (.int (Int32.ofNat (cap))), (.int (Int32.ofNat (need - cap))), (.int (Int32.ofNat (cap)))])) rfl rfl (Jvm.hb hby own_d_jdk_68_method_10_code_24)
  refine own_of (T' := T4) (f' := (mkF m 28 #[.val (.ref a1), .val (.int (Int32.ofNat (need))), .val (.int (Int32.ofNat (cap))), .val (.int (Int32.ofNat (need))), .val (.int (Int32.ofNat (need - cap))), .unset] [(.int ((2 : Int32) <<< ((0 : Int32) &&& 31))), (.int (Int32.ofNat (cap))), (.int (Int32.ofNat (need - cap))), (.int (Int32.ofNat (cap)))])) (fun t_ k_ => (XS.istore X3.here hx rfl (Jvm.hb hby own_d_jdk_68_method_10_code_16) rfl (l' := #[.val (.ref a1), .val (.int (Int32.ofNat (need))), .val (.int (Int32.ofNat (cap))), .val (.int (Int32.ofNat (need))), .val (.int (Int32.ofNat (need - cap))), .unset]) rfl (XS.iloadN X3.here hx rfl (Jvm.hb hby own_d_jdk_68_method_10_code_18) rfl (XS.iload X3.here hx rfl (Jvm.hb hby own_d_jdk_68_method_10_code_19) rfl (XS.iloadN X3.here hx rfl (Jvm.hb hby own_d_jdk_68_method_10_code_21) rfl (XS.iconst X3.here hx rfl (Jvm.hb hby own_d_jdk_68_method_10_code_22) (XS.aloadN X3.here hx rfl (Jvm.hb hby own_d_jdk_68_method_10_code_23) rfl rfl (st4 _ (XS.ishl X4.here hx rfl (Jvm.hb hby own_d_jdk_68_method_10_code_27) rfl k_))))))))) ?_
  rw [(by decide : (2 : Int32) <<< ((0 : Int32) &&& 31) = Int32.ofNat 2)]
  refine own_of (T' := T4) (f' := (mkF m 29 #[.val (.ref a1), .val (.int (Int32.ofNat (need))), .val (.int (Int32.ofNat (cap))), .val (.int (Int32.ofNat (need))), .val (.int (Int32.ofNat (need - cap))), .unset] [(.int ((Int32.ofNat (cap)) + (Int32.ofNat 2))), (.int (Int32.ofNat (need - cap))), (.int (Int32.ofNat (cap)))])) (fun t_ k_ => (XS.iadd X4.here hx rfl (Jvm.hb hby own_d_jdk_68_method_10_code_28) rfl k_)) ?_
  rw [own_add]
  obtain ⟨_, _, ⟨T5, L5, k5, n5⟩, -, X5, ⟨Lc5, hQ5, l5, y5, z5⟩, st5⟩ := Jvm.LawKit.callS X4 hx (y := (⟨"jdk/internal/util/ArraysSupport", "newLength", "(III)I"⟩ : MethodName)) hown (mvT hZ (hw _ (List.mem_of_getElem? (i := 112) rfl))) (mvT hZ (hw _ (List.mem_of_getElem? (i := 113) rfl))) (mvT hZ (hw _ (List.mem_of_getElem? (i := 114) rfl))) (mvT hZ (hw _ (List.mem_of_getElem? (i := 115) rfl))) (by decide) (backOf (W := 0) (own_rm_nle l Z a0 hw [] (Int32.ofNat (cap)) (Int32.ofNat (need - cap)) (Int32.ofNat (cap + 2)) cap need h0 n0 Z0 hg h1 h2 rfl rfl rfl) hZ (hw _ (List.mem_of_getElem? (i := 115) rfl)) (hw _ (List.mem_of_getElem? (i := 114) rfl)) (by decide) (by decide)) (g := (mkF m 29 #[.val (.ref a1), .val (.int (Int32.ofNat (need))), .val (.int (Int32.ofNat (cap))), .val (.int (Int32.ofNat (need))), .val (.int (Int32.ofNat (need - cap))), .unset] [(.int (Int32.ofNat (cap + 2))), (.int (Int32.ofNat (need - cap))), (.int (Int32.ofNat (cap)))])) rfl (by rw [hml]; rfl) (argsL := [(.int (Int32.ofNat (cap))), (.int (Int32.ofNat (need - cap))), (.int (Int32.ofNat (cap + 2)))]) (rest := []) (lenOf own_pd_2 rfl) rfl (by show 2 * 0 + _ ≤ _; exact Nat.le_of_eq rfl) (Jvm.hb hby own_d_jdk_68_method_10_code_29) (fun _ _ => ⟨rfl, e4, Nat.le_of_ble_eq_true rfl, Nat.le_of_ble_eq_true rfl⟩)
  dsimp only [Pt.U, Pt.locs, Pt.cells, Pt.slots] at X5 l5 y5 z5 st5 hQ5
  subst y5 z5
  obtain ⟨rfl, N5, e5⟩ := hQ5
  have N6 : Fr n0 L5 := by rw [l5]; exact Fr.app N0 N5
  refine own_of (T' := T5) (f' := (mkF m 38 #[.val (.ref a1), .val (.int (Int32.ofNat (need))), .val (.int (Int32.ofNat (cap))), .val (.int (Int32.ofNat (need))), .val (.int (Int32.ofNat (need - cap))), .val (.int (Int32.ofNat ((cap + max (need - cap) (cap + 2)))))] [(.int (2147483647 : Int32)), (.int (Int32.ofNat ((cap + max (need - cap) (cap + 2)))))])) (fun t_ k_ => (st5 _ (XS.istore X5.here hx rfl (Jvm.hb hby own_d_jdk_68_method_10_code_32) rfl (l' := #[.val (.ref a1), .val (.int (Int32.ofNat (need))), .val (.int (Int32.ofNat (cap))), .val (.int (Int32.ofNat (need))), .val (.int (Int32.ofNat (need - cap))), .val (.int (Int32.ofNat ((cap + max (need - cap) (cap + 2)))))]) rfl (XS.iload X5.here hx rfl (Jvm.hb hby own_d_jdk_68_method_10_code_34) rfl (Jvm.Stand.ldcI X5 hx hown (mvT hZ (hw _ (List.mem_of_getElem? (i := 121) rfl))) rfl (Jvm.hb hby own_d_jdk_68_method_10_code_36) k_))))) ?_
  have hbb : ¬ (Int32.ofNat ((cap + max (need - cap) (cap + 2)))) = (2147483647 : Int32) := fun q => by
    have q2 := congrArg Int32.toInt q
    rw [Int32.toInt_ofNat_of_lt (by omega)] at q2
    have q3 : (2147483647 : Int32).toInt = 2147483647 := by decide
    omega
  obtain ⟨T7, X7, e7, st7⟩ := getF X5 hx hZ hown (host := "") (Or.inl (hw _ (List.mem_of_getElem? (i := 75) rfl))) Via.refl e5 Bd0.2.2.1 (g := (mkF m 54 #[.val (.ref a1), .val (.int (Int32.ofNat (need))), .val (.int (Int32.ofNat (cap))), .val (.int (Int32.ofNat (need))), .val (.int (Int32.ofNat (need - cap))), .val (.int (Int32.ofNat ((cap + max (need - cap) (cap + 2)))))] [(.ref a1), (.int (Int32.ofNat ((cap + max (need - cap) (cap + 2)))))])) rfl rfl (Jvm.hb hby own_d_jdk_68_method_10_code_54)
  refine own_of (T' := T7) (f' := (mkF m 58 #[.val (.ref a1), .val (.int (Int32.ofNat (need))), .val (.int (Int32.ofNat (cap))), .val (.int (Int32.ofNat (need))), .val (.int (Int32.ofNat (need - cap))), .val (.int (Int32.ofNat ((cap + max (need - cap) (cap + 2)))))] [(.int ((Int32.ofNat ((cap + max (need - cap) (cap + 2)))) >>> ((0 : Int32) &&& 31)))])) (fun t_ k_ => (XS.icmpYes X5.here hx rfl (pc0 := 38) (pc' := 51) rfl (Jvm.hb hby own_d_jdk_68_method_10_code_38) rfl (feq hbb).2 (by decide) (by decide) (XS.iload X5.here hx rfl (Jvm.hb hby own_d_jdk_68_method_10_code_51) rfl (XS.aloadN X5.here hx rfl (Jvm.hb hby own_d_jdk_68_method_10_code_53) rfl rfl (st7 _ (XS.ishr X7.here hx rfl (Jvm.hb hby own_d_jdk_68_method_10_code_57) rfl k_)))))) ?_
  rw [own_shr]
  obtain ⟨fs, hr, hrun, hended, hW, hsame⟩ := X7.leave (v := some (.int (Int32.ofNat ((cap + max (need - cap) (cap + 2)))))) (fun h => by rw [Bd.returns] at h; cases h)
  exact ⟨_, _, own_retI X7 hx Bd.returns (Jvm.hb hby own_d_jdk_68_method_10_code_58) hr, hrun, hended, _, _, rfl, (by show own_Q_nca Z a1 (Int32.ofNat (need)) da k cap bs need h0 n0 _ T7.heap _; rw [e7]; exact ⟨rfl, N6, rfl⟩), ⟨_, rfl⟩, hW, hsame.mono (by decide) (by decide)⟩
theorem own_pn_4 : plainName "java/util/Arrays" = true := by first | (simp [plainName, overriddenIn]; done) | decide +kernel
theorem own_ef_cpo (m : MethodId) (a1 : Addr) (p2 : Int32) : entryFrame m #[(.ref a1), (.int p2)] 3 = mkF m 0 #[.val (.ref a1), .val (.int p2), .unset] [] := by first | (simp [entryFrame, mkF, argsToLocals, Value.category]; done) | rfl
def own_Q_cpo (Z : State) (a1 : Addr) (p2 : Int32) (k : ClassId) (cap nc : Nat) (vs : List Value) (h0 : Heap) (n0 : Nat) (v : Option Value) (h : Heap) (L : List Loc) : Prop := ∃ b kb, v = some (.ref b) ∧ Fr n0 L ∧ Keep h0 h [] ∧ h0.size ≤ b ∧ Exa Z h b "[B" ∧ Arv Z h b kb .byte (Int32.ofNat (nc)) (vs ++ List.replicate (nc - cap) (.int 0)) (.int 0)
theorem own_d_jdk_65_method_121_code_0 : decode jdk_65_method_121_code 0 = .ok (.iload_n 1, 1) := by decide +kernel
theorem own_d_jdk_65_method_121_code_1 : decode jdk_65_method_121_code 1 = .ok (.aload_n 0, 1) := by decide +kernel
theorem own_d_jdk_65_method_121_code_2 : decode jdk_65_method_121_code 2 = .ok (.arraylength, 1) := by decide +kernel
theorem own_d_jdk_65_method_121_code_3 : decode jdk_65_method_121_code 3 = .ok (.if_icmp .ne 11, 3) := by decide +kernel
theorem own_d_jdk_65_method_121_code_14 : decode jdk_65_method_121_code 14 = .ok (.iload_n 1, 1) := by decide +kernel
theorem own_d_jdk_65_method_121_code_15 : decode jdk_65_method_121_code 15 = .ok (.newarray .byte, 2) := by decide +kernel
theorem own_d_jdk_65_method_121_code_17 : decode jdk_65_method_121_code 17 = .ok (.astore_n 2, 1) := by decide +kernel
theorem own_d_jdk_65_method_121_code_18 : decode jdk_65_method_121_code 18 = .ok (.aload_n 0, 1) := by decide +kernel
theorem own_d_jdk_65_method_121_code_19 : decode jdk_65_method_121_code 19 = .ok (.iconst 0, 1) := by decide +kernel
theorem own_d_jdk_65_method_121_code_20 : decode jdk_65_method_121_code 20 = .ok (.aload_n 2, 1) := by decide +kernel
theorem own_d_jdk_65_method_121_code_21 : decode jdk_65_method_121_code 21 = .ok (.iconst 0, 1) := by decide +kernel
theorem own_d_jdk_65_method_121_code_22 : decode jdk_65_method_121_code 22 = .ok (.aload_n 0, 1) := by decide +kernel
theorem own_d_jdk_65_method_121_code_23 : decode jdk_65_method_121_code 23 = .ok (.arraylength, 1) := by decide +kernel
theorem own_d_jdk_65_method_121_code_24 : decode jdk_65_method_121_code 24 = .ok (.iload_n 1, 1) := by decide +kernel
theorem own_d_jdk_65_method_121_code_25 : decode jdk_65_method_121_code 25 = .ok (.invokestatic 304, 3) := by decide +kernel
theorem own_d_jdk_65_method_121_code_28 : decode jdk_65_method_121_code 28 = .ok (.invokestatic 150, 3) := by decide +kernel
theorem own_d_jdk_65_method_121_code_31 : decode jdk_65_method_121_code 31 = .ok (.aload_n 2, 1) := by decide +kernel
theorem own_d_jdk_65_method_121_code_32 : decode jdk_65_method_121_code 32 = .ok (.areturn, 1) := by decide +kernel
set_option maxRecDepth 65536 in
set_option maxHeartbeats 40000000 in
theorem own_rm_cpo (l : Launch) (Z : State) (a0 : Array Value) (hw : ∀ d ∈ tables_1, d.before a0 Z = true) (ws : List Jvm.Cond) (a1 : Addr) (p2 : Int32) (k : ClassId) (cap nc : Nat) (vs : List Value) (h0 : Heap) (n0 : Nat) (Z0 : n0 ≤ h0.size) (Va : Arv Z h0 a1 k .byte (Int32.ofNat (cap)) vs (.int 0)) (hl : vs.length = cap) (hc : cap < nc) (h70 : nc ≤ 70) (hp2 : p2 = (Int32.ofNat (nc))) :
    MetFree l (⟨"java/util/Arrays", "copyOf", "([BI)[B"⟩ : MethodName) (head1 (Jvm.Cond.code (⟨"java/util/Arrays", "copyOf", "([BI)[B"⟩ : MethodName) jdk_65_method_121_code 3 (some (.array .byte)) :: ws) ({ frames := 1, cells := 1, slots := 70, locals := 18 } : Room)) (fun a U => a = #[(.ref a1), (.int p2)] ∧ Z.Warmed39 U.vm ∧ U.heap = h0) (fun _ _ _ _ _ => True) (fun _ U o U' => ∃ v L, o = .returned v ∧ own_Q_cpo Z a1 p2 k cap nc vs h0 n0 v U'.heap L ∧ FrameEnd U o U' L ({ frames := 1, cells := 1, slots := 70, locals := 18 } : Room).cells ({ frames := 1, cells := 1, slots := 70, locals := 18 } : Room).slots) := by
  refine MetFree.of_bodySF (plainFor_of_name own_pn_4) hisR ?_
  intro p e s m args below meth c s₁ Bd hml0 hP hK
  obtain ⟨rfl, hZ, hh⟩ := hP
  have hx := Bd.exec
  have hby := Bd.bytes
  have hml : c.maxLocals = 3 := hml0
  have hown : s.vm.findClass "java/util/Arrays" = some m.cls := findClass_of_methodNamed Bd.named
  have hnm := (name_of_methodNamed Bd.named Bd.method).1
  have X0 : Stand p l e ({ frames := 1, cells := 1, slots := 70, locals := 18 } : Room) s m #[(.ref a1), (.int p2)] below meth c s₁ [] 0 0 := Stand.of_body Bd
  have e0 : s₁.heap = h0 := by rw [← hh, Bd.state]; rfl
  have N0 := Fr.nil n0
  refine own_start (own_ef_cpo m a1 p2 ) ?_
  subst hp2
  have K0 : Keep h0 h0 [] := Keep.refl _ _
  refine own_of (T' := s₁) (f' := (mkF m 2 #[.val (.ref a1), .val (.int (Int32.ofNat (nc))), .unset] [(.ref a1), (.int (Int32.ofNat (nc)))])) (fun t_ k_ => (XS.iloadN X0.here hx rfl (Jvm.hb hby own_d_jdk_65_method_121_code_0) rfl (XS.aloadN X0.here hx rfl (Jvm.hb hby own_d_jdk_65_method_121_code_1) rfl rfl k_))) ?_
  obtain ⟨cl1, Ar1, -, Sz1, Nn1, -⟩ := id Va
  refine own_of (T' := s₁) (f' := (mkF m 3 #[.val (.ref a1), .val (.int (Int32.ofNat (nc))), .unset] [(.int (cl1.slots.size).toInt32), (.int (Int32.ofNat (nc)))])) (fun t_ k_ => (X0.arraylength hx (by first | (rw [e0]; exact Ar1.1) | exact Ar1.1) (State.isArrayOf_alike hZ.alike Ar1.2.1) (g := (mkF m 2 #[.val (.ref a1), .val (.int (Int32.ofNat (nc))), .unset] [(.ref a1), (.int (Int32.ofNat (nc)))])) rfl rfl (Jvm.hb hby own_d_jdk_65_method_121_code_2) _ k_)) ?_
  rw [len_of Sz1 Nn1]
  refine own_of (T' := s₁) (f' := (mkF m 15 #[.val (.ref a1), .val (.int (Int32.ofNat (nc))), .unset] [(.int (Int32.ofNat (nc)))])) (fun t_ k_ => (XS.icmpYes X0.here hx rfl (pc0 := 3) (pc' := 14) rfl (Jvm.hb hby own_d_jdk_65_method_121_code_3) rfl (feq (fun q => by have := own_inj _ _ (by omega) (by omega) q; omega)).2 (by decide) (by decide) (XS.iloadN X0.here hx rfl (Jvm.hb hby own_d_jdk_65_method_121_code_14) rfl k_))) ?_
  obtain ⟨T2, h2, k2, X2, e2, E2, A2, Ex2, st2⟩ := newPE X0 hx hZ (hw _ (List.mem_of_getElem? (i := 18) rfl)) e0 (g := (mkF m 15 #[.val (.ref a1), .val (.int (Int32.ofNat (nc))), .unset] [(.int (Int32.ofNat (nc)))])) rfl (Jvm.hb hby own_d_jdk_65_method_121_code_15) rfl (own_ng _ (by omega)) (cap := 70) (by rw [own_cl _ (by omega)]; exact h70) (by decide) (by decide) (by decide) (ad := "[B") (by decide)
  obtain ⟨b, g2⟩ : ∃ z, z = h0.size := ⟨_, rfl⟩
  rw [← g2] at A2 Ex2 st2
  have ne_a1_b : a1 ≠ b := by rw [g2]; exact Nat.ne_of_lt Va.lt
  have g_b : n0 ≤ b := Nat.le_trans Z0 (Nat.le_of_eq g2.symm)
  have sz_b : h0.size ≤ b := Nat.le_trans K0.1 (Nat.le_of_eq g2.symm)
  have f3 := K0.ext E2
  have f4 := Nat.le_trans Z0 E2.1
  have f5 := Va.ext E2
  have f6 : Arv Z h2 b k2 .byte (Int32.ofNat (nc)) (List.replicate ((Int32.ofNat (nc))).toNatClampNeg (.int 0)) (.int 0) := (Arv.new A2 (own_ng _ (by omega))).pad (pad_rep [] (.int 0) ((Int32.ofNat (nc))).toNatClampNeg)
  refine own_of (T' := T2) (f' := (mkF m 23 #[.val (.ref a1), .val (.int (Int32.ofNat (nc))), .val (.ref b)] [(.ref a1), (.int (0 : Int32)), (.ref b), (.int (0 : Int32)), (.ref a1)])) (fun t_ k_ => (st2 _ (XS.astoreN X2.here hx rfl (Jvm.hb hby own_d_jdk_65_method_121_code_17) rfl rfl (l' := #[.val (.ref a1), .val (.int (Int32.ofNat (nc))), .val (.ref b)]) rfl (XS.aloadN X2.here hx rfl (Jvm.hb hby own_d_jdk_65_method_121_code_18) rfl rfl (XS.iconst X2.here hx rfl (Jvm.hb hby own_d_jdk_65_method_121_code_19) (XS.aloadN X2.here hx rfl (Jvm.hb hby own_d_jdk_65_method_121_code_20) rfl rfl (XS.iconst X2.here hx rfl (Jvm.hb hby own_d_jdk_65_method_121_code_21) (XS.aloadN X2.here hx rfl (Jvm.hb hby own_d_jdk_65_method_121_code_22) rfl rfl k_)))))))) ?_
  obtain ⟨cl7, Ar7, -, Sz7, Nn7, -⟩ := id f5
  refine own_of (T' := T2) (f' := (mkF m 24 #[.val (.ref a1), .val (.int (Int32.ofNat (nc))), .val (.ref b)] [(.int (cl7.slots.size).toInt32), (.int (0 : Int32)), (.ref b), (.int (0 : Int32)), (.ref a1)])) (fun t_ k_ => (X2.arraylength hx (by first | (rw [e2]; exact Ar7.1) | exact Ar7.1) (State.isArrayOf_alike hZ.alike Ar7.2.1) (g := (mkF m 23 #[.val (.ref a1), .val (.int (Int32.ofNat (nc))), .val (.ref b)] [(.ref a1), (.int (0 : Int32)), (.ref b), (.int (0 : Int32)), (.ref a1)])) rfl rfl (Jvm.hb hby own_d_jdk_65_method_121_code_23) _ k_)) ?_
  rw [len_of Sz7 Nn7]
  refine own_of (T' := T2) (f' := (mkF m 25 #[.val (.ref a1), .val (.int (Int32.ofNat (nc))), .val (.ref b)] [(.int (Int32.ofNat (nc))), (.int (Int32.ofNat (cap))), (.int (0 : Int32)), (.ref b), (.int (0 : Int32)), (.ref a1)])) (fun t_ k_ => (XS.iloadN X2.here hx rfl (Jvm.hb hby own_d_jdk_65_method_121_code_24) rfl k_)) ?_
  obtain ⟨_, _, ⟨T8, L8, k8, n8⟩, -, X8, ⟨Lc8, hQ8, l8, y8, z8⟩, st8⟩ := Jvm.LawKit.callS X2 hx (y := (⟨"java/lang/Math", "min", "(II)I"⟩ : MethodName)) hown (mvT hZ (hw _ (List.mem_of_getElem? (i := 126) rfl))) (mvT hZ (hw _ (List.mem_of_getElem? (i := 127) rfl))) (mvT hZ (hw _ (List.mem_of_getElem? (i := 118) rfl))) (mvT hZ (hw _ (List.mem_of_getElem? (i := 128) rfl))) (by decide) (backOf (W := 4) (own_rm_mmn l Z a0 hw [] (Int32.ofNat (cap)) (Int32.ofNat (nc)) h2 n0 f4) hZ (hw _ (List.mem_of_getElem? (i := 128) rfl)) (hw _ (List.mem_of_getElem? (i := 118) rfl)) (by decide) (by decide)) (g := (mkF m 25 #[.val (.ref a1), .val (.int (Int32.ofNat (nc))), .val (.ref b)] [(.int (Int32.ofNat (nc))), (.int (Int32.ofNat (cap))), (.int (0 : Int32)), (.ref b), (.int (0 : Int32)), (.ref a1)])) rfl (by rw [hml]; rfl) (argsL := [(.int (Int32.ofNat (cap))), (.int (Int32.ofNat (nc)))]) (rest := [(.int (0 : Int32)), (.ref b), (.int (0 : Int32)), (.ref a1)]) (lenOf own_pd_1 rfl) rfl (by show 2 * 0 + _ ≤ _; exact Nat.le_of_eq rfl) (Jvm.hb hby own_d_jdk_65_method_121_code_25) (fun _ _ => ⟨rfl, e2, Nat.le_of_ble_eq_true rfl, Nat.le_of_ble_eq_true rfl⟩)
  dsimp only [Pt.U, Pt.locs, Pt.cells, Pt.slots] at X8 l8 y8 z8 st8 hQ8
  subst y8 z8
  obtain ⟨rfl, N8, e8⟩ := hQ8
  have N9 : Fr n0 L8 := by rw [l8]; exact Fr.app N0 N8
  refine own_of (T' := T8) (f' := (mkF m 28 #[.val (.ref a1), .val (.int (Int32.ofNat (nc))), .val (.ref b)] [(.int (own_min (Int32.ofNat (cap)) (Int32.ofNat (nc)))), (.int (0 : Int32)), (.ref b), (.int (0 : Int32)), (.ref a1)])) (fun t_ k_ => (st8 _ k_)) ?_
  rw [own_minL _ _ (by omega) (by omega) (Nat.le_of_lt hc)]
  obtain ⟨T10, h10, L10, X10, e10, N10, K10, V10, st10⟩ := Jvm.RoadKit.cpA X8 hx hZ hown (hw _ (List.mem_of_getElem? (i := 129) rfl)) (hw _ (List.mem_of_getElem? (i := 132) rfl)) (hw _ (List.mem_of_getElem? (i := 130) rfl)) (hw _ (List.mem_of_getElem? (i := 131) rfl)) e8 f5 f6 (Or.inl ⟨rfl, rfl⟩) (sp := (0 : Int32)) (dp := (0 : Int32)) (nn := (Int32.ofNat (cap))) (by decide) (by decide) (own_ng _ (by omega)) (by rw [own_cl cap (by omega)]; show 0 + cap ≤ cap; omega) (by rw [own_cl cap (by omega), own_cl nc (by omega)]; show 0 + cap ≤ nc; omega) (us := vs) (by rw [own_cl cap (by omega)]; exact own_rng vs _ cap hl) (by rw [own_cl cap (by omega), List.length_replicate, own_cl nc (by omega)]; show 0 + cap ≤ nc; omega) N9 g_b (g := (mkF m 28 #[.val (.ref a1), .val (.int (Int32.ofNat (nc))), .val (.ref b)] [(.int (Int32.ofNat (cap))), (.int (0 : Int32)), (.ref b), (.int (0 : Int32)), (.ref a1)])) rfl (by rw [hml]; rfl) (rest := []) rfl (Jvm.hb hby own_d_jdk_65_method_121_code_28) (by decide) (W := 0) (by show 2 * 0 + _ ≤ _; exact Nat.le_of_eq rfl) (by decide)
  have f11 := f3.trans K10 (allS (Or.inr sz_b) all0)
  have f12 := Nat.le_trans f4 K10.1
  have f13 := f5.keep K10 (ninS ne_a1_b nin0)
  have f14 := Ex2.keep K10
  refine own_of (T' := T10) (f' := (mkF m 31 #[.val (.ref a1), .val (.int (Int32.ofNat (nc))), .val (.ref b)] [])) (fun t_ k_ => (st10 _ k_)) ?_
  have Vb : Arv Z h10 b k2 .byte (Int32.ofNat (nc)) (vs ++ List.replicate (nc - cap) (.int 0)) (.int 0) := by
    have q_ := V10
    rw [own_cl cap (by omega), own_cl nc (by omega)] at q_
    have e_ : (List.replicate nc (Value.int 0)).take (0 : Int32).toNatClampNeg ++ vs ++ (List.replicate nc (Value.int 0)).drop ((0 : Int32).toNatClampNeg + cap) = vs ++ List.replicate (nc - cap) (.int 0) := by
      show (List.replicate nc (Value.int 0)).take 0 ++ vs ++ (List.replicate nc (Value.int 0)).drop (0 + cap) = _
      rw [List.take_zero, List.nil_append, List.drop_replicate, Nat.zero_add]
    rw [e_] at q_
    exact q_
  refine own_of (T' := T10) (f' := (mkF m 32 #[.val (.ref a1), .val (.int (Int32.ofNat (nc))), .val (.ref b)] [(.ref b)])) (fun t_ k_ => (XS.aloadN X10.here hx rfl (Jvm.hb hby own_d_jdk_65_method_121_code_31) rfl rfl k_)) ?_
  obtain ⟨fs, hr, hrun, hended, hW, hsame⟩ := X10.leave (v := some (.ref b)) (fun h => by rw [Bd.returns] at h; cases h)
  exact ⟨_, _, own_retA X10 hx Bd.returns rfl rfl rfl (Jvm.hb hby own_d_jdk_65_method_121_code_32) hr, hrun, hended, _, _, rfl, (by show own_Q_cpo Z a1 (Int32.ofNat (nc)) k cap nc vs h0 n0 _ T10.heap _; rw [e10]; exact ⟨b, _, rfl, N10, f11, sz_b, f14, Vb⟩), ⟨_, rfl⟩, hW, hsame.mono (by decide) (by decide)⟩
theorem own_ef_eci (m : MethodId) (a1 : Addr) (p2 : Int32) : entryFrame m #[(.ref a1), (.int p2)] 3 = mkF m 0 #[.val (.ref a1), .val (.int p2), .unset] [] := by first | (simp [entryFrame, mkF, argsToLocals, Value.category]; done) | rfl
def own_Q_eci (Z : State) (a1 : Addr) (p2 : Int32) (da : Addr) (k : ClassId) (cap : Nat) (bs : List Value) (need : Nat) (h0 : Heap) (n0 : Nat) (v : Option Value) (h : Heap) (L : List Loc) : Prop := v = none ∧ Fr n0 L ∧ Keep h0 h [a1] ∧ ∃ da' k', (da' = da ∨ h0.size ≤ da') ∧ own_B Z h a1 da' k' (own_grow cap need) bs
theorem own_d_jdk_68_method_9_code_0 : decode jdk_68_method_9_code 0 = .ok (.aload_n 0, 1) := by decide +kernel
theorem own_d_jdk_68_method_9_code_1 : decode jdk_68_method_9_code 1 = .ok (.getfield 15, 3) := by decide +kernel
theorem own_d_jdk_68_method_9_code_4 : decode jdk_68_method_9_code 4 = .ok (.arraylength, 1) := by decide +kernel
theorem own_d_jdk_68_method_9_code_5 : decode jdk_68_method_9_code 5 = .ok (.aload_n 0, 1) := by decide +kernel
theorem own_d_jdk_68_method_9_code_6 : decode jdk_68_method_9_code 6 = .ok (.getfield 22, 3) := by decide +kernel
theorem own_d_jdk_68_method_9_code_9 : decode jdk_68_method_9_code 9 = .ok (.ishr, 1) := by decide +kernel
theorem own_d_jdk_68_method_9_code_10 : decode jdk_68_method_9_code 10 = .ok (.istore_n 2, 1) := by decide +kernel
theorem own_d_jdk_68_method_9_code_11 : decode jdk_68_method_9_code 11 = .ok (.iload_n 1, 1) := by decide +kernel
theorem own_d_jdk_68_method_9_code_12 : decode jdk_68_method_9_code 12 = .ok (.iload_n 2, 1) := by decide +kernel
theorem own_d_jdk_68_method_9_code_13 : decode jdk_68_method_9_code 13 = .ok (.isub, 1) := by decide +kernel
theorem own_d_jdk_68_method_9_code_14 : decode jdk_68_method_9_code 14 = .ok (.ifCond .le 24, 3) := by decide +kernel
theorem own_d_jdk_68_method_9_code_38 : decode jdk_68_method_9_code 38 = .ok (.return_, 1) := by decide +kernel
theorem own_d_jdk_68_method_9_code_17 : decode jdk_68_method_9_code 17 = .ok (.aload_n 0, 1) := by decide +kernel
theorem own_d_jdk_68_method_9_code_18 : decode jdk_68_method_9_code 18 = .ok (.aload_n 0, 1) := by decide +kernel
theorem own_d_jdk_68_method_9_code_19 : decode jdk_68_method_9_code 19 = .ok (.getfield 15, 3) := by decide +kernel
theorem own_d_jdk_68_method_9_code_22 : decode jdk_68_method_9_code 22 = .ok (.aload_n 0, 1) := by decide +kernel
theorem own_d_jdk_68_method_9_code_23 : decode jdk_68_method_9_code 23 = .ok (.iload_n 1, 1) := by decide +kernel
theorem own_d_jdk_68_method_9_code_24 : decode jdk_68_method_9_code 24 = .ok (.invokevirtual 104, 3) := by decide +kernel
theorem own_pd_3 : parseMethodDescriptor "(I)I" = some ⟨[.int], some .int⟩ := by decide +kernel
theorem own_selP {s : State} {args : Array Value} {y : MethodName} {C : String} (h : (Jvm.Cond.selects C y y).before args s = true) (hp : s.PrivateAt y) (hi : (Jvm.Cond.instanceMethod y).before args s = true) (hy : y.cls ≠ "java/lang/invoke/MethodHandle" ∧ y.cls ≠ "java/lang/invoke/VarHandle") : (Jvm.Cond.selects y.cls y y).before args s = true := by
  obtain ⟨c2, r2, m2, -, -, q3, -, kP, hkP, hkPi⟩ := Cond.selects_spec h
  exact selects_self_of_private (findClass_of_methodNamed q3) hkP hkPi hp hi hy
theorem own_d_jdk_68_method_9_code_27 : decode jdk_68_method_9_code 27 = .ok (.aload_n 0, 1) := by decide +kernel
theorem own_d_jdk_68_method_9_code_28 : decode jdk_68_method_9_code 28 = .ok (.getfield 22, 3) := by decide +kernel
theorem own_d_jdk_68_method_9_code_31 : decode jdk_68_method_9_code 31 = .ok (.ishl, 1) := by decide +kernel
theorem own_d_jdk_68_method_9_code_32 : decode jdk_68_method_9_code 32 = .ok (.invokestatic 108, 3) := by decide +kernel
theorem own_pd_4 : parseMethodDescriptor "([BI)[B" = some ⟨[(.array .byte), .int], some (.array .byte)⟩ := by decide +kernel
theorem own_d_jdk_68_method_9_code_35 : decode jdk_68_method_9_code 35 = .ok (.putfield 15, 3) := by decide +kernel
set_option maxRecDepth 65536 in
set_option maxHeartbeats 40000000 in
theorem own_rm_eci (l : Launch) (Z : State) (a0 : Array Value) (hw : ∀ d ∈ tables_1, d.before a0 Z = true) (ws : List Jvm.Cond) (a1 : Addr) (p2 : Int32) (da : Addr) (k : ClassId) (cap : Nat) (bs : List Value) (need : Nat) (h0 : Heap) (n0 : Nat) (Z0 : n0 ≤ h0.size) (Bd0 : own_B Z h0 a1 da k cap bs) (g_a1 : n0 ≤ a1) (h1 : need < 400) (h2 : cap < 400) (h70 : own_grow cap need ≤ 70) (hp2 : p2 = (Int32.ofNat (need))) :
    MetFree l (⟨"java/lang/AbstractStringBuilder", "ensureCapacityInternal", "(I)V"⟩ : MethodName) (head1 (Jvm.Cond.code (⟨"java/lang/AbstractStringBuilder", "ensureCapacityInternal", "(I)V"⟩ : MethodName) jdk_68_method_9_code 3 none :: ws) ({ frames := 3, cells := 1, slots := 70, locals := 48 } : Room)) (fun a U => a = #[(.ref a1), (.int p2)] ∧ Z.Warmed39 U.vm ∧ U.heap = h0) (fun _ _ _ _ _ => True) (fun _ U o U' => ∃ v L, o = .returned v ∧ own_Q_eci Z a1 p2 da k cap bs need h0 n0 v U'.heap L ∧ FrameEnd U o U' L ({ frames := 3, cells := 1, slots := 70, locals := 48 } : Room).cells ({ frames := 3, cells := 1, slots := 70, locals := 48 } : Room).slots) := by
  refine MetFree.of_bodySF (plainFor_of_name own_pn_3) hisR ?_
  intro p e s m args below meth c s₁ Bd hml0 hP hK
  obtain ⟨rfl, hZ, hh⟩ := hP
  have hx := Bd.exec
  have hby := Bd.bytes
  have hml : c.maxLocals = 3 := hml0
  have hown : s.vm.findClass "java/lang/AbstractStringBuilder" = some m.cls := findClass_of_methodNamed Bd.named
  have hnm := (name_of_methodNamed Bd.named Bd.method).1
  have X0 : Stand p l e ({ frames := 3, cells := 1, slots := 70, locals := 48 } : Room) s m #[(.ref a1), (.int p2)] below meth c s₁ [] 0 0 := Stand.of_body Bd
  have e0 : s₁.heap = h0 := by rw [← hh, Bd.state]; rfl
  have N0 := Fr.nil n0
  refine own_start (own_ef_eci m a1 p2 ) ?_
  subst hp2
  have K0 : Keep h0 h0 [a1] := Keep.refl _ _
  have neBd : a1 ≠ da := Bd0.1.ne Bd0.2.2.2.2.1 (by decide)
  obtain ⟨T1, X1, e1, st1⟩ := getF X0 hx hZ hown (host := "") (Or.inl (hw _ (List.mem_of_getElem? (i := 73) rfl))) Via.refl e0 Bd0.2.1 (g := (mkF m 1 #[.val (.ref a1), .val (.int (Int32.ofNat (need))), .unset] [(.ref a1)])) rfl rfl (Jvm.hb hby own_d_jdk_68_method_9_code_1)
  refine own_of (T' := T1) (f' := (mkF m 4 #[.val (.ref a1), .val (.int (Int32.ofNat (need))), .unset] [(.ref da)])) (fun t_ k_ => (XS.aloadN X0.here hx rfl (Jvm.hb hby own_d_jdk_68_method_9_code_0) rfl rfl (st1 _ k_))) ?_
  obtain ⟨cl2, Ar2, -, Sz2, Nn2, -⟩ := id Bd0.2.2.2.2.2.1
  refine own_of (T' := T1) (f' := (mkF m 5 #[.val (.ref a1), .val (.int (Int32.ofNat (need))), .unset] [(.int (cl2.slots.size).toInt32)])) (fun t_ k_ => (X1.arraylength hx (by first | (rw [e1]; exact Ar2.1) | exact Ar2.1) (State.isArrayOf_alike hZ.alike Ar2.2.1) (g := (mkF m 4 #[.val (.ref a1), .val (.int (Int32.ofNat (need))), .unset] [(.ref da)])) rfl rfl (Jvm.hb hby own_d_jdk_68_method_9_code_4) _ k_)) ?_
  rw [len_of Sz2 Nn2]
  obtain ⟨T3, X3, e3, st3⟩ := getF X1 hx hZ hown (host := "") (Or.inl (hw _ (List.mem_of_getElem? (i := 75) rfl))) Via.refl e1 Bd0.2.2.1 (g := (mkF m 6 #[.val (.ref a1), .val (.int (Int32.ofNat (need))), .unset] [(.ref a1), (.int (Int32.ofNat (cap)))])) rfl rfl (Jvm.hb hby own_d_jdk_68_method_9_code_6)
  refine own_of (T' := T3) (f' := (mkF m 10 #[.val (.ref a1), .val (.int (Int32.ofNat (need))), .unset] [(.int ((Int32.ofNat (cap)) >>> ((0 : Int32) &&& 31)))])) (fun t_ k_ => (XS.aloadN X1.here hx rfl (Jvm.hb hby own_d_jdk_68_method_9_code_5) rfl rfl (st3 _ (XS.ishr X3.here hx rfl (Jvm.hb hby own_d_jdk_68_method_9_code_9) rfl k_)))) ?_
  rw [own_shr]
  refine own_of (T' := T3) (f' := (mkF m 14 #[.val (.ref a1), .val (.int (Int32.ofNat (need))), .val (.int (Int32.ofNat (cap)))] [(.int ((Int32.ofNat (need)) - (Int32.ofNat (cap))))])) (fun t_ k_ => (XS.istoreN X3.here hx rfl (Jvm.hb hby own_d_jdk_68_method_9_code_10) rfl (l' := #[.val (.ref a1), .val (.int (Int32.ofNat (need))), .val (.int (Int32.ofNat (cap)))]) rfl (XS.iloadN X3.here hx rfl (Jvm.hb hby own_d_jdk_68_method_9_code_11) rfl (XS.iloadN X3.here hx rfl (Jvm.hb hby own_d_jdk_68_method_9_code_12) rfl (XS.isub X3.here hx rfl (Jvm.hb hby own_d_jdk_68_method_9_code_13) rfl k_))))) ?_
  by_cases hg : need ≤ cap
  · skip
    refine own_of (T' := T3) (f' := (mkF m 38 #[.val (.ref a1), .val (.int (Int32.ofNat (need))), .val (.int (Int32.ofNat (cap)))] [])) (fun t_ k_ => (XS.ifYes X3.here hx rfl (pc0 := 14) (pc' := 38) rfl (Jvm.hb hby own_d_jdk_68_method_9_code_14) rfl ((if0 _ _).trans (flt (fun q => absurd ((own_subpos need cap (by omega) (by omega)).mp q) (Nat.not_lt.mpr hg))).2.2.2) (by decide) (by decide) k_)) ?_
    have eg : own_grow cap need = cap := if_pos hg
    obtain ⟨fs, hr, hrun, hended, hW, hsame⟩ := X3.leave (v := none) (fun _ => rfl)
    exact ⟨_, _, X3.returnOut hx Bd.returns (Jvm.hb hby own_d_jdk_68_method_9_code_38) hr, hrun, hended, _, _, rfl, (by show own_Q_eci Z a1 (Int32.ofNat (need)) da k cap bs need h0 n0 _ T3.heap _; rw [e3]; exact ⟨rfl, N0, K0, da, k, Or.inl rfl, by rw [eg]; exact Bd0⟩), ⟨_, rfl⟩, hW, hsame.mono (by decide) (by decide)⟩
  · skip
    have hg' : cap < need := Nat.lt_of_not_le hg
    have eg : own_grow cap need = (cap + max (need - cap) (cap + 2)) := if_neg hg
    have hnc : (cap + max (need - cap) (cap + 2)) ≤ 70 := by rw [← eg]; exact h70
    obtain ⟨T4, X4, e4, st4⟩ := getF X3 hx hZ hown (host := "") (Or.inl (hw _ (List.mem_of_getElem? (i := 73) rfl))) Via.refl e3 Bd0.2.1 (g := (mkF m 19 #[.val (.ref a1), .val (.int (Int32.ofNat (need))), .val (.int (Int32.ofNat (cap)))] [(.ref a1), (.ref a1)])) rfl rfl (Jvm.hb hby own_d_jdk_68_method_9_code_19)
    refine own_of (T' := T4) (f' := (mkF m 24 #[.val (.ref a1), .val (.int (Int32.ofNat (need))), .val (.int (Int32.ofNat (cap)))] [(.int (Int32.ofNat (need))), (.ref a1), (.ref da), (.ref a1)])) (fun t_ k_ => (XS.ifNo X3.here hx rfl (Jvm.hb hby own_d_jdk_68_method_9_code_14) rfl ((if0 _ _).trans (tlt ((own_subpos need cap (by omega) (by omega)).mpr hg')).2.2.2) (XS.aloadN X3.here hx rfl (Jvm.hb hby own_d_jdk_68_method_9_code_17) rfl rfl (XS.aloadN X3.here hx rfl (Jvm.hb hby own_d_jdk_68_method_9_code_18) rfl rfl (st4 _ (XS.aloadN X4.here hx rfl (Jvm.hb hby own_d_jdk_68_method_9_code_22) rfl rfl (XS.iloadN X4.here hx rfl (Jvm.hb hby own_d_jdk_68_method_9_code_23) rfl k_))))))) ?_
    obtain ⟨cq6, q6, q6'⟩ := Bd0.1.cell
    obtain ⟨_, _, ⟨T5, L5, k5, n5⟩, -, X5, ⟨Lc5, hQ5, l5, y5, z5⟩, st5⟩ := X4.privateBack hx (y := (⟨"java/lang/AbstractStringBuilder", "newCapacity", "(I)I"⟩ : MethodName)) hown (mvT hZ (hw _ (List.mem_of_getElem? (i := 107) rfl))) (mvT hZ (hw _ (List.mem_of_getElem? (i := 108) rfl))) (own_selP (mvT hZ (hw _ (List.mem_of_getElem? (i := 110) rfl))) (Cond.privateMethod_at (mvP hZ (hw _ (List.mem_of_getElem? (i := 109) rfl)) (args := #[]))) (mvT hZ (hw _ (List.mem_of_getElem? (i := 108) rfl))) (by decide)) (Cond.privateMethod_at (mvP hZ (hw _ (List.mem_of_getElem? (i := 109) rfl)) (args := #[]))) (mvT hZ (hw _ (List.mem_of_getElem? (i := 111) rfl))) (by decide) (backOf (W := 2) (own_rm_nca l Z a0 hw [] a1 (Int32.ofNat (need)) da k cap bs need h0 n0 Z0 Bd0 hg' h1 h2 rfl) hZ (hw _ (List.mem_of_getElem? (i := 111) rfl)) (hw _ (List.mem_of_getElem? (i := 69) rfl)) (by decide) (by decide)) (g := (mkF m 24 #[.val (.ref a1), .val (.int (Int32.ofNat (need))), .val (.int (Int32.ofNat (cap)))] [(.int (Int32.ofNat (need))), (.ref a1), (.ref da), (.ref a1)])) rfl (by rw [hml]; rfl) (Steps.refl _) (a := a1) (by rw [e4]; exact q6) q6' (argsL := [(.int (Int32.ofNat (need)))]) (rest := [(.ref da), (.ref a1)]) (lenOf own_pd_3 rfl) rfl (by show 2 * 0 + _ ≤ _; exact Nat.le_of_eq rfl) (Jvm.hb hby own_d_jdk_68_method_9_code_24) (fun _ _ => ⟨rfl, e4, Nat.le_of_ble_eq_true rfl, Nat.le_of_ble_eq_true rfl⟩)
    dsimp only [Pt.U, Pt.locs, Pt.cells, Pt.slots] at X5 l5 y5 z5 st5 hQ5
    subst y5 z5
    obtain ⟨rfl, N5, e5⟩ := hQ5
    have N7 : Fr n0 L5 := by rw [l5]; exact Fr.app N0 N5
    obtain ⟨T8, X8, e8, st8⟩ := getF X5 hx hZ hown (host := "") (Or.inl (hw _ (List.mem_of_getElem? (i := 75) rfl))) Via.refl e5 Bd0.2.2.1 (g := (mkF m 28 #[.val (.ref a1), .val (.int (Int32.ofNat (need))), .val (.int (Int32.ofNat (cap)))] [(.ref a1), (.int (Int32.ofNat ((cap + max (need - cap) (cap + 2))))), (.ref da), (.ref a1)])) rfl rfl (Jvm.hb hby own_d_jdk_68_method_9_code_28)
    refine own_of (T' := T8) (f' := (mkF m 32 #[.val (.ref a1), .val (.int (Int32.ofNat (need))), .val (.int (Int32.ofNat (cap)))] [(.int ((Int32.ofNat ((cap + max (need - cap) (cap + 2)))) <<< ((0 : Int32) &&& 31))), (.ref da), (.ref a1)])) (fun t_ k_ => (st5.trans (XS.aloadN X5.here hx rfl (Jvm.hb hby own_d_jdk_68_method_9_code_27) rfl rfl (st8 _ (XS.ishl X8.here hx rfl (Jvm.hb hby own_d_jdk_68_method_9_code_31) rfl k_))))) ?_
    rw [own_shl]
    obtain ⟨_, _, ⟨T9, L9, k9, n9⟩, -, X9, ⟨Lc9, hQ9, l9, y9, z9⟩, st9⟩ := Jvm.LawKit.callS X8 hx (y := (⟨"java/util/Arrays", "copyOf", "([BI)[B"⟩ : MethodName)) hown (mvT hZ (hw _ (List.mem_of_getElem? (i := 122) rfl))) (mvT hZ (hw _ (List.mem_of_getElem? (i := 123) rfl))) (mvT hZ (hw _ (List.mem_of_getElem? (i := 124) rfl))) (mvT hZ (hw _ (List.mem_of_getElem? (i := 125) rfl))) (by decide) (backOf (W := 1) (own_rm_cpo l Z a0 hw [] da (Int32.ofNat ((cap + max (need - cap) (cap + 2)))) k cap (cap + max (need - cap) (cap + 2)) (bs ++ List.replicate (cap - bs.length) (.int 0)) h0 n0 Z0 Bd0.2.2.2.2.2.1 (own_padlen bs cap Bd0.2.2.2.2.2.2) (by omega) hnc rfl) hZ (hw _ (List.mem_of_getElem? (i := 125) rfl)) (hw _ (List.mem_of_getElem? (i := 124) rfl)) (by decide) (by decide)) (g := (mkF m 32 #[.val (.ref a1), .val (.int (Int32.ofNat (need))), .val (.int (Int32.ofNat (cap)))] [(.int (Int32.ofNat ((cap + max (need - cap) (cap + 2))))), (.ref da), (.ref a1)])) rfl (by rw [hml]; rfl) (argsL := [(.ref da), (.int (Int32.ofNat ((cap + max (need - cap) (cap + 2)))))]) (rest := [(.ref a1)]) (lenOf own_pd_4 rfl) rfl (by show 2 * 0 + _ ≤ _; exact Nat.le_of_eq rfl) (Jvm.hb hby own_d_jdk_68_method_9_code_32) (fun _ _ => ⟨rfl, e8, Nat.le_of_ble_eq_true rfl, Nat.le_of_ble_eq_true rfl⟩)
    dsimp only [Pt.U, Pt.locs, Pt.cells, Pt.slots] at X9 l9 y9 z9 st9 hQ9
    subst y9 z9
    obtain ⟨b, kb, rfl, N9, K9, szb, Eb, Vb⟩ := hQ9
    have ne_a1_b : a1 ≠ b := Nat.ne_of_lt (Nat.lt_of_lt_of_le Bd0.2.1.lt szb)
    have ne_da_b : da ≠ b := Nat.ne_of_lt (Nat.lt_of_lt_of_le Bd0.2.2.2.2.1.lt szb)
    have g_b : n0 ≤ b := Nat.le_trans Z0 szb
    have sz_b : h0.size ≤ b := Nat.le_trans K0.1 szb
    have N10 : Fr n0 L9 := by rw [l9]; exact Fr.app N7 N9
    have f11 := K0.trans K9 all0
    have f12 := Nat.le_trans Z0 K9.1
    have f13 := Bd0.2.1.keep K9 nin0
    have f14 := Bd0.2.2.1.keep K9 nin0
    have f15 := Bd0.2.2.2.1.keep K9 nin0
    have f16 := Bd0.1.keep K9
    have f17 := Bd0.2.2.2.2.1.keep K9
    have f18 := Bd0.2.2.2.2.2.1.keep K9 nin0
    rw [own_padmore bs cap _ Bd0.2.2.2.2.2.2 (by omega)] at Vb
    obtain ⟨T19, h19, X19, e19, W19, st19⟩ := putF X9 hx hZ hown (host := "") (Or.inl (hw _ (List.mem_of_getElem? (i := 73) rfl))) Via.refl rfl f13 f16 (Or.inl (hw _ (List.mem_of_getElem? (i := 74) rfl))) (hw _ (List.mem_of_getElem? (i := 60) rfl)) (ty := (.array .byte)) (by decide) rfl rfl (g := (mkF m 35 #[.val (.ref a1), .val (.int (Int32.ofNat (need))), .val (.int (Int32.ofNat (cap)))] [(.ref b), (.ref a1)])) rfl rfl (Jvm.hb hby own_d_jdk_68_method_9_code_35)
    refine own_of (T' := T19) (f' := (mkF m 38 #[.val (.ref a1), .val (.int (Int32.ofNat (need))), .val (.int (Int32.ofNat (cap)))] [])) (fun t_ k_ => (st9 _ (st19 _ k_))) ?_
    have N19 := Fr.snoc X19 N10 g_a1
    have f20 := f11.wr W19 (Or.inl (List.mem_of_getElem? (i := 0) rfl))
    have f21 := Nat.le_trans f12 (Keep.of_wr W19).1
    have f22 := f13.same W19
    have f23 := f14.other W19 (Or.inr (slot_ne (Or.inl (hw _ (List.mem_of_getElem? (i := 76) rfl))) (Or.inl (hw _ (List.mem_of_getElem? (i := 74) rfl))) (by decide) (t := .byte) (t' := (.array .byte)) (by decide) (by decide)))
    have f24 := f15.other W19 (Or.inr (slot_ne (Or.inl (hw _ (List.mem_of_getElem? (i := 101) rfl))) (Or.inl (hw _ (List.mem_of_getElem? (i := 74) rfl))) (by decide) (t := .int) (t' := (.array .byte)) (by decide) (by decide)))
    have f25 := f16.wr W19
    have f26 := f17.wr W19
    have f27 := f18.other W19 (Ne.symm neBd)
    have f28 := Eb.wr W19
    have f29 := Vb.other W19 (Ne.symm ne_a1_b)
    obtain ⟨fs, hr, hrun, hended, hW, hsame⟩ := X19.leave (v := none) (fun _ => rfl)
    exact ⟨_, _, X19.returnOut hx Bd.returns (Jvm.hb hby own_d_jdk_68_method_9_code_38) hr, hrun, hended, _, _, rfl, (by show own_Q_eci Z a1 (Int32.ofNat (need)) da k cap bs need h0 n0 _ T19.heap _; rw [e19]; exact ⟨rfl, N19, f20, b, kb, Or.inr sz_b, by
          rw [eg]
          exact ⟨f25, f22, f23, f24, f28, f29, Nat.le_trans Bd0.2.2.2.2.2.2 (Nat.le_add_right _ _)⟩⟩), ⟨_, rfl⟩, hW, hsame.mono (by decide) (by decide)⟩
theorem own_ef_inf (m : MethodId) (a1 : Addr) (a2 : Addr) : entryFrame m #[(.ref a1), (.ref a2)] 2 = mkF m 0 #[.val (.ref a1), .val (.ref a2)] [] := by first | (simp [entryFrame, mkF, argsToLocals, Value.category]; done) | rfl
def own_Q_inf (Z : State) (a1 : Addr) (a2 : Addr) (G1 : Int32) (t : Addr) (k : ClassId) (cs : List Int32) (h0 : Heap) (n0 : Nat) (v : Option Value) (h : Heap) (L : List Loc) : Prop := v = none ∧ Fr n0 L ∧ h = h0
theorem own_d_jdk_68_method_71_code_0 : decode jdk_68_method_71_code 0 = .ok (.getstatic 18, 3) := by decide +kernel
theorem own_d_jdk_68_method_71_code_3 : decode jdk_68_method_71_code 3 = .ok (.ifCond .eq 18, 3) := by decide +kernel
theorem own_d_jdk_68_method_71_code_6 : decode jdk_68_method_71_code 6 = .ok (.aload_n 0, 1) := by decide +kernel
theorem own_d_jdk_68_method_71_code_7 : decode jdk_68_method_71_code 7 = .ok (.getfield 22, 3) := by decide +kernel
theorem own_d_jdk_68_method_71_code_10 : decode jdk_68_method_71_code 10 = .ok (.aload_n 1, 1) := by decide +kernel
theorem own_d_jdk_68_method_71_code_11 : decode jdk_68_method_71_code 11 = .ok (.invokevirtual 40, 3) := by decide +kernel
theorem own_d_jdk_68_method_71_code_14 : decode jdk_68_method_71_code 14 = .ok (.if_icmp .eq 7, 3) := by decide +kernel
theorem own_d_jdk_68_method_71_code_21 : decode jdk_68_method_71_code 21 = .ok (.return_, 1) := by decide +kernel
set_option maxRecDepth 65536 in
set_option maxHeartbeats 40000000 in
theorem own_rm_inf (l : Launch) (Z : State) (a0 : Array Value) (hw : ∀ d ∈ tables_1, d.before a0 Z = true) (ws : List Jvm.Cond) (a1 : Addr) (a2 : Addr) (G1 : Int32) (t : Addr) (k : ClassId) (cs : List Int32) (h0 : Heap) (n0 : Nat) (Z0 : n0 ≤ h0.size) (SC : Sta Z h0 "java/lang/String" "COMPACT_STRINGS" "Z" (.int G1)) (P5 : ¬ (G1 = (0 : Int32))) (F1 : Fld Z h0 a1 "java/lang/AbstractStringBuilder" "coder" "B" (.int 0)) (S : own_S Z h0 a2 t k cs) :
    MetFree l (⟨"java/lang/AbstractStringBuilder", "inflateIfNeededFor", "(Ljava/lang/String;)V"⟩ : MethodName) (head1 (Jvm.Cond.code (⟨"java/lang/AbstractStringBuilder", "inflateIfNeededFor", "(Ljava/lang/String;)V"⟩ : MethodName) jdk_68_method_71_code 2 none :: ws) ({ frames := 1, cells := 0, slots := 0, locals := 13 } : Room)) (fun a U => a = #[(.ref a1), (.ref a2)] ∧ Z.Warmed39 U.vm ∧ U.heap = h0) (fun _ _ _ _ _ => True) (fun _ U o U' => ∃ v L, o = .returned v ∧ own_Q_inf Z a1 a2 G1 t k cs h0 n0 v U'.heap L ∧ FrameEnd U o U' L ({ frames := 1, cells := 0, slots := 0, locals := 13 } : Room).cells ({ frames := 1, cells := 0, slots := 0, locals := 13 } : Room).slots) := by
  refine MetFree.of_bodySF (plainFor_of_name own_pn_3) hisR ?_
  intro p e s m args below meth c s₁ Bd hml0 hP hK
  obtain ⟨rfl, hZ, hh⟩ := hP
  have hx := Bd.exec
  have hby := Bd.bytes
  have hml : c.maxLocals = 2 := hml0
  have hown : s.vm.findClass "java/lang/AbstractStringBuilder" = some m.cls := findClass_of_methodNamed Bd.named
  have hnm := (name_of_methodNamed Bd.named Bd.method).1
  have X0 : Stand p l e ({ frames := 1, cells := 0, slots := 0, locals := 13 } : Room) s m #[(.ref a1), (.ref a2)] below meth c s₁ [] 0 0 := Stand.of_body Bd
  have e0 : s₁.heap = h0 := by rw [← hh, Bd.state]; rfl
  have N0 := Fr.nil n0
  refine own_start (own_ef_inf m a1 a2 ) ?_
  obtain ⟨T1, X1, e1, st1⟩ := getS2 X0 hx hZ hown (host := "") (Or.inl (hw _ (List.mem_of_getElem? (i := 72) rfl))) Via.refl e0 SC (g := (mkF m 0 #[.val (.ref a1), .val (.ref a2)] [])) rfl (Jvm.hb hby own_d_jdk_68_method_71_code_0)
  obtain ⟨T2, X2, e2, st2⟩ := getF X1 hx hZ hown (host := "") (Or.inl (hw _ (List.mem_of_getElem? (i := 75) rfl))) Via.refl e1 F1 (g := (mkF m 7 #[.val (.ref a1), .val (.ref a2)] [(.ref a1)])) rfl rfl (Jvm.hb hby own_d_jdk_68_method_71_code_7)
  refine own_of (T' := T2) (f' := (mkF m 11 #[.val (.ref a1), .val (.ref a2)] [(.ref a2), (.int (0 : Int32))])) (fun t_ k_ => (st1 _ (XS.ifNo X1.here hx rfl (Jvm.hb hby own_d_jdk_68_method_71_code_3) rfl ((if0 _ _).trans (feq P5).1) (XS.aloadN X1.here hx rfl (Jvm.hb hby own_d_jdk_68_method_71_code_6) rfl rfl (st2 _ (XS.aloadN X2.here hx rfl (Jvm.hb hby own_d_jdk_68_method_71_code_10) rfl rfl k_)))))) ?_
  obtain ⟨cq4, kq4, q4a, q4b, q4c⟩ := isOf hZ e2 S.1
  obtain ⟨_, _, ⟨T3, L3, k3, n3⟩, -, X3, ⟨Lc3, hQ3, l3, y3, z3⟩, st3⟩ := X2.virtualBack hx (y := (⟨"java/lang/String", "coder", "()B"⟩ : MethodName)) (z := (⟨"java/lang/String", "coder", "()B"⟩ : MethodName)) hown (mvT hZ (hw _ (List.mem_of_getElem? (i := 143) rfl))) (mvT hZ (hw _ (List.mem_of_getElem? (i := 96) rfl))) (notFace_of_selects (args := #[]) (mvT hZ (hw _ (List.mem_of_getElem? (i := 98) rfl)))) (mvT hZ (hw _ (List.mem_of_getElem? (i := 98) rfl))) (mvT hZ (hw _ (List.mem_of_getElem? (i := 97) rfl))) (by decide) (backOf (W := 1) (own_rm_cod l Z a0 hw [] a2 G1 h0 n0 Z0 SC P5 S.2.2.1) hZ (hw _ (List.mem_of_getElem? (i := 99) rfl)) (hw _ (List.mem_of_getElem? (i := 6) rfl)) (by decide) (by decide)) q4a q4c (g := (mkF m 11 #[.val (.ref a1), .val (.ref a2)] [(.ref a2), (.int (0 : Int32))])) rfl (by rw [hml]; rfl) (Steps.refl _) (argsL := []) (rest := [(.int (0 : Int32))]) (lenOf own_pd_0 rfl) rfl (by show 2 * 0 + _ ≤ _; exact Nat.le_of_eq rfl) (Jvm.hb hby own_d_jdk_68_method_71_code_11) (fun _ _ => ⟨rfl, e2, Nat.le_of_ble_eq_true rfl, Nat.le_of_ble_eq_true rfl⟩)
  dsimp only [Pt.U, Pt.locs, Pt.cells, Pt.slots] at X3 l3 y3 z3 st3 hQ3
  subst y3 z3
  obtain ⟨rfl, N3, e3⟩ := hQ3
  have N5 : Fr n0 L3 := by rw [l3]; exact Fr.app N0 N3
  refine own_of (T' := T3) (f' := (mkF m 21 #[.val (.ref a1), .val (.ref a2)] [])) (fun t_ k_ => (st3.trans (XS.icmpYes X3.here hx rfl (pc0 := 14) (pc' := 21) rfl (Jvm.hb hby own_d_jdk_68_method_71_code_14) rfl (teq rfl).1 (by decide) (by decide) k_))) ?_
  obtain ⟨fs, hr, hrun, hended, hW, hsame⟩ := X3.leave (v := none) (fun _ => rfl)
  exact ⟨_, _, X3.returnOut hx Bd.returns (Jvm.hb hby own_d_jdk_68_method_71_code_21) hr, hrun, hended, _, _, rfl, (by show own_Q_inf Z a1 a2 G1 t k cs h0 n0 _ T3.heap _; rw [e3]; exact ⟨rfl, N5, rfl⟩), ⟨_, rfl⟩, hW, hsame.mono (by decide) (by decide)⟩
theorem own_ef_geb (m : MethodId) (a1 : Addr) (a2 : Addr) (p3 : Int32) (p4 : Int32) : entryFrame m #[(.ref a1), (.ref a2), (.int p3), (.int p4)] 4 = mkF m 0 #[.val (.ref a1), .val (.ref a2), .val (.int p3), .val (.int p4)] [] := by first | (simp [entryFrame, mkF, argsToLocals, Value.category]; done) | rfl
def own_Q_geb (Z : State) (a1 : Addr) (a2 : Addr) (p3 : Int32) (p4 : Int32) (G1 : Int32) (t : Addr) (k : ClassId) (cs : List Int32) (kd : ClassId) (cap : Nat) (bs : List Value) (h0 : Heap) (n0 : Nat) (v : Option Value) (h : Heap) (L : List Loc) : Prop := v = none ∧ Fr n0 L ∧ Keep h0 h [a2] ∧ Arv Z h a2 kd .byte (Int32.ofNat (cap)) ((bs ++ own_by cs) ++ List.replicate (cap - (bs ++ own_by cs).length) (.int 0)) (.int 0)
theorem own_d_jdk_42_method_147_code_0 : decode jdk_42_method_147_code 0 = .ok (.aload_n 0, 1) := by decide +kernel
theorem own_d_jdk_42_method_147_code_1 : decode jdk_42_method_147_code 1 = .ok (.invokevirtual 335, 3) := by decide +kernel
theorem own_d_jdk_42_method_147_code_4 : decode jdk_42_method_147_code 4 = .ok (.iload_n 3, 1) := by decide +kernel
theorem own_d_jdk_42_method_147_code_5 : decode jdk_42_method_147_code 5 = .ok (.if_icmp .ne 23, 3) := by decide +kernel
theorem own_d_jdk_42_method_147_code_8 : decode jdk_42_method_147_code 8 = .ok (.aload_n 0, 1) := by decide +kernel
theorem own_d_jdk_42_method_147_code_9 : decode jdk_42_method_147_code 9 = .ok (.getfield 9, 3) := by decide +kernel
theorem own_d_jdk_42_method_147_code_12 : decode jdk_42_method_147_code 12 = .ok (.iconst 0, 1) := by decide +kernel
theorem own_d_jdk_42_method_147_code_13 : decode jdk_42_method_147_code 13 = .ok (.aload_n 1, 1) := by decide +kernel
theorem own_d_jdk_42_method_147_code_14 : decode jdk_42_method_147_code 14 = .ok (.iload_n 2, 1) := by decide +kernel
theorem own_d_jdk_42_method_147_code_15 : decode jdk_42_method_147_code 15 = .ok (.iload_n 3, 1) := by decide +kernel
theorem own_d_jdk_42_method_147_code_16 : decode jdk_42_method_147_code 16 = .ok (.ishl, 1) := by decide +kernel
theorem own_d_jdk_42_method_147_code_17 : decode jdk_42_method_147_code 17 = .ok (.aload_n 0, 1) := by decide +kernel
theorem own_d_jdk_42_method_147_code_18 : decode jdk_42_method_147_code 18 = .ok (.getfield 9, 3) := by decide +kernel
theorem own_d_jdk_42_method_147_code_21 : decode jdk_42_method_147_code 21 = .ok (.arraylength, 1) := by decide +kernel
theorem own_d_jdk_42_method_147_code_22 : decode jdk_42_method_147_code 22 = .ok (.invokestatic 212, 3) := by decide +kernel
theorem own_d_jdk_42_method_147_code_25 : decode jdk_42_method_147_code 25 = .ok (.goto 18, 3) := by decide +kernel
theorem own_d_jdk_42_method_147_code_43 : decode jdk_42_method_147_code 43 = .ok (.return_, 1) := by decide +kernel
set_option maxRecDepth 65536 in
set_option maxHeartbeats 40000000 in
theorem own_rm_geb (l : Launch) (Z : State) (a0 : Array Value) (hw : ∀ d ∈ tables_1, d.before a0 Z = true) (ws : List Jvm.Cond) (a1 : Addr) (a2 : Addr) (p3 : Int32) (p4 : Int32) (G1 : Int32) (t : Addr) (k : ClassId) (cs : List Int32) (kd : ClassId) (cap : Nat) (bs : List Value) (h0 : Heap) (n0 : Nat) (Z0 : n0 ≤ h0.size) (SC : Sta Z h0 "java/lang/String" "COMPACT_STRINGS" "Z" (.int G1)) (P5 : ¬ (G1 = (0 : Int32))) (S : own_S Z h0 a1 t k cs) (Vd : Arv Z h0 a2 kd .byte (Int32.ofNat (cap)) (bs ++ List.replicate (cap - bs.length) (.int 0)) (.int 0)) (hf : bs.length + cs.length ≤ cap) (h2 : cap < 400) (g_a2 : n0 ≤ a2) (E2 : Exa Z h0 a2 "[B") (hp3 : p3 = (Int32.ofNat (bs.length))) (hp4 : p4 = 0) :
    MetFree l (⟨"java/lang/String", "getBytes", "([BIB)V"⟩ : MethodName) (head1 (Jvm.Cond.code (⟨"java/lang/String", "getBytes", "([BIB)V"⟩ : MethodName) jdk_42_method_147_code 4 none :: ws) ({ frames := 1, cells := 0, slots := 0, locals := 18 } : Room)) (fun a U => a = #[(.ref a1), (.ref a2), (.int p3), (.int p4)] ∧ Z.Warmed39 U.vm ∧ U.heap = h0) (fun _ _ _ _ _ => True) (fun _ U o U' => ∃ v L, o = .returned v ∧ own_Q_geb Z a1 a2 p3 p4 G1 t k cs kd cap bs h0 n0 v U'.heap L ∧ FrameEnd U o U' L ({ frames := 1, cells := 0, slots := 0, locals := 18 } : Room).cells ({ frames := 1, cells := 0, slots := 0, locals := 18 } : Room).slots) := by
  refine MetFree.of_bodySF (plainFor_of_name own_pn_0) hisR ?_
  intro p e s m args below meth c s₁ Bd hml0 hP hK
  obtain ⟨rfl, hZ, hh⟩ := hP
  have hx := Bd.exec
  have hby := Bd.bytes
  have hml : c.maxLocals = 4 := hml0
  have hown : s.vm.findClass "java/lang/String" = some m.cls := findClass_of_methodNamed Bd.named
  have hnm := (name_of_methodNamed Bd.named Bd.method).1
  have X0 : Stand p l e ({ frames := 1, cells := 0, slots := 0, locals := 18 } : Room) s m #[(.ref a1), (.ref a2), (.int p3), (.int p4)] below meth c s₁ [] 0 0 := Stand.of_body Bd
  have e0 : s₁.heap = h0 := by rw [← hh, Bd.state]; rfl
  have N0 := Fr.nil n0
  refine own_start (own_ef_geb m a1 a2 p3 p4 ) ?_
  subst hp3 hp4
  have K0 : Keep h0 h0 [a2] := Keep.refl _ _
  have ne12 : a1 ≠ a2 := S.1.ne E2 (by decide)
  refine own_of (T' := s₁) (f' := (mkF m 1 #[.val (.ref a1), .val (.ref a2), .val (.int (Int32.ofNat (bs.length))), .val (.int (0 : Int32))] [(.ref a1)])) (fun t_ k_ => (XS.aloadN X0.here hx rfl (Jvm.hb hby own_d_jdk_42_method_147_code_0) rfl rfl k_)) ?_
  obtain ⟨cq2, kq2, q2a, q2b, q2c⟩ := isOf hZ e0 S.1
  obtain ⟨_, _, ⟨T1, L1, k1, n1⟩, -, X1, ⟨Lc1, hQ1, l1, y1, z1⟩, st1⟩ := X0.virtualBack hx (y := (⟨"java/lang/String", "coder", "()B"⟩ : MethodName)) (z := (⟨"java/lang/String", "coder", "()B"⟩ : MethodName)) hown (mvT hZ (hw _ (List.mem_of_getElem? (i := 95) rfl))) (mvT hZ (hw _ (List.mem_of_getElem? (i := 96) rfl))) (notFace_of_selects (args := #[]) (mvT hZ (hw _ (List.mem_of_getElem? (i := 98) rfl)))) (mvT hZ (hw _ (List.mem_of_getElem? (i := 98) rfl))) (mvT hZ (hw _ (List.mem_of_getElem? (i := 97) rfl))) (by decide) (backOf (W := 0) (own_rm_cod l Z a0 hw [] a1 G1 h0 n0 Z0 SC P5 S.2.2.1) hZ (hw _ (List.mem_of_getElem? (i := 99) rfl)) (hw _ (List.mem_of_getElem? (i := 6) rfl)) (by decide) (by decide)) q2a q2c (g := (mkF m 1 #[.val (.ref a1), .val (.ref a2), .val (.int (Int32.ofNat (bs.length))), .val (.int (0 : Int32))] [(.ref a1)])) rfl (by rw [hml]; rfl) (Steps.refl _) (argsL := []) (rest := []) (lenOf own_pd_0 rfl) rfl (by show 2 * 0 + _ ≤ _; exact Nat.le_of_eq rfl) (Jvm.hb hby own_d_jdk_42_method_147_code_1) (fun _ _ => ⟨rfl, e0, Nat.le_of_ble_eq_true rfl, Nat.le_of_ble_eq_true rfl⟩)
  dsimp only [Pt.U, Pt.locs, Pt.cells, Pt.slots] at X1 l1 y1 z1 st1 hQ1
  subst y1 z1
  obtain ⟨rfl, N1, e1⟩ := hQ1
  have N3 : Fr n0 L1 := by rw [l1]; exact Fr.app N0 N1
  obtain ⟨T4, X4, e4, st4⟩ := getF X1 hx hZ hown (host := "") (Or.inl (hw _ (List.mem_of_getElem? (i := 26) rfl))) Via.refl e1 S.2.1 (g := (mkF m 9 #[.val (.ref a1), .val (.ref a2), .val (.int (Int32.ofNat (bs.length))), .val (.int (0 : Int32))] [(.ref a1)])) rfl rfl (Jvm.hb hby own_d_jdk_42_method_147_code_9)
  refine own_of (T' := T4) (f' := (mkF m 15 #[.val (.ref a1), .val (.ref a2), .val (.int (Int32.ofNat (bs.length))), .val (.int (0 : Int32))] [(.int (Int32.ofNat (bs.length))), (.ref a2), (.int (0 : Int32)), (.ref t)])) (fun t_ k_ => (st1.trans (XS.iloadN X1.here hx rfl (Jvm.hb hby own_d_jdk_42_method_147_code_4) rfl (XS.icmpNo X1.here hx rfl (Jvm.hb hby own_d_jdk_42_method_147_code_5) rfl (teq rfl).2 (XS.aloadN X1.here hx rfl (Jvm.hb hby own_d_jdk_42_method_147_code_8) rfl rfl (st4 _ (XS.iconst X4.here hx rfl (Jvm.hb hby own_d_jdk_42_method_147_code_12) (XS.aloadN X4.here hx rfl (Jvm.hb hby own_d_jdk_42_method_147_code_13) rfl rfl (XS.iloadN X4.here hx rfl (Jvm.hb hby own_d_jdk_42_method_147_code_14) rfl k_))))))))) ?_
  refine own_of (T' := T4) (f' := (mkF m 17 #[.val (.ref a1), .val (.ref a2), .val (.int (Int32.ofNat (bs.length))), .val (.int (0 : Int32))] [(.int ((Int32.ofNat (bs.length)) <<< ((0 : Int32) &&& 31))), (.ref a2), (.int (0 : Int32)), (.ref t)])) (fun t_ k_ => (XS.iloadN X4.here hx rfl (Jvm.hb hby own_d_jdk_42_method_147_code_15) rfl (XS.ishl X4.here hx rfl (Jvm.hb hby own_d_jdk_42_method_147_code_16) rfl k_))) ?_
  rw [own_shl]
  obtain ⟨T5, X5, e5, st5⟩ := getF X4 hx hZ hown (host := "") (Or.inl (hw _ (List.mem_of_getElem? (i := 26) rfl))) Via.refl e4 S.2.1 (g := (mkF m 18 #[.val (.ref a1), .val (.ref a2), .val (.int (Int32.ofNat (bs.length))), .val (.int (0 : Int32))] [(.ref a1), (.int (Int32.ofNat (bs.length))), (.ref a2), (.int (0 : Int32)), (.ref t)])) rfl rfl (Jvm.hb hby own_d_jdk_42_method_147_code_18)
  refine own_of (T' := T5) (f' := (mkF m 21 #[.val (.ref a1), .val (.ref a2), .val (.int (Int32.ofNat (bs.length))), .val (.int (0 : Int32))] [(.ref t), (.int (Int32.ofNat (bs.length))), (.ref a2), (.int (0 : Int32)), (.ref t)])) (fun t_ k_ => (XS.aloadN X4.here hx rfl (Jvm.hb hby own_d_jdk_42_method_147_code_17) rfl rfl (st5 _ k_))) ?_
  obtain ⟨cl6, Ar6, -, Sz6, Nn6, -⟩ := id S.2.2.2
  refine own_of (T' := T5) (f' := (mkF m 22 #[.val (.ref a1), .val (.ref a2), .val (.int (Int32.ofNat (bs.length))), .val (.int (0 : Int32))] [(.int (cl6.slots.size).toInt32), (.int (Int32.ofNat (bs.length))), (.ref a2), (.int (0 : Int32)), (.ref t)])) (fun t_ k_ => (X5.arraylength hx (by first | (rw [e5]; exact Ar6.1) | exact Ar6.1) (State.isArrayOf_alike hZ.alike Ar6.2.1) (g := (mkF m 21 #[.val (.ref a1), .val (.ref a2), .val (.int (Int32.ofNat (bs.length))), .val (.int (0 : Int32))] [(.ref t), (.int (Int32.ofNat (bs.length))), (.ref a2), (.int (0 : Int32)), (.ref t)])) rfl rfl (Jvm.hb hby own_d_jdk_42_method_147_code_21) _ k_)) ?_
  rw [len_of Sz6 Nn6]
  obtain ⟨T7, h7, L7, X7, e7, N7, K7, V7, st7⟩ := Jvm.RoadKit.cpA X5 hx hZ hown (hw _ (List.mem_of_getElem? (i := 149) rfl)) (hw _ (List.mem_of_getElem? (i := 132) rfl)) (hw _ (List.mem_of_getElem? (i := 130) rfl)) (hw _ (List.mem_of_getElem? (i := 131) rfl)) e5 S.2.2.2 Vd (Or.inl ⟨rfl, rfl⟩) (sp := (0 : Int32)) (dp := (Int32.ofNat (bs.length))) (nn := (Int32.ofNat (cs.length))) (by decide) (own_ng _ (by omega)) (own_ng _ (by omega)) (by rw [own_cl cs.length (by omega)]; show 0 + cs.length ≤ cs.length; omega) (by rw [own_cl cs.length (by omega), own_cl bs.length (by omega), own_cl cap (by omega)]; exact hf) (us := (own_by cs)) (by rw [own_cl cs.length (by omega)]; exact own_rng (own_by cs) _ _ (own_byl cs)) (by rw [own_cl cs.length (by omega), own_cl bs.length (by omega), own_padlen bs cap (by omega)]; exact hf) N3 g_a2 (g := (mkF m 22 #[.val (.ref a1), .val (.ref a2), .val (.int (Int32.ofNat (bs.length))), .val (.int (0 : Int32))] [(.int (Int32.ofNat (cs.length))), (.int (Int32.ofNat (bs.length))), (.ref a2), (.int (0 : Int32)), (.ref t)])) rfl (by rw [hml]; rfl) (rest := []) rfl (Jvm.hb hby own_d_jdk_42_method_147_code_22) (by decide) (W := 0) (by show 2 * 0 + _ ≤ _; exact Nat.le_of_eq rfl) (by decide)
  have f8 := K0.trans K7 (allS (Or.inl (List.mem_of_getElem? (i := 0) rfl)) all0)
  have f9 := Nat.le_trans Z0 K7.1
  have f10 := S.1.keep K7
  have f11 := S.2.1.keep K7 (ninS ne12 nin0)
  have f12 := S.2.2.1.keep K7 (ninS ne12 nin0)
  have f13 := E2.keep K7
  refine own_of (T' := T7) (f' := (mkF m 25 #[.val (.ref a1), .val (.ref a2), .val (.int (Int32.ofNat (bs.length))), .val (.int (0 : Int32))] [])) (fun t_ k_ => (st7 _ k_)) ?_
  have Vn : Arv Z h7 a2 kd .byte (Int32.ofNat (cap)) ((bs ++ own_by cs) ++ List.replicate (cap - (bs ++ own_by cs).length) (.int 0)) (.int 0) := by
    have q_ := V7
    rw [own_cl cs.length (by omega), own_cl bs.length (by omega)] at q_
    have e_ := own_put bs (own_by cs) cap (by rw [own_byl]; exact hf)
    rw [own_byl] at e_
    rw [e_] at q_
    exact q_
  refine own_of (T' := T7) (f' := (mkF m 43 #[.val (.ref a1), .val (.ref a2), .val (.int (Int32.ofNat (bs.length))), .val (.int (0 : Int32))] [])) (fun t_ k_ => (XS.goto X7.here hx rfl (pc0 := 25) (pc' := 43) rfl (Jvm.hb hby own_d_jdk_42_method_147_code_25) (by decide) (by decide) k_)) ?_
  obtain ⟨fs, hr, hrun, hended, hW, hsame⟩ := X7.leave (v := none) (fun _ => rfl)
  exact ⟨_, _, X7.returnOut hx Bd.returns (Jvm.hb hby own_d_jdk_42_method_147_code_43) hr, hrun, hended, _, _, rfl, (by show own_Q_geb Z a1 a2 (Int32.ofNat (bs.length)) 0 G1 t k cs kd cap bs h0 n0 _ T7.heap _; rw [e7]; exact ⟨rfl, N7, f8, Vn⟩), ⟨_, rfl⟩, hW, hsame.mono (by decide) (by decide)⟩
theorem own_ef_put (m : MethodId) (a1 : Addr) (p2 : Int32) (a3 : Addr) : entryFrame m #[(.ref a1), (.int p2), (.ref a3)] 3 = mkF m 0 #[.val (.ref a1), .val (.int p2), .val (.ref a3)] [] := by first | (simp [entryFrame, mkF, argsToLocals, Value.category]; done) | rfl
def own_Q_put (Z : State) (a1 : Addr) (p2 : Int32) (a3 : Addr) (G1 : Int32) (t : Addr) (kt : ClassId) (cs : List Int32) (da : Addr) (k : ClassId) (cap : Nat) (bs : List Value) (h0 : Heap) (n0 : Nat) (v : Option Value) (h : Heap) (L : List Loc) : Prop := v = none ∧ Fr n0 L ∧ Keep h0 h [da] ∧ Exa Z h da "[B" ∧ Arv Z h da k .byte (Int32.ofNat (cap)) ((bs ++ own_by cs) ++ List.replicate (cap - (bs ++ own_by cs).length) (.int 0)) (.int 0)
theorem own_d_jdk_68_method_73_code_0 : decode jdk_68_method_73_code 0 = .ok (.aload_n 0, 1) := by decide +kernel
theorem own_d_jdk_68_method_73_code_1 : decode jdk_68_method_73_code 1 = .ok (.aload_n 2, 1) := by decide +kernel
theorem own_d_jdk_68_method_73_code_2 : decode jdk_68_method_73_code 2 = .ok (.invokevirtual 397, 3) := by decide +kernel
theorem own_pd_5 : parseMethodDescriptor "(Ljava/lang/String;)V" = some ⟨[(.object "java/lang/String")], none⟩ := by decide +kernel
theorem own_d_jdk_68_method_73_code_5 : decode jdk_68_method_73_code 5 = .ok (.aload_n 2, 1) := by decide +kernel
theorem own_d_jdk_68_method_73_code_6 : decode jdk_68_method_73_code 6 = .ok (.aload_n 0, 1) := by decide +kernel
theorem own_d_jdk_68_method_73_code_7 : decode jdk_68_method_73_code 7 = .ok (.getfield 15, 3) := by decide +kernel
theorem own_d_jdk_68_method_73_code_10 : decode jdk_68_method_73_code 10 = .ok (.iload_n 1, 1) := by decide +kernel
theorem own_d_jdk_68_method_73_code_11 : decode jdk_68_method_73_code 11 = .ok (.aload_n 0, 1) := by decide +kernel
theorem own_d_jdk_68_method_73_code_12 : decode jdk_68_method_73_code 12 = .ok (.getfield 22, 3) := by decide +kernel
theorem own_d_jdk_68_method_73_code_15 : decode jdk_68_method_73_code 15 = .ok (.invokevirtual 399, 3) := by decide +kernel
theorem own_pd_6 : parseMethodDescriptor "([BIB)V" = some ⟨[(.array .byte), .int, .byte], none⟩ := by decide +kernel
theorem own_d_jdk_68_method_73_code_18 : decode jdk_68_method_73_code 18 = .ok (.return_, 1) := by decide +kernel
set_option maxRecDepth 65536 in
set_option maxHeartbeats 40000000 in
theorem own_rm_put (l : Launch) (Z : State) (a0 : Array Value) (hw : ∀ d ∈ tables_1, d.before a0 Z = true) (ws : List Jvm.Cond) (a1 : Addr) (p2 : Int32) (a3 : Addr) (G1 : Int32) (t : Addr) (kt : ClassId) (cs : List Int32) (da : Addr) (k : ClassId) (cap : Nat) (bs : List Value) (h0 : Heap) (n0 : Nat) (Z0 : n0 ≤ h0.size) (SC : Sta Z h0 "java/lang/String" "COMPACT_STRINGS" "Z" (.int G1)) (P5 : ¬ (G1 = (0 : Int32))) (S : own_S Z h0 a3 t kt cs) (Bd0 : own_B Z h0 a1 da k cap bs) (hf : bs.length + cs.length ≤ cap) (h2 : cap < 400) (g_da : n0 ≤ da) (hp2 : p2 = (Int32.ofNat (bs.length))) :
    MetFree l (⟨"java/lang/AbstractStringBuilder", "putStringAt", "(ILjava/lang/String;)V"⟩ : MethodName) (head1 (Jvm.Cond.code (⟨"java/lang/AbstractStringBuilder", "putStringAt", "(ILjava/lang/String;)V"⟩ : MethodName) jdk_68_method_73_code 3 none :: ws) ({ frames := 2, cells := 0, slots := 0, locals := 33 } : Room)) (fun a U => a = #[(.ref a1), (.int p2), (.ref a3)] ∧ Z.Warmed39 U.vm ∧ U.heap = h0) (fun _ _ _ _ _ => True) (fun _ U o U' => ∃ v L, o = .returned v ∧ own_Q_put Z a1 p2 a3 G1 t kt cs da k cap bs h0 n0 v U'.heap L ∧ FrameEnd U o U' L ({ frames := 2, cells := 0, slots := 0, locals := 33 } : Room).cells ({ frames := 2, cells := 0, slots := 0, locals := 33 } : Room).slots) := by
  refine MetFree.of_bodySF (plainFor_of_name own_pn_3) hisR ?_
  intro p e s m args below meth c s₁ Bd hml0 hP hK
  obtain ⟨rfl, hZ, hh⟩ := hP
  have hx := Bd.exec
  have hby := Bd.bytes
  have hml : c.maxLocals = 3 := hml0
  have hown : s.vm.findClass "java/lang/AbstractStringBuilder" = some m.cls := findClass_of_methodNamed Bd.named
  have hnm := (name_of_methodNamed Bd.named Bd.method).1
  have X0 : Stand p l e ({ frames := 2, cells := 0, slots := 0, locals := 33 } : Room) s m #[(.ref a1), (.int p2), (.ref a3)] below meth c s₁ [] 0 0 := Stand.of_body Bd
  have e0 : s₁.heap = h0 := by rw [← hh, Bd.state]; rfl
  have N0 := Fr.nil n0
  refine own_start (own_ef_put m a1 p2 a3 ) ?_
  subst hp2
  have K0 : Keep h0 h0 [da] := Keep.refl _ _
  have neBd : a1 ≠ da := Bd0.1.ne Bd0.2.2.2.2.1 (by decide)
  refine own_of (T' := s₁) (f' := (mkF m 2 #[.val (.ref a1), .val (.int (Int32.ofNat (bs.length))), .val (.ref a3)] [(.ref a3), (.ref a1)])) (fun t_ k_ => (XS.aloadN X0.here hx rfl (Jvm.hb hby own_d_jdk_68_method_73_code_0) rfl rfl (XS.aloadN X0.here hx rfl (Jvm.hb hby own_d_jdk_68_method_73_code_1) rfl rfl k_))) ?_
  obtain ⟨cq2, q2, q2'⟩ := Bd0.1.cell
  obtain ⟨_, _, ⟨T1, L1, k1, n1⟩, -, X1, ⟨Lc1, hQ1, l1, y1, z1⟩, st1⟩ := X0.privateBack hx (y := (⟨"java/lang/AbstractStringBuilder", "inflateIfNeededFor", "(Ljava/lang/String;)V"⟩ : MethodName)) hown (mvT hZ (hw _ (List.mem_of_getElem? (i := 138) rfl))) (mvT hZ (hw _ (List.mem_of_getElem? (i := 139) rfl))) (own_selP (mvT hZ (hw _ (List.mem_of_getElem? (i := 141) rfl))) (Cond.privateMethod_at (mvP hZ (hw _ (List.mem_of_getElem? (i := 140) rfl)) (args := #[]))) (mvT hZ (hw _ (List.mem_of_getElem? (i := 139) rfl))) (by decide)) (Cond.privateMethod_at (mvP hZ (hw _ (List.mem_of_getElem? (i := 140) rfl)) (args := #[]))) (mvT hZ (hw _ (List.mem_of_getElem? (i := 142) rfl))) (by decide) (backOf (W := 0) (own_rm_inf l Z a0 hw [] a1 a3 G1 t kt cs h0 n0 Z0 SC P5 Bd0.2.2.1 S) hZ (hw _ (List.mem_of_getElem? (i := 142) rfl)) (hw _ (List.mem_of_getElem? (i := 69) rfl)) (by decide) (by decide)) (g := (mkF m 2 #[.val (.ref a1), .val (.int (Int32.ofNat (bs.length))), .val (.ref a3)] [(.ref a3), (.ref a1)])) rfl (by rw [hml]; rfl) (Steps.refl _) (a := a1) (by rw [e0]; exact q2) q2' (argsL := [(.ref a3)]) (rest := []) (lenOf own_pd_5 rfl) rfl (by show 2 * 0 + _ ≤ _; exact Nat.le_of_eq rfl) (Jvm.hb hby own_d_jdk_68_method_73_code_2) (fun _ _ => ⟨rfl, e0, Nat.le_of_ble_eq_true rfl, Nat.le_of_ble_eq_true rfl⟩)
  dsimp only [Pt.U, Pt.locs, Pt.cells, Pt.slots] at X1 l1 y1 z1 st1 hQ1
  subst y1 z1
  obtain ⟨rfl, N1, e1⟩ := hQ1
  have N3 : Fr n0 L1 := by rw [l1]; exact Fr.app N0 N1
  obtain ⟨T4, X4, e4, st4⟩ := getF X1 hx hZ hown (host := "") (Or.inl (hw _ (List.mem_of_getElem? (i := 73) rfl))) Via.refl e1 Bd0.2.1 (g := (mkF m 7 #[.val (.ref a1), .val (.int (Int32.ofNat (bs.length))), .val (.ref a3)] [(.ref a1), (.ref a3)])) rfl rfl (Jvm.hb hby own_d_jdk_68_method_73_code_7)
  obtain ⟨T5, X5, e5, st5⟩ := getF X4 hx hZ hown (host := "") (Or.inl (hw _ (List.mem_of_getElem? (i := 75) rfl))) Via.refl e4 Bd0.2.2.1 (g := (mkF m 12 #[.val (.ref a1), .val (.int (Int32.ofNat (bs.length))), .val (.ref a3)] [(.ref a1), (.int (Int32.ofNat (bs.length))), (.ref da), (.ref a3)])) rfl rfl (Jvm.hb hby own_d_jdk_68_method_73_code_12)
  refine own_of (T' := T5) (f' := (mkF m 15 #[.val (.ref a1), .val (.int (Int32.ofNat (bs.length))), .val (.ref a3)] [(.int (0 : Int32)), (.int (Int32.ofNat (bs.length))), (.ref da), (.ref a3)])) (fun t_ k_ => (st1.trans (XS.aloadN X1.here hx rfl (Jvm.hb hby own_d_jdk_68_method_73_code_5) rfl rfl (XS.aloadN X1.here hx rfl (Jvm.hb hby own_d_jdk_68_method_73_code_6) rfl rfl (st4 _ (XS.iloadN X4.here hx rfl (Jvm.hb hby own_d_jdk_68_method_73_code_10) rfl (XS.aloadN X4.here hx rfl (Jvm.hb hby own_d_jdk_68_method_73_code_11) rfl rfl (st5 _ k_)))))))) ?_
  obtain ⟨cq7, kq7, q7a, q7b, q7c⟩ := isOf hZ e5 S.1
  obtain ⟨_, _, ⟨T6, L6, k6, n6⟩, -, X6, ⟨Lc6, hQ6, l6, y6, z6⟩, st6⟩ := X5.virtualBack hx (y := (⟨"java/lang/String", "getBytes", "([BIB)V"⟩ : MethodName)) (z := (⟨"java/lang/String", "getBytes", "([BIB)V"⟩ : MethodName)) hown (mvT hZ (hw _ (List.mem_of_getElem? (i := 144) rfl))) (mvT hZ (hw _ (List.mem_of_getElem? (i := 145) rfl))) (notFace_of_selects (args := #[]) (mvT hZ (hw _ (List.mem_of_getElem? (i := 147) rfl)))) (mvT hZ (hw _ (List.mem_of_getElem? (i := 147) rfl))) (mvT hZ (hw _ (List.mem_of_getElem? (i := 146) rfl))) (by decide) (backOf (W := 0) (own_rm_geb l Z a0 hw [] a3 da (Int32.ofNat (bs.length)) (0 : Int32) G1 t kt cs k cap bs h0 n0 Z0 SC P5 S Bd0.2.2.2.2.2.1 hf h2 g_da Bd0.2.2.2.2.1 rfl rfl) hZ (hw _ (List.mem_of_getElem? (i := 148) rfl)) (hw _ (List.mem_of_getElem? (i := 6) rfl)) (by decide) (by decide)) q7a q7c (g := (mkF m 15 #[.val (.ref a1), .val (.int (Int32.ofNat (bs.length))), .val (.ref a3)] [(.int (0 : Int32)), (.int (Int32.ofNat (bs.length))), (.ref da), (.ref a3)])) rfl (by rw [hml]; rfl) (Steps.refl _) (argsL := [(.ref da), (.int (Int32.ofNat (bs.length))), (.int (0 : Int32))]) (rest := []) (lenOf own_pd_6 rfl) rfl (by show 2 * 0 + _ ≤ _; exact Nat.le_of_eq rfl) (Jvm.hb hby own_d_jdk_68_method_73_code_15) (fun _ _ => ⟨rfl, e5, Nat.le_of_ble_eq_true rfl, Nat.le_of_ble_eq_true rfl⟩)
  dsimp only [Pt.U, Pt.locs, Pt.cells, Pt.slots] at X6 l6 y6 z6 st6 hQ6
  subst y6 z6
  obtain ⟨rfl, N6, K6, Vn⟩ := hQ6
  have N8 : Fr n0 L6 := by rw [l6]; exact Fr.app N3 N6
  have f9 := K0.trans K6 (allS (Or.inl (List.mem_of_getElem? (i := 0) rfl)) all0)
  have f10 := Nat.le_trans Z0 K6.1
  have f11 := Bd0.2.1.keep K6 (ninS neBd nin0)
  have f12 := Bd0.2.2.1.keep K6 (ninS neBd nin0)
  have f13 := Bd0.2.2.2.1.keep K6 (ninS neBd nin0)
  have f14 := Bd0.1.keep K6
  have f15 := Bd0.2.2.2.2.1.keep K6
  have f17 := own_stakeep SC K6 (allS (own_plainE Bd0.2.2.2.2.1) all0)
  refine own_of (T' := T6) (f' := (mkF m 18 #[.val (.ref a1), .val (.int (Int32.ofNat (bs.length))), .val (.ref a3)] [])) (fun t_ k_ => (st6.trans k_)) ?_
  obtain ⟨fs, hr, hrun, hended, hW, hsame⟩ := X6.leave (v := none) (fun _ => rfl)
  exact ⟨_, _, X6.returnOut hx Bd.returns (Jvm.hb hby own_d_jdk_68_method_73_code_18) hr, hrun, hended, _, _, rfl, (by show own_Q_put Z a1 (Int32.ofNat (bs.length)) a3 G1 t kt cs da k cap bs h0 n0 _ T6.heap _; exact ⟨rfl, N8, f9, f15, Vn⟩), ⟨_, rfl⟩, hW, hsame.mono (by decide) (by decide)⟩
theorem own_ef_ail (m : MethodId) (a1 : Addr) : entryFrame m #[(.ref a1)] 1 = mkF m 0 #[.val (.ref a1)] [] := by first | (simp [entryFrame, mkF, argsToLocals, Value.category]; done) | rfl
def own_Q_ail (Z : State) (a1 : Addr) (G1 : Int32) (h0 : Heap) (n0 : Nat) (v : Option Value) (h : Heap) (L : List Loc) : Prop := v = some (.int 1) ∧ Fr n0 L ∧ h = h0
theorem own_d_jdk_68_method_68_code_0 : decode jdk_68_method_68_code 0 = .ok (.getstatic 18, 3) := by decide +kernel
theorem own_d_jdk_68_method_68_code_3 : decode jdk_68_method_68_code 3 = .ok (.ifCond .eq 14, 3) := by decide +kernel
theorem own_d_jdk_68_method_68_code_6 : decode jdk_68_method_68_code 6 = .ok (.aload_n 0, 1) := by decide +kernel
theorem own_d_jdk_68_method_68_code_7 : decode jdk_68_method_68_code 7 = .ok (.getfield 22, 3) := by decide +kernel
theorem own_d_jdk_68_method_68_code_10 : decode jdk_68_method_68_code 10 = .ok (.ifCond .ne 7, 3) := by decide +kernel
theorem own_d_jdk_68_method_68_code_13 : decode jdk_68_method_68_code 13 = .ok (.iconst 1, 1) := by decide +kernel
theorem own_d_jdk_68_method_68_code_14 : decode jdk_68_method_68_code 14 = .ok (.goto 4, 3) := by decide +kernel
theorem own_d_jdk_68_method_68_code_18 : decode jdk_68_method_68_code 18 = .ok (.ireturn, 1) := by decide +kernel
set_option maxRecDepth 65536 in
set_option maxHeartbeats 40000000 in
theorem own_rm_ail (l : Launch) (Z : State) (a0 : Array Value) (hw : ∀ d ∈ tables_1, d.before a0 Z = true) (ws : List Jvm.Cond) (a1 : Addr) (G1 : Int32) (h0 : Heap) (n0 : Nat) (Z0 : n0 ≤ h0.size) (SC : Sta Z h0 "java/lang/String" "COMPACT_STRINGS" "Z" (.int G1)) (P5 : ¬ (G1 = (0 : Int32))) (F1 : Fld Z h0 a1 "java/lang/AbstractStringBuilder" "coder" "B" (.int 0)) :
    MetFree l (⟨"java/lang/AbstractStringBuilder", "isLatin1", "()Z"⟩ : MethodName) (head1 (Jvm.Cond.code (⟨"java/lang/AbstractStringBuilder", "isLatin1", "()Z"⟩ : MethodName) jdk_68_method_68_code 1 (some .boolean) :: ws) ({ frames := 0, cells := 0, slots := 0, locals := 0 } : Room)) (fun a U => a = #[(.ref a1)] ∧ Z.Warmed39 U.vm ∧ U.heap = h0) (fun _ _ _ _ _ => True) (fun _ U o U' => ∃ v L, o = .returned v ∧ own_Q_ail Z a1 G1 h0 n0 v U'.heap L ∧ FrameEnd U o U' L ({ frames := 0, cells := 0, slots := 0, locals := 0 } : Room).cells ({ frames := 0, cells := 0, slots := 0, locals := 0 } : Room).slots) := by
  refine MetFree.of_bodySF (plainFor_of_name own_pn_3) hisR ?_
  intro p e s m args below meth c s₁ Bd hml0 hP hK
  obtain ⟨rfl, hZ, hh⟩ := hP
  have hx := Bd.exec
  have hby := Bd.bytes
  have hml : c.maxLocals = 1 := hml0
  have hown : s.vm.findClass "java/lang/AbstractStringBuilder" = some m.cls := findClass_of_methodNamed Bd.named
  have hnm := (name_of_methodNamed Bd.named Bd.method).1
  have X0 : Stand p l e ({ frames := 0, cells := 0, slots := 0, locals := 0 } : Room) s m #[(.ref a1)] below meth c s₁ [] 0 0 := Stand.of_body Bd
  have e0 : s₁.heap = h0 := by rw [← hh, Bd.state]; rfl
  have N0 := Fr.nil n0
  refine own_start (own_ef_ail m a1 ) ?_
  obtain ⟨T1, X1, e1, st1⟩ := getS2 X0 hx hZ hown (host := "") (Or.inl (hw _ (List.mem_of_getElem? (i := 72) rfl))) Via.refl e0 SC (g := (mkF m 0 #[.val (.ref a1)] [])) rfl (Jvm.hb hby own_d_jdk_68_method_68_code_0)
  obtain ⟨T2, X2, e2, st2⟩ := getF X1 hx hZ hown (host := "") (Or.inl (hw _ (List.mem_of_getElem? (i := 75) rfl))) Via.refl e1 F1 (g := (mkF m 7 #[.val (.ref a1)] [(.ref a1)])) rfl rfl (Jvm.hb hby own_d_jdk_68_method_68_code_7)
  refine own_of (T' := T2) (f' := (mkF m 18 #[.val (.ref a1)] [(.int (1 : Int32))])) (fun t_ k_ => (st1 _ (XS.ifNo X1.here hx rfl (Jvm.hb hby own_d_jdk_68_method_68_code_3) rfl ((if0 _ _).trans (feq P5).1) (XS.aloadN X1.here hx rfl (Jvm.hb hby own_d_jdk_68_method_68_code_6) rfl rfl (st2 _ (XS.ifNo X2.here hx rfl (Jvm.hb hby own_d_jdk_68_method_68_code_10) rfl ((if0 _ _).trans (teq rfl).2) (XS.iconst X2.here hx rfl (Jvm.hb hby own_d_jdk_68_method_68_code_13) (XS.goto X2.here hx rfl (pc0 := 14) (pc' := 18) rfl (Jvm.hb hby own_d_jdk_68_method_68_code_14) (by decide) (by decide) k_)))))))) ?_
  obtain ⟨fs, hr, hrun, hended, hW, hsame⟩ := X2.leave (v := some (.int (1 : Int32))) (fun h => by rw [Bd.returns] at h; cases h)
  exact ⟨_, _, retN X2 hx (t := .boolean) Bd.returns (by simp) (Jvm.hb hby own_d_jdk_68_method_68_code_18) hr, hrun, hended, _, _, rfl, (by show own_Q_ail Z a1 G1 h0 n0 _ T2.heap _; rw [e2]; exact ⟨rfl, N0, rfl⟩), ⟨_, rfl⟩, hW, hsame.mono (by decide) (by decide)⟩
theorem own_ef_gva (m : MethodId) (a1 : Addr) : entryFrame m #[(.ref a1)] 1 = mkF m 0 #[.val (.ref a1)] [] := by first | (simp [entryFrame, mkF, argsToLocals, Value.category]; done) | rfl
def own_Q_gva (Z : State) (a1 : Addr) (da : Addr) (h0 : Heap) (n0 : Nat) (v : Option Value) (h : Heap) (L : List Loc) : Prop := v = some (.ref da) ∧ Fr n0 L ∧ h = h0
theorem own_d_jdk_68_method_64_code_0 : decode jdk_68_method_64_code 0 = .ok (.aload_n 0, 1) := by decide +kernel
theorem own_d_jdk_68_method_64_code_1 : decode jdk_68_method_64_code 1 = .ok (.getfield 15, 3) := by decide +kernel
theorem own_d_jdk_68_method_64_code_4 : decode jdk_68_method_64_code 4 = .ok (.areturn, 1) := by decide +kernel
set_option maxRecDepth 65536 in
set_option maxHeartbeats 40000000 in
theorem own_rm_gva (l : Launch) (Z : State) (a0 : Array Value) (hw : ∀ d ∈ tables_1, d.before a0 Z = true) (ws : List Jvm.Cond) (a1 : Addr) (da : Addr) (h0 : Heap) (n0 : Nat) (Z0 : n0 ≤ h0.size) (F1 : Fld Z h0 a1 "java/lang/AbstractStringBuilder" "value" "[B" (.ref da)) :
    MetFree l (⟨"java/lang/AbstractStringBuilder", "getValue", "()[B"⟩ : MethodName) (head1 (Jvm.Cond.code (⟨"java/lang/AbstractStringBuilder", "getValue", "()[B"⟩ : MethodName) jdk_68_method_64_code 1 (some (.array .byte)) :: ws) ({ frames := 0, cells := 0, slots := 0, locals := 0 } : Room)) (fun a U => a = #[(.ref a1)] ∧ Z.Warmed39 U.vm ∧ U.heap = h0) (fun _ _ _ _ _ => True) (fun _ U o U' => ∃ v L, o = .returned v ∧ own_Q_gva Z a1 da h0 n0 v U'.heap L ∧ FrameEnd U o U' L ({ frames := 0, cells := 0, slots := 0, locals := 0 } : Room).cells ({ frames := 0, cells := 0, slots := 0, locals := 0 } : Room).slots) := by
  refine MetFree.of_bodySF (plainFor_of_name own_pn_3) hisR ?_
  intro p e s m args below meth c s₁ Bd hml0 hP hK
  obtain ⟨rfl, hZ, hh⟩ := hP
  have hx := Bd.exec
  have hby := Bd.bytes
  have hml : c.maxLocals = 1 := hml0
  have hown : s.vm.findClass "java/lang/AbstractStringBuilder" = some m.cls := findClass_of_methodNamed Bd.named
  have hnm := (name_of_methodNamed Bd.named Bd.method).1
  have X0 : Stand p l e ({ frames := 0, cells := 0, slots := 0, locals := 0 } : Room) s m #[(.ref a1)] below meth c s₁ [] 0 0 := Stand.of_body Bd
  have e0 : s₁.heap = h0 := by rw [← hh, Bd.state]; rfl
  have N0 := Fr.nil n0
  refine own_start (own_ef_gva m a1 ) ?_
  obtain ⟨T1, X1, e1, st1⟩ := getF X0 hx hZ hown (host := "") (Or.inl (hw _ (List.mem_of_getElem? (i := 73) rfl))) Via.refl e0 F1 (g := (mkF m 1 #[.val (.ref a1)] [(.ref a1)])) rfl rfl (Jvm.hb hby own_d_jdk_68_method_64_code_1)
  refine own_of (T' := T1) (f' := (mkF m 4 #[.val (.ref a1)] [(.ref da)])) (fun t_ k_ => (XS.aloadN X0.here hx rfl (Jvm.hb hby own_d_jdk_68_method_64_code_0) rfl rfl (st1 _ k_))) ?_
  obtain ⟨fs, hr, hrun, hended, hW, hsame⟩ := X1.leave (v := some (.ref da)) (fun h => by rw [Bd.returns] at h; cases h)
  exact ⟨_, _, own_retA X1 hx Bd.returns rfl rfl rfl (Jvm.hb hby own_d_jdk_68_method_64_code_4) hr, hrun, hended, _, _, rfl, (by show own_Q_gva Z a1 da h0 n0 _ T1.heap _; rw [e1]; exact ⟨rfl, N0, rfl⟩), ⟨_, rfl⟩, hW, hsame.mono (by decide) (by decide)⟩
theorem own_ef_abl (m : MethodId) (a1 : Addr) : entryFrame m #[(.ref a1)] 1 = mkF m 0 #[.val (.ref a1)] [] := by first | (simp [entryFrame, mkF, argsToLocals, Value.category]; done) | rfl
def own_Q_abl (Z : State) (a1 : Addr) (z : Int32) (h0 : Heap) (n0 : Nat) (v : Option Value) (h : Heap) (L : List Loc) : Prop := v = some (.int z) ∧ Fr n0 L ∧ h = h0
theorem own_d_jdk_68_method_6_code_0 : decode jdk_68_method_6_code 0 = .ok (.aload_n 0, 1) := by decide +kernel
theorem own_d_jdk_68_method_6_code_1 : decode jdk_68_method_6_code 1 = .ok (.getfield 79, 3) := by decide +kernel
theorem own_d_jdk_68_method_6_code_4 : decode jdk_68_method_6_code 4 = .ok (.ireturn, 1) := by decide +kernel
set_option maxRecDepth 65536 in
set_option maxHeartbeats 40000000 in
theorem own_rm_abl (l : Launch) (Z : State) (a0 : Array Value) (hw : ∀ d ∈ tables_1, d.before a0 Z = true) (ws : List Jvm.Cond) (a1 : Addr) (z : Int32) (h0 : Heap) (n0 : Nat) (Z0 : n0 ≤ h0.size) (F1 : Fld Z h0 a1 "java/lang/AbstractStringBuilder" "count" "I" (.int z)) :
    MetFree l (⟨"java/lang/AbstractStringBuilder", "length", "()I"⟩ : MethodName) (head1 (Jvm.Cond.code (⟨"java/lang/AbstractStringBuilder", "length", "()I"⟩ : MethodName) jdk_68_method_6_code 1 (some .int) :: ws) ({ frames := 0, cells := 0, slots := 0, locals := 0 } : Room)) (fun a U => a = #[(.ref a1)] ∧ Z.Warmed39 U.vm ∧ U.heap = h0) (fun _ _ _ _ _ => True) (fun _ U o U' => ∃ v L, o = .returned v ∧ own_Q_abl Z a1 z h0 n0 v U'.heap L ∧ FrameEnd U o U' L ({ frames := 0, cells := 0, slots := 0, locals := 0 } : Room).cells ({ frames := 0, cells := 0, slots := 0, locals := 0 } : Room).slots) := by
  refine MetFree.of_bodySF (plainFor_of_name own_pn_3) hisR ?_
  intro p e s m args below meth c s₁ Bd hml0 hP hK
  obtain ⟨rfl, hZ, hh⟩ := hP
  have hx := Bd.exec
  have hby := Bd.bytes
  have hml : c.maxLocals = 1 := hml0
  have hown : s.vm.findClass "java/lang/AbstractStringBuilder" = some m.cls := findClass_of_methodNamed Bd.named
  have hnm := (name_of_methodNamed Bd.named Bd.method).1
  have X0 : Stand p l e ({ frames := 0, cells := 0, slots := 0, locals := 0 } : Room) s m #[(.ref a1)] below meth c s₁ [] 0 0 := Stand.of_body Bd
  have e0 : s₁.heap = h0 := by rw [← hh, Bd.state]; rfl
  have N0 := Fr.nil n0
  refine own_start (own_ef_abl m a1 ) ?_
  obtain ⟨T1, X1, e1, st1⟩ := getF X0 hx hZ hown (host := "") (Or.inl (hw _ (List.mem_of_getElem? (i := 100) rfl))) Via.refl e0 F1 (g := (mkF m 1 #[.val (.ref a1)] [(.ref a1)])) rfl rfl (Jvm.hb hby own_d_jdk_68_method_6_code_1)
  refine own_of (T' := T1) (f' := (mkF m 4 #[.val (.ref a1)] [(.int z)])) (fun t_ k_ => (XS.aloadN X0.here hx rfl (Jvm.hb hby own_d_jdk_68_method_6_code_0) rfl rfl (st1 _ k_))) ?_
  obtain ⟨fs, hr, hrun, hended, hW, hsame⟩ := X1.leave (v := some (.int z)) (fun h => by rw [Bd.returns] at h; cases h)
  exact ⟨_, _, own_retI X1 hx Bd.returns (Jvm.hb hby own_d_jdk_68_method_6_code_4) hr, hrun, hended, _, _, rfl, (by show own_Q_abl Z a1 z h0 n0 _ T1.heap _; rw [e1]; exact ⟨rfl, N0, rfl⟩), ⟨_, rfl⟩, hW, hsame.mono (by decide) (by decide)⟩
theorem own_pn_5 : plainName "java/lang/StringBuilder" = true := by first | (simp [plainName, overriddenIn]; done) | decide +kernel
theorem own_ef_sbl (m : MethodId) (a1 : Addr) : entryFrame m #[(.ref a1)] 1 = mkF m 0 #[.val (.ref a1)] [] := by first | (simp [entryFrame, mkF, argsToLocals, Value.category]; done) | rfl
def own_Q_sbl (Z : State) (a1 : Addr) (z : Int32) (h0 : Heap) (n0 : Nat) (v : Option Value) (h : Heap) (L : List Loc) : Prop := v = some (.int z) ∧ Fr n0 L ∧ h = h0
theorem own_d_jdk_67_method_93_code_0 : decode jdk_67_method_93_code 0 = .ok (.aload_n 0, 1) := by decide +kernel
theorem own_d_jdk_67_method_93_code_1 : decode jdk_67_method_93_code 1 = .ok (.invokespecial 343, 3) := by decide +kernel
theorem own_pd_7 : parseMethodDescriptor "()I" = some ⟨[], some .int⟩ := by decide +kernel
theorem own_same {Z : State} {a0 : Array Value} {y y' : MethodName} {C : String} (w : (Jvm.Cond.declares y).before a0 Z = true) (ws : (Jvm.Cond.selects C y' y').before a0 Z = true) (e : y'.cls = y.cls) (hy : y.cls ≠ "java/lang/invoke/MethodHandle" ∧ y.cls ≠ "java/lang/invoke/VarHandle") : (Jvm.Cond.sameMethod y.cls y.cls y.name y.desc).before a0 Z = true := by
  obtain ⟨m, meth, h1, -⟩ := Cond.declares_spec w
  obtain ⟨c2, r2, m2, -, -, q3, -, kP, hkP, hkPi⟩ := Cond.selects_spec ws
  have h2 := State.methodFound?_of_named h1 hy
  have a := findClass_of_methodNamed q3
  rw [e] at a
  simp [Cond.before, Cond.holds, Cond.value, h1, h2, a, hkP, hkPi]
theorem own_d_jdk_67_method_93_code_4 : decode jdk_67_method_93_code 4 = .ok (.ireturn, 1) := by decide +kernel
set_option maxRecDepth 65536 in
set_option maxHeartbeats 40000000 in
theorem own_rm_sbl (l : Launch) (Z : State) (a0 : Array Value) (hw : ∀ d ∈ tables_1, d.before a0 Z = true) (ws : List Jvm.Cond) (a1 : Addr) (z : Int32) (h0 : Heap) (n0 : Nat) (Z0 : n0 ≤ h0.size) (F1 : Fld Z h0 a1 "java/lang/AbstractStringBuilder" "count" "I" (.int z)) (E1 : Exa Z h0 a1 "java/lang/StringBuilder") :
    MetFree l (⟨"java/lang/StringBuilder", "length", "()I"⟩ : MethodName) (head1 (Jvm.Cond.code (⟨"java/lang/StringBuilder", "length", "()I"⟩ : MethodName) jdk_67_method_93_code 1 (some .int) :: ws) ({ frames := 1, cells := 0, slots := 0, locals := 12 } : Room)) (fun a U => a = #[(.ref a1)] ∧ Z.Warmed39 U.vm ∧ U.heap = h0) (fun _ _ _ _ _ => True) (fun _ U o U' => ∃ v L, o = .returned v ∧ own_Q_sbl Z a1 z h0 n0 v U'.heap L ∧ FrameEnd U o U' L ({ frames := 1, cells := 0, slots := 0, locals := 12 } : Room).cells ({ frames := 1, cells := 0, slots := 0, locals := 12 } : Room).slots) := by
  refine MetFree.of_bodySF (plainFor_of_name own_pn_5) hisR ?_
  intro p e s m args below meth c s₁ Bd hml0 hP hK
  obtain ⟨rfl, hZ, hh⟩ := hP
  have hx := Bd.exec
  have hby := Bd.bytes
  have hml : c.maxLocals = 1 := hml0
  have hown : s.vm.findClass "java/lang/StringBuilder" = some m.cls := findClass_of_methodNamed Bd.named
  have hnm := (name_of_methodNamed Bd.named Bd.method).1
  have X0 : Stand p l e ({ frames := 1, cells := 0, slots := 0, locals := 12 } : Room) s m #[(.ref a1)] below meth c s₁ [] 0 0 := Stand.of_body Bd
  have e0 : s₁.heap = h0 := by rw [← hh, Bd.state]; rfl
  have N0 := Fr.nil n0
  refine own_start (own_ef_sbl m a1 ) ?_
  refine own_of (T' := s₁) (f' := (mkF m 1 #[.val (.ref a1)] [(.ref a1)])) (fun t_ k_ => (XS.aloadN X0.here hx rfl (Jvm.hb hby own_d_jdk_67_method_93_code_0) rfl rfl k_)) ?_
  obtain ⟨_, _, ⟨T1, L1, k1, n1⟩, -, X1, ⟨Lc1, hQ1, l1, y1, z1⟩, st1⟩ := superBack X0 hx hZ (y := (⟨"java/lang/AbstractStringBuilder", "length", "()I"⟩ : MethodName)) hown (hw _ (List.mem_of_getElem? (i := 176) rfl)) (own_same (hw _ (List.mem_of_getElem? (i := 171) rfl)) (hw _ (List.mem_of_getElem? (i := 105) rfl)) rfl (by decide)) (hw _ (List.mem_of_getElem? (i := 172) rfl)) (hw _ (List.mem_of_getElem? (i := 87) rfl)) (by decide) (backOf (W := 0) (own_rm_abl l Z a0 hw [] a1 z h0 n0 Z0 F1) hZ (hw _ (List.mem_of_getElem? (i := 177) rfl)) (hw _ (List.mem_of_getElem? (i := 69) rfl)) (by decide) (by decide)) e0 (Ins.self E1) (g := (mkF m 1 #[.val (.ref a1)] [(.ref a1)])) rfl (by rw [hml]; rfl) (hw _ (List.mem_of_getElem? (i := 177) rfl)) (argsL := []) (rest := []) (lenOf own_pd_7 rfl) rfl (by show 2 * 0 + _ ≤ _; exact Nat.le_of_eq rfl) (Jvm.hb hby own_d_jdk_67_method_93_code_1) (fun _ _ => ⟨rfl, e0, Nat.le_of_ble_eq_true rfl, Nat.le_of_ble_eq_true rfl⟩)
  dsimp only [Pt.U, Pt.locs, Pt.cells, Pt.slots] at X1 l1 y1 z1 st1 hQ1
  subst y1 z1
  obtain ⟨rfl, N1, e1⟩ := hQ1
  have N2 : Fr n0 L1 := by rw [l1]; exact Fr.app N0 N1
  refine own_of (T' := T1) (f' := (mkF m 4 #[.val (.ref a1)] [(.int z)])) (fun t_ k_ => (st1.trans k_)) ?_
  obtain ⟨fs, hr, hrun, hended, hW, hsame⟩ := X1.leave (v := some (.int z)) (fun h => by rw [Bd.returns] at h; cases h)
  exact ⟨_, _, own_retI X1 hx Bd.returns (Jvm.hb hby own_d_jdk_67_method_93_code_4) hr, hrun, hended, _, _, rfl, (by show own_Q_sbl Z a1 z h0 n0 _ T1.heap _; rw [e1]; exact ⟨rfl, N2, rfl⟩), ⟨_, rfl⟩, hW, hsame.mono (by decide) (by decide)⟩
theorem own_ef_anu (m : MethodId) (a1 : Addr) : entryFrame m #[(.ref a1)] 3 = mkF m 0 #[.val (.ref a1), .unset, .unset] [] := by first | (simp [entryFrame, mkF, argsToLocals, Value.category]; done) | rfl
def own_Q_anu (Z : State) (a1 : Addr) (G1 : Int32) (da : Addr) (k : ClassId) (cap : Nat) (bs : List Value) (h0 : Heap) (n0 : Nat) (v : Option Value) (h : Heap) (L : List Loc) : Prop := v = some (.ref a1) ∧ Fr n0 L ∧ Keep h0 h [a1, da] ∧ ∃ da' k', (da' = da ∨ h0.size ≤ da') ∧ own_B Z h a1 da' k' (own_grow cap (bs.length + 4)) (bs ++ own_by own_nul)
theorem own_d_jdk_68_method_26_code_0 : decode jdk_68_method_26_code 0 = .ok (.aload_n 0, 1) := by decide +kernel
theorem own_d_jdk_68_method_26_code_1 : decode jdk_68_method_26_code 1 = .ok (.aload_n 0, 1) := by decide +kernel
theorem own_d_jdk_68_method_26_code_2 : decode jdk_68_method_26_code 2 = .ok (.getfield 79, 3) := by decide +kernel
theorem own_d_jdk_68_method_26_code_5 : decode jdk_68_method_26_code 5 = .ok (.iconst 4, 1) := by decide +kernel
theorem own_d_jdk_68_method_26_code_6 : decode jdk_68_method_26_code 6 = .ok (.iadd, 1) := by decide +kernel
theorem own_d_jdk_68_method_26_code_7 : decode jdk_68_method_26_code 7 = .ok (.invokevirtual 100, 3) := by decide +kernel
theorem own_pd_8 : parseMethodDescriptor "(I)V" = some ⟨[.int], none⟩ := by decide +kernel
theorem own_d_jdk_68_method_26_code_10 : decode jdk_68_method_26_code 10 = .ok (.aload_n 0, 1) := by decide +kernel
theorem own_d_jdk_68_method_26_code_11 : decode jdk_68_method_26_code 11 = .ok (.getfield 79, 3) := by decide +kernel
theorem own_d_jdk_68_method_26_code_14 : decode jdk_68_method_26_code 14 = .ok (.istore_n 1, 1) := by decide +kernel
theorem own_d_jdk_68_method_26_code_15 : decode jdk_68_method_26_code 15 = .ok (.aload_n 0, 1) := by decide +kernel
theorem own_d_jdk_68_method_26_code_16 : decode jdk_68_method_26_code 16 = .ok (.getfield 15, 3) := by decide +kernel
theorem own_d_jdk_68_method_26_code_19 : decode jdk_68_method_26_code 19 = .ok (.astore_n 2, 1) := by decide +kernel
theorem own_d_jdk_68_method_26_code_20 : decode jdk_68_method_26_code 20 = .ok (.aload_n 0, 1) := by decide +kernel
theorem own_d_jdk_68_method_26_code_21 : decode jdk_68_method_26_code 21 = .ok (.invokevirtual 83, 3) := by decide +kernel
theorem own_pd_9 : parseMethodDescriptor "()Z" = some ⟨[], some .boolean⟩ := by decide +kernel
theorem own_d_jdk_68_method_26_code_24 : decode jdk_68_method_26_code 24 = .ok (.ifCond .eq 38, 3) := by decide +kernel
theorem own_d_jdk_68_method_26_code_27 : decode jdk_68_method_26_code 27 = .ok (.aload_n 2, 1) := by decide +kernel
theorem own_d_jdk_68_method_26_code_28 : decode jdk_68_method_26_code 28 = .ok (.iload_n 1, 1) := by decide +kernel
theorem own_d_jdk_68_method_26_code_29 : decode jdk_68_method_26_code 29 = .ok (.iinc 1 1, 3) := by decide +kernel
theorem own_d_jdk_68_method_26_code_32 : decode jdk_68_method_26_code 32 = .ok (.bipush 110, 2) := by decide +kernel
theorem own_d_jdk_68_method_26_code_34 : decode jdk_68_method_26_code 34 = .ok (.bastore, 1) := by decide +kernel
theorem own_d_jdk_68_method_26_code_35 : decode jdk_68_method_26_code 35 = .ok (.aload_n 2, 1) := by decide +kernel
theorem own_d_jdk_68_method_26_code_36 : decode jdk_68_method_26_code 36 = .ok (.iload_n 1, 1) := by decide +kernel
theorem own_d_jdk_68_method_26_code_37 : decode jdk_68_method_26_code 37 = .ok (.iinc 1 1, 3) := by decide +kernel
theorem own_d_jdk_68_method_26_code_40 : decode jdk_68_method_26_code 40 = .ok (.bipush 117, 2) := by decide +kernel
theorem own_d_jdk_68_method_26_code_42 : decode jdk_68_method_26_code 42 = .ok (.bastore, 1) := by decide +kernel
theorem own_d_jdk_68_method_26_code_43 : decode jdk_68_method_26_code 43 = .ok (.aload_n 2, 1) := by decide +kernel
theorem own_d_jdk_68_method_26_code_44 : decode jdk_68_method_26_code 44 = .ok (.iload_n 1, 1) := by decide +kernel
theorem own_d_jdk_68_method_26_code_45 : decode jdk_68_method_26_code 45 = .ok (.iinc 1 1, 3) := by decide +kernel
theorem own_d_jdk_68_method_26_code_48 : decode jdk_68_method_26_code 48 = .ok (.bipush 108, 2) := by decide +kernel
theorem own_d_jdk_68_method_26_code_50 : decode jdk_68_method_26_code 50 = .ok (.bastore, 1) := by decide +kernel
theorem own_d_jdk_68_method_26_code_51 : decode jdk_68_method_26_code 51 = .ok (.aload_n 2, 1) := by decide +kernel
theorem own_d_jdk_68_method_26_code_52 : decode jdk_68_method_26_code 52 = .ok (.iload_n 1, 1) := by decide +kernel
theorem own_d_jdk_68_method_26_code_53 : decode jdk_68_method_26_code 53 = .ok (.iinc 1 1, 3) := by decide +kernel
theorem own_d_jdk_68_method_26_code_56 : decode jdk_68_method_26_code 56 = .ok (.bipush 108, 2) := by decide +kernel
theorem own_d_jdk_68_method_26_code_58 : decode jdk_68_method_26_code 58 = .ok (.bastore, 1) := by decide +kernel
theorem own_d_jdk_68_method_26_code_59 : decode jdk_68_method_26_code 59 = .ok (.goto 17, 3) := by decide +kernel
theorem own_d_jdk_68_method_26_code_76 : decode jdk_68_method_26_code 76 = .ok (.aload_n 0, 1) := by decide +kernel
theorem own_d_jdk_68_method_26_code_77 : decode jdk_68_method_26_code 77 = .ok (.iload_n 1, 1) := by decide +kernel
theorem own_d_jdk_68_method_26_code_78 : decode jdk_68_method_26_code 78 = .ok (.putfield 79, 3) := by decide +kernel
theorem own_d_jdk_68_method_26_code_81 : decode jdk_68_method_26_code 81 = .ok (.aload_n 0, 1) := by decide +kernel
theorem own_d_jdk_68_method_26_code_82 : decode jdk_68_method_26_code 82 = .ok (.areturn, 1) := by decide +kernel
set_option maxRecDepth 65536 in
set_option maxHeartbeats 40000000 in
theorem own_rm_anu (l : Launch) (Z : State) (a0 : Array Value) (hw : ∀ d ∈ tables_1, d.before a0 Z = true) (ws : List Jvm.Cond) (a1 : Addr) (G1 : Int32) (da : Addr) (k : ClassId) (cap : Nat) (bs : List Value) (h0 : Heap) (n0 : Nat) (Z0 : n0 ≤ h0.size) (SC : Sta Z h0 "java/lang/String" "COMPACT_STRINGS" "Z" (.int G1)) (P5 : ¬ (G1 = (0 : Int32))) (Bd0 : own_B Z h0 a1 da k cap bs) (g_a1 : n0 ≤ a1) (g_da : n0 ≤ da) (h1 : bs.length + 4 < 400) (h2 : cap < 400) (h70 : own_grow cap (bs.length + 4) ≤ 70) :
    MetFree l (⟨"java/lang/AbstractStringBuilder", "appendNull", "()Ljava/lang/AbstractStringBuilder;"⟩ : MethodName) (head1 (Jvm.Cond.code (⟨"java/lang/AbstractStringBuilder", "appendNull", "()Ljava/lang/AbstractStringBuilder;"⟩ : MethodName) jdk_68_method_26_code 3 (some (.object "java/lang/AbstractStringBuilder")) :: ws) ({ frames := 4, cells := 1, slots := 70, locals := 62 } : Room)) (fun a U => a = #[(.ref a1)] ∧ Z.Warmed39 U.vm ∧ U.heap = h0) (fun _ _ _ _ _ => True) (fun _ U o U' => ∃ v L, o = .returned v ∧ own_Q_anu Z a1 G1 da k cap bs h0 n0 v U'.heap L ∧ FrameEnd U o U' L ({ frames := 4, cells := 1, slots := 70, locals := 62 } : Room).cells ({ frames := 4, cells := 1, slots := 70, locals := 62 } : Room).slots) := by
  refine MetFree.of_bodySF (plainFor_of_name own_pn_3) hisR ?_
  intro p e s m args below meth c s₁ Bd hml0 hP hK
  obtain ⟨rfl, hZ, hh⟩ := hP
  have hx := Bd.exec
  have hby := Bd.bytes
  have hml : c.maxLocals = 3 := hml0
  have hown : s.vm.findClass "java/lang/AbstractStringBuilder" = some m.cls := findClass_of_methodNamed Bd.named
  have hnm := (name_of_methodNamed Bd.named Bd.method).1
  have X0 : Stand p l e ({ frames := 4, cells := 1, slots := 70, locals := 62 } : Room) s m #[(.ref a1)] below meth c s₁ [] 0 0 := Stand.of_body Bd
  have e0 : s₁.heap = h0 := by rw [← hh, Bd.state]; rfl
  have N0 := Fr.nil n0
  refine own_start (own_ef_anu m a1 ) ?_
  have K0 : Keep h0 h0 [a1, da] := Keep.refl _ _
  have neBd : a1 ≠ da := Bd0.1.ne Bd0.2.2.2.2.1 (by decide)
  obtain ⟨T1, X1, e1, st1⟩ := getF X0 hx hZ hown (host := "") (Or.inl (hw _ (List.mem_of_getElem? (i := 100) rfl))) Via.refl e0 Bd0.2.2.2.1 (g := (mkF m 2 #[.val (.ref a1), .unset, .unset] [(.ref a1), (.ref a1)])) rfl rfl (Jvm.hb hby own_d_jdk_68_method_26_code_2)
  refine own_of (T' := T1) (f' := (mkF m 7 #[.val (.ref a1), .unset, .unset] [(.int ((Int32.ofNat (bs.length)) + (4 : Int32))), (.ref a1)])) (fun t_ k_ => (XS.aloadN X0.here hx rfl (Jvm.hb hby own_d_jdk_68_method_26_code_0) rfl rfl (XS.aloadN X0.here hx rfl (Jvm.hb hby own_d_jdk_68_method_26_code_1) rfl rfl (st1 _ (XS.iconst X1.here hx rfl (Jvm.hb hby own_d_jdk_68_method_26_code_5) (XS.iadd X1.here hx rfl (Jvm.hb hby own_d_jdk_68_method_26_code_6) rfl k_)))))) ?_
  rw [(show Int32.ofNat bs.length + (4 : Int32) = Int32.ofNat (bs.length + 4) from own_add bs.length 4)]
  obtain ⟨cq3, q3, q3'⟩ := Bd0.1.cell
  obtain ⟨_, _, ⟨T2, L2, k2, n2⟩, -, X2, ⟨Lc2, hQ2, l2, y2, z2⟩, st2⟩ := X1.privateBack hx (y := (⟨"java/lang/AbstractStringBuilder", "ensureCapacityInternal", "(I)V"⟩ : MethodName)) hown (mvT hZ (hw _ (List.mem_of_getElem? (i := 102) rfl))) (mvT hZ (hw _ (List.mem_of_getElem? (i := 103) rfl))) (own_selP (mvT hZ (hw _ (List.mem_of_getElem? (i := 105) rfl))) (Cond.privateMethod_at (mvP hZ (hw _ (List.mem_of_getElem? (i := 104) rfl)) (args := #[]))) (mvT hZ (hw _ (List.mem_of_getElem? (i := 103) rfl))) (by decide)) (Cond.privateMethod_at (mvP hZ (hw _ (List.mem_of_getElem? (i := 104) rfl)) (args := #[]))) (mvT hZ (hw _ (List.mem_of_getElem? (i := 106) rfl))) (by decide) (backOf (W := 0) (own_rm_eci l Z a0 hw [] a1 (Int32.ofNat (bs.length + 4)) da k cap bs (bs.length + 4) h0 n0 Z0 Bd0 g_a1 h1 h2 h70 rfl) hZ (hw _ (List.mem_of_getElem? (i := 106) rfl)) (hw _ (List.mem_of_getElem? (i := 69) rfl)) (by decide) (by decide)) (g := (mkF m 7 #[.val (.ref a1), .unset, .unset] [(.int (Int32.ofNat (bs.length + 4))), (.ref a1)])) rfl (by rw [hml]; rfl) (Steps.refl _) (a := a1) (by rw [e1]; exact q3) q3' (argsL := [(.int (Int32.ofNat (bs.length + 4)))]) (rest := []) (lenOf own_pd_8 rfl) rfl (by show 2 * 0 + _ ≤ _; exact Nat.le_of_eq rfl) (Jvm.hb hby own_d_jdk_68_method_26_code_7) (fun _ _ => ⟨rfl, e1, Nat.le_of_ble_eq_true rfl, Nat.le_of_ble_eq_true rfl⟩)
  dsimp only [Pt.U, Pt.locs, Pt.cells, Pt.slots] at X2 l2 y2 z2 st2 hQ2
  subst y2 z2
  obtain ⟨rfl, N2, K2, db, kb, hdb, Bd2⟩ := hQ2
  have N4 : Fr n0 L2 := by rw [l2]; exact Fr.app N0 N2
  have f5 := K0.trans K2 (allS (Or.inl (List.mem_of_getElem? (i := 0) rfl)) all0)
  have f6 := Nat.le_trans Z0 K2.1
  have f10 := Bd0.1.keep K2
  have f11 := Bd0.2.2.2.2.1.keep K2
  have f12 := Bd0.2.2.2.2.2.1.keep K2 (ninS (Ne.symm neBd) nin0)
  have f13 := own_stakeep SC K2 (allS (own_plainE Bd0.1) all0)
  have g_db : n0 ≤ db := hdb.elim (fun q => q ▸ g_da) (fun q => Nat.le_trans Z0 q)
  have in_db : db ∈ [a1, da] ∨ h0.size ≤ db := hdb.elim (fun q => Or.inl (q ▸ List.mem_cons_of_mem _ (List.mem_singleton.mpr rfl))) Or.inr
  have ne_db : a1 ≠ db := Bd2.1.ne Bd2.2.2.2.2.1 (by decide)
  refine own_of (T' := T2) (f' := (mkF m 10 #[.val (.ref a1), .unset, .unset] [])) (fun t_ k_ => (st2.trans k_)) ?_
  have hge := (own_grow_ge cap (bs.length + 4)).2
  obtain ⟨T14, X14, e14, st14⟩ := getF X2 hx hZ hown (host := "") (Or.inl (hw _ (List.mem_of_getElem? (i := 100) rfl))) Via.refl rfl Bd2.2.2.2.1 (g := (mkF m 11 #[.val (.ref a1), .unset, .unset] [(.ref a1)])) rfl rfl (Jvm.hb hby own_d_jdk_68_method_26_code_11)
  obtain ⟨T15, X15, e15, st15⟩ := getF X14 hx hZ hown (host := "") (Or.inl (hw _ (List.mem_of_getElem? (i := 73) rfl))) Via.refl e14 Bd2.2.1 (g := (mkF m 16 #[.val (.ref a1), .val (.int (Int32.ofNat (bs.length))), .unset] [(.ref a1)])) rfl rfl (Jvm.hb hby own_d_jdk_68_method_26_code_16)
  refine own_of (T' := T15) (f' := (mkF m 21 #[.val (.ref a1), .val (.int (Int32.ofNat (bs.length))), .val (.ref db)] [(.ref a1)])) (fun t_ k_ => (XS.aloadN X2.here hx rfl (Jvm.hb hby own_d_jdk_68_method_26_code_10) rfl rfl (st14 _ (XS.istoreN X14.here hx rfl (Jvm.hb hby own_d_jdk_68_method_26_code_14) rfl (l' := #[.val (.ref a1), .val (.int (Int32.ofNat (bs.length))), .unset]) rfl (XS.aloadN X14.here hx rfl (Jvm.hb hby own_d_jdk_68_method_26_code_15) rfl rfl (st15 _ (XS.astoreN X15.here hx rfl (Jvm.hb hby own_d_jdk_68_method_26_code_19) rfl rfl (l' := #[.val (.ref a1), .val (.int (Int32.ofNat (bs.length))), .val (.ref db)]) rfl (XS.aloadN X15.here hx rfl (Jvm.hb hby own_d_jdk_68_method_26_code_20) rfl rfl k_)))))))) ?_
  obtain ⟨cq17, kq17, q17a, q17b, q17c⟩ := isOf hZ e15 Bd2.1
  obtain ⟨_, _, ⟨T16, L16, k16, n16⟩, -, X16, ⟨Lc16, hQ16, l16, y16, z16⟩, st16⟩ := X15.virtualBack hx (y := (⟨"java/lang/AbstractStringBuilder", "isLatin1", "()Z"⟩ : MethodName)) (z := (⟨"java/lang/AbstractStringBuilder", "isLatin1", "()Z"⟩ : MethodName)) hown (mvT hZ (hw _ (List.mem_of_getElem? (i := 233) rfl))) (mvT hZ (hw _ (List.mem_of_getElem? (i := 179) rfl))) (notFace_of_selects (args := #[]) (mvT hZ (hw _ (List.mem_of_getElem? (i := 181) rfl)))) (mvT hZ (hw _ (List.mem_of_getElem? (i := 181) rfl))) (mvT hZ (hw _ (List.mem_of_getElem? (i := 180) rfl))) (by decide) (backOf (W := 0) (own_rm_ail l Z a0 hw [] a1 G1 T2.heap n0 f6 f13 P5 Bd2.2.2.1) hZ (hw _ (List.mem_of_getElem? (i := 182) rfl)) (hw _ (List.mem_of_getElem? (i := 69) rfl)) (by decide) (by decide)) q17a q17c (g := (mkF m 21 #[.val (.ref a1), .val (.int (Int32.ofNat (bs.length))), .val (.ref db)] [(.ref a1)])) rfl (by rw [hml]; rfl) (Steps.refl _) (argsL := []) (rest := []) (lenOf own_pd_9 rfl) rfl (by show 2 * 0 + _ ≤ _; exact Nat.le_of_eq rfl) (Jvm.hb hby own_d_jdk_68_method_26_code_21) (fun _ _ => ⟨rfl, e15, Nat.le_of_ble_eq_true rfl, Nat.le_of_ble_eq_true rfl⟩)
  dsimp only [Pt.U, Pt.locs, Pt.cells, Pt.slots] at X16 l16 y16 z16 st16 hQ16
  subst y16 z16
  obtain ⟨rfl, N16, e16⟩ := hQ16
  have N18 : Fr n0 L16 := by rw [l16]; exact Fr.app N4 N16
  refine own_of (T' := T16) (f' := (mkF m 34 #[.val (.ref a1), .val (.int ((Int32.ofNat (bs.length)) + (1 : Int32))), .val (.ref db)] [(.int (110 : Int32)), (.int (Int32.ofNat (bs.length))), (.ref db)])) (fun t_ k_ => (st16.trans (XS.ifNo X16.here hx rfl (Jvm.hb hby own_d_jdk_68_method_26_code_24) rfl ((if0 _ _).trans (feq (by decide)).1) (XS.aloadN X16.here hx rfl (Jvm.hb hby own_d_jdk_68_method_26_code_27) rfl rfl (XS.iloadN X16.here hx rfl (Jvm.hb hby own_d_jdk_68_method_26_code_28) rfl (XS.iinc X16.here hx rfl (Jvm.hb hby own_d_jdk_68_method_26_code_29) rfl (l' := #[.val (.ref a1), .val (.int ((Int32.ofNat (bs.length)) + (1 : Int32))), .val (.ref db)]) rfl (XS.bipush X16.here hx rfl (Jvm.hb hby own_d_jdk_68_method_26_code_32) k_))))))) ?_
  rw [(show Int32.ofNat bs.length + (1 : Int32) = Int32.ofNat (bs.length + 1) from own_add bs.length 1)]
  obtain ⟨cl19, Ar19, qq19, Sz19, Nn19, Hh19, Gg19⟩ := Bd2.2.2.2.2.2.1
  have hin19 : ¬ ((Int32.ofNat bs.length) < 0 ∨ cl19.slots.size ≤ ((Int32.ofNat bs.length)).toNatClampNeg) := inb_of Sz19 ⟨own_ng _ (by omega), (own_lt _ _ (by omega) (by omega)).mpr (by omega)⟩
  obtain ⟨T20, h20, X20, e20, W20, st20⟩ := stB X16 hx hZ e16 Ar19 (j := (Int32.ofNat bs.length)) hin19 (g := (mkF m 34 #[.val (.ref a1), .val (.int (Int32.ofNat (bs.length + 1))), .val (.ref db)] [(.int (110 : Int32)), (.int (Int32.ofNat bs.length)), (.ref db)])) rfl rfl (Jvm.hb hby own_d_jdk_68_method_26_code_34)
  refine own_of (T' := T20) (f' := (mkF m 35 #[.val (.ref a1), .val (.int (Int32.ofNat (bs.length + 1))), .val (.ref db)] [])) (fun t_ k_ => (st20 _ k_)) ?_
  rw [(by decide : nar .byte (110 : Int32) = 110)] at W20
  have Vn20 : Arv Z h20 db kb .byte (Int32.ofNat (own_grow cap (bs.length + 4))) ((bs ++ [(Value.int 110)]) ++ List.replicate ((own_grow cap (bs.length + 4)) - (bs ++ [(Value.int 110)]).length) (.int 0)) (.int 0) := by
    have q_ := Arv.set Ar19 qq19 Sz19 Nn19 Hh19 Gg19 rfl W20 bs.length (own_cl _ (by omega)) (by rw [own_padlen _ _ (by first | omega | (simp only [List.length_append, List.length_cons, List.length_nil]; omega))]; omega)
    have l_ : bs.length = bs.length := by first | rfl | simp
    rw [← l_, own_setp bs _ _ (by first | omega | (simp only [List.length_append, List.length_cons, List.length_nil]; omega))] at q_
    simpa using q_
  have N20 := Fr.snoc X20 N18 g_db
  have f21 := f5.wr W20 in_db
  have f22 := Nat.le_trans f6 (Keep.of_wr W20).1
  have f23 := f13.wr W20
  have f24 := Bd2.1.wr W20
  have f25 := Bd2.2.1.other W20 (Or.inl ne_db)
  have f26 := Bd2.2.2.1.other W20 (Or.inl ne_db)
  have f27 := Bd2.2.2.2.1.other W20 (Or.inl ne_db)
  have f28 := Bd2.2.2.2.2.1.wr W20
  refine own_of (T' := T20) (f' := (mkF m 42 #[.val (.ref a1), .val (.int ((Int32.ofNat (bs.length + 1)) + (1 : Int32))), .val (.ref db)] [(.int (117 : Int32)), (.int (Int32.ofNat (bs.length + 1))), (.ref db)])) (fun t_ k_ => (XS.aloadN X20.here hx rfl (Jvm.hb hby own_d_jdk_68_method_26_code_35) rfl rfl (XS.iloadN X20.here hx rfl (Jvm.hb hby own_d_jdk_68_method_26_code_36) rfl (XS.iinc X20.here hx rfl (Jvm.hb hby own_d_jdk_68_method_26_code_37) rfl (l' := #[.val (.ref a1), .val (.int ((Int32.ofNat (bs.length + 1)) + (1 : Int32))), .val (.ref db)]) rfl (XS.bipush X20.here hx rfl (Jvm.hb hby own_d_jdk_68_method_26_code_40) k_))))) ?_
  rw [(show (Int32.ofNat (bs.length + 1)) + (1 : Int32) = Int32.ofNat (bs.length + 2) from own_add (bs.length + 1) 1)]
  obtain ⟨cl30, Ar30, qq30, Sz30, Nn30, Hh30, Gg30⟩ := Vn20
  have hin30 : ¬ ((Int32.ofNat (bs.length + 1)) < 0 ∨ cl30.slots.size ≤ ((Int32.ofNat (bs.length + 1))).toNatClampNeg) := inb_of Sz30 ⟨own_ng _ (by omega), (own_lt _ _ (by omega) (by omega)).mpr (by omega)⟩
  obtain ⟨T31, h31, X31, e31, W31, st31⟩ := stB X20 hx hZ e20 Ar30 (j := (Int32.ofNat (bs.length + 1))) hin30 (g := (mkF m 42 #[.val (.ref a1), .val (.int (Int32.ofNat (bs.length + 2))), .val (.ref db)] [(.int (117 : Int32)), (.int (Int32.ofNat (bs.length + 1))), (.ref db)])) rfl rfl (Jvm.hb hby own_d_jdk_68_method_26_code_42)
  refine own_of (T' := T31) (f' := (mkF m 43 #[.val (.ref a1), .val (.int (Int32.ofNat (bs.length + 2))), .val (.ref db)] [])) (fun t_ k_ => (st31 _ k_)) ?_
  rw [(by decide : nar .byte (117 : Int32) = 117)] at W31
  have Vn31 : Arv Z h31 db kb .byte (Int32.ofNat (own_grow cap (bs.length + 4))) ((bs ++ [(Value.int 110), (Value.int 117)]) ++ List.replicate ((own_grow cap (bs.length + 4)) - (bs ++ [(Value.int 110), (Value.int 117)]).length) (.int 0)) (.int 0) := by
    have q_ := Arv.set Ar30 qq30 Sz30 Nn30 Hh30 Gg30 rfl W31 (bs.length + 1) (own_cl _ (by omega)) (by rw [own_padlen _ _ (by first | omega | (simp only [List.length_append, List.length_cons, List.length_nil]; omega))]; omega)
    have l_ : (bs ++ [(Value.int 110)]).length = (bs.length + 1) := by first | rfl | simp
    rw [← l_, own_setp (bs ++ [(Value.int 110)]) _ _ (by first | omega | (simp only [List.length_append, List.length_cons, List.length_nil]; omega))] at q_
    simpa using q_
  have N31 := Fr.snoc X31 N20 g_db
  have f32 := f21.wr W31 in_db
  have f33 := Nat.le_trans f22 (Keep.of_wr W31).1
  have f34 := f23.wr W31
  have f35 := f24.wr W31
  have f36 := f25.other W31 (Or.inl ne_db)
  have f37 := f26.other W31 (Or.inl ne_db)
  have f38 := f27.other W31 (Or.inl ne_db)
  have f39 := f28.wr W31
  refine own_of (T' := T31) (f' := (mkF m 50 #[.val (.ref a1), .val (.int ((Int32.ofNat (bs.length + 2)) + (1 : Int32))), .val (.ref db)] [(.int (108 : Int32)), (.int (Int32.ofNat (bs.length + 2))), (.ref db)])) (fun t_ k_ => (XS.aloadN X31.here hx rfl (Jvm.hb hby own_d_jdk_68_method_26_code_43) rfl rfl (XS.iloadN X31.here hx rfl (Jvm.hb hby own_d_jdk_68_method_26_code_44) rfl (XS.iinc X31.here hx rfl (Jvm.hb hby own_d_jdk_68_method_26_code_45) rfl (l' := #[.val (.ref a1), .val (.int ((Int32.ofNat (bs.length + 2)) + (1 : Int32))), .val (.ref db)]) rfl (XS.bipush X31.here hx rfl (Jvm.hb hby own_d_jdk_68_method_26_code_48) k_))))) ?_
  rw [(show (Int32.ofNat (bs.length + 2)) + (1 : Int32) = Int32.ofNat (bs.length + 3) from own_add (bs.length + 2) 1)]
  obtain ⟨cl40, Ar40, qq40, Sz40, Nn40, Hh40, Gg40⟩ := Vn31
  have hin40 : ¬ ((Int32.ofNat (bs.length + 2)) < 0 ∨ cl40.slots.size ≤ ((Int32.ofNat (bs.length + 2))).toNatClampNeg) := inb_of Sz40 ⟨own_ng _ (by omega), (own_lt _ _ (by omega) (by omega)).mpr (by omega)⟩
  obtain ⟨T41, h41, X41, e41, W41, st41⟩ := stB X31 hx hZ e31 Ar40 (j := (Int32.ofNat (bs.length + 2))) hin40 (g := (mkF m 50 #[.val (.ref a1), .val (.int (Int32.ofNat (bs.length + 3))), .val (.ref db)] [(.int (108 : Int32)), (.int (Int32.ofNat (bs.length + 2))), (.ref db)])) rfl rfl (Jvm.hb hby own_d_jdk_68_method_26_code_50)
  refine own_of (T' := T41) (f' := (mkF m 51 #[.val (.ref a1), .val (.int (Int32.ofNat (bs.length + 3))), .val (.ref db)] [])) (fun t_ k_ => (st41 _ k_)) ?_
  rw [(by decide : nar .byte (108 : Int32) = 108)] at W41
  have Vn41 : Arv Z h41 db kb .byte (Int32.ofNat (own_grow cap (bs.length + 4))) ((bs ++ [(Value.int 110), (Value.int 117), (Value.int 108)]) ++ List.replicate ((own_grow cap (bs.length + 4)) - (bs ++ [(Value.int 110), (Value.int 117), (Value.int 108)]).length) (.int 0)) (.int 0) := by
    have q_ := Arv.set Ar40 qq40 Sz40 Nn40 Hh40 Gg40 rfl W41 (bs.length + 2) (own_cl _ (by omega)) (by rw [own_padlen _ _ (by first | omega | (simp only [List.length_append, List.length_cons, List.length_nil]; omega))]; omega)
    have l_ : (bs ++ [(Value.int 110), (Value.int 117)]).length = (bs.length + 2) := by first | rfl | simp
    rw [← l_, own_setp (bs ++ [(Value.int 110), (Value.int 117)]) _ _ (by first | omega | (simp only [List.length_append, List.length_cons, List.length_nil]; omega))] at q_
    simpa using q_
  have N41 := Fr.snoc X41 N31 g_db
  have f42 := f32.wr W41 in_db
  have f43 := Nat.le_trans f33 (Keep.of_wr W41).1
  have f44 := f34.wr W41
  have f45 := f35.wr W41
  have f46 := f36.other W41 (Or.inl ne_db)
  have f47 := f37.other W41 (Or.inl ne_db)
  have f48 := f38.other W41 (Or.inl ne_db)
  have f49 := f39.wr W41
  refine own_of (T' := T41) (f' := (mkF m 58 #[.val (.ref a1), .val (.int ((Int32.ofNat (bs.length + 3)) + (1 : Int32))), .val (.ref db)] [(.int (108 : Int32)), (.int (Int32.ofNat (bs.length + 3))), (.ref db)])) (fun t_ k_ => (XS.aloadN X41.here hx rfl (Jvm.hb hby own_d_jdk_68_method_26_code_51) rfl rfl (XS.iloadN X41.here hx rfl (Jvm.hb hby own_d_jdk_68_method_26_code_52) rfl (XS.iinc X41.here hx rfl (Jvm.hb hby own_d_jdk_68_method_26_code_53) rfl (l' := #[.val (.ref a1), .val (.int ((Int32.ofNat (bs.length + 3)) + (1 : Int32))), .val (.ref db)]) rfl (XS.bipush X41.here hx rfl (Jvm.hb hby own_d_jdk_68_method_26_code_56) k_))))) ?_
  rw [(show (Int32.ofNat (bs.length + 3)) + (1 : Int32) = Int32.ofNat (bs.length + 4) from own_add (bs.length + 3) 1)]
  obtain ⟨cl50, Ar50, qq50, Sz50, Nn50, Hh50, Gg50⟩ := Vn41
  have hin50 : ¬ ((Int32.ofNat (bs.length + 3)) < 0 ∨ cl50.slots.size ≤ ((Int32.ofNat (bs.length + 3))).toNatClampNeg) := inb_of Sz50 ⟨own_ng _ (by omega), (own_lt _ _ (by omega) (by omega)).mpr (by omega)⟩
  obtain ⟨T51, h51, X51, e51, W51, st51⟩ := stB X41 hx hZ e41 Ar50 (j := (Int32.ofNat (bs.length + 3))) hin50 (g := (mkF m 58 #[.val (.ref a1), .val (.int (Int32.ofNat (bs.length + 4))), .val (.ref db)] [(.int (108 : Int32)), (.int (Int32.ofNat (bs.length + 3))), (.ref db)])) rfl rfl (Jvm.hb hby own_d_jdk_68_method_26_code_58)
  refine own_of (T' := T51) (f' := (mkF m 59 #[.val (.ref a1), .val (.int (Int32.ofNat (bs.length + 4))), .val (.ref db)] [])) (fun t_ k_ => (st51 _ k_)) ?_
  rw [(by decide : nar .byte (108 : Int32) = 108)] at W51
  have Vn51 : Arv Z h51 db kb .byte (Int32.ofNat (own_grow cap (bs.length + 4))) ((bs ++ [(Value.int 110), (Value.int 117), (Value.int 108), (Value.int 108)]) ++ List.replicate ((own_grow cap (bs.length + 4)) - (bs ++ [(Value.int 110), (Value.int 117), (Value.int 108), (Value.int 108)]).length) (.int 0)) (.int 0) := by
    have q_ := Arv.set Ar50 qq50 Sz50 Nn50 Hh50 Gg50 rfl W51 (bs.length + 3) (own_cl _ (by omega)) (by rw [own_padlen _ _ (by first | omega | (simp only [List.length_append, List.length_cons, List.length_nil]; omega))]; omega)
    have l_ : (bs ++ [(Value.int 110), (Value.int 117), (Value.int 108)]).length = (bs.length + 3) := by first | rfl | simp
    rw [← l_, own_setp (bs ++ [(Value.int 110), (Value.int 117), (Value.int 108)]) _ _ (by first | omega | (simp only [List.length_append, List.length_cons, List.length_nil]; omega))] at q_
    simpa using q_
  have N51 := Fr.snoc X51 N41 g_db
  have f52 := f42.wr W51 in_db
  have f53 := Nat.le_trans f43 (Keep.of_wr W51).1
  have f54 := f44.wr W51
  have f55 := f45.wr W51
  have f56 := f46.other W51 (Or.inl ne_db)
  have f57 := f47.other W51 (Or.inl ne_db)
  have f58 := f48.other W51 (Or.inl ne_db)
  have f59 := f49.wr W51
  obtain ⟨T60, h60, X60, e60, W60, st60⟩ := putF X51 hx hZ hown (host := "") (Or.inl (hw _ (List.mem_of_getElem? (i := 100) rfl))) Via.refl e51 f58 f55 (Or.inl (hw _ (List.mem_of_getElem? (i := 101) rfl))) (hw _ (List.mem_of_getElem? (i := 60) rfl)) (ty := .int) (by decide) rfl rfl (g := (mkF m 78 #[.val (.ref a1), .val (.int (Int32.ofNat (bs.length + 4))), .val (.ref db)] [(.int (Int32.ofNat (bs.length + 4))), (.ref a1)])) rfl rfl (Jvm.hb hby own_d_jdk_68_method_26_code_78)
  refine own_of (T' := T60) (f' := (mkF m 81 #[.val (.ref a1), .val (.int (Int32.ofNat (bs.length + 4))), .val (.ref db)] [])) (fun t_ k_ => (XS.goto X51.here hx rfl (pc0 := 59) (pc' := 76) rfl (Jvm.hb hby own_d_jdk_68_method_26_code_59) (by decide) (by decide) (XS.aloadN X51.here hx rfl (Jvm.hb hby own_d_jdk_68_method_26_code_76) rfl rfl (XS.iloadN X51.here hx rfl (Jvm.hb hby own_d_jdk_68_method_26_code_77) rfl (st60 _ k_))))) ?_
  have N60 := Fr.snoc X60 N51 g_a1
  have f61 := f52.wr W60 (Or.inl (List.mem_of_getElem? (i := 0) rfl))
  have f62 := Nat.le_trans f53 (Keep.of_wr W60).1
  have f63 := f54.wr W60
  have f64 := f55.wr W60
  have f65 := f56.other W60 (Or.inr (slot_ne (Or.inl (hw _ (List.mem_of_getElem? (i := 74) rfl))) (Or.inl (hw _ (List.mem_of_getElem? (i := 101) rfl))) (by decide) (t := (.array .byte)) (t' := .int) (by decide) (by decide)))
  have f66 := f57.other W60 (Or.inr (slot_ne (Or.inl (hw _ (List.mem_of_getElem? (i := 76) rfl))) (Or.inl (hw _ (List.mem_of_getElem? (i := 101) rfl))) (by decide) (t := .byte) (t' := .int) (by decide) (by decide)))
  have f67 := f58.same W60
  have f68 := f59.wr W60
  have f69 := Vn51.other W60 ne_db.symm
  refine own_of (T' := T60) (f' := (mkF m 82 #[.val (.ref a1), .val (.int (Int32.ofNat (bs.length + 4))), .val (.ref db)] [(.ref a1)])) (fun t_ k_ => (XS.aloadN X60.here hx rfl (Jvm.hb hby own_d_jdk_68_method_26_code_81) rfl rfl k_)) ?_
  obtain ⟨fs, hr, hrun, hended, hW, hsame⟩ := X60.leave (v := some (.ref a1)) (fun h => by rw [Bd.returns] at h; cases h)
  exact ⟨_, _, own_retA X60 hx Bd.returns rfl rfl rfl (Jvm.hb hby own_d_jdk_68_method_26_code_82) hr, hrun, hended, _, _, rfl, (by show own_Q_anu Z a1 G1 da k cap bs h0 n0 _ T60.heap _; rw [e60]; exact ⟨rfl, N60, f61, db, kb, hdb, f64, f65, f66, by simpa [own_by, own_nul] using f67, f68, f69, by simp [own_by, own_nul]; omega⟩), ⟨_, rfl⟩, hW, hsame.mono (by decide) (by decide)⟩
theorem own_ef_asa (m : MethodId) (a1 : Addr) (u : Value) (hv_u : u.isRef = true) : entryFrame m #[(.ref a1), u] 3 = mkF m 0 #[.val (.ref a1), .val u, .unset] [] := by
  simp [entryFrame, mkF, argsToLocals, own_cR, own_cN, own_cI, own_cat1 hv_u]
def own_Q_asa (Z : State) (a1 : Addr) (u : Value) (cs : List Int32) (G1 : Int32) (da : Addr) (k : ClassId) (cap : Nat) (bs : List Value) (h0 : Heap) (n0 : Nat) (v : Option Value) (h : Heap) (L : List Loc) : Prop := v = some (.ref a1) ∧ Fr n0 L ∧ Keep h0 h [a1, da] ∧ ∃ da' k', (da' = da ∨ h0.size ≤ da') ∧ own_B Z h a1 da' k' (own_grow cap (bs.length + cs.length)) (bs ++ own_by cs)
theorem own_d_jdk_68_method_22_code_0 : decode jdk_68_method_22_code 0 = .ok (.aload_n 1, 1) := by decide +kernel
theorem own_d_jdk_68_method_22_code_1 : decode jdk_68_method_22_code 1 = .ok (.ifnonnull 8, 3) := by decide +kernel
theorem own_d_jdk_68_method_22_code_4 : decode jdk_68_method_22_code 4 = .ok (.aload_n 0, 1) := by decide +kernel
theorem own_d_jdk_68_method_22_code_5 : decode jdk_68_method_22_code 5 = .ok (.invokevirtual 204, 3) := by decide +kernel
theorem own_pd_10 : parseMethodDescriptor "()Ljava/lang/AbstractStringBuilder;" = some ⟨[], some (.object "java/lang/AbstractStringBuilder")⟩ := by decide +kernel
theorem own_d_jdk_68_method_22_code_8 : decode jdk_68_method_22_code 8 = .ok (.areturn, 1) := by decide +kernel
theorem own_d_jdk_68_method_22_code_9 : decode jdk_68_method_22_code 9 = .ok (.aload_n 1, 1) := by decide +kernel
theorem own_d_jdk_68_method_22_code_10 : decode jdk_68_method_22_code 10 = .ok (.invokevirtual 32, 3) := by decide +kernel
theorem own_d_jdk_68_method_22_code_13 : decode jdk_68_method_22_code 13 = .ok (.istore_n 2, 1) := by decide +kernel
theorem own_d_jdk_68_method_22_code_14 : decode jdk_68_method_22_code 14 = .ok (.aload_n 0, 1) := by decide +kernel
theorem own_d_jdk_68_method_22_code_15 : decode jdk_68_method_22_code 15 = .ok (.aload_n 0, 1) := by decide +kernel
theorem own_d_jdk_68_method_22_code_16 : decode jdk_68_method_22_code 16 = .ok (.getfield 79, 3) := by decide +kernel
theorem own_d_jdk_68_method_22_code_19 : decode jdk_68_method_22_code 19 = .ok (.iload_n 2, 1) := by decide +kernel
theorem own_d_jdk_68_method_22_code_20 : decode jdk_68_method_22_code 20 = .ok (.iadd, 1) := by decide +kernel
theorem own_d_jdk_68_method_22_code_21 : decode jdk_68_method_22_code 21 = .ok (.invokevirtual 100, 3) := by decide +kernel
theorem own_d_jdk_68_method_22_code_24 : decode jdk_68_method_22_code 24 = .ok (.aload_n 0, 1) := by decide +kernel
theorem own_d_jdk_68_method_22_code_25 : decode jdk_68_method_22_code 25 = .ok (.aload_n 0, 1) := by decide +kernel
theorem own_d_jdk_68_method_22_code_26 : decode jdk_68_method_22_code 26 = .ok (.getfield 79, 3) := by decide +kernel
theorem own_d_jdk_68_method_22_code_29 : decode jdk_68_method_22_code 29 = .ok (.aload_n 1, 1) := by decide +kernel
theorem own_d_jdk_68_method_22_code_30 : decode jdk_68_method_22_code 30 = .ok (.invokevirtual 208, 3) := by decide +kernel
theorem own_pd_11 : parseMethodDescriptor "(ILjava/lang/String;)V" = some ⟨[.int, (.object "java/lang/String")], none⟩ := by decide +kernel
theorem own_d_jdk_68_method_22_code_33 : decode jdk_68_method_22_code 33 = .ok (.aload_n 0, 1) := by decide +kernel
theorem own_d_jdk_68_method_22_code_34 : decode jdk_68_method_22_code 34 = .ok (.dup, 1) := by decide +kernel
theorem own_d_jdk_68_method_22_code_35 : decode jdk_68_method_22_code 35 = .ok (.getfield 79, 3) := by decide +kernel
theorem own_d_jdk_68_method_22_code_38 : decode jdk_68_method_22_code 38 = .ok (.iload_n 2, 1) := by decide +kernel
theorem own_d_jdk_68_method_22_code_39 : decode jdk_68_method_22_code 39 = .ok (.iadd, 1) := by decide +kernel
theorem own_d_jdk_68_method_22_code_40 : decode jdk_68_method_22_code 40 = .ok (.putfield 79, 3) := by decide +kernel
theorem own_d_jdk_68_method_22_code_43 : decode jdk_68_method_22_code 43 = .ok (.aload_n 0, 1) := by decide +kernel
theorem own_d_jdk_68_method_22_code_44 : decode jdk_68_method_22_code 44 = .ok (.areturn, 1) := by decide +kernel
set_option maxRecDepth 65536 in
set_option maxHeartbeats 40000000 in
theorem own_rm_asa (l : Launch) (Z : State) (a0 : Array Value) (hw : ∀ d ∈ tables_1, d.before a0 Z = true) (ws : List Jvm.Cond) (a1 : Addr) (u : Value) (cs : List Int32) (G1 : Int32) (da : Addr) (k : ClassId) (cap : Nat) (bs : List Value) (h0 : Heap) (n0 : Nat) (Z0 : n0 ≤ h0.size) (SC : Sta Z h0 "java/lang/String" "COMPACT_STRINGS" "Z" (.int G1)) (P5 : ¬ (G1 = (0 : Int32))) (Bd0 : own_B Z h0 a1 da k cap bs) (g_a1 : n0 ≤ a1) (g_da : n0 ≤ da) (h1 : bs.length + cs.length < 400) (h2 : cap < 400) (h70 : own_grow cap (bs.length + cs.length) ≤ 70) (hO : own_O Z h0 u cs) :
    MetFree l (⟨"java/lang/AbstractStringBuilder", "append", "(Ljava/lang/String;)Ljava/lang/AbstractStringBuilder;"⟩ : MethodName) (head1 (Jvm.Cond.code (⟨"java/lang/AbstractStringBuilder", "append", "(Ljava/lang/String;)Ljava/lang/AbstractStringBuilder;"⟩ : MethodName) jdk_68_method_22_code 3 (some (.object "java/lang/AbstractStringBuilder")) :: ws) ({ frames := 5, cells := 1, slots := 70, locals := 76 } : Room)) (fun a U => a = #[(.ref a1), u] ∧ Z.Warmed39 U.vm ∧ U.heap = h0) (fun _ _ _ _ _ => True) (fun _ U o U' => ∃ v L, o = .returned v ∧ own_Q_asa Z a1 u cs G1 da k cap bs h0 n0 v U'.heap L ∧ FrameEnd U o U' L ({ frames := 5, cells := 1, slots := 70, locals := 76 } : Room).cells ({ frames := 5, cells := 1, slots := 70, locals := 76 } : Room).slots) := by
  refine MetFree.of_bodySF (plainFor_of_name own_pn_3) hisR ?_
  intro p e s m args below meth c s₁ Bd hml0 hP hK
  obtain ⟨rfl, hZ, hh⟩ := hP
  have hx := Bd.exec
  have hby := Bd.bytes
  have hml : c.maxLocals = 3 := hml0
  have hown : s.vm.findClass "java/lang/AbstractStringBuilder" = some m.cls := findClass_of_methodNamed Bd.named
  have hnm := (name_of_methodNamed Bd.named Bd.method).1
  have X0 : Stand p l e ({ frames := 5, cells := 1, slots := 70, locals := 76 } : Room) s m #[(.ref a1), u] below meth c s₁ [] 0 0 := Stand.of_body Bd
  have e0 : s₁.heap = h0 := by rw [← hh, Bd.state]; rfl
  have N0 := Fr.nil n0
  refine own_start (own_ef_asa m a1 u ((own_O_ref hO).1)) ?_
  rcases hO with ⟨rfl, rfl⟩ | ⟨a2, t, kt, rfl, S⟩
  · skip
    have K0 : Keep h0 h0 [a1, da] := Keep.refl _ _
    have neBd : a1 ≠ da := Bd0.1.ne Bd0.2.2.2.2.1 (by decide)
    refine own_of (T' := s₁) (f' := (mkF m 5 #[.val (.ref a1), .val .null, .unset] [(.ref a1)])) (fun t_ k_ => (XS.aloadN X0.here hx rfl (Jvm.hb hby own_d_jdk_68_method_22_code_0) rfl rfl (XS.ifnonnullNo X0.here hx rfl (Jvm.hb hby own_d_jdk_68_method_22_code_1) rfl (XS.aloadN X0.here hx rfl (Jvm.hb hby own_d_jdk_68_method_22_code_4) rfl rfl k_)))) ?_
    obtain ⟨cq2, q2, q2'⟩ := Bd0.1.cell
    obtain ⟨_, _, ⟨T1, L1, k1, n1⟩, -, X1, ⟨Lc1, hQ1, l1, y1, z1⟩, st1⟩ := X0.privateBack hx (y := (⟨"java/lang/AbstractStringBuilder", "appendNull", "()Ljava/lang/AbstractStringBuilder;"⟩ : MethodName)) hown (mvT hZ (hw _ (List.mem_of_getElem? (i := 228) rfl))) (mvT hZ (hw _ (List.mem_of_getElem? (i := 229) rfl))) (own_selP (mvT hZ (hw _ (List.mem_of_getElem? (i := 231) rfl))) (Cond.privateMethod_at (mvP hZ (hw _ (List.mem_of_getElem? (i := 230) rfl)) (args := #[]))) (mvT hZ (hw _ (List.mem_of_getElem? (i := 229) rfl))) (by decide)) (Cond.privateMethod_at (mvP hZ (hw _ (List.mem_of_getElem? (i := 230) rfl)) (args := #[]))) (mvT hZ (hw _ (List.mem_of_getElem? (i := 232) rfl))) (by decide) (backOf (W := 0) (own_rm_anu l Z a0 hw [] a1 G1 da k cap bs h0 n0 Z0 SC P5 Bd0 g_a1 g_da h1 h2 h70) hZ (hw _ (List.mem_of_getElem? (i := 232) rfl)) (hw _ (List.mem_of_getElem? (i := 69) rfl)) (by decide) (by decide)) (g := (mkF m 5 #[.val (.ref a1), .val .null, .unset] [(.ref a1)])) rfl (by rw [hml]; rfl) (Steps.refl _) (a := a1) (by rw [e0]; exact q2) q2' (argsL := []) (rest := []) (lenOf own_pd_10 rfl) rfl (by show 2 * 0 + _ ≤ _; exact Nat.le_of_eq rfl) (Jvm.hb hby own_d_jdk_68_method_22_code_5) (fun _ _ => ⟨rfl, e0, Nat.le_of_ble_eq_true rfl, Nat.le_of_ble_eq_true rfl⟩)
    dsimp only [Pt.U, Pt.locs, Pt.cells, Pt.slots] at X1 l1 y1 z1 st1 hQ1
    subst y1 z1
    obtain ⟨rfl, N1, K1, hB1⟩ := hQ1
    have N3 : Fr n0 L1 := by rw [l1]; exact Fr.app N0 N1
    refine own_of (T' := T1) (f' := (mkF m 8 #[.val (.ref a1), .val .null, .unset] [(.ref a1)])) (fun t_ k_ => (st1.trans k_)) ?_
    obtain ⟨fs, hr, hrun, hended, hW, hsame⟩ := X1.leave (v := some (.ref a1)) (fun h => by rw [Bd.returns] at h; cases h)
    exact ⟨_, _, own_retA X1 hx Bd.returns rfl rfl rfl (Jvm.hb hby own_d_jdk_68_method_22_code_8) hr, hrun, hended, _, _, rfl, (by show own_Q_asa Z a1 (.null) own_nul G1 da k cap bs h0 n0 _ T1.heap _; exact ⟨rfl, N3, K1, hB1⟩), ⟨_, rfl⟩, hW, hsame.mono (by decide) (by decide)⟩
  · skip
    have K0 : Keep h0 h0 [a1, da] := Keep.refl _ _
    have neBd : a1 ≠ da := Bd0.1.ne Bd0.2.2.2.2.1 (by decide)
    have nsa : a2 ≠ a1 := S.1.ne Bd0.1 (by decide)
    have nsd : a2 ≠ da := S.1.ne Bd0.2.2.2.2.1 (by decide)
    refine own_of (T' := s₁) (f' := (mkF m 10 #[.val (.ref a1), .val (.ref a2), .unset] [(.ref a2)])) (fun t_ k_ => (XS.aloadN X0.here hx rfl (Jvm.hb hby own_d_jdk_68_method_22_code_0) rfl rfl (XS.ifnonnullYes X0.here hx rfl (pc0 := 1) (pc' := 9) rfl (Jvm.hb hby own_d_jdk_68_method_22_code_1) rfl (by decide) (by decide) (XS.aloadN X0.here hx rfl (Jvm.hb hby own_d_jdk_68_method_22_code_9) rfl rfl k_)))) ?_
    obtain ⟨cq5, kq5, q5a, q5b, q5c⟩ := isOf hZ e0 S.1
    obtain ⟨_, _, ⟨T4, L4, k4, n4⟩, -, X4, ⟨Lc4, hQ4, l4, y4, z4⟩, st4⟩ := X0.virtualBack hx (y := (⟨"java/lang/String", "length", "()I"⟩ : MethodName)) (z := (⟨"java/lang/String", "length", "()I"⟩ : MethodName)) hown (mvT hZ (hw _ (List.mem_of_getElem? (i := 90) rfl))) (mvT hZ (hw _ (List.mem_of_getElem? (i := 91) rfl))) (notFace_of_selects (args := #[]) (mvT hZ (hw _ (List.mem_of_getElem? (i := 93) rfl)))) (mvT hZ (hw _ (List.mem_of_getElem? (i := 93) rfl))) (mvT hZ (hw _ (List.mem_of_getElem? (i := 92) rfl))) (by decide) (backOf (W := 0) (own_rm_sle l Z a0 hw [] a2 G1 t kt cs h0 n0 Z0 SC P5 S) hZ (hw _ (List.mem_of_getElem? (i := 94) rfl)) (hw _ (List.mem_of_getElem? (i := 6) rfl)) (by decide) (by decide)) q5a q5c (g := (mkF m 10 #[.val (.ref a1), .val (.ref a2), .unset] [(.ref a2)])) rfl (by rw [hml]; rfl) (Steps.refl _) (argsL := []) (rest := []) (lenOf own_pd_7 rfl) rfl (by show 2 * 0 + _ ≤ _; exact Nat.le_of_eq rfl) (Jvm.hb hby own_d_jdk_68_method_22_code_10) (fun _ _ => ⟨rfl, e0, Nat.le_of_ble_eq_true rfl, Nat.le_of_ble_eq_true rfl⟩)
    dsimp only [Pt.U, Pt.locs, Pt.cells, Pt.slots] at X4 l4 y4 z4 st4 hQ4
    subst y4 z4
    obtain ⟨rfl, N4, e4⟩ := hQ4
    have N6 : Fr n0 L4 := by rw [l4]; exact Fr.app N0 N4
    obtain ⟨T7, X7, e7, st7⟩ := getF X4 hx hZ hown (host := "") (Or.inl (hw _ (List.mem_of_getElem? (i := 100) rfl))) Via.refl e4 Bd0.2.2.2.1 (g := (mkF m 16 #[.val (.ref a1), .val (.ref a2), .val (.int (Int32.ofNat (cs.length)))] [(.ref a1), (.ref a1)])) rfl rfl (Jvm.hb hby own_d_jdk_68_method_22_code_16)
    refine own_of (T' := T7) (f' := (mkF m 21 #[.val (.ref a1), .val (.ref a2), .val (.int (Int32.ofNat (cs.length)))] [(.int ((Int32.ofNat (bs.length)) + (Int32.ofNat (cs.length)))), (.ref a1)])) (fun t_ k_ => (st4.trans (XS.istoreN X4.here hx rfl (Jvm.hb hby own_d_jdk_68_method_22_code_13) rfl (l' := #[.val (.ref a1), .val (.ref a2), .val (.int (Int32.ofNat (cs.length)))]) rfl (XS.aloadN X4.here hx rfl (Jvm.hb hby own_d_jdk_68_method_22_code_14) rfl rfl (XS.aloadN X4.here hx rfl (Jvm.hb hby own_d_jdk_68_method_22_code_15) rfl rfl (st7 _ (XS.iloadN X7.here hx rfl (Jvm.hb hby own_d_jdk_68_method_22_code_19) rfl (XS.iadd X7.here hx rfl (Jvm.hb hby own_d_jdk_68_method_22_code_20) rfl k_)))))))) ?_
    rw [own_add]
    obtain ⟨cq9, q9, q9'⟩ := Bd0.1.cell
    obtain ⟨_, _, ⟨T8, L8, k8, n8⟩, -, X8, ⟨Lc8, hQ8, l8, y8, z8⟩, st8⟩ := X7.privateBack hx (y := (⟨"java/lang/AbstractStringBuilder", "ensureCapacityInternal", "(I)V"⟩ : MethodName)) hown (mvT hZ (hw _ (List.mem_of_getElem? (i := 102) rfl))) (mvT hZ (hw _ (List.mem_of_getElem? (i := 103) rfl))) (own_selP (mvT hZ (hw _ (List.mem_of_getElem? (i := 105) rfl))) (Cond.privateMethod_at (mvP hZ (hw _ (List.mem_of_getElem? (i := 104) rfl)) (args := #[]))) (mvT hZ (hw _ (List.mem_of_getElem? (i := 103) rfl))) (by decide)) (Cond.privateMethod_at (mvP hZ (hw _ (List.mem_of_getElem? (i := 104) rfl)) (args := #[]))) (mvT hZ (hw _ (List.mem_of_getElem? (i := 106) rfl))) (by decide) (backOf (W := 0) (own_rm_eci l Z a0 hw [] a1 (Int32.ofNat (bs.length + cs.length)) da k cap bs (bs.length + cs.length) h0 n0 Z0 Bd0 g_a1 h1 h2 h70 rfl) hZ (hw _ (List.mem_of_getElem? (i := 106) rfl)) (hw _ (List.mem_of_getElem? (i := 69) rfl)) (by decide) (by decide)) (g := (mkF m 21 #[.val (.ref a1), .val (.ref a2), .val (.int (Int32.ofNat (cs.length)))] [(.int (Int32.ofNat (bs.length + cs.length))), (.ref a1)])) rfl (by rw [hml]; rfl) (Steps.refl _) (a := a1) (by rw [e7]; exact q9) q9' (argsL := [(.int (Int32.ofNat (bs.length + cs.length)))]) (rest := []) (lenOf own_pd_8 rfl) rfl (by show 2 * 0 + _ ≤ _; exact Nat.le_of_eq rfl) (Jvm.hb hby own_d_jdk_68_method_22_code_21) (fun _ _ => ⟨rfl, e7, Nat.le_of_ble_eq_true rfl, Nat.le_of_ble_eq_true rfl⟩)
    dsimp only [Pt.U, Pt.locs, Pt.cells, Pt.slots] at X8 l8 y8 z8 st8 hQ8
    subst y8 z8
    obtain ⟨rfl, N8, K8, db, kb, hdb, Bd8⟩ := hQ8
    have N10 : Fr n0 L8 := by rw [l8]; exact Fr.app N6 N8
    have f11 := K0.trans K8 (allS (Or.inl (List.mem_of_getElem? (i := 0) rfl)) all0)
    have f12 := Nat.le_trans Z0 K8.1
    have f16 := Bd0.1.keep K8
    have f17 := Bd0.2.2.2.2.1.keep K8
    have f18 := Bd0.2.2.2.2.2.1.keep K8 (ninS (Ne.symm neBd) nin0)
    have f19 := own_stakeep SC K8 (allS (own_plainE Bd0.1) all0)
    have g_db : n0 ≤ db := hdb.elim (fun q => q ▸ g_da) (fun q => Nat.le_trans Z0 q)
    have in_db : db ∈ [a1, da] ∨ h0.size ≤ db := hdb.elim (fun q => Or.inl (q ▸ List.mem_cons_of_mem _ (List.mem_singleton.mpr rfl))) Or.inr
    have ne_db : a1 ≠ db := Bd8.1.ne Bd8.2.2.2.2.1 (by decide)
    have hge := (own_grow_ge cap (bs.length + cs.length)).2
    have S1 := own_S_keep S K8 (ninS nsa nin0) (ninS (Ne.symm (Bd0.1.neArv S.2.2.2 (hw _ (List.mem_of_getElem? (i := 60) rfl)))) nin0)
    obtain ⟨T20, X20, e20, st20⟩ := getF X8 hx hZ hown (host := "") (Or.inl (hw _ (List.mem_of_getElem? (i := 100) rfl))) Via.refl rfl Bd8.2.2.2.1 (g := (mkF m 26 #[.val (.ref a1), .val (.ref a2), .val (.int (Int32.ofNat (cs.length)))] [(.ref a1), (.ref a1)])) rfl rfl (Jvm.hb hby own_d_jdk_68_method_22_code_26)
    refine own_of (T' := T20) (f' := (mkF m 30 #[.val (.ref a1), .val (.ref a2), .val (.int (Int32.ofNat (cs.length)))] [(.ref a2), (.int (Int32.ofNat (bs.length))), (.ref a1)])) (fun t_ k_ => (st8.trans (XS.aloadN X8.here hx rfl (Jvm.hb hby own_d_jdk_68_method_22_code_24) rfl rfl (XS.aloadN X8.here hx rfl (Jvm.hb hby own_d_jdk_68_method_22_code_25) rfl rfl (st20 _ (XS.aloadN X20.here hx rfl (Jvm.hb hby own_d_jdk_68_method_22_code_29) rfl rfl k_)))))) ?_
    obtain ⟨cq22, q22, q22'⟩ := Bd8.1.cell
    obtain ⟨_, _, ⟨T21, L21, k21, n21⟩, -, X21, ⟨Lc21, hQ21, l21, y21, z21⟩, st21⟩ := X20.privateBack hx (y := (⟨"java/lang/AbstractStringBuilder", "putStringAt", "(ILjava/lang/String;)V"⟩ : MethodName)) hown (mvT hZ (hw _ (List.mem_of_getElem? (i := 133) rfl))) (mvT hZ (hw _ (List.mem_of_getElem? (i := 134) rfl))) (own_selP (mvT hZ (hw _ (List.mem_of_getElem? (i := 136) rfl))) (Cond.privateMethod_at (mvP hZ (hw _ (List.mem_of_getElem? (i := 135) rfl)) (args := #[]))) (mvT hZ (hw _ (List.mem_of_getElem? (i := 134) rfl))) (by decide)) (Cond.privateMethod_at (mvP hZ (hw _ (List.mem_of_getElem? (i := 135) rfl)) (args := #[]))) (mvT hZ (hw _ (List.mem_of_getElem? (i := 137) rfl))) (by decide) (backOf (W := 0) (own_rm_put l Z a0 hw [] a1 (Int32.ofNat (bs.length)) a2 G1 t kt cs db kb (own_grow cap (bs.length + cs.length)) bs T8.heap n0 f12 f19 P5 S1 Bd8 hge (by omega) g_db rfl) hZ (hw _ (List.mem_of_getElem? (i := 137) rfl)) (hw _ (List.mem_of_getElem? (i := 69) rfl)) (by decide) (by decide)) (g := (mkF m 30 #[.val (.ref a1), .val (.ref a2), .val (.int (Int32.ofNat (cs.length)))] [(.ref a2), (.int (Int32.ofNat (bs.length))), (.ref a1)])) rfl (by rw [hml]; rfl) (Steps.refl _) (a := a1) (by rw [e20]; exact q22) q22' (argsL := [(.int (Int32.ofNat (bs.length))), (.ref a2)]) (rest := []) (lenOf own_pd_11 rfl) rfl (by show 2 * 0 + _ ≤ _; exact Nat.le_of_eq rfl) (Jvm.hb hby own_d_jdk_68_method_22_code_30) (fun _ _ => ⟨rfl, e20, Nat.le_of_ble_eq_true rfl, Nat.le_of_ble_eq_true rfl⟩)
    dsimp only [Pt.U, Pt.locs, Pt.cells, Pt.slots] at X21 l21 y21 z21 st21 hQ21
    subst y21 z21
    obtain ⟨rfl, N21, K21, Edb, Vn⟩ := hQ21
    have N23 : Fr n0 L21 := by rw [l21]; exact Fr.app N10 N21
    have f24 := f11.trans K21 (allS in_db all0)
    have f25 := Nat.le_trans f12 K21.1
    have f26 := own_stakeep f19 K21 (allS (own_plainE Bd8.2.2.2.2.1) all0)
    have f27 := Bd8.1.keep K21
    have f28 := Bd8.2.1.keep K21 (ninS ne_db nin0)
    have f29 := Bd8.2.2.1.keep K21 (ninS ne_db nin0)
    have f30 := Bd8.2.2.2.1.keep K21 (ninS ne_db nin0)
    have f31 := Bd8.2.2.2.2.1.keep K21
    obtain ⟨T33, X33, e33, st33⟩ := getF X21 hx hZ hown (host := "") (Or.inl (hw _ (List.mem_of_getElem? (i := 100) rfl))) Via.refl rfl f30 (g := (mkF m 35 #[.val (.ref a1), .val (.ref a2), .val (.int (Int32.ofNat (cs.length)))] [(.ref a1), (.ref a1)])) rfl rfl (Jvm.hb hby own_d_jdk_68_method_22_code_35)
    refine own_of (T' := T33) (f' := (mkF m 40 #[.val (.ref a1), .val (.ref a2), .val (.int (Int32.ofNat (cs.length)))] [(.int ((Int32.ofNat (bs.length)) + (Int32.ofNat (cs.length)))), (.ref a1)])) (fun t_ k_ => (st21.trans (XS.aloadN X21.here hx rfl (Jvm.hb hby own_d_jdk_68_method_22_code_33) rfl rfl (XS.dup X21.here hx rfl (Jvm.hb hby own_d_jdk_68_method_22_code_34) rfl rfl (st33 _ (XS.iloadN X33.here hx rfl (Jvm.hb hby own_d_jdk_68_method_22_code_38) rfl (XS.iadd X33.here hx rfl (Jvm.hb hby own_d_jdk_68_method_22_code_39) rfl k_))))))) ?_
    rw [own_add]
    obtain ⟨T34, h34, X34, e34, W34, st34⟩ := putF X33 hx hZ hown (host := "") (Or.inl (hw _ (List.mem_of_getElem? (i := 100) rfl))) Via.refl e33 f30 f27 (Or.inl (hw _ (List.mem_of_getElem? (i := 101) rfl))) (hw _ (List.mem_of_getElem? (i := 60) rfl)) (ty := .int) (by decide) rfl rfl (g := (mkF m 40 #[.val (.ref a1), .val (.ref a2), .val (.int (Int32.ofNat (cs.length)))] [(.int (Int32.ofNat (bs.length + cs.length))), (.ref a1)])) rfl rfl (Jvm.hb hby own_d_jdk_68_method_22_code_40)
    refine own_of (T' := T34) (f' := (mkF m 43 #[.val (.ref a1), .val (.ref a2), .val (.int (Int32.ofNat (cs.length)))] [])) (fun t_ k_ => (st34 _ k_)) ?_
    have N34 := Fr.snoc X34 N23 g_a1
    have f35 := f24.wr W34 (Or.inl (List.mem_of_getElem? (i := 0) rfl))
    have f36 := Nat.le_trans f25 (Keep.of_wr W34).1
    have f37 := f26.wr W34
    have f38 := f27.wr W34
    have f39 := f28.other W34 (Or.inr (slot_ne (Or.inl (hw _ (List.mem_of_getElem? (i := 74) rfl))) (Or.inl (hw _ (List.mem_of_getElem? (i := 101) rfl))) (by decide) (t := (.array .byte)) (t' := .int) (by decide) (by decide)))
    have f40 := f29.other W34 (Or.inr (slot_ne (Or.inl (hw _ (List.mem_of_getElem? (i := 76) rfl))) (Or.inl (hw _ (List.mem_of_getElem? (i := 101) rfl))) (by decide) (t := .byte) (t' := .int) (by decide) (by decide)))
    have f41 := f30.same W34
    have f42 := f31.wr W34
    have f43 := Vn.other W34 ne_db.symm
    refine own_of (T' := T34) (f' := (mkF m 44 #[.val (.ref a1), .val (.ref a2), .val (.int (Int32.ofNat (cs.length)))] [(.ref a1)])) (fun t_ k_ => (XS.aloadN X34.here hx rfl (Jvm.hb hby own_d_jdk_68_method_22_code_43) rfl rfl k_)) ?_
    obtain ⟨fs, hr, hrun, hended, hW, hsame⟩ := X34.leave (v := some (.ref a1)) (fun h => by rw [Bd.returns] at h; cases h)
    exact ⟨_, _, own_retA X34 hx Bd.returns rfl rfl rfl (Jvm.hb hby own_d_jdk_68_method_22_code_44) hr, hrun, hended, _, _, rfl, (by show own_Q_asa Z a1 (.ref a2) cs G1 da k cap bs h0 n0 _ T34.heap _; rw [e34]; exact ⟨rfl, N34, f35, db, kb, hdb, f38, f39, f40, by rw [List.length_append, own_byl]; exact f41, f42, f43, by rw [List.length_append, own_byl]; exact hge⟩), ⟨_, rfl⟩, hW, hsame.mono (by decide) (by decide)⟩
theorem own_ef_sba (m : MethodId) (a1 : Addr) (u : Value) (hv_u : u.isRef = true) : entryFrame m #[(.ref a1), u] 2 = mkF m 0 #[.val (.ref a1), .val u] [] := by
  simp [entryFrame, mkF, argsToLocals, own_cR, own_cN, own_cI, own_cat1 hv_u]
def own_Q_sba (Z : State) (a1 : Addr) (u : Value) (cs : List Int32) (G1 : Int32) (da : Addr) (k : ClassId) (cap : Nat) (bs : List Value) (h0 : Heap) (n0 : Nat) (v : Option Value) (h : Heap) (L : List Loc) : Prop := v = some (.ref a1) ∧ Fr n0 L ∧ Keep h0 h [a1, da] ∧ ∃ da' k', (da' = da ∨ h0.size ≤ da') ∧ own_B Z h a1 da' k' (own_grow cap (bs.length + cs.length)) (bs ++ own_by cs)
theorem own_d_jdk_67_method_7_code_0 : decode jdk_67_method_7_code 0 = .ok (.aload_n 0, 1) := by decide +kernel
theorem own_d_jdk_67_method_7_code_1 : decode jdk_67_method_7_code 1 = .ok (.aload_n 1, 1) := by decide +kernel
theorem own_d_jdk_67_method_7_code_2 : decode jdk_67_method_7_code 2 = .ok (.invokespecial 29, 3) := by decide +kernel
theorem own_pd_12 : parseMethodDescriptor "(Ljava/lang/String;)Ljava/lang/AbstractStringBuilder;" = some ⟨[(.object "java/lang/String")], some (.object "java/lang/AbstractStringBuilder")⟩ := by decide +kernel
theorem own_d_jdk_67_method_7_code_5 : decode jdk_67_method_7_code 5 = .ok (.pop, 1) := by decide +kernel
theorem own_d_jdk_67_method_7_code_6 : decode jdk_67_method_7_code 6 = .ok (.aload_n 0, 1) := by decide +kernel
theorem own_d_jdk_67_method_7_code_7 : decode jdk_67_method_7_code 7 = .ok (.areturn, 1) := by decide +kernel
set_option maxRecDepth 65536 in
set_option maxHeartbeats 40000000 in
theorem own_rm_sba (l : Launch) (Z : State) (a0 : Array Value) (hw : ∀ d ∈ tables_1, d.before a0 Z = true) (ws : List Jvm.Cond) (a1 : Addr) (u : Value) (cs : List Int32) (G1 : Int32) (da : Addr) (k : ClassId) (cap : Nat) (bs : List Value) (h0 : Heap) (n0 : Nat) (Z0 : n0 ≤ h0.size) (SC : Sta Z h0 "java/lang/String" "COMPACT_STRINGS" "Z" (.int G1)) (P5 : ¬ (G1 = (0 : Int32))) (Bd0 : own_B Z h0 a1 da k cap bs) (g_a1 : n0 ≤ a1) (g_da : n0 ≤ da) (h1 : bs.length + cs.length < 400) (h2 : cap < 400) (h70 : own_grow cap (bs.length + cs.length) ≤ 70) (hO : own_O Z h0 u cs) :
    MetFree l (⟨"java/lang/StringBuilder", "append", "(Ljava/lang/String;)Ljava/lang/StringBuilder;"⟩ : MethodName) (head1 (Jvm.Cond.code (⟨"java/lang/StringBuilder", "append", "(Ljava/lang/String;)Ljava/lang/StringBuilder;"⟩ : MethodName) jdk_67_method_7_code 2 (some (.object "java/lang/StringBuilder")) :: ws) ({ frames := 6, cells := 1, slots := 70, locals := 90 } : Room)) (fun a U => a = #[(.ref a1), u] ∧ Z.Warmed39 U.vm ∧ U.heap = h0) (fun _ _ _ _ _ => True) (fun _ U o U' => ∃ v L, o = .returned v ∧ own_Q_sba Z a1 u cs G1 da k cap bs h0 n0 v U'.heap L ∧ FrameEnd U o U' L ({ frames := 6, cells := 1, slots := 70, locals := 90 } : Room).cells ({ frames := 6, cells := 1, slots := 70, locals := 90 } : Room).slots) := by
  refine MetFree.of_bodySF (plainFor_of_name own_pn_5) hisR ?_
  intro p e s m args below meth c s₁ Bd hml0 hP hK
  obtain ⟨rfl, hZ, hh⟩ := hP
  have hx := Bd.exec
  have hby := Bd.bytes
  have hml : c.maxLocals = 2 := hml0
  have hown : s.vm.findClass "java/lang/StringBuilder" = some m.cls := findClass_of_methodNamed Bd.named
  have hnm := (name_of_methodNamed Bd.named Bd.method).1
  have X0 : Stand p l e ({ frames := 6, cells := 1, slots := 70, locals := 90 } : Room) s m #[(.ref a1), u] below meth c s₁ [] 0 0 := Stand.of_body Bd
  have e0 : s₁.heap = h0 := by rw [← hh, Bd.state]; rfl
  have N0 := Fr.nil n0
  refine own_start (own_ef_sba m a1 u ((own_O_ref hO).1)) ?_
  have ru := (own_O_ref hO).1
  refine own_of (T' := s₁) (f' := (mkF m 2 #[.val (.ref a1), .val u] [u, (.ref a1)])) (fun t_ k_ => (XS.aloadN X0.here hx rfl (Jvm.hb hby own_d_jdk_67_method_7_code_0) rfl rfl (XS.aloadN X0.here hx rfl (Jvm.hb hby own_d_jdk_67_method_7_code_1) rfl ru k_))) ?_
  obtain ⟨_, _, ⟨T1, L1, k1, n1⟩, -, X1, ⟨Lc1, hQ1, l1, y1, z1⟩, st1⟩ := superBack X0 hx hZ (y := (⟨"java/lang/AbstractStringBuilder", "append", "(Ljava/lang/String;)Ljava/lang/AbstractStringBuilder;"⟩ : MethodName)) hown (hw _ (List.mem_of_getElem? (i := 85) rfl)) (own_same (hw _ (List.mem_of_getElem? (i := 88) rfl)) (hw _ (List.mem_of_getElem? (i := 105) rfl)) rfl (by decide)) (hw _ (List.mem_of_getElem? (i := 86) rfl)) (hw _ (List.mem_of_getElem? (i := 87) rfl)) (by decide) (backOf (W := 0) (own_rm_asa l Z a0 hw [] a1 u cs G1 da k cap bs h0 n0 Z0 SC P5 Bd0 g_a1 g_da h1 h2 h70 hO) hZ (hw _ (List.mem_of_getElem? (i := 89) rfl)) (hw _ (List.mem_of_getElem? (i := 69) rfl)) (by decide) (by decide)) e0 (Ins.self Bd0.1) (g := (mkF m 2 #[.val (.ref a1), .val u] [u, (.ref a1)])) rfl (by rw [hml]; rfl) (hw _ (List.mem_of_getElem? (i := 89) rfl)) (argsL := [u]) (rest := []) (lenOf own_pd_12 rfl) rfl (by show 2 * 0 + _ ≤ _; exact Nat.le_of_eq rfl) (Jvm.hb hby own_d_jdk_67_method_7_code_2) (fun _ _ => ⟨rfl, e0, Nat.le_of_ble_eq_true rfl, Nat.le_of_ble_eq_true rfl⟩)
  dsimp only [Pt.U, Pt.locs, Pt.cells, Pt.slots] at X1 l1 y1 z1 st1 hQ1
  subst y1 z1
  obtain ⟨rfl, N1, K1, hB1⟩ := hQ1
  have N2 : Fr n0 L1 := by rw [l1]; exact Fr.app N0 N1
  refine own_of (T' := T1) (f' := (mkF m 7 #[.val (.ref a1), .val u] [(.ref a1)])) (fun t_ k_ => (st1.trans (XS.pop X1.here hx rfl (Jvm.hb hby own_d_jdk_67_method_7_code_5) rfl rfl (XS.aloadN X1.here hx rfl (Jvm.hb hby own_d_jdk_67_method_7_code_6) rfl rfl k_)))) ?_
  obtain ⟨fs, hr, hrun, hended, hW, hsame⟩ := X1.leave (v := some (.ref a1)) (fun h => by rw [Bd.returns] at h; cases h)
  exact ⟨_, _, own_retA X1 hx Bd.returns rfl rfl rfl (Jvm.hb hby own_d_jdk_67_method_7_code_7) hr, hrun, hended, _, _, rfl, (by show own_Q_sba Z a1 u cs G1 da k cap bs h0 n0 _ T1.heap _; exact ⟨rfl, N2, K1, hB1⟩), ⟨_, rfl⟩, hW, hsame.mono (by decide) (by decide)⟩
theorem own_ef_asi (m : MethodId) (a1 : Addr) (p2 : Int32) : entryFrame m #[(.ref a1), (.int p2)] 2 = mkF m 0 #[.val (.ref a1), .val (.int p2)] [] := by first | (simp [entryFrame, mkF, argsToLocals, Value.category]; done) | rfl
def own_Q_asi (Z : State) (a1 : Addr) (p2 : Int32) (G1 : Int32) (h0 : Heap) (n0 : Nat) (v : Option Value) (h : Heap) (L : List Loc) : Prop := v = none ∧ Fr n0 L ∧ Keep h0 h [a1] ∧ ∃ da k, h0.size ≤ da ∧ own_B Z h a1 da k 16 []
theorem own_d_jdk_68_method_2_code_0 : decode jdk_68_method_2_code 0 = .ok (.aload_n 0, 1) := by decide +kernel
theorem own_d_jdk_68_method_2_code_1 : decode jdk_68_method_2_code 1 = .ok (.invokespecial 3, 3) := by decide +kernel
theorem own_d_jdk_68_method_2_code_4 : decode jdk_68_method_2_code 4 = .ok (.getstatic 18, 3) := by decide +kernel
theorem own_d_jdk_68_method_2_code_7 : decode jdk_68_method_2_code 7 = .ok (.ifCond .eq 18, 3) := by decide +kernel
theorem own_d_jdk_68_method_2_code_10 : decode jdk_68_method_2_code 10 = .ok (.aload_n 0, 1) := by decide +kernel
theorem own_d_jdk_68_method_2_code_11 : decode jdk_68_method_2_code 11 = .ok (.iload_n 1, 1) := by decide +kernel
theorem own_d_jdk_68_method_2_code_12 : decode jdk_68_method_2_code 12 = .ok (.newarray .byte, 2) := by decide +kernel
theorem own_d_jdk_68_method_2_code_14 : decode jdk_68_method_2_code 14 = .ok (.putfield 15, 3) := by decide +kernel
theorem own_d_jdk_68_method_2_code_17 : decode jdk_68_method_2_code 17 = .ok (.aload_n 0, 1) := by decide +kernel
theorem own_d_jdk_68_method_2_code_18 : decode jdk_68_method_2_code 18 = .ok (.iconst 0, 1) := by decide +kernel
theorem own_d_jdk_68_method_2_code_19 : decode jdk_68_method_2_code 19 = .ok (.putfield 22, 3) := by decide +kernel
theorem own_d_jdk_68_method_2_code_22 : decode jdk_68_method_2_code 22 = .ok (.goto 16, 3) := by decide +kernel
theorem own_d_jdk_68_method_2_code_38 : decode jdk_68_method_2_code 38 = .ok (.return_, 1) := by decide +kernel
set_option maxRecDepth 65536 in
set_option maxHeartbeats 40000000 in
theorem own_rm_asi (l : Launch) (Z : State) (a0 : Array Value) (hw : ∀ d ∈ tables_1, d.before a0 Z = true) (ws : List Jvm.Cond) (a1 : Addr) (p2 : Int32) (G1 : Int32) (h0 : Heap) (n0 : Nat) (Z0 : n0 ≤ h0.size) (SC : Sta Z h0 "java/lang/String" "COMPACT_STRINGS" "Z" (.int G1)) (P5 : ¬ (G1 = (0 : Int32))) (E1 : Exa Z h0 a1 "java/lang/StringBuilder") (F1 : Fld Z h0 a1 "java/lang/AbstractStringBuilder" "value" "[B" .null) (F2 : Fld Z h0 a1 "java/lang/AbstractStringBuilder" "coder" "B" (.int 0)) (F3 : Fld Z h0 a1 "java/lang/AbstractStringBuilder" "count" "I" (.int 0)) (g_a1 : n0 ≤ a1) (hp2 : p2 = 16) :
    MetFree l (⟨"java/lang/AbstractStringBuilder", "<init>", "(I)V"⟩ : MethodName) (head1 (Jvm.Cond.code (⟨"java/lang/AbstractStringBuilder", "<init>", "(I)V"⟩ : MethodName) jdk_68_method_2_code 2 none :: ws) ({ frames := 1, cells := 1, slots := 16, locals := 12 } : Room)) (fun a U => a = #[(.ref a1), (.int p2)] ∧ Z.Warmed39 U.vm ∧ U.heap = h0) (fun _ _ _ _ _ => True) (fun _ U o U' => ∃ v L, o = .returned v ∧ own_Q_asi Z a1 p2 G1 h0 n0 v U'.heap L ∧ FrameEnd U o U' L ({ frames := 1, cells := 1, slots := 16, locals := 12 } : Room).cells ({ frames := 1, cells := 1, slots := 16, locals := 12 } : Room).slots) := by
  refine MetFree.of_bodySF (plainFor_of_name own_pn_3) hisR ?_
  intro p e s m args below meth c s₁ Bd hml0 hP hK
  obtain ⟨rfl, hZ, hh⟩ := hP
  have hx := Bd.exec
  have hby := Bd.bytes
  have hml : c.maxLocals = 2 := hml0
  have hown : s.vm.findClass "java/lang/AbstractStringBuilder" = some m.cls := findClass_of_methodNamed Bd.named
  have hnm := (name_of_methodNamed Bd.named Bd.method).1
  have X0 : Stand p l e ({ frames := 1, cells := 1, slots := 16, locals := 12 } : Room) s m #[(.ref a1), (.int p2)] below meth c s₁ [] 0 0 := Stand.of_body Bd
  have e0 : s₁.heap = h0 := by rw [← hh, Bd.state]; rfl
  have N0 := Fr.nil n0
  refine own_start (own_ef_asi m a1 p2 ) ?_
  subst hp2
  have K0 : Keep h0 h0 [a1] := Keep.refl _ _
  obtain ⟨T1, X1, e1, st1⟩ := initO X0 hx hZ hown (hw _ (List.mem_of_getElem? (i := 71) rfl)) (hw _ (List.mem_of_getElem? (i := 24) rfl)) (hw _ (List.mem_of_getElem? (i := 25) rfl)) e0 (g := (mkF m 1 #[.val (.ref a1), .val (.int (16 : Int32))] [(.ref a1)])) rfl (by rw [hml]; rfl) rfl (Jvm.hb hby own_d_jdk_68_method_2_code_1) (by decide) (W := 0) (by show 2 * 0 + _ ≤ _; exact Nat.le_of_eq rfl) (by decide)
  obtain ⟨T2, X2, e2, st2⟩ := getS2 X1 hx hZ hown (host := "") (Or.inl (hw _ (List.mem_of_getElem? (i := 72) rfl))) Via.refl e1 SC (g := (mkF m 4 #[.val (.ref a1), .val (.int (16 : Int32))] [])) rfl (Jvm.hb hby own_d_jdk_68_method_2_code_4)
  refine own_of (T' := T2) (f' := (mkF m 12 #[.val (.ref a1), .val (.int (16 : Int32))] [(.int (16 : Int32)), (.ref a1)])) (fun t_ k_ => (XS.aloadN X0.here hx rfl (Jvm.hb hby own_d_jdk_68_method_2_code_0) rfl rfl (st1 _ (st2 _ (XS.ifNo X2.here hx rfl (Jvm.hb hby own_d_jdk_68_method_2_code_7) rfl ((if0 _ _).trans (feq P5).1) (XS.aloadN X2.here hx rfl (Jvm.hb hby own_d_jdk_68_method_2_code_10) rfl rfl (XS.iloadN X2.here hx rfl (Jvm.hb hby own_d_jdk_68_method_2_code_11) rfl k_))))))) ?_
  obtain ⟨T3, h3, k3, X3, e3, E3, A3, Ex3, st3⟩ := newPE X2 hx hZ (hw _ (List.mem_of_getElem? (i := 18) rfl)) e2 (g := (mkF m 12 #[.val (.ref a1), .val (.int (16 : Int32))] [(.int (16 : Int32)), (.ref a1)])) rfl (Jvm.hb hby own_d_jdk_68_method_2_code_12) rfl (by decide) (cap := 16) (by decide) (by decide) (by decide) (by decide) (ad := "[B") (by decide)
  obtain ⟨da, g3⟩ : ∃ z, z = h0.size := ⟨_, rfl⟩
  rw [← g3] at A3 Ex3 st3
  have ne_a1_da : a1 ≠ da := by rw [g3]; exact Nat.ne_of_lt E1.lt
  have g_da : n0 ≤ da := Nat.le_trans Z0 (Nat.le_of_eq g3.symm)
  have sz_da : h0.size ≤ da := Nat.le_trans K0.1 (Nat.le_of_eq g3.symm)
  have f4 := K0.ext E3
  have f5 := Nat.le_trans Z0 E3.1
  have f6 := E1.ext E3
  have f7 := F1.ext E3
  have f8 := F2.ext E3
  have f9 := F3.ext E3
  have f10 := SC.ext E3
  have f11 : Arv Z h3 da k3 .byte (16 : Int32) [(.int (0 : Int32)), (.int (0 : Int32)), (.int (0 : Int32)), (.int (0 : Int32)), (.int (0 : Int32)), (.int (0 : Int32)), (.int (0 : Int32)), (.int (0 : Int32)), (.int (0 : Int32)), (.int (0 : Int32)), (.int (0 : Int32)), (.int (0 : Int32)), (.int (0 : Int32)), (.int (0 : Int32)), (.int (0 : Int32)), (.int (0 : Int32))] (.int (0 : Int32)) := (Arv.new A3 (by decide)).pad (pad_rep [] (.int (0 : Int32)) 16)
  obtain ⟨T12, h12, X12, e12, W12, st12⟩ := putF X3 hx hZ hown (host := "") (Or.inl (hw _ (List.mem_of_getElem? (i := 73) rfl))) Via.refl e3 f7 f6 (Or.inl (hw _ (List.mem_of_getElem? (i := 74) rfl))) (hw _ (List.mem_of_getElem? (i := 60) rfl)) (ty := (.array .byte)) (by decide) rfl rfl (g := (mkF m 14 #[.val (.ref a1), .val (.int (16 : Int32))] [(.ref da), (.ref a1)])) rfl rfl (Jvm.hb hby own_d_jdk_68_method_2_code_14)
  refine own_of (T' := T12) (f' := (mkF m 17 #[.val (.ref a1), .val (.int (16 : Int32))] [])) (fun t_ k_ => (st3 _ (st12 _ k_))) ?_
  have N12 := Fr.snoc X12 N0 g_a1
  have f13 := f4.wr W12 (Or.inl (List.mem_of_getElem? (i := 0) rfl))
  have f14 := Nat.le_trans f5 (Keep.of_wr W12).1
  have f15 := f6.wr W12
  have f16 := f7.same W12
  have f17 := f8.other W12 (Or.inr (slot_ne (Or.inl (hw _ (List.mem_of_getElem? (i := 76) rfl))) (Or.inl (hw _ (List.mem_of_getElem? (i := 74) rfl))) (by decide) (t := .byte) (t' := (.array .byte)) (by decide) (by decide)))
  have f18 := f9.other W12 (Or.inr (slot_ne (Or.inl (hw _ (List.mem_of_getElem? (i := 101) rfl))) (Or.inl (hw _ (List.mem_of_getElem? (i := 74) rfl))) (by decide) (t := .int) (t' := (.array .byte)) (by decide) (by decide)))
  have f19 := f10.wr W12
  have f20 := Ex3.wr W12
  have f21 := f11.other W12 (Ne.symm ne_a1_da)
  obtain ⟨T22, h22, X22, e22, W22, st22⟩ := putF X12 hx hZ hown (host := "") (Or.inl (hw _ (List.mem_of_getElem? (i := 75) rfl))) Via.refl e12 f17 f15 (Or.inl (hw _ (List.mem_of_getElem? (i := 76) rfl))) (hw _ (List.mem_of_getElem? (i := 60) rfl)) (ty := .byte) (by decide) rfl rfl (g := (mkF m 19 #[.val (.ref a1), .val (.int (16 : Int32))] [(.int (0 : Int32)), (.ref a1)])) rfl rfl (Jvm.hb hby own_d_jdk_68_method_2_code_19)
  refine own_of (T' := T22) (f' := (mkF m 22 #[.val (.ref a1), .val (.int (16 : Int32))] [])) (fun t_ k_ => (XS.aloadN X12.here hx rfl (Jvm.hb hby own_d_jdk_68_method_2_code_17) rfl rfl (XS.iconst X12.here hx rfl (Jvm.hb hby own_d_jdk_68_method_2_code_18) (st22 _ k_)))) ?_
  have N22 := Fr.snoc X22 N12 g_a1
  have f23 := f13.wr W22 (Or.inl (List.mem_of_getElem? (i := 0) rfl))
  have f24 := Nat.le_trans f14 (Keep.of_wr W22).1
  have f25 := f15.wr W22
  have f26 := f16.other W22 (Or.inr (slot_ne (Or.inl (hw _ (List.mem_of_getElem? (i := 74) rfl))) (Or.inl (hw _ (List.mem_of_getElem? (i := 76) rfl))) (by decide) (t := (.array .byte)) (t' := .byte) (by decide) (by decide)))
  have f27 := f17.same W22
  have f28 := f18.other W22 (Or.inr (slot_ne (Or.inl (hw _ (List.mem_of_getElem? (i := 101) rfl))) (Or.inl (hw _ (List.mem_of_getElem? (i := 76) rfl))) (by decide) (t := .int) (t' := .byte) (by decide) (by decide)))
  have f29 := f19.wr W22
  have f30 := f20.wr W22
  have f31 := f21.other W22 (Ne.symm ne_a1_da)
  refine own_of (T' := T22) (f' := (mkF m 38 #[.val (.ref a1), .val (.int (16 : Int32))] [])) (fun t_ k_ => (XS.goto X22.here hx rfl (pc0 := 22) (pc' := 38) rfl (Jvm.hb hby own_d_jdk_68_method_2_code_22) (by decide) (by decide) k_)) ?_
  obtain ⟨fs, hr, hrun, hended, hW, hsame⟩ := X22.leave (v := none) (fun _ => rfl)
  exact ⟨_, _, X22.returnOut hx Bd.returns (Jvm.hb hby own_d_jdk_68_method_2_code_38) hr, hrun, hended, _, _, rfl, (by show own_Q_asi Z a1 16 G1 h0 n0 _ T22.heap _; rw [e22]; exact ⟨rfl, N22, f23, da, _, sz_da, f25, f26, f27, f28, f30, f31, by decide⟩), ⟨_, rfl⟩, hW, hsame.mono (by decide) (by decide)⟩
theorem own_ef_sbi (m : MethodId) (a1 : Addr) : entryFrame m #[(.ref a1)] 1 = mkF m 0 #[.val (.ref a1)] [] := by first | (simp [entryFrame, mkF, argsToLocals, Value.category]; done) | rfl
def own_Q_sbi (Z : State) (a1 : Addr) (G1 : Int32) (h0 : Heap) (n0 : Nat) (v : Option Value) (h : Heap) (L : List Loc) : Prop := v = none ∧ Fr n0 L ∧ Keep h0 h [a1] ∧ ∃ da k, h0.size ≤ da ∧ own_B Z h a1 da k 16 []
theorem own_d_jdk_67_method_1_code_0 : decode jdk_67_method_1_code 0 = .ok (.aload_n 0, 1) := by decide +kernel
theorem own_d_jdk_67_method_1_code_1 : decode jdk_67_method_1_code 1 = .ok (.bipush 16, 2) := by decide +kernel
theorem own_d_jdk_67_method_1_code_3 : decode jdk_67_method_1_code 3 = .ok (.invokespecial 1, 3) := by decide +kernel
theorem own_d_jdk_67_method_1_code_6 : decode jdk_67_method_1_code 6 = .ok (.return_, 1) := by decide +kernel
set_option maxRecDepth 65536 in
set_option maxHeartbeats 40000000 in
theorem own_rm_sbi (l : Launch) (Z : State) (a0 : Array Value) (hw : ∀ d ∈ tables_1, d.before a0 Z = true) (ws : List Jvm.Cond) (a1 : Addr) (G1 : Int32) (h0 : Heap) (n0 : Nat) (Z0 : n0 ≤ h0.size) (SC : Sta Z h0 "java/lang/String" "COMPACT_STRINGS" "Z" (.int G1)) (P5 : ¬ (G1 = (0 : Int32))) (E1 : Exa Z h0 a1 "java/lang/StringBuilder") (F1 : Fld Z h0 a1 "java/lang/AbstractStringBuilder" "value" "[B" .null) (F2 : Fld Z h0 a1 "java/lang/AbstractStringBuilder" "coder" "B" (.int 0)) (F3 : Fld Z h0 a1 "java/lang/AbstractStringBuilder" "count" "I" (.int 0)) (g_a1 : n0 ≤ a1) :
    MetFree l (⟨"java/lang/StringBuilder", "<init>", "()V"⟩ : MethodName) (head1 (Jvm.Cond.code (⟨"java/lang/StringBuilder", "<init>", "()V"⟩ : MethodName) jdk_67_method_1_code 1 none :: ws) ({ frames := 2, cells := 1, slots := 16, locals := 25 } : Room)) (fun a U => a = #[(.ref a1)] ∧ Z.Warmed39 U.vm ∧ U.heap = h0) (fun _ _ _ _ _ => True) (fun _ U o U' => ∃ v L, o = .returned v ∧ own_Q_sbi Z a1 G1 h0 n0 v U'.heap L ∧ FrameEnd U o U' L ({ frames := 2, cells := 1, slots := 16, locals := 25 } : Room).cells ({ frames := 2, cells := 1, slots := 16, locals := 25 } : Room).slots) := by
  refine MetFree.of_bodySF (plainFor_of_name own_pn_5) hisR ?_
  intro p e s m args below meth c s₁ Bd hml0 hP hK
  obtain ⟨rfl, hZ, hh⟩ := hP
  have hx := Bd.exec
  have hby := Bd.bytes
  have hml : c.maxLocals = 1 := hml0
  have hown : s.vm.findClass "java/lang/StringBuilder" = some m.cls := findClass_of_methodNamed Bd.named
  have hnm := (name_of_methodNamed Bd.named Bd.method).1
  have X0 : Stand p l e ({ frames := 2, cells := 1, slots := 16, locals := 25 } : Room) s m #[(.ref a1)] below meth c s₁ [] 0 0 := Stand.of_body Bd
  have e0 : s₁.heap = h0 := by rw [← hh, Bd.state]; rfl
  have N0 := Fr.nil n0
  refine own_start (own_ef_sbi m a1 ) ?_
  refine own_of (T' := s₁) (f' := (mkF m 3 #[.val (.ref a1)] [(.int (16 : Int32)), (.ref a1)])) (fun t_ k_ => (XS.aloadN X0.here hx rfl (Jvm.hb hby own_d_jdk_67_method_1_code_0) rfl rfl (XS.bipush X0.here hx rfl (Jvm.hb hby own_d_jdk_67_method_1_code_1) k_))) ?_
  obtain ⟨_, _, ⟨T1, L1, k1, n1⟩, -, X1, ⟨Lc1, hQ1, l1, y1, z1⟩, st1⟩ := X0.specialBack hx (y := (⟨"java/lang/AbstractStringBuilder", "<init>", "(I)V"⟩ : MethodName)) rfl hown (mvT hZ (hw _ (List.mem_of_getElem? (i := 65) rfl))) (mvT hZ (hw _ (List.mem_of_getElem? (i := 66) rfl))) (mvT hZ (hw _ (List.mem_of_getElem? (i := 70) rfl))) (by decide) (backOf (W := 0) (own_rm_asi l Z a0 hw [] a1 (16 : Int32) G1 h0 n0 Z0 SC P5 E1 F1 F2 F3 g_a1 rfl) hZ (hw _ (List.mem_of_getElem? (i := 70) rfl)) (hw _ (List.mem_of_getElem? (i := 69) rfl)) (by decide) (by decide)) (g := (mkF m 3 #[.val (.ref a1)] [(.int (16 : Int32)), (.ref a1)])) rfl (by rw [hml]; rfl) (Steps.refl _) (a := a1) (argsL := [(.int (16 : Int32))]) (rest := []) (lenOf own_pd_8 rfl) rfl (by show 2 * 0 + _ ≤ _; exact Nat.le_of_eq rfl) (Jvm.hb hby own_d_jdk_67_method_1_code_3) (fun _ _ => ⟨rfl, e0, Nat.le_of_ble_eq_true rfl, Nat.le_of_ble_eq_true rfl⟩)
  dsimp only [Pt.U, Pt.locs, Pt.cells, Pt.slots] at X1 l1 y1 z1 st1 hQ1
  subst y1 z1
  obtain ⟨rfl, N1, hR1⟩ := hQ1
  have N2 : Fr n0 L1 := by rw [l1]; exact Fr.app N0 N1
  refine own_of (T' := T1) (f' := (mkF m 6 #[.val (.ref a1)] [])) (fun t_ k_ => (st1.trans k_)) ?_
  obtain ⟨fs, hr, hrun, hended, hW, hsame⟩ := X1.leave (v := none) (fun _ => rfl)
  exact ⟨_, _, X1.returnOut hx Bd.returns (Jvm.hb hby own_d_jdk_67_method_1_code_6) hr, hrun, hended, _, _, rfl, (by show own_Q_sbi Z a1 G1 h0 n0 _ T1.heap _; exact ⟨rfl, N2, hR1⟩), ⟨_, rfl⟩, hW, hsame.mono (by decide) (by decide)⟩
theorem own_ef_ckl (m : MethodId) (p1 : Int32) (p2 : Int32) : entryFrame m #[(.int p1), (.int p2)] 2 = mkF m 0 #[.val (.int p1), .val (.int p2)] [] := by first | (simp [entryFrame, mkF, argsToLocals, Value.category]; done) | rfl
def own_Q_ckl (Z : State) (p1 : Int32) (p2 : Int32)  (h0 : Heap) (n0 : Nat) (v : Option Value) (h : Heap) (L : List Loc) : Prop := v = none ∧ Fr n0 L ∧ h = h0
theorem own_d_jdk_65_method_131_code_0 : decode jdk_65_method_131_code 0 = .ok (.iload_n 1, 1) := by decide +kernel
theorem own_d_jdk_65_method_131_code_1 : decode jdk_65_method_131_code 1 = .ok (.iload_n 0, 1) := by decide +kernel
theorem own_d_jdk_65_method_131_code_2 : decode jdk_65_method_131_code 2 = .ok (.if_icmp .ge 35, 3) := by decide +kernel
theorem own_d_jdk_65_method_131_code_37 : decode jdk_65_method_131_code 37 = .ok (.return_, 1) := by decide +kernel
set_option maxRecDepth 65536 in
set_option maxHeartbeats 40000000 in
theorem own_rm_ckl (l : Launch) (Z : State) (a0 : Array Value) (hw : ∀ d ∈ tables_1, d.before a0 Z = true) (ws : List Jvm.Cond) (p1 : Int32) (p2 : Int32)  (h0 : Heap) (n0 : Nat) (Z0 : n0 ≤ h0.size) (h1 : ¬ p2 < p1) :
    MetFree l (⟨"java/util/Arrays", "checkLength", "(II)V"⟩ : MethodName) (head1 (Jvm.Cond.code (⟨"java/util/Arrays", "checkLength", "(II)V"⟩ : MethodName) jdk_65_method_131_code 2 none :: ws) ({ frames := 0, cells := 0, slots := 0, locals := 0 } : Room)) (fun a U => a = #[(.int p1), (.int p2)] ∧ Z.Warmed39 U.vm ∧ U.heap = h0) (fun _ _ _ _ _ => True) (fun _ U o U' => ∃ v L, o = .returned v ∧ own_Q_ckl Z p1 p2  h0 n0 v U'.heap L ∧ FrameEnd U o U' L ({ frames := 0, cells := 0, slots := 0, locals := 0 } : Room).cells ({ frames := 0, cells := 0, slots := 0, locals := 0 } : Room).slots) := by
  refine MetFree.of_bodySF (plainFor_of_name own_pn_4) hisR ?_
  intro p e s m args below meth c s₁ Bd hml0 hP hK
  obtain ⟨rfl, hZ, hh⟩ := hP
  have hx := Bd.exec
  have hby := Bd.bytes
  have hml : c.maxLocals = 2 := hml0
  have hown : s.vm.findClass "java/util/Arrays" = some m.cls := findClass_of_methodNamed Bd.named
  have hnm := (name_of_methodNamed Bd.named Bd.method).1
  have X0 : Stand p l e ({ frames := 0, cells := 0, slots := 0, locals := 0 } : Room) s m #[(.int p1), (.int p2)] below meth c s₁ [] 0 0 := Stand.of_body Bd
  have e0 : s₁.heap = h0 := by rw [← hh, Bd.state]; rfl
  have N0 := Fr.nil n0
  refine own_start (own_ef_ckl m p1 p2 ) ?_
  refine own_of (T' := s₁) (f' := (mkF m 37 #[.val (.int p1), .val (.int p2)] [])) (fun t_ k_ => (XS.iloadN X0.here hx rfl (Jvm.hb hby own_d_jdk_65_method_131_code_0) rfl (XS.iloadN X0.here hx rfl (Jvm.hb hby own_d_jdk_65_method_131_code_1) rfl (XS.icmpYes X0.here hx rfl (pc0 := 2) (pc' := 37) rfl (Jvm.hb hby own_d_jdk_65_method_131_code_2) rfl (flt h1).2.1 (by decide) (by decide) k_)))) ?_
  obtain ⟨fs, hr, hrun, hended, hW, hsame⟩ := X0.leave (v := none) (fun _ => rfl)
  exact ⟨_, _, X0.returnOut hx Bd.returns (Jvm.hb hby own_d_jdk_65_method_131_code_37) hr, hrun, hended, _, _, rfl, (by show own_Q_ckl Z p1 p2  h0 n0 _ s₁.heap _; rw [e0]; exact ⟨rfl, N0, rfl⟩), ⟨_, rfl⟩, hW, hsame.mono (by decide) (by decide)⟩
theorem own_ef_crb (m : MethodId) (a1 : Addr) (p2 : Int32) (p3 : Int32) : entryFrame m #[(.ref a1), (.int p2), (.int p3)] 5 = mkF m 0 #[.val (.ref a1), .val (.int p2), .val (.int p3), .unset, .unset] [] := by first | (simp [entryFrame, mkF, argsToLocals, Value.category]; done) | rfl
def own_Q_crb (Z : State) (a1 : Addr) (p2 : Int32) (p3 : Int32) (k : ClassId) (cap n : Nat) (vs : List Value) (h0 : Heap) (n0 : Nat) (v : Option Value) (h : Heap) (L : List Loc) : Prop := ∃ b kb, v = some (.ref b) ∧ Fr n0 L ∧ Keep h0 h [] ∧ h0.size ≤ b ∧ Exa Z h b "[B" ∧ Arv Z h b kb .byte (Int32.ofNat (n)) (vs.take n) (.int 0)
theorem own_d_jdk_65_method_133_code_0 : decode jdk_65_method_133_code 0 = .ok (.iload_n 1, 1) := by decide +kernel
theorem own_d_jdk_65_method_133_code_1 : decode jdk_65_method_133_code 1 = .ok (.iload_n 2, 1) := by decide +kernel
theorem own_d_jdk_65_method_133_code_2 : decode jdk_65_method_133_code 2 = .ok (.invokestatic 343, 3) := by decide +kernel
theorem own_pd_13 : parseMethodDescriptor "(II)V" = some ⟨[.int, .int], none⟩ := by decide +kernel
theorem own_d_jdk_65_method_133_code_5 : decode jdk_65_method_133_code 5 = .ok (.iload_n 2, 1) := by decide +kernel
theorem own_d_jdk_65_method_133_code_6 : decode jdk_65_method_133_code 6 = .ok (.iload_n 1, 1) := by decide +kernel
theorem own_d_jdk_65_method_133_code_7 : decode jdk_65_method_133_code 7 = .ok (.isub, 1) := by decide +kernel
theorem own_d_jdk_65_method_133_code_8 : decode jdk_65_method_133_code 8 = .ok (.istore_n 3, 1) := by decide +kernel
theorem own_d_jdk_65_method_133_code_9 : decode jdk_65_method_133_code 9 = .ok (.iload_n 3, 1) := by decide +kernel
theorem own_d_jdk_65_method_133_code_10 : decode jdk_65_method_133_code 10 = .ok (.newarray .byte, 2) := by decide +kernel
theorem own_d_jdk_65_method_133_code_12 : decode jdk_65_method_133_code 12 = .ok (.astore 4, 2) := by decide +kernel
theorem own_d_jdk_65_method_133_code_14 : decode jdk_65_method_133_code 14 = .ok (.aload_n 0, 1) := by decide +kernel
theorem own_d_jdk_65_method_133_code_15 : decode jdk_65_method_133_code 15 = .ok (.iload_n 1, 1) := by decide +kernel
theorem own_d_jdk_65_method_133_code_16 : decode jdk_65_method_133_code 16 = .ok (.aload 4, 2) := by decide +kernel
theorem own_d_jdk_65_method_133_code_18 : decode jdk_65_method_133_code 18 = .ok (.iconst 0, 1) := by decide +kernel
theorem own_d_jdk_65_method_133_code_19 : decode jdk_65_method_133_code 19 = .ok (.aload_n 0, 1) := by decide +kernel
theorem own_d_jdk_65_method_133_code_20 : decode jdk_65_method_133_code 20 = .ok (.arraylength, 1) := by decide +kernel
theorem own_d_jdk_65_method_133_code_21 : decode jdk_65_method_133_code 21 = .ok (.iload_n 1, 1) := by decide +kernel
theorem own_d_jdk_65_method_133_code_22 : decode jdk_65_method_133_code 22 = .ok (.isub, 1) := by decide +kernel
theorem own_d_jdk_65_method_133_code_23 : decode jdk_65_method_133_code 23 = .ok (.iload_n 3, 1) := by decide +kernel
theorem own_d_jdk_65_method_133_code_24 : decode jdk_65_method_133_code 24 = .ok (.invokestatic 304, 3) := by decide +kernel
theorem own_d_jdk_65_method_133_code_27 : decode jdk_65_method_133_code 27 = .ok (.invokestatic 150, 3) := by decide +kernel
theorem own_d_jdk_65_method_133_code_30 : decode jdk_65_method_133_code 30 = .ok (.aload 4, 2) := by decide +kernel
theorem own_d_jdk_65_method_133_code_32 : decode jdk_65_method_133_code 32 = .ok (.areturn, 1) := by decide +kernel
set_option maxRecDepth 65536 in
set_option maxHeartbeats 40000000 in
theorem own_rm_crb (l : Launch) (Z : State) (a0 : Array Value) (hw : ∀ d ∈ tables_1, d.before a0 Z = true) (ws : List Jvm.Cond) (a1 : Addr) (p2 : Int32) (p3 : Int32) (k : ClassId) (cap n : Nat) (vs : List Value) (h0 : Heap) (n0 : Nat) (Z0 : n0 ≤ h0.size) (Va : Arv Z h0 a1 k .byte (Int32.ofNat (cap)) vs (.int 0)) (hl : vs.length = cap) (hc : n < cap) (h2 : cap < 400) (h64 : n ≤ 64) (hp2 : p2 = 0) (hp3 : p3 = (Int32.ofNat (n))) :
    MetFree l (⟨"java/util/Arrays", "copyOfRangeByte", "([BII)[B"⟩ : MethodName) (head1 (Jvm.Cond.code (⟨"java/util/Arrays", "copyOfRangeByte", "([BII)[B"⟩ : MethodName) jdk_65_method_133_code 5 (some (.array .byte)) :: ws) ({ frames := 1, cells := 1, slots := 64, locals := 18 } : Room)) (fun a U => a = #[(.ref a1), (.int p2), (.int p3)] ∧ Z.Warmed39 U.vm ∧ U.heap = h0) (fun _ _ _ _ _ => True) (fun _ U o U' => ∃ v L, o = .returned v ∧ own_Q_crb Z a1 p2 p3 k cap n vs h0 n0 v U'.heap L ∧ FrameEnd U o U' L ({ frames := 1, cells := 1, slots := 64, locals := 18 } : Room).cells ({ frames := 1, cells := 1, slots := 64, locals := 18 } : Room).slots) := by
  refine MetFree.of_bodySF (plainFor_of_name own_pn_4) hisR ?_
  intro p e s m args below meth c s₁ Bd hml0 hP hK
  obtain ⟨rfl, hZ, hh⟩ := hP
  have hx := Bd.exec
  have hby := Bd.bytes
  have hml : c.maxLocals = 5 := hml0
  have hown : s.vm.findClass "java/util/Arrays" = some m.cls := findClass_of_methodNamed Bd.named
  have hnm := (name_of_methodNamed Bd.named Bd.method).1
  have X0 : Stand p l e ({ frames := 1, cells := 1, slots := 64, locals := 18 } : Room) s m #[(.ref a1), (.int p2), (.int p3)] below meth c s₁ [] 0 0 := Stand.of_body Bd
  have e0 : s₁.heap = h0 := by rw [← hh, Bd.state]; rfl
  have N0 := Fr.nil n0
  refine own_start (own_ef_crb m a1 p2 p3 ) ?_
  subst hp2 hp3
  have K0 : Keep h0 h0 [] := Keep.refl _ _
  refine own_of (T' := s₁) (f' := (mkF m 2 #[.val (.ref a1), .val (.int (0 : Int32)), .val (.int (Int32.ofNat (n))), .unset, .unset] [(.int (Int32.ofNat (n))), (.int (0 : Int32))])) (fun t_ k_ => (XS.iloadN X0.here hx rfl (Jvm.hb hby own_d_jdk_65_method_133_code_0) rfl (XS.iloadN X0.here hx rfl (Jvm.hb hby own_d_jdk_65_method_133_code_1) rfl k_))) ?_
  obtain ⟨_, _, ⟨T1, L1, k1, n1⟩, -, X1, ⟨Lc1, hQ1, l1, y1, z1⟩, st1⟩ := Jvm.LawKit.callS X0 hx (y := (⟨"java/util/Arrays", "checkLength", "(II)V"⟩ : MethodName)) hown (mvT hZ (hw _ (List.mem_of_getElem? (i := 189) rfl))) (mvT hZ (hw _ (List.mem_of_getElem? (i := 190) rfl))) (mvT hZ (hw _ (List.mem_of_getElem? (i := 124) rfl))) (mvT hZ (hw _ (List.mem_of_getElem? (i := 191) rfl))) (by decide) (backOf (W := 0) (own_rm_ckl l Z a0 hw [] (0 : Int32) (Int32.ofNat (n)) h0 n0 Z0 (own_ng _ (by omega))) hZ (hw _ (List.mem_of_getElem? (i := 191) rfl)) (hw _ (List.mem_of_getElem? (i := 124) rfl)) (by decide) (by decide)) (g := (mkF m 2 #[.val (.ref a1), .val (.int (0 : Int32)), .val (.int (Int32.ofNat (n))), .unset, .unset] [(.int (Int32.ofNat (n))), (.int (0 : Int32))])) rfl (by rw [hml]; rfl) (argsL := [(.int (0 : Int32)), (.int (Int32.ofNat (n)))]) (rest := []) (lenOf own_pd_13 rfl) rfl (by show 2 * 0 + _ ≤ _; exact Nat.le_of_eq rfl) (Jvm.hb hby own_d_jdk_65_method_133_code_2) (fun _ _ => ⟨rfl, e0, Nat.le_of_ble_eq_true rfl, Nat.le_of_ble_eq_true rfl⟩)
  dsimp only [Pt.U, Pt.locs, Pt.cells, Pt.slots] at X1 l1 y1 z1 st1 hQ1
  subst y1 z1
  obtain ⟨rfl, N1, e1⟩ := hQ1
  have N2 : Fr n0 L1 := by rw [l1]; exact Fr.app N0 N1
  refine own_of (T' := T1) (f' := (mkF m 8 #[.val (.ref a1), .val (.int (0 : Int32)), .val (.int (Int32.ofNat (n))), .unset, .unset] [(.int ((Int32.ofNat (n)) - (0 : Int32)))])) (fun t_ k_ => (st1 _ (XS.iloadN X1.here hx rfl (Jvm.hb hby own_d_jdk_65_method_133_code_5) rfl (XS.iloadN X1.here hx rfl (Jvm.hb hby own_d_jdk_65_method_133_code_6) rfl (XS.isub X1.here hx rfl (Jvm.hb hby own_d_jdk_65_method_133_code_7) rfl k_))))) ?_
  rw [Int32.sub_zero]
  refine own_of (T' := T1) (f' := (mkF m 10 #[.val (.ref a1), .val (.int (0 : Int32)), .val (.int (Int32.ofNat (n))), .val (.int (Int32.ofNat (n))), .unset] [(.int (Int32.ofNat (n)))])) (fun t_ k_ => (XS.istoreN X1.here hx rfl (Jvm.hb hby own_d_jdk_65_method_133_code_8) rfl (l' := #[.val (.ref a1), .val (.int (0 : Int32)), .val (.int (Int32.ofNat (n))), .val (.int (Int32.ofNat (n))), .unset]) rfl (XS.iloadN X1.here hx rfl (Jvm.hb hby own_d_jdk_65_method_133_code_9) rfl k_))) ?_
  obtain ⟨T3, h3, k3, X3, e3, E3, A3, Ex3, st3⟩ := newPE X1 hx hZ (hw _ (List.mem_of_getElem? (i := 18) rfl)) e1 (g := (mkF m 10 #[.val (.ref a1), .val (.int (0 : Int32)), .val (.int (Int32.ofNat (n))), .val (.int (Int32.ofNat (n))), .unset] [(.int (Int32.ofNat (n)))])) rfl (Jvm.hb hby own_d_jdk_65_method_133_code_10) rfl (own_ng _ (by omega)) (cap := 64) (by rw [own_cl _ (by omega)]; exact h64) (by decide) (by decide) (by decide) (ad := "[B") (by decide)
  obtain ⟨b, g3⟩ : ∃ z, z = h0.size := ⟨_, rfl⟩
  rw [← g3] at A3 Ex3 st3
  have ne_a1_b : a1 ≠ b := by rw [g3]; exact Nat.ne_of_lt Va.lt
  have g_b : n0 ≤ b := Nat.le_trans Z0 (Nat.le_of_eq g3.symm)
  have sz_b : h0.size ≤ b := Nat.le_trans K0.1 (Nat.le_of_eq g3.symm)
  have f4 := K0.ext E3
  have f5 := Nat.le_trans Z0 E3.1
  have f6 := Va.ext E3
  have f7 : Arv Z h3 b k3 .byte (Int32.ofNat (n)) (List.replicate ((Int32.ofNat (n))).toNatClampNeg (.int 0)) (.int 0) := (Arv.new A3 (own_ng _ (by omega))).pad (pad_rep [] (.int 0) ((Int32.ofNat (n))).toNatClampNeg)
  refine own_of (T' := T3) (f' := (mkF m 20 #[.val (.ref a1), .val (.int (0 : Int32)), .val (.int (Int32.ofNat (n))), .val (.int (Int32.ofNat (n))), .val (.ref b)] [(.ref a1), (.int (0 : Int32)), (.ref b), (.int (0 : Int32)), (.ref a1)])) (fun t_ k_ => (st3 _ (XS.astore X3.here hx rfl (Jvm.hb hby own_d_jdk_65_method_133_code_12) rfl rfl (l' := #[.val (.ref a1), .val (.int (0 : Int32)), .val (.int (Int32.ofNat (n))), .val (.int (Int32.ofNat (n))), .val (.ref b)]) rfl (XS.aloadN X3.here hx rfl (Jvm.hb hby own_d_jdk_65_method_133_code_14) rfl rfl (XS.iloadN X3.here hx rfl (Jvm.hb hby own_d_jdk_65_method_133_code_15) rfl (XS.aload X3.here hx rfl (Jvm.hb hby own_d_jdk_65_method_133_code_16) rfl rfl (XS.iconst X3.here hx rfl (Jvm.hb hby own_d_jdk_65_method_133_code_18) (XS.aloadN X3.here hx rfl (Jvm.hb hby own_d_jdk_65_method_133_code_19) rfl rfl k_)))))))) ?_
  obtain ⟨cl8, Ar8, -, Sz8, Nn8, -⟩ := id f6
  refine own_of (T' := T3) (f' := (mkF m 21 #[.val (.ref a1), .val (.int (0 : Int32)), .val (.int (Int32.ofNat (n))), .val (.int (Int32.ofNat (n))), .val (.ref b)] [(.int (cl8.slots.size).toInt32), (.int (0 : Int32)), (.ref b), (.int (0 : Int32)), (.ref a1)])) (fun t_ k_ => (X3.arraylength hx (by first | (rw [e3]; exact Ar8.1) | exact Ar8.1) (State.isArrayOf_alike hZ.alike Ar8.2.1) (g := (mkF m 20 #[.val (.ref a1), .val (.int (0 : Int32)), .val (.int (Int32.ofNat (n))), .val (.int (Int32.ofNat (n))), .val (.ref b)] [(.ref a1), (.int (0 : Int32)), (.ref b), (.int (0 : Int32)), (.ref a1)])) rfl rfl (Jvm.hb hby own_d_jdk_65_method_133_code_20) _ k_)) ?_
  rw [len_of Sz8 Nn8]
  refine own_of (T' := T3) (f' := (mkF m 23 #[.val (.ref a1), .val (.int (0 : Int32)), .val (.int (Int32.ofNat (n))), .val (.int (Int32.ofNat (n))), .val (.ref b)] [(.int ((Int32.ofNat (cap)) - (0 : Int32))), (.int (0 : Int32)), (.ref b), (.int (0 : Int32)), (.ref a1)])) (fun t_ k_ => (XS.iloadN X3.here hx rfl (Jvm.hb hby own_d_jdk_65_method_133_code_21) rfl (XS.isub X3.here hx rfl (Jvm.hb hby own_d_jdk_65_method_133_code_22) rfl k_))) ?_
  rw [Int32.sub_zero]
  refine own_of (T' := T3) (f' := (mkF m 24 #[.val (.ref a1), .val (.int (0 : Int32)), .val (.int (Int32.ofNat (n))), .val (.int (Int32.ofNat (n))), .val (.ref b)] [(.int (Int32.ofNat (n))), (.int (Int32.ofNat (cap))), (.int (0 : Int32)), (.ref b), (.int (0 : Int32)), (.ref a1)])) (fun t_ k_ => (XS.iloadN X3.here hx rfl (Jvm.hb hby own_d_jdk_65_method_133_code_23) rfl k_)) ?_
  obtain ⟨_, _, ⟨T9, L9, k9, n9⟩, -, X9, ⟨Lc9, hQ9, l9, y9, z9⟩, st9⟩ := Jvm.LawKit.callS X3 hx (y := (⟨"java/lang/Math", "min", "(II)I"⟩ : MethodName)) hown (mvT hZ (hw _ (List.mem_of_getElem? (i := 126) rfl))) (mvT hZ (hw _ (List.mem_of_getElem? (i := 127) rfl))) (mvT hZ (hw _ (List.mem_of_getElem? (i := 118) rfl))) (mvT hZ (hw _ (List.mem_of_getElem? (i := 128) rfl))) (by decide) (backOf (W := 4) (own_rm_mmn l Z a0 hw [] (Int32.ofNat (cap)) (Int32.ofNat (n)) h3 n0 f5) hZ (hw _ (List.mem_of_getElem? (i := 128) rfl)) (hw _ (List.mem_of_getElem? (i := 118) rfl)) (by decide) (by decide)) (g := (mkF m 24 #[.val (.ref a1), .val (.int (0 : Int32)), .val (.int (Int32.ofNat (n))), .val (.int (Int32.ofNat (n))), .val (.ref b)] [(.int (Int32.ofNat (n))), (.int (Int32.ofNat (cap))), (.int (0 : Int32)), (.ref b), (.int (0 : Int32)), (.ref a1)])) rfl (by rw [hml]; rfl) (argsL := [(.int (Int32.ofNat (cap))), (.int (Int32.ofNat (n)))]) (rest := [(.int (0 : Int32)), (.ref b), (.int (0 : Int32)), (.ref a1)]) (lenOf own_pd_1 rfl) rfl (by show 2 * 0 + _ ≤ _; exact Nat.le_of_eq rfl) (Jvm.hb hby own_d_jdk_65_method_133_code_24) (fun _ _ => ⟨rfl, e3, Nat.le_of_ble_eq_true rfl, Nat.le_of_ble_eq_true rfl⟩)
  dsimp only [Pt.U, Pt.locs, Pt.cells, Pt.slots] at X9 l9 y9 z9 st9 hQ9
  subst y9 z9
  obtain ⟨rfl, N9, e9⟩ := hQ9
  have N10 : Fr n0 L9 := by rw [l9]; exact Fr.app N2 N9
  refine own_of (T' := T9) (f' := (mkF m 27 #[.val (.ref a1), .val (.int (0 : Int32)), .val (.int (Int32.ofNat (n))), .val (.int (Int32.ofNat (n))), .val (.ref b)] [(.int (own_min (Int32.ofNat (cap)) (Int32.ofNat (n)))), (.int (0 : Int32)), (.ref b), (.int (0 : Int32)), (.ref a1)])) (fun t_ k_ => (st9 _ k_)) ?_
  rw [own_minR _ _ (by omega) (by omega) hc]
  obtain ⟨T11, h11, L11, X11, e11, N11, K11, V11, st11⟩ := Jvm.RoadKit.cpA X9 hx hZ hown (hw _ (List.mem_of_getElem? (i := 129) rfl)) (hw _ (List.mem_of_getElem? (i := 132) rfl)) (hw _ (List.mem_of_getElem? (i := 130) rfl)) (hw _ (List.mem_of_getElem? (i := 131) rfl)) e9 f6 f7 (Or.inl ⟨rfl, rfl⟩) (sp := (0 : Int32)) (dp := (0 : Int32)) (nn := (Int32.ofNat (n))) (by decide) (by decide) (own_ng _ (by omega)) (by rw [own_cl cap (by omega), own_cl n (by omega)]; show 0 + n ≤ cap; omega) (by rw [own_cl n (by omega)]; show 0 + n ≤ n; omega) (us := (vs.take n)) (by rw [own_cl n (by omega)]; exact own_rngT vs _ n (by omega)) (by rw [List.length_replicate, own_cl n (by omega)]; show 0 + n ≤ n; omega) N10 g_b (g := (mkF m 27 #[.val (.ref a1), .val (.int (0 : Int32)), .val (.int (Int32.ofNat (n))), .val (.int (Int32.ofNat (n))), .val (.ref b)] [(.int (Int32.ofNat (n))), (.int (0 : Int32)), (.ref b), (.int (0 : Int32)), (.ref a1)])) rfl (by rw [hml]; rfl) (rest := []) rfl (Jvm.hb hby own_d_jdk_65_method_133_code_27) (by decide) (W := 0) (by show 2 * 0 + _ ≤ _; exact Nat.le_of_eq rfl) (by decide)
  have f12 := f4.trans K11 (allS (Or.inr sz_b) all0)
  have f13 := Nat.le_trans f5 K11.1
  have f14 := f6.keep K11 (ninS ne_a1_b nin0)
  have f15 := Ex3.keep K11
  refine own_of (T' := T11) (f' := (mkF m 30 #[.val (.ref a1), .val (.int (0 : Int32)), .val (.int (Int32.ofNat (n))), .val (.int (Int32.ofNat (n))), .val (.ref b)] [])) (fun t_ k_ => (st11 _ k_)) ?_
  have Vb : Arv Z h11 b k3 .byte (Int32.ofNat (n)) (vs.take n) (.int 0) := by
    have q_ := V11
    rw [own_cl n (by omega)] at q_
    have e_ : (List.replicate n (Value.int 0)).take (0 : Int32).toNatClampNeg ++ vs.take n ++ (List.replicate n (Value.int 0)).drop ((0 : Int32).toNatClampNeg + n) = vs.take n := by
      show (List.replicate n (Value.int 0)).take 0 ++ vs.take n ++ (List.replicate n (Value.int 0)).drop (0 + n) = _
      rw [List.take_zero, List.nil_append, List.drop_replicate, Nat.zero_add, Nat.sub_self, List.replicate_zero, List.append_nil]
    rw [e_] at q_
    exact q_
  refine own_of (T' := T11) (f' := (mkF m 32 #[.val (.ref a1), .val (.int (0 : Int32)), .val (.int (Int32.ofNat (n))), .val (.int (Int32.ofNat (n))), .val (.ref b)] [(.ref b)])) (fun t_ k_ => (XS.aload X11.here hx rfl (Jvm.hb hby own_d_jdk_65_method_133_code_30) rfl rfl k_)) ?_
  obtain ⟨fs, hr, hrun, hended, hW, hsame⟩ := X11.leave (v := some (.ref b)) (fun h => by rw [Bd.returns] at h; cases h)
  exact ⟨_, _, own_retA X11 hx Bd.returns rfl rfl rfl (Jvm.hb hby own_d_jdk_65_method_133_code_32) hr, hrun, hended, _, _, rfl, (by show own_Q_crb Z a1 0 (Int32.ofNat (n)) k cap n vs h0 n0 _ T11.heap _; rw [e11]; exact ⟨b, _, rfl, N11, f12, sz_b, f15, Vb⟩), ⟨_, rfl⟩, hW, hsame.mono (by decide) (by decide)⟩
theorem own_ef_cor (m : MethodId) (a1 : Addr) (p2 : Int32) (p3 : Int32) : entryFrame m #[(.ref a1), (.int p2), (.int p3)] 3 = mkF m 0 #[.val (.ref a1), .val (.int p2), .val (.int p3)] [] := by first | (simp [entryFrame, mkF, argsToLocals, Value.category]; done) | rfl
def own_Q_cor (Z : State) (a1 : Addr) (p2 : Int32) (p3 : Int32) (k : ClassId) (cap n : Nat) (vs : List Value) (h0 : Heap) (n0 : Nat) (v : Option Value) (h : Heap) (L : List Loc) : Prop := ∃ b kb, v = some (.ref b) ∧ Fr n0 L ∧ Keep h0 h [] ∧ h0.size ≤ b ∧ Exa Z h b "[B" ∧ Arv Z h b kb .byte (Int32.ofNat (n)) (vs.take n) (.int 0)
theorem own_d_jdk_65_method_132_code_0 : decode jdk_65_method_132_code 0 = .ok (.iload_n 1, 1) := by decide +kernel
theorem own_d_jdk_65_method_132_code_1 : decode jdk_65_method_132_code 1 = .ok (.ifCond .ne 9, 3) := by decide +kernel
theorem own_d_jdk_65_method_132_code_4 : decode jdk_65_method_132_code 4 = .ok (.iload_n 2, 1) := by decide +kernel
theorem own_d_jdk_65_method_132_code_5 : decode jdk_65_method_132_code 5 = .ok (.aload_n 0, 1) := by decide +kernel
theorem own_d_jdk_65_method_132_code_6 : decode jdk_65_method_132_code 6 = .ok (.arraylength, 1) := by decide +kernel
theorem own_d_jdk_65_method_132_code_7 : decode jdk_65_method_132_code 7 = .ok (.if_icmp .eq 10, 3) := by decide +kernel
theorem own_d_jdk_65_method_132_code_10 : decode jdk_65_method_132_code 10 = .ok (.aload_n 0, 1) := by decide +kernel
theorem own_d_jdk_65_method_132_code_11 : decode jdk_65_method_132_code 11 = .ok (.iload_n 1, 1) := by decide +kernel
theorem own_d_jdk_65_method_132_code_12 : decode jdk_65_method_132_code 12 = .ok (.iload_n 2, 1) := by decide +kernel
theorem own_d_jdk_65_method_132_code_13 : decode jdk_65_method_132_code 13 = .ok (.invokestatic 339, 3) := by decide +kernel
theorem own_pd_14 : parseMethodDescriptor "([BII)[B" = some ⟨[(.array .byte), .int, .int], some (.array .byte)⟩ := by decide +kernel
theorem own_d_jdk_65_method_132_code_16 : decode jdk_65_method_132_code 16 = .ok (.areturn, 1) := by decide +kernel
set_option maxRecDepth 65536 in
set_option maxHeartbeats 40000000 in
theorem own_rm_cor (l : Launch) (Z : State) (a0 : Array Value) (hw : ∀ d ∈ tables_1, d.before a0 Z = true) (ws : List Jvm.Cond) (a1 : Addr) (p2 : Int32) (p3 : Int32) (k : ClassId) (cap n : Nat) (vs : List Value) (h0 : Heap) (n0 : Nat) (Z0 : n0 ≤ h0.size) (Va : Arv Z h0 a1 k .byte (Int32.ofNat (cap)) vs (.int 0)) (hl : vs.length = cap) (hc : n < cap) (h2 : cap < 400) (h64 : n ≤ 64) (hp2 : p2 = 0) (hp3 : p3 = (Int32.ofNat (n))) :
    MetFree l (⟨"java/util/Arrays", "copyOfRange", "([BII)[B"⟩ : MethodName) (head1 (Jvm.Cond.code (⟨"java/util/Arrays", "copyOfRange", "([BII)[B"⟩ : MethodName) jdk_65_method_132_code 3 (some (.array .byte)) :: ws) ({ frames := 2, cells := 1, slots := 64, locals := 34 } : Room)) (fun a U => a = #[(.ref a1), (.int p2), (.int p3)] ∧ Z.Warmed39 U.vm ∧ U.heap = h0) (fun _ _ _ _ _ => True) (fun _ U o U' => ∃ v L, o = .returned v ∧ own_Q_cor Z a1 p2 p3 k cap n vs h0 n0 v U'.heap L ∧ FrameEnd U o U' L ({ frames := 2, cells := 1, slots := 64, locals := 34 } : Room).cells ({ frames := 2, cells := 1, slots := 64, locals := 34 } : Room).slots) := by
  refine MetFree.of_bodySF (plainFor_of_name own_pn_4) hisR ?_
  intro p e s m args below meth c s₁ Bd hml0 hP hK
  obtain ⟨rfl, hZ, hh⟩ := hP
  have hx := Bd.exec
  have hby := Bd.bytes
  have hml : c.maxLocals = 3 := hml0
  have hown : s.vm.findClass "java/util/Arrays" = some m.cls := findClass_of_methodNamed Bd.named
  have hnm := (name_of_methodNamed Bd.named Bd.method).1
  have X0 : Stand p l e ({ frames := 2, cells := 1, slots := 64, locals := 34 } : Room) s m #[(.ref a1), (.int p2), (.int p3)] below meth c s₁ [] 0 0 := Stand.of_body Bd
  have e0 : s₁.heap = h0 := by rw [← hh, Bd.state]; rfl
  have N0 := Fr.nil n0
  refine own_start (own_ef_cor m a1 p2 p3 ) ?_
  subst hp2 hp3
  refine own_of (T' := s₁) (f' := (mkF m 6 #[.val (.ref a1), .val (.int (0 : Int32)), .val (.int (Int32.ofNat (n)))] [(.ref a1), (.int (Int32.ofNat (n)))])) (fun t_ k_ => (XS.iloadN X0.here hx rfl (Jvm.hb hby own_d_jdk_65_method_132_code_0) rfl (XS.ifNo X0.here hx rfl (Jvm.hb hby own_d_jdk_65_method_132_code_1) rfl ((if0 _ _).trans (teq rfl).2) (XS.iloadN X0.here hx rfl (Jvm.hb hby own_d_jdk_65_method_132_code_4) rfl (XS.aloadN X0.here hx rfl (Jvm.hb hby own_d_jdk_65_method_132_code_5) rfl rfl k_))))) ?_
  obtain ⟨cl1, Ar1, -, Sz1, Nn1, -⟩ := id Va
  refine own_of (T' := s₁) (f' := (mkF m 7 #[.val (.ref a1), .val (.int (0 : Int32)), .val (.int (Int32.ofNat (n)))] [(.int (cl1.slots.size).toInt32), (.int (Int32.ofNat (n)))])) (fun t_ k_ => (X0.arraylength hx (by first | (rw [e0]; exact Ar1.1) | exact Ar1.1) (State.isArrayOf_alike hZ.alike Ar1.2.1) (g := (mkF m 6 #[.val (.ref a1), .val (.int (0 : Int32)), .val (.int (Int32.ofNat (n)))] [(.ref a1), (.int (Int32.ofNat (n)))])) rfl rfl (Jvm.hb hby own_d_jdk_65_method_132_code_6) _ k_)) ?_
  rw [len_of Sz1 Nn1]
  refine own_of (T' := s₁) (f' := (mkF m 13 #[.val (.ref a1), .val (.int (0 : Int32)), .val (.int (Int32.ofNat (n)))] [(.int (Int32.ofNat (n))), (.int (0 : Int32)), (.ref a1)])) (fun t_ k_ => (XS.icmpNo X0.here hx rfl (Jvm.hb hby own_d_jdk_65_method_132_code_7) rfl (feq (fun q => by have := own_inj _ _ (by omega) (by omega) q; omega)).1 (XS.aloadN X0.here hx rfl (Jvm.hb hby own_d_jdk_65_method_132_code_10) rfl rfl (XS.iloadN X0.here hx rfl (Jvm.hb hby own_d_jdk_65_method_132_code_11) rfl (XS.iloadN X0.here hx rfl (Jvm.hb hby own_d_jdk_65_method_132_code_12) rfl k_))))) ?_
  obtain ⟨_, _, ⟨T2, L2, k2, n2⟩, -, X2, ⟨Lc2, hQ2, l2, y2, z2⟩, st2⟩ := Jvm.LawKit.callS X0 hx (y := (⟨"java/util/Arrays", "copyOfRangeByte", "([BII)[B"⟩ : MethodName)) hown (mvT hZ (hw _ (List.mem_of_getElem? (i := 186) rfl))) (mvT hZ (hw _ (List.mem_of_getElem? (i := 187) rfl))) (mvT hZ (hw _ (List.mem_of_getElem? (i := 124) rfl))) (mvT hZ (hw _ (List.mem_of_getElem? (i := 188) rfl))) (by decide) (backOf (W := 0) (own_rm_crb l Z a0 hw [] a1 (0 : Int32) (Int32.ofNat (n)) k cap n vs h0 n0 Z0 Va hl hc h2 h64 rfl rfl) hZ (hw _ (List.mem_of_getElem? (i := 188) rfl)) (hw _ (List.mem_of_getElem? (i := 124) rfl)) (by decide) (by decide)) (g := (mkF m 13 #[.val (.ref a1), .val (.int (0 : Int32)), .val (.int (Int32.ofNat (n)))] [(.int (Int32.ofNat (n))), (.int (0 : Int32)), (.ref a1)])) rfl (by rw [hml]; rfl) (argsL := [(.ref a1), (.int (0 : Int32)), (.int (Int32.ofNat (n)))]) (rest := []) (lenOf own_pd_14 rfl) rfl (by show 2 * 0 + _ ≤ _; exact Nat.le_of_eq rfl) (Jvm.hb hby own_d_jdk_65_method_132_code_13) (fun _ _ => ⟨rfl, e0, Nat.le_of_ble_eq_true rfl, Nat.le_of_ble_eq_true rfl⟩)
  dsimp only [Pt.U, Pt.locs, Pt.cells, Pt.slots] at X2 l2 y2 z2 st2 hQ2
  subst y2 z2
  obtain ⟨b, kb, rfl, N2, hR2⟩ := hQ2
  have N3 : Fr n0 L2 := by rw [l2]; exact Fr.app N0 N2
  refine own_of (T' := T2) (f' := (mkF m 16 #[.val (.ref a1), .val (.int (0 : Int32)), .val (.int (Int32.ofNat (n)))] [(.ref b)])) (fun t_ k_ => (st2 _ k_)) ?_
  obtain ⟨fs, hr, hrun, hended, hW, hsame⟩ := X2.leave (v := some (.ref b)) (fun h => by rw [Bd.returns] at h; cases h)
  exact ⟨_, _, own_retA X2 hx Bd.returns rfl rfl rfl (Jvm.hb hby own_d_jdk_65_method_132_code_16) hr, hrun, hended, _, _, rfl, (by show own_Q_cor Z a1 0 (Int32.ofNat (n)) k cap n vs h0 n0 _ T2.heap _; exact ⟨b, kb, rfl, N3, hR2⟩), ⟨_, rfl⟩, hW, hsame.mono (by decide) (by decide)⟩
theorem own_ef_si5 (m : MethodId) (a1 : Addr) (a2 : Addr) : entryFrame m #[(.ref a1), (.ref a2), .null] 5 = mkF m 0 #[.val (.ref a1), .val (.ref a2), .val .null, .unset, .unset] [] := by first | (simp [entryFrame, mkF, argsToLocals, Value.category]; done) | rfl
def own_Q_si5 (Z : State) (a1 : Addr) (a2 : Addr) (G1 : Int32) (da : Addr) (k : ClassId) (cap : Nat) (bs : List Value) (h0 : Heap) (n0 : Nat) (v : Option Value) (h : Heap) (L : List Loc) : Prop := v = none ∧ Fr n0 L ∧ Keep h0 h [a1] ∧ Exa Z h a1 "java/lang/String" ∧ Fld Z h a1 "java/lang/String" "coder" "B" (.int 0) ∧ ∃ t kt, h0.size ≤ t ∧ Fld Z h a1 "java/lang/String" "value" "[B" (.ref t) ∧ Arv Z h t kt .byte (Int32.ofNat (bs.length)) bs (.int 0)
theorem own_d_jdk_42_method_150_code_0 : decode jdk_42_method_150_code 0 = .ok (.aload_n 0, 1) := by decide +kernel
theorem own_d_jdk_42_method_150_code_1 : decode jdk_42_method_150_code 1 = .ok (.invokespecial 1, 3) := by decide +kernel
theorem own_d_jdk_42_method_150_code_4 : decode jdk_42_method_150_code 4 = .ok (.aload_n 1, 1) := by decide +kernel
theorem own_d_jdk_42_method_150_code_5 : decode jdk_42_method_150_code 5 = .ok (.invokevirtual 552, 3) := by decide +kernel
theorem own_pd_15 : parseMethodDescriptor "()[B" = some ⟨[], some (.array .byte)⟩ := by decide +kernel
theorem own_d_jdk_42_method_150_code_8 : decode jdk_42_method_150_code 8 = .ok (.astore_n 3, 1) := by decide +kernel
theorem own_d_jdk_42_method_150_code_9 : decode jdk_42_method_150_code 9 = .ok (.aload_n 1, 1) := by decide +kernel
theorem own_d_jdk_42_method_150_code_10 : decode jdk_42_method_150_code 10 = .ok (.invokevirtual 549, 3) := by decide +kernel
theorem own_nf {s : State} {args : Array Value} {y y' : MethodName} (h : NotFace s y') (hi : (Jvm.Cond.instanceMethod y').before args s = true) (e : y'.cls = y.cls) : NotFace s y := fun r0 h0 => by
  obtain ⟨mk, meth, hn, -⟩ := Cond.instanceMethod_spec hi
  obtain ⟨kr, h1, h2⟩ := h mk hn
  have a := findClass_of_methodNamed hn
  have b := findClass_of_methodNamed h0
  rw [e] at a
  have c : mk.cls = r0.cls := Option.some.inj (a.symm.trans b)
  exact ⟨kr, by rw [← c]; exact h1, h2⟩
theorem own_d_jdk_42_method_150_code_13 : decode jdk_42_method_150_code 13 = .ok (.istore 4, 2) := by decide +kernel
theorem own_d_jdk_42_method_150_code_15 : decode jdk_42_method_150_code 15 = .ok (.aload_n 1, 1) := by decide +kernel
theorem own_d_jdk_42_method_150_code_16 : decode jdk_42_method_150_code 16 = .ok (.invokevirtual 1047, 3) := by decide +kernel
theorem own_d_jdk_42_method_150_code_19 : decode jdk_42_method_150_code 19 = .ok (.ifCond .eq 22, 3) := by decide +kernel
theorem own_d_jdk_42_method_150_code_22 : decode jdk_42_method_150_code 22 = .ok (.aload_n 0, 1) := by decide +kernel
theorem own_d_jdk_42_method_150_code_23 : decode jdk_42_method_150_code 23 = .ok (.iconst 0, 1) := by decide +kernel
theorem own_d_jdk_42_method_150_code_24 : decode jdk_42_method_150_code 24 = .ok (.putfield 15, 3) := by decide +kernel
theorem own_d_jdk_42_method_150_code_27 : decode jdk_42_method_150_code 27 = .ok (.aload_n 0, 1) := by decide +kernel
theorem own_d_jdk_42_method_150_code_28 : decode jdk_42_method_150_code 28 = .ok (.aload_n 3, 1) := by decide +kernel
theorem own_d_jdk_42_method_150_code_29 : decode jdk_42_method_150_code 29 = .ok (.iconst 0, 1) := by decide +kernel
theorem own_d_jdk_42_method_150_code_30 : decode jdk_42_method_150_code 30 = .ok (.iload 4, 2) := by decide +kernel
theorem own_d_jdk_42_method_150_code_32 : decode jdk_42_method_150_code 32 = .ok (.invokestatic 54, 3) := by decide +kernel
theorem own_d_jdk_42_method_150_code_35 : decode jdk_42_method_150_code 35 = .ok (.putfield 9, 3) := by decide +kernel
theorem own_d_jdk_42_method_150_code_38 : decode jdk_42_method_150_code 38 = .ok (.goto 59, 3) := by decide +kernel
theorem own_d_jdk_42_method_150_code_97 : decode jdk_42_method_150_code 97 = .ok (.return_, 1) := by decide +kernel
set_option maxRecDepth 65536 in
set_option maxHeartbeats 40000000 in
theorem own_rm_si5 (l : Launch) (Z : State) (a0 : Array Value) (hw : ∀ d ∈ tables_1, d.before a0 Z = true) (ws : List Jvm.Cond) (a1 : Addr) (a2 : Addr) (G1 : Int32) (da : Addr) (k : ClassId) (cap : Nat) (bs : List Value) (h0 : Heap) (n0 : Nat) (Z0 : n0 ≤ h0.size) (SC : Sta Z h0 "java/lang/String" "COMPACT_STRINGS" "Z" (.int G1)) (P5 : ¬ (G1 = (0 : Int32))) (E1 : Exa Z h0 a1 "java/lang/String") (F1 : Fld Z h0 a1 "java/lang/String" "value" "[B" .null) (F2 : Fld Z h0 a1 "java/lang/String" "coder" "B" (.int 0)) (g_a1 : n0 ≤ a1) (Bd0 : own_B Z h0 a2 da k cap bs) (hc : bs.length < cap) (h2 : cap < 400) (h64 : bs.length ≤ 64) :
    MetFree l (⟨"java/lang/String", "<init>", "(Ljava/lang/AbstractStringBuilder;Ljava/lang/Void;)V"⟩ : MethodName) (head1 (Jvm.Cond.code (⟨"java/lang/String", "<init>", "(Ljava/lang/AbstractStringBuilder;Ljava/lang/Void;)V"⟩ : MethodName) jdk_42_method_150_code 5 none :: ws) ({ frames := 3, cells := 1, slots := 64, locals := 49 } : Room)) (fun a U => a = #[(.ref a1), (.ref a2), .null] ∧ Z.Warmed39 U.vm ∧ U.heap = h0) (fun _ _ _ _ _ => True) (fun _ U o U' => ∃ v L, o = .returned v ∧ own_Q_si5 Z a1 a2 G1 da k cap bs h0 n0 v U'.heap L ∧ FrameEnd U o U' L ({ frames := 3, cells := 1, slots := 64, locals := 49 } : Room).cells ({ frames := 3, cells := 1, slots := 64, locals := 49 } : Room).slots) := by
  refine MetFree.of_bodySF (plainFor_of_name own_pn_0) hisR ?_
  intro p e s m args below meth c s₁ Bd hml0 hP hK
  obtain ⟨rfl, hZ, hh⟩ := hP
  have hx := Bd.exec
  have hby := Bd.bytes
  have hml : c.maxLocals = 5 := hml0
  have hown : s.vm.findClass "java/lang/String" = some m.cls := findClass_of_methodNamed Bd.named
  have hnm := (name_of_methodNamed Bd.named Bd.method).1
  have X0 : Stand p l e ({ frames := 3, cells := 1, slots := 64, locals := 49 } : Room) s m #[(.ref a1), (.ref a2), .null] below meth c s₁ [] 0 0 := Stand.of_body Bd
  have e0 : s₁.heap = h0 := by rw [← hh, Bd.state]; rfl
  have N0 := Fr.nil n0
  refine own_start (own_ef_si5 m a1 a2 ) ?_
  have K0 : Keep h0 h0 [a1] := Keep.refl _ _
  have nda : a1 ≠ da := E1.ne Bd0.2.2.2.2.1 (by decide)
  obtain ⟨T1, X1, e1, st1⟩ := initO X0 hx hZ hown (hw _ (List.mem_of_getElem? (i := 23) rfl)) (hw _ (List.mem_of_getElem? (i := 24) rfl)) (hw _ (List.mem_of_getElem? (i := 25) rfl)) e0 (g := (mkF m 1 #[.val (.ref a1), .val (.ref a2), .val .null, .unset, .unset] [(.ref a1)])) rfl (by rw [hml]; rfl) rfl (Jvm.hb hby own_d_jdk_42_method_150_code_1) (by decide) (W := 0) (by show 2 * 0 + _ ≤ _; exact Nat.le_of_eq rfl) (by decide)
  refine own_of (T' := T1) (f' := (mkF m 5 #[.val (.ref a1), .val (.ref a2), .val .null, .unset, .unset] [(.ref a2)])) (fun t_ k_ => (XS.aloadN X0.here hx rfl (Jvm.hb hby own_d_jdk_42_method_150_code_0) rfl rfl (st1 _ (XS.aloadN X1.here hx rfl (Jvm.hb hby own_d_jdk_42_method_150_code_4) rfl rfl k_)))) ?_
  obtain ⟨cq3, kq3, q3a, q3b, q3c⟩ := isOf hZ e1 Bd0.1
  obtain ⟨_, _, ⟨T2, L2, k2, n2⟩, -, X2, ⟨Lc2, hQ2, l2, y2, z2⟩, st2⟩ := X1.virtualBack hx (y := (⟨"java/lang/AbstractStringBuilder", "getValue", "()[B"⟩ : MethodName)) (z := (⟨"java/lang/AbstractStringBuilder", "getValue", "()[B"⟩ : MethodName)) hown (mvT hZ (hw _ (List.mem_of_getElem? (i := 165) rfl))) (mvT hZ (hw _ (List.mem_of_getElem? (i := 166) rfl))) (notFace_of_selects (args := #[]) (mvT hZ (hw _ (List.mem_of_getElem? (i := 168) rfl)))) (mvT hZ (hw _ (List.mem_of_getElem? (i := 168) rfl))) (mvT hZ (hw _ (List.mem_of_getElem? (i := 167) rfl))) (by decide) (backOf (W := 0) (own_rm_gva l Z a0 hw [] a2 da h0 n0 Z0 Bd0.2.1) hZ (hw _ (List.mem_of_getElem? (i := 169) rfl)) (hw _ (List.mem_of_getElem? (i := 69) rfl)) (by decide) (by decide)) q3a q3c (g := (mkF m 5 #[.val (.ref a1), .val (.ref a2), .val .null, .unset, .unset] [(.ref a2)])) rfl (by rw [hml]; rfl) (Steps.refl _) (argsL := []) (rest := []) (lenOf own_pd_15 rfl) rfl (by show 2 * 0 + _ ≤ _; exact Nat.le_of_eq rfl) (Jvm.hb hby own_d_jdk_42_method_150_code_5) (fun _ _ => ⟨rfl, e1, Nat.le_of_ble_eq_true rfl, Nat.le_of_ble_eq_true rfl⟩)
  dsimp only [Pt.U, Pt.locs, Pt.cells, Pt.slots] at X2 l2 y2 z2 st2 hQ2
  subst y2 z2
  obtain ⟨rfl, N2, e2⟩ := hQ2
  have N4 : Fr n0 L2 := by rw [l2]; exact Fr.app N0 N2
  refine own_of (T' := T2) (f' := (mkF m 10 #[.val (.ref a1), .val (.ref a2), .val .null, .val (.ref da), .unset] [(.ref a2)])) (fun t_ k_ => (st2.trans (XS.astoreN X2.here hx rfl (Jvm.hb hby own_d_jdk_42_method_150_code_8) rfl rfl (l' := #[.val (.ref a1), .val (.ref a2), .val .null, .val (.ref da), .unset]) rfl (XS.aloadN X2.here hx rfl (Jvm.hb hby own_d_jdk_42_method_150_code_9) rfl rfl k_)))) ?_
  obtain ⟨cq6, kq6, q6a, q6b, q6c⟩ := isOf hZ e2 Bd0.1
  obtain ⟨_, _, ⟨T5, L5, k5, n5⟩, -, X5, ⟨Lc5, hQ5, l5, y5, z5⟩, st5⟩ := X2.virtualBack hx (y := (⟨"java/lang/AbstractStringBuilder", "length", "()I"⟩ : MethodName)) (z := (⟨"java/lang/StringBuilder", "length", "()I"⟩ : MethodName)) hown (mvT hZ (hw _ (List.mem_of_getElem? (i := 170) rfl))) (mvT hZ (hw _ (List.mem_of_getElem? (i := 171) rfl))) (own_nf (args := #[]) (notFace_of_selects (args := #[]) (mvT hZ (hw _ (List.mem_of_getElem? (i := 168) rfl)))) (mvT hZ (hw _ (List.mem_of_getElem? (i := 167) rfl))) rfl) (mvT hZ (hw _ (List.mem_of_getElem? (i := 173) rfl))) (mvT hZ (hw _ (List.mem_of_getElem? (i := 174) rfl))) (by decide) (backOf (W := 0) (own_rm_sbl l Z a0 hw [] a2 (Int32.ofNat (bs.length)) h0 n0 Z0 Bd0.2.2.2.1 Bd0.1) hZ (hw _ (List.mem_of_getElem? (i := 175) rfl)) (hw _ (List.mem_of_getElem? (i := 61) rfl)) (by decide) (by decide)) q6a q6c (g := (mkF m 10 #[.val (.ref a1), .val (.ref a2), .val .null, .val (.ref da), .unset] [(.ref a2)])) rfl (by rw [hml]; rfl) (Steps.refl _) (argsL := []) (rest := []) (lenOf own_pd_7 rfl) rfl (by show 2 * 0 + _ ≤ _; exact Nat.le_of_eq rfl) (Jvm.hb hby own_d_jdk_42_method_150_code_10) (fun _ _ => ⟨rfl, e2, Nat.le_of_ble_eq_true rfl, Nat.le_of_ble_eq_true rfl⟩)
  dsimp only [Pt.U, Pt.locs, Pt.cells, Pt.slots] at X5 l5 y5 z5 st5 hQ5
  subst y5 z5
  obtain ⟨rfl, N5, e5⟩ := hQ5
  have N7 : Fr n0 L5 := by rw [l5]; exact Fr.app N4 N5
  refine own_of (T' := T5) (f' := (mkF m 16 #[.val (.ref a1), .val (.ref a2), .val .null, .val (.ref da), .val (.int (Int32.ofNat (bs.length)))] [(.ref a2)])) (fun t_ k_ => (st5.trans (XS.istore X5.here hx rfl (Jvm.hb hby own_d_jdk_42_method_150_code_13) rfl (l' := #[.val (.ref a1), .val (.ref a2), .val .null, .val (.ref da), .val (.int (Int32.ofNat (bs.length)))]) rfl (XS.aloadN X5.here hx rfl (Jvm.hb hby own_d_jdk_42_method_150_code_15) rfl rfl k_)))) ?_
  obtain ⟨cq9, kq9, q9a, q9b, q9c⟩ := isOf hZ e5 Bd0.1
  obtain ⟨_, _, ⟨T8, L8, k8, n8⟩, -, X8, ⟨Lc8, hQ8, l8, y8, z8⟩, st8⟩ := X5.virtualBack hx (y := (⟨"java/lang/AbstractStringBuilder", "isLatin1", "()Z"⟩ : MethodName)) (z := (⟨"java/lang/AbstractStringBuilder", "isLatin1", "()Z"⟩ : MethodName)) hown (mvT hZ (hw _ (List.mem_of_getElem? (i := 178) rfl))) (mvT hZ (hw _ (List.mem_of_getElem? (i := 179) rfl))) (notFace_of_selects (args := #[]) (mvT hZ (hw _ (List.mem_of_getElem? (i := 181) rfl)))) (mvT hZ (hw _ (List.mem_of_getElem? (i := 181) rfl))) (mvT hZ (hw _ (List.mem_of_getElem? (i := 180) rfl))) (by decide) (backOf (W := 0) (own_rm_ail l Z a0 hw [] a2 G1 h0 n0 Z0 SC P5 Bd0.2.2.1) hZ (hw _ (List.mem_of_getElem? (i := 182) rfl)) (hw _ (List.mem_of_getElem? (i := 69) rfl)) (by decide) (by decide)) q9a q9c (g := (mkF m 16 #[.val (.ref a1), .val (.ref a2), .val .null, .val (.ref da), .val (.int (Int32.ofNat (bs.length)))] [(.ref a2)])) rfl (by rw [hml]; rfl) (Steps.refl _) (argsL := []) (rest := []) (lenOf own_pd_9 rfl) rfl (by show 2 * 0 + _ ≤ _; exact Nat.le_of_eq rfl) (Jvm.hb hby own_d_jdk_42_method_150_code_16) (fun _ _ => ⟨rfl, e5, Nat.le_of_ble_eq_true rfl, Nat.le_of_ble_eq_true rfl⟩)
  dsimp only [Pt.U, Pt.locs, Pt.cells, Pt.slots] at X8 l8 y8 z8 st8 hQ8
  subst y8 z8
  obtain ⟨rfl, N8, e8⟩ := hQ8
  have N10 : Fr n0 L8 := by rw [l8]; exact Fr.app N7 N8
  obtain ⟨T11, h11, X11, e11, W11, st11⟩ := putF X8 hx hZ hown (host := "") (Or.inl (hw _ (List.mem_of_getElem? (i := 28) rfl))) Via.refl e8 F2 E1 (Or.inr ⟨(hw _ (List.mem_of_getElem? (i := 29) rfl)), rfl, hnm⟩) (hw _ (List.mem_of_getElem? (i := 14) rfl)) (ty := .byte) (by decide) rfl rfl (g := (mkF m 24 #[.val (.ref a1), .val (.ref a2), .val .null, .val (.ref da), .val (.int (Int32.ofNat (bs.length)))] [(.int (0 : Int32)), (.ref a1)])) rfl rfl (Jvm.hb hby own_d_jdk_42_method_150_code_24)
  refine own_of (T' := T11) (f' := (mkF m 27 #[.val (.ref a1), .val (.ref a2), .val .null, .val (.ref da), .val (.int (Int32.ofNat (bs.length)))] [])) (fun t_ k_ => (st8.trans (XS.ifNo X8.here hx rfl (Jvm.hb hby own_d_jdk_42_method_150_code_19) rfl ((if0 _ _).trans (feq (by decide)).1) (XS.aloadN X8.here hx rfl (Jvm.hb hby own_d_jdk_42_method_150_code_22) rfl rfl (XS.iconst X8.here hx rfl (Jvm.hb hby own_d_jdk_42_method_150_code_23) (st11 _ k_)))))) ?_
  have N11 := Fr.snoc X11 N10 g_a1
  have f12 := K0.wr W11 (Or.inl (List.mem_of_getElem? (i := 0) rfl))
  have f13 := Nat.le_trans Z0 (Keep.of_wr W11).1
  have f14 := E1.wr W11
  have f15 := F1.other W11 (Or.inr (slot_ne (Or.inr (hw _ (List.mem_of_getElem? (i := 27) rfl))) (Or.inr (hw _ (List.mem_of_getElem? (i := 29) rfl))) (by decide) (t := (.array .byte)) (t' := .byte) (by decide) (by decide)))
  have f16 := F2.same W11
  have f17 := Bd0.2.2.2.2.2.1.other W11 (Ne.symm nda)
  have f18 := Bd0.2.2.2.2.1.wr W11
  refine own_of (T' := T11) (f' := (mkF m 32 #[.val (.ref a1), .val (.ref a2), .val .null, .val (.ref da), .val (.int (Int32.ofNat (bs.length)))] [(.int (Int32.ofNat (bs.length))), (.int (0 : Int32)), (.ref da), (.ref a1)])) (fun t_ k_ => (XS.aloadN X11.here hx rfl (Jvm.hb hby own_d_jdk_42_method_150_code_27) rfl rfl (XS.aloadN X11.here hx rfl (Jvm.hb hby own_d_jdk_42_method_150_code_28) rfl rfl (XS.iconst X11.here hx rfl (Jvm.hb hby own_d_jdk_42_method_150_code_29) (XS.iload X11.here hx rfl (Jvm.hb hby own_d_jdk_42_method_150_code_30) rfl k_))))) ?_
  obtain ⟨_, _, ⟨T19, L19, k19, n19⟩, -, X19, ⟨Lc19, hQ19, l19, y19, z19⟩, st19⟩ := Jvm.LawKit.callS X11 hx (y := (⟨"java/util/Arrays", "copyOfRange", "([BII)[B"⟩ : MethodName)) hown (mvT hZ (hw _ (List.mem_of_getElem? (i := 183) rfl))) (mvT hZ (hw _ (List.mem_of_getElem? (i := 184) rfl))) (mvT hZ (hw _ (List.mem_of_getElem? (i := 124) rfl))) (mvT hZ (hw _ (List.mem_of_getElem? (i := 185) rfl))) (by decide) (backOf (W := 1) (own_rm_cor l Z a0 hw [] da (0 : Int32) (Int32.ofNat (bs.length)) k cap bs.length (bs ++ List.replicate (cap - bs.length) (.int 0)) h11 n0 f13 f17 (own_padlen bs cap (Nat.le_of_lt hc)) hc h2 h64 rfl rfl) hZ (hw _ (List.mem_of_getElem? (i := 185) rfl)) (hw _ (List.mem_of_getElem? (i := 124) rfl)) (by decide) (by decide)) (g := (mkF m 32 #[.val (.ref a1), .val (.ref a2), .val .null, .val (.ref da), .val (.int (Int32.ofNat (bs.length)))] [(.int (Int32.ofNat (bs.length))), (.int (0 : Int32)), (.ref da), (.ref a1)])) rfl (by rw [hml]; rfl) (argsL := [(.ref da), (.int (0 : Int32)), (.int (Int32.ofNat (bs.length)))]) (rest := [(.ref a1)]) (lenOf own_pd_14 rfl) rfl (by show 2 * 0 + _ ≤ _; exact Nat.le_of_eq rfl) (Jvm.hb hby own_d_jdk_42_method_150_code_32) (fun _ _ => ⟨rfl, e11, Nat.le_of_ble_eq_true rfl, Nat.le_of_ble_eq_true rfl⟩)
  dsimp only [Pt.U, Pt.locs, Pt.cells, Pt.slots] at X19 l19 y19 z19 st19 hQ19
  subst y19 z19
  obtain ⟨b, kb, rfl, N19, K19, szb, Eb, Vb⟩ := hQ19
  rw [List.take_left' rfl] at Vb
  have ne_a1_b : a1 ≠ b := Nat.ne_of_lt (Nat.lt_of_lt_of_le f14.lt szb)
  have ne_da_b : da ≠ b := Nat.ne_of_lt (Nat.lt_of_lt_of_le f17.lt szb)
  have g_b : n0 ≤ b := Nat.le_trans f13 szb
  have sz_b : h0.size ≤ b := Nat.le_trans f12.1 szb
  have N20 : Fr n0 L19 := by rw [l19]; exact Fr.app N11 N19
  have f21 := f12.trans K19 all0
  have f22 := Nat.le_trans f13 K19.1
  have f23 := f14.keep K19
  have f24 := f15.keep K19 nin0
  have f25 := f16.keep K19 nin0
  have f26 := f17.keep K19 nin0
  have f27 := f18.keep K19
  obtain ⟨T28, h28, X28, e28, W28, st28⟩ := putF X19 hx hZ hown (host := "") (Or.inl (hw _ (List.mem_of_getElem? (i := 26) rfl))) Via.refl rfl f24 f23 (Or.inr ⟨(hw _ (List.mem_of_getElem? (i := 27) rfl)), rfl, hnm⟩) (hw _ (List.mem_of_getElem? (i := 14) rfl)) (ty := (.array .byte)) (by decide) rfl rfl (g := (mkF m 35 #[.val (.ref a1), .val (.ref a2), .val .null, .val (.ref da), .val (.int (Int32.ofNat (bs.length)))] [(.ref b), (.ref a1)])) rfl rfl (Jvm.hb hby own_d_jdk_42_method_150_code_35)
  refine own_of (T' := T28) (f' := (mkF m 38 #[.val (.ref a1), .val (.ref a2), .val .null, .val (.ref da), .val (.int (Int32.ofNat (bs.length)))] [])) (fun t_ k_ => (st19 _ (st28 _ k_))) ?_
  have N28 := Fr.snoc X28 N20 g_a1
  have f29 := f21.wr W28 (Or.inl (List.mem_of_getElem? (i := 0) rfl))
  have f30 := Nat.le_trans f22 (Keep.of_wr W28).1
  have f31 := f23.wr W28
  have f32 := f24.same W28
  have f33 := f25.other W28 (Or.inr (slot_ne (Or.inr (hw _ (List.mem_of_getElem? (i := 29) rfl))) (Or.inr (hw _ (List.mem_of_getElem? (i := 27) rfl))) (by decide) (t := .byte) (t' := (.array .byte)) (by decide) (by decide)))
  have f34 := f26.other W28 (Ne.symm nda)
  have f35 := f27.wr W28
  have f36 := Vb.other W28 (Ne.symm ne_a1_b)
  have f37 := Eb.wr W28
  refine own_of (T' := T28) (f' := (mkF m 97 #[.val (.ref a1), .val (.ref a2), .val .null, .val (.ref da), .val (.int (Int32.ofNat (bs.length)))] [])) (fun t_ k_ => (XS.goto X28.here hx rfl (pc0 := 38) (pc' := 97) rfl (Jvm.hb hby own_d_jdk_42_method_150_code_38) (by decide) (by decide) k_)) ?_
  obtain ⟨fs, hr, hrun, hended, hW, hsame⟩ := X28.leave (v := none) (fun _ => rfl)
  exact ⟨_, _, X28.returnOut hx Bd.returns (Jvm.hb hby own_d_jdk_42_method_150_code_97) hr, hrun, hended, _, _, rfl, (by show own_Q_si5 Z a1 a2 G1 da k cap bs h0 n0 _ T28.heap _; rw [e28]; exact ⟨rfl, N28, f29, f31, f33, b, kb, sz_b, f32, f36⟩), ⟨_, rfl⟩, hW, hsame.mono (by decide) (by decide)⟩
theorem own_ef_si2 (m : MethodId) (a1 : Addr) (a2 : Addr) : entryFrame m #[(.ref a1), (.ref a2)] 2 = mkF m 0 #[.val (.ref a1), .val (.ref a2)] [] := by first | (simp [entryFrame, mkF, argsToLocals, Value.category]; done) | rfl
def own_Q_si2 (Z : State) (a1 : Addr) (a2 : Addr) (G1 : Int32) (da : Addr) (k : ClassId) (cap : Nat) (bs : List Value) (h0 : Heap) (n0 : Nat) (v : Option Value) (h : Heap) (L : List Loc) : Prop := v = none ∧ Fr n0 L ∧ Keep h0 h [a1] ∧ Exa Z h a1 "java/lang/String" ∧ Fld Z h a1 "java/lang/String" "coder" "B" (.int 0) ∧ ∃ t kt, h0.size ≤ t ∧ Fld Z h a1 "java/lang/String" "value" "[B" (.ref t) ∧ Arv Z h t kt .byte (Int32.ofNat (bs.length)) bs (.int 0)
theorem own_d_jdk_42_method_53_code_0 : decode jdk_42_method_53_code 0 = .ok (.aload_n 0, 1) := by decide +kernel
theorem own_d_jdk_42_method_53_code_1 : decode jdk_42_method_53_code 1 = .ok (.aload_n 1, 1) := by decide +kernel
theorem own_d_jdk_42_method_53_code_2 : decode jdk_42_method_53_code 2 = .ok (.aconst_null, 1) := by decide +kernel
theorem own_d_jdk_42_method_53_code_3 : decode jdk_42_method_53_code 3 = .ok (.invokespecial 489, 3) := by decide +kernel
theorem own_pd_16 : parseMethodDescriptor "(Ljava/lang/AbstractStringBuilder;Ljava/lang/Void;)V" = some ⟨[(.object "java/lang/AbstractStringBuilder"), (.object "java/lang/Void")], none⟩ := by decide +kernel
theorem own_d_jdk_42_method_53_code_6 : decode jdk_42_method_53_code 6 = .ok (.return_, 1) := by decide +kernel
set_option maxRecDepth 65536 in
set_option maxHeartbeats 40000000 in
theorem own_rm_si2 (l : Launch) (Z : State) (a0 : Array Value) (hw : ∀ d ∈ tables_1, d.before a0 Z = true) (ws : List Jvm.Cond) (a1 : Addr) (a2 : Addr) (G1 : Int32) (da : Addr) (k : ClassId) (cap : Nat) (bs : List Value) (h0 : Heap) (n0 : Nat) (Z0 : n0 ≤ h0.size) (SC : Sta Z h0 "java/lang/String" "COMPACT_STRINGS" "Z" (.int G1)) (P5 : ¬ (G1 = (0 : Int32))) (E1 : Exa Z h0 a1 "java/lang/String") (F1 : Fld Z h0 a1 "java/lang/String" "value" "[B" .null) (F2 : Fld Z h0 a1 "java/lang/String" "coder" "B" (.int 0)) (g_a1 : n0 ≤ a1) (Bd0 : own_B Z h0 a2 da k cap bs) (hc : bs.length < cap) (h2 : cap < 400) (h64 : bs.length ≤ 64) :
    MetFree l (⟨"java/lang/String", "<init>", "(Ljava/lang/StringBuilder;)V"⟩ : MethodName) (head1 (Jvm.Cond.code (⟨"java/lang/String", "<init>", "(Ljava/lang/StringBuilder;)V"⟩ : MethodName) jdk_42_method_53_code 2 none :: ws) ({ frames := 4, cells := 1, slots := 64, locals := 65 } : Room)) (fun a U => a = #[(.ref a1), (.ref a2)] ∧ Z.Warmed39 U.vm ∧ U.heap = h0) (fun _ _ _ _ _ => True) (fun _ U o U' => ∃ v L, o = .returned v ∧ own_Q_si2 Z a1 a2 G1 da k cap bs h0 n0 v U'.heap L ∧ FrameEnd U o U' L ({ frames := 4, cells := 1, slots := 64, locals := 65 } : Room).cells ({ frames := 4, cells := 1, slots := 64, locals := 65 } : Room).slots) := by
  refine MetFree.of_bodySF (plainFor_of_name own_pn_0) hisR ?_
  intro p e s m args below meth c s₁ Bd hml0 hP hK
  obtain ⟨rfl, hZ, hh⟩ := hP
  have hx := Bd.exec
  have hby := Bd.bytes
  have hml : c.maxLocals = 2 := hml0
  have hown : s.vm.findClass "java/lang/String" = some m.cls := findClass_of_methodNamed Bd.named
  have hnm := (name_of_methodNamed Bd.named Bd.method).1
  have X0 : Stand p l e ({ frames := 4, cells := 1, slots := 64, locals := 65 } : Room) s m #[(.ref a1), (.ref a2)] below meth c s₁ [] 0 0 := Stand.of_body Bd
  have e0 : s₁.heap = h0 := by rw [← hh, Bd.state]; rfl
  have N0 := Fr.nil n0
  refine own_start (own_ef_si2 m a1 a2 ) ?_
  refine own_of (T' := s₁) (f' := (mkF m 3 #[.val (.ref a1), .val (.ref a2)] [.null, (.ref a2), (.ref a1)])) (fun t_ k_ => (XS.aloadN X0.here hx rfl (Jvm.hb hby own_d_jdk_42_method_53_code_0) rfl rfl (XS.aloadN X0.here hx rfl (Jvm.hb hby own_d_jdk_42_method_53_code_1) rfl rfl (XS.aconstNull X0.here hx rfl (Jvm.hb hby own_d_jdk_42_method_53_code_2) k_)))) ?_
  obtain ⟨_, _, ⟨T1, L1, k1, n1⟩, -, X1, ⟨Lc1, hQ1, l1, y1, z1⟩, st1⟩ := X0.specialBack hx (y := (⟨"java/lang/String", "<init>", "(Ljava/lang/AbstractStringBuilder;Ljava/lang/Void;)V"⟩ : MethodName)) rfl hown (mvT hZ (hw _ (List.mem_of_getElem? (i := 162) rfl))) (mvT hZ (hw _ (List.mem_of_getElem? (i := 163) rfl))) (mvT hZ (hw _ (List.mem_of_getElem? (i := 164) rfl))) (by decide) (backOf (W := 0) (own_rm_si5 l Z a0 hw [] a1 a2 G1 da k cap bs h0 n0 Z0 SC P5 E1 F1 F2 g_a1 Bd0 hc h2 h64) hZ (hw _ (List.mem_of_getElem? (i := 164) rfl)) (hw _ (List.mem_of_getElem? (i := 6) rfl)) (by decide) (by decide)) (g := (mkF m 3 #[.val (.ref a1), .val (.ref a2)] [.null, (.ref a2), (.ref a1)])) rfl (by rw [hml]; rfl) (Steps.refl _) (a := a1) (argsL := [(.ref a2), .null]) (rest := []) (lenOf own_pd_16 rfl) rfl (by show 2 * 0 + _ ≤ _; exact Nat.le_of_eq rfl) (Jvm.hb hby own_d_jdk_42_method_53_code_3) (fun _ _ => ⟨rfl, e0, Nat.le_of_ble_eq_true rfl, Nat.le_of_ble_eq_true rfl⟩)
  dsimp only [Pt.U, Pt.locs, Pt.cells, Pt.slots] at X1 l1 y1 z1 st1 hQ1
  subst y1 z1
  obtain ⟨rfl, N1, hR1⟩ := hQ1
  have N2 : Fr n0 L1 := by rw [l1]; exact Fr.app N0 N1
  refine own_of (T' := T1) (f' := (mkF m 6 #[.val (.ref a1), .val (.ref a2)] [])) (fun t_ k_ => (st1.trans k_)) ?_
  obtain ⟨fs, hr, hrun, hended, hW, hsame⟩ := X1.leave (v := none) (fun _ => rfl)
  exact ⟨_, _, X1.returnOut hx Bd.returns (Jvm.hb hby own_d_jdk_42_method_53_code_6) hr, hrun, hended, _, _, rfl, (by show own_Q_si2 Z a1 a2 G1 da k cap bs h0 n0 _ T1.heap _; exact ⟨rfl, N2, hR1⟩), ⟨_, rfl⟩, hW, hsame.mono (by decide) (by decide)⟩
theorem own_ef_sts (m : MethodId) (a2 : Addr) : entryFrame m #[(.ref a2)] 1 = mkF m 0 #[.val (.ref a2)] [] := by first | (simp [entryFrame, mkF, argsToLocals, Value.category]; done) | rfl
def own_Q_sts (Z : State) (a2 : Addr) (G1 : Int32) (da : Addr) (k : ClassId) (cap : Nat) (bs : List Value) (h0 : Heap) (n0 : Nat) (v : Option Value) (h : Heap) (L : List Loc) : Prop := ∃ a t kt, v = some (.ref a) ∧ Fr n0 L ∧ Keep h0 h [] ∧ h0.size ≤ a ∧ h0.size ≤ t ∧ Exa Z h a "java/lang/String" ∧ Fld Z h a "java/lang/String" "coder" "B" (.int 0) ∧ Fld Z h a "java/lang/String" "value" "[B" (.ref t) ∧ Arv Z h t kt .byte (Int32.ofNat (bs.length)) bs (.int 0)
theorem own_d_jdk_67_method_42_code_0 : decode jdk_67_method_42_code 0 = .ok (.new 18, 3) := by decide +kernel
theorem own_d_jdk_67_method_42_code_3 : decode jdk_67_method_42_code 3 = .ok (.dup, 1) := by decide +kernel
theorem own_d_jdk_67_method_42_code_4 : decode jdk_67_method_42_code 4 = .ok (.aload_n 0, 1) := by decide +kernel
theorem own_d_jdk_67_method_42_code_5 : decode jdk_67_method_42_code 5 = .ok (.invokespecial 137, 3) := by decide +kernel
theorem own_pd_17 : parseMethodDescriptor "(Ljava/lang/StringBuilder;)V" = some ⟨[(.object "java/lang/StringBuilder")], none⟩ := by decide +kernel
theorem own_d_jdk_67_method_42_code_8 : decode jdk_67_method_42_code 8 = .ok (.areturn, 1) := by decide +kernel
set_option maxRecDepth 65536 in
set_option maxHeartbeats 40000000 in
theorem own_rm_sts (l : Launch) (Z : State) (a0 : Array Value) (hw : ∀ d ∈ tables_1, d.before a0 Z = true) (ws : List Jvm.Cond) (a2 : Addr) (G1 : Int32) (da : Addr) (k : ClassId) (cap : Nat) (bs : List Value) (h0 : Heap) (n0 : Nat) (Z0 : n0 ≤ h0.size) (SC : Sta Z h0 "java/lang/String" "COMPACT_STRINGS" "Z" (.int G1)) (P5 : ¬ (G1 = (0 : Int32))) (Bd0 : own_B Z h0 a2 da k cap bs) (hc : bs.length < cap) (h2 : cap < 400) (h64 : bs.length ≤ 64) :
    MetFree l (⟨"java/lang/StringBuilder", "toString", "()Ljava/lang/String;"⟩ : MethodName) (head1 (Jvm.Cond.code (⟨"java/lang/StringBuilder", "toString", "()Ljava/lang/String;"⟩ : MethodName) jdk_67_method_42_code 1 (some (.object "java/lang/String")) :: ws) ({ frames := 5, cells := 2, slots := 68, locals := 79 } : Room)) (fun a U => a = #[(.ref a2)] ∧ Z.Warmed39 U.vm ∧ U.heap = h0) (fun _ _ _ _ _ => True) (fun _ U o U' => ∃ v L, o = .returned v ∧ own_Q_sts Z a2 G1 da k cap bs h0 n0 v U'.heap L ∧ FrameEnd U o U' L ({ frames := 5, cells := 2, slots := 68, locals := 79 } : Room).cells ({ frames := 5, cells := 2, slots := 68, locals := 79 } : Room).slots) := by
  refine MetFree.of_bodySF (plainFor_of_name own_pn_5) hisR ?_
  intro p e s m args below meth c s₁ Bd hml0 hP hK
  obtain ⟨rfl, hZ, hh⟩ := hP
  have hx := Bd.exec
  have hby := Bd.bytes
  have hml : c.maxLocals = 1 := hml0
  have hown : s.vm.findClass "java/lang/StringBuilder" = some m.cls := findClass_of_methodNamed Bd.named
  have hnm := (name_of_methodNamed Bd.named Bd.method).1
  have X0 : Stand p l e ({ frames := 5, cells := 2, slots := 68, locals := 79 } : Room) s m #[(.ref a2)] below meth c s₁ [] 0 0 := Stand.of_body Bd
  have e0 : s₁.heap = h0 := by rw [← hh, Bd.state]; rfl
  have N0 := Fr.nil n0
  refine own_start (own_ef_sts m a2 ) ?_
  have K0 : Keep h0 h0 [] := Keep.refl _ _
  obtain ⟨T1, h1, X1, e1, E1, A1, D1, -, st1⟩ := newO X0 hx hZ hown (hw _ (List.mem_of_getElem? (i := 158) rfl)) (hw _ (List.mem_of_getElem? (i := 14) rfl)) (hw _ (List.mem_of_getElem? (i := 6) rfl)) e0 (g := (mkF m 0 #[.val (.ref a2)] [])) rfl (Jvm.hb hby own_d_jdk_67_method_42_code_0) (by decide) (by decide)
  obtain ⟨st, g1⟩ : ∃ z, z = h0.size := ⟨_, rfl⟩
  rw [← g1] at A1 D1 st1
  have g_st : n0 ≤ st := Nat.le_trans Z0 (Nat.le_of_eq g1.symm)
  have sz_st : h0.size ≤ st := Nat.le_trans K0.1 (Nat.le_of_eq g1.symm)
  have f2 := K0.ext E1
  have f3 := Nat.le_trans Z0 E1.1
  have f4 := SC.ext E1
  have f5 : Fld Z h1 st "java/lang/String" "value" "[B" .null := D1 (Or.inr (hw _ (List.mem_of_getElem? (i := 27) rfl))) (ty := (.array .byte)) (by decide)
  have f6 : Fld Z h1 st "java/lang/String" "coder" "B" (.int (0 : Int32)) := D1 (Or.inr (hw _ (List.mem_of_getElem? (i := 29) rfl))) (ty := .byte) (by decide)
  refine own_of (T' := T1) (f' := (mkF m 5 #[.val (.ref a2)] [(.ref a2), (.ref st), (.ref st)])) (fun t_ k_ => (st1 _ (XS.dup X1.here hx rfl (Jvm.hb hby own_d_jdk_67_method_42_code_3) rfl rfl (XS.aloadN X1.here hx rfl (Jvm.hb hby own_d_jdk_67_method_42_code_4) rfl rfl k_)))) ?_
  obtain ⟨_, _, ⟨T7, L7, k7, n7⟩, -, X7, ⟨Lc7, hQ7, l7, y7, z7⟩, st7⟩ := X1.specialBack hx (y := (⟨"java/lang/String", "<init>", "(Ljava/lang/StringBuilder;)V"⟩ : MethodName)) rfl hown (mvT hZ (hw _ (List.mem_of_getElem? (i := 159) rfl))) (mvT hZ (hw _ (List.mem_of_getElem? (i := 160) rfl))) (mvT hZ (hw _ (List.mem_of_getElem? (i := 161) rfl))) (by decide) (backOf (W := 1) (own_rm_si2 l Z a0 hw [] st a2 G1 da k cap bs h1 n0 f3 f4 P5 A1 f5 f6 g_st (own_B_ext Bd0 E1) hc h2 h64) hZ (hw _ (List.mem_of_getElem? (i := 161) rfl)) (hw _ (List.mem_of_getElem? (i := 6) rfl)) (by decide) (by decide)) (g := (mkF m 5 #[.val (.ref a2)] [(.ref a2), (.ref st), (.ref st)])) rfl (by rw [hml]; rfl) (Steps.refl _) (a := st) (argsL := [(.ref a2)]) (rest := [(.ref st)]) (lenOf own_pd_17 rfl) rfl (by show 2 * 0 + _ ≤ _; exact Nat.le_of_eq rfl) (Jvm.hb hby own_d_jdk_67_method_42_code_5) (fun _ _ => ⟨rfl, e1, Nat.le_of_ble_eq_true rfl, Nat.le_of_ble_eq_true rfl⟩)
  dsimp only [Pt.U, Pt.locs, Pt.cells, Pt.slots] at X7 l7 y7 z7 st7 hQ7
  subst y7 z7
  obtain ⟨rfl, N7, K7, q1, q2, t, kt, q3, q4, q5⟩ := hQ7
  have N8 : Fr n0 L7 := by rw [l7]; exact Fr.app N0 N7
  have szt : h0.size ≤ t := Nat.le_trans f2.1 q3
  have f9 := f2.trans K7 (allS (Or.inr sz_st) all0)
  have f10 := Nat.le_trans f3 K7.1
  have f11 := own_stakeep f4 K7 (allS (own_plainE A1) all0)
  have f12 := A1.keep K7
  refine own_of (T' := T7) (f' := (mkF m 8 #[.val (.ref a2)] [(.ref st)])) (fun t_ k_ => (st7.trans k_)) ?_
  obtain ⟨fs, hr, hrun, hended, hW, hsame⟩ := X7.leave (v := some (.ref st)) (fun h => by rw [Bd.returns] at h; cases h)
  exact ⟨_, _, own_retA X7 hx Bd.returns rfl rfl rfl (Jvm.hb hby own_d_jdk_67_method_42_code_8) hr, hrun, hended, _, _, rfl, (by show own_Q_sts Z a2 G1 da k cap bs h0 n0 _ T7.heap _; exact ⟨st, t, kt, rfl, N8, f9, sz_st, szt, q1, q2, q4, q5⟩), ⟨_, rfl⟩, hW, hsame.mono (by decide) (by decide)⟩
def own_l1 : List Int32 := [84, 111, 107, 101, 110, 82, 101, 113, 117, 101, 115, 116, 91, 103, 114, 97, 110, 116, 84, 121, 112, 101, 61]
def own_l2 : List Int32 := [44, 32, 99, 108, 105, 101, 110, 116, 73, 100, 61]
def own_l3 : List Int32 := [44, 32, 114, 101, 100, 105, 114, 101, 99, 116, 85, 114, 105, 61]
def own_l4 : List Int32 := [93]
def own_txt (c1 c2 c3 : List Int32) : List Int32 := own_l1 ++ c1 ++ own_l2 ++ c2 ++ own_l3 ++ c3 ++ own_l4
theorem own_byA (a b : List Int32) : own_by a ++ own_by b = own_by (a ++ b) := (List.map_append).symm
theorem own_pn_6 : plainName "com/example/austere_auth/austereauth/grant/TokenRequest" = true := by first | (simp [plainName, overriddenIn]; done) | decide +kernel
theorem own_ef_tts (m : MethodId) (a1 : Addr) : entryFrame m #[(.ref a1)] 1 = mkF m 0 #[.val (.ref a1)] [] := by first | (simp [entryFrame, mkF, argsToLocals, Value.category]; done) | rfl
def own_Q_tts (Z : State) (a1 : Addr) (G1 : Int32) (u1 u2 u3 : Value) (c1 c2 c3 : List Int32) (h0 : Heap) (n0 : Nat) (v : Option Value) (h : Heap) (L : List Loc) : Prop := ∃ a t kt, v = some (.ref a) ∧ Fr n0 L ∧ Keep h0 h [] ∧ own_S Z h a t kt (own_txt c1 c2 c3)
theorem own_sA : ∀ a ∈ Bundle.stringAtoms, a ∈ tables_1 := by decide +kernel
theorem own_d_prog_13_method_2_code_0 : decode prog_13_method_2_code 0 = .ok (.new 28, 3) := by decide +kernel
theorem own_d_prog_13_method_2_code_3 : decode prog_13_method_2_code 3 = .ok (.dup, 1) := by decide +kernel
theorem own_d_prog_13_method_2_code_4 : decode prog_13_method_2_code 4 = .ok (.invokespecial 30, 3) := by decide +kernel
theorem own_pd_18 : parseMethodDescriptor "()V" = some ⟨[], none⟩ := by decide +kernel
theorem own_d_prog_13_method_2_code_7 : decode prog_13_method_2_code 7 = .ok (.ldc 31, 2) := by decide +kernel
theorem own_d_prog_13_method_2_code_9 : decode prog_13_method_2_code 9 = .ok (.invokevirtual 33, 3) := by decide +kernel
theorem own_pd_19 : parseMethodDescriptor "(Ljava/lang/String;)Ljava/lang/StringBuilder;" = some ⟨[(.object "java/lang/String")], some (.object "java/lang/StringBuilder")⟩ := by decide +kernel
theorem own_d_prog_13_method_2_code_12 : decode prog_13_method_2_code 12 = .ok (.aload_n 0, 1) := by decide +kernel
theorem own_d_prog_13_method_2_code_13 : decode prog_13_method_2_code 13 = .ok (.getfield 7, 3) := by decide +kernel
theorem own_d_prog_13_method_2_code_16 : decode prog_13_method_2_code 16 = .ok (.invokevirtual 33, 3) := by decide +kernel
theorem own_d_prog_13_method_2_code_19 : decode prog_13_method_2_code 19 = .ok (.ldc 37, 2) := by decide +kernel
theorem own_d_prog_13_method_2_code_21 : decode prog_13_method_2_code 21 = .ok (.invokevirtual 33, 3) := by decide +kernel
theorem own_d_prog_13_method_2_code_24 : decode prog_13_method_2_code 24 = .ok (.aload_n 0, 1) := by decide +kernel
theorem own_d_prog_13_method_2_code_25 : decode prog_13_method_2_code 25 = .ok (.getfield 13, 3) := by decide +kernel
theorem own_d_prog_13_method_2_code_28 : decode prog_13_method_2_code 28 = .ok (.invokevirtual 33, 3) := by decide +kernel
theorem own_d_prog_13_method_2_code_31 : decode prog_13_method_2_code 31 = .ok (.ldc 39, 2) := by decide +kernel
theorem own_d_prog_13_method_2_code_33 : decode prog_13_method_2_code 33 = .ok (.invokevirtual 33, 3) := by decide +kernel
theorem own_d_prog_13_method_2_code_36 : decode prog_13_method_2_code 36 = .ok (.aload_n 0, 1) := by decide +kernel
theorem own_d_prog_13_method_2_code_37 : decode prog_13_method_2_code 37 = .ok (.getfield 22, 3) := by decide +kernel
theorem own_d_prog_13_method_2_code_40 : decode prog_13_method_2_code 40 = .ok (.invokevirtual 33, 3) := by decide +kernel
theorem own_d_prog_13_method_2_code_43 : decode prog_13_method_2_code 43 = .ok (.ldc 41, 2) := by decide +kernel
theorem own_d_prog_13_method_2_code_45 : decode prog_13_method_2_code 45 = .ok (.invokevirtual 33, 3) := by decide +kernel
theorem own_d_prog_13_method_2_code_48 : decode prog_13_method_2_code 48 = .ok (.invokevirtual 43, 3) := by decide +kernel
theorem own_pd_20 : parseMethodDescriptor "()Ljava/lang/String;" = some ⟨[], some (.object "java/lang/String")⟩ := by decide +kernel
theorem own_d_prog_13_method_2_code_51 : decode prog_13_method_2_code 51 = .ok (.areturn, 1) := by decide +kernel
set_option maxRecDepth 65536 in
set_option maxHeartbeats 40000000 in
theorem own_rm_tts (l : Launch) (Z : State) (a0 : Array Value) (hw : ∀ d ∈ tables_1, d.before a0 Z = true) (ws : List Jvm.Cond) (a1 : Addr) (G1 : Int32) (u1 u2 u3 : Value) (c1 c2 c3 : List Int32) (h0 : Heap) (n0 : Nat) (Z0 : n0 ≤ h0.size) (SC : Sta Z h0 "java/lang/String" "COMPACT_STRINGS" "Z" (.int G1)) (P5 : ¬ (G1 = (0 : Int32))) (F1 : Fld Z h0 a1 "com/example/austere_auth/austereauth/grant/TokenRequest" "grantType" "Ljava/lang/String;" u1) (O1 : own_O Z h0 u1 c1) (C1 : c1.length = 1 ∨ c1.length = 4) (F2 : Fld Z h0 a1 "com/example/austere_auth/austereauth/grant/TokenRequest" "clientId" "Ljava/lang/String;" u2) (O2 : own_O Z h0 u2 c2) (C2 : c2.length = 1 ∨ c2.length = 4) (F3 : Fld Z h0 a1 "com/example/austere_auth/austereauth/grant/TokenRequest" "redirectUri" "Ljava/lang/String;" u3) (O3 : own_O Z h0 u3 c3) (C3 : c3.length = 1 ∨ c3.length = 4) :
    MetFree l (⟨"com/example/austere_auth/austereauth/grant/TokenRequest", "toString", "()Ljava/lang/String;"⟩ : MethodName) (head1 (Jvm.Cond.code (⟨"com/example/austere_auth/austereauth/grant/TokenRequest", "toString", "()Ljava/lang/String;"⟩ : MethodName) prog_13_method_2_code 1 (some (.object "java/lang/String")) :: ws) ({ frames := 7, cells := 19, slots := 790, locals := 103 } : Room)) (fun a U => a = #[(.ref a1)] ∧ Z.Warmed39 U.vm ∧ U.heap = h0 ∧ CHv Z own_EL U.vm h0) (fun _ _ _ _ _ => True) (fun _ U o U' => ∃ v L, o = .returned v ∧ own_Q_tts Z a1 G1 u1 u2 u3 c1 c2 c3 h0 n0 v U'.heap L ∧ CHr Z own_EL U.vm U.heap U'.vm U'.heap ∧ ReturnedEndW U o U' L ({ frames := 7, cells := 19, slots := 790, locals := 103 } : Room).cells ({ frames := 7, cells := 19, slots := 790, locals := 103 } : Room).slots) := by
  refine MetFree.of_bodySF (plainFor_of_name own_pn_6) hisR ?_
  intro p e s m args below meth c s₁ Bd hml0 hP hK
  obtain ⟨rfl, hZ, hh, hCH⟩ := hP
  have hx := Bd.exec
  have hby := Bd.bytes
  have hml : c.maxLocals = 1 := hml0
  have hown : s.vm.findClass "com/example/austere_auth/austereauth/grant/TokenRequest" = some m.cls := findClass_of_methodNamed Bd.named
  have hnm := (name_of_methodNamed Bd.named Bd.method).1
  have hZ : Z.Warmed39 (s.setVm s.vm).vm := hZ
  have hown : (s.setVm s.vm).vm.findClass "com/example/austere_auth/austereauth/grant/TokenRequest" = some m.cls := hown
  have hS : s.Since s.vm h0.size := (State.WarmedH.refl s).since _
  have hwS : ∀ a ∈ Bundle.stringAtoms, a.before a0 Z = true := fun a ha => hw a (own_sA a ha)
  have Y0 : h0.size ≤ h0.size := Nat.le_refl _
  have hEL : EW Z a0 own_EL := own_EW hw
  have C0 : CHr Z own_EL s.vm h0 s.vm h0 := CHr.refl hCH
  have X0 : Stand p l e ({ frames := 7, cells := 19, slots := 790, locals := 103 } : Room) (s.setVm s.vm) m #[(.ref a1)] below meth c s₁ [] 0 0 := Stand.of_body Bd
  have e0 : s₁.heap = h0 := by rw [← hh, Bd.state]; rfl
  have N0 := Fr.nil n0
  refine own_start (own_ef_tts m a1 ) ?_
  have K0 : Keep h0 h0 [] := Keep.refl _ _
  have ru1 := (own_O_ref O1).1
  have ru2 := (own_O_ref O2).1
  have ru3 := (own_O_ref O3).1
  have L1 : own_l1.length = 23 := rfl
  have L2 : own_l2.length = 11 := rfl
  have L3 : own_l3.length = 14 := rfl
  have L4 : own_l4.length = 1 := rfl
  obtain ⟨T1, h1, X1, e1, E1, A1, D1, -, st1⟩ := newO X0 hx hZ hown (hw _ (List.mem_of_getElem? (i := 59) rfl)) (hw _ (List.mem_of_getElem? (i := 60) rfl)) (hw _ (List.mem_of_getElem? (i := 61) rfl)) e0 (g := (mkF m 0 #[.val (.ref a1)] [])) rfl (Jvm.hb hby own_d_prog_13_method_2_code_0) (by decide) (by decide)
  obtain ⟨sb, g1⟩ : ∃ z, z = h0.size := ⟨_, rfl⟩
  rw [← g1] at A1 D1 st1
  have ne_a1_sb : a1 ≠ sb := by rw [g1]; exact Nat.ne_of_lt F1.lt
  have g_sb : n0 ≤ sb := Nat.le_trans Z0 (Nat.le_of_eq g1.symm)
  have sz_sb : h0.size ≤ sb := Nat.le_trans K0.1 (Nat.le_of_eq g1.symm)
  have f2 := Nat.le_trans Y0 E1.1
  have f3 := C0.trans (CHr.ext E1 C0.1)
  have f4 := K0.ext E1
  have f5 := Nat.le_trans Z0 E1.1
  have f6 := SC.ext E1
  have f7 := F1.ext E1
  have f8 := F2.ext E1
  have f9 := F3.ext E1
  have f10 : Fld Z h1 sb "java/lang/AbstractStringBuilder" "value" "[B" .null := D1 (Or.inl (hw _ (List.mem_of_getElem? (i := 74) rfl))) (ty := (.array .byte)) (by decide)
  have f11 : Fld Z h1 sb "java/lang/AbstractStringBuilder" "coder" "B" (.int (0 : Int32)) := D1 (Or.inl (hw _ (List.mem_of_getElem? (i := 76) rfl))) (ty := .byte) (by decide)
  have f12 : Fld Z h1 sb "java/lang/AbstractStringBuilder" "count" "I" (.int (0 : Int32)) := D1 (Or.inl (hw _ (List.mem_of_getElem? (i := 101) rfl))) (ty := .int) (by decide)
  refine own_of (T' := T1) (f' := (mkF m 4 #[.val (.ref a1)] [(.ref sb), (.ref sb)])) (fun t_ k_ => (st1 _ (XS.dup X1.here hx rfl (Jvm.hb hby own_d_prog_13_method_2_code_3) rfl rfl k_))) ?_
  obtain ⟨_, _, ⟨T13, L13, k13, n13⟩, -, X13, ⟨Lc13, hQ13, l13, y13, z13⟩, st13⟩ := X1.specialBack hx (y := (⟨"java/lang/StringBuilder", "<init>", "()V"⟩ : MethodName)) rfl hown (mvT hZ (hw _ (List.mem_of_getElem? (i := 62) rfl))) (mvT hZ (hw _ (List.mem_of_getElem? (i := 63) rfl))) (mvT hZ (hw _ (List.mem_of_getElem? (i := 64) rfl))) (by decide) (backOf (W := 1) (own_rm_sbi l Z a0 hw [] sb G1 h1 n0 f5 f6 P5 A1 f10 f11 f12 g_sb) hZ (hw _ (List.mem_of_getElem? (i := 64) rfl)) (hw _ (List.mem_of_getElem? (i := 61) rfl)) (by decide) (by decide)) (g := (mkF m 4 #[.val (.ref a1)] [(.ref sb), (.ref sb)])) rfl (by rw [hml]; rfl) (Steps.refl _) (a := sb) (argsL := []) (rest := [(.ref sb)]) (lenOf own_pd_18 rfl) rfl (by show 2 * 0 + _ ≤ _; exact Nat.le_of_eq rfl) (Jvm.hb hby own_d_prog_13_method_2_code_4) (fun _ _ => ⟨rfl, e1, Nat.le_of_ble_eq_true rfl, Nat.le_of_ble_eq_true rfl⟩)
  dsimp only [Pt.U, Pt.locs, Pt.cells, Pt.slots] at X13 l13 y13 z13 st13 hQ13
  subst y13 z13
  obtain ⟨rfl, N13, K13, da0, kd0, szd0, Bd0⟩ := hQ13
  have g_da0 : n0 ≤ da0 := Nat.le_trans f5 szd0
  have sz_da0 : h0.size ≤ da0 := Nat.le_trans f4.1 szd0
  have N14 : Fr n0 L13 := by rw [l13]; exact Fr.app N0 N13
  have f15 := Nat.le_trans f2 K13.1
  have f16 := f3.trans (CHr.keep K13 (sfS (Safe.exa hZ.alike A1 (by decide) (by decide)) sf0) f3.1)
  have f17 := f4.trans K13 (allS (Or.inr sz_sb) all0)
  have f18 := Nat.le_trans f5 K13.1
  have f19 := own_stakeep f6 K13 (allS (own_plainE A1) all0)
  have f20 := f7.keep K13 (ninS ne_a1_sb nin0)
  have f21 := f8.keep K13 (ninS ne_a1_sb nin0)
  have f22 := f9.keep K13 (ninS ne_a1_sb nin0)
  have f23 := A1.keep K13
  have sfd := (Safe.keep K13 (sfS (Safe.exa hZ.alike A1 (by decide) (by decide)) sf0) f3.1 (Safe.new szd0))
  refine own_of (T' := T13) (f' := (mkF m 7 #[.val (.ref a1)] [(.ref sb)])) (fun t_ k_ => (st13.trans k_)) ?_
  obtain ⟨s1, T24, h24, k24, y1, kb24, X24, e24, E24, hS, Y24, hZ, hown, Es24, Fc24, Fv24, Vb24, -, -, C24, Li24, nl24, st24⟩ := ldcCH X13 hx hZ hown (hw _ (List.mem_of_getElem? (i := 77) rfl)) hwS rfl hS f15 hEL (by decide) f16.1 (vs := [.int 84, .int 111, .int 107, .int 101, .int 110, .int 82, .int 101, .int 113, .int 117, .int 101, .int 115, .int 116, .int 91, .int 103, .int 114, .int 97, .int 110, .int 116, .int 84, .int 121, .int 112, .int 101, .int 61]) (z := (23 : Int32)) ⟨by first | decide | simp, by first | rfl | simp⟩ (by decide) (by decide) (g := (mkF m 7 #[.val (.ref a1)] [(.ref sb)])) rfl (Jvm.hb hby own_d_prog_13_method_2_code_7) (n := 92) (by decide) (by decide) (by decide) (by decide)
  have f25 := f17.ext E24
  have f26 := Nat.le_trans f18 E24.1
  have f27 := f19.ext E24
  have f28 := f20.ext E24
  have f29 := f21.ext E24
  have f30 := f22.ext E24
  have f31 := Bd0.1.ext E24
  have f32 := f16.trans C24
  refine own_of (T' := T24) (f' := (mkF m 9 #[.val (.ref a1)] [(.ref s1), (.ref sb)])) (fun t_ k_ => (st24 _ k_)) ?_
  have sfl1 := CHr.safe C24 (Arv.lt Bd0.2.2.2.2.2.1) sfd
  have Bl1 := own_B_ext Bd0 E24
  have hlb0 : ([] : List Value).length = ([] : List Int32).length := rfl
  have hcl0 : ([] : List Int32).length = 0 := by
    rfl
  have hgr0 : own_grow 16 (([] : List Value).length + own_l1.length) = 34 := by
    rw [hlb0, hcl0]
    unfold own_grow
    rw [if_neg (by omega)]; omega
  obtain ⟨cq34, kq34, q34a, q34b, q34c⟩ := isOf hZ e24 f31
  obtain ⟨_, _, ⟨T33, L33, k33, n33⟩, -, X33, ⟨Lc33, hQ33, l33, y33, z33⟩, st33⟩ := X24.virtualBack hx (y := (⟨"java/lang/StringBuilder", "append", "(Ljava/lang/String;)Ljava/lang/StringBuilder;"⟩ : MethodName)) (z := (⟨"java/lang/StringBuilder", "append", "(Ljava/lang/String;)Ljava/lang/StringBuilder;"⟩ : MethodName)) hown (mvT hZ (hw _ (List.mem_of_getElem? (i := 80) rfl))) (mvT hZ (hw _ (List.mem_of_getElem? (i := 81) rfl))) (notFace_of_selects (args := #[]) (mvT hZ (hw _ (List.mem_of_getElem? (i := 83) rfl)))) (mvT hZ (hw _ (List.mem_of_getElem? (i := 83) rfl))) (mvT hZ (hw _ (List.mem_of_getElem? (i := 82) rfl))) (by decide) (backOf (W := 0) (own_rm_sba l Z a0 hw [] sb (.ref s1) own_l1 G1 da0 kd0 16 ([] : List Value) h24 n0 f26 f27 P5 Bl1 g_sb g_da0 (by rw [hlb0, hcl0]; omega) (by decide) (by rw [hgr0]; decide) (Or.inr ⟨s1, y1, _, rfl, Es24, Fv24, Fc24, Vb24⟩)) hZ (hw _ (List.mem_of_getElem? (i := 84) rfl)) (hw _ (List.mem_of_getElem? (i := 61) rfl)) (by decide) (by decide)) q34a q34c (g := (mkF m 9 #[.val (.ref a1)] [(.ref s1), (.ref sb)])) rfl (by rw [hml]; rfl) (Steps.refl _) (argsL := [(.ref s1)]) (rest := []) (lenOf own_pd_19 rfl) rfl (by show 2 * 0 + _ ≤ _; exact Nat.le_of_eq rfl) (Jvm.hb hby own_d_prog_13_method_2_code_9) (fun _ _ => ⟨rfl, e24, Nat.le_of_ble_eq_true rfl, Nat.le_of_ble_eq_true rfl⟩)
  dsimp only [Pt.U, Pt.locs, Pt.cells, Pt.slots] at X33 l33 y33 z33 st33 hQ33
  subst y33 z33
  obtain ⟨rfl, N33, K33, da1, kd1, hd0, Bd1⟩ := hQ33
  rw [hgr0] at Bd1
  have N35 : Fr n0 L33 := by rw [l33]; exact Fr.app N14 N33
  have g_da1 : n0 ≤ da1 := hd0.elim (fun q => q ▸ g_da0) (fun q => Nat.le_trans f26 q)
  have sz_da1 : h0.size ≤ da1 := hd0.elim (fun q => q ▸ sz_da0) (fun q => Nat.le_trans f25.1 q)
  have sfn0 : Safe Z own_EL T24.vm T33.heap da1 := by
    rcases hd0 with q | q
    · rw [q]; exact Safe.keep K33 (sfS (Safe.exa hZ.alike f31 (by decide) (by decide)) (sfS sfl1 sf0)) f32.1 sfl1
    · exact Safe.keep K33 (sfS (Safe.exa hZ.alike f31 (by decide) (by decide)) (sfS sfl1 sf0)) f32.1 (Safe.new q)
  have fC0 := f32.trans (CHr.keep K33 (sfS (Safe.exa hZ.alike f31 (by decide) (by decide)) (sfS sfl1 sf0)) f32.1)
  have f36 := f25.trans K33 (allS (Or.inr sz_sb) (allS (Or.inr sz_da0) all0))
  have f37 := Nat.le_trans f26 K33.1
  have f38 := own_stakeep f27 K33 (allS (own_plainE f31) (allS (own_plainE Bl1.2.2.2.2.1) all0))
  have f39 := f28.keep K33 (ninS ne_a1_sb (ninS (Nat.ne_of_lt (Nat.lt_of_lt_of_le F1.lt sz_da0)) nin0))
  have f40 := f29.keep K33 (ninS ne_a1_sb (ninS (Nat.ne_of_lt (Nat.lt_of_lt_of_le F1.lt sz_da0)) nin0))
  have f41 := f30.keep K33 (ninS ne_a1_sb (ninS (Nat.ne_of_lt (Nat.lt_of_lt_of_le F1.lt sz_da0)) nin0))
  have f42 := f31.keep K33
  have f43 := Nat.le_trans Y24 K33.1
  rw [List.nil_append] at Bd1
  obtain ⟨T44, X44, e44, st44⟩ := getF X33 hx hZ hown (host := "") (Or.inl (hw _ (List.mem_of_getElem? (i := 42) rfl))) Via.refl rfl f39 (g := (mkF m 13 #[.val (.ref a1)] [(.ref a1), (.ref sb)])) rfl rfl (Jvm.hb hby own_d_prog_13_method_2_code_13)
  refine own_of (T' := T44) (f' := (mkF m 16 #[.val (.ref a1)] [u1, (.ref sb)])) (fun t_ k_ => (st33.trans (XS.aloadN X33.here hx rfl (Jvm.hb hby own_d_prog_13_method_2_code_12) rfl rfl (st44 _ k_)))) ?_
  have hlb1 : (own_by own_l1).length = own_l1.length := own_byl _
  have hcl1 : own_l1.length = 23 := by
    simp only [List.length_append, L1, L2, L3, L4]
  have hgr1 : own_grow 34 ((own_by own_l1).length + c1.length) = 34 := by
    rw [hlb1, hcl1]
    unfold own_grow
    rw [if_pos (by omega)]
  obtain ⟨cq46, kq46, q46a, q46b, q46c⟩ := isOf hZ e44 f42
  obtain ⟨_, _, ⟨T45, L45, k45, n45⟩, -, X45, ⟨Lc45, hQ45, l45, y45, z45⟩, st45⟩ := X44.virtualBack hx (y := (⟨"java/lang/StringBuilder", "append", "(Ljava/lang/String;)Ljava/lang/StringBuilder;"⟩ : MethodName)) (z := (⟨"java/lang/StringBuilder", "append", "(Ljava/lang/String;)Ljava/lang/StringBuilder;"⟩ : MethodName)) hown (mvT hZ (hw _ (List.mem_of_getElem? (i := 80) rfl))) (mvT hZ (hw _ (List.mem_of_getElem? (i := 81) rfl))) (notFace_of_selects (args := #[]) (mvT hZ (hw _ (List.mem_of_getElem? (i := 83) rfl)))) (mvT hZ (hw _ (List.mem_of_getElem? (i := 83) rfl))) (mvT hZ (hw _ (List.mem_of_getElem? (i := 82) rfl))) (by decide) (backOf (W := 0) (own_rm_sba l Z a0 hw [] sb u1 c1 G1 da1 kd1 34 (own_by own_l1) T33.heap n0 f37 f38 P5 Bd1 g_sb g_da1 (by rw [hlb1, hcl1]; omega) (by decide) (by rw [hgr1]; decide) (own_O_keep O1 f36)) hZ (hw _ (List.mem_of_getElem? (i := 84) rfl)) (hw _ (List.mem_of_getElem? (i := 61) rfl)) (by decide) (by decide)) q46a q46c (g := (mkF m 16 #[.val (.ref a1)] [u1, (.ref sb)])) rfl (by rw [hml]; rfl) (Steps.refl _) (argsL := [u1]) (rest := []) (lenOf own_pd_19 rfl) rfl (by show 2 * 0 + _ ≤ _; exact Nat.le_of_eq rfl) (Jvm.hb hby own_d_prog_13_method_2_code_16) (fun _ _ => ⟨rfl, e44, Nat.le_of_ble_eq_true rfl, Nat.le_of_ble_eq_true rfl⟩)
  dsimp only [Pt.U, Pt.locs, Pt.cells, Pt.slots] at X45 l45 y45 z45 st45 hQ45
  subst y45 z45
  obtain ⟨rfl, N45, K45, da2, kd2, hd1, Bd2⟩ := hQ45
  rw [hgr1] at Bd2
  have N47 : Fr n0 L45 := by rw [l45]; exact Fr.app N35 N45
  have g_da2 : n0 ≤ da2 := hd1.elim (fun q => q ▸ g_da1) (fun q => Nat.le_trans f37 q)
  have sz_da2 : h0.size ≤ da2 := hd1.elim (fun q => q ▸ sz_da1) (fun q => Nat.le_trans f36.1 q)
  have sfn1 : Safe Z own_EL T24.vm T45.heap da2 := by
    rcases hd1 with q | q
    · rw [q]; exact Safe.keep K45 (sfS (Safe.exa hZ.alike f42 (by decide) (by decide)) (sfS sfn0 sf0)) fC0.1 sfn0
    · exact Safe.keep K45 (sfS (Safe.exa hZ.alike f42 (by decide) (by decide)) (sfS sfn0 sf0)) fC0.1 (Safe.new q)
  have fC1 := fC0.trans (CHr.keep K45 (sfS (Safe.exa hZ.alike f42 (by decide) (by decide)) (sfS sfn0 sf0)) fC0.1)
  have f48 := f36.trans K45 (allS (Or.inr sz_sb) (allS (Or.inr sz_da1) all0))
  have f49 := Nat.le_trans f37 K45.1
  have f50 := own_stakeep f38 K45 (allS (own_plainE f42) (allS (own_plainE Bd1.2.2.2.2.1) all0))
  have f51 := f39.keep K45 (ninS ne_a1_sb (ninS (Nat.ne_of_lt (Nat.lt_of_lt_of_le F1.lt sz_da1)) nin0))
  have f52 := f40.keep K45 (ninS ne_a1_sb (ninS (Nat.ne_of_lt (Nat.lt_of_lt_of_le F1.lt sz_da1)) nin0))
  have f53 := f41.keep K45 (ninS ne_a1_sb (ninS (Nat.ne_of_lt (Nat.lt_of_lt_of_le F1.lt sz_da1)) nin0))
  have f54 := f42.keep K45
  have f55 := Nat.le_trans f43 K45.1
  rw [own_byA] at Bd2
  refine own_of (T' := T45) (f' := (mkF m 19 #[.val (.ref a1)] [(.ref sb)])) (fun t_ k_ => (st45.trans k_)) ?_
  obtain ⟨s2, T56, h56, k56, y2, kb56, X56, e56, E56, hS, Y56, hZ, hown, Es56, Fc56, Fv56, Vb56, -, -, C56, Li56, nl56, st56⟩ := ldcCH X45 hx hZ hown (hw _ (List.mem_of_getElem? (i := 150) rfl)) hwS rfl hS f55 hEL (by decide) fC1.1 (vs := [.int 44, .int 32, .int 99, .int 108, .int 105, .int 101, .int 110, .int 116, .int 73, .int 100, .int 61]) (z := (11 : Int32)) ⟨by first | decide | simp, by first | rfl | simp⟩ (by decide) (by decide) (g := (mkF m 19 #[.val (.ref a1)] [(.ref sb)])) rfl (Jvm.hb hby own_d_prog_13_method_2_code_19) (n := 44) (by decide) (by decide) (by decide) (by decide)
  have f57 := f48.ext E56
  have f58 := Nat.le_trans f49 E56.1
  have f59 := f50.ext E56
  have f60 := f51.ext E56
  have f61 := f52.ext E56
  have f62 := f53.ext E56
  have f63 := f54.ext E56
  have f64 := fC1.trans C56
  refine own_of (T' := T56) (f' := (mkF m 21 #[.val (.ref a1)] [(.ref s2), (.ref sb)])) (fun t_ k_ => (st56 _ k_)) ?_
  have sfl2 := CHr.safe C56 (Arv.lt Bd2.2.2.2.2.2.1) sfn1
  have Bl2 := own_B_ext Bd2 E56
  have hlb2 : (own_by (own_l1 ++ c1)).length = (own_l1 ++ c1).length := own_byl _
  have hcl2 : (own_l1 ++ c1).length = 23 + c1.length := by
    simp only [List.length_append, L1, L2, L3, L4]
  have hgr2 : own_grow 34 ((own_by (own_l1 ++ c1)).length + own_l2.length) = 70 := by
    rw [hlb2, hcl2]
    unfold own_grow
    rw [if_neg (by omega)]; omega
  obtain ⟨cq66, kq66, q66a, q66b, q66c⟩ := isOf hZ e56 f63
  obtain ⟨_, _, ⟨T65, L65, k65, n65⟩, -, X65, ⟨Lc65, hQ65, l65, y65, z65⟩, st65⟩ := X56.virtualBack hx (y := (⟨"java/lang/StringBuilder", "append", "(Ljava/lang/String;)Ljava/lang/StringBuilder;"⟩ : MethodName)) (z := (⟨"java/lang/StringBuilder", "append", "(Ljava/lang/String;)Ljava/lang/StringBuilder;"⟩ : MethodName)) hown (mvT hZ (hw _ (List.mem_of_getElem? (i := 80) rfl))) (mvT hZ (hw _ (List.mem_of_getElem? (i := 81) rfl))) (notFace_of_selects (args := #[]) (mvT hZ (hw _ (List.mem_of_getElem? (i := 83) rfl)))) (mvT hZ (hw _ (List.mem_of_getElem? (i := 83) rfl))) (mvT hZ (hw _ (List.mem_of_getElem? (i := 82) rfl))) (by decide) (backOf (W := 0) (own_rm_sba l Z a0 hw [] sb (.ref s2) own_l2 G1 da2 kd2 34 (own_by (own_l1 ++ c1)) h56 n0 f58 f59 P5 Bl2 g_sb g_da2 (by rw [hlb2, hcl2]; omega) (by decide) (by rw [hgr2]; decide) (Or.inr ⟨s2, y2, _, rfl, Es56, Fv56, Fc56, Vb56⟩)) hZ (hw _ (List.mem_of_getElem? (i := 84) rfl)) (hw _ (List.mem_of_getElem? (i := 61) rfl)) (by decide) (by decide)) q66a q66c (g := (mkF m 21 #[.val (.ref a1)] [(.ref s2), (.ref sb)])) rfl (by rw [hml]; rfl) (Steps.refl _) (argsL := [(.ref s2)]) (rest := []) (lenOf own_pd_19 rfl) rfl (by show 2 * 0 + _ ≤ _; exact Nat.le_of_eq rfl) (Jvm.hb hby own_d_prog_13_method_2_code_21) (fun _ _ => ⟨rfl, e56, Nat.le_of_ble_eq_true rfl, Nat.le_of_ble_eq_true rfl⟩)
  dsimp only [Pt.U, Pt.locs, Pt.cells, Pt.slots] at X65 l65 y65 z65 st65 hQ65
  subst y65 z65
  obtain ⟨rfl, N65, K65, da3, kd3, hd2, Bd3⟩ := hQ65
  rw [hgr2] at Bd3
  have N67 : Fr n0 L65 := by rw [l65]; exact Fr.app N47 N65
  have g_da3 : n0 ≤ da3 := hd2.elim (fun q => q ▸ g_da2) (fun q => Nat.le_trans f58 q)
  have sz_da3 : h0.size ≤ da3 := hd2.elim (fun q => q ▸ sz_da2) (fun q => Nat.le_trans f57.1 q)
  have sfn2 : Safe Z own_EL T56.vm T65.heap da3 := by
    rcases hd2 with q | q
    · rw [q]; exact Safe.keep K65 (sfS (Safe.exa hZ.alike f63 (by decide) (by decide)) (sfS sfl2 sf0)) f64.1 sfl2
    · exact Safe.keep K65 (sfS (Safe.exa hZ.alike f63 (by decide) (by decide)) (sfS sfl2 sf0)) f64.1 (Safe.new q)
  have fC2 := f64.trans (CHr.keep K65 (sfS (Safe.exa hZ.alike f63 (by decide) (by decide)) (sfS sfl2 sf0)) f64.1)
  have f68 := f57.trans K65 (allS (Or.inr sz_sb) (allS (Or.inr sz_da2) all0))
  have f69 := Nat.le_trans f58 K65.1
  have f70 := own_stakeep f59 K65 (allS (own_plainE f63) (allS (own_plainE Bl2.2.2.2.2.1) all0))
  have f71 := f60.keep K65 (ninS ne_a1_sb (ninS (Nat.ne_of_lt (Nat.lt_of_lt_of_le F1.lt sz_da2)) nin0))
  have f72 := f61.keep K65 (ninS ne_a1_sb (ninS (Nat.ne_of_lt (Nat.lt_of_lt_of_le F1.lt sz_da2)) nin0))
  have f73 := f62.keep K65 (ninS ne_a1_sb (ninS (Nat.ne_of_lt (Nat.lt_of_lt_of_le F1.lt sz_da2)) nin0))
  have f74 := f63.keep K65
  have f75 := Nat.le_trans Y56 K65.1
  rw [own_byA] at Bd3
  obtain ⟨T76, X76, e76, st76⟩ := getF X65 hx hZ hown (host := "") (Or.inl (hw _ (List.mem_of_getElem? (i := 44) rfl))) Via.refl rfl f72 (g := (mkF m 25 #[.val (.ref a1)] [(.ref a1), (.ref sb)])) rfl rfl (Jvm.hb hby own_d_prog_13_method_2_code_25)
  refine own_of (T' := T76) (f' := (mkF m 28 #[.val (.ref a1)] [u2, (.ref sb)])) (fun t_ k_ => (st65.trans (XS.aloadN X65.here hx rfl (Jvm.hb hby own_d_prog_13_method_2_code_24) rfl rfl (st76 _ k_)))) ?_
  have hlb3 : (own_by ((own_l1 ++ c1) ++ own_l2)).length = ((own_l1 ++ c1) ++ own_l2).length := own_byl _
  have hcl3 : ((own_l1 ++ c1) ++ own_l2).length = 23 + c1.length + 11 := by
    simp only [List.length_append, L1, L2, L3, L4]
  have hgr3 : own_grow 70 ((own_by ((own_l1 ++ c1) ++ own_l2)).length + c2.length) = 70 := by
    rw [hlb3, hcl3]
    unfold own_grow
    rw [if_pos (by omega)]
  obtain ⟨cq78, kq78, q78a, q78b, q78c⟩ := isOf hZ e76 f74
  obtain ⟨_, _, ⟨T77, L77, k77, n77⟩, -, X77, ⟨Lc77, hQ77, l77, y77, z77⟩, st77⟩ := X76.virtualBack hx (y := (⟨"java/lang/StringBuilder", "append", "(Ljava/lang/String;)Ljava/lang/StringBuilder;"⟩ : MethodName)) (z := (⟨"java/lang/StringBuilder", "append", "(Ljava/lang/String;)Ljava/lang/StringBuilder;"⟩ : MethodName)) hown (mvT hZ (hw _ (List.mem_of_getElem? (i := 80) rfl))) (mvT hZ (hw _ (List.mem_of_getElem? (i := 81) rfl))) (notFace_of_selects (args := #[]) (mvT hZ (hw _ (List.mem_of_getElem? (i := 83) rfl)))) (mvT hZ (hw _ (List.mem_of_getElem? (i := 83) rfl))) (mvT hZ (hw _ (List.mem_of_getElem? (i := 82) rfl))) (by decide) (backOf (W := 0) (own_rm_sba l Z a0 hw [] sb u2 c2 G1 da3 kd3 70 (own_by ((own_l1 ++ c1) ++ own_l2)) T65.heap n0 f69 f70 P5 Bd3 g_sb g_da3 (by rw [hlb3, hcl3]; omega) (by decide) (by rw [hgr3]; decide) (own_O_keep O2 f68)) hZ (hw _ (List.mem_of_getElem? (i := 84) rfl)) (hw _ (List.mem_of_getElem? (i := 61) rfl)) (by decide) (by decide)) q78a q78c (g := (mkF m 28 #[.val (.ref a1)] [u2, (.ref sb)])) rfl (by rw [hml]; rfl) (Steps.refl _) (argsL := [u2]) (rest := []) (lenOf own_pd_19 rfl) rfl (by show 2 * 0 + _ ≤ _; exact Nat.le_of_eq rfl) (Jvm.hb hby own_d_prog_13_method_2_code_28) (fun _ _ => ⟨rfl, e76, Nat.le_of_ble_eq_true rfl, Nat.le_of_ble_eq_true rfl⟩)
  dsimp only [Pt.U, Pt.locs, Pt.cells, Pt.slots] at X77 l77 y77 z77 st77 hQ77
  subst y77 z77
  obtain ⟨rfl, N77, K77, da4, kd4, hd3, Bd4⟩ := hQ77
  rw [hgr3] at Bd4
  have N79 : Fr n0 L77 := by rw [l77]; exact Fr.app N67 N77
  have g_da4 : n0 ≤ da4 := hd3.elim (fun q => q ▸ g_da3) (fun q => Nat.le_trans f69 q)
  have sz_da4 : h0.size ≤ da4 := hd3.elim (fun q => q ▸ sz_da3) (fun q => Nat.le_trans f68.1 q)
  have sfn3 : Safe Z own_EL T56.vm T77.heap da4 := by
    rcases hd3 with q | q
    · rw [q]; exact Safe.keep K77 (sfS (Safe.exa hZ.alike f74 (by decide) (by decide)) (sfS sfn2 sf0)) fC2.1 sfn2
    · exact Safe.keep K77 (sfS (Safe.exa hZ.alike f74 (by decide) (by decide)) (sfS sfn2 sf0)) fC2.1 (Safe.new q)
  have fC3 := fC2.trans (CHr.keep K77 (sfS (Safe.exa hZ.alike f74 (by decide) (by decide)) (sfS sfn2 sf0)) fC2.1)
  have f80 := f68.trans K77 (allS (Or.inr sz_sb) (allS (Or.inr sz_da3) all0))
  have f81 := Nat.le_trans f69 K77.1
  have f82 := own_stakeep f70 K77 (allS (own_plainE f74) (allS (own_plainE Bd3.2.2.2.2.1) all0))
  have f83 := f71.keep K77 (ninS ne_a1_sb (ninS (Nat.ne_of_lt (Nat.lt_of_lt_of_le F1.lt sz_da3)) nin0))
  have f84 := f72.keep K77 (ninS ne_a1_sb (ninS (Nat.ne_of_lt (Nat.lt_of_lt_of_le F1.lt sz_da3)) nin0))
  have f85 := f73.keep K77 (ninS ne_a1_sb (ninS (Nat.ne_of_lt (Nat.lt_of_lt_of_le F1.lt sz_da3)) nin0))
  have f86 := f74.keep K77
  have f87 := Nat.le_trans f75 K77.1
  rw [own_byA] at Bd4
  refine own_of (T' := T77) (f' := (mkF m 31 #[.val (.ref a1)] [(.ref sb)])) (fun t_ k_ => (st77.trans k_)) ?_
  obtain ⟨s3, T88, h88, k88, y3, kb88, X88, e88, E88, hS, Y88, hZ, hown, Es88, Fc88, Fv88, Vb88, -, -, C88, Li88, nl88, st88⟩ := ldcCH X77 hx hZ hown (hw _ (List.mem_of_getElem? (i := 151) rfl)) hwS rfl hS f87 hEL (by decide) fC3.1 (vs := [.int 44, .int 32, .int 114, .int 101, .int 100, .int 105, .int 114, .int 101, .int 99, .int 116, .int 85, .int 114, .int 105, .int 61]) (z := (14 : Int32)) ⟨by first | decide | simp, by first | rfl | simp⟩ (by decide) (by decide) (g := (mkF m 31 #[.val (.ref a1)] [(.ref sb)])) rfl (Jvm.hb hby own_d_prog_13_method_2_code_31) (n := 56) (by decide) (by decide) (by decide) (by decide)
  have f89 := f80.ext E88
  have f90 := Nat.le_trans f81 E88.1
  have f91 := f82.ext E88
  have f92 := f83.ext E88
  have f93 := f84.ext E88
  have f94 := f85.ext E88
  have f95 := f86.ext E88
  have f96 := fC3.trans C88
  refine own_of (T' := T88) (f' := (mkF m 33 #[.val (.ref a1)] [(.ref s3), (.ref sb)])) (fun t_ k_ => (st88 _ k_)) ?_
  have sfl3 := CHr.safe C88 (Arv.lt Bd4.2.2.2.2.2.1) sfn3
  have Bl3 := own_B_ext Bd4 E88
  have hlb4 : (own_by (((own_l1 ++ c1) ++ own_l2) ++ c2)).length = (((own_l1 ++ c1) ++ own_l2) ++ c2).length := own_byl _
  have hcl4 : (((own_l1 ++ c1) ++ own_l2) ++ c2).length = 23 + c1.length + 11 + c2.length := by
    simp only [List.length_append, L1, L2, L3, L4]
  have hgr4 : own_grow 70 ((own_by (((own_l1 ++ c1) ++ own_l2) ++ c2)).length + own_l3.length) = 70 := by
    rw [hlb4, hcl4]
    unfold own_grow
    rw [if_pos (by omega)]
  obtain ⟨cq98, kq98, q98a, q98b, q98c⟩ := isOf hZ e88 f95
  obtain ⟨_, _, ⟨T97, L97, k97, n97⟩, -, X97, ⟨Lc97, hQ97, l97, y97, z97⟩, st97⟩ := X88.virtualBack hx (y := (⟨"java/lang/StringBuilder", "append", "(Ljava/lang/String;)Ljava/lang/StringBuilder;"⟩ : MethodName)) (z := (⟨"java/lang/StringBuilder", "append", "(Ljava/lang/String;)Ljava/lang/StringBuilder;"⟩ : MethodName)) hown (mvT hZ (hw _ (List.mem_of_getElem? (i := 80) rfl))) (mvT hZ (hw _ (List.mem_of_getElem? (i := 81) rfl))) (notFace_of_selects (args := #[]) (mvT hZ (hw _ (List.mem_of_getElem? (i := 83) rfl)))) (mvT hZ (hw _ (List.mem_of_getElem? (i := 83) rfl))) (mvT hZ (hw _ (List.mem_of_getElem? (i := 82) rfl))) (by decide) (backOf (W := 0) (own_rm_sba l Z a0 hw [] sb (.ref s3) own_l3 G1 da4 kd4 70 (own_by (((own_l1 ++ c1) ++ own_l2) ++ c2)) h88 n0 f90 f91 P5 Bl3 g_sb g_da4 (by rw [hlb4, hcl4]; omega) (by decide) (by rw [hgr4]; decide) (Or.inr ⟨s3, y3, _, rfl, Es88, Fv88, Fc88, Vb88⟩)) hZ (hw _ (List.mem_of_getElem? (i := 84) rfl)) (hw _ (List.mem_of_getElem? (i := 61) rfl)) (by decide) (by decide)) q98a q98c (g := (mkF m 33 #[.val (.ref a1)] [(.ref s3), (.ref sb)])) rfl (by rw [hml]; rfl) (Steps.refl _) (argsL := [(.ref s3)]) (rest := []) (lenOf own_pd_19 rfl) rfl (by show 2 * 0 + _ ≤ _; exact Nat.le_of_eq rfl) (Jvm.hb hby own_d_prog_13_method_2_code_33) (fun _ _ => ⟨rfl, e88, Nat.le_of_ble_eq_true rfl, Nat.le_of_ble_eq_true rfl⟩)
  dsimp only [Pt.U, Pt.locs, Pt.cells, Pt.slots] at X97 l97 y97 z97 st97 hQ97
  subst y97 z97
  obtain ⟨rfl, N97, K97, da5, kd5, hd4, Bd5⟩ := hQ97
  rw [hgr4] at Bd5
  have N99 : Fr n0 L97 := by rw [l97]; exact Fr.app N79 N97
  have g_da5 : n0 ≤ da5 := hd4.elim (fun q => q ▸ g_da4) (fun q => Nat.le_trans f90 q)
  have sz_da5 : h0.size ≤ da5 := hd4.elim (fun q => q ▸ sz_da4) (fun q => Nat.le_trans f89.1 q)
  have sfn4 : Safe Z own_EL T88.vm T97.heap da5 := by
    rcases hd4 with q | q
    · rw [q]; exact Safe.keep K97 (sfS (Safe.exa hZ.alike f95 (by decide) (by decide)) (sfS sfl3 sf0)) f96.1 sfl3
    · exact Safe.keep K97 (sfS (Safe.exa hZ.alike f95 (by decide) (by decide)) (sfS sfl3 sf0)) f96.1 (Safe.new q)
  have fC4 := f96.trans (CHr.keep K97 (sfS (Safe.exa hZ.alike f95 (by decide) (by decide)) (sfS sfl3 sf0)) f96.1)
  have f100 := f89.trans K97 (allS (Or.inr sz_sb) (allS (Or.inr sz_da4) all0))
  have f101 := Nat.le_trans f90 K97.1
  have f102 := own_stakeep f91 K97 (allS (own_plainE f95) (allS (own_plainE Bl3.2.2.2.2.1) all0))
  have f103 := f92.keep K97 (ninS ne_a1_sb (ninS (Nat.ne_of_lt (Nat.lt_of_lt_of_le F1.lt sz_da4)) nin0))
  have f104 := f93.keep K97 (ninS ne_a1_sb (ninS (Nat.ne_of_lt (Nat.lt_of_lt_of_le F1.lt sz_da4)) nin0))
  have f105 := f94.keep K97 (ninS ne_a1_sb (ninS (Nat.ne_of_lt (Nat.lt_of_lt_of_le F1.lt sz_da4)) nin0))
  have f106 := f95.keep K97
  have f107 := Nat.le_trans Y88 K97.1
  rw [own_byA] at Bd5
  obtain ⟨T108, X108, e108, st108⟩ := getF X97 hx hZ hown (host := "") (Or.inl (hw _ (List.mem_of_getElem? (i := 50) rfl))) Via.refl rfl f105 (g := (mkF m 37 #[.val (.ref a1)] [(.ref a1), (.ref sb)])) rfl rfl (Jvm.hb hby own_d_prog_13_method_2_code_37)
  refine own_of (T' := T108) (f' := (mkF m 40 #[.val (.ref a1)] [u3, (.ref sb)])) (fun t_ k_ => (st97.trans (XS.aloadN X97.here hx rfl (Jvm.hb hby own_d_prog_13_method_2_code_36) rfl rfl (st108 _ k_)))) ?_
  have hlb5 : (own_by ((((own_l1 ++ c1) ++ own_l2) ++ c2) ++ own_l3)).length = ((((own_l1 ++ c1) ++ own_l2) ++ c2) ++ own_l3).length := own_byl _
  have hcl5 : ((((own_l1 ++ c1) ++ own_l2) ++ c2) ++ own_l3).length = 23 + c1.length + 11 + c2.length + 14 := by
    simp only [List.length_append, L1, L2, L3, L4]
  have hgr5 : own_grow 70 ((own_by ((((own_l1 ++ c1) ++ own_l2) ++ c2) ++ own_l3)).length + c3.length) = 70 := by
    rw [hlb5, hcl5]
    unfold own_grow
    rw [if_pos (by omega)]
  obtain ⟨cq110, kq110, q110a, q110b, q110c⟩ := isOf hZ e108 f106
  obtain ⟨_, _, ⟨T109, L109, k109, n109⟩, -, X109, ⟨Lc109, hQ109, l109, y109, z109⟩, st109⟩ := X108.virtualBack hx (y := (⟨"java/lang/StringBuilder", "append", "(Ljava/lang/String;)Ljava/lang/StringBuilder;"⟩ : MethodName)) (z := (⟨"java/lang/StringBuilder", "append", "(Ljava/lang/String;)Ljava/lang/StringBuilder;"⟩ : MethodName)) hown (mvT hZ (hw _ (List.mem_of_getElem? (i := 80) rfl))) (mvT hZ (hw _ (List.mem_of_getElem? (i := 81) rfl))) (notFace_of_selects (args := #[]) (mvT hZ (hw _ (List.mem_of_getElem? (i := 83) rfl)))) (mvT hZ (hw _ (List.mem_of_getElem? (i := 83) rfl))) (mvT hZ (hw _ (List.mem_of_getElem? (i := 82) rfl))) (by decide) (backOf (W := 0) (own_rm_sba l Z a0 hw [] sb u3 c3 G1 da5 kd5 70 (own_by ((((own_l1 ++ c1) ++ own_l2) ++ c2) ++ own_l3)) T97.heap n0 f101 f102 P5 Bd5 g_sb g_da5 (by rw [hlb5, hcl5]; omega) (by decide) (by rw [hgr5]; decide) (own_O_keep O3 f100)) hZ (hw _ (List.mem_of_getElem? (i := 84) rfl)) (hw _ (List.mem_of_getElem? (i := 61) rfl)) (by decide) (by decide)) q110a q110c (g := (mkF m 40 #[.val (.ref a1)] [u3, (.ref sb)])) rfl (by rw [hml]; rfl) (Steps.refl _) (argsL := [u3]) (rest := []) (lenOf own_pd_19 rfl) rfl (by show 2 * 0 + _ ≤ _; exact Nat.le_of_eq rfl) (Jvm.hb hby own_d_prog_13_method_2_code_40) (fun _ _ => ⟨rfl, e108, Nat.le_of_ble_eq_true rfl, Nat.le_of_ble_eq_true rfl⟩)
  dsimp only [Pt.U, Pt.locs, Pt.cells, Pt.slots] at X109 l109 y109 z109 st109 hQ109
  subst y109 z109
  obtain ⟨rfl, N109, K109, da6, kd6, hd5, Bd6⟩ := hQ109
  rw [hgr5] at Bd6
  have N111 : Fr n0 L109 := by rw [l109]; exact Fr.app N99 N109
  have g_da6 : n0 ≤ da6 := hd5.elim (fun q => q ▸ g_da5) (fun q => Nat.le_trans f101 q)
  have sz_da6 : h0.size ≤ da6 := hd5.elim (fun q => q ▸ sz_da5) (fun q => Nat.le_trans f100.1 q)
  have sfn5 : Safe Z own_EL T88.vm T109.heap da6 := by
    rcases hd5 with q | q
    · rw [q]; exact Safe.keep K109 (sfS (Safe.exa hZ.alike f106 (by decide) (by decide)) (sfS sfn4 sf0)) fC4.1 sfn4
    · exact Safe.keep K109 (sfS (Safe.exa hZ.alike f106 (by decide) (by decide)) (sfS sfn4 sf0)) fC4.1 (Safe.new q)
  have fC5 := fC4.trans (CHr.keep K109 (sfS (Safe.exa hZ.alike f106 (by decide) (by decide)) (sfS sfn4 sf0)) fC4.1)
  have f112 := f100.trans K109 (allS (Or.inr sz_sb) (allS (Or.inr sz_da5) all0))
  have f113 := Nat.le_trans f101 K109.1
  have f114 := own_stakeep f102 K109 (allS (own_plainE f106) (allS (own_plainE Bd5.2.2.2.2.1) all0))
  have f115 := f103.keep K109 (ninS ne_a1_sb (ninS (Nat.ne_of_lt (Nat.lt_of_lt_of_le F1.lt sz_da5)) nin0))
  have f116 := f104.keep K109 (ninS ne_a1_sb (ninS (Nat.ne_of_lt (Nat.lt_of_lt_of_le F1.lt sz_da5)) nin0))
  have f117 := f105.keep K109 (ninS ne_a1_sb (ninS (Nat.ne_of_lt (Nat.lt_of_lt_of_le F1.lt sz_da5)) nin0))
  have f118 := f106.keep K109
  have f119 := Nat.le_trans f107 K109.1
  rw [own_byA] at Bd6
  refine own_of (T' := T109) (f' := (mkF m 43 #[.val (.ref a1)] [(.ref sb)])) (fun t_ k_ => (st109.trans k_)) ?_
  obtain ⟨s4, T120, h120, k120, y4, kb120, X120, e120, E120, hS, Y120, hZ, hown, Es120, Fc120, Fv120, Vb120, -, -, C120, Li120, nl120, st120⟩ := ldcCH X109 hx hZ hown (hw _ (List.mem_of_getElem? (i := 152) rfl)) hwS rfl hS f119 hEL (by decide) fC5.1 (vs := [.int 93]) (z := (1 : Int32)) ⟨by first | decide | simp, by first | rfl | simp⟩ (by decide) (by decide) (g := (mkF m 43 #[.val (.ref a1)] [(.ref sb)])) rfl (Jvm.hb hby own_d_prog_13_method_2_code_43) (n := 4) (by decide) (by decide) (by decide) (by decide)
  have f121 := f112.ext E120
  have f122 := Nat.le_trans f113 E120.1
  have f123 := f114.ext E120
  have f124 := f115.ext E120
  have f125 := f116.ext E120
  have f126 := f117.ext E120
  have f127 := f118.ext E120
  have f128 := fC5.trans C120
  refine own_of (T' := T120) (f' := (mkF m 45 #[.val (.ref a1)] [(.ref s4), (.ref sb)])) (fun t_ k_ => (st120 _ k_)) ?_
  have sfl4 := CHr.safe C120 (Arv.lt Bd6.2.2.2.2.2.1) sfn5
  have Bl4 := own_B_ext Bd6 E120
  have hlb6 : (own_by (((((own_l1 ++ c1) ++ own_l2) ++ c2) ++ own_l3) ++ c3)).length = (((((own_l1 ++ c1) ++ own_l2) ++ c2) ++ own_l3) ++ c3).length := own_byl _
  have hcl6 : (((((own_l1 ++ c1) ++ own_l2) ++ c2) ++ own_l3) ++ c3).length = 23 + c1.length + 11 + c2.length + 14 + c3.length := by
    simp only [List.length_append, L1, L2, L3, L4]
  have hgr6 : own_grow 70 ((own_by (((((own_l1 ++ c1) ++ own_l2) ++ c2) ++ own_l3) ++ c3)).length + own_l4.length) = 70 := by
    rw [hlb6, hcl6]
    unfold own_grow
    rw [if_pos (by omega)]
  obtain ⟨cq130, kq130, q130a, q130b, q130c⟩ := isOf hZ e120 f127
  obtain ⟨_, _, ⟨T129, L129, k129, n129⟩, -, X129, ⟨Lc129, hQ129, l129, y129, z129⟩, st129⟩ := X120.virtualBack hx (y := (⟨"java/lang/StringBuilder", "append", "(Ljava/lang/String;)Ljava/lang/StringBuilder;"⟩ : MethodName)) (z := (⟨"java/lang/StringBuilder", "append", "(Ljava/lang/String;)Ljava/lang/StringBuilder;"⟩ : MethodName)) hown (mvT hZ (hw _ (List.mem_of_getElem? (i := 80) rfl))) (mvT hZ (hw _ (List.mem_of_getElem? (i := 81) rfl))) (notFace_of_selects (args := #[]) (mvT hZ (hw _ (List.mem_of_getElem? (i := 83) rfl)))) (mvT hZ (hw _ (List.mem_of_getElem? (i := 83) rfl))) (mvT hZ (hw _ (List.mem_of_getElem? (i := 82) rfl))) (by decide) (backOf (W := 0) (own_rm_sba l Z a0 hw [] sb (.ref s4) own_l4 G1 da6 kd6 70 (own_by (((((own_l1 ++ c1) ++ own_l2) ++ c2) ++ own_l3) ++ c3)) h120 n0 f122 f123 P5 Bl4 g_sb g_da6 (by rw [hlb6, hcl6]; omega) (by decide) (by rw [hgr6]; decide) (Or.inr ⟨s4, y4, _, rfl, Es120, Fv120, Fc120, Vb120⟩)) hZ (hw _ (List.mem_of_getElem? (i := 84) rfl)) (hw _ (List.mem_of_getElem? (i := 61) rfl)) (by decide) (by decide)) q130a q130c (g := (mkF m 45 #[.val (.ref a1)] [(.ref s4), (.ref sb)])) rfl (by rw [hml]; rfl) (Steps.refl _) (argsL := [(.ref s4)]) (rest := []) (lenOf own_pd_19 rfl) rfl (by show 2 * 0 + _ ≤ _; exact Nat.le_of_eq rfl) (Jvm.hb hby own_d_prog_13_method_2_code_45) (fun _ _ => ⟨rfl, e120, Nat.le_of_ble_eq_true rfl, Nat.le_of_ble_eq_true rfl⟩)
  dsimp only [Pt.U, Pt.locs, Pt.cells, Pt.slots] at X129 l129 y129 z129 st129 hQ129
  subst y129 z129
  obtain ⟨rfl, N129, K129, da7, kd7, hd6, Bd7⟩ := hQ129
  rw [hgr6] at Bd7
  have N131 : Fr n0 L129 := by rw [l129]; exact Fr.app N111 N129
  have g_da7 : n0 ≤ da7 := hd6.elim (fun q => q ▸ g_da6) (fun q => Nat.le_trans f122 q)
  have sz_da7 : h0.size ≤ da7 := hd6.elim (fun q => q ▸ sz_da6) (fun q => Nat.le_trans f121.1 q)
  have sfn6 : Safe Z own_EL T120.vm T129.heap da7 := by
    rcases hd6 with q | q
    · rw [q]; exact Safe.keep K129 (sfS (Safe.exa hZ.alike f127 (by decide) (by decide)) (sfS sfl4 sf0)) f128.1 sfl4
    · exact Safe.keep K129 (sfS (Safe.exa hZ.alike f127 (by decide) (by decide)) (sfS sfl4 sf0)) f128.1 (Safe.new q)
  have fC6 := f128.trans (CHr.keep K129 (sfS (Safe.exa hZ.alike f127 (by decide) (by decide)) (sfS sfl4 sf0)) f128.1)
  have f132 := f121.trans K129 (allS (Or.inr sz_sb) (allS (Or.inr sz_da6) all0))
  have f133 := Nat.le_trans f122 K129.1
  have f134 := own_stakeep f123 K129 (allS (own_plainE f127) (allS (own_plainE Bl4.2.2.2.2.1) all0))
  have f135 := f124.keep K129 (ninS ne_a1_sb (ninS (Nat.ne_of_lt (Nat.lt_of_lt_of_le F1.lt sz_da6)) nin0))
  have f136 := f125.keep K129 (ninS ne_a1_sb (ninS (Nat.ne_of_lt (Nat.lt_of_lt_of_le F1.lt sz_da6)) nin0))
  have f137 := f126.keep K129 (ninS ne_a1_sb (ninS (Nat.ne_of_lt (Nat.lt_of_lt_of_le F1.lt sz_da6)) nin0))
  have f138 := f127.keep K129
  have f139 := Nat.le_trans Y120 K129.1
  rw [own_byA] at Bd7
  refine own_of (T' := T129) (f' := (mkF m 48 #[.val (.ref a1)] [(.ref sb)])) (fun t_ k_ => (st129.trans k_)) ?_
  have ecs : ((((((own_l1 ++ c1) ++ own_l2) ++ c2) ++ own_l3) ++ c3) ++ own_l4) = (own_txt c1 c2 c3) := rfl
  have hTl : (own_txt c1 c2 c3).length = 23 + c1.length + 11 + c2.length + 14 + c3.length + 1 := by simp only [own_txt, List.length_append, L1, L2, L3, L4]
  rw [ecs] at Bd7
  obtain ⟨cq141, kq141, q141a, q141b, q141c⟩ := isOf hZ rfl f138
  obtain ⟨_, _, ⟨T140, L140, k140, n140⟩, -, X140, ⟨Lc140, hQ140, l140, y140, z140⟩, st140⟩ := X129.virtualBack hx (y := (⟨"java/lang/StringBuilder", "toString", "()Ljava/lang/String;"⟩ : MethodName)) (z := (⟨"java/lang/StringBuilder", "toString", "()Ljava/lang/String;"⟩ : MethodName)) hown (mvT hZ (hw _ (List.mem_of_getElem? (i := 153) rfl))) (mvT hZ (hw _ (List.mem_of_getElem? (i := 154) rfl))) (notFace_of_selects (args := #[]) (mvT hZ (hw _ (List.mem_of_getElem? (i := 156) rfl)))) (mvT hZ (hw _ (List.mem_of_getElem? (i := 156) rfl))) (mvT hZ (hw _ (List.mem_of_getElem? (i := 155) rfl))) (by decide) (backOf (W := 0) (own_rm_sts l Z a0 hw [] sb G1 da7 kd7 70 (own_by (own_txt c1 c2 c3)) T129.heap n0 f133 f134 P5 Bd7 (by rw [own_byl, hTl]; omega) (by decide) (by rw [own_byl, hTl]; omega)) hZ (hw _ (List.mem_of_getElem? (i := 157) rfl)) (hw _ (List.mem_of_getElem? (i := 61) rfl)) (by decide) (by decide)) q141a q141c (g := (mkF m 48 #[.val (.ref a1)] [(.ref sb)])) rfl (by rw [hml]; rfl) (Steps.refl _) (argsL := []) (rest := []) (lenOf own_pd_20 rfl) rfl (by show 2 * 0 + _ ≤ _; exact Nat.le_of_eq rfl) (Jvm.hb hby own_d_prog_13_method_2_code_48) (fun _ _ => ⟨rfl, rfl, Nat.le_of_ble_eq_true rfl, Nat.le_of_ble_eq_true rfl⟩)
  dsimp only [Pt.U, Pt.locs, Pt.cells, Pt.slots] at X140 l140 y140 z140 st140 hQ140
  subst y140 z140
  obtain ⟨xa, xt, xk, rfl, N140, K140, -, -, q1, q2, q3, q4⟩ := hQ140
  have N142 : Fr n0 L140 := by rw [l140]; exact Fr.app N131 N140
  have f143 := f132.trans K140 all0
  have f144 := Nat.le_trans f133 K140.1
  have f145 := own_stakeep f134 K140 all0
  have f146 := f135.keep K140 nin0
  have f147 := f136.keep K140 nin0
  have f148 := f137.keep K140 nin0
  have f149 := f138.keep K140
  have f150 := Nat.le_trans f139 K140.1
  have f151 := fC6.trans (CHr.keep K140 sf0 fC6.1)
  refine own_of (T' := T140) (f' := (mkF m 51 #[.val (.ref a1)] [(.ref xa)])) (fun t_ k_ => (st140.trans k_)) ?_
  rw [own_byl] at q4
  obtain ⟨fs, hr, hrun, hended, hEnd⟩ := X140.leaveW hS f150 (v := some (.ref xa)) (fun h => by rw [Bd.returns] at h; cases h)
  exact ⟨_, _, own_retA X140 hx Bd.returns rfl rfl rfl (Jvm.hb hby own_d_prog_13_method_2_code_51) hr, hrun, hended, _, _, rfl, (by show own_Q_tts Z a1 G1 u1 u2 u3 c1 c2 c3 h0 n0 _ T140.heap _; exact ⟨xa, xt, xk, rfl, N142, f143, q1, q3, q2, q4⟩), (by show CHr Z own_EL s.vm s.heap T140.vm T140.heap; rw [hh]; exact f151.trans (CHv.at X140 hZ hEL f151.1)), hEnd.1, hEnd.2.1, hEnd.2.2.1, hEnd.2.2.2.mono (by decide) (by decide)⟩
theorem own_pn_7 : plainName "java/lang/StringLatin1" = true := by first | (simp [plainName, overriddenIn]; done) | decide +kernel
theorem own_ef_can (m : MethodId) (p1 : Int32) : entryFrame m #[(.int p1)] 1 = mkF m 0 #[.val (.int p1)] [] := by first | (simp [entryFrame, mkF, argsToLocals, Value.category]; done) | rfl
def own_Q_can (Z : State) (p1 : Int32)  (h0 : Heap) (n0 : Nat) (v : Option Value) (h : Heap) (L : List Loc) : Prop := v = some (.int 1) ∧ Fr n0 L ∧ h = h0
theorem own_d_jdk_43_method_3_code_0 : decode jdk_43_method_3_code 0 = .ok (.iload_n 0, 1) := by decide +kernel
theorem own_d_jdk_43_method_3_code_1 : decode jdk_43_method_3_code 1 = .ok (.sipush 255, 3) := by decide +kernel
theorem own_d_jdk_43_method_3_code_4 : decode jdk_43_method_3_code 4 = .ok (.if_icmp .gt 7, 3) := by decide +kernel
theorem own_d_jdk_43_method_3_code_7 : decode jdk_43_method_3_code 7 = .ok (.iconst 1, 1) := by decide +kernel
theorem own_d_jdk_43_method_3_code_8 : decode jdk_43_method_3_code 8 = .ok (.goto 4, 3) := by decide +kernel
theorem own_d_jdk_43_method_3_code_12 : decode jdk_43_method_3_code 12 = .ok (.ireturn, 1) := by decide +kernel
set_option maxRecDepth 65536 in
set_option maxHeartbeats 40000000 in
theorem own_rm_can (l : Launch) (Z : State) (a0 : Array Value) (hw : ∀ d ∈ tables_1, d.before a0 Z = true) (ws : List Jvm.Cond) (p1 : Int32)  (h0 : Heap) (n0 : Nat) (Z0 : n0 ≤ h0.size) (h1 : ¬ (255 : Int32) < p1) :
    MetFree l (⟨"java/lang/StringLatin1", "canEncode", "(C)Z"⟩ : MethodName) (head1 (Jvm.Cond.code (⟨"java/lang/StringLatin1", "canEncode", "(C)Z"⟩ : MethodName) jdk_43_method_3_code 1 (some .boolean) :: ws) ({ frames := 0, cells := 0, slots := 0, locals := 0 } : Room)) (fun a U => a = #[(.int p1)] ∧ Z.Warmed39 U.vm ∧ U.heap = h0) (fun _ _ _ _ _ => True) (fun _ U o U' => ∃ v L, o = .returned v ∧ own_Q_can Z p1  h0 n0 v U'.heap L ∧ FrameEnd U o U' L ({ frames := 0, cells := 0, slots := 0, locals := 0 } : Room).cells ({ frames := 0, cells := 0, slots := 0, locals := 0 } : Room).slots) := by
  refine MetFree.of_bodySF (plainFor_of_name own_pn_7) hisR ?_
  intro p e s m args below meth c s₁ Bd hml0 hP hK
  obtain ⟨rfl, hZ, hh⟩ := hP
  have hx := Bd.exec
  have hby := Bd.bytes
  have hml : c.maxLocals = 1 := hml0
  have hown : s.vm.findClass "java/lang/StringLatin1" = some m.cls := findClass_of_methodNamed Bd.named
  have hnm := (name_of_methodNamed Bd.named Bd.method).1
  have X0 : Stand p l e ({ frames := 0, cells := 0, slots := 0, locals := 0 } : Room) s m #[(.int p1)] below meth c s₁ [] 0 0 := Stand.of_body Bd
  have e0 : s₁.heap = h0 := by rw [← hh, Bd.state]; rfl
  have N0 := Fr.nil n0
  refine own_start (own_ef_can m p1 ) ?_
  refine own_of (T' := s₁) (f' := (mkF m 12 #[.val (.int p1)] [(.int (1 : Int32))])) (fun t_ k_ => (XS.iloadN X0.here hx rfl (Jvm.hb hby own_d_jdk_43_method_3_code_0) rfl (XS.sipush X0.here hx rfl (Jvm.hb hby own_d_jdk_43_method_3_code_1) (XS.icmpNo X0.here hx rfl (Jvm.hb hby own_d_jdk_43_method_3_code_4) rfl (flt h1).2.2.1 (XS.iconst X0.here hx rfl (Jvm.hb hby own_d_jdk_43_method_3_code_7) (XS.goto X0.here hx rfl (pc0 := 8) (pc' := 12) rfl (Jvm.hb hby own_d_jdk_43_method_3_code_8) (by decide) (by decide) k_)))))) ?_
  obtain ⟨fs, hr, hrun, hended, hW, hsame⟩ := X0.leave (v := some (.int (1 : Int32))) (fun h => by rw [Bd.returns] at h; cases h)
  exact ⟨_, _, retN X0 hx (t := .boolean) Bd.returns (by simp) (Jvm.hb hby own_d_jdk_43_method_3_code_12) hr, hrun, hended, _, _, rfl, (by show own_Q_can Z p1  h0 n0 _ s₁.heap _; rw [e0]; exact ⟨rfl, N0, rfl⟩), ⟨_, rfl⟩, hW, hsame.mono (by decide) (by decide)⟩
theorem own_ef_tby (m : MethodId) (p1 : Int32) : entryFrame m #[(.int p1)] 1 = mkF m 0 #[.val (.int p1)] [] := by first | (simp [entryFrame, mkF, argsToLocals, Value.category]; done) | rfl
def own_Q_tby (Z : State) (p1 : Int32)  (h0 : Heap) (n0 : Nat) (v : Option Value) (h : Heap) (L : List Loc) : Prop := ∃ b kb, v = some (.ref b) ∧ Fr n0 L ∧ Keep h0 h [] ∧ h0.size ≤ b ∧ Exa Z h b "[B" ∧ Arv Z h b kb .byte (1 : Int32) [(.int (own_lo8 p1))] (.int 0)
theorem own_d_jdk_43_method_46_code_0 : decode jdk_43_method_46_code 0 = .ok (.iconst 1, 1) := by decide +kernel
theorem own_d_jdk_43_method_46_code_1 : decode jdk_43_method_46_code 1 = .ok (.newarray .byte, 2) := by decide +kernel
theorem own_d_jdk_43_method_46_code_3 : decode jdk_43_method_46_code 3 = .ok (.dup, 1) := by decide +kernel
theorem own_d_jdk_43_method_46_code_4 : decode jdk_43_method_46_code 4 = .ok (.iconst 0, 1) := by decide +kernel
theorem own_d_jdk_43_method_46_code_5 : decode jdk_43_method_46_code 5 = .ok (.iload_n 0, 1) := by decide +kernel
theorem own_d_jdk_43_method_46_code_6 : decode jdk_43_method_46_code 6 = .ok (.i2b, 1) := by decide +kernel
theorem own_d_jdk_43_method_46_code_7 : decode jdk_43_method_46_code 7 = .ok (.bastore, 1) := by decide +kernel
theorem own_d_jdk_43_method_46_code_8 : decode jdk_43_method_46_code 8 = .ok (.areturn, 1) := by decide +kernel
set_option maxRecDepth 65536 in
set_option maxHeartbeats 40000000 in
theorem own_rm_tby (l : Launch) (Z : State) (a0 : Array Value) (hw : ∀ d ∈ tables_1, d.before a0 Z = true) (ws : List Jvm.Cond) (p1 : Int32)  (h0 : Heap) (n0 : Nat) (Z0 : n0 ≤ h0.size)  :
    MetFree l (⟨"java/lang/StringLatin1", "toBytes", "(C)[B"⟩ : MethodName) (head1 (Jvm.Cond.code (⟨"java/lang/StringLatin1", "toBytes", "(C)[B"⟩ : MethodName) jdk_43_method_46_code 1 (some (.array .byte)) :: ws) ({ frames := 0, cells := 1, slots := 1, locals := 0 } : Room)) (fun a U => a = #[(.int p1)] ∧ Z.Warmed39 U.vm ∧ U.heap = h0) (fun _ _ _ _ _ => True) (fun _ U o U' => ∃ v L, o = .returned v ∧ own_Q_tby Z p1  h0 n0 v U'.heap L ∧ FrameEnd U o U' L ({ frames := 0, cells := 1, slots := 1, locals := 0 } : Room).cells ({ frames := 0, cells := 1, slots := 1, locals := 0 } : Room).slots) := by
  refine MetFree.of_bodySF (plainFor_of_name own_pn_7) hisR ?_
  intro p e s m args below meth c s₁ Bd hml0 hP hK
  obtain ⟨rfl, hZ, hh⟩ := hP
  have hx := Bd.exec
  have hby := Bd.bytes
  have hml : c.maxLocals = 1 := hml0
  have hown : s.vm.findClass "java/lang/StringLatin1" = some m.cls := findClass_of_methodNamed Bd.named
  have hnm := (name_of_methodNamed Bd.named Bd.method).1
  have X0 : Stand p l e ({ frames := 0, cells := 1, slots := 1, locals := 0 } : Room) s m #[(.int p1)] below meth c s₁ [] 0 0 := Stand.of_body Bd
  have e0 : s₁.heap = h0 := by rw [← hh, Bd.state]; rfl
  have N0 := Fr.nil n0
  refine own_start (own_ef_tby m p1 ) ?_
  have K0 : Keep h0 h0 [] := Keep.refl _ _
  refine own_of (T' := s₁) (f' := (mkF m 1 #[.val (.int p1)] [(.int (1 : Int32))])) (fun t_ k_ => (XS.iconst X0.here hx rfl (Jvm.hb hby own_d_jdk_43_method_46_code_0) k_)) ?_
  obtain ⟨T1, h1, k1, X1, e1, E1, A1, Ex1, st1⟩ := newPE X0 hx hZ (hw _ (List.mem_of_getElem? (i := 18) rfl)) e0 (g := (mkF m 1 #[.val (.int p1)] [(.int (1 : Int32))])) rfl (Jvm.hb hby own_d_jdk_43_method_46_code_1) rfl (by decide) (cap := 1) (by decide) (by decide) (by decide) (by decide) (ad := "[B") (by decide)
  obtain ⟨b, g1⟩ : ∃ z, z = h0.size := ⟨_, rfl⟩
  rw [← g1] at A1 Ex1 st1
  have g_b : n0 ≤ b := Nat.le_trans Z0 (Nat.le_of_eq g1.symm)
  have sz_b : h0.size ≤ b := Nat.le_trans K0.1 (Nat.le_of_eq g1.symm)
  have f2 := K0.ext E1
  have f3 := Nat.le_trans Z0 E1.1
  have f4 : Arv Z h1 b k1 .byte (1 : Int32) [(.int (0 : Int32))] (.int (0 : Int32)) := (Arv.new A1 (by decide)).pad (pad_rep [] (.int (0 : Int32)) 1)
  refine own_of (T' := T1) (f' := (mkF m 7 #[.val (.int p1)] [(.int (p1.toInt8.toInt32)), (.int (0 : Int32)), (.ref b), (.ref b)])) (fun t_ k_ => (st1 _ (XS.dup X1.here hx rfl (Jvm.hb hby own_d_jdk_43_method_46_code_3) rfl rfl (XS.iconst X1.here hx rfl (Jvm.hb hby own_d_jdk_43_method_46_code_4) (XS.iloadN X1.here hx rfl (Jvm.hb hby own_d_jdk_43_method_46_code_5) rfl (XS.i2b X1.here hx rfl (Jvm.hb hby own_d_jdk_43_method_46_code_6) rfl k_)))))) ?_
  obtain ⟨cl5, Ar5, qq5, Sz5, Nn5, Hh5, Gg5⟩ := id f4
  have hin5 : ¬ ((0 : Int32) < 0 ∨ cl5.slots.size ≤ ((0 : Int32)).toNatClampNeg) := inb_of Sz5 ⟨by decide, by decide⟩
  obtain ⟨T6, h6, X6, e6, W6, st6⟩ := stB X1 hx hZ e1 Ar5 (j := (0 : Int32)) hin5 (g := (mkF m 7 #[.val (.int p1)] [(.int (p1.toInt8.toInt32)), (.int (0 : Int32)), (.ref b), (.ref b)])) rfl rfl (Jvm.hb hby own_d_jdk_43_method_46_code_7)
  refine own_of (T' := T6) (f' := (mkF m 8 #[.val (.int p1)] [(.ref b)])) (fun t_ k_ => (st6 _ k_)) ?_
  have f7 := Arv.set Ar5 qq5 Sz5 Nn5 Hh5 Gg5 (fits_nar_byte _) W6 0 rfl (Nat.le_of_ble_eq_true rfl)
  have N6 := Fr.snoc X6 N0 g_b
  have f8 := f2.wr W6 (Or.inr sz_b)
  have f9 := Nat.le_trans f3 (Keep.of_wr W6).1
  have f10 := Ex1.wr W6
  have Vb : Arv Z h6 b k1 .byte (1 : Int32) [(.int (own_lo8 p1))] (.int 0) := by
    have q_ : Arv Z h6 b k1 .byte (1 : Int32) [(.int (nar .byte (p1.toInt8.toInt32)))] (.int 0) := f7
    rw [own_nb] at q_
    exact q_
  obtain ⟨fs, hr, hrun, hended, hW, hsame⟩ := X6.leave (v := some (.ref b)) (fun h => by rw [Bd.returns] at h; cases h)
  exact ⟨_, _, own_retA X6 hx Bd.returns rfl rfl rfl (Jvm.hb hby own_d_jdk_43_method_46_code_8) hr, hrun, hended, _, _, rfl, (by show own_Q_tby Z p1  h0 n0 _ T6.heap _; rw [e6]; exact ⟨b, _, rfl, N6, f8, sz_b, f10, Vb⟩), ⟨_, rfl⟩, hW, hsame.mono (by decide) (by decide)⟩
theorem own_ef_sbb (m : MethodId) (a1 : Addr) (a2 : Addr) (p3 : Int32) : entryFrame m #[(.ref a1), (.ref a2), (.int p3)] 3 = mkF m 0 #[.val (.ref a1), .val (.ref a2), .val (.int p3)] [] := by first | (simp [entryFrame, mkF, argsToLocals, Value.category]; done) | rfl
def own_Q_sbb (Z : State) (a1 : Addr) (a2 : Addr) (p3 : Int32)  (h0 : Heap) (n0 : Nat) (v : Option Value) (h : Heap) (L : List Loc) : Prop := v = none ∧ Fr n0 L ∧ Keep h0 h [a1] ∧ Exa Z h a1 "java/lang/String" ∧ Fld Z h a1 "java/lang/String" "value" "[B" (.ref a2) ∧ Fld Z h a1 "java/lang/String" "coder" "B" (.int 0)
theorem own_d_jdk_42_method_151_code_0 : decode jdk_42_method_151_code 0 = .ok (.aload_n 0, 1) := by decide +kernel
theorem own_d_jdk_42_method_151_code_1 : decode jdk_42_method_151_code 1 = .ok (.invokespecial 1, 3) := by decide +kernel
theorem own_d_jdk_42_method_151_code_4 : decode jdk_42_method_151_code 4 = .ok (.aload_n 0, 1) := by decide +kernel
theorem own_d_jdk_42_method_151_code_5 : decode jdk_42_method_151_code 5 = .ok (.aload_n 1, 1) := by decide +kernel
theorem own_d_jdk_42_method_151_code_6 : decode jdk_42_method_151_code 6 = .ok (.putfield 9, 3) := by decide +kernel
theorem own_d_jdk_42_method_151_code_9 : decode jdk_42_method_151_code 9 = .ok (.aload_n 0, 1) := by decide +kernel
theorem own_d_jdk_42_method_151_code_10 : decode jdk_42_method_151_code 10 = .ok (.iload_n 2, 1) := by decide +kernel
theorem own_d_jdk_42_method_151_code_11 : decode jdk_42_method_151_code 11 = .ok (.putfield 15, 3) := by decide +kernel
theorem own_d_jdk_42_method_151_code_14 : decode jdk_42_method_151_code 14 = .ok (.return_, 1) := by decide +kernel
set_option maxRecDepth 65536 in
set_option maxHeartbeats 40000000 in
theorem own_rm_sbb (l : Launch) (Z : State) (a0 : Array Value) (hw : ∀ d ∈ tables_1, d.before a0 Z = true) (ws : List Jvm.Cond) (a1 : Addr) (a2 : Addr) (p3 : Int32)  (h0 : Heap) (n0 : Nat) (Z0 : n0 ≤ h0.size) (E1 : Exa Z h0 a1 "java/lang/String") (F1 : Fld Z h0 a1 "java/lang/String" "value" "[B" .null) (F2 : Fld Z h0 a1 "java/lang/String" "coder" "B" (.int 0)) (g_a1 : n0 ≤ a1) (hp3 : p3 = 0) :
    MetFree l (⟨"java/lang/String", "<init>", "([BB)V"⟩ : MethodName) (head1 (Jvm.Cond.code (⟨"java/lang/String", "<init>", "([BB)V"⟩ : MethodName) jdk_42_method_151_code 3 none :: ws) ({ frames := 1, cells := 0, slots := 0, locals := 12 } : Room)) (fun a U => a = #[(.ref a1), (.ref a2), (.int p3)] ∧ Z.Warmed39 U.vm ∧ U.heap = h0) (fun _ _ _ _ _ => True) (fun _ U o U' => ∃ v L, o = .returned v ∧ own_Q_sbb Z a1 a2 p3  h0 n0 v U'.heap L ∧ FrameEnd U o U' L ({ frames := 1, cells := 0, slots := 0, locals := 12 } : Room).cells ({ frames := 1, cells := 0, slots := 0, locals := 12 } : Room).slots) := by
  refine MetFree.of_bodySF (plainFor_of_name own_pn_0) hisR ?_
  intro p e s m args below meth c s₁ Bd hml0 hP hK
  obtain ⟨rfl, hZ, hh⟩ := hP
  have hx := Bd.exec
  have hby := Bd.bytes
  have hml : c.maxLocals = 3 := hml0
  have hown : s.vm.findClass "java/lang/String" = some m.cls := findClass_of_methodNamed Bd.named
  have hnm := (name_of_methodNamed Bd.named Bd.method).1
  have X0 : Stand p l e ({ frames := 1, cells := 0, slots := 0, locals := 12 } : Room) s m #[(.ref a1), (.ref a2), (.int p3)] below meth c s₁ [] 0 0 := Stand.of_body Bd
  have e0 : s₁.heap = h0 := by rw [← hh, Bd.state]; rfl
  have N0 := Fr.nil n0
  refine own_start (own_ef_sbb m a1 a2 p3 ) ?_
  subst hp3
  have K0 : Keep h0 h0 [a1] := Keep.refl _ _
  obtain ⟨T1, X1, e1, st1⟩ := initO X0 hx hZ hown (hw _ (List.mem_of_getElem? (i := 23) rfl)) (hw _ (List.mem_of_getElem? (i := 24) rfl)) (hw _ (List.mem_of_getElem? (i := 25) rfl)) e0 (g := (mkF m 1 #[.val (.ref a1), .val (.ref a2), .val (.int (0 : Int32))] [(.ref a1)])) rfl (by rw [hml]; rfl) rfl (Jvm.hb hby own_d_jdk_42_method_151_code_1) (by decide) (W := 0) (by show 2 * 0 + _ ≤ _; exact Nat.le_of_eq rfl) (by decide)
  obtain ⟨T2, h2, X2, e2, W2, st2⟩ := putF X1 hx hZ hown (host := "") (Or.inl (hw _ (List.mem_of_getElem? (i := 26) rfl))) Via.refl e1 F1 E1 (Or.inr ⟨(hw _ (List.mem_of_getElem? (i := 27) rfl)), rfl, hnm⟩) (hw _ (List.mem_of_getElem? (i := 14) rfl)) (ty := (.array .byte)) (by decide) rfl rfl (g := (mkF m 6 #[.val (.ref a1), .val (.ref a2), .val (.int (0 : Int32))] [(.ref a2), (.ref a1)])) rfl rfl (Jvm.hb hby own_d_jdk_42_method_151_code_6)
  refine own_of (T' := T2) (f' := (mkF m 9 #[.val (.ref a1), .val (.ref a2), .val (.int (0 : Int32))] [])) (fun t_ k_ => (XS.aloadN X0.here hx rfl (Jvm.hb hby own_d_jdk_42_method_151_code_0) rfl rfl (st1 _ (XS.aloadN X1.here hx rfl (Jvm.hb hby own_d_jdk_42_method_151_code_4) rfl rfl (XS.aloadN X1.here hx rfl (Jvm.hb hby own_d_jdk_42_method_151_code_5) rfl rfl (st2 _ k_)))))) ?_
  have N2 := Fr.snoc X2 N0 g_a1
  have f3 := K0.wr W2 (Or.inl (List.mem_of_getElem? (i := 0) rfl))
  have f4 := Nat.le_trans Z0 (Keep.of_wr W2).1
  have f5 := E1.wr W2
  have f6 := F1.same W2
  have f7 := F2.other W2 (Or.inr (slot_ne (Or.inr (hw _ (List.mem_of_getElem? (i := 29) rfl))) (Or.inr (hw _ (List.mem_of_getElem? (i := 27) rfl))) (by decide) (t := .byte) (t' := (.array .byte)) (by decide) (by decide)))
  obtain ⟨T8, h8, X8, e8, W8, st8⟩ := putF X2 hx hZ hown (host := "") (Or.inl (hw _ (List.mem_of_getElem? (i := 28) rfl))) Via.refl e2 f7 f5 (Or.inr ⟨(hw _ (List.mem_of_getElem? (i := 29) rfl)), rfl, hnm⟩) (hw _ (List.mem_of_getElem? (i := 14) rfl)) (ty := .byte) (by decide) rfl rfl (g := (mkF m 11 #[.val (.ref a1), .val (.ref a2), .val (.int (0 : Int32))] [(.int (0 : Int32)), (.ref a1)])) rfl rfl (Jvm.hb hby own_d_jdk_42_method_151_code_11)
  refine own_of (T' := T8) (f' := (mkF m 14 #[.val (.ref a1), .val (.ref a2), .val (.int (0 : Int32))] [])) (fun t_ k_ => (XS.aloadN X2.here hx rfl (Jvm.hb hby own_d_jdk_42_method_151_code_9) rfl rfl (XS.iloadN X2.here hx rfl (Jvm.hb hby own_d_jdk_42_method_151_code_10) rfl (st8 _ k_)))) ?_
  have N8 := Fr.snoc X8 N2 g_a1
  have f9 := f3.wr W8 (Or.inl (List.mem_of_getElem? (i := 0) rfl))
  have f10 := Nat.le_trans f4 (Keep.of_wr W8).1
  have f11 := f5.wr W8
  have f12 := f6.other W8 (Or.inr (slot_ne (Or.inr (hw _ (List.mem_of_getElem? (i := 27) rfl))) (Or.inr (hw _ (List.mem_of_getElem? (i := 29) rfl))) (by decide) (t := (.array .byte)) (t' := .byte) (by decide) (by decide)))
  have f13 := f7.same W8
  obtain ⟨fs, hr, hrun, hended, hW, hsame⟩ := X8.leave (v := none) (fun _ => rfl)
  exact ⟨_, _, X8.returnOut hx Bd.returns (Jvm.hb hby own_d_jdk_42_method_151_code_14) hr, hrun, hended, _, _, rfl, (by show own_Q_sbb Z a1 a2 0  h0 n0 _ T8.heap _; rw [e8]; exact ⟨rfl, N8, f9, f11, f12, f13⟩), ⟨_, rfl⟩, hW, hsame.mono (by decide) (by decide)⟩
theorem own_ef_vof (m : MethodId) (p1 : Int32) : entryFrame m #[(.int p1)] 1 = mkF m 0 #[.val (.int p1)] [] := by first | (simp [entryFrame, mkF, argsToLocals, Value.category]; done) | rfl
def own_Q_vof (Z : State) (p1 : Int32) (G1 : Int32) (h0 : Heap) (n0 : Nat) (v : Option Value) (h : Heap) (L : List Loc) : Prop := ∃ a t k, v = some (.ref a) ∧ Fr n0 L ∧ Keep h0 h [] ∧ own_S Z h a t k [p1]
theorem own_d_jdk_42_method_139_code_0 : decode jdk_42_method_139_code 0 = .ok (.getstatic 38, 3) := by decide +kernel
theorem own_d_jdk_42_method_139_code_3 : decode jdk_42_method_139_code 3 = .ok (.ifCond .eq 23, 3) := by decide +kernel
theorem own_d_jdk_42_method_139_code_6 : decode jdk_42_method_139_code 6 = .ok (.iload_n 0, 1) := by decide +kernel
theorem own_d_jdk_42_method_139_code_7 : decode jdk_42_method_139_code 7 = .ok (.invokestatic 1015, 3) := by decide +kernel
theorem own_pd_21 : parseMethodDescriptor "(C)Z" = some ⟨[.char], some .boolean⟩ := by decide +kernel
theorem own_d_jdk_42_method_139_code_10 : decode jdk_42_method_139_code 10 = .ok (.ifCond .eq 16, 3) := by decide +kernel
theorem own_d_jdk_42_method_139_code_13 : decode jdk_42_method_139_code 13 = .ok (.new 10, 3) := by decide +kernel
theorem own_d_jdk_42_method_139_code_16 : decode jdk_42_method_139_code 16 = .ok (.dup, 1) := by decide +kernel
theorem own_d_jdk_42_method_139_code_17 : decode jdk_42_method_139_code 17 = .ok (.iload_n 0, 1) := by decide +kernel
theorem own_d_jdk_42_method_139_code_18 : decode jdk_42_method_139_code 18 = .ok (.invokestatic 1018, 3) := by decide +kernel
theorem own_pd_22 : parseMethodDescriptor "(C)[B" = some ⟨[.char], some (.array .byte)⟩ := by decide +kernel
theorem own_d_jdk_42_method_139_code_21 : decode jdk_42_method_139_code 21 = .ok (.iconst 0, 1) := by decide +kernel
theorem own_d_jdk_42_method_139_code_22 : decode jdk_42_method_139_code 22 = .ok (.invokespecial 209, 3) := by decide +kernel
theorem own_pd_23 : parseMethodDescriptor "([BB)V" = some ⟨[(.array .byte), .byte], none⟩ := by decide +kernel
theorem own_d_jdk_42_method_139_code_25 : decode jdk_42_method_139_code 25 = .ok (.areturn, 1) := by decide +kernel
set_option maxRecDepth 65536 in
set_option maxHeartbeats 40000000 in
theorem own_rm_vof (l : Launch) (Z : State) (a0 : Array Value) (hw : ∀ d ∈ tables_1, d.before a0 Z = true) (ws : List Jvm.Cond) (p1 : Int32) (G1 : Int32) (h0 : Heap) (n0 : Nat) (Z0 : n0 ≤ h0.size) (SC : Sta Z h0 "java/lang/String" "COMPACT_STRINGS" "Z" (.int G1)) (P5 : ¬ (G1 = (0 : Int32))) (h1 : ¬ (255 : Int32) < p1) :
    MetFree l (⟨"java/lang/String", "valueOf", "(C)Ljava/lang/String;"⟩ : MethodName) (head1 (Jvm.Cond.code (⟨"java/lang/String", "valueOf", "(C)Ljava/lang/String;"⟩ : MethodName) jdk_42_method_139_code 1 (some (.object "java/lang/String")) :: ws) ({ frames := 2, cells := 2, slots := 5, locals := 28 } : Room)) (fun a U => a = #[(.int p1)] ∧ Z.Warmed39 U.vm ∧ U.heap = h0) (fun _ _ _ _ _ => True) (fun _ U o U' => ∃ v L, o = .returned v ∧ own_Q_vof Z p1 G1 h0 n0 v U'.heap L ∧ FrameEnd U o U' L ({ frames := 2, cells := 2, slots := 5, locals := 28 } : Room).cells ({ frames := 2, cells := 2, slots := 5, locals := 28 } : Room).slots) := by
  refine MetFree.of_bodySF (plainFor_of_name own_pn_0) hisR ?_
  intro p e s m args below meth c s₁ Bd hml0 hP hK
  obtain ⟨rfl, hZ, hh⟩ := hP
  have hx := Bd.exec
  have hby := Bd.bytes
  have hml : c.maxLocals = 1 := hml0
  have hown : s.vm.findClass "java/lang/String" = some m.cls := findClass_of_methodNamed Bd.named
  have hnm := (name_of_methodNamed Bd.named Bd.method).1
  have X0 : Stand p l e ({ frames := 2, cells := 2, slots := 5, locals := 28 } : Room) s m #[(.int p1)] below meth c s₁ [] 0 0 := Stand.of_body Bd
  have e0 : s₁.heap = h0 := by rw [← hh, Bd.state]; rfl
  have N0 := Fr.nil n0
  refine own_start (own_ef_vof m p1 ) ?_
  have K0 : Keep h0 h0 [] := Keep.refl _ _
  obtain ⟨T1, X1, e1, st1⟩ := getS2 X0 hx hZ hown (host := "") (Or.inl (hw _ (List.mem_of_getElem? (i := 8) rfl))) Via.refl e0 SC (g := (mkF m 0 #[.val (.int p1)] [])) rfl (Jvm.hb hby own_d_jdk_42_method_139_code_0)
  refine own_of (T' := T1) (f' := (mkF m 7 #[.val (.int p1)] [(.int p1)])) (fun t_ k_ => (st1 _ (XS.ifNo X1.here hx rfl (Jvm.hb hby own_d_jdk_42_method_139_code_3) rfl ((if0 _ _).trans (feq P5).1) (XS.iloadN X1.here hx rfl (Jvm.hb hby own_d_jdk_42_method_139_code_6) rfl k_)))) ?_
  obtain ⟨_, _, ⟨T2, L2, k2, n2⟩, -, X2, ⟨Lc2, hQ2, l2, y2, z2⟩, st2⟩ := Jvm.LawKit.callS X1 hx (y := (⟨"java/lang/StringLatin1", "canEncode", "(C)Z"⟩ : MethodName)) hown (mvT hZ (hw _ (List.mem_of_getElem? (i := 9) rfl))) (mvT hZ (hw _ (List.mem_of_getElem? (i := 10) rfl))) (mvT hZ (hw _ (List.mem_of_getElem? (i := 11) rfl))) (mvT hZ (hw _ (List.mem_of_getElem? (i := 12) rfl))) (by decide) (backOf (W := 0) (own_rm_can l Z a0 hw [] p1 h0 n0 Z0 h1) hZ (hw _ (List.mem_of_getElem? (i := 12) rfl)) (hw _ (List.mem_of_getElem? (i := 11) rfl)) (by decide) (by decide)) (g := (mkF m 7 #[.val (.int p1)] [(.int p1)])) rfl (by rw [hml]; rfl) (argsL := [(.int p1)]) (rest := []) (lenOf own_pd_21 rfl) rfl (by show 2 * 0 + _ ≤ _; exact Nat.le_of_eq rfl) (Jvm.hb hby own_d_jdk_42_method_139_code_7) (fun _ _ => ⟨rfl, e1, Nat.le_of_ble_eq_true rfl, Nat.le_of_ble_eq_true rfl⟩)
  dsimp only [Pt.U, Pt.locs, Pt.cells, Pt.slots] at X2 l2 y2 z2 st2 hQ2
  subst y2 z2
  obtain ⟨rfl, N2, e2⟩ := hQ2
  have N3 : Fr n0 L2 := by rw [l2]; exact Fr.app N0 N2
  refine own_of (T' := T2) (f' := (mkF m 13 #[.val (.int p1)] [])) (fun t_ k_ => (st2 _ (XS.ifNo X2.here hx rfl (Jvm.hb hby own_d_jdk_42_method_139_code_10) rfl ((if0 _ _).trans (feq (by decide)).1) k_))) ?_
  obtain ⟨T4, h4, X4, e4, E4, A4, D4, -, st4⟩ := newO X2 hx hZ hown (hw _ (List.mem_of_getElem? (i := 13) rfl)) (hw _ (List.mem_of_getElem? (i := 14) rfl)) (hw _ (List.mem_of_getElem? (i := 6) rfl)) e2 (g := (mkF m 13 #[.val (.int p1)] [])) rfl (Jvm.hb hby own_d_jdk_42_method_139_code_13) (by decide) (by decide)
  obtain ⟨st, g4⟩ : ∃ z, z = h0.size := ⟨_, rfl⟩
  rw [← g4] at A4 D4 st4
  have g_st : n0 ≤ st := Nat.le_trans Z0 (Nat.le_of_eq g4.symm)
  have sz_st : h0.size ≤ st := Nat.le_trans K0.1 (Nat.le_of_eq g4.symm)
  have f5 := K0.ext E4
  have f6 := Nat.le_trans Z0 E4.1
  have f7 := SC.ext E4
  have f8 : Fld Z h4 st "java/lang/String" "value" "[B" .null := D4 (Or.inr (hw _ (List.mem_of_getElem? (i := 27) rfl))) (ty := (.array .byte)) (by decide)
  have f9 : Fld Z h4 st "java/lang/String" "coder" "B" (.int (0 : Int32)) := D4 (Or.inr (hw _ (List.mem_of_getElem? (i := 29) rfl))) (ty := .byte) (by decide)
  refine own_of (T' := T4) (f' := (mkF m 18 #[.val (.int p1)] [(.int p1), (.ref st), (.ref st)])) (fun t_ k_ => (st4 _ (XS.dup X4.here hx rfl (Jvm.hb hby own_d_jdk_42_method_139_code_16) rfl rfl (XS.iloadN X4.here hx rfl (Jvm.hb hby own_d_jdk_42_method_139_code_17) rfl k_)))) ?_
  obtain ⟨_, _, ⟨T10, L10, k10, n10⟩, -, X10, ⟨Lc10, hQ10, l10, y10, z10⟩, st10⟩ := Jvm.LawKit.callS X4 hx (y := (⟨"java/lang/StringLatin1", "toBytes", "(C)[B"⟩ : MethodName)) hown (mvT hZ (hw _ (List.mem_of_getElem? (i := 15) rfl))) (mvT hZ (hw _ (List.mem_of_getElem? (i := 16) rfl))) (mvT hZ (hw _ (List.mem_of_getElem? (i := 11) rfl))) (mvT hZ (hw _ (List.mem_of_getElem? (i := 17) rfl))) (by decide) (backOf (W := 2) (own_rm_tby l Z a0 hw [] p1 h4 n0 f6) hZ (hw _ (List.mem_of_getElem? (i := 17) rfl)) (hw _ (List.mem_of_getElem? (i := 11) rfl)) (by decide) (by decide)) (g := (mkF m 18 #[.val (.int p1)] [(.int p1), (.ref st), (.ref st)])) rfl (by rw [hml]; rfl) (argsL := [(.int p1)]) (rest := [(.ref st), (.ref st)]) (lenOf own_pd_22 rfl) rfl (by show 2 * 0 + _ ≤ _; exact Nat.le_of_eq rfl) (Jvm.hb hby own_d_jdk_42_method_139_code_18) (fun _ _ => ⟨rfl, e4, Nat.le_of_ble_eq_true rfl, Nat.le_of_ble_eq_true rfl⟩)
  dsimp only [Pt.U, Pt.locs, Pt.cells, Pt.slots] at X10 l10 y10 z10 st10 hQ10
  subst y10 z10
  obtain ⟨b, kb, rfl, N10, K10, szb, Eb, Vb⟩ := hQ10
  have ne_st_b : st ≠ b := Nat.ne_of_lt (Nat.lt_of_lt_of_le A4.lt szb)
  have g_b : n0 ≤ b := Nat.le_trans f6 szb
  have sz_b : h0.size ≤ b := Nat.le_trans f5.1 szb
  have N11 : Fr n0 L10 := by rw [l10]; exact Fr.app N3 N10
  have f12 := f5.trans K10 all0
  have f13 := Nat.le_trans f6 K10.1
  have f14 := own_stakeep f7 K10 all0
  have f15 := A4.keep K10
  have f16 := f8.keep K10 nin0
  have f17 := f9.keep K10 nin0
  refine own_of (T' := T10) (f' := (mkF m 22 #[.val (.int p1)] [(.int (0 : Int32)), (.ref b), (.ref st), (.ref st)])) (fun t_ k_ => (st10 _ (XS.iconst X10.here hx rfl (Jvm.hb hby own_d_jdk_42_method_139_code_21) k_))) ?_
  obtain ⟨_, _, ⟨T18, L18, k18, n18⟩, -, X18, ⟨Lc18, hQ18, l18, y18, z18⟩, st18⟩ := X10.specialBack hx (y := (⟨"java/lang/String", "<init>", "([BB)V"⟩ : MethodName)) rfl hown (mvT hZ (hw _ (List.mem_of_getElem? (i := 19) rfl))) (mvT hZ (hw _ (List.mem_of_getElem? (i := 20) rfl))) (mvT hZ (hw _ (List.mem_of_getElem? (i := 22) rfl))) (by decide) (backOf (W := 1) (own_rm_sbb l Z a0 hw [] st b (0 : Int32) T10.heap n0 f13 f15 f16 f17 g_st rfl) hZ (hw _ (List.mem_of_getElem? (i := 22) rfl)) (hw _ (List.mem_of_getElem? (i := 6) rfl)) (by decide) (by decide)) (g := (mkF m 22 #[.val (.int p1)] [(.int (0 : Int32)), (.ref b), (.ref st), (.ref st)])) rfl (by rw [hml]; rfl) (Steps.refl _) (a := st) (argsL := [(.ref b), (.int (0 : Int32))]) (rest := [(.ref st)]) (lenOf own_pd_23 rfl) rfl (by show 2 * 0 + _ ≤ _; exact Nat.le_of_eq rfl) (Jvm.hb hby own_d_jdk_42_method_139_code_22) (fun _ _ => ⟨rfl, rfl, Nat.le_of_ble_eq_true rfl, Nat.le_of_ble_eq_true rfl⟩)
  dsimp only [Pt.U, Pt.locs, Pt.cells, Pt.slots] at X18 l18 y18 z18 st18 hQ18
  subst y18 z18
  obtain ⟨rfl, N18, K18, q1, q2, q3⟩ := hQ18
  have N19 : Fr n0 L18 := by rw [l18]; exact Fr.app N11 N18
  have f20 := f12.trans K18 (allS (Or.inr sz_st) all0)
  have f21 := Nat.le_trans f13 K18.1
  have f22 := own_stakeep f14 K18 (allS (own_plainE f15) all0)
  have f23 := f15.keep K18
  have f26 := Vb.keep K18 (ninS (Ne.symm ne_st_b) nin0)
  refine own_of (T' := T18) (f' := (mkF m 25 #[.val (.int p1)] [(.ref st)])) (fun t_ k_ => (st18.trans k_)) ?_
  obtain ⟨fs, hr, hrun, hended, hW, hsame⟩ := X18.leave (v := some (.ref st)) (fun h => by rw [Bd.returns] at h; cases h)
  exact ⟨_, _, own_retA X18 hx Bd.returns rfl rfl rfl (Jvm.hb hby own_d_jdk_42_method_139_code_25) hr, hrun, hended, _, _, rfl, (by show own_Q_vof Z p1 G1 h0 n0 _ T18.heap _; exact ⟨st, b, kb, rfl, N19, f20, q1, q2, q3, f26⟩), ⟨_, rfl⟩, hW, hsame.mono (by decide) (by decide)⟩
theorem own_c255 (x : Int32) : ¬ ((x &&& (255 : Int32)).toUInt32.toUInt16.toUInt32.toInt32) < 0 ∧ ¬ (255 : Int32) < ((x &&& (255 : Int32)).toUInt32.toUInt16.toUInt32.toInt32) := by
  have e := c_mask x 255 8 (by decide) (by decide)
  have c1 := c_i2c (x &&& (255 : Int32))
  have z : (0 : Int32).toInt = 0 := by decide
  have q : (255 : Int32).toInt = 255 := by decide
  rw [Int32.lt_iff_toInt_lt, Int32.lt_iff_toInt_lt]
  omega
theorem own_pn_8 : plainName "com/example/austere_auth/austereauth/grant/TokenRequestToStringPinLaw" = true := by first | (simp [plainName, overriddenIn]; done) | decide +kernel
theorem own_ef_fie (m : MethodId) (p1 : Int32) : entryFrame m #[(.int p1)] 1 = mkF m 0 #[.val (.int p1)] [] := by first | (simp [entryFrame, mkF, argsToLocals, Value.category]; done) | rfl
def own_Q_fie (Z : State) (p1 : Int32) (G1 : Int32) (h0 : Heap) (n0 : Nat) (v : Option Value) (h : Heap) (L : List Loc) : Prop := ∃ u cs, v = some u ∧ Fr n0 L ∧ Keep h0 h [] ∧ own_P Z h u cs
theorem own_d_method_2_code_0 : decode method_2_code 0 = .ok (.iload_n 0, 1) := by decide +kernel
theorem own_d_method_2_code_1 : decode method_2_code 1 = .ok (.bipush 8, 2) := by decide +kernel
theorem own_d_method_2_code_3 : decode method_2_code 3 = .ok (.iushr, 1) := by decide +kernel
theorem own_d_method_2_code_4 : decode method_2_code 4 = .ok (.iconst 1, 1) := by decide +kernel
theorem own_d_method_2_code_5 : decode method_2_code 5 = .ok (.iand, 1) := by decide +kernel
theorem own_d_method_2_code_6 : decode method_2_code 6 = .ok (.ifCond .eq 5, 3) := by decide +kernel
theorem own_d_method_2_code_11 : decode method_2_code 11 = .ok (.iload_n 0, 1) := by decide +kernel
theorem own_d_method_2_code_12 : decode method_2_code 12 = .ok (.sipush 255, 3) := by decide +kernel
theorem own_d_method_2_code_15 : decode method_2_code 15 = .ok (.iand, 1) := by decide +kernel
theorem own_d_method_2_code_16 : decode method_2_code 16 = .ok (.i2c, 1) := by decide +kernel
theorem own_d_method_2_code_17 : decode method_2_code 17 = .ok (.invokestatic 7, 3) := by decide +kernel
theorem own_pd_24 : parseMethodDescriptor "(C)Ljava/lang/String;" = some ⟨[.char], some (.object "java/lang/String")⟩ := by decide +kernel
theorem own_d_method_2_code_20 : decode method_2_code 20 = .ok (.areturn, 1) := by decide +kernel
theorem own_d_method_2_code_9 : decode method_2_code 9 = .ok (.aconst_null, 1) := by decide +kernel
theorem own_d_method_2_code_10 : decode method_2_code 10 = .ok (.areturn, 1) := by decide +kernel
set_option maxRecDepth 65536 in
set_option maxHeartbeats 40000000 in
theorem own_rm_fie (l : Launch) (Z : State) (a0 : Array Value) (hw : ∀ d ∈ tables_1, d.before a0 Z = true) (ws : List Jvm.Cond) (p1 : Int32) (G1 : Int32) (h0 : Heap) (n0 : Nat) (Z0 : n0 ≤ h0.size) (SC : Sta Z h0 "java/lang/String" "COMPACT_STRINGS" "Z" (.int G1)) (P5 : ¬ (G1 = (0 : Int32))) :
    MetFree l (⟨"com/example/austere_auth/austereauth/grant/TokenRequestToStringPinLaw", "field", "(I)Ljava/lang/String;"⟩ : MethodName) (head1 (Jvm.Cond.code (⟨"com/example/austere_auth/austereauth/grant/TokenRequestToStringPinLaw", "field", "(I)Ljava/lang/String;"⟩ : MethodName) method_2_code 1 (some (.object "java/lang/String")) :: ws) ({ frames := 3, cells := 2, slots := 5, locals := 40 } : Room)) (fun a U => a = #[(.int p1)] ∧ Z.Warmed39 U.vm ∧ U.heap = h0) (fun _ _ _ _ _ => True) (fun _ U o U' => ∃ v L, o = .returned v ∧ own_Q_fie Z p1 G1 h0 n0 v U'.heap L ∧ FrameEnd U o U' L ({ frames := 3, cells := 2, slots := 5, locals := 40 } : Room).cells ({ frames := 3, cells := 2, slots := 5, locals := 40 } : Room).slots) := by
  refine MetFree.of_bodySF (plainFor_of_name own_pn_8) hisR ?_
  intro p e s m args below meth c s₁ Bd hml0 hP hK
  obtain ⟨rfl, hZ, hh⟩ := hP
  have hx := Bd.exec
  have hby := Bd.bytes
  have hml : c.maxLocals = 1 := hml0
  have hown : s.vm.findClass "com/example/austere_auth/austereauth/grant/TokenRequestToStringPinLaw" = some m.cls := findClass_of_methodNamed Bd.named
  have hnm := (name_of_methodNamed Bd.named Bd.method).1
  have X0 : Stand p l e ({ frames := 3, cells := 2, slots := 5, locals := 40 } : Room) s m #[(.int p1)] below meth c s₁ [] 0 0 := Stand.of_body Bd
  have e0 : s₁.heap = h0 := by rw [← hh, Bd.state]; rfl
  have N0 := Fr.nil n0
  refine own_start (own_ef_fie m p1 ) ?_
  have K0 : Keep h0 h0 [] := Keep.refl _ _
  refine own_of (T' := s₁) (f' := (mkF m 6 #[.val (.int p1)] [(.int (((p1.toUInt32 >>> ((8 : Int32) &&& 31).toUInt32).toInt32) &&& (1 : Int32)))])) (fun t_ k_ => (XS.iloadN X0.here hx rfl (Jvm.hb hby own_d_method_2_code_0) rfl (XS.bipush X0.here hx rfl (Jvm.hb hby own_d_method_2_code_1) (XS.iushr X0.here hx rfl (Jvm.hb hby own_d_method_2_code_3) rfl (XS.iconst X0.here hx rfl (Jvm.hb hby own_d_method_2_code_4) (XS.iand X0.here hx rfl (Jvm.hb hby own_d_method_2_code_5) rfl k_)))))) ?_
  by_cases hc6_1 : ((((p1.toUInt32 >>> ((8 : Int32) &&& 31).toUInt32).toInt32) &&& (1 : Int32)) = (0 : Int32))
  · skip
    refine own_of (T' := s₁) (f' := (mkF m 17 #[.val (.int p1)] [(.int ((p1 &&& (255 : Int32)).toUInt32.toUInt16.toUInt32.toInt32))])) (fun t_ k_ => (XS.ifYes X0.here hx rfl (pc0 := 6) (pc' := 11) rfl (Jvm.hb hby own_d_method_2_code_6) rfl ((if0 _ _).trans (teq hc6_1).1) (by decide) (by decide) (XS.iloadN X0.here hx rfl (Jvm.hb hby own_d_method_2_code_11) rfl (XS.sipush X0.here hx rfl (Jvm.hb hby own_d_method_2_code_12) (XS.iand X0.here hx rfl (Jvm.hb hby own_d_method_2_code_15) rfl (XS.i2c X0.here hx rfl (Jvm.hb hby own_d_method_2_code_16) rfl k_)))))) ?_
    obtain ⟨ch, hch⟩ : ∃ z : Int32, ((p1 &&& (255 : Int32)).toUInt32.toUInt16.toUInt32.toInt32) = z := ⟨_, rfl⟩
    rw [hch]
    have rch : ¬ ch < 0 ∧ ¬ (255 : Int32) < ch := by rw [← hch]; exact own_c255 _
    obtain ⟨_, _, ⟨T2, L2, k2, n2⟩, -, X2, ⟨Lc2, hQ2, l2, y2, z2⟩, st2⟩ := Jvm.LawKit.callS X0 hx (y := (⟨"java/lang/String", "valueOf", "(C)Ljava/lang/String;"⟩ : MethodName)) hown (mvT hZ (hw _ (List.mem_of_getElem? (i := 4) rfl))) (mvT hZ (hw _ (List.mem_of_getElem? (i := 5) rfl))) (mvT hZ (hw _ (List.mem_of_getElem? (i := 6) rfl))) (mvT hZ (hw _ (List.mem_of_getElem? (i := 7) rfl))) (by decide) (backOf (W := 0) (own_rm_vof l Z a0 hw [] ch G1 h0 n0 Z0 SC P5 rch.2) hZ (hw _ (List.mem_of_getElem? (i := 7) rfl)) (hw _ (List.mem_of_getElem? (i := 6) rfl)) (by decide) (by decide)) (g := (mkF m 17 #[.val (.int p1)] [(.int ch)])) rfl (by rw [hml]; rfl) (argsL := [(.int ch)]) (rest := []) (lenOf own_pd_24 rfl) rfl (by show 2 * 0 + _ ≤ _; exact Nat.le_of_eq rfl) (Jvm.hb hby own_d_method_2_code_17) (fun _ _ => ⟨rfl, e0, Nat.le_of_ble_eq_true rfl, Nat.le_of_ble_eq_true rfl⟩)
    dsimp only [Pt.U, Pt.locs, Pt.cells, Pt.slots] at X2 l2 y2 z2 st2 hQ2
    subst y2 z2
    obtain ⟨a, t, k, rfl, N2, K2, S2⟩ := hQ2
    have N3 : Fr n0 L2 := by rw [l2]; exact Fr.app N0 N2
    refine own_of (T' := T2) (f' := (mkF m 20 #[.val (.int p1)] [(.ref a)])) (fun t_ k_ => (st2 _ k_)) ?_
    obtain ⟨fs, hr, hrun, hended, hW, hsame⟩ := X2.leave (v := some (.ref a)) (fun h => by rw [Bd.returns] at h; cases h)
    exact ⟨_, _, own_retA X2 hx Bd.returns rfl rfl rfl (Jvm.hb hby own_d_method_2_code_20) hr, hrun, hended, _, _, rfl, (by show own_Q_fie Z p1 G1 h0 n0 _ T2.heap _; exact ⟨.ref a, [ch], rfl, N3, K2, Or.inr ⟨a, t, k, ch, rfl, S2, rfl, rch⟩⟩), ⟨_, rfl⟩, hW, hsame.mono (by decide) (by decide)⟩
  · skip
    refine own_of (T' := s₁) (f' := (mkF m 10 #[.val (.int p1)] [.null])) (fun t_ k_ => (XS.ifNo X0.here hx rfl (Jvm.hb hby own_d_method_2_code_6) rfl ((if0 _ _).trans (feq hc6_1).1) (XS.aconstNull X0.here hx rfl (Jvm.hb hby own_d_method_2_code_9) k_))) ?_
    obtain ⟨fs, hr, hrun, hended, hW, hsame⟩ := X0.leave (v := some .null) (fun h => by rw [Bd.returns] at h; cases h)
    exact ⟨_, _, own_retA X0 hx Bd.returns rfl rfl rfl (Jvm.hb hby own_d_method_2_code_10) hr, hrun, hended, _, _, rfl, (by show own_Q_fie Z p1 G1 h0 n0 _ s₁.heap _; rw [e0]; exact ⟨.null, own_nul, rfl, N0, K0, Or.inl ⟨rfl, rfl⟩⟩), ⟨_, rfl⟩, hW, hsame.mono (by decide) (by decide)⟩
theorem own_pn_9 : plainName "java/lang/Record" = true := by first | (simp [plainName, overriddenIn]; done) | decide +kernel
theorem own_ef_rec (m : MethodId) (a1 : Addr) : entryFrame m #[(.ref a1)] 1 = mkF m 0 #[.val (.ref a1)] [] := by first | (simp [entryFrame, mkF, argsToLocals, Value.category]; done) | rfl
def own_Q_rec (Z : State) (a1 : Addr)  (h0 : Heap) (n0 : Nat) (v : Option Value) (h : Heap) (L : List Loc) : Prop := v = none ∧ Fr n0 L ∧ h = h0
theorem own_d_jdk_30_method_1_code_0 : decode jdk_30_method_1_code 0 = .ok (.aload_n 0, 1) := by decide +kernel
theorem own_d_jdk_30_method_1_code_1 : decode jdk_30_method_1_code 1 = .ok (.invokespecial 1, 3) := by decide +kernel
theorem own_d_jdk_30_method_1_code_4 : decode jdk_30_method_1_code 4 = .ok (.return_, 1) := by decide +kernel
set_option maxRecDepth 65536 in
set_option maxHeartbeats 40000000 in
theorem own_rm_rec (l : Launch) (Z : State) (a0 : Array Value) (hw : ∀ d ∈ tables_1, d.before a0 Z = true) (ws : List Jvm.Cond) (a1 : Addr)  (h0 : Heap) (n0 : Nat) (Z0 : n0 ≤ h0.size)  :
    MetFree l (⟨"java/lang/Record", "<init>", "()V"⟩ : MethodName) (head1 (Jvm.Cond.code (⟨"java/lang/Record", "<init>", "()V"⟩ : MethodName) jdk_30_method_1_code 1 none :: ws) ({ frames := 1, cells := 0, slots := 0, locals := 12 } : Room)) (fun a U => a = #[(.ref a1)] ∧ Z.Warmed39 U.vm ∧ U.heap = h0) (fun _ _ _ _ _ => True) (fun _ U o U' => ∃ v L, o = .returned v ∧ own_Q_rec Z a1  h0 n0 v U'.heap L ∧ FrameEnd U o U' L ({ frames := 1, cells := 0, slots := 0, locals := 12 } : Room).cells ({ frames := 1, cells := 0, slots := 0, locals := 12 } : Room).slots) := by
  refine MetFree.of_bodySF (plainFor_of_name own_pn_9) hisR ?_
  intro p e s m args below meth c s₁ Bd hml0 hP hK
  obtain ⟨rfl, hZ, hh⟩ := hP
  have hx := Bd.exec
  have hby := Bd.bytes
  have hml : c.maxLocals = 1 := hml0
  have hown : s.vm.findClass "java/lang/Record" = some m.cls := findClass_of_methodNamed Bd.named
  have hnm := (name_of_methodNamed Bd.named Bd.method).1
  have X0 : Stand p l e ({ frames := 1, cells := 0, slots := 0, locals := 12 } : Room) s m #[(.ref a1)] below meth c s₁ [] 0 0 := Stand.of_body Bd
  have e0 : s₁.heap = h0 := by rw [← hh, Bd.state]; rfl
  have N0 := Fr.nil n0
  refine own_start (own_ef_rec m a1 ) ?_
  obtain ⟨T1, X1, e1, st1⟩ := initO X0 hx hZ hown (hw _ (List.mem_of_getElem? (i := 41) rfl)) (hw _ (List.mem_of_getElem? (i := 24) rfl)) (hw _ (List.mem_of_getElem? (i := 25) rfl)) e0 (g := (mkF m 1 #[.val (.ref a1)] [(.ref a1)])) rfl (by rw [hml]; rfl) rfl (Jvm.hb hby own_d_jdk_30_method_1_code_1) (by decide) (W := 0) (by show 2 * 0 + _ ≤ _; exact Nat.le_of_eq rfl) (by decide)
  refine own_of (T' := T1) (f' := (mkF m 4 #[.val (.ref a1)] [])) (fun t_ k_ => (XS.aloadN X0.here hx rfl (Jvm.hb hby own_d_jdk_30_method_1_code_0) rfl rfl (st1 _ k_))) ?_
  obtain ⟨fs, hr, hrun, hended, hW, hsame⟩ := X1.leave (v := none) (fun _ => rfl)
  exact ⟨_, _, X1.returnOut hx Bd.returns (Jvm.hb hby own_d_jdk_30_method_1_code_4) hr, hrun, hended, _, _, rfl, (by show own_Q_rec Z a1  h0 n0 _ T1.heap _; rw [e1]; exact ⟨rfl, N0, rfl⟩), ⟨_, rfl⟩, hW, hsame.mono (by decide) (by decide)⟩
theorem own_ef_tri (m : MethodId) (a1 : Addr) (u1 : Value) (u2 : Value) (u3 : Value) (u4 : Value) (u5 : Value) (u6 : Value) (hv_u1 : u1.isRef = true) (hv_u2 : u2.isRef = true) (hv_u3 : u3.isRef = true) (hv_u4 : u4.isRef = true) (hv_u5 : u5.isRef = true) (hv_u6 : u6.isRef = true) : entryFrame m #[(.ref a1), u1, u2, u3, u4, u5, u6] 7 = mkF m 0 #[.val (.ref a1), .val u1, .val u2, .val u3, .val u4, .val u5, .val u6] [] := by
  simp [entryFrame, mkF, argsToLocals, own_cR, own_cN, own_cI, own_cat1 hv_u1, own_cat1 hv_u2, own_cat1 hv_u3, own_cat1 hv_u4, own_cat1 hv_u5, own_cat1 hv_u6]
def own_Q_tri (Z : State) (a1 : Addr) (u1 : Value) (u2 : Value) (u3 : Value) (u4 : Value) (u5 : Value) (u6 : Value)  (h0 : Heap) (n0 : Nat) (v : Option Value) (h : Heap) (L : List Loc) : Prop := v = none ∧ Fr n0 L ∧ Keep h0 h [a1] ∧ Exa Z h a1 "com/example/austere_auth/austereauth/grant/TokenRequest" ∧ Fld Z h a1 "com/example/austere_auth/austereauth/grant/TokenRequest" "grantType" "Ljava/lang/String;" u1 ∧ Fld Z h a1 "com/example/austere_auth/austereauth/grant/TokenRequest" "clientId" "Ljava/lang/String;" u2 ∧ Fld Z h a1 "com/example/austere_auth/austereauth/grant/TokenRequest" "redirectUri" "Ljava/lang/String;" u5
theorem own_d_prog_13_method_1_code_0 : decode prog_13_method_1_code 0 = .ok (.aload_n 0, 1) := by decide +kernel
theorem own_d_prog_13_method_1_code_1 : decode prog_13_method_1_code 1 = .ok (.invokespecial 1, 3) := by decide +kernel
theorem own_d_prog_13_method_1_code_4 : decode prog_13_method_1_code 4 = .ok (.aload_n 0, 1) := by decide +kernel
theorem own_d_prog_13_method_1_code_5 : decode prog_13_method_1_code 5 = .ok (.aload_n 1, 1) := by decide +kernel
theorem own_d_prog_13_method_1_code_6 : decode prog_13_method_1_code 6 = .ok (.putfield 7, 3) := by decide +kernel
theorem own_d_prog_13_method_1_code_9 : decode prog_13_method_1_code 9 = .ok (.aload_n 0, 1) := by decide +kernel
theorem own_d_prog_13_method_1_code_10 : decode prog_13_method_1_code 10 = .ok (.aload_n 2, 1) := by decide +kernel
theorem own_d_prog_13_method_1_code_11 : decode prog_13_method_1_code 11 = .ok (.putfield 13, 3) := by decide +kernel
theorem own_d_prog_13_method_1_code_14 : decode prog_13_method_1_code 14 = .ok (.aload_n 0, 1) := by decide +kernel
theorem own_d_prog_13_method_1_code_15 : decode prog_13_method_1_code 15 = .ok (.aload_n 3, 1) := by decide +kernel
theorem own_d_prog_13_method_1_code_16 : decode prog_13_method_1_code 16 = .ok (.putfield 16, 3) := by decide +kernel
theorem own_d_prog_13_method_1_code_19 : decode prog_13_method_1_code 19 = .ok (.aload_n 0, 1) := by decide +kernel
theorem own_d_prog_13_method_1_code_20 : decode prog_13_method_1_code 20 = .ok (.aload 4, 2) := by decide +kernel
theorem own_d_prog_13_method_1_code_22 : decode prog_13_method_1_code 22 = .ok (.putfield 19, 3) := by decide +kernel
theorem own_d_prog_13_method_1_code_25 : decode prog_13_method_1_code 25 = .ok (.aload_n 0, 1) := by decide +kernel
theorem own_d_prog_13_method_1_code_26 : decode prog_13_method_1_code 26 = .ok (.aload 5, 2) := by decide +kernel
theorem own_d_prog_13_method_1_code_28 : decode prog_13_method_1_code 28 = .ok (.putfield 22, 3) := by decide +kernel
theorem own_d_prog_13_method_1_code_31 : decode prog_13_method_1_code 31 = .ok (.aload_n 0, 1) := by decide +kernel
theorem own_d_prog_13_method_1_code_32 : decode prog_13_method_1_code 32 = .ok (.aload 6, 2) := by decide +kernel
theorem own_d_prog_13_method_1_code_34 : decode prog_13_method_1_code 34 = .ok (.putfield 25, 3) := by decide +kernel
theorem own_d_prog_13_method_1_code_37 : decode prog_13_method_1_code 37 = .ok (.return_, 1) := by decide +kernel
set_option maxRecDepth 65536 in
set_option maxHeartbeats 40000000 in
theorem own_rm_tri (l : Launch) (Z : State) (a0 : Array Value) (hw : ∀ d ∈ tables_1, d.before a0 Z = true) (ws : List Jvm.Cond) (a1 : Addr) (u1 : Value) (u2 : Value) (u3 : Value) (u4 : Value) (u5 : Value) (u6 : Value)  (h0 : Heap) (n0 : Nat) (Z0 : n0 ≤ h0.size) (E1 : Exa Z h0 a1 "com/example/austere_auth/austereauth/grant/TokenRequest") (g_a1 : n0 ≤ a1) (F0 : Fld Z h0 a1 "com/example/austere_auth/austereauth/grant/TokenRequest" "grantType" "Ljava/lang/String;" .null) (F1 : Fld Z h0 a1 "com/example/austere_auth/austereauth/grant/TokenRequest" "clientId" "Ljava/lang/String;" .null) (F2 : Fld Z h0 a1 "com/example/austere_auth/austereauth/grant/TokenRequest" "clientSecret" "Ljava/lang/String;" .null) (F3 : Fld Z h0 a1 "com/example/austere_auth/austereauth/grant/TokenRequest" "code" "Ljava/lang/String;" .null) (F4 : Fld Z h0 a1 "com/example/austere_auth/austereauth/grant/TokenRequest" "redirectUri" "Ljava/lang/String;" .null) (F5 : Fld Z h0 a1 "com/example/austere_auth/austereauth/grant/TokenRequest" "refreshToken" "Ljava/lang/String;" .null) (ru1 : u1.isRef = true ∧ narrow (.object "java/lang/String") u1 = u1 ∧ fits (.object "java/lang/String") u1 = true) (ru2 : u2.isRef = true ∧ narrow (.object "java/lang/String") u2 = u2 ∧ fits (.object "java/lang/String") u2 = true) (ru3 : u3.isRef = true ∧ narrow (.object "java/lang/String") u3 = u3 ∧ fits (.object "java/lang/String") u3 = true) (ru4 : u4.isRef = true ∧ narrow (.object "java/lang/String") u4 = u4 ∧ fits (.object "java/lang/String") u4 = true) (ru5 : u5.isRef = true ∧ narrow (.object "java/lang/String") u5 = u5 ∧ fits (.object "java/lang/String") u5 = true) (ru6 : u6.isRef = true ∧ narrow (.object "java/lang/String") u6 = u6 ∧ fits (.object "java/lang/String") u6 = true) :
    MetFree l (⟨"com/example/austere_auth/austereauth/grant/TokenRequest", "<init>", "(Ljava/lang/String;Ljava/lang/String;Ljava/lang/String;Ljava/lang/String;Ljava/lang/String;Ljava/lang/String;)V"⟩ : MethodName) (head1 (Jvm.Cond.code (⟨"com/example/austere_auth/austereauth/grant/TokenRequest", "<init>", "(Ljava/lang/String;Ljava/lang/String;Ljava/lang/String;Ljava/lang/String;Ljava/lang/String;Ljava/lang/String;)V"⟩ : MethodName) prog_13_method_1_code 7 none :: ws) ({ frames := 2, cells := 0, slots := 0, locals := 24 } : Room)) (fun a U => a = #[(.ref a1), u1, u2, u3, u4, u5, u6] ∧ Z.Warmed39 U.vm ∧ U.heap = h0) (fun _ _ _ _ _ => True) (fun _ U o U' => ∃ v L, o = .returned v ∧ own_Q_tri Z a1 u1 u2 u3 u4 u5 u6  h0 n0 v U'.heap L ∧ FrameEnd U o U' L ({ frames := 2, cells := 0, slots := 0, locals := 24 } : Room).cells ({ frames := 2, cells := 0, slots := 0, locals := 24 } : Room).slots) := by
  refine MetFree.of_bodySF (plainFor_of_name own_pn_6) hisR ?_
  intro p e s m args below meth c s₁ Bd hml0 hP hK
  obtain ⟨rfl, hZ, hh⟩ := hP
  have hx := Bd.exec
  have hby := Bd.bytes
  have hml : c.maxLocals = 7 := hml0
  have hown : s.vm.findClass "com/example/austere_auth/austereauth/grant/TokenRequest" = some m.cls := findClass_of_methodNamed Bd.named
  have hnm := (name_of_methodNamed Bd.named Bd.method).1
  have X0 : Stand p l e ({ frames := 2, cells := 0, slots := 0, locals := 24 } : Room) s m #[(.ref a1), u1, u2, u3, u4, u5, u6] below meth c s₁ [] 0 0 := Stand.of_body Bd
  have e0 : s₁.heap = h0 := by rw [← hh, Bd.state]; rfl
  have N0 := Fr.nil n0
  refine own_start (own_ef_tri m a1 u1 u2 u3 u4 u5 u6 (ru1.1) (ru2.1) (ru3.1) (ru4.1) (ru5.1) (ru6.1)) ?_
  have K0 : Keep h0 h0 [a1] := Keep.refl _ _
  refine own_of (T' := s₁) (f' := (mkF m 1 #[.val (.ref a1), .val u1, .val u2, .val u3, .val u4, .val u5, .val u6] [(.ref a1)])) (fun t_ k_ => (XS.aloadN X0.here hx rfl (Jvm.hb hby own_d_prog_13_method_1_code_0) rfl rfl k_)) ?_
  obtain ⟨_, _, ⟨T1, L1, k1, n1⟩, -, X1, ⟨Lc1, hQ1, l1, y1, z1⟩, st1⟩ := X0.specialBack hx (y := (⟨"java/lang/Record", "<init>", "()V"⟩ : MethodName)) rfl hown (mvT hZ (hw _ (List.mem_of_getElem? (i := 36) rfl))) (mvT hZ (hw _ (List.mem_of_getElem? (i := 37) rfl))) (mvT hZ (hw _ (List.mem_of_getElem? (i := 40) rfl))) (by decide) (backOf (W := 0) (own_rm_rec l Z a0 hw [] a1 h0 n0 Z0) hZ (hw _ (List.mem_of_getElem? (i := 40) rfl)) (hw _ (List.mem_of_getElem? (i := 39) rfl)) (by decide) (by decide)) (g := (mkF m 1 #[.val (.ref a1), .val u1, .val u2, .val u3, .val u4, .val u5, .val u6] [(.ref a1)])) rfl (by rw [hml]; rfl) (Steps.refl _) (a := a1) (argsL := []) (rest := []) (lenOf own_pd_18 rfl) rfl (by show 2 * 0 + _ ≤ _; exact Nat.le_of_eq rfl) (Jvm.hb hby own_d_prog_13_method_1_code_1) (fun _ _ => ⟨rfl, e0, Nat.le_of_ble_eq_true rfl, Nat.le_of_ble_eq_true rfl⟩)
  dsimp only [Pt.U, Pt.locs, Pt.cells, Pt.slots] at X1 l1 y1 z1 st1 hQ1
  subst y1 z1
  obtain ⟨rfl, N1, e1⟩ := hQ1
  have N2 : Fr n0 L1 := by rw [l1]; exact Fr.app N0 N1
  obtain ⟨T3, h3, X3, e3, W3, st3⟩ := putF X1 hx hZ hown (host := "") (Or.inl (hw _ (List.mem_of_getElem? (i := 42) rfl))) Via.refl e1 F0 E1 (Or.inr ⟨(hw _ (List.mem_of_getElem? (i := 43) rfl)), rfl, hnm⟩) (hw _ (List.mem_of_getElem? (i := 31) rfl)) (ty := (.object "java/lang/String")) (by decide) ru1.2.1 ru1.2.2 (g := (mkF m 6 #[.val (.ref a1), .val u1, .val u2, .val u3, .val u4, .val u5, .val u6] [u1, (.ref a1)])) rfl rfl (Jvm.hb hby own_d_prog_13_method_1_code_6)
  refine own_of (T' := T3) (f' := (mkF m 9 #[.val (.ref a1), .val u1, .val u2, .val u3, .val u4, .val u5, .val u6] [])) (fun t_ k_ => (st1.trans (XS.aloadN X1.here hx rfl (Jvm.hb hby own_d_prog_13_method_1_code_4) rfl rfl (XS.aloadN X1.here hx rfl (Jvm.hb hby own_d_prog_13_method_1_code_5) rfl ru1.1 (st3 _ k_))))) ?_
  have N3 := Fr.snoc X3 N2 g_a1
  have f4 := K0.wr W3 (Or.inl (List.mem_of_getElem? (i := 0) rfl))
  have f5 := Nat.le_trans Z0 (Keep.of_wr W3).1
  have f6 := E1.wr W3
  have f7 := F0.same W3
  have f8 := F1.other W3 (Or.inr (slot_ne (Or.inr (hw _ (List.mem_of_getElem? (i := 45) rfl))) (Or.inr (hw _ (List.mem_of_getElem? (i := 43) rfl))) (by decide) (t := (.object "java/lang/String")) (t' := (.object "java/lang/String")) (by decide) (by decide)))
  have f9 := F2.other W3 (Or.inr (slot_ne (Or.inr (hw _ (List.mem_of_getElem? (i := 47) rfl))) (Or.inr (hw _ (List.mem_of_getElem? (i := 43) rfl))) (by decide) (t := (.object "java/lang/String")) (t' := (.object "java/lang/String")) (by decide) (by decide)))
  have f10 := F3.other W3 (Or.inr (slot_ne (Or.inr (hw _ (List.mem_of_getElem? (i := 49) rfl))) (Or.inr (hw _ (List.mem_of_getElem? (i := 43) rfl))) (by decide) (t := (.object "java/lang/String")) (t' := (.object "java/lang/String")) (by decide) (by decide)))
  have f11 := F4.other W3 (Or.inr (slot_ne (Or.inr (hw _ (List.mem_of_getElem? (i := 51) rfl))) (Or.inr (hw _ (List.mem_of_getElem? (i := 43) rfl))) (by decide) (t := (.object "java/lang/String")) (t' := (.object "java/lang/String")) (by decide) (by decide)))
  have f12 := F5.other W3 (Or.inr (slot_ne (Or.inr (hw _ (List.mem_of_getElem? (i := 53) rfl))) (Or.inr (hw _ (List.mem_of_getElem? (i := 43) rfl))) (by decide) (t := (.object "java/lang/String")) (t' := (.object "java/lang/String")) (by decide) (by decide)))
  obtain ⟨T13, h13, X13, e13, W13, st13⟩ := putF X3 hx hZ hown (host := "") (Or.inl (hw _ (List.mem_of_getElem? (i := 44) rfl))) Via.refl e3 f8 f6 (Or.inr ⟨(hw _ (List.mem_of_getElem? (i := 45) rfl)), rfl, hnm⟩) (hw _ (List.mem_of_getElem? (i := 31) rfl)) (ty := (.object "java/lang/String")) (by decide) ru2.2.1 ru2.2.2 (g := (mkF m 11 #[.val (.ref a1), .val u1, .val u2, .val u3, .val u4, .val u5, .val u6] [u2, (.ref a1)])) rfl rfl (Jvm.hb hby own_d_prog_13_method_1_code_11)
  refine own_of (T' := T13) (f' := (mkF m 14 #[.val (.ref a1), .val u1, .val u2, .val u3, .val u4, .val u5, .val u6] [])) (fun t_ k_ => (XS.aloadN X3.here hx rfl (Jvm.hb hby own_d_prog_13_method_1_code_9) rfl rfl (XS.aloadN X3.here hx rfl (Jvm.hb hby own_d_prog_13_method_1_code_10) rfl ru2.1 (st13 _ k_)))) ?_
  have N13 := Fr.snoc X13 N3 g_a1
  have f14 := f4.wr W13 (Or.inl (List.mem_of_getElem? (i := 0) rfl))
  have f15 := Nat.le_trans f5 (Keep.of_wr W13).1
  have f16 := f6.wr W13
  have f17 := f7.other W13 (Or.inr (slot_ne (Or.inr (hw _ (List.mem_of_getElem? (i := 43) rfl))) (Or.inr (hw _ (List.mem_of_getElem? (i := 45) rfl))) (by decide) (t := (.object "java/lang/String")) (t' := (.object "java/lang/String")) (by decide) (by decide)))
  have f18 := f8.same W13
  have f19 := f9.other W13 (Or.inr (slot_ne (Or.inr (hw _ (List.mem_of_getElem? (i := 47) rfl))) (Or.inr (hw _ (List.mem_of_getElem? (i := 45) rfl))) (by decide) (t := (.object "java/lang/String")) (t' := (.object "java/lang/String")) (by decide) (by decide)))
  have f20 := f10.other W13 (Or.inr (slot_ne (Or.inr (hw _ (List.mem_of_getElem? (i := 49) rfl))) (Or.inr (hw _ (List.mem_of_getElem? (i := 45) rfl))) (by decide) (t := (.object "java/lang/String")) (t' := (.object "java/lang/String")) (by decide) (by decide)))
  have f21 := f11.other W13 (Or.inr (slot_ne (Or.inr (hw _ (List.mem_of_getElem? (i := 51) rfl))) (Or.inr (hw _ (List.mem_of_getElem? (i := 45) rfl))) (by decide) (t := (.object "java/lang/String")) (t' := (.object "java/lang/String")) (by decide) (by decide)))
  have f22 := f12.other W13 (Or.inr (slot_ne (Or.inr (hw _ (List.mem_of_getElem? (i := 53) rfl))) (Or.inr (hw _ (List.mem_of_getElem? (i := 45) rfl))) (by decide) (t := (.object "java/lang/String")) (t' := (.object "java/lang/String")) (by decide) (by decide)))
  obtain ⟨T23, h23, X23, e23, W23, st23⟩ := putF X13 hx hZ hown (host := "") (Or.inl (hw _ (List.mem_of_getElem? (i := 46) rfl))) Via.refl e13 f19 f16 (Or.inr ⟨(hw _ (List.mem_of_getElem? (i := 47) rfl)), rfl, hnm⟩) (hw _ (List.mem_of_getElem? (i := 31) rfl)) (ty := (.object "java/lang/String")) (by decide) ru3.2.1 ru3.2.2 (g := (mkF m 16 #[.val (.ref a1), .val u1, .val u2, .val u3, .val u4, .val u5, .val u6] [u3, (.ref a1)])) rfl rfl (Jvm.hb hby own_d_prog_13_method_1_code_16)
  refine own_of (T' := T23) (f' := (mkF m 19 #[.val (.ref a1), .val u1, .val u2, .val u3, .val u4, .val u5, .val u6] [])) (fun t_ k_ => (XS.aloadN X13.here hx rfl (Jvm.hb hby own_d_prog_13_method_1_code_14) rfl rfl (XS.aloadN X13.here hx rfl (Jvm.hb hby own_d_prog_13_method_1_code_15) rfl ru3.1 (st23 _ k_)))) ?_
  have N23 := Fr.snoc X23 N13 g_a1
  have f24 := f14.wr W23 (Or.inl (List.mem_of_getElem? (i := 0) rfl))
  have f25 := Nat.le_trans f15 (Keep.of_wr W23).1
  have f26 := f16.wr W23
  have f27 := f17.other W23 (Or.inr (slot_ne (Or.inr (hw _ (List.mem_of_getElem? (i := 43) rfl))) (Or.inr (hw _ (List.mem_of_getElem? (i := 47) rfl))) (by decide) (t := (.object "java/lang/String")) (t' := (.object "java/lang/String")) (by decide) (by decide)))
  have f28 := f18.other W23 (Or.inr (slot_ne (Or.inr (hw _ (List.mem_of_getElem? (i := 45) rfl))) (Or.inr (hw _ (List.mem_of_getElem? (i := 47) rfl))) (by decide) (t := (.object "java/lang/String")) (t' := (.object "java/lang/String")) (by decide) (by decide)))
  have f29 := f19.same W23
  have f30 := f20.other W23 (Or.inr (slot_ne (Or.inr (hw _ (List.mem_of_getElem? (i := 49) rfl))) (Or.inr (hw _ (List.mem_of_getElem? (i := 47) rfl))) (by decide) (t := (.object "java/lang/String")) (t' := (.object "java/lang/String")) (by decide) (by decide)))
  have f31 := f21.other W23 (Or.inr (slot_ne (Or.inr (hw _ (List.mem_of_getElem? (i := 51) rfl))) (Or.inr (hw _ (List.mem_of_getElem? (i := 47) rfl))) (by decide) (t := (.object "java/lang/String")) (t' := (.object "java/lang/String")) (by decide) (by decide)))
  have f32 := f22.other W23 (Or.inr (slot_ne (Or.inr (hw _ (List.mem_of_getElem? (i := 53) rfl))) (Or.inr (hw _ (List.mem_of_getElem? (i := 47) rfl))) (by decide) (t := (.object "java/lang/String")) (t' := (.object "java/lang/String")) (by decide) (by decide)))
  obtain ⟨T33, h33, X33, e33, W33, st33⟩ := putF X23 hx hZ hown (host := "") (Or.inl (hw _ (List.mem_of_getElem? (i := 48) rfl))) Via.refl e23 f30 f26 (Or.inr ⟨(hw _ (List.mem_of_getElem? (i := 49) rfl)), rfl, hnm⟩) (hw _ (List.mem_of_getElem? (i := 31) rfl)) (ty := (.object "java/lang/String")) (by decide) ru4.2.1 ru4.2.2 (g := (mkF m 22 #[.val (.ref a1), .val u1, .val u2, .val u3, .val u4, .val u5, .val u6] [u4, (.ref a1)])) rfl rfl (Jvm.hb hby own_d_prog_13_method_1_code_22)
  refine own_of (T' := T33) (f' := (mkF m 25 #[.val (.ref a1), .val u1, .val u2, .val u3, .val u4, .val u5, .val u6] [])) (fun t_ k_ => (XS.aloadN X23.here hx rfl (Jvm.hb hby own_d_prog_13_method_1_code_19) rfl rfl (XS.aload X23.here hx rfl (Jvm.hb hby own_d_prog_13_method_1_code_20) rfl ru4.1 (st33 _ k_)))) ?_
  have N33 := Fr.snoc X33 N23 g_a1
  have f34 := f24.wr W33 (Or.inl (List.mem_of_getElem? (i := 0) rfl))
  have f35 := Nat.le_trans f25 (Keep.of_wr W33).1
  have f36 := f26.wr W33
  have f37 := f27.other W33 (Or.inr (slot_ne (Or.inr (hw _ (List.mem_of_getElem? (i := 43) rfl))) (Or.inr (hw _ (List.mem_of_getElem? (i := 49) rfl))) (by decide) (t := (.object "java/lang/String")) (t' := (.object "java/lang/String")) (by decide) (by decide)))
  have f38 := f28.other W33 (Or.inr (slot_ne (Or.inr (hw _ (List.mem_of_getElem? (i := 45) rfl))) (Or.inr (hw _ (List.mem_of_getElem? (i := 49) rfl))) (by decide) (t := (.object "java/lang/String")) (t' := (.object "java/lang/String")) (by decide) (by decide)))
  have f39 := f29.other W33 (Or.inr (slot_ne (Or.inr (hw _ (List.mem_of_getElem? (i := 47) rfl))) (Or.inr (hw _ (List.mem_of_getElem? (i := 49) rfl))) (by decide) (t := (.object "java/lang/String")) (t' := (.object "java/lang/String")) (by decide) (by decide)))
  have f40 := f30.same W33
  have f41 := f31.other W33 (Or.inr (slot_ne (Or.inr (hw _ (List.mem_of_getElem? (i := 51) rfl))) (Or.inr (hw _ (List.mem_of_getElem? (i := 49) rfl))) (by decide) (t := (.object "java/lang/String")) (t' := (.object "java/lang/String")) (by decide) (by decide)))
  have f42 := f32.other W33 (Or.inr (slot_ne (Or.inr (hw _ (List.mem_of_getElem? (i := 53) rfl))) (Or.inr (hw _ (List.mem_of_getElem? (i := 49) rfl))) (by decide) (t := (.object "java/lang/String")) (t' := (.object "java/lang/String")) (by decide) (by decide)))
  obtain ⟨T43, h43, X43, e43, W43, st43⟩ := putF X33 hx hZ hown (host := "") (Or.inl (hw _ (List.mem_of_getElem? (i := 50) rfl))) Via.refl e33 f41 f36 (Or.inr ⟨(hw _ (List.mem_of_getElem? (i := 51) rfl)), rfl, hnm⟩) (hw _ (List.mem_of_getElem? (i := 31) rfl)) (ty := (.object "java/lang/String")) (by decide) ru5.2.1 ru5.2.2 (g := (mkF m 28 #[.val (.ref a1), .val u1, .val u2, .val u3, .val u4, .val u5, .val u6] [u5, (.ref a1)])) rfl rfl (Jvm.hb hby own_d_prog_13_method_1_code_28)
  refine own_of (T' := T43) (f' := (mkF m 31 #[.val (.ref a1), .val u1, .val u2, .val u3, .val u4, .val u5, .val u6] [])) (fun t_ k_ => (XS.aloadN X33.here hx rfl (Jvm.hb hby own_d_prog_13_method_1_code_25) rfl rfl (XS.aload X33.here hx rfl (Jvm.hb hby own_d_prog_13_method_1_code_26) rfl ru5.1 (st43 _ k_)))) ?_
  have N43 := Fr.snoc X43 N33 g_a1
  have f44 := f34.wr W43 (Or.inl (List.mem_of_getElem? (i := 0) rfl))
  have f45 := Nat.le_trans f35 (Keep.of_wr W43).1
  have f46 := f36.wr W43
  have f47 := f37.other W43 (Or.inr (slot_ne (Or.inr (hw _ (List.mem_of_getElem? (i := 43) rfl))) (Or.inr (hw _ (List.mem_of_getElem? (i := 51) rfl))) (by decide) (t := (.object "java/lang/String")) (t' := (.object "java/lang/String")) (by decide) (by decide)))
  have f48 := f38.other W43 (Or.inr (slot_ne (Or.inr (hw _ (List.mem_of_getElem? (i := 45) rfl))) (Or.inr (hw _ (List.mem_of_getElem? (i := 51) rfl))) (by decide) (t := (.object "java/lang/String")) (t' := (.object "java/lang/String")) (by decide) (by decide)))
  have f49 := f39.other W43 (Or.inr (slot_ne (Or.inr (hw _ (List.mem_of_getElem? (i := 47) rfl))) (Or.inr (hw _ (List.mem_of_getElem? (i := 51) rfl))) (by decide) (t := (.object "java/lang/String")) (t' := (.object "java/lang/String")) (by decide) (by decide)))
  have f50 := f40.other W43 (Or.inr (slot_ne (Or.inr (hw _ (List.mem_of_getElem? (i := 49) rfl))) (Or.inr (hw _ (List.mem_of_getElem? (i := 51) rfl))) (by decide) (t := (.object "java/lang/String")) (t' := (.object "java/lang/String")) (by decide) (by decide)))
  have f51 := f41.same W43
  have f52 := f42.other W43 (Or.inr (slot_ne (Or.inr (hw _ (List.mem_of_getElem? (i := 53) rfl))) (Or.inr (hw _ (List.mem_of_getElem? (i := 51) rfl))) (by decide) (t := (.object "java/lang/String")) (t' := (.object "java/lang/String")) (by decide) (by decide)))
  obtain ⟨T53, h53, X53, e53, W53, st53⟩ := putF X43 hx hZ hown (host := "") (Or.inl (hw _ (List.mem_of_getElem? (i := 52) rfl))) Via.refl e43 f52 f46 (Or.inr ⟨(hw _ (List.mem_of_getElem? (i := 53) rfl)), rfl, hnm⟩) (hw _ (List.mem_of_getElem? (i := 31) rfl)) (ty := (.object "java/lang/String")) (by decide) ru6.2.1 ru6.2.2 (g := (mkF m 34 #[.val (.ref a1), .val u1, .val u2, .val u3, .val u4, .val u5, .val u6] [u6, (.ref a1)])) rfl rfl (Jvm.hb hby own_d_prog_13_method_1_code_34)
  refine own_of (T' := T53) (f' := (mkF m 37 #[.val (.ref a1), .val u1, .val u2, .val u3, .val u4, .val u5, .val u6] [])) (fun t_ k_ => (XS.aloadN X43.here hx rfl (Jvm.hb hby own_d_prog_13_method_1_code_31) rfl rfl (XS.aload X43.here hx rfl (Jvm.hb hby own_d_prog_13_method_1_code_32) rfl ru6.1 (st53 _ k_)))) ?_
  have N53 := Fr.snoc X53 N43 g_a1
  have f54 := f44.wr W53 (Or.inl (List.mem_of_getElem? (i := 0) rfl))
  have f55 := Nat.le_trans f45 (Keep.of_wr W53).1
  have f56 := f46.wr W53
  have f57 := f47.other W53 (Or.inr (slot_ne (Or.inr (hw _ (List.mem_of_getElem? (i := 43) rfl))) (Or.inr (hw _ (List.mem_of_getElem? (i := 53) rfl))) (by decide) (t := (.object "java/lang/String")) (t' := (.object "java/lang/String")) (by decide) (by decide)))
  have f58 := f48.other W53 (Or.inr (slot_ne (Or.inr (hw _ (List.mem_of_getElem? (i := 45) rfl))) (Or.inr (hw _ (List.mem_of_getElem? (i := 53) rfl))) (by decide) (t := (.object "java/lang/String")) (t' := (.object "java/lang/String")) (by decide) (by decide)))
  have f59 := f49.other W53 (Or.inr (slot_ne (Or.inr (hw _ (List.mem_of_getElem? (i := 47) rfl))) (Or.inr (hw _ (List.mem_of_getElem? (i := 53) rfl))) (by decide) (t := (.object "java/lang/String")) (t' := (.object "java/lang/String")) (by decide) (by decide)))
  have f60 := f50.other W53 (Or.inr (slot_ne (Or.inr (hw _ (List.mem_of_getElem? (i := 49) rfl))) (Or.inr (hw _ (List.mem_of_getElem? (i := 53) rfl))) (by decide) (t := (.object "java/lang/String")) (t' := (.object "java/lang/String")) (by decide) (by decide)))
  have f61 := f51.other W53 (Or.inr (slot_ne (Or.inr (hw _ (List.mem_of_getElem? (i := 51) rfl))) (Or.inr (hw _ (List.mem_of_getElem? (i := 53) rfl))) (by decide) (t := (.object "java/lang/String")) (t' := (.object "java/lang/String")) (by decide) (by decide)))
  have f62 := f52.same W53
  obtain ⟨fs, hr, hrun, hended, hW, hsame⟩ := X53.leave (v := none) (fun _ => rfl)
  exact ⟨_, _, X53.returnOut hx Bd.returns (Jvm.hb hby own_d_prog_13_method_1_code_37) hr, hrun, hended, _, _, rfl, (by show own_Q_tri Z a1 u1 u2 u3 u4 u5 u6  h0 n0 _ T53.heap _; rw [e53]; exact ⟨rfl, N53, f54, f56, f57, f58, f61⟩), ⟨_, rfl⟩, hW, hsame.mono (by decide) (by decide)⟩
theorem own_pn_10 : plainName "jdk/internal/util/Preconditions" = true := by first | (simp [plainName, overriddenIn]; done) | decide +kernel
theorem own_ef_pci (m : MethodId) (p1 : Int32) (p2 : Int32) (fm : Value) (hv_fm : fm.isRef = true) : entryFrame m #[(.int p1), (.int p2), fm] 3 = mkF m 0 #[.val (.int p1), .val (.int p2), .val fm] [] := by
  simp [entryFrame, mkF, argsToLocals, own_cR, own_cN, own_cI, own_cat1 hv_fm]
def own_Q_pci (Z : State) (p1 : Int32) (p2 : Int32) (fm : Value)  (h0 : Heap) (n0 : Nat) (v : Option Value) (h : Heap) (L : List Loc) : Prop := v = some (.int p1) ∧ Fr n0 L ∧ h = h0
theorem own_d_jdk_41_method_11_code_0 : decode jdk_41_method_11_code 0 = .ok (.iload_n 0, 1) := by decide +kernel
theorem own_d_jdk_41_method_11_code_1 : decode jdk_41_method_11_code 1 = .ok (.ifCond .lt 8, 3) := by decide +kernel
theorem own_d_jdk_41_method_11_code_4 : decode jdk_41_method_11_code 4 = .ok (.iload_n 0, 1) := by decide +kernel
theorem own_d_jdk_41_method_11_code_5 : decode jdk_41_method_11_code 5 = .ok (.iload_n 1, 1) := by decide +kernel
theorem own_d_jdk_41_method_11_code_6 : decode jdk_41_method_11_code 6 = .ok (.if_icmp .lt 10, 3) := by decide +kernel
theorem own_d_jdk_41_method_11_code_16 : decode jdk_41_method_11_code 16 = .ok (.iload_n 0, 1) := by decide +kernel
theorem own_d_jdk_41_method_11_code_17 : decode jdk_41_method_11_code 17 = .ok (.ireturn, 1) := by decide +kernel
set_option maxRecDepth 65536 in
set_option maxHeartbeats 40000000 in
theorem own_rm_pci (l : Launch) (Z : State) (a0 : Array Value) (hw : ∀ d ∈ tables_1, d.before a0 Z = true) (ws : List Jvm.Cond) (p1 : Int32) (p2 : Int32) (fm : Value)  (h0 : Heap) (n0 : Nat) (Z0 : n0 ≤ h0.size) (rfm : fm.isRef = true) (h1 : ¬ p1 < (0 : Int32)) (h2 : p1 < p2) :
    MetFree l (⟨"jdk/internal/util/Preconditions", "checkIndex", "(IILjava/util/function/BiFunction;)I"⟩ : MethodName) (head1 (Jvm.Cond.code (⟨"jdk/internal/util/Preconditions", "checkIndex", "(IILjava/util/function/BiFunction;)I"⟩ : MethodName) jdk_41_method_11_code 3 (some .int) :: ws) ({ frames := 0, cells := 0, slots := 0, locals := 0 } : Room)) (fun a U => a = #[(.int p1), (.int p2), fm] ∧ Z.Warmed39 U.vm ∧ U.heap = h0) (fun _ _ _ _ _ => True) (fun _ U o U' => ∃ v L, o = .returned v ∧ own_Q_pci Z p1 p2 fm  h0 n0 v U'.heap L ∧ FrameEnd U o U' L ({ frames := 0, cells := 0, slots := 0, locals := 0 } : Room).cells ({ frames := 0, cells := 0, slots := 0, locals := 0 } : Room).slots) := by
  refine MetFree.of_bodySF (plainFor_of_name own_pn_10) hisR ?_
  intro p e s m args below meth c s₁ Bd hml0 hP hK
  obtain ⟨rfl, hZ, hh⟩ := hP
  have hx := Bd.exec
  have hby := Bd.bytes
  have hml : c.maxLocals = 3 := hml0
  have hown : s.vm.findClass "jdk/internal/util/Preconditions" = some m.cls := findClass_of_methodNamed Bd.named
  have hnm := (name_of_methodNamed Bd.named Bd.method).1
  have X0 : Stand p l e ({ frames := 0, cells := 0, slots := 0, locals := 0 } : Room) s m #[(.int p1), (.int p2), fm] below meth c s₁ [] 0 0 := Stand.of_body Bd
  have e0 : s₁.heap = h0 := by rw [← hh, Bd.state]; rfl
  have N0 := Fr.nil n0
  refine own_start (own_ef_pci m p1 p2 fm (rfm)) ?_
  refine own_of (T' := s₁) (f' := (mkF m 17 #[.val (.int p1), .val (.int p2), .val fm] [(.int p1)])) (fun t_ k_ => (XS.iloadN X0.here hx rfl (Jvm.hb hby own_d_jdk_41_method_11_code_0) rfl (XS.ifNo X0.here hx rfl (Jvm.hb hby own_d_jdk_41_method_11_code_1) rfl ((if0 _ _).trans (flt h1).1) (XS.iloadN X0.here hx rfl (Jvm.hb hby own_d_jdk_41_method_11_code_4) rfl (XS.iloadN X0.here hx rfl (Jvm.hb hby own_d_jdk_41_method_11_code_5) rfl (XS.icmpYes X0.here hx rfl (pc0 := 6) (pc' := 16) rfl (Jvm.hb hby own_d_jdk_41_method_11_code_6) rfl (tlt h2).1 (by decide) (by decide) (XS.iloadN X0.here hx rfl (Jvm.hb hby own_d_jdk_41_method_11_code_16) rfl k_))))))) ?_
  obtain ⟨fs, hr, hrun, hended, hW, hsame⟩ := X0.leave (v := some (.int p1)) (fun h => by rw [Bd.returns] at h; cases h)
  exact ⟨_, _, own_retI X0 hx Bd.returns (Jvm.hb hby own_d_jdk_41_method_11_code_17) hr, hrun, hended, _, _, rfl, (by show own_Q_pci Z p1 p2 fm  h0 n0 _ s₁.heap _; rw [e0]; exact ⟨rfl, N0, rfl⟩), ⟨_, rfl⟩, hW, hsame.mono (by decide) (by decide)⟩
theorem own_ef_sci (m : MethodId) (p1 : Int32) (p2 : Int32) : entryFrame m #[(.int p1), (.int p2)] 2 = mkF m 0 #[.val (.int p1), .val (.int p2)] [] := by first | (simp [entryFrame, mkF, argsToLocals, Value.category]; done) | rfl
def own_Q_sci (Z : State) (p1 : Int32) (p2 : Int32) (fm : Value) (h0 : Heap) (n0 : Nat) (v : Option Value) (h : Heap) (L : List Loc) : Prop := v = none ∧ Fr n0 L ∧ h = h0
theorem own_d_jdk_42_method_155_code_0 : decode jdk_42_method_155_code 0 = .ok (.iload_n 0, 1) := by decide +kernel
theorem own_d_jdk_42_method_155_code_1 : decode jdk_42_method_155_code 1 = .ok (.iload_n 1, 1) := by decide +kernel
theorem own_d_jdk_42_method_155_code_2 : decode jdk_42_method_155_code 2 = .ok (.getstatic 1053, 3) := by decide +kernel
theorem own_d_jdk_42_method_155_code_5 : decode jdk_42_method_155_code 5 = .ok (.invokestatic 1059, 3) := by decide +kernel
theorem own_pd_25 : parseMethodDescriptor "(IILjava/util/function/BiFunction;)I" = some ⟨[.int, .int, (.object "java/util/function/BiFunction")], some .int⟩ := by decide +kernel
theorem own_d_jdk_42_method_155_code_8 : decode jdk_42_method_155_code 8 = .ok (.pop, 1) := by decide +kernel
theorem own_d_jdk_42_method_155_code_9 : decode jdk_42_method_155_code 9 = .ok (.return_, 1) := by decide +kernel
set_option maxRecDepth 65536 in
set_option maxHeartbeats 40000000 in
theorem own_rm_sci (l : Launch) (Z : State) (a0 : Array Value) (hw : ∀ d ∈ tables_1, d.before a0 Z = true) (ws : List Jvm.Cond) (p1 : Int32) (p2 : Int32) (fm : Value) (h0 : Heap) (n0 : Nat) (Z0 : n0 ≤ h0.size) (SF : Sta Z h0 "jdk/internal/util/Preconditions" "SIOOBE_FORMATTER" "Ljava/util/function/BiFunction;" fm) (rfm : fm.isRef = true) (h1 : ¬ p1 < (0 : Int32)) (h2 : p1 < p2) :
    MetFree l (⟨"java/lang/String", "checkIndex", "(II)V"⟩ : MethodName) (head1 (Jvm.Cond.code (⟨"java/lang/String", "checkIndex", "(II)V"⟩ : MethodName) jdk_42_method_155_code 2 none :: ws) ({ frames := 1, cells := 0, slots := 0, locals := 14 } : Room)) (fun a U => a = #[(.int p1), (.int p2)] ∧ Z.Warmed39 U.vm ∧ U.heap = h0) (fun _ _ _ _ _ => True) (fun _ U o U' => ∃ v L, o = .returned v ∧ own_Q_sci Z p1 p2 fm h0 n0 v U'.heap L ∧ FrameEnd U o U' L ({ frames := 1, cells := 0, slots := 0, locals := 14 } : Room).cells ({ frames := 1, cells := 0, slots := 0, locals := 14 } : Room).slots) := by
  refine MetFree.of_bodySF (plainFor_of_name own_pn_0) hisR ?_
  intro p e s m args below meth c s₁ Bd hml0 hP hK
  obtain ⟨rfl, hZ, hh⟩ := hP
  have hx := Bd.exec
  have hby := Bd.bytes
  have hml : c.maxLocals = 2 := hml0
  have hown : s.vm.findClass "java/lang/String" = some m.cls := findClass_of_methodNamed Bd.named
  have hnm := (name_of_methodNamed Bd.named Bd.method).1
  have X0 : Stand p l e ({ frames := 1, cells := 0, slots := 0, locals := 14 } : Room) s m #[(.int p1), (.int p2)] below meth c s₁ [] 0 0 := Stand.of_body Bd
  have e0 : s₁.heap = h0 := by rw [← hh, Bd.state]; rfl
  have N0 := Fr.nil n0
  refine own_start (own_ef_sci m p1 p2 ) ?_
  obtain ⟨T1, X1, e1, st1⟩ := getS2 X0 hx hZ hown (host := "") (Or.inl (hw _ (List.mem_of_getElem? (i := 220) rfl))) Via.refl e0 SF (g := (mkF m 2 #[.val (.int p1), .val (.int p2)] [(.int p2), (.int p1)])) rfl (Jvm.hb hby own_d_jdk_42_method_155_code_2)
  refine own_of (T' := T1) (f' := (mkF m 5 #[.val (.int p1), .val (.int p2)] [fm, (.int p2), (.int p1)])) (fun t_ k_ => (XS.iloadN X0.here hx rfl (Jvm.hb hby own_d_jdk_42_method_155_code_0) rfl (XS.iloadN X0.here hx rfl (Jvm.hb hby own_d_jdk_42_method_155_code_1) rfl (st1 _ k_)))) ?_
  obtain ⟨_, _, ⟨T2, L2, k2, n2⟩, -, X2, ⟨Lc2, hQ2, l2, y2, z2⟩, st2⟩ := Jvm.LawKit.callS X1 hx (y := (⟨"jdk/internal/util/Preconditions", "checkIndex", "(IILjava/util/function/BiFunction;)I"⟩ : MethodName)) hown (mvT hZ (hw _ (List.mem_of_getElem? (i := 222) rfl))) (mvT hZ (hw _ (List.mem_of_getElem? (i := 223) rfl))) (mvT hZ (hw _ (List.mem_of_getElem? (i := 221) rfl))) (mvT hZ (hw _ (List.mem_of_getElem? (i := 224) rfl))) (by decide) (backOf (W := 0) (own_rm_pci l Z a0 hw [] p1 p2 fm h0 n0 Z0 rfm h1 h2) hZ (hw _ (List.mem_of_getElem? (i := 224) rfl)) (hw _ (List.mem_of_getElem? (i := 221) rfl)) (by decide) (by decide)) (g := (mkF m 5 #[.val (.int p1), .val (.int p2)] [fm, (.int p2), (.int p1)])) rfl (by rw [hml]; rfl) (argsL := [(.int p1), (.int p2), fm]) (rest := []) (lenOf own_pd_25 rfl) rfl (by show 2 * 0 + _ ≤ _; exact Nat.le_of_eq rfl) (Jvm.hb hby own_d_jdk_42_method_155_code_5) (fun _ _ => ⟨rfl, e1, Nat.le_of_ble_eq_true rfl, Nat.le_of_ble_eq_true rfl⟩)
  dsimp only [Pt.U, Pt.locs, Pt.cells, Pt.slots] at X2 l2 y2 z2 st2 hQ2
  subst y2 z2
  obtain ⟨rfl, N2, e2⟩ := hQ2
  have N3 : Fr n0 L2 := by rw [l2]; exact Fr.app N0 N2
  refine own_of (T' := T2) (f' := (mkF m 9 #[.val (.int p1), .val (.int p2)] [])) (fun t_ k_ => (st2 _ (XS.pop X2.here hx rfl (Jvm.hb hby own_d_jdk_42_method_155_code_8) rfl rfl k_))) ?_
  obtain ⟨fs, hr, hrun, hended, hW, hsame⟩ := X2.leave (v := none) (fun _ => rfl)
  exact ⟨_, _, X2.returnOut hx Bd.returns (Jvm.hb hby own_d_jdk_42_method_155_code_9) hr, hrun, hended, _, _, rfl, (by show own_Q_sci Z p1 p2 fm h0 n0 _ T2.heap _; rw [e2]; exact ⟨rfl, N3, rfl⟩), ⟨_, rfl⟩, hW, hsame.mono (by decide) (by decide)⟩
theorem own_lo8m (x : Int32) (h : ¬ x < 0 ∧ ¬ (255 : Int32) < x) : nar .char ((own_lo8 x &&& (255 : Int32)).toUInt32.toUInt16.toUInt32.toInt32) = x := by
  have h1 := h.1
  have h2 := h.2
  rw [Int32.lt_iff_toInt_lt] at h1 h2
  have z : (0 : Int32).toInt = 0 := by decide
  have q : (255 : Int32).toInt = 255 := by decide
  rw [z] at h1
  rw [q] at h2
  have b := c_i2b x
  have e := c_mask (own_lo8 x) 255 8 (by decide) (by decide)
  have e' : (own_lo8 x &&& (255 : Int32)).toInt = (x.toInt8.toInt32).toInt % (2 ^ 8 : Nat) := e
  have c1 := c_i2c (own_lo8 x &&& (255 : Int32))
  have c2 := c_i2c ((own_lo8 x &&& (255 : Int32)).toUInt32.toUInt16.toUInt32.toInt32)
  apply Int32.toInt_inj.mp
  show ((own_lo8 x &&& (255 : Int32)).toUInt32.toUInt16.toUInt32.toInt32).toUInt32.toUInt16.toUInt32.toInt32.toInt = x.toInt
  omega
def own_R (cs : List Int32) : Prop := ∀ c ∈ cs, ¬ c < 0 ∧ ¬ (255 : Int32) < c
theorem own_byD (cs : List Int32) (i : Nat) (h : i < cs.length) : (own_by cs).getD i (.int 0) = .int (own_lo8 (cs.getD i 0)) := by
  simp [own_by, List.getD_eq_getElem?_getD, h]
theorem own_nc255 (x : Int32) (h : ¬ x < 0 ∧ ¬ (255 : Int32) < x) : nar .char x = x := by
  have c1 := c_i2c x
  have h1 := h.1
  have h2 := h.2
  rw [Int32.lt_iff_toInt_lt] at h1 h2
  have z : (0 : Int32).toInt = 0 := by decide
  have q : (255 : Int32).toInt = 255 := by decide
  rw [z] at h1
  rw [q] at h2
  apply Int32.toInt_inj.mp
  show (x.toUInt32.toUInt16.toUInt32.toInt32).toInt = x.toInt
  omega
theorem own_ef_lch (m : MethodId) (a1 : Addr) (p2 : Int32) : entryFrame m #[(.ref a1), (.int p2)] 2 = mkF m 0 #[.val (.ref a1), .val (.int p2)] [] := by first | (simp [entryFrame, mkF, argsToLocals, Value.category]; done) | rfl
def own_Q_lch (Z : State) (a1 : Addr) (p2 : Int32) (fm : Value) (k : ClassId) (cs : List Int32) (i : Nat) (h0 : Heap) (n0 : Nat) (v : Option Value) (h : Heap) (L : List Loc) : Prop := v = some (.int (cs.getD i 0)) ∧ Fr n0 L ∧ h = h0
theorem own_d_jdk_43_method_2_code_0 : decode jdk_43_method_2_code 0 = .ok (.iload_n 1, 1) := by decide +kernel
theorem own_d_jdk_43_method_2_code_1 : decode jdk_43_method_2_code 1 = .ok (.aload_n 0, 1) := by decide +kernel
theorem own_d_jdk_43_method_2_code_2 : decode jdk_43_method_2_code 2 = .ok (.arraylength, 1) := by decide +kernel
theorem own_d_jdk_43_method_2_code_3 : decode jdk_43_method_2_code 3 = .ok (.invokestatic 9, 3) := by decide +kernel
theorem own_d_jdk_43_method_2_code_6 : decode jdk_43_method_2_code 6 = .ok (.aload_n 0, 1) := by decide +kernel
theorem own_d_jdk_43_method_2_code_7 : decode jdk_43_method_2_code 7 = .ok (.iload_n 1, 1) := by decide +kernel
theorem own_d_jdk_43_method_2_code_8 : decode jdk_43_method_2_code 8 = .ok (.baload, 1) := by decide +kernel
theorem own_d_jdk_43_method_2_code_9 : decode jdk_43_method_2_code 9 = .ok (.sipush 255, 3) := by decide +kernel
theorem own_d_jdk_43_method_2_code_12 : decode jdk_43_method_2_code 12 = .ok (.iand, 1) := by decide +kernel
theorem own_d_jdk_43_method_2_code_13 : decode jdk_43_method_2_code 13 = .ok (.i2c, 1) := by decide +kernel
theorem own_d_jdk_43_method_2_code_14 : decode jdk_43_method_2_code 14 = .ok (.ireturn, 1) := by decide +kernel
set_option maxRecDepth 65536 in
set_option maxHeartbeats 40000000 in
theorem own_rm_lch (l : Launch) (Z : State) (a0 : Array Value) (hw : ∀ d ∈ tables_1, d.before a0 Z = true) (ws : List Jvm.Cond) (a1 : Addr) (p2 : Int32) (fm : Value) (k : ClassId) (cs : List Int32) (i : Nat) (h0 : Heap) (n0 : Nat) (Z0 : n0 ≤ h0.size) (SF : Sta Z h0 "jdk/internal/util/Preconditions" "SIOOBE_FORMATTER" "Ljava/util/function/BiFunction;" fm) (rfm : fm.isRef = true) (Va : Arv Z h0 a1 k .byte (Int32.ofNat (cs.length)) (own_by cs) (.int 0)) (hi : i < cs.length) (hl : cs.length < 400) (hp2 : p2 = (Int32.ofNat (i))) (hR : ¬ (cs.getD i 0) < 0 ∧ ¬ (255 : Int32) < (cs.getD i 0)) :
    MetFree l (⟨"java/lang/StringLatin1", "charAt", "([BI)C"⟩ : MethodName) (head1 (Jvm.Cond.code (⟨"java/lang/StringLatin1", "charAt", "([BI)C"⟩ : MethodName) jdk_43_method_2_code 2 (some .char) :: ws) ({ frames := 2, cells := 0, slots := 0, locals := 27 } : Room)) (fun a U => a = #[(.ref a1), (.int p2)] ∧ Z.Warmed39 U.vm ∧ U.heap = h0) (fun _ _ _ _ _ => True) (fun _ U o U' => ∃ v L, o = .returned v ∧ own_Q_lch Z a1 p2 fm k cs i h0 n0 v U'.heap L ∧ FrameEnd U o U' L ({ frames := 2, cells := 0, slots := 0, locals := 27 } : Room).cells ({ frames := 2, cells := 0, slots := 0, locals := 27 } : Room).slots) := by
  refine MetFree.of_bodySF (plainFor_of_name own_pn_7) hisR ?_
  intro p e s m args below meth c s₁ Bd hml0 hP hK
  obtain ⟨rfl, hZ, hh⟩ := hP
  have hx := Bd.exec
  have hby := Bd.bytes
  have hml : c.maxLocals = 2 := hml0
  have hown : s.vm.findClass "java/lang/StringLatin1" = some m.cls := findClass_of_methodNamed Bd.named
  have hnm := (name_of_methodNamed Bd.named Bd.method).1
  have X0 : Stand p l e ({ frames := 2, cells := 0, slots := 0, locals := 27 } : Room) s m #[(.ref a1), (.int p2)] below meth c s₁ [] 0 0 := Stand.of_body Bd
  have e0 : s₁.heap = h0 := by rw [← hh, Bd.state]; rfl
  have N0 := Fr.nil n0
  refine own_start (own_ef_lch m a1 p2 ) ?_
  subst hp2
  refine own_of (T' := s₁) (f' := (mkF m 2 #[.val (.ref a1), .val (.int (Int32.ofNat (i)))] [(.ref a1), (.int (Int32.ofNat (i)))])) (fun t_ k_ => (XS.iloadN X0.here hx rfl (Jvm.hb hby own_d_jdk_43_method_2_code_0) rfl (XS.aloadN X0.here hx rfl (Jvm.hb hby own_d_jdk_43_method_2_code_1) rfl rfl k_))) ?_
  obtain ⟨cl1, Ar1, -, Sz1, Nn1, -⟩ := id Va
  refine own_of (T' := s₁) (f' := (mkF m 3 #[.val (.ref a1), .val (.int (Int32.ofNat (i)))] [(.int (cl1.slots.size).toInt32), (.int (Int32.ofNat (i)))])) (fun t_ k_ => (X0.arraylength hx (by first | (rw [e0]; exact Ar1.1) | exact Ar1.1) (State.isArrayOf_alike hZ.alike Ar1.2.1) (g := (mkF m 2 #[.val (.ref a1), .val (.int (Int32.ofNat (i)))] [(.ref a1), (.int (Int32.ofNat (i)))])) rfl rfl (Jvm.hb hby own_d_jdk_43_method_2_code_2) _ k_)) ?_
  rw [len_of Sz1 Nn1]
  obtain ⟨_, _, ⟨T2, L2, k2, n2⟩, -, X2, ⟨Lc2, hQ2, l2, y2, z2⟩, st2⟩ := Jvm.LawKit.callS X0 hx (y := (⟨"java/lang/String", "checkIndex", "(II)V"⟩ : MethodName)) hown (mvT hZ (hw _ (List.mem_of_getElem? (i := 217) rfl))) (mvT hZ (hw _ (List.mem_of_getElem? (i := 218) rfl))) (mvT hZ (hw _ (List.mem_of_getElem? (i := 6) rfl))) (mvT hZ (hw _ (List.mem_of_getElem? (i := 219) rfl))) (by decide) (backOf (W := 0) (own_rm_sci l Z a0 hw [] (Int32.ofNat (i)) (Int32.ofNat (cs.length)) fm h0 n0 Z0 SF rfm (own_ng _ (by omega)) ((own_lt _ _ (by omega) (by omega)).mpr hi)) hZ (hw _ (List.mem_of_getElem? (i := 219) rfl)) (hw _ (List.mem_of_getElem? (i := 6) rfl)) (by decide) (by decide)) (g := (mkF m 3 #[.val (.ref a1), .val (.int (Int32.ofNat (i)))] [(.int (Int32.ofNat (cs.length))), (.int (Int32.ofNat (i)))])) rfl (by rw [hml]; rfl) (argsL := [(.int (Int32.ofNat (i))), (.int (Int32.ofNat (cs.length)))]) (rest := []) (lenOf own_pd_13 rfl) rfl (by show 2 * 0 + _ ≤ _; exact Nat.le_of_eq rfl) (Jvm.hb hby own_d_jdk_43_method_2_code_3) (fun _ _ => ⟨rfl, e0, Nat.le_of_ble_eq_true rfl, Nat.le_of_ble_eq_true rfl⟩)
  dsimp only [Pt.U, Pt.locs, Pt.cells, Pt.slots] at X2 l2 y2 z2 st2 hQ2
  subst y2 z2
  obtain ⟨rfl, N2, e2⟩ := hQ2
  have N3 : Fr n0 L2 := by rw [l2]; exact Fr.app N0 N2
  refine own_of (T' := T2) (f' := (mkF m 8 #[.val (.ref a1), .val (.int (Int32.ofNat (i)))] [(.int (Int32.ofNat (i))), (.ref a1)])) (fun t_ k_ => (st2 _ (XS.aloadN X2.here hx rfl (Jvm.hb hby own_d_jdk_43_method_2_code_6) rfl rfl (XS.iloadN X2.here hx rfl (Jvm.hb hby own_d_jdk_43_method_2_code_7) rfl k_)))) ?_
  obtain ⟨cl, Ar, qq, Sz, Nn, Hh, Gg⟩ := id Va
  have hin : ¬ ((Int32.ofNat (i)) < 0 ∨ cl.slots.size ≤ ((Int32.ofNat (i))).toNatClampNeg) := inb_of Sz ⟨own_ng _ (by omega), (own_lt _ _ (by omega) (by omega)).mpr hi⟩
  refine own_of (T' := T2) (f' := (mkF m 14 #[.val (.ref a1), .val (.int (Int32.ofNat (i)))] [(.int (((own_lo8 (cs.getD i 0)) &&& (255 : Int32)).toUInt32.toUInt16.toUInt32.toInt32))])) (fun t_ k_ => (X2.baloadBytes hx (j := (Int32.ofNat (i))) (v := .int (own_lo8 (cs.getD i 0))) (by rw [e2]; exact Ar.1) (State.isArrayOf_alike hZ.alike Ar.2.1) Ar.2.2 hin (Hh.at hin (by rw [own_cl _ (by omega)]; exact own_byD cs i hi)) (g := (mkF m 8 #[.val (.ref a1), .val (.int (Int32.ofNat (i)))] [(.int (Int32.ofNat (i))), (.ref a1)])) rfl rfl (Jvm.hb hby own_d_jdk_43_method_2_code_8) _ (XS.sipush X2.here hx rfl (Jvm.hb hby own_d_jdk_43_method_2_code_9) (XS.iand X2.here hx rfl (Jvm.hb hby own_d_jdk_43_method_2_code_12) rfl (XS.i2c X2.here hx rfl (Jvm.hb hby own_d_jdk_43_method_2_code_13) rfl k_))))) ?_
  have hv := own_lo8m (cs.getD i 0) hR
  obtain ⟨fs, hr, hrun, hended, hW, hsame⟩ := X2.leave (v := some (.int (nar .char (((own_lo8 (cs.getD i 0)) &&& (255 : Int32)).toUInt32.toUInt16.toUInt32.toInt32)))) (fun h => by rw [Bd.returns] at h; cases h)
  exact ⟨_, _, retN X2 hx (t := .char) Bd.returns (by simp) (Jvm.hb hby own_d_jdk_43_method_2_code_14) hr, hrun, hended, _, _, rfl, (by show own_Q_lch Z a1 (Int32.ofNat (i)) fm k cs i h0 n0 _ T2.heap _; rw [e2]; exact ⟨by rw [hv], N3, rfl⟩), ⟨_, rfl⟩, hW, hsame.mono (by decide) (by decide)⟩
theorem own_ef_lat (m : MethodId) (a1 : Addr) : entryFrame m #[(.ref a1)] 1 = mkF m 0 #[.val (.ref a1)] [] := by first | (simp [entryFrame, mkF, argsToLocals, Value.category]; done) | rfl
def own_Q_lat (Z : State) (a1 : Addr) (G1 : Int32) (h0 : Heap) (n0 : Nat) (v : Option Value) (h : Heap) (L : List Loc) : Prop := v = some (.int 1) ∧ Fr n0 L ∧ h = h0
theorem own_d_jdk_42_method_154_code_0 : decode jdk_42_method_154_code 0 = .ok (.getstatic 38, 3) := by decide +kernel
theorem own_d_jdk_42_method_154_code_3 : decode jdk_42_method_154_code 3 = .ok (.ifCond .eq 14, 3) := by decide +kernel
theorem own_d_jdk_42_method_154_code_6 : decode jdk_42_method_154_code 6 = .ok (.aload_n 0, 1) := by decide +kernel
theorem own_d_jdk_42_method_154_code_7 : decode jdk_42_method_154_code 7 = .ok (.getfield 15, 3) := by decide +kernel
theorem own_d_jdk_42_method_154_code_10 : decode jdk_42_method_154_code 10 = .ok (.ifCond .ne 7, 3) := by decide +kernel
theorem own_d_jdk_42_method_154_code_13 : decode jdk_42_method_154_code 13 = .ok (.iconst 1, 1) := by decide +kernel
theorem own_d_jdk_42_method_154_code_14 : decode jdk_42_method_154_code 14 = .ok (.goto 4, 3) := by decide +kernel
theorem own_d_jdk_42_method_154_code_18 : decode jdk_42_method_154_code 18 = .ok (.ireturn, 1) := by decide +kernel
set_option maxRecDepth 65536 in
set_option maxHeartbeats 40000000 in
theorem own_rm_lat (l : Launch) (Z : State) (a0 : Array Value) (hw : ∀ d ∈ tables_1, d.before a0 Z = true) (ws : List Jvm.Cond) (a1 : Addr) (G1 : Int32) (h0 : Heap) (n0 : Nat) (Z0 : n0 ≤ h0.size) (SC : Sta Z h0 "java/lang/String" "COMPACT_STRINGS" "Z" (.int G1)) (P5 : ¬ (G1 = (0 : Int32))) (F2 : Fld Z h0 a1 "java/lang/String" "coder" "B" (.int 0)) :
    MetFree l (⟨"java/lang/String", "isLatin1", "()Z"⟩ : MethodName) (head1 (Jvm.Cond.code (⟨"java/lang/String", "isLatin1", "()Z"⟩ : MethodName) jdk_42_method_154_code 1 (some .boolean) :: ws) ({ frames := 0, cells := 0, slots := 0, locals := 0 } : Room)) (fun a U => a = #[(.ref a1)] ∧ Z.Warmed39 U.vm ∧ U.heap = h0) (fun _ _ _ _ _ => True) (fun _ U o U' => ∃ v L, o = .returned v ∧ own_Q_lat Z a1 G1 h0 n0 v U'.heap L ∧ FrameEnd U o U' L ({ frames := 0, cells := 0, slots := 0, locals := 0 } : Room).cells ({ frames := 0, cells := 0, slots := 0, locals := 0 } : Room).slots) := by
  refine MetFree.of_bodySF (plainFor_of_name own_pn_0) hisR ?_
  intro p e s m args below meth c s₁ Bd hml0 hP hK
  obtain ⟨rfl, hZ, hh⟩ := hP
  have hx := Bd.exec
  have hby := Bd.bytes
  have hml : c.maxLocals = 1 := hml0
  have hown : s.vm.findClass "java/lang/String" = some m.cls := findClass_of_methodNamed Bd.named
  have hnm := (name_of_methodNamed Bd.named Bd.method).1
  have X0 : Stand p l e ({ frames := 0, cells := 0, slots := 0, locals := 0 } : Room) s m #[(.ref a1)] below meth c s₁ [] 0 0 := Stand.of_body Bd
  have e0 : s₁.heap = h0 := by rw [← hh, Bd.state]; rfl
  have N0 := Fr.nil n0
  refine own_start (own_ef_lat m a1 ) ?_
  obtain ⟨T1, X1, e1, st1⟩ := getS2 X0 hx hZ hown (host := "") (Or.inl (hw _ (List.mem_of_getElem? (i := 8) rfl))) Via.refl e0 SC (g := (mkF m 0 #[.val (.ref a1)] [])) rfl (Jvm.hb hby own_d_jdk_42_method_154_code_0)
  obtain ⟨T2, X2, e2, st2⟩ := getF X1 hx hZ hown (host := "") (Or.inl (hw _ (List.mem_of_getElem? (i := 28) rfl))) Via.refl e1 F2 (g := (mkF m 7 #[.val (.ref a1)] [(.ref a1)])) rfl rfl (Jvm.hb hby own_d_jdk_42_method_154_code_7)
  refine own_of (T' := T2) (f' := (mkF m 18 #[.val (.ref a1)] [(.int (1 : Int32))])) (fun t_ k_ => (st1 _ (XS.ifNo X1.here hx rfl (Jvm.hb hby own_d_jdk_42_method_154_code_3) rfl ((if0 _ _).trans (feq P5).1) (XS.aloadN X1.here hx rfl (Jvm.hb hby own_d_jdk_42_method_154_code_6) rfl rfl (st2 _ (XS.ifNo X2.here hx rfl (Jvm.hb hby own_d_jdk_42_method_154_code_10) rfl ((if0 _ _).trans (teq rfl).2) (XS.iconst X2.here hx rfl (Jvm.hb hby own_d_jdk_42_method_154_code_13) (XS.goto X2.here hx rfl (pc0 := 14) (pc' := 18) rfl (Jvm.hb hby own_d_jdk_42_method_154_code_14) (by decide) (by decide) k_)))))))) ?_
  obtain ⟨fs, hr, hrun, hended, hW, hsame⟩ := X2.leave (v := some (.int (1 : Int32))) (fun h => by rw [Bd.returns] at h; cases h)
  exact ⟨_, _, retN X2 hx (t := .boolean) Bd.returns (by simp) (Jvm.hb hby own_d_jdk_42_method_154_code_18) hr, hrun, hended, _, _, rfl, (by show own_Q_lat Z a1 G1 h0 n0 _ T2.heap _; rw [e2]; exact ⟨rfl, N0, rfl⟩), ⟨_, rfl⟩, hW, hsame.mono (by decide) (by decide)⟩
theorem own_ef_cha (m : MethodId) (a1 : Addr) (p2 : Int32) : entryFrame m #[(.ref a1), (.int p2)] 2 = mkF m 0 #[.val (.ref a1), .val (.int p2)] [] := by first | (simp [entryFrame, mkF, argsToLocals, Value.category]; done) | rfl
def own_Q_cha (Z : State) (a1 : Addr) (p2 : Int32) (G1 : Int32) (fm : Value) (t : Addr) (k : ClassId) (cs : List Int32) (i : Nat) (h0 : Heap) (n0 : Nat) (v : Option Value) (h : Heap) (L : List Loc) : Prop := v = some (.int (cs.getD i 0)) ∧ Fr n0 L ∧ h = h0
theorem own_d_jdk_42_method_56_code_0 : decode jdk_42_method_56_code 0 = .ok (.aload_n 0, 1) := by decide +kernel
theorem own_d_jdk_42_method_56_code_1 : decode jdk_42_method_56_code 1 = .ok (.invokevirtual 492, 3) := by decide +kernel
theorem own_d_jdk_42_method_56_code_4 : decode jdk_42_method_56_code 4 = .ok (.ifCond .eq 12, 3) := by decide +kernel
theorem own_d_jdk_42_method_56_code_7 : decode jdk_42_method_56_code 7 = .ok (.aload_n 0, 1) := by decide +kernel
theorem own_d_jdk_42_method_56_code_8 : decode jdk_42_method_56_code 8 = .ok (.getfield 9, 3) := by decide +kernel
theorem own_d_jdk_42_method_56_code_11 : decode jdk_42_method_56_code 11 = .ok (.iload_n 1, 1) := by decide +kernel
theorem own_d_jdk_42_method_56_code_12 : decode jdk_42_method_56_code 12 = .ok (.invokestatic 495, 3) := by decide +kernel
theorem own_pd_26 : parseMethodDescriptor "([BI)C" = some ⟨[(.array .byte), .int], some .char⟩ := by decide +kernel
theorem own_d_jdk_42_method_56_code_15 : decode jdk_42_method_56_code 15 = .ok (.ireturn, 1) := by decide +kernel
set_option maxRecDepth 65536 in
set_option maxHeartbeats 40000000 in
theorem own_rm_cha (l : Launch) (Z : State) (a0 : Array Value) (hw : ∀ d ∈ tables_1, d.before a0 Z = true) (ws : List Jvm.Cond) (a1 : Addr) (p2 : Int32) (G1 : Int32) (fm : Value) (t : Addr) (k : ClassId) (cs : List Int32) (i : Nat) (h0 : Heap) (n0 : Nat) (Z0 : n0 ≤ h0.size) (SC : Sta Z h0 "java/lang/String" "COMPACT_STRINGS" "Z" (.int G1)) (P5 : ¬ (G1 = (0 : Int32))) (SF : Sta Z h0 "jdk/internal/util/Preconditions" "SIOOBE_FORMATTER" "Ljava/util/function/BiFunction;" fm) (rfm : fm.isRef = true) (S : own_S Z h0 a1 t k cs) (hi : i < cs.length) (hl : cs.length < 400) (hp2 : p2 = (Int32.ofNat (i))) (hR : ¬ (cs.getD i 0) < 0 ∧ ¬ (255 : Int32) < (cs.getD i 0)) :
    MetFree l (⟨"java/lang/String", "charAt", "(I)C"⟩ : MethodName) (head1 (Jvm.Cond.code (⟨"java/lang/String", "charAt", "(I)C"⟩ : MethodName) jdk_42_method_56_code 2 (some .char) :: ws) ({ frames := 3, cells := 0, slots := 0, locals := 40 } : Room)) (fun a U => a = #[(.ref a1), (.int p2)] ∧ Z.Warmed39 U.vm ∧ U.heap = h0) (fun _ _ _ _ _ => True) (fun _ U o U' => ∃ v L, o = .returned v ∧ own_Q_cha Z a1 p2 G1 fm t k cs i h0 n0 v U'.heap L ∧ FrameEnd U o U' L ({ frames := 3, cells := 0, slots := 0, locals := 40 } : Room).cells ({ frames := 3, cells := 0, slots := 0, locals := 40 } : Room).slots) := by
  refine MetFree.of_bodySF (plainFor_of_name own_pn_0) hisR ?_
  intro p e s m args below meth c s₁ Bd hml0 hP hK
  obtain ⟨rfl, hZ, hh⟩ := hP
  have hx := Bd.exec
  have hby := Bd.bytes
  have hml : c.maxLocals = 2 := hml0
  have hown : s.vm.findClass "java/lang/String" = some m.cls := findClass_of_methodNamed Bd.named
  have hnm := (name_of_methodNamed Bd.named Bd.method).1
  have X0 : Stand p l e ({ frames := 3, cells := 0, slots := 0, locals := 40 } : Room) s m #[(.ref a1), (.int p2)] below meth c s₁ [] 0 0 := Stand.of_body Bd
  have e0 : s₁.heap = h0 := by rw [← hh, Bd.state]; rfl
  have N0 := Fr.nil n0
  refine own_start (own_ef_cha m a1 p2 ) ?_
  refine own_of (T' := s₁) (f' := (mkF m 1 #[.val (.ref a1), .val (.int p2)] [(.ref a1)])) (fun t_ k_ => (XS.aloadN X0.here hx rfl (Jvm.hb hby own_d_jdk_42_method_56_code_0) rfl rfl k_)) ?_
  obtain ⟨cq2, kq2, q2a, q2b, q2c⟩ := isOf hZ e0 S.1
  obtain ⟨_, _, ⟨T1, L1, k1, n1⟩, -, X1, ⟨Lc1, hQ1, l1, y1, z1⟩, st1⟩ := X0.virtualBack hx (y := (⟨"java/lang/String", "isLatin1", "()Z"⟩ : MethodName)) (z := (⟨"java/lang/String", "isLatin1", "()Z"⟩ : MethodName)) hown (mvT hZ (hw _ (List.mem_of_getElem? (i := 209) rfl))) (mvT hZ (hw _ (List.mem_of_getElem? (i := 210) rfl))) (notFace_of_selects (args := #[]) (mvT hZ (hw _ (List.mem_of_getElem? (i := 212) rfl)))) (mvT hZ (hw _ (List.mem_of_getElem? (i := 212) rfl))) (mvT hZ (hw _ (List.mem_of_getElem? (i := 211) rfl))) (by decide) (backOf (W := 0) (own_rm_lat l Z a0 hw [] a1 G1 h0 n0 Z0 SC P5 S.2.2.1) hZ (hw _ (List.mem_of_getElem? (i := 213) rfl)) (hw _ (List.mem_of_getElem? (i := 6) rfl)) (by decide) (by decide)) q2a q2c (g := (mkF m 1 #[.val (.ref a1), .val (.int p2)] [(.ref a1)])) rfl (by rw [hml]; rfl) (Steps.refl _) (argsL := []) (rest := []) (lenOf own_pd_9 rfl) rfl (by show 2 * 0 + _ ≤ _; exact Nat.le_of_eq rfl) (Jvm.hb hby own_d_jdk_42_method_56_code_1) (fun _ _ => ⟨rfl, e0, Nat.le_of_ble_eq_true rfl, Nat.le_of_ble_eq_true rfl⟩)
  dsimp only [Pt.U, Pt.locs, Pt.cells, Pt.slots] at X1 l1 y1 z1 st1 hQ1
  subst y1 z1
  obtain ⟨rfl, N1, e1⟩ := hQ1
  have N3 : Fr n0 L1 := by rw [l1]; exact Fr.app N0 N1
  obtain ⟨T4, X4, e4, st4⟩ := getF X1 hx hZ hown (host := "") (Or.inl (hw _ (List.mem_of_getElem? (i := 26) rfl))) Via.refl e1 S.2.1 (g := (mkF m 8 #[.val (.ref a1), .val (.int p2)] [(.ref a1)])) rfl rfl (Jvm.hb hby own_d_jdk_42_method_56_code_8)
  refine own_of (T' := T4) (f' := (mkF m 12 #[.val (.ref a1), .val (.int p2)] [(.int p2), (.ref t)])) (fun t_ k_ => (st1.trans (XS.ifNo X1.here hx rfl (Jvm.hb hby own_d_jdk_42_method_56_code_4) rfl ((if0 _ _).trans (feq (by decide)).1) (XS.aloadN X1.here hx rfl (Jvm.hb hby own_d_jdk_42_method_56_code_7) rfl rfl (st4 _ (XS.iloadN X4.here hx rfl (Jvm.hb hby own_d_jdk_42_method_56_code_11) rfl k_)))))) ?_
  obtain ⟨_, _, ⟨T5, L5, k5, n5⟩, -, X5, ⟨Lc5, hQ5, l5, y5, z5⟩, st5⟩ := Jvm.LawKit.callS X4 hx (y := (⟨"java/lang/StringLatin1", "charAt", "([BI)C"⟩ : MethodName)) hown (mvT hZ (hw _ (List.mem_of_getElem? (i := 214) rfl))) (mvT hZ (hw _ (List.mem_of_getElem? (i := 215) rfl))) (mvT hZ (hw _ (List.mem_of_getElem? (i := 11) rfl))) (mvT hZ (hw _ (List.mem_of_getElem? (i := 216) rfl))) (by decide) (backOf (W := 0) (own_rm_lch l Z a0 hw [] t p2 fm k cs i h0 n0 Z0 SF rfm S.2.2.2 hi hl hp2 hR) hZ (hw _ (List.mem_of_getElem? (i := 216) rfl)) (hw _ (List.mem_of_getElem? (i := 11) rfl)) (by decide) (by decide)) (g := (mkF m 12 #[.val (.ref a1), .val (.int p2)] [(.int p2), (.ref t)])) rfl (by rw [hml]; rfl) (argsL := [(.ref t), (.int p2)]) (rest := []) (lenOf own_pd_26 rfl) rfl (by show 2 * 0 + _ ≤ _; exact Nat.le_of_eq rfl) (Jvm.hb hby own_d_jdk_42_method_56_code_12) (fun _ _ => ⟨rfl, e4, Nat.le_of_ble_eq_true rfl, Nat.le_of_ble_eq_true rfl⟩)
  dsimp only [Pt.U, Pt.locs, Pt.cells, Pt.slots] at X5 l5 y5 z5 st5 hQ5
  subst y5 z5
  obtain ⟨rfl, N5, e5⟩ := hQ5
  have N6 : Fr n0 L5 := by rw [l5]; exact Fr.app N3 N5
  refine own_of (T' := T5) (f' := (mkF m 15 #[.val (.ref a1), .val (.int p2)] [(.int (cs.getD i 0))])) (fun t_ k_ => (st5 _ k_)) ?_
  have hv := own_nc255 (cs.getD i 0) hR
  obtain ⟨fs, hr, hrun, hended, hW, hsame⟩ := X5.leave (v := some (.int (nar .char (cs.getD i 0)))) (fun h => by rw [Bd.returns] at h; cases h)
  exact ⟨_, _, retN X5 hx (t := .char) Bd.returns (by simp) (Jvm.hb hby own_d_jdk_42_method_56_code_15) hr, hrun, hended, _, _, rfl, (by show own_Q_cha Z a1 p2 G1 fm t k cs i h0 n0 _ T5.heap _; rw [e5]; exact ⟨by rw [hv], N6, rfl⟩), ⟨_, rfl⟩, hW, hsame.mono (by decide) (by decide)⟩
theorem own_ef_leq (m : MethodId) (a1 : Addr) (a2 : Addr) : entryFrame m #[(.ref a1), (.ref a2)] 3 = mkF m 0 #[.val (.ref a1), .val (.ref a2), .unset] [] := by first | (simp [entryFrame, mkF, argsToLocals, Value.category]; done) | rfl
def own_Q_leq (Z : State) (a1 : Addr) (a2 : Addr) (k1 k2 : ClassId) (cs : List Int32) (h0 : Heap) (n0 : Nat) (v : Option Value) (h : Heap) (L : List Loc) : Prop := v = some (.int 1) ∧ Fr n0 L ∧ h = h0
theorem own_d_jdk_43_method_13_code_0 : decode jdk_43_method_13_code 0 = .ok (.aload_n 0, 1) := by decide +kernel
theorem own_d_jdk_43_method_13_code_1 : decode jdk_43_method_13_code 1 = .ok (.arraylength, 1) := by decide +kernel
theorem own_d_jdk_43_method_13_code_2 : decode jdk_43_method_13_code 2 = .ok (.aload_n 1, 1) := by decide +kernel
theorem own_d_jdk_43_method_13_code_3 : decode jdk_43_method_13_code 3 = .ok (.arraylength, 1) := by decide +kernel
theorem own_d_jdk_43_method_13_code_4 : decode jdk_43_method_13_code 4 = .ok (.if_icmp .ne 30, 3) := by decide +kernel
theorem own_d_jdk_43_method_13_code_7 : decode jdk_43_method_13_code 7 = .ok (.iconst 0, 1) := by decide +kernel
theorem own_d_jdk_43_method_13_code_8 : decode jdk_43_method_13_code 8 = .ok (.istore_n 2, 1) := by decide +kernel
theorem own_d_jdk_43_method_13_code_9 : decode jdk_43_method_13_code 9 = .ok (.iload_n 2, 1) := by decide +kernel
theorem own_d_jdk_43_method_13_code_10 : decode jdk_43_method_13_code 10 = .ok (.aload_n 0, 1) := by decide +kernel
theorem own_d_jdk_43_method_13_code_11 : decode jdk_43_method_13_code 11 = .ok (.arraylength, 1) := by decide +kernel
theorem own_d_jdk_43_method_13_code_12 : decode jdk_43_method_13_code 12 = .ok (.if_icmp .ge 20, 3) := by decide +kernel
theorem own_d_jdk_43_method_13_code_32 : decode jdk_43_method_13_code 32 = .ok (.iconst 1, 1) := by decide +kernel
theorem own_d_jdk_43_method_13_code_33 : decode jdk_43_method_13_code 33 = .ok (.ireturn, 1) := by decide +kernel
theorem own_d_jdk_43_method_13_code_15 : decode jdk_43_method_13_code 15 = .ok (.aload_n 0, 1) := by decide +kernel
theorem own_d_jdk_43_method_13_code_16 : decode jdk_43_method_13_code 16 = .ok (.iload_n 2, 1) := by decide +kernel
theorem own_d_jdk_43_method_13_code_17 : decode jdk_43_method_13_code 17 = .ok (.baload, 1) := by decide +kernel
theorem own_d_jdk_43_method_13_code_18 : decode jdk_43_method_13_code 18 = .ok (.aload_n 1, 1) := by decide +kernel
theorem own_d_jdk_43_method_13_code_19 : decode jdk_43_method_13_code 19 = .ok (.iload_n 2, 1) := by decide +kernel
theorem own_d_jdk_43_method_13_code_20 : decode jdk_43_method_13_code 20 = .ok (.baload, 1) := by decide +kernel
theorem own_d_jdk_43_method_13_code_21 : decode jdk_43_method_13_code 21 = .ok (.if_icmp .eq 5, 3) := by decide +kernel
theorem own_d_jdk_43_method_13_code_26 : decode jdk_43_method_13_code 26 = .ok (.iinc 2 1, 3) := by decide +kernel
theorem own_d_jdk_43_method_13_code_29 : decode jdk_43_method_13_code 29 = .ok (.goto (-20), 3) := by decide +kernel
set_option maxRecDepth 65536 in
set_option maxHeartbeats 40000000 in
theorem own_rm_leq (l : Launch) (Z : State) (a0 : Array Value) (hw : ∀ d ∈ tables_1, d.before a0 Z = true) (ws : List Jvm.Cond) (a1 : Addr) (a2 : Addr) (k1 k2 : ClassId) (cs : List Int32) (h0 : Heap) (n0 : Nat) (Z0 : n0 ≤ h0.size) (V1 : Arv Z h0 a1 k1 .byte (Int32.ofNat (cs.length)) (own_by cs) (.int 0)) (V2 : Arv Z h0 a2 k2 .byte (Int32.ofNat (cs.length)) (own_by cs) (.int 0)) (hl : cs.length < 400) :
    MetFree l (⟨"java/lang/StringLatin1", "equals", "([B[B)Z"⟩ : MethodName) (head1 (Jvm.Cond.code (⟨"java/lang/StringLatin1", "equals", "([B[B)Z"⟩ : MethodName) jdk_43_method_13_code 3 (some .boolean) :: ws) ({ frames := 0, cells := 0, slots := 0, locals := 0 } : Room)) (fun a U => a = #[(.ref a1), (.ref a2)] ∧ Z.Warmed39 U.vm ∧ U.heap = h0) (fun _ _ _ _ _ => True) (fun _ U o U' => ∃ v L, o = .returned v ∧ own_Q_leq Z a1 a2 k1 k2 cs h0 n0 v U'.heap L ∧ FrameEnd U o U' L ({ frames := 0, cells := 0, slots := 0, locals := 0 } : Room).cells ({ frames := 0, cells := 0, slots := 0, locals := 0 } : Room).slots) := by
  refine MetFree.of_bodySF (plainFor_of_name own_pn_7) hisR ?_
  intro p e s m args below meth c s₁ Bd hml0 hP hK
  obtain ⟨rfl, hZ, hh⟩ := hP
  have hx := Bd.exec
  have hby := Bd.bytes
  have hml : c.maxLocals = 3 := hml0
  have hown : s.vm.findClass "java/lang/StringLatin1" = some m.cls := findClass_of_methodNamed Bd.named
  have hnm := (name_of_methodNamed Bd.named Bd.method).1
  have X0 : Stand p l e ({ frames := 0, cells := 0, slots := 0, locals := 0 } : Room) s m #[(.ref a1), (.ref a2)] below meth c s₁ [] 0 0 := Stand.of_body Bd
  have e0 : s₁.heap = h0 := by rw [← hh, Bd.state]; rfl
  have N0 := Fr.nil n0
  refine own_start (own_ef_leq m a1 a2 ) ?_
  refine own_of (T' := s₁) (f' := (mkF m 1 #[.val (.ref a1), .val (.ref a2), .unset] [(.ref a1)])) (fun t_ k_ => (XS.aloadN X0.here hx rfl (Jvm.hb hby own_d_jdk_43_method_13_code_0) rfl rfl k_)) ?_
  obtain ⟨cl1, Ar1, -, Sz1, Nn1, -⟩ := id V1
  refine own_of (T' := s₁) (f' := (mkF m 2 #[.val (.ref a1), .val (.ref a2), .unset] [(.int (cl1.slots.size).toInt32)])) (fun t_ k_ => (X0.arraylength hx (by first | (rw [e0]; exact Ar1.1) | exact Ar1.1) (State.isArrayOf_alike hZ.alike Ar1.2.1) (g := (mkF m 1 #[.val (.ref a1), .val (.ref a2), .unset] [(.ref a1)])) rfl rfl (Jvm.hb hby own_d_jdk_43_method_13_code_1) _ k_)) ?_
  rw [len_of Sz1 Nn1]
  refine own_of (T' := s₁) (f' := (mkF m 3 #[.val (.ref a1), .val (.ref a2), .unset] [(.ref a2), (.int (Int32.ofNat (cs.length)))])) (fun t_ k_ => (XS.aloadN X0.here hx rfl (Jvm.hb hby own_d_jdk_43_method_13_code_2) rfl rfl k_)) ?_
  obtain ⟨cl2, Ar2, -, Sz2, Nn2, -⟩ := id V2
  refine own_of (T' := s₁) (f' := (mkF m 4 #[.val (.ref a1), .val (.ref a2), .unset] [(.int (cl2.slots.size).toInt32), (.int (Int32.ofNat (cs.length)))])) (fun t_ k_ => (X0.arraylength hx (by first | (rw [e0]; exact Ar2.1) | exact Ar2.1) (State.isArrayOf_alike hZ.alike Ar2.2.1) (g := (mkF m 3 #[.val (.ref a1), .val (.ref a2), .unset] [(.ref a2), (.int (Int32.ofNat (cs.length)))])) rfl rfl (Jvm.hb hby own_d_jdk_43_method_13_code_3) _ k_)) ?_
  rw [len_of Sz2 Nn2]
  refine own_of (T' := s₁) (f' := (mkF m 9 #[.val (.ref a1), .val (.ref a2), .val (.int (0 : Int32))] [])) (fun t_ k_ => (XS.icmpNo X0.here hx rfl (Jvm.hb hby own_d_jdk_43_method_13_code_4) rfl (teq rfl).2 (XS.iconst X0.here hx rfl (Jvm.hb hby own_d_jdk_43_method_13_code_7) (XS.istoreN X0.here hx rfl (Jvm.hb hby own_d_jdk_43_method_13_code_8) rfl (l' := #[.val (.ref a1), .val (.ref a2), .val (.int (0 : Int32))]) rfl k_)))) ?_
  refine (?_ : ∀ d j, j + d = cs.length → own_Goes p e below _ s₁ (mkF m 9 #[.val (.ref a1), .val (.ref a2), .val (.int (Int32.ofNat j))] [])) cs.length 0 (Nat.zero_add _)
  intro d
  induction d with
  | zero =>
    intro j hj
    refine own_of (T' := s₁) (f' := (mkF m 11 #[.val (.ref a1), .val (.ref a2), .val (.int (Int32.ofNat (j)))] [(.ref a1), (.int (Int32.ofNat (j)))])) (fun t_ k_ => (XS.iloadN X0.here hx rfl (Jvm.hb hby own_d_jdk_43_method_13_code_9) rfl (XS.aloadN X0.here hx rfl (Jvm.hb hby own_d_jdk_43_method_13_code_10) rfl rfl k_))) ?_
    obtain ⟨cl3, Ar3, -, Sz3, Nn3, -⟩ := id V1
    refine own_of (T' := s₁) (f' := (mkF m 12 #[.val (.ref a1), .val (.ref a2), .val (.int (Int32.ofNat (j)))] [(.int (cl3.slots.size).toInt32), (.int (Int32.ofNat (j)))])) (fun t_ k_ => (X0.arraylength hx (by first | (rw [e0]; exact Ar3.1) | exact Ar3.1) (State.isArrayOf_alike hZ.alike Ar3.2.1) (g := (mkF m 11 #[.val (.ref a1), .val (.ref a2), .val (.int (Int32.ofNat (j)))] [(.ref a1), (.int (Int32.ofNat (j)))])) rfl rfl (Jvm.hb hby own_d_jdk_43_method_13_code_11) _ k_)) ?_
    rw [len_of Sz3 Nn3]
    refine own_of (T' := s₁) (f' := (mkF m 33 #[.val (.ref a1), .val (.ref a2), .val (.int (Int32.ofNat (j)))] [(.int (1 : Int32))])) (fun t_ k_ => (XS.icmpYes X0.here hx rfl (pc0 := 12) (pc' := 32) rfl (Jvm.hb hby own_d_jdk_43_method_13_code_12) rfl (flt (fun q => by have := (own_lt _ _ (by omega) (by omega)).mp q; omega)).2.1 (by decide) (by decide) (XS.iconst X0.here hx rfl (Jvm.hb hby own_d_jdk_43_method_13_code_32) k_))) ?_
    obtain ⟨fs, hr, hrun, hended, hW, hsame⟩ := X0.leave (v := some (.int (1 : Int32))) (fun h => by rw [Bd.returns] at h; cases h)
    exact ⟨_, _, retN X0 hx (t := .boolean) Bd.returns (by simp) (Jvm.hb hby own_d_jdk_43_method_13_code_33) hr, hrun, hended, _, _, rfl, (by show own_Q_leq Z a1 a2 k1 k2 cs h0 n0 _ s₁.heap _; rw [e0]; exact ⟨rfl, N0, rfl⟩), ⟨_, rfl⟩, hW, hsame.mono (by decide) (by decide)⟩
  | succ d ih =>
    intro j hj
    refine own_of (T' := s₁) (f' := (mkF m 11 #[.val (.ref a1), .val (.ref a2), .val (.int (Int32.ofNat (j)))] [(.ref a1), (.int (Int32.ofNat (j)))])) (fun t_ k_ => (XS.iloadN X0.here hx rfl (Jvm.hb hby own_d_jdk_43_method_13_code_9) rfl (XS.aloadN X0.here hx rfl (Jvm.hb hby own_d_jdk_43_method_13_code_10) rfl rfl k_))) ?_
    obtain ⟨cl4, Ar4, -, Sz4, Nn4, -⟩ := id V1
    refine own_of (T' := s₁) (f' := (mkF m 12 #[.val (.ref a1), .val (.ref a2), .val (.int (Int32.ofNat (j)))] [(.int (cl4.slots.size).toInt32), (.int (Int32.ofNat (j)))])) (fun t_ k_ => (X0.arraylength hx (by first | (rw [e0]; exact Ar4.1) | exact Ar4.1) (State.isArrayOf_alike hZ.alike Ar4.2.1) (g := (mkF m 11 #[.val (.ref a1), .val (.ref a2), .val (.int (Int32.ofNat (j)))] [(.ref a1), (.int (Int32.ofNat (j)))])) rfl rfl (Jvm.hb hby own_d_jdk_43_method_13_code_11) _ k_)) ?_
    rw [len_of Sz4 Nn4]
    refine own_of (T' := s₁) (f' := (mkF m 17 #[.val (.ref a1), .val (.ref a2), .val (.int (Int32.ofNat (j)))] [(.int (Int32.ofNat (j))), (.ref a1)])) (fun t_ k_ => (XS.icmpNo X0.here hx rfl (Jvm.hb hby own_d_jdk_43_method_13_code_12) rfl (tlt ((own_lt _ _ (by omega) (by omega)).mpr (by omega))).2.1 (XS.aloadN X0.here hx rfl (Jvm.hb hby own_d_jdk_43_method_13_code_15) rfl rfl (XS.iloadN X0.here hx rfl (Jvm.hb hby own_d_jdk_43_method_13_code_16) rfl k_)))) ?_
    obtain ⟨clA, ArA, -, SzA, -, HhA, -⟩ := id V1
    have hinA : ¬ ((Int32.ofNat (j)) < 0 ∨ clA.slots.size ≤ ((Int32.ofNat (j))).toNatClampNeg) := inb_of SzA ⟨own_ng _ (by omega), (own_lt _ _ (by omega) (by omega)).mpr (by omega)⟩
    refine own_of (T' := s₁) (f' := (mkF m 20 #[.val (.ref a1), .val (.ref a2), .val (.int (Int32.ofNat (j)))] [(.int (Int32.ofNat (j))), (.ref a2), (.int (own_lo8 (cs.getD j 0)))])) (fun t_ k_ => (X0.baloadBytes hx (j := (Int32.ofNat (j))) (v := .int (own_lo8 (cs.getD j 0))) (by rw [e0]; exact ArA.1) (State.isArrayOf_alike hZ.alike ArA.2.1) ArA.2.2 hinA (HhA.at hinA (by rw [own_cl _ (by omega)]; exact own_byD cs j (by omega))) (g := (mkF m 17 #[.val (.ref a1), .val (.ref a2), .val (.int (Int32.ofNat (j)))] [(.int (Int32.ofNat (j))), (.ref a1)])) rfl rfl (Jvm.hb hby own_d_jdk_43_method_13_code_17) _ (XS.aloadN X0.here hx rfl (Jvm.hb hby own_d_jdk_43_method_13_code_18) rfl rfl (XS.iloadN X0.here hx rfl (Jvm.hb hby own_d_jdk_43_method_13_code_19) rfl k_)))) ?_
    obtain ⟨clB, ArB, -, SzB, -, HhB, -⟩ := id V2
    have hinB : ¬ ((Int32.ofNat (j)) < 0 ∨ clB.slots.size ≤ ((Int32.ofNat (j))).toNatClampNeg) := inb_of SzB ⟨own_ng _ (by omega), (own_lt _ _ (by omega) (by omega)).mpr (by omega)⟩
    refine own_of (T' := s₁) (f' := (mkF m 9 #[.val (.ref a1), .val (.ref a2), .val (.int ((Int32.ofNat (j)) + (1 : Int32)))] [])) (fun t_ k_ => (X0.baloadBytes hx (j := (Int32.ofNat (j))) (v := .int (own_lo8 (cs.getD j 0))) (by rw [e0]; exact ArB.1) (State.isArrayOf_alike hZ.alike ArB.2.1) ArB.2.2 hinB (HhB.at hinB (by rw [own_cl _ (by omega)]; exact own_byD cs j (by omega))) (g := (mkF m 20 #[.val (.ref a1), .val (.ref a2), .val (.int (Int32.ofNat (j)))] [(.int (Int32.ofNat (j))), (.ref a2), (.int (own_lo8 (cs.getD j 0)))])) rfl rfl (Jvm.hb hby own_d_jdk_43_method_13_code_20) _ (XS.icmpYes X0.here hx rfl (pc0 := 21) (pc' := 26) rfl (Jvm.hb hby own_d_jdk_43_method_13_code_21) rfl (teq rfl).1 (by decide) (by decide) (XS.iinc X0.here hx rfl (Jvm.hb hby own_d_jdk_43_method_13_code_26) rfl (l' := #[.val (.ref a1), .val (.ref a2), .val (.int ((Int32.ofNat (j)) + (1 : Int32)))]) rfl (XS.goto X0.here hx rfl (pc0 := 29) (pc' := 9) rfl (Jvm.hb hby own_d_jdk_43_method_13_code_29) (by decide) (by decide) k_))))) ?_
    rw [(show Int32.ofNat j + (1 : Int32) = Int32.ofNat (j + 1) from own_add j 1)]
    exact ih (j + 1) (by omega)
theorem own_ef_seq (m : MethodId) (a1 : Addr) (a2 : Addr) : entryFrame m #[(.ref a1), (.ref a2)] 3 = mkF m 0 #[.val (.ref a1), .val (.ref a2), .unset] [] := by first | (simp [entryFrame, mkF, argsToLocals, Value.category]; done) | rfl
def own_Q_seq (Z : State) (a1 : Addr) (a2 : Addr) (G1 : Int32) (t1 : Addr) (k1 : ClassId) (cs1 : List Int32) (t2 : Addr) (k2 : ClassId) (h0 : Heap) (n0 : Nat) (v : Option Value) (h : Heap) (L : List Loc) : Prop := v = some (.int 1) ∧ Fr n0 L ∧ h = h0
theorem own_d_jdk_42_method_66_code_0 : decode jdk_42_method_66_code 0 = .ok (.aload_n 0, 1) := by decide +kernel
theorem own_d_jdk_42_method_66_code_1 : decode jdk_42_method_66_code 1 = .ok (.aload_n 1, 1) := by decide +kernel
theorem own_d_jdk_42_method_66_code_2 : decode jdk_42_method_66_code 2 = .ok (.if_acmp .ne 5, 3) := by decide +kernel
theorem own_d_jdk_42_method_66_code_5 : decode jdk_42_method_66_code 5 = .ok (.iconst 1, 1) := by decide +kernel
theorem own_d_jdk_42_method_66_code_6 : decode jdk_42_method_66_code 6 = .ok (.ireturn, 1) := by decide +kernel
theorem own_d_jdk_42_method_66_code_7 : decode jdk_42_method_66_code 7 = .ok (.aload_n 1, 1) := by decide +kernel
theorem own_d_jdk_42_method_66_code_8 : decode jdk_42_method_66_code 8 = .ok (.instanceof 10, 3) := by decide +kernel
theorem own_d_jdk_42_method_66_code_11 : decode jdk_42_method_66_code 11 = .ok (.ifCond .eq 43, 3) := by decide +kernel
theorem own_d_jdk_42_method_66_code_14 : decode jdk_42_method_66_code 14 = .ok (.aload_n 1, 1) := by decide +kernel
theorem own_d_jdk_42_method_66_code_15 : decode jdk_42_method_66_code 15 = .ok (.checkcast 10, 3) := by decide +kernel
theorem own_d_jdk_42_method_66_code_18 : decode jdk_42_method_66_code 18 = .ok (.astore_n 2, 1) := by decide +kernel
theorem own_d_jdk_42_method_66_code_19 : decode jdk_42_method_66_code 19 = .ok (.getstatic 38, 3) := by decide +kernel
theorem own_d_jdk_42_method_66_code_22 : decode jdk_42_method_66_code 22 = .ok (.ifCond .eq 14, 3) := by decide +kernel
theorem own_d_jdk_42_method_66_code_25 : decode jdk_42_method_66_code 25 = .ok (.aload_n 0, 1) := by decide +kernel
theorem own_d_jdk_42_method_66_code_26 : decode jdk_42_method_66_code 26 = .ok (.getfield 15, 3) := by decide +kernel
theorem own_d_jdk_42_method_66_code_29 : decode jdk_42_method_66_code 29 = .ok (.aload_n 2, 1) := by decide +kernel
theorem own_d_jdk_42_method_66_code_30 : decode jdk_42_method_66_code 30 = .ok (.getfield 15, 3) := by decide +kernel
theorem own_d_jdk_42_method_66_code_33 : decode jdk_42_method_66_code 33 = .ok (.if_icmp .ne 21, 3) := by decide +kernel
theorem own_d_jdk_42_method_66_code_36 : decode jdk_42_method_66_code 36 = .ok (.aload_n 0, 1) := by decide +kernel
theorem own_d_jdk_42_method_66_code_37 : decode jdk_42_method_66_code 37 = .ok (.getfield 9, 3) := by decide +kernel
theorem own_d_jdk_42_method_66_code_40 : decode jdk_42_method_66_code 40 = .ok (.aload_n 2, 1) := by decide +kernel
theorem own_d_jdk_42_method_66_code_41 : decode jdk_42_method_66_code 41 = .ok (.getfield 9, 3) := by decide +kernel
theorem own_d_jdk_42_method_66_code_44 : decode jdk_42_method_66_code 44 = .ok (.invokestatic 541, 3) := by decide +kernel
theorem own_pd_27 : parseMethodDescriptor "([B[B)Z" = some ⟨[(.array .byte), (.array .byte)], some .boolean⟩ := by decide +kernel
theorem own_d_jdk_42_method_66_code_47 : decode jdk_42_method_66_code 47 = .ok (.ifCond .eq 7, 3) := by decide +kernel
theorem own_d_jdk_42_method_66_code_50 : decode jdk_42_method_66_code 50 = .ok (.iconst 1, 1) := by decide +kernel
theorem own_d_jdk_42_method_66_code_51 : decode jdk_42_method_66_code 51 = .ok (.goto 4, 3) := by decide +kernel
theorem own_d_jdk_42_method_66_code_55 : decode jdk_42_method_66_code 55 = .ok (.ireturn, 1) := by decide +kernel
set_option maxRecDepth 65536 in
set_option maxHeartbeats 40000000 in
theorem own_rm_seq (l : Launch) (Z : State) (a0 : Array Value) (hw : ∀ d ∈ tables_1, d.before a0 Z = true) (ws : List Jvm.Cond) (a1 : Addr) (a2 : Addr) (G1 : Int32) (t1 : Addr) (k1 : ClassId) (cs1 : List Int32) (t2 : Addr) (k2 : ClassId) (h0 : Heap) (n0 : Nat) (Z0 : n0 ≤ h0.size) (SC : Sta Z h0 "java/lang/String" "COMPACT_STRINGS" "Z" (.int G1)) (P5 : ¬ (G1 = (0 : Int32))) (S1 : own_S Z h0 a1 t1 k1 cs1) (S2 : own_S Z h0 a2 t2 k2 cs1) (hl : cs1.length < 400) :
    MetFree l (⟨"java/lang/String", "equals", "(Ljava/lang/Object;)Z"⟩ : MethodName) (head1 (Jvm.Cond.code (⟨"java/lang/String", "equals", "(Ljava/lang/Object;)Z"⟩ : MethodName) jdk_42_method_66_code 3 (some .boolean) :: ws) ({ frames := 1, cells := 0, slots := 0, locals := 14 } : Room)) (fun a U => a = #[(.ref a1), (.ref a2)] ∧ Z.Warmed39 U.vm ∧ U.heap = h0) (fun _ _ _ _ _ => True) (fun _ U o U' => ∃ v L, o = .returned v ∧ own_Q_seq Z a1 a2 G1 t1 k1 cs1 t2 k2 h0 n0 v U'.heap L ∧ FrameEnd U o U' L ({ frames := 1, cells := 0, slots := 0, locals := 14 } : Room).cells ({ frames := 1, cells := 0, slots := 0, locals := 14 } : Room).slots) := by
  refine MetFree.of_bodySF (plainFor_of_name own_pn_0) hisR ?_
  intro p e s m args below meth c s₁ Bd hml0 hP hK
  obtain ⟨rfl, hZ, hh⟩ := hP
  have hx := Bd.exec
  have hby := Bd.bytes
  have hml : c.maxLocals = 3 := hml0
  have hown : s.vm.findClass "java/lang/String" = some m.cls := findClass_of_methodNamed Bd.named
  have hnm := (name_of_methodNamed Bd.named Bd.method).1
  have X0 : Stand p l e ({ frames := 1, cells := 0, slots := 0, locals := 14 } : Room) s m #[(.ref a1), (.ref a2)] below meth c s₁ [] 0 0 := Stand.of_body Bd
  have e0 : s₁.heap = h0 := by rw [← hh, Bd.state]; rfl
  have N0 := Fr.nil n0
  refine own_start (own_ef_seq m a1 a2 ) ?_
  refine own_of (T' := s₁) (f' := (mkF m 2 #[.val (.ref a1), .val (.ref a2), .unset] [(.ref a2), (.ref a1)])) (fun t_ k_ => (XS.aloadN X0.here hx rfl (Jvm.hb hby own_d_jdk_42_method_66_code_0) rfl rfl (XS.aloadN X0.here hx rfl (Jvm.hb hby own_d_jdk_42_method_66_code_1) rfl rfl k_))) ?_
  by_cases heq : a1 = a2
  · skip
    refine own_of (T' := s₁) (f' := (mkF m 6 #[.val (.ref a1), .val (.ref a2), .unset] [(.int (1 : Int32))])) (fun t_ k_ => (Jvm.RoadKit.acmp (g := (mkF m 2 #[.val (.ref a1), .val (.ref a2), .unset] [(.ref a2), (.ref a1)])) X0 hx rfl rfl rfl (pc0 := 2) (pc' := 5) (same := true) rfl (Jvm.hb hby own_d_jdk_42_method_66_code_2) rfl (decide_eq_true (congrArg Value.ref heq)) (by decide) (by decide) (XS.iconst X0.here hx rfl (Jvm.hb hby own_d_jdk_42_method_66_code_5) k_))) ?_
    obtain ⟨fs, hr, hrun, hended, hW, hsame⟩ := X0.leave (v := some (.int (1 : Int32))) (fun h => by rw [Bd.returns] at h; cases h)
    exact ⟨_, _, retN X0 hx (t := .boolean) Bd.returns (by simp) (Jvm.hb hby own_d_jdk_42_method_66_code_6) hr, hrun, hended, _, _, rfl, (by show own_Q_seq Z a1 a2 G1 t1 k1 cs1 t2 k2 h0 n0 _ s₁.heap _; rw [e0]; exact ⟨rfl, N0, rfl⟩), ⟨_, rfl⟩, hW, hsame.mono (by decide) (by decide)⟩
  · skip
    obtain ⟨T1, X1, e1, st1⟩ := instY X0 hx hZ hown (hw _ (List.mem_of_getElem? (i := 13) rfl)) e0 (Ins.self S2.1) (g := (mkF m 8 #[.val (.ref a1), .val (.ref a2), .unset] [(.ref a2)])) rfl rfl (Jvm.hb hby own_d_jdk_42_method_66_code_8)
    obtain ⟨T2, X2, e2, st2⟩ := castY X1 hx hZ hown (hw _ (List.mem_of_getElem? (i := 13) rfl)) e1 (Ins.self S2.1) (g := (mkF m 15 #[.val (.ref a1), .val (.ref a2), .unset] [(.ref a2)])) rfl rfl (Jvm.hb hby own_d_jdk_42_method_66_code_15)
    obtain ⟨T3, X3, e3, st3⟩ := getS2 X2 hx hZ hown (host := "") (Or.inl (hw _ (List.mem_of_getElem? (i := 8) rfl))) Via.refl e2 SC (g := (mkF m 19 #[.val (.ref a1), .val (.ref a2), .val (.ref a2)] [])) rfl (Jvm.hb hby own_d_jdk_42_method_66_code_19)
    refine own_of (T' := T3) (f' := (mkF m 22 #[.val (.ref a1), .val (.ref a2), .val (.ref a2)] [(.int G1)])) (fun t_ k_ => (Jvm.RoadKit.acmp (g := (mkF m 2 #[.val (.ref a1), .val (.ref a2), .unset] [(.ref a2), (.ref a1)])) X0 hx rfl rfl rfl (pc0 := 2) (pc' := 7) (same := false) rfl (Jvm.hb hby own_d_jdk_42_method_66_code_2) rfl (decide_eq_false fun q => heq (Value.ref.inj q)) (by decide) (by decide) (XS.aloadN X0.here hx rfl (Jvm.hb hby own_d_jdk_42_method_66_code_7) rfl rfl (st1 _ (XS.ifNo X1.here hx rfl (Jvm.hb hby own_d_jdk_42_method_66_code_11) rfl ((if0 _ _).trans (feq (by decide)).1) (XS.aloadN X1.here hx rfl (Jvm.hb hby own_d_jdk_42_method_66_code_14) rfl rfl (st2 _ (XS.astoreN X2.here hx rfl (Jvm.hb hby own_d_jdk_42_method_66_code_18) rfl rfl (l' := #[.val (.ref a1), .val (.ref a2), .val (.ref a2)]) rfl (st3 _ k_))))))))) ?_
    obtain ⟨T4, X4, e4, st4⟩ := getF X3 hx hZ hown (host := "") (Or.inl (hw _ (List.mem_of_getElem? (i := 28) rfl))) Via.refl e3 S1.2.2.1 (g := (mkF m 26 #[.val (.ref a1), .val (.ref a2), .val (.ref a2)] [(.ref a1)])) rfl rfl (Jvm.hb hby own_d_jdk_42_method_66_code_26)
    obtain ⟨T5, X5, e5, st5⟩ := getF X4 hx hZ hown (host := "") (Or.inl (hw _ (List.mem_of_getElem? (i := 28) rfl))) Via.refl e4 S2.2.2.1 (g := (mkF m 30 #[.val (.ref a1), .val (.ref a2), .val (.ref a2)] [(.ref a2), (.int (0 : Int32))])) rfl rfl (Jvm.hb hby own_d_jdk_42_method_66_code_30)
    obtain ⟨T6, X6, e6, st6⟩ := getF X5 hx hZ hown (host := "") (Or.inl (hw _ (List.mem_of_getElem? (i := 26) rfl))) Via.refl e5 S1.2.1 (g := (mkF m 37 #[.val (.ref a1), .val (.ref a2), .val (.ref a2)] [(.ref a1)])) rfl rfl (Jvm.hb hby own_d_jdk_42_method_66_code_37)
    refine own_of (T' := T6) (f' := (mkF m 40 #[.val (.ref a1), .val (.ref a2), .val (.ref a2)] [(.ref t1)])) (fun t_ k_ => (XS.ifNo X3.here hx rfl (Jvm.hb hby own_d_jdk_42_method_66_code_22) rfl ((if0 _ _).trans (feq P5).1) (XS.aloadN X3.here hx rfl (Jvm.hb hby own_d_jdk_42_method_66_code_25) rfl rfl (st4 _ (XS.aloadN X4.here hx rfl (Jvm.hb hby own_d_jdk_42_method_66_code_29) rfl rfl (st5 _ (XS.icmpNo X5.here hx rfl (Jvm.hb hby own_d_jdk_42_method_66_code_33) rfl (teq rfl).2 (XS.aloadN X5.here hx rfl (Jvm.hb hby own_d_jdk_42_method_66_code_36) rfl rfl (st6 _ k_))))))))) ?_
    obtain ⟨T7, X7, e7, st7⟩ := getF X6 hx hZ hown (host := "") (Or.inl (hw _ (List.mem_of_getElem? (i := 26) rfl))) Via.refl e6 S2.2.1 (g := (mkF m 41 #[.val (.ref a1), .val (.ref a2), .val (.ref a2)] [(.ref a2), (.ref t1)])) rfl rfl (Jvm.hb hby own_d_jdk_42_method_66_code_41)
    refine own_of (T' := T7) (f' := (mkF m 44 #[.val (.ref a1), .val (.ref a2), .val (.ref a2)] [(.ref t2), (.ref t1)])) (fun t_ k_ => (XS.aloadN X6.here hx rfl (Jvm.hb hby own_d_jdk_42_method_66_code_40) rfl rfl (st7 _ k_))) ?_
    obtain ⟨_, _, ⟨T8, L8, k8, n8⟩, -, X8, ⟨Lc8, hQ8, l8, y8, z8⟩, st8⟩ := Jvm.LawKit.callS X7 hx (y := (⟨"java/lang/StringLatin1", "equals", "([B[B)Z"⟩ : MethodName)) hown (mvT hZ (hw _ (List.mem_of_getElem? (i := 197) rfl))) (mvT hZ (hw _ (List.mem_of_getElem? (i := 198) rfl))) (mvT hZ (hw _ (List.mem_of_getElem? (i := 11) rfl))) (mvT hZ (hw _ (List.mem_of_getElem? (i := 199) rfl))) (by decide) (backOf (W := 0) (own_rm_leq l Z a0 hw [] t1 t2 k1 k2 cs1 h0 n0 Z0 S1.2.2.2 S2.2.2.2 hl) hZ (hw _ (List.mem_of_getElem? (i := 199) rfl)) (hw _ (List.mem_of_getElem? (i := 11) rfl)) (by decide) (by decide)) (g := (mkF m 44 #[.val (.ref a1), .val (.ref a2), .val (.ref a2)] [(.ref t2), (.ref t1)])) rfl (by rw [hml]; rfl) (argsL := [(.ref t1), (.ref t2)]) (rest := []) (lenOf own_pd_27 rfl) rfl (by show 2 * 0 + _ ≤ _; exact Nat.le_of_eq rfl) (Jvm.hb hby own_d_jdk_42_method_66_code_44) (fun _ _ => ⟨rfl, e7, Nat.le_of_ble_eq_true rfl, Nat.le_of_ble_eq_true rfl⟩)
    dsimp only [Pt.U, Pt.locs, Pt.cells, Pt.slots] at X8 l8 y8 z8 st8 hQ8
    subst y8 z8
    obtain ⟨rfl, N8, e8⟩ := hQ8
    have N9 : Fr n0 L8 := by rw [l8]; exact Fr.app N0 N8
    refine own_of (T' := T8) (f' := (mkF m 55 #[.val (.ref a1), .val (.ref a2), .val (.ref a2)] [(.int (1 : Int32))])) (fun t_ k_ => (st8 _ (XS.ifNo X8.here hx rfl (Jvm.hb hby own_d_jdk_42_method_66_code_47) rfl ((if0 _ _).trans (feq (by decide)).1) (XS.iconst X8.here hx rfl (Jvm.hb hby own_d_jdk_42_method_66_code_50) (XS.goto X8.here hx rfl (pc0 := 51) (pc' := 55) rfl (Jvm.hb hby own_d_jdk_42_method_66_code_51) (by decide) (by decide) k_))))) ?_
    obtain ⟨fs, hr, hrun, hended, hW, hsame⟩ := X8.leave (v := some (.int (1 : Int32))) (fun h => by rw [Bd.returns] at h; cases h)
    exact ⟨_, _, retN X8 hx (t := .boolean) Bd.returns (by simp) (Jvm.hb hby own_d_jdk_42_method_66_code_55) hr, hrun, hended, _, _, rfl, (by show own_Q_seq Z a1 a2 G1 t1 k1 cs1 t2 k2 h0 n0 _ T8.heap _; rw [e8]; exact ⟨rfl, N9, rfl⟩), ⟨_, rfl⟩, hW, hsame.mono (by decide) (by decide)⟩
theorem own_ef_len (m : MethodId) (u : Value) (hv_u : u.isRef = true) : entryFrame m #[u] 1 = mkF m 0 #[.val u] [] := by
  simp [entryFrame, mkF, argsToLocals, own_cR, own_cN, own_cI, own_cat1 hv_u]
def own_Q_len (Z : State) (u : Value) (cs : List Int32) (h0 : Heap) (n0 : Nat) (v : Option Value) (h : Heap) (L : List Loc) : Prop := v = some (.int (Int32.ofNat (cs.length))) ∧ Fr n0 L ∧ h = h0
theorem own_d_method_3_code_0 : decode method_3_code 0 = .ok (.aload_n 0, 1) := by decide +kernel
theorem own_d_method_3_code_1 : decode method_3_code 1 = .ok (.ifnonnull 7, 3) := by decide +kernel
theorem own_d_method_3_code_4 : decode method_3_code 4 = .ok (.iconst 4, 1) := by decide +kernel
theorem own_d_method_3_code_5 : decode method_3_code 5 = .ok (.goto 4, 3) := by decide +kernel
theorem own_d_method_3_code_9 : decode method_3_code 9 = .ok (.ireturn, 1) := by decide +kernel
theorem own_d_method_3_code_8 : decode method_3_code 8 = .ok (.iconst 1, 1) := by decide +kernel
set_option maxRecDepth 65536 in
set_option maxHeartbeats 40000000 in
theorem own_rm_len (l : Launch) (Z : State) (a0 : Array Value) (hw : ∀ d ∈ tables_1, d.before a0 Z = true) (ws : List Jvm.Cond) (u : Value) (cs : List Int32) (h0 : Heap) (n0 : Nat) (Z0 : n0 ≤ h0.size) (hP : own_P Z h0 u cs) :
    MetFree l (⟨"com/example/austere_auth/austereauth/grant/TokenRequestToStringPinLaw", "len", "(Ljava/lang/String;)I"⟩ : MethodName) (head1 (Jvm.Cond.code (⟨"com/example/austere_auth/austereauth/grant/TokenRequestToStringPinLaw", "len", "(Ljava/lang/String;)I"⟩ : MethodName) method_3_code 1 (some .int) :: ws) ({ frames := 0, cells := 0, slots := 0, locals := 0 } : Room)) (fun a U => a = #[u] ∧ Z.Warmed39 U.vm ∧ U.heap = h0) (fun _ _ _ _ _ => True) (fun _ U o U' => ∃ v L, o = .returned v ∧ own_Q_len Z u cs h0 n0 v U'.heap L ∧ FrameEnd U o U' L ({ frames := 0, cells := 0, slots := 0, locals := 0 } : Room).cells ({ frames := 0, cells := 0, slots := 0, locals := 0 } : Room).slots) := by
  refine MetFree.of_bodySF (plainFor_of_name own_pn_8) hisR ?_
  intro p e s m args below meth c s₁ Bd hml0 hP hK
  obtain ⟨rfl, hZ, hh⟩ := hP
  have hx := Bd.exec
  have hby := Bd.bytes
  have hml : c.maxLocals = 1 := hml0
  have hown : s.vm.findClass "com/example/austere_auth/austereauth/grant/TokenRequestToStringPinLaw" = some m.cls := findClass_of_methodNamed Bd.named
  have hnm := (name_of_methodNamed Bd.named Bd.method).1
  have X0 : Stand p l e ({ frames := 0, cells := 0, slots := 0, locals := 0 } : Room) s m #[u] below meth c s₁ [] 0 0 := Stand.of_body Bd
  have e0 : s₁.heap = h0 := by rw [← hh, Bd.state]; rfl
  have N0 := Fr.nil n0
  refine own_start (own_ef_len m u ((own_O_ref (own_P_O hP)).1)) ?_
  rcases hP with ⟨rfl, rfl⟩ | ⟨a2, t, kt, x, rfl, S, rfl, rx⟩
  · skip
    refine own_of (T' := s₁) (f' := (mkF m 9 #[.val .null] [(.int (4 : Int32))])) (fun t_ k_ => (XS.aloadN X0.here hx rfl (Jvm.hb hby own_d_method_3_code_0) rfl rfl (XS.ifnonnullNo X0.here hx rfl (Jvm.hb hby own_d_method_3_code_1) rfl (XS.iconst X0.here hx rfl (Jvm.hb hby own_d_method_3_code_4) (XS.goto X0.here hx rfl (pc0 := 5) (pc' := 9) rfl (Jvm.hb hby own_d_method_3_code_5) (by decide) (by decide) k_))))) ?_
    obtain ⟨fs, hr, hrun, hended, hW, hsame⟩ := X0.leave (v := some (.int (4 : Int32))) (fun h => by rw [Bd.returns] at h; cases h)
    exact ⟨_, _, own_retI X0 hx Bd.returns (Jvm.hb hby own_d_method_3_code_9) hr, hrun, hended, _, _, rfl, (by show own_Q_len Z (.null) own_nul h0 n0 _ s₁.heap _; rw [e0]; exact ⟨rfl, N0, rfl⟩), ⟨_, rfl⟩, hW, hsame.mono (by decide) (by decide)⟩
  · skip
    refine own_of (T' := s₁) (f' := (mkF m 9 #[.val (.ref a2)] [(.int (1 : Int32))])) (fun t_ k_ => (XS.aloadN X0.here hx rfl (Jvm.hb hby own_d_method_3_code_0) rfl rfl (XS.ifnonnullYes X0.here hx rfl (pc0 := 1) (pc' := 8) rfl (Jvm.hb hby own_d_method_3_code_1) rfl (by decide) (by decide) (XS.iconst X0.here hx rfl (Jvm.hb hby own_d_method_3_code_8) k_)))) ?_
    obtain ⟨fs, hr, hrun, hended, hW, hsame⟩ := X0.leave (v := some (.int (1 : Int32))) (fun h => by rw [Bd.returns] at h; cases h)
    exact ⟨_, _, own_retI X0 hx Bd.returns (Jvm.hb hby own_d_method_3_code_9) hr, hrun, hended, _, _, rfl, (by show own_Q_len Z (.ref a2) [x] h0 n0 _ s₁.heap _; rw [e0]; exact ⟨rfl, N0, rfl⟩), ⟨_, rfl⟩, hW, hsame.mono (by decide) (by decide)⟩
theorem own_ef_fir (m : MethodId) (u : Value) (hv_u : u.isRef = true) : entryFrame m #[u] 1 = mkF m 0 #[.val u] [] := by
  simp [entryFrame, mkF, argsToLocals, own_cR, own_cN, own_cI, own_cat1 hv_u]
def own_Q_fir (Z : State) (u : Value) (G1 : Int32) (fm : Value) (cs : List Int32) (h0 : Heap) (n0 : Nat) (v : Option Value) (h : Heap) (L : List Loc) : Prop := v = some (.int (cs.getD 0 0)) ∧ Fr n0 L ∧ h = h0
theorem own_d_method_4_code_0 : decode method_4_code 0 = .ok (.aload_n 0, 1) := by decide +kernel
theorem own_d_method_4_code_1 : decode method_4_code 1 = .ok (.ifnonnull 8, 3) := by decide +kernel
theorem own_d_method_4_code_4 : decode method_4_code 4 = .ok (.bipush 110, 2) := by decide +kernel
theorem own_d_method_4_code_6 : decode method_4_code 6 = .ok (.goto 8, 3) := by decide +kernel
theorem own_d_method_4_code_14 : decode method_4_code 14 = .ok (.ireturn, 1) := by decide +kernel
theorem own_d_method_4_code_9 : decode method_4_code 9 = .ok (.aload_n 0, 1) := by decide +kernel
theorem own_d_method_4_code_10 : decode method_4_code 10 = .ok (.iconst 0, 1) := by decide +kernel
theorem own_d_method_4_code_11 : decode method_4_code 11 = .ok (.invokevirtual 13, 3) := by decide +kernel
theorem own_pd_28 : parseMethodDescriptor "(I)C" = some ⟨[.int], some .char⟩ := by decide +kernel
set_option maxRecDepth 65536 in
set_option maxHeartbeats 40000000 in
theorem own_rm_fir (l : Launch) (Z : State) (a0 : Array Value) (hw : ∀ d ∈ tables_1, d.before a0 Z = true) (ws : List Jvm.Cond) (u : Value) (G1 : Int32) (fm : Value) (cs : List Int32) (h0 : Heap) (n0 : Nat) (Z0 : n0 ≤ h0.size) (SC : Sta Z h0 "java/lang/String" "COMPACT_STRINGS" "Z" (.int G1)) (P5 : ¬ (G1 = (0 : Int32))) (SF : Sta Z h0 "jdk/internal/util/Preconditions" "SIOOBE_FORMATTER" "Ljava/util/function/BiFunction;" fm) (rfm : fm.isRef = true) (hP : own_P Z h0 u cs) :
    MetFree l (⟨"com/example/austere_auth/austereauth/grant/TokenRequestToStringPinLaw", "first", "(Ljava/lang/String;)C"⟩ : MethodName) (head1 (Jvm.Cond.code (⟨"com/example/austere_auth/austereauth/grant/TokenRequestToStringPinLaw", "first", "(Ljava/lang/String;)C"⟩ : MethodName) method_4_code 1 (some .char) :: ws) ({ frames := 4, cells := 0, slots := 0, locals := 53 } : Room)) (fun a U => a = #[u] ∧ Z.Warmed39 U.vm ∧ U.heap = h0) (fun _ _ _ _ _ => True) (fun _ U o U' => ∃ v L, o = .returned v ∧ own_Q_fir Z u G1 fm cs h0 n0 v U'.heap L ∧ FrameEnd U o U' L ({ frames := 4, cells := 0, slots := 0, locals := 53 } : Room).cells ({ frames := 4, cells := 0, slots := 0, locals := 53 } : Room).slots) := by
  refine MetFree.of_bodySF (plainFor_of_name own_pn_8) hisR ?_
  intro p e s m args below meth c s₁ Bd hml0 hP hK
  obtain ⟨rfl, hZ, hh⟩ := hP
  have hx := Bd.exec
  have hby := Bd.bytes
  have hml : c.maxLocals = 1 := hml0
  have hown : s.vm.findClass "com/example/austere_auth/austereauth/grant/TokenRequestToStringPinLaw" = some m.cls := findClass_of_methodNamed Bd.named
  have hnm := (name_of_methodNamed Bd.named Bd.method).1
  have X0 : Stand p l e ({ frames := 4, cells := 0, slots := 0, locals := 53 } : Room) s m #[u] below meth c s₁ [] 0 0 := Stand.of_body Bd
  have e0 : s₁.heap = h0 := by rw [← hh, Bd.state]; rfl
  have N0 := Fr.nil n0
  refine own_start (own_ef_fir m u ((own_O_ref (own_P_O hP)).1)) ?_
  rcases hP with ⟨rfl, rfl⟩ | ⟨a2, t, kt, x, rfl, S, rfl, rx⟩
  · skip
    refine own_of (T' := s₁) (f' := (mkF m 14 #[.val .null] [(.int (110 : Int32))])) (fun t_ k_ => (XS.aloadN X0.here hx rfl (Jvm.hb hby own_d_method_4_code_0) rfl rfl (XS.ifnonnullNo X0.here hx rfl (Jvm.hb hby own_d_method_4_code_1) rfl (XS.bipush X0.here hx rfl (Jvm.hb hby own_d_method_4_code_4) (XS.goto X0.here hx rfl (pc0 := 6) (pc' := 14) rfl (Jvm.hb hby own_d_method_4_code_6) (by decide) (by decide) k_))))) ?_
    obtain ⟨fs, hr, hrun, hended, hW, hsame⟩ := X0.leave (v := some (.int (nar .char (110 : Int32)))) (fun h => by rw [Bd.returns] at h; cases h)
    exact ⟨_, _, retN X0 hx (t := .char) Bd.returns (by simp) (Jvm.hb hby own_d_method_4_code_14) hr, hrun, hended, _, _, rfl, (by show own_Q_fir Z (.null) G1 fm own_nul h0 n0 _ s₁.heap _; rw [e0]; exact ⟨by decide, N0, rfl⟩), ⟨_, rfl⟩, hW, hsame.mono (by decide) (by decide)⟩
  · skip
    refine own_of (T' := s₁) (f' := (mkF m 11 #[.val (.ref a2)] [(.int (0 : Int32)), (.ref a2)])) (fun t_ k_ => (XS.aloadN X0.here hx rfl (Jvm.hb hby own_d_method_4_code_0) rfl rfl (XS.ifnonnullYes X0.here hx rfl (pc0 := 1) (pc' := 9) rfl (Jvm.hb hby own_d_method_4_code_1) rfl (by decide) (by decide) (XS.aloadN X0.here hx rfl (Jvm.hb hby own_d_method_4_code_9) rfl rfl (XS.iconst X0.here hx rfl (Jvm.hb hby own_d_method_4_code_10) k_))))) ?_
    obtain ⟨cq2, kq2, q2a, q2b, q2c⟩ := isOf hZ e0 S.1
    obtain ⟨_, _, ⟨T1, L1, k1, n1⟩, -, X1, ⟨Lc1, hQ1, l1, y1, z1⟩, st1⟩ := X0.virtualBack hx (y := (⟨"java/lang/String", "charAt", "(I)C"⟩ : MethodName)) (z := (⟨"java/lang/String", "charAt", "(I)C"⟩ : MethodName)) hown (mvT hZ (hw _ (List.mem_of_getElem? (i := 204) rfl))) (mvT hZ (hw _ (List.mem_of_getElem? (i := 205) rfl))) (notFace_of_selects (args := #[]) (mvT hZ (hw _ (List.mem_of_getElem? (i := 207) rfl)))) (mvT hZ (hw _ (List.mem_of_getElem? (i := 207) rfl))) (mvT hZ (hw _ (List.mem_of_getElem? (i := 206) rfl))) (by decide) (backOf (W := 0) (own_rm_cha l Z a0 hw [] a2 (0 : Int32) G1 fm t kt [x] 0 h0 n0 Z0 SC P5 SF rfm S (Nat.le_of_ble_eq_true rfl) (Nat.le_of_ble_eq_true rfl) rfl rx) hZ (hw _ (List.mem_of_getElem? (i := 208) rfl)) (hw _ (List.mem_of_getElem? (i := 6) rfl)) (by decide) (by decide)) q2a q2c (g := (mkF m 11 #[.val (.ref a2)] [(.int (0 : Int32)), (.ref a2)])) rfl (by rw [hml]; rfl) (Steps.refl _) (argsL := [(.int (0 : Int32))]) (rest := []) (lenOf own_pd_28 rfl) rfl (by show 2 * 0 + _ ≤ _; exact Nat.le_of_eq rfl) (Jvm.hb hby own_d_method_4_code_11) (fun _ _ => ⟨rfl, e0, Nat.le_of_ble_eq_true rfl, Nat.le_of_ble_eq_true rfl⟩)
    dsimp only [Pt.U, Pt.locs, Pt.cells, Pt.slots] at X1 l1 y1 z1 st1 hQ1
    subst y1 z1
    obtain ⟨rfl, N1, e1⟩ := hQ1
    have N3 : Fr n0 L1 := by rw [l1]; exact Fr.app N0 N1
    refine own_of (T' := T1) (f' := (mkF m 14 #[.val (.ref a2)] [(.int (([x] : List Int32).getD 0 0))])) (fun t_ k_ => (st1.trans k_)) ?_
    have hv : nar .char (([x] : List Int32).getD 0 0) = ([x] : List Int32).getD 0 0 := own_nc255 x rx
    obtain ⟨fs, hr, hrun, hended, hW, hsame⟩ := X1.leave (v := some (.int (nar .char (([x] : List Int32).getD 0 0)))) (fun h => by rw [Bd.returns] at h; cases h)
    exact ⟨_, _, retN X1 hx (t := .char) Bd.returns (by simp) (Jvm.hb hby own_d_method_4_code_14) hr, hrun, hended, _, _, rfl, (by show own_Q_fir Z (.ref a2) G1 fm [x] h0 n0 _ T1.heap _; rw [e1]; exact ⟨by rw [hv], N3, rfl⟩), ⟨_, rfl⟩, hW, hsame.mono (by decide) (by decide)⟩
theorem own_txl (c1 c2 c3 : List Int32) : (own_txt c1 c2 c3).length = 49 + c1.length + c2.length + c3.length := by
  have L1 : own_l1.length = 23 := rfl
  have L2 : own_l2.length = 11 := rfl
  have L3 : own_l3.length = 14 := rfl
  have L4 : own_l4.length = 1 := rfl
  simp only [own_txt, List.length_append, L1, L2, L3, L4]
  omega
theorem own_ats (c1 c2 c3 : List Int32) (h1 : own_C c1) (h2 : own_C c2) (h3 : own_C c3) : (own_txt c1 c2 c3).getD 22 0 = 61 ∧ (own_txt c1 c2 c3).getD 23 0 = c1.getD 0 0 ∧ (own_txt c1 c2 c3).getD (33 + c1.length) 0 = 61 ∧ (own_txt c1 c2 c3).getD (34 + c1.length) 0 = c2.getD 0 0 ∧ (own_txt c1 c2 c3).getD (47 + c1.length + c2.length) 0 = 61 ∧ (own_txt c1 c2 c3).getD (48 + c1.length + c2.length) 0 = c3.getD 0 0 ∧ (own_txt c1 c2 c3).getD ((own_txt c1 c2 c3).length - 1) 0 = 93 := by
  rcases h1 with rfl | ⟨x, rfl, -⟩ <;> rcases h2 with rfl | ⟨y, rfl, -⟩ <;> rcases h3 with rfl | ⟨z, rfl, -⟩ <;> exact ⟨rfl, rfl, rfl, rfl, rfl, rfl, rfl⟩
theorem own_ef_0 (m : MethodId) (p0 : Int32) (p1 : Int32) (p2 : Int32) (p3 : Int32) (p4 : Int32) : entryFrame m #[(.int p0), (.int p1), (.int p2), (.int p3), (.int p4)] maxLocals = mkF m 0 #[.val (.int p0), .val (.int p1), .val (.int p2), .val (.int p3), .val (.int p4), .unset, .unset, .unset, .unset, .unset, .unset, .unset, .unset, .unset, .unset] [] := by first | (simp [entryFrame, mkF, argsToLocals, Value.category, maxLocals]; done) | rfl
def own_Q_0 (Z : State) (p0 : Int32) (p1 : Int32) (p2 : Int32) (p3 : Int32) (p4 : Int32) (G1 : Int32) (fm : Value) (h0 : Heap) (n0 : Nat) (v : Option Value) (h : Heap) (L : List Loc) : Prop := v = some (.int 1) ∧ Fr n0 L
theorem own_pd_29 : parseMethodDescriptor "(I)Ljava/lang/String;" = some ⟨[.int], some (.object "java/lang/String")⟩ := by decide +kernel
theorem own_pd_30 : parseMethodDescriptor "(Ljava/lang/String;Ljava/lang/String;Ljava/lang/String;Ljava/lang/String;Ljava/lang/String;Ljava/lang/String;)V" = some ⟨[(.object "java/lang/String"), (.object "java/lang/String"), (.object "java/lang/String"), (.object "java/lang/String"), (.object "java/lang/String"), (.object "java/lang/String")], none⟩ := by decide +kernel
theorem own_pd_31 : parseMethodDescriptor "(Ljava/lang/Object;)Z" = some ⟨[(.object "java/lang/Object")], some .boolean⟩ := by decide +kernel
theorem own_pd_32 : parseMethodDescriptor "(Ljava/lang/String;)I" = some ⟨[(.object "java/lang/String")], some .int⟩ := by decide +kernel
theorem own_pd_33 : parseMethodDescriptor "(Ljava/lang/String;)C" = some ⟨[(.object "java/lang/String")], some .char⟩ := by decide +kernel
set_option maxRecDepth 65536 in
set_option maxHeartbeats 40000000 in
theorem own_rm_0 (l : Launch) (Z : State) (a0 : Array Value) (hw : ∀ d ∈ tables_1, d.before a0 Z = true) (ws : List Jvm.Cond) (p0 : Int32) (p1 : Int32) (p2 : Int32) (p3 : Int32) (p4 : Int32) (G1 : Int32) (fm : Value) (h0 : Heap) (n0 : Nat) (Z0 : n0 ≤ h0.size) (SC : Sta Z h0 "java/lang/String" "COMPACT_STRINGS" "Z" (.int G1)) (P5 : ¬ (G1 = (0 : Int32))) (SF : Sta Z h0 "jdk/internal/util/Preconditions" "SIOOBE_FORMATTER" "Ljava/util/function/BiFunction;" fm) (rfm : fm.isRef = true) :
    MetFree l x (head1 (Jvm.Cond.code x code maxLocals ret :: ws) room_1) (fun a U => a = #[(.int p0), (.int p1), (.int p2), (.int p3), (.int p4)] ∧ Z.Warmed39 U.vm ∧ U.heap = h0 ∧ CHv Z own_EL U.vm h0) (fun _ _ _ _ _ => True) (fun _ U o U' => ∃ v L, o = .returned v ∧ own_Q_0 Z p0 p1 p2 p3 p4 G1 fm h0 n0 v U'.heap L ∧ ReturnedEndW U o U' L room_1.cells room_1.slots) := by
  refine MetFree.of_bodySF (plainFor_of_name own_pn_8) hisR ?_
  intro p e s m args below meth c s₁ Bd hml0 hP hK
  obtain ⟨rfl, hZ, hh, hCH⟩ := hP
  have hx := Bd.exec
  have hby := Bd.bytes
  have hml : c.maxLocals = 15 := hml0
  have hown : s.vm.findClass "com/example/austere_auth/austereauth/grant/TokenRequestToStringPinLaw" = some m.cls := findClass_of_methodNamed Bd.named
  have hnm := (name_of_methodNamed Bd.named Bd.method).1
  have hZ : Z.Warmed39 (s.setVm s.vm).vm := hZ
  have hown : (s.setVm s.vm).vm.findClass "com/example/austere_auth/austereauth/grant/TokenRequestToStringPinLaw" = some m.cls := hown
  have hS : s.Since s.vm h0.size := (State.WarmedH.refl s).since _
  have hwS : ∀ a ∈ Bundle.stringAtoms, a.before a0 Z = true := fun a ha => hw a (own_sA a ha)
  have Y0 : h0.size ≤ h0.size := Nat.le_refl _
  have hEL : EW Z a0 own_EL := own_EW hw
  have C0 : CHr Z own_EL s.vm h0 s.vm h0 := CHr.refl hCH
  have X0 : Stand p l e room_1 (s.setVm s.vm) m #[(.int p0), (.int p1), (.int p2), (.int p3), (.int p4)] below meth c s₁ [] 0 0 := Stand.of_body Bd
  have e0 : s₁.heap = h0 := by rw [← hh, Bd.state]; rfl
  have N0 := Fr.nil n0
  refine own_start (own_ef_0 m p0 p1 p2 p3 p4 ) ?_
  refine own_of (T' := s₁) (f' := (mkF m 1 #[.val (.int p0), .val (.int p1), .val (.int p2), .val (.int p3), .val (.int p4), .unset, .unset, .unset, .unset, .unset, .unset, .unset, .unset, .unset, .unset] [(.int p0)])) (fun t_ k_ => (XS.iloadN X0.here hx rfl (Jvm.hb hby at_0) rfl k_)) ?_
  obtain ⟨_, _, ⟨T1, L1, k1, n1⟩, -, X1, ⟨Lc1, hQ1, l1, y1, z1⟩, st1⟩ := Jvm.LawKit.callS X0 hx (y := (⟨"com/example/austere_auth/austereauth/grant/TokenRequestToStringPinLaw", "field", "(I)Ljava/lang/String;"⟩ : MethodName)) hown (mvT hZ (hw _ (List.mem_of_getElem? (i := 0) rfl))) (mvT hZ (hw _ (List.mem_of_getElem? (i := 1) rfl))) (mvT hZ (hw _ (List.mem_of_getElem? (i := 2) rfl))) (mvT hZ (hw _ (List.mem_of_getElem? (i := 3) rfl))) (by decide) (backOf (W := 0) (own_rm_fie l Z a0 hw [] p0 G1 h0 n0 Z0 SC P5) hZ (hw _ (List.mem_of_getElem? (i := 3) rfl)) (hw _ (List.mem_of_getElem? (i := 2) rfl)) (by decide) (by decide)) (g := (mkF m 1 #[.val (.int p0), .val (.int p1), .val (.int p2), .val (.int p3), .val (.int p4), .unset, .unset, .unset, .unset, .unset, .unset, .unset, .unset, .unset, .unset] [(.int p0)])) rfl (by rw [hml]; rfl) (argsL := [(.int p0)]) (rest := []) (lenOf own_pd_29 rfl) rfl (by show 2 * 0 + _ ≤ _; exact Nat.le_of_eq rfl) (Jvm.hb hby at_1) (fun _ _ => ⟨rfl, e0, Nat.le_of_ble_eq_true rfl, Nat.le_of_ble_eq_true rfl⟩)
  dsimp only [Pt.U, Pt.locs, Pt.cells, Pt.slots] at X1 l1 y1 z1 st1 hQ1
  subst y1 z1
  obtain ⟨u1, c1, rfl, N1, K1, Pf1⟩ := hQ1
  have ru1 := own_O_ref (own_P_O Pf1)
  have N2 : Fr n0 L1 := by rw [l1]; exact Fr.app N0 N1
  have f3 := Nat.le_trans Y0 K1.1
  have f4 := C0.trans (CHr.keep K1 sf0 C0.1)
  have f5 := Nat.le_trans Z0 K1.1
  have f6 := own_stakeep SC K1 all0
  have f7 := own_stakeep SF K1 all0
  refine own_of (T' := T1) (f' := (mkF m 7 #[.val (.int p0), .val (.int p1), .val (.int p2), .val (.int p3), .val (.int p4), .val u1, .unset, .unset, .unset, .unset, .unset, .unset, .unset, .unset, .unset] [(.int p1)])) (fun t_ k_ => (st1 _ (own_astore X1.here hx rfl (Jvm.hb hby at_4) rfl ru1.1 rfl One.u (l' := #[.val (.int p0), .val (.int p1), .val (.int p2), .val (.int p3), .val (.int p4), .val u1, .unset, .unset, .unset, .unset, .unset, .unset, .unset, .unset, .unset]) rfl (XS.iloadN X1.here hx rfl (Jvm.hb hby at_6) rfl k_)))) ?_
  obtain ⟨_, _, ⟨T8, L8, k8, n8⟩, -, X8, ⟨Lc8, hQ8, l8, y8, z8⟩, st8⟩ := Jvm.LawKit.callS X1 hx (y := (⟨"com/example/austere_auth/austereauth/grant/TokenRequestToStringPinLaw", "field", "(I)Ljava/lang/String;"⟩ : MethodName)) hown (mvT hZ (hw _ (List.mem_of_getElem? (i := 0) rfl))) (mvT hZ (hw _ (List.mem_of_getElem? (i := 1) rfl))) (mvT hZ (hw _ (List.mem_of_getElem? (i := 2) rfl))) (mvT hZ (hw _ (List.mem_of_getElem? (i := 3) rfl))) (by decide) (backOf (W := 0) (own_rm_fie l Z a0 hw [] p1 G1 T1.heap n0 f5 f6 P5) hZ (hw _ (List.mem_of_getElem? (i := 3) rfl)) (hw _ (List.mem_of_getElem? (i := 2) rfl)) (by decide) (by decide)) (g := (mkF m 7 #[.val (.int p0), .val (.int p1), .val (.int p2), .val (.int p3), .val (.int p4), .val u1, .unset, .unset, .unset, .unset, .unset, .unset, .unset, .unset, .unset] [(.int p1)])) rfl (by rw [hml]; rfl) (argsL := [(.int p1)]) (rest := []) (lenOf own_pd_29 rfl) rfl (by show 2 * 0 + _ ≤ _; exact Nat.le_of_eq rfl) (Jvm.hb hby at_7) (fun _ _ => ⟨rfl, rfl, Nat.le_of_ble_eq_true rfl, Nat.le_of_ble_eq_true rfl⟩)
  dsimp only [Pt.U, Pt.locs, Pt.cells, Pt.slots] at X8 l8 y8 z8 st8 hQ8
  subst y8 z8
  obtain ⟨u2, c2, rfl, N8, K8, Pf2⟩ := hQ8
  have ru2 := own_O_ref (own_P_O Pf2)
  have N9 : Fr n0 L8 := by rw [l8]; exact Fr.app N2 N8
  have f10 := Nat.le_trans f3 K8.1
  have f11 := f4.trans (CHr.keep K8 sf0 f4.1)
  have f12 := Nat.le_trans f5 K8.1
  have f13 := own_stakeep f6 K8 all0
  have f14 := own_stakeep f7 K8 all0
  have f15 := own_P_keep Pf1 K8
  refine own_of (T' := T8) (f' := (mkF m 13 #[.val (.int p0), .val (.int p1), .val (.int p2), .val (.int p3), .val (.int p4), .val u1, .val u2, .unset, .unset, .unset, .unset, .unset, .unset, .unset, .unset] [(.int p2)])) (fun t_ k_ => (st8 _ (own_astore X8.here hx rfl (Jvm.hb hby at_10) rfl ru2.1 rfl One.u (l' := #[.val (.int p0), .val (.int p1), .val (.int p2), .val (.int p3), .val (.int p4), .val u1, .val u2, .unset, .unset, .unset, .unset, .unset, .unset, .unset, .unset]) rfl (XS.iloadN X8.here hx rfl (Jvm.hb hby at_12) rfl k_)))) ?_
  obtain ⟨_, _, ⟨T16, L16, k16, n16⟩, -, X16, ⟨Lc16, hQ16, l16, y16, z16⟩, st16⟩ := Jvm.LawKit.callS X8 hx (y := (⟨"com/example/austere_auth/austereauth/grant/TokenRequestToStringPinLaw", "field", "(I)Ljava/lang/String;"⟩ : MethodName)) hown (mvT hZ (hw _ (List.mem_of_getElem? (i := 0) rfl))) (mvT hZ (hw _ (List.mem_of_getElem? (i := 1) rfl))) (mvT hZ (hw _ (List.mem_of_getElem? (i := 2) rfl))) (mvT hZ (hw _ (List.mem_of_getElem? (i := 3) rfl))) (by decide) (backOf (W := 0) (own_rm_fie l Z a0 hw [] p2 G1 T8.heap n0 f12 f13 P5) hZ (hw _ (List.mem_of_getElem? (i := 3) rfl)) (hw _ (List.mem_of_getElem? (i := 2) rfl)) (by decide) (by decide)) (g := (mkF m 13 #[.val (.int p0), .val (.int p1), .val (.int p2), .val (.int p3), .val (.int p4), .val u1, .val u2, .unset, .unset, .unset, .unset, .unset, .unset, .unset, .unset] [(.int p2)])) rfl (by rw [hml]; rfl) (argsL := [(.int p2)]) (rest := []) (lenOf own_pd_29 rfl) rfl (by show 2 * 0 + _ ≤ _; exact Nat.le_of_eq rfl) (Jvm.hb hby at_13) (fun _ _ => ⟨rfl, rfl, Nat.le_of_ble_eq_true rfl, Nat.le_of_ble_eq_true rfl⟩)
  dsimp only [Pt.U, Pt.locs, Pt.cells, Pt.slots] at X16 l16 y16 z16 st16 hQ16
  subst y16 z16
  obtain ⟨u3, c3, rfl, N16, K16, Pf3⟩ := hQ16
  have ru3 := own_O_ref (own_P_O Pf3)
  have N17 : Fr n0 L16 := by rw [l16]; exact Fr.app N9 N16
  have f18 := Nat.le_trans f10 K16.1
  have f19 := f11.trans (CHr.keep K16 sf0 f11.1)
  have f20 := Nat.le_trans f12 K16.1
  have f21 := own_stakeep f13 K16 all0
  have f22 := own_stakeep f14 K16 all0
  have f23 := own_P_keep f15 K16
  have f24 := own_P_keep Pf2 K16
  refine own_of (T' := T16) (f' := (mkF m 18 #[.val (.int p0), .val (.int p1), .val (.int p2), .val (.int p3), .val (.int p4), .val u1, .val u2, .val u3, .unset, .unset, .unset, .unset, .unset, .unset, .unset] [])) (fun t_ k_ => (st16 _ (own_astore X16.here hx rfl (Jvm.hb hby at_16) rfl ru3.1 rfl One.u (l' := #[.val (.int p0), .val (.int p1), .val (.int p2), .val (.int p3), .val (.int p4), .val u1, .val u2, .val u3, .unset, .unset, .unset, .unset, .unset, .unset, .unset]) rfl k_))) ?_
  obtain ⟨T25, h25, X25, e25, E25, A25, D25, -, st25⟩ := newO X16 hx hZ hown (hw _ (List.mem_of_getElem? (i := 30) rfl)) (hw _ (List.mem_of_getElem? (i := 31) rfl)) (hw _ (List.mem_of_getElem? (i := 32) rfl)) rfl (g := (mkF m 18 #[.val (.int p0), .val (.int p1), .val (.int p2), .val (.int p3), .val (.int p4), .val u1, .val u2, .val u3, .unset, .unset, .unset, .unset, .unset, .unset, .unset] [])) rfl (Jvm.hb hby at_18) (by decide) (by decide)
  obtain ⟨ta, g25⟩ : ∃ z, z = T16.heap.size := ⟨_, rfl⟩
  rw [← g25] at A25 D25 st25
  have g_ta : n0 ≤ ta := Nat.le_trans f20 (Nat.le_of_eq g25.symm)
  have f26 := Nat.le_trans f18 E25.1
  have f27 := f19.trans (CHr.ext E25 f19.1)
  have f28 := Nat.le_trans f20 E25.1
  have f29 := f21.ext E25
  have f30 := f22.ext E25
  have f31 := own_P_ext f23 E25
  have f32 := own_P_ext f24 E25
  have f33 := own_P_ext Pf3 E25
  have f34 : Fld Z h25 ta "com/example/austere_auth/austereauth/grant/TokenRequest" "grantType" "Ljava/lang/String;" .null := D25 (Or.inr (hw _ (List.mem_of_getElem? (i := 43) rfl))) (ty := (.object "java/lang/String")) (by decide)
  have f35 : Fld Z h25 ta "com/example/austere_auth/austereauth/grant/TokenRequest" "clientId" "Ljava/lang/String;" .null := D25 (Or.inr (hw _ (List.mem_of_getElem? (i := 45) rfl))) (ty := (.object "java/lang/String")) (by decide)
  have f36 : Fld Z h25 ta "com/example/austere_auth/austereauth/grant/TokenRequest" "clientSecret" "Ljava/lang/String;" .null := D25 (Or.inr (hw _ (List.mem_of_getElem? (i := 47) rfl))) (ty := (.object "java/lang/String")) (by decide)
  have f37 : Fld Z h25 ta "com/example/austere_auth/austereauth/grant/TokenRequest" "code" "Ljava/lang/String;" .null := D25 (Or.inr (hw _ (List.mem_of_getElem? (i := 49) rfl))) (ty := (.object "java/lang/String")) (by decide)
  have f38 : Fld Z h25 ta "com/example/austere_auth/austereauth/grant/TokenRequest" "redirectUri" "Ljava/lang/String;" .null := D25 (Or.inr (hw _ (List.mem_of_getElem? (i := 51) rfl))) (ty := (.object "java/lang/String")) (by decide)
  have f39 : Fld Z h25 ta "com/example/austere_auth/austereauth/grant/TokenRequest" "refreshToken" "Ljava/lang/String;" .null := D25 (Or.inr (hw _ (List.mem_of_getElem? (i := 53) rfl))) (ty := (.object "java/lang/String")) (by decide)
  refine own_of (T' := T25) (f' := (mkF m 27 #[.val (.int p0), .val (.int p1), .val (.int p2), .val (.int p3), .val (.int p4), .val u1, .val u2, .val u3, .unset, .unset, .unset, .unset, .unset, .unset, .unset] [(.int p3), u2, u1, (.ref ta), (.ref ta)])) (fun t_ k_ => (st25 _ (XS.dup X25.here hx rfl (Jvm.hb hby at_21) rfl rfl (XS.aload X25.here hx rfl (Jvm.hb hby at_22) rfl ru1.1 (XS.aload X25.here hx rfl (Jvm.hb hby at_24) rfl ru2.1 (XS.iloadN X25.here hx rfl (Jvm.hb hby at_26) rfl k_)))))) ?_
  obtain ⟨_, _, ⟨T40, L40, k40, n40⟩, -, X40, ⟨Lc40, hQ40, l40, y40, z40⟩, st40⟩ := Jvm.LawKit.callS X25 hx (y := (⟨"com/example/austere_auth/austereauth/grant/TokenRequestToStringPinLaw", "field", "(I)Ljava/lang/String;"⟩ : MethodName)) hown (mvT hZ (hw _ (List.mem_of_getElem? (i := 0) rfl))) (mvT hZ (hw _ (List.mem_of_getElem? (i := 1) rfl))) (mvT hZ (hw _ (List.mem_of_getElem? (i := 2) rfl))) (mvT hZ (hw _ (List.mem_of_getElem? (i := 3) rfl))) (by decide) (backOf (W := 4) (own_rm_fie l Z a0 hw [] p3 G1 h25 n0 f28 f29 P5) hZ (hw _ (List.mem_of_getElem? (i := 3) rfl)) (hw _ (List.mem_of_getElem? (i := 2) rfl)) (by decide) (by decide)) (g := (mkF m 27 #[.val (.int p0), .val (.int p1), .val (.int p2), .val (.int p3), .val (.int p4), .val u1, .val u2, .val u3, .unset, .unset, .unset, .unset, .unset, .unset, .unset] [(.int p3), u2, u1, (.ref ta), (.ref ta)])) rfl (by rw [hml]; rfl) (argsL := [(.int p3)]) (rest := [u2, u1, (.ref ta), (.ref ta)]) (lenOf own_pd_29 rfl) rfl (by show 2 * 0 + _ ≤ _; simp [own_cR, own_cN, own_cI, own_cat1 (ru1.1), own_cat1 (ru2.1)]) (Jvm.hb hby at_27) (fun _ _ => ⟨rfl, e25, Nat.le_of_ble_eq_true rfl, Nat.le_of_ble_eq_true rfl⟩)
  dsimp only [Pt.U, Pt.locs, Pt.cells, Pt.slots] at X40 l40 y40 z40 st40 hQ40
  subst y40 z40
  obtain ⟨u4, c4, rfl, N40, K40, Pf4⟩ := hQ40
  have ru4 := own_O_ref (own_P_O Pf4)
  have N41 : Fr n0 L40 := by rw [l40]; exact Fr.app N17 N40
  have f42 := Nat.le_trans f26 K40.1
  have f43 := f27.trans (CHr.keep K40 sf0 f27.1)
  have f44 := Nat.le_trans f28 K40.1
  have f45 := own_stakeep f29 K40 all0
  have f46 := own_stakeep f30 K40 all0
  have f47 := own_P_keep f31 K40
  have f48 := own_P_keep f32 K40
  have f49 := own_P_keep f33 K40
  have f50 := A25.keep K40
  have f51 := f34.keep K40 nin0
  have f52 := f35.keep K40 nin0
  have f53 := f36.keep K40 nin0
  have f54 := f37.keep K40 nin0
  have f55 := f38.keep K40 nin0
  have f56 := f39.keep K40 nin0
  refine own_of (T' := T40) (f' := (mkF m 34 #[.val (.int p0), .val (.int p1), .val (.int p2), .val (.int p3), .val (.int p4), .val u1, .val u2, .val u3, .unset, .unset, .unset, .unset, .unset, .unset, .unset] [(.int ((p3.toUInt32 >>> ((9 : Int32) &&& 31).toUInt32).toInt32)), u4, u2, u1, (.ref ta), (.ref ta)])) (fun t_ k_ => (st40 _ (XS.iloadN X40.here hx rfl (Jvm.hb hby at_30) rfl (XS.bipush X40.here hx rfl (Jvm.hb hby at_31) (XS.iushr X40.here hx rfl (Jvm.hb hby at_33) rfl k_))))) ?_
  obtain ⟨_, _, ⟨T57, L57, k57, n57⟩, -, X57, ⟨Lc57, hQ57, l57, y57, z57⟩, st57⟩ := Jvm.LawKit.callS X40 hx (y := (⟨"com/example/austere_auth/austereauth/grant/TokenRequestToStringPinLaw", "field", "(I)Ljava/lang/String;"⟩ : MethodName)) hown (mvT hZ (hw _ (List.mem_of_getElem? (i := 0) rfl))) (mvT hZ (hw _ (List.mem_of_getElem? (i := 1) rfl))) (mvT hZ (hw _ (List.mem_of_getElem? (i := 2) rfl))) (mvT hZ (hw _ (List.mem_of_getElem? (i := 3) rfl))) (by decide) (backOf (W := 5) (own_rm_fie l Z a0 hw [] ((p3.toUInt32 >>> ((9 : Int32) &&& 31).toUInt32).toInt32) G1 T40.heap n0 f44 f45 P5) hZ (hw _ (List.mem_of_getElem? (i := 3) rfl)) (hw _ (List.mem_of_getElem? (i := 2) rfl)) (by decide) (by decide)) (g := (mkF m 34 #[.val (.int p0), .val (.int p1), .val (.int p2), .val (.int p3), .val (.int p4), .val u1, .val u2, .val u3, .unset, .unset, .unset, .unset, .unset, .unset, .unset] [(.int ((p3.toUInt32 >>> ((9 : Int32) &&& 31).toUInt32).toInt32)), u4, u2, u1, (.ref ta), (.ref ta)])) rfl (by rw [hml]; rfl) (argsL := [(.int ((p3.toUInt32 >>> ((9 : Int32) &&& 31).toUInt32).toInt32))]) (rest := [u4, u2, u1, (.ref ta), (.ref ta)]) (lenOf own_pd_29 rfl) rfl (by show 2 * 0 + _ ≤ _; simp [own_cR, own_cN, own_cI, own_cat1 (ru1.1), own_cat1 (ru2.1), own_cat1 (ru4.1)]) (Jvm.hb hby at_34) (fun _ _ => ⟨rfl, rfl, Nat.le_of_ble_eq_true rfl, Nat.le_of_ble_eq_true rfl⟩)
  dsimp only [Pt.U, Pt.locs, Pt.cells, Pt.slots] at X57 l57 y57 z57 st57 hQ57
  subst y57 z57
  obtain ⟨u5, c5, rfl, N57, K57, Pf5⟩ := hQ57
  have ru5 := own_O_ref (own_P_O Pf5)
  have N58 : Fr n0 L57 := by rw [l57]; exact Fr.app N41 N57
  have f59 := Nat.le_trans f42 K57.1
  have f60 := f43.trans (CHr.keep K57 sf0 f43.1)
  have f61 := Nat.le_trans f44 K57.1
  have f62 := own_stakeep f45 K57 all0
  have f63 := own_stakeep f46 K57 all0
  have f64 := own_P_keep f47 K57
  have f65 := own_P_keep f48 K57
  have f66 := own_P_keep f49 K57
  have f67 := f50.keep K57
  have f68 := f51.keep K57 nin0
  have f69 := f52.keep K57 nin0
  have f70 := f53.keep K57 nin0
  have f71 := f54.keep K57 nin0
  have f72 := f55.keep K57 nin0
  have f73 := f56.keep K57 nin0
  have f74 := own_P_keep Pf4 K57
  refine own_of (T' := T57) (f' := (mkF m 43 #[.val (.int p0), .val (.int p1), .val (.int p2), .val (.int p3), .val (.int p4), .val u1, .val u2, .val u3, .unset, .unset, .unset, .unset, .unset, .unset, .unset] [(.int ((p3.toUInt32 >>> ((18 : Int32) &&& 31).toUInt32).toInt32)), u3, u5, u4, u2, u1, (.ref ta), (.ref ta)])) (fun t_ k_ => (st57 _ (XS.aload X57.here hx rfl (Jvm.hb hby at_37) rfl ru3.1 (XS.iloadN X57.here hx rfl (Jvm.hb hby at_39) rfl (XS.bipush X57.here hx rfl (Jvm.hb hby at_40) (XS.iushr X57.here hx rfl (Jvm.hb hby at_42) rfl k_)))))) ?_
  obtain ⟨_, _, ⟨T75, L75, k75, n75⟩, -, X75, ⟨Lc75, hQ75, l75, y75, z75⟩, st75⟩ := Jvm.LawKit.callS X57 hx (y := (⟨"com/example/austere_auth/austereauth/grant/TokenRequestToStringPinLaw", "field", "(I)Ljava/lang/String;"⟩ : MethodName)) hown (mvT hZ (hw _ (List.mem_of_getElem? (i := 0) rfl))) (mvT hZ (hw _ (List.mem_of_getElem? (i := 1) rfl))) (mvT hZ (hw _ (List.mem_of_getElem? (i := 2) rfl))) (mvT hZ (hw _ (List.mem_of_getElem? (i := 3) rfl))) (by decide) (backOf (W := 7) (own_rm_fie l Z a0 hw [] ((p3.toUInt32 >>> ((18 : Int32) &&& 31).toUInt32).toInt32) G1 T57.heap n0 f61 f62 P5) hZ (hw _ (List.mem_of_getElem? (i := 3) rfl)) (hw _ (List.mem_of_getElem? (i := 2) rfl)) (by decide) (by decide)) (g := (mkF m 43 #[.val (.int p0), .val (.int p1), .val (.int p2), .val (.int p3), .val (.int p4), .val u1, .val u2, .val u3, .unset, .unset, .unset, .unset, .unset, .unset, .unset] [(.int ((p3.toUInt32 >>> ((18 : Int32) &&& 31).toUInt32).toInt32)), u3, u5, u4, u2, u1, (.ref ta), (.ref ta)])) rfl (by rw [hml]; rfl) (argsL := [(.int ((p3.toUInt32 >>> ((18 : Int32) &&& 31).toUInt32).toInt32))]) (rest := [u3, u5, u4, u2, u1, (.ref ta), (.ref ta)]) (lenOf own_pd_29 rfl) rfl (by show 2 * 0 + _ ≤ _; simp [own_cR, own_cN, own_cI, own_cat1 (ru1.1), own_cat1 (ru2.1), own_cat1 (ru3.1), own_cat1 (ru4.1), own_cat1 (ru5.1)]) (Jvm.hb hby at_43) (fun _ _ => ⟨rfl, rfl, Nat.le_of_ble_eq_true rfl, Nat.le_of_ble_eq_true rfl⟩)
  dsimp only [Pt.U, Pt.locs, Pt.cells, Pt.slots] at X75 l75 y75 z75 st75 hQ75
  subst y75 z75
  obtain ⟨u6, c6, rfl, N75, K75, Pf6⟩ := hQ75
  have ru6 := own_O_ref (own_P_O Pf6)
  have N76 : Fr n0 L75 := by rw [l75]; exact Fr.app N58 N75
  have f77 := Nat.le_trans f59 K75.1
  have f78 := f60.trans (CHr.keep K75 sf0 f60.1)
  have f79 := Nat.le_trans f61 K75.1
  have f80 := own_stakeep f62 K75 all0
  have f81 := own_stakeep f63 K75 all0
  have f82 := own_P_keep f64 K75
  have f83 := own_P_keep f65 K75
  have f84 := own_P_keep f66 K75
  have f85 := f67.keep K75
  have f86 := f68.keep K75 nin0
  have f87 := f69.keep K75 nin0
  have f88 := f70.keep K75 nin0
  have f89 := f71.keep K75 nin0
  have f90 := f72.keep K75 nin0
  have f91 := f73.keep K75 nin0
  have f92 := own_P_keep f74 K75
  have f93 := own_P_keep Pf5 K75
  refine own_of (T' := T75) (f' := (mkF m 46 #[.val (.int p0), .val (.int p1), .val (.int p2), .val (.int p3), .val (.int p4), .val u1, .val u2, .val u3, .unset, .unset, .unset, .unset, .unset, .unset, .unset] [u6, u3, u5, u4, u2, u1, (.ref ta), (.ref ta)])) (fun t_ k_ => (st75 _ k_)) ?_
  obtain ⟨_, _, ⟨T94, L94, k94, n94⟩, -, X94, ⟨Lc94, hQ94, l94, y94, z94⟩, st94⟩ := X75.specialBack hx (y := (⟨"com/example/austere_auth/austereauth/grant/TokenRequest", "<init>", "(Ljava/lang/String;Ljava/lang/String;Ljava/lang/String;Ljava/lang/String;Ljava/lang/String;Ljava/lang/String;)V"⟩ : MethodName)) rfl hown (mvT hZ (hw _ (List.mem_of_getElem? (i := 33) rfl))) (mvT hZ (hw _ (List.mem_of_getElem? (i := 34) rfl))) (mvT hZ (hw _ (List.mem_of_getElem? (i := 35) rfl))) (by decide) (backOf (W := 1) (own_rm_tri l Z a0 hw [] ta u1 u2 u4 u5 u3 u6 T75.heap n0 f79 f85 g_ta f86 f87 f88 f89 f90 f91 ru1 ru2 ru4 ru5 ru3 ru6) hZ (hw _ (List.mem_of_getElem? (i := 35) rfl)) (hw _ (List.mem_of_getElem? (i := 32) rfl)) (by decide) (by decide)) (g := (mkF m 46 #[.val (.int p0), .val (.int p1), .val (.int p2), .val (.int p3), .val (.int p4), .val u1, .val u2, .val u3, .unset, .unset, .unset, .unset, .unset, .unset, .unset] [u6, u3, u5, u4, u2, u1, (.ref ta), (.ref ta)])) rfl (by rw [hml]; rfl) (Steps.refl _) (a := ta) (argsL := [u1, u2, u4, u5, u3, u6]) (rest := [(.ref ta)]) (lenOf own_pd_30 rfl) rfl (by show 2 * 0 + _ ≤ _; exact Nat.le_of_eq rfl) (Jvm.hb hby at_46) (fun _ _ => ⟨rfl, rfl, Nat.le_of_ble_eq_true rfl, Nat.le_of_ble_eq_true rfl⟩)
  dsimp only [Pt.U, Pt.locs, Pt.cells, Pt.slots] at X94 l94 y94 z94 st94 hQ94
  subst y94 z94
  obtain ⟨rfl, N94, K94, Eta_, Fata_, Fbta_, Fcta_⟩ := hQ94
  have N95 : Fr n0 L94 := by rw [l94]; exact Fr.app N76 N94
  have f96 := Nat.le_trans f77 K94.1
  have f97 := f78.trans (CHr.keep K94 (sfS (Safe.exa hZ.alike f85 (by decide) (by decide)) sf0) f78.1)
  have f98 := Nat.le_trans f79 K94.1
  have f99 := own_stakeep f80 K94 (allS (own_plainE f85) all0)
  have f100 := own_stakeep f81 K94 (allS (own_plainE f85) all0)
  have f101 := own_P_keepX f82 K94 f85 (hw _ (List.mem_of_getElem? (i := 31) rfl))
  have f102 := own_P_keepX f83 K94 f85 (hw _ (List.mem_of_getElem? (i := 31) rfl))
  have f103 := own_P_keepX f84 K94 f85 (hw _ (List.mem_of_getElem? (i := 31) rfl))
  have f104 := f85.keep K94
  have f111 := own_P_keepX f92 K94 f85 (hw _ (List.mem_of_getElem? (i := 31) rfl))
  have f112 := own_P_keepX f93 K94 f85 (hw _ (List.mem_of_getElem? (i := 31) rfl))
  have f113 := own_P_keepX Pf6 K94 f85 (hw _ (List.mem_of_getElem? (i := 31) rfl))
  refine own_of (T' := T94) (f' := (mkF m 51 #[.val (.int p0), .val (.int p1), .val (.int p2), .val (.int p3), .val (.int p4), .val u1, .val u2, .val u3, .val (.ref ta), .unset, .unset, .unset, .unset, .unset, .unset] [])) (fun t_ k_ => (st94.trans (XS.astore X94.here hx rfl (Jvm.hb hby at_49) rfl rfl (l' := #[.val (.int p0), .val (.int p1), .val (.int p2), .val (.int p3), .val (.int p4), .val u1, .val u2, .val u3, .val (.ref ta), .unset, .unset, .unset, .unset, .unset, .unset]) rfl k_))) ?_
  obtain ⟨T114, h114, X114, e114, E114, A114, D114, -, st114⟩ := newO X94 hx hZ hown (hw _ (List.mem_of_getElem? (i := 30) rfl)) (hw _ (List.mem_of_getElem? (i := 31) rfl)) (hw _ (List.mem_of_getElem? (i := 32) rfl)) rfl (g := (mkF m 51 #[.val (.int p0), .val (.int p1), .val (.int p2), .val (.int p3), .val (.int p4), .val u1, .val u2, .val u3, .val (.ref ta), .unset, .unset, .unset, .unset, .unset, .unset] [])) rfl (Jvm.hb hby at_51) (by decide) (by decide)
  obtain ⟨tb, g114⟩ : ∃ z, z = T94.heap.size := ⟨_, rfl⟩
  rw [← g114] at A114 D114 st114
  have ne_ta_tb : ta ≠ tb := by rw [g114]; exact Nat.ne_of_lt Eta_.lt
  have g_tb : n0 ≤ tb := Nat.le_trans f98 (Nat.le_of_eq g114.symm)
  have f115 := Nat.le_trans f96 E114.1
  have f116 := f97.trans (CHr.ext E114 f97.1)
  have f117 := Nat.le_trans f98 E114.1
  have f118 := f99.ext E114
  have f119 := f100.ext E114
  have f120 := own_P_ext f101 E114
  have f121 := own_P_ext f102 E114
  have f122 := own_P_ext f103 E114
  have f123 := Eta_.ext E114
  have f124 := Fata_.ext E114
  have f125 := Fbta_.ext E114
  have f126 := Fcta_.ext E114
  have f127 : Fld Z h114 tb "com/example/austere_auth/austereauth/grant/TokenRequest" "grantType" "Ljava/lang/String;" .null := D114 (Or.inr (hw _ (List.mem_of_getElem? (i := 43) rfl))) (ty := (.object "java/lang/String")) (by decide)
  have f128 : Fld Z h114 tb "com/example/austere_auth/austereauth/grant/TokenRequest" "clientId" "Ljava/lang/String;" .null := D114 (Or.inr (hw _ (List.mem_of_getElem? (i := 45) rfl))) (ty := (.object "java/lang/String")) (by decide)
  have f129 : Fld Z h114 tb "com/example/austere_auth/austereauth/grant/TokenRequest" "clientSecret" "Ljava/lang/String;" .null := D114 (Or.inr (hw _ (List.mem_of_getElem? (i := 47) rfl))) (ty := (.object "java/lang/String")) (by decide)
  have f130 : Fld Z h114 tb "com/example/austere_auth/austereauth/grant/TokenRequest" "code" "Ljava/lang/String;" .null := D114 (Or.inr (hw _ (List.mem_of_getElem? (i := 49) rfl))) (ty := (.object "java/lang/String")) (by decide)
  have f131 : Fld Z h114 tb "com/example/austere_auth/austereauth/grant/TokenRequest" "redirectUri" "Ljava/lang/String;" .null := D114 (Or.inr (hw _ (List.mem_of_getElem? (i := 51) rfl))) (ty := (.object "java/lang/String")) (by decide)
  have f132 : Fld Z h114 tb "com/example/austere_auth/austereauth/grant/TokenRequest" "refreshToken" "Ljava/lang/String;" .null := D114 (Or.inr (hw _ (List.mem_of_getElem? (i := 53) rfl))) (ty := (.object "java/lang/String")) (by decide)
  refine own_of (T' := T114) (f' := (mkF m 61 #[.val (.int p0), .val (.int p1), .val (.int p2), .val (.int p3), .val (.int p4), .val u1, .val u2, .val u3, .val (.ref ta), .unset, .unset, .unset, .unset, .unset, .unset] [(.int p4), u2, u1, (.ref tb), (.ref tb)])) (fun t_ k_ => (st114 _ (XS.dup X114.here hx rfl (Jvm.hb hby at_54) rfl rfl (XS.aload X114.here hx rfl (Jvm.hb hby at_55) rfl ru1.1 (XS.aload X114.here hx rfl (Jvm.hb hby at_57) rfl ru2.1 (XS.iload X114.here hx rfl (Jvm.hb hby at_59) rfl k_)))))) ?_
  obtain ⟨_, _, ⟨T133, L133, k133, n133⟩, -, X133, ⟨Lc133, hQ133, l133, y133, z133⟩, st133⟩ := Jvm.LawKit.callS X114 hx (y := (⟨"com/example/austere_auth/austereauth/grant/TokenRequestToStringPinLaw", "field", "(I)Ljava/lang/String;"⟩ : MethodName)) hown (mvT hZ (hw _ (List.mem_of_getElem? (i := 0) rfl))) (mvT hZ (hw _ (List.mem_of_getElem? (i := 1) rfl))) (mvT hZ (hw _ (List.mem_of_getElem? (i := 2) rfl))) (mvT hZ (hw _ (List.mem_of_getElem? (i := 3) rfl))) (by decide) (backOf (W := 4) (own_rm_fie l Z a0 hw [] p4 G1 h114 n0 f117 f118 P5) hZ (hw _ (List.mem_of_getElem? (i := 3) rfl)) (hw _ (List.mem_of_getElem? (i := 2) rfl)) (by decide) (by decide)) (g := (mkF m 61 #[.val (.int p0), .val (.int p1), .val (.int p2), .val (.int p3), .val (.int p4), .val u1, .val u2, .val u3, .val (.ref ta), .unset, .unset, .unset, .unset, .unset, .unset] [(.int p4), u2, u1, (.ref tb), (.ref tb)])) rfl (by rw [hml]; rfl) (argsL := [(.int p4)]) (rest := [u2, u1, (.ref tb), (.ref tb)]) (lenOf own_pd_29 rfl) rfl (by show 2 * 0 + _ ≤ _; simp [own_cR, own_cN, own_cI, own_cat1 (ru1.1), own_cat1 (ru2.1)]) (Jvm.hb hby at_61) (fun _ _ => ⟨rfl, e114, Nat.le_of_ble_eq_true rfl, Nat.le_of_ble_eq_true rfl⟩)
  dsimp only [Pt.U, Pt.locs, Pt.cells, Pt.slots] at X133 l133 y133 z133 st133 hQ133
  subst y133 z133
  obtain ⟨u7, c7, rfl, N133, K133, Pf7⟩ := hQ133
  have ru7 := own_O_ref (own_P_O Pf7)
  have N134 : Fr n0 L133 := by rw [l133]; exact Fr.app N95 N133
  have f135 := Nat.le_trans f115 K133.1
  have f136 := f116.trans (CHr.keep K133 sf0 f116.1)
  have f137 := Nat.le_trans f117 K133.1
  have f138 := own_stakeep f118 K133 all0
  have f139 := own_stakeep f119 K133 all0
  have f140 := own_P_keep f120 K133
  have f141 := own_P_keep f121 K133
  have f142 := own_P_keep f122 K133
  have f143 := f123.keep K133
  have f144 := f124.keep K133 nin0
  have f145 := f125.keep K133 nin0
  have f146 := f126.keep K133 nin0
  have f147 := A114.keep K133
  have f148 := f127.keep K133 nin0
  have f149 := f128.keep K133 nin0
  have f150 := f129.keep K133 nin0
  have f151 := f130.keep K133 nin0
  have f152 := f131.keep K133 nin0
  have f153 := f132.keep K133 nin0
  refine own_of (T' := T133) (f' := (mkF m 69 #[.val (.int p0), .val (.int p1), .val (.int p2), .val (.int p3), .val (.int p4), .val u1, .val u2, .val u3, .val (.ref ta), .unset, .unset, .unset, .unset, .unset, .unset] [(.int ((p4.toUInt32 >>> ((9 : Int32) &&& 31).toUInt32).toInt32)), u7, u2, u1, (.ref tb), (.ref tb)])) (fun t_ k_ => (st133 _ (XS.iload X133.here hx rfl (Jvm.hb hby at_64) rfl (XS.bipush X133.here hx rfl (Jvm.hb hby at_66) (XS.iushr X133.here hx rfl (Jvm.hb hby at_68) rfl k_))))) ?_
  obtain ⟨_, _, ⟨T154, L154, k154, n154⟩, -, X154, ⟨Lc154, hQ154, l154, y154, z154⟩, st154⟩ := Jvm.LawKit.callS X133 hx (y := (⟨"com/example/austere_auth/austereauth/grant/TokenRequestToStringPinLaw", "field", "(I)Ljava/lang/String;"⟩ : MethodName)) hown (mvT hZ (hw _ (List.mem_of_getElem? (i := 0) rfl))) (mvT hZ (hw _ (List.mem_of_getElem? (i := 1) rfl))) (mvT hZ (hw _ (List.mem_of_getElem? (i := 2) rfl))) (mvT hZ (hw _ (List.mem_of_getElem? (i := 3) rfl))) (by decide) (backOf (W := 5) (own_rm_fie l Z a0 hw [] ((p4.toUInt32 >>> ((9 : Int32) &&& 31).toUInt32).toInt32) G1 T133.heap n0 f137 f138 P5) hZ (hw _ (List.mem_of_getElem? (i := 3) rfl)) (hw _ (List.mem_of_getElem? (i := 2) rfl)) (by decide) (by decide)) (g := (mkF m 69 #[.val (.int p0), .val (.int p1), .val (.int p2), .val (.int p3), .val (.int p4), .val u1, .val u2, .val u3, .val (.ref ta), .unset, .unset, .unset, .unset, .unset, .unset] [(.int ((p4.toUInt32 >>> ((9 : Int32) &&& 31).toUInt32).toInt32)), u7, u2, u1, (.ref tb), (.ref tb)])) rfl (by rw [hml]; rfl) (argsL := [(.int ((p4.toUInt32 >>> ((9 : Int32) &&& 31).toUInt32).toInt32))]) (rest := [u7, u2, u1, (.ref tb), (.ref tb)]) (lenOf own_pd_29 rfl) rfl (by show 2 * 0 + _ ≤ _; simp [own_cR, own_cN, own_cI, own_cat1 (ru1.1), own_cat1 (ru2.1), own_cat1 (ru7.1)]) (Jvm.hb hby at_69) (fun _ _ => ⟨rfl, rfl, Nat.le_of_ble_eq_true rfl, Nat.le_of_ble_eq_true rfl⟩)
  dsimp only [Pt.U, Pt.locs, Pt.cells, Pt.slots] at X154 l154 y154 z154 st154 hQ154
  subst y154 z154
  obtain ⟨u8, c8, rfl, N154, K154, Pf8⟩ := hQ154
  have ru8 := own_O_ref (own_P_O Pf8)
  have N155 : Fr n0 L154 := by rw [l154]; exact Fr.app N134 N154
  have f156 := Nat.le_trans f135 K154.1
  have f157 := f136.trans (CHr.keep K154 sf0 f136.1)
  have f158 := Nat.le_trans f137 K154.1
  have f159 := own_stakeep f138 K154 all0
  have f160 := own_stakeep f139 K154 all0
  have f161 := own_P_keep f140 K154
  have f162 := own_P_keep f141 K154
  have f163 := own_P_keep f142 K154
  have f164 := f143.keep K154
  have f165 := f144.keep K154 nin0
  have f166 := f145.keep K154 nin0
  have f167 := f146.keep K154 nin0
  have f168 := f147.keep K154
  have f169 := f148.keep K154 nin0
  have f170 := f149.keep K154 nin0
  have f171 := f150.keep K154 nin0
  have f172 := f151.keep K154 nin0
  have f173 := f152.keep K154 nin0
  have f174 := f153.keep K154 nin0
  have f175 := own_P_keep Pf7 K154
  refine own_of (T' := T154) (f' := (mkF m 79 #[.val (.int p0), .val (.int p1), .val (.int p2), .val (.int p3), .val (.int p4), .val u1, .val u2, .val u3, .val (.ref ta), .unset, .unset, .unset, .unset, .unset, .unset] [(.int ((p4.toUInt32 >>> ((18 : Int32) &&& 31).toUInt32).toInt32)), u3, u8, u7, u2, u1, (.ref tb), (.ref tb)])) (fun t_ k_ => (st154 _ (XS.aload X154.here hx rfl (Jvm.hb hby at_72) rfl ru3.1 (XS.iload X154.here hx rfl (Jvm.hb hby at_74) rfl (XS.bipush X154.here hx rfl (Jvm.hb hby at_76) (XS.iushr X154.here hx rfl (Jvm.hb hby at_78) rfl k_)))))) ?_
  obtain ⟨_, _, ⟨T176, L176, k176, n176⟩, -, X176, ⟨Lc176, hQ176, l176, y176, z176⟩, st176⟩ := Jvm.LawKit.callS X154 hx (y := (⟨"com/example/austere_auth/austereauth/grant/TokenRequestToStringPinLaw", "field", "(I)Ljava/lang/String;"⟩ : MethodName)) hown (mvT hZ (hw _ (List.mem_of_getElem? (i := 0) rfl))) (mvT hZ (hw _ (List.mem_of_getElem? (i := 1) rfl))) (mvT hZ (hw _ (List.mem_of_getElem? (i := 2) rfl))) (mvT hZ (hw _ (List.mem_of_getElem? (i := 3) rfl))) (by decide) (backOf (W := 7) (own_rm_fie l Z a0 hw [] ((p4.toUInt32 >>> ((18 : Int32) &&& 31).toUInt32).toInt32) G1 T154.heap n0 f158 f159 P5) hZ (hw _ (List.mem_of_getElem? (i := 3) rfl)) (hw _ (List.mem_of_getElem? (i := 2) rfl)) (by decide) (by decide)) (g := (mkF m 79 #[.val (.int p0), .val (.int p1), .val (.int p2), .val (.int p3), .val (.int p4), .val u1, .val u2, .val u3, .val (.ref ta), .unset, .unset, .unset, .unset, .unset, .unset] [(.int ((p4.toUInt32 >>> ((18 : Int32) &&& 31).toUInt32).toInt32)), u3, u8, u7, u2, u1, (.ref tb), (.ref tb)])) rfl (by rw [hml]; rfl) (argsL := [(.int ((p4.toUInt32 >>> ((18 : Int32) &&& 31).toUInt32).toInt32))]) (rest := [u3, u8, u7, u2, u1, (.ref tb), (.ref tb)]) (lenOf own_pd_29 rfl) rfl (by show 2 * 0 + _ ≤ _; simp [own_cR, own_cN, own_cI, own_cat1 (ru1.1), own_cat1 (ru2.1), own_cat1 (ru3.1), own_cat1 (ru7.1), own_cat1 (ru8.1)]) (Jvm.hb hby at_79) (fun _ _ => ⟨rfl, rfl, Nat.le_of_ble_eq_true rfl, Nat.le_of_ble_eq_true rfl⟩)
  dsimp only [Pt.U, Pt.locs, Pt.cells, Pt.slots] at X176 l176 y176 z176 st176 hQ176
  subst y176 z176
  obtain ⟨u9, c9, rfl, N176, K176, Pf9⟩ := hQ176
  have ru9 := own_O_ref (own_P_O Pf9)
  have N177 : Fr n0 L176 := by rw [l176]; exact Fr.app N155 N176
  have f178 := Nat.le_trans f156 K176.1
  have f179 := f157.trans (CHr.keep K176 sf0 f157.1)
  have f180 := Nat.le_trans f158 K176.1
  have f181 := own_stakeep f159 K176 all0
  have f182 := own_stakeep f160 K176 all0
  have f183 := own_P_keep f161 K176
  have f184 := own_P_keep f162 K176
  have f185 := own_P_keep f163 K176
  have f186 := f164.keep K176
  have f187 := f165.keep K176 nin0
  have f188 := f166.keep K176 nin0
  have f189 := f167.keep K176 nin0
  have f190 := f168.keep K176
  have f191 := f169.keep K176 nin0
  have f192 := f170.keep K176 nin0
  have f193 := f171.keep K176 nin0
  have f194 := f172.keep K176 nin0
  have f195 := f173.keep K176 nin0
  have f196 := f174.keep K176 nin0
  have f197 := own_P_keep f175 K176
  have f198 := own_P_keep Pf8 K176
  refine own_of (T' := T176) (f' := (mkF m 82 #[.val (.int p0), .val (.int p1), .val (.int p2), .val (.int p3), .val (.int p4), .val u1, .val u2, .val u3, .val (.ref ta), .unset, .unset, .unset, .unset, .unset, .unset] [u9, u3, u8, u7, u2, u1, (.ref tb), (.ref tb)])) (fun t_ k_ => (st176 _ k_)) ?_
  obtain ⟨_, _, ⟨T199, L199, k199, n199⟩, -, X199, ⟨Lc199, hQ199, l199, y199, z199⟩, st199⟩ := X176.specialBack hx (y := (⟨"com/example/austere_auth/austereauth/grant/TokenRequest", "<init>", "(Ljava/lang/String;Ljava/lang/String;Ljava/lang/String;Ljava/lang/String;Ljava/lang/String;Ljava/lang/String;)V"⟩ : MethodName)) rfl hown (mvT hZ (hw _ (List.mem_of_getElem? (i := 33) rfl))) (mvT hZ (hw _ (List.mem_of_getElem? (i := 34) rfl))) (mvT hZ (hw _ (List.mem_of_getElem? (i := 35) rfl))) (by decide) (backOf (W := 1) (own_rm_tri l Z a0 hw [] tb u1 u2 u7 u8 u3 u9 T176.heap n0 f180 f190 g_tb f191 f192 f193 f194 f195 f196 ru1 ru2 ru7 ru8 ru3 ru9) hZ (hw _ (List.mem_of_getElem? (i := 35) rfl)) (hw _ (List.mem_of_getElem? (i := 32) rfl)) (by decide) (by decide)) (g := (mkF m 82 #[.val (.int p0), .val (.int p1), .val (.int p2), .val (.int p3), .val (.int p4), .val u1, .val u2, .val u3, .val (.ref ta), .unset, .unset, .unset, .unset, .unset, .unset] [u9, u3, u8, u7, u2, u1, (.ref tb), (.ref tb)])) rfl (by rw [hml]; rfl) (Steps.refl _) (a := tb) (argsL := [u1, u2, u7, u8, u3, u9]) (rest := [(.ref tb)]) (lenOf own_pd_30 rfl) rfl (by show 2 * 0 + _ ≤ _; exact Nat.le_of_eq rfl) (Jvm.hb hby at_82) (fun _ _ => ⟨rfl, rfl, Nat.le_of_ble_eq_true rfl, Nat.le_of_ble_eq_true rfl⟩)
  dsimp only [Pt.U, Pt.locs, Pt.cells, Pt.slots] at X199 l199 y199 z199 st199 hQ199
  subst y199 z199
  obtain ⟨rfl, N199, K199, Etb_, Fatb_, Fbtb_, Fctb_⟩ := hQ199
  have N200 : Fr n0 L199 := by rw [l199]; exact Fr.app N177 N199
  have f201 := Nat.le_trans f178 K199.1
  have f202 := f179.trans (CHr.keep K199 (sfS (Safe.exa hZ.alike f190 (by decide) (by decide)) sf0) f179.1)
  have f203 := Nat.le_trans f180 K199.1
  have f204 := own_stakeep f181 K199 (allS (own_plainE f190) all0)
  have f205 := own_stakeep f182 K199 (allS (own_plainE f190) all0)
  have f206 := own_P_keepX f183 K199 f190 (hw _ (List.mem_of_getElem? (i := 31) rfl))
  have f207 := own_P_keepX f184 K199 f190 (hw _ (List.mem_of_getElem? (i := 31) rfl))
  have f208 := own_P_keepX f185 K199 f190 (hw _ (List.mem_of_getElem? (i := 31) rfl))
  have f209 := f186.keep K199
  have f210 := f187.keep K199 (ninS ne_ta_tb nin0)
  have f211 := f188.keep K199 (ninS ne_ta_tb nin0)
  have f212 := f189.keep K199 (ninS ne_ta_tb nin0)
  have f213 := f190.keep K199
  have f220 := own_P_keepX f197 K199 f190 (hw _ (List.mem_of_getElem? (i := 31) rfl))
  have f221 := own_P_keepX f198 K199 f190 (hw _ (List.mem_of_getElem? (i := 31) rfl))
  have f222 := own_P_keepX Pf9 K199 f190 (hw _ (List.mem_of_getElem? (i := 31) rfl))
  refine own_of (T' := T199) (f' := (mkF m 89 #[.val (.int p0), .val (.int p1), .val (.int p2), .val (.int p3), .val (.int p4), .val u1, .val u2, .val u3, .val (.ref ta), .val (.ref tb), .unset, .unset, .unset, .unset, .unset] [(.ref ta)])) (fun t_ k_ => (st199.trans (XS.astore X199.here hx rfl (Jvm.hb hby at_85) rfl rfl (l' := #[.val (.int p0), .val (.int p1), .val (.int p2), .val (.int p3), .val (.int p4), .val u1, .val u2, .val u3, .val (.ref ta), .val (.ref tb), .unset, .unset, .unset, .unset, .unset]) rfl (XS.aload X199.here hx rfl (Jvm.hb hby at_87) rfl rfl k_)))) ?_
  obtain ⟨cq224, kq224, q224a, q224b, q224c⟩ := isOf hZ rfl f209
  obtain ⟨_, _, ⟨T223, L223, k223, n223⟩, -, X223, hs223, gr223, ⟨Lc223, hQ223, l223, y223, z223, hC223⟩, st223⟩ := X199.virtualBackS hx (y := (⟨"com/example/austere_auth/austereauth/grant/TokenRequest", "toString", "()Ljava/lang/String;"⟩ : MethodName)) (z := (⟨"com/example/austere_auth/austereauth/grant/TokenRequest", "toString", "()Ljava/lang/String;"⟩ : MethodName)) hown (mvT hZ (hw _ (List.mem_of_getElem? (i := 54) rfl))) (mvT hZ (hw _ (List.mem_of_getElem? (i := 55) rfl))) (notFace_of_selects (args := #[]) (mvT hZ (hw _ (List.mem_of_getElem? (i := 57) rfl)))) (mvT hZ (hw _ (List.mem_of_getElem? (i := 57) rfl))) (mvT hZ (hw _ (List.mem_of_getElem? (i := 56) rfl))) (by decide) (backOfSH (W := 0) (own_rm_tts l Z a0 hw [] ta G1 u1 u2 u3 c1 c2 c3 T199.heap n0 f203 f204 P5 f210 (own_P_O f206) (own_C_len (own_P_C f206)) f211 (own_P_O f207) (own_C_len (own_P_C f207)) f212 (own_P_O f208) (own_C_len (own_P_C f208))) hZ (hw _ (List.mem_of_getElem? (i := 58) rfl)) (hw _ (List.mem_of_getElem? (i := 32) rfl)) (by decide) (by decide) hEL f202.1) q224a q224c (g := (mkF m 89 #[.val (.int p0), .val (.int p1), .val (.int p2), .val (.int p3), .val (.int p4), .val u1, .val u2, .val u3, .val (.ref ta), .val (.ref tb), .unset, .unset, .unset, .unset, .unset] [(.ref ta)])) rfl (by rw [hml]; rfl) (Steps.refl _) (argsL := []) (rest := []) (lenOf own_pd_20 rfl) rfl (by show 2 * 0 + _ ≤ _; exact Nat.le_of_eq rfl) (Jvm.hb hby at_89) (fun _ _ => ⟨rfl, rfl, Nat.le_of_ble_eq_true rfl, Nat.le_of_ble_eq_true rfl⟩)
  dsimp only [Pt.U, Pt.locs, Pt.cells, Pt.slots] at X223 hs223 gr223 l223 y223 z223 st223 hQ223
  subst y223 z223
  obtain ⟨X223, hS, hZ, hown⟩ := rebS (n1 := T199.heap.size) hS f201 X223 hs223 gr223 hZ hown
  have f225 := f202.trans hC223
  obtain ⟨xx, xxt, xxk, rfl, N223, K223, Sxx⟩ := hQ223
  have N226 : Fr n0 L223 := by rw [l223]; exact Fr.app N200 N223
  have f227 := Nat.le_trans f203 K223.1
  have f228 := own_stakeep f204 K223 all0
  have f229 := own_stakeep f205 K223 all0
  have f230 := own_P_keep f206 K223
  have f231 := own_P_keep f207 K223
  have f232 := own_P_keep f208 K223
  have f233 := f209.keep K223
  have f234 := f210.keep K223 nin0
  have f235 := f211.keep K223 nin0
  have f236 := f212.keep K223 nin0
  have f237 := Etb_.keep K223
  have f238 := Fatb_.keep K223 nin0
  have f239 := Fbtb_.keep K223 nin0
  have f240 := Fctb_.keep K223 nin0
  have f241 := (Nat.le_refl _ : T223.heap.size ≤ T223.heap.size)
  refine own_of (T' := T223) (f' := (mkF m 96 #[.val (.int p0), .val (.int p1), .val (.int p2), .val (.int p3), .val (.int p4), .val u1, .val u2, .val u3, .val (.ref ta), .val (.ref tb), .val (.ref xx), .unset, .unset, .unset, .unset] [(.ref tb)])) (fun t_ k_ => (st223.trans (XS.astore X223.here hx rfl (Jvm.hb hby at_92) rfl rfl (l' := #[.val (.int p0), .val (.int p1), .val (.int p2), .val (.int p3), .val (.int p4), .val u1, .val u2, .val u3, .val (.ref ta), .val (.ref tb), .val (.ref xx), .unset, .unset, .unset, .unset]) rfl (XS.aload X223.here hx rfl (Jvm.hb hby at_94) rfl rfl k_)))) ?_
  obtain ⟨cq243, kq243, q243a, q243b, q243c⟩ := isOf hZ rfl f237
  obtain ⟨_, _, ⟨T242, L242, k242, n242⟩, -, X242, hs242, gr242, ⟨Lc242, hQ242, l242, y242, z242, hC242⟩, st242⟩ := X223.virtualBackS hx (y := (⟨"com/example/austere_auth/austereauth/grant/TokenRequest", "toString", "()Ljava/lang/String;"⟩ : MethodName)) (z := (⟨"com/example/austere_auth/austereauth/grant/TokenRequest", "toString", "()Ljava/lang/String;"⟩ : MethodName)) hown (mvT hZ (hw _ (List.mem_of_getElem? (i := 54) rfl))) (mvT hZ (hw _ (List.mem_of_getElem? (i := 55) rfl))) (notFace_of_selects (args := #[]) (mvT hZ (hw _ (List.mem_of_getElem? (i := 57) rfl)))) (mvT hZ (hw _ (List.mem_of_getElem? (i := 57) rfl))) (mvT hZ (hw _ (List.mem_of_getElem? (i := 56) rfl))) (by decide) (backOfSH (W := 0) (own_rm_tts l Z a0 hw [] tb G1 u1 u2 u3 c1 c2 c3 T223.heap n0 f227 f228 P5 f238 (own_P_O f230) (own_C_len (own_P_C f230)) f239 (own_P_O f231) (own_C_len (own_P_C f231)) f240 (own_P_O f232) (own_C_len (own_P_C f232))) hZ (hw _ (List.mem_of_getElem? (i := 58) rfl)) (hw _ (List.mem_of_getElem? (i := 32) rfl)) (by decide) (by decide) hEL f225.1) q243a q243c (g := (mkF m 96 #[.val (.int p0), .val (.int p1), .val (.int p2), .val (.int p3), .val (.int p4), .val u1, .val u2, .val u3, .val (.ref ta), .val (.ref tb), .val (.ref xx), .unset, .unset, .unset, .unset] [(.ref tb)])) rfl (by rw [hml]; rfl) (Steps.refl _) (argsL := []) (rest := []) (lenOf own_pd_20 rfl) rfl (by show 2 * 0 + _ ≤ _; exact Nat.le_of_eq rfl) (Jvm.hb hby at_96) (fun _ _ => ⟨rfl, rfl, Nat.le_of_ble_eq_true rfl, Nat.le_of_ble_eq_true rfl⟩)
  dsimp only [Pt.U, Pt.locs, Pt.cells, Pt.slots] at X242 hs242 gr242 l242 y242 z242 st242 hQ242
  subst y242 z242
  obtain ⟨X242, hS, hZ, hown⟩ := rebS (n1 := T223.heap.size) hS f241 X242 hs242 gr242 hZ hown
  have f244 := f225.trans hC242
  obtain ⟨yy, yyt, yyk, rfl, N242, K242, Syy⟩ := hQ242
  have N245 : Fr n0 L242 := by rw [l242]; exact Fr.app N226 N242
  have f246 := Nat.le_trans f227 K242.1
  have f247 := own_stakeep f228 K242 all0
  have f248 := own_stakeep f229 K242 all0
  have f249 := own_P_keep f230 K242
  have f250 := own_P_keep f231 K242
  have f251 := own_P_keep f232 K242
  have f252 := f233.keep K242
  have f253 := f234.keep K242 nin0
  have f254 := f235.keep K242 nin0
  have f255 := f236.keep K242 nin0
  have f256 := f237.keep K242
  have f257 := f238.keep K242 nin0
  have f258 := f239.keep K242 nin0
  have f259 := f240.keep K242 nin0
  have f260 := (Nat.le_refl _ : T242.heap.size ≤ T242.heap.size)
  refine own_of (T' := T242) (f' := (mkF m 99 #[.val (.int p0), .val (.int p1), .val (.int p2), .val (.int p3), .val (.int p4), .val u1, .val u2, .val u3, .val (.ref ta), .val (.ref tb), .val (.ref xx), .unset, .unset, .unset, .unset] [(.ref yy)])) (fun t_ k_ => (st242.trans k_)) ?_
  have Sx := own_S_keep Sxx K242 nin0 nin0
  refine own_of (T' := T242) (f' := (mkF m 105 #[.val (.int p0), .val (.int p1), .val (.int p2), .val (.int p3), .val (.int p4), .val u1, .val u2, .val u3, .val (.ref ta), .val (.ref tb), .val (.ref xx), .val (.ref yy), .unset, .unset, .unset] [(.ref yy), (.ref xx)])) (fun t_ k_ => (XS.astore X242.here hx rfl (Jvm.hb hby at_99) rfl rfl (l' := #[.val (.int p0), .val (.int p1), .val (.int p2), .val (.int p3), .val (.int p4), .val u1, .val u2, .val u3, .val (.ref ta), .val (.ref tb), .val (.ref xx), .val (.ref yy), .unset, .unset, .unset]) rfl (XS.aload X242.here hx rfl (Jvm.hb hby at_101) rfl rfl (XS.aload X242.here hx rfl (Jvm.hb hby at_103) rfl rfl k_)))) ?_
  have hTl := own_txl c1 c2 c3
  have hC1 := own_P_C f249
  have hC2 := own_P_C f250
  have hC3 := own_P_C f251
  have hl1 := own_C_len hC1
  have hl2 := own_C_len hC2
  have hl3 := own_C_len hC3
  obtain ⟨at1, at2, at3, at4, at5, at6, at7⟩ := own_ats c1 c2 c3 hC1 hC2 hC3
  have hR : ∀ x : Int32, x = 61 ∨ x = 93 → ¬ x < 0 ∧ ¬ (255 : Int32) < x := fun x q => by rcases q with rfl | rfl <;> decide
  obtain ⟨cq262, kq262, q262a, q262b, q262c⟩ := isOf hZ rfl Sx.1
  obtain ⟨_, _, ⟨T261, L261, k261, n261⟩, -, X261, ⟨Lc261, hQ261, l261, y261, z261⟩, st261⟩ := X242.virtualBack hx (y := (⟨"java/lang/String", "equals", "(Ljava/lang/Object;)Z"⟩ : MethodName)) (z := (⟨"java/lang/String", "equals", "(Ljava/lang/Object;)Z"⟩ : MethodName)) hown (mvT hZ (hw _ (List.mem_of_getElem? (i := 192) rfl))) (mvT hZ (hw _ (List.mem_of_getElem? (i := 193) rfl))) (notFace_of_selects (args := #[]) (mvT hZ (hw _ (List.mem_of_getElem? (i := 195) rfl)))) (mvT hZ (hw _ (List.mem_of_getElem? (i := 195) rfl))) (mvT hZ (hw _ (List.mem_of_getElem? (i := 194) rfl))) (by decide) (backOf (W := 0) (own_rm_seq l Z a0 hw [] xx yy G1 xxt xxk (own_txt c1 c2 c3) yyt yyk T242.heap n0 f246 f247 P5 Sx Syy (by omega)) hZ (hw _ (List.mem_of_getElem? (i := 196) rfl)) (hw _ (List.mem_of_getElem? (i := 6) rfl)) (by decide) (by decide)) q262a q262c (g := (mkF m 105 #[.val (.int p0), .val (.int p1), .val (.int p2), .val (.int p3), .val (.int p4), .val u1, .val u2, .val u3, .val (.ref ta), .val (.ref tb), .val (.ref xx), .val (.ref yy), .unset, .unset, .unset] [(.ref yy), (.ref xx)])) rfl (by rw [hml]; rfl) (Steps.refl _) (argsL := [(.ref yy)]) (rest := []) (lenOf own_pd_31 rfl) rfl (by show 2 * 0 + _ ≤ _; exact Nat.le_of_eq rfl) (Jvm.hb hby at_105) (fun _ _ => ⟨rfl, rfl, Nat.le_of_ble_eq_true rfl, Nat.le_of_ble_eq_true rfl⟩)
  dsimp only [Pt.U, Pt.locs, Pt.cells, Pt.slots] at X261 l261 y261 z261 st261 hQ261
  subst y261 z261
  obtain ⟨rfl, N261, e261⟩ := hQ261
  have N263 : Fr n0 L261 := by rw [l261]; exact Fr.app N245 N261
  refine own_of (T' := T261) (f' := (mkF m 115 #[.val (.int p0), .val (.int p1), .val (.int p2), .val (.int p3), .val (.int p4), .val u1, .val u2, .val u3, .val (.ref ta), .val (.ref tb), .val (.ref xx), .val (.ref yy), .unset, .unset, .unset] [u1])) (fun t_ k_ => (st261.trans (XS.ifYes X261.here hx rfl (pc0 := 108) (pc' := 113) rfl (Jvm.hb hby at_108) rfl ((if0 _ _).trans (feq (by decide)).2) (by decide) (by decide) (XS.aload X261.here hx rfl (Jvm.hb hby at_113) rfl ru1.1 k_)))) ?_
  obtain ⟨_, _, ⟨T264, L264, k264, n264⟩, -, X264, ⟨Lc264, hQ264, l264, y264, z264⟩, st264⟩ := Jvm.LawKit.callS X261 hx (y := (⟨"com/example/austere_auth/austereauth/grant/TokenRequestToStringPinLaw", "len", "(Ljava/lang/String;)I"⟩ : MethodName)) hown (mvT hZ (hw _ (List.mem_of_getElem? (i := 200) rfl))) (mvT hZ (hw _ (List.mem_of_getElem? (i := 201) rfl))) (mvT hZ (hw _ (List.mem_of_getElem? (i := 2) rfl))) (mvT hZ (hw _ (List.mem_of_getElem? (i := 202) rfl))) (by decide) (backOf (W := 0) (own_rm_len l Z a0 hw [] u1 c1 T242.heap n0 f246 f249) hZ (hw _ (List.mem_of_getElem? (i := 202) rfl)) (hw _ (List.mem_of_getElem? (i := 2) rfl)) (by decide) (by decide)) (g := (mkF m 115 #[.val (.int p0), .val (.int p1), .val (.int p2), .val (.int p3), .val (.int p4), .val u1, .val u2, .val u3, .val (.ref ta), .val (.ref tb), .val (.ref xx), .val (.ref yy), .unset, .unset, .unset] [u1])) rfl (by rw [hml]; rfl) (argsL := [u1]) (rest := []) (lenOf own_pd_32 rfl) rfl (by show 2 * 0 + _ ≤ _; exact Nat.le_of_eq rfl) (Jvm.hb hby at_115) (fun _ _ => ⟨rfl, e261, Nat.le_of_ble_eq_true rfl, Nat.le_of_ble_eq_true rfl⟩)
  dsimp only [Pt.U, Pt.locs, Pt.cells, Pt.slots] at X264 l264 y264 z264 st264 hQ264
  subst y264 z264
  obtain ⟨rfl, N264, e264⟩ := hQ264
  have N265 : Fr n0 L264 := by rw [l264]; exact Fr.app N263 N264
  refine own_of (T' := T264) (f' := (mkF m 122 #[.val (.int p0), .val (.int p1), .val (.int p2), .val (.int p3), .val (.int p4), .val u1, .val u2, .val u3, .val (.ref ta), .val (.ref tb), .val (.ref xx), .val (.ref yy), .val (.int (Int32.ofNat (c1.length))), .unset, .unset] [u2])) (fun t_ k_ => (st264 _ (XS.istore X264.here hx rfl (Jvm.hb hby at_118) rfl (l' := #[.val (.int p0), .val (.int p1), .val (.int p2), .val (.int p3), .val (.int p4), .val u1, .val u2, .val u3, .val (.ref ta), .val (.ref tb), .val (.ref xx), .val (.ref yy), .val (.int (Int32.ofNat (c1.length))), .unset, .unset]) rfl (XS.aload X264.here hx rfl (Jvm.hb hby at_120) rfl ru2.1 k_)))) ?_
  obtain ⟨_, _, ⟨T266, L266, k266, n266⟩, -, X266, ⟨Lc266, hQ266, l266, y266, z266⟩, st266⟩ := Jvm.LawKit.callS X264 hx (y := (⟨"com/example/austere_auth/austereauth/grant/TokenRequestToStringPinLaw", "len", "(Ljava/lang/String;)I"⟩ : MethodName)) hown (mvT hZ (hw _ (List.mem_of_getElem? (i := 200) rfl))) (mvT hZ (hw _ (List.mem_of_getElem? (i := 201) rfl))) (mvT hZ (hw _ (List.mem_of_getElem? (i := 2) rfl))) (mvT hZ (hw _ (List.mem_of_getElem? (i := 202) rfl))) (by decide) (backOf (W := 0) (own_rm_len l Z a0 hw [] u2 c2 T242.heap n0 f246 f250) hZ (hw _ (List.mem_of_getElem? (i := 202) rfl)) (hw _ (List.mem_of_getElem? (i := 2) rfl)) (by decide) (by decide)) (g := (mkF m 122 #[.val (.int p0), .val (.int p1), .val (.int p2), .val (.int p3), .val (.int p4), .val u1, .val u2, .val u3, .val (.ref ta), .val (.ref tb), .val (.ref xx), .val (.ref yy), .val (.int (Int32.ofNat (c1.length))), .unset, .unset] [u2])) rfl (by rw [hml]; rfl) (argsL := [u2]) (rest := []) (lenOf own_pd_32 rfl) rfl (by show 2 * 0 + _ ≤ _; exact Nat.le_of_eq rfl) (Jvm.hb hby at_122) (fun _ _ => ⟨rfl, e264, Nat.le_of_ble_eq_true rfl, Nat.le_of_ble_eq_true rfl⟩)
  dsimp only [Pt.U, Pt.locs, Pt.cells, Pt.slots] at X266 l266 y266 z266 st266 hQ266
  subst y266 z266
  obtain ⟨rfl, N266, e266⟩ := hQ266
  have N267 : Fr n0 L266 := by rw [l266]; exact Fr.app N265 N266
  refine own_of (T' := T266) (f' := (mkF m 129 #[.val (.int p0), .val (.int p1), .val (.int p2), .val (.int p3), .val (.int p4), .val u1, .val u2, .val u3, .val (.ref ta), .val (.ref tb), .val (.ref xx), .val (.ref yy), .val (.int (Int32.ofNat (c1.length))), .val (.int (Int32.ofNat (c2.length))), .unset] [u3])) (fun t_ k_ => (st266 _ (XS.istore X266.here hx rfl (Jvm.hb hby at_125) rfl (l' := #[.val (.int p0), .val (.int p1), .val (.int p2), .val (.int p3), .val (.int p4), .val u1, .val u2, .val u3, .val (.ref ta), .val (.ref tb), .val (.ref xx), .val (.ref yy), .val (.int (Int32.ofNat (c1.length))), .val (.int (Int32.ofNat (c2.length))), .unset]) rfl (XS.aload X266.here hx rfl (Jvm.hb hby at_127) rfl ru3.1 k_)))) ?_
  obtain ⟨_, _, ⟨T268, L268, k268, n268⟩, -, X268, ⟨Lc268, hQ268, l268, y268, z268⟩, st268⟩ := Jvm.LawKit.callS X266 hx (y := (⟨"com/example/austere_auth/austereauth/grant/TokenRequestToStringPinLaw", "len", "(Ljava/lang/String;)I"⟩ : MethodName)) hown (mvT hZ (hw _ (List.mem_of_getElem? (i := 200) rfl))) (mvT hZ (hw _ (List.mem_of_getElem? (i := 201) rfl))) (mvT hZ (hw _ (List.mem_of_getElem? (i := 2) rfl))) (mvT hZ (hw _ (List.mem_of_getElem? (i := 202) rfl))) (by decide) (backOf (W := 0) (own_rm_len l Z a0 hw [] u3 c3 T242.heap n0 f246 f251) hZ (hw _ (List.mem_of_getElem? (i := 202) rfl)) (hw _ (List.mem_of_getElem? (i := 2) rfl)) (by decide) (by decide)) (g := (mkF m 129 #[.val (.int p0), .val (.int p1), .val (.int p2), .val (.int p3), .val (.int p4), .val u1, .val u2, .val u3, .val (.ref ta), .val (.ref tb), .val (.ref xx), .val (.ref yy), .val (.int (Int32.ofNat (c1.length))), .val (.int (Int32.ofNat (c2.length))), .unset] [u3])) rfl (by rw [hml]; rfl) (argsL := [u3]) (rest := []) (lenOf own_pd_32 rfl) rfl (by show 2 * 0 + _ ≤ _; exact Nat.le_of_eq rfl) (Jvm.hb hby at_129) (fun _ _ => ⟨rfl, e266, Nat.le_of_ble_eq_true rfl, Nat.le_of_ble_eq_true rfl⟩)
  dsimp only [Pt.U, Pt.locs, Pt.cells, Pt.slots] at X268 l268 y268 z268 st268 hQ268
  subst y268 z268
  obtain ⟨rfl, N268, e268⟩ := hQ268
  have N269 : Fr n0 L268 := by rw [l268]; exact Fr.app N267 N268
  refine own_of (T' := T268) (f' := (mkF m 136 #[.val (.int p0), .val (.int p1), .val (.int p2), .val (.int p3), .val (.int p4), .val u1, .val u2, .val u3, .val (.ref ta), .val (.ref tb), .val (.ref xx), .val (.ref yy), .val (.int (Int32.ofNat (c1.length))), .val (.int (Int32.ofNat (c2.length))), .val (.int (Int32.ofNat (c3.length)))] [(.ref xx)])) (fun t_ k_ => (st268 _ (XS.istore X268.here hx rfl (Jvm.hb hby at_132) rfl (l' := #[.val (.int p0), .val (.int p1), .val (.int p2), .val (.int p3), .val (.int p4), .val u1, .val u2, .val u3, .val (.ref ta), .val (.ref tb), .val (.ref xx), .val (.ref yy), .val (.int (Int32.ofNat (c1.length))), .val (.int (Int32.ofNat (c2.length))), .val (.int (Int32.ofNat (c3.length)))]) rfl (XS.aload X268.here hx rfl (Jvm.hb hby at_134) rfl rfl k_)))) ?_
  obtain ⟨cq271, kq271, q271a, q271b, q271c⟩ := isOf hZ e268 Sx.1
  obtain ⟨_, _, ⟨T270, L270, k270, n270⟩, -, X270, ⟨Lc270, hQ270, l270, y270, z270⟩, st270⟩ := X268.virtualBack hx (y := (⟨"java/lang/String", "length", "()I"⟩ : MethodName)) (z := (⟨"java/lang/String", "length", "()I"⟩ : MethodName)) hown (mvT hZ (hw _ (List.mem_of_getElem? (i := 203) rfl))) (mvT hZ (hw _ (List.mem_of_getElem? (i := 91) rfl))) (notFace_of_selects (args := #[]) (mvT hZ (hw _ (List.mem_of_getElem? (i := 93) rfl)))) (mvT hZ (hw _ (List.mem_of_getElem? (i := 93) rfl))) (mvT hZ (hw _ (List.mem_of_getElem? (i := 92) rfl))) (by decide) (backOf (W := 0) (own_rm_sle l Z a0 hw [] xx G1 xxt xxk (own_txt c1 c2 c3) T242.heap n0 f246 f247 P5 Sx) hZ (hw _ (List.mem_of_getElem? (i := 94) rfl)) (hw _ (List.mem_of_getElem? (i := 6) rfl)) (by decide) (by decide)) q271a q271c (g := (mkF m 136 #[.val (.int p0), .val (.int p1), .val (.int p2), .val (.int p3), .val (.int p4), .val u1, .val u2, .val u3, .val (.ref ta), .val (.ref tb), .val (.ref xx), .val (.ref yy), .val (.int (Int32.ofNat (c1.length))), .val (.int (Int32.ofNat (c2.length))), .val (.int (Int32.ofNat (c3.length)))] [(.ref xx)])) rfl (by rw [hml]; rfl) (Steps.refl _) (argsL := []) (rest := []) (lenOf own_pd_7 rfl) rfl (by show 2 * 0 + _ ≤ _; exact Nat.le_of_eq rfl) (Jvm.hb hby at_136) (fun _ _ => ⟨rfl, e268, Nat.le_of_ble_eq_true rfl, Nat.le_of_ble_eq_true rfl⟩)
  dsimp only [Pt.U, Pt.locs, Pt.cells, Pt.slots] at X270 l270 y270 z270 st270 hQ270
  subst y270 z270
  obtain ⟨rfl, N270, e270⟩ := hQ270
  have N272 : Fr n0 L270 := by rw [l270]; exact Fr.app N269 N270
  refine own_of (T' := T270) (f' := (mkF m 150 #[.val (.int p0), .val (.int p1), .val (.int p2), .val (.int p3), .val (.int p4), .val u1, .val u2, .val u3, .val (.ref ta), .val (.ref tb), .val (.ref xx), .val (.ref yy), .val (.int (Int32.ofNat (c1.length))), .val (.int (Int32.ofNat (c2.length))), .val (.int (Int32.ofNat (c3.length)))] [(.int ((((49 : Int32) + (Int32.ofNat (c1.length))) + (Int32.ofNat (c2.length))) + (Int32.ofNat (c3.length)))), (.int (Int32.ofNat ((own_txt c1 c2 c3).length)))])) (fun t_ k_ => (st270.trans (XS.bipush X270.here hx rfl (Jvm.hb hby at_139) (XS.iload X270.here hx rfl (Jvm.hb hby at_141) rfl (XS.iadd X270.here hx rfl (Jvm.hb hby at_143) rfl (XS.iload X270.here hx rfl (Jvm.hb hby at_144) rfl (XS.iadd X270.here hx rfl (Jvm.hb hby at_146) rfl (XS.iload X270.here hx rfl (Jvm.hb hby at_147) rfl (XS.iadd X270.here hx rfl (Jvm.hb hby at_149) rfl k_))))))))) ?_
  refine own_of (T' := T270) (f' := (mkF m 159 #[.val (.int p0), .val (.int p1), .val (.int p2), .val (.int p3), .val (.int p4), .val u1, .val u2, .val u3, .val (.ref ta), .val (.ref tb), .val (.ref xx), .val (.ref yy), .val (.int (Int32.ofNat (c1.length))), .val (.int (Int32.ofNat (c2.length))), .val (.int (Int32.ofNat (c3.length)))] [(.int (22 : Int32)), (.ref xx)])) (fun t_ k_ => (XS.icmpYes X270.here hx rfl (pc0 := 150) (pc' := 155) rfl (Jvm.hb hby at_150) rfl (teq (by
      rw [hTl, (show (49 : Int32) = Int32.ofNat 49 from rfl), own_add, own_add, own_add])).1 (by decide) (by decide) (XS.aload X270.here hx rfl (Jvm.hb hby at_155) rfl rfl (XS.bipush X270.here hx rfl (Jvm.hb hby at_157) k_)))) ?_
  obtain ⟨cq274, kq274, q274a, q274b, q274c⟩ := isOf hZ e270 Sx.1
  obtain ⟨_, _, ⟨T273, L273, k273, n273⟩, -, X273, ⟨Lc273, hQ273, l273, y273, z273⟩, st273⟩ := X270.virtualBack hx (y := (⟨"java/lang/String", "charAt", "(I)C"⟩ : MethodName)) (z := (⟨"java/lang/String", "charAt", "(I)C"⟩ : MethodName)) hown (mvT hZ (hw _ (List.mem_of_getElem? (i := 204) rfl))) (mvT hZ (hw _ (List.mem_of_getElem? (i := 205) rfl))) (notFace_of_selects (args := #[]) (mvT hZ (hw _ (List.mem_of_getElem? (i := 207) rfl)))) (mvT hZ (hw _ (List.mem_of_getElem? (i := 207) rfl))) (mvT hZ (hw _ (List.mem_of_getElem? (i := 206) rfl))) (by decide) (backOf (W := 0) (own_rm_cha l Z a0 hw [] xx (22 : Int32) G1 fm xxt xxk (own_txt c1 c2 c3) (22) T242.heap n0 f246 f247 P5 f248 rfm Sx (by omega) (by omega) rfl (by rw [at1]; exact (hR _ (Or.inl rfl)))) hZ (hw _ (List.mem_of_getElem? (i := 208) rfl)) (hw _ (List.mem_of_getElem? (i := 6) rfl)) (by decide) (by decide)) q274a q274c (g := (mkF m 159 #[.val (.int p0), .val (.int p1), .val (.int p2), .val (.int p3), .val (.int p4), .val u1, .val u2, .val u3, .val (.ref ta), .val (.ref tb), .val (.ref xx), .val (.ref yy), .val (.int (Int32.ofNat (c1.length))), .val (.int (Int32.ofNat (c2.length))), .val (.int (Int32.ofNat (c3.length)))] [(.int (22 : Int32)), (.ref xx)])) rfl (by rw [hml]; rfl) (Steps.refl _) (argsL := [(.int (22 : Int32))]) (rest := []) (lenOf own_pd_28 rfl) rfl (by show 2 * 0 + _ ≤ _; exact Nat.le_of_eq rfl) (Jvm.hb hby at_159) (fun _ _ => ⟨rfl, e270, Nat.le_of_ble_eq_true rfl, Nat.le_of_ble_eq_true rfl⟩)
  dsimp only [Pt.U, Pt.locs, Pt.cells, Pt.slots] at X273 l273 y273 z273 st273 hQ273
  subst y273 z273
  obtain ⟨rfl, N273, e273⟩ := hQ273
  have N275 : Fr n0 L273 := by rw [l273]; exact Fr.app N272 N273
  refine own_of (T' := T273) (f' := (mkF m 171 #[.val (.int p0), .val (.int p1), .val (.int p2), .val (.int p3), .val (.int p4), .val u1, .val u2, .val u3, .val (.ref ta), .val (.ref tb), .val (.ref xx), .val (.ref yy), .val (.int (Int32.ofNat (c1.length))), .val (.int (Int32.ofNat (c2.length))), .val (.int (Int32.ofNat (c3.length)))] [(.int (23 : Int32)), (.ref xx)])) (fun t_ k_ => (st273.trans (XS.bipush X273.here hx rfl (Jvm.hb hby at_162) (XS.icmpNo X273.here hx rfl (Jvm.hb hby at_164) rfl (teq at1).2 (XS.aload X273.here hx rfl (Jvm.hb hby at_167) rfl rfl (XS.bipush X273.here hx rfl (Jvm.hb hby at_169) k_)))))) ?_
  obtain ⟨cq277, kq277, q277a, q277b, q277c⟩ := isOf hZ e273 Sx.1
  obtain ⟨_, _, ⟨T276, L276, k276, n276⟩, -, X276, ⟨Lc276, hQ276, l276, y276, z276⟩, st276⟩ := X273.virtualBack hx (y := (⟨"java/lang/String", "charAt", "(I)C"⟩ : MethodName)) (z := (⟨"java/lang/String", "charAt", "(I)C"⟩ : MethodName)) hown (mvT hZ (hw _ (List.mem_of_getElem? (i := 204) rfl))) (mvT hZ (hw _ (List.mem_of_getElem? (i := 205) rfl))) (notFace_of_selects (args := #[]) (mvT hZ (hw _ (List.mem_of_getElem? (i := 207) rfl)))) (mvT hZ (hw _ (List.mem_of_getElem? (i := 207) rfl))) (mvT hZ (hw _ (List.mem_of_getElem? (i := 206) rfl))) (by decide) (backOf (W := 0) (own_rm_cha l Z a0 hw [] xx (23 : Int32) G1 fm xxt xxk (own_txt c1 c2 c3) (23) T242.heap n0 f246 f247 P5 f248 rfm Sx (by omega) (by omega) rfl (by rw [at2]; exact own_C_0 hC1)) hZ (hw _ (List.mem_of_getElem? (i := 208) rfl)) (hw _ (List.mem_of_getElem? (i := 6) rfl)) (by decide) (by decide)) q277a q277c (g := (mkF m 171 #[.val (.int p0), .val (.int p1), .val (.int p2), .val (.int p3), .val (.int p4), .val u1, .val u2, .val u3, .val (.ref ta), .val (.ref tb), .val (.ref xx), .val (.ref yy), .val (.int (Int32.ofNat (c1.length))), .val (.int (Int32.ofNat (c2.length))), .val (.int (Int32.ofNat (c3.length)))] [(.int (23 : Int32)), (.ref xx)])) rfl (by rw [hml]; rfl) (Steps.refl _) (argsL := [(.int (23 : Int32))]) (rest := []) (lenOf own_pd_28 rfl) rfl (by show 2 * 0 + _ ≤ _; exact Nat.le_of_eq rfl) (Jvm.hb hby at_171) (fun _ _ => ⟨rfl, e273, Nat.le_of_ble_eq_true rfl, Nat.le_of_ble_eq_true rfl⟩)
  dsimp only [Pt.U, Pt.locs, Pt.cells, Pt.slots] at X276 l276 y276 z276 st276 hQ276
  subst y276 z276
  obtain ⟨rfl, N276, e276⟩ := hQ276
  have N278 : Fr n0 L276 := by rw [l276]; exact Fr.app N275 N276
  refine own_of (T' := T276) (f' := (mkF m 176 #[.val (.int p0), .val (.int p1), .val (.int p2), .val (.int p3), .val (.int p4), .val u1, .val u2, .val u3, .val (.ref ta), .val (.ref tb), .val (.ref xx), .val (.ref yy), .val (.int (Int32.ofNat (c1.length))), .val (.int (Int32.ofNat (c2.length))), .val (.int (Int32.ofNat (c3.length)))] [u1, (.int ((own_txt c1 c2 c3).getD (23) 0))])) (fun t_ k_ => (st276.trans (XS.aload X276.here hx rfl (Jvm.hb hby at_174) rfl ru1.1 k_))) ?_
  obtain ⟨_, _, ⟨T279, L279, k279, n279⟩, -, X279, ⟨Lc279, hQ279, l279, y279, z279⟩, st279⟩ := Jvm.LawKit.callS X276 hx (y := (⟨"com/example/austere_auth/austereauth/grant/TokenRequestToStringPinLaw", "first", "(Ljava/lang/String;)C"⟩ : MethodName)) hown (mvT hZ (hw _ (List.mem_of_getElem? (i := 225) rfl))) (mvT hZ (hw _ (List.mem_of_getElem? (i := 226) rfl))) (mvT hZ (hw _ (List.mem_of_getElem? (i := 2) rfl))) (mvT hZ (hw _ (List.mem_of_getElem? (i := 227) rfl))) (by decide) (backOf (W := 1) (own_rm_fir l Z a0 hw [] u1 G1 fm c1 T242.heap n0 f246 f247 P5 f248 rfm f249) hZ (hw _ (List.mem_of_getElem? (i := 227) rfl)) (hw _ (List.mem_of_getElem? (i := 2) rfl)) (by decide) (by decide)) (g := (mkF m 176 #[.val (.int p0), .val (.int p1), .val (.int p2), .val (.int p3), .val (.int p4), .val u1, .val u2, .val u3, .val (.ref ta), .val (.ref tb), .val (.ref xx), .val (.ref yy), .val (.int (Int32.ofNat (c1.length))), .val (.int (Int32.ofNat (c2.length))), .val (.int (Int32.ofNat (c3.length)))] [u1, (.int ((own_txt c1 c2 c3).getD (23) 0))])) rfl (by rw [hml]; rfl) (argsL := [u1]) (rest := [(.int ((own_txt c1 c2 c3).getD (23) 0))]) (lenOf own_pd_33 rfl) rfl (by show 2 * 0 + _ ≤ _; exact Nat.le_of_eq rfl) (Jvm.hb hby at_176) (fun _ _ => ⟨rfl, e276, Nat.le_of_ble_eq_true rfl, Nat.le_of_ble_eq_true rfl⟩)
  dsimp only [Pt.U, Pt.locs, Pt.cells, Pt.slots] at X279 l279 y279 z279 st279 hQ279
  subst y279 z279
  obtain ⟨rfl, N279, e279⟩ := hQ279
  have N280 : Fr n0 L279 := by rw [l279]; exact Fr.app N278 N279
  refine own_of (T' := T279) (f' := (mkF m 189 #[.val (.int p0), .val (.int p1), .val (.int p2), .val (.int p3), .val (.int p4), .val u1, .val u2, .val u3, .val (.ref ta), .val (.ref tb), .val (.ref xx), .val (.ref yy), .val (.int (Int32.ofNat (c1.length))), .val (.int (Int32.ofNat (c2.length))), .val (.int (Int32.ofNat (c3.length)))] [(.int ((33 : Int32) + (Int32.ofNat (c1.length)))), (.ref xx)])) (fun t_ k_ => (st279 _ (XS.icmpNo X279.here hx rfl (Jvm.hb hby at_179) rfl (teq at2).2 (XS.aload X279.here hx rfl (Jvm.hb hby at_182) rfl rfl (XS.bipush X279.here hx rfl (Jvm.hb hby at_184) (XS.iload X279.here hx rfl (Jvm.hb hby at_186) rfl (XS.iadd X279.here hx rfl (Jvm.hb hby at_188) rfl k_))))))) ?_
  obtain ⟨cq282, kq282, q282a, q282b, q282c⟩ := isOf hZ e279 Sx.1
  obtain ⟨_, _, ⟨T281, L281, k281, n281⟩, -, X281, ⟨Lc281, hQ281, l281, y281, z281⟩, st281⟩ := X279.virtualBack hx (y := (⟨"java/lang/String", "charAt", "(I)C"⟩ : MethodName)) (z := (⟨"java/lang/String", "charAt", "(I)C"⟩ : MethodName)) hown (mvT hZ (hw _ (List.mem_of_getElem? (i := 204) rfl))) (mvT hZ (hw _ (List.mem_of_getElem? (i := 205) rfl))) (notFace_of_selects (args := #[]) (mvT hZ (hw _ (List.mem_of_getElem? (i := 207) rfl)))) (mvT hZ (hw _ (List.mem_of_getElem? (i := 207) rfl))) (mvT hZ (hw _ (List.mem_of_getElem? (i := 206) rfl))) (by decide) (backOf (W := 0) (own_rm_cha l Z a0 hw [] xx ((33 : Int32) + (Int32.ofNat (c1.length))) G1 fm xxt xxk (own_txt c1 c2 c3) (33 + c1.length) T242.heap n0 f246 f247 P5 f248 rfm Sx (by omega) (by omega) (own_add 33 c1.length) (by rw [at3]; exact (hR _ (Or.inl rfl)))) hZ (hw _ (List.mem_of_getElem? (i := 208) rfl)) (hw _ (List.mem_of_getElem? (i := 6) rfl)) (by decide) (by decide)) q282a q282c (g := (mkF m 189 #[.val (.int p0), .val (.int p1), .val (.int p2), .val (.int p3), .val (.int p4), .val u1, .val u2, .val u3, .val (.ref ta), .val (.ref tb), .val (.ref xx), .val (.ref yy), .val (.int (Int32.ofNat (c1.length))), .val (.int (Int32.ofNat (c2.length))), .val (.int (Int32.ofNat (c3.length)))] [(.int ((33 : Int32) + (Int32.ofNat (c1.length)))), (.ref xx)])) rfl (by rw [hml]; rfl) (Steps.refl _) (argsL := [(.int ((33 : Int32) + (Int32.ofNat (c1.length))))]) (rest := []) (lenOf own_pd_28 rfl) rfl (by show 2 * 0 + _ ≤ _; exact Nat.le_of_eq rfl) (Jvm.hb hby at_189) (fun _ _ => ⟨rfl, e279, Nat.le_of_ble_eq_true rfl, Nat.le_of_ble_eq_true rfl⟩)
  dsimp only [Pt.U, Pt.locs, Pt.cells, Pt.slots] at X281 l281 y281 z281 st281 hQ281
  subst y281 z281
  obtain ⟨rfl, N281, e281⟩ := hQ281
  have N283 : Fr n0 L281 := by rw [l281]; exact Fr.app N280 N281
  refine own_of (T' := T281) (f' := (mkF m 204 #[.val (.int p0), .val (.int p1), .val (.int p2), .val (.int p3), .val (.int p4), .val u1, .val u2, .val u3, .val (.ref ta), .val (.ref tb), .val (.ref xx), .val (.ref yy), .val (.int (Int32.ofNat (c1.length))), .val (.int (Int32.ofNat (c2.length))), .val (.int (Int32.ofNat (c3.length)))] [(.int ((34 : Int32) + (Int32.ofNat (c1.length)))), (.ref xx)])) (fun t_ k_ => (st281.trans (XS.bipush X281.here hx rfl (Jvm.hb hby at_192) (XS.icmpNo X281.here hx rfl (Jvm.hb hby at_194) rfl (teq at3).2 (XS.aload X281.here hx rfl (Jvm.hb hby at_197) rfl rfl (XS.bipush X281.here hx rfl (Jvm.hb hby at_199) (XS.iload X281.here hx rfl (Jvm.hb hby at_201) rfl (XS.iadd X281.here hx rfl (Jvm.hb hby at_203) rfl k_)))))))) ?_
  obtain ⟨cq285, kq285, q285a, q285b, q285c⟩ := isOf hZ e281 Sx.1
  obtain ⟨_, _, ⟨T284, L284, k284, n284⟩, -, X284, ⟨Lc284, hQ284, l284, y284, z284⟩, st284⟩ := X281.virtualBack hx (y := (⟨"java/lang/String", "charAt", "(I)C"⟩ : MethodName)) (z := (⟨"java/lang/String", "charAt", "(I)C"⟩ : MethodName)) hown (mvT hZ (hw _ (List.mem_of_getElem? (i := 204) rfl))) (mvT hZ (hw _ (List.mem_of_getElem? (i := 205) rfl))) (notFace_of_selects (args := #[]) (mvT hZ (hw _ (List.mem_of_getElem? (i := 207) rfl)))) (mvT hZ (hw _ (List.mem_of_getElem? (i := 207) rfl))) (mvT hZ (hw _ (List.mem_of_getElem? (i := 206) rfl))) (by decide) (backOf (W := 0) (own_rm_cha l Z a0 hw [] xx ((34 : Int32) + (Int32.ofNat (c1.length))) G1 fm xxt xxk (own_txt c1 c2 c3) (34 + c1.length) T242.heap n0 f246 f247 P5 f248 rfm Sx (by omega) (by omega) (own_add 34 c1.length) (by rw [at4]; exact own_C_0 hC2)) hZ (hw _ (List.mem_of_getElem? (i := 208) rfl)) (hw _ (List.mem_of_getElem? (i := 6) rfl)) (by decide) (by decide)) q285a q285c (g := (mkF m 204 #[.val (.int p0), .val (.int p1), .val (.int p2), .val (.int p3), .val (.int p4), .val u1, .val u2, .val u3, .val (.ref ta), .val (.ref tb), .val (.ref xx), .val (.ref yy), .val (.int (Int32.ofNat (c1.length))), .val (.int (Int32.ofNat (c2.length))), .val (.int (Int32.ofNat (c3.length)))] [(.int ((34 : Int32) + (Int32.ofNat (c1.length)))), (.ref xx)])) rfl (by rw [hml]; rfl) (Steps.refl _) (argsL := [(.int ((34 : Int32) + (Int32.ofNat (c1.length))))]) (rest := []) (lenOf own_pd_28 rfl) rfl (by show 2 * 0 + _ ≤ _; exact Nat.le_of_eq rfl) (Jvm.hb hby at_204) (fun _ _ => ⟨rfl, e281, Nat.le_of_ble_eq_true rfl, Nat.le_of_ble_eq_true rfl⟩)
  dsimp only [Pt.U, Pt.locs, Pt.cells, Pt.slots] at X284 l284 y284 z284 st284 hQ284
  subst y284 z284
  obtain ⟨rfl, N284, e284⟩ := hQ284
  have N286 : Fr n0 L284 := by rw [l284]; exact Fr.app N283 N284
  refine own_of (T' := T284) (f' := (mkF m 209 #[.val (.int p0), .val (.int p1), .val (.int p2), .val (.int p3), .val (.int p4), .val u1, .val u2, .val u3, .val (.ref ta), .val (.ref tb), .val (.ref xx), .val (.ref yy), .val (.int (Int32.ofNat (c1.length))), .val (.int (Int32.ofNat (c2.length))), .val (.int (Int32.ofNat (c3.length)))] [u2, (.int ((own_txt c1 c2 c3).getD (34 + c1.length) 0))])) (fun t_ k_ => (st284.trans (XS.aload X284.here hx rfl (Jvm.hb hby at_207) rfl ru2.1 k_))) ?_
  obtain ⟨_, _, ⟨T287, L287, k287, n287⟩, -, X287, ⟨Lc287, hQ287, l287, y287, z287⟩, st287⟩ := Jvm.LawKit.callS X284 hx (y := (⟨"com/example/austere_auth/austereauth/grant/TokenRequestToStringPinLaw", "first", "(Ljava/lang/String;)C"⟩ : MethodName)) hown (mvT hZ (hw _ (List.mem_of_getElem? (i := 225) rfl))) (mvT hZ (hw _ (List.mem_of_getElem? (i := 226) rfl))) (mvT hZ (hw _ (List.mem_of_getElem? (i := 2) rfl))) (mvT hZ (hw _ (List.mem_of_getElem? (i := 227) rfl))) (by decide) (backOf (W := 1) (own_rm_fir l Z a0 hw [] u2 G1 fm c2 T242.heap n0 f246 f247 P5 f248 rfm f250) hZ (hw _ (List.mem_of_getElem? (i := 227) rfl)) (hw _ (List.mem_of_getElem? (i := 2) rfl)) (by decide) (by decide)) (g := (mkF m 209 #[.val (.int p0), .val (.int p1), .val (.int p2), .val (.int p3), .val (.int p4), .val u1, .val u2, .val u3, .val (.ref ta), .val (.ref tb), .val (.ref xx), .val (.ref yy), .val (.int (Int32.ofNat (c1.length))), .val (.int (Int32.ofNat (c2.length))), .val (.int (Int32.ofNat (c3.length)))] [u2, (.int ((own_txt c1 c2 c3).getD (34 + c1.length) 0))])) rfl (by rw [hml]; rfl) (argsL := [u2]) (rest := [(.int ((own_txt c1 c2 c3).getD (34 + c1.length) 0))]) (lenOf own_pd_33 rfl) rfl (by show 2 * 0 + _ ≤ _; exact Nat.le_of_eq rfl) (Jvm.hb hby at_209) (fun _ _ => ⟨rfl, e284, Nat.le_of_ble_eq_true rfl, Nat.le_of_ble_eq_true rfl⟩)
  dsimp only [Pt.U, Pt.locs, Pt.cells, Pt.slots] at X287 l287 y287 z287 st287 hQ287
  subst y287 z287
  obtain ⟨rfl, N287, e287⟩ := hQ287
  have N288 : Fr n0 L287 := by rw [l287]; exact Fr.app N286 N287
  refine own_of (T' := T287) (f' := (mkF m 225 #[.val (.int p0), .val (.int p1), .val (.int p2), .val (.int p3), .val (.int p4), .val u1, .val u2, .val u3, .val (.ref ta), .val (.ref tb), .val (.ref xx), .val (.ref yy), .val (.int (Int32.ofNat (c1.length))), .val (.int (Int32.ofNat (c2.length))), .val (.int (Int32.ofNat (c3.length)))] [(.int (((47 : Int32) + (Int32.ofNat (c1.length))) + (Int32.ofNat (c2.length)))), (.ref xx)])) (fun t_ k_ => (st287 _ (XS.icmpNo X287.here hx rfl (Jvm.hb hby at_212) rfl (teq at4).2 (XS.aload X287.here hx rfl (Jvm.hb hby at_215) rfl rfl (XS.bipush X287.here hx rfl (Jvm.hb hby at_217) (XS.iload X287.here hx rfl (Jvm.hb hby at_219) rfl (XS.iadd X287.here hx rfl (Jvm.hb hby at_221) rfl (XS.iload X287.here hx rfl (Jvm.hb hby at_222) rfl (XS.iadd X287.here hx rfl (Jvm.hb hby at_224) rfl k_))))))))) ?_
  obtain ⟨cq290, kq290, q290a, q290b, q290c⟩ := isOf hZ e287 Sx.1
  obtain ⟨_, _, ⟨T289, L289, k289, n289⟩, -, X289, ⟨Lc289, hQ289, l289, y289, z289⟩, st289⟩ := X287.virtualBack hx (y := (⟨"java/lang/String", "charAt", "(I)C"⟩ : MethodName)) (z := (⟨"java/lang/String", "charAt", "(I)C"⟩ : MethodName)) hown (mvT hZ (hw _ (List.mem_of_getElem? (i := 204) rfl))) (mvT hZ (hw _ (List.mem_of_getElem? (i := 205) rfl))) (notFace_of_selects (args := #[]) (mvT hZ (hw _ (List.mem_of_getElem? (i := 207) rfl)))) (mvT hZ (hw _ (List.mem_of_getElem? (i := 207) rfl))) (mvT hZ (hw _ (List.mem_of_getElem? (i := 206) rfl))) (by decide) (backOf (W := 0) (own_rm_cha l Z a0 hw [] xx (((47 : Int32) + (Int32.ofNat (c1.length))) + (Int32.ofNat (c2.length))) G1 fm xxt xxk (own_txt c1 c2 c3) (47 + c1.length + c2.length) T242.heap n0 f246 f247 P5 f248 rfm Sx (by omega) (by omega) (by rw [(show (47 : Int32) + Int32.ofNat c1.length = Int32.ofNat (47 + c1.length) from own_add 47 c1.length), own_add]) (by rw [at5]; exact (hR _ (Or.inl rfl)))) hZ (hw _ (List.mem_of_getElem? (i := 208) rfl)) (hw _ (List.mem_of_getElem? (i := 6) rfl)) (by decide) (by decide)) q290a q290c (g := (mkF m 225 #[.val (.int p0), .val (.int p1), .val (.int p2), .val (.int p3), .val (.int p4), .val u1, .val u2, .val u3, .val (.ref ta), .val (.ref tb), .val (.ref xx), .val (.ref yy), .val (.int (Int32.ofNat (c1.length))), .val (.int (Int32.ofNat (c2.length))), .val (.int (Int32.ofNat (c3.length)))] [(.int (((47 : Int32) + (Int32.ofNat (c1.length))) + (Int32.ofNat (c2.length)))), (.ref xx)])) rfl (by rw [hml]; rfl) (Steps.refl _) (argsL := [(.int (((47 : Int32) + (Int32.ofNat (c1.length))) + (Int32.ofNat (c2.length))))]) (rest := []) (lenOf own_pd_28 rfl) rfl (by show 2 * 0 + _ ≤ _; exact Nat.le_of_eq rfl) (Jvm.hb hby at_225) (fun _ _ => ⟨rfl, e287, Nat.le_of_ble_eq_true rfl, Nat.le_of_ble_eq_true rfl⟩)
  dsimp only [Pt.U, Pt.locs, Pt.cells, Pt.slots] at X289 l289 y289 z289 st289 hQ289
  subst y289 z289
  obtain ⟨rfl, N289, e289⟩ := hQ289
  have N291 : Fr n0 L289 := by rw [l289]; exact Fr.app N288 N289
  refine own_of (T' := T289) (f' := (mkF m 242 #[.val (.int p0), .val (.int p1), .val (.int p2), .val (.int p3), .val (.int p4), .val u1, .val u2, .val u3, .val (.ref ta), .val (.ref tb), .val (.ref xx), .val (.ref yy), .val (.int (Int32.ofNat (c1.length))), .val (.int (Int32.ofNat (c2.length))), .val (.int (Int32.ofNat (c3.length)))] [(.int (Int32.ofNat (c2.length))), (.int ((48 : Int32) + (Int32.ofNat (c1.length)))), (.ref xx)])) (fun t_ k_ => (st289.trans (XS.bipush X289.here hx rfl (Jvm.hb hby at_228) (XS.icmpNo X289.here hx rfl (Jvm.hb hby at_230) rfl (teq at5).2 (XS.aload X289.here hx rfl (Jvm.hb hby at_233) rfl rfl (XS.bipush X289.here hx rfl (Jvm.hb hby at_235) (XS.iload X289.here hx rfl (Jvm.hb hby at_237) rfl (XS.iadd X289.here hx rfl (Jvm.hb hby at_239) rfl (XS.iload X289.here hx rfl (Jvm.hb hby at_240) rfl k_))))))))) ?_
  refine own_of (T' := T289) (f' := (mkF m 243 #[.val (.int p0), .val (.int p1), .val (.int p2), .val (.int p3), .val (.int p4), .val u1, .val u2, .val u3, .val (.ref ta), .val (.ref tb), .val (.ref xx), .val (.ref yy), .val (.int (Int32.ofNat (c1.length))), .val (.int (Int32.ofNat (c2.length))), .val (.int (Int32.ofNat (c3.length)))] [(.int (((48 : Int32) + (Int32.ofNat (c1.length))) + (Int32.ofNat (c2.length)))), (.ref xx)])) (fun t_ k_ => (XS.iadd X289.here hx rfl (Jvm.hb hby at_242) rfl k_)) ?_
  obtain ⟨cq293, kq293, q293a, q293b, q293c⟩ := isOf hZ e289 Sx.1
  obtain ⟨_, _, ⟨T292, L292, k292, n292⟩, -, X292, ⟨Lc292, hQ292, l292, y292, z292⟩, st292⟩ := X289.virtualBack hx (y := (⟨"java/lang/String", "charAt", "(I)C"⟩ : MethodName)) (z := (⟨"java/lang/String", "charAt", "(I)C"⟩ : MethodName)) hown (mvT hZ (hw _ (List.mem_of_getElem? (i := 204) rfl))) (mvT hZ (hw _ (List.mem_of_getElem? (i := 205) rfl))) (notFace_of_selects (args := #[]) (mvT hZ (hw _ (List.mem_of_getElem? (i := 207) rfl)))) (mvT hZ (hw _ (List.mem_of_getElem? (i := 207) rfl))) (mvT hZ (hw _ (List.mem_of_getElem? (i := 206) rfl))) (by decide) (backOf (W := 0) (own_rm_cha l Z a0 hw [] xx (((48 : Int32) + (Int32.ofNat (c1.length))) + (Int32.ofNat (c2.length))) G1 fm xxt xxk (own_txt c1 c2 c3) (48 + c1.length + c2.length) T242.heap n0 f246 f247 P5 f248 rfm Sx (by omega) (by omega) (by rw [(show (48 : Int32) + Int32.ofNat c1.length = Int32.ofNat (48 + c1.length) from own_add 48 c1.length), own_add]) (by rw [at6]; exact own_C_0 hC3)) hZ (hw _ (List.mem_of_getElem? (i := 208) rfl)) (hw _ (List.mem_of_getElem? (i := 6) rfl)) (by decide) (by decide)) q293a q293c (g := (mkF m 243 #[.val (.int p0), .val (.int p1), .val (.int p2), .val (.int p3), .val (.int p4), .val u1, .val u2, .val u3, .val (.ref ta), .val (.ref tb), .val (.ref xx), .val (.ref yy), .val (.int (Int32.ofNat (c1.length))), .val (.int (Int32.ofNat (c2.length))), .val (.int (Int32.ofNat (c3.length)))] [(.int (((48 : Int32) + (Int32.ofNat (c1.length))) + (Int32.ofNat (c2.length)))), (.ref xx)])) rfl (by rw [hml]; rfl) (Steps.refl _) (argsL := [(.int (((48 : Int32) + (Int32.ofNat (c1.length))) + (Int32.ofNat (c2.length))))]) (rest := []) (lenOf own_pd_28 rfl) rfl (by show 2 * 0 + _ ≤ _; exact Nat.le_of_eq rfl) (Jvm.hb hby at_243) (fun _ _ => ⟨rfl, e289, Nat.le_of_ble_eq_true rfl, Nat.le_of_ble_eq_true rfl⟩)
  dsimp only [Pt.U, Pt.locs, Pt.cells, Pt.slots] at X292 l292 y292 z292 st292 hQ292
  subst y292 z292
  obtain ⟨rfl, N292, e292⟩ := hQ292
  have N294 : Fr n0 L292 := by rw [l292]; exact Fr.app N291 N292
  refine own_of (T' := T292) (f' := (mkF m 248 #[.val (.int p0), .val (.int p1), .val (.int p2), .val (.int p3), .val (.int p4), .val u1, .val u2, .val u3, .val (.ref ta), .val (.ref tb), .val (.ref xx), .val (.ref yy), .val (.int (Int32.ofNat (c1.length))), .val (.int (Int32.ofNat (c2.length))), .val (.int (Int32.ofNat (c3.length)))] [u3, (.int ((own_txt c1 c2 c3).getD (48 + c1.length + c2.length) 0))])) (fun t_ k_ => (st292.trans (XS.aload X292.here hx rfl (Jvm.hb hby at_246) rfl ru3.1 k_))) ?_
  obtain ⟨_, _, ⟨T295, L295, k295, n295⟩, -, X295, ⟨Lc295, hQ295, l295, y295, z295⟩, st295⟩ := Jvm.LawKit.callS X292 hx (y := (⟨"com/example/austere_auth/austereauth/grant/TokenRequestToStringPinLaw", "first", "(Ljava/lang/String;)C"⟩ : MethodName)) hown (mvT hZ (hw _ (List.mem_of_getElem? (i := 225) rfl))) (mvT hZ (hw _ (List.mem_of_getElem? (i := 226) rfl))) (mvT hZ (hw _ (List.mem_of_getElem? (i := 2) rfl))) (mvT hZ (hw _ (List.mem_of_getElem? (i := 227) rfl))) (by decide) (backOf (W := 1) (own_rm_fir l Z a0 hw [] u3 G1 fm c3 T242.heap n0 f246 f247 P5 f248 rfm f251) hZ (hw _ (List.mem_of_getElem? (i := 227) rfl)) (hw _ (List.mem_of_getElem? (i := 2) rfl)) (by decide) (by decide)) (g := (mkF m 248 #[.val (.int p0), .val (.int p1), .val (.int p2), .val (.int p3), .val (.int p4), .val u1, .val u2, .val u3, .val (.ref ta), .val (.ref tb), .val (.ref xx), .val (.ref yy), .val (.int (Int32.ofNat (c1.length))), .val (.int (Int32.ofNat (c2.length))), .val (.int (Int32.ofNat (c3.length)))] [u3, (.int ((own_txt c1 c2 c3).getD (48 + c1.length + c2.length) 0))])) rfl (by rw [hml]; rfl) (argsL := [u3]) (rest := [(.int ((own_txt c1 c2 c3).getD (48 + c1.length + c2.length) 0))]) (lenOf own_pd_33 rfl) rfl (by show 2 * 0 + _ ≤ _; exact Nat.le_of_eq rfl) (Jvm.hb hby at_248) (fun _ _ => ⟨rfl, e292, Nat.le_of_ble_eq_true rfl, Nat.le_of_ble_eq_true rfl⟩)
  dsimp only [Pt.U, Pt.locs, Pt.cells, Pt.slots] at X295 l295 y295 z295 st295 hQ295
  subst y295 z295
  obtain ⟨rfl, N295, e295⟩ := hQ295
  have N296 : Fr n0 L295 := by rw [l295]; exact Fr.app N294 N295
  refine own_of (T' := T295) (f' := (mkF m 258 #[.val (.int p0), .val (.int p1), .val (.int p2), .val (.int p3), .val (.int p4), .val u1, .val u2, .val u3, .val (.ref ta), .val (.ref tb), .val (.ref xx), .val (.ref yy), .val (.int (Int32.ofNat (c1.length))), .val (.int (Int32.ofNat (c2.length))), .val (.int (Int32.ofNat (c3.length)))] [(.ref xx), (.ref xx)])) (fun t_ k_ => (st295 _ (XS.icmpNo X295.here hx rfl (Jvm.hb hby at_251) rfl (teq at6).2 (XS.aload X295.here hx rfl (Jvm.hb hby at_254) rfl rfl (XS.aload X295.here hx rfl (Jvm.hb hby at_256) rfl rfl k_))))) ?_
  obtain ⟨cq298, kq298, q298a, q298b, q298c⟩ := isOf hZ e295 Sx.1
  obtain ⟨_, _, ⟨T297, L297, k297, n297⟩, -, X297, ⟨Lc297, hQ297, l297, y297, z297⟩, st297⟩ := X295.virtualBack hx (y := (⟨"java/lang/String", "length", "()I"⟩ : MethodName)) (z := (⟨"java/lang/String", "length", "()I"⟩ : MethodName)) hown (mvT hZ (hw _ (List.mem_of_getElem? (i := 203) rfl))) (mvT hZ (hw _ (List.mem_of_getElem? (i := 91) rfl))) (notFace_of_selects (args := #[]) (mvT hZ (hw _ (List.mem_of_getElem? (i := 93) rfl)))) (mvT hZ (hw _ (List.mem_of_getElem? (i := 93) rfl))) (mvT hZ (hw _ (List.mem_of_getElem? (i := 92) rfl))) (by decide) (backOf (W := 1) (own_rm_sle l Z a0 hw [] xx G1 xxt xxk (own_txt c1 c2 c3) T242.heap n0 f246 f247 P5 Sx) hZ (hw _ (List.mem_of_getElem? (i := 94) rfl)) (hw _ (List.mem_of_getElem? (i := 6) rfl)) (by decide) (by decide)) q298a q298c (g := (mkF m 258 #[.val (.int p0), .val (.int p1), .val (.int p2), .val (.int p3), .val (.int p4), .val u1, .val u2, .val u3, .val (.ref ta), .val (.ref tb), .val (.ref xx), .val (.ref yy), .val (.int (Int32.ofNat (c1.length))), .val (.int (Int32.ofNat (c2.length))), .val (.int (Int32.ofNat (c3.length)))] [(.ref xx), (.ref xx)])) rfl (by rw [hml]; rfl) (Steps.refl _) (argsL := []) (rest := [(.ref xx)]) (lenOf own_pd_7 rfl) rfl (by show 2 * 0 + _ ≤ _; exact Nat.le_of_eq rfl) (Jvm.hb hby at_258) (fun _ _ => ⟨rfl, e295, Nat.le_of_ble_eq_true rfl, Nat.le_of_ble_eq_true rfl⟩)
  dsimp only [Pt.U, Pt.locs, Pt.cells, Pt.slots] at X297 l297 y297 z297 st297 hQ297
  subst y297 z297
  obtain ⟨rfl, N297, e297⟩ := hQ297
  have N299 : Fr n0 L297 := by rw [l297]; exact Fr.app N296 N297
  refine own_of (T' := T297) (f' := (mkF m 263 #[.val (.int p0), .val (.int p1), .val (.int p2), .val (.int p3), .val (.int p4), .val u1, .val u2, .val u3, .val (.ref ta), .val (.ref tb), .val (.ref xx), .val (.ref yy), .val (.int (Int32.ofNat (c1.length))), .val (.int (Int32.ofNat (c2.length))), .val (.int (Int32.ofNat (c3.length)))] [(.int ((Int32.ofNat ((own_txt c1 c2 c3).length)) - (1 : Int32))), (.ref xx)])) (fun t_ k_ => (st297.trans (XS.iconst X297.here hx rfl (Jvm.hb hby at_261) (XS.isub X297.here hx rfl (Jvm.hb hby at_262) rfl k_)))) ?_
  obtain ⟨cq301, kq301, q301a, q301b, q301c⟩ := isOf hZ e297 Sx.1
  obtain ⟨_, _, ⟨T300, L300, k300, n300⟩, -, X300, ⟨Lc300, hQ300, l300, y300, z300⟩, st300⟩ := X297.virtualBack hx (y := (⟨"java/lang/String", "charAt", "(I)C"⟩ : MethodName)) (z := (⟨"java/lang/String", "charAt", "(I)C"⟩ : MethodName)) hown (mvT hZ (hw _ (List.mem_of_getElem? (i := 204) rfl))) (mvT hZ (hw _ (List.mem_of_getElem? (i := 205) rfl))) (notFace_of_selects (args := #[]) (mvT hZ (hw _ (List.mem_of_getElem? (i := 207) rfl)))) (mvT hZ (hw _ (List.mem_of_getElem? (i := 207) rfl))) (mvT hZ (hw _ (List.mem_of_getElem? (i := 206) rfl))) (by decide) (backOf (W := 0) (own_rm_cha l Z a0 hw [] xx ((Int32.ofNat ((own_txt c1 c2 c3).length)) - (1 : Int32)) G1 fm xxt xxk (own_txt c1 c2 c3) ((own_txt c1 c2 c3).length - 1) T242.heap n0 f246 f247 P5 f248 rfm Sx (by omega) (by omega) (own_sub (own_txt c1 c2 c3).length 1 (by omega)) (by rw [at7]; exact (hR _ (Or.inr rfl)))) hZ (hw _ (List.mem_of_getElem? (i := 208) rfl)) (hw _ (List.mem_of_getElem? (i := 6) rfl)) (by decide) (by decide)) q301a q301c (g := (mkF m 263 #[.val (.int p0), .val (.int p1), .val (.int p2), .val (.int p3), .val (.int p4), .val u1, .val u2, .val u3, .val (.ref ta), .val (.ref tb), .val (.ref xx), .val (.ref yy), .val (.int (Int32.ofNat (c1.length))), .val (.int (Int32.ofNat (c2.length))), .val (.int (Int32.ofNat (c3.length)))] [(.int ((Int32.ofNat ((own_txt c1 c2 c3).length)) - (1 : Int32))), (.ref xx)])) rfl (by rw [hml]; rfl) (Steps.refl _) (argsL := [(.int ((Int32.ofNat ((own_txt c1 c2 c3).length)) - (1 : Int32)))]) (rest := []) (lenOf own_pd_28 rfl) rfl (by show 2 * 0 + _ ≤ _; exact Nat.le_of_eq rfl) (Jvm.hb hby at_263) (fun _ _ => ⟨rfl, e297, Nat.le_of_ble_eq_true rfl, Nat.le_of_ble_eq_true rfl⟩)
  dsimp only [Pt.U, Pt.locs, Pt.cells, Pt.slots] at X300 l300 y300 z300 st300 hQ300
  subst y300 z300
  obtain ⟨rfl, N300, e300⟩ := hQ300
  have N302 : Fr n0 L300 := by rw [l300]; exact Fr.app N299 N300
  refine own_of (T' := T300) (f' := (mkF m 276 #[.val (.int p0), .val (.int p1), .val (.int p2), .val (.int p3), .val (.int p4), .val u1, .val u2, .val u3, .val (.ref ta), .val (.ref tb), .val (.ref xx), .val (.ref yy), .val (.int (Int32.ofNat (c1.length))), .val (.int (Int32.ofNat (c2.length))), .val (.int (Int32.ofNat (c3.length)))] [(.int (1 : Int32))])) (fun t_ k_ => (st300.trans (XS.bipush X300.here hx rfl (Jvm.hb hby at_266) (XS.icmpNo X300.here hx rfl (Jvm.hb hby at_268) rfl (teq at7).2 (XS.iconst X300.here hx rfl (Jvm.hb hby at_271) (XS.goto X300.here hx rfl (pc0 := 272) (pc' := 276) rfl (Jvm.hb hby at_272) (by decide) (by decide) k_)))))) ?_
  obtain ⟨fs, hr, hrun, hended, hEnd⟩ := X300.leaveW hS (by rw [e300]; exact f260) (v := some (.int (1 : Int32))) (fun h => by rw [Bd.returns] at h; cases h)
  exact ⟨_, _, retN X300 hx (t := .boolean) Bd.returns (by simp) (Jvm.hb hby at_276) hr, hrun, hended, _, _, rfl, (by show own_Q_0 Z p0 p1 p2 p3 p4 G1 fm h0 n0 _ T300.heap _; rw [e300]; exact ⟨rfl, N302⟩), hEnd.1, hEnd.2.1, hEnd.2.2.1, hEnd.2.2.2.mono (by decide) (by decide)⟩
set_option maxRecDepth 65536 in
set_option maxHeartbeats 40000000 in
theorem own_comes_1 {Post : Tables → Env → Array Value → State → Outcome → State → Prop} (hpost : ∀ tb e args s v u, (limb_1_1.after args s (.returned v) u = true ∧ limb_1_2.after args s (.returned v) u = true ∧ True) → ReturnedEndW s (.returned v) u (Jvm.fieldLocs frame_1_writes args s ++ Jvm.arrayLocs frame_1_arrays args s ++ Jvm.staticLocs frame_1_statics s) 80 5056 → Post tb e args s (.returned v) u) :
    ArmFor flags0 classFile x code maxLocals ret World_1 tables_1 room_1 Calls_1 rest_1 Pre_1 Post := by
  intro l hfl _ _ p e ha hc hk s m args below hf hA hF happ hP
  obtain ⟨hcalls, hrest, hpre⟩ := hP
  obtain ⟨-, -, -, hnamed, -, -, -, hat⟩ := (Spec.applies_iff hf).mp happ
  obtain ⟨hg, hn⟩ := and_e (Cond.before_iff.mp (show (Jvm.Cond.and given_1 narrow_1).before args s = true from hpre))
  obtain ⟨hg0, hg⟩ := and_e hg
  obtain ⟨ga0, hg⟩ := and_e hg
  obtain ⟨ga1, hg⟩ := and_e hg
  obtain ⟨ga2, hg⟩ := and_e hg
  obtain ⟨ga3, hg⟩ := and_e hg
  have ga4 := hg
  obtain ⟨w0, w1, w2, w3, w4, rfl⟩ : ∃ w0 w1 w2 w3 w4 : Value, args = #[w0, w1, w2, w3, w4] := by
    have hs : args.size = 5 := by simpa [Cond.value, given_1] using hg0
    obtain ⟨L⟩ := args
    match L, hs with
    | [w0, w1, w2, w3, w4], _ => exact ⟨w0, w1, w2, w3, w4, rfl⟩
  have hw := fun d (hd : d ∈ tables_1) => atoms_spec (ws := Jvm.Cond.code x code maxLocals ret :: tables_1) hat d (List.mem_cons_of_mem _ hd)
  have hfit : Fit s := fun {y c} hc i hi => by
    obtain ⟨ha, rfl⟩ := Array.getElem?_eq_some_iff.mp hc
    have q := List.all_eq_true.mp ((Array.all_eq_true_iff_forall_mem.mp hF) _ (Array.getElem_mem ha)) i (List.mem_range.mpr hi)
    simpa [Array.getElem?_eq_getElem hi] using q
  obtain ⟨hsets, hown0⟩ := atoms_of _ (rest_1_c_eq ▸ (show rest_1_c.before _ s = true from hrest))
  have hr0 := Cond.before_iff.mp hown0
  obtain ⟨i0, ei0⟩ := is_v ga0
  obtain rfl : w0 = (.int i0) := Option.some.inj ei0
  obtain ⟨i1, ei1⟩ := is_v ga1
  obtain rfl : w1 = (.int i1) := Option.some.inj ei1
  obtain ⟨i2, ei2⟩ := is_v ga2
  obtain rfl : w2 = (.int i2) := Option.some.inj ei2
  obtain ⟨i3, ei3⟩ := is_v ga3
  obtain rfl : w3 = (.int i3) := Option.some.inj ei3
  obtain ⟨i4, ei4⟩ := is_v ga4
  obtain rfl : w4 = (.int i4) := Option.some.inj ei4
  obtain ⟨G1, e6⟩ := is_v (Cond.before_iff.mp (hsets _ (List.mem_of_getElem? (i := 1) rfl)))
  have O2 : Sta s s.heap "java/lang/String" "COMPACT_STRINGS" "Z" (.int G1) := Sta.start e6 (Or.inl (hsets _ (List.mem_of_getElem? (i := 0) rfl)))
  have P5 : ¬ (G1 = (0 : Int32)) := gotF (Cond.eq_ints e6 (Term.int_eval 0)) (not_v (Cond.before_iff.mp (hsets _ (List.mem_of_getElem? (i := 2) rfl))))
  obtain ⟨fm, e8, rfm⟩ := isR_v (Cond.before_iff.mp (hsets _ (List.mem_of_getElem? (i := 8) rfl)))
  have SF : Sta s s.heap "jdk/internal/util/Preconditions" "SIOOBE_FORMATTER" "Ljava/util/function/BiFunction;" fm := Sta.start e8 (Or.inl (hsets _ (List.mem_of_getElem? (i := 7) rfl)))
  have hCH : CHv s own_EL s.vm s.heap := CHv.start (own_EW hw) (fun p hp => hcalls.1 p hp) (hsets _ (List.mem_of_getElem? (i := 2) rfl)) (hw _ (List.mem_of_getElem? (i := 18) rfl)) (hw _ (List.mem_of_getElem? (i := 14) rfl))
  obtain ⟨n, o, h1, h2, h3, _, L, rfl, ⟨rfl, N⟩, hq⟩ := own_rm_0 l s _ hw tables_1 i0 i1 i2 i3 i4 G1 fm s.heap s.heap.size (Nat.le_refl _) O2 P5 SF rfm p e ha hc hk s m _ below hf ((Spec.applies_iff_loose hf).mp happ).1 ⟨rfl, State.Warmed39.refl s, rfl, hCH⟩ trivial
  refine ⟨n, _, h1, h2, h3, hpost _ _ _ _ _ _ ⟨Cond.after_iff.mpr rfl, Cond.after_iff.mpr (eq_i res_at (Term.int_eval (1)) rfl), trivial⟩ ⟨hq.1, hq.2.1, hq.2.2.1, (hq.2.2.2.sift fun y hy => Or.inr (N y hy)).mono (by decide) (by decide)⟩⟩
theorem main_1_1 : Claimed_1_1 := own_comes_1 fun _ _ _ _ _ _ h hF => ⟨h.1, hF⟩
theorem main_1_2 : Claimed_1_2 := own_comes_1 fun _ _ _ _ _ _ h hF => ⟨h.2.1, hF⟩
end Jvm.Pilot.@@N@@
namespace Jvm.Pilot.@@N@@
open Jvm Jvm.ClassFile Sem Op Lib Jvm.Free Jvm.Stand Jvm.Pilot.@@N@@.Jvm.D
/-! MADE BY PROGRAM (witnessworld.py) out of the Statement's table words and the real class files: 24 classes; the members and pool entries that the words name. The judged class is class 1, her method 4. -/
namespace start1
open Jvm.ClassFile
def u (s : String) : CpInfo := .utf8 (stringToUtf16 s)
/-- a pool by its gaps: so many unusable entries, then the entry; so many at the end -/
def gap : Nat → List CpInfo → List CpInfo
  | 0, r => r
  | n + 1, r => .unusable :: gap n r
def poolList (es : List (Nat × CpInfo)) (last : Nat) : List CpInfo := es.foldr (fun e r => gap e.1 (e.2 :: r)) (gap last [])
def pool (es : List (Nat × CpInfo)) (last : Nat) : Array CpInfo := ⟨poolList es last⟩
def fileOf (pool : Array CpInfo) (this : Nat) (attrs : Array Attribute := #[]) (ms : Array MethodInfo := #[]) (fl : Nat := 33) (sup : Nat := 0) (ifs : Array Nat := #[]) (fds : Array FieldInfo := #[]) : ClassFile where
  minorVersion := 0
  majorVersion := 65
  constantPool := pool
  accessFlags := fl
  thisClass := this
  superClass := sup
  interfaces := ifs
  fields := fds
  methods := ms
  attributes := attrs
def plain (name : String) (sup : Option ClassId) : Class where
  name := name
  kind := .ordinary
  loader := none
  accessFlags := 33
  super := sup
  interfaces := #[]
  cf := none
  fields := #[]
  methods := #[]
  instanceTypes := #[]
  staticTypes := #[]
  resolved := #[]
  callSites := []
  init := .initialized
  statics := none
  mirror := none

def pool0 : Array CpInfo := pool [(5, u "<init>"), (0, u "()V"), (1, .class_ 10), (1, u "java/lang/Object")] 113

def k0c0 : Code := { maxStack := 0, maxLocals := 1, code := object_method_1_code, exceptionTable := #[], attributes := #[] }
def k0m0 : Method := { name := "<init>", desc := "()V", sig := { parameters := [], returnType := none }, accessFlags := 1, code := some k0c0 }
/-- java/lang/Object -/
def k0 : Class := { plain "java/lang/Object" none with
  accessFlags := 33
  interfaces := #[]
  cf := some (fileOf pool0 8 #[] #[{ accessFlags := 1, nameIndex := 5, descriptorIndex := 6, attributes := #[] }] 33 0 #[] #[])
  fields := #[]
  methods := #[k0m0]
  instanceTypes := #[]
  staticTypes := #[]
  resolved := Array.replicate 124 none
  statics := none }

def pool1 : Array CpInfo := pool [(2, .class_ 4), (1, u "java/lang/Object"), (0, u "<init>"), (0, u "()V"), (0, .methodref 8 9), (0, .class_ 10), (0, .nameAndType 11 12), (0, u "java/lang/String"), (0, u "valueOf"), (0, u "(C)Ljava/lang/String;"), (0, .methodref 8 14), (0, .nameAndType 15 16), (0, u "charAt"), (0, u "(I)C"), (0, .methodref 18 19), (0, .class_ 20), (0, .nameAndType 21 22), (0, u "com/example/austere_auth/austereauth/grant/TokenRequestToStringPinLaw"), (0, u "field"), (0, u "(I)Ljava/lang/String;"), (0, .class_ 24), (0, u "com/example/austere_auth/austereauth/grant/TokenRequest"), (0, .methodref 23 26), (0, .nameAndType 5 27), (0, u "(Ljava/lang/String;Ljava/lang/String;Ljava/lang/String;Ljava/lang/String;Ljava/lang/String;Ljava/lang/String;)V"), (0, .methodref 23 29), (0, .nameAndType 30 31), (0, u "toString"), (0, u "()Ljava/lang/String;"), (0, .methodref 8 33), (0, .nameAndType 34 35), (0, u "equals"), (0, u "(Ljava/lang/Object;)Z"), (0, .methodref 18 37), (0, .nameAndType 38 39), (0, u "len"), (0, u "(Ljava/lang/String;)I"), (0, .methodref 8 41), (0, .nameAndType 42 43), (0, u "length"), (0, u "()I"), (0, .methodref 18 45), (0, .nameAndType 46 47), (0, u "first"), (0, u "(Ljava/lang/String;)C"), (3, u "law"), (0, u "(IIIII)Z")] 2

def k1m0 : Method := { name := "<init>", desc := "()V", sig := { parameters := [], returnType := none }, accessFlags := 1, code := none }
def k1c1 : Code := { maxStack := 2, maxLocals := 1, code := method_2_code, exceptionTable := #[], attributes := #[] }
def k1m1 : Method := { name := "field", desc := "(I)Ljava/lang/String;", sig := { parameters := [.int], returnType := some (.object "java/lang/String") }, accessFlags := 10, code := some k1c1 }
def k1c2 : Code := { maxStack := 1, maxLocals := 1, code := method_3_code, exceptionTable := #[], attributes := #[] }
def k1m2 : Method := { name := "len", desc := "(Ljava/lang/String;)I", sig := { parameters := [(.object "java/lang/String")], returnType := some .int }, accessFlags := 10, code := some k1c2 }
def k1c3 : Code := { maxStack := 2, maxLocals := 1, code := method_4_code, exceptionTable := #[], attributes := #[] }
def k1m3 : Method := { name := "first", desc := "(Ljava/lang/String;)C", sig := { parameters := [(.object "java/lang/String")], returnType := some .char }, accessFlags := 10, code := some k1c3 }
def k1c4 : Code := { maxStack := 9, maxLocals := 15, code := code, exceptionTable := #[], attributes := #[] }
def k1m4 : Method := { name := "law", desc := "(IIIII)Z", sig := { parameters := [.int, .int, .int, .int, .int], returnType := some .boolean }, accessFlags := 9, code := some k1c4 }
/-- com/example/austere_auth/austereauth/grant/TokenRequestToStringPinLaw -/
def k1 : Class := { plain "com/example/austere_auth/austereauth/grant/TokenRequestToStringPinLaw" (some 0) with
  accessFlags := 49
  interfaces := #[]
  cf := some (fileOf pool1 18 #[] #[{ accessFlags := 1, nameIndex := 5, descriptorIndex := 6, attributes := #[] }, { accessFlags := 10, nameIndex := 21, descriptorIndex := 22, attributes := #[] }, { accessFlags := 10, nameIndex := 38, descriptorIndex := 39, attributes := #[] }, { accessFlags := 10, nameIndex := 46, descriptorIndex := 47, attributes := #[] }, { accessFlags := 9, nameIndex := 51, descriptorIndex := 52, attributes := #[] }] 49 2 #[] #[])
  fields := #[]
  methods := #[k1m0, k1m1, k1m2, k1m3, k1m4]
  instanceTypes := #[]
  staticTypes := #[]
  resolved := Array.replicate 55 none
  statics := none }

def pool2 : Array CpInfo := pool [(1, .class_ 2), (0, u "java/io/Serializable"), (0, .class_ 4), (0, u "java/lang/Object")] 2

/-- java/io/Serializable -/
def k2 : Class := { plain "java/io/Serializable" (some 0) with
  accessFlags := 1537
  interfaces := #[]
  cf := some (fileOf pool2 1 #[] #[] 1537 3 #[] #[])
  fields := #[]
  methods := #[]
  instanceTypes := #[]
  staticTypes := #[]
  resolved := Array.replicate 7 none
  statics := none }

def pool3 : Array CpInfo := pool [(1, .class_ 2), (0, u "java/lang/Comparable"), (0, .class_ 4), (0, u "java/lang/Object")] 7

/-- java/lang/Comparable -/
def k3 : Class := { plain "java/lang/Comparable" (some 0) with
  accessFlags := 1537
  interfaces := #[]
  cf := some (fileOf pool3 1 #[] #[] 1537 3 #[] #[])
  fields := #[]
  methods := #[]
  instanceTypes := #[]
  staticTypes := #[]
  resolved := Array.replicate 12 none
  statics := none }

def pool4 : Array CpInfo := pool [(2, .class_ 4), (1, u "java/lang/CharSequence"), (42, .class_ 48), (0, u "java/lang/CharSequence$1CodePointIterator"), (10, .class_ 60), (0, u "java/lang/CharSequence$1CharIterator"), (5, .class_ 67), (0, u "java/lang/Object")] 63

/-- java/lang/CharSequence -/
def k4 : Class := { plain "java/lang/CharSequence" (some 0) with
  accessFlags := 1537
  interfaces := #[]
  cf := some (fileOf pool4 2 #[.nestMembers #[47, 59]] #[] 1537 66 #[] #[])
  fields := #[]
  methods := #[]
  instanceTypes := #[]
  staticTypes := #[]
  resolved := Array.replicate 131 none
  statics := none }

def pool5 : Array CpInfo := pool [(1, .class_ 2), (0, u "java/lang/constant/Constable"), (0, .class_ 4), (0, u "java/lang/Object")] 6

/-- java/lang/constant/Constable -/
def k5 : Class := { plain "java/lang/constant/Constable" (some 0) with
  accessFlags := 1537
  interfaces := #[]
  cf := some (fileOf pool5 1 #[] #[] 1537 3 #[] #[])
  fields := #[]
  methods := #[]
  instanceTypes := #[]
  staticTypes := #[]
  resolved := Array.replicate 11 none
  statics := none }

def pool6 : Array CpInfo := pool [(1, .class_ 2), (0, u "java/lang/constant/ConstantDesc"), (0, .class_ 4), (0, u "java/lang/Object")] 32

/-- java/lang/constant/ConstantDesc -/
def k6 : Class := { plain "java/lang/constant/ConstantDesc" (some 0) with
  accessFlags := 1537
  interfaces := #[]
  cf := some (fileOf pool6 1 #[] #[] 1537 3 #[] #[])
  fields := #[]
  methods := #[]
  instanceTypes := #[]
  staticTypes := #[]
  resolved := Array.replicate 37 none
  statics := none }

def pool7 : Array CpInfo := pool [(1, .methodref 2 3), (0, .class_ 4), (0, .nameAndType 5 6), (0, u "java/lang/Object"), (0, u "<init>"), (0, u "()V"), (2, .fieldref 10 11), (0, .class_ 12), (0, .nameAndType 13 14), (0, u "java/lang/String"), (0, u "value"), (0, u "[B"), (0, .fieldref 10 16), (0, .nameAndType 17 18), (0, u "coder"), (0, u "B"), (2, u "hash"), (0, u "I"), (2, u "hashIsZero"), (0, u "Z"), (11, .fieldref 10 39), (0, .nameAndType 40 26), (0, u "COMPACT_STRINGS"), (12, u "toBytes"), (0, .methodref 55 56), (0, .class_ 57), (0, .nameAndType 58 59), (0, u "java/util/Arrays"), (0, u "copyOfRange"), (0, u "([BII)[B"), (47, .class_ 109), (1, u "java/lang/StringLatin1"), (32, u "()Z"), (50, .class_ 195), (1, u "java/lang/System"), (13, .methodref 10 210), (0, .nameAndType 5 211), (0, u "([BB)V"), (0, .methodref 193 213), (0, .nameAndType 214 215), (0, u "arraycopy"), (0, u "(Ljava/lang/Object;ILjava/lang/Object;II)V"), (118, u "()I"), (0, .methodref 10 336), (0, .nameAndType 17 337), (0, u "()B"), (2, u "()[B"), (22, u "([BI)C"), (5, u "(C)Z"), (21, u "(II)V"), (35, u "(I)C"), (61, .methodref 10 490), (0, .nameAndType 5 491), (0, u "(Ljava/lang/AbstractStringBuilder;Ljava/lang/Void;)V"), (0, .methodref 10 493), (0, .nameAndType 494 142), (0, u "isLatin1"), (0, .methodref 107 496), (0, .nameAndType 497 363), (0, u "charAt"), (3, u "checkIndex"), (4, .nameAndType 507 334), (0, u "length"), (24, u "getBytes"), (8, .methodref 107 542), (0, .nameAndType 543 544), (0, u "equals"), (0, u "([B[B)Z"), (4, .methodref 550 506), (0, .class_ 551), (0, u "java/lang/AbstractStringBuilder"), (0, .methodref 550 553), (0, .nameAndType 554 340), (0, u "getValue"), (18, u "(Ljava/lang/Object;)Z"), (1, .class_ 576), (0, u "java/lang/CharSequence"), (22, u "CASE_INSENSITIVE_ORDER"), (0, u "Ljava/util/Comparator;"), (181, u "valueOf"), (0, u "(C)Ljava/lang/String;"), (37, u "([BIB)V"), (193, .methodref 107 1016), (0, .nameAndType 1017 369), (0, u "canEncode"), (0, .methodref 107 1019), (0, .nameAndType 53 1020), (0, u "(C)[B"), (26, .methodref 550 493), (5, .fieldref 1054 1055), (0, .class_ 1056), (0, .nameAndType 1057 1058), (0, u "jdk/internal/util/Preconditions"), (0, u "SIOOBE_FORMATTER"), (0, u "Ljava/util/function/BiFunction;"), (0, .methodref 1054 1060), (0, .nameAndType 501 1061), (0, u "(IILjava/util/function/BiFunction;)I"), (39, u "serialPersistentFields"), (0, u "[Ljava/io/ObjectStreamField;"), (0, .class_ 1104), (0, u "java/lang/String$CaseInsensitiveComparator"), (1, .class_ 1107), (0, u "java/io/Serializable"), (0, .class_ 1109), (0, u "java/lang/Comparable"), (0, .class_ 1111), (0, u "java/lang/constant/Constable"), (0, .class_ 1113), (0, u "java/lang/constant/ConstantDesc"), (2, u "serialVersionUID"), (0, u "J"), (3, u "REPL"), (0, u "C"), (2, u "LATIN1"), (1, u "UTF16"), (105, u "(Ljava/lang/StringBuilder;)V")] 217

def k7m0 : Method := { name := "<init>", desc := "()V", sig := { parameters := [], returnType := none }, accessFlags := 1, code := none }
def k7c1 : Code := { maxStack := 3, maxLocals := 2, code := jdk_42_method_53_code, exceptionTable := #[], attributes := #[] }
def k7m1 : Method := { name := "<init>", desc := "(Ljava/lang/StringBuilder;)V", sig := { parameters := [(.object "java/lang/StringBuilder")], returnType := none }, accessFlags := 1, code := some k7c1 }
def k7c2 : Code := { maxStack := 2, maxLocals := 1, code := jdk_42_method_54_code, exceptionTable := #[], attributes := #[] }
def k7m2 : Method := { name := "length", desc := "()I", sig := { parameters := [], returnType := some .int }, accessFlags := 1, code := some k7c2 }
def k7c3 : Code := { maxStack := 2, maxLocals := 2, code := jdk_42_method_56_code, exceptionTable := #[], attributes := #[] }
def k7m3 : Method := { name := "charAt", desc := "(I)C", sig := { parameters := [.int], returnType := some .char }, accessFlags := 1, code := some k7c3 }
def k7c4 : Code := { maxStack := 2, maxLocals := 3, code := jdk_42_method_66_code, exceptionTable := #[], attributes := #[] }
def k7m4 : Method := { name := "equals", desc := "(Ljava/lang/Object;)Z", sig := { parameters := [(.object "java/lang/Object")], returnType := some .boolean }, accessFlags := 1, code := some k7c4 }
def k7c5 : Code := { maxStack := 4, maxLocals := 1, code := jdk_42_method_139_code, exceptionTable := #[], attributes := #[] }
def k7m5 : Method := { name := "valueOf", desc := "(C)Ljava/lang/String;", sig := { parameters := [.char], returnType := some (.object "java/lang/String") }, accessFlags := 9, code := some k7c5 }
def k7c6 : Code := { maxStack := 5, maxLocals := 4, code := jdk_42_method_147_code, exceptionTable := #[], attributes := #[] }
def k7m6 : Method := { name := "getBytes", desc := "([BIB)V", sig := { parameters := [(.array .byte), .int, .byte], returnType := none }, accessFlags := 0, code := some k7c6 }
def k7c7 : Code := { maxStack := 5, maxLocals := 5, code := jdk_42_method_150_code, exceptionTable := #[], attributes := #[] }
def k7m7 : Method := { name := "<init>", desc := "(Ljava/lang/AbstractStringBuilder;Ljava/lang/Void;)V", sig := { parameters := [(.object "java/lang/AbstractStringBuilder"), (.object "java/lang/Void")], returnType := none }, accessFlags := 0, code := some k7c7 }
def k7c8 : Code := { maxStack := 2, maxLocals := 3, code := jdk_42_method_151_code, exceptionTable := #[], attributes := #[] }
def k7m8 : Method := { name := "<init>", desc := "([BB)V", sig := { parameters := [(.array .byte), .byte], returnType := none }, accessFlags := 0, code := some k7c8 }
def k7c9 : Code := { maxStack := 1, maxLocals := 1, code := jdk_42_method_152_code, exceptionTable := #[], attributes := #[] }
def k7m9 : Method := { name := "coder", desc := "()B", sig := { parameters := [], returnType := some .byte }, accessFlags := 0, code := some k7c9 }
def k7c10 : Code := { maxStack := 1, maxLocals := 1, code := jdk_42_method_154_code, exceptionTable := #[], attributes := #[] }
def k7m10 : Method := { name := "isLatin1", desc := "()Z", sig := { parameters := [], returnType := some .boolean }, accessFlags := 0, code := some k7c10 }
def k7c11 : Code := { maxStack := 3, maxLocals := 2, code := jdk_42_method_155_code, exceptionTable := #[], attributes := #[] }
def k7m11 : Method := { name := "checkIndex", desc := "(II)V", sig := { parameters := [.int, .int], returnType := none }, accessFlags := 8, code := some k7c11 }
/-- java/lang/String -/
def k7 : Class := { plain "java/lang/String" (some 0) with
  accessFlags := 49
  interfaces := #[2, 3, 4, 5, 6]
  cf := some (fileOf pool7 10 #[.nestMembers #[1103]] #[{ accessFlags := 1, nameIndex := 5, descriptorIndex := 6, attributes := #[] }, { accessFlags := 1, nameIndex := 5, descriptorIndex := 1233, attributes := #[] }, { accessFlags := 1, nameIndex := 507, descriptorIndex := 334, attributes := #[] }, { accessFlags := 1, nameIndex := 497, descriptorIndex := 427, attributes := #[] }, { accessFlags := 1, nameIndex := 543, descriptorIndex := 573, attributes := #[] }, { accessFlags := 9, nameIndex := 782, descriptorIndex := 783, attributes := #[] }, { accessFlags := 0, nameIndex := 532, descriptorIndex := 821, attributes := #[] }, { accessFlags := 0, nameIndex := 5, descriptorIndex := 491, attributes := #[] }, { accessFlags := 0, nameIndex := 5, descriptorIndex := 211, attributes := #[] }, { accessFlags := 0, nameIndex := 17, descriptorIndex := 337, attributes := #[] }, { accessFlags := 0, nameIndex := 494, descriptorIndex := 142, attributes := #[] }, { accessFlags := 8, nameIndex := 501, descriptorIndex := 391, attributes := #[] }] 49 2 #[1106, 1108, 575, 1110, 1112] #[{ accessFlags := 18, nameIndex := 13, descriptorIndex := 14, attributes := #[] }, { accessFlags := 18, nameIndex := 17, descriptorIndex := 18, attributes := #[] }, { accessFlags := 2, nameIndex := 21, descriptorIndex := 22, attributes := #[] }, { accessFlags := 2, nameIndex := 25, descriptorIndex := 26, attributes := #[] }, { accessFlags := 26, nameIndex := 1116, descriptorIndex := 1117, attributes := #[] }, { accessFlags := 24, nameIndex := 40, descriptorIndex := 26, attributes := #[] }, { accessFlags := 26, nameIndex := 1101, descriptorIndex := 1102, attributes := #[] }, { accessFlags := 26, nameIndex := 1121, descriptorIndex := 1122, attributes := #[] }, { accessFlags := 25, nameIndex := 599, descriptorIndex := 600, attributes := #[] }, { accessFlags := 24, nameIndex := 1125, descriptorIndex := 18, attributes := #[] }, { accessFlags := 24, nameIndex := 1127, descriptorIndex := 18, attributes := #[] }])
  fields := #[{ name := "value", type := (.array .byte), accessFlags := 18, slot := 0, constantValue := 0 }, { name := "coder", type := .byte, accessFlags := 18, slot := 1, constantValue := 0 }, { name := "hash", type := .int, accessFlags := 2, slot := 2, constantValue := 0 }, { name := "hashIsZero", type := .boolean, accessFlags := 2, slot := 3, constantValue := 0 }, { name := "serialVersionUID", type := .long, accessFlags := 26, slot := 0, constantValue := 0 }, { name := "COMPACT_STRINGS", type := .boolean, accessFlags := 24, slot := 1, constantValue := 0 }, { name := "serialPersistentFields", type := (.array (.object "java/io/ObjectStreamField")), accessFlags := 26, slot := 2, constantValue := 0 }, { name := "REPL", type := .char, accessFlags := 26, slot := 3, constantValue := 0 }, { name := "CASE_INSENSITIVE_ORDER", type := (.object "java/util/Comparator"), accessFlags := 25, slot := 4, constantValue := 0 }, { name := "LATIN1", type := .byte, accessFlags := 24, slot := 5, constantValue := 0 }, { name := "UTF16", type := .byte, accessFlags := 24, slot := 6, constantValue := 0 }]
  methods := #[k7m0, k7m1, k7m2, k7m3, k7m4, k7m5, k7m6, k7m7, k7m8, k7m9, k7m10, k7m11]
  instanceTypes := #[(.array .byte), .byte, .int, .boolean]
  staticTypes := #[.long, .boolean, (.array (.object "java/io/ObjectStreamField")), .char, (.object "java/util/Comparator"), .byte, .byte]
  resolved := Array.replicate 1451 none
  statics := some 0 }

def pool8 : Array CpInfo := pool [(1, .class_ 2), (0, u "java/lang/String"), (1, .class_ 6), (1, u "java/lang/Object"), (0, u "<init>"), (0, u "()V"), (0, .methodref 1 10), (0, .nameAndType 11 12), (0, u "checkIndex"), (0, u "(II)V"), (1, .class_ 16), (1, u "java/lang/StringLatin1"), (36, u "([BI)C"), (36, u "canEncode"), (14, u "(C)Z"), (15, u "$assertionsDisabled"), (0, u "Z"), (98, .class_ 223), (1, u "java/lang/StringLatin1$LinesSpliterator"), (28, u "charAt"), (28, u "equals"), (0, u "([B[B)Z"), (97, u "toBytes"), (1, u "(C)[B"), (7, .class_ 391), (0, u "java/lang/StringLatin1$CharsSpliterator")] 3

def k8m0 : Method := { name := "<init>", desc := "()V", sig := { parameters := [], returnType := none }, accessFlags := 0, code := none }
def k8c1 : Code := { maxStack := 2, maxLocals := 2, code := jdk_43_method_2_code, exceptionTable := #[], attributes := #[] }
def k8m1 : Method := { name := "charAt", desc := "([BI)C", sig := { parameters := [(.array .byte), .int], returnType := some .char }, accessFlags := 9, code := some k8c1 }
def k8c2 : Code := { maxStack := 2, maxLocals := 1, code := jdk_43_method_3_code, exceptionTable := #[], attributes := #[] }
def k8m2 : Method := { name := "canEncode", desc := "(C)Z", sig := { parameters := [.char], returnType := some .boolean }, accessFlags := 9, code := some k8c2 }
def k8c3 : Code := { maxStack := 3, maxLocals := 3, code := jdk_43_method_13_code, exceptionTable := #[], attributes := #[] }
def k8m3 : Method := { name := "equals", desc := "([B[B)Z", sig := { parameters := [(.array .byte), (.array .byte)], returnType := some .boolean }, accessFlags := 9, code := some k8c3 }
def k8c4 : Code := { maxStack := 4, maxLocals := 1, code := jdk_43_method_46_code, exceptionTable := #[], attributes := #[] }
def k8m4 : Method := { name := "toBytes", desc := "(C)[B", sig := { parameters := [.char], returnType := some (.array .byte) }, accessFlags := 9, code := some k8c4 }
/-- java/lang/StringLatin1 -/
def k8 : Class := { plain "java/lang/StringLatin1" (some 0) with
  accessFlags := 48
  interfaces := #[]
  cf := some (fileOf pool8 14 #[.nestMembers #[390, 221]] #[{ accessFlags := 0, nameIndex := 7, descriptorIndex := 8, attributes := #[] }, { accessFlags := 9, nameIndex := 252, descriptorIndex := 53, attributes := #[] }, { accessFlags := 9, nameIndex := 90, descriptorIndex := 105, attributes := #[] }, { accessFlags := 9, nameIndex := 281, descriptorIndex := 282, attributes := #[] }, { accessFlags := 9, nameIndex := 380, descriptorIndex := 382, attributes := #[] }] 48 4 #[] #[{ accessFlags := 4120, nameIndex := 121, descriptorIndex := 122, attributes := #[] }])
  fields := #[{ name := "$assertionsDisabled", type := .boolean, accessFlags := 4120, slot := 0, constantValue := 0 }]
  methods := #[k8m0, k8m1, k8m2, k8m3, k8m4]
  instanceTypes := #[]
  staticTypes := #[.boolean]
  resolved := Array.replicate 395 none
  statics := none }

def pool9 : Array CpInfo := pool [(1, .methodref 2 3), (0, .class_ 4), (0, .nameAndType 5 6), (0, u "java/lang/Object"), (0, u "<init>"), (0, u "()V"), (0, .class_ 8), (0, u "java/lang/Record")] 13

def k9c0 : Code := { maxStack := 1, maxLocals := 1, code := jdk_30_method_1_code, exceptionTable := #[], attributes := #[] }
def k9m0 : Method := { name := "<init>", desc := "()V", sig := { parameters := [], returnType := none }, accessFlags := 4, code := some k9c0 }
/-- java/lang/Record -/
def k9 : Class := { plain "java/lang/Record" (some 0) with
  accessFlags := 1057
  interfaces := #[]
  cf := some (fileOf pool9 7 #[] #[{ accessFlags := 4, nameIndex := 5, descriptorIndex := 6, attributes := #[] }] 1057 2 #[] #[])
  fields := #[]
  methods := #[k9m0]
  instanceTypes := #[]
  staticTypes := #[]
  resolved := Array.replicate 22 none
  statics := none }

def pool10 : Array CpInfo := pool [(1, .methodref 2 3), (0, .class_ 4), (0, .nameAndType 5 6), (0, u "java/lang/Record"), (0, u "<init>"), (0, u "()V"), (0, .fieldref 8 9), (0, .class_ 10), (0, .nameAndType 11 12), (0, u "com/example/austere_auth/austereauth/grant/TokenRequest"), (0, u "grantType"), (0, u "Ljava/lang/String;"), (0, .fieldref 8 14), (0, .nameAndType 15 12), (0, u "clientId"), (0, .fieldref 8 17), (0, .nameAndType 18 12), (0, u "clientSecret"), (0, .fieldref 8 20), (0, .nameAndType 21 12), (0, u "code"), (0, .fieldref 8 23), (0, .nameAndType 24 12), (0, u "redirectUri"), (0, .fieldref 8 26), (0, .nameAndType 27 12), (0, u "refreshToken"), (0, .class_ 29), (0, u "java/lang/StringBuilder"), (0, .methodref 28 3), (0, .string 32), (0, u "TokenRequest[grantType="), (0, .methodref 28 34), (0, .nameAndType 35 36), (0, u "append"), (0, u "(Ljava/lang/String;)Ljava/lang/StringBuilder;"), (0, .string 38), (0, u ", clientId="), (0, .string 40), (0, u ", redirectUri="), (0, .string 42), (0, u "]"), (0, .methodref 28 44), (0, .nameAndType 45 46), (0, u "toString"), (0, u "()Ljava/lang/String;"), (8, u "GRANT_TYPE"), (3, u "CLIENT_ID"), (2, u "CLIENT_SECRET"), (2, u "CODE"), (1, u "REDIRECT_URI"), (2, u "REFRESH_TOKEN"), (2, u "(Ljava/lang/String;Ljava/lang/String;Ljava/lang/String;Ljava/lang/String;Ljava/lang/String;Ljava/lang/String;)V")] 30

def k10c0 : Code := { maxStack := 2, maxLocals := 7, code := prog_13_method_1_code, exceptionTable := #[], attributes := #[] }
def k10m0 : Method := { name := "<init>", desc := "(Ljava/lang/String;Ljava/lang/String;Ljava/lang/String;Ljava/lang/String;Ljava/lang/String;Ljava/lang/String;)V", sig := { parameters := [(.object "java/lang/String"), (.object "java/lang/String"), (.object "java/lang/String"), (.object "java/lang/String"), (.object "java/lang/String"), (.object "java/lang/String")], returnType := none }, accessFlags := 1, code := some k10c0 }
def k10c1 : Code := { maxStack := 2, maxLocals := 1, code := prog_13_method_2_code, exceptionTable := #[], attributes := #[] }
def k10m1 : Method := { name := "toString", desc := "()Ljava/lang/String;", sig := { parameters := [], returnType := some (.object "java/lang/String") }, accessFlags := 1, code := some k10c1 }
/-- com/example/austere_auth/austereauth/grant/TokenRequest -/
def k10 : Class := { plain "com/example/austere_auth/austereauth/grant/TokenRequest" (some 9) with
  accessFlags := 49
  interfaces := #[]
  cf := some (fileOf pool10 8 #[] #[{ accessFlags := 1, nameIndex := 5, descriptorIndex := 73, attributes := #[] }, { accessFlags := 1, nameIndex := 45, descriptorIndex := 46, attributes := #[] }] 49 2 #[] #[{ accessFlags := 18, nameIndex := 11, descriptorIndex := 12, attributes := #[] }, { accessFlags := 18, nameIndex := 15, descriptorIndex := 12, attributes := #[] }, { accessFlags := 18, nameIndex := 18, descriptorIndex := 12, attributes := #[] }, { accessFlags := 18, nameIndex := 21, descriptorIndex := 12, attributes := #[] }, { accessFlags := 18, nameIndex := 24, descriptorIndex := 12, attributes := #[] }, { accessFlags := 18, nameIndex := 27, descriptorIndex := 12, attributes := #[] }, { accessFlags := 25, nameIndex := 55, descriptorIndex := 12, attributes := #[] }, { accessFlags := 25, nameIndex := 59, descriptorIndex := 12, attributes := #[] }, { accessFlags := 25, nameIndex := 62, descriptorIndex := 12, attributes := #[] }, { accessFlags := 25, nameIndex := 65, descriptorIndex := 12, attributes := #[] }, { accessFlags := 25, nameIndex := 67, descriptorIndex := 12, attributes := #[] }, { accessFlags := 25, nameIndex := 70, descriptorIndex := 12, attributes := #[] }])
  fields := #[{ name := "grantType", type := (.object "java/lang/String"), accessFlags := 18, slot := 0, constantValue := 0 }, { name := "clientId", type := (.object "java/lang/String"), accessFlags := 18, slot := 1, constantValue := 0 }, { name := "clientSecret", type := (.object "java/lang/String"), accessFlags := 18, slot := 2, constantValue := 0 }, { name := "code", type := (.object "java/lang/String"), accessFlags := 18, slot := 3, constantValue := 0 }, { name := "redirectUri", type := (.object "java/lang/String"), accessFlags := 18, slot := 4, constantValue := 0 }, { name := "refreshToken", type := (.object "java/lang/String"), accessFlags := 18, slot := 5, constantValue := 0 }, { name := "GRANT_TYPE", type := (.object "java/lang/String"), accessFlags := 25, slot := 0, constantValue := 0 }, { name := "CLIENT_ID", type := (.object "java/lang/String"), accessFlags := 25, slot := 1, constantValue := 0 }, { name := "CLIENT_SECRET", type := (.object "java/lang/String"), accessFlags := 25, slot := 2, constantValue := 0 }, { name := "CODE", type := (.object "java/lang/String"), accessFlags := 25, slot := 3, constantValue := 0 }, { name := "REDIRECT_URI", type := (.object "java/lang/String"), accessFlags := 25, slot := 4, constantValue := 0 }, { name := "REFRESH_TOKEN", type := (.object "java/lang/String"), accessFlags := 25, slot := 5, constantValue := 0 }]
  methods := #[k10m0, k10m1]
  instanceTypes := #[(.object "java/lang/String"), (.object "java/lang/String"), (.object "java/lang/String"), (.object "java/lang/String"), (.object "java/lang/String"), (.object "java/lang/String")]
  staticTypes := #[(.object "java/lang/String"), (.object "java/lang/String"), (.object "java/lang/String"), (.object "java/lang/String"), (.object "java/lang/String"), (.object "java/lang/String")]
  resolved := Array.replicate 104 none
  statics := none }

def pool11 : Array CpInfo := pool [(1, .class_ 2), (0, u "java/lang/Appendable"), (0, .class_ 4), (0, u "java/lang/Object")] 9

/-- java/lang/Appendable -/
def k11 : Class := { plain "java/lang/Appendable" (some 0) with
  accessFlags := 1537
  interfaces := #[]
  cf := some (fileOf pool11 1 #[] #[] 1537 3 #[] #[])
  fields := #[]
  methods := #[]
  instanceTypes := #[]
  staticTypes := #[]
  resolved := Array.replicate 14 none
  statics := none }

def pool12 : Array CpInfo := pool [(1, .class_ 2), (0, u "java/lang/String"), (0, .methodref 4 5), (0, .class_ 6), (0, .nameAndType 7 8), (0, u "java/lang/Object"), (0, u "<init>"), (0, u "()V"), (1, .class_ 12), (1, u "java/lang/AbstractStringBuilder"), (0, u "EMPTYVALUE"), (0, u "[B"), (0, .fieldref 10 16), (0, .nameAndType 17 14), (0, u "value"), (0, .fieldref 1 19), (0, .nameAndType 20 21), (0, u "COMPACT_STRINGS"), (0, u "Z"), (0, .fieldref 10 23), (0, .nameAndType 24 25), (0, u "coder"), (0, u "B"), (6, .methodref 1 33), (0, .nameAndType 34 35), (0, u "length"), (0, u "()I"), (3, .integer 2147483647), (0, .methodref 1 41), (0, .nameAndType 24 42), (0, u "()B"), (2, u "append"), (0, u "(Ljava/lang/String;)Ljava/lang/AbstractStringBuilder;"), (1, .class_ 49), (0, u "java/lang/CharSequence"), (19, u "(Ljava/lang/String;)V"), (5, u "maybeLatin1"), (3, .fieldref 10 80), (0, .nameAndType 81 82), (0, u "count"), (0, u "I"), (0, .methodref 10 84), (0, .nameAndType 85 86), (0, u "isLatin1"), (0, u "()Z"), (13, .methodref 10 101), (0, .nameAndType 102 103), (0, u "ensureCapacityInternal"), (0, u "(I)V"), (0, .methodref 10 105), (0, .nameAndType 106 107), (0, u "newCapacity"), (0, u "(I)I"), (0, .methodref 109 110), (0, .class_ 111), (0, .nameAndType 112 113), (0, u "java/util/Arrays"), (0, u "copyOf"), (0, u "([BI)[B"), (0, .methodref 115 116), (0, .class_ 117), (0, .nameAndType 118 119), (0, u "jdk/internal/util/ArraysSupport"), (0, u "newLength"), (0, u "(III)I"), (84, .methodref 10 205), (0, .nameAndType 206 207), (0, u "appendNull"), (0, u "()Ljava/lang/AbstractStringBuilder;"), (0, .methodref 10 209), (0, .nameAndType 210 211), (0, u "putStringAt"), (0, u "(ILjava/lang/String;)V"), (5, u "inflateIfNeededFor"), (2, .nameAndType 221 222), (0, u "getBytes"), (0, u "([BIB)V"), (174, .methodref 10 398), (0, .nameAndType 217 69), (0, .methodref 1 220), (3, u "()[B"), (40, .class_ 445), (0, u "java/lang/Appendable"), (106, u "getValue")] 56

def k12m0 : Method := { name := "<init>", desc := "()V", sig := { parameters := [], returnType := none }, accessFlags := 0, code := none }
def k12c1 : Code := { maxStack := 2, maxLocals := 2, code := jdk_68_method_2_code, exceptionTable := #[], attributes := #[] }
def k12m1 : Method := { name := "<init>", desc := "(I)V", sig := { parameters := [.int], returnType := none }, accessFlags := 0, code := some k12c1 }
def k12c2 : Code := { maxStack := 1, maxLocals := 1, code := jdk_68_method_6_code, exceptionTable := #[], attributes := #[] }
def k12m2 : Method := { name := "length", desc := "()I", sig := { parameters := [], returnType := some .int }, accessFlags := 1, code := some k12c2 }
def k12c3 : Code := { maxStack := 4, maxLocals := 3, code := jdk_68_method_9_code, exceptionTable := #[], attributes := #[] }
def k12m3 : Method := { name := "ensureCapacityInternal", desc := "(I)V", sig := { parameters := [.int], returnType := none }, accessFlags := 2, code := some k12c3 }
def k12c4 : Code := { maxStack := 5, maxLocals := 6, code := jdk_68_method_10_code, exceptionTable := #[], attributes := #[] }
def k12m4 : Method := { name := "newCapacity", desc := "(I)I", sig := { parameters := [.int], returnType := some .int }, accessFlags := 2, code := some k12c4 }
def k12c5 : Code := { maxStack := 3, maxLocals := 3, code := jdk_68_method_22_code, exceptionTable := #[], attributes := #[] }
def k12m5 : Method := { name := "append", desc := "(Ljava/lang/String;)Ljava/lang/AbstractStringBuilder;", sig := { parameters := [(.object "java/lang/String")], returnType := some (.object "java/lang/AbstractStringBuilder") }, accessFlags := 1, code := some k12c5 }
def k12c6 : Code := { maxStack := 6, maxLocals := 3, code := jdk_68_method_26_code, exceptionTable := #[], attributes := #[] }
def k12m6 : Method := { name := "appendNull", desc := "()Ljava/lang/AbstractStringBuilder;", sig := { parameters := [], returnType := some (.object "java/lang/AbstractStringBuilder") }, accessFlags := 2, code := some k12c6 }
def k12c7 : Code := { maxStack := 1, maxLocals := 1, code := jdk_68_method_64_code, exceptionTable := #[], attributes := #[] }
def k12m7 : Method := { name := "getValue", desc := "()[B", sig := { parameters := [], returnType := some (.array .byte) }, accessFlags := 16, code := some k12c7 }
def k12c8 : Code := { maxStack := 1, maxLocals := 1, code := jdk_68_method_68_code, exceptionTable := #[], attributes := #[] }
def k12m8 : Method := { name := "isLatin1", desc := "()Z", sig := { parameters := [], returnType := some .boolean }, accessFlags := 16, code := some k12c8 }
def k12c9 : Code := { maxStack := 2, maxLocals := 2, code := jdk_68_method_71_code, exceptionTable := #[], attributes := #[] }
def k12m9 : Method := { name := "inflateIfNeededFor", desc := "(Ljava/lang/String;)V", sig := { parameters := [(.object "java/lang/String")], returnType := none }, accessFlags := 2, code := some k12c9 }
def k12c10 : Code := { maxStack := 4, maxLocals := 3, code := jdk_68_method_73_code, exceptionTable := #[], attributes := #[] }
def k12m10 : Method := { name := "putStringAt", desc := "(ILjava/lang/String;)V", sig := { parameters := [.int, (.object "java/lang/String")], returnType := none }, accessFlags := 2, code := some k12c10 }
/-- java/lang/AbstractStringBuilder -/
def k12 : Class := { plain "java/lang/AbstractStringBuilder" (some 0) with
  accessFlags := 1056
  interfaces := #[11, 4]
  cf := some (fileOf pool12 10 #[] #[{ accessFlags := 0, nameIndex := 7, descriptorIndex := 8, attributes := #[] }, { accessFlags := 0, nameIndex := 7, descriptorIndex := 103, attributes := #[] }, { accessFlags := 1, nameIndex := 34, descriptorIndex := 35, attributes := #[] }, { accessFlags := 2, nameIndex := 102, descriptorIndex := 103, attributes := #[] }, { accessFlags := 2, nameIndex := 106, descriptorIndex := 107, attributes := #[] }, { accessFlags := 1, nameIndex := 45, descriptorIndex := 46, attributes := #[] }, { accessFlags := 2, nameIndex := 206, descriptorIndex := 207, attributes := #[] }, { accessFlags := 16, nameIndex := 552, descriptorIndex := 403, attributes := #[] }, { accessFlags := 16, nameIndex := 85, descriptorIndex := 86, attributes := #[] }, { accessFlags := 2, nameIndex := 217, descriptorIndex := 69, attributes := #[] }, { accessFlags := 2, nameIndex := 210, descriptorIndex := 211, attributes := #[] }] 1056 4 #[444, 48] #[{ accessFlags := 0, nameIndex := 17, descriptorIndex := 14, attributes := #[] }, { accessFlags := 0, nameIndex := 24, descriptorIndex := 25, attributes := #[] }, { accessFlags := 0, nameIndex := 75, descriptorIndex := 21, attributes := #[] }, { accessFlags := 0, nameIndex := 81, descriptorIndex := 82, attributes := #[] }, { accessFlags := 26, nameIndex := 13, descriptorIndex := 14, attributes := #[] }])
  fields := #[{ name := "value", type := (.array .byte), accessFlags := 0, slot := 0, constantValue := 0 }, { name := "coder", type := .byte, accessFlags := 0, slot := 1, constantValue := 0 }, { name := "maybeLatin1", type := .boolean, accessFlags := 0, slot := 2, constantValue := 0 }, { name := "count", type := .int, accessFlags := 0, slot := 3, constantValue := 0 }, { name := "EMPTYVALUE", type := (.array .byte), accessFlags := 26, slot := 0, constantValue := 0 }]
  methods := #[k12m0, k12m1, k12m2, k12m3, k12m4, k12m5, k12m6, k12m7, k12m8, k12m9, k12m10]
  instanceTypes := #[(.array .byte), .byte, .boolean, .int]
  staticTypes := #[(.array .byte)]
  resolved := Array.replicate 609 none
  statics := none }

def pool13 : Array CpInfo := pool [(1, .methodref 2 3), (0, .class_ 4), (0, .nameAndType 5 6), (0, u "java/lang/AbstractStringBuilder"), (0, u "<init>"), (0, u "(I)V"), (11, .class_ 20), (1, u "java/lang/String"), (3, .class_ 26), (1, u "java/lang/StringBuilder"), (0, u "append"), (0, u "(Ljava/lang/String;)Ljava/lang/StringBuilder;"), (0, .methodref 2 30), (0, .nameAndType 27 31), (0, u "(Ljava/lang/String;)Ljava/lang/AbstractStringBuilder;"), (105, .methodref 18 138), (0, .nameAndType 5 139), (0, u "(Ljava/lang/StringBuilder;)V"), (5, u "()V"), (10, u "()I"), (186, .methodref 2 344), (0, .nameAndType 345 156), (0, u "length"), (3, .class_ 350), (0, u "java/lang/Appendable"), (0, .class_ 352), (0, u "java/io/Serializable"), (0, .class_ 354), (0, u "java/lang/Comparable"), (0, .class_ 356), (0, u "java/lang/CharSequence"), (0, u "serialVersionUID"), (0, u "J"), (40, u "toString"), (0, u "()Ljava/lang/String;")] 21

def k13c0 : Code := { maxStack := 2, maxLocals := 1, code := jdk_67_method_1_code, exceptionTable := #[], attributes := #[] }
def k13m0 : Method := { name := "<init>", desc := "()V", sig := { parameters := [], returnType := none }, accessFlags := 1, code := some k13c0 }
def k13c1 : Code := { maxStack := 2, maxLocals := 2, code := jdk_67_method_7_code, exceptionTable := #[], attributes := #[] }
def k13m1 : Method := { name := "append", desc := "(Ljava/lang/String;)Ljava/lang/StringBuilder;", sig := { parameters := [(.object "java/lang/String")], returnType := some (.object "java/lang/StringBuilder") }, accessFlags := 1, code := some k13c1 }
def k13c2 : Code := { maxStack := 3, maxLocals := 1, code := jdk_67_method_42_code, exceptionTable := #[], attributes := #[] }
def k13m2 : Method := { name := "toString", desc := "()Ljava/lang/String;", sig := { parameters := [], returnType := some (.object "java/lang/String") }, accessFlags := 1, code := some k13c2 }
def k13c3 : Code := { maxStack := 1, maxLocals := 1, code := jdk_67_method_93_code, exceptionTable := #[], attributes := #[] }
def k13m3 : Method := { name := "length", desc := "()I", sig := { parameters := [], returnType := some .int }, accessFlags := 4161, code := some k13c3 }
/-- java/lang/StringBuilder -/
def k13 : Class := { plain "java/lang/StringBuilder" (some 12) with
  accessFlags := 49
  interfaces := #[11, 2, 3, 4]
  cf := some (fileOf pool13 24 #[] #[{ accessFlags := 1, nameIndex := 5, descriptorIndex := 145, attributes := #[] }, { accessFlags := 1, nameIndex := 27, descriptorIndex := 28, attributes := #[] }, { accessFlags := 1, nameIndex := 399, descriptorIndex := 400, attributes := #[] }, { accessFlags := 4161, nameIndex := 345, descriptorIndex := 156, attributes := #[] }] 49 2 #[349, 351, 353, 355] #[{ accessFlags := 24, nameIndex := 357, descriptorIndex := 358, attributes := #[] }])
  fields := #[{ name := "serialVersionUID", type := .long, accessFlags := 24, slot := 0, constantValue := 0 }]
  methods := #[k13m0, k13m1, k13m2, k13m3]
  instanceTypes := #[(.array .byte), .byte, .boolean, .int]
  staticTypes := #[.long]
  resolved := Array.replicate 422 none
  statics := none }

def pool14 : Array CpInfo := pool [(9, u "<init>"), (6, .class_ 18), (1, u "java/lang/Object"), (0, u "()V"), (1, .class_ 23), (1, u "jdk/internal/util/ArraysSupport"), (0, u "LOG2_ARRAY_LONG_INDEX_SCALE"), (0, u "I"), (2, u "U"), (0, u "Ljdk/internal/misc/Unsafe;"), (8, u "BIG_ENDIAN"), (0, u "Z"), (8, u "LOG2_BYTE_BIT_SIZE"), (4, u "LOG2_ARRAY_INT_INDEX_SCALE"), (54, u "JLA"), (0, u "Ljdk/internal/access/JavaLangAccess;"), (11, u "LOG2_ARRAY_BOOLEAN_INDEX_SCALE"), (9, u "LOG2_ARRAY_BYTE_INDEX_SCALE"), (5, u "LOG2_ARRAY_CHAR_INDEX_SCALE"), (5, u "LOG2_ARRAY_SHORT_INDEX_SCALE"), (18, u "LOG2_ARRAY_FLOAT_INDEX_SCALE"), (24, u "LOG2_ARRAY_DOUBLE_INDEX_SCALE"), (6, .methodref 195 196), (0, .class_ 197), (0, .nameAndType 198 199), (0, u "java/lang/Math"), (0, u "max"), (0, u "(II)I"), (0, .integer 2147483639), (76, u "T_BOOLEAN"), (2, u "T_CHAR"), (1, u "T_FLOAT"), (1, u "T_DOUBLE"), (1, u "T_BYTE"), (1, u "T_SHORT"), (1, u "T_INT"), (1, u "T_LONG"), (1, u "SOFT_MAX_ARRAY_LENGTH"), (56, u "newLength"), (0, u "(III)I")] 25

def k14m0 : Method := { name := "<init>", desc := "()V", sig := { parameters := [], returnType := none }, accessFlags := 2, code := none }
def k14c1 : Code := { maxStack := 3, maxLocals := 4, code := jdk_48_method_27_code, exceptionTable := #[], attributes := #[] }
def k14m1 : Method := { name := "newLength", desc := "(III)I", sig := { parameters := [.int, .int, .int], returnType := some .int }, accessFlags := 9, code := some k14c1 }
/-- jdk/internal/util/ArraysSupport -/
def k14 : Class := { plain "jdk/internal/util/ArraysSupport" (some 0) with
  accessFlags := 33
  interfaces := #[]
  cf := some (fileOf pool14 21 #[] #[{ accessFlags := 2, nameIndex := 9, descriptorIndex := 19, attributes := #[] }, { accessFlags := 9, nameIndex := 351, descriptorIndex := 352, attributes := #[] }] 33 16 #[] #[{ accessFlags := 24, nameIndex := 28, descriptorIndex := 29, attributes := #[] }, { accessFlags := 26, nameIndex := 38, descriptorIndex := 39, attributes := #[] }, { accessFlags := 25, nameIndex := 121, descriptorIndex := 25, attributes := #[] }, { accessFlags := 25, nameIndex := 131, descriptorIndex := 25, attributes := #[] }, { accessFlags := 25, nameIndex := 137, descriptorIndex := 25, attributes := #[] }, { accessFlags := 25, nameIndex := 143, descriptorIndex := 25, attributes := #[] }, { accessFlags := 25, nameIndex := 53, descriptorIndex := 25, attributes := #[] }, { accessFlags := 25, nameIndex := 24, descriptorIndex := 25, attributes := #[] }, { accessFlags := 25, nameIndex := 162, descriptorIndex := 25, attributes := #[] }, { accessFlags := 25, nameIndex := 187, descriptorIndex := 25, attributes := #[] }, { accessFlags := 26, nameIndex := 48, descriptorIndex := 25, attributes := #[] }, { accessFlags := 25, nameIndex := 277, descriptorIndex := 25, attributes := #[] }, { accessFlags := 25, nameIndex := 280, descriptorIndex := 25, attributes := #[] }, { accessFlags := 25, nameIndex := 282, descriptorIndex := 25, attributes := #[] }, { accessFlags := 25, nameIndex := 284, descriptorIndex := 25, attributes := #[] }, { accessFlags := 25, nameIndex := 286, descriptorIndex := 25, attributes := #[] }, { accessFlags := 25, nameIndex := 288, descriptorIndex := 25, attributes := #[] }, { accessFlags := 25, nameIndex := 290, descriptorIndex := 25, attributes := #[] }, { accessFlags := 25, nameIndex := 292, descriptorIndex := 25, attributes := #[] }, { accessFlags := 26, nameIndex := 108, descriptorIndex := 109, attributes := #[] }, { accessFlags := 25, nameIndex := 294, descriptorIndex := 25, attributes := #[] }])
  fields := #[{ name := "U", type := (.object "jdk/internal/misc/Unsafe"), accessFlags := 24, slot := 0, constantValue := 0 }, { name := "BIG_ENDIAN", type := .boolean, accessFlags := 26, slot := 1, constantValue := 0 }, { name := "LOG2_ARRAY_BOOLEAN_INDEX_SCALE", type := .int, accessFlags := 25, slot := 2, constantValue := 0 }, { name := "LOG2_ARRAY_BYTE_INDEX_SCALE", type := .int, accessFlags := 25, slot := 3, constantValue := 0 }, { name := "LOG2_ARRAY_CHAR_INDEX_SCALE", type := .int, accessFlags := 25, slot := 4, constantValue := 0 }, { name := "LOG2_ARRAY_SHORT_INDEX_SCALE", type := .int, accessFlags := 25, slot := 5, constantValue := 0 }, { name := "LOG2_ARRAY_INT_INDEX_SCALE", type := .int, accessFlags := 25, slot := 6, constantValue := 0 }, { name := "LOG2_ARRAY_LONG_INDEX_SCALE", type := .int, accessFlags := 25, slot := 7, constantValue := 0 }, { name := "LOG2_ARRAY_FLOAT_INDEX_SCALE", type := .int, accessFlags := 25, slot := 8, constantValue := 0 }, { name := "LOG2_ARRAY_DOUBLE_INDEX_SCALE", type := .int, accessFlags := 25, slot := 9, constantValue := 0 }, { name := "LOG2_BYTE_BIT_SIZE", type := .int, accessFlags := 26, slot := 10, constantValue := 0 }, { name := "T_BOOLEAN", type := .int, accessFlags := 25, slot := 11, constantValue := 0 }, { name := "T_CHAR", type := .int, accessFlags := 25, slot := 12, constantValue := 0 }, { name := "T_FLOAT", type := .int, accessFlags := 25, slot := 13, constantValue := 0 }, { name := "T_DOUBLE", type := .int, accessFlags := 25, slot := 14, constantValue := 0 }, { name := "T_BYTE", type := .int, accessFlags := 25, slot := 15, constantValue := 0 }, { name := "T_SHORT", type := .int, accessFlags := 25, slot := 16, constantValue := 0 }, { name := "T_INT", type := .int, accessFlags := 25, slot := 17, constantValue := 0 }, { name := "T_LONG", type := .int, accessFlags := 25, slot := 18, constantValue := 0 }, { name := "JLA", type := (.object "jdk/internal/access/JavaLangAccess"), accessFlags := 26, slot := 19, constantValue := 0 }, { name := "SOFT_MAX_ARRAY_LENGTH", type := .int, accessFlags := 25, slot := 20, constantValue := 0 }]
  methods := #[k14m0, k14m1]
  instanceTypes := #[]
  staticTypes := #[(.object "jdk/internal/misc/Unsafe"), .boolean, .int, .int, .int, .int, .int, .int, .int, .int, .int, .int, .int, .int, .int, .int, .int, .int, .int, (.object "jdk/internal/access/JavaLangAccess"), .int]
  resolved := Array.replicate 378 none
  statics := none }

def pool15 : Array CpInfo := pool [(1, .class_ 2), (0, u "java/lang/Math"), (1, .class_ 6), (1, u "java/lang/Object"), (0, u "<init>"), (0, u "()V"), (89, .class_ 100), (1, u "java/lang/Math$RandomNumberGeneratorHolder"), (71, u "negativeZeroFloatBits"), (0, u "J"), (2, u "negativeZeroDoubleBits"), (21, u "max"), (2, u "min"), (43, u "$assertionsDisabled"), (0, u "Z"), (88, u "(II)I"), (2, u "twoToTheDoubleScaleDown"), (0, u "D"), (4, u "twoToTheDoubleScaleUp"), (9, u "E"), (3, u "PI"), (2, u "TAU"), (2, u "DEGREES_TO_RADIANS"), (0, u "RADIANS_TO_DEGREES")] 94

def k15m0 : Method := { name := "<init>", desc := "()V", sig := { parameters := [], returnType := none }, accessFlags := 2, code := none }
def k15c1 : Code := { maxStack := 2, maxLocals := 2, code := jdk_29_method_65_code, exceptionTable := #[], attributes := #[] }
def k15m1 : Method := { name := "max", desc := "(II)I", sig := { parameters := [.int, .int], returnType := some .int }, accessFlags := 9, code := some k15c1 }
def k15c2 : Code := { maxStack := 2, maxLocals := 2, code := jdk_29_method_69_code, exceptionTable := #[], attributes := #[] }
def k15m2 : Method := { name := "min", desc := "(II)I", sig := { parameters := [.int, .int], returnType := some .int }, accessFlags := 9, code := some k15c2 }
/-- java/lang/Math -/
def k15 : Class := { plain "java/lang/Math" (some 0) with
  accessFlags := 49
  interfaces := #[]
  cf := some (fileOf pool15 1 #[.nestMembers #[98]] #[{ accessFlags := 2, nameIndex := 7, descriptorIndex := 8, attributes := #[] }, { accessFlags := 9, nameIndex := 198, descriptorIndex := 335, attributes := #[] }, { accessFlags := 9, nameIndex := 201, descriptorIndex := 335, attributes := #[] }] 49 4 #[] #[{ accessFlags := 25, nameIndex := 354, descriptorIndex := 339, attributes := #[] }, { accessFlags := 25, nameIndex := 358, descriptorIndex := 339, attributes := #[] }, { accessFlags := 25, nameIndex := 361, descriptorIndex := 339, attributes := #[] }, { accessFlags := 26, nameIndex := 364, descriptorIndex := 339, attributes := #[] }, { accessFlags := 26, nameIndex := 365, descriptorIndex := 339, attributes := #[] }, { accessFlags := 26, nameIndex := 172, descriptorIndex := 173, attributes := #[] }, { accessFlags := 26, nameIndex := 176, descriptorIndex := 173, attributes := #[] }, { accessFlags := 8, nameIndex := 344, descriptorIndex := 339, attributes := #[] }, { accessFlags := 8, nameIndex := 338, descriptorIndex := 339, attributes := #[] }, { accessFlags := 4120, nameIndex := 245, descriptorIndex := 246, attributes := #[] }])
  fields := #[{ name := "E", type := .double, accessFlags := 25, slot := 0, constantValue := 0 }, { name := "PI", type := .double, accessFlags := 25, slot := 1, constantValue := 0 }, { name := "TAU", type := .double, accessFlags := 25, slot := 2, constantValue := 0 }, { name := "DEGREES_TO_RADIANS", type := .double, accessFlags := 26, slot := 3, constantValue := 0 }, { name := "RADIANS_TO_DEGREES", type := .double, accessFlags := 26, slot := 4, constantValue := 0 }, { name := "negativeZeroFloatBits", type := .long, accessFlags := 26, slot := 5, constantValue := 0 }, { name := "negativeZeroDoubleBits", type := .long, accessFlags := 26, slot := 6, constantValue := 0 }, { name := "twoToTheDoubleScaleUp", type := .double, accessFlags := 8, slot := 7, constantValue := 0 }, { name := "twoToTheDoubleScaleDown", type := .double, accessFlags := 8, slot := 8, constantValue := 0 }, { name := "$assertionsDisabled", type := .boolean, accessFlags := 4120, slot := 9, constantValue := 0 }]
  methods := #[k15m0, k15m1, k15m2]
  instanceTypes := #[]
  staticTypes := #[.double, .double, .double, .double, .double, .long, .long, .double, .double, .boolean]
  resolved := Array.replicate 460 none
  statics := none }

def pool16 : Array CpInfo := pool [(2, .class_ 4), (1, u "java/lang/Object"), (0, u "<init>"), (0, u "()V"), (7, .class_ 16), (1, u "java/util/Arrays"), (57, .class_ 76), (1, u "java/util/Arrays$NaturalOrder"), (36, .class_ 115), (1, u "java/util/Arrays$LegacyMergeSort"), (1, u "Z"), (21, u "copyOfRange"), (10, .methodref 151 152), (0, .class_ 153), (0, .nameAndType 154 155), (0, u "java/lang/System"), (0, u "arraycopy"), (0, u "(Ljava/lang/Object;ILjava/lang/Object;II)V"), (146, u "copyOf"), (1, .methodref 305 306), (0, .class_ 307), (0, .nameAndType 308 309), (0, u "java/lang/Math"), (0, u "min"), (0, u "(II)I"), (29, .methodref 14 340), (0, .nameAndType 341 342), (0, u "copyOfRangeByte"), (0, u "([BII)[B"), (0, .methodref 14 344), (0, .nameAndType 345 346), (0, u "checkLength"), (0, u "(II)V"), (28, .class_ 376), (0, u "java/util/Arrays$ArrayList"), (68, u "$assertionsDisabled"), (269, u "MIN_ARRAY_SORT_GRAN"), (0, u "I"), (2, u "INSERTIONSORT_THRESHOLD"), (149, u "([BI)[B"), (105, .class_ 976), (0, u "java/util/Arrays$ArrayItr")] 52

def k16m0 : Method := { name := "<init>", desc := "()V", sig := { parameters := [], returnType := none }, accessFlags := 2, code := none }
def k16c1 : Code := { maxStack := 6, maxLocals := 3, code := jdk_65_method_121_code, exceptionTable := #[], attributes := #[] }
def k16m1 : Method := { name := "copyOf", desc := "([BI)[B", sig := { parameters := [(.array .byte), .int], returnType := some (.array .byte) }, accessFlags := 9, code := some k16c1 }
def k16c2 : Code := { maxStack := 4, maxLocals := 2, code := jdk_65_method_131_code, exceptionTable := #[], attributes := #[] }
def k16m2 : Method := { name := "checkLength", desc := "(II)V", sig := { parameters := [.int, .int], returnType := none }, accessFlags := 10, code := some k16c2 }
def k16c3 : Code := { maxStack := 3, maxLocals := 3, code := jdk_65_method_132_code, exceptionTable := #[], attributes := #[] }
def k16m3 : Method := { name := "copyOfRange", desc := "([BII)[B", sig := { parameters := [(.array .byte), .int, .int], returnType := some (.array .byte) }, accessFlags := 9, code := some k16c3 }
def k16c4 : Code := { maxStack := 6, maxLocals := 5, code := jdk_65_method_133_code, exceptionTable := #[], attributes := #[] }
def k16m4 : Method := { name := "copyOfRangeByte", desc := "([BII)[B", sig := { parameters := [(.array .byte), .int, .int], returnType := some (.array .byte) }, accessFlags := 10, code := some k16c4 }
/-- java/util/Arrays -/
def k16 : Class := { plain "java/util/Arrays" (some 0) with
  accessFlags := 49
  interfaces := #[]
  cf := some (fileOf pool16 14 #[.nestMembers #[975, 375, 113, 74]] #[{ accessFlags := 2, nameIndex := 5, descriptorIndex := 6, attributes := #[] }, { accessFlags := 9, nameIndex := 302, descriptorIndex := 869, attributes := #[] }, { accessFlags := 10, nameIndex := 345, descriptorIndex := 346, attributes := #[] }, { accessFlags := 9, nameIndex := 139, descriptorIndex := 342, attributes := #[] }, { accessFlags := 10, nameIndex := 341, descriptorIndex := 342, attributes := #[] }] 49 2 #[] #[{ accessFlags := 26, nameIndex := 715, descriptorIndex := 716, attributes := #[] }, { accessFlags := 26, nameIndex := 719, descriptorIndex := 716, attributes := #[] }, { accessFlags := 4120, nameIndex := 445, descriptorIndex := 117, attributes := #[] }])
  fields := #[{ name := "MIN_ARRAY_SORT_GRAN", type := .int, accessFlags := 26, slot := 0, constantValue := 0 }, { name := "INSERTIONSORT_THRESHOLD", type := .int, accessFlags := 26, slot := 1, constantValue := 0 }, { name := "$assertionsDisabled", type := .boolean, accessFlags := 4120, slot := 2, constantValue := 0 }]
  methods := #[k16m0, k16m1, k16m2, k16m3, k16m4]
  instanceTypes := #[]
  staticTypes := #[.int, .int, .boolean]
  resolved := Array.replicate 1029 none
  statics := none }

def pool17 : Array CpInfo := pool [(2, .class_ 4), (1, u "java/lang/Object"), (0, u "<init>"), (0, u "()V"), (1, .class_ 10), (1, u "java/lang/System"), (0, u "allowSecurityManager"), (0, u "I"), (16, u "cons"), (0, u "Ljava/io/Console;"), (77, .class_ 110), (1, u "java/lang/System$CallersHolder"), (43, u "initialErrStream"), (0, u "Ljava/io/PrintStream;"), (19, u "security"), (0, u "Ljava/lang/SecurityManager;"), (31, .class_ 209), (0, u "java/lang/System$1"), (7, u "props"), (0, u "Ljava/util/Properties;"), (2, u "lineSeparator"), (0, u "Ljava/lang/String;"), (96, .class_ 321), (1, u "java/lang/System$LoggerFinder"), (5, .class_ 328), (0, u "java/lang/System$Logger"), (67, u "err"), (2, u "out"), (91, u "notSupportedJnuEncoding"), (15, u "in"), (17, u "initialIn"), (0, u "Ljava/io/InputStream;"), (35, u "bootLayer"), (0, u "Ljava/lang/ModuleLayer;"), (99, .class_ 664), (0, u "java/lang/System$2"), (9, u "NEVER"), (2, u "MAYBE"), (49, u "arraycopy"), (0, u "(Ljava/lang/Object;ILjava/lang/Object;II)V"), (72, .class_ 802), (0, u "java/lang/System$Logger$Level")] 31

def k17m0 : Method := { name := "<init>", desc := "()V", sig := { parameters := [], returnType := none }, accessFlags := 2, code := none }
def k17m1 : Method := { name := "arraycopy", desc := "(Ljava/lang/Object;ILjava/lang/Object;II)V", sig := { parameters := [(.object "java/lang/Object"), .int, (.object "java/lang/Object"), .int, .int], returnType := none }, accessFlags := 265, code := none }
/-- java/lang/System -/
def k17 : Class := { plain "java/lang/System" (some 0) with
  accessFlags := 49
  interfaces := #[]
  cf := some (fileOf pool17 8 #[.nestMembers #[319, 327, 801, 108, 663, 208]] #[{ accessFlags := 2, nameIndex := 5, descriptorIndex := 6, attributes := #[] }, { accessFlags := 265, nameIndex := 727, descriptorIndex := 728, attributes := #[] }] 49 2 #[] #[{ accessFlags := 25, nameIndex := 507, descriptorIndex := 526, attributes := #[] }, { accessFlags := 25, nameIndex := 399, descriptorIndex := 155, attributes := #[] }, { accessFlags := 25, nameIndex := 396, descriptorIndex := 155, attributes := #[] }, { accessFlags := 10, nameIndex := 525, descriptorIndex := 526, attributes := #[] }, { accessFlags := 26, nameIndex := 674, descriptorIndex := 12, attributes := #[] }, { accessFlags := 26, nameIndex := 677, descriptorIndex := 12, attributes := #[] }, { accessFlags := 10, nameIndex := 11, descriptorIndex := 12, attributes := #[] }, { accessFlags := 74, nameIndex := 175, descriptorIndex := 176, attributes := #[] }, { accessFlags := 10, nameIndex := 491, descriptorIndex := 222, attributes := #[] }, { accessFlags := 74, nameIndex := 29, descriptorIndex := 30, attributes := #[] }, { accessFlags := 74, nameIndex := 154, descriptorIndex := 155, attributes := #[] }, { accessFlags := 10, nameIndex := 217, descriptorIndex := 218, attributes := #[] }, { accessFlags := 10, nameIndex := 221, descriptorIndex := 222, attributes := #[] }, { accessFlags := 8, nameIndex := 562, descriptorIndex := 563, attributes := #[] }])
  fields := #[{ name := "in", type := (.object "java/io/InputStream"), accessFlags := 25, slot := 0, constantValue := 0 }, { name := "out", type := (.object "java/io/PrintStream"), accessFlags := 25, slot := 1, constantValue := 0 }, { name := "err", type := (.object "java/io/PrintStream"), accessFlags := 25, slot := 2, constantValue := 0 }, { name := "initialIn", type := (.object "java/io/InputStream"), accessFlags := 10, slot := 3, constantValue := 0 }, { name := "NEVER", type := .int, accessFlags := 26, slot := 4, constantValue := 0 }, { name := "MAYBE", type := .int, accessFlags := 26, slot := 5, constantValue := 0 }, { name := "allowSecurityManager", type := .int, accessFlags := 10, slot := 6, constantValue := 0 }, { name := "security", type := (.object "java/lang/SecurityManager"), accessFlags := 74, slot := 7, constantValue := 0 }, { name := "notSupportedJnuEncoding", type := (.object "java/lang/String"), accessFlags := 10, slot := 8, constantValue := 0 }, { name := "cons", type := (.object "java/io/Console"), accessFlags := 74, slot := 9, constantValue := 0 }, { name := "initialErrStream", type := (.object "java/io/PrintStream"), accessFlags := 74, slot := 10, constantValue := 0 }, { name := "props", type := (.object "java/util/Properties"), accessFlags := 10, slot := 11, constantValue := 0 }, { name := "lineSeparator", type := (.object "java/lang/String"), accessFlags := 10, slot := 12, constantValue := 0 }, { name := "bootLayer", type := (.object "java/lang/ModuleLayer"), accessFlags := 8, slot := 13, constantValue := 0 }]
  methods := #[k17m0, k17m1]
  instanceTypes := #[]
  staticTypes := #[(.object "java/io/InputStream"), (.object "java/io/PrintStream"), (.object "java/io/PrintStream"), (.object "java/io/InputStream"), .int, .int, .int, (.object "java/lang/SecurityManager"), (.object "java/lang/String"), (.object "java/io/Console"), (.object "java/io/PrintStream"), (.object "java/util/Properties"), (.object "java/lang/String"), (.object "java/lang/ModuleLayer")]
  resolved := Array.replicate 834 none
  statics := none }

def pool18 : Array CpInfo := pool [(2, .class_ 4), (1, u "java/lang/Object"), (0, u "<init>"), (0, u "()V"), (17, .class_ 26), (1, u "jdk/internal/util/Preconditions"), (6, u "checkIndex"), (21, .class_ 56), (0, u "jdk/internal/util/Preconditions$4"), (57, .class_ 115), (0, u "jdk/internal/util/Preconditions$1"), (7, u "SIOOBE_FORMATTER"), (0, u "Ljava/util/function/BiFunction;"), (0, .class_ 126), (0, u "jdk/internal/util/Preconditions$2"), (3, u "AIOOBE_FORMATTER"), (0, .class_ 132), (0, u "jdk/internal/util/Preconditions$3"), (3, u "IOOBE_FORMATTER"), (41, u "(IILjava/util/function/BiFunction;)I")] 15

def k18m0 : Method := { name := "<init>", desc := "()V", sig := { parameters := [], returnType := none }, accessFlags := 1, code := none }
def k18c1 : Code := { maxStack := 3, maxLocals := 3, code := jdk_41_method_11_code, exceptionTable := #[], attributes := #[] }
def k18m1 : Method := { name := "checkIndex", desc := "(IILjava/util/function/BiFunction;)I", sig := { parameters := [.int, .int, (.object "java/util/function/BiFunction")], returnType := some .int }, accessFlags := 9, code := some k18c1 }
/-- jdk/internal/util/Preconditions -/
def k18 : Class := { plain "jdk/internal/util/Preconditions" (some 0) with
  accessFlags := 33
  interfaces := #[]
  cf := some (fileOf pool18 24 #[.nestMembers #[55, 131, 125, 114]] #[{ accessFlags := 1, nameIndex := 5, descriptorIndex := 6, attributes := #[] }, { accessFlags := 9, nameIndex := 33, descriptorIndex := 178, attributes := #[] }] 33 2 #[] #[{ accessFlags := 25, nameIndex := 123, descriptorIndex := 124, attributes := #[] }, { accessFlags := 25, nameIndex := 130, descriptorIndex := 124, attributes := #[] }, { accessFlags := 25, nameIndex := 136, descriptorIndex := 124, attributes := #[] }])
  fields := #[{ name := "SIOOBE_FORMATTER", type := (.object "java/util/function/BiFunction"), accessFlags := 25, slot := 0, constantValue := 0 }, { name := "AIOOBE_FORMATTER", type := (.object "java/util/function/BiFunction"), accessFlags := 25, slot := 1, constantValue := 0 }, { name := "IOOBE_FORMATTER", type := (.object "java/util/function/BiFunction"), accessFlags := 25, slot := 2, constantValue := 0 }]
  methods := #[k18m0, k18m1]
  instanceTypes := #[]
  staticTypes := #[(.object "java/util/function/BiFunction"), (.object "java/util/function/BiFunction"), (.object "java/util/function/BiFunction")]
  resolved := Array.replicate 194 none
  statics := some 1 }

def pool19 : Array CpInfo := pool [(1, u "java/lang/Cloneable"), (0, .class_ 1), (0, u "java/lang/Object"), (0, .class_ 3)] 3

/-- java/lang/Cloneable -/
def k19 : Class := { plain "java/lang/Cloneable" (some 0) with
  accessFlags := 1537
  interfaces := #[]
  cf := some (fileOf pool19 2 #[] #[] 1537 4 #[] #[])
  fields := #[]
  methods := #[]
  instanceTypes := #[]
  staticTypes := #[]
  resolved := Array.replicate 8 none
  statics := none }

/-- the primitive byte -/
def k20 : Class := { plain "byte" none with kind := .primitive 'B', accessFlags := 0x411 }
/-- [B -/
def k21 : Class := { plain "[B" (some 0) with kind := .array 20 .byte, interfaces := #[19, 2], accessFlags := 1041 }

/-- the primitive int -/
def k22 : Class := { plain "int" none with kind := .primitive 'I', accessFlags := 0x411 }
/-- [I -/
def k23 : Class := { plain "[I" (some 0) with kind := .array 22 .int, interfaces := #[19, 2], accessFlags := 1041 }

def heap : Heap := #[{ cls := 7, slots := #[.long 0, .int 1, .null, .int 0, .null, .int 0, .int 0], vm := .statics 7 },
  { cls := 18, slots := #[.null, .null, .null], vm := .statics 18 }]
def classes : Array Class := #[k0, k1, k2, k3, k4, k5, k6, k7, k8, k9, k10, k11, k12, k13, k14, k15, k16, k17, k18, k19, k20, k21, k22, k23]
def interned : List (Array UInt16 × Addr) := []
def slotsUsed : Nat := 10
def theMethod : MethodId := ⟨1, 4⟩
def args0 : Array Value := #[.int 5, .int 5, .int 5, .int 5, .int 5]
def aboutOver (below : List Frame) : State where
  vm := { classes := classes, interned := interned.toArray }
  heap := heap
  slotsUsed := slotsUsed
  threads := #[{ frames := .invoking theMethod args0 :: below }]
def below0 : List Frame := [.native { method := ⟨0, 0⟩, args := #[] }]
def about1 : State := aboutOver below0
def p0 : Program := .bare "" "" ""
def e0 : Env := launch0.env 0 0 0
theorem w_frames : about1.frames = Frame.invoking theMethod args0 :: below0 := rfl
set_option maxRecDepth 65536 in
theorem w_args : argsFit about1.vm theMethod args0 = true := by decide +kernel
set_option maxRecDepth 65536 in
theorem w_heap : heapFits about1 = true := by decide +kernel
set_option maxRecDepth 65536 in
theorem w_runnable : about1.curStatus? = some .runnable := by decide +kernel
set_option maxRecDepth 65536 in
theorem w_alone : about1.alone = true := by decide +kernel
set_option maxRecDepth 65536 in
theorem w_named : about1.methodNamed? x = some theMethod := by decide +kernel
set_option maxRecDepth 65536 in
theorem w_hears : about1.hears theMethod below0 = true := by decide +kernel
set_option maxRecDepth 65536 in
theorem w_ripe : about1.ripe theMethod args0 below0 = true := by decide +kernel
theorem w_running : about1.status = .running := rfl
set_option maxRecDepth 65536 in
theorem w_room : about1.hasRoom e0.platform room_1 = true :=
  launch0.hasRoom_least _ room_1 (by decide +kernel) (by decide +kernel) (by decide +kernel) (by decide +kernel) (by decide +kernel) (by decide +kernel)
theorem allAtoms_all (ts : List Jvm.Cond) (a : Array Jvm.Value) (st : Jvm.State) : (allAtoms ts).before a st = ts.all (fun c => c.before a st) := by
  induction ts with
  | nil => rfl
  | cons c t ih =>
    show (Jvm.Cond.and c (allAtoms t)).before a st = _
    rw [Jvm.Cond.before_and, ih, List.all_cons]
def words1 : List Jvm.Cond := Jvm.Cond.code x code maxLocals ret :: tables_1
/-- a 'code' word, met by the world's own term for the bytes: nothing is compared byte by byte -/
theorem code_word {y : MethodName} {bytes : ByteArray} {mx : Nat} {rt : Option FieldType} {a : Array Value} {s : State} {m : MethodId} {meth : Method} {c : Code} (h1 : s.methodNamed? y = some m) (h2 : s.vm.method? m = some meth) (h3 : meth.code = some c) (h4 : c.code = bytes)
    (h5 : (c.maxLocals == mx && c.exceptionTable.isEmpty && decide (c.maxStack ≤ mostOperands) && decide (meth.sig.returnType = rt) && !meth.locks && decide (parseMethodDescriptor y.desc = some meth.sig)) = true) : (Jvm.Cond.code y bytes mx rt).before a s = true := by
  simp only [Bool.and_eq_true, beq_iff_eq, Bool.not_eq_true', decide_eq_true_eq] at h5
  obtain ⟨⟨⟨⟨⟨g1, g2⟩, g3⟩, g4⟩, g5⟩, g6⟩ := h5
  simp [Cond.before, Cond.holds, Cond.value, h1, h2, h3, h4, g1, g2, g3, g4, g5, g6]
def isCode : Jvm.Cond → Bool
  | .code _ _ _ _ => true
  | _ => false
theorem all_split {L : List Jvm.Cond} {P : Jvm.Cond → Bool} (h1 : L.all (fun c => isCode c || P c) = true) (h2 : ∀ c ∈ L.filter isCode, P c = true) : L.all P = true := by
  refine List.all_eq_true.mpr fun c hc => ?_
  have h := List.all_eq_true.mp h1 c hc
  rcases Bool.eq_false_or_eq_true (isCode c) with hi | hi
  · exact h2 c (List.mem_filter.mpr ⟨hc, hi⟩)
  · simpa [hi] using h
set_option maxRecDepth 65536 in
theorem w_c0 : (Jvm.Cond.code x code maxLocals ret).before args0 about1 = true := code_word (m := ⟨1, 4⟩) (meth := k1m4) (c := k1c4) (by decide +kernel) rfl rfl rfl (by decide +kernel)
set_option maxRecDepth 65536 in
theorem w_c1 : (Jvm.Cond.code ({ cls := "com/example/austere_auth/austereauth/grant/TokenRequestToStringPinLaw", name := "field", desc := "(I)Ljava/lang/String;" } : Jvm.MethodName) method_2_code (1 : Nat) (Option.some (Jvm.ClassFile.FieldType.object "java/lang/String"))).before args0 about1 = true := code_word (m := ⟨1, 1⟩) (meth := k1m1) (c := k1c1) (by decide +kernel) rfl rfl rfl (by decide +kernel)
set_option maxRecDepth 65536 in
theorem w_c2 : (Jvm.Cond.code ({ cls := "java/lang/String", name := "valueOf", desc := "(C)Ljava/lang/String;" } : Jvm.MethodName) jdk_42_method_139_code (1 : Nat) (Option.some (Jvm.ClassFile.FieldType.object "java/lang/String"))).before args0 about1 = true := code_word (m := ⟨7, 5⟩) (meth := k7m5) (c := k7c5) (by decide +kernel) rfl rfl rfl (by decide +kernel)
set_option maxRecDepth 65536 in
theorem w_c3 : (Jvm.Cond.code ({ cls := "java/lang/StringLatin1", name := "canEncode", desc := "(C)Z" } : Jvm.MethodName) jdk_43_method_3_code (1 : Nat) (Option.some Jvm.ClassFile.FieldType.boolean)).before args0 about1 = true := code_word (m := ⟨8, 2⟩) (meth := k8m2) (c := k8c2) (by decide +kernel) rfl rfl rfl (by decide +kernel)
set_option maxRecDepth 65536 in
theorem w_c4 : (Jvm.Cond.code ({ cls := "java/lang/StringLatin1", name := "toBytes", desc := "(C)[B" } : Jvm.MethodName) jdk_43_method_46_code (1 : Nat) (Option.some (Jvm.ClassFile.FieldType.array Jvm.ClassFile.FieldType.byte))).before args0 about1 = true := code_word (m := ⟨8, 4⟩) (meth := k8m4) (c := k8c4) (by decide +kernel) rfl rfl rfl (by decide +kernel)
set_option maxRecDepth 65536 in
theorem w_c5 : (Jvm.Cond.code ({ cls := "java/lang/String", name := "<init>", desc := "([BB)V" } : Jvm.MethodName) jdk_42_method_151_code (3 : Nat) (Option.none : Option Jvm.ClassFile.FieldType)).before args0 about1 = true := code_word (m := ⟨7, 8⟩) (meth := k7m8) (c := k7c8) (by decide +kernel) rfl rfl rfl (by decide +kernel)
set_option maxRecDepth 65536 in
theorem w_c6 : (Jvm.Cond.code ({ cls := "java/lang/Object", name := "<init>", desc := "()V" } : Jvm.MethodName) object_method_1_code (1 : Nat) (Option.none : Option Jvm.ClassFile.FieldType)).before args0 about1 = true := code_word (m := ⟨0, 0⟩) (meth := k0m0) (c := k0c0) (by decide +kernel) rfl rfl rfl (by decide +kernel)
set_option maxRecDepth 65536 in
theorem w_c7 : (Jvm.Cond.code ({ cls := "com/example/austere_auth/austereauth/grant/TokenRequest", name := "<init>", desc := "(Ljava/lang/String;Ljava/lang/String;Ljava/lang/String;Ljava/lang/String;Ljava/lang/String;Ljava/lang/String;)V" } : Jvm.MethodName) prog_13_method_1_code (7 : Nat) (Option.none : Option Jvm.ClassFile.FieldType)).before args0 about1 = true := code_word (m := ⟨10, 0⟩) (meth := k10m0) (c := k10c0) (by decide +kernel) rfl rfl rfl (by decide +kernel)
set_option maxRecDepth 65536 in
theorem w_c8 : (Jvm.Cond.code ({ cls := "java/lang/Record", name := "<init>", desc := "()V" } : Jvm.MethodName) jdk_30_method_1_code (1 : Nat) (Option.none : Option Jvm.ClassFile.FieldType)).before args0 about1 = true := code_word (m := ⟨9, 0⟩) (meth := k9m0) (c := k9c0) (by decide +kernel) rfl rfl rfl (by decide +kernel)
set_option maxRecDepth 65536 in
theorem w_c9 : (Jvm.Cond.code ({ cls := "com/example/austere_auth/austereauth/grant/TokenRequest", name := "toString", desc := "()Ljava/lang/String;" } : Jvm.MethodName) prog_13_method_2_code (1 : Nat) (Option.some (Jvm.ClassFile.FieldType.object "java/lang/String"))).before args0 about1 = true := code_word (m := ⟨10, 1⟩) (meth := k10m1) (c := k10c1) (by decide +kernel) rfl rfl rfl (by decide +kernel)
set_option maxRecDepth 65536 in
theorem w_c10 : (Jvm.Cond.code ({ cls := "java/lang/StringBuilder", name := "<init>", desc := "()V" } : Jvm.MethodName) jdk_67_method_1_code (1 : Nat) (Option.none : Option Jvm.ClassFile.FieldType)).before args0 about1 = true := code_word (m := ⟨13, 0⟩) (meth := k13m0) (c := k13c0) (by decide +kernel) rfl rfl rfl (by decide +kernel)
set_option maxRecDepth 65536 in
theorem w_c11 : (Jvm.Cond.code ({ cls := "java/lang/AbstractStringBuilder", name := "<init>", desc := "(I)V" } : Jvm.MethodName) jdk_68_method_2_code (2 : Nat) (Option.none : Option Jvm.ClassFile.FieldType)).before args0 about1 = true := code_word (m := ⟨12, 1⟩) (meth := k12m1) (c := k12c1) (by decide +kernel) rfl rfl rfl (by decide +kernel)
set_option maxRecDepth 65536 in
theorem w_c12 : (Jvm.Cond.code ({ cls := "java/lang/StringBuilder", name := "append", desc := "(Ljava/lang/String;)Ljava/lang/StringBuilder;" } : Jvm.MethodName) jdk_67_method_7_code (2 : Nat) (Option.some (Jvm.ClassFile.FieldType.object "java/lang/StringBuilder"))).before args0 about1 = true := code_word (m := ⟨13, 1⟩) (meth := k13m1) (c := k13c1) (by decide +kernel) rfl rfl rfl (by decide +kernel)
set_option maxRecDepth 65536 in
theorem w_c13 : (Jvm.Cond.code ({ cls := "java/lang/AbstractStringBuilder", name := "append", desc := "(Ljava/lang/String;)Ljava/lang/AbstractStringBuilder;" } : Jvm.MethodName) jdk_68_method_22_code (3 : Nat) (Option.some (Jvm.ClassFile.FieldType.object "java/lang/AbstractStringBuilder"))).before args0 about1 = true := code_word (m := ⟨12, 5⟩) (meth := k12m5) (c := k12c5) (by decide +kernel) rfl rfl rfl (by decide +kernel)
set_option maxRecDepth 65536 in
theorem w_c14 : (Jvm.Cond.code ({ cls := "java/lang/String", name := "length", desc := "()I" } : Jvm.MethodName) jdk_42_method_54_code (1 : Nat) (Option.some Jvm.ClassFile.FieldType.int)).before args0 about1 = true := code_word (m := ⟨7, 2⟩) (meth := k7m2) (c := k7c2) (by decide +kernel) rfl rfl rfl (by decide +kernel)
set_option maxRecDepth 65536 in
theorem w_c15 : (Jvm.Cond.code ({ cls := "java/lang/String", name := "coder", desc := "()B" } : Jvm.MethodName) jdk_42_method_152_code (1 : Nat) (Option.some Jvm.ClassFile.FieldType.byte)).before args0 about1 = true := code_word (m := ⟨7, 9⟩) (meth := k7m9) (c := k7c9) (by decide +kernel) rfl rfl rfl (by decide +kernel)
set_option maxRecDepth 65536 in
theorem w_c16 : (Jvm.Cond.code ({ cls := "java/lang/AbstractStringBuilder", name := "ensureCapacityInternal", desc := "(I)V" } : Jvm.MethodName) jdk_68_method_9_code (3 : Nat) (Option.none : Option Jvm.ClassFile.FieldType)).before args0 about1 = true := code_word (m := ⟨12, 3⟩) (meth := k12m3) (c := k12c3) (by decide +kernel) rfl rfl rfl (by decide +kernel)
set_option maxRecDepth 65536 in
theorem w_c17 : (Jvm.Cond.code ({ cls := "java/lang/AbstractStringBuilder", name := "newCapacity", desc := "(I)I" } : Jvm.MethodName) jdk_68_method_10_code (6 : Nat) (Option.some Jvm.ClassFile.FieldType.int)).before args0 about1 = true := code_word (m := ⟨12, 4⟩) (meth := k12m4) (c := k12c4) (by decide +kernel) rfl rfl rfl (by decide +kernel)
set_option maxRecDepth 65536 in
theorem w_c18 : (Jvm.Cond.code ({ cls := "jdk/internal/util/ArraysSupport", name := "newLength", desc := "(III)I" } : Jvm.MethodName) jdk_48_method_27_code (4 : Nat) (Option.some Jvm.ClassFile.FieldType.int)).before args0 about1 = true := code_word (m := ⟨14, 1⟩) (meth := k14m1) (c := k14c1) (by decide +kernel) rfl rfl rfl (by decide +kernel)
set_option maxRecDepth 65536 in
theorem w_c19 : (Jvm.Cond.code ({ cls := "java/lang/Math", name := "max", desc := "(II)I" } : Jvm.MethodName) jdk_29_method_65_code (2 : Nat) (Option.some Jvm.ClassFile.FieldType.int)).before args0 about1 = true := code_word (m := ⟨15, 1⟩) (meth := k15m1) (c := k15c1) (by decide +kernel) rfl rfl rfl (by decide +kernel)
set_option maxRecDepth 65536 in
theorem w_c20 : (Jvm.Cond.code ({ cls := "java/util/Arrays", name := "copyOf", desc := "([BI)[B" } : Jvm.MethodName) jdk_65_method_121_code (3 : Nat) (Option.some (Jvm.ClassFile.FieldType.array Jvm.ClassFile.FieldType.byte))).before args0 about1 = true := code_word (m := ⟨16, 1⟩) (meth := k16m1) (c := k16c1) (by decide +kernel) rfl rfl rfl (by decide +kernel)
set_option maxRecDepth 65536 in
theorem w_c21 : (Jvm.Cond.code ({ cls := "java/lang/Math", name := "min", desc := "(II)I" } : Jvm.MethodName) jdk_29_method_69_code (2 : Nat) (Option.some Jvm.ClassFile.FieldType.int)).before args0 about1 = true := code_word (m := ⟨15, 2⟩) (meth := k15m2) (c := k15c2) (by decide +kernel) rfl rfl rfl (by decide +kernel)
set_option maxRecDepth 65536 in
theorem w_c22 : (Jvm.Cond.code ({ cls := "java/lang/AbstractStringBuilder", name := "putStringAt", desc := "(ILjava/lang/String;)V" } : Jvm.MethodName) jdk_68_method_73_code (3 : Nat) (Option.none : Option Jvm.ClassFile.FieldType)).before args0 about1 = true := code_word (m := ⟨12, 10⟩) (meth := k12m10) (c := k12c10) (by decide +kernel) rfl rfl rfl (by decide +kernel)
set_option maxRecDepth 65536 in
theorem w_c23 : (Jvm.Cond.code ({ cls := "java/lang/AbstractStringBuilder", name := "inflateIfNeededFor", desc := "(Ljava/lang/String;)V" } : Jvm.MethodName) jdk_68_method_71_code (2 : Nat) (Option.none : Option Jvm.ClassFile.FieldType)).before args0 about1 = true := code_word (m := ⟨12, 9⟩) (meth := k12m9) (c := k12c9) (by decide +kernel) rfl rfl rfl (by decide +kernel)
set_option maxRecDepth 65536 in
theorem w_c24 : (Jvm.Cond.code ({ cls := "java/lang/String", name := "getBytes", desc := "([BIB)V" } : Jvm.MethodName) jdk_42_method_147_code (4 : Nat) (Option.none : Option Jvm.ClassFile.FieldType)).before args0 about1 = true := code_word (m := ⟨7, 6⟩) (meth := k7m6) (c := k7c6) (by decide +kernel) rfl rfl rfl (by decide +kernel)
set_option maxRecDepth 65536 in
theorem w_c25 : (Jvm.Cond.code ({ cls := "java/lang/StringBuilder", name := "toString", desc := "()Ljava/lang/String;" } : Jvm.MethodName) jdk_67_method_42_code (1 : Nat) (Option.some (Jvm.ClassFile.FieldType.object "java/lang/String"))).before args0 about1 = true := code_word (m := ⟨13, 2⟩) (meth := k13m2) (c := k13c2) (by decide +kernel) rfl rfl rfl (by decide +kernel)
set_option maxRecDepth 65536 in
theorem w_c26 : (Jvm.Cond.code ({ cls := "java/lang/String", name := "<init>", desc := "(Ljava/lang/StringBuilder;)V" } : Jvm.MethodName) jdk_42_method_53_code (2 : Nat) (Option.none : Option Jvm.ClassFile.FieldType)).before args0 about1 = true := code_word (m := ⟨7, 1⟩) (meth := k7m1) (c := k7c1) (by decide +kernel) rfl rfl rfl (by decide +kernel)
set_option maxRecDepth 65536 in
theorem w_c27 : (Jvm.Cond.code ({ cls := "java/lang/String", name := "<init>", desc := "(Ljava/lang/AbstractStringBuilder;Ljava/lang/Void;)V" } : Jvm.MethodName) jdk_42_method_150_code (5 : Nat) (Option.none : Option Jvm.ClassFile.FieldType)).before args0 about1 = true := code_word (m := ⟨7, 7⟩) (meth := k7m7) (c := k7c7) (by decide +kernel) rfl rfl rfl (by decide +kernel)
set_option maxRecDepth 65536 in
theorem w_c28 : (Jvm.Cond.code ({ cls := "java/lang/AbstractStringBuilder", name := "getValue", desc := "()[B" } : Jvm.MethodName) jdk_68_method_64_code (1 : Nat) (Option.some (Jvm.ClassFile.FieldType.array Jvm.ClassFile.FieldType.byte))).before args0 about1 = true := code_word (m := ⟨12, 7⟩) (meth := k12m7) (c := k12c7) (by decide +kernel) rfl rfl rfl (by decide +kernel)
set_option maxRecDepth 65536 in
theorem w_c29 : (Jvm.Cond.code ({ cls := "java/lang/StringBuilder", name := "length", desc := "()I" } : Jvm.MethodName) jdk_67_method_93_code (1 : Nat) (Option.some Jvm.ClassFile.FieldType.int)).before args0 about1 = true := code_word (m := ⟨13, 3⟩) (meth := k13m3) (c := k13c3) (by decide +kernel) rfl rfl rfl (by decide +kernel)
set_option maxRecDepth 65536 in
theorem w_c30 : (Jvm.Cond.code ({ cls := "java/lang/AbstractStringBuilder", name := "length", desc := "()I" } : Jvm.MethodName) jdk_68_method_6_code (1 : Nat) (Option.some Jvm.ClassFile.FieldType.int)).before args0 about1 = true := code_word (m := ⟨12, 2⟩) (meth := k12m2) (c := k12c2) (by decide +kernel) rfl rfl rfl (by decide +kernel)
set_option maxRecDepth 65536 in
theorem w_c31 : (Jvm.Cond.code ({ cls := "java/lang/AbstractStringBuilder", name := "isLatin1", desc := "()Z" } : Jvm.MethodName) jdk_68_method_68_code (1 : Nat) (Option.some Jvm.ClassFile.FieldType.boolean)).before args0 about1 = true := code_word (m := ⟨12, 8⟩) (meth := k12m8) (c := k12c8) (by decide +kernel) rfl rfl rfl (by decide +kernel)
set_option maxRecDepth 65536 in
theorem w_c32 : (Jvm.Cond.code ({ cls := "java/util/Arrays", name := "copyOfRange", desc := "([BII)[B" } : Jvm.MethodName) jdk_65_method_132_code (3 : Nat) (Option.some (Jvm.ClassFile.FieldType.array Jvm.ClassFile.FieldType.byte))).before args0 about1 = true := code_word (m := ⟨16, 3⟩) (meth := k16m3) (c := k16c3) (by decide +kernel) rfl rfl rfl (by decide +kernel)
set_option maxRecDepth 65536 in
theorem w_c33 : (Jvm.Cond.code ({ cls := "java/util/Arrays", name := "copyOfRangeByte", desc := "([BII)[B" } : Jvm.MethodName) jdk_65_method_133_code (5 : Nat) (Option.some (Jvm.ClassFile.FieldType.array Jvm.ClassFile.FieldType.byte))).before args0 about1 = true := code_word (m := ⟨16, 4⟩) (meth := k16m4) (c := k16c4) (by decide +kernel) rfl rfl rfl (by decide +kernel)
set_option maxRecDepth 65536 in
theorem w_c34 : (Jvm.Cond.code ({ cls := "java/util/Arrays", name := "checkLength", desc := "(II)V" } : Jvm.MethodName) jdk_65_method_131_code (2 : Nat) (Option.none : Option Jvm.ClassFile.FieldType)).before args0 about1 = true := code_word (m := ⟨16, 2⟩) (meth := k16m2) (c := k16c2) (by decide +kernel) rfl rfl rfl (by decide +kernel)
set_option maxRecDepth 65536 in
theorem w_c35 : (Jvm.Cond.code ({ cls := "java/lang/String", name := "equals", desc := "(Ljava/lang/Object;)Z" } : Jvm.MethodName) jdk_42_method_66_code (3 : Nat) (Option.some Jvm.ClassFile.FieldType.boolean)).before args0 about1 = true := code_word (m := ⟨7, 4⟩) (meth := k7m4) (c := k7c4) (by decide +kernel) rfl rfl rfl (by decide +kernel)
set_option maxRecDepth 65536 in
theorem w_c36 : (Jvm.Cond.code ({ cls := "java/lang/StringLatin1", name := "equals", desc := "([B[B)Z" } : Jvm.MethodName) jdk_43_method_13_code (3 : Nat) (Option.some Jvm.ClassFile.FieldType.boolean)).before args0 about1 = true := code_word (m := ⟨8, 3⟩) (meth := k8m3) (c := k8c3) (by decide +kernel) rfl rfl rfl (by decide +kernel)
set_option maxRecDepth 65536 in
theorem w_c37 : (Jvm.Cond.code ({ cls := "com/example/austere_auth/austereauth/grant/TokenRequestToStringPinLaw", name := "len", desc := "(Ljava/lang/String;)I" } : Jvm.MethodName) method_3_code (1 : Nat) (Option.some Jvm.ClassFile.FieldType.int)).before args0 about1 = true := code_word (m := ⟨1, 2⟩) (meth := k1m2) (c := k1c2) (by decide +kernel) rfl rfl rfl (by decide +kernel)
set_option maxRecDepth 65536 in
theorem w_c38 : (Jvm.Cond.code ({ cls := "java/lang/String", name := "charAt", desc := "(I)C" } : Jvm.MethodName) jdk_42_method_56_code (2 : Nat) (Option.some Jvm.ClassFile.FieldType.char)).before args0 about1 = true := code_word (m := ⟨7, 3⟩) (meth := k7m3) (c := k7c3) (by decide +kernel) rfl rfl rfl (by decide +kernel)
set_option maxRecDepth 65536 in
theorem w_c39 : (Jvm.Cond.code ({ cls := "java/lang/String", name := "isLatin1", desc := "()Z" } : Jvm.MethodName) jdk_42_method_154_code (1 : Nat) (Option.some Jvm.ClassFile.FieldType.boolean)).before args0 about1 = true := code_word (m := ⟨7, 10⟩) (meth := k7m10) (c := k7c10) (by decide +kernel) rfl rfl rfl (by decide +kernel)
set_option maxRecDepth 65536 in
theorem w_c40 : (Jvm.Cond.code ({ cls := "java/lang/StringLatin1", name := "charAt", desc := "([BI)C" } : Jvm.MethodName) jdk_43_method_2_code (2 : Nat) (Option.some Jvm.ClassFile.FieldType.char)).before args0 about1 = true := code_word (m := ⟨8, 1⟩) (meth := k8m1) (c := k8c1) (by decide +kernel) rfl rfl rfl (by decide +kernel)
set_option maxRecDepth 65536 in
theorem w_c41 : (Jvm.Cond.code ({ cls := "java/lang/String", name := "checkIndex", desc := "(II)V" } : Jvm.MethodName) jdk_42_method_155_code (2 : Nat) (Option.none : Option Jvm.ClassFile.FieldType)).before args0 about1 = true := code_word (m := ⟨7, 11⟩) (meth := k7m11) (c := k7c11) (by decide +kernel) rfl rfl rfl (by decide +kernel)
set_option maxRecDepth 65536 in
theorem w_c42 : (Jvm.Cond.code ({ cls := "jdk/internal/util/Preconditions", name := "checkIndex", desc := "(IILjava/util/function/BiFunction;)I" } : Jvm.MethodName) jdk_41_method_11_code (3 : Nat) (Option.some Jvm.ClassFile.FieldType.int)).before args0 about1 = true := code_word (m := ⟨18, 1⟩) (meth := k18m1) (c := k18c1) (by decide +kernel) rfl rfl rfl (by decide +kernel)
set_option maxRecDepth 65536 in
theorem w_c43 : (Jvm.Cond.code ({ cls := "com/example/austere_auth/austereauth/grant/TokenRequestToStringPinLaw", name := "first", desc := "(Ljava/lang/String;)C" } : Jvm.MethodName) method_4_code (1 : Nat) (Option.some Jvm.ClassFile.FieldType.char)).before args0 about1 = true := code_word (m := ⟨1, 3⟩) (meth := k1m3) (c := k1c3) (by decide +kernel) rfl rfl rfl (by decide +kernel)
set_option maxRecDepth 65536 in
theorem w_c44 : (Jvm.Cond.code ({ cls := "java/lang/AbstractStringBuilder", name := "appendNull", desc := "()Ljava/lang/AbstractStringBuilder;" } : Jvm.MethodName) jdk_68_method_26_code (3 : Nat) (Option.some (Jvm.ClassFile.FieldType.object "java/lang/AbstractStringBuilder"))).before args0 about1 = true := code_word (m := ⟨12, 6⟩) (meth := k12m6) (c := k12c6) (by decide +kernel) rfl rfl rfl (by decide +kernel)
def codes1 : List Jvm.Cond := [Jvm.Cond.code x code maxLocals ret, Jvm.Cond.code ({ cls := "com/example/austere_auth/austereauth/grant/TokenRequestToStringPinLaw", name := "field", desc := "(I)Ljava/lang/String;" } : Jvm.MethodName) method_2_code (1 : Nat) (Option.some (Jvm.ClassFile.FieldType.object "java/lang/String")), Jvm.Cond.code ({ cls := "java/lang/String", name := "valueOf", desc := "(C)Ljava/lang/String;" } : Jvm.MethodName) jdk_42_method_139_code (1 : Nat) (Option.some (Jvm.ClassFile.FieldType.object "java/lang/String")), Jvm.Cond.code ({ cls := "java/lang/StringLatin1", name := "canEncode", desc := "(C)Z" } : Jvm.MethodName) jdk_43_method_3_code (1 : Nat) (Option.some Jvm.ClassFile.FieldType.boolean), Jvm.Cond.code ({ cls := "java/lang/StringLatin1", name := "toBytes", desc := "(C)[B" } : Jvm.MethodName) jdk_43_method_46_code (1 : Nat) (Option.some (Jvm.ClassFile.FieldType.array Jvm.ClassFile.FieldType.byte)), Jvm.Cond.code ({ cls := "java/lang/String", name := "<init>", desc := "([BB)V" } : Jvm.MethodName) jdk_42_method_151_code (3 : Nat) (Option.none : Option Jvm.ClassFile.FieldType), Jvm.Cond.code ({ cls := "java/lang/Object", name := "<init>", desc := "()V" } : Jvm.MethodName) object_method_1_code (1 : Nat) (Option.none : Option Jvm.ClassFile.FieldType), Jvm.Cond.code ({ cls := "com/example/austere_auth/austereauth/grant/TokenRequest", name := "<init>", desc := "(Ljava/lang/String;Ljava/lang/String;Ljava/lang/String;Ljava/lang/String;Ljava/lang/String;Ljava/lang/String;)V" } : Jvm.MethodName) prog_13_method_1_code (7 : Nat) (Option.none : Option Jvm.ClassFile.FieldType), Jvm.Cond.code ({ cls := "java/lang/Record", name := "<init>", desc := "()V" } : Jvm.MethodName) jdk_30_method_1_code (1 : Nat) (Option.none : Option Jvm.ClassFile.FieldType), Jvm.Cond.code ({ cls := "com/example/austere_auth/austereauth/grant/TokenRequest", name := "toString", desc := "()Ljava/lang/String;" } : Jvm.MethodName) prog_13_method_2_code (1 : Nat) (Option.some (Jvm.ClassFile.FieldType.object "java/lang/String")), Jvm.Cond.code ({ cls := "java/lang/StringBuilder", name := "<init>", desc := "()V" } : Jvm.MethodName) jdk_67_method_1_code (1 : Nat) (Option.none : Option Jvm.ClassFile.FieldType), Jvm.Cond.code ({ cls := "java/lang/AbstractStringBuilder", name := "<init>", desc := "(I)V" } : Jvm.MethodName) jdk_68_method_2_code (2 : Nat) (Option.none : Option Jvm.ClassFile.FieldType), Jvm.Cond.code ({ cls := "java/lang/StringBuilder", name := "append", desc := "(Ljava/lang/String;)Ljava/lang/StringBuilder;" } : Jvm.MethodName) jdk_67_method_7_code (2 : Nat) (Option.some (Jvm.ClassFile.FieldType.object "java/lang/StringBuilder")), Jvm.Cond.code ({ cls := "java/lang/AbstractStringBuilder", name := "append", desc := "(Ljava/lang/String;)Ljava/lang/AbstractStringBuilder;" } : Jvm.MethodName) jdk_68_method_22_code (3 : Nat) (Option.some (Jvm.ClassFile.FieldType.object "java/lang/AbstractStringBuilder")), Jvm.Cond.code ({ cls := "java/lang/String", name := "length", desc := "()I" } : Jvm.MethodName) jdk_42_method_54_code (1 : Nat) (Option.some Jvm.ClassFile.FieldType.int), Jvm.Cond.code ({ cls := "java/lang/String", name := "coder", desc := "()B" } : Jvm.MethodName) jdk_42_method_152_code (1 : Nat) (Option.some Jvm.ClassFile.FieldType.byte), Jvm.Cond.code ({ cls := "java/lang/AbstractStringBuilder", name := "ensureCapacityInternal", desc := "(I)V" } : Jvm.MethodName) jdk_68_method_9_code (3 : Nat) (Option.none : Option Jvm.ClassFile.FieldType), Jvm.Cond.code ({ cls := "java/lang/AbstractStringBuilder", name := "newCapacity", desc := "(I)I" } : Jvm.MethodName) jdk_68_method_10_code (6 : Nat) (Option.some Jvm.ClassFile.FieldType.int), Jvm.Cond.code ({ cls := "jdk/internal/util/ArraysSupport", name := "newLength", desc := "(III)I" } : Jvm.MethodName) jdk_48_method_27_code (4 : Nat) (Option.some Jvm.ClassFile.FieldType.int), Jvm.Cond.code ({ cls := "java/lang/Math", name := "max", desc := "(II)I" } : Jvm.MethodName) jdk_29_method_65_code (2 : Nat) (Option.some Jvm.ClassFile.FieldType.int), Jvm.Cond.code ({ cls := "java/util/Arrays", name := "copyOf", desc := "([BI)[B" } : Jvm.MethodName) jdk_65_method_121_code (3 : Nat) (Option.some (Jvm.ClassFile.FieldType.array Jvm.ClassFile.FieldType.byte)), Jvm.Cond.code ({ cls := "java/lang/Math", name := "min", desc := "(II)I" } : Jvm.MethodName) jdk_29_method_69_code (2 : Nat) (Option.some Jvm.ClassFile.FieldType.int), Jvm.Cond.code ({ cls := "java/lang/AbstractStringBuilder", name := "putStringAt", desc := "(ILjava/lang/String;)V" } : Jvm.MethodName) jdk_68_method_73_code (3 : Nat) (Option.none : Option Jvm.ClassFile.FieldType), Jvm.Cond.code ({ cls := "java/lang/AbstractStringBuilder", name := "inflateIfNeededFor", desc := "(Ljava/lang/String;)V" } : Jvm.MethodName) jdk_68_method_71_code (2 : Nat) (Option.none : Option Jvm.ClassFile.FieldType), Jvm.Cond.code ({ cls := "java/lang/String", name := "getBytes", desc := "([BIB)V" } : Jvm.MethodName) jdk_42_method_147_code (4 : Nat) (Option.none : Option Jvm.ClassFile.FieldType), Jvm.Cond.code ({ cls := "java/lang/StringBuilder", name := "toString", desc := "()Ljava/lang/String;" } : Jvm.MethodName) jdk_67_method_42_code (1 : Nat) (Option.some (Jvm.ClassFile.FieldType.object "java/lang/String")), Jvm.Cond.code ({ cls := "java/lang/String", name := "<init>", desc := "(Ljava/lang/StringBuilder;)V" } : Jvm.MethodName) jdk_42_method_53_code (2 : Nat) (Option.none : Option Jvm.ClassFile.FieldType), Jvm.Cond.code ({ cls := "java/lang/String", name := "<init>", desc := "(Ljava/lang/AbstractStringBuilder;Ljava/lang/Void;)V" } : Jvm.MethodName) jdk_42_method_150_code (5 : Nat) (Option.none : Option Jvm.ClassFile.FieldType), Jvm.Cond.code ({ cls := "java/lang/AbstractStringBuilder", name := "getValue", desc := "()[B" } : Jvm.MethodName) jdk_68_method_64_code (1 : Nat) (Option.some (Jvm.ClassFile.FieldType.array Jvm.ClassFile.FieldType.byte)), Jvm.Cond.code ({ cls := "java/lang/StringBuilder", name := "length", desc := "()I" } : Jvm.MethodName) jdk_67_method_93_code (1 : Nat) (Option.some Jvm.ClassFile.FieldType.int), Jvm.Cond.code ({ cls := "java/lang/AbstractStringBuilder", name := "length", desc := "()I" } : Jvm.MethodName) jdk_68_method_6_code (1 : Nat) (Option.some Jvm.ClassFile.FieldType.int), Jvm.Cond.code ({ cls := "java/lang/AbstractStringBuilder", name := "isLatin1", desc := "()Z" } : Jvm.MethodName) jdk_68_method_68_code (1 : Nat) (Option.some Jvm.ClassFile.FieldType.boolean), Jvm.Cond.code ({ cls := "java/util/Arrays", name := "copyOfRange", desc := "([BII)[B" } : Jvm.MethodName) jdk_65_method_132_code (3 : Nat) (Option.some (Jvm.ClassFile.FieldType.array Jvm.ClassFile.FieldType.byte)), Jvm.Cond.code ({ cls := "java/util/Arrays", name := "copyOfRangeByte", desc := "([BII)[B" } : Jvm.MethodName) jdk_65_method_133_code (5 : Nat) (Option.some (Jvm.ClassFile.FieldType.array Jvm.ClassFile.FieldType.byte)), Jvm.Cond.code ({ cls := "java/util/Arrays", name := "checkLength", desc := "(II)V" } : Jvm.MethodName) jdk_65_method_131_code (2 : Nat) (Option.none : Option Jvm.ClassFile.FieldType), Jvm.Cond.code ({ cls := "java/lang/String", name := "equals", desc := "(Ljava/lang/Object;)Z" } : Jvm.MethodName) jdk_42_method_66_code (3 : Nat) (Option.some Jvm.ClassFile.FieldType.boolean), Jvm.Cond.code ({ cls := "java/lang/StringLatin1", name := "equals", desc := "([B[B)Z" } : Jvm.MethodName) jdk_43_method_13_code (3 : Nat) (Option.some Jvm.ClassFile.FieldType.boolean), Jvm.Cond.code ({ cls := "com/example/austere_auth/austereauth/grant/TokenRequestToStringPinLaw", name := "len", desc := "(Ljava/lang/String;)I" } : Jvm.MethodName) method_3_code (1 : Nat) (Option.some Jvm.ClassFile.FieldType.int), Jvm.Cond.code ({ cls := "java/lang/String", name := "charAt", desc := "(I)C" } : Jvm.MethodName) jdk_42_method_56_code (2 : Nat) (Option.some Jvm.ClassFile.FieldType.char), Jvm.Cond.code ({ cls := "java/lang/String", name := "isLatin1", desc := "()Z" } : Jvm.MethodName) jdk_42_method_154_code (1 : Nat) (Option.some Jvm.ClassFile.FieldType.boolean), Jvm.Cond.code ({ cls := "java/lang/StringLatin1", name := "charAt", desc := "([BI)C" } : Jvm.MethodName) jdk_43_method_2_code (2 : Nat) (Option.some Jvm.ClassFile.FieldType.char), Jvm.Cond.code ({ cls := "java/lang/String", name := "checkIndex", desc := "(II)V" } : Jvm.MethodName) jdk_42_method_155_code (2 : Nat) (Option.none : Option Jvm.ClassFile.FieldType), Jvm.Cond.code ({ cls := "jdk/internal/util/Preconditions", name := "checkIndex", desc := "(IILjava/util/function/BiFunction;)I" } : Jvm.MethodName) jdk_41_method_11_code (3 : Nat) (Option.some Jvm.ClassFile.FieldType.int), Jvm.Cond.code ({ cls := "com/example/austere_auth/austereauth/grant/TokenRequestToStringPinLaw", name := "first", desc := "(Ljava/lang/String;)C" } : Jvm.MethodName) method_4_code (1 : Nat) (Option.some Jvm.ClassFile.FieldType.char), Jvm.Cond.code ({ cls := "java/lang/AbstractStringBuilder", name := "appendNull", desc := "()Ljava/lang/AbstractStringBuilder;" } : Jvm.MethodName) jdk_68_method_26_code (3 : Nat) (Option.some (Jvm.ClassFile.FieldType.object "java/lang/AbstractStringBuilder"))]
set_option maxRecDepth 65536 in
theorem codes_eq : words1.filter isCode = codes1 := rfl
theorem w_codes : ∀ c ∈ words1.filter isCode, c.before args0 about1 = true := by
  rw [codes_eq]
  intro c hc
  simp only [codes1, List.mem_cons, List.not_mem_nil, or_false] at hc
  rcases hc with rfl | rfl | rfl | rfl | rfl | rfl | rfl | rfl | rfl | rfl | rfl | rfl | rfl | rfl | rfl | rfl | rfl | rfl | rfl | rfl | rfl | rfl | rfl | rfl | rfl | rfl | rfl | rfl | rfl | rfl | rfl | rfl | rfl | rfl | rfl | rfl | rfl | rfl | rfl | rfl | rfl | rfl | rfl | rfl | rfl
  · exact w_c0
  · exact w_c1
  · exact w_c2
  · exact w_c3
  · exact w_c4
  · exact w_c5
  · exact w_c6
  · exact w_c7
  · exact w_c8
  · exact w_c9
  · exact w_c10
  · exact w_c11
  · exact w_c12
  · exact w_c13
  · exact w_c14
  · exact w_c15
  · exact w_c16
  · exact w_c17
  · exact w_c18
  · exact w_c19
  · exact w_c20
  · exact w_c21
  · exact w_c22
  · exact w_c23
  · exact w_c24
  · exact w_c25
  · exact w_c26
  · exact w_c27
  · exact w_c28
  · exact w_c29
  · exact w_c30
  · exact w_c31
  · exact w_c32
  · exact w_c33
  · exact w_c34
  · exact w_c35
  · exact w_c36
  · exact w_c37
  · exact w_c38
  · exact w_c39
  · exact w_c40
  · exact w_c41
  · exact w_c42
  · exact w_c43
  · exact w_c44
set_option maxRecDepth 65536 in
theorem w_t1 : (words1.take 24).all (fun c => isCode c || c.before args0 about1) = true := by decide +kernel
set_option maxRecDepth 65536 in
theorem w_t2 : ((words1.drop 24).take 24).all (fun c => isCode c || c.before args0 about1) = true := by decide +kernel
set_option maxRecDepth 65536 in
theorem w_t3 : (((words1.drop 24).drop 24).take 24).all (fun c => isCode c || c.before args0 about1) = true := by decide +kernel
set_option maxRecDepth 65536 in
theorem w_t4 : ((((words1.drop 24).drop 24).drop 24).take 24).all (fun c => isCode c || c.before args0 about1) = true := by decide +kernel
set_option maxRecDepth 65536 in
theorem w_t5 : (((((words1.drop 24).drop 24).drop 24).drop 24).take 24).all (fun c => isCode c || c.before args0 about1) = true := by decide +kernel
set_option maxRecDepth 65536 in
theorem w_t6 : ((((((words1.drop 24).drop 24).drop 24).drop 24).drop 24).take 24).all (fun c => isCode c || c.before args0 about1) = true := by decide +kernel
set_option maxRecDepth 65536 in
theorem w_t7 : (((((((words1.drop 24).drop 24).drop 24).drop 24).drop 24).drop 24).take 24).all (fun c => isCode c || c.before args0 about1) = true := by decide +kernel
set_option maxRecDepth 65536 in
theorem w_t8 : ((((((((words1.drop 24).drop 24).drop 24).drop 24).drop 24).drop 24).drop 24).take 24).all (fun c => isCode c || c.before args0 about1) = true := by decide +kernel
set_option maxRecDepth 65536 in
theorem w_t9 : (((((((((words1.drop 24).drop 24).drop 24).drop 24).drop 24).drop 24).drop 24).drop 24).take 24).all (fun c => isCode c || c.before args0 about1) = true := by decide +kernel
set_option maxRecDepth 65536 in
theorem w_t10 : (((((((((words1.drop 24).drop 24).drop 24).drop 24).drop 24).drop 24).drop 24).drop 24).drop 24).all (fun c => isCode c || c.before args0 about1) = true := by decide +kernel
theorem w_tables : (allAtoms (Jvm.Cond.code x code maxLocals ret :: tables_1)).before args0 about1 = true := by
  rw [allAtoms_all]
  show words1.all (fun c => c.before args0 about1) = true
  refine all_split ?_ w_codes
  rw [← List.take_append_drop 24 words1, List.all_append, w_t1, ← List.take_append_drop 24 (words1.drop 24), List.all_append, w_t2, ← List.take_append_drop 24 ((words1.drop 24).drop 24), List.all_append, w_t3, ← List.take_append_drop 24 (((words1.drop 24).drop 24).drop 24), List.all_append, w_t4, ← List.take_append_drop 24 ((((words1.drop 24).drop 24).drop 24).drop 24), List.all_append, w_t5, ← List.take_append_drop 24 (((((words1.drop 24).drop 24).drop 24).drop 24).drop 24), List.all_append, w_t6, ← List.take_append_drop 24 ((((((words1.drop 24).drop 24).drop 24).drop 24).drop 24).drop 24), List.all_append, w_t7, ← List.take_append_drop 24 (((((((words1.drop 24).drop 24).drop 24).drop 24).drop 24).drop 24).drop 24), List.all_append, w_t8, ← List.take_append_drop 24 ((((((((words1.drop 24).drop 24).drop 24).drop 24).drop 24).drop 24).drop 24).drop 24), List.all_append, w_t9, w_t10]
  rfl
set_option maxRecDepth 65536 in
theorem w_rest : rest_1_c.before args0 about1 = true := by decide +kernel
set_option maxRecDepth 65536 in
theorem w_case : (Jvm.Cond.and given_1 narrow_1).before args0 about1 = true := by decide +kernel
set_option maxRecDepth 65536 in
theorem w_consts : constsHeld consts_1 about1 := Jvm.Lit.constsHeldB_iff.mp (by decide +kernel)
theorem w_applies : (headSpec (Jvm.Cond.code x code maxLocals ret :: tables_1) room_1).applies x e0.platform about1 = true :=
  (Spec.applies_iff w_frames).mpr ⟨w_running, w_runnable, w_alone, w_named, w_hears, w_ripe, w_room, w_tables⟩
theorem atStart : AtStart classFile x code maxLocals ret World_1 tables_1 room_1 Calls_1 rest_1 Pre_1 launch0 p0 e0 about1 theMethod args0 below0 :=
  ⟨lists_1, trivial, launch0.admits_env _ _ _, launch0.least_env, fairChoices_fair.cas, fairChoices_fair.clock, w_frames, w_args, w_heap, w_applies, ⟨w_consts, trivial⟩, w_rest, w_case⟩
end start1
theorem witness_1 : WitnessClaimed_1 := ⟨start1.p0, start1.e0, start1.about1, start1.theMethod, start1.args0, start1.below0, start1.atStart⟩
end Jvm.Pilot.@@N@@
