import JvmDerived
import JvmDerived.Pilot.@@N@@Statement
import JvmDerived.Pilot.@@N@@Code
set_option linter.unusedVariables false
set_option linter.unusedSimpArgs false
namespace Jvm.Pilot.@@N@@
open Jvm Jvm.ClassFile Sem Op Lib Jvm.Free Jvm.Stand Jvm.LawKit Jvm.RoadKit Bundle Jvm.Pilot.@@N@@.Jvm.D
section OwnKit
variable {p : Program} {l : Launch} {e : Env} {R : Room} {s : State} {m : MethodId} {args : Array Value} {below : List Frame} {meth : Method} {c : Code} {T T' : State} {locs : List Loc} {cells slots : Nat}
/-- from the frame f in the state T the run comes to the method's end, and G holds there -/
def own_Goes (p : Program) (e : Env) (below : List Frame) (G : Outcome → State → Prop) (T : State) (f : JFrame) : Prop :=
  ∃ s₂ o, Steps p.tables e below (T.setTop f) s₂ ∧ s₂.status = .running ∧ Ended s₂ below o ∧ G o s₂
theorem own_of {G : Outcome → State → Prop} {f f' : JFrame} (st : ∀ t, Steps p.tables e below (T'.setTop f') t → Steps p.tables e below (T.setTop f) t) (h : own_Goes p e below G T' f') : own_Goes p e below G T f := by
  obtain ⟨s₂, o, h1, h2⟩ := h
  exact ⟨s₂, o, st _ h1, h2⟩
theorem own_start {G : Outcome → State → Prop} {f f' : JFrame} (q : f = f') (h : own_Goes p e below G T f') : ∃ s₂ o, Steps p.tables e below (T.setTop f) s₂ ∧ s₂.status = .running ∧ Ended s₂ below o ∧ G o s₂ := q ▸ h
theorem own_retI (X : Stand p l e R s m args below meth c T locs cells slots) (hx : p.tables.exec = Jvm.exec) {pc : Nat} {Ls : Array Slot} {z : Int32} {rest : List Value} (hret : meth.sig.returnType = some .int) (hd : decode c.code pc = .ok (.ireturn, 1)) {fs : List Frame}
    (hl : ∀ (f : JFrame) (acts : List Action), f.method = m → f.locked = none → f.entered = [] → (doReturn e (T.setTop f) acts (some (.int z))).1 = T.setFrames fs) : Steps p.tables e below (T.setTop (mkF m pc Ls (.int z :: rest))) (T.setFrames fs) :=
  retOut X hx hret rfl (Or.inl ⟨rfl, Or.inl rfl, _, rfl⟩) hd hl
theorem own_retJ (X : Stand p l e R s m args below meth c T locs cells slots) (hx : p.tables.exec = Jvm.exec) {pc : Nat} {Ls : Array Slot} {z : Int64} {rest : List Value} (hret : meth.sig.returnType = some .long) (hd : decode c.code pc = .ok (.lreturn, 1)) {fs : List Frame}
    (hl : ∀ (f : JFrame) (acts : List Action), f.method = m → f.locked = none → f.entered = [] → (doReturn e (T.setTop f) acts (some (.long z))).1 = T.setFrames fs) : Steps p.tables e below (T.setTop (mkF m pc Ls (.long z :: rest))) (T.setFrames fs) :=
  retOut X hx hret rfl (Or.inr (Or.inl ⟨rfl, rfl, _, rfl⟩)) hd hl
theorem own_retD (X : Stand p l e R s m args below meth c T locs cells slots) (hx : p.tables.exec = Jvm.exec) {pc : Nat} {Ls : Array Slot} {z : UInt64} {rest : List Value} (hret : meth.sig.returnType = some .double) (hd : decode c.code pc = .ok (.dreturn, 1)) {fs : List Frame}
    (hl : ∀ (f : JFrame) (acts : List Action), f.method = m → f.locked = none → f.entered = [] → (doReturn e (T.setTop f) acts (some (.double z))).1 = T.setFrames fs) : Steps p.tables e below (T.setTop (mkF m pc Ls (.double z :: rest))) (T.setFrames fs) :=
  retOut X hx hret rfl (Or.inr (Or.inr (Or.inl ⟨rfl, rfl, _, rfl⟩))) hd hl
theorem own_retA (X : Stand p l e R s m args below meth c T locs cells slots) (hx : p.tables.exec = Jvm.exec) {pc : Nat} {Ls : Array Slot} {z : Value} {rest : List Value} {t : FieldType} (hret : meth.sig.returnType = some t) (ht : t.isReference = true) (hn : narrow t z = z) (hz : z.isRef = true) (hd : decode c.code pc = .ok (.areturn, 1)) {fs : List Frame}
    (hl : ∀ (f : JFrame) (acts : List Action), f.method = m → f.locked = none → f.entered = [] → (doReturn e (T.setTop f) acts (some z)).1 = T.setFrames fs) : Steps p.tables e below (T.setTop (mkF m pc Ls (z :: rest))) (T.setFrames fs) :=
  retOut X hx hret hn (Or.inr (Or.inr (Or.inr (Or.inr ⟨rfl, ht, hz⟩)))) hd hl
theorem own_stakeep {Z : State} {h h' : Heap} {C n d : String} {v : Value} {ws : List Addr} (F : Sta Z h C n d v) (K : Keep h h' ws) (q : ∀ x ∈ ws, ∀ cell : Cell, h[x]? = some cell → cell.vm.isStatics = false) : Sta Z h' C n d v := by
  obtain ⟨cf, i, k, f, st, cell, h1, h2, h3, h4, h5, h6, h7⟩ := F
  exact ⟨cf, i, k, f, st, cell, h1, h2, h3, h4, K.2.1 st cell h5 (fun z => by rw [q st z cell h5] at h6; cases h6), h6, h7⟩
theorem own_plainE {Z : State} {h : Heap} {a : Addr} {C : String} (F : Exa Z h a C) : ∀ cell : Cell, h[a]? = some cell → cell.vm.isStatics = false := fun cell hc => by
  obtain ⟨c', k, h1, -, -, h4, -⟩ := F
  cases h1.symm.trans hc
  exact h4
theorem own_noI {Z : State} {a0 : Array Value} {C K O : String} {n : Nat} (w : (Jvm.Cond.superclass C O).before a0 Z = true) (wo : (Jvm.Cond.noSuperclass O).before a0 Z = true) (wi : (Jvm.Cond.instantiable K n).before a0 Z = true) (hn : C ≠ K) (ho : O ≠ K) : ∃ c t, Z.vm.findClass C = some c ∧ Z.vm.findClass K = some t ∧ Z.vm.assignable c t = false := by
  obtain ⟨t, kt, g0, g2, g5, g7, -, -⟩ := Cond.instantiable_spec wi
  simp only [Bool.or_eq_false_iff] at g7
  obtain ⟨oc, ok, o1, o2, o3, -, -⟩ := Cond.noSuperclass_spec wo
  obtain ⟨c, h0⟩ := found_sup w
  obtain ⟨p, k, kp, h1, h2, h3, h4, h5, -, h7⟩ := Cond.superclass_spec h0 w
  cases o1.symm.trans h1
  have ne := ids_ne h0 g0 hn
  have neo := ids_ne o1 g0 ho
  have n3 : ∀ fuel, Z.vm.isSubclassAux fuel c t = false := fun fuel => by
    cases fuel with
    | zero => rfl
    | succ f =>
      have n4 : Z.vm.isSubclassAux f oc t = false := by
        cases f with
        | zero => rfl
        | succ f => simp [Vm.isSubclassAux, neo, o2, o3]
      simp [Vm.isSubclassAux, ne, h2, h4, n4]
  refine ⟨c, t, h0, g0, ?_⟩
  show Z.vm.assignableAux (255 + 1) c t = false
  simp [Vm.assignableAux, ne, h2, g2, h5, g5, g7, Vm.isSubclass, n3]
theorem own_ask {Z : State} {a0 : Array Value} {h : Heap} {a : Addr} {C K : String} (E : Exa Z h a C) (w : (Jvm.Cond.castable K K).before a0 Z = true) : Ins Z h a K true ∨ ∃ c t, Z.vm.findClass C = some c ∧ Z.vm.findClass K = some t ∧ Z.vm.assignable c t = false := by
  obtain ⟨cell, k, h1, h2, h3, h4, -⟩ := E
  cases ht : Z.vm.findClass K with
  | none => simp [Cond.before, Cond.holds, Cond.value, ht] at w
  | some t =>
    cases ha : Z.vm.assignable cell.cls t with
    | true => exact Or.inl ⟨cell, t, h1, ht, by rw [h4, ha]; rfl⟩
    | false => exact Or.inr ⟨cell.cls, t, h2, rfl, ha⟩
theorem own_dupX2 {tb : Tables} [Ours tb] {e : Env} {below : List Frame} {T target : State} {m : MethodId} {c : Code} {g : JFrame} (h : At T m c below) (hx : tb.exec = Jvm.exec) (hg : g.method = m) {x y z : Value} {rest : List Value} (hd : decode c.code g.pc = .ok (.dup_x2, 1)) (hs : g.stack = x :: y :: z :: rest) (hc : x.category = 1) (hc' : y.category = 1) (hc'' : z.category = 1)
    (hr : Steps tb e below (T.setTop { g with pc := g.pc + 1, stack := x :: y :: z :: x :: rest }) target) : Steps tb e below (T.setTop g) target := by
  subst hg
  jvm_step h [h.top, hx, hd, hs, hc, hc', hc'']
  exact hr
theorem own_dz : FP.dconst0 = FP.l2d 0 := by decide +kernel
theorem own_cat1 {x : Value} (h : x.isRef = true) : x.category = 1 := by cases x <;> first | rfl | cases h
theorem own_astoreN {tb : Tables} [Ours tb] {e : Env} {below : List Frame} {T target : State} {m : MethodId} {c : Code} {g : JFrame} (h : At T m c below) (hx : tb.exec = Jvm.exec) (hg : g.method = m) {k : Fin 4} {x : Value} {rest : List Value} {o : Slot} {l' : Array Slot} (hd : decode c.code g.pc = .ok (.astore_n k, 1)) (hs : g.stack = x :: rest) (hv : x.isRef = true) (hold : g.locals[k.val]? = some o) (ho : One o) (hl : g.locals.setIfInBounds k.val (.val x) = l')
    (hr : Steps tb e below (T.setTop { g with pc := g.pc + 1, stack := rest, locals := l' }) target) : Steps tb e below (T.setTop g) target := XS.astoreN h hx hg hd hs hv (l' := l') (by rw [← hl]; exact XS.store1 hold ho (own_cat1 hv)) hr
theorem own_astore {tb : Tables} [Ours tb] {e : Env} {below : List Frame} {T target : State} {m : MethodId} {c : Code} {g : JFrame} (h : At T m c below) (hx : tb.exec = Jvm.exec) (hg : g.method = m) {k : Nat} {x : Value} {rest : List Value} {o : Slot} {l' : Array Slot} (hd : decode c.code g.pc = .ok (.astore k, 2)) (hs : g.stack = x :: rest) (hv : x.isRef = true) (hold : g.locals[k]? = some o) (ho : One o) (hl : g.locals.setIfInBounds k (.val x) = l')
    (hr : Steps tb e below (T.setTop { g with pc := g.pc + 2, stack := rest, locals := l' }) target) : Steps tb e below (T.setTop g) target := XS.astore h hx hg hd hs hv (l' := l') (by rw [← hl]; exact XS.store1 hold ho (own_cat1 hv)) hr
end OwnKit
def own_at (x0 x1 x2 x3 x4 x5 x6 x7 : Addr) : Nat → Addr
  | 0 => x0
  | 1 => x1
  | 2 => x2
  | 3 => x3
  | 4 => x4
  | 5 => x5
  | 6 => x6
  | _ => x7
def own_En (Z : State) (h : Heap) (A : Nat → Addr) : Prop := (∀ i j, i < 8 → j < 8 → A i = A j → i = j) ∧ (∀ i, i < 8 → Exa Z h (A i) "com/example/kreide/kreide/parser/Type") ∧ Sta Z h "com/example/kreide/kreide/parser/Type" "GANZZAHL" "Lcom/example/kreide/kreide/parser/Type;" (.ref (A 0)) ∧ Sta Z h "com/example/kreide/kreide/parser/Type" "KOMMAZAHL" "Lcom/example/kreide/kreide/parser/Type;" (.ref (A 1)) ∧ Sta Z h "com/example/kreide/kreide/parser/Type" "WAHRHEITSWERT" "Lcom/example/kreide/kreide/parser/Type;" (.ref (A 2)) ∧ Sta Z h "com/example/kreide/kreide/parser/Type" "ZEICHENKETTE" "Lcom/example/kreide/kreide/parser/Type;" (.ref (A 3)) ∧ Sta Z h "com/example/kreide/kreide/parser/Type" "GANZZAHL_ARRAY" "Lcom/example/kreide/kreide/parser/Type;" (.ref (A 4)) ∧ Sta Z h "com/example/kreide/kreide/parser/Type" "KOMMAZAHL_ARRAY" "Lcom/example/kreide/kreide/parser/Type;" (.ref (A 5)) ∧ Sta Z h "com/example/kreide/kreide/parser/Type" "WAHRHEITSWERT_ARRAY" "Lcom/example/kreide/kreide/parser/Type;" (.ref (A 6)) ∧ Sta Z h "com/example/kreide/kreide/parser/Type" "ZEICHENKETTE_ARRAY" "Lcom/example/kreide/kreide/parser/Type;" (.ref (A 7))
theorem own_ord {args : Array Value} {s : State} {t : Term} {C n d : String} {k : Int32} {a : Addr} (h : (Jvm.Cond.eq (.field t C n d) (.int k)).value args s none s [] = some true) (ev : t.eval args s none [] s = some (.ref a)) : Fld s s.heap a C n d (.int k) := by
  obtain ⟨x, y, h1, h2, k1, k2⟩ := cmp_v (Or.inl h)
  have hy : y = .int k := (Option.some.inj h2).symm
  subst hy
  obtain ⟨z, rfl⟩ := k2
  have e := gotT (Cond.eq_ints h1 h2) h
  subst e
  rw [fld_at ev] at h1
  exact Fld.start h1
theorem own_pn_0 : plainName "com/example/kreide/kreide/parser/Type" = true := by first | (simp [plainName, overriddenIn]; done) | decide +kernel
theorem own_ef_fits (m : MethodId) (a1 : Addr) (a2 : Addr) : entryFrame m #[(.ref a1), (.ref a2)] 2 = mkF m 0 #[.val (.ref a1), .val (.ref a2)] [] := by first | (simp [entryFrame, mkF, argsToLocals, Value.category]; done) | rfl
def own_Q_fits (Z : State) (a1 : Addr) (a2 : Addr) (A : Nat → Addr) (h0 : Heap) (n0 : Nat) (v : Option Value) (h : Heap) (L : List Loc) : Prop := v = some (.int (if a1 = a2 then (1 : Int32) else if a1 = A 0 then (if a2 = A 1 then 1 else 0) else 0)) ∧ Fr n0 L ∧ h = h0
theorem own_d_prog_119_method_11_code_0 : decode prog_119_method_11_code 0 = .ok (.aload_n 0, 1) := by decide +kernel
theorem own_d_prog_119_method_11_code_1 : decode prog_119_method_11_code 1 = .ok (.aload_n 1, 1) := by decide +kernel
theorem own_d_prog_119_method_11_code_2 : decode prog_119_method_11_code 2 = .ok (.if_acmp .eq 17, 3) := by decide +kernel
theorem own_d_prog_119_method_11_code_19 : decode prog_119_method_11_code 19 = .ok (.iconst 1, 1) := by decide +kernel
theorem own_d_prog_119_method_11_code_20 : decode prog_119_method_11_code 20 = .ok (.goto 4, 3) := by decide +kernel
theorem own_d_prog_119_method_11_code_24 : decode prog_119_method_11_code 24 = .ok (.ireturn, 1) := by decide +kernel
theorem own_d_prog_119_method_11_code_5 : decode prog_119_method_11_code 5 = .ok (.aload_n 0, 1) := by decide +kernel
theorem own_d_prog_119_method_11_code_6 : decode prog_119_method_11_code 6 = .ok (.getstatic 3, 3) := by decide +kernel
theorem own_d_prog_119_method_11_code_9 : decode prog_119_method_11_code 9 = .ok (.if_acmp .ne 14, 3) := by decide +kernel
theorem own_d_prog_119_method_11_code_12 : decode prog_119_method_11_code 12 = .ok (.aload_n 1, 1) := by decide +kernel
theorem own_d_prog_119_method_11_code_13 : decode prog_119_method_11_code 13 = .ok (.getstatic 7, 3) := by decide +kernel
theorem own_d_prog_119_method_11_code_16 : decode prog_119_method_11_code 16 = .ok (.if_acmp .ne 7, 3) := by decide +kernel
theorem own_d_prog_119_method_11_code_23 : decode prog_119_method_11_code 23 = .ok (.iconst 0, 1) := by decide +kernel
set_option maxRecDepth 65536 in
set_option maxHeartbeats 40000000 in
theorem own_rm_fits (l : Launch) (Z : State) (a0 : Array Value) (hw : ∀ d ∈ tables_1, d.before a0 Z = true) (ws : List Jvm.Cond) (a1 : Addr) (a2 : Addr) (A : Nat → Addr) (h0 : Heap) (n0 : Nat) (Z0 : n0 ≤ h0.size) (hA : own_En Z h0 A) :
    MetFree l (⟨"com/example/kreide/kreide/parser/Type", "fits", "(Lcom/example/kreide/kreide/parser/Type;)Z"⟩ : MethodName) (head1 (Jvm.Cond.code (⟨"com/example/kreide/kreide/parser/Type", "fits", "(Lcom/example/kreide/kreide/parser/Type;)Z"⟩ : MethodName) prog_119_method_11_code 2 (some .boolean) :: ws) ({ frames := 0, cells := 0, slots := 0, locals := 0 } : Room)) (fun a U => a = #[(.ref a1), (.ref a2)] ∧ Z.Warmed39 U.vm ∧ U.heap = h0) (fun _ _ _ _ _ => True) (fun _ U o U' => ∃ v L, o = .returned v ∧ own_Q_fits Z a1 a2 A h0 n0 v U'.heap L ∧ FrameEnd U o U' L ({ frames := 0, cells := 0, slots := 0, locals := 0 } : Room).cells ({ frames := 0, cells := 0, slots := 0, locals := 0 } : Room).slots) := by
  refine MetFree.of_bodySF (plainFor_of_name own_pn_0) hisR ?_
  intro p e s m args below meth c s₁ Bd hml0 hP hK
  obtain ⟨rfl, hZ, hh⟩ := hP
  have hx := Bd.exec
  have hby := Bd.bytes
  have hml : c.maxLocals = 2 := hml0
  have hown : s.vm.findClass "com/example/kreide/kreide/parser/Type" = some m.cls := findClass_of_methodNamed Bd.named
  have hnm := (name_of_methodNamed Bd.named Bd.method).1
  have X0 : Stand p l e ({ frames := 0, cells := 0, slots := 0, locals := 0 } : Room) s m #[(.ref a1), (.ref a2)] below meth c s₁ [] 0 0 := Stand.of_body Bd
  have e0 : s₁.heap = h0 := by rw [← hh, Bd.state]; rfl
  have N0 := Fr.nil n0
  refine own_start (own_ef_fits m a1 a2) ?_
  refine own_of (T' := s₁) (f' := (mkF m 2 #[.val (.ref a1), .val (.ref a2)] [(.ref a2), (.ref a1)])) (fun t_ k_ => (XS.aloadN X0.here hx rfl (Jvm.hb hby own_d_prog_119_method_11_code_0) rfl rfl (XS.aloadN X0.here hx rfl (Jvm.hb hby own_d_prog_119_method_11_code_1) rfl rfl k_))) ?_
  by_cases hc2_1 : (a1 = a2)
  · skip
    refine own_of (T' := s₁) (f' := (mkF m 24 #[.val (.ref a1), .val (.ref a2)] [(.int (1 : Int32))])) (fun t_ k_ => (Jvm.RoadKit.acmp (g := (mkF m 2 #[.val (.ref a1), .val (.ref a2)] [(.ref a2), (.ref a1)])) X0 hx rfl rfl rfl (pc0 := 2) (pc' := 19) (same := true) rfl (Jvm.hb hby own_d_prog_119_method_11_code_2) rfl (decide_eq_true (congrArg Value.ref hc2_1)) (by decide) (by decide) (XS.iconst X0.here hx rfl (Jvm.hb hby own_d_prog_119_method_11_code_19) (XS.goto X0.here hx rfl (pc0 := 20) (pc' := 24) rfl (Jvm.hb hby own_d_prog_119_method_11_code_20) (by decide) (by decide) k_)))) ?_
    obtain ⟨fs, hr, hrun, hended, hW, hsame⟩ := X0.leave (v := some (.int (1 : Int32))) (fun h => by rw [Bd.returns] at h; cases h)
    exact ⟨_, _, retN X0 hx (t := .boolean) Bd.returns (by simp) (Jvm.hb hby own_d_prog_119_method_11_code_24) hr, hrun, hended, _, _, rfl, (by show own_Q_fits Z a1 a2 A h0 n0 _ s₁.heap _; rw [e0]; exact ⟨by rw [if_pos hc2_1], N0, rfl⟩), ⟨_, rfl⟩, hW, hsame.mono (by decide) (by decide)⟩
  · skip
    obtain ⟨T2, X2, e2, st2⟩ := getS2 X0 hx hZ hown (host := "") (Or.inl (hw _ (List.mem_of_getElem? (i := 15) rfl))) Via.refl e0 hA.2.2.1 (g := (mkF m 6 #[.val (.ref a1), .val (.ref a2)] [(.ref a1)])) rfl (Jvm.hb hby own_d_prog_119_method_11_code_6)
    refine own_of (T' := T2) (f' := (mkF m 9 #[.val (.ref a1), .val (.ref a2)] [(.ref (A 0)), (.ref a1)])) (fun t_ k_ => (Jvm.RoadKit.acmp (g := (mkF m 2 #[.val (.ref a1), .val (.ref a2)] [(.ref a2), (.ref a1)])) X0 hx rfl rfl rfl (pc0 := 2) (pc' := 5) (same := false) rfl (Jvm.hb hby own_d_prog_119_method_11_code_2) rfl (decide_eq_false fun q => hc2_1 (Value.ref.inj q)) (by decide) (by decide) (XS.aloadN X0.here hx rfl (Jvm.hb hby own_d_prog_119_method_11_code_5) rfl rfl (st2 _ k_)))) ?_
    by_cases hc9_3 : (a1 = (A 0))
    · skip
      obtain ⟨T4, X4, e4, st4⟩ := getS2 X2 hx hZ hown (host := "") (Or.inl (hw _ (List.mem_of_getElem? (i := 16) rfl))) Via.refl e2 hA.2.2.2.1 (g := (mkF m 13 #[.val (.ref a1), .val (.ref a2)] [(.ref a2)])) rfl (Jvm.hb hby own_d_prog_119_method_11_code_13)
      refine own_of (T' := T4) (f' := (mkF m 16 #[.val (.ref a1), .val (.ref a2)] [(.ref (A 1)), (.ref a2)])) (fun t_ k_ => (Jvm.RoadKit.acmp (g := (mkF m 9 #[.val (.ref a1), .val (.ref a2)] [(.ref (A 0)), (.ref a1)])) X2 hx rfl rfl rfl (pc0 := 9) (pc' := 12) (same := true) rfl (Jvm.hb hby own_d_prog_119_method_11_code_9) rfl (decide_eq_true (congrArg Value.ref hc9_3)) (by decide) (by decide) (XS.aloadN X2.here hx rfl (Jvm.hb hby own_d_prog_119_method_11_code_12) rfl rfl (st4 _ k_)))) ?_
      by_cases hc16_5 : (a2 = (A 1))
      · skip
        refine own_of (T' := T4) (f' := (mkF m 24 #[.val (.ref a1), .val (.ref a2)] [(.int (1 : Int32))])) (fun t_ k_ => (Jvm.RoadKit.acmp (g := (mkF m 16 #[.val (.ref a1), .val (.ref a2)] [(.ref (A 1)), (.ref a2)])) X4 hx rfl rfl rfl (pc0 := 16) (pc' := 19) (same := true) rfl (Jvm.hb hby own_d_prog_119_method_11_code_16) rfl (decide_eq_true (congrArg Value.ref hc16_5)) (by decide) (by decide) (XS.iconst X4.here hx rfl (Jvm.hb hby own_d_prog_119_method_11_code_19) (XS.goto X4.here hx rfl (pc0 := 20) (pc' := 24) rfl (Jvm.hb hby own_d_prog_119_method_11_code_20) (by decide) (by decide) k_)))) ?_
        obtain ⟨fs, hr, hrun, hended, hW, hsame⟩ := X4.leave (v := some (.int (1 : Int32))) (fun h => by rw [Bd.returns] at h; cases h)
        exact ⟨_, _, retN X4 hx (t := .boolean) Bd.returns (by simp) (Jvm.hb hby own_d_prog_119_method_11_code_24) hr, hrun, hended, _, _, rfl, (by show own_Q_fits Z a1 a2 A h0 n0 _ T4.heap _; rw [e4]; exact ⟨by rw [if_neg hc2_1, if_pos hc9_3, if_pos hc16_5], N0, rfl⟩), ⟨_, rfl⟩, hW, hsame.mono (by decide) (by decide)⟩
      · skip
        refine own_of (T' := T4) (f' := (mkF m 24 #[.val (.ref a1), .val (.ref a2)] [(.int (0 : Int32))])) (fun t_ k_ => (Jvm.RoadKit.acmp (g := (mkF m 16 #[.val (.ref a1), .val (.ref a2)] [(.ref (A 1)), (.ref a2)])) X4 hx rfl rfl rfl (pc0 := 16) (pc' := 23) (same := false) rfl (Jvm.hb hby own_d_prog_119_method_11_code_16) rfl (decide_eq_false fun q => hc16_5 (Value.ref.inj q)) (by decide) (by decide) (XS.iconst X4.here hx rfl (Jvm.hb hby own_d_prog_119_method_11_code_23) k_))) ?_
        obtain ⟨fs, hr, hrun, hended, hW, hsame⟩ := X4.leave (v := some (.int (0 : Int32))) (fun h => by rw [Bd.returns] at h; cases h)
        exact ⟨_, _, retN X4 hx (t := .boolean) Bd.returns (by simp) (Jvm.hb hby own_d_prog_119_method_11_code_24) hr, hrun, hended, _, _, rfl, (by show own_Q_fits Z a1 a2 A h0 n0 _ T4.heap _; rw [e4]; exact ⟨by rw [if_neg hc2_1, if_pos hc9_3, if_neg hc16_5], N0, rfl⟩), ⟨_, rfl⟩, hW, hsame.mono (by decide) (by decide)⟩
    · skip
      refine own_of (T' := T2) (f' := (mkF m 24 #[.val (.ref a1), .val (.ref a2)] [(.int (0 : Int32))])) (fun t_ k_ => (Jvm.RoadKit.acmp (g := (mkF m 9 #[.val (.ref a1), .val (.ref a2)] [(.ref (A 0)), (.ref a1)])) X2 hx rfl rfl rfl (pc0 := 9) (pc' := 23) (same := false) rfl (Jvm.hb hby own_d_prog_119_method_11_code_9) rfl (decide_eq_false fun q => hc9_3 (Value.ref.inj q)) (by decide) (by decide) (XS.iconst X2.here hx rfl (Jvm.hb hby own_d_prog_119_method_11_code_23) k_))) ?_
      obtain ⟨fs, hr, hrun, hended, hW, hsame⟩ := X2.leave (v := some (.int (0 : Int32))) (fun h => by rw [Bd.returns] at h; cases h)
      exact ⟨_, _, retN X2 hx (t := .boolean) Bd.returns (by simp) (Jvm.hb hby own_d_prog_119_method_11_code_24) hr, hrun, hended, _, _, rfl, (by show own_Q_fits Z a1 a2 A h0 n0 _ T2.heap _; rw [e2]; exact ⟨by rw [if_neg hc2_1, if_neg hc9_3], N0, rfl⟩), ⟨_, rfl⟩, hW, hsame.mono (by decide) (by decide)⟩
def own_ix (k : Int32) : Nat := if k = 0 then 0 else if k = 1 then 1 else if k = 2 then 2 else if k = 3 then 3 else if k = 4 then 4 else if k = 5 then 5 else if k = 6 then 6 else 7
theorem own_pn_1 : plainName "com/example/kreide/kreide/parser/TypeFitsPinLaw" = true := by first | (simp [plainName, overriddenIn]; done) | decide +kernel
theorem own_ef_pick (m : MethodId) (p1 : Int32) : entryFrame m #[(.int p1)] 1 = mkF m 0 #[.val (.int p1)] [] := by first | (simp [entryFrame, mkF, argsToLocals, Value.category]; done) | rfl
def own_Q_pick (Z : State) (p1 : Int32) (A : Nat → Addr) (h0 : Heap) (n0 : Nat) (v : Option Value) (h : Heap) (L : List Loc) : Prop := v = some (.ref (A (own_ix p1))) ∧ Fr n0 L ∧ h = h0
theorem own_d_method_2_code_0 : decode method_2_code 0 = .ok (.iload_n 0, 1) := by decide +kernel
theorem own_d_method_2_code_1 : decode method_2_code 1 = .ok (.ifCond .ne 7, 3) := by decide +kernel
theorem own_d_method_2_code_4 : decode method_2_code 4 = .ok (.getstatic 7, 3) := by decide +kernel
theorem own_d_method_2_code_7 : decode method_2_code 7 = .ok (.areturn, 1) := by decide +kernel
theorem own_d_method_2_code_8 : decode method_2_code 8 = .ok (.iload_n 0, 1) := by decide +kernel
theorem own_d_method_2_code_9 : decode method_2_code 9 = .ok (.iconst 1, 1) := by decide +kernel
theorem own_d_method_2_code_10 : decode method_2_code 10 = .ok (.if_icmp .ne 7, 3) := by decide +kernel
theorem own_d_method_2_code_13 : decode method_2_code 13 = .ok (.getstatic 13, 3) := by decide +kernel
theorem own_d_method_2_code_16 : decode method_2_code 16 = .ok (.areturn, 1) := by decide +kernel
theorem own_d_method_2_code_17 : decode method_2_code 17 = .ok (.iload_n 0, 1) := by decide +kernel
theorem own_d_method_2_code_18 : decode method_2_code 18 = .ok (.iconst 2, 1) := by decide +kernel
theorem own_d_method_2_code_19 : decode method_2_code 19 = .ok (.if_icmp .ne 7, 3) := by decide +kernel
theorem own_d_method_2_code_22 : decode method_2_code 22 = .ok (.getstatic 16, 3) := by decide +kernel
theorem own_d_method_2_code_25 : decode method_2_code 25 = .ok (.areturn, 1) := by decide +kernel
theorem own_d_method_2_code_26 : decode method_2_code 26 = .ok (.iload_n 0, 1) := by decide +kernel
theorem own_d_method_2_code_27 : decode method_2_code 27 = .ok (.iconst 3, 1) := by decide +kernel
theorem own_d_method_2_code_28 : decode method_2_code 28 = .ok (.if_icmp .ne 7, 3) := by decide +kernel
theorem own_d_method_2_code_31 : decode method_2_code 31 = .ok (.getstatic 19, 3) := by decide +kernel
theorem own_d_method_2_code_34 : decode method_2_code 34 = .ok (.areturn, 1) := by decide +kernel
theorem own_d_method_2_code_35 : decode method_2_code 35 = .ok (.iload_n 0, 1) := by decide +kernel
theorem own_d_method_2_code_36 : decode method_2_code 36 = .ok (.iconst 4, 1) := by decide +kernel
theorem own_d_method_2_code_37 : decode method_2_code 37 = .ok (.if_icmp .ne 7, 3) := by decide +kernel
theorem own_d_method_2_code_40 : decode method_2_code 40 = .ok (.getstatic 22, 3) := by decide +kernel
theorem own_d_method_2_code_43 : decode method_2_code 43 = .ok (.areturn, 1) := by decide +kernel
theorem own_d_method_2_code_44 : decode method_2_code 44 = .ok (.iload_n 0, 1) := by decide +kernel
theorem own_d_method_2_code_45 : decode method_2_code 45 = .ok (.iconst 5, 1) := by decide +kernel
theorem own_d_method_2_code_46 : decode method_2_code 46 = .ok (.if_icmp .ne 7, 3) := by decide +kernel
theorem own_d_method_2_code_49 : decode method_2_code 49 = .ok (.getstatic 25, 3) := by decide +kernel
theorem own_d_method_2_code_52 : decode method_2_code 52 = .ok (.areturn, 1) := by decide +kernel
theorem own_d_method_2_code_53 : decode method_2_code 53 = .ok (.iload_n 0, 1) := by decide +kernel
theorem own_d_method_2_code_54 : decode method_2_code 54 = .ok (.bipush 6, 2) := by decide +kernel
theorem own_d_method_2_code_56 : decode method_2_code 56 = .ok (.if_icmp .ne 7, 3) := by decide +kernel
theorem own_d_method_2_code_59 : decode method_2_code 59 = .ok (.getstatic 28, 3) := by decide +kernel
theorem own_d_method_2_code_62 : decode method_2_code 62 = .ok (.areturn, 1) := by decide +kernel
theorem own_d_method_2_code_63 : decode method_2_code 63 = .ok (.getstatic 31, 3) := by decide +kernel
theorem own_d_method_2_code_66 : decode method_2_code 66 = .ok (.areturn, 1) := by decide +kernel
set_option maxRecDepth 65536 in
set_option maxHeartbeats 40000000 in
theorem own_rm_pick (l : Launch) (Z : State) (a0 : Array Value) (hw : ∀ d ∈ tables_1, d.before a0 Z = true) (ws : List Jvm.Cond) (p1 : Int32) (A : Nat → Addr) (h0 : Heap) (n0 : Nat) (Z0 : n0 ≤ h0.size) (hA : own_En Z h0 A) :
    MetFree l (⟨"com/example/kreide/kreide/parser/TypeFitsPinLaw", "pick", "(I)Lcom/example/kreide/kreide/parser/Type;"⟩ : MethodName) (head1 (Jvm.Cond.code (⟨"com/example/kreide/kreide/parser/TypeFitsPinLaw", "pick", "(I)Lcom/example/kreide/kreide/parser/Type;"⟩ : MethodName) method_2_code 1 (some (.object "com/example/kreide/kreide/parser/Type")) :: ws) ({ frames := 0, cells := 0, slots := 0, locals := 0 } : Room)) (fun a U => a = #[(.int p1)] ∧ Z.Warmed39 U.vm ∧ U.heap = h0) (fun _ _ _ _ _ => True) (fun _ U o U' => ∃ v L, o = .returned v ∧ own_Q_pick Z p1 A h0 n0 v U'.heap L ∧ FrameEnd U o U' L ({ frames := 0, cells := 0, slots := 0, locals := 0 } : Room).cells ({ frames := 0, cells := 0, slots := 0, locals := 0 } : Room).slots) := by
  refine MetFree.of_bodySF (plainFor_of_name own_pn_1) hisR ?_
  intro p e s m args below meth c s₁ Bd hml0 hP hK
  obtain ⟨rfl, hZ, hh⟩ := hP
  have hx := Bd.exec
  have hby := Bd.bytes
  have hml : c.maxLocals = 1 := hml0
  have hown : s.vm.findClass "com/example/kreide/kreide/parser/TypeFitsPinLaw" = some m.cls := findClass_of_methodNamed Bd.named
  have hnm := (name_of_methodNamed Bd.named Bd.method).1
  have X0 : Stand p l e ({ frames := 0, cells := 0, slots := 0, locals := 0 } : Room) s m #[(.int p1)] below meth c s₁ [] 0 0 := Stand.of_body Bd
  have e0 : s₁.heap = h0 := by rw [← hh, Bd.state]; rfl
  have N0 := Fr.nil n0
  refine own_start (own_ef_pick m p1) ?_
  refine own_of (T' := s₁) (f' := (mkF m 1 #[.val (.int p1)] [(.int p1)])) (fun t_ k_ => (XS.iloadN X0.here hx rfl (Jvm.hb hby own_d_method_2_code_0) rfl k_)) ?_
  by_cases hc1_1 : (p1 = (0 : Int32))
  · skip
    obtain ⟨T2, X2, e2, st2⟩ := getS2 X0 hx hZ hown (host := "") (Or.inl (hw _ (List.mem_of_getElem? (i := 4) rfl))) Via.refl e0 hA.2.2.1 (g := (mkF m 4 #[.val (.int p1)] [])) rfl (Jvm.hb hby own_d_method_2_code_4)
    refine own_of (T' := T2) (f' := (mkF m 7 #[.val (.int p1)] [(.ref (A 0))])) (fun t_ k_ => (XS.ifNo X0.here hx rfl (Jvm.hb hby own_d_method_2_code_1) rfl ((if0 _ _).trans (teq hc1_1).2) (st2 _ k_))) ?_
    obtain ⟨fs, hr, hrun, hended, hW, hsame⟩ := X2.leave (v := some (.ref (A 0))) (fun h => by rw [Bd.returns] at h; cases h)
    exact ⟨_, _, own_retA X2 hx Bd.returns rfl rfl rfl (Jvm.hb hby own_d_method_2_code_7) hr, hrun, hended, _, _, rfl, (by show own_Q_pick Z p1 A h0 n0 _ T2.heap _; rw [e2]; exact ⟨by unfold own_ix; rw [if_pos hc1_1], N0, rfl⟩), ⟨_, rfl⟩, hW, hsame.mono (by decide) (by decide)⟩
  · skip
    refine own_of (T' := s₁) (f' := (mkF m 10 #[.val (.int p1)] [(.int (1 : Int32)), (.int p1)])) (fun t_ k_ => (XS.ifYes X0.here hx rfl (pc0 := 1) (pc' := 8) rfl (Jvm.hb hby own_d_method_2_code_1) rfl ((if0 _ _).trans (feq hc1_1).2) (by decide) (by decide) (XS.iloadN X0.here hx rfl (Jvm.hb hby own_d_method_2_code_8) rfl (XS.iconst X0.here hx rfl (Jvm.hb hby own_d_method_2_code_9) k_)))) ?_
    by_cases hc10_3 : (p1 = (1 : Int32))
    · skip
      obtain ⟨T4, X4, e4, st4⟩ := getS2 X0 hx hZ hown (host := "") (Or.inl (hw _ (List.mem_of_getElem? (i := 20) rfl))) Via.refl e0 hA.2.2.2.1 (g := (mkF m 13 #[.val (.int p1)] [])) rfl (Jvm.hb hby own_d_method_2_code_13)
      refine own_of (T' := T4) (f' := (mkF m 16 #[.val (.int p1)] [(.ref (A 1))])) (fun t_ k_ => (XS.icmpNo X0.here hx rfl (Jvm.hb hby own_d_method_2_code_10) rfl (teq hc10_3).2 (st4 _ k_))) ?_
      obtain ⟨fs, hr, hrun, hended, hW, hsame⟩ := X4.leave (v := some (.ref (A 1))) (fun h => by rw [Bd.returns] at h; cases h)
      exact ⟨_, _, own_retA X4 hx Bd.returns rfl rfl rfl (Jvm.hb hby own_d_method_2_code_16) hr, hrun, hended, _, _, rfl, (by show own_Q_pick Z p1 A h0 n0 _ T4.heap _; rw [e4]; exact ⟨by unfold own_ix; rw [if_neg hc1_1, if_pos hc10_3], N0, rfl⟩), ⟨_, rfl⟩, hW, hsame.mono (by decide) (by decide)⟩
    · skip
      refine own_of (T' := s₁) (f' := (mkF m 19 #[.val (.int p1)] [(.int (2 : Int32)), (.int p1)])) (fun t_ k_ => (XS.icmpYes X0.here hx rfl (pc0 := 10) (pc' := 17) rfl (Jvm.hb hby own_d_method_2_code_10) rfl (feq hc10_3).2 (by decide) (by decide) (XS.iloadN X0.here hx rfl (Jvm.hb hby own_d_method_2_code_17) rfl (XS.iconst X0.here hx rfl (Jvm.hb hby own_d_method_2_code_18) k_)))) ?_
      by_cases hc19_5 : (p1 = (2 : Int32))
      · skip
        obtain ⟨T6, X6, e6, st6⟩ := getS2 X0 hx hZ hown (host := "") (Or.inl (hw _ (List.mem_of_getElem? (i := 27) rfl))) Via.refl e0 hA.2.2.2.2.1 (g := (mkF m 22 #[.val (.int p1)] [])) rfl (Jvm.hb hby own_d_method_2_code_22)
        refine own_of (T' := T6) (f' := (mkF m 25 #[.val (.int p1)] [(.ref (A 2))])) (fun t_ k_ => (XS.icmpNo X0.here hx rfl (Jvm.hb hby own_d_method_2_code_19) rfl (teq hc19_5).2 (st6 _ k_))) ?_
        obtain ⟨fs, hr, hrun, hended, hW, hsame⟩ := X6.leave (v := some (.ref (A 2))) (fun h => by rw [Bd.returns] at h; cases h)
        exact ⟨_, _, own_retA X6 hx Bd.returns rfl rfl rfl (Jvm.hb hby own_d_method_2_code_25) hr, hrun, hended, _, _, rfl, (by show own_Q_pick Z p1 A h0 n0 _ T6.heap _; rw [e6]; exact ⟨by unfold own_ix; rw [if_neg hc1_1, if_neg hc10_3, if_pos hc19_5], N0, rfl⟩), ⟨_, rfl⟩, hW, hsame.mono (by decide) (by decide)⟩
      · skip
        refine own_of (T' := s₁) (f' := (mkF m 28 #[.val (.int p1)] [(.int (3 : Int32)), (.int p1)])) (fun t_ k_ => (XS.icmpYes X0.here hx rfl (pc0 := 19) (pc' := 26) rfl (Jvm.hb hby own_d_method_2_code_19) rfl (feq hc19_5).2 (by decide) (by decide) (XS.iloadN X0.here hx rfl (Jvm.hb hby own_d_method_2_code_26) rfl (XS.iconst X0.here hx rfl (Jvm.hb hby own_d_method_2_code_27) k_)))) ?_
        by_cases hc28_7 : (p1 = (3 : Int32))
        · skip
          obtain ⟨T8, X8, e8, st8⟩ := getS2 X0 hx hZ hown (host := "") (Or.inl (hw _ (List.mem_of_getElem? (i := 7) rfl))) Via.refl e0 hA.2.2.2.2.2.1 (g := (mkF m 31 #[.val (.int p1)] [])) rfl (Jvm.hb hby own_d_method_2_code_31)
          refine own_of (T' := T8) (f' := (mkF m 34 #[.val (.int p1)] [(.ref (A 3))])) (fun t_ k_ => (XS.icmpNo X0.here hx rfl (Jvm.hb hby own_d_method_2_code_28) rfl (teq hc28_7).2 (st8 _ k_))) ?_
          obtain ⟨fs, hr, hrun, hended, hW, hsame⟩ := X8.leave (v := some (.ref (A 3))) (fun h => by rw [Bd.returns] at h; cases h)
          exact ⟨_, _, own_retA X8 hx Bd.returns rfl rfl rfl (Jvm.hb hby own_d_method_2_code_34) hr, hrun, hended, _, _, rfl, (by show own_Q_pick Z p1 A h0 n0 _ T8.heap _; rw [e8]; exact ⟨by unfold own_ix; rw [if_neg hc1_1, if_neg hc10_3, if_neg hc19_5, if_pos hc28_7], N0, rfl⟩), ⟨_, rfl⟩, hW, hsame.mono (by decide) (by decide)⟩
        · skip
          refine own_of (T' := s₁) (f' := (mkF m 37 #[.val (.int p1)] [(.int (4 : Int32)), (.int p1)])) (fun t_ k_ => (XS.icmpYes X0.here hx rfl (pc0 := 28) (pc' := 35) rfl (Jvm.hb hby own_d_method_2_code_28) rfl (feq hc28_7).2 (by decide) (by decide) (XS.iloadN X0.here hx rfl (Jvm.hb hby own_d_method_2_code_35) rfl (XS.iconst X0.here hx rfl (Jvm.hb hby own_d_method_2_code_36) k_)))) ?_
          by_cases hc37_9 : (p1 = (4 : Int32))
          · skip
            obtain ⟨T10, X10, e10, st10⟩ := getS2 X0 hx hZ hown (host := "") (Or.inl (hw _ (List.mem_of_getElem? (i := 21) rfl))) Via.refl e0 hA.2.2.2.2.2.2.1 (g := (mkF m 40 #[.val (.int p1)] [])) rfl (Jvm.hb hby own_d_method_2_code_40)
            refine own_of (T' := T10) (f' := (mkF m 43 #[.val (.int p1)] [(.ref (A 4))])) (fun t_ k_ => (XS.icmpNo X0.here hx rfl (Jvm.hb hby own_d_method_2_code_37) rfl (teq hc37_9).2 (st10 _ k_))) ?_
            obtain ⟨fs, hr, hrun, hended, hW, hsame⟩ := X10.leave (v := some (.ref (A 4))) (fun h => by rw [Bd.returns] at h; cases h)
            exact ⟨_, _, own_retA X10 hx Bd.returns rfl rfl rfl (Jvm.hb hby own_d_method_2_code_43) hr, hrun, hended, _, _, rfl, (by show own_Q_pick Z p1 A h0 n0 _ T10.heap _; rw [e10]; exact ⟨by unfold own_ix; rw [if_neg hc1_1, if_neg hc10_3, if_neg hc19_5, if_neg hc28_7, if_pos hc37_9], N0, rfl⟩), ⟨_, rfl⟩, hW, hsame.mono (by decide) (by decide)⟩
          · skip
            refine own_of (T' := s₁) (f' := (mkF m 46 #[.val (.int p1)] [(.int (5 : Int32)), (.int p1)])) (fun t_ k_ => (XS.icmpYes X0.here hx rfl (pc0 := 37) (pc' := 44) rfl (Jvm.hb hby own_d_method_2_code_37) rfl (feq hc37_9).2 (by decide) (by decide) (XS.iloadN X0.here hx rfl (Jvm.hb hby own_d_method_2_code_44) rfl (XS.iconst X0.here hx rfl (Jvm.hb hby own_d_method_2_code_45) k_)))) ?_
            by_cases hc46_11 : (p1 = (5 : Int32))
            · skip
              obtain ⟨T12, X12, e12, st12⟩ := getS2 X0 hx hZ hown (host := "") (Or.inl (hw _ (List.mem_of_getElem? (i := 23) rfl))) Via.refl e0 hA.2.2.2.2.2.2.2.1 (g := (mkF m 49 #[.val (.int p1)] [])) rfl (Jvm.hb hby own_d_method_2_code_49)
              refine own_of (T' := T12) (f' := (mkF m 52 #[.val (.int p1)] [(.ref (A 5))])) (fun t_ k_ => (XS.icmpNo X0.here hx rfl (Jvm.hb hby own_d_method_2_code_46) rfl (teq hc46_11).2 (st12 _ k_))) ?_
              obtain ⟨fs, hr, hrun, hended, hW, hsame⟩ := X12.leave (v := some (.ref (A 5))) (fun h => by rw [Bd.returns] at h; cases h)
              exact ⟨_, _, own_retA X12 hx Bd.returns rfl rfl rfl (Jvm.hb hby own_d_method_2_code_52) hr, hrun, hended, _, _, rfl, (by show own_Q_pick Z p1 A h0 n0 _ T12.heap _; rw [e12]; exact ⟨by unfold own_ix; rw [if_neg hc1_1, if_neg hc10_3, if_neg hc19_5, if_neg hc28_7, if_neg hc37_9, if_pos hc46_11], N0, rfl⟩), ⟨_, rfl⟩, hW, hsame.mono (by decide) (by decide)⟩
            · skip
              refine own_of (T' := s₁) (f' := (mkF m 56 #[.val (.int p1)] [(.int (6 : Int32)), (.int p1)])) (fun t_ k_ => (XS.icmpYes X0.here hx rfl (pc0 := 46) (pc' := 53) rfl (Jvm.hb hby own_d_method_2_code_46) rfl (feq hc46_11).2 (by decide) (by decide) (XS.iloadN X0.here hx rfl (Jvm.hb hby own_d_method_2_code_53) rfl (XS.bipush X0.here hx rfl (Jvm.hb hby own_d_method_2_code_54) k_)))) ?_
              by_cases hc56_13 : (p1 = (6 : Int32))
              · skip
                obtain ⟨T14, X14, e14, st14⟩ := getS2 X0 hx hZ hown (host := "") (Or.inl (hw _ (List.mem_of_getElem? (i := 18) rfl))) Via.refl e0 hA.2.2.2.2.2.2.2.2.1 (g := (mkF m 59 #[.val (.int p1)] [])) rfl (Jvm.hb hby own_d_method_2_code_59)
                refine own_of (T' := T14) (f' := (mkF m 62 #[.val (.int p1)] [(.ref (A 6))])) (fun t_ k_ => (XS.icmpNo X0.here hx rfl (Jvm.hb hby own_d_method_2_code_56) rfl (teq hc56_13).2 (st14 _ k_))) ?_
                obtain ⟨fs, hr, hrun, hended, hW, hsame⟩ := X14.leave (v := some (.ref (A 6))) (fun h => by rw [Bd.returns] at h; cases h)
                exact ⟨_, _, own_retA X14 hx Bd.returns rfl rfl rfl (Jvm.hb hby own_d_method_2_code_62) hr, hrun, hended, _, _, rfl, (by show own_Q_pick Z p1 A h0 n0 _ T14.heap _; rw [e14]; exact ⟨by unfold own_ix; rw [if_neg hc1_1, if_neg hc10_3, if_neg hc19_5, if_neg hc28_7, if_neg hc37_9, if_neg hc46_11, if_pos hc56_13], N0, rfl⟩), ⟨_, rfl⟩, hW, hsame.mono (by decide) (by decide)⟩
              · skip
                obtain ⟨T15, X15, e15, st15⟩ := getS2 X0 hx hZ hown (host := "") (Or.inl (hw _ (List.mem_of_getElem? (i := 25) rfl))) Via.refl e0 hA.2.2.2.2.2.2.2.2.2 (g := (mkF m 63 #[.val (.int p1)] [])) rfl (Jvm.hb hby own_d_method_2_code_63)
                refine own_of (T' := T15) (f' := (mkF m 66 #[.val (.int p1)] [(.ref (A 7))])) (fun t_ k_ => (XS.icmpYes X0.here hx rfl (pc0 := 56) (pc' := 63) rfl (Jvm.hb hby own_d_method_2_code_56) rfl (feq hc56_13).2 (by decide) (by decide) (st15 _ k_))) ?_
                obtain ⟨fs, hr, hrun, hended, hW, hsame⟩ := X15.leave (v := some (.ref (A 7))) (fun h => by rw [Bd.returns] at h; cases h)
                exact ⟨_, _, own_retA X15 hx Bd.returns rfl rfl rfl (Jvm.hb hby own_d_method_2_code_66) hr, hrun, hended, _, _, rfl, (by show own_Q_pick Z p1 A h0 n0 _ T15.heap _; rw [e15]; exact ⟨by unfold own_ix; rw [if_neg hc1_1, if_neg hc10_3, if_neg hc19_5, if_neg hc28_7, if_neg hc37_9, if_neg hc46_11, if_neg hc56_13], N0, rfl⟩), ⟨_, rfl⟩, hW, hsame.mono (by decide) (by decide)⟩
theorem own_lt (k : Int32) : own_ix k < 8 := by
  unfold own_ix
  repeat' split
  all_goals decide
theorem own_grid : ∀ a b : Fin 8, (fun i j : Int32 => (if own_ix i = own_ix j then (1 : Int32) else if own_ix i = 0 then (if own_ix j = 1 then 1 else 0) else 0) = ((if ((((-9205322385119247869 : Int64).toUInt64 >>> (((i * (8 : Int32)) + j) &&& 0x3f).toInt64.toUInt64).toInt64) &&& (1 : Int64)) = (0 : Int64) then (0 : Int32) else (1 : Int32)))) (Int32.ofNat a.val) (Int32.ofNat b.val) := by decide +kernel
theorem own_as (x i : Int32) (hi : x &&& (7 : Int32) = i) : ∃ a : Fin 8, i = Int32.ofNat a.val := by
  have e1 : i.toInt = x.toInt % (2 ^ 3 : Nat) := by rw [← hi]; exact c_mask x 7 3 (by decide) (by decide)
  refine ⟨⟨i.toInt.toNat, by omega⟩, Int32.toInt_inj.mp ?_⟩
  rw [Int32.toInt_ofNat_of_lt (by omega)]
  show i.toInt = ((i.toInt.toNat : Nat) : Int)
  omega
theorem own_law {Z : State} {h : Heap} {A : Nat → Addr} (hA : own_En Z h A) (x y i j : Int32) (hi : x &&& (7 : Int32) = i) (hj : y &&& (7 : Int32) = j) : (if A (own_ix i) = A (own_ix j) then (1 : Int32) else if A (own_ix i) = A 0 then (if A (own_ix j) = A 1 then 1 else 0) else 0) = ((if ((((-9205322385119247869 : Int64).toUInt64 >>> (((i * (8 : Int32)) + j) &&& 0x3f).toInt64.toUInt64).toInt64) &&& (1 : Int64)) = (0 : Int64) then (0 : Int32) else (1 : Int32))) := by
  have h1 : A (own_ix i) = A (own_ix j) ↔ own_ix i = own_ix j := ⟨hA.1 _ _ (own_lt i) (own_lt j), fun q => by rw [q]⟩
  have h2 : A (own_ix i) = A 0 ↔ own_ix i = 0 := ⟨hA.1 _ 0 (own_lt i) (by decide), fun q => by rw [q]⟩
  have h3 : A (own_ix j) = A 1 ↔ own_ix j = 1 := ⟨hA.1 _ 1 (own_lt j) (by decide), fun q => by rw [q]⟩
  simp only [h1, h2, h3]
  obtain ⟨a, rfl⟩ := own_as x i hi
  obtain ⟨b, rfl⟩ := own_as y j hj
  exact own_grid a b

theorem own_ef_0 (m : MethodId) (p0 : Int32) (p1 : Int32) : entryFrame m #[(.int p0), (.int p1)] maxLocals = mkF m 0 #[.val (.int p0), .val (.int p1), .unset, .unset, .unset, .unset, .unset] [] := by first | (simp [entryFrame, mkF, argsToLocals, Value.category, maxLocals]; done) | rfl
def own_Q_0 (Z : State) (p0 : Int32) (p1 : Int32) (A : Nat → Addr) (h0 : Heap) (n0 : Nat) (v : Option Value) (h : Heap) (L : List Loc) : Prop := v = some (.int 1) ∧ Fr n0 L
theorem own_pd_0 : parseMethodDescriptor "(I)Lcom/example/kreide/kreide/parser/Type;" = some ⟨[.int], some (.object "com/example/kreide/kreide/parser/Type")⟩ := by decide +kernel
theorem own_pd_1 : parseMethodDescriptor "(Lcom/example/kreide/kreide/parser/Type;)Z" = some ⟨[(.object "com/example/kreide/kreide/parser/Type")], some .boolean⟩ := by decide +kernel
set_option maxRecDepth 65536 in
set_option maxHeartbeats 40000000 in
theorem own_rm_0 (l : Launch) (Z : State) (a0 : Array Value) (hw : ∀ d ∈ tables_1, d.before a0 Z = true) (ws : List Jvm.Cond) (p0 : Int32) (p1 : Int32) (A : Nat → Addr) (h0 : Heap) (n0 : Nat) (Z0 : n0 ≤ h0.size) (hA : own_En Z h0 A) :
    MetFree l x (head1 (Jvm.Cond.code x code maxLocals ret :: ws) room_1) (fun a U => a = #[(.int p0), (.int p1)] ∧ Z.Warmed39 U.vm ∧ U.heap = h0) (fun _ _ _ _ _ => True) (fun _ U o U' => ∃ v L, o = .returned v ∧ own_Q_0 Z p0 p1 A h0 n0 v U'.heap L ∧ FrameEnd U o U' L room_1.cells room_1.slots) := by
  refine MetFree.of_bodySF (plainFor_of_name own_pn_1) hisR ?_
  intro p e s m args below meth c s₁ Bd hml0 hP hK
  obtain ⟨rfl, hZ, hh⟩ := hP
  have hx := Bd.exec
  have hby := Bd.bytes
  have hml : c.maxLocals = 7 := hml0
  have hown : s.vm.findClass "com/example/kreide/kreide/parser/TypeFitsPinLaw" = some m.cls := findClass_of_methodNamed Bd.named
  have hnm := (name_of_methodNamed Bd.named Bd.method).1
  have X0 : Stand p l e room_1 s m #[(.int p0), (.int p1)] below meth c s₁ [] 0 0 := Stand.of_body Bd
  have e0 : s₁.heap = h0 := by rw [← hh, Bd.state]; rfl
  have N0 := Fr.nil n0
  refine own_start (own_ef_0 m p0 p1) ?_
  refine own_of (T' := s₁) (f' := (mkF m 4 #[.val (.int p0), .val (.int p1), .unset, .unset, .unset, .unset, .unset] [(.int (p0 &&& (7 : Int32)))])) (fun t_ k_ => (XS.iloadN X0.here hx rfl (Jvm.hb hby at_0) rfl (XS.bipush X0.here hx rfl (Jvm.hb hby at_1) (XS.iand X0.here hx rfl (Jvm.hb hby at_3) rfl k_)))) ?_
  obtain ⟨i, hi⟩ : ∃ z : Int32, (p0 &&& (7 : Int32)) = z := ⟨_, rfl⟩
  rw [hi]
  refine own_of (T' := s₁) (f' := (mkF m 9 #[.val (.int p0), .val (.int p1), .val (.int i), .unset, .unset, .unset, .unset] [(.int (p1 &&& (7 : Int32)))])) (fun t_ k_ => (XS.istoreN X0.here hx rfl (Jvm.hb hby at_4) rfl (l' := #[.val (.int p0), .val (.int p1), .val (.int i), .unset, .unset, .unset, .unset]) rfl (XS.iloadN X0.here hx rfl (Jvm.hb hby at_5) rfl (XS.bipush X0.here hx rfl (Jvm.hb hby at_6) (XS.iand X0.here hx rfl (Jvm.hb hby at_8) rfl k_))))) ?_
  obtain ⟨j, hj⟩ : ∃ z : Int32, (p1 &&& (7 : Int32)) = z := ⟨_, rfl⟩
  rw [hj]
  refine own_of (T' := s₁) (f' := (mkF m 11 #[.val (.int p0), .val (.int p1), .val (.int i), .val (.int j), .unset, .unset, .unset] [(.int i)])) (fun t_ k_ => (XS.istoreN X0.here hx rfl (Jvm.hb hby at_9) rfl (l' := #[.val (.int p0), .val (.int p1), .val (.int i), .val (.int j), .unset, .unset, .unset]) rfl (XS.iloadN X0.here hx rfl (Jvm.hb hby at_10) rfl k_))) ?_
  obtain ⟨_, _, ⟨T1, L1, k1, n1⟩, -, X1, ⟨Lc1, hQ1, l1, y1, z1⟩, st1⟩ := Jvm.LawKit.callS X0 hx (y := (⟨"com/example/kreide/kreide/parser/TypeFitsPinLaw", "pick", "(I)Lcom/example/kreide/kreide/parser/Type;"⟩ : MethodName)) hown (mvT hZ (hw _ (List.mem_of_getElem? (i := 0) rfl))) (mvT hZ (hw _ (List.mem_of_getElem? (i := 1) rfl))) (mvT hZ (hw _ (List.mem_of_getElem? (i := 2) rfl))) (mvT hZ (hw _ (List.mem_of_getElem? (i := 3) rfl))) (by decide) (backOf (W := 0) (own_rm_pick l Z a0 hw [] i A h0 n0 Z0 hA) hZ (hw _ (List.mem_of_getElem? (i := 3) rfl)) (hw _ (List.mem_of_getElem? (i := 2) rfl)) (by decide) (by decide)) (g := (mkF m 11 #[.val (.int p0), .val (.int p1), .val (.int i), .val (.int j), .unset, .unset, .unset] [(.int i)])) rfl (by rw [hml]; rfl) (argsL := [(.int i)]) (rest := []) (lenOf own_pd_0 rfl) rfl (by show 2 * 0 + _ ≤ _; exact Nat.le_of_eq rfl) (Jvm.hb hby at_11) (fun _ _ => ⟨rfl, e0, Nat.le_of_ble_eq_true rfl, Nat.le_of_ble_eq_true rfl⟩)
  dsimp only [Pt.U, Pt.locs, Pt.cells, Pt.slots] at X1 l1 y1 z1 st1 hQ1
  subst l1 y1 z1
  obtain ⟨rfl, N1, e1⟩ := hQ1
  have N2 := Fr.app N0 N1
  refine own_of (T' := T1) (f' := (mkF m 17 #[.val (.int p0), .val (.int p1), .val (.int i), .val (.int j), .val (.ref (A (own_ix i))), .unset, .unset] [(.int j)])) (fun t_ k_ => (st1 _ (XS.astore X1.here hx rfl (Jvm.hb hby at_14) rfl rfl (l' := #[.val (.int p0), .val (.int p1), .val (.int i), .val (.int j), .val (.ref (A (own_ix i))), .unset, .unset]) rfl (XS.iloadN X1.here hx rfl (Jvm.hb hby at_16) rfl k_)))) ?_
  obtain ⟨_, _, ⟨T3, L3, k3, n3⟩, -, X3, ⟨Lc3, hQ3, l3, y3, z3⟩, st3⟩ := Jvm.LawKit.callS X1 hx (y := (⟨"com/example/kreide/kreide/parser/TypeFitsPinLaw", "pick", "(I)Lcom/example/kreide/kreide/parser/Type;"⟩ : MethodName)) hown (mvT hZ (hw _ (List.mem_of_getElem? (i := 0) rfl))) (mvT hZ (hw _ (List.mem_of_getElem? (i := 1) rfl))) (mvT hZ (hw _ (List.mem_of_getElem? (i := 2) rfl))) (mvT hZ (hw _ (List.mem_of_getElem? (i := 3) rfl))) (by decide) (backOf (W := 0) (own_rm_pick l Z a0 hw [] j A h0 n0 Z0 hA) hZ (hw _ (List.mem_of_getElem? (i := 3) rfl)) (hw _ (List.mem_of_getElem? (i := 2) rfl)) (by decide) (by decide)) (g := (mkF m 17 #[.val (.int p0), .val (.int p1), .val (.int i), .val (.int j), .val (.ref (A (own_ix i))), .unset, .unset] [(.int j)])) rfl (by rw [hml]; rfl) (argsL := [(.int j)]) (rest := []) (lenOf own_pd_0 rfl) rfl (by show 2 * 0 + _ ≤ _; exact Nat.le_of_eq rfl) (Jvm.hb hby at_17) (fun _ _ => ⟨rfl, e1, Nat.le_of_ble_eq_true rfl, Nat.le_of_ble_eq_true rfl⟩)
  dsimp only [Pt.U, Pt.locs, Pt.cells, Pt.slots] at X3 l3 y3 z3 st3 hQ3
  subst l3 y3 z3
  obtain ⟨rfl, N3, e3⟩ := hQ3
  have N4 := Fr.app N2 N3
  refine own_of (T' := T3) (f' := (mkF m 31 #[.val (.int p0), .val (.int p1), .val (.int i), .val (.int j), .val (.ref (A (own_ix i))), .val (.ref (A (own_ix j))), .unset] [(.int ((i * (8 : Int32)) + j)), (.long (-9205322385119247869 : Int64))])) (fun t_ k_ => (st3 _ (XS.astore X3.here hx rfl (Jvm.hb hby at_20) rfl rfl (l' := #[.val (.int p0), .val (.int p1), .val (.int i), .val (.int j), .val (.ref (A (own_ix i))), .val (.ref (A (own_ix j))), .unset]) rfl (Jvm.Stand.ldc2J X3 hx hown (mvT hZ (hw _ (List.mem_of_getElem? (i := 9) rfl))) rfl (Jvm.hb hby at_22) (XS.iloadN X3.here hx rfl (Jvm.hb hby at_25) rfl (XS.bipush X3.here hx rfl (Jvm.hb hby at_26) (XS.imul X3.here hx rfl (Jvm.hb hby at_28) rfl (XS.iloadN X3.here hx rfl (Jvm.hb hby at_29) rfl (XS.iadd X3.here hx rfl (Jvm.hb hby at_30) rfl k_))))))))) ?_
  refine own_of (T' := T3) (f' := (mkF m 36 #[.val (.int p0), .val (.int p1), .val (.int i), .val (.int j), .val (.ref (A (own_ix i))), .val (.ref (A (own_ix j))), .unset] [(.int (lcmpW ((((-9205322385119247869 : Int64).toUInt64 >>> (((i * (8 : Int32)) + j) &&& 0x3f).toInt64.toUInt64).toInt64) &&& (1 : Int64)) (0 : Int64)))])) (fun t_ k_ => (XS.lushr X3.here hx rfl (Jvm.hb hby at_31) rfl (XS.lconst X3.here hx rfl (Jvm.hb hby at_32) (XS.land X3.here hx rfl (Jvm.hb hby at_33) rfl (XS.lconst X3.here hx rfl (Jvm.hb hby at_34) (XS.lcmp X3.here hx rfl (Jvm.hb hby at_35) rfl k_)))))) ?_
  obtain ⟨ex, hex⟩ : ∃ z : Int32, z = (if ((((-9205322385119247869 : Int64).toUInt64 >>> (((i * (8 : Int32)) + j) &&& 0x3f).toInt64.toUInt64).toInt64) &&& (1 : Int64)) = (0 : Int64) then (0 : Int32) else (1 : Int32)) := ⟨_, rfl⟩
  have st6 : ∀ t_, Steps p.tables e below (T3.setTop (mkF m 44 #[.val (.int p0), .val (.int p1), .val (.int i), .val (.int j), .val (.ref (A (own_ix i))), .val (.ref (A (own_ix j))), .unset] [(.int ex)])) t_ → Steps p.tables e below (T3.setTop (mkF m 36 #[.val (.int p0), .val (.int p1), .val (.int i), .val (.int j), .val (.ref (A (own_ix i))), .val (.ref (A (own_ix j))), .unset] [(.int (lcmpW ((((-9205322385119247869 : Int64).toUInt64 >>> (((i * (8 : Int32)) + j) &&& 0x3f).toInt64.toUInt64).toInt64) &&& (1 : Int64)) (0 : Int64)))])) t_ := by
    intro t_ k_
    by_cases hc36_5 : (((((-9205322385119247869 : Int64).toUInt64 >>> (((i * (8 : Int32)) + j) &&& 0x3f).toInt64.toUInt64).toInt64) &&& (1 : Int64)) = (0 : Int64))
    · skip
      refine (XS.ifYes X3.here hx rfl (pc0 := 36) (pc' := 43) rfl (Jvm.hb hby at_36) rfl ((if0 _ _).trans (teq ((lw_eq ((((-9205322385119247869 : Int64).toUInt64 >>> (((i * (8 : Int32)) + j) &&& 0x3f).toInt64.toUInt64).toInt64) &&& (1 : Int64)) (0 : Int64)).mpr hc36_5)).1) (by decide) (by decide) (XS.iconst X3.here hx rfl (Jvm.hb hby at_43) ?_))
      show Steps p.tables e below (T3.setTop (mkF m 44 #[.val (.int p0), .val (.int p1), .val (.int i), .val (.int j), .val (.ref (A (own_ix i))), .val (.ref (A (own_ix j))), .unset] [(.int (0 : Int32))])) t_
      rw [hex, if_pos hc36_5] at k_
      exact k_
    · skip
      refine (XS.ifNo X3.here hx rfl (Jvm.hb hby at_36) rfl ((if0 _ _).trans (feq (mt (lw_eq ((((-9205322385119247869 : Int64).toUInt64 >>> (((i * (8 : Int32)) + j) &&& 0x3f).toInt64.toUInt64).toInt64) &&& (1 : Int64)) (0 : Int64)).mp hc36_5)).1) (XS.iconst X3.here hx rfl (Jvm.hb hby at_39) (XS.goto X3.here hx rfl (pc0 := 40) (pc' := 44) rfl (Jvm.hb hby at_40) (by decide) (by decide) ?_)))
      show Steps p.tables e below (T3.setTop (mkF m 44 #[.val (.int p0), .val (.int p1), .val (.int i), .val (.int j), .val (.ref (A (own_ix i))), .val (.ref (A (own_ix j))), .unset] [(.int (1 : Int32))])) t_
      rw [hex, if_neg hc36_5] at k_
      exact k_
  refine own_of (T' := T3) (f' := (mkF m 44 #[.val (.int p0), .val (.int p1), .val (.int i), .val (.int j), .val (.ref (A (own_ix i))), .val (.ref (A (own_ix j))), .unset] [(.int ex)])) st6 ?_
  refine own_of (T' := T3) (f' := (mkF m 50 #[.val (.int p0), .val (.int p1), .val (.int i), .val (.int j), .val (.ref (A (own_ix i))), .val (.ref (A (own_ix j))), .val (.int ex)] [(.ref (A (own_ix j))), (.ref (A (own_ix i)))])) (fun t_ k_ => (XS.istore X3.here hx rfl (Jvm.hb hby at_44) rfl (l' := #[.val (.int p0), .val (.int p1), .val (.int i), .val (.int j), .val (.ref (A (own_ix i))), .val (.ref (A (own_ix j))), .val (.int ex)]) rfl (XS.aload X3.here hx rfl (Jvm.hb hby at_46) rfl rfl (XS.aload X3.here hx rfl (Jvm.hb hby at_48) rfl rfl k_)))) ?_
  obtain ⟨cq8, kq8, q8a, q8b, q8c⟩ := isOf hZ e3 (hA.2.1 _ (own_lt i))
  obtain ⟨_, _, ⟨T7, L7, k7, n7⟩, -, X7, ⟨Lc7, hQ7, l7, y7, z7⟩, st7⟩ := X3.virtualBack hx (y := (⟨"com/example/kreide/kreide/parser/Type", "fits", "(Lcom/example/kreide/kreide/parser/Type;)Z"⟩ : MethodName)) (z := (⟨"com/example/kreide/kreide/parser/Type", "fits", "(Lcom/example/kreide/kreide/parser/Type;)Z"⟩ : MethodName)) hown (mvT hZ (hw _ (List.mem_of_getElem? (i := 10) rfl))) (mvT hZ (hw _ (List.mem_of_getElem? (i := 11) rfl))) (notFace_of_selects (args := #[]) (mvT hZ (hw _ (List.mem_of_getElem? (i := 13) rfl)))) (mvT hZ (hw _ (List.mem_of_getElem? (i := 13) rfl))) (mvT hZ (hw _ (List.mem_of_getElem? (i := 12) rfl))) (by decide) (backOf (W := 0) (own_rm_fits l Z a0 hw [] (A (own_ix i)) (A (own_ix j)) A h0 n0 Z0 hA) hZ (hw _ (List.mem_of_getElem? (i := 14) rfl)) (hw _ (List.mem_of_getElem? (i := 5) rfl)) (by decide) (by decide)) q8a q8c (g := (mkF m 50 #[.val (.int p0), .val (.int p1), .val (.int i), .val (.int j), .val (.ref (A (own_ix i))), .val (.ref (A (own_ix j))), .val (.int ex)] [(.ref (A (own_ix j))), (.ref (A (own_ix i)))])) rfl (by rw [hml]; rfl) (Steps.refl _) (argsL := [(.ref (A (own_ix j)))]) (rest := []) (lenOf own_pd_1 rfl) rfl (by show 2 * 0 + _ ≤ _; exact Nat.le_of_eq rfl) (Jvm.hb hby at_50) (fun _ _ => ⟨rfl, e3, Nat.le_of_ble_eq_true rfl, Nat.le_of_ble_eq_true rfl⟩)
  dsimp only [Pt.U, Pt.locs, Pt.cells, Pt.slots] at X7 l7 y7 z7 st7 hQ7
  subst l7 y7 z7
  obtain ⟨rfl, N7, e7⟩ := hQ7
  have N9 := Fr.app N4 N7
  refine own_of (T' := T7) (f' := (mkF m 55 #[.val (.int p0), .val (.int p1), .val (.int i), .val (.int j), .val (.ref (A (own_ix i))), .val (.ref (A (own_ix j))), .val (.int ex)] [(.int ex), (.int (if A (own_ix i) = A (own_ix j) then (1 : Int32) else if A (own_ix i) = A 0 then (if A (own_ix j) = A 1 then 1 else 0) else 0))])) (fun t_ k_ => (st7.trans (XS.iload X7.here hx rfl (Jvm.hb hby at_53) rfl k_))) ?_
  have hlaw : (if A (own_ix i) = A (own_ix j) then (1 : Int32) else if A (own_ix i) = A 0 then (if A (own_ix j) = A 1 then 1 else 0) else 0) = ex := by rw [hex]; exact own_law hA p0 p1 i j hi hj
  refine own_of (T' := T7) (f' := (mkF m 63 #[.val (.int p0), .val (.int p1), .val (.int i), .val (.int j), .val (.ref (A (own_ix i))), .val (.ref (A (own_ix j))), .val (.int ex)] [(.int (1 : Int32))])) (fun t_ k_ => (XS.icmpNo X7.here hx rfl (Jvm.hb hby at_55) rfl (teq hlaw).2 (XS.iconst X7.here hx rfl (Jvm.hb hby at_58) (XS.goto X7.here hx rfl (pc0 := 59) (pc' := 63) rfl (Jvm.hb hby at_59) (by decide) (by decide) k_)))) ?_
  obtain ⟨fs, hr, hrun, hended, hW, hsame⟩ := X7.leave (v := some (.int (1 : Int32))) (fun h => by rw [Bd.returns] at h; cases h)
  exact ⟨_, _, retN X7 hx (t := .boolean) Bd.returns (by simp) (Jvm.hb hby at_63) hr, hrun, hended, _, _, rfl, (by show own_Q_0 Z p0 p1 A h0 n0 _ T7.heap _; rw [e7]; exact ⟨rfl, N9⟩), ⟨_, rfl⟩, hW, hsame.mono (by decide) (by decide)⟩
set_option maxRecDepth 65536 in
set_option maxHeartbeats 40000000 in
theorem own_comes_1 {Post : Tables → Env → Array Value → State → Outcome → State → Prop} (hpost : ∀ tb e args s v u, (limb_1_1.after args s (.returned v) u = true ∧ limb_1_2.after args s (.returned v) u = true ∧ True) → FrameEnd s (.returned v) u (Jvm.fieldLocs frame_1_writes args s ++ Jvm.arrayLocs frame_1_arrays args s ++ Jvm.staticLocs frame_1_statics s) 0 0 → Post tb e args s (.returned v) u) :
    ArmFor flags0 classFile x code maxLocals ret World_1 tables_1 room_1 Calls_1 rest_1 Pre_1 Post := by
  intro l hfl _ _ p e ha hc hk s m args below hf hA hF happ hP
  obtain ⟨hcalls, hrest, hpre⟩ := hP
  obtain ⟨-, -, -, hnamed, -, -, -, hat⟩ := (Spec.applies_iff hf).mp happ
  obtain ⟨hg, hn⟩ := and_e (Cond.before_iff.mp (show (Jvm.Cond.and given_1 narrow_1).before args s = true from hpre))
  obtain ⟨hg0, hg⟩ := and_e hg
  obtain ⟨ga0, hg⟩ := and_e hg
  have ga1 := hg
  obtain ⟨w0, w1, rfl⟩ : ∃ w0 w1 : Value, args = #[w0, w1] := by
    have hs : args.size = 2 := by simpa [Cond.value, given_1] using hg0
    obtain ⟨L⟩ := args
    match L, hs with
    | [w0, w1], _ => exact ⟨w0, w1, rfl⟩
  have hw := fun d (hd : d ∈ tables_1) => atoms_spec (ws := Jvm.Cond.code x code maxLocals ret :: tables_1) hat d (List.mem_cons_of_mem _ hd)
  have hfit : Fit s := fun {y c} hc i hi => by
    obtain ⟨ha, rfl⟩ := Array.getElem?_eq_some_iff.mp hc
    have q := List.all_eq_true.mp ((Array.all_eq_true_iff_forall_mem.mp hF) _ (Array.getElem_mem ha)) i (List.mem_range.mpr hi)
    simpa [Array.getElem?_eq_getElem hi] using q
  obtain ⟨i0, ei0⟩ := is_v ga0
  obtain rfl : w0 = (.int i0) := Option.some.inj ei0
  obtain ⟨i1, ei1⟩ := is_v ga1
  obtain rfl : w1 = (.int i1) := Option.some.inj ei1
  obtain ⟨na1, nb1⟩ := and_e hn
  obtain ⟨na2, nb2⟩ := and_e nb1
  obtain ⟨na3, nb3⟩ := and_e nb2
  obtain ⟨na4, nb4⟩ := and_e nb3
  obtain ⟨na5, nb5⟩ := and_e nb4
  obtain ⟨na6, nb6⟩ := and_e nb5
  obtain ⟨na7, nb7⟩ := and_e nb6
  obtain ⟨na8, nb8⟩ := and_e nb7
  obtain ⟨na9, nb9⟩ := and_e nb8
  obtain ⟨na10, nb10⟩ := and_e nb9
  obtain ⟨na11, nb11⟩ := and_e nb10
  obtain ⟨na12, nb12⟩ := and_e nb11
  obtain ⟨na13, nb13⟩ := and_e nb12
  obtain ⟨na14, nb14⟩ := and_e nb13
  obtain ⟨na15, nb15⟩ := and_e nb14
  obtain ⟨x0, ev0⟩ := exa_v na1
  have Ex0 := Exa.start ev0 na1
  have Od0 := own_ord na3 ev0
  have St0 : Sta s s.heap "com/example/kreide/kreide/parser/Type" "GANZZAHL" "Lcom/example/kreide/kreide/parser/Type;" (.ref x0) := Sta.start ev0 (Or.inr ⟨hw _ (List.mem_of_getElem? (i := 5) rfl), hw _ (List.mem_of_getElem? (i := 6) rfl)⟩)
  obtain ⟨x1, ev1⟩ := exa_v na5
  have Ex1 := Exa.start ev1 na5
  have Od1 := own_ord na6 ev1
  have St1 : Sta s s.heap "com/example/kreide/kreide/parser/Type" "KOMMAZAHL" "Lcom/example/kreide/kreide/parser/Type;" (.ref x1) := Sta.start ev1 (Or.inr ⟨hw _ (List.mem_of_getElem? (i := 5) rfl), hw _ (List.mem_of_getElem? (i := 17) rfl)⟩)
  obtain ⟨x2, ev2⟩ := exa_v na15
  have Ex2 := Exa.start ev2 na15
  have Od2 := own_ord nb15 ev2
  have St2 : Sta s s.heap "com/example/kreide/kreide/parser/Type" "WAHRHEITSWERT" "Lcom/example/kreide/kreide/parser/Type;" (.ref x2) := Sta.start ev2 (Or.inr ⟨hw _ (List.mem_of_getElem? (i := 5) rfl), hw _ (List.mem_of_getElem? (i := 28) rfl)⟩)
  obtain ⟨x3, ev3⟩ := exa_v na2
  have Ex3 := Exa.start ev3 na2
  have Od3 := own_ord na4 ev3
  have St3 : Sta s s.heap "com/example/kreide/kreide/parser/Type" "ZEICHENKETTE" "Lcom/example/kreide/kreide/parser/Type;" (.ref x3) := Sta.start ev3 (Or.inr ⟨hw _ (List.mem_of_getElem? (i := 5) rfl), hw _ (List.mem_of_getElem? (i := 8) rfl)⟩)
  obtain ⟨x4, ev4⟩ := exa_v na9
  have Ex4 := Exa.start ev4 na9
  have Od4 := own_ord na10 ev4
  have St4 : Sta s s.heap "com/example/kreide/kreide/parser/Type" "GANZZAHL_ARRAY" "Lcom/example/kreide/kreide/parser/Type;" (.ref x4) := Sta.start ev4 (Or.inr ⟨hw _ (List.mem_of_getElem? (i := 5) rfl), hw _ (List.mem_of_getElem? (i := 22) rfl)⟩)
  obtain ⟨x5, ev5⟩ := exa_v na11
  have Ex5 := Exa.start ev5 na11
  have Od5 := own_ord na14 ev5
  have St5 : Sta s s.heap "com/example/kreide/kreide/parser/Type" "KOMMAZAHL_ARRAY" "Lcom/example/kreide/kreide/parser/Type;" (.ref x5) := Sta.start ev5 (Or.inr ⟨hw _ (List.mem_of_getElem? (i := 5) rfl), hw _ (List.mem_of_getElem? (i := 24) rfl)⟩)
  obtain ⟨x6, ev6⟩ := exa_v na7
  have Ex6 := Exa.start ev6 na7
  have Od6 := own_ord na8 ev6
  have St6 : Sta s s.heap "com/example/kreide/kreide/parser/Type" "WAHRHEITSWERT_ARRAY" "Lcom/example/kreide/kreide/parser/Type;" (.ref x6) := Sta.start ev6 (Or.inr ⟨hw _ (List.mem_of_getElem? (i := 5) rfl), hw _ (List.mem_of_getElem? (i := 19) rfl)⟩)
  obtain ⟨x7, ev7⟩ := exa_v na12
  have Ex7 := Exa.start ev7 na12
  have Od7 := own_ord na13 ev7
  have St7 : Sta s s.heap "com/example/kreide/kreide/parser/Type" "ZEICHENKETTE_ARRAY" "Lcom/example/kreide/kreide/parser/Type;" (.ref x7) := Sta.start ev7 (Or.inr ⟨hw _ (List.mem_of_getElem? (i := 5) rfl), hw _ (List.mem_of_getElem? (i := 26) rfl)⟩)
  have hA : own_En s s.heap (own_at x0 x1 x2 x3 x4 x5 x6 x7) := by
    refine ⟨fun i j hi hj e => ?_, fun i hi => ?_, St0, St1, St2, St3, St4, St5, St6, St7⟩
    · have F : ∀ i, i < 8 → Fld s s.heap (own_at x0 x1 x2 x3 x4 x5 x6 x7 i) "java/lang/Enum" "ordinal" "I" (.int (Int32.ofNat i)) := fun i hi => by
        match i, hi with
        | 0, _ => exact Od0
        | 1, _ => exact Od1
        | 2, _ => exact Od2
        | 3, _ => exact Od3
        | 4, _ => exact Od4
        | 5, _ => exact Od5
        | 6, _ => exact Od6
        | 7, _ => exact Od7
      apply Decidable.byContradiction
      intro hne
      refine Fld.ne (F i hi) (F j hj) (fun q => hne ?_) e
      have q1 : Int32.ofNat i = Int32.ofNat j := Value.int.inj q
      have q2 := congrArg Int32.toInt q1
      rw [Int32.toInt_ofNat_of_lt (by omega), Int32.toInt_ofNat_of_lt (by omega)] at q2
      omega
    · match i, hi with
      | 0, _ => exact Ex0
      | 1, _ => exact Ex1
      | 2, _ => exact Ex2
      | 3, _ => exact Ex3
      | 4, _ => exact Ex4
      | 5, _ => exact Ex5
      | 6, _ => exact Ex6
      | 7, _ => exact Ex7
  obtain ⟨n, o, h1, h2, h3, _, L, rfl, ⟨rfl, N⟩, hq⟩ := own_rm_0 l s _ hw tables_1 i0 i1 (own_at x0 x1 x2 x3 x4 x5 x6 x7) s.heap s.heap.size (Nat.le_refl _) hA p e ha hc hk s m _ below hf ((Spec.applies_iff_loose hf).mp happ).1 ⟨rfl, State.Warmed39.refl s, rfl⟩ trivial
  refine ⟨n, _, h1, h2, h3, hpost _ _ _ _ _ _ ⟨Cond.after_iff.mpr rfl, Cond.after_iff.mpr (eq_i res_at (Term.int_eval (1)) rfl), trivial⟩ ⟨hq.1, hq.2.1, (hq.2.2.sift fun y hy => Or.inr (N y hy)).mono (by decide) (by decide)⟩⟩
theorem main_1_1 : Claimed_1_1 := own_comes_1 fun _ _ _ _ _ _ h hF => ⟨h.1, hF⟩
theorem main_1_2 : Claimed_1_2 := own_comes_1 fun _ _ _ _ _ _ h hF => ⟨h.2.1, hF⟩
end Jvm.Pilot.@@N@@
namespace Jvm.Pilot.@@N@@
open Jvm Jvm.ClassFile Sem Op Lib Jvm.Free Jvm.Stand Jvm.Pilot.@@N@@.Jvm.D
/-! MADE BY PROGRAM (witnessworld.py) out of the Statement's table words and the real class files: 12 classes; the members and pool entries that the words name. The judged class is class 1, her method 2. -/
namespace start1
open Jvm.ClassFile
def u (s : String) : CpInfo := .utf8 (stringToUtf16 s)
/-- a pool by its gaps: so many unusable entries, then the entry; so many at the end -/
def gap : Nat → List CpInfo → List CpInfo
  | 0, r => r
  | n + 1, r => .unusable :: gap n r
def poolList (es : List (Nat × CpInfo)) (last : Nat) : List CpInfo := es.foldr (fun e r => gap e.1 (e.2 :: r)) (gap last [])
def pool (es : List (Nat × CpInfo)) (last : Nat) : Array CpInfo := ⟨poolList es last⟩
def fileOf (pool : Array CpInfo) (this : Nat) (attrs : Array Attribute := #[]) (ms : Array MethodInfo := #[]) (fl : Nat := 33) (sup : Nat := 0) (ifs : Array Nat := #[]) (fds : Array FieldInfo := #[]) : ClassFile where
  minorVersion := 0
  majorVersion := 65
  constantPool := pool
  accessFlags := fl
  thisClass := this
  superClass := sup
  interfaces := ifs
  fields := fds
  methods := ms
  attributes := attrs
def plain (name : String) (sup : Option ClassId) : Class where
  name := name
  kind := .ordinary
  loader := none
  accessFlags := 33
  super := sup
  interfaces := #[]
  cf := none
  fields := #[]
  methods := #[]
  instanceTypes := #[]
  staticTypes := #[]
  resolved := #[]
  callSites := []
  init := .initialized
  statics := none
  mirror := none

def pool0 : Array CpInfo := pool [(5, u "<init>"), (0, u "()V"), (1, .class_ 10), (1, u "java/lang/Object")] 113

def k0m0 : Method := { name := "<init>", desc := "()V", sig := { parameters := [], returnType := none }, accessFlags := 1, code := none }
/-- java/lang/Object -/
def k0 : Class := { plain "java/lang/Object" none with
  accessFlags := 33
  interfaces := #[]
  cf := some (fileOf pool0 8 #[] #[{ accessFlags := 1, nameIndex := 5, descriptorIndex := 6, attributes := #[] }] 33 0 #[] #[])
  fields := #[]
  methods := #[k0m0]
  instanceTypes := #[]
  staticTypes := #[]
  resolved := Array.replicate 124 none
  statics := none }

def pool1 : Array CpInfo := pool [(2, .class_ 4), (1, u "java/lang/Object"), (0, u "<init>"), (0, u "()V"), (0, .fieldref 8 9), (0, .class_ 10), (0, .nameAndType 11 12), (0, u "com/example/kreide/kreide/parser/Type"), (0, u "GANZZAHL"), (0, u "Lcom/example/kreide/kreide/parser/Type;"), (0, .fieldref 8 14), (0, .nameAndType 15 12), (0, u "KOMMAZAHL"), (0, .fieldref 8 17), (0, .nameAndType 18 12), (0, u "WAHRHEITSWERT"), (0, .fieldref 8 20), (0, .nameAndType 21 12), (0, u "ZEICHENKETTE"), (0, .fieldref 8 23), (0, .nameAndType 24 12), (0, u "GANZZAHL_ARRAY"), (0, .fieldref 8 26), (0, .nameAndType 27 12), (0, u "KOMMAZAHL_ARRAY"), (0, .fieldref 8 29), (0, .nameAndType 30 12), (0, u "WAHRHEITSWERT_ARRAY"), (0, .fieldref 8 32), (0, .nameAndType 33 12), (0, u "ZEICHENKETTE_ARRAY"), (0, .methodref 35 36), (0, .class_ 37), (0, .nameAndType 38 39), (0, u "com/example/kreide/kreide/parser/TypeFitsPinLaw"), (0, u "pick"), (0, u "(I)Lcom/example/kreide/kreide/parser/Type;"), (0, .long 9241421688590303747), (1, .methodref 8 43), (0, .nameAndType 44 45), (0, u "fits"), (0, u "(Lcom/example/kreide/kreide/parser/Type;)Z"), (0, u "TABLE"), (0, u "J"), (4, u "law"), (0, u "(II)Z")] 2

def k1m0 : Method := { name := "<init>", desc := "()V", sig := { parameters := [], returnType := none }, accessFlags := 1, code := none }
def k1c1 : Code := { maxStack := 2, maxLocals := 1, code := method_2_code, exceptionTable := #[], attributes := #[] }
def k1m1 : Method := { name := "pick", desc := "(I)Lcom/example/kreide/kreide/parser/Type;", sig := { parameters := [.int], returnType := some (.object "com/example/kreide/kreide/parser/Type") }, accessFlags := 10, code := some k1c1 }
def k1c2 : Code := { maxStack := 4, maxLocals := 7, code := code, exceptionTable := #[], attributes := #[] }
def k1m2 : Method := { name := "law", desc := "(II)Z", sig := { parameters := [.int, .int], returnType := some .boolean }, accessFlags := 9, code := some k1c2 }
/-- com/example/kreide/kreide/parser/TypeFitsPinLaw -/
def k1 : Class := { plain "com/example/kreide/kreide/parser/TypeFitsPinLaw" (some 0) with
  accessFlags := 49
  interfaces := #[]
  cf := some (fileOf pool1 35 #[] #[{ accessFlags := 1, nameIndex := 5, descriptorIndex := 6, attributes := #[] }, { accessFlags := 10, nameIndex := 38, descriptorIndex := 39, attributes := #[] }, { accessFlags := 9, nameIndex := 52, descriptorIndex := 53, attributes := #[] }] 49 2 #[] #[{ accessFlags := 26, nameIndex := 46, descriptorIndex := 47, attributes := #[] }])
  fields := #[{ name := "TABLE", type := .long, accessFlags := 26, slot := 0, constantValue := 0 }]
  methods := #[k1m0, k1m1, k1m2]
  instanceTypes := #[]
  staticTypes := #[.long]
  resolved := Array.replicate 56 none
  statics := none }

def pool2 : Array CpInfo := pool [(1, .class_ 2), (0, u "java/lang/constant/Constable"), (0, .class_ 4), (0, u "java/lang/Object")] 6

/-- java/lang/constant/Constable -/
def k2 : Class := { plain "java/lang/constant/Constable" (some 0) with
  accessFlags := 1537
  interfaces := #[]
  cf := some (fileOf pool2 1 #[] #[] 1537 3 #[] #[])
  fields := #[]
  methods := #[]
  instanceTypes := #[]
  staticTypes := #[]
  resolved := Array.replicate 11 none
  statics := none }

def pool3 : Array CpInfo := pool [(1, .class_ 2), (0, u "java/lang/Comparable"), (0, .class_ 4), (0, u "java/lang/Object")] 7

/-- java/lang/Comparable -/
def k3 : Class := { plain "java/lang/Comparable" (some 0) with
  accessFlags := 1537
  interfaces := #[]
  cf := some (fileOf pool3 1 #[] #[] 1537 3 #[] #[])
  fields := #[]
  methods := #[]
  instanceTypes := #[]
  staticTypes := #[]
  resolved := Array.replicate 12 none
  statics := none }

def pool4 : Array CpInfo := pool [(1, .class_ 2), (0, u "java/io/Serializable"), (0, .class_ 4), (0, u "java/lang/Object")] 2

/-- java/io/Serializable -/
def k4 : Class := { plain "java/io/Serializable" (some 0) with
  accessFlags := 1537
  interfaces := #[]
  cf := some (fileOf pool4 1 #[] #[] 1537 3 #[] #[])
  fields := #[]
  methods := #[]
  instanceTypes := #[]
  staticTypes := #[]
  resolved := Array.replicate 7 none
  statics := none }

def pool5 : Array CpInfo := pool [(2, .class_ 4), (1, u "java/lang/Enum"), (0, u "name"), (0, u "Ljava/lang/String;"), (2, u "ordinal"), (0, u "I"), (1, .class_ 14), (1, u "java/lang/Object"), (4, u "hash"), (86, .class_ 108), (1, u "java/lang/Enum$EnumDesc"), (2, .class_ 112), (0, u "java/lang/constant/Constable"), (0, .class_ 114), (0, u "java/lang/Comparable"), (0, .class_ 116), (0, u "java/io/Serializable")] 87

/-- java/lang/Enum -/
def k5 : Class := { plain "java/lang/Enum" (some 0) with
  accessFlags := 1057
  interfaces := #[2, 3, 4]
  cf := some (fileOf pool5 2 #[.nestMembers #[106]] #[] 1057 12 #[111, 113, 115] #[{ accessFlags := 18, nameIndex := 5, descriptorIndex := 6, attributes := #[] }, { accessFlags := 18, nameIndex := 9, descriptorIndex := 10, attributes := #[] }, { accessFlags := 2, nameIndex := 19, descriptorIndex := 10, attributes := #[] }])
  fields := #[{ name := "name", type := (.object "java/lang/String"), accessFlags := 18, slot := 0, constantValue := 0 }, { name := "ordinal", type := .int, accessFlags := 18, slot := 1, constantValue := 0 }, { name := "hash", type := .int, accessFlags := 2, slot := 2, constantValue := 0 }]
  methods := #[]
  instanceTypes := #[(.object "java/lang/String"), .int, .int]
  staticTypes := #[]
  resolved := Array.replicate 204 none
  statics := none }

def pool6 : Array CpInfo := pool [(1, .class_ 2), (0, u "com/example/kreide/kreide/parser/Type"), (0, .fieldref 1 4), (0, .nameAndType 5 6), (0, u "GANZZAHL"), (0, u "Lcom/example/kreide/kreide/parser/Type;"), (0, .fieldref 1 8), (0, .nameAndType 9 6), (0, u "KOMMAZAHL"), (2, u "WAHRHEITSWERT"), (2, u "ZEICHENKETTE"), (2, u "GANZZAHL_ARRAY"), (2, u "KOMMAZAHL_ARRAY"), (2, u "WAHRHEITSWERT_ARRAY"), (2, u "ZEICHENKETTE_ARRAY"), (2, u "$VALUES"), (0, u "[Lcom/example/kreide/kreide/parser/Type;"), (6, .class_ 40), (1, u "java/lang/Enum"), (8, u "keyword"), (0, u "Ljava/lang/String;"), (2, u "element"), (84, u "fits"), (0, u "(Lcom/example/kreide/kreide/parser/Type;)Z")] 23

def k6c0 : Code := { maxStack := 2, maxLocals := 2, code := prog_119_method_11_code, exceptionTable := #[], attributes := #[] }
def k6m0 : Method := { name := "fits", desc := "(Lcom/example/kreide/kreide/parser/Type;)Z", sig := { parameters := [(.object "com/example/kreide/kreide/parser/Type")], returnType := some .boolean }, accessFlags := 1, code := some k6c0 }
/-- com/example/kreide/kreide/parser/Type -/
def k6 : Class := { plain "com/example/kreide/kreide/parser/Type" (some 5) with
  accessFlags := 16433
  interfaces := #[]
  cf := some (fileOf pool6 1 #[] #[{ accessFlags := 1, nameIndex := 138, descriptorIndex := 139, attributes := #[] }] 16433 38 #[] #[{ accessFlags := 16409, nameIndex := 5, descriptorIndex := 6, attributes := #[] }, { accessFlags := 16409, nameIndex := 9, descriptorIndex := 6, attributes := #[] }, { accessFlags := 16409, nameIndex := 12, descriptorIndex := 6, attributes := #[] }, { accessFlags := 16409, nameIndex := 15, descriptorIndex := 6, attributes := #[] }, { accessFlags := 16409, nameIndex := 18, descriptorIndex := 6, attributes := #[] }, { accessFlags := 16409, nameIndex := 21, descriptorIndex := 6, attributes := #[] }, { accessFlags := 16409, nameIndex := 24, descriptorIndex := 6, attributes := #[] }, { accessFlags := 16409, nameIndex := 27, descriptorIndex := 6, attributes := #[] }, { accessFlags := 18, nameIndex := 49, descriptorIndex := 50, attributes := #[] }, { accessFlags := 18, nameIndex := 53, descriptorIndex := 6, attributes := #[] }, { accessFlags := 4122, nameIndex := 30, descriptorIndex := 31, attributes := #[] }])
  fields := #[{ name := "GANZZAHL", type := (.object "com/example/kreide/kreide/parser/Type"), accessFlags := 16409, slot := 0, constantValue := 0 }, { name := "KOMMAZAHL", type := (.object "com/example/kreide/kreide/parser/Type"), accessFlags := 16409, slot := 1, constantValue := 0 }, { name := "WAHRHEITSWERT", type := (.object "com/example/kreide/kreide/parser/Type"), accessFlags := 16409, slot := 2, constantValue := 0 }, { name := "ZEICHENKETTE", type := (.object "com/example/kreide/kreide/parser/Type"), accessFlags := 16409, slot := 3, constantValue := 0 }, { name := "GANZZAHL_ARRAY", type := (.object "com/example/kreide/kreide/parser/Type"), accessFlags := 16409, slot := 4, constantValue := 0 }, { name := "KOMMAZAHL_ARRAY", type := (.object "com/example/kreide/kreide/parser/Type"), accessFlags := 16409, slot := 5, constantValue := 0 }, { name := "WAHRHEITSWERT_ARRAY", type := (.object "com/example/kreide/kreide/parser/Type"), accessFlags := 16409, slot := 6, constantValue := 0 }, { name := "ZEICHENKETTE_ARRAY", type := (.object "com/example/kreide/kreide/parser/Type"), accessFlags := 16409, slot := 7, constantValue := 0 }, { name := "keyword", type := (.object "java/lang/String"), accessFlags := 18, slot := 3, constantValue := 0 }, { name := "element", type := (.object "com/example/kreide/kreide/parser/Type"), accessFlags := 18, slot := 4, constantValue := 0 }, { name := "$VALUES", type := (.array (.object "com/example/kreide/kreide/parser/Type")), accessFlags := 4122, slot := 8, constantValue := 0 }]
  methods := #[k6m0]
  instanceTypes := #[(.object "java/lang/String"), .int, .int, (.object "java/lang/String"), (.object "com/example/kreide/kreide/parser/Type")]
  staticTypes := #[(.object "com/example/kreide/kreide/parser/Type"), (.object "com/example/kreide/kreide/parser/Type"), (.object "com/example/kreide/kreide/parser/Type"), (.object "com/example/kreide/kreide/parser/Type"), (.object "com/example/kreide/kreide/parser/Type"), (.object "com/example/kreide/kreide/parser/Type"), (.object "com/example/kreide/kreide/parser/Type"), (.object "com/example/kreide/kreide/parser/Type"), (.array (.object "com/example/kreide/kreide/parser/Type"))]
  resolved := Array.replicate 163 none
  statics := some 0 }

def pool7 : Array CpInfo := pool [(1, u "java/lang/Cloneable"), (0, .class_ 1), (0, u "java/lang/Object"), (0, .class_ 3)] 3

/-- java/lang/Cloneable -/
def k7 : Class := { plain "java/lang/Cloneable" (some 0) with
  accessFlags := 1537
  interfaces := #[]
  cf := some (fileOf pool7 2 #[] #[] 1537 4 #[] #[])
  fields := #[]
  methods := #[]
  instanceTypes := #[]
  staticTypes := #[]
  resolved := Array.replicate 8 none
  statics := none }

/-- the primitive byte -/
def k8 : Class := { plain "byte" none with kind := .primitive 'B', accessFlags := 0x411 }
/-- [B -/
def k9 : Class := { plain "[B" (some 0) with kind := .array 8 .byte, interfaces := #[7, 4], accessFlags := 1041 }

/-- the primitive int -/
def k10 : Class := { plain "int" none with kind := .primitive 'I', accessFlags := 0x411 }
/-- [I -/
def k11 : Class := { plain "[I" (some 0) with kind := .array 10 .int, interfaces := #[7, 4], accessFlags := 1041 }

def heap : Heap := #[{ cls := 6, slots := #[.ref 1, .ref 2, .ref 3, .ref 4, .ref 5, .ref 6, .ref 7, .ref 8, .null], vm := .statics 6 },
  { cls := 6, slots := #[.null, .int 0, .int 0, .null, .null], vm := .none },
  { cls := 6, slots := #[.null, .int 1, .int 0, .null, .null], vm := .none },
  { cls := 6, slots := #[.null, .int 2, .int 0, .null, .null], vm := .none },
  { cls := 6, slots := #[.null, .int 3, .int 0, .null, .null], vm := .none },
  { cls := 6, slots := #[.null, .int 4, .int 0, .null, .null], vm := .none },
  { cls := 6, slots := #[.null, .int 5, .int 0, .null, .null], vm := .none },
  { cls := 6, slots := #[.null, .int 6, .int 0, .null, .null], vm := .none },
  { cls := 6, slots := #[.null, .int 7, .int 0, .null, .null], vm := .none }]
def classes : Array Class := #[k0, k1, k2, k3, k4, k5, k6, k7, k8, k9, k10, k11]
def interned : List (Array UInt16 × Addr) := []
def slotsUsed : Nat := 49
def theMethod : MethodId := ⟨1, 2⟩
def args0 : Array Value := #[.int 5, .int 5]
def aboutOver (below : List Frame) : State where
  vm := { classes := classes, interned := interned.toArray }
  heap := heap
  slotsUsed := slotsUsed
  threads := #[{ frames := .invoking theMethod args0 :: below }]
def below0 : List Frame := [.native { method := ⟨0, 0⟩, args := #[] }]
def about1 : State := aboutOver below0
def p0 : Program := .bare "" "" ""
def e0 : Env := launch0.env 0 0 0
theorem w_frames : about1.frames = Frame.invoking theMethod args0 :: below0 := rfl
set_option maxRecDepth 65536 in
theorem w_args : argsFit about1.vm theMethod args0 = true := by decide +kernel
set_option maxRecDepth 65536 in
theorem w_heap : heapFits about1 = true := by decide +kernel
set_option maxRecDepth 65536 in
theorem w_runnable : about1.curStatus? = some .runnable := by decide +kernel
set_option maxRecDepth 65536 in
theorem w_alone : about1.alone = true := by decide +kernel
set_option maxRecDepth 65536 in
theorem w_named : about1.methodNamed? x = some theMethod := by decide +kernel
set_option maxRecDepth 65536 in
theorem w_hears : about1.hears theMethod below0 = true := by decide +kernel
set_option maxRecDepth 65536 in
theorem w_ripe : about1.ripe theMethod args0 below0 = true := by decide +kernel
theorem w_running : about1.status = .running := rfl
set_option maxRecDepth 65536 in
theorem w_room : about1.hasRoom e0.platform room_1 = true :=
  launch0.hasRoom_least _ room_1 (by decide +kernel) (by decide +kernel) (by decide +kernel) (by decide +kernel) (by decide +kernel) (by decide +kernel)
theorem allAtoms_all (ts : List Jvm.Cond) (a : Array Jvm.Value) (st : Jvm.State) : (allAtoms ts).before a st = ts.all (fun c => c.before a st) := by
  induction ts with
  | nil => rfl
  | cons c t ih =>
    show (Jvm.Cond.and c (allAtoms t)).before a st = _
    rw [Jvm.Cond.before_and, ih, List.all_cons]
def words1 : List Jvm.Cond := Jvm.Cond.code x code maxLocals ret :: tables_1
/-- a 'code' word, met by the world's own term for the bytes: nothing is compared byte by byte -/
theorem code_word {y : MethodName} {bytes : ByteArray} {mx : Nat} {rt : Option FieldType} {a : Array Value} {s : State} {m : MethodId} {meth : Method} {c : Code} (h1 : s.methodNamed? y = some m) (h2 : s.vm.method? m = some meth) (h3 : meth.code = some c) (h4 : c.code = bytes)
    (h5 : (c.maxLocals == mx && c.exceptionTable.isEmpty && decide (c.maxStack ≤ mostOperands) && decide (meth.sig.returnType = rt) && !meth.locks && decide (parseMethodDescriptor y.desc = some meth.sig)) = true) : (Jvm.Cond.code y bytes mx rt).before a s = true := by
  simp only [Bool.and_eq_true, beq_iff_eq, Bool.not_eq_true', decide_eq_true_eq] at h5
  obtain ⟨⟨⟨⟨⟨g1, g2⟩, g3⟩, g4⟩, g5⟩, g6⟩ := h5
  simp [Cond.before, Cond.holds, Cond.value, h1, h2, h3, h4, g1, g2, g3, g4, g5, g6]
def isCode : Jvm.Cond → Bool
  | .code _ _ _ _ => true
  | _ => false
theorem all_split {L : List Jvm.Cond} {P : Jvm.Cond → Bool} (h1 : L.all (fun c => isCode c || P c) = true) (h2 : ∀ c ∈ L.filter isCode, P c = true) : L.all P = true := by
  refine List.all_eq_true.mpr fun c hc => ?_
  have h := List.all_eq_true.mp h1 c hc
  rcases Bool.eq_false_or_eq_true (isCode c) with hi | hi
  · exact h2 c (List.mem_filter.mpr ⟨hc, hi⟩)
  · simpa [hi] using h
set_option maxRecDepth 65536 in
theorem w_c0 : (Jvm.Cond.code x code maxLocals ret).before args0 about1 = true := code_word (m := ⟨1, 2⟩) (meth := k1m2) (c := k1c2) (by decide +kernel) rfl rfl rfl (by decide +kernel)
set_option maxRecDepth 65536 in
theorem w_c1 : (Jvm.Cond.code ({ cls := "com/example/kreide/kreide/parser/TypeFitsPinLaw", name := "pick", desc := "(I)Lcom/example/kreide/kreide/parser/Type;" } : Jvm.MethodName) method_2_code (1 : Nat) (Option.some (Jvm.ClassFile.FieldType.object "com/example/kreide/kreide/parser/Type"))).before args0 about1 = true := code_word (m := ⟨1, 1⟩) (meth := k1m1) (c := k1c1) (by decide +kernel) rfl rfl rfl (by decide +kernel)
set_option maxRecDepth 65536 in
theorem w_c2 : (Jvm.Cond.code ({ cls := "com/example/kreide/kreide/parser/Type", name := "fits", desc := "(Lcom/example/kreide/kreide/parser/Type;)Z" } : Jvm.MethodName) prog_119_method_11_code (2 : Nat) (Option.some Jvm.ClassFile.FieldType.boolean)).before args0 about1 = true := code_word (m := ⟨6, 0⟩) (meth := k6m0) (c := k6c0) (by decide +kernel) rfl rfl rfl (by decide +kernel)
def codes1 : List Jvm.Cond := [Jvm.Cond.code x code maxLocals ret, Jvm.Cond.code ({ cls := "com/example/kreide/kreide/parser/TypeFitsPinLaw", name := "pick", desc := "(I)Lcom/example/kreide/kreide/parser/Type;" } : Jvm.MethodName) method_2_code (1 : Nat) (Option.some (Jvm.ClassFile.FieldType.object "com/example/kreide/kreide/parser/Type")), Jvm.Cond.code ({ cls := "com/example/kreide/kreide/parser/Type", name := "fits", desc := "(Lcom/example/kreide/kreide/parser/Type;)Z" } : Jvm.MethodName) prog_119_method_11_code (2 : Nat) (Option.some Jvm.ClassFile.FieldType.boolean)]
set_option maxRecDepth 65536 in
theorem codes_eq : words1.filter isCode = codes1 := rfl
theorem w_codes : ∀ c ∈ words1.filter isCode, c.before args0 about1 = true := by
  rw [codes_eq]
  intro c hc
  simp only [codes1, List.mem_cons, List.not_mem_nil, or_false] at hc
  rcases hc with rfl | rfl | rfl
  · exact w_c0
  · exact w_c1
  · exact w_c2
set_option maxRecDepth 65536 in
theorem w_t1 : (words1.take 24).all (fun c => isCode c || c.before args0 about1) = true := by decide +kernel
set_option maxRecDepth 65536 in
theorem w_t2 : (words1.drop 24).all (fun c => isCode c || c.before args0 about1) = true := by decide +kernel
theorem w_tables : (allAtoms (Jvm.Cond.code x code maxLocals ret :: tables_1)).before args0 about1 = true := by
  rw [allAtoms_all]
  show words1.all (fun c => c.before args0 about1) = true
  refine all_split ?_ w_codes
  rw [← List.take_append_drop 24 words1, List.all_append, w_t1, w_t2]
  rfl
set_option maxRecDepth 65536 in
theorem w_case : (Jvm.Cond.and given_1 narrow_1).before args0 about1 = true := by decide +kernel
theorem w_applies : (headSpec (Jvm.Cond.code x code maxLocals ret :: tables_1) room_1).applies x e0.platform about1 = true :=
  (Spec.applies_iff w_frames).mpr ⟨w_running, w_runnable, w_alone, w_named, w_hears, w_ripe, w_room, w_tables⟩
theorem atStart : AtStart classFile x code maxLocals ret World_1 tables_1 room_1 Calls_1 rest_1 Pre_1 launch0 p0 e0 about1 theMethod args0 below0 :=
  ⟨lists_1, trivial, launch0.admits_env _ _ _, launch0.least_env, fairChoices_fair.cas, fairChoices_fair.clock, w_frames, w_args, w_heap, w_applies, trivial, trivial, w_case⟩
end start1
theorem witness_1 : WitnessClaimed_1 := ⟨start1.p0, start1.e0, start1.about1, start1.theMethod, start1.args0, start1.below0, start1.atStart⟩
end Jvm.Pilot.@@N@@
