import JvmDerived
import JvmDerived.Pilot.@@N@@Statement
import JvmDerived.Pilot.@@N@@Code
set_option linter.unusedVariables false
set_option linter.unusedSimpArgs false
namespace Jvm.Pilot.@@N@@
open Jvm Jvm.ClassFile Sem Op Lib Jvm.Free Jvm.Stand Jvm.LawKit Jvm.RoadKit Bundle Jvm.Pilot.@@N@@.Jvm.D
section OwnKit
variable {p : Program} {l : Launch} {e : Env} {R : Room} {s : State} {m : MethodId} {args : Array Value} {below : List Frame} {meth : Method} {c : Code} {T T' : State} {locs : List Loc} {cells slots : Nat}
/-- from the frame f in the state T the run comes to the method's end, and G holds there -/
def own_Goes (p : Program) (e : Env) (below : List Frame) (G : Outcome → State → Prop) (T : State) (f : JFrame) : Prop :=
  ∃ s₂ o, Steps p.tables e below (T.setTop f) s₂ ∧ s₂.status = .running ∧ Ended s₂ below o ∧ G o s₂
theorem own_of {G : Outcome → State → Prop} {f f' : JFrame} (st : ∀ t, Steps p.tables e below (T'.setTop f') t → Steps p.tables e below (T.setTop f) t) (h : own_Goes p e below G T' f') : own_Goes p e below G T f := by
  obtain ⟨s₂, o, h1, h2⟩ := h
  exact ⟨s₂, o, st _ h1, h2⟩
theorem own_start {G : Outcome → State → Prop} {f f' : JFrame} (q : f = f') (h : own_Goes p e below G T f') : ∃ s₂ o, Steps p.tables e below (T.setTop f) s₂ ∧ s₂.status = .running ∧ Ended s₂ below o ∧ G o s₂ := q ▸ h
theorem own_retI (X : Stand p l e R s m args below meth c T locs cells slots) (hx : p.tables.exec = Jvm.exec) {pc : Nat} {Ls : Array Slot} {z : Int32} {rest : List Value} (hret : meth.sig.returnType = some .int) (hd : decode c.code pc = .ok (.ireturn, 1)) {fs : List Frame}
    (hl : ∀ (f : JFrame) (acts : List Action), f.method = m → f.locked = none → f.entered = [] → (doReturn e (T.setTop f) acts (some (.int z))).1 = T.setFrames fs) : Steps p.tables e below (T.setTop (mkF m pc Ls (.int z :: rest))) (T.setFrames fs) :=
  retOut X hx hret rfl (Or.inl ⟨rfl, Or.inl rfl, _, rfl⟩) hd hl
theorem own_retJ (X : Stand p l e R s m args below meth c T locs cells slots) (hx : p.tables.exec = Jvm.exec) {pc : Nat} {Ls : Array Slot} {z : Int64} {rest : List Value} (hret : meth.sig.returnType = some .long) (hd : decode c.code pc = .ok (.lreturn, 1)) {fs : List Frame}
    (hl : ∀ (f : JFrame) (acts : List Action), f.method = m → f.locked = none → f.entered = [] → (doReturn e (T.setTop f) acts (some (.long z))).1 = T.setFrames fs) : Steps p.tables e below (T.setTop (mkF m pc Ls (.long z :: rest))) (T.setFrames fs) :=
  retOut X hx hret rfl (Or.inr (Or.inl ⟨rfl, rfl, _, rfl⟩)) hd hl
theorem own_retD (X : Stand p l e R s m args below meth c T locs cells slots) (hx : p.tables.exec = Jvm.exec) {pc : Nat} {Ls : Array Slot} {z : UInt64} {rest : List Value} (hret : meth.sig.returnType = some .double) (hd : decode c.code pc = .ok (.dreturn, 1)) {fs : List Frame}
    (hl : ∀ (f : JFrame) (acts : List Action), f.method = m → f.locked = none → f.entered = [] → (doReturn e (T.setTop f) acts (some (.double z))).1 = T.setFrames fs) : Steps p.tables e below (T.setTop (mkF m pc Ls (.double z :: rest))) (T.setFrames fs) :=
  retOut X hx hret rfl (Or.inr (Or.inr (Or.inl ⟨rfl, rfl, _, rfl⟩))) hd hl
theorem own_retA (X : Stand p l e R s m args below meth c T locs cells slots) (hx : p.tables.exec = Jvm.exec) {pc : Nat} {Ls : Array Slot} {z : Value} {rest : List Value} {t : FieldType} (hret : meth.sig.returnType = some t) (ht : t.isReference = true) (hn : narrow t z = z) (hz : z.isRef = true) (hd : decode c.code pc = .ok (.areturn, 1)) {fs : List Frame}
    (hl : ∀ (f : JFrame) (acts : List Action), f.method = m → f.locked = none → f.entered = [] → (doReturn e (T.setTop f) acts (some z)).1 = T.setFrames fs) : Steps p.tables e below (T.setTop (mkF m pc Ls (z :: rest))) (T.setFrames fs) :=
  retOut X hx hret hn (Or.inr (Or.inr (Or.inr (Or.inr ⟨rfl, ht, hz⟩)))) hd hl
theorem own_stakeep {Z : State} {h h' : Heap} {C n d : String} {v : Value} {ws : List Addr} (F : Sta Z h C n d v) (K : Keep h h' ws) (q : ∀ x ∈ ws, ∀ cell : Cell, h[x]? = some cell → cell.vm.isStatics = false) : Sta Z h' C n d v := by
  obtain ⟨cf, i, k, f, st, cell, h1, h2, h3, h4, h5, h6, h7⟩ := F
  exact ⟨cf, i, k, f, st, cell, h1, h2, h3, h4, K.2.1 st cell h5 (fun z => by rw [q st z cell h5] at h6; cases h6), h6, h7⟩
theorem own_plainE {Z : State} {h : Heap} {a : Addr} {C : String} (F : Exa Z h a C) : ∀ cell : Cell, h[a]? = some cell → cell.vm.isStatics = false := fun cell hc => by
  obtain ⟨c', k, h1, -, -, h4, -⟩ := F
  cases h1.symm.trans hc
  exact h4
theorem own_noI {Z : State} {a0 : Array Value} {C K O : String} {n : Nat} (w : (Jvm.Cond.superclass C O).before a0 Z = true) (wo : (Jvm.Cond.noSuperclass O).before a0 Z = true) (wi : (Jvm.Cond.instantiable K n).before a0 Z = true) (hn : C ≠ K) (ho : O ≠ K) : ∃ c t, Z.vm.findClass C = some c ∧ Z.vm.findClass K = some t ∧ Z.vm.assignable c t = false := by
  obtain ⟨t, kt, g0, g2, g5, g7, -, -⟩ := Cond.instantiable_spec wi
  simp only [Bool.or_eq_false_iff] at g7
  obtain ⟨oc, ok, o1, o2, o3, -, -⟩ := Cond.noSuperclass_spec wo
  obtain ⟨c, h0⟩ := found_sup w
  obtain ⟨p, k, kp, h1, h2, h3, h4, h5, -, h7⟩ := Cond.superclass_spec h0 w
  cases o1.symm.trans h1
  have ne := ids_ne h0 g0 hn
  have neo := ids_ne o1 g0 ho
  have n3 : ∀ fuel, Z.vm.isSubclassAux fuel c t = false := fun fuel => by
    cases fuel with
    | zero => rfl
    | succ f =>
      have n4 : Z.vm.isSubclassAux f oc t = false := by
        cases f with
        | zero => rfl
        | succ f => simp [Vm.isSubclassAux, neo, o2, o3]
      simp [Vm.isSubclassAux, ne, h2, h4, n4]
  refine ⟨c, t, h0, g0, ?_⟩
  show Z.vm.assignableAux (255 + 1) c t = false
  simp [Vm.assignableAux, ne, h2, g2, h5, g5, g7, Vm.isSubclass, n3]
theorem own_ask {Z : State} {a0 : Array Value} {h : Heap} {a : Addr} {C K : String} (E : Exa Z h a C) (w : (Jvm.Cond.castable K K).before a0 Z = true) : Ins Z h a K true ∨ ∃ c t, Z.vm.findClass C = some c ∧ Z.vm.findClass K = some t ∧ Z.vm.assignable c t = false := by
  obtain ⟨cell, k, h1, h2, h3, h4, -⟩ := E
  cases ht : Z.vm.findClass K with
  | none => simp [Cond.before, Cond.holds, Cond.value, ht] at w
  | some t =>
    cases ha : Z.vm.assignable cell.cls t with
    | true => exact Or.inl ⟨cell, t, h1, ht, by rw [h4, ha]; rfl⟩
    | false => exact Or.inr ⟨cell.cls, t, h2, rfl, ha⟩
theorem own_dupX2 {tb : Tables} [Ours tb] {e : Env} {below : List Frame} {T target : State} {m : MethodId} {c : Code} {g : JFrame} (h : At T m c below) (hx : tb.exec = Jvm.exec) (hg : g.method = m) {x y z : Value} {rest : List Value} (hd : decode c.code g.pc = .ok (.dup_x2, 1)) (hs : g.stack = x :: y :: z :: rest) (hc : x.category = 1) (hc' : y.category = 1) (hc'' : z.category = 1)
    (hr : Steps tb e below (T.setTop { g with pc := g.pc + 1, stack := x :: y :: z :: x :: rest }) target) : Steps tb e below (T.setTop g) target := by
  subst hg
  jvm_step h [h.top, hx, hd, hs, hc, hc', hc'']
  exact hr
theorem own_dz : FP.dconst0 = FP.l2d 0 := by decide +kernel
theorem own_cat1 {x : Value} (h : x.isRef = true) : x.category = 1 := by cases x <;> first | rfl | cases h
theorem own_astoreN {tb : Tables} [Ours tb] {e : Env} {below : List Frame} {T target : State} {m : MethodId} {c : Code} {g : JFrame} (h : At T m c below) (hx : tb.exec = Jvm.exec) (hg : g.method = m) {k : Fin 4} {x : Value} {rest : List Value} {o : Slot} {l' : Array Slot} (hd : decode c.code g.pc = .ok (.astore_n k, 1)) (hs : g.stack = x :: rest) (hv : x.isRef = true) (hold : g.locals[k.val]? = some o) (ho : One o) (hl : g.locals.setIfInBounds k.val (.val x) = l')
    (hr : Steps tb e below (T.setTop { g with pc := g.pc + 1, stack := rest, locals := l' }) target) : Steps tb e below (T.setTop g) target := XS.astoreN h hx hg hd hs hv (l' := l') (by rw [← hl]; exact XS.store1 hold ho (own_cat1 hv)) hr
theorem own_astore {tb : Tables} [Ours tb] {e : Env} {below : List Frame} {T target : State} {m : MethodId} {c : Code} {g : JFrame} (h : At T m c below) (hx : tb.exec = Jvm.exec) (hg : g.method = m) {k : Nat} {x : Value} {rest : List Value} {o : Slot} {l' : Array Slot} (hd : decode c.code g.pc = .ok (.astore k, 2)) (hs : g.stack = x :: rest) (hv : x.isRef = true) (hold : g.locals[k]? = some o) (ho : One o) (hl : g.locals.setIfInBounds k (.val x) = l')
    (hr : Steps tb e below (T.setTop { g with pc := g.pc + 2, stack := rest, locals := l' }) target) : Steps tb e below (T.setTop g) target := XS.astore h hx hg hd hs hv (l' := l') (by rw [← hl]; exact XS.store1 hold ho (own_cat1 hv)) hr
end OwnKit
theorem own_pn_0 : plainName "com/example/orunmila/orunmila/simulate/Returns" = true := by first | (simp [plainName, overriddenIn]; done) | decide +kernel
theorem own_ef_init (m : MethodId) (a1 : Addr) (a2 : Addr) : entryFrame m #[(.ref a1), (.ref a2)] 2 = mkF m 0 #[.val (.ref a1), .val (.ref a2)] [] := by first | (simp [entryFrame, mkF, argsToLocals, Value.category]; done) | rfl
def own_Q_init (Z : State) (a1 : Addr) (a2 : Addr) (k : ClassId) (z : Int32) (vs : List Value) (h0 : Heap) (n0 : Nat) (v : Option Value) (h : Heap) (L : List Loc) : Prop := v = none ∧ Fr n0 L ∧ Keep h0 h [a1] ∧ Exa Z h a1 "com/example/orunmila/orunmila/simulate/Returns" ∧ ∃ b, Fld Z h a1 "com/example/orunmila/orunmila/simulate/Returns" "m_aReturns" "[D" (.ref b) ∧ Arv Z h b k .double z vs (.double (FP.l2d 0))
theorem own_d_prog_70_method_1_code_0 : decode prog_70_method_1_code 0 = .ok (.aload_n 0, 1) := by decide +kernel
theorem own_d_prog_70_method_1_code_1 : decode prog_70_method_1_code 1 = .ok (.invokespecial 1, 3) := by decide +kernel
theorem own_d_prog_70_method_1_code_4 : decode prog_70_method_1_code 4 = .ok (.aload_n 1, 1) := by decide +kernel
theorem own_d_prog_70_method_1_code_5 : decode prog_70_method_1_code 5 = .ok (.arraylength, 1) := by decide +kernel
theorem own_d_prog_70_method_1_code_6 : decode prog_70_method_1_code 6 = .ok (.iconst 2, 1) := by decide +kernel
theorem own_d_prog_70_method_1_code_7 : decode prog_70_method_1_code 7 = .ok (.if_icmp .ge 18, 3) := by decide +kernel
theorem own_d_prog_70_method_1_code_25 : decode prog_70_method_1_code 25 = .ok (.aload_n 0, 1) := by decide +kernel
theorem own_d_prog_70_method_1_code_26 : decode prog_70_method_1_code 26 = .ok (.aload_n 1, 1) := by decide +kernel
theorem own_d_prog_70_method_1_code_27 : decode prog_70_method_1_code 27 = .ok (.invokevirtual 16, 3) := by decide +kernel
theorem own_d_prog_70_method_1_code_30 : decode prog_70_method_1_code 30 = .ok (.checkcast 17, 3) := by decide +kernel
theorem own_d_prog_70_method_1_code_33 : decode prog_70_method_1_code 33 = .ok (.putfield 22, 3) := by decide +kernel
theorem own_d_prog_70_method_1_code_36 : decode prog_70_method_1_code 36 = .ok (.return_, 1) := by decide +kernel
set_option maxRecDepth 65536 in
set_option maxHeartbeats 40000000 in
theorem own_rm_init (l : Launch) (Z : State) (a0 : Array Value) (hw : ∀ d ∈ tables_1, d.before a0 Z = true) (ws : List Jvm.Cond) (a1 : Addr) (a2 : Addr) (k : ClassId) (z : Int32) (vs : List Value) (h0 : Heap) (n0 : Nat) (Z0 : n0 ≤ h0.size) (F1 : Fld Z h0 a1 "com/example/orunmila/orunmila/simulate/Returns" "m_aReturns" "[D" .null) (E1 : Exa Z h0 a1 "com/example/orunmila/orunmila/simulate/Returns") (g_a1 : n0 ≤ a1) (V2 : Arv Z h0 a2 k .double z vs (.double (FP.l2d 0))) (E2 : Exa Z h0 a2 "[D") (hz : ¬ z < (2 : Int32)) (hz5 : z.toNatClampNeg ≤ 5) :
    MetFree l (⟨"com/example/orunmila/orunmila/simulate/Returns", "<init>", "([D)V"⟩ : MethodName) (head1 (Jvm.Cond.code (⟨"com/example/orunmila/orunmila/simulate/Returns", "<init>", "([D)V"⟩ : MethodName) prog_70_method_1_code 2 none :: ws) ({ frames := 1, cells := 1, slots := 5, locals := 15 } : Room)) (fun a U => a = #[(.ref a1), (.ref a2)] ∧ Z.Warmed39 U.vm ∧ U.heap = h0) (fun _ _ _ _ _ => True) (fun _ U o U' => ∃ v L, o = .returned v ∧ own_Q_init Z a1 a2 k z vs h0 n0 v U'.heap L ∧ FrameEnd U o U' L ({ frames := 1, cells := 1, slots := 5, locals := 15 } : Room).cells ({ frames := 1, cells := 1, slots := 5, locals := 15 } : Room).slots) := by
  refine MetFree.of_bodySF (plainFor_of_name own_pn_0) hisR ?_
  intro p e s m args below meth c s₁ Bd hml0 hP hK
  obtain ⟨rfl, hZ, hh⟩ := hP
  have hx := Bd.exec
  have hby := Bd.bytes
  have hml : c.maxLocals = 2 := hml0
  have hown : s.vm.findClass "com/example/orunmila/orunmila/simulate/Returns" = some m.cls := findClass_of_methodNamed Bd.named
  have hnm := (name_of_methodNamed Bd.named Bd.method).1
  have X0 : Stand p l e ({ frames := 1, cells := 1, slots := 5, locals := 15 } : Room) s m #[(.ref a1), (.ref a2)] below meth c s₁ [] 0 0 := Stand.of_body Bd
  have e0 : s₁.heap = h0 := by rw [← hh, Bd.state]; rfl
  have N0 := Fr.nil n0
  refine own_start (own_ef_init m a1 a2) ?_
  have K0 : Keep h0 h0 [a1] := Keep.refl _ _
  obtain ⟨T1, X1, e1, st1⟩ := initO X0 hx hZ hown (hw _ (List.mem_of_getElem? (i := 7) rfl)) (hw _ (List.mem_of_getElem? (i := 8) rfl)) (hw _ (List.mem_of_getElem? (i := 9) rfl)) e0 (g := (mkF m 1 #[.val (.ref a1), .val (.ref a2)] [(.ref a1)])) rfl (by rw [hml]; rfl) rfl (Jvm.hb hby own_d_prog_70_method_1_code_1) (by decide) (W := 0) (by show 2 * 0 + _ ≤ _; exact Nat.le_of_eq rfl) (by decide)
  refine own_of (T' := T1) (f' := (mkF m 5 #[.val (.ref a1), .val (.ref a2)] [(.ref a2)])) (fun t_ k_ => (XS.aloadN X0.here hx rfl (Jvm.hb hby own_d_prog_70_method_1_code_0) rfl rfl (st1 _ (XS.aloadN X1.here hx rfl (Jvm.hb hby own_d_prog_70_method_1_code_4) rfl rfl k_)))) ?_
  obtain ⟨clz, Arz, -, Szz, Nnz, -⟩ := id V2
  refine own_of (T' := T1) (f' := (mkF m 6 #[.val (.ref a1), .val (.ref a2)] [(.int (clz.slots.size).toInt32)])) (fun t_ k_ => (X1.arraylength hx (by rw [e1]; exact Arz.1) (State.isArrayOf_alike hZ.alike Arz.2.1) (g := (mkF m 5 #[.val (.ref a1), .val (.ref a2)] [(.ref a2)])) rfl rfl (Jvm.hb hby own_d_prog_70_method_1_code_5) _ k_)) ?_
  rw [len_of Szz Nnz]
  refine own_of (T' := T1) (f' := (mkF m 27 #[.val (.ref a1), .val (.ref a2)] [(.ref a2), (.ref a1)])) (fun t_ k_ => (XS.iconst X1.here hx rfl (Jvm.hb hby own_d_prog_70_method_1_code_6) (XS.icmpYes X1.here hx rfl (pc0 := 7) (pc' := 25) rfl (Jvm.hb hby own_d_prog_70_method_1_code_7) rfl (flt hz).2.1 (by decide) (by decide) (XS.aloadN X1.here hx rfl (Jvm.hb hby own_d_prog_70_method_1_code_25) rfl rfl (XS.aloadN X1.here hx rfl (Jvm.hb hby own_d_prog_70_method_1_code_26) rfl rfl k_))))) ?_
  obtain ⟨T2, h2, X2, e2, E2, A2, Ex2, st2⟩ := cloneH X1 hx hZ hown (hw _ (List.mem_of_getElem? (i := 10) rfl)) (hw _ (List.mem_of_getElem? (i := 11) rfl)) (hw _ (List.mem_of_getElem? (i := 15) rfl)) (hw _ (List.mem_of_getElem? (i := 13) rfl)) (hw _ (List.mem_of_getElem? (i := 14) rfl)) (hw _ (List.mem_of_getElem? (i := 16) rfl)) e1 (hs := []) V2 E2 (g := (mkF m 27 #[.val (.ref a1), .val (.ref a2)] [(.ref a2), (.ref a1)])) rfl (by rw [hml]; rfl) rfl (Jvm.hb hby own_d_prog_70_method_1_code_27) (by decide) (W := 1) (cap := 5) (by show 2 * 0 + _ ≤ _; exact Nat.le_of_eq rfl) (by decide) hz5 (by decide) (by decide)
  obtain ⟨b, g2⟩ : ∃ z, z = h0.size := ⟨_, rfl⟩
  rw [← g2] at A2 Ex2 st2
  have ne_a1_b : a1 ≠ b := by rw [g2]; exact Nat.ne_of_lt E1.lt
  have g_b : n0 ≤ b := Nat.le_trans Z0 (Nat.le_of_eq g2.symm)
  have sz_b : h0.size ≤ b := Nat.le_trans K0.1 (Nat.le_of_eq g2.symm)
  have f3 := K0.ext E2
  have f4 := Nat.le_trans Z0 E2.1
  have f5 := E1.ext E2
  have f6 := F1.ext E2
  have Vb : Arv Z h2 b k .double z vs (.double (FP.l2d 0)) := A2
  obtain ⟨T7, X7, e7, st7⟩ := castY X2 hx hZ hown (hw _ (List.mem_of_getElem? (i := 17) rfl)) e2 (Ins.self Ex2) (g := (mkF m 30 #[.val (.ref a1), .val (.ref a2)] [(.ref b), (.ref a1)])) rfl rfl (Jvm.hb hby own_d_prog_70_method_1_code_30)
  obtain ⟨T8, h8, X8, e8, W8, st8⟩ := putF X7 hx hZ hown (host := "") (Or.inl (hw _ (List.mem_of_getElem? (i := 19) rfl))) Via.refl e7 f6 f5 (Or.inr ⟨(hw _ (List.mem_of_getElem? (i := 20) rfl)), rfl, hnm⟩) (hw _ (List.mem_of_getElem? (i := 2) rfl)) (ty := (.array .double)) (by decide) rfl rfl (g := (mkF m 33 #[.val (.ref a1), .val (.ref a2)] [(.ref b), (.ref a1)])) rfl rfl (Jvm.hb hby own_d_prog_70_method_1_code_33)
  refine own_of (T' := T8) (f' := (mkF m 36 #[.val (.ref a1), .val (.ref a2)] [])) (fun t_ k_ => (st2 _ (st7 _ (st8 _ k_)))) ?_
  have N8 := Fr.snoc X8 N0 g_a1
  have f9 := f3.wr W8 (Or.inl (List.mem_of_getElem? (i := 0) rfl))
  have f10 := Nat.le_trans f4 (Keep.of_wr W8).1
  have f11 := f5.wr W8
  have f12 := f6.same W8
  have f13 := Ex2.wr W8
  have f14 := Vb.other W8 (Ne.symm ne_a1_b)
  obtain ⟨fs, hr, hrun, hended, hW, hsame⟩ := X8.leave (v := none) (fun _ => rfl)
  exact ⟨_, _, X8.returnOut hx Bd.returns (Jvm.hb hby own_d_prog_70_method_1_code_36) hr, hrun, hended, _, _, rfl, (by show own_Q_init Z a1 a2 k z vs h0 n0 _ T8.heap _; rw [e8]; exact ⟨rfl, N8, f9, f11, b, f12, f14⟩), ⟨_, rfl⟩, hW, hsame.mono (by decide) (by decide)⟩
def own_In (x : Int64) : Prop := -2147483648 ≤ x.toInt ∧ x.toInt < 2147483648
theorem own_in (x : Int32) : own_In x.toInt64 := by
  have e := c_i2l x
  have r := rng32 x
  unfold own_In
  omega
theorem own_nn (S : Int64) (n : Int32) (h : Jvm.Free.Fl.Nz64 (FP.l2d n.toInt64)) : Jvm.Free.Fl.NoNaN64 (FP.ddiv (FP.l2d S) (FP.l2d n.toInt64)) := Jvm.Free.Fl.ddiv_out (Jvm.Free.Fl.l2d_fin S).noNaN (Jvm.Free.Fl.l2d_fin _) h
theorem own_nz2 : Jvm.Free.Fl.Nz64 (FP.l2d (2 : Int32).toInt64) := by unfold Jvm.Free.Fl.Nz64; decide +kernel
theorem own_nz3 : Jvm.Free.Fl.Nz64 (FP.l2d (3 : Int32).toInt64) := by unfold Jvm.Free.Fl.Nz64; decide +kernel
theorem own_nz4 : Jvm.Free.Fl.Nz64 (FP.l2d (4 : Int32).toInt64) := by unfold Jvm.Free.Fl.Nz64; decide +kernel
theorem own_nz5 : Jvm.Free.Fl.Nz64 (FP.l2d (5 : Int32).toInt64) := by unfold Jvm.Free.Fl.Nz64; decide +kernel
theorem own_ef_mean2 (m : MethodId) (a1 : Addr) : entryFrame m #[(.ref a1)] 8 = mkF m 0 #[.val (.ref a1), .unset, .unset, .unset, .unset, .unset, .unset, .unset] [] := by first | (simp [entryFrame, mkF, argsToLocals, Value.category]; done) | rfl
def own_Q_mean2 (Z : State) (a1 : Addr) (a2 : Addr) (k : ClassId) (x0 x1 : Int64) (h0 : Heap) (n0 : Nat) (v : Option Value) (h : Heap) (L : List Loc) : Prop := v = some (.double (FP.ddiv (FP.l2d (x0 + x1)) (FP.l2d (2 : Int32).toInt64))) ∧ Fr n0 L ∧ h = h0
theorem own_d_prog_70_method_2_code_0 : decode prog_70_method_2_code 0 = .ok (.dconst 0, 1) := by decide +kernel
theorem own_d_prog_70_method_2_code_1 : decode prog_70_method_2_code 1 = .ok (.dstore_n 1, 1) := by decide +kernel
theorem own_d_prog_70_method_2_code_2 : decode prog_70_method_2_code 2 = .ok (.aload_n 0, 1) := by decide +kernel
theorem own_d_prog_70_method_2_code_3 : decode prog_70_method_2_code 3 = .ok (.getfield 22, 3) := by decide +kernel
theorem own_d_prog_70_method_2_code_6 : decode prog_70_method_2_code 6 = .ok (.astore_n 3, 1) := by decide +kernel
theorem own_d_prog_70_method_2_code_7 : decode prog_70_method_2_code 7 = .ok (.aload_n 3, 1) := by decide +kernel
theorem own_d_prog_70_method_2_code_8 : decode prog_70_method_2_code 8 = .ok (.arraylength, 1) := by decide +kernel
theorem own_d_prog_70_method_2_code_9 : decode prog_70_method_2_code 9 = .ok (.istore 4, 2) := by decide +kernel
theorem own_d_prog_70_method_2_code_11 : decode prog_70_method_2_code 11 = .ok (.iconst 0, 1) := by decide +kernel
theorem own_d_prog_70_method_2_code_12 : decode prog_70_method_2_code 12 = .ok (.istore 5, 2) := by decide +kernel
theorem own_d_prog_70_method_2_code_14 : decode prog_70_method_2_code 14 = .ok (.iload 5, 2) := by decide +kernel
theorem own_d_prog_70_method_2_code_16 : decode prog_70_method_2_code 16 = .ok (.iload 4, 2) := by decide +kernel
theorem own_d_prog_70_method_2_code_18 : decode prog_70_method_2_code 18 = .ok (.if_icmp .ge 20, 3) := by decide +kernel
theorem own_d_prog_70_method_2_code_21 : decode prog_70_method_2_code 21 = .ok (.aload_n 3, 1) := by decide +kernel
theorem own_d_prog_70_method_2_code_22 : decode prog_70_method_2_code 22 = .ok (.iload 5, 2) := by decide +kernel
theorem own_d_prog_70_method_2_code_24 : decode prog_70_method_2_code 24 = .ok (.daload, 1) := by decide +kernel
theorem own_d_prog_70_method_2_code_25 : decode prog_70_method_2_code 25 = .ok (.dstore 6, 2) := by decide +kernel
theorem own_d_prog_70_method_2_code_27 : decode prog_70_method_2_code 27 = .ok (.dload_n 1, 1) := by decide +kernel
theorem own_d_prog_70_method_2_code_28 : decode prog_70_method_2_code 28 = .ok (.dload 6, 2) := by decide +kernel
theorem own_d_prog_70_method_2_code_30 : decode prog_70_method_2_code 30 = .ok (.dadd, 1) := by decide +kernel
theorem own_d_prog_70_method_2_code_31 : decode prog_70_method_2_code 31 = .ok (.dstore_n 1, 1) := by decide +kernel
theorem own_d_prog_70_method_2_code_32 : decode prog_70_method_2_code 32 = .ok (.iinc 5 1, 3) := by decide +kernel
theorem own_d_prog_70_method_2_code_35 : decode prog_70_method_2_code 35 = .ok (.goto (-21), 3) := by decide +kernel
theorem own_d_prog_70_method_2_code_38 : decode prog_70_method_2_code 38 = .ok (.dload_n 1, 1) := by decide +kernel
theorem own_d_prog_70_method_2_code_39 : decode prog_70_method_2_code 39 = .ok (.aload_n 0, 1) := by decide +kernel
theorem own_d_prog_70_method_2_code_40 : decode prog_70_method_2_code 40 = .ok (.getfield 22, 3) := by decide +kernel
theorem own_d_prog_70_method_2_code_43 : decode prog_70_method_2_code 43 = .ok (.arraylength, 1) := by decide +kernel
theorem own_d_prog_70_method_2_code_44 : decode prog_70_method_2_code 44 = .ok (.i2d, 1) := by decide +kernel
theorem own_d_prog_70_method_2_code_45 : decode prog_70_method_2_code 45 = .ok (.ddiv, 1) := by decide +kernel
theorem own_d_prog_70_method_2_code_46 : decode prog_70_method_2_code 46 = .ok (.dreturn, 1) := by decide +kernel
set_option maxRecDepth 65536 in
set_option maxHeartbeats 40000000 in
theorem own_rm_mean2 (l : Launch) (Z : State) (a0 : Array Value) (hw : ∀ d ∈ tables_1, d.before a0 Z = true) (ws : List Jvm.Cond) (a1 : Addr) (a2 : Addr) (k : ClassId) (x0 x1 : Int64) (h0 : Heap) (n0 : Nat) (Z0 : n0 ≤ h0.size) (F1 : Fld Z h0 a1 "com/example/orunmila/orunmila/simulate/Returns" "m_aReturns" "[D" (.ref a2)) (V2 : Arv Z h0 a2 k .double (2 : Int32) [(.double (FP.l2d x0)), (.double (FP.l2d x1))] (.double (FP.l2d 0))) (r0 : own_In x0) (r1 : own_In x1) :
    MetFree l (⟨"com/example/orunmila/orunmila/simulate/Returns", "getMean", "()D"⟩ : MethodName) (head1 (Jvm.Cond.code (⟨"com/example/orunmila/orunmila/simulate/Returns", "getMean", "()D"⟩ : MethodName) prog_70_method_2_code 8 (some .double) :: ws) ({ frames := 0, cells := 0, slots := 0, locals := 0 } : Room)) (fun a U => a = #[(.ref a1)] ∧ Z.Warmed39 U.vm ∧ U.heap = h0) (fun _ _ _ _ _ => True) (fun _ U o U' => ∃ v L, o = .returned v ∧ own_Q_mean2 Z a1 a2 k x0 x1 h0 n0 v U'.heap L ∧ FrameEnd U o U' L ({ frames := 0, cells := 0, slots := 0, locals := 0 } : Room).cells ({ frames := 0, cells := 0, slots := 0, locals := 0 } : Room).slots) := by
  refine MetFree.of_bodySF (plainFor_of_name own_pn_0) hisR ?_
  intro p e s m args below meth c s₁ Bd hml0 hP hK
  obtain ⟨rfl, hZ, hh⟩ := hP
  have hx := Bd.exec
  have hby := Bd.bytes
  have hml : c.maxLocals = 8 := hml0
  have hown : s.vm.findClass "com/example/orunmila/orunmila/simulate/Returns" = some m.cls := findClass_of_methodNamed Bd.named
  have hnm := (name_of_methodNamed Bd.named Bd.method).1
  have X0 : Stand p l e ({ frames := 0, cells := 0, slots := 0, locals := 0 } : Room) s m #[(.ref a1)] below meth c s₁ [] 0 0 := Stand.of_body Bd
  have e0 : s₁.heap = h0 := by rw [← hh, Bd.state]; rfl
  have N0 := Fr.nil n0
  refine own_start (own_ef_mean2 m a1) ?_
  unfold own_In at r0 r1
  have t1 : (x0 + x1).toInt = x0.toInt + x1.toInt := by
    rw [add64 (a := x0) (b := x1) ⟨by omega, by omega⟩ ⟨by omega, by omega⟩]
  obtain ⟨T1, X1, e1, st1⟩ := getF X0 hx hZ hown (host := "") (Or.inl (hw _ (List.mem_of_getElem? (i := 19) rfl))) Via.refl e0 F1 (g := (mkF m 3 #[.val (.ref a1), .val (.double (FP.l2d 0)), .second, .unset, .unset, .unset, .unset, .unset] [(.ref a1)])) rfl rfl (Jvm.hb hby own_d_prog_70_method_2_code_3)
  refine own_of (T' := T1) (f' := (mkF m 8 #[.val (.ref a1), .val (.double (FP.l2d 0)), .second, .val (.ref a2), .unset, .unset, .unset, .unset] [(.ref a2)])) (fun t_ k_ => (XS.dconst0 X0.here hx rfl (Jvm.hb hby own_d_prog_70_method_2_code_0) own_dz (XS.dstoreN X0.here hx rfl (Jvm.hb hby own_d_prog_70_method_2_code_1) rfl (l' := #[.val (.ref a1), .val (.double (FP.l2d 0)), .second, .unset, .unset, .unset, .unset, .unset]) rfl (XS.aloadN X0.here hx rfl (Jvm.hb hby own_d_prog_70_method_2_code_2) rfl rfl (st1 _ (XS.astoreN X1.here hx rfl (Jvm.hb hby own_d_prog_70_method_2_code_6) rfl rfl (l' := #[.val (.ref a1), .val (.double (FP.l2d 0)), .second, .val (.ref a2), .unset, .unset, .unset, .unset]) rfl (XS.aloadN X1.here hx rfl (Jvm.hb hby own_d_prog_70_method_2_code_7) rfl rfl k_))))))) ?_
  obtain ⟨clz, Arz, -, Szz, Nnz, -⟩ := id V2
  refine own_of (T' := T1) (f' := (mkF m 9 #[.val (.ref a1), .val (.double (FP.l2d 0)), .second, .val (.ref a2), .unset, .unset, .unset, .unset] [(.int (clz.slots.size).toInt32)])) (fun t_ k_ => (X1.arraylength hx (by rw [e1]; exact Arz.1) (State.isArrayOf_alike hZ.alike Arz.2.1) (g := (mkF m 8 #[.val (.ref a1), .val (.double (FP.l2d 0)), .second, .val (.ref a2), .unset, .unset, .unset, .unset] [(.ref a2)])) rfl rfl (Jvm.hb hby own_d_prog_70_method_2_code_8) _ k_)) ?_
  rw [len_of Szz Nnz]
  refine own_of (T' := T1) (f' := (mkF m 24 #[.val (.ref a1), .val (.double (FP.l2d 0)), .second, .val (.ref a2), .val (.int (2 : Int32)), .val (.int (0 : Int32)), .unset, .unset] [(.int (0 : Int32)), (.ref a2)])) (fun t_ k_ => (XS.istore X1.here hx rfl (Jvm.hb hby own_d_prog_70_method_2_code_9) rfl (l' := #[.val (.ref a1), .val (.double (FP.l2d 0)), .second, .val (.ref a2), .val (.int (2 : Int32)), .unset, .unset, .unset]) rfl (XS.iconst X1.here hx rfl (Jvm.hb hby own_d_prog_70_method_2_code_11) (XS.istore X1.here hx rfl (Jvm.hb hby own_d_prog_70_method_2_code_12) rfl (l' := #[.val (.ref a1), .val (.double (FP.l2d 0)), .second, .val (.ref a2), .val (.int (2 : Int32)), .val (.int (0 : Int32)), .unset, .unset]) rfl (XS.iload X1.here hx rfl (Jvm.hb hby own_d_prog_70_method_2_code_14) rfl (XS.iload X1.here hx rfl (Jvm.hb hby own_d_prog_70_method_2_code_16) rfl (XS.icmpNo X1.here hx rfl (Jvm.hb hby own_d_prog_70_method_2_code_18) rfl (tlt (by decide)).2.1 (XS.aloadN X1.here hx rfl (Jvm.hb hby own_d_prog_70_method_2_code_21) rfl rfl (XS.iload X1.here hx rfl (Jvm.hb hby own_d_prog_70_method_2_code_22) rfl k_))))))))) ?_
  obtain ⟨cl2, Ar2, qq2, Sz2, Nn2, Hh2, Gg2⟩ := id V2
  have hin2 : ¬ ((0 : Int32) < 0 ∨ cl2.slots.size ≤ ((0 : Int32)).toNatClampNeg) := inb_of Sz2 ⟨by decide, by decide⟩
  refine own_of (T' := T1) (f' := (mkF m 30 #[.val (.ref a1), .val (.double (FP.l2d 0)), .second, .val (.ref a2), .val (.int (2 : Int32)), .val (.int (0 : Int32)), .val (.double (FP.l2d x0)), .second] [(.double (FP.l2d x0)), (.double (FP.l2d 0))])) (fun t_ k_ => (X1.daload hx (j := (0 : Int32)) (v := (.double (FP.l2d x0))) (by rw [e1]; exact Ar2.1) (State.isArrayOf_alike hZ.alike Ar2.2.1) Ar2.2.2 hin2 (Hh2.at hin2 rfl) (g := (mkF m 24 #[.val (.ref a1), .val (.double (FP.l2d 0)), .second, .val (.ref a2), .val (.int (2 : Int32)), .val (.int (0 : Int32)), .unset, .unset] [(.int (0 : Int32)), (.ref a2)])) rfl rfl (Jvm.hb hby own_d_prog_70_method_2_code_24) _ (XS.dstore X1.here hx rfl (Jvm.hb hby own_d_prog_70_method_2_code_25) rfl (l' := #[.val (.ref a1), .val (.double (FP.l2d 0)), .second, .val (.ref a2), .val (.int (2 : Int32)), .val (.int (0 : Int32)), .val (.double (FP.l2d x0)), .second]) rfl (XS.dloadN X1.here hx rfl (Jvm.hb hby own_d_prog_70_method_2_code_27) rfl (XS.dload X1.here hx rfl (Jvm.hb hby own_d_prog_70_method_2_code_28) rfl k_))))) ?_
  have hv0 := ((dadd_w (a := 0) (b := x0) ⟨by decide, by decide⟩ ⟨by omega, by omega⟩).trans (congrArg FP.l2d (Int64.zero_add x0)))
  refine own_of (T' := T1) (f' := (mkF m 35 #[.val (.ref a1), .val (.double (FP.l2d x0)), .second, .val (.ref a2), .val (.int (2 : Int32)), .val (.int ((0 : Int32) + (1 : Int32))), .val (.double (FP.l2d x0)), .second] [])) (fun t_ k_ => (XS.daddS X1.here hx rfl (Jvm.hb hby own_d_prog_70_method_2_code_30) rfl (nn_w hv0) hv0 (XS.dstoreN X1.here hx rfl (Jvm.hb hby own_d_prog_70_method_2_code_31) rfl (l' := #[.val (.ref a1), .val (.double (FP.l2d x0)), .second, .val (.ref a2), .val (.int (2 : Int32)), .val (.int (0 : Int32)), .val (.double (FP.l2d x0)), .second]) rfl (XS.iinc X1.here hx rfl (Jvm.hb hby own_d_prog_70_method_2_code_32) rfl (l' := #[.val (.ref a1), .val (.double (FP.l2d x0)), .second, .val (.ref a2), .val (.int (2 : Int32)), .val (.int ((0 : Int32) + (1 : Int32))), .val (.double (FP.l2d x0)), .second]) rfl k_)))) ?_
  show own_Goes p e below _ T1 (mkF m 35 #[.val (.ref a1), .val (.double (FP.l2d x0)), .second, .val (.ref a2), .val (.int (2 : Int32)), .val (.int (1 : Int32)), .val (.double (FP.l2d x0)), .second] [])
  refine own_of (T' := T1) (f' := (mkF m 24 #[.val (.ref a1), .val (.double (FP.l2d x0)), .second, .val (.ref a2), .val (.int (2 : Int32)), .val (.int (1 : Int32)), .val (.double (FP.l2d x0)), .second] [(.int (1 : Int32)), (.ref a2)])) (fun t_ k_ => (XS.goto X1.here hx rfl (pc0 := 35) (pc' := 14) rfl (Jvm.hb hby own_d_prog_70_method_2_code_35) (by decide) (by decide) (XS.iload X1.here hx rfl (Jvm.hb hby own_d_prog_70_method_2_code_14) rfl (XS.iload X1.here hx rfl (Jvm.hb hby own_d_prog_70_method_2_code_16) rfl (XS.icmpNo X1.here hx rfl (Jvm.hb hby own_d_prog_70_method_2_code_18) rfl (tlt (by decide)).2.1 (XS.aloadN X1.here hx rfl (Jvm.hb hby own_d_prog_70_method_2_code_21) rfl rfl (XS.iload X1.here hx rfl (Jvm.hb hby own_d_prog_70_method_2_code_22) rfl k_))))))) ?_
  obtain ⟨cl3, Ar3, qq3, Sz3, Nn3, Hh3, Gg3⟩ := id V2
  have hin3 : ¬ ((1 : Int32) < 0 ∨ cl3.slots.size ≤ ((1 : Int32)).toNatClampNeg) := inb_of Sz3 ⟨by decide, by decide⟩
  refine own_of (T' := T1) (f' := (mkF m 30 #[.val (.ref a1), .val (.double (FP.l2d x0)), .second, .val (.ref a2), .val (.int (2 : Int32)), .val (.int (1 : Int32)), .val (.double (FP.l2d x1)), .second] [(.double (FP.l2d x1)), (.double (FP.l2d x0))])) (fun t_ k_ => (X1.daload hx (j := (1 : Int32)) (v := (.double (FP.l2d x1))) (by rw [e1]; exact Ar3.1) (State.isArrayOf_alike hZ.alike Ar3.2.1) Ar3.2.2 hin3 (Hh3.at hin3 rfl) (g := (mkF m 24 #[.val (.ref a1), .val (.double (FP.l2d x0)), .second, .val (.ref a2), .val (.int (2 : Int32)), .val (.int (1 : Int32)), .val (.double (FP.l2d x0)), .second] [(.int (1 : Int32)), (.ref a2)])) rfl rfl (Jvm.hb hby own_d_prog_70_method_2_code_24) _ (XS.dstore X1.here hx rfl (Jvm.hb hby own_d_prog_70_method_2_code_25) rfl (l' := #[.val (.ref a1), .val (.double (FP.l2d x0)), .second, .val (.ref a2), .val (.int (2 : Int32)), .val (.int (1 : Int32)), .val (.double (FP.l2d x1)), .second]) rfl (XS.dloadN X1.here hx rfl (Jvm.hb hby own_d_prog_70_method_2_code_27) rfl (XS.dload X1.here hx rfl (Jvm.hb hby own_d_prog_70_method_2_code_28) rfl k_))))) ?_
  have hv1 := (dadd_w (a := x0) (b := x1) ⟨(by omega), (by omega)⟩ ⟨by omega, by omega⟩)
  refine own_of (T' := T1) (f' := (mkF m 35 #[.val (.ref a1), .val (.double (FP.l2d (x0 + x1))), .second, .val (.ref a2), .val (.int (2 : Int32)), .val (.int ((1 : Int32) + (1 : Int32))), .val (.double (FP.l2d x1)), .second] [])) (fun t_ k_ => (XS.daddS X1.here hx rfl (Jvm.hb hby own_d_prog_70_method_2_code_30) rfl (nn_w hv1) hv1 (XS.dstoreN X1.here hx rfl (Jvm.hb hby own_d_prog_70_method_2_code_31) rfl (l' := #[.val (.ref a1), .val (.double (FP.l2d (x0 + x1))), .second, .val (.ref a2), .val (.int (2 : Int32)), .val (.int (1 : Int32)), .val (.double (FP.l2d x1)), .second]) rfl (XS.iinc X1.here hx rfl (Jvm.hb hby own_d_prog_70_method_2_code_32) rfl (l' := #[.val (.ref a1), .val (.double (FP.l2d (x0 + x1))), .second, .val (.ref a2), .val (.int (2 : Int32)), .val (.int ((1 : Int32) + (1 : Int32))), .val (.double (FP.l2d x1)), .second]) rfl k_)))) ?_
  show own_Goes p e below _ T1 (mkF m 35 #[.val (.ref a1), .val (.double (FP.l2d (x0 + x1))), .second, .val (.ref a2), .val (.int (2 : Int32)), .val (.int (2 : Int32)), .val (.double (FP.l2d x1)), .second] [])
  obtain ⟨T4, X4, e4, st4⟩ := getF X1 hx hZ hown (host := "") (Or.inl (hw _ (List.mem_of_getElem? (i := 19) rfl))) Via.refl e1 F1 (g := (mkF m 40 #[.val (.ref a1), .val (.double (FP.l2d (x0 + x1))), .second, .val (.ref a2), .val (.int (2 : Int32)), .val (.int (2 : Int32)), .val (.double (FP.l2d x1)), .second] [(.ref a1), (.double (FP.l2d (x0 + x1)))])) rfl rfl (Jvm.hb hby own_d_prog_70_method_2_code_40)
  refine own_of (T' := T4) (f' := (mkF m 43 #[.val (.ref a1), .val (.double (FP.l2d (x0 + x1))), .second, .val (.ref a2), .val (.int (2 : Int32)), .val (.int (2 : Int32)), .val (.double (FP.l2d x1)), .second] [(.ref a2), (.double (FP.l2d (x0 + x1)))])) (fun t_ k_ => (XS.goto X1.here hx rfl (pc0 := 35) (pc' := 14) rfl (Jvm.hb hby own_d_prog_70_method_2_code_35) (by decide) (by decide) (XS.iload X1.here hx rfl (Jvm.hb hby own_d_prog_70_method_2_code_14) rfl (XS.iload X1.here hx rfl (Jvm.hb hby own_d_prog_70_method_2_code_16) rfl (XS.icmpYes X1.here hx rfl (pc0 := 18) (pc' := 38) rfl (Jvm.hb hby own_d_prog_70_method_2_code_18) rfl (flt (by decide)).2.1 (by decide) (by decide) (XS.dloadN X1.here hx rfl (Jvm.hb hby own_d_prog_70_method_2_code_38) rfl (XS.aloadN X1.here hx rfl (Jvm.hb hby own_d_prog_70_method_2_code_39) rfl rfl (st4 _ k_)))))))) ?_
  obtain ⟨clz, Arz, -, Szz, Nnz, -⟩ := id V2
  refine own_of (T' := T4) (f' := (mkF m 44 #[.val (.ref a1), .val (.double (FP.l2d (x0 + x1))), .second, .val (.ref a2), .val (.int (2 : Int32)), .val (.int (2 : Int32)), .val (.double (FP.l2d x1)), .second] [(.int (clz.slots.size).toInt32), (.double (FP.l2d (x0 + x1)))])) (fun t_ k_ => (X4.arraylength hx (by rw [e4]; exact Arz.1) (State.isArrayOf_alike hZ.alike Arz.2.1) (g := (mkF m 43 #[.val (.ref a1), .val (.double (FP.l2d (x0 + x1))), .second, .val (.ref a2), .val (.int (2 : Int32)), .val (.int (2 : Int32)), .val (.double (FP.l2d x1)), .second] [(.ref a2), (.double (FP.l2d (x0 + x1)))])) rfl rfl (Jvm.hb hby own_d_prog_70_method_2_code_43) _ k_)) ?_
  rw [len_of Szz Nnz]
  refine own_of (T' := T4) (f' := (mkF m 46 #[.val (.ref a1), .val (.double (FP.l2d (x0 + x1))), .second, .val (.ref a2), .val (.int (2 : Int32)), .val (.int (2 : Int32)), .val (.double (FP.l2d x1)), .second] [(.double (FP.ddiv (FP.l2d (x0 + x1)) (FP.l2d (2 : Int32).toInt64)))])) (fun t_ k_ => (XS.i2dS X4.here hx rfl (Jvm.hb hby own_d_prog_70_method_2_code_44) rfl (i2d_w _) (XS.ddivS X4.here hx rfl (Jvm.hb hby own_d_prog_70_method_2_code_45) rfl (own_nn _ _ own_nz2) rfl k_))) ?_
  obtain ⟨fs, hr, hrun, hended, hW, hsame⟩ := X4.leave (v := some (.double (FP.ddiv (FP.l2d (x0 + x1)) (FP.l2d (2 : Int32).toInt64)))) (fun h => by rw [Bd.returns] at h; cases h)
  exact ⟨_, _, own_retD X4 hx Bd.returns (Jvm.hb hby own_d_prog_70_method_2_code_46) hr, hrun, hended, _, _, rfl, (by show own_Q_mean2 Z a1 a2 k x0 x1 h0 n0 _ T4.heap _; rw [e4]; exact ⟨rfl, N0, rfl⟩), ⟨_, rfl⟩, hW, hsame.mono (by decide) (by decide)⟩
theorem own_ef_mean3 (m : MethodId) (a1 : Addr) : entryFrame m #[(.ref a1)] 8 = mkF m 0 #[.val (.ref a1), .unset, .unset, .unset, .unset, .unset, .unset, .unset] [] := by first | (simp [entryFrame, mkF, argsToLocals, Value.category]; done) | rfl
def own_Q_mean3 (Z : State) (a1 : Addr) (a2 : Addr) (k : ClassId) (x0 x1 x2 : Int64) (h0 : Heap) (n0 : Nat) (v : Option Value) (h : Heap) (L : List Loc) : Prop := v = some (.double (FP.ddiv (FP.l2d ((x0 + x1) + x2)) (FP.l2d (3 : Int32).toInt64))) ∧ Fr n0 L ∧ h = h0
set_option maxRecDepth 65536 in
set_option maxHeartbeats 40000000 in
theorem own_rm_mean3 (l : Launch) (Z : State) (a0 : Array Value) (hw : ∀ d ∈ tables_1, d.before a0 Z = true) (ws : List Jvm.Cond) (a1 : Addr) (a2 : Addr) (k : ClassId) (x0 x1 x2 : Int64) (h0 : Heap) (n0 : Nat) (Z0 : n0 ≤ h0.size) (F1 : Fld Z h0 a1 "com/example/orunmila/orunmila/simulate/Returns" "m_aReturns" "[D" (.ref a2)) (V2 : Arv Z h0 a2 k .double (3 : Int32) [(.double (FP.l2d x0)), (.double (FP.l2d x1)), (.double (FP.l2d x2))] (.double (FP.l2d 0))) (r0 : own_In x0) (r1 : own_In x1) (r2 : own_In x2) :
    MetFree l (⟨"com/example/orunmila/orunmila/simulate/Returns", "getMean", "()D"⟩ : MethodName) (head1 (Jvm.Cond.code (⟨"com/example/orunmila/orunmila/simulate/Returns", "getMean", "()D"⟩ : MethodName) prog_70_method_2_code 8 (some .double) :: ws) ({ frames := 0, cells := 0, slots := 0, locals := 0 } : Room)) (fun a U => a = #[(.ref a1)] ∧ Z.Warmed39 U.vm ∧ U.heap = h0) (fun _ _ _ _ _ => True) (fun _ U o U' => ∃ v L, o = .returned v ∧ own_Q_mean3 Z a1 a2 k x0 x1 x2 h0 n0 v U'.heap L ∧ FrameEnd U o U' L ({ frames := 0, cells := 0, slots := 0, locals := 0 } : Room).cells ({ frames := 0, cells := 0, slots := 0, locals := 0 } : Room).slots) := by
  refine MetFree.of_bodySF (plainFor_of_name own_pn_0) hisR ?_
  intro p e s m args below meth c s₁ Bd hml0 hP hK
  obtain ⟨rfl, hZ, hh⟩ := hP
  have hx := Bd.exec
  have hby := Bd.bytes
  have hml : c.maxLocals = 8 := hml0
  have hown : s.vm.findClass "com/example/orunmila/orunmila/simulate/Returns" = some m.cls := findClass_of_methodNamed Bd.named
  have hnm := (name_of_methodNamed Bd.named Bd.method).1
  have X0 : Stand p l e ({ frames := 0, cells := 0, slots := 0, locals := 0 } : Room) s m #[(.ref a1)] below meth c s₁ [] 0 0 := Stand.of_body Bd
  have e0 : s₁.heap = h0 := by rw [← hh, Bd.state]; rfl
  have N0 := Fr.nil n0
  refine own_start (own_ef_mean3 m a1) ?_
  unfold own_In at r0 r1 r2
  have t1 : (x0 + x1).toInt = x0.toInt + x1.toInt := by
    rw [add64 (a := x0) (b := x1) ⟨by omega, by omega⟩ ⟨by omega, by omega⟩]
  have t2 : ((x0 + x1) + x2).toInt = x0.toInt + x1.toInt + x2.toInt := by
    rw [add64 (a := (x0 + x1)) (b := x2) ⟨by rw [t1]; omega, by rw [t1]; omega⟩ ⟨by omega, by omega⟩, t1]
  obtain ⟨T1, X1, e1, st1⟩ := getF X0 hx hZ hown (host := "") (Or.inl (hw _ (List.mem_of_getElem? (i := 19) rfl))) Via.refl e0 F1 (g := (mkF m 3 #[.val (.ref a1), .val (.double (FP.l2d 0)), .second, .unset, .unset, .unset, .unset, .unset] [(.ref a1)])) rfl rfl (Jvm.hb hby own_d_prog_70_method_2_code_3)
  refine own_of (T' := T1) (f' := (mkF m 8 #[.val (.ref a1), .val (.double (FP.l2d 0)), .second, .val (.ref a2), .unset, .unset, .unset, .unset] [(.ref a2)])) (fun t_ k_ => (XS.dconst0 X0.here hx rfl (Jvm.hb hby own_d_prog_70_method_2_code_0) own_dz (XS.dstoreN X0.here hx rfl (Jvm.hb hby own_d_prog_70_method_2_code_1) rfl (l' := #[.val (.ref a1), .val (.double (FP.l2d 0)), .second, .unset, .unset, .unset, .unset, .unset]) rfl (XS.aloadN X0.here hx rfl (Jvm.hb hby own_d_prog_70_method_2_code_2) rfl rfl (st1 _ (XS.astoreN X1.here hx rfl (Jvm.hb hby own_d_prog_70_method_2_code_6) rfl rfl (l' := #[.val (.ref a1), .val (.double (FP.l2d 0)), .second, .val (.ref a2), .unset, .unset, .unset, .unset]) rfl (XS.aloadN X1.here hx rfl (Jvm.hb hby own_d_prog_70_method_2_code_7) rfl rfl k_))))))) ?_
  obtain ⟨clz, Arz, -, Szz, Nnz, -⟩ := id V2
  refine own_of (T' := T1) (f' := (mkF m 9 #[.val (.ref a1), .val (.double (FP.l2d 0)), .second, .val (.ref a2), .unset, .unset, .unset, .unset] [(.int (clz.slots.size).toInt32)])) (fun t_ k_ => (X1.arraylength hx (by rw [e1]; exact Arz.1) (State.isArrayOf_alike hZ.alike Arz.2.1) (g := (mkF m 8 #[.val (.ref a1), .val (.double (FP.l2d 0)), .second, .val (.ref a2), .unset, .unset, .unset, .unset] [(.ref a2)])) rfl rfl (Jvm.hb hby own_d_prog_70_method_2_code_8) _ k_)) ?_
  rw [len_of Szz Nnz]
  refine own_of (T' := T1) (f' := (mkF m 24 #[.val (.ref a1), .val (.double (FP.l2d 0)), .second, .val (.ref a2), .val (.int (3 : Int32)), .val (.int (0 : Int32)), .unset, .unset] [(.int (0 : Int32)), (.ref a2)])) (fun t_ k_ => (XS.istore X1.here hx rfl (Jvm.hb hby own_d_prog_70_method_2_code_9) rfl (l' := #[.val (.ref a1), .val (.double (FP.l2d 0)), .second, .val (.ref a2), .val (.int (3 : Int32)), .unset, .unset, .unset]) rfl (XS.iconst X1.here hx rfl (Jvm.hb hby own_d_prog_70_method_2_code_11) (XS.istore X1.here hx rfl (Jvm.hb hby own_d_prog_70_method_2_code_12) rfl (l' := #[.val (.ref a1), .val (.double (FP.l2d 0)), .second, .val (.ref a2), .val (.int (3 : Int32)), .val (.int (0 : Int32)), .unset, .unset]) rfl (XS.iload X1.here hx rfl (Jvm.hb hby own_d_prog_70_method_2_code_14) rfl (XS.iload X1.here hx rfl (Jvm.hb hby own_d_prog_70_method_2_code_16) rfl (XS.icmpNo X1.here hx rfl (Jvm.hb hby own_d_prog_70_method_2_code_18) rfl (tlt (by decide)).2.1 (XS.aloadN X1.here hx rfl (Jvm.hb hby own_d_prog_70_method_2_code_21) rfl rfl (XS.iload X1.here hx rfl (Jvm.hb hby own_d_prog_70_method_2_code_22) rfl k_))))))))) ?_
  obtain ⟨cl2, Ar2, qq2, Sz2, Nn2, Hh2, Gg2⟩ := id V2
  have hin2 : ¬ ((0 : Int32) < 0 ∨ cl2.slots.size ≤ ((0 : Int32)).toNatClampNeg) := inb_of Sz2 ⟨by decide, by decide⟩
  refine own_of (T' := T1) (f' := (mkF m 30 #[.val (.ref a1), .val (.double (FP.l2d 0)), .second, .val (.ref a2), .val (.int (3 : Int32)), .val (.int (0 : Int32)), .val (.double (FP.l2d x0)), .second] [(.double (FP.l2d x0)), (.double (FP.l2d 0))])) (fun t_ k_ => (X1.daload hx (j := (0 : Int32)) (v := (.double (FP.l2d x0))) (by rw [e1]; exact Ar2.1) (State.isArrayOf_alike hZ.alike Ar2.2.1) Ar2.2.2 hin2 (Hh2.at hin2 rfl) (g := (mkF m 24 #[.val (.ref a1), .val (.double (FP.l2d 0)), .second, .val (.ref a2), .val (.int (3 : Int32)), .val (.int (0 : Int32)), .unset, .unset] [(.int (0 : Int32)), (.ref a2)])) rfl rfl (Jvm.hb hby own_d_prog_70_method_2_code_24) _ (XS.dstore X1.here hx rfl (Jvm.hb hby own_d_prog_70_method_2_code_25) rfl (l' := #[.val (.ref a1), .val (.double (FP.l2d 0)), .second, .val (.ref a2), .val (.int (3 : Int32)), .val (.int (0 : Int32)), .val (.double (FP.l2d x0)), .second]) rfl (XS.dloadN X1.here hx rfl (Jvm.hb hby own_d_prog_70_method_2_code_27) rfl (XS.dload X1.here hx rfl (Jvm.hb hby own_d_prog_70_method_2_code_28) rfl k_))))) ?_
  have hv0 := ((dadd_w (a := 0) (b := x0) ⟨by decide, by decide⟩ ⟨by omega, by omega⟩).trans (congrArg FP.l2d (Int64.zero_add x0)))
  refine own_of (T' := T1) (f' := (mkF m 35 #[.val (.ref a1), .val (.double (FP.l2d x0)), .second, .val (.ref a2), .val (.int (3 : Int32)), .val (.int ((0 : Int32) + (1 : Int32))), .val (.double (FP.l2d x0)), .second] [])) (fun t_ k_ => (XS.daddS X1.here hx rfl (Jvm.hb hby own_d_prog_70_method_2_code_30) rfl (nn_w hv0) hv0 (XS.dstoreN X1.here hx rfl (Jvm.hb hby own_d_prog_70_method_2_code_31) rfl (l' := #[.val (.ref a1), .val (.double (FP.l2d x0)), .second, .val (.ref a2), .val (.int (3 : Int32)), .val (.int (0 : Int32)), .val (.double (FP.l2d x0)), .second]) rfl (XS.iinc X1.here hx rfl (Jvm.hb hby own_d_prog_70_method_2_code_32) rfl (l' := #[.val (.ref a1), .val (.double (FP.l2d x0)), .second, .val (.ref a2), .val (.int (3 : Int32)), .val (.int ((0 : Int32) + (1 : Int32))), .val (.double (FP.l2d x0)), .second]) rfl k_)))) ?_
  show own_Goes p e below _ T1 (mkF m 35 #[.val (.ref a1), .val (.double (FP.l2d x0)), .second, .val (.ref a2), .val (.int (3 : Int32)), .val (.int (1 : Int32)), .val (.double (FP.l2d x0)), .second] [])
  refine own_of (T' := T1) (f' := (mkF m 24 #[.val (.ref a1), .val (.double (FP.l2d x0)), .second, .val (.ref a2), .val (.int (3 : Int32)), .val (.int (1 : Int32)), .val (.double (FP.l2d x0)), .second] [(.int (1 : Int32)), (.ref a2)])) (fun t_ k_ => (XS.goto X1.here hx rfl (pc0 := 35) (pc' := 14) rfl (Jvm.hb hby own_d_prog_70_method_2_code_35) (by decide) (by decide) (XS.iload X1.here hx rfl (Jvm.hb hby own_d_prog_70_method_2_code_14) rfl (XS.iload X1.here hx rfl (Jvm.hb hby own_d_prog_70_method_2_code_16) rfl (XS.icmpNo X1.here hx rfl (Jvm.hb hby own_d_prog_70_method_2_code_18) rfl (tlt (by decide)).2.1 (XS.aloadN X1.here hx rfl (Jvm.hb hby own_d_prog_70_method_2_code_21) rfl rfl (XS.iload X1.here hx rfl (Jvm.hb hby own_d_prog_70_method_2_code_22) rfl k_))))))) ?_
  obtain ⟨cl3, Ar3, qq3, Sz3, Nn3, Hh3, Gg3⟩ := id V2
  have hin3 : ¬ ((1 : Int32) < 0 ∨ cl3.slots.size ≤ ((1 : Int32)).toNatClampNeg) := inb_of Sz3 ⟨by decide, by decide⟩
  refine own_of (T' := T1) (f' := (mkF m 30 #[.val (.ref a1), .val (.double (FP.l2d x0)), .second, .val (.ref a2), .val (.int (3 : Int32)), .val (.int (1 : Int32)), .val (.double (FP.l2d x1)), .second] [(.double (FP.l2d x1)), (.double (FP.l2d x0))])) (fun t_ k_ => (X1.daload hx (j := (1 : Int32)) (v := (.double (FP.l2d x1))) (by rw [e1]; exact Ar3.1) (State.isArrayOf_alike hZ.alike Ar3.2.1) Ar3.2.2 hin3 (Hh3.at hin3 rfl) (g := (mkF m 24 #[.val (.ref a1), .val (.double (FP.l2d x0)), .second, .val (.ref a2), .val (.int (3 : Int32)), .val (.int (1 : Int32)), .val (.double (FP.l2d x0)), .second] [(.int (1 : Int32)), (.ref a2)])) rfl rfl (Jvm.hb hby own_d_prog_70_method_2_code_24) _ (XS.dstore X1.here hx rfl (Jvm.hb hby own_d_prog_70_method_2_code_25) rfl (l' := #[.val (.ref a1), .val (.double (FP.l2d x0)), .second, .val (.ref a2), .val (.int (3 : Int32)), .val (.int (1 : Int32)), .val (.double (FP.l2d x1)), .second]) rfl (XS.dloadN X1.here hx rfl (Jvm.hb hby own_d_prog_70_method_2_code_27) rfl (XS.dload X1.here hx rfl (Jvm.hb hby own_d_prog_70_method_2_code_28) rfl k_))))) ?_
  have hv1 := (dadd_w (a := x0) (b := x1) ⟨(by omega), (by omega)⟩ ⟨by omega, by omega⟩)
  refine own_of (T' := T1) (f' := (mkF m 35 #[.val (.ref a1), .val (.double (FP.l2d (x0 + x1))), .second, .val (.ref a2), .val (.int (3 : Int32)), .val (.int ((1 : Int32) + (1 : Int32))), .val (.double (FP.l2d x1)), .second] [])) (fun t_ k_ => (XS.daddS X1.here hx rfl (Jvm.hb hby own_d_prog_70_method_2_code_30) rfl (nn_w hv1) hv1 (XS.dstoreN X1.here hx rfl (Jvm.hb hby own_d_prog_70_method_2_code_31) rfl (l' := #[.val (.ref a1), .val (.double (FP.l2d (x0 + x1))), .second, .val (.ref a2), .val (.int (3 : Int32)), .val (.int (1 : Int32)), .val (.double (FP.l2d x1)), .second]) rfl (XS.iinc X1.here hx rfl (Jvm.hb hby own_d_prog_70_method_2_code_32) rfl (l' := #[.val (.ref a1), .val (.double (FP.l2d (x0 + x1))), .second, .val (.ref a2), .val (.int (3 : Int32)), .val (.int ((1 : Int32) + (1 : Int32))), .val (.double (FP.l2d x1)), .second]) rfl k_)))) ?_
  show own_Goes p e below _ T1 (mkF m 35 #[.val (.ref a1), .val (.double (FP.l2d (x0 + x1))), .second, .val (.ref a2), .val (.int (3 : Int32)), .val (.int (2 : Int32)), .val (.double (FP.l2d x1)), .second] [])
  refine own_of (T' := T1) (f' := (mkF m 24 #[.val (.ref a1), .val (.double (FP.l2d (x0 + x1))), .second, .val (.ref a2), .val (.int (3 : Int32)), .val (.int (2 : Int32)), .val (.double (FP.l2d x1)), .second] [(.int (2 : Int32)), (.ref a2)])) (fun t_ k_ => (XS.goto X1.here hx rfl (pc0 := 35) (pc' := 14) rfl (Jvm.hb hby own_d_prog_70_method_2_code_35) (by decide) (by decide) (XS.iload X1.here hx rfl (Jvm.hb hby own_d_prog_70_method_2_code_14) rfl (XS.iload X1.here hx rfl (Jvm.hb hby own_d_prog_70_method_2_code_16) rfl (XS.icmpNo X1.here hx rfl (Jvm.hb hby own_d_prog_70_method_2_code_18) rfl (tlt (by decide)).2.1 (XS.aloadN X1.here hx rfl (Jvm.hb hby own_d_prog_70_method_2_code_21) rfl rfl (XS.iload X1.here hx rfl (Jvm.hb hby own_d_prog_70_method_2_code_22) rfl k_))))))) ?_
  obtain ⟨cl4, Ar4, qq4, Sz4, Nn4, Hh4, Gg4⟩ := id V2
  have hin4 : ¬ ((2 : Int32) < 0 ∨ cl4.slots.size ≤ ((2 : Int32)).toNatClampNeg) := inb_of Sz4 ⟨by decide, by decide⟩
  refine own_of (T' := T1) (f' := (mkF m 30 #[.val (.ref a1), .val (.double (FP.l2d (x0 + x1))), .second, .val (.ref a2), .val (.int (3 : Int32)), .val (.int (2 : Int32)), .val (.double (FP.l2d x2)), .second] [(.double (FP.l2d x2)), (.double (FP.l2d (x0 + x1)))])) (fun t_ k_ => (X1.daload hx (j := (2 : Int32)) (v := (.double (FP.l2d x2))) (by rw [e1]; exact Ar4.1) (State.isArrayOf_alike hZ.alike Ar4.2.1) Ar4.2.2 hin4 (Hh4.at hin4 rfl) (g := (mkF m 24 #[.val (.ref a1), .val (.double (FP.l2d (x0 + x1))), .second, .val (.ref a2), .val (.int (3 : Int32)), .val (.int (2 : Int32)), .val (.double (FP.l2d x1)), .second] [(.int (2 : Int32)), (.ref a2)])) rfl rfl (Jvm.hb hby own_d_prog_70_method_2_code_24) _ (XS.dstore X1.here hx rfl (Jvm.hb hby own_d_prog_70_method_2_code_25) rfl (l' := #[.val (.ref a1), .val (.double (FP.l2d (x0 + x1))), .second, .val (.ref a2), .val (.int (3 : Int32)), .val (.int (2 : Int32)), .val (.double (FP.l2d x2)), .second]) rfl (XS.dloadN X1.here hx rfl (Jvm.hb hby own_d_prog_70_method_2_code_27) rfl (XS.dload X1.here hx rfl (Jvm.hb hby own_d_prog_70_method_2_code_28) rfl k_))))) ?_
  have hv2 := (dadd_w (a := (x0 + x1)) (b := x2) ⟨(by rw [t1]; omega), (by rw [t1]; omega)⟩ ⟨by omega, by omega⟩)
  refine own_of (T' := T1) (f' := (mkF m 35 #[.val (.ref a1), .val (.double (FP.l2d ((x0 + x1) + x2))), .second, .val (.ref a2), .val (.int (3 : Int32)), .val (.int ((2 : Int32) + (1 : Int32))), .val (.double (FP.l2d x2)), .second] [])) (fun t_ k_ => (XS.daddS X1.here hx rfl (Jvm.hb hby own_d_prog_70_method_2_code_30) rfl (nn_w hv2) hv2 (XS.dstoreN X1.here hx rfl (Jvm.hb hby own_d_prog_70_method_2_code_31) rfl (l' := #[.val (.ref a1), .val (.double (FP.l2d ((x0 + x1) + x2))), .second, .val (.ref a2), .val (.int (3 : Int32)), .val (.int (2 : Int32)), .val (.double (FP.l2d x2)), .second]) rfl (XS.iinc X1.here hx rfl (Jvm.hb hby own_d_prog_70_method_2_code_32) rfl (l' := #[.val (.ref a1), .val (.double (FP.l2d ((x0 + x1) + x2))), .second, .val (.ref a2), .val (.int (3 : Int32)), .val (.int ((2 : Int32) + (1 : Int32))), .val (.double (FP.l2d x2)), .second]) rfl k_)))) ?_
  show own_Goes p e below _ T1 (mkF m 35 #[.val (.ref a1), .val (.double (FP.l2d ((x0 + x1) + x2))), .second, .val (.ref a2), .val (.int (3 : Int32)), .val (.int (3 : Int32)), .val (.double (FP.l2d x2)), .second] [])
  obtain ⟨T5, X5, e5, st5⟩ := getF X1 hx hZ hown (host := "") (Or.inl (hw _ (List.mem_of_getElem? (i := 19) rfl))) Via.refl e1 F1 (g := (mkF m 40 #[.val (.ref a1), .val (.double (FP.l2d ((x0 + x1) + x2))), .second, .val (.ref a2), .val (.int (3 : Int32)), .val (.int (3 : Int32)), .val (.double (FP.l2d x2)), .second] [(.ref a1), (.double (FP.l2d ((x0 + x1) + x2)))])) rfl rfl (Jvm.hb hby own_d_prog_70_method_2_code_40)
  refine own_of (T' := T5) (f' := (mkF m 43 #[.val (.ref a1), .val (.double (FP.l2d ((x0 + x1) + x2))), .second, .val (.ref a2), .val (.int (3 : Int32)), .val (.int (3 : Int32)), .val (.double (FP.l2d x2)), .second] [(.ref a2), (.double (FP.l2d ((x0 + x1) + x2)))])) (fun t_ k_ => (XS.goto X1.here hx rfl (pc0 := 35) (pc' := 14) rfl (Jvm.hb hby own_d_prog_70_method_2_code_35) (by decide) (by decide) (XS.iload X1.here hx rfl (Jvm.hb hby own_d_prog_70_method_2_code_14) rfl (XS.iload X1.here hx rfl (Jvm.hb hby own_d_prog_70_method_2_code_16) rfl (XS.icmpYes X1.here hx rfl (pc0 := 18) (pc' := 38) rfl (Jvm.hb hby own_d_prog_70_method_2_code_18) rfl (flt (by decide)).2.1 (by decide) (by decide) (XS.dloadN X1.here hx rfl (Jvm.hb hby own_d_prog_70_method_2_code_38) rfl (XS.aloadN X1.here hx rfl (Jvm.hb hby own_d_prog_70_method_2_code_39) rfl rfl (st5 _ k_)))))))) ?_
  obtain ⟨clz, Arz, -, Szz, Nnz, -⟩ := id V2
  refine own_of (T' := T5) (f' := (mkF m 44 #[.val (.ref a1), .val (.double (FP.l2d ((x0 + x1) + x2))), .second, .val (.ref a2), .val (.int (3 : Int32)), .val (.int (3 : Int32)), .val (.double (FP.l2d x2)), .second] [(.int (clz.slots.size).toInt32), (.double (FP.l2d ((x0 + x1) + x2)))])) (fun t_ k_ => (X5.arraylength hx (by rw [e5]; exact Arz.1) (State.isArrayOf_alike hZ.alike Arz.2.1) (g := (mkF m 43 #[.val (.ref a1), .val (.double (FP.l2d ((x0 + x1) + x2))), .second, .val (.ref a2), .val (.int (3 : Int32)), .val (.int (3 : Int32)), .val (.double (FP.l2d x2)), .second] [(.ref a2), (.double (FP.l2d ((x0 + x1) + x2)))])) rfl rfl (Jvm.hb hby own_d_prog_70_method_2_code_43) _ k_)) ?_
  rw [len_of Szz Nnz]
  refine own_of (T' := T5) (f' := (mkF m 46 #[.val (.ref a1), .val (.double (FP.l2d ((x0 + x1) + x2))), .second, .val (.ref a2), .val (.int (3 : Int32)), .val (.int (3 : Int32)), .val (.double (FP.l2d x2)), .second] [(.double (FP.ddiv (FP.l2d ((x0 + x1) + x2)) (FP.l2d (3 : Int32).toInt64)))])) (fun t_ k_ => (XS.i2dS X5.here hx rfl (Jvm.hb hby own_d_prog_70_method_2_code_44) rfl (i2d_w _) (XS.ddivS X5.here hx rfl (Jvm.hb hby own_d_prog_70_method_2_code_45) rfl (own_nn _ _ own_nz3) rfl k_))) ?_
  obtain ⟨fs, hr, hrun, hended, hW, hsame⟩ := X5.leave (v := some (.double (FP.ddiv (FP.l2d ((x0 + x1) + x2)) (FP.l2d (3 : Int32).toInt64)))) (fun h => by rw [Bd.returns] at h; cases h)
  exact ⟨_, _, own_retD X5 hx Bd.returns (Jvm.hb hby own_d_prog_70_method_2_code_46) hr, hrun, hended, _, _, rfl, (by show own_Q_mean3 Z a1 a2 k x0 x1 x2 h0 n0 _ T5.heap _; rw [e5]; exact ⟨rfl, N0, rfl⟩), ⟨_, rfl⟩, hW, hsame.mono (by decide) (by decide)⟩
theorem own_ef_mean4 (m : MethodId) (a1 : Addr) : entryFrame m #[(.ref a1)] 8 = mkF m 0 #[.val (.ref a1), .unset, .unset, .unset, .unset, .unset, .unset, .unset] [] := by first | (simp [entryFrame, mkF, argsToLocals, Value.category]; done) | rfl
def own_Q_mean4 (Z : State) (a1 : Addr) (a2 : Addr) (k : ClassId) (x0 x1 x2 x3 : Int64) (h0 : Heap) (n0 : Nat) (v : Option Value) (h : Heap) (L : List Loc) : Prop := v = some (.double (FP.ddiv (FP.l2d (((x0 + x1) + x2) + x3)) (FP.l2d (4 : Int32).toInt64))) ∧ Fr n0 L ∧ h = h0
set_option maxRecDepth 65536 in
set_option maxHeartbeats 40000000 in
theorem own_rm_mean4 (l : Launch) (Z : State) (a0 : Array Value) (hw : ∀ d ∈ tables_1, d.before a0 Z = true) (ws : List Jvm.Cond) (a1 : Addr) (a2 : Addr) (k : ClassId) (x0 x1 x2 x3 : Int64) (h0 : Heap) (n0 : Nat) (Z0 : n0 ≤ h0.size) (F1 : Fld Z h0 a1 "com/example/orunmila/orunmila/simulate/Returns" "m_aReturns" "[D" (.ref a2)) (V2 : Arv Z h0 a2 k .double (4 : Int32) [(.double (FP.l2d x0)), (.double (FP.l2d x1)), (.double (FP.l2d x2)), (.double (FP.l2d x3))] (.double (FP.l2d 0))) (r0 : own_In x0) (r1 : own_In x1) (r2 : own_In x2) (r3 : own_In x3) :
    MetFree l (⟨"com/example/orunmila/orunmila/simulate/Returns", "getMean", "()D"⟩ : MethodName) (head1 (Jvm.Cond.code (⟨"com/example/orunmila/orunmila/simulate/Returns", "getMean", "()D"⟩ : MethodName) prog_70_method_2_code 8 (some .double) :: ws) ({ frames := 0, cells := 0, slots := 0, locals := 0 } : Room)) (fun a U => a = #[(.ref a1)] ∧ Z.Warmed39 U.vm ∧ U.heap = h0) (fun _ _ _ _ _ => True) (fun _ U o U' => ∃ v L, o = .returned v ∧ own_Q_mean4 Z a1 a2 k x0 x1 x2 x3 h0 n0 v U'.heap L ∧ FrameEnd U o U' L ({ frames := 0, cells := 0, slots := 0, locals := 0 } : Room).cells ({ frames := 0, cells := 0, slots := 0, locals := 0 } : Room).slots) := by
  refine MetFree.of_bodySF (plainFor_of_name own_pn_0) hisR ?_
  intro p e s m args below meth c s₁ Bd hml0 hP hK
  obtain ⟨rfl, hZ, hh⟩ := hP
  have hx := Bd.exec
  have hby := Bd.bytes
  have hml : c.maxLocals = 8 := hml0
  have hown : s.vm.findClass "com/example/orunmila/orunmila/simulate/Returns" = some m.cls := findClass_of_methodNamed Bd.named
  have hnm := (name_of_methodNamed Bd.named Bd.method).1
  have X0 : Stand p l e ({ frames := 0, cells := 0, slots := 0, locals := 0 } : Room) s m #[(.ref a1)] below meth c s₁ [] 0 0 := Stand.of_body Bd
  have e0 : s₁.heap = h0 := by rw [← hh, Bd.state]; rfl
  have N0 := Fr.nil n0
  refine own_start (own_ef_mean4 m a1) ?_
  unfold own_In at r0 r1 r2 r3
  have t1 : (x0 + x1).toInt = x0.toInt + x1.toInt := by
    rw [add64 (a := x0) (b := x1) ⟨by omega, by omega⟩ ⟨by omega, by omega⟩]
  have t2 : ((x0 + x1) + x2).toInt = x0.toInt + x1.toInt + x2.toInt := by
    rw [add64 (a := (x0 + x1)) (b := x2) ⟨by rw [t1]; omega, by rw [t1]; omega⟩ ⟨by omega, by omega⟩, t1]
  have t3 : (((x0 + x1) + x2) + x3).toInt = x0.toInt + x1.toInt + x2.toInt + x3.toInt := by
    rw [add64 (a := ((x0 + x1) + x2)) (b := x3) ⟨by rw [t2]; omega, by rw [t2]; omega⟩ ⟨by omega, by omega⟩, t2]
  obtain ⟨T1, X1, e1, st1⟩ := getF X0 hx hZ hown (host := "") (Or.inl (hw _ (List.mem_of_getElem? (i := 19) rfl))) Via.refl e0 F1 (g := (mkF m 3 #[.val (.ref a1), .val (.double (FP.l2d 0)), .second, .unset, .unset, .unset, .unset, .unset] [(.ref a1)])) rfl rfl (Jvm.hb hby own_d_prog_70_method_2_code_3)
  refine own_of (T' := T1) (f' := (mkF m 8 #[.val (.ref a1), .val (.double (FP.l2d 0)), .second, .val (.ref a2), .unset, .unset, .unset, .unset] [(.ref a2)])) (fun t_ k_ => (XS.dconst0 X0.here hx rfl (Jvm.hb hby own_d_prog_70_method_2_code_0) own_dz (XS.dstoreN X0.here hx rfl (Jvm.hb hby own_d_prog_70_method_2_code_1) rfl (l' := #[.val (.ref a1), .val (.double (FP.l2d 0)), .second, .unset, .unset, .unset, .unset, .unset]) rfl (XS.aloadN X0.here hx rfl (Jvm.hb hby own_d_prog_70_method_2_code_2) rfl rfl (st1 _ (XS.astoreN X1.here hx rfl (Jvm.hb hby own_d_prog_70_method_2_code_6) rfl rfl (l' := #[.val (.ref a1), .val (.double (FP.l2d 0)), .second, .val (.ref a2), .unset, .unset, .unset, .unset]) rfl (XS.aloadN X1.here hx rfl (Jvm.hb hby own_d_prog_70_method_2_code_7) rfl rfl k_))))))) ?_
  obtain ⟨clz, Arz, -, Szz, Nnz, -⟩ := id V2
  refine own_of (T' := T1) (f' := (mkF m 9 #[.val (.ref a1), .val (.double (FP.l2d 0)), .second, .val (.ref a2), .unset, .unset, .unset, .unset] [(.int (clz.slots.size).toInt32)])) (fun t_ k_ => (X1.arraylength hx (by rw [e1]; exact Arz.1) (State.isArrayOf_alike hZ.alike Arz.2.1) (g := (mkF m 8 #[.val (.ref a1), .val (.double (FP.l2d 0)), .second, .val (.ref a2), .unset, .unset, .unset, .unset] [(.ref a2)])) rfl rfl (Jvm.hb hby own_d_prog_70_method_2_code_8) _ k_)) ?_
  rw [len_of Szz Nnz]
  refine own_of (T' := T1) (f' := (mkF m 24 #[.val (.ref a1), .val (.double (FP.l2d 0)), .second, .val (.ref a2), .val (.int (4 : Int32)), .val (.int (0 : Int32)), .unset, .unset] [(.int (0 : Int32)), (.ref a2)])) (fun t_ k_ => (XS.istore X1.here hx rfl (Jvm.hb hby own_d_prog_70_method_2_code_9) rfl (l' := #[.val (.ref a1), .val (.double (FP.l2d 0)), .second, .val (.ref a2), .val (.int (4 : Int32)), .unset, .unset, .unset]) rfl (XS.iconst X1.here hx rfl (Jvm.hb hby own_d_prog_70_method_2_code_11) (XS.istore X1.here hx rfl (Jvm.hb hby own_d_prog_70_method_2_code_12) rfl (l' := #[.val (.ref a1), .val (.double (FP.l2d 0)), .second, .val (.ref a2), .val (.int (4 : Int32)), .val (.int (0 : Int32)), .unset, .unset]) rfl (XS.iload X1.here hx rfl (Jvm.hb hby own_d_prog_70_method_2_code_14) rfl (XS.iload X1.here hx rfl (Jvm.hb hby own_d_prog_70_method_2_code_16) rfl (XS.icmpNo X1.here hx rfl (Jvm.hb hby own_d_prog_70_method_2_code_18) rfl (tlt (by decide)).2.1 (XS.aloadN X1.here hx rfl (Jvm.hb hby own_d_prog_70_method_2_code_21) rfl rfl (XS.iload X1.here hx rfl (Jvm.hb hby own_d_prog_70_method_2_code_22) rfl k_))))))))) ?_
  obtain ⟨cl2, Ar2, qq2, Sz2, Nn2, Hh2, Gg2⟩ := id V2
  have hin2 : ¬ ((0 : Int32) < 0 ∨ cl2.slots.size ≤ ((0 : Int32)).toNatClampNeg) := inb_of Sz2 ⟨by decide, by decide⟩
  refine own_of (T' := T1) (f' := (mkF m 30 #[.val (.ref a1), .val (.double (FP.l2d 0)), .second, .val (.ref a2), .val (.int (4 : Int32)), .val (.int (0 : Int32)), .val (.double (FP.l2d x0)), .second] [(.double (FP.l2d x0)), (.double (FP.l2d 0))])) (fun t_ k_ => (X1.daload hx (j := (0 : Int32)) (v := (.double (FP.l2d x0))) (by rw [e1]; exact Ar2.1) (State.isArrayOf_alike hZ.alike Ar2.2.1) Ar2.2.2 hin2 (Hh2.at hin2 rfl) (g := (mkF m 24 #[.val (.ref a1), .val (.double (FP.l2d 0)), .second, .val (.ref a2), .val (.int (4 : Int32)), .val (.int (0 : Int32)), .unset, .unset] [(.int (0 : Int32)), (.ref a2)])) rfl rfl (Jvm.hb hby own_d_prog_70_method_2_code_24) _ (XS.dstore X1.here hx rfl (Jvm.hb hby own_d_prog_70_method_2_code_25) rfl (l' := #[.val (.ref a1), .val (.double (FP.l2d 0)), .second, .val (.ref a2), .val (.int (4 : Int32)), .val (.int (0 : Int32)), .val (.double (FP.l2d x0)), .second]) rfl (XS.dloadN X1.here hx rfl (Jvm.hb hby own_d_prog_70_method_2_code_27) rfl (XS.dload X1.here hx rfl (Jvm.hb hby own_d_prog_70_method_2_code_28) rfl k_))))) ?_
  have hv0 := ((dadd_w (a := 0) (b := x0) ⟨by decide, by decide⟩ ⟨by omega, by omega⟩).trans (congrArg FP.l2d (Int64.zero_add x0)))
  refine own_of (T' := T1) (f' := (mkF m 35 #[.val (.ref a1), .val (.double (FP.l2d x0)), .second, .val (.ref a2), .val (.int (4 : Int32)), .val (.int ((0 : Int32) + (1 : Int32))), .val (.double (FP.l2d x0)), .second] [])) (fun t_ k_ => (XS.daddS X1.here hx rfl (Jvm.hb hby own_d_prog_70_method_2_code_30) rfl (nn_w hv0) hv0 (XS.dstoreN X1.here hx rfl (Jvm.hb hby own_d_prog_70_method_2_code_31) rfl (l' := #[.val (.ref a1), .val (.double (FP.l2d x0)), .second, .val (.ref a2), .val (.int (4 : Int32)), .val (.int (0 : Int32)), .val (.double (FP.l2d x0)), .second]) rfl (XS.iinc X1.here hx rfl (Jvm.hb hby own_d_prog_70_method_2_code_32) rfl (l' := #[.val (.ref a1), .val (.double (FP.l2d x0)), .second, .val (.ref a2), .val (.int (4 : Int32)), .val (.int ((0 : Int32) + (1 : Int32))), .val (.double (FP.l2d x0)), .second]) rfl k_)))) ?_
  show own_Goes p e below _ T1 (mkF m 35 #[.val (.ref a1), .val (.double (FP.l2d x0)), .second, .val (.ref a2), .val (.int (4 : Int32)), .val (.int (1 : Int32)), .val (.double (FP.l2d x0)), .second] [])
  refine own_of (T' := T1) (f' := (mkF m 24 #[.val (.ref a1), .val (.double (FP.l2d x0)), .second, .val (.ref a2), .val (.int (4 : Int32)), .val (.int (1 : Int32)), .val (.double (FP.l2d x0)), .second] [(.int (1 : Int32)), (.ref a2)])) (fun t_ k_ => (XS.goto X1.here hx rfl (pc0 := 35) (pc' := 14) rfl (Jvm.hb hby own_d_prog_70_method_2_code_35) (by decide) (by decide) (XS.iload X1.here hx rfl (Jvm.hb hby own_d_prog_70_method_2_code_14) rfl (XS.iload X1.here hx rfl (Jvm.hb hby own_d_prog_70_method_2_code_16) rfl (XS.icmpNo X1.here hx rfl (Jvm.hb hby own_d_prog_70_method_2_code_18) rfl (tlt (by decide)).2.1 (XS.aloadN X1.here hx rfl (Jvm.hb hby own_d_prog_70_method_2_code_21) rfl rfl (XS.iload X1.here hx rfl (Jvm.hb hby own_d_prog_70_method_2_code_22) rfl k_))))))) ?_
  obtain ⟨cl3, Ar3, qq3, Sz3, Nn3, Hh3, Gg3⟩ := id V2
  have hin3 : ¬ ((1 : Int32) < 0 ∨ cl3.slots.size ≤ ((1 : Int32)).toNatClampNeg) := inb_of Sz3 ⟨by decide, by decide⟩
  refine own_of (T' := T1) (f' := (mkF m 30 #[.val (.ref a1), .val (.double (FP.l2d x0)), .second, .val (.ref a2), .val (.int (4 : Int32)), .val (.int (1 : Int32)), .val (.double (FP.l2d x1)), .second] [(.double (FP.l2d x1)), (.double (FP.l2d x0))])) (fun t_ k_ => (X1.daload hx (j := (1 : Int32)) (v := (.double (FP.l2d x1))) (by rw [e1]; exact Ar3.1) (State.isArrayOf_alike hZ.alike Ar3.2.1) Ar3.2.2 hin3 (Hh3.at hin3 rfl) (g := (mkF m 24 #[.val (.ref a1), .val (.double (FP.l2d x0)), .second, .val (.ref a2), .val (.int (4 : Int32)), .val (.int (1 : Int32)), .val (.double (FP.l2d x0)), .second] [(.int (1 : Int32)), (.ref a2)])) rfl rfl (Jvm.hb hby own_d_prog_70_method_2_code_24) _ (XS.dstore X1.here hx rfl (Jvm.hb hby own_d_prog_70_method_2_code_25) rfl (l' := #[.val (.ref a1), .val (.double (FP.l2d x0)), .second, .val (.ref a2), .val (.int (4 : Int32)), .val (.int (1 : Int32)), .val (.double (FP.l2d x1)), .second]) rfl (XS.dloadN X1.here hx rfl (Jvm.hb hby own_d_prog_70_method_2_code_27) rfl (XS.dload X1.here hx rfl (Jvm.hb hby own_d_prog_70_method_2_code_28) rfl k_))))) ?_
  have hv1 := (dadd_w (a := x0) (b := x1) ⟨(by omega), (by omega)⟩ ⟨by omega, by omega⟩)
  refine own_of (T' := T1) (f' := (mkF m 35 #[.val (.ref a1), .val (.double (FP.l2d (x0 + x1))), .second, .val (.ref a2), .val (.int (4 : Int32)), .val (.int ((1 : Int32) + (1 : Int32))), .val (.double (FP.l2d x1)), .second] [])) (fun t_ k_ => (XS.daddS X1.here hx rfl (Jvm.hb hby own_d_prog_70_method_2_code_30) rfl (nn_w hv1) hv1 (XS.dstoreN X1.here hx rfl (Jvm.hb hby own_d_prog_70_method_2_code_31) rfl (l' := #[.val (.ref a1), .val (.double (FP.l2d (x0 + x1))), .second, .val (.ref a2), .val (.int (4 : Int32)), .val (.int (1 : Int32)), .val (.double (FP.l2d x1)), .second]) rfl (XS.iinc X1.here hx rfl (Jvm.hb hby own_d_prog_70_method_2_code_32) rfl (l' := #[.val (.ref a1), .val (.double (FP.l2d (x0 + x1))), .second, .val (.ref a2), .val (.int (4 : Int32)), .val (.int ((1 : Int32) + (1 : Int32))), .val (.double (FP.l2d x1)), .second]) rfl k_)))) ?_
  show own_Goes p e below _ T1 (mkF m 35 #[.val (.ref a1), .val (.double (FP.l2d (x0 + x1))), .second, .val (.ref a2), .val (.int (4 : Int32)), .val (.int (2 : Int32)), .val (.double (FP.l2d x1)), .second] [])
  refine own_of (T' := T1) (f' := (mkF m 24 #[.val (.ref a1), .val (.double (FP.l2d (x0 + x1))), .second, .val (.ref a2), .val (.int (4 : Int32)), .val (.int (2 : Int32)), .val (.double (FP.l2d x1)), .second] [(.int (2 : Int32)), (.ref a2)])) (fun t_ k_ => (XS.goto X1.here hx rfl (pc0 := 35) (pc' := 14) rfl (Jvm.hb hby own_d_prog_70_method_2_code_35) (by decide) (by decide) (XS.iload X1.here hx rfl (Jvm.hb hby own_d_prog_70_method_2_code_14) rfl (XS.iload X1.here hx rfl (Jvm.hb hby own_d_prog_70_method_2_code_16) rfl (XS.icmpNo X1.here hx rfl (Jvm.hb hby own_d_prog_70_method_2_code_18) rfl (tlt (by decide)).2.1 (XS.aloadN X1.here hx rfl (Jvm.hb hby own_d_prog_70_method_2_code_21) rfl rfl (XS.iload X1.here hx rfl (Jvm.hb hby own_d_prog_70_method_2_code_22) rfl k_))))))) ?_
  obtain ⟨cl4, Ar4, qq4, Sz4, Nn4, Hh4, Gg4⟩ := id V2
  have hin4 : ¬ ((2 : Int32) < 0 ∨ cl4.slots.size ≤ ((2 : Int32)).toNatClampNeg) := inb_of Sz4 ⟨by decide, by decide⟩
  refine own_of (T' := T1) (f' := (mkF m 30 #[.val (.ref a1), .val (.double (FP.l2d (x0 + x1))), .second, .val (.ref a2), .val (.int (4 : Int32)), .val (.int (2 : Int32)), .val (.double (FP.l2d x2)), .second] [(.double (FP.l2d x2)), (.double (FP.l2d (x0 + x1)))])) (fun t_ k_ => (X1.daload hx (j := (2 : Int32)) (v := (.double (FP.l2d x2))) (by rw [e1]; exact Ar4.1) (State.isArrayOf_alike hZ.alike Ar4.2.1) Ar4.2.2 hin4 (Hh4.at hin4 rfl) (g := (mkF m 24 #[.val (.ref a1), .val (.double (FP.l2d (x0 + x1))), .second, .val (.ref a2), .val (.int (4 : Int32)), .val (.int (2 : Int32)), .val (.double (FP.l2d x1)), .second] [(.int (2 : Int32)), (.ref a2)])) rfl rfl (Jvm.hb hby own_d_prog_70_method_2_code_24) _ (XS.dstore X1.here hx rfl (Jvm.hb hby own_d_prog_70_method_2_code_25) rfl (l' := #[.val (.ref a1), .val (.double (FP.l2d (x0 + x1))), .second, .val (.ref a2), .val (.int (4 : Int32)), .val (.int (2 : Int32)), .val (.double (FP.l2d x2)), .second]) rfl (XS.dloadN X1.here hx rfl (Jvm.hb hby own_d_prog_70_method_2_code_27) rfl (XS.dload X1.here hx rfl (Jvm.hb hby own_d_prog_70_method_2_code_28) rfl k_))))) ?_
  have hv2 := (dadd_w (a := (x0 + x1)) (b := x2) ⟨(by rw [t1]; omega), (by rw [t1]; omega)⟩ ⟨by omega, by omega⟩)
  refine own_of (T' := T1) (f' := (mkF m 35 #[.val (.ref a1), .val (.double (FP.l2d ((x0 + x1) + x2))), .second, .val (.ref a2), .val (.int (4 : Int32)), .val (.int ((2 : Int32) + (1 : Int32))), .val (.double (FP.l2d x2)), .second] [])) (fun t_ k_ => (XS.daddS X1.here hx rfl (Jvm.hb hby own_d_prog_70_method_2_code_30) rfl (nn_w hv2) hv2 (XS.dstoreN X1.here hx rfl (Jvm.hb hby own_d_prog_70_method_2_code_31) rfl (l' := #[.val (.ref a1), .val (.double (FP.l2d ((x0 + x1) + x2))), .second, .val (.ref a2), .val (.int (4 : Int32)), .val (.int (2 : Int32)), .val (.double (FP.l2d x2)), .second]) rfl (XS.iinc X1.here hx rfl (Jvm.hb hby own_d_prog_70_method_2_code_32) rfl (l' := #[.val (.ref a1), .val (.double (FP.l2d ((x0 + x1) + x2))), .second, .val (.ref a2), .val (.int (4 : Int32)), .val (.int ((2 : Int32) + (1 : Int32))), .val (.double (FP.l2d x2)), .second]) rfl k_)))) ?_
  show own_Goes p e below _ T1 (mkF m 35 #[.val (.ref a1), .val (.double (FP.l2d ((x0 + x1) + x2))), .second, .val (.ref a2), .val (.int (4 : Int32)), .val (.int (3 : Int32)), .val (.double (FP.l2d x2)), .second] [])
  refine own_of (T' := T1) (f' := (mkF m 24 #[.val (.ref a1), .val (.double (FP.l2d ((x0 + x1) + x2))), .second, .val (.ref a2), .val (.int (4 : Int32)), .val (.int (3 : Int32)), .val (.double (FP.l2d x2)), .second] [(.int (3 : Int32)), (.ref a2)])) (fun t_ k_ => (XS.goto X1.here hx rfl (pc0 := 35) (pc' := 14) rfl (Jvm.hb hby own_d_prog_70_method_2_code_35) (by decide) (by decide) (XS.iload X1.here hx rfl (Jvm.hb hby own_d_prog_70_method_2_code_14) rfl (XS.iload X1.here hx rfl (Jvm.hb hby own_d_prog_70_method_2_code_16) rfl (XS.icmpNo X1.here hx rfl (Jvm.hb hby own_d_prog_70_method_2_code_18) rfl (tlt (by decide)).2.1 (XS.aloadN X1.here hx rfl (Jvm.hb hby own_d_prog_70_method_2_code_21) rfl rfl (XS.iload X1.here hx rfl (Jvm.hb hby own_d_prog_70_method_2_code_22) rfl k_))))))) ?_
  obtain ⟨cl5, Ar5, qq5, Sz5, Nn5, Hh5, Gg5⟩ := id V2
  have hin5 : ¬ ((3 : Int32) < 0 ∨ cl5.slots.size ≤ ((3 : Int32)).toNatClampNeg) := inb_of Sz5 ⟨by decide, by decide⟩
  refine own_of (T' := T1) (f' := (mkF m 30 #[.val (.ref a1), .val (.double (FP.l2d ((x0 + x1) + x2))), .second, .val (.ref a2), .val (.int (4 : Int32)), .val (.int (3 : Int32)), .val (.double (FP.l2d x3)), .second] [(.double (FP.l2d x3)), (.double (FP.l2d ((x0 + x1) + x2)))])) (fun t_ k_ => (X1.daload hx (j := (3 : Int32)) (v := (.double (FP.l2d x3))) (by rw [e1]; exact Ar5.1) (State.isArrayOf_alike hZ.alike Ar5.2.1) Ar5.2.2 hin5 (Hh5.at hin5 rfl) (g := (mkF m 24 #[.val (.ref a1), .val (.double (FP.l2d ((x0 + x1) + x2))), .second, .val (.ref a2), .val (.int (4 : Int32)), .val (.int (3 : Int32)), .val (.double (FP.l2d x2)), .second] [(.int (3 : Int32)), (.ref a2)])) rfl rfl (Jvm.hb hby own_d_prog_70_method_2_code_24) _ (XS.dstore X1.here hx rfl (Jvm.hb hby own_d_prog_70_method_2_code_25) rfl (l' := #[.val (.ref a1), .val (.double (FP.l2d ((x0 + x1) + x2))), .second, .val (.ref a2), .val (.int (4 : Int32)), .val (.int (3 : Int32)), .val (.double (FP.l2d x3)), .second]) rfl (XS.dloadN X1.here hx rfl (Jvm.hb hby own_d_prog_70_method_2_code_27) rfl (XS.dload X1.here hx rfl (Jvm.hb hby own_d_prog_70_method_2_code_28) rfl k_))))) ?_
  have hv3 := (dadd_w (a := ((x0 + x1) + x2)) (b := x3) ⟨(by rw [t2]; omega), (by rw [t2]; omega)⟩ ⟨by omega, by omega⟩)
  refine own_of (T' := T1) (f' := (mkF m 35 #[.val (.ref a1), .val (.double (FP.l2d (((x0 + x1) + x2) + x3))), .second, .val (.ref a2), .val (.int (4 : Int32)), .val (.int ((3 : Int32) + (1 : Int32))), .val (.double (FP.l2d x3)), .second] [])) (fun t_ k_ => (XS.daddS X1.here hx rfl (Jvm.hb hby own_d_prog_70_method_2_code_30) rfl (nn_w hv3) hv3 (XS.dstoreN X1.here hx rfl (Jvm.hb hby own_d_prog_70_method_2_code_31) rfl (l' := #[.val (.ref a1), .val (.double (FP.l2d (((x0 + x1) + x2) + x3))), .second, .val (.ref a2), .val (.int (4 : Int32)), .val (.int (3 : Int32)), .val (.double (FP.l2d x3)), .second]) rfl (XS.iinc X1.here hx rfl (Jvm.hb hby own_d_prog_70_method_2_code_32) rfl (l' := #[.val (.ref a1), .val (.double (FP.l2d (((x0 + x1) + x2) + x3))), .second, .val (.ref a2), .val (.int (4 : Int32)), .val (.int ((3 : Int32) + (1 : Int32))), .val (.double (FP.l2d x3)), .second]) rfl k_)))) ?_
  show own_Goes p e below _ T1 (mkF m 35 #[.val (.ref a1), .val (.double (FP.l2d (((x0 + x1) + x2) + x3))), .second, .val (.ref a2), .val (.int (4 : Int32)), .val (.int (4 : Int32)), .val (.double (FP.l2d x3)), .second] [])
  obtain ⟨T6, X6, e6, st6⟩ := getF X1 hx hZ hown (host := "") (Or.inl (hw _ (List.mem_of_getElem? (i := 19) rfl))) Via.refl e1 F1 (g := (mkF m 40 #[.val (.ref a1), .val (.double (FP.l2d (((x0 + x1) + x2) + x3))), .second, .val (.ref a2), .val (.int (4 : Int32)), .val (.int (4 : Int32)), .val (.double (FP.l2d x3)), .second] [(.ref a1), (.double (FP.l2d (((x0 + x1) + x2) + x3)))])) rfl rfl (Jvm.hb hby own_d_prog_70_method_2_code_40)
  refine own_of (T' := T6) (f' := (mkF m 43 #[.val (.ref a1), .val (.double (FP.l2d (((x0 + x1) + x2) + x3))), .second, .val (.ref a2), .val (.int (4 : Int32)), .val (.int (4 : Int32)), .val (.double (FP.l2d x3)), .second] [(.ref a2), (.double (FP.l2d (((x0 + x1) + x2) + x3)))])) (fun t_ k_ => (XS.goto X1.here hx rfl (pc0 := 35) (pc' := 14) rfl (Jvm.hb hby own_d_prog_70_method_2_code_35) (by decide) (by decide) (XS.iload X1.here hx rfl (Jvm.hb hby own_d_prog_70_method_2_code_14) rfl (XS.iload X1.here hx rfl (Jvm.hb hby own_d_prog_70_method_2_code_16) rfl (XS.icmpYes X1.here hx rfl (pc0 := 18) (pc' := 38) rfl (Jvm.hb hby own_d_prog_70_method_2_code_18) rfl (flt (by decide)).2.1 (by decide) (by decide) (XS.dloadN X1.here hx rfl (Jvm.hb hby own_d_prog_70_method_2_code_38) rfl (XS.aloadN X1.here hx rfl (Jvm.hb hby own_d_prog_70_method_2_code_39) rfl rfl (st6 _ k_)))))))) ?_
  obtain ⟨clz, Arz, -, Szz, Nnz, -⟩ := id V2
  refine own_of (T' := T6) (f' := (mkF m 44 #[.val (.ref a1), .val (.double (FP.l2d (((x0 + x1) + x2) + x3))), .second, .val (.ref a2), .val (.int (4 : Int32)), .val (.int (4 : Int32)), .val (.double (FP.l2d x3)), .second] [(.int (clz.slots.size).toInt32), (.double (FP.l2d (((x0 + x1) + x2) + x3)))])) (fun t_ k_ => (X6.arraylength hx (by rw [e6]; exact Arz.1) (State.isArrayOf_alike hZ.alike Arz.2.1) (g := (mkF m 43 #[.val (.ref a1), .val (.double (FP.l2d (((x0 + x1) + x2) + x3))), .second, .val (.ref a2), .val (.int (4 : Int32)), .val (.int (4 : Int32)), .val (.double (FP.l2d x3)), .second] [(.ref a2), (.double (FP.l2d (((x0 + x1) + x2) + x3)))])) rfl rfl (Jvm.hb hby own_d_prog_70_method_2_code_43) _ k_)) ?_
  rw [len_of Szz Nnz]
  refine own_of (T' := T6) (f' := (mkF m 46 #[.val (.ref a1), .val (.double (FP.l2d (((x0 + x1) + x2) + x3))), .second, .val (.ref a2), .val (.int (4 : Int32)), .val (.int (4 : Int32)), .val (.double (FP.l2d x3)), .second] [(.double (FP.ddiv (FP.l2d (((x0 + x1) + x2) + x3)) (FP.l2d (4 : Int32).toInt64)))])) (fun t_ k_ => (XS.i2dS X6.here hx rfl (Jvm.hb hby own_d_prog_70_method_2_code_44) rfl (i2d_w _) (XS.ddivS X6.here hx rfl (Jvm.hb hby own_d_prog_70_method_2_code_45) rfl (own_nn _ _ own_nz4) rfl k_))) ?_
  obtain ⟨fs, hr, hrun, hended, hW, hsame⟩ := X6.leave (v := some (.double (FP.ddiv (FP.l2d (((x0 + x1) + x2) + x3)) (FP.l2d (4 : Int32).toInt64)))) (fun h => by rw [Bd.returns] at h; cases h)
  exact ⟨_, _, own_retD X6 hx Bd.returns (Jvm.hb hby own_d_prog_70_method_2_code_46) hr, hrun, hended, _, _, rfl, (by show own_Q_mean4 Z a1 a2 k x0 x1 x2 x3 h0 n0 _ T6.heap _; rw [e6]; exact ⟨rfl, N0, rfl⟩), ⟨_, rfl⟩, hW, hsame.mono (by decide) (by decide)⟩
theorem own_ef_mean5 (m : MethodId) (a1 : Addr) : entryFrame m #[(.ref a1)] 8 = mkF m 0 #[.val (.ref a1), .unset, .unset, .unset, .unset, .unset, .unset, .unset] [] := by first | (simp [entryFrame, mkF, argsToLocals, Value.category]; done) | rfl
def own_Q_mean5 (Z : State) (a1 : Addr) (a2 : Addr) (k : ClassId) (x0 x1 x2 x3 x4 : Int64) (h0 : Heap) (n0 : Nat) (v : Option Value) (h : Heap) (L : List Loc) : Prop := v = some (.double (FP.ddiv (FP.l2d ((((x0 + x1) + x2) + x3) + x4)) (FP.l2d (5 : Int32).toInt64))) ∧ Fr n0 L ∧ h = h0
set_option maxRecDepth 65536 in
set_option maxHeartbeats 40000000 in
theorem own_rm_mean5 (l : Launch) (Z : State) (a0 : Array Value) (hw : ∀ d ∈ tables_1, d.before a0 Z = true) (ws : List Jvm.Cond) (a1 : Addr) (a2 : Addr) (k : ClassId) (x0 x1 x2 x3 x4 : Int64) (h0 : Heap) (n0 : Nat) (Z0 : n0 ≤ h0.size) (F1 : Fld Z h0 a1 "com/example/orunmila/orunmila/simulate/Returns" "m_aReturns" "[D" (.ref a2)) (V2 : Arv Z h0 a2 k .double (5 : Int32) [(.double (FP.l2d x0)), (.double (FP.l2d x1)), (.double (FP.l2d x2)), (.double (FP.l2d x3)), (.double (FP.l2d x4))] (.double (FP.l2d 0))) (r0 : own_In x0) (r1 : own_In x1) (r2 : own_In x2) (r3 : own_In x3) (r4 : own_In x4) :
    MetFree l (⟨"com/example/orunmila/orunmila/simulate/Returns", "getMean", "()D"⟩ : MethodName) (head1 (Jvm.Cond.code (⟨"com/example/orunmila/orunmila/simulate/Returns", "getMean", "()D"⟩ : MethodName) prog_70_method_2_code 8 (some .double) :: ws) ({ frames := 0, cells := 0, slots := 0, locals := 0 } : Room)) (fun a U => a = #[(.ref a1)] ∧ Z.Warmed39 U.vm ∧ U.heap = h0) (fun _ _ _ _ _ => True) (fun _ U o U' => ∃ v L, o = .returned v ∧ own_Q_mean5 Z a1 a2 k x0 x1 x2 x3 x4 h0 n0 v U'.heap L ∧ FrameEnd U o U' L ({ frames := 0, cells := 0, slots := 0, locals := 0 } : Room).cells ({ frames := 0, cells := 0, slots := 0, locals := 0 } : Room).slots) := by
  refine MetFree.of_bodySF (plainFor_of_name own_pn_0) hisR ?_
  intro p e s m args below meth c s₁ Bd hml0 hP hK
  obtain ⟨rfl, hZ, hh⟩ := hP
  have hx := Bd.exec
  have hby := Bd.bytes
  have hml : c.maxLocals = 8 := hml0
  have hown : s.vm.findClass "com/example/orunmila/orunmila/simulate/Returns" = some m.cls := findClass_of_methodNamed Bd.named
  have hnm := (name_of_methodNamed Bd.named Bd.method).1
  have X0 : Stand p l e ({ frames := 0, cells := 0, slots := 0, locals := 0 } : Room) s m #[(.ref a1)] below meth c s₁ [] 0 0 := Stand.of_body Bd
  have e0 : s₁.heap = h0 := by rw [← hh, Bd.state]; rfl
  have N0 := Fr.nil n0
  refine own_start (own_ef_mean5 m a1) ?_
  unfold own_In at r0 r1 r2 r3 r4
  have t1 : (x0 + x1).toInt = x0.toInt + x1.toInt := by
    rw [add64 (a := x0) (b := x1) ⟨by omega, by omega⟩ ⟨by omega, by omega⟩]
  have t2 : ((x0 + x1) + x2).toInt = x0.toInt + x1.toInt + x2.toInt := by
    rw [add64 (a := (x0 + x1)) (b := x2) ⟨by rw [t1]; omega, by rw [t1]; omega⟩ ⟨by omega, by omega⟩, t1]
  have t3 : (((x0 + x1) + x2) + x3).toInt = x0.toInt + x1.toInt + x2.toInt + x3.toInt := by
    rw [add64 (a := ((x0 + x1) + x2)) (b := x3) ⟨by rw [t2]; omega, by rw [t2]; omega⟩ ⟨by omega, by omega⟩, t2]
  have t4 : ((((x0 + x1) + x2) + x3) + x4).toInt = x0.toInt + x1.toInt + x2.toInt + x3.toInt + x4.toInt := by
    rw [add64 (a := (((x0 + x1) + x2) + x3)) (b := x4) ⟨by rw [t3]; omega, by rw [t3]; omega⟩ ⟨by omega, by omega⟩, t3]
  obtain ⟨T1, X1, e1, st1⟩ := getF X0 hx hZ hown (host := "") (Or.inl (hw _ (List.mem_of_getElem? (i := 19) rfl))) Via.refl e0 F1 (g := (mkF m 3 #[.val (.ref a1), .val (.double (FP.l2d 0)), .second, .unset, .unset, .unset, .unset, .unset] [(.ref a1)])) rfl rfl (Jvm.hb hby own_d_prog_70_method_2_code_3)
  refine own_of (T' := T1) (f' := (mkF m 8 #[.val (.ref a1), .val (.double (FP.l2d 0)), .second, .val (.ref a2), .unset, .unset, .unset, .unset] [(.ref a2)])) (fun t_ k_ => (XS.dconst0 X0.here hx rfl (Jvm.hb hby own_d_prog_70_method_2_code_0) own_dz (XS.dstoreN X0.here hx rfl (Jvm.hb hby own_d_prog_70_method_2_code_1) rfl (l' := #[.val (.ref a1), .val (.double (FP.l2d 0)), .second, .unset, .unset, .unset, .unset, .unset]) rfl (XS.aloadN X0.here hx rfl (Jvm.hb hby own_d_prog_70_method_2_code_2) rfl rfl (st1 _ (XS.astoreN X1.here hx rfl (Jvm.hb hby own_d_prog_70_method_2_code_6) rfl rfl (l' := #[.val (.ref a1), .val (.double (FP.l2d 0)), .second, .val (.ref a2), .unset, .unset, .unset, .unset]) rfl (XS.aloadN X1.here hx rfl (Jvm.hb hby own_d_prog_70_method_2_code_7) rfl rfl k_))))))) ?_
  obtain ⟨clz, Arz, -, Szz, Nnz, -⟩ := id V2
  refine own_of (T' := T1) (f' := (mkF m 9 #[.val (.ref a1), .val (.double (FP.l2d 0)), .second, .val (.ref a2), .unset, .unset, .unset, .unset] [(.int (clz.slots.size).toInt32)])) (fun t_ k_ => (X1.arraylength hx (by rw [e1]; exact Arz.1) (State.isArrayOf_alike hZ.alike Arz.2.1) (g := (mkF m 8 #[.val (.ref a1), .val (.double (FP.l2d 0)), .second, .val (.ref a2), .unset, .unset, .unset, .unset] [(.ref a2)])) rfl rfl (Jvm.hb hby own_d_prog_70_method_2_code_8) _ k_)) ?_
  rw [len_of Szz Nnz]
  refine own_of (T' := T1) (f' := (mkF m 24 #[.val (.ref a1), .val (.double (FP.l2d 0)), .second, .val (.ref a2), .val (.int (5 : Int32)), .val (.int (0 : Int32)), .unset, .unset] [(.int (0 : Int32)), (.ref a2)])) (fun t_ k_ => (XS.istore X1.here hx rfl (Jvm.hb hby own_d_prog_70_method_2_code_9) rfl (l' := #[.val (.ref a1), .val (.double (FP.l2d 0)), .second, .val (.ref a2), .val (.int (5 : Int32)), .unset, .unset, .unset]) rfl (XS.iconst X1.here hx rfl (Jvm.hb hby own_d_prog_70_method_2_code_11) (XS.istore X1.here hx rfl (Jvm.hb hby own_d_prog_70_method_2_code_12) rfl (l' := #[.val (.ref a1), .val (.double (FP.l2d 0)), .second, .val (.ref a2), .val (.int (5 : Int32)), .val (.int (0 : Int32)), .unset, .unset]) rfl (XS.iload X1.here hx rfl (Jvm.hb hby own_d_prog_70_method_2_code_14) rfl (XS.iload X1.here hx rfl (Jvm.hb hby own_d_prog_70_method_2_code_16) rfl (XS.icmpNo X1.here hx rfl (Jvm.hb hby own_d_prog_70_method_2_code_18) rfl (tlt (by decide)).2.1 (XS.aloadN X1.here hx rfl (Jvm.hb hby own_d_prog_70_method_2_code_21) rfl rfl (XS.iload X1.here hx rfl (Jvm.hb hby own_d_prog_70_method_2_code_22) rfl k_))))))))) ?_
  obtain ⟨cl2, Ar2, qq2, Sz2, Nn2, Hh2, Gg2⟩ := id V2
  have hin2 : ¬ ((0 : Int32) < 0 ∨ cl2.slots.size ≤ ((0 : Int32)).toNatClampNeg) := inb_of Sz2 ⟨by decide, by decide⟩
  refine own_of (T' := T1) (f' := (mkF m 30 #[.val (.ref a1), .val (.double (FP.l2d 0)), .second, .val (.ref a2), .val (.int (5 : Int32)), .val (.int (0 : Int32)), .val (.double (FP.l2d x0)), .second] [(.double (FP.l2d x0)), (.double (FP.l2d 0))])) (fun t_ k_ => (X1.daload hx (j := (0 : Int32)) (v := (.double (FP.l2d x0))) (by rw [e1]; exact Ar2.1) (State.isArrayOf_alike hZ.alike Ar2.2.1) Ar2.2.2 hin2 (Hh2.at hin2 rfl) (g := (mkF m 24 #[.val (.ref a1), .val (.double (FP.l2d 0)), .second, .val (.ref a2), .val (.int (5 : Int32)), .val (.int (0 : Int32)), .unset, .unset] [(.int (0 : Int32)), (.ref a2)])) rfl rfl (Jvm.hb hby own_d_prog_70_method_2_code_24) _ (XS.dstore X1.here hx rfl (Jvm.hb hby own_d_prog_70_method_2_code_25) rfl (l' := #[.val (.ref a1), .val (.double (FP.l2d 0)), .second, .val (.ref a2), .val (.int (5 : Int32)), .val (.int (0 : Int32)), .val (.double (FP.l2d x0)), .second]) rfl (XS.dloadN X1.here hx rfl (Jvm.hb hby own_d_prog_70_method_2_code_27) rfl (XS.dload X1.here hx rfl (Jvm.hb hby own_d_prog_70_method_2_code_28) rfl k_))))) ?_
  have hv0 := ((dadd_w (a := 0) (b := x0) ⟨by decide, by decide⟩ ⟨by omega, by omega⟩).trans (congrArg FP.l2d (Int64.zero_add x0)))
  refine own_of (T' := T1) (f' := (mkF m 35 #[.val (.ref a1), .val (.double (FP.l2d x0)), .second, .val (.ref a2), .val (.int (5 : Int32)), .val (.int ((0 : Int32) + (1 : Int32))), .val (.double (FP.l2d x0)), .second] [])) (fun t_ k_ => (XS.daddS X1.here hx rfl (Jvm.hb hby own_d_prog_70_method_2_code_30) rfl (nn_w hv0) hv0 (XS.dstoreN X1.here hx rfl (Jvm.hb hby own_d_prog_70_method_2_code_31) rfl (l' := #[.val (.ref a1), .val (.double (FP.l2d x0)), .second, .val (.ref a2), .val (.int (5 : Int32)), .val (.int (0 : Int32)), .val (.double (FP.l2d x0)), .second]) rfl (XS.iinc X1.here hx rfl (Jvm.hb hby own_d_prog_70_method_2_code_32) rfl (l' := #[.val (.ref a1), .val (.double (FP.l2d x0)), .second, .val (.ref a2), .val (.int (5 : Int32)), .val (.int ((0 : Int32) + (1 : Int32))), .val (.double (FP.l2d x0)), .second]) rfl k_)))) ?_
  show own_Goes p e below _ T1 (mkF m 35 #[.val (.ref a1), .val (.double (FP.l2d x0)), .second, .val (.ref a2), .val (.int (5 : Int32)), .val (.int (1 : Int32)), .val (.double (FP.l2d x0)), .second] [])
  refine own_of (T' := T1) (f' := (mkF m 24 #[.val (.ref a1), .val (.double (FP.l2d x0)), .second, .val (.ref a2), .val (.int (5 : Int32)), .val (.int (1 : Int32)), .val (.double (FP.l2d x0)), .second] [(.int (1 : Int32)), (.ref a2)])) (fun t_ k_ => (XS.goto X1.here hx rfl (pc0 := 35) (pc' := 14) rfl (Jvm.hb hby own_d_prog_70_method_2_code_35) (by decide) (by decide) (XS.iload X1.here hx rfl (Jvm.hb hby own_d_prog_70_method_2_code_14) rfl (XS.iload X1.here hx rfl (Jvm.hb hby own_d_prog_70_method_2_code_16) rfl (XS.icmpNo X1.here hx rfl (Jvm.hb hby own_d_prog_70_method_2_code_18) rfl (tlt (by decide)).2.1 (XS.aloadN X1.here hx rfl (Jvm.hb hby own_d_prog_70_method_2_code_21) rfl rfl (XS.iload X1.here hx rfl (Jvm.hb hby own_d_prog_70_method_2_code_22) rfl k_))))))) ?_
  obtain ⟨cl3, Ar3, qq3, Sz3, Nn3, Hh3, Gg3⟩ := id V2
  have hin3 : ¬ ((1 : Int32) < 0 ∨ cl3.slots.size ≤ ((1 : Int32)).toNatClampNeg) := inb_of Sz3 ⟨by decide, by decide⟩
  refine own_of (T' := T1) (f' := (mkF m 30 #[.val (.ref a1), .val (.double (FP.l2d x0)), .second, .val (.ref a2), .val (.int (5 : Int32)), .val (.int (1 : Int32)), .val (.double (FP.l2d x1)), .second] [(.double (FP.l2d x1)), (.double (FP.l2d x0))])) (fun t_ k_ => (X1.daload hx (j := (1 : Int32)) (v := (.double (FP.l2d x1))) (by rw [e1]; exact Ar3.1) (State.isArrayOf_alike hZ.alike Ar3.2.1) Ar3.2.2 hin3 (Hh3.at hin3 rfl) (g := (mkF m 24 #[.val (.ref a1), .val (.double (FP.l2d x0)), .second, .val (.ref a2), .val (.int (5 : Int32)), .val (.int (1 : Int32)), .val (.double (FP.l2d x0)), .second] [(.int (1 : Int32)), (.ref a2)])) rfl rfl (Jvm.hb hby own_d_prog_70_method_2_code_24) _ (XS.dstore X1.here hx rfl (Jvm.hb hby own_d_prog_70_method_2_code_25) rfl (l' := #[.val (.ref a1), .val (.double (FP.l2d x0)), .second, .val (.ref a2), .val (.int (5 : Int32)), .val (.int (1 : Int32)), .val (.double (FP.l2d x1)), .second]) rfl (XS.dloadN X1.here hx rfl (Jvm.hb hby own_d_prog_70_method_2_code_27) rfl (XS.dload X1.here hx rfl (Jvm.hb hby own_d_prog_70_method_2_code_28) rfl k_))))) ?_
  have hv1 := (dadd_w (a := x0) (b := x1) ⟨(by omega), (by omega)⟩ ⟨by omega, by omega⟩)
  refine own_of (T' := T1) (f' := (mkF m 35 #[.val (.ref a1), .val (.double (FP.l2d (x0 + x1))), .second, .val (.ref a2), .val (.int (5 : Int32)), .val (.int ((1 : Int32) + (1 : Int32))), .val (.double (FP.l2d x1)), .second] [])) (fun t_ k_ => (XS.daddS X1.here hx rfl (Jvm.hb hby own_d_prog_70_method_2_code_30) rfl (nn_w hv1) hv1 (XS.dstoreN X1.here hx rfl (Jvm.hb hby own_d_prog_70_method_2_code_31) rfl (l' := #[.val (.ref a1), .val (.double (FP.l2d (x0 + x1))), .second, .val (.ref a2), .val (.int (5 : Int32)), .val (.int (1 : Int32)), .val (.double (FP.l2d x1)), .second]) rfl (XS.iinc X1.here hx rfl (Jvm.hb hby own_d_prog_70_method_2_code_32) rfl (l' := #[.val (.ref a1), .val (.double (FP.l2d (x0 + x1))), .second, .val (.ref a2), .val (.int (5 : Int32)), .val (.int ((1 : Int32) + (1 : Int32))), .val (.double (FP.l2d x1)), .second]) rfl k_)))) ?_
  show own_Goes p e below _ T1 (mkF m 35 #[.val (.ref a1), .val (.double (FP.l2d (x0 + x1))), .second, .val (.ref a2), .val (.int (5 : Int32)), .val (.int (2 : Int32)), .val (.double (FP.l2d x1)), .second] [])
  refine own_of (T' := T1) (f' := (mkF m 24 #[.val (.ref a1), .val (.double (FP.l2d (x0 + x1))), .second, .val (.ref a2), .val (.int (5 : Int32)), .val (.int (2 : Int32)), .val (.double (FP.l2d x1)), .second] [(.int (2 : Int32)), (.ref a2)])) (fun t_ k_ => (XS.goto X1.here hx rfl (pc0 := 35) (pc' := 14) rfl (Jvm.hb hby own_d_prog_70_method_2_code_35) (by decide) (by decide) (XS.iload X1.here hx rfl (Jvm.hb hby own_d_prog_70_method_2_code_14) rfl (XS.iload X1.here hx rfl (Jvm.hb hby own_d_prog_70_method_2_code_16) rfl (XS.icmpNo X1.here hx rfl (Jvm.hb hby own_d_prog_70_method_2_code_18) rfl (tlt (by decide)).2.1 (XS.aloadN X1.here hx rfl (Jvm.hb hby own_d_prog_70_method_2_code_21) rfl rfl (XS.iload X1.here hx rfl (Jvm.hb hby own_d_prog_70_method_2_code_22) rfl k_))))))) ?_
  obtain ⟨cl4, Ar4, qq4, Sz4, Nn4, Hh4, Gg4⟩ := id V2
  have hin4 : ¬ ((2 : Int32) < 0 ∨ cl4.slots.size ≤ ((2 : Int32)).toNatClampNeg) := inb_of Sz4 ⟨by decide, by decide⟩
  refine own_of (T' := T1) (f' := (mkF m 30 #[.val (.ref a1), .val (.double (FP.l2d (x0 + x1))), .second, .val (.ref a2), .val (.int (5 : Int32)), .val (.int (2 : Int32)), .val (.double (FP.l2d x2)), .second] [(.double (FP.l2d x2)), (.double (FP.l2d (x0 + x1)))])) (fun t_ k_ => (X1.daload hx (j := (2 : Int32)) (v := (.double (FP.l2d x2))) (by rw [e1]; exact Ar4.1) (State.isArrayOf_alike hZ.alike Ar4.2.1) Ar4.2.2 hin4 (Hh4.at hin4 rfl) (g := (mkF m 24 #[.val (.ref a1), .val (.double (FP.l2d (x0 + x1))), .second, .val (.ref a2), .val (.int (5 : Int32)), .val (.int (2 : Int32)), .val (.double (FP.l2d x1)), .second] [(.int (2 : Int32)), (.ref a2)])) rfl rfl (Jvm.hb hby own_d_prog_70_method_2_code_24) _ (XS.dstore X1.here hx rfl (Jvm.hb hby own_d_prog_70_method_2_code_25) rfl (l' := #[.val (.ref a1), .val (.double (FP.l2d (x0 + x1))), .second, .val (.ref a2), .val (.int (5 : Int32)), .val (.int (2 : Int32)), .val (.double (FP.l2d x2)), .second]) rfl (XS.dloadN X1.here hx rfl (Jvm.hb hby own_d_prog_70_method_2_code_27) rfl (XS.dload X1.here hx rfl (Jvm.hb hby own_d_prog_70_method_2_code_28) rfl k_))))) ?_
  have hv2 := (dadd_w (a := (x0 + x1)) (b := x2) ⟨(by rw [t1]; omega), (by rw [t1]; omega)⟩ ⟨by omega, by omega⟩)
  refine own_of (T' := T1) (f' := (mkF m 35 #[.val (.ref a1), .val (.double (FP.l2d ((x0 + x1) + x2))), .second, .val (.ref a2), .val (.int (5 : Int32)), .val (.int ((2 : Int32) + (1 : Int32))), .val (.double (FP.l2d x2)), .second] [])) (fun t_ k_ => (XS.daddS X1.here hx rfl (Jvm.hb hby own_d_prog_70_method_2_code_30) rfl (nn_w hv2) hv2 (XS.dstoreN X1.here hx rfl (Jvm.hb hby own_d_prog_70_method_2_code_31) rfl (l' := #[.val (.ref a1), .val (.double (FP.l2d ((x0 + x1) + x2))), .second, .val (.ref a2), .val (.int (5 : Int32)), .val (.int (2 : Int32)), .val (.double (FP.l2d x2)), .second]) rfl (XS.iinc X1.here hx rfl (Jvm.hb hby own_d_prog_70_method_2_code_32) rfl (l' := #[.val (.ref a1), .val (.double (FP.l2d ((x0 + x1) + x2))), .second, .val (.ref a2), .val (.int (5 : Int32)), .val (.int ((2 : Int32) + (1 : Int32))), .val (.double (FP.l2d x2)), .second]) rfl k_)))) ?_
  show own_Goes p e below _ T1 (mkF m 35 #[.val (.ref a1), .val (.double (FP.l2d ((x0 + x1) + x2))), .second, .val (.ref a2), .val (.int (5 : Int32)), .val (.int (3 : Int32)), .val (.double (FP.l2d x2)), .second] [])
  refine own_of (T' := T1) (f' := (mkF m 24 #[.val (.ref a1), .val (.double (FP.l2d ((x0 + x1) + x2))), .second, .val (.ref a2), .val (.int (5 : Int32)), .val (.int (3 : Int32)), .val (.double (FP.l2d x2)), .second] [(.int (3 : Int32)), (.ref a2)])) (fun t_ k_ => (XS.goto X1.here hx rfl (pc0 := 35) (pc' := 14) rfl (Jvm.hb hby own_d_prog_70_method_2_code_35) (by decide) (by decide) (XS.iload X1.here hx rfl (Jvm.hb hby own_d_prog_70_method_2_code_14) rfl (XS.iload X1.here hx rfl (Jvm.hb hby own_d_prog_70_method_2_code_16) rfl (XS.icmpNo X1.here hx rfl (Jvm.hb hby own_d_prog_70_method_2_code_18) rfl (tlt (by decide)).2.1 (XS.aloadN X1.here hx rfl (Jvm.hb hby own_d_prog_70_method_2_code_21) rfl rfl (XS.iload X1.here hx rfl (Jvm.hb hby own_d_prog_70_method_2_code_22) rfl k_))))))) ?_
  obtain ⟨cl5, Ar5, qq5, Sz5, Nn5, Hh5, Gg5⟩ := id V2
  have hin5 : ¬ ((3 : Int32) < 0 ∨ cl5.slots.size ≤ ((3 : Int32)).toNatClampNeg) := inb_of Sz5 ⟨by decide, by decide⟩
  refine own_of (T' := T1) (f' := (mkF m 30 #[.val (.ref a1), .val (.double (FP.l2d ((x0 + x1) + x2))), .second, .val (.ref a2), .val (.int (5 : Int32)), .val (.int (3 : Int32)), .val (.double (FP.l2d x3)), .second] [(.double (FP.l2d x3)), (.double (FP.l2d ((x0 + x1) + x2)))])) (fun t_ k_ => (X1.daload hx (j := (3 : Int32)) (v := (.double (FP.l2d x3))) (by rw [e1]; exact Ar5.1) (State.isArrayOf_alike hZ.alike Ar5.2.1) Ar5.2.2 hin5 (Hh5.at hin5 rfl) (g := (mkF m 24 #[.val (.ref a1), .val (.double (FP.l2d ((x0 + x1) + x2))), .second, .val (.ref a2), .val (.int (5 : Int32)), .val (.int (3 : Int32)), .val (.double (FP.l2d x2)), .second] [(.int (3 : Int32)), (.ref a2)])) rfl rfl (Jvm.hb hby own_d_prog_70_method_2_code_24) _ (XS.dstore X1.here hx rfl (Jvm.hb hby own_d_prog_70_method_2_code_25) rfl (l' := #[.val (.ref a1), .val (.double (FP.l2d ((x0 + x1) + x2))), .second, .val (.ref a2), .val (.int (5 : Int32)), .val (.int (3 : Int32)), .val (.double (FP.l2d x3)), .second]) rfl (XS.dloadN X1.here hx rfl (Jvm.hb hby own_d_prog_70_method_2_code_27) rfl (XS.dload X1.here hx rfl (Jvm.hb hby own_d_prog_70_method_2_code_28) rfl k_))))) ?_
  have hv3 := (dadd_w (a := ((x0 + x1) + x2)) (b := x3) ⟨(by rw [t2]; omega), (by rw [t2]; omega)⟩ ⟨by omega, by omega⟩)
  refine own_of (T' := T1) (f' := (mkF m 35 #[.val (.ref a1), .val (.double (FP.l2d (((x0 + x1) + x2) + x3))), .second, .val (.ref a2), .val (.int (5 : Int32)), .val (.int ((3 : Int32) + (1 : Int32))), .val (.double (FP.l2d x3)), .second] [])) (fun t_ k_ => (XS.daddS X1.here hx rfl (Jvm.hb hby own_d_prog_70_method_2_code_30) rfl (nn_w hv3) hv3 (XS.dstoreN X1.here hx rfl (Jvm.hb hby own_d_prog_70_method_2_code_31) rfl (l' := #[.val (.ref a1), .val (.double (FP.l2d (((x0 + x1) + x2) + x3))), .second, .val (.ref a2), .val (.int (5 : Int32)), .val (.int (3 : Int32)), .val (.double (FP.l2d x3)), .second]) rfl (XS.iinc X1.here hx rfl (Jvm.hb hby own_d_prog_70_method_2_code_32) rfl (l' := #[.val (.ref a1), .val (.double (FP.l2d (((x0 + x1) + x2) + x3))), .second, .val (.ref a2), .val (.int (5 : Int32)), .val (.int ((3 : Int32) + (1 : Int32))), .val (.double (FP.l2d x3)), .second]) rfl k_)))) ?_
  show own_Goes p e below _ T1 (mkF m 35 #[.val (.ref a1), .val (.double (FP.l2d (((x0 + x1) + x2) + x3))), .second, .val (.ref a2), .val (.int (5 : Int32)), .val (.int (4 : Int32)), .val (.double (FP.l2d x3)), .second] [])
  refine own_of (T' := T1) (f' := (mkF m 24 #[.val (.ref a1), .val (.double (FP.l2d (((x0 + x1) + x2) + x3))), .second, .val (.ref a2), .val (.int (5 : Int32)), .val (.int (4 : Int32)), .val (.double (FP.l2d x3)), .second] [(.int (4 : Int32)), (.ref a2)])) (fun t_ k_ => (XS.goto X1.here hx rfl (pc0 := 35) (pc' := 14) rfl (Jvm.hb hby own_d_prog_70_method_2_code_35) (by decide) (by decide) (XS.iload X1.here hx rfl (Jvm.hb hby own_d_prog_70_method_2_code_14) rfl (XS.iload X1.here hx rfl (Jvm.hb hby own_d_prog_70_method_2_code_16) rfl (XS.icmpNo X1.here hx rfl (Jvm.hb hby own_d_prog_70_method_2_code_18) rfl (tlt (by decide)).2.1 (XS.aloadN X1.here hx rfl (Jvm.hb hby own_d_prog_70_method_2_code_21) rfl rfl (XS.iload X1.here hx rfl (Jvm.hb hby own_d_prog_70_method_2_code_22) rfl k_))))))) ?_
  obtain ⟨cl6, Ar6, qq6, Sz6, Nn6, Hh6, Gg6⟩ := id V2
  have hin6 : ¬ ((4 : Int32) < 0 ∨ cl6.slots.size ≤ ((4 : Int32)).toNatClampNeg) := inb_of Sz6 ⟨by decide, by decide⟩
  refine own_of (T' := T1) (f' := (mkF m 30 #[.val (.ref a1), .val (.double (FP.l2d (((x0 + x1) + x2) + x3))), .second, .val (.ref a2), .val (.int (5 : Int32)), .val (.int (4 : Int32)), .val (.double (FP.l2d x4)), .second] [(.double (FP.l2d x4)), (.double (FP.l2d (((x0 + x1) + x2) + x3)))])) (fun t_ k_ => (X1.daload hx (j := (4 : Int32)) (v := (.double (FP.l2d x4))) (by rw [e1]; exact Ar6.1) (State.isArrayOf_alike hZ.alike Ar6.2.1) Ar6.2.2 hin6 (Hh6.at hin6 rfl) (g := (mkF m 24 #[.val (.ref a1), .val (.double (FP.l2d (((x0 + x1) + x2) + x3))), .second, .val (.ref a2), .val (.int (5 : Int32)), .val (.int (4 : Int32)), .val (.double (FP.l2d x3)), .second] [(.int (4 : Int32)), (.ref a2)])) rfl rfl (Jvm.hb hby own_d_prog_70_method_2_code_24) _ (XS.dstore X1.here hx rfl (Jvm.hb hby own_d_prog_70_method_2_code_25) rfl (l' := #[.val (.ref a1), .val (.double (FP.l2d (((x0 + x1) + x2) + x3))), .second, .val (.ref a2), .val (.int (5 : Int32)), .val (.int (4 : Int32)), .val (.double (FP.l2d x4)), .second]) rfl (XS.dloadN X1.here hx rfl (Jvm.hb hby own_d_prog_70_method_2_code_27) rfl (XS.dload X1.here hx rfl (Jvm.hb hby own_d_prog_70_method_2_code_28) rfl k_))))) ?_
  have hv4 := (dadd_w (a := (((x0 + x1) + x2) + x3)) (b := x4) ⟨(by rw [t3]; omega), (by rw [t3]; omega)⟩ ⟨by omega, by omega⟩)
  refine own_of (T' := T1) (f' := (mkF m 35 #[.val (.ref a1), .val (.double (FP.l2d ((((x0 + x1) + x2) + x3) + x4))), .second, .val (.ref a2), .val (.int (5 : Int32)), .val (.int ((4 : Int32) + (1 : Int32))), .val (.double (FP.l2d x4)), .second] [])) (fun t_ k_ => (XS.daddS X1.here hx rfl (Jvm.hb hby own_d_prog_70_method_2_code_30) rfl (nn_w hv4) hv4 (XS.dstoreN X1.here hx rfl (Jvm.hb hby own_d_prog_70_method_2_code_31) rfl (l' := #[.val (.ref a1), .val (.double (FP.l2d ((((x0 + x1) + x2) + x3) + x4))), .second, .val (.ref a2), .val (.int (5 : Int32)), .val (.int (4 : Int32)), .val (.double (FP.l2d x4)), .second]) rfl (XS.iinc X1.here hx rfl (Jvm.hb hby own_d_prog_70_method_2_code_32) rfl (l' := #[.val (.ref a1), .val (.double (FP.l2d ((((x0 + x1) + x2) + x3) + x4))), .second, .val (.ref a2), .val (.int (5 : Int32)), .val (.int ((4 : Int32) + (1 : Int32))), .val (.double (FP.l2d x4)), .second]) rfl k_)))) ?_
  show own_Goes p e below _ T1 (mkF m 35 #[.val (.ref a1), .val (.double (FP.l2d ((((x0 + x1) + x2) + x3) + x4))), .second, .val (.ref a2), .val (.int (5 : Int32)), .val (.int (5 : Int32)), .val (.double (FP.l2d x4)), .second] [])
  obtain ⟨T7, X7, e7, st7⟩ := getF X1 hx hZ hown (host := "") (Or.inl (hw _ (List.mem_of_getElem? (i := 19) rfl))) Via.refl e1 F1 (g := (mkF m 40 #[.val (.ref a1), .val (.double (FP.l2d ((((x0 + x1) + x2) + x3) + x4))), .second, .val (.ref a2), .val (.int (5 : Int32)), .val (.int (5 : Int32)), .val (.double (FP.l2d x4)), .second] [(.ref a1), (.double (FP.l2d ((((x0 + x1) + x2) + x3) + x4)))])) rfl rfl (Jvm.hb hby own_d_prog_70_method_2_code_40)
  refine own_of (T' := T7) (f' := (mkF m 43 #[.val (.ref a1), .val (.double (FP.l2d ((((x0 + x1) + x2) + x3) + x4))), .second, .val (.ref a2), .val (.int (5 : Int32)), .val (.int (5 : Int32)), .val (.double (FP.l2d x4)), .second] [(.ref a2), (.double (FP.l2d ((((x0 + x1) + x2) + x3) + x4)))])) (fun t_ k_ => (XS.goto X1.here hx rfl (pc0 := 35) (pc' := 14) rfl (Jvm.hb hby own_d_prog_70_method_2_code_35) (by decide) (by decide) (XS.iload X1.here hx rfl (Jvm.hb hby own_d_prog_70_method_2_code_14) rfl (XS.iload X1.here hx rfl (Jvm.hb hby own_d_prog_70_method_2_code_16) rfl (XS.icmpYes X1.here hx rfl (pc0 := 18) (pc' := 38) rfl (Jvm.hb hby own_d_prog_70_method_2_code_18) rfl (flt (by decide)).2.1 (by decide) (by decide) (XS.dloadN X1.here hx rfl (Jvm.hb hby own_d_prog_70_method_2_code_38) rfl (XS.aloadN X1.here hx rfl (Jvm.hb hby own_d_prog_70_method_2_code_39) rfl rfl (st7 _ k_)))))))) ?_
  obtain ⟨clz, Arz, -, Szz, Nnz, -⟩ := id V2
  refine own_of (T' := T7) (f' := (mkF m 44 #[.val (.ref a1), .val (.double (FP.l2d ((((x0 + x1) + x2) + x3) + x4))), .second, .val (.ref a2), .val (.int (5 : Int32)), .val (.int (5 : Int32)), .val (.double (FP.l2d x4)), .second] [(.int (clz.slots.size).toInt32), (.double (FP.l2d ((((x0 + x1) + x2) + x3) + x4)))])) (fun t_ k_ => (X7.arraylength hx (by rw [e7]; exact Arz.1) (State.isArrayOf_alike hZ.alike Arz.2.1) (g := (mkF m 43 #[.val (.ref a1), .val (.double (FP.l2d ((((x0 + x1) + x2) + x3) + x4))), .second, .val (.ref a2), .val (.int (5 : Int32)), .val (.int (5 : Int32)), .val (.double (FP.l2d x4)), .second] [(.ref a2), (.double (FP.l2d ((((x0 + x1) + x2) + x3) + x4)))])) rfl rfl (Jvm.hb hby own_d_prog_70_method_2_code_43) _ k_)) ?_
  rw [len_of Szz Nnz]
  refine own_of (T' := T7) (f' := (mkF m 46 #[.val (.ref a1), .val (.double (FP.l2d ((((x0 + x1) + x2) + x3) + x4))), .second, .val (.ref a2), .val (.int (5 : Int32)), .val (.int (5 : Int32)), .val (.double (FP.l2d x4)), .second] [(.double (FP.ddiv (FP.l2d ((((x0 + x1) + x2) + x3) + x4)) (FP.l2d (5 : Int32).toInt64)))])) (fun t_ k_ => (XS.i2dS X7.here hx rfl (Jvm.hb hby own_d_prog_70_method_2_code_44) rfl (i2d_w _) (XS.ddivS X7.here hx rfl (Jvm.hb hby own_d_prog_70_method_2_code_45) rfl (own_nn _ _ own_nz5) rfl k_))) ?_
  obtain ⟨fs, hr, hrun, hended, hW, hsame⟩ := X7.leave (v := some (.double (FP.ddiv (FP.l2d ((((x0 + x1) + x2) + x3) + x4)) (FP.l2d (5 : Int32).toInt64)))) (fun h => by rw [Bd.returns] at h; cases h)
  exact ⟨_, _, own_retD X7 hx Bd.returns (Jvm.hb hby own_d_prog_70_method_2_code_46) hr, hrun, hended, _, _, rfl, (by show own_Q_mean5 Z a1 a2 k x0 x1 x2 x3 x4 h0 n0 _ T7.heap _; rw [e7]; exact ⟨rfl, N0, rfl⟩), ⟨_, rfl⟩, hW, hsame.mono (by decide) (by decide)⟩
theorem own_four (x n : Int32) (h : (2 : Int32) + (x &&& (3 : Int32)) = n) : n = 2 ∨ n = 3 ∨ n = 4 ∨ n = 5 := by
  have e : (x &&& (3 : Int32)).toInt = x.toInt % (2 ^ 2 : Nat) := c_mask x 3 2 (by decide) (by decide)
  have q : (x &&& (3 : Int32)).toInt = 0 ∨ (x &&& (3 : Int32)).toInt = 1 ∨ (x &&& (3 : Int32)).toInt = 2 ∨ (x &&& (3 : Int32)).toInt = 3 := by omega
  rcases q with q | q | q | q
  · exact Or.inl (by rw [← h, show x &&& (3 : Int32) = 0 from Int32.toInt_inj.mp q]; rfl)
  · exact Or.inr (Or.inl (by rw [← h, show x &&& (3 : Int32) = 1 from Int32.toInt_inj.mp q]; rfl))
  · exact Or.inr (Or.inr (Or.inl (by rw [← h, show x &&& (3 : Int32) = 2 from Int32.toInt_inj.mp q]; rfl)))
  · exact Or.inr (Or.inr (Or.inr (by rw [← h, show x &&& (3 : Int32) = 3 from Int32.toInt_inj.mp q]; rfl)))
theorem own_pn_1 : plainName "com/example/orunmila/orunmila/simulate/ReturnsGetMeanPinLaw" = true := by first | (simp [plainName, overriddenIn]; done) | decide +kernel
theorem own_ef_0 (m : MethodId) (p0 : Int32) (p1 : Int32) (p2 : Int32) (p3 : Int32) (p4 : Int32) (p5 : Int32) : entryFrame m #[(.int p0), (.int p1), (.int p2), (.int p3), (.int p4), (.int p5)] maxLocals = mkF m 0 #[.val (.int p0), .val (.int p1), .val (.int p2), .val (.int p3), .val (.int p4), .val (.int p5), .unset, .unset, .unset, .unset, .unset, .unset, .unset, .unset, .unset] [] := by first | (simp [entryFrame, mkF, argsToLocals, Value.category, maxLocals]; done) | rfl
def own_Q_0 (Z : State) (p0 : Int32) (p1 : Int32) (p2 : Int32) (p3 : Int32) (p4 : Int32) (p5 : Int32)  (h0 : Heap) (n0 : Nat) (v : Option Value) (h : Heap) (L : List Loc) : Prop := v = some (.int 1) ∧ Fr n0 L
theorem own_pd_0 : parseMethodDescriptor "([D)V" = some ⟨[(.array .double)], none⟩ := by decide +kernel
theorem own_pd_1 : parseMethodDescriptor "()D" = some ⟨[], some .double⟩ := by decide +kernel
set_option maxRecDepth 65536 in
set_option maxHeartbeats 40000000 in
theorem own_rm_0 (l : Launch) (Z : State) (a0 : Array Value) (hw : ∀ d ∈ tables_1, d.before a0 Z = true) (ws : List Jvm.Cond) (p0 : Int32) (p1 : Int32) (p2 : Int32) (p3 : Int32) (p4 : Int32) (p5 : Int32)  (h0 : Heap) (n0 : Nat) (Z0 : n0 ≤ h0.size)  :
    MetFree l x (head1 (Jvm.Cond.code x code maxLocals ret :: ws) room_1) (fun a U => a = #[(.int p0), (.int p1), (.int p2), (.int p3), (.int p4), (.int p5)] ∧ Z.Warmed39 U.vm ∧ U.heap = h0) (fun _ _ _ _ _ => True) (fun _ U o U' => ∃ v L, o = .returned v ∧ own_Q_0 Z p0 p1 p2 p3 p4 p5  h0 n0 v U'.heap L ∧ FrameEnd U o U' L room_1.cells room_1.slots) := by
  refine MetFree.of_bodySF (plainFor_of_name own_pn_1) hisR ?_
  intro p e s m args below meth c s₁ Bd hml0 hP hK
  obtain ⟨rfl, hZ, hh⟩ := hP
  have hx := Bd.exec
  have hby := Bd.bytes
  have hml : c.maxLocals = 15 := hml0
  have hown : s.vm.findClass "com/example/orunmila/orunmila/simulate/ReturnsGetMeanPinLaw" = some m.cls := findClass_of_methodNamed Bd.named
  have hnm := (name_of_methodNamed Bd.named Bd.method).1
  have X0 : Stand p l e room_1 s m #[(.int p0), (.int p1), (.int p2), (.int p3), (.int p4), (.int p5)] below meth c s₁ [] 0 0 := Stand.of_body Bd
  have e0 : s₁.heap = h0 := by rw [← hh, Bd.state]; rfl
  have N0 := Fr.nil n0
  refine own_start (own_ef_0 m p0 p1 p2 p3 p4 p5) ?_
  refine own_of (T' := s₁) (f' := (mkF m 5 #[.val (.int p0), .val (.int p1), .val (.int p2), .val (.int p3), .val (.int p4), .val (.int p5), .unset, .unset, .unset, .unset, .unset, .unset, .unset, .unset, .unset] [(.int ((2 : Int32) + (p0 &&& (3 : Int32))))])) (fun t_ k_ => (XS.iconst X0.here hx rfl (Jvm.hb hby at_0) (XS.iloadN X0.here hx rfl (Jvm.hb hby at_1) rfl (XS.iconst X0.here hx rfl (Jvm.hb hby at_2) (XS.iand X0.here hx rfl (Jvm.hb hby at_3) rfl (XS.iadd X0.here hx rfl (Jvm.hb hby at_4) rfl k_)))))) ?_
  obtain ⟨n, hn⟩ : ∃ z : Int32, ((2 : Int32) + (p0 &&& (3 : Int32))) = z := ⟨_, rfl⟩
  rw [hn]
  rcases own_four p0 n hn with rfl | rfl | rfl | rfl
  · skip
    refine own_of (T' := s₁) (f' := (mkF m 16 #[.val (.int p0), .val (.int p1), .val (.int p2), .val (.int p3), .val (.int p4), .val (.int p5), .val (.int (2 : Int32)), .unset, .val (.long ((p1.toInt64) + (p2.toInt64))), .second, .unset, .unset, .unset, .unset, .unset] [(.int (2 : Int32))])) (fun t_ k_ => (XS.istore X0.here hx rfl (Jvm.hb hby at_5) rfl (l' := #[.val (.int p0), .val (.int p1), .val (.int p2), .val (.int p3), .val (.int p4), .val (.int p5), .val (.int (2 : Int32)), .unset, .unset, .unset, .unset, .unset, .unset, .unset, .unset]) rfl (XS.iloadN X0.here hx rfl (Jvm.hb hby at_7) rfl (XS.i2l X0.here hx rfl (Jvm.hb hby at_8) rfl (XS.iloadN X0.here hx rfl (Jvm.hb hby at_9) rfl (XS.i2l X0.here hx rfl (Jvm.hb hby at_10) rfl (XS.ladd X0.here hx rfl (Jvm.hb hby at_11) rfl (XS.lstore X0.here hx rfl (Jvm.hb hby at_12) rfl (l' := #[.val (.int p0), .val (.int p1), .val (.int p2), .val (.int p3), .val (.int p4), .val (.int p5), .val (.int (2 : Int32)), .unset, .val (.long ((p1.toInt64) + (p2.toInt64))), .second, .unset, .unset, .unset, .unset, .unset]) rfl (XS.iload X0.here hx rfl (Jvm.hb hby at_14) rfl k_))))))))) ?_
    refine own_of (T' := s₁) (f' := (mkF m 21 #[.val (.int p0), .val (.int p1), .val (.int p2), .val (.int p3), .val (.int p4), .val (.int p5), .val (.int (2 : Int32)), .unset, .val (.long ((p1.toInt64) + (p2.toInt64))), .second, .unset, .unset, .unset, .unset, .unset] [(.int (2 : Int32))])) (fun t_ k_ => (XS.iconst X0.here hx rfl (Jvm.hb hby at_16) (XS.icmpNo X0.here hx rfl (Jvm.hb hby at_17) rfl (teq rfl).2 (XS.iconst X0.here hx rfl (Jvm.hb hby at_20) k_)))) ?_
    obtain ⟨T1, h1, k1, X1, e1, E1, A1, Ex1, st1⟩ := newPE X0 hx hZ (hw _ (List.mem_of_getElem? (i := 0) rfl)) e0 (g := (mkF m 21 #[.val (.int p0), .val (.int p1), .val (.int p2), .val (.int p3), .val (.int p4), .val (.int p5), .val (.int (2 : Int32)), .unset, .val (.long ((p1.toInt64) + (p2.toInt64))), .second, .unset, .unset, .unset, .unset, .unset] [(.int (2 : Int32))])) rfl (Jvm.hb hby at_21) rfl (by decide) (cap := 2) (by decide) (by decide) (by decide) (by decide) (ad := "[D") (by decide)
    obtain ⟨ar, g1⟩ : ∃ z, z = h0.size := ⟨_, rfl⟩
    rw [← g1] at A1 Ex1 st1
    have g_ar : n0 ≤ ar := Nat.le_trans Z0 (Nat.le_of_eq g1.symm)
    have f2 := Nat.le_trans Z0 E1.1
    have f3 : Arv Z h1 ar k1 .double (2 : Int32) [(.double (FP.l2d 0)), (.double (FP.l2d 0))] (.double (FP.l2d 0)) := (Arv.newD A1 (by decide)).pad (pad_rep [] (.double (FP.l2d 0)) 2)
    refine own_of (T' := T1) (f' := (mkF m 27 #[.val (.int p0), .val (.int p1), .val (.int p2), .val (.int p3), .val (.int p4), .val (.int p5), .val (.int (2 : Int32)), .unset, .val (.long ((p1.toInt64) + (p2.toInt64))), .second, .unset, .unset, .unset, .unset, .unset] [(.double (FP.l2d p1.toInt64)), (.int (0 : Int32)), (.ref ar), (.ref ar)])) (fun t_ k_ => (st1 _ (XS.dup X1.here hx rfl (Jvm.hb hby at_23) rfl rfl (XS.iconst X1.here hx rfl (Jvm.hb hby at_24) (XS.iloadN X1.here hx rfl (Jvm.hb hby at_25) rfl (XS.i2dS X1.here hx rfl (Jvm.hb hby at_26) rfl (i2d_w _) k_)))))) ?_
    obtain ⟨cl4, Ar4, qq4, Sz4, Nn4, Hh4, Gg4⟩ := id f3
    have hin4 : ¬ ((0 : Int32) < 0 ∨ cl4.slots.size ≤ ((0 : Int32)).toNatClampNeg) := inb_of Sz4 ⟨by decide, by decide⟩
    obtain ⟨T5, h5, X5, e5, W5, st5⟩ := stD X1 hx hZ e1 Ar4 (j := (0 : Int32)) hin4 (g := (mkF m 27 #[.val (.int p0), .val (.int p1), .val (.int p2), .val (.int p3), .val (.int p4), .val (.int p5), .val (.int (2 : Int32)), .unset, .val (.long ((p1.toInt64) + (p2.toInt64))), .second, .unset, .unset, .unset, .unset, .unset] [(.double (FP.l2d p1.toInt64)), (.int (0 : Int32)), (.ref ar), (.ref ar)])) rfl rfl (Jvm.hb hby at_27)
    refine own_of (T' := T5) (f' := (mkF m 28 #[.val (.int p0), .val (.int p1), .val (.int p2), .val (.int p3), .val (.int p4), .val (.int p5), .val (.int (2 : Int32)), .unset, .val (.long ((p1.toInt64) + (p2.toInt64))), .second, .unset, .unset, .unset, .unset, .unset] [(.ref ar)])) (fun t_ k_ => (st5 _ k_)) ?_
    have f6 := Arv.set Ar4 qq4 Sz4 Nn4 Hh4 Gg4 rfl W5 0 rfl (Nat.le_of_ble_eq_true rfl)
    have N5 := Fr.snoc X5 N0 g_ar
    have f7 := Nat.le_trans f2 (Keep.of_wr W5).1
    have f8 := Ex1.wr W5
    refine own_of (T' := T5) (f' := (mkF m 32 #[.val (.int p0), .val (.int p1), .val (.int p2), .val (.int p3), .val (.int p4), .val (.int p5), .val (.int (2 : Int32)), .unset, .val (.long ((p1.toInt64) + (p2.toInt64))), .second, .unset, .unset, .unset, .unset, .unset] [(.double (FP.l2d p2.toInt64)), (.int (1 : Int32)), (.ref ar), (.ref ar)])) (fun t_ k_ => (XS.dup X5.here hx rfl (Jvm.hb hby at_28) rfl rfl (XS.iconst X5.here hx rfl (Jvm.hb hby at_29) (XS.iloadN X5.here hx rfl (Jvm.hb hby at_30) rfl (XS.i2dS X5.here hx rfl (Jvm.hb hby at_31) rfl (i2d_w _) k_))))) ?_
    obtain ⟨cl10, Ar10, qq10, Sz10, Nn10, Hh10, Gg10⟩ := id f6
    have hin10 : ¬ ((1 : Int32) < 0 ∨ cl10.slots.size ≤ ((1 : Int32)).toNatClampNeg) := inb_of Sz10 ⟨by decide, by decide⟩
    obtain ⟨T11, h11, X11, e11, W11, st11⟩ := stD X5 hx hZ e5 Ar10 (j := (1 : Int32)) hin10 (g := (mkF m 32 #[.val (.int p0), .val (.int p1), .val (.int p2), .val (.int p3), .val (.int p4), .val (.int p5), .val (.int (2 : Int32)), .unset, .val (.long ((p1.toInt64) + (p2.toInt64))), .second, .unset, .unset, .unset, .unset, .unset] [(.double (FP.l2d p2.toInt64)), (.int (1 : Int32)), (.ref ar), (.ref ar)])) rfl rfl (Jvm.hb hby at_32)
    refine own_of (T' := T11) (f' := (mkF m 33 #[.val (.int p0), .val (.int p1), .val (.int p2), .val (.int p3), .val (.int p4), .val (.int p5), .val (.int (2 : Int32)), .unset, .val (.long ((p1.toInt64) + (p2.toInt64))), .second, .unset, .unset, .unset, .unset, .unset] [(.ref ar)])) (fun t_ k_ => (st11 _ k_)) ?_
    have f12 := Arv.set Ar10 qq10 Sz10 Nn10 Hh10 Gg10 rfl W11 1 rfl (Nat.le_of_ble_eq_true rfl)
    have N11 := Fr.snoc X11 N5 g_ar
    have f13 := Nat.le_trans f7 (Keep.of_wr W11).1
    have f14 := f8.wr W11
    refine own_of (T' := T11) (f' := (mkF m 179 #[.val (.int p0), .val (.int p1), .val (.int p2), .val (.int p3), .val (.int p4), .val (.int p5), .val (.int (2 : Int32)), .val (.ref ar), .val (.long ((p1.toInt64) + (p2.toInt64))), .second, .unset, .unset, .unset, .unset, .unset] [])) (fun t_ k_ => (XS.astore X11.here hx rfl (Jvm.hb hby at_33) rfl rfl (l' := #[.val (.int p0), .val (.int p1), .val (.int p2), .val (.int p3), .val (.int p4), .val (.int p5), .val (.int (2 : Int32)), .val (.ref ar), .val (.long ((p1.toInt64) + (p2.toInt64))), .second, .unset, .unset, .unset, .unset, .unset]) rfl (XS.goto X11.here hx rfl (pc0 := 35) (pc' := 179) rfl (Jvm.hb hby at_35) (by decide) (by decide) k_))) ?_
    obtain ⟨T16, h16, X16, e16, E16, A16, D16, -, st16⟩ := newO X11 hx hZ hown (hw _ (List.mem_of_getElem? (i := 1) rfl)) (hw _ (List.mem_of_getElem? (i := 2) rfl)) (hw _ (List.mem_of_getElem? (i := 3) rfl)) e11 (g := (mkF m 179 #[.val (.int p0), .val (.int p1), .val (.int p2), .val (.int p3), .val (.int p4), .val (.int p5), .val (.int (2 : Int32)), .val (.ref ar), .val (.long ((p1.toInt64) + (p2.toInt64))), .second, .unset, .unset, .unset, .unset, .unset] [])) rfl (Jvm.hb hby at_179) (by decide) (by decide)
    obtain ⟨o, g16⟩ : ∃ z, z = h11.size := ⟨_, rfl⟩
    rw [← g16] at A16 D16 st16
    have ne_ar_o : ar ≠ o := by rw [g16]; exact Nat.ne_of_lt f14.lt
    have g_o : n0 ≤ o := Nat.le_trans f13 (Nat.le_of_eq g16.symm)
    have f17 := Nat.le_trans f13 E16.1
    have f18 := f14.ext E16
    have f19 := f12.ext E16
    have f20 : Fld Z h16 o "com/example/orunmila/orunmila/simulate/Returns" "m_aReturns" "[D" .null := D16 (Or.inr (hw _ (List.mem_of_getElem? (i := 20) rfl))) (ty := (.array .double)) (by decide)
    refine own_of (T' := T16) (f' := (mkF m 185 #[.val (.int p0), .val (.int p1), .val (.int p2), .val (.int p3), .val (.int p4), .val (.int p5), .val (.int (2 : Int32)), .val (.ref ar), .val (.long ((p1.toInt64) + (p2.toInt64))), .second, .unset, .unset, .unset, .unset, .unset] [(.ref ar), (.ref o), (.ref o)])) (fun t_ k_ => (st16 _ (XS.dup X16.here hx rfl (Jvm.hb hby at_182) rfl rfl (XS.aload X16.here hx rfl (Jvm.hb hby at_183) rfl rfl k_)))) ?_
    obtain ⟨_, _, ⟨T21, L21, k21, n21⟩, -, X21, ⟨Lc21, hQ21, l21, y21, z21⟩, st21⟩ := X16.specialBack hx (y := (⟨"com/example/orunmila/orunmila/simulate/Returns", "<init>", "([D)V"⟩ : MethodName)) rfl hown (mvT hZ (hw _ (List.mem_of_getElem? (i := 4) rfl))) (mvT hZ (hw _ (List.mem_of_getElem? (i := 5) rfl))) (mvT hZ (hw _ (List.mem_of_getElem? (i := 6) rfl))) (by decide) (backOf (W := 1) (own_rm_init l Z a0 hw [] o ar k1 (2 : Int32) [(.double (FP.l2d p1.toInt64)), (.double (FP.l2d p2.toInt64))] h16 n0 f17 f20 A16 g_o f19 f18 (by decide) (by decide)) hZ (hw _ (List.mem_of_getElem? (i := 6) rfl)) (hw _ (List.mem_of_getElem? (i := 3) rfl)) (by decide) (by decide)) (g := (mkF m 185 #[.val (.int p0), .val (.int p1), .val (.int p2), .val (.int p3), .val (.int p4), .val (.int p5), .val (.int (2 : Int32)), .val (.ref ar), .val (.long ((p1.toInt64) + (p2.toInt64))), .second, .unset, .unset, .unset, .unset, .unset] [(.ref ar), (.ref o), (.ref o)])) rfl (by rw [hml]; rfl) (Steps.refl _) (a := o) (argsL := [(.ref ar)]) (rest := [(.ref o)]) (lenOf own_pd_0 rfl) rfl (by show 2 * 0 + _ ≤ _; exact Nat.le_of_eq rfl) (Jvm.hb hby at_185) (fun _ _ => ⟨rfl, e16, Nat.le_of_ble_eq_true rfl, Nat.le_of_ble_eq_true rfl⟩)
    dsimp only [Pt.U, Pt.locs, Pt.cells, Pt.slots] at X21 l21 y21 z21 st21 hQ21
    subst l21 y21 z21
    obtain ⟨rfl, N21, K21, Eo21, b21, Fo21, Vb21⟩ := hQ21
    have N22 := Fr.app N11 N21
    have f23 := Nat.le_trans f17 K21.1
    have f24 := f18.keep K21
    have f25 := f19.keep K21 (ninS ne_ar_o nin0)
    have f26 := A16.keep K21
    refine own_of (T' := T21) (f' := (mkF m 192 #[.val (.int p0), .val (.int p1), .val (.int p2), .val (.int p3), .val (.int p4), .val (.int p5), .val (.int (2 : Int32)), .val (.ref ar), .val (.long ((p1.toInt64) + (p2.toInt64))), .second, .val (.ref o), .unset, .unset, .unset, .unset] [(.ref o)])) (fun t_ k_ => (st21.trans (XS.astore X21.here hx rfl (Jvm.hb hby at_188) rfl rfl (l' := #[.val (.int p0), .val (.int p1), .val (.int p2), .val (.int p3), .val (.int p4), .val (.int p5), .val (.int (2 : Int32)), .val (.ref ar), .val (.long ((p1.toInt64) + (p2.toInt64))), .second, .val (.ref o), .unset, .unset, .unset, .unset]) rfl (XS.aload X21.here hx rfl (Jvm.hb hby at_190) rfl rfl k_)))) ?_
    obtain ⟨cq29, kq29, q29a, q29b, q29c⟩ := isOf hZ rfl Eo21
    obtain ⟨_, _, ⟨T28, L28, k28, n28⟩, -, X28, ⟨Lc28, hQ28, l28, y28, z28⟩, st28⟩ := X21.virtualBack hx (y := (⟨"com/example/orunmila/orunmila/simulate/Returns", "getMean", "()D"⟩ : MethodName)) (z := (⟨"com/example/orunmila/orunmila/simulate/Returns", "getMean", "()D"⟩ : MethodName)) hown (mvT hZ (hw _ (List.mem_of_getElem? (i := 21) rfl))) (mvT hZ (hw _ (List.mem_of_getElem? (i := 22) rfl))) (notFace_of_selects (args := #[]) (mvT hZ (hw _ (List.mem_of_getElem? (i := 24) rfl)))) (mvT hZ (hw _ (List.mem_of_getElem? (i := 24) rfl))) (mvT hZ (hw _ (List.mem_of_getElem? (i := 23) rfl))) (by decide) (backOf (W := 0) (own_rm_mean2 l Z a0 hw [] o b21 k1 p1.toInt64 p2.toInt64 T21.heap n0 f23 Fo21 Vb21 (own_in p1) (own_in p2)) hZ (hw _ (List.mem_of_getElem? (i := 25) rfl)) (hw _ (List.mem_of_getElem? (i := 3) rfl)) (by decide) (by decide)) q29a q29c (g := (mkF m 192 #[.val (.int p0), .val (.int p1), .val (.int p2), .val (.int p3), .val (.int p4), .val (.int p5), .val (.int (2 : Int32)), .val (.ref ar), .val (.long ((p1.toInt64) + (p2.toInt64))), .second, .val (.ref o), .unset, .unset, .unset, .unset] [(.ref o)])) rfl (by rw [hml]; rfl) (Steps.refl _) (argsL := []) (rest := []) (lenOf own_pd_1 rfl) rfl (by show 2 * 0 + _ ≤ _; exact Nat.le_of_eq rfl) (Jvm.hb hby at_192) (fun _ _ => ⟨rfl, rfl, Nat.le_of_ble_eq_true rfl, Nat.le_of_ble_eq_true rfl⟩)
    dsimp only [Pt.U, Pt.locs, Pt.cells, Pt.slots] at X28 l28 y28 z28 st28 hQ28
    subst l28 y28 z28
    obtain ⟨rfl, N28, e28⟩ := hQ28
    have N30 := Fr.app N22 N28
    refine own_of (T' := T28) (f' := (mkF m 206 #[.val (.int p0), .val (.int p1), .val (.int p2), .val (.int p3), .val (.int p4), .val (.int p5), .val (.int (2 : Int32)), .val (.ref ar), .val (.long ((p1.toInt64) + (p2.toInt64))), .second, .val (.ref o), .val (.double (FP.ddiv (FP.l2d (p1.toInt64 + p2.toInt64)) (FP.l2d (2 : Int32).toInt64))), .second, .val (.double (FP.ddiv (FP.l2d (p1.toInt64 + p2.toInt64)) (FP.l2d (2 : Int32).toInt64))), .second] [])) (fun t_ k_ => (st28.trans (XS.dstore X28.here hx rfl (Jvm.hb hby at_195) rfl (l' := #[.val (.int p0), .val (.int p1), .val (.int p2), .val (.int p3), .val (.int p4), .val (.int p5), .val (.int (2 : Int32)), .val (.ref ar), .val (.long ((p1.toInt64) + (p2.toInt64))), .second, .val (.ref o), .val (.double (FP.ddiv (FP.l2d (p1.toInt64 + p2.toInt64)) (FP.l2d (2 : Int32).toInt64))), .second, .unset, .unset]) rfl (XS.lload X28.here hx rfl (Jvm.hb hby at_197) rfl (XS.l2dS X28.here hx rfl (Jvm.hb hby at_199) rfl rfl (XS.iload X28.here hx rfl (Jvm.hb hby at_200) rfl (XS.i2dS X28.here hx rfl (Jvm.hb hby at_202) rfl (i2d_w _) (XS.ddivS X28.here hx rfl (Jvm.hb hby at_203) rfl (own_nn _ _ own_nz2) rfl (XS.dstore X28.here hx rfl (Jvm.hb hby at_204) rfl (l' := #[.val (.int p0), .val (.int p1), .val (.int p2), .val (.int p3), .val (.int p4), .val (.int p5), .val (.int (2 : Int32)), .val (.ref ar), .val (.long ((p1.toInt64) + (p2.toInt64))), .second, .val (.ref o), .val (.double (FP.ddiv (FP.l2d (p1.toInt64 + p2.toInt64)) (FP.l2d (2 : Int32).toInt64))), .second, .val (.double (FP.ddiv (FP.l2d (p1.toInt64 + p2.toInt64)) (FP.l2d (2 : Int32).toInt64))), .second]) rfl k_))))))))) ?_
    refine own_of (T' := T28) (f' := (mkF m 219 #[.val (.int p0), .val (.int p1), .val (.int p2), .val (.int p3), .val (.int p4), .val (.int p5), .val (.int (2 : Int32)), .val (.ref ar), .val (.long ((p1.toInt64) + (p2.toInt64))), .second, .val (.ref o), .val (.double (FP.ddiv (FP.l2d (p1.toInt64 + p2.toInt64)) (FP.l2d (2 : Int32).toInt64))), .second, .val (.double (FP.ddiv (FP.l2d (p1.toInt64 + p2.toInt64)) (FP.l2d (2 : Int32).toInt64))), .second] [(.int (1 : Int32))])) (fun t_ k_ => (XS.dload X28.here hx rfl (Jvm.hb hby at_206) rfl (XS.dload X28.here hx rfl (Jvm.hb hby at_208) rfl (XS.dcmpS X28.here hx rfl (Jvm.hb hby at_210) rfl (dcmpV_eq rfl (own_nn _ _ own_nz2) .l) (XS.ifNo X28.here hx rfl (Jvm.hb hby at_211) rfl ((if0 _ _).trans (teq rfl).2) (XS.iconst X28.here hx rfl (Jvm.hb hby at_214) (XS.goto X28.here hx rfl (pc0 := 215) (pc' := 219) rfl (Jvm.hb hby at_215) (by decide) (by decide) k_))))))) ?_
    obtain ⟨fs, hr, hrun, hended, hW, hsame⟩ := X28.leave (v := some (.int (1 : Int32))) (fun h => by rw [Bd.returns] at h; cases h)
    exact ⟨_, _, retN X28 hx (t := .boolean) Bd.returns (by simp) (Jvm.hb hby at_219) hr, hrun, hended, _, _, rfl, (by show own_Q_0 Z p0 p1 p2 p3 p4 p5  h0 n0 _ T28.heap _; rw [e28]; exact ⟨rfl, N30⟩), ⟨_, rfl⟩, hW, hsame.mono (by decide) (by decide)⟩
  · skip
    refine own_of (T' := s₁) (f' := (mkF m 16 #[.val (.int p0), .val (.int p1), .val (.int p2), .val (.int p3), .val (.int p4), .val (.int p5), .val (.int (3 : Int32)), .unset, .val (.long ((p1.toInt64) + (p2.toInt64))), .second, .unset, .unset, .unset, .unset, .unset] [(.int (3 : Int32))])) (fun t_ k_ => (XS.istore X0.here hx rfl (Jvm.hb hby at_5) rfl (l' := #[.val (.int p0), .val (.int p1), .val (.int p2), .val (.int p3), .val (.int p4), .val (.int p5), .val (.int (3 : Int32)), .unset, .unset, .unset, .unset, .unset, .unset, .unset, .unset]) rfl (XS.iloadN X0.here hx rfl (Jvm.hb hby at_7) rfl (XS.i2l X0.here hx rfl (Jvm.hb hby at_8) rfl (XS.iloadN X0.here hx rfl (Jvm.hb hby at_9) rfl (XS.i2l X0.here hx rfl (Jvm.hb hby at_10) rfl (XS.ladd X0.here hx rfl (Jvm.hb hby at_11) rfl (XS.lstore X0.here hx rfl (Jvm.hb hby at_12) rfl (l' := #[.val (.int p0), .val (.int p1), .val (.int p2), .val (.int p3), .val (.int p4), .val (.int p5), .val (.int (3 : Int32)), .unset, .val (.long ((p1.toInt64) + (p2.toInt64))), .second, .unset, .unset, .unset, .unset, .unset]) rfl (XS.iload X0.here hx rfl (Jvm.hb hby at_14) rfl k_))))))))) ?_
    refine own_of (T' := s₁) (f' := (mkF m 45 #[.val (.int p0), .val (.int p1), .val (.int p2), .val (.int p3), .val (.int p4), .val (.int p5), .val (.int (3 : Int32)), .unset, .val (.long ((p1.toInt64) + (p2.toInt64))), .second, .unset, .unset, .unset, .unset, .unset] [(.int (3 : Int32))])) (fun t_ k_ => (XS.iconst X0.here hx rfl (Jvm.hb hby at_16) (XS.icmpYes X0.here hx rfl (pc0 := 17) (pc' := 38) rfl (Jvm.hb hby at_17) rfl (feq (by decide)).2 (by decide) (by decide) (XS.iload X0.here hx rfl (Jvm.hb hby at_38) rfl (XS.iconst X0.here hx rfl (Jvm.hb hby at_40) (XS.icmpNo X0.here hx rfl (Jvm.hb hby at_41) rfl (teq rfl).2 (XS.iconst X0.here hx rfl (Jvm.hb hby at_44) k_))))))) ?_
    obtain ⟨T31, h31, k31, X31, e31, E31, A31, Ex31, st31⟩ := newPE X0 hx hZ (hw _ (List.mem_of_getElem? (i := 0) rfl)) e0 (g := (mkF m 45 #[.val (.int p0), .val (.int p1), .val (.int p2), .val (.int p3), .val (.int p4), .val (.int p5), .val (.int (3 : Int32)), .unset, .val (.long ((p1.toInt64) + (p2.toInt64))), .second, .unset, .unset, .unset, .unset, .unset] [(.int (3 : Int32))])) rfl (Jvm.hb hby at_45) rfl (by decide) (cap := 3) (by decide) (by decide) (by decide) (by decide) (ad := "[D") (by decide)
    obtain ⟨ar, g31⟩ : ∃ z, z = h0.size := ⟨_, rfl⟩
    rw [← g31] at A31 Ex31 st31
    have g_ar : n0 ≤ ar := Nat.le_trans Z0 (Nat.le_of_eq g31.symm)
    have f32 := Nat.le_trans Z0 E31.1
    have f33 : Arv Z h31 ar k31 .double (3 : Int32) [(.double (FP.l2d 0)), (.double (FP.l2d 0)), (.double (FP.l2d 0))] (.double (FP.l2d 0)) := (Arv.newD A31 (by decide)).pad (pad_rep [] (.double (FP.l2d 0)) 3)
    refine own_of (T' := T31) (f' := (mkF m 51 #[.val (.int p0), .val (.int p1), .val (.int p2), .val (.int p3), .val (.int p4), .val (.int p5), .val (.int (3 : Int32)), .unset, .val (.long ((p1.toInt64) + (p2.toInt64))), .second, .unset, .unset, .unset, .unset, .unset] [(.double (FP.l2d p1.toInt64)), (.int (0 : Int32)), (.ref ar), (.ref ar)])) (fun t_ k_ => (st31 _ (XS.dup X31.here hx rfl (Jvm.hb hby at_47) rfl rfl (XS.iconst X31.here hx rfl (Jvm.hb hby at_48) (XS.iloadN X31.here hx rfl (Jvm.hb hby at_49) rfl (XS.i2dS X31.here hx rfl (Jvm.hb hby at_50) rfl (i2d_w _) k_)))))) ?_
    obtain ⟨cl34, Ar34, qq34, Sz34, Nn34, Hh34, Gg34⟩ := id f33
    have hin34 : ¬ ((0 : Int32) < 0 ∨ cl34.slots.size ≤ ((0 : Int32)).toNatClampNeg) := inb_of Sz34 ⟨by decide, by decide⟩
    obtain ⟨T35, h35, X35, e35, W35, st35⟩ := stD X31 hx hZ e31 Ar34 (j := (0 : Int32)) hin34 (g := (mkF m 51 #[.val (.int p0), .val (.int p1), .val (.int p2), .val (.int p3), .val (.int p4), .val (.int p5), .val (.int (3 : Int32)), .unset, .val (.long ((p1.toInt64) + (p2.toInt64))), .second, .unset, .unset, .unset, .unset, .unset] [(.double (FP.l2d p1.toInt64)), (.int (0 : Int32)), (.ref ar), (.ref ar)])) rfl rfl (Jvm.hb hby at_51)
    refine own_of (T' := T35) (f' := (mkF m 52 #[.val (.int p0), .val (.int p1), .val (.int p2), .val (.int p3), .val (.int p4), .val (.int p5), .val (.int (3 : Int32)), .unset, .val (.long ((p1.toInt64) + (p2.toInt64))), .second, .unset, .unset, .unset, .unset, .unset] [(.ref ar)])) (fun t_ k_ => (st35 _ k_)) ?_
    have f36 := Arv.set Ar34 qq34 Sz34 Nn34 Hh34 Gg34 rfl W35 0 rfl (Nat.le_of_ble_eq_true rfl)
    have N35 := Fr.snoc X35 N0 g_ar
    have f37 := Nat.le_trans f32 (Keep.of_wr W35).1
    have f38 := Ex31.wr W35
    refine own_of (T' := T35) (f' := (mkF m 56 #[.val (.int p0), .val (.int p1), .val (.int p2), .val (.int p3), .val (.int p4), .val (.int p5), .val (.int (3 : Int32)), .unset, .val (.long ((p1.toInt64) + (p2.toInt64))), .second, .unset, .unset, .unset, .unset, .unset] [(.double (FP.l2d p2.toInt64)), (.int (1 : Int32)), (.ref ar), (.ref ar)])) (fun t_ k_ => (XS.dup X35.here hx rfl (Jvm.hb hby at_52) rfl rfl (XS.iconst X35.here hx rfl (Jvm.hb hby at_53) (XS.iloadN X35.here hx rfl (Jvm.hb hby at_54) rfl (XS.i2dS X35.here hx rfl (Jvm.hb hby at_55) rfl (i2d_w _) k_))))) ?_
    obtain ⟨cl40, Ar40, qq40, Sz40, Nn40, Hh40, Gg40⟩ := id f36
    have hin40 : ¬ ((1 : Int32) < 0 ∨ cl40.slots.size ≤ ((1 : Int32)).toNatClampNeg) := inb_of Sz40 ⟨by decide, by decide⟩
    obtain ⟨T41, h41, X41, e41, W41, st41⟩ := stD X35 hx hZ e35 Ar40 (j := (1 : Int32)) hin40 (g := (mkF m 56 #[.val (.int p0), .val (.int p1), .val (.int p2), .val (.int p3), .val (.int p4), .val (.int p5), .val (.int (3 : Int32)), .unset, .val (.long ((p1.toInt64) + (p2.toInt64))), .second, .unset, .unset, .unset, .unset, .unset] [(.double (FP.l2d p2.toInt64)), (.int (1 : Int32)), (.ref ar), (.ref ar)])) rfl rfl (Jvm.hb hby at_56)
    refine own_of (T' := T41) (f' := (mkF m 57 #[.val (.int p0), .val (.int p1), .val (.int p2), .val (.int p3), .val (.int p4), .val (.int p5), .val (.int (3 : Int32)), .unset, .val (.long ((p1.toInt64) + (p2.toInt64))), .second, .unset, .unset, .unset, .unset, .unset] [(.ref ar)])) (fun t_ k_ => (st41 _ k_)) ?_
    have f42 := Arv.set Ar40 qq40 Sz40 Nn40 Hh40 Gg40 rfl W41 1 rfl (Nat.le_of_ble_eq_true rfl)
    have N41 := Fr.snoc X41 N35 g_ar
    have f43 := Nat.le_trans f37 (Keep.of_wr W41).1
    have f44 := f38.wr W41
    refine own_of (T' := T41) (f' := (mkF m 61 #[.val (.int p0), .val (.int p1), .val (.int p2), .val (.int p3), .val (.int p4), .val (.int p5), .val (.int (3 : Int32)), .unset, .val (.long ((p1.toInt64) + (p2.toInt64))), .second, .unset, .unset, .unset, .unset, .unset] [(.double (FP.l2d p3.toInt64)), (.int (2 : Int32)), (.ref ar), (.ref ar)])) (fun t_ k_ => (XS.dup X41.here hx rfl (Jvm.hb hby at_57) rfl rfl (XS.iconst X41.here hx rfl (Jvm.hb hby at_58) (XS.iloadN X41.here hx rfl (Jvm.hb hby at_59) rfl (XS.i2dS X41.here hx rfl (Jvm.hb hby at_60) rfl (i2d_w _) k_))))) ?_
    obtain ⟨cl46, Ar46, qq46, Sz46, Nn46, Hh46, Gg46⟩ := id f42
    have hin46 : ¬ ((2 : Int32) < 0 ∨ cl46.slots.size ≤ ((2 : Int32)).toNatClampNeg) := inb_of Sz46 ⟨by decide, by decide⟩
    obtain ⟨T47, h47, X47, e47, W47, st47⟩ := stD X41 hx hZ e41 Ar46 (j := (2 : Int32)) hin46 (g := (mkF m 61 #[.val (.int p0), .val (.int p1), .val (.int p2), .val (.int p3), .val (.int p4), .val (.int p5), .val (.int (3 : Int32)), .unset, .val (.long ((p1.toInt64) + (p2.toInt64))), .second, .unset, .unset, .unset, .unset, .unset] [(.double (FP.l2d p3.toInt64)), (.int (2 : Int32)), (.ref ar), (.ref ar)])) rfl rfl (Jvm.hb hby at_61)
    refine own_of (T' := T47) (f' := (mkF m 62 #[.val (.int p0), .val (.int p1), .val (.int p2), .val (.int p3), .val (.int p4), .val (.int p5), .val (.int (3 : Int32)), .unset, .val (.long ((p1.toInt64) + (p2.toInt64))), .second, .unset, .unset, .unset, .unset, .unset] [(.ref ar)])) (fun t_ k_ => (st47 _ k_)) ?_
    have f48 := Arv.set Ar46 qq46 Sz46 Nn46 Hh46 Gg46 rfl W47 2 rfl (Nat.le_of_ble_eq_true rfl)
    have N47 := Fr.snoc X47 N41 g_ar
    have f49 := Nat.le_trans f43 (Keep.of_wr W47).1
    have f50 := f44.wr W47
    refine own_of (T' := T47) (f' := (mkF m 179 #[.val (.int p0), .val (.int p1), .val (.int p2), .val (.int p3), .val (.int p4), .val (.int p5), .val (.int (3 : Int32)), .val (.ref ar), .val (.long (((p1.toInt64) + (p2.toInt64)) + (p3.toInt64))), .second, .unset, .unset, .unset, .unset, .unset] [])) (fun t_ k_ => (XS.astore X47.here hx rfl (Jvm.hb hby at_62) rfl rfl (l' := #[.val (.int p0), .val (.int p1), .val (.int p2), .val (.int p3), .val (.int p4), .val (.int p5), .val (.int (3 : Int32)), .val (.ref ar), .val (.long ((p1.toInt64) + (p2.toInt64))), .second, .unset, .unset, .unset, .unset, .unset]) rfl (XS.lload X47.here hx rfl (Jvm.hb hby at_64) rfl (XS.iloadN X47.here hx rfl (Jvm.hb hby at_66) rfl (XS.i2l X47.here hx rfl (Jvm.hb hby at_67) rfl (XS.ladd X47.here hx rfl (Jvm.hb hby at_68) rfl (XS.lstore X47.here hx rfl (Jvm.hb hby at_69) rfl (l' := #[.val (.int p0), .val (.int p1), .val (.int p2), .val (.int p3), .val (.int p4), .val (.int p5), .val (.int (3 : Int32)), .val (.ref ar), .val (.long (((p1.toInt64) + (p2.toInt64)) + (p3.toInt64))), .second, .unset, .unset, .unset, .unset, .unset]) rfl (XS.goto X47.here hx rfl (pc0 := 71) (pc' := 179) rfl (Jvm.hb hby at_71) (by decide) (by decide) k_)))))))) ?_
    obtain ⟨T52, h52, X52, e52, E52, A52, D52, -, st52⟩ := newO X47 hx hZ hown (hw _ (List.mem_of_getElem? (i := 1) rfl)) (hw _ (List.mem_of_getElem? (i := 2) rfl)) (hw _ (List.mem_of_getElem? (i := 3) rfl)) e47 (g := (mkF m 179 #[.val (.int p0), .val (.int p1), .val (.int p2), .val (.int p3), .val (.int p4), .val (.int p5), .val (.int (3 : Int32)), .val (.ref ar), .val (.long (((p1.toInt64) + (p2.toInt64)) + (p3.toInt64))), .second, .unset, .unset, .unset, .unset, .unset] [])) rfl (Jvm.hb hby at_179) (by decide) (by decide)
    obtain ⟨o, g52⟩ : ∃ z, z = h47.size := ⟨_, rfl⟩
    rw [← g52] at A52 D52 st52
    have ne_ar_o : ar ≠ o := by rw [g52]; exact Nat.ne_of_lt f50.lt
    have g_o : n0 ≤ o := Nat.le_trans f49 (Nat.le_of_eq g52.symm)
    have f53 := Nat.le_trans f49 E52.1
    have f54 := f50.ext E52
    have f55 := f48.ext E52
    have f56 : Fld Z h52 o "com/example/orunmila/orunmila/simulate/Returns" "m_aReturns" "[D" .null := D52 (Or.inr (hw _ (List.mem_of_getElem? (i := 20) rfl))) (ty := (.array .double)) (by decide)
    refine own_of (T' := T52) (f' := (mkF m 185 #[.val (.int p0), .val (.int p1), .val (.int p2), .val (.int p3), .val (.int p4), .val (.int p5), .val (.int (3 : Int32)), .val (.ref ar), .val (.long (((p1.toInt64) + (p2.toInt64)) + (p3.toInt64))), .second, .unset, .unset, .unset, .unset, .unset] [(.ref ar), (.ref o), (.ref o)])) (fun t_ k_ => (st52 _ (XS.dup X52.here hx rfl (Jvm.hb hby at_182) rfl rfl (XS.aload X52.here hx rfl (Jvm.hb hby at_183) rfl rfl k_)))) ?_
    obtain ⟨_, _, ⟨T57, L57, k57, n57⟩, -, X57, ⟨Lc57, hQ57, l57, y57, z57⟩, st57⟩ := X52.specialBack hx (y := (⟨"com/example/orunmila/orunmila/simulate/Returns", "<init>", "([D)V"⟩ : MethodName)) rfl hown (mvT hZ (hw _ (List.mem_of_getElem? (i := 4) rfl))) (mvT hZ (hw _ (List.mem_of_getElem? (i := 5) rfl))) (mvT hZ (hw _ (List.mem_of_getElem? (i := 6) rfl))) (by decide) (backOf (W := 1) (own_rm_init l Z a0 hw [] o ar k31 (3 : Int32) [(.double (FP.l2d p1.toInt64)), (.double (FP.l2d p2.toInt64)), (.double (FP.l2d p3.toInt64))] h52 n0 f53 f56 A52 g_o f55 f54 (by decide) (by decide)) hZ (hw _ (List.mem_of_getElem? (i := 6) rfl)) (hw _ (List.mem_of_getElem? (i := 3) rfl)) (by decide) (by decide)) (g := (mkF m 185 #[.val (.int p0), .val (.int p1), .val (.int p2), .val (.int p3), .val (.int p4), .val (.int p5), .val (.int (3 : Int32)), .val (.ref ar), .val (.long (((p1.toInt64) + (p2.toInt64)) + (p3.toInt64))), .second, .unset, .unset, .unset, .unset, .unset] [(.ref ar), (.ref o), (.ref o)])) rfl (by rw [hml]; rfl) (Steps.refl _) (a := o) (argsL := [(.ref ar)]) (rest := [(.ref o)]) (lenOf own_pd_0 rfl) rfl (by show 2 * 0 + _ ≤ _; exact Nat.le_of_eq rfl) (Jvm.hb hby at_185) (fun _ _ => ⟨rfl, e52, Nat.le_of_ble_eq_true rfl, Nat.le_of_ble_eq_true rfl⟩)
    dsimp only [Pt.U, Pt.locs, Pt.cells, Pt.slots] at X57 l57 y57 z57 st57 hQ57
    subst l57 y57 z57
    obtain ⟨rfl, N57, K57, Eo57, b57, Fo57, Vb57⟩ := hQ57
    have N58 := Fr.app N47 N57
    have f59 := Nat.le_trans f53 K57.1
    have f60 := f54.keep K57
    have f61 := f55.keep K57 (ninS ne_ar_o nin0)
    have f62 := A52.keep K57
    refine own_of (T' := T57) (f' := (mkF m 192 #[.val (.int p0), .val (.int p1), .val (.int p2), .val (.int p3), .val (.int p4), .val (.int p5), .val (.int (3 : Int32)), .val (.ref ar), .val (.long (((p1.toInt64) + (p2.toInt64)) + (p3.toInt64))), .second, .val (.ref o), .unset, .unset, .unset, .unset] [(.ref o)])) (fun t_ k_ => (st57.trans (XS.astore X57.here hx rfl (Jvm.hb hby at_188) rfl rfl (l' := #[.val (.int p0), .val (.int p1), .val (.int p2), .val (.int p3), .val (.int p4), .val (.int p5), .val (.int (3 : Int32)), .val (.ref ar), .val (.long (((p1.toInt64) + (p2.toInt64)) + (p3.toInt64))), .second, .val (.ref o), .unset, .unset, .unset, .unset]) rfl (XS.aload X57.here hx rfl (Jvm.hb hby at_190) rfl rfl k_)))) ?_
    obtain ⟨cq65, kq65, q65a, q65b, q65c⟩ := isOf hZ rfl Eo57
    obtain ⟨_, _, ⟨T64, L64, k64, n64⟩, -, X64, ⟨Lc64, hQ64, l64, y64, z64⟩, st64⟩ := X57.virtualBack hx (y := (⟨"com/example/orunmila/orunmila/simulate/Returns", "getMean", "()D"⟩ : MethodName)) (z := (⟨"com/example/orunmila/orunmila/simulate/Returns", "getMean", "()D"⟩ : MethodName)) hown (mvT hZ (hw _ (List.mem_of_getElem? (i := 21) rfl))) (mvT hZ (hw _ (List.mem_of_getElem? (i := 22) rfl))) (notFace_of_selects (args := #[]) (mvT hZ (hw _ (List.mem_of_getElem? (i := 24) rfl)))) (mvT hZ (hw _ (List.mem_of_getElem? (i := 24) rfl))) (mvT hZ (hw _ (List.mem_of_getElem? (i := 23) rfl))) (by decide) (backOf (W := 0) (own_rm_mean3 l Z a0 hw [] o b57 k31 p1.toInt64 p2.toInt64 p3.toInt64 T57.heap n0 f59 Fo57 Vb57 (own_in p1) (own_in p2) (own_in p3)) hZ (hw _ (List.mem_of_getElem? (i := 25) rfl)) (hw _ (List.mem_of_getElem? (i := 3) rfl)) (by decide) (by decide)) q65a q65c (g := (mkF m 192 #[.val (.int p0), .val (.int p1), .val (.int p2), .val (.int p3), .val (.int p4), .val (.int p5), .val (.int (3 : Int32)), .val (.ref ar), .val (.long (((p1.toInt64) + (p2.toInt64)) + (p3.toInt64))), .second, .val (.ref o), .unset, .unset, .unset, .unset] [(.ref o)])) rfl (by rw [hml]; rfl) (Steps.refl _) (argsL := []) (rest := []) (lenOf own_pd_1 rfl) rfl (by show 2 * 0 + _ ≤ _; exact Nat.le_of_eq rfl) (Jvm.hb hby at_192) (fun _ _ => ⟨rfl, rfl, Nat.le_of_ble_eq_true rfl, Nat.le_of_ble_eq_true rfl⟩)
    dsimp only [Pt.U, Pt.locs, Pt.cells, Pt.slots] at X64 l64 y64 z64 st64 hQ64
    subst l64 y64 z64
    obtain ⟨rfl, N64, e64⟩ := hQ64
    have N66 := Fr.app N58 N64
    refine own_of (T' := T64) (f' := (mkF m 206 #[.val (.int p0), .val (.int p1), .val (.int p2), .val (.int p3), .val (.int p4), .val (.int p5), .val (.int (3 : Int32)), .val (.ref ar), .val (.long (((p1.toInt64) + (p2.toInt64)) + (p3.toInt64))), .second, .val (.ref o), .val (.double (FP.ddiv (FP.l2d ((p1.toInt64 + p2.toInt64) + p3.toInt64)) (FP.l2d (3 : Int32).toInt64))), .second, .val (.double (FP.ddiv (FP.l2d ((p1.toInt64 + p2.toInt64) + p3.toInt64)) (FP.l2d (3 : Int32).toInt64))), .second] [])) (fun t_ k_ => (st64.trans (XS.dstore X64.here hx rfl (Jvm.hb hby at_195) rfl (l' := #[.val (.int p0), .val (.int p1), .val (.int p2), .val (.int p3), .val (.int p4), .val (.int p5), .val (.int (3 : Int32)), .val (.ref ar), .val (.long (((p1.toInt64) + (p2.toInt64)) + (p3.toInt64))), .second, .val (.ref o), .val (.double (FP.ddiv (FP.l2d ((p1.toInt64 + p2.toInt64) + p3.toInt64)) (FP.l2d (3 : Int32).toInt64))), .second, .unset, .unset]) rfl (XS.lload X64.here hx rfl (Jvm.hb hby at_197) rfl (XS.l2dS X64.here hx rfl (Jvm.hb hby at_199) rfl rfl (XS.iload X64.here hx rfl (Jvm.hb hby at_200) rfl (XS.i2dS X64.here hx rfl (Jvm.hb hby at_202) rfl (i2d_w _) (XS.ddivS X64.here hx rfl (Jvm.hb hby at_203) rfl (own_nn _ _ own_nz3) rfl (XS.dstore X64.here hx rfl (Jvm.hb hby at_204) rfl (l' := #[.val (.int p0), .val (.int p1), .val (.int p2), .val (.int p3), .val (.int p4), .val (.int p5), .val (.int (3 : Int32)), .val (.ref ar), .val (.long (((p1.toInt64) + (p2.toInt64)) + (p3.toInt64))), .second, .val (.ref o), .val (.double (FP.ddiv (FP.l2d ((p1.toInt64 + p2.toInt64) + p3.toInt64)) (FP.l2d (3 : Int32).toInt64))), .second, .val (.double (FP.ddiv (FP.l2d ((p1.toInt64 + p2.toInt64) + p3.toInt64)) (FP.l2d (3 : Int32).toInt64))), .second]) rfl k_))))))))) ?_
    refine own_of (T' := T64) (f' := (mkF m 219 #[.val (.int p0), .val (.int p1), .val (.int p2), .val (.int p3), .val (.int p4), .val (.int p5), .val (.int (3 : Int32)), .val (.ref ar), .val (.long (((p1.toInt64) + (p2.toInt64)) + (p3.toInt64))), .second, .val (.ref o), .val (.double (FP.ddiv (FP.l2d ((p1.toInt64 + p2.toInt64) + p3.toInt64)) (FP.l2d (3 : Int32).toInt64))), .second, .val (.double (FP.ddiv (FP.l2d ((p1.toInt64 + p2.toInt64) + p3.toInt64)) (FP.l2d (3 : Int32).toInt64))), .second] [(.int (1 : Int32))])) (fun t_ k_ => (XS.dload X64.here hx rfl (Jvm.hb hby at_206) rfl (XS.dload X64.here hx rfl (Jvm.hb hby at_208) rfl (XS.dcmpS X64.here hx rfl (Jvm.hb hby at_210) rfl (dcmpV_eq rfl (own_nn _ _ own_nz3) .l) (XS.ifNo X64.here hx rfl (Jvm.hb hby at_211) rfl ((if0 _ _).trans (teq rfl).2) (XS.iconst X64.here hx rfl (Jvm.hb hby at_214) (XS.goto X64.here hx rfl (pc0 := 215) (pc' := 219) rfl (Jvm.hb hby at_215) (by decide) (by decide) k_))))))) ?_
    obtain ⟨fs, hr, hrun, hended, hW, hsame⟩ := X64.leave (v := some (.int (1 : Int32))) (fun h => by rw [Bd.returns] at h; cases h)
    exact ⟨_, _, retN X64 hx (t := .boolean) Bd.returns (by simp) (Jvm.hb hby at_219) hr, hrun, hended, _, _, rfl, (by show own_Q_0 Z p0 p1 p2 p3 p4 p5  h0 n0 _ T64.heap _; rw [e64]; exact ⟨rfl, N66⟩), ⟨_, rfl⟩, hW, hsame.mono (by decide) (by decide)⟩
  · skip
    refine own_of (T' := s₁) (f' := (mkF m 16 #[.val (.int p0), .val (.int p1), .val (.int p2), .val (.int p3), .val (.int p4), .val (.int p5), .val (.int (4 : Int32)), .unset, .val (.long ((p1.toInt64) + (p2.toInt64))), .second, .unset, .unset, .unset, .unset, .unset] [(.int (4 : Int32))])) (fun t_ k_ => (XS.istore X0.here hx rfl (Jvm.hb hby at_5) rfl (l' := #[.val (.int p0), .val (.int p1), .val (.int p2), .val (.int p3), .val (.int p4), .val (.int p5), .val (.int (4 : Int32)), .unset, .unset, .unset, .unset, .unset, .unset, .unset, .unset]) rfl (XS.iloadN X0.here hx rfl (Jvm.hb hby at_7) rfl (XS.i2l X0.here hx rfl (Jvm.hb hby at_8) rfl (XS.iloadN X0.here hx rfl (Jvm.hb hby at_9) rfl (XS.i2l X0.here hx rfl (Jvm.hb hby at_10) rfl (XS.ladd X0.here hx rfl (Jvm.hb hby at_11) rfl (XS.lstore X0.here hx rfl (Jvm.hb hby at_12) rfl (l' := #[.val (.int p0), .val (.int p1), .val (.int p2), .val (.int p3), .val (.int p4), .val (.int p5), .val (.int (4 : Int32)), .unset, .val (.long ((p1.toInt64) + (p2.toInt64))), .second, .unset, .unset, .unset, .unset, .unset]) rfl (XS.iload X0.here hx rfl (Jvm.hb hby at_14) rfl k_))))))))) ?_
    refine own_of (T' := s₁) (f' := (mkF m 80 #[.val (.int p0), .val (.int p1), .val (.int p2), .val (.int p3), .val (.int p4), .val (.int p5), .val (.int (4 : Int32)), .unset, .val (.long ((p1.toInt64) + (p2.toInt64))), .second, .unset, .unset, .unset, .unset, .unset] [])) (fun t_ k_ => (XS.iconst X0.here hx rfl (Jvm.hb hby at_16) (XS.icmpYes X0.here hx rfl (pc0 := 17) (pc' := 38) rfl (Jvm.hb hby at_17) rfl (feq (by decide)).2 (by decide) (by decide) (XS.iload X0.here hx rfl (Jvm.hb hby at_38) rfl (XS.iconst X0.here hx rfl (Jvm.hb hby at_40) (XS.icmpYes X0.here hx rfl (pc0 := 41) (pc' := 74) rfl (Jvm.hb hby at_41) rfl (feq (by decide)).2 (by decide) (by decide) (XS.iload X0.here hx rfl (Jvm.hb hby at_74) rfl (XS.iconst X0.here hx rfl (Jvm.hb hby at_76) (XS.icmpNo X0.here hx rfl (Jvm.hb hby at_77) rfl (teq rfl).2 k_))))))))) ?_
    refine own_of (T' := s₁) (f' := (mkF m 81 #[.val (.int p0), .val (.int p1), .val (.int p2), .val (.int p3), .val (.int p4), .val (.int p5), .val (.int (4 : Int32)), .unset, .val (.long ((p1.toInt64) + (p2.toInt64))), .second, .unset, .unset, .unset, .unset, .unset] [(.int (4 : Int32))])) (fun t_ k_ => (XS.iconst X0.here hx rfl (Jvm.hb hby at_80) k_)) ?_
    obtain ⟨T67, h67, k67, X67, e67, E67, A67, Ex67, st67⟩ := newPE X0 hx hZ (hw _ (List.mem_of_getElem? (i := 0) rfl)) e0 (g := (mkF m 81 #[.val (.int p0), .val (.int p1), .val (.int p2), .val (.int p3), .val (.int p4), .val (.int p5), .val (.int (4 : Int32)), .unset, .val (.long ((p1.toInt64) + (p2.toInt64))), .second, .unset, .unset, .unset, .unset, .unset] [(.int (4 : Int32))])) rfl (Jvm.hb hby at_81) rfl (by decide) (cap := 4) (by decide) (by decide) (by decide) (by decide) (ad := "[D") (by decide)
    obtain ⟨ar, g67⟩ : ∃ z, z = h0.size := ⟨_, rfl⟩
    rw [← g67] at A67 Ex67 st67
    have g_ar : n0 ≤ ar := Nat.le_trans Z0 (Nat.le_of_eq g67.symm)
    have f68 := Nat.le_trans Z0 E67.1
    have f69 : Arv Z h67 ar k67 .double (4 : Int32) [(.double (FP.l2d 0)), (.double (FP.l2d 0)), (.double (FP.l2d 0)), (.double (FP.l2d 0))] (.double (FP.l2d 0)) := (Arv.newD A67 (by decide)).pad (pad_rep [] (.double (FP.l2d 0)) 4)
    refine own_of (T' := T67) (f' := (mkF m 87 #[.val (.int p0), .val (.int p1), .val (.int p2), .val (.int p3), .val (.int p4), .val (.int p5), .val (.int (4 : Int32)), .unset, .val (.long ((p1.toInt64) + (p2.toInt64))), .second, .unset, .unset, .unset, .unset, .unset] [(.double (FP.l2d p1.toInt64)), (.int (0 : Int32)), (.ref ar), (.ref ar)])) (fun t_ k_ => (st67 _ (XS.dup X67.here hx rfl (Jvm.hb hby at_83) rfl rfl (XS.iconst X67.here hx rfl (Jvm.hb hby at_84) (XS.iloadN X67.here hx rfl (Jvm.hb hby at_85) rfl (XS.i2dS X67.here hx rfl (Jvm.hb hby at_86) rfl (i2d_w _) k_)))))) ?_
    obtain ⟨cl70, Ar70, qq70, Sz70, Nn70, Hh70, Gg70⟩ := id f69
    have hin70 : ¬ ((0 : Int32) < 0 ∨ cl70.slots.size ≤ ((0 : Int32)).toNatClampNeg) := inb_of Sz70 ⟨by decide, by decide⟩
    obtain ⟨T71, h71, X71, e71, W71, st71⟩ := stD X67 hx hZ e67 Ar70 (j := (0 : Int32)) hin70 (g := (mkF m 87 #[.val (.int p0), .val (.int p1), .val (.int p2), .val (.int p3), .val (.int p4), .val (.int p5), .val (.int (4 : Int32)), .unset, .val (.long ((p1.toInt64) + (p2.toInt64))), .second, .unset, .unset, .unset, .unset, .unset] [(.double (FP.l2d p1.toInt64)), (.int (0 : Int32)), (.ref ar), (.ref ar)])) rfl rfl (Jvm.hb hby at_87)
    refine own_of (T' := T71) (f' := (mkF m 88 #[.val (.int p0), .val (.int p1), .val (.int p2), .val (.int p3), .val (.int p4), .val (.int p5), .val (.int (4 : Int32)), .unset, .val (.long ((p1.toInt64) + (p2.toInt64))), .second, .unset, .unset, .unset, .unset, .unset] [(.ref ar)])) (fun t_ k_ => (st71 _ k_)) ?_
    have f72 := Arv.set Ar70 qq70 Sz70 Nn70 Hh70 Gg70 rfl W71 0 rfl (Nat.le_of_ble_eq_true rfl)
    have N71 := Fr.snoc X71 N0 g_ar
    have f73 := Nat.le_trans f68 (Keep.of_wr W71).1
    have f74 := Ex67.wr W71
    refine own_of (T' := T71) (f' := (mkF m 92 #[.val (.int p0), .val (.int p1), .val (.int p2), .val (.int p3), .val (.int p4), .val (.int p5), .val (.int (4 : Int32)), .unset, .val (.long ((p1.toInt64) + (p2.toInt64))), .second, .unset, .unset, .unset, .unset, .unset] [(.double (FP.l2d p2.toInt64)), (.int (1 : Int32)), (.ref ar), (.ref ar)])) (fun t_ k_ => (XS.dup X71.here hx rfl (Jvm.hb hby at_88) rfl rfl (XS.iconst X71.here hx rfl (Jvm.hb hby at_89) (XS.iloadN X71.here hx rfl (Jvm.hb hby at_90) rfl (XS.i2dS X71.here hx rfl (Jvm.hb hby at_91) rfl (i2d_w _) k_))))) ?_
    obtain ⟨cl76, Ar76, qq76, Sz76, Nn76, Hh76, Gg76⟩ := id f72
    have hin76 : ¬ ((1 : Int32) < 0 ∨ cl76.slots.size ≤ ((1 : Int32)).toNatClampNeg) := inb_of Sz76 ⟨by decide, by decide⟩
    obtain ⟨T77, h77, X77, e77, W77, st77⟩ := stD X71 hx hZ e71 Ar76 (j := (1 : Int32)) hin76 (g := (mkF m 92 #[.val (.int p0), .val (.int p1), .val (.int p2), .val (.int p3), .val (.int p4), .val (.int p5), .val (.int (4 : Int32)), .unset, .val (.long ((p1.toInt64) + (p2.toInt64))), .second, .unset, .unset, .unset, .unset, .unset] [(.double (FP.l2d p2.toInt64)), (.int (1 : Int32)), (.ref ar), (.ref ar)])) rfl rfl (Jvm.hb hby at_92)
    refine own_of (T' := T77) (f' := (mkF m 93 #[.val (.int p0), .val (.int p1), .val (.int p2), .val (.int p3), .val (.int p4), .val (.int p5), .val (.int (4 : Int32)), .unset, .val (.long ((p1.toInt64) + (p2.toInt64))), .second, .unset, .unset, .unset, .unset, .unset] [(.ref ar)])) (fun t_ k_ => (st77 _ k_)) ?_
    have f78 := Arv.set Ar76 qq76 Sz76 Nn76 Hh76 Gg76 rfl W77 1 rfl (Nat.le_of_ble_eq_true rfl)
    have N77 := Fr.snoc X77 N71 g_ar
    have f79 := Nat.le_trans f73 (Keep.of_wr W77).1
    have f80 := f74.wr W77
    refine own_of (T' := T77) (f' := (mkF m 97 #[.val (.int p0), .val (.int p1), .val (.int p2), .val (.int p3), .val (.int p4), .val (.int p5), .val (.int (4 : Int32)), .unset, .val (.long ((p1.toInt64) + (p2.toInt64))), .second, .unset, .unset, .unset, .unset, .unset] [(.double (FP.l2d p3.toInt64)), (.int (2 : Int32)), (.ref ar), (.ref ar)])) (fun t_ k_ => (XS.dup X77.here hx rfl (Jvm.hb hby at_93) rfl rfl (XS.iconst X77.here hx rfl (Jvm.hb hby at_94) (XS.iloadN X77.here hx rfl (Jvm.hb hby at_95) rfl (XS.i2dS X77.here hx rfl (Jvm.hb hby at_96) rfl (i2d_w _) k_))))) ?_
    obtain ⟨cl82, Ar82, qq82, Sz82, Nn82, Hh82, Gg82⟩ := id f78
    have hin82 : ¬ ((2 : Int32) < 0 ∨ cl82.slots.size ≤ ((2 : Int32)).toNatClampNeg) := inb_of Sz82 ⟨by decide, by decide⟩
    obtain ⟨T83, h83, X83, e83, W83, st83⟩ := stD X77 hx hZ e77 Ar82 (j := (2 : Int32)) hin82 (g := (mkF m 97 #[.val (.int p0), .val (.int p1), .val (.int p2), .val (.int p3), .val (.int p4), .val (.int p5), .val (.int (4 : Int32)), .unset, .val (.long ((p1.toInt64) + (p2.toInt64))), .second, .unset, .unset, .unset, .unset, .unset] [(.double (FP.l2d p3.toInt64)), (.int (2 : Int32)), (.ref ar), (.ref ar)])) rfl rfl (Jvm.hb hby at_97)
    refine own_of (T' := T83) (f' := (mkF m 98 #[.val (.int p0), .val (.int p1), .val (.int p2), .val (.int p3), .val (.int p4), .val (.int p5), .val (.int (4 : Int32)), .unset, .val (.long ((p1.toInt64) + (p2.toInt64))), .second, .unset, .unset, .unset, .unset, .unset] [(.ref ar)])) (fun t_ k_ => (st83 _ k_)) ?_
    have f84 := Arv.set Ar82 qq82 Sz82 Nn82 Hh82 Gg82 rfl W83 2 rfl (Nat.le_of_ble_eq_true rfl)
    have N83 := Fr.snoc X83 N77 g_ar
    have f85 := Nat.le_trans f79 (Keep.of_wr W83).1
    have f86 := f80.wr W83
    refine own_of (T' := T83) (f' := (mkF m 103 #[.val (.int p0), .val (.int p1), .val (.int p2), .val (.int p3), .val (.int p4), .val (.int p5), .val (.int (4 : Int32)), .unset, .val (.long ((p1.toInt64) + (p2.toInt64))), .second, .unset, .unset, .unset, .unset, .unset] [(.double (FP.l2d p4.toInt64)), (.int (3 : Int32)), (.ref ar), (.ref ar)])) (fun t_ k_ => (XS.dup X83.here hx rfl (Jvm.hb hby at_98) rfl rfl (XS.iconst X83.here hx rfl (Jvm.hb hby at_99) (XS.iload X83.here hx rfl (Jvm.hb hby at_100) rfl (XS.i2dS X83.here hx rfl (Jvm.hb hby at_102) rfl (i2d_w _) k_))))) ?_
    obtain ⟨cl88, Ar88, qq88, Sz88, Nn88, Hh88, Gg88⟩ := id f84
    have hin88 : ¬ ((3 : Int32) < 0 ∨ cl88.slots.size ≤ ((3 : Int32)).toNatClampNeg) := inb_of Sz88 ⟨by decide, by decide⟩
    obtain ⟨T89, h89, X89, e89, W89, st89⟩ := stD X83 hx hZ e83 Ar88 (j := (3 : Int32)) hin88 (g := (mkF m 103 #[.val (.int p0), .val (.int p1), .val (.int p2), .val (.int p3), .val (.int p4), .val (.int p5), .val (.int (4 : Int32)), .unset, .val (.long ((p1.toInt64) + (p2.toInt64))), .second, .unset, .unset, .unset, .unset, .unset] [(.double (FP.l2d p4.toInt64)), (.int (3 : Int32)), (.ref ar), (.ref ar)])) rfl rfl (Jvm.hb hby at_103)
    refine own_of (T' := T89) (f' := (mkF m 104 #[.val (.int p0), .val (.int p1), .val (.int p2), .val (.int p3), .val (.int p4), .val (.int p5), .val (.int (4 : Int32)), .unset, .val (.long ((p1.toInt64) + (p2.toInt64))), .second, .unset, .unset, .unset, .unset, .unset] [(.ref ar)])) (fun t_ k_ => (st89 _ k_)) ?_
    have f90 := Arv.set Ar88 qq88 Sz88 Nn88 Hh88 Gg88 rfl W89 3 rfl (Nat.le_of_ble_eq_true rfl)
    have N89 := Fr.snoc X89 N83 g_ar
    have f91 := Nat.le_trans f85 (Keep.of_wr W89).1
    have f92 := f86.wr W89
    refine own_of (T' := T89) (f' := (mkF m 117 #[.val (.int p0), .val (.int p1), .val (.int p2), .val (.int p3), .val (.int p4), .val (.int p5), .val (.int (4 : Int32)), .val (.ref ar), .val (.long (((p1.toInt64) + (p2.toInt64)) + (p3.toInt64))), .second, .unset, .unset, .unset, .unset, .unset] [(.int p4), (.long (((p1.toInt64) + (p2.toInt64)) + (p3.toInt64)))])) (fun t_ k_ => (XS.astore X89.here hx rfl (Jvm.hb hby at_104) rfl rfl (l' := #[.val (.int p0), .val (.int p1), .val (.int p2), .val (.int p3), .val (.int p4), .val (.int p5), .val (.int (4 : Int32)), .val (.ref ar), .val (.long ((p1.toInt64) + (p2.toInt64))), .second, .unset, .unset, .unset, .unset, .unset]) rfl (XS.lload X89.here hx rfl (Jvm.hb hby at_106) rfl (XS.iloadN X89.here hx rfl (Jvm.hb hby at_108) rfl (XS.i2l X89.here hx rfl (Jvm.hb hby at_109) rfl (XS.ladd X89.here hx rfl (Jvm.hb hby at_110) rfl (XS.lstore X89.here hx rfl (Jvm.hb hby at_111) rfl (l' := #[.val (.int p0), .val (.int p1), .val (.int p2), .val (.int p3), .val (.int p4), .val (.int p5), .val (.int (4 : Int32)), .val (.ref ar), .val (.long (((p1.toInt64) + (p2.toInt64)) + (p3.toInt64))), .second, .unset, .unset, .unset, .unset, .unset]) rfl (XS.lload X89.here hx rfl (Jvm.hb hby at_113) rfl (XS.iload X89.here hx rfl (Jvm.hb hby at_115) rfl k_))))))))) ?_
    refine own_of (T' := T89) (f' := (mkF m 179 #[.val (.int p0), .val (.int p1), .val (.int p2), .val (.int p3), .val (.int p4), .val (.int p5), .val (.int (4 : Int32)), .val (.ref ar), .val (.long ((((p1.toInt64) + (p2.toInt64)) + (p3.toInt64)) + (p4.toInt64))), .second, .unset, .unset, .unset, .unset, .unset] [])) (fun t_ k_ => (XS.i2l X89.here hx rfl (Jvm.hb hby at_117) rfl (XS.ladd X89.here hx rfl (Jvm.hb hby at_118) rfl (XS.lstore X89.here hx rfl (Jvm.hb hby at_119) rfl (l' := #[.val (.int p0), .val (.int p1), .val (.int p2), .val (.int p3), .val (.int p4), .val (.int p5), .val (.int (4 : Int32)), .val (.ref ar), .val (.long ((((p1.toInt64) + (p2.toInt64)) + (p3.toInt64)) + (p4.toInt64))), .second, .unset, .unset, .unset, .unset, .unset]) rfl (XS.goto X89.here hx rfl (pc0 := 121) (pc' := 179) rfl (Jvm.hb hby at_121) (by decide) (by decide) k_))))) ?_
    obtain ⟨T94, h94, X94, e94, E94, A94, D94, -, st94⟩ := newO X89 hx hZ hown (hw _ (List.mem_of_getElem? (i := 1) rfl)) (hw _ (List.mem_of_getElem? (i := 2) rfl)) (hw _ (List.mem_of_getElem? (i := 3) rfl)) e89 (g := (mkF m 179 #[.val (.int p0), .val (.int p1), .val (.int p2), .val (.int p3), .val (.int p4), .val (.int p5), .val (.int (4 : Int32)), .val (.ref ar), .val (.long ((((p1.toInt64) + (p2.toInt64)) + (p3.toInt64)) + (p4.toInt64))), .second, .unset, .unset, .unset, .unset, .unset] [])) rfl (Jvm.hb hby at_179) (by decide) (by decide)
    obtain ⟨o, g94⟩ : ∃ z, z = h89.size := ⟨_, rfl⟩
    rw [← g94] at A94 D94 st94
    have ne_ar_o : ar ≠ o := by rw [g94]; exact Nat.ne_of_lt f92.lt
    have g_o : n0 ≤ o := Nat.le_trans f91 (Nat.le_of_eq g94.symm)
    have f95 := Nat.le_trans f91 E94.1
    have f96 := f92.ext E94
    have f97 := f90.ext E94
    have f98 : Fld Z h94 o "com/example/orunmila/orunmila/simulate/Returns" "m_aReturns" "[D" .null := D94 (Or.inr (hw _ (List.mem_of_getElem? (i := 20) rfl))) (ty := (.array .double)) (by decide)
    refine own_of (T' := T94) (f' := (mkF m 185 #[.val (.int p0), .val (.int p1), .val (.int p2), .val (.int p3), .val (.int p4), .val (.int p5), .val (.int (4 : Int32)), .val (.ref ar), .val (.long ((((p1.toInt64) + (p2.toInt64)) + (p3.toInt64)) + (p4.toInt64))), .second, .unset, .unset, .unset, .unset, .unset] [(.ref ar), (.ref o), (.ref o)])) (fun t_ k_ => (st94 _ (XS.dup X94.here hx rfl (Jvm.hb hby at_182) rfl rfl (XS.aload X94.here hx rfl (Jvm.hb hby at_183) rfl rfl k_)))) ?_
    obtain ⟨_, _, ⟨T99, L99, k99, n99⟩, -, X99, ⟨Lc99, hQ99, l99, y99, z99⟩, st99⟩ := X94.specialBack hx (y := (⟨"com/example/orunmila/orunmila/simulate/Returns", "<init>", "([D)V"⟩ : MethodName)) rfl hown (mvT hZ (hw _ (List.mem_of_getElem? (i := 4) rfl))) (mvT hZ (hw _ (List.mem_of_getElem? (i := 5) rfl))) (mvT hZ (hw _ (List.mem_of_getElem? (i := 6) rfl))) (by decide) (backOf (W := 1) (own_rm_init l Z a0 hw [] o ar k67 (4 : Int32) [(.double (FP.l2d p1.toInt64)), (.double (FP.l2d p2.toInt64)), (.double (FP.l2d p3.toInt64)), (.double (FP.l2d p4.toInt64))] h94 n0 f95 f98 A94 g_o f97 f96 (by decide) (by decide)) hZ (hw _ (List.mem_of_getElem? (i := 6) rfl)) (hw _ (List.mem_of_getElem? (i := 3) rfl)) (by decide) (by decide)) (g := (mkF m 185 #[.val (.int p0), .val (.int p1), .val (.int p2), .val (.int p3), .val (.int p4), .val (.int p5), .val (.int (4 : Int32)), .val (.ref ar), .val (.long ((((p1.toInt64) + (p2.toInt64)) + (p3.toInt64)) + (p4.toInt64))), .second, .unset, .unset, .unset, .unset, .unset] [(.ref ar), (.ref o), (.ref o)])) rfl (by rw [hml]; rfl) (Steps.refl _) (a := o) (argsL := [(.ref ar)]) (rest := [(.ref o)]) (lenOf own_pd_0 rfl) rfl (by show 2 * 0 + _ ≤ _; exact Nat.le_of_eq rfl) (Jvm.hb hby at_185) (fun _ _ => ⟨rfl, e94, Nat.le_of_ble_eq_true rfl, Nat.le_of_ble_eq_true rfl⟩)
    dsimp only [Pt.U, Pt.locs, Pt.cells, Pt.slots] at X99 l99 y99 z99 st99 hQ99
    subst l99 y99 z99
    obtain ⟨rfl, N99, K99, Eo99, b99, Fo99, Vb99⟩ := hQ99
    have N100 := Fr.app N89 N99
    have f101 := Nat.le_trans f95 K99.1
    have f102 := f96.keep K99
    have f103 := f97.keep K99 (ninS ne_ar_o nin0)
    have f104 := A94.keep K99
    refine own_of (T' := T99) (f' := (mkF m 192 #[.val (.int p0), .val (.int p1), .val (.int p2), .val (.int p3), .val (.int p4), .val (.int p5), .val (.int (4 : Int32)), .val (.ref ar), .val (.long ((((p1.toInt64) + (p2.toInt64)) + (p3.toInt64)) + (p4.toInt64))), .second, .val (.ref o), .unset, .unset, .unset, .unset] [(.ref o)])) (fun t_ k_ => (st99.trans (XS.astore X99.here hx rfl (Jvm.hb hby at_188) rfl rfl (l' := #[.val (.int p0), .val (.int p1), .val (.int p2), .val (.int p3), .val (.int p4), .val (.int p5), .val (.int (4 : Int32)), .val (.ref ar), .val (.long ((((p1.toInt64) + (p2.toInt64)) + (p3.toInt64)) + (p4.toInt64))), .second, .val (.ref o), .unset, .unset, .unset, .unset]) rfl (XS.aload X99.here hx rfl (Jvm.hb hby at_190) rfl rfl k_)))) ?_
    obtain ⟨cq107, kq107, q107a, q107b, q107c⟩ := isOf hZ rfl Eo99
    obtain ⟨_, _, ⟨T106, L106, k106, n106⟩, -, X106, ⟨Lc106, hQ106, l106, y106, z106⟩, st106⟩ := X99.virtualBack hx (y := (⟨"com/example/orunmila/orunmila/simulate/Returns", "getMean", "()D"⟩ : MethodName)) (z := (⟨"com/example/orunmila/orunmila/simulate/Returns", "getMean", "()D"⟩ : MethodName)) hown (mvT hZ (hw _ (List.mem_of_getElem? (i := 21) rfl))) (mvT hZ (hw _ (List.mem_of_getElem? (i := 22) rfl))) (notFace_of_selects (args := #[]) (mvT hZ (hw _ (List.mem_of_getElem? (i := 24) rfl)))) (mvT hZ (hw _ (List.mem_of_getElem? (i := 24) rfl))) (mvT hZ (hw _ (List.mem_of_getElem? (i := 23) rfl))) (by decide) (backOf (W := 0) (own_rm_mean4 l Z a0 hw [] o b99 k67 p1.toInt64 p2.toInt64 p3.toInt64 p4.toInt64 T99.heap n0 f101 Fo99 Vb99 (own_in p1) (own_in p2) (own_in p3) (own_in p4)) hZ (hw _ (List.mem_of_getElem? (i := 25) rfl)) (hw _ (List.mem_of_getElem? (i := 3) rfl)) (by decide) (by decide)) q107a q107c (g := (mkF m 192 #[.val (.int p0), .val (.int p1), .val (.int p2), .val (.int p3), .val (.int p4), .val (.int p5), .val (.int (4 : Int32)), .val (.ref ar), .val (.long ((((p1.toInt64) + (p2.toInt64)) + (p3.toInt64)) + (p4.toInt64))), .second, .val (.ref o), .unset, .unset, .unset, .unset] [(.ref o)])) rfl (by rw [hml]; rfl) (Steps.refl _) (argsL := []) (rest := []) (lenOf own_pd_1 rfl) rfl (by show 2 * 0 + _ ≤ _; exact Nat.le_of_eq rfl) (Jvm.hb hby at_192) (fun _ _ => ⟨rfl, rfl, Nat.le_of_ble_eq_true rfl, Nat.le_of_ble_eq_true rfl⟩)
    dsimp only [Pt.U, Pt.locs, Pt.cells, Pt.slots] at X106 l106 y106 z106 st106 hQ106
    subst l106 y106 z106
    obtain ⟨rfl, N106, e106⟩ := hQ106
    have N108 := Fr.app N100 N106
    refine own_of (T' := T106) (f' := (mkF m 206 #[.val (.int p0), .val (.int p1), .val (.int p2), .val (.int p3), .val (.int p4), .val (.int p5), .val (.int (4 : Int32)), .val (.ref ar), .val (.long ((((p1.toInt64) + (p2.toInt64)) + (p3.toInt64)) + (p4.toInt64))), .second, .val (.ref o), .val (.double (FP.ddiv (FP.l2d (((p1.toInt64 + p2.toInt64) + p3.toInt64) + p4.toInt64)) (FP.l2d (4 : Int32).toInt64))), .second, .val (.double (FP.ddiv (FP.l2d (((p1.toInt64 + p2.toInt64) + p3.toInt64) + p4.toInt64)) (FP.l2d (4 : Int32).toInt64))), .second] [])) (fun t_ k_ => (st106.trans (XS.dstore X106.here hx rfl (Jvm.hb hby at_195) rfl (l' := #[.val (.int p0), .val (.int p1), .val (.int p2), .val (.int p3), .val (.int p4), .val (.int p5), .val (.int (4 : Int32)), .val (.ref ar), .val (.long ((((p1.toInt64) + (p2.toInt64)) + (p3.toInt64)) + (p4.toInt64))), .second, .val (.ref o), .val (.double (FP.ddiv (FP.l2d (((p1.toInt64 + p2.toInt64) + p3.toInt64) + p4.toInt64)) (FP.l2d (4 : Int32).toInt64))), .second, .unset, .unset]) rfl (XS.lload X106.here hx rfl (Jvm.hb hby at_197) rfl (XS.l2dS X106.here hx rfl (Jvm.hb hby at_199) rfl rfl (XS.iload X106.here hx rfl (Jvm.hb hby at_200) rfl (XS.i2dS X106.here hx rfl (Jvm.hb hby at_202) rfl (i2d_w _) (XS.ddivS X106.here hx rfl (Jvm.hb hby at_203) rfl (own_nn _ _ own_nz4) rfl (XS.dstore X106.here hx rfl (Jvm.hb hby at_204) rfl (l' := #[.val (.int p0), .val (.int p1), .val (.int p2), .val (.int p3), .val (.int p4), .val (.int p5), .val (.int (4 : Int32)), .val (.ref ar), .val (.long ((((p1.toInt64) + (p2.toInt64)) + (p3.toInt64)) + (p4.toInt64))), .second, .val (.ref o), .val (.double (FP.ddiv (FP.l2d (((p1.toInt64 + p2.toInt64) + p3.toInt64) + p4.toInt64)) (FP.l2d (4 : Int32).toInt64))), .second, .val (.double (FP.ddiv (FP.l2d (((p1.toInt64 + p2.toInt64) + p3.toInt64) + p4.toInt64)) (FP.l2d (4 : Int32).toInt64))), .second]) rfl k_))))))))) ?_
    refine own_of (T' := T106) (f' := (mkF m 219 #[.val (.int p0), .val (.int p1), .val (.int p2), .val (.int p3), .val (.int p4), .val (.int p5), .val (.int (4 : Int32)), .val (.ref ar), .val (.long ((((p1.toInt64) + (p2.toInt64)) + (p3.toInt64)) + (p4.toInt64))), .second, .val (.ref o), .val (.double (FP.ddiv (FP.l2d (((p1.toInt64 + p2.toInt64) + p3.toInt64) + p4.toInt64)) (FP.l2d (4 : Int32).toInt64))), .second, .val (.double (FP.ddiv (FP.l2d (((p1.toInt64 + p2.toInt64) + p3.toInt64) + p4.toInt64)) (FP.l2d (4 : Int32).toInt64))), .second] [(.int (1 : Int32))])) (fun t_ k_ => (XS.dload X106.here hx rfl (Jvm.hb hby at_206) rfl (XS.dload X106.here hx rfl (Jvm.hb hby at_208) rfl (XS.dcmpS X106.here hx rfl (Jvm.hb hby at_210) rfl (dcmpV_eq rfl (own_nn _ _ own_nz4) .l) (XS.ifNo X106.here hx rfl (Jvm.hb hby at_211) rfl ((if0 _ _).trans (teq rfl).2) (XS.iconst X106.here hx rfl (Jvm.hb hby at_214) (XS.goto X106.here hx rfl (pc0 := 215) (pc' := 219) rfl (Jvm.hb hby at_215) (by decide) (by decide) k_))))))) ?_
    obtain ⟨fs, hr, hrun, hended, hW, hsame⟩ := X106.leave (v := some (.int (1 : Int32))) (fun h => by rw [Bd.returns] at h; cases h)
    exact ⟨_, _, retN X106 hx (t := .boolean) Bd.returns (by simp) (Jvm.hb hby at_219) hr, hrun, hended, _, _, rfl, (by show own_Q_0 Z p0 p1 p2 p3 p4 p5  h0 n0 _ T106.heap _; rw [e106]; exact ⟨rfl, N108⟩), ⟨_, rfl⟩, hW, hsame.mono (by decide) (by decide)⟩
  · skip
    refine own_of (T' := s₁) (f' := (mkF m 16 #[.val (.int p0), .val (.int p1), .val (.int p2), .val (.int p3), .val (.int p4), .val (.int p5), .val (.int (5 : Int32)), .unset, .val (.long ((p1.toInt64) + (p2.toInt64))), .second, .unset, .unset, .unset, .unset, .unset] [(.int (5 : Int32))])) (fun t_ k_ => (XS.istore X0.here hx rfl (Jvm.hb hby at_5) rfl (l' := #[.val (.int p0), .val (.int p1), .val (.int p2), .val (.int p3), .val (.int p4), .val (.int p5), .val (.int (5 : Int32)), .unset, .unset, .unset, .unset, .unset, .unset, .unset, .unset]) rfl (XS.iloadN X0.here hx rfl (Jvm.hb hby at_7) rfl (XS.i2l X0.here hx rfl (Jvm.hb hby at_8) rfl (XS.iloadN X0.here hx rfl (Jvm.hb hby at_9) rfl (XS.i2l X0.here hx rfl (Jvm.hb hby at_10) rfl (XS.ladd X0.here hx rfl (Jvm.hb hby at_11) rfl (XS.lstore X0.here hx rfl (Jvm.hb hby at_12) rfl (l' := #[.val (.int p0), .val (.int p1), .val (.int p2), .val (.int p3), .val (.int p4), .val (.int p5), .val (.int (5 : Int32)), .unset, .val (.long ((p1.toInt64) + (p2.toInt64))), .second, .unset, .unset, .unset, .unset, .unset]) rfl (XS.iload X0.here hx rfl (Jvm.hb hby at_14) rfl k_))))))))) ?_
    refine own_of (T' := s₁) (f' := (mkF m 124 #[.val (.int p0), .val (.int p1), .val (.int p2), .val (.int p3), .val (.int p4), .val (.int p5), .val (.int (5 : Int32)), .unset, .val (.long ((p1.toInt64) + (p2.toInt64))), .second, .unset, .unset, .unset, .unset, .unset] [])) (fun t_ k_ => (XS.iconst X0.here hx rfl (Jvm.hb hby at_16) (XS.icmpYes X0.here hx rfl (pc0 := 17) (pc' := 38) rfl (Jvm.hb hby at_17) rfl (feq (by decide)).2 (by decide) (by decide) (XS.iload X0.here hx rfl (Jvm.hb hby at_38) rfl (XS.iconst X0.here hx rfl (Jvm.hb hby at_40) (XS.icmpYes X0.here hx rfl (pc0 := 41) (pc' := 74) rfl (Jvm.hb hby at_41) rfl (feq (by decide)).2 (by decide) (by decide) (XS.iload X0.here hx rfl (Jvm.hb hby at_74) rfl (XS.iconst X0.here hx rfl (Jvm.hb hby at_76) (XS.icmpYes X0.here hx rfl (pc0 := 77) (pc' := 124) rfl (Jvm.hb hby at_77) rfl (feq (by decide)).2 (by decide) (by decide) k_))))))))) ?_
    refine own_of (T' := s₁) (f' := (mkF m 125 #[.val (.int p0), .val (.int p1), .val (.int p2), .val (.int p3), .val (.int p4), .val (.int p5), .val (.int (5 : Int32)), .unset, .val (.long ((p1.toInt64) + (p2.toInt64))), .second, .unset, .unset, .unset, .unset, .unset] [(.int (5 : Int32))])) (fun t_ k_ => (XS.iconst X0.here hx rfl (Jvm.hb hby at_124) k_)) ?_
    obtain ⟨T109, h109, k109, X109, e109, E109, A109, Ex109, st109⟩ := newPE X0 hx hZ (hw _ (List.mem_of_getElem? (i := 0) rfl)) e0 (g := (mkF m 125 #[.val (.int p0), .val (.int p1), .val (.int p2), .val (.int p3), .val (.int p4), .val (.int p5), .val (.int (5 : Int32)), .unset, .val (.long ((p1.toInt64) + (p2.toInt64))), .second, .unset, .unset, .unset, .unset, .unset] [(.int (5 : Int32))])) rfl (Jvm.hb hby at_125) rfl (by decide) (cap := 5) (by decide) (by decide) (by decide) (by decide) (ad := "[D") (by decide)
    obtain ⟨ar, g109⟩ : ∃ z, z = h0.size := ⟨_, rfl⟩
    rw [← g109] at A109 Ex109 st109
    have g_ar : n0 ≤ ar := Nat.le_trans Z0 (Nat.le_of_eq g109.symm)
    have f110 := Nat.le_trans Z0 E109.1
    have f111 : Arv Z h109 ar k109 .double (5 : Int32) [(.double (FP.l2d 0)), (.double (FP.l2d 0)), (.double (FP.l2d 0)), (.double (FP.l2d 0)), (.double (FP.l2d 0))] (.double (FP.l2d 0)) := (Arv.newD A109 (by decide)).pad (pad_rep [] (.double (FP.l2d 0)) 5)
    refine own_of (T' := T109) (f' := (mkF m 131 #[.val (.int p0), .val (.int p1), .val (.int p2), .val (.int p3), .val (.int p4), .val (.int p5), .val (.int (5 : Int32)), .unset, .val (.long ((p1.toInt64) + (p2.toInt64))), .second, .unset, .unset, .unset, .unset, .unset] [(.double (FP.l2d p1.toInt64)), (.int (0 : Int32)), (.ref ar), (.ref ar)])) (fun t_ k_ => (st109 _ (XS.dup X109.here hx rfl (Jvm.hb hby at_127) rfl rfl (XS.iconst X109.here hx rfl (Jvm.hb hby at_128) (XS.iloadN X109.here hx rfl (Jvm.hb hby at_129) rfl (XS.i2dS X109.here hx rfl (Jvm.hb hby at_130) rfl (i2d_w _) k_)))))) ?_
    obtain ⟨cl112, Ar112, qq112, Sz112, Nn112, Hh112, Gg112⟩ := id f111
    have hin112 : ¬ ((0 : Int32) < 0 ∨ cl112.slots.size ≤ ((0 : Int32)).toNatClampNeg) := inb_of Sz112 ⟨by decide, by decide⟩
    obtain ⟨T113, h113, X113, e113, W113, st113⟩ := stD X109 hx hZ e109 Ar112 (j := (0 : Int32)) hin112 (g := (mkF m 131 #[.val (.int p0), .val (.int p1), .val (.int p2), .val (.int p3), .val (.int p4), .val (.int p5), .val (.int (5 : Int32)), .unset, .val (.long ((p1.toInt64) + (p2.toInt64))), .second, .unset, .unset, .unset, .unset, .unset] [(.double (FP.l2d p1.toInt64)), (.int (0 : Int32)), (.ref ar), (.ref ar)])) rfl rfl (Jvm.hb hby at_131)
    refine own_of (T' := T113) (f' := (mkF m 132 #[.val (.int p0), .val (.int p1), .val (.int p2), .val (.int p3), .val (.int p4), .val (.int p5), .val (.int (5 : Int32)), .unset, .val (.long ((p1.toInt64) + (p2.toInt64))), .second, .unset, .unset, .unset, .unset, .unset] [(.ref ar)])) (fun t_ k_ => (st113 _ k_)) ?_
    have f114 := Arv.set Ar112 qq112 Sz112 Nn112 Hh112 Gg112 rfl W113 0 rfl (Nat.le_of_ble_eq_true rfl)
    have N113 := Fr.snoc X113 N0 g_ar
    have f115 := Nat.le_trans f110 (Keep.of_wr W113).1
    have f116 := Ex109.wr W113
    refine own_of (T' := T113) (f' := (mkF m 136 #[.val (.int p0), .val (.int p1), .val (.int p2), .val (.int p3), .val (.int p4), .val (.int p5), .val (.int (5 : Int32)), .unset, .val (.long ((p1.toInt64) + (p2.toInt64))), .second, .unset, .unset, .unset, .unset, .unset] [(.double (FP.l2d p2.toInt64)), (.int (1 : Int32)), (.ref ar), (.ref ar)])) (fun t_ k_ => (XS.dup X113.here hx rfl (Jvm.hb hby at_132) rfl rfl (XS.iconst X113.here hx rfl (Jvm.hb hby at_133) (XS.iloadN X113.here hx rfl (Jvm.hb hby at_134) rfl (XS.i2dS X113.here hx rfl (Jvm.hb hby at_135) rfl (i2d_w _) k_))))) ?_
    obtain ⟨cl118, Ar118, qq118, Sz118, Nn118, Hh118, Gg118⟩ := id f114
    have hin118 : ¬ ((1 : Int32) < 0 ∨ cl118.slots.size ≤ ((1 : Int32)).toNatClampNeg) := inb_of Sz118 ⟨by decide, by decide⟩
    obtain ⟨T119, h119, X119, e119, W119, st119⟩ := stD X113 hx hZ e113 Ar118 (j := (1 : Int32)) hin118 (g := (mkF m 136 #[.val (.int p0), .val (.int p1), .val (.int p2), .val (.int p3), .val (.int p4), .val (.int p5), .val (.int (5 : Int32)), .unset, .val (.long ((p1.toInt64) + (p2.toInt64))), .second, .unset, .unset, .unset, .unset, .unset] [(.double (FP.l2d p2.toInt64)), (.int (1 : Int32)), (.ref ar), (.ref ar)])) rfl rfl (Jvm.hb hby at_136)
    refine own_of (T' := T119) (f' := (mkF m 137 #[.val (.int p0), .val (.int p1), .val (.int p2), .val (.int p3), .val (.int p4), .val (.int p5), .val (.int (5 : Int32)), .unset, .val (.long ((p1.toInt64) + (p2.toInt64))), .second, .unset, .unset, .unset, .unset, .unset] [(.ref ar)])) (fun t_ k_ => (st119 _ k_)) ?_
    have f120 := Arv.set Ar118 qq118 Sz118 Nn118 Hh118 Gg118 rfl W119 1 rfl (Nat.le_of_ble_eq_true rfl)
    have N119 := Fr.snoc X119 N113 g_ar
    have f121 := Nat.le_trans f115 (Keep.of_wr W119).1
    have f122 := f116.wr W119
    refine own_of (T' := T119) (f' := (mkF m 141 #[.val (.int p0), .val (.int p1), .val (.int p2), .val (.int p3), .val (.int p4), .val (.int p5), .val (.int (5 : Int32)), .unset, .val (.long ((p1.toInt64) + (p2.toInt64))), .second, .unset, .unset, .unset, .unset, .unset] [(.double (FP.l2d p3.toInt64)), (.int (2 : Int32)), (.ref ar), (.ref ar)])) (fun t_ k_ => (XS.dup X119.here hx rfl (Jvm.hb hby at_137) rfl rfl (XS.iconst X119.here hx rfl (Jvm.hb hby at_138) (XS.iloadN X119.here hx rfl (Jvm.hb hby at_139) rfl (XS.i2dS X119.here hx rfl (Jvm.hb hby at_140) rfl (i2d_w _) k_))))) ?_
    obtain ⟨cl124, Ar124, qq124, Sz124, Nn124, Hh124, Gg124⟩ := id f120
    have hin124 : ¬ ((2 : Int32) < 0 ∨ cl124.slots.size ≤ ((2 : Int32)).toNatClampNeg) := inb_of Sz124 ⟨by decide, by decide⟩
    obtain ⟨T125, h125, X125, e125, W125, st125⟩ := stD X119 hx hZ e119 Ar124 (j := (2 : Int32)) hin124 (g := (mkF m 141 #[.val (.int p0), .val (.int p1), .val (.int p2), .val (.int p3), .val (.int p4), .val (.int p5), .val (.int (5 : Int32)), .unset, .val (.long ((p1.toInt64) + (p2.toInt64))), .second, .unset, .unset, .unset, .unset, .unset] [(.double (FP.l2d p3.toInt64)), (.int (2 : Int32)), (.ref ar), (.ref ar)])) rfl rfl (Jvm.hb hby at_141)
    refine own_of (T' := T125) (f' := (mkF m 142 #[.val (.int p0), .val (.int p1), .val (.int p2), .val (.int p3), .val (.int p4), .val (.int p5), .val (.int (5 : Int32)), .unset, .val (.long ((p1.toInt64) + (p2.toInt64))), .second, .unset, .unset, .unset, .unset, .unset] [(.ref ar)])) (fun t_ k_ => (st125 _ k_)) ?_
    have f126 := Arv.set Ar124 qq124 Sz124 Nn124 Hh124 Gg124 rfl W125 2 rfl (Nat.le_of_ble_eq_true rfl)
    have N125 := Fr.snoc X125 N119 g_ar
    have f127 := Nat.le_trans f121 (Keep.of_wr W125).1
    have f128 := f122.wr W125
    refine own_of (T' := T125) (f' := (mkF m 147 #[.val (.int p0), .val (.int p1), .val (.int p2), .val (.int p3), .val (.int p4), .val (.int p5), .val (.int (5 : Int32)), .unset, .val (.long ((p1.toInt64) + (p2.toInt64))), .second, .unset, .unset, .unset, .unset, .unset] [(.double (FP.l2d p4.toInt64)), (.int (3 : Int32)), (.ref ar), (.ref ar)])) (fun t_ k_ => (XS.dup X125.here hx rfl (Jvm.hb hby at_142) rfl rfl (XS.iconst X125.here hx rfl (Jvm.hb hby at_143) (XS.iload X125.here hx rfl (Jvm.hb hby at_144) rfl (XS.i2dS X125.here hx rfl (Jvm.hb hby at_146) rfl (i2d_w _) k_))))) ?_
    obtain ⟨cl130, Ar130, qq130, Sz130, Nn130, Hh130, Gg130⟩ := id f126
    have hin130 : ¬ ((3 : Int32) < 0 ∨ cl130.slots.size ≤ ((3 : Int32)).toNatClampNeg) := inb_of Sz130 ⟨by decide, by decide⟩
    obtain ⟨T131, h131, X131, e131, W131, st131⟩ := stD X125 hx hZ e125 Ar130 (j := (3 : Int32)) hin130 (g := (mkF m 147 #[.val (.int p0), .val (.int p1), .val (.int p2), .val (.int p3), .val (.int p4), .val (.int p5), .val (.int (5 : Int32)), .unset, .val (.long ((p1.toInt64) + (p2.toInt64))), .second, .unset, .unset, .unset, .unset, .unset] [(.double (FP.l2d p4.toInt64)), (.int (3 : Int32)), (.ref ar), (.ref ar)])) rfl rfl (Jvm.hb hby at_147)
    refine own_of (T' := T131) (f' := (mkF m 148 #[.val (.int p0), .val (.int p1), .val (.int p2), .val (.int p3), .val (.int p4), .val (.int p5), .val (.int (5 : Int32)), .unset, .val (.long ((p1.toInt64) + (p2.toInt64))), .second, .unset, .unset, .unset, .unset, .unset] [(.ref ar)])) (fun t_ k_ => (st131 _ k_)) ?_
    have f132 := Arv.set Ar130 qq130 Sz130 Nn130 Hh130 Gg130 rfl W131 3 rfl (Nat.le_of_ble_eq_true rfl)
    have N131 := Fr.snoc X131 N125 g_ar
    have f133 := Nat.le_trans f127 (Keep.of_wr W131).1
    have f134 := f128.wr W131
    refine own_of (T' := T131) (f' := (mkF m 153 #[.val (.int p0), .val (.int p1), .val (.int p2), .val (.int p3), .val (.int p4), .val (.int p5), .val (.int (5 : Int32)), .unset, .val (.long ((p1.toInt64) + (p2.toInt64))), .second, .unset, .unset, .unset, .unset, .unset] [(.double (FP.l2d p5.toInt64)), (.int (4 : Int32)), (.ref ar), (.ref ar)])) (fun t_ k_ => (XS.dup X131.here hx rfl (Jvm.hb hby at_148) rfl rfl (XS.iconst X131.here hx rfl (Jvm.hb hby at_149) (XS.iload X131.here hx rfl (Jvm.hb hby at_150) rfl (XS.i2dS X131.here hx rfl (Jvm.hb hby at_152) rfl (i2d_w _) k_))))) ?_
    obtain ⟨cl136, Ar136, qq136, Sz136, Nn136, Hh136, Gg136⟩ := id f132
    have hin136 : ¬ ((4 : Int32) < 0 ∨ cl136.slots.size ≤ ((4 : Int32)).toNatClampNeg) := inb_of Sz136 ⟨by decide, by decide⟩
    obtain ⟨T137, h137, X137, e137, W137, st137⟩ := stD X131 hx hZ e131 Ar136 (j := (4 : Int32)) hin136 (g := (mkF m 153 #[.val (.int p0), .val (.int p1), .val (.int p2), .val (.int p3), .val (.int p4), .val (.int p5), .val (.int (5 : Int32)), .unset, .val (.long ((p1.toInt64) + (p2.toInt64))), .second, .unset, .unset, .unset, .unset, .unset] [(.double (FP.l2d p5.toInt64)), (.int (4 : Int32)), (.ref ar), (.ref ar)])) rfl rfl (Jvm.hb hby at_153)
    refine own_of (T' := T137) (f' := (mkF m 154 #[.val (.int p0), .val (.int p1), .val (.int p2), .val (.int p3), .val (.int p4), .val (.int p5), .val (.int (5 : Int32)), .unset, .val (.long ((p1.toInt64) + (p2.toInt64))), .second, .unset, .unset, .unset, .unset, .unset] [(.ref ar)])) (fun t_ k_ => (st137 _ k_)) ?_
    have f138 := Arv.set Ar136 qq136 Sz136 Nn136 Hh136 Gg136 rfl W137 4 rfl (Nat.le_of_ble_eq_true rfl)
    have N137 := Fr.snoc X137 N131 g_ar
    have f139 := Nat.le_trans f133 (Keep.of_wr W137).1
    have f140 := f134.wr W137
    refine own_of (T' := T137) (f' := (mkF m 167 #[.val (.int p0), .val (.int p1), .val (.int p2), .val (.int p3), .val (.int p4), .val (.int p5), .val (.int (5 : Int32)), .val (.ref ar), .val (.long (((p1.toInt64) + (p2.toInt64)) + (p3.toInt64))), .second, .unset, .unset, .unset, .unset, .unset] [(.int p4), (.long (((p1.toInt64) + (p2.toInt64)) + (p3.toInt64)))])) (fun t_ k_ => (XS.astore X137.here hx rfl (Jvm.hb hby at_154) rfl rfl (l' := #[.val (.int p0), .val (.int p1), .val (.int p2), .val (.int p3), .val (.int p4), .val (.int p5), .val (.int (5 : Int32)), .val (.ref ar), .val (.long ((p1.toInt64) + (p2.toInt64))), .second, .unset, .unset, .unset, .unset, .unset]) rfl (XS.lload X137.here hx rfl (Jvm.hb hby at_156) rfl (XS.iloadN X137.here hx rfl (Jvm.hb hby at_158) rfl (XS.i2l X137.here hx rfl (Jvm.hb hby at_159) rfl (XS.ladd X137.here hx rfl (Jvm.hb hby at_160) rfl (XS.lstore X137.here hx rfl (Jvm.hb hby at_161) rfl (l' := #[.val (.int p0), .val (.int p1), .val (.int p2), .val (.int p3), .val (.int p4), .val (.int p5), .val (.int (5 : Int32)), .val (.ref ar), .val (.long (((p1.toInt64) + (p2.toInt64)) + (p3.toInt64))), .second, .unset, .unset, .unset, .unset, .unset]) rfl (XS.lload X137.here hx rfl (Jvm.hb hby at_163) rfl (XS.iload X137.here hx rfl (Jvm.hb hby at_165) rfl k_))))))))) ?_
    refine own_of (T' := T137) (f' := (mkF m 179 #[.val (.int p0), .val (.int p1), .val (.int p2), .val (.int p3), .val (.int p4), .val (.int p5), .val (.int (5 : Int32)), .val (.ref ar), .val (.long (((((p1.toInt64) + (p2.toInt64)) + (p3.toInt64)) + (p4.toInt64)) + (p5.toInt64))), .second, .unset, .unset, .unset, .unset, .unset] [])) (fun t_ k_ => (XS.i2l X137.here hx rfl (Jvm.hb hby at_167) rfl (XS.ladd X137.here hx rfl (Jvm.hb hby at_168) rfl (XS.lstore X137.here hx rfl (Jvm.hb hby at_169) rfl (l' := #[.val (.int p0), .val (.int p1), .val (.int p2), .val (.int p3), .val (.int p4), .val (.int p5), .val (.int (5 : Int32)), .val (.ref ar), .val (.long ((((p1.toInt64) + (p2.toInt64)) + (p3.toInt64)) + (p4.toInt64))), .second, .unset, .unset, .unset, .unset, .unset]) rfl (XS.lload X137.here hx rfl (Jvm.hb hby at_171) rfl (XS.iload X137.here hx rfl (Jvm.hb hby at_173) rfl (XS.i2l X137.here hx rfl (Jvm.hb hby at_175) rfl (XS.ladd X137.here hx rfl (Jvm.hb hby at_176) rfl (XS.lstore X137.here hx rfl (Jvm.hb hby at_177) rfl (l' := #[.val (.int p0), .val (.int p1), .val (.int p2), .val (.int p3), .val (.int p4), .val (.int p5), .val (.int (5 : Int32)), .val (.ref ar), .val (.long (((((p1.toInt64) + (p2.toInt64)) + (p3.toInt64)) + (p4.toInt64)) + (p5.toInt64))), .second, .unset, .unset, .unset, .unset, .unset]) rfl k_))))))))) ?_
    obtain ⟨T142, h142, X142, e142, E142, A142, D142, -, st142⟩ := newO X137 hx hZ hown (hw _ (List.mem_of_getElem? (i := 1) rfl)) (hw _ (List.mem_of_getElem? (i := 2) rfl)) (hw _ (List.mem_of_getElem? (i := 3) rfl)) e137 (g := (mkF m 179 #[.val (.int p0), .val (.int p1), .val (.int p2), .val (.int p3), .val (.int p4), .val (.int p5), .val (.int (5 : Int32)), .val (.ref ar), .val (.long (((((p1.toInt64) + (p2.toInt64)) + (p3.toInt64)) + (p4.toInt64)) + (p5.toInt64))), .second, .unset, .unset, .unset, .unset, .unset] [])) rfl (Jvm.hb hby at_179) (by decide) (by decide)
    obtain ⟨o, g142⟩ : ∃ z, z = h137.size := ⟨_, rfl⟩
    rw [← g142] at A142 D142 st142
    have ne_ar_o : ar ≠ o := by rw [g142]; exact Nat.ne_of_lt f140.lt
    have g_o : n0 ≤ o := Nat.le_trans f139 (Nat.le_of_eq g142.symm)
    have f143 := Nat.le_trans f139 E142.1
    have f144 := f140.ext E142
    have f145 := f138.ext E142
    have f146 : Fld Z h142 o "com/example/orunmila/orunmila/simulate/Returns" "m_aReturns" "[D" .null := D142 (Or.inr (hw _ (List.mem_of_getElem? (i := 20) rfl))) (ty := (.array .double)) (by decide)
    refine own_of (T' := T142) (f' := (mkF m 185 #[.val (.int p0), .val (.int p1), .val (.int p2), .val (.int p3), .val (.int p4), .val (.int p5), .val (.int (5 : Int32)), .val (.ref ar), .val (.long (((((p1.toInt64) + (p2.toInt64)) + (p3.toInt64)) + (p4.toInt64)) + (p5.toInt64))), .second, .unset, .unset, .unset, .unset, .unset] [(.ref ar), (.ref o), (.ref o)])) (fun t_ k_ => (st142 _ (XS.dup X142.here hx rfl (Jvm.hb hby at_182) rfl rfl (XS.aload X142.here hx rfl (Jvm.hb hby at_183) rfl rfl k_)))) ?_
    obtain ⟨_, _, ⟨T147, L147, k147, n147⟩, -, X147, ⟨Lc147, hQ147, l147, y147, z147⟩, st147⟩ := X142.specialBack hx (y := (⟨"com/example/orunmila/orunmila/simulate/Returns", "<init>", "([D)V"⟩ : MethodName)) rfl hown (mvT hZ (hw _ (List.mem_of_getElem? (i := 4) rfl))) (mvT hZ (hw _ (List.mem_of_getElem? (i := 5) rfl))) (mvT hZ (hw _ (List.mem_of_getElem? (i := 6) rfl))) (by decide) (backOf (W := 1) (own_rm_init l Z a0 hw [] o ar k109 (5 : Int32) [(.double (FP.l2d p1.toInt64)), (.double (FP.l2d p2.toInt64)), (.double (FP.l2d p3.toInt64)), (.double (FP.l2d p4.toInt64)), (.double (FP.l2d p5.toInt64))] h142 n0 f143 f146 A142 g_o f145 f144 (by decide) (by decide)) hZ (hw _ (List.mem_of_getElem? (i := 6) rfl)) (hw _ (List.mem_of_getElem? (i := 3) rfl)) (by decide) (by decide)) (g := (mkF m 185 #[.val (.int p0), .val (.int p1), .val (.int p2), .val (.int p3), .val (.int p4), .val (.int p5), .val (.int (5 : Int32)), .val (.ref ar), .val (.long (((((p1.toInt64) + (p2.toInt64)) + (p3.toInt64)) + (p4.toInt64)) + (p5.toInt64))), .second, .unset, .unset, .unset, .unset, .unset] [(.ref ar), (.ref o), (.ref o)])) rfl (by rw [hml]; rfl) (Steps.refl _) (a := o) (argsL := [(.ref ar)]) (rest := [(.ref o)]) (lenOf own_pd_0 rfl) rfl (by show 2 * 0 + _ ≤ _; exact Nat.le_of_eq rfl) (Jvm.hb hby at_185) (fun _ _ => ⟨rfl, e142, Nat.le_of_ble_eq_true rfl, Nat.le_of_ble_eq_true rfl⟩)
    dsimp only [Pt.U, Pt.locs, Pt.cells, Pt.slots] at X147 l147 y147 z147 st147 hQ147
    subst l147 y147 z147
    obtain ⟨rfl, N147, K147, Eo147, b147, Fo147, Vb147⟩ := hQ147
    have N148 := Fr.app N137 N147
    have f149 := Nat.le_trans f143 K147.1
    have f150 := f144.keep K147
    have f151 := f145.keep K147 (ninS ne_ar_o nin0)
    have f152 := A142.keep K147
    refine own_of (T' := T147) (f' := (mkF m 192 #[.val (.int p0), .val (.int p1), .val (.int p2), .val (.int p3), .val (.int p4), .val (.int p5), .val (.int (5 : Int32)), .val (.ref ar), .val (.long (((((p1.toInt64) + (p2.toInt64)) + (p3.toInt64)) + (p4.toInt64)) + (p5.toInt64))), .second, .val (.ref o), .unset, .unset, .unset, .unset] [(.ref o)])) (fun t_ k_ => (st147.trans (XS.astore X147.here hx rfl (Jvm.hb hby at_188) rfl rfl (l' := #[.val (.int p0), .val (.int p1), .val (.int p2), .val (.int p3), .val (.int p4), .val (.int p5), .val (.int (5 : Int32)), .val (.ref ar), .val (.long (((((p1.toInt64) + (p2.toInt64)) + (p3.toInt64)) + (p4.toInt64)) + (p5.toInt64))), .second, .val (.ref o), .unset, .unset, .unset, .unset]) rfl (XS.aload X147.here hx rfl (Jvm.hb hby at_190) rfl rfl k_)))) ?_
    obtain ⟨cq155, kq155, q155a, q155b, q155c⟩ := isOf hZ rfl Eo147
    obtain ⟨_, _, ⟨T154, L154, k154, n154⟩, -, X154, ⟨Lc154, hQ154, l154, y154, z154⟩, st154⟩ := X147.virtualBack hx (y := (⟨"com/example/orunmila/orunmila/simulate/Returns", "getMean", "()D"⟩ : MethodName)) (z := (⟨"com/example/orunmila/orunmila/simulate/Returns", "getMean", "()D"⟩ : MethodName)) hown (mvT hZ (hw _ (List.mem_of_getElem? (i := 21) rfl))) (mvT hZ (hw _ (List.mem_of_getElem? (i := 22) rfl))) (notFace_of_selects (args := #[]) (mvT hZ (hw _ (List.mem_of_getElem? (i := 24) rfl)))) (mvT hZ (hw _ (List.mem_of_getElem? (i := 24) rfl))) (mvT hZ (hw _ (List.mem_of_getElem? (i := 23) rfl))) (by decide) (backOf (W := 0) (own_rm_mean5 l Z a0 hw [] o b147 k109 p1.toInt64 p2.toInt64 p3.toInt64 p4.toInt64 p5.toInt64 T147.heap n0 f149 Fo147 Vb147 (own_in p1) (own_in p2) (own_in p3) (own_in p4) (own_in p5)) hZ (hw _ (List.mem_of_getElem? (i := 25) rfl)) (hw _ (List.mem_of_getElem? (i := 3) rfl)) (by decide) (by decide)) q155a q155c (g := (mkF m 192 #[.val (.int p0), .val (.int p1), .val (.int p2), .val (.int p3), .val (.int p4), .val (.int p5), .val (.int (5 : Int32)), .val (.ref ar), .val (.long (((((p1.toInt64) + (p2.toInt64)) + (p3.toInt64)) + (p4.toInt64)) + (p5.toInt64))), .second, .val (.ref o), .unset, .unset, .unset, .unset] [(.ref o)])) rfl (by rw [hml]; rfl) (Steps.refl _) (argsL := []) (rest := []) (lenOf own_pd_1 rfl) rfl (by show 2 * 0 + _ ≤ _; exact Nat.le_of_eq rfl) (Jvm.hb hby at_192) (fun _ _ => ⟨rfl, rfl, Nat.le_of_ble_eq_true rfl, Nat.le_of_ble_eq_true rfl⟩)
    dsimp only [Pt.U, Pt.locs, Pt.cells, Pt.slots] at X154 l154 y154 z154 st154 hQ154
    subst l154 y154 z154
    obtain ⟨rfl, N154, e154⟩ := hQ154
    have N156 := Fr.app N148 N154
    refine own_of (T' := T154) (f' := (mkF m 206 #[.val (.int p0), .val (.int p1), .val (.int p2), .val (.int p3), .val (.int p4), .val (.int p5), .val (.int (5 : Int32)), .val (.ref ar), .val (.long (((((p1.toInt64) + (p2.toInt64)) + (p3.toInt64)) + (p4.toInt64)) + (p5.toInt64))), .second, .val (.ref o), .val (.double (FP.ddiv (FP.l2d ((((p1.toInt64 + p2.toInt64) + p3.toInt64) + p4.toInt64) + p5.toInt64)) (FP.l2d (5 : Int32).toInt64))), .second, .val (.double (FP.ddiv (FP.l2d ((((p1.toInt64 + p2.toInt64) + p3.toInt64) + p4.toInt64) + p5.toInt64)) (FP.l2d (5 : Int32).toInt64))), .second] [])) (fun t_ k_ => (st154.trans (XS.dstore X154.here hx rfl (Jvm.hb hby at_195) rfl (l' := #[.val (.int p0), .val (.int p1), .val (.int p2), .val (.int p3), .val (.int p4), .val (.int p5), .val (.int (5 : Int32)), .val (.ref ar), .val (.long (((((p1.toInt64) + (p2.toInt64)) + (p3.toInt64)) + (p4.toInt64)) + (p5.toInt64))), .second, .val (.ref o), .val (.double (FP.ddiv (FP.l2d ((((p1.toInt64 + p2.toInt64) + p3.toInt64) + p4.toInt64) + p5.toInt64)) (FP.l2d (5 : Int32).toInt64))), .second, .unset, .unset]) rfl (XS.lload X154.here hx rfl (Jvm.hb hby at_197) rfl (XS.l2dS X154.here hx rfl (Jvm.hb hby at_199) rfl rfl (XS.iload X154.here hx rfl (Jvm.hb hby at_200) rfl (XS.i2dS X154.here hx rfl (Jvm.hb hby at_202) rfl (i2d_w _) (XS.ddivS X154.here hx rfl (Jvm.hb hby at_203) rfl (own_nn _ _ own_nz5) rfl (XS.dstore X154.here hx rfl (Jvm.hb hby at_204) rfl (l' := #[.val (.int p0), .val (.int p1), .val (.int p2), .val (.int p3), .val (.int p4), .val (.int p5), .val (.int (5 : Int32)), .val (.ref ar), .val (.long (((((p1.toInt64) + (p2.toInt64)) + (p3.toInt64)) + (p4.toInt64)) + (p5.toInt64))), .second, .val (.ref o), .val (.double (FP.ddiv (FP.l2d ((((p1.toInt64 + p2.toInt64) + p3.toInt64) + p4.toInt64) + p5.toInt64)) (FP.l2d (5 : Int32).toInt64))), .second, .val (.double (FP.ddiv (FP.l2d ((((p1.toInt64 + p2.toInt64) + p3.toInt64) + p4.toInt64) + p5.toInt64)) (FP.l2d (5 : Int32).toInt64))), .second]) rfl k_))))))))) ?_
    refine own_of (T' := T154) (f' := (mkF m 219 #[.val (.int p0), .val (.int p1), .val (.int p2), .val (.int p3), .val (.int p4), .val (.int p5), .val (.int (5 : Int32)), .val (.ref ar), .val (.long (((((p1.toInt64) + (p2.toInt64)) + (p3.toInt64)) + (p4.toInt64)) + (p5.toInt64))), .second, .val (.ref o), .val (.double (FP.ddiv (FP.l2d ((((p1.toInt64 + p2.toInt64) + p3.toInt64) + p4.toInt64) + p5.toInt64)) (FP.l2d (5 : Int32).toInt64))), .second, .val (.double (FP.ddiv (FP.l2d ((((p1.toInt64 + p2.toInt64) + p3.toInt64) + p4.toInt64) + p5.toInt64)) (FP.l2d (5 : Int32).toInt64))), .second] [(.int (1 : Int32))])) (fun t_ k_ => (XS.dload X154.here hx rfl (Jvm.hb hby at_206) rfl (XS.dload X154.here hx rfl (Jvm.hb hby at_208) rfl (XS.dcmpS X154.here hx rfl (Jvm.hb hby at_210) rfl (dcmpV_eq rfl (own_nn _ _ own_nz5) .l) (XS.ifNo X154.here hx rfl (Jvm.hb hby at_211) rfl ((if0 _ _).trans (teq rfl).2) (XS.iconst X154.here hx rfl (Jvm.hb hby at_214) (XS.goto X154.here hx rfl (pc0 := 215) (pc' := 219) rfl (Jvm.hb hby at_215) (by decide) (by decide) k_))))))) ?_
    obtain ⟨fs, hr, hrun, hended, hW, hsame⟩ := X154.leave (v := some (.int (1 : Int32))) (fun h => by rw [Bd.returns] at h; cases h)
    exact ⟨_, _, retN X154 hx (t := .boolean) Bd.returns (by simp) (Jvm.hb hby at_219) hr, hrun, hended, _, _, rfl, (by show own_Q_0 Z p0 p1 p2 p3 p4 p5  h0 n0 _ T154.heap _; rw [e154]; exact ⟨rfl, N156⟩), ⟨_, rfl⟩, hW, hsame.mono (by decide) (by decide)⟩
set_option maxRecDepth 65536 in
set_option maxHeartbeats 40000000 in
theorem own_comes_1 {Post : Tables → Env → Array Value → State → Outcome → State → Prop} (hpost : ∀ tb e args s v u, (limb_1_1.after args s (.returned v) u = true ∧ limb_1_2.after args s (.returned v) u = true ∧ True) → FrameEnd s (.returned v) u (Jvm.fieldLocs frame_1_writes args s ++ Jvm.arrayLocs frame_1_arrays args s ++ Jvm.staticLocs frame_1_statics s) 16 128 → Post tb e args s (.returned v) u) :
    ArmFor flags0 classFile x code maxLocals ret World_1 tables_1 room_1 Calls_1 rest_1 Pre_1 Post := by
  intro l hfl _ _ p e ha hc hk s m args below hf hA hF happ hP
  obtain ⟨hcalls, hrest, hpre⟩ := hP
  obtain ⟨-, -, -, hnamed, -, -, -, hat⟩ := (Spec.applies_iff hf).mp happ
  obtain ⟨hg, hn⟩ := and_e (Cond.before_iff.mp (show (Jvm.Cond.and given_1 narrow_1).before args s = true from hpre))
  obtain ⟨hg0, hg⟩ := and_e hg
  obtain ⟨ga0, hg⟩ := and_e hg
  obtain ⟨ga1, hg⟩ := and_e hg
  obtain ⟨ga2, hg⟩ := and_e hg
  obtain ⟨ga3, hg⟩ := and_e hg
  obtain ⟨ga4, hg⟩ := and_e hg
  have ga5 := hg
  obtain ⟨w0, w1, w2, w3, w4, w5, rfl⟩ : ∃ w0 w1 w2 w3 w4 w5 : Value, args = #[w0, w1, w2, w3, w4, w5] := by
    have hs : args.size = 6 := by simpa [Cond.value, given_1] using hg0
    obtain ⟨L⟩ := args
    match L, hs with
    | [w0, w1, w2, w3, w4, w5], _ => exact ⟨w0, w1, w2, w3, w4, w5, rfl⟩
  have hw := fun d (hd : d ∈ tables_1) => atoms_spec (ws := Jvm.Cond.code x code maxLocals ret :: tables_1) hat d (List.mem_cons_of_mem _ hd)
  have hfit : Fit s := fun {y c} hc i hi => by
    obtain ⟨ha, rfl⟩ := Array.getElem?_eq_some_iff.mp hc
    have q := List.all_eq_true.mp ((Array.all_eq_true_iff_forall_mem.mp hF) _ (Array.getElem_mem ha)) i (List.mem_range.mpr hi)
    simpa [Array.getElem?_eq_getElem hi] using q
  obtain ⟨i0, ei0⟩ := is_v ga0
  obtain rfl : w0 = (.int i0) := Option.some.inj ei0
  obtain ⟨i1, ei1⟩ := is_v ga1
  obtain rfl : w1 = (.int i1) := Option.some.inj ei1
  obtain ⟨i2, ei2⟩ := is_v ga2
  obtain rfl : w2 = (.int i2) := Option.some.inj ei2
  obtain ⟨i3, ei3⟩ := is_v ga3
  obtain rfl : w3 = (.int i3) := Option.some.inj ei3
  obtain ⟨i4, ei4⟩ := is_v ga4
  obtain rfl : w4 = (.int i4) := Option.some.inj ei4
  obtain ⟨i5, ei5⟩ := is_v ga5
  obtain rfl : w5 = (.int i5) := Option.some.inj ei5
  obtain ⟨n, o, h1, h2, h3, _, L, rfl, ⟨rfl, N⟩, hq⟩ := own_rm_0 l s _ hw tables_1 i0 i1 i2 i3 i4 i5 s.heap s.heap.size (Nat.le_refl _) p e ha hc hk s m _ below hf ((Spec.applies_iff_loose hf).mp happ).1 ⟨rfl, State.Warmed39.refl s, rfl⟩ trivial
  refine ⟨n, _, h1, h2, h3, hpost _ _ _ _ _ _ ⟨Cond.after_iff.mpr rfl, Cond.after_iff.mpr (eq_i res_at (Term.int_eval (1)) rfl), trivial⟩ ⟨hq.1, hq.2.1, (hq.2.2.sift fun y hy => Or.inr (N y hy)).mono (by decide) (by decide)⟩⟩
theorem main_1_1 : Claimed_1_1 := own_comes_1 fun _ _ _ _ _ _ h hF => ⟨h.1, hF⟩
theorem main_1_2 : Claimed_1_2 := own_comes_1 fun _ _ _ _ _ _ h hF => ⟨h.2.1, hF⟩
end Jvm.Pilot.@@N@@
namespace Jvm.Pilot.@@N@@
open Jvm Jvm.ClassFile Sem Op Lib Jvm.Free Jvm.Stand Jvm.Pilot.@@N@@.Jvm.D
/-! MADE BY PROGRAM (witnessworld.py) out of the Statement's table words and the real class files: 9 classes; the members and pool entries that the words name. The judged class is class 1, her method 1. -/
namespace start1
open Jvm.ClassFile
def u (s : String) : CpInfo := .utf8 (stringToUtf16 s)
/-- a pool by its gaps: so many unusable entries, then the entry; so many at the end -/
def gap : Nat → List CpInfo → List CpInfo
  | 0, r => r
  | n + 1, r => .unusable :: gap n r
def poolList (es : List (Nat × CpInfo)) (last : Nat) : List CpInfo := es.foldr (fun e r => gap e.1 (e.2 :: r)) (gap last [])
def pool (es : List (Nat × CpInfo)) (last : Nat) : Array CpInfo := ⟨poolList es last⟩
def fileOf (pool : Array CpInfo) (this : Nat) (attrs : Array Attribute := #[]) (ms : Array MethodInfo := #[]) (fl : Nat := 33) (sup : Nat := 0) (ifs : Array Nat := #[]) (fds : Array FieldInfo := #[]) : ClassFile where
  minorVersion := 0
  majorVersion := 65
  constantPool := pool
  accessFlags := fl
  thisClass := this
  superClass := sup
  interfaces := ifs
  fields := fds
  methods := ms
  attributes := attrs
def plain (name : String) (sup : Option ClassId) : Class where
  name := name
  kind := .ordinary
  loader := none
  accessFlags := 33
  super := sup
  interfaces := #[]
  cf := none
  fields := #[]
  methods := #[]
  instanceTypes := #[]
  staticTypes := #[]
  resolved := #[]
  callSites := []
  init := .initialized
  statics := none
  mirror := none

def pool0 : Array CpInfo := pool [(5, u "<init>"), (0, u "()V"), (1, .class_ 10), (1, u "java/lang/Object"), (85, u "clone"), (0, u "()Ljava/lang/Object;")] 26

def k0c0 : Code := { maxStack := 0, maxLocals := 1, code := object_method_1_code, exceptionTable := #[], attributes := #[] }
def k0m0 : Method := { name := "<init>", desc := "()V", sig := { parameters := [], returnType := none }, accessFlags := 1, code := some k0c0 }
def k0m1 : Method := { name := "clone", desc := "()Ljava/lang/Object;", sig := { parameters := [], returnType := some (.object "java/lang/Object") }, accessFlags := 260, code := none }
/-- java/lang/Object -/
def k0 : Class := { plain "java/lang/Object" none with
  accessFlags := 33
  interfaces := #[]
  cf := some (fileOf pool0 8 #[] #[{ accessFlags := 1, nameIndex := 5, descriptorIndex := 6, attributes := #[] }, { accessFlags := 260, nameIndex := 96, descriptorIndex := 97, attributes := #[] }] 33 0 #[] #[])
  fields := #[]
  methods := #[k0m0, k0m1]
  instanceTypes := #[]
  staticTypes := #[]
  resolved := Array.replicate 124 none
  statics := none }

def pool1 : Array CpInfo := pool [(2, .class_ 4), (1, u "java/lang/Object"), (0, u "<init>"), (0, u "()V"), (0, .class_ 8), (0, u "com/example/orunmila/orunmila/simulate/Returns"), (0, .methodref 7 10), (0, .nameAndType 5 11), (0, u "([D)V"), (0, .methodref 7 13), (0, .nameAndType 14 15), (0, u "getMean"), (0, u "()D"), (0, .class_ 17), (0, u "com/example/orunmila/orunmila/simulate/ReturnsGetMeanPinLaw"), (2, u "law"), (0, u "(IIIIII)Z")] 5

def k1m0 : Method := { name := "<init>", desc := "()V", sig := { parameters := [], returnType := none }, accessFlags := 1, code := none }
def k1c1 : Code := { maxStack := 5, maxLocals := 15, code := code, exceptionTable := #[], attributes := #[] }
def k1m1 : Method := { name := "law", desc := "(IIIIII)Z", sig := { parameters := [.int, .int, .int, .int, .int, .int], returnType := some .boolean }, accessFlags := 9, code := some k1c1 }
/-- com/example/orunmila/orunmila/simulate/ReturnsGetMeanPinLaw -/
def k1 : Class := { plain "com/example/orunmila/orunmila/simulate/ReturnsGetMeanPinLaw" (some 0) with
  accessFlags := 49
  interfaces := #[]
  cf := some (fileOf pool1 16 #[] #[{ accessFlags := 1, nameIndex := 5, descriptorIndex := 6, attributes := #[] }, { accessFlags := 9, nameIndex := 20, descriptorIndex := 21, attributes := #[] }] 49 2 #[] #[])
  fields := #[]
  methods := #[k1m0, k1m1]
  instanceTypes := #[]
  staticTypes := #[]
  resolved := Array.replicate 27 none
  statics := none }

def pool2 : Array CpInfo := pool [(1, .methodref 2 3), (0, .class_ 4), (0, .nameAndType 5 6), (0, u "java/lang/Object"), (0, u "<init>"), (0, u "()V"), (9, .methodref 17 18), (0, .class_ 19), (0, .nameAndType 20 21), (0, u "[D"), (0, u "clone"), (0, u "()Ljava/lang/Object;"), (0, .fieldref 23 24), (0, .class_ 25), (0, .nameAndType 26 19), (0, u "com/example/orunmila/orunmila/simulate/Returns"), (0, u "m_aReturns"), (2, u "getMean"), (0, u "()D"), (11, u "Z_95"), (0, u "D"), (1, u "([D)V")] 21

def k2c0 : Code := { maxStack := 3, maxLocals := 2, code := prog_70_method_1_code, exceptionTable := #[], attributes := #[] }
def k2m0 : Method := { name := "<init>", desc := "([D)V", sig := { parameters := [(.array .double)], returnType := none }, accessFlags := 1, code := some k2c0 }
def k2c1 : Code := { maxStack := 4, maxLocals := 8, code := prog_70_method_2_code, exceptionTable := #[], attributes := #[] }
def k2m1 : Method := { name := "getMean", desc := "()D", sig := { parameters := [], returnType := some .double }, accessFlags := 1, code := some k2c1 }
/-- com/example/orunmila/orunmila/simulate/Returns -/
def k2 : Class := { plain "com/example/orunmila/orunmila/simulate/Returns" (some 0) with
  accessFlags := 33
  interfaces := #[]
  cf := some (fileOf pool2 23 #[] #[{ accessFlags := 1, nameIndex := 5, descriptorIndex := 45, attributes := #[] }, { accessFlags := 1, nameIndex := 29, descriptorIndex := 30, attributes := #[] }] 33 2 #[] #[{ accessFlags := 26, nameIndex := 42, descriptorIndex := 43, attributes := #[] }, { accessFlags := 18, nameIndex := 26, descriptorIndex := 19, attributes := #[] }])
  fields := #[{ name := "Z_95", type := .double, accessFlags := 26, slot := 0, constantValue := 0 }, { name := "m_aReturns", type := (.array .double), accessFlags := 18, slot := 0, constantValue := 0 }]
  methods := #[k2m0, k2m1]
  instanceTypes := #[(.array .double)]
  staticTypes := #[.double]
  resolved := Array.replicate 67 none
  statics := none }

def pool3 : Array CpInfo := pool [(1, .class_ 2), (0, u "java/lang/Cloneable"), (0, .class_ 4), (0, u "java/lang/Object")] 2

/-- java/lang/Cloneable -/
def k3 : Class := { plain "java/lang/Cloneable" (some 0) with
  accessFlags := 1537
  interfaces := #[]
  cf := some (fileOf pool3 1 #[] #[] 1537 3 #[] #[])
  fields := #[]
  methods := #[]
  instanceTypes := #[]
  staticTypes := #[]
  resolved := Array.replicate 7 none
  statics := none }

def pool4 : Array CpInfo := pool [(1, u "java/io/Serializable"), (0, .class_ 1), (0, u "java/lang/Object"), (0, .class_ 3)] 3

/-- java/io/Serializable -/
def k4 : Class := { plain "java/io/Serializable" (some 0) with
  accessFlags := 1537
  interfaces := #[]
  cf := some (fileOf pool4 2 #[] #[] 1537 4 #[] #[])
  fields := #[]
  methods := #[]
  instanceTypes := #[]
  staticTypes := #[]
  resolved := Array.replicate 8 none
  statics := none }

/-- the primitive byte -/
def k5 : Class := { plain "byte" none with kind := .primitive 'B', accessFlags := 0x411 }
/-- [B -/
def k6 : Class := { plain "[B" (some 0) with kind := .array 5 .byte, interfaces := #[3, 4], accessFlags := 1041 }

/-- the primitive int -/
def k7 : Class := { plain "int" none with kind := .primitive 'I', accessFlags := 0x411 }
/-- [I -/
def k8 : Class := { plain "[I" (some 0) with kind := .array 7 .int, interfaces := #[3, 4], accessFlags := 1041 }

/-- the primitive double -/
def k9 : Class := { plain "double" none with kind := .primitive 'D', accessFlags := 0x411 }
/-- [D -/
def k10 : Class := { plain "[D" (some 0) with kind := .array 9 .double, interfaces := #[3, 4], accessFlags := 1041 }

def heap : Heap := #[]
def classes : Array Class := #[k0, k1, k2, k3, k4, k5, k6, k7, k8, k9, k10]
def interned : List (Array UInt16 × Addr) := []
def slotsUsed : Nat := 0
def theMethod : MethodId := ⟨1, 1⟩
def args0 : Array Value := #[.int 5, .int 5, .int 5, .int 5, .int 5, .int 5]
def aboutOver (below : List Frame) : State where
  vm := { classes := classes, interned := interned.toArray }
  heap := heap
  slotsUsed := slotsUsed
  threads := #[{ frames := .invoking theMethod args0 :: below }]
def below0 : List Frame := [.native { method := ⟨0, 0⟩, args := #[] }]
def about1 : State := aboutOver below0
def p0 : Program := .bare "" "" ""
def e0 : Env := launch0.env 0 0 0
theorem w_frames : about1.frames = Frame.invoking theMethod args0 :: below0 := rfl
set_option maxRecDepth 65536 in
theorem w_args : argsFit about1.vm theMethod args0 = true := by decide +kernel
set_option maxRecDepth 65536 in
theorem w_heap : heapFits about1 = true := by decide +kernel
set_option maxRecDepth 65536 in
theorem w_runnable : about1.curStatus? = some .runnable := by decide +kernel
set_option maxRecDepth 65536 in
theorem w_alone : about1.alone = true := by decide +kernel
set_option maxRecDepth 65536 in
theorem w_named : about1.methodNamed? x = some theMethod := by decide +kernel
set_option maxRecDepth 65536 in
theorem w_hears : about1.hears theMethod below0 = true := by decide +kernel
set_option maxRecDepth 65536 in
theorem w_ripe : about1.ripe theMethod args0 below0 = true := by decide +kernel
theorem w_running : about1.status = .running := rfl
set_option maxRecDepth 65536 in
theorem w_room : about1.hasRoom e0.platform room_1 = true :=
  launch0.hasRoom_least _ room_1 (by decide +kernel) (by decide +kernel) (by decide +kernel) (by decide +kernel) (by decide +kernel) (by decide +kernel)
theorem allAtoms_all (ts : List Jvm.Cond) (a : Array Jvm.Value) (st : Jvm.State) : (allAtoms ts).before a st = ts.all (fun c => c.before a st) := by
  induction ts with
  | nil => rfl
  | cons c t ih =>
    show (Jvm.Cond.and c (allAtoms t)).before a st = _
    rw [Jvm.Cond.before_and, ih, List.all_cons]
def words1 : List Jvm.Cond := Jvm.Cond.code x code maxLocals ret :: tables_1
/-- a 'code' word, met by the world's own term for the bytes: nothing is compared byte by byte -/
theorem code_word {y : MethodName} {bytes : ByteArray} {mx : Nat} {rt : Option FieldType} {a : Array Value} {s : State} {m : MethodId} {meth : Method} {c : Code} (h1 : s.methodNamed? y = some m) (h2 : s.vm.method? m = some meth) (h3 : meth.code = some c) (h4 : c.code = bytes)
    (h5 : (c.maxLocals == mx && c.exceptionTable.isEmpty && decide (c.maxStack ≤ mostOperands) && decide (meth.sig.returnType = rt) && !meth.locks && decide (parseMethodDescriptor y.desc = some meth.sig)) = true) : (Jvm.Cond.code y bytes mx rt).before a s = true := by
  simp only [Bool.and_eq_true, beq_iff_eq, Bool.not_eq_true', decide_eq_true_eq] at h5
  obtain ⟨⟨⟨⟨⟨g1, g2⟩, g3⟩, g4⟩, g5⟩, g6⟩ := h5
  simp [Cond.before, Cond.holds, Cond.value, h1, h2, h3, h4, g1, g2, g3, g4, g5, g6]
def isCode : Jvm.Cond → Bool
  | .code _ _ _ _ => true
  | _ => false
theorem all_split {L : List Jvm.Cond} {P : Jvm.Cond → Bool} (h1 : L.all (fun c => isCode c || P c) = true) (h2 : ∀ c ∈ L.filter isCode, P c = true) : L.all P = true := by
  refine List.all_eq_true.mpr fun c hc => ?_
  have h := List.all_eq_true.mp h1 c hc
  rcases Bool.eq_false_or_eq_true (isCode c) with hi | hi
  · exact h2 c (List.mem_filter.mpr ⟨hc, hi⟩)
  · simpa [hi] using h
set_option maxRecDepth 65536 in
theorem w_c0 : (Jvm.Cond.code x code maxLocals ret).before args0 about1 = true := code_word (m := ⟨1, 1⟩) (meth := k1m1) (c := k1c1) (by decide +kernel) rfl rfl rfl (by decide +kernel)
set_option maxRecDepth 65536 in
theorem w_c1 : (Jvm.Cond.code ({ cls := "com/example/orunmila/orunmila/simulate/Returns", name := "<init>", desc := "([D)V" } : Jvm.MethodName) prog_70_method_1_code (2 : Nat) (Option.none : Option Jvm.ClassFile.FieldType)).before args0 about1 = true := code_word (m := ⟨2, 0⟩) (meth := k2m0) (c := k2c0) (by decide +kernel) rfl rfl rfl (by decide +kernel)
set_option maxRecDepth 65536 in
theorem w_c2 : (Jvm.Cond.code ({ cls := "java/lang/Object", name := "<init>", desc := "()V" } : Jvm.MethodName) object_method_1_code (1 : Nat) (Option.none : Option Jvm.ClassFile.FieldType)).before args0 about1 = true := code_word (m := ⟨0, 0⟩) (meth := k0m0) (c := k0c0) (by decide +kernel) rfl rfl rfl (by decide +kernel)
set_option maxRecDepth 65536 in
theorem w_c3 : (Jvm.Cond.code ({ cls := "com/example/orunmila/orunmila/simulate/Returns", name := "getMean", desc := "()D" } : Jvm.MethodName) prog_70_method_2_code (8 : Nat) (Option.some Jvm.ClassFile.FieldType.double)).before args0 about1 = true := code_word (m := ⟨2, 1⟩) (meth := k2m1) (c := k2c1) (by decide +kernel) rfl rfl rfl (by decide +kernel)
def codes1 : List Jvm.Cond := [Jvm.Cond.code x code maxLocals ret, Jvm.Cond.code ({ cls := "com/example/orunmila/orunmila/simulate/Returns", name := "<init>", desc := "([D)V" } : Jvm.MethodName) prog_70_method_1_code (2 : Nat) (Option.none : Option Jvm.ClassFile.FieldType), Jvm.Cond.code ({ cls := "java/lang/Object", name := "<init>", desc := "()V" } : Jvm.MethodName) object_method_1_code (1 : Nat) (Option.none : Option Jvm.ClassFile.FieldType), Jvm.Cond.code ({ cls := "com/example/orunmila/orunmila/simulate/Returns", name := "getMean", desc := "()D" } : Jvm.MethodName) prog_70_method_2_code (8 : Nat) (Option.some Jvm.ClassFile.FieldType.double)]
set_option maxRecDepth 65536 in
theorem codes_eq : words1.filter isCode = codes1 := rfl
theorem w_codes : ∀ c ∈ words1.filter isCode, c.before args0 about1 = true := by
  rw [codes_eq]
  intro c hc
  simp only [codes1, List.mem_cons, List.not_mem_nil, or_false] at hc
  rcases hc with rfl | rfl | rfl | rfl
  · exact w_c0
  · exact w_c1
  · exact w_c2
  · exact w_c3
set_option maxRecDepth 65536 in
theorem w_t1 : (words1.take 24).all (fun c => isCode c || c.before args0 about1) = true := by decide +kernel
set_option maxRecDepth 65536 in
theorem w_t2 : (words1.drop 24).all (fun c => isCode c || c.before args0 about1) = true := by decide +kernel
theorem w_tables : (allAtoms (Jvm.Cond.code x code maxLocals ret :: tables_1)).before args0 about1 = true := by
  rw [allAtoms_all]
  show words1.all (fun c => c.before args0 about1) = true
  refine all_split ?_ w_codes
  rw [← List.take_append_drop 24 words1, List.all_append, w_t1, w_t2]
  rfl
set_option maxRecDepth 65536 in
theorem w_case : (Jvm.Cond.and given_1 narrow_1).before args0 about1 = true := by decide +kernel
theorem w_applies : (headSpec (Jvm.Cond.code x code maxLocals ret :: tables_1) room_1).applies x e0.platform about1 = true :=
  (Spec.applies_iff w_frames).mpr ⟨w_running, w_runnable, w_alone, w_named, w_hears, w_ripe, w_room, w_tables⟩
theorem atStart : AtStart classFile x code maxLocals ret World_1 tables_1 room_1 Calls_1 rest_1 Pre_1 launch0 p0 e0 about1 theMethod args0 below0 :=
  ⟨lists_1, trivial, launch0.admits_env _ _ _, launch0.least_env, fairChoices_fair.cas, fairChoices_fair.clock, w_frames, w_args, w_heap, w_applies, trivial, trivial, w_case⟩
end start1
theorem witness_1 : WitnessClaimed_1 := ⟨start1.p0, start1.e0, start1.about1, start1.theMethod, start1.args0, start1.below0, start1.atStart⟩
end Jvm.Pilot.@@N@@
