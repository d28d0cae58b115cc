import JvmDerived
import JvmDerived.Pilot.@@N@@Statement
import JvmDerived.Pilot.@@N@@Code
set_option linter.unusedVariables false
set_option linter.unusedSimpArgs false
namespace Jvm.Pilot.@@N@@
open Jvm Jvm.ClassFile Sem Op Lib Jvm.Free Jvm.Stand Jvm.LawKit Jvm.RoadKit Bundle Jvm.Pilot.@@N@@.Jvm.D
section OwnKit
variable {p : Program} {l : Launch} {e : Env} {R : Room} {s : State} {m : MethodId} {args : Array Value} {below : List Frame} {meth : Method} {c : Code} {T T' : State} {locs : List Loc} {cells slots : Nat}
/-- from the frame f in the state T the run comes to the method's end, and G holds there -/
def own_Goes (p : Program) (e : Env) (below : List Frame) (G : Outcome → State → Prop) (T : State) (f : JFrame) : Prop :=
  ∃ s₂ o, Steps p.tables e below (T.setTop f) s₂ ∧ s₂.status = .running ∧ Ended s₂ below o ∧ G o s₂
theorem own_of {G : Outcome → State → Prop} {f f' : JFrame} (st : ∀ t, Steps p.tables e below (T'.setTop f') t → Steps p.tables e below (T.setTop f) t) (h : own_Goes p e below G T' f') : own_Goes p e below G T f := by
  obtain ⟨s₂, o, h1, h2⟩ := h
  exact ⟨s₂, o, st _ h1, h2⟩
theorem own_start {G : Outcome → State → Prop} {f f' : JFrame} (q : f = f') (h : own_Goes p e below G T f') : ∃ s₂ o, Steps p.tables e below (T.setTop f) s₂ ∧ s₂.status = .running ∧ Ended s₂ below o ∧ G o s₂ := q ▸ h
theorem own_retI (X : Stand p l e R s m args below meth c T locs cells slots) (hx : p.tables.exec = Jvm.exec) {pc : Nat} {Ls : Array Slot} {z : Int32} {rest : List Value} (hret : meth.sig.returnType = some .int) (hd : decode c.code pc = .ok (.ireturn, 1)) {fs : List Frame}
    (hl : ∀ (f : JFrame) (acts : List Action), f.method = m → f.locked = none → f.entered = [] → (doReturn e (T.setTop f) acts (some (.int z))).1 = T.setFrames fs) : Steps p.tables e below (T.setTop (mkF m pc Ls (.int z :: rest))) (T.setFrames fs) :=
  retOut X hx hret rfl (Or.inl ⟨rfl, Or.inl rfl, _, rfl⟩) hd hl
theorem own_retJ (X : Stand p l e R s m args below meth c T locs cells slots) (hx : p.tables.exec = Jvm.exec) {pc : Nat} {Ls : Array Slot} {z : Int64} {rest : List Value} (hret : meth.sig.returnType = some .long) (hd : decode c.code pc = .ok (.lreturn, 1)) {fs : List Frame}
    (hl : ∀ (f : JFrame) (acts : List Action), f.method = m → f.locked = none → f.entered = [] → (doReturn e (T.setTop f) acts (some (.long z))).1 = T.setFrames fs) : Steps p.tables e below (T.setTop (mkF m pc Ls (.long z :: rest))) (T.setFrames fs) :=
  retOut X hx hret rfl (Or.inr (Or.inl ⟨rfl, rfl, _, rfl⟩)) hd hl
theorem own_retD (X : Stand p l e R s m args below meth c T locs cells slots) (hx : p.tables.exec = Jvm.exec) {pc : Nat} {Ls : Array Slot} {z : UInt64} {rest : List Value} (hret : meth.sig.returnType = some .double) (hd : decode c.code pc = .ok (.dreturn, 1)) {fs : List Frame}
    (hl : ∀ (f : JFrame) (acts : List Action), f.method = m → f.locked = none → f.entered = [] → (doReturn e (T.setTop f) acts (some (.double z))).1 = T.setFrames fs) : Steps p.tables e below (T.setTop (mkF m pc Ls (.double z :: rest))) (T.setFrames fs) :=
  retOut X hx hret rfl (Or.inr (Or.inr (Or.inl ⟨rfl, rfl, _, rfl⟩))) hd hl
theorem own_retA (X : Stand p l e R s m args below meth c T locs cells slots) (hx : p.tables.exec = Jvm.exec) {pc : Nat} {Ls : Array Slot} {z : Value} {rest : List Value} {t : FieldType} (hret : meth.sig.returnType = some t) (ht : t.isReference = true) (hn : narrow t z = z) (hz : z.isRef = true) (hd : decode c.code pc = .ok (.areturn, 1)) {fs : List Frame}
    (hl : ∀ (f : JFrame) (acts : List Action), f.method = m → f.locked = none → f.entered = [] → (doReturn e (T.setTop f) acts (some z)).1 = T.setFrames fs) : Steps p.tables e below (T.setTop (mkF m pc Ls (z :: rest))) (T.setFrames fs) :=
  retOut X hx hret hn (Or.inr (Or.inr (Or.inr (Or.inr ⟨rfl, ht, hz⟩)))) hd hl
theorem own_stakeep {Z : State} {h h' : Heap} {C n d : String} {v : Value} {ws : List Addr} (F : Sta Z h C n d v) (K : Keep h h' ws) (q : ∀ x ∈ ws, ∀ cell : Cell, h[x]? = some cell → cell.vm.isStatics = false) : Sta Z h' C n d v := by
  obtain ⟨cf, i, k, f, st, cell, h1, h2, h3, h4, h5, h6, h7⟩ := F
  exact ⟨cf, i, k, f, st, cell, h1, h2, h3, h4, K.2.1 st cell h5 (fun z => by rw [q st z cell h5] at h6; cases h6), h6, h7⟩
theorem own_plainE {Z : State} {h : Heap} {a : Addr} {C : String} (F : Exa Z h a C) : ∀ cell : Cell, h[a]? = some cell → cell.vm.isStatics = false := fun cell hc => by
  obtain ⟨c', k, h1, -, -, h4, -⟩ := F
  cases h1.symm.trans hc
  exact h4
theorem own_noI {Z : State} {a0 : Array Value} {C K O : String} {n : Nat} (w : (Jvm.Cond.superclass C O).before a0 Z = true) (wo : (Jvm.Cond.noSuperclass O).before a0 Z = true) (wi : (Jvm.Cond.instantiable K n).before a0 Z = true) (hn : C ≠ K) (ho : O ≠ K) : ∃ c t, Z.vm.findClass C = some c ∧ Z.vm.findClass K = some t ∧ Z.vm.assignable c t = false := by
  obtain ⟨t, kt, g0, g2, g5, g7, -, -⟩ := Cond.instantiable_spec wi
  simp only [Bool.or_eq_false_iff] at g7
  obtain ⟨oc, ok, o1, o2, o3, -, -⟩ := Cond.noSuperclass_spec wo
  obtain ⟨c, h0⟩ := found_sup w
  obtain ⟨p, k, kp, h1, h2, h3, h4, h5, -, h7⟩ := Cond.superclass_spec h0 w
  cases o1.symm.trans h1
  have ne := ids_ne h0 g0 hn
  have neo := ids_ne o1 g0 ho
  have n3 : ∀ fuel, Z.vm.isSubclassAux fuel c t = false := fun fuel => by
    cases fuel with
    | zero => rfl
    | succ f =>
      have n4 : Z.vm.isSubclassAux f oc t = false := by
        cases f with
        | zero => rfl
        | succ f => simp [Vm.isSubclassAux, neo, o2, o3]
      simp [Vm.isSubclassAux, ne, h2, h4, n4]
  refine ⟨c, t, h0, g0, ?_⟩
  show Z.vm.assignableAux (255 + 1) c t = false
  simp [Vm.assignableAux, ne, h2, g2, h5, g5, g7, Vm.isSubclass, n3]
theorem own_ask {Z : State} {a0 : Array Value} {h : Heap} {a : Addr} {C K : String} (E : Exa Z h a C) (w : (Jvm.Cond.castable K K).before a0 Z = true) : Ins Z h a K true ∨ ∃ c t, Z.vm.findClass C = some c ∧ Z.vm.findClass K = some t ∧ Z.vm.assignable c t = false := by
  obtain ⟨cell, k, h1, h2, h3, h4, -⟩ := E
  cases ht : Z.vm.findClass K with
  | none => simp [Cond.before, Cond.holds, Cond.value, ht] at w
  | some t =>
    cases ha : Z.vm.assignable cell.cls t with
    | true => exact Or.inl ⟨cell, t, h1, ht, by rw [h4, ha]; rfl⟩
    | false => exact Or.inr ⟨cell.cls, t, h2, rfl, ha⟩
theorem own_dupX2 {tb : Tables} [Ours tb] {e : Env} {below : List Frame} {T target : State} {m : MethodId} {c : Code} {g : JFrame} (h : At T m c below) (hx : tb.exec = Jvm.exec) (hg : g.method = m) {x y z : Value} {rest : List Value} (hd : decode c.code g.pc = .ok (.dup_x2, 1)) (hs : g.stack = x :: y :: z :: rest) (hc : x.category = 1) (hc' : y.category = 1) (hc'' : z.category = 1)
    (hr : Steps tb e below (T.setTop { g with pc := g.pc + 1, stack := x :: y :: z :: x :: rest }) target) : Steps tb e below (T.setTop g) target := by
  subst hg
  jvm_step h [h.top, hx, hd, hs, hc, hc', hc'']
  exact hr
theorem own_dz : FP.dconst0 = FP.l2d 0 := by decide +kernel
theorem own_cat1 {x : Value} (h : x.isRef = true) : x.category = 1 := by cases x <;> first | rfl | cases h
theorem own_astoreN {tb : Tables} [Ours tb] {e : Env} {below : List Frame} {T target : State} {m : MethodId} {c : Code} {g : JFrame} (h : At T m c below) (hx : tb.exec = Jvm.exec) (hg : g.method = m) {k : Fin 4} {x : Value} {rest : List Value} {o : Slot} {l' : Array Slot} (hd : decode c.code g.pc = .ok (.astore_n k, 1)) (hs : g.stack = x :: rest) (hv : x.isRef = true) (hold : g.locals[k.val]? = some o) (ho : One o) (hl : g.locals.setIfInBounds k.val (.val x) = l')
    (hr : Steps tb e below (T.setTop { g with pc := g.pc + 1, stack := rest, locals := l' }) target) : Steps tb e below (T.setTop g) target := XS.astoreN h hx hg hd hs hv (l' := l') (by rw [← hl]; exact XS.store1 hold ho (own_cat1 hv)) hr
theorem own_astore {tb : Tables} [Ours tb] {e : Env} {below : List Frame} {T target : State} {m : MethodId} {c : Code} {g : JFrame} (h : At T m c below) (hx : tb.exec = Jvm.exec) (hg : g.method = m) {k : Nat} {x : Value} {rest : List Value} {o : Slot} {l' : Array Slot} (hd : decode c.code g.pc = .ok (.astore k, 2)) (hs : g.stack = x :: rest) (hv : x.isRef = true) (hold : g.locals[k]? = some o) (ho : One o) (hl : g.locals.setIfInBounds k (.val x) = l')
    (hr : Steps tb e below (T.setTop { g with pc := g.pc + 2, stack := rest, locals := l' }) target) : Steps tb e below (T.setTop g) target := XS.astore h hx hg hd hs hv (l' := l') (by rw [← hl]; exact XS.store1 hold ho (own_cat1 hv)) hr
end OwnKit
theorem own_pn_0 : plainName "com/example/kreide/kreide/interpreter/Elements" = true := by first | (simp [plainName, overriddenIn]; done) | decide +kernel
theorem own_ef_len0 (m : MethodId) (a1 : Addr) : entryFrame m #[(.ref a1)] 5 = mkF m 0 #[.val (.ref a1), .unset, .unset, .unset, .unset] [] := by first | (simp [entryFrame, mkF, argsToLocals, Value.category]; done) | rfl
def own_Q_len0 (Z : State) (a1 : Addr) (z : Int32) (cl : Cell) (h0 : Heap) (n0 : Nat) (v : Option Value) (h : Heap) (L : List Loc) : Prop := v = some (.int z) ∧ Fr n0 L ∧ h = h0
theorem own_d_prog_15_method_6_code_0 : decode prog_15_method_6_code 0 = .ok (.aload_n 0, 1) := by decide +kernel
theorem own_d_prog_15_method_6_code_1 : decode prog_15_method_6_code 1 = .ok (.instanceof 64, 3) := by decide +kernel
theorem own_d_prog_15_method_6_code_4 : decode prog_15_method_6_code 4 = .ok (.ifCond .eq 14, 3) := by decide +kernel
theorem own_d_prog_15_method_6_code_7 : decode prog_15_method_6_code 7 = .ok (.aload_n 0, 1) := by decide +kernel
theorem own_d_prog_15_method_6_code_8 : decode prog_15_method_6_code 8 = .ok (.checkcast 64, 3) := by decide +kernel
theorem own_d_prog_15_method_6_code_11 : decode prog_15_method_6_code 11 = .ok (.astore_n 2, 1) := by decide +kernel
theorem own_d_prog_15_method_6_code_12 : decode prog_15_method_6_code 12 = .ok (.aload_n 2, 1) := by decide +kernel
theorem own_d_prog_15_method_6_code_13 : decode prog_15_method_6_code 13 = .ok (.arraylength, 1) := by decide +kernel
theorem own_d_prog_15_method_6_code_14 : decode prog_15_method_6_code 14 = .ok (.istore_n 1, 1) := by decide +kernel
theorem own_d_prog_15_method_6_code_15 : decode prog_15_method_6_code 15 = .ok (.goto 47, 3) := by decide +kernel
theorem own_d_prog_15_method_6_code_62 : decode prog_15_method_6_code 62 = .ok (.iload_n 1, 1) := by decide +kernel
theorem own_d_prog_15_method_6_code_63 : decode prog_15_method_6_code 63 = .ok (.ireturn, 1) := by decide +kernel
set_option maxRecDepth 65536 in
set_option maxHeartbeats 40000000 in
theorem own_rm_len0 (l : Launch) (Z : State) (a0 : Array Value) (hw : ∀ d ∈ tables_1, d.before a0 Z = true) (ws : List Jvm.Cond) (a1 : Addr) (z : Int32) (cl : Cell) (h0 : Heap) (n0 : Nat) (Z0 : n0 ≤ h0.size) (Ar : Arr Z h0 a1 cl .long) (E1 : Exa Z h0 a1 "[J") (Sz : cl.slots.size = z.toNatClampNeg) (M : ¬ z < 0) :
    MetFree l (⟨"com/example/kreide/kreide/interpreter/Elements", "length", "(Ljava/lang/Object;)I"⟩ : MethodName) (head1 (Jvm.Cond.code (⟨"com/example/kreide/kreide/interpreter/Elements", "length", "(Ljava/lang/Object;)I"⟩ : MethodName) prog_15_method_6_code 5 (some .int) :: ws) ({ frames := 0, cells := 0, slots := 0, locals := 0 } : Room)) (fun a U => a = #[(.ref a1)] ∧ Z.Warmed39 U.vm ∧ U.heap = h0) (fun _ _ _ _ _ => True) (fun _ U o U' => ∃ v L, o = .returned v ∧ own_Q_len0 Z a1 z cl h0 n0 v U'.heap L ∧ FrameEnd U o U' L ({ frames := 0, cells := 0, slots := 0, locals := 0 } : Room).cells ({ frames := 0, cells := 0, slots := 0, locals := 0 } : Room).slots) := by
  refine MetFree.of_bodySF (plainFor_of_name own_pn_0) hisR ?_
  intro p e s m args below meth c s₁ Bd hml0 hP hK
  obtain ⟨rfl, hZ, hh⟩ := hP
  have hx := Bd.exec
  have hby := Bd.bytes
  have hml : c.maxLocals = 5 := hml0
  have hown : s.vm.findClass "com/example/kreide/kreide/interpreter/Elements" = some m.cls := findClass_of_methodNamed Bd.named
  have hnm := (name_of_methodNamed Bd.named Bd.method).1
  have X0 : Stand p l e ({ frames := 0, cells := 0, slots := 0, locals := 0 } : Room) s m #[(.ref a1)] below meth c s₁ [] 0 0 := Stand.of_body Bd
  have e0 : s₁.heap = h0 := by rw [← hh, Bd.state]; rfl
  have N0 := Fr.nil n0
  refine own_start (own_ef_len0 m a1) ?_
  obtain ⟨T1, X1, e1, st1⟩ := instY X0 hx hZ hown (hw _ (List.mem_of_getElem? (i := 5) rfl)) e0 (Ins.self E1) (g := (mkF m 1 #[.val (.ref a1), .unset, .unset, .unset, .unset] [(.ref a1)])) rfl rfl (hb hby own_d_prog_15_method_6_code_1)
  obtain ⟨T2, X2, e2, st2⟩ := castY X1 hx hZ hown (hw _ (List.mem_of_getElem? (i := 5) rfl)) e1 (Ins.self E1) (g := (mkF m 8 #[.val (.ref a1), .unset, .unset, .unset, .unset] [(.ref a1)])) rfl rfl (hb hby own_d_prog_15_method_6_code_8)
  refine own_of (T' := T2) (f' := (mkF m 14 #[.val (.ref a1), .unset, .val (.ref a1), .unset, .unset] [(.int (cl.slots.size).toInt32)])) (fun t_ k_ => (XS.aloadN X0.here hx rfl (hb hby own_d_prog_15_method_6_code_0) rfl rfl (st1 _ (XS.ifNo X1.here hx rfl (hb hby own_d_prog_15_method_6_code_4) rfl ((if0 _ _).trans (feq (by decide : ¬ (1 : Int32) = 0)).1) (XS.aloadN X1.here hx rfl (hb hby own_d_prog_15_method_6_code_7) rfl rfl (st2 _ (XS.astoreN X2.here hx rfl (hb hby own_d_prog_15_method_6_code_11) rfl rfl (l' := #[.val (.ref a1), .unset, .val (.ref a1), .unset, .unset]) rfl (XS.aloadN X2.here hx rfl (hb hby own_d_prog_15_method_6_code_12) rfl rfl (X2.arraylength hx (by rw [e2]; exact Ar.1) (State.isArrayOf_alike hZ.alike Ar.2.1) (g := (mkF m 13 #[.val (.ref a1), .unset, .val (.ref a1), .unset, .unset] [(.ref a1)])) rfl rfl (hb hby own_d_prog_15_method_6_code_13) _ k_))))))))) ?_
  rw [len_of Sz M]
  refine own_of (T' := T2) (f' := (mkF m 63 #[.val (.ref a1), .val (.int z), .val (.ref a1), .unset, .unset] [(.int z)])) (fun t_ k_ => (XS.istoreN X2.here hx rfl (hb hby own_d_prog_15_method_6_code_14) rfl (l' := #[.val (.ref a1), .val (.int z), .val (.ref a1), .unset, .unset]) rfl (XS.goto X2.here hx rfl (pc0 := 15) (pc' := 62) rfl (hb hby own_d_prog_15_method_6_code_15) (by decide) (by decide) (XS.iloadN X2.here hx rfl (hb hby own_d_prog_15_method_6_code_62) rfl k_)))) ?_
  obtain ⟨fs, hr, hrun, hended, hW, hsame⟩ := X2.leave (v := some (.int z)) (fun h => by rw [Bd.returns] at h; cases h)
  exact ⟨_, _, own_retI X2 hx Bd.returns (hb hby own_d_prog_15_method_6_code_63) hr, hrun, hended, _, _, rfl, (by show own_Q_len0 Z a1 z cl h0 n0 _ T2.heap _; rw [e2]; exact ⟨rfl, N0, rfl⟩), ⟨_, rfl⟩, hW, hsame.mono (by decide) (by decide)⟩
theorem own_ef_len1 (m : MethodId) (a1 : Addr) : entryFrame m #[(.ref a1)] 5 = mkF m 0 #[.val (.ref a1), .unset, .unset, .unset, .unset] [] := by first | (simp [entryFrame, mkF, argsToLocals, Value.category]; done) | rfl
def own_Q_len1 (Z : State) (a1 : Addr) (z : Int32) (cl : Cell) (h0 : Heap) (n0 : Nat) (v : Option Value) (h : Heap) (L : List Loc) : Prop := v = some (.int z) ∧ Fr n0 L ∧ h = h0
theorem own_d_prog_15_method_6_code_18 : decode prog_15_method_6_code 18 = .ok (.aload_n 0, 1) := by decide +kernel
theorem own_d_prog_15_method_6_code_19 : decode prog_15_method_6_code 19 = .ok (.instanceof 66, 3) := by decide +kernel
theorem own_d_prog_15_method_6_code_22 : decode prog_15_method_6_code 22 = .ok (.ifCond .eq 14, 3) := by decide +kernel
theorem own_d_prog_15_method_6_code_25 : decode prog_15_method_6_code 25 = .ok (.aload_n 0, 1) := by decide +kernel
theorem own_d_prog_15_method_6_code_26 : decode prog_15_method_6_code 26 = .ok (.checkcast 66, 3) := by decide +kernel
theorem own_d_prog_15_method_6_code_29 : decode prog_15_method_6_code 29 = .ok (.astore_n 3, 1) := by decide +kernel
theorem own_d_prog_15_method_6_code_30 : decode prog_15_method_6_code 30 = .ok (.aload_n 3, 1) := by decide +kernel
theorem own_d_prog_15_method_6_code_31 : decode prog_15_method_6_code 31 = .ok (.arraylength, 1) := by decide +kernel
theorem own_d_prog_15_method_6_code_32 : decode prog_15_method_6_code 32 = .ok (.istore_n 1, 1) := by decide +kernel
theorem own_d_prog_15_method_6_code_33 : decode prog_15_method_6_code 33 = .ok (.goto 29, 3) := by decide +kernel
set_option maxRecDepth 65536 in
set_option maxHeartbeats 40000000 in
theorem own_rm_len1 (l : Launch) (Z : State) (a0 : Array Value) (hw : ∀ d ∈ tables_1, d.before a0 Z = true) (ws : List Jvm.Cond) (a1 : Addr) (z : Int32) (cl : Cell) (h0 : Heap) (n0 : Nat) (Z0 : n0 ≤ h0.size) (Ar : Arr Z h0 a1 cl .double) (E1 : Exa Z h0 a1 "[D") (Sz : cl.slots.size = z.toNatClampNeg) (M : ¬ z < 0) :
    MetFree l (⟨"com/example/kreide/kreide/interpreter/Elements", "length", "(Ljava/lang/Object;)I"⟩ : MethodName) (head1 (Jvm.Cond.code (⟨"com/example/kreide/kreide/interpreter/Elements", "length", "(Ljava/lang/Object;)I"⟩ : MethodName) prog_15_method_6_code 5 (some .int) :: ws) ({ frames := 0, cells := 0, slots := 0, locals := 0 } : Room)) (fun a U => a = #[(.ref a1)] ∧ Z.Warmed39 U.vm ∧ U.heap = h0) (fun _ _ _ _ _ => True) (fun _ U o U' => ∃ v L, o = .returned v ∧ own_Q_len1 Z a1 z cl h0 n0 v U'.heap L ∧ FrameEnd U o U' L ({ frames := 0, cells := 0, slots := 0, locals := 0 } : Room).cells ({ frames := 0, cells := 0, slots := 0, locals := 0 } : Room).slots) := by
  refine MetFree.of_bodySF (plainFor_of_name own_pn_0) hisR ?_
  intro p e s m args below meth c s₁ Bd hml0 hP hK
  obtain ⟨rfl, hZ, hh⟩ := hP
  have hx := Bd.exec
  have hby := Bd.bytes
  have hml : c.maxLocals = 5 := hml0
  have hown : s.vm.findClass "com/example/kreide/kreide/interpreter/Elements" = some m.cls := findClass_of_methodNamed Bd.named
  have hnm := (name_of_methodNamed Bd.named Bd.method).1
  have X0 : Stand p l e ({ frames := 0, cells := 0, slots := 0, locals := 0 } : Room) s m #[(.ref a1)] below meth c s₁ [] 0 0 := Stand.of_body Bd
  have e0 : s₁.heap = h0 := by rw [← hh, Bd.state]; rfl
  have N0 := Fr.nil n0
  refine own_start (own_ef_len1 m a1) ?_
  refine own_of (T' := s₁) (f' := (mkF m 1 #[.val (.ref a1), .unset, .unset, .unset, .unset] [(.ref a1)])) (fun t_ k_ => (XS.aloadN X0.here hx rfl (hb hby own_d_prog_15_method_6_code_0) rfl rfl k_)) ?_
  rcases own_ask E1 (hw _ (List.mem_of_getElem? (i := 6) rfl)) with hi0 | hi0
  · skip
    obtain ⟨T1, X1, e1, st1⟩ := instY X0 hx hZ hown (hw _ (List.mem_of_getElem? (i := 5) rfl)) e0 hi0 (g := (mkF m 1 #[.val (.ref a1), .unset, .unset, .unset, .unset] [(.ref a1)])) rfl rfl (hb hby own_d_prog_15_method_6_code_1)
    obtain ⟨T2, X2, e2, st2⟩ := castY X1 hx hZ hown (hw _ (List.mem_of_getElem? (i := 5) rfl)) e1 hi0 (g := (mkF m 8 #[.val (.ref a1), .unset, .unset, .unset, .unset] [(.ref a1)])) rfl rfl (hb hby own_d_prog_15_method_6_code_8)
    refine own_of (T' := T2) (f' := (mkF m 14 #[.val (.ref a1), .unset, .val (.ref a1), .unset, .unset] [(.int (cl.slots.size).toInt32)])) (fun t_ k_ => (st1 _ (XS.ifNo X1.here hx rfl (hb hby own_d_prog_15_method_6_code_4) rfl ((if0 _ _).trans (feq (by decide : ¬ (1 : Int32) = 0)).1) (XS.aloadN X1.here hx rfl (hb hby own_d_prog_15_method_6_code_7) rfl rfl (st2 _ (XS.astoreN X2.here hx rfl (hb hby own_d_prog_15_method_6_code_11) rfl rfl (l' := #[.val (.ref a1), .unset, .val (.ref a1), .unset, .unset]) rfl (XS.aloadN X2.here hx rfl (hb hby own_d_prog_15_method_6_code_12) rfl rfl (X2.arraylength hx (by rw [e2]; exact Ar.1) (State.isArrayOf_alike hZ.alike Ar.2.1) (g := (mkF m 13 #[.val (.ref a1), .unset, .val (.ref a1), .unset, .unset] [(.ref a1)])) rfl rfl (hb hby own_d_prog_15_method_6_code_13) _ k_)))))))) ?_
    rw [len_of Sz M]
    refine own_of (T' := T2) (f' := (mkF m 63 #[.val (.ref a1), .val (.int z), .val (.ref a1), .unset, .unset] [(.int z)])) (fun t_ k_ => (XS.istoreN X2.here hx rfl (hb hby own_d_prog_15_method_6_code_14) rfl (l' := #[.val (.ref a1), .val (.int z), .val (.ref a1), .unset, .unset]) rfl (XS.goto X2.here hx rfl (pc0 := 15) (pc' := 62) rfl (hb hby own_d_prog_15_method_6_code_15) (by decide) (by decide) (XS.iloadN X2.here hx rfl (hb hby own_d_prog_15_method_6_code_62) rfl k_)))) ?_
    obtain ⟨fs, hr, hrun, hended, hW, hsame⟩ := X2.leave (v := some (.int z)) (fun h => by rw [Bd.returns] at h; cases h)
    exact ⟨_, _, own_retI X2 hx Bd.returns (hb hby own_d_prog_15_method_6_code_63) hr, hrun, hended, _, _, rfl, (by show own_Q_len1 Z a1 z cl h0 n0 _ T2.heap _; rw [e2]; exact ⟨rfl, N0, rfl⟩), ⟨_, rfl⟩, hW, hsame.mono (by decide) (by decide)⟩
  · skip
    obtain ⟨T3, X3, e3, st3⟩ := instNo X0 hx hZ hown (hw _ (List.mem_of_getElem? (i := 5) rfl)) e0 E1 hi0 (g := (mkF m 1 #[.val (.ref a1), .unset, .unset, .unset, .unset] [(.ref a1)])) rfl rfl (hb hby own_d_prog_15_method_6_code_1)
    obtain ⟨T4, X4, e4, st4⟩ := instY X3 hx hZ hown (hw _ (List.mem_of_getElem? (i := 8) rfl)) e3 (Ins.self E1) (g := (mkF m 19 #[.val (.ref a1), .unset, .unset, .unset, .unset] [(.ref a1)])) rfl rfl (hb hby own_d_prog_15_method_6_code_19)
    obtain ⟨T5, X5, e5, st5⟩ := castY X4 hx hZ hown (hw _ (List.mem_of_getElem? (i := 8) rfl)) e4 (Ins.self E1) (g := (mkF m 26 #[.val (.ref a1), .unset, .unset, .unset, .unset] [(.ref a1)])) rfl rfl (hb hby own_d_prog_15_method_6_code_26)
    refine own_of (T' := T5) (f' := (mkF m 30 #[.val (.ref a1), .unset, .unset, .val (.ref a1), .unset] [])) (fun t_ k_ => (st3 _ (XS.ifYes X3.here hx rfl (pc0 := 4) (pc' := 18) rfl (hb hby own_d_prog_15_method_6_code_4) rfl ((if0 _ _).trans (teq rfl).1) (by decide) (by decide) (XS.aloadN X3.here hx rfl (hb hby own_d_prog_15_method_6_code_18) rfl rfl (st4 _ (XS.ifNo X4.here hx rfl (hb hby own_d_prog_15_method_6_code_22) rfl ((if0 _ _).trans (feq (by decide : ¬ (1 : Int32) = 0)).1) (XS.aloadN X4.here hx rfl (hb hby own_d_prog_15_method_6_code_25) rfl rfl (st5 _ (XS.astoreN X5.here hx rfl (hb hby own_d_prog_15_method_6_code_29) rfl rfl (l' := #[.val (.ref a1), .unset, .unset, .val (.ref a1), .unset]) rfl k_))))))))) ?_
    refine own_of (T' := T5) (f' := (mkF m 32 #[.val (.ref a1), .unset, .unset, .val (.ref a1), .unset] [(.int (cl.slots.size).toInt32)])) (fun t_ k_ => (XS.aloadN X5.here hx rfl (hb hby own_d_prog_15_method_6_code_30) rfl rfl (X5.arraylength hx (by rw [e5]; exact Ar.1) (State.isArrayOf_alike hZ.alike Ar.2.1) (g := (mkF m 31 #[.val (.ref a1), .unset, .unset, .val (.ref a1), .unset] [(.ref a1)])) rfl rfl (hb hby own_d_prog_15_method_6_code_31) _ k_))) ?_
    rw [len_of Sz M]
    refine own_of (T' := T5) (f' := (mkF m 63 #[.val (.ref a1), .val (.int z), .unset, .val (.ref a1), .unset] [(.int z)])) (fun t_ k_ => (XS.istoreN X5.here hx rfl (hb hby own_d_prog_15_method_6_code_32) rfl (l' := #[.val (.ref a1), .val (.int z), .unset, .val (.ref a1), .unset]) rfl (XS.goto X5.here hx rfl (pc0 := 33) (pc' := 62) rfl (hb hby own_d_prog_15_method_6_code_33) (by decide) (by decide) (XS.iloadN X5.here hx rfl (hb hby own_d_prog_15_method_6_code_62) rfl k_)))) ?_
    obtain ⟨fs, hr, hrun, hended, hW, hsame⟩ := X5.leave (v := some (.int z)) (fun h => by rw [Bd.returns] at h; cases h)
    exact ⟨_, _, own_retI X5 hx Bd.returns (hb hby own_d_prog_15_method_6_code_63) hr, hrun, hended, _, _, rfl, (by show own_Q_len1 Z a1 z cl h0 n0 _ T5.heap _; rw [e5]; exact ⟨rfl, N0, rfl⟩), ⟨_, rfl⟩, hW, hsame.mono (by decide) (by decide)⟩
theorem own_ef_len2 (m : MethodId) (a1 : Addr) : entryFrame m #[(.ref a1)] 5 = mkF m 0 #[.val (.ref a1), .unset, .unset, .unset, .unset] [] := by first | (simp [entryFrame, mkF, argsToLocals, Value.category]; done) | rfl
def own_Q_len2 (Z : State) (a1 : Addr) (z : Int32) (cl : Cell) (h0 : Heap) (n0 : Nat) (v : Option Value) (h : Heap) (L : List Loc) : Prop := v = some (.int z) ∧ Fr n0 L ∧ h = h0
theorem own_d_prog_15_method_6_code_36 : decode prog_15_method_6_code 36 = .ok (.aload_n 0, 1) := by decide +kernel
theorem own_d_prog_15_method_6_code_37 : decode prog_15_method_6_code 37 = .ok (.instanceof 68, 3) := by decide +kernel
theorem own_d_prog_15_method_6_code_40 : decode prog_15_method_6_code 40 = .ok (.ifCond .eq 16, 3) := by decide +kernel
theorem own_d_prog_15_method_6_code_43 : decode prog_15_method_6_code 43 = .ok (.aload_n 0, 1) := by decide +kernel
theorem own_d_prog_15_method_6_code_44 : decode prog_15_method_6_code 44 = .ok (.checkcast 68, 3) := by decide +kernel
theorem own_d_prog_15_method_6_code_47 : decode prog_15_method_6_code 47 = .ok (.astore 4, 2) := by decide +kernel
theorem own_d_prog_15_method_6_code_49 : decode prog_15_method_6_code 49 = .ok (.aload 4, 2) := by decide +kernel
theorem own_d_prog_15_method_6_code_51 : decode prog_15_method_6_code 51 = .ok (.arraylength, 1) := by decide +kernel
theorem own_d_prog_15_method_6_code_52 : decode prog_15_method_6_code 52 = .ok (.istore_n 1, 1) := by decide +kernel
theorem own_d_prog_15_method_6_code_53 : decode prog_15_method_6_code 53 = .ok (.goto 9, 3) := by decide +kernel
set_option maxRecDepth 65536 in
set_option maxHeartbeats 40000000 in
theorem own_rm_len2 (l : Launch) (Z : State) (a0 : Array Value) (hw : ∀ d ∈ tables_1, d.before a0 Z = true) (ws : List Jvm.Cond) (a1 : Addr) (z : Int32) (cl : Cell) (h0 : Heap) (n0 : Nat) (Z0 : n0 ≤ h0.size) (Ar : Arr Z h0 a1 cl .boolean) (E1 : Exa Z h0 a1 "[Z") (Sz : cl.slots.size = z.toNatClampNeg) (M : ¬ z < 0) :
    MetFree l (⟨"com/example/kreide/kreide/interpreter/Elements", "length", "(Ljava/lang/Object;)I"⟩ : MethodName) (head1 (Jvm.Cond.code (⟨"com/example/kreide/kreide/interpreter/Elements", "length", "(Ljava/lang/Object;)I"⟩ : MethodName) prog_15_method_6_code 5 (some .int) :: ws) ({ frames := 0, cells := 0, slots := 0, locals := 0 } : Room)) (fun a U => a = #[(.ref a1)] ∧ Z.Warmed39 U.vm ∧ U.heap = h0) (fun _ _ _ _ _ => True) (fun _ U o U' => ∃ v L, o = .returned v ∧ own_Q_len2 Z a1 z cl h0 n0 v U'.heap L ∧ FrameEnd U o U' L ({ frames := 0, cells := 0, slots := 0, locals := 0 } : Room).cells ({ frames := 0, cells := 0, slots := 0, locals := 0 } : Room).slots) := by
  refine MetFree.of_bodySF (plainFor_of_name own_pn_0) hisR ?_
  intro p e s m args below meth c s₁ Bd hml0 hP hK
  obtain ⟨rfl, hZ, hh⟩ := hP
  have hx := Bd.exec
  have hby := Bd.bytes
  have hml : c.maxLocals = 5 := hml0
  have hown : s.vm.findClass "com/example/kreide/kreide/interpreter/Elements" = some m.cls := findClass_of_methodNamed Bd.named
  have hnm := (name_of_methodNamed Bd.named Bd.method).1
  have X0 : Stand p l e ({ frames := 0, cells := 0, slots := 0, locals := 0 } : Room) s m #[(.ref a1)] below meth c s₁ [] 0 0 := Stand.of_body Bd
  have e0 : s₁.heap = h0 := by rw [← hh, Bd.state]; rfl
  have N0 := Fr.nil n0
  refine own_start (own_ef_len2 m a1) ?_
  refine own_of (T' := s₁) (f' := (mkF m 1 #[.val (.ref a1), .unset, .unset, .unset, .unset] [(.ref a1)])) (fun t_ k_ => (XS.aloadN X0.here hx rfl (hb hby own_d_prog_15_method_6_code_0) rfl rfl k_)) ?_
  rcases own_ask E1 (hw _ (List.mem_of_getElem? (i := 6) rfl)) with hi0 | hi0
  · skip
    obtain ⟨T1, X1, e1, st1⟩ := instY X0 hx hZ hown (hw _ (List.mem_of_getElem? (i := 5) rfl)) e0 hi0 (g := (mkF m 1 #[.val (.ref a1), .unset, .unset, .unset, .unset] [(.ref a1)])) rfl rfl (hb hby own_d_prog_15_method_6_code_1)
    obtain ⟨T2, X2, e2, st2⟩ := castY X1 hx hZ hown (hw _ (List.mem_of_getElem? (i := 5) rfl)) e1 hi0 (g := (mkF m 8 #[.val (.ref a1), .unset, .unset, .unset, .unset] [(.ref a1)])) rfl rfl (hb hby own_d_prog_15_method_6_code_8)
    refine own_of (T' := T2) (f' := (mkF m 14 #[.val (.ref a1), .unset, .val (.ref a1), .unset, .unset] [(.int (cl.slots.size).toInt32)])) (fun t_ k_ => (st1 _ (XS.ifNo X1.here hx rfl (hb hby own_d_prog_15_method_6_code_4) rfl ((if0 _ _).trans (feq (by decide : ¬ (1 : Int32) = 0)).1) (XS.aloadN X1.here hx rfl (hb hby own_d_prog_15_method_6_code_7) rfl rfl (st2 _ (XS.astoreN X2.here hx rfl (hb hby own_d_prog_15_method_6_code_11) rfl rfl (l' := #[.val (.ref a1), .unset, .val (.ref a1), .unset, .unset]) rfl (XS.aloadN X2.here hx rfl (hb hby own_d_prog_15_method_6_code_12) rfl rfl (X2.arraylength hx (by rw [e2]; exact Ar.1) (State.isArrayOf_alike hZ.alike Ar.2.1) (g := (mkF m 13 #[.val (.ref a1), .unset, .val (.ref a1), .unset, .unset] [(.ref a1)])) rfl rfl (hb hby own_d_prog_15_method_6_code_13) _ k_)))))))) ?_
    rw [len_of Sz M]
    refine own_of (T' := T2) (f' := (mkF m 63 #[.val (.ref a1), .val (.int z), .val (.ref a1), .unset, .unset] [(.int z)])) (fun t_ k_ => (XS.istoreN X2.here hx rfl (hb hby own_d_prog_15_method_6_code_14) rfl (l' := #[.val (.ref a1), .val (.int z), .val (.ref a1), .unset, .unset]) rfl (XS.goto X2.here hx rfl (pc0 := 15) (pc' := 62) rfl (hb hby own_d_prog_15_method_6_code_15) (by decide) (by decide) (XS.iloadN X2.here hx rfl (hb hby own_d_prog_15_method_6_code_62) rfl k_)))) ?_
    obtain ⟨fs, hr, hrun, hended, hW, hsame⟩ := X2.leave (v := some (.int z)) (fun h => by rw [Bd.returns] at h; cases h)
    exact ⟨_, _, own_retI X2 hx Bd.returns (hb hby own_d_prog_15_method_6_code_63) hr, hrun, hended, _, _, rfl, (by show own_Q_len2 Z a1 z cl h0 n0 _ T2.heap _; rw [e2]; exact ⟨rfl, N0, rfl⟩), ⟨_, rfl⟩, hW, hsame.mono (by decide) (by decide)⟩
  · skip
    obtain ⟨T3, X3, e3, st3⟩ := instNo X0 hx hZ hown (hw _ (List.mem_of_getElem? (i := 5) rfl)) e0 E1 hi0 (g := (mkF m 1 #[.val (.ref a1), .unset, .unset, .unset, .unset] [(.ref a1)])) rfl rfl (hb hby own_d_prog_15_method_6_code_1)
    refine own_of (T' := T3) (f' := (mkF m 19 #[.val (.ref a1), .unset, .unset, .unset, .unset] [(.ref a1)])) (fun t_ k_ => (st3 _ (XS.ifYes X3.here hx rfl (pc0 := 4) (pc' := 18) rfl (hb hby own_d_prog_15_method_6_code_4) rfl ((if0 _ _).trans (teq rfl).1) (by decide) (by decide) (XS.aloadN X3.here hx rfl (hb hby own_d_prog_15_method_6_code_18) rfl rfl k_)))) ?_
    rcases own_ask E1 (hw _ (List.mem_of_getElem? (i := 12) rfl)) with hi1 | hi1
    · skip
      obtain ⟨T4, X4, e4, st4⟩ := instY X3 hx hZ hown (hw _ (List.mem_of_getElem? (i := 8) rfl)) e3 hi1 (g := (mkF m 19 #[.val (.ref a1), .unset, .unset, .unset, .unset] [(.ref a1)])) rfl rfl (hb hby own_d_prog_15_method_6_code_19)
      obtain ⟨T5, X5, e5, st5⟩ := castY X4 hx hZ hown (hw _ (List.mem_of_getElem? (i := 8) rfl)) e4 hi1 (g := (mkF m 26 #[.val (.ref a1), .unset, .unset, .unset, .unset] [(.ref a1)])) rfl rfl (hb hby own_d_prog_15_method_6_code_26)
      refine own_of (T' := T5) (f' := (mkF m 32 #[.val (.ref a1), .unset, .unset, .val (.ref a1), .unset] [(.int (cl.slots.size).toInt32)])) (fun t_ k_ => (st4 _ (XS.ifNo X4.here hx rfl (hb hby own_d_prog_15_method_6_code_22) rfl ((if0 _ _).trans (feq (by decide : ¬ (1 : Int32) = 0)).1) (XS.aloadN X4.here hx rfl (hb hby own_d_prog_15_method_6_code_25) rfl rfl (st5 _ (XS.astoreN X5.here hx rfl (hb hby own_d_prog_15_method_6_code_29) rfl rfl (l' := #[.val (.ref a1), .unset, .unset, .val (.ref a1), .unset]) rfl (XS.aloadN X5.here hx rfl (hb hby own_d_prog_15_method_6_code_30) rfl rfl (X5.arraylength hx (by rw [e5]; exact Ar.1) (State.isArrayOf_alike hZ.alike Ar.2.1) (g := (mkF m 31 #[.val (.ref a1), .unset, .unset, .val (.ref a1), .unset] [(.ref a1)])) rfl rfl (hb hby own_d_prog_15_method_6_code_31) _ k_)))))))) ?_
      rw [len_of Sz M]
      refine own_of (T' := T5) (f' := (mkF m 63 #[.val (.ref a1), .val (.int z), .unset, .val (.ref a1), .unset] [(.int z)])) (fun t_ k_ => (XS.istoreN X5.here hx rfl (hb hby own_d_prog_15_method_6_code_32) rfl (l' := #[.val (.ref a1), .val (.int z), .unset, .val (.ref a1), .unset]) rfl (XS.goto X5.here hx rfl (pc0 := 33) (pc' := 62) rfl (hb hby own_d_prog_15_method_6_code_33) (by decide) (by decide) (XS.iloadN X5.here hx rfl (hb hby own_d_prog_15_method_6_code_62) rfl k_)))) ?_
      obtain ⟨fs, hr, hrun, hended, hW, hsame⟩ := X5.leave (v := some (.int z)) (fun h => by rw [Bd.returns] at h; cases h)
      exact ⟨_, _, own_retI X5 hx Bd.returns (hb hby own_d_prog_15_method_6_code_63) hr, hrun, hended, _, _, rfl, (by show own_Q_len2 Z a1 z cl h0 n0 _ T5.heap _; rw [e5]; exact ⟨rfl, N0, rfl⟩), ⟨_, rfl⟩, hW, hsame.mono (by decide) (by decide)⟩
    · skip
      obtain ⟨T6, X6, e6, st6⟩ := instNo X3 hx hZ hown (hw _ (List.mem_of_getElem? (i := 8) rfl)) e3 E1 hi1 (g := (mkF m 19 #[.val (.ref a1), .unset, .unset, .unset, .unset] [(.ref a1)])) rfl rfl (hb hby own_d_prog_15_method_6_code_19)
      obtain ⟨T7, X7, e7, st7⟩ := instY X6 hx hZ hown (hw _ (List.mem_of_getElem? (i := 9) rfl)) e6 (Ins.self E1) (g := (mkF m 37 #[.val (.ref a1), .unset, .unset, .unset, .unset] [(.ref a1)])) rfl rfl (hb hby own_d_prog_15_method_6_code_37)
      obtain ⟨T8, X8, e8, st8⟩ := castY X7 hx hZ hown (hw _ (List.mem_of_getElem? (i := 9) rfl)) e7 (Ins.self E1) (g := (mkF m 44 #[.val (.ref a1), .unset, .unset, .unset, .unset] [(.ref a1)])) rfl rfl (hb hby own_d_prog_15_method_6_code_44)
      refine own_of (T' := T8) (f' := (mkF m 49 #[.val (.ref a1), .unset, .unset, .unset, .val (.ref a1)] [])) (fun t_ k_ => (st6 _ (XS.ifYes X6.here hx rfl (pc0 := 22) (pc' := 36) rfl (hb hby own_d_prog_15_method_6_code_22) rfl ((if0 _ _).trans (teq rfl).1) (by decide) (by decide) (XS.aloadN X6.here hx rfl (hb hby own_d_prog_15_method_6_code_36) rfl rfl (st7 _ (XS.ifNo X7.here hx rfl (hb hby own_d_prog_15_method_6_code_40) rfl ((if0 _ _).trans (feq (by decide : ¬ (1 : Int32) = 0)).1) (XS.aloadN X7.here hx rfl (hb hby own_d_prog_15_method_6_code_43) rfl rfl (st8 _ (XS.astore X8.here hx rfl (hb hby own_d_prog_15_method_6_code_47) rfl rfl (l' := #[.val (.ref a1), .unset, .unset, .unset, .val (.ref a1)]) rfl k_))))))))) ?_
      refine own_of (T' := T8) (f' := (mkF m 52 #[.val (.ref a1), .unset, .unset, .unset, .val (.ref a1)] [(.int (cl.slots.size).toInt32)])) (fun t_ k_ => (XS.aload X8.here hx rfl (hb hby own_d_prog_15_method_6_code_49) rfl rfl (X8.arraylength hx (by rw [e8]; exact Ar.1) (State.isArrayOf_alike hZ.alike Ar.2.1) (g := (mkF m 51 #[.val (.ref a1), .unset, .unset, .unset, .val (.ref a1)] [(.ref a1)])) rfl rfl (hb hby own_d_prog_15_method_6_code_51) _ k_))) ?_
      rw [len_of Sz M]
      refine own_of (T' := T8) (f' := (mkF m 63 #[.val (.ref a1), .val (.int z), .unset, .unset, .val (.ref a1)] [(.int z)])) (fun t_ k_ => (XS.istoreN X8.here hx rfl (hb hby own_d_prog_15_method_6_code_52) rfl (l' := #[.val (.ref a1), .val (.int z), .unset, .unset, .val (.ref a1)]) rfl (XS.goto X8.here hx rfl (pc0 := 53) (pc' := 62) rfl (hb hby own_d_prog_15_method_6_code_53) (by decide) (by decide) (XS.iloadN X8.here hx rfl (hb hby own_d_prog_15_method_6_code_62) rfl k_)))) ?_
      obtain ⟨fs, hr, hrun, hended, hW, hsame⟩ := X8.leave (v := some (.int z)) (fun h => by rw [Bd.returns] at h; cases h)
      exact ⟨_, _, own_retI X8 hx Bd.returns (hb hby own_d_prog_15_method_6_code_63) hr, hrun, hended, _, _, rfl, (by show own_Q_len2 Z a1 z cl h0 n0 _ T8.heap _; rw [e8]; exact ⟨rfl, N0, rfl⟩), ⟨_, rfl⟩, hW, hsame.mono (by decide) (by decide)⟩
theorem own_ef_len3 (m : MethodId) (a1 : Addr) : entryFrame m #[(.ref a1)] 5 = mkF m 0 #[.val (.ref a1), .unset, .unset, .unset, .unset] [] := by first | (simp [entryFrame, mkF, argsToLocals, Value.category]; done) | rfl
def own_Q_len3 (Z : State) (a1 : Addr) (z : Int32) (cl : Cell) (h0 : Heap) (n0 : Nat) (v : Option Value) (h : Heap) (L : List Loc) : Prop := v = some (.int z) ∧ Fr n0 L ∧ h = h0
theorem own_d_prog_15_method_6_code_56 : decode prog_15_method_6_code 56 = .ok (.aload_n 0, 1) := by decide +kernel
theorem own_d_prog_15_method_6_code_57 : decode prog_15_method_6_code 57 = .ok (.checkcast 70, 3) := by decide +kernel
theorem own_d_prog_15_method_6_code_60 : decode prog_15_method_6_code 60 = .ok (.arraylength, 1) := by decide +kernel
theorem own_d_prog_15_method_6_code_61 : decode prog_15_method_6_code 61 = .ok (.istore_n 1, 1) := by decide +kernel
set_option maxRecDepth 65536 in
set_option maxHeartbeats 40000000 in
theorem own_rm_len3 (l : Launch) (Z : State) (a0 : Array Value) (hw : ∀ d ∈ tables_1, d.before a0 Z = true) (ws : List Jvm.Cond) (a1 : Addr) (z : Int32) (cl : Cell) (h0 : Heap) (n0 : Nat) (Z0 : n0 ≤ h0.size) (Ar : Arr Z h0 a1 cl (.object "java/lang/String")) (E1 : Exa Z h0 a1 "[Ljava/lang/String;") (Sz : cl.slots.size = z.toNatClampNeg) (M : ¬ z < 0) :
    MetFree l (⟨"com/example/kreide/kreide/interpreter/Elements", "length", "(Ljava/lang/Object;)I"⟩ : MethodName) (head1 (Jvm.Cond.code (⟨"com/example/kreide/kreide/interpreter/Elements", "length", "(Ljava/lang/Object;)I"⟩ : MethodName) prog_15_method_6_code 5 (some .int) :: ws) ({ frames := 0, cells := 0, slots := 0, locals := 0 } : Room)) (fun a U => a = #[(.ref a1)] ∧ Z.Warmed39 U.vm ∧ U.heap = h0) (fun _ _ _ _ _ => True) (fun _ U o U' => ∃ v L, o = .returned v ∧ own_Q_len3 Z a1 z cl h0 n0 v U'.heap L ∧ FrameEnd U o U' L ({ frames := 0, cells := 0, slots := 0, locals := 0 } : Room).cells ({ frames := 0, cells := 0, slots := 0, locals := 0 } : Room).slots) := by
  refine MetFree.of_bodySF (plainFor_of_name own_pn_0) hisR ?_
  intro p e s m args below meth c s₁ Bd hml0 hP hK
  obtain ⟨rfl, hZ, hh⟩ := hP
  have hx := Bd.exec
  have hby := Bd.bytes
  have hml : c.maxLocals = 5 := hml0
  have hown : s.vm.findClass "com/example/kreide/kreide/interpreter/Elements" = some m.cls := findClass_of_methodNamed Bd.named
  have hnm := (name_of_methodNamed Bd.named Bd.method).1
  have X0 : Stand p l e ({ frames := 0, cells := 0, slots := 0, locals := 0 } : Room) s m #[(.ref a1)] below meth c s₁ [] 0 0 := Stand.of_body Bd
  have e0 : s₁.heap = h0 := by rw [← hh, Bd.state]; rfl
  have N0 := Fr.nil n0
  refine own_start (own_ef_len3 m a1) ?_
  refine own_of (T' := s₁) (f' := (mkF m 1 #[.val (.ref a1), .unset, .unset, .unset, .unset] [(.ref a1)])) (fun t_ k_ => (XS.aloadN X0.here hx rfl (hb hby own_d_prog_15_method_6_code_0) rfl rfl k_)) ?_
  rcases own_ask E1 (hw _ (List.mem_of_getElem? (i := 6) rfl)) with hi0 | hi0
  · skip
    obtain ⟨T1, X1, e1, st1⟩ := instY X0 hx hZ hown (hw _ (List.mem_of_getElem? (i := 5) rfl)) e0 hi0 (g := (mkF m 1 #[.val (.ref a1), .unset, .unset, .unset, .unset] [(.ref a1)])) rfl rfl (hb hby own_d_prog_15_method_6_code_1)
    obtain ⟨T2, X2, e2, st2⟩ := castY X1 hx hZ hown (hw _ (List.mem_of_getElem? (i := 5) rfl)) e1 hi0 (g := (mkF m 8 #[.val (.ref a1), .unset, .unset, .unset, .unset] [(.ref a1)])) rfl rfl (hb hby own_d_prog_15_method_6_code_8)
    refine own_of (T' := T2) (f' := (mkF m 14 #[.val (.ref a1), .unset, .val (.ref a1), .unset, .unset] [(.int (cl.slots.size).toInt32)])) (fun t_ k_ => (st1 _ (XS.ifNo X1.here hx rfl (hb hby own_d_prog_15_method_6_code_4) rfl ((if0 _ _).trans (feq (by decide : ¬ (1 : Int32) = 0)).1) (XS.aloadN X1.here hx rfl (hb hby own_d_prog_15_method_6_code_7) rfl rfl (st2 _ (XS.astoreN X2.here hx rfl (hb hby own_d_prog_15_method_6_code_11) rfl rfl (l' := #[.val (.ref a1), .unset, .val (.ref a1), .unset, .unset]) rfl (XS.aloadN X2.here hx rfl (hb hby own_d_prog_15_method_6_code_12) rfl rfl (X2.arraylength hx (by rw [e2]; exact Ar.1) (State.isArrayOf_alike hZ.alike Ar.2.1) (g := (mkF m 13 #[.val (.ref a1), .unset, .val (.ref a1), .unset, .unset] [(.ref a1)])) rfl rfl (hb hby own_d_prog_15_method_6_code_13) _ k_)))))))) ?_
    rw [len_of Sz M]
    refine own_of (T' := T2) (f' := (mkF m 63 #[.val (.ref a1), .val (.int z), .val (.ref a1), .unset, .unset] [(.int z)])) (fun t_ k_ => (XS.istoreN X2.here hx rfl (hb hby own_d_prog_15_method_6_code_14) rfl (l' := #[.val (.ref a1), .val (.int z), .val (.ref a1), .unset, .unset]) rfl (XS.goto X2.here hx rfl (pc0 := 15) (pc' := 62) rfl (hb hby own_d_prog_15_method_6_code_15) (by decide) (by decide) (XS.iloadN X2.here hx rfl (hb hby own_d_prog_15_method_6_code_62) rfl k_)))) ?_
    obtain ⟨fs, hr, hrun, hended, hW, hsame⟩ := X2.leave (v := some (.int z)) (fun h => by rw [Bd.returns] at h; cases h)
    exact ⟨_, _, own_retI X2 hx Bd.returns (hb hby own_d_prog_15_method_6_code_63) hr, hrun, hended, _, _, rfl, (by show own_Q_len3 Z a1 z cl h0 n0 _ T2.heap _; rw [e2]; exact ⟨rfl, N0, rfl⟩), ⟨_, rfl⟩, hW, hsame.mono (by decide) (by decide)⟩
  · skip
    obtain ⟨T3, X3, e3, st3⟩ := instNo X0 hx hZ hown (hw _ (List.mem_of_getElem? (i := 5) rfl)) e0 E1 hi0 (g := (mkF m 1 #[.val (.ref a1), .unset, .unset, .unset, .unset] [(.ref a1)])) rfl rfl (hb hby own_d_prog_15_method_6_code_1)
    refine own_of (T' := T3) (f' := (mkF m 19 #[.val (.ref a1), .unset, .unset, .unset, .unset] [(.ref a1)])) (fun t_ k_ => (st3 _ (XS.ifYes X3.here hx rfl (pc0 := 4) (pc' := 18) rfl (hb hby own_d_prog_15_method_6_code_4) rfl ((if0 _ _).trans (teq rfl).1) (by decide) (by decide) (XS.aloadN X3.here hx rfl (hb hby own_d_prog_15_method_6_code_18) rfl rfl k_)))) ?_
    rcases own_ask E1 (hw _ (List.mem_of_getElem? (i := 12) rfl)) with hi1 | hi1
    · skip
      obtain ⟨T4, X4, e4, st4⟩ := instY X3 hx hZ hown (hw _ (List.mem_of_getElem? (i := 8) rfl)) e3 hi1 (g := (mkF m 19 #[.val (.ref a1), .unset, .unset, .unset, .unset] [(.ref a1)])) rfl rfl (hb hby own_d_prog_15_method_6_code_19)
      obtain ⟨T5, X5, e5, st5⟩ := castY X4 hx hZ hown (hw _ (List.mem_of_getElem? (i := 8) rfl)) e4 hi1 (g := (mkF m 26 #[.val (.ref a1), .unset, .unset, .unset, .unset] [(.ref a1)])) rfl rfl (hb hby own_d_prog_15_method_6_code_26)
      refine own_of (T' := T5) (f' := (mkF m 32 #[.val (.ref a1), .unset, .unset, .val (.ref a1), .unset] [(.int (cl.slots.size).toInt32)])) (fun t_ k_ => (st4 _ (XS.ifNo X4.here hx rfl (hb hby own_d_prog_15_method_6_code_22) rfl ((if0 _ _).trans (feq (by decide : ¬ (1 : Int32) = 0)).1) (XS.aloadN X4.here hx rfl (hb hby own_d_prog_15_method_6_code_25) rfl rfl (st5 _ (XS.astoreN X5.here hx rfl (hb hby own_d_prog_15_method_6_code_29) rfl rfl (l' := #[.val (.ref a1), .unset, .unset, .val (.ref a1), .unset]) rfl (XS.aloadN X5.here hx rfl (hb hby own_d_prog_15_method_6_code_30) rfl rfl (X5.arraylength hx (by rw [e5]; exact Ar.1) (State.isArrayOf_alike hZ.alike Ar.2.1) (g := (mkF m 31 #[.val (.ref a1), .unset, .unset, .val (.ref a1), .unset] [(.ref a1)])) rfl rfl (hb hby own_d_prog_15_method_6_code_31) _ k_)))))))) ?_
      rw [len_of Sz M]
      refine own_of (T' := T5) (f' := (mkF m 63 #[.val (.ref a1), .val (.int z), .unset, .val (.ref a1), .unset] [(.int z)])) (fun t_ k_ => (XS.istoreN X5.here hx rfl (hb hby own_d_prog_15_method_6_code_32) rfl (l' := #[.val (.ref a1), .val (.int z), .unset, .val (.ref a1), .unset]) rfl (XS.goto X5.here hx rfl (pc0 := 33) (pc' := 62) rfl (hb hby own_d_prog_15_method_6_code_33) (by decide) (by decide) (XS.iloadN X5.here hx rfl (hb hby own_d_prog_15_method_6_code_62) rfl k_)))) ?_
      obtain ⟨fs, hr, hrun, hended, hW, hsame⟩ := X5.leave (v := some (.int z)) (fun h => by rw [Bd.returns] at h; cases h)
      exact ⟨_, _, own_retI X5 hx Bd.returns (hb hby own_d_prog_15_method_6_code_63) hr, hrun, hended, _, _, rfl, (by show own_Q_len3 Z a1 z cl h0 n0 _ T5.heap _; rw [e5]; exact ⟨rfl, N0, rfl⟩), ⟨_, rfl⟩, hW, hsame.mono (by decide) (by decide)⟩
    · skip
      obtain ⟨T6, X6, e6, st6⟩ := instNo X3 hx hZ hown (hw _ (List.mem_of_getElem? (i := 8) rfl)) e3 E1 hi1 (g := (mkF m 19 #[.val (.ref a1), .unset, .unset, .unset, .unset] [(.ref a1)])) rfl rfl (hb hby own_d_prog_15_method_6_code_19)
      refine own_of (T' := T6) (f' := (mkF m 37 #[.val (.ref a1), .unset, .unset, .unset, .unset] [(.ref a1)])) (fun t_ k_ => (st6 _ (XS.ifYes X6.here hx rfl (pc0 := 22) (pc' := 36) rfl (hb hby own_d_prog_15_method_6_code_22) rfl ((if0 _ _).trans (teq rfl).1) (by decide) (by decide) (XS.aloadN X6.here hx rfl (hb hby own_d_prog_15_method_6_code_36) rfl rfl k_)))) ?_
      rcases own_ask E1 (hw _ (List.mem_of_getElem? (i := 10) rfl)) with hi2 | hi2
      · skip
        obtain ⟨T7, X7, e7, st7⟩ := instY X6 hx hZ hown (hw _ (List.mem_of_getElem? (i := 9) rfl)) e6 hi2 (g := (mkF m 37 #[.val (.ref a1), .unset, .unset, .unset, .unset] [(.ref a1)])) rfl rfl (hb hby own_d_prog_15_method_6_code_37)
        obtain ⟨T8, X8, e8, st8⟩ := castY X7 hx hZ hown (hw _ (List.mem_of_getElem? (i := 9) rfl)) e7 hi2 (g := (mkF m 44 #[.val (.ref a1), .unset, .unset, .unset, .unset] [(.ref a1)])) rfl rfl (hb hby own_d_prog_15_method_6_code_44)
        refine own_of (T' := T8) (f' := (mkF m 52 #[.val (.ref a1), .unset, .unset, .unset, .val (.ref a1)] [(.int (cl.slots.size).toInt32)])) (fun t_ k_ => (st7 _ (XS.ifNo X7.here hx rfl (hb hby own_d_prog_15_method_6_code_40) rfl ((if0 _ _).trans (feq (by decide : ¬ (1 : Int32) = 0)).1) (XS.aloadN X7.here hx rfl (hb hby own_d_prog_15_method_6_code_43) rfl rfl (st8 _ (XS.astore X8.here hx rfl (hb hby own_d_prog_15_method_6_code_47) rfl rfl (l' := #[.val (.ref a1), .unset, .unset, .unset, .val (.ref a1)]) rfl (XS.aload X8.here hx rfl (hb hby own_d_prog_15_method_6_code_49) rfl rfl (X8.arraylength hx (by rw [e8]; exact Ar.1) (State.isArrayOf_alike hZ.alike Ar.2.1) (g := (mkF m 51 #[.val (.ref a1), .unset, .unset, .unset, .val (.ref a1)] [(.ref a1)])) rfl rfl (hb hby own_d_prog_15_method_6_code_51) _ k_)))))))) ?_
        rw [len_of Sz M]
        refine own_of (T' := T8) (f' := (mkF m 63 #[.val (.ref a1), .val (.int z), .unset, .unset, .val (.ref a1)] [(.int z)])) (fun t_ k_ => (XS.istoreN X8.here hx rfl (hb hby own_d_prog_15_method_6_code_52) rfl (l' := #[.val (.ref a1), .val (.int z), .unset, .unset, .val (.ref a1)]) rfl (XS.goto X8.here hx rfl (pc0 := 53) (pc' := 62) rfl (hb hby own_d_prog_15_method_6_code_53) (by decide) (by decide) (XS.iloadN X8.here hx rfl (hb hby own_d_prog_15_method_6_code_62) rfl k_)))) ?_
        obtain ⟨fs, hr, hrun, hended, hW, hsame⟩ := X8.leave (v := some (.int z)) (fun h => by rw [Bd.returns] at h; cases h)
        exact ⟨_, _, own_retI X8 hx Bd.returns (hb hby own_d_prog_15_method_6_code_63) hr, hrun, hended, _, _, rfl, (by show own_Q_len3 Z a1 z cl h0 n0 _ T8.heap _; rw [e8]; exact ⟨rfl, N0, rfl⟩), ⟨_, rfl⟩, hW, hsame.mono (by decide) (by decide)⟩
      · skip
        obtain ⟨T9, X9, e9, st9⟩ := instNo X6 hx hZ hown (hw _ (List.mem_of_getElem? (i := 9) rfl)) e6 E1 hi2 (g := (mkF m 37 #[.val (.ref a1), .unset, .unset, .unset, .unset] [(.ref a1)])) rfl rfl (hb hby own_d_prog_15_method_6_code_37)
        obtain ⟨T10, X10, e10, st10⟩ := castY X9 hx hZ hown (hw _ (List.mem_of_getElem? (i := 15) rfl)) e9 (Ins.self E1) (g := (mkF m 57 #[.val (.ref a1), .unset, .unset, .unset, .unset] [(.ref a1)])) rfl rfl (hb hby own_d_prog_15_method_6_code_57)
        refine own_of (T' := T10) (f' := (mkF m 61 #[.val (.ref a1), .unset, .unset, .unset, .unset] [(.int (cl.slots.size).toInt32)])) (fun t_ k_ => (st9 _ (XS.ifYes X9.here hx rfl (pc0 := 40) (pc' := 56) rfl (hb hby own_d_prog_15_method_6_code_40) rfl ((if0 _ _).trans (teq rfl).1) (by decide) (by decide) (XS.aloadN X9.here hx rfl (hb hby own_d_prog_15_method_6_code_56) rfl rfl (st10 _ (X10.arraylength hx (by rw [e10]; exact Ar.1) (State.isArrayOf_alike hZ.alike Ar.2.1) (g := (mkF m 60 #[.val (.ref a1), .unset, .unset, .unset, .unset] [(.ref a1)])) rfl rfl (hb hby own_d_prog_15_method_6_code_60) _ k_)))))) ?_
        rw [len_of Sz M]
        refine own_of (T' := T10) (f' := (mkF m 63 #[.val (.ref a1), .val (.int z), .unset, .unset, .unset] [(.int z)])) (fun t_ k_ => (XS.istoreN X10.here hx rfl (hb hby own_d_prog_15_method_6_code_61) rfl (l' := #[.val (.ref a1), .val (.int z), .unset, .unset, .unset]) rfl (XS.iloadN X10.here hx rfl (hb hby own_d_prog_15_method_6_code_62) rfl k_))) ?_
        obtain ⟨fs, hr, hrun, hended, hW, hsame⟩ := X10.leave (v := some (.int z)) (fun h => by rw [Bd.returns] at h; cases h)
        exact ⟨_, _, own_retI X10 hx Bd.returns (hb hby own_d_prog_15_method_6_code_63) hr, hrun, hended, _, _, rfl, (by show own_Q_len3 Z a1 z cl h0 n0 _ T10.heap _; rw [e10]; exact ⟨rfl, N0, rfl⟩), ⟨_, rfl⟩, hW, hsame.mono (by decide) (by decide)⟩
theorem own_pn_1 : plainName "com/example/kreide/kreide/interpreter/ElementsLengthPinLaw" = true := by first | (simp [plainName, overriddenIn]; done) | decide +kernel
theorem own_ef_0 (m : MethodId) (p0 : Int32) (p1 : Int32) : entryFrame m #[(.int p0), (.int p1)] maxLocals = mkF m 0 #[.val (.int p0), .val (.int p1), .unset, .unset, .unset] [] := by first | (simp [entryFrame, mkF, argsToLocals, Value.category, maxLocals]; done) | rfl
def own_Q_0 (Z : State) (p0 : Int32) (p1 : Int32)  (h0 : Heap) (n0 : Nat) (v : Option Value) (h : Heap) (L : List Loc) : Prop := v = some (.int 1) ∧ Fr n0 L
theorem own_pd_0 : parseMethodDescriptor "(Ljava/lang/Object;)I" = some ⟨[(.object "java/lang/Object")], some .int⟩ := by decide +kernel
set_option maxRecDepth 65536 in
set_option maxHeartbeats 40000000 in
theorem own_rm_0 (l : Launch) (Z : State) (a0 : Array Value) (hw : ∀ d ∈ tables_1, d.before a0 Z = true) (ws : List Jvm.Cond) (p0 : Int32) (p1 : Int32)  (h0 : Heap) (n0 : Nat) (Z0 : n0 ≤ h0.size)  :
    MetFree l x (head1 (Jvm.Cond.code x code maxLocals ret :: ws) room_1) (fun a U => a = #[(.int p0), (.int p1)] ∧ Z.Warmed39 U.vm ∧ U.heap = h0) (fun _ _ _ _ _ => True) (fun _ U o U' => ∃ v L, o = .returned v ∧ own_Q_0 Z p0 p1  h0 n0 v U'.heap L ∧ FrameEnd U o U' L room_1.cells room_1.slots) := by
  refine MetFree.of_bodySF (plainFor_of_name own_pn_1) hisR ?_
  intro p e s m args below meth c s₁ Bd hml0 hP hK
  obtain ⟨rfl, hZ, hh⟩ := hP
  have hx := Bd.exec
  have hby := Bd.bytes
  have hml : c.maxLocals = 5 := hml0
  have hown : s.vm.findClass "com/example/kreide/kreide/interpreter/ElementsLengthPinLaw" = some m.cls := findClass_of_methodNamed Bd.named
  have hnm := (name_of_methodNamed Bd.named Bd.method).1
  have X0 : Stand p l e room_1 s m #[(.int p0), (.int p1)] below meth c s₁ [] 0 0 := Stand.of_body Bd
  have e0 : s₁.heap = h0 := by rw [← hh, Bd.state]; rfl
  have N0 := Fr.nil n0
  refine own_start (own_ef_0 m p0 p1) ?_
  refine own_of (T' := s₁) (f' := (mkF m 4 #[.val (.int p0), .val (.int p1), .unset, .unset, .unset] [(.int (p1 &&& (31 : Int32)))])) (fun t_ k_ => (XS.iloadN X0.here hx rfl (hb hby at_0) rfl (XS.bipush X0.here hx rfl (hb hby at_1) (XS.iand X0.here hx rfl (hb hby at_3) rfl k_)))) ?_
  obtain ⟨n, hn⟩ : ∃ z : Int32, (p1 &&& (31 : Int32)) = z := ⟨_, rfl⟩
  rw [hn]
  have en : n.toInt = p1.toInt % (2 ^ 5 : Nat) := by rw [← hn]; exact c_mask p1 31 5 (by decide) (by decide)
  have nn : ¬ n < 0 := by rw [Int32.lt_iff_toInt_lt]; show ¬ n.toInt < 0; omega
  have cap : n.toNatClampNeg ≤ 31 := by show n.toInt.toNat ≤ 31; omega
  refine own_of (T' := s₁) (f' := (mkF m 10 #[.val (.int p0), .val (.int p1), .val (.int n), .val (.int (p0 &&& (3 : Int32))), .unset] [(.int (p0 &&& (3 : Int32)))])) (fun t_ k_ => (XS.istoreN X0.here hx rfl (hb hby at_4) rfl (l' := #[.val (.int p0), .val (.int p1), .val (.int n), .unset, .unset]) rfl (XS.iloadN X0.here hx rfl (hb hby at_5) rfl (XS.iconst X0.here hx rfl (hb hby at_6) (XS.iand X0.here hx rfl (hb hby at_7) rfl (XS.istoreN X0.here hx rfl (hb hby at_8) rfl (l' := #[.val (.int p0), .val (.int p1), .val (.int n), .val (.int (p0 &&& (3 : Int32))), .unset]) rfl (XS.iloadN X0.here hx rfl (hb hby at_9) rfl k_))))))) ?_
  by_cases hc10_1 : ((p0 &&& (3 : Int32)) = (0 : Int32))
  · skip
    refine own_of (T' := s₁) (f' := (mkF m 14 #[.val (.int p0), .val (.int p1), .val (.int n), .val (.int (p0 &&& (3 : Int32))), .unset] [(.int n)])) (fun t_ k_ => (XS.ifNo X0.here hx rfl (hb hby at_10) rfl ((if0 _ _).trans (teq hc10_1).2) (XS.iloadN X0.here hx rfl (hb hby at_13) rfl k_))) ?_
    obtain ⟨T2, h2, cA2, X2, e2, E2, A2, Ex2, st2⟩ := newPE X0 hx hZ (hw _ (List.mem_of_getElem? (i := 0) rfl)) e0 (g := (mkF m 14 #[.val (.int p0), .val (.int p1), .val (.int n), .val (.int (p0 &&& (3 : Int32))), .unset] [(.int n)])) rfl (hb hby at_14) rfl nn (cap := 31) cap (by decide) (by decide) (by decide) (ad := "[J") (by decide)
    obtain ⟨b, g2⟩ : ∃ z, z = h0.size := ⟨_, rfl⟩
    rw [← g2] at A2 Ex2 st2
    have g_b : n0 ≤ b := Nat.le_trans Z0 (Nat.le_of_eq g2.symm)
    have f3 := Nat.le_trans Z0 E2.1
    refine own_of (T' := T2) (f' := (mkF m 55 #[.val (.int p0), .val (.int p1), .val (.int n), .val (.int (p0 &&& (3 : Int32))), .val (.ref b)] [(.ref b)])) (fun t_ k_ => (st2 _ (XS.astore X2.here hx rfl (hb hby at_16) rfl rfl (l' := #[.val (.int p0), .val (.int p1), .val (.int n), .val (.int (p0 &&& (3 : Int32))), .val (.ref b)]) rfl (XS.goto X2.here hx rfl (pc0 := 18) (pc' := 53) rfl (hb hby at_18) (by decide) (by decide) (XS.aload X2.here hx rfl (hb hby at_53) rfl rfl k_))))) ?_
    obtain ⟨_, _, ⟨T4, L4, k4, n4⟩, -, X4, ⟨Lc4, hQ4, l4, y4, z4⟩, st4⟩ := Jvm.LawKit.callS X2 hx (y := (⟨"com/example/kreide/kreide/interpreter/Elements", "length", "(Ljava/lang/Object;)I"⟩ : MethodName)) hown (mvT hZ (hw _ (List.mem_of_getElem? (i := 1) rfl))) (mvT hZ (hw _ (List.mem_of_getElem? (i := 2) rfl))) (mvT hZ (hw _ (List.mem_of_getElem? (i := 3) rfl))) (mvT hZ (hw _ (List.mem_of_getElem? (i := 4) rfl))) (by decide) (backOf (W := 0) (own_rm_len0 l Z a0 hw [] b n _ h2 n0 f3 A2 Ex2 (sz_new _ _ _) nn) hZ (hw _ (List.mem_of_getElem? (i := 4) rfl)) (hw _ (List.mem_of_getElem? (i := 3) rfl)) (by decide) (by decide)) (g := (mkF m 55 #[.val (.int p0), .val (.int p1), .val (.int n), .val (.int (p0 &&& (3 : Int32))), .val (.ref b)] [(.ref b)])) rfl (by rw [hml]; rfl) (argsL := [(.ref b)]) (rest := []) (lenOf own_pd_0 rfl) rfl (by show 2 * 0 + _ ≤ _; exact Nat.le_of_eq rfl) (hb hby at_55) (fun _ _ => ⟨rfl, e2, Nat.le_of_ble_eq_true rfl, Nat.le_of_ble_eq_true rfl⟩)
    dsimp only [Pt.U, Pt.locs, Pt.cells, Pt.slots] at X4 l4 y4 z4 st4 hQ4
    subst l4 y4 z4
    obtain ⟨rfl, N4, e4⟩ := hQ4
    have N5 := Fr.app N0 N4
    refine own_of (T' := T4) (f' := (mkF m 67 #[.val (.int p0), .val (.int p1), .val (.int n), .val (.int (p0 &&& (3 : Int32))), .val (.ref b)] [(.int (1 : Int32))])) (fun t_ k_ => (st4 _ (XS.iloadN X4.here hx rfl (hb hby at_58) rfl (XS.icmpNo X4.here hx rfl (hb hby at_59) rfl (teq rfl).2 (XS.iconst X4.here hx rfl (hb hby at_62) (XS.goto X4.here hx rfl (pc0 := 63) (pc' := 67) rfl (hb hby at_63) (by decide) (by decide) k_)))))) ?_
    obtain ⟨fs, hr, hrun, hended, hW, hsame⟩ := X4.leave (v := some (.int (1 : Int32))) (fun h => by rw [Bd.returns] at h; cases h)
    exact ⟨_, _, retN X4 hx (t := .boolean) Bd.returns (by simp) (hb hby at_67) hr, hrun, hended, _, _, rfl, (by show own_Q_0 Z p0 p1  h0 n0 _ T4.heap _; rw [e4]; exact ⟨rfl, N5⟩), ⟨_, rfl⟩, hW, hsame.mono (by decide) (by decide)⟩
  · skip
    refine own_of (T' := s₁) (f' := (mkF m 23 #[.val (.int p0), .val (.int p1), .val (.int n), .val (.int (p0 &&& (3 : Int32))), .unset] [(.int (1 : Int32)), (.int (p0 &&& (3 : Int32)))])) (fun t_ k_ => (XS.ifYes X0.here hx rfl (pc0 := 10) (pc' := 21) rfl (hb hby at_10) rfl ((if0 _ _).trans (feq hc10_1).2) (by decide) (by decide) (XS.iloadN X0.here hx rfl (hb hby at_21) rfl (XS.iconst X0.here hx rfl (hb hby at_22) k_)))) ?_
    by_cases hc23_6 : ((p0 &&& (3 : Int32)) = (1 : Int32))
    · skip
      refine own_of (T' := s₁) (f' := (mkF m 27 #[.val (.int p0), .val (.int p1), .val (.int n), .val (.int (p0 &&& (3 : Int32))), .unset] [(.int n)])) (fun t_ k_ => (XS.icmpNo X0.here hx rfl (hb hby at_23) rfl (teq hc23_6).2 (XS.iloadN X0.here hx rfl (hb hby at_26) rfl k_))) ?_
      obtain ⟨T7, h7, cA7, X7, e7, E7, A7, Ex7, st7⟩ := newPE X0 hx hZ (hw _ (List.mem_of_getElem? (i := 11) rfl)) e0 (g := (mkF m 27 #[.val (.int p0), .val (.int p1), .val (.int n), .val (.int (p0 &&& (3 : Int32))), .unset] [(.int n)])) rfl (hb hby at_27) rfl nn (cap := 31) cap (by decide) (by decide) (by decide) (ad := "[D") (by decide)
      obtain ⟨b, g7⟩ : ∃ z, z = h0.size := ⟨_, rfl⟩
      rw [← g7] at A7 Ex7 st7
      have g_b : n0 ≤ b := Nat.le_trans Z0 (Nat.le_of_eq g7.symm)
      have f8 := Nat.le_trans Z0 E7.1
      refine own_of (T' := T7) (f' := (mkF m 55 #[.val (.int p0), .val (.int p1), .val (.int n), .val (.int (p0 &&& (3 : Int32))), .val (.ref b)] [(.ref b)])) (fun t_ k_ => (st7 _ (XS.astore X7.here hx rfl (hb hby at_29) rfl rfl (l' := #[.val (.int p0), .val (.int p1), .val (.int n), .val (.int (p0 &&& (3 : Int32))), .val (.ref b)]) rfl (XS.goto X7.here hx rfl (pc0 := 31) (pc' := 53) rfl (hb hby at_31) (by decide) (by decide) (XS.aload X7.here hx rfl (hb hby at_53) rfl rfl k_))))) ?_
      obtain ⟨_, _, ⟨T9, L9, k9, n9⟩, -, X9, ⟨Lc9, hQ9, l9, y9, z9⟩, st9⟩ := Jvm.LawKit.callS X7 hx (y := (⟨"com/example/kreide/kreide/interpreter/Elements", "length", "(Ljava/lang/Object;)I"⟩ : MethodName)) hown (mvT hZ (hw _ (List.mem_of_getElem? (i := 1) rfl))) (mvT hZ (hw _ (List.mem_of_getElem? (i := 2) rfl))) (mvT hZ (hw _ (List.mem_of_getElem? (i := 3) rfl))) (mvT hZ (hw _ (List.mem_of_getElem? (i := 4) rfl))) (by decide) (backOf (W := 0) (own_rm_len1 l Z a0 hw [] b n _ h7 n0 f8 A7 Ex7 (sz_new _ _ _) nn) hZ (hw _ (List.mem_of_getElem? (i := 4) rfl)) (hw _ (List.mem_of_getElem? (i := 3) rfl)) (by decide) (by decide)) (g := (mkF m 55 #[.val (.int p0), .val (.int p1), .val (.int n), .val (.int (p0 &&& (3 : Int32))), .val (.ref b)] [(.ref b)])) rfl (by rw [hml]; rfl) (argsL := [(.ref b)]) (rest := []) (lenOf own_pd_0 rfl) rfl (by show 2 * 0 + _ ≤ _; exact Nat.le_of_eq rfl) (hb hby at_55) (fun _ _ => ⟨rfl, e7, Nat.le_of_ble_eq_true rfl, Nat.le_of_ble_eq_true rfl⟩)
      dsimp only [Pt.U, Pt.locs, Pt.cells, Pt.slots] at X9 l9 y9 z9 st9 hQ9
      subst l9 y9 z9
      obtain ⟨rfl, N9, e9⟩ := hQ9
      have N10 := Fr.app N0 N9
      refine own_of (T' := T9) (f' := (mkF m 67 #[.val (.int p0), .val (.int p1), .val (.int n), .val (.int (p0 &&& (3 : Int32))), .val (.ref b)] [(.int (1 : Int32))])) (fun t_ k_ => (st9 _ (XS.iloadN X9.here hx rfl (hb hby at_58) rfl (XS.icmpNo X9.here hx rfl (hb hby at_59) rfl (teq rfl).2 (XS.iconst X9.here hx rfl (hb hby at_62) (XS.goto X9.here hx rfl (pc0 := 63) (pc' := 67) rfl (hb hby at_63) (by decide) (by decide) k_)))))) ?_
      obtain ⟨fs, hr, hrun, hended, hW, hsame⟩ := X9.leave (v := some (.int (1 : Int32))) (fun h => by rw [Bd.returns] at h; cases h)
      exact ⟨_, _, retN X9 hx (t := .boolean) Bd.returns (by simp) (hb hby at_67) hr, hrun, hended, _, _, rfl, (by show own_Q_0 Z p0 p1  h0 n0 _ T9.heap _; rw [e9]; exact ⟨rfl, N10⟩), ⟨_, rfl⟩, hW, hsame.mono (by decide) (by decide)⟩
    · skip
      refine own_of (T' := s₁) (f' := (mkF m 36 #[.val (.int p0), .val (.int p1), .val (.int n), .val (.int (p0 &&& (3 : Int32))), .unset] [(.int (2 : Int32)), (.int (p0 &&& (3 : Int32)))])) (fun t_ k_ => (XS.icmpYes X0.here hx rfl (pc0 := 23) (pc' := 34) rfl (hb hby at_23) rfl (feq hc23_6).2 (by decide) (by decide) (XS.iloadN X0.here hx rfl (hb hby at_34) rfl (XS.iconst X0.here hx rfl (hb hby at_35) k_)))) ?_
      by_cases hc36_11 : ((p0 &&& (3 : Int32)) = (2 : Int32))
      · skip
        refine own_of (T' := s₁) (f' := (mkF m 40 #[.val (.int p0), .val (.int p1), .val (.int n), .val (.int (p0 &&& (3 : Int32))), .unset] [(.int n)])) (fun t_ k_ => (XS.icmpNo X0.here hx rfl (hb hby at_36) rfl (teq hc36_11).2 (XS.iloadN X0.here hx rfl (hb hby at_39) rfl k_))) ?_
        obtain ⟨T12, h12, cA12, X12, e12, E12, A12, Ex12, st12⟩ := newPE X0 hx hZ (hw _ (List.mem_of_getElem? (i := 7) rfl)) e0 (g := (mkF m 40 #[.val (.int p0), .val (.int p1), .val (.int n), .val (.int (p0 &&& (3 : Int32))), .unset] [(.int n)])) rfl (hb hby at_40) rfl nn (cap := 31) cap (by decide) (by decide) (by decide) (ad := "[Z") (by decide)
        obtain ⟨b, g12⟩ : ∃ z, z = h0.size := ⟨_, rfl⟩
        rw [← g12] at A12 Ex12 st12
        have g_b : n0 ≤ b := Nat.le_trans Z0 (Nat.le_of_eq g12.symm)
        have f13 := Nat.le_trans Z0 E12.1
        refine own_of (T' := T12) (f' := (mkF m 55 #[.val (.int p0), .val (.int p1), .val (.int n), .val (.int (p0 &&& (3 : Int32))), .val (.ref b)] [(.ref b)])) (fun t_ k_ => (st12 _ (XS.astore X12.here hx rfl (hb hby at_42) rfl rfl (l' := #[.val (.int p0), .val (.int p1), .val (.int n), .val (.int (p0 &&& (3 : Int32))), .val (.ref b)]) rfl (XS.goto X12.here hx rfl (pc0 := 44) (pc' := 53) rfl (hb hby at_44) (by decide) (by decide) (XS.aload X12.here hx rfl (hb hby at_53) rfl rfl k_))))) ?_
        obtain ⟨_, _, ⟨T14, L14, k14, n14⟩, -, X14, ⟨Lc14, hQ14, l14, y14, z14⟩, st14⟩ := Jvm.LawKit.callS X12 hx (y := (⟨"com/example/kreide/kreide/interpreter/Elements", "length", "(Ljava/lang/Object;)I"⟩ : MethodName)) hown (mvT hZ (hw _ (List.mem_of_getElem? (i := 1) rfl))) (mvT hZ (hw _ (List.mem_of_getElem? (i := 2) rfl))) (mvT hZ (hw _ (List.mem_of_getElem? (i := 3) rfl))) (mvT hZ (hw _ (List.mem_of_getElem? (i := 4) rfl))) (by decide) (backOf (W := 0) (own_rm_len2 l Z a0 hw [] b n _ h12 n0 f13 A12 Ex12 (sz_new _ _ _) nn) hZ (hw _ (List.mem_of_getElem? (i := 4) rfl)) (hw _ (List.mem_of_getElem? (i := 3) rfl)) (by decide) (by decide)) (g := (mkF m 55 #[.val (.int p0), .val (.int p1), .val (.int n), .val (.int (p0 &&& (3 : Int32))), .val (.ref b)] [(.ref b)])) rfl (by rw [hml]; rfl) (argsL := [(.ref b)]) (rest := []) (lenOf own_pd_0 rfl) rfl (by show 2 * 0 + _ ≤ _; exact Nat.le_of_eq rfl) (hb hby at_55) (fun _ _ => ⟨rfl, e12, Nat.le_of_ble_eq_true rfl, Nat.le_of_ble_eq_true rfl⟩)
        dsimp only [Pt.U, Pt.locs, Pt.cells, Pt.slots] at X14 l14 y14 z14 st14 hQ14
        subst l14 y14 z14
        obtain ⟨rfl, N14, e14⟩ := hQ14
        have N15 := Fr.app N0 N14
        refine own_of (T' := T14) (f' := (mkF m 67 #[.val (.int p0), .val (.int p1), .val (.int n), .val (.int (p0 &&& (3 : Int32))), .val (.ref b)] [(.int (1 : Int32))])) (fun t_ k_ => (st14 _ (XS.iloadN X14.here hx rfl (hb hby at_58) rfl (XS.icmpNo X14.here hx rfl (hb hby at_59) rfl (teq rfl).2 (XS.iconst X14.here hx rfl (hb hby at_62) (XS.goto X14.here hx rfl (pc0 := 63) (pc' := 67) rfl (hb hby at_63) (by decide) (by decide) k_)))))) ?_
        obtain ⟨fs, hr, hrun, hended, hW, hsame⟩ := X14.leave (v := some (.int (1 : Int32))) (fun h => by rw [Bd.returns] at h; cases h)
        exact ⟨_, _, retN X14 hx (t := .boolean) Bd.returns (by simp) (hb hby at_67) hr, hrun, hended, _, _, rfl, (by show own_Q_0 Z p0 p1  h0 n0 _ T14.heap _; rw [e14]; exact ⟨rfl, N15⟩), ⟨_, rfl⟩, hW, hsame.mono (by decide) (by decide)⟩
      · skip
        refine own_of (T' := s₁) (f' := (mkF m 48 #[.val (.int p0), .val (.int p1), .val (.int n), .val (.int (p0 &&& (3 : Int32))), .unset] [(.int n)])) (fun t_ k_ => (XS.icmpYes X0.here hx rfl (pc0 := 36) (pc' := 47) rfl (hb hby at_36) rfl (feq hc36_11).2 (by decide) (by decide) (XS.iloadN X0.here hx rfl (hb hby at_47) rfl k_))) ?_
        obtain ⟨T16, h16, cA16, X16, e16, E16, A16, Ex16, -, st16⟩ := newRE X0 hx hZ hown (hw _ (List.mem_of_getElem? (i := 13) rfl)) (hw _ (List.mem_of_getElem? (i := 14) rfl)) e0 (g := (mkF m 48 #[.val (.int p0), .val (.int p1), .val (.int n), .val (.int (p0 &&& (3 : Int32))), .unset] [(.int n)])) rfl (hb hby at_48) rfl nn (cap := 31) cap (by decide) (by decide) (by decide) (ad := "[Ljava/lang/String;") (by decide)
        obtain ⟨b, g16⟩ : ∃ z, z = h0.size := ⟨_, rfl⟩
        rw [← g16] at A16 Ex16 st16
        have g_b : n0 ≤ b := Nat.le_trans Z0 (Nat.le_of_eq g16.symm)
        have f17 := Nat.le_trans Z0 E16.1
        refine own_of (T' := T16) (f' := (mkF m 55 #[.val (.int p0), .val (.int p1), .val (.int n), .val (.int (p0 &&& (3 : Int32))), .val (.ref b)] [(.ref b)])) (fun t_ k_ => (st16 _ (XS.astore X16.here hx rfl (hb hby at_51) rfl rfl (l' := #[.val (.int p0), .val (.int p1), .val (.int n), .val (.int (p0 &&& (3 : Int32))), .val (.ref b)]) rfl (XS.aload X16.here hx rfl (hb hby at_53) rfl rfl k_)))) ?_
        obtain ⟨_, _, ⟨T18, L18, k18, n18⟩, -, X18, ⟨Lc18, hQ18, l18, y18, z18⟩, st18⟩ := Jvm.LawKit.callS X16 hx (y := (⟨"com/example/kreide/kreide/interpreter/Elements", "length", "(Ljava/lang/Object;)I"⟩ : MethodName)) hown (mvT hZ (hw _ (List.mem_of_getElem? (i := 1) rfl))) (mvT hZ (hw _ (List.mem_of_getElem? (i := 2) rfl))) (mvT hZ (hw _ (List.mem_of_getElem? (i := 3) rfl))) (mvT hZ (hw _ (List.mem_of_getElem? (i := 4) rfl))) (by decide) (backOf (W := 0) (own_rm_len3 l Z a0 hw [] b n _ h16 n0 f17 A16 Ex16 (sz_new _ _ _) nn) hZ (hw _ (List.mem_of_getElem? (i := 4) rfl)) (hw _ (List.mem_of_getElem? (i := 3) rfl)) (by decide) (by decide)) (g := (mkF m 55 #[.val (.int p0), .val (.int p1), .val (.int n), .val (.int (p0 &&& (3 : Int32))), .val (.ref b)] [(.ref b)])) rfl (by rw [hml]; rfl) (argsL := [(.ref b)]) (rest := []) (lenOf own_pd_0 rfl) rfl (by show 2 * 0 + _ ≤ _; exact Nat.le_of_eq rfl) (hb hby at_55) (fun _ _ => ⟨rfl, e16, Nat.le_of_ble_eq_true rfl, Nat.le_of_ble_eq_true rfl⟩)
        dsimp only [Pt.U, Pt.locs, Pt.cells, Pt.slots] at X18 l18 y18 z18 st18 hQ18
        subst l18 y18 z18
        obtain ⟨rfl, N18, e18⟩ := hQ18
        have N19 := Fr.app N0 N18
        refine own_of (T' := T18) (f' := (mkF m 67 #[.val (.int p0), .val (.int p1), .val (.int n), .val (.int (p0 &&& (3 : Int32))), .val (.ref b)] [(.int (1 : Int32))])) (fun t_ k_ => (st18 _ (XS.iloadN X18.here hx rfl (hb hby at_58) rfl (XS.icmpNo X18.here hx rfl (hb hby at_59) rfl (teq rfl).2 (XS.iconst X18.here hx rfl (hb hby at_62) (XS.goto X18.here hx rfl (pc0 := 63) (pc' := 67) rfl (hb hby at_63) (by decide) (by decide) k_)))))) ?_
        obtain ⟨fs, hr, hrun, hended, hW, hsame⟩ := X18.leave (v := some (.int (1 : Int32))) (fun h => by rw [Bd.returns] at h; cases h)
        exact ⟨_, _, retN X18 hx (t := .boolean) Bd.returns (by simp) (hb hby at_67) hr, hrun, hended, _, _, rfl, (by show own_Q_0 Z p0 p1  h0 n0 _ T18.heap _; rw [e18]; exact ⟨rfl, N19⟩), ⟨_, rfl⟩, hW, hsame.mono (by decide) (by decide)⟩
set_option maxRecDepth 65536 in
set_option maxHeartbeats 40000000 in
theorem own_comes_1 {Post : Tables → Env → Array Value → State → Outcome → State → Prop} (hpost : ∀ tb e args s v u, (limb_1_1.after args s (.returned v) u = true ∧ limb_1_2.after args s (.returned v) u = true ∧ True) → FrameEnd s (.returned v) u (Jvm.fieldLocs frame_1_writes args s ++ Jvm.arrayLocs frame_1_arrays args s ++ Jvm.staticLocs frame_1_statics s) 16 128 → Post tb e args s (.returned v) u) :
    ArmFor flags0 classFile x code maxLocals ret World_1 tables_1 room_1 Calls_1 rest_1 Pre_1 Post := by
  intro l hfl _ _ p e ha hc hk s m args below hf hA hF happ hP
  obtain ⟨hcalls, hrest, hpre⟩ := hP
  obtain ⟨-, -, -, hnamed, -, -, -, hat⟩ := (Spec.applies_iff hf).mp happ
  obtain ⟨hg, hn⟩ := and_e (Cond.before_iff.mp (show (Jvm.Cond.and given_1 narrow_1).before args s = true from hpre))
  obtain ⟨hg0, hg⟩ := and_e hg
  obtain ⟨ga0, hg⟩ := and_e hg
  have ga1 := hg
  obtain ⟨w0, w1, rfl⟩ : ∃ w0 w1 : Value, args = #[w0, w1] := by
    have hs : args.size = 2 := by simpa [Cond.value, given_1] using hg0
    obtain ⟨L⟩ := args
    match L, hs with
    | [w0, w1], _ => exact ⟨w0, w1, rfl⟩
  have hw := fun d (hd : d ∈ tables_1) => atoms_spec (ws := Jvm.Cond.code x code maxLocals ret :: tables_1) hat d (List.mem_cons_of_mem _ hd)
  have hfit : Fit s := fun {y c} hc i hi => by
    obtain ⟨ha, rfl⟩ := Array.getElem?_eq_some_iff.mp hc
    have q := List.all_eq_true.mp ((Array.all_eq_true_iff_forall_mem.mp hF) _ (Array.getElem_mem ha)) i (List.mem_range.mpr hi)
    simpa [Array.getElem?_eq_getElem hi] using q
  obtain ⟨i0, ei0⟩ := is_v ga0
  obtain rfl : w0 = (.int i0) := Option.some.inj ei0
  obtain ⟨i1, ei1⟩ := is_v ga1
  obtain rfl : w1 = (.int i1) := Option.some.inj ei1
  obtain ⟨n, o, h1, h2, h3, _, L, rfl, ⟨rfl, N⟩, hq⟩ := own_rm_0 l s _ hw tables_1 i0 i1 s.heap s.heap.size (Nat.le_refl _) p e ha hc hk s m _ below hf ((Spec.applies_iff_loose hf).mp happ).1 ⟨rfl, State.Warmed39.refl s, rfl⟩ trivial
  refine ⟨n, _, h1, h2, h3, hpost _ _ _ _ _ _ ⟨Cond.after_iff.mpr rfl, Cond.after_iff.mpr (eq_i res_at (Term.int_eval (1)) rfl), trivial⟩ ⟨hq.1, hq.2.1, (hq.2.2.sift fun y hy => Or.inr (N y hy)).mono (by decide) (by decide)⟩⟩
theorem main_1_1 : Claimed_1_1 := own_comes_1 fun _ _ _ _ _ _ h hF => ⟨h.1, hF⟩
theorem main_1_2 : Claimed_1_2 := own_comes_1 fun _ _ _ _ _ _ h hF => ⟨h.2.1, hF⟩
end Jvm.Pilot.@@N@@
namespace Jvm.Pilot.@@N@@
open Jvm Jvm.ClassFile Sem Op Lib Jvm.Free Jvm.Stand Jvm.Pilot.@@N@@.Jvm.D
/-! MADE BY PROGRAM (witnessworld.py) out of the Statement's table words and the real class files: 19 classes; the members and pool entries that the words name. The judged class is class 1, her method 1. -/
namespace start1
open Jvm.ClassFile
def u (s : String) : CpInfo := .utf8 (stringToUtf16 s)
/-- a pool by its gaps: so many unusable entries, then the entry; so many at the end -/
def gap : Nat → List CpInfo → List CpInfo
  | 0, r => r
  | n + 1, r => .unusable :: gap n r
def poolList (es : List (Nat × CpInfo)) (last : Nat) : List CpInfo := es.foldr (fun e r => gap e.1 (e.2 :: r)) (gap last [])
def pool (es : List (Nat × CpInfo)) (last : Nat) : Array CpInfo := ⟨poolList es last⟩
def fileOf (pool : Array CpInfo) (this : Nat) (attrs : Array Attribute := #[]) (ms : Array MethodInfo := #[]) (fl : Nat := 33) (sup : Nat := 0) (ifs : Array Nat := #[]) (fds : Array FieldInfo := #[]) : ClassFile where
  minorVersion := 0
  majorVersion := 65
  constantPool := pool
  accessFlags := fl
  thisClass := this
  superClass := sup
  interfaces := ifs
  fields := fds
  methods := ms
  attributes := attrs
def plain (name : String) (sup : Option ClassId) : Class where
  name := name
  kind := .ordinary
  loader := none
  accessFlags := 33
  super := sup
  interfaces := #[]
  cf := none
  fields := #[]
  methods := #[]
  instanceTypes := #[]
  staticTypes := #[]
  resolved := #[]
  callSites := []
  init := .initialized
  statics := none
  mirror := none

def pool0 : Array CpInfo := pool [(5, u "<init>"), (0, u "()V"), (1, .class_ 10), (1, u "java/lang/Object")] 113

def k0m0 : Method := { name := "<init>", desc := "()V", sig := { parameters := [], returnType := none }, accessFlags := 1, code := none }
/-- java/lang/Object -/
def k0 : Class := { plain "java/lang/Object" none with
  accessFlags := 33
  interfaces := #[]
  cf := some (fileOf pool0 8 #[] #[{ accessFlags := 1, nameIndex := 5, descriptorIndex := 6, attributes := #[] }] 33 0 #[] #[])
  fields := #[]
  methods := #[k0m0]
  instanceTypes := #[]
  staticTypes := #[]
  resolved := Array.replicate 124 none
  statics := none }

def pool1 : Array CpInfo := pool [(2, .class_ 4), (1, u "java/lang/Object"), (0, u "<init>"), (0, u "()V"), (0, .class_ 8), (0, u "java/lang/String"), (0, .methodref 10 11), (0, .class_ 12), (0, .nameAndType 13 14), (0, u "com/example/kreide/kreide/interpreter/Elements"), (0, u "length"), (0, u "(Ljava/lang/Object;)I"), (0, .class_ 16), (0, u "com/example/kreide/kreide/interpreter/ElementsLengthPinLaw"), (2, u "law"), (0, u "(II)Z")] 3

def k1m0 : Method := { name := "<init>", desc := "()V", sig := { parameters := [], returnType := none }, accessFlags := 1, code := none }
def k1c1 : Code := { maxStack := 2, maxLocals := 5, code := code, exceptionTable := #[], attributes := #[] }
def k1m1 : Method := { name := "law", desc := "(II)Z", sig := { parameters := [.int, .int], returnType := some .boolean }, accessFlags := 9, code := some k1c1 }
/-- com/example/kreide/kreide/interpreter/ElementsLengthPinLaw -/
def k1 : Class := { plain "com/example/kreide/kreide/interpreter/ElementsLengthPinLaw" (some 0) with
  accessFlags := 49
  interfaces := #[]
  cf := some (fileOf pool1 15 #[] #[{ accessFlags := 1, nameIndex := 5, descriptorIndex := 6, attributes := #[] }, { accessFlags := 9, nameIndex := 19, descriptorIndex := 20, attributes := #[] }] 49 2 #[] #[])
  fields := #[]
  methods := #[k1m0, k1m1]
  instanceTypes := #[]
  staticTypes := #[]
  resolved := Array.replicate 24 none
  statics := none }

def pool2 : Array CpInfo := pool [(2, .class_ 4), (1, u "java/lang/Object"), (0, u "<init>"), (0, u "()V"), (1, .class_ 10), (1, u "com/example/kreide/kreide/interpreter/Elements$1"), (9, .class_ 22), (1, u "com/example/kreide/kreide/interpreter/Elements"), (41, .class_ 65), (0, u "[J"), (0, .class_ 67), (0, u "[D"), (0, .class_ 69), (0, u "[Z"), (0, .class_ 71), (0, u "[Ljava/lang/String;"), (24, u "length"), (0, u "(Ljava/lang/Object;)I")] 20

def k2m0 : Method := { name := "<init>", desc := "()V", sig := { parameters := [], returnType := none }, accessFlags := 2, code := none }
def k2c1 : Code := { maxStack := 1, maxLocals := 5, code := prog_15_method_6_code, exceptionTable := #[], attributes := #[] }
def k2m1 : Method := { name := "length", desc := "(Ljava/lang/Object;)I", sig := { parameters := [(.object "java/lang/Object")], returnType := some .int }, accessFlags := 8, code := some k2c1 }
/-- com/example/kreide/kreide/interpreter/Elements -/
def k2 : Class := { plain "com/example/kreide/kreide/interpreter/Elements" (some 0) with
  accessFlags := 48
  interfaces := #[]
  cf := some (fileOf pool2 20 #[.nestMembers #[8]] #[{ accessFlags := 2, nameIndex := 5, descriptorIndex := 6, attributes := #[] }, { accessFlags := 8, nameIndex := 96, descriptorIndex := 97, attributes := #[] }] 48 2 #[] #[])
  fields := #[]
  methods := #[k2m0, k2m1]
  instanceTypes := #[]
  staticTypes := #[]
  resolved := Array.replicate 118 none
  statics := none }

def pool3 : Array CpInfo := pool [(1, .class_ 2), (0, u "java/io/Serializable"), (0, .class_ 4), (0, u "java/lang/Object")] 2

/-- java/io/Serializable -/
def k3 : Class := { plain "java/io/Serializable" (some 0) with
  accessFlags := 1537
  interfaces := #[]
  cf := some (fileOf pool3 1 #[] #[] 1537 3 #[] #[])
  fields := #[]
  methods := #[]
  instanceTypes := #[]
  staticTypes := #[]
  resolved := Array.replicate 7 none
  statics := none }

def pool4 : Array CpInfo := pool [(1, .class_ 2), (0, u "java/lang/Comparable"), (0, .class_ 4), (0, u "java/lang/Object")] 7

/-- java/lang/Comparable -/
def k4 : Class := { plain "java/lang/Comparable" (some 0) with
  accessFlags := 1537
  interfaces := #[]
  cf := some (fileOf pool4 1 #[] #[] 1537 3 #[] #[])
  fields := #[]
  methods := #[]
  instanceTypes := #[]
  staticTypes := #[]
  resolved := Array.replicate 12 none
  statics := none }

def pool5 : Array CpInfo := pool [(2, .class_ 4), (1, u "java/lang/CharSequence"), (42, .class_ 48), (0, u "java/lang/CharSequence$1CodePointIterator"), (10, .class_ 60), (0, u "java/lang/CharSequence$1CharIterator"), (5, .class_ 67), (0, u "java/lang/Object")] 63

/-- java/lang/CharSequence -/
def k5 : Class := { plain "java/lang/CharSequence" (some 0) with
  accessFlags := 1537
  interfaces := #[]
  cf := some (fileOf pool5 2 #[.nestMembers #[47, 59]] #[] 1537 66 #[] #[])
  fields := #[]
  methods := #[]
  instanceTypes := #[]
  staticTypes := #[]
  resolved := Array.replicate 131 none
  statics := none }

def pool6 : Array CpInfo := pool [(1, .class_ 2), (0, u "java/lang/constant/Constable"), (0, .class_ 4), (0, u "java/lang/Object")] 6

/-- java/lang/constant/Constable -/
def k6 : Class := { plain "java/lang/constant/Constable" (some 0) with
  accessFlags := 1537
  interfaces := #[]
  cf := some (fileOf pool6 1 #[] #[] 1537 3 #[] #[])
  fields := #[]
  methods := #[]
  instanceTypes := #[]
  staticTypes := #[]
  resolved := Array.replicate 11 none
  statics := none }

def pool7 : Array CpInfo := pool [(1, .class_ 2), (0, u "java/lang/constant/ConstantDesc"), (0, .class_ 4), (0, u "java/lang/Object")] 32

/-- java/lang/constant/ConstantDesc -/
def k7 : Class := { plain "java/lang/constant/ConstantDesc" (some 0) with
  accessFlags := 1537
  interfaces := #[]
  cf := some (fileOf pool7 1 #[] #[] 1537 3 #[] #[])
  fields := #[]
  methods := #[]
  instanceTypes := #[]
  staticTypes := #[]
  resolved := Array.replicate 37 none
  statics := none }

def pool8 : Array CpInfo := pool [(2, .class_ 4), (1, u "java/lang/Object"), (0, u "<init>"), (0, u "()V"), (3, .class_ 12), (1, u "java/lang/String"), (0, u "value"), (0, u "[B"), (2, u "coder"), (0, u "B"), (2, u "hash"), (0, u "I"), (2, u "hashIsZero"), (0, u "Z"), (13, u "COMPACT_STRINGS"), (534, .class_ 576), (0, u "java/lang/CharSequence"), (22, u "CASE_INSENSITIVE_ORDER"), (0, u "Ljava/util/Comparator;"), (500, u "serialPersistentFields"), (0, u "[Ljava/io/ObjectStreamField;"), (0, .class_ 1104), (0, u "java/lang/String$CaseInsensitiveComparator"), (1, .class_ 1107), (0, u "java/io/Serializable"), (0, .class_ 1109), (0, u "java/lang/Comparable"), (0, .class_ 1111), (0, u "java/lang/constant/Constable"), (0, .class_ 1113), (0, u "java/lang/constant/ConstantDesc"), (2, u "serialVersionUID"), (0, u "J"), (3, u "REPL"), (0, u "C"), (2, u "LATIN1"), (1, u "UTF16")] 323

def k8m0 : Method := { name := "<init>", desc := "()V", sig := { parameters := [], returnType := none }, accessFlags := 1, code := none }
/-- java/lang/String -/
def k8 : Class := { plain "java/lang/String" (some 0) with
  accessFlags := 49
  interfaces := #[3, 4, 5, 6, 7]
  cf := some (fileOf pool8 10 #[.nestMembers #[1103]] #[{ accessFlags := 1, nameIndex := 5, descriptorIndex := 6, attributes := #[] }] 49 2 #[1106, 1108, 575, 1110, 1112] #[{ accessFlags := 18, nameIndex := 13, descriptorIndex := 14, attributes := #[] }, { accessFlags := 18, nameIndex := 17, descriptorIndex := 18, attributes := #[] }, { accessFlags := 2, nameIndex := 21, descriptorIndex := 22, attributes := #[] }, { accessFlags := 2, nameIndex := 25, descriptorIndex := 26, attributes := #[] }, { accessFlags := 26, nameIndex := 1116, descriptorIndex := 1117, attributes := #[] }, { accessFlags := 24, nameIndex := 40, descriptorIndex := 26, attributes := #[] }, { accessFlags := 26, nameIndex := 1101, descriptorIndex := 1102, attributes := #[] }, { accessFlags := 26, nameIndex := 1121, descriptorIndex := 1122, attributes := #[] }, { accessFlags := 25, nameIndex := 599, descriptorIndex := 600, attributes := #[] }, { accessFlags := 24, nameIndex := 1125, descriptorIndex := 18, attributes := #[] }, { accessFlags := 24, nameIndex := 1127, descriptorIndex := 18, attributes := #[] }])
  fields := #[{ name := "value", type := (.array .byte), accessFlags := 18, slot := 0, constantValue := 0 }, { name := "coder", type := .byte, accessFlags := 18, slot := 1, constantValue := 0 }, { name := "hash", type := .int, accessFlags := 2, slot := 2, constantValue := 0 }, { name := "hashIsZero", type := .boolean, accessFlags := 2, slot := 3, constantValue := 0 }, { name := "serialVersionUID", type := .long, accessFlags := 26, slot := 0, constantValue := 0 }, { name := "COMPACT_STRINGS", type := .boolean, accessFlags := 24, slot := 1, constantValue := 0 }, { name := "serialPersistentFields", type := (.array (.object "java/io/ObjectStreamField")), accessFlags := 26, slot := 2, constantValue := 0 }, { name := "REPL", type := .char, accessFlags := 26, slot := 3, constantValue := 0 }, { name := "CASE_INSENSITIVE_ORDER", type := (.object "java/util/Comparator"), accessFlags := 25, slot := 4, constantValue := 0 }, { name := "LATIN1", type := .byte, accessFlags := 24, slot := 5, constantValue := 0 }, { name := "UTF16", type := .byte, accessFlags := 24, slot := 6, constantValue := 0 }]
  methods := #[k8m0]
  instanceTypes := #[(.array .byte), .byte, .int, .boolean]
  staticTypes := #[.long, .boolean, (.array (.object "java/io/ObjectStreamField")), .char, (.object "java/util/Comparator"), .byte, .byte]
  resolved := Array.replicate 1451 none
  statics := none }

def pool9 : Array CpInfo := pool [(1, u "java/lang/Cloneable"), (0, .class_ 1), (0, u "java/lang/Object"), (0, .class_ 3)] 3

/-- java/lang/Cloneable -/
def k9 : Class := { plain "java/lang/Cloneable" (some 0) with
  accessFlags := 1537
  interfaces := #[]
  cf := some (fileOf pool9 2 #[] #[] 1537 4 #[] #[])
  fields := #[]
  methods := #[]
  instanceTypes := #[]
  staticTypes := #[]
  resolved := Array.replicate 8 none
  statics := none }

/-- the primitive boolean -/
def k10 : Class := { plain "boolean" none with kind := .primitive 'Z', accessFlags := 0x411 }
/-- [Z -/
def k11 : Class := { plain "[Z" (some 0) with kind := .array 10 .boolean, interfaces := #[9, 3], accessFlags := 1041 }

/-- the primitive byte -/
def k12 : Class := { plain "byte" none with kind := .primitive 'B', accessFlags := 0x411 }
/-- [B -/
def k13 : Class := { plain "[B" (some 0) with kind := .array 12 .byte, interfaces := #[9, 3], accessFlags := 1041 }

/-- the primitive int -/
def k14 : Class := { plain "int" none with kind := .primitive 'I', accessFlags := 0x411 }
/-- [I -/
def k15 : Class := { plain "[I" (some 0) with kind := .array 14 .int, interfaces := #[9, 3], accessFlags := 1041 }

/-- the primitive long -/
def k16 : Class := { plain "long" none with kind := .primitive 'J', accessFlags := 0x411 }
/-- [J -/
def k17 : Class := { plain "[J" (some 0) with kind := .array 16 .long, interfaces := #[9, 3], accessFlags := 1041 }

/-- [Ljava/lang/String; -/
def k18 : Class := { plain "[Ljava/lang/String;" (some 0) with kind := .array 8 (.object "java/lang/String"), interfaces := #[9, 3], accessFlags := 1041 }

/-- the primitive double -/
def k19 : Class := { plain "double" none with kind := .primitive 'D', accessFlags := 0x411 }
/-- [D -/
def k20 : Class := { plain "[D" (some 0) with kind := .array 19 .double, interfaces := #[9, 3], accessFlags := 1041 }

def heap : Heap := #[]
def classes : Array Class := #[k0, k1, k2, k3, k4, k5, k6, k7, k8, k9, k10, k11, k12, k13, k14, k15, k16, k17, k18, k19, k20]
def interned : List (Array UInt16 × Addr) := []
def slotsUsed : Nat := 0
def theMethod : MethodId := ⟨1, 1⟩
def args0 : Array Value := #[.int 5, .int 5]
def aboutOver (below : List Frame) : State where
  vm := { classes := classes, interned := interned.toArray }
  heap := heap
  slotsUsed := slotsUsed
  threads := #[{ frames := .invoking theMethod args0 :: below }]
def below0 : List Frame := [.native { method := ⟨0, 0⟩, args := #[] }]
def about1 : State := aboutOver below0
def p0 : Program := .bare "" "" ""
def e0 : Env := launch0.env 0 0 0
theorem w_frames : about1.frames = Frame.invoking theMethod args0 :: below0 := rfl
set_option maxRecDepth 65536 in
theorem w_args : argsFit about1.vm theMethod args0 = true := by decide +kernel
set_option maxRecDepth 65536 in
theorem w_heap : heapFits about1 = true := by decide +kernel
set_option maxRecDepth 65536 in
theorem w_runnable : about1.curStatus? = some .runnable := by decide +kernel
set_option maxRecDepth 65536 in
theorem w_alone : about1.alone = true := by decide +kernel
set_option maxRecDepth 65536 in
theorem w_named : about1.methodNamed? x = some theMethod := by decide +kernel
set_option maxRecDepth 65536 in
theorem w_hears : about1.hears theMethod below0 = true := by decide +kernel
set_option maxRecDepth 65536 in
theorem w_ripe : about1.ripe theMethod args0 below0 = true := by decide +kernel
theorem w_running : about1.status = .running := rfl
set_option maxRecDepth 65536 in
theorem w_room : about1.hasRoom e0.platform room_1 = true :=
  launch0.hasRoom_least _ room_1 (by decide +kernel) (by decide +kernel) (by decide +kernel) (by decide +kernel) (by decide +kernel) (by decide +kernel)
theorem allAtoms_all (ts : List Jvm.Cond) (a : Array Jvm.Value) (st : Jvm.State) : (allAtoms ts).before a st = ts.all (fun c => c.before a st) := by
  induction ts with
  | nil => rfl
  | cons c t ih =>
    show (Jvm.Cond.and c (allAtoms t)).before a st = _
    rw [Jvm.Cond.before_and, ih, List.all_cons]
def words1 : List Jvm.Cond := Jvm.Cond.code x code maxLocals ret :: tables_1
/-- a 'code' word, met by the world's own term for the bytes: nothing is compared byte by byte -/
theorem code_word {y : MethodName} {bytes : ByteArray} {mx : Nat} {rt : Option FieldType} {a : Array Value} {s : State} {m : MethodId} {meth : Method} {c : Code} (h1 : s.methodNamed? y = some m) (h2 : s.vm.method? m = some meth) (h3 : meth.code = some c) (h4 : c.code = bytes)
    (h5 : (c.maxLocals == mx && c.exceptionTable.isEmpty && decide (c.maxStack ≤ mostOperands) && decide (meth.sig.returnType = rt) && !meth.locks && decide (parseMethodDescriptor y.desc = some meth.sig)) = true) : (Jvm.Cond.code y bytes mx rt).before a s = true := by
  simp only [Bool.and_eq_true, beq_iff_eq, Bool.not_eq_true', decide_eq_true_eq] at h5
  obtain ⟨⟨⟨⟨⟨g1, g2⟩, g3⟩, g4⟩, g5⟩, g6⟩ := h5
  simp [Cond.before, Cond.holds, Cond.value, h1, h2, h3, h4, g1, g2, g3, g4, g5, g6]
def isCode : Jvm.Cond → Bool
  | .code _ _ _ _ => true
  | _ => false
theorem all_split {L : List Jvm.Cond} {P : Jvm.Cond → Bool} (h1 : L.all (fun c => isCode c || P c) = true) (h2 : ∀ c ∈ L.filter isCode, P c = true) : L.all P = true := by
  refine List.all_eq_true.mpr fun c hc => ?_
  have h := List.all_eq_true.mp h1 c hc
  rcases Bool.eq_false_or_eq_true (isCode c) with hi | hi
  · exact h2 c (List.mem_filter.mpr ⟨hc, hi⟩)
  · simpa [hi] using h
set_option maxRecDepth 65536 in
theorem w_c0 : (Jvm.Cond.code x code maxLocals ret).before args0 about1 = true := code_word (m := ⟨1, 1⟩) (meth := k1m1) (c := k1c1) (by decide +kernel) rfl rfl rfl (by decide +kernel)
set_option maxRecDepth 65536 in
theorem w_c1 : (Jvm.Cond.code ({ cls := "com/example/kreide/kreide/interpreter/Elements", name := "length", desc := "(Ljava/lang/Object;)I" } : Jvm.MethodName) prog_15_method_6_code (5 : Nat) (Option.some Jvm.ClassFile.FieldType.int)).before args0 about1 = true := code_word (m := ⟨2, 1⟩) (meth := k2m1) (c := k2c1) (by decide +kernel) rfl rfl rfl (by decide +kernel)
def codes1 : List Jvm.Cond := [Jvm.Cond.code x code maxLocals ret, Jvm.Cond.code ({ cls := "com/example/kreide/kreide/interpreter/Elements", name := "length", desc := "(Ljava/lang/Object;)I" } : Jvm.MethodName) prog_15_method_6_code (5 : Nat) (Option.some Jvm.ClassFile.FieldType.int)]
set_option maxRecDepth 65536 in
theorem codes_eq : words1.filter isCode = codes1 := rfl
theorem w_codes : ∀ c ∈ words1.filter isCode, c.before args0 about1 = true := by
  rw [codes_eq]
  intro c hc
  simp only [codes1, List.mem_cons, List.not_mem_nil, or_false] at hc
  rcases hc with rfl | rfl
  · exact w_c0
  · exact w_c1
set_option maxRecDepth 65536 in
theorem w_t1 : words1.all (fun c => isCode c || c.before args0 about1) = true := by decide +kernel
theorem w_tables : (allAtoms (Jvm.Cond.code x code maxLocals ret :: tables_1)).before args0 about1 = true := by
  rw [allAtoms_all]
  show words1.all (fun c => c.before args0 about1) = true
  refine all_split ?_ w_codes
  rw [w_t1]
set_option maxRecDepth 65536 in
theorem w_case : (Jvm.Cond.and given_1 narrow_1).before args0 about1 = true := by decide +kernel
theorem w_applies : (headSpec (Jvm.Cond.code x code maxLocals ret :: tables_1) room_1).applies x e0.platform about1 = true :=
  (Spec.applies_iff w_frames).mpr ⟨w_running, w_runnable, w_alone, w_named, w_hears, w_ripe, w_room, w_tables⟩
theorem atStart : AtStart classFile x code maxLocals ret World_1 tables_1 room_1 Calls_1 rest_1 Pre_1 launch0 p0 e0 about1 theMethod args0 below0 :=
  ⟨lists_1, trivial, launch0.admits_env _ _ _, launch0.least_env, fairChoices_fair.cas, fairChoices_fair.clock, w_frames, w_args, w_heap, w_applies, trivial, trivial, w_case⟩
end start1
theorem witness_1 : WitnessClaimed_1 := ⟨start1.p0, start1.e0, start1.about1, start1.theMethod, start1.args0, start1.below0, start1.atStart⟩
end Jvm.Pilot.@@N@@
