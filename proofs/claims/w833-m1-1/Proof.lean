import JvmDerived
import JvmDerived.Pilot.@@N@@Statement
import JvmDerived.Pilot.@@N@@Code
set_option linter.unusedVariables false
set_option linter.unusedSimpArgs false
namespace Jvm.Pilot.@@N@@
open Jvm Jvm.ClassFile Sem Op Lib Jvm.Free Jvm.Stand Jvm.LawKit Jvm.RoadKit Bundle Jvm.Pilot.@@N@@.Jvm.D
section OwnKit
variable {p : Program} {l : Launch} {e : Env} {R : Room} {s : State} {m : MethodId} {args : Array Value} {below : List Frame} {meth : Method} {c : Code} {T T' : State} {locs : List Loc} {cells slots : Nat}
/-- from the frame f in the state T the run comes to the method's end, and G holds there -/
def own_Goes (p : Program) (e : Env) (below : List Frame) (G : Outcome → State → Prop) (T : State) (f : JFrame) : Prop :=
  ∃ s₂ o, Steps p.tables e below (T.setTop f) s₂ ∧ s₂.status = .running ∧ Ended s₂ below o ∧ G o s₂
theorem own_of {G : Outcome → State → Prop} {f f' : JFrame} (st : ∀ t, Steps p.tables e below (T'.setTop f') t → Steps p.tables e below (T.setTop f) t) (h : own_Goes p e below G T' f') : own_Goes p e below G T f := by
  obtain ⟨s₂, o, h1, h2⟩ := h
  exact ⟨s₂, o, st _ h1, h2⟩
theorem own_start {G : Outcome → State → Prop} {f f' : JFrame} (q : f = f') (h : own_Goes p e below G T f') : ∃ s₂ o, Steps p.tables e below (T.setTop f) s₂ ∧ s₂.status = .running ∧ Ended s₂ below o ∧ G o s₂ := q ▸ h
theorem own_retI (X : Stand p l e R s m args below meth c T locs cells slots) (hx : p.tables.exec = Jvm.exec) {pc : Nat} {Ls : Array Slot} {z : Int32} {rest : List Value} (hret : meth.sig.returnType = some .int) (hd : decode c.code pc = .ok (.ireturn, 1)) {fs : List Frame}
    (hl : ∀ (f : JFrame) (acts : List Action), f.method = m → f.locked = none → f.entered = [] → (doReturn e (T.setTop f) acts (some (.int z))).1 = T.setFrames fs) : Steps p.tables e below (T.setTop (mkF m pc Ls (.int z :: rest))) (T.setFrames fs) :=
  retOut X hx hret rfl (Or.inl ⟨rfl, Or.inl rfl, _, rfl⟩) hd hl
theorem own_retJ (X : Stand p l e R s m args below meth c T locs cells slots) (hx : p.tables.exec = Jvm.exec) {pc : Nat} {Ls : Array Slot} {z : Int64} {rest : List Value} (hret : meth.sig.returnType = some .long) (hd : decode c.code pc = .ok (.lreturn, 1)) {fs : List Frame}
    (hl : ∀ (f : JFrame) (acts : List Action), f.method = m → f.locked = none → f.entered = [] → (doReturn e (T.setTop f) acts (some (.long z))).1 = T.setFrames fs) : Steps p.tables e below (T.setTop (mkF m pc Ls (.long z :: rest))) (T.setFrames fs) :=
  retOut X hx hret rfl (Or.inr (Or.inl ⟨rfl, rfl, _, rfl⟩)) hd hl
theorem own_retD (X : Stand p l e R s m args below meth c T locs cells slots) (hx : p.tables.exec = Jvm.exec) {pc : Nat} {Ls : Array Slot} {z : UInt64} {rest : List Value} (hret : meth.sig.returnType = some .double) (hd : decode c.code pc = .ok (.dreturn, 1)) {fs : List Frame}
    (hl : ∀ (f : JFrame) (acts : List Action), f.method = m → f.locked = none → f.entered = [] → (doReturn e (T.setTop f) acts (some (.double z))).1 = T.setFrames fs) : Steps p.tables e below (T.setTop (mkF m pc Ls (.double z :: rest))) (T.setFrames fs) :=
  retOut X hx hret rfl (Or.inr (Or.inr (Or.inl ⟨rfl, rfl, _, rfl⟩))) hd hl
theorem own_retA (X : Stand p l e R s m args below meth c T locs cells slots) (hx : p.tables.exec = Jvm.exec) {pc : Nat} {Ls : Array Slot} {z : Value} {rest : List Value} {t : FieldType} (hret : meth.sig.returnType = some t) (ht : t.isReference = true) (hn : narrow t z = z) (hz : z.isRef = true) (hd : decode c.code pc = .ok (.areturn, 1)) {fs : List Frame}
    (hl : ∀ (f : JFrame) (acts : List Action), f.method = m → f.locked = none → f.entered = [] → (doReturn e (T.setTop f) acts (some z)).1 = T.setFrames fs) : Steps p.tables e below (T.setTop (mkF m pc Ls (z :: rest))) (T.setFrames fs) :=
  retOut X hx hret hn (Or.inr (Or.inr (Or.inr (Or.inr ⟨rfl, ht, hz⟩)))) hd hl
theorem own_stakeep {Z : State} {h h' : Heap} {C n d : String} {v : Value} {ws : List Addr} (F : Sta Z h C n d v) (K : Keep h h' ws) (q : ∀ x ∈ ws, ∀ cell : Cell, h[x]? = some cell → cell.vm.isStatics = false) : Sta Z h' C n d v := by
  obtain ⟨cf, i, k, f, st, cell, h1, h2, h3, h4, h5, h6, h7⟩ := F
  exact ⟨cf, i, k, f, st, cell, h1, h2, h3, h4, K.2.1 st cell h5 (fun z => by rw [q st z cell h5] at h6; cases h6), h6, h7⟩
theorem own_plainE {Z : State} {h : Heap} {a : Addr} {C : String} (F : Exa Z h a C) : ∀ cell : Cell, h[a]? = some cell → cell.vm.isStatics = false := fun cell hc => by
  obtain ⟨c', k, h1, -, -, h4, -⟩ := F
  cases h1.symm.trans hc
  exact h4
theorem own_noI {Z : State} {a0 : Array Value} {C K O : String} {n : Nat} (w : (Jvm.Cond.superclass C O).before a0 Z = true) (wo : (Jvm.Cond.noSuperclass O).before a0 Z = true) (wi : (Jvm.Cond.instantiable K n).before a0 Z = true) (hn : C ≠ K) (ho : O ≠ K) : ∃ c t, Z.vm.findClass C = some c ∧ Z.vm.findClass K = some t ∧ Z.vm.assignable c t = false := by
  obtain ⟨t, kt, g0, g2, g5, g7, -, -⟩ := Cond.instantiable_spec wi
  simp only [Bool.or_eq_false_iff] at g7
  obtain ⟨oc, ok, o1, o2, o3, -, -⟩ := Cond.noSuperclass_spec wo
  obtain ⟨c, h0⟩ := found_sup w
  obtain ⟨p, k, kp, h1, h2, h3, h4, h5, -, h7⟩ := Cond.superclass_spec h0 w
  cases o1.symm.trans h1
  have ne := ids_ne h0 g0 hn
  have neo := ids_ne o1 g0 ho
  have n3 : ∀ fuel, Z.vm.isSubclassAux fuel c t = false := fun fuel => by
    cases fuel with
    | zero => rfl
    | succ f =>
      have n4 : Z.vm.isSubclassAux f oc t = false := by
        cases f with
        | zero => rfl
        | succ f => simp [Vm.isSubclassAux, neo, o2, o3]
      simp [Vm.isSubclassAux, ne, h2, h4, n4]
  refine ⟨c, t, h0, g0, ?_⟩
  show Z.vm.assignableAux (255 + 1) c t = false
  simp [Vm.assignableAux, ne, h2, g2, h5, g5, g7, Vm.isSubclass, n3]
theorem own_ask {Z : State} {a0 : Array Value} {h : Heap} {a : Addr} {C K : String} (E : Exa Z h a C) (w : (Jvm.Cond.castable K K).before a0 Z = true) : Ins Z h a K true ∨ ∃ c t, Z.vm.findClass C = some c ∧ Z.vm.findClass K = some t ∧ Z.vm.assignable c t = false := by
  obtain ⟨cell, k, h1, h2, h3, h4, -⟩ := E
  cases ht : Z.vm.findClass K with
  | none => simp [Cond.before, Cond.holds, Cond.value, ht] at w
  | some t =>
    cases ha : Z.vm.assignable cell.cls t with
    | true => exact Or.inl ⟨cell, t, h1, ht, by rw [h4, ha]; rfl⟩
    | false => exact Or.inr ⟨cell.cls, t, h2, rfl, ha⟩
theorem own_dupX2 {tb : Tables} [Ours tb] {e : Env} {below : List Frame} {T target : State} {m : MethodId} {c : Code} {g : JFrame} (h : At T m c below) (hx : tb.exec = Jvm.exec) (hg : g.method = m) {x y z : Value} {rest : List Value} (hd : decode c.code g.pc = .ok (.dup_x2, 1)) (hs : g.stack = x :: y :: z :: rest) (hc : x.category = 1) (hc' : y.category = 1) (hc'' : z.category = 1)
    (hr : Steps tb e below (T.setTop { g with pc := g.pc + 1, stack := x :: y :: z :: x :: rest }) target) : Steps tb e below (T.setTop g) target := by
  subst hg
  jvm_step h [h.top, hx, hd, hs, hc, hc', hc'']
  exact hr
theorem own_dz : FP.dconst0 = FP.l2d 0 := by decide +kernel
theorem own_cat1 {x : Value} (h : x.isRef = true) : x.category = 1 := by cases x <;> first | rfl | cases h
theorem own_astoreN {tb : Tables} [Ours tb] {e : Env} {below : List Frame} {T target : State} {m : MethodId} {c : Code} {g : JFrame} (h : At T m c below) (hx : tb.exec = Jvm.exec) (hg : g.method = m) {k : Fin 4} {x : Value} {rest : List Value} {o : Slot} {l' : Array Slot} (hd : decode c.code g.pc = .ok (.astore_n k, 1)) (hs : g.stack = x :: rest) (hv : x.isRef = true) (hold : g.locals[k.val]? = some o) (ho : One o) (hl : g.locals.setIfInBounds k.val (.val x) = l')
    (hr : Steps tb e below (T.setTop { g with pc := g.pc + 1, stack := rest, locals := l' }) target) : Steps tb e below (T.setTop g) target := XS.astoreN h hx hg hd hs hv (l' := l') (by rw [← hl]; exact XS.store1 hold ho (own_cat1 hv)) hr
theorem own_astore {tb : Tables} [Ours tb] {e : Env} {below : List Frame} {T target : State} {m : MethodId} {c : Code} {g : JFrame} (h : At T m c below) (hx : tb.exec = Jvm.exec) (hg : g.method = m) {k : Nat} {x : Value} {rest : List Value} {o : Slot} {l' : Array Slot} (hd : decode c.code g.pc = .ok (.astore k, 2)) (hs : g.stack = x :: rest) (hv : x.isRef = true) (hold : g.locals[k]? = some o) (ho : One o) (hl : g.locals.setIfInBounds k (.val x) = l')
    (hr : Steps tb e below (T.setTop { g with pc := g.pc + 2, stack := rest, locals := l' }) target) : Steps tb e below (T.setTop g) target := XS.astore h hx hg hd hs hv (l' := l') (by rw [← hl]; exact XS.store1 hold ho (own_cat1 hv)) hr
end OwnKit
theorem own_nn (x y : Int64) (h : x &&& (9223372036854775807 : Int64) = y) : ¬ y < (0 : Int64) := by
  have e : y.toInt = x.toInt % (2 ^ 63 : Nat) := by rw [← h]; exact c_maskL x _ 63 (by decide) (by decide)
  rw [Int64.lt_iff_toInt_lt]
  show ¬ y.toInt < 0
  omega
theorem own_nn2 (P : Prop) [Decidable P] (x y : Int64) (hx : ¬ x < (0 : Int64)) (hy : ¬ y < (0 : Int64)) : ¬ (if P then x else y) < (0 : Int64) := by split <;> assumption
theorem own_pn_0 : plainName "com/example/suspicion/suspicion/election/Robust$Alive" = true := by first | (simp [plainName, overriddenIn]; done) | decide +kernel
theorem own_ef_init (m : MethodId) (a1 : Addr) (p2 : Int32) (q3 : Int64) (q4 : Int64) : entryFrame m #[(.ref a1), (.int p2), (.long q3), (.long q4)] 6 = mkF m 0 #[.val (.ref a1), .val (.int p2), .val (.long q3), .second, .val (.long q4), .second] [] := by first | (simp [entryFrame, mkF, argsToLocals, Value.category]; done) | rfl
def own_Q_init (Z : State) (a1 : Addr) (p2 : Int32) (q3 : Int64) (q4 : Int64)  (h0 : Heap) (n0 : Nat) (v : Option Value) (h : Heap) (L : List Loc) : Prop := v = none ∧ Fr n0 L ∧ Keep h0 h [a1] ∧ Exa Z h a1 "com/example/suspicion/suspicion/election/Robust$Alive" ∧ Fld Z h a1 "com/example/suspicion/suspicion/election/Robust$Alive" "_leader" "I" (.int p2) ∧ Fld Z h a1 "com/example/suspicion/suspicion/election/Robust$Alive" "_leaderCounter" "J" (.long q3) ∧ Fld Z h a1 "com/example/suspicion/suspicion/election/Robust$Alive" "_senderCounter" "J" (.long q4)
theorem own_d_prog_45_method_1_code_0 : decode prog_45_method_1_code 0 = .ok (.aload_n 0, 1) := by decide +kernel
theorem own_d_prog_45_method_1_code_1 : decode prog_45_method_1_code 1 = .ok (.invokespecial 1, 3) := by decide +kernel
theorem own_d_prog_45_method_1_code_4 : decode prog_45_method_1_code 4 = .ok (.lload_n 2, 1) := by decide +kernel
theorem own_d_prog_45_method_1_code_5 : decode prog_45_method_1_code 5 = .ok (.lconst 0, 1) := by decide +kernel
theorem own_d_prog_45_method_1_code_6 : decode prog_45_method_1_code 6 = .ok (.lcmp, 1) := by decide +kernel
theorem own_d_prog_45_method_1_code_7 : decode prog_45_method_1_code 7 = .ok (.ifCond .lt 10, 3) := by decide +kernel
theorem own_d_prog_45_method_1_code_10 : decode prog_45_method_1_code 10 = .ok (.lload 4, 2) := by decide +kernel
theorem own_d_prog_45_method_1_code_12 : decode prog_45_method_1_code 12 = .ok (.lconst 0, 1) := by decide +kernel
theorem own_d_prog_45_method_1_code_13 : decode prog_45_method_1_code 13 = .ok (.lcmp, 1) := by decide +kernel
theorem own_d_prog_45_method_1_code_14 : decode prog_45_method_1_code 14 = .ok (.ifCond .ge 19, 3) := by decide +kernel
theorem own_d_prog_45_method_1_code_33 : decode prog_45_method_1_code 33 = .ok (.aload_n 0, 1) := by decide +kernel
theorem own_d_prog_45_method_1_code_34 : decode prog_45_method_1_code 34 = .ok (.iload_n 1, 1) := by decide +kernel
theorem own_d_prog_45_method_1_code_35 : decode prog_45_method_1_code 35 = .ok (.putfield 16, 3) := by decide +kernel
theorem own_d_prog_45_method_1_code_38 : decode prog_45_method_1_code 38 = .ok (.aload_n 0, 1) := by decide +kernel
theorem own_d_prog_45_method_1_code_39 : decode prog_45_method_1_code 39 = .ok (.lload_n 2, 1) := by decide +kernel
theorem own_d_prog_45_method_1_code_40 : decode prog_45_method_1_code 40 = .ok (.putfield 22, 3) := by decide +kernel
theorem own_d_prog_45_method_1_code_43 : decode prog_45_method_1_code 43 = .ok (.aload_n 0, 1) := by decide +kernel
theorem own_d_prog_45_method_1_code_44 : decode prog_45_method_1_code 44 = .ok (.lload 4, 2) := by decide +kernel
theorem own_d_prog_45_method_1_code_46 : decode prog_45_method_1_code 46 = .ok (.putfield 26, 3) := by decide +kernel
theorem own_d_prog_45_method_1_code_49 : decode prog_45_method_1_code 49 = .ok (.return_, 1) := by decide +kernel
set_option maxRecDepth 65536 in
set_option maxHeartbeats 40000000 in
theorem own_rm_init (l : Launch) (Z : State) (a0 : Array Value) (hw : ∀ d ∈ tables_1, d.before a0 Z = true) (ws : List Jvm.Cond) (a1 : Addr) (p2 : Int32) (q3 : Int64) (q4 : Int64)  (h0 : Heap) (n0 : Nat) (Z0 : n0 ≤ h0.size) (F0 : Fld Z h0 a1 "com/example/suspicion/suspicion/election/Robust$Alive" "_leader" "I" (.int 0)) (F1 : Fld Z h0 a1 "com/example/suspicion/suspicion/election/Robust$Alive" "_leaderCounter" "J" (.long 0)) (F2 : Fld Z h0 a1 "com/example/suspicion/suspicion/election/Robust$Alive" "_senderCounter" "J" (.long 0)) (E1 : Exa Z h0 a1 "com/example/suspicion/suspicion/election/Robust$Alive") (g_a1 : n0 ≤ a1) (hq3 : ¬ q3 < (0 : Int64)) (hq4 : ¬ q4 < (0 : Int64)) :
    MetFree l (⟨"com/example/suspicion/suspicion/election/Robust$Alive", "<init>", "(IJJ)V"⟩ : MethodName) (head1 (Jvm.Cond.code (⟨"com/example/suspicion/suspicion/election/Robust$Alive", "<init>", "(IJJ)V"⟩ : MethodName) prog_45_method_1_code 6 none :: ws) ({ frames := 1, cells := 0, slots := 0, locals := 12 } : Room)) (fun a U => a = #[(.ref a1), (.int p2), (.long q3), (.long q4)] ∧ Z.Warmed39 U.vm ∧ U.heap = h0) (fun _ _ _ _ _ => True) (fun _ U o U' => ∃ v L, o = .returned v ∧ own_Q_init Z a1 p2 q3 q4  h0 n0 v U'.heap L ∧ FrameEnd U o U' L ({ frames := 1, cells := 0, slots := 0, locals := 12 } : Room).cells ({ frames := 1, cells := 0, slots := 0, locals := 12 } : Room).slots) := by
  refine MetFree.of_bodySF (plainFor_of_name own_pn_0) hisR ?_
  intro p e s m args below meth c s₁ Bd hml0 hP hK
  obtain ⟨rfl, hZ, hh⟩ := hP
  have hx := Bd.exec
  have hby := Bd.bytes
  have hml : c.maxLocals = 6 := hml0
  have hown : s.vm.findClass "com/example/suspicion/suspicion/election/Robust$Alive" = some m.cls := findClass_of_methodNamed Bd.named
  have hnm := (name_of_methodNamed Bd.named Bd.method).1
  have X0 : Stand p l e ({ frames := 1, cells := 0, slots := 0, locals := 12 } : Room) s m #[(.ref a1), (.int p2), (.long q3), (.long q4)] below meth c s₁ [] 0 0 := Stand.of_body Bd
  have e0 : s₁.heap = h0 := by rw [← hh, Bd.state]; rfl
  have N0 := Fr.nil n0
  refine own_start (own_ef_init m a1 p2 q3 q4) ?_
  have K0 : Keep h0 h0 [a1] := Keep.refl _ _
  obtain ⟨T1, X1, e1, st1⟩ := initO X0 hx hZ hown (hw _ (List.mem_of_getElem? (i := 7) rfl)) (hw _ (List.mem_of_getElem? (i := 8) rfl)) (hw _ (List.mem_of_getElem? (i := 9) rfl)) e0 (g := (mkF m 1 #[.val (.ref a1), .val (.int p2), .val (.long q3), .second, .val (.long q4), .second] [(.ref a1)])) rfl (by rw [hml]; rfl) rfl (Jvm.hb hby own_d_prog_45_method_1_code_1) (by decide) (W := 0) (by show 2 * 0 + _ ≤ _; exact Nat.le_of_eq rfl) (by decide)
  refine own_of (T' := T1) (f' := (mkF m 13 #[.val (.ref a1), .val (.int p2), .val (.long q3), .second, .val (.long q4), .second] [(.long (0 : Int64)), (.long q4)])) (fun t_ k_ => (XS.aloadN X0.here hx rfl (Jvm.hb hby own_d_prog_45_method_1_code_0) rfl rfl (st1 _ (XS.lloadN X1.here hx rfl (Jvm.hb hby own_d_prog_45_method_1_code_4) rfl (XS.lconst X1.here hx rfl (Jvm.hb hby own_d_prog_45_method_1_code_5) (XS.lcmp X1.here hx rfl (Jvm.hb hby own_d_prog_45_method_1_code_6) rfl (XS.ifNo X1.here hx rfl (Jvm.hb hby own_d_prog_45_method_1_code_7) rfl ((if0 _ _).trans (flt (mt (lw_lt q3 (0 : Int64)).mp hq3)).1) (XS.lload X1.here hx rfl (Jvm.hb hby own_d_prog_45_method_1_code_10) rfl (XS.lconst X1.here hx rfl (Jvm.hb hby own_d_prog_45_method_1_code_12) k_))))))))) ?_
  obtain ⟨T2, h2, X2, e2, W2, st2⟩ := putF X1 hx hZ hown (host := "") (Or.inl (hw _ (List.mem_of_getElem? (i := 10) rfl))) Via.refl e1 F0 E1 (Or.inr ⟨(hw _ (List.mem_of_getElem? (i := 11) rfl)), rfl, hnm⟩) (hw _ (List.mem_of_getElem? (i := 2) rfl)) (ty := .int) (by decide) rfl rfl (g := (mkF m 35 #[.val (.ref a1), .val (.int p2), .val (.long q3), .second, .val (.long q4), .second] [(.int p2), (.ref a1)])) rfl rfl (Jvm.hb hby own_d_prog_45_method_1_code_35)
  refine own_of (T' := T2) (f' := (mkF m 38 #[.val (.ref a1), .val (.int p2), .val (.long q3), .second, .val (.long q4), .second] [])) (fun t_ k_ => (XS.lcmp X1.here hx rfl (Jvm.hb hby own_d_prog_45_method_1_code_13) rfl (XS.ifYes X1.here hx rfl (pc0 := 14) (pc' := 33) rfl (Jvm.hb hby own_d_prog_45_method_1_code_14) rfl ((if0 _ _).trans (flt (mt (lw_lt q4 (0 : Int64)).mp hq4)).2.1) (by decide) (by decide) (XS.aloadN X1.here hx rfl (Jvm.hb hby own_d_prog_45_method_1_code_33) rfl rfl (XS.iloadN X1.here hx rfl (Jvm.hb hby own_d_prog_45_method_1_code_34) rfl (st2 _ k_)))))) ?_
  have N2 := Fr.snoc X2 N0 g_a1
  have f3 := K0.wr W2 (Or.inl (List.mem_of_getElem? (i := 0) rfl))
  have f4 := E1.wr W2
  have f5 := F0.same W2
  have f6 := F1.other W2 (Or.inr (slot_ne (Or.inr (hw _ (List.mem_of_getElem? (i := 13) rfl))) (Or.inr (hw _ (List.mem_of_getElem? (i := 11) rfl))) (by decide) (t := .long) (t' := .int) (by decide) (by decide)))
  have f7 := F2.other W2 (Or.inr (slot_ne (Or.inr (hw _ (List.mem_of_getElem? (i := 15) rfl))) (Or.inr (hw _ (List.mem_of_getElem? (i := 11) rfl))) (by decide) (t := .long) (t' := .int) (by decide) (by decide)))
  obtain ⟨T8, h8, X8, e8, W8, st8⟩ := putF X2 hx hZ hown (host := "") (Or.inl (hw _ (List.mem_of_getElem? (i := 12) rfl))) Via.refl e2 f6 f4 (Or.inr ⟨(hw _ (List.mem_of_getElem? (i := 13) rfl)), rfl, hnm⟩) (hw _ (List.mem_of_getElem? (i := 2) rfl)) (ty := .long) (by decide) rfl rfl (g := (mkF m 40 #[.val (.ref a1), .val (.int p2), .val (.long q3), .second, .val (.long q4), .second] [(.long q3), (.ref a1)])) rfl rfl (Jvm.hb hby own_d_prog_45_method_1_code_40)
  refine own_of (T' := T8) (f' := (mkF m 43 #[.val (.ref a1), .val (.int p2), .val (.long q3), .second, .val (.long q4), .second] [])) (fun t_ k_ => (XS.aloadN X2.here hx rfl (Jvm.hb hby own_d_prog_45_method_1_code_38) rfl rfl (XS.lloadN X2.here hx rfl (Jvm.hb hby own_d_prog_45_method_1_code_39) rfl (st8 _ k_)))) ?_
  have N8 := Fr.snoc X8 N2 g_a1
  have f9 := f3.wr W8 (Or.inl (List.mem_of_getElem? (i := 0) rfl))
  have f10 := f4.wr W8
  have f11 := f5.other W8 (Or.inr (slot_ne (Or.inr (hw _ (List.mem_of_getElem? (i := 11) rfl))) (Or.inr (hw _ (List.mem_of_getElem? (i := 13) rfl))) (by decide) (t := .int) (t' := .long) (by decide) (by decide)))
  have f12 := f6.same W8
  have f13 := f7.other W8 (Or.inr (slot_ne (Or.inr (hw _ (List.mem_of_getElem? (i := 15) rfl))) (Or.inr (hw _ (List.mem_of_getElem? (i := 13) rfl))) (by decide) (t := .long) (t' := .long) (by decide) (by decide)))
  obtain ⟨T14, h14, X14, e14, W14, st14⟩ := putF X8 hx hZ hown (host := "") (Or.inl (hw _ (List.mem_of_getElem? (i := 14) rfl))) Via.refl e8 f13 f10 (Or.inr ⟨(hw _ (List.mem_of_getElem? (i := 15) rfl)), rfl, hnm⟩) (hw _ (List.mem_of_getElem? (i := 2) rfl)) (ty := .long) (by decide) rfl rfl (g := (mkF m 46 #[.val (.ref a1), .val (.int p2), .val (.long q3), .second, .val (.long q4), .second] [(.long q4), (.ref a1)])) rfl rfl (Jvm.hb hby own_d_prog_45_method_1_code_46)
  refine own_of (T' := T14) (f' := (mkF m 49 #[.val (.ref a1), .val (.int p2), .val (.long q3), .second, .val (.long q4), .second] [])) (fun t_ k_ => (XS.aloadN X8.here hx rfl (Jvm.hb hby own_d_prog_45_method_1_code_43) rfl rfl (XS.lload X8.here hx rfl (Jvm.hb hby own_d_prog_45_method_1_code_44) rfl (st14 _ k_)))) ?_
  have N14 := Fr.snoc X14 N8 g_a1
  have f15 := f9.wr W14 (Or.inl (List.mem_of_getElem? (i := 0) rfl))
  have f16 := f10.wr W14
  have f17 := f11.other W14 (Or.inr (slot_ne (Or.inr (hw _ (List.mem_of_getElem? (i := 11) rfl))) (Or.inr (hw _ (List.mem_of_getElem? (i := 15) rfl))) (by decide) (t := .int) (t' := .long) (by decide) (by decide)))
  have f18 := f12.other W14 (Or.inr (slot_ne (Or.inr (hw _ (List.mem_of_getElem? (i := 13) rfl))) (Or.inr (hw _ (List.mem_of_getElem? (i := 15) rfl))) (by decide) (t := .long) (t' := .long) (by decide) (by decide)))
  have f19 := f13.same W14
  obtain ⟨fs, hr, hrun, hended, hW, hsame⟩ := X14.leave (v := none) (fun _ => rfl)
  exact ⟨_, _, X14.returnOut hx Bd.returns (Jvm.hb hby own_d_prog_45_method_1_code_49) hr, hrun, hended, _, _, rfl, (by show own_Q_init Z a1 p2 q3 q4  h0 n0 _ T14.heap _; rw [e14]; exact ⟨rfl, N14, f15, f16, f17, f18, f19⟩), ⟨_, rfl⟩, hW, hsame.mono (by decide) (by decide)⟩
theorem own_ef_eqS (m : MethodId) (a1 : Addr) : entryFrame m #[(.ref a1), (.ref a1)] 3 = mkF m 0 #[.val (.ref a1), .val (.ref a1), .unset] [] := by first | (simp [entryFrame, mkF, argsToLocals, Value.category]; done) | rfl
def own_Q_eqS (Z : State) (a1 : Addr)  (h0 : Heap) (n0 : Nat) (v : Option Value) (h : Heap) (L : List Loc) : Prop := v = some (.int 1) ∧ Fr n0 L ∧ h = h0
theorem own_d_prog_45_method_5_code_0 : decode prog_45_method_5_code 0 = .ok (.aload_n 0, 1) := by decide +kernel
theorem own_d_prog_45_method_5_code_1 : decode prog_45_method_5_code 1 = .ok (.aload_n 1, 1) := by decide +kernel
theorem own_d_prog_45_method_5_code_2 : decode prog_45_method_5_code 2 = .ok (.if_acmp .ne 5, 3) := by decide +kernel
theorem own_d_prog_45_method_5_code_5 : decode prog_45_method_5_code 5 = .ok (.iconst 1, 1) := by decide +kernel
theorem own_d_prog_45_method_5_code_6 : decode prog_45_method_5_code 6 = .ok (.ireturn, 1) := by decide +kernel
set_option maxRecDepth 65536 in
set_option maxHeartbeats 40000000 in
theorem own_rm_eqS (l : Launch) (Z : State) (a0 : Array Value) (hw : ∀ d ∈ tables_1, d.before a0 Z = true) (ws : List Jvm.Cond) (a1 : Addr)  (h0 : Heap) (n0 : Nat) (Z0 : n0 ≤ h0.size)  :
    MetFree l (⟨"com/example/suspicion/suspicion/election/Robust$Alive", "equals", "(Ljava/lang/Object;)Z"⟩ : MethodName) (head1 (Jvm.Cond.code (⟨"com/example/suspicion/suspicion/election/Robust$Alive", "equals", "(Ljava/lang/Object;)Z"⟩ : MethodName) prog_45_method_5_code 3 (some .boolean) :: ws) ({ frames := 0, cells := 0, slots := 0, locals := 0 } : Room)) (fun a U => a = #[(.ref a1), (.ref a1)] ∧ Z.Warmed39 U.vm ∧ U.heap = h0) (fun _ _ _ _ _ => True) (fun _ U o U' => ∃ v L, o = .returned v ∧ own_Q_eqS Z a1  h0 n0 v U'.heap L ∧ FrameEnd U o U' L ({ frames := 0, cells := 0, slots := 0, locals := 0 } : Room).cells ({ frames := 0, cells := 0, slots := 0, locals := 0 } : Room).slots) := by
  refine MetFree.of_bodySF (plainFor_of_name own_pn_0) hisR ?_
  intro p e s m args below meth c s₁ Bd hml0 hP hK
  obtain ⟨rfl, hZ, hh⟩ := hP
  have hx := Bd.exec
  have hby := Bd.bytes
  have hml : c.maxLocals = 3 := hml0
  have hown : s.vm.findClass "com/example/suspicion/suspicion/election/Robust$Alive" = some m.cls := findClass_of_methodNamed Bd.named
  have hnm := (name_of_methodNamed Bd.named Bd.method).1
  have X0 : Stand p l e ({ frames := 0, cells := 0, slots := 0, locals := 0 } : Room) s m #[(.ref a1), (.ref a1)] below meth c s₁ [] 0 0 := Stand.of_body Bd
  have e0 : s₁.heap = h0 := by rw [← hh, Bd.state]; rfl
  have N0 := Fr.nil n0
  refine own_start (own_ef_eqS m a1) ?_
  refine own_of (T' := s₁) (f' := (mkF m 6 #[.val (.ref a1), .val (.ref a1), .unset] [(.int (1 : Int32))])) (fun t_ k_ => (XS.aloadN X0.here hx rfl (Jvm.hb hby own_d_prog_45_method_5_code_0) rfl rfl (XS.aloadN X0.here hx rfl (Jvm.hb hby own_d_prog_45_method_5_code_1) rfl rfl (Jvm.RoadKit.acmp (g := (mkF m 2 #[.val (.ref a1), .val (.ref a1), .unset] [(.ref a1), (.ref a1)])) X0 hx rfl rfl rfl (pc0 := 2) (pc' := 5) (same := true) rfl (Jvm.hb hby own_d_prog_45_method_5_code_2) rfl (decide_eq_true rfl) (by decide) (by decide) (XS.iconst X0.here hx rfl (Jvm.hb hby own_d_prog_45_method_5_code_5) k_))))) ?_
  obtain ⟨fs, hr, hrun, hended, hW, hsame⟩ := X0.leave (v := some (.int (1 : Int32))) (fun h => by rw [Bd.returns] at h; cases h)
  exact ⟨_, _, retN X0 hx (t := .boolean) Bd.returns (by simp) (Jvm.hb hby own_d_prog_45_method_5_code_6) hr, hrun, hended, _, _, rfl, (by show own_Q_eqS Z a1  h0 n0 _ s₁.heap _; rw [e0]; exact ⟨rfl, N0, rfl⟩), ⟨_, rfl⟩, hW, hsame.mono (by decide) (by decide)⟩
theorem own_ef_eqN (m : MethodId) (a1 : Addr) : entryFrame m #[(.ref a1), .null] 3 = mkF m 0 #[.val (.ref a1), .val .null, .unset] [] := by first | (simp [entryFrame, mkF, argsToLocals, Value.category]; done) | rfl
def own_Q_eqN (Z : State) (a1 : Addr)  (h0 : Heap) (n0 : Nat) (v : Option Value) (h : Heap) (L : List Loc) : Prop := v = some (.int 0) ∧ Fr n0 L ∧ h = h0
theorem own_d_prog_45_method_5_code_7 : decode prog_45_method_5_code 7 = .ok (.aload_n 1, 1) := by decide +kernel
theorem own_d_prog_45_method_5_code_8 : decode prog_45_method_5_code 8 = .ok (.instanceof 17, 3) := by decide +kernel
theorem own_d_prog_45_method_5_code_11 : decode prog_45_method_5_code 11 = .ok (.ifCond .eq 11, 3) := by decide +kernel
theorem own_d_prog_45_method_5_code_22 : decode prog_45_method_5_code 22 = .ok (.iconst 0, 1) := by decide +kernel
theorem own_d_prog_45_method_5_code_23 : decode prog_45_method_5_code 23 = .ok (.ireturn, 1) := by decide +kernel
set_option maxRecDepth 65536 in
set_option maxHeartbeats 40000000 in
theorem own_rm_eqN (l : Launch) (Z : State) (a0 : Array Value) (hw : ∀ d ∈ tables_1, d.before a0 Z = true) (ws : List Jvm.Cond) (a1 : Addr)  (h0 : Heap) (n0 : Nat) (Z0 : n0 ≤ h0.size)  :
    MetFree l (⟨"com/example/suspicion/suspicion/election/Robust$Alive", "equals", "(Ljava/lang/Object;)Z"⟩ : MethodName) (head1 (Jvm.Cond.code (⟨"com/example/suspicion/suspicion/election/Robust$Alive", "equals", "(Ljava/lang/Object;)Z"⟩ : MethodName) prog_45_method_5_code 3 (some .boolean) :: ws) ({ frames := 0, cells := 0, slots := 0, locals := 0 } : Room)) (fun a U => a = #[(.ref a1), .null] ∧ Z.Warmed39 U.vm ∧ U.heap = h0) (fun _ _ _ _ _ => True) (fun _ U o U' => ∃ v L, o = .returned v ∧ own_Q_eqN Z a1  h0 n0 v U'.heap L ∧ FrameEnd U o U' L ({ frames := 0, cells := 0, slots := 0, locals := 0 } : Room).cells ({ frames := 0, cells := 0, slots := 0, locals := 0 } : Room).slots) := by
  refine MetFree.of_bodySF (plainFor_of_name own_pn_0) hisR ?_
  intro p e s m args below meth c s₁ Bd hml0 hP hK
  obtain ⟨rfl, hZ, hh⟩ := hP
  have hx := Bd.exec
  have hby := Bd.bytes
  have hml : c.maxLocals = 3 := hml0
  have hown : s.vm.findClass "com/example/suspicion/suspicion/election/Robust$Alive" = some m.cls := findClass_of_methodNamed Bd.named
  have hnm := (name_of_methodNamed Bd.named Bd.method).1
  have X0 : Stand p l e ({ frames := 0, cells := 0, slots := 0, locals := 0 } : Room) s m #[(.ref a1), .null] below meth c s₁ [] 0 0 := Stand.of_body Bd
  have e0 : s₁.heap = h0 := by rw [← hh, Bd.state]; rfl
  have N0 := Fr.nil n0
  refine own_start (own_ef_eqN m a1) ?_
  refine own_of (T' := s₁) (f' := (mkF m 23 #[.val (.ref a1), .val .null, .unset] [(.int (0 : Int32))])) (fun t_ k_ => (XS.aloadN X0.here hx rfl (Jvm.hb hby own_d_prog_45_method_5_code_0) rfl rfl (XS.aloadN X0.here hx rfl (Jvm.hb hby own_d_prog_45_method_5_code_1) rfl rfl (Jvm.RoadKit.acmp (g := (mkF m 2 #[.val (.ref a1), .val .null, .unset] [.null, (.ref a1)])) X0 hx rfl rfl rfl (pc0 := 2) (pc' := 7) (same := false) rfl (Jvm.hb hby own_d_prog_45_method_5_code_2) rfl (decide_eq_false nofun) (by decide) (by decide) (XS.aloadN X0.here hx rfl (Jvm.hb hby own_d_prog_45_method_5_code_7) rfl rfl (X0.instanceofNull hx (g := (mkF m 8 #[.val (.ref a1), .val .null, .unset] [.null])) rfl rfl (Jvm.hb hby own_d_prog_45_method_5_code_8) _ (XS.ifYes X0.here hx rfl (pc0 := 11) (pc' := 22) rfl (Jvm.hb hby own_d_prog_45_method_5_code_11) rfl ((if0 _ _).trans (teq rfl).1) (by decide) (by decide) (XS.iconst X0.here hx rfl (Jvm.hb hby own_d_prog_45_method_5_code_22) k_)))))))) ?_
  obtain ⟨fs, hr, hrun, hended, hW, hsame⟩ := X0.leave (v := some (.int (0 : Int32))) (fun h => by rw [Bd.returns] at h; cases h)
  exact ⟨_, _, retN X0 hx (t := .boolean) Bd.returns (by simp) (Jvm.hb hby own_d_prog_45_method_5_code_23) hr, hrun, hended, _, _, rfl, (by show own_Q_eqN Z a1  h0 n0 _ s₁.heap _; rw [e0]; exact ⟨rfl, N0, rfl⟩), ⟨_, rfl⟩, hW, hsame.mono (by decide) (by decide)⟩
theorem own_ef_eqC (m : MethodId) (a1 : Addr) (a2 : Addr) : entryFrame m #[(.ref a1), (.ref a2)] 3 = mkF m 0 #[.val (.ref a1), .val (.ref a2), .unset] [] := by first | (simp [entryFrame, mkF, argsToLocals, Value.category]; done) | rfl
def own_Q_eqC (Z : State) (a1 : Addr) (a2 : Addr)  (h0 : Heap) (n0 : Nat) (v : Option Value) (h : Heap) (L : List Loc) : Prop := v = some (.int 0) ∧ Fr n0 L ∧ h = h0
set_option maxRecDepth 65536 in
set_option maxHeartbeats 40000000 in
theorem own_rm_eqC (l : Launch) (Z : State) (a0 : Array Value) (hw : ∀ d ∈ tables_1, d.before a0 Z = true) (ws : List Jvm.Cond) (a1 : Addr) (a2 : Addr)  (h0 : Heap) (n0 : Nat) (Z0 : n0 ≤ h0.size) (ne : a1 ≠ a2) (E2 : Exa Z h0 a2 "com/example/suspicion/suspicion/election/Robust$Accusation") :
    MetFree l (⟨"com/example/suspicion/suspicion/election/Robust$Alive", "equals", "(Ljava/lang/Object;)Z"⟩ : MethodName) (head1 (Jvm.Cond.code (⟨"com/example/suspicion/suspicion/election/Robust$Alive", "equals", "(Ljava/lang/Object;)Z"⟩ : MethodName) prog_45_method_5_code 3 (some .boolean) :: ws) ({ frames := 0, cells := 0, slots := 0, locals := 0 } : Room)) (fun a U => a = #[(.ref a1), (.ref a2)] ∧ Z.Warmed39 U.vm ∧ U.heap = h0) (fun _ _ _ _ _ => True) (fun _ U o U' => ∃ v L, o = .returned v ∧ own_Q_eqC Z a1 a2  h0 n0 v U'.heap L ∧ FrameEnd U o U' L ({ frames := 0, cells := 0, slots := 0, locals := 0 } : Room).cells ({ frames := 0, cells := 0, slots := 0, locals := 0 } : Room).slots) := by
  refine MetFree.of_bodySF (plainFor_of_name own_pn_0) hisR ?_
  intro p e s m args below meth c s₁ Bd hml0 hP hK
  obtain ⟨rfl, hZ, hh⟩ := hP
  have hx := Bd.exec
  have hby := Bd.bytes
  have hml : c.maxLocals = 3 := hml0
  have hown : s.vm.findClass "com/example/suspicion/suspicion/election/Robust$Alive" = some m.cls := findClass_of_methodNamed Bd.named
  have hnm := (name_of_methodNamed Bd.named Bd.method).1
  have X0 : Stand p l e ({ frames := 0, cells := 0, slots := 0, locals := 0 } : Room) s m #[(.ref a1), (.ref a2)] below meth c s₁ [] 0 0 := Stand.of_body Bd
  have e0 : s₁.heap = h0 := by rw [← hh, Bd.state]; rfl
  have N0 := Fr.nil n0
  refine own_start (own_ef_eqC m a1 a2) ?_
  obtain ⟨T1, X1, e1, st1⟩ := instNo X0 hx hZ hown (hw _ (List.mem_of_getElem? (i := 21) rfl)) e0 E2 (own_noI (hw _ (List.mem_of_getElem? (i := 26) rfl)) (hw _ (List.mem_of_getElem? (i := 27) rfl)) (hw _ (List.mem_of_getElem? (i := 2) rfl)) (by decide) (by decide)) (g := (mkF m 8 #[.val (.ref a1), .val (.ref a2), .unset] [(.ref a2)])) rfl rfl (Jvm.hb hby own_d_prog_45_method_5_code_8)
  refine own_of (T' := T1) (f' := (mkF m 23 #[.val (.ref a1), .val (.ref a2), .unset] [(.int (0 : Int32))])) (fun t_ k_ => (XS.aloadN X0.here hx rfl (Jvm.hb hby own_d_prog_45_method_5_code_0) rfl rfl (XS.aloadN X0.here hx rfl (Jvm.hb hby own_d_prog_45_method_5_code_1) rfl rfl (Jvm.RoadKit.acmp (g := (mkF m 2 #[.val (.ref a1), .val (.ref a2), .unset] [(.ref a2), (.ref a1)])) X0 hx rfl rfl rfl (pc0 := 2) (pc' := 7) (same := false) rfl (Jvm.hb hby own_d_prog_45_method_5_code_2) rfl (decide_eq_false fun q => ne (Value.ref.inj q)) (by decide) (by decide) (XS.aloadN X0.here hx rfl (Jvm.hb hby own_d_prog_45_method_5_code_7) rfl rfl (st1 _ (XS.ifYes X1.here hx rfl (pc0 := 11) (pc' := 22) rfl (Jvm.hb hby own_d_prog_45_method_5_code_11) rfl ((if0 _ _).trans (teq rfl).1) (by decide) (by decide) (XS.iconst X1.here hx rfl (Jvm.hb hby own_d_prog_45_method_5_code_22) k_)))))))) ?_
  obtain ⟨fs, hr, hrun, hended, hW, hsame⟩ := X1.leave (v := some (.int (0 : Int32))) (fun h => by rw [Bd.returns] at h; cases h)
  exact ⟨_, _, retN X1 hx (t := .boolean) Bd.returns (by simp) (Jvm.hb hby own_d_prog_45_method_5_code_23) hr, hrun, hended, _, _, rfl, (by show own_Q_eqC Z a1 a2  h0 n0 _ T1.heap _; rw [e1]; exact ⟨rfl, N0, rfl⟩), ⟨_, rfl⟩, hW, hsame.mono (by decide) (by decide)⟩
theorem own_ef_eqB (m : MethodId) (a1 : Addr) (a2 : Addr) : entryFrame m #[(.ref a1), (.ref a2)] 3 = mkF m 0 #[.val (.ref a1), .val (.ref a2), .unset] [] := by first | (simp [entryFrame, mkF, argsToLocals, Value.category]; done) | rfl
def own_Q_eqB (Z : State) (a1 : Addr) (a2 : Addr) (x1 y1 : Int32) (x2 x3 y2 y3 : Int64) (h0 : Heap) (n0 : Nat) (v : Option Value) (h : Heap) (L : List Loc) : Prop := v = some (.int (if x1 = y1 then (if x2 = y2 then (if x3 = y3 then (1 : Int32) else 0) else 0) else 0)) ∧ Fr n0 L ∧ h = h0
theorem own_d_prog_45_method_5_code_14 : decode prog_45_method_5_code 14 = .ok (.aload_n 1, 1) := by decide +kernel
theorem own_d_prog_45_method_5_code_15 : decode prog_45_method_5_code 15 = .ok (.checkcast 17, 3) := by decide +kernel
theorem own_d_prog_45_method_5_code_18 : decode prog_45_method_5_code 18 = .ok (.astore_n 2, 1) := by decide +kernel
theorem own_d_prog_45_method_5_code_19 : decode prog_45_method_5_code 19 = .ok (.goto 5, 3) := by decide +kernel
theorem own_d_prog_45_method_5_code_24 : decode prog_45_method_5_code 24 = .ok (.aload_n 0, 1) := by decide +kernel
theorem own_d_prog_45_method_5_code_25 : decode prog_45_method_5_code 25 = .ok (.getfield 16, 3) := by decide +kernel
theorem own_d_prog_45_method_5_code_28 : decode prog_45_method_5_code 28 = .ok (.aload_n 2, 1) := by decide +kernel
theorem own_d_prog_45_method_5_code_29 : decode prog_45_method_5_code 29 = .ok (.getfield 16, 3) := by decide +kernel
theorem own_d_prog_45_method_5_code_32 : decode prog_45_method_5_code 32 = .ok (.if_icmp .ne 31, 3) := by decide +kernel
theorem own_d_prog_45_method_5_code_35 : decode prog_45_method_5_code 35 = .ok (.aload_n 0, 1) := by decide +kernel
theorem own_d_prog_45_method_5_code_36 : decode prog_45_method_5_code 36 = .ok (.getfield 22, 3) := by decide +kernel
theorem own_d_prog_45_method_5_code_39 : decode prog_45_method_5_code 39 = .ok (.aload_n 2, 1) := by decide +kernel
theorem own_d_prog_45_method_5_code_40 : decode prog_45_method_5_code 40 = .ok (.getfield 22, 3) := by decide +kernel
theorem own_d_prog_45_method_5_code_43 : decode prog_45_method_5_code 43 = .ok (.lcmp, 1) := by decide +kernel
theorem own_d_prog_45_method_5_code_44 : decode prog_45_method_5_code 44 = .ok (.ifCond .ne 19, 3) := by decide +kernel
theorem own_d_prog_45_method_5_code_47 : decode prog_45_method_5_code 47 = .ok (.aload_n 0, 1) := by decide +kernel
theorem own_d_prog_45_method_5_code_48 : decode prog_45_method_5_code 48 = .ok (.getfield 26, 3) := by decide +kernel
theorem own_d_prog_45_method_5_code_51 : decode prog_45_method_5_code 51 = .ok (.aload_n 2, 1) := by decide +kernel
theorem own_d_prog_45_method_5_code_52 : decode prog_45_method_5_code 52 = .ok (.getfield 26, 3) := by decide +kernel
theorem own_d_prog_45_method_5_code_55 : decode prog_45_method_5_code 55 = .ok (.lcmp, 1) := by decide +kernel
theorem own_d_prog_45_method_5_code_56 : decode prog_45_method_5_code 56 = .ok (.ifCond .ne 7, 3) := by decide +kernel
theorem own_d_prog_45_method_5_code_59 : decode prog_45_method_5_code 59 = .ok (.iconst 1, 1) := by decide +kernel
theorem own_d_prog_45_method_5_code_60 : decode prog_45_method_5_code 60 = .ok (.goto 4, 3) := by decide +kernel
theorem own_d_prog_45_method_5_code_64 : decode prog_45_method_5_code 64 = .ok (.ireturn, 1) := by decide +kernel
theorem own_d_prog_45_method_5_code_63 : decode prog_45_method_5_code 63 = .ok (.iconst 0, 1) := by decide +kernel
set_option maxRecDepth 65536 in
set_option maxHeartbeats 40000000 in
theorem own_rm_eqB (l : Launch) (Z : State) (a0 : Array Value) (hw : ∀ d ∈ tables_1, d.before a0 Z = true) (ws : List Jvm.Cond) (a1 : Addr) (a2 : Addr) (x1 y1 : Int32) (x2 x3 y2 y3 : Int64) (h0 : Heap) (n0 : Nat) (Z0 : n0 ≤ h0.size) (ne : a1 ≠ a2) (E1 : Exa Z h0 a1 "com/example/suspicion/suspicion/election/Robust$Alive") (E2 : Exa Z h0 a2 "com/example/suspicion/suspicion/election/Robust$Alive") (F0 : Fld Z h0 a1 "com/example/suspicion/suspicion/election/Robust$Alive" "_leader" "I" (.int x1)) (G0 : Fld Z h0 a2 "com/example/suspicion/suspicion/election/Robust$Alive" "_leader" "I" (.int y1)) (F1 : Fld Z h0 a1 "com/example/suspicion/suspicion/election/Robust$Alive" "_leaderCounter" "J" (.long x2)) (G1 : Fld Z h0 a2 "com/example/suspicion/suspicion/election/Robust$Alive" "_leaderCounter" "J" (.long y2)) (F2 : Fld Z h0 a1 "com/example/suspicion/suspicion/election/Robust$Alive" "_senderCounter" "J" (.long x3)) (G2 : Fld Z h0 a2 "com/example/suspicion/suspicion/election/Robust$Alive" "_senderCounter" "J" (.long y3)) :
    MetFree l (⟨"com/example/suspicion/suspicion/election/Robust$Alive", "equals", "(Ljava/lang/Object;)Z"⟩ : MethodName) (head1 (Jvm.Cond.code (⟨"com/example/suspicion/suspicion/election/Robust$Alive", "equals", "(Ljava/lang/Object;)Z"⟩ : MethodName) prog_45_method_5_code 3 (some .boolean) :: ws) ({ frames := 0, cells := 0, slots := 0, locals := 0 } : Room)) (fun a U => a = #[(.ref a1), (.ref a2)] ∧ Z.Warmed39 U.vm ∧ U.heap = h0) (fun _ _ _ _ _ => True) (fun _ U o U' => ∃ v L, o = .returned v ∧ own_Q_eqB Z a1 a2 x1 y1 x2 x3 y2 y3 h0 n0 v U'.heap L ∧ FrameEnd U o U' L ({ frames := 0, cells := 0, slots := 0, locals := 0 } : Room).cells ({ frames := 0, cells := 0, slots := 0, locals := 0 } : Room).slots) := by
  refine MetFree.of_bodySF (plainFor_of_name own_pn_0) hisR ?_
  intro p e s m args below meth c s₁ Bd hml0 hP hK
  obtain ⟨rfl, hZ, hh⟩ := hP
  have hx := Bd.exec
  have hby := Bd.bytes
  have hml : c.maxLocals = 3 := hml0
  have hown : s.vm.findClass "com/example/suspicion/suspicion/election/Robust$Alive" = some m.cls := findClass_of_methodNamed Bd.named
  have hnm := (name_of_methodNamed Bd.named Bd.method).1
  have X0 : Stand p l e ({ frames := 0, cells := 0, slots := 0, locals := 0 } : Room) s m #[(.ref a1), (.ref a2)] below meth c s₁ [] 0 0 := Stand.of_body Bd
  have e0 : s₁.heap = h0 := by rw [← hh, Bd.state]; rfl
  have N0 := Fr.nil n0
  refine own_start (own_ef_eqB m a1 a2) ?_
  obtain ⟨T1, X1, e1, st1⟩ := instY X0 hx hZ hown (hw _ (List.mem_of_getElem? (i := 21) rfl)) e0 (Ins.self E2) (g := (mkF m 8 #[.val (.ref a1), .val (.ref a2), .unset] [(.ref a2)])) rfl rfl (Jvm.hb hby own_d_prog_45_method_5_code_8)
  obtain ⟨T2, X2, e2, st2⟩ := castY X1 hx hZ hown (hw _ (List.mem_of_getElem? (i := 21) rfl)) e1 (Ins.self E2) (g := (mkF m 15 #[.val (.ref a1), .val (.ref a2), .unset] [(.ref a2)])) rfl rfl (Jvm.hb hby own_d_prog_45_method_5_code_15)
  refine own_of (T' := T2) (f' := (mkF m 18 #[.val (.ref a1), .val (.ref a2), .unset] [(.ref a2)])) (fun t_ k_ => (XS.aloadN X0.here hx rfl (Jvm.hb hby own_d_prog_45_method_5_code_0) rfl rfl (XS.aloadN X0.here hx rfl (Jvm.hb hby own_d_prog_45_method_5_code_1) rfl rfl (Jvm.RoadKit.acmp (g := (mkF m 2 #[.val (.ref a1), .val (.ref a2), .unset] [(.ref a2), (.ref a1)])) X0 hx rfl rfl rfl (pc0 := 2) (pc' := 7) (same := false) rfl (Jvm.hb hby own_d_prog_45_method_5_code_2) rfl (decide_eq_false fun q => ne (Value.ref.inj q)) (by decide) (by decide) (XS.aloadN X0.here hx rfl (Jvm.hb hby own_d_prog_45_method_5_code_7) rfl rfl (st1 _ (XS.ifNo X1.here hx rfl (Jvm.hb hby own_d_prog_45_method_5_code_11) rfl ((if0 _ _).trans (feq (by decide : ¬ (1 : Int32) = 0)).1) (XS.aloadN X1.here hx rfl (Jvm.hb hby own_d_prog_45_method_5_code_14) rfl rfl (st2 _ k_))))))))) ?_
  obtain ⟨T3, X3, e3, st3⟩ := getF X2 hx hZ hown (host := "") (Or.inl (hw _ (List.mem_of_getElem? (i := 10) rfl))) Via.refl e2 F0 (g := (mkF m 25 #[.val (.ref a1), .val (.ref a2), .val (.ref a2)] [(.ref a1)])) rfl rfl (Jvm.hb hby own_d_prog_45_method_5_code_25)
  obtain ⟨T4, X4, e4, st4⟩ := getF X3 hx hZ hown (host := "") (Or.inl (hw _ (List.mem_of_getElem? (i := 10) rfl))) Via.refl e3 G0 (g := (mkF m 29 #[.val (.ref a1), .val (.ref a2), .val (.ref a2)] [(.ref a2), (.int x1)])) rfl rfl (Jvm.hb hby own_d_prog_45_method_5_code_29)
  refine own_of (T' := T4) (f' := (mkF m 32 #[.val (.ref a1), .val (.ref a2), .val (.ref a2)] [(.int y1), (.int x1)])) (fun t_ k_ => (XS.astoreN X2.here hx rfl (Jvm.hb hby own_d_prog_45_method_5_code_18) rfl rfl (l' := #[.val (.ref a1), .val (.ref a2), .val (.ref a2)]) rfl (XS.goto X2.here hx rfl (pc0 := 19) (pc' := 24) rfl (Jvm.hb hby own_d_prog_45_method_5_code_19) (by decide) (by decide) (XS.aloadN X2.here hx rfl (Jvm.hb hby own_d_prog_45_method_5_code_24) rfl rfl (st3 _ (XS.aloadN X3.here hx rfl (Jvm.hb hby own_d_prog_45_method_5_code_28) rfl rfl (st4 _ k_))))))) ?_
  by_cases hc32_5 : (x1 = y1)
  · skip
    obtain ⟨T6, X6, e6, st6⟩ := getF X4 hx hZ hown (host := "") (Or.inl (hw _ (List.mem_of_getElem? (i := 12) rfl))) Via.refl e4 F1 (g := (mkF m 36 #[.val (.ref a1), .val (.ref a2), .val (.ref a2)] [(.ref a1)])) rfl rfl (Jvm.hb hby own_d_prog_45_method_5_code_36)
    obtain ⟨T7, X7, e7, st7⟩ := getF X6 hx hZ hown (host := "") (Or.inl (hw _ (List.mem_of_getElem? (i := 12) rfl))) Via.refl e6 G1 (g := (mkF m 40 #[.val (.ref a1), .val (.ref a2), .val (.ref a2)] [(.ref a2), (.long x2)])) rfl rfl (Jvm.hb hby own_d_prog_45_method_5_code_40)
    refine own_of (T' := T7) (f' := (mkF m 44 #[.val (.ref a1), .val (.ref a2), .val (.ref a2)] [(.int (lcmpW x2 y2))])) (fun t_ k_ => (XS.icmpNo X4.here hx rfl (Jvm.hb hby own_d_prog_45_method_5_code_32) rfl (teq hc32_5).2 (XS.aloadN X4.here hx rfl (Jvm.hb hby own_d_prog_45_method_5_code_35) rfl rfl (st6 _ (XS.aloadN X6.here hx rfl (Jvm.hb hby own_d_prog_45_method_5_code_39) rfl rfl (st7 _ (XS.lcmp X7.here hx rfl (Jvm.hb hby own_d_prog_45_method_5_code_43) rfl k_))))))) ?_
    by_cases hc44_8 : (x2 = y2)
    · skip
      obtain ⟨T9, X9, e9, st9⟩ := getF X7 hx hZ hown (host := "") (Or.inl (hw _ (List.mem_of_getElem? (i := 14) rfl))) Via.refl e7 F2 (g := (mkF m 48 #[.val (.ref a1), .val (.ref a2), .val (.ref a2)] [(.ref a1)])) rfl rfl (Jvm.hb hby own_d_prog_45_method_5_code_48)
      obtain ⟨T10, X10, e10, st10⟩ := getF X9 hx hZ hown (host := "") (Or.inl (hw _ (List.mem_of_getElem? (i := 14) rfl))) Via.refl e9 G2 (g := (mkF m 52 #[.val (.ref a1), .val (.ref a2), .val (.ref a2)] [(.ref a2), (.long x3)])) rfl rfl (Jvm.hb hby own_d_prog_45_method_5_code_52)
      refine own_of (T' := T10) (f' := (mkF m 56 #[.val (.ref a1), .val (.ref a2), .val (.ref a2)] [(.int (lcmpW x3 y3))])) (fun t_ k_ => (XS.ifNo X7.here hx rfl (Jvm.hb hby own_d_prog_45_method_5_code_44) rfl ((if0 _ _).trans (teq ((lw_eq x2 y2).mpr hc44_8)).2) (XS.aloadN X7.here hx rfl (Jvm.hb hby own_d_prog_45_method_5_code_47) rfl rfl (st9 _ (XS.aloadN X9.here hx rfl (Jvm.hb hby own_d_prog_45_method_5_code_51) rfl rfl (st10 _ (XS.lcmp X10.here hx rfl (Jvm.hb hby own_d_prog_45_method_5_code_55) rfl k_))))))) ?_
      by_cases hc56_11 : (x3 = y3)
      · skip
        refine own_of (T' := T10) (f' := (mkF m 64 #[.val (.ref a1), .val (.ref a2), .val (.ref a2)] [(.int (1 : Int32))])) (fun t_ k_ => (XS.ifNo X10.here hx rfl (Jvm.hb hby own_d_prog_45_method_5_code_56) rfl ((if0 _ _).trans (teq ((lw_eq x3 y3).mpr hc56_11)).2) (XS.iconst X10.here hx rfl (Jvm.hb hby own_d_prog_45_method_5_code_59) (XS.goto X10.here hx rfl (pc0 := 60) (pc' := 64) rfl (Jvm.hb hby own_d_prog_45_method_5_code_60) (by decide) (by decide) k_)))) ?_
        obtain ⟨fs, hr, hrun, hended, hW, hsame⟩ := X10.leave (v := some (.int (1 : Int32))) (fun h => by rw [Bd.returns] at h; cases h)
        exact ⟨_, _, retN X10 hx (t := .boolean) Bd.returns (by simp) (Jvm.hb hby own_d_prog_45_method_5_code_64) hr, hrun, hended, _, _, rfl, (by show own_Q_eqB Z a1 a2 x1 y1 x2 x3 y2 y3 h0 n0 _ T10.heap _; rw [e10]; exact ⟨by rw [if_pos hc32_5, if_pos hc44_8, if_pos hc56_11], N0, rfl⟩), ⟨_, rfl⟩, hW, hsame.mono (by decide) (by decide)⟩
      · skip
        refine own_of (T' := T10) (f' := (mkF m 64 #[.val (.ref a1), .val (.ref a2), .val (.ref a2)] [(.int (0 : Int32))])) (fun t_ k_ => (XS.ifYes X10.here hx rfl (pc0 := 56) (pc' := 63) rfl (Jvm.hb hby own_d_prog_45_method_5_code_56) rfl ((if0 _ _).trans (feq (mt (lw_eq x3 y3).mp hc56_11)).2) (by decide) (by decide) (XS.iconst X10.here hx rfl (Jvm.hb hby own_d_prog_45_method_5_code_63) k_))) ?_
        obtain ⟨fs, hr, hrun, hended, hW, hsame⟩ := X10.leave (v := some (.int (0 : Int32))) (fun h => by rw [Bd.returns] at h; cases h)
        exact ⟨_, _, retN X10 hx (t := .boolean) Bd.returns (by simp) (Jvm.hb hby own_d_prog_45_method_5_code_64) hr, hrun, hended, _, _, rfl, (by show own_Q_eqB Z a1 a2 x1 y1 x2 x3 y2 y3 h0 n0 _ T10.heap _; rw [e10]; exact ⟨by rw [if_pos hc32_5, if_pos hc44_8, if_neg hc56_11], N0, rfl⟩), ⟨_, rfl⟩, hW, hsame.mono (by decide) (by decide)⟩
    · skip
      refine own_of (T' := T7) (f' := (mkF m 64 #[.val (.ref a1), .val (.ref a2), .val (.ref a2)] [(.int (0 : Int32))])) (fun t_ k_ => (XS.ifYes X7.here hx rfl (pc0 := 44) (pc' := 63) rfl (Jvm.hb hby own_d_prog_45_method_5_code_44) rfl ((if0 _ _).trans (feq (mt (lw_eq x2 y2).mp hc44_8)).2) (by decide) (by decide) (XS.iconst X7.here hx rfl (Jvm.hb hby own_d_prog_45_method_5_code_63) k_))) ?_
      obtain ⟨fs, hr, hrun, hended, hW, hsame⟩ := X7.leave (v := some (.int (0 : Int32))) (fun h => by rw [Bd.returns] at h; cases h)
      exact ⟨_, _, retN X7 hx (t := .boolean) Bd.returns (by simp) (Jvm.hb hby own_d_prog_45_method_5_code_64) hr, hrun, hended, _, _, rfl, (by show own_Q_eqB Z a1 a2 x1 y1 x2 x3 y2 y3 h0 n0 _ T7.heap _; rw [e7]; exact ⟨by rw [if_pos hc32_5, if_neg hc44_8], N0, rfl⟩), ⟨_, rfl⟩, hW, hsame.mono (by decide) (by decide)⟩
  · skip
    refine own_of (T' := T4) (f' := (mkF m 64 #[.val (.ref a1), .val (.ref a2), .val (.ref a2)] [(.int (0 : Int32))])) (fun t_ k_ => (XS.icmpYes X4.here hx rfl (pc0 := 32) (pc' := 63) rfl (Jvm.hb hby own_d_prog_45_method_5_code_32) rfl (feq hc32_5).2 (by decide) (by decide) (XS.iconst X4.here hx rfl (Jvm.hb hby own_d_prog_45_method_5_code_63) k_))) ?_
    obtain ⟨fs, hr, hrun, hended, hW, hsame⟩ := X4.leave (v := some (.int (0 : Int32))) (fun h => by rw [Bd.returns] at h; cases h)
    exact ⟨_, _, retN X4 hx (t := .boolean) Bd.returns (by simp) (Jvm.hb hby own_d_prog_45_method_5_code_64) hr, hrun, hended, _, _, rfl, (by show own_Q_eqB Z a1 a2 x1 y1 x2 x3 y2 y3 h0 n0 _ T4.heap _; rw [e4]; exact ⟨by rw [if_neg hc32_5], N0, rfl⟩), ⟨_, rfl⟩, hW, hsame.mono (by decide) (by decide)⟩
theorem own_pn_1 : plainName "com/example/suspicion/suspicion/election/AliveEqualsPinLaw" = true := by first | (simp [plainName, overriddenIn]; done) | decide +kernel
theorem own_ef_0 (m : MethodId) (p0 : Int32) (q1 : Int64) (q2 : Int64) (p3 : Int32) (p4 : Int32) (q5 : Int64) : entryFrame m #[(.int p0), (.long q1), (.long q2), (.int p3), (.int p4), (.long q5)] maxLocals = mkF m 0 #[.val (.int p0), .val (.long q1), .second, .val (.long q2), .second, .val (.int p3), .val (.int p4), .val (.long q5), .second, .unset, .unset, .unset, .unset, .unset, .unset, .unset, .unset, .unset, .unset, .unset, .unset, .unset] [] := by first | (simp [entryFrame, mkF, argsToLocals, Value.category, maxLocals]; done) | rfl
def own_Q_0 (Z : State) (p0 : Int32) (q1 : Int64) (q2 : Int64) (p3 : Int32) (p4 : Int32) (q5 : Int64) (ia : Addr) (h0 : Heap) (n0 : Nat) (v : Option Value) (h : Heap) (L : List Loc) : Prop := v = some (.int 1) ∧ Fr n0 L
theorem own_pd_0 : parseMethodDescriptor "(IJJ)V" = some ⟨[.int, .long, .long], none⟩ := by decide +kernel
theorem own_pd_1 : parseMethodDescriptor "(Ljava/lang/Object;)Z" = some ⟨[(.object "java/lang/Object")], some .boolean⟩ := by decide +kernel
set_option maxRecDepth 65536 in
set_option maxHeartbeats 40000000 in
theorem own_rm_0 (l : Launch) (Z : State) (a0 : Array Value) (hw : ∀ d ∈ tables_1, d.before a0 Z = true) (ws : List Jvm.Cond) (p0 : Int32) (q1 : Int64) (q2 : Int64) (p3 : Int32) (p4 : Int32) (q5 : Int64) (ia : Addr) (h0 : Heap) (n0 : Nat) (Z0 : n0 ≤ h0.size) (SI : Sta Z h0 "com/example/suspicion/suspicion/election/Robust$Accusation" "INSTANCE" "Lcom/example/suspicion/suspicion/election/Robust$Accusation;" (.ref ia)) (EI : Exa Z h0 ia "com/example/suspicion/suspicion/election/Robust$Accusation") :
    MetFree l x (head1 (Jvm.Cond.code x code maxLocals ret :: ws) room_1) (fun a U => a = #[(.int p0), (.long q1), (.long q2), (.int p3), (.int p4), (.long q5)] ∧ Z.Warmed39 U.vm ∧ U.heap = h0) (fun _ _ _ _ _ => True) (fun _ U o U' => ∃ v L, o = .returned v ∧ own_Q_0 Z p0 q1 q2 p3 p4 q5 ia h0 n0 v U'.heap L ∧ FrameEnd U o U' L room_1.cells room_1.slots) := by
  refine MetFree.of_bodySF (plainFor_of_name own_pn_1) hisR ?_
  intro p e s m args below meth c s₁ Bd hml0 hP hK
  obtain ⟨rfl, hZ, hh⟩ := hP
  have hx := Bd.exec
  have hby := Bd.bytes
  have hml : c.maxLocals = 22 := hml0
  have hown : s.vm.findClass "com/example/suspicion/suspicion/election/AliveEqualsPinLaw" = some m.cls := findClass_of_methodNamed Bd.named
  have hnm := (name_of_methodNamed Bd.named Bd.method).1
  have X0 : Stand p l e room_1 s m #[(.int p0), (.long q1), (.long q2), (.int p3), (.int p4), (.long q5)] below meth c s₁ [] 0 0 := Stand.of_body Bd
  have e0 : s₁.heap = h0 := by rw [← hh, Bd.state]; rfl
  have N0 := Fr.nil n0
  refine own_start (own_ef_0 m p0 q1 q2 p3 p4 q5) ?_
  refine own_of (T' := s₁) (f' := (mkF m 5 #[.val (.int p0), .val (.long q1), .second, .val (.long q2), .second, .val (.int p3), .val (.int p4), .val (.long q5), .second, .unset, .unset, .unset, .unset, .unset, .unset, .unset, .unset, .unset, .unset, .unset, .unset, .unset] [(.long (q1 &&& (9223372036854775807 : Int64)))])) (fun t_ k_ => (XS.lloadN X0.here hx rfl (Jvm.hb hby at_0) rfl (Jvm.Stand.ldc2J X0 hx hown (mvT hZ (hw _ (List.mem_of_getElem? (i := 0) rfl))) rfl (Jvm.hb hby at_1) (XS.land X0.here hx rfl (Jvm.hb hby at_4) rfl k_)))) ?_
  obtain ⟨lc, hlc⟩ : ∃ z : Int64, (q1 &&& (9223372036854775807 : Int64)) = z := ⟨_, rfl⟩
  rw [hlc]
  have nlc := own_nn _ _ hlc
  refine own_of (T' := s₁) (f' := (mkF m 12 #[.val (.int p0), .val (.long q1), .second, .val (.long q2), .second, .val (.int p3), .val (.int p4), .val (.long q5), .second, .val (.long lc), .second, .unset, .unset, .unset, .unset, .unset, .unset, .unset, .unset, .unset, .unset, .unset] [(.long (q2 &&& (9223372036854775807 : Int64)))])) (fun t_ k_ => (XS.lstore X0.here hx rfl (Jvm.hb hby at_5) rfl (l' := #[.val (.int p0), .val (.long q1), .second, .val (.long q2), .second, .val (.int p3), .val (.int p4), .val (.long q5), .second, .val (.long lc), .second, .unset, .unset, .unset, .unset, .unset, .unset, .unset, .unset, .unset, .unset, .unset]) rfl (XS.lloadN X0.here hx rfl (Jvm.hb hby at_7) rfl (Jvm.Stand.ldc2J X0 hx hown (mvT hZ (hw _ (List.mem_of_getElem? (i := 0) rfl))) rfl (Jvm.hb hby at_8) (XS.land X0.here hx rfl (Jvm.hb hby at_11) rfl k_))))) ?_
  obtain ⟨sc, hsc⟩ : ∃ z : Int64, (q2 &&& (9223372036854775807 : Int64)) = z := ⟨_, rfl⟩
  rw [hsc]
  have nsc := own_nn _ _ hsc
  refine own_of (T' := s₁) (f' := (mkF m 18 #[.val (.int p0), .val (.long q1), .second, .val (.long q2), .second, .val (.int p3), .val (.int p4), .val (.long q5), .second, .val (.long lc), .second, .val (.long sc), .second, .unset, .unset, .unset, .unset, .unset, .unset, .unset, .unset, .unset] [(.int (p3 &&& (1 : Int32)))])) (fun t_ k_ => (XS.lstore X0.here hx rfl (Jvm.hb hby at_12) rfl (l' := #[.val (.int p0), .val (.long q1), .second, .val (.long q2), .second, .val (.int p3), .val (.int p4), .val (.long q5), .second, .val (.long lc), .second, .val (.long sc), .second, .unset, .unset, .unset, .unset, .unset, .unset, .unset, .unset, .unset]) rfl (XS.iload X0.here hx rfl (Jvm.hb hby at_14) rfl (XS.iconst X0.here hx rfl (Jvm.hb hby at_16) (XS.iand X0.here hx rfl (Jvm.hb hby at_17) rfl k_))))) ?_
  obtain ⟨l2, hl2⟩ : ∃ z : Int32, z = (if (p3 &&& (1 : Int32)) = (0 : Int32) then p0 else p4) := ⟨_, rfl⟩
  have st2 : ∀ t_, Steps p.tables e below (s₁.setTop (mkF m 27 #[.val (.int p0), .val (.long q1), .second, .val (.long q2), .second, .val (.int p3), .val (.int p4), .val (.long q5), .second, .val (.long lc), .second, .val (.long sc), .second, .unset, .unset, .unset, .unset, .unset, .unset, .unset, .unset, .unset] [(.int l2)])) t_ → Steps p.tables e below (s₁.setTop (mkF m 18 #[.val (.int p0), .val (.long q1), .second, .val (.long q2), .second, .val (.int p3), .val (.int p4), .val (.long q5), .second, .val (.long lc), .second, .val (.long sc), .second, .unset, .unset, .unset, .unset, .unset, .unset, .unset, .unset, .unset] [(.int (p3 &&& (1 : Int32)))])) t_ := by
    intro t_ k_
    by_cases hc18_1 : ((p3 &&& (1 : Int32)) = (0 : Int32))
    · skip
      refine (XS.ifYes X0.here hx rfl (pc0 := 18) (pc' := 26) rfl (Jvm.hb hby at_18) rfl ((if0 _ _).trans (teq hc18_1).1) (by decide) (by decide) (XS.iloadN X0.here hx rfl (Jvm.hb hby at_26) rfl ?_))
      show Steps p.tables e below (s₁.setTop (mkF m 27 #[.val (.int p0), .val (.long q1), .second, .val (.long q2), .second, .val (.int p3), .val (.int p4), .val (.long q5), .second, .val (.long lc), .second, .val (.long sc), .second, .unset, .unset, .unset, .unset, .unset, .unset, .unset, .unset, .unset] [(.int p0)])) t_
      rw [hl2, if_pos hc18_1] at k_
      exact k_
    · skip
      refine (XS.ifNo X0.here hx rfl (Jvm.hb hby at_18) rfl ((if0 _ _).trans (feq hc18_1).1) (XS.iload X0.here hx rfl (Jvm.hb hby at_21) rfl (XS.goto X0.here hx rfl (pc0 := 23) (pc' := 27) rfl (Jvm.hb hby at_23) (by decide) (by decide) ?_)))
      show Steps p.tables e below (s₁.setTop (mkF m 27 #[.val (.int p0), .val (.long q1), .second, .val (.long q2), .second, .val (.int p3), .val (.int p4), .val (.long q5), .second, .val (.long lc), .second, .val (.long sc), .second, .unset, .unset, .unset, .unset, .unset, .unset, .unset, .unset, .unset] [(.int p4)])) t_
      rw [hl2, if_neg hc18_1] at k_
      exact k_
  refine own_of (T' := s₁) (f' := (mkF m 27 #[.val (.int p0), .val (.long q1), .second, .val (.long q2), .second, .val (.int p3), .val (.int p4), .val (.long q5), .second, .val (.long lc), .second, .val (.long sc), .second, .unset, .unset, .unset, .unset, .unset, .unset, .unset, .unset, .unset] [(.int l2)])) st2 ?_
  refine own_of (T' := s₁) (f' := (mkF m 33 #[.val (.int p0), .val (.long q1), .second, .val (.long q2), .second, .val (.int p3), .val (.int p4), .val (.long q5), .second, .val (.long lc), .second, .val (.long sc), .second, .val (.int l2), .unset, .unset, .unset, .unset, .unset, .unset, .unset, .unset] [(.int (p3 &&& (2 : Int32)))])) (fun t_ k_ => (XS.istore X0.here hx rfl (Jvm.hb hby at_27) rfl (l' := #[.val (.int p0), .val (.long q1), .second, .val (.long q2), .second, .val (.int p3), .val (.int p4), .val (.long q5), .second, .val (.long lc), .second, .val (.long sc), .second, .val (.int l2), .unset, .unset, .unset, .unset, .unset, .unset, .unset, .unset]) rfl (XS.iload X0.here hx rfl (Jvm.hb hby at_29) rfl (XS.iconst X0.here hx rfl (Jvm.hb hby at_31) (XS.iand X0.here hx rfl (Jvm.hb hby at_32) rfl k_))))) ?_
  obtain ⟨lc2, hlc2⟩ : ∃ z : Int64, z = (if (p3 &&& (2 : Int32)) = (0 : Int32) then lc else (q5 &&& (9223372036854775807 : Int64))) := ⟨_, rfl⟩
  have st4 : ∀ t_, Steps p.tables e below (s₁.setTop (mkF m 47 #[.val (.int p0), .val (.long q1), .second, .val (.long q2), .second, .val (.int p3), .val (.int p4), .val (.long q5), .second, .val (.long lc), .second, .val (.long sc), .second, .val (.int l2), .unset, .unset, .unset, .unset, .unset, .unset, .unset, .unset] [(.long lc2)])) t_ → Steps p.tables e below (s₁.setTop (mkF m 33 #[.val (.int p0), .val (.long q1), .second, .val (.long q2), .second, .val (.int p3), .val (.int p4), .val (.long q5), .second, .val (.long lc), .second, .val (.long sc), .second, .val (.int l2), .unset, .unset, .unset, .unset, .unset, .unset, .unset, .unset] [(.int (p3 &&& (2 : Int32)))])) t_ := by
    intro t_ k_
    by_cases hc33_3 : ((p3 &&& (2 : Int32)) = (0 : Int32))
    · skip
      refine (XS.ifYes X0.here hx rfl (pc0 := 33) (pc' := 45) rfl (Jvm.hb hby at_33) rfl ((if0 _ _).trans (teq hc33_3).1) (by decide) (by decide) (XS.lload X0.here hx rfl (Jvm.hb hby at_45) rfl ?_))
      show Steps p.tables e below (s₁.setTop (mkF m 47 #[.val (.int p0), .val (.long q1), .second, .val (.long q2), .second, .val (.int p3), .val (.int p4), .val (.long q5), .second, .val (.long lc), .second, .val (.long sc), .second, .val (.int l2), .unset, .unset, .unset, .unset, .unset, .unset, .unset, .unset] [(.long lc)])) t_
      rw [hlc2, if_pos hc33_3] at k_
      exact k_
    · skip
      refine (XS.ifNo X0.here hx rfl (Jvm.hb hby at_33) rfl ((if0 _ _).trans (feq hc33_3).1) (XS.lload X0.here hx rfl (Jvm.hb hby at_36) rfl (Jvm.Stand.ldc2J X0 hx hown (mvT hZ (hw _ (List.mem_of_getElem? (i := 0) rfl))) rfl (Jvm.hb hby at_38) (XS.land X0.here hx rfl (Jvm.hb hby at_41) rfl (XS.goto X0.here hx rfl (pc0 := 42) (pc' := 47) rfl (Jvm.hb hby at_42) (by decide) (by decide) ?_)))))
      show Steps p.tables e below (s₁.setTop (mkF m 47 #[.val (.int p0), .val (.long q1), .second, .val (.long q2), .second, .val (.int p3), .val (.int p4), .val (.long q5), .second, .val (.long lc), .second, .val (.long sc), .second, .val (.int l2), .unset, .unset, .unset, .unset, .unset, .unset, .unset, .unset] [(.long (q5 &&& (9223372036854775807 : Int64)))])) t_
      rw [hlc2, if_neg hc33_3] at k_
      exact k_
  refine own_of (T' := s₁) (f' := (mkF m 47 #[.val (.int p0), .val (.long q1), .second, .val (.long q2), .second, .val (.int p3), .val (.int p4), .val (.long q5), .second, .val (.long lc), .second, .val (.long sc), .second, .val (.int l2), .unset, .unset, .unset, .unset, .unset, .unset, .unset, .unset] [(.long lc2)])) st4 ?_
  have nlc2 : ¬ lc2 < (0 : Int64) := by rw [hlc2]; exact own_nn2 _ _ _ nlc (own_nn _ _ rfl)
  refine own_of (T' := s₁) (f' := (mkF m 53 #[.val (.int p0), .val (.long q1), .second, .val (.long q2), .second, .val (.int p3), .val (.int p4), .val (.long q5), .second, .val (.long lc), .second, .val (.long sc), .second, .val (.int l2), .val (.long lc2), .second, .unset, .unset, .unset, .unset, .unset, .unset] [(.int (p3 &&& (4 : Int32)))])) (fun t_ k_ => (XS.lstore X0.here hx rfl (Jvm.hb hby at_47) rfl (l' := #[.val (.int p0), .val (.long q1), .second, .val (.long q2), .second, .val (.int p3), .val (.int p4), .val (.long q5), .second, .val (.long lc), .second, .val (.long sc), .second, .val (.int l2), .val (.long lc2), .second, .unset, .unset, .unset, .unset, .unset, .unset]) rfl (XS.iload X0.here hx rfl (Jvm.hb hby at_49) rfl (XS.iconst X0.here hx rfl (Jvm.hb hby at_51) (XS.iand X0.here hx rfl (Jvm.hb hby at_52) rfl k_))))) ?_
  obtain ⟨sc2, hsc2⟩ : ∃ z : Int64, z = (if (p3 &&& (4 : Int32)) = (0 : Int32) then sc else (q5 &&& (9223372036854775807 : Int64))) := ⟨_, rfl⟩
  have st6 : ∀ t_, Steps p.tables e below (s₁.setTop (mkF m 67 #[.val (.int p0), .val (.long q1), .second, .val (.long q2), .second, .val (.int p3), .val (.int p4), .val (.long q5), .second, .val (.long lc), .second, .val (.long sc), .second, .val (.int l2), .val (.long lc2), .second, .unset, .unset, .unset, .unset, .unset, .unset] [(.long sc2)])) t_ → Steps p.tables e below (s₁.setTop (mkF m 53 #[.val (.int p0), .val (.long q1), .second, .val (.long q2), .second, .val (.int p3), .val (.int p4), .val (.long q5), .second, .val (.long lc), .second, .val (.long sc), .second, .val (.int l2), .val (.long lc2), .second, .unset, .unset, .unset, .unset, .unset, .unset] [(.int (p3 &&& (4 : Int32)))])) t_ := by
    intro t_ k_
    by_cases hc53_5 : ((p3 &&& (4 : Int32)) = (0 : Int32))
    · skip
      refine (XS.ifYes X0.here hx rfl (pc0 := 53) (pc' := 65) rfl (Jvm.hb hby at_53) rfl ((if0 _ _).trans (teq hc53_5).1) (by decide) (by decide) (XS.lload X0.here hx rfl (Jvm.hb hby at_65) rfl ?_))
      show Steps p.tables e below (s₁.setTop (mkF m 67 #[.val (.int p0), .val (.long q1), .second, .val (.long q2), .second, .val (.int p3), .val (.int p4), .val (.long q5), .second, .val (.long lc), .second, .val (.long sc), .second, .val (.int l2), .val (.long lc2), .second, .unset, .unset, .unset, .unset, .unset, .unset] [(.long sc)])) t_
      rw [hsc2, if_pos hc53_5] at k_
      exact k_
    · skip
      refine (XS.ifNo X0.here hx rfl (Jvm.hb hby at_53) rfl ((if0 _ _).trans (feq hc53_5).1) (XS.lload X0.here hx rfl (Jvm.hb hby at_56) rfl (Jvm.Stand.ldc2J X0 hx hown (mvT hZ (hw _ (List.mem_of_getElem? (i := 0) rfl))) rfl (Jvm.hb hby at_58) (XS.land X0.here hx rfl (Jvm.hb hby at_61) rfl (XS.goto X0.here hx rfl (pc0 := 62) (pc' := 67) rfl (Jvm.hb hby at_62) (by decide) (by decide) ?_)))))
      show Steps p.tables e below (s₁.setTop (mkF m 67 #[.val (.int p0), .val (.long q1), .second, .val (.long q2), .second, .val (.int p3), .val (.int p4), .val (.long q5), .second, .val (.long lc), .second, .val (.long sc), .second, .val (.int l2), .val (.long lc2), .second, .unset, .unset, .unset, .unset, .unset, .unset] [(.long (q5 &&& (9223372036854775807 : Int64)))])) t_
      rw [hsc2, if_neg hc53_5] at k_
      exact k_
  refine own_of (T' := s₁) (f' := (mkF m 67 #[.val (.int p0), .val (.long q1), .second, .val (.long q2), .second, .val (.int p3), .val (.int p4), .val (.long q5), .second, .val (.long lc), .second, .val (.long sc), .second, .val (.int l2), .val (.long lc2), .second, .unset, .unset, .unset, .unset, .unset, .unset] [(.long sc2)])) st6 ?_
  have nsc2 : ¬ sc2 < (0 : Int64) := by rw [hsc2]; exact own_nn2 _ _ _ nsc (own_nn _ _ rfl)
  refine own_of (T' := s₁) (f' := (mkF m 69 #[.val (.int p0), .val (.long q1), .second, .val (.long q2), .second, .val (.int p3), .val (.int p4), .val (.long q5), .second, .val (.long lc), .second, .val (.long sc), .second, .val (.int l2), .val (.long lc2), .second, .val (.long sc2), .second, .unset, .unset, .unset, .unset] [])) (fun t_ k_ => (XS.lstore X0.here hx rfl (Jvm.hb hby at_67) rfl (l' := #[.val (.int p0), .val (.long q1), .second, .val (.long q2), .second, .val (.int p3), .val (.int p4), .val (.long q5), .second, .val (.long lc), .second, .val (.long sc), .second, .val (.int l2), .val (.long lc2), .second, .val (.long sc2), .second, .unset, .unset, .unset, .unset]) rfl k_)) ?_
  obtain ⟨T7, h7, X7, e7, E7, A7, D7, -, st7⟩ := newO X0 hx hZ hown (hw _ (List.mem_of_getElem? (i := 1) rfl)) (hw _ (List.mem_of_getElem? (i := 2) rfl)) (hw _ (List.mem_of_getElem? (i := 3) rfl)) e0 (g := (mkF m 69 #[.val (.int p0), .val (.long q1), .second, .val (.long q2), .second, .val (.int p3), .val (.int p4), .val (.long q5), .second, .val (.long lc), .second, .val (.long sc), .second, .val (.int l2), .val (.long lc2), .second, .val (.long sc2), .second, .unset, .unset, .unset, .unset] [])) rfl (Jvm.hb hby at_69) (by decide) (by decide)
  obtain ⟨a, g7⟩ : ∃ z, z = h0.size := ⟨_, rfl⟩
  rw [← g7] at A7 D7 st7
  have ne_ia_a : ia ≠ a := by rw [g7]; exact Nat.ne_of_lt EI.lt
  have g_a : n0 ≤ a := Nat.le_trans Z0 (Nat.le_of_eq g7.symm)
  have f8 := Nat.le_trans Z0 E7.1
  have f9 := SI.ext E7
  have f10 := EI.ext E7
  have f11 : Fld Z h7 a "com/example/suspicion/suspicion/election/Robust$Alive" "_leader" "I" (.int (0 : Int32)) := D7 (Or.inr (hw _ (List.mem_of_getElem? (i := 11) rfl))) (ty := .int) (by decide)
  have f12 : Fld Z h7 a "com/example/suspicion/suspicion/election/Robust$Alive" "_leaderCounter" "J" (.long (0 : Int64)) := D7 (Or.inr (hw _ (List.mem_of_getElem? (i := 13) rfl))) (ty := .long) (by decide)
  have f13 : Fld Z h7 a "com/example/suspicion/suspicion/election/Robust$Alive" "_senderCounter" "J" (.long (0 : Int64)) := D7 (Or.inr (hw _ (List.mem_of_getElem? (i := 15) rfl))) (ty := .long) (by decide)
  refine own_of (T' := T7) (f' := (mkF m 78 #[.val (.int p0), .val (.long q1), .second, .val (.long q2), .second, .val (.int p3), .val (.int p4), .val (.long q5), .second, .val (.long lc), .second, .val (.long sc), .second, .val (.int l2), .val (.long lc2), .second, .val (.long sc2), .second, .unset, .unset, .unset, .unset] [(.long sc), (.long lc), (.int p0), (.ref a), (.ref a)])) (fun t_ k_ => (st7 _ (XS.dup X7.here hx rfl (Jvm.hb hby at_72) rfl rfl (XS.iloadN X7.here hx rfl (Jvm.hb hby at_73) rfl (XS.lload X7.here hx rfl (Jvm.hb hby at_74) rfl (XS.lload X7.here hx rfl (Jvm.hb hby at_76) rfl k_)))))) ?_
  obtain ⟨_, _, ⟨T14, L14, k14, n14⟩, -, X14, ⟨Lc14, hQ14, l14, y14, z14⟩, st14⟩ := X7.specialBack hx (y := (⟨"com/example/suspicion/suspicion/election/Robust$Alive", "<init>", "(IJJ)V"⟩ : MethodName)) rfl hown (mvT hZ (hw _ (List.mem_of_getElem? (i := 4) rfl))) (mvT hZ (hw _ (List.mem_of_getElem? (i := 5) rfl))) (mvT hZ (hw _ (List.mem_of_getElem? (i := 6) rfl))) (by decide) (backOf (W := 1) (own_rm_init l Z a0 hw [] a p0 lc sc h7 n0 f8 f11 f12 f13 A7 g_a nlc nsc) hZ (hw _ (List.mem_of_getElem? (i := 6) rfl)) (hw _ (List.mem_of_getElem? (i := 3) rfl)) (by decide) (by decide)) (g := (mkF m 78 #[.val (.int p0), .val (.long q1), .second, .val (.long q2), .second, .val (.int p3), .val (.int p4), .val (.long q5), .second, .val (.long lc), .second, .val (.long sc), .second, .val (.int l2), .val (.long lc2), .second, .val (.long sc2), .second, .unset, .unset, .unset, .unset] [(.long sc), (.long lc), (.int p0), (.ref a), (.ref a)])) rfl (by rw [hml]; rfl) (Steps.refl _) (a := a) (argsL := [(.int p0), (.long lc), (.long sc)]) (rest := [(.ref a)]) (lenOf own_pd_0 rfl) rfl (by show 2 * 0 + _ ≤ _; exact Nat.le_of_eq rfl) (Jvm.hb hby at_78) (fun _ _ => ⟨rfl, e7, Nat.le_of_ble_eq_true rfl, Nat.le_of_ble_eq_true rfl⟩)
  dsimp only [Pt.U, Pt.locs, Pt.cells, Pt.slots] at X14 l14 y14 z14 st14 hQ14
  subst l14 y14 z14
  obtain ⟨rfl, N14, K14, Ex14, Fa14, Fb14, Fc14⟩ := hQ14
  have N15 := Fr.app N0 N14
  have f16 := Nat.le_trans f8 K14.1
  have f17 := own_stakeep f9 K14 (allS (own_plainE A7) all0)
  have f18 := f10.keep K14
  have f19 := A7.keep K14
  refine own_of (T' := T14) (f' := (mkF m 89 #[.val (.int p0), .val (.long q1), .second, .val (.long q2), .second, .val (.int p3), .val (.int p4), .val (.long q5), .second, .val (.long lc), .second, .val (.long sc), .second, .val (.int l2), .val (.long lc2), .second, .val (.long sc2), .second, .val (.ref a), .unset, .unset, .unset] [(.int (((p3.toUInt32 >>> ((3 : Int32) &&& 31).toUInt32).toInt32) &&& (3 : Int32)))])) (fun t_ k_ => (st14.trans (XS.astore X14.here hx rfl (Jvm.hb hby at_81) rfl rfl (l' := #[.val (.int p0), .val (.long q1), .second, .val (.long q2), .second, .val (.int p3), .val (.int p4), .val (.long q5), .second, .val (.long lc), .second, .val (.long sc), .second, .val (.int l2), .val (.long lc2), .second, .val (.long sc2), .second, .val (.ref a), .unset, .unset, .unset]) rfl (XS.iload X14.here hx rfl (Jvm.hb hby at_83) rfl (XS.iconst X14.here hx rfl (Jvm.hb hby at_85) (XS.iushr X14.here hx rfl (Jvm.hb hby at_86) rfl (XS.iconst X14.here hx rfl (Jvm.hb hby at_87) (XS.iand X14.here hx rfl (Jvm.hb hby at_88) rfl k_)))))))) ?_
  obtain ⟨kd, hkd⟩ : ∃ z : Int32, (((p3.toUInt32 >>> ((3 : Int32) &&& 31).toUInt32).toInt32) &&& (3 : Int32)) = z := ⟨_, rfl⟩
  rw [hkd]
  refine own_of (T' := T14) (f' := (mkF m 94 #[.val (.int p0), .val (.long q1), .second, .val (.long q2), .second, .val (.int p3), .val (.int p4), .val (.long q5), .second, .val (.long lc), .second, .val (.long sc), .second, .val (.int l2), .val (.long lc2), .second, .val (.long sc2), .second, .val (.ref a), .val (.int kd), .unset, .unset] [(.int (1 : Int32)), (.int kd)])) (fun t_ k_ => (XS.istore X14.here hx rfl (Jvm.hb hby at_89) rfl (l' := #[.val (.int p0), .val (.long q1), .second, .val (.long q2), .second, .val (.int p3), .val (.int p4), .val (.long q5), .second, .val (.long lc), .second, .val (.long sc), .second, .val (.int l2), .val (.long lc2), .second, .val (.long sc2), .second, .val (.ref a), .val (.int kd), .unset, .unset]) rfl (XS.iload X14.here hx rfl (Jvm.hb hby at_91) rfl (XS.iconst X14.here hx rfl (Jvm.hb hby at_93) k_)))) ?_
  by_cases hc94_23 : (kd = (1 : Int32))
  · skip
    refine own_of (T' := T14) (f' := (mkF m 101 #[.val (.int p0), .val (.long q1), .second, .val (.long q2), .second, .val (.int p3), .val (.int p4), .val (.long q5), .second, .val (.long lc), .second, .val (.long sc), .second, .val (.int l2), .val (.long lc2), .second, .val (.long sc2), .second, .val (.ref a), .val (.int kd), .unset, .unset] [(.ref a), (.ref a)])) (fun t_ k_ => (XS.icmpNo X14.here hx rfl (Jvm.hb hby at_94) rfl (teq hc94_23).2 (XS.aload X14.here hx rfl (Jvm.hb hby at_97) rfl rfl (XS.aload X14.here hx rfl (Jvm.hb hby at_99) rfl rfl k_)))) ?_
    obtain ⟨cq25, kq25, q25a, q25b, q25c⟩ := isOf hZ rfl Ex14
    obtain ⟨_, _, ⟨T24, L24, k24, n24⟩, -, X24, ⟨Lc24, hQ24, l24, y24, z24⟩, st24⟩ := X14.virtualBack hx (y := (⟨"com/example/suspicion/suspicion/election/Robust$Alive", "equals", "(Ljava/lang/Object;)Z"⟩ : MethodName)) (z := (⟨"com/example/suspicion/suspicion/election/Robust$Alive", "equals", "(Ljava/lang/Object;)Z"⟩ : MethodName)) hown (mvT hZ (hw _ (List.mem_of_getElem? (i := 16) rfl))) (mvT hZ (hw _ (List.mem_of_getElem? (i := 17) rfl))) (notFace_of_selects (args := #[]) (mvT hZ (hw _ (List.mem_of_getElem? (i := 19) rfl)))) (mvT hZ (hw _ (List.mem_of_getElem? (i := 19) rfl))) (mvT hZ (hw _ (List.mem_of_getElem? (i := 18) rfl))) (by decide) (backOf (W := 0) (own_rm_eqS l Z a0 hw [] a T14.heap n0 f16) hZ (hw _ (List.mem_of_getElem? (i := 20) rfl)) (hw _ (List.mem_of_getElem? (i := 3) rfl)) (by decide) (by decide)) q25a q25c (g := (mkF m 101 #[.val (.int p0), .val (.long q1), .second, .val (.long q2), .second, .val (.int p3), .val (.int p4), .val (.long q5), .second, .val (.long lc), .second, .val (.long sc), .second, .val (.int l2), .val (.long lc2), .second, .val (.long sc2), .second, .val (.ref a), .val (.int kd), .unset, .unset] [(.ref a), (.ref a)])) rfl (by rw [hml]; rfl) (Steps.refl _) (argsL := [(.ref a)]) (rest := []) (lenOf own_pd_1 rfl) rfl (by show 2 * 0 + _ ≤ _; exact Nat.le_of_eq rfl) (Jvm.hb hby at_101) (fun _ _ => ⟨rfl, rfl, Nat.le_of_ble_eq_true rfl, Nat.le_of_ble_eq_true rfl⟩)
    dsimp only [Pt.U, Pt.locs, Pt.cells, Pt.slots] at X24 l24 y24 z24 st24 hQ24
    subst l24 y24 z24
    obtain ⟨rfl, N24, e24⟩ := hQ24
    have N26 := Fr.app N15 N24
    refine own_of (T' := T24) (f' := (mkF m 104 #[.val (.int p0), .val (.long q1), .second, .val (.long q2), .second, .val (.int p3), .val (.int p4), .val (.long q5), .second, .val (.long lc), .second, .val (.long sc), .second, .val (.int l2), .val (.long lc2), .second, .val (.long sc2), .second, .val (.ref a), .val (.int kd), .unset, .unset] [(.int (1 : Int32))])) (fun t_ k_ => (st24.trans k_)) ?_
    obtain ⟨fs, hr, hrun, hended, hW, hsame⟩ := X24.leave (v := some (.int (1 : Int32))) (fun h => by rw [Bd.returns] at h; cases h)
    exact ⟨_, _, retN X24 hx (t := .boolean) Bd.returns (by simp) (Jvm.hb hby at_104) hr, hrun, hended, _, _, rfl, (by show own_Q_0 Z p0 q1 q2 p3 p4 q5 ia h0 n0 _ T24.heap _; rw [e24]; exact ⟨rfl, N26⟩), ⟨_, rfl⟩, hW, hsame.mono (by decide) (by decide)⟩
  · skip
    refine own_of (T' := T14) (f' := (mkF m 108 #[.val (.int p0), .val (.long q1), .second, .val (.long q2), .second, .val (.int p3), .val (.int p4), .val (.long q5), .second, .val (.long lc), .second, .val (.long sc), .second, .val (.int l2), .val (.long lc2), .second, .val (.long sc2), .second, .val (.ref a), .val (.int kd), .unset, .unset] [(.int (2 : Int32)), (.int kd)])) (fun t_ k_ => (XS.icmpYes X14.here hx rfl (pc0 := 94) (pc' := 105) rfl (Jvm.hb hby at_94) rfl (feq hc94_23).2 (by decide) (by decide) (XS.iload X14.here hx rfl (Jvm.hb hby at_105) rfl (XS.iconst X14.here hx rfl (Jvm.hb hby at_107) k_)))) ?_
    by_cases hc108_27 : (kd = (2 : Int32))
    · skip
      obtain ⟨T28, X28, e28, st28⟩ := getS2 X14 hx hZ hown (host := "") (Or.inl (hw _ (List.mem_of_getElem? (i := 23) rfl))) Via.refl rfl f17 (g := (mkF m 113 #[.val (.int p0), .val (.long q1), .second, .val (.long q2), .second, .val (.int p3), .val (.int p4), .val (.long q5), .second, .val (.long lc), .second, .val (.long sc), .second, .val (.int l2), .val (.long lc2), .second, .val (.long sc2), .second, .val (.ref a), .val (.int kd), .unset, .unset] [(.ref a)])) rfl (Jvm.hb hby at_113)
      refine own_of (T' := T28) (f' := (mkF m 116 #[.val (.int p0), .val (.long q1), .second, .val (.long q2), .second, .val (.int p3), .val (.int p4), .val (.long q5), .second, .val (.long lc), .second, .val (.long sc), .second, .val (.int l2), .val (.long lc2), .second, .val (.long sc2), .second, .val (.ref a), .val (.int kd), .unset, .unset] [(.ref ia), (.ref a)])) (fun t_ k_ => (XS.icmpNo X14.here hx rfl (Jvm.hb hby at_108) rfl (teq hc108_27).2 (XS.aload X14.here hx rfl (Jvm.hb hby at_111) rfl rfl (st28 _ k_)))) ?_
      obtain ⟨cq30, kq30, q30a, q30b, q30c⟩ := isOf hZ e28 Ex14
      obtain ⟨_, _, ⟨T29, L29, k29, n29⟩, -, X29, ⟨Lc29, hQ29, l29, y29, z29⟩, st29⟩ := X28.virtualBack hx (y := (⟨"com/example/suspicion/suspicion/election/Robust$Alive", "equals", "(Ljava/lang/Object;)Z"⟩ : MethodName)) (z := (⟨"com/example/suspicion/suspicion/election/Robust$Alive", "equals", "(Ljava/lang/Object;)Z"⟩ : MethodName)) hown (mvT hZ (hw _ (List.mem_of_getElem? (i := 16) rfl))) (mvT hZ (hw _ (List.mem_of_getElem? (i := 17) rfl))) (notFace_of_selects (args := #[]) (mvT hZ (hw _ (List.mem_of_getElem? (i := 19) rfl)))) (mvT hZ (hw _ (List.mem_of_getElem? (i := 19) rfl))) (mvT hZ (hw _ (List.mem_of_getElem? (i := 18) rfl))) (by decide) (backOf (W := 0) (own_rm_eqC l Z a0 hw [] a ia T14.heap n0 f16 (Ne.symm ne_ia_a) f18) hZ (hw _ (List.mem_of_getElem? (i := 20) rfl)) (hw _ (List.mem_of_getElem? (i := 3) rfl)) (by decide) (by decide)) q30a q30c (g := (mkF m 116 #[.val (.int p0), .val (.long q1), .second, .val (.long q2), .second, .val (.int p3), .val (.int p4), .val (.long q5), .second, .val (.long lc), .second, .val (.long sc), .second, .val (.int l2), .val (.long lc2), .second, .val (.long sc2), .second, .val (.ref a), .val (.int kd), .unset, .unset] [(.ref ia), (.ref a)])) rfl (by rw [hml]; rfl) (Steps.refl _) (argsL := [(.ref ia)]) (rest := []) (lenOf own_pd_1 rfl) rfl (by show 2 * 0 + _ ≤ _; exact Nat.le_of_eq rfl) (Jvm.hb hby at_116) (fun _ _ => ⟨rfl, e28, Nat.le_of_ble_eq_true rfl, Nat.le_of_ble_eq_true rfl⟩)
      dsimp only [Pt.U, Pt.locs, Pt.cells, Pt.slots] at X29 l29 y29 z29 st29 hQ29
      subst l29 y29 z29
      obtain ⟨rfl, N29, e29⟩ := hQ29
      have N31 := Fr.app N15 N29
      refine own_of (T' := T29) (f' := (mkF m 127 #[.val (.int p0), .val (.long q1), .second, .val (.long q2), .second, .val (.int p3), .val (.int p4), .val (.long q5), .second, .val (.long lc), .second, .val (.long sc), .second, .val (.int l2), .val (.long lc2), .second, .val (.long sc2), .second, .val (.ref a), .val (.int kd), .unset, .unset] [(.int (1 : Int32))])) (fun t_ k_ => (st29.trans (XS.ifNo X29.here hx rfl (Jvm.hb hby at_119) rfl ((if0 _ _).trans (teq rfl).2) (XS.iconst X29.here hx rfl (Jvm.hb hby at_122) (XS.goto X29.here hx rfl (pc0 := 123) (pc' := 127) rfl (Jvm.hb hby at_123) (by decide) (by decide) k_))))) ?_
      obtain ⟨fs, hr, hrun, hended, hW, hsame⟩ := X29.leave (v := some (.int (1 : Int32))) (fun h => by rw [Bd.returns] at h; cases h)
      exact ⟨_, _, retN X29 hx (t := .boolean) Bd.returns (by simp) (Jvm.hb hby at_127) hr, hrun, hended, _, _, rfl, (by show own_Q_0 Z p0 q1 q2 p3 p4 q5 ia h0 n0 _ T29.heap _; rw [e29]; exact ⟨rfl, N31⟩), ⟨_, rfl⟩, hW, hsame.mono (by decide) (by decide)⟩
    · skip
      refine own_of (T' := T14) (f' := (mkF m 131 #[.val (.int p0), .val (.long q1), .second, .val (.long q2), .second, .val (.int p3), .val (.int p4), .val (.long q5), .second, .val (.long lc), .second, .val (.long sc), .second, .val (.int l2), .val (.long lc2), .second, .val (.long sc2), .second, .val (.ref a), .val (.int kd), .unset, .unset] [(.int (3 : Int32)), (.int kd)])) (fun t_ k_ => (XS.icmpYes X14.here hx rfl (pc0 := 108) (pc' := 128) rfl (Jvm.hb hby at_108) rfl (feq hc108_27).2 (by decide) (by decide) (XS.iload X14.here hx rfl (Jvm.hb hby at_128) rfl (XS.iconst X14.here hx rfl (Jvm.hb hby at_130) k_)))) ?_
      by_cases hc131_32 : (kd = (3 : Int32))
      · skip
        refine own_of (T' := T14) (f' := (mkF m 137 #[.val (.int p0), .val (.long q1), .second, .val (.long q2), .second, .val (.int p3), .val (.int p4), .val (.long q5), .second, .val (.long lc), .second, .val (.long sc), .second, .val (.int l2), .val (.long lc2), .second, .val (.long sc2), .second, .val (.ref a), .val (.int kd), .unset, .unset] [.null, (.ref a)])) (fun t_ k_ => (XS.icmpNo X14.here hx rfl (Jvm.hb hby at_131) rfl (teq hc131_32).2 (XS.aload X14.here hx rfl (Jvm.hb hby at_134) rfl rfl (XS.aconstNull X14.here hx rfl (Jvm.hb hby at_136) k_)))) ?_
        obtain ⟨cq34, kq34, q34a, q34b, q34c⟩ := isOf hZ rfl Ex14
        obtain ⟨_, _, ⟨T33, L33, k33, n33⟩, -, X33, ⟨Lc33, hQ33, l33, y33, z33⟩, st33⟩ := X14.virtualBack hx (y := (⟨"com/example/suspicion/suspicion/election/Robust$Alive", "equals", "(Ljava/lang/Object;)Z"⟩ : MethodName)) (z := (⟨"com/example/suspicion/suspicion/election/Robust$Alive", "equals", "(Ljava/lang/Object;)Z"⟩ : MethodName)) hown (mvT hZ (hw _ (List.mem_of_getElem? (i := 16) rfl))) (mvT hZ (hw _ (List.mem_of_getElem? (i := 17) rfl))) (notFace_of_selects (args := #[]) (mvT hZ (hw _ (List.mem_of_getElem? (i := 19) rfl)))) (mvT hZ (hw _ (List.mem_of_getElem? (i := 19) rfl))) (mvT hZ (hw _ (List.mem_of_getElem? (i := 18) rfl))) (by decide) (backOf (W := 0) (own_rm_eqN l Z a0 hw [] a T14.heap n0 f16) hZ (hw _ (List.mem_of_getElem? (i := 20) rfl)) (hw _ (List.mem_of_getElem? (i := 3) rfl)) (by decide) (by decide)) q34a q34c (g := (mkF m 137 #[.val (.int p0), .val (.long q1), .second, .val (.long q2), .second, .val (.int p3), .val (.int p4), .val (.long q5), .second, .val (.long lc), .second, .val (.long sc), .second, .val (.int l2), .val (.long lc2), .second, .val (.long sc2), .second, .val (.ref a), .val (.int kd), .unset, .unset] [.null, (.ref a)])) rfl (by rw [hml]; rfl) (Steps.refl _) (argsL := [.null]) (rest := []) (lenOf own_pd_1 rfl) rfl (by show 2 * 0 + _ ≤ _; exact Nat.le_of_eq rfl) (Jvm.hb hby at_137) (fun _ _ => ⟨rfl, rfl, Nat.le_of_ble_eq_true rfl, Nat.le_of_ble_eq_true rfl⟩)
        dsimp only [Pt.U, Pt.locs, Pt.cells, Pt.slots] at X33 l33 y33 z33 st33 hQ33
        subst l33 y33 z33
        obtain ⟨rfl, N33, e33⟩ := hQ33
        have N35 := Fr.app N15 N33
        refine own_of (T' := T33) (f' := (mkF m 148 #[.val (.int p0), .val (.long q1), .second, .val (.long q2), .second, .val (.int p3), .val (.int p4), .val (.long q5), .second, .val (.long lc), .second, .val (.long sc), .second, .val (.int l2), .val (.long lc2), .second, .val (.long sc2), .second, .val (.ref a), .val (.int kd), .unset, .unset] [(.int (1 : Int32))])) (fun t_ k_ => (st33.trans (XS.ifNo X33.here hx rfl (Jvm.hb hby at_140) rfl ((if0 _ _).trans (teq rfl).2) (XS.iconst X33.here hx rfl (Jvm.hb hby at_143) (XS.goto X33.here hx rfl (pc0 := 144) (pc' := 148) rfl (Jvm.hb hby at_144) (by decide) (by decide) k_))))) ?_
        obtain ⟨fs, hr, hrun, hended, hW, hsame⟩ := X33.leave (v := some (.int (1 : Int32))) (fun h => by rw [Bd.returns] at h; cases h)
        exact ⟨_, _, retN X33 hx (t := .boolean) Bd.returns (by simp) (Jvm.hb hby at_148) hr, hrun, hended, _, _, rfl, (by show own_Q_0 Z p0 q1 q2 p3 p4 q5 ia h0 n0 _ T33.heap _; rw [e33]; exact ⟨rfl, N35⟩), ⟨_, rfl⟩, hW, hsame.mono (by decide) (by decide)⟩
      · skip
        refine own_of (T' := T14) (f' := (mkF m 149 #[.val (.int p0), .val (.long q1), .second, .val (.long q2), .second, .val (.int p3), .val (.int p4), .val (.long q5), .second, .val (.long lc), .second, .val (.long sc), .second, .val (.int l2), .val (.long lc2), .second, .val (.long sc2), .second, .val (.ref a), .val (.int kd), .unset, .unset] [])) (fun t_ k_ => (XS.icmpYes X14.here hx rfl (pc0 := 131) (pc' := 149) rfl (Jvm.hb hby at_131) rfl (feq hc131_32).2 (by decide) (by decide) k_)) ?_
        obtain ⟨T36, h36, X36, e36, E36, A36, D36, -, st36⟩ := newO X14 hx hZ hown (hw _ (List.mem_of_getElem? (i := 1) rfl)) (hw _ (List.mem_of_getElem? (i := 2) rfl)) (hw _ (List.mem_of_getElem? (i := 3) rfl)) rfl (g := (mkF m 149 #[.val (.int p0), .val (.long q1), .second, .val (.long q2), .second, .val (.int p3), .val (.int p4), .val (.long q5), .second, .val (.long lc), .second, .val (.long sc), .second, .val (.int l2), .val (.long lc2), .second, .val (.long sc2), .second, .val (.ref a), .val (.int kd), .unset, .unset] [])) rfl (Jvm.hb hby at_149) (by decide) (by decide)
        obtain ⟨b, g36⟩ : ∃ z, z = T14.heap.size := ⟨_, rfl⟩
        rw [← g36] at A36 D36 st36
        have ne_ia_b : ia ≠ b := by rw [g36]; exact Nat.ne_of_lt f18.lt
        have ne_a_b : a ≠ b := by rw [g36]; exact Nat.ne_of_lt Ex14.lt
        have g_b : n0 ≤ b := Nat.le_trans f16 (Nat.le_of_eq g36.symm)
        have f37 := Nat.le_trans f16 E36.1
        have f38 := f17.ext E36
        have f39 := f18.ext E36
        have f40 := Ex14.ext E36
        have f41 := Fa14.ext E36
        have f42 := Fb14.ext E36
        have f43 := Fc14.ext E36
        have f44 : Fld Z h36 b "com/example/suspicion/suspicion/election/Robust$Alive" "_leader" "I" (.int (0 : Int32)) := D36 (Or.inr (hw _ (List.mem_of_getElem? (i := 11) rfl))) (ty := .int) (by decide)
        have f45 : Fld Z h36 b "com/example/suspicion/suspicion/election/Robust$Alive" "_leaderCounter" "J" (.long (0 : Int64)) := D36 (Or.inr (hw _ (List.mem_of_getElem? (i := 13) rfl))) (ty := .long) (by decide)
        have f46 : Fld Z h36 b "com/example/suspicion/suspicion/election/Robust$Alive" "_senderCounter" "J" (.long (0 : Int64)) := D36 (Or.inr (hw _ (List.mem_of_getElem? (i := 15) rfl))) (ty := .long) (by decide)
        refine own_of (T' := T36) (f' := (mkF m 159 #[.val (.int p0), .val (.long q1), .second, .val (.long q2), .second, .val (.int p3), .val (.int p4), .val (.long q5), .second, .val (.long lc), .second, .val (.long sc), .second, .val (.int l2), .val (.long lc2), .second, .val (.long sc2), .second, .val (.ref a), .val (.int kd), .unset, .unset] [(.long sc2), (.long lc2), (.int l2), (.ref b), (.ref b)])) (fun t_ k_ => (st36 _ (XS.dup X36.here hx rfl (Jvm.hb hby at_152) rfl rfl (XS.iload X36.here hx rfl (Jvm.hb hby at_153) rfl (XS.lload X36.here hx rfl (Jvm.hb hby at_155) rfl (XS.lload X36.here hx rfl (Jvm.hb hby at_157) rfl k_)))))) ?_
        obtain ⟨_, _, ⟨T47, L47, k47, n47⟩, -, X47, ⟨Lc47, hQ47, l47, y47, z47⟩, st47⟩ := X36.specialBack hx (y := (⟨"com/example/suspicion/suspicion/election/Robust$Alive", "<init>", "(IJJ)V"⟩ : MethodName)) rfl hown (mvT hZ (hw _ (List.mem_of_getElem? (i := 4) rfl))) (mvT hZ (hw _ (List.mem_of_getElem? (i := 5) rfl))) (mvT hZ (hw _ (List.mem_of_getElem? (i := 6) rfl))) (by decide) (backOf (W := 1) (own_rm_init l Z a0 hw [] b l2 lc2 sc2 h36 n0 f37 f44 f45 f46 A36 g_b nlc2 nsc2) hZ (hw _ (List.mem_of_getElem? (i := 6) rfl)) (hw _ (List.mem_of_getElem? (i := 3) rfl)) (by decide) (by decide)) (g := (mkF m 159 #[.val (.int p0), .val (.long q1), .second, .val (.long q2), .second, .val (.int p3), .val (.int p4), .val (.long q5), .second, .val (.long lc), .second, .val (.long sc), .second, .val (.int l2), .val (.long lc2), .second, .val (.long sc2), .second, .val (.ref a), .val (.int kd), .unset, .unset] [(.long sc2), (.long lc2), (.int l2), (.ref b), (.ref b)])) rfl (by rw [hml]; rfl) (Steps.refl _) (a := b) (argsL := [(.int l2), (.long lc2), (.long sc2)]) (rest := [(.ref b)]) (lenOf own_pd_0 rfl) rfl (by show 2 * 0 + _ ≤ _; exact Nat.le_of_eq rfl) (Jvm.hb hby at_159) (fun _ _ => ⟨rfl, e36, Nat.le_of_ble_eq_true rfl, Nat.le_of_ble_eq_true rfl⟩)
        dsimp only [Pt.U, Pt.locs, Pt.cells, Pt.slots] at X47 l47 y47 z47 st47 hQ47
        subst l47 y47 z47
        obtain ⟨rfl, N47, K47, Ex47, Fa47, Fb47, Fc47⟩ := hQ47
        have N48 := Fr.app N15 N47
        have f49 := Nat.le_trans f37 K47.1
        have f50 := own_stakeep f38 K47 (allS (own_plainE A36) all0)
        have f51 := f39.keep K47
        have f52 := f40.keep K47
        have f53 := f41.keep K47 (ninS ne_a_b nin0)
        have f54 := f42.keep K47 (ninS ne_a_b nin0)
        have f55 := f43.keep K47 (ninS ne_a_b nin0)
        have f56 := A36.keep K47
        refine own_of (T' := T47) (f' := (mkF m 167 #[.val (.int p0), .val (.long q1), .second, .val (.long q2), .second, .val (.int p3), .val (.int p4), .val (.long q5), .second, .val (.long lc), .second, .val (.long sc), .second, .val (.int l2), .val (.long lc2), .second, .val (.long sc2), .second, .val (.ref a), .val (.int kd), .val (.ref b), .unset] [(.int p0), (.int l2)])) (fun t_ k_ => (st47.trans (XS.astore X47.here hx rfl (Jvm.hb hby at_162) rfl rfl (l' := #[.val (.int p0), .val (.long q1), .second, .val (.long q2), .second, .val (.int p3), .val (.int p4), .val (.long q5), .second, .val (.long lc), .second, .val (.long sc), .second, .val (.int l2), .val (.long lc2), .second, .val (.long sc2), .second, .val (.ref a), .val (.int kd), .val (.ref b), .unset]) rfl (XS.iload X47.here hx rfl (Jvm.hb hby at_164) rfl (XS.iloadN X47.here hx rfl (Jvm.hb hby at_166) rfl k_))))) ?_
        obtain ⟨ex, hex⟩ : ∃ z : Int32, z = (if l2 = p0 then (if lc2 = lc then (if sc2 = sc then (1 : Int32) else (0 : Int32)) else (0 : Int32)) else (0 : Int32)) := ⟨_, rfl⟩
        have st63 : ∀ t_, Steps p.tables e below (T47.setTop (mkF m 191 #[.val (.int p0), .val (.long q1), .second, .val (.long q2), .second, .val (.int p3), .val (.int p4), .val (.long q5), .second, .val (.long lc), .second, .val (.long sc), .second, .val (.int l2), .val (.long lc2), .second, .val (.long sc2), .second, .val (.ref a), .val (.int kd), .val (.ref b), .unset] [(.int ex)])) t_ → Steps p.tables e below (T47.setTop (mkF m 167 #[.val (.int p0), .val (.long q1), .second, .val (.long q2), .second, .val (.int p3), .val (.int p4), .val (.long q5), .second, .val (.long lc), .second, .val (.long sc), .second, .val (.int l2), .val (.long lc2), .second, .val (.long sc2), .second, .val (.ref a), .val (.int kd), .val (.ref b), .unset] [(.int p0), (.int l2)])) t_ := by
          intro t_ k_
          by_cases hc167_60 : (l2 = p0)
          · skip
            refine (XS.icmpNo X47.here hx rfl (Jvm.hb hby at_167) rfl (teq hc167_60).2 (XS.lload X47.here hx rfl (Jvm.hb hby at_170) rfl (XS.lload X47.here hx rfl (Jvm.hb hby at_172) rfl (XS.lcmp X47.here hx rfl (Jvm.hb hby at_174) rfl ?_))))
            show Steps p.tables e below (T47.setTop (mkF m 175 #[.val (.int p0), .val (.long q1), .second, .val (.long q2), .second, .val (.int p3), .val (.int p4), .val (.long q5), .second, .val (.long lc), .second, .val (.long sc), .second, .val (.int l2), .val (.long lc2), .second, .val (.long sc2), .second, .val (.ref a), .val (.int kd), .val (.ref b), .unset] [(.int (lcmpW lc2 lc))])) t_
            by_cases hc175_61 : (lc2 = lc)
            · skip
              refine (XS.ifNo X47.here hx rfl (Jvm.hb hby at_175) rfl ((if0 _ _).trans (teq ((lw_eq lc2 lc).mpr hc175_61)).2) (XS.lload X47.here hx rfl (Jvm.hb hby at_178) rfl (XS.lload X47.here hx rfl (Jvm.hb hby at_180) rfl (XS.lcmp X47.here hx rfl (Jvm.hb hby at_182) rfl ?_))))
              show Steps p.tables e below (T47.setTop (mkF m 183 #[.val (.int p0), .val (.long q1), .second, .val (.long q2), .second, .val (.int p3), .val (.int p4), .val (.long q5), .second, .val (.long lc), .second, .val (.long sc), .second, .val (.int l2), .val (.long lc2), .second, .val (.long sc2), .second, .val (.ref a), .val (.int kd), .val (.ref b), .unset] [(.int (lcmpW sc2 sc))])) t_
              by_cases hc183_62 : (sc2 = sc)
              · skip
                refine (XS.ifNo X47.here hx rfl (Jvm.hb hby at_183) rfl ((if0 _ _).trans (teq ((lw_eq sc2 sc).mpr hc183_62)).2) (XS.iconst X47.here hx rfl (Jvm.hb hby at_186) (XS.goto X47.here hx rfl (pc0 := 187) (pc' := 191) rfl (Jvm.hb hby at_187) (by decide) (by decide) ?_)))
                show Steps p.tables e below (T47.setTop (mkF m 191 #[.val (.int p0), .val (.long q1), .second, .val (.long q2), .second, .val (.int p3), .val (.int p4), .val (.long q5), .second, .val (.long lc), .second, .val (.long sc), .second, .val (.int l2), .val (.long lc2), .second, .val (.long sc2), .second, .val (.ref a), .val (.int kd), .val (.ref b), .unset] [(.int (1 : Int32))])) t_
                rw [hex, if_pos hc167_60, if_pos hc175_61, if_pos hc183_62] at k_
                exact k_
              · skip
                refine (XS.ifYes X47.here hx rfl (pc0 := 183) (pc' := 190) rfl (Jvm.hb hby at_183) rfl ((if0 _ _).trans (feq (mt (lw_eq sc2 sc).mp hc183_62)).2) (by decide) (by decide) (XS.iconst X47.here hx rfl (Jvm.hb hby at_190) ?_))
                show Steps p.tables e below (T47.setTop (mkF m 191 #[.val (.int p0), .val (.long q1), .second, .val (.long q2), .second, .val (.int p3), .val (.int p4), .val (.long q5), .second, .val (.long lc), .second, .val (.long sc), .second, .val (.int l2), .val (.long lc2), .second, .val (.long sc2), .second, .val (.ref a), .val (.int kd), .val (.ref b), .unset] [(.int (0 : Int32))])) t_
                rw [hex, if_pos hc167_60, if_pos hc175_61, if_neg hc183_62] at k_
                exact k_
            · skip
              refine (XS.ifYes X47.here hx rfl (pc0 := 175) (pc' := 190) rfl (Jvm.hb hby at_175) rfl ((if0 _ _).trans (feq (mt (lw_eq lc2 lc).mp hc175_61)).2) (by decide) (by decide) (XS.iconst X47.here hx rfl (Jvm.hb hby at_190) ?_))
              show Steps p.tables e below (T47.setTop (mkF m 191 #[.val (.int p0), .val (.long q1), .second, .val (.long q2), .second, .val (.int p3), .val (.int p4), .val (.long q5), .second, .val (.long lc), .second, .val (.long sc), .second, .val (.int l2), .val (.long lc2), .second, .val (.long sc2), .second, .val (.ref a), .val (.int kd), .val (.ref b), .unset] [(.int (0 : Int32))])) t_
              rw [hex, if_pos hc167_60, if_neg hc175_61] at k_
              exact k_
          · skip
            refine (XS.icmpYes X47.here hx rfl (pc0 := 167) (pc' := 190) rfl (Jvm.hb hby at_167) rfl (feq hc167_60).2 (by decide) (by decide) (XS.iconst X47.here hx rfl (Jvm.hb hby at_190) ?_))
            show Steps p.tables e below (T47.setTop (mkF m 191 #[.val (.int p0), .val (.long q1), .second, .val (.long q2), .second, .val (.int p3), .val (.int p4), .val (.long q5), .second, .val (.long lc), .second, .val (.long sc), .second, .val (.int l2), .val (.long lc2), .second, .val (.long sc2), .second, .val (.ref a), .val (.int kd), .val (.ref b), .unset] [(.int (0 : Int32))])) t_
            rw [hex, if_neg hc167_60] at k_
            exact k_
        refine own_of (T' := T47) (f' := (mkF m 191 #[.val (.int p0), .val (.long q1), .second, .val (.long q2), .second, .val (.int p3), .val (.int p4), .val (.long q5), .second, .val (.long lc), .second, .val (.long sc), .second, .val (.int l2), .val (.long lc2), .second, .val (.long sc2), .second, .val (.ref a), .val (.int kd), .val (.ref b), .unset] [(.int ex)])) st63 ?_
        refine own_of (T' := T47) (f' := (mkF m 197 #[.val (.int p0), .val (.long q1), .second, .val (.long q2), .second, .val (.int p3), .val (.int p4), .val (.long q5), .second, .val (.long lc), .second, .val (.long sc), .second, .val (.int l2), .val (.long lc2), .second, .val (.long sc2), .second, .val (.ref a), .val (.int kd), .val (.ref b), .val (.int ex)] [(.ref b), (.ref a)])) (fun t_ k_ => (XS.istore X47.here hx rfl (Jvm.hb hby at_191) rfl (l' := #[.val (.int p0), .val (.long q1), .second, .val (.long q2), .second, .val (.int p3), .val (.int p4), .val (.long q5), .second, .val (.long lc), .second, .val (.long sc), .second, .val (.int l2), .val (.long lc2), .second, .val (.long sc2), .second, .val (.ref a), .val (.int kd), .val (.ref b), .val (.int ex)]) rfl (XS.aload X47.here hx rfl (Jvm.hb hby at_193) rfl rfl (XS.aload X47.here hx rfl (Jvm.hb hby at_195) rfl rfl k_)))) ?_
        obtain ⟨cq65, kq65, q65a, q65b, q65c⟩ := isOf hZ rfl f52
        obtain ⟨_, _, ⟨T64, L64, k64, n64⟩, -, X64, ⟨Lc64, hQ64, l64, y64, z64⟩, st64⟩ := X47.virtualBack hx (y := (⟨"com/example/suspicion/suspicion/election/Robust$Alive", "equals", "(Ljava/lang/Object;)Z"⟩ : MethodName)) (z := (⟨"com/example/suspicion/suspicion/election/Robust$Alive", "equals", "(Ljava/lang/Object;)Z"⟩ : MethodName)) hown (mvT hZ (hw _ (List.mem_of_getElem? (i := 16) rfl))) (mvT hZ (hw _ (List.mem_of_getElem? (i := 17) rfl))) (notFace_of_selects (args := #[]) (mvT hZ (hw _ (List.mem_of_getElem? (i := 19) rfl)))) (mvT hZ (hw _ (List.mem_of_getElem? (i := 19) rfl))) (mvT hZ (hw _ (List.mem_of_getElem? (i := 18) rfl))) (by decide) (backOf (W := 0) (own_rm_eqB l Z a0 hw [] a b p0 l2 lc sc lc2 sc2 T47.heap n0 f49 ne_a_b f52 Ex47 f53 Fa47 f54 Fb47 f55 Fc47) hZ (hw _ (List.mem_of_getElem? (i := 20) rfl)) (hw _ (List.mem_of_getElem? (i := 3) rfl)) (by decide) (by decide)) q65a q65c (g := (mkF m 197 #[.val (.int p0), .val (.long q1), .second, .val (.long q2), .second, .val (.int p3), .val (.int p4), .val (.long q5), .second, .val (.long lc), .second, .val (.long sc), .second, .val (.int l2), .val (.long lc2), .second, .val (.long sc2), .second, .val (.ref a), .val (.int kd), .val (.ref b), .val (.int ex)] [(.ref b), (.ref a)])) rfl (by rw [hml]; rfl) (Steps.refl _) (argsL := [(.ref b)]) (rest := []) (lenOf own_pd_1 rfl) rfl (by show 2 * 0 + _ ≤ _; exact Nat.le_of_eq rfl) (Jvm.hb hby at_197) (fun _ _ => ⟨rfl, rfl, Nat.le_of_ble_eq_true rfl, Nat.le_of_ble_eq_true rfl⟩)
        dsimp only [Pt.U, Pt.locs, Pt.cells, Pt.slots] at X64 l64 y64 z64 st64 hQ64
        subst l64 y64 z64
        obtain ⟨rfl, N64, e64⟩ := hQ64
        have N66 := Fr.app N48 N64
        refine own_of (T' := T64) (f' := (mkF m 202 #[.val (.int p0), .val (.long q1), .second, .val (.long q2), .second, .val (.int p3), .val (.int p4), .val (.long q5), .second, .val (.long lc), .second, .val (.long sc), .second, .val (.int l2), .val (.long lc2), .second, .val (.long sc2), .second, .val (.ref a), .val (.int kd), .val (.ref b), .val (.int ex)] [(.int ex), (.int (if p0 = l2 then (if lc = lc2 then (if sc = sc2 then (1 : Int32) else 0) else 0) else 0))])) (fun t_ k_ => (st64.trans (XS.iload X64.here hx rfl (Jvm.hb hby at_200) rfl k_))) ?_
        have h1 : (if p0 = l2 then (if lc = lc2 then (if sc = sc2 then (1 : Int32) else 0) else 0) else 0) = ex := by rw [hex]; simp only [eq_comm (a := l2) (b := p0), eq_comm (a := lc2) (b := lc), eq_comm (a := sc2) (b := sc)]
        refine own_of (T' := T64) (f' := (mkF m 209 #[.val (.int p0), .val (.long q1), .second, .val (.long q2), .second, .val (.int p3), .val (.int p4), .val (.long q5), .second, .val (.long lc), .second, .val (.long sc), .second, .val (.int l2), .val (.long lc2), .second, .val (.long sc2), .second, .val (.ref a), .val (.int kd), .val (.ref b), .val (.int ex)] [(.ref a), (.ref b)])) (fun t_ k_ => (XS.icmpNo X64.here hx rfl (Jvm.hb hby at_202) rfl (teq h1).2 (XS.aload X64.here hx rfl (Jvm.hb hby at_205) rfl rfl (XS.aload X64.here hx rfl (Jvm.hb hby at_207) rfl rfl k_)))) ?_
        obtain ⟨cq68, kq68, q68a, q68b, q68c⟩ := isOf hZ e64 Ex47
        obtain ⟨_, _, ⟨T67, L67, k67, n67⟩, -, X67, ⟨Lc67, hQ67, l67, y67, z67⟩, st67⟩ := X64.virtualBack hx (y := (⟨"com/example/suspicion/suspicion/election/Robust$Alive", "equals", "(Ljava/lang/Object;)Z"⟩ : MethodName)) (z := (⟨"com/example/suspicion/suspicion/election/Robust$Alive", "equals", "(Ljava/lang/Object;)Z"⟩ : MethodName)) hown (mvT hZ (hw _ (List.mem_of_getElem? (i := 16) rfl))) (mvT hZ (hw _ (List.mem_of_getElem? (i := 17) rfl))) (notFace_of_selects (args := #[]) (mvT hZ (hw _ (List.mem_of_getElem? (i := 19) rfl)))) (mvT hZ (hw _ (List.mem_of_getElem? (i := 19) rfl))) (mvT hZ (hw _ (List.mem_of_getElem? (i := 18) rfl))) (by decide) (backOf (W := 0) (own_rm_eqB l Z a0 hw [] b a l2 p0 lc2 sc2 lc sc T47.heap n0 f49 (Ne.symm ne_a_b) Ex47 f52 Fa47 f53 Fb47 f54 Fc47 f55) hZ (hw _ (List.mem_of_getElem? (i := 20) rfl)) (hw _ (List.mem_of_getElem? (i := 3) rfl)) (by decide) (by decide)) q68a q68c (g := (mkF m 209 #[.val (.int p0), .val (.long q1), .second, .val (.long q2), .second, .val (.int p3), .val (.int p4), .val (.long q5), .second, .val (.long lc), .second, .val (.long sc), .second, .val (.int l2), .val (.long lc2), .second, .val (.long sc2), .second, .val (.ref a), .val (.int kd), .val (.ref b), .val (.int ex)] [(.ref a), (.ref b)])) rfl (by rw [hml]; rfl) (Steps.refl _) (argsL := [(.ref a)]) (rest := []) (lenOf own_pd_1 rfl) rfl (by show 2 * 0 + _ ≤ _; exact Nat.le_of_eq rfl) (Jvm.hb hby at_209) (fun _ _ => ⟨rfl, e64, Nat.le_of_ble_eq_true rfl, Nat.le_of_ble_eq_true rfl⟩)
        dsimp only [Pt.U, Pt.locs, Pt.cells, Pt.slots] at X67 l67 y67 z67 st67 hQ67
        subst l67 y67 z67
        obtain ⟨rfl, N67, e67⟩ := hQ67
        have N69 := Fr.app N66 N67
        refine own_of (T' := T67) (f' := (mkF m 222 #[.val (.int p0), .val (.long q1), .second, .val (.long q2), .second, .val (.int p3), .val (.int p4), .val (.long q5), .second, .val (.long lc), .second, .val (.long sc), .second, .val (.int l2), .val (.long lc2), .second, .val (.long sc2), .second, .val (.ref a), .val (.int kd), .val (.ref b), .val (.int ex)] [(.int (1 : Int32))])) (fun t_ k_ => (st67.trans (XS.iload X67.here hx rfl (Jvm.hb hby at_212) rfl (XS.icmpNo X67.here hx rfl (Jvm.hb hby at_214) rfl (teq hex.symm).2 (XS.iconst X67.here hx rfl (Jvm.hb hby at_217) (XS.goto X67.here hx rfl (pc0 := 218) (pc' := 222) rfl (Jvm.hb hby at_218) (by decide) (by decide) k_)))))) ?_
        obtain ⟨fs, hr, hrun, hended, hW, hsame⟩ := X67.leave (v := some (.int (1 : Int32))) (fun h => by rw [Bd.returns] at h; cases h)
        exact ⟨_, _, retN X67 hx (t := .boolean) Bd.returns (by simp) (Jvm.hb hby at_222) hr, hrun, hended, _, _, rfl, (by show own_Q_0 Z p0 q1 q2 p3 p4 q5 ia h0 n0 _ T67.heap _; rw [e67]; exact ⟨rfl, N69⟩), ⟨_, rfl⟩, hW, hsame.mono (by decide) (by decide)⟩
set_option maxRecDepth 65536 in
set_option maxHeartbeats 40000000 in
theorem own_comes_1 {Post : Tables → Env → Array Value → State → Outcome → State → Prop} (hpost : ∀ tb e args s v u, (limb_1_1.after args s (.returned v) u = true ∧ limb_1_2.after args s (.returned v) u = true ∧ True) → FrameEnd s (.returned v) u (Jvm.fieldLocs frame_1_writes args s ++ Jvm.arrayLocs frame_1_arrays args s ++ Jvm.staticLocs frame_1_statics s) 16 128 → Post tb e args s (.returned v) u) :
    ArmFor flags0 classFile x code maxLocals ret World_1 tables_1 room_1 Calls_1 rest_1 Pre_1 Post := by
  intro l hfl _ _ p e ha hc hk s m args below hf hA hF happ hP
  obtain ⟨hcalls, hrest, hpre⟩ := hP
  obtain ⟨-, -, -, hnamed, -, -, -, hat⟩ := (Spec.applies_iff hf).mp happ
  obtain ⟨hg, hn⟩ := and_e (Cond.before_iff.mp (show (Jvm.Cond.and given_1 narrow_1).before args s = true from hpre))
  obtain ⟨hg0, hg⟩ := and_e hg
  obtain ⟨ga0, hg⟩ := and_e hg
  obtain ⟨ga1, hg⟩ := and_e hg
  obtain ⟨ga2, hg⟩ := and_e hg
  obtain ⟨ga3, hg⟩ := and_e hg
  obtain ⟨ga4, hg⟩ := and_e hg
  have ga5 := hg
  obtain ⟨w0, w1, w2, w3, w4, w5, rfl⟩ : ∃ w0 w1 w2 w3 w4 w5 : Value, args = #[w0, w1, w2, w3, w4, w5] := by
    have hs : args.size = 6 := by simpa [Cond.value, given_1] using hg0
    obtain ⟨L⟩ := args
    match L, hs with
    | [w0, w1, w2, w3, w4, w5], _ => exact ⟨w0, w1, w2, w3, w4, w5, rfl⟩
  have hw := fun d (hd : d ∈ tables_1) => atoms_spec (ws := Jvm.Cond.code x code maxLocals ret :: tables_1) hat d (List.mem_cons_of_mem _ hd)
  have hfit : Fit s := fun {y c} hc i hi => by
    obtain ⟨ha, rfl⟩ := Array.getElem?_eq_some_iff.mp hc
    have q := List.all_eq_true.mp ((Array.all_eq_true_iff_forall_mem.mp hF) _ (Array.getElem_mem ha)) i (List.mem_range.mpr hi)
    simpa [Array.getElem?_eq_getElem hi] using q
  obtain ⟨i0, ei0⟩ := is_v ga0
  obtain rfl : w0 = (.int i0) := Option.some.inj ei0
  obtain ⟨i1, ei1⟩ := isL_v ga1
  obtain rfl : w1 = (.long i1) := Option.some.inj ei1
  obtain ⟨i2, ei2⟩ := isL_v ga2
  obtain rfl : w2 = (.long i2) := Option.some.inj ei2
  obtain ⟨i3, ei3⟩ := is_v ga3
  obtain rfl : w3 = (.int i3) := Option.some.inj ei3
  obtain ⟨i4, ei4⟩ := is_v ga4
  obtain rfl : w4 = (.int i4) := Option.some.inj ei4
  obtain ⟨i5, ei5⟩ := isL_v ga5
  obtain rfl : w5 = (.long i5) := Option.some.inj ei5
  obtain ⟨ia, eI⟩ := exa_v hn
  have EI := Exa.start eI hn
  have SI : Sta s s.heap "com/example/suspicion/suspicion/election/Robust$Accusation" "INSTANCE" "Lcom/example/suspicion/suspicion/election/Robust$Accusation;" (.ref ia) := Sta.start eI (Or.inr ⟨(hw _ (List.mem_of_getElem? (i := 24) rfl)), (hw _ (List.mem_of_getElem? (i := 25) rfl))⟩)
  obtain ⟨n, o, h1, h2, h3, _, L, rfl, ⟨rfl, N⟩, hq⟩ := own_rm_0 l s _ hw tables_1 i0 i1 i2 i3 i4 i5 ia s.heap s.heap.size (Nat.le_refl _) SI EI p e ha hc hk s m _ below hf ((Spec.applies_iff_loose hf).mp happ).1 ⟨rfl, State.Warmed39.refl s, rfl⟩ trivial
  refine ⟨n, _, h1, h2, h3, hpost _ _ _ _ _ _ ⟨Cond.after_iff.mpr rfl, Cond.after_iff.mpr (eq_i res_at (Term.int_eval (1)) rfl), trivial⟩ ⟨hq.1, hq.2.1, (hq.2.2.sift fun y hy => Or.inr (N y hy)).mono (by decide) (by decide)⟩⟩
theorem main_1_1 : Claimed_1_1 := own_comes_1 fun _ _ _ _ _ _ h hF => ⟨h.1, hF⟩
theorem main_1_2 : Claimed_1_2 := own_comes_1 fun _ _ _ _ _ _ h hF => ⟨h.2.1, hF⟩
end Jvm.Pilot.@@N@@
namespace Jvm.Pilot.@@N@@
open Jvm Jvm.ClassFile Sem Op Lib Jvm.Free Jvm.Stand Jvm.Pilot.@@N@@.Jvm.D
/-! MADE BY PROGRAM (witnessworld.py) out of the Statement's table words and the real class files: 11 classes; the members and pool entries that the words name. The judged class is class 1, her method 1. -/
namespace start1
open Jvm.ClassFile
def u (s : String) : CpInfo := .utf8 (stringToUtf16 s)
/-- a pool by its gaps: so many unusable entries, then the entry; so many at the end -/
def gap : Nat → List CpInfo → List CpInfo
  | 0, r => r
  | n + 1, r => .unusable :: gap n r
def poolList (es : List (Nat × CpInfo)) (last : Nat) : List CpInfo := es.foldr (fun e r => gap e.1 (e.2 :: r)) (gap last [])
def pool (es : List (Nat × CpInfo)) (last : Nat) : Array CpInfo := ⟨poolList es last⟩
def fileOf (pool : Array CpInfo) (this : Nat) (attrs : Array Attribute := #[]) (ms : Array MethodInfo := #[]) (fl : Nat := 33) (sup : Nat := 0) (ifs : Array Nat := #[]) (fds : Array FieldInfo := #[]) : ClassFile where
  minorVersion := 0
  majorVersion := 65
  constantPool := pool
  accessFlags := fl
  thisClass := this
  superClass := sup
  interfaces := ifs
  fields := fds
  methods := ms
  attributes := attrs
def plain (name : String) (sup : Option ClassId) : Class where
  name := name
  kind := .ordinary
  loader := none
  accessFlags := 33
  super := sup
  interfaces := #[]
  cf := none
  fields := #[]
  methods := #[]
  instanceTypes := #[]
  staticTypes := #[]
  resolved := #[]
  callSites := []
  init := .initialized
  statics := none
  mirror := none

def pool0 : Array CpInfo := pool [(5, u "<init>"), (0, u "()V"), (1, .class_ 10), (1, u "java/lang/Object")] 113

def k0c0 : Code := { maxStack := 0, maxLocals := 1, code := object_method_1_code, exceptionTable := #[], attributes := #[] }
def k0m0 : Method := { name := "<init>", desc := "()V", sig := { parameters := [], returnType := none }, accessFlags := 1, code := some k0c0 }
/-- java/lang/Object -/
def k0 : Class := { plain "java/lang/Object" none with
  accessFlags := 33
  interfaces := #[]
  cf := some (fileOf pool0 8 #[] #[{ accessFlags := 1, nameIndex := 5, descriptorIndex := 6, attributes := #[] }] 33 0 #[] #[])
  fields := #[]
  methods := #[k0m0]
  instanceTypes := #[]
  staticTypes := #[]
  resolved := Array.replicate 124 none
  statics := none }

def pool1 : Array CpInfo := pool [(2, .class_ 4), (1, u "java/lang/Object"), (0, u "<init>"), (0, u "()V"), (2, .long 9223372036854775807), (1, .class_ 12), (0, u "com/example/suspicion/suspicion/election/Robust$Alive"), (0, .methodref 11 14), (0, .nameAndType 5 15), (0, u "(IJJ)V"), (0, .methodref 11 17), (0, .nameAndType 18 19), (0, u "equals"), (0, u "(Ljava/lang/Object;)Z"), (0, .fieldref 21 22), (0, .class_ 23), (0, .nameAndType 24 25), (0, u "com/example/suspicion/suspicion/election/Robust$Accusation"), (0, u "INSTANCE"), (0, u "Lcom/example/suspicion/suspicion/election/Robust$Accusation;"), (0, .class_ 27), (0, u "com/example/suspicion/suspicion/election/AliveEqualsPinLaw"), (2, u "law"), (0, u "(IJJIIJ)Z")] 8

def k1m0 : Method := { name := "<init>", desc := "()V", sig := { parameters := [], returnType := none }, accessFlags := 1, code := none }
def k1c1 : Code := { maxStack := 7, maxLocals := 22, code := code, exceptionTable := #[], attributes := #[] }
def k1m1 : Method := { name := "law", desc := "(IJJIIJ)Z", sig := { parameters := [.int, .long, .long, .int, .int, .long], returnType := some .boolean }, accessFlags := 9, code := some k1c1 }
/-- com/example/suspicion/suspicion/election/AliveEqualsPinLaw -/
def k1 : Class := { plain "com/example/suspicion/suspicion/election/AliveEqualsPinLaw" (some 0) with
  accessFlags := 49
  interfaces := #[]
  cf := some (fileOf pool1 26 #[] #[{ accessFlags := 1, nameIndex := 5, descriptorIndex := 6, attributes := #[] }, { accessFlags := 9, nameIndex := 30, descriptorIndex := 31, attributes := #[] }] 49 2 #[] #[])
  fields := #[]
  methods := #[k1m0, k1m1]
  instanceTypes := #[]
  staticTypes := #[]
  resolved := Array.replicate 40 none
  statics := none }

def pool2 : Array CpInfo := pool [(1, .class_ 2), (0, u "com/example/suspicion/suspicion/election/Message"), (0, .class_ 4), (0, u "java/lang/Object")] 2

/-- com/example/suspicion/suspicion/election/Message -/
def k2 : Class := { plain "com/example/suspicion/suspicion/election/Message" (some 0) with
  accessFlags := 1537
  interfaces := #[]
  cf := some (fileOf pool2 1 #[] #[] 1537 3 #[] #[])
  fields := #[]
  methods := #[]
  instanceTypes := #[]
  staticTypes := #[]
  resolved := Array.replicate 7 none
  statics := none }

def pool3 : Array CpInfo := pool [(1, .methodref 2 3), (0, .class_ 4), (0, .nameAndType 5 6), (0, u "java/lang/Object"), (0, u "<init>"), (0, u "()V"), (9, .fieldref 17 18), (0, .class_ 19), (0, .nameAndType 20 21), (0, u "com/example/suspicion/suspicion/election/Robust$Alive"), (0, u "_leader"), (0, u "I"), (0, .fieldref 17 23), (0, .nameAndType 24 25), (0, u "_leaderCounter"), (0, u "J"), (0, .fieldref 17 27), (0, .nameAndType 28 25), (0, u "_senderCounter"), (9, .class_ 39), (0, u "com/example/suspicion/suspicion/election/Message"), (0, u "(IJJ)V"), (8, u "equals"), (0, u "(Ljava/lang/Object;)Z"), (5, .class_ 57), (0, u "com/example/suspicion/suspicion/election/Robust")] 18

def k3c0 : Code := { maxStack := 6, maxLocals := 6, code := prog_45_method_1_code, exceptionTable := #[], attributes := #[] }
def k3m0 : Method := { name := "<init>", desc := "(IJJ)V", sig := { parameters := [.int, .long, .long], returnType := none }, accessFlags := 1, code := some k3c0 }
def k3c1 : Code := { maxStack := 4, maxLocals := 3, code := prog_45_method_5_code, exceptionTable := #[], attributes := #[] }
def k3m1 : Method := { name := "equals", desc := "(Ljava/lang/Object;)Z", sig := { parameters := [(.object "java/lang/Object")], returnType := some .boolean }, accessFlags := 1, code := some k3c1 }
/-- com/example/suspicion/suspicion/election/Robust$Alive -/
def k3 : Class := { plain "com/example/suspicion/suspicion/election/Robust$Alive" (some 0) with
  accessFlags := 49
  interfaces := #[2]
  cf := some (fileOf pool3 17 #[.nestHost 56] #[{ accessFlags := 1, nameIndex := 5, descriptorIndex := 40, attributes := #[] }, { accessFlags := 1, nameIndex := 49, descriptorIndex := 50, attributes := #[] }] 49 2 #[38] #[{ accessFlags := 18, nameIndex := 20, descriptorIndex := 21, attributes := #[] }, { accessFlags := 18, nameIndex := 24, descriptorIndex := 25, attributes := #[] }, { accessFlags := 18, nameIndex := 28, descriptorIndex := 25, attributes := #[] }])
  fields := #[{ name := "_leader", type := .int, accessFlags := 18, slot := 0, constantValue := 0 }, { name := "_leaderCounter", type := .long, accessFlags := 18, slot := 1, constantValue := 0 }, { name := "_senderCounter", type := .long, accessFlags := 18, slot := 2, constantValue := 0 }]
  methods := #[k3m0, k3m1]
  instanceTypes := #[.int, .long, .long]
  staticTypes := #[]
  resolved := Array.replicate 76 none
  statics := none }

def pool4 : Array CpInfo := pool [(2, .class_ 4), (1, u "java/lang/Object"), (0, u "<init>"), (0, u "()V"), (2, .class_ 10), (0, u "com/example/suspicion/suspicion/election/Robust$Accusation"), (3, u "INSTANCE"), (0, u "Lcom/example/suspicion/suspicion/election/Robust$Accusation;"), (0, .class_ 17), (0, u "com/example/suspicion/suspicion/election/Message"), (8, .class_ 27), (0, u "com/example/suspicion/suspicion/election/Robust")] 2

def k4m0 : Method := { name := "<init>", desc := "()V", sig := { parameters := [], returnType := none }, accessFlags := 2, code := none }
/-- com/example/suspicion/suspicion/election/Robust$Accusation -/
def k4 : Class := { plain "com/example/suspicion/suspicion/election/Robust$Accusation" (some 0) with
  accessFlags := 49
  interfaces := #[2]
  cf := some (fileOf pool4 9 #[.nestHost 26] #[{ accessFlags := 2, nameIndex := 5, descriptorIndex := 6, attributes := #[] }] 49 2 #[16] #[{ accessFlags := 25, nameIndex := 14, descriptorIndex := 15, attributes := #[] }])
  fields := #[{ name := "INSTANCE", type := (.object "com/example/suspicion/suspicion/election/Robust$Accusation"), accessFlags := 25, slot := 0, constantValue := 0 }]
  methods := #[k4m0]
  instanceTypes := #[]
  staticTypes := #[(.object "com/example/suspicion/suspicion/election/Robust$Accusation")]
  resolved := Array.replicate 30 none
  statics := some 0 }

def pool5 : Array CpInfo := pool [(1, u "java/lang/Cloneable"), (0, .class_ 1), (0, u "java/lang/Object"), (0, .class_ 3)] 3

/-- java/lang/Cloneable -/
def k5 : Class := { plain "java/lang/Cloneable" (some 0) with
  accessFlags := 1537
  interfaces := #[]
  cf := some (fileOf pool5 2 #[] #[] 1537 4 #[] #[])
  fields := #[]
  methods := #[]
  instanceTypes := #[]
  staticTypes := #[]
  resolved := Array.replicate 8 none
  statics := none }

def pool6 : Array CpInfo := pool [(1, u "java/io/Serializable"), (0, .class_ 1), (0, u "java/lang/Object"), (0, .class_ 3)] 3

/-- java/io/Serializable -/
def k6 : Class := { plain "java/io/Serializable" (some 0) with
  accessFlags := 1537
  interfaces := #[]
  cf := some (fileOf pool6 2 #[] #[] 1537 4 #[] #[])
  fields := #[]
  methods := #[]
  instanceTypes := #[]
  staticTypes := #[]
  resolved := Array.replicate 8 none
  statics := none }

/-- the primitive byte -/
def k7 : Class := { plain "byte" none with kind := .primitive 'B', accessFlags := 0x411 }
/-- [B -/
def k8 : Class := { plain "[B" (some 0) with kind := .array 7 .byte, interfaces := #[5, 6], accessFlags := 1041 }

/-- the primitive int -/
def k9 : Class := { plain "int" none with kind := .primitive 'I', accessFlags := 0x411 }
/-- [I -/
def k10 : Class := { plain "[I" (some 0) with kind := .array 9 .int, interfaces := #[5, 6], accessFlags := 1041 }

def heap : Heap := #[{ cls := 4, slots := #[.ref 1], vm := .statics 4 },
  { cls := 4, slots := #[], vm := .none }]
def classes : Array Class := #[k0, k1, k2, k3, k4, k5, k6, k7, k8, k9, k10]
def interned : List (Array UInt16 × Addr) := []
def slotsUsed : Nat := 1
def theMethod : MethodId := ⟨1, 1⟩
def args0 : Array Value := #[.int 5, .long 5, .long 5, .int 5, .int 5, .long 5]
def aboutOver (below : List Frame) : State where
  vm := { classes := classes, interned := interned.toArray }
  heap := heap
  slotsUsed := slotsUsed
  threads := #[{ frames := .invoking theMethod args0 :: below }]
def below0 : List Frame := [.native { method := ⟨0, 0⟩, args := #[] }]
def about1 : State := aboutOver below0
def p0 : Program := .bare "" "" ""
def e0 : Env := launch0.env 0 0 0
theorem w_frames : about1.frames = Frame.invoking theMethod args0 :: below0 := rfl
set_option maxRecDepth 65536 in
theorem w_args : argsFit about1.vm theMethod args0 = true := by decide +kernel
set_option maxRecDepth 65536 in
theorem w_heap : heapFits about1 = true := by decide +kernel
set_option maxRecDepth 65536 in
theorem w_runnable : about1.curStatus? = some .runnable := by decide +kernel
set_option maxRecDepth 65536 in
theorem w_alone : about1.alone = true := by decide +kernel
set_option maxRecDepth 65536 in
theorem w_named : about1.methodNamed? x = some theMethod := by decide +kernel
set_option maxRecDepth 65536 in
theorem w_hears : about1.hears theMethod below0 = true := by decide +kernel
set_option maxRecDepth 65536 in
theorem w_ripe : about1.ripe theMethod args0 below0 = true := by decide +kernel
theorem w_running : about1.status = .running := rfl
set_option maxRecDepth 65536 in
theorem w_room : about1.hasRoom e0.platform room_1 = true :=
  launch0.hasRoom_least _ room_1 (by decide +kernel) (by decide +kernel) (by decide +kernel) (by decide +kernel) (by decide +kernel) (by decide +kernel)
theorem allAtoms_all (ts : List Jvm.Cond) (a : Array Jvm.Value) (st : Jvm.State) : (allAtoms ts).before a st = ts.all (fun c => c.before a st) := by
  induction ts with
  | nil => rfl
  | cons c t ih =>
    show (Jvm.Cond.and c (allAtoms t)).before a st = _
    rw [Jvm.Cond.before_and, ih, List.all_cons]
def words1 : List Jvm.Cond := Jvm.Cond.code x code maxLocals ret :: tables_1
/-- a 'code' word, met by the world's own term for the bytes: nothing is compared byte by byte -/
theorem code_word {y : MethodName} {bytes : ByteArray} {mx : Nat} {rt : Option FieldType} {a : Array Value} {s : State} {m : MethodId} {meth : Method} {c : Code} (h1 : s.methodNamed? y = some m) (h2 : s.vm.method? m = some meth) (h3 : meth.code = some c) (h4 : c.code = bytes)
    (h5 : (c.maxLocals == mx && c.exceptionTable.isEmpty && decide (c.maxStack ≤ mostOperands) && decide (meth.sig.returnType = rt) && !meth.locks && decide (parseMethodDescriptor y.desc = some meth.sig)) = true) : (Jvm.Cond.code y bytes mx rt).before a s = true := by
  simp only [Bool.and_eq_true, beq_iff_eq, Bool.not_eq_true', decide_eq_true_eq] at h5
  obtain ⟨⟨⟨⟨⟨g1, g2⟩, g3⟩, g4⟩, g5⟩, g6⟩ := h5
  simp [Cond.before, Cond.holds, Cond.value, h1, h2, h3, h4, g1, g2, g3, g4, g5, g6]
def isCode : Jvm.Cond → Bool
  | .code _ _ _ _ => true
  | _ => false
theorem all_split {L : List Jvm.Cond} {P : Jvm.Cond → Bool} (h1 : L.all (fun c => isCode c || P c) = true) (h2 : ∀ c ∈ L.filter isCode, P c = true) : L.all P = true := by
  refine List.all_eq_true.mpr fun c hc => ?_
  have h := List.all_eq_true.mp h1 c hc
  rcases Bool.eq_false_or_eq_true (isCode c) with hi | hi
  · exact h2 c (List.mem_filter.mpr ⟨hc, hi⟩)
  · simpa [hi] using h
set_option maxRecDepth 65536 in
theorem w_c0 : (Jvm.Cond.code x code maxLocals ret).before args0 about1 = true := code_word (m := ⟨1, 1⟩) (meth := k1m1) (c := k1c1) (by decide +kernel) rfl rfl rfl (by decide +kernel)
set_option maxRecDepth 65536 in
theorem w_c1 : (Jvm.Cond.code ({ cls := "com/example/suspicion/suspicion/election/Robust$Alive", name := "<init>", desc := "(IJJ)V" } : Jvm.MethodName) prog_45_method_1_code (6 : Nat) (Option.none : Option Jvm.ClassFile.FieldType)).before args0 about1 = true := code_word (m := ⟨3, 0⟩) (meth := k3m0) (c := k3c0) (by decide +kernel) rfl rfl rfl (by decide +kernel)
set_option maxRecDepth 65536 in
theorem w_c2 : (Jvm.Cond.code ({ cls := "java/lang/Object", name := "<init>", desc := "()V" } : Jvm.MethodName) object_method_1_code (1 : Nat) (Option.none : Option Jvm.ClassFile.FieldType)).before args0 about1 = true := code_word (m := ⟨0, 0⟩) (meth := k0m0) (c := k0c0) (by decide +kernel) rfl rfl rfl (by decide +kernel)
set_option maxRecDepth 65536 in
theorem w_c3 : (Jvm.Cond.code ({ cls := "com/example/suspicion/suspicion/election/Robust$Alive", name := "equals", desc := "(Ljava/lang/Object;)Z" } : Jvm.MethodName) prog_45_method_5_code (3 : Nat) (Option.some Jvm.ClassFile.FieldType.boolean)).before args0 about1 = true := code_word (m := ⟨3, 1⟩) (meth := k3m1) (c := k3c1) (by decide +kernel) rfl rfl rfl (by decide +kernel)
def codes1 : List Jvm.Cond := [Jvm.Cond.code x code maxLocals ret, Jvm.Cond.code ({ cls := "com/example/suspicion/suspicion/election/Robust$Alive", name := "<init>", desc := "(IJJ)V" } : Jvm.MethodName) prog_45_method_1_code (6 : Nat) (Option.none : Option Jvm.ClassFile.FieldType), Jvm.Cond.code ({ cls := "java/lang/Object", name := "<init>", desc := "()V" } : Jvm.MethodName) object_method_1_code (1 : Nat) (Option.none : Option Jvm.ClassFile.FieldType), Jvm.Cond.code ({ cls := "com/example/suspicion/suspicion/election/Robust$Alive", name := "equals", desc := "(Ljava/lang/Object;)Z" } : Jvm.MethodName) prog_45_method_5_code (3 : Nat) (Option.some Jvm.ClassFile.FieldType.boolean)]
set_option maxRecDepth 65536 in
theorem codes_eq : words1.filter isCode = codes1 := rfl
theorem w_codes : ∀ c ∈ words1.filter isCode, c.before args0 about1 = true := by
  rw [codes_eq]
  intro c hc
  simp only [codes1, List.mem_cons, List.not_mem_nil, or_false] at hc
  rcases hc with rfl | rfl | rfl | rfl
  · exact w_c0
  · exact w_c1
  · exact w_c2
  · exact w_c3
set_option maxRecDepth 65536 in
theorem w_t1 : (words1.take 24).all (fun c => isCode c || c.before args0 about1) = true := by decide +kernel
set_option maxRecDepth 65536 in
theorem w_t2 : (words1.drop 24).all (fun c => isCode c || c.before args0 about1) = true := by decide +kernel
theorem w_tables : (allAtoms (Jvm.Cond.code x code maxLocals ret :: tables_1)).before args0 about1 = true := by
  rw [allAtoms_all]
  show words1.all (fun c => c.before args0 about1) = true
  refine all_split ?_ w_codes
  rw [← List.take_append_drop 24 words1, List.all_append, w_t1, w_t2]
  rfl
set_option maxRecDepth 65536 in
theorem w_case : (Jvm.Cond.and given_1 narrow_1).before args0 about1 = true := by decide +kernel
theorem w_applies : (headSpec (Jvm.Cond.code x code maxLocals ret :: tables_1) room_1).applies x e0.platform about1 = true :=
  (Spec.applies_iff w_frames).mpr ⟨w_running, w_runnable, w_alone, w_named, w_hears, w_ripe, w_room, w_tables⟩
theorem atStart : AtStart classFile x code maxLocals ret World_1 tables_1 room_1 Calls_1 rest_1 Pre_1 launch0 p0 e0 about1 theMethod args0 below0 :=
  ⟨lists_1, trivial, launch0.admits_env _ _ _, launch0.least_env, fairChoices_fair.cas, fairChoices_fair.clock, w_frames, w_args, w_heap, w_applies, trivial, trivial, w_case⟩
end start1
theorem witness_1 : WitnessClaimed_1 := ⟨start1.p0, start1.e0, start1.about1, start1.theMethod, start1.args0, start1.below0, start1.atStart⟩
end Jvm.Pilot.@@N@@
