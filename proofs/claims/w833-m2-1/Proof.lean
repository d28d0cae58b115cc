import JvmDerived
import JvmDerived.Pilot.@@N@@Statement
import JvmDerived.Pilot.@@N@@Code
set_option linter.unusedVariables false
set_option linter.unusedSimpArgs false
namespace Jvm.Pilot.@@N@@
open Jvm Jvm.ClassFile Sem Op Lib Jvm.Free Jvm.Stand Jvm.LawKit Jvm.RoadKit Bundle Jvm.Pilot.@@N@@.Jvm.D
section OwnKit
variable {p : Program} {l : Launch} {e : Env} {R : Room} {s : State} {m : MethodId} {args : Array Value} {below : List Frame} {meth : Method} {c : Code} {T T' : State} {locs : List Loc} {cells slots : Nat}
/-- from the frame f in the state T the run comes to the method's end, and G holds there -/
def own_Goes (p : Program) (e : Env) (below : List Frame) (G : Outcome → State → Prop) (T : State) (f : JFrame) : Prop :=
  ∃ s₂ o, Steps p.tables e below (T.setTop f) s₂ ∧ s₂.status = .running ∧ Ended s₂ below o ∧ G o s₂
theorem own_of {G : Outcome → State → Prop} {f f' : JFrame} (st : ∀ t, Steps p.tables e below (T'.setTop f') t → Steps p.tables e below (T.setTop f) t) (h : own_Goes p e below G T' f') : own_Goes p e below G T f := by
  obtain ⟨s₂, o, h1, h2⟩ := h
  exact ⟨s₂, o, st _ h1, h2⟩
theorem own_start {G : Outcome → State → Prop} {f f' : JFrame} (q : f = f') (h : own_Goes p e below G T f') : ∃ s₂ o, Steps p.tables e below (T.setTop f) s₂ ∧ s₂.status = .running ∧ Ended s₂ below o ∧ G o s₂ := q ▸ h
theorem own_retI (X : Stand p l e R s m args below meth c T locs cells slots) (hx : p.tables.exec = Jvm.exec) {pc : Nat} {Ls : Array Slot} {z : Int32} {rest : List Value} (hret : meth.sig.returnType = some .int) (hd : decode c.code pc = .ok (.ireturn, 1)) {fs : List Frame}
    (hl : ∀ (f : JFrame) (acts : List Action), f.method = m → f.locked = none → f.entered = [] → (doReturn e (T.setTop f) acts (some (.int z))).1 = T.setFrames fs) : Steps p.tables e below (T.setTop (mkF m pc Ls (.int z :: rest))) (T.setFrames fs) :=
  retOut X hx hret rfl (Or.inl ⟨rfl, Or.inl rfl, _, rfl⟩) hd hl
theorem own_retJ (X : Stand p l e R s m args below meth c T locs cells slots) (hx : p.tables.exec = Jvm.exec) {pc : Nat} {Ls : Array Slot} {z : Int64} {rest : List Value} (hret : meth.sig.returnType = some .long) (hd : decode c.code pc = .ok (.lreturn, 1)) {fs : List Frame}
    (hl : ∀ (f : JFrame) (acts : List Action), f.method = m → f.locked = none → f.entered = [] → (doReturn e (T.setTop f) acts (some (.long z))).1 = T.setFrames fs) : Steps p.tables e below (T.setTop (mkF m pc Ls (.long z :: rest))) (T.setFrames fs) :=
  retOut X hx hret rfl (Or.inr (Or.inl ⟨rfl, rfl, _, rfl⟩)) hd hl
theorem own_retD (X : Stand p l e R s m args below meth c T locs cells slots) (hx : p.tables.exec = Jvm.exec) {pc : Nat} {Ls : Array Slot} {z : UInt64} {rest : List Value} (hret : meth.sig.returnType = some .double) (hd : decode c.code pc = .ok (.dreturn, 1)) {fs : List Frame}
    (hl : ∀ (f : JFrame) (acts : List Action), f.method = m → f.locked = none → f.entered = [] → (doReturn e (T.setTop f) acts (some (.double z))).1 = T.setFrames fs) : Steps p.tables e below (T.setTop (mkF m pc Ls (.double z :: rest))) (T.setFrames fs) :=
  retOut X hx hret rfl (Or.inr (Or.inr (Or.inl ⟨rfl, rfl, _, rfl⟩))) hd hl
theorem own_retA (X : Stand p l e R s m args below meth c T locs cells slots) (hx : p.tables.exec = Jvm.exec) {pc : Nat} {Ls : Array Slot} {z : Value} {rest : List Value} {t : FieldType} (hret : meth.sig.returnType = some t) (ht : t.isReference = true) (hn : narrow t z = z) (hz : z.isRef = true) (hd : decode c.code pc = .ok (.areturn, 1)) {fs : List Frame}
    (hl : ∀ (f : JFrame) (acts : List Action), f.method = m → f.locked = none → f.entered = [] → (doReturn e (T.setTop f) acts (some z)).1 = T.setFrames fs) : Steps p.tables e below (T.setTop (mkF m pc Ls (z :: rest))) (T.setFrames fs) :=
  retOut X hx hret hn (Or.inr (Or.inr (Or.inr (Or.inr ⟨rfl, ht, hz⟩)))) hd hl
theorem own_stakeep {Z : State} {h h' : Heap} {C n d : String} {v : Value} {ws : List Addr} (F : Sta Z h C n d v) (K : Keep h h' ws) (q : ∀ x ∈ ws, ∀ cell : Cell, h[x]? = some cell → cell.vm.isStatics = false) : Sta Z h' C n d v := by
  obtain ⟨cf, i, k, f, st, cell, h1, h2, h3, h4, h5, h6, h7⟩ := F
  exact ⟨cf, i, k, f, st, cell, h1, h2, h3, h4, K.2.1 st cell h5 (fun z => by rw [q st z cell h5] at h6; cases h6), h6, h7⟩
theorem own_plainE {Z : State} {h : Heap} {a : Addr} {C : String} (F : Exa Z h a C) : ∀ cell : Cell, h[a]? = some cell → cell.vm.isStatics = false := fun cell hc => by
  obtain ⟨c', k, h1, -, -, h4, -⟩ := F
  cases h1.symm.trans hc
  exact h4
theorem own_noI {Z : State} {a0 : Array Value} {C K O : String} {n : Nat} (w : (Jvm.Cond.superclass C O).before a0 Z = true) (wo : (Jvm.Cond.noSuperclass O).before a0 Z = true) (wi : (Jvm.Cond.instantiable K n).before a0 Z = true) (hn : C ≠ K) (ho : O ≠ K) : ∃ c t, Z.vm.findClass C = some c ∧ Z.vm.findClass K = some t ∧ Z.vm.assignable c t = false := by
  obtain ⟨t, kt, g0, g2, g5, g7, -, -⟩ := Cond.instantiable_spec wi
  simp only [Bool.or_eq_false_iff] at g7
  obtain ⟨oc, ok, o1, o2, o3, -, -⟩ := Cond.noSuperclass_spec wo
  obtain ⟨c, h0⟩ := found_sup w
  obtain ⟨p, k, kp, h1, h2, h3, h4, h5, -, h7⟩ := Cond.superclass_spec h0 w
  cases o1.symm.trans h1
  have ne := ids_ne h0 g0 hn
  have neo := ids_ne o1 g0 ho
  have n3 : ∀ fuel, Z.vm.isSubclassAux fuel c t = false := fun fuel => by
    cases fuel with
    | zero => rfl
    | succ f =>
      have n4 : Z.vm.isSubclassAux f oc t = false := by
        cases f with
        | zero => rfl
        | succ f => simp [Vm.isSubclassAux, neo, o2, o3]
      simp [Vm.isSubclassAux, ne, h2, h4, n4]
  refine ⟨c, t, h0, g0, ?_⟩
  show Z.vm.assignableAux (255 + 1) c t = false
  simp [Vm.assignableAux, ne, h2, g2, h5, g5, g7, Vm.isSubclass, n3]
theorem own_ask {Z : State} {a0 : Array Value} {h : Heap} {a : Addr} {C K : String} (E : Exa Z h a C) (w : (Jvm.Cond.castable K K).before a0 Z = true) : Ins Z h a K true ∨ ∃ c t, Z.vm.findClass C = some c ∧ Z.vm.findClass K = some t ∧ Z.vm.assignable c t = false := by
  obtain ⟨cell, k, h1, h2, h3, h4, -⟩ := E
  cases ht : Z.vm.findClass K with
  | none => simp [Cond.before, Cond.holds, Cond.value, ht] at w
  | some t =>
    cases ha : Z.vm.assignable cell.cls t with
    | true => exact Or.inl ⟨cell, t, h1, ht, by rw [h4, ha]; rfl⟩
    | false => exact Or.inr ⟨cell.cls, t, h2, rfl, ha⟩
theorem own_dupX2 {tb : Tables} [Ours tb] {e : Env} {below : List Frame} {T target : State} {m : MethodId} {c : Code} {g : JFrame} (h : At T m c below) (hx : tb.exec = Jvm.exec) (hg : g.method = m) {x y z : Value} {rest : List Value} (hd : decode c.code g.pc = .ok (.dup_x2, 1)) (hs : g.stack = x :: y :: z :: rest) (hc : x.category = 1) (hc' : y.category = 1) (hc'' : z.category = 1)
    (hr : Steps tb e below (T.setTop { g with pc := g.pc + 1, stack := x :: y :: z :: x :: rest }) target) : Steps tb e below (T.setTop g) target := by
  subst hg
  jvm_step h [h.top, hx, hd, hs, hc, hc', hc'']
  exact hr
theorem own_dz : FP.dconst0 = FP.l2d 0 := by decide +kernel
theorem own_cat1 {x : Value} (h : x.isRef = true) : x.category = 1 := by cases x <;> first | rfl | cases h
theorem own_astoreN {tb : Tables} [Ours tb] {e : Env} {below : List Frame} {T target : State} {m : MethodId} {c : Code} {g : JFrame} (h : At T m c below) (hx : tb.exec = Jvm.exec) (hg : g.method = m) {k : Fin 4} {x : Value} {rest : List Value} {o : Slot} {l' : Array Slot} (hd : decode c.code g.pc = .ok (.astore_n k, 1)) (hs : g.stack = x :: rest) (hv : x.isRef = true) (hold : g.locals[k.val]? = some o) (ho : One o) (hl : g.locals.setIfInBounds k.val (.val x) = l')
    (hr : Steps tb e below (T.setTop { g with pc := g.pc + 1, stack := rest, locals := l' }) target) : Steps tb e below (T.setTop g) target := XS.astoreN h hx hg hd hs hv (l' := l') (by rw [← hl]; exact XS.store1 hold ho (own_cat1 hv)) hr
theorem own_astore {tb : Tables} [Ours tb] {e : Env} {below : List Frame} {T target : State} {m : MethodId} {c : Code} {g : JFrame} (h : At T m c below) (hx : tb.exec = Jvm.exec) (hg : g.method = m) {k : Nat} {x : Value} {rest : List Value} {o : Slot} {l' : Array Slot} (hd : decode c.code g.pc = .ok (.astore k, 2)) (hs : g.stack = x :: rest) (hv : x.isRef = true) (hold : g.locals[k]? = some o) (ho : One o) (hl : g.locals.setIfInBounds k (.val x) = l')
    (hr : Steps tb e below (T.setTop { g with pc := g.pc + 2, stack := rest, locals := l' }) target) : Steps tb e below (T.setTop g) target := XS.astore h hx hg hd hs hv (l' := l') (by rw [← hl]; exact XS.store1 hold ho (own_cat1 hv)) hr
end OwnKit
theorem own_nn (x y : Int64) (h : x &&& (9223372036854775807 : Int64) = y) : ¬ y < (0 : Int64) := by
  have e : y.toInt = x.toInt % (2 ^ 63 : Nat) := by rw [← h]; exact c_maskL x _ 63 (by decide) (by decide)
  rw [Int64.lt_iff_toInt_lt]
  show ¬ y.toInt < 0
  omega
theorem own_nn2 (P : Prop) [Decidable P] (x y : Int64) (hx : ¬ x < (0 : Int64)) (hy : ¬ y < (0 : Int64)) : ¬ (if P then x else y) < (0 : Int64) := by split <;> assumption
theorem own_pn_0 : plainName "com/example/suspicion/suspicion/election/Counts" = true := by first | (simp [plainName, overriddenIn]; done) | decide +kernel
theorem own_ef_req (m : MethodId) (q1 : Int64) (a2 : Addr) : entryFrame m #[(.long q1), (.ref a2)] 3 = mkF m 0 #[.val (.long q1), .second, .val (.ref a2)] [] := by first | (simp [entryFrame, mkF, argsToLocals, Value.category]; done) | rfl
def own_Q_req (Z : State) (q1 : Int64) (a2 : Addr)  (h0 : Heap) (n0 : Nat) (v : Option Value) (h : Heap) (L : List Loc) : Prop := v = none ∧ Fr n0 L ∧ h = h0
theorem own_d_prog_30_method_2_code_0 : decode prog_30_method_2_code 0 = .ok (.lload_n 0, 1) := by decide +kernel
theorem own_d_prog_30_method_2_code_1 : decode prog_30_method_2_code 1 = .ok (.lconst 0, 1) := by decide +kernel
theorem own_d_prog_30_method_2_code_2 : decode prog_30_method_2_code 2 = .ok (.lcmp, 1) := by decide +kernel
theorem own_d_prog_30_method_2_code_3 : decode prog_30_method_2_code 3 = .ok (.ifCond .ge 18, 3) := by decide +kernel
theorem own_d_prog_30_method_2_code_21 : decode prog_30_method_2_code 21 = .ok (.return_, 1) := by decide +kernel
set_option maxRecDepth 65536 in
set_option maxHeartbeats 40000000 in
theorem own_rm_req (l : Launch) (Z : State) (a0 : Array Value) (hw : ∀ d ∈ tables_1, d.before a0 Z = true) (ws : List Jvm.Cond) (q1 : Int64) (a2 : Addr)  (h0 : Heap) (n0 : Nat) (Z0 : n0 ≤ h0.size) (hq : ¬ q1 < (0 : Int64)) :
    MetFree l (⟨"com/example/suspicion/suspicion/election/Counts", "require", "(JLjava/lang/String;)V"⟩ : MethodName) (head1 (Jvm.Cond.code (⟨"com/example/suspicion/suspicion/election/Counts", "require", "(JLjava/lang/String;)V"⟩ : MethodName) prog_30_method_2_code 3 none :: ws) ({ frames := 0, cells := 0, slots := 0, locals := 0 } : Room)) (fun a U => a = #[(.long q1), (.ref a2)] ∧ Z.Warmed39 U.vm ∧ U.heap = h0) (fun _ _ _ _ _ => True) (fun _ U o U' => ∃ v L, o = .returned v ∧ own_Q_req Z q1 a2  h0 n0 v U'.heap L ∧ FrameEnd U o U' L ({ frames := 0, cells := 0, slots := 0, locals := 0 } : Room).cells ({ frames := 0, cells := 0, slots := 0, locals := 0 } : Room).slots) := by
  refine MetFree.of_bodySF (plainFor_of_name own_pn_0) hisR ?_
  intro p e s m args below meth c s₁ Bd hml0 hP hK
  obtain ⟨rfl, hZ, hh⟩ := hP
  have hx := Bd.exec
  have hby := Bd.bytes
  have hml : c.maxLocals = 3 := hml0
  have hown : s.vm.findClass "com/example/suspicion/suspicion/election/Counts" = some m.cls := findClass_of_methodNamed Bd.named
  have hnm := (name_of_methodNamed Bd.named Bd.method).1
  have X0 : Stand p l e ({ frames := 0, cells := 0, slots := 0, locals := 0 } : Room) s m #[(.long q1), (.ref a2)] below meth c s₁ [] 0 0 := Stand.of_body Bd
  have e0 : s₁.heap = h0 := by rw [← hh, Bd.state]; rfl
  have N0 := Fr.nil n0
  refine own_start (own_ef_req m q1 a2) ?_
  refine own_of (T' := s₁) (f' := (mkF m 21 #[.val (.long q1), .second, .val (.ref a2)] [])) (fun t_ k_ => (XS.lloadN X0.here hx rfl (Jvm.hb hby own_d_prog_30_method_2_code_0) rfl (XS.lconst X0.here hx rfl (Jvm.hb hby own_d_prog_30_method_2_code_1) (XS.lcmp X0.here hx rfl (Jvm.hb hby own_d_prog_30_method_2_code_2) rfl (XS.ifYes X0.here hx rfl (pc0 := 3) (pc' := 21) rfl (Jvm.hb hby own_d_prog_30_method_2_code_3) rfl ((if0 _ _).trans (flt (mt (lw_lt q1 (0 : Int64)).mp hq)).2.1) (by decide) (by decide) k_))))) ?_
  obtain ⟨fs, hr, hrun, hended, hW, hsame⟩ := X0.leave (v := none) (fun _ => rfl)
  exact ⟨_, _, X0.returnOut hx Bd.returns (Jvm.hb hby own_d_prog_30_method_2_code_21) hr, hrun, hended, _, _, rfl, (by show own_Q_req Z q1 a2  h0 n0 _ s₁.heap _; rw [e0]; exact ⟨rfl, N0, rfl⟩), ⟨_, rfl⟩, hW, hsame.mono (by decide) (by decide)⟩
theorem own_pn_1 : plainName "com/example/suspicion/suspicion/election/Efficient$Alive" = true := by first | (simp [plainName, overriddenIn]; done) | decide +kernel
theorem own_ef_init (m : MethodId) (a1 : Addr) (q2 : Int64) (q3 : Int64) : entryFrame m #[(.ref a1), (.long q2), (.long q3)] 5 = mkF m 0 #[.val (.ref a1), .val (.long q2), .second, .val (.long q3), .second] [] := by first | (simp [entryFrame, mkF, argsToLocals, Value.category]; done) | rfl
def own_Q_init (Z : State) (a1 : Addr) (q2 : Int64) (q3 : Int64)  (h0 : Heap) (n0 : Nat) (v : Option Value) (h : Heap) (L : List Loc) : Prop := v = none ∧ Fr n0 L ∧ Keep h0 h [a1] ∧ Exa Z h a1 "com/example/suspicion/suspicion/election/Efficient$Alive" ∧ Fld Z h a1 "com/example/suspicion/suspicion/election/Efficient$Alive" "_counter" "J" (.long q2) ∧ Fld Z h a1 "com/example/suspicion/suspicion/election/Efficient$Alive" "_phase" "J" (.long q3)
theorem own_sA : ∀ a ∈ Bundle.stringAtoms, a ∈ tables_1 := by decide +kernel
theorem own_d_prog_34_method_1_code_0 : decode prog_34_method_1_code 0 = .ok (.aload_n 0, 1) := by decide +kernel
theorem own_d_prog_34_method_1_code_1 : decode prog_34_method_1_code 1 = .ok (.invokespecial 1, 3) := by decide +kernel
theorem own_d_prog_34_method_1_code_4 : decode prog_34_method_1_code 4 = .ok (.lload_n 1, 1) := by decide +kernel
theorem own_d_prog_34_method_1_code_5 : decode prog_34_method_1_code 5 = .ok (.ldc 7, 2) := by decide +kernel
theorem own_d_prog_34_method_1_code_7 : decode prog_34_method_1_code 7 = .ok (.invokestatic 9, 3) := by decide +kernel
theorem own_pd_0 : parseMethodDescriptor "(JLjava/lang/String;)V" = some ⟨[.long, (.object "java/lang/String")], none⟩ := by decide +kernel
theorem own_d_prog_34_method_1_code_10 : decode prog_34_method_1_code 10 = .ok (.lload_n 3, 1) := by decide +kernel
theorem own_d_prog_34_method_1_code_11 : decode prog_34_method_1_code 11 = .ok (.ldc 15, 2) := by decide +kernel
theorem own_d_prog_34_method_1_code_13 : decode prog_34_method_1_code 13 = .ok (.invokestatic 9, 3) := by decide +kernel
theorem own_d_prog_34_method_1_code_16 : decode prog_34_method_1_code 16 = .ok (.aload_n 0, 1) := by decide +kernel
theorem own_d_prog_34_method_1_code_17 : decode prog_34_method_1_code 17 = .ok (.lload_n 1, 1) := by decide +kernel
theorem own_d_prog_34_method_1_code_18 : decode prog_34_method_1_code 18 = .ok (.putfield 17, 3) := by decide +kernel
theorem own_d_prog_34_method_1_code_21 : decode prog_34_method_1_code 21 = .ok (.aload_n 0, 1) := by decide +kernel
theorem own_d_prog_34_method_1_code_22 : decode prog_34_method_1_code 22 = .ok (.lload_n 3, 1) := by decide +kernel
theorem own_d_prog_34_method_1_code_23 : decode prog_34_method_1_code 23 = .ok (.putfield 23, 3) := by decide +kernel
theorem own_d_prog_34_method_1_code_26 : decode prog_34_method_1_code 26 = .ok (.return_, 1) := by decide +kernel
set_option maxRecDepth 65536 in
set_option maxHeartbeats 40000000 in
theorem own_rm_init (l : Launch) (Z : State) (a0 : Array Value) (hw : ∀ d ∈ tables_1, d.before a0 Z = true) (ws : List Jvm.Cond) (a1 : Addr) (q2 : Int64) (q3 : Int64)  (h0 : Heap) (n0 : Nat) (Z0 : n0 ≤ h0.size) (F0 : Fld Z h0 a1 "com/example/suspicion/suspicion/election/Efficient$Alive" "_counter" "J" (.long 0)) (F1 : Fld Z h0 a1 "com/example/suspicion/suspicion/election/Efficient$Alive" "_phase" "J" (.long 0)) (E1 : Exa Z h0 a1 "com/example/suspicion/suspicion/election/Efficient$Alive") (g_a1 : n0 ≤ a1) (hq2 : ¬ q2 < (0 : Int64)) (hq3 : ¬ q3 < (0 : Int64)) :
    MetFree l (⟨"com/example/suspicion/suspicion/election/Efficient$Alive", "<init>", "(JJ)V"⟩ : MethodName) (head1 (Jvm.Cond.code (⟨"com/example/suspicion/suspicion/election/Efficient$Alive", "<init>", "(JJ)V"⟩ : MethodName) prog_34_method_1_code 5 none :: ws) ({ frames := 1, cells := 4, slots := 56, locals := 14 } : Room)) (fun a U => a = #[(.ref a1), (.long q2), (.long q3)] ∧ Z.Warmed39 U.vm ∧ U.heap = h0) (fun _ _ _ _ _ => True) (fun _ U o U' => ∃ v L, o = .returned v ∧ own_Q_init Z a1 q2 q3  h0 n0 v U'.heap L ∧ ReturnedEndW U o U' L ({ frames := 1, cells := 4, slots := 56, locals := 14 } : Room).cells ({ frames := 1, cells := 4, slots := 56, locals := 14 } : Room).slots) := by
  refine MetFree.of_bodySF (plainFor_of_name own_pn_1) hisR ?_
  intro p e s m args below meth c s₁ Bd hml0 hP hK
  obtain ⟨rfl, hZ, hh⟩ := hP
  have hx := Bd.exec
  have hby := Bd.bytes
  have hml : c.maxLocals = 5 := hml0
  have hown : s.vm.findClass "com/example/suspicion/suspicion/election/Efficient$Alive" = some m.cls := findClass_of_methodNamed Bd.named
  have hnm := (name_of_methodNamed Bd.named Bd.method).1
  have hZ : Z.Warmed39 (s.setVm s.vm).vm := hZ
  have hown : (s.setVm s.vm).vm.findClass "com/example/suspicion/suspicion/election/Efficient$Alive" = some m.cls := hown
  have hS : s.Since s.vm h0.size := (State.WarmedH.refl s).since _
  have hwS : ∀ a ∈ Bundle.stringAtoms, a.before a0 Z = true := fun a ha => hw a (own_sA a ha)
  have Y0 : h0.size ≤ h0.size := Nat.le_refl _
  have X0 : Stand p l e ({ frames := 1, cells := 4, slots := 56, locals := 14 } : Room) (s.setVm s.vm) m #[(.ref a1), (.long q2), (.long q3)] below meth c s₁ [] 0 0 := Stand.of_body Bd
  have e0 : s₁.heap = h0 := by rw [← hh, Bd.state]; rfl
  have N0 := Fr.nil n0
  refine own_start (own_ef_init m a1 q2 q3) ?_
  have K0 : Keep h0 h0 [a1] := Keep.refl _ _
  obtain ⟨T1, X1, e1, st1⟩ := initO X0 hx hZ hown (hw _ (List.mem_of_getElem? (i := 7) rfl)) (hw _ (List.mem_of_getElem? (i := 8) rfl)) (hw _ (List.mem_of_getElem? (i := 9) rfl)) e0 (g := (mkF m 1 #[.val (.ref a1), .val (.long q2), .second, .val (.long q3), .second] [(.ref a1)])) rfl (by rw [hml]; rfl) rfl (Jvm.hb hby own_d_prog_34_method_1_code_1) (by decide) (W := 0) (by show 2 * 0 + _ ≤ _; exact Nat.le_of_eq rfl) (by decide)
  refine own_of (T' := T1) (f' := (mkF m 5 #[.val (.ref a1), .val (.long q2), .second, .val (.long q3), .second] [(.long q2)])) (fun t_ k_ => (XS.aloadN X0.here hx rfl (Jvm.hb hby own_d_prog_34_method_1_code_0) rfl rfl (st1 _ (XS.lloadN X1.here hx rfl (Jvm.hb hby own_d_prog_34_method_1_code_4) rfl k_)))) ?_
  obtain ⟨a2, T2, h2, k2, X2, e2, E2, hS, Y2, hZ, hown, st2⟩ := ldcS X1 hx hZ hown (hw _ (List.mem_of_getElem? (i := 10) rfl)) hwS e1 hS Y0 (g := (mkF m 5 #[.val (.ref a1), .val (.long q2), .second, .val (.long q3), .second] [(.long q2)])) rfl (Jvm.hb hby own_d_prog_34_method_1_code_5) (n := 28) (by decide) (by decide) (by decide) (by decide)
  have f3 := K0.ext E2
  have f4 := Nat.le_trans Z0 E2.1
  have f5 := E1.ext E2
  have f6 := F0.ext E2
  have f7 := F1.ext E2
  refine own_of (T' := T2) (f' := (mkF m 7 #[.val (.ref a1), .val (.long q2), .second, .val (.long q3), .second] [(.ref a2), (.long q2)])) (fun t_ k_ => (st2 _ k_)) ?_
  obtain ⟨_, _, ⟨T8, L8, k8, n8⟩, -, X8, ⟨Lc8, hQ8, l8, y8, z8⟩, st8⟩ := Jvm.LawKit.callS X2 hx (y := (⟨"com/example/suspicion/suspicion/election/Counts", "require", "(JLjava/lang/String;)V"⟩ : MethodName)) hown (mvT hZ (hw _ (List.mem_of_getElem? (i := 18) rfl))) (mvT hZ (hw _ (List.mem_of_getElem? (i := 19) rfl))) (mvT hZ (hw _ (List.mem_of_getElem? (i := 20) rfl))) (mvT hZ (hw _ (List.mem_of_getElem? (i := 21) rfl))) (by decide) (backOf (W := 0) (own_rm_req l Z a0 hw [] q2 a2 h2 n0 f4 hq2) hZ (hw _ (List.mem_of_getElem? (i := 21) rfl)) (hw _ (List.mem_of_getElem? (i := 20) rfl)) (by decide) (by decide)) (g := (mkF m 7 #[.val (.ref a1), .val (.long q2), .second, .val (.long q3), .second] [(.ref a2), (.long q2)])) rfl (by rw [hml]; rfl) (argsL := [(.long q2), (.ref a2)]) (rest := []) (lenOf own_pd_0 rfl) rfl (by show 2 * 0 + _ ≤ _; exact Nat.le_of_eq rfl) (Jvm.hb hby own_d_prog_34_method_1_code_7) (fun _ _ => ⟨rfl, e2, Nat.le_of_ble_eq_true rfl, Nat.le_of_ble_eq_true rfl⟩)
  dsimp only [Pt.U, Pt.locs, Pt.cells, Pt.slots] at X8 l8 y8 z8 st8 hQ8
  subst l8 y8 z8
  obtain ⟨rfl, N8, e8⟩ := hQ8
  have N9 := Fr.app N0 N8
  refine own_of (T' := T8) (f' := (mkF m 11 #[.val (.ref a1), .val (.long q2), .second, .val (.long q3), .second] [(.long q3)])) (fun t_ k_ => (st8 _ (XS.lloadN X8.here hx rfl (Jvm.hb hby own_d_prog_34_method_1_code_10) rfl k_))) ?_
  obtain ⟨a10, T10, h10, k10, X10, e10, E10, hS, Y10, hZ, hown, st10⟩ := ldcS X8 hx hZ hown (hw _ (List.mem_of_getElem? (i := 22) rfl)) hwS e8 hS Y2 (g := (mkF m 11 #[.val (.ref a1), .val (.long q2), .second, .val (.long q3), .second] [(.long q3)])) rfl (Jvm.hb hby own_d_prog_34_method_1_code_11) (n := 20) (by decide) (by decide) (by decide) (by decide)
  have f11 := f3.ext E10
  have f12 := Nat.le_trans f4 E10.1
  have f13 := f5.ext E10
  have f14 := f6.ext E10
  have f15 := f7.ext E10
  refine own_of (T' := T10) (f' := (mkF m 13 #[.val (.ref a1), .val (.long q2), .second, .val (.long q3), .second] [(.ref a10), (.long q3)])) (fun t_ k_ => (st10 _ k_)) ?_
  obtain ⟨_, _, ⟨T16, L16, k16, n16⟩, -, X16, ⟨Lc16, hQ16, l16, y16, z16⟩, st16⟩ := Jvm.LawKit.callS X10 hx (y := (⟨"com/example/suspicion/suspicion/election/Counts", "require", "(JLjava/lang/String;)V"⟩ : MethodName)) hown (mvT hZ (hw _ (List.mem_of_getElem? (i := 18) rfl))) (mvT hZ (hw _ (List.mem_of_getElem? (i := 19) rfl))) (mvT hZ (hw _ (List.mem_of_getElem? (i := 20) rfl))) (mvT hZ (hw _ (List.mem_of_getElem? (i := 21) rfl))) (by decide) (backOf (W := 0) (own_rm_req l Z a0 hw [] q3 a10 h10 n0 f12 hq3) hZ (hw _ (List.mem_of_getElem? (i := 21) rfl)) (hw _ (List.mem_of_getElem? (i := 20) rfl)) (by decide) (by decide)) (g := (mkF m 13 #[.val (.ref a1), .val (.long q2), .second, .val (.long q3), .second] [(.ref a10), (.long q3)])) rfl (by rw [hml]; rfl) (argsL := [(.long q3), (.ref a10)]) (rest := []) (lenOf own_pd_0 rfl) rfl (by show 2 * 0 + _ ≤ _; exact Nat.le_of_eq rfl) (Jvm.hb hby own_d_prog_34_method_1_code_13) (fun _ _ => ⟨rfl, e10, Nat.le_of_ble_eq_true rfl, Nat.le_of_ble_eq_true rfl⟩)
  dsimp only [Pt.U, Pt.locs, Pt.cells, Pt.slots] at X16 l16 y16 z16 st16 hQ16
  subst l16 y16 z16
  obtain ⟨rfl, N16, e16⟩ := hQ16
  have N17 := Fr.app N9 N16
  obtain ⟨T18, h18, X18, e18, W18, st18⟩ := putF X16 hx hZ hown (host := "") (Or.inl (hw _ (List.mem_of_getElem? (i := 23) rfl))) Via.refl e16 f14 f13 (Or.inr ⟨(hw _ (List.mem_of_getElem? (i := 24) rfl)), rfl, hnm⟩) (hw _ (List.mem_of_getElem? (i := 2) rfl)) (ty := .long) (by decide) rfl rfl (g := (mkF m 18 #[.val (.ref a1), .val (.long q2), .second, .val (.long q3), .second] [(.long q2), (.ref a1)])) rfl rfl (Jvm.hb hby own_d_prog_34_method_1_code_18)
  refine own_of (T' := T18) (f' := (mkF m 21 #[.val (.ref a1), .val (.long q2), .second, .val (.long q3), .second] [])) (fun t_ k_ => (st16 _ (XS.aloadN X16.here hx rfl (Jvm.hb hby own_d_prog_34_method_1_code_16) rfl rfl (XS.lloadN X16.here hx rfl (Jvm.hb hby own_d_prog_34_method_1_code_17) rfl (st18 _ k_))))) ?_
  have N18 := Fr.snoc X18 N17 g_a1
  have f19 := f11.wr W18 (Or.inl (List.mem_of_getElem? (i := 0) rfl))
  have f20 := Nat.le_trans f12 (Keep.of_wr W18).1
  have f21 := f13.wr W18
  have f22 := f14.same W18
  have f23 := f15.other W18 (Or.inr (slot_ne (Or.inr (hw _ (List.mem_of_getElem? (i := 26) rfl))) (Or.inr (hw _ (List.mem_of_getElem? (i := 24) rfl))) (by decide) (t := .long) (t' := .long) (by decide) (by decide)))
  have f24 := Nat.le_trans Y10 (Keep.of_wr W18).1
  obtain ⟨T25, h25, X25, e25, W25, st25⟩ := putF X18 hx hZ hown (host := "") (Or.inl (hw _ (List.mem_of_getElem? (i := 25) rfl))) Via.refl e18 f23 f21 (Or.inr ⟨(hw _ (List.mem_of_getElem? (i := 26) rfl)), rfl, hnm⟩) (hw _ (List.mem_of_getElem? (i := 2) rfl)) (ty := .long) (by decide) rfl rfl (g := (mkF m 23 #[.val (.ref a1), .val (.long q2), .second, .val (.long q3), .second] [(.long q3), (.ref a1)])) rfl rfl (Jvm.hb hby own_d_prog_34_method_1_code_23)
  refine own_of (T' := T25) (f' := (mkF m 26 #[.val (.ref a1), .val (.long q2), .second, .val (.long q3), .second] [])) (fun t_ k_ => (XS.aloadN X18.here hx rfl (Jvm.hb hby own_d_prog_34_method_1_code_21) rfl rfl (XS.lloadN X18.here hx rfl (Jvm.hb hby own_d_prog_34_method_1_code_22) rfl (st25 _ k_)))) ?_
  have N25 := Fr.snoc X25 N18 g_a1
  have f26 := f19.wr W25 (Or.inl (List.mem_of_getElem? (i := 0) rfl))
  have f27 := Nat.le_trans f20 (Keep.of_wr W25).1
  have f28 := f21.wr W25
  have f29 := f22.other W25 (Or.inr (slot_ne (Or.inr (hw _ (List.mem_of_getElem? (i := 24) rfl))) (Or.inr (hw _ (List.mem_of_getElem? (i := 26) rfl))) (by decide) (t := .long) (t' := .long) (by decide) (by decide)))
  have f30 := f23.same W25
  have f31 := Nat.le_trans f24 (Keep.of_wr W25).1
  obtain ⟨fs, hr, hrun, hended, hEnd⟩ := X25.leaveW hS (by rw [e25]; exact f31) (v := none) (fun _ => rfl)
  exact ⟨_, _, X25.returnOut hx Bd.returns (Jvm.hb hby own_d_prog_34_method_1_code_26) hr, hrun, hended, _, _, rfl, (by show own_Q_init Z a1 q2 q3  h0 n0 _ T25.heap _; rw [e25]; exact ⟨rfl, N25, f26, f28, f29, f30⟩), hEnd.1, hEnd.2.1, hEnd.2.2.1, hEnd.2.2.2.mono (by decide) (by decide)⟩
theorem own_pn_2 : plainName "com/example/suspicion/suspicion/election/Efficient$Check" = true := by first | (simp [plainName, overriddenIn]; done) | decide +kernel
theorem own_ef_cinit (m : MethodId) (a1 : Addr) (p2 : Int32) (q3 : Int64) : entryFrame m #[(.ref a1), (.int p2), (.long q3)] 4 = mkF m 0 #[.val (.ref a1), .val (.int p2), .val (.long q3), .second] [] := by first | (simp [entryFrame, mkF, argsToLocals, Value.category]; done) | rfl
def own_Q_cinit (Z : State) (a1 : Addr) (p2 : Int32) (q3 : Int64)  (h0 : Heap) (n0 : Nat) (v : Option Value) (h : Heap) (L : List Loc) : Prop := v = none ∧ Fr n0 L ∧ Keep h0 h [a1] ∧ Exa Z h a1 "com/example/suspicion/suspicion/election/Efficient$Check" ∧ Fld Z h a1 "com/example/suspicion/suspicion/election/Efficient$Check" "_member" "I" (.int p2) ∧ Fld Z h a1 "com/example/suspicion/suspicion/election/Efficient$Check" "_phase" "J" (.long q3)
theorem own_d_prog_35_method_1_code_0 : decode prog_35_method_1_code 0 = .ok (.aload_n 0, 1) := by decide +kernel
theorem own_d_prog_35_method_1_code_1 : decode prog_35_method_1_code 1 = .ok (.invokespecial 1, 3) := by decide +kernel
theorem own_d_prog_35_method_1_code_4 : decode prog_35_method_1_code 4 = .ok (.lload_n 2, 1) := by decide +kernel
theorem own_d_prog_35_method_1_code_5 : decode prog_35_method_1_code 5 = .ok (.ldc 7, 2) := by decide +kernel
theorem own_d_prog_35_method_1_code_7 : decode prog_35_method_1_code 7 = .ok (.invokestatic 9, 3) := by decide +kernel
theorem own_d_prog_35_method_1_code_10 : decode prog_35_method_1_code 10 = .ok (.aload_n 0, 1) := by decide +kernel
theorem own_d_prog_35_method_1_code_11 : decode prog_35_method_1_code 11 = .ok (.iload_n 1, 1) := by decide +kernel
theorem own_d_prog_35_method_1_code_12 : decode prog_35_method_1_code 12 = .ok (.putfield 15, 3) := by decide +kernel
theorem own_d_prog_35_method_1_code_15 : decode prog_35_method_1_code 15 = .ok (.aload_n 0, 1) := by decide +kernel
theorem own_d_prog_35_method_1_code_16 : decode prog_35_method_1_code 16 = .ok (.lload_n 2, 1) := by decide +kernel
theorem own_d_prog_35_method_1_code_17 : decode prog_35_method_1_code 17 = .ok (.putfield 21, 3) := by decide +kernel
theorem own_d_prog_35_method_1_code_20 : decode prog_35_method_1_code 20 = .ok (.return_, 1) := by decide +kernel
set_option maxRecDepth 65536 in
set_option maxHeartbeats 40000000 in
theorem own_rm_cinit (l : Launch) (Z : State) (a0 : Array Value) (hw : ∀ d ∈ tables_1, d.before a0 Z = true) (ws : List Jvm.Cond) (a1 : Addr) (p2 : Int32) (q3 : Int64)  (h0 : Heap) (n0 : Nat) (Z0 : n0 ≤ h0.size) (F0 : Fld Z h0 a1 "com/example/suspicion/suspicion/election/Efficient$Check" "_member" "I" (.int 0)) (F1 : Fld Z h0 a1 "com/example/suspicion/suspicion/election/Efficient$Check" "_phase" "J" (.long 0)) (E1 : Exa Z h0 a1 "com/example/suspicion/suspicion/election/Efficient$Check") (g_a1 : n0 ≤ a1) (hq3 : ¬ q3 < (0 : Int64)) :
    MetFree l (⟨"com/example/suspicion/suspicion/election/Efficient$Check", "<init>", "(IJ)V"⟩ : MethodName) (head1 (Jvm.Cond.code (⟨"com/example/suspicion/suspicion/election/Efficient$Check", "<init>", "(IJ)V"⟩ : MethodName) prog_35_method_1_code 4 none :: ws) ({ frames := 1, cells := 2, slots := 24, locals := 14 } : Room)) (fun a U => a = #[(.ref a1), (.int p2), (.long q3)] ∧ Z.Warmed39 U.vm ∧ U.heap = h0) (fun _ _ _ _ _ => True) (fun _ U o U' => ∃ v L, o = .returned v ∧ own_Q_cinit Z a1 p2 q3  h0 n0 v U'.heap L ∧ ReturnedEndW U o U' L ({ frames := 1, cells := 2, slots := 24, locals := 14 } : Room).cells ({ frames := 1, cells := 2, slots := 24, locals := 14 } : Room).slots) := by
  refine MetFree.of_bodySF (plainFor_of_name own_pn_2) hisR ?_
  intro p e s m args below meth c s₁ Bd hml0 hP hK
  obtain ⟨rfl, hZ, hh⟩ := hP
  have hx := Bd.exec
  have hby := Bd.bytes
  have hml : c.maxLocals = 4 := hml0
  have hown : s.vm.findClass "com/example/suspicion/suspicion/election/Efficient$Check" = some m.cls := findClass_of_methodNamed Bd.named
  have hnm := (name_of_methodNamed Bd.named Bd.method).1
  have hZ : Z.Warmed39 (s.setVm s.vm).vm := hZ
  have hown : (s.setVm s.vm).vm.findClass "com/example/suspicion/suspicion/election/Efficient$Check" = some m.cls := hown
  have hS : s.Since s.vm h0.size := (State.WarmedH.refl s).since _
  have hwS : ∀ a ∈ Bundle.stringAtoms, a.before a0 Z = true := fun a ha => hw a (own_sA a ha)
  have Y0 : h0.size ≤ h0.size := Nat.le_refl _
  have X0 : Stand p l e ({ frames := 1, cells := 2, slots := 24, locals := 14 } : Room) (s.setVm s.vm) m #[(.ref a1), (.int p2), (.long q3)] below meth c s₁ [] 0 0 := Stand.of_body Bd
  have e0 : s₁.heap = h0 := by rw [← hh, Bd.state]; rfl
  have N0 := Fr.nil n0
  refine own_start (own_ef_cinit m a1 p2 q3) ?_
  have K0 : Keep h0 h0 [a1] := Keep.refl _ _
  obtain ⟨T1, X1, e1, st1⟩ := initO X0 hx hZ hown (hw _ (List.mem_of_getElem? (i := 33) rfl)) (hw _ (List.mem_of_getElem? (i := 8) rfl)) (hw _ (List.mem_of_getElem? (i := 9) rfl)) e0 (g := (mkF m 1 #[.val (.ref a1), .val (.int p2), .val (.long q3), .second] [(.ref a1)])) rfl (by rw [hml]; rfl) rfl (Jvm.hb hby own_d_prog_35_method_1_code_1) (by decide) (W := 0) (by show 2 * 0 + _ ≤ _; exact Nat.le_of_eq rfl) (by decide)
  refine own_of (T' := T1) (f' := (mkF m 5 #[.val (.ref a1), .val (.int p2), .val (.long q3), .second] [(.long q3)])) (fun t_ k_ => (XS.aloadN X0.here hx rfl (Jvm.hb hby own_d_prog_35_method_1_code_0) rfl rfl (st1 _ (XS.lloadN X1.here hx rfl (Jvm.hb hby own_d_prog_35_method_1_code_4) rfl k_)))) ?_
  obtain ⟨a2, T2, h2, k2, X2, e2, E2, hS, Y2, hZ, hown, st2⟩ := ldcS X1 hx hZ hown (hw _ (List.mem_of_getElem? (i := 34) rfl)) hwS e1 hS Y0 (g := (mkF m 5 #[.val (.ref a1), .val (.int p2), .val (.long q3), .second] [(.long q3)])) rfl (Jvm.hb hby own_d_prog_35_method_1_code_5) (n := 20) (by decide) (by decide) (by decide) (by decide)
  have f3 := K0.ext E2
  have f4 := Nat.le_trans Z0 E2.1
  have f5 := E1.ext E2
  have f6 := F0.ext E2
  have f7 := F1.ext E2
  refine own_of (T' := T2) (f' := (mkF m 7 #[.val (.ref a1), .val (.int p2), .val (.long q3), .second] [(.ref a2), (.long q3)])) (fun t_ k_ => (st2 _ k_)) ?_
  obtain ⟨_, _, ⟨T8, L8, k8, n8⟩, -, X8, ⟨Lc8, hQ8, l8, y8, z8⟩, st8⟩ := Jvm.LawKit.callS X2 hx (y := (⟨"com/example/suspicion/suspicion/election/Counts", "require", "(JLjava/lang/String;)V"⟩ : MethodName)) hown (mvT hZ (hw _ (List.mem_of_getElem? (i := 35) rfl))) (mvT hZ (hw _ (List.mem_of_getElem? (i := 19) rfl))) (mvT hZ (hw _ (List.mem_of_getElem? (i := 20) rfl))) (mvT hZ (hw _ (List.mem_of_getElem? (i := 21) rfl))) (by decide) (backOf (W := 0) (own_rm_req l Z a0 hw [] q3 a2 h2 n0 f4 hq3) hZ (hw _ (List.mem_of_getElem? (i := 21) rfl)) (hw _ (List.mem_of_getElem? (i := 20) rfl)) (by decide) (by decide)) (g := (mkF m 7 #[.val (.ref a1), .val (.int p2), .val (.long q3), .second] [(.ref a2), (.long q3)])) rfl (by rw [hml]; rfl) (argsL := [(.long q3), (.ref a2)]) (rest := []) (lenOf own_pd_0 rfl) rfl (by show 2 * 0 + _ ≤ _; exact Nat.le_of_eq rfl) (Jvm.hb hby own_d_prog_35_method_1_code_7) (fun _ _ => ⟨rfl, e2, Nat.le_of_ble_eq_true rfl, Nat.le_of_ble_eq_true rfl⟩)
  dsimp only [Pt.U, Pt.locs, Pt.cells, Pt.slots] at X8 l8 y8 z8 st8 hQ8
  subst l8 y8 z8
  obtain ⟨rfl, N8, e8⟩ := hQ8
  have N9 := Fr.app N0 N8
  obtain ⟨T10, h10, X10, e10, W10, st10⟩ := putF X8 hx hZ hown (host := "") (Or.inl (hw _ (List.mem_of_getElem? (i := 36) rfl))) Via.refl e8 f6 f5 (Or.inr ⟨(hw _ (List.mem_of_getElem? (i := 37) rfl)), rfl, hnm⟩) (hw _ (List.mem_of_getElem? (i := 28) rfl)) (ty := .int) (by decide) rfl rfl (g := (mkF m 12 #[.val (.ref a1), .val (.int p2), .val (.long q3), .second] [(.int p2), (.ref a1)])) rfl rfl (Jvm.hb hby own_d_prog_35_method_1_code_12)
  refine own_of (T' := T10) (f' := (mkF m 15 #[.val (.ref a1), .val (.int p2), .val (.long q3), .second] [])) (fun t_ k_ => (st8 _ (XS.aloadN X8.here hx rfl (Jvm.hb hby own_d_prog_35_method_1_code_10) rfl rfl (XS.iloadN X8.here hx rfl (Jvm.hb hby own_d_prog_35_method_1_code_11) rfl (st10 _ k_))))) ?_
  have N10 := Fr.snoc X10 N9 g_a1
  have f11 := f3.wr W10 (Or.inl (List.mem_of_getElem? (i := 0) rfl))
  have f12 := Nat.le_trans f4 (Keep.of_wr W10).1
  have f13 := f5.wr W10
  have f14 := f6.same W10
  have f15 := f7.other W10 (Or.inr (slot_ne (Or.inr (hw _ (List.mem_of_getElem? (i := 39) rfl))) (Or.inr (hw _ (List.mem_of_getElem? (i := 37) rfl))) (by decide) (t := .long) (t' := .int) (by decide) (by decide)))
  have f16 := Nat.le_trans Y2 (Keep.of_wr W10).1
  obtain ⟨T17, h17, X17, e17, W17, st17⟩ := putF X10 hx hZ hown (host := "") (Or.inl (hw _ (List.mem_of_getElem? (i := 38) rfl))) Via.refl e10 f15 f13 (Or.inr ⟨(hw _ (List.mem_of_getElem? (i := 39) rfl)), rfl, hnm⟩) (hw _ (List.mem_of_getElem? (i := 28) rfl)) (ty := .long) (by decide) rfl rfl (g := (mkF m 17 #[.val (.ref a1), .val (.int p2), .val (.long q3), .second] [(.long q3), (.ref a1)])) rfl rfl (Jvm.hb hby own_d_prog_35_method_1_code_17)
  refine own_of (T' := T17) (f' := (mkF m 20 #[.val (.ref a1), .val (.int p2), .val (.long q3), .second] [])) (fun t_ k_ => (XS.aloadN X10.here hx rfl (Jvm.hb hby own_d_prog_35_method_1_code_15) rfl rfl (XS.lloadN X10.here hx rfl (Jvm.hb hby own_d_prog_35_method_1_code_16) rfl (st17 _ k_)))) ?_
  have N17 := Fr.snoc X17 N10 g_a1
  have f18 := f11.wr W17 (Or.inl (List.mem_of_getElem? (i := 0) rfl))
  have f19 := Nat.le_trans f12 (Keep.of_wr W17).1
  have f20 := f13.wr W17
  have f21 := f14.other W17 (Or.inr (slot_ne (Or.inr (hw _ (List.mem_of_getElem? (i := 37) rfl))) (Or.inr (hw _ (List.mem_of_getElem? (i := 39) rfl))) (by decide) (t := .int) (t' := .long) (by decide) (by decide)))
  have f22 := f15.same W17
  have f23 := Nat.le_trans f16 (Keep.of_wr W17).1
  obtain ⟨fs, hr, hrun, hended, hEnd⟩ := X17.leaveW hS (by rw [e17]; exact f23) (v := none) (fun _ => rfl)
  exact ⟨_, _, X17.returnOut hx Bd.returns (Jvm.hb hby own_d_prog_35_method_1_code_20) hr, hrun, hended, _, _, rfl, (by show own_Q_cinit Z a1 p2 q3  h0 n0 _ T17.heap _; rw [e17]; exact ⟨rfl, N17, f18, f20, f21, f22⟩), hEnd.1, hEnd.2.1, hEnd.2.2.1, hEnd.2.2.2.mono (by decide) (by decide)⟩
theorem own_ef_eqS (m : MethodId) (a1 : Addr) : entryFrame m #[(.ref a1), (.ref a1)] 3 = mkF m 0 #[.val (.ref a1), .val (.ref a1), .unset] [] := by first | (simp [entryFrame, mkF, argsToLocals, Value.category]; done) | rfl
def own_Q_eqS (Z : State) (a1 : Addr)  (h0 : Heap) (n0 : Nat) (v : Option Value) (h : Heap) (L : List Loc) : Prop := v = some (.int 1) ∧ Fr n0 L ∧ h = h0
theorem own_d_prog_34_method_4_code_0 : decode prog_34_method_4_code 0 = .ok (.aload_n 0, 1) := by decide +kernel
theorem own_d_prog_34_method_4_code_1 : decode prog_34_method_4_code 1 = .ok (.aload_n 1, 1) := by decide +kernel
theorem own_d_prog_34_method_4_code_2 : decode prog_34_method_4_code 2 = .ok (.if_acmp .ne 5, 3) := by decide +kernel
theorem own_d_prog_34_method_4_code_5 : decode prog_34_method_4_code 5 = .ok (.iconst 1, 1) := by decide +kernel
theorem own_d_prog_34_method_4_code_6 : decode prog_34_method_4_code 6 = .ok (.ireturn, 1) := by decide +kernel
set_option maxRecDepth 65536 in
set_option maxHeartbeats 40000000 in
theorem own_rm_eqS (l : Launch) (Z : State) (a0 : Array Value) (hw : ∀ d ∈ tables_1, d.before a0 Z = true) (ws : List Jvm.Cond) (a1 : Addr)  (h0 : Heap) (n0 : Nat) (Z0 : n0 ≤ h0.size)  :
    MetFree l (⟨"com/example/suspicion/suspicion/election/Efficient$Alive", "equals", "(Ljava/lang/Object;)Z"⟩ : MethodName) (head1 (Jvm.Cond.code (⟨"com/example/suspicion/suspicion/election/Efficient$Alive", "equals", "(Ljava/lang/Object;)Z"⟩ : MethodName) prog_34_method_4_code 3 (some .boolean) :: ws) ({ frames := 0, cells := 0, slots := 0, locals := 0 } : Room)) (fun a U => a = #[(.ref a1), (.ref a1)] ∧ Z.Warmed39 U.vm ∧ U.heap = h0) (fun _ _ _ _ _ => True) (fun _ U o U' => ∃ v L, o = .returned v ∧ own_Q_eqS Z a1  h0 n0 v U'.heap L ∧ FrameEnd U o U' L ({ frames := 0, cells := 0, slots := 0, locals := 0 } : Room).cells ({ frames := 0, cells := 0, slots := 0, locals := 0 } : Room).slots) := by
  refine MetFree.of_bodySF (plainFor_of_name own_pn_1) hisR ?_
  intro p e s m args below meth c s₁ Bd hml0 hP hK
  obtain ⟨rfl, hZ, hh⟩ := hP
  have hx := Bd.exec
  have hby := Bd.bytes
  have hml : c.maxLocals = 3 := hml0
  have hown : s.vm.findClass "com/example/suspicion/suspicion/election/Efficient$Alive" = some m.cls := findClass_of_methodNamed Bd.named
  have hnm := (name_of_methodNamed Bd.named Bd.method).1
  have X0 : Stand p l e ({ frames := 0, cells := 0, slots := 0, locals := 0 } : Room) s m #[(.ref a1), (.ref a1)] below meth c s₁ [] 0 0 := Stand.of_body Bd
  have e0 : s₁.heap = h0 := by rw [← hh, Bd.state]; rfl
  have N0 := Fr.nil n0
  refine own_start (own_ef_eqS m a1) ?_
  refine own_of (T' := s₁) (f' := (mkF m 6 #[.val (.ref a1), .val (.ref a1), .unset] [(.int (1 : Int32))])) (fun t_ k_ => (XS.aloadN X0.here hx rfl (Jvm.hb hby own_d_prog_34_method_4_code_0) rfl rfl (XS.aloadN X0.here hx rfl (Jvm.hb hby own_d_prog_34_method_4_code_1) rfl rfl (Jvm.RoadKit.acmp (g := (mkF m 2 #[.val (.ref a1), .val (.ref a1), .unset] [(.ref a1), (.ref a1)])) X0 hx rfl rfl rfl (pc0 := 2) (pc' := 5) (same := true) rfl (Jvm.hb hby own_d_prog_34_method_4_code_2) rfl (decide_eq_true rfl) (by decide) (by decide) (XS.iconst X0.here hx rfl (Jvm.hb hby own_d_prog_34_method_4_code_5) k_))))) ?_
  obtain ⟨fs, hr, hrun, hended, hW, hsame⟩ := X0.leave (v := some (.int (1 : Int32))) (fun h => by rw [Bd.returns] at h; cases h)
  exact ⟨_, _, retN X0 hx (t := .boolean) Bd.returns (by simp) (Jvm.hb hby own_d_prog_34_method_4_code_6) hr, hrun, hended, _, _, rfl, (by show own_Q_eqS Z a1  h0 n0 _ s₁.heap _; rw [e0]; exact ⟨rfl, N0, rfl⟩), ⟨_, rfl⟩, hW, hsame.mono (by decide) (by decide)⟩
theorem own_ef_eqN (m : MethodId) (a1 : Addr) : entryFrame m #[(.ref a1), .null] 3 = mkF m 0 #[.val (.ref a1), .val .null, .unset] [] := by first | (simp [entryFrame, mkF, argsToLocals, Value.category]; done) | rfl
def own_Q_eqN (Z : State) (a1 : Addr)  (h0 : Heap) (n0 : Nat) (v : Option Value) (h : Heap) (L : List Loc) : Prop := v = some (.int 0) ∧ Fr n0 L ∧ h = h0
theorem own_d_prog_34_method_4_code_7 : decode prog_34_method_4_code 7 = .ok (.aload_n 1, 1) := by decide +kernel
theorem own_d_prog_34_method_4_code_8 : decode prog_34_method_4_code 8 = .ok (.instanceof 18, 3) := by decide +kernel
theorem own_d_prog_34_method_4_code_11 : decode prog_34_method_4_code 11 = .ok (.ifCond .eq 11, 3) := by decide +kernel
theorem own_d_prog_34_method_4_code_22 : decode prog_34_method_4_code 22 = .ok (.iconst 0, 1) := by decide +kernel
theorem own_d_prog_34_method_4_code_23 : decode prog_34_method_4_code 23 = .ok (.ireturn, 1) := by decide +kernel
set_option maxRecDepth 65536 in
set_option maxHeartbeats 40000000 in
theorem own_rm_eqN (l : Launch) (Z : State) (a0 : Array Value) (hw : ∀ d ∈ tables_1, d.before a0 Z = true) (ws : List Jvm.Cond) (a1 : Addr)  (h0 : Heap) (n0 : Nat) (Z0 : n0 ≤ h0.size)  :
    MetFree l (⟨"com/example/suspicion/suspicion/election/Efficient$Alive", "equals", "(Ljava/lang/Object;)Z"⟩ : MethodName) (head1 (Jvm.Cond.code (⟨"com/example/suspicion/suspicion/election/Efficient$Alive", "equals", "(Ljava/lang/Object;)Z"⟩ : MethodName) prog_34_method_4_code 3 (some .boolean) :: ws) ({ frames := 0, cells := 0, slots := 0, locals := 0 } : Room)) (fun a U => a = #[(.ref a1), .null] ∧ Z.Warmed39 U.vm ∧ U.heap = h0) (fun _ _ _ _ _ => True) (fun _ U o U' => ∃ v L, o = .returned v ∧ own_Q_eqN Z a1  h0 n0 v U'.heap L ∧ FrameEnd U o U' L ({ frames := 0, cells := 0, slots := 0, locals := 0 } : Room).cells ({ frames := 0, cells := 0, slots := 0, locals := 0 } : Room).slots) := by
  refine MetFree.of_bodySF (plainFor_of_name own_pn_1) hisR ?_
  intro p e s m args below meth c s₁ Bd hml0 hP hK
  obtain ⟨rfl, hZ, hh⟩ := hP
  have hx := Bd.exec
  have hby := Bd.bytes
  have hml : c.maxLocals = 3 := hml0
  have hown : s.vm.findClass "com/example/suspicion/suspicion/election/Efficient$Alive" = some m.cls := findClass_of_methodNamed Bd.named
  have hnm := (name_of_methodNamed Bd.named Bd.method).1
  have X0 : Stand p l e ({ frames := 0, cells := 0, slots := 0, locals := 0 } : Room) s m #[(.ref a1), .null] below meth c s₁ [] 0 0 := Stand.of_body Bd
  have e0 : s₁.heap = h0 := by rw [← hh, Bd.state]; rfl
  have N0 := Fr.nil n0
  refine own_start (own_ef_eqN m a1) ?_
  refine own_of (T' := s₁) (f' := (mkF m 23 #[.val (.ref a1), .val .null, .unset] [(.int (0 : Int32))])) (fun t_ k_ => (XS.aloadN X0.here hx rfl (Jvm.hb hby own_d_prog_34_method_4_code_0) rfl rfl (XS.aloadN X0.here hx rfl (Jvm.hb hby own_d_prog_34_method_4_code_1) rfl rfl (Jvm.RoadKit.acmp (g := (mkF m 2 #[.val (.ref a1), .val .null, .unset] [.null, (.ref a1)])) X0 hx rfl rfl rfl (pc0 := 2) (pc' := 7) (same := false) rfl (Jvm.hb hby own_d_prog_34_method_4_code_2) rfl (decide_eq_false nofun) (by decide) (by decide) (XS.aloadN X0.here hx rfl (Jvm.hb hby own_d_prog_34_method_4_code_7) rfl rfl (X0.instanceofNull hx (g := (mkF m 8 #[.val (.ref a1), .val .null, .unset] [.null])) rfl rfl (Jvm.hb hby own_d_prog_34_method_4_code_8) _ (XS.ifYes X0.here hx rfl (pc0 := 11) (pc' := 22) rfl (Jvm.hb hby own_d_prog_34_method_4_code_11) rfl ((if0 _ _).trans (teq rfl).1) (by decide) (by decide) (XS.iconst X0.here hx rfl (Jvm.hb hby own_d_prog_34_method_4_code_22) k_)))))))) ?_
  obtain ⟨fs, hr, hrun, hended, hW, hsame⟩ := X0.leave (v := some (.int (0 : Int32))) (fun h => by rw [Bd.returns] at h; cases h)
  exact ⟨_, _, retN X0 hx (t := .boolean) Bd.returns (by simp) (Jvm.hb hby own_d_prog_34_method_4_code_23) hr, hrun, hended, _, _, rfl, (by show own_Q_eqN Z a1  h0 n0 _ s₁.heap _; rw [e0]; exact ⟨rfl, N0, rfl⟩), ⟨_, rfl⟩, hW, hsame.mono (by decide) (by decide)⟩
theorem own_ef_eqC (m : MethodId) (a1 : Addr) (a2 : Addr) : entryFrame m #[(.ref a1), (.ref a2)] 3 = mkF m 0 #[.val (.ref a1), .val (.ref a2), .unset] [] := by first | (simp [entryFrame, mkF, argsToLocals, Value.category]; done) | rfl
def own_Q_eqC (Z : State) (a1 : Addr) (a2 : Addr)  (h0 : Heap) (n0 : Nat) (v : Option Value) (h : Heap) (L : List Loc) : Prop := v = some (.int 0) ∧ Fr n0 L ∧ h = h0
set_option maxRecDepth 65536 in
set_option maxHeartbeats 40000000 in
theorem own_rm_eqC (l : Launch) (Z : State) (a0 : Array Value) (hw : ∀ d ∈ tables_1, d.before a0 Z = true) (ws : List Jvm.Cond) (a1 : Addr) (a2 : Addr)  (h0 : Heap) (n0 : Nat) (Z0 : n0 ≤ h0.size) (ne : a1 ≠ a2) (E2 : Exa Z h0 a2 "com/example/suspicion/suspicion/election/Efficient$Check") :
    MetFree l (⟨"com/example/suspicion/suspicion/election/Efficient$Alive", "equals", "(Ljava/lang/Object;)Z"⟩ : MethodName) (head1 (Jvm.Cond.code (⟨"com/example/suspicion/suspicion/election/Efficient$Alive", "equals", "(Ljava/lang/Object;)Z"⟩ : MethodName) prog_34_method_4_code 3 (some .boolean) :: ws) ({ frames := 0, cells := 0, slots := 0, locals := 0 } : Room)) (fun a U => a = #[(.ref a1), (.ref a2)] ∧ Z.Warmed39 U.vm ∧ U.heap = h0) (fun _ _ _ _ _ => True) (fun _ U o U' => ∃ v L, o = .returned v ∧ own_Q_eqC Z a1 a2  h0 n0 v U'.heap L ∧ FrameEnd U o U' L ({ frames := 0, cells := 0, slots := 0, locals := 0 } : Room).cells ({ frames := 0, cells := 0, slots := 0, locals := 0 } : Room).slots) := by
  refine MetFree.of_bodySF (plainFor_of_name own_pn_1) hisR ?_
  intro p e s m args below meth c s₁ Bd hml0 hP hK
  obtain ⟨rfl, hZ, hh⟩ := hP
  have hx := Bd.exec
  have hby := Bd.bytes
  have hml : c.maxLocals = 3 := hml0
  have hown : s.vm.findClass "com/example/suspicion/suspicion/election/Efficient$Alive" = some m.cls := findClass_of_methodNamed Bd.named
  have hnm := (name_of_methodNamed Bd.named Bd.method).1
  have X0 : Stand p l e ({ frames := 0, cells := 0, slots := 0, locals := 0 } : Room) s m #[(.ref a1), (.ref a2)] below meth c s₁ [] 0 0 := Stand.of_body Bd
  have e0 : s₁.heap = h0 := by rw [← hh, Bd.state]; rfl
  have N0 := Fr.nil n0
  refine own_start (own_ef_eqC m a1 a2) ?_
  obtain ⟨T1, X1, e1, st1⟩ := instNo X0 hx hZ hown (hw _ (List.mem_of_getElem? (i := 45) rfl)) e0 E2 (own_noI (hw _ (List.mem_of_getElem? (i := 47) rfl)) (hw _ (List.mem_of_getElem? (i := 48) rfl)) (hw _ (List.mem_of_getElem? (i := 2) rfl)) (by decide) (by decide)) (g := (mkF m 8 #[.val (.ref a1), .val (.ref a2), .unset] [(.ref a2)])) rfl rfl (Jvm.hb hby own_d_prog_34_method_4_code_8)
  refine own_of (T' := T1) (f' := (mkF m 23 #[.val (.ref a1), .val (.ref a2), .unset] [(.int (0 : Int32))])) (fun t_ k_ => (XS.aloadN X0.here hx rfl (Jvm.hb hby own_d_prog_34_method_4_code_0) rfl rfl (XS.aloadN X0.here hx rfl (Jvm.hb hby own_d_prog_34_method_4_code_1) rfl rfl (Jvm.RoadKit.acmp (g := (mkF m 2 #[.val (.ref a1), .val (.ref a2), .unset] [(.ref a2), (.ref a1)])) X0 hx rfl rfl rfl (pc0 := 2) (pc' := 7) (same := false) rfl (Jvm.hb hby own_d_prog_34_method_4_code_2) rfl (decide_eq_false fun q => ne (Value.ref.inj q)) (by decide) (by decide) (XS.aloadN X0.here hx rfl (Jvm.hb hby own_d_prog_34_method_4_code_7) rfl rfl (st1 _ (XS.ifYes X1.here hx rfl (pc0 := 11) (pc' := 22) rfl (Jvm.hb hby own_d_prog_34_method_4_code_11) rfl ((if0 _ _).trans (teq rfl).1) (by decide) (by decide) (XS.iconst X1.here hx rfl (Jvm.hb hby own_d_prog_34_method_4_code_22) k_)))))))) ?_
  obtain ⟨fs, hr, hrun, hended, hW, hsame⟩ := X1.leave (v := some (.int (0 : Int32))) (fun h => by rw [Bd.returns] at h; cases h)
  exact ⟨_, _, retN X1 hx (t := .boolean) Bd.returns (by simp) (Jvm.hb hby own_d_prog_34_method_4_code_23) hr, hrun, hended, _, _, rfl, (by show own_Q_eqC Z a1 a2  h0 n0 _ T1.heap _; rw [e1]; exact ⟨rfl, N0, rfl⟩), ⟨_, rfl⟩, hW, hsame.mono (by decide) (by decide)⟩
theorem own_ef_eqB (m : MethodId) (a1 : Addr) (a2 : Addr) : entryFrame m #[(.ref a1), (.ref a2)] 3 = mkF m 0 #[.val (.ref a1), .val (.ref a2), .unset] [] := by first | (simp [entryFrame, mkF, argsToLocals, Value.category]; done) | rfl
def own_Q_eqB (Z : State) (a1 : Addr) (a2 : Addr) (x1 x2 y1 y2 : Int64) (h0 : Heap) (n0 : Nat) (v : Option Value) (h : Heap) (L : List Loc) : Prop := v = some (.int (if x1 = y1 then (if x2 = y2 then (1 : Int32) else 0) else 0)) ∧ Fr n0 L ∧ h = h0
theorem own_d_prog_34_method_4_code_14 : decode prog_34_method_4_code 14 = .ok (.aload_n 1, 1) := by decide +kernel
theorem own_d_prog_34_method_4_code_15 : decode prog_34_method_4_code 15 = .ok (.checkcast 18, 3) := by decide +kernel
theorem own_d_prog_34_method_4_code_18 : decode prog_34_method_4_code 18 = .ok (.astore_n 2, 1) := by decide +kernel
theorem own_d_prog_34_method_4_code_19 : decode prog_34_method_4_code 19 = .ok (.goto 5, 3) := by decide +kernel
theorem own_d_prog_34_method_4_code_24 : decode prog_34_method_4_code 24 = .ok (.aload_n 0, 1) := by decide +kernel
theorem own_d_prog_34_method_4_code_25 : decode prog_34_method_4_code 25 = .ok (.getfield 17, 3) := by decide +kernel
theorem own_d_prog_34_method_4_code_28 : decode prog_34_method_4_code 28 = .ok (.aload_n 2, 1) := by decide +kernel
theorem own_d_prog_34_method_4_code_29 : decode prog_34_method_4_code 29 = .ok (.getfield 17, 3) := by decide +kernel
theorem own_d_prog_34_method_4_code_32 : decode prog_34_method_4_code 32 = .ok (.lcmp, 1) := by decide +kernel
theorem own_d_prog_34_method_4_code_33 : decode prog_34_method_4_code 33 = .ok (.ifCond .ne 19, 3) := by decide +kernel
theorem own_d_prog_34_method_4_code_36 : decode prog_34_method_4_code 36 = .ok (.aload_n 0, 1) := by decide +kernel
theorem own_d_prog_34_method_4_code_37 : decode prog_34_method_4_code 37 = .ok (.getfield 23, 3) := by decide +kernel
theorem own_d_prog_34_method_4_code_40 : decode prog_34_method_4_code 40 = .ok (.aload_n 2, 1) := by decide +kernel
theorem own_d_prog_34_method_4_code_41 : decode prog_34_method_4_code 41 = .ok (.getfield 23, 3) := by decide +kernel
theorem own_d_prog_34_method_4_code_44 : decode prog_34_method_4_code 44 = .ok (.lcmp, 1) := by decide +kernel
theorem own_d_prog_34_method_4_code_45 : decode prog_34_method_4_code 45 = .ok (.ifCond .ne 7, 3) := by decide +kernel
theorem own_d_prog_34_method_4_code_48 : decode prog_34_method_4_code 48 = .ok (.iconst 1, 1) := by decide +kernel
theorem own_d_prog_34_method_4_code_49 : decode prog_34_method_4_code 49 = .ok (.goto 4, 3) := by decide +kernel
theorem own_d_prog_34_method_4_code_53 : decode prog_34_method_4_code 53 = .ok (.ireturn, 1) := by decide +kernel
theorem own_d_prog_34_method_4_code_52 : decode prog_34_method_4_code 52 = .ok (.iconst 0, 1) := by decide +kernel
set_option maxRecDepth 65536 in
set_option maxHeartbeats 40000000 in
theorem own_rm_eqB (l : Launch) (Z : State) (a0 : Array Value) (hw : ∀ d ∈ tables_1, d.before a0 Z = true) (ws : List Jvm.Cond) (a1 : Addr) (a2 : Addr) (x1 x2 y1 y2 : Int64) (h0 : Heap) (n0 : Nat) (Z0 : n0 ≤ h0.size) (ne : a1 ≠ a2) (E1 : Exa Z h0 a1 "com/example/suspicion/suspicion/election/Efficient$Alive") (E2 : Exa Z h0 a2 "com/example/suspicion/suspicion/election/Efficient$Alive") (F0 : Fld Z h0 a1 "com/example/suspicion/suspicion/election/Efficient$Alive" "_counter" "J" (.long x1)) (G0 : Fld Z h0 a2 "com/example/suspicion/suspicion/election/Efficient$Alive" "_counter" "J" (.long y1)) (F1 : Fld Z h0 a1 "com/example/suspicion/suspicion/election/Efficient$Alive" "_phase" "J" (.long x2)) (G1 : Fld Z h0 a2 "com/example/suspicion/suspicion/election/Efficient$Alive" "_phase" "J" (.long y2)) :
    MetFree l (⟨"com/example/suspicion/suspicion/election/Efficient$Alive", "equals", "(Ljava/lang/Object;)Z"⟩ : MethodName) (head1 (Jvm.Cond.code (⟨"com/example/suspicion/suspicion/election/Efficient$Alive", "equals", "(Ljava/lang/Object;)Z"⟩ : MethodName) prog_34_method_4_code 3 (some .boolean) :: ws) ({ frames := 0, cells := 0, slots := 0, locals := 0 } : Room)) (fun a U => a = #[(.ref a1), (.ref a2)] ∧ Z.Warmed39 U.vm ∧ U.heap = h0) (fun _ _ _ _ _ => True) (fun _ U o U' => ∃ v L, o = .returned v ∧ own_Q_eqB Z a1 a2 x1 x2 y1 y2 h0 n0 v U'.heap L ∧ FrameEnd U o U' L ({ frames := 0, cells := 0, slots := 0, locals := 0 } : Room).cells ({ frames := 0, cells := 0, slots := 0, locals := 0 } : Room).slots) := by
  refine MetFree.of_bodySF (plainFor_of_name own_pn_1) hisR ?_
  intro p e s m args below meth c s₁ Bd hml0 hP hK
  obtain ⟨rfl, hZ, hh⟩ := hP
  have hx := Bd.exec
  have hby := Bd.bytes
  have hml : c.maxLocals = 3 := hml0
  have hown : s.vm.findClass "com/example/suspicion/suspicion/election/Efficient$Alive" = some m.cls := findClass_of_methodNamed Bd.named
  have hnm := (name_of_methodNamed Bd.named Bd.method).1
  have X0 : Stand p l e ({ frames := 0, cells := 0, slots := 0, locals := 0 } : Room) s m #[(.ref a1), (.ref a2)] below meth c s₁ [] 0 0 := Stand.of_body Bd
  have e0 : s₁.heap = h0 := by rw [← hh, Bd.state]; rfl
  have N0 := Fr.nil n0
  refine own_start (own_ef_eqB m a1 a2) ?_
  obtain ⟨T1, X1, e1, st1⟩ := instY X0 hx hZ hown (hw _ (List.mem_of_getElem? (i := 45) rfl)) e0 (Ins.self E2) (g := (mkF m 8 #[.val (.ref a1), .val (.ref a2), .unset] [(.ref a2)])) rfl rfl (Jvm.hb hby own_d_prog_34_method_4_code_8)
  obtain ⟨T2, X2, e2, st2⟩ := castY X1 hx hZ hown (hw _ (List.mem_of_getElem? (i := 45) rfl)) e1 (Ins.self E2) (g := (mkF m 15 #[.val (.ref a1), .val (.ref a2), .unset] [(.ref a2)])) rfl rfl (Jvm.hb hby own_d_prog_34_method_4_code_15)
  refine own_of (T' := T2) (f' := (mkF m 18 #[.val (.ref a1), .val (.ref a2), .unset] [(.ref a2)])) (fun t_ k_ => (XS.aloadN X0.here hx rfl (Jvm.hb hby own_d_prog_34_method_4_code_0) rfl rfl (XS.aloadN X0.here hx rfl (Jvm.hb hby own_d_prog_34_method_4_code_1) rfl rfl (Jvm.RoadKit.acmp (g := (mkF m 2 #[.val (.ref a1), .val (.ref a2), .unset] [(.ref a2), (.ref a1)])) X0 hx rfl rfl rfl (pc0 := 2) (pc' := 7) (same := false) rfl (Jvm.hb hby own_d_prog_34_method_4_code_2) rfl (decide_eq_false fun q => ne (Value.ref.inj q)) (by decide) (by decide) (XS.aloadN X0.here hx rfl (Jvm.hb hby own_d_prog_34_method_4_code_7) rfl rfl (st1 _ (XS.ifNo X1.here hx rfl (Jvm.hb hby own_d_prog_34_method_4_code_11) rfl ((if0 _ _).trans (feq (by decide : ¬ (1 : Int32) = 0)).1) (XS.aloadN X1.here hx rfl (Jvm.hb hby own_d_prog_34_method_4_code_14) rfl rfl (st2 _ k_))))))))) ?_
  obtain ⟨T3, X3, e3, st3⟩ := getF X2 hx hZ hown (host := "") (Or.inl (hw _ (List.mem_of_getElem? (i := 23) rfl))) Via.refl e2 F0 (g := (mkF m 25 #[.val (.ref a1), .val (.ref a2), .val (.ref a2)] [(.ref a1)])) rfl rfl (Jvm.hb hby own_d_prog_34_method_4_code_25)
  obtain ⟨T4, X4, e4, st4⟩ := getF X3 hx hZ hown (host := "") (Or.inl (hw _ (List.mem_of_getElem? (i := 23) rfl))) Via.refl e3 G0 (g := (mkF m 29 #[.val (.ref a1), .val (.ref a2), .val (.ref a2)] [(.ref a2), (.long x1)])) rfl rfl (Jvm.hb hby own_d_prog_34_method_4_code_29)
  refine own_of (T' := T4) (f' := (mkF m 33 #[.val (.ref a1), .val (.ref a2), .val (.ref a2)] [(.int (lcmpW x1 y1))])) (fun t_ k_ => (XS.astoreN X2.here hx rfl (Jvm.hb hby own_d_prog_34_method_4_code_18) rfl rfl (l' := #[.val (.ref a1), .val (.ref a2), .val (.ref a2)]) rfl (XS.goto X2.here hx rfl (pc0 := 19) (pc' := 24) rfl (Jvm.hb hby own_d_prog_34_method_4_code_19) (by decide) (by decide) (XS.aloadN X2.here hx rfl (Jvm.hb hby own_d_prog_34_method_4_code_24) rfl rfl (st3 _ (XS.aloadN X3.here hx rfl (Jvm.hb hby own_d_prog_34_method_4_code_28) rfl rfl (st4 _ (XS.lcmp X4.here hx rfl (Jvm.hb hby own_d_prog_34_method_4_code_32) rfl k_)))))))) ?_
  by_cases hc33_5 : (x1 = y1)
  · skip
    obtain ⟨T6, X6, e6, st6⟩ := getF X4 hx hZ hown (host := "") (Or.inl (hw _ (List.mem_of_getElem? (i := 25) rfl))) Via.refl e4 F1 (g := (mkF m 37 #[.val (.ref a1), .val (.ref a2), .val (.ref a2)] [(.ref a1)])) rfl rfl (Jvm.hb hby own_d_prog_34_method_4_code_37)
    obtain ⟨T7, X7, e7, st7⟩ := getF X6 hx hZ hown (host := "") (Or.inl (hw _ (List.mem_of_getElem? (i := 25) rfl))) Via.refl e6 G1 (g := (mkF m 41 #[.val (.ref a1), .val (.ref a2), .val (.ref a2)] [(.ref a2), (.long x2)])) rfl rfl (Jvm.hb hby own_d_prog_34_method_4_code_41)
    refine own_of (T' := T7) (f' := (mkF m 45 #[.val (.ref a1), .val (.ref a2), .val (.ref a2)] [(.int (lcmpW x2 y2))])) (fun t_ k_ => (XS.ifNo X4.here hx rfl (Jvm.hb hby own_d_prog_34_method_4_code_33) rfl ((if0 _ _).trans (teq ((lw_eq x1 y1).mpr hc33_5)).2) (XS.aloadN X4.here hx rfl (Jvm.hb hby own_d_prog_34_method_4_code_36) rfl rfl (st6 _ (XS.aloadN X6.here hx rfl (Jvm.hb hby own_d_prog_34_method_4_code_40) rfl rfl (st7 _ (XS.lcmp X7.here hx rfl (Jvm.hb hby own_d_prog_34_method_4_code_44) rfl k_))))))) ?_
    by_cases hc45_8 : (x2 = y2)
    · skip
      refine own_of (T' := T7) (f' := (mkF m 53 #[.val (.ref a1), .val (.ref a2), .val (.ref a2)] [(.int (1 : Int32))])) (fun t_ k_ => (XS.ifNo X7.here hx rfl (Jvm.hb hby own_d_prog_34_method_4_code_45) rfl ((if0 _ _).trans (teq ((lw_eq x2 y2).mpr hc45_8)).2) (XS.iconst X7.here hx rfl (Jvm.hb hby own_d_prog_34_method_4_code_48) (XS.goto X7.here hx rfl (pc0 := 49) (pc' := 53) rfl (Jvm.hb hby own_d_prog_34_method_4_code_49) (by decide) (by decide) k_)))) ?_
      obtain ⟨fs, hr, hrun, hended, hW, hsame⟩ := X7.leave (v := some (.int (1 : Int32))) (fun h => by rw [Bd.returns] at h; cases h)
      exact ⟨_, _, retN X7 hx (t := .boolean) Bd.returns (by simp) (Jvm.hb hby own_d_prog_34_method_4_code_53) hr, hrun, hended, _, _, rfl, (by show own_Q_eqB Z a1 a2 x1 x2 y1 y2 h0 n0 _ T7.heap _; rw [e7]; exact ⟨by rw [if_pos hc33_5, if_pos hc45_8], N0, rfl⟩), ⟨_, rfl⟩, hW, hsame.mono (by decide) (by decide)⟩
    · skip
      refine own_of (T' := T7) (f' := (mkF m 53 #[.val (.ref a1), .val (.ref a2), .val (.ref a2)] [(.int (0 : Int32))])) (fun t_ k_ => (XS.ifYes X7.here hx rfl (pc0 := 45) (pc' := 52) rfl (Jvm.hb hby own_d_prog_34_method_4_code_45) rfl ((if0 _ _).trans (feq (mt (lw_eq x2 y2).mp hc45_8)).2) (by decide) (by decide) (XS.iconst X7.here hx rfl (Jvm.hb hby own_d_prog_34_method_4_code_52) k_))) ?_
      obtain ⟨fs, hr, hrun, hended, hW, hsame⟩ := X7.leave (v := some (.int (0 : Int32))) (fun h => by rw [Bd.returns] at h; cases h)
      exact ⟨_, _, retN X7 hx (t := .boolean) Bd.returns (by simp) (Jvm.hb hby own_d_prog_34_method_4_code_53) hr, hrun, hended, _, _, rfl, (by show own_Q_eqB Z a1 a2 x1 x2 y1 y2 h0 n0 _ T7.heap _; rw [e7]; exact ⟨by rw [if_pos hc33_5, if_neg hc45_8], N0, rfl⟩), ⟨_, rfl⟩, hW, hsame.mono (by decide) (by decide)⟩
  · skip
    refine own_of (T' := T4) (f' := (mkF m 53 #[.val (.ref a1), .val (.ref a2), .val (.ref a2)] [(.int (0 : Int32))])) (fun t_ k_ => (XS.ifYes X4.here hx rfl (pc0 := 33) (pc' := 52) rfl (Jvm.hb hby own_d_prog_34_method_4_code_33) rfl ((if0 _ _).trans (feq (mt (lw_eq x1 y1).mp hc33_5)).2) (by decide) (by decide) (XS.iconst X4.here hx rfl (Jvm.hb hby own_d_prog_34_method_4_code_52) k_))) ?_
    obtain ⟨fs, hr, hrun, hended, hW, hsame⟩ := X4.leave (v := some (.int (0 : Int32))) (fun h => by rw [Bd.returns] at h; cases h)
    exact ⟨_, _, retN X4 hx (t := .boolean) Bd.returns (by simp) (Jvm.hb hby own_d_prog_34_method_4_code_53) hr, hrun, hended, _, _, rfl, (by show own_Q_eqB Z a1 a2 x1 x2 y1 y2 h0 n0 _ T4.heap _; rw [e4]; exact ⟨by rw [if_neg hc33_5], N0, rfl⟩), ⟨_, rfl⟩, hW, hsame.mono (by decide) (by decide)⟩
theorem own_pn_3 : plainName "com/example/suspicion/suspicion/election/AliveEquals449PinLaw" = true := by first | (simp [plainName, overriddenIn]; done) | decide +kernel
theorem own_ef_0 (m : MethodId) (q0 : Int64) (q1 : Int64) (q2 : Int64) (q3 : Int64) (p4 : Int32) : entryFrame m #[(.long q0), (.long q1), (.long q2), (.long q3), (.int p4)] maxLocals = mkF m 0 #[.val (.long q0), .second, .val (.long q1), .second, .val (.long q2), .second, .val (.long q3), .second, .val (.int p4), .unset, .unset, .unset, .unset, .unset, .unset, .unset, .unset, .unset, .unset, .unset, .unset, .unset, .unset, .unset] [] := by first | (simp [entryFrame, mkF, argsToLocals, Value.category, maxLocals]; done) | rfl
def own_Q_0 (Z : State) (q0 : Int64) (q1 : Int64) (q2 : Int64) (q3 : Int64) (p4 : Int32)  (h0 : Heap) (n0 : Nat) (v : Option Value) (h : Heap) (L : List Loc) : Prop := v = some (.int 1) ∧ Fr n0 L
theorem own_pd_1 : parseMethodDescriptor "(JJ)V" = some ⟨[.long, .long], none⟩ := by decide +kernel
theorem own_pd_2 : parseMethodDescriptor "(IJ)V" = some ⟨[.int, .long], none⟩ := by decide +kernel
theorem own_pd_3 : parseMethodDescriptor "(Ljava/lang/Object;)Z" = some ⟨[(.object "java/lang/Object")], some .boolean⟩ := by decide +kernel
set_option maxRecDepth 65536 in
set_option maxHeartbeats 40000000 in
theorem own_rm_0 (l : Launch) (Z : State) (a0 : Array Value) (hw : ∀ d ∈ tables_1, d.before a0 Z = true) (ws : List Jvm.Cond) (q0 : Int64) (q1 : Int64) (q2 : Int64) (q3 : Int64) (p4 : Int32)  (h0 : Heap) (n0 : Nat) (Z0 : n0 ≤ h0.size)  :
    MetFree l x (head1 (Jvm.Cond.code x code maxLocals ret :: ws) room_1) (fun a U => a = #[(.long q0), (.long q1), (.long q2), (.long q3), (.int p4)] ∧ Z.Warmed39 U.vm ∧ U.heap = h0) (fun _ _ _ _ _ => True) (fun _ U o U' => ∃ v L, o = .returned v ∧ own_Q_0 Z q0 q1 q2 q3 p4  h0 n0 v U'.heap L ∧ ReturnedEndW U o U' L room_1.cells room_1.slots) := by
  refine MetFree.of_bodySF (plainFor_of_name own_pn_3) hisR ?_
  intro p e s m args below meth c s₁ Bd hml0 hP hK
  obtain ⟨rfl, hZ, hh⟩ := hP
  have hx := Bd.exec
  have hby := Bd.bytes
  have hml : c.maxLocals = 24 := hml0
  have hown : s.vm.findClass "com/example/suspicion/suspicion/election/AliveEquals449PinLaw" = some m.cls := findClass_of_methodNamed Bd.named
  have hnm := (name_of_methodNamed Bd.named Bd.method).1
  have hZ : Z.Warmed39 (s.setVm s.vm).vm := hZ
  have hown : (s.setVm s.vm).vm.findClass "com/example/suspicion/suspicion/election/AliveEquals449PinLaw" = some m.cls := hown
  have hS : s.Since s.vm h0.size := (State.WarmedH.refl s).since _
  have hwS : ∀ a ∈ Bundle.stringAtoms, a.before a0 Z = true := fun a ha => hw a (own_sA a ha)
  have Y0 : h0.size ≤ h0.size := Nat.le_refl _
  have X0 : Stand p l e room_1 (s.setVm s.vm) m #[(.long q0), (.long q1), (.long q2), (.long q3), (.int p4)] below meth c s₁ [] 0 0 := Stand.of_body Bd
  have e0 : s₁.heap = h0 := by rw [← hh, Bd.state]; rfl
  have N0 := Fr.nil n0
  refine own_start (own_ef_0 m q0 q1 q2 q3 p4) ?_
  refine own_of (T' := s₁) (f' := (mkF m 5 #[.val (.long q0), .second, .val (.long q1), .second, .val (.long q2), .second, .val (.long q3), .second, .val (.int p4), .unset, .unset, .unset, .unset, .unset, .unset, .unset, .unset, .unset, .unset, .unset, .unset, .unset, .unset, .unset] [(.long (q0 &&& (9223372036854775807 : Int64)))])) (fun t_ k_ => (XS.lloadN X0.here hx rfl (Jvm.hb hby at_0) rfl (Jvm.Stand.ldc2J X0 hx hown (mvT hZ (hw _ (List.mem_of_getElem? (i := 0) rfl))) rfl (Jvm.hb hby at_1) (XS.land X0.here hx rfl (Jvm.hb hby at_4) rfl k_)))) ?_
  obtain ⟨ac, hac⟩ : ∃ z : Int64, (q0 &&& (9223372036854775807 : Int64)) = z := ⟨_, rfl⟩
  rw [hac]
  have nac := own_nn _ _ hac
  refine own_of (T' := s₁) (f' := (mkF m 12 #[.val (.long q0), .second, .val (.long q1), .second, .val (.long q2), .second, .val (.long q3), .second, .val (.int p4), .val (.long ac), .second, .unset, .unset, .unset, .unset, .unset, .unset, .unset, .unset, .unset, .unset, .unset, .unset, .unset] [(.long (q1 &&& (9223372036854775807 : Int64)))])) (fun t_ k_ => (XS.lstore X0.here hx rfl (Jvm.hb hby at_5) rfl (l' := #[.val (.long q0), .second, .val (.long q1), .second, .val (.long q2), .second, .val (.long q3), .second, .val (.int p4), .val (.long ac), .second, .unset, .unset, .unset, .unset, .unset, .unset, .unset, .unset, .unset, .unset, .unset, .unset, .unset]) rfl (XS.lloadN X0.here hx rfl (Jvm.hb hby at_7) rfl (Jvm.Stand.ldc2J X0 hx hown (mvT hZ (hw _ (List.mem_of_getElem? (i := 0) rfl))) rfl (Jvm.hb hby at_8) (XS.land X0.here hx rfl (Jvm.hb hby at_11) rfl k_))))) ?_
  obtain ⟨ap, hap⟩ : ∃ z : Int64, (q1 &&& (9223372036854775807 : Int64)) = z := ⟨_, rfl⟩
  rw [hap]
  have nap := own_nn _ _ hap
  refine own_of (T' := s₁) (f' := (mkF m 18 #[.val (.long q0), .second, .val (.long q1), .second, .val (.long q2), .second, .val (.long q3), .second, .val (.int p4), .val (.long ac), .second, .val (.long ap), .second, .unset, .unset, .unset, .unset, .unset, .unset, .unset, .unset, .unset, .unset, .unset] [(.int (p4 &&& (1 : Int32)))])) (fun t_ k_ => (XS.lstore X0.here hx rfl (Jvm.hb hby at_12) rfl (l' := #[.val (.long q0), .second, .val (.long q1), .second, .val (.long q2), .second, .val (.long q3), .second, .val (.int p4), .val (.long ac), .second, .val (.long ap), .second, .unset, .unset, .unset, .unset, .unset, .unset, .unset, .unset, .unset, .unset, .unset]) rfl (XS.iload X0.here hx rfl (Jvm.hb hby at_14) rfl (XS.iconst X0.here hx rfl (Jvm.hb hby at_16) (XS.iand X0.here hx rfl (Jvm.hb hby at_17) rfl k_))))) ?_
  obtain ⟨bc, hbc⟩ : ∃ z : Int64, z = (if (p4 &&& (1 : Int32)) = (0 : Int32) then (q2 &&& (9223372036854775807 : Int64)) else ac) := ⟨_, rfl⟩
  have st2 : ∀ t_, Steps p.tables e below (s₁.setTop (mkF m 32 #[.val (.long q0), .second, .val (.long q1), .second, .val (.long q2), .second, .val (.long q3), .second, .val (.int p4), .val (.long ac), .second, .val (.long ap), .second, .unset, .unset, .unset, .unset, .unset, .unset, .unset, .unset, .unset, .unset, .unset] [(.long bc)])) t_ → Steps p.tables e below (s₁.setTop (mkF m 18 #[.val (.long q0), .second, .val (.long q1), .second, .val (.long q2), .second, .val (.long q3), .second, .val (.int p4), .val (.long ac), .second, .val (.long ap), .second, .unset, .unset, .unset, .unset, .unset, .unset, .unset, .unset, .unset, .unset, .unset] [(.int (p4 &&& (1 : Int32)))])) t_ := by
    intro t_ k_
    by_cases hc18_1 : ((p4 &&& (1 : Int32)) = (0 : Int32))
    · skip
      refine (XS.ifYes X0.here hx rfl (pc0 := 18) (pc' := 26) rfl (Jvm.hb hby at_18) rfl ((if0 _ _).trans (teq hc18_1).1) (by decide) (by decide) (XS.lload X0.here hx rfl (Jvm.hb hby at_26) rfl (Jvm.Stand.ldc2J X0 hx hown (mvT hZ (hw _ (List.mem_of_getElem? (i := 0) rfl))) rfl (Jvm.hb hby at_28) (XS.land X0.here hx rfl (Jvm.hb hby at_31) rfl ?_))))
      show Steps p.tables e below (s₁.setTop (mkF m 32 #[.val (.long q0), .second, .val (.long q1), .second, .val (.long q2), .second, .val (.long q3), .second, .val (.int p4), .val (.long ac), .second, .val (.long ap), .second, .unset, .unset, .unset, .unset, .unset, .unset, .unset, .unset, .unset, .unset, .unset] [(.long (q2 &&& (9223372036854775807 : Int64)))])) t_
      rw [hbc, if_pos hc18_1] at k_
      exact k_
    · skip
      refine (XS.ifNo X0.here hx rfl (Jvm.hb hby at_18) rfl ((if0 _ _).trans (feq hc18_1).1) (XS.lload X0.here hx rfl (Jvm.hb hby at_21) rfl (XS.goto X0.here hx rfl (pc0 := 23) (pc' := 32) rfl (Jvm.hb hby at_23) (by decide) (by decide) ?_)))
      show Steps p.tables e below (s₁.setTop (mkF m 32 #[.val (.long q0), .second, .val (.long q1), .second, .val (.long q2), .second, .val (.long q3), .second, .val (.int p4), .val (.long ac), .second, .val (.long ap), .second, .unset, .unset, .unset, .unset, .unset, .unset, .unset, .unset, .unset, .unset, .unset] [(.long ac)])) t_
      rw [hbc, if_neg hc18_1] at k_
      exact k_
  refine own_of (T' := s₁) (f' := (mkF m 32 #[.val (.long q0), .second, .val (.long q1), .second, .val (.long q2), .second, .val (.long q3), .second, .val (.int p4), .val (.long ac), .second, .val (.long ap), .second, .unset, .unset, .unset, .unset, .unset, .unset, .unset, .unset, .unset, .unset, .unset] [(.long bc)])) st2 ?_
  have nbc : ¬ bc < (0 : Int64) := by rw [hbc]; exact own_nn2 _ _ _ (own_nn _ _ rfl) nac
  refine own_of (T' := s₁) (f' := (mkF m 38 #[.val (.long q0), .second, .val (.long q1), .second, .val (.long q2), .second, .val (.long q3), .second, .val (.int p4), .val (.long ac), .second, .val (.long ap), .second, .val (.long bc), .second, .unset, .unset, .unset, .unset, .unset, .unset, .unset, .unset, .unset] [(.int (p4 &&& (2 : Int32)))])) (fun t_ k_ => (XS.lstore X0.here hx rfl (Jvm.hb hby at_32) rfl (l' := #[.val (.long q0), .second, .val (.long q1), .second, .val (.long q2), .second, .val (.long q3), .second, .val (.int p4), .val (.long ac), .second, .val (.long ap), .second, .val (.long bc), .second, .unset, .unset, .unset, .unset, .unset, .unset, .unset, .unset, .unset]) rfl (XS.iload X0.here hx rfl (Jvm.hb hby at_34) rfl (XS.iconst X0.here hx rfl (Jvm.hb hby at_36) (XS.iand X0.here hx rfl (Jvm.hb hby at_37) rfl k_))))) ?_
  obtain ⟨bp, hbp⟩ : ∃ z : Int64, z = (if (p4 &&& (2 : Int32)) = (0 : Int32) then (q3 &&& (9223372036854775807 : Int64)) else ap) := ⟨_, rfl⟩
  have st4 : ∀ t_, Steps p.tables e below (s₁.setTop (mkF m 52 #[.val (.long q0), .second, .val (.long q1), .second, .val (.long q2), .second, .val (.long q3), .second, .val (.int p4), .val (.long ac), .second, .val (.long ap), .second, .val (.long bc), .second, .unset, .unset, .unset, .unset, .unset, .unset, .unset, .unset, .unset] [(.long bp)])) t_ → Steps p.tables e below (s₁.setTop (mkF m 38 #[.val (.long q0), .second, .val (.long q1), .second, .val (.long q2), .second, .val (.long q3), .second, .val (.int p4), .val (.long ac), .second, .val (.long ap), .second, .val (.long bc), .second, .unset, .unset, .unset, .unset, .unset, .unset, .unset, .unset, .unset] [(.int (p4 &&& (2 : Int32)))])) t_ := by
    intro t_ k_
    by_cases hc38_3 : ((p4 &&& (2 : Int32)) = (0 : Int32))
    · skip
      refine (XS.ifYes X0.here hx rfl (pc0 := 38) (pc' := 46) rfl (Jvm.hb hby at_38) rfl ((if0 _ _).trans (teq hc38_3).1) (by decide) (by decide) (XS.lload X0.here hx rfl (Jvm.hb hby at_46) rfl (Jvm.Stand.ldc2J X0 hx hown (mvT hZ (hw _ (List.mem_of_getElem? (i := 0) rfl))) rfl (Jvm.hb hby at_48) (XS.land X0.here hx rfl (Jvm.hb hby at_51) rfl ?_))))
      show Steps p.tables e below (s₁.setTop (mkF m 52 #[.val (.long q0), .second, .val (.long q1), .second, .val (.long q2), .second, .val (.long q3), .second, .val (.int p4), .val (.long ac), .second, .val (.long ap), .second, .val (.long bc), .second, .unset, .unset, .unset, .unset, .unset, .unset, .unset, .unset, .unset] [(.long (q3 &&& (9223372036854775807 : Int64)))])) t_
      rw [hbp, if_pos hc38_3] at k_
      exact k_
    · skip
      refine (XS.ifNo X0.here hx rfl (Jvm.hb hby at_38) rfl ((if0 _ _).trans (feq hc38_3).1) (XS.lload X0.here hx rfl (Jvm.hb hby at_41) rfl (XS.goto X0.here hx rfl (pc0 := 43) (pc' := 52) rfl (Jvm.hb hby at_43) (by decide) (by decide) ?_)))
      show Steps p.tables e below (s₁.setTop (mkF m 52 #[.val (.long q0), .second, .val (.long q1), .second, .val (.long q2), .second, .val (.long q3), .second, .val (.int p4), .val (.long ac), .second, .val (.long ap), .second, .val (.long bc), .second, .unset, .unset, .unset, .unset, .unset, .unset, .unset, .unset, .unset] [(.long ap)])) t_
      rw [hbp, if_neg hc38_3] at k_
      exact k_
  refine own_of (T' := s₁) (f' := (mkF m 52 #[.val (.long q0), .second, .val (.long q1), .second, .val (.long q2), .second, .val (.long q3), .second, .val (.int p4), .val (.long ac), .second, .val (.long ap), .second, .val (.long bc), .second, .unset, .unset, .unset, .unset, .unset, .unset, .unset, .unset, .unset] [(.long bp)])) st4 ?_
  have nbp : ¬ bp < (0 : Int64) := by rw [hbp]; exact own_nn2 _ _ _ (own_nn _ _ rfl) nap
  refine own_of (T' := s₁) (f' := (mkF m 60 #[.val (.long q0), .second, .val (.long q1), .second, .val (.long q2), .second, .val (.long q3), .second, .val (.int p4), .val (.long ac), .second, .val (.long ap), .second, .val (.long bc), .second, .val (.long bp), .second, .unset, .unset, .unset, .unset, .unset, .unset, .unset] [(.int (((p4.toUInt32 >>> ((2 : Int32) &&& 31).toUInt32).toInt32) &&& (3 : Int32)))])) (fun t_ k_ => (XS.lstore X0.here hx rfl (Jvm.hb hby at_52) rfl (l' := #[.val (.long q0), .second, .val (.long q1), .second, .val (.long q2), .second, .val (.long q3), .second, .val (.int p4), .val (.long ac), .second, .val (.long ap), .second, .val (.long bc), .second, .val (.long bp), .second, .unset, .unset, .unset, .unset, .unset, .unset, .unset]) rfl (XS.iload X0.here hx rfl (Jvm.hb hby at_54) rfl (XS.iconst X0.here hx rfl (Jvm.hb hby at_56) (XS.iushr X0.here hx rfl (Jvm.hb hby at_57) rfl (XS.iconst X0.here hx rfl (Jvm.hb hby at_58) (XS.iand X0.here hx rfl (Jvm.hb hby at_59) rfl k_))))))) ?_
  obtain ⟨kd, hkd⟩ : ∃ z : Int32, (((p4.toUInt32 >>> ((2 : Int32) &&& 31).toUInt32).toInt32) &&& (3 : Int32)) = z := ⟨_, rfl⟩
  rw [hkd]
  refine own_of (T' := s₁) (f' := (mkF m 62 #[.val (.long q0), .second, .val (.long q1), .second, .val (.long q2), .second, .val (.long q3), .second, .val (.int p4), .val (.long ac), .second, .val (.long ap), .second, .val (.long bc), .second, .val (.long bp), .second, .val (.int kd), .unset, .unset, .unset, .unset, .unset, .unset] [])) (fun t_ k_ => (XS.istore X0.here hx rfl (Jvm.hb hby at_60) rfl (l' := #[.val (.long q0), .second, .val (.long q1), .second, .val (.long q2), .second, .val (.long q3), .second, .val (.int p4), .val (.long ac), .second, .val (.long ap), .second, .val (.long bc), .second, .val (.long bp), .second, .val (.int kd), .unset, .unset, .unset, .unset, .unset, .unset]) rfl k_)) ?_
  obtain ⟨T5, h5, X5, e5, E5, A5, D5, -, st5⟩ := newO X0 hx hZ hown (hw _ (List.mem_of_getElem? (i := 1) rfl)) (hw _ (List.mem_of_getElem? (i := 2) rfl)) (hw _ (List.mem_of_getElem? (i := 3) rfl)) e0 (g := (mkF m 62 #[.val (.long q0), .second, .val (.long q1), .second, .val (.long q2), .second, .val (.long q3), .second, .val (.int p4), .val (.long ac), .second, .val (.long ap), .second, .val (.long bc), .second, .val (.long bp), .second, .val (.int kd), .unset, .unset, .unset, .unset, .unset, .unset] [])) rfl (Jvm.hb hby at_62) (by decide) (by decide)
  obtain ⟨a, g5⟩ : ∃ z, z = h0.size := ⟨_, rfl⟩
  rw [← g5] at A5 D5 st5
  have g_a : n0 ≤ a := Nat.le_trans Z0 (Nat.le_of_eq g5.symm)
  have f6 := Nat.le_trans Y0 E5.1
  have f7 := Nat.le_trans Z0 E5.1
  have f8 : Fld Z h5 a "com/example/suspicion/suspicion/election/Efficient$Alive" "_counter" "J" (.long (0 : Int64)) := D5 (Or.inr (hw _ (List.mem_of_getElem? (i := 24) rfl))) (ty := .long) (by decide)
  have f9 : Fld Z h5 a "com/example/suspicion/suspicion/election/Efficient$Alive" "_phase" "J" (.long (0 : Int64)) := D5 (Or.inr (hw _ (List.mem_of_getElem? (i := 26) rfl))) (ty := .long) (by decide)
  refine own_of (T' := T5) (f' := (mkF m 70 #[.val (.long q0), .second, .val (.long q1), .second, .val (.long q2), .second, .val (.long q3), .second, .val (.int p4), .val (.long ac), .second, .val (.long ap), .second, .val (.long bc), .second, .val (.long bp), .second, .val (.int kd), .unset, .unset, .unset, .unset, .unset, .unset] [(.long ap), (.long ac), (.ref a), (.ref a)])) (fun t_ k_ => (st5 _ (XS.dup X5.here hx rfl (Jvm.hb hby at_65) rfl rfl (XS.lload X5.here hx rfl (Jvm.hb hby at_66) rfl (XS.lload X5.here hx rfl (Jvm.hb hby at_68) rfl k_))))) ?_
  obtain ⟨_, _, ⟨T10, L10, k10, n10⟩, -, X10, hs10, gr10, ⟨Lc10, hQ10, l10, y10, z10⟩, st10⟩ := X5.specialBackS hx (y := (⟨"com/example/suspicion/suspicion/election/Efficient$Alive", "<init>", "(JJ)V"⟩ : MethodName)) rfl hown (mvT hZ (hw _ (List.mem_of_getElem? (i := 4) rfl))) (mvT hZ (hw _ (List.mem_of_getElem? (i := 5) rfl))) (mvT hZ (hw _ (List.mem_of_getElem? (i := 6) rfl))) (by decide) (backOfS (W := 1) (own_rm_init l Z a0 hw [] a ac ap h5 n0 f7 f8 f9 A5 g_a nac nap) hZ (hw _ (List.mem_of_getElem? (i := 6) rfl)) (hw _ (List.mem_of_getElem? (i := 3) rfl)) (by decide) (by decide)) (g := (mkF m 70 #[.val (.long q0), .second, .val (.long q1), .second, .val (.long q2), .second, .val (.long q3), .second, .val (.int p4), .val (.long ac), .second, .val (.long ap), .second, .val (.long bc), .second, .val (.long bp), .second, .val (.int kd), .unset, .unset, .unset, .unset, .unset, .unset] [(.long ap), (.long ac), (.ref a), (.ref a)])) rfl (by rw [hml]; rfl) (Steps.refl _) (a := a) (argsL := [(.long ac), (.long ap)]) (rest := [(.ref a)]) (lenOf own_pd_1 rfl) rfl (by show 2 * 0 + _ ≤ _; exact Nat.le_of_eq rfl) (Jvm.hb hby at_70) (fun _ _ => ⟨rfl, e5, Nat.le_of_ble_eq_true rfl, Nat.le_of_ble_eq_true rfl⟩)
  dsimp only [Pt.U, Pt.locs, Pt.cells, Pt.slots] at X10 hs10 gr10 l10 y10 z10 st10 hQ10
  subst l10 y10 z10
  obtain ⟨X10, hS, hZ, hown⟩ := rebS (n1 := T5.heap.size) hS (by rw [e5]; exact f6) X10 hs10 gr10 hZ hown
  obtain ⟨rfl, N10, K10, Ex10, Fa10, Fb10⟩ := hQ10
  have N11 := Fr.app N0 N10
  have f12 := Nat.le_trans f7 K10.1
  have f13 := A5.keep K10
  have f16 := (Nat.le_refl _ : T10.heap.size ≤ T10.heap.size)
  refine own_of (T' := T10) (f' := (mkF m 75 #[.val (.long q0), .second, .val (.long q1), .second, .val (.long q2), .second, .val (.long q3), .second, .val (.int p4), .val (.long ac), .second, .val (.long ap), .second, .val (.long bc), .second, .val (.long bp), .second, .val (.int kd), .val (.ref a), .unset, .unset, .unset, .unset, .unset] [])) (fun t_ k_ => (st10.trans (XS.astore X10.here hx rfl (Jvm.hb hby at_73) rfl rfl (l' := #[.val (.long q0), .second, .val (.long q1), .second, .val (.long q2), .second, .val (.long q3), .second, .val (.int p4), .val (.long ac), .second, .val (.long ap), .second, .val (.long bc), .second, .val (.long bp), .second, .val (.int kd), .val (.ref a), .unset, .unset, .unset, .unset, .unset]) rfl k_))) ?_
  obtain ⟨T17, h17, X17, e17, E17, A17, D17, -, st17⟩ := newO X10 hx hZ hown (hw _ (List.mem_of_getElem? (i := 1) rfl)) (hw _ (List.mem_of_getElem? (i := 2) rfl)) (hw _ (List.mem_of_getElem? (i := 3) rfl)) rfl (g := (mkF m 75 #[.val (.long q0), .second, .val (.long q1), .second, .val (.long q2), .second, .val (.long q3), .second, .val (.int p4), .val (.long ac), .second, .val (.long ap), .second, .val (.long bc), .second, .val (.long bp), .second, .val (.int kd), .val (.ref a), .unset, .unset, .unset, .unset, .unset] [])) rfl (Jvm.hb hby at_75) (by decide) (by decide)
  obtain ⟨b, g17⟩ : ∃ z, z = T10.heap.size := ⟨_, rfl⟩
  rw [← g17] at A17 D17 st17
  have ne_a_b : a ≠ b := by rw [g17]; exact Nat.ne_of_lt Ex10.lt
  have g_b : n0 ≤ b := Nat.le_trans f12 (Nat.le_of_eq g17.symm)
  have f18 := Nat.le_trans f12 E17.1
  have f19 := Ex10.ext E17
  have f20 := Nat.le_trans f16 E17.1
  have f21 := Fa10.ext E17
  have f22 := Fb10.ext E17
  have f23 : Fld Z h17 b "com/example/suspicion/suspicion/election/Efficient$Alive" "_counter" "J" (.long (0 : Int64)) := D17 (Or.inr (hw _ (List.mem_of_getElem? (i := 24) rfl))) (ty := .long) (by decide)
  have f24 : Fld Z h17 b "com/example/suspicion/suspicion/election/Efficient$Alive" "_phase" "J" (.long (0 : Int64)) := D17 (Or.inr (hw _ (List.mem_of_getElem? (i := 26) rfl))) (ty := .long) (by decide)
  refine own_of (T' := T17) (f' := (mkF m 83 #[.val (.long q0), .second, .val (.long q1), .second, .val (.long q2), .second, .val (.long q3), .second, .val (.int p4), .val (.long ac), .second, .val (.long ap), .second, .val (.long bc), .second, .val (.long bp), .second, .val (.int kd), .val (.ref a), .unset, .unset, .unset, .unset, .unset] [(.long bp), (.long bc), (.ref b), (.ref b)])) (fun t_ k_ => (st17 _ (XS.dup X17.here hx rfl (Jvm.hb hby at_78) rfl rfl (XS.lload X17.here hx rfl (Jvm.hb hby at_79) rfl (XS.lload X17.here hx rfl (Jvm.hb hby at_81) rfl k_))))) ?_
  obtain ⟨_, _, ⟨T25, L25, k25, n25⟩, -, X25, hs25, gr25, ⟨Lc25, hQ25, l25, y25, z25⟩, st25⟩ := X17.specialBackS hx (y := (⟨"com/example/suspicion/suspicion/election/Efficient$Alive", "<init>", "(JJ)V"⟩ : MethodName)) rfl hown (mvT hZ (hw _ (List.mem_of_getElem? (i := 4) rfl))) (mvT hZ (hw _ (List.mem_of_getElem? (i := 5) rfl))) (mvT hZ (hw _ (List.mem_of_getElem? (i := 6) rfl))) (by decide) (backOfS (W := 1) (own_rm_init l Z a0 hw [] b bc bp h17 n0 f18 f23 f24 A17 g_b nbc nbp) hZ (hw _ (List.mem_of_getElem? (i := 6) rfl)) (hw _ (List.mem_of_getElem? (i := 3) rfl)) (by decide) (by decide)) (g := (mkF m 83 #[.val (.long q0), .second, .val (.long q1), .second, .val (.long q2), .second, .val (.long q3), .second, .val (.int p4), .val (.long ac), .second, .val (.long ap), .second, .val (.long bc), .second, .val (.long bp), .second, .val (.int kd), .val (.ref a), .unset, .unset, .unset, .unset, .unset] [(.long bp), (.long bc), (.ref b), (.ref b)])) rfl (by rw [hml]; rfl) (Steps.refl _) (a := b) (argsL := [(.long bc), (.long bp)]) (rest := [(.ref b)]) (lenOf own_pd_1 rfl) rfl (by show 2 * 0 + _ ≤ _; exact Nat.le_of_eq rfl) (Jvm.hb hby at_83) (fun _ _ => ⟨rfl, e17, Nat.le_of_ble_eq_true rfl, Nat.le_of_ble_eq_true rfl⟩)
  dsimp only [Pt.U, Pt.locs, Pt.cells, Pt.slots] at X25 hs25 gr25 l25 y25 z25 st25 hQ25
  subst l25 y25 z25
  obtain ⟨X25, hS, hZ, hown⟩ := rebS (n1 := T17.heap.size) hS (by rw [e17]; exact f20) X25 hs25 gr25 hZ hown
  obtain ⟨rfl, N25, K25, Ex25, Fa25, Fb25⟩ := hQ25
  have N26 := Fr.app N11 N25
  have f27 := Nat.le_trans f18 K25.1
  have f28 := f19.keep K25
  have f29 := f21.keep K25 (ninS ne_a_b nin0)
  have f30 := f22.keep K25 (ninS ne_a_b nin0)
  have f31 := A17.keep K25
  have f34 := (Nat.le_refl _ : T25.heap.size ≤ T25.heap.size)
  refine own_of (T' := T25) (f' := (mkF m 88 #[.val (.long q0), .second, .val (.long q1), .second, .val (.long q2), .second, .val (.long q3), .second, .val (.int p4), .val (.long ac), .second, .val (.long ap), .second, .val (.long bc), .second, .val (.long bp), .second, .val (.int kd), .val (.ref a), .val (.ref b), .unset, .unset, .unset, .unset] [])) (fun t_ k_ => (st25.trans (XS.astore X25.here hx rfl (Jvm.hb hby at_86) rfl rfl (l' := #[.val (.long q0), .second, .val (.long q1), .second, .val (.long q2), .second, .val (.long q3), .second, .val (.int p4), .val (.long ac), .second, .val (.long ap), .second, .val (.long bc), .second, .val (.long bp), .second, .val (.int kd), .val (.ref a), .val (.ref b), .unset, .unset, .unset, .unset]) rfl k_))) ?_
  obtain ⟨T35, h35, X35, e35, E35, A35, D35, -, st35⟩ := newO X25 hx hZ hown (hw _ (List.mem_of_getElem? (i := 27) rfl)) (hw _ (List.mem_of_getElem? (i := 28) rfl)) (hw _ (List.mem_of_getElem? (i := 29) rfl)) rfl (g := (mkF m 88 #[.val (.long q0), .second, .val (.long q1), .second, .val (.long q2), .second, .val (.long q3), .second, .val (.int p4), .val (.long ac), .second, .val (.long ap), .second, .val (.long bc), .second, .val (.long bp), .second, .val (.int kd), .val (.ref a), .val (.ref b), .unset, .unset, .unset, .unset] [])) rfl (Jvm.hb hby at_88) (by decide) (by decide)
  obtain ⟨ch, g35⟩ : ∃ z, z = T25.heap.size := ⟨_, rfl⟩
  rw [← g35] at A35 D35 st35
  have ne_a_ch : a ≠ ch := by rw [g35]; exact Nat.ne_of_lt f28.lt
  have ne_b_ch : b ≠ ch := by rw [g35]; exact Nat.ne_of_lt Ex25.lt
  have g_ch : n0 ≤ ch := Nat.le_trans f27 (Nat.le_of_eq g35.symm)
  have f36 := Nat.le_trans f27 E35.1
  have f37 := f28.ext E35
  have f38 := f29.ext E35
  have f39 := f30.ext E35
  have f40 := Ex25.ext E35
  have f41 := Nat.le_trans f34 E35.1
  have f42 := Fa25.ext E35
  have f43 := Fb25.ext E35
  have f44 : Fld Z h35 ch "com/example/suspicion/suspicion/election/Efficient$Check" "_member" "I" (.int (0 : Int32)) := D35 (Or.inr (hw _ (List.mem_of_getElem? (i := 37) rfl))) (ty := .int) (by decide)
  have f45 : Fld Z h35 ch "com/example/suspicion/suspicion/election/Efficient$Check" "_phase" "J" (.long (0 : Int64)) := D35 (Or.inr (hw _ (List.mem_of_getElem? (i := 39) rfl))) (ty := .long) (by decide)
  refine own_of (T' := T35) (f' := (mkF m 97 #[.val (.long q0), .second, .val (.long q1), .second, .val (.long q2), .second, .val (.long q3), .second, .val (.int p4), .val (.long ac), .second, .val (.long ap), .second, .val (.long bc), .second, .val (.long bp), .second, .val (.int kd), .val (.ref a), .val (.ref b), .unset, .unset, .unset, .unset] [(.long ap), (.int (ac.toInt32)), (.ref ch), (.ref ch)])) (fun t_ k_ => (st35 _ (XS.dup X35.here hx rfl (Jvm.hb hby at_91) rfl rfl (XS.lload X35.here hx rfl (Jvm.hb hby at_92) rfl (XS.l2i X35.here hx rfl (Jvm.hb hby at_94) rfl (XS.lload X35.here hx rfl (Jvm.hb hby at_95) rfl k_)))))) ?_
  obtain ⟨_, _, ⟨T46, L46, k46, n46⟩, -, X46, hs46, gr46, ⟨Lc46, hQ46, l46, y46, z46⟩, st46⟩ := X35.specialBackS hx (y := (⟨"com/example/suspicion/suspicion/election/Efficient$Check", "<init>", "(IJ)V"⟩ : MethodName)) rfl hown (mvT hZ (hw _ (List.mem_of_getElem? (i := 30) rfl))) (mvT hZ (hw _ (List.mem_of_getElem? (i := 31) rfl))) (mvT hZ (hw _ (List.mem_of_getElem? (i := 32) rfl))) (by decide) (backOfS (W := 1) (own_rm_cinit l Z a0 hw [] ch ac.toInt32 ap h35 n0 f36 f44 f45 A35 g_ch nap) hZ (hw _ (List.mem_of_getElem? (i := 32) rfl)) (hw _ (List.mem_of_getElem? (i := 29) rfl)) (by decide) (by decide)) (g := (mkF m 97 #[.val (.long q0), .second, .val (.long q1), .second, .val (.long q2), .second, .val (.long q3), .second, .val (.int p4), .val (.long ac), .second, .val (.long ap), .second, .val (.long bc), .second, .val (.long bp), .second, .val (.int kd), .val (.ref a), .val (.ref b), .unset, .unset, .unset, .unset] [(.long ap), (.int (ac.toInt32)), (.ref ch), (.ref ch)])) rfl (by rw [hml]; rfl) (Steps.refl _) (a := ch) (argsL := [(.int (ac.toInt32)), (.long ap)]) (rest := [(.ref ch)]) (lenOf own_pd_2 rfl) rfl (by show 2 * 0 + _ ≤ _; exact Nat.le_of_eq rfl) (Jvm.hb hby at_97) (fun _ _ => ⟨rfl, e35, Nat.le_of_ble_eq_true rfl, Nat.le_of_ble_eq_true rfl⟩)
  dsimp only [Pt.U, Pt.locs, Pt.cells, Pt.slots] at X46 hs46 gr46 l46 y46 z46 st46 hQ46
  subst l46 y46 z46
  obtain ⟨X46, hS, hZ, hown⟩ := rebS (n1 := T35.heap.size) hS (by rw [e35]; exact f41) X46 hs46 gr46 hZ hown
  obtain ⟨rfl, N46, K46, Ex46, Fa46, Fb46⟩ := hQ46
  have N47 := Fr.app N26 N46
  have f48 := Nat.le_trans f36 K46.1
  have f49 := f37.keep K46
  have f50 := f38.keep K46 (ninS ne_a_ch nin0)
  have f51 := f39.keep K46 (ninS ne_a_ch nin0)
  have f52 := f40.keep K46
  have f53 := f42.keep K46 (ninS ne_b_ch nin0)
  have f54 := f43.keep K46 (ninS ne_b_ch nin0)
  have f55 := A35.keep K46
  have f58 := (Nat.le_refl _ : T46.heap.size ≤ T46.heap.size)
  refine own_of (T' := T46) (f' := (mkF m 104 #[.val (.long q0), .second, .val (.long q1), .second, .val (.long q2), .second, .val (.long q3), .second, .val (.int p4), .val (.long ac), .second, .val (.long ap), .second, .val (.long bc), .second, .val (.long bp), .second, .val (.int kd), .val (.ref a), .val (.ref b), .val (.ref ch), .unset, .unset, .unset] [(.int kd)])) (fun t_ k_ => (st46.trans (XS.astore X46.here hx rfl (Jvm.hb hby at_100) rfl rfl (l' := #[.val (.long q0), .second, .val (.long q1), .second, .val (.long q2), .second, .val (.long q3), .second, .val (.int p4), .val (.long ac), .second, .val (.long ap), .second, .val (.long bc), .second, .val (.long bp), .second, .val (.int kd), .val (.ref a), .val (.ref b), .val (.ref ch), .unset, .unset, .unset]) rfl (XS.iload X46.here hx rfl (Jvm.hb hby at_102) rfl k_)))) ?_
  by_cases hc104_59 : (kd = (0 : Int32))
  · skip
    refine own_of (T' := T46) (f' := (mkF m 116 #[.val (.long q0), .second, .val (.long q1), .second, .val (.long q2), .second, .val (.long q3), .second, .val (.int p4), .val (.long ac), .second, .val (.long ap), .second, .val (.long bc), .second, .val (.long bp), .second, .val (.int kd), .val (.ref a), .val (.ref b), .val (.ref ch), .val (.ref b), .unset, .unset] [(.int (lcmpW bc ac))])) (fun t_ k_ => (XS.ifNo X46.here hx rfl (Jvm.hb hby at_104) rfl ((if0 _ _).trans (teq hc104_59).2) (XS.aload X46.here hx rfl (Jvm.hb hby at_107) rfl rfl (XS.astore X46.here hx rfl (Jvm.hb hby at_109) rfl rfl (l' := #[.val (.long q0), .second, .val (.long q1), .second, .val (.long q2), .second, .val (.long q3), .second, .val (.int p4), .val (.long ac), .second, .val (.long ap), .second, .val (.long bc), .second, .val (.long bp), .second, .val (.int kd), .val (.ref a), .val (.ref b), .val (.ref ch), .val (.ref b), .unset, .unset]) rfl (XS.lload X46.here hx rfl (Jvm.hb hby at_111) rfl (XS.lload X46.here hx rfl (Jvm.hb hby at_113) rfl (XS.lcmp X46.here hx rfl (Jvm.hb hby at_115) rfl k_))))))) ?_
    obtain ⟨ex, hex⟩ : ∃ z : Int32, z = (if bc = ac then (if bp = ap then (1 : Int32) else (0 : Int32)) else (0 : Int32)) := ⟨_, rfl⟩
    have st62 : ∀ t_, Steps p.tables e below (T46.setTop (mkF m 132 #[.val (.long q0), .second, .val (.long q1), .second, .val (.long q2), .second, .val (.long q3), .second, .val (.int p4), .val (.long ac), .second, .val (.long ap), .second, .val (.long bc), .second, .val (.long bp), .second, .val (.int kd), .val (.ref a), .val (.ref b), .val (.ref ch), .val (.ref b), .unset, .unset] [(.int ex)])) t_ → Steps p.tables e below (T46.setTop (mkF m 116 #[.val (.long q0), .second, .val (.long q1), .second, .val (.long q2), .second, .val (.long q3), .second, .val (.int p4), .val (.long ac), .second, .val (.long ap), .second, .val (.long bc), .second, .val (.long bp), .second, .val (.int kd), .val (.ref a), .val (.ref b), .val (.ref ch), .val (.ref b), .unset, .unset] [(.int (lcmpW bc ac))])) t_ := by
      intro t_ k_
      by_cases hc116_60 : (bc = ac)
      · skip
        refine (XS.ifNo X46.here hx rfl (Jvm.hb hby at_116) rfl ((if0 _ _).trans (teq ((lw_eq bc ac).mpr hc116_60)).2) (XS.lload X46.here hx rfl (Jvm.hb hby at_119) rfl (XS.lload X46.here hx rfl (Jvm.hb hby at_121) rfl (XS.lcmp X46.here hx rfl (Jvm.hb hby at_123) rfl ?_))))
        show Steps p.tables e below (T46.setTop (mkF m 124 #[.val (.long q0), .second, .val (.long q1), .second, .val (.long q2), .second, .val (.long q3), .second, .val (.int p4), .val (.long ac), .second, .val (.long ap), .second, .val (.long bc), .second, .val (.long bp), .second, .val (.int kd), .val (.ref a), .val (.ref b), .val (.ref ch), .val (.ref b), .unset, .unset] [(.int (lcmpW bp ap))])) t_
        by_cases hc124_61 : (bp = ap)
        · skip
          refine (XS.ifNo X46.here hx rfl (Jvm.hb hby at_124) rfl ((if0 _ _).trans (teq ((lw_eq bp ap).mpr hc124_61)).2) (XS.iconst X46.here hx rfl (Jvm.hb hby at_127) (XS.goto X46.here hx rfl (pc0 := 128) (pc' := 132) rfl (Jvm.hb hby at_128) (by decide) (by decide) ?_)))
          show Steps p.tables e below (T46.setTop (mkF m 132 #[.val (.long q0), .second, .val (.long q1), .second, .val (.long q2), .second, .val (.long q3), .second, .val (.int p4), .val (.long ac), .second, .val (.long ap), .second, .val (.long bc), .second, .val (.long bp), .second, .val (.int kd), .val (.ref a), .val (.ref b), .val (.ref ch), .val (.ref b), .unset, .unset] [(.int (1 : Int32))])) t_
          rw [hex, if_pos hc116_60, if_pos hc124_61] at k_
          exact k_
        · skip
          refine (XS.ifYes X46.here hx rfl (pc0 := 124) (pc' := 131) rfl (Jvm.hb hby at_124) rfl ((if0 _ _).trans (feq (mt (lw_eq bp ap).mp hc124_61)).2) (by decide) (by decide) (XS.iconst X46.here hx rfl (Jvm.hb hby at_131) ?_))
          show Steps p.tables e below (T46.setTop (mkF m 132 #[.val (.long q0), .second, .val (.long q1), .second, .val (.long q2), .second, .val (.long q3), .second, .val (.int p4), .val (.long ac), .second, .val (.long ap), .second, .val (.long bc), .second, .val (.long bp), .second, .val (.int kd), .val (.ref a), .val (.ref b), .val (.ref ch), .val (.ref b), .unset, .unset] [(.int (0 : Int32))])) t_
          rw [hex, if_pos hc116_60, if_neg hc124_61] at k_
          exact k_
      · skip
        refine (XS.ifYes X46.here hx rfl (pc0 := 116) (pc' := 131) rfl (Jvm.hb hby at_116) rfl ((if0 _ _).trans (feq (mt (lw_eq bc ac).mp hc116_60)).2) (by decide) (by decide) (XS.iconst X46.here hx rfl (Jvm.hb hby at_131) ?_))
        show Steps p.tables e below (T46.setTop (mkF m 132 #[.val (.long q0), .second, .val (.long q1), .second, .val (.long q2), .second, .val (.long q3), .second, .val (.int p4), .val (.long ac), .second, .val (.long ap), .second, .val (.long bc), .second, .val (.long bp), .second, .val (.int kd), .val (.ref a), .val (.ref b), .val (.ref ch), .val (.ref b), .unset, .unset] [(.int (0 : Int32))])) t_
        rw [hex, if_neg hc116_60] at k_
        exact k_
    refine own_of (T' := T46) (f' := (mkF m 132 #[.val (.long q0), .second, .val (.long q1), .second, .val (.long q2), .second, .val (.long q3), .second, .val (.int p4), .val (.long ac), .second, .val (.long ap), .second, .val (.long bc), .second, .val (.long bp), .second, .val (.int kd), .val (.ref a), .val (.ref b), .val (.ref ch), .val (.ref b), .unset, .unset] [(.int ex)])) st62 ?_
    refine own_of (T' := T46) (f' := (mkF m 179 #[.val (.long q0), .second, .val (.long q1), .second, .val (.long q2), .second, .val (.long q3), .second, .val (.int p4), .val (.long ac), .second, .val (.long ap), .second, .val (.long bc), .second, .val (.long bp), .second, .val (.int kd), .val (.ref a), .val (.ref b), .val (.ref ch), .val (.ref b), .val (.int ex), .unset] [(.ref b), (.ref a)])) (fun t_ k_ => (XS.istore X46.here hx rfl (Jvm.hb hby at_132) rfl (l' := #[.val (.long q0), .second, .val (.long q1), .second, .val (.long q2), .second, .val (.long q3), .second, .val (.int p4), .val (.long ac), .second, .val (.long ap), .second, .val (.long bc), .second, .val (.long bp), .second, .val (.int kd), .val (.ref a), .val (.ref b), .val (.ref ch), .val (.ref b), .val (.int ex), .unset]) rfl (XS.goto X46.here hx rfl (pc0 := 134) (pc' := 175) rfl (Jvm.hb hby at_134) (by decide) (by decide) (XS.aload X46.here hx rfl (Jvm.hb hby at_175) rfl rfl (XS.aload X46.here hx rfl (Jvm.hb hby at_177) rfl rfl k_))))) ?_
    obtain ⟨cq64, kq64, q64a, q64b, q64c⟩ := isOf hZ rfl f49
    obtain ⟨_, _, ⟨T63, L63, k63, n63⟩, -, X63, ⟨Lc63, hQ63, l63, y63, z63⟩, st63⟩ := X46.virtualBack hx (y := (⟨"com/example/suspicion/suspicion/election/Efficient$Alive", "equals", "(Ljava/lang/Object;)Z"⟩ : MethodName)) (z := (⟨"com/example/suspicion/suspicion/election/Efficient$Alive", "equals", "(Ljava/lang/Object;)Z"⟩ : MethodName)) hown (mvT hZ (hw _ (List.mem_of_getElem? (i := 40) rfl))) (mvT hZ (hw _ (List.mem_of_getElem? (i := 41) rfl))) (notFace_of_selects (args := #[]) (mvT hZ (hw _ (List.mem_of_getElem? (i := 43) rfl)))) (mvT hZ (hw _ (List.mem_of_getElem? (i := 43) rfl))) (mvT hZ (hw _ (List.mem_of_getElem? (i := 42) rfl))) (by decide) (backOf (W := 0) (own_rm_eqB l Z a0 hw [] a b ac ap bc bp T46.heap n0 f48 ne_a_b f49 f52 f50 f53 f51 f54) hZ (hw _ (List.mem_of_getElem? (i := 44) rfl)) (hw _ (List.mem_of_getElem? (i := 3) rfl)) (by decide) (by decide)) q64a q64c (g := (mkF m 179 #[.val (.long q0), .second, .val (.long q1), .second, .val (.long q2), .second, .val (.long q3), .second, .val (.int p4), .val (.long ac), .second, .val (.long ap), .second, .val (.long bc), .second, .val (.long bp), .second, .val (.int kd), .val (.ref a), .val (.ref b), .val (.ref ch), .val (.ref b), .val (.int ex), .unset] [(.ref b), (.ref a)])) rfl (by rw [hml]; rfl) (Steps.refl _) (argsL := [(.ref b)]) (rest := []) (lenOf own_pd_3 rfl) rfl (by show 2 * 0 + _ ≤ _; exact Nat.le_of_eq rfl) (Jvm.hb hby at_179) (fun _ _ => ⟨rfl, rfl, Nat.le_of_ble_eq_true rfl, Nat.le_of_ble_eq_true rfl⟩)
    dsimp only [Pt.U, Pt.locs, Pt.cells, Pt.slots] at X63 l63 y63 z63 st63 hQ63
    subst l63 y63 z63
    obtain ⟨rfl, N63, e63⟩ := hQ63
    have N65 := Fr.app N47 N63
    refine own_of (T' := T63) (f' := (mkF m 188 #[.val (.long q0), .second, .val (.long q1), .second, .val (.long q2), .second, .val (.long q3), .second, .val (.int p4), .val (.long ac), .second, .val (.long ap), .second, .val (.long bc), .second, .val (.long bp), .second, .val (.int kd), .val (.ref a), .val (.ref b), .val (.ref ch), .val (.ref b), .val (.int ex), .val (.int (if ac = bc then (if ap = bp then (1 : Int32) else 0) else 0))] [(.int ex), (.int (if ac = bc then (if ap = bp then (1 : Int32) else 0) else 0))])) (fun t_ k_ => (st63.trans (XS.istore X63.here hx rfl (Jvm.hb hby at_182) rfl (l' := #[.val (.long q0), .second, .val (.long q1), .second, .val (.long q2), .second, .val (.long q3), .second, .val (.int p4), .val (.long ac), .second, .val (.long ap), .second, .val (.long bc), .second, .val (.long bp), .second, .val (.int kd), .val (.ref a), .val (.ref b), .val (.ref ch), .val (.ref b), .val (.int ex), .val (.int (if ac = bc then (if ap = bp then (1 : Int32) else 0) else 0))]) rfl (XS.iload X63.here hx rfl (Jvm.hb hby at_184) rfl (XS.iload X63.here hx rfl (Jvm.hb hby at_186) rfl k_))))) ?_
    have h1 : (if ac = bc then (if ap = bp then (1 : Int32) else 0) else 0) = ex := by rw [hex]; simp only [eq_comm (a := bc) (b := ac), eq_comm (a := bp) (b := ap)]
    refine own_of (T' := T63) (f' := (mkF m 202 #[.val (.long q0), .second, .val (.long q1), .second, .val (.long q2), .second, .val (.long q3), .second, .val (.int p4), .val (.long ac), .second, .val (.long ap), .second, .val (.long bc), .second, .val (.long bp), .second, .val (.int kd), .val (.ref a), .val (.ref b), .val (.ref ch), .val (.ref b), .val (.int ex), .val (.int (if ac = bc then (if ap = bp then (1 : Int32) else 0) else 0))] [(.ref a), (.ref b)])) (fun t_ k_ => (XS.icmpYes X63.here hx rfl (pc0 := 188) (pc' := 193) rfl (Jvm.hb hby at_188) rfl (teq h1).1 (by decide) (by decide) (XS.iload X63.here hx rfl (Jvm.hb hby at_193) rfl (XS.ifNo X63.here hx rfl (Jvm.hb hby at_195) rfl ((if0 _ _).trans (teq hc104_59).2) (XS.aload X63.here hx rfl (Jvm.hb hby at_198) rfl rfl (XS.aload X63.here hx rfl (Jvm.hb hby at_200) rfl rfl k_)))))) ?_
    obtain ⟨cq67, kq67, q67a, q67b, q67c⟩ := isOf hZ e63 f52
    obtain ⟨_, _, ⟨T66, L66, k66, n66⟩, -, X66, ⟨Lc66, hQ66, l66, y66, z66⟩, st66⟩ := X63.virtualBack hx (y := (⟨"com/example/suspicion/suspicion/election/Efficient$Alive", "equals", "(Ljava/lang/Object;)Z"⟩ : MethodName)) (z := (⟨"com/example/suspicion/suspicion/election/Efficient$Alive", "equals", "(Ljava/lang/Object;)Z"⟩ : MethodName)) hown (mvT hZ (hw _ (List.mem_of_getElem? (i := 40) rfl))) (mvT hZ (hw _ (List.mem_of_getElem? (i := 41) rfl))) (notFace_of_selects (args := #[]) (mvT hZ (hw _ (List.mem_of_getElem? (i := 43) rfl)))) (mvT hZ (hw _ (List.mem_of_getElem? (i := 43) rfl))) (mvT hZ (hw _ (List.mem_of_getElem? (i := 42) rfl))) (by decide) (backOf (W := 0) (own_rm_eqB l Z a0 hw [] b a bc bp ac ap T46.heap n0 f48 (Ne.symm ne_a_b) f52 f49 f53 f50 f54 f51) hZ (hw _ (List.mem_of_getElem? (i := 44) rfl)) (hw _ (List.mem_of_getElem? (i := 3) rfl)) (by decide) (by decide)) q67a q67c (g := (mkF m 202 #[.val (.long q0), .second, .val (.long q1), .second, .val (.long q2), .second, .val (.long q3), .second, .val (.int p4), .val (.long ac), .second, .val (.long ap), .second, .val (.long bc), .second, .val (.long bp), .second, .val (.int kd), .val (.ref a), .val (.ref b), .val (.ref ch), .val (.ref b), .val (.int ex), .val (.int (if ac = bc then (if ap = bp then (1 : Int32) else 0) else 0))] [(.ref a), (.ref b)])) rfl (by rw [hml]; rfl) (Steps.refl _) (argsL := [(.ref a)]) (rest := []) (lenOf own_pd_3 rfl) rfl (by show 2 * 0 + _ ≤ _; exact Nat.le_of_eq rfl) (Jvm.hb hby at_202) (fun _ _ => ⟨rfl, e63, Nat.le_of_ble_eq_true rfl, Nat.le_of_ble_eq_true rfl⟩)
    dsimp only [Pt.U, Pt.locs, Pt.cells, Pt.slots] at X66 l66 y66 z66 st66 hQ66
    subst l66 y66 z66
    obtain ⟨rfl, N66, e66⟩ := hQ66
    have N68 := Fr.app N65 N66
    refine own_of (T' := T66) (f' := (mkF m 215 #[.val (.long q0), .second, .val (.long q1), .second, .val (.long q2), .second, .val (.long q3), .second, .val (.int p4), .val (.long ac), .second, .val (.long ap), .second, .val (.long bc), .second, .val (.long bp), .second, .val (.int kd), .val (.ref a), .val (.ref b), .val (.ref ch), .val (.ref b), .val (.int ex), .val (.int (if ac = bc then (if ap = bp then (1 : Int32) else 0) else 0))] [(.int (1 : Int32))])) (fun t_ k_ => (st66.trans (XS.iload X66.here hx rfl (Jvm.hb hby at_205) rfl (XS.icmpNo X66.here hx rfl (Jvm.hb hby at_207) rfl (teq hex.symm).2 (XS.iconst X66.here hx rfl (Jvm.hb hby at_210) (XS.goto X66.here hx rfl (pc0 := 211) (pc' := 215) rfl (Jvm.hb hby at_211) (by decide) (by decide) k_)))))) ?_
    obtain ⟨fs, hr, hrun, hended, hEnd⟩ := X66.leaveW hS (by rw [e66]; exact f58) (v := some (.int (1 : Int32))) (fun h => by rw [Bd.returns] at h; cases h)
    exact ⟨_, _, retN X66 hx (t := .boolean) Bd.returns (by simp) (Jvm.hb hby at_215) hr, hrun, hended, _, _, rfl, (by show own_Q_0 Z q0 q1 q2 q3 p4  h0 n0 _ T66.heap _; rw [e66]; exact ⟨rfl, N68⟩), hEnd.1, hEnd.2.1, hEnd.2.2.1, hEnd.2.2.2.mono (by decide) (by decide)⟩
  · skip
    refine own_of (T' := T46) (f' := (mkF m 140 #[.val (.long q0), .second, .val (.long q1), .second, .val (.long q2), .second, .val (.long q3), .second, .val (.int p4), .val (.long ac), .second, .val (.long ap), .second, .val (.long bc), .second, .val (.long bp), .second, .val (.int kd), .val (.ref a), .val (.ref b), .val (.ref ch), .unset, .unset, .unset] [(.int (1 : Int32)), (.int kd)])) (fun t_ k_ => (XS.ifYes X46.here hx rfl (pc0 := 104) (pc' := 137) rfl (Jvm.hb hby at_104) rfl ((if0 _ _).trans (feq hc104_59).2) (by decide) (by decide) (XS.iload X46.here hx rfl (Jvm.hb hby at_137) rfl (XS.iconst X46.here hx rfl (Jvm.hb hby at_139) k_)))) ?_
    by_cases hc140_69 : (kd = (1 : Int32))
    · skip
      refine own_of (T' := T46) (f' := (mkF m 179 #[.val (.long q0), .second, .val (.long q1), .second, .val (.long q2), .second, .val (.long q3), .second, .val (.int p4), .val (.long ac), .second, .val (.long ap), .second, .val (.long bc), .second, .val (.long bp), .second, .val (.int kd), .val (.ref a), .val (.ref b), .val (.ref ch), .val (.ref a), .val (.int (1 : Int32)), .unset] [(.ref a), (.ref a)])) (fun t_ k_ => (XS.icmpNo X46.here hx rfl (Jvm.hb hby at_140) rfl (teq hc140_69).2 (XS.aload X46.here hx rfl (Jvm.hb hby at_143) rfl rfl (XS.astore X46.here hx rfl (Jvm.hb hby at_145) rfl rfl (l' := #[.val (.long q0), .second, .val (.long q1), .second, .val (.long q2), .second, .val (.long q3), .second, .val (.int p4), .val (.long ac), .second, .val (.long ap), .second, .val (.long bc), .second, .val (.long bp), .second, .val (.int kd), .val (.ref a), .val (.ref b), .val (.ref ch), .val (.ref a), .unset, .unset]) rfl (XS.iconst X46.here hx rfl (Jvm.hb hby at_147) (XS.istore X46.here hx rfl (Jvm.hb hby at_148) rfl (l' := #[.val (.long q0), .second, .val (.long q1), .second, .val (.long q2), .second, .val (.long q3), .second, .val (.int p4), .val (.long ac), .second, .val (.long ap), .second, .val (.long bc), .second, .val (.long bp), .second, .val (.int kd), .val (.ref a), .val (.ref b), .val (.ref ch), .val (.ref a), .val (.int (1 : Int32)), .unset]) rfl (XS.goto X46.here hx rfl (pc0 := 150) (pc' := 175) rfl (Jvm.hb hby at_150) (by decide) (by decide) (XS.aload X46.here hx rfl (Jvm.hb hby at_175) rfl rfl (XS.aload X46.here hx rfl (Jvm.hb hby at_177) rfl rfl k_))))))))) ?_
      obtain ⟨cq71, kq71, q71a, q71b, q71c⟩ := isOf hZ rfl f49
      obtain ⟨_, _, ⟨T70, L70, k70, n70⟩, -, X70, ⟨Lc70, hQ70, l70, y70, z70⟩, st70⟩ := X46.virtualBack hx (y := (⟨"com/example/suspicion/suspicion/election/Efficient$Alive", "equals", "(Ljava/lang/Object;)Z"⟩ : MethodName)) (z := (⟨"com/example/suspicion/suspicion/election/Efficient$Alive", "equals", "(Ljava/lang/Object;)Z"⟩ : MethodName)) hown (mvT hZ (hw _ (List.mem_of_getElem? (i := 40) rfl))) (mvT hZ (hw _ (List.mem_of_getElem? (i := 41) rfl))) (notFace_of_selects (args := #[]) (mvT hZ (hw _ (List.mem_of_getElem? (i := 43) rfl)))) (mvT hZ (hw _ (List.mem_of_getElem? (i := 43) rfl))) (mvT hZ (hw _ (List.mem_of_getElem? (i := 42) rfl))) (by decide) (backOf (W := 0) (own_rm_eqS l Z a0 hw [] a T46.heap n0 f48) hZ (hw _ (List.mem_of_getElem? (i := 44) rfl)) (hw _ (List.mem_of_getElem? (i := 3) rfl)) (by decide) (by decide)) q71a q71c (g := (mkF m 179 #[.val (.long q0), .second, .val (.long q1), .second, .val (.long q2), .second, .val (.long q3), .second, .val (.int p4), .val (.long ac), .second, .val (.long ap), .second, .val (.long bc), .second, .val (.long bp), .second, .val (.int kd), .val (.ref a), .val (.ref b), .val (.ref ch), .val (.ref a), .val (.int (1 : Int32)), .unset] [(.ref a), (.ref a)])) rfl (by rw [hml]; rfl) (Steps.refl _) (argsL := [(.ref a)]) (rest := []) (lenOf own_pd_3 rfl) rfl (by show 2 * 0 + _ ≤ _; exact Nat.le_of_eq rfl) (Jvm.hb hby at_179) (fun _ _ => ⟨rfl, rfl, Nat.le_of_ble_eq_true rfl, Nat.le_of_ble_eq_true rfl⟩)
      dsimp only [Pt.U, Pt.locs, Pt.cells, Pt.slots] at X70 l70 y70 z70 st70 hQ70
      subst l70 y70 z70
      obtain ⟨rfl, N70, e70⟩ := hQ70
      have N72 := Fr.app N47 N70
      refine own_of (T' := T70) (f' := (mkF m 217 #[.val (.long q0), .second, .val (.long q1), .second, .val (.long q2), .second, .val (.long q3), .second, .val (.int p4), .val (.long ac), .second, .val (.long ap), .second, .val (.long bc), .second, .val (.long bp), .second, .val (.int kd), .val (.ref a), .val (.ref b), .val (.ref ch), .val (.ref a), .val (.int (1 : Int32)), .val (.int (1 : Int32))] [(.int (1 : Int32))])) (fun t_ k_ => (st70.trans (XS.istore X70.here hx rfl (Jvm.hb hby at_182) rfl (l' := #[.val (.long q0), .second, .val (.long q1), .second, .val (.long q2), .second, .val (.long q3), .second, .val (.int p4), .val (.long ac), .second, .val (.long ap), .second, .val (.long bc), .second, .val (.long bp), .second, .val (.int kd), .val (.ref a), .val (.ref b), .val (.ref ch), .val (.ref a), .val (.int (1 : Int32)), .val (.int (1 : Int32))]) rfl (XS.iload X70.here hx rfl (Jvm.hb hby at_184) rfl (XS.iload X70.here hx rfl (Jvm.hb hby at_186) rfl (XS.icmpYes X70.here hx rfl (pc0 := 188) (pc' := 193) rfl (Jvm.hb hby at_188) rfl (teq rfl).1 (by decide) (by decide) (XS.iload X70.here hx rfl (Jvm.hb hby at_193) rfl (XS.ifYes X70.here hx rfl (pc0 := 195) (pc' := 216) rfl (Jvm.hb hby at_195) rfl ((if0 _ _).trans (feq hc104_59).2) (by decide) (by decide) (XS.iconst X70.here hx rfl (Jvm.hb hby at_216) k_))))))))) ?_
      obtain ⟨fs, hr, hrun, hended, hEnd⟩ := X70.leaveW hS (by rw [e70]; exact f58) (v := some (.int (1 : Int32))) (fun h => by rw [Bd.returns] at h; cases h)
      exact ⟨_, _, retN X70 hx (t := .boolean) Bd.returns (by simp) (Jvm.hb hby at_217) hr, hrun, hended, _, _, rfl, (by show own_Q_0 Z q0 q1 q2 q3 p4  h0 n0 _ T70.heap _; rw [e70]; exact ⟨rfl, N72⟩), hEnd.1, hEnd.2.1, hEnd.2.2.1, hEnd.2.2.2.mono (by decide) (by decide)⟩
    · skip
      refine own_of (T' := T46) (f' := (mkF m 156 #[.val (.long q0), .second, .val (.long q1), .second, .val (.long q2), .second, .val (.long q3), .second, .val (.int p4), .val (.long ac), .second, .val (.long ap), .second, .val (.long bc), .second, .val (.long bp), .second, .val (.int kd), .val (.ref a), .val (.ref b), .val (.ref ch), .unset, .unset, .unset] [(.int (2 : Int32)), (.int kd)])) (fun t_ k_ => (XS.icmpYes X46.here hx rfl (pc0 := 140) (pc' := 153) rfl (Jvm.hb hby at_140) rfl (feq hc140_69).2 (by decide) (by decide) (XS.iload X46.here hx rfl (Jvm.hb hby at_153) rfl (XS.iconst X46.here hx rfl (Jvm.hb hby at_155) k_)))) ?_
      by_cases hc156_73 : (kd = (2 : Int32))
      · skip
        refine own_of (T' := T46) (f' := (mkF m 179 #[.val (.long q0), .second, .val (.long q1), .second, .val (.long q2), .second, .val (.long q3), .second, .val (.int p4), .val (.long ac), .second, .val (.long ap), .second, .val (.long bc), .second, .val (.long bp), .second, .val (.int kd), .val (.ref a), .val (.ref b), .val (.ref ch), .val .null, .val (.int (0 : Int32)), .unset] [.null, (.ref a)])) (fun t_ k_ => (XS.icmpNo X46.here hx rfl (Jvm.hb hby at_156) rfl (teq hc156_73).2 (XS.aconstNull X46.here hx rfl (Jvm.hb hby at_159) (XS.astore X46.here hx rfl (Jvm.hb hby at_160) rfl rfl (l' := #[.val (.long q0), .second, .val (.long q1), .second, .val (.long q2), .second, .val (.long q3), .second, .val (.int p4), .val (.long ac), .second, .val (.long ap), .second, .val (.long bc), .second, .val (.long bp), .second, .val (.int kd), .val (.ref a), .val (.ref b), .val (.ref ch), .val .null, .unset, .unset]) rfl (XS.iconst X46.here hx rfl (Jvm.hb hby at_162) (XS.istore X46.here hx rfl (Jvm.hb hby at_163) rfl (l' := #[.val (.long q0), .second, .val (.long q1), .second, .val (.long q2), .second, .val (.long q3), .second, .val (.int p4), .val (.long ac), .second, .val (.long ap), .second, .val (.long bc), .second, .val (.long bp), .second, .val (.int kd), .val (.ref a), .val (.ref b), .val (.ref ch), .val .null, .val (.int (0 : Int32)), .unset]) rfl (XS.goto X46.here hx rfl (pc0 := 165) (pc' := 175) rfl (Jvm.hb hby at_165) (by decide) (by decide) (XS.aload X46.here hx rfl (Jvm.hb hby at_175) rfl rfl (XS.aload X46.here hx rfl (Jvm.hb hby at_177) rfl rfl k_))))))))) ?_
        obtain ⟨cq75, kq75, q75a, q75b, q75c⟩ := isOf hZ rfl f49
        obtain ⟨_, _, ⟨T74, L74, k74, n74⟩, -, X74, ⟨Lc74, hQ74, l74, y74, z74⟩, st74⟩ := X46.virtualBack hx (y := (⟨"com/example/suspicion/suspicion/election/Efficient$Alive", "equals", "(Ljava/lang/Object;)Z"⟩ : MethodName)) (z := (⟨"com/example/suspicion/suspicion/election/Efficient$Alive", "equals", "(Ljava/lang/Object;)Z"⟩ : MethodName)) hown (mvT hZ (hw _ (List.mem_of_getElem? (i := 40) rfl))) (mvT hZ (hw _ (List.mem_of_getElem? (i := 41) rfl))) (notFace_of_selects (args := #[]) (mvT hZ (hw _ (List.mem_of_getElem? (i := 43) rfl)))) (mvT hZ (hw _ (List.mem_of_getElem? (i := 43) rfl))) (mvT hZ (hw _ (List.mem_of_getElem? (i := 42) rfl))) (by decide) (backOf (W := 0) (own_rm_eqN l Z a0 hw [] a T46.heap n0 f48) hZ (hw _ (List.mem_of_getElem? (i := 44) rfl)) (hw _ (List.mem_of_getElem? (i := 3) rfl)) (by decide) (by decide)) q75a q75c (g := (mkF m 179 #[.val (.long q0), .second, .val (.long q1), .second, .val (.long q2), .second, .val (.long q3), .second, .val (.int p4), .val (.long ac), .second, .val (.long ap), .second, .val (.long bc), .second, .val (.long bp), .second, .val (.int kd), .val (.ref a), .val (.ref b), .val (.ref ch), .val .null, .val (.int (0 : Int32)), .unset] [.null, (.ref a)])) rfl (by rw [hml]; rfl) (Steps.refl _) (argsL := [.null]) (rest := []) (lenOf own_pd_3 rfl) rfl (by show 2 * 0 + _ ≤ _; exact Nat.le_of_eq rfl) (Jvm.hb hby at_179) (fun _ _ => ⟨rfl, rfl, Nat.le_of_ble_eq_true rfl, Nat.le_of_ble_eq_true rfl⟩)
        dsimp only [Pt.U, Pt.locs, Pt.cells, Pt.slots] at X74 l74 y74 z74 st74 hQ74
        subst l74 y74 z74
        obtain ⟨rfl, N74, e74⟩ := hQ74
        have N76 := Fr.app N47 N74
        refine own_of (T' := T74) (f' := (mkF m 217 #[.val (.long q0), .second, .val (.long q1), .second, .val (.long q2), .second, .val (.long q3), .second, .val (.int p4), .val (.long ac), .second, .val (.long ap), .second, .val (.long bc), .second, .val (.long bp), .second, .val (.int kd), .val (.ref a), .val (.ref b), .val (.ref ch), .val .null, .val (.int (0 : Int32)), .val (.int (0 : Int32))] [(.int (1 : Int32))])) (fun t_ k_ => (st74.trans (XS.istore X74.here hx rfl (Jvm.hb hby at_182) rfl (l' := #[.val (.long q0), .second, .val (.long q1), .second, .val (.long q2), .second, .val (.long q3), .second, .val (.int p4), .val (.long ac), .second, .val (.long ap), .second, .val (.long bc), .second, .val (.long bp), .second, .val (.int kd), .val (.ref a), .val (.ref b), .val (.ref ch), .val .null, .val (.int (0 : Int32)), .val (.int (0 : Int32))]) rfl (XS.iload X74.here hx rfl (Jvm.hb hby at_184) rfl (XS.iload X74.here hx rfl (Jvm.hb hby at_186) rfl (XS.icmpYes X74.here hx rfl (pc0 := 188) (pc' := 193) rfl (Jvm.hb hby at_188) rfl (teq rfl).1 (by decide) (by decide) (XS.iload X74.here hx rfl (Jvm.hb hby at_193) rfl (XS.ifYes X74.here hx rfl (pc0 := 195) (pc' := 216) rfl (Jvm.hb hby at_195) rfl ((if0 _ _).trans (feq hc104_59).2) (by decide) (by decide) (XS.iconst X74.here hx rfl (Jvm.hb hby at_216) k_))))))))) ?_
        obtain ⟨fs, hr, hrun, hended, hEnd⟩ := X74.leaveW hS (by rw [e74]; exact f58) (v := some (.int (1 : Int32))) (fun h => by rw [Bd.returns] at h; cases h)
        exact ⟨_, _, retN X74 hx (t := .boolean) Bd.returns (by simp) (Jvm.hb hby at_217) hr, hrun, hended, _, _, rfl, (by show own_Q_0 Z q0 q1 q2 q3 p4  h0 n0 _ T74.heap _; rw [e74]; exact ⟨rfl, N76⟩), hEnd.1, hEnd.2.1, hEnd.2.2.1, hEnd.2.2.2.mono (by decide) (by decide)⟩
      · skip
        refine own_of (T' := T46) (f' := (mkF m 179 #[.val (.long q0), .second, .val (.long q1), .second, .val (.long q2), .second, .val (.long q3), .second, .val (.int p4), .val (.long ac), .second, .val (.long ap), .second, .val (.long bc), .second, .val (.long bp), .second, .val (.int kd), .val (.ref a), .val (.ref b), .val (.ref ch), .val (.ref ch), .val (.int (0 : Int32)), .unset] [(.ref ch), (.ref a)])) (fun t_ k_ => (XS.icmpYes X46.here hx rfl (pc0 := 156) (pc' := 168) rfl (Jvm.hb hby at_156) rfl (feq hc156_73).2 (by decide) (by decide) (XS.aload X46.here hx rfl (Jvm.hb hby at_168) rfl rfl (XS.astore X46.here hx rfl (Jvm.hb hby at_170) rfl rfl (l' := #[.val (.long q0), .second, .val (.long q1), .second, .val (.long q2), .second, .val (.long q3), .second, .val (.int p4), .val (.long ac), .second, .val (.long ap), .second, .val (.long bc), .second, .val (.long bp), .second, .val (.int kd), .val (.ref a), .val (.ref b), .val (.ref ch), .val (.ref ch), .unset, .unset]) rfl (XS.iconst X46.here hx rfl (Jvm.hb hby at_172) (XS.istore X46.here hx rfl (Jvm.hb hby at_173) rfl (l' := #[.val (.long q0), .second, .val (.long q1), .second, .val (.long q2), .second, .val (.long q3), .second, .val (.int p4), .val (.long ac), .second, .val (.long ap), .second, .val (.long bc), .second, .val (.long bp), .second, .val (.int kd), .val (.ref a), .val (.ref b), .val (.ref ch), .val (.ref ch), .val (.int (0 : Int32)), .unset]) rfl (XS.aload X46.here hx rfl (Jvm.hb hby at_175) rfl rfl (XS.aload X46.here hx rfl (Jvm.hb hby at_177) rfl rfl k_)))))))) ?_
        obtain ⟨cq78, kq78, q78a, q78b, q78c⟩ := isOf hZ rfl f49
        obtain ⟨_, _, ⟨T77, L77, k77, n77⟩, -, X77, ⟨Lc77, hQ77, l77, y77, z77⟩, st77⟩ := X46.virtualBack hx (y := (⟨"com/example/suspicion/suspicion/election/Efficient$Alive", "equals", "(Ljava/lang/Object;)Z"⟩ : MethodName)) (z := (⟨"com/example/suspicion/suspicion/election/Efficient$Alive", "equals", "(Ljava/lang/Object;)Z"⟩ : MethodName)) hown (mvT hZ (hw _ (List.mem_of_getElem? (i := 40) rfl))) (mvT hZ (hw _ (List.mem_of_getElem? (i := 41) rfl))) (notFace_of_selects (args := #[]) (mvT hZ (hw _ (List.mem_of_getElem? (i := 43) rfl)))) (mvT hZ (hw _ (List.mem_of_getElem? (i := 43) rfl))) (mvT hZ (hw _ (List.mem_of_getElem? (i := 42) rfl))) (by decide) (backOf (W := 0) (own_rm_eqC l Z a0 hw [] a ch T46.heap n0 f48 ne_a_ch Ex46) hZ (hw _ (List.mem_of_getElem? (i := 44) rfl)) (hw _ (List.mem_of_getElem? (i := 3) rfl)) (by decide) (by decide)) q78a q78c (g := (mkF m 179 #[.val (.long q0), .second, .val (.long q1), .second, .val (.long q2), .second, .val (.long q3), .second, .val (.int p4), .val (.long ac), .second, .val (.long ap), .second, .val (.long bc), .second, .val (.long bp), .second, .val (.int kd), .val (.ref a), .val (.ref b), .val (.ref ch), .val (.ref ch), .val (.int (0 : Int32)), .unset] [(.ref ch), (.ref a)])) rfl (by rw [hml]; rfl) (Steps.refl _) (argsL := [(.ref ch)]) (rest := []) (lenOf own_pd_3 rfl) rfl (by show 2 * 0 + _ ≤ _; exact Nat.le_of_eq rfl) (Jvm.hb hby at_179) (fun _ _ => ⟨rfl, rfl, Nat.le_of_ble_eq_true rfl, Nat.le_of_ble_eq_true rfl⟩)
        dsimp only [Pt.U, Pt.locs, Pt.cells, Pt.slots] at X77 l77 y77 z77 st77 hQ77
        subst l77 y77 z77
        obtain ⟨rfl, N77, e77⟩ := hQ77
        have N79 := Fr.app N47 N77
        refine own_of (T' := T77) (f' := (mkF m 217 #[.val (.long q0), .second, .val (.long q1), .second, .val (.long q2), .second, .val (.long q3), .second, .val (.int p4), .val (.long ac), .second, .val (.long ap), .second, .val (.long bc), .second, .val (.long bp), .second, .val (.int kd), .val (.ref a), .val (.ref b), .val (.ref ch), .val (.ref ch), .val (.int (0 : Int32)), .val (.int (0 : Int32))] [(.int (1 : Int32))])) (fun t_ k_ => (st77.trans (XS.istore X77.here hx rfl (Jvm.hb hby at_182) rfl (l' := #[.val (.long q0), .second, .val (.long q1), .second, .val (.long q2), .second, .val (.long q3), .second, .val (.int p4), .val (.long ac), .second, .val (.long ap), .second, .val (.long bc), .second, .val (.long bp), .second, .val (.int kd), .val (.ref a), .val (.ref b), .val (.ref ch), .val (.ref ch), .val (.int (0 : Int32)), .val (.int (0 : Int32))]) rfl (XS.iload X77.here hx rfl (Jvm.hb hby at_184) rfl (XS.iload X77.here hx rfl (Jvm.hb hby at_186) rfl (XS.icmpYes X77.here hx rfl (pc0 := 188) (pc' := 193) rfl (Jvm.hb hby at_188) rfl (teq rfl).1 (by decide) (by decide) (XS.iload X77.here hx rfl (Jvm.hb hby at_193) rfl (XS.ifYes X77.here hx rfl (pc0 := 195) (pc' := 216) rfl (Jvm.hb hby at_195) rfl ((if0 _ _).trans (feq hc104_59).2) (by decide) (by decide) (XS.iconst X77.here hx rfl (Jvm.hb hby at_216) k_))))))))) ?_
        obtain ⟨fs, hr, hrun, hended, hEnd⟩ := X77.leaveW hS (by rw [e77]; exact f58) (v := some (.int (1 : Int32))) (fun h => by rw [Bd.returns] at h; cases h)
        exact ⟨_, _, retN X77 hx (t := .boolean) Bd.returns (by simp) (Jvm.hb hby at_217) hr, hrun, hended, _, _, rfl, (by show own_Q_0 Z q0 q1 q2 q3 p4  h0 n0 _ T77.heap _; rw [e77]; exact ⟨rfl, N79⟩), hEnd.1, hEnd.2.1, hEnd.2.2.1, hEnd.2.2.2.mono (by decide) (by decide)⟩
set_option maxRecDepth 65536 in
set_option maxHeartbeats 40000000 in
theorem own_comes_1 {Post : Tables → Env → Array Value → State → Outcome → State → Prop} (hpost : ∀ tb e args s v u, (limb_1_1.after args s (.returned v) u = true ∧ limb_1_2.after args s (.returned v) u = true ∧ True) → ReturnedEndW s (.returned v) u (Jvm.fieldLocs frame_1_writes args s ++ Jvm.arrayLocs frame_1_arrays args s ++ Jvm.staticLocs frame_1_statics s) 24 3200 → Post tb e args s (.returned v) u) :
    ArmFor flags0 classFile x code maxLocals ret World_1 tables_1 room_1 Calls_1 rest_1 Pre_1 Post := by
  intro l hfl _ _ p e ha hc hk s m args below hf hA hF happ hP
  obtain ⟨hcalls, hrest, hpre⟩ := hP
  obtain ⟨-, -, -, hnamed, -, -, -, hat⟩ := (Spec.applies_iff hf).mp happ
  obtain ⟨hg, hn⟩ := and_e (Cond.before_iff.mp (show (Jvm.Cond.and given_1 narrow_1).before args s = true from hpre))
  obtain ⟨hg0, hg⟩ := and_e hg
  obtain ⟨ga0, hg⟩ := and_e hg
  obtain ⟨ga1, hg⟩ := and_e hg
  obtain ⟨ga2, hg⟩ := and_e hg
  obtain ⟨ga3, hg⟩ := and_e hg
  have ga4 := hg
  obtain ⟨w0, w1, w2, w3, w4, rfl⟩ : ∃ w0 w1 w2 w3 w4 : Value, args = #[w0, w1, w2, w3, w4] := by
    have hs : args.size = 5 := by simpa [Cond.value, given_1] using hg0
    obtain ⟨L⟩ := args
    match L, hs with
    | [w0, w1, w2, w3, w4], _ => exact ⟨w0, w1, w2, w3, w4, rfl⟩
  have hw := fun d (hd : d ∈ tables_1) => atoms_spec (ws := Jvm.Cond.code x code maxLocals ret :: tables_1) hat d (List.mem_cons_of_mem _ hd)
  have hfit : Fit s := fun {y c} hc i hi => by
    obtain ⟨ha, rfl⟩ := Array.getElem?_eq_some_iff.mp hc
    have q := List.all_eq_true.mp ((Array.all_eq_true_iff_forall_mem.mp hF) _ (Array.getElem_mem ha)) i (List.mem_range.mpr hi)
    simpa [Array.getElem?_eq_getElem hi] using q
  obtain ⟨i0, ei0⟩ := isL_v ga0
  obtain rfl : w0 = (.long i0) := Option.some.inj ei0
  obtain ⟨i1, ei1⟩ := isL_v ga1
  obtain rfl : w1 = (.long i1) := Option.some.inj ei1
  obtain ⟨i2, ei2⟩ := isL_v ga2
  obtain rfl : w2 = (.long i2) := Option.some.inj ei2
  obtain ⟨i3, ei3⟩ := isL_v ga3
  obtain rfl : w3 = (.long i3) := Option.some.inj ei3
  obtain ⟨i4, ei4⟩ := is_v ga4
  obtain rfl : w4 = (.int i4) := Option.some.inj ei4
  obtain ⟨n, o, h1, h2, h3, _, L, rfl, ⟨rfl, N⟩, hq⟩ := own_rm_0 l s _ hw tables_1 i0 i1 i2 i3 i4 s.heap s.heap.size (Nat.le_refl _) p e ha hc hk s m _ below hf ((Spec.applies_iff_loose hf).mp happ).1 ⟨rfl, State.Warmed39.refl s, rfl⟩ trivial
  refine ⟨n, _, h1, h2, h3, hpost _ _ _ _ _ _ ⟨Cond.after_iff.mpr rfl, Cond.after_iff.mpr (eq_i res_at (Term.int_eval (1)) rfl), trivial⟩ ⟨hq.1, hq.2.1, hq.2.2.1, (hq.2.2.2.sift fun y hy => Or.inr (N y hy)).mono (by decide) (by decide)⟩⟩
theorem main_1_1 : Claimed_1_1 := own_comes_1 fun _ _ _ _ _ _ h hF => ⟨h.1, hF⟩
theorem main_1_2 : Claimed_1_2 := own_comes_1 fun _ _ _ _ _ _ h hF => ⟨h.2.1, hF⟩
end Jvm.Pilot.@@N@@
namespace Jvm.Pilot.@@N@@
open Jvm Jvm.ClassFile Sem Op Lib Jvm.Free Jvm.Stand Jvm.Pilot.@@N@@.Jvm.D
/-! MADE BY PROGRAM (witnessworld.py) out of the Statement's table words and the real class files: 17 classes; the members and pool entries that the words name. The judged class is class 1, her method 1. -/
namespace start1
open Jvm.ClassFile
def u (s : String) : CpInfo := .utf8 (stringToUtf16 s)
/-- a pool by its gaps: so many unusable entries, then the entry; so many at the end -/
def gap : Nat → List CpInfo → List CpInfo
  | 0, r => r
  | n + 1, r => .unusable :: gap n r
def poolList (es : List (Nat × CpInfo)) (last : Nat) : List CpInfo := es.foldr (fun e r => gap e.1 (e.2 :: r)) (gap last [])
def pool (es : List (Nat × CpInfo)) (last : Nat) : Array CpInfo := ⟨poolList es last⟩
def fileOf (pool : Array CpInfo) (this : Nat) (attrs : Array Attribute := #[]) (ms : Array MethodInfo := #[]) (fl : Nat := 33) (sup : Nat := 0) (ifs : Array Nat := #[]) (fds : Array FieldInfo := #[]) : ClassFile where
  minorVersion := 0
  majorVersion := 65
  constantPool := pool
  accessFlags := fl
  thisClass := this
  superClass := sup
  interfaces := ifs
  fields := fds
  methods := ms
  attributes := attrs
def plain (name : String) (sup : Option ClassId) : Class where
  name := name
  kind := .ordinary
  loader := none
  accessFlags := 33
  super := sup
  interfaces := #[]
  cf := none
  fields := #[]
  methods := #[]
  instanceTypes := #[]
  staticTypes := #[]
  resolved := #[]
  callSites := []
  init := .initialized
  statics := none
  mirror := none

def pool0 : Array CpInfo := pool [(5, u "<init>"), (0, u "()V"), (1, .class_ 10), (1, u "java/lang/Object")] 113

def k0c0 : Code := { maxStack := 0, maxLocals := 1, code := object_method_1_code, exceptionTable := #[], attributes := #[] }
def k0m0 : Method := { name := "<init>", desc := "()V", sig := { parameters := [], returnType := none }, accessFlags := 1, code := some k0c0 }
/-- java/lang/Object -/
def k0 : Class := { plain "java/lang/Object" none with
  accessFlags := 33
  interfaces := #[]
  cf := some (fileOf pool0 8 #[] #[{ accessFlags := 1, nameIndex := 5, descriptorIndex := 6, attributes := #[] }] 33 0 #[] #[])
  fields := #[]
  methods := #[k0m0]
  instanceTypes := #[]
  staticTypes := #[]
  resolved := Array.replicate 124 none
  statics := none }

def pool1 : Array CpInfo := pool [(2, .class_ 4), (1, u "java/lang/Object"), (0, u "<init>"), (0, u "()V"), (2, .long 9223372036854775807), (1, .class_ 12), (0, u "com/example/suspicion/suspicion/election/Efficient$Alive"), (0, .methodref 11 14), (0, .nameAndType 5 15), (0, u "(JJ)V"), (0, .class_ 17), (0, u "com/example/suspicion/suspicion/election/Efficient$Check"), (0, .methodref 16 19), (0, .nameAndType 5 20), (0, u "(IJ)V"), (0, .methodref 11 22), (0, .nameAndType 23 24), (0, u "equals"), (0, u "(Ljava/lang/Object;)Z"), (0, .class_ 26), (0, u "com/example/suspicion/suspicion/election/AliveEquals449PinLaw"), (2, u "law"), (0, u "(JJJJI)Z")] 8

def k1m0 : Method := { name := "<init>", desc := "()V", sig := { parameters := [], returnType := none }, accessFlags := 1, code := none }
def k1c1 : Code := { maxStack := 6, maxLocals := 24, code := code, exceptionTable := #[], attributes := #[] }
def k1m1 : Method := { name := "law", desc := "(JJJJI)Z", sig := { parameters := [.long, .long, .long, .long, .int], returnType := some .boolean }, accessFlags := 9, code := some k1c1 }
/-- com/example/suspicion/suspicion/election/AliveEquals449PinLaw -/
def k1 : Class := { plain "com/example/suspicion/suspicion/election/AliveEquals449PinLaw" (some 0) with
  accessFlags := 49
  interfaces := #[]
  cf := some (fileOf pool1 25 #[] #[{ accessFlags := 1, nameIndex := 5, descriptorIndex := 6, attributes := #[] }, { accessFlags := 9, nameIndex := 29, descriptorIndex := 30, attributes := #[] }] 49 2 #[] #[])
  fields := #[]
  methods := #[k1m0, k1m1]
  instanceTypes := #[]
  staticTypes := #[]
  resolved := Array.replicate 39 none
  statics := none }

def pool2 : Array CpInfo := pool [(1, .class_ 2), (0, u "com/example/suspicion/suspicion/election/Message"), (0, .class_ 4), (0, u "java/lang/Object")] 2

/-- com/example/suspicion/suspicion/election/Message -/
def k2 : Class := { plain "com/example/suspicion/suspicion/election/Message" (some 0) with
  accessFlags := 1537
  interfaces := #[]
  cf := some (fileOf pool2 1 #[] #[] 1537 3 #[] #[])
  fields := #[]
  methods := #[]
  instanceTypes := #[]
  staticTypes := #[]
  resolved := Array.replicate 7 none
  statics := none }

def pool3 : Array CpInfo := pool [(1, .methodref 2 3), (0, .class_ 4), (0, .nameAndType 5 6), (0, u "java/lang/Object"), (0, u "<init>"), (0, u "()V"), (0, .string 8), (0, u "counter"), (0, .methodref 10 11), (0, .class_ 12), (0, .nameAndType 13 14), (0, u "com/example/suspicion/suspicion/election/Counts"), (0, u "require"), (0, u "(JLjava/lang/String;)V"), (0, .string 16), (0, u "phase"), (0, .fieldref 18 19), (0, .class_ 20), (0, .nameAndType 21 22), (0, u "com/example/suspicion/suspicion/election/Efficient$Alive"), (0, u "_counter"), (0, u "J"), (0, .fieldref 18 24), (0, .nameAndType 25 22), (0, u "_phase"), (10, .class_ 37), (0, u "com/example/suspicion/suspicion/election/Message"), (0, u "(JJ)V"), (3, u "equals"), (0, u "(Ljava/lang/Object;)Z"), (7, .class_ 52), (0, u "com/example/suspicion/suspicion/election/Efficient")] 16

def k3c0 : Code := { maxStack := 3, maxLocals := 5, code := prog_34_method_1_code, exceptionTable := #[], attributes := #[] }
def k3m0 : Method := { name := "<init>", desc := "(JJ)V", sig := { parameters := [.long, .long], returnType := none }, accessFlags := 1, code := some k3c0 }
def k3c1 : Code := { maxStack := 4, maxLocals := 3, code := prog_34_method_4_code, exceptionTable := #[], attributes := #[] }
def k3m1 : Method := { name := "equals", desc := "(Ljava/lang/Object;)Z", sig := { parameters := [(.object "java/lang/Object")], returnType := some .boolean }, accessFlags := 1, code := some k3c1 }
/-- com/example/suspicion/suspicion/election/Efficient$Alive -/
def k3 : Class := { plain "com/example/suspicion/suspicion/election/Efficient$Alive" (some 0) with
  accessFlags := 49
  interfaces := #[2]
  cf := some (fileOf pool3 18 #[.nestHost 51] #[{ accessFlags := 1, nameIndex := 5, descriptorIndex := 38, attributes := #[] }, { accessFlags := 1, nameIndex := 42, descriptorIndex := 43, attributes := #[] }] 49 2 #[36] #[{ accessFlags := 18, nameIndex := 21, descriptorIndex := 22, attributes := #[] }, { accessFlags := 18, nameIndex := 25, descriptorIndex := 22, attributes := #[] }])
  fields := #[{ name := "_counter", type := .long, accessFlags := 18, slot := 0, constantValue := 0 }, { name := "_phase", type := .long, accessFlags := 18, slot := 1, constantValue := 0 }]
  methods := #[k3m0, k3m1]
  instanceTypes := #[.long, .long]
  staticTypes := #[]
  resolved := Array.replicate 69 none
  statics := none }

def pool4 : Array CpInfo := pool [(1, .class_ 2), (0, u "java/io/Serializable"), (0, .class_ 4), (0, u "java/lang/Object")] 2

/-- java/io/Serializable -/
def k4 : Class := { plain "java/io/Serializable" (some 0) with
  accessFlags := 1537
  interfaces := #[]
  cf := some (fileOf pool4 1 #[] #[] 1537 3 #[] #[])
  fields := #[]
  methods := #[]
  instanceTypes := #[]
  staticTypes := #[]
  resolved := Array.replicate 7 none
  statics := none }

def pool5 : Array CpInfo := pool [(1, .class_ 2), (0, u "java/lang/Comparable"), (0, .class_ 4), (0, u "java/lang/Object")] 7

/-- java/lang/Comparable -/
def k5 : Class := { plain "java/lang/Comparable" (some 0) with
  accessFlags := 1537
  interfaces := #[]
  cf := some (fileOf pool5 1 #[] #[] 1537 3 #[] #[])
  fields := #[]
  methods := #[]
  instanceTypes := #[]
  staticTypes := #[]
  resolved := Array.replicate 12 none
  statics := none }

def pool6 : Array CpInfo := pool [(2, .class_ 4), (1, u "java/lang/CharSequence"), (42, .class_ 48), (0, u "java/lang/CharSequence$1CodePointIterator"), (10, .class_ 60), (0, u "java/lang/CharSequence$1CharIterator"), (5, .class_ 67), (0, u "java/lang/Object")] 63

/-- java/lang/CharSequence -/
def k6 : Class := { plain "java/lang/CharSequence" (some 0) with
  accessFlags := 1537
  interfaces := #[]
  cf := some (fileOf pool6 2 #[.nestMembers #[47, 59]] #[] 1537 66 #[] #[])
  fields := #[]
  methods := #[]
  instanceTypes := #[]
  staticTypes := #[]
  resolved := Array.replicate 131 none
  statics := none }

def pool7 : Array CpInfo := pool [(1, .class_ 2), (0, u "java/lang/constant/Constable"), (0, .class_ 4), (0, u "java/lang/Object")] 6

/-- java/lang/constant/Constable -/
def k7 : Class := { plain "java/lang/constant/Constable" (some 0) with
  accessFlags := 1537
  interfaces := #[]
  cf := some (fileOf pool7 1 #[] #[] 1537 3 #[] #[])
  fields := #[]
  methods := #[]
  instanceTypes := #[]
  staticTypes := #[]
  resolved := Array.replicate 11 none
  statics := none }

def pool8 : Array CpInfo := pool [(1, .class_ 2), (0, u "java/lang/constant/ConstantDesc"), (0, .class_ 4), (0, u "java/lang/Object")] 32

/-- java/lang/constant/ConstantDesc -/
def k8 : Class := { plain "java/lang/constant/ConstantDesc" (some 0) with
  accessFlags := 1537
  interfaces := #[]
  cf := some (fileOf pool8 1 #[] #[] 1537 3 #[] #[])
  fields := #[]
  methods := #[]
  instanceTypes := #[]
  staticTypes := #[]
  resolved := Array.replicate 37 none
  statics := none }

def pool9 : Array CpInfo := pool [(2, .class_ 4), (1, u "java/lang/Object"), (0, u "<init>"), (0, u "()V"), (3, .class_ 12), (1, u "java/lang/String"), (0, u "value"), (0, u "[B"), (2, u "coder"), (0, u "B"), (2, u "hash"), (0, u "I"), (2, u "hashIsZero"), (0, u "Z"), (13, u "COMPACT_STRINGS"), (534, .class_ 576), (0, u "java/lang/CharSequence"), (22, u "CASE_INSENSITIVE_ORDER"), (0, u "Ljava/util/Comparator;"), (500, u "serialPersistentFields"), (0, u "[Ljava/io/ObjectStreamField;"), (0, .class_ 1104), (0, u "java/lang/String$CaseInsensitiveComparator"), (1, .class_ 1107), (0, u "java/io/Serializable"), (0, .class_ 1109), (0, u "java/lang/Comparable"), (0, .class_ 1111), (0, u "java/lang/constant/Constable"), (0, .class_ 1113), (0, u "java/lang/constant/ConstantDesc"), (2, u "serialVersionUID"), (0, u "J"), (3, u "REPL"), (0, u "C"), (2, u "LATIN1"), (1, u "UTF16")] 323

def k9m0 : Method := { name := "<init>", desc := "()V", sig := { parameters := [], returnType := none }, accessFlags := 1, code := none }
/-- java/lang/String -/
def k9 : Class := { plain "java/lang/String" (some 0) with
  accessFlags := 49
  interfaces := #[4, 5, 6, 7, 8]
  cf := some (fileOf pool9 10 #[.nestMembers #[1103]] #[{ accessFlags := 1, nameIndex := 5, descriptorIndex := 6, attributes := #[] }] 49 2 #[1106, 1108, 575, 1110, 1112] #[{ accessFlags := 18, nameIndex := 13, descriptorIndex := 14, attributes := #[] }, { accessFlags := 18, nameIndex := 17, descriptorIndex := 18, attributes := #[] }, { accessFlags := 2, nameIndex := 21, descriptorIndex := 22, attributes := #[] }, { accessFlags := 2, nameIndex := 25, descriptorIndex := 26, attributes := #[] }, { accessFlags := 26, nameIndex := 1116, descriptorIndex := 1117, attributes := #[] }, { accessFlags := 24, nameIndex := 40, descriptorIndex := 26, attributes := #[] }, { accessFlags := 26, nameIndex := 1101, descriptorIndex := 1102, attributes := #[] }, { accessFlags := 26, nameIndex := 1121, descriptorIndex := 1122, attributes := #[] }, { accessFlags := 25, nameIndex := 599, descriptorIndex := 600, attributes := #[] }, { accessFlags := 24, nameIndex := 1125, descriptorIndex := 18, attributes := #[] }, { accessFlags := 24, nameIndex := 1127, descriptorIndex := 18, attributes := #[] }])
  fields := #[{ name := "value", type := (.array .byte), accessFlags := 18, slot := 0, constantValue := 0 }, { name := "coder", type := .byte, accessFlags := 18, slot := 1, constantValue := 0 }, { name := "hash", type := .int, accessFlags := 2, slot := 2, constantValue := 0 }, { name := "hashIsZero", type := .boolean, accessFlags := 2, slot := 3, constantValue := 0 }, { name := "serialVersionUID", type := .long, accessFlags := 26, slot := 0, constantValue := 0 }, { name := "COMPACT_STRINGS", type := .boolean, accessFlags := 24, slot := 1, constantValue := 0 }, { name := "serialPersistentFields", type := (.array (.object "java/io/ObjectStreamField")), accessFlags := 26, slot := 2, constantValue := 0 }, { name := "REPL", type := .char, accessFlags := 26, slot := 3, constantValue := 0 }, { name := "CASE_INSENSITIVE_ORDER", type := (.object "java/util/Comparator"), accessFlags := 25, slot := 4, constantValue := 0 }, { name := "LATIN1", type := .byte, accessFlags := 24, slot := 5, constantValue := 0 }, { name := "UTF16", type := .byte, accessFlags := 24, slot := 6, constantValue := 0 }]
  methods := #[k9m0]
  instanceTypes := #[(.array .byte), .byte, .int, .boolean]
  staticTypes := #[.long, .boolean, (.array (.object "java/io/ObjectStreamField")), .char, (.object "java/util/Comparator"), .byte, .byte]
  resolved := Array.replicate 1451 none
  statics := none }

def pool10 : Array CpInfo := pool [(2, .class_ 4), (1, u "java/lang/Object"), (0, u "<init>"), (0, u "()V"), (13, .class_ 21), (0, u "com/example/suspicion/suspicion/election/Counts"), (2, u "require"), (0, u "(JLjava/lang/String;)V")] 20

def k10m0 : Method := { name := "<init>", desc := "()V", sig := { parameters := [], returnType := none }, accessFlags := 2, code := none }
def k10c1 : Code := { maxStack := 5, maxLocals := 3, code := prog_30_method_2_code, exceptionTable := #[], attributes := #[] }
def k10m1 : Method := { name := "require", desc := "(JLjava/lang/String;)V", sig := { parameters := [.long, (.object "java/lang/String")], returnType := none }, accessFlags := 8, code := some k10c1 }
/-- com/example/suspicion/suspicion/election/Counts -/
def k10 : Class := { plain "com/example/suspicion/suspicion/election/Counts" (some 0) with
  accessFlags := 48
  interfaces := #[]
  cf := some (fileOf pool10 20 #[] #[{ accessFlags := 2, nameIndex := 5, descriptorIndex := 6, attributes := #[] }, { accessFlags := 8, nameIndex := 24, descriptorIndex := 25, attributes := #[] }] 48 2 #[] #[])
  fields := #[]
  methods := #[k10m0, k10m1]
  instanceTypes := #[]
  staticTypes := #[]
  resolved := Array.replicate 46 none
  statics := none }

def pool11 : Array CpInfo := pool [(1, .methodref 2 3), (0, .class_ 4), (0, .nameAndType 5 6), (0, u "java/lang/Object"), (0, u "<init>"), (0, u "()V"), (0, .string 8), (0, u "phase"), (0, .methodref 10 11), (0, .class_ 12), (0, .nameAndType 13 14), (0, u "com/example/suspicion/suspicion/election/Counts"), (0, u "require"), (0, u "(JLjava/lang/String;)V"), (0, .fieldref 16 17), (0, .class_ 18), (0, .nameAndType 19 20), (0, u "com/example/suspicion/suspicion/election/Efficient$Check"), (0, u "_member"), (0, u "I"), (0, .fieldref 16 22), (0, .nameAndType 23 24), (0, u "_phase"), (0, u "J"), (10, .class_ 36), (0, u "com/example/suspicion/suspicion/election/Message"), (0, u "(IJ)V"), (13, .class_ 52), (0, u "com/example/suspicion/suspicion/election/Efficient")] 16

def k11c0 : Code := { maxStack := 3, maxLocals := 4, code := prog_35_method_1_code, exceptionTable := #[], attributes := #[] }
def k11m0 : Method := { name := "<init>", desc := "(IJ)V", sig := { parameters := [.int, .long], returnType := none }, accessFlags := 1, code := some k11c0 }
/-- com/example/suspicion/suspicion/election/Efficient$Check -/
def k11 : Class := { plain "com/example/suspicion/suspicion/election/Efficient$Check" (some 0) with
  accessFlags := 49
  interfaces := #[2]
  cf := some (fileOf pool11 16 #[.nestHost 51] #[{ accessFlags := 1, nameIndex := 5, descriptorIndex := 37, attributes := #[] }] 49 2 #[35] #[{ accessFlags := 18, nameIndex := 19, descriptorIndex := 20, attributes := #[] }, { accessFlags := 18, nameIndex := 23, descriptorIndex := 24, attributes := #[] }])
  fields := #[{ name := "_member", type := .int, accessFlags := 18, slot := 0, constantValue := 0 }, { name := "_phase", type := .long, accessFlags := 18, slot := 1, constantValue := 0 }]
  methods := #[k11m0]
  instanceTypes := #[.int, .long]
  staticTypes := #[]
  resolved := Array.replicate 69 none
  statics := none }

def pool12 : Array CpInfo := pool [(1, u "java/lang/Cloneable"), (0, .class_ 1), (0, u "java/lang/Object"), (0, .class_ 3)] 3

/-- java/lang/Cloneable -/
def k12 : Class := { plain "java/lang/Cloneable" (some 0) with
  accessFlags := 1537
  interfaces := #[]
  cf := some (fileOf pool12 2 #[] #[] 1537 4 #[] #[])
  fields := #[]
  methods := #[]
  instanceTypes := #[]
  staticTypes := #[]
  resolved := Array.replicate 8 none
  statics := none }

/-- the primitive byte -/
def k13 : Class := { plain "byte" none with kind := .primitive 'B', accessFlags := 0x411 }
/-- [B -/
def k14 : Class := { plain "[B" (some 0) with kind := .array 13 .byte, interfaces := #[12, 4], accessFlags := 1041 }

/-- the primitive int -/
def k15 : Class := { plain "int" none with kind := .primitive 'I', accessFlags := 0x411 }
/-- [I -/
def k16 : Class := { plain "[I" (some 0) with kind := .array 15 .int, interfaces := #[12, 4], accessFlags := 1041 }

def heap : Heap := #[]
def classes : Array Class := #[k0, k1, k2, k3, k4, k5, k6, k7, k8, k9, k10, k11, k12, k13, k14, k15, k16]
def interned : List (Array UInt16 × Addr) := []
def slotsUsed : Nat := 0
def theMethod : MethodId := ⟨1, 1⟩
def args0 : Array Value := #[.long 5, .long 5, .long 5, .long 5, .int 5]
def aboutOver (below : List Frame) : State where
  vm := { classes := classes, interned := interned.toArray }
  heap := heap
  slotsUsed := slotsUsed
  threads := #[{ frames := .invoking theMethod args0 :: below }]
def below0 : List Frame := [.native { method := ⟨0, 0⟩, args := #[] }]
def about1 : State := aboutOver below0
def p0 : Program := .bare "" "" ""
def e0 : Env := launch0.env 0 0 0
theorem w_frames : about1.frames = Frame.invoking theMethod args0 :: below0 := rfl
set_option maxRecDepth 65536 in
theorem w_args : argsFit about1.vm theMethod args0 = true := by decide +kernel
set_option maxRecDepth 65536 in
theorem w_heap : heapFits about1 = true := by decide +kernel
set_option maxRecDepth 65536 in
theorem w_runnable : about1.curStatus? = some .runnable := by decide +kernel
set_option maxRecDepth 65536 in
theorem w_alone : about1.alone = true := by decide +kernel
set_option maxRecDepth 65536 in
theorem w_named : about1.methodNamed? x = some theMethod := by decide +kernel
set_option maxRecDepth 65536 in
theorem w_hears : about1.hears theMethod below0 = true := by decide +kernel
set_option maxRecDepth 65536 in
theorem w_ripe : about1.ripe theMethod args0 below0 = true := by decide +kernel
theorem w_running : about1.status = .running := rfl
set_option maxRecDepth 65536 in
theorem w_room : about1.hasRoom e0.platform room_1 = true :=
  launch0.hasRoom_least _ room_1 (by decide +kernel) (by decide +kernel) (by decide +kernel) (by decide +kernel) (by decide +kernel) (by decide +kernel)
theorem allAtoms_all (ts : List Jvm.Cond) (a : Array Jvm.Value) (st : Jvm.State) : (allAtoms ts).before a st = ts.all (fun c => c.before a st) := by
  induction ts with
  | nil => rfl
  | cons c t ih =>
    show (Jvm.Cond.and c (allAtoms t)).before a st = _
    rw [Jvm.Cond.before_and, ih, List.all_cons]
def words1 : List Jvm.Cond := Jvm.Cond.code x code maxLocals ret :: tables_1
/-- a 'code' word, met by the world's own term for the bytes: nothing is compared byte by byte -/
theorem code_word {y : MethodName} {bytes : ByteArray} {mx : Nat} {rt : Option FieldType} {a : Array Value} {s : State} {m : MethodId} {meth : Method} {c : Code} (h1 : s.methodNamed? y = some m) (h2 : s.vm.method? m = some meth) (h3 : meth.code = some c) (h4 : c.code = bytes)
    (h5 : (c.maxLocals == mx && c.exceptionTable.isEmpty && decide (c.maxStack ≤ mostOperands) && decide (meth.sig.returnType = rt) && !meth.locks && decide (parseMethodDescriptor y.desc = some meth.sig)) = true) : (Jvm.Cond.code y bytes mx rt).before a s = true := by
  simp only [Bool.and_eq_true, beq_iff_eq, Bool.not_eq_true', decide_eq_true_eq] at h5
  obtain ⟨⟨⟨⟨⟨g1, g2⟩, g3⟩, g4⟩, g5⟩, g6⟩ := h5
  simp [Cond.before, Cond.holds, Cond.value, h1, h2, h3, h4, g1, g2, g3, g4, g5, g6]
def isCode : Jvm.Cond → Bool
  | .code _ _ _ _ => true
  | _ => false
theorem all_split {L : List Jvm.Cond} {P : Jvm.Cond → Bool} (h1 : L.all (fun c => isCode c || P c) = true) (h2 : ∀ c ∈ L.filter isCode, P c = true) : L.all P = true := by
  refine List.all_eq_true.mpr fun c hc => ?_
  have h := List.all_eq_true.mp h1 c hc
  rcases Bool.eq_false_or_eq_true (isCode c) with hi | hi
  · exact h2 c (List.mem_filter.mpr ⟨hc, hi⟩)
  · simpa [hi] using h
set_option maxRecDepth 65536 in
theorem w_c0 : (Jvm.Cond.code x code maxLocals ret).before args0 about1 = true := code_word (m := ⟨1, 1⟩) (meth := k1m1) (c := k1c1) (by decide +kernel) rfl rfl rfl (by decide +kernel)
set_option maxRecDepth 65536 in
theorem w_c1 : (Jvm.Cond.code ({ cls := "com/example/suspicion/suspicion/election/Efficient$Alive", name := "<init>", desc := "(JJ)V" } : Jvm.MethodName) prog_34_method_1_code (5 : Nat) (Option.none : Option Jvm.ClassFile.FieldType)).before args0 about1 = true := code_word (m := ⟨3, 0⟩) (meth := k3m0) (c := k3c0) (by decide +kernel) rfl rfl rfl (by decide +kernel)
set_option maxRecDepth 65536 in
theorem w_c2 : (Jvm.Cond.code ({ cls := "java/lang/Object", name := "<init>", desc := "()V" } : Jvm.MethodName) object_method_1_code (1 : Nat) (Option.none : Option Jvm.ClassFile.FieldType)).before args0 about1 = true := code_word (m := ⟨0, 0⟩) (meth := k0m0) (c := k0c0) (by decide +kernel) rfl rfl rfl (by decide +kernel)
set_option maxRecDepth 65536 in
theorem w_c3 : (Jvm.Cond.code ({ cls := "com/example/suspicion/suspicion/election/Counts", name := "require", desc := "(JLjava/lang/String;)V" } : Jvm.MethodName) prog_30_method_2_code (3 : Nat) (Option.none : Option Jvm.ClassFile.FieldType)).before args0 about1 = true := code_word (m := ⟨10, 1⟩) (meth := k10m1) (c := k10c1) (by decide +kernel) rfl rfl rfl (by decide +kernel)
set_option maxRecDepth 65536 in
theorem w_c4 : (Jvm.Cond.code ({ cls := "com/example/suspicion/suspicion/election/Efficient$Check", name := "<init>", desc := "(IJ)V" } : Jvm.MethodName) prog_35_method_1_code (4 : Nat) (Option.none : Option Jvm.ClassFile.FieldType)).before args0 about1 = true := code_word (m := ⟨11, 0⟩) (meth := k11m0) (c := k11c0) (by decide +kernel) rfl rfl rfl (by decide +kernel)
set_option maxRecDepth 65536 in
theorem w_c5 : (Jvm.Cond.code ({ cls := "com/example/suspicion/suspicion/election/Efficient$Alive", name := "equals", desc := "(Ljava/lang/Object;)Z" } : Jvm.MethodName) prog_34_method_4_code (3 : Nat) (Option.some Jvm.ClassFile.FieldType.boolean)).before args0 about1 = true := code_word (m := ⟨3, 1⟩) (meth := k3m1) (c := k3c1) (by decide +kernel) rfl rfl rfl (by decide +kernel)
def codes1 : List Jvm.Cond := [Jvm.Cond.code x code maxLocals ret, Jvm.Cond.code ({ cls := "com/example/suspicion/suspicion/election/Efficient$Alive", name := "<init>", desc := "(JJ)V" } : Jvm.MethodName) prog_34_method_1_code (5 : Nat) (Option.none : Option Jvm.ClassFile.FieldType), Jvm.Cond.code ({ cls := "java/lang/Object", name := "<init>", desc := "()V" } : Jvm.MethodName) object_method_1_code (1 : Nat) (Option.none : Option Jvm.ClassFile.FieldType), Jvm.Cond.code ({ cls := "com/example/suspicion/suspicion/election/Counts", name := "require", desc := "(JLjava/lang/String;)V" } : Jvm.MethodName) prog_30_method_2_code (3 : Nat) (Option.none : Option Jvm.ClassFile.FieldType), Jvm.Cond.code ({ cls := "com/example/suspicion/suspicion/election/Efficient$Check", name := "<init>", desc := "(IJ)V" } : Jvm.MethodName) prog_35_method_1_code (4 : Nat) (Option.none : Option Jvm.ClassFile.FieldType), Jvm.Cond.code ({ cls := "com/example/suspicion/suspicion/election/Efficient$Alive", name := "equals", desc := "(Ljava/lang/Object;)Z" } : Jvm.MethodName) prog_34_method_4_code (3 : Nat) (Option.some Jvm.ClassFile.FieldType.boolean)]
set_option maxRecDepth 65536 in
theorem codes_eq : words1.filter isCode = codes1 := rfl
theorem w_codes : ∀ c ∈ words1.filter isCode, c.before args0 about1 = true := by
  rw [codes_eq]
  intro c hc
  simp only [codes1, List.mem_cons, List.not_mem_nil, or_false] at hc
  rcases hc with rfl | rfl | rfl | rfl | rfl | rfl
  · exact w_c0
  · exact w_c1
  · exact w_c2
  · exact w_c3
  · exact w_c4
  · exact w_c5
set_option maxRecDepth 65536 in
theorem w_t1 : (words1.take 24).all (fun c => isCode c || c.before args0 about1) = true := by decide +kernel
set_option maxRecDepth 65536 in
theorem w_t2 : ((words1.drop 24).take 24).all (fun c => isCode c || c.before args0 about1) = true := by decide +kernel
set_option maxRecDepth 65536 in
theorem w_t3 : ((words1.drop 24).drop 24).all (fun c => isCode c || c.before args0 about1) = true := by decide +kernel
theorem w_tables : (allAtoms (Jvm.Cond.code x code maxLocals ret :: tables_1)).before args0 about1 = true := by
  rw [allAtoms_all]
  show words1.all (fun c => c.before args0 about1) = true
  refine all_split ?_ w_codes
  rw [← List.take_append_drop 24 words1, List.all_append, w_t1, ← List.take_append_drop 24 (words1.drop 24), List.all_append, w_t2, w_t3]
  rfl
set_option maxRecDepth 65536 in
theorem w_case : (Jvm.Cond.and given_1 narrow_1).before args0 about1 = true := by decide +kernel
theorem w_applies : (headSpec (Jvm.Cond.code x code maxLocals ret :: tables_1) room_1).applies x e0.platform about1 = true :=
  (Spec.applies_iff w_frames).mpr ⟨w_running, w_runnable, w_alone, w_named, w_hears, w_ripe, w_room, w_tables⟩
theorem atStart : AtStart classFile x code maxLocals ret World_1 tables_1 room_1 Calls_1 rest_1 Pre_1 launch0 p0 e0 about1 theMethod args0 below0 :=
  ⟨lists_1, trivial, launch0.admits_env _ _ _, launch0.least_env, fairChoices_fair.cas, fairChoices_fair.clock, w_frames, w_args, w_heap, w_applies, trivial, trivial, w_case⟩
end start1
theorem witness_1 : WitnessClaimed_1 := ⟨start1.p0, start1.e0, start1.about1, start1.theMethod, start1.args0, start1.below0, start1.atStart⟩
end Jvm.Pilot.@@N@@
