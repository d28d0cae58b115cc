import JvmDerived
import JvmDerived.Pilot.@@N@@Statement
import JvmDerived.Pilot.@@N@@Code
set_option linter.unusedVariables false
set_option linter.unusedSimpArgs false
namespace Jvm.Pilot.@@N@@
open Jvm Jvm.ClassFile Sem Op Lib Jvm.Free Jvm.Stand Jvm.LawKit Jvm.RoadKit Bundle Jvm.Pilot.@@N@@.Jvm.D
section OwnKit
variable {p : Program} {l : Launch} {e : Env} {R : Room} {s : State} {m : MethodId} {args : Array Value} {below : List Frame} {meth : Method} {c : Code} {T T' : State} {locs : List Loc} {cells slots : Nat}
/-- from the frame f in the state T the run comes to the method's end, and G holds there -/
def own_Goes (p : Program) (e : Env) (below : List Frame) (G : Outcome → State → Prop) (T : State) (f : JFrame) : Prop :=
  ∃ s₂ o, Steps p.tables e below (T.setTop f) s₂ ∧ s₂.status = .running ∧ Ended s₂ below o ∧ G o s₂
theorem own_of {G : Outcome → State → Prop} {f f' : JFrame} (st : ∀ t, Steps p.tables e below (T'.setTop f') t → Steps p.tables e below (T.setTop f) t) (h : own_Goes p e below G T' f') : own_Goes p e below G T f := by
  obtain ⟨s₂, o, h1, h2⟩ := h
  exact ⟨s₂, o, st _ h1, h2⟩
theorem own_start {G : Outcome → State → Prop} {f f' : JFrame} (q : f = f') (h : own_Goes p e below G T f') : ∃ s₂ o, Steps p.tables e below (T.setTop f) s₂ ∧ s₂.status = .running ∧ Ended s₂ below o ∧ G o s₂ := q ▸ h
theorem own_retI (X : Stand p l e R s m args below meth c T locs cells slots) (hx : p.tables.exec = Jvm.exec) {pc : Nat} {Ls : Array Slot} {z : Int32} {rest : List Value} (hret : meth.sig.returnType = some .int) (hd : decode c.code pc = .ok (.ireturn, 1)) {fs : List Frame}
    (hl : ∀ (f : JFrame) (acts : List Action), f.method = m → f.locked = none → f.entered = [] → (doReturn e (T.setTop f) acts (some (.int z))).1 = T.setFrames fs) : Steps p.tables e below (T.setTop (mkF m pc Ls (.int z :: rest))) (T.setFrames fs) :=
  retOut X hx hret rfl (Or.inl ⟨rfl, Or.inl rfl, _, rfl⟩) hd hl
theorem own_retJ (X : Stand p l e R s m args below meth c T locs cells slots) (hx : p.tables.exec = Jvm.exec) {pc : Nat} {Ls : Array Slot} {z : Int64} {rest : List Value} (hret : meth.sig.returnType = some .long) (hd : decode c.code pc = .ok (.lreturn, 1)) {fs : List Frame}
    (hl : ∀ (f : JFrame) (acts : List Action), f.method = m → f.locked = none → f.entered = [] → (doReturn e (T.setTop f) acts (some (.long z))).1 = T.setFrames fs) : Steps p.tables e below (T.setTop (mkF m pc Ls (.long z :: rest))) (T.setFrames fs) :=
  retOut X hx hret rfl (Or.inr (Or.inl ⟨rfl, rfl, _, rfl⟩)) hd hl
theorem own_retD (X : Stand p l e R s m args below meth c T locs cells slots) (hx : p.tables.exec = Jvm.exec) {pc : Nat} {Ls : Array Slot} {z : UInt64} {rest : List Value} (hret : meth.sig.returnType = some .double) (hd : decode c.code pc = .ok (.dreturn, 1)) {fs : List Frame}
    (hl : ∀ (f : JFrame) (acts : List Action), f.method = m → f.locked = none → f.entered = [] → (doReturn e (T.setTop f) acts (some (.double z))).1 = T.setFrames fs) : Steps p.tables e below (T.setTop (mkF m pc Ls (.double z :: rest))) (T.setFrames fs) :=
  retOut X hx hret rfl (Or.inr (Or.inr (Or.inl ⟨rfl, rfl, _, rfl⟩))) hd hl
theorem own_retA (X : Stand p l e R s m args below meth c T locs cells slots) (hx : p.tables.exec = Jvm.exec) {pc : Nat} {Ls : Array Slot} {z : Value} {rest : List Value} {t : FieldType} (hret : meth.sig.returnType = some t) (ht : t.isReference = true) (hn : narrow t z = z) (hz : z.isRef = true) (hd : decode c.code pc = .ok (.areturn, 1)) {fs : List Frame}
    (hl : ∀ (f : JFrame) (acts : List Action), f.method = m → f.locked = none → f.entered = [] → (doReturn e (T.setTop f) acts (some z)).1 = T.setFrames fs) : Steps p.tables e below (T.setTop (mkF m pc Ls (z :: rest))) (T.setFrames fs) :=
  retOut X hx hret hn (Or.inr (Or.inr (Or.inr (Or.inr ⟨rfl, ht, hz⟩)))) hd hl
theorem own_stakeep {Z : State} {h h' : Heap} {C n d : String} {v : Value} {ws : List Addr} (F : Sta Z h C n d v) (K : Keep h h' ws) (q : ∀ x ∈ ws, ∀ cell : Cell, h[x]? = some cell → cell.vm.isStatics = false) : Sta Z h' C n d v := by
  obtain ⟨cf, i, k, f, st, cell, h1, h2, h3, h4, h5, h6, h7⟩ := F
  exact ⟨cf, i, k, f, st, cell, h1, h2, h3, h4, K.2.1 st cell h5 (fun z => by rw [q st z cell h5] at h6; cases h6), h6, h7⟩
theorem own_plainE {Z : State} {h : Heap} {a : Addr} {C : String} (F : Exa Z h a C) : ∀ cell : Cell, h[a]? = some cell → cell.vm.isStatics = false := fun cell hc => by
  obtain ⟨c', k, h1, -, -, h4, -⟩ := F
  cases h1.symm.trans hc
  exact h4
theorem own_noI {Z : State} {a0 : Array Value} {C K O : String} {n : Nat} (w : (Jvm.Cond.superclass C O).before a0 Z = true) (wo : (Jvm.Cond.noSuperclass O).before a0 Z = true) (wi : (Jvm.Cond.instantiable K n).before a0 Z = true) (hn : C ≠ K) (ho : O ≠ K) : ∃ c t, Z.vm.findClass C = some c ∧ Z.vm.findClass K = some t ∧ Z.vm.assignable c t = false := by
  obtain ⟨t, kt, g0, g2, g5, g7, -, -⟩ := Cond.instantiable_spec wi
  simp only [Bool.or_eq_false_iff] at g7
  obtain ⟨oc, ok, o1, o2, o3, -, -⟩ := Cond.noSuperclass_spec wo
  obtain ⟨c, h0⟩ := found_sup w
  obtain ⟨p, k, kp, h1, h2, h3, h4, h5, -, h7⟩ := Cond.superclass_spec h0 w
  cases o1.symm.trans h1
  have ne := ids_ne h0 g0 hn
  have neo := ids_ne o1 g0 ho
  have n3 : ∀ fuel, Z.vm.isSubclassAux fuel c t = false := fun fuel => by
    cases fuel with
    | zero => rfl
    | succ f =>
      have n4 : Z.vm.isSubclassAux f oc t = false := by
        cases f with
        | zero => rfl
        | succ f => simp [Vm.isSubclassAux, neo, o2, o3]
      simp [Vm.isSubclassAux, ne, h2, h4, n4]
  refine ⟨c, t, h0, g0, ?_⟩
  show Z.vm.assignableAux (255 + 1) c t = false
  simp [Vm.assignableAux, ne, h2, g2, h5, g5, g7, Vm.isSubclass, n3]
theorem own_ask {Z : State} {a0 : Array Value} {h : Heap} {a : Addr} {C K : String} (E : Exa Z h a C) (w : (Jvm.Cond.castable K K).before a0 Z = true) : Ins Z h a K true ∨ ∃ c t, Z.vm.findClass C = some c ∧ Z.vm.findClass K = some t ∧ Z.vm.assignable c t = false := by
  obtain ⟨cell, k, h1, h2, h3, h4, -⟩ := E
  cases ht : Z.vm.findClass K with
  | none => simp [Cond.before, Cond.holds, Cond.value, ht] at w
  | some t =>
    cases ha : Z.vm.assignable cell.cls t with
    | true => exact Or.inl ⟨cell, t, h1, ht, by rw [h4, ha]; rfl⟩
    | false => exact Or.inr ⟨cell.cls, t, h2, rfl, ha⟩
theorem own_dupX2 {tb : Tables} [Ours tb] {e : Env} {below : List Frame} {T target : State} {m : MethodId} {c : Code} {g : JFrame} (h : At T m c below) (hx : tb.exec = Jvm.exec) (hg : g.method = m) {x y z : Value} {rest : List Value} (hd : decode c.code g.pc = .ok (.dup_x2, 1)) (hs : g.stack = x :: y :: z :: rest) (hc : x.category = 1) (hc' : y.category = 1) (hc'' : z.category = 1)
    (hr : Steps tb e below (T.setTop { g with pc := g.pc + 1, stack := x :: y :: z :: x :: rest }) target) : Steps tb e below (T.setTop g) target := by
  subst hg
  jvm_step h [h.top, hx, hd, hs, hc, hc', hc'']
  exact hr
theorem own_dz : FP.dconst0 = FP.l2d 0 := by decide +kernel
theorem own_cat1 {x : Value} (h : x.isRef = true) : x.category = 1 := by cases x <;> first | rfl | cases h
theorem own_astoreN {tb : Tables} [Ours tb] {e : Env} {below : List Frame} {T target : State} {m : MethodId} {c : Code} {g : JFrame} (h : At T m c below) (hx : tb.exec = Jvm.exec) (hg : g.method = m) {k : Fin 4} {x : Value} {rest : List Value} {o : Slot} {l' : Array Slot} (hd : decode c.code g.pc = .ok (.astore_n k, 1)) (hs : g.stack = x :: rest) (hv : x.isRef = true) (hold : g.locals[k.val]? = some o) (ho : One o) (hl : g.locals.setIfInBounds k.val (.val x) = l')
    (hr : Steps tb e below (T.setTop { g with pc := g.pc + 1, stack := rest, locals := l' }) target) : Steps tb e below (T.setTop g) target := XS.astoreN h hx hg hd hs hv (l' := l') (by rw [← hl]; exact XS.store1 hold ho (own_cat1 hv)) hr
theorem own_astore {tb : Tables} [Ours tb] {e : Env} {below : List Frame} {T target : State} {m : MethodId} {c : Code} {g : JFrame} (h : At T m c below) (hx : tb.exec = Jvm.exec) (hg : g.method = m) {k : Nat} {x : Value} {rest : List Value} {o : Slot} {l' : Array Slot} (hd : decode c.code g.pc = .ok (.astore k, 2)) (hs : g.stack = x :: rest) (hv : x.isRef = true) (hold : g.locals[k]? = some o) (ho : One o) (hl : g.locals.setIfInBounds k (.val x) = l')
    (hr : Steps tb e below (T.setTop { g with pc := g.pc + 2, stack := rest, locals := l' }) target) : Steps tb e below (T.setTop g) target := XS.astore h hx hg hd hs hv (l' := l') (by rw [← hl]; exact XS.store1 hold ho (own_cat1 hv)) hr
end OwnKit
def own_ws (c : Int32) : Int32 := (if c < (97 : Int32) then (if c < (65 : Int32) then (if c = (95 : Int32) then (1 : Int32) else (if c < (128 : Int32) then (0 : Int32) else (1 : Int32))) else (if (90 : Int32) < c then (if c = (95 : Int32) then (1 : Int32) else (if c < (128 : Int32) then (0 : Int32) else (1 : Int32))) else (1 : Int32))) else (if (122 : Int32) < c then (if c < (65 : Int32) then (if c = (95 : Int32) then (1 : Int32) else (if c < (128 : Int32) then (0 : Int32) else (1 : Int32))) else (if (90 : Int32) < c then (if c = (95 : Int32) then (1 : Int32) else (if c < (128 : Int32) then (0 : Int32) else (1 : Int32))) else (1 : Int32))) else (1 : Int32)))
theorem own_pn_0 : plainName "com/example/marching_schema/marchingschema/Lexicon" = true := by first | (simp [plainName, overriddenIn]; done) | decide +kernel
theorem own_ef_1 (m : MethodId) (p1 : Int32) : entryFrame m #[(.int p1)] 1 = mkF m 0 #[.val (.int p1)] [] := by first | (simp [entryFrame, mkF, argsToLocals, Value.category]; done) | rfl
def own_Q_1 (Z : State) (p1 : Int32)  (h0 : Heap) (n0 : Nat) (v : Option Value) (h : Heap) (L : List Loc) : Prop := v = some (.int (nar .boolean (own_ws p1))) ∧ Fr n0 L ∧ h = h0
theorem own_d_prog_29_method_11_code_0 : decode prog_29_method_11_code 0 = .ok (.iload_n 0, 1) := by decide +kernel
theorem own_d_prog_29_method_11_code_1 : decode prog_29_method_11_code 1 = .ok (.bipush 97, 2) := by decide +kernel
theorem own_d_prog_29_method_11_code_3 : decode prog_29_method_11_code 3 = .ok (.if_icmp .lt 9, 3) := by decide +kernel
theorem own_d_prog_29_method_11_code_12 : decode prog_29_method_11_code 12 = .ok (.iload_n 0, 1) := by decide +kernel
theorem own_d_prog_29_method_11_code_13 : decode prog_29_method_11_code 13 = .ok (.bipush 65, 2) := by decide +kernel
theorem own_d_prog_29_method_11_code_15 : decode prog_29_method_11_code 15 = .ok (.if_icmp .lt 9, 3) := by decide +kernel
theorem own_d_prog_29_method_11_code_24 : decode prog_29_method_11_code 24 = .ok (.iload_n 0, 1) := by decide +kernel
theorem own_d_prog_29_method_11_code_25 : decode prog_29_method_11_code 25 = .ok (.bipush 95, 2) := by decide +kernel
theorem own_d_prog_29_method_11_code_27 : decode prog_29_method_11_code 27 = .ok (.if_icmp .eq 10, 3) := by decide +kernel
theorem own_d_prog_29_method_11_code_37 : decode prog_29_method_11_code 37 = .ok (.iconst 1, 1) := by decide +kernel
theorem own_d_prog_29_method_11_code_38 : decode prog_29_method_11_code 38 = .ok (.goto 4, 3) := by decide +kernel
theorem own_d_prog_29_method_11_code_30 : decode prog_29_method_11_code 30 = .ok (.iload_n 0, 1) := by decide +kernel
theorem own_d_prog_29_method_11_code_31 : decode prog_29_method_11_code 31 = .ok (.sipush 128, 3) := by decide +kernel
theorem own_d_prog_29_method_11_code_34 : decode prog_29_method_11_code 34 = .ok (.if_icmp .lt 7, 3) := by decide +kernel
theorem own_d_prog_29_method_11_code_41 : decode prog_29_method_11_code 41 = .ok (.iconst 0, 1) := by decide +kernel
theorem own_d_prog_29_method_11_code_18 : decode prog_29_method_11_code 18 = .ok (.iload_n 0, 1) := by decide +kernel
theorem own_d_prog_29_method_11_code_19 : decode prog_29_method_11_code 19 = .ok (.bipush 90, 2) := by decide +kernel
theorem own_d_prog_29_method_11_code_21 : decode prog_29_method_11_code 21 = .ok (.if_icmp .le 16, 3) := by decide +kernel
theorem own_d_prog_29_method_11_code_6 : decode prog_29_method_11_code 6 = .ok (.iload_n 0, 1) := by decide +kernel
theorem own_d_prog_29_method_11_code_7 : decode prog_29_method_11_code 7 = .ok (.bipush 122, 2) := by decide +kernel
theorem own_d_prog_29_method_11_code_9 : decode prog_29_method_11_code 9 = .ok (.if_icmp .le 28, 3) := by decide +kernel
theorem own_d_prog_29_method_11_code_42 : decode prog_29_method_11_code 42 = .ok (.ireturn, 1) := by decide +kernel
set_option maxRecDepth 65536 in
set_option maxHeartbeats 40000000 in
theorem own_rm_1 (l : Launch) (Z : State) (a0 : Array Value) (hw : ∀ d ∈ tables_1, d.before a0 Z = true) (ws : List Jvm.Cond) (p1 : Int32)  (h0 : Heap) (n0 : Nat) (Z0 : n0 ≤ h0.size)  :
    MetFree l (⟨"com/example/marching_schema/marchingschema/Lexicon", "isWordStart", "(C)Z"⟩ : MethodName) (head1 (Jvm.Cond.code (⟨"com/example/marching_schema/marchingschema/Lexicon", "isWordStart", "(C)Z"⟩ : MethodName) prog_29_method_11_code 1 (some .boolean) :: ws) ({ frames := 0, cells := 0, slots := 0, locals := 0 } : Room)) (fun a U => a = #[(.int p1)] ∧ Z.Warmed39 U.vm ∧ U.heap = h0) (fun _ _ _ _ _ => True) (fun _ U o U' => ∃ v L, o = .returned v ∧ own_Q_1 Z p1  h0 n0 v U'.heap L ∧ FrameEnd U o U' L ({ frames := 0, cells := 0, slots := 0, locals := 0 } : Room).cells ({ frames := 0, cells := 0, slots := 0, locals := 0 } : Room).slots) := by
  refine MetFree.of_bodySF (plainFor_of_name own_pn_0) hisR ?_
  intro p e s m args below meth c s₁ Bd hml0 hP hK
  obtain ⟨rfl, hZ, hh⟩ := hP
  have hx := Bd.exec
  have hby := Bd.bytes
  have hml : c.maxLocals = 1 := hml0
  have hown : s.vm.findClass "com/example/marching_schema/marchingschema/Lexicon" = some m.cls := findClass_of_methodNamed Bd.named
  have hnm := (name_of_methodNamed Bd.named Bd.method).1
  have X0 : Stand p l e ({ frames := 0, cells := 0, slots := 0, locals := 0 } : Room) s m #[(.int p1)] below meth c s₁ [] 0 0 := Stand.of_body Bd
  have e0 : s₁.heap = h0 := by rw [← hh, Bd.state]; rfl
  have N0 := Fr.nil n0
  refine own_start (own_ef_1 m p1) ?_
  refine own_of (T' := s₁) (f' := (mkF m 3 #[.val (.int p1)] [(.int (97 : Int32)), (.int p1)])) (fun t_ k_ => (XS.iloadN X0.here hx rfl (hb hby own_d_prog_29_method_11_code_0) rfl (XS.bipush X0.here hx rfl (hb hby own_d_prog_29_method_11_code_1) k_))) ?_
  obtain ⟨r, hr⟩ : ∃ z : Int32, z = (if p1 < (97 : Int32) then (if p1 < (65 : Int32) then (if p1 = (95 : Int32) then (1 : Int32) else (if p1 < (128 : Int32) then (0 : Int32) else (1 : Int32))) else (if (90 : Int32) < p1 then (if p1 = (95 : Int32) then (1 : Int32) else (if p1 < (128 : Int32) then (0 : Int32) else (1 : Int32))) else (1 : Int32))) else (if (122 : Int32) < p1 then (if p1 < (65 : Int32) then (if p1 = (95 : Int32) then (1 : Int32) else (if p1 < (128 : Int32) then (0 : Int32) else (1 : Int32))) else (if (90 : Int32) < p1 then (if p1 = (95 : Int32) then (1 : Int32) else (if p1 < (128 : Int32) then (0 : Int32) else (1 : Int32))) else (1 : Int32))) else (1 : Int32))) := ⟨_, rfl⟩
  have st15 : ∀ t_, Steps p.tables e below (s₁.setTop (mkF m 42 #[.val (.int p1)] [(.int r)])) t_ → Steps p.tables e below (s₁.setTop (mkF m 3 #[.val (.int p1)] [(.int (97 : Int32)), (.int p1)])) t_ := by
    intro t_ k_
    by_cases hc3_1 : (p1 < (97 : Int32))
    · skip
      refine (XS.icmpYes X0.here hx rfl (pc0 := 3) (pc' := 12) rfl (hb hby own_d_prog_29_method_11_code_3) rfl (tlt hc3_1).1 (by decide) (by decide) (XS.iloadN X0.here hx rfl (hb hby own_d_prog_29_method_11_code_12) rfl (XS.bipush X0.here hx rfl (hb hby own_d_prog_29_method_11_code_13) ?_)))
      show Steps p.tables e below (s₁.setTop (mkF m 15 #[.val (.int p1)] [(.int (65 : Int32)), (.int p1)])) t_
      by_cases hc15_2 : (p1 < (65 : Int32))
      · skip
        refine (XS.icmpYes X0.here hx rfl (pc0 := 15) (pc' := 24) rfl (hb hby own_d_prog_29_method_11_code_15) rfl (tlt hc15_2).1 (by decide) (by decide) (XS.iloadN X0.here hx rfl (hb hby own_d_prog_29_method_11_code_24) rfl (XS.bipush X0.here hx rfl (hb hby own_d_prog_29_method_11_code_25) ?_)))
        show Steps p.tables e below (s₁.setTop (mkF m 27 #[.val (.int p1)] [(.int (95 : Int32)), (.int p1)])) t_
        by_cases hc27_3 : (p1 = (95 : Int32))
        · skip
          refine (XS.icmpYes X0.here hx rfl (pc0 := 27) (pc' := 37) rfl (hb hby own_d_prog_29_method_11_code_27) rfl (teq hc27_3).1 (by decide) (by decide) (XS.iconst X0.here hx rfl (hb hby own_d_prog_29_method_11_code_37) (XS.goto X0.here hx rfl (pc0 := 38) (pc' := 42) rfl (hb hby own_d_prog_29_method_11_code_38) (by decide) (by decide) ?_)))
          show Steps p.tables e below (s₁.setTop (mkF m 42 #[.val (.int p1)] [(.int (1 : Int32))])) t_
          rw [hr, if_pos hc3_1, if_pos hc15_2, if_pos hc27_3] at k_
          exact k_
        · skip
          refine (XS.icmpNo X0.here hx rfl (hb hby own_d_prog_29_method_11_code_27) rfl (feq hc27_3).1 (XS.iloadN X0.here hx rfl (hb hby own_d_prog_29_method_11_code_30) rfl (XS.sipush X0.here hx rfl (hb hby own_d_prog_29_method_11_code_31) ?_)))
          show Steps p.tables e below (s₁.setTop (mkF m 34 #[.val (.int p1)] [(.int (128 : Int32)), (.int p1)])) t_
          by_cases hc34_4 : (p1 < (128 : Int32))
          · skip
            refine (XS.icmpYes X0.here hx rfl (pc0 := 34) (pc' := 41) rfl (hb hby own_d_prog_29_method_11_code_34) rfl (tlt hc34_4).1 (by decide) (by decide) (XS.iconst X0.here hx rfl (hb hby own_d_prog_29_method_11_code_41) ?_))
            show Steps p.tables e below (s₁.setTop (mkF m 42 #[.val (.int p1)] [(.int (0 : Int32))])) t_
            rw [hr, if_pos hc3_1, if_pos hc15_2, if_neg hc27_3, if_pos hc34_4] at k_
            exact k_
          · skip
            refine (XS.icmpNo X0.here hx rfl (hb hby own_d_prog_29_method_11_code_34) rfl (flt hc34_4).1 (XS.iconst X0.here hx rfl (hb hby own_d_prog_29_method_11_code_37) (XS.goto X0.here hx rfl (pc0 := 38) (pc' := 42) rfl (hb hby own_d_prog_29_method_11_code_38) (by decide) (by decide) ?_)))
            show Steps p.tables e below (s₁.setTop (mkF m 42 #[.val (.int p1)] [(.int (1 : Int32))])) t_
            rw [hr, if_pos hc3_1, if_pos hc15_2, if_neg hc27_3, if_neg hc34_4] at k_
            exact k_
      · skip
        refine (XS.icmpNo X0.here hx rfl (hb hby own_d_prog_29_method_11_code_15) rfl (flt hc15_2).1 (XS.iloadN X0.here hx rfl (hb hby own_d_prog_29_method_11_code_18) rfl (XS.bipush X0.here hx rfl (hb hby own_d_prog_29_method_11_code_19) ?_)))
        show Steps p.tables e below (s₁.setTop (mkF m 21 #[.val (.int p1)] [(.int (90 : Int32)), (.int p1)])) t_
        by_cases hc21_5 : ((90 : Int32) < p1)
        · skip
          refine (XS.icmpNo X0.here hx rfl (hb hby own_d_prog_29_method_11_code_21) rfl (tlt hc21_5).2.2.2 (XS.iloadN X0.here hx rfl (hb hby own_d_prog_29_method_11_code_24) rfl (XS.bipush X0.here hx rfl (hb hby own_d_prog_29_method_11_code_25) ?_)))
          show Steps p.tables e below (s₁.setTop (mkF m 27 #[.val (.int p1)] [(.int (95 : Int32)), (.int p1)])) t_
          by_cases hc27_6 : (p1 = (95 : Int32))
          · skip
            refine (XS.icmpYes X0.here hx rfl (pc0 := 27) (pc' := 37) rfl (hb hby own_d_prog_29_method_11_code_27) rfl (teq hc27_6).1 (by decide) (by decide) (XS.iconst X0.here hx rfl (hb hby own_d_prog_29_method_11_code_37) (XS.goto X0.here hx rfl (pc0 := 38) (pc' := 42) rfl (hb hby own_d_prog_29_method_11_code_38) (by decide) (by decide) ?_)))
            show Steps p.tables e below (s₁.setTop (mkF m 42 #[.val (.int p1)] [(.int (1 : Int32))])) t_
            rw [hr, if_pos hc3_1, if_neg hc15_2, if_pos hc21_5, if_pos hc27_6] at k_
            exact k_
          · skip
            refine (XS.icmpNo X0.here hx rfl (hb hby own_d_prog_29_method_11_code_27) rfl (feq hc27_6).1 (XS.iloadN X0.here hx rfl (hb hby own_d_prog_29_method_11_code_30) rfl (XS.sipush X0.here hx rfl (hb hby own_d_prog_29_method_11_code_31) ?_)))
            show Steps p.tables e below (s₁.setTop (mkF m 34 #[.val (.int p1)] [(.int (128 : Int32)), (.int p1)])) t_
            by_cases hc34_7 : (p1 < (128 : Int32))
            · skip
              refine (XS.icmpYes X0.here hx rfl (pc0 := 34) (pc' := 41) rfl (hb hby own_d_prog_29_method_11_code_34) rfl (tlt hc34_7).1 (by decide) (by decide) (XS.iconst X0.here hx rfl (hb hby own_d_prog_29_method_11_code_41) ?_))
              show Steps p.tables e below (s₁.setTop (mkF m 42 #[.val (.int p1)] [(.int (0 : Int32))])) t_
              rw [hr, if_pos hc3_1, if_neg hc15_2, if_pos hc21_5, if_neg hc27_6, if_pos hc34_7] at k_
              exact k_
            · skip
              refine (XS.icmpNo X0.here hx rfl (hb hby own_d_prog_29_method_11_code_34) rfl (flt hc34_7).1 (XS.iconst X0.here hx rfl (hb hby own_d_prog_29_method_11_code_37) (XS.goto X0.here hx rfl (pc0 := 38) (pc' := 42) rfl (hb hby own_d_prog_29_method_11_code_38) (by decide) (by decide) ?_)))
              show Steps p.tables e below (s₁.setTop (mkF m 42 #[.val (.int p1)] [(.int (1 : Int32))])) t_
              rw [hr, if_pos hc3_1, if_neg hc15_2, if_pos hc21_5, if_neg hc27_6, if_neg hc34_7] at k_
              exact k_
        · skip
          refine (XS.icmpYes X0.here hx rfl (pc0 := 21) (pc' := 37) rfl (hb hby own_d_prog_29_method_11_code_21) rfl (flt hc21_5).2.2.2 (by decide) (by decide) (XS.iconst X0.here hx rfl (hb hby own_d_prog_29_method_11_code_37) (XS.goto X0.here hx rfl (pc0 := 38) (pc' := 42) rfl (hb hby own_d_prog_29_method_11_code_38) (by decide) (by decide) ?_)))
          show Steps p.tables e below (s₁.setTop (mkF m 42 #[.val (.int p1)] [(.int (1 : Int32))])) t_
          rw [hr, if_pos hc3_1, if_neg hc15_2, if_neg hc21_5] at k_
          exact k_
    · skip
      refine (XS.icmpNo X0.here hx rfl (hb hby own_d_prog_29_method_11_code_3) rfl (flt hc3_1).1 (XS.iloadN X0.here hx rfl (hb hby own_d_prog_29_method_11_code_6) rfl (XS.bipush X0.here hx rfl (hb hby own_d_prog_29_method_11_code_7) ?_)))
      show Steps p.tables e below (s₁.setTop (mkF m 9 #[.val (.int p1)] [(.int (122 : Int32)), (.int p1)])) t_
      by_cases hc9_8 : ((122 : Int32) < p1)
      · skip
        refine (XS.icmpNo X0.here hx rfl (hb hby own_d_prog_29_method_11_code_9) rfl (tlt hc9_8).2.2.2 (XS.iloadN X0.here hx rfl (hb hby own_d_prog_29_method_11_code_12) rfl (XS.bipush X0.here hx rfl (hb hby own_d_prog_29_method_11_code_13) ?_)))
        show Steps p.tables e below (s₁.setTop (mkF m 15 #[.val (.int p1)] [(.int (65 : Int32)), (.int p1)])) t_
        by_cases hc15_9 : (p1 < (65 : Int32))
        · skip
          refine (XS.icmpYes X0.here hx rfl (pc0 := 15) (pc' := 24) rfl (hb hby own_d_prog_29_method_11_code_15) rfl (tlt hc15_9).1 (by decide) (by decide) (XS.iloadN X0.here hx rfl (hb hby own_d_prog_29_method_11_code_24) rfl (XS.bipush X0.here hx rfl (hb hby own_d_prog_29_method_11_code_25) ?_)))
          show Steps p.tables e below (s₁.setTop (mkF m 27 #[.val (.int p1)] [(.int (95 : Int32)), (.int p1)])) t_
          by_cases hc27_10 : (p1 = (95 : Int32))
          · skip
            refine (XS.icmpYes X0.here hx rfl (pc0 := 27) (pc' := 37) rfl (hb hby own_d_prog_29_method_11_code_27) rfl (teq hc27_10).1 (by decide) (by decide) (XS.iconst X0.here hx rfl (hb hby own_d_prog_29_method_11_code_37) (XS.goto X0.here hx rfl (pc0 := 38) (pc' := 42) rfl (hb hby own_d_prog_29_method_11_code_38) (by decide) (by decide) ?_)))
            show Steps p.tables e below (s₁.setTop (mkF m 42 #[.val (.int p1)] [(.int (1 : Int32))])) t_
            rw [hr, if_neg hc3_1, if_pos hc9_8, if_pos hc15_9, if_pos hc27_10] at k_
            exact k_
          · skip
            refine (XS.icmpNo X0.here hx rfl (hb hby own_d_prog_29_method_11_code_27) rfl (feq hc27_10).1 (XS.iloadN X0.here hx rfl (hb hby own_d_prog_29_method_11_code_30) rfl (XS.sipush X0.here hx rfl (hb hby own_d_prog_29_method_11_code_31) ?_)))
            show Steps p.tables e below (s₁.setTop (mkF m 34 #[.val (.int p1)] [(.int (128 : Int32)), (.int p1)])) t_
            by_cases hc34_11 : (p1 < (128 : Int32))
            · skip
              refine (XS.icmpYes X0.here hx rfl (pc0 := 34) (pc' := 41) rfl (hb hby own_d_prog_29_method_11_code_34) rfl (tlt hc34_11).1 (by decide) (by decide) (XS.iconst X0.here hx rfl (hb hby own_d_prog_29_method_11_code_41) ?_))
              show Steps p.tables e below (s₁.setTop (mkF m 42 #[.val (.int p1)] [(.int (0 : Int32))])) t_
              rw [hr, if_neg hc3_1, if_pos hc9_8, if_pos hc15_9, if_neg hc27_10, if_pos hc34_11] at k_
              exact k_
            · skip
              refine (XS.icmpNo X0.here hx rfl (hb hby own_d_prog_29_method_11_code_34) rfl (flt hc34_11).1 (XS.iconst X0.here hx rfl (hb hby own_d_prog_29_method_11_code_37) (XS.goto X0.here hx rfl (pc0 := 38) (pc' := 42) rfl (hb hby own_d_prog_29_method_11_code_38) (by decide) (by decide) ?_)))
              show Steps p.tables e below (s₁.setTop (mkF m 42 #[.val (.int p1)] [(.int (1 : Int32))])) t_
              rw [hr, if_neg hc3_1, if_pos hc9_8, if_pos hc15_9, if_neg hc27_10, if_neg hc34_11] at k_
              exact k_
        · skip
          refine (XS.icmpNo X0.here hx rfl (hb hby own_d_prog_29_method_11_code_15) rfl (flt hc15_9).1 (XS.iloadN X0.here hx rfl (hb hby own_d_prog_29_method_11_code_18) rfl (XS.bipush X0.here hx rfl (hb hby own_d_prog_29_method_11_code_19) ?_)))
          show Steps p.tables e below (s₁.setTop (mkF m 21 #[.val (.int p1)] [(.int (90 : Int32)), (.int p1)])) t_
          by_cases hc21_12 : ((90 : Int32) < p1)
          · skip
            refine (XS.icmpNo X0.here hx rfl (hb hby own_d_prog_29_method_11_code_21) rfl (tlt hc21_12).2.2.2 (XS.iloadN X0.here hx rfl (hb hby own_d_prog_29_method_11_code_24) rfl (XS.bipush X0.here hx rfl (hb hby own_d_prog_29_method_11_code_25) ?_)))
            show Steps p.tables e below (s₁.setTop (mkF m 27 #[.val (.int p1)] [(.int (95 : Int32)), (.int p1)])) t_
            by_cases hc27_13 : (p1 = (95 : Int32))
            · skip
              refine (XS.icmpYes X0.here hx rfl (pc0 := 27) (pc' := 37) rfl (hb hby own_d_prog_29_method_11_code_27) rfl (teq hc27_13).1 (by decide) (by decide) (XS.iconst X0.here hx rfl (hb hby own_d_prog_29_method_11_code_37) (XS.goto X0.here hx rfl (pc0 := 38) (pc' := 42) rfl (hb hby own_d_prog_29_method_11_code_38) (by decide) (by decide) ?_)))
              show Steps p.tables e below (s₁.setTop (mkF m 42 #[.val (.int p1)] [(.int (1 : Int32))])) t_
              rw [hr, if_neg hc3_1, if_pos hc9_8, if_neg hc15_9, if_pos hc21_12, if_pos hc27_13] at k_
              exact k_
            · skip
              refine (XS.icmpNo X0.here hx rfl (hb hby own_d_prog_29_method_11_code_27) rfl (feq hc27_13).1 (XS.iloadN X0.here hx rfl (hb hby own_d_prog_29_method_11_code_30) rfl (XS.sipush X0.here hx rfl (hb hby own_d_prog_29_method_11_code_31) ?_)))
              show Steps p.tables e below (s₁.setTop (mkF m 34 #[.val (.int p1)] [(.int (128 : Int32)), (.int p1)])) t_
              by_cases hc34_14 : (p1 < (128 : Int32))
              · skip
                refine (XS.icmpYes X0.here hx rfl (pc0 := 34) (pc' := 41) rfl (hb hby own_d_prog_29_method_11_code_34) rfl (tlt hc34_14).1 (by decide) (by decide) (XS.iconst X0.here hx rfl (hb hby own_d_prog_29_method_11_code_41) ?_))
                show Steps p.tables e below (s₁.setTop (mkF m 42 #[.val (.int p1)] [(.int (0 : Int32))])) t_
                rw [hr, if_neg hc3_1, if_pos hc9_8, if_neg hc15_9, if_pos hc21_12, if_neg hc27_13, if_pos hc34_14] at k_
                exact k_
              · skip
                refine (XS.icmpNo X0.here hx rfl (hb hby own_d_prog_29_method_11_code_34) rfl (flt hc34_14).1 (XS.iconst X0.here hx rfl (hb hby own_d_prog_29_method_11_code_37) (XS.goto X0.here hx rfl (pc0 := 38) (pc' := 42) rfl (hb hby own_d_prog_29_method_11_code_38) (by decide) (by decide) ?_)))
                show Steps p.tables e below (s₁.setTop (mkF m 42 #[.val (.int p1)] [(.int (1 : Int32))])) t_
                rw [hr, if_neg hc3_1, if_pos hc9_8, if_neg hc15_9, if_pos hc21_12, if_neg hc27_13, if_neg hc34_14] at k_
                exact k_
          · skip
            refine (XS.icmpYes X0.here hx rfl (pc0 := 21) (pc' := 37) rfl (hb hby own_d_prog_29_method_11_code_21) rfl (flt hc21_12).2.2.2 (by decide) (by decide) (XS.iconst X0.here hx rfl (hb hby own_d_prog_29_method_11_code_37) (XS.goto X0.here hx rfl (pc0 := 38) (pc' := 42) rfl (hb hby own_d_prog_29_method_11_code_38) (by decide) (by decide) ?_)))
            show Steps p.tables e below (s₁.setTop (mkF m 42 #[.val (.int p1)] [(.int (1 : Int32))])) t_
            rw [hr, if_neg hc3_1, if_pos hc9_8, if_neg hc15_9, if_neg hc21_12] at k_
            exact k_
      · skip
        refine (XS.icmpYes X0.here hx rfl (pc0 := 9) (pc' := 37) rfl (hb hby own_d_prog_29_method_11_code_9) rfl (flt hc9_8).2.2.2 (by decide) (by decide) (XS.iconst X0.here hx rfl (hb hby own_d_prog_29_method_11_code_37) (XS.goto X0.here hx rfl (pc0 := 38) (pc' := 42) rfl (hb hby own_d_prog_29_method_11_code_38) (by decide) (by decide) ?_)))
        show Steps p.tables e below (s₁.setTop (mkF m 42 #[.val (.int p1)] [(.int (1 : Int32))])) t_
        rw [hr, if_neg hc3_1, if_neg hc9_8] at k_
        exact k_
  refine own_of (T' := s₁) (f' := (mkF m 42 #[.val (.int p1)] [(.int r)])) st15 ?_
  have er : r = own_ws p1 := hr
  obtain ⟨fs, hr, hrun, hended, hW, hsame⟩ := X0.leave (v := some (.int (nar .boolean r))) (fun h => by rw [Bd.returns] at h; cases h)
  exact ⟨_, _, retN X0 hx (t := .boolean) Bd.returns (by simp) (hb hby own_d_prog_29_method_11_code_42) hr, hrun, hended, _, _, rfl, (by show own_Q_1 Z p1  h0 n0 _ s₁.heap _; rw [e0]; exact ⟨by rw [er], N0, rfl⟩), ⟨_, rfl⟩, hW, hsame.mono (by decide) (by decide)⟩
theorem own_pn_1 : plainName "com/example/marching_schema/marchingschema/LexiconIsWordStartPinLaw" = true := by first | (simp [plainName, overriddenIn]; done) | decide +kernel
theorem own_small : ∀ k : Fin 128, (fun v : Int32 => nar .boolean (own_ws v.toUInt32.toUInt16.toUInt32.toInt32) = ((if v < (128 : Int32) then (if v < (64 : Int32) then (0 : Int32) else (if ((((576460745995190270 : Int64).toUInt64 >>> ((v - (64 : Int32)) &&& 0x3f).toInt64.toUInt64).toInt64) &&& (1 : Int64)) = (0 : Int64) then (0 : Int32) else (1 : Int32))) else (1 : Int32)))) (Int32.ofNat k.val) := by decide +kernel
theorem own_law (x v : Int32) (hv : x &&& (65535 : Int32) = v) : nar .boolean (own_ws v.toUInt32.toUInt16.toUInt32.toInt32) = ((if v < (128 : Int32) then (if v < (64 : Int32) then (0 : Int32) else (if ((((576460745995190270 : Int64).toUInt64 >>> ((v - (64 : Int32)) &&& 0x3f).toInt64.toUInt64).toInt64) &&& (1 : Int64)) = (0 : Int64) then (0 : Int32) else (1 : Int32))) else (1 : Int32))) := by
  have e1 : v.toInt = x.toInt % (2 ^ 16 : Nat) := by rw [← hv]; exact c_mask x 65535 16 (by decide) (by decide)
  have h0 : 0 ≤ v.toInt := by omega
  have h1 : v.toInt < 65536 := by omega
  by_cases hb : v.toInt < 128
  · have ev : v = Int32.ofNat (v.toInt.toNat) := by
      apply Int32.toInt_inj.mp
      rw [Int32.toInt_ofNat_of_lt (by omega)]
      omega
    have := own_small ⟨v.toInt.toNat, by omega⟩
    simp only at this
    rw [← ev] at this
    exact this
  · have ec : v.toUInt32.toUInt16.toUInt32.toInt32 = v := by
      have q := c_i2c v
      apply Int32.toInt_inj.mp
      omega
    rw [ec]
    have n1 : ¬ v < (128 : Int32) := by rw [Int32.lt_iff_toInt_lt]; exact hb
    have n2 : ¬ v < (97 : Int32) := by rw [Int32.lt_iff_toInt_lt]; show ¬ v.toInt < 97; omega
    have n3 : (122 : Int32) < v := by rw [Int32.lt_iff_toInt_lt]; show 122 < v.toInt; omega
    have n4 : ¬ v < (65 : Int32) := by rw [Int32.lt_iff_toInt_lt]; show ¬ v.toInt < 65; omega
    have n5 : (90 : Int32) < v := by rw [Int32.lt_iff_toInt_lt]; show 90 < v.toInt; omega
    have n6 : ¬ v = (95 : Int32) := fun q => by rw [q] at hb; exact hb (by decide)
    simp only [own_ws, n1, n2, n3, n4, n5, n6, if_true, if_false]
    rfl

theorem own_ef_0 (m : MethodId) (p0 : Int32) : entryFrame m #[(.int p0)] maxLocals = mkF m 0 #[.val (.int p0), .unset, .unset, .unset, .unset, .unset] [] := by first | (simp [entryFrame, mkF, argsToLocals, Value.category, maxLocals]; done) | rfl
def own_Q_0 (Z : State) (p0 : Int32)  (h0 : Heap) (n0 : Nat) (v : Option Value) (h : Heap) (L : List Loc) : Prop := v = some (.int 1) ∧ Fr n0 L
theorem own_pd_0 : parseMethodDescriptor "(C)Z" = some ⟨[.char], some .boolean⟩ := by decide +kernel
set_option maxRecDepth 65536 in
set_option maxHeartbeats 40000000 in
theorem own_rm_0 (l : Launch) (Z : State) (a0 : Array Value) (hw : ∀ d ∈ tables_1, d.before a0 Z = true) (ws : List Jvm.Cond) (p0 : Int32)  (h0 : Heap) (n0 : Nat) (Z0 : n0 ≤ h0.size)  :
    MetFree l x (head1 (Jvm.Cond.code x code maxLocals ret :: ws) room_1) (fun a U => a = #[(.int p0)] ∧ Z.Warmed39 U.vm ∧ U.heap = h0) (fun _ _ _ _ _ => True) (fun _ U o U' => ∃ v L, o = .returned v ∧ own_Q_0 Z p0  h0 n0 v U'.heap L ∧ FrameEnd U o U' L room_1.cells room_1.slots) := by
  refine MetFree.of_bodySF (plainFor_of_name own_pn_1) hisR ?_
  intro p e s m args below meth c s₁ Bd hml0 hP hK
  obtain ⟨rfl, hZ, hh⟩ := hP
  have hx := Bd.exec
  have hby := Bd.bytes
  have hml : c.maxLocals = 6 := hml0
  have hown : s.vm.findClass "com/example/marching_schema/marchingschema/LexiconIsWordStartPinLaw" = some m.cls := findClass_of_methodNamed Bd.named
  have hnm := (name_of_methodNamed Bd.named Bd.method).1
  have X0 : Stand p l e room_1 s m #[(.int p0)] below meth c s₁ [] 0 0 := Stand.of_body Bd
  have e0 : s₁.heap = h0 := by rw [← hh, Bd.state]; rfl
  have N0 := Fr.nil n0
  refine own_start (own_ef_0 m p0) ?_
  refine own_of (T' := s₁) (f' := (mkF m 4 #[.val (.int p0), .unset, .unset, .unset, .unset, .unset] [(.int (p0 &&& (65535 : Int32)))])) (fun t_ k_ => (XS.iloadN X0.here hx rfl (hb hby at_0) rfl (Jvm.Stand.ldcI X0 hx hown (mvT hZ (hw _ (List.mem_of_getElem? (i := 0) rfl))) rfl (hb hby at_1) (XS.iand X0.here hx rfl (hb hby at_3) rfl k_)))) ?_
  obtain ⟨v, hv⟩ : ∃ z : Int32, (p0 &&& (65535 : Int32)) = z := ⟨_, rfl⟩
  rw [hv]
  refine own_of (T' := s₁) (f' := (mkF m 16 #[.val (.int p0), .val (.int v), .val (.int (v.toUInt32.toUInt16.toUInt32.toInt32)), .val (.long (576460745995190270 : Int64)), .second, .unset] [(.int (128 : Int32)), (.int v)])) (fun t_ k_ => (XS.istoreN X0.here hx rfl (hb hby at_4) rfl (l' := #[.val (.int p0), .val (.int v), .unset, .unset, .unset, .unset]) rfl (XS.iloadN X0.here hx rfl (hb hby at_5) rfl (XS.i2c X0.here hx rfl (hb hby at_6) rfl (XS.istoreN X0.here hx rfl (hb hby at_7) rfl (l' := #[.val (.int p0), .val (.int v), .val (.int (v.toUInt32.toUInt16.toUInt32.toInt32)), .unset, .unset, .unset]) rfl (Jvm.Stand.ldc2J X0 hx hown (mvT hZ (hw _ (List.mem_of_getElem? (i := 1) rfl))) rfl (hb hby at_8) (XS.lstoreN X0.here hx rfl (hb hby at_11) rfl (l' := #[.val (.int p0), .val (.int v), .val (.int (v.toUInt32.toUInt16.toUInt32.toInt32)), .val (.long (576460745995190270 : Int64)), .second, .unset]) rfl (XS.iloadN X0.here hx rfl (hb hby at_12) rfl (XS.sipush X0.here hx rfl (hb hby at_13) k_))))))))) ?_
  obtain ⟨ex, hex⟩ : ∃ z : Int32, z = (if v < (128 : Int32) then (if v < (64 : Int32) then (0 : Int32) else (if ((((576460745995190270 : Int64).toUInt64 >>> ((v - (64 : Int32)) &&& 0x3f).toInt64.toUInt64).toInt64) &&& (1 : Int64)) = (0 : Int64) then (0 : Int32) else (1 : Int32))) else (1 : Int32)) := ⟨_, rfl⟩
  have st4 : ∀ t_, Steps p.tables e below (s₁.setTop (mkF m 57 #[.val (.int p0), .val (.int v), .val (.int (v.toUInt32.toUInt16.toUInt32.toInt32)), .val (.long (576460745995190270 : Int64)), .second, .val (.int ex)] [])) t_ → Steps p.tables e below (s₁.setTop (mkF m 16 #[.val (.int p0), .val (.int v), .val (.int (v.toUInt32.toUInt16.toUInt32.toInt32)), .val (.long (576460745995190270 : Int64)), .second, .unset] [(.int (128 : Int32)), (.int v)])) t_ := by
    intro t_ k_
    by_cases hc16_1 : (v < (128 : Int32))
    · skip
      refine (XS.icmpYes X0.here hx rfl (pc0 := 16) (pc' := 25) rfl (hb hby at_16) rfl (tlt hc16_1).1 (by decide) (by decide) (XS.iloadN X0.here hx rfl (hb hby at_25) rfl (XS.bipush X0.here hx rfl (hb hby at_26) ?_)))
      show Steps p.tables e below (s₁.setTop (mkF m 28 #[.val (.int p0), .val (.int v), .val (.int (v.toUInt32.toUInt16.toUInt32.toInt32)), .val (.long (576460745995190270 : Int64)), .second, .unset] [(.int (64 : Int32)), (.int v)])) t_
      by_cases hc28_2 : (v < (64 : Int32))
      · skip
        refine (XS.icmpNo X0.here hx rfl (hb hby at_28) rfl (tlt hc28_2).2.1 (XS.iconst X0.here hx rfl (hb hby at_31) (XS.istore X0.here hx rfl (hb hby at_32) rfl (l' := #[.val (.int p0), .val (.int v), .val (.int (v.toUInt32.toUInt16.toUInt32.toInt32)), .val (.long (576460745995190270 : Int64)), .second, .val (.int (0 : Int32))]) rfl (XS.goto X0.here hx rfl (pc0 := 34) (pc' := 57) rfl (hb hby at_34) (by decide) (by decide) ?_))))
        show Steps p.tables e below (s₁.setTop (mkF m 57 #[.val (.int p0), .val (.int v), .val (.int (v.toUInt32.toUInt16.toUInt32.toInt32)), .val (.long (576460745995190270 : Int64)), .second, .val (.int (0 : Int32))] [])) t_
        rw [hex, if_pos hc16_1, if_pos hc28_2] at k_
        exact k_
      · skip
        refine (XS.icmpYes X0.here hx rfl (pc0 := 28) (pc' := 37) rfl (hb hby at_28) rfl (flt hc28_2).2.1 (by decide) (by decide) (XS.lloadN X0.here hx rfl (hb hby at_37) rfl (XS.iloadN X0.here hx rfl (hb hby at_38) rfl (XS.bipush X0.here hx rfl (hb hby at_39) (XS.isub X0.here hx rfl (hb hby at_41) rfl (XS.lushr X0.here hx rfl (hb hby at_42) rfl (XS.lconst X0.here hx rfl (hb hby at_43) (XS.land X0.here hx rfl (hb hby at_44) rfl ?_))))))))
        show Steps p.tables e below (s₁.setTop (mkF m 45 #[.val (.int p0), .val (.int v), .val (.int (v.toUInt32.toUInt16.toUInt32.toInt32)), .val (.long (576460745995190270 : Int64)), .second, .unset] [(.long ((((576460745995190270 : Int64).toUInt64 >>> ((v - (64 : Int32)) &&& 0x3f).toInt64.toUInt64).toInt64) &&& (1 : Int64)))])) t_
        refine (XS.lconst X0.here hx rfl (hb hby at_45) (XS.lcmp X0.here hx rfl (hb hby at_46) rfl ?_))
        show Steps p.tables e below (s₁.setTop (mkF m 47 #[.val (.int p0), .val (.int v), .val (.int (v.toUInt32.toUInt16.toUInt32.toInt32)), .val (.long (576460745995190270 : Int64)), .second, .unset] [(.int (lcmpW ((((576460745995190270 : Int64).toUInt64 >>> ((v - (64 : Int32)) &&& 0x3f).toInt64.toUInt64).toInt64) &&& (1 : Int64)) (0 : Int64)))])) t_
        by_cases hc47_3 : (((((576460745995190270 : Int64).toUInt64 >>> ((v - (64 : Int32)) &&& 0x3f).toInt64.toUInt64).toInt64) &&& (1 : Int64)) = (0 : Int64))
        · skip
          refine (XS.ifYes X0.here hx rfl (pc0 := 47) (pc' := 54) rfl (hb hby at_47) rfl ((if0 _ _).trans (teq ((lw_eq ((((576460745995190270 : Int64).toUInt64 >>> ((v - (64 : Int32)) &&& 0x3f).toInt64.toUInt64).toInt64) &&& (1 : Int64)) (0 : Int64)).mpr hc47_3)).1) (by decide) (by decide) (XS.iconst X0.here hx rfl (hb hby at_54) (XS.istore X0.here hx rfl (hb hby at_55) rfl (l' := #[.val (.int p0), .val (.int v), .val (.int (v.toUInt32.toUInt16.toUInt32.toInt32)), .val (.long (576460745995190270 : Int64)), .second, .val (.int (0 : Int32))]) rfl ?_)))
          show Steps p.tables e below (s₁.setTop (mkF m 57 #[.val (.int p0), .val (.int v), .val (.int (v.toUInt32.toUInt16.toUInt32.toInt32)), .val (.long (576460745995190270 : Int64)), .second, .val (.int (0 : Int32))] [])) t_
          rw [hex, if_pos hc16_1, if_neg hc28_2, if_pos hc47_3] at k_
          exact k_
        · skip
          refine (XS.ifNo X0.here hx rfl (hb hby at_47) rfl ((if0 _ _).trans (feq (mt (lw_eq ((((576460745995190270 : Int64).toUInt64 >>> ((v - (64 : Int32)) &&& 0x3f).toInt64.toUInt64).toInt64) &&& (1 : Int64)) (0 : Int64)).mp hc47_3)).1) (XS.iconst X0.here hx rfl (hb hby at_50) (XS.goto X0.here hx rfl (pc0 := 51) (pc' := 55) rfl (hb hby at_51) (by decide) (by decide) (XS.istore X0.here hx rfl (hb hby at_55) rfl (l' := #[.val (.int p0), .val (.int v), .val (.int (v.toUInt32.toUInt16.toUInt32.toInt32)), .val (.long (576460745995190270 : Int64)), .second, .val (.int (1 : Int32))]) rfl ?_))))
          show Steps p.tables e below (s₁.setTop (mkF m 57 #[.val (.int p0), .val (.int v), .val (.int (v.toUInt32.toUInt16.toUInt32.toInt32)), .val (.long (576460745995190270 : Int64)), .second, .val (.int (1 : Int32))] [])) t_
          rw [hex, if_pos hc16_1, if_neg hc28_2, if_neg hc47_3] at k_
          exact k_
    · skip
      refine (XS.icmpNo X0.here hx rfl (hb hby at_16) rfl (flt hc16_1).1 (XS.iconst X0.here hx rfl (hb hby at_19) (XS.istore X0.here hx rfl (hb hby at_20) rfl (l' := #[.val (.int p0), .val (.int v), .val (.int (v.toUInt32.toUInt16.toUInt32.toInt32)), .val (.long (576460745995190270 : Int64)), .second, .val (.int (1 : Int32))]) rfl (XS.goto X0.here hx rfl (pc0 := 22) (pc' := 57) rfl (hb hby at_22) (by decide) (by decide) ?_))))
      show Steps p.tables e below (s₁.setTop (mkF m 57 #[.val (.int p0), .val (.int v), .val (.int (v.toUInt32.toUInt16.toUInt32.toInt32)), .val (.long (576460745995190270 : Int64)), .second, .val (.int (1 : Int32))] [])) t_
      rw [hex, if_neg hc16_1] at k_
      exact k_
  refine own_of (T' := s₁) (f' := (mkF m 57 #[.val (.int p0), .val (.int v), .val (.int (v.toUInt32.toUInt16.toUInt32.toInt32)), .val (.long (576460745995190270 : Int64)), .second, .val (.int ex)] [])) st4 ?_
  refine own_of (T' := s₁) (f' := (mkF m 58 #[.val (.int p0), .val (.int v), .val (.int (v.toUInt32.toUInt16.toUInt32.toInt32)), .val (.long (576460745995190270 : Int64)), .second, .val (.int ex)] [(.int (v.toUInt32.toUInt16.toUInt32.toInt32))])) (fun t_ k_ => (XS.iloadN X0.here hx rfl (hb hby at_57) rfl k_)) ?_
  obtain ⟨_, _, ⟨T5, L5, k5, n5⟩, -, X5, ⟨Lc5, hQ5, l5, y5, z5⟩, st5⟩ := Jvm.LawKit.callS X0 hx (y := (⟨"com/example/marching_schema/marchingschema/Lexicon", "isWordStart", "(C)Z"⟩ : MethodName)) hown (mvT hZ (hw _ (List.mem_of_getElem? (i := 2) rfl))) (mvT hZ (hw _ (List.mem_of_getElem? (i := 3) rfl))) (mvT hZ (hw _ (List.mem_of_getElem? (i := 4) rfl))) (mvT hZ (hw _ (List.mem_of_getElem? (i := 5) rfl))) (by decide) (backOf (W := 0) (own_rm_1 l Z a0 hw [] (v.toUInt32.toUInt16.toUInt32.toInt32) h0 n0 Z0) hZ (hw _ (List.mem_of_getElem? (i := 5) rfl)) (hw _ (List.mem_of_getElem? (i := 4) rfl)) (by decide) (by decide)) (g := (mkF m 58 #[.val (.int p0), .val (.int v), .val (.int (v.toUInt32.toUInt16.toUInt32.toInt32)), .val (.long (576460745995190270 : Int64)), .second, .val (.int ex)] [(.int (v.toUInt32.toUInt16.toUInt32.toInt32))])) rfl (by rw [hml]; rfl) (argsL := [(.int (v.toUInt32.toUInt16.toUInt32.toInt32))]) (rest := []) (lenOf own_pd_0 rfl) rfl (by show 2 * 0 + _ ≤ _; exact Nat.le_of_eq rfl) (hb hby at_58) (fun _ _ => ⟨rfl, e0, Nat.le_of_ble_eq_true rfl, Nat.le_of_ble_eq_true rfl⟩)
  dsimp only [Pt.U, Pt.locs, Pt.cells, Pt.slots] at X5 l5 y5 z5 st5 hQ5
  subst l5 y5 z5
  obtain ⟨rfl, N5, e5⟩ := hQ5
  have N6 := Fr.app N0 N5
  refine own_of (T' := T5) (f' := (mkF m 63 #[.val (.int p0), .val (.int v), .val (.int (v.toUInt32.toUInt16.toUInt32.toInt32)), .val (.long (576460745995190270 : Int64)), .second, .val (.int ex)] [(.int ex), (.int (nar .boolean (own_ws (v.toUInt32.toUInt16.toUInt32.toInt32))))])) (fun t_ k_ => (st5 _ (XS.iload X5.here hx rfl (hb hby at_61) rfl k_))) ?_
  have hlaw : nar .boolean (own_ws (v.toUInt32.toUInt16.toUInt32.toInt32)) = ex := by rw [hex]; exact own_law p0 v hv
  refine own_of (T' := T5) (f' := (mkF m 71 #[.val (.int p0), .val (.int v), .val (.int (v.toUInt32.toUInt16.toUInt32.toInt32)), .val (.long (576460745995190270 : Int64)), .second, .val (.int ex)] [(.int (1 : Int32))])) (fun t_ k_ => (XS.icmpNo X5.here hx rfl (hb hby at_63) rfl (teq hlaw).2 (XS.iconst X5.here hx rfl (hb hby at_66) (XS.goto X5.here hx rfl (pc0 := 67) (pc' := 71) rfl (hb hby at_67) (by decide) (by decide) k_)))) ?_
  obtain ⟨fs, hr, hrun, hended, hW, hsame⟩ := X5.leave (v := some (.int (1 : Int32))) (fun h => by rw [Bd.returns] at h; cases h)
  exact ⟨_, _, retN X5 hx (t := .boolean) Bd.returns (by simp) (hb hby at_71) hr, hrun, hended, _, _, rfl, (by show own_Q_0 Z p0  h0 n0 _ T5.heap _; rw [e5]; exact ⟨rfl, N6⟩), ⟨_, rfl⟩, hW, hsame.mono (by decide) (by decide)⟩
set_option maxRecDepth 65536 in
set_option maxHeartbeats 40000000 in
theorem own_comes_1 {Post : Tables → Env → Array Value → State → Outcome → State → Prop} (hpost : ∀ tb e args s v u, (limb_1_1.after args s (.returned v) u = true ∧ limb_1_2.after args s (.returned v) u = true ∧ True) → FrameEnd s (.returned v) u (Jvm.fieldLocs frame_1_writes args s ++ Jvm.arrayLocs frame_1_arrays args s ++ Jvm.staticLocs frame_1_statics s) 0 0 → Post tb e args s (.returned v) u) :
    ArmFor flags0 classFile x code maxLocals ret World_1 tables_1 room_1 Calls_1 rest_1 Pre_1 Post := by
  intro l hfl _ _ p e ha hc hk s m args below hf hA hF happ hP
  obtain ⟨hcalls, hrest, hpre⟩ := hP
  obtain ⟨-, -, -, hnamed, -, -, -, hat⟩ := (Spec.applies_iff hf).mp happ
  obtain ⟨hg, hn⟩ := and_e (Cond.before_iff.mp (show (Jvm.Cond.and given_1 narrow_1).before args s = true from hpre))
  obtain ⟨hg0, hg⟩ := and_e hg
  have ga0 := hg
  obtain ⟨w0, rfl⟩ : ∃ w0 : Value, args = #[w0] := by
    have hs : args.size = 1 := by simpa [Cond.value, given_1] using hg0
    obtain ⟨L⟩ := args
    match L, hs with
    | [w0], _ => exact ⟨w0, rfl⟩
  have hw := fun d (hd : d ∈ tables_1) => atoms_spec (ws := Jvm.Cond.code x code maxLocals ret :: tables_1) hat d (List.mem_cons_of_mem _ hd)
  have hfit : Fit s := fun {y c} hc i hi => by
    obtain ⟨ha, rfl⟩ := Array.getElem?_eq_some_iff.mp hc
    have q := List.all_eq_true.mp ((Array.all_eq_true_iff_forall_mem.mp hF) _ (Array.getElem_mem ha)) i (List.mem_range.mpr hi)
    simpa [Array.getElem?_eq_getElem hi] using q
  obtain ⟨i0, ei0⟩ := is_v ga0
  obtain rfl : w0 = (.int i0) := Option.some.inj ei0
  obtain ⟨n, o, h1, h2, h3, _, L, rfl, ⟨rfl, N⟩, hq⟩ := own_rm_0 l s _ hw tables_1 i0 s.heap s.heap.size (Nat.le_refl _) p e ha hc hk s m _ below hf ((Spec.applies_iff_loose hf).mp happ).1 ⟨rfl, State.Warmed39.refl s, rfl⟩ trivial
  refine ⟨n, _, h1, h2, h3, hpost _ _ _ _ _ _ ⟨Cond.after_iff.mpr rfl, Cond.after_iff.mpr (eq_i res_at (Term.int_eval (1)) rfl), trivial⟩ ⟨hq.1, hq.2.1, (hq.2.2.sift fun y hy => Or.inr (N y hy)).mono (by decide) (by decide)⟩⟩
theorem main_1_1 : Claimed_1_1 := own_comes_1 fun _ _ _ _ _ _ h hF => ⟨h.1, hF⟩
theorem main_1_2 : Claimed_1_2 := own_comes_1 fun _ _ _ _ _ _ h hF => ⟨h.2.1, hF⟩
end Jvm.Pilot.@@N@@
namespace Jvm.Pilot.@@N@@
open Jvm Jvm.ClassFile Sem Op Lib Jvm.Free Jvm.Stand Jvm.Pilot.@@N@@.Jvm.D
/-! MADE BY PROGRAM (witnessworld.py) out of the Statement's table words and the real class files: 12 classes; the members and pool entries that the words name. The judged class is class 1, her method 1. -/
namespace start1
open Jvm.ClassFile
def u (s : String) : CpInfo := .utf8 (stringToUtf16 s)
/-- a pool by its gaps: so many unusable entries, then the entry; so many at the end -/
def gap : Nat → List CpInfo → List CpInfo
  | 0, r => r
  | n + 1, r => .unusable :: gap n r
def poolList (es : List (Nat × CpInfo)) (last : Nat) : List CpInfo := es.foldr (fun e r => gap e.1 (e.2 :: r)) (gap last [])
def pool (es : List (Nat × CpInfo)) (last : Nat) : Array CpInfo := ⟨poolList es last⟩
def fileOf (pool : Array CpInfo) (this : Nat) (attrs : Array Attribute := #[]) (ms : Array MethodInfo := #[]) (fl : Nat := 33) (sup : Nat := 0) (ifs : Array Nat := #[]) (fds : Array FieldInfo := #[]) : ClassFile where
  minorVersion := 0
  majorVersion := 65
  constantPool := pool
  accessFlags := fl
  thisClass := this
  superClass := sup
  interfaces := ifs
  fields := fds
  methods := ms
  attributes := attrs
def plain (name : String) (sup : Option ClassId) : Class where
  name := name
  kind := .ordinary
  loader := none
  accessFlags := 33
  super := sup
  interfaces := #[]
  cf := none
  fields := #[]
  methods := #[]
  instanceTypes := #[]
  staticTypes := #[]
  resolved := #[]
  callSites := []
  init := .initialized
  statics := none
  mirror := none

def pool0 : Array CpInfo := pool [(5, u "<init>"), (0, u "()V"), (1, .class_ 10), (1, u "java/lang/Object")] 113

def k0m0 : Method := { name := "<init>", desc := "()V", sig := { parameters := [], returnType := none }, accessFlags := 1, code := none }
/-- java/lang/Object -/
def k0 : Class := { plain "java/lang/Object" none with
  accessFlags := 33
  interfaces := #[]
  cf := some (fileOf pool0 8 #[] #[{ accessFlags := 1, nameIndex := 5, descriptorIndex := 6, attributes := #[] }] 33 0 #[] #[])
  fields := #[]
  methods := #[k0m0]
  instanceTypes := #[]
  staticTypes := #[]
  resolved := Array.replicate 124 none
  statics := none }

def pool1 : Array CpInfo := pool [(2, .class_ 4), (1, u "java/lang/Object"), (0, u "<init>"), (0, u "()V"), (0, .integer 65535), (0, .long 576460745995190270), (1, .methodref 11 12), (0, .class_ 13), (0, .nameAndType 14 15), (0, u "com/example/marching_schema/marchingschema/Lexicon"), (0, u "isWordStart"), (0, u "(C)Z"), (0, .class_ 17), (0, u "com/example/marching_schema/marchingschema/LexiconIsWordStartPinLaw"), (2, u "law"), (0, u "(I)Z")] 3

def k1m0 : Method := { name := "<init>", desc := "()V", sig := { parameters := [], returnType := none }, accessFlags := 2, code := none }
def k1c1 : Code := { maxStack := 4, maxLocals := 6, code := code, exceptionTable := #[], attributes := #[] }
def k1m1 : Method := { name := "law", desc := "(I)Z", sig := { parameters := [.int], returnType := some .boolean }, accessFlags := 9, code := some k1c1 }
/-- com/example/marching_schema/marchingschema/LexiconIsWordStartPinLaw -/
def k1 : Class := { plain "com/example/marching_schema/marchingschema/LexiconIsWordStartPinLaw" (some 0) with
  accessFlags := 49
  interfaces := #[]
  cf := some (fileOf pool1 16 #[] #[{ accessFlags := 2, nameIndex := 5, descriptorIndex := 6, attributes := #[] }, { accessFlags := 9, nameIndex := 20, descriptorIndex := 21, attributes := #[] }] 49 2 #[] #[])
  fields := #[]
  methods := #[k1m0, k1m1]
  instanceTypes := #[]
  staticTypes := #[]
  resolved := Array.replicate 25 none
  statics := none }

def pool2 : Array CpInfo := pool [(1, .class_ 2), (0, u "java/lang/constant/Constable"), (0, .class_ 4), (0, u "java/lang/Object")] 6

/-- java/lang/constant/Constable -/
def k2 : Class := { plain "java/lang/constant/Constable" (some 0) with
  accessFlags := 1537
  interfaces := #[]
  cf := some (fileOf pool2 1 #[] #[] 1537 3 #[] #[])
  fields := #[]
  methods := #[]
  instanceTypes := #[]
  staticTypes := #[]
  resolved := Array.replicate 11 none
  statics := none }

def pool3 : Array CpInfo := pool [(1, .class_ 2), (0, u "java/lang/Comparable"), (0, .class_ 4), (0, u "java/lang/Object")] 7

/-- java/lang/Comparable -/
def k3 : Class := { plain "java/lang/Comparable" (some 0) with
  accessFlags := 1537
  interfaces := #[]
  cf := some (fileOf pool3 1 #[] #[] 1537 3 #[] #[])
  fields := #[]
  methods := #[]
  instanceTypes := #[]
  staticTypes := #[]
  resolved := Array.replicate 12 none
  statics := none }

def pool4 : Array CpInfo := pool [(1, .class_ 2), (0, u "java/io/Serializable"), (0, .class_ 4), (0, u "java/lang/Object")] 2

/-- java/io/Serializable -/
def k4 : Class := { plain "java/io/Serializable" (some 0) with
  accessFlags := 1537
  interfaces := #[]
  cf := some (fileOf pool4 1 #[] #[] 1537 3 #[] #[])
  fields := #[]
  methods := #[]
  instanceTypes := #[]
  staticTypes := #[]
  resolved := Array.replicate 7 none
  statics := none }

def pool5 : Array CpInfo := pool [(2, .class_ 4), (1, u "java/lang/Enum"), (0, u "name"), (0, u "Ljava/lang/String;"), (2, u "ordinal"), (0, u "I"), (1, .class_ 14), (1, u "java/lang/Object"), (4, u "hash"), (86, .class_ 108), (1, u "java/lang/Enum$EnumDesc"), (2, .class_ 112), (0, u "java/lang/constant/Constable"), (0, .class_ 114), (0, u "java/lang/Comparable"), (0, .class_ 116), (0, u "java/io/Serializable")] 87

/-- java/lang/Enum -/
def k5 : Class := { plain "java/lang/Enum" (some 0) with
  accessFlags := 1057
  interfaces := #[2, 3, 4]
  cf := some (fileOf pool5 2 #[.nestMembers #[106]] #[] 1057 12 #[111, 113, 115] #[{ accessFlags := 18, nameIndex := 5, descriptorIndex := 6, attributes := #[] }, { accessFlags := 18, nameIndex := 9, descriptorIndex := 10, attributes := #[] }, { accessFlags := 2, nameIndex := 19, descriptorIndex := 10, attributes := #[] }])
  fields := #[{ name := "name", type := (.object "java/lang/String"), accessFlags := 18, slot := 0, constantValue := 0 }, { name := "ordinal", type := .int, accessFlags := 18, slot := 1, constantValue := 0 }, { name := "hash", type := .int, accessFlags := 2, slot := 2, constantValue := 0 }]
  methods := #[]
  instanceTypes := #[(.object "java/lang/String"), .int, .int]
  staticTypes := #[]
  resolved := Array.replicate 204 none
  statics := none }

def pool6 : Array CpInfo := pool [(1, .class_ 2), (0, u "com/example/marching_schema/marchingschema/Lexicon"), (2, u "POSTGRESQL"), (0, u "Lcom/example/marching_schema/marchingschema/Lexicon;"), (2, u "MARIADB"), (2, u "$VALUES"), (0, u "[Lcom/example/marching_schema/marchingschema/Lexicon;"), (6, .class_ 22), (1, u "java/lang/Enum"), (38, u "(C)Z"), (10, u "isWordStart"), (19, .class_ 93), (0, u "com/example/marching_schema/marchingschema/Lexicon$1"), (2, .class_ 97), (0, u "com/example/marching_schema/marchingschema/Lexicon$2")] 42

def k6c0 : Code := { maxStack := 2, maxLocals := 1, code := prog_29_method_11_code, exceptionTable := #[], attributes := #[] }
def k6m0 : Method := { name := "isWordStart", desc := "(C)Z", sig := { parameters := [.char], returnType := some .boolean }, accessFlags := 8, code := some k6c0 }
/-- com/example/marching_schema/marchingschema/Lexicon -/
def k6 : Class := { plain "com/example/marching_schema/marchingschema/Lexicon" (some 5) with
  accessFlags := 17440
  interfaces := #[]
  cf := some (fileOf pool6 1 #[.nestMembers #[96, 92]] #[{ accessFlags := 8, nameIndex := 72, descriptorIndex := 61, attributes := #[] }] 17440 20 #[] #[{ accessFlags := 16409, nameIndex := 5, descriptorIndex := 6, attributes := #[] }, { accessFlags := 16409, nameIndex := 9, descriptorIndex := 6, attributes := #[] }, { accessFlags := 4122, nameIndex := 12, descriptorIndex := 13, attributes := #[] }])
  fields := #[{ name := "POSTGRESQL", type := (.object "com/example/marching_schema/marchingschema/Lexicon"), accessFlags := 16409, slot := 0, constantValue := 0 }, { name := "MARIADB", type := (.object "com/example/marching_schema/marchingschema/Lexicon"), accessFlags := 16409, slot := 1, constantValue := 0 }, { name := "$VALUES", type := (.array (.object "com/example/marching_schema/marchingschema/Lexicon")), accessFlags := 4122, slot := 2, constantValue := 0 }]
  methods := #[k6m0]
  instanceTypes := #[(.object "java/lang/String"), .int, .int]
  staticTypes := #[(.object "com/example/marching_schema/marchingschema/Lexicon"), (.object "com/example/marching_schema/marchingschema/Lexicon"), (.array (.object "com/example/marching_schema/marchingschema/Lexicon"))]
  resolved := Array.replicate 140 none
  statics := none }

def pool7 : Array CpInfo := pool [(1, u "java/lang/Cloneable"), (0, .class_ 1), (0, u "java/lang/Object"), (0, .class_ 3)] 3

/-- java/lang/Cloneable -/
def k7 : Class := { plain "java/lang/Cloneable" (some 0) with
  accessFlags := 1537
  interfaces := #[]
  cf := some (fileOf pool7 2 #[] #[] 1537 4 #[] #[])
  fields := #[]
  methods := #[]
  instanceTypes := #[]
  staticTypes := #[]
  resolved := Array.replicate 8 none
  statics := none }

/-- the primitive byte -/
def k8 : Class := { plain "byte" none with kind := .primitive 'B', accessFlags := 0x411 }
/-- [B -/
def k9 : Class := { plain "[B" (some 0) with kind := .array 8 .byte, interfaces := #[7, 4], accessFlags := 1041 }

/-- the primitive int -/
def k10 : Class := { plain "int" none with kind := .primitive 'I', accessFlags := 0x411 }
/-- [I -/
def k11 : Class := { plain "[I" (some 0) with kind := .array 10 .int, interfaces := #[7, 4], accessFlags := 1041 }

def heap : Heap := #[]
def classes : Array Class := #[k0, k1, k2, k3, k4, k5, k6, k7, k8, k9, k10, k11]
def interned : List (Array UInt16 × Addr) := []
def slotsUsed : Nat := 0
def theMethod : MethodId := ⟨1, 1⟩
def args0 : Array Value := #[.int 5]
def aboutOver (below : List Frame) : State where
  vm := { classes := classes, interned := interned.toArray }
  heap := heap
  slotsUsed := slotsUsed
  threads := #[{ frames := .invoking theMethod args0 :: below }]
def below0 : List Frame := [.native { method := ⟨0, 0⟩, args := #[] }]
def about1 : State := aboutOver below0
def p0 : Program := .bare "" "" ""
def e0 : Env := launch0.env 0 0 0
theorem w_frames : about1.frames = Frame.invoking theMethod args0 :: below0 := rfl
set_option maxRecDepth 65536 in
theorem w_args : argsFit about1.vm theMethod args0 = true := by decide +kernel
set_option maxRecDepth 65536 in
theorem w_heap : heapFits about1 = true := by decide +kernel
set_option maxRecDepth 65536 in
theorem w_runnable : about1.curStatus? = some .runnable := by decide +kernel
set_option maxRecDepth 65536 in
theorem w_alone : about1.alone = true := by decide +kernel
set_option maxRecDepth 65536 in
theorem w_named : about1.methodNamed? x = some theMethod := by decide +kernel
set_option maxRecDepth 65536 in
theorem w_hears : about1.hears theMethod below0 = true := by decide +kernel
set_option maxRecDepth 65536 in
theorem w_ripe : about1.ripe theMethod args0 below0 = true := by decide +kernel
theorem w_running : about1.status = .running := rfl
set_option maxRecDepth 65536 in
theorem w_room : about1.hasRoom e0.platform room_1 = true :=
  launch0.hasRoom_least _ room_1 (by decide +kernel) (by decide +kernel) (by decide +kernel) (by decide +kernel) (by decide +kernel) (by decide +kernel)
theorem allAtoms_all (ts : List Jvm.Cond) (a : Array Jvm.Value) (st : Jvm.State) : (allAtoms ts).before a st = ts.all (fun c => c.before a st) := by
  induction ts with
  | nil => rfl
  | cons c t ih =>
    show (Jvm.Cond.and c (allAtoms t)).before a st = _
    rw [Jvm.Cond.before_and, ih, List.all_cons]
def words1 : List Jvm.Cond := Jvm.Cond.code x code maxLocals ret :: tables_1
/-- a 'code' word, met by the world's own term for the bytes: nothing is compared byte by byte -/
theorem code_word {y : MethodName} {bytes : ByteArray} {mx : Nat} {rt : Option FieldType} {a : Array Value} {s : State} {m : MethodId} {meth : Method} {c : Code} (h1 : s.methodNamed? y = some m) (h2 : s.vm.method? m = some meth) (h3 : meth.code = some c) (h4 : c.code = bytes)
    (h5 : (c.maxLocals == mx && c.exceptionTable.isEmpty && decide (c.maxStack ≤ mostOperands) && decide (meth.sig.returnType = rt) && !meth.locks && decide (parseMethodDescriptor y.desc = some meth.sig)) = true) : (Jvm.Cond.code y bytes mx rt).before a s = true := by
  simp only [Bool.and_eq_true, beq_iff_eq, Bool.not_eq_true', decide_eq_true_eq] at h5
  obtain ⟨⟨⟨⟨⟨g1, g2⟩, g3⟩, g4⟩, g5⟩, g6⟩ := h5
  simp [Cond.before, Cond.holds, Cond.value, h1, h2, h3, h4, g1, g2, g3, g4, g5, g6]
def isCode : Jvm.Cond → Bool
  | .code _ _ _ _ => true
  | _ => false
theorem all_split {L : List Jvm.Cond} {P : Jvm.Cond → Bool} (h1 : L.all (fun c => isCode c || P c) = true) (h2 : ∀ c ∈ L.filter isCode, P c = true) : L.all P = true := by
  refine List.all_eq_true.mpr fun c hc => ?_
  have h := List.all_eq_true.mp h1 c hc
  rcases Bool.eq_false_or_eq_true (isCode c) with hi | hi
  · exact h2 c (List.mem_filter.mpr ⟨hc, hi⟩)
  · simpa [hi] using h
set_option maxRecDepth 65536 in
theorem w_c0 : (Jvm.Cond.code x code maxLocals ret).before args0 about1 = true := code_word (m := ⟨1, 1⟩) (meth := k1m1) (c := k1c1) (by decide +kernel) rfl rfl rfl (by decide +kernel)
set_option maxRecDepth 65536 in
theorem w_c1 : (Jvm.Cond.code ({ cls := "com/example/marching_schema/marchingschema/Lexicon", name := "isWordStart", desc := "(C)Z" } : Jvm.MethodName) prog_29_method_11_code (1 : Nat) (Option.some Jvm.ClassFile.FieldType.boolean)).before args0 about1 = true := code_word (m := ⟨6, 0⟩) (meth := k6m0) (c := k6c0) (by decide +kernel) rfl rfl rfl (by decide +kernel)
def codes1 : List Jvm.Cond := [Jvm.Cond.code x code maxLocals ret, Jvm.Cond.code ({ cls := "com/example/marching_schema/marchingschema/Lexicon", name := "isWordStart", desc := "(C)Z" } : Jvm.MethodName) prog_29_method_11_code (1 : Nat) (Option.some Jvm.ClassFile.FieldType.boolean)]
set_option maxRecDepth 65536 in
theorem codes_eq : words1.filter isCode = codes1 := rfl
theorem w_codes : ∀ c ∈ words1.filter isCode, c.before args0 about1 = true := by
  rw [codes_eq]
  intro c hc
  simp only [codes1, List.mem_cons, List.not_mem_nil, or_false] at hc
  rcases hc with rfl | rfl
  · exact w_c0
  · exact w_c1
set_option maxRecDepth 65536 in
theorem w_t1 : words1.all (fun c => isCode c || c.before args0 about1) = true := by decide +kernel
theorem w_tables : (allAtoms (Jvm.Cond.code x code maxLocals ret :: tables_1)).before args0 about1 = true := by
  rw [allAtoms_all]
  show words1.all (fun c => c.before args0 about1) = true
  refine all_split ?_ w_codes
  rw [w_t1]
set_option maxRecDepth 65536 in
theorem w_case : (Jvm.Cond.and given_1 narrow_1).before args0 about1 = true := by decide +kernel
theorem w_applies : (headSpec (Jvm.Cond.code x code maxLocals ret :: tables_1) room_1).applies x e0.platform about1 = true :=
  (Spec.applies_iff w_frames).mpr ⟨w_running, w_runnable, w_alone, w_named, w_hears, w_ripe, w_room, w_tables⟩
theorem atStart : AtStart classFile x code maxLocals ret World_1 tables_1 room_1 Calls_1 rest_1 Pre_1 launch0 p0 e0 about1 theMethod args0 below0 :=
  ⟨lists_1, trivial, launch0.admits_env _ _ _, launch0.least_env, fairChoices_fair.cas, fairChoices_fair.clock, w_frames, w_args, w_heap, w_applies, trivial, trivial, w_case⟩
end start1
theorem witness_1 : WitnessClaimed_1 := ⟨start1.p0, start1.e0, start1.about1, start1.theMethod, start1.args0, start1.below0, start1.atStart⟩
end Jvm.Pilot.@@N@@
