import JvmDerived
import JvmDerived.Pilot.@@N@@Statement
import JvmDerived.Pilot.@@N@@Code
set_option linter.unusedVariables false
set_option linter.unusedSimpArgs false
namespace Jvm.Pilot.@@N@@
open Jvm Jvm.ClassFile Sem Op Lib Jvm.Free Jvm.Stand Jvm.LawKit Jvm.RoadKit Bundle Jvm.Pilot.@@N@@.Jvm.D
section OwnKit
variable {p : Program} {l : Launch} {e : Env} {R : Room} {s : State} {m : MethodId} {args : Array Value} {below : List Frame} {meth : Method} {c : Code} {T T' : State} {locs : List Loc} {cells slots : Nat}
/-- from the frame f in the state T the run comes to the method's end, and G holds there -/
def own_Goes (p : Program) (e : Env) (below : List Frame) (G : Outcome → State → Prop) (T : State) (f : JFrame) : Prop :=
  ∃ s₂ o, Steps p.tables e below (T.setTop f) s₂ ∧ s₂.status = .running ∧ Ended s₂ below o ∧ G o s₂
theorem own_of {G : Outcome → State → Prop} {f f' : JFrame} (st : ∀ t, Steps p.tables e below (T'.setTop f') t → Steps p.tables e below (T.setTop f) t) (h : own_Goes p e below G T' f') : own_Goes p e below G T f := by
  obtain ⟨s₂, o, h1, h2⟩ := h
  exact ⟨s₂, o, st _ h1, h2⟩
theorem own_start {G : Outcome → State → Prop} {f f' : JFrame} (q : f = f') (h : own_Goes p e below G T f') : ∃ s₂ o, Steps p.tables e below (T.setTop f) s₂ ∧ s₂.status = .running ∧ Ended s₂ below o ∧ G o s₂ := q ▸ h
theorem own_retI (X : Stand p l e R s m args below meth c T locs cells slots) (hx : p.tables.exec = Jvm.exec) {pc : Nat} {Ls : Array Slot} {z : Int32} {rest : List Value} (hret : meth.sig.returnType = some .int) (hd : decode c.code pc = .ok (.ireturn, 1)) {fs : List Frame}
    (hl : ∀ (f : JFrame) (acts : List Action), f.method = m → f.locked = none → f.entered = [] → (doReturn e (T.setTop f) acts (some (.int z))).1 = T.setFrames fs) : Steps p.tables e below (T.setTop (mkF m pc Ls (.int z :: rest))) (T.setFrames fs) :=
  retOut X hx hret rfl (Or.inl ⟨rfl, Or.inl rfl, _, rfl⟩) hd hl
theorem own_retJ (X : Stand p l e R s m args below meth c T locs cells slots) (hx : p.tables.exec = Jvm.exec) {pc : Nat} {Ls : Array Slot} {z : Int64} {rest : List Value} (hret : meth.sig.returnType = some .long) (hd : decode c.code pc = .ok (.lreturn, 1)) {fs : List Frame}
    (hl : ∀ (f : JFrame) (acts : List Action), f.method = m → f.locked = none → f.entered = [] → (doReturn e (T.setTop f) acts (some (.long z))).1 = T.setFrames fs) : Steps p.tables e below (T.setTop (mkF m pc Ls (.long z :: rest))) (T.setFrames fs) :=
  retOut X hx hret rfl (Or.inr (Or.inl ⟨rfl, rfl, _, rfl⟩)) hd hl
theorem own_retD (X : Stand p l e R s m args below meth c T locs cells slots) (hx : p.tables.exec = Jvm.exec) {pc : Nat} {Ls : Array Slot} {z : UInt64} {rest : List Value} (hret : meth.sig.returnType = some .double) (hd : decode c.code pc = .ok (.dreturn, 1)) {fs : List Frame}
    (hl : ∀ (f : JFrame) (acts : List Action), f.method = m → f.locked = none → f.entered = [] → (doReturn e (T.setTop f) acts (some (.double z))).1 = T.setFrames fs) : Steps p.tables e below (T.setTop (mkF m pc Ls (.double z :: rest))) (T.setFrames fs) :=
  retOut X hx hret rfl (Or.inr (Or.inr (Or.inl ⟨rfl, rfl, _, rfl⟩))) hd hl
theorem own_retA (X : Stand p l e R s m args below meth c T locs cells slots) (hx : p.tables.exec = Jvm.exec) {pc : Nat} {Ls : Array Slot} {z : Value} {rest : List Value} {t : FieldType} (hret : meth.sig.returnType = some t) (ht : t.isReference = true) (hn : narrow t z = z) (hz : z.isRef = true) (hd : decode c.code pc = .ok (.areturn, 1)) {fs : List Frame}
    (hl : ∀ (f : JFrame) (acts : List Action), f.method = m → f.locked = none → f.entered = [] → (doReturn e (T.setTop f) acts (some z)).1 = T.setFrames fs) : Steps p.tables e below (T.setTop (mkF m pc Ls (z :: rest))) (T.setFrames fs) :=
  retOut X hx hret hn (Or.inr (Or.inr (Or.inr (Or.inr ⟨rfl, ht, hz⟩)))) hd hl
theorem own_stakeep {Z : State} {h h' : Heap} {C n d : String} {v : Value} {ws : List Addr} (F : Sta Z h C n d v) (K : Keep h h' ws) (q : ∀ x ∈ ws, ∀ cell : Cell, h[x]? = some cell → cell.vm.isStatics = false) : Sta Z h' C n d v := by
  obtain ⟨cf, i, k, f, st, cell, h1, h2, h3, h4, h5, h6, h7⟩ := F
  exact ⟨cf, i, k, f, st, cell, h1, h2, h3, h4, K.2.1 st cell h5 (fun z => by rw [q st z cell h5] at h6; cases h6), h6, h7⟩
theorem own_plainE {Z : State} {h : Heap} {a : Addr} {C : String} (F : Exa Z h a C) : ∀ cell : Cell, h[a]? = some cell → cell.vm.isStatics = false := fun cell hc => by
  obtain ⟨c', k, h1, -, -, h4, -⟩ := F
  cases h1.symm.trans hc
  exact h4
theorem own_noI {Z : State} {a0 : Array Value} {C K O : String} {n : Nat} (w : (Jvm.Cond.superclass C O).before a0 Z = true) (wo : (Jvm.Cond.noSuperclass O).before a0 Z = true) (wi : (Jvm.Cond.instantiable K n).before a0 Z = true) (hn : C ≠ K) (ho : O ≠ K) : ∃ c t, Z.vm.findClass C = some c ∧ Z.vm.findClass K = some t ∧ Z.vm.assignable c t = false := by
  obtain ⟨t, kt, g0, g2, g5, g7, -, -⟩ := Cond.instantiable_spec wi
  simp only [Bool.or_eq_false_iff] at g7
  obtain ⟨oc, ok, o1, o2, o3, -, -⟩ := Cond.noSuperclass_spec wo
  obtain ⟨c, h0⟩ := found_sup w
  obtain ⟨p, k, kp, h1, h2, h3, h4, h5, -, h7⟩ := Cond.superclass_spec h0 w
  cases o1.symm.trans h1
  have ne := ids_ne h0 g0 hn
  have neo := ids_ne o1 g0 ho
  have n3 : ∀ fuel, Z.vm.isSubclassAux fuel c t = false := fun fuel => by
    cases fuel with
    | zero => rfl
    | succ f =>
      have n4 : Z.vm.isSubclassAux f oc t = false := by
        cases f with
        | zero => rfl
        | succ f => simp [Vm.isSubclassAux, neo, o2, o3]
      simp [Vm.isSubclassAux, ne, h2, h4, n4]
  refine ⟨c, t, h0, g0, ?_⟩
  show Z.vm.assignableAux (255 + 1) c t = false
  simp [Vm.assignableAux, ne, h2, g2, h5, g5, g7, Vm.isSubclass, n3]
theorem own_ask {Z : State} {a0 : Array Value} {h : Heap} {a : Addr} {C K : String} (E : Exa Z h a C) (w : (Jvm.Cond.castable K K).before a0 Z = true) : Ins Z h a K true ∨ ∃ c t, Z.vm.findClass C = some c ∧ Z.vm.findClass K = some t ∧ Z.vm.assignable c t = false := by
  obtain ⟨cell, k, h1, h2, h3, h4, -⟩ := E
  cases ht : Z.vm.findClass K with
  | none => simp [Cond.before, Cond.holds, Cond.value, ht] at w
  | some t =>
    cases ha : Z.vm.assignable cell.cls t with
    | true => exact Or.inl ⟨cell, t, h1, ht, by rw [h4, ha]; rfl⟩
    | false => exact Or.inr ⟨cell.cls, t, h2, rfl, ha⟩
theorem own_dupX2 {tb : Tables} [Ours tb] {e : Env} {below : List Frame} {T target : State} {m : MethodId} {c : Code} {g : JFrame} (h : At T m c below) (hx : tb.exec = Jvm.exec) (hg : g.method = m) {x y z : Value} {rest : List Value} (hd : decode c.code g.pc = .ok (.dup_x2, 1)) (hs : g.stack = x :: y :: z :: rest) (hc : x.category = 1) (hc' : y.category = 1) (hc'' : z.category = 1)
    (hr : Steps tb e below (T.setTop { g with pc := g.pc + 1, stack := x :: y :: z :: x :: rest }) target) : Steps tb e below (T.setTop g) target := by
  subst hg
  jvm_step h [h.top, hx, hd, hs, hc, hc', hc'']
  exact hr
theorem own_dz : FP.dconst0 = FP.l2d 0 := by decide +kernel
theorem own_cat1 {x : Value} (h : x.isRef = true) : x.category = 1 := by cases x <;> first | rfl | cases h
theorem own_astoreN {tb : Tables} [Ours tb] {e : Env} {below : List Frame} {T target : State} {m : MethodId} {c : Code} {g : JFrame} (h : At T m c below) (hx : tb.exec = Jvm.exec) (hg : g.method = m) {k : Fin 4} {x : Value} {rest : List Value} {o : Slot} {l' : Array Slot} (hd : decode c.code g.pc = .ok (.astore_n k, 1)) (hs : g.stack = x :: rest) (hv : x.isRef = true) (hold : g.locals[k.val]? = some o) (ho : One o) (hl : g.locals.setIfInBounds k.val (.val x) = l')
    (hr : Steps tb e below (T.setTop { g with pc := g.pc + 1, stack := rest, locals := l' }) target) : Steps tb e below (T.setTop g) target := XS.astoreN h hx hg hd hs hv (l' := l') (by rw [← hl]; exact XS.store1 hold ho (own_cat1 hv)) hr
theorem own_astore {tb : Tables} [Ours tb] {e : Env} {below : List Frame} {T target : State} {m : MethodId} {c : Code} {g : JFrame} (h : At T m c below) (hx : tb.exec = Jvm.exec) (hg : g.method = m) {k : Nat} {x : Value} {rest : List Value} {o : Slot} {l' : Array Slot} (hd : decode c.code g.pc = .ok (.astore k, 2)) (hs : g.stack = x :: rest) (hv : x.isRef = true) (hold : g.locals[k]? = some o) (ho : One o) (hl : g.locals.setIfInBounds k (.val x) = l')
    (hr : Steps tb e below (T.setTop { g with pc := g.pc + 2, stack := rest, locals := l' }) target) : Steps tb e below (T.setTop g) target := XS.astore h hx hg hd hs hv (l' := l') (by rw [← hl]; exact XS.store1 hold ho (own_cat1 hv)) hr
end OwnKit
def own_us (k : Int32) (x : Int64) : Int64 := ((x.toUInt64 >>> (k &&& 0x3f).toInt64.toUInt64).toInt64)
def own_nw (m i : Int64) : Int64 := i * ((2 : Int64) - (m * i))
def own_inv (m : Int64) : Int64 := own_nw m (own_nw m (own_nw m (own_nw m (own_nw m m))))
def own_x (k : Int32) (x : Int64) : Int64 := x ^^^ own_us k x
def own_y (k k2 : Int32) (x : Int64) : Int64 := (x ^^^ own_us k x) ^^^ own_us k2 x
def own_mix (z : Int64) : Int64 := own_x 31 (own_x 27 (own_x 30 z * (-4658895280553007687 : Int64)) * (-7723592293110705685 : Int64))
def own_un (z : Int64) : Int64 := own_y 30 60 (own_y 27 54 (own_y 31 62 z * own_inv (-7723592293110705685 : Int64)) * own_inv (-4658895280553007687 : Int64))
theorem own_bv (k : Int32) (n : Nat) (x : Int64) (hk : (k &&& 0x3f).toInt64.toUInt64.toBitVec % 64 = BitVec.ofNat 64 n) (hn : n < 64) : (own_us k x).toBitVec = x.toBitVec >>> n := by
  show (x.toUInt64 >>> (k &&& 0x3f).toInt64.toUInt64).toBitVec = _
  rw [UInt64.toBitVec_shiftRight, hk]
  show x.toBitVec >>> (BitVec.ofNat 64 n) = _
  rw [BitVec.ushiftRight_eq']
  congr 1
  simp
  omega
theorem own_xor (b : BitVec 64) (n : Nat) (h : 64 ≤ 3 * n) : (((b ^^^ (b >>> n)) ^^^ ((b ^^^ (b >>> n)) >>> n)) ^^^ ((b ^^^ (b >>> n)) >>> (2 * n))) = b := by
  apply BitVec.eq_of_getLsbD_eq
  intro i hi
  have h0 : b.getLsbD (i + n + 2 * n) = false := BitVec.getLsbD_of_ge _ _ (by omega)
  have e1 : n + (n + i) = 2 * n + i := by omega
  have e2 : n + (2 * n + i) = i + n + 2 * n := by omega
  simp only [BitVec.getLsbD_xor, BitVec.getLsbD_ushiftRight, e1, e2, h0]
  cases b.getLsbD i <;> cases b.getLsbD (n + i) <;> cases b.getLsbD (2 * n + i) <;> rfl
theorem own_unx (k k2 : Int32) (n : Nat) (x : Int64) (h : 64 ≤ 3 * n) (h2 : 2 * n < 64) (e1 : (k &&& 0x3f).toInt64.toUInt64.toBitVec % 64 = BitVec.ofNat 64 n) (e2 : (k2 &&& 0x3f).toInt64.toUInt64.toBitVec % 64 = BitVec.ofNat 64 (2 * n)) : own_y k k2 (own_x k x) = x := by
  apply Int64.toBitVec_inj.mp
  show ((x.toBitVec ^^^ (own_us k x).toBitVec) ^^^ (own_us k (own_x k x)).toBitVec) ^^^ (own_us k2 (own_x k x)).toBitVec = _
  rw [own_bv k n _ e1 (by omega), own_bv k n _ e1 (by omega), own_bv k2 (2 * n) _ e2 h2]
  show (x.toBitVec ^^^ _) ^^^ ((x.toBitVec ^^^ (own_us k x).toBitVec) >>> n) ^^^ ((x.toBitVec ^^^ (own_us k x).toBitVec) >>> (2 * n)) = _
  rw [own_bv k n _ e1 (by omega)]
  exact own_xor _ n h
theorem own_c1 : (-4658895280553007687 : Int64) * own_inv (-4658895280553007687 : Int64) = 1 := by decide +kernel
theorem own_c2 : (-7723592293110705685 : Int64) * own_inv (-7723592293110705685 : Int64) = 1 := by decide +kernel
theorem own_back (z : Int64) : own_un (own_mix z) = z := by
  unfold own_un own_mix
  rw [own_unx 31 62 31 _ (by decide) (by decide) (by decide) (by decide), Int64.mul_assoc, own_c2, Int64.mul_one, own_unx 27 54 27 _ (by decide) (by decide) (by decide) (by decide), Int64.mul_assoc, own_c1, Int64.mul_one, own_unx 30 60 30 _ (by decide) (by decide) (by decide) (by decide)]

theorem own_pn_0 : plainName "com/example/orunmila/orunmila/simulate/SplitMix64" = true := by first | (simp [plainName, overriddenIn]; done) | decide +kernel
theorem own_ef_init (m : MethodId) (a1 : Addr) (q2 : Int64) : entryFrame m #[(.ref a1), (.long q2)] 3 = mkF m 0 #[.val (.ref a1), .val (.long q2), .second] [] := by first | (simp [entryFrame, mkF, argsToLocals, Value.category]; done) | rfl
def own_Q_init (Z : State) (a1 : Addr) (q2 : Int64)  (h0 : Heap) (n0 : Nat) (v : Option Value) (h : Heap) (L : List Loc) : Prop := v = none ∧ Fr n0 L ∧ Keep h0 h [a1] ∧ Exa Z h a1 "com/example/orunmila/orunmila/simulate/SplitMix64" ∧ Fld Z h a1 "com/example/orunmila/orunmila/simulate/SplitMix64" "m_nState" "J" (.long q2)
theorem own_d_prog_72_method_1_code_0 : decode prog_72_method_1_code 0 = .ok (.aload_n 0, 1) := by decide +kernel
theorem own_d_prog_72_method_1_code_1 : decode prog_72_method_1_code 1 = .ok (.invokespecial 1, 3) := by decide +kernel
theorem own_d_prog_72_method_1_code_4 : decode prog_72_method_1_code 4 = .ok (.aload_n 0, 1) := by decide +kernel
theorem own_d_prog_72_method_1_code_5 : decode prog_72_method_1_code 5 = .ok (.lload_n 1, 1) := by decide +kernel
theorem own_d_prog_72_method_1_code_6 : decode prog_72_method_1_code 6 = .ok (.putfield 7, 3) := by decide +kernel
theorem own_d_prog_72_method_1_code_9 : decode prog_72_method_1_code 9 = .ok (.return_, 1) := by decide +kernel
set_option maxRecDepth 65536 in
set_option maxHeartbeats 40000000 in
theorem own_rm_init (l : Launch) (Z : State) (a0 : Array Value) (hw : ∀ d ∈ tables_1, d.before a0 Z = true) (ws : List Jvm.Cond) (a1 : Addr) (q2 : Int64)  (h0 : Heap) (n0 : Nat) (Z0 : n0 ≤ h0.size) (F1 : Fld Z h0 a1 "com/example/orunmila/orunmila/simulate/SplitMix64" "m_nState" "J" (.long (0 : Int64))) (E1 : Exa Z h0 a1 "com/example/orunmila/orunmila/simulate/SplitMix64") (g_a1 : n0 ≤ a1) :
    MetFree l (⟨"com/example/orunmila/orunmila/simulate/SplitMix64", "<init>", "(J)V"⟩ : MethodName) (head1 (Jvm.Cond.code (⟨"com/example/orunmila/orunmila/simulate/SplitMix64", "<init>", "(J)V"⟩ : MethodName) prog_72_method_1_code 3 none :: ws) ({ frames := 1, cells := 0, slots := 0, locals := 12 } : Room)) (fun a U => a = #[(.ref a1), (.long q2)] ∧ Z.Warmed39 U.vm ∧ U.heap = h0) (fun _ _ _ _ _ => True) (fun _ U o U' => ∃ v L, o = .returned v ∧ own_Q_init Z a1 q2  h0 n0 v U'.heap L ∧ FrameEnd U o U' L ({ frames := 1, cells := 0, slots := 0, locals := 12 } : Room).cells ({ frames := 1, cells := 0, slots := 0, locals := 12 } : Room).slots) := by
  refine MetFree.of_bodySF (plainFor_of_name own_pn_0) hisR ?_
  intro p e s m args below meth c s₁ Bd hml0 hP hK
  obtain ⟨rfl, hZ, hh⟩ := hP
  have hx := Bd.exec
  have hby := Bd.bytes
  have hml : c.maxLocals = 3 := hml0
  have hown : s.vm.findClass "com/example/orunmila/orunmila/simulate/SplitMix64" = some m.cls := findClass_of_methodNamed Bd.named
  have hnm := (name_of_methodNamed Bd.named Bd.method).1
  have X0 : Stand p l e ({ frames := 1, cells := 0, slots := 0, locals := 12 } : Room) s m #[(.ref a1), (.long q2)] below meth c s₁ [] 0 0 := Stand.of_body Bd
  have e0 : s₁.heap = h0 := by rw [← hh, Bd.state]; rfl
  have N0 := Fr.nil n0
  refine own_start (own_ef_init m a1 q2) ?_
  have K0 : Keep h0 h0 [a1] := Keep.refl _ _
  obtain ⟨T1, X1, e1, st1⟩ := initO X0 hx hZ hown (hw _ (List.mem_of_getElem? (i := 6) rfl)) (hw _ (List.mem_of_getElem? (i := 7) rfl)) (hw _ (List.mem_of_getElem? (i := 8) rfl)) e0 (g := (mkF m 1 #[.val (.ref a1), .val (.long q2), .second] [(.ref a1)])) rfl (by rw [hml]; rfl) rfl (hb hby own_d_prog_72_method_1_code_1) (by decide) (W := 0) (by show 2 * 0 + _ ≤ _; exact Nat.le_of_eq rfl) (by decide)
  obtain ⟨T2, h2, X2, e2, W2, st2⟩ := putF X1 hx hZ hown (host := "") (Or.inl (hw _ (List.mem_of_getElem? (i := 9) rfl))) Via.refl e1 F1 E1 (Or.inl (hw _ (List.mem_of_getElem? (i := 10) rfl))) (hw _ (List.mem_of_getElem? (i := 1) rfl)) (ty := .long) (by decide) rfl rfl (g := (mkF m 6 #[.val (.ref a1), .val (.long q2), .second] [(.long q2), (.ref a1)])) rfl rfl (hb hby own_d_prog_72_method_1_code_6)
  refine own_of (T' := T2) (f' := (mkF m 9 #[.val (.ref a1), .val (.long q2), .second] [])) (fun t_ k_ => (XS.aloadN X0.here hx rfl (hb hby own_d_prog_72_method_1_code_0) rfl rfl (st1 _ (XS.aloadN X1.here hx rfl (hb hby own_d_prog_72_method_1_code_4) rfl rfl (XS.lloadN X1.here hx rfl (hb hby own_d_prog_72_method_1_code_5) rfl (st2 _ k_)))))) ?_
  have N2 := Fr.snoc X2 N0 g_a1
  have f3 := K0.wr W2 (Or.inl (List.mem_of_getElem? (i := 0) rfl))
  have f4 := E1.wr W2
  have f5 := F1.same W2
  obtain ⟨fs, hr, hrun, hended, hW, hsame⟩ := X2.leave (v := none) (fun _ => rfl)
  exact ⟨_, _, X2.returnOut hx Bd.returns (hb hby own_d_prog_72_method_1_code_9) hr, hrun, hended, _, _, rfl, (by show own_Q_init Z a1 q2  h0 n0 _ T2.heap _; rw [e2]; exact ⟨rfl, N2, f3, f4, f5⟩), ⟨_, rfl⟩, hW, hsame.mono (by decide) (by decide)⟩
theorem own_ef_next (m : MethodId) (a1 : Addr) : entryFrame m #[(.ref a1)] 3 = mkF m 0 #[.val (.ref a1), .unset, .unset] [] := by first | (simp [entryFrame, mkF, argsToLocals, Value.category]; done) | rfl
def own_Q_next (Z : State) (a1 : Addr) (q2 : Int64) (h0 : Heap) (n0 : Nat) (v : Option Value) (h : Heap) (L : List Loc) : Prop := v = some (.long (own_mix (q2 + (-7046029254386353131 : Int64)))) ∧ Fr n0 L ∧ Keep h0 h [a1] ∧ Exa Z h a1 "com/example/orunmila/orunmila/simulate/SplitMix64" ∧ Fld Z h a1 "com/example/orunmila/orunmila/simulate/SplitMix64" "m_nState" "J" (.long (q2 + (-7046029254386353131 : Int64)))
theorem own_d_prog_72_method_2_code_0 : decode prog_72_method_2_code 0 = .ok (.aload_n 0, 1) := by decide +kernel
theorem own_d_prog_72_method_2_code_1 : decode prog_72_method_2_code 1 = .ok (.dup, 1) := by decide +kernel
theorem own_d_prog_72_method_2_code_2 : decode prog_72_method_2_code 2 = .ok (.getfield 7, 3) := by decide +kernel
theorem own_d_prog_72_method_2_code_5 : decode prog_72_method_2_code 5 = .ok (.ldc2_w 13, 3) := by decide +kernel
theorem own_d_prog_72_method_2_code_8 : decode prog_72_method_2_code 8 = .ok (.ladd, 1) := by decide +kernel
theorem own_d_prog_72_method_2_code_9 : decode prog_72_method_2_code 9 = .ok (.putfield 7, 3) := by decide +kernel
theorem own_d_prog_72_method_2_code_12 : decode prog_72_method_2_code 12 = .ok (.aload_n 0, 1) := by decide +kernel
theorem own_d_prog_72_method_2_code_13 : decode prog_72_method_2_code 13 = .ok (.getfield 7, 3) := by decide +kernel
theorem own_d_prog_72_method_2_code_16 : decode prog_72_method_2_code 16 = .ok (.lstore_n 1, 1) := by decide +kernel
theorem own_d_prog_72_method_2_code_17 : decode prog_72_method_2_code 17 = .ok (.lload_n 1, 1) := by decide +kernel
theorem own_d_prog_72_method_2_code_18 : decode prog_72_method_2_code 18 = .ok (.lload_n 1, 1) := by decide +kernel
theorem own_d_prog_72_method_2_code_19 : decode prog_72_method_2_code 19 = .ok (.bipush 30, 2) := by decide +kernel
theorem own_d_prog_72_method_2_code_21 : decode prog_72_method_2_code 21 = .ok (.lushr, 1) := by decide +kernel
theorem own_d_prog_72_method_2_code_22 : decode prog_72_method_2_code 22 = .ok (.lxor, 1) := by decide +kernel
theorem own_d_prog_72_method_2_code_23 : decode prog_72_method_2_code 23 = .ok (.ldc2_w 15, 3) := by decide +kernel
theorem own_d_prog_72_method_2_code_26 : decode prog_72_method_2_code 26 = .ok (.lmul, 1) := by decide +kernel
theorem own_d_prog_72_method_2_code_27 : decode prog_72_method_2_code 27 = .ok (.lstore_n 1, 1) := by decide +kernel
theorem own_d_prog_72_method_2_code_28 : decode prog_72_method_2_code 28 = .ok (.lload_n 1, 1) := by decide +kernel
theorem own_d_prog_72_method_2_code_29 : decode prog_72_method_2_code 29 = .ok (.lload_n 1, 1) := by decide +kernel
theorem own_d_prog_72_method_2_code_30 : decode prog_72_method_2_code 30 = .ok (.bipush 27, 2) := by decide +kernel
theorem own_d_prog_72_method_2_code_32 : decode prog_72_method_2_code 32 = .ok (.lushr, 1) := by decide +kernel
theorem own_d_prog_72_method_2_code_33 : decode prog_72_method_2_code 33 = .ok (.lxor, 1) := by decide +kernel
theorem own_d_prog_72_method_2_code_34 : decode prog_72_method_2_code 34 = .ok (.ldc2_w 17, 3) := by decide +kernel
theorem own_d_prog_72_method_2_code_37 : decode prog_72_method_2_code 37 = .ok (.lmul, 1) := by decide +kernel
theorem own_d_prog_72_method_2_code_38 : decode prog_72_method_2_code 38 = .ok (.lstore_n 1, 1) := by decide +kernel
theorem own_d_prog_72_method_2_code_39 : decode prog_72_method_2_code 39 = .ok (.lload_n 1, 1) := by decide +kernel
theorem own_d_prog_72_method_2_code_40 : decode prog_72_method_2_code 40 = .ok (.lload_n 1, 1) := by decide +kernel
theorem own_d_prog_72_method_2_code_41 : decode prog_72_method_2_code 41 = .ok (.bipush 31, 2) := by decide +kernel
theorem own_d_prog_72_method_2_code_43 : decode prog_72_method_2_code 43 = .ok (.lushr, 1) := by decide +kernel
theorem own_d_prog_72_method_2_code_44 : decode prog_72_method_2_code 44 = .ok (.lxor, 1) := by decide +kernel
theorem own_d_prog_72_method_2_code_45 : decode prog_72_method_2_code 45 = .ok (.lreturn, 1) := by decide +kernel
set_option maxRecDepth 65536 in
set_option maxHeartbeats 40000000 in
theorem own_rm_next (l : Launch) (Z : State) (a0 : Array Value) (hw : ∀ d ∈ tables_1, d.before a0 Z = true) (ws : List Jvm.Cond) (a1 : Addr) (q2 : Int64) (h0 : Heap) (n0 : Nat) (Z0 : n0 ≤ h0.size) (F1 : Fld Z h0 a1 "com/example/orunmila/orunmila/simulate/SplitMix64" "m_nState" "J" (.long q2)) (E1 : Exa Z h0 a1 "com/example/orunmila/orunmila/simulate/SplitMix64") (g_a1 : n0 ≤ a1) :
    MetFree l (⟨"com/example/orunmila/orunmila/simulate/SplitMix64", "nextLong", "()J"⟩ : MethodName) (head1 (Jvm.Cond.code (⟨"com/example/orunmila/orunmila/simulate/SplitMix64", "nextLong", "()J"⟩ : MethodName) prog_72_method_2_code 3 (some .long) :: ws) ({ frames := 0, cells := 0, slots := 0, locals := 0 } : Room)) (fun a U => a = #[(.ref a1)] ∧ Z.Warmed39 U.vm ∧ U.heap = h0) (fun _ _ _ _ _ => True) (fun _ U o U' => ∃ v L, o = .returned v ∧ own_Q_next Z a1 q2 h0 n0 v U'.heap L ∧ FrameEnd U o U' L ({ frames := 0, cells := 0, slots := 0, locals := 0 } : Room).cells ({ frames := 0, cells := 0, slots := 0, locals := 0 } : Room).slots) := by
  refine MetFree.of_bodySF (plainFor_of_name own_pn_0) hisR ?_
  intro p e s m args below meth c s₁ Bd hml0 hP hK
  obtain ⟨rfl, hZ, hh⟩ := hP
  have hx := Bd.exec
  have hby := Bd.bytes
  have hml : c.maxLocals = 3 := hml0
  have hown : s.vm.findClass "com/example/orunmila/orunmila/simulate/SplitMix64" = some m.cls := findClass_of_methodNamed Bd.named
  have hnm := (name_of_methodNamed Bd.named Bd.method).1
  have X0 : Stand p l e ({ frames := 0, cells := 0, slots := 0, locals := 0 } : Room) s m #[(.ref a1)] below meth c s₁ [] 0 0 := Stand.of_body Bd
  have e0 : s₁.heap = h0 := by rw [← hh, Bd.state]; rfl
  have N0 := Fr.nil n0
  refine own_start (own_ef_next m a1) ?_
  have K0 : Keep h0 h0 [a1] := Keep.refl _ _
  obtain ⟨T1, X1, e1, st1⟩ := getF X0 hx hZ hown (host := "") (Or.inl (hw _ (List.mem_of_getElem? (i := 9) rfl))) Via.refl e0 F1 (g := (mkF m 2 #[.val (.ref a1), .unset, .unset] [(.ref a1), (.ref a1)])) rfl rfl (hb hby own_d_prog_72_method_2_code_2)
  obtain ⟨T2, h2, X2, e2, W2, st2⟩ := putF X1 hx hZ hown (host := "") (Or.inl (hw _ (List.mem_of_getElem? (i := 9) rfl))) Via.refl e1 F1 E1 (Or.inl (hw _ (List.mem_of_getElem? (i := 10) rfl))) (hw _ (List.mem_of_getElem? (i := 1) rfl)) (ty := .long) (by decide) rfl rfl (g := (mkF m 9 #[.val (.ref a1), .unset, .unset] [(.long (q2 + (-7046029254386353131 : Int64))), (.ref a1)])) rfl rfl (hb hby own_d_prog_72_method_2_code_9)
  refine own_of (T' := T2) (f' := (mkF m 12 #[.val (.ref a1), .unset, .unset] [])) (fun t_ k_ => (XS.aloadN X0.here hx rfl (hb hby own_d_prog_72_method_2_code_0) rfl rfl (XS.dup X0.here hx rfl (hb hby own_d_prog_72_method_2_code_1) rfl rfl (st1 _ (Jvm.Stand.ldc2J X1 hx hown (mvT hZ (hw _ (List.mem_of_getElem? (i := 16) rfl))) rfl (hb hby own_d_prog_72_method_2_code_5) (XS.ladd X1.here hx rfl (hb hby own_d_prog_72_method_2_code_8) rfl (st2 _ k_))))))) ?_
  have N2 := Fr.snoc X2 N0 g_a1
  have f3 := K0.wr W2 (Or.inl (List.mem_of_getElem? (i := 0) rfl))
  have f4 := E1.wr W2
  have f5 := F1.same W2
  obtain ⟨T6, X6, e6, st6⟩ := getF X2 hx hZ hown (host := "") (Or.inl (hw _ (List.mem_of_getElem? (i := 9) rfl))) Via.refl e2 f5 (g := (mkF m 13 #[.val (.ref a1), .unset, .unset] [(.ref a1)])) rfl rfl (hb hby own_d_prog_72_method_2_code_13)
  refine own_of (T' := T6) (f' := (mkF m 23 #[.val (.ref a1), .val (.long (q2 + (-7046029254386353131 : Int64))), .second] [(.long ((q2 + (-7046029254386353131 : Int64)) ^^^ (((q2 + (-7046029254386353131 : Int64)).toUInt64 >>> ((30 : Int32) &&& 0x3f).toInt64.toUInt64).toInt64)))])) (fun t_ k_ => (XS.aloadN X2.here hx rfl (hb hby own_d_prog_72_method_2_code_12) rfl rfl (st6 _ (XS.lstoreN X6.here hx rfl (hb hby own_d_prog_72_method_2_code_16) rfl (l' := #[.val (.ref a1), .val (.long (q2 + (-7046029254386353131 : Int64))), .second]) rfl (XS.lloadN X6.here hx rfl (hb hby own_d_prog_72_method_2_code_17) rfl (XS.lloadN X6.here hx rfl (hb hby own_d_prog_72_method_2_code_18) rfl (XS.bipush X6.here hx rfl (hb hby own_d_prog_72_method_2_code_19) (XS.lushr X6.here hx rfl (hb hby own_d_prog_72_method_2_code_21) rfl (XS.lxor X6.here hx rfl (hb hby own_d_prog_72_method_2_code_22) rfl k_))))))))) ?_
  show own_Goes p e below _ T6 (mkF m 23 #[.val (.ref a1), .val (.long (q2 + (-7046029254386353131 : Int64))), .second] [(.long (own_x 30 (q2 + (-7046029254386353131 : Int64))))])
  refine own_of (T' := T6) (f' := (mkF m 34 #[.val (.ref a1), .val (.long ((own_x 30 (q2 + (-7046029254386353131 : Int64))) * (-4658895280553007687 : Int64))), .second] [(.long (((own_x 30 (q2 + (-7046029254386353131 : Int64))) * (-4658895280553007687 : Int64)) ^^^ ((((own_x 30 (q2 + (-7046029254386353131 : Int64))) * (-4658895280553007687 : Int64)).toUInt64 >>> ((27 : Int32) &&& 0x3f).toInt64.toUInt64).toInt64)))])) (fun t_ k_ => (Jvm.Stand.ldc2J X6 hx hown (mvT hZ (hw _ (List.mem_of_getElem? (i := 17) rfl))) rfl (hb hby own_d_prog_72_method_2_code_23) (XS.lmul X6.here hx rfl (hb hby own_d_prog_72_method_2_code_26) rfl (XS.lstoreN X6.here hx rfl (hb hby own_d_prog_72_method_2_code_27) rfl (l' := #[.val (.ref a1), .val (.long ((own_x 30 (q2 + (-7046029254386353131 : Int64))) * (-4658895280553007687 : Int64))), .second]) rfl (XS.lloadN X6.here hx rfl (hb hby own_d_prog_72_method_2_code_28) rfl (XS.lloadN X6.here hx rfl (hb hby own_d_prog_72_method_2_code_29) rfl (XS.bipush X6.here hx rfl (hb hby own_d_prog_72_method_2_code_30) (XS.lushr X6.here hx rfl (hb hby own_d_prog_72_method_2_code_32) rfl (XS.lxor X6.here hx rfl (hb hby own_d_prog_72_method_2_code_33) rfl k_))))))))) ?_
  show own_Goes p e below _ T6 (mkF m 34 #[.val (.ref a1), .val (.long ((own_x 30 (q2 + (-7046029254386353131 : Int64))) * (-4658895280553007687 : Int64))), .second] [(.long (own_x 27 ((own_x 30 (q2 + (-7046029254386353131 : Int64))) * (-4658895280553007687 : Int64))))])
  refine own_of (T' := T6) (f' := (mkF m 45 #[.val (.ref a1), .val (.long ((own_x 27 ((own_x 30 (q2 + (-7046029254386353131 : Int64))) * (-4658895280553007687 : Int64))) * (-7723592293110705685 : Int64))), .second] [(.long (((own_x 27 ((own_x 30 (q2 + (-7046029254386353131 : Int64))) * (-4658895280553007687 : Int64))) * (-7723592293110705685 : Int64)) ^^^ ((((own_x 27 ((own_x 30 (q2 + (-7046029254386353131 : Int64))) * (-4658895280553007687 : Int64))) * (-7723592293110705685 : Int64)).toUInt64 >>> ((31 : Int32) &&& 0x3f).toInt64.toUInt64).toInt64)))])) (fun t_ k_ => (Jvm.Stand.ldc2J X6 hx hown (mvT hZ (hw _ (List.mem_of_getElem? (i := 18) rfl))) rfl (hb hby own_d_prog_72_method_2_code_34) (XS.lmul X6.here hx rfl (hb hby own_d_prog_72_method_2_code_37) rfl (XS.lstoreN X6.here hx rfl (hb hby own_d_prog_72_method_2_code_38) rfl (l' := #[.val (.ref a1), .val (.long ((own_x 27 ((own_x 30 (q2 + (-7046029254386353131 : Int64))) * (-4658895280553007687 : Int64))) * (-7723592293110705685 : Int64))), .second]) rfl (XS.lloadN X6.here hx rfl (hb hby own_d_prog_72_method_2_code_39) rfl (XS.lloadN X6.here hx rfl (hb hby own_d_prog_72_method_2_code_40) rfl (XS.bipush X6.here hx rfl (hb hby own_d_prog_72_method_2_code_41) (XS.lushr X6.here hx rfl (hb hby own_d_prog_72_method_2_code_43) rfl (XS.lxor X6.here hx rfl (hb hby own_d_prog_72_method_2_code_44) rfl k_))))))))) ?_
  show own_Goes p e below _ T6 (mkF m 45 #[.val (.ref a1), .val (.long ((own_x 27 ((own_x 30 (q2 + (-7046029254386353131 : Int64))) * (-4658895280553007687 : Int64))) * (-7723592293110705685 : Int64))), .second] [(.long (own_mix (q2 + (-7046029254386353131 : Int64))))])
  obtain ⟨fs, hr, hrun, hended, hW, hsame⟩ := X6.leave (v := some (.long (own_mix (q2 + (-7046029254386353131 : Int64))))) (fun h => by rw [Bd.returns] at h; cases h)
  exact ⟨_, _, own_retJ X6 hx Bd.returns (hb hby own_d_prog_72_method_2_code_45) hr, hrun, hended, _, _, rfl, (by show own_Q_next Z a1 q2 h0 n0 _ T6.heap _; rw [e6]; exact ⟨rfl, N2, f3, f4, f5⟩), ⟨_, rfl⟩, hW, hsame.mono (by decide) (by decide)⟩
theorem own_pn_1 : plainName "com/example/orunmila/orunmila/simulate/SplitMix64NextLongPinLaw" = true := by first | (simp [plainName, overriddenIn]; done) | decide +kernel
theorem own_ef_inv (m : MethodId) (q1 : Int64) : entryFrame m #[(.long q1)] 4 = mkF m 0 #[.val (.long q1), .second, .unset, .unset] [] := by first | (simp [entryFrame, mkF, argsToLocals, Value.category]; done) | rfl
def own_Q_inv (Z : State) (q1 : Int64)  (h0 : Heap) (n0 : Nat) (v : Option Value) (h : Heap) (L : List Loc) : Prop := v = some (.long (own_inv q1)) ∧ Fr n0 L ∧ h = h0
theorem own_d_method_2_code_0 : decode method_2_code 0 = .ok (.lload_n 0, 1) := by decide +kernel
theorem own_d_method_2_code_1 : decode method_2_code 1 = .ok (.lstore_n 2, 1) := by decide +kernel
theorem own_d_method_2_code_2 : decode method_2_code 2 = .ok (.lload_n 2, 1) := by decide +kernel
theorem own_d_method_2_code_3 : decode method_2_code 3 = .ok (.ldc2_w 7, 3) := by decide +kernel
theorem own_d_method_2_code_6 : decode method_2_code 6 = .ok (.lload_n 0, 1) := by decide +kernel
theorem own_d_method_2_code_7 : decode method_2_code 7 = .ok (.lload_n 2, 1) := by decide +kernel
theorem own_d_method_2_code_8 : decode method_2_code 8 = .ok (.lmul, 1) := by decide +kernel
theorem own_d_method_2_code_9 : decode method_2_code 9 = .ok (.lsub, 1) := by decide +kernel
theorem own_d_method_2_code_10 : decode method_2_code 10 = .ok (.lmul, 1) := by decide +kernel
theorem own_d_method_2_code_11 : decode method_2_code 11 = .ok (.lstore_n 2, 1) := by decide +kernel
theorem own_d_method_2_code_12 : decode method_2_code 12 = .ok (.lload_n 2, 1) := by decide +kernel
theorem own_d_method_2_code_13 : decode method_2_code 13 = .ok (.ldc2_w 7, 3) := by decide +kernel
theorem own_d_method_2_code_16 : decode method_2_code 16 = .ok (.lload_n 0, 1) := by decide +kernel
theorem own_d_method_2_code_17 : decode method_2_code 17 = .ok (.lload_n 2, 1) := by decide +kernel
theorem own_d_method_2_code_18 : decode method_2_code 18 = .ok (.lmul, 1) := by decide +kernel
theorem own_d_method_2_code_19 : decode method_2_code 19 = .ok (.lsub, 1) := by decide +kernel
theorem own_d_method_2_code_20 : decode method_2_code 20 = .ok (.lmul, 1) := by decide +kernel
theorem own_d_method_2_code_21 : decode method_2_code 21 = .ok (.lstore_n 2, 1) := by decide +kernel
theorem own_d_method_2_code_22 : decode method_2_code 22 = .ok (.lload_n 2, 1) := by decide +kernel
theorem own_d_method_2_code_23 : decode method_2_code 23 = .ok (.ldc2_w 7, 3) := by decide +kernel
theorem own_d_method_2_code_26 : decode method_2_code 26 = .ok (.lload_n 0, 1) := by decide +kernel
theorem own_d_method_2_code_27 : decode method_2_code 27 = .ok (.lload_n 2, 1) := by decide +kernel
theorem own_d_method_2_code_28 : decode method_2_code 28 = .ok (.lmul, 1) := by decide +kernel
theorem own_d_method_2_code_29 : decode method_2_code 29 = .ok (.lsub, 1) := by decide +kernel
theorem own_d_method_2_code_30 : decode method_2_code 30 = .ok (.lmul, 1) := by decide +kernel
theorem own_d_method_2_code_31 : decode method_2_code 31 = .ok (.lstore_n 2, 1) := by decide +kernel
theorem own_d_method_2_code_32 : decode method_2_code 32 = .ok (.lload_n 2, 1) := by decide +kernel
theorem own_d_method_2_code_33 : decode method_2_code 33 = .ok (.ldc2_w 7, 3) := by decide +kernel
theorem own_d_method_2_code_36 : decode method_2_code 36 = .ok (.lload_n 0, 1) := by decide +kernel
theorem own_d_method_2_code_37 : decode method_2_code 37 = .ok (.lload_n 2, 1) := by decide +kernel
theorem own_d_method_2_code_38 : decode method_2_code 38 = .ok (.lmul, 1) := by decide +kernel
theorem own_d_method_2_code_39 : decode method_2_code 39 = .ok (.lsub, 1) := by decide +kernel
theorem own_d_method_2_code_40 : decode method_2_code 40 = .ok (.lmul, 1) := by decide +kernel
theorem own_d_method_2_code_41 : decode method_2_code 41 = .ok (.lstore_n 2, 1) := by decide +kernel
theorem own_d_method_2_code_42 : decode method_2_code 42 = .ok (.lload_n 2, 1) := by decide +kernel
theorem own_d_method_2_code_43 : decode method_2_code 43 = .ok (.ldc2_w 7, 3) := by decide +kernel
theorem own_d_method_2_code_46 : decode method_2_code 46 = .ok (.lload_n 0, 1) := by decide +kernel
theorem own_d_method_2_code_47 : decode method_2_code 47 = .ok (.lload_n 2, 1) := by decide +kernel
theorem own_d_method_2_code_48 : decode method_2_code 48 = .ok (.lmul, 1) := by decide +kernel
theorem own_d_method_2_code_49 : decode method_2_code 49 = .ok (.lsub, 1) := by decide +kernel
theorem own_d_method_2_code_50 : decode method_2_code 50 = .ok (.lmul, 1) := by decide +kernel
theorem own_d_method_2_code_51 : decode method_2_code 51 = .ok (.lstore_n 2, 1) := by decide +kernel
theorem own_d_method_2_code_52 : decode method_2_code 52 = .ok (.lload_n 2, 1) := by decide +kernel
theorem own_d_method_2_code_53 : decode method_2_code 53 = .ok (.lreturn, 1) := by decide +kernel
set_option maxRecDepth 65536 in
set_option maxHeartbeats 40000000 in
theorem own_rm_inv (l : Launch) (Z : State) (a0 : Array Value) (hw : ∀ d ∈ tables_1, d.before a0 Z = true) (ws : List Jvm.Cond) (q1 : Int64)  (h0 : Heap) (n0 : Nat) (Z0 : n0 ≤ h0.size)  :
    MetFree l (⟨"com/example/orunmila/orunmila/simulate/SplitMix64NextLongPinLaw", "inverseOdd", "(J)J"⟩ : MethodName) (head1 (Jvm.Cond.code (⟨"com/example/orunmila/orunmila/simulate/SplitMix64NextLongPinLaw", "inverseOdd", "(J)J"⟩ : MethodName) method_2_code 4 (some .long) :: ws) ({ frames := 0, cells := 0, slots := 0, locals := 0 } : Room)) (fun a U => a = #[(.long q1)] ∧ Z.Warmed39 U.vm ∧ U.heap = h0) (fun _ _ _ _ _ => True) (fun _ U o U' => ∃ v L, o = .returned v ∧ own_Q_inv Z q1  h0 n0 v U'.heap L ∧ FrameEnd U o U' L ({ frames := 0, cells := 0, slots := 0, locals := 0 } : Room).cells ({ frames := 0, cells := 0, slots := 0, locals := 0 } : Room).slots) := by
  refine MetFree.of_bodySF (plainFor_of_name own_pn_1) hisR ?_
  intro p e s m args below meth c s₁ Bd hml0 hP hK
  obtain ⟨rfl, hZ, hh⟩ := hP
  have hx := Bd.exec
  have hby := Bd.bytes
  have hml : c.maxLocals = 4 := hml0
  have hown : s.vm.findClass "com/example/orunmila/orunmila/simulate/SplitMix64NextLongPinLaw" = some m.cls := findClass_of_methodNamed Bd.named
  have hnm := (name_of_methodNamed Bd.named Bd.method).1
  have X0 : Stand p l e ({ frames := 0, cells := 0, slots := 0, locals := 0 } : Room) s m #[(.long q1)] below meth c s₁ [] 0 0 := Stand.of_body Bd
  have e0 : s₁.heap = h0 := by rw [← hh, Bd.state]; rfl
  have N0 := Fr.nil n0
  refine own_start (own_ef_inv m q1) ?_
  refine own_of (T' := s₁) (f' := (mkF m 10 #[.val (.long q1), .second, .val (.long q1), .second] [(.long ((2 : Int64) - (q1 * q1))), (.long q1)])) (fun t_ k_ => (XS.lloadN X0.here hx rfl (hb hby own_d_method_2_code_0) rfl (XS.lstoreN X0.here hx rfl (hb hby own_d_method_2_code_1) rfl (l' := #[.val (.long q1), .second, .val (.long q1), .second]) rfl (XS.lloadN X0.here hx rfl (hb hby own_d_method_2_code_2) rfl (Jvm.Stand.ldc2J X0 hx hown (mvT hZ (hw _ (List.mem_of_getElem? (i := 24) rfl))) rfl (hb hby own_d_method_2_code_3) (XS.lloadN X0.here hx rfl (hb hby own_d_method_2_code_6) rfl (XS.lloadN X0.here hx rfl (hb hby own_d_method_2_code_7) rfl (XS.lmul X0.here hx rfl (hb hby own_d_method_2_code_8) rfl (XS.lsub X0.here hx rfl (hb hby own_d_method_2_code_9) rfl k_))))))))) ?_
  refine own_of (T' := s₁) (f' := (mkF m 11 #[.val (.long q1), .second, .val (.long q1), .second] [(.long (q1 * ((2 : Int64) - (q1 * q1))))])) (fun t_ k_ => (XS.lmul X0.here hx rfl (hb hby own_d_method_2_code_10) rfl k_)) ?_
  show own_Goes p e below _ s₁ (mkF m 11 #[.val (.long q1), .second, .val (.long q1), .second] [(.long (own_nw q1 q1))])
  refine own_of (T' := s₁) (f' := (mkF m 21 #[.val (.long q1), .second, .val (.long (own_nw q1 q1)), .second] [(.long ((own_nw q1 q1) * ((2 : Int64) - (q1 * (own_nw q1 q1)))))])) (fun t_ k_ => (XS.lstoreN X0.here hx rfl (hb hby own_d_method_2_code_11) rfl (l' := #[.val (.long q1), .second, .val (.long (own_nw q1 q1)), .second]) rfl (XS.lloadN X0.here hx rfl (hb hby own_d_method_2_code_12) rfl (Jvm.Stand.ldc2J X0 hx hown (mvT hZ (hw _ (List.mem_of_getElem? (i := 24) rfl))) rfl (hb hby own_d_method_2_code_13) (XS.lloadN X0.here hx rfl (hb hby own_d_method_2_code_16) rfl (XS.lloadN X0.here hx rfl (hb hby own_d_method_2_code_17) rfl (XS.lmul X0.here hx rfl (hb hby own_d_method_2_code_18) rfl (XS.lsub X0.here hx rfl (hb hby own_d_method_2_code_19) rfl (XS.lmul X0.here hx rfl (hb hby own_d_method_2_code_20) rfl k_))))))))) ?_
  show own_Goes p e below _ s₁ (mkF m 21 #[.val (.long q1), .second, .val (.long (own_nw q1 q1)), .second] [(.long (own_nw q1 (own_nw q1 q1)))])
  refine own_of (T' := s₁) (f' := (mkF m 31 #[.val (.long q1), .second, .val (.long (own_nw q1 (own_nw q1 q1))), .second] [(.long ((own_nw q1 (own_nw q1 q1)) * ((2 : Int64) - (q1 * (own_nw q1 (own_nw q1 q1))))))])) (fun t_ k_ => (XS.lstoreN X0.here hx rfl (hb hby own_d_method_2_code_21) rfl (l' := #[.val (.long q1), .second, .val (.long (own_nw q1 (own_nw q1 q1))), .second]) rfl (XS.lloadN X0.here hx rfl (hb hby own_d_method_2_code_22) rfl (Jvm.Stand.ldc2J X0 hx hown (mvT hZ (hw _ (List.mem_of_getElem? (i := 24) rfl))) rfl (hb hby own_d_method_2_code_23) (XS.lloadN X0.here hx rfl (hb hby own_d_method_2_code_26) rfl (XS.lloadN X0.here hx rfl (hb hby own_d_method_2_code_27) rfl (XS.lmul X0.here hx rfl (hb hby own_d_method_2_code_28) rfl (XS.lsub X0.here hx rfl (hb hby own_d_method_2_code_29) rfl (XS.lmul X0.here hx rfl (hb hby own_d_method_2_code_30) rfl k_))))))))) ?_
  show own_Goes p e below _ s₁ (mkF m 31 #[.val (.long q1), .second, .val (.long (own_nw q1 (own_nw q1 q1))), .second] [(.long (own_nw q1 (own_nw q1 (own_nw q1 q1))))])
  refine own_of (T' := s₁) (f' := (mkF m 41 #[.val (.long q1), .second, .val (.long (own_nw q1 (own_nw q1 (own_nw q1 q1)))), .second] [(.long ((own_nw q1 (own_nw q1 (own_nw q1 q1))) * ((2 : Int64) - (q1 * (own_nw q1 (own_nw q1 (own_nw q1 q1)))))))])) (fun t_ k_ => (XS.lstoreN X0.here hx rfl (hb hby own_d_method_2_code_31) rfl (l' := #[.val (.long q1), .second, .val (.long (own_nw q1 (own_nw q1 (own_nw q1 q1)))), .second]) rfl (XS.lloadN X0.here hx rfl (hb hby own_d_method_2_code_32) rfl (Jvm.Stand.ldc2J X0 hx hown (mvT hZ (hw _ (List.mem_of_getElem? (i := 24) rfl))) rfl (hb hby own_d_method_2_code_33) (XS.lloadN X0.here hx rfl (hb hby own_d_method_2_code_36) rfl (XS.lloadN X0.here hx rfl (hb hby own_d_method_2_code_37) rfl (XS.lmul X0.here hx rfl (hb hby own_d_method_2_code_38) rfl (XS.lsub X0.here hx rfl (hb hby own_d_method_2_code_39) rfl (XS.lmul X0.here hx rfl (hb hby own_d_method_2_code_40) rfl k_))))))))) ?_
  show own_Goes p e below _ s₁ (mkF m 41 #[.val (.long q1), .second, .val (.long (own_nw q1 (own_nw q1 (own_nw q1 q1)))), .second] [(.long (own_nw q1 (own_nw q1 (own_nw q1 (own_nw q1 q1)))))])
  refine own_of (T' := s₁) (f' := (mkF m 51 #[.val (.long q1), .second, .val (.long (own_nw q1 (own_nw q1 (own_nw q1 (own_nw q1 q1))))), .second] [(.long ((own_nw q1 (own_nw q1 (own_nw q1 (own_nw q1 q1)))) * ((2 : Int64) - (q1 * (own_nw q1 (own_nw q1 (own_nw q1 (own_nw q1 q1))))))))])) (fun t_ k_ => (XS.lstoreN X0.here hx rfl (hb hby own_d_method_2_code_41) rfl (l' := #[.val (.long q1), .second, .val (.long (own_nw q1 (own_nw q1 (own_nw q1 (own_nw q1 q1))))), .second]) rfl (XS.lloadN X0.here hx rfl (hb hby own_d_method_2_code_42) rfl (Jvm.Stand.ldc2J X0 hx hown (mvT hZ (hw _ (List.mem_of_getElem? (i := 24) rfl))) rfl (hb hby own_d_method_2_code_43) (XS.lloadN X0.here hx rfl (hb hby own_d_method_2_code_46) rfl (XS.lloadN X0.here hx rfl (hb hby own_d_method_2_code_47) rfl (XS.lmul X0.here hx rfl (hb hby own_d_method_2_code_48) rfl (XS.lsub X0.here hx rfl (hb hby own_d_method_2_code_49) rfl (XS.lmul X0.here hx rfl (hb hby own_d_method_2_code_50) rfl k_))))))))) ?_
  show own_Goes p e below _ s₁ (mkF m 51 #[.val (.long q1), .second, .val (.long (own_nw q1 (own_nw q1 (own_nw q1 (own_nw q1 q1))))), .second] [(.long (own_nw q1 (own_nw q1 (own_nw q1 (own_nw q1 (own_nw q1 q1))))))])
  refine own_of (T' := s₁) (f' := (mkF m 53 #[.val (.long q1), .second, .val (.long (own_nw q1 (own_nw q1 (own_nw q1 (own_nw q1 (own_nw q1 q1)))))), .second] [(.long (own_nw q1 (own_nw q1 (own_nw q1 (own_nw q1 (own_nw q1 q1))))))])) (fun t_ k_ => (XS.lstoreN X0.here hx rfl (hb hby own_d_method_2_code_51) rfl (l' := #[.val (.long q1), .second, .val (.long (own_nw q1 (own_nw q1 (own_nw q1 (own_nw q1 (own_nw q1 q1)))))), .second]) rfl (XS.lloadN X0.here hx rfl (hb hby own_d_method_2_code_52) rfl k_))) ?_
  obtain ⟨fs, hr, hrun, hended, hW, hsame⟩ := X0.leave (v := some (.long (own_nw q1 (own_nw q1 (own_nw q1 (own_nw q1 (own_nw q1 q1))))))) (fun h => by rw [Bd.returns] at h; cases h)
  exact ⟨_, _, own_retJ X0 hx Bd.returns (hb hby own_d_method_2_code_53) hr, hrun, hended, _, _, rfl, (by show own_Q_inv Z q1  h0 n0 _ s₁.heap _; rw [e0]; exact ⟨rfl, N0, rfl⟩), ⟨_, rfl⟩, hW, hsame.mono (by decide) (by decide)⟩
theorem own_ef_un (m : MethodId) (q1 : Int64) : entryFrame m #[(.long q1)] 4 = mkF m 0 #[.val (.long q1), .second, .unset, .unset] [] := by first | (simp [entryFrame, mkF, argsToLocals, Value.category]; done) | rfl
def own_Q_un (Z : State) (q1 : Int64)  (h0 : Heap) (n0 : Nat) (v : Option Value) (h : Heap) (L : List Loc) : Prop := v = some (.long (own_un q1)) ∧ Fr n0 L ∧ h = h0
theorem own_d_method_3_code_0 : decode method_3_code 0 = .ok (.lload_n 0, 1) := by decide +kernel
theorem own_d_method_3_code_1 : decode method_3_code 1 = .ok (.lstore_n 2, 1) := by decide +kernel
theorem own_d_method_3_code_2 : decode method_3_code 2 = .ok (.lload_n 2, 1) := by decide +kernel
theorem own_d_method_3_code_3 : decode method_3_code 3 = .ok (.lload_n 2, 1) := by decide +kernel
theorem own_d_method_3_code_4 : decode method_3_code 4 = .ok (.bipush 31, 2) := by decide +kernel
theorem own_d_method_3_code_6 : decode method_3_code 6 = .ok (.lushr, 1) := by decide +kernel
theorem own_d_method_3_code_7 : decode method_3_code 7 = .ok (.lxor, 1) := by decide +kernel
theorem own_d_method_3_code_8 : decode method_3_code 8 = .ok (.lload_n 2, 1) := by decide +kernel
theorem own_d_method_3_code_9 : decode method_3_code 9 = .ok (.bipush 62, 2) := by decide +kernel
theorem own_d_method_3_code_11 : decode method_3_code 11 = .ok (.lushr, 1) := by decide +kernel
theorem own_d_method_3_code_12 : decode method_3_code 12 = .ok (.lxor, 1) := by decide +kernel
theorem own_d_method_3_code_13 : decode method_3_code 13 = .ok (.lstore_n 2, 1) := by decide +kernel
theorem own_d_method_3_code_14 : decode method_3_code 14 = .ok (.lload_n 2, 1) := by decide +kernel
theorem own_d_method_3_code_15 : decode method_3_code 15 = .ok (.ldc2_w 9, 3) := by decide +kernel
theorem own_d_method_3_code_18 : decode method_3_code 18 = .ok (.invokestatic 11, 3) := by decide +kernel
theorem own_pd_0 : parseMethodDescriptor "(J)J" = some ⟨[.long], some .long⟩ := by decide +kernel
theorem own_d_method_3_code_21 : decode method_3_code 21 = .ok (.lmul, 1) := by decide +kernel
theorem own_d_method_3_code_22 : decode method_3_code 22 = .ok (.lstore_n 2, 1) := by decide +kernel
theorem own_d_method_3_code_23 : decode method_3_code 23 = .ok (.lload_n 2, 1) := by decide +kernel
theorem own_d_method_3_code_24 : decode method_3_code 24 = .ok (.lload_n 2, 1) := by decide +kernel
theorem own_d_method_3_code_25 : decode method_3_code 25 = .ok (.bipush 27, 2) := by decide +kernel
theorem own_d_method_3_code_27 : decode method_3_code 27 = .ok (.lushr, 1) := by decide +kernel
theorem own_d_method_3_code_28 : decode method_3_code 28 = .ok (.lxor, 1) := by decide +kernel
theorem own_d_method_3_code_29 : decode method_3_code 29 = .ok (.lload_n 2, 1) := by decide +kernel
theorem own_d_method_3_code_30 : decode method_3_code 30 = .ok (.bipush 54, 2) := by decide +kernel
theorem own_d_method_3_code_32 : decode method_3_code 32 = .ok (.lushr, 1) := by decide +kernel
theorem own_d_method_3_code_33 : decode method_3_code 33 = .ok (.lxor, 1) := by decide +kernel
theorem own_d_method_3_code_34 : decode method_3_code 34 = .ok (.lstore_n 2, 1) := by decide +kernel
theorem own_d_method_3_code_35 : decode method_3_code 35 = .ok (.lload_n 2, 1) := by decide +kernel
theorem own_d_method_3_code_36 : decode method_3_code 36 = .ok (.ldc2_w 17, 3) := by decide +kernel
theorem own_d_method_3_code_39 : decode method_3_code 39 = .ok (.invokestatic 11, 3) := by decide +kernel
theorem own_d_method_3_code_42 : decode method_3_code 42 = .ok (.lmul, 1) := by decide +kernel
theorem own_d_method_3_code_43 : decode method_3_code 43 = .ok (.lstore_n 2, 1) := by decide +kernel
theorem own_d_method_3_code_44 : decode method_3_code 44 = .ok (.lload_n 2, 1) := by decide +kernel
theorem own_d_method_3_code_45 : decode method_3_code 45 = .ok (.lload_n 2, 1) := by decide +kernel
theorem own_d_method_3_code_46 : decode method_3_code 46 = .ok (.bipush 30, 2) := by decide +kernel
theorem own_d_method_3_code_48 : decode method_3_code 48 = .ok (.lushr, 1) := by decide +kernel
theorem own_d_method_3_code_49 : decode method_3_code 49 = .ok (.lxor, 1) := by decide +kernel
theorem own_d_method_3_code_50 : decode method_3_code 50 = .ok (.lload_n 2, 1) := by decide +kernel
theorem own_d_method_3_code_51 : decode method_3_code 51 = .ok (.bipush 60, 2) := by decide +kernel
theorem own_d_method_3_code_53 : decode method_3_code 53 = .ok (.lushr, 1) := by decide +kernel
theorem own_d_method_3_code_54 : decode method_3_code 54 = .ok (.lxor, 1) := by decide +kernel
theorem own_d_method_3_code_55 : decode method_3_code 55 = .ok (.lstore_n 2, 1) := by decide +kernel
theorem own_d_method_3_code_56 : decode method_3_code 56 = .ok (.lload_n 2, 1) := by decide +kernel
theorem own_d_method_3_code_57 : decode method_3_code 57 = .ok (.lreturn, 1) := by decide +kernel
set_option maxRecDepth 65536 in
set_option maxHeartbeats 40000000 in
theorem own_rm_un (l : Launch) (Z : State) (a0 : Array Value) (hw : ∀ d ∈ tables_1, d.before a0 Z = true) (ws : List Jvm.Cond) (q1 : Int64)  (h0 : Heap) (n0 : Nat) (Z0 : n0 ≤ h0.size)  :
    MetFree l (⟨"com/example/orunmila/orunmila/simulate/SplitMix64NextLongPinLaw", "unmix", "(J)J"⟩ : MethodName) (head1 (Jvm.Cond.code (⟨"com/example/orunmila/orunmila/simulate/SplitMix64NextLongPinLaw", "unmix", "(J)J"⟩ : MethodName) method_3_code 4 (some .long) :: ws) ({ frames := 1, cells := 0, slots := 0, locals := 17 } : Room)) (fun a U => a = #[(.long q1)] ∧ Z.Warmed39 U.vm ∧ U.heap = h0) (fun _ _ _ _ _ => True) (fun _ U o U' => ∃ v L, o = .returned v ∧ own_Q_un Z q1  h0 n0 v U'.heap L ∧ FrameEnd U o U' L ({ frames := 1, cells := 0, slots := 0, locals := 17 } : Room).cells ({ frames := 1, cells := 0, slots := 0, locals := 17 } : Room).slots) := by
  refine MetFree.of_bodySF (plainFor_of_name own_pn_1) hisR ?_
  intro p e s m args below meth c s₁ Bd hml0 hP hK
  obtain ⟨rfl, hZ, hh⟩ := hP
  have hx := Bd.exec
  have hby := Bd.bytes
  have hml : c.maxLocals = 4 := hml0
  have hown : s.vm.findClass "com/example/orunmila/orunmila/simulate/SplitMix64NextLongPinLaw" = some m.cls := findClass_of_methodNamed Bd.named
  have hnm := (name_of_methodNamed Bd.named Bd.method).1
  have X0 : Stand p l e ({ frames := 1, cells := 0, slots := 0, locals := 17 } : Room) s m #[(.long q1)] below meth c s₁ [] 0 0 := Stand.of_body Bd
  have e0 : s₁.heap = h0 := by rw [← hh, Bd.state]; rfl
  have N0 := Fr.nil n0
  refine own_start (own_ef_un m q1) ?_
  refine own_of (T' := s₁) (f' := (mkF m 9 #[.val (.long q1), .second, .val (.long q1), .second] [(.long q1), (.long (q1 ^^^ ((q1.toUInt64 >>> ((31 : Int32) &&& 0x3f).toInt64.toUInt64).toInt64)))])) (fun t_ k_ => (XS.lloadN X0.here hx rfl (hb hby own_d_method_3_code_0) rfl (XS.lstoreN X0.here hx rfl (hb hby own_d_method_3_code_1) rfl (l' := #[.val (.long q1), .second, .val (.long q1), .second]) rfl (XS.lloadN X0.here hx rfl (hb hby own_d_method_3_code_2) rfl (XS.lloadN X0.here hx rfl (hb hby own_d_method_3_code_3) rfl (XS.bipush X0.here hx rfl (hb hby own_d_method_3_code_4) (XS.lushr X0.here hx rfl (hb hby own_d_method_3_code_6) rfl (XS.lxor X0.here hx rfl (hb hby own_d_method_3_code_7) rfl (XS.lloadN X0.here hx rfl (hb hby own_d_method_3_code_8) rfl k_))))))))) ?_
  refine own_of (T' := s₁) (f' := (mkF m 13 #[.val (.long q1), .second, .val (.long q1), .second] [(.long ((q1 ^^^ ((q1.toUInt64 >>> ((31 : Int32) &&& 0x3f).toInt64.toUInt64).toInt64)) ^^^ ((q1.toUInt64 >>> ((62 : Int32) &&& 0x3f).toInt64.toUInt64).toInt64)))])) (fun t_ k_ => (XS.bipush X0.here hx rfl (hb hby own_d_method_3_code_9) (XS.lushr X0.here hx rfl (hb hby own_d_method_3_code_11) rfl (XS.lxor X0.here hx rfl (hb hby own_d_method_3_code_12) rfl k_)))) ?_
  show own_Goes p e below _ s₁ (mkF m 13 #[.val (.long q1), .second, .val (.long q1), .second] [(.long (own_y 31 62 q1))])
  refine own_of (T' := s₁) (f' := (mkF m 18 #[.val (.long q1), .second, .val (.long (own_y 31 62 q1)), .second] [(.long (-7723592293110705685 : Int64)), (.long (own_y 31 62 q1))])) (fun t_ k_ => (XS.lstoreN X0.here hx rfl (hb hby own_d_method_3_code_13) rfl (l' := #[.val (.long q1), .second, .val (.long (own_y 31 62 q1)), .second]) rfl (XS.lloadN X0.here hx rfl (hb hby own_d_method_3_code_14) rfl (Jvm.Stand.ldc2J X0 hx hown (mvT hZ (hw _ (List.mem_of_getElem? (i := 19) rfl))) rfl (hb hby own_d_method_3_code_15) k_)))) ?_
  obtain ⟨_, _, ⟨T1, L1, k1, n1⟩, -, X1, ⟨Lc1, hQ1, l1, y1, z1⟩, st1⟩ := Jvm.LawKit.callS X0 hx (y := (⟨"com/example/orunmila/orunmila/simulate/SplitMix64NextLongPinLaw", "inverseOdd", "(J)J"⟩ : MethodName)) hown (mvT hZ (hw _ (List.mem_of_getElem? (i := 20) rfl))) (mvT hZ (hw _ (List.mem_of_getElem? (i := 21) rfl))) (mvT hZ (hw _ (List.mem_of_getElem? (i := 22) rfl))) (mvT hZ (hw _ (List.mem_of_getElem? (i := 23) rfl))) (by decide) (backOf (W := 2) (own_rm_inv l Z a0 hw [] (-7723592293110705685 : Int64) h0 n0 Z0) hZ (hw _ (List.mem_of_getElem? (i := 23) rfl)) (hw _ (List.mem_of_getElem? (i := 22) rfl)) (by decide) (by decide)) (g := (mkF m 18 #[.val (.long q1), .second, .val (.long (own_y 31 62 q1)), .second] [(.long (-7723592293110705685 : Int64)), (.long (own_y 31 62 q1))])) rfl (by rw [hml]; rfl) (argsL := [(.long (-7723592293110705685 : Int64))]) (rest := [(.long (own_y 31 62 q1))]) (lenOf own_pd_0 rfl) rfl (by show 2 * 0 + _ ≤ _; exact Nat.le_of_eq rfl) (hb hby own_d_method_3_code_18) (fun _ _ => ⟨rfl, e0, Nat.le_of_ble_eq_true rfl, Nat.le_of_ble_eq_true rfl⟩)
  dsimp only [Pt.U, Pt.locs, Pt.cells, Pt.slots] at X1 l1 y1 z1 st1 hQ1
  subst l1 y1 z1
  obtain ⟨rfl, N1, e1⟩ := hQ1
  have N2 := Fr.app N0 N1
  refine own_of (T' := T1) (f' := (mkF m 29 #[.val (.long q1), .second, .val (.long ((own_y 31 62 q1) * (own_inv (-7723592293110705685 : Int64)))), .second] [(.long (((own_y 31 62 q1) * (own_inv (-7723592293110705685 : Int64))) ^^^ ((((own_y 31 62 q1) * (own_inv (-7723592293110705685 : Int64))).toUInt64 >>> ((27 : Int32) &&& 0x3f).toInt64.toUInt64).toInt64)))])) (fun t_ k_ => (st1 _ (XS.lmul X1.here hx rfl (hb hby own_d_method_3_code_21) rfl (XS.lstoreN X1.here hx rfl (hb hby own_d_method_3_code_22) rfl (l' := #[.val (.long q1), .second, .val (.long ((own_y 31 62 q1) * (own_inv (-7723592293110705685 : Int64)))), .second]) rfl (XS.lloadN X1.here hx rfl (hb hby own_d_method_3_code_23) rfl (XS.lloadN X1.here hx rfl (hb hby own_d_method_3_code_24) rfl (XS.bipush X1.here hx rfl (hb hby own_d_method_3_code_25) (XS.lushr X1.here hx rfl (hb hby own_d_method_3_code_27) rfl (XS.lxor X1.here hx rfl (hb hby own_d_method_3_code_28) rfl k_))))))))) ?_
  refine own_of (T' := T1) (f' := (mkF m 34 #[.val (.long q1), .second, .val (.long ((own_y 31 62 q1) * (own_inv (-7723592293110705685 : Int64)))), .second] [(.long ((((own_y 31 62 q1) * (own_inv (-7723592293110705685 : Int64))) ^^^ ((((own_y 31 62 q1) * (own_inv (-7723592293110705685 : Int64))).toUInt64 >>> ((27 : Int32) &&& 0x3f).toInt64.toUInt64).toInt64)) ^^^ ((((own_y 31 62 q1) * (own_inv (-7723592293110705685 : Int64))).toUInt64 >>> ((54 : Int32) &&& 0x3f).toInt64.toUInt64).toInt64)))])) (fun t_ k_ => (XS.lloadN X1.here hx rfl (hb hby own_d_method_3_code_29) rfl (XS.bipush X1.here hx rfl (hb hby own_d_method_3_code_30) (XS.lushr X1.here hx rfl (hb hby own_d_method_3_code_32) rfl (XS.lxor X1.here hx rfl (hb hby own_d_method_3_code_33) rfl k_))))) ?_
  show own_Goes p e below _ T1 (mkF m 34 #[.val (.long q1), .second, .val (.long ((own_y 31 62 q1) * (own_inv (-7723592293110705685 : Int64)))), .second] [(.long (own_y 27 54 ((own_y 31 62 q1) * (own_inv (-7723592293110705685 : Int64)))))])
  refine own_of (T' := T1) (f' := (mkF m 39 #[.val (.long q1), .second, .val (.long (own_y 27 54 ((own_y 31 62 q1) * (own_inv (-7723592293110705685 : Int64))))), .second] [(.long (-4658895280553007687 : Int64)), (.long (own_y 27 54 ((own_y 31 62 q1) * (own_inv (-7723592293110705685 : Int64)))))])) (fun t_ k_ => (XS.lstoreN X1.here hx rfl (hb hby own_d_method_3_code_34) rfl (l' := #[.val (.long q1), .second, .val (.long (own_y 27 54 ((own_y 31 62 q1) * (own_inv (-7723592293110705685 : Int64))))), .second]) rfl (XS.lloadN X1.here hx rfl (hb hby own_d_method_3_code_35) rfl (Jvm.Stand.ldc2J X1 hx hown (mvT hZ (hw _ (List.mem_of_getElem? (i := 25) rfl))) rfl (hb hby own_d_method_3_code_36) k_)))) ?_
  obtain ⟨_, _, ⟨T3, L3, k3, n3⟩, -, X3, ⟨Lc3, hQ3, l3, y3, z3⟩, st3⟩ := Jvm.LawKit.callS X1 hx (y := (⟨"com/example/orunmila/orunmila/simulate/SplitMix64NextLongPinLaw", "inverseOdd", "(J)J"⟩ : MethodName)) hown (mvT hZ (hw _ (List.mem_of_getElem? (i := 20) rfl))) (mvT hZ (hw _ (List.mem_of_getElem? (i := 21) rfl))) (mvT hZ (hw _ (List.mem_of_getElem? (i := 22) rfl))) (mvT hZ (hw _ (List.mem_of_getElem? (i := 23) rfl))) (by decide) (backOf (W := 2) (own_rm_inv l Z a0 hw [] (-4658895280553007687 : Int64) h0 n0 Z0) hZ (hw _ (List.mem_of_getElem? (i := 23) rfl)) (hw _ (List.mem_of_getElem? (i := 22) rfl)) (by decide) (by decide)) (g := (mkF m 39 #[.val (.long q1), .second, .val (.long (own_y 27 54 ((own_y 31 62 q1) * (own_inv (-7723592293110705685 : Int64))))), .second] [(.long (-4658895280553007687 : Int64)), (.long (own_y 27 54 ((own_y 31 62 q1) * (own_inv (-7723592293110705685 : Int64)))))])) rfl (by rw [hml]; rfl) (argsL := [(.long (-4658895280553007687 : Int64))]) (rest := [(.long (own_y 27 54 ((own_y 31 62 q1) * (own_inv (-7723592293110705685 : Int64)))))]) (lenOf own_pd_0 rfl) rfl (by show 2 * 0 + _ ≤ _; exact Nat.le_of_eq rfl) (hb hby own_d_method_3_code_39) (fun _ _ => ⟨rfl, e1, Nat.le_of_ble_eq_true rfl, Nat.le_of_ble_eq_true rfl⟩)
  dsimp only [Pt.U, Pt.locs, Pt.cells, Pt.slots] at X3 l3 y3 z3 st3 hQ3
  subst l3 y3 z3
  obtain ⟨rfl, N3, e3⟩ := hQ3
  have N4 := Fr.app N2 N3
  refine own_of (T' := T3) (f' := (mkF m 50 #[.val (.long q1), .second, .val (.long ((own_y 27 54 ((own_y 31 62 q1) * (own_inv (-7723592293110705685 : Int64)))) * (own_inv (-4658895280553007687 : Int64)))), .second] [(.long (((own_y 27 54 ((own_y 31 62 q1) * (own_inv (-7723592293110705685 : Int64)))) * (own_inv (-4658895280553007687 : Int64))) ^^^ ((((own_y 27 54 ((own_y 31 62 q1) * (own_inv (-7723592293110705685 : Int64)))) * (own_inv (-4658895280553007687 : Int64))).toUInt64 >>> ((30 : Int32) &&& 0x3f).toInt64.toUInt64).toInt64)))])) (fun t_ k_ => (st3 _ (XS.lmul X3.here hx rfl (hb hby own_d_method_3_code_42) rfl (XS.lstoreN X3.here hx rfl (hb hby own_d_method_3_code_43) rfl (l' := #[.val (.long q1), .second, .val (.long ((own_y 27 54 ((own_y 31 62 q1) * (own_inv (-7723592293110705685 : Int64)))) * (own_inv (-4658895280553007687 : Int64)))), .second]) rfl (XS.lloadN X3.here hx rfl (hb hby own_d_method_3_code_44) rfl (XS.lloadN X3.here hx rfl (hb hby own_d_method_3_code_45) rfl (XS.bipush X3.here hx rfl (hb hby own_d_method_3_code_46) (XS.lushr X3.here hx rfl (hb hby own_d_method_3_code_48) rfl (XS.lxor X3.here hx rfl (hb hby own_d_method_3_code_49) rfl k_))))))))) ?_
  refine own_of (T' := T3) (f' := (mkF m 55 #[.val (.long q1), .second, .val (.long ((own_y 27 54 ((own_y 31 62 q1) * (own_inv (-7723592293110705685 : Int64)))) * (own_inv (-4658895280553007687 : Int64)))), .second] [(.long ((((own_y 27 54 ((own_y 31 62 q1) * (own_inv (-7723592293110705685 : Int64)))) * (own_inv (-4658895280553007687 : Int64))) ^^^ ((((own_y 27 54 ((own_y 31 62 q1) * (own_inv (-7723592293110705685 : Int64)))) * (own_inv (-4658895280553007687 : Int64))).toUInt64 >>> ((30 : Int32) &&& 0x3f).toInt64.toUInt64).toInt64)) ^^^ ((((own_y 27 54 ((own_y 31 62 q1) * (own_inv (-7723592293110705685 : Int64)))) * (own_inv (-4658895280553007687 : Int64))).toUInt64 >>> ((60 : Int32) &&& 0x3f).toInt64.toUInt64).toInt64)))])) (fun t_ k_ => (XS.lloadN X3.here hx rfl (hb hby own_d_method_3_code_50) rfl (XS.bipush X3.here hx rfl (hb hby own_d_method_3_code_51) (XS.lushr X3.here hx rfl (hb hby own_d_method_3_code_53) rfl (XS.lxor X3.here hx rfl (hb hby own_d_method_3_code_54) rfl k_))))) ?_
  show own_Goes p e below _ T3 (mkF m 55 #[.val (.long q1), .second, .val (.long ((own_y 27 54 ((own_y 31 62 q1) * (own_inv (-7723592293110705685 : Int64)))) * (own_inv (-4658895280553007687 : Int64)))), .second] [(.long (own_y 30 60 ((own_y 27 54 ((own_y 31 62 q1) * (own_inv (-7723592293110705685 : Int64)))) * (own_inv (-4658895280553007687 : Int64)))))])
  refine own_of (T' := T3) (f' := (mkF m 57 #[.val (.long q1), .second, .val (.long (own_y 30 60 ((own_y 27 54 ((own_y 31 62 q1) * (own_inv (-7723592293110705685 : Int64)))) * (own_inv (-4658895280553007687 : Int64))))), .second] [(.long (own_y 30 60 ((own_y 27 54 ((own_y 31 62 q1) * (own_inv (-7723592293110705685 : Int64)))) * (own_inv (-4658895280553007687 : Int64)))))])) (fun t_ k_ => (XS.lstoreN X3.here hx rfl (hb hby own_d_method_3_code_55) rfl (l' := #[.val (.long q1), .second, .val (.long (own_y 30 60 ((own_y 27 54 ((own_y 31 62 q1) * (own_inv (-7723592293110705685 : Int64)))) * (own_inv (-4658895280553007687 : Int64))))), .second]) rfl (XS.lloadN X3.here hx rfl (hb hby own_d_method_3_code_56) rfl k_))) ?_
  obtain ⟨fs, hr, hrun, hended, hW, hsame⟩ := X3.leave (v := some (.long (own_y 30 60 ((own_y 27 54 ((own_y 31 62 q1) * (own_inv (-7723592293110705685 : Int64)))) * (own_inv (-4658895280553007687 : Int64)))))) (fun h => by rw [Bd.returns] at h; cases h)
  exact ⟨_, _, own_retJ X3 hx Bd.returns (hb hby own_d_method_3_code_57) hr, hrun, hended, _, _, rfl, (by show own_Q_un Z q1  h0 n0 _ T3.heap _; rw [e3]; exact ⟨rfl, N4, rfl⟩), ⟨_, rfl⟩, hW, hsame.mono (by decide) (by decide)⟩
theorem own_ef_0 (m : MethodId) (q0 : Int64) : entryFrame m #[(.long q0)] maxLocals = mkF m 0 #[.val (.long q0), .second, .unset, .unset, .unset, .unset, .unset, .unset] [] := by first | (simp [entryFrame, mkF, argsToLocals, Value.category, maxLocals]; done) | rfl
def own_Q_0 (Z : State) (q0 : Int64)  (h0 : Heap) (n0 : Nat) (v : Option Value) (h : Heap) (L : List Loc) : Prop := v = some (.int 1) ∧ Fr n0 L
theorem own_pd_1 : parseMethodDescriptor "(J)V" = some ⟨[.long], none⟩ := by decide +kernel
theorem own_pd_2 : parseMethodDescriptor "()J" = some ⟨[], some .long⟩ := by decide +kernel
set_option maxRecDepth 65536 in
set_option maxHeartbeats 40000000 in
theorem own_rm_0 (l : Launch) (Z : State) (a0 : Array Value) (hw : ∀ d ∈ tables_1, d.before a0 Z = true) (ws : List Jvm.Cond) (q0 : Int64)  (h0 : Heap) (n0 : Nat) (Z0 : n0 ≤ h0.size)  :
    MetFree l x (head1 (Jvm.Cond.code x code maxLocals ret :: ws) room_1) (fun a U => a = #[(.long q0)] ∧ Z.Warmed39 U.vm ∧ U.heap = h0) (fun _ _ _ _ _ => True) (fun _ U o U' => ∃ v L, o = .returned v ∧ own_Q_0 Z q0  h0 n0 v U'.heap L ∧ FrameEnd U o U' L room_1.cells room_1.slots) := by
  refine MetFree.of_bodySF (plainFor_of_name own_pn_1) hisR ?_
  intro p e s m args below meth c s₁ Bd hml0 hP hK
  obtain ⟨rfl, hZ, hh⟩ := hP
  have hx := Bd.exec
  have hby := Bd.bytes
  have hml : c.maxLocals = 8 := hml0
  have hown : s.vm.findClass "com/example/orunmila/orunmila/simulate/SplitMix64NextLongPinLaw" = some m.cls := findClass_of_methodNamed Bd.named
  have hnm := (name_of_methodNamed Bd.named Bd.method).1
  have X0 : Stand p l e room_1 s m #[(.long q0)] below meth c s₁ [] 0 0 := Stand.of_body Bd
  have e0 : s₁.heap = h0 := by rw [← hh, Bd.state]; rfl
  have N0 := Fr.nil n0
  refine own_start (own_ef_0 m q0) ?_
  obtain ⟨T1, h1, X1, e1, E1, A1, D1, -, st1⟩ := newO X0 hx hZ hown (hw _ (List.mem_of_getElem? (i := 0) rfl)) (hw _ (List.mem_of_getElem? (i := 1) rfl)) (hw _ (List.mem_of_getElem? (i := 2) rfl)) e0 (g := (mkF m 0 #[.val (.long q0), .second, .unset, .unset, .unset, .unset, .unset, .unset] [])) rfl (hb hby at_0) (by decide) (by decide)
  obtain ⟨b, g1⟩ : ∃ z, z = h0.size := ⟨_, rfl⟩
  rw [← g1] at A1 D1 st1
  have g_b : n0 ≤ b := Nat.le_trans Z0 (Nat.le_of_eq g1.symm)
  have f2 := Nat.le_trans Z0 E1.1
  have f3 : Fld Z h1 b "com/example/orunmila/orunmila/simulate/SplitMix64" "m_nState" "J" (.long (0 : Int64)) := D1 (Or.inl (hw _ (List.mem_of_getElem? (i := 10) rfl))) (ty := .long) (by decide)
  refine own_of (T' := T1) (f' := (mkF m 5 #[.val (.long q0), .second, .unset, .unset, .unset, .unset, .unset, .unset] [(.long q0), (.ref b), (.ref b)])) (fun t_ k_ => (st1 _ (XS.dup X1.here hx rfl (hb hby at_3) rfl rfl (XS.lloadN X1.here hx rfl (hb hby at_4) rfl k_)))) ?_
  obtain ⟨_, _, ⟨T4, L4, k4, n4⟩, -, X4, ⟨Lc4, hQ4, l4, y4, z4⟩, st4⟩ := X1.specialBack hx (y := (⟨"com/example/orunmila/orunmila/simulate/SplitMix64", "<init>", "(J)V"⟩ : MethodName)) rfl hown (mvT hZ (hw _ (List.mem_of_getElem? (i := 3) rfl))) (mvT hZ (hw _ (List.mem_of_getElem? (i := 4) rfl))) (mvT hZ (hw _ (List.mem_of_getElem? (i := 5) rfl))) (by decide) (backOf (W := 1) (own_rm_init l Z a0 hw [] b q0 h1 n0 f2 f3 A1 g_b) hZ (hw _ (List.mem_of_getElem? (i := 5) rfl)) (hw _ (List.mem_of_getElem? (i := 2) rfl)) (by decide) (by decide)) (g := (mkF m 5 #[.val (.long q0), .second, .unset, .unset, .unset, .unset, .unset, .unset] [(.long q0), (.ref b), (.ref b)])) rfl (by rw [hml]; rfl) (Steps.refl _) (a := b) (argsL := [(.long q0)]) (rest := [(.ref b)]) (lenOf own_pd_1 rfl) rfl (by show 2 * 0 + _ ≤ _; exact Nat.le_of_eq rfl) (hb hby at_5) (fun _ _ => ⟨rfl, e1, Nat.le_of_ble_eq_true rfl, Nat.le_of_ble_eq_true rfl⟩)
  dsimp only [Pt.U, Pt.locs, Pt.cells, Pt.slots] at X4 l4 y4 z4 st4 hQ4
  subst l4 y4 z4
  obtain ⟨rfl, N4, K4, Eb4, Fb4⟩ := hQ4
  have N5 := Fr.app N0 N4
  have f6 := Nat.le_trans f2 K4.1
  have f7 := A1.keep K4
  refine own_of (T' := T4) (f' := (mkF m 10 #[.val (.long q0), .second, .val (.ref b), .unset, .unset, .unset, .unset, .unset] [(.ref b)])) (fun t_ k_ => (st4.trans (XS.astoreN X4.here hx rfl (hb hby at_8) rfl rfl (l' := #[.val (.long q0), .second, .val (.ref b), .unset, .unset, .unset, .unset, .unset]) rfl (XS.aloadN X4.here hx rfl (hb hby at_9) rfl rfl k_)))) ?_
  obtain ⟨cq10, kq10, q10a, q10b, q10c⟩ := isOf hZ rfl Eb4
  obtain ⟨_, _, ⟨T9, L9, k9, n9⟩, -, X9, ⟨Lc9, hQ9, l9, y9, z9⟩, st9⟩ := X4.virtualBack hx (y := (⟨"com/example/orunmila/orunmila/simulate/SplitMix64", "nextLong", "()J"⟩ : MethodName)) (z := (⟨"com/example/orunmila/orunmila/simulate/SplitMix64", "nextLong", "()J"⟩ : MethodName)) hown (mvT hZ (hw _ (List.mem_of_getElem? (i := 11) rfl))) (mvT hZ (hw _ (List.mem_of_getElem? (i := 12) rfl))) (notFace_of_selects (args := #[]) (mvT hZ (hw _ (List.mem_of_getElem? (i := 14) rfl)))) (mvT hZ (hw _ (List.mem_of_getElem? (i := 14) rfl))) (mvT hZ (hw _ (List.mem_of_getElem? (i := 13) rfl))) (by decide) (backOf (W := 0) (own_rm_next l Z a0 hw [] b q0 T4.heap n0 f6 Fb4 Eb4 g_b) hZ (hw _ (List.mem_of_getElem? (i := 15) rfl)) (hw _ (List.mem_of_getElem? (i := 2) rfl)) (by decide) (by decide)) q10a q10c (g := (mkF m 10 #[.val (.long q0), .second, .val (.ref b), .unset, .unset, .unset, .unset, .unset] [(.ref b)])) rfl (by rw [hml]; rfl) (Steps.refl _) (argsL := []) (rest := []) (lenOf own_pd_2 rfl) rfl (by show 2 * 0 + _ ≤ _; exact Nat.le_of_eq rfl) (hb hby at_10) (fun _ _ => ⟨rfl, rfl, Nat.le_of_ble_eq_true rfl, Nat.le_of_ble_eq_true rfl⟩)
  dsimp only [Pt.U, Pt.locs, Pt.cells, Pt.slots] at X9 l9 y9 z9 st9 hQ9
  subst l9 y9 z9
  obtain ⟨rfl, N9, K9, Eb9, Fb9⟩ := hQ9
  have N11 := Fr.app N5 N9
  have f12 := Nat.le_trans f6 K9.1
  have f13 := Eb4.keep K9
  refine own_of (T' := T9) (f' := (mkF m 15 #[.val (.long q0), .second, .val (.ref b), .val (.long (own_mix (q0 + (-7046029254386353131 : Int64)))), .second, .unset, .unset, .unset] [(.ref b)])) (fun t_ k_ => (st9.trans (XS.lstoreN X9.here hx rfl (hb hby at_13) rfl (l' := #[.val (.long q0), .second, .val (.ref b), .val (.long (own_mix (q0 + (-7046029254386353131 : Int64)))), .second, .unset, .unset, .unset]) rfl (XS.aloadN X9.here hx rfl (hb hby at_14) rfl rfl k_)))) ?_
  obtain ⟨cq16, kq16, q16a, q16b, q16c⟩ := isOf hZ rfl Eb9
  obtain ⟨_, _, ⟨T15, L15, k15, n15⟩, -, X15, ⟨Lc15, hQ15, l15, y15, z15⟩, st15⟩ := X9.virtualBack hx (y := (⟨"com/example/orunmila/orunmila/simulate/SplitMix64", "nextLong", "()J"⟩ : MethodName)) (z := (⟨"com/example/orunmila/orunmila/simulate/SplitMix64", "nextLong", "()J"⟩ : MethodName)) hown (mvT hZ (hw _ (List.mem_of_getElem? (i := 11) rfl))) (mvT hZ (hw _ (List.mem_of_getElem? (i := 12) rfl))) (notFace_of_selects (args := #[]) (mvT hZ (hw _ (List.mem_of_getElem? (i := 14) rfl)))) (mvT hZ (hw _ (List.mem_of_getElem? (i := 14) rfl))) (mvT hZ (hw _ (List.mem_of_getElem? (i := 13) rfl))) (by decide) (backOf (W := 0) (own_rm_next l Z a0 hw [] b (q0 + (-7046029254386353131 : Int64)) T9.heap n0 f12 Fb9 Eb9 g_b) hZ (hw _ (List.mem_of_getElem? (i := 15) rfl)) (hw _ (List.mem_of_getElem? (i := 2) rfl)) (by decide) (by decide)) q16a q16c (g := (mkF m 15 #[.val (.long q0), .second, .val (.ref b), .val (.long (own_mix (q0 + (-7046029254386353131 : Int64)))), .second, .unset, .unset, .unset] [(.ref b)])) rfl (by rw [hml]; rfl) (Steps.refl _) (argsL := []) (rest := []) (lenOf own_pd_2 rfl) rfl (by show 2 * 0 + _ ≤ _; exact Nat.le_of_eq rfl) (hb hby at_15) (fun _ _ => ⟨rfl, rfl, Nat.le_of_ble_eq_true rfl, Nat.le_of_ble_eq_true rfl⟩)
  dsimp only [Pt.U, Pt.locs, Pt.cells, Pt.slots] at X15 l15 y15 z15 st15 hQ15
  subst l15 y15 z15
  obtain ⟨rfl, N15, K15, Eb15, Fb15⟩ := hQ15
  have N17 := Fr.app N11 N15
  have f18 := Nat.le_trans f12 K15.1
  have f19 := Eb9.keep K15
  refine own_of (T' := T15) (f' := (mkF m 26 #[.val (.long q0), .second, .val (.ref b), .val (.long (own_mix (q0 + (-7046029254386353131 : Int64)))), .second, .val (.long (own_mix ((q0 + (-7046029254386353131 : Int64)) + (-7046029254386353131 : Int64)))), .second, .unset] [(.long (-7723592293110705685 : Int64)), (.long (-7723592293110705685 : Int64))])) (fun t_ k_ => (st15.trans (XS.lstore X15.here hx rfl (hb hby at_18) rfl (l' := #[.val (.long q0), .second, .val (.ref b), .val (.long (own_mix (q0 + (-7046029254386353131 : Int64)))), .second, .val (.long (own_mix ((q0 + (-7046029254386353131 : Int64)) + (-7046029254386353131 : Int64)))), .second, .unset]) rfl (Jvm.Stand.ldc2J X15 hx hown (mvT hZ (hw _ (List.mem_of_getElem? (i := 19) rfl))) rfl (hb hby at_20) (Jvm.Stand.ldc2J X15 hx hown (mvT hZ (hw _ (List.mem_of_getElem? (i := 19) rfl))) rfl (hb hby at_23) k_))))) ?_
  obtain ⟨_, _, ⟨T21, L21, k21, n21⟩, -, X21, ⟨Lc21, hQ21, l21, y21, z21⟩, st21⟩ := Jvm.LawKit.callS X15 hx (y := (⟨"com/example/orunmila/orunmila/simulate/SplitMix64NextLongPinLaw", "inverseOdd", "(J)J"⟩ : MethodName)) hown (mvT hZ (hw _ (List.mem_of_getElem? (i := 20) rfl))) (mvT hZ (hw _ (List.mem_of_getElem? (i := 21) rfl))) (mvT hZ (hw _ (List.mem_of_getElem? (i := 22) rfl))) (mvT hZ (hw _ (List.mem_of_getElem? (i := 23) rfl))) (by decide) (backOf (W := 2) (own_rm_inv l Z a0 hw [] (-7723592293110705685 : Int64) T15.heap n0 f18) hZ (hw _ (List.mem_of_getElem? (i := 23) rfl)) (hw _ (List.mem_of_getElem? (i := 22) rfl)) (by decide) (by decide)) (g := (mkF m 26 #[.val (.long q0), .second, .val (.ref b), .val (.long (own_mix (q0 + (-7046029254386353131 : Int64)))), .second, .val (.long (own_mix ((q0 + (-7046029254386353131 : Int64)) + (-7046029254386353131 : Int64)))), .second, .unset] [(.long (-7723592293110705685 : Int64)), (.long (-7723592293110705685 : Int64))])) rfl (by rw [hml]; rfl) (argsL := [(.long (-7723592293110705685 : Int64))]) (rest := [(.long (-7723592293110705685 : Int64))]) (lenOf own_pd_0 rfl) rfl (by show 2 * 0 + _ ≤ _; exact Nat.le_of_eq rfl) (hb hby at_26) (fun _ _ => ⟨rfl, rfl, Nat.le_of_ble_eq_true rfl, Nat.le_of_ble_eq_true rfl⟩)
  dsimp only [Pt.U, Pt.locs, Pt.cells, Pt.slots] at X21 l21 y21 z21 st21 hQ21
  subst l21 y21 z21
  obtain ⟨rfl, N21, e21⟩ := hQ21
  have N22 := Fr.app N17 N21
  refine own_of (T' := T21) (f' := (mkF m 41 #[.val (.long q0), .second, .val (.ref b), .val (.long (own_mix (q0 + (-7046029254386353131 : Int64)))), .second, .val (.long (own_mix ((q0 + (-7046029254386353131 : Int64)) + (-7046029254386353131 : Int64)))), .second, .unset] [(.long (-4658895280553007687 : Int64)), (.long (-4658895280553007687 : Int64))])) (fun t_ k_ => (st21 _ (XS.lmul X21.here hx rfl (hb hby at_29) rfl (XS.lconst X21.here hx rfl (hb hby at_30) (XS.lcmp X21.here hx rfl (hb hby at_31) rfl (XS.ifNo X21.here hx rfl (hb hby at_32) rfl ((if0 _ _).trans (teq ((lw_eq ((-7723592293110705685 : Int64) * (own_inv (-7723592293110705685 : Int64))) (1 : Int64)).mpr own_c2)).2) (Jvm.Stand.ldc2J X21 hx hown (mvT hZ (hw _ (List.mem_of_getElem? (i := 25) rfl))) rfl (hb hby at_35) (Jvm.Stand.ldc2J X21 hx hown (mvT hZ (hw _ (List.mem_of_getElem? (i := 25) rfl))) rfl (hb hby at_38) k_)))))))) ?_
  obtain ⟨_, _, ⟨T23, L23, k23, n23⟩, -, X23, ⟨Lc23, hQ23, l23, y23, z23⟩, st23⟩ := Jvm.LawKit.callS X21 hx (y := (⟨"com/example/orunmila/orunmila/simulate/SplitMix64NextLongPinLaw", "inverseOdd", "(J)J"⟩ : MethodName)) hown (mvT hZ (hw _ (List.mem_of_getElem? (i := 20) rfl))) (mvT hZ (hw _ (List.mem_of_getElem? (i := 21) rfl))) (mvT hZ (hw _ (List.mem_of_getElem? (i := 22) rfl))) (mvT hZ (hw _ (List.mem_of_getElem? (i := 23) rfl))) (by decide) (backOf (W := 2) (own_rm_inv l Z a0 hw [] (-4658895280553007687 : Int64) T15.heap n0 f18) hZ (hw _ (List.mem_of_getElem? (i := 23) rfl)) (hw _ (List.mem_of_getElem? (i := 22) rfl)) (by decide) (by decide)) (g := (mkF m 41 #[.val (.long q0), .second, .val (.ref b), .val (.long (own_mix (q0 + (-7046029254386353131 : Int64)))), .second, .val (.long (own_mix ((q0 + (-7046029254386353131 : Int64)) + (-7046029254386353131 : Int64)))), .second, .unset] [(.long (-4658895280553007687 : Int64)), (.long (-4658895280553007687 : Int64))])) rfl (by rw [hml]; rfl) (argsL := [(.long (-4658895280553007687 : Int64))]) (rest := [(.long (-4658895280553007687 : Int64))]) (lenOf own_pd_0 rfl) rfl (by show 2 * 0 + _ ≤ _; exact Nat.le_of_eq rfl) (hb hby at_41) (fun _ _ => ⟨rfl, e21, Nat.le_of_ble_eq_true rfl, Nat.le_of_ble_eq_true rfl⟩)
  dsimp only [Pt.U, Pt.locs, Pt.cells, Pt.slots] at X23 l23 y23 z23 st23 hQ23
  subst l23 y23 z23
  obtain ⟨rfl, N23, e23⟩ := hQ23
  have N24 := Fr.app N22 N23
  refine own_of (T' := T23) (f' := (mkF m 57 #[.val (.long q0), .second, .val (.ref b), .val (.long (own_mix (q0 + (-7046029254386353131 : Int64)))), .second, .val (.long (own_mix ((q0 + (-7046029254386353131 : Int64)) + (-7046029254386353131 : Int64)))), .second, .val (.int (1 : Int32))] [])) (fun t_ k_ => (st23 _ (XS.lmul X23.here hx rfl (hb hby at_44) rfl (XS.lconst X23.here hx rfl (hb hby at_45) (XS.lcmp X23.here hx rfl (hb hby at_46) rfl (XS.ifNo X23.here hx rfl (hb hby at_47) rfl ((if0 _ _).trans (teq ((lw_eq ((-4658895280553007687 : Int64) * (own_inv (-4658895280553007687 : Int64))) (1 : Int64)).mpr own_c1)).2) (XS.iconst X23.here hx rfl (hb hby at_50) (XS.goto X23.here hx rfl (pc0 := 51) (pc' := 55) rfl (hb hby at_51) (by decide) (by decide) (XS.istore X23.here hx rfl (hb hby at_55) rfl (l' := #[.val (.long q0), .second, .val (.ref b), .val (.long (own_mix (q0 + (-7046029254386353131 : Int64)))), .second, .val (.long (own_mix ((q0 + (-7046029254386353131 : Int64)) + (-7046029254386353131 : Int64)))), .second, .val (.int (1 : Int32))]) rfl k_))))))))) ?_
  refine own_of (T' := T23) (f' := (mkF m 63 #[.val (.long q0), .second, .val (.ref b), .val (.long (own_mix (q0 + (-7046029254386353131 : Int64)))), .second, .val (.long (own_mix ((q0 + (-7046029254386353131 : Int64)) + (-7046029254386353131 : Int64)))), .second, .val (.int (1 : Int32))] [(.long (own_mix (q0 + (-7046029254386353131 : Int64))))])) (fun t_ k_ => (XS.iload X23.here hx rfl (hb hby at_57) rfl (XS.ifNo X23.here hx rfl (hb hby at_59) rfl ((if0 _ _).trans (feq (by decide : ¬ (1 : Int32) = 0)).1) (XS.lloadN X23.here hx rfl (hb hby at_62) rfl k_)))) ?_
  obtain ⟨_, _, ⟨T25, L25, k25, n25⟩, -, X25, ⟨Lc25, hQ25, l25, y25, z25⟩, st25⟩ := Jvm.LawKit.callS X23 hx (y := (⟨"com/example/orunmila/orunmila/simulate/SplitMix64NextLongPinLaw", "unmix", "(J)J"⟩ : MethodName)) hown (mvT hZ (hw _ (List.mem_of_getElem? (i := 26) rfl))) (mvT hZ (hw _ (List.mem_of_getElem? (i := 27) rfl))) (mvT hZ (hw _ (List.mem_of_getElem? (i := 22) rfl))) (mvT hZ (hw _ (List.mem_of_getElem? (i := 28) rfl))) (by decide) (backOf (W := 0) (own_rm_un l Z a0 hw [] (own_mix (q0 + (-7046029254386353131 : Int64))) T15.heap n0 f18) hZ (hw _ (List.mem_of_getElem? (i := 28) rfl)) (hw _ (List.mem_of_getElem? (i := 22) rfl)) (by decide) (by decide)) (g := (mkF m 63 #[.val (.long q0), .second, .val (.ref b), .val (.long (own_mix (q0 + (-7046029254386353131 : Int64)))), .second, .val (.long (own_mix ((q0 + (-7046029254386353131 : Int64)) + (-7046029254386353131 : Int64)))), .second, .val (.int (1 : Int32))] [(.long (own_mix (q0 + (-7046029254386353131 : Int64))))])) rfl (by rw [hml]; rfl) (argsL := [(.long (own_mix (q0 + (-7046029254386353131 : Int64))))]) (rest := []) (lenOf own_pd_0 rfl) rfl (by show 2 * 0 + _ ≤ _; exact Nat.le_of_eq rfl) (hb hby at_63) (fun _ _ => ⟨rfl, e23, Nat.le_of_ble_eq_true rfl, Nat.le_of_ble_eq_true rfl⟩)
  dsimp only [Pt.U, Pt.locs, Pt.cells, Pt.slots] at X25 l25 y25 z25 st25 hQ25
  subst l25 y25 z25
  obtain ⟨rfl, N25, e25⟩ := hQ25
  have N26 := Fr.app N24 N25
  refine own_of (T' := T25) (f' := (mkF m 77 #[.val (.long q0), .second, .val (.ref b), .val (.long (own_mix (q0 + (-7046029254386353131 : Int64)))), .second, .val (.long (own_mix ((q0 + (-7046029254386353131 : Int64)) + (-7046029254386353131 : Int64)))), .second, .val (.int (1 : Int32))] [(.long (own_mix ((q0 + (-7046029254386353131 : Int64)) + (-7046029254386353131 : Int64))))])) (fun t_ k_ => (st25 _ (XS.lloadN X25.here hx rfl (hb hby at_66) rfl (Jvm.Stand.ldc2J X25 hx hown (mvT hZ (hw _ (List.mem_of_getElem? (i := 29) rfl))) rfl (hb hby at_67) (XS.ladd X25.here hx rfl (hb hby at_70) rfl (XS.lcmp X25.here hx rfl (hb hby at_71) rfl (XS.ifNo X25.here hx rfl (hb hby at_72) rfl ((if0 _ _).trans (teq ((lw_eq (own_un (own_mix (q0 + (-7046029254386353131 : Int64)))) (q0 + (-7046029254386353131 : Int64))).mpr (own_back (q0 + (-7046029254386353131 : Int64))))).2) (XS.lload X25.here hx rfl (hb hby at_75) rfl k_)))))))) ?_
  obtain ⟨_, _, ⟨T27, L27, k27, n27⟩, -, X27, ⟨Lc27, hQ27, l27, y27, z27⟩, st27⟩ := Jvm.LawKit.callS X25 hx (y := (⟨"com/example/orunmila/orunmila/simulate/SplitMix64NextLongPinLaw", "unmix", "(J)J"⟩ : MethodName)) hown (mvT hZ (hw _ (List.mem_of_getElem? (i := 26) rfl))) (mvT hZ (hw _ (List.mem_of_getElem? (i := 27) rfl))) (mvT hZ (hw _ (List.mem_of_getElem? (i := 22) rfl))) (mvT hZ (hw _ (List.mem_of_getElem? (i := 28) rfl))) (by decide) (backOf (W := 0) (own_rm_un l Z a0 hw [] (own_mix ((q0 + (-7046029254386353131 : Int64)) + (-7046029254386353131 : Int64))) T15.heap n0 f18) hZ (hw _ (List.mem_of_getElem? (i := 28) rfl)) (hw _ (List.mem_of_getElem? (i := 22) rfl)) (by decide) (by decide)) (g := (mkF m 77 #[.val (.long q0), .second, .val (.ref b), .val (.long (own_mix (q0 + (-7046029254386353131 : Int64)))), .second, .val (.long (own_mix ((q0 + (-7046029254386353131 : Int64)) + (-7046029254386353131 : Int64)))), .second, .val (.int (1 : Int32))] [(.long (own_mix ((q0 + (-7046029254386353131 : Int64)) + (-7046029254386353131 : Int64))))])) rfl (by rw [hml]; rfl) (argsL := [(.long (own_mix ((q0 + (-7046029254386353131 : Int64)) + (-7046029254386353131 : Int64))))]) (rest := []) (lenOf own_pd_0 rfl) rfl (by show 2 * 0 + _ ≤ _; exact Nat.le_of_eq rfl) (hb hby at_77) (fun _ _ => ⟨rfl, e25, Nat.le_of_ble_eq_true rfl, Nat.le_of_ble_eq_true rfl⟩)
  dsimp only [Pt.U, Pt.locs, Pt.cells, Pt.slots] at X27 l27 y27 z27 st27 hQ27
  subst l27 y27 z27
  obtain ⟨rfl, N27, e27⟩ := hQ27
  have N28 := Fr.app N26 N27
  refine own_of (T' := T27) (f' := (mkF m 93 #[.val (.long q0), .second, .val (.ref b), .val (.long (own_mix (q0 + (-7046029254386353131 : Int64)))), .second, .val (.long (own_mix ((q0 + (-7046029254386353131 : Int64)) + (-7046029254386353131 : Int64)))), .second, .val (.int (1 : Int32))] [])) (fun t_ k_ => (st27 _ (XS.lloadN X27.here hx rfl (hb hby at_80) rfl (Jvm.Stand.ldc2J X27 hx hown (mvT hZ (hw _ (List.mem_of_getElem? (i := 29) rfl))) rfl (hb hby at_81) (XS.ladd X27.here hx rfl (hb hby at_84) rfl (Jvm.Stand.ldc2J X27 hx hown (mvT hZ (hw _ (List.mem_of_getElem? (i := 29) rfl))) rfl (hb hby at_85) (XS.ladd X27.here hx rfl (hb hby at_88) rfl (XS.lcmp X27.here hx rfl (hb hby at_89) rfl (XS.ifNo X27.here hx rfl (hb hby at_90) rfl ((if0 _ _).trans (teq ((lw_eq (own_un (own_mix ((q0 + (-7046029254386353131 : Int64)) + (-7046029254386353131 : Int64)))) ((q0 + (-7046029254386353131 : Int64)) + (-7046029254386353131 : Int64))).mpr (own_back ((q0 + (-7046029254386353131 : Int64)) + (-7046029254386353131 : Int64))))).2) k_))))))))) ?_
  refine own_of (T' := T27) (f' := (mkF m 98 #[.val (.long q0), .second, .val (.ref b), .val (.long (own_mix (q0 + (-7046029254386353131 : Int64)))), .second, .val (.long (own_mix ((q0 + (-7046029254386353131 : Int64)) + (-7046029254386353131 : Int64)))), .second, .val (.int (1 : Int32))] [(.int (1 : Int32))])) (fun t_ k_ => (XS.iconst X27.here hx rfl (hb hby at_93) (XS.goto X27.here hx rfl (pc0 := 94) (pc' := 98) rfl (hb hby at_94) (by decide) (by decide) k_))) ?_
  obtain ⟨fs, hr, hrun, hended, hW, hsame⟩ := X27.leave (v := some (.int (1 : Int32))) (fun h => by rw [Bd.returns] at h; cases h)
  exact ⟨_, _, retN X27 hx (t := .boolean) Bd.returns (by simp) (hb hby at_98) hr, hrun, hended, _, _, rfl, (by show own_Q_0 Z q0  h0 n0 _ T27.heap _; rw [e27]; exact ⟨rfl, N28⟩), ⟨_, rfl⟩, hW, hsame.mono (by decide) (by decide)⟩
set_option maxRecDepth 65536 in
set_option maxHeartbeats 40000000 in
theorem own_comes_1 {Post : Tables → Env → Array Value → State → Outcome → State → Prop} (hpost : ∀ tb e args s v u, (limb_1_1.after args s (.returned v) u = true ∧ limb_1_2.after args s (.returned v) u = true ∧ True) → FrameEnd s (.returned v) u (Jvm.fieldLocs frame_1_writes args s ++ Jvm.arrayLocs frame_1_arrays args s ++ Jvm.staticLocs frame_1_statics s) 16 128 → Post tb e args s (.returned v) u) :
    ArmFor flags0 classFile x code maxLocals ret World_1 tables_1 room_1 Calls_1 rest_1 Pre_1 Post := by
  intro l hfl _ _ p e ha hc hk s m args below hf hA hF happ hP
  obtain ⟨hcalls, hrest, hpre⟩ := hP
  obtain ⟨-, -, -, hnamed, -, -, -, hat⟩ := (Spec.applies_iff hf).mp happ
  obtain ⟨hg, hn⟩ := and_e (Cond.before_iff.mp (show (Jvm.Cond.and given_1 narrow_1).before args s = true from hpre))
  obtain ⟨hg0, hg⟩ := and_e hg
  have ga0 := hg
  obtain ⟨w0, rfl⟩ : ∃ w0 : Value, args = #[w0] := by
    have hs : args.size = 1 := by simpa [Cond.value, given_1] using hg0
    obtain ⟨L⟩ := args
    match L, hs with
    | [w0], _ => exact ⟨w0, rfl⟩
  have hw := fun d (hd : d ∈ tables_1) => atoms_spec (ws := Jvm.Cond.code x code maxLocals ret :: tables_1) hat d (List.mem_cons_of_mem _ hd)
  have hfit : Fit s := fun {y c} hc i hi => by
    obtain ⟨ha, rfl⟩ := Array.getElem?_eq_some_iff.mp hc
    have q := List.all_eq_true.mp ((Array.all_eq_true_iff_forall_mem.mp hF) _ (Array.getElem_mem ha)) i (List.mem_range.mpr hi)
    simpa [Array.getElem?_eq_getElem hi] using q
  obtain ⟨i0, ei0⟩ := isL_v ga0
  obtain rfl : w0 = (.long i0) := Option.some.inj ei0
  obtain ⟨n, o, h1, h2, h3, _, L, rfl, ⟨rfl, N⟩, hq⟩ := own_rm_0 l s _ hw tables_1 i0 s.heap s.heap.size (Nat.le_refl _) p e ha hc hk s m _ below hf ((Spec.applies_iff_loose hf).mp happ).1 ⟨rfl, State.Warmed39.refl s, rfl⟩ trivial
  refine ⟨n, _, h1, h2, h3, hpost _ _ _ _ _ _ ⟨Cond.after_iff.mpr rfl, Cond.after_iff.mpr (eq_i res_at (Term.int_eval (1)) rfl), trivial⟩ ⟨hq.1, hq.2.1, (hq.2.2.sift fun y hy => Or.inr (N y hy)).mono (by decide) (by decide)⟩⟩
theorem main_1_1 : Claimed_1_1 := own_comes_1 fun _ _ _ _ _ _ h hF => ⟨h.1, hF⟩
theorem main_1_2 : Claimed_1_2 := own_comes_1 fun _ _ _ _ _ _ h hF => ⟨h.2.1, hF⟩
end Jvm.Pilot.@@N@@
namespace Jvm.Pilot.@@N@@
open Jvm Jvm.ClassFile Sem Op Lib Jvm.Free Jvm.Stand Jvm.Pilot.@@N@@.Jvm.D
/-! MADE BY PROGRAM (witnessworld.py) out of the Statement's table words and the real class files: 9 classes; the members and pool entries that the words name. The judged class is class 1, her method 3. -/
namespace start1
open Jvm.ClassFile
def u (s : String) : CpInfo := .utf8 (stringToUtf16 s)
/-- a pool by its gaps: so many unusable entries, then the entry; so many at the end -/
def gap : Nat → List CpInfo → List CpInfo
  | 0, r => r
  | n + 1, r => .unusable :: gap n r
def poolList (es : List (Nat × CpInfo)) (last : Nat) : List CpInfo := es.foldr (fun e r => gap e.1 (e.2 :: r)) (gap last [])
def pool (es : List (Nat × CpInfo)) (last : Nat) : Array CpInfo := ⟨poolList es last⟩
def fileOf (pool : Array CpInfo) (this : Nat) (attrs : Array Attribute := #[]) (ms : Array MethodInfo := #[]) (fl : Nat := 33) (sup : Nat := 0) (ifs : Array Nat := #[]) (fds : Array FieldInfo := #[]) : ClassFile where
  minorVersion := 0
  majorVersion := 65
  constantPool := pool
  accessFlags := fl
  thisClass := this
  superClass := sup
  interfaces := ifs
  fields := fds
  methods := ms
  attributes := attrs
def plain (name : String) (sup : Option ClassId) : Class where
  name := name
  kind := .ordinary
  loader := none
  accessFlags := 33
  super := sup
  interfaces := #[]
  cf := none
  fields := #[]
  methods := #[]
  instanceTypes := #[]
  staticTypes := #[]
  resolved := #[]
  callSites := []
  init := .initialized
  statics := none
  mirror := none

def pool0 : Array CpInfo := pool [(5, u "<init>"), (0, u "()V"), (1, .class_ 10), (1, u "java/lang/Object")] 113

def k0c0 : Code := { maxStack := 0, maxLocals := 1, code := object_method_1_code, exceptionTable := #[], attributes := #[] }
def k0m0 : Method := { name := "<init>", desc := "()V", sig := { parameters := [], returnType := none }, accessFlags := 1, code := some k0c0 }
/-- java/lang/Object -/
def k0 : Class := { plain "java/lang/Object" none with
  accessFlags := 33
  interfaces := #[]
  cf := some (fileOf pool0 8 #[] #[{ accessFlags := 1, nameIndex := 5, descriptorIndex := 6, attributes := #[] }] 33 0 #[] #[])
  fields := #[]
  methods := #[k0m0]
  instanceTypes := #[]
  staticTypes := #[]
  resolved := Array.replicate 124 none
  statics := none }

def pool1 : Array CpInfo := pool [(2, .class_ 4), (1, u "java/lang/Object"), (0, u "<init>"), (0, u "()V"), (0, .long 2), (1, .long 10723151780598845931), (1, .methodref 12 13), (0, .class_ 14), (0, .nameAndType 15 16), (0, u "com/example/orunmila/orunmila/simulate/SplitMix64NextLongPinLaw"), (0, u "inverseOdd"), (0, u "(J)J"), (0, .long 13787848793156543929), (1, .class_ 20), (0, u "com/example/orunmila/orunmila/simulate/SplitMix64"), (0, .methodref 19 22), (0, .nameAndType 5 23), (0, u "(J)V"), (0, .methodref 19 25), (0, .nameAndType 26 27), (0, u "nextLong"), (0, u "()J"), (0, .methodref 12 29), (0, .nameAndType 30 16), (0, u "unmix"), (0, .long 11400714819323198485), (3, u "law"), (0, u "(J)Z")] 3

def k1m0 : Method := { name := "<init>", desc := "()V", sig := { parameters := [], returnType := none }, accessFlags := 1, code := none }
def k1c1 : Code := { maxStack := 8, maxLocals := 4, code := method_2_code, exceptionTable := #[], attributes := #[] }
def k1m1 : Method := { name := "inverseOdd", desc := "(J)J", sig := { parameters := [.long], returnType := some .long }, accessFlags := 10, code := some k1c1 }
def k1c2 : Code := { maxStack := 5, maxLocals := 4, code := method_3_code, exceptionTable := #[], attributes := #[] }
def k1m2 : Method := { name := "unmix", desc := "(J)J", sig := { parameters := [.long], returnType := some .long }, accessFlags := 10, code := some k1c2 }
def k1c3 : Code := { maxStack := 6, maxLocals := 8, code := code, exceptionTable := #[], attributes := #[] }
def k1m3 : Method := { name := "law", desc := "(J)Z", sig := { parameters := [.long], returnType := some .boolean }, accessFlags := 9, code := some k1c3 }
/-- com/example/orunmila/orunmila/simulate/SplitMix64NextLongPinLaw -/
def k1 : Class := { plain "com/example/orunmila/orunmila/simulate/SplitMix64NextLongPinLaw" (some 0) with
  accessFlags := 49
  interfaces := #[]
  cf := some (fileOf pool1 12 #[] #[{ accessFlags := 1, nameIndex := 5, descriptorIndex := 6, attributes := #[] }, { accessFlags := 10, nameIndex := 15, descriptorIndex := 16, attributes := #[] }, { accessFlags := 10, nameIndex := 30, descriptorIndex := 16, attributes := #[] }, { accessFlags := 9, nameIndex := 35, descriptorIndex := 36, attributes := #[] }] 49 2 #[] #[])
  fields := #[]
  methods := #[k1m0, k1m1, k1m2, k1m3]
  instanceTypes := #[]
  staticTypes := #[]
  resolved := Array.replicate 40 none
  statics := none }

def pool2 : Array CpInfo := pool [(1, .methodref 2 3), (0, .class_ 4), (0, .nameAndType 5 6), (0, u "java/lang/Object"), (0, u "<init>"), (0, u "()V"), (0, .fieldref 8 9), (0, .class_ 10), (0, .nameAndType 11 12), (0, u "com/example/orunmila/orunmila/simulate/SplitMix64"), (0, u "m_nState"), (0, u "J"), (0, .long 11400714819323198485), (1, .long 13787848793156543929), (1, .long 10723151780598845931), (3, u "nextLong"), (0, u "()J"), (28, u "Ljava/math/BigInteger;"), (19, u "UNSIGNED_LONG"), (10, u "GAMMA"), (1, u "FIRST_MULTIPLIER"), (0, u "SECOND_MULTIPLIER"), (0, u "DOUBLE_STEP"), (0, u "D"), (0, u "(J)V")] 24

def k2c0 : Code := { maxStack := 3, maxLocals := 3, code := prog_72_method_1_code, exceptionTable := #[], attributes := #[] }
def k2m0 : Method := { name := "<init>", desc := "(J)V", sig := { parameters := [.long], returnType := none }, accessFlags := 1, code := some k2c0 }
def k2c1 : Code := { maxStack := 5, maxLocals := 3, code := prog_72_method_2_code, exceptionTable := #[], attributes := #[] }
def k2m1 : Method := { name := "nextLong", desc := "()J", sig := { parameters := [], returnType := some .long }, accessFlags := 1, code := some k2c1 }
/-- com/example/orunmila/orunmila/simulate/SplitMix64 -/
def k2 : Class := { plain "com/example/orunmila/orunmila/simulate/SplitMix64" (some 0) with
  accessFlags := 33
  interfaces := #[]
  cf := some (fileOf pool2 8 #[] #[{ accessFlags := 1, nameIndex := 5, descriptorIndex := 88, attributes := #[] }, { accessFlags := 1, nameIndex := 21, descriptorIndex := 22, attributes := #[] }] 33 2 #[] #[{ accessFlags := 26, nameIndex := 82, descriptorIndex := 12, attributes := #[] }, { accessFlags := 26, nameIndex := 84, descriptorIndex := 12, attributes := #[] }, { accessFlags := 26, nameIndex := 85, descriptorIndex := 12, attributes := #[] }, { accessFlags := 26, nameIndex := 86, descriptorIndex := 87, attributes := #[] }, { accessFlags := 26, nameIndex := 71, descriptorIndex := 51, attributes := #[] }, { accessFlags := 2, nameIndex := 11, descriptorIndex := 12, attributes := #[] }])
  fields := #[{ name := "GAMMA", type := .long, accessFlags := 26, slot := 0, constantValue := 0 }, { name := "FIRST_MULTIPLIER", type := .long, accessFlags := 26, slot := 1, constantValue := 0 }, { name := "SECOND_MULTIPLIER", type := .long, accessFlags := 26, slot := 2, constantValue := 0 }, { name := "DOUBLE_STEP", type := .double, accessFlags := 26, slot := 3, constantValue := 0 }, { name := "UNSIGNED_LONG", type := (.object "java/math/BigInteger"), accessFlags := 26, slot := 4, constantValue := 0 }, { name := "m_nState", type := .long, accessFlags := 2, slot := 0, constantValue := 0 }]
  methods := #[k2m0, k2m1]
  instanceTypes := #[.long]
  staticTypes := #[.long, .long, .long, .double, (.object "java/math/BigInteger")]
  resolved := Array.replicate 113 none
  statics := none }

def pool3 : Array CpInfo := pool [(1, u "java/lang/Cloneable"), (0, .class_ 1), (0, u "java/lang/Object"), (0, .class_ 3)] 3

/-- java/lang/Cloneable -/
def k3 : Class := { plain "java/lang/Cloneable" (some 0) with
  accessFlags := 1537
  interfaces := #[]
  cf := some (fileOf pool3 2 #[] #[] 1537 4 #[] #[])
  fields := #[]
  methods := #[]
  instanceTypes := #[]
  staticTypes := #[]
  resolved := Array.replicate 8 none
  statics := none }

def pool4 : Array CpInfo := pool [(1, u "java/io/Serializable"), (0, .class_ 1), (0, u "java/lang/Object"), (0, .class_ 3)] 3

/-- java/io/Serializable -/
def k4 : Class := { plain "java/io/Serializable" (some 0) with
  accessFlags := 1537
  interfaces := #[]
  cf := some (fileOf pool4 2 #[] #[] 1537 4 #[] #[])
  fields := #[]
  methods := #[]
  instanceTypes := #[]
  staticTypes := #[]
  resolved := Array.replicate 8 none
  statics := none }

/-- the primitive byte -/
def k5 : Class := { plain "byte" none with kind := .primitive 'B', accessFlags := 0x411 }
/-- [B -/
def k6 : Class := { plain "[B" (some 0) with kind := .array 5 .byte, interfaces := #[3, 4], accessFlags := 1041 }

/-- the primitive int -/
def k7 : Class := { plain "int" none with kind := .primitive 'I', accessFlags := 0x411 }
/-- [I -/
def k8 : Class := { plain "[I" (some 0) with kind := .array 7 .int, interfaces := #[3, 4], accessFlags := 1041 }

def heap : Heap := #[]
def classes : Array Class := #[k0, k1, k2, k3, k4, k5, k6, k7, k8]
def interned : List (Array UInt16 × Addr) := []
def slotsUsed : Nat := 0
def theMethod : MethodId := ⟨1, 3⟩
def args0 : Array Value := #[.long 5]
def aboutOver (below : List Frame) : State where
  vm := { classes := classes, interned := interned.toArray }
  heap := heap
  slotsUsed := slotsUsed
  threads := #[{ frames := .invoking theMethod args0 :: below }]
def below0 : List Frame := [.native { method := ⟨0, 0⟩, args := #[] }]
def about1 : State := aboutOver below0
def p0 : Program := .bare "" "" ""
def e0 : Env := launch0.env 0 0 0
theorem w_frames : about1.frames = Frame.invoking theMethod args0 :: below0 := rfl
set_option maxRecDepth 65536 in
theorem w_args : argsFit about1.vm theMethod args0 = true := by decide +kernel
set_option maxRecDepth 65536 in
theorem w_heap : heapFits about1 = true := by decide +kernel
set_option maxRecDepth 65536 in
theorem w_runnable : about1.curStatus? = some .runnable := by decide +kernel
set_option maxRecDepth 65536 in
theorem w_alone : about1.alone = true := by decide +kernel
set_option maxRecDepth 65536 in
theorem w_named : about1.methodNamed? x = some theMethod := by decide +kernel
set_option maxRecDepth 65536 in
theorem w_hears : about1.hears theMethod below0 = true := by decide +kernel
set_option maxRecDepth 65536 in
theorem w_ripe : about1.ripe theMethod args0 below0 = true := by decide +kernel
theorem w_running : about1.status = .running := rfl
set_option maxRecDepth 65536 in
theorem w_room : about1.hasRoom e0.platform room_1 = true :=
  launch0.hasRoom_least _ room_1 (by decide +kernel) (by decide +kernel) (by decide +kernel) (by decide +kernel) (by decide +kernel) (by decide +kernel)
theorem allAtoms_all (ts : List Jvm.Cond) (a : Array Jvm.Value) (st : Jvm.State) : (allAtoms ts).before a st = ts.all (fun c => c.before a st) := by
  induction ts with
  | nil => rfl
  | cons c t ih =>
    show (Jvm.Cond.and c (allAtoms t)).before a st = _
    rw [Jvm.Cond.before_and, ih, List.all_cons]
def words1 : List Jvm.Cond := Jvm.Cond.code x code maxLocals ret :: tables_1
/-- a 'code' word, met by the world's own term for the bytes: nothing is compared byte by byte -/
theorem code_word {y : MethodName} {bytes : ByteArray} {mx : Nat} {rt : Option FieldType} {a : Array Value} {s : State} {m : MethodId} {meth : Method} {c : Code} (h1 : s.methodNamed? y = some m) (h2 : s.vm.method? m = some meth) (h3 : meth.code = some c) (h4 : c.code = bytes)
    (h5 : (c.maxLocals == mx && c.exceptionTable.isEmpty && decide (c.maxStack ≤ mostOperands) && decide (meth.sig.returnType = rt) && !meth.locks && decide (parseMethodDescriptor y.desc = some meth.sig)) = true) : (Jvm.Cond.code y bytes mx rt).before a s = true := by
  simp only [Bool.and_eq_true, beq_iff_eq, Bool.not_eq_true', decide_eq_true_eq] at h5
  obtain ⟨⟨⟨⟨⟨g1, g2⟩, g3⟩, g4⟩, g5⟩, g6⟩ := h5
  simp [Cond.before, Cond.holds, Cond.value, h1, h2, h3, h4, g1, g2, g3, g4, g5, g6]
def isCode : Jvm.Cond → Bool
  | .code _ _ _ _ => true
  | _ => false
theorem all_split {L : List Jvm.Cond} {P : Jvm.Cond → Bool} (h1 : L.all (fun c => isCode c || P c) = true) (h2 : ∀ c ∈ L.filter isCode, P c = true) : L.all P = true := by
  refine List.all_eq_true.mpr fun c hc => ?_
  have h := List.all_eq_true.mp h1 c hc
  rcases Bool.eq_false_or_eq_true (isCode c) with hi | hi
  · exact h2 c (List.mem_filter.mpr ⟨hc, hi⟩)
  · simpa [hi] using h
set_option maxRecDepth 65536 in
theorem w_c0 : (Jvm.Cond.code x code maxLocals ret).before args0 about1 = true := code_word (m := ⟨1, 3⟩) (meth := k1m3) (c := k1c3) (by decide +kernel) rfl rfl rfl (by decide +kernel)
set_option maxRecDepth 65536 in
theorem w_c1 : (Jvm.Cond.code ({ cls := "com/example/orunmila/orunmila/simulate/SplitMix64", name := "<init>", desc := "(J)V" } : Jvm.MethodName) prog_72_method_1_code (3 : Nat) (Option.none : Option Jvm.ClassFile.FieldType)).before args0 about1 = true := code_word (m := ⟨2, 0⟩) (meth := k2m0) (c := k2c0) (by decide +kernel) rfl rfl rfl (by decide +kernel)
set_option maxRecDepth 65536 in
theorem w_c2 : (Jvm.Cond.code ({ cls := "java/lang/Object", name := "<init>", desc := "()V" } : Jvm.MethodName) object_method_1_code (1 : Nat) (Option.none : Option Jvm.ClassFile.FieldType)).before args0 about1 = true := code_word (m := ⟨0, 0⟩) (meth := k0m0) (c := k0c0) (by decide +kernel) rfl rfl rfl (by decide +kernel)
set_option maxRecDepth 65536 in
theorem w_c3 : (Jvm.Cond.code ({ cls := "com/example/orunmila/orunmila/simulate/SplitMix64", name := "nextLong", desc := "()J" } : Jvm.MethodName) prog_72_method_2_code (3 : Nat) (Option.some Jvm.ClassFile.FieldType.long)).before args0 about1 = true := code_word (m := ⟨2, 1⟩) (meth := k2m1) (c := k2c1) (by decide +kernel) rfl rfl rfl (by decide +kernel)
set_option maxRecDepth 65536 in
theorem w_c4 : (Jvm.Cond.code ({ cls := "com/example/orunmila/orunmila/simulate/SplitMix64NextLongPinLaw", name := "inverseOdd", desc := "(J)J" } : Jvm.MethodName) method_2_code (4 : Nat) (Option.some Jvm.ClassFile.FieldType.long)).before args0 about1 = true := code_word (m := ⟨1, 1⟩) (meth := k1m1) (c := k1c1) (by decide +kernel) rfl rfl rfl (by decide +kernel)
set_option maxRecDepth 65536 in
theorem w_c5 : (Jvm.Cond.code ({ cls := "com/example/orunmila/orunmila/simulate/SplitMix64NextLongPinLaw", name := "unmix", desc := "(J)J" } : Jvm.MethodName) method_3_code (4 : Nat) (Option.some Jvm.ClassFile.FieldType.long)).before args0 about1 = true := code_word (m := ⟨1, 2⟩) (meth := k1m2) (c := k1c2) (by decide +kernel) rfl rfl rfl (by decide +kernel)
def codes1 : List Jvm.Cond := [Jvm.Cond.code x code maxLocals ret, Jvm.Cond.code ({ cls := "com/example/orunmila/orunmila/simulate/SplitMix64", name := "<init>", desc := "(J)V" } : Jvm.MethodName) prog_72_method_1_code (3 : Nat) (Option.none : Option Jvm.ClassFile.FieldType), Jvm.Cond.code ({ cls := "java/lang/Object", name := "<init>", desc := "()V" } : Jvm.MethodName) object_method_1_code (1 : Nat) (Option.none : Option Jvm.ClassFile.FieldType), Jvm.Cond.code ({ cls := "com/example/orunmila/orunmila/simulate/SplitMix64", name := "nextLong", desc := "()J" } : Jvm.MethodName) prog_72_method_2_code (3 : Nat) (Option.some Jvm.ClassFile.FieldType.long), Jvm.Cond.code ({ cls := "com/example/orunmila/orunmila/simulate/SplitMix64NextLongPinLaw", name := "inverseOdd", desc := "(J)J" } : Jvm.MethodName) method_2_code (4 : Nat) (Option.some Jvm.ClassFile.FieldType.long), Jvm.Cond.code ({ cls := "com/example/orunmila/orunmila/simulate/SplitMix64NextLongPinLaw", name := "unmix", desc := "(J)J" } : Jvm.MethodName) method_3_code (4 : Nat) (Option.some Jvm.ClassFile.FieldType.long)]
set_option maxRecDepth 65536 in
theorem codes_eq : words1.filter isCode = codes1 := rfl
theorem w_codes : ∀ c ∈ words1.filter isCode, c.before args0 about1 = true := by
  rw [codes_eq]
  intro c hc
  simp only [codes1, List.mem_cons, List.not_mem_nil, or_false] at hc
  rcases hc with rfl | rfl | rfl | rfl | rfl | rfl
  · exact w_c0
  · exact w_c1
  · exact w_c2
  · exact w_c3
  · exact w_c4
  · exact w_c5
set_option maxRecDepth 65536 in
theorem w_t1 : (words1.take 24).all (fun c => isCode c || c.before args0 about1) = true := by decide +kernel
set_option maxRecDepth 65536 in
theorem w_t2 : (words1.drop 24).all (fun c => isCode c || c.before args0 about1) = true := by decide +kernel
theorem w_tables : (allAtoms (Jvm.Cond.code x code maxLocals ret :: tables_1)).before args0 about1 = true := by
  rw [allAtoms_all]
  show words1.all (fun c => c.before args0 about1) = true
  refine all_split ?_ w_codes
  rw [← List.take_append_drop 24 words1, List.all_append, w_t1, w_t2]
  rfl
set_option maxRecDepth 65536 in
theorem w_case : (Jvm.Cond.and given_1 narrow_1).before args0 about1 = true := by decide +kernel
theorem w_applies : (headSpec (Jvm.Cond.code x code maxLocals ret :: tables_1) room_1).applies x e0.platform about1 = true :=
  (Spec.applies_iff w_frames).mpr ⟨w_running, w_runnable, w_alone, w_named, w_hears, w_ripe, w_room, w_tables⟩
theorem atStart : AtStart classFile x code maxLocals ret World_1 tables_1 room_1 Calls_1 rest_1 Pre_1 launch0 p0 e0 about1 theMethod args0 below0 :=
  ⟨lists_1, trivial, launch0.admits_env _ _ _, launch0.least_env, fairChoices_fair.cas, fairChoices_fair.clock, w_frames, w_args, w_heap, w_applies, trivial, trivial, w_case⟩
end start1
theorem witness_1 : WitnessClaimed_1 := ⟨start1.p0, start1.e0, start1.about1, start1.theMethod, start1.args0, start1.below0, start1.atStart⟩
end Jvm.Pilot.@@N@@
