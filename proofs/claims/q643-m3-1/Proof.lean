import JvmDerived
import JvmDerived.Pilot.@@N@@Statement
import JvmDerived.Pilot.@@N@@Code
set_option linter.unusedVariables false
set_option linter.unusedSimpArgs false
namespace Jvm.RoadKit
open Sem ClassFile Op Lib Jvm.Stand Jvm.Free Jvm.LawKit
section Own
variable {p : Program} {l : Launch} {e : Env} {R : Room} {s : State} {m : MethodId} {args : Array Value} {below : List Frame} {meth : Method} {c : Code} {T : State} {locs : List Loc} {cells slots : Nat}
theorem retI (X : Stand p l e R s m args below meth c T locs cells slots) (hx : p.tables.exec = Jvm.exec) {pc : Nat} {Ls : Array Slot} {z : Int32} {rest : List Value} (hret : meth.sig.returnType = some .int) (hd : decode c.code pc = .ok (.ireturn, 1)) {fs : List Frame}
    (hl : ∀ (f : JFrame) (acts : List Action), f.method = m → f.locked = none → f.entered = [] → (doReturn e (T.setTop f) acts (some (.int z))).1 = T.setFrames fs) : Steps p.tables e below (T.setTop (mkF m pc Ls (.int z :: rest))) (T.setFrames fs) :=
  retOut X hx hret rfl (Or.inl ⟨rfl, Or.inl rfl, _, rfl⟩) hd hl
variable {Q : Option Value → Heap → List Loc → Prop} {kc ks : Nat} {S S' : State}
section H
variable {Z : State} {EL : List (String × Nat)} {QH : Option Value → Heap → List Loc → (Addr → Prop) → Prop} {a0 : Array Value} {h : Heap} {vm0 : Vm}
/-- a callee that may intern, at a site: what is Safe there goes in, what is Safe at its end comes out -/
theorem backOfY {y : MethodName} {bytes : ByteArray} {maxL : Nat} {ret : Option FieldType} {rm : Room} {len W : Nat} {as' : Array Value} {sf : List Addr}
    (hM : MetFree l y (head1 [Cond.code y bytes maxL ret] rm) (fun a U => a = as' ∧ Z.Warmed39 U.vm ∧ U.heap = h ∧ CHv Z EL U.vm h ∧ ∀ x ∈ sf, Safe Z EL U.vm h x) (fun _ _ _ _ _ => True) (fun _ U o U' => ∃ v L, o = .returned v ∧ QH v U'.heap L (Safe Z EL U'.vm U'.heap) ∧ CHr Z EL U.vm U.heap U'.vm U'.heap ∧ ReturnedEndW U o U' L rm.cells rm.slots))
    (hZ : Z.Warmed39 vm0) (wc : (Cond.code y bytes maxL ret).before a0 Z = true) (wz : (Cond.initialized y.cls).before a0 Z = true) (hf : rm.frames + 1 ≤ R.frames) (hl : W + (maxL + 11) + rm.locals ≤ R.locals) (hEL : EW Z a0 EL) (H : CHv Z EL vm0 h) (hs : ∀ x ∈ sf, Safe Z EL vm0 h x) (hlt : ∀ x ∈ sf, x < h.size) :
    BackS l R p e below (s.setVm vm0) args y len W (fun A a => a = as' ∧ A.U.heap = h ∧ A.cells + rm.cells ≤ R.cells ∧ A.slots + rm.slots ≤ R.slots)
      (fun A _ v B => ∃ L, QH v B.U.heap L (Safe Z EL B.U.vm B.U.heap) ∧ B.locs = A.locs ++ L ∧ B.cells = A.cells + rm.cells ∧ B.slots = A.slots + rm.slots ∧ CHr Z EL vm0 h B.U.vm B.U.heap) := by
  refine BackS.of_freeW (bytes := bytes) (maxL := maxL) (ret := ret) (E := fun _ first o t L k n => k = rm.cells ∧ n = rm.slots ∧ (∃ v, o = .returned v ∧ QH v t.heap L (Safe Z EL t.vm t.heap)) ∧ CHr Z EL first.vm first.heap t.vm t.heap) hM hf hl ?_ ?_ (fun _ _ _ _ _ _ _ _ _ => trivial) ?_ ?_
  · intro m meth c A a Y hp
    have hU : Z.Warmed39 A.U.vm := wtrans (s := s.setVm vm0) hZ Y.warmed
    exact ⟨by show (Cond.and _ .tt).before a A.U = true; rw [Cond.before_and, mv hU wc]; rfl, mv hU wc, mv hU wz, hp.2.2.1, hp.2.2.2⟩
  · intro m meth c A a g mk Y hp
    have q := CHv.at Y hZ hEL H
    exact ⟨hp.1, wtrans (s := s.setVm vm0) hZ Y.warmed, hp.2.1, q.1, fun x hx => q.safe (hlt x hx) (hs x hx)⟩
  · rintro _ _ _ _ ⟨v, L, h1, h2, h3, h4⟩
    exact ⟨L, _, _, h4, rfl, rfl, ⟨v, h1, h2⟩, h3⟩
  · rintro m meth c A a g mk v t L k n Y hp - - ⟨e1, e2, ⟨v', e3, e4⟩, e5⟩
    cases e3; subst e1 e2
    refine ⟨L, e4, rfl, rfl, rfl, (CHv.at Y hZ hEL H).trans ?_⟩
    rw [← hp.2.1]; exact e5
end H
theorem own_len {Z : State} {args : Array Value} {t : Term} {a : Addr} {c : Cell} {ty : FieldType} {z : Int32} (ev : t.eval args Z none [] Z = some (.ref a)) (A : Arr Z Z.heap a c ty) (h : (Cond.eq (.length t) (.int z)).value args Z none Z [] = some true) : c.slots.size < 2 ^ 31 ∧ c.slots.size.toInt32 = z := by
  have ha := A.fin (U := Z) (Vm.Alike.refl _)
  by_cases q : c.slots.size < 2 ^ 31
  · exact ⟨q, gotT (Cond.eq_ints (len_f ev ha q) (Term.int_eval z)) h⟩
  · simp [Cond.value, Term.eval, ev, ha, q] at h
theorem own_narref {t : FieldType} {w : Value} (h : w.isRef = true) : narrow t w = w := by
  rcases XT.refc h with rfl | ⟨r, rfl⟩ <;> cases t <;> rfl
theorem own_fitsref {t : FieldType} {w : Value} (ht : t.isReference = true) (h : w.isRef = true) : fits t w = true := by
  rcases XT.refc h with rfl | ⟨r, rfl⟩ <;> cases t <;> first | rfl | (cases ht)
theorem nar_c (x : Int32) : nar .char x.toUInt32.toUInt16.toUInt32.toInt32 = x.toUInt32.toUInt16.toUInt32.toInt32 := by
  have := XT.narrow_c x
  simpa [narrow, nar] using this
theorem nar_b (x : Int32) : nar .byte x.toInt8.toInt32 = x.toInt8.toInt32 := by
  have := XT.narrow_b x
  simpa [narrow, nar] using this
theorem nar_ite {P : Prop} [Decidable P] : nar .boolean (if P then (1 : Int32) else 0) = (if P then (1 : Int32) else 0) := by split <;> decide
theorem nar_ite' {P : Prop} [Decidable P] : nar .boolean (if P then (0 : Int32) else 1) = (if P then (0 : Int32) else 1) := by split <;> decide
theorem narrow_nar {t : FieldType} {z : Int32} (ht : t = .boolean ∨ t = .byte ∨ t = .char ∨ t = .short) (h : nar t z = z) : narrow t (.int z) = .int z := by
  have hn : narrow t (.int z) = .int (nar t z) := by rcases ht with rfl | rfl | rfl | rfl <;> rfl
  rw [hn, h]
end Own
/-- the run that stands in S ends as E says -/
def Runs (p : Program) (e : Env) (below : List Frame) (E : State → Outcome → Prop) (S : State) : Prop :=
  ∃ s₂ o, Steps p.tables e below S s₂ ∧ s₂.status = .running ∧ Ended s₂ below o ∧ E s₂ o
theorem Runs.by {p : Program} {e : Env} {below : List Frame} {E : State → Outcome → Prop} {S S' : State} (k : Runs p e below E S') (st : ∀ t, Steps p.tables e below S' t → Steps p.tables e below S t) : Runs p e below E S := by
  obtain ⟨s₂, o, h1, h2⟩ := k
  exact ⟨s₂, o, st _ h1, h2⟩
theorem Runs.tr {p : Program} {e : Env} {below : List Frame} {E : State → Outcome → Prop} {S S' : State} (k : Runs p e below E S') (st : Steps p.tables e below S S') : Runs p e below E S := by
  obtain ⟨s₂, o, h1, h2⟩ := k
  exact ⟨s₂, o, st.trans h1, h2⟩
def EndN (s : State) (Q : Option Value → Heap → List Loc → Prop) (kc ks : Nat) : State → Outcome → Prop := fun s₂ o => ∃ v L, o = .returned v ∧ Q v s₂.heap L ∧ FrameEnd s o s₂ L kc ks
def EndH (s Z : State) (EL : List (String × Nat)) (Q : Option Value → Heap → List Loc → (Addr → Prop) → Prop) (kc ks : Nat) : State → Outcome → Prop := fun s₂ o => ∃ v L, o = .returned v ∧ Q v s₂.heap L (Safe Z EL s₂.vm s₂.heap) ∧ CHr Z EL s.vm s.heap s₂.vm s₂.heap ∧ ReturnedEndW s o s₂ L kc ks
def MirO (Z : State) (C : String) (m : Addr) : Prop := ∃ (c : ClassId) (k : Class), Z.vm.findClass C = some c ∧ Z.vm.classes[c]? = some k ∧ k.mirror = some m
theorem own_cls {cp : ConstantPool} {index : Nat} {name : String} (h : cp.className? index = some name) : ∃ i, cp[index]? = some (.class_ i) := by
  cases h1 : cp[index]? with
  | none => simp [ConstantPool.className?, h1] at h
  | some z => cases z <;> first | exact ⟨_, rfl⟩ | (simp [ConstantPool.className?, h1] at h)
theorem own_ldcW {Q : Unit → Pre} {E : CtlPost} {e : Env} {d : Bool} {acts : List Action} {s : State} {f : JFrame} {index i c a : Nat} {k kc : Class} {cf : ClassFile} {vm' : Vm}
    (hs : s.topJava?.isSome) (hk : s.vm.classes[f.method.cls]? = some k) (hcf : k.cf = some cf) (hc : cf.constantPool[index]? = some (.class_ i))
    (hg : (Jvm.resolveClass f.method.cls index).Gives e.toSetting s.vm (.ok c) vm') (hsz : vm'.classes.size ≤ s.vm.classes.size) (hkc : vm'.classes[c]? = some kc) (hmir : kc.mirror = some a) :
    wp (ldc.sem index) Q E e d acts (s.setTop f) ↔ Q () true acts ((s.setVm vm').setTop { f with stack := .ref a :: f.stack }) := by
  have hs' : (s.setVm vm').topJava?.isSome := hs
  simp only [ldc.sem, wp_bind', Jvm.constantAt, W.currentClass, W.theClass, State.method?_setTop f hs, State.vm_setTop, Option.some.injEq, exists_eq_left', hk, hcf,
    Option.bind_some, hc, wp_pure', W.resolveClassAt_links (t := s.setTop f) (State.method?_setTop f hs) hg hsz]
  rw [show (s.setTop f).setVm vm' = (s.setVm vm').setTop f from rfl]
  simp only [W.mirrorOf_ready (s := (s.setVm vm').setTop f) (show ((s.setVm vm').setTop f).vm.classes[c]? = some kc from hkc) hmir, W.mark, W.pushRef]
  simp [hs', State.topJava?_setTop' _ hs']
theorem own_ldcK {p : Program} {l : Launch} {e : Env} {R : Room} {s : State} {m : MethodId} {args : Array Value} {below : List Frame} {meth : Method} {c : Code} {T : State} {locs : List Loc} {cells slots : Nat} {Z : State} {a0 : Array Value} {h : Heap} {own C0 : String} {index : Nat} {mr : Addr}
    (X : Stand p l e R s m args below meth c T locs cells slots) (hx : p.tables.exec = Jvm.exec) (hZ : Z.Warmed39 s.vm) (hown : s.vm.findClass own = some m.cls) (w : (Cond.classLink own index C0).before a0 Z = true) (eT : T.heap = h) (M : MirO Z C0 mr)
    {g : JFrame} (hg : g.method = m) (hd : decode c.code g.pc = .ok (.ldc index, 2)) :
    ∃ T', Stand p l e R s m args below meth c T' locs cells slots ∧ T'.heap = h ∧ ∀ target, Steps p.tables e below (T'.setTop { g with pc := g.pc + 2, stack := .ref mr :: g.stack }) target → Steps p.tables e below (T.setTop g) target := by
  have hpl : e.platform.magicAccessors = ({} : Platform).magicAccessors := by rw [X.admits.platform]
  obtain ⟨cc, hcc, hcl⟩ := Cond.classLink_spec hown (mv (args := args) hZ w) e.platform hpl
  obtain ⟨c1, kc, m1, m2, m3⟩ := M
  have hc1 : s.vm.findClass C0 = some c1 := by rw [hZ.alike.findClass]; exact m1
  cases hcc.symm.trans hc1
  obtain ⟨dk, cf, nme, kt, hdk, hcf, hlo, hna, hfi, hkt, hac, hopen⟩ := hcl.here
  have hcl₀ := X.warmed.classLinks hcl
  have hW' : s.WarmedH (T.vm.noted m.cls index (.cls cc)) := X.warmed.noted hdk hopen (State.rightAt_cls hcl)
  obtain ⟨i, hi⟩ := own_cls hna
  obtain ⟨dk', hdk', ed⟩ := X.warmed.alike.2.2 _ _ hdk
  obtain ⟨k2, hk2, e2⟩ := hZ.alike.2.2 _ _ m2
  obtain ⟨k3, hk3, e3⟩ := hW'.alike.2.2 _ _ hk2
  refine ⟨_, X.noted hW', eT, fun target hrest => ?_⟩
  subst hg
  jvm_step X.here [hx, hd, own_ldcW (e := e) (s := T) (f := g) X.here.top hdk' (by rw [ed]; exact hcf) hi (resolveClass_links e.toSetting hcl₀) (by no_record) hk3 (by rw [e3, e2]; exact m3)]
  exact hrest
theorem own_nsroot {Z : State} {a0 : Array Value} {O K : String} {n : Nat} (w : (Cond.noSuperclass O).before a0 Z = true) (wk : (Cond.instantiable K n).before a0 Z = true) (hn : O ≠ K) : NS Z O K := by
  obtain ⟨c, k, h1, h2, h3, -, -⟩ := Cond.noSuperclass_spec w
  obtain ⟨t, kt, g1, -⟩ := Cond.instantiable_spec wk
  have ne := ids_ne h1 g1 hn
  refine ⟨c, t, h1, g1, fun fuel => ?_⟩
  cases fuel with
  | zero => rfl
  | succ f => simp [Vm.isSubclassAux, ne, h2, h3]
theorem own_nsno {Z : State} {a0 : Array Value} {C S K : String} {n : Nat} (w : (Cond.superclass C S).before a0 Z = true) (wk : (Cond.instantiable K n).before a0 Z = true) (nn : NS Z C K) (hn : C ≠ K) : ∃ c t, Z.vm.findClass C = some c ∧ Z.vm.findClass K = some t ∧ Z.vm.assignable c t = false := by
  obtain ⟨c, t, h0, g0, n3⟩ := nn
  obtain ⟨p, k, kp, h1, h2, h3, h4, h5, -, h7⟩ := Cond.superclass_spec h0 w
  obtain ⟨t', kt, g0', g2, g5, g7, -⟩ := Cond.instantiable_spec wk
  cases g0.symm.trans g0'
  have ne := ids_ne h0 g0 hn
  have g7' : kt.isInterface = false := (Bool.or_eq_false_iff.mp g7).1
  refine ⟨c, t, h0, g0, ?_⟩
  show Z.vm.assignableAux (255 + 1) c t = false
  simp [Vm.assignableAux, ne, h2, g2, h5, g5, g7', Vm.isSubclass, n3]
section W
variable {p : Program} {l : Launch} {e : Env} {Rm : Room} {s : State} {m : MethodId} {args : Array Value} {below : List Frame} {meth : Method} {c : Code} {T : State} {locs : List Loc} {cells slots : Nat} {E : State → Outcome → Prop} {pc pc' : Nat} {Ls : Array Slot} {st : List Value}
theorem w_done (X : Stand p l e Rm s m args below meth c T locs cells slots) (hlk : meth.locks = false) {Q : Option Value → Heap → List Loc → Prop} {kc ks : Nat} {h : Heap} {v : Option Value} {g : JFrame} (eT : T.heap = h) (hv : meth.sig.returnType = none → v = none)
    (hr : ∀ fs, (∀ (f : JFrame) (acts : List Action), f.method = m → f.locked = none → f.entered = [] → (doReturn e (T.setTop f) acts v).1 = T.setFrames fs) → Steps p.tables e below (T.setTop g) (T.setFrames fs)) (hc : cells ≤ kc) (hn : slots ≤ ks) (hQ : Q v h locs) : Runs p e below (EndN s Q kc ks) (T.setTop g) := by
  obtain ⟨fs, h1, hrun, hended, hW, hsame⟩ := X.leave hv hlk
  subst eT
  exact ⟨_, _, hr fs h1, hrun, hended, v, locs, rfl, hQ, ⟨_, rfl⟩, hW, hsame.mono hc hn⟩
theorem w_doneH {vm₁ : Vm} (X : Stand p l e Rm (s.setVm vm₁) m args below meth c T locs cells slots) (hlk : meth.locks = false) {Z : State} {a0 : Array Value} {EL : List (String × Nat)} {Q : Option Value → Heap → List Loc → (Addr → Prop) → Prop} {kc ks k0 : Nat} {h h0 : Heap} {v : Option Value} {g : JFrame} (eT : T.heap = h) (hh : s.heap = h0) (hZ : Z.Warmed39 vm₁) (hEL : EW Z a0 EL) (hS : s.Since vm₁ k0) (hk : k0 ≤ h.size) (C : CHr Z EL s.vm h0 vm₁ h) (hv : meth.sig.returnType = none → v = none)
    (hr : ∀ fs, (∀ (f : JFrame) (acts : List Action), f.method = m → f.locked = none → f.entered = [] → (doReturn e (T.setTop f) acts v).1 = T.setFrames fs) → Steps p.tables e below (T.setTop g) (T.setFrames fs)) (hc : cells ≤ kc) (hn : slots ≤ ks) (hQ : (∀ x, x < h.size → Safe Z EL vm₁ h x → Safe Z EL T.vm h x) → Q v h locs (Safe Z EL T.vm h)) : Runs p e below (EndH s Z EL Q kc ks) (T.setTop g) := by
  subst eT hh
  obtain ⟨fs, h1, hrun, hended, q1, q2, q3, q4⟩ := X.leaveW hS hk hv hlk
  have A := CHv.at X hZ hEL C.1
  exact ⟨_, _, hr fs h1, hrun, hended, v, locs, rfl, hQ (fun x hx S => A.safe hx S), C.trans A, q1, q2, q3, q4.mono hc hn⟩
theorem w_aload (X : Stand p l e Rm s m args below meth c T locs cells slots) (hx : p.tables.exec = Jvm.exec) {k : Nat} {v : Value} (hd : decode c.code pc = .ok (.aload k, 2)) (hl : Ls[k]? = some (.val v)) (hv : v.isRef = true) (hp : pc + 2 = pc') (K : Runs p e below E (T.setTop (mkF m pc' Ls (v :: st)))) : Runs p e below E (T.setTop (mkF m pc Ls st)) := by
  subst hp; exact K.by fun _ k => XS.aload X.here hx rfl hd hl hv k
theorem w_aloadN (X : Stand p l e Rm s m args below meth c T locs cells slots) (hx : p.tables.exec = Jvm.exec) {k : Fin 4} {v : Value} (hd : decode c.code pc = .ok (.aload_n k, 1)) (hl : Ls[k.val]? = some (.val v)) (hv : v.isRef = true) (hp : pc + 1 = pc') (K : Runs p e below E (T.setTop (mkF m pc' Ls (v :: st)))) : Runs p e below E (T.setTop (mkF m pc Ls st)) := by
  subst hp; exact K.by fun _ k => XS.aloadN X.here hx rfl hd hl hv k
theorem w_iload (X : Stand p l e Rm s m args below meth c T locs cells slots) (hx : p.tables.exec = Jvm.exec) {k : Nat} {v : Int32} (hd : decode c.code pc = .ok (.iload k, 2)) (hl : Ls[k]? = some (.val (.int v))) (hp : pc + 2 = pc') (K : Runs p e below E (T.setTop (mkF m pc' Ls (.int v :: st)))) : Runs p e below E (T.setTop (mkF m pc Ls st)) := by
  subst hp; exact K.by fun _ k => XS.iload X.here hx rfl hd hl k
theorem w_iloadN (X : Stand p l e Rm s m args below meth c T locs cells slots) (hx : p.tables.exec = Jvm.exec) {k : Fin 4} {v : Int32} (hd : decode c.code pc = .ok (.iload_n k, 1)) (hl : Ls[k.val]? = some (.val (.int v))) (hp : pc + 1 = pc') (K : Runs p e below E (T.setTop (mkF m pc' Ls (.int v :: st)))) : Runs p e below E (T.setTop (mkF m pc Ls st)) := by
  subst hp; exact K.by fun _ k => XS.iloadN X.here hx rfl hd hl k
theorem w_istore (X : Stand p l e Rm s m args below meth c T locs cells slots) (hx : p.tables.exec = Jvm.exec) {k : Nat} {x : Int32} {L' : Array Slot} (hd : decode c.code pc = .ok (.istore k, 2)) (hl : storeLocals Ls k (.int x) = some L') (hp : pc + 2 = pc') (K : Runs p e below E (T.setTop (mkF m pc' L' st))) : Runs p e below E (T.setTop (mkF m pc Ls (.int x :: st))) := by
  subst hp; exact K.by fun _ k => XS.istore X.here hx rfl hd rfl hl k
theorem w_istoreN (X : Stand p l e Rm s m args below meth c T locs cells slots) (hx : p.tables.exec = Jvm.exec) {k : Fin 4} {x : Int32} {L' : Array Slot} (hd : decode c.code pc = .ok (.istore_n k, 1)) (hl : storeLocals Ls k.val (.int x) = some L') (hp : pc + 1 = pc') (K : Runs p e below E (T.setTop (mkF m pc' L' st))) : Runs p e below E (T.setTop (mkF m pc Ls (.int x :: st))) := by
  subst hp; exact K.by fun _ k => XS.istoreN X.here hx rfl hd rfl hl k
theorem w_astore (X : Stand p l e Rm s m args below meth c T locs cells slots) (hx : p.tables.exec = Jvm.exec) {k : Nat} {x : Value} {L' : Array Slot} (hd : decode c.code pc = .ok (.astore k, 2)) (hv : x.isRef = true) (hl : storeLocals Ls k x = some L') (hp : pc + 2 = pc') (K : Runs p e below E (T.setTop (mkF m pc' L' st))) : Runs p e below E (T.setTop (mkF m pc Ls (x :: st))) := by
  subst hp; exact K.by fun _ k => XS.astore X.here hx rfl hd rfl hv hl k
theorem w_astoreN (X : Stand p l e Rm s m args below meth c T locs cells slots) (hx : p.tables.exec = Jvm.exec) {k : Fin 4} {x : Value} {L' : Array Slot} (hd : decode c.code pc = .ok (.astore_n k, 1)) (hv : x.isRef = true) (hl : storeLocals Ls k.val x = some L') (hp : pc + 1 = pc') (K : Runs p e below E (T.setTop (mkF m pc' L' st))) : Runs p e below E (T.setTop (mkF m pc Ls (x :: st))) := by
  subst hp; exact K.by fun _ k => XS.astoreN X.here hx rfl hd rfl hv hl k
theorem w_iconst (X : Stand p l e Rm s m args below meth c T locs cells slots) (hx : p.tables.exec = Jvm.exec) {i : Int} {v : Int32} (hd : decode c.code pc = .ok (.iconst i, 1)) (hv : Int32.ofInt i = v) (hp : pc + 1 = pc') (K : Runs p e below E (T.setTop (mkF m pc' Ls (.int v :: st)))) : Runs p e below E (T.setTop (mkF m pc Ls st)) := by
  subst hp; exact K.by fun _ k => XT.iconstV X.here hx rfl v hd hv k
theorem w_bipush (X : Stand p l e Rm s m args below meth c T locs cells slots) (hx : p.tables.exec = Jvm.exec) {i : Int} {v : Int32} (hd : decode c.code pc = .ok (.bipush i, 2)) (hv : (Int8.ofInt i).toInt32 = v) (hp : pc + 2 = pc') (K : Runs p e below E (T.setTop (mkF m pc' Ls (.int v :: st)))) : Runs p e below E (T.setTop (mkF m pc Ls st)) := by
  subst hp; exact K.by fun _ k => XT.bipushV X.here hx rfl v hd hv k
theorem w_sipush (X : Stand p l e Rm s m args below meth c T locs cells slots) (hx : p.tables.exec = Jvm.exec) {i : Int} {v : Int32} (hd : decode c.code pc = .ok (.sipush i, 3)) (hv : (Int16.ofInt i).toInt32 = v) (hp : pc + 3 = pc') (K : Runs p e below E (T.setTop (mkF m pc' Ls (.int v :: st)))) : Runs p e below E (T.setTop (mkF m pc Ls st)) := by
  subst hp; exact K.by fun _ k => XT.sipushV X.here hx rfl v hd hv k
theorem w_null (X : Stand p l e Rm s m args below meth c T locs cells slots) (hx : p.tables.exec = Jvm.exec)  (hd : decode c.code pc = .ok (.aconst_null, 1))  (hp : pc + 1 = pc') (K : Runs p e below E (T.setTop (mkF m pc' Ls (.null :: st)))) : Runs p e below E (T.setTop (mkF m pc Ls st)) := by
  subst hp; exact K.by fun _ k => XS.aconstNull X.here hx rfl hd k
theorem w_iadd (X : Stand p l e Rm s m args below meth c T locs cells slots) (hx : p.tables.exec = Jvm.exec) {x y : Int32} (hd : decode c.code pc = .ok (.iadd, 1))  (hp : pc + 1 = pc') (K : Runs p e below E (T.setTop (mkF m pc' Ls (.int (x + y) :: st)))) : Runs p e below E (T.setTop (mkF m pc Ls (.int y :: .int x :: st))) := by
  subst hp; exact K.by fun _ k => XS.iadd X.here hx rfl hd rfl k
theorem w_isub (X : Stand p l e Rm s m args below meth c T locs cells slots) (hx : p.tables.exec = Jvm.exec) {x y : Int32} (hd : decode c.code pc = .ok (.isub, 1))  (hp : pc + 1 = pc') (K : Runs p e below E (T.setTop (mkF m pc' Ls (.int (x - y) :: st)))) : Runs p e below E (T.setTop (mkF m pc Ls (.int y :: .int x :: st))) := by
  subst hp; exact K.by fun _ k => XS.isub X.here hx rfl hd rfl k
theorem w_iand (X : Stand p l e Rm s m args below meth c T locs cells slots) (hx : p.tables.exec = Jvm.exec) {x y : Int32} (hd : decode c.code pc = .ok (.iand, 1))  (hp : pc + 1 = pc') (K : Runs p e below E (T.setTop (mkF m pc' Ls (.int (x &&& y) :: st)))) : Runs p e below E (T.setTop (mkF m pc Ls (.int y :: .int x :: st))) := by
  subst hp; exact K.by fun _ k => XS.iand X.here hx rfl hd rfl k
theorem w_irem (X : Stand p l e Rm s m args below meth c T locs cells slots) (hx : p.tables.exec = Jvm.exec) {x y : Int32} (hd : decode c.code pc = .ok (.irem, 1)) (hy : ¬ y = 0) (hp : pc + 1 = pc') (K : Runs p e below E (T.setTop (mkF m pc' Ls (.int (x % y) :: st)))) : Runs p e below E (T.setTop (mkF m pc Ls (.int y :: .int x :: st))) := by
  subst hp; exact K.by fun _ k => iremM (g := mkF m pc Ls _) X hx rfl hd rfl hy k
theorem w_i2b (X : Stand p l e Rm s m args below meth c T locs cells slots) (hx : p.tables.exec = Jvm.exec) {x : Int32} (hd : decode c.code pc = .ok (.i2b, 1))  (hp : pc + 1 = pc') (K : Runs p e below E (T.setTop (mkF m pc' Ls (.int (x.toInt8.toInt32) :: st)))) : Runs p e below E (T.setTop (mkF m pc Ls (.int x :: st))) := by
  subst hp; exact K.by fun _ k => XS.i2b X.here hx rfl hd rfl k
theorem w_i2c (X : Stand p l e Rm s m args below meth c T locs cells slots) (hx : p.tables.exec = Jvm.exec) {x : Int32} (hd : decode c.code pc = .ok (.i2c, 1))  (hp : pc + 1 = pc') (K : Runs p e below E (T.setTop (mkF m pc' Ls (.int (x.toUInt32.toUInt16.toUInt32.toInt32) :: st)))) : Runs p e below E (T.setTop (mkF m pc Ls (.int x :: st))) := by
  subst hp; exact K.by fun _ k => XS.i2c X.here hx rfl hd rfl k
theorem w_iushr (X : Stand p l e Rm s m args below meth c T locs cells slots) (hx : p.tables.exec = Jvm.exec) {x y : Int32} (hd : decode c.code pc = .ok (.iushr, 1))  (hp : pc + 1 = pc') (K : Runs p e below E (T.setTop (mkF m pc' Ls (.int ((x.toUInt32 >>> (y &&& 31).toUInt32).toInt32) :: st)))) : Runs p e below E (T.setTop (mkF m pc Ls (.int y :: .int x :: st))) := by
  subst hp; exact K.by fun _ k => XS.iushr X.here hx rfl hd rfl k
theorem w_iinc (X : Stand p l e Rm s m args below meth c T locs cells slots) (hx : p.tables.exec = Jvm.exec) {k : Nat} {cst : Int} {x v : Int32} {L' : Array Slot} (hd : decode c.code pc = .ok (.iinc k cst, 3)) (hv : Int32.ofInt cst = v) (hl : Ls[k]? = some (.val (.int x))) (hl' : storeLocals Ls k (.int (x + v)) = some L') (hp : pc + 3 = pc') (K : Runs p e below E (T.setTop (mkF m pc' L' st))) : Runs p e below E (T.setTop (mkF m pc Ls st)) := by
  subst hp; exact K.by fun _ k => XT.iincV X.here hx rfl v hd hv hl hl' k
theorem w_dup (X : Stand p l e Rm s m args below meth c T locs cells slots) (hx : p.tables.exec = Jvm.exec) {x : Value} (hd : decode c.code pc = .ok (.dup, 1)) (hc : x.category = 1) (hp : pc + 1 = pc') (K : Runs p e below E (T.setTop (mkF m pc' Ls (x :: x :: st)))) : Runs p e below E (T.setTop (mkF m pc Ls (x :: st))) := by
  subst hp; exact K.by fun _ k => XS.dup X.here hx rfl hd rfl hc k
theorem w_dupX1 (X : Stand p l e Rm s m args below meth c T locs cells slots) (hx : p.tables.exec = Jvm.exec) {x y : Value} (hd : decode c.code pc = .ok (.dup_x1, 1)) (hc : x.category = 1) (hc' : y.category = 1) (hp : pc + 1 = pc') (K : Runs p e below E (T.setTop (mkF m pc' Ls (x :: y :: x :: st)))) : Runs p e below E (T.setTop (mkF m pc Ls (x :: y :: st))) := by
  subst hp; exact K.by fun _ k => XS.dupX1 X.here hx rfl hd rfl hc hc' k
theorem w_pop (X : Stand p l e Rm s m args below meth c T locs cells slots) (hx : p.tables.exec = Jvm.exec) {x : Value} (hd : decode c.code pc = .ok (.pop, 1)) (hc : x.category = 1) (hp : pc + 1 = pc') (K : Runs p e below E (T.setTop (mkF m pc' Ls st))) : Runs p e below E (T.setTop (mkF m pc Ls (x :: st))) := by
  subst hp; exact K.by fun _ k => XS.pop X.here hx rfl hd rfl hc k
theorem w_goto (X : Stand p l e Rm s m args below meth c T locs cells slots) (hx : p.tables.exec = Jvm.exec) {o : Int} (hd : decode c.code pc = .ok (.goto o, 3))  (ho : 0 ≤ (pc : Int) + o) (hp : ((pc : Int) + o).toNat = pc') (K : Runs p e below E (T.setTop (mkF m pc' Ls st))) : Runs p e below E (T.setTop (mkF m pc Ls st)) := by
  exact K.by fun _ k => XS.goto X.here hx rfl rfl hd ho hp k
theorem w_ifY (X : Stand p l e Rm s m args below meth c T locs cells slots) (hx : p.tables.exec = Jvm.exec) {cd : ClassFile.Cond} {x : Int32} {o : Int} (hd : decode c.code pc = .ok (.ifCond cd o, 3)) (hc : if_icmp.holds cd x 0 = true) (ho : 0 ≤ (pc : Int) + o) (hp : ((pc : Int) + o).toNat = pc') (K : Runs p e below E (T.setTop (mkF m pc' Ls st))) : Runs p e below E (T.setTop (mkF m pc Ls (.int x :: st))) := by
  exact K.by fun _ k => XS.ifYes X.here hx rfl rfl hd rfl ((if0 _ _).trans hc) ho hp k
theorem w_ifN (X : Stand p l e Rm s m args below meth c T locs cells slots) (hx : p.tables.exec = Jvm.exec) {cd : ClassFile.Cond} {x : Int32} {o : Int} (hd : decode c.code pc = .ok (.ifCond cd o, 3)) (hc : if_icmp.holds cd x 0 = false) (hp : pc + 3 = pc') (K : Runs p e below E (T.setTop (mkF m pc' Ls st))) : Runs p e below E (T.setTop (mkF m pc Ls (.int x :: st))) := by
  subst hp; exact K.by fun _ k => XS.ifNo X.here hx rfl hd rfl ((if0 _ _).trans hc) k
theorem w_icY (X : Stand p l e Rm s m args below meth c T locs cells slots) (hx : p.tables.exec = Jvm.exec) {cd : ClassFile.Cond} {x y : Int32} {o : Int} (hd : decode c.code pc = .ok (.if_icmp cd o, 3)) (hc : if_icmp.holds cd x y = true) (ho : 0 ≤ (pc : Int) + o) (hp : ((pc : Int) + o).toNat = pc') (K : Runs p e below E (T.setTop (mkF m pc' Ls st))) : Runs p e below E (T.setTop (mkF m pc Ls (.int y :: .int x :: st))) := by
  exact K.by fun _ k => XS.icmpYes X.here hx rfl rfl hd rfl hc ho hp k
theorem w_icN (X : Stand p l e Rm s m args below meth c T locs cells slots) (hx : p.tables.exec = Jvm.exec) {cd : ClassFile.Cond} {x y : Int32} {o : Int} (hd : decode c.code pc = .ok (.if_icmp cd o, 3)) (hc : if_icmp.holds cd x y = false) (hp : pc + 3 = pc') (K : Runs p e below E (T.setTop (mkF m pc' Ls st))) : Runs p e below E (T.setTop (mkF m pc Ls (.int y :: .int x :: st))) := by
  subst hp; exact K.by fun _ k => XS.icmpNo X.here hx rfl hd rfl hc k
theorem w_ifnonnullY (X : Stand p l e Rm s m args below meth c T locs cells slots) (hx : p.tables.exec = Jvm.exec) {b : Addr} {o : Int} (hd : decode c.code pc = .ok (.ifnonnull o, 3))  (ho : 0 ≤ (pc : Int) + o) (hp : ((pc : Int) + o).toNat = pc') (K : Runs p e below E (T.setTop (mkF m pc' Ls st))) : Runs p e below E (T.setTop (mkF m pc Ls (.ref b :: st))) := by
  exact K.by fun _ k => XS.ifnonnullYes X.here hx rfl rfl hd rfl ho hp k
theorem w_acmp (X : Stand p l e Rm s m args below meth c T locs cells slots) (hx : p.tables.exec = Jvm.exec) {cd : ACond} {x y : Value} {o : Int} {same : Bool} (hd : decode c.code pc = .ok (.if_acmp cd o, 3)) (h1 : x.isRef = true) (h2 : y.isRef = true) (hq : decide (x = y) = same) (ho : 0 ≤ (pc : Int) + o) (hp : pc' = if acV cd same = true then ((pc : Int) + o).toNat else pc + 3) (K : Runs p e below E (T.setTop (mkF m pc' Ls st))) : Runs p e below E (T.setTop (mkF m pc Ls (y :: x :: st))) := by
  exact K.by fun _ k => Jvm.RoadKit.acmp (g := mkF m pc Ls _) X hx rfl h1 h2 rfl hd rfl hq ho hp k
theorem w_tswIn (X : Stand p l e Rm s m args below meth c T locs cells slots) (hx : p.tables.exec = Jvm.exec) {dflt low high : Int} {offs : Array Int} {len : Nat} {o : Int} {i : Int32} (hd : decode c.code pc = .ok (.tableswitch dflt low high offs, len)) (hin : ¬ (i.toInt < low ∨ i.toInt > high)) (hoff : offs[(i.toInt - low).toNat]? = some o) (ho : 0 ≤ (pc : Int) + o) (hp : ((pc : Int) + o).toNat = pc') (K : Runs p e below E (T.setTop (mkF m pc' Ls st))) : Runs p e below E (T.setTop (mkF m pc Ls (.int i :: st))) := by
  exact K.by fun _ k => XS.tswIn X.here hx rfl rfl hd rfl hin hoff ho hp k
theorem w_tswOut (X : Stand p l e Rm s m args below meth c T locs cells slots) (hx : p.tables.exec = Jvm.exec) {dflt low high : Int} {offs : Array Int} {len : Nat} {i : Int32} (hd : decode c.code pc = .ok (.tableswitch dflt low high offs, len)) (hout : i.toInt < low ∨ i.toInt > high) (ho : 0 ≤ (pc : Int) + dflt) (hp : ((pc : Int) + dflt).toNat = pc') (K : Runs p e below E (T.setTop (mkF m pc' Ls st))) : Runs p e below E (T.setTop (mkF m pc Ls (.int i :: st))) := by
  exact K.by fun _ k => XS.tswOut X.here hx rfl rfl hd rfl hout ho hp k
theorem w_getF (X : Stand p l e Rm s m args below meth c T locs cells slots) (hx : p.tables.exec = Jvm.exec) {Z : State} {a0 : Array Value} {h : Heap} {own R0 O n d : String} (host : String) {index : Nat} {a : Addr} {v : Value} (hZ : Z.Warmed39 s.vm) (hown : s.vm.findClass own = some m.cls) (w : (Cond.fieldLink own index R0 n d).before a0 Z = true ∨ (Cond.fieldLinkNest own index R0 n d host).before a0 Z = true) (via : Via Z R0 O n d) (eT : T.heap = h) (F : Fld Z h a O n d v) (hd : decode c.code pc = .ok (.getfield index, 3)) (hp : pc + 3 = pc') (K : ∀ T' : State, Stand p l e Rm s m args below meth c T' locs cells slots → T'.heap = h → Runs p e below E (T'.setTop (mkF m pc' Ls (v :: st)))) : Runs p e below E (T.setTop (mkF m pc Ls (.ref a :: st))) := by
  subst hp
  obtain ⟨T1, X1, e1, st1⟩ := getF X hx hZ hown (host := host) w via eT F (g := mkF m pc Ls (.ref a :: st)) rfl rfl hd
  exact (K T1 X1 e1).by st1
theorem w_getS (X : Stand p l e Rm s m args below meth c T locs cells slots) (hx : p.tables.exec = Jvm.exec) {Z : State} {a0 : Array Value} {h : Heap} {own R0 O n d : String} (host : String) {index : Nat} {v : Value} (hZ : Z.Warmed39 s.vm) (hown : s.vm.findClass own = some m.cls) (w : (Cond.fieldLink own index R0 n d).before a0 Z = true ∨ (Cond.fieldLinkNest own index R0 n d host).before a0 Z = true) (via : Via Z R0 O n d) (eT : T.heap = h) (F : Sta Z h O n d v) (hd : decode c.code pc = .ok (.getstatic index, 3)) (hp : pc + 3 = pc') (K : ∀ T' : State, Stand p l e Rm s m args below meth c T' locs cells slots → T'.heap = h → Runs p e below E (T'.setTop (mkF m pc' Ls (v :: st)))) : Runs p e below E (T.setTop (mkF m pc Ls st)) := by
  subst hp
  obtain ⟨T1, X1, e1, st1⟩ := getS2 X hx hZ hown (host := host) w via eT F (g := mkF m pc Ls st) rfl hd
  exact (K T1 X1 e1).by st1
theorem w_putF (X : Stand p l e Rm s m args below meth c T locs cells slots) (hx : p.tables.exec = Jvm.exec) {Z : State} {a0 : Array Value} {h : Heap} {own R0 O n d C : String} (host : String) {index kk : Nat} {ty : FieldType} {a : Addr} {v old : Value} (hZ : Z.Warmed39 s.vm) (hown : s.vm.findClass own = some m.cls) (w : (Cond.fieldLink own index R0 n d).before a0 Z = true ∨ (Cond.fieldLinkNest own index R0 n d host).before a0 Z = true) (via : Via Z R0 O n d) (eT : T.heap = h) (F : Fld Z h a O n d old) (Ex : Exa Z h a C) (Ly : (Cond.lays C O n d).before a0 Z = true ∨ ((Cond.laysFinal C O n d).before a0 Z = true ∧ own = O ∧ meth.name = "<init>")) (wi : (Cond.instantiable C kk).before a0 Z = true) (hty : parseFieldDescriptor d = some ty) (hn : narrow ty v = v) (hf : fits ty v = true) (hd : decode c.code pc = .ok (.putfield index, 3)) (hp : pc + 3 = pc') (K : ∀ (T' : State) (h' : Heap), Stand p l e Rm s m args below meth c T' (locs ++ [⟨a, slotOf Z O n d⟩]) cells slots → T'.heap = h' → Wr h h' a (slotOf Z O n d) v → Runs p e below E (T'.setTop (mkF m pc' Ls st))) : Runs p e below E (T.setTop (mkF m pc Ls (v :: .ref a :: st))) := by
  subst hp
  obtain ⟨T1, h1, X1, e1, W1, st1⟩ := putF X hx hZ hown (host := host) w via eT F Ex Ly wi hty hn hf (g := mkF m pc Ls (v :: .ref a :: st)) rfl rfl hd
  exact (K T1 h1 X1 e1 W1).by st1
theorem w_new (X : Stand p l e Rm s m args below meth c T locs cells slots) (hx : p.tables.exec = Jvm.exec) {Z : State} {a0 : Array Value} {h : Heap} {own C : String} {index n : Nat} (hZ : Z.Warmed39 s.vm) (hown : s.vm.findClass own = some m.cls) (w : (Cond.classLink own index C).before a0 Z = true) (wi : (Cond.instantiable C n).before a0 Z = true) (wz : (Cond.initialized C).before a0 Z = true) (eT : T.heap = h) (hd : decode c.code pc = .ok (.new index, 3)) (hc : cells + 1 ≤ Rm.cells) (hl : slots + n ≤ Rm.slots) (hp : pc + 3 = pc') (K : ∀ (T' : State) (h' : Heap) (b : Addr), Stand p l e Rm s m args below meth c T' locs (cells + 1) (slots + n) → T'.heap = h' → Ext h h' → b = h.size → Exa Z h' b C → (∀ {O nm d : String} {ty : FieldType}, Laid Z a0 C O nm d → parseFieldDescriptor d = some ty → Fld Z h' b O nm d (defaultValue ty)) → Runs p e below E (T'.setTop (mkF m pc' Ls (.ref b :: st)))) : Runs p e below E (T.setTop (mkF m pc Ls st)) := by
  subst hp
  obtain ⟨T1, h1, X1, e1, E1, A1, D1, -, st1⟩ := newO X hx hZ hown w wi wz eT (g := mkF m pc Ls st) rfl hd hc hl
  exact (K T1 h1 _ X1 e1 E1 rfl A1 D1).by st1
theorem w_newP (X : Stand p l e Rm s m args below meth c T locs cells slots) (hx : p.tables.exec = Jvm.exec) {Z : State} {a0 : Array Value} {h : Heap} (aty : ArrayType) (ty : FieldType) {n : Int32} (cap : Nat) (hty : newarray.typeOf aty = ty) (hZ : Z.Warmed39 s.vm) (w : (Cond.arrayClass ty).before a0 Z = true) (eT : T.heap = h) (hd : decode c.code pc = .ok (.newarray aty, 2)) (hn : ¬ n < 0) (hcap : n.toNatClampNeg ≤ cap) (hb : cap * 8 ≤ 536870912) (hc : cells + 1 ≤ Rm.cells) (hl : slots + cap ≤ Rm.slots) (hp : pc + 2 = pc') (K : ∀ (T' : State) (h' : Heap) (k : ClassId) (b : Addr), Stand p l e Rm s m args below meth c T' locs (cells + 1) (slots + cap) → T'.heap = h' → Ext h h' → b = h.size → Arr Z h' b (newA k ty n) ty → Runs p e below E (T'.setTop (mkF m pc' Ls (.ref b :: st)))) : Runs p e below E (T.setTop (mkF m pc Ls (.int n :: st))) := by
  subst hp
  subst hty
  obtain ⟨T1, h1, k1, X1, e1, E1, A1, st1⟩ := newP X hx hZ w eT (g := mkF m pc Ls (.int n :: st)) rfl hd rfl hn hcap hb hc hl
  exact (K T1 h1 k1 _ X1 e1 E1 rfl A1).by st1
theorem w_newR (X : Stand p l e Rm s m args below meth c T locs cells slots) (hx : p.tables.exec = Jvm.exec) {Z : State} {a0 : Array Value} {h : Heap} {own C : String} {index : Nat} {n : Int32} (cap : Nat) (ad : String) (hZ : Z.Warmed39 s.vm) (hown : s.vm.findClass own = some m.cls) (w1 : (Cond.classLink own index C).before a0 Z = true) (w2 : (Cond.arrayOver (.object C)).before a0 Z = true) (eT : T.heap = h) (hd : decode c.code pc = .ok (.anewarray index, 3)) (hn : ¬ n < 0) (hcap : n.toNatClampNeg ≤ cap) (hb : cap * 8 ≤ 536870912) (hc : cells + 1 ≤ Rm.cells) (hl : slots + cap ≤ Rm.slots) (had : "[" ++ (FieldType.object C).toString = ad) (hp : pc + 3 = pc') (K : ∀ (T' : State) (h' : Heap) (k : ClassId) (b : Addr), Stand p l e Rm s m args below meth c T' locs (cells + 1) (slots + cap) → T'.heap = h' → Ext h h' → b = h.size → Arr Z h' b (newA k (.object C) n) (.object C) → Exa Z h' b ad → Ovr Z k C → Runs p e below E (T'.setTop (mkF m pc' Ls (.ref b :: st)))) : Runs p e below E (T.setTop (mkF m pc Ls (.int n :: st))) := by
  subst hp
  obtain ⟨T1, h1, k1, X1, e1, E1, A1, E2, O1, st1⟩ := newRE X hx hZ hown w1 w2 eT (g := mkF m pc Ls (.int n :: st)) rfl hd rfl hn hcap hb hc hl had
  exact (K T1 h1 k1 _ X1 e1 E1 rfl A1 E2 O1).by st1
theorem w_stC (X : Stand p l e Rm s m args below meth c T locs cells slots) (hx : p.tables.exec = Jvm.exec) {Z : State} {h : Heap} {a : Addr} {cl : Cell} {j : Int32} {x : Int32} (hZ : Z.Warmed39 s.vm) (eT : T.heap = h) (A : Arr Z h a cl .char) (hj : ¬ (j < 0 ∨ cl.slots.size ≤ j.toNatClampNeg)) (hd : decode c.code pc = .ok (.castore, 1)) (hp : pc + 1 = pc') (K : ∀ (T' : State) (h' : Heap), Stand p l e Rm s m args below meth c T' (locs ++ [⟨a, j.toNatClampNeg⟩]) cells slots → T'.heap = h' → Wr h h' a j.toNatClampNeg (.int (nar .char x)) → Runs p e below E (T'.setTop (mkF m pc' Ls st))) : Runs p e below E (T.setTop (mkF m pc Ls (.int x :: .int j :: .ref a :: st))) := by
  subst hp
  obtain ⟨T1, h1, X1, e1, W1, st1⟩ := stC X hx hZ eT A (j := j) hj (g := mkF m pc Ls (.int x :: .int j :: .ref a :: st)) rfl rfl hd
  exact (K T1 h1 X1 e1 W1).by st1
theorem w_stB (X : Stand p l e Rm s m args below meth c T locs cells slots) (hx : p.tables.exec = Jvm.exec) {Z : State} {h : Heap} {a : Addr} {cl : Cell} {j : Int32} {x : Int32} (hZ : Z.Warmed39 s.vm) (eT : T.heap = h) (A : Arr Z h a cl .byte) (hj : ¬ (j < 0 ∨ cl.slots.size ≤ j.toNatClampNeg)) (hd : decode c.code pc = .ok (.bastore, 1)) (hp : pc + 1 = pc') (K : ∀ (T' : State) (h' : Heap), Stand p l e Rm s m args below meth c T' (locs ++ [⟨a, j.toNatClampNeg⟩]) cells slots → T'.heap = h' → Wr h h' a j.toNatClampNeg (.int (nar .byte x)) → Runs p e below E (T'.setTop (mkF m pc' Ls st))) : Runs p e below E (T.setTop (mkF m pc Ls (.int x :: .int j :: .ref a :: st))) := by
  subst hp
  obtain ⟨T1, h1, X1, e1, W1, st1⟩ := stB X hx hZ eT A (j := j) hj (g := mkF m pc Ls (.int x :: .int j :: .ref a :: st)) rfl rfl hd
  exact (K T1 h1 X1 e1 W1).by st1
theorem w_stR (X : Stand p l e Rm s m args below meth c T locs cells slots) (hx : p.tables.exec = Jvm.exec) {Z : State} {h : Heap} {a : Addr} {cl : Cell} {ty : FieldType} {j : Int32} {v : Value} (hZ : Z.Warmed39 s.vm) (eT : T.heap = h) (A : Arr Z h a cl ty) (hj : ¬ (j < 0 ∨ cl.slots.size ≤ j.toNatClampNeg)) (hty : ty.isReference = true) (F : Sto Z h a v) (hd : decode c.code pc = .ok (.aastore, 1)) (hp : pc + 1 = pc') (K : ∀ (T' : State) (h' : Heap), Stand p l e Rm s m args below meth c T' (locs ++ [⟨a, j.toNatClampNeg⟩]) cells slots → T'.heap = h' → Wr h h' a j.toNatClampNeg v → Runs p e below E (T'.setTop (mkF m pc' Ls st))) : Runs p e below E (T.setTop (mkF m pc Ls (v :: .int j :: .ref a :: st))) := by
  subst hp
  obtain ⟨T1, h1, X1, e1, W1, st1⟩ := stR X hx hZ eT A (j := j) hj hty F (g := mkF m pc Ls (v :: .int j :: .ref a :: st)) rfl rfl hd
  exact (K T1 h1 X1 e1 W1).by st1
theorem w_aaload (X : Stand p l e Rm s m args below meth c T locs cells slots) (hx : p.tables.exec = Jvm.exec) {Z : State} {h : Heap} {a : Addr} {cl : Cell} {ty : FieldType} {j : Int32} {v : Value} (hZ : Z.Warmed39 s.vm) (eT : T.heap = h) (A : Arr Z h a cl ty) (hty : ty.isReference = true) (hj : ¬ (j < 0 ∨ cl.slots.size ≤ j.toNatClampNeg)) (hv : cl.slots[j.toNatClampNeg]? = some v) (hd : decode c.code pc = .ok (.aaload, 1)) (hp : pc + 1 = pc') (K : Runs p e below E (T.setTop (mkF m pc' Ls (v :: st)))) : Runs p e below E (T.setTop (mkF m pc Ls (.int j :: .ref a :: st))) := by
  subst hp
  exact K.by fun t k => X.aaload hx (j := j) (v := v) (by rw [eT]; exact A.1) (State.isArrayOf_alike hZ.alike A.2.1) hty A.2.2 hj hv (g := mkF m pc Ls (.int j :: .ref a :: st)) rfl rfl hd t k
theorem w_alen (X : Stand p l e Rm s m args below meth c T locs cells slots) (hx : p.tables.exec = Jvm.exec) {Z : State} {h : Heap} {a : Addr} {k : ClassId} {ty : FieldType} {z : Int32} {vs : List Value} {dv : Value} (hZ : Z.Warmed39 s.vm) (eT : T.heap = h) (F : Arv Z h a k ty z vs dv) (hd : decode c.code pc = .ok (.arraylength, 1)) (hp : pc + 1 = pc') (K : Runs p e below E (T.setTop (mkF m pc' Ls (.int z :: st)))) : Runs p e below E (T.setTop (mkF m pc Ls (.ref a :: st))) := by
  subst hp
  obtain ⟨cl, A, q, S, N, H, G⟩ := F
  rw [← len_of S N] at K
  exact K.by fun t k => X.arraylength hx (by rw [eT]; exact A.1) (State.isArrayOf_alike hZ.alike A.2.1) (g := mkF m pc Ls (.ref a :: st)) rfl rfl hd t k
theorem w_ldcI (X : Stand p l e Rm s m args below meth c T locs cells slots) (hx : p.tables.exec = Jvm.exec) {Z : State} {a0 : Array Value} {own : String} {index : Nat} {v : Int32} (hZ : Z.Warmed39 s.vm) (hown : s.vm.findClass own = some m.cls) (w : (Cond.constant own index v).before a0 Z = true) (hd : decode c.code pc = .ok (.ldc index, 2)) (hp : pc + 2 = pc') (K : Runs p e below E (T.setTop (mkF m pc' Ls (.int v :: st)))) : Runs p e below E (T.setTop (mkF m pc Ls st)) := by
  subst hp
  exact K.by fun t k => X.ldcInt hx hown (mvT hZ w) (g := mkF m pc Ls st) rfl hd t k
theorem w_castY (X : Stand p l e Rm s m args below meth c T locs cells slots) (hx : p.tables.exec = Jvm.exec) {Z : State} {a0 : Array Value} {h : Heap} {own K0 : String} {index : Nat} {a : Addr} (hZ : Z.Warmed39 s.vm) (hown : s.vm.findClass own = some m.cls) (w : (Cond.classLink own index K0).before a0 Z = true) (eT : T.heap = h) (F : Ins Z h a K0 true) (hd : decode c.code pc = .ok (.checkcast index, 3)) (hp : pc + 3 = pc') (K : ∀ T' : State, Stand p l e Rm s m args below meth c T' locs cells slots → T'.heap = h → Runs p e below E (T'.setTop (mkF m pc' Ls (.ref a :: st)))) : Runs p e below E (T.setTop (mkF m pc Ls (.ref a :: st))) := by
  subst hp
  obtain ⟨T1, X1, e1, st1⟩ := castY X hx hZ hown w eT F (g := mkF m pc Ls (.ref a :: st)) rfl rfl hd
  exact (K T1 X1 e1).by st1
theorem w_initO (X : Stand p l e Rm s m args below meth c T locs cells slots) (hx : p.tables.exec = Jvm.exec) {Z : State} {a0 : Array Value} {h : Heap} {own : String} {index : Nat} {a : Addr} (W : Nat) (hZ : Z.Warmed39 s.vm) (hown : s.vm.findClass own = some m.cls) (w1 : (Cond.methodLink own index Lib.objectInit).before a0 Z = true) (w2 : (Cond.instanceMethod Lib.objectInit).before a0 Z = true) (w3 : (Cond.code Lib.objectInit ⟨#[0xb1]⟩ 1 none).before a0 Z = true) (eT : T.heap = h) (hsz : Ls.size = c.maxLocals) (hd : decode c.code pc = .ok (.invokespecial index, 3)) (hf : 1 ≤ Rm.frames) (hW : (st.map fun v => v.category).sum ≤ W) (hl : W + 12 ≤ Rm.locals) (hp : pc + 3 = pc') (K : ∀ T' : State, Stand p l e Rm s m args below meth c T' locs cells slots → T'.heap = h → Runs p e below E (T'.setTop (mkF m pc' Ls st))) : Runs p e below E (T.setTop (mkF m pc Ls (.ref a :: st))) := by
  subst hp
  obtain ⟨T1, X1, e1, st1⟩ := initO X hx hZ hown w1 w2 w3 eT (g := mkF m pc Ls (.ref a :: st)) rfl hsz rfl hd hf (W := W) (by show 2 * 0 + _ ≤ _; omega) hl
  exact (K T1 X1 e1).by st1
theorem w_instNo (X : Stand p l e Rm s m args below meth c T locs cells slots) (hx : p.tables.exec = Jvm.exec) {Z : State} {a0 : Array Value} {h : Heap} {own K0 C0 : String} {index : Nat} {a : Addr} (hZ : Z.Warmed39 s.vm) (hown : s.vm.findClass own = some m.cls) (w : (Cond.classLink own index K0).before a0 Z = true) (eT : T.heap = h) (F : Exa Z h a C0) (N : ∃ c t, Z.vm.findClass C0 = some c ∧ Z.vm.findClass K0 = some t ∧ Z.vm.assignable c t = false) (hd : decode c.code pc = .ok (.instanceof index, 3)) (hp : pc + 3 = pc') (K : ∀ T' : State, Stand p l e Rm s m args below meth c T' locs cells slots → T'.heap = h → Runs p e below E (T'.setTop (mkF m pc' Ls (.int 0 :: st)))) : Runs p e below E (T.setTop (mkF m pc Ls (.ref a :: st))) := by
  subst hp
  obtain ⟨T1, X1, e1, st1⟩ := Jvm.RoadKit.instNo X hx hZ hown w eT F N (g := mkF m pc Ls (.ref a :: st)) rfl rfl hd
  exact (K T1 X1 e1).by st1
theorem w_gcls (X : Stand p l e Rm s m args below meth c T locs cells slots) (hx : p.tables.exec = Jvm.exec) {Z : State} {a0 : Array Value} {h : Heap} {own C0 : String} {index : Nat} {a mr : Addr} (W : Nat) (hZ : Z.Warmed39 s.vm) (hown : s.vm.findClass own = some m.cls) (w1 : (Cond.methodLink own index ⟨"java/lang/Object", "getClass", "()Ljava/lang/Class;"⟩).before a0 Z = true) (w2 : (Cond.declares ⟨"java/lang/Object", "getClass", "()Ljava/lang/Class;"⟩).before a0 Z = true) (w3 : (Cond.noSuperclass "java/lang/Object").before a0 Z = true) (w4 : (Cond.selects C0 ⟨"java/lang/Object", "getClass", "()Ljava/lang/Class;"⟩ ⟨"java/lang/Object", "getClass", "()Ljava/lang/Class;"⟩).before a0 Z = true) (w5 : (Cond.instanceMethod ⟨"java/lang/Object", "getClass", "()Ljava/lang/Class;"⟩).before a0 Z = true) (w6 : (Cond.native ⟨"java/lang/Object", "getClass", "()Ljava/lang/Class;"⟩).before a0 Z = true) (eT : T.heap = h) (F : Exa Z h a C0) (M : MirO Z C0 mr) (hsz : Ls.size = c.maxLocals) (hd : decode c.code pc = .ok (.invokevirtual index, 3)) (hf : 1 ≤ Rm.frames) (hW : (st.map fun v => v.category).sum ≤ W) (hl : W + (nativeFrameWords "java/lang/Object" "getClass" 1 + 11) ≤ Rm.locals) (hp : pc + 3 = pc') (K : ∀ T' : State, Stand p l e Rm s m args below meth c T' locs cells slots → T'.heap = h → Runs p e below E (T'.setTop (mkF m pc' Ls (.ref mr :: st)))) : Runs p e below E (T.setTop (mkF m pc Ls (.ref a :: st))) := by
  subst hp
  obtain ⟨cB, kB, i1, i2, i3⟩ := isOf hZ eT F
  obtain ⟨cc, kc, m1, m2, m3⟩ := M
  rw [hZ.alike.findClass] at i1
  cases i1.symm.trans m1
  obtain ⟨k', q, ek⟩ := hZ.alike.2.2 _ _ m2
  obtain ⟨vm', X', st1⟩ := X.getClassOf hx hown (mvT hZ w1) (mvT hZ w2) (nf_top (args := #[]) (mvT hZ w3)) (mvT hZ w4) (mvT hZ w5) (mvT hZ w6) (by rw [hZ.alike.findClass]; exact m1) i3 q (by rw [ek]; exact m3) (g := mkF m pc Ls (.ref a :: st)) rfl hsz rfl hd hf (by show 2 * 0 + _ + _ ≤ _; omega)
  exact (K _ X' eT).by st1
theorem w_ldcK (X : Stand p l e Rm s m args below meth c T locs cells slots) (hx : p.tables.exec = Jvm.exec) {Z : State} {a0 : Array Value} {h : Heap} {own C0 : String} {index : Nat} {mr : Addr} (hZ : Z.Warmed39 s.vm) (hown : s.vm.findClass own = some m.cls) (w : (Cond.classLink own index C0).before a0 Z = true) (eT : T.heap = h) (M : MirO Z C0 mr) (hd : decode c.code pc = .ok (.ldc index, 2)) (hp : pc + 2 = pc') (K : ∀ T' : State, Stand p l e Rm s m args below meth c T' locs cells slots → T'.heap = h → Runs p e below E (T'.setTop (mkF m pc' Ls (.ref mr :: st)))) : Runs p e below E (T.setTop (mkF m pc Ls st)) := by
  subst hp
  obtain ⟨T1, X1, e1, st1⟩ := own_ldcK X hx hZ hown w eT M (g := mkF m pc Ls st) rfl hd
  exact (K T1 X1 e1).by st1
theorem w_cpA (X : Stand p l e Rm s m args below meth c T locs cells slots) (hx : p.tables.exec = Jvm.exec) {Z : State} {a0 : Array Value} {h : Heap} {own : String} {index : Nat} {a b : Addr} {k k2 : ClassId} {ty ty2 : FieldType} {z z2 sp dp nn : Int32} {vs vd us vr : List Value} {dv dd : Value} {n0 : Nat} (W : Nat) (hZ : Z.Warmed39 s.vm) (hown : s.vm.findClass own = some m.cls) (w1 : (Cond.methodLink own index Jvm.Stand.acN).before a0 Z = true) (w2 : (Cond.native Jvm.Stand.acN).before a0 Z = true) (w3 : (Cond.static Jvm.Stand.acN).before a0 Z = true) (w4 : (Cond.initialized "java/lang/System").before a0 Z = true) (eT : T.heap = h) (A : Arv Z h a k ty z vs dv) (B : Arv Z h b k2 ty2 z2 vd dd) (hty : (ty = ty2 ∧ refKind ty = false) ∨ (refKind ty = true ∧ refKind ty2 = true ∧ StoL Z h b us)) (h1 : ¬ sp < 0) (h2 : ¬ dp < 0) (h3 : ¬ nn < 0) (h4 : sp.toNatClampNeg + nn.toNatClampNeg ≤ z.toNatClampNeg) (h5 : dp.toNatClampNeg + nn.toNatClampNeg ≤ z2.toNatClampNeg) (hus : us = (List.range nn.toNatClampNeg).map fun i => vs.getD (sp.toNatClampNeg + i) dv) (hle : dp.toNatClampNeg + nn.toNatClampNeg ≤ vd.length) (hvr : vd.take dp.toNatClampNeg ++ us ++ vd.drop (dp.toNatClampNeg + nn.toNatClampNeg) = vr) (N : Fr n0 locs) (ge : n0 ≤ b) (hsz : Ls.size = c.maxLocals) (hd : decode c.code pc = .ok (.invokestatic index, 3)) (hf : 1 ≤ Rm.frames) (hW : (st.map fun v => v.category).sum ≤ W) (hlo : W + (nativeFrameWords "java/lang/System" "arraycopy" 5 + 11) ≤ Rm.locals) (hp : pc + 3 = pc') (K : ∀ (T' : State) (h' : Heap) (L' : List Loc), Stand p l e Rm s m args below meth c T' L' cells slots → T'.heap = h' → Fr n0 L' → Keep h h' [b] → Arv Z h' b k2 ty2 z2 vr dd → Runs p e below E (T'.setTop (mkF m pc' Ls st))) : Runs p e below E (T.setTop (mkF m pc Ls (.int nn :: .int dp :: .ref b :: .int sp :: .ref a :: st))) := by
  subst hp
  subst hvr
  obtain ⟨T1, h1', L1, X1, e1, N1, K1, A1, st1⟩ := cpA X hx hZ hown w1 w2 w3 w4 eT A B hty h1 h2 h3 h4 h5 hus hle N ge (g := mkF m pc Ls (.int nn :: .int dp :: .ref b :: .int sp :: .ref a :: st)) rfl hsz rfl hd hf (W := W) (by show 2 * 0 + _ ≤ _; omega) hlo
  exact (K T1 h1' L1 X1 e1 N1 K1 A1).by st1
theorem w_static (X : Stand p l e Rm s m args below meth c T locs cells slots) (hx : p.tables.exec = Jvm.exec) {stk : List Value} {own : String} {index : Nat} {y : MethodName} {bytes : ByteArray} {maxL : Nat} {ret : Option FieldType} {W : Nat} {Pre : Pt → Array Value → Prop} {Post : Pt → Array Value → Option Value → Pt → Prop} (hown : s.vm.findClass own = some m.cls) (hlink : (Cond.methodLink own index y).before args s = true) (hstat : (Cond.static y).before args s = true) (hinit : (Cond.initialized y.cls).before args s = true) (hcode : (Cond.code y bytes maxL ret).before args s = true) (hy : y.cls ≠ "java/lang/invoke/MethodHandle" ∧ y.cls ≠ "java/lang/invoke/VarHandle") (hK : Back l Rm p e below s args y 3 W Pre Post) (hsz : Ls.size = c.maxLocals) (argsL : List Value) (hlen : ∀ sig, parseMethodDescriptor y.desc = some sig → argsL.length = sig.parameters.length) (hst : stk = argsL.reverse ++ st) (hW : (st.map fun v => v.category).sum ≤ W) (hd : decode c.code pc = .ok (.invokestatic index, 3)) (hpre : ∀ vm₁, s.WarmedH vm₁ → Pre ⟨T.setVm vm₁, locs, cells, slots⟩ argsL.toArray) (hp : pc + 3 = pc') (K : ∀ (v : Option Value) (vm₁ : Vm) (B : Pt), Stand p l e Rm s m args below meth c B.U B.locs B.cells B.slots → Post ⟨T.setVm vm₁, locs, cells, slots⟩ argsL.toArray v B → Runs p e below E (B.U.setTop (mkF m pc' Ls (v.toList ++ st)))) : Runs p e below E (T.setTop (mkF m pc Ls stk)) := by
  subst hp
  obtain ⟨v1, vm1, B1, -, X1, q1, st1⟩ := Jvm.LawKit.callS X hx hown hlink hstat hinit hcode hy hK (g := mkF m pc Ls stk) rfl hsz (argsL := argsL) (rest := st) hlen hst (by show 2 * 0 + _ ≤ _; omega) hd hpre
  exact (K v1 vm1 B1 X1 q1).by st1
theorem w_special (X : Stand p l e Rm s m args below meth c T locs cells slots) (hx : p.tables.exec = Jvm.exec) {stk : List Value} {own : String} {index : Nat} {y : MethodName} {bytes : ByteArray} {maxL : Nat} {a : Addr} {W : Nat} {Pre : Pt → Array Value → Prop} {Post : Pt → Array Value → Option Value → Pt → Prop} (hy1 : y.name = "<init>") (hown : s.vm.findClass own = some m.cls) (hlink : (Cond.methodLink own index y).before args s = true) (hinst : (Cond.instanceMethod y).before args s = true) (hcode : (Cond.code y bytes maxL none).before args s = true) (hy : y.cls ≠ "java/lang/invoke/MethodHandle" ∧ y.cls ≠ "java/lang/invoke/VarHandle") (hK : Back l Rm p e below s args y 3 W Pre Post) (hsz : Ls.size = c.maxLocals) (argsL : List Value) (hlen : ∀ sig, parseMethodDescriptor y.desc = some sig → argsL.length = sig.parameters.length) (hst : stk = argsL.reverse ++ .ref a :: st) (hW : (st.map fun v => v.category).sum ≤ W) (hd : decode c.code pc = .ok (.invokespecial index, 3)) (hpre : ∀ vm₁, s.WarmedH vm₁ → Pre ⟨T.setVm vm₁, locs, cells, slots⟩ (.ref a :: argsL).toArray) (hp : pc + 3 = pc') (K : ∀ (v : Option Value) (vm₁ : Vm) (B : Pt), Stand p l e Rm s m args below meth c B.U B.locs B.cells B.slots → Post ⟨T.setVm vm₁, locs, cells, slots⟩ (.ref a :: argsL).toArray v B → Runs p e below E (B.U.setTop (mkF m pc' Ls (v.toList ++ st)))) : Runs p e below E (T.setTop (mkF m pc Ls stk)) := by
  subst hp
  obtain ⟨v1, vm1, B1, -, X1, q1, st1⟩ := X.specialBack hx hy1 hown hlink hinst hcode hy hK (g := mkF m pc Ls stk) rfl hsz (Steps.refl _) (a := a) (argsL := argsL) (rest := st) hlen hst (by show 2 * 0 + _ ≤ _; omega) hd hpre
  exact (K v1 vm1 B1 X1 q1).tr st1
theorem w_private (X : Stand p l e Rm s m args below meth c T locs cells slots) (hx : p.tables.exec = Jvm.exec) {stk : List Value} {own : String} {index : Nat} {y : MethodName} {bytes : ByteArray} {maxL : Nat} {ret : Option FieldType} {a : Addr} {cell : Cell} {W : Nat} {Pre : Pt → Array Value → Prop} {Post : Pt → Array Value → Option Value → Pt → Prop} (hown : s.vm.findClass own = some m.cls) (hlink : (Cond.methodLink own index y).before args s = true) (hinst : (Cond.instanceMethod y).before args s = true) (hsel : (Cond.selects y.cls y y).before args s = true) (hpriv : s.PrivateAt y) (hcode : (Cond.code y bytes maxL ret).before args s = true) (hy : y.cls ≠ "java/lang/invoke/MethodHandle" ∧ y.cls ≠ "java/lang/invoke/VarHandle") (hK : Back l Rm p e below s args y 3 W Pre Post) (hcell : T.heap[a]? = some cell) (hobj : ∀ q, cell.vm ≠ .statics q) (hsz : Ls.size = c.maxLocals) (argsL : List Value) (hlen : ∀ sig, parseMethodDescriptor y.desc = some sig → argsL.length = sig.parameters.length) (hst : stk = argsL.reverse ++ .ref a :: st) (hW : (st.map fun v => v.category).sum ≤ W) (hd : decode c.code pc = .ok (.invokevirtual index, 3)) (hpre : ∀ vm₁, s.WarmedH vm₁ → Pre ⟨T.setVm vm₁, locs, cells, slots⟩ (.ref a :: argsL).toArray) (hp : pc + 3 = pc') (K : ∀ (v : Option Value) (vm₁ : Vm) (B : Pt), Stand p l e Rm s m args below meth c B.U B.locs B.cells B.slots → Post ⟨T.setVm vm₁, locs, cells, slots⟩ (.ref a :: argsL).toArray v B → Runs p e below E (B.U.setTop (mkF m pc' Ls (v.toList ++ st)))) : Runs p e below E (T.setTop (mkF m pc Ls stk)) := by
  subst hp
  obtain ⟨v1, vm1, B1, -, X1, q1, st1⟩ := X.privateBack hx hown hlink hinst hsel hpriv hcode hy hK (g := mkF m pc Ls stk) rfl hsz (Steps.refl _) (a := a) hcell hobj (argsL := argsL) (rest := st) hlen hst (by show 2 * 0 + _ ≤ _; omega) hd hpre
  exact (K v1 vm1 B1 X1 q1).tr st1
theorem w_specialN (X : Stand p l e Rm s m args below meth c T locs cells slots) (hx : p.tables.exec = Jvm.exec) {stk : List Value} {own host : String} {index : Nat} {y : MethodName} {bytes : ByteArray} {maxL : Nat} {a : Addr} {W : Nat} {Pre : Pt → Array Value → Prop} {Post : Pt → Array Value → Option Value → Pt → Prop} (hy1 : y.name = "<init>") (hown : s.vm.findClass own = some m.cls) (hlink : (Cond.methodLinkNest own index y host).before args s = true) (hinst : (Cond.instanceMethod y).before args s = true) (hcode : (Cond.code y bytes maxL none).before args s = true) (hy : y.cls ≠ "java/lang/invoke/MethodHandle" ∧ y.cls ≠ "java/lang/invoke/VarHandle") (hK : Back l Rm p e below s args y 3 W Pre Post) (hsz : Ls.size = c.maxLocals) (argsL : List Value) (hlen : ∀ sig, parseMethodDescriptor y.desc = some sig → argsL.length = sig.parameters.length) (hst : stk = argsL.reverse ++ .ref a :: st) (hW : (st.map fun v => v.category).sum ≤ W) (hd : decode c.code pc = .ok (.invokespecial index, 3)) (hpre : ∀ vm₁, s.WarmedH vm₁ → Pre ⟨T.setVm vm₁, locs, cells, slots⟩ (.ref a :: argsL).toArray) (hp : pc + 3 = pc') (K : ∀ (v : Option Value) (vm₁ : Vm) (B : Pt), Stand p l e Rm s m args below meth c B.U B.locs B.cells B.slots → Post ⟨T.setVm vm₁, locs, cells, slots⟩ (.ref a :: argsL).toArray v B → Runs p e below E (B.U.setTop (mkF m pc' Ls (v.toList ++ st)))) : Runs p e below E (T.setTop (mkF m pc Ls stk)) := by
  subst hp
  obtain ⟨v1, vm1, B1, -, X1, q1, st1⟩ := X.specialBackNest hx hy1 hown hlink hinst hcode hy hK (g := mkF m pc Ls stk) rfl hsz (Steps.refl _) (a := a) (argsL := argsL) (rest := st) hlen hst (by show 2 * 0 + _ ≤ _; omega) hd hpre
  exact (K v1 vm1 B1 X1 q1).tr st1
theorem w_virtual (X : Stand p l e Rm s m args below meth c T locs cells slots) (hx : p.tables.exec = Jvm.exec) {stk : List Value} {own C : String} {index : Nat} {y z : MethodName} {b : Addr} {cB : ClassId} {W : Nat} {Pre : Pt → Array Value → Prop} {Post : Pt → Array Value → Option Value → Pt → Prop} (hown : s.vm.findClass own = some m.cls) (hlink : (Cond.methodLink own index y).before args s = true) (hdecl : (Cond.declares y).before args s = true) (hnf : NotFace s y) (hsel : (Cond.selects C y z).before args s = true) (hinst : (Cond.instanceMethod z).before args s = true) (hy : y.cls ≠ "java/lang/invoke/MethodHandle" ∧ y.cls ≠ "java/lang/invoke/VarHandle") (hK : Back l Rm p e below s args z 3 W Pre Post) (hcB : s.vm.findClass C = some cB) (hrecv : IsOf cB T b) (hsz : Ls.size = c.maxLocals) (argsL : List Value) (hlen : ∀ sig, parseMethodDescriptor y.desc = some sig → argsL.length = sig.parameters.length) (hst : stk = argsL.reverse ++ .ref b :: st) (hW : (st.map fun v => v.category).sum ≤ W) (hd : decode c.code pc = .ok (.invokevirtual index, 3)) (hpre : ∀ vm₁, s.WarmedH vm₁ → Pre ⟨T.setVm vm₁, locs, cells, slots⟩ (.ref b :: argsL).toArray) (hp : pc + 3 = pc') (K : ∀ (v : Option Value) (vm₁ : Vm) (B : Pt), Stand p l e Rm s m args below meth c B.U B.locs B.cells B.slots → Post ⟨T.setVm vm₁, locs, cells, slots⟩ (.ref b :: argsL).toArray v B → Runs p e below E (B.U.setTop (mkF m pc' Ls (v.toList ++ st)))) : Runs p e below E (T.setTop (mkF m pc Ls stk)) := by
  subst hp
  obtain ⟨v1, vm1, B1, -, X1, q1, st1⟩ := X.virtualBack hx hown hlink hdecl hnf hsel hinst hy hK hcB hrecv (g := mkF m pc Ls stk) rfl hsz (Steps.refl _) (argsL := argsL) (rest := st) hlen hst (by show 2 * 0 + _ ≤ _; omega) hd hpre
  exact (K v1 vm1 B1 X1 q1).tr st1
theorem w_interface (X : Stand p l e Rm s m args below meth c T locs cells slots) (hx : p.tables.exec = Jvm.exec) {stk : List Value} {own C : String} {index count : Nat} {xi y : MethodName} {b : Addr} {cB : ClassId} {kB : Class} {W : Nat} {Pre : Pt → Array Value → Prop} {Post : Pt → Array Value → Option Value → Pt → Prop} (hown : s.vm.findClass own = some m.cls) (hlink : (Cond.methodLink own index xi).before args s = true) (hdecl : (Cond.declares xi).before args s = true) (hface : (Cond.interfaceMethod xi.cls xi.cls xi.name xi.desc).before args s = true) (hsel : (Cond.selects C xi y).before args s = true) (hinst : (Cond.instanceMethod y).before args s = true) (hpub : (Cond.publicMethod y).before args s = true) (hunh : (Cond.unhidden C xi.name xi.desc).before args s = true) (hcast : (Cond.castable C xi.cls).before args s = true) (hy : xi.cls ≠ "java/lang/invoke/MethodHandle" ∧ xi.cls ≠ "java/lang/invoke/VarHandle") (hK : Back l Rm p e below s args y 5 W Pre Post) (hcB : s.vm.findClass C = some cB) (hkB : s.vm.classes[cB]? = some kB) (hrecv : IsOf cB T b) (hsz : Ls.size = c.maxLocals) (argsL : List Value) (hlen : ∀ sig, parseMethodDescriptor xi.desc = some sig → argsL.length = sig.parameters.length) (hst : stk = argsL.reverse ++ .ref b :: st) (hW : (st.map fun v => v.category).sum ≤ W) (hd : decode c.code pc = .ok (.invokeinterface index count, 5)) (hpre : ∀ vm₁, s.WarmedH vm₁ → Pre ⟨T.setVm vm₁, locs, cells, slots⟩ (.ref b :: argsL).toArray) (hp : pc + 5 = pc') (K : ∀ (v : Option Value) (vm₁ : Vm) (B : Pt), Stand p l e Rm s m args below meth c B.U B.locs B.cells B.slots → Post ⟨T.setVm vm₁, locs, cells, slots⟩ (.ref b :: argsL).toArray v B → Runs p e below E (B.U.setTop (mkF m pc' Ls (v.toList ++ st)))) : Runs p e below E (T.setTop (mkF m pc Ls stk)) := by
  subst hp
  obtain ⟨v1, vm1, B1, -, X1, q1, st1⟩ := X.interfaceBack hx hown hlink hdecl hface hsel hinst hpub hunh hcast hy hK hcB hkB hrecv (g := mkF m pc Ls stk) rfl hsz (Steps.refl _) (argsL := argsL) (rest := st) hlen hst (by show 2 * 0 + _ ≤ _; omega) hd hpre
  exact (K v1 vm1 B1 X1 q1).tr st1
theorem w_staticS (X : Stand p l e Rm s m args below meth c T locs cells slots) (hx : p.tables.exec = Jvm.exec) {stk : List Value} {own : String} {index : Nat} {y : MethodName} {bytes : ByteArray} {maxL : Nat} {ret : Option FieldType} {W : Nat} {Pre : Pt → Array Value → Prop} {Post : Pt → Array Value → Option Value → Pt → Prop} (hown : s.vm.findClass own = some m.cls) (hlink : (Cond.methodLink own index y).before args s = true) (hstat : (Cond.static y).before args s = true) (hinit : (Cond.initialized y.cls).before args s = true) (hcode : (Cond.code y bytes maxL ret).before args s = true) (hy : y.cls ≠ "java/lang/invoke/MethodHandle" ∧ y.cls ≠ "java/lang/invoke/VarHandle") (hK : BackS l Rm p e below s args y 3 W Pre Post) (hsz : Ls.size = c.maxLocals) (argsL : List Value) (hlen : ∀ sig, parseMethodDescriptor y.desc = some sig → argsL.length = sig.parameters.length) (hst : stk = argsL.reverse ++ st) (hW : (st.map fun v => v.category).sum ≤ W) (hd : decode c.code pc = .ok (.invokestatic index, 3)) (hpre : ∀ vm₁, s.WarmedH vm₁ → Pre ⟨T.setVm vm₁, locs, cells, slots⟩ argsL.toArray) (hp : pc + 3 = pc') (K : ∀ (v : Option Value) (vm₁ : Vm) (B : Pt), Stand p l e Rm (s.setVm B.U.vm) m args below meth c B.U B.locs B.cells B.slots → s.Since B.U.vm B.U.heap.size → T.heap.size ≤ B.U.heap.size → Post ⟨T.setVm vm₁, locs, cells, slots⟩ argsL.toArray v B → Runs p e below E (B.U.setTop (mkF m pc' Ls (v.toList ++ st)))) : Runs p e below E (T.setTop (mkF m pc Ls stk)) := by
  subst hp
  obtain ⟨v1, vm1, B1, -, X1, s1, g1, q1, st1⟩ := callSS X hx hown hlink hstat hinit hcode hy hK (g := mkF m pc Ls stk) rfl hsz (argsL := argsL) (rest := st) hlen hst (by show 2 * 0 + _ ≤ _; omega) hd hpre
  exact (K v1 vm1 B1 X1 s1 g1 q1).tr st1
theorem w_specialS (X : Stand p l e Rm s m args below meth c T locs cells slots) (hx : p.tables.exec = Jvm.exec) {stk : List Value} {own : String} {index : Nat} {y : MethodName} {bytes : ByteArray} {maxL : Nat} {a : Addr} {W : Nat} {Pre : Pt → Array Value → Prop} {Post : Pt → Array Value → Option Value → Pt → Prop} (hy1 : y.name = "<init>") (hown : s.vm.findClass own = some m.cls) (hlink : (Cond.methodLink own index y).before args s = true) (hinst : (Cond.instanceMethod y).before args s = true) (hcode : (Cond.code y bytes maxL none).before args s = true) (hy : y.cls ≠ "java/lang/invoke/MethodHandle" ∧ y.cls ≠ "java/lang/invoke/VarHandle") (hK : BackS l Rm p e below s args y 3 W Pre Post) (hsz : Ls.size = c.maxLocals) (argsL : List Value) (hlen : ∀ sig, parseMethodDescriptor y.desc = some sig → argsL.length = sig.parameters.length) (hst : stk = argsL.reverse ++ .ref a :: st) (hW : (st.map fun v => v.category).sum ≤ W) (hd : decode c.code pc = .ok (.invokespecial index, 3)) (hpre : ∀ vm₁, s.WarmedH vm₁ → Pre ⟨T.setVm vm₁, locs, cells, slots⟩ (.ref a :: argsL).toArray) (hp : pc + 3 = pc') (K : ∀ (v : Option Value) (vm₁ : Vm) (B : Pt), Stand p l e Rm (s.setVm B.U.vm) m args below meth c B.U B.locs B.cells B.slots → s.Since B.U.vm B.U.heap.size → T.heap.size ≤ B.U.heap.size → Post ⟨T.setVm vm₁, locs, cells, slots⟩ (.ref a :: argsL).toArray v B → Runs p e below E (B.U.setTop (mkF m pc' Ls (v.toList ++ st)))) : Runs p e below E (T.setTop (mkF m pc Ls stk)) := by
  subst hp
  obtain ⟨v1, vm1, B1, -, X1, s1, g1, q1, st1⟩ := X.specialBackS hx hy1 hown hlink hinst hcode hy hK (g := mkF m pc Ls stk) rfl hsz (Steps.refl _) (a := a) (argsL := argsL) (rest := st) hlen hst (by show 2 * 0 + _ ≤ _; omega) hd hpre
  exact (K v1 vm1 B1 X1 s1 g1 q1).tr st1
end W

/-- a body's contract, and how a walk shows it -/
abbrev MetN (l : Launch) (Z : State) (y : MethodName) (bytes : ByteArray) (maxL : Nat) (ret : Option FieldType) (ws : List Cond) (rm : Room) (as' : Array Value) (h : Heap) (Q : Option Value → Heap → List Loc → Prop) : Prop :=
  MetFree l y (head1 (Cond.code y bytes maxL ret :: ws) rm) (fun a U => a = as' ∧ Z.Warmed39 U.vm ∧ U.heap = h) (fun _ _ _ _ _ => True) (fun _ U o U' => ∃ v L, o = .returned v ∧ Q v U'.heap L ∧ FrameEnd U o U' L rm.cells rm.slots)
theorem MetN.of {l : Launch} {Z : State} {y : MethodName} {bytes : ByteArray} {maxL : Nat} {ret : Option FieldType} {ws : List Cond} {rm : Room} {as' : Array Value} {h : Heap} {Q : Option Value → Heap → List Loc → Prop} (hp : plainFor y = true)
    (H : ∀ (p : Program) (e : Env) (s : State) (m : MethodId) (below : List Frame) (meth : Method) (c : Code) (s₁ : State), meth.sig.returnType = ret → p.tables.exec = Jvm.exec → c.code = bytes → c.maxLocals = maxL → s.vm.findClass y.cls = some m.cls → meth.name = y.name → meth.locks = false → Z.Warmed39 s.vm → Stand p l e rm s m as' below meth c s₁ [] 0 0 → s₁.heap = h → Runs p e below (EndN s Q rm.cells rm.slots) (s₁.setTop (entryFrame m as' maxL))) :
    MetN l Z y bytes maxL ret ws rm as' h Q := by
  refine MetFree.of_bodySF hp hisR ?_
  intro p e s m args below meth c s₁ Bd hml hP hK
  obtain ⟨rfl, hZ, hh⟩ := hP
  exact H p e s m below meth c s₁ Bd.returns Bd.exec Bd.bytes hml (findClass_of_methodNamed Bd.named) (name_of_methodNamed Bd.named Bd.method).1 Bd.notSynchronized hZ (Stand.of_body Bd) (by rw [← hh, Bd.state]; rfl)
abbrev MetH (l : Launch) (Z : State) (EL : List (String × Nat)) (y : MethodName) (bytes : ByteArray) (maxL : Nat) (ret : Option FieldType) (ws : List Cond) (rm : Room) (as' : Array Value) (h : Heap) (Q : Option Value → Heap → List Loc → (Addr → Prop) → Prop) (sf : List Addr) : Prop :=
  MetFree l y (head1 (Cond.code y bytes maxL ret :: ws) rm) (fun a U => a = as' ∧ Z.Warmed39 U.vm ∧ U.heap = h ∧ CHv Z EL U.vm h ∧ ∀ x ∈ sf, Safe Z EL U.vm h x) (fun _ _ _ _ _ => True) (fun _ U o U' => ∃ v L, o = .returned v ∧ Q v U'.heap L (Safe Z EL U'.vm U'.heap) ∧ CHr Z EL U.vm U.heap U'.vm U'.heap ∧ ReturnedEndW U o U' L rm.cells rm.slots)
theorem MetH.of {l : Launch} {Z : State} {EL : List (String × Nat)} {y : MethodName} {bytes : ByteArray} {maxL : Nat} {ret : Option FieldType} {ws : List Cond} {rm : Room} {as' : Array Value} {h : Heap} {Q : Option Value → Heap → List Loc → (Addr → Prop) → Prop} {sf : List Addr} (hp : plainFor y = true)
    (H : ∀ (p : Program) (e : Env) (s : State) (m : MethodId) (below : List Frame) (meth : Method) (c : Code) (s₁ : State), meth.sig.returnType = ret → p.tables.exec = Jvm.exec → c.code = bytes → c.maxLocals = maxL → s.vm.findClass y.cls = some m.cls → meth.name = y.name → meth.locks = false → Z.Warmed39 s.vm → Stand p l e rm (s.setVm s.vm) m as' below meth c s₁ [] 0 0 → s₁.heap = h → s.heap = h → CHv Z EL s.vm h → (∀ x ∈ sf, Safe Z EL s.vm h x) → s.Since s.vm h.size → CHr Z EL s.vm h s.vm h → Runs p e below (EndH s Z EL Q rm.cells rm.slots) (s₁.setTop (entryFrame m as' maxL))) :
    MetH l Z EL y bytes maxL ret ws rm as' h Q sf := by
  refine MetFree.of_bodySF hp hisR ?_
  intro p e s m args below meth c s₁ Bd hml hP hK
  obtain ⟨rfl, hZ, hh, hH, hsf⟩ := hP
  exact H p e s m below meth c s₁ Bd.returns Bd.exec Bd.bytes hml (findClass_of_methodNamed Bd.named) (name_of_methodNamed Bd.named Bd.method).1 Bd.notSynchronized hZ (Stand.of_body Bd) (by rw [← hh, Bd.state]; rfl) hh hH hsf ((State.WarmedH.refl s).since _) (CHr.refl hH)
end Jvm.RoadKit
/- laws to paste: Road.backV (cut by pick.py; bodies as the Statement names them) -/
namespace Jvm.Pilot.@@N@@
namespace StrChars
open Jvm Sem ClassFile Op Lib Jvm.Stand Jvm.Free.XT Jvm.Free.ALB Jvm.Free.JM Jvm.Free
open Jvm.Lib.Cold (StaticIs)
/-- a char array whose places are chars -/
def Ch (a : Addr) (A : Cell) (U : State) : Prop := Arr .char a A U ∧ Typed .char A
theorem Ch.mv {a : Addr} {A : Cell} {U U' : State} (h : Ch a A U) (hal : U.vm.Alike U'.vm) (hh : U'.heap = U.heap) : Ch a A U' := ⟨h.1.mv hal hh, h.2⟩
theorem Ch.keep {a : Addr} {A : Cell} {U U' : State} (h : Ch a A U) (hal : U.vm.Alike U'.vm) (hk : U'.heap[a]? = some A) : Ch a A U' := ⟨h.1.keep hal hk, h.2⟩
/-- what place i of a char[]'s cell holds -/
def cv (A : Cell) (i : Nat) : Int32 := match A.slots[i]? with | some (.int x) => x | _ => 0
theorem Ch.get {a : Addr} {A : Cell} {U : State} (h : Ch a A U) {i : Nat} (hi : i < A.slots.size) : A.slots[i]? = some (.int (cv A i)) := by
  have e := Array.getElem?_eq_getElem hi
  have f := h.2 i _ e
  unfold cv; rw [e]
  generalize A.slots[i] = v at f
  cases v <;> simp [fits] at f ⊢
/-- the byte that i2b leaves of a char -/
def lo8 (x : Int32) : Int32 := x.toInt8.toInt32
theorem fits_lo8 (y : Int32) : fits .byte (.int (lo8 y)) = true := by
  have h1 := y.toInt8.le_toInt
  have h2 := y.toInt8.toInt_lt
  simp only [lo8, fits, Bool.and_eq_true, decide_eq_true_eq, Int32.le_iff_toInt_le, Int8.toInt_toInt32, show (-128 : Int32).toInt = -128 from by decide, show (127 : Int32).toInt = 127 from by decide]
  omega
/-- A' is A but that each place j of lo .. hi - 1 holds f j -/
def Laid (A A' : Cell) (lo hi : Nat) (f : Nat → Value) : Prop := A'.cls = A.cls ∧ A'.vm = A.vm ∧ A'.slots.size = A.slots.size ∧ ∀ i, A'.slots[i]? = if lo ≤ i ∧ i < hi then some (f i) else A.slots[i]?
theorem Laid.zero (A : Cell) (lo : Nat) (f : Nat → Value) : Laid A A lo (lo + 0) f := ⟨rfl, rfl, rfl, fun i => by rw [if_neg (by omega)]⟩
theorem Laid.step {A Ak : Cell} {lo k : Nat} {f : Nat → Value} {v : Value} (h : Laid A Ak lo k f) (hlo : lo ≤ k) (hk : k < Ak.slots.size) (hv : v = f k) : Laid A (Ak.setSlot k v) lo (k + 1) f := by
  refine ⟨h.1, h.2.1, by simpa [Cell.setSlot] using h.2.2.1, fun i => ?_⟩
  by_cases e : k = i
  · subst e; rw [Cell.slots_setSlot_self v hk, if_pos (by omega), hv]
  · rw [Cell.slots_setSlot_ne v e, h.2.2.2 i]
    by_cases q : lo ≤ i ∧ i < k
    · rw [if_pos q, if_pos (by omega)]
    · rw [if_neg q, if_neg (by omega)]
def U16 : String := "java/lang/StringUTF16"
namespace Cmp5
def yN : MethodName := ⟨"java/lang/StringUTF16", "compress", "([CI[BII)I"⟩
abbrev yB : ByteArray := jdk_52_method_21_code
theorem d0 : decode yB 0 = .ok (.iconst 0, 1) := by decide +kernel
theorem d1 : decode yB 1 = .ok (.istore 5, 2) := by decide +kernel
theorem d3 : decode yB 3 = .ok (.iload 5, 2) := by decide +kernel
theorem d5 : decode yB 5 = .ok (.iload 4, 2) := by decide +kernel
theorem d7 : decode yB 7 = .ok (.if_icmp (.ge) 37, 3) := by decide +kernel
theorem d10 : decode yB 10 = .ok (.aload_n 0, 1) := by decide +kernel
theorem d11 : decode yB 11 = .ok (.iload_n 1, 1) := by decide +kernel
theorem d12 : decode yB 12 = .ok (.caload, 1) := by decide +kernel
theorem d13 : decode yB 13 = .ok (.istore 6, 2) := by decide +kernel
theorem d15 : decode yB 15 = .ok (.iload 6, 2) := by decide +kernel
theorem d17 : decode yB 17 = .ok (.sipush 255, 3) := by decide +kernel
theorem d20 : decode yB 20 = .ok (.if_icmp (.le) 6, 3) := by decide +kernel
theorem d26 : decode yB 26 = .ok (.aload_n 2, 1) := by decide +kernel
theorem d27 : decode yB 27 = .ok (.iload_n 3, 1) := by decide +kernel
theorem d28 : decode yB 28 = .ok (.iload 6, 2) := by decide +kernel
theorem d30 : decode yB 30 = .ok (.i2b, 1) := by decide +kernel
theorem d31 : decode yB 31 = .ok (.bastore, 1) := by decide +kernel
theorem d32 : decode yB 32 = .ok (.iinc 1 1, 3) := by decide +kernel
theorem d35 : decode yB 35 = .ok (.iinc 3 1, 3) := by decide +kernel
theorem d38 : decode yB 38 = .ok (.iinc 5 1, 3) := by decide +kernel
theorem d41 : decode yB 41 = .ok (.goto (-38), 3) := by decide +kernel
theorem d44 : decode yB 44 = .ok (.iload 4, 2) := by decide +kernel
theorem d46 : decode yB 46 = .ok (.ireturn, 1) := by decide +kernel
def site : List Cond := []
def tab : Cond := tabOf yN yB 7 (some .int) site
def P (b : Addr) (A : Cell) (d : Addr) (B : Cell) (o q len : Nat) (args : Array Value) (s : State) : Prop := args = #[.ref b, .int (Int32.ofNat o), .ref d, .int (Int32.ofNat q), .int (Int32.ofNat len)] ∧ Ch b A s ∧ Arr .byte d B s ∧ b ≠ d ∧ o + len ≤ A.slots.size ∧ q + len ≤ B.slots.size ∧ ∀ i, i < len → ¬ 255 < cv A (o + i)
def E (b : Addr) (A : Cell) (d : Addr) (B : Cell) (o q len : Nat) (r : Option Value) (s u : State) : Prop := r = some (.int (Int32.ofNat len)) ∧ ∃ B', Put d B' s u ∧ Laid B B' q (q + len) (fun j => Value.int (lo8 (cv A (o + (j - q)))))
/-- no char of the range above 255: len; the places written hold each char's low byte -/
theorem law (l : Launch) (b : Addr) (A : Cell) (d : Addr) (B : Cell) (o q len : Nat) : Law l yN 5 5 0 0 yB 7 (some .int) site (P b A d B o q len) (E b A d B o q len) (copyLocs d q len) 0 0 := by
  refine Law.of_walk (plainFor_of_name (by decide +kernel)) (by decide +kernel) (by decide +kernel) (by decide) (fun _ _ h => by rw [h.1]; rfl) (fun _ U U' hal hh h => ⟨h.1, h.2.1.mv hal hh, h.2.2.1.mv hal hh, h.2.2.2⟩) (fun r U U' V V' h1 hal h2 h => ⟨h.1, h.2.elim fun B' q => ⟨B', q.1.mv h1 h2, q.2⟩⟩) ?_
  intro p e s m args below meth c s₁ X0 hexec hbytes hml hret hlk hnm hown hh0 W hP
  obtain ⟨rfl, hA, hB, hne, l1, l2, hp⟩ := hP
  have c1 : Steps p.tables e below (s₁.setTop (entryFrame m #[.ref b, .int (Int32.ofNat o), .ref d, .int (Int32.ofNat q), .int (Int32.ofNat len)] 7)) (s₁.setTop (mkF m 0 #[.val (.ref b), .val (.int (Int32.ofNat o)), .val (.ref d), .val (.int (Int32.ofNat q)), .val (.int (Int32.ofNat len)), .unset, .unset] [])) := entry rfl
  have hA0 := hA.1.mv X0.warmed.alike hh0
  have hB0 := hB.mv X0.warmed.alike hh0
  have a31 := hA.1.2.2.2
  have c2 : Steps p.tables e below (s₁.setTop (entryFrame m #[.ref b, .int (Int32.ofNat o), .ref d, .int (Int32.ofNat q), .int (Int32.ofNat len)] 7)) (s₁.setTop (mkF m 3 #[.val (.ref b), .val (.int (Int32.ofNat o)), .val (.ref d), .val (.int (Int32.ofNat q)), .val (.int (Int32.ofNat len)), .val (.int 0), .unset] [])) := c1.trans (by
    refine iconstV X0.here hexec rfl 0 (hb hbytes d0) (by decide) ?_
    refine XS.istore X0.here hexec rfl (hb hbytes d1) rfl rfl ?_
    exact Steps.refl _)
  have loop : ∀ (r i : Nat), i + r = len → ∀ (z : Slot), (z = .unset ∨ ∃ w, z = .val w ∧ w.category = 1) → ∀ (Tl : State) (Bk : Cell), Stand p l e { frames := 0, locals := 0, cells := 0, slots := 0 } s m #[.ref b, .int (Int32.ofNat o), .ref d, .int (Int32.ofNat q), .int (Int32.ofNat len)] below meth c Tl ([] ++ copyLocs d q i) 0 0 → Put d Bk s₁ Tl → Laid B Bk q (q + i) (fun j => Value.int (lo8 (cv A (o + (j - q))))) →
      Steps p.tables e below (s₁.setTop (entryFrame m #[.ref b, .int (Int32.ofNat o), .ref d, .int (Int32.ofNat q), .int (Int32.ofNat len)] 7)) (Tl.setTop (mkF m 3 #[.val (.ref b), .val (.int (Int32.ofNat (o + i))), .val (.ref d), .val (.int (Int32.ofNat (q + i))), .val (.int (Int32.ofNat len)), .val (.int (Int32.ofNat i)), z] [])) → ∃ (T' : State) (B' : Cell) (z' : Slot), Stand p l e { frames := 0, locals := 0, cells := 0, slots := 0 } s m #[.ref b, .int (Int32.ofNat o), .ref d, .int (Int32.ofNat q), .int (Int32.ofNat len)] below meth c T' ([] ++ copyLocs d q len) 0 0 ∧ Put d B' s₁ T' ∧ Laid B B' q (q + len) (fun j => Value.int (lo8 (cv A (o + (j - q))))) ∧
      Steps p.tables e below (s₁.setTop (entryFrame m #[.ref b, .int (Int32.ofNat o), .ref d, .int (Int32.ofNat q), .int (Int32.ofNat len)] 7)) (T'.setTop (mkF m 3 #[.val (.ref b), .val (.int (Int32.ofNat (o + len))), .val (.ref d), .val (.int (Int32.ofNat (q + len))), .val (.int (Int32.ofNat len)), .val (.int (Int32.ofNat len)), z'] [])) := by
    intro r
    induction r with
    | zero =>
      intro i hi z hz Tl Bk Xl pl fl cl
      have hil : i = len := by omega
      rw [hil] at Xl fl cl
      exact ⟨Tl, Bk, z, Xl, pl, fl, cl⟩
    | succ r ih =>
      intro i hi z hz Tl Bk Xl pl fl cl
      have all := X0.warmed.alike.symm.trans Xl.warmed.alike
      have hAl := hA0.keep all (pl.other hne hA0.1)
      have hBk := hB0.like all pl.1 fl.1 fl.2.1 fl.2.2.1
      have hlt : q + i < Bk.slots.size := by rw [fl.2.2.1]; omega
      have c3 : Steps p.tables e below (s₁.setTop (entryFrame m #[.ref b, .int (Int32.ofNat o), .ref d, .int (Int32.ofNat q), .int (Int32.ofNat len)] 7)) (Tl.setTop (mkF m 12 #[.val (.ref b), .val (.int (Int32.ofNat (o + i))), .val (.ref d), .val (.int (Int32.ofNat (q + i))), .val (.int (Int32.ofNat len)), .val (.int (Int32.ofNat i)), z] [.int (Int32.ofNat (o + i)), .ref b])) := cl.trans (by
        refine XS.iload Xl.here hexec rfl (hb hbytes d3) rfl ?_
        refine XS.iload Xl.here hexec rfl (hb hbytes d5) rfl ?_
        refine XS.icmpNo Xl.here hexec rfl (hb hbytes d7) rfl (ii_ge_f (lt32 (by omega) (by omega))) ?_
        refine XS.aloadN Xl.here hexec rfl (hb hbytes d10) rfl rfl ?_
        refine XS.iloadN Xl.here hexec rfl (hb hbytes d11) rfl ?_
        exact Steps.refl _)
      have c4 : Steps p.tables e below (s₁.setTop (entryFrame m #[.ref b, .int (Int32.ofNat o), .ref d, .int (Int32.ofNat q), .int (Int32.ofNat len)] 7)) (Tl.setTop (mkF m 13 #[.val (.ref b), .val (.int (Int32.ofNat (o + i))), .val (.ref d), .val (.int (Int32.ofNat (q + i))), .val (.int (Int32.ofNat len)), .val (.int (Int32.ofNat i)), z] [.int (cv A (o + i))])) := c3.trans (by
        refine Xl.aget hexec hAl rfl (hA.get (i := o + i) (by omega)) rfl rfl (hb hbytes d12) ?_
        exact Steps.refl _)
      have c5 : Steps p.tables e below (s₁.setTop (entryFrame m #[.ref b, .int (Int32.ofNat o), .ref d, .int (Int32.ofNat q), .int (Int32.ofNat len)] 7)) (Tl.setTop (mkF m 15 #[.val (.ref b), .val (.int (Int32.ofNat (o + i))), .val (.ref d), .val (.int (Int32.ofNat (q + i))), .val (.int (Int32.ofNat len)), .val (.int (Int32.ofNat i)), .val (.int (cv A (o + i)))] [])) := c4.trans (by
        refine XS.istoreS Xl.here hexec rfl (hb hbytes d13) rfl rfl hz ?_
        exact Steps.refl _)
      have c6 : Steps p.tables e below (s₁.setTop (entryFrame m #[.ref b, .int (Int32.ofNat o), .ref d, .int (Int32.ofNat q), .int (Int32.ofNat len)] 7)) (Tl.setTop (mkF m 31 #[.val (.ref b), .val (.int (Int32.ofNat (o + i))), .val (.ref d), .val (.int (Int32.ofNat (q + i))), .val (.int (Int32.ofNat len)), .val (.int (Int32.ofNat i)), .val (.int (cv A (o + i)))] [.int (lo8 (cv A (o + i))), .int (Int32.ofNat (q + i)), .ref d])) := c5.trans (by
        refine XS.iload Xl.here hexec rfl (hb hbytes d15) rfl ?_
        refine sipushV Xl.here hexec rfl 255 (hb hbytes d17) (by decide) ?_
        refine XS.icmpYes Xl.here hexec rfl (pc0 := 20) rfl (hb hbytes d20) rfl (ii_le_t (hp i (by omega))) (by decide) rfl ?_
        refine XS.aloadN Xl.here hexec rfl (hb hbytes d26) rfl rfl ?_
        refine XS.iloadN Xl.here hexec rfl (hb hbytes d27) rfl ?_
        refine XS.iload Xl.here hexec rfl (hb hbytes d28) rfl ?_
        refine i2b Xl.here hexec rfl (hb hbytes d30) rfl ?_
        exact Steps.refl _)
      obtain ⟨T7, X7, p7, st7⟩ := Xl.aput hexec hBk rfl hlt rfl (fits_lo8 (cv A (o + i))) (g := (mkF m 31 #[.val (.ref b), .val (.int (Int32.ofNat (o + i))), .val (.ref d), .val (.int (Int32.ofNat (q + i))), .val (.int (Int32.ofNat len)), .val (.int (Int32.ofNat i)), .val (.int (cv A (o + i)))] [.int (lo8 (cv A (o + i))), .int (Int32.ofNat (q + i)), .ref d])) rfl (rest := []) rfl (hb hbytes d31)
      have c8 : Steps p.tables e below (s₁.setTop (entryFrame m #[.ref b, .int (Int32.ofNat o), .ref d, .int (Int32.ofNat q), .int (Int32.ofNat len)] 7)) (T7.setTop (mkF m 32 #[.val (.ref b), .val (.int (Int32.ofNat (o + i))), .val (.ref d), .val (.int (Int32.ofNat (q + i))), .val (.int (Int32.ofNat len)), .val (.int (Int32.ofNat i)), .val (.int (cv A (o + i)))] [])) := c6.trans (st7 _ (Steps.refl _))
      have c9 : Steps p.tables e below (s₁.setTop (entryFrame m #[.ref b, .int (Int32.ofNat o), .ref d, .int (Int32.ofNat q), .int (Int32.ofNat len)] 7)) (T7.setTop (mkF m 3 #[.val (.ref b), .val (.int (Int32.ofNat (o + i) + 1)), .val (.ref d), .val (.int (Int32.ofNat (q + i) + 1)), .val (.int (Int32.ofNat len)), .val (.int (Int32.ofNat i + 1)), .val (.int (cv A (o + i)))] [])) := c8.trans (by
        refine iincV X7.here hexec rfl 1 (hb hbytes d32) (by decide) rfl rfl ?_
        refine iincV X7.here hexec rfl 1 (hb hbytes d35) (by decide) rfl rfl ?_
        refine iincV X7.here hexec rfl 1 (hb hbytes d38) (by decide) rfl rfl ?_
        refine XS.goto X7.here hexec rfl (pc0 := 41) rfl (hb hbytes d41) (by decide) rfl ?_
        exact Steps.refl _)
      have c10 : Steps p.tables e below (s₁.setTop (entryFrame m #[.ref b, .int (Int32.ofNat o), .ref d, .int (Int32.ofNat q), .int (Int32.ofNat len)] 7)) (T7.setTop (mkF m 3 #[.val (.ref b), .val (.int (Int32.ofNat (o + (i + 1)))), .val (.ref d), .val (.int (Int32.ofNat (q + (i + 1)))), .val (.int (Int32.ofNat len)), .val (.int (Int32.ofNat (i + 1))), .val (.int (cv A (o + i)))] [])) := by
        have := c9
        rw [succ32, succ32, succ32] at this
        exact this
      exact ih (i + 1) (by omega) _ (Or.inr ⟨_, rfl, rfl⟩) T7 _ (by rw [copyLocs_step, ← List.append_assoc]; exact X7) (pl.trans p7) (fl.step (by omega) hlt (by simp)) c10
  obtain ⟨T9, B9, z9, X9, p9, f9, g9⟩ := loop len 0 (by omega) .unset (Or.inl rfl) s₁ B (by simpa [copyLocs] using X0) ⟨hB0.1, fun _ _ => rfl, rfl⟩ (Laid.zero _ _ _) c2
  have c11 : Steps p.tables e below (s₁.setTop (entryFrame m #[.ref b, .int (Int32.ofNat o), .ref d, .int (Int32.ofNat q), .int (Int32.ofNat len)] 7)) (T9.setTop (mkF m 46 #[.val (.ref b), .val (.int (Int32.ofNat (o + len))), .val (.ref d), .val (.int (Int32.ofNat (q + len))), .val (.int (Int32.ofNat len)), .val (.int (Int32.ofNat len)), z9] [.int (Int32.ofNat len)])) := g9.trans (by
    refine XS.iload X9.here hexec rfl (hb hbytes d3) rfl ?_
    refine XS.iload X9.here hexec rfl (hb hbytes d5) rfl ?_
    refine XS.icmpYes X9.here hexec rfl (pc0 := 7) rfl (hb hbytes d7) rfl (ii_ge_t (nlt32 (by omega) (Nat.le_refl _))) (by decide) rfl ?_
    refine XS.iload X9.here hexec rfl (hb hbytes d44) rfl ?_
    exact Steps.refl _)
  exact ⟨T9, some (.int (Int32.ofNat len)), _, _, _, X9, by simp, rfl, rfl, (fun h => by cases h), ⟨rfl, B9, p9.from hh0, f9⟩, fun fs hl => c11.trans (X9.ireturnOut hexec hret rfl (Or.inl rfl) (hb hbytes d46) hl)⟩
end Cmp5
namespace Cmp3
def yN : MethodName := ⟨"java/lang/StringUTF16", "compress", "([CII)[B"⟩
abbrev yB : ByteArray := jdk_52_method_16_code
theorem d0 : decode yB 0 = .ok (.iload_n 2, 1) := by decide +kernel
theorem d1 : decode yB 1 = .ok (.newarray .byte, 2) := by decide +kernel
theorem d3 : decode yB 3 = .ok (.astore_n 3, 1) := by decide +kernel
theorem d4 : decode yB 4 = .ok (.aload_n 0, 1) := by decide +kernel
theorem d5 : decode yB 5 = .ok (.iload_n 1, 1) := by decide +kernel
theorem d6 : decode yB 6 = .ok (.aload_n 3, 1) := by decide +kernel
theorem d7 : decode yB 7 = .ok (.iconst 0, 1) := by decide +kernel
theorem d8 : decode yB 8 = .ok (.iload_n 2, 1) := by decide +kernel
theorem d9 : decode yB 9 = .ok (.invokestatic 115, 3) := by decide +kernel
theorem d12 : decode yB 12 = .ok (.istore 4, 2) := by decide +kernel
theorem d14 : decode yB 14 = .ok (.iload 4, 2) := by decide +kernel
theorem d16 : decode yB 16 = .ok (.iload_n 2, 1) := by decide +kernel
theorem d17 : decode yB 17 = .ok (.if_icmp (.eq) 40, 3) := by decide +kernel
theorem d57 : decode yB 57 = .ok (.aload_n 3, 1) := by decide +kernel
theorem d58 : decode yB 58 = .ok (.areturn, 1) := by decide +kernel
def site : List Cond := [.arrayClass .byte, Cmp5.tab] ++ staticW U16 115 Cmp5.yN
def tab : Cond := tabOf yN yB 6 (some (.array .byte)) site
def P (b : Addr) (A : Cell) (o len : Nat) (args : Array Value) (s : State) : Prop := args = #[.ref b, .int (Int32.ofNat o), .int (Int32.ofNat len)] ∧ Ch b A s ∧ o + len ≤ A.slots.size ∧ len ≤ 536870912 ∧ ∀ i, i < len → ¬ 255 < cv A (o + i)
def E (b : Addr) (A : Cell) (o len : Nat) (r : Option Value) (s u : State) : Prop := NewArr .byte "[B" len (fun j => .int (lo8 (cv A (o + j)))) r s u ∧ u.heap.size = s.heap.size + 1
/-- no char of the range above 255: a new byte[] of their low bytes -/
theorem law (l : Launch) (b : Addr) (A : Cell) (o len : Nat) : Law l yN 3 3 1 18 yB 6 (some (.array .byte)) site (P b A o len) (E b A o len) [] 1 len := by
  refine Law.of_walk (plainFor_of_name (by decide +kernel)) (by decide +kernel) (by decide +kernel) (by decide) (fun _ _ h => by rw [h.1]; rfl) (fun _ U U' hal hh h => ⟨h.1, h.2.1.mv hal hh, h.2.2⟩) (fun r U U' V V' h1 hal h2 h => ⟨NewArr.mv r U U' V V' h1 hal h2 h.1, by rw [h1, h2]; exact h.2⟩) ?_
  intro p e s m args below meth c s₁ X0 hexec hbytes hml hret hlk hnm hown hh0 W hP
  obtain ⟨rfl, hA, l1, l2, hp⟩ := hP
  have a31 := hA.1.2.2.2
  have c1 : Steps p.tables e below (s₁.setTop (entryFrame m #[.ref b, .int (Int32.ofNat o), .int (Int32.ofNat len)] 6)) (s₁.setTop (mkF m 0 #[.val (.ref b), .val (.int (Int32.ofNat o)), .val (.int (Int32.ofNat len)), .unset, .unset, .unset] [])) := entry rfl
  have c2 : Steps p.tables e below (s₁.setTop (entryFrame m #[.ref b, .int (Int32.ofNat o), .int (Int32.ofNat len)] 6)) (s₁.setTop (mkF m 1 #[.val (.ref b), .val (.int (Int32.ofNat o)), .val (.int (Int32.ofNat len)), .unset, .unset, .unset] [.int (Int32.ofNat len)])) := c1.trans (by
    refine XS.iloadN X0.here hexec rfl (hb hbytes d0) rfl ?_
    exact Steps.refl _)
  obtain ⟨T3, B3, X3, ba3, bs3, bv3, bh3, bf3, st3⟩ := X0.anew hexec (atype := .byte) (wk W (.arrayClass .byte)) rfl (by show len * 1 ≤ _; omega) (by omega) (g := (mkF m 1 #[.val (.ref b), .val (.int (Int32.ofNat o)), .val (.int (Int32.ofNat len)), .unset, .unset, .unset] [.int (Int32.ofNat len)])) rfl (hb hbytes d1) (rest := []) rfl (Nat.le_refl _) (by show 0 + len ≤ len; omega)
  rw [hh0] at ba3 st3
  have kp3 : XT.Kept s T3 := (XT.Kept.of_eq hh0).push bh3
  have hA3 := hA.keep X3.warmed.alike (kp3 _ _ hA.1.1)
  have hne : b ≠ s.heap.size := hA.1.ne
  have c4 : Steps p.tables e below (s₁.setTop (entryFrame m #[.ref b, .int (Int32.ofNat o), .int (Int32.ofNat len)] 6)) (T3.setTop (mkF m 3 #[.val (.ref b), .val (.int (Int32.ofNat o)), .val (.int (Int32.ofNat len)), .unset, .unset, .unset] [.ref s.heap.size])) := c2.trans (st3 _ (Steps.refl _))
  have c5 : Steps p.tables e below (s₁.setTop (entryFrame m #[.ref b, .int (Int32.ofNat o), .int (Int32.ofNat len)] 6)) (T3.setTop (mkF m 9 #[.val (.ref b), .val (.int (Int32.ofNat o)), .val (.int (Int32.ofNat len)), .val (.ref s.heap.size), .unset, .unset] [.int (Int32.ofNat len), .int 0, .ref s.heap.size, .int (Int32.ofNat o), .ref b])) := c4.trans (by
    refine XS.astoreN X3.here hexec rfl (hb hbytes d3) rfl rfl rfl ?_
    refine XS.aloadN X3.here hexec rfl (hb hbytes d4) rfl rfl ?_
    refine XS.iloadN X3.here hexec rfl (hb hbytes d5) rfl ?_
    refine XS.aloadN X3.here hexec rfl (hb hbytes d6) rfl rfl ?_
    refine iconstV X3.here hexec rfl 0 (hb hbytes d7) (by decide) ?_
    refine XS.iloadN X3.here hexec rfl (hb hbytes d8) rfl ?_
    exact Steps.refl _)
  obtain ⟨v6, T6, X6, E6, g6⟩ := X3.callS hexec (Cmp5.law l b A s.heap.size B3 o 0 len) hown (wks W (staticW U16 115 Cmp5.yN)) (wk W Cmp5.tab) (W := 0) (Nat.le_of_ble_eq_true rfl) (Nat.le_of_ble_eq_true rfl) (Nat.le_refl _) (by show 0 + len + 0 ≤ len; omega) (g := (mkF m 9 #[.val (.ref b), .val (.int (Int32.ofNat o)), .val (.int (Int32.ofNat len)), .val (.ref s.heap.size), .unset, .unset] [.int (Int32.ofNat len), .int (Int32.ofNat 0), .ref s.heap.size, .int (Int32.ofNat o), .ref b])) rfl (by rw [hml]; rfl) c5 (argsL := [.ref b, .int (Int32.ofNat o), .ref s.heap.size, .int (Int32.ofNat 0), .int (Int32.ofNat len)]) (rest := []) rfl rfl (by show 2 * 0 + 0 ≤ _; decide) (hb hbytes d9) (⟨rfl, hA3, ba3, hne, l1, by rw [bs3]; simp, hp⟩)
  obtain ⟨rfl, B6, p6, f6⟩ := E6
  have c7 : Steps p.tables e below (s₁.setTop (entryFrame m #[.ref b, .int (Int32.ofNat o), .int (Int32.ofNat len)] 6)) (T6.setTop (mkF m 12 #[.val (.ref b), .val (.int (Int32.ofNat o)), .val (.int (Int32.ofNat len)), .val (.ref s.heap.size), .unset, .unset] [.int (Int32.ofNat len)])) := g6
  have c8 : Steps p.tables e below (s₁.setTop (entryFrame m #[.ref b, .int (Int32.ofNat o), .int (Int32.ofNat len)] 6)) (T6.setTop (mkF m 58 #[.val (.ref b), .val (.int (Int32.ofNat o)), .val (.int (Int32.ofNat len)), .val (.ref s.heap.size), .val (.int (Int32.ofNat len)), .unset] [.ref s.heap.size])) := c7.trans (by
    refine XS.istore X6.here hexec rfl (hb hbytes d12) rfl rfl ?_
    refine XS.iload X6.here hexec rfl (hb hbytes d14) rfl ?_
    refine XS.iloadN X6.here hexec rfl (hb hbytes d16) rfl ?_
    refine XS.icmpYes X6.here hexec rfl (pc0 := 17) rfl (hb hbytes d17) rfl (ii_eq_t rfl) (by decide) rfl ?_
    refine XS.aloadN X6.here hexec rfl (hb hbytes d57) rfl rfl ?_
    exact Steps.refl _)
  have X8 := X6.wide (L' := []) (cells' := 1) (slots' := len) (fun x hx hlt => by
    simp only [List.nil_append, copyLocs, List.mem_map, List.mem_range] at hx
    obtain ⟨i, -, rfl⟩ := hx
    exact absurd hlt (Nat.lt_irrefl _)) (Nat.le_refl _) (by omega)
  exact ⟨T6, some (.ref s.heap.size), _, _, _, X8, rfl, rfl, rfl, (fun h => by cases h), ⟨⟨rfl, B6, ba3.like (X3.warmed.alike.symm.trans X6.warmed.alike) p6.1 f6.1 f6.2.1 f6.2.2.1, f6.2.1.trans bv3, by rw [X6.warmed.alike.findClass, f6.1]; exact bf3, by rw [f6.2.2.1, bs3]; simp, fun j hj => by rw [f6.2.2.2 j, if_pos (by omega)]; rfl, kp3.put p6 (Nat.le_refl _)⟩, by rw [p6.2.2, bh3, hh0]; simp⟩, fun fs hl => c8.trans (X8.areturnOut hexec rfl hret rfl (hb hbytes d58) hl)⟩
end Cmp3
namespace CodL
def yN : MethodName := ⟨"java/lang/StringUTF16", "coderFromArrayLen", "([BI)B"⟩
abbrev yB : ByteArray := jdk_52_method_15_code
theorem d0 : decode yB 0 = .ok (.iload_n 1, 1) := by decide +kernel
theorem d1 : decode yB 1 = .ok (.aload_n 0, 1) := by decide +kernel
theorem d2 : decode yB 2 = .ok (.arraylength, 1) := by decide +kernel
theorem d3 : decode yB 3 = .ok (.isub, 1) := by decide +kernel
theorem d4 : decode yB 4 = .ok (.bipush 31, 2) := by decide +kernel
theorem d6 : decode yB 6 = .ok (.iushr, 1) := by decide +kernel
theorem d7 : decode yB 7 = .ok (.i2b, 1) := by decide +kernel
theorem d8 : decode yB 8 = .ok (.ireturn, 1) := by decide +kernel
def site : List Cond := []
def tab : Cond := tabOf yN yB 2 (some .byte) site
def P (d : Addr) (B : Cell) (args : Array Value) (s : State) : Prop := args = #[.ref d, .int (Int32.ofNat B.slots.size)] ∧ Arr .byte d B s
def E (r : Option Value) (s u : State) : Prop := XT.PureE (some (.int 0)) r s u
/-- an array as long as the number of chars: LATIN1 -/
theorem law (l : Launch) (d : Addr) (B : Cell) : Law l yN 2 2 0 0 yB 2 (some .byte) site (P d B) E [] 0 0 := by
  refine Law.of_walk (plainFor_of_name (by decide +kernel)) (by decide +kernel) (by decide +kernel) (by decide) (fun _ _ h => by rw [h.1]; rfl) (fun _ U U' hal hh h => ⟨h.1, h.2.mv hal hh⟩) (fun r U U' V V' h1 hal h2 h => XT.PureE.mv r U U' V V' h1 hal h2 h) ?_
  intro p e s m args below meth c s₁ X0 hexec hbytes hml hret hlk hnm hown hh0 W hP
  obtain ⟨rfl, hB⟩ := hP
  have hB0 := hB.mv X0.warmed.alike hh0
  have c1 : Steps p.tables e below (s₁.setTop (entryFrame m #[.ref d, .int (Int32.ofNat B.slots.size)] 2)) (s₁.setTop (mkF m 0 #[.val (.ref d), .val (.int (Int32.ofNat B.slots.size))] [])) := entry rfl
  have c2 : Steps p.tables e below (s₁.setTop (entryFrame m #[.ref d, .int (Int32.ofNat B.slots.size)] 2)) (s₁.setTop (mkF m 2 #[.val (.ref d), .val (.int (Int32.ofNat B.slots.size))] [.ref d, .int (Int32.ofNat B.slots.size)])) := c1.trans (by
    refine XS.iloadN X0.here hexec rfl (hb hbytes d0) rfl ?_
    refine XS.aloadN X0.here hexec rfl (hb hbytes d1) rfl rfl ?_
    exact Steps.refl _)
  have c3 : Steps p.tables e below (s₁.setTop (entryFrame m #[.ref d, .int (Int32.ofNat B.slots.size)] 2)) (s₁.setTop (mkF m 8 #[.val (.ref d), .val (.int (Int32.ofNat B.slots.size))] [.int (lo8 (ushr (Int32.ofNat B.slots.size - Int32.ofNat B.slots.size) 31))])) := c2.trans (by
    refine X0.alen hexec hB0 rfl rfl (hb hbytes d2) ?_
    refine XS.isub X0.here hexec rfl (hb hbytes d3) rfl ?_
    refine bipushV X0.here hexec rfl 31 (hb hbytes d4) (by decide) ?_
    refine iushr X0.here hexec rfl (hb hbytes d6) rfl ?_
    refine i2b X0.here hexec rfl (hb hbytes d7) rfl ?_
    exact Steps.refl _)
  have e0 : lo8 (ushr (Int32.ofNat B.slots.size - Int32.ofNat B.slots.size) 31) = 0 := by rw [Int32.sub_self]; decide
  rw [e0] at c3
  exact ⟨s₁, some (.int 0), _, _, _, X0, rfl, rfl, rfl, (fun h => by cases h), ⟨rfl, hh0⟩, fun fs hl => c3.trans (X0.ireturnOut hexec hret rfl (Or.inr (Or.inr (Or.inl rfl))) (hb hbytes d8) hl)⟩
end CodL
/-- the String at a is Latin-1 over a new byte[] (the heap's one new cell): the low bytes of the len chars of A from o on; every cell but a is kept -/
def Got (a : Addr) (D : Cell) (fV fC : Field) (A : Cell) (o len : Nat) (r : Option Value) (s u : State) : Prop := r = none ∧ ∃ D' V : Cell, Blank "java/lang/String" a D' u ∧ Same D D' [fV.slot, fC.slot] ∧ D'.slots[fV.slot]? = some (.ref s.heap.size) ∧ D'.slots[fC.slot]? = some (.int 0) ∧ Arr .byte s.heap.size V u ∧ V.vm = .none ∧ u.vm.findClass "[B" = some V.cls ∧ V.slots.size = len ∧ (∀ j, j < len → V.slots[j]? = some (.int (lo8 (cv A (o + j))))) ∧ (∀ (y : Addr) (c : Cell), y ≠ a → s.heap[y]? = some c → u.heap[y]? = some c) ∧ u.heap.size = s.heap.size + 1
theorem Got.mv {a : Addr} {D A : Cell} {fV fC : Field} {o len : Nat} : ∀ r (U U' V V' : State), U'.heap = U.heap → V.vm.Alike V'.vm → V'.heap = V.heap → Got a D fV fC A o len r U V → Got a D fV fC A o len r U' V' :=
  fun r U U' V V' h1 hal h2 ⟨e0, D', X, a1, a2, a3, a4, a5, a6, a7, a8, a9, a10, a11⟩ => ⟨e0, D', X, a1.mv hal h2, a2, by rw [h1]; exact a3, a4, by rw [h1]; exact a5.mv hal h2, a6, by rw [hal.findClass]; exact a7, a8, a9, by rw [h1, h2]; exact a10, by rw [h1, h2]; exact a11⟩
namespace New4
def yN : MethodName := ⟨"java/lang/String", "<init>", "([CIILjava/lang/Void;)V"⟩
abbrev yB : ByteArray := jdk_42_method_149_code
theorem d0 : decode yB 0 = .ok (.aload_n 0, 1) := by decide +kernel
theorem d1 : decode yB 1 = .ok (.invokespecial 1, 3) := by decide +kernel
theorem d4 : decode yB 4 = .ok (.iload_n 3, 1) := by decide +kernel
theorem d5 : decode yB 5 = .ok (.ifCond (.ne) 22, 3) := by decide +kernel
theorem d27 : decode yB 27 = .ok (.getstatic 38, 3) := by decide +kernel
theorem d30 : decode yB 30 = .ok (.ifCond (.eq) 28, 3) := by decide +kernel
theorem d33 : decode yB 33 = .ok (.aload_n 1, 1) := by decide +kernel
theorem d34 : decode yB 34 = .ok (.iload_n 2, 1) := by decide +kernel
theorem d35 : decode yB 35 = .ok (.iload_n 3, 1) := by decide +kernel
theorem d36 : decode yB 36 = .ok (.invokestatic 177, 3) := by decide +kernel
theorem d39 : decode yB 39 = .ok (.astore 5, 2) := by decide +kernel
theorem d41 : decode yB 41 = .ok (.aload_n 0, 1) := by decide +kernel
theorem d42 : decode yB 42 = .ok (.aload 5, 2) := by decide +kernel
theorem d44 : decode yB 44 = .ok (.iload_n 3, 1) := by decide +kernel
theorem d45 : decode yB 45 = .ok (.invokestatic 47, 3) := by decide +kernel
theorem d48 : decode yB 48 = .ok (.putfield 15, 3) := by decide +kernel
theorem d51 : decode yB 51 = .ok (.aload_n 0, 1) := by decide +kernel
theorem d52 : decode yB 52 = .ok (.aload 5, 2) := by decide +kernel
theorem d54 : decode yB 54 = .ok (.putfield 9, 3) := by decide +kernel
theorem d57 : decode yB 57 = .ok (.return_, 1) := by decide +kernel
def site : List Cond := [.fieldLink "java/lang/String" 38 "java/lang/String" "COMPACT_STRINGS" "Z", Cmp3.tab, CodL.tab, .laysFinal "java/lang/String" "java/lang/String" "value" "[B", .fieldLink "java/lang/String" 9 "java/lang/String" "value" "[B", .laysFinal "java/lang/String" "java/lang/String" "coder" "B", .fieldLink "java/lang/String" 15 "java/lang/String" "coder" "B"] ++ objW "java/lang/String" 1 ++ staticW "java/lang/String" 177 Cmp3.yN ++ staticW "java/lang/String" 47 CodL.yN
def tab : Cond := tabOf yN yB 6 none site
def P (a : Addr) (D : Cell) (fV fC : Field) (b : Addr) (A : Cell) (z : Int32) (o len : Nat) (args : Array Value) (s : State) : Prop := args = #[.ref a, .ref b, .int (Int32.ofNat o), .int (Int32.ofNat len), .null] ∧ Blank "java/lang/String" a D s ∧ Found "java/lang/String" "value" "[B" fV s ∧ Found "java/lang/String" "coder" "B" fC s ∧ Ch b A s ∧ StaticIs s "java/lang/String" "COMPACT_STRINGS" "Z" (.int z) ∧ ¬ z = 0 ∧ 0 < len ∧ o + len ≤ A.slots.size ∧ len ≤ 536870912 ∧ ∀ i, i < len → ¬ 255 < cv A (o + i)
def E (a : Addr) (D : Cell) (fV fC : Field) (A : Cell) (o len : Nat) (r : Option Value) (s u : State) : Prop := Got a D fV fC A o len r s u
/-- len > 0, no char of the range above 255: a Latin-1 String of their low bytes -/
theorem law (l : Launch) (a : Addr) (D : Cell) (fV fC : Field) (b : Addr) (A : Cell) (z : Int32) (o len : Nat) : Law l yN 5 4 2 35 yB 6 none site (P a D fV fC b A z o len) (E a D fV fC A o len) [⟨a, fC.slot⟩, ⟨a, fV.slot⟩] 1 len := by
  refine Law.of_walk (plainFor_of_name (by decide +kernel)) (by decide +kernel) (by decide +kernel) (by decide) (fun _ _ h => by rw [h.1]; rfl) (fun _ U U' hal hh h => ⟨h.1, h.2.1.mv hal hh, h.2.2.1.al hal, h.2.2.2.1.al hal, h.2.2.2.2.1.mv hal hh, h.2.2.2.2.2.1.there hal hh, h.2.2.2.2.2.2⟩) (fun r U U' V V' h1 hal h2 h => Got.mv r U U' V V' h1 hal h2 h) ?_
  intro p e s m args below meth c s₁ X0 hexec hbytes hml hret hlk hnm hown hh0 W hP
  obtain ⟨rfl, hB, f1, f2, hA, s1, hz, l0, l1, l2, hp⟩ := hP
  have a31 := hA.1.2.2.2
  have c1 : Steps p.tables e below (s₁.setTop (entryFrame m #[.ref a, .ref b, .int (Int32.ofNat o), .int (Int32.ofNat len), .null] 6)) (s₁.setTop (mkF m 0 #[.val (.ref a), .val (.ref b), .val (.int (Int32.ofNat o)), .val (.int (Int32.ofNat len)), .val .null, .unset] [])) := entry rfl
  have c2 : Steps p.tables e below (s₁.setTop (entryFrame m #[.ref a, .ref b, .int (Int32.ofNat o), .int (Int32.ofNat len), .null] 6)) (s₁.setTop (mkF m 1 #[.val (.ref a), .val (.ref b), .val (.int (Int32.ofNat o)), .val (.int (Int32.ofNat len)), .val .null, .unset] [.ref a])) := c1.trans (by
    refine XS.aloadN X0.here hexec rfl (hb hbytes d0) rfl rfl ?_
    exact Steps.refl _)
  obtain ⟨T3, X3, q3, st3⟩ := X0.oinit hexec hown (wks W (objW "java/lang/String" 1)) (g := (mkF m 1 #[.val (.ref a), .val (.ref b), .val (.int (Int32.ofNat o)), .val (.int (Int32.ofNat len)), .val .null, .unset] [.ref a])) rfl (by rw [hml]; rfl) (rest := []) rfl (hb hbytes d1) (W := 0) (by show 2 * 0 + 0 ≤ _; decide) (Nat.le_of_ble_eq_true rfl) (Nat.le_of_ble_eq_true rfl)
  have hh3 := q3.trans hh0
  have c4 : Steps p.tables e below (s₁.setTop (entryFrame m #[.ref a, .ref b, .int (Int32.ofNat o), .int (Int32.ofNat len), .null] 6)) (T3.setTop (mkF m 27 #[.val (.ref a), .val (.ref b), .val (.int (Int32.ofNat o)), .val (.int (Int32.ofNat len)), .val .null, .unset] [])) := (c2.trans (st3 _ (Steps.refl _))).trans (by
    refine XS.iloadN X3.here hexec rfl (hb hbytes d4) rfl ?_
    refine XS.ifYes X3.here hexec rfl (pc0 := 5) rfl (hb hbytes d5) rfl (i0_ne_t (nz32 (by omega) l0)) (by decide) rfl ?_
    exact Steps.refl _)
  obtain ⟨T5, X5, q5, st5⟩ := X3.sget hexec hown (wk W (.fieldLink "java/lang/String" 38 "java/lang/String" "COMPACT_STRINGS" "Z")) s1 (fun _ _ h => by rw [hh3]; exact h) (g := (mkF m 27 #[.val (.ref a), .val (.ref b), .val (.int (Int32.ofNat o)), .val (.int (Int32.ofNat len)), .val .null, .unset] [])) rfl (hb hbytes d27)
  have hh5 := q5.trans hh3
  have c6 : Steps p.tables e below (s₁.setTop (entryFrame m #[.ref a, .ref b, .int (Int32.ofNat o), .int (Int32.ofNat len), .null] 6)) (T5.setTop (mkF m 30 #[.val (.ref a), .val (.ref b), .val (.int (Int32.ofNat o)), .val (.int (Int32.ofNat len)), .val .null, .unset] [.int z])) := c4.trans (st5 _ (Steps.refl _))
  have c7 : Steps p.tables e below (s₁.setTop (entryFrame m #[.ref a, .ref b, .int (Int32.ofNat o), .int (Int32.ofNat len), .null] 6)) (T5.setTop (mkF m 36 #[.val (.ref a), .val (.ref b), .val (.int (Int32.ofNat o)), .val (.int (Int32.ofNat len)), .val .null, .unset] [.int (Int32.ofNat len), .int (Int32.ofNat o), .ref b])) := c6.trans (by
    refine XS.ifNo X5.here hexec rfl (hb hbytes d30) rfl (i0_eq_f hz) ?_
    refine XS.aloadN X5.here hexec rfl (hb hbytes d33) rfl rfl ?_
    refine XS.iloadN X5.here hexec rfl (hb hbytes d34) rfl ?_
    refine XS.iloadN X5.here hexec rfl (hb hbytes d35) rfl ?_
    exact Steps.refl _)
  obtain ⟨v8, T8, X8, E8, g8⟩ := X5.callS hexec (Cmp3.law l b A o len) hown (wks W (staticW "java/lang/String" 177 Cmp3.yN)) (wk W Cmp3.tab) (W := 0) (Nat.le_of_ble_eq_true rfl) (Nat.le_of_ble_eq_true rfl) (Nat.le_refl _) (by show 0 + len ≤ len; omega) (g := (mkF m 36 #[.val (.ref a), .val (.ref b), .val (.int (Int32.ofNat o)), .val (.int (Int32.ofNat len)), .val .null, .unset] [.int (Int32.ofNat len), .int (Int32.ofNat o), .ref b])) rfl (by rw [hml]; rfl) c7 (argsL := [.ref b, .int (Int32.ofNat o), .int (Int32.ofNat len)]) (rest := []) rfl rfl (by show 2 * 0 + 0 ≤ _; decide) (hb hbytes d36) (⟨rfl, hA.mv X5.warmed.alike hh5, l1, l2, hp⟩)
  obtain ⟨e8, z8⟩ := E8
  obtain ⟨rfl, N, n1, n2, n3, n4, n5, n6⟩ := NewArr.mv _ T5 s _ _ hh5.symm (Vm.Alike.refl _) rfl e8
  rw [hh5] at z8
  have hB1 := hB.keep X8.warmed.alike (n6 _ _ hB.1)
  have hne : s.heap.size ≠ a := (Nat.ne_of_lt (Array.getElem?_eq_some_iff.mp hB.1).1).symm
  have c9 : Steps p.tables e below (s₁.setTop (entryFrame m #[.ref a, .ref b, .int (Int32.ofNat o), .int (Int32.ofNat len), .null] 6)) (T8.setTop (mkF m 39 #[.val (.ref a), .val (.ref b), .val (.int (Int32.ofNat o)), .val (.int (Int32.ofNat len)), .val .null, .unset] [.ref s.heap.size])) := g8
  have c10 : Steps p.tables e below (s₁.setTop (entryFrame m #[.ref a, .ref b, .int (Int32.ofNat o), .int (Int32.ofNat len), .null] 6)) (T8.setTop (mkF m 45 #[.val (.ref a), .val (.ref b), .val (.int (Int32.ofNat o)), .val (.int (Int32.ofNat len)), .val .null, .val (.ref s.heap.size)] [.int (Int32.ofNat N.slots.size), .ref s.heap.size, .ref a])) := by
    have hc : Steps p.tables e below (s₁.setTop (entryFrame m #[.ref a, .ref b, .int (Int32.ofNat o), .int (Int32.ofNat len), .null] 6)) (T8.setTop (mkF m 45 #[.val (.ref a), .val (.ref b), .val (.int (Int32.ofNat o)), .val (.int (Int32.ofNat len)), .val .null, .val (.ref s.heap.size)] [.int (Int32.ofNat len), .ref s.heap.size, .ref a])) := c9.trans (by
      refine XS.astore X8.here hexec rfl (hb hbytes d39) rfl rfl rfl ?_
      refine XS.aloadN X8.here hexec rfl (hb hbytes d41) rfl rfl ?_
      refine XS.aload X8.here hexec rfl (hb hbytes d42) rfl rfl ?_
      refine XS.iloadN X8.here hexec rfl (hb hbytes d44) rfl ?_
      exact Steps.refl _)
    rw [n4]; exact hc
  obtain ⟨v11, T11, X11, E11, g11⟩ := X8.callS hexec (CodL.law l s.heap.size N) hown (wks W (staticW "java/lang/String" 47 CodL.yN)) (wk W CodL.tab) (W := 1) (Nat.le_of_ble_eq_true rfl) (Nat.le_of_ble_eq_true rfl) (Nat.le_refl _) (by show 0 + len + 0 ≤ len; omega) (g := (mkF m 45 #[.val (.ref a), .val (.ref b), .val (.int (Int32.ofNat o)), .val (.int (Int32.ofNat len)), .val .null, .val (.ref s.heap.size)] [.int (Int32.ofNat N.slots.size), .ref s.heap.size, .ref a])) rfl (by rw [hml]; rfl) c10 (argsL := [.ref s.heap.size, .int (Int32.ofNat N.slots.size)]) (rest := [.ref a]) rfl rfl (by show 2 * 0 + (1 + 0) ≤ _; decide) (hb hbytes d45) (⟨rfl, n1⟩)
  obtain ⟨rfl, q11⟩ := E11
  have hB11 := hB1.mv (X8.warmed.alike.symm.trans X11.warmed.alike) q11
  have c12 : Steps p.tables e below (s₁.setTop (entryFrame m #[.ref a, .ref b, .int (Int32.ofNat o), .int (Int32.ofNat len), .null] 6)) (T11.setTop (mkF m 48 #[.val (.ref a), .val (.ref b), .val (.int (Int32.ofNat o)), .val (.int (Int32.ofNat len)), .val .null, .val (.ref s.heap.size)] [.int 0, .ref a])) := g11
  obtain ⟨T13, X13, p13, bl13, sl13, st13⟩ := X11.finit hexec hown (wk W (.fieldLink "java/lang/String" 15 "java/lang/String" "coder" "B")) (Or.inr ⟨_, (wk W (.laysFinal "java/lang/String" "java/lang/String" "coder" "B"))⟩) (Or.inl ⟨rfl, hnm⟩) f2 (Or.inl rfl) hB11 (t := .byte) (by decide +kernel) rfl (g := (mkF m 48 #[.val (.ref a), .val (.ref b), .val (.int (Int32.ofNat o)), .val (.int (Int32.ofNat len)), .val .null, .val (.ref s.heap.size)] [.int 0, .ref a])) rfl (rest := []) rfl (hb hbytes d48)
  have c14 : Steps p.tables e below (s₁.setTop (entryFrame m #[.ref a, .ref b, .int (Int32.ofNat o), .int (Int32.ofNat len), .null] 6)) (T13.setTop (mkF m 54 #[.val (.ref a), .val (.ref b), .val (.int (Int32.ofNat o)), .val (.int (Int32.ofNat len)), .val .null, .val (.ref s.heap.size)] [.ref s.heap.size, .ref a])) := (c12.trans (st13 _ (Steps.refl _))).trans (by
    refine XS.aloadN X13.here hexec rfl (hb hbytes d51) rfl rfl ?_
    refine XS.aload X13.here hexec rfl (hb hbytes d52) rfl rfl ?_
    exact Steps.refl _)
  obtain ⟨T15, X15, p15, bl15, sl15, st15⟩ := X13.finit hexec hown (wk W (.fieldLink "java/lang/String" 9 "java/lang/String" "value" "[B")) (Or.inr ⟨_, (wk W (.laysFinal "java/lang/String" "java/lang/String" "value" "[B"))⟩) (Or.inl ⟨rfl, hnm⟩) f1 (Or.inl rfl) bl13 (t := (.array .byte)) (by decide +kernel) rfl (g := (mkF m 54 #[.val (.ref a), .val (.ref b), .val (.int (Int32.ofNat o)), .val (.int (Int32.ofNat len)), .val .null, .val (.ref s.heap.size)] [.ref s.heap.size, .ref a])) rfl (rest := []) rfl (hb hbytes d54)
  have c16 : Steps p.tables e below (s₁.setTop (entryFrame m #[.ref a, .ref b, .int (Int32.ofNat o), .int (Int32.ofNat len), .null] 6)) (T15.setTop (mkF m 57 #[.val (.ref a), .val (.ref b), .val (.int (Int32.ofNat o)), .val (.int (Int32.ofNat len)), .val .null, .val (.ref s.heap.size)] [])) := c14.trans (st15 _ (Steps.refl _))
  have ap := apart (Or.inr ⟨_, (wk W (.laysFinal "java/lang/String" "java/lang/String" "value" "[B"))⟩) (Or.inr ⟨_, (wk W (.laysFinal "java/lang/String" "java/lang/String" "coder" "B"))⟩) f1 f2 (t₁ := .array .byte) (t₂ := .byte) (by decide +kernel) (by decide +kernel) (by decide)
  have al := X8.warmed.alike.symm.trans X15.warmed.alike
  have n7 : T11.heap[s.heap.size]? = some N := by rw [q11]; exact n1.1
  exact ⟨T15, none, _, _, _, X15, by simp, rfl, by omega, (fun _ => rfl), ⟨rfl, _, N, bl15, ((Same.refl D _).set _ (by simp)).set _ (by simp), sl15, (Cell.slots_setSlot_ne _ ap).trans sl13, n1.keep al (p15.other hne (p13.other hne n7)), n2, by rw [al.findClass]; exact n3, n4, n5, fun y c h1 h2 => p15.other h1 (p13.other h1 (by rw [q11]; exact n6 y c h2)), by rw [p15.2.2, p13.2.2, q11]; exact z8⟩, fun fs hl => c16.trans (X15.returnOut hexec hret (hb hbytes d57) hl)⟩
end New4
namespace New1
def yN : MethodName := ⟨"java/lang/String", "<init>", "([C)V"⟩
abbrev yB : ByteArray := jdk_42_method_3_code
theorem d0 : decode yB 0 = .ok (.aload_n 0, 1) := by decide +kernel
theorem d1 : decode yB 1 = .ok (.aload_n 1, 1) := by decide +kernel
theorem d2 : decode yB 2 = .ok (.iconst 0, 1) := by decide +kernel
theorem d3 : decode yB 3 = .ok (.aload_n 1, 1) := by decide +kernel
theorem d4 : decode yB 4 = .ok (.arraylength, 1) := by decide +kernel
theorem d5 : decode yB 5 = .ok (.aconst_null, 1) := by decide +kernel
theorem d6 : decode yB 6 = .ok (.invokespecial 27, 3) := by decide +kernel
theorem d9 : decode yB 9 = .ok (.return_, 1) := by decide +kernel
def site : List Cond := [New4.tab] ++ initW "java/lang/String" 27 New4.yN
def tab : Cond := tabOf yN yB 2 none site
def P (a : Addr) (D : Cell) (fV fC : Field) (b : Addr) (A : Cell) (z : Int32) (args : Array Value) (s : State) : Prop := args = #[.ref a, .ref b] ∧ Blank "java/lang/String" a D s ∧ Found "java/lang/String" "value" "[B" fV s ∧ Found "java/lang/String" "coder" "B" fC s ∧ Ch b A s ∧ StaticIs s "java/lang/String" "COMPACT_STRINGS" "Z" (.int z) ∧ ¬ z = 0 ∧ 0 < A.slots.size ∧ A.slots.size ≤ 536870912 ∧ ∀ i, i < A.slots.size → ¬ 255 < cv A i
def E (a : Addr) (D : Cell) (fV fC : Field) (A : Cell) (r : Option Value) (s u : State) : Prop := Got a D fV fC A 0 A.slots.size r s u
/-- new String(chars), not empty, no char above 255: a Latin-1 String of their low bytes -/
theorem law (l : Launch) (a : Addr) (D : Cell) (fV fC : Field) (b : Addr) (A : Cell) (z : Int32) : Law l yN 2 1 3 52 yB 2 none site (P a D fV fC b A z) (E a D fV fC A) [⟨a, fC.slot⟩, ⟨a, fV.slot⟩] 1 A.slots.size := by
  refine Law.of_walk (plainFor_of_name (by decide +kernel)) (by decide +kernel) (by decide +kernel) (by decide) (fun _ _ h => by rw [h.1]; rfl) (fun _ U U' hal hh h => ⟨h.1, h.2.1.mv hal hh, h.2.2.1.al hal, h.2.2.2.1.al hal, h.2.2.2.2.1.mv hal hh, h.2.2.2.2.2.1.there hal hh, h.2.2.2.2.2.2⟩) (fun r U U' V V' h1 hal h2 h => Got.mv r U U' V V' h1 hal h2 h) ?_
  intro p e s m args below meth c s₁ X0 hexec hbytes hml hret hlk hnm hown hh0 W hP
  obtain ⟨rfl, hB, f1, f2, hA, s1, hz, l0, l2, hp⟩ := hP
  have c1 : Steps p.tables e below (s₁.setTop (entryFrame m #[.ref a, .ref b] 2)) (s₁.setTop (mkF m 0 #[.val (.ref a), .val (.ref b)] [])) := entry rfl
  have c2 : Steps p.tables e below (s₁.setTop (entryFrame m #[.ref a, .ref b] 2)) (s₁.setTop (mkF m 6 #[.val (.ref a), .val (.ref b)] [.null, .int (Int32.ofNat A.slots.size), .int 0, .ref b, .ref a])) := c1.trans (by
    refine XS.aloadN X0.here hexec rfl (hb hbytes d0) rfl rfl ?_
    refine XS.aloadN X0.here hexec rfl (hb hbytes d1) rfl rfl ?_
    refine iconstV X0.here hexec rfl 0 (hb hbytes d2) (by decide) ?_
    refine XS.aloadN X0.here hexec rfl (hb hbytes d3) rfl rfl ?_
    refine X0.alen hexec (hA.1.mv X0.warmed.alike hh0) rfl rfl (hb hbytes d4) ?_
    refine XS.aconstNull X0.here hexec rfl (hb hbytes d5) ?_
    exact Steps.refl _)
  obtain ⟨v3, T3, X3, E3, g3⟩ := X0.callN hexec (New4.law l a D fV fC b A z 0 A.slots.size) rfl hown (wks W (initW "java/lang/String" 27 New4.yN)) (W New4.tab (by simp only [site, List.mem_cons, List.mem_append, true_or, or_true])) (W := 0) (Nat.le_of_ble_eq_true rfl) (Nat.le_of_ble_eq_true rfl) (Nat.le_refl _) (by show 0 + A.slots.size ≤ A.slots.size; omega) (g := (mkF m 6 #[.val (.ref a), .val (.ref b)] [.null, .int (Int32.ofNat A.slots.size), .int (Int32.ofNat 0), .ref b, .ref a])) rfl (by rw [hml]; rfl) c2 (argsL := [.ref b, .int (Int32.ofNat 0), .int (Int32.ofNat A.slots.size), .null]) (rest := []) rfl rfl (by show 2 * 0 + 0 ≤ _; decide) (hb hbytes d6) (⟨rfl, hB.mv X0.warmed.alike hh0, f1.al X0.warmed.alike, f2.al X0.warmed.alike, hA.mv X0.warmed.alike hh0, s1.there X0.warmed.alike hh0, hz, l0, by omega, l2, fun i hi => by rw [Nat.zero_add]; exact hp i hi⟩)
  have e0 := Got.mv _ s₁ s _ _ hh0.symm (Vm.Alike.refl _) rfl E3
  obtain rfl := e0.1
  have c4 : Steps p.tables e below (s₁.setTop (entryFrame m #[.ref a, .ref b] 2)) (T3.setTop (mkF m 9 #[.val (.ref a), .val (.ref b)] [])) := g3
  exact ⟨T3, none, _, _, _, X3, by simp, rfl, by omega, (fun _ => rfl), e0, fun fs hl => c4.trans (X3.returnOut hexec hret (hb hbytes d9) hl)⟩
theorem pays {l : Launch} {R : Room} {p : Program} {e : Env} {below : List Frame} {s : State} {sargs : Array Value} {len W : Nat} (a : Addr) (D : Cell) (fV fC : Field) (b : Addr) (A : Cell) (z : Int32) (htab : tab.before sargs s = true) (hfr : 4 ≤ R.frames) (hlo : W + 65 ≤ R.locals) :
    Back l R p e below s sargs yN len W (fun A₁ a₁ => A₁.cells + 1 ≤ R.cells ∧ A₁.slots + A.slots.size ≤ R.slots ∧ P a D fV fC b A z a₁ A₁.U) (fun A₁ _ v₁ B₁ => E a D fV fC A v₁ A₁.U B₁.U ∧ B₁.locs = A₁.locs ++ [⟨a, fC.slot⟩, ⟨a, fV.slot⟩] ∧ B₁.cells = A₁.cells + 1 ∧ B₁.slots = A₁.slots + A.slots.size) :=
  (law l a D fV fC b A z).pays htab hfr (by omega)
end New1
end StrChars
namespace StrChars.Road
open Jvm Sem ClassFile Op Lib Jvm.Stand Jvm.Free Jvm.Free.XT
open Jvm.Lib.Cold (StaticIs)
abbrev ST : String := "java/lang/String"
/-- every table word that New1's law asks, flat -/
abbrev words : List Jvm.Cond := [.code New1.yN New1.yB 2 none, .initialized ST, .methodLink ST 27 New4.yN, .instanceMethod New4.yN,
  .code New4.yN New4.yB 6 none, .fieldLink ST 38 ST "COMPACT_STRINGS" "Z", .laysFinal ST ST "value" "[B", .fieldLink ST 9 ST "value" "[B", .laysFinal ST ST "coder" "B", .fieldLink ST 15 ST "coder" "B",
  .methodLink ST 1 Lib.objectInit, .instanceMethod Lib.objectInit, .code Lib.objectInit ⟨#[0xb1]⟩ 1 none, .methodLink ST 177 Cmp3.yN, .static Cmp3.yN, .methodLink ST 47 CodL.yN, .static CodL.yN,
  .code Cmp3.yN Cmp3.yB 6 (some (.array .byte)), .initialized U16, .arrayClass .byte, .methodLink U16 115 Cmp5.yN, .static Cmp5.yN, .code Cmp5.yN Cmp5.yB 7 (some .int), .code CodL.yN CodL.yB 2 (some .byte)]
theorem tab_of {a : Array Value} {s : State} (h : ∀ w ∈ words, w.before a s = true) : New1.tab.before a s = true := by
  have h5 : Cmp5.tab.before a s = true := unparts (wk h (.code Cmp5.yN Cmp5.yB 7 (some .int))) (wks h (.initialized Cmp5.yN.cls :: Cmp5.site))
  have hc : CodL.tab.before a s = true := unparts (wk h (.code CodL.yN CodL.yB 2 (some .byte))) (wks h (.initialized CodL.yN.cls :: CodL.site))
  have q5 : ∀ w ∈ Cmp5.tab :: words, w.before a s = true := fun w hw => (List.mem_cons.mp hw).elim (fun e => e ▸ h5) (h w)
  have h3 : Cmp3.tab.before a s = true := unparts (wk q5 (.code Cmp3.yN Cmp3.yB 6 (some (.array .byte)))) (wks q5 (.initialized Cmp3.yN.cls :: Cmp3.site))
  have q3 : ∀ w ∈ Cmp3.tab :: CodL.tab :: words, w.before a s = true := fun w hw => (List.mem_cons.mp hw).elim (fun e => e ▸ h3) fun hw => (List.mem_cons.mp hw).elim (fun e => e ▸ hc) (h w)
  have h4 : New4.tab.before a s = true := unparts (wk q3 (.code New4.yN New4.yB 6 none)) (wks q3 (.initialized New4.yN.cls :: New4.site))
  have q4 : ∀ w ∈ New4.tab :: words, w.before a s = true := fun w hw => (List.mem_cons.mp hw).elim (fun e => e ▸ h4) (h w)
  exact unparts (wk q4 (.code New1.yN New1.yB 2 none)) (wks q4 (.initialized New1.yN.cls :: New1.site))
/-- the words ride from the start Z to the walk's own state -/
theorem moved {Z s : State} {a0 args : Array Value} (hZ : Z.Warmed39 s.vm) (hw : ∀ d ∈ words, d.before a0 Z = true) : ∀ d ∈ words, d.before args s = true := fun d hd => by
  have q := hw d hd
  have t : ∀ d ∈ words, d = .arrayClass .byte ∨ (d.onTables && d.keepsFace) = true := by decide +kernel
  rcases t d hd with rfl | t
  · exact RoadKit.mvA hZ q
  · exact RoadKit.mv hZ q t
/-- WHAT COMES BACK, over the tables of the start Z: h the heap at the call, h' behind it -/
def Q (Z : State) (x : Addr) (A : Cell) (h : Heap) (v : Option Value) (h' : Heap) (L : List Loc) : Prop := v = none ∧ (∀ y ∈ L, y.base = x) ∧ RoadKit.Keep h h' [x] ∧ h'.size = h.size + 1 ∧ RoadKit.Exa Z h' x ST ∧ RoadKit.Fld Z h' x ST "value" "[B" (.ref h.size) ∧ RoadKit.Fld Z h' x ST "coder" "B" (.int 0) ∧
  (∃ V : Cell, RoadKit.Arr Z h' h.size V .byte ∧ V.vm = .none ∧ Z.vm.findClass "[B" = some V.cls ∧ V.slots.size = A.slots.size ∧ ∀ j, j < A.slots.size → V.slots[j]? = some (.int (lo8 (cv A j)))) ∧
  ∀ (O n d : String) (w : Value), RoadKit.Fld Z h x O n d w → RoadKit.slotOf Z O n d ≠ RoadKit.slotOf Z ST "value" "[B" → RoadKit.slotOf Z O n d ≠ RoadKit.slotOf Z ST "coder" "B" → RoadKit.Fld Z h' x O n d w
/-- **new String(chars) AT A CALL, IN THE ROAD'S FORM**: for specialBack behind newO: x the fresh String, b the char[] with the cell A -/
theorem back {p : Program} {l : Launch} {e : Env} {R : Room} {s : State} {args : Array Value} {below : List Frame} {len W : Nat} {Z : State} {a0 : Array Value} {h : Heap} (hZ : Z.Warmed39 s.vm) (hw : ∀ d ∈ words, d.before a0 Z = true) {kI : Nat} (wi : (Jvm.Cond.instantiable ST kI).before a0 Z = true)
    {x b : Addr} {A : Cell} {z : Int32} {v0 c0 : Value} (E : RoadKit.Exa Z h x ST) (V : RoadKit.Fld Z h x ST "value" "[B" v0) (C : RoadKit.Fld Z h x ST "coder" "B" c0) (K : RoadKit.Arr Z h b A .char) (hty : Typed .char A) (S : RoadKit.Sta Z h ST "COMPACT_STRINGS" "Z" (.int z)) (hz : ¬ z = 0)
    (l0 : 0 < A.slots.size) (l2 : A.slots.size ≤ 536870912) (hp : ∀ i, i < A.slots.size → ¬ 255 < cv A i) (hfr : 4 ≤ R.frames) (hlo : W + 65 ≤ R.locals) :
    Back l R p e below s args New1.yN len W (fun P a => a = #[.ref x, .ref b] ∧ P.U.heap = h ∧ P.cells + 1 ≤ R.cells ∧ P.slots + A.slots.size ≤ R.slots)
      (fun P _ v B => ∃ L, Q Z x A h v B.U.heap L ∧ B.locs = P.locs ++ L ∧ B.cells = P.cells + 1 ∧ B.slots = P.slots + A.slots.size) := by
  intro m meth c P g ig mk a X hg hsize hdg hW hn hp'
  obtain ⟨rfl, rfl, r1, r2⟩ := hp'
  have al : Z.vm.Alike P.U.vm := hZ.alike.trans X.warmed.alike
  obtain ⟨D, cfV, kV, iV, fV, hD, gV, stV, knV, obV, asV, slV⟩ := id V
  obtain ⟨D', cfC, kC, iC, fC, hD', gC, stC, -, -, asC, slC⟩ := id C
  cases hD.symm.trans hD'
  obtain ⟨D2, kD, e1, e2, e3, e4, e5⟩ := id E
  cases hD.symm.trans e1
  obtain ⟨c2, k2, i1, i2, i3, -⟩ := Cond.instantiable_spec wi
  cases e2.symm.trans i1
  cases e3.symm.trans i2
  obtain ⟨kU, u1, u2⟩ := al.2.2 _ _ e3
  have hB : Blank ST x D P.U := ⟨hD, ⟨knV, fun q hq => by rw [hq] at obV; cases obV⟩, by rw [al.findClass]; exact e2, kU, u1, by rw [u2]; exact i3, by rw [u2]; exact e5 i3⟩
  have F1 : Found ST "value" "[B" fV P.U := ⟨SBG.found_only al ⟨cfV, kV, iV, gV⟩, stV⟩
  have F2 : Found ST "coder" "B" fC P.U := ⟨SBG.found_only al ⟨cfC, kC, iC, gC⟩, stC⟩
  have hA : Ch b A P.U := ⟨⟨K.1, State.isArrayOf_alike al K.2.1, K.2.2, by omega⟩, hty⟩
  have hS : StaticIs P.U ST "COMPACT_STRINGS" "Z" (.int z) := by
    obtain ⟨cfS, iS, kS, fS, st, cS, t1, t2, t3, t4, t5, t6, t7⟩ := S
    exact StaticIs.there (s := { Z with heap := P.U.heap }) ⟨cfS, iS, kS, fS, st, cS, t1, t2, t3, t4, t5, (fun q => by rw [q] at t6; cases t6), t7⟩ al rfl
  obtain ⟨v, B, X', ⟨⟨hv, E', V', q1, q2, q3, q4, q5, q6, q7, q8, q9, q10, q11⟩, hl, hc, hs⟩, st⟩ := New1.pays x D fV fC b A z (tab_of (moved hZ hw)) hfr hlo m meth c P g ig mk _ X hg hsize hdg hW hn ⟨r1, r2, rfl, hB, F1, F2, hA, hS, hz, l0, l2, hp⟩
  have al' : Z.vm.Alike B.U.vm := hZ.alike.trans X'.warmed.alike
  have hsz : E'.slots.size = D.slots.size := by
    obtain ⟨-, -, -, kB, w1, w2, w3⟩ := q1
    obtain ⟨kB', y1, y2⟩ := al'.2.2 _ _ e3
    rw [q2.2.1] at w1
    cases w1.symm.trans y1
    rw [w3, e5 i3, y2]
  refine ⟨v, B, X', ⟨_, ⟨hv, ?_, ⟨by omega, fun y cy hy hn' => q10 y cy (by simpa using hn') hy, fun y cy hy => ?_⟩, q11, ⟨E', _, q1.1, by rw [q2.2.1]; exact e2, by rw [q2.2.1]; exact e3, by rw [q2.1]; exact obV, fun _ => by rw [hsz]; exact e5 i3⟩,
    ⟨E', cfV, kV, iV, fV, q1.1, gV, stV, by rw [q2.1]; exact knV, by rw [q2.1]; exact obV, by rw [q2.2.1]; exact asV, q3⟩, ⟨E', cfC, kC, iC, fC, q1.1, gC, stC, by rw [q2.1]; exact knV, by rw [q2.1]; exact obV, by rw [q2.2.1]; exact asC, q4⟩,
    ⟨V', ⟨q5.1, State.isArrayOf_alike al'.symm q5.2.1, q5.2.2.1⟩, q6, by rw [← al'.findClass]; exact q7, q8, fun j hj => by have := q9 j hj; rwa [Nat.zero_add] at this⟩, fun O n d w F n1 n2 => ?_⟩, hl, hc, hs⟩, st⟩
  · intro y hy
    simp only [List.mem_cons, List.not_mem_nil, or_false] at hy
    rcases hy with rfl | rfl <;> rfl
  · by_cases q : y = x
    · subst q
      cases hD.symm.trans hy
      exact ⟨E', q1.1, q2.2.1, q2.1, hsz⟩
    · exact ⟨cy, q10 y cy q hy, rfl, rfl, rfl⟩
  · obtain ⟨D3, cf, k, i, f, g1, g2, g3, g4, g5, g6, g7⟩ := F
    cases hD.symm.trans g1
    simp only [RoadKit.slotOf, g2, gV, gC, Option.map_some, Option.getD_some] at n1 n2
    exact ⟨E', cf, k, i, f, q1.1, g2, g3, by rw [q2.1]; exact g4, by rw [q2.1]; exact g5, by rw [q2.2.1]; exact g6, by rw [q2.2.2 f.slot (by simp [n1, n2])]; exact g7⟩
end StrChars.Road
namespace StrChars.Road
open Jvm Sem ClassFile Op Lib Jvm.Stand Jvm.Free Jvm.Free.XT
/-- WHAT COMES BACK, the byte[] as a list of values -/
def QA (Z : State) (x : Addr) (zn : Int32) (cs : List Int32) (h : Heap) (v : Option Value) (h' : Heap) (L : List Loc) : Prop := v = none ∧ (∀ y ∈ L, y.base = x) ∧ RoadKit.Keep h h' [x] ∧ h'.size = h.size + 1 ∧ RoadKit.Exa Z h' x ST ∧ RoadKit.Fld Z h' x ST "value" "[B" (.ref h.size) ∧ RoadKit.Fld Z h' x ST "coder" "B" (.int 0) ∧
  (∃ kb, Z.vm.findClass "[B" = some kb ∧ RoadKit.Arv Z h' h.size kb .byte zn (cs.map fun c => .int (lo8 c)) (.int 0)) ∧
  ∀ (O n d : String) (w : Value), RoadKit.Fld Z h x O n d w → RoadKit.slotOf Z O n d ≠ RoadKit.slotOf Z ST "value" "[B" → RoadKit.slotOf Z O n d ≠ RoadKit.slotOf Z ST "coder" "B" → RoadKit.Fld Z h' x O n d w
/-- **new String(chars) AT A CALL, THE ARRAYS AS LISTS**: the char[] at b holds cs, not empty, no char above 255 -/
theorem backArv {p : Program} {l : Launch} {e : Env} {R : Room} {s : State} {args : Array Value} {below : List Frame} {len W : Nat} {Z : State} {a0 : Array Value} {h : Heap} (hZ : Z.Warmed39 s.vm) (hw : ∀ d ∈ words, d.before a0 Z = true) {kI : Nat} (wi : (Jvm.Cond.instantiable ST kI).before a0 Z = true)
    {x b : Addr} {k : ClassId} {zn z : Int32} {cs : List Int32} {dv v0 c0 : Value} (E : RoadKit.Exa Z h x ST) (V : RoadKit.Fld Z h x ST "value" "[B" v0) (C : RoadKit.Fld Z h x ST "coder" "B" c0) (K : RoadKit.Arv Z h b k .char zn (cs.map Value.int) dv) (S : RoadKit.Sta Z h ST "COMPACT_STRINGS" "Z" (.int z)) (hz : ¬ z = 0)
    (hlen : zn.toNatClampNeg = cs.length) (h0 : 0 < cs.length) (hbig : cs.length ≤ 536870912) (hall : ∀ c ∈ cs, ¬ 255 < c) (hfr : 4 ≤ R.frames) (hlo : W + 65 ≤ R.locals) :
    Back l R p e below s args New1.yN len W (fun P a => a = #[.ref x, .ref b] ∧ P.U.heap = h ∧ P.cells + 1 ≤ R.cells ∧ P.slots + cs.length ≤ R.slots)
      (fun P _ v B => ∃ L, QA Z x zn cs h v B.U.heap L ∧ B.locs = P.locs ++ L ∧ B.cells = P.cells + 1 ∧ B.slots = P.slots + cs.length) := by
  obtain ⟨A, K1, K2, K3, K4, K5, K6⟩ := K
  have e : A.slots.size = cs.length := K3.trans hlen
  have hat : ∀ (i : Nat) (hi : i < cs.length), A.slots[i]? = some (.int cs[i]) := fun i hi => by rw [K5 i (by omega)]; simp [List.getD_eq_getElem?_getD, hi]
  have hcv : ∀ (i : Nat) (hi : i < cs.length), cv A i = cs[i] := fun i hi => by unfold cv; rw [hat i hi]
  have hty : Typed .char A := fun i v hv => by
    have hi : i < A.slots.size := (Array.getElem?_eq_some_iff.mp hv).1
    have q := K5 i hi
    rw [hv] at q
    rw [Option.some.inj q]
    exact K6 i hi
  refine Back.mono (back hZ hw wi E V C K1 hty S hz (by omega) (by omega) (fun i hi => by rw [hcv i (by omega)]; exact hall _ (List.getElem_mem _)) hfr hlo) (fun P a hp => ⟨hp.1, hp.2.1, hp.2.2.1, by rw [e]; exact hp.2.2.2⟩) (fun P a v B hp hq => ?_)
  obtain ⟨L, ⟨q1, q2, q3, q4, q5, q6, q7, ⟨V', v1, v2, v3, v4, v5⟩, q9⟩, hl, hc, hs⟩ := hq
  refine ⟨L, ⟨q1, q2, q3, q4, q5, q6, q7, ⟨V'.cls, v3, V', v1, rfl, by rw [v4, e, hlen], K4, fun i hi => ?_, fun i hi => ?_⟩, q9⟩, hl, hc, by rw [hs, e]⟩
  · have hi' : i < cs.length := by omega
    rw [v5 i (by omega), hcv i hi']; simp [List.getD_eq_getElem?_getD, hi']
  · have hi' : i < cs.length := by omega
    simp only [List.getD_eq_getElem?_getD, List.getElem?_map, List.getElem?_eq_getElem hi', Option.map_some, Option.getD_some]
    exact fits_lo8 _
end StrChars.Road
namespace StrChars.Road
open Jvm Sem ClassFile Op Lib Jvm.Stand Jvm.Free Jvm.Free.XT
/-- WHAT COMES BACK, in the writer's own shape -/
def QV (Z : State) (x : Addr) (N : Int32) (bs : List Int32) (h : Heap) (n0 : Nat) (v : Option Value) (h' : Heap) (L : List Loc) : Prop := v = none ∧ RoadKit.Fr n0 L ∧ RoadKit.Keep h h' [x] ∧ RoadKit.Exa Z h' x ST ∧ RoadKit.Fld Z h' x ST "coder" "B" (.int 0) ∧
  ∃ (t : Addr) (kb : ClassId), n0 ≤ t ∧ h.size ≤ t ∧ ¬ t = x ∧ RoadKit.Fld Z h' x ST "value" "[B" (.ref t) ∧ RoadKit.Arv Z h' t kb .byte N (bs.map Value.int) (.int 0)
/-- **new String(chars) AT A CALL, FOR THE WRITER**: a char[] of n known ints, each 0 to 255 -/
theorem backV {p : Program} {l : Launch} {e : Env} {R : Room} {s : State} {args : Array Value} {below : List Frame} {len W : Nat} {Z : State} {a0 : Array Value} {h : Heap} (hZ : Z.Warmed39 s.vm) (hw : ∀ d ∈ words, d.before a0 Z = true) {kI : Nat} (wi : (Jvm.Cond.instantiable ST kI).before a0 Z = true)
    {x b : Addr} {kC : ClassId} {cs bs : List Int32} {d v0 c0 : Value} {z N : Int32} {n n0 : Nat} (hx0 : n0 ≤ x) (hh0 : n0 ≤ h.size) (E : RoadKit.Exa Z h x ST) (V : RoadKit.Fld Z h x ST "value" "[B" v0) (C : RoadKit.Fld Z h x ST "coder" "B" c0) (K : RoadKit.Arv Z h b kC .char N (cs.map Value.int) d) (S : RoadKit.Sta Z h ST "COMPACT_STRINGS" "Z" (.int z)) (hz : ¬ z = 0)
    (hn : cs.length = n) (hN : N = Int32.ofNat n) (l0 : 0 < n) (l2 : n ≤ 4000) (hp : ∀ c ∈ cs, ¬ c < 0 ∧ ¬ (255 : Int32) < c) (hb : bs = cs.map (fun c => c.toInt8.toInt32)) (hfr : 4 ≤ R.frames) (hlo : W + 65 ≤ R.locals) :
    Back l R p e below s args (⟨"java/lang/String", "<init>", "([C)V"⟩ : MethodName) len W (fun P a => a = #[.ref x, .ref b] ∧ P.U.heap = h ∧ P.cells + 1 ≤ R.cells ∧ P.slots + n ≤ R.slots)
      (fun P _ v B => ∃ L, QV Z x N bs h n0 v B.U.heap L ∧ B.locs = P.locs ++ L ∧ B.cells = P.cells + 1 ∧ B.slots = P.slots + n) := by
  subst hn hN hb
  refine Back.mono (backArv hZ hw wi E V C K S hz (n32 (by omega)) l0 (by omega) (fun c hc => (hp c hc).2) hfr hlo) (fun P a hp => hp) (fun P a v B hp hq => ?_)
  obtain ⟨L, ⟨q1, q2, q3, q4, q5, q6, q7, ⟨kb, v1, v2⟩, q9⟩, hl, hc, hs⟩ := hq
  exact ⟨L, ⟨q1, fun y hy => by rw [q2 y hy]; exact hx0, q3, q5, q7, h.size, kb, hh0, Nat.le_refl _, Nat.ne_of_gt E.lt, q6, by rw [List.map_map]; exact v2⟩, hl, hc, hs⟩
end StrChars.Road
end Jvm.Pilot.@@N@@
namespace Jvm.Pilot.@@N@@
open Jvm Jvm.ClassFile Sem Op Lib Jvm.Free Jvm.Stand Jvm.LawKit Jvm.RoadKit Bundle Jvm.Pilot.@@N@@.Jvm.D
set_option maxRecDepth 65536
set_option maxHeartbeats 40000000
abbrev kc0 : String := "java/lang/Object"
abbrev kc1 : String := "java/util/ArrayList"
abbrev kc2 : String := "java/lang/String"
abbrev kc3 : String := "java/util/ImmutableCollections$List12"
abbrev kc4 : String := "java/util/ImmutableCollections$ListN"
abbrev kc5 : String := "java/util/AbstractList"
abbrev kc6 : String := "com/example/indexwright/indexwright/TomlKeyLines$Key"
abbrev kc7 : String := "java/util/ImmutableCollections"
abbrev EL : List (String × Nat) := [("java/lang/String", 7)]
theorem own_and255 (x : Int32) : ¬ ((x &&& (255 : Int32)).toUInt32.toUInt16.toUInt32.toInt32) < 0 ∧ ¬ (255 : Int32) < ((x &&& (255 : Int32)).toUInt32.toUInt16.toUInt32.toInt32) := by
  have t : ∀ k : Fin 256, ¬ ((Int32.ofNat k.val).toUInt32.toUInt16.toUInt32.toInt32) < 0 ∧ ¬ (255 : Int32) < ((Int32.ofNat k.val).toUInt32.toUInt16.toUInt32.toInt32) := by decide +kernel
  have h : (x &&& 255).toBitVec.toNat < 256 := by
    rw [Int32.toBitVec_and, BitVec.toNat_and]
    exact Nat.lt_succ_of_le Nat.and_le_right
  have e : (x &&& 255) = Int32.ofNat (x &&& 255).toBitVec.toNat := by
    apply Int32.toBitVec_inj.mp
    show _ = BitVec.ofNat 32 _
    rw [BitVec.ofNat_toNat]; simp
  rw [e]
  exact t ⟨_, h⟩
theorem own_lat (x : Int32) : (((((x &&& (255 : Int32)).toUInt32.toUInt16.toUInt32.toInt32).toInt8.toInt32) &&& (255 : Int32)).toUInt32.toUInt16.toUInt32.toInt32) = ((x &&& (255 : Int32)).toUInt32.toUInt16.toUInt32.toInt32) := by
  have t : ∀ k : Fin 256, (((((Int32.ofNat k.val).toUInt32.toUInt16.toUInt32.toInt32).toInt8.toInt32) &&& (255 : Int32)).toUInt32.toUInt16.toUInt32.toInt32) = ((Int32.ofNat k.val).toUInt32.toUInt16.toUInt32.toInt32) := by decide +kernel
  have h : (x &&& 255).toBitVec.toNat < 256 := by
    rw [Int32.toBitVec_and, BitVec.toNat_and]
    exact Nat.lt_succ_of_le Nat.and_le_right
  have e : (x &&& 255) = Int32.ofNat (x &&& 255).toBitVec.toNat := by
    apply Int32.toBitVec_inj.mp
    show _ = BitVec.ofNat 32 _
    rw [BitVec.ofNat_toNat]; simp
  rw [e]
  exact t ⟨_, h⟩
theorem own_ch0 (x : Int32) : ¬ (x.toUInt32.toUInt16.toUInt32.toInt32) < 0 := by
  have q := (c_i2c x).2.1
  rw [Int32.lt_iff_toInt_lt]
  have e0 : (0 : Int32).toInt = 0 := rfl
  omega
theorem own_le127 {x : Int32} (h : ¬ (127 : Int32) < x) : x < (128 : Int32) := by
  rw [Int32.lt_iff_toInt_lt] at h ⊢
  have e1 : (127 : Int32).toInt = 127 := rfl
  have e2 : (128 : Int32).toInt = 128 := rfl
  omega
theorem own_hws {Z : State} {a0 : Array Value} (hw : ∀ d ∈ tables_1, d.before a0 Z = true) : ∀ d ∈ StrChars.Road.words, d.before a0 Z = true := fun d hd => hw d ((by decide +kernel : ∀ d ∈ StrChars.Road.words, d ∈ tables_1) d hd)
theorem own_cnt (p : Int32) : ¬ ((1 : Int32) + ((p &&& (2147483647 : Int32)) % (3 : Int32))) < 1 := by
  have a1 := c_mask p 2147483647 31 (by decide) (by decide)
  have p31 : ((2 ^ 31 : Nat) : Int) = 2147483648 := rfl
  rw [p31] at a1
  generalize (p &&& (2147483647 : Int32)) = x at a1
  have h0 : 0 ≤ x.toInt := by omega
  have a2 := (c_irem x 3 3 rfl).1 h0
  generalize x % (3 : Int32) = t at a2
  have h1 : t.toInt = 0 ∨ t.toInt = 1 ∨ t.toInt = 2 := by omega
  have e0 : (0 : Int32).toInt = 0 := rfl
  have e1 : (1 : Int32).toInt = 1 := rfl
  have e2 : (2 : Int32).toInt = 2 := rfl
  rcases h1 with h | h | h
  · obtain rfl : t = 0 := Int32.toInt_inj.mp (by omega)
    decide
  · obtain rfl : t = 1 := Int32.toInt_inj.mp (by omega)
    decide
  · obtain rfl : t = 2 := Int32.toInt_inj.mp (by omega)
    decide
theorem own_c23 {n : Int32} (h : n < 2) : n < 3 := by
  rw [Int32.lt_iff_toInt_lt] at h ⊢
  have e0 : (2 : Int32).toInt = 2 := rfl
  have e1 : (3 : Int32).toInt = 3 := rfl
  omega
theorem own_ceq1 {n : Int32} (h : ¬ n < 2) : ¬ n = 1 := by
  rintro rfl
  exact h (by decide)
theorem own_cis1 {n : Int32} (h : ¬ n < 1) (q : n < 2) : n = 1 := by
  rw [Int32.lt_iff_toInt_lt] at h q
  have e0 : (1 : Int32).toInt = 1 := rfl
  have e1 : (2 : Int32).toInt = 2 := rfl
  exact Int32.toInt_inj.mp (by omega)
theorem own_ceq2 {n : Int32} (h : ¬ n < 3) : ¬ n = 2 := by
  rintro rfl
  exact h (by decide)
theorem own_cis2 {n : Int32} (h : ¬ n < 2) (q : n < 3) : n = 2 := by
  rw [Int32.lt_iff_toInt_lt] at h q
  have e0 : (2 : Int32).toInt = 2 := rfl
  have e1 : (3 : Int32).toInt = 3 := rfl
  exact Int32.toInt_inj.mp (by omega)
theorem own_cno2 {n : Int32} (h : n < 2) : ¬ n = 2 := by
  rintro rfl
  exact absurd h (by decide)
abbrev DC (b : ByteArray) (p : Nat) (i : Instr) (n : Nat) : Prop := ∀ {c : Code}, c.code = b → decode c.code p = .ok (i, n)
abbrev WD (w : Jvm.Cond) : Prop := ∀ {Z : State} {a0 : Array Value}, (∀ d ∈ tables_1, d.before a0 Z = true) → w.before a0 Z = true
theorem own_wd (i : Nat) {w : Jvm.Cond} (h : tables_1[i]? = some w) {Z : State} {a0 : Array Value} (hw : ∀ d ∈ tables_1, d.before a0 Z = true) : w.before a0 Z = true := hw _ (List.mem_of_getElem? h)
abbrev yn_1 : MethodName := ⟨"com/example/indexwright/indexwright/TomlKeyLinesKeyNamePinLaw", "drawn", "(I)Ljava/lang/String;"⟩
abbrev yn_2 : MethodName := ⟨"java/lang/String", "<init>", "([C)V"⟩
abbrev yn_3 : MethodName := ⟨"java/lang/String", "<init>", "([CIILjava/lang/Void;)V"⟩
abbrev yn_5 : MethodName := ⟨"java/util/ArrayList", "<init>", "()V"⟩
abbrev yn_6 : MethodName := ⟨"java/util/AbstractList", "<init>", "()V"⟩
abbrev yn_7 : MethodName := ⟨"java/util/AbstractCollection", "<init>", "()V"⟩
abbrev yn_8 : MethodName := ⟨"java/util/ArrayList", "add", "(Ljava/lang/Object;)Z"⟩
abbrev yn_9 : MethodName := ⟨"java/util/ArrayList", "add", "(Ljava/lang/Object;[Ljava/lang/Object;I)V"⟩
abbrev yn_10 : MethodName := ⟨"java/util/ArrayList", "grow", "()[Ljava/lang/Object;"⟩
abbrev yn_11 : MethodName := ⟨"java/util/ArrayList", "grow", "(I)[Ljava/lang/Object;"⟩
abbrev yn_12 : MethodName := ⟨"java/lang/Math", "max", "(II)I"⟩
abbrev yn_13 : MethodName := ⟨"com/example/indexwright/indexwright/TomlKeyLines$Key", "<init>", "(Ljava/util/List;)V"⟩
abbrev yn_14 : MethodName := ⟨"java/lang/Record", "<init>", "()V"⟩
abbrev yn_15 : MethodName := ⟨"java/util/List", "copyOf", "(Ljava/util/Collection;)Ljava/util/List;"⟩
abbrev yn_16 : MethodName := ⟨"java/util/ImmutableCollections", "listCopy", "(Ljava/util/Collection;)Ljava/util/List;"⟩
abbrev yn_17 : MethodName := ⟨"java/util/ArrayList", "isEmpty", "()Z"⟩
abbrev yn_18 : MethodName := ⟨"java/util/ArrayList", "toArray", "()[Ljava/lang/Object;"⟩
abbrev yn_19 : MethodName := ⟨"java/util/Arrays", "copyOf", "([Ljava/lang/Object;I)[Ljava/lang/Object;"⟩
abbrev yn_20 : MethodName := ⟨"java/util/Arrays", "copyOf", "([Ljava/lang/Object;ILjava/lang/Class;)[Ljava/lang/Object;"⟩
abbrev yn_21 : MethodName := ⟨"java/lang/Math", "min", "(II)I"⟩
abbrev yn_22 : MethodName := ⟨"java/util/List", "of", "([Ljava/lang/Object;)Ljava/util/List;"⟩
abbrev yn_23 : MethodName := ⟨"java/util/ImmutableCollections$List12", "<init>", "(Ljava/lang/Object;)V"⟩
abbrev yn_24 : MethodName := ⟨"java/util/ImmutableCollections$AbstractImmutableList", "<init>", "()V"⟩
abbrev yn_25 : MethodName := ⟨"java/util/ImmutableCollections$AbstractImmutableCollection", "<init>", "()V"⟩
abbrev yn_26 : MethodName := ⟨"java/util/Objects", "requireNonNull", "(Ljava/lang/Object;)Ljava/lang/Object;"⟩
abbrev yn_27 : MethodName := ⟨"com/example/indexwright/indexwright/TomlKeyLines$Key", "name", "()Ljava/lang/String;"⟩
abbrev yn_28 : MethodName := ⟨"java/util/ImmutableCollections$List12", "size", "()I"⟩
abbrev yn_29 : MethodName := ⟨"java/util/ImmutableCollections$List12", "get", "(I)Ljava/lang/Object;"⟩
abbrev yn_30 : MethodName := ⟨"java/lang/String", "equals", "(Ljava/lang/Object;)Z"⟩
abbrev yn_31 : MethodName := ⟨"java/util/ImmutableCollections$List12", "<init>", "(Ljava/lang/Object;Ljava/lang/Object;)V"⟩
abbrev yn_32 : MethodName := ⟨"java/lang/String", "valueOf", "(C)Ljava/lang/String;"⟩
abbrev yn_33 : MethodName := ⟨"java/lang/StringLatin1", "canEncode", "(C)Z"⟩
abbrev yn_34 : MethodName := ⟨"java/lang/StringLatin1", "toBytes", "(C)[B"⟩
abbrev yn_35 : MethodName := ⟨"java/lang/String", "<init>", "([BB)V"⟩
abbrev yn_39 : MethodName := ⟨"java/util/ImmutableCollections", "listFromArray", "([Ljava/lang/Object;)Ljava/util/List;"⟩
abbrev yn_40 : MethodName := ⟨"java/util/ImmutableCollections$ListN", "<init>", "([Ljava/lang/Object;Z)V"⟩
abbrev yn_41 : MethodName := ⟨"java/util/ImmutableCollections$ListN", "size", "()I"⟩
abbrev yn_42 : MethodName := ⟨"java/util/ImmutableCollections$ListN", "get", "(I)Ljava/lang/Object;"⟩
theorem d7_0 : DC jdk_22_method_1_code 0 (.aload_n 0) 1 := fun h => hb h (by decide +kernel)
theorem d7_1 : DC jdk_22_method_1_code 1 (.invokespecial 1) 3 := fun h => hb h (by decide +kernel)
theorem d7_4 : DC jdk_22_method_1_code 4 (.return_) 1 := fun h => hb h (by decide +kernel)
theorem d12_0 : DC jdk_29_method_65_code 0 (.iload_n 0) 1 := fun h => hb h (by decide +kernel)
theorem d12_1 : DC jdk_29_method_65_code 1 (.iload_n 1) 1 := fun h => hb h (by decide +kernel)
theorem d12_2 : DC jdk_29_method_65_code 2 (.if_icmp .lt 7) 3 := fun h => hb h (by decide +kernel)
theorem d12_5 : DC jdk_29_method_65_code 5 (.iload_n 0) 1 := fun h => hb h (by decide +kernel)
theorem d12_6 : DC jdk_29_method_65_code 6 (.goto 4) 3 := fun h => hb h (by decide +kernel)
theorem d12_10 : DC jdk_29_method_65_code 10 (.ireturn) 1 := fun h => hb h (by decide +kernel)
theorem d21_0 : DC jdk_29_method_69_code 0 (.iload_n 0) 1 := fun h => hb h (by decide +kernel)
theorem d21_1 : DC jdk_29_method_69_code 1 (.iload_n 1) 1 := fun h => hb h (by decide +kernel)
theorem d21_2 : DC jdk_29_method_69_code 2 (.if_icmp .gt 7) 3 := fun h => hb h (by decide +kernel)
theorem d21_9 : DC jdk_29_method_69_code 9 (.iload_n 1) 1 := fun h => hb h (by decide +kernel)
theorem d21_10 : DC jdk_29_method_69_code 10 (.ireturn) 1 := fun h => hb h (by decide +kernel)
theorem d14_0 : DC jdk_30_method_1_code 0 (.aload_n 0) 1 := fun h => hb h (by decide +kernel)
theorem d14_1 : DC jdk_30_method_1_code 1 (.invokespecial 1) 3 := fun h => hb h (by decide +kernel)
theorem d14_4 : DC jdk_30_method_1_code 4 (.return_) 1 := fun h => hb h (by decide +kernel)
theorem d26_0 : DC jdk_31_method_10_code 0 (.aload_n 0) 1 := fun h => hb h (by decide +kernel)
theorem d26_1 : DC jdk_31_method_10_code 1 (.ifnonnull 11) 3 := fun h => hb h (by decide +kernel)
theorem d26_12 : DC jdk_31_method_10_code 12 (.aload_n 0) 1 := fun h => hb h (by decide +kernel)
theorem d26_13 : DC jdk_31_method_10_code 13 (.areturn) 1 := fun h => hb h (by decide +kernel)
theorem d18_0 : DC jdk_38_method_16_code 0 (.aload_n 0) 1 := fun h => hb h (by decide +kernel)
theorem d18_1 : DC jdk_38_method_16_code 1 (.getfield 9) 3 := fun h => hb h (by decide +kernel)
theorem d18_4 : DC jdk_38_method_16_code 4 (.aload_n 0) 1 := fun h => hb h (by decide +kernel)
theorem d18_5 : DC jdk_38_method_16_code 5 (.getfield 48) 3 := fun h => hb h (by decide +kernel)
theorem d18_8 : DC jdk_38_method_16_code 8 (.invokestatic 66) 3 := fun h => hb h (by decide +kernel)
theorem d18_11 : DC jdk_38_method_16_code 11 (.areturn) 1 := fun h => hb h (by decide +kernel)
theorem d9_0 : DC jdk_38_method_24_code 0 (.iload_n 3) 1 := fun h => hb h (by decide +kernel)
theorem d9_1 : DC jdk_38_method_24_code 1 (.aload_n 2) 1 := fun h => hb h (by decide +kernel)
theorem d9_2 : DC jdk_38_method_24_code 2 (.arraylength) 1 := fun h => hb h (by decide +kernel)
theorem d9_3 : DC jdk_38_method_24_code 3 (.if_icmp .ne 8) 3 := fun h => hb h (by decide +kernel)
theorem d9_6 : DC jdk_38_method_24_code 6 (.aload_n 0) 1 := fun h => hb h (by decide +kernel)
theorem d9_7 : DC jdk_38_method_24_code 7 (.invokevirtual 129) 3 := fun h => hb h (by decide +kernel)
theorem d9_10 : DC jdk_38_method_24_code 10 (.astore_n 2) 1 := fun h => hb h (by decide +kernel)
theorem d9_11 : DC jdk_38_method_24_code 11 (.aload_n 2) 1 := fun h => hb h (by decide +kernel)
theorem d9_12 : DC jdk_38_method_24_code 12 (.iload_n 3) 1 := fun h => hb h (by decide +kernel)
theorem d9_13 : DC jdk_38_method_24_code 13 (.aload_n 1) 1 := fun h => hb h (by decide +kernel)
theorem d9_14 : DC jdk_38_method_24_code 14 (.aastore) 1 := fun h => hb h (by decide +kernel)
theorem d9_15 : DC jdk_38_method_24_code 15 (.aload_n 0) 1 := fun h => hb h (by decide +kernel)
theorem d9_16 : DC jdk_38_method_24_code 16 (.iload_n 3) 1 := fun h => hb h (by decide +kernel)
theorem d9_17 : DC jdk_38_method_24_code 17 (.iconst 1) 1 := fun h => hb h (by decide +kernel)
theorem d9_18 : DC jdk_38_method_24_code 18 (.iadd) 1 := fun h => hb h (by decide +kernel)
theorem d9_19 : DC jdk_38_method_24_code 19 (.putfield 48) 3 := fun h => hb h (by decide +kernel)
theorem d9_22 : DC jdk_38_method_24_code 22 (.return_) 1 := fun h => hb h (by decide +kernel)
theorem d8_0 : DC jdk_38_method_25_code 0 (.aload_n 0) 1 := fun h => hb h (by decide +kernel)
theorem d8_1 : DC jdk_38_method_25_code 1 (.dup) 1 := fun h => hb h (by decide +kernel)
theorem d8_2 : DC jdk_38_method_25_code 2 (.getfield 63) 3 := fun h => hb h (by decide +kernel)
theorem d8_5 : DC jdk_38_method_25_code 5 (.iconst 1) 1 := fun h => hb h (by decide +kernel)
theorem d8_6 : DC jdk_38_method_25_code 6 (.iadd) 1 := fun h => hb h (by decide +kernel)
theorem d8_7 : DC jdk_38_method_25_code 7 (.putfield 63) 3 := fun h => hb h (by decide +kernel)
theorem d8_10 : DC jdk_38_method_25_code 10 (.aload_n 0) 1 := fun h => hb h (by decide +kernel)
theorem d8_11 : DC jdk_38_method_25_code 11 (.aload_n 1) 1 := fun h => hb h (by decide +kernel)
theorem d8_12 : DC jdk_38_method_25_code 12 (.aload_n 0) 1 := fun h => hb h (by decide +kernel)
theorem d8_13 : DC jdk_38_method_25_code 13 (.getfield 9) 3 := fun h => hb h (by decide +kernel)
theorem d8_16 : DC jdk_38_method_25_code 16 (.aload_n 0) 1 := fun h => hb h (by decide +kernel)
theorem d8_17 : DC jdk_38_method_25_code 17 (.getfield 48) 3 := fun h => hb h (by decide +kernel)
theorem d8_20 : DC jdk_38_method_25_code 20 (.invokevirtual 131) 3 := fun h => hb h (by decide +kernel)
theorem d8_23 : DC jdk_38_method_25_code 23 (.iconst 1) 1 := fun h => hb h (by decide +kernel)
theorem d8_24 : DC jdk_38_method_25_code 24 (.ireturn) 1 := fun h => hb h (by decide +kernel)
theorem d5_0 : DC jdk_38_method_2_code 0 (.aload_n 0) 1 := fun h => hb h (by decide +kernel)
theorem d5_1 : DC jdk_38_method_2_code 1 (.invokespecial 1) 3 := fun h => hb h (by decide +kernel)
theorem d5_4 : DC jdk_38_method_2_code 4 (.aload_n 0) 1 := fun h => hb h (by decide +kernel)
theorem d5_5 : DC jdk_38_method_2_code 5 (.getstatic 39) 3 := fun h => hb h (by decide +kernel)
theorem d5_8 : DC jdk_38_method_2_code 8 (.putfield 9) 3 := fun h => hb h (by decide +kernel)
theorem d5_11 : DC jdk_38_method_2_code 11 (.return_) 1 := fun h => hb h (by decide +kernel)
theorem d11_0 : DC jdk_38_method_6_code 0 (.aload_n 0) 1 := fun h => hb h (by decide +kernel)
theorem d11_1 : DC jdk_38_method_6_code 1 (.getfield 9) 3 := fun h => hb h (by decide +kernel)
theorem d11_4 : DC jdk_38_method_6_code 4 (.arraylength) 1 := fun h => hb h (by decide +kernel)
theorem d11_5 : DC jdk_38_method_6_code 5 (.istore_n 2) 1 := fun h => hb h (by decide +kernel)
theorem d11_6 : DC jdk_38_method_6_code 6 (.iload_n 2) 1 := fun h => hb h (by decide +kernel)
theorem d11_7 : DC jdk_38_method_6_code 7 (.ifCond .gt 13) 3 := fun h => hb h (by decide +kernel)
theorem d11_10 : DC jdk_38_method_6_code 10 (.aload_n 0) 1 := fun h => hb h (by decide +kernel)
theorem d11_11 : DC jdk_38_method_6_code 11 (.getfield 9) 3 := fun h => hb h (by decide +kernel)
theorem d11_14 : DC jdk_38_method_6_code 14 (.getstatic 39) 3 := fun h => hb h (by decide +kernel)
theorem d11_17 : DC jdk_38_method_6_code 17 (.if_acmp .eq 28) 3 := fun h => hb h (by decide +kernel)
theorem d11_45 : DC jdk_38_method_6_code 45 (.aload_n 0) 1 := fun h => hb h (by decide +kernel)
theorem d11_46 : DC jdk_38_method_6_code 46 (.bipush 10) 2 := fun h => hb h (by decide +kernel)
theorem d11_48 : DC jdk_38_method_6_code 48 (.iload_n 1) 1 := fun h => hb h (by decide +kernel)
theorem d11_49 : DC jdk_38_method_6_code 49 (.invokestatic 79) 3 := fun h => hb h (by decide +kernel)
theorem d11_52 : DC jdk_38_method_6_code 52 (.anewarray 7) 3 := fun h => hb h (by decide +kernel)
theorem d11_55 : DC jdk_38_method_6_code 55 (.dup_x1) 1 := fun h => hb h (by decide +kernel)
theorem d11_56 : DC jdk_38_method_6_code 56 (.putfield 9) 3 := fun h => hb h (by decide +kernel)
theorem d11_59 : DC jdk_38_method_6_code 59 (.areturn) 1 := fun h => hb h (by decide +kernel)
theorem d10_0 : DC jdk_38_method_7_code 0 (.aload_n 0) 1 := fun h => hb h (by decide +kernel)
theorem d10_1 : DC jdk_38_method_7_code 1 (.aload_n 0) 1 := fun h => hb h (by decide +kernel)
theorem d10_2 : DC jdk_38_method_7_code 2 (.getfield 48) 3 := fun h => hb h (by decide +kernel)
theorem d10_5 : DC jdk_38_method_7_code 5 (.iconst 1) 1 := fun h => hb h (by decide +kernel)
theorem d10_6 : DC jdk_38_method_7_code 6 (.iadd) 1 := fun h => hb h (by decide +kernel)
theorem d10_7 : DC jdk_38_method_7_code 7 (.invokevirtual 69) 3 := fun h => hb h (by decide +kernel)
theorem d10_10 : DC jdk_38_method_7_code 10 (.areturn) 1 := fun h => hb h (by decide +kernel)
theorem d17_0 : DC jdk_38_method_9_code 0 (.aload_n 0) 1 := fun h => hb h (by decide +kernel)
theorem d17_1 : DC jdk_38_method_9_code 1 (.getfield 48) 3 := fun h => hb h (by decide +kernel)
theorem d17_4 : DC jdk_38_method_9_code 4 (.ifCond .ne 7) 3 := fun h => hb h (by decide +kernel)
theorem d17_11 : DC jdk_38_method_9_code 11 (.iconst 0) 1 := fun h => hb h (by decide +kernel)
theorem d17_12 : DC jdk_38_method_9_code 12 (.ireturn) 1 := fun h => hb h (by decide +kernel)
theorem d6_0 : DC jdk_39_method_1_code 0 (.aload_n 0) 1 := fun h => hb h (by decide +kernel)
theorem d6_1 : DC jdk_39_method_1_code 1 (.invokespecial 1) 3 := fun h => hb h (by decide +kernel)
theorem d6_4 : DC jdk_39_method_1_code 4 (.aload_n 0) 1 := fun h => hb h (by decide +kernel)
theorem d6_5 : DC jdk_39_method_1_code 5 (.iconst 0) 1 := fun h => hb h (by decide +kernel)
theorem d6_6 : DC jdk_39_method_1_code 6 (.putfield 7) 3 := fun h => hb h (by decide +kernel)
theorem d6_9 : DC jdk_39_method_1_code 9 (.return_) 1 := fun h => hb h (by decide +kernel)
theorem d22_0 : DC jdk_40_method_47_code 0 (.aload_n 0) 1 := fun h => hb h (by decide +kernel)
theorem d22_1 : DC jdk_40_method_47_code 1 (.arraylength) 1 := fun h => hb h (by decide +kernel)
theorem d22_2 : DC jdk_40_method_47_code 2 (.tableswitch 57 0 2 #[26, 32, 43]) 26 := fun h => hb h (by decide +kernel)
theorem d22_34 : DC jdk_40_method_47_code 34 (.new 96) 3 := fun h => hb h (by decide +kernel)
theorem d22_37 : DC jdk_40_method_47_code 37 (.dup) 1 := fun h => hb h (by decide +kernel)
theorem d22_38 : DC jdk_40_method_47_code 38 (.aload_n 0) 1 := fun h => hb h (by decide +kernel)
theorem d22_39 : DC jdk_40_method_47_code 39 (.iconst 0) 1 := fun h => hb h (by decide +kernel)
theorem d22_40 : DC jdk_40_method_47_code 40 (.aaload) 1 := fun h => hb h (by decide +kernel)
theorem d22_41 : DC jdk_40_method_47_code 41 (.invokespecial 98) 3 := fun h => hb h (by decide +kernel)
theorem d22_44 : DC jdk_40_method_47_code 44 (.areturn) 1 := fun h => hb h (by decide +kernel)
theorem d22_45 : DC jdk_40_method_47_code 45 (.new 96) 3 := fun h => hb h (by decide +kernel)
theorem d22_48 : DC jdk_40_method_47_code 48 (.dup) 1 := fun h => hb h (by decide +kernel)
theorem d22_49 : DC jdk_40_method_47_code 49 (.aload_n 0) 1 := fun h => hb h (by decide +kernel)
theorem d22_50 : DC jdk_40_method_47_code 50 (.iconst 0) 1 := fun h => hb h (by decide +kernel)
theorem d22_51 : DC jdk_40_method_47_code 51 (.aaload) 1 := fun h => hb h (by decide +kernel)
theorem d22_52 : DC jdk_40_method_47_code 52 (.aload_n 0) 1 := fun h => hb h (by decide +kernel)
theorem d22_53 : DC jdk_40_method_47_code 53 (.iconst 1) 1 := fun h => hb h (by decide +kernel)
theorem d22_54 : DC jdk_40_method_47_code 54 (.aaload) 1 := fun h => hb h (by decide +kernel)
theorem d22_55 : DC jdk_40_method_47_code 55 (.invokespecial 100) 3 := fun h => hb h (by decide +kernel)
theorem d22_58 : DC jdk_40_method_47_code 58 (.areturn) 1 := fun h => hb h (by decide +kernel)
theorem d22_59 : DC jdk_40_method_47_code 59 (.aload_n 0) 1 := fun h => hb h (by decide +kernel)
theorem d22_60 : DC jdk_40_method_47_code 60 (.invokestatic 109) 3 := fun h => hb h (by decide +kernel)
theorem d22_63 : DC jdk_40_method_47_code 63 (.areturn) 1 := fun h => hb h (by decide +kernel)
theorem d15_0 : DC jdk_40_method_48_code 0 (.aload_n 0) 1 := fun h => hb h (by decide +kernel)
theorem d15_1 : DC jdk_40_method_48_code 1 (.invokestatic 112) 3 := fun h => hb h (by decide +kernel)
theorem d15_4 : DC jdk_40_method_48_code 4 (.areturn) 1 := fun h => hb h (by decide +kernel)
theorem d32_0 : DC jdk_42_method_139_code 0 (.getstatic 38) 3 := fun h => hb h (by decide +kernel)
theorem d32_3 : DC jdk_42_method_139_code 3 (.ifCond .eq 23) 3 := fun h => hb h (by decide +kernel)
theorem d32_6 : DC jdk_42_method_139_code 6 (.iload_n 0) 1 := fun h => hb h (by decide +kernel)
theorem d32_7 : DC jdk_42_method_139_code 7 (.invokestatic 1015) 3 := fun h => hb h (by decide +kernel)
theorem d32_10 : DC jdk_42_method_139_code 10 (.ifCond .eq 16) 3 := fun h => hb h (by decide +kernel)
theorem d32_13 : DC jdk_42_method_139_code 13 (.new 10) 3 := fun h => hb h (by decide +kernel)
theorem d32_16 : DC jdk_42_method_139_code 16 (.dup) 1 := fun h => hb h (by decide +kernel)
theorem d32_17 : DC jdk_42_method_139_code 17 (.iload_n 0) 1 := fun h => hb h (by decide +kernel)
theorem d32_18 : DC jdk_42_method_139_code 18 (.invokestatic 1018) 3 := fun h => hb h (by decide +kernel)
theorem d32_21 : DC jdk_42_method_139_code 21 (.iconst 0) 1 := fun h => hb h (by decide +kernel)
theorem d32_22 : DC jdk_42_method_139_code 22 (.invokespecial 209) 3 := fun h => hb h (by decide +kernel)
theorem d32_25 : DC jdk_42_method_139_code 25 (.areturn) 1 := fun h => hb h (by decide +kernel)
theorem d3_0 : DC jdk_42_method_149_code 0 (.aload_n 0) 1 := fun h => hb h (by decide +kernel)
theorem d3_1 : DC jdk_42_method_149_code 1 (.invokespecial 1) 3 := fun h => hb h (by decide +kernel)
theorem d3_4 : DC jdk_42_method_149_code 4 (.iload_n 3) 1 := fun h => hb h (by decide +kernel)
theorem d3_5 : DC jdk_42_method_149_code 5 (.ifCond .ne 22) 3 := fun h => hb h (by decide +kernel)
theorem d3_8 : DC jdk_42_method_149_code 8 (.aload_n 0) 1 := fun h => hb h (by decide +kernel)
theorem d3_9 : DC jdk_42_method_149_code 9 (.ldc 7) 2 := fun h => hb h (by decide +kernel)
theorem d3_11 : DC jdk_42_method_149_code 11 (.getfield 9) 3 := fun h => hb h (by decide +kernel)
theorem d3_14 : DC jdk_42_method_149_code 14 (.putfield 9) 3 := fun h => hb h (by decide +kernel)
theorem d3_17 : DC jdk_42_method_149_code 17 (.aload_n 0) 1 := fun h => hb h (by decide +kernel)
theorem d3_18 : DC jdk_42_method_149_code 18 (.ldc 7) 2 := fun h => hb h (by decide +kernel)
theorem d3_20 : DC jdk_42_method_149_code 20 (.getfield 15) 3 := fun h => hb h (by decide +kernel)
theorem d3_23 : DC jdk_42_method_149_code 23 (.putfield 15) 3 := fun h => hb h (by decide +kernel)
theorem d3_26 : DC jdk_42_method_149_code 26 (.return_) 1 := fun h => hb h (by decide +kernel)
theorem d35_0 : DC jdk_42_method_151_code 0 (.aload_n 0) 1 := fun h => hb h (by decide +kernel)
theorem d35_1 : DC jdk_42_method_151_code 1 (.invokespecial 1) 3 := fun h => hb h (by decide +kernel)
theorem d35_4 : DC jdk_42_method_151_code 4 (.aload_n 0) 1 := fun h => hb h (by decide +kernel)
theorem d35_5 : DC jdk_42_method_151_code 5 (.aload_n 1) 1 := fun h => hb h (by decide +kernel)
theorem d35_6 : DC jdk_42_method_151_code 6 (.putfield 9) 3 := fun h => hb h (by decide +kernel)
theorem d35_9 : DC jdk_42_method_151_code 9 (.aload_n 0) 1 := fun h => hb h (by decide +kernel)
theorem d35_10 : DC jdk_42_method_151_code 10 (.iload_n 2) 1 := fun h => hb h (by decide +kernel)
theorem d35_11 : DC jdk_42_method_151_code 11 (.putfield 15) 3 := fun h => hb h (by decide +kernel)
theorem d35_14 : DC jdk_42_method_151_code 14 (.return_) 1 := fun h => hb h (by decide +kernel)
theorem d2_0 : DC jdk_42_method_3_code 0 (.aload_n 0) 1 := fun h => hb h (by decide +kernel)
theorem d2_1 : DC jdk_42_method_3_code 1 (.aload_n 1) 1 := fun h => hb h (by decide +kernel)
theorem d2_2 : DC jdk_42_method_3_code 2 (.iconst 0) 1 := fun h => hb h (by decide +kernel)
theorem d2_3 : DC jdk_42_method_3_code 3 (.aload_n 1) 1 := fun h => hb h (by decide +kernel)
theorem d2_4 : DC jdk_42_method_3_code 4 (.arraylength) 1 := fun h => hb h (by decide +kernel)
theorem d2_5 : DC jdk_42_method_3_code 5 (.aconst_null) 1 := fun h => hb h (by decide +kernel)
theorem d2_6 : DC jdk_42_method_3_code 6 (.invokespecial 27) 3 := fun h => hb h (by decide +kernel)
theorem d2_9 : DC jdk_42_method_3_code 9 (.return_) 1 := fun h => hb h (by decide +kernel)
theorem d30_0 : DC jdk_42_method_66_code 0 (.aload_n 0) 1 := fun h => hb h (by decide +kernel)
theorem d30_1 : DC jdk_42_method_66_code 1 (.aload_n 1) 1 := fun h => hb h (by decide +kernel)
theorem d30_2 : DC jdk_42_method_66_code 2 (.if_acmp .ne 5) 3 := fun h => hb h (by decide +kernel)
theorem d30_5 : DC jdk_42_method_66_code 5 (.iconst 1) 1 := fun h => hb h (by decide +kernel)
theorem d30_6 : DC jdk_42_method_66_code 6 (.ireturn) 1 := fun h => hb h (by decide +kernel)
theorem d33_0 : DC jdk_43_method_3_code 0 (.iload_n 0) 1 := fun h => hb h (by decide +kernel)
theorem d33_1 : DC jdk_43_method_3_code 1 (.sipush 255) 3 := fun h => hb h (by decide +kernel)
theorem d33_4 : DC jdk_43_method_3_code 4 (.if_icmp .gt 7) 3 := fun h => hb h (by decide +kernel)
theorem d33_7 : DC jdk_43_method_3_code 7 (.iconst 1) 1 := fun h => hb h (by decide +kernel)
theorem d33_8 : DC jdk_43_method_3_code 8 (.goto 4) 3 := fun h => hb h (by decide +kernel)
theorem d33_12 : DC jdk_43_method_3_code 12 (.ireturn) 1 := fun h => hb h (by decide +kernel)
theorem d34_0 : DC jdk_43_method_46_code 0 (.iconst 1) 1 := fun h => hb h (by decide +kernel)
theorem d34_1 : DC jdk_43_method_46_code 1 (.newarray .byte) 2 := fun h => hb h (by decide +kernel)
theorem d34_3 : DC jdk_43_method_46_code 3 (.dup) 1 := fun h => hb h (by decide +kernel)
theorem d34_4 : DC jdk_43_method_46_code 4 (.iconst 0) 1 := fun h => hb h (by decide +kernel)
theorem d34_5 : DC jdk_43_method_46_code 5 (.iload_n 0) 1 := fun h => hb h (by decide +kernel)
theorem d34_6 : DC jdk_43_method_46_code 6 (.i2b) 1 := fun h => hb h (by decide +kernel)
theorem d34_7 : DC jdk_43_method_46_code 7 (.bastore) 1 := fun h => hb h (by decide +kernel)
theorem d34_8 : DC jdk_43_method_46_code 8 (.areturn) 1 := fun h => hb h (by decide +kernel)
theorem d23_0 : DC jdk_44_method_1_code 0 (.aload_n 0) 1 := fun h => hb h (by decide +kernel)
theorem d23_1 : DC jdk_44_method_1_code 1 (.invokespecial 1) 3 := fun h => hb h (by decide +kernel)
theorem d23_4 : DC jdk_44_method_1_code 4 (.aload_n 0) 1 := fun h => hb h (by decide +kernel)
theorem d23_5 : DC jdk_44_method_1_code 5 (.aload_n 1) 1 := fun h => hb h (by decide +kernel)
theorem d23_6 : DC jdk_44_method_1_code 6 (.invokestatic 7) 3 := fun h => hb h (by decide +kernel)
theorem d23_9 : DC jdk_44_method_1_code 9 (.putfield 13) 3 := fun h => hb h (by decide +kernel)
theorem d23_12 : DC jdk_44_method_1_code 12 (.aload_n 0) 1 := fun h => hb h (by decide +kernel)
theorem d23_13 : DC jdk_44_method_1_code 13 (.getstatic 19) 3 := fun h => hb h (by decide +kernel)
theorem d23_16 : DC jdk_44_method_1_code 16 (.putfield 24) 3 := fun h => hb h (by decide +kernel)
theorem d23_19 : DC jdk_44_method_1_code 19 (.return_) 1 := fun h => hb h (by decide +kernel)
theorem d31_0 : DC jdk_44_method_2_code 0 (.aload_n 0) 1 := fun h => hb h (by decide +kernel)
theorem d31_1 : DC jdk_44_method_2_code 1 (.invokespecial 1) 3 := fun h => hb h (by decide +kernel)
theorem d31_4 : DC jdk_44_method_2_code 4 (.aload_n 0) 1 := fun h => hb h (by decide +kernel)
theorem d31_5 : DC jdk_44_method_2_code 5 (.aload_n 1) 1 := fun h => hb h (by decide +kernel)
theorem d31_6 : DC jdk_44_method_2_code 6 (.invokestatic 7) 3 := fun h => hb h (by decide +kernel)
theorem d31_9 : DC jdk_44_method_2_code 9 (.putfield 13) 3 := fun h => hb h (by decide +kernel)
theorem d31_12 : DC jdk_44_method_2_code 12 (.aload_n 0) 1 := fun h => hb h (by decide +kernel)
theorem d31_13 : DC jdk_44_method_2_code 13 (.aload_n 2) 1 := fun h => hb h (by decide +kernel)
theorem d31_14 : DC jdk_44_method_2_code 14 (.invokestatic 7) 3 := fun h => hb h (by decide +kernel)
theorem d31_17 : DC jdk_44_method_2_code 17 (.putfield 24) 3 := fun h => hb h (by decide +kernel)
theorem d31_20 : DC jdk_44_method_2_code 20 (.return_) 1 := fun h => hb h (by decide +kernel)
theorem d28_0 : DC jdk_44_method_3_code 0 (.aload_n 0) 1 := fun h => hb h (by decide +kernel)
theorem d28_1 : DC jdk_44_method_3_code 1 (.getfield 24) 3 := fun h => hb h (by decide +kernel)
theorem d28_4 : DC jdk_44_method_3_code 4 (.getstatic 19) 3 := fun h => hb h (by decide +kernel)
theorem d28_7 : DC jdk_44_method_3_code 7 (.if_acmp .eq 7) 3 := fun h => hb h (by decide +kernel)
theorem d28_10 : DC jdk_44_method_3_code 10 (.iconst 2) 1 := fun h => hb h (by decide +kernel)
theorem d28_11 : DC jdk_44_method_3_code 11 (.goto 4) 3 := fun h => hb h (by decide +kernel)
theorem d28_14 : DC jdk_44_method_3_code 14 (.iconst 1) 1 := fun h => hb h (by decide +kernel)
theorem d28_15 : DC jdk_44_method_3_code 15 (.ireturn) 1 := fun h => hb h (by decide +kernel)
theorem d29_0 : DC jdk_44_method_5_code 0 (.iload_n 1) 1 := fun h => hb h (by decide +kernel)
theorem d29_1 : DC jdk_44_method_5_code 1 (.ifCond .ne 8) 3 := fun h => hb h (by decide +kernel)
theorem d29_4 : DC jdk_44_method_5_code 4 (.aload_n 0) 1 := fun h => hb h (by decide +kernel)
theorem d29_5 : DC jdk_44_method_5_code 5 (.getfield 13) 3 := fun h => hb h (by decide +kernel)
theorem d29_8 : DC jdk_44_method_5_code 8 (.areturn) 1 := fun h => hb h (by decide +kernel)
theorem d29_9 : DC jdk_44_method_5_code 9 (.iload_n 1) 1 := fun h => hb h (by decide +kernel)
theorem d29_10 : DC jdk_44_method_5_code 10 (.iconst 1) 1 := fun h => hb h (by decide +kernel)
theorem d29_11 : DC jdk_44_method_5_code 11 (.if_icmp .ne 18) 3 := fun h => hb h (by decide +kernel)
theorem d29_14 : DC jdk_44_method_5_code 14 (.aload_n 0) 1 := fun h => hb h (by decide +kernel)
theorem d29_15 : DC jdk_44_method_5_code 15 (.getfield 24) 3 := fun h => hb h (by decide +kernel)
theorem d29_18 : DC jdk_44_method_5_code 18 (.getstatic 19) 3 := fun h => hb h (by decide +kernel)
theorem d29_21 : DC jdk_44_method_5_code 21 (.if_acmp .eq 8) 3 := fun h => hb h (by decide +kernel)
theorem d29_24 : DC jdk_44_method_5_code 24 (.aload_n 0) 1 := fun h => hb h (by decide +kernel)
theorem d29_25 : DC jdk_44_method_5_code 25 (.getfield 24) 3 := fun h => hb h (by decide +kernel)
theorem d29_28 : DC jdk_44_method_5_code 28 (.areturn) 1 := fun h => hb h (by decide +kernel)
theorem d40_0 : DC jdk_45_method_1_code 0 (.aload_n 0) 1 := fun h => hb h (by decide +kernel)
theorem d40_1 : DC jdk_45_method_1_code 1 (.invokespecial 1) 3 := fun h => hb h (by decide +kernel)
theorem d40_4 : DC jdk_45_method_1_code 4 (.aload_n 0) 1 := fun h => hb h (by decide +kernel)
theorem d40_5 : DC jdk_45_method_1_code 5 (.aload_n 1) 1 := fun h => hb h (by decide +kernel)
theorem d40_6 : DC jdk_45_method_1_code 6 (.putfield 7) 3 := fun h => hb h (by decide +kernel)
theorem d40_9 : DC jdk_45_method_1_code 9 (.aload_n 0) 1 := fun h => hb h (by decide +kernel)
theorem d40_10 : DC jdk_45_method_1_code 10 (.iload_n 2) 1 := fun h => hb h (by decide +kernel)
theorem d40_11 : DC jdk_45_method_1_code 11 (.putfield 13) 3 := fun h => hb h (by decide +kernel)
theorem d40_14 : DC jdk_45_method_1_code 14 (.return_) 1 := fun h => hb h (by decide +kernel)
theorem d41_0 : DC jdk_45_method_3_code 0 (.aload_n 0) 1 := fun h => hb h (by decide +kernel)
theorem d41_1 : DC jdk_45_method_3_code 1 (.getfield 7) 3 := fun h => hb h (by decide +kernel)
theorem d41_4 : DC jdk_45_method_3_code 4 (.arraylength) 1 := fun h => hb h (by decide +kernel)
theorem d41_5 : DC jdk_45_method_3_code 5 (.ireturn) 1 := fun h => hb h (by decide +kernel)
theorem d42_0 : DC jdk_45_method_4_code 0 (.aload_n 0) 1 := fun h => hb h (by decide +kernel)
theorem d42_1 : DC jdk_45_method_4_code 1 (.getfield 7) 3 := fun h => hb h (by decide +kernel)
theorem d42_4 : DC jdk_45_method_4_code 4 (.iload_n 1) 1 := fun h => hb h (by decide +kernel)
theorem d42_5 : DC jdk_45_method_4_code 5 (.aaload) 1 := fun h => hb h (by decide +kernel)
theorem d42_6 : DC jdk_45_method_4_code 6 (.areturn) 1 := fun h => hb h (by decide +kernel)
theorem d24_0 : DC jdk_46_method_1_code 0 (.aload_n 0) 1 := fun h => hb h (by decide +kernel)
theorem d24_1 : DC jdk_46_method_1_code 1 (.invokespecial 1) 3 := fun h => hb h (by decide +kernel)
theorem d24_4 : DC jdk_46_method_1_code 4 (.return_) 1 := fun h => hb h (by decide +kernel)
theorem d25_0 : DC jdk_47_method_1_code 0 (.aload_n 0) 1 := fun h => hb h (by decide +kernel)
theorem d25_1 : DC jdk_47_method_1_code 1 (.invokespecial 1) 3 := fun h => hb h (by decide +kernel)
theorem d25_4 : DC jdk_47_method_1_code 4 (.return_) 1 := fun h => hb h (by decide +kernel)
theorem d16_0 : DC jdk_56_method_3_code 0 (.aload_n 0) 1 := fun h => hb h (by decide +kernel)
theorem d16_1 : DC jdk_56_method_3_code 1 (.instanceof 10) 3 := fun h => hb h (by decide +kernel)
theorem d16_4 : DC jdk_56_method_3_code 4 (.ifCond .ne 22) 3 := fun h => hb h (by decide +kernel)
theorem d16_7 : DC jdk_56_method_3_code 7 (.aload_n 0) 1 := fun h => hb h (by decide +kernel)
theorem d16_8 : DC jdk_56_method_3_code 8 (.instanceof 12) 3 := fun h => hb h (by decide +kernel)
theorem d16_11 : DC jdk_56_method_3_code 11 (.ifCond .eq 20) 3 := fun h => hb h (by decide +kernel)
theorem d16_31 : DC jdk_56_method_3_code 31 (.aload_n 0) 1 := fun h => hb h (by decide +kernel)
theorem d16_32 : DC jdk_56_method_3_code 32 (.invokeinterface 20 1) 5 := fun h => hb h (by decide +kernel)
theorem d16_37 : DC jdk_56_method_3_code 37 (.ifCond .eq 7) 3 := fun h => hb h (by decide +kernel)
theorem d16_44 : DC jdk_56_method_3_code 44 (.aload_n 0) 1 := fun h => hb h (by decide +kernel)
theorem d16_45 : DC jdk_56_method_3_code 45 (.invokeinterface 30 1) 5 := fun h => hb h (by decide +kernel)
theorem d16_50 : DC jdk_56_method_3_code 50 (.invokestatic 34) 3 := fun h => hb h (by decide +kernel)
theorem d16_53 : DC jdk_56_method_3_code 53 (.areturn) 1 := fun h => hb h (by decide +kernel)
theorem d39_0 : DC jdk_56_method_4_code 0 (.aload_n 0) 1 := fun h => hb h (by decide +kernel)
theorem d39_1 : DC jdk_56_method_4_code 1 (.arraylength) 1 := fun h => hb h (by decide +kernel)
theorem d39_2 : DC jdk_56_method_4_code 2 (.anewarray 2) 3 := fun h => hb h (by decide +kernel)
theorem d39_5 : DC jdk_56_method_4_code 5 (.astore_n 1) 1 := fun h => hb h (by decide +kernel)
theorem d39_6 : DC jdk_56_method_4_code 6 (.iconst 0) 1 := fun h => hb h (by decide +kernel)
theorem d39_7 : DC jdk_56_method_4_code 7 (.istore_n 2) 1 := fun h => hb h (by decide +kernel)
theorem d39_8 : DC jdk_56_method_4_code 8 (.iload_n 2) 1 := fun h => hb h (by decide +kernel)
theorem d39_9 : DC jdk_56_method_4_code 9 (.aload_n 0) 1 := fun h => hb h (by decide +kernel)
theorem d39_10 : DC jdk_56_method_4_code 10 (.arraylength) 1 := fun h => hb h (by decide +kernel)
theorem d39_11 : DC jdk_56_method_4_code 11 (.if_icmp .ge 18) 3 := fun h => hb h (by decide +kernel)
theorem d39_14 : DC jdk_56_method_4_code 14 (.aload_n 1) 1 := fun h => hb h (by decide +kernel)
theorem d39_15 : DC jdk_56_method_4_code 15 (.iload_n 2) 1 := fun h => hb h (by decide +kernel)
theorem d39_16 : DC jdk_56_method_4_code 16 (.aload_n 0) 1 := fun h => hb h (by decide +kernel)
theorem d39_17 : DC jdk_56_method_4_code 17 (.iload_n 2) 1 := fun h => hb h (by decide +kernel)
theorem d39_18 : DC jdk_56_method_4_code 18 (.aaload) 1 := fun h => hb h (by decide +kernel)
theorem d39_19 : DC jdk_56_method_4_code 19 (.invokestatic 37) 3 := fun h => hb h (by decide +kernel)
theorem d39_22 : DC jdk_56_method_4_code 22 (.aastore) 1 := fun h => hb h (by decide +kernel)
theorem d39_23 : DC jdk_56_method_4_code 23 (.iinc 2 1) 3 := fun h => hb h (by decide +kernel)
theorem d39_26 : DC jdk_56_method_4_code 26 (.goto (-18)) 3 := fun h => hb h (by decide +kernel)
theorem d39_29 : DC jdk_56_method_4_code 29 (.new 12) 3 := fun h => hb h (by decide +kernel)
theorem d39_32 : DC jdk_56_method_4_code 32 (.dup) 1 := fun h => hb h (by decide +kernel)
theorem d39_33 : DC jdk_56_method_4_code 33 (.aload_n 1) 1 := fun h => hb h (by decide +kernel)
theorem d39_34 : DC jdk_56_method_4_code 34 (.iconst 0) 1 := fun h => hb h (by decide +kernel)
theorem d39_35 : DC jdk_56_method_4_code 35 (.invokespecial 43) 3 := fun h => hb h (by decide +kernel)
theorem d39_38 : DC jdk_56_method_4_code 38 (.areturn) 1 := fun h => hb h (by decide +kernel)
theorem d19_0 : DC jdk_65_method_119_code 0 (.aload_n 0) 1 := fun h => hb h (by decide +kernel)
theorem d19_1 : DC jdk_65_method_119_code 1 (.iload_n 1) 1 := fun h => hb h (by decide +kernel)
theorem d19_2 : DC jdk_65_method_119_code 2 (.aload_n 0) 1 := fun h => hb h (by decide +kernel)
theorem d19_3 : DC jdk_65_method_119_code 3 (.invokevirtual 86) 3 := fun h => hb h (by decide +kernel)
theorem d19_6 : DC jdk_65_method_119_code 6 (.invokestatic 300) 3 := fun h => hb h (by decide +kernel)
theorem d19_9 : DC jdk_65_method_119_code 9 (.areturn) 1 := fun h => hb h (by decide +kernel)
theorem d20_0 : DC jdk_65_method_120_code 0 (.aload_n 2) 1 := fun h => hb h (by decide +kernel)
theorem d20_1 : DC jdk_65_method_120_code 1 (.ldc 110) 2 := fun h => hb h (by decide +kernel)
theorem d20_3 : DC jdk_65_method_120_code 3 (.if_acmp .ne 10) 3 := fun h => hb h (by decide +kernel)
theorem d20_6 : DC jdk_65_method_120_code 6 (.iload_n 1) 1 := fun h => hb h (by decide +kernel)
theorem d20_7 : DC jdk_65_method_120_code 7 (.anewarray 2) 3 := fun h => hb h (by decide +kernel)
theorem d20_10 : DC jdk_65_method_120_code 10 (.goto 14) 3 := fun h => hb h (by decide +kernel)
theorem d20_24 : DC jdk_65_method_120_code 24 (.astore_n 3) 1 := fun h => hb h (by decide +kernel)
theorem d20_25 : DC jdk_65_method_120_code 25 (.aload_n 0) 1 := fun h => hb h (by decide +kernel)
theorem d20_26 : DC jdk_65_method_120_code 26 (.iconst 0) 1 := fun h => hb h (by decide +kernel)
theorem d20_27 : DC jdk_65_method_120_code 27 (.aload_n 3) 1 := fun h => hb h (by decide +kernel)
theorem d20_28 : DC jdk_65_method_120_code 28 (.iconst 0) 1 := fun h => hb h (by decide +kernel)
theorem d20_29 : DC jdk_65_method_120_code 29 (.aload_n 0) 1 := fun h => hb h (by decide +kernel)
theorem d20_30 : DC jdk_65_method_120_code 30 (.arraylength) 1 := fun h => hb h (by decide +kernel)
theorem d20_31 : DC jdk_65_method_120_code 31 (.iload_n 1) 1 := fun h => hb h (by decide +kernel)
theorem d20_32 : DC jdk_65_method_120_code 32 (.invokestatic 304) 3 := fun h => hb h (by decide +kernel)
theorem d20_35 : DC jdk_65_method_120_code 35 (.invokestatic 150) 3 := fun h => hb h (by decide +kernel)
theorem d20_38 : DC jdk_65_method_120_code 38 (.aload_n 3) 1 := fun h => hb h (by decide +kernel)
theorem d20_39 : DC jdk_65_method_120_code 39 (.areturn) 1 := fun h => hb h (by decide +kernel)
theorem d1_0 : DC method_2_code 0 (.iload_n 0) 1 := fun h => hb h (by decide +kernel)
theorem d1_1 : DC method_2_code 1 (.bipush 16) 2 := fun h => hb h (by decide +kernel)
theorem d1_3 : DC method_2_code 3 (.iushr) 1 := fun h => hb h (by decide +kernel)
theorem d1_4 : DC method_2_code 4 (.iconst 3) 1 := fun h => hb h (by decide +kernel)
theorem d1_5 : DC method_2_code 5 (.irem) 1 := fun h => hb h (by decide +kernel)
theorem d1_6 : DC method_2_code 6 (.istore_n 1) 1 := fun h => hb h (by decide +kernel)
theorem d1_7 : DC method_2_code 7 (.iload_n 0) 1 := fun h => hb h (by decide +kernel)
theorem d1_8 : DC method_2_code 8 (.sipush 255) 3 := fun h => hb h (by decide +kernel)
theorem d1_11 : DC method_2_code 11 (.iand) 1 := fun h => hb h (by decide +kernel)
theorem d1_12 : DC method_2_code 12 (.i2c) 1 := fun h => hb h (by decide +kernel)
theorem d1_13 : DC method_2_code 13 (.istore_n 2) 1 := fun h => hb h (by decide +kernel)
theorem d1_14 : DC method_2_code 14 (.iload_n 0) 1 := fun h => hb h (by decide +kernel)
theorem d1_15 : DC method_2_code 15 (.bipush 8) 2 := fun h => hb h (by decide +kernel)
theorem d1_17 : DC method_2_code 17 (.iushr) 1 := fun h => hb h (by decide +kernel)
theorem d1_18 : DC method_2_code 18 (.sipush 255) 3 := fun h => hb h (by decide +kernel)
theorem d1_21 : DC method_2_code 21 (.iand) 1 := fun h => hb h (by decide +kernel)
theorem d1_22 : DC method_2_code 22 (.i2c) 1 := fun h => hb h (by decide +kernel)
theorem d1_23 : DC method_2_code 23 (.istore_n 3) 1 := fun h => hb h (by decide +kernel)
theorem d1_24 : DC method_2_code 24 (.iload_n 1) 1 := fun h => hb h (by decide +kernel)
theorem d1_25 : DC method_2_code 25 (.ifCond .ne 14) 3 := fun h => hb h (by decide +kernel)
theorem d1_28 : DC method_2_code 28 (.new 7) 3 := fun h => hb h (by decide +kernel)
theorem d1_31 : DC method_2_code 31 (.dup) 1 := fun h => hb h (by decide +kernel)
theorem d1_32 : DC method_2_code 32 (.iconst 0) 1 := fun h => hb h (by decide +kernel)
theorem d1_33 : DC method_2_code 33 (.newarray .char) 2 := fun h => hb h (by decide +kernel)
theorem d1_35 : DC method_2_code 35 (.invokespecial 9) 3 := fun h => hb h (by decide +kernel)
theorem d1_38 : DC method_2_code 38 (.areturn) 1 := fun h => hb h (by decide +kernel)
theorem d1_39 : DC method_2_code 39 (.iload_n 1) 1 := fun h => hb h (by decide +kernel)
theorem d1_40 : DC method_2_code 40 (.iconst 1) 1 := fun h => hb h (by decide +kernel)
theorem d1_41 : DC method_2_code 41 (.if_icmp .ne 8) 3 := fun h => hb h (by decide +kernel)
theorem d1_44 : DC method_2_code 44 (.iload_n 2) 1 := fun h => hb h (by decide +kernel)
theorem d1_45 : DC method_2_code 45 (.invokestatic 12) 3 := fun h => hb h (by decide +kernel)
theorem d1_48 : DC method_2_code 48 (.areturn) 1 := fun h => hb h (by decide +kernel)
theorem d1_49 : DC method_2_code 49 (.iconst 2) 1 := fun h => hb h (by decide +kernel)
theorem d1_50 : DC method_2_code 50 (.newarray .char) 2 := fun h => hb h (by decide +kernel)
theorem d1_52 : DC method_2_code 52 (.astore 4) 2 := fun h => hb h (by decide +kernel)
theorem d1_54 : DC method_2_code 54 (.aload 4) 2 := fun h => hb h (by decide +kernel)
theorem d1_56 : DC method_2_code 56 (.iconst 0) 1 := fun h => hb h (by decide +kernel)
theorem d1_57 : DC method_2_code 57 (.iload_n 2) 1 := fun h => hb h (by decide +kernel)
theorem d1_58 : DC method_2_code 58 (.castore) 1 := fun h => hb h (by decide +kernel)
theorem d1_59 : DC method_2_code 59 (.aload 4) 2 := fun h => hb h (by decide +kernel)
theorem d1_61 : DC method_2_code 61 (.iconst 1) 1 := fun h => hb h (by decide +kernel)
theorem d1_62 : DC method_2_code 62 (.iload_n 3) 1 := fun h => hb h (by decide +kernel)
theorem d1_63 : DC method_2_code 63 (.castore) 1 := fun h => hb h (by decide +kernel)
theorem d1_64 : DC method_2_code 64 (.new 7) 3 := fun h => hb h (by decide +kernel)
theorem d1_67 : DC method_2_code 67 (.dup) 1 := fun h => hb h (by decide +kernel)
theorem d1_68 : DC method_2_code 68 (.aload 4) 2 := fun h => hb h (by decide +kernel)
theorem d1_70 : DC method_2_code 70 (.invokespecial 9) 3 := fun h => hb h (by decide +kernel)
theorem d1_73 : DC method_2_code 73 (.areturn) 1 := fun h => hb h (by decide +kernel)
theorem d13_0 : DC prog_12_method_1_code 0 (.aload_n 0) 1 := fun h => hb h (by decide +kernel)
theorem d13_1 : DC prog_12_method_1_code 1 (.invokespecial 1) 3 := fun h => hb h (by decide +kernel)
theorem d13_4 : DC prog_12_method_1_code 4 (.aload_n 1) 1 := fun h => hb h (by decide +kernel)
theorem d13_5 : DC prog_12_method_1_code 5 (.invokestatic 7) 3 := fun h => hb h (by decide +kernel)
theorem d13_8 : DC prog_12_method_1_code 8 (.astore_n 1) 1 := fun h => hb h (by decide +kernel)
theorem d13_9 : DC prog_12_method_1_code 9 (.aload_n 0) 1 := fun h => hb h (by decide +kernel)
theorem d13_10 : DC prog_12_method_1_code 10 (.aload_n 1) 1 := fun h => hb h (by decide +kernel)
theorem d13_11 : DC prog_12_method_1_code 11 (.putfield 13) 3 := fun h => hb h (by decide +kernel)
theorem d13_14 : DC prog_12_method_1_code 14 (.return_) 1 := fun h => hb h (by decide +kernel)
theorem d27_0 : DC prog_12_method_6_code 0 (.aload_n 0) 1 := fun h => hb h (by decide +kernel)
theorem d27_1 : DC prog_12_method_6_code 1 (.getfield 13) 3 := fun h => hb h (by decide +kernel)
theorem d27_4 : DC prog_12_method_6_code 4 (.aload_n 0) 1 := fun h => hb h (by decide +kernel)
theorem d27_5 : DC prog_12_method_6_code 5 (.getfield 13) 3 := fun h => hb h (by decide +kernel)
theorem d27_8 : DC prog_12_method_6_code 8 (.invokeinterface 43 1) 5 := fun h => hb h (by decide +kernel)
theorem d27_13 : DC prog_12_method_6_code 13 (.iconst 1) 1 := fun h => hb h (by decide +kernel)
theorem d27_14 : DC prog_12_method_6_code 14 (.isub) 1 := fun h => hb h (by decide +kernel)
theorem d27_15 : DC prog_12_method_6_code 15 (.invokeinterface 57 2) 5 := fun h => hb h (by decide +kernel)
theorem d27_20 : DC prog_12_method_6_code 20 (.checkcast 61) 3 := fun h => hb h (by decide +kernel)
theorem d27_23 : DC prog_12_method_6_code 23 (.areturn) 1 := fun h => hb h (by decide +kernel)
theorem pn_0 : plainName "java/lang/String" = true := by first | (simp [plainName, overriddenIn]; done) | decide +kernel
theorem pn_1 : plainName "java/lang/StringLatin1" = true := by first | (simp [plainName, overriddenIn]; done) | decide +kernel
theorem pn_2 : plainName "com/example/indexwright/indexwright/TomlKeyLinesKeyNamePinLaw" = true := by first | (simp [plainName, overriddenIn]; done) | decide +kernel
theorem pn_3 : plainName "java/util/AbstractCollection" = true := by first | (simp [plainName, overriddenIn]; done) | decide +kernel
theorem pn_4 : plainName "java/util/AbstractList" = true := by first | (simp [plainName, overriddenIn]; done) | decide +kernel
theorem pn_5 : plainName "java/util/ArrayList" = true := by first | (simp [plainName, overriddenIn]; done) | decide +kernel
theorem pn_6 : plainName "java/lang/Record" = true := by first | (simp [plainName, overriddenIn]; done) | decide +kernel
theorem pn_7 : plainName "java/util/Arrays" = true := by first | (simp [plainName, overriddenIn]; done) | decide +kernel
theorem pn_8 : plainName "java/util/ImmutableCollections$AbstractImmutableCollection" = true := by first | (simp [plainName, overriddenIn]; done) | decide +kernel
theorem pn_9 : plainName "java/util/ImmutableCollections$AbstractImmutableList" = true := by first | (simp [plainName, overriddenIn]; done) | decide +kernel
theorem pn_10 : plainName "java/util/Objects" = true := by first | (simp [plainName, overriddenIn]; done) | decide +kernel
theorem pn_11 : plainName "java/util/ImmutableCollections$List12" = true := by first | (simp [plainName, overriddenIn]; done) | decide +kernel
theorem pn_12 : plainName "java/util/List" = true := by first | (simp [plainName, overriddenIn]; done) | decide +kernel
theorem pn_13 : plainName "java/util/ImmutableCollections" = true := by first | (simp [plainName, overriddenIn]; done) | decide +kernel
theorem pn_14 : plainName "com/example/indexwright/indexwright/TomlKeyLines$Key" = true := by first | (simp [plainName, overriddenIn]; done) | decide +kernel
theorem pn_15 : plainName "java/util/ImmutableCollections$ListN" = true := by first | (simp [plainName, overriddenIn]; done) | decide +kernel
theorem pd_0 : parseMethodDescriptor "([CIILjava/lang/Void;)V" = some ⟨[(.array .char), .int, .int, (.object "java/lang/Void")], none⟩ := by decide +kernel
theorem pd_1 : parseMethodDescriptor "([C)V" = some ⟨[(.array .char)], none⟩ := by decide +kernel
theorem pd_2 : parseMethodDescriptor "(C)Z" = some ⟨[.char], some .boolean⟩ := by decide +kernel
theorem pd_3 : parseMethodDescriptor "(C)[B" = some ⟨[.char], some (.array .byte)⟩ := by decide +kernel
theorem pd_4 : parseMethodDescriptor "([BB)V" = some ⟨[(.array .byte), .byte], none⟩ := by decide +kernel
theorem pd_5 : parseMethodDescriptor "(C)Ljava/lang/String;" = some ⟨[.char], some (.object "java/lang/String")⟩ := by decide +kernel
theorem pd_6 : parseMethodDescriptor "(I)Ljava/lang/String;" = some ⟨[.int], some (.object "java/lang/String")⟩ := by decide +kernel
theorem pd_7 : parseMethodDescriptor "()V" = some ⟨[], none⟩ := by decide +kernel
theorem pd_8 : parseMethodDescriptor "(II)I" = some ⟨[.int, .int], some .int⟩ := by decide +kernel
theorem pd_9 : parseMethodDescriptor "(I)[Ljava/lang/Object;" = some ⟨[.int], some (.array (.object "java/lang/Object"))⟩ := by decide +kernel
theorem pd_10 : parseMethodDescriptor "()[Ljava/lang/Object;" = some ⟨[], some (.array (.object "java/lang/Object"))⟩ := by decide +kernel
theorem pd_11 : parseMethodDescriptor "(Ljava/lang/Object;[Ljava/lang/Object;I)V" = some ⟨[(.object "java/lang/Object"), (.array (.object "java/lang/Object")), .int], none⟩ := by decide +kernel
theorem pd_12 : parseMethodDescriptor "(Ljava/lang/Object;)Z" = some ⟨[(.object "java/lang/Object")], some .boolean⟩ := by decide +kernel
theorem pd_13 : parseMethodDescriptor "()Z" = some ⟨[], some .boolean⟩ := by decide +kernel
theorem pd_14 : parseMethodDescriptor "([Ljava/lang/Object;ILjava/lang/Class;)[Ljava/lang/Object;" = some ⟨[(.array (.object "java/lang/Object")), .int, (.object "java/lang/Class")], some (.array (.object "java/lang/Object"))⟩ := by decide +kernel
theorem pd_15 : parseMethodDescriptor "([Ljava/lang/Object;I)[Ljava/lang/Object;" = some ⟨[(.array (.object "java/lang/Object")), .int], some (.array (.object "java/lang/Object"))⟩ := by decide +kernel
theorem pd_16 : parseMethodDescriptor "(Ljava/lang/Object;)Ljava/lang/Object;" = some ⟨[(.object "java/lang/Object")], some (.object "java/lang/Object")⟩ := by decide +kernel
theorem pd_17 : parseMethodDescriptor "(Ljava/lang/Object;)V" = some ⟨[(.object "java/lang/Object")], none⟩ := by decide +kernel
theorem pd_18 : parseMethodDescriptor "([Ljava/lang/Object;)Ljava/util/List;" = some ⟨[(.array (.object "java/lang/Object"))], some (.object "java/util/List")⟩ := by decide +kernel
theorem pd_19 : parseMethodDescriptor "(Ljava/util/Collection;)Ljava/util/List;" = some ⟨[(.object "java/util/Collection")], some (.object "java/util/List")⟩ := by decide +kernel
theorem pd_20 : parseMethodDescriptor "(Ljava/util/List;)V" = some ⟨[(.object "java/util/List")], none⟩ := by decide +kernel
theorem pd_21 : parseMethodDescriptor "()I" = some ⟨[], some .int⟩ := by decide +kernel
theorem pd_22 : parseMethodDescriptor "(I)Ljava/lang/Object;" = some ⟨[.int], some (.object "java/lang/Object")⟩ := by decide +kernel
theorem pd_23 : parseMethodDescriptor "()Ljava/lang/String;" = some ⟨[], some (.object "java/lang/String")⟩ := by decide +kernel
theorem pd_24 : parseMethodDescriptor "(Ljava/lang/Object;Ljava/lang/Object;)V" = some ⟨[(.object "java/lang/Object"), (.object "java/lang/Object")], none⟩ := by decide +kernel
theorem pd_25 : parseMethodDescriptor "([Ljava/lang/Object;Z)V" = some ⟨[(.array (.object "java/lang/Object")), .boolean], none⟩ := by decide +kernel
theorem wd_0 : WD (Jvm.Cond.constant "com/example/indexwright/indexwright/TomlKeyLinesKeyNamePinLaw" (16 : Nat) (2147483647 : Int32)) := own_wd 0 rfl
theorem wd_1 : WD (Jvm.Cond.methodLink "com/example/indexwright/indexwright/TomlKeyLinesKeyNamePinLaw" (17 : Nat) ({ cls := "com/example/indexwright/indexwright/TomlKeyLinesKeyNamePinLaw", name := "drawn", desc := "(I)Ljava/lang/String;" } : Jvm.MethodName)) := own_wd 1 rfl
theorem wd_2 : WD (Jvm.Cond.static ({ cls := "com/example/indexwright/indexwright/TomlKeyLinesKeyNamePinLaw", name := "drawn", desc := "(I)Ljava/lang/String;" } : Jvm.MethodName)) := own_wd 2 rfl
theorem wd_3 : WD (Jvm.Cond.initialized "com/example/indexwright/indexwright/TomlKeyLinesKeyNamePinLaw") := own_wd 3 rfl
theorem wd_4 : WD (Jvm.Cond.code ({ cls := "com/example/indexwright/indexwright/TomlKeyLinesKeyNamePinLaw", name := "drawn", desc := "(I)Ljava/lang/String;" } : Jvm.MethodName) method_2_code (5 : Nat) (Option.some (Jvm.ClassFile.FieldType.object kc2))) := own_wd 4 rfl
theorem wd_5 : WD (Jvm.Cond.classLink "com/example/indexwright/indexwright/TomlKeyLinesKeyNamePinLaw" (7 : Nat) kc2) := own_wd 5 rfl
theorem wd_6 : WD (Jvm.Cond.instantiable kc2 (4 : Nat)) := own_wd 6 rfl
theorem wd_7 : WD (Jvm.Cond.initialized kc2) := own_wd 7 rfl
theorem wd_8 : WD (Jvm.Cond.arrayClass Jvm.ClassFile.FieldType.char) := own_wd 8 rfl
theorem wd_9 : WD (Jvm.Cond.methodLink "com/example/indexwright/indexwright/TomlKeyLinesKeyNamePinLaw" (9 : Nat) ({ cls := kc2, name := "<init>", desc := "([C)V" } : Jvm.MethodName)) := own_wd 9 rfl
theorem wd_10 : WD (Jvm.Cond.instanceMethod ({ cls := kc2, name := "<init>", desc := "([C)V" } : Jvm.MethodName)) := own_wd 10 rfl
theorem wd_11 : WD (Jvm.Cond.code ({ cls := kc2, name := "<init>", desc := "([C)V" } : Jvm.MethodName) jdk_42_method_3_code (2 : Nat) (Option.none : Option Jvm.ClassFile.FieldType)) := own_wd 11 rfl
theorem wd_12 : WD (Jvm.Cond.methodLink kc2 (27 : Nat) ({ cls := kc2, name := "<init>", desc := "([CIILjava/lang/Void;)V" } : Jvm.MethodName)) := own_wd 12 rfl
theorem wd_13 : WD (Jvm.Cond.instanceMethod ({ cls := kc2, name := "<init>", desc := "([CIILjava/lang/Void;)V" } : Jvm.MethodName)) := own_wd 13 rfl
theorem wd_15 : WD (Jvm.Cond.code ({ cls := kc2, name := "<init>", desc := "([CIILjava/lang/Void;)V" } : Jvm.MethodName) jdk_42_method_149_code (6 : Nat) (Option.none : Option Jvm.ClassFile.FieldType)) := own_wd 15 rfl
theorem wd_16 : WD (Jvm.Cond.methodLink kc2 (1 : Nat) ({ cls := kc0, name := "<init>", desc := "()V" } : Jvm.MethodName)) := own_wd 16 rfl
theorem wd_17 : WD (Jvm.Cond.instanceMethod ({ cls := kc0, name := "<init>", desc := "()V" } : Jvm.MethodName)) := own_wd 17 rfl
theorem wd_18 : WD (Jvm.Cond.code ({ cls := kc0, name := "<init>", desc := "()V" } : Jvm.MethodName) object_method_1_code (1 : Nat) (Option.none : Option Jvm.ClassFile.FieldType)) := own_wd 18 rfl
theorem wd_19 : WD (Jvm.Cond.stringLink kc2 (7 : Nat) "") := own_wd 19 rfl
theorem wd_20 : WD (Jvm.Cond.arrayClass Jvm.ClassFile.FieldType.byte) := own_wd 20 rfl
theorem wd_21 : WD (Jvm.Cond.laysFinal kc2 kc2 "value" "[B") := own_wd 21 rfl
theorem wd_22 : WD (Jvm.Cond.laysFinal kc2 kc2 "coder" "B") := own_wd 22 rfl
theorem wd_25 : WD (Jvm.Cond.fieldLink kc2 (9 : Nat) kc2 "value" "[B") := own_wd 25 rfl
theorem wd_26 : WD (Jvm.Cond.fieldLink kc2 (15 : Nat) kc2 "coder" "B") := own_wd 26 rfl
theorem wd_27 : WD (Jvm.Cond.classLink "com/example/indexwright/indexwright/TomlKeyLinesKeyNamePinLaw" (23 : Nat) kc1) := own_wd 27 rfl
theorem wd_28 : WD (Jvm.Cond.instantiable kc1 (3 : Nat)) := own_wd 28 rfl
theorem wd_29 : WD (Jvm.Cond.initialized kc1) := own_wd 29 rfl
theorem wd_30 : WD (Jvm.Cond.methodLink "com/example/indexwright/indexwright/TomlKeyLinesKeyNamePinLaw" (25 : Nat) ({ cls := kc1, name := "<init>", desc := "()V" } : Jvm.MethodName)) := own_wd 30 rfl
theorem wd_31 : WD (Jvm.Cond.instanceMethod ({ cls := kc1, name := "<init>", desc := "()V" } : Jvm.MethodName)) := own_wd 31 rfl
theorem wd_32 : WD (Jvm.Cond.code ({ cls := kc1, name := "<init>", desc := "()V" } : Jvm.MethodName) jdk_38_method_2_code (1 : Nat) (Option.none : Option Jvm.ClassFile.FieldType)) := own_wd 32 rfl
theorem wd_33 : WD (Jvm.Cond.methodLink kc1 (1 : Nat) ({ cls := kc5, name := "<init>", desc := "()V" } : Jvm.MethodName)) := own_wd 33 rfl
theorem wd_34 : WD (Jvm.Cond.instanceMethod ({ cls := kc5, name := "<init>", desc := "()V" } : Jvm.MethodName)) := own_wd 34 rfl
theorem wd_37 : WD (Jvm.Cond.initialized kc5) := own_wd 37 rfl
theorem wd_38 : WD (Jvm.Cond.code ({ cls := kc5, name := "<init>", desc := "()V" } : Jvm.MethodName) jdk_39_method_1_code (1 : Nat) (Option.none : Option Jvm.ClassFile.FieldType)) := own_wd 38 rfl
theorem wd_39 : WD (Jvm.Cond.methodLink kc5 (1 : Nat) ({ cls := "java/util/AbstractCollection", name := "<init>", desc := "()V" } : Jvm.MethodName)) := own_wd 39 rfl
theorem wd_40 : WD (Jvm.Cond.instanceMethod ({ cls := "java/util/AbstractCollection", name := "<init>", desc := "()V" } : Jvm.MethodName)) := own_wd 40 rfl
theorem wd_43 : WD (Jvm.Cond.initialized "java/util/AbstractCollection") := own_wd 43 rfl
theorem wd_44 : WD (Jvm.Cond.code ({ cls := "java/util/AbstractCollection", name := "<init>", desc := "()V" } : Jvm.MethodName) jdk_22_method_1_code (1 : Nat) (Option.none : Option Jvm.ClassFile.FieldType)) := own_wd 44 rfl
theorem wd_45 : WD (Jvm.Cond.methodLink "java/util/AbstractCollection" (1 : Nat) ({ cls := kc0, name := "<init>", desc := "()V" } : Jvm.MethodName)) := own_wd 45 rfl
theorem wd_46 : WD (Jvm.Cond.fieldLink kc5 (7 : Nat) kc5 "modCount" "I") := own_wd 46 rfl
theorem wd_47 : WD (Jvm.Cond.lays kc1 kc5 "modCount" "I") := own_wd 47 rfl
theorem wd_48 : WD (Jvm.Cond.fieldLink kc1 (39 : Nat) kc1 "DEFAULTCAPACITY_EMPTY_ELEMENTDATA" "[Ljava/lang/Object;") := own_wd 48 rfl
theorem wd_49 : WD (Jvm.Cond.fieldLink kc1 (9 : Nat) kc1 "elementData" "[Ljava/lang/Object;") := own_wd 49 rfl
theorem wd_50 : WD (Jvm.Cond.lays kc1 kc1 "elementData" "[Ljava/lang/Object;") := own_wd 50 rfl
theorem wd_51 : WD (Jvm.Cond.methodLink "com/example/indexwright/indexwright/TomlKeyLinesKeyNamePinLaw" (26 : Nat) ({ cls := "java/util/List", name := "add", desc := "(Ljava/lang/Object;)Z" } : Jvm.MethodName)) := own_wd 51 rfl
theorem wd_52 : WD (Jvm.Cond.declares ({ cls := "java/util/List", name := "add", desc := "(Ljava/lang/Object;)Z" } : Jvm.MethodName)) := own_wd 52 rfl
theorem wd_53 : WD (Jvm.Cond.interfaceMethod "java/util/List" "java/util/List" "add" "(Ljava/lang/Object;)Z") := own_wd 53 rfl
theorem wd_54 : WD (Jvm.Cond.selects kc1 ({ cls := "java/util/List", name := "add", desc := "(Ljava/lang/Object;)Z" } : Jvm.MethodName) ({ cls := kc1, name := "add", desc := "(Ljava/lang/Object;)Z" } : Jvm.MethodName)) := own_wd 54 rfl
theorem wd_55 : WD (Jvm.Cond.instanceMethod ({ cls := kc1, name := "add", desc := "(Ljava/lang/Object;)Z" } : Jvm.MethodName)) := own_wd 55 rfl
theorem wd_56 : WD (Jvm.Cond.publicMethod ({ cls := kc1, name := "add", desc := "(Ljava/lang/Object;)Z" } : Jvm.MethodName)) := own_wd 56 rfl
theorem wd_57 : WD (Jvm.Cond.unhidden kc1 "add" "(Ljava/lang/Object;)Z") := own_wd 57 rfl
theorem wd_58 : WD (Jvm.Cond.castable kc1 "java/util/List") := own_wd 58 rfl
theorem wd_59 : WD (Jvm.Cond.code ({ cls := kc1, name := "add", desc := "(Ljava/lang/Object;)Z" } : Jvm.MethodName) jdk_38_method_25_code (2 : Nat) (Option.some Jvm.ClassFile.FieldType.boolean)) := own_wd 59 rfl
theorem wd_60 : WD (Jvm.Cond.fieldLink kc1 (63 : Nat) kc1 "modCount" "I") := own_wd 60 rfl
theorem wd_61 : WD (Jvm.Cond.sameField kc1 kc5 "modCount" "I") := own_wd 61 rfl
theorem wd_62 : WD (Jvm.Cond.fieldLink kc1 (48 : Nat) kc1 "size" "I") := own_wd 62 rfl
theorem wd_63 : WD (Jvm.Cond.lays kc1 kc1 "size" "I") := own_wd 63 rfl
theorem wd_64 : WD (Jvm.Cond.methodLink kc1 (131 : Nat) ({ cls := kc1, name := "add", desc := "(Ljava/lang/Object;[Ljava/lang/Object;I)V" } : Jvm.MethodName)) := own_wd 64 rfl
theorem wd_65 : WD (Jvm.Cond.instanceMethod ({ cls := kc1, name := "add", desc := "(Ljava/lang/Object;[Ljava/lang/Object;I)V" } : Jvm.MethodName)) := own_wd 65 rfl
theorem wd_66 : WD (Jvm.Cond.privateMethod ({ cls := kc1, name := "add", desc := "(Ljava/lang/Object;[Ljava/lang/Object;I)V" } : Jvm.MethodName)) := own_wd 66 rfl
theorem wd_67 : WD (Jvm.Cond.selects kc1 ({ cls := kc1, name := "add", desc := "(Ljava/lang/Object;[Ljava/lang/Object;I)V" } : Jvm.MethodName) ({ cls := kc1, name := "add", desc := "(Ljava/lang/Object;[Ljava/lang/Object;I)V" } : Jvm.MethodName)) := own_wd 67 rfl
theorem wd_68 : WD (Jvm.Cond.code ({ cls := kc1, name := "add", desc := "(Ljava/lang/Object;[Ljava/lang/Object;I)V" } : Jvm.MethodName) jdk_38_method_24_code (4 : Nat) (Option.none : Option Jvm.ClassFile.FieldType)) := own_wd 68 rfl
theorem wd_69 : WD (Jvm.Cond.methodLink kc1 (129 : Nat) ({ cls := kc1, name := "grow", desc := "()[Ljava/lang/Object;" } : Jvm.MethodName)) := own_wd 69 rfl
theorem wd_70 : WD (Jvm.Cond.instanceMethod ({ cls := kc1, name := "grow", desc := "()[Ljava/lang/Object;" } : Jvm.MethodName)) := own_wd 70 rfl
theorem wd_71 : WD (Jvm.Cond.privateMethod ({ cls := kc1, name := "grow", desc := "()[Ljava/lang/Object;" } : Jvm.MethodName)) := own_wd 71 rfl
theorem wd_72 : WD (Jvm.Cond.selects kc1 ({ cls := kc1, name := "grow", desc := "()[Ljava/lang/Object;" } : Jvm.MethodName) ({ cls := kc1, name := "grow", desc := "()[Ljava/lang/Object;" } : Jvm.MethodName)) := own_wd 72 rfl
theorem wd_73 : WD (Jvm.Cond.code ({ cls := kc1, name := "grow", desc := "()[Ljava/lang/Object;" } : Jvm.MethodName) jdk_38_method_7_code (1 : Nat) (Option.some (Jvm.ClassFile.FieldType.array (Jvm.ClassFile.FieldType.object kc0)))) := own_wd 73 rfl
theorem wd_74 : WD (Jvm.Cond.methodLink kc1 (69 : Nat) ({ cls := kc1, name := "grow", desc := "(I)[Ljava/lang/Object;" } : Jvm.MethodName)) := own_wd 74 rfl
theorem wd_75 : WD (Jvm.Cond.instanceMethod ({ cls := kc1, name := "grow", desc := "(I)[Ljava/lang/Object;" } : Jvm.MethodName)) := own_wd 75 rfl
theorem wd_76 : WD (Jvm.Cond.privateMethod ({ cls := kc1, name := "grow", desc := "(I)[Ljava/lang/Object;" } : Jvm.MethodName)) := own_wd 76 rfl
theorem wd_77 : WD (Jvm.Cond.selects kc1 ({ cls := kc1, name := "grow", desc := "(I)[Ljava/lang/Object;" } : Jvm.MethodName) ({ cls := kc1, name := "grow", desc := "(I)[Ljava/lang/Object;" } : Jvm.MethodName)) := own_wd 77 rfl
theorem wd_78 : WD (Jvm.Cond.code ({ cls := kc1, name := "grow", desc := "(I)[Ljava/lang/Object;" } : Jvm.MethodName) jdk_38_method_6_code (4 : Nat) (Option.some (Jvm.ClassFile.FieldType.array (Jvm.ClassFile.FieldType.object kc0)))) := own_wd 78 rfl
theorem wd_79 : WD (Jvm.Cond.methodLink kc1 (79 : Nat) ({ cls := "java/lang/Math", name := "max", desc := "(II)I" } : Jvm.MethodName)) := own_wd 79 rfl
theorem wd_80 : WD (Jvm.Cond.static ({ cls := "java/lang/Math", name := "max", desc := "(II)I" } : Jvm.MethodName)) := own_wd 80 rfl
theorem wd_81 : WD (Jvm.Cond.initialized "java/lang/Math") := own_wd 81 rfl
theorem wd_82 : WD (Jvm.Cond.code ({ cls := "java/lang/Math", name := "max", desc := "(II)I" } : Jvm.MethodName) jdk_29_method_65_code (2 : Nat) (Option.some Jvm.ClassFile.FieldType.int)) := own_wd 82 rfl
theorem wd_83 : WD (Jvm.Cond.classLink kc1 (7 : Nat) kc0) := own_wd 83 rfl
theorem wd_84 : WD (Jvm.Cond.arrayOver (Jvm.ClassFile.FieldType.object kc0)) := own_wd 84 rfl
theorem wd_85 : WD (Jvm.Cond.castable kc2 kc0) := own_wd 85 rfl
theorem wd_86 : WD (Jvm.Cond.classLink "com/example/indexwright/indexwright/TomlKeyLinesKeyNamePinLaw" (32 : Nat) kc6) := own_wd 86 rfl
theorem wd_87 : WD (Jvm.Cond.instantiable kc6 (1 : Nat)) := own_wd 87 rfl
theorem wd_88 : WD (Jvm.Cond.initialized kc6) := own_wd 88 rfl
theorem wd_89 : WD (Jvm.Cond.methodLink "com/example/indexwright/indexwright/TomlKeyLinesKeyNamePinLaw" (34 : Nat) ({ cls := kc6, name := "<init>", desc := "(Ljava/util/List;)V" } : Jvm.MethodName)) := own_wd 89 rfl
theorem wd_90 : WD (Jvm.Cond.instanceMethod ({ cls := kc6, name := "<init>", desc := "(Ljava/util/List;)V" } : Jvm.MethodName)) := own_wd 90 rfl
theorem wd_91 : WD (Jvm.Cond.code ({ cls := kc6, name := "<init>", desc := "(Ljava/util/List;)V" } : Jvm.MethodName) prog_12_method_1_code (2 : Nat) (Option.none : Option Jvm.ClassFile.FieldType)) := own_wd 91 rfl
theorem wd_92 : WD (Jvm.Cond.methodLink kc6 (1 : Nat) ({ cls := "java/lang/Record", name := "<init>", desc := "()V" } : Jvm.MethodName)) := own_wd 92 rfl
theorem wd_93 : WD (Jvm.Cond.instanceMethod ({ cls := "java/lang/Record", name := "<init>", desc := "()V" } : Jvm.MethodName)) := own_wd 93 rfl
theorem wd_95 : WD (Jvm.Cond.initialized "java/lang/Record") := own_wd 95 rfl
theorem wd_96 : WD (Jvm.Cond.code ({ cls := "java/lang/Record", name := "<init>", desc := "()V" } : Jvm.MethodName) jdk_30_method_1_code (1 : Nat) (Option.none : Option Jvm.ClassFile.FieldType)) := own_wd 96 rfl
theorem wd_97 : WD (Jvm.Cond.methodLink "java/lang/Record" (1 : Nat) ({ cls := kc0, name := "<init>", desc := "()V" } : Jvm.MethodName)) := own_wd 97 rfl
theorem wd_98 : WD (Jvm.Cond.methodLink kc6 (7 : Nat) ({ cls := "java/util/List", name := "copyOf", desc := "(Ljava/util/Collection;)Ljava/util/List;" } : Jvm.MethodName)) := own_wd 98 rfl
theorem wd_99 : WD (Jvm.Cond.static ({ cls := "java/util/List", name := "copyOf", desc := "(Ljava/util/Collection;)Ljava/util/List;" } : Jvm.MethodName)) := own_wd 99 rfl
theorem wd_100 : WD (Jvm.Cond.initialized "java/util/List") := own_wd 100 rfl
theorem wd_101 : WD (Jvm.Cond.code ({ cls := "java/util/List", name := "copyOf", desc := "(Ljava/util/Collection;)Ljava/util/List;" } : Jvm.MethodName) jdk_40_method_48_code (1 : Nat) (Option.some (Jvm.ClassFile.FieldType.object "java/util/List"))) := own_wd 101 rfl
theorem wd_102 : WD (Jvm.Cond.methodLink "java/util/List" (112 : Nat) ({ cls := kc7, name := "listCopy", desc := "(Ljava/util/Collection;)Ljava/util/List;" } : Jvm.MethodName)) := own_wd 102 rfl
theorem wd_103 : WD (Jvm.Cond.static ({ cls := kc7, name := "listCopy", desc := "(Ljava/util/Collection;)Ljava/util/List;" } : Jvm.MethodName)) := own_wd 103 rfl
theorem wd_104 : WD (Jvm.Cond.initialized kc7) := own_wd 104 rfl
theorem wd_105 : WD (Jvm.Cond.code ({ cls := kc7, name := "listCopy", desc := "(Ljava/util/Collection;)Ljava/util/List;" } : Jvm.MethodName) jdk_56_method_3_code (2 : Nat) (Option.some (Jvm.ClassFile.FieldType.object "java/util/List"))) := own_wd 105 rfl
theorem wd_106 : WD (Jvm.Cond.classLink kc7 (10 : Nat) kc3) := own_wd 106 rfl
theorem wd_107 : WD (Jvm.Cond.superclass kc1 kc5) := own_wd 107 rfl
theorem wd_108 : WD (Jvm.Cond.superclass kc5 "java/util/AbstractCollection") := own_wd 108 rfl
theorem wd_109 : WD (Jvm.Cond.superclass "java/util/AbstractCollection" kc0) := own_wd 109 rfl
theorem wd_110 : WD (Jvm.Cond.noSuperclass kc0) := own_wd 110 rfl
theorem wd_111 : WD (Jvm.Cond.classLink kc7 (12 : Nat) kc4) := own_wd 111 rfl
theorem wd_112 : WD (Jvm.Cond.methodLink kc7 (20 : Nat) ({ cls := "java/util/Collection", name := "isEmpty", desc := "()Z" } : Jvm.MethodName)) := own_wd 112 rfl
theorem wd_113 : WD (Jvm.Cond.declares ({ cls := "java/util/Collection", name := "isEmpty", desc := "()Z" } : Jvm.MethodName)) := own_wd 113 rfl
theorem wd_114 : WD (Jvm.Cond.interfaceMethod "java/util/Collection" "java/util/Collection" "isEmpty" "()Z") := own_wd 114 rfl
theorem wd_115 : WD (Jvm.Cond.selects kc1 ({ cls := "java/util/Collection", name := "isEmpty", desc := "()Z" } : Jvm.MethodName) ({ cls := kc1, name := "isEmpty", desc := "()Z" } : Jvm.MethodName)) := own_wd 115 rfl
theorem wd_116 : WD (Jvm.Cond.instanceMethod ({ cls := kc1, name := "isEmpty", desc := "()Z" } : Jvm.MethodName)) := own_wd 116 rfl
theorem wd_117 : WD (Jvm.Cond.publicMethod ({ cls := kc1, name := "isEmpty", desc := "()Z" } : Jvm.MethodName)) := own_wd 117 rfl
theorem wd_118 : WD (Jvm.Cond.unhidden kc1 "isEmpty" "()Z") := own_wd 118 rfl
theorem wd_119 : WD (Jvm.Cond.castable kc1 "java/util/Collection") := own_wd 119 rfl
theorem wd_120 : WD (Jvm.Cond.code ({ cls := kc1, name := "isEmpty", desc := "()Z" } : Jvm.MethodName) jdk_38_method_9_code (1 : Nat) (Option.some Jvm.ClassFile.FieldType.boolean)) := own_wd 120 rfl
theorem wd_121 : WD (Jvm.Cond.methodLink kc7 (30 : Nat) ({ cls := "java/util/Collection", name := "toArray", desc := "()[Ljava/lang/Object;" } : Jvm.MethodName)) := own_wd 121 rfl
theorem wd_122 : WD (Jvm.Cond.declares ({ cls := "java/util/Collection", name := "toArray", desc := "()[Ljava/lang/Object;" } : Jvm.MethodName)) := own_wd 122 rfl
theorem wd_123 : WD (Jvm.Cond.interfaceMethod "java/util/Collection" "java/util/Collection" "toArray" "()[Ljava/lang/Object;") := own_wd 123 rfl
theorem wd_124 : WD (Jvm.Cond.selects kc1 ({ cls := "java/util/Collection", name := "toArray", desc := "()[Ljava/lang/Object;" } : Jvm.MethodName) ({ cls := kc1, name := "toArray", desc := "()[Ljava/lang/Object;" } : Jvm.MethodName)) := own_wd 124 rfl
theorem wd_125 : WD (Jvm.Cond.instanceMethod ({ cls := kc1, name := "toArray", desc := "()[Ljava/lang/Object;" } : Jvm.MethodName)) := own_wd 125 rfl
theorem wd_126 : WD (Jvm.Cond.publicMethod ({ cls := kc1, name := "toArray", desc := "()[Ljava/lang/Object;" } : Jvm.MethodName)) := own_wd 126 rfl
theorem wd_127 : WD (Jvm.Cond.unhidden kc1 "toArray" "()[Ljava/lang/Object;") := own_wd 127 rfl
theorem wd_128 : WD (Jvm.Cond.code ({ cls := kc1, name := "toArray", desc := "()[Ljava/lang/Object;" } : Jvm.MethodName) jdk_38_method_16_code (1 : Nat) (Option.some (Jvm.ClassFile.FieldType.array (Jvm.ClassFile.FieldType.object kc0)))) := own_wd 128 rfl
theorem wd_129 : WD (Jvm.Cond.methodLink kc1 (66 : Nat) ({ cls := "java/util/Arrays", name := "copyOf", desc := "([Ljava/lang/Object;I)[Ljava/lang/Object;" } : Jvm.MethodName)) := own_wd 129 rfl
theorem wd_130 : WD (Jvm.Cond.static ({ cls := "java/util/Arrays", name := "copyOf", desc := "([Ljava/lang/Object;I)[Ljava/lang/Object;" } : Jvm.MethodName)) := own_wd 130 rfl
theorem wd_131 : WD (Jvm.Cond.initialized "java/util/Arrays") := own_wd 131 rfl
theorem wd_132 : WD (Jvm.Cond.code ({ cls := "java/util/Arrays", name := "copyOf", desc := "([Ljava/lang/Object;I)[Ljava/lang/Object;" } : Jvm.MethodName) jdk_65_method_119_code (2 : Nat) (Option.some (Jvm.ClassFile.FieldType.array (Jvm.ClassFile.FieldType.object kc0)))) := own_wd 132 rfl
theorem wd_133 : WD (Jvm.Cond.methodLink "java/util/Arrays" (86 : Nat) ({ cls := kc0, name := "getClass", desc := "()Ljava/lang/Class;" } : Jvm.MethodName)) := own_wd 133 rfl
theorem wd_134 : WD (Jvm.Cond.declares ({ cls := kc0, name := "getClass", desc := "()Ljava/lang/Class;" } : Jvm.MethodName)) := own_wd 134 rfl
theorem wd_135 : WD (Jvm.Cond.instanceMethod ({ cls := kc0, name := "getClass", desc := "()Ljava/lang/Class;" } : Jvm.MethodName)) := own_wd 135 rfl
theorem wd_136 : WD (Jvm.Cond.selects "[Ljava/lang/Object;" ({ cls := kc0, name := "getClass", desc := "()Ljava/lang/Class;" } : Jvm.MethodName) ({ cls := kc0, name := "getClass", desc := "()Ljava/lang/Class;" } : Jvm.MethodName)) := own_wd 136 rfl
theorem wd_137 : WD (Jvm.Cond.native ({ cls := kc0, name := "getClass", desc := "()Ljava/lang/Class;" } : Jvm.MethodName)) := own_wd 137 rfl
theorem wd_139 : WD (Jvm.Cond.methodLink "java/util/Arrays" (300 : Nat) ({ cls := "java/util/Arrays", name := "copyOf", desc := "([Ljava/lang/Object;ILjava/lang/Class;)[Ljava/lang/Object;" } : Jvm.MethodName)) := own_wd 139 rfl
theorem wd_140 : WD (Jvm.Cond.static ({ cls := "java/util/Arrays", name := "copyOf", desc := "([Ljava/lang/Object;ILjava/lang/Class;)[Ljava/lang/Object;" } : Jvm.MethodName)) := own_wd 140 rfl
theorem wd_141 : WD (Jvm.Cond.code ({ cls := "java/util/Arrays", name := "copyOf", desc := "([Ljava/lang/Object;ILjava/lang/Class;)[Ljava/lang/Object;" } : Jvm.MethodName) jdk_65_method_120_code (4 : Nat) (Option.some (Jvm.ClassFile.FieldType.array (Jvm.ClassFile.FieldType.object kc0)))) := own_wd 141 rfl
theorem wd_142 : WD (Jvm.Cond.classLink "java/util/Arrays" (110 : Nat) "[Ljava/lang/Object;") := own_wd 142 rfl
theorem wd_143 : WD (Jvm.Cond.classLink "java/util/Arrays" (2 : Nat) kc0) := own_wd 143 rfl
theorem wd_144 : WD (Jvm.Cond.methodLink "java/util/Arrays" (304 : Nat) ({ cls := "java/lang/Math", name := "min", desc := "(II)I" } : Jvm.MethodName)) := own_wd 144 rfl
theorem wd_145 : WD (Jvm.Cond.static ({ cls := "java/lang/Math", name := "min", desc := "(II)I" } : Jvm.MethodName)) := own_wd 145 rfl
theorem wd_146 : WD (Jvm.Cond.code ({ cls := "java/lang/Math", name := "min", desc := "(II)I" } : Jvm.MethodName) jdk_29_method_69_code (2 : Nat) (Option.some Jvm.ClassFile.FieldType.int)) := own_wd 146 rfl
theorem wd_147 : WD (Jvm.Cond.methodLink "java/util/Arrays" (150 : Nat) ({ cls := "java/lang/System", name := "arraycopy", desc := "(Ljava/lang/Object;ILjava/lang/Object;II)V" } : Jvm.MethodName)) := own_wd 147 rfl
theorem wd_148 : WD (Jvm.Cond.static ({ cls := "java/lang/System", name := "arraycopy", desc := "(Ljava/lang/Object;ILjava/lang/Object;II)V" } : Jvm.MethodName)) := own_wd 148 rfl
theorem wd_149 : WD (Jvm.Cond.initialized "java/lang/System") := own_wd 149 rfl
theorem wd_150 : WD (Jvm.Cond.native ({ cls := "java/lang/System", name := "arraycopy", desc := "(Ljava/lang/Object;ILjava/lang/Object;II)V" } : Jvm.MethodName)) := own_wd 150 rfl
theorem wd_151 : WD (Jvm.Cond.methodLink kc7 (34 : Nat) ({ cls := "java/util/List", name := "of", desc := "([Ljava/lang/Object;)Ljava/util/List;" } : Jvm.MethodName)) := own_wd 151 rfl
theorem wd_152 : WD (Jvm.Cond.static ({ cls := "java/util/List", name := "of", desc := "([Ljava/lang/Object;)Ljava/util/List;" } : Jvm.MethodName)) := own_wd 152 rfl
theorem wd_153 : WD (Jvm.Cond.code ({ cls := "java/util/List", name := "of", desc := "([Ljava/lang/Object;)Ljava/util/List;" } : Jvm.MethodName) jdk_40_method_47_code (2 : Nat) (Option.some (Jvm.ClassFile.FieldType.object "java/util/List"))) := own_wd 153 rfl
theorem wd_154 : WD (Jvm.Cond.classLink "java/util/List" (96 : Nat) kc3) := own_wd 154 rfl
theorem wd_155 : WD (Jvm.Cond.instantiable kc3 (2 : Nat)) := own_wd 155 rfl
theorem wd_156 : WD (Jvm.Cond.initialized kc3) := own_wd 156 rfl
theorem wd_157 : WD (Jvm.Cond.methodLink "java/util/List" (98 : Nat) ({ cls := kc3, name := "<init>", desc := "(Ljava/lang/Object;)V" } : Jvm.MethodName)) := own_wd 157 rfl
theorem wd_158 : WD (Jvm.Cond.instanceMethod ({ cls := kc3, name := "<init>", desc := "(Ljava/lang/Object;)V" } : Jvm.MethodName)) := own_wd 158 rfl
theorem wd_160 : WD (Jvm.Cond.code ({ cls := kc3, name := "<init>", desc := "(Ljava/lang/Object;)V" } : Jvm.MethodName) jdk_44_method_1_code (2 : Nat) (Option.none : Option Jvm.ClassFile.FieldType)) := own_wd 160 rfl
theorem wd_161 : WD (Jvm.Cond.methodLink kc3 (1 : Nat) ({ cls := "java/util/ImmutableCollections$AbstractImmutableList", name := "<init>", desc := "()V" } : Jvm.MethodName)) := own_wd 161 rfl
theorem wd_162 : WD (Jvm.Cond.instanceMethod ({ cls := "java/util/ImmutableCollections$AbstractImmutableList", name := "<init>", desc := "()V" } : Jvm.MethodName)) := own_wd 162 rfl
theorem wd_165 : WD (Jvm.Cond.initialized "java/util/ImmutableCollections$AbstractImmutableList") := own_wd 165 rfl
theorem wd_166 : WD (Jvm.Cond.code ({ cls := "java/util/ImmutableCollections$AbstractImmutableList", name := "<init>", desc := "()V" } : Jvm.MethodName) jdk_46_method_1_code (1 : Nat) (Option.none : Option Jvm.ClassFile.FieldType)) := own_wd 166 rfl
theorem wd_167 : WD (Jvm.Cond.methodLink "java/util/ImmutableCollections$AbstractImmutableList" (1 : Nat) ({ cls := "java/util/ImmutableCollections$AbstractImmutableCollection", name := "<init>", desc := "()V" } : Jvm.MethodName)) := own_wd 167 rfl
theorem wd_168 : WD (Jvm.Cond.instanceMethod ({ cls := "java/util/ImmutableCollections$AbstractImmutableCollection", name := "<init>", desc := "()V" } : Jvm.MethodName)) := own_wd 168 rfl
theorem wd_171 : WD (Jvm.Cond.initialized "java/util/ImmutableCollections$AbstractImmutableCollection") := own_wd 171 rfl
theorem wd_172 : WD (Jvm.Cond.code ({ cls := "java/util/ImmutableCollections$AbstractImmutableCollection", name := "<init>", desc := "()V" } : Jvm.MethodName) jdk_47_method_1_code (1 : Nat) (Option.none : Option Jvm.ClassFile.FieldType)) := own_wd 172 rfl
theorem wd_173 : WD (Jvm.Cond.methodLink "java/util/ImmutableCollections$AbstractImmutableCollection" (1 : Nat) ({ cls := "java/util/AbstractCollection", name := "<init>", desc := "()V" } : Jvm.MethodName)) := own_wd 173 rfl
theorem wd_175 : WD (Jvm.Cond.methodLink kc3 (7 : Nat) ({ cls := "java/util/Objects", name := "requireNonNull", desc := "(Ljava/lang/Object;)Ljava/lang/Object;" } : Jvm.MethodName)) := own_wd 175 rfl
theorem wd_176 : WD (Jvm.Cond.static ({ cls := "java/util/Objects", name := "requireNonNull", desc := "(Ljava/lang/Object;)Ljava/lang/Object;" } : Jvm.MethodName)) := own_wd 176 rfl
theorem wd_177 : WD (Jvm.Cond.initialized "java/util/Objects") := own_wd 177 rfl
theorem wd_178 : WD (Jvm.Cond.code ({ cls := "java/util/Objects", name := "requireNonNull", desc := "(Ljava/lang/Object;)Ljava/lang/Object;" } : Jvm.MethodName) jdk_31_method_10_code (1 : Nat) (Option.some (Jvm.ClassFile.FieldType.object kc0))) := own_wd 178 rfl
theorem wd_179 : WD (Jvm.Cond.fieldLink kc3 (13 : Nat) kc3 "e0" "Ljava/lang/Object;") := own_wd 179 rfl
theorem wd_180 : WD (Jvm.Cond.laysFinal kc3 kc3 "e0" "Ljava/lang/Object;") := own_wd 180 rfl
theorem wd_181 : WD (Jvm.Cond.fieldLinkNest kc3 (19 : Nat) kc7 "EMPTY" "Ljava/lang/Object;" kc7) := own_wd 181 rfl
theorem wd_182 : WD (Jvm.Cond.fieldLink kc3 (24 : Nat) kc3 "e1" "Ljava/lang/Object;") := own_wd 182 rfl
theorem wd_183 : WD (Jvm.Cond.laysFinal kc3 kc3 "e1" "Ljava/lang/Object;") := own_wd 183 rfl
theorem wd_184 : WD (Jvm.Cond.fieldLink kc6 (13 : Nat) kc6 "parts" "Ljava/util/List;") := own_wd 184 rfl
theorem wd_185 : WD (Jvm.Cond.laysFinal kc6 kc6 "parts" "Ljava/util/List;") := own_wd 185 rfl
theorem wd_186 : WD (Jvm.Cond.methodLink "com/example/indexwright/indexwright/TomlKeyLinesKeyNamePinLaw" (37 : Nat) ({ cls := kc6, name := "name", desc := "()Ljava/lang/String;" } : Jvm.MethodName)) := own_wd 186 rfl
theorem wd_187 : WD (Jvm.Cond.declares ({ cls := kc6, name := "name", desc := "()Ljava/lang/String;" } : Jvm.MethodName)) := own_wd 187 rfl
theorem wd_188 : WD (Jvm.Cond.instanceMethod ({ cls := kc6, name := "name", desc := "()Ljava/lang/String;" } : Jvm.MethodName)) := own_wd 188 rfl
theorem wd_189 : WD (Jvm.Cond.selects kc6 ({ cls := kc6, name := "name", desc := "()Ljava/lang/String;" } : Jvm.MethodName) ({ cls := kc6, name := "name", desc := "()Ljava/lang/String;" } : Jvm.MethodName)) := own_wd 189 rfl
theorem wd_190 : WD (Jvm.Cond.code ({ cls := kc6, name := "name", desc := "()Ljava/lang/String;" } : Jvm.MethodName) prog_12_method_6_code (1 : Nat) (Option.some (Jvm.ClassFile.FieldType.object kc2))) := own_wd 190 rfl
theorem wd_191 : WD (Jvm.Cond.methodLink kc6 (43 : Nat) ({ cls := "java/util/List", name := "size", desc := "()I" } : Jvm.MethodName)) := own_wd 191 rfl
theorem wd_192 : WD (Jvm.Cond.declares ({ cls := "java/util/List", name := "size", desc := "()I" } : Jvm.MethodName)) := own_wd 192 rfl
theorem wd_193 : WD (Jvm.Cond.interfaceMethod "java/util/List" "java/util/List" "size" "()I") := own_wd 193 rfl
theorem wd_194 : WD (Jvm.Cond.selects kc3 ({ cls := "java/util/List", name := "size", desc := "()I" } : Jvm.MethodName) ({ cls := kc3, name := "size", desc := "()I" } : Jvm.MethodName)) := own_wd 194 rfl
theorem wd_195 : WD (Jvm.Cond.instanceMethod ({ cls := kc3, name := "size", desc := "()I" } : Jvm.MethodName)) := own_wd 195 rfl
theorem wd_196 : WD (Jvm.Cond.publicMethod ({ cls := kc3, name := "size", desc := "()I" } : Jvm.MethodName)) := own_wd 196 rfl
theorem wd_197 : WD (Jvm.Cond.unhidden kc3 "size" "()I") := own_wd 197 rfl
theorem wd_198 : WD (Jvm.Cond.castable kc3 "java/util/List") := own_wd 198 rfl
theorem wd_199 : WD (Jvm.Cond.code ({ cls := kc3, name := "size", desc := "()I" } : Jvm.MethodName) jdk_44_method_3_code (1 : Nat) (Option.some Jvm.ClassFile.FieldType.int)) := own_wd 199 rfl
theorem wd_200 : WD (Jvm.Cond.methodLink kc6 (57 : Nat) ({ cls := "java/util/List", name := "get", desc := "(I)Ljava/lang/Object;" } : Jvm.MethodName)) := own_wd 200 rfl
theorem wd_201 : WD (Jvm.Cond.declares ({ cls := "java/util/List", name := "get", desc := "(I)Ljava/lang/Object;" } : Jvm.MethodName)) := own_wd 201 rfl
theorem wd_202 : WD (Jvm.Cond.interfaceMethod "java/util/List" "java/util/List" "get" "(I)Ljava/lang/Object;") := own_wd 202 rfl
theorem wd_203 : WD (Jvm.Cond.selects kc3 ({ cls := "java/util/List", name := "get", desc := "(I)Ljava/lang/Object;" } : Jvm.MethodName) ({ cls := kc3, name := "get", desc := "(I)Ljava/lang/Object;" } : Jvm.MethodName)) := own_wd 203 rfl
theorem wd_204 : WD (Jvm.Cond.instanceMethod ({ cls := kc3, name := "get", desc := "(I)Ljava/lang/Object;" } : Jvm.MethodName)) := own_wd 204 rfl
theorem wd_205 : WD (Jvm.Cond.publicMethod ({ cls := kc3, name := "get", desc := "(I)Ljava/lang/Object;" } : Jvm.MethodName)) := own_wd 205 rfl
theorem wd_206 : WD (Jvm.Cond.unhidden kc3 "get" "(I)Ljava/lang/Object;") := own_wd 206 rfl
theorem wd_207 : WD (Jvm.Cond.code ({ cls := kc3, name := "get", desc := "(I)Ljava/lang/Object;" } : Jvm.MethodName) jdk_44_method_5_code (2 : Nat) (Option.some (Jvm.ClassFile.FieldType.object kc0))) := own_wd 207 rfl
theorem wd_208 : WD (Jvm.Cond.classLink kc6 (61 : Nat) kc2) := own_wd 208 rfl
theorem wd_209 : WD (Jvm.Cond.methodLink "com/example/indexwright/indexwright/TomlKeyLinesKeyNamePinLaw" (41 : Nat) ({ cls := kc2, name := "equals", desc := "(Ljava/lang/Object;)Z" } : Jvm.MethodName)) := own_wd 209 rfl
theorem wd_210 : WD (Jvm.Cond.declares ({ cls := kc2, name := "equals", desc := "(Ljava/lang/Object;)Z" } : Jvm.MethodName)) := own_wd 210 rfl
theorem wd_211 : WD (Jvm.Cond.instanceMethod ({ cls := kc2, name := "equals", desc := "(Ljava/lang/Object;)Z" } : Jvm.MethodName)) := own_wd 211 rfl
theorem wd_212 : WD (Jvm.Cond.selects kc2 ({ cls := kc2, name := "equals", desc := "(Ljava/lang/Object;)Z" } : Jvm.MethodName) ({ cls := kc2, name := "equals", desc := "(Ljava/lang/Object;)Z" } : Jvm.MethodName)) := own_wd 212 rfl
theorem wd_213 : WD (Jvm.Cond.code ({ cls := kc2, name := "equals", desc := "(Ljava/lang/Object;)Z" } : Jvm.MethodName) jdk_42_method_66_code (3 : Nat) (Option.some Jvm.ClassFile.FieldType.boolean)) := own_wd 213 rfl
theorem wd_214 : WD (Jvm.Cond.methodLink "java/util/List" (100 : Nat) ({ cls := kc3, name := "<init>", desc := "(Ljava/lang/Object;Ljava/lang/Object;)V" } : Jvm.MethodName)) := own_wd 214 rfl
theorem wd_215 : WD (Jvm.Cond.instanceMethod ({ cls := kc3, name := "<init>", desc := "(Ljava/lang/Object;Ljava/lang/Object;)V" } : Jvm.MethodName)) := own_wd 215 rfl
theorem wd_216 : WD (Jvm.Cond.code ({ cls := kc3, name := "<init>", desc := "(Ljava/lang/Object;Ljava/lang/Object;)V" } : Jvm.MethodName) jdk_44_method_2_code (3 : Nat) (Option.none : Option Jvm.ClassFile.FieldType)) := own_wd 216 rfl
theorem wd_217 : WD (Jvm.Cond.methodLink "com/example/indexwright/indexwright/TomlKeyLinesKeyNamePinLaw" (12 : Nat) ({ cls := kc2, name := "valueOf", desc := "(C)Ljava/lang/String;" } : Jvm.MethodName)) := own_wd 217 rfl
theorem wd_218 : WD (Jvm.Cond.static ({ cls := kc2, name := "valueOf", desc := "(C)Ljava/lang/String;" } : Jvm.MethodName)) := own_wd 218 rfl
theorem wd_219 : WD (Jvm.Cond.code ({ cls := kc2, name := "valueOf", desc := "(C)Ljava/lang/String;" } : Jvm.MethodName) jdk_42_method_139_code (1 : Nat) (Option.some (Jvm.ClassFile.FieldType.object kc2))) := own_wd 219 rfl
theorem wd_220 : WD (Jvm.Cond.fieldLink kc2 (38 : Nat) kc2 "COMPACT_STRINGS" "Z") := own_wd 220 rfl
theorem wd_221 : WD (Jvm.Cond.methodLink kc2 (1015 : Nat) ({ cls := "java/lang/StringLatin1", name := "canEncode", desc := "(C)Z" } : Jvm.MethodName)) := own_wd 221 rfl
theorem wd_222 : WD (Jvm.Cond.static ({ cls := "java/lang/StringLatin1", name := "canEncode", desc := "(C)Z" } : Jvm.MethodName)) := own_wd 222 rfl
theorem wd_223 : WD (Jvm.Cond.initialized "java/lang/StringLatin1") := own_wd 223 rfl
theorem wd_224 : WD (Jvm.Cond.code ({ cls := "java/lang/StringLatin1", name := "canEncode", desc := "(C)Z" } : Jvm.MethodName) jdk_43_method_3_code (1 : Nat) (Option.some Jvm.ClassFile.FieldType.boolean)) := own_wd 224 rfl
theorem wd_225 : WD (Jvm.Cond.classLink kc2 (10 : Nat) kc2) := own_wd 225 rfl
theorem wd_226 : WD (Jvm.Cond.methodLink kc2 (1018 : Nat) ({ cls := "java/lang/StringLatin1", name := "toBytes", desc := "(C)[B" } : Jvm.MethodName)) := own_wd 226 rfl
theorem wd_227 : WD (Jvm.Cond.static ({ cls := "java/lang/StringLatin1", name := "toBytes", desc := "(C)[B" } : Jvm.MethodName)) := own_wd 227 rfl
theorem wd_228 : WD (Jvm.Cond.code ({ cls := "java/lang/StringLatin1", name := "toBytes", desc := "(C)[B" } : Jvm.MethodName) jdk_43_method_46_code (1 : Nat) (Option.some (Jvm.ClassFile.FieldType.array Jvm.ClassFile.FieldType.byte))) := own_wd 228 rfl
theorem wd_229 : WD (Jvm.Cond.methodLink kc2 (209 : Nat) ({ cls := kc2, name := "<init>", desc := "([BB)V" } : Jvm.MethodName)) := own_wd 229 rfl
theorem wd_230 : WD (Jvm.Cond.instanceMethod ({ cls := kc2, name := "<init>", desc := "([BB)V" } : Jvm.MethodName)) := own_wd 230 rfl
theorem wd_231 : WD (Jvm.Cond.code ({ cls := kc2, name := "<init>", desc := "([BB)V" } : Jvm.MethodName) jdk_42_method_151_code (3 : Nat) (Option.none : Option Jvm.ClassFile.FieldType)) := own_wd 231 rfl
theorem wd_242 : WD (Jvm.Cond.methodLink "java/util/List" (109 : Nat) ({ cls := kc7, name := "listFromArray", desc := "([Ljava/lang/Object;)Ljava/util/List;" } : Jvm.MethodName)) := own_wd 242 rfl
theorem wd_243 : WD (Jvm.Cond.static ({ cls := kc7, name := "listFromArray", desc := "([Ljava/lang/Object;)Ljava/util/List;" } : Jvm.MethodName)) := own_wd 243 rfl
theorem wd_244 : WD (Jvm.Cond.code ({ cls := kc7, name := "listFromArray", desc := "([Ljava/lang/Object;)Ljava/util/List;" } : Jvm.MethodName) jdk_56_method_4_code (3 : Nat) (Option.some (Jvm.ClassFile.FieldType.object "java/util/List"))) := own_wd 244 rfl
theorem wd_245 : WD (Jvm.Cond.classLink kc7 (2 : Nat) kc0) := own_wd 245 rfl
theorem wd_246 : WD (Jvm.Cond.methodLink kc7 (37 : Nat) ({ cls := "java/util/Objects", name := "requireNonNull", desc := "(Ljava/lang/Object;)Ljava/lang/Object;" } : Jvm.MethodName)) := own_wd 246 rfl
theorem wd_247 : WD (Jvm.Cond.instantiable kc4 (2 : Nat)) := own_wd 247 rfl
theorem wd_248 : WD (Jvm.Cond.initialized kc4) := own_wd 248 rfl
theorem wd_249 : WD (Jvm.Cond.methodLinkNest kc7 (43 : Nat) ({ cls := kc4, name := "<init>", desc := "([Ljava/lang/Object;Z)V" } : Jvm.MethodName) kc7) := own_wd 249 rfl
theorem wd_250 : WD (Jvm.Cond.instanceMethod ({ cls := kc4, name := "<init>", desc := "([Ljava/lang/Object;Z)V" } : Jvm.MethodName)) := own_wd 250 rfl
theorem wd_252 : WD (Jvm.Cond.code ({ cls := kc4, name := "<init>", desc := "([Ljava/lang/Object;Z)V" } : Jvm.MethodName) jdk_45_method_1_code (3 : Nat) (Option.none : Option Jvm.ClassFile.FieldType)) := own_wd 252 rfl
theorem wd_253 : WD (Jvm.Cond.methodLink kc4 (1 : Nat) ({ cls := "java/util/ImmutableCollections$AbstractImmutableList", name := "<init>", desc := "()V" } : Jvm.MethodName)) := own_wd 253 rfl
theorem wd_257 : WD (Jvm.Cond.fieldLink kc4 (7 : Nat) kc4 "elements" "[Ljava/lang/Object;") := own_wd 257 rfl
theorem wd_258 : WD (Jvm.Cond.laysFinal kc4 kc4 "elements" "[Ljava/lang/Object;") := own_wd 258 rfl
theorem wd_259 : WD (Jvm.Cond.fieldLink kc4 (13 : Nat) kc4 "allowNulls" "Z") := own_wd 259 rfl
theorem wd_260 : WD (Jvm.Cond.laysFinal kc4 kc4 "allowNulls" "Z") := own_wd 260 rfl
theorem wd_261 : WD (Jvm.Cond.selects kc4 ({ cls := "java/util/List", name := "size", desc := "()I" } : Jvm.MethodName) ({ cls := kc4, name := "size", desc := "()I" } : Jvm.MethodName)) := own_wd 261 rfl
theorem wd_262 : WD (Jvm.Cond.instanceMethod ({ cls := kc4, name := "size", desc := "()I" } : Jvm.MethodName)) := own_wd 262 rfl
theorem wd_263 : WD (Jvm.Cond.publicMethod ({ cls := kc4, name := "size", desc := "()I" } : Jvm.MethodName)) := own_wd 263 rfl
theorem wd_264 : WD (Jvm.Cond.unhidden kc4 "size" "()I") := own_wd 264 rfl
theorem wd_265 : WD (Jvm.Cond.castable kc4 "java/util/List") := own_wd 265 rfl
theorem wd_266 : WD (Jvm.Cond.code ({ cls := kc4, name := "size", desc := "()I" } : Jvm.MethodName) jdk_45_method_3_code (1 : Nat) (Option.some Jvm.ClassFile.FieldType.int)) := own_wd 266 rfl
theorem wd_267 : WD (Jvm.Cond.selects kc4 ({ cls := "java/util/List", name := "get", desc := "(I)Ljava/lang/Object;" } : Jvm.MethodName) ({ cls := kc4, name := "get", desc := "(I)Ljava/lang/Object;" } : Jvm.MethodName)) := own_wd 267 rfl
theorem wd_268 : WD (Jvm.Cond.instanceMethod ({ cls := kc4, name := "get", desc := "(I)Ljava/lang/Object;" } : Jvm.MethodName)) := own_wd 268 rfl
theorem wd_269 : WD (Jvm.Cond.publicMethod ({ cls := kc4, name := "get", desc := "(I)Ljava/lang/Object;" } : Jvm.MethodName)) := own_wd 269 rfl
theorem wd_270 : WD (Jvm.Cond.unhidden kc4 "get" "(I)Ljava/lang/Object;") := own_wd 270 rfl
theorem wd_271 : WD (Jvm.Cond.code ({ cls := kc4, name := "get", desc := "(I)Ljava/lang/Object;" } : Jvm.MethodName) jdk_45_method_4_code (2 : Nat) (Option.some (Jvm.ClassFile.FieldType.object kc0))) := own_wd 271 rfl
theorem own_EW {Z : State} {a0 : Array Value} (hw : ∀ d ∈ tables_1, d.before a0 Z = true) : EW Z a0 EL := (EW.cons (wd_19 hw) (by decide +kernel) EW.nil)
theorem own_wS {Z : State} {a0 : Array Value} (hw : ∀ d ∈ tables_1, d.before a0 Z = true) : ∀ d ∈ Bundle.stringAtoms, d.before a0 Z = true := fun d hd => hw d ((by decide +kernel : ∀ d ∈ Bundle.stringAtoms, d ∈ tables_1) d hd)
theorem ef_m3_6 (m : MethodId) (a0 : Addr) (a1 : Addr)  : entryFrame m #[(.ref a0), (.ref a1), (.int (0 : Int32)), (.int (0 : Int32)), .null] 6 = mkF m 0 #[.val (.ref a0), .val (.ref a1), .val (.int (0 : Int32)), .val (.int (0 : Int32)), .val .null, .unset] [] := by first | (simp [entryFrame, mkF, argsToLocals, Value.category]; done) | rfl
def Q_m3_6 (Z : State) (a0 : Addr) (a1 : Addr) (h0 : Heap) (n0 : Nat) (v : Option Value) (h : Heap) (L : List Loc) (S : Addr → Prop) : Prop := ∃ (r0 : Addr) (c0 : ClassId), v = none ∧ Fr n0 L ∧ Keep h0 h [a0] ∧ Arv Z h r0 c0 .byte (0 : Int32) [] (.int (0 : Int32)) ∧ Exa Z h a0 kc2 ∧ Fld Z h a0 kc2 "value" "[B" (.ref r0) ∧ Fld Z h a0 kc2 "coder" "B" (.int (0 : Int32))
theorem rm_m3_6 (l : Launch) (Z : State) (aZ : Array Value) (hw : ∀ d ∈ tables_1, d.before aZ Z = true) (ws : List Jvm.Cond) (a0 : Addr) (a1 : Addr) (h0 : Heap) (n0 : Nat) (Z0 : n0 ≤ h0.size) (E_a0 : Exa Z h0 a0 kc2) (zz0 : Fld Z h0 a0 kc2 "value" "[B" .null) (zz1 : n0 ≤ a0) (zz2 : Fld Z h0 a0 kc2 "coder" "B" (.int (0 : Int32))) :
    MetH l Z EL yn_3 jdk_42_method_149_code 6 none ws ({ frames := 1, cells := 4, slots := 8, locals := 12 } : Room) #[(.ref a0), (.ref a1), (.int (0 : Int32)), (.int (0 : Int32)), .null] h0 (Q_m3_6 Z a0 a1 h0 n0) [a0] := by
 refine MetH.of (plainFor_of_name pn_0) ?_
 intro p e s m below meth c s₁ hret hx hby hml hown hnm hlk hZ X0 e0 hh hH hsf hS0 C0
 have N0 := Fr.nil n0
 rw [ef_m3_6 m a0 a1]
 refine w_aloadN X0 hx (d3_0 hby) rfl rfl (pc' := 1) rfl ?_
 refine w_initO X0 hx 0 hZ hown (wd_16 hw) (wd_17 hw) (wd_18 hw) e0 (by rw [hml]; rfl) (d3_1 hby) (by decide) (Nat.le_of_eq rfl) (by decide) (pc' := 4) rfl ?_
 intro T20 X20 e20
 refine w_iloadN X20 hx (d3_4 hby) rfl (pc' := 5) rfl ?_
 refine w_ifN X20 hx (d3_5 hby) (teq (by decide : (0 : Int32) = (0 : Int32))).2 (pc' := 8) rfl ?_
 refine w_aloadN X20 hx (d3_8 hby) rfl rfl (pc' := 9) rfl ?_
 obtain ⟨a21, T21, h21, k21, b21, c21, X21, e21, E21, hS21, hk21, hZ21, hown21, gE21, gC21, gV21, gA21, lt21, ltb21, A21, -, ns21, st21⟩ := ldcCH X20 hx hZ hown (wd_19 hw) (own_wS hw) e20 hS0 (Nat.le_refl _) (own_EW hw) (by simp [EL]) C0.1 (vs := []) (z := (0 : Int32)) (by decide +kernel) (by decide) (by decide) (g := (mkF m 9 #[.val (.ref a0), .val (.ref a1), .val (.int (0 : Int32)), .val (.int (0 : Int32)), .val .null, .unset] [(.ref a0)])) rfl (d3_9 hby) (n := 0) (by decide +kernel) (by decide) (by decide) (by decide)
 refine Runs.by ?_ st21
 have C22 : CHr Z EL s.vm h0 T21.vm h21 := C0.trans A21
 have K23 : Keep h0 h21 [a0] := (Keep.refl h0 [a0]).ext E21
 show Runs _ _ _ _ (T21.setTop (mkF m 11 #[.val (.ref a0), .val (.ref a1), .val (.int (0 : Int32)), .val (.int (0 : Int32)), .val .null, .unset] [(.ref a21), (.ref a0)]))
 refine w_getF X21 hx "" hZ21 hown21 (Or.inl (wd_25 hw)) Via.refl e21 gV21 (d3_11 hby) (pc' := 14) rfl ?_
 intro T24 X24 e24
 have f25 : Exa Z h21 a0 kc2 := (E_a0.ext E21)
 have f26 : Fld Z h21 a0 kc2 "value" "[B" .null := (zz0.ext E21)
 refine w_putF X24 hx "" hZ21 hown21 (Or.inl (wd_25 hw)) Via.refl e24 f26 f25 (Or.inr ⟨(wd_21 hw), rfl, hnm⟩) (wd_6 hw) (ty := (.array .byte)) (by decide) rfl rfl (d3_14 hby) (pc' := 17) rfl ?_
 intro T27 h27 X27 e27 W27
 have y28 : Safe Z EL T21.vm h21 a0 := (CHr.safe A21 (Nat.lt_of_lt_of_le E_a0.lt (Nat.le_refl _)) (hsf a0 (by simp)))
 have C29 : CHr Z EL s.vm h0 T21.vm h27 := C22.trans (CHr.wr W27 y28 C22.1)
 have f30 : Fld Z h27 a0 kc2 "value" "[B" (.ref b21) := f26.same W27
 have K31 : Keep h0 h27 [a0] := K23.wr W27 (Or.inl (by simp))
 have N32 := Fr.snoc X27 N0 zz1
 refine w_aloadN X27 hx (d3_17 hby) rfl rfl (pc' := 18) rfl ?_
 obtain ⟨a33, T33, h33, k33, b33, c33, X33, e33, E33, hS33, hk33, hZ33, hown33, gE33, gC33, gV33, gA33, lt33, ltb33, A33, -, ns33, st33⟩ := ldcCH X27 hx hZ21 hown21 (wd_19 hw) (own_wS hw) e27 hS21 (Nat.le_trans hk21 (Keep.of_wr W27).1) (own_EW hw) (by simp [EL]) C29.1 (vs := []) (z := (0 : Int32)) (by decide +kernel) (by decide) (by decide) (g := (mkF m 18 #[.val (.ref a0), .val (.ref a1), .val (.int (0 : Int32)), .val (.int (0 : Int32)), .val .null, .unset] [(.ref a0)])) rfl (d3_18 hby) (n := 0) (by decide +kernel) (by decide) (by decide) (by decide)
 refine Runs.by ?_ st33
 have C34 : CHr Z EL s.vm h0 T33.vm h33 := C29.trans A33
 have K35 : Keep h0 h33 [a0] := K31.ext E33
 show Runs _ _ _ _ (T33.setTop (mkF m 20 #[.val (.ref a0), .val (.ref a1), .val (.int (0 : Int32)), .val (.int (0 : Int32)), .val .null, .unset] [(.ref a33), (.ref a0)]))
 refine w_getF X33 hx "" hZ33 hown33 (Or.inl (wd_26 hw)) Via.refl e33 gC33 (d3_20 hby) (pc' := 23) rfl ?_
 intro T36 X36 e36
 have f37 : Exa Z h33 a0 kc2 := ((f25.wr W27).ext E33)
 have f38 : Fld Z h33 a0 kc2 "coder" "B" (.int (0 : Int32)) := (((zz2.ext E21).other W27 (Or.inr (slot_ne (Or.inr (wd_22 hw)) (Or.inr (wd_21 hw)) (by decide) (t := .byte) (t' := (.array .byte)) (by decide) (by decide)))).ext E33)
 refine w_putF X36 hx "" hZ33 hown33 (Or.inl (wd_26 hw)) Via.refl e36 f38 f37 (Or.inr ⟨(wd_22 hw), rfl, hnm⟩) (wd_6 hw) (ty := .byte) (by decide) rfl rfl (d3_23 hby) (pc' := 26) rfl ?_
 intro T39 h39 X39 e39 W39
 have le40 : h0.size ≤ h27.size := (Nat.le_trans E21.1 (Keep.of_wr W27).1)
 have y41 : Safe Z EL T33.vm h33 a0 := (CHr.safe A33 (Nat.lt_of_lt_of_le E_a0.lt le40) (Safe.wr W27 y28 C22.1 y28))
 have C42 : CHr Z EL s.vm h0 T33.vm h39 := C34.trans (CHr.wr W39 y41 C34.1)
 have f43 : Fld Z h39 a0 kc2 "coder" "B" (.int (0 : Int32)) := f38.same W39
 have K44 : Keep h0 h39 [a0] := K35.wr W39 (Or.inl (by simp))
 have N45 := Fr.snoc X39 N32 zz1
 have ne46 : a0 ≠ b21 := (ns21 a0 (CHr.safe A21 (Nat.lt_of_lt_of_le E_a0.lt (Nat.le_refl _)) (hsf a0 (by simp)))).2
 have f47 : Arv Z h39 b21 c21 .byte (0 : Int32) [] (.int (0 : Int32)) := (((gA21.other W27 (Ne.symm ne46)).ext E33).other W39 (Ne.symm ne46))
 have f48 : Exa Z h39 a0 kc2 := (f37.wr W39)
 have f49 : Fld Z h39 a0 kc2 "value" "[B" (.ref b21) := ((f30.ext E33).other W39 (Or.inr (slot_ne (Or.inr (wd_21 hw)) (Or.inr (wd_22 hw)) (by decide) (t := (.array .byte)) (t' := .byte) (by decide) (by decide))))
 exact w_doneH X39 hlk (v := none) e39 hh hZ33 (own_EW hw) hS33 (Nat.le_trans hk33 (Keep.of_wr W39).1) C42 (fun _ => rfl) (fun fs hr => X39.returnOut hx hret (d3_26 hby) hr) (by decide) (by decide) (fun hsy => ⟨b21, c21, rfl, N45, K44, f47, f48, f49, f43⟩)
theorem ef_m2_5 (m : MethodId) (a0 : Addr) (a1 : Addr)  : entryFrame m #[(.ref a0), (.ref a1)] 2 = mkF m 0 #[.val (.ref a0), .val (.ref a1)] [] := by first | (simp [entryFrame, mkF, argsToLocals, Value.category]; done) | rfl
def Q_m2_5 (Z : State) (a0 : Addr) (a1 : Addr) (k_a1 : ClassId) (h0 : Heap) (n0 : Nat) (v : Option Value) (h : Heap) (L : List Loc) (S : Addr → Prop) : Prop := ∃ (r0 : Addr) (c0 : ClassId), v = none ∧ Fr n0 L ∧ Keep h0 h [a0] ∧ Arv Z h r0 c0 .byte (0 : Int32) [] (.int (0 : Int32)) ∧ Exa Z h a0 kc2 ∧ Fld Z h a0 kc2 "value" "[B" (.ref r0) ∧ Fld Z h a0 kc2 "coder" "B" (.int (0 : Int32))
theorem rm_m2_5 (l : Launch) (Z : State) (aZ : Array Value) (hw : ∀ d ∈ tables_1, d.before aZ Z = true) (ws : List Jvm.Cond) (a0 : Addr) (a1 : Addr) (k_a1 : ClassId) (h0 : Heap) (n0 : Nat) (Z0 : n0 ≤ h0.size) (V_a1 : Arv Z h0 a1 k_a1 .char (0 : Int32) [] (.int (0 : Int32))) (E_a0 : Exa Z h0 a0 kc2) (zz0 : Fld Z h0 a0 kc2 "value" "[B" .null) (zz1 : Fld Z h0 a0 kc2 "coder" "B" (.int (0 : Int32))) (zz2 : n0 ≤ a0) :
    MetH l Z EL yn_2 jdk_42_method_3_code 2 none ws ({ frames := 2, cells := 4, slots := 8, locals := 29 } : Room) #[(.ref a0), (.ref a1)] h0 (Q_m2_5 Z a0 a1 k_a1 h0 n0) [a0] := by
 refine MetH.of (plainFor_of_name pn_0) ?_
 intro p e s m below meth c s₁ hret hx hby hml hown hnm hlk hZ X0 e0 hh hH hsf hS0 C0
 have N0 := Fr.nil n0
 rw [ef_m2_5 m a0 a1]
 refine w_aloadN X0 hx (d2_0 hby) rfl rfl (pc' := 1) rfl ?_
 refine w_aloadN X0 hx (d2_1 hby) rfl rfl (pc' := 2) rfl ?_
 refine w_iconst X0 hx (d2_2 hby) (v := (0 : Int32)) rfl (pc' := 3) rfl ?_
 refine w_aloadN X0 hx (d2_3 hby) rfl rfl (pc' := 4) rfl ?_
 refine w_alen X0 hx hZ e0 V_a1 (d2_4 hby) (pc' := 5) rfl ?_
 refine w_null X0 hx (d2_5 hby) (pc' := 6) rfl ?_
 refine w_specialS X0 hx (y := yn_3) rfl hown (mvT hZ (wd_12 hw)) (mvT hZ (wd_13 hw)) (mvT hZ (wd_15 hw)) (by decide) (backOfY (W := 0) (rm_m3_6 l Z aZ hw [] a0 a1 h0 n0 Z0 E_a0 zz0 zz2 zz1) hZ (wd_15 hw) (wd_7 hw) (by decide) (by decide) (own_EW hw) C0.1 (sfS (hsf a0 (by simp)) sf0) (allS (Nat.lt_of_lt_of_le E_a0.lt (Nat.le_refl _)) all0)) (by rw [hml]; rfl) [(.ref a1), (.int (0 : Int32)), (.int (0 : Int32)), .null] (lenOf pd_0 rfl) rfl (Nat.le_of_eq rfl) (d2_6 hby) (fun _ _ => ⟨rfl, e0, (by decide : 0 + 4 ≤ _), (by decide : 0 + 8 ≤ _)⟩) (pc' := 9) rfl ?_
 rintro _ _ ⟨T20, L20, k20, n20⟩ XX20 hSS20 hg20 ⟨Lc20, hQ20, l20, y20, z20, A20⟩
 dsimp only [Pt.U, Pt.locs, Pt.cells, Pt.slots] at XX20 l20 y20 z20 hQ20 hSS20 hg20 A20 ⊢
 subst l20 y20 z20
 obtain ⟨X20, hS20, hZ20, hown20⟩ := rebS hS0 (Nat.le_refl _) XX20 hSS20 (e0 ▸ hg20) hZ hown
 obtain ⟨r0_20, c0_20, rfl, N20q, K20, g20_0, g20_1, g20_2, g20_3⟩ := hQ20
 have N21 := Fr.app N0 N20q
 have C22 : CHr Z EL s.vm h0 T20.vm T20.heap := C0.trans A20
 have K23 : Keep h0 T20.heap [a0] := (Keep.refl h0 [a0]).trans K20 (allS (Or.inl (by simp)) (all0 (P := fun x => x ∈ [a0] ∨ h0.size ≤ x)))
 show Runs _ _ _ _ (T20.setTop (mkF m 9 #[.val (.ref a0), .val (.ref a1)] []))
 exact w_doneH X20 hlk (v := none) rfl hh hZ20 (own_EW hw) hS20 (Nat.le_refl _) C22 (fun _ => rfl) (fun fs hr => X20.returnOut hx hret (d2_9 hby) hr) (by decide) (by decide) (fun hsy => ⟨r0_20, c0_20, rfl, N21, K23, g20_0, g20_1, g20_2, g20_3⟩)
theorem ef_m33_8 (m : MethodId) (p0 : Int32)  : entryFrame m #[(.int p0)] 1 = mkF m 0 #[.val (.int p0)] [] := by first | (simp [entryFrame, mkF, argsToLocals, Value.category]; done) | rfl
def Q_m33_8 (Z : State) (p0 : Int32) (h0 : Heap) (n0 : Nat) (v : Option Value) (h : Heap) (L : List Loc) : Prop := v = some (.int (1 : Int32)) ∧ Fr n0 L ∧ h = h0
theorem rm_m33_8 (l : Launch) (Z : State) (aZ : Array Value) (hw : ∀ d ∈ tables_1, d.before aZ Z = true) (ws : List Jvm.Cond) (p0 : Int32) (h0 : Heap) (n0 : Nat) (Z0 : n0 ≤ h0.size) (hP_0 : ¬ ((255 : Int32) < p0)) :
    MetN l Z yn_33 jdk_43_method_3_code 1 (some .boolean) ws ({ frames := 0, cells := 0, slots := 0, locals := 0 } : Room) #[(.int p0)] h0 (Q_m33_8 Z p0 h0 n0) := by
 refine MetN.of (plainFor_of_name pn_1) ?_
 intro p e s m below meth c s₁ hret hx hby hml hown hnm hlk hZ X0 e0
 have N0 := Fr.nil n0
 rw [ef_m33_8 m p0]
 refine w_iloadN X0 hx (d33_0 hby) rfl (pc' := 1) rfl ?_
 refine w_sipush X0 hx (d33_1 hby) (v := (255 : Int32)) rfl (pc' := 4) rfl ?_
 refine w_icN X0 hx (d33_4 hby) (flt hP_0).2.2.1 (pc' := 7) rfl ?_
 refine w_iconst X0 hx (d33_7 hby) (v := (1 : Int32)) rfl (pc' := 8) rfl ?_
 refine w_goto X0 hx (d33_8 hby) (pc' := 12) (by decide) (by decide) ?_
 exact w_done X0 hlk (v := some (.int (1 : Int32))) e0 (fun h => by rw [hret] at h; cases h) (fun fs hr => retN X0 hx (t := .boolean) hret (by simp) (d33_12 hby) hr) (by decide) (by decide) (⟨rfl, N0, rfl⟩)
theorem ef_m34_9 (m : MethodId) (p0 : Int32)  : entryFrame m #[(.int p0)] 1 = mkF m 0 #[.val (.int p0)] [] := by first | (simp [entryFrame, mkF, argsToLocals, Value.category]; done) | rfl
def Q_m34_9 (Z : State) (p0 : Int32) (h0 : Heap) (n0 : Nat) (v : Option Value) (h : Heap) (L : List Loc) : Prop := ∃ (r0 : Addr) (c0 : ClassId), v = some (.ref r0) ∧ Fr n0 L ∧ Keep h0 h [] ∧ h0.size ≤ r0 ∧ Arv Z h r0 c0 .byte (1 : Int32) [(.int (p0.toInt8.toInt32))] (.int (0 : Int32))
theorem rm_m34_9 (l : Launch) (Z : State) (aZ : Array Value) (hw : ∀ d ∈ tables_1, d.before aZ Z = true) (ws : List Jvm.Cond) (p0 : Int32) (h0 : Heap) (n0 : Nat) (Z0 : n0 ≤ h0.size) :
    MetN l Z yn_34 jdk_43_method_46_code 1 (some (.array .byte)) ws ({ frames := 0, cells := 1, slots := 1, locals := 0 } : Room) #[(.int p0)] h0 (Q_m34_9 Z p0 h0 n0) := by
 refine MetN.of (plainFor_of_name pn_1) ?_
 intro p e s m below meth c s₁ hret hx hby hml hown hnm hlk hZ X0 e0
 have N0 := Fr.nil n0
 rw [ef_m34_9 m p0]
 refine w_iconst X0 hx (d34_0 hby) (v := (1 : Int32)) rfl (pc' := 1) rfl ?_
 refine w_newP X0 hx .byte .byte 1 rfl hZ (wd_20 hw) e0 (d34_1 hby) (by decide) (by decide) (by decide) (by decide) (by decide) (pc' := 3) rfl ?_
 intro T20 h20 k20 b20 X20 e20 E20 g20 A20
 have ge21 : n0 ≤ b20 := Nat.le_trans Z0 (Nat.le_of_eq g20.symm)
 have sz22 : h0.size ≤ b20 := Nat.le_trans (Nat.le_refl _) (Nat.le_of_eq g20.symm)
 have K23 : Keep h0 h20 [] := (Keep.refl h0 []).ext E20
 have V24 : Arv Z h20 b20 k20 .byte (1 : Int32) [(.int (0 : Int32))] (.int (0 : Int32)) := (Arv.new A20 (by decide)).pad (pad_rep [] (.int (0 : Int32)) 1)
 refine w_dup X20 hx (d34_3 hby) rfl (pc' := 4) rfl ?_
 refine w_iconst X20 hx (d34_4 hby) (v := (0 : Int32)) rfl (pc' := 5) rfl ?_
 refine w_iloadN X20 hx (d34_5 hby) rfl (pc' := 6) rfl ?_
 refine w_i2b X20 hx (d34_6 hby) (pc' := 7) rfl ?_
 obtain ⟨clu25, Aru25, qu25, Su25, Nu25, Hu25, Gu25⟩ := id V24
 have hinu25 := inb_of (j := (0 : Int32)) Su25 ⟨by decide, by decide⟩
 refine w_stB X20 hx hZ e20 Aru25 hinu25 (d34_7 hby) (pc' := 8) rfl ?_
 intro T26 h26 X26 e26 W26
 have V27 : Arv Z h26 b20 k20 .byte (1 : Int32) [(.int (nar .byte (p0.toInt8.toInt32)))] (.int (0 : Int32)) := Arv.set Aru25 qu25 Su25 Nu25 Hu25 Gu25 (fits_nar_byte _) W26 0 rfl (Nat.le_of_ble_eq_true rfl)
 have V28 : Arv Z h26 b20 k20 .byte (1 : Int32) [(.int (p0.toInt8.toInt32))] (.int (0 : Int32)) := by rw [nar_b] at V27; exact V27
 have K29 : Keep h0 h26 [] := K23.wr W26 (Or.inr sz22)
 have N30 := Fr.snoc X26 N0 ge21
 exact w_done X26 hlk (v := some (.ref b20)) e26 (fun h => by rw [hret] at h; cases h) (fun fs hr => retOut X26 hx hret rfl (Or.inr (Or.inr (Or.inr (Or.inr ⟨rfl, rfl, rfl⟩)))) (d34_8 hby) hr) (by decide) (by decide) (⟨b20, k20, rfl, N30, K29, sz22, V28⟩)
theorem ef_m35_10 (m : MethodId) (a0 : Addr) (a1 : Addr)  : entryFrame m #[(.ref a0), (.ref a1), (.int (0 : Int32))] 3 = mkF m 0 #[.val (.ref a0), .val (.ref a1), .val (.int (0 : Int32))] [] := by first | (simp [entryFrame, mkF, argsToLocals, Value.category]; done) | rfl
def Q_m35_10 (Z : State) (a0 : Addr) (a1 : Addr) (h0 : Heap) (n0 : Nat) (v : Option Value) (h : Heap) (L : List Loc) : Prop := v = none ∧ Fr n0 L ∧ Keep h0 h [a0] ∧ Exa Z h a0 kc2 ∧ Fld Z h a0 kc2 "value" "[B" (.ref a1) ∧ Fld Z h a0 kc2 "coder" "B" (.int (0 : Int32))
theorem rm_m35_10 (l : Launch) (Z : State) (aZ : Array Value) (hw : ∀ d ∈ tables_1, d.before aZ Z = true) (ws : List Jvm.Cond) (a0 : Addr) (a1 : Addr) (h0 : Heap) (n0 : Nat) (Z0 : n0 ≤ h0.size) (E_a0 : Exa Z h0 a0 kc2) (zz0 : Fld Z h0 a0 kc2 "value" "[B" .null) (zz1 : n0 ≤ a0) (zz2 : Fld Z h0 a0 kc2 "coder" "B" (.int (0 : Int32))) :
    MetN l Z yn_35 jdk_42_method_151_code 3 none ws ({ frames := 1, cells := 0, slots := 0, locals := 12 } : Room) #[(.ref a0), (.ref a1), (.int (0 : Int32))] h0 (Q_m35_10 Z a0 a1 h0 n0) := by
 refine MetN.of (plainFor_of_name pn_0) ?_
 intro p e s m below meth c s₁ hret hx hby hml hown hnm hlk hZ X0 e0
 have N0 := Fr.nil n0
 rw [ef_m35_10 m a0 a1]
 refine w_aloadN X0 hx (d35_0 hby) rfl rfl (pc' := 1) rfl ?_
 refine w_initO X0 hx 0 hZ hown (wd_16 hw) (wd_17 hw) (wd_18 hw) e0 (by rw [hml]; rfl) (d35_1 hby) (by decide) (Nat.le_of_eq rfl) (by decide) (pc' := 4) rfl ?_
 intro T20 X20 e20
 refine w_aloadN X20 hx (d35_4 hby) rfl rfl (pc' := 5) rfl ?_
 refine w_aloadN X20 hx (d35_5 hby) rfl rfl (pc' := 6) rfl ?_
 refine w_putF X20 hx "" hZ hown (Or.inl (wd_25 hw)) Via.refl e20 zz0 E_a0 (Or.inr ⟨(wd_21 hw), rfl, hnm⟩) (wd_6 hw) (ty := (.array .byte)) (by decide) rfl rfl (d35_6 hby) (pc' := 9) rfl ?_
 intro T21 h21 X21 e21 W21
 have f22 : Fld Z h21 a0 kc2 "value" "[B" (.ref a1) := zz0.same W21
 have K23 : Keep h0 h21 [a0] := (Keep.refl h0 [a0]).wr W21 (Or.inl (by simp))
 have N24 := Fr.snoc X21 N0 zz1
 refine w_aloadN X21 hx (d35_9 hby) rfl rfl (pc' := 10) rfl ?_
 refine w_iloadN X21 hx (d35_10 hby) rfl (pc' := 11) rfl ?_
 have f25 : Exa Z h21 a0 kc2 := (E_a0.wr W21)
 have f26 : Fld Z h21 a0 kc2 "coder" "B" (.int (0 : Int32)) := (zz2.other W21 (Or.inr (slot_ne (Or.inr (wd_22 hw)) (Or.inr (wd_21 hw)) (by decide) (t := .byte) (t' := (.array .byte)) (by decide) (by decide))))
 refine w_putF X21 hx "" hZ hown (Or.inl (wd_26 hw)) Via.refl e21 f26 f25 (Or.inr ⟨(wd_22 hw), rfl, hnm⟩) (wd_6 hw) (ty := .byte) (by decide) rfl rfl (d35_11 hby) (pc' := 14) rfl ?_
 intro T27 h27 X27 e27 W27
 have f28 : Fld Z h27 a0 kc2 "coder" "B" (.int (0 : Int32)) := f26.same W27
 have K29 : Keep h0 h27 [a0] := K23.wr W27 (Or.inl (by simp))
 have N30 := Fr.snoc X27 N24 zz1
 have f31 : Exa Z h27 a0 kc2 := (f25.wr W27)
 have f32 : Fld Z h27 a0 kc2 "value" "[B" (.ref a1) := (f22.other W27 (Or.inr (slot_ne (Or.inr (wd_21 hw)) (Or.inr (wd_22 hw)) (by decide) (t := (.array .byte)) (t' := .byte) (by decide) (by decide))))
 exact w_done X27 hlk (v := none) e27 (fun _ => rfl) (fun fs hr => X27.returnOut hx hret (d35_14 hby) hr) (by decide) (by decide) (⟨rfl, N30, K29, f31, f32, f28⟩)
theorem ef_m32_7 (m : MethodId) (p0 : Int32)  : entryFrame m #[(.int p0)] 1 = mkF m 0 #[.val (.int p0)] [] := by first | (simp [entryFrame, mkF, argsToLocals, Value.category]; done) | rfl
def Q_m32_7 (Z : State) (p0 : Int32) (jj0 : Int32) (h0 : Heap) (n0 : Nat) (v : Option Value) (h : Heap) (L : List Loc) : Prop := ∃ (r0 : Addr) (r1 : Addr) (c0 : ClassId), v = some (.ref r0) ∧ Fr n0 L ∧ Keep h0 h [] ∧ h0.size ≤ r0 ∧ h0.size ≤ r1 ∧ Exa Z h r0 kc2 ∧ Fld Z h r0 kc2 "value" "[B" (.ref r1) ∧ Fld Z h r0 kc2 "coder" "B" (.int (0 : Int32)) ∧ Arv Z h r1 c0 .byte (1 : Int32) [(.int (p0.toInt8.toInt32))] (.int (0 : Int32))
theorem rm_m32_7 (l : Launch) (Z : State) (aZ : Array Value) (hw : ∀ d ∈ tables_1, d.before aZ Z = true) (ws : List Jvm.Cond) (p0 : Int32) (jj0 : Int32) (h0 : Heap) (n0 : Nat) (Z0 : n0 ≤ h0.size) (zz1 : Sta Z Z.heap kc2 "COMPACT_STRINGS" "Z" (.int jj0)) (O0 : Old Z n0 h0) (hP_2 : ¬ (jj0 = (0 : Int32))) (hP_3 : ¬ ((255 : Int32) < p0)) :
    MetN l Z yn_32 jdk_42_method_139_code 1 (some (.object kc2)) ws ({ frames := 2, cells := 2, slots := 5, locals := 27 } : Room) #[(.int p0)] h0 (Q_m32_7 Z p0 jj0 h0 n0) := by
 refine MetN.of (plainFor_of_name pn_0) ?_
 intro p e s m below meth c s₁ hret hx hby hml hown hnm hlk hZ X0 e0
 have N0 := Fr.nil n0
 rw [ef_m32_7 m p0]
 refine w_getS X0 hx "" hZ hown (Or.inl (wd_220 hw)) Via.refl e0 (zz1.ext O0.2) (d32_0 hby) (pc' := 3) rfl ?_
 intro T20 X20 e20
 refine w_ifN X20 hx (d32_3 hby) (feq hP_2).1 (pc' := 6) rfl ?_
 refine w_iloadN X20 hx (d32_6 hby) rfl (pc' := 7) rfl ?_
 refine w_static X20 hx (y := yn_33) hown (mvT hZ (wd_221 hw)) (mvT hZ (wd_222 hw)) (mvT hZ (wd_223 hw)) (mvT hZ (wd_224 hw)) (by decide) (backOf (W := 0) (rm_m33_8 l Z aZ hw [] p0 h0 n0 Z0 hP_3) hZ (wd_224 hw) (wd_223 hw) (by decide) (by decide)) (by rw [hml]; rfl) [(.int p0)] (lenOf pd_2 rfl) rfl (Nat.le_of_eq rfl) (d32_7 hby) (fun _ _ => ⟨rfl, e20, (by decide : 0 + 0 ≤ _), (by decide : 0 + 0 ≤ _)⟩) (pc' := 10) rfl ?_
 rintro _ _ ⟨T21, L21, k21, n21⟩ X21 ⟨Lc21, hQ21, l21, y21, z21⟩
 dsimp only [Pt.U, Pt.locs, Pt.cells, Pt.slots] at X21 l21 y21 z21 hQ21 ⊢
 subst l21 y21 z21
 obtain ⟨rfl, N21q, e21⟩ := hQ21
 have N22 := Fr.app N0 N21q
 show Runs _ _ _ _ (T21.setTop (mkF m 10 #[.val (.int p0)] [(.int (1 : Int32))]))
 refine w_ifN X21 hx (d32_10 hby) (feq (by decide : ¬ ((1 : Int32) = (0 : Int32)))).1 (pc' := 13) rfl ?_
 refine w_new X21 hx hZ hown (wd_225 hw) (wd_6 hw) (wd_7 hw) e21 (d32_13 hby) (by decide) (by decide) (pc' := 16) rfl ?_
 intro T23 h23 b23 X23 e23 E23 g23 A23 D23
 have ge24 : n0 ≤ b23 := Nat.le_trans Z0 (Nat.le_of_eq g23.symm)
 have sz25 : h0.size ≤ b23 := Nat.le_trans (Nat.le_refl _) (Nat.le_of_eq g23.symm)
 have K26 : Keep h0 h23 [] := (Keep.refl h0 []).ext E23
 have f27 : Fld Z h23 b23 kc2 "value" "[B" .null := D23 (Or.inr (wd_21 hw)) (ty := (.array .byte)) (by decide)
 have f28 : Fld Z h23 b23 kc2 "coder" "B" (.int (0 : Int32)) := D23 (Or.inr (wd_22 hw)) (ty := .byte) (by decide)
 refine w_dup X23 hx (d32_16 hby) rfl (pc' := 17) rfl ?_
 refine w_iloadN X23 hx (d32_17 hby) rfl (pc' := 18) rfl ?_
 refine w_static X23 hx (y := yn_34) hown (mvT hZ (wd_226 hw)) (mvT hZ (wd_227 hw)) (mvT hZ (wd_223 hw)) (mvT hZ (wd_228 hw)) (by decide) (backOf (W := 2) (rm_m34_9 l Z aZ hw [] p0 h23 n0 (Nat.le_trans Z0 E23.1) ) hZ (wd_228 hw) (wd_223 hw) (by decide) (by decide)) (by rw [hml]; rfl) [(.int p0)] (lenOf pd_3 rfl) rfl (Nat.le_of_eq rfl) (d32_18 hby) (fun _ _ => ⟨rfl, e23, (by decide : 1 + 1 ≤ _), (by decide : 4 + 1 ≤ _)⟩) (pc' := 21) rfl ?_
 rintro _ _ ⟨T29, L29, k29, n29⟩ X29 ⟨Lc29, hQ29, l29, y29, z29⟩
 dsimp only [Pt.U, Pt.locs, Pt.cells, Pt.slots] at X29 l29 y29 z29 hQ29 ⊢
 subst l29 y29 z29
 obtain ⟨r0_29, c0_29, rfl, N29q, K29, g29_0, g29_1⟩ := hQ29
 have N30 := Fr.app N22 N29q
 have K31 : Keep h0 T29.heap [] := K26.trans K29 (all0 (P := fun x => x ∈ [] ∨ h0.size ≤ x))
 have ge32 : n0 ≤ r0_29 := Nat.le_trans (Nat.le_trans Z0 E23.1) g29_0
 have sz33 : h0.size ≤ r0_29 := Nat.le_trans E23.1 g29_0
 show Runs _ _ _ _ (T29.setTop (mkF m 21 #[.val (.int p0)] [(.ref r0_29), (.ref b23), (.ref b23)]))
 refine w_iconst X29 hx (d32_21 hby) (v := (0 : Int32)) rfl (pc' := 22) rfl ?_
 have f34 : Exa Z T29.heap b23 kc2 := (A23.keep K29)
 have f35 : Fld Z T29.heap b23 kc2 "value" "[B" .null := (f27.keep K29 nin0)
 have f36 : Fld Z T29.heap b23 kc2 "coder" "B" (.int (0 : Int32)) := (f28.keep K29 nin0)
 have le37 : h0.size ≤ T29.heap.size := (Nat.le_trans E23.1 K29.1)
 refine w_special X29 hx (y := yn_35) rfl hown (mvT hZ (wd_229 hw)) (mvT hZ (wd_230 hw)) (mvT hZ (wd_231 hw)) (by decide) (backOf (W := 1) (rm_m35_10 l Z aZ hw [] b23 r0_29 T29.heap n0 (Nat.le_trans Z0 le37) f34 f35 ge24 f36) hZ (wd_231 hw) (wd_7 hw) (by decide) (by decide)) (by rw [hml]; rfl) [(.ref r0_29), (.int (0 : Int32))] (lenOf pd_4 rfl) rfl (Nat.le_of_eq rfl) (d32_22 hby) (fun _ _ => ⟨rfl, rfl, (by decide : 2 + 0 ≤ _), (by decide : 5 + 0 ≤ _)⟩) (pc' := 25) rfl ?_
 rintro _ _ ⟨T38, L38, k38, n38⟩ X38 ⟨Lc38, hQ38, l38, y38, z38⟩
 dsimp only [Pt.U, Pt.locs, Pt.cells, Pt.slots] at X38 l38 y38 z38 hQ38 ⊢
 subst l38 y38 z38
 obtain ⟨rfl, N38q, K38, g38_0, g38_1, g38_2⟩ := hQ38
 have N39 := Fr.app N30 N38q
 have K40 : Keep h0 T38.heap [] := K31.trans K38 (allS (Or.inr sz25) (all0 (P := fun x => x ∈ [] ∨ h0.size ≤ x)))
 show Runs _ _ _ _ (T38.setTop (mkF m 25 #[.val (.int p0)] [(.ref b23)]))
 have ne41 : b23 ≠ r0_29 := (Nat.ne_of_lt (Nat.lt_of_lt_of_le A23.lt (Nat.le_trans (Nat.le_refl _) g29_0)))
 have f42 : Arv Z T38.heap r0_29 c0_29 .byte (1 : Int32) [(.int (p0.toInt8.toInt32))] (.int (0 : Int32)) := (g29_1.keep K38 (ninS (Ne.symm ne41) nin0))
 exact w_done X38 hlk (v := some (.ref b23)) rfl (fun h => by rw [hret] at h; cases h) (fun fs hr => retOut X38 hx hret rfl (Or.inr (Or.inr (Or.inr (Or.inr ⟨rfl, rfl, rfl⟩)))) (d32_25 hby) hr) (by decide) (by decide) (⟨b23, r0_29, c0_29, rfl, N39, K40, sz25, sz33, g38_0, g38_1, g38_2, f42⟩)
theorem ef_m1_3 (m : MethodId) (p0 : Int32)  : entryFrame m #[(.int p0)] 5 = mkF m 0 #[.val (.int p0), .unset, .unset, .unset, .unset] [] := by first | (simp [entryFrame, mkF, argsToLocals, Value.category]; done) | rfl
def Q_m1_3 (Z : State) (p0 : Int32) (jj0 : Int32) (h0 : Heap) (n0 : Nat) (v : Option Value) (h : Heap) (L : List Loc) (S : Addr → Prop) : Prop := ∃ (r : Addr), v = some (.ref r) ∧ Fr n0 L ∧ Keep h0 h [] ∧ h0.size ≤ r ∧ Exa Z h r kc2
theorem rm_m1_3 (l : Launch) (Z : State) (aZ : Array Value) (hw : ∀ d ∈ tables_1, d.before aZ Z = true) (ws : List Jvm.Cond) (p0 : Int32) (jj0 : Int32) (h0 : Heap) (n0 : Nat) (Z0 : n0 ≤ h0.size) (hP_0 : ¬ (jj0 = (0 : Int32))) (zz1 : Sta Z Z.heap kc2 "COMPACT_STRINGS" "Z" (.int jj0)) (O0 : Old Z n0 h0) :
    MetH l Z EL yn_1 method_2_code 5 (some (.object kc2)) ws ({ frames := 4, cells := 6, slots := 12, locals := 66 } : Room) #[(.int p0)] h0 (Q_m1_3 Z p0 jj0 h0 n0) [] := by
 refine MetH.of (plainFor_of_name pn_2) ?_
 intro p e s m below meth c s₁ hret hx hby hml hown hnm hlk hZ X0 e0 hh hH hsf hS0 C0
 have N0 := Fr.nil n0
 rw [ef_m1_3 m p0]
 refine w_iloadN X0 hx (d1_0 hby) rfl (pc' := 1) rfl ?_
 refine w_bipush X0 hx (d1_1 hby) (v := (16 : Int32)) rfl (pc' := 3) rfl ?_
 refine w_iushr X0 hx (d1_3 hby) (pc' := 4) rfl ?_
 refine w_iconst X0 hx (d1_4 hby) (v := (3 : Int32)) rfl (pc' := 5) rfl ?_
 refine w_irem X0 hx (d1_5 hby) (by decide : ¬ ((3 : Int32) = (0 : Int32))) (pc' := 6) rfl ?_
 refine w_istoreN X0 hx (d1_6 hby) (L' := #[.val (.int p0), .val (.int (((p0.toUInt32 >>> ((16 : Int32) &&& 31).toUInt32).toInt32) % (3 : Int32))), .unset, .unset, .unset]) rfl (pc' := 7) rfl ?_
 refine w_iloadN X0 hx (d1_7 hby) rfl (pc' := 8) rfl ?_
 refine w_sipush X0 hx (d1_8 hby) (v := (255 : Int32)) rfl (pc' := 11) rfl ?_
 refine w_iand X0 hx (d1_11 hby) (pc' := 12) rfl ?_
 refine w_i2c X0 hx (d1_12 hby) (pc' := 13) rfl ?_
 refine w_istoreN X0 hx (d1_13 hby) (L' := #[.val (.int p0), .val (.int (((p0.toUInt32 >>> ((16 : Int32) &&& 31).toUInt32).toInt32) % (3 : Int32))), .val (.int ((p0 &&& (255 : Int32)).toUInt32.toUInt16.toUInt32.toInt32)), .unset, .unset]) rfl (pc' := 14) rfl ?_
 refine w_iloadN X0 hx (d1_14 hby) rfl (pc' := 15) rfl ?_
 refine w_bipush X0 hx (d1_15 hby) (v := (8 : Int32)) rfl (pc' := 17) rfl ?_
 refine w_iushr X0 hx (d1_17 hby) (pc' := 18) rfl ?_
 refine w_sipush X0 hx (d1_18 hby) (v := (255 : Int32)) rfl (pc' := 21) rfl ?_
 refine w_iand X0 hx (d1_21 hby) (pc' := 22) rfl ?_
 refine w_i2c X0 hx (d1_22 hby) (pc' := 23) rfl ?_
 refine w_istoreN X0 hx (d1_23 hby) (L' := #[.val (.int p0), .val (.int (((p0.toUInt32 >>> ((16 : Int32) &&& 31).toUInt32).toInt32) % (3 : Int32))), .val (.int ((p0 &&& (255 : Int32)).toUInt32.toUInt16.toUInt32.toInt32)), .val (.int ((((p0.toUInt32 >>> ((8 : Int32) &&& 31).toUInt32).toInt32) &&& (255 : Int32)).toUInt32.toUInt16.toUInt32.toInt32)), .unset]) rfl (pc' := 24) rfl ?_
 refine w_iloadN X0 hx (d1_24 hby) rfl (pc' := 25) rfl ?_
 by_cases hc20 : (((p0.toUInt32 >>> ((16 : Int32) &&& 31).toUInt32).toInt32) % (3 : Int32)) = (0 : Int32)
 · refine w_ifN X0 hx (d1_25 hby) (teq hc20).2 (pc' := 28) rfl ?_
   refine w_new X0 hx hZ hown (wd_5 hw) (wd_6 hw) (wd_7 hw) e0 (d1_28 hby) (by decide) (by decide) (pc' := 31) rfl ?_
   intro T21 h21 b21 X21 e21 E21 g21 A21 D21
   have ge22 : n0 ≤ b21 := Nat.le_trans Z0 (Nat.le_of_eq g21.symm)
   have sz23 : h0.size ≤ b21 := Nat.le_trans (Nat.le_refl _) (Nat.le_of_eq g21.symm)
   have C24 : CHr Z EL s.vm h0 s.vm h21 := C0.trans (CHr.ext E21 C0.1)
   have K25 : Keep h0 h21 [] := (Keep.refl h0 []).ext E21
   have f26 : Fld Z h21 b21 kc2 "value" "[B" .null := D21 (Or.inr (wd_21 hw)) (ty := (.array .byte)) (by decide)
   have f27 : Fld Z h21 b21 kc2 "coder" "B" (.int (0 : Int32)) := D21 (Or.inr (wd_22 hw)) (ty := .byte) (by decide)
   refine w_dup X21 hx (d1_31 hby) rfl (pc' := 32) rfl ?_
   refine w_iconst X21 hx (d1_32 hby) (v := (0 : Int32)) rfl (pc' := 33) rfl ?_
   refine w_newP X21 hx .char .char 0 rfl hZ (wd_8 hw) e21 (d1_33 hby) (by decide) (by decide) (by decide) (by decide) (by decide) (pc' := 35) rfl ?_
   intro T28 h28 k28 b28 X28 e28 E28 g28 A28
   have ge29 : n0 ≤ b28 := Nat.le_trans (Nat.le_trans Z0 E21.1) (Nat.le_of_eq g28.symm)
   have sz30 : h0.size ≤ b28 := Nat.le_trans E21.1 (Nat.le_of_eq g28.symm)
   have C31 : CHr Z EL s.vm h0 s.vm h28 := C24.trans (CHr.ext E28 C24.1)
   have K32 : Keep h0 h28 [] := K25.ext E28
   have V33 : Arv Z h28 b28 k28 .char (0 : Int32) [] (.int (0 : Int32)) := (Arv.new A28 (by decide)).pad (pad_rep [] (.int (0 : Int32)) 0)
   have f39 : Exa Z h28 b21 kc2 := (A21.ext E28)
   have f40 : Fld Z h28 b21 kc2 "value" "[B" .null := (f26.ext E28)
   have f41 : Fld Z h28 b21 kc2 "coder" "B" (.int (0 : Int32)) := (f27.ext E28)
   have le42 : h0.size ≤ h28.size := (Nat.le_trans E21.1 E28.1)
   have y44 : Safe Z EL s.vm h28 b21 := (Safe.ext E28 C24.1 (Safe.ext E21 C0.1 (Safe.new (Nat.le_of_eq g21.symm))))
   refine w_specialS X28 hx (y := yn_2) rfl hown (mvT hZ (wd_9 hw)) (mvT hZ (wd_10 hw)) (mvT hZ (wd_11 hw)) (by decide) (backOfY (W := 1) (rm_m2_5 l Z aZ hw [] b21 b28 k28 h28 n0 (Nat.le_trans Z0 le42) V33 f39 f40 f41 ge22) hZ (wd_11 hw) (wd_7 hw) (by decide) (by decide) (own_EW hw) C31.1 (sfS y44 sf0) (allS (Nat.lt_of_lt_of_le A21.lt E28.1) all0)) (by rw [hml]; rfl) [(.ref b28)] (lenOf pd_1 rfl) rfl (Nat.le_of_eq rfl) (d1_35 hby) (fun _ _ => ⟨rfl, e28, (by decide : 2 + 4 ≤ _), (by decide : 4 + 8 ≤ _)⟩) (pc' := 38) rfl ?_
   rintro _ _ ⟨T43, L43, k43, n43⟩ XX43 hSS43 hg43 ⟨Lc43, hQ43, l43, y43, z43, A43⟩
   dsimp only [Pt.U, Pt.locs, Pt.cells, Pt.slots] at XX43 l43 y43 z43 hQ43 hSS43 hg43 A43 ⊢
   subst l43 y43 z43
   obtain ⟨X43, hS43, hZ43, hown43⟩ := rebS hS0 (Nat.le_trans (Nat.le_refl _) le42) XX43 hSS43 (e28 ▸ hg43) hZ hown
   obtain ⟨r0_43, c0_43, rfl, N43q, K43, g43_0, g43_1, g43_2, g43_3⟩ := hQ43
   have N45 := Fr.app N0 N43q
   have C46 : CHr Z EL s.vm h0 T43.vm T43.heap := C31.trans A43
   have K47 : Keep h0 T43.heap [] := K32.trans K43 (allS (Or.inr sz23) (all0 (P := fun x => x ∈ [] ∨ h0.size ≤ x)))
   show Runs _ _ _ _ (T43.setTop (mkF m 38 #[.val (.int p0), .val (.int (((p0.toUInt32 >>> ((16 : Int32) &&& 31).toUInt32).toInt32) % (3 : Int32))), .val (.int ((p0 &&& (255 : Int32)).toUInt32.toUInt16.toUInt32.toInt32)), .val (.int ((((p0.toUInt32 >>> ((8 : Int32) &&& 31).toUInt32).toInt32) &&& (255 : Int32)).toUInt32.toUInt16.toUInt32.toInt32)), .unset] [(.ref b21)]))
   exact w_doneH X43 hlk (v := some (.ref b21)) rfl hh hZ43 (own_EW hw) hS43 (Nat.le_refl _) C46 (fun h => by rw [hret] at h; cases h) (fun fs hr => retOut X43 hx hret rfl (Or.inr (Or.inr (Or.inr (Or.inr ⟨rfl, rfl, rfl⟩)))) (d1_38 hby) hr) (by decide) (by decide) (fun hsy => ⟨b21, rfl, N45, K47, sz23, g43_1⟩)
 · refine w_ifY X0 hx (d1_25 hby) (feq hc20).2 (pc' := 39) (by decide) (by decide) ?_
   refine w_iloadN X0 hx (d1_39 hby) rfl (pc' := 40) rfl ?_
   refine w_iconst X0 hx (d1_40 hby) (v := (1 : Int32)) rfl (pc' := 41) rfl ?_
   by_cases hc48 : (((p0.toUInt32 >>> ((16 : Int32) &&& 31).toUInt32).toInt32) % (3 : Int32)) = (1 : Int32)
   · refine w_icN X0 hx (d1_41 hby) (teq hc48).2 (pc' := 44) rfl ?_
     refine w_iloadN X0 hx (d1_44 hby) rfl (pc' := 45) rfl ?_
     refine w_static X0 hx (y := yn_32) hown (mvT hZ (wd_217 hw)) (mvT hZ (wd_218 hw)) (mvT hZ (wd_7 hw)) (mvT hZ (wd_219 hw)) (by decide) (backOf (W := 0) (rm_m32_7 l Z aZ hw [] ((p0 &&& (255 : Int32)).toUInt32.toUInt16.toUInt32.toInt32) jj0 h0 n0 Z0 zz1 O0 hP_0 (own_and255 p0).2) hZ (wd_219 hw) (wd_7 hw) (by decide) (by decide)) (by rw [hml]; rfl) [(.int ((p0 &&& (255 : Int32)).toUInt32.toUInt16.toUInt32.toInt32))] (lenOf pd_5 rfl) rfl (Nat.le_of_eq rfl) (d1_45 hby) (fun _ _ => ⟨rfl, e0, (by decide : 0 + 2 ≤ _), (by decide : 0 + 5 ≤ _)⟩) (pc' := 48) rfl ?_
     rintro _ _ ⟨T49, L49, k49, n49⟩ X49 ⟨Lc49, hQ49, l49, y49, z49⟩
     dsimp only [Pt.U, Pt.locs, Pt.cells, Pt.slots] at X49 l49 y49 z49 hQ49 ⊢
     subst l49 y49 z49
     obtain ⟨r0_49, r1_49, c0_49, rfl, N49q, K49, g49_0, g49_1, g49_2, g49_3, g49_4, g49_5⟩ := hQ49
     have N50 := Fr.app N0 N49q
     have C51 : CHr Z EL s.vm h0 s.vm T49.heap := C0.trans (CHr.keep K49 sf0 C0.1)
     have K52 : Keep h0 T49.heap [] := (Keep.refl h0 []).trans K49 (all0 (P := fun x => x ∈ [] ∨ h0.size ≤ x))
     have ge53 : n0 ≤ r0_49 := Nat.le_trans Z0 g49_0
     have sz54 : h0.size ≤ r0_49 := Nat.le_trans (Nat.le_refl _) g49_0
     have ge55 : n0 ≤ r1_49 := Nat.le_trans Z0 g49_1
     have sz56 : h0.size ≤ r1_49 := Nat.le_trans (Nat.le_refl _) g49_1
     show Runs _ _ _ _ (T49.setTop (mkF m 48 #[.val (.int p0), .val (.int (((p0.toUInt32 >>> ((16 : Int32) &&& 31).toUInt32).toInt32) % (3 : Int32))), .val (.int ((p0 &&& (255 : Int32)).toUInt32.toUInt16.toUInt32.toInt32)), .val (.int ((((p0.toUInt32 >>> ((8 : Int32) &&& 31).toUInt32).toInt32) &&& (255 : Int32)).toUInt32.toUInt16.toUInt32.toInt32)), .unset] [(.ref r0_49)]))
     exact w_doneH X49 hlk (v := some (.ref r0_49)) rfl hh hZ (own_EW hw) hS0 (Nat.le_trans (Nat.le_refl _) K49.1) C51 (fun h => by rw [hret] at h; cases h) (fun fs hr => retOut X49 hx hret rfl (Or.inr (Or.inr (Or.inr (Or.inr ⟨rfl, rfl, rfl⟩)))) (d1_48 hby) hr) (by decide) (by decide) (fun hsy => ⟨r0_49, rfl, N50, K52, sz54, g49_2⟩)
   · refine w_icY X0 hx (d1_41 hby) (feq hc48).2 (pc' := 49) (by decide) (by decide) ?_
     refine w_iconst X0 hx (d1_49 hby) (v := (2 : Int32)) rfl (pc' := 50) rfl ?_
     refine w_newP X0 hx .char .char 2 rfl hZ (wd_8 hw) e0 (d1_50 hby) (by decide) (by decide) (by decide) (by decide) (by decide) (pc' := 52) rfl ?_
     intro T57 h57 k57 b57 X57 e57 E57 g57 A57
     have ge58 : n0 ≤ b57 := Nat.le_trans Z0 (Nat.le_of_eq g57.symm)
     have sz59 : h0.size ≤ b57 := Nat.le_trans (Nat.le_refl _) (Nat.le_of_eq g57.symm)
     have C60 : CHr Z EL s.vm h0 s.vm h57 := C0.trans (CHr.ext E57 C0.1)
     have K61 : Keep h0 h57 [] := (Keep.refl h0 []).ext E57
     have V62 : Arv Z h57 b57 k57 .char (2 : Int32) [(.int (0 : Int32)), (.int (0 : Int32))] (.int (0 : Int32)) := (Arv.new A57 (by decide)).pad (pad_rep [] (.int (0 : Int32)) 2)
     refine w_astore X57 hx (d1_52 hby) rfl (L' := #[.val (.int p0), .val (.int (((p0.toUInt32 >>> ((16 : Int32) &&& 31).toUInt32).toInt32) % (3 : Int32))), .val (.int ((p0 &&& (255 : Int32)).toUInt32.toUInt16.toUInt32.toInt32)), .val (.int ((((p0.toUInt32 >>> ((8 : Int32) &&& 31).toUInt32).toInt32) &&& (255 : Int32)).toUInt32.toUInt16.toUInt32.toInt32)), .val (.ref b57)]) rfl (pc' := 54) rfl ?_
     refine w_aload X57 hx (d1_54 hby) rfl rfl (pc' := 56) rfl ?_
     refine w_iconst X57 hx (d1_56 hby) (v := (0 : Int32)) rfl (pc' := 57) rfl ?_
     refine w_iloadN X57 hx (d1_57 hby) rfl (pc' := 58) rfl ?_
     obtain ⟨clu63, Aru63, qu63, Su63, Nu63, Hu63, Gu63⟩ := id V62
     have hinu63 := inb_of (j := (0 : Int32)) Su63 ⟨by decide, by decide⟩
     refine w_stC X57 hx hZ e57 Aru63 hinu63 (d1_58 hby) (pc' := 59) rfl ?_
     intro T64 h64 X64 e64 W64
     have C65 : CHr Z EL s.vm h0 s.vm h64 := C60.trans (CHr.wr W64 (Safe.arv hZ.alike V62 (by decide)) C60.1)
     have V66 : Arv Z h64 b57 k57 .char (2 : Int32) [(.int (nar .char ((p0 &&& (255 : Int32)).toUInt32.toUInt16.toUInt32.toInt32))), (.int (0 : Int32))] (.int (0 : Int32)) := Arv.set Aru63 qu63 Su63 Nu63 Hu63 Gu63 (fits_nar_char _) W64 0 rfl (Nat.le_of_ble_eq_true rfl)
     have V67 : Arv Z h64 b57 k57 .char (2 : Int32) [(.int ((p0 &&& (255 : Int32)).toUInt32.toUInt16.toUInt32.toInt32)), (.int (0 : Int32))] (.int (0 : Int32)) := by rw [nar_c] at V66; exact V66
     have K68 : Keep h0 h64 [] := K61.wr W64 (Or.inr sz59)
     have N69 := Fr.snoc X64 N0 ge58
     refine w_aload X64 hx (d1_59 hby) rfl rfl (pc' := 61) rfl ?_
     refine w_iconst X64 hx (d1_61 hby) (v := (1 : Int32)) rfl (pc' := 62) rfl ?_
     refine w_iloadN X64 hx (d1_62 hby) rfl (pc' := 63) rfl ?_
     obtain ⟨clu70, Aru70, qu70, Su70, Nu70, Hu70, Gu70⟩ := id V67
     have hinu70 := inb_of (j := (1 : Int32)) Su70 ⟨by decide, by decide⟩
     refine w_stC X64 hx hZ e64 Aru70 hinu70 (d1_63 hby) (pc' := 64) rfl ?_
     intro T71 h71 X71 e71 W71
     have C72 : CHr Z EL s.vm h0 s.vm h71 := C65.trans (CHr.wr W71 (Safe.arv hZ.alike V67 (by decide)) C65.1)
     have V73 : Arv Z h71 b57 k57 .char (2 : Int32) [(.int ((p0 &&& (255 : Int32)).toUInt32.toUInt16.toUInt32.toInt32)), (.int (nar .char ((((p0.toUInt32 >>> ((8 : Int32) &&& 31).toUInt32).toInt32) &&& (255 : Int32)).toUInt32.toUInt16.toUInt32.toInt32)))] (.int (0 : Int32)) := Arv.set Aru70 qu70 Su70 Nu70 Hu70 Gu70 (fits_nar_char _) W71 1 rfl (Nat.le_of_ble_eq_true rfl)
     have V74 : Arv Z h71 b57 k57 .char (2 : Int32) [(.int ((p0 &&& (255 : Int32)).toUInt32.toUInt16.toUInt32.toInt32)), (.int ((((p0.toUInt32 >>> ((8 : Int32) &&& 31).toUInt32).toInt32) &&& (255 : Int32)).toUInt32.toUInt16.toUInt32.toInt32))] (.int (0 : Int32)) := by rw [nar_c] at V73; exact V73
     have K75 : Keep h0 h71 [] := K68.wr W71 (Or.inr sz59)
     have N76 := Fr.snoc X71 N69 ge58
     refine w_new X71 hx hZ hown (wd_5 hw) (wd_6 hw) (wd_7 hw) e71 (d1_64 hby) (by decide) (by decide) (pc' := 67) rfl ?_
     intro T77 h77 b77 X77 e77 E77 g77 A77 D77
     have le79 : h0.size ≤ h64.size := (Nat.le_trans E57.1 (Keep.of_wr W64).1)
     have le80 : h0.size ≤ h71.size := (Nat.le_trans le79 (Keep.of_wr W71).1)
     have ge78 : n0 ≤ b77 := Nat.le_trans (Nat.le_trans Z0 le80) (Nat.le_of_eq g77.symm)
     have sz81 : h0.size ≤ b77 := Nat.le_trans le80 (Nat.le_of_eq g77.symm)
     have C82 : CHr Z EL s.vm h0 s.vm h77 := C72.trans (CHr.ext E77 C72.1)
     have K83 : Keep h0 h77 [] := K75.ext E77
     have f84 : Fld Z h77 b77 kc2 "value" "[B" .null := D77 (Or.inr (wd_21 hw)) (ty := (.array .byte)) (by decide)
     have f85 : Fld Z h77 b77 kc2 "coder" "B" (.int (0 : Int32)) := D77 (Or.inr (wd_22 hw)) (ty := .byte) (by decide)
     refine w_dup X77 hx (d1_67 hby) rfl (pc' := 68) rfl ?_
     refine w_aload X77 hx (d1_68 hby) rfl rfl (pc' := 70) rfl ?_
     have le86 : h0.size ≤ h77.size := (Nat.le_trans le80 E77.1)
     have f88 : Arv Z h77 b57 k57 .char (2 : Int32) [(.int ((p0 &&& (255 : Int32)).toUInt32.toUInt16.toUInt32.toInt32)), (.int ((((p0.toUInt32 >>> ((8 : Int32) &&& 31).toUInt32).toInt32) &&& (255 : Int32)).toUInt32.toUInt16.toUInt32.toInt32))] (.int (0 : Int32)) := (V74.ext E77)
     have f89 : Old Z n0 h77 := ((((O0.ext E57).wr W64 ge58).wr W71 ge58).ext E77)
     refine w_special X77 hx (y := yn_2) rfl hown (mvT hZ (wd_9 hw)) (mvT hZ (wd_10 hw)) (mvT hZ (wd_11 hw)) (by decide) (StrChars.Road.backV (W := 1) hZ (own_hws hw) (kI := 4) (wd_6 hw) (cs := ([((p0 &&& (255 : Int32)).toUInt32.toUInt16.toUInt32.toInt32), ((((p0.toUInt32 >>> ((8 : Int32) &&& 31).toUInt32).toInt32) &&& (255 : Int32)).toUInt32.toUInt16.toUInt32.toInt32)] : List Int32)) (bs := ([((p0 &&& (255 : Int32)).toUInt32.toUInt16.toUInt32.toInt32), ((((p0.toUInt32 >>> ((8 : Int32) &&& 31).toUInt32).toInt32) &&& (255 : Int32)).toUInt32.toUInt16.toUInt32.toInt32)] : List Int32).map (fun c => c.toInt8.toInt32)) (n := 2) ge78 (Nat.le_trans Z0 le86) A77 f84 f85 f88 (zz1.ext f89.2) hP_0 rfl rfl (by decide) (by decide) (List.forall_mem_cons.2 ⟨(own_and255 p0), (List.forall_mem_cons.2 ⟨(own_and255 ((p0.toUInt32 >>> ((8 : Int32) &&& 31).toUInt32).toInt32)), (fun _ h => nomatch h)⟩)⟩) rfl (by decide) (by decide)) (by rw [hml]; rfl) [(.ref b57)] (lenOf pd_1 rfl) rfl (Nat.le_of_eq rfl) (d1_70 hby) (fun _ _ => ⟨rfl, e77, (by decide : 2 + 1 ≤ _), (by decide : 6 + 2 ≤ _)⟩) (pc' := 73) rfl ?_
     rintro _ _ ⟨T87, L87, k87, n87⟩ X87 ⟨Lc87, hQ87, l87, y87, z87⟩
     dsimp only [Pt.U, Pt.locs, Pt.cells, Pt.slots] at X87 l87 y87 z87 hQ87 ⊢
     subst l87 y87 z87
     obtain ⟨rfl, N87q, K87, g87_0, g87_1, t_87, kb_87, g87_2, g87_3, g87_4, g87_5, g87_6⟩ := hQ87
     have N90 := Fr.app N76 N87q
     have y91 : Safe Z EL s.vm h77 b77 := (Safe.ext E77 C72.1 (Safe.new (Nat.le_of_eq g77.symm)))
     have C92 : CHr Z EL s.vm h0 s.vm T87.heap := C82.trans (CHr.keep K87 (sfS y91 sf0) C82.1)
     have K93 : Keep h0 T87.heap [] := K83.trans K87 (allS (Or.inr sz81) (all0 (P := fun x => x ∈ [] ∨ h0.size ≤ x)))
     have ge94 : n0 ≤ t_87 := Nat.le_trans (Nat.le_trans Z0 le86) g87_3
     have sz95 : h0.size ≤ t_87 := Nat.le_trans le86 g87_3
     show Runs _ _ _ _ (T87.setTop (mkF m 73 #[.val (.int p0), .val (.int (((p0.toUInt32 >>> ((16 : Int32) &&& 31).toUInt32).toInt32) % (3 : Int32))), .val (.int ((p0 &&& (255 : Int32)).toUInt32.toUInt16.toUInt32.toInt32)), .val (.int ((((p0.toUInt32 >>> ((8 : Int32) &&& 31).toUInt32).toInt32) &&& (255 : Int32)).toUInt32.toUInt16.toUInt32.toInt32)), .val (.ref b57)] [(.ref b77)]))
     have le96 : h0.size ≤ T87.heap.size := (Nat.le_trans le86 K87.1)
     exact w_doneH X87 hlk (v := some (.ref b77)) rfl hh hZ (own_EW hw) hS0 (Nat.le_trans (Nat.le_refl _) le96) C92 (fun h => by rw [hret] at h; cases h) (fun fs hr => retOut X87 hx hret rfl (Or.inr (Or.inr (Or.inr (Or.inr ⟨rfl, rfl, rfl⟩)))) (d1_73 hby) hr) (by decide) (by decide) (fun hsy => ⟨b77, rfl, N90, K93, sz81, g87_0⟩)
theorem ef_m7_13 (m : MethodId) (a0 : Addr)  : entryFrame m #[(.ref a0)] 1 = mkF m 0 #[.val (.ref a0)] [] := by first | (simp [entryFrame, mkF, argsToLocals, Value.category]; done) | rfl
def Q_m7_13 (Z : State) (a0 : Addr) (h0 : Heap) (n0 : Nat) (v : Option Value) (h : Heap) (L : List Loc) : Prop := v = none ∧ Fr n0 L ∧ h = h0
theorem rm_m7_13 (l : Launch) (Z : State) (aZ : Array Value) (hw : ∀ d ∈ tables_1, d.before aZ Z = true) (ws : List Jvm.Cond) (a0 : Addr) (h0 : Heap) (n0 : Nat) (Z0 : n0 ≤ h0.size) :
    MetN l Z yn_7 jdk_22_method_1_code 1 none ws ({ frames := 1, cells := 0, slots := 0, locals := 12 } : Room) #[(.ref a0)] h0 (Q_m7_13 Z a0 h0 n0) := by
 refine MetN.of (plainFor_of_name pn_3) ?_
 intro p e s m below meth c s₁ hret hx hby hml hown hnm hlk hZ X0 e0
 have N0 := Fr.nil n0
 rw [ef_m7_13 m a0]
 refine w_aloadN X0 hx (d7_0 hby) rfl rfl (pc' := 1) rfl ?_
 refine w_initO X0 hx 0 hZ hown (wd_45 hw) (wd_17 hw) (wd_18 hw) e0 (by rw [hml]; rfl) (d7_1 hby) (by decide) (Nat.le_of_eq rfl) (by decide) (pc' := 4) rfl ?_
 intro T20 X20 e20
 exact w_done X20 hlk (v := none) e20 (fun _ => rfl) (fun fs hr => X20.returnOut hx hret (d7_4 hby) hr) (by decide) (by decide) (⟨rfl, N0, rfl⟩)
theorem ef_m6_12 (m : MethodId) (a0 : Addr)  : entryFrame m #[(.ref a0)] 1 = mkF m 0 #[.val (.ref a0)] [] := by first | (simp [entryFrame, mkF, argsToLocals, Value.category]; done) | rfl
def Q_m6_12 (Z : State) (a0 : Addr) (h0 : Heap) (n0 : Nat) (v : Option Value) (h : Heap) (L : List Loc) : Prop := v = none ∧ Fr n0 L ∧ Keep h0 h [a0] ∧ Exa Z h a0 kc1 ∧ Fld Z h a0 kc5 "modCount" "I" (.int (0 : Int32)) ∧ Fld Z h a0 kc1 "elementData" "[Ljava/lang/Object;" .null ∧ Fld Z h a0 kc1 "size" "I" (.int (0 : Int32))
theorem rm_m6_12 (l : Launch) (Z : State) (aZ : Array Value) (hw : ∀ d ∈ tables_1, d.before aZ Z = true) (ws : List Jvm.Cond) (a0 : Addr) (h0 : Heap) (n0 : Nat) (Z0 : n0 ≤ h0.size) (E_a0 : Exa Z h0 a0 kc1) (zz0 : Fld Z h0 a0 kc5 "modCount" "I" (.int (0 : Int32))) (zz1 : n0 ≤ a0) (zz2 : Fld Z h0 a0 kc1 "elementData" "[Ljava/lang/Object;" .null) (zz3 : Fld Z h0 a0 kc1 "size" "I" (.int (0 : Int32))) :
    MetN l Z yn_6 jdk_39_method_1_code 1 none ws ({ frames := 2, cells := 0, slots := 0, locals := 24 } : Room) #[(.ref a0)] h0 (Q_m6_12 Z a0 h0 n0) := by
 refine MetN.of (plainFor_of_name pn_4) ?_
 intro p e s m below meth c s₁ hret hx hby hml hown hnm hlk hZ X0 e0
 have N0 := Fr.nil n0
 rw [ef_m6_12 m a0]
 refine w_aloadN X0 hx (d6_0 hby) rfl rfl (pc' := 1) rfl ?_
 refine w_special X0 hx (y := yn_7) rfl hown (mvT hZ (wd_39 hw)) (mvT hZ (wd_40 hw)) (mvT hZ (wd_44 hw)) (by decide) (backOf (W := 0) (rm_m7_13 l Z aZ hw [] a0 h0 n0 Z0 ) hZ (wd_44 hw) (wd_43 hw) (by decide) (by decide)) (by rw [hml]; rfl) [] (lenOf pd_7 rfl) rfl (Nat.le_of_eq rfl) (d6_1 hby) (fun _ _ => ⟨rfl, e0, (by decide : 0 + 0 ≤ _), (by decide : 0 + 0 ≤ _)⟩) (pc' := 4) rfl ?_
 rintro _ _ ⟨T20, L20, k20, n20⟩ X20 ⟨Lc20, hQ20, l20, y20, z20⟩
 dsimp only [Pt.U, Pt.locs, Pt.cells, Pt.slots] at X20 l20 y20 z20 hQ20 ⊢
 subst l20 y20 z20
 obtain ⟨rfl, N20q, e20⟩ := hQ20
 have N21 := Fr.app N0 N20q
 show Runs _ _ _ _ (T20.setTop (mkF m 4 #[.val (.ref a0)] []))
 refine w_aloadN X20 hx (d6_4 hby) rfl rfl (pc' := 5) rfl ?_
 refine w_iconst X20 hx (d6_5 hby) (v := (0 : Int32)) rfl (pc' := 6) rfl ?_
 refine w_putF X20 hx "" hZ hown (Or.inl (wd_46 hw)) Via.refl e20 zz0 E_a0 (Or.inl (wd_47 hw)) (wd_28 hw) (ty := .int) (by decide) rfl rfl (d6_6 hby) (pc' := 9) rfl ?_
 intro T22 h22 X22 e22 W22
 have f23 : Fld Z h22 a0 kc5 "modCount" "I" (.int (0 : Int32)) := zz0.same W22
 have K24 : Keep h0 h22 [a0] := (Keep.refl h0 [a0]).wr W22 (Or.inl (by simp))
 have N25 := Fr.snoc X22 N21 zz1
 have f26 : Exa Z h22 a0 kc1 := (E_a0.wr W22)
 have f27 : Fld Z h22 a0 kc1 "elementData" "[Ljava/lang/Object;" .null := (zz2.other W22 (Or.inr (slot_ne (Or.inl (wd_50 hw)) (Or.inl (wd_47 hw)) (by decide) (t := (.array (.object kc0))) (t' := .int) (by decide) (by decide))))
 have f28 : Fld Z h22 a0 kc1 "size" "I" (.int (0 : Int32)) := (zz3.other W22 (Or.inr (slot_ne (Or.inl (wd_63 hw)) (Or.inl (wd_47 hw)) (by decide) (t := .int) (t' := .int) (by decide) (by decide))))
 exact w_done X22 hlk (v := none) e22 (fun _ => rfl) (fun fs hr => X22.returnOut hx hret (d6_9 hby) hr) (by decide) (by decide) (⟨rfl, N25, K24, f26, f23, f27, f28⟩)
theorem ef_m5_11 (m : MethodId) (a0 : Addr)  : entryFrame m #[(.ref a0)] 1 = mkF m 0 #[.val (.ref a0)] [] := by first | (simp [entryFrame, mkF, argsToLocals, Value.category]; done) | rfl
def Q_m5_11 (Z : State) (a0 : Addr) (jj0 : Addr) (h0 : Heap) (n0 : Nat) (v : Option Value) (h : Heap) (L : List Loc) : Prop := v = none ∧ Fr n0 L ∧ Keep h0 h [a0] ∧ Exa Z h a0 kc1 ∧ Fld Z h a0 kc5 "modCount" "I" (.int (0 : Int32)) ∧ Fld Z h a0 kc1 "elementData" "[Ljava/lang/Object;" (.ref jj0) ∧ Fld Z h a0 kc1 "size" "I" (.int (0 : Int32))
theorem rm_m5_11 (l : Launch) (Z : State) (aZ : Array Value) (hw : ∀ d ∈ tables_1, d.before aZ Z = true) (ws : List Jvm.Cond) (a0 : Addr) (jj0 : Addr) (h0 : Heap) (n0 : Nat) (Z0 : n0 ≤ h0.size) (E_a0 : Exa Z h0 a0 kc1) (zz1 : Fld Z h0 a0 kc5 "modCount" "I" (.int (0 : Int32))) (zz2 : Fld Z h0 a0 kc1 "elementData" "[Ljava/lang/Object;" .null) (zz3 : Fld Z h0 a0 kc1 "size" "I" (.int (0 : Int32))) (zz4 : n0 ≤ a0) (zz5 : Sta Z Z.heap kc1 "DEFAULTCAPACITY_EMPTY_ELEMENTDATA" "[Ljava/lang/Object;" (.ref jj0)) (O0 : Old Z n0 h0) :
    MetN l Z yn_5 jdk_38_method_2_code 1 none ws ({ frames := 3, cells := 0, slots := 0, locals := 36 } : Room) #[(.ref a0)] h0 (Q_m5_11 Z a0 jj0 h0 n0) := by
 refine MetN.of (plainFor_of_name pn_5) ?_
 intro p e s m below meth c s₁ hret hx hby hml hown hnm hlk hZ X0 e0
 have N0 := Fr.nil n0
 rw [ef_m5_11 m a0]
 refine w_aloadN X0 hx (d5_0 hby) rfl rfl (pc' := 1) rfl ?_
 refine w_special X0 hx (y := yn_6) rfl hown (mvT hZ (wd_33 hw)) (mvT hZ (wd_34 hw)) (mvT hZ (wd_38 hw)) (by decide) (backOf (W := 0) (rm_m6_12 l Z aZ hw [] a0 h0 n0 Z0 E_a0 zz1 zz4 zz2 zz3) hZ (wd_38 hw) (wd_37 hw) (by decide) (by decide)) (by rw [hml]; rfl) [] (lenOf pd_7 rfl) rfl (Nat.le_of_eq rfl) (d5_1 hby) (fun _ _ => ⟨rfl, e0, (by decide : 0 + 0 ≤ _), (by decide : 0 + 0 ≤ _)⟩) (pc' := 4) rfl ?_
 rintro _ _ ⟨T20, L20, k20, n20⟩ X20 ⟨Lc20, hQ20, l20, y20, z20⟩
 dsimp only [Pt.U, Pt.locs, Pt.cells, Pt.slots] at X20 l20 y20 z20 hQ20 ⊢
 subst l20 y20 z20
 obtain ⟨rfl, N20q, K20, g20_0, g20_1, g20_2, g20_3⟩ := hQ20
 have N21 := Fr.app N0 N20q
 have K22 : Keep h0 T20.heap [a0] := (Keep.refl h0 [a0]).trans K20 (allS (Or.inl (by simp)) (all0 (P := fun x => x ∈ [a0] ∨ h0.size ≤ x)))
 show Runs _ _ _ _ (T20.setTop (mkF m 4 #[.val (.ref a0)] []))
 refine w_aloadN X20 hx (d5_4 hby) rfl rfl (pc' := 5) rfl ?_
 have f23 : Old Z n0 T20.heap := (O0.keep K20 (allS zz4 all0))
 refine w_getS X20 hx "" hZ hown (Or.inl (wd_48 hw)) Via.refl rfl (zz5.ext f23.2) (d5_5 hby) (pc' := 8) rfl ?_
 intro T24 X24 e24
 refine w_putF X24 hx "" hZ hown (Or.inl (wd_49 hw)) Via.refl e24 g20_2 g20_0 (Or.inl (wd_50 hw)) (wd_28 hw) (ty := (.array (.object kc0))) (by decide) rfl rfl (d5_8 hby) (pc' := 11) rfl ?_
 intro T25 h25 X25 e25 W25
 have f26 : Fld Z h25 a0 kc1 "elementData" "[Ljava/lang/Object;" (.ref jj0) := g20_2.same W25
 have K27 : Keep h0 h25 [a0] := K22.wr W25 (Or.inl (by simp))
 have N28 := Fr.snoc X25 N21 zz4
 have f29 : Exa Z h25 a0 kc1 := (g20_0.wr W25)
 have f30 : Fld Z h25 a0 kc5 "modCount" "I" (.int (0 : Int32)) := (g20_1.other W25 (Or.inr (slot_ne (Or.inl (wd_47 hw)) (Or.inl (wd_50 hw)) (by decide) (t := .int) (t' := (.array (.object kc0))) (by decide) (by decide))))
 have f31 : Fld Z h25 a0 kc1 "size" "I" (.int (0 : Int32)) := (g20_3.other W25 (Or.inr (slot_ne (Or.inl (wd_63 hw)) (Or.inl (wd_50 hw)) (by decide) (t := .int) (t' := (.array (.object kc0))) (by decide) (by decide))))
 exact w_done X25 hlk (v := none) e25 (fun _ => rfl) (fun fs hr => X25.returnOut hx hret (d5_11 hby) hr) (by decide) (by decide) (⟨rfl, N28, K27, f29, f30, f26, f31⟩)
theorem ef_m12_18 (m : MethodId)   : entryFrame m #[(.int (10 : Int32)), (.int (1 : Int32))] 2 = mkF m 0 #[.val (.int (10 : Int32)), .val (.int (1 : Int32))] [] := by first | (simp [entryFrame, mkF, argsToLocals, Value.category]; done) | rfl
def Q_m12_18 (Z : State)  (h0 : Heap) (n0 : Nat) (v : Option Value) (h : Heap) (L : List Loc) : Prop := v = some (.int (10 : Int32)) ∧ Fr n0 L ∧ h = h0
theorem rm_m12_18 (l : Launch) (Z : State) (aZ : Array Value) (hw : ∀ d ∈ tables_1, d.before aZ Z = true) (ws : List Jvm.Cond)  (h0 : Heap) (n0 : Nat) (Z0 : n0 ≤ h0.size) :
    MetN l Z yn_12 jdk_29_method_65_code 2 (some .int) ws ({ frames := 0, cells := 0, slots := 0, locals := 0 } : Room) #[(.int (10 : Int32)), (.int (1 : Int32))] h0 (Q_m12_18 Z  h0 n0) := by
 refine MetN.of (Jvm.Free.JP.mathPlain rfl (by decide +kernel)) ?_
 intro p e s m below meth c s₁ hret hx hby hml hown hnm hlk hZ X0 e0
 have N0 := Fr.nil n0
 rw [ef_m12_18 m ]
 refine w_iloadN X0 hx (d12_0 hby) rfl (pc' := 1) rfl ?_
 refine w_iloadN X0 hx (d12_1 hby) rfl (pc' := 2) rfl ?_
 refine w_icN X0 hx (d12_2 hby) (flt (by decide : ¬ ((10 : Int32) < (1 : Int32)))).1 (pc' := 5) rfl ?_
 refine w_iloadN X0 hx (d12_5 hby) rfl (pc' := 6) rfl ?_
 refine w_goto X0 hx (d12_6 hby) (pc' := 10) (by decide) (by decide) ?_
 exact w_done X0 hlk (v := some (.int (10 : Int32))) e0 (fun h => by rw [hret] at h; cases h) (fun fs hr => retI X0 hx hret (d12_10 hby) hr) (by decide) (by decide) (⟨rfl, N0, rfl⟩)
theorem ef_m11_17 (m : MethodId) (a0 : Addr)  : entryFrame m #[(.ref a0), (.int (1 : Int32))] 4 = mkF m 0 #[.val (.ref a0), .val (.int (1 : Int32)), .unset, .unset] [] := by first | (simp [entryFrame, mkF, argsToLocals, Value.category]; done) | rfl
def Q_m11_17 (Z : State) (a0 : Addr) (jj0 : Addr) (jj1 : ClassId) (h0 : Heap) (n0 : Nat) (v : Option Value) (h : Heap) (L : List Loc) : Prop := ∃ (r0 : Addr) (c0 : ClassId), v = some (.ref r0) ∧ Fr n0 L ∧ Keep h0 h [a0] ∧ h0.size ≤ r0 ∧ Arv Z h r0 c0 (.object kc0) (10 : Int32) [.null, .null, .null, .null, .null, .null, .null, .null, .null, .null] .null ∧ Exa Z h r0 "[Ljava/lang/Object;" ∧ Fld Z h a0 kc1 "elementData" "[Ljava/lang/Object;" (.ref r0) ∧ Exa Z h a0 kc1 ∧ Fld Z h a0 kc1 "size" "I" (.int (0 : Int32)) ∧ Fld Z h a0 kc5 "modCount" "I" (.int (1 : Int32)) ∧ Ovr Z c0 kc0
theorem rm_m11_17 (l : Launch) (Z : State) (aZ : Array Value) (hw : ∀ d ∈ tables_1, d.before aZ Z = true) (ws : List Jvm.Cond) (a0 : Addr) (jj0 : Addr) (jj1 : ClassId) (h0 : Heap) (n0 : Nat) (Z0 : n0 ≤ h0.size) (zz2 : Fld Z h0 a0 kc1 "elementData" "[Ljava/lang/Object;" (.ref jj0)) (zz3 : Arv Z h0 jj0 jj1 (.object kc0) (0 : Int32) [] .null) (zz4 : Sta Z Z.heap kc1 "DEFAULTCAPACITY_EMPTY_ELEMENTDATA" "[Ljava/lang/Object;" (.ref jj0)) (O0 : Old Z n0 h0) (E_a0 : Exa Z h0 a0 kc1) (zz5 : n0 ≤ a0) (zz6 : Fld Z h0 a0 kc1 "size" "I" (.int (0 : Int32))) (zz7 : Fld Z h0 a0 kc5 "modCount" "I" (.int (1 : Int32))) :
    MetN l Z yn_11 jdk_38_method_6_code 4 (some (.array (.object kc0))) ws ({ frames := 1, cells := 1, slots := 10, locals := 14 } : Room) #[(.ref a0), (.int (1 : Int32))] h0 (Q_m11_17 Z a0 jj0 jj1 h0 n0) := by
 refine MetN.of (plainFor_of_name pn_5) ?_
 intro p e s m below meth c s₁ hret hx hby hml hown hnm hlk hZ X0 e0
 have N0 := Fr.nil n0
 rw [ef_m11_17 m a0]
 refine w_aloadN X0 hx (d11_0 hby) rfl rfl (pc' := 1) rfl ?_
 refine w_getF X0 hx "" hZ hown (Or.inl (wd_49 hw)) Via.refl e0 zz2 (d11_1 hby) (pc' := 4) rfl ?_
 intro T20 X20 e20
 refine w_alen X20 hx hZ e20 zz3 (d11_4 hby) (pc' := 5) rfl ?_
 refine w_istoreN X20 hx (d11_5 hby) (L' := #[.val (.ref a0), .val (.int (1 : Int32)), .val (.int (0 : Int32)), .unset]) rfl (pc' := 6) rfl ?_
 refine w_iloadN X20 hx (d11_6 hby) rfl (pc' := 7) rfl ?_
 refine w_ifN X20 hx (d11_7 hby) (flt (by decide : ¬ ((0 : Int32) < (0 : Int32)))).2.2.1 (pc' := 10) rfl ?_
 refine w_aloadN X20 hx (d11_10 hby) rfl rfl (pc' := 11) rfl ?_
 refine w_getF X20 hx "" hZ hown (Or.inl (wd_49 hw)) Via.refl e20 zz2 (d11_11 hby) (pc' := 14) rfl ?_
 intro T21 X21 e21
 refine w_getS X21 hx "" hZ hown (Or.inl (wd_48 hw)) Via.refl e21 (zz4.ext O0.2) (d11_14 hby) (pc' := 17) rfl ?_
 intro T22 X22 e22
 refine w_acmp X22 hx (d11_17 hby) (same := true) rfl rfl (decide_eq_true rfl) (pc' := 45) (by decide) (by decide) ?_
 refine w_aloadN X22 hx (d11_45 hby) rfl rfl (pc' := 46) rfl ?_
 refine w_bipush X22 hx (d11_46 hby) (v := (10 : Int32)) rfl (pc' := 48) rfl ?_
 refine w_iloadN X22 hx (d11_48 hby) rfl (pc' := 49) rfl ?_
 refine w_static X22 hx (y := yn_12) hown (mvT hZ (wd_79 hw)) (mvT hZ (wd_80 hw)) (mvT hZ (wd_81 hw)) (mvT hZ (wd_82 hw)) (by decide) (backOf (W := 1) (rm_m12_18 l Z aZ hw []  h0 n0 Z0 ) hZ (wd_82 hw) (wd_81 hw) (by decide) (by decide)) (by rw [hml]; rfl) [(.int (10 : Int32)), (.int (1 : Int32))] (lenOf pd_8 rfl) rfl (Nat.le_of_eq rfl) (d11_49 hby) (fun _ _ => ⟨rfl, e22, (by decide : 0 + 0 ≤ _), (by decide : 0 + 0 ≤ _)⟩) (pc' := 52) rfl ?_
 rintro _ _ ⟨T23, L23, k23, n23⟩ X23 ⟨Lc23, hQ23, l23, y23, z23⟩
 dsimp only [Pt.U, Pt.locs, Pt.cells, Pt.slots] at X23 l23 y23 z23 hQ23 ⊢
 subst l23 y23 z23
 obtain ⟨rfl, N23q, e23⟩ := hQ23
 have N24 := Fr.app N0 N23q
 show Runs _ _ _ _ (T23.setTop (mkF m 52 #[.val (.ref a0), .val (.int (1 : Int32)), .val (.int (0 : Int32)), .unset] [(.int (10 : Int32)), (.ref a0)]))
 refine w_newR X23 hx 10 "[Ljava/lang/Object;" hZ hown (wd_83 hw) (wd_84 hw) e23 (d11_52 hby) (by decide) (by decide) (by decide) (by decide) (by decide) (by decide +kernel) (pc' := 55) rfl ?_
 intro T25 h25 k25 b25 X25 e25 E25 g25 A25 Q25 O25
 have ge26 : n0 ≤ b25 := Nat.le_trans Z0 (Nat.le_of_eq g25.symm)
 have sz27 : h0.size ≤ b25 := Nat.le_trans (Nat.le_refl _) (Nat.le_of_eq g25.symm)
 have K28 : Keep h0 h25 [a0] := (Keep.refl h0 [a0]).ext E25
 have V29 : Arv Z h25 b25 k25 (.object kc0) (10 : Int32) [.null, .null, .null, .null, .null, .null, .null, .null, .null, .null] .null := (Arv.new A25 (by decide)).pad (pad_rep [] .null 10)
 refine w_dupX1 X25 hx (d11_55 hby) rfl rfl (pc' := 56) rfl ?_
 have f30 : Exa Z h25 a0 kc1 := (E_a0.ext E25)
 have f31 : Fld Z h25 a0 kc1 "elementData" "[Ljava/lang/Object;" (.ref jj0) := (zz2.ext E25)
 refine w_putF X25 hx "" hZ hown (Or.inl (wd_49 hw)) Via.refl e25 f31 f30 (Or.inl (wd_50 hw)) (wd_28 hw) (ty := (.array (.object kc0))) (by decide) rfl rfl (d11_56 hby) (pc' := 59) rfl ?_
 intro T32 h32 X32 e32 W32
 have f33 : Fld Z h32 a0 kc1 "elementData" "[Ljava/lang/Object;" (.ref b25) := f31.same W32
 have K34 : Keep h0 h32 [a0] := K28.wr W32 (Or.inl (by simp))
 have N35 := Fr.snoc X32 N24 zz5
 have ne36 : a0 ≠ b25 := (Nat.ne_of_lt (Nat.lt_of_lt_of_le E_a0.lt (Nat.le_trans (Nat.le_refl _) (Nat.le_of_eq g25.symm))))
 have f37 : Arv Z h32 b25 k25 (.object kc0) (10 : Int32) [.null, .null, .null, .null, .null, .null, .null, .null, .null, .null] .null := (V29.other W32 (Ne.symm ne36))
 have f38 : Exa Z h32 b25 "[Ljava/lang/Object;" := (Q25.wr W32)
 have f39 : Exa Z h32 a0 kc1 := (f30.wr W32)
 have f40 : Fld Z h32 a0 kc1 "size" "I" (.int (0 : Int32)) := ((zz6.ext E25).other W32 (Or.inr (slot_ne (Or.inl (wd_63 hw)) (Or.inl (wd_50 hw)) (by decide) (t := .int) (t' := (.array (.object kc0))) (by decide) (by decide))))
 have f41 : Fld Z h32 a0 kc5 "modCount" "I" (.int (1 : Int32)) := ((zz7.ext E25).other W32 (Or.inr (slot_ne (Or.inl (wd_47 hw)) (Or.inl (wd_50 hw)) (by decide) (t := .int) (t' := (.array (.object kc0))) (by decide) (by decide))))
 exact w_done X32 hlk (v := some (.ref b25)) e32 (fun h => by rw [hret] at h; cases h) (fun fs hr => retOut X32 hx hret rfl (Or.inr (Or.inr (Or.inr (Or.inr ⟨rfl, rfl, rfl⟩)))) (d11_59 hby) hr) (by decide) (by decide) (⟨b25, k25, rfl, N35, K34, sz27, f37, f38, f33, f39, f40, f41, O25⟩)
theorem ef_m10_16 (m : MethodId) (a0 : Addr)  : entryFrame m #[(.ref a0)] 1 = mkF m 0 #[.val (.ref a0)] [] := by first | (simp [entryFrame, mkF, argsToLocals, Value.category]; done) | rfl
def Q_m10_16 (Z : State) (a0 : Addr) (jj0 : Addr) (jj1 : ClassId) (h0 : Heap) (n0 : Nat) (v : Option Value) (h : Heap) (L : List Loc) : Prop := ∃ (r0 : Addr) (c0 : ClassId), v = some (.ref r0) ∧ Fr n0 L ∧ Keep h0 h [a0] ∧ h0.size ≤ r0 ∧ Arv Z h r0 c0 (.object kc0) (10 : Int32) [.null, .null, .null, .null, .null, .null, .null, .null, .null, .null] .null ∧ Exa Z h r0 "[Ljava/lang/Object;" ∧ Fld Z h a0 kc1 "size" "I" (.int (0 : Int32)) ∧ Exa Z h a0 kc1 ∧ Fld Z h a0 kc1 "elementData" "[Ljava/lang/Object;" (.ref r0) ∧ Fld Z h a0 kc5 "modCount" "I" (.int (1 : Int32)) ∧ Ovr Z c0 kc0
theorem rm_m10_16 (l : Launch) (Z : State) (aZ : Array Value) (hw : ∀ d ∈ tables_1, d.before aZ Z = true) (ws : List Jvm.Cond) (a0 : Addr) (jj0 : Addr) (jj1 : ClassId) (h0 : Heap) (n0 : Nat) (Z0 : n0 ≤ h0.size) (zz2 : Fld Z h0 a0 kc1 "size" "I" (.int (0 : Int32))) (E_a0 : Exa Z h0 a0 kc1) (zz3 : Fld Z h0 a0 kc1 "elementData" "[Ljava/lang/Object;" (.ref jj0)) (zz4 : Arv Z h0 jj0 jj1 (.object kc0) (0 : Int32) [] .null) (zz5 : Fld Z h0 a0 kc5 "modCount" "I" (.int (1 : Int32))) (zz6 : Sta Z Z.heap kc1 "DEFAULTCAPACITY_EMPTY_ELEMENTDATA" "[Ljava/lang/Object;" (.ref jj0)) (O0 : Old Z n0 h0) (zz7 : n0 ≤ a0) :
    MetN l Z yn_10 jdk_38_method_7_code 1 (some (.array (.object kc0))) ws ({ frames := 2, cells := 1, slots := 10, locals := 29 } : Room) #[(.ref a0)] h0 (Q_m10_16 Z a0 jj0 jj1 h0 n0) := by
 refine MetN.of (plainFor_of_name pn_5) ?_
 intro p e s m below meth c s₁ hret hx hby hml hown hnm hlk hZ X0 e0
 have N0 := Fr.nil n0
 rw [ef_m10_16 m a0]
 refine w_aloadN X0 hx (d10_0 hby) rfl rfl (pc' := 1) rfl ?_
 refine w_aloadN X0 hx (d10_1 hby) rfl rfl (pc' := 2) rfl ?_
 refine w_getF X0 hx "" hZ hown (Or.inl (wd_62 hw)) Via.refl e0 zz2 (d10_2 hby) (pc' := 5) rfl ?_
 intro T20 X20 e20
 refine w_iconst X20 hx (d10_5 hby) (v := (1 : Int32)) rfl (pc' := 6) rfl ?_
 refine w_iadd X20 hx (d10_6 hby) (pc' := 7) rfl ?_
 rw [show ((0 : Int32) + (1 : Int32)) = (1 : Int32) from by decide]
 obtain ⟨ce21, he21, hs21⟩ := Exa.cell E_a0
 refine w_private X20 hx (y := yn_11) hown (mvT hZ (wd_74 hw)) (mvT hZ (wd_75 hw)) (mvT hZ (wd_77 hw)) (Cond.privateMethod_at (args := #[]) (mvP hZ (wd_76 hw))) (mvT hZ (wd_78 hw)) (by decide) (backOf (W := 0) (rm_m11_17 l Z aZ hw [] a0 jj0 jj1 h0 n0 Z0 zz3 zz4 zz6 O0 E_a0 zz7 zz2 zz5) hZ (wd_78 hw) (wd_29 hw) (by decide) (by decide)) ((congrArg (fun z : Heap => z[a0]?) e20).trans he21) hs21 (by rw [hml]; rfl) [(.int (1 : Int32))] (lenOf pd_9 rfl) rfl (Nat.le_of_eq rfl) (d10_7 hby) (fun _ _ => ⟨rfl, e20, (by decide : 0 + 1 ≤ _), (by decide : 0 + 10 ≤ _)⟩) (pc' := 10) rfl ?_
 rintro _ _ ⟨T21, L21, k21, n21⟩ X21 ⟨Lc21, hQ21, l21, y21, z21⟩
 dsimp only [Pt.U, Pt.locs, Pt.cells, Pt.slots] at X21 l21 y21 z21 hQ21 ⊢
 subst l21 y21 z21
 obtain ⟨r0_21, c0_21, rfl, N21q, K21, g21_0, g21_1, g21_2, g21_3, g21_4, g21_5, g21_6, g21_7⟩ := hQ21
 have N22 := Fr.app N0 N21q
 have K23 : Keep h0 T21.heap [a0] := (Keep.refl h0 [a0]).trans K21 (allS (Or.inl (by simp)) (all0 (P := fun x => x ∈ [a0] ∨ h0.size ≤ x)))
 have ge24 : n0 ≤ r0_21 := Nat.le_trans Z0 g21_0
 have sz25 : h0.size ≤ r0_21 := Nat.le_trans (Nat.le_refl _) g21_0
 show Runs _ _ _ _ (T21.setTop (mkF m 10 #[.val (.ref a0)] [(.ref r0_21)]))
 exact w_done X21 hlk (v := some (.ref r0_21)) rfl (fun h => by rw [hret] at h; cases h) (fun fs hr => retOut X21 hx hret rfl (Or.inr (Or.inr (Or.inr (Or.inr ⟨rfl, rfl, rfl⟩)))) (d10_10 hby) hr) (by decide) (by decide) (⟨r0_21, c0_21, rfl, N22, K23, sz25, g21_1, g21_2, g21_5, g21_4, g21_3, g21_6, g21_7⟩)
theorem ef_m9_15 (m : MethodId) (a0 : Addr) (a1 : Addr) (jj0 : Addr)  : entryFrame m #[(.ref a0), (.ref a1), (.ref jj0), (.int (0 : Int32))] 4 = mkF m 0 #[.val (.ref a0), .val (.ref a1), .val (.ref jj0), .val (.int (0 : Int32))] [] := by first | (simp [entryFrame, mkF, argsToLocals, Value.category]; done) | rfl
def Q_m9_15 (Z : State) (a0 : Addr) (a1 : Addr) (jj0 : Addr) (jj1 : ClassId) (h0 : Heap) (n0 : Nat) (v : Option Value) (h : Heap) (L : List Loc) : Prop := ∃ (r0 : Addr) (c0 : ClassId), v = none ∧ Fr n0 L ∧ Keep h0 h [a0] ∧ h0.size ≤ r0 ∧ Arv Z h r0 c0 (.object kc0) (10 : Int32) [(.ref a1), .null, .null, .null, .null, .null, .null, .null, .null, .null] .null ∧ Exa Z h r0 "[Ljava/lang/Object;" ∧ Exa Z h a0 kc1 ∧ Fld Z h a0 kc1 "size" "I" (.int (1 : Int32)) ∧ Fld Z h a0 kc1 "elementData" "[Ljava/lang/Object;" (.ref r0) ∧ Fld Z h a0 kc5 "modCount" "I" (.int (1 : Int32)) ∧ Ovr Z c0 kc0
theorem rm_m9_15 (l : Launch) (Z : State) (aZ : Array Value) (hw : ∀ d ∈ tables_1, d.before aZ Z = true) (ws : List Jvm.Cond) (a0 : Addr) (a1 : Addr) (jj0 : Addr) (jj1 : ClassId) (h0 : Heap) (n0 : Nat) (Z0 : n0 ≤ h0.size) (zz2 : Arv Z h0 jj0 jj1 (.object kc0) (0 : Int32) [] .null) (E_a0 : Exa Z h0 a0 kc1) (zz3 : Fld Z h0 a0 kc1 "size" "I" (.int (0 : Int32))) (zz4 : Fld Z h0 a0 kc1 "elementData" "[Ljava/lang/Object;" (.ref jj0)) (zz5 : Fld Z h0 a0 kc5 "modCount" "I" (.int (1 : Int32))) (zz6 : Sta Z Z.heap kc1 "DEFAULTCAPACITY_EMPTY_ELEMENTDATA" "[Ljava/lang/Object;" (.ref jj0)) (O0 : Old Z n0 h0) (zz7 : n0 ≤ a0) (E_a1 : Exa Z h0 a1 kc2) :
    MetN l Z yn_9 jdk_38_method_24_code 4 none ws ({ frames := 3, cells := 1, slots := 10, locals := 41 } : Room) #[(.ref a0), (.ref a1), (.ref jj0), (.int (0 : Int32))] h0 (Q_m9_15 Z a0 a1 jj0 jj1 h0 n0) := by
 refine MetN.of (plainFor_of_name pn_5) ?_
 intro p e s m below meth c s₁ hret hx hby hml hown hnm hlk hZ X0 e0
 have N0 := Fr.nil n0
 rw [ef_m9_15 m a0 a1 jj0]
 refine w_iloadN X0 hx (d9_0 hby) rfl (pc' := 1) rfl ?_
 refine w_aloadN X0 hx (d9_1 hby) rfl rfl (pc' := 2) rfl ?_
 refine w_alen X0 hx hZ e0 zz2 (d9_2 hby) (pc' := 3) rfl ?_
 refine w_icN X0 hx (d9_3 hby) (teq (by decide : (0 : Int32) = (0 : Int32))).2 (pc' := 6) rfl ?_
 refine w_aloadN X0 hx (d9_6 hby) rfl rfl (pc' := 7) rfl ?_
 obtain ⟨ce20, he20, hs20⟩ := Exa.cell E_a0
 refine w_private X0 hx (y := yn_10) hown (mvT hZ (wd_69 hw)) (mvT hZ (wd_70 hw)) (mvT hZ (wd_72 hw)) (Cond.privateMethod_at (args := #[]) (mvP hZ (wd_71 hw))) (mvT hZ (wd_73 hw)) (by decide) (backOf (W := 0) (rm_m10_16 l Z aZ hw [] a0 jj0 jj1 h0 n0 Z0 zz3 E_a0 zz4 zz2 zz5 zz6 O0 zz7) hZ (wd_73 hw) (wd_29 hw) (by decide) (by decide)) ((congrArg (fun z : Heap => z[a0]?) e0).trans he20) hs20 (by rw [hml]; rfl) [] (lenOf pd_10 rfl) rfl (Nat.le_of_eq rfl) (d9_7 hby) (fun _ _ => ⟨rfl, e0, (by decide : 0 + 1 ≤ _), (by decide : 0 + 10 ≤ _)⟩) (pc' := 10) rfl ?_
 rintro _ _ ⟨T20, L20, k20, n20⟩ X20 ⟨Lc20, hQ20, l20, y20, z20⟩
 dsimp only [Pt.U, Pt.locs, Pt.cells, Pt.slots] at X20 l20 y20 z20 hQ20 ⊢
 subst l20 y20 z20
 obtain ⟨r0_20, c0_20, rfl, N20q, K20, g20_0, g20_1, g20_2, g20_3, g20_4, g20_5, g20_6, g20_7⟩ := hQ20
 have N21 := Fr.app N0 N20q
 have K22 : Keep h0 T20.heap [a0] := (Keep.refl h0 [a0]).trans K20 (allS (Or.inl (by simp)) (all0 (P := fun x => x ∈ [a0] ∨ h0.size ≤ x)))
 have ge23 : n0 ≤ r0_20 := Nat.le_trans Z0 g20_0
 have sz24 : h0.size ≤ r0_20 := Nat.le_trans (Nat.le_refl _) g20_0
 show Runs _ _ _ _ (T20.setTop (mkF m 10 #[.val (.ref a0), .val (.ref a1), .val (.ref jj0), .val (.int (0 : Int32))] [(.ref r0_20)]))
 refine w_astoreN X20 hx (d9_10 hby) rfl (L' := #[.val (.ref a0), .val (.ref a1), .val (.ref r0_20), .val (.int (0 : Int32))]) rfl (pc' := 11) rfl ?_
 refine w_aloadN X20 hx (d9_11 hby) rfl rfl (pc' := 12) rfl ?_
 refine w_iloadN X20 hx (d9_12 hby) rfl (pc' := 13) rfl ?_
 refine w_aloadN X20 hx (d9_13 hby) rfl rfl (pc' := 14) rfl ?_
 have f26 : Exa Z T20.heap a1 kc2 := (E_a1.keep K20)
 obtain ⟨clu25, Aru25, qu25, Su25, Nu25, Hu25, Gu25⟩ := id g20_1
 have hinu25 := inb_of (j := (0 : Int32)) Su25 ⟨by decide, by decide⟩
 refine w_stR X20 hx hZ rfl Aru25 hinu25 rfl (Sto.ofV Aru25 qu25 g20_7 (Ins.of_exa f26 (wd_85 hw))) (d9_14 hby) (pc' := 15) rfl ?_
 intro T27 h27 X27 e27 W27
 have V28 : Arv Z h27 r0_20 c0_20 (.object kc0) (10 : Int32) [(.ref a1), .null, .null, .null, .null, .null, .null, .null, .null, .null] .null := Arv.set Aru25 qu25 Su25 Nu25 Hu25 Gu25 rfl W27 0 rfl (Nat.le_of_ble_eq_true rfl)
 have K29 : Keep h0 h27 [a0] := K22.wr W27 (Or.inr sz24)
 have N30 := Fr.snoc X27 N21 ge23
 refine w_aloadN X27 hx (d9_15 hby) rfl rfl (pc' := 16) rfl ?_
 refine w_iloadN X27 hx (d9_16 hby) rfl (pc' := 17) rfl ?_
 refine w_iconst X27 hx (d9_17 hby) (v := (1 : Int32)) rfl (pc' := 18) rfl ?_
 refine w_iadd X27 hx (d9_18 hby) (pc' := 19) rfl ?_
 rw [show ((0 : Int32) + (1 : Int32)) = (1 : Int32) from by decide]
 have f31 : Exa Z h27 a0 kc1 := (g20_4.wr W27)
 have ne32 : a0 ≠ r0_20 := (Nat.ne_of_lt (Nat.lt_of_lt_of_le zz3.lt (Nat.le_trans (Nat.le_refl _) g20_0)))
 have f33 : Fld Z h27 a0 kc1 "size" "I" (.int (0 : Int32)) := (g20_3.other W27 (Or.inl ne32))
 refine w_putF X27 hx "" hZ hown (Or.inl (wd_62 hw)) Via.refl e27 f33 f31 (Or.inl (wd_63 hw)) (wd_28 hw) (ty := .int) (by decide) rfl rfl (d9_19 hby) (pc' := 22) rfl ?_
 intro T34 h34 X34 e34 W34
 have f35 : Fld Z h34 a0 kc1 "size" "I" (.int (1 : Int32)) := f33.same W34
 have K36 : Keep h0 h34 [a0] := K29.wr W34 (Or.inl (by simp))
 have N37 := Fr.snoc X34 N30 zz7
 have f38 : Arv Z h34 r0_20 c0_20 (.object kc0) (10 : Int32) [(.ref a1), .null, .null, .null, .null, .null, .null, .null, .null, .null] .null := (V28.other W34 (Ne.symm ne32))
 have f39 : Exa Z h34 r0_20 "[Ljava/lang/Object;" := ((g20_2.wr W27).wr W34)
 have f40 : Exa Z h34 a0 kc1 := (f31.wr W34)
 have f41 : Fld Z h34 a0 kc1 "elementData" "[Ljava/lang/Object;" (.ref r0_20) := ((g20_5.other W27 (Or.inl ne32)).other W34 (Or.inr (slot_ne (Or.inl (wd_50 hw)) (Or.inl (wd_63 hw)) (by decide) (t := (.array (.object kc0))) (t' := .int) (by decide) (by decide))))
 have f42 : Fld Z h34 a0 kc5 "modCount" "I" (.int (1 : Int32)) := ((g20_6.other W27 (Or.inl ne32)).other W34 (Or.inr (slot_ne (Or.inl (wd_47 hw)) (Or.inl (wd_63 hw)) (by decide) (t := .int) (t' := .int) (by decide) (by decide))))
 exact w_done X34 hlk (v := none) e34 (fun _ => rfl) (fun fs hr => X34.returnOut hx hret (d9_22 hby) hr) (by decide) (by decide) (⟨r0_20, c0_20, rfl, N37, K36, sz24, f38, f39, f40, f35, f41, f42, g20_7⟩)
theorem ef_m8_14 (m : MethodId) (a0 : Addr) (a1 : Addr)  : entryFrame m #[(.ref a0), (.ref a1)] 2 = mkF m 0 #[.val (.ref a0), .val (.ref a1)] [] := by first | (simp [entryFrame, mkF, argsToLocals, Value.category]; done) | rfl
def Q_m8_14 (Z : State) (a0 : Addr) (a1 : Addr) (jj0 : Addr) (jj1 : ClassId) (h0 : Heap) (n0 : Nat) (v : Option Value) (h : Heap) (L : List Loc) : Prop := ∃ (r0 : Addr) (c0 : ClassId), v = some (.int (1 : Int32)) ∧ Fr n0 L ∧ Keep h0 h [a0] ∧ h0.size ≤ r0 ∧ Arv Z h r0 c0 (.object kc0) (10 : Int32) [(.ref a1), .null, .null, .null, .null, .null, .null, .null, .null, .null] .null ∧ Exa Z h r0 "[Ljava/lang/Object;" ∧ Fld Z h a0 kc5 "modCount" "I" (.int (1 : Int32)) ∧ Exa Z h a0 kc1 ∧ Fld Z h a0 kc1 "elementData" "[Ljava/lang/Object;" (.ref r0) ∧ Fld Z h a0 kc1 "size" "I" (.int (1 : Int32)) ∧ Ovr Z c0 kc0
theorem rm_m8_14 (l : Launch) (Z : State) (aZ : Array Value) (hw : ∀ d ∈ tables_1, d.before aZ Z = true) (ws : List Jvm.Cond) (a0 : Addr) (a1 : Addr) (jj0 : Addr) (jj1 : ClassId) (h0 : Heap) (n0 : Nat) (Z0 : n0 ≤ h0.size) (zz2 : Fld Z h0 a0 kc5 "modCount" "I" (.int (0 : Int32))) (E_a0 : Exa Z h0 a0 kc1) (zz3 : n0 ≤ a0) (zz4 : Fld Z h0 a0 kc1 "elementData" "[Ljava/lang/Object;" (.ref jj0)) (zz5 : Fld Z h0 a0 kc1 "size" "I" (.int (0 : Int32))) (zz6 : Arv Z h0 jj0 jj1 (.object kc0) (0 : Int32) [] .null) (E_a1 : Exa Z h0 a1 kc2) (zz7 : Sta Z Z.heap kc1 "DEFAULTCAPACITY_EMPTY_ELEMENTDATA" "[Ljava/lang/Object;" (.ref jj0)) (O0 : Old Z n0 h0) :
    MetN l Z yn_8 jdk_38_method_25_code 2 (some .boolean) ws ({ frames := 4, cells := 1, slots := 10, locals := 56 } : Room) #[(.ref a0), (.ref a1)] h0 (Q_m8_14 Z a0 a1 jj0 jj1 h0 n0) := by
 refine MetN.of (plainFor_of_name pn_5) ?_
 intro p e s m below meth c s₁ hret hx hby hml hown hnm hlk hZ X0 e0
 have N0 := Fr.nil n0
 rw [ef_m8_14 m a0 a1]
 refine w_aloadN X0 hx (d8_0 hby) rfl rfl (pc' := 1) rfl ?_
 refine w_dup X0 hx (d8_1 hby) rfl (pc' := 2) rfl ?_
 refine w_getF X0 hx "" hZ hown (Or.inl (wd_60 hw)) (Via.of (wd_61 hw)) e0 zz2 (d8_2 hby) (pc' := 5) rfl ?_
 intro T20 X20 e20
 refine w_iconst X20 hx (d8_5 hby) (v := (1 : Int32)) rfl (pc' := 6) rfl ?_
 refine w_iadd X20 hx (d8_6 hby) (pc' := 7) rfl ?_
 rw [show ((0 : Int32) + (1 : Int32)) = (1 : Int32) from by decide]
 refine w_putF X20 hx "" hZ hown (Or.inl (wd_60 hw)) (Via.of (wd_61 hw)) e20 zz2 E_a0 (Or.inl (wd_47 hw)) (wd_28 hw) (ty := .int) (by decide) rfl rfl (d8_7 hby) (pc' := 10) rfl ?_
 intro T21 h21 X21 e21 W21
 have f22 : Fld Z h21 a0 kc5 "modCount" "I" (.int (1 : Int32)) := zz2.same W21
 have K23 : Keep h0 h21 [a0] := (Keep.refl h0 [a0]).wr W21 (Or.inl (by simp))
 have N24 := Fr.snoc X21 N0 zz3
 refine w_aloadN X21 hx (d8_10 hby) rfl rfl (pc' := 11) rfl ?_
 refine w_aloadN X21 hx (d8_11 hby) rfl rfl (pc' := 12) rfl ?_
 refine w_aloadN X21 hx (d8_12 hby) rfl rfl (pc' := 13) rfl ?_
 have f25 : Fld Z h21 a0 kc1 "elementData" "[Ljava/lang/Object;" (.ref jj0) := (zz4.other W21 (Or.inr (slot_ne (Or.inl (wd_50 hw)) (Or.inl (wd_47 hw)) (by decide) (t := (.array (.object kc0))) (t' := .int) (by decide) (by decide))))
 refine w_getF X21 hx "" hZ hown (Or.inl (wd_49 hw)) Via.refl e21 f25 (d8_13 hby) (pc' := 16) rfl ?_
 intro T26 X26 e26
 refine w_aloadN X26 hx (d8_16 hby) rfl rfl (pc' := 17) rfl ?_
 have f27 : Fld Z h21 a0 kc1 "size" "I" (.int (0 : Int32)) := (zz5.other W21 (Or.inr (slot_ne (Or.inl (wd_63 hw)) (Or.inl (wd_47 hw)) (by decide) (t := .int) (t' := .int) (by decide) (by decide))))
 refine w_getF X26 hx "" hZ hown (Or.inl (wd_62 hw)) Via.refl e26 f27 (d8_17 hby) (pc' := 20) rfl ?_
 intro T28 X28 e28
 have ne29 : a0 ≠ jj0 := Exa.neArv E_a0 zz6 (wd_28 hw)
 have f30 : Arv Z h21 jj0 jj1 (.object kc0) (0 : Int32) [] .null := (zz6.other W21 (Ne.symm ne29))
 have f31 : Exa Z h21 a0 kc1 := (E_a0.wr W21)
 have f32 : Old Z n0 h21 := (O0.wr W21 zz3)
 have f33 : Exa Z h21 a1 kc2 := (E_a1.wr W21)
 obtain ⟨ce34, he34, hs34⟩ := Exa.cell f31
 refine w_private X28 hx (y := yn_9) hown (mvT hZ (wd_64 hw)) (mvT hZ (wd_65 hw)) (mvT hZ (wd_67 hw)) (Cond.privateMethod_at (args := #[]) (mvP hZ (wd_66 hw))) (mvT hZ (wd_68 hw)) (by decide) (backOf (W := 0) (rm_m9_15 l Z aZ hw [] a0 a1 jj0 jj1 h21 n0 (Nat.le_trans Z0 (Keep.of_wr W21).1) f30 f31 f27 f25 f22 zz7 f32 zz3 f33) hZ (wd_68 hw) (wd_29 hw) (by decide) (by decide)) ((congrArg (fun z : Heap => z[a0]?) e28).trans he34) hs34 (by rw [hml]; rfl) [(.ref a1), (.ref jj0), (.int (0 : Int32))] (lenOf pd_11 rfl) rfl (Nat.le_of_eq rfl) (d8_20 hby) (fun _ _ => ⟨rfl, e28, (by decide : 0 + 1 ≤ _), (by decide : 0 + 10 ≤ _)⟩) (pc' := 23) rfl ?_
 rintro _ _ ⟨T34, L34, k34, n34⟩ X34 ⟨Lc34, hQ34, l34, y34, z34⟩
 dsimp only [Pt.U, Pt.locs, Pt.cells, Pt.slots] at X34 l34 y34 z34 hQ34 ⊢
 subst l34 y34 z34
 obtain ⟨r0_34, c0_34, rfl, N34q, K34, g34_0, g34_1, g34_2, g34_3, g34_4, g34_5, g34_6, g34_7⟩ := hQ34
 have N35 := Fr.app N24 N34q
 have K36 : Keep h0 T34.heap [a0] := K23.trans K34 (allS (Or.inl (by simp)) (all0 (P := fun x => x ∈ [a0] ∨ h0.size ≤ x)))
 have ge37 : n0 ≤ r0_34 := Nat.le_trans (Nat.le_trans Z0 (Keep.of_wr W21).1) g34_0
 have sz38 : h0.size ≤ r0_34 := Nat.le_trans (Keep.of_wr W21).1 g34_0
 show Runs _ _ _ _ (T34.setTop (mkF m 23 #[.val (.ref a0), .val (.ref a1)] []))
 refine w_iconst X34 hx (d8_23 hby) (v := (1 : Int32)) rfl (pc' := 24) rfl ?_
 exact w_done X34 hlk (v := some (.int (1 : Int32))) rfl (fun h => by rw [hret] at h; cases h) (fun fs hr => retN X34 hx (t := .boolean) hret (by simp) (d8_24 hby) hr) (by decide) (by decide) (⟨r0_34, c0_34, rfl, N35, K36, sz38, g34_1, g34_2, g34_6, g34_3, g34_5, g34_4, g34_7⟩)
theorem ef_m14_20 (m : MethodId) (a0 : Addr)  : entryFrame m #[(.ref a0)] 1 = mkF m 0 #[.val (.ref a0)] [] := by first | (simp [entryFrame, mkF, argsToLocals, Value.category]; done) | rfl
def Q_m14_20 (Z : State) (a0 : Addr) (h0 : Heap) (n0 : Nat) (v : Option Value) (h : Heap) (L : List Loc) : Prop := v = none ∧ Fr n0 L ∧ h = h0
theorem rm_m14_20 (l : Launch) (Z : State) (aZ : Array Value) (hw : ∀ d ∈ tables_1, d.before aZ Z = true) (ws : List Jvm.Cond) (a0 : Addr) (h0 : Heap) (n0 : Nat) (Z0 : n0 ≤ h0.size) :
    MetN l Z yn_14 jdk_30_method_1_code 1 none ws ({ frames := 1, cells := 0, slots := 0, locals := 12 } : Room) #[(.ref a0)] h0 (Q_m14_20 Z a0 h0 n0) := by
 refine MetN.of (plainFor_of_name pn_6) ?_
 intro p e s m below meth c s₁ hret hx hby hml hown hnm hlk hZ X0 e0
 have N0 := Fr.nil n0
 rw [ef_m14_20 m a0]
 refine w_aloadN X0 hx (d14_0 hby) rfl rfl (pc' := 1) rfl ?_
 refine w_initO X0 hx 0 hZ hown (wd_97 hw) (wd_17 hw) (wd_18 hw) e0 (by rw [hml]; rfl) (d14_1 hby) (by decide) (Nat.le_of_eq rfl) (by decide) (pc' := 4) rfl ?_
 intro T20 X20 e20
 exact w_done X20 hlk (v := none) e20 (fun _ => rfl) (fun fs hr => X20.returnOut hx hret (d14_4 hby) hr) (by decide) (by decide) (⟨rfl, N0, rfl⟩)
theorem ef_m17_23 (m : MethodId) (a0 : Addr)  : entryFrame m #[(.ref a0)] 1 = mkF m 0 #[.val (.ref a0)] [] := by first | (simp [entryFrame, mkF, argsToLocals, Value.category]; done) | rfl
def Q_m17_23 (Z : State) (a0 : Addr) (h0 : Heap) (n0 : Nat) (v : Option Value) (h : Heap) (L : List Loc) : Prop := v = some (.int (0 : Int32)) ∧ Fr n0 L ∧ h = h0
theorem rm_m17_23 (l : Launch) (Z : State) (aZ : Array Value) (hw : ∀ d ∈ tables_1, d.before aZ Z = true) (ws : List Jvm.Cond) (a0 : Addr) (h0 : Heap) (n0 : Nat) (Z0 : n0 ≤ h0.size) (zz0 : Fld Z h0 a0 kc1 "size" "I" (.int (1 : Int32))) :
    MetN l Z yn_17 jdk_38_method_9_code 1 (some .boolean) ws ({ frames := 0, cells := 0, slots := 0, locals := 0 } : Room) #[(.ref a0)] h0 (Q_m17_23 Z a0 h0 n0) := by
 refine MetN.of (plainFor_of_name pn_5) ?_
 intro p e s m below meth c s₁ hret hx hby hml hown hnm hlk hZ X0 e0
 have N0 := Fr.nil n0
 rw [ef_m17_23 m a0]
 refine w_aloadN X0 hx (d17_0 hby) rfl rfl (pc' := 1) rfl ?_
 refine w_getF X0 hx "" hZ hown (Or.inl (wd_62 hw)) Via.refl e0 zz0 (d17_1 hby) (pc' := 4) rfl ?_
 intro T20 X20 e20
 refine w_ifY X20 hx (d17_4 hby) (feq (by decide : ¬ ((1 : Int32) = (0 : Int32)))).2 (pc' := 11) (by decide) (by decide) ?_
 refine w_iconst X20 hx (d17_11 hby) (v := (0 : Int32)) rfl (pc' := 12) rfl ?_
 exact w_done X20 hlk (v := some (.int (0 : Int32))) e20 (fun h => by rw [hret] at h; cases h) (fun fs hr => retN X20 hx (t := .boolean) hret (by simp) (d17_12 hby) hr) (by decide) (by decide) (⟨rfl, N0, rfl⟩)
theorem ef_m21_27 (m : MethodId)   : entryFrame m #[(.int (10 : Int32)), (.int (1 : Int32))] 2 = mkF m 0 #[.val (.int (10 : Int32)), .val (.int (1 : Int32))] [] := by first | (simp [entryFrame, mkF, argsToLocals, Value.category]; done) | rfl
def Q_m21_27 (Z : State)  (h0 : Heap) (n0 : Nat) (v : Option Value) (h : Heap) (L : List Loc) : Prop := v = some (.int (1 : Int32)) ∧ Fr n0 L ∧ h = h0
theorem rm_m21_27 (l : Launch) (Z : State) (aZ : Array Value) (hw : ∀ d ∈ tables_1, d.before aZ Z = true) (ws : List Jvm.Cond)  (h0 : Heap) (n0 : Nat) (Z0 : n0 ≤ h0.size) :
    MetN l Z yn_21 jdk_29_method_69_code 2 (some .int) ws ({ frames := 0, cells := 0, slots := 0, locals := 0 } : Room) #[(.int (10 : Int32)), (.int (1 : Int32))] h0 (Q_m21_27 Z  h0 n0) := by
 refine MetN.of (Jvm.Free.JP.mathPlain rfl (by decide +kernel)) ?_
 intro p e s m below meth c s₁ hret hx hby hml hown hnm hlk hZ X0 e0
 have N0 := Fr.nil n0
 rw [ef_m21_27 m ]
 refine w_iloadN X0 hx (d21_0 hby) rfl (pc' := 1) rfl ?_
 refine w_iloadN X0 hx (d21_1 hby) rfl (pc' := 2) rfl ?_
 refine w_icY X0 hx (d21_2 hby) (tlt (by decide : (1 : Int32) < (10 : Int32))).2.2.1 (pc' := 9) (by decide) (by decide) ?_
 refine w_iloadN X0 hx (d21_9 hby) rfl (pc' := 10) rfl ?_
 exact w_done X0 hlk (v := some (.int (1 : Int32))) e0 (fun h => by rw [hret] at h; cases h) (fun fs hr => retI X0 hx hret (d21_10 hby) hr) (by decide) (by decide) (⟨rfl, N0, rfl⟩)
theorem ef_m20_26 (m : MethodId) (a0 : Addr) (jj0 : Addr)  : entryFrame m #[(.ref a0), (.int (1 : Int32)), (.ref jj0)] 4 = mkF m 0 #[.val (.ref a0), .val (.int (1 : Int32)), .val (.ref jj0), .unset] [] := by first | (simp [entryFrame, mkF, argsToLocals, Value.category]; done) | rfl
def Q_m20_26 (Z : State) (a0 : Addr) (jj0 : Addr) (k_a0 : ClassId) (jj1 : Addr) (h0 : Heap) (n0 : Nat) (v : Option Value) (h : Heap) (L : List Loc) : Prop := ∃ (r0 : Addr) (c0 : ClassId), v = some (.ref r0) ∧ Fr n0 L ∧ Keep h0 h [] ∧ h0.size ≤ r0 ∧ Arv Z h r0 c0 (.object kc0) (1 : Int32) [(.ref jj1)] .null ∧ Exa Z h r0 "[Ljava/lang/Object;" ∧ Ovr Z c0 kc0
theorem rm_m20_26 (l : Launch) (Z : State) (aZ : Array Value) (hw : ∀ d ∈ tables_1, d.before aZ Z = true) (ws : List Jvm.Cond) (a0 : Addr) (jj0 : Addr) (k_a0 : ClassId) (jj1 : Addr) (h0 : Heap) (n0 : Nat) (Z0 : n0 ≤ h0.size) (zz2 : MirO Z "[Ljava/lang/Object;" jj0) (V_a0 : Arv Z h0 a0 k_a0 (.object kc0) (10 : Int32) [(.ref jj1), .null, .null, .null, .null, .null, .null, .null, .null, .null] .null) (zz3 : Exa Z h0 jj1 kc2) :
    MetN l Z yn_20 jdk_65_method_120_code 4 (some (.array (.object kc0))) ws ({ frames := 1, cells := 1, slots := 1, locals := 18 } : Room) #[(.ref a0), (.int (1 : Int32)), (.ref jj0)] h0 (Q_m20_26 Z a0 jj0 k_a0 jj1 h0 n0) := by
 refine MetN.of (plainFor_of_name pn_7) ?_
 intro p e s m below meth c s₁ hret hx hby hml hown hnm hlk hZ X0 e0
 have N0 := Fr.nil n0
 rw [ef_m20_26 m a0 jj0]
 refine w_aloadN X0 hx (d20_0 hby) rfl rfl (pc' := 1) rfl ?_
 refine w_ldcK X0 hx hZ hown (wd_142 hw) e0 zz2 (d20_1 hby) (pc' := 3) rfl ?_
 intro T20 X20 e20
 refine w_acmp X20 hx (d20_3 hby) (same := true) rfl rfl (decide_eq_true rfl) (pc' := 6) (by decide) (by decide) ?_
 refine w_iloadN X20 hx (d20_6 hby) rfl (pc' := 7) rfl ?_
 refine w_newR X20 hx 1 "[Ljava/lang/Object;" hZ hown (wd_143 hw) (wd_84 hw) e20 (d20_7 hby) (by decide) (by decide) (by decide) (by decide) (by decide) (by decide +kernel) (pc' := 10) rfl ?_
 intro T21 h21 k21 b21 X21 e21 E21 g21 A21 Q21 O21
 have ge22 : n0 ≤ b21 := Nat.le_trans Z0 (Nat.le_of_eq g21.symm)
 have sz23 : h0.size ≤ b21 := Nat.le_trans (Nat.le_refl _) (Nat.le_of_eq g21.symm)
 have K24 : Keep h0 h21 [] := (Keep.refl h0 []).ext E21
 have V25 : Arv Z h21 b21 k21 (.object kc0) (1 : Int32) [.null] .null := (Arv.new A21 (by decide)).pad (pad_rep [] .null 1)
 refine w_goto X21 hx (d20_10 hby) (pc' := 24) (by decide) (by decide) ?_
 refine w_astoreN X21 hx (d20_24 hby) rfl (L' := #[.val (.ref a0), .val (.int (1 : Int32)), .val (.ref jj0), .val (.ref b21)]) rfl (pc' := 25) rfl ?_
 refine w_aloadN X21 hx (d20_25 hby) rfl rfl (pc' := 26) rfl ?_
 refine w_iconst X21 hx (d20_26 hby) (v := (0 : Int32)) rfl (pc' := 27) rfl ?_
 refine w_aloadN X21 hx (d20_27 hby) rfl rfl (pc' := 28) rfl ?_
 refine w_iconst X21 hx (d20_28 hby) (v := (0 : Int32)) rfl (pc' := 29) rfl ?_
 refine w_aloadN X21 hx (d20_29 hby) rfl rfl (pc' := 30) rfl ?_
 have f26 : Arv Z h21 a0 k_a0 (.object kc0) (10 : Int32) [(.ref jj1), .null, .null, .null, .null, .null, .null, .null, .null, .null] .null := (V_a0.ext E21)
 refine w_alen X21 hx hZ e21 f26 (d20_30 hby) (pc' := 31) rfl ?_
 refine w_iloadN X21 hx (d20_31 hby) rfl (pc' := 32) rfl ?_
 refine w_static X21 hx (y := yn_21) hown (mvT hZ (wd_144 hw)) (mvT hZ (wd_145 hw)) (mvT hZ (wd_81 hw)) (mvT hZ (wd_146 hw)) (by decide) (backOf (W := 4) (rm_m21_27 l Z aZ hw []  h21 n0 (Nat.le_trans Z0 E21.1) ) hZ (wd_146 hw) (wd_81 hw) (by decide) (by decide)) (by rw [hml]; rfl) [(.int (10 : Int32)), (.int (1 : Int32))] (lenOf pd_8 rfl) rfl (Nat.le_of_eq rfl) (d20_32 hby) (fun _ _ => ⟨rfl, e21, (by decide : 1 + 0 ≤ _), (by decide : 1 + 0 ≤ _)⟩) (pc' := 35) rfl ?_
 rintro _ _ ⟨T27, L27, k27, n27⟩ X27 ⟨Lc27, hQ27, l27, y27, z27⟩
 dsimp only [Pt.U, Pt.locs, Pt.cells, Pt.slots] at X27 l27 y27 z27 hQ27 ⊢
 subst l27 y27 z27
 obtain ⟨rfl, N27q, e27⟩ := hQ27
 have N28 := Fr.app N0 N27q
 show Runs _ _ _ _ (T27.setTop (mkF m 35 #[.val (.ref a0), .val (.int (1 : Int32)), .val (.ref jj0), .val (.ref b21)] [(.int (1 : Int32)), (.int (0 : Int32)), (.ref b21), (.int (0 : Int32)), (.ref a0)]))
 have f30 : Exa Z h21 jj1 kc2 := (zz3.ext E21)
 obtain ⟨clu29, Aru29, qu29, Su29, Nu29, Hu29, Gu29⟩ := id V25
 refine w_cpA X27 hx (us := [(.ref jj1)]) (vr := [(.ref jj1)]) 0 hZ hown (wd_147 hw) (wd_150 hw) (wd_148 hw) (wd_149 hw) e27 f26 V25 (Or.inr ⟨rfl, rfl, ⟨(Sto.ofV Aru29 qu29 O21 (Ins.of_exa f30 (wd_85 hw))), trivial⟩⟩) (by decide) (by decide) (by decide) (by decide) (by decide) rfl (by decide) rfl N28 ge22 (by rw [hml]; rfl) (d20_35 hby) (by decide) (Nat.le_of_eq rfl) (by decide) (pc' := 38) rfl ?_
 intro T31 h31 L31 X31 e31 N31 K31 A31
 have K32 : Keep h0 h31 [] := K24.trans K31 (allS (Or.inr sz23) (all0 (P := fun x => x ∈ [] ∨ h0.size ≤ x)))
 refine w_aloadN X31 hx (d20_38 hby) rfl rfl (pc' := 39) rfl ?_
 have f33 : Exa Z h31 b21 "[Ljava/lang/Object;" := (Q21.keep K31)
 exact w_done X31 hlk (v := some (.ref b21)) e31 (fun h => by rw [hret] at h; cases h) (fun fs hr => retOut X31 hx hret rfl (Or.inr (Or.inr (Or.inr (Or.inr ⟨rfl, rfl, rfl⟩)))) (d20_39 hby) hr) (by decide) (by decide) (⟨b21, k21, rfl, N31, K32, sz23, A31, f33, O21⟩)
theorem ef_m19_25 (m : MethodId) (a0 : Addr)  : entryFrame m #[(.ref a0), (.int (1 : Int32))] 2 = mkF m 0 #[.val (.ref a0), .val (.int (1 : Int32))] [] := by first | (simp [entryFrame, mkF, argsToLocals, Value.category]; done) | rfl
def Q_m19_25 (Z : State) (a0 : Addr) (jj0 : Addr) (k_a0 : ClassId) (jj1 : Addr) (h0 : Heap) (n0 : Nat) (v : Option Value) (h : Heap) (L : List Loc) : Prop := ∃ (r0 : Addr) (c0 : ClassId), v = some (.ref r0) ∧ Fr n0 L ∧ Keep h0 h [] ∧ h0.size ≤ r0 ∧ Arv Z h r0 c0 (.object kc0) (1 : Int32) [(.ref jj1)] .null ∧ Exa Z h r0 "[Ljava/lang/Object;" ∧ Ovr Z c0 kc0
theorem rm_m19_25 (l : Launch) (Z : State) (aZ : Array Value) (hw : ∀ d ∈ tables_1, d.before aZ Z = true) (ws : List Jvm.Cond) (a0 : Addr) (jj0 : Addr) (k_a0 : ClassId) (jj1 : Addr) (h0 : Heap) (n0 : Nat) (Z0 : n0 ≤ h0.size) (E_a0 : Exa Z h0 a0 "[Ljava/lang/Object;") (zz2 : MirO Z "[Ljava/lang/Object;" jj0) (V_a0 : Arv Z h0 a0 k_a0 (.object kc0) (10 : Int32) [(.ref jj1), .null, .null, .null, .null, .null, .null, .null, .null, .null] .null) (zz3 : Exa Z h0 jj1 kc2) :
    MetN l Z yn_19 jdk_65_method_119_code 2 (some (.array (.object kc0))) ws ({ frames := 2, cells := 1, slots := 1, locals := 33 } : Room) #[(.ref a0), (.int (1 : Int32))] h0 (Q_m19_25 Z a0 jj0 k_a0 jj1 h0 n0) := by
 refine MetN.of (plainFor_of_name pn_7) ?_
 intro p e s m below meth c s₁ hret hx hby hml hown hnm hlk hZ X0 e0
 have N0 := Fr.nil n0
 rw [ef_m19_25 m a0]
 refine w_aloadN X0 hx (d19_0 hby) rfl rfl (pc' := 1) rfl ?_
 refine w_iloadN X0 hx (d19_1 hby) rfl (pc' := 2) rfl ?_
 refine w_aloadN X0 hx (d19_2 hby) rfl rfl (pc' := 3) rfl ?_
 refine w_gcls X0 hx 2 hZ hown (wd_133 hw) (wd_134 hw) (wd_110 hw) (wd_136 hw) (wd_135 hw) (wd_137 hw) e0 E_a0 zz2 (by rw [hml]; rfl) (d19_3 hby) (by decide) (Nat.le_of_eq rfl) (by decide) (pc' := 6) rfl ?_
 intro T20 X20 e20
 refine w_static X20 hx (y := yn_20) hown (mvT hZ (wd_139 hw)) (mvT hZ (wd_140 hw)) (mvT hZ (wd_131 hw)) (mvT hZ (wd_141 hw)) (by decide) (backOf (W := 0) (rm_m20_26 l Z aZ hw [] a0 jj0 k_a0 jj1 h0 n0 Z0 zz2 V_a0 zz3) hZ (wd_141 hw) (wd_131 hw) (by decide) (by decide)) (by rw [hml]; rfl) [(.ref a0), (.int (1 : Int32)), (.ref jj0)] (lenOf pd_14 rfl) rfl (Nat.le_of_eq rfl) (d19_6 hby) (fun _ _ => ⟨rfl, e20, (by decide : 0 + 1 ≤ _), (by decide : 0 + 1 ≤ _)⟩) (pc' := 9) rfl ?_
 rintro _ _ ⟨T21, L21, k21, n21⟩ X21 ⟨Lc21, hQ21, l21, y21, z21⟩
 dsimp only [Pt.U, Pt.locs, Pt.cells, Pt.slots] at X21 l21 y21 z21 hQ21 ⊢
 subst l21 y21 z21
 obtain ⟨r0_21, c0_21, rfl, N21q, K21, g21_0, g21_1, g21_2, g21_3⟩ := hQ21
 have N22 := Fr.app N0 N21q
 have K23 : Keep h0 T21.heap [] := (Keep.refl h0 []).trans K21 (all0 (P := fun x => x ∈ [] ∨ h0.size ≤ x))
 have ge24 : n0 ≤ r0_21 := Nat.le_trans Z0 g21_0
 have sz25 : h0.size ≤ r0_21 := Nat.le_trans (Nat.le_refl _) g21_0
 show Runs _ _ _ _ (T21.setTop (mkF m 9 #[.val (.ref a0), .val (.int (1 : Int32))] [(.ref r0_21)]))
 exact w_done X21 hlk (v := some (.ref r0_21)) rfl (fun h => by rw [hret] at h; cases h) (fun fs hr => retOut X21 hx hret rfl (Or.inr (Or.inr (Or.inr (Or.inr ⟨rfl, rfl, rfl⟩)))) (d19_9 hby) hr) (by decide) (by decide) (⟨r0_21, c0_21, rfl, N22, K23, sz25, g21_1, g21_2, g21_3⟩)
theorem ef_m18_24 (m : MethodId) (a0 : Addr)  : entryFrame m #[(.ref a0)] 1 = mkF m 0 #[.val (.ref a0)] [] := by first | (simp [entryFrame, mkF, argsToLocals, Value.category]; done) | rfl
def Q_m18_24 (Z : State) (a0 : Addr) (jj0 : Addr) (jj1 : ClassId) (jj2 : Addr) (jj3 : Addr) (h0 : Heap) (n0 : Nat) (v : Option Value) (h : Heap) (L : List Loc) : Prop := ∃ (r0 : Addr) (c0 : ClassId), v = some (.ref r0) ∧ Fr n0 L ∧ Keep h0 h [] ∧ h0.size ≤ r0 ∧ Arv Z h r0 c0 (.object kc0) (1 : Int32) [(.ref jj2)] .null ∧ Exa Z h r0 "[Ljava/lang/Object;" ∧ Ovr Z c0 kc0
theorem rm_m18_24 (l : Launch) (Z : State) (aZ : Array Value) (hw : ∀ d ∈ tables_1, d.before aZ Z = true) (ws : List Jvm.Cond) (a0 : Addr) (jj0 : Addr) (jj1 : ClassId) (jj2 : Addr) (jj3 : Addr) (h0 : Heap) (n0 : Nat) (Z0 : n0 ≤ h0.size) (zz4 : Fld Z h0 a0 kc1 "elementData" "[Ljava/lang/Object;" (.ref jj0)) (zz5 : Fld Z h0 a0 kc1 "size" "I" (.int (1 : Int32))) (zz6 : Exa Z h0 jj0 "[Ljava/lang/Object;") (zz7 : Arv Z h0 jj0 jj1 (.object kc0) (10 : Int32) [(.ref jj2), .null, .null, .null, .null, .null, .null, .null, .null, .null] .null) (zz8 : Exa Z h0 jj2 kc2) (zz9 : MirO Z "[Ljava/lang/Object;" jj3) :
    MetN l Z yn_18 jdk_38_method_16_code 1 (some (.array (.object kc0))) ws ({ frames := 3, cells := 1, slots := 1, locals := 46 } : Room) #[(.ref a0)] h0 (Q_m18_24 Z a0 jj0 jj1 jj2 jj3 h0 n0) := by
 refine MetN.of (plainFor_of_name pn_5) ?_
 intro p e s m below meth c s₁ hret hx hby hml hown hnm hlk hZ X0 e0
 have N0 := Fr.nil n0
 rw [ef_m18_24 m a0]
 refine w_aloadN X0 hx (d18_0 hby) rfl rfl (pc' := 1) rfl ?_
 refine w_getF X0 hx "" hZ hown (Or.inl (wd_49 hw)) Via.refl e0 zz4 (d18_1 hby) (pc' := 4) rfl ?_
 intro T20 X20 e20
 refine w_aloadN X20 hx (d18_4 hby) rfl rfl (pc' := 5) rfl ?_
 refine w_getF X20 hx "" hZ hown (Or.inl (wd_62 hw)) Via.refl e20 zz5 (d18_5 hby) (pc' := 8) rfl ?_
 intro T21 X21 e21
 refine w_static X21 hx (y := yn_19) hown (mvT hZ (wd_129 hw)) (mvT hZ (wd_130 hw)) (mvT hZ (wd_131 hw)) (mvT hZ (wd_132 hw)) (by decide) (backOf (W := 0) (rm_m19_25 l Z aZ hw [] jj0 jj3 jj1 jj2 h0 n0 Z0 zz6 zz9 zz7 zz8) hZ (wd_132 hw) (wd_131 hw) (by decide) (by decide)) (by rw [hml]; rfl) [(.ref jj0), (.int (1 : Int32))] (lenOf pd_15 rfl) rfl (Nat.le_of_eq rfl) (d18_8 hby) (fun _ _ => ⟨rfl, e21, (by decide : 0 + 1 ≤ _), (by decide : 0 + 1 ≤ _)⟩) (pc' := 11) rfl ?_
 rintro _ _ ⟨T22, L22, k22, n22⟩ X22 ⟨Lc22, hQ22, l22, y22, z22⟩
 dsimp only [Pt.U, Pt.locs, Pt.cells, Pt.slots] at X22 l22 y22 z22 hQ22 ⊢
 subst l22 y22 z22
 obtain ⟨r0_22, c0_22, rfl, N22q, K22, g22_0, g22_1, g22_2, g22_3⟩ := hQ22
 have N23 := Fr.app N0 N22q
 have K24 : Keep h0 T22.heap [] := (Keep.refl h0 []).trans K22 (all0 (P := fun x => x ∈ [] ∨ h0.size ≤ x))
 have ge25 : n0 ≤ r0_22 := Nat.le_trans Z0 g22_0
 have sz26 : h0.size ≤ r0_22 := Nat.le_trans (Nat.le_refl _) g22_0
 show Runs _ _ _ _ (T22.setTop (mkF m 11 #[.val (.ref a0)] [(.ref r0_22)]))
 exact w_done X22 hlk (v := some (.ref r0_22)) rfl (fun h => by rw [hret] at h; cases h) (fun fs hr => retOut X22 hx hret rfl (Or.inr (Or.inr (Or.inr (Or.inr ⟨rfl, rfl, rfl⟩)))) (d18_11 hby) hr) (by decide) (by decide) (⟨r0_22, c0_22, rfl, N23, K24, sz26, g22_1, g22_2, g22_3⟩)
theorem ef_m25_31 (m : MethodId) (a0 : Addr)  : entryFrame m #[(.ref a0)] 1 = mkF m 0 #[.val (.ref a0)] [] := by first | (simp [entryFrame, mkF, argsToLocals, Value.category]; done) | rfl
def Q_m25_31 (Z : State) (a0 : Addr) (h0 : Heap) (n0 : Nat) (v : Option Value) (h : Heap) (L : List Loc) : Prop := v = none ∧ Fr n0 L ∧ h = h0
theorem rm_m25_31 (l : Launch) (Z : State) (aZ : Array Value) (hw : ∀ d ∈ tables_1, d.before aZ Z = true) (ws : List Jvm.Cond) (a0 : Addr) (h0 : Heap) (n0 : Nat) (Z0 : n0 ≤ h0.size) :
    MetN l Z yn_25 jdk_47_method_1_code 1 none ws ({ frames := 2, cells := 0, slots := 0, locals := 24 } : Room) #[(.ref a0)] h0 (Q_m25_31 Z a0 h0 n0) := by
 refine MetN.of (plainFor_of_name pn_8) ?_
 intro p e s m below meth c s₁ hret hx hby hml hown hnm hlk hZ X0 e0
 have N0 := Fr.nil n0
 rw [ef_m25_31 m a0]
 refine w_aloadN X0 hx (d25_0 hby) rfl rfl (pc' := 1) rfl ?_
 refine w_special X0 hx (y := yn_7) rfl hown (mvT hZ (wd_173 hw)) (mvT hZ (wd_40 hw)) (mvT hZ (wd_44 hw)) (by decide) (backOf (W := 0) (rm_m7_13 l Z aZ hw [] a0 h0 n0 Z0 ) hZ (wd_44 hw) (wd_43 hw) (by decide) (by decide)) (by rw [hml]; rfl) [] (lenOf pd_7 rfl) rfl (Nat.le_of_eq rfl) (d25_1 hby) (fun _ _ => ⟨rfl, e0, (by decide : 0 + 0 ≤ _), (by decide : 0 + 0 ≤ _)⟩) (pc' := 4) rfl ?_
 rintro _ _ ⟨T20, L20, k20, n20⟩ X20 ⟨Lc20, hQ20, l20, y20, z20⟩
 dsimp only [Pt.U, Pt.locs, Pt.cells, Pt.slots] at X20 l20 y20 z20 hQ20 ⊢
 subst l20 y20 z20
 obtain ⟨rfl, N20q, e20⟩ := hQ20
 have N21 := Fr.app N0 N20q
 show Runs _ _ _ _ (T20.setTop (mkF m 4 #[.val (.ref a0)] []))
 exact w_done X20 hlk (v := none) e20 (fun _ => rfl) (fun fs hr => X20.returnOut hx hret (d25_4 hby) hr) (by decide) (by decide) (⟨rfl, N21, rfl⟩)
theorem ef_m24_30 (m : MethodId) (a0 : Addr)  : entryFrame m #[(.ref a0)] 1 = mkF m 0 #[.val (.ref a0)] [] := by first | (simp [entryFrame, mkF, argsToLocals, Value.category]; done) | rfl
def Q_m24_30 (Z : State) (a0 : Addr) (h0 : Heap) (n0 : Nat) (v : Option Value) (h : Heap) (L : List Loc) : Prop := v = none ∧ Fr n0 L ∧ h = h0
theorem rm_m24_30 (l : Launch) (Z : State) (aZ : Array Value) (hw : ∀ d ∈ tables_1, d.before aZ Z = true) (ws : List Jvm.Cond) (a0 : Addr) (h0 : Heap) (n0 : Nat) (Z0 : n0 ≤ h0.size) :
    MetN l Z yn_24 jdk_46_method_1_code 1 none ws ({ frames := 3, cells := 0, slots := 0, locals := 36 } : Room) #[(.ref a0)] h0 (Q_m24_30 Z a0 h0 n0) := by
 refine MetN.of (plainFor_of_name pn_9) ?_
 intro p e s m below meth c s₁ hret hx hby hml hown hnm hlk hZ X0 e0
 have N0 := Fr.nil n0
 rw [ef_m24_30 m a0]
 refine w_aloadN X0 hx (d24_0 hby) rfl rfl (pc' := 1) rfl ?_
 refine w_special X0 hx (y := yn_25) rfl hown (mvT hZ (wd_167 hw)) (mvT hZ (wd_168 hw)) (mvT hZ (wd_172 hw)) (by decide) (backOf (W := 0) (rm_m25_31 l Z aZ hw [] a0 h0 n0 Z0 ) hZ (wd_172 hw) (wd_171 hw) (by decide) (by decide)) (by rw [hml]; rfl) [] (lenOf pd_7 rfl) rfl (Nat.le_of_eq rfl) (d24_1 hby) (fun _ _ => ⟨rfl, e0, (by decide : 0 + 0 ≤ _), (by decide : 0 + 0 ≤ _)⟩) (pc' := 4) rfl ?_
 rintro _ _ ⟨T20, L20, k20, n20⟩ X20 ⟨Lc20, hQ20, l20, y20, z20⟩
 dsimp only [Pt.U, Pt.locs, Pt.cells, Pt.slots] at X20 l20 y20 z20 hQ20 ⊢
 subst l20 y20 z20
 obtain ⟨rfl, N20q, e20⟩ := hQ20
 have N21 := Fr.app N0 N20q
 show Runs _ _ _ _ (T20.setTop (mkF m 4 #[.val (.ref a0)] []))
 exact w_done X20 hlk (v := none) e20 (fun _ => rfl) (fun fs hr => X20.returnOut hx hret (d24_4 hby) hr) (by decide) (by decide) (⟨rfl, N21, rfl⟩)
theorem ef_m26_32 (m : MethodId) (a0 : Addr)  : entryFrame m #[(.ref a0)] 1 = mkF m 0 #[.val (.ref a0)] [] := by first | (simp [entryFrame, mkF, argsToLocals, Value.category]; done) | rfl
def Q_m26_32 (Z : State) (a0 : Addr) (h0 : Heap) (n0 : Nat) (v : Option Value) (h : Heap) (L : List Loc) : Prop := v = some (.ref a0) ∧ Fr n0 L ∧ h = h0
theorem rm_m26_32 (l : Launch) (Z : State) (aZ : Array Value) (hw : ∀ d ∈ tables_1, d.before aZ Z = true) (ws : List Jvm.Cond) (a0 : Addr) (h0 : Heap) (n0 : Nat) (Z0 : n0 ≤ h0.size) :
    MetN l Z yn_26 jdk_31_method_10_code 1 (some (.object kc0)) ws ({ frames := 0, cells := 0, slots := 0, locals := 0 } : Room) #[(.ref a0)] h0 (Q_m26_32 Z a0 h0 n0) := by
 refine MetN.of (plainFor_of_name pn_10) ?_
 intro p e s m below meth c s₁ hret hx hby hml hown hnm hlk hZ X0 e0
 have N0 := Fr.nil n0
 rw [ef_m26_32 m a0]
 refine w_aloadN X0 hx (d26_0 hby) rfl rfl (pc' := 1) rfl ?_
 refine w_ifnonnullY X0 hx (d26_1 hby) (pc' := 12) (by decide) (by decide) ?_
 refine w_aloadN X0 hx (d26_12 hby) rfl rfl (pc' := 13) rfl ?_
 exact w_done X0 hlk (v := some (.ref a0)) e0 (fun h => by rw [hret] at h; cases h) (fun fs hr => retOut X0 hx hret rfl (Or.inr (Or.inr (Or.inr (Or.inr ⟨rfl, rfl, rfl⟩)))) (d26_13 hby) hr) (by decide) (by decide) (⟨rfl, N0, rfl⟩)
theorem ef_m23_29 (m : MethodId) (a0 : Addr) (a1 : Addr)  : entryFrame m #[(.ref a0), (.ref a1)] 2 = mkF m 0 #[.val (.ref a0), .val (.ref a1)] [] := by first | (simp [entryFrame, mkF, argsToLocals, Value.category]; done) | rfl
def Q_m23_29 (Z : State) (a0 : Addr) (a1 : Addr) (jj0 : Addr) (h0 : Heap) (n0 : Nat) (v : Option Value) (h : Heap) (L : List Loc) : Prop := v = none ∧ Fr n0 L ∧ Keep h0 h [a0] ∧ Exa Z h a0 kc3 ∧ Fld Z h a0 kc3 "e0" "Ljava/lang/Object;" (.ref a1) ∧ Fld Z h a0 kc3 "e1" "Ljava/lang/Object;" (.ref jj0)
theorem rm_m23_29 (l : Launch) (Z : State) (aZ : Array Value) (hw : ∀ d ∈ tables_1, d.before aZ Z = true) (ws : List Jvm.Cond) (a0 : Addr) (a1 : Addr) (jj0 : Addr) (h0 : Heap) (n0 : Nat) (Z0 : n0 ≤ h0.size) (E_a0 : Exa Z h0 a0 kc3) (zz1 : Fld Z h0 a0 kc3 "e0" "Ljava/lang/Object;" .null) (zz2 : n0 ≤ a0) (zz3 : Sta Z Z.heap kc7 "EMPTY" "Ljava/lang/Object;" (.ref jj0)) (O0 : Old Z n0 h0) (zz4 : Fld Z h0 a0 kc3 "e1" "Ljava/lang/Object;" .null) :
    MetN l Z yn_23 jdk_44_method_1_code 2 none ws ({ frames := 4, cells := 0, slots := 0, locals := 48 } : Room) #[(.ref a0), (.ref a1)] h0 (Q_m23_29 Z a0 a1 jj0 h0 n0) := by
 refine MetN.of (plainFor_of_name pn_11) ?_
 intro p e s m below meth c s₁ hret hx hby hml hown hnm hlk hZ X0 e0
 have N0 := Fr.nil n0
 rw [ef_m23_29 m a0 a1]
 refine w_aloadN X0 hx (d23_0 hby) rfl rfl (pc' := 1) rfl ?_
 refine w_special X0 hx (y := yn_24) rfl hown (mvT hZ (wd_161 hw)) (mvT hZ (wd_162 hw)) (mvT hZ (wd_166 hw)) (by decide) (backOf (W := 0) (rm_m24_30 l Z aZ hw [] a0 h0 n0 Z0 ) hZ (wd_166 hw) (wd_165 hw) (by decide) (by decide)) (by rw [hml]; rfl) [] (lenOf pd_7 rfl) rfl (Nat.le_of_eq rfl) (d23_1 hby) (fun _ _ => ⟨rfl, e0, (by decide : 0 + 0 ≤ _), (by decide : 0 + 0 ≤ _)⟩) (pc' := 4) rfl ?_
 rintro _ _ ⟨T20, L20, k20, n20⟩ X20 ⟨Lc20, hQ20, l20, y20, z20⟩
 dsimp only [Pt.U, Pt.locs, Pt.cells, Pt.slots] at X20 l20 y20 z20 hQ20 ⊢
 subst l20 y20 z20
 obtain ⟨rfl, N20q, e20⟩ := hQ20
 have N21 := Fr.app N0 N20q
 show Runs _ _ _ _ (T20.setTop (mkF m 4 #[.val (.ref a0), .val (.ref a1)] []))
 refine w_aloadN X20 hx (d23_4 hby) rfl rfl (pc' := 5) rfl ?_
 refine w_aloadN X20 hx (d23_5 hby) rfl rfl (pc' := 6) rfl ?_
 refine w_static X20 hx (y := yn_26) hown (mvT hZ (wd_175 hw)) (mvT hZ (wd_176 hw)) (mvT hZ (wd_177 hw)) (mvT hZ (wd_178 hw)) (by decide) (backOf (W := 1) (rm_m26_32 l Z aZ hw [] a1 h0 n0 Z0 ) hZ (wd_178 hw) (wd_177 hw) (by decide) (by decide)) (by rw [hml]; rfl) [(.ref a1)] (lenOf pd_16 rfl) rfl (Nat.le_of_eq rfl) (d23_6 hby) (fun _ _ => ⟨rfl, e20, (by decide : 0 + 0 ≤ _), (by decide : 0 + 0 ≤ _)⟩) (pc' := 9) rfl ?_
 rintro _ _ ⟨T22, L22, k22, n22⟩ X22 ⟨Lc22, hQ22, l22, y22, z22⟩
 dsimp only [Pt.U, Pt.locs, Pt.cells, Pt.slots] at X22 l22 y22 z22 hQ22 ⊢
 subst l22 y22 z22
 obtain ⟨rfl, N22q, e22⟩ := hQ22
 have N23 := Fr.app N21 N22q
 show Runs _ _ _ _ (T22.setTop (mkF m 9 #[.val (.ref a0), .val (.ref a1)] [(.ref a1), (.ref a0)]))
 refine w_putF X22 hx "" hZ hown (Or.inl (wd_179 hw)) Via.refl e22 zz1 E_a0 (Or.inr ⟨(wd_180 hw), rfl, hnm⟩) (wd_155 hw) (ty := (.object kc0)) (by decide) rfl rfl (d23_9 hby) (pc' := 12) rfl ?_
 intro T24 h24 X24 e24 W24
 have f25 : Fld Z h24 a0 kc3 "e0" "Ljava/lang/Object;" (.ref a1) := zz1.same W24
 have K26 : Keep h0 h24 [a0] := (Keep.refl h0 [a0]).wr W24 (Or.inl (by simp))
 have N27 := Fr.snoc X24 N23 zz2
 refine w_aloadN X24 hx (d23_12 hby) rfl rfl (pc' := 13) rfl ?_
 have f28 : Old Z n0 h24 := (O0.wr W24 zz2)
 refine w_getS X24 hx kc7 hZ hown (Or.inr (wd_181 hw)) Via.refl e24 (zz3.ext f28.2) (d23_13 hby) (pc' := 16) rfl ?_
 intro T29 X29 e29
 have f30 : Exa Z h24 a0 kc3 := (E_a0.wr W24)
 have f31 : Fld Z h24 a0 kc3 "e1" "Ljava/lang/Object;" .null := (zz4.other W24 (Or.inr (slot_ne (Or.inr (wd_183 hw)) (Or.inr (wd_180 hw)) (by decide) (t := (.object kc0)) (t' := (.object kc0)) (by decide) (by decide))))
 refine w_putF X29 hx "" hZ hown (Or.inl (wd_182 hw)) Via.refl e29 f31 f30 (Or.inr ⟨(wd_183 hw), rfl, hnm⟩) (wd_155 hw) (ty := (.object kc0)) (by decide) rfl rfl (d23_16 hby) (pc' := 19) rfl ?_
 intro T32 h32 X32 e32 W32
 have f33 : Fld Z h32 a0 kc3 "e1" "Ljava/lang/Object;" (.ref jj0) := f31.same W32
 have K34 : Keep h0 h32 [a0] := K26.wr W32 (Or.inl (by simp))
 have N35 := Fr.snoc X32 N27 zz2
 have f36 : Exa Z h32 a0 kc3 := (f30.wr W32)
 have f37 : Fld Z h32 a0 kc3 "e0" "Ljava/lang/Object;" (.ref a1) := (f25.other W32 (Or.inr (slot_ne (Or.inr (wd_180 hw)) (Or.inr (wd_183 hw)) (by decide) (t := (.object kc0)) (t' := (.object kc0)) (by decide) (by decide))))
 exact w_done X32 hlk (v := none) e32 (fun _ => rfl) (fun fs hr => X32.returnOut hx hret (d23_19 hby) hr) (by decide) (by decide) (⟨rfl, N35, K34, f36, f37, f33⟩)
theorem ef_m22_28 (m : MethodId) (a0 : Addr)  : entryFrame m #[(.ref a0)] 2 = mkF m 0 #[.val (.ref a0), .unset] [] := by first | (simp [entryFrame, mkF, argsToLocals, Value.category]; done) | rfl
def Q_m22_28 (Z : State) (a0 : Addr) (k_a0 : ClassId) (jj0 : Addr) (jj1 : Addr) (h0 : Heap) (n0 : Nat) (v : Option Value) (h : Heap) (L : List Loc) : Prop := ∃ (r0 : Addr), v = some (.ref r0) ∧ Fr n0 L ∧ Keep h0 h [] ∧ h0.size ≤ r0 ∧ Exa Z h r0 kc3 ∧ Fld Z h r0 kc3 "e0" "Ljava/lang/Object;" (.ref jj0) ∧ Fld Z h r0 kc3 "e1" "Ljava/lang/Object;" (.ref jj1)
theorem rm_m22_28 (l : Launch) (Z : State) (aZ : Array Value) (hw : ∀ d ∈ tables_1, d.before aZ Z = true) (ws : List Jvm.Cond) (a0 : Addr) (k_a0 : ClassId) (jj0 : Addr) (jj1 : Addr) (h0 : Heap) (n0 : Nat) (Z0 : n0 ≤ h0.size) (V_a0 : Arv Z h0 a0 k_a0 (.object kc0) (1 : Int32) [(.ref jj0)] .null) (zz2 : Sta Z Z.heap kc7 "EMPTY" "Ljava/lang/Object;" (.ref jj1)) (O0 : Old Z n0 h0) :
    MetN l Z yn_22 jdk_40_method_47_code 2 (some (.object "java/util/List")) ws ({ frames := 5, cells := 1, slots := 2, locals := 62 } : Room) #[(.ref a0)] h0 (Q_m22_28 Z a0 k_a0 jj0 jj1 h0 n0) := by
 refine MetN.of (plainFor_of_name pn_12) ?_
 intro p e s m below meth c s₁ hret hx hby hml hown hnm hlk hZ X0 e0
 have N0 := Fr.nil n0
 rw [ef_m22_28 m a0]
 refine w_aloadN X0 hx (d22_0 hby) rfl rfl (pc' := 1) rfl ?_
 refine w_alen X0 hx hZ e0 V_a0 (d22_1 hby) (pc' := 2) rfl ?_
 refine w_tswIn X0 hx (d22_2 hby) (by decide) (o := 32) rfl (pc' := 34) (by decide) (by decide) ?_
 refine w_new X0 hx hZ hown (wd_154 hw) (wd_155 hw) (wd_156 hw) e0 (d22_34 hby) (by decide) (by decide) (pc' := 37) rfl ?_
 intro T20 h20 b20 X20 e20 E20 g20 A20 D20
 have ge21 : n0 ≤ b20 := Nat.le_trans Z0 (Nat.le_of_eq g20.symm)
 have sz22 : h0.size ≤ b20 := Nat.le_trans (Nat.le_refl _) (Nat.le_of_eq g20.symm)
 have K23 : Keep h0 h20 [] := (Keep.refl h0 []).ext E20
 have f24 : Fld Z h20 b20 kc3 "e0" "Ljava/lang/Object;" .null := D20 (Or.inr (wd_180 hw)) (ty := (.object kc0)) (by decide)
 have f25 : Fld Z h20 b20 kc3 "e1" "Ljava/lang/Object;" .null := D20 (Or.inr (wd_183 hw)) (ty := (.object kc0)) (by decide)
 refine w_dup X20 hx (d22_37 hby) rfl (pc' := 38) rfl ?_
 refine w_aloadN X20 hx (d22_38 hby) rfl rfl (pc' := 39) rfl ?_
 refine w_iconst X20 hx (d22_39 hby) (v := (0 : Int32)) rfl (pc' := 40) rfl ?_
 have f26 : Arv Z h20 a0 k_a0 (.object kc0) (1 : Int32) [(.ref jj0)] .null := (V_a0.ext E20)
 obtain ⟨clu27, Aru27, qu27, Su27, Nu27, Hu27, Gu27⟩ := id f26
 have hinu27 := inb_of (j := (0 : Int32)) Su27 ⟨by decide, by decide⟩
 refine w_aaload X20 hx hZ e20 Aru27 rfl hinu27 (Hu27.at hinu27 rfl) (d22_40 hby) (pc' := 41) rfl ?_
 have f28 : Old Z n0 h20 := (O0.ext E20)
 refine w_special X20 hx (y := yn_23) rfl hown (mvT hZ (wd_157 hw)) (mvT hZ (wd_158 hw)) (mvT hZ (wd_160 hw)) (by decide) (backOf (W := 1) (rm_m23_29 l Z aZ hw [] b20 jj0 jj1 h20 n0 (Nat.le_trans Z0 E20.1) A20 f24 ge21 zz2 f28 f25) hZ (wd_160 hw) (wd_156 hw) (by decide) (by decide)) (by rw [hml]; rfl) [(.ref jj0)] (lenOf pd_17 rfl) rfl (Nat.le_of_eq rfl) (d22_41 hby) (fun _ _ => ⟨rfl, e20, (by decide : 1 + 0 ≤ _), (by decide : 2 + 0 ≤ _)⟩) (pc' := 44) rfl ?_
 rintro _ _ ⟨T29, L29, k29, n29⟩ X29 ⟨Lc29, hQ29, l29, y29, z29⟩
 dsimp only [Pt.U, Pt.locs, Pt.cells, Pt.slots] at X29 l29 y29 z29 hQ29 ⊢
 subst l29 y29 z29
 obtain ⟨rfl, N29q, K29, g29_0, g29_1, g29_2⟩ := hQ29
 have N30 := Fr.app N0 N29q
 have K31 : Keep h0 T29.heap [] := K23.trans K29 (allS (Or.inr sz22) (all0 (P := fun x => x ∈ [] ∨ h0.size ≤ x)))
 show Runs _ _ _ _ (T29.setTop (mkF m 44 #[.val (.ref a0), .unset] [(.ref b20)]))
 exact w_done X29 hlk (v := some (.ref b20)) rfl (fun h => by rw [hret] at h; cases h) (fun fs hr => retOut X29 hx hret rfl (Or.inr (Or.inr (Or.inr (Or.inr ⟨rfl, rfl, rfl⟩)))) (d22_44 hby) hr) (by decide) (by decide) (⟨b20, rfl, N30, K31, sz22, g29_0, g29_1, g29_2⟩)
theorem ef_m16_22 (m : MethodId) (a0 : Addr)  : entryFrame m #[(.ref a0)] 2 = mkF m 0 #[.val (.ref a0), .unset] [] := by first | (simp [entryFrame, mkF, argsToLocals, Value.category]; done) | rfl
def Q_m16_22 (Z : State) (a0 : Addr) (jj0 : Addr) (jj1 : ClassId) (jj2 : Addr) (jj3 : Addr) (jj4 : Addr) (h0 : Heap) (n0 : Nat) (v : Option Value) (h : Heap) (L : List Loc) : Prop := ∃ (r0 : Addr), v = some (.ref r0) ∧ Fr n0 L ∧ Keep h0 h [] ∧ h0.size ≤ r0 ∧ Exa Z h r0 kc3 ∧ Fld Z h r0 kc3 "e0" "Ljava/lang/Object;" (.ref jj2) ∧ Fld Z h r0 kc3 "e1" "Ljava/lang/Object;" (.ref jj4)
theorem rm_m16_22 (l : Launch) (Z : State) (aZ : Array Value) (hw : ∀ d ∈ tables_1, d.before aZ Z = true) (ws : List Jvm.Cond) (a0 : Addr) (jj0 : Addr) (jj1 : ClassId) (jj2 : Addr) (jj3 : Addr) (jj4 : Addr) (h0 : Heap) (n0 : Nat) (Z0 : n0 ≤ h0.size) (E_a0 : Exa Z h0 a0 kc1) (zz5 : Fld Z h0 a0 kc1 "size" "I" (.int (1 : Int32))) (zz6 : Fld Z h0 a0 kc1 "elementData" "[Ljava/lang/Object;" (.ref jj0)) (zz7 : Exa Z h0 jj0 "[Ljava/lang/Object;") (zz8 : Arv Z h0 jj0 jj1 (.object kc0) (10 : Int32) [(.ref jj2), .null, .null, .null, .null, .null, .null, .null, .null, .null] .null) (zz9 : Exa Z h0 jj2 kc2) (zz10 : MirO Z "[Ljava/lang/Object;" jj3) (zz11 : Sta Z Z.heap kc7 "EMPTY" "Ljava/lang/Object;" (.ref jj4)) (O0 : Old Z n0 h0) :
    MetN l Z yn_16 jdk_56_method_3_code 2 (some (.object "java/util/List")) ws ({ frames := 6, cells := 2, slots := 3, locals := 75 } : Room) #[(.ref a0)] h0 (Q_m16_22 Z a0 jj0 jj1 jj2 jj3 jj4 h0 n0) := by
 refine MetN.of (plainFor_of_name pn_13) ?_
 intro p e s m below meth c s₁ hret hx hby hml hown hnm hlk hZ X0 e0
 have N0 := Fr.nil n0
 rw [ef_m16_22 m a0]
 refine w_aloadN X0 hx (d16_0 hby) rfl rfl (pc' := 1) rfl ?_
 refine w_instNo X0 hx hZ hown (wd_106 hw) e0 E_a0 (own_nsno (wd_107 hw) (wd_155 hw) (NS.step (wd_107 hw) (NS.step (wd_108 hw) (NS.step (wd_109 hw) (own_nsroot (wd_110 hw) (wd_155 hw) (by decide)) (by decide)) (by decide)) (by decide)) (by decide)) (d16_1 hby) (pc' := 4) rfl ?_
 intro T20 X20 e20
 refine w_ifN X20 hx (d16_4 hby) (teq (by decide : (0 : Int32) = (0 : Int32))).2 (pc' := 7) rfl ?_
 refine w_aloadN X20 hx (d16_7 hby) rfl rfl (pc' := 8) rfl ?_
 refine w_instNo X20 hx hZ hown (wd_111 hw) e20 E_a0 (own_nsno (wd_107 hw) (wd_247 hw) (NS.step (wd_107 hw) (NS.step (wd_108 hw) (NS.step (wd_109 hw) (own_nsroot (wd_110 hw) (wd_247 hw) (by decide)) (by decide)) (by decide)) (by decide)) (by decide)) (d16_8 hby) (pc' := 11) rfl ?_
 intro T21 X21 e21
 refine w_ifY X21 hx (d16_11 hby) (teq (by decide : (0 : Int32) = (0 : Int32))).1 (pc' := 31) (by decide) (by decide) ?_
 refine w_aloadN X21 hx (d16_31 hby) rfl rfl (pc' := 32) rfl ?_
 obtain ⟨cq22, kq22, q22a, q22b, q22c⟩ := isOf hZ e21 E_a0
 refine w_interface X21 hx (xi := (⟨"java/util/Collection", "isEmpty", "()Z"⟩ : MethodName)) (y := yn_17) hown (mvT hZ (wd_112 hw)) (mvT hZ (wd_113 hw)) (mvT hZ (wd_114 hw)) (mvT hZ (wd_115 hw)) (mvT hZ (wd_116 hw)) (mvT hZ (wd_117 hw)) (mvT hZ (wd_118 hw)) (mvT hZ (wd_119 hw)) (by decide) (backOf (W := 0) (rm_m17_23 l Z aZ hw [] a0 h0 n0 Z0 zz5) hZ (wd_120 hw) (wd_29 hw) (by decide) (by decide)) q22a q22b q22c (by rw [hml]; rfl) [] (lenOf pd_13 rfl) rfl (Nat.le_of_eq rfl) (d16_32 hby) (fun _ _ => ⟨rfl, e21, (by decide : 0 + 0 ≤ _), (by decide : 0 + 0 ≤ _)⟩) (pc' := 37) rfl ?_
 rintro _ _ ⟨T22, L22, k22, n22⟩ X22 ⟨Lc22, hQ22, l22, y22, z22⟩
 dsimp only [Pt.U, Pt.locs, Pt.cells, Pt.slots] at X22 l22 y22 z22 hQ22 ⊢
 subst l22 y22 z22
 obtain ⟨rfl, N22q, e22⟩ := hQ22
 have N23 := Fr.app N0 N22q
 show Runs _ _ _ _ (T22.setTop (mkF m 37 #[.val (.ref a0), .unset] [(.int (0 : Int32))]))
 refine w_ifY X22 hx (d16_37 hby) (teq (by decide : (0 : Int32) = (0 : Int32))).1 (pc' := 44) (by decide) (by decide) ?_
 refine w_aloadN X22 hx (d16_44 hby) rfl rfl (pc' := 45) rfl ?_
 obtain ⟨cq24, kq24, q24a, q24b, q24c⟩ := isOf hZ e22 E_a0
 refine w_interface X22 hx (xi := (⟨"java/util/Collection", "toArray", "()[Ljava/lang/Object;"⟩ : MethodName)) (y := yn_18) hown (mvT hZ (wd_121 hw)) (mvT hZ (wd_122 hw)) (mvT hZ (wd_123 hw)) (mvT hZ (wd_124 hw)) (mvT hZ (wd_125 hw)) (mvT hZ (wd_126 hw)) (mvT hZ (wd_127 hw)) (mvT hZ (wd_119 hw)) (by decide) (backOf (W := 0) (rm_m18_24 l Z aZ hw [] a0 jj0 jj1 jj2 jj3 h0 n0 Z0 zz6 zz5 zz7 zz8 zz9 zz10) hZ (wd_128 hw) (wd_29 hw) (by decide) (by decide)) q24a q24b q24c (by rw [hml]; rfl) [] (lenOf pd_10 rfl) rfl (Nat.le_of_eq rfl) (d16_45 hby) (fun _ _ => ⟨rfl, e22, (by decide : 0 + 1 ≤ _), (by decide : 0 + 1 ≤ _)⟩) (pc' := 50) rfl ?_
 rintro _ _ ⟨T24, L24, k24, n24⟩ X24 ⟨Lc24, hQ24, l24, y24, z24⟩
 dsimp only [Pt.U, Pt.locs, Pt.cells, Pt.slots] at X24 l24 y24 z24 hQ24 ⊢
 subst l24 y24 z24
 obtain ⟨r0_24, c0_24, rfl, N24q, K24, g24_0, g24_1, g24_2, g24_3⟩ := hQ24
 have N25 := Fr.app N23 N24q
 have K26 : Keep h0 T24.heap [] := (Keep.refl h0 []).trans K24 (all0 (P := fun x => x ∈ [] ∨ h0.size ≤ x))
 have ge27 : n0 ≤ r0_24 := Nat.le_trans Z0 g24_0
 have sz28 : h0.size ≤ r0_24 := Nat.le_trans (Nat.le_refl _) g24_0
 show Runs _ _ _ _ (T24.setTop (mkF m 50 #[.val (.ref a0), .unset] [(.ref r0_24)]))
 have f29 : Old Z n0 T24.heap := (O0.keep K24 all0)
 refine w_static X24 hx (y := yn_22) hown (mvT hZ (wd_151 hw)) (mvT hZ (wd_152 hw)) (mvT hZ (wd_100 hw)) (mvT hZ (wd_153 hw)) (by decide) (backOf (W := 0) (rm_m22_28 l Z aZ hw [] r0_24 c0_24 jj2 jj4 T24.heap n0 (Nat.le_trans Z0 K24.1) g24_1 zz11 f29) hZ (wd_153 hw) (wd_100 hw) (by decide) (by decide)) (by rw [hml]; rfl) [(.ref r0_24)] (lenOf pd_18 rfl) rfl (Nat.le_of_eq rfl) (d16_50 hby) (fun _ _ => ⟨rfl, rfl, (by decide : 1 + 1 ≤ _), (by decide : 1 + 2 ≤ _)⟩) (pc' := 53) rfl ?_
 rintro _ _ ⟨T30, L30, k30, n30⟩ X30 ⟨Lc30, hQ30, l30, y30, z30⟩
 dsimp only [Pt.U, Pt.locs, Pt.cells, Pt.slots] at X30 l30 y30 z30 hQ30 ⊢
 subst l30 y30 z30
 obtain ⟨r0_30, rfl, N30q, K30, g30_0, g30_1, g30_2, g30_3⟩ := hQ30
 have N31 := Fr.app N25 N30q
 have K32 : Keep h0 T30.heap [] := K26.trans K30 (all0 (P := fun x => x ∈ [] ∨ h0.size ≤ x))
 have ge33 : n0 ≤ r0_30 := Nat.le_trans (Nat.le_trans Z0 K24.1) g30_0
 have sz34 : h0.size ≤ r0_30 := Nat.le_trans K24.1 g30_0
 show Runs _ _ _ _ (T30.setTop (mkF m 53 #[.val (.ref a0), .unset] [(.ref r0_30)]))
 exact w_done X30 hlk (v := some (.ref r0_30)) rfl (fun h => by rw [hret] at h; cases h) (fun fs hr => retOut X30 hx hret rfl (Or.inr (Or.inr (Or.inr (Or.inr ⟨rfl, rfl, rfl⟩)))) (d16_53 hby) hr) (by decide) (by decide) (⟨r0_30, rfl, N31, K32, sz34, g30_1, g30_2, g30_3⟩)
theorem ef_m15_21 (m : MethodId) (a0 : Addr)  : entryFrame m #[(.ref a0)] 1 = mkF m 0 #[.val (.ref a0)] [] := by first | (simp [entryFrame, mkF, argsToLocals, Value.category]; done) | rfl
def Q_m15_21 (Z : State) (a0 : Addr) (jj0 : Addr) (jj1 : ClassId) (jj2 : Addr) (jj3 : Addr) (jj4 : Addr) (h0 : Heap) (n0 : Nat) (v : Option Value) (h : Heap) (L : List Loc) : Prop := ∃ (r0 : Addr), v = some (.ref r0) ∧ Fr n0 L ∧ Keep h0 h [] ∧ h0.size ≤ r0 ∧ Exa Z h r0 kc3 ∧ Fld Z h r0 kc3 "e0" "Ljava/lang/Object;" (.ref jj2) ∧ Fld Z h r0 kc3 "e1" "Ljava/lang/Object;" (.ref jj4)
theorem rm_m15_21 (l : Launch) (Z : State) (aZ : Array Value) (hw : ∀ d ∈ tables_1, d.before aZ Z = true) (ws : List Jvm.Cond) (a0 : Addr) (jj0 : Addr) (jj1 : ClassId) (jj2 : Addr) (jj3 : Addr) (jj4 : Addr) (h0 : Heap) (n0 : Nat) (Z0 : n0 ≤ h0.size) (E_a0 : Exa Z h0 a0 kc1) (zz5 : Fld Z h0 a0 kc1 "size" "I" (.int (1 : Int32))) (zz6 : Fld Z h0 a0 kc1 "elementData" "[Ljava/lang/Object;" (.ref jj0)) (zz7 : Exa Z h0 jj0 "[Ljava/lang/Object;") (zz8 : Arv Z h0 jj0 jj1 (.object kc0) (10 : Int32) [(.ref jj2), .null, .null, .null, .null, .null, .null, .null, .null, .null] .null) (zz9 : Exa Z h0 jj2 kc2) (zz10 : MirO Z "[Ljava/lang/Object;" jj3) (zz11 : Sta Z Z.heap kc7 "EMPTY" "Ljava/lang/Object;" (.ref jj4)) (O0 : Old Z n0 h0) :
    MetN l Z yn_15 jdk_40_method_48_code 1 (some (.object "java/util/List")) ws ({ frames := 7, cells := 2, slots := 3, locals := 88 } : Room) #[(.ref a0)] h0 (Q_m15_21 Z a0 jj0 jj1 jj2 jj3 jj4 h0 n0) := by
 refine MetN.of (plainFor_of_name pn_12) ?_
 intro p e s m below meth c s₁ hret hx hby hml hown hnm hlk hZ X0 e0
 have N0 := Fr.nil n0
 rw [ef_m15_21 m a0]
 refine w_aloadN X0 hx (d15_0 hby) rfl rfl (pc' := 1) rfl ?_
 refine w_static X0 hx (y := yn_16) hown (mvT hZ (wd_102 hw)) (mvT hZ (wd_103 hw)) (mvT hZ (wd_104 hw)) (mvT hZ (wd_105 hw)) (by decide) (backOf (W := 0) (rm_m16_22 l Z aZ hw [] a0 jj0 jj1 jj2 jj3 jj4 h0 n0 Z0 E_a0 zz5 zz6 zz7 zz8 zz9 zz10 zz11 O0) hZ (wd_105 hw) (wd_104 hw) (by decide) (by decide)) (by rw [hml]; rfl) [(.ref a0)] (lenOf pd_19 rfl) rfl (Nat.le_of_eq rfl) (d15_1 hby) (fun _ _ => ⟨rfl, e0, (by decide : 0 + 2 ≤ _), (by decide : 0 + 3 ≤ _)⟩) (pc' := 4) rfl ?_
 rintro _ _ ⟨T20, L20, k20, n20⟩ X20 ⟨Lc20, hQ20, l20, y20, z20⟩
 dsimp only [Pt.U, Pt.locs, Pt.cells, Pt.slots] at X20 l20 y20 z20 hQ20 ⊢
 subst l20 y20 z20
 obtain ⟨r0_20, rfl, N20q, K20, g20_0, g20_1, g20_2, g20_3⟩ := hQ20
 have N21 := Fr.app N0 N20q
 have K22 : Keep h0 T20.heap [] := (Keep.refl h0 []).trans K20 (all0 (P := fun x => x ∈ [] ∨ h0.size ≤ x))
 have ge23 : n0 ≤ r0_20 := Nat.le_trans Z0 g20_0
 have sz24 : h0.size ≤ r0_20 := Nat.le_trans (Nat.le_refl _) g20_0
 show Runs _ _ _ _ (T20.setTop (mkF m 4 #[.val (.ref a0)] [(.ref r0_20)]))
 exact w_done X20 hlk (v := some (.ref r0_20)) rfl (fun h => by rw [hret] at h; cases h) (fun fs hr => retOut X20 hx hret rfl (Or.inr (Or.inr (Or.inr (Or.inr ⟨rfl, rfl, rfl⟩)))) (d15_4 hby) hr) (by decide) (by decide) (⟨r0_20, rfl, N21, K22, sz24, g20_1, g20_2, g20_3⟩)
theorem ef_m13_19 (m : MethodId) (a0 : Addr) (a1 : Addr)  : entryFrame m #[(.ref a0), (.ref a1)] 2 = mkF m 0 #[.val (.ref a0), .val (.ref a1)] [] := by first | (simp [entryFrame, mkF, argsToLocals, Value.category]; done) | rfl
def Q_m13_19 (Z : State) (a0 : Addr) (a1 : Addr) (jj0 : Addr) (jj1 : ClassId) (jj2 : Addr) (jj3 : Addr) (jj4 : Addr) (h0 : Heap) (n0 : Nat) (v : Option Value) (h : Heap) (L : List Loc) : Prop := ∃ (r0 : Addr), v = none ∧ Fr n0 L ∧ Keep h0 h [a0] ∧ h0.size ≤ r0 ∧ Exa Z h r0 kc3 ∧ Fld Z h r0 kc3 "e0" "Ljava/lang/Object;" (.ref jj2) ∧ Fld Z h r0 kc3 "e1" "Ljava/lang/Object;" (.ref jj4) ∧ Exa Z h a0 kc6 ∧ Fld Z h a0 kc6 "parts" "Ljava/util/List;" (.ref r0)
theorem rm_m13_19 (l : Launch) (Z : State) (aZ : Array Value) (hw : ∀ d ∈ tables_1, d.before aZ Z = true) (ws : List Jvm.Cond) (a0 : Addr) (a1 : Addr) (jj0 : Addr) (jj1 : ClassId) (jj2 : Addr) (jj3 : Addr) (jj4 : Addr) (h0 : Heap) (n0 : Nat) (Z0 : n0 ≤ h0.size) (E_a1 : Exa Z h0 a1 kc1) (zz5 : Fld Z h0 a1 kc1 "size" "I" (.int (1 : Int32))) (zz6 : Fld Z h0 a1 kc1 "elementData" "[Ljava/lang/Object;" (.ref jj0)) (zz7 : Exa Z h0 jj0 "[Ljava/lang/Object;") (zz8 : Arv Z h0 jj0 jj1 (.object kc0) (10 : Int32) [(.ref jj2), .null, .null, .null, .null, .null, .null, .null, .null, .null] .null) (zz9 : Exa Z h0 jj2 kc2) (zz10 : MirO Z "[Ljava/lang/Object;" jj3) (zz11 : Sta Z Z.heap kc7 "EMPTY" "Ljava/lang/Object;" (.ref jj4)) (O0 : Old Z n0 h0) (E_a0 : Exa Z h0 a0 kc6) (zz12 : Fld Z h0 a0 kc6 "parts" "Ljava/util/List;" .null) (zz13 : n0 ≤ a0) :
    MetN l Z yn_13 prog_12_method_1_code 2 none ws ({ frames := 8, cells := 2, slots := 3, locals := 100 } : Room) #[(.ref a0), (.ref a1)] h0 (Q_m13_19 Z a0 a1 jj0 jj1 jj2 jj3 jj4 h0 n0) := by
 refine MetN.of (plainFor_of_name pn_14) ?_
 intro p e s m below meth c s₁ hret hx hby hml hown hnm hlk hZ X0 e0
 have N0 := Fr.nil n0
 rw [ef_m13_19 m a0 a1]
 refine w_aloadN X0 hx (d13_0 hby) rfl rfl (pc' := 1) rfl ?_
 refine w_special X0 hx (y := yn_14) rfl hown (mvT hZ (wd_92 hw)) (mvT hZ (wd_93 hw)) (mvT hZ (wd_96 hw)) (by decide) (backOf (W := 0) (rm_m14_20 l Z aZ hw [] a0 h0 n0 Z0 ) hZ (wd_96 hw) (wd_95 hw) (by decide) (by decide)) (by rw [hml]; rfl) [] (lenOf pd_7 rfl) rfl (Nat.le_of_eq rfl) (d13_1 hby) (fun _ _ => ⟨rfl, e0, (by decide : 0 + 0 ≤ _), (by decide : 0 + 0 ≤ _)⟩) (pc' := 4) rfl ?_
 rintro _ _ ⟨T20, L20, k20, n20⟩ X20 ⟨Lc20, hQ20, l20, y20, z20⟩
 dsimp only [Pt.U, Pt.locs, Pt.cells, Pt.slots] at X20 l20 y20 z20 hQ20 ⊢
 subst l20 y20 z20
 obtain ⟨rfl, N20q, e20⟩ := hQ20
 have N21 := Fr.app N0 N20q
 show Runs _ _ _ _ (T20.setTop (mkF m 4 #[.val (.ref a0), .val (.ref a1)] []))
 refine w_aloadN X20 hx (d13_4 hby) rfl rfl (pc' := 5) rfl ?_
 refine w_static X20 hx (y := yn_15) hown (mvT hZ (wd_98 hw)) (mvT hZ (wd_99 hw)) (mvT hZ (wd_100 hw)) (mvT hZ (wd_101 hw)) (by decide) (backOf (W := 0) (rm_m15_21 l Z aZ hw [] a1 jj0 jj1 jj2 jj3 jj4 h0 n0 Z0 E_a1 zz5 zz6 zz7 zz8 zz9 zz10 zz11 O0) hZ (wd_101 hw) (wd_100 hw) (by decide) (by decide)) (by rw [hml]; rfl) [(.ref a1)] (lenOf pd_19 rfl) rfl (Nat.le_of_eq rfl) (d13_5 hby) (fun _ _ => ⟨rfl, e20, (by decide : 0 + 2 ≤ _), (by decide : 0 + 3 ≤ _)⟩) (pc' := 8) rfl ?_
 rintro _ _ ⟨T22, L22, k22, n22⟩ X22 ⟨Lc22, hQ22, l22, y22, z22⟩
 dsimp only [Pt.U, Pt.locs, Pt.cells, Pt.slots] at X22 l22 y22 z22 hQ22 ⊢
 subst l22 y22 z22
 obtain ⟨r0_22, rfl, N22q, K22, g22_0, g22_1, g22_2, g22_3⟩ := hQ22
 have N23 := Fr.app N21 N22q
 have K24 : Keep h0 T22.heap [a0] := (Keep.refl h0 [a0]).trans K22 (all0 (P := fun x => x ∈ [a0] ∨ h0.size ≤ x))
 have ge25 : n0 ≤ r0_22 := Nat.le_trans Z0 g22_0
 have sz26 : h0.size ≤ r0_22 := Nat.le_trans (Nat.le_refl _) g22_0
 show Runs _ _ _ _ (T22.setTop (mkF m 8 #[.val (.ref a0), .val (.ref a1)] [(.ref r0_22)]))
 refine w_astoreN X22 hx (d13_8 hby) rfl (L' := #[.val (.ref a0), .val (.ref r0_22)]) rfl (pc' := 9) rfl ?_
 refine w_aloadN X22 hx (d13_9 hby) rfl rfl (pc' := 10) rfl ?_
 refine w_aloadN X22 hx (d13_10 hby) rfl rfl (pc' := 11) rfl ?_
 have f27 : Exa Z T22.heap a0 kc6 := (E_a0.keep K22)
 have f28 : Fld Z T22.heap a0 kc6 "parts" "Ljava/util/List;" .null := (zz12.keep K22 nin0)
 refine w_putF X22 hx "" hZ hown (Or.inl (wd_184 hw)) Via.refl rfl f28 f27 (Or.inr ⟨(wd_185 hw), rfl, hnm⟩) (wd_87 hw) (ty := (.object "java/util/List")) (by decide) rfl rfl (d13_11 hby) (pc' := 14) rfl ?_
 intro T29 h29 X29 e29 W29
 have f30 : Fld Z h29 a0 kc6 "parts" "Ljava/util/List;" (.ref r0_22) := f28.same W29
 have K31 : Keep h0 h29 [a0] := K24.wr W29 (Or.inl (by simp))
 have N32 := Fr.snoc X29 N23 zz13
 have f33 : Exa Z h29 r0_22 kc3 := (g22_1.wr W29)
 have ne34 : a0 ≠ r0_22 := (Nat.ne_of_lt (Nat.lt_of_lt_of_le E_a0.lt (Nat.le_trans (Nat.le_refl _) g22_0)))
 have f35 : Fld Z h29 r0_22 kc3 "e0" "Ljava/lang/Object;" (.ref jj2) := (g22_2.other W29 (Or.inl (Ne.symm ne34)))
 have f36 : Fld Z h29 r0_22 kc3 "e1" "Ljava/lang/Object;" (.ref jj4) := (g22_3.other W29 (Or.inl (Ne.symm ne34)))
 have f37 : Exa Z h29 a0 kc6 := (f27.wr W29)
 exact w_done X29 hlk (v := none) e29 (fun _ => rfl) (fun fs hr => X29.returnOut hx hret (d13_14 hby) hr) (by decide) (by decide) (⟨r0_22, rfl, N32, K31, sz26, f33, f35, f36, f37, f30⟩)
theorem ef_m28_34 (m : MethodId) (a0 : Addr)  : entryFrame m #[(.ref a0)] 1 = mkF m 0 #[.val (.ref a0)] [] := by first | (simp [entryFrame, mkF, argsToLocals, Value.category]; done) | rfl
def Q_m28_34 (Z : State) (a0 : Addr) (jj0 : Addr) (h0 : Heap) (n0 : Nat) (v : Option Value) (h : Heap) (L : List Loc) : Prop := v = some (.int (1 : Int32)) ∧ Fr n0 L ∧ h = h0
theorem rm_m28_34 (l : Launch) (Z : State) (aZ : Array Value) (hw : ∀ d ∈ tables_1, d.before aZ Z = true) (ws : List Jvm.Cond) (a0 : Addr) (jj0 : Addr) (h0 : Heap) (n0 : Nat) (Z0 : n0 ≤ h0.size) (zz1 : Fld Z h0 a0 kc3 "e1" "Ljava/lang/Object;" (.ref jj0)) (zz2 : Sta Z Z.heap kc7 "EMPTY" "Ljava/lang/Object;" (.ref jj0)) (O0 : Old Z n0 h0) :
    MetN l Z yn_28 jdk_44_method_3_code 1 (some .int) ws ({ frames := 0, cells := 0, slots := 0, locals := 0 } : Room) #[(.ref a0)] h0 (Q_m28_34 Z a0 jj0 h0 n0) := by
 refine MetN.of (plainFor_of_name pn_11) ?_
 intro p e s m below meth c s₁ hret hx hby hml hown hnm hlk hZ X0 e0
 have N0 := Fr.nil n0
 rw [ef_m28_34 m a0]
 refine w_aloadN X0 hx (d28_0 hby) rfl rfl (pc' := 1) rfl ?_
 refine w_getF X0 hx "" hZ hown (Or.inl (wd_182 hw)) Via.refl e0 zz1 (d28_1 hby) (pc' := 4) rfl ?_
 intro T20 X20 e20
 refine w_getS X20 hx kc7 hZ hown (Or.inr (wd_181 hw)) Via.refl e20 (zz2.ext O0.2) (d28_4 hby) (pc' := 7) rfl ?_
 intro T21 X21 e21
 refine w_acmp X21 hx (d28_7 hby) (same := true) rfl rfl (decide_eq_true rfl) (pc' := 14) (by decide) (by decide) ?_
 refine w_iconst X21 hx (d28_14 hby) (v := (1 : Int32)) rfl (pc' := 15) rfl ?_
 exact w_done X21 hlk (v := some (.int (1 : Int32))) e21 (fun h => by rw [hret] at h; cases h) (fun fs hr => retI X21 hx hret (d28_15 hby) hr) (by decide) (by decide) (⟨rfl, N0, rfl⟩)
theorem ef_m29_35 (m : MethodId) (a0 : Addr)  : entryFrame m #[(.ref a0), (.int (0 : Int32))] 2 = mkF m 0 #[.val (.ref a0), .val (.int (0 : Int32))] [] := by first | (simp [entryFrame, mkF, argsToLocals, Value.category]; done) | rfl
def Q_m29_35 (Z : State) (a0 : Addr) (jj0 : Addr) (h0 : Heap) (n0 : Nat) (v : Option Value) (h : Heap) (L : List Loc) : Prop := v = some (.ref jj0) ∧ Fr n0 L ∧ h = h0
theorem rm_m29_35 (l : Launch) (Z : State) (aZ : Array Value) (hw : ∀ d ∈ tables_1, d.before aZ Z = true) (ws : List Jvm.Cond) (a0 : Addr) (jj0 : Addr) (h0 : Heap) (n0 : Nat) (Z0 : n0 ≤ h0.size) (zz1 : Fld Z h0 a0 kc3 "e0" "Ljava/lang/Object;" (.ref jj0)) :
    MetN l Z yn_29 jdk_44_method_5_code 2 (some (.object kc0)) ws ({ frames := 0, cells := 0, slots := 0, locals := 0 } : Room) #[(.ref a0), (.int (0 : Int32))] h0 (Q_m29_35 Z a0 jj0 h0 n0) := by
 refine MetN.of (plainFor_of_name pn_11) ?_
 intro p e s m below meth c s₁ hret hx hby hml hown hnm hlk hZ X0 e0
 have N0 := Fr.nil n0
 rw [ef_m29_35 m a0]
 refine w_iloadN X0 hx (d29_0 hby) rfl (pc' := 1) rfl ?_
 refine w_ifN X0 hx (d29_1 hby) (teq (by decide : (0 : Int32) = (0 : Int32))).2 (pc' := 4) rfl ?_
 refine w_aloadN X0 hx (d29_4 hby) rfl rfl (pc' := 5) rfl ?_
 refine w_getF X0 hx "" hZ hown (Or.inl (wd_179 hw)) Via.refl e0 zz1 (d29_5 hby) (pc' := 8) rfl ?_
 intro T20 X20 e20
 exact w_done X20 hlk (v := some (.ref jj0)) e20 (fun h => by rw [hret] at h; cases h) (fun fs hr => retOut X20 hx hret rfl (Or.inr (Or.inr (Or.inr (Or.inr ⟨rfl, rfl, rfl⟩)))) (d29_8 hby) hr) (by decide) (by decide) (⟨rfl, N0, rfl⟩)
theorem ef_m27_33 (m : MethodId) (a0 : Addr)  : entryFrame m #[(.ref a0)] 1 = mkF m 0 #[.val (.ref a0)] [] := by first | (simp [entryFrame, mkF, argsToLocals, Value.category]; done) | rfl
def Q_m27_33 (Z : State) (a0 : Addr) (jj0 : Addr) (jj1 : Addr) (jj2 : Addr) (h0 : Heap) (n0 : Nat) (v : Option Value) (h : Heap) (L : List Loc) : Prop := v = some (.ref jj2) ∧ Fr n0 L ∧ h = h0
theorem rm_m27_33 (l : Launch) (Z : State) (aZ : Array Value) (hw : ∀ d ∈ tables_1, d.before aZ Z = true) (ws : List Jvm.Cond) (a0 : Addr) (jj0 : Addr) (jj1 : Addr) (jj2 : Addr) (h0 : Heap) (n0 : Nat) (Z0 : n0 ≤ h0.size) (zz3 : Fld Z h0 a0 kc6 "parts" "Ljava/util/List;" (.ref jj0)) (zz4 : Exa Z h0 jj0 kc3) (zz5 : Fld Z h0 jj0 kc3 "e1" "Ljava/lang/Object;" (.ref jj1)) (zz6 : Sta Z Z.heap kc7 "EMPTY" "Ljava/lang/Object;" (.ref jj1)) (O0 : Old Z n0 h0) (zz7 : Fld Z h0 jj0 kc3 "e0" "Ljava/lang/Object;" (.ref jj2)) (zz8 : Exa Z h0 jj2 kc2) :
    MetN l Z yn_27 prog_12_method_6_code 1 (some (.object kc2)) ws ({ frames := 1, cells := 0, slots := 0, locals := 13 } : Room) #[(.ref a0)] h0 (Q_m27_33 Z a0 jj0 jj1 jj2 h0 n0) := by
 refine MetN.of (plainFor_of_name pn_14) ?_
 intro p e s m below meth c s₁ hret hx hby hml hown hnm hlk hZ X0 e0
 have N0 := Fr.nil n0
 rw [ef_m27_33 m a0]
 refine w_aloadN X0 hx (d27_0 hby) rfl rfl (pc' := 1) rfl ?_
 refine w_getF X0 hx "" hZ hown (Or.inl (wd_184 hw)) Via.refl e0 zz3 (d27_1 hby) (pc' := 4) rfl ?_
 intro T20 X20 e20
 refine w_aloadN X20 hx (d27_4 hby) rfl rfl (pc' := 5) rfl ?_
 refine w_getF X20 hx "" hZ hown (Or.inl (wd_184 hw)) Via.refl e20 zz3 (d27_5 hby) (pc' := 8) rfl ?_
 intro T21 X21 e21
 obtain ⟨cq22, kq22, q22a, q22b, q22c⟩ := isOf hZ e21 zz4
 refine w_interface X21 hx (xi := (⟨"java/util/List", "size", "()I"⟩ : MethodName)) (y := yn_28) hown (mvT hZ (wd_191 hw)) (mvT hZ (wd_192 hw)) (mvT hZ (wd_193 hw)) (mvT hZ (wd_194 hw)) (mvT hZ (wd_195 hw)) (mvT hZ (wd_196 hw)) (mvT hZ (wd_197 hw)) (mvT hZ (wd_198 hw)) (by decide) (backOf (W := 1) (rm_m28_34 l Z aZ hw [] jj0 jj1 h0 n0 Z0 zz5 zz6 O0) hZ (wd_199 hw) (wd_156 hw) (by decide) (by decide)) q22a q22b q22c (by rw [hml]; rfl) [] (lenOf pd_21 rfl) rfl (Nat.le_of_eq rfl) (d27_8 hby) (fun _ _ => ⟨rfl, e21, (by decide : 0 + 0 ≤ _), (by decide : 0 + 0 ≤ _)⟩) (pc' := 13) rfl ?_
 rintro _ _ ⟨T22, L22, k22, n22⟩ X22 ⟨Lc22, hQ22, l22, y22, z22⟩
 dsimp only [Pt.U, Pt.locs, Pt.cells, Pt.slots] at X22 l22 y22 z22 hQ22 ⊢
 subst l22 y22 z22
 obtain ⟨rfl, N22q, e22⟩ := hQ22
 have N23 := Fr.app N0 N22q
 show Runs _ _ _ _ (T22.setTop (mkF m 13 #[.val (.ref a0)] [(.int (1 : Int32)), (.ref jj0)]))
 refine w_iconst X22 hx (d27_13 hby) (v := (1 : Int32)) rfl (pc' := 14) rfl ?_
 refine w_isub X22 hx (d27_14 hby) (pc' := 15) rfl ?_
 rw [show ((1 : Int32) - (1 : Int32)) = (0 : Int32) from by decide]
 obtain ⟨cq24, kq24, q24a, q24b, q24c⟩ := isOf hZ e22 zz4
 refine w_interface X22 hx (xi := (⟨"java/util/List", "get", "(I)Ljava/lang/Object;"⟩ : MethodName)) (y := yn_29) hown (mvT hZ (wd_200 hw)) (mvT hZ (wd_201 hw)) (mvT hZ (wd_202 hw)) (mvT hZ (wd_203 hw)) (mvT hZ (wd_204 hw)) (mvT hZ (wd_205 hw)) (mvT hZ (wd_206 hw)) (mvT hZ (wd_198 hw)) (by decide) (backOf (W := 0) (rm_m29_35 l Z aZ hw [] jj0 jj2 h0 n0 Z0 zz7) hZ (wd_207 hw) (wd_156 hw) (by decide) (by decide)) q24a q24b q24c (by rw [hml]; rfl) [(.int (0 : Int32))] (lenOf pd_22 rfl) rfl (Nat.le_of_eq rfl) (d27_15 hby) (fun _ _ => ⟨rfl, e22, (by decide : 0 + 0 ≤ _), (by decide : 0 + 0 ≤ _)⟩) (pc' := 20) rfl ?_
 rintro _ _ ⟨T24, L24, k24, n24⟩ X24 ⟨Lc24, hQ24, l24, y24, z24⟩
 dsimp only [Pt.U, Pt.locs, Pt.cells, Pt.slots] at X24 l24 y24 z24 hQ24 ⊢
 subst l24 y24 z24
 obtain ⟨rfl, N24q, e24⟩ := hQ24
 have N25 := Fr.app N23 N24q
 show Runs _ _ _ _ (T24.setTop (mkF m 20 #[.val (.ref a0)] [(.ref jj2)]))
 refine w_castY X24 hx hZ hown (wd_208 hw) e24 (Ins.self zz8) (d27_20 hby) (pc' := 23) rfl ?_
 intro T26 X26 e26
 exact w_done X26 hlk (v := some (.ref jj2)) e26 (fun h => by rw [hret] at h; cases h) (fun fs hr => retOut X26 hx hret rfl (Or.inr (Or.inr (Or.inr (Or.inr ⟨rfl, rfl, rfl⟩)))) (d27_23 hby) hr) (by decide) (by decide) (⟨rfl, N25, rfl⟩)
theorem ef_m30_36 (m : MethodId) (a0 : Addr)  : entryFrame m #[(.ref a0), (.ref a0)] 3 = mkF m 0 #[.val (.ref a0), .val (.ref a0), .unset] [] := by first | (simp [entryFrame, mkF, argsToLocals, Value.category]; done) | rfl
def Q_m30_36 (Z : State) (a0 : Addr) (h0 : Heap) (n0 : Nat) (v : Option Value) (h : Heap) (L : List Loc) : Prop := v = some (.int (1 : Int32)) ∧ Fr n0 L ∧ h = h0
theorem rm_m30_36 (l : Launch) (Z : State) (aZ : Array Value) (hw : ∀ d ∈ tables_1, d.before aZ Z = true) (ws : List Jvm.Cond) (a0 : Addr) (h0 : Heap) (n0 : Nat) (Z0 : n0 ≤ h0.size) :
    MetN l Z yn_30 jdk_42_method_66_code 3 (some .boolean) ws ({ frames := 0, cells := 0, slots := 0, locals := 0 } : Room) #[(.ref a0), (.ref a0)] h0 (Q_m30_36 Z a0 h0 n0) := by
 refine MetN.of (plainFor_of_name pn_0) ?_
 intro p e s m below meth c s₁ hret hx hby hml hown hnm hlk hZ X0 e0
 have N0 := Fr.nil n0
 rw [ef_m30_36 m a0]
 refine w_aloadN X0 hx (d30_0 hby) rfl rfl (pc' := 1) rfl ?_
 refine w_aloadN X0 hx (d30_1 hby) rfl rfl (pc' := 2) rfl ?_
 refine w_acmp X0 hx (d30_2 hby) (same := true) rfl rfl (decide_eq_true rfl) (pc' := 5) (by decide) (by decide) ?_
 refine w_iconst X0 hx (d30_5 hby) (v := (1 : Int32)) rfl (pc' := 6) rfl ?_
 exact w_done X0 hlk (v := some (.int (1 : Int32))) e0 (fun h => by rw [hret] at h; cases h) (fun fs hr => retN X0 hx (t := .boolean) hret (by simp) (d30_6 hby) hr) (by decide) (by decide) (⟨rfl, N0, rfl⟩)
theorem ef_m9_38 (m : MethodId) (a0 : Addr) (a1 : Addr) (a2 : Addr)  : entryFrame m #[(.ref a0), (.ref a1), (.ref a2), (.int (1 : Int32))] 4 = mkF m 0 #[.val (.ref a0), .val (.ref a1), .val (.ref a2), .val (.int (1 : Int32))] [] := by first | (simp [entryFrame, mkF, argsToLocals, Value.category]; done) | rfl
def Q_m9_38 (Z : State) (a0 : Addr) (a1 : Addr) (a2 : Addr) (k_a2 : ClassId) (jj0 : Addr) (h0 : Heap) (n0 : Nat) (v : Option Value) (h : Heap) (L : List Loc) : Prop := v = none ∧ Fr n0 L ∧ Keep h0 h [a2, a0] ∧ Arv Z h a2 k_a2 (.object kc0) (10 : Int32) [(.ref jj0), (.ref a1), .null, .null, .null, .null, .null, .null, .null, .null] .null ∧ Exa Z h a0 kc1 ∧ Fld Z h a0 kc1 "size" "I" (.int (2 : Int32)) ∧ Fld Z h a0 kc5 "modCount" "I" (.int (2 : Int32)) ∧ Fld Z h a0 kc1 "elementData" "[Ljava/lang/Object;" (.ref a2)
theorem rm_m9_38 (l : Launch) (Z : State) (aZ : Array Value) (hw : ∀ d ∈ tables_1, d.before aZ Z = true) (ws : List Jvm.Cond) (a0 : Addr) (a1 : Addr) (a2 : Addr) (k_a2 : ClassId) (jj0 : Addr) (h0 : Heap) (n0 : Nat) (Z0 : n0 ≤ h0.size) (V_a2 : Arv Z h0 a2 k_a2 (.object kc0) (10 : Int32) [(.ref jj0), .null, .null, .null, .null, .null, .null, .null, .null, .null] .null) (zz1 : Ovr Z k_a2 kc0) (E_a1 : Exa Z h0 a1 kc2) (zz2 : n0 ≤ a2) (E_a0 : Exa Z h0 a0 kc1) (zz3 : Fld Z h0 a0 kc1 "size" "I" (.int (1 : Int32))) (zz4 : n0 ≤ a0) (zz5 : Fld Z h0 a0 kc5 "modCount" "I" (.int (2 : Int32))) (zz6 : Fld Z h0 a0 kc1 "elementData" "[Ljava/lang/Object;" (.ref a2)) :
    MetN l Z yn_9 jdk_38_method_24_code 4 none ws ({ frames := 0, cells := 0, slots := 0, locals := 0 } : Room) #[(.ref a0), (.ref a1), (.ref a2), (.int (1 : Int32))] h0 (Q_m9_38 Z a0 a1 a2 k_a2 jj0 h0 n0) := by
 refine MetN.of (plainFor_of_name pn_5) ?_
 intro p e s m below meth c s₁ hret hx hby hml hown hnm hlk hZ X0 e0
 have N0 := Fr.nil n0
 rw [ef_m9_38 m a0 a1 a2]
 refine w_iloadN X0 hx (d9_0 hby) rfl (pc' := 1) rfl ?_
 refine w_aloadN X0 hx (d9_1 hby) rfl rfl (pc' := 2) rfl ?_
 refine w_alen X0 hx hZ e0 V_a2 (d9_2 hby) (pc' := 3) rfl ?_
 refine w_icY X0 hx (d9_3 hby) (feq (by decide : ¬ ((1 : Int32) = (10 : Int32)))).2 (pc' := 11) (by decide) (by decide) ?_
 refine w_aloadN X0 hx (d9_11 hby) rfl rfl (pc' := 12) rfl ?_
 refine w_iloadN X0 hx (d9_12 hby) rfl (pc' := 13) rfl ?_
 refine w_aloadN X0 hx (d9_13 hby) rfl rfl (pc' := 14) rfl ?_
 obtain ⟨clu20, Aru20, qu20, Su20, Nu20, Hu20, Gu20⟩ := id V_a2
 have hinu20 := inb_of (j := (1 : Int32)) Su20 ⟨by decide, by decide⟩
 refine w_stR X0 hx hZ e0 Aru20 hinu20 rfl (Sto.ofV Aru20 qu20 zz1 (Ins.of_exa E_a1 (wd_85 hw))) (d9_14 hby) (pc' := 15) rfl ?_
 intro T21 h21 X21 e21 W21
 have V22 : Arv Z h21 a2 k_a2 (.object kc0) (10 : Int32) [(.ref jj0), (.ref a1), .null, .null, .null, .null, .null, .null, .null, .null] .null := Arv.set Aru20 qu20 Su20 Nu20 Hu20 Gu20 rfl W21 1 rfl (Nat.le_of_ble_eq_true rfl)
 have K23 : Keep h0 h21 [a2, a0] := (Keep.refl h0 [a2, a0]).wr W21 (Or.inl (by simp))
 have N24 := Fr.snoc X21 N0 zz2
 refine w_aloadN X21 hx (d9_15 hby) rfl rfl (pc' := 16) rfl ?_
 refine w_iloadN X21 hx (d9_16 hby) rfl (pc' := 17) rfl ?_
 refine w_iconst X21 hx (d9_17 hby) (v := (1 : Int32)) rfl (pc' := 18) rfl ?_
 refine w_iadd X21 hx (d9_18 hby) (pc' := 19) rfl ?_
 rw [show ((1 : Int32) + (1 : Int32)) = (2 : Int32) from by decide]
 have f25 : Exa Z h21 a0 kc1 := (E_a0.wr W21)
 have ne26 : a0 ≠ a2 := Exa.neArv f25 V22 (wd_28 hw)
 have f27 : Fld Z h21 a0 kc1 "size" "I" (.int (1 : Int32)) := (zz3.other W21 (Or.inl ne26))
 refine w_putF X21 hx "" hZ hown (Or.inl (wd_62 hw)) Via.refl e21 f27 f25 (Or.inl (wd_63 hw)) (wd_28 hw) (ty := .int) (by decide) rfl rfl (d9_19 hby) (pc' := 22) rfl ?_
 intro T28 h28 X28 e28 W28
 have f29 : Fld Z h28 a0 kc1 "size" "I" (.int (2 : Int32)) := f27.same W28
 have K30 : Keep h0 h28 [a2, a0] := K23.wr W28 (Or.inl (by simp))
 have N31 := Fr.snoc X28 N24 zz4
 have f32 : Arv Z h28 a2 k_a2 (.object kc0) (10 : Int32) [(.ref jj0), (.ref a1), .null, .null, .null, .null, .null, .null, .null, .null] .null := (V22.other W28 (Ne.symm ne26))
 have f33 : Exa Z h28 a0 kc1 := (f25.wr W28)
 have f34 : Fld Z h28 a0 kc5 "modCount" "I" (.int (2 : Int32)) := ((zz5.other W21 (Or.inl ne26)).other W28 (Or.inr (slot_ne (Or.inl (wd_47 hw)) (Or.inl (wd_63 hw)) (by decide) (t := .int) (t' := .int) (by decide) (by decide))))
 have f35 : Fld Z h28 a0 kc1 "elementData" "[Ljava/lang/Object;" (.ref a2) := ((zz6.other W21 (Or.inl ne26)).other W28 (Or.inr (slot_ne (Or.inl (wd_50 hw)) (Or.inl (wd_63 hw)) (by decide) (t := (.array (.object kc0))) (t' := .int) (by decide) (by decide))))
 exact w_done X28 hlk (v := none) e28 (fun _ => rfl) (fun fs hr => X28.returnOut hx hret (d9_22 hby) hr) (by decide) (by decide) (⟨rfl, N31, K30, f32, f33, f29, f34, f35⟩)
theorem ef_m8_37 (m : MethodId) (a0 : Addr) (a1 : Addr)  : entryFrame m #[(.ref a0), (.ref a1)] 2 = mkF m 0 #[.val (.ref a0), .val (.ref a1)] [] := by first | (simp [entryFrame, mkF, argsToLocals, Value.category]; done) | rfl
def Q_m8_37 (Z : State) (a0 : Addr) (a1 : Addr) (jj0 : Addr) (jj1 : ClassId) (jj2 : Addr) (h0 : Heap) (n0 : Nat) (v : Option Value) (h : Heap) (L : List Loc) : Prop := v = some (.int (1 : Int32)) ∧ Fr n0 L ∧ Keep h0 h [a0, jj0] ∧ Fld Z h a0 kc5 "modCount" "I" (.int (2 : Int32)) ∧ Exa Z h a0 kc1 ∧ Fld Z h a0 kc1 "elementData" "[Ljava/lang/Object;" (.ref jj0) ∧ Fld Z h a0 kc1 "size" "I" (.int (2 : Int32)) ∧ Arv Z h jj0 jj1 (.object kc0) (10 : Int32) [(.ref jj2), (.ref a1), .null, .null, .null, .null, .null, .null, .null, .null] .null
theorem rm_m8_37 (l : Launch) (Z : State) (aZ : Array Value) (hw : ∀ d ∈ tables_1, d.before aZ Z = true) (ws : List Jvm.Cond) (a0 : Addr) (a1 : Addr) (jj0 : Addr) (jj1 : ClassId) (jj2 : Addr) (h0 : Heap) (n0 : Nat) (Z0 : n0 ≤ h0.size) (zz3 : Fld Z h0 a0 kc5 "modCount" "I" (.int (1 : Int32))) (E_a0 : Exa Z h0 a0 kc1) (zz4 : n0 ≤ a0) (zz5 : Fld Z h0 a0 kc1 "elementData" "[Ljava/lang/Object;" (.ref jj0)) (zz6 : Fld Z h0 a0 kc1 "size" "I" (.int (1 : Int32))) (zz7 : Arv Z h0 jj0 jj1 (.object kc0) (10 : Int32) [(.ref jj2), .null, .null, .null, .null, .null, .null, .null, .null, .null] .null) (zz8 : Ovr Z jj1 kc0) (E_a1 : Exa Z h0 a1 kc2) (zz9 : n0 ≤ jj0) :
    MetN l Z yn_8 jdk_38_method_25_code 2 (some .boolean) ws ({ frames := 1, cells := 0, slots := 0, locals := 15 } : Room) #[(.ref a0), (.ref a1)] h0 (Q_m8_37 Z a0 a1 jj0 jj1 jj2 h0 n0) := by
 refine MetN.of (plainFor_of_name pn_5) ?_
 intro p e s m below meth c s₁ hret hx hby hml hown hnm hlk hZ X0 e0
 have N0 := Fr.nil n0
 rw [ef_m8_37 m a0 a1]
 refine w_aloadN X0 hx (d8_0 hby) rfl rfl (pc' := 1) rfl ?_
 refine w_dup X0 hx (d8_1 hby) rfl (pc' := 2) rfl ?_
 refine w_getF X0 hx "" hZ hown (Or.inl (wd_60 hw)) (Via.of (wd_61 hw)) e0 zz3 (d8_2 hby) (pc' := 5) rfl ?_
 intro T20 X20 e20
 refine w_iconst X20 hx (d8_5 hby) (v := (1 : Int32)) rfl (pc' := 6) rfl ?_
 refine w_iadd X20 hx (d8_6 hby) (pc' := 7) rfl ?_
 rw [show ((1 : Int32) + (1 : Int32)) = (2 : Int32) from by decide]
 refine w_putF X20 hx "" hZ hown (Or.inl (wd_60 hw)) (Via.of (wd_61 hw)) e20 zz3 E_a0 (Or.inl (wd_47 hw)) (wd_28 hw) (ty := .int) (by decide) rfl rfl (d8_7 hby) (pc' := 10) rfl ?_
 intro T21 h21 X21 e21 W21
 have f22 : Fld Z h21 a0 kc5 "modCount" "I" (.int (2 : Int32)) := zz3.same W21
 have K23 : Keep h0 h21 [a0, jj0] := (Keep.refl h0 [a0, jj0]).wr W21 (Or.inl (by simp))
 have N24 := Fr.snoc X21 N0 zz4
 refine w_aloadN X21 hx (d8_10 hby) rfl rfl (pc' := 11) rfl ?_
 refine w_aloadN X21 hx (d8_11 hby) rfl rfl (pc' := 12) rfl ?_
 refine w_aloadN X21 hx (d8_12 hby) rfl rfl (pc' := 13) rfl ?_
 have f25 : Fld Z h21 a0 kc1 "elementData" "[Ljava/lang/Object;" (.ref jj0) := (zz5.other W21 (Or.inr (slot_ne (Or.inl (wd_50 hw)) (Or.inl (wd_47 hw)) (by decide) (t := (.array (.object kc0))) (t' := .int) (by decide) (by decide))))
 refine w_getF X21 hx "" hZ hown (Or.inl (wd_49 hw)) Via.refl e21 f25 (d8_13 hby) (pc' := 16) rfl ?_
 intro T26 X26 e26
 refine w_aloadN X26 hx (d8_16 hby) rfl rfl (pc' := 17) rfl ?_
 have f27 : Fld Z h21 a0 kc1 "size" "I" (.int (1 : Int32)) := (zz6.other W21 (Or.inr (slot_ne (Or.inl (wd_63 hw)) (Or.inl (wd_47 hw)) (by decide) (t := .int) (t' := .int) (by decide) (by decide))))
 refine w_getF X26 hx "" hZ hown (Or.inl (wd_62 hw)) Via.refl e26 f27 (d8_17 hby) (pc' := 20) rfl ?_
 intro T28 X28 e28
 have ne29 : a0 ≠ jj0 := Exa.neArv E_a0 zz7 (wd_28 hw)
 have f30 : Arv Z h21 jj0 jj1 (.object kc0) (10 : Int32) [(.ref jj2), .null, .null, .null, .null, .null, .null, .null, .null, .null] .null := (zz7.other W21 (Ne.symm ne29))
 have f31 : Exa Z h21 a1 kc2 := (E_a1.wr W21)
 have f32 : Exa Z h21 a0 kc1 := (E_a0.wr W21)
 obtain ⟨ce33, he33, hs33⟩ := Exa.cell f32
 refine w_private X28 hx (y := yn_9) hown (mvT hZ (wd_64 hw)) (mvT hZ (wd_65 hw)) (mvT hZ (wd_67 hw)) (Cond.privateMethod_at (args := #[]) (mvP hZ (wd_66 hw))) (mvT hZ (wd_68 hw)) (by decide) (backOf (W := 0) (rm_m9_38 l Z aZ hw [] a0 a1 jj0 jj1 jj2 h21 n0 (Nat.le_trans Z0 (Keep.of_wr W21).1) f30 zz8 f31 zz9 f32 f27 zz4 f22 f25) hZ (wd_68 hw) (wd_29 hw) (by decide) (by decide)) ((congrArg (fun z : Heap => z[a0]?) e28).trans he33) hs33 (by rw [hml]; rfl) [(.ref a1), (.ref jj0), (.int (1 : Int32))] (lenOf pd_11 rfl) rfl (Nat.le_of_eq rfl) (d8_20 hby) (fun _ _ => ⟨rfl, e28, (by decide : 0 + 0 ≤ _), (by decide : 0 + 0 ≤ _)⟩) (pc' := 23) rfl ?_
 rintro _ _ ⟨T33, L33, k33, n33⟩ X33 ⟨Lc33, hQ33, l33, y33, z33⟩
 dsimp only [Pt.U, Pt.locs, Pt.cells, Pt.slots] at X33 l33 y33 z33 hQ33 ⊢
 subst l33 y33 z33
 obtain ⟨rfl, N33q, K33, g33_0, g33_1, g33_2, g33_3, g33_4⟩ := hQ33
 have N34 := Fr.app N24 N33q
 have K35 : Keep h0 T33.heap [a0, jj0] := K23.trans K33 (allS (Or.inl (by simp)) (allS (Or.inl (by simp)) (all0 (P := fun x => x ∈ [a0, jj0] ∨ h0.size ≤ x))))
 show Runs _ _ _ _ (T33.setTop (mkF m 23 #[.val (.ref a0), .val (.ref a1)] []))
 refine w_iconst X33 hx (d8_23 hby) (v := (1 : Int32)) rfl (pc' := 24) rfl ?_
 exact w_done X33 hlk (v := some (.int (1 : Int32))) rfl (fun h => by rw [hret] at h; cases h) (fun fs hr => retN X33 hx (t := .boolean) hret (by simp) (d8_24 hby) hr) (by decide) (by decide) (⟨rfl, N34, K35, g33_3, g33_1, g33_4, g33_2, g33_0⟩)
theorem ef_m17_42 (m : MethodId) (a0 : Addr)  : entryFrame m #[(.ref a0)] 1 = mkF m 0 #[.val (.ref a0)] [] := by first | (simp [entryFrame, mkF, argsToLocals, Value.category]; done) | rfl
def Q_m17_42 (Z : State) (a0 : Addr) (h0 : Heap) (n0 : Nat) (v : Option Value) (h : Heap) (L : List Loc) : Prop := v = some (.int (0 : Int32)) ∧ Fr n0 L ∧ h = h0
theorem rm_m17_42 (l : Launch) (Z : State) (aZ : Array Value) (hw : ∀ d ∈ tables_1, d.before aZ Z = true) (ws : List Jvm.Cond) (a0 : Addr) (h0 : Heap) (n0 : Nat) (Z0 : n0 ≤ h0.size) (zz0 : Fld Z h0 a0 kc1 "size" "I" (.int (2 : Int32))) :
    MetN l Z yn_17 jdk_38_method_9_code 1 (some .boolean) ws ({ frames := 0, cells := 0, slots := 0, locals := 0 } : Room) #[(.ref a0)] h0 (Q_m17_42 Z a0 h0 n0) := by
 refine MetN.of (plainFor_of_name pn_5) ?_
 intro p e s m below meth c s₁ hret hx hby hml hown hnm hlk hZ X0 e0
 have N0 := Fr.nil n0
 rw [ef_m17_42 m a0]
 refine w_aloadN X0 hx (d17_0 hby) rfl rfl (pc' := 1) rfl ?_
 refine w_getF X0 hx "" hZ hown (Or.inl (wd_62 hw)) Via.refl e0 zz0 (d17_1 hby) (pc' := 4) rfl ?_
 intro T20 X20 e20
 refine w_ifY X20 hx (d17_4 hby) (feq (by decide : ¬ ((2 : Int32) = (0 : Int32)))).2 (pc' := 11) (by decide) (by decide) ?_
 refine w_iconst X20 hx (d17_11 hby) (v := (0 : Int32)) rfl (pc' := 12) rfl ?_
 exact w_done X20 hlk (v := some (.int (0 : Int32))) e20 (fun h => by rw [hret] at h; cases h) (fun fs hr => retN X20 hx (t := .boolean) hret (by simp) (d17_12 hby) hr) (by decide) (by decide) (⟨rfl, N0, rfl⟩)
theorem ef_m21_46 (m : MethodId)   : entryFrame m #[(.int (10 : Int32)), (.int (2 : Int32))] 2 = mkF m 0 #[.val (.int (10 : Int32)), .val (.int (2 : Int32))] [] := by first | (simp [entryFrame, mkF, argsToLocals, Value.category]; done) | rfl
def Q_m21_46 (Z : State)  (h0 : Heap) (n0 : Nat) (v : Option Value) (h : Heap) (L : List Loc) : Prop := v = some (.int (2 : Int32)) ∧ Fr n0 L ∧ h = h0
theorem rm_m21_46 (l : Launch) (Z : State) (aZ : Array Value) (hw : ∀ d ∈ tables_1, d.before aZ Z = true) (ws : List Jvm.Cond)  (h0 : Heap) (n0 : Nat) (Z0 : n0 ≤ h0.size) :
    MetN l Z yn_21 jdk_29_method_69_code 2 (some .int) ws ({ frames := 0, cells := 0, slots := 0, locals := 0 } : Room) #[(.int (10 : Int32)), (.int (2 : Int32))] h0 (Q_m21_46 Z  h0 n0) := by
 refine MetN.of (Jvm.Free.JP.mathPlain rfl (by decide +kernel)) ?_
 intro p e s m below meth c s₁ hret hx hby hml hown hnm hlk hZ X0 e0
 have N0 := Fr.nil n0
 rw [ef_m21_46 m ]
 refine w_iloadN X0 hx (d21_0 hby) rfl (pc' := 1) rfl ?_
 refine w_iloadN X0 hx (d21_1 hby) rfl (pc' := 2) rfl ?_
 refine w_icY X0 hx (d21_2 hby) (tlt (by decide : (2 : Int32) < (10 : Int32))).2.2.1 (pc' := 9) (by decide) (by decide) ?_
 refine w_iloadN X0 hx (d21_9 hby) rfl (pc' := 10) rfl ?_
 exact w_done X0 hlk (v := some (.int (2 : Int32))) e0 (fun h => by rw [hret] at h; cases h) (fun fs hr => retI X0 hx hret (d21_10 hby) hr) (by decide) (by decide) (⟨rfl, N0, rfl⟩)
theorem ef_m20_45 (m : MethodId) (a0 : Addr) (jj0 : Addr)  : entryFrame m #[(.ref a0), (.int (2 : Int32)), (.ref jj0)] 4 = mkF m 0 #[.val (.ref a0), .val (.int (2 : Int32)), .val (.ref jj0), .unset] [] := by first | (simp [entryFrame, mkF, argsToLocals, Value.category]; done) | rfl
def Q_m20_45 (Z : State) (a0 : Addr) (jj0 : Addr) (k_a0 : ClassId) (jj1 : Addr) (jj2 : Addr) (h0 : Heap) (n0 : Nat) (v : Option Value) (h : Heap) (L : List Loc) : Prop := ∃ (r0 : Addr) (c0 : ClassId), v = some (.ref r0) ∧ Fr n0 L ∧ Keep h0 h [] ∧ h0.size ≤ r0 ∧ Arv Z h r0 c0 (.object kc0) (2 : Int32) [(.ref jj1), (.ref jj2)] .null ∧ Exa Z h r0 "[Ljava/lang/Object;" ∧ Ovr Z c0 kc0
theorem rm_m20_45 (l : Launch) (Z : State) (aZ : Array Value) (hw : ∀ d ∈ tables_1, d.before aZ Z = true) (ws : List Jvm.Cond) (a0 : Addr) (jj0 : Addr) (k_a0 : ClassId) (jj1 : Addr) (jj2 : Addr) (h0 : Heap) (n0 : Nat) (Z0 : n0 ≤ h0.size) (zz3 : MirO Z "[Ljava/lang/Object;" jj0) (V_a0 : Arv Z h0 a0 k_a0 (.object kc0) (10 : Int32) [(.ref jj1), (.ref jj2), .null, .null, .null, .null, .null, .null, .null, .null] .null) (zz4 : Exa Z h0 jj1 kc2) (zz5 : Exa Z h0 jj2 kc2) :
    MetN l Z yn_20 jdk_65_method_120_code 4 (some (.array (.object kc0))) ws ({ frames := 1, cells := 1, slots := 2, locals := 18 } : Room) #[(.ref a0), (.int (2 : Int32)), (.ref jj0)] h0 (Q_m20_45 Z a0 jj0 k_a0 jj1 jj2 h0 n0) := by
 refine MetN.of (plainFor_of_name pn_7) ?_
 intro p e s m below meth c s₁ hret hx hby hml hown hnm hlk hZ X0 e0
 have N0 := Fr.nil n0
 rw [ef_m20_45 m a0 jj0]
 refine w_aloadN X0 hx (d20_0 hby) rfl rfl (pc' := 1) rfl ?_
 refine w_ldcK X0 hx hZ hown (wd_142 hw) e0 zz3 (d20_1 hby) (pc' := 3) rfl ?_
 intro T20 X20 e20
 refine w_acmp X20 hx (d20_3 hby) (same := true) rfl rfl (decide_eq_true rfl) (pc' := 6) (by decide) (by decide) ?_
 refine w_iloadN X20 hx (d20_6 hby) rfl (pc' := 7) rfl ?_
 refine w_newR X20 hx 2 "[Ljava/lang/Object;" hZ hown (wd_143 hw) (wd_84 hw) e20 (d20_7 hby) (by decide) (by decide) (by decide) (by decide) (by decide) (by decide +kernel) (pc' := 10) rfl ?_
 intro T21 h21 k21 b21 X21 e21 E21 g21 A21 Q21 O21
 have ge22 : n0 ≤ b21 := Nat.le_trans Z0 (Nat.le_of_eq g21.symm)
 have sz23 : h0.size ≤ b21 := Nat.le_trans (Nat.le_refl _) (Nat.le_of_eq g21.symm)
 have K24 : Keep h0 h21 [] := (Keep.refl h0 []).ext E21
 have V25 : Arv Z h21 b21 k21 (.object kc0) (2 : Int32) [.null, .null] .null := (Arv.new A21 (by decide)).pad (pad_rep [] .null 2)
 refine w_goto X21 hx (d20_10 hby) (pc' := 24) (by decide) (by decide) ?_
 refine w_astoreN X21 hx (d20_24 hby) rfl (L' := #[.val (.ref a0), .val (.int (2 : Int32)), .val (.ref jj0), .val (.ref b21)]) rfl (pc' := 25) rfl ?_
 refine w_aloadN X21 hx (d20_25 hby) rfl rfl (pc' := 26) rfl ?_
 refine w_iconst X21 hx (d20_26 hby) (v := (0 : Int32)) rfl (pc' := 27) rfl ?_
 refine w_aloadN X21 hx (d20_27 hby) rfl rfl (pc' := 28) rfl ?_
 refine w_iconst X21 hx (d20_28 hby) (v := (0 : Int32)) rfl (pc' := 29) rfl ?_
 refine w_aloadN X21 hx (d20_29 hby) rfl rfl (pc' := 30) rfl ?_
 have f26 : Arv Z h21 a0 k_a0 (.object kc0) (10 : Int32) [(.ref jj1), (.ref jj2), .null, .null, .null, .null, .null, .null, .null, .null] .null := (V_a0.ext E21)
 refine w_alen X21 hx hZ e21 f26 (d20_30 hby) (pc' := 31) rfl ?_
 refine w_iloadN X21 hx (d20_31 hby) rfl (pc' := 32) rfl ?_
 refine w_static X21 hx (y := yn_21) hown (mvT hZ (wd_144 hw)) (mvT hZ (wd_145 hw)) (mvT hZ (wd_81 hw)) (mvT hZ (wd_146 hw)) (by decide) (backOf (W := 4) (rm_m21_46 l Z aZ hw []  h21 n0 (Nat.le_trans Z0 E21.1) ) hZ (wd_146 hw) (wd_81 hw) (by decide) (by decide)) (by rw [hml]; rfl) [(.int (10 : Int32)), (.int (2 : Int32))] (lenOf pd_8 rfl) rfl (Nat.le_of_eq rfl) (d20_32 hby) (fun _ _ => ⟨rfl, e21, (by decide : 1 + 0 ≤ _), (by decide : 2 + 0 ≤ _)⟩) (pc' := 35) rfl ?_
 rintro _ _ ⟨T27, L27, k27, n27⟩ X27 ⟨Lc27, hQ27, l27, y27, z27⟩
 dsimp only [Pt.U, Pt.locs, Pt.cells, Pt.slots] at X27 l27 y27 z27 hQ27 ⊢
 subst l27 y27 z27
 obtain ⟨rfl, N27q, e27⟩ := hQ27
 have N28 := Fr.app N0 N27q
 show Runs _ _ _ _ (T27.setTop (mkF m 35 #[.val (.ref a0), .val (.int (2 : Int32)), .val (.ref jj0), .val (.ref b21)] [(.int (2 : Int32)), (.int (0 : Int32)), (.ref b21), (.int (0 : Int32)), (.ref a0)]))
 have f30 : Exa Z h21 jj1 kc2 := (zz4.ext E21)
 have f31 : Exa Z h21 jj2 kc2 := (zz5.ext E21)
 obtain ⟨clu29, Aru29, qu29, Su29, Nu29, Hu29, Gu29⟩ := id V25
 refine w_cpA X27 hx (us := [(.ref jj1), (.ref jj2)]) (vr := [(.ref jj1), (.ref jj2)]) 0 hZ hown (wd_147 hw) (wd_150 hw) (wd_148 hw) (wd_149 hw) e27 f26 V25 (Or.inr ⟨rfl, rfl, ⟨(Sto.ofV Aru29 qu29 O21 (Ins.of_exa f30 (wd_85 hw))), (Sto.ofV Aru29 qu29 O21 (Ins.of_exa f31 (wd_85 hw))), trivial⟩⟩) (by decide) (by decide) (by decide) (by decide) (by decide) rfl (by decide) rfl N28 ge22 (by rw [hml]; rfl) (d20_35 hby) (by decide) (Nat.le_of_eq rfl) (by decide) (pc' := 38) rfl ?_
 intro T32 h32 L32 X32 e32 N32 K32 A32
 have K33 : Keep h0 h32 [] := K24.trans K32 (allS (Or.inr sz23) (all0 (P := fun x => x ∈ [] ∨ h0.size ≤ x)))
 refine w_aloadN X32 hx (d20_38 hby) rfl rfl (pc' := 39) rfl ?_
 have f34 : Exa Z h32 b21 "[Ljava/lang/Object;" := (Q21.keep K32)
 exact w_done X32 hlk (v := some (.ref b21)) e32 (fun h => by rw [hret] at h; cases h) (fun fs hr => retOut X32 hx hret rfl (Or.inr (Or.inr (Or.inr (Or.inr ⟨rfl, rfl, rfl⟩)))) (d20_39 hby) hr) (by decide) (by decide) (⟨b21, k21, rfl, N32, K33, sz23, A32, f34, O21⟩)
theorem ef_m19_44 (m : MethodId) (a0 : Addr)  : entryFrame m #[(.ref a0), (.int (2 : Int32))] 2 = mkF m 0 #[.val (.ref a0), .val (.int (2 : Int32))] [] := by first | (simp [entryFrame, mkF, argsToLocals, Value.category]; done) | rfl
def Q_m19_44 (Z : State) (a0 : Addr) (jj0 : Addr) (k_a0 : ClassId) (jj1 : Addr) (jj2 : Addr) (h0 : Heap) (n0 : Nat) (v : Option Value) (h : Heap) (L : List Loc) : Prop := ∃ (r0 : Addr) (c0 : ClassId), v = some (.ref r0) ∧ Fr n0 L ∧ Keep h0 h [] ∧ h0.size ≤ r0 ∧ Arv Z h r0 c0 (.object kc0) (2 : Int32) [(.ref jj1), (.ref jj2)] .null ∧ Exa Z h r0 "[Ljava/lang/Object;" ∧ Ovr Z c0 kc0
theorem rm_m19_44 (l : Launch) (Z : State) (aZ : Array Value) (hw : ∀ d ∈ tables_1, d.before aZ Z = true) (ws : List Jvm.Cond) (a0 : Addr) (jj0 : Addr) (k_a0 : ClassId) (jj1 : Addr) (jj2 : Addr) (h0 : Heap) (n0 : Nat) (Z0 : n0 ≤ h0.size) (E_a0 : Exa Z h0 a0 "[Ljava/lang/Object;") (zz3 : MirO Z "[Ljava/lang/Object;" jj0) (V_a0 : Arv Z h0 a0 k_a0 (.object kc0) (10 : Int32) [(.ref jj1), (.ref jj2), .null, .null, .null, .null, .null, .null, .null, .null] .null) (zz4 : Exa Z h0 jj1 kc2) (zz5 : Exa Z h0 jj2 kc2) :
    MetN l Z yn_19 jdk_65_method_119_code 2 (some (.array (.object kc0))) ws ({ frames := 2, cells := 1, slots := 2, locals := 33 } : Room) #[(.ref a0), (.int (2 : Int32))] h0 (Q_m19_44 Z a0 jj0 k_a0 jj1 jj2 h0 n0) := by
 refine MetN.of (plainFor_of_name pn_7) ?_
 intro p e s m below meth c s₁ hret hx hby hml hown hnm hlk hZ X0 e0
 have N0 := Fr.nil n0
 rw [ef_m19_44 m a0]
 refine w_aloadN X0 hx (d19_0 hby) rfl rfl (pc' := 1) rfl ?_
 refine w_iloadN X0 hx (d19_1 hby) rfl (pc' := 2) rfl ?_
 refine w_aloadN X0 hx (d19_2 hby) rfl rfl (pc' := 3) rfl ?_
 refine w_gcls X0 hx 2 hZ hown (wd_133 hw) (wd_134 hw) (wd_110 hw) (wd_136 hw) (wd_135 hw) (wd_137 hw) e0 E_a0 zz3 (by rw [hml]; rfl) (d19_3 hby) (by decide) (Nat.le_of_eq rfl) (by decide) (pc' := 6) rfl ?_
 intro T20 X20 e20
 refine w_static X20 hx (y := yn_20) hown (mvT hZ (wd_139 hw)) (mvT hZ (wd_140 hw)) (mvT hZ (wd_131 hw)) (mvT hZ (wd_141 hw)) (by decide) (backOf (W := 0) (rm_m20_45 l Z aZ hw [] a0 jj0 k_a0 jj1 jj2 h0 n0 Z0 zz3 V_a0 zz4 zz5) hZ (wd_141 hw) (wd_131 hw) (by decide) (by decide)) (by rw [hml]; rfl) [(.ref a0), (.int (2 : Int32)), (.ref jj0)] (lenOf pd_14 rfl) rfl (Nat.le_of_eq rfl) (d19_6 hby) (fun _ _ => ⟨rfl, e20, (by decide : 0 + 1 ≤ _), (by decide : 0 + 2 ≤ _)⟩) (pc' := 9) rfl ?_
 rintro _ _ ⟨T21, L21, k21, n21⟩ X21 ⟨Lc21, hQ21, l21, y21, z21⟩
 dsimp only [Pt.U, Pt.locs, Pt.cells, Pt.slots] at X21 l21 y21 z21 hQ21 ⊢
 subst l21 y21 z21
 obtain ⟨r0_21, c0_21, rfl, N21q, K21, g21_0, g21_1, g21_2, g21_3⟩ := hQ21
 have N22 := Fr.app N0 N21q
 have K23 : Keep h0 T21.heap [] := (Keep.refl h0 []).trans K21 (all0 (P := fun x => x ∈ [] ∨ h0.size ≤ x))
 have ge24 : n0 ≤ r0_21 := Nat.le_trans Z0 g21_0
 have sz25 : h0.size ≤ r0_21 := Nat.le_trans (Nat.le_refl _) g21_0
 show Runs _ _ _ _ (T21.setTop (mkF m 9 #[.val (.ref a0), .val (.int (2 : Int32))] [(.ref r0_21)]))
 exact w_done X21 hlk (v := some (.ref r0_21)) rfl (fun h => by rw [hret] at h; cases h) (fun fs hr => retOut X21 hx hret rfl (Or.inr (Or.inr (Or.inr (Or.inr ⟨rfl, rfl, rfl⟩)))) (d19_9 hby) hr) (by decide) (by decide) (⟨r0_21, c0_21, rfl, N22, K23, sz25, g21_1, g21_2, g21_3⟩)
theorem ef_m18_43 (m : MethodId) (a0 : Addr)  : entryFrame m #[(.ref a0)] 1 = mkF m 0 #[.val (.ref a0)] [] := by first | (simp [entryFrame, mkF, argsToLocals, Value.category]; done) | rfl
def Q_m18_43 (Z : State) (a0 : Addr) (jj0 : Addr) (jj1 : ClassId) (jj2 : Addr) (jj3 : Addr) (jj4 : Addr) (h0 : Heap) (n0 : Nat) (v : Option Value) (h : Heap) (L : List Loc) : Prop := ∃ (r0 : Addr) (c0 : ClassId), v = some (.ref r0) ∧ Fr n0 L ∧ Keep h0 h [] ∧ h0.size ≤ r0 ∧ Arv Z h r0 c0 (.object kc0) (2 : Int32) [(.ref jj2), (.ref jj3)] .null ∧ Exa Z h r0 "[Ljava/lang/Object;" ∧ Ovr Z c0 kc0
theorem rm_m18_43 (l : Launch) (Z : State) (aZ : Array Value) (hw : ∀ d ∈ tables_1, d.before aZ Z = true) (ws : List Jvm.Cond) (a0 : Addr) (jj0 : Addr) (jj1 : ClassId) (jj2 : Addr) (jj3 : Addr) (jj4 : Addr) (h0 : Heap) (n0 : Nat) (Z0 : n0 ≤ h0.size) (zz5 : Fld Z h0 a0 kc1 "elementData" "[Ljava/lang/Object;" (.ref jj0)) (zz6 : Fld Z h0 a0 kc1 "size" "I" (.int (2 : Int32))) (zz7 : Exa Z h0 jj0 "[Ljava/lang/Object;") (zz8 : Arv Z h0 jj0 jj1 (.object kc0) (10 : Int32) [(.ref jj2), (.ref jj3), .null, .null, .null, .null, .null, .null, .null, .null] .null) (zz9 : Exa Z h0 jj2 kc2) (zz10 : Exa Z h0 jj3 kc2) (zz11 : MirO Z "[Ljava/lang/Object;" jj4) :
    MetN l Z yn_18 jdk_38_method_16_code 1 (some (.array (.object kc0))) ws ({ frames := 3, cells := 1, slots := 2, locals := 46 } : Room) #[(.ref a0)] h0 (Q_m18_43 Z a0 jj0 jj1 jj2 jj3 jj4 h0 n0) := by
 refine MetN.of (plainFor_of_name pn_5) ?_
 intro p e s m below meth c s₁ hret hx hby hml hown hnm hlk hZ X0 e0
 have N0 := Fr.nil n0
 rw [ef_m18_43 m a0]
 refine w_aloadN X0 hx (d18_0 hby) rfl rfl (pc' := 1) rfl ?_
 refine w_getF X0 hx "" hZ hown (Or.inl (wd_49 hw)) Via.refl e0 zz5 (d18_1 hby) (pc' := 4) rfl ?_
 intro T20 X20 e20
 refine w_aloadN X20 hx (d18_4 hby) rfl rfl (pc' := 5) rfl ?_
 refine w_getF X20 hx "" hZ hown (Or.inl (wd_62 hw)) Via.refl e20 zz6 (d18_5 hby) (pc' := 8) rfl ?_
 intro T21 X21 e21
 refine w_static X21 hx (y := yn_19) hown (mvT hZ (wd_129 hw)) (mvT hZ (wd_130 hw)) (mvT hZ (wd_131 hw)) (mvT hZ (wd_132 hw)) (by decide) (backOf (W := 0) (rm_m19_44 l Z aZ hw [] jj0 jj4 jj1 jj2 jj3 h0 n0 Z0 zz7 zz11 zz8 zz9 zz10) hZ (wd_132 hw) (wd_131 hw) (by decide) (by decide)) (by rw [hml]; rfl) [(.ref jj0), (.int (2 : Int32))] (lenOf pd_15 rfl) rfl (Nat.le_of_eq rfl) (d18_8 hby) (fun _ _ => ⟨rfl, e21, (by decide : 0 + 1 ≤ _), (by decide : 0 + 2 ≤ _)⟩) (pc' := 11) rfl ?_
 rintro _ _ ⟨T22, L22, k22, n22⟩ X22 ⟨Lc22, hQ22, l22, y22, z22⟩
 dsimp only [Pt.U, Pt.locs, Pt.cells, Pt.slots] at X22 l22 y22 z22 hQ22 ⊢
 subst l22 y22 z22
 obtain ⟨r0_22, c0_22, rfl, N22q, K22, g22_0, g22_1, g22_2, g22_3⟩ := hQ22
 have N23 := Fr.app N0 N22q
 have K24 : Keep h0 T22.heap [] := (Keep.refl h0 []).trans K22 (all0 (P := fun x => x ∈ [] ∨ h0.size ≤ x))
 have ge25 : n0 ≤ r0_22 := Nat.le_trans Z0 g22_0
 have sz26 : h0.size ≤ r0_22 := Nat.le_trans (Nat.le_refl _) g22_0
 show Runs _ _ _ _ (T22.setTop (mkF m 11 #[.val (.ref a0)] [(.ref r0_22)]))
 exact w_done X22 hlk (v := some (.ref r0_22)) rfl (fun h => by rw [hret] at h; cases h) (fun fs hr => retOut X22 hx hret rfl (Or.inr (Or.inr (Or.inr (Or.inr ⟨rfl, rfl, rfl⟩)))) (d18_11 hby) hr) (by decide) (by decide) (⟨r0_22, c0_22, rfl, N23, K24, sz26, g22_1, g22_2, g22_3⟩)
theorem ef_m31_48 (m : MethodId) (a0 : Addr) (a1 : Addr) (a2 : Addr)  : entryFrame m #[(.ref a0), (.ref a1), (.ref a2)] 3 = mkF m 0 #[.val (.ref a0), .val (.ref a1), .val (.ref a2)] [] := by first | (simp [entryFrame, mkF, argsToLocals, Value.category]; done) | rfl
def Q_m31_48 (Z : State) (a0 : Addr) (a1 : Addr) (a2 : Addr) (h0 : Heap) (n0 : Nat) (v : Option Value) (h : Heap) (L : List Loc) : Prop := v = none ∧ Fr n0 L ∧ Keep h0 h [a0] ∧ Exa Z h a0 kc3 ∧ Fld Z h a0 kc3 "e0" "Ljava/lang/Object;" (.ref a1) ∧ Fld Z h a0 kc3 "e1" "Ljava/lang/Object;" (.ref a2)
theorem rm_m31_48 (l : Launch) (Z : State) (aZ : Array Value) (hw : ∀ d ∈ tables_1, d.before aZ Z = true) (ws : List Jvm.Cond) (a0 : Addr) (a1 : Addr) (a2 : Addr) (h0 : Heap) (n0 : Nat) (Z0 : n0 ≤ h0.size) (E_a0 : Exa Z h0 a0 kc3) (zz0 : Fld Z h0 a0 kc3 "e0" "Ljava/lang/Object;" .null) (zz1 : n0 ≤ a0) (zz2 : Fld Z h0 a0 kc3 "e1" "Ljava/lang/Object;" .null) :
    MetN l Z yn_31 jdk_44_method_2_code 3 none ws ({ frames := 4, cells := 0, slots := 0, locals := 48 } : Room) #[(.ref a0), (.ref a1), (.ref a2)] h0 (Q_m31_48 Z a0 a1 a2 h0 n0) := by
 refine MetN.of (plainFor_of_name pn_11) ?_
 intro p e s m below meth c s₁ hret hx hby hml hown hnm hlk hZ X0 e0
 have N0 := Fr.nil n0
 rw [ef_m31_48 m a0 a1 a2]
 refine w_aloadN X0 hx (d31_0 hby) rfl rfl (pc' := 1) rfl ?_
 refine w_special X0 hx (y := yn_24) rfl hown (mvT hZ (wd_161 hw)) (mvT hZ (wd_162 hw)) (mvT hZ (wd_166 hw)) (by decide) (backOf (W := 0) (rm_m24_30 l Z aZ hw [] a0 h0 n0 Z0 ) hZ (wd_166 hw) (wd_165 hw) (by decide) (by decide)) (by rw [hml]; rfl) [] (lenOf pd_7 rfl) rfl (Nat.le_of_eq rfl) (d31_1 hby) (fun _ _ => ⟨rfl, e0, (by decide : 0 + 0 ≤ _), (by decide : 0 + 0 ≤ _)⟩) (pc' := 4) rfl ?_
 rintro _ _ ⟨T20, L20, k20, n20⟩ X20 ⟨Lc20, hQ20, l20, y20, z20⟩
 dsimp only [Pt.U, Pt.locs, Pt.cells, Pt.slots] at X20 l20 y20 z20 hQ20 ⊢
 subst l20 y20 z20
 obtain ⟨rfl, N20q, e20⟩ := hQ20
 have N21 := Fr.app N0 N20q
 show Runs _ _ _ _ (T20.setTop (mkF m 4 #[.val (.ref a0), .val (.ref a1), .val (.ref a2)] []))
 refine w_aloadN X20 hx (d31_4 hby) rfl rfl (pc' := 5) rfl ?_
 refine w_aloadN X20 hx (d31_5 hby) rfl rfl (pc' := 6) rfl ?_
 refine w_static X20 hx (y := yn_26) hown (mvT hZ (wd_175 hw)) (mvT hZ (wd_176 hw)) (mvT hZ (wd_177 hw)) (mvT hZ (wd_178 hw)) (by decide) (backOf (W := 1) (rm_m26_32 l Z aZ hw [] a1 h0 n0 Z0 ) hZ (wd_178 hw) (wd_177 hw) (by decide) (by decide)) (by rw [hml]; rfl) [(.ref a1)] (lenOf pd_16 rfl) rfl (Nat.le_of_eq rfl) (d31_6 hby) (fun _ _ => ⟨rfl, e20, (by decide : 0 + 0 ≤ _), (by decide : 0 + 0 ≤ _)⟩) (pc' := 9) rfl ?_
 rintro _ _ ⟨T22, L22, k22, n22⟩ X22 ⟨Lc22, hQ22, l22, y22, z22⟩
 dsimp only [Pt.U, Pt.locs, Pt.cells, Pt.slots] at X22 l22 y22 z22 hQ22 ⊢
 subst l22 y22 z22
 obtain ⟨rfl, N22q, e22⟩ := hQ22
 have N23 := Fr.app N21 N22q
 show Runs _ _ _ _ (T22.setTop (mkF m 9 #[.val (.ref a0), .val (.ref a1), .val (.ref a2)] [(.ref a1), (.ref a0)]))
 refine w_putF X22 hx "" hZ hown (Or.inl (wd_179 hw)) Via.refl e22 zz0 E_a0 (Or.inr ⟨(wd_180 hw), rfl, hnm⟩) (wd_155 hw) (ty := (.object kc0)) (by decide) rfl rfl (d31_9 hby) (pc' := 12) rfl ?_
 intro T24 h24 X24 e24 W24
 have f25 : Fld Z h24 a0 kc3 "e0" "Ljava/lang/Object;" (.ref a1) := zz0.same W24
 have K26 : Keep h0 h24 [a0] := (Keep.refl h0 [a0]).wr W24 (Or.inl (by simp))
 have N27 := Fr.snoc X24 N23 zz1
 refine w_aloadN X24 hx (d31_12 hby) rfl rfl (pc' := 13) rfl ?_
 refine w_aloadN X24 hx (d31_13 hby) rfl rfl (pc' := 14) rfl ?_
 refine w_static X24 hx (y := yn_26) hown (mvT hZ (wd_175 hw)) (mvT hZ (wd_176 hw)) (mvT hZ (wd_177 hw)) (mvT hZ (wd_178 hw)) (by decide) (backOf (W := 1) (rm_m26_32 l Z aZ hw [] a2 h24 n0 (Nat.le_trans Z0 (Keep.of_wr W24).1) ) hZ (wd_178 hw) (wd_177 hw) (by decide) (by decide)) (by rw [hml]; rfl) [(.ref a2)] (lenOf pd_16 rfl) rfl (Nat.le_of_eq rfl) (d31_14 hby) (fun _ _ => ⟨rfl, e24, (by decide : 0 + 0 ≤ _), (by decide : 0 + 0 ≤ _)⟩) (pc' := 17) rfl ?_
 rintro _ _ ⟨T28, L28, k28, n28⟩ X28 ⟨Lc28, hQ28, l28, y28, z28⟩
 dsimp only [Pt.U, Pt.locs, Pt.cells, Pt.slots] at X28 l28 y28 z28 hQ28 ⊢
 subst l28 y28 z28
 obtain ⟨rfl, N28q, e28⟩ := hQ28
 have N29 := Fr.app N27 N28q
 show Runs _ _ _ _ (T28.setTop (mkF m 17 #[.val (.ref a0), .val (.ref a1), .val (.ref a2)] [(.ref a2), (.ref a0)]))
 have f30 : Exa Z h24 a0 kc3 := (E_a0.wr W24)
 have f31 : Fld Z h24 a0 kc3 "e1" "Ljava/lang/Object;" .null := (zz2.other W24 (Or.inr (slot_ne (Or.inr (wd_183 hw)) (Or.inr (wd_180 hw)) (by decide) (t := (.object kc0)) (t' := (.object kc0)) (by decide) (by decide))))
 refine w_putF X28 hx "" hZ hown (Or.inl (wd_182 hw)) Via.refl e28 f31 f30 (Or.inr ⟨(wd_183 hw), rfl, hnm⟩) (wd_155 hw) (ty := (.object kc0)) (by decide) rfl rfl (d31_17 hby) (pc' := 20) rfl ?_
 intro T32 h32 X32 e32 W32
 have f33 : Fld Z h32 a0 kc3 "e1" "Ljava/lang/Object;" (.ref a2) := f31.same W32
 have K34 : Keep h0 h32 [a0] := K26.wr W32 (Or.inl (by simp))
 have N35 := Fr.snoc X32 N29 zz1
 have f36 : Exa Z h32 a0 kc3 := (f30.wr W32)
 have f37 : Fld Z h32 a0 kc3 "e0" "Ljava/lang/Object;" (.ref a1) := (f25.other W32 (Or.inr (slot_ne (Or.inr (wd_180 hw)) (Or.inr (wd_183 hw)) (by decide) (t := (.object kc0)) (t' := (.object kc0)) (by decide) (by decide))))
 exact w_done X32 hlk (v := none) e32 (fun _ => rfl) (fun fs hr => X32.returnOut hx hret (d31_20 hby) hr) (by decide) (by decide) (⟨rfl, N35, K34, f36, f37, f33⟩)
theorem ef_m22_47 (m : MethodId) (a0 : Addr)  : entryFrame m #[(.ref a0)] 2 = mkF m 0 #[.val (.ref a0), .unset] [] := by first | (simp [entryFrame, mkF, argsToLocals, Value.category]; done) | rfl
def Q_m22_47 (Z : State) (a0 : Addr) (k_a0 : ClassId) (jj0 : Addr) (jj1 : Addr) (h0 : Heap) (n0 : Nat) (v : Option Value) (h : Heap) (L : List Loc) : Prop := ∃ (r0 : Addr), v = some (.ref r0) ∧ Fr n0 L ∧ Keep h0 h [] ∧ h0.size ≤ r0 ∧ Exa Z h r0 kc3 ∧ Fld Z h r0 kc3 "e0" "Ljava/lang/Object;" (.ref jj0) ∧ Fld Z h r0 kc3 "e1" "Ljava/lang/Object;" (.ref jj1)
theorem rm_m22_47 (l : Launch) (Z : State) (aZ : Array Value) (hw : ∀ d ∈ tables_1, d.before aZ Z = true) (ws : List Jvm.Cond) (a0 : Addr) (k_a0 : ClassId) (jj0 : Addr) (jj1 : Addr) (h0 : Heap) (n0 : Nat) (Z0 : n0 ≤ h0.size) (V_a0 : Arv Z h0 a0 k_a0 (.object kc0) (2 : Int32) [(.ref jj0), (.ref jj1)] .null) :
    MetN l Z yn_22 jdk_40_method_47_code 2 (some (.object "java/util/List")) ws ({ frames := 5, cells := 1, slots := 2, locals := 63 } : Room) #[(.ref a0)] h0 (Q_m22_47 Z a0 k_a0 jj0 jj1 h0 n0) := by
 refine MetN.of (plainFor_of_name pn_12) ?_
 intro p e s m below meth c s₁ hret hx hby hml hown hnm hlk hZ X0 e0
 have N0 := Fr.nil n0
 rw [ef_m22_47 m a0]
 refine w_aloadN X0 hx (d22_0 hby) rfl rfl (pc' := 1) rfl ?_
 refine w_alen X0 hx hZ e0 V_a0 (d22_1 hby) (pc' := 2) rfl ?_
 refine w_tswIn X0 hx (d22_2 hby) (by decide) (o := 43) rfl (pc' := 45) (by decide) (by decide) ?_
 refine w_new X0 hx hZ hown (wd_154 hw) (wd_155 hw) (wd_156 hw) e0 (d22_45 hby) (by decide) (by decide) (pc' := 48) rfl ?_
 intro T20 h20 b20 X20 e20 E20 g20 A20 D20
 have ge21 : n0 ≤ b20 := Nat.le_trans Z0 (Nat.le_of_eq g20.symm)
 have sz22 : h0.size ≤ b20 := Nat.le_trans (Nat.le_refl _) (Nat.le_of_eq g20.symm)
 have K23 : Keep h0 h20 [] := (Keep.refl h0 []).ext E20
 have f24 : Fld Z h20 b20 kc3 "e0" "Ljava/lang/Object;" .null := D20 (Or.inr (wd_180 hw)) (ty := (.object kc0)) (by decide)
 have f25 : Fld Z h20 b20 kc3 "e1" "Ljava/lang/Object;" .null := D20 (Or.inr (wd_183 hw)) (ty := (.object kc0)) (by decide)
 refine w_dup X20 hx (d22_48 hby) rfl (pc' := 49) rfl ?_
 refine w_aloadN X20 hx (d22_49 hby) rfl rfl (pc' := 50) rfl ?_
 refine w_iconst X20 hx (d22_50 hby) (v := (0 : Int32)) rfl (pc' := 51) rfl ?_
 have f26 : Arv Z h20 a0 k_a0 (.object kc0) (2 : Int32) [(.ref jj0), (.ref jj1)] .null := (V_a0.ext E20)
 obtain ⟨clu27, Aru27, qu27, Su27, Nu27, Hu27, Gu27⟩ := id f26
 have hinu27 := inb_of (j := (0 : Int32)) Su27 ⟨by decide, by decide⟩
 refine w_aaload X20 hx hZ e20 Aru27 rfl hinu27 (Hu27.at hinu27 rfl) (d22_51 hby) (pc' := 52) rfl ?_
 refine w_aloadN X20 hx (d22_52 hby) rfl rfl (pc' := 53) rfl ?_
 refine w_iconst X20 hx (d22_53 hby) (v := (1 : Int32)) rfl (pc' := 54) rfl ?_
 obtain ⟨clu28, Aru28, qu28, Su28, Nu28, Hu28, Gu28⟩ := id f26
 have hinu28 := inb_of (j := (1 : Int32)) Su28 ⟨by decide, by decide⟩
 refine w_aaload X20 hx hZ e20 Aru28 rfl hinu28 (Hu28.at hinu28 rfl) (d22_54 hby) (pc' := 55) rfl ?_
 refine w_special X20 hx (y := yn_31) rfl hown (mvT hZ (wd_214 hw)) (mvT hZ (wd_215 hw)) (mvT hZ (wd_216 hw)) (by decide) (backOf (W := 1) (rm_m31_48 l Z aZ hw [] b20 jj0 jj1 h20 n0 (Nat.le_trans Z0 E20.1) A20 f24 ge21 f25) hZ (wd_216 hw) (wd_156 hw) (by decide) (by decide)) (by rw [hml]; rfl) [(.ref jj0), (.ref jj1)] (lenOf pd_24 rfl) rfl (Nat.le_of_eq rfl) (d22_55 hby) (fun _ _ => ⟨rfl, e20, (by decide : 1 + 0 ≤ _), (by decide : 2 + 0 ≤ _)⟩) (pc' := 58) rfl ?_
 rintro _ _ ⟨T29, L29, k29, n29⟩ X29 ⟨Lc29, hQ29, l29, y29, z29⟩
 dsimp only [Pt.U, Pt.locs, Pt.cells, Pt.slots] at X29 l29 y29 z29 hQ29 ⊢
 subst l29 y29 z29
 obtain ⟨rfl, N29q, K29, g29_0, g29_1, g29_2⟩ := hQ29
 have N30 := Fr.app N0 N29q
 have K31 : Keep h0 T29.heap [] := K23.trans K29 (allS (Or.inr sz22) (all0 (P := fun x => x ∈ [] ∨ h0.size ≤ x)))
 show Runs _ _ _ _ (T29.setTop (mkF m 58 #[.val (.ref a0), .unset] [(.ref b20)]))
 exact w_done X29 hlk (v := some (.ref b20)) rfl (fun h => by rw [hret] at h; cases h) (fun fs hr => retOut X29 hx hret rfl (Or.inr (Or.inr (Or.inr (Or.inr ⟨rfl, rfl, rfl⟩)))) (d22_58 hby) hr) (by decide) (by decide) (⟨b20, rfl, N30, K31, sz22, g29_0, g29_1, g29_2⟩)
theorem ef_m16_41 (m : MethodId) (a0 : Addr)  : entryFrame m #[(.ref a0)] 2 = mkF m 0 #[.val (.ref a0), .unset] [] := by first | (simp [entryFrame, mkF, argsToLocals, Value.category]; done) | rfl
def Q_m16_41 (Z : State) (a0 : Addr) (jj0 : Addr) (jj1 : ClassId) (jj2 : Addr) (jj3 : Addr) (jj4 : Addr) (h0 : Heap) (n0 : Nat) (v : Option Value) (h : Heap) (L : List Loc) : Prop := ∃ (r0 : Addr), v = some (.ref r0) ∧ Fr n0 L ∧ Keep h0 h [] ∧ h0.size ≤ r0 ∧ Exa Z h r0 kc3 ∧ Fld Z h r0 kc3 "e0" "Ljava/lang/Object;" (.ref jj2) ∧ Fld Z h r0 kc3 "e1" "Ljava/lang/Object;" (.ref jj3)
theorem rm_m16_41 (l : Launch) (Z : State) (aZ : Array Value) (hw : ∀ d ∈ tables_1, d.before aZ Z = true) (ws : List Jvm.Cond) (a0 : Addr) (jj0 : Addr) (jj1 : ClassId) (jj2 : Addr) (jj3 : Addr) (jj4 : Addr) (h0 : Heap) (n0 : Nat) (Z0 : n0 ≤ h0.size) (E_a0 : Exa Z h0 a0 kc1) (zz5 : Fld Z h0 a0 kc1 "size" "I" (.int (2 : Int32))) (zz6 : Fld Z h0 a0 kc1 "elementData" "[Ljava/lang/Object;" (.ref jj0)) (zz7 : Exa Z h0 jj0 "[Ljava/lang/Object;") (zz8 : Arv Z h0 jj0 jj1 (.object kc0) (10 : Int32) [(.ref jj2), (.ref jj3), .null, .null, .null, .null, .null, .null, .null, .null] .null) (zz9 : Exa Z h0 jj2 kc2) (zz10 : Exa Z h0 jj3 kc2) (zz11 : MirO Z "[Ljava/lang/Object;" jj4) :
    MetN l Z yn_16 jdk_56_method_3_code 2 (some (.object "java/util/List")) ws ({ frames := 6, cells := 2, slots := 4, locals := 76 } : Room) #[(.ref a0)] h0 (Q_m16_41 Z a0 jj0 jj1 jj2 jj3 jj4 h0 n0) := by
 refine MetN.of (plainFor_of_name pn_13) ?_
 intro p e s m below meth c s₁ hret hx hby hml hown hnm hlk hZ X0 e0
 have N0 := Fr.nil n0
 rw [ef_m16_41 m a0]
 refine w_aloadN X0 hx (d16_0 hby) rfl rfl (pc' := 1) rfl ?_
 refine w_instNo X0 hx hZ hown (wd_106 hw) e0 E_a0 (own_nsno (wd_107 hw) (wd_155 hw) (NS.step (wd_107 hw) (NS.step (wd_108 hw) (NS.step (wd_109 hw) (own_nsroot (wd_110 hw) (wd_155 hw) (by decide)) (by decide)) (by decide)) (by decide)) (by decide)) (d16_1 hby) (pc' := 4) rfl ?_
 intro T20 X20 e20
 refine w_ifN X20 hx (d16_4 hby) (teq (by decide : (0 : Int32) = (0 : Int32))).2 (pc' := 7) rfl ?_
 refine w_aloadN X20 hx (d16_7 hby) rfl rfl (pc' := 8) rfl ?_
 refine w_instNo X20 hx hZ hown (wd_111 hw) e20 E_a0 (own_nsno (wd_107 hw) (wd_247 hw) (NS.step (wd_107 hw) (NS.step (wd_108 hw) (NS.step (wd_109 hw) (own_nsroot (wd_110 hw) (wd_247 hw) (by decide)) (by decide)) (by decide)) (by decide)) (by decide)) (d16_8 hby) (pc' := 11) rfl ?_
 intro T21 X21 e21
 refine w_ifY X21 hx (d16_11 hby) (teq (by decide : (0 : Int32) = (0 : Int32))).1 (pc' := 31) (by decide) (by decide) ?_
 refine w_aloadN X21 hx (d16_31 hby) rfl rfl (pc' := 32) rfl ?_
 obtain ⟨cq22, kq22, q22a, q22b, q22c⟩ := isOf hZ e21 E_a0
 refine w_interface X21 hx (xi := (⟨"java/util/Collection", "isEmpty", "()Z"⟩ : MethodName)) (y := yn_17) hown (mvT hZ (wd_112 hw)) (mvT hZ (wd_113 hw)) (mvT hZ (wd_114 hw)) (mvT hZ (wd_115 hw)) (mvT hZ (wd_116 hw)) (mvT hZ (wd_117 hw)) (mvT hZ (wd_118 hw)) (mvT hZ (wd_119 hw)) (by decide) (backOf (W := 0) (rm_m17_42 l Z aZ hw [] a0 h0 n0 Z0 zz5) hZ (wd_120 hw) (wd_29 hw) (by decide) (by decide)) q22a q22b q22c (by rw [hml]; rfl) [] (lenOf pd_13 rfl) rfl (Nat.le_of_eq rfl) (d16_32 hby) (fun _ _ => ⟨rfl, e21, (by decide : 0 + 0 ≤ _), (by decide : 0 + 0 ≤ _)⟩) (pc' := 37) rfl ?_
 rintro _ _ ⟨T22, L22, k22, n22⟩ X22 ⟨Lc22, hQ22, l22, y22, z22⟩
 dsimp only [Pt.U, Pt.locs, Pt.cells, Pt.slots] at X22 l22 y22 z22 hQ22 ⊢
 subst l22 y22 z22
 obtain ⟨rfl, N22q, e22⟩ := hQ22
 have N23 := Fr.app N0 N22q
 show Runs _ _ _ _ (T22.setTop (mkF m 37 #[.val (.ref a0), .unset] [(.int (0 : Int32))]))
 refine w_ifY X22 hx (d16_37 hby) (teq (by decide : (0 : Int32) = (0 : Int32))).1 (pc' := 44) (by decide) (by decide) ?_
 refine w_aloadN X22 hx (d16_44 hby) rfl rfl (pc' := 45) rfl ?_
 obtain ⟨cq24, kq24, q24a, q24b, q24c⟩ := isOf hZ e22 E_a0
 refine w_interface X22 hx (xi := (⟨"java/util/Collection", "toArray", "()[Ljava/lang/Object;"⟩ : MethodName)) (y := yn_18) hown (mvT hZ (wd_121 hw)) (mvT hZ (wd_122 hw)) (mvT hZ (wd_123 hw)) (mvT hZ (wd_124 hw)) (mvT hZ (wd_125 hw)) (mvT hZ (wd_126 hw)) (mvT hZ (wd_127 hw)) (mvT hZ (wd_119 hw)) (by decide) (backOf (W := 0) (rm_m18_43 l Z aZ hw [] a0 jj0 jj1 jj2 jj3 jj4 h0 n0 Z0 zz6 zz5 zz7 zz8 zz9 zz10 zz11) hZ (wd_128 hw) (wd_29 hw) (by decide) (by decide)) q24a q24b q24c (by rw [hml]; rfl) [] (lenOf pd_10 rfl) rfl (Nat.le_of_eq rfl) (d16_45 hby) (fun _ _ => ⟨rfl, e22, (by decide : 0 + 1 ≤ _), (by decide : 0 + 2 ≤ _)⟩) (pc' := 50) rfl ?_
 rintro _ _ ⟨T24, L24, k24, n24⟩ X24 ⟨Lc24, hQ24, l24, y24, z24⟩
 dsimp only [Pt.U, Pt.locs, Pt.cells, Pt.slots] at X24 l24 y24 z24 hQ24 ⊢
 subst l24 y24 z24
 obtain ⟨r0_24, c0_24, rfl, N24q, K24, g24_0, g24_1, g24_2, g24_3⟩ := hQ24
 have N25 := Fr.app N23 N24q
 have K26 : Keep h0 T24.heap [] := (Keep.refl h0 []).trans K24 (all0 (P := fun x => x ∈ [] ∨ h0.size ≤ x))
 have ge27 : n0 ≤ r0_24 := Nat.le_trans Z0 g24_0
 have sz28 : h0.size ≤ r0_24 := Nat.le_trans (Nat.le_refl _) g24_0
 show Runs _ _ _ _ (T24.setTop (mkF m 50 #[.val (.ref a0), .unset] [(.ref r0_24)]))
 refine w_static X24 hx (y := yn_22) hown (mvT hZ (wd_151 hw)) (mvT hZ (wd_152 hw)) (mvT hZ (wd_100 hw)) (mvT hZ (wd_153 hw)) (by decide) (backOf (W := 0) (rm_m22_47 l Z aZ hw [] r0_24 c0_24 jj2 jj3 T24.heap n0 (Nat.le_trans Z0 K24.1) g24_1) hZ (wd_153 hw) (wd_100 hw) (by decide) (by decide)) (by rw [hml]; rfl) [(.ref r0_24)] (lenOf pd_18 rfl) rfl (Nat.le_of_eq rfl) (d16_50 hby) (fun _ _ => ⟨rfl, rfl, (by decide : 1 + 1 ≤ _), (by decide : 2 + 2 ≤ _)⟩) (pc' := 53) rfl ?_
 rintro _ _ ⟨T29, L29, k29, n29⟩ X29 ⟨Lc29, hQ29, l29, y29, z29⟩
 dsimp only [Pt.U, Pt.locs, Pt.cells, Pt.slots] at X29 l29 y29 z29 hQ29 ⊢
 subst l29 y29 z29
 obtain ⟨r0_29, rfl, N29q, K29, g29_0, g29_1, g29_2, g29_3⟩ := hQ29
 have N30 := Fr.app N25 N29q
 have K31 : Keep h0 T29.heap [] := K26.trans K29 (all0 (P := fun x => x ∈ [] ∨ h0.size ≤ x))
 have ge32 : n0 ≤ r0_29 := Nat.le_trans (Nat.le_trans Z0 K24.1) g29_0
 have sz33 : h0.size ≤ r0_29 := Nat.le_trans K24.1 g29_0
 show Runs _ _ _ _ (T29.setTop (mkF m 53 #[.val (.ref a0), .unset] [(.ref r0_29)]))
 exact w_done X29 hlk (v := some (.ref r0_29)) rfl (fun h => by rw [hret] at h; cases h) (fun fs hr => retOut X29 hx hret rfl (Or.inr (Or.inr (Or.inr (Or.inr ⟨rfl, rfl, rfl⟩)))) (d16_53 hby) hr) (by decide) (by decide) (⟨r0_29, rfl, N30, K31, sz33, g29_1, g29_2, g29_3⟩)
theorem ef_m15_40 (m : MethodId) (a0 : Addr)  : entryFrame m #[(.ref a0)] 1 = mkF m 0 #[.val (.ref a0)] [] := by first | (simp [entryFrame, mkF, argsToLocals, Value.category]; done) | rfl
def Q_m15_40 (Z : State) (a0 : Addr) (jj0 : Addr) (jj1 : ClassId) (jj2 : Addr) (jj3 : Addr) (jj4 : Addr) (h0 : Heap) (n0 : Nat) (v : Option Value) (h : Heap) (L : List Loc) : Prop := ∃ (r0 : Addr), v = some (.ref r0) ∧ Fr n0 L ∧ Keep h0 h [] ∧ h0.size ≤ r0 ∧ Exa Z h r0 kc3 ∧ Fld Z h r0 kc3 "e0" "Ljava/lang/Object;" (.ref jj2) ∧ Fld Z h r0 kc3 "e1" "Ljava/lang/Object;" (.ref jj3)
theorem rm_m15_40 (l : Launch) (Z : State) (aZ : Array Value) (hw : ∀ d ∈ tables_1, d.before aZ Z = true) (ws : List Jvm.Cond) (a0 : Addr) (jj0 : Addr) (jj1 : ClassId) (jj2 : Addr) (jj3 : Addr) (jj4 : Addr) (h0 : Heap) (n0 : Nat) (Z0 : n0 ≤ h0.size) (E_a0 : Exa Z h0 a0 kc1) (zz5 : Fld Z h0 a0 kc1 "size" "I" (.int (2 : Int32))) (zz6 : Fld Z h0 a0 kc1 "elementData" "[Ljava/lang/Object;" (.ref jj0)) (zz7 : Exa Z h0 jj0 "[Ljava/lang/Object;") (zz8 : Arv Z h0 jj0 jj1 (.object kc0) (10 : Int32) [(.ref jj2), (.ref jj3), .null, .null, .null, .null, .null, .null, .null, .null] .null) (zz9 : Exa Z h0 jj2 kc2) (zz10 : Exa Z h0 jj3 kc2) (zz11 : MirO Z "[Ljava/lang/Object;" jj4) :
    MetN l Z yn_15 jdk_40_method_48_code 1 (some (.object "java/util/List")) ws ({ frames := 7, cells := 2, slots := 4, locals := 89 } : Room) #[(.ref a0)] h0 (Q_m15_40 Z a0 jj0 jj1 jj2 jj3 jj4 h0 n0) := by
 refine MetN.of (plainFor_of_name pn_12) ?_
 intro p e s m below meth c s₁ hret hx hby hml hown hnm hlk hZ X0 e0
 have N0 := Fr.nil n0
 rw [ef_m15_40 m a0]
 refine w_aloadN X0 hx (d15_0 hby) rfl rfl (pc' := 1) rfl ?_
 refine w_static X0 hx (y := yn_16) hown (mvT hZ (wd_102 hw)) (mvT hZ (wd_103 hw)) (mvT hZ (wd_104 hw)) (mvT hZ (wd_105 hw)) (by decide) (backOf (W := 0) (rm_m16_41 l Z aZ hw [] a0 jj0 jj1 jj2 jj3 jj4 h0 n0 Z0 E_a0 zz5 zz6 zz7 zz8 zz9 zz10 zz11) hZ (wd_105 hw) (wd_104 hw) (by decide) (by decide)) (by rw [hml]; rfl) [(.ref a0)] (lenOf pd_19 rfl) rfl (Nat.le_of_eq rfl) (d15_1 hby) (fun _ _ => ⟨rfl, e0, (by decide : 0 + 2 ≤ _), (by decide : 0 + 4 ≤ _)⟩) (pc' := 4) rfl ?_
 rintro _ _ ⟨T20, L20, k20, n20⟩ X20 ⟨Lc20, hQ20, l20, y20, z20⟩
 dsimp only [Pt.U, Pt.locs, Pt.cells, Pt.slots] at X20 l20 y20 z20 hQ20 ⊢
 subst l20 y20 z20
 obtain ⟨r0_20, rfl, N20q, K20, g20_0, g20_1, g20_2, g20_3⟩ := hQ20
 have N21 := Fr.app N0 N20q
 have K22 : Keep h0 T20.heap [] := (Keep.refl h0 []).trans K20 (all0 (P := fun x => x ∈ [] ∨ h0.size ≤ x))
 have ge23 : n0 ≤ r0_20 := Nat.le_trans Z0 g20_0
 have sz24 : h0.size ≤ r0_20 := Nat.le_trans (Nat.le_refl _) g20_0
 show Runs _ _ _ _ (T20.setTop (mkF m 4 #[.val (.ref a0)] [(.ref r0_20)]))
 exact w_done X20 hlk (v := some (.ref r0_20)) rfl (fun h => by rw [hret] at h; cases h) (fun fs hr => retOut X20 hx hret rfl (Or.inr (Or.inr (Or.inr (Or.inr ⟨rfl, rfl, rfl⟩)))) (d15_4 hby) hr) (by decide) (by decide) (⟨r0_20, rfl, N21, K22, sz24, g20_1, g20_2, g20_3⟩)
theorem ef_m13_39 (m : MethodId) (a0 : Addr) (a1 : Addr)  : entryFrame m #[(.ref a0), (.ref a1)] 2 = mkF m 0 #[.val (.ref a0), .val (.ref a1)] [] := by first | (simp [entryFrame, mkF, argsToLocals, Value.category]; done) | rfl
def Q_m13_39 (Z : State) (a0 : Addr) (a1 : Addr) (jj0 : Addr) (jj1 : ClassId) (jj2 : Addr) (jj3 : Addr) (jj4 : Addr) (h0 : Heap) (n0 : Nat) (v : Option Value) (h : Heap) (L : List Loc) : Prop := ∃ (r0 : Addr), v = none ∧ Fr n0 L ∧ Keep h0 h [a0] ∧ h0.size ≤ r0 ∧ Exa Z h r0 kc3 ∧ Fld Z h r0 kc3 "e0" "Ljava/lang/Object;" (.ref jj2) ∧ Fld Z h r0 kc3 "e1" "Ljava/lang/Object;" (.ref jj3) ∧ Exa Z h a0 kc6 ∧ Fld Z h a0 kc6 "parts" "Ljava/util/List;" (.ref r0)
theorem rm_m13_39 (l : Launch) (Z : State) (aZ : Array Value) (hw : ∀ d ∈ tables_1, d.before aZ Z = true) (ws : List Jvm.Cond) (a0 : Addr) (a1 : Addr) (jj0 : Addr) (jj1 : ClassId) (jj2 : Addr) (jj3 : Addr) (jj4 : Addr) (h0 : Heap) (n0 : Nat) (Z0 : n0 ≤ h0.size) (E_a1 : Exa Z h0 a1 kc1) (zz5 : Fld Z h0 a1 kc1 "size" "I" (.int (2 : Int32))) (zz6 : Fld Z h0 a1 kc1 "elementData" "[Ljava/lang/Object;" (.ref jj0)) (zz7 : Exa Z h0 jj0 "[Ljava/lang/Object;") (zz8 : Arv Z h0 jj0 jj1 (.object kc0) (10 : Int32) [(.ref jj2), (.ref jj3), .null, .null, .null, .null, .null, .null, .null, .null] .null) (zz9 : Exa Z h0 jj2 kc2) (zz10 : Exa Z h0 jj3 kc2) (zz11 : MirO Z "[Ljava/lang/Object;" jj4) (E_a0 : Exa Z h0 a0 kc6) (zz12 : Fld Z h0 a0 kc6 "parts" "Ljava/util/List;" .null) (zz13 : n0 ≤ a0) :
    MetN l Z yn_13 prog_12_method_1_code 2 none ws ({ frames := 8, cells := 2, slots := 4, locals := 101 } : Room) #[(.ref a0), (.ref a1)] h0 (Q_m13_39 Z a0 a1 jj0 jj1 jj2 jj3 jj4 h0 n0) := by
 refine MetN.of (plainFor_of_name pn_14) ?_
 intro p e s m below meth c s₁ hret hx hby hml hown hnm hlk hZ X0 e0
 have N0 := Fr.nil n0
 rw [ef_m13_39 m a0 a1]
 refine w_aloadN X0 hx (d13_0 hby) rfl rfl (pc' := 1) rfl ?_
 refine w_special X0 hx (y := yn_14) rfl hown (mvT hZ (wd_92 hw)) (mvT hZ (wd_93 hw)) (mvT hZ (wd_96 hw)) (by decide) (backOf (W := 0) (rm_m14_20 l Z aZ hw [] a0 h0 n0 Z0 ) hZ (wd_96 hw) (wd_95 hw) (by decide) (by decide)) (by rw [hml]; rfl) [] (lenOf pd_7 rfl) rfl (Nat.le_of_eq rfl) (d13_1 hby) (fun _ _ => ⟨rfl, e0, (by decide : 0 + 0 ≤ _), (by decide : 0 + 0 ≤ _)⟩) (pc' := 4) rfl ?_
 rintro _ _ ⟨T20, L20, k20, n20⟩ X20 ⟨Lc20, hQ20, l20, y20, z20⟩
 dsimp only [Pt.U, Pt.locs, Pt.cells, Pt.slots] at X20 l20 y20 z20 hQ20 ⊢
 subst l20 y20 z20
 obtain ⟨rfl, N20q, e20⟩ := hQ20
 have N21 := Fr.app N0 N20q
 show Runs _ _ _ _ (T20.setTop (mkF m 4 #[.val (.ref a0), .val (.ref a1)] []))
 refine w_aloadN X20 hx (d13_4 hby) rfl rfl (pc' := 5) rfl ?_
 refine w_static X20 hx (y := yn_15) hown (mvT hZ (wd_98 hw)) (mvT hZ (wd_99 hw)) (mvT hZ (wd_100 hw)) (mvT hZ (wd_101 hw)) (by decide) (backOf (W := 0) (rm_m15_40 l Z aZ hw [] a1 jj0 jj1 jj2 jj3 jj4 h0 n0 Z0 E_a1 zz5 zz6 zz7 zz8 zz9 zz10 zz11) hZ (wd_101 hw) (wd_100 hw) (by decide) (by decide)) (by rw [hml]; rfl) [(.ref a1)] (lenOf pd_19 rfl) rfl (Nat.le_of_eq rfl) (d13_5 hby) (fun _ _ => ⟨rfl, e20, (by decide : 0 + 2 ≤ _), (by decide : 0 + 4 ≤ _)⟩) (pc' := 8) rfl ?_
 rintro _ _ ⟨T22, L22, k22, n22⟩ X22 ⟨Lc22, hQ22, l22, y22, z22⟩
 dsimp only [Pt.U, Pt.locs, Pt.cells, Pt.slots] at X22 l22 y22 z22 hQ22 ⊢
 subst l22 y22 z22
 obtain ⟨r0_22, rfl, N22q, K22, g22_0, g22_1, g22_2, g22_3⟩ := hQ22
 have N23 := Fr.app N21 N22q
 have K24 : Keep h0 T22.heap [a0] := (Keep.refl h0 [a0]).trans K22 (all0 (P := fun x => x ∈ [a0] ∨ h0.size ≤ x))
 have ge25 : n0 ≤ r0_22 := Nat.le_trans Z0 g22_0
 have sz26 : h0.size ≤ r0_22 := Nat.le_trans (Nat.le_refl _) g22_0
 show Runs _ _ _ _ (T22.setTop (mkF m 8 #[.val (.ref a0), .val (.ref a1)] [(.ref r0_22)]))
 refine w_astoreN X22 hx (d13_8 hby) rfl (L' := #[.val (.ref a0), .val (.ref r0_22)]) rfl (pc' := 9) rfl ?_
 refine w_aloadN X22 hx (d13_9 hby) rfl rfl (pc' := 10) rfl ?_
 refine w_aloadN X22 hx (d13_10 hby) rfl rfl (pc' := 11) rfl ?_
 have f27 : Exa Z T22.heap a0 kc6 := (E_a0.keep K22)
 have f28 : Fld Z T22.heap a0 kc6 "parts" "Ljava/util/List;" .null := (zz12.keep K22 nin0)
 refine w_putF X22 hx "" hZ hown (Or.inl (wd_184 hw)) Via.refl rfl f28 f27 (Or.inr ⟨(wd_185 hw), rfl, hnm⟩) (wd_87 hw) (ty := (.object "java/util/List")) (by decide) rfl rfl (d13_11 hby) (pc' := 14) rfl ?_
 intro T29 h29 X29 e29 W29
 have f30 : Fld Z h29 a0 kc6 "parts" "Ljava/util/List;" (.ref r0_22) := f28.same W29
 have K31 : Keep h0 h29 [a0] := K24.wr W29 (Or.inl (by simp))
 have N32 := Fr.snoc X29 N23 zz13
 have f33 : Exa Z h29 r0_22 kc3 := (g22_1.wr W29)
 have ne34 : a0 ≠ r0_22 := (Nat.ne_of_lt (Nat.lt_of_lt_of_le E_a0.lt (Nat.le_trans (Nat.le_refl _) g22_0)))
 have f35 : Fld Z h29 r0_22 kc3 "e0" "Ljava/lang/Object;" (.ref jj2) := (g22_2.other W29 (Or.inl (Ne.symm ne34)))
 have f36 : Fld Z h29 r0_22 kc3 "e1" "Ljava/lang/Object;" (.ref jj3) := (g22_3.other W29 (Or.inl (Ne.symm ne34)))
 have f37 : Exa Z h29 a0 kc6 := (f27.wr W29)
 exact w_done X29 hlk (v := none) e29 (fun _ => rfl) (fun fs hr => X29.returnOut hx hret (d13_14 hby) hr) (by decide) (by decide) (⟨r0_22, rfl, N32, K31, sz26, f33, f35, f36, f37, f30⟩)
theorem ef_m28_50 (m : MethodId) (a0 : Addr)  : entryFrame m #[(.ref a0)] 1 = mkF m 0 #[.val (.ref a0)] [] := by first | (simp [entryFrame, mkF, argsToLocals, Value.category]; done) | rfl
def Q_m28_50 (Z : State) (a0 : Addr) (jj0 : Addr) (jj1 : Addr) (h0 : Heap) (n0 : Nat) (v : Option Value) (h : Heap) (L : List Loc) : Prop := v = some (.int (2 : Int32)) ∧ Fr n0 L ∧ h = h0
theorem rm_m28_50 (l : Launch) (Z : State) (aZ : Array Value) (hw : ∀ d ∈ tables_1, d.before aZ Z = true) (ws : List Jvm.Cond) (a0 : Addr) (jj0 : Addr) (jj1 : Addr) (h0 : Heap) (n0 : Nat) (Z0 : n0 ≤ h0.size) (zz2 : Fld Z h0 a0 kc3 "e1" "Ljava/lang/Object;" (.ref jj0)) (zz3 : Sta Z Z.heap kc7 "EMPTY" "Ljava/lang/Object;" (.ref jj1)) (O0 : Old Z n0 h0) (zz4 : jj0 ≠ jj1) :
    MetN l Z yn_28 jdk_44_method_3_code 1 (some .int) ws ({ frames := 0, cells := 0, slots := 0, locals := 0 } : Room) #[(.ref a0)] h0 (Q_m28_50 Z a0 jj0 jj1 h0 n0) := by
 refine MetN.of (plainFor_of_name pn_11) ?_
 intro p e s m below meth c s₁ hret hx hby hml hown hnm hlk hZ X0 e0
 have N0 := Fr.nil n0
 rw [ef_m28_50 m a0]
 refine w_aloadN X0 hx (d28_0 hby) rfl rfl (pc' := 1) rfl ?_
 refine w_getF X0 hx "" hZ hown (Or.inl (wd_182 hw)) Via.refl e0 zz2 (d28_1 hby) (pc' := 4) rfl ?_
 intro T20 X20 e20
 refine w_getS X20 hx kc7 hZ hown (Or.inr (wd_181 hw)) Via.refl e20 (zz3.ext O0.2) (d28_4 hby) (pc' := 7) rfl ?_
 intro T21 X21 e21
 refine w_acmp X21 hx (d28_7 hby) (same := false) rfl rfl (decide_eq_false fun q => zz4 (Value.ref.inj q)) (pc' := 10) (by decide) (by decide) ?_
 refine w_iconst X21 hx (d28_10 hby) (v := (2 : Int32)) rfl (pc' := 11) rfl ?_
 refine w_goto X21 hx (d28_11 hby) (pc' := 15) (by decide) (by decide) ?_
 exact w_done X21 hlk (v := some (.int (2 : Int32))) e21 (fun h => by rw [hret] at h; cases h) (fun fs hr => retI X21 hx hret (d28_15 hby) hr) (by decide) (by decide) (⟨rfl, N0, rfl⟩)
theorem ef_m29_51 (m : MethodId) (a0 : Addr)  : entryFrame m #[(.ref a0), (.int (1 : Int32))] 2 = mkF m 0 #[.val (.ref a0), .val (.int (1 : Int32))] [] := by first | (simp [entryFrame, mkF, argsToLocals, Value.category]; done) | rfl
def Q_m29_51 (Z : State) (a0 : Addr) (jj0 : Addr) (jj1 : Addr) (h0 : Heap) (n0 : Nat) (v : Option Value) (h : Heap) (L : List Loc) : Prop := v = some (.ref jj0) ∧ Fr n0 L ∧ h = h0
theorem rm_m29_51 (l : Launch) (Z : State) (aZ : Array Value) (hw : ∀ d ∈ tables_1, d.before aZ Z = true) (ws : List Jvm.Cond) (a0 : Addr) (jj0 : Addr) (jj1 : Addr) (h0 : Heap) (n0 : Nat) (Z0 : n0 ≤ h0.size) (zz2 : Fld Z h0 a0 kc3 "e1" "Ljava/lang/Object;" (.ref jj0)) (zz3 : Sta Z Z.heap kc7 "EMPTY" "Ljava/lang/Object;" (.ref jj1)) (O0 : Old Z n0 h0) (zz4 : jj0 ≠ jj1) :
    MetN l Z yn_29 jdk_44_method_5_code 2 (some (.object kc0)) ws ({ frames := 0, cells := 0, slots := 0, locals := 0 } : Room) #[(.ref a0), (.int (1 : Int32))] h0 (Q_m29_51 Z a0 jj0 jj1 h0 n0) := by
 refine MetN.of (plainFor_of_name pn_11) ?_
 intro p e s m below meth c s₁ hret hx hby hml hown hnm hlk hZ X0 e0
 have N0 := Fr.nil n0
 rw [ef_m29_51 m a0]
 refine w_iloadN X0 hx (d29_0 hby) rfl (pc' := 1) rfl ?_
 refine w_ifY X0 hx (d29_1 hby) (feq (by decide : ¬ ((1 : Int32) = (0 : Int32)))).2 (pc' := 9) (by decide) (by decide) ?_
 refine w_iloadN X0 hx (d29_9 hby) rfl (pc' := 10) rfl ?_
 refine w_iconst X0 hx (d29_10 hby) (v := (1 : Int32)) rfl (pc' := 11) rfl ?_
 refine w_icN X0 hx (d29_11 hby) (teq (by decide : (1 : Int32) = (1 : Int32))).2 (pc' := 14) rfl ?_
 refine w_aloadN X0 hx (d29_14 hby) rfl rfl (pc' := 15) rfl ?_
 refine w_getF X0 hx "" hZ hown (Or.inl (wd_182 hw)) Via.refl e0 zz2 (d29_15 hby) (pc' := 18) rfl ?_
 intro T20 X20 e20
 refine w_getS X20 hx kc7 hZ hown (Or.inr (wd_181 hw)) Via.refl e20 (zz3.ext O0.2) (d29_18 hby) (pc' := 21) rfl ?_
 intro T21 X21 e21
 refine w_acmp X21 hx (d29_21 hby) (same := false) rfl rfl (decide_eq_false fun q => zz4 (Value.ref.inj q)) (pc' := 24) (by decide) (by decide) ?_
 refine w_aloadN X21 hx (d29_24 hby) rfl rfl (pc' := 25) rfl ?_
 refine w_getF X21 hx "" hZ hown (Or.inl (wd_182 hw)) Via.refl e21 zz2 (d29_25 hby) (pc' := 28) rfl ?_
 intro T22 X22 e22
 exact w_done X22 hlk (v := some (.ref jj0)) e22 (fun h => by rw [hret] at h; cases h) (fun fs hr => retOut X22 hx hret rfl (Or.inr (Or.inr (Or.inr (Or.inr ⟨rfl, rfl, rfl⟩)))) (d29_28 hby) hr) (by decide) (by decide) (⟨rfl, N0, rfl⟩)
theorem ef_m27_49 (m : MethodId) (a0 : Addr)  : entryFrame m #[(.ref a0)] 1 = mkF m 0 #[.val (.ref a0)] [] := by first | (simp [entryFrame, mkF, argsToLocals, Value.category]; done) | rfl
def Q_m27_49 (Z : State) (a0 : Addr) (jj0 : Addr) (jj1 : Addr) (jj2 : Addr) (h0 : Heap) (n0 : Nat) (v : Option Value) (h : Heap) (L : List Loc) : Prop := v = some (.ref jj1) ∧ Fr n0 L ∧ h = h0
theorem rm_m27_49 (l : Launch) (Z : State) (aZ : Array Value) (hw : ∀ d ∈ tables_1, d.before aZ Z = true) (ws : List Jvm.Cond) (a0 : Addr) (jj0 : Addr) (jj1 : Addr) (jj2 : Addr) (h0 : Heap) (n0 : Nat) (Z0 : n0 ≤ h0.size) (zz3 : Fld Z h0 a0 kc6 "parts" "Ljava/util/List;" (.ref jj0)) (zz4 : Exa Z h0 jj0 kc3) (zz5 : Fld Z h0 jj0 kc3 "e1" "Ljava/lang/Object;" (.ref jj1)) (zz6 : Sta Z Z.heap kc7 "EMPTY" "Ljava/lang/Object;" (.ref jj2)) (O0 : Old Z n0 h0) (zz7 : jj1 ≠ jj2) (zz8 : Exa Z h0 jj1 kc2) :
    MetN l Z yn_27 prog_12_method_6_code 1 (some (.object kc2)) ws ({ frames := 1, cells := 0, slots := 0, locals := 13 } : Room) #[(.ref a0)] h0 (Q_m27_49 Z a0 jj0 jj1 jj2 h0 n0) := by
 refine MetN.of (plainFor_of_name pn_14) ?_
 intro p e s m below meth c s₁ hret hx hby hml hown hnm hlk hZ X0 e0
 have N0 := Fr.nil n0
 rw [ef_m27_49 m a0]
 refine w_aloadN X0 hx (d27_0 hby) rfl rfl (pc' := 1) rfl ?_
 refine w_getF X0 hx "" hZ hown (Or.inl (wd_184 hw)) Via.refl e0 zz3 (d27_1 hby) (pc' := 4) rfl ?_
 intro T20 X20 e20
 refine w_aloadN X20 hx (d27_4 hby) rfl rfl (pc' := 5) rfl ?_
 refine w_getF X20 hx "" hZ hown (Or.inl (wd_184 hw)) Via.refl e20 zz3 (d27_5 hby) (pc' := 8) rfl ?_
 intro T21 X21 e21
 obtain ⟨cq22, kq22, q22a, q22b, q22c⟩ := isOf hZ e21 zz4
 refine w_interface X21 hx (xi := (⟨"java/util/List", "size", "()I"⟩ : MethodName)) (y := yn_28) hown (mvT hZ (wd_191 hw)) (mvT hZ (wd_192 hw)) (mvT hZ (wd_193 hw)) (mvT hZ (wd_194 hw)) (mvT hZ (wd_195 hw)) (mvT hZ (wd_196 hw)) (mvT hZ (wd_197 hw)) (mvT hZ (wd_198 hw)) (by decide) (backOf (W := 1) (rm_m28_50 l Z aZ hw [] jj0 jj1 jj2 h0 n0 Z0 zz5 zz6 O0 zz7) hZ (wd_199 hw) (wd_156 hw) (by decide) (by decide)) q22a q22b q22c (by rw [hml]; rfl) [] (lenOf pd_21 rfl) rfl (Nat.le_of_eq rfl) (d27_8 hby) (fun _ _ => ⟨rfl, e21, (by decide : 0 + 0 ≤ _), (by decide : 0 + 0 ≤ _)⟩) (pc' := 13) rfl ?_
 rintro _ _ ⟨T22, L22, k22, n22⟩ X22 ⟨Lc22, hQ22, l22, y22, z22⟩
 dsimp only [Pt.U, Pt.locs, Pt.cells, Pt.slots] at X22 l22 y22 z22 hQ22 ⊢
 subst l22 y22 z22
 obtain ⟨rfl, N22q, e22⟩ := hQ22
 have N23 := Fr.app N0 N22q
 show Runs _ _ _ _ (T22.setTop (mkF m 13 #[.val (.ref a0)] [(.int (2 : Int32)), (.ref jj0)]))
 refine w_iconst X22 hx (d27_13 hby) (v := (1 : Int32)) rfl (pc' := 14) rfl ?_
 refine w_isub X22 hx (d27_14 hby) (pc' := 15) rfl ?_
 rw [show ((2 : Int32) - (1 : Int32)) = (1 : Int32) from by decide]
 obtain ⟨cq24, kq24, q24a, q24b, q24c⟩ := isOf hZ e22 zz4
 refine w_interface X22 hx (xi := (⟨"java/util/List", "get", "(I)Ljava/lang/Object;"⟩ : MethodName)) (y := yn_29) hown (mvT hZ (wd_200 hw)) (mvT hZ (wd_201 hw)) (mvT hZ (wd_202 hw)) (mvT hZ (wd_203 hw)) (mvT hZ (wd_204 hw)) (mvT hZ (wd_205 hw)) (mvT hZ (wd_206 hw)) (mvT hZ (wd_198 hw)) (by decide) (backOf (W := 0) (rm_m29_51 l Z aZ hw [] jj0 jj1 jj2 h0 n0 Z0 zz5 zz6 O0 zz7) hZ (wd_207 hw) (wd_156 hw) (by decide) (by decide)) q24a q24b q24c (by rw [hml]; rfl) [(.int (1 : Int32))] (lenOf pd_22 rfl) rfl (Nat.le_of_eq rfl) (d27_15 hby) (fun _ _ => ⟨rfl, e22, (by decide : 0 + 0 ≤ _), (by decide : 0 + 0 ≤ _)⟩) (pc' := 20) rfl ?_
 rintro _ _ ⟨T24, L24, k24, n24⟩ X24 ⟨Lc24, hQ24, l24, y24, z24⟩
 dsimp only [Pt.U, Pt.locs, Pt.cells, Pt.slots] at X24 l24 y24 z24 hQ24 ⊢
 subst l24 y24 z24
 obtain ⟨rfl, N24q, e24⟩ := hQ24
 have N25 := Fr.app N23 N24q
 show Runs _ _ _ _ (T24.setTop (mkF m 20 #[.val (.ref a0)] [(.ref jj1)]))
 refine w_castY X24 hx hZ hown (wd_208 hw) e24 (Ins.self zz8) (d27_20 hby) (pc' := 23) rfl ?_
 intro T26 X26 e26
 exact w_done X26 hlk (v := some (.ref jj1)) e26 (fun h => by rw [hret] at h; cases h) (fun fs hr => retOut X26 hx hret rfl (Or.inr (Or.inr (Or.inr (Or.inr ⟨rfl, rfl, rfl⟩)))) (d27_23 hby) hr) (by decide) (by decide) (⟨rfl, N25, rfl⟩)
theorem ef_m9_53 (m : MethodId) (a0 : Addr) (a1 : Addr) (a2 : Addr)  : entryFrame m #[(.ref a0), (.ref a1), (.ref a2), (.int (2 : Int32))] 4 = mkF m 0 #[.val (.ref a0), .val (.ref a1), .val (.ref a2), .val (.int (2 : Int32))] [] := by first | (simp [entryFrame, mkF, argsToLocals, Value.category]; done) | rfl
def Q_m9_53 (Z : State) (a0 : Addr) (a1 : Addr) (a2 : Addr) (k_a2 : ClassId) (jj0 : Addr) (jj1 : Addr) (h0 : Heap) (n0 : Nat) (v : Option Value) (h : Heap) (L : List Loc) : Prop := v = none ∧ Fr n0 L ∧ Keep h0 h [a2, a0] ∧ Arv Z h a2 k_a2 (.object kc0) (10 : Int32) [(.ref jj0), (.ref jj1), (.ref a1), .null, .null, .null, .null, .null, .null, .null] .null ∧ Exa Z h a0 kc1 ∧ Fld Z h a0 kc1 "size" "I" (.int (3 : Int32)) ∧ Fld Z h a0 kc5 "modCount" "I" (.int (3 : Int32)) ∧ Fld Z h a0 kc1 "elementData" "[Ljava/lang/Object;" (.ref a2)
theorem rm_m9_53 (l : Launch) (Z : State) (aZ : Array Value) (hw : ∀ d ∈ tables_1, d.before aZ Z = true) (ws : List Jvm.Cond) (a0 : Addr) (a1 : Addr) (a2 : Addr) (k_a2 : ClassId) (jj0 : Addr) (jj1 : Addr) (h0 : Heap) (n0 : Nat) (Z0 : n0 ≤ h0.size) (V_a2 : Arv Z h0 a2 k_a2 (.object kc0) (10 : Int32) [(.ref jj0), (.ref jj1), .null, .null, .null, .null, .null, .null, .null, .null] .null) (zz2 : Ovr Z k_a2 kc0) (E_a1 : Exa Z h0 a1 kc2) (zz3 : n0 ≤ a2) (E_a0 : Exa Z h0 a0 kc1) (zz4 : Fld Z h0 a0 kc1 "size" "I" (.int (2 : Int32))) (zz5 : n0 ≤ a0) (zz6 : Fld Z h0 a0 kc5 "modCount" "I" (.int (3 : Int32))) (zz7 : Fld Z h0 a0 kc1 "elementData" "[Ljava/lang/Object;" (.ref a2)) :
    MetN l Z yn_9 jdk_38_method_24_code 4 none ws ({ frames := 0, cells := 0, slots := 0, locals := 0 } : Room) #[(.ref a0), (.ref a1), (.ref a2), (.int (2 : Int32))] h0 (Q_m9_53 Z a0 a1 a2 k_a2 jj0 jj1 h0 n0) := by
 refine MetN.of (plainFor_of_name pn_5) ?_
 intro p e s m below meth c s₁ hret hx hby hml hown hnm hlk hZ X0 e0
 have N0 := Fr.nil n0
 rw [ef_m9_53 m a0 a1 a2]
 refine w_iloadN X0 hx (d9_0 hby) rfl (pc' := 1) rfl ?_
 refine w_aloadN X0 hx (d9_1 hby) rfl rfl (pc' := 2) rfl ?_
 refine w_alen X0 hx hZ e0 V_a2 (d9_2 hby) (pc' := 3) rfl ?_
 refine w_icY X0 hx (d9_3 hby) (feq (by decide : ¬ ((2 : Int32) = (10 : Int32)))).2 (pc' := 11) (by decide) (by decide) ?_
 refine w_aloadN X0 hx (d9_11 hby) rfl rfl (pc' := 12) rfl ?_
 refine w_iloadN X0 hx (d9_12 hby) rfl (pc' := 13) rfl ?_
 refine w_aloadN X0 hx (d9_13 hby) rfl rfl (pc' := 14) rfl ?_
 obtain ⟨clu20, Aru20, qu20, Su20, Nu20, Hu20, Gu20⟩ := id V_a2
 have hinu20 := inb_of (j := (2 : Int32)) Su20 ⟨by decide, by decide⟩
 refine w_stR X0 hx hZ e0 Aru20 hinu20 rfl (Sto.ofV Aru20 qu20 zz2 (Ins.of_exa E_a1 (wd_85 hw))) (d9_14 hby) (pc' := 15) rfl ?_
 intro T21 h21 X21 e21 W21
 have V22 : Arv Z h21 a2 k_a2 (.object kc0) (10 : Int32) [(.ref jj0), (.ref jj1), (.ref a1), .null, .null, .null, .null, .null, .null, .null] .null := Arv.set Aru20 qu20 Su20 Nu20 Hu20 Gu20 rfl W21 2 rfl (Nat.le_of_ble_eq_true rfl)
 have K23 : Keep h0 h21 [a2, a0] := (Keep.refl h0 [a2, a0]).wr W21 (Or.inl (by simp))
 have N24 := Fr.snoc X21 N0 zz3
 refine w_aloadN X21 hx (d9_15 hby) rfl rfl (pc' := 16) rfl ?_
 refine w_iloadN X21 hx (d9_16 hby) rfl (pc' := 17) rfl ?_
 refine w_iconst X21 hx (d9_17 hby) (v := (1 : Int32)) rfl (pc' := 18) rfl ?_
 refine w_iadd X21 hx (d9_18 hby) (pc' := 19) rfl ?_
 rw [show ((2 : Int32) + (1 : Int32)) = (3 : Int32) from by decide]
 have f25 : Exa Z h21 a0 kc1 := (E_a0.wr W21)
 have ne26 : a0 ≠ a2 := Exa.neArv f25 V22 (wd_28 hw)
 have f27 : Fld Z h21 a0 kc1 "size" "I" (.int (2 : Int32)) := (zz4.other W21 (Or.inl ne26))
 refine w_putF X21 hx "" hZ hown (Or.inl (wd_62 hw)) Via.refl e21 f27 f25 (Or.inl (wd_63 hw)) (wd_28 hw) (ty := .int) (by decide) rfl rfl (d9_19 hby) (pc' := 22) rfl ?_
 intro T28 h28 X28 e28 W28
 have f29 : Fld Z h28 a0 kc1 "size" "I" (.int (3 : Int32)) := f27.same W28
 have K30 : Keep h0 h28 [a2, a0] := K23.wr W28 (Or.inl (by simp))
 have N31 := Fr.snoc X28 N24 zz5
 have f32 : Arv Z h28 a2 k_a2 (.object kc0) (10 : Int32) [(.ref jj0), (.ref jj1), (.ref a1), .null, .null, .null, .null, .null, .null, .null] .null := (V22.other W28 (Ne.symm ne26))
 have f33 : Exa Z h28 a0 kc1 := (f25.wr W28)
 have f34 : Fld Z h28 a0 kc5 "modCount" "I" (.int (3 : Int32)) := ((zz6.other W21 (Or.inl ne26)).other W28 (Or.inr (slot_ne (Or.inl (wd_47 hw)) (Or.inl (wd_63 hw)) (by decide) (t := .int) (t' := .int) (by decide) (by decide))))
 have f35 : Fld Z h28 a0 kc1 "elementData" "[Ljava/lang/Object;" (.ref a2) := ((zz7.other W21 (Or.inl ne26)).other W28 (Or.inr (slot_ne (Or.inl (wd_50 hw)) (Or.inl (wd_63 hw)) (by decide) (t := (.array (.object kc0))) (t' := .int) (by decide) (by decide))))
 exact w_done X28 hlk (v := none) e28 (fun _ => rfl) (fun fs hr => X28.returnOut hx hret (d9_22 hby) hr) (by decide) (by decide) (⟨rfl, N31, K30, f32, f33, f29, f34, f35⟩)
theorem ef_m8_52 (m : MethodId) (a0 : Addr) (a1 : Addr)  : entryFrame m #[(.ref a0), (.ref a1)] 2 = mkF m 0 #[.val (.ref a0), .val (.ref a1)] [] := by first | (simp [entryFrame, mkF, argsToLocals, Value.category]; done) | rfl
def Q_m8_52 (Z : State) (a0 : Addr) (a1 : Addr) (jj0 : Addr) (jj1 : ClassId) (jj2 : Addr) (jj3 : Addr) (h0 : Heap) (n0 : Nat) (v : Option Value) (h : Heap) (L : List Loc) : Prop := v = some (.int (1 : Int32)) ∧ Fr n0 L ∧ Keep h0 h [a0, jj0] ∧ Fld Z h a0 kc5 "modCount" "I" (.int (3 : Int32)) ∧ Exa Z h a0 kc1 ∧ Fld Z h a0 kc1 "elementData" "[Ljava/lang/Object;" (.ref jj0) ∧ Fld Z h a0 kc1 "size" "I" (.int (3 : Int32)) ∧ Arv Z h jj0 jj1 (.object kc0) (10 : Int32) [(.ref jj2), (.ref jj3), (.ref a1), .null, .null, .null, .null, .null, .null, .null] .null
theorem rm_m8_52 (l : Launch) (Z : State) (aZ : Array Value) (hw : ∀ d ∈ tables_1, d.before aZ Z = true) (ws : List Jvm.Cond) (a0 : Addr) (a1 : Addr) (jj0 : Addr) (jj1 : ClassId) (jj2 : Addr) (jj3 : Addr) (h0 : Heap) (n0 : Nat) (Z0 : n0 ≤ h0.size) (zz4 : Fld Z h0 a0 kc5 "modCount" "I" (.int (2 : Int32))) (E_a0 : Exa Z h0 a0 kc1) (zz5 : n0 ≤ a0) (zz6 : Fld Z h0 a0 kc1 "elementData" "[Ljava/lang/Object;" (.ref jj0)) (zz7 : Fld Z h0 a0 kc1 "size" "I" (.int (2 : Int32))) (zz8 : Arv Z h0 jj0 jj1 (.object kc0) (10 : Int32) [(.ref jj2), (.ref jj3), .null, .null, .null, .null, .null, .null, .null, .null] .null) (zz9 : Ovr Z jj1 kc0) (E_a1 : Exa Z h0 a1 kc2) (zz10 : n0 ≤ jj0) :
    MetN l Z yn_8 jdk_38_method_25_code 2 (some .boolean) ws ({ frames := 1, cells := 0, slots := 0, locals := 15 } : Room) #[(.ref a0), (.ref a1)] h0 (Q_m8_52 Z a0 a1 jj0 jj1 jj2 jj3 h0 n0) := by
 refine MetN.of (plainFor_of_name pn_5) ?_
 intro p e s m below meth c s₁ hret hx hby hml hown hnm hlk hZ X0 e0
 have N0 := Fr.nil n0
 rw [ef_m8_52 m a0 a1]
 refine w_aloadN X0 hx (d8_0 hby) rfl rfl (pc' := 1) rfl ?_
 refine w_dup X0 hx (d8_1 hby) rfl (pc' := 2) rfl ?_
 refine w_getF X0 hx "" hZ hown (Or.inl (wd_60 hw)) (Via.of (wd_61 hw)) e0 zz4 (d8_2 hby) (pc' := 5) rfl ?_
 intro T20 X20 e20
 refine w_iconst X20 hx (d8_5 hby) (v := (1 : Int32)) rfl (pc' := 6) rfl ?_
 refine w_iadd X20 hx (d8_6 hby) (pc' := 7) rfl ?_
 rw [show ((2 : Int32) + (1 : Int32)) = (3 : Int32) from by decide]
 refine w_putF X20 hx "" hZ hown (Or.inl (wd_60 hw)) (Via.of (wd_61 hw)) e20 zz4 E_a0 (Or.inl (wd_47 hw)) (wd_28 hw) (ty := .int) (by decide) rfl rfl (d8_7 hby) (pc' := 10) rfl ?_
 intro T21 h21 X21 e21 W21
 have f22 : Fld Z h21 a0 kc5 "modCount" "I" (.int (3 : Int32)) := zz4.same W21
 have K23 : Keep h0 h21 [a0, jj0] := (Keep.refl h0 [a0, jj0]).wr W21 (Or.inl (by simp))
 have N24 := Fr.snoc X21 N0 zz5
 refine w_aloadN X21 hx (d8_10 hby) rfl rfl (pc' := 11) rfl ?_
 refine w_aloadN X21 hx (d8_11 hby) rfl rfl (pc' := 12) rfl ?_
 refine w_aloadN X21 hx (d8_12 hby) rfl rfl (pc' := 13) rfl ?_
 have f25 : Fld Z h21 a0 kc1 "elementData" "[Ljava/lang/Object;" (.ref jj0) := (zz6.other W21 (Or.inr (slot_ne (Or.inl (wd_50 hw)) (Or.inl (wd_47 hw)) (by decide) (t := (.array (.object kc0))) (t' := .int) (by decide) (by decide))))
 refine w_getF X21 hx "" hZ hown (Or.inl (wd_49 hw)) Via.refl e21 f25 (d8_13 hby) (pc' := 16) rfl ?_
 intro T26 X26 e26
 refine w_aloadN X26 hx (d8_16 hby) rfl rfl (pc' := 17) rfl ?_
 have f27 : Fld Z h21 a0 kc1 "size" "I" (.int (2 : Int32)) := (zz7.other W21 (Or.inr (slot_ne (Or.inl (wd_63 hw)) (Or.inl (wd_47 hw)) (by decide) (t := .int) (t' := .int) (by decide) (by decide))))
 refine w_getF X26 hx "" hZ hown (Or.inl (wd_62 hw)) Via.refl e26 f27 (d8_17 hby) (pc' := 20) rfl ?_
 intro T28 X28 e28
 have ne29 : a0 ≠ jj0 := Exa.neArv E_a0 zz8 (wd_28 hw)
 have f30 : Arv Z h21 jj0 jj1 (.object kc0) (10 : Int32) [(.ref jj2), (.ref jj3), .null, .null, .null, .null, .null, .null, .null, .null] .null := (zz8.other W21 (Ne.symm ne29))
 have f31 : Exa Z h21 a1 kc2 := (E_a1.wr W21)
 have f32 : Exa Z h21 a0 kc1 := (E_a0.wr W21)
 obtain ⟨ce33, he33, hs33⟩ := Exa.cell f32
 refine w_private X28 hx (y := yn_9) hown (mvT hZ (wd_64 hw)) (mvT hZ (wd_65 hw)) (mvT hZ (wd_67 hw)) (Cond.privateMethod_at (args := #[]) (mvP hZ (wd_66 hw))) (mvT hZ (wd_68 hw)) (by decide) (backOf (W := 0) (rm_m9_53 l Z aZ hw [] a0 a1 jj0 jj1 jj2 jj3 h21 n0 (Nat.le_trans Z0 (Keep.of_wr W21).1) f30 zz9 f31 zz10 f32 f27 zz5 f22 f25) hZ (wd_68 hw) (wd_29 hw) (by decide) (by decide)) ((congrArg (fun z : Heap => z[a0]?) e28).trans he33) hs33 (by rw [hml]; rfl) [(.ref a1), (.ref jj0), (.int (2 : Int32))] (lenOf pd_11 rfl) rfl (Nat.le_of_eq rfl) (d8_20 hby) (fun _ _ => ⟨rfl, e28, (by decide : 0 + 0 ≤ _), (by decide : 0 + 0 ≤ _)⟩) (pc' := 23) rfl ?_
 rintro _ _ ⟨T33, L33, k33, n33⟩ X33 ⟨Lc33, hQ33, l33, y33, z33⟩
 dsimp only [Pt.U, Pt.locs, Pt.cells, Pt.slots] at X33 l33 y33 z33 hQ33 ⊢
 subst l33 y33 z33
 obtain ⟨rfl, N33q, K33, g33_0, g33_1, g33_2, g33_3, g33_4⟩ := hQ33
 have N34 := Fr.app N24 N33q
 have K35 : Keep h0 T33.heap [a0, jj0] := K23.trans K33 (allS (Or.inl (by simp)) (allS (Or.inl (by simp)) (all0 (P := fun x => x ∈ [a0, jj0] ∨ h0.size ≤ x))))
 show Runs _ _ _ _ (T33.setTop (mkF m 23 #[.val (.ref a0), .val (.ref a1)] []))
 refine w_iconst X33 hx (d8_23 hby) (v := (1 : Int32)) rfl (pc' := 24) rfl ?_
 exact w_done X33 hlk (v := some (.int (1 : Int32))) rfl (fun h => by rw [hret] at h; cases h) (fun fs hr => retN X33 hx (t := .boolean) hret (by simp) (d8_24 hby) hr) (by decide) (by decide) (⟨rfl, N34, K35, g33_3, g33_1, g33_4, g33_2, g33_0⟩)
theorem ef_m17_57 (m : MethodId) (a0 : Addr)  : entryFrame m #[(.ref a0)] 1 = mkF m 0 #[.val (.ref a0)] [] := by first | (simp [entryFrame, mkF, argsToLocals, Value.category]; done) | rfl
def Q_m17_57 (Z : State) (a0 : Addr) (h0 : Heap) (n0 : Nat) (v : Option Value) (h : Heap) (L : List Loc) : Prop := v = some (.int (0 : Int32)) ∧ Fr n0 L ∧ h = h0
theorem rm_m17_57 (l : Launch) (Z : State) (aZ : Array Value) (hw : ∀ d ∈ tables_1, d.before aZ Z = true) (ws : List Jvm.Cond) (a0 : Addr) (h0 : Heap) (n0 : Nat) (Z0 : n0 ≤ h0.size) (zz0 : Fld Z h0 a0 kc1 "size" "I" (.int (3 : Int32))) :
    MetN l Z yn_17 jdk_38_method_9_code 1 (some .boolean) ws ({ frames := 0, cells := 0, slots := 0, locals := 0 } : Room) #[(.ref a0)] h0 (Q_m17_57 Z a0 h0 n0) := by
 refine MetN.of (plainFor_of_name pn_5) ?_
 intro p e s m below meth c s₁ hret hx hby hml hown hnm hlk hZ X0 e0
 have N0 := Fr.nil n0
 rw [ef_m17_57 m a0]
 refine w_aloadN X0 hx (d17_0 hby) rfl rfl (pc' := 1) rfl ?_
 refine w_getF X0 hx "" hZ hown (Or.inl (wd_62 hw)) Via.refl e0 zz0 (d17_1 hby) (pc' := 4) rfl ?_
 intro T20 X20 e20
 refine w_ifY X20 hx (d17_4 hby) (feq (by decide : ¬ ((3 : Int32) = (0 : Int32)))).2 (pc' := 11) (by decide) (by decide) ?_
 refine w_iconst X20 hx (d17_11 hby) (v := (0 : Int32)) rfl (pc' := 12) rfl ?_
 exact w_done X20 hlk (v := some (.int (0 : Int32))) e20 (fun h => by rw [hret] at h; cases h) (fun fs hr => retN X20 hx (t := .boolean) hret (by simp) (d17_12 hby) hr) (by decide) (by decide) (⟨rfl, N0, rfl⟩)
theorem ef_m21_61 (m : MethodId)   : entryFrame m #[(.int (10 : Int32)), (.int (3 : Int32))] 2 = mkF m 0 #[.val (.int (10 : Int32)), .val (.int (3 : Int32))] [] := by first | (simp [entryFrame, mkF, argsToLocals, Value.category]; done) | rfl
def Q_m21_61 (Z : State)  (h0 : Heap) (n0 : Nat) (v : Option Value) (h : Heap) (L : List Loc) : Prop := v = some (.int (3 : Int32)) ∧ Fr n0 L ∧ h = h0
theorem rm_m21_61 (l : Launch) (Z : State) (aZ : Array Value) (hw : ∀ d ∈ tables_1, d.before aZ Z = true) (ws : List Jvm.Cond)  (h0 : Heap) (n0 : Nat) (Z0 : n0 ≤ h0.size) :
    MetN l Z yn_21 jdk_29_method_69_code 2 (some .int) ws ({ frames := 0, cells := 0, slots := 0, locals := 0 } : Room) #[(.int (10 : Int32)), (.int (3 : Int32))] h0 (Q_m21_61 Z  h0 n0) := by
 refine MetN.of (Jvm.Free.JP.mathPlain rfl (by decide +kernel)) ?_
 intro p e s m below meth c s₁ hret hx hby hml hown hnm hlk hZ X0 e0
 have N0 := Fr.nil n0
 rw [ef_m21_61 m ]
 refine w_iloadN X0 hx (d21_0 hby) rfl (pc' := 1) rfl ?_
 refine w_iloadN X0 hx (d21_1 hby) rfl (pc' := 2) rfl ?_
 refine w_icY X0 hx (d21_2 hby) (tlt (by decide : (3 : Int32) < (10 : Int32))).2.2.1 (pc' := 9) (by decide) (by decide) ?_
 refine w_iloadN X0 hx (d21_9 hby) rfl (pc' := 10) rfl ?_
 exact w_done X0 hlk (v := some (.int (3 : Int32))) e0 (fun h => by rw [hret] at h; cases h) (fun fs hr => retI X0 hx hret (d21_10 hby) hr) (by decide) (by decide) (⟨rfl, N0, rfl⟩)
theorem ef_m20_60 (m : MethodId) (a0 : Addr) (jj0 : Addr)  : entryFrame m #[(.ref a0), (.int (3 : Int32)), (.ref jj0)] 4 = mkF m 0 #[.val (.ref a0), .val (.int (3 : Int32)), .val (.ref jj0), .unset] [] := by first | (simp [entryFrame, mkF, argsToLocals, Value.category]; done) | rfl
def Q_m20_60 (Z : State) (a0 : Addr) (jj0 : Addr) (k_a0 : ClassId) (jj1 : Addr) (jj2 : Addr) (jj3 : Addr) (h0 : Heap) (n0 : Nat) (v : Option Value) (h : Heap) (L : List Loc) : Prop := ∃ (r0 : Addr) (c0 : ClassId), v = some (.ref r0) ∧ Fr n0 L ∧ Keep h0 h [] ∧ h0.size ≤ r0 ∧ Arv Z h r0 c0 (.object kc0) (3 : Int32) [(.ref jj1), (.ref jj2), (.ref jj3)] .null ∧ Exa Z h r0 "[Ljava/lang/Object;" ∧ Ovr Z c0 kc0
theorem rm_m20_60 (l : Launch) (Z : State) (aZ : Array Value) (hw : ∀ d ∈ tables_1, d.before aZ Z = true) (ws : List Jvm.Cond) (a0 : Addr) (jj0 : Addr) (k_a0 : ClassId) (jj1 : Addr) (jj2 : Addr) (jj3 : Addr) (h0 : Heap) (n0 : Nat) (Z0 : n0 ≤ h0.size) (zz4 : MirO Z "[Ljava/lang/Object;" jj0) (V_a0 : Arv Z h0 a0 k_a0 (.object kc0) (10 : Int32) [(.ref jj1), (.ref jj2), (.ref jj3), .null, .null, .null, .null, .null, .null, .null] .null) (zz5 : Exa Z h0 jj1 kc2) (zz6 : Exa Z h0 jj2 kc2) (zz7 : Exa Z h0 jj3 kc2) :
    MetN l Z yn_20 jdk_65_method_120_code 4 (some (.array (.object kc0))) ws ({ frames := 1, cells := 1, slots := 3, locals := 18 } : Room) #[(.ref a0), (.int (3 : Int32)), (.ref jj0)] h0 (Q_m20_60 Z a0 jj0 k_a0 jj1 jj2 jj3 h0 n0) := by
 refine MetN.of (plainFor_of_name pn_7) ?_
 intro p e s m below meth c s₁ hret hx hby hml hown hnm hlk hZ X0 e0
 have N0 := Fr.nil n0
 rw [ef_m20_60 m a0 jj0]
 refine w_aloadN X0 hx (d20_0 hby) rfl rfl (pc' := 1) rfl ?_
 refine w_ldcK X0 hx hZ hown (wd_142 hw) e0 zz4 (d20_1 hby) (pc' := 3) rfl ?_
 intro T20 X20 e20
 refine w_acmp X20 hx (d20_3 hby) (same := true) rfl rfl (decide_eq_true rfl) (pc' := 6) (by decide) (by decide) ?_
 refine w_iloadN X20 hx (d20_6 hby) rfl (pc' := 7) rfl ?_
 refine w_newR X20 hx 3 "[Ljava/lang/Object;" hZ hown (wd_143 hw) (wd_84 hw) e20 (d20_7 hby) (by decide) (by decide) (by decide) (by decide) (by decide) (by decide +kernel) (pc' := 10) rfl ?_
 intro T21 h21 k21 b21 X21 e21 E21 g21 A21 Q21 O21
 have ge22 : n0 ≤ b21 := Nat.le_trans Z0 (Nat.le_of_eq g21.symm)
 have sz23 : h0.size ≤ b21 := Nat.le_trans (Nat.le_refl _) (Nat.le_of_eq g21.symm)
 have K24 : Keep h0 h21 [] := (Keep.refl h0 []).ext E21
 have V25 : Arv Z h21 b21 k21 (.object kc0) (3 : Int32) [.null, .null, .null] .null := (Arv.new A21 (by decide)).pad (pad_rep [] .null 3)
 refine w_goto X21 hx (d20_10 hby) (pc' := 24) (by decide) (by decide) ?_
 refine w_astoreN X21 hx (d20_24 hby) rfl (L' := #[.val (.ref a0), .val (.int (3 : Int32)), .val (.ref jj0), .val (.ref b21)]) rfl (pc' := 25) rfl ?_
 refine w_aloadN X21 hx (d20_25 hby) rfl rfl (pc' := 26) rfl ?_
 refine w_iconst X21 hx (d20_26 hby) (v := (0 : Int32)) rfl (pc' := 27) rfl ?_
 refine w_aloadN X21 hx (d20_27 hby) rfl rfl (pc' := 28) rfl ?_
 refine w_iconst X21 hx (d20_28 hby) (v := (0 : Int32)) rfl (pc' := 29) rfl ?_
 refine w_aloadN X21 hx (d20_29 hby) rfl rfl (pc' := 30) rfl ?_
 have f26 : Arv Z h21 a0 k_a0 (.object kc0) (10 : Int32) [(.ref jj1), (.ref jj2), (.ref jj3), .null, .null, .null, .null, .null, .null, .null] .null := (V_a0.ext E21)
 refine w_alen X21 hx hZ e21 f26 (d20_30 hby) (pc' := 31) rfl ?_
 refine w_iloadN X21 hx (d20_31 hby) rfl (pc' := 32) rfl ?_
 refine w_static X21 hx (y := yn_21) hown (mvT hZ (wd_144 hw)) (mvT hZ (wd_145 hw)) (mvT hZ (wd_81 hw)) (mvT hZ (wd_146 hw)) (by decide) (backOf (W := 4) (rm_m21_61 l Z aZ hw []  h21 n0 (Nat.le_trans Z0 E21.1) ) hZ (wd_146 hw) (wd_81 hw) (by decide) (by decide)) (by rw [hml]; rfl) [(.int (10 : Int32)), (.int (3 : Int32))] (lenOf pd_8 rfl) rfl (Nat.le_of_eq rfl) (d20_32 hby) (fun _ _ => ⟨rfl, e21, (by decide : 1 + 0 ≤ _), (by decide : 3 + 0 ≤ _)⟩) (pc' := 35) rfl ?_
 rintro _ _ ⟨T27, L27, k27, n27⟩ X27 ⟨Lc27, hQ27, l27, y27, z27⟩
 dsimp only [Pt.U, Pt.locs, Pt.cells, Pt.slots] at X27 l27 y27 z27 hQ27 ⊢
 subst l27 y27 z27
 obtain ⟨rfl, N27q, e27⟩ := hQ27
 have N28 := Fr.app N0 N27q
 show Runs _ _ _ _ (T27.setTop (mkF m 35 #[.val (.ref a0), .val (.int (3 : Int32)), .val (.ref jj0), .val (.ref b21)] [(.int (3 : Int32)), (.int (0 : Int32)), (.ref b21), (.int (0 : Int32)), (.ref a0)]))
 have f30 : Exa Z h21 jj1 kc2 := (zz5.ext E21)
 have f31 : Exa Z h21 jj2 kc2 := (zz6.ext E21)
 have f32 : Exa Z h21 jj3 kc2 := (zz7.ext E21)
 obtain ⟨clu29, Aru29, qu29, Su29, Nu29, Hu29, Gu29⟩ := id V25
 refine w_cpA X27 hx (us := [(.ref jj1), (.ref jj2), (.ref jj3)]) (vr := [(.ref jj1), (.ref jj2), (.ref jj3)]) 0 hZ hown (wd_147 hw) (wd_150 hw) (wd_148 hw) (wd_149 hw) e27 f26 V25 (Or.inr ⟨rfl, rfl, ⟨(Sto.ofV Aru29 qu29 O21 (Ins.of_exa f30 (wd_85 hw))), (Sto.ofV Aru29 qu29 O21 (Ins.of_exa f31 (wd_85 hw))), (Sto.ofV Aru29 qu29 O21 (Ins.of_exa f32 (wd_85 hw))), trivial⟩⟩) (by decide) (by decide) (by decide) (by decide) (by decide) rfl (by decide) rfl N28 ge22 (by rw [hml]; rfl) (d20_35 hby) (by decide) (Nat.le_of_eq rfl) (by decide) (pc' := 38) rfl ?_
 intro T33 h33 L33 X33 e33 N33 K33 A33
 have K34 : Keep h0 h33 [] := K24.trans K33 (allS (Or.inr sz23) (all0 (P := fun x => x ∈ [] ∨ h0.size ≤ x)))
 refine w_aloadN X33 hx (d20_38 hby) rfl rfl (pc' := 39) rfl ?_
 have f35 : Exa Z h33 b21 "[Ljava/lang/Object;" := (Q21.keep K33)
 exact w_done X33 hlk (v := some (.ref b21)) e33 (fun h => by rw [hret] at h; cases h) (fun fs hr => retOut X33 hx hret rfl (Or.inr (Or.inr (Or.inr (Or.inr ⟨rfl, rfl, rfl⟩)))) (d20_39 hby) hr) (by decide) (by decide) (⟨b21, k21, rfl, N33, K34, sz23, A33, f35, O21⟩)
theorem ef_m19_59 (m : MethodId) (a0 : Addr)  : entryFrame m #[(.ref a0), (.int (3 : Int32))] 2 = mkF m 0 #[.val (.ref a0), .val (.int (3 : Int32))] [] := by first | (simp [entryFrame, mkF, argsToLocals, Value.category]; done) | rfl
def Q_m19_59 (Z : State) (a0 : Addr) (jj0 : Addr) (k_a0 : ClassId) (jj1 : Addr) (jj2 : Addr) (jj3 : Addr) (h0 : Heap) (n0 : Nat) (v : Option Value) (h : Heap) (L : List Loc) : Prop := ∃ (r0 : Addr) (c0 : ClassId), v = some (.ref r0) ∧ Fr n0 L ∧ Keep h0 h [] ∧ h0.size ≤ r0 ∧ Arv Z h r0 c0 (.object kc0) (3 : Int32) [(.ref jj1), (.ref jj2), (.ref jj3)] .null ∧ Exa Z h r0 "[Ljava/lang/Object;" ∧ Ovr Z c0 kc0
theorem rm_m19_59 (l : Launch) (Z : State) (aZ : Array Value) (hw : ∀ d ∈ tables_1, d.before aZ Z = true) (ws : List Jvm.Cond) (a0 : Addr) (jj0 : Addr) (k_a0 : ClassId) (jj1 : Addr) (jj2 : Addr) (jj3 : Addr) (h0 : Heap) (n0 : Nat) (Z0 : n0 ≤ h0.size) (E_a0 : Exa Z h0 a0 "[Ljava/lang/Object;") (zz4 : MirO Z "[Ljava/lang/Object;" jj0) (V_a0 : Arv Z h0 a0 k_a0 (.object kc0) (10 : Int32) [(.ref jj1), (.ref jj2), (.ref jj3), .null, .null, .null, .null, .null, .null, .null] .null) (zz5 : Exa Z h0 jj1 kc2) (zz6 : Exa Z h0 jj2 kc2) (zz7 : Exa Z h0 jj3 kc2) :
    MetN l Z yn_19 jdk_65_method_119_code 2 (some (.array (.object kc0))) ws ({ frames := 2, cells := 1, slots := 3, locals := 33 } : Room) #[(.ref a0), (.int (3 : Int32))] h0 (Q_m19_59 Z a0 jj0 k_a0 jj1 jj2 jj3 h0 n0) := by
 refine MetN.of (plainFor_of_name pn_7) ?_
 intro p e s m below meth c s₁ hret hx hby hml hown hnm hlk hZ X0 e0
 have N0 := Fr.nil n0
 rw [ef_m19_59 m a0]
 refine w_aloadN X0 hx (d19_0 hby) rfl rfl (pc' := 1) rfl ?_
 refine w_iloadN X0 hx (d19_1 hby) rfl (pc' := 2) rfl ?_
 refine w_aloadN X0 hx (d19_2 hby) rfl rfl (pc' := 3) rfl ?_
 refine w_gcls X0 hx 2 hZ hown (wd_133 hw) (wd_134 hw) (wd_110 hw) (wd_136 hw) (wd_135 hw) (wd_137 hw) e0 E_a0 zz4 (by rw [hml]; rfl) (d19_3 hby) (by decide) (Nat.le_of_eq rfl) (by decide) (pc' := 6) rfl ?_
 intro T20 X20 e20
 refine w_static X20 hx (y := yn_20) hown (mvT hZ (wd_139 hw)) (mvT hZ (wd_140 hw)) (mvT hZ (wd_131 hw)) (mvT hZ (wd_141 hw)) (by decide) (backOf (W := 0) (rm_m20_60 l Z aZ hw [] a0 jj0 k_a0 jj1 jj2 jj3 h0 n0 Z0 zz4 V_a0 zz5 zz6 zz7) hZ (wd_141 hw) (wd_131 hw) (by decide) (by decide)) (by rw [hml]; rfl) [(.ref a0), (.int (3 : Int32)), (.ref jj0)] (lenOf pd_14 rfl) rfl (Nat.le_of_eq rfl) (d19_6 hby) (fun _ _ => ⟨rfl, e20, (by decide : 0 + 1 ≤ _), (by decide : 0 + 3 ≤ _)⟩) (pc' := 9) rfl ?_
 rintro _ _ ⟨T21, L21, k21, n21⟩ X21 ⟨Lc21, hQ21, l21, y21, z21⟩
 dsimp only [Pt.U, Pt.locs, Pt.cells, Pt.slots] at X21 l21 y21 z21 hQ21 ⊢
 subst l21 y21 z21
 obtain ⟨r0_21, c0_21, rfl, N21q, K21, g21_0, g21_1, g21_2, g21_3⟩ := hQ21
 have N22 := Fr.app N0 N21q
 have K23 : Keep h0 T21.heap [] := (Keep.refl h0 []).trans K21 (all0 (P := fun x => x ∈ [] ∨ h0.size ≤ x))
 have ge24 : n0 ≤ r0_21 := Nat.le_trans Z0 g21_0
 have sz25 : h0.size ≤ r0_21 := Nat.le_trans (Nat.le_refl _) g21_0
 show Runs _ _ _ _ (T21.setTop (mkF m 9 #[.val (.ref a0), .val (.int (3 : Int32))] [(.ref r0_21)]))
 exact w_done X21 hlk (v := some (.ref r0_21)) rfl (fun h => by rw [hret] at h; cases h) (fun fs hr => retOut X21 hx hret rfl (Or.inr (Or.inr (Or.inr (Or.inr ⟨rfl, rfl, rfl⟩)))) (d19_9 hby) hr) (by decide) (by decide) (⟨r0_21, c0_21, rfl, N22, K23, sz25, g21_1, g21_2, g21_3⟩)
theorem ef_m18_58 (m : MethodId) (a0 : Addr)  : entryFrame m #[(.ref a0)] 1 = mkF m 0 #[.val (.ref a0)] [] := by first | (simp [entryFrame, mkF, argsToLocals, Value.category]; done) | rfl
def Q_m18_58 (Z : State) (a0 : Addr) (jj0 : Addr) (jj1 : ClassId) (jj2 : Addr) (jj3 : Addr) (jj4 : Addr) (jj5 : Addr) (h0 : Heap) (n0 : Nat) (v : Option Value) (h : Heap) (L : List Loc) : Prop := ∃ (r0 : Addr) (c0 : ClassId), v = some (.ref r0) ∧ Fr n0 L ∧ Keep h0 h [] ∧ h0.size ≤ r0 ∧ Arv Z h r0 c0 (.object kc0) (3 : Int32) [(.ref jj2), (.ref jj3), (.ref jj4)] .null ∧ Exa Z h r0 "[Ljava/lang/Object;" ∧ Ovr Z c0 kc0
theorem rm_m18_58 (l : Launch) (Z : State) (aZ : Array Value) (hw : ∀ d ∈ tables_1, d.before aZ Z = true) (ws : List Jvm.Cond) (a0 : Addr) (jj0 : Addr) (jj1 : ClassId) (jj2 : Addr) (jj3 : Addr) (jj4 : Addr) (jj5 : Addr) (h0 : Heap) (n0 : Nat) (Z0 : n0 ≤ h0.size) (zz6 : Fld Z h0 a0 kc1 "elementData" "[Ljava/lang/Object;" (.ref jj0)) (zz7 : Fld Z h0 a0 kc1 "size" "I" (.int (3 : Int32))) (zz8 : Exa Z h0 jj0 "[Ljava/lang/Object;") (zz9 : Arv Z h0 jj0 jj1 (.object kc0) (10 : Int32) [(.ref jj2), (.ref jj3), (.ref jj4), .null, .null, .null, .null, .null, .null, .null] .null) (zz10 : Exa Z h0 jj2 kc2) (zz11 : Exa Z h0 jj3 kc2) (zz12 : Exa Z h0 jj4 kc2) (zz13 : MirO Z "[Ljava/lang/Object;" jj5) :
    MetN l Z yn_18 jdk_38_method_16_code 1 (some (.array (.object kc0))) ws ({ frames := 3, cells := 1, slots := 3, locals := 46 } : Room) #[(.ref a0)] h0 (Q_m18_58 Z a0 jj0 jj1 jj2 jj3 jj4 jj5 h0 n0) := by
 refine MetN.of (plainFor_of_name pn_5) ?_
 intro p e s m below meth c s₁ hret hx hby hml hown hnm hlk hZ X0 e0
 have N0 := Fr.nil n0
 rw [ef_m18_58 m a0]
 refine w_aloadN X0 hx (d18_0 hby) rfl rfl (pc' := 1) rfl ?_
 refine w_getF X0 hx "" hZ hown (Or.inl (wd_49 hw)) Via.refl e0 zz6 (d18_1 hby) (pc' := 4) rfl ?_
 intro T20 X20 e20
 refine w_aloadN X20 hx (d18_4 hby) rfl rfl (pc' := 5) rfl ?_
 refine w_getF X20 hx "" hZ hown (Or.inl (wd_62 hw)) Via.refl e20 zz7 (d18_5 hby) (pc' := 8) rfl ?_
 intro T21 X21 e21
 refine w_static X21 hx (y := yn_19) hown (mvT hZ (wd_129 hw)) (mvT hZ (wd_130 hw)) (mvT hZ (wd_131 hw)) (mvT hZ (wd_132 hw)) (by decide) (backOf (W := 0) (rm_m19_59 l Z aZ hw [] jj0 jj5 jj1 jj2 jj3 jj4 h0 n0 Z0 zz8 zz13 zz9 zz10 zz11 zz12) hZ (wd_132 hw) (wd_131 hw) (by decide) (by decide)) (by rw [hml]; rfl) [(.ref jj0), (.int (3 : Int32))] (lenOf pd_15 rfl) rfl (Nat.le_of_eq rfl) (d18_8 hby) (fun _ _ => ⟨rfl, e21, (by decide : 0 + 1 ≤ _), (by decide : 0 + 3 ≤ _)⟩) (pc' := 11) rfl ?_
 rintro _ _ ⟨T22, L22, k22, n22⟩ X22 ⟨Lc22, hQ22, l22, y22, z22⟩
 dsimp only [Pt.U, Pt.locs, Pt.cells, Pt.slots] at X22 l22 y22 z22 hQ22 ⊢
 subst l22 y22 z22
 obtain ⟨r0_22, c0_22, rfl, N22q, K22, g22_0, g22_1, g22_2, g22_3⟩ := hQ22
 have N23 := Fr.app N0 N22q
 have K24 : Keep h0 T22.heap [] := (Keep.refl h0 []).trans K22 (all0 (P := fun x => x ∈ [] ∨ h0.size ≤ x))
 have ge25 : n0 ≤ r0_22 := Nat.le_trans Z0 g22_0
 have sz26 : h0.size ≤ r0_22 := Nat.le_trans (Nat.le_refl _) g22_0
 show Runs _ _ _ _ (T22.setTop (mkF m 11 #[.val (.ref a0)] [(.ref r0_22)]))
 exact w_done X22 hlk (v := some (.ref r0_22)) rfl (fun h => by rw [hret] at h; cases h) (fun fs hr => retOut X22 hx hret rfl (Or.inr (Or.inr (Or.inr (Or.inr ⟨rfl, rfl, rfl⟩)))) (d18_11 hby) hr) (by decide) (by decide) (⟨r0_22, c0_22, rfl, N23, K24, sz26, g22_1, g22_2, g22_3⟩)
theorem ef_m40_64 (m : MethodId) (a0 : Addr) (a1 : Addr)  : entryFrame m #[(.ref a0), (.ref a1), (.int (0 : Int32))] 3 = mkF m 0 #[.val (.ref a0), .val (.ref a1), .val (.int (0 : Int32))] [] := by first | (simp [entryFrame, mkF, argsToLocals, Value.category]; done) | rfl
def Q_m40_64 (Z : State) (a0 : Addr) (a1 : Addr) (h0 : Heap) (n0 : Nat) (v : Option Value) (h : Heap) (L : List Loc) : Prop := v = none ∧ Fr n0 L ∧ Keep h0 h [a0] ∧ Exa Z h a0 kc4 ∧ Fld Z h a0 kc4 "elements" "[Ljava/lang/Object;" (.ref a1) ∧ Fld Z h a0 kc4 "allowNulls" "Z" (.int (0 : Int32))
theorem rm_m40_64 (l : Launch) (Z : State) (aZ : Array Value) (hw : ∀ d ∈ tables_1, d.before aZ Z = true) (ws : List Jvm.Cond) (a0 : Addr) (a1 : Addr) (h0 : Heap) (n0 : Nat) (Z0 : n0 ≤ h0.size) (E_a0 : Exa Z h0 a0 kc4) (zz0 : Fld Z h0 a0 kc4 "elements" "[Ljava/lang/Object;" .null) (zz1 : n0 ≤ a0) (zz2 : Fld Z h0 a0 kc4 "allowNulls" "Z" (.int (0 : Int32))) :
    MetN l Z yn_40 jdk_45_method_1_code 3 none ws ({ frames := 4, cells := 0, slots := 0, locals := 48 } : Room) #[(.ref a0), (.ref a1), (.int (0 : Int32))] h0 (Q_m40_64 Z a0 a1 h0 n0) := by
 refine MetN.of (plainFor_of_name pn_15) ?_
 intro p e s m below meth c s₁ hret hx hby hml hown hnm hlk hZ X0 e0
 have N0 := Fr.nil n0
 rw [ef_m40_64 m a0 a1]
 refine w_aloadN X0 hx (d40_0 hby) rfl rfl (pc' := 1) rfl ?_
 refine w_special X0 hx (y := yn_24) rfl hown (mvT hZ (wd_253 hw)) (mvT hZ (wd_162 hw)) (mvT hZ (wd_166 hw)) (by decide) (backOf (W := 0) (rm_m24_30 l Z aZ hw [] a0 h0 n0 Z0 ) hZ (wd_166 hw) (wd_165 hw) (by decide) (by decide)) (by rw [hml]; rfl) [] (lenOf pd_7 rfl) rfl (Nat.le_of_eq rfl) (d40_1 hby) (fun _ _ => ⟨rfl, e0, (by decide : 0 + 0 ≤ _), (by decide : 0 + 0 ≤ _)⟩) (pc' := 4) rfl ?_
 rintro _ _ ⟨T20, L20, k20, n20⟩ X20 ⟨Lc20, hQ20, l20, y20, z20⟩
 dsimp only [Pt.U, Pt.locs, Pt.cells, Pt.slots] at X20 l20 y20 z20 hQ20 ⊢
 subst l20 y20 z20
 obtain ⟨rfl, N20q, e20⟩ := hQ20
 have N21 := Fr.app N0 N20q
 show Runs _ _ _ _ (T20.setTop (mkF m 4 #[.val (.ref a0), .val (.ref a1), .val (.int (0 : Int32))] []))
 refine w_aloadN X20 hx (d40_4 hby) rfl rfl (pc' := 5) rfl ?_
 refine w_aloadN X20 hx (d40_5 hby) rfl rfl (pc' := 6) rfl ?_
 refine w_putF X20 hx "" hZ hown (Or.inl (wd_257 hw)) Via.refl e20 zz0 E_a0 (Or.inr ⟨(wd_258 hw), rfl, hnm⟩) (wd_247 hw) (ty := (.array (.object kc0))) (by decide) rfl rfl (d40_6 hby) (pc' := 9) rfl ?_
 intro T22 h22 X22 e22 W22
 have f23 : Fld Z h22 a0 kc4 "elements" "[Ljava/lang/Object;" (.ref a1) := zz0.same W22
 have K24 : Keep h0 h22 [a0] := (Keep.refl h0 [a0]).wr W22 (Or.inl (by simp))
 have N25 := Fr.snoc X22 N21 zz1
 refine w_aloadN X22 hx (d40_9 hby) rfl rfl (pc' := 10) rfl ?_
 refine w_iloadN X22 hx (d40_10 hby) rfl (pc' := 11) rfl ?_
 have f26 : Exa Z h22 a0 kc4 := (E_a0.wr W22)
 have f27 : Fld Z h22 a0 kc4 "allowNulls" "Z" (.int (0 : Int32)) := (zz2.other W22 (Or.inr (slot_ne (Or.inr (wd_260 hw)) (Or.inr (wd_258 hw)) (by decide) (t := .boolean) (t' := (.array (.object kc0))) (by decide) (by decide))))
 refine w_putF X22 hx "" hZ hown (Or.inl (wd_259 hw)) Via.refl e22 f27 f26 (Or.inr ⟨(wd_260 hw), rfl, hnm⟩) (wd_247 hw) (ty := .boolean) (by decide) rfl rfl (d40_11 hby) (pc' := 14) rfl ?_
 intro T28 h28 X28 e28 W28
 have f29 : Fld Z h28 a0 kc4 "allowNulls" "Z" (.int (0 : Int32)) := f27.same W28
 have K30 : Keep h0 h28 [a0] := K24.wr W28 (Or.inl (by simp))
 have N31 := Fr.snoc X28 N25 zz1
 have f32 : Exa Z h28 a0 kc4 := (f26.wr W28)
 have f33 : Fld Z h28 a0 kc4 "elements" "[Ljava/lang/Object;" (.ref a1) := (f23.other W28 (Or.inr (slot_ne (Or.inr (wd_258 hw)) (Or.inr (wd_260 hw)) (by decide) (t := (.array (.object kc0))) (t' := .boolean) (by decide) (by decide))))
 exact w_done X28 hlk (v := none) e28 (fun _ => rfl) (fun fs hr => X28.returnOut hx hret (d40_14 hby) hr) (by decide) (by decide) (⟨rfl, N31, K30, f32, f33, f29⟩)
theorem ef_m39_63 (m : MethodId) (a0 : Addr)  : entryFrame m #[(.ref a0)] 3 = mkF m 0 #[.val (.ref a0), .unset, .unset] [] := by first | (simp [entryFrame, mkF, argsToLocals, Value.category]; done) | rfl
def Q_m39_63 (Z : State) (a0 : Addr) (k_a0 : ClassId) (jj0 : Addr) (jj1 : Addr) (jj2 : Addr) (h0 : Heap) (n0 : Nat) (v : Option Value) (h : Heap) (L : List Loc) : Prop := ∃ (r0 : Addr) (r1 : Addr) (c0 : ClassId), v = some (.ref r0) ∧ Fr n0 L ∧ Keep h0 h [] ∧ h0.size ≤ r0 ∧ h0.size ≤ r1 ∧ Exa Z h r0 kc4 ∧ Fld Z h r0 kc4 "elements" "[Ljava/lang/Object;" (.ref r1) ∧ Fld Z h r0 kc4 "allowNulls" "Z" (.int (0 : Int32)) ∧ Arv Z h r1 c0 (.object kc0) (3 : Int32) [(.ref jj0), (.ref jj1), (.ref jj2)] .null ∧ Exa Z h r1 "[Ljava/lang/Object;" ∧ Ovr Z c0 kc0
theorem rm_m39_63 (l : Launch) (Z : State) (aZ : Array Value) (hw : ∀ d ∈ tables_1, d.before aZ Z = true) (ws : List Jvm.Cond) (a0 : Addr) (k_a0 : ClassId) (jj0 : Addr) (jj1 : Addr) (jj2 : Addr) (h0 : Heap) (n0 : Nat) (Z0 : n0 ≤ h0.size) (V_a0 : Arv Z h0 a0 k_a0 (.object kc0) (3 : Int32) [(.ref jj0), (.ref jj1), (.ref jj2)] .null) (zz3 : Exa Z h0 jj0 kc2) (zz4 : Exa Z h0 jj1 kc2) (zz5 : Exa Z h0 jj2 kc2) :
    MetN l Z yn_39 jdk_56_method_4_code 3 (some (.object "java/util/List")) ws ({ frames := 5, cells := 2, slots := 5, locals := 63 } : Room) #[(.ref a0)] h0 (Q_m39_63 Z a0 k_a0 jj0 jj1 jj2 h0 n0) := by
 refine MetN.of (plainFor_of_name pn_13) ?_
 intro p e s m below meth c s₁ hret hx hby hml hown hnm hlk hZ X0 e0
 have N0 := Fr.nil n0
 rw [ef_m39_63 m a0]
 refine w_aloadN X0 hx (d39_0 hby) rfl rfl (pc' := 1) rfl ?_
 refine w_alen X0 hx hZ e0 V_a0 (d39_1 hby) (pc' := 2) rfl ?_
 refine w_newR X0 hx 3 "[Ljava/lang/Object;" hZ hown (wd_245 hw) (wd_84 hw) e0 (d39_2 hby) (by decide) (by decide) (by decide) (by decide) (by decide) (by decide +kernel) (pc' := 5) rfl ?_
 intro T20 h20 k20 b20 X20 e20 E20 g20 A20 Q20 O20
 have ge21 : n0 ≤ b20 := Nat.le_trans Z0 (Nat.le_of_eq g20.symm)
 have sz22 : h0.size ≤ b20 := Nat.le_trans (Nat.le_refl _) (Nat.le_of_eq g20.symm)
 have K23 : Keep h0 h20 [] := (Keep.refl h0 []).ext E20
 have V24 : Arv Z h20 b20 k20 (.object kc0) (3 : Int32) [.null, .null, .null] .null := (Arv.new A20 (by decide)).pad (pad_rep [] .null 3)
 refine w_astoreN X20 hx (d39_5 hby) rfl (L' := #[.val (.ref a0), .val (.ref b20), .unset]) rfl (pc' := 6) rfl ?_
 refine w_iconst X20 hx (d39_6 hby) (v := (0 : Int32)) rfl (pc' := 7) rfl ?_
 refine w_istoreN X20 hx (d39_7 hby) (L' := #[.val (.ref a0), .val (.ref b20), .val (.int (0 : Int32))]) rfl (pc' := 8) rfl ?_
 refine w_iloadN X20 hx (d39_8 hby) rfl (pc' := 9) rfl ?_
 refine w_aloadN X20 hx (d39_9 hby) rfl rfl (pc' := 10) rfl ?_
 have f25 : Arv Z h20 a0 k_a0 (.object kc0) (3 : Int32) [(.ref jj0), (.ref jj1), (.ref jj2)] .null := (V_a0.ext E20)
 refine w_alen X20 hx hZ e20 f25 (d39_10 hby) (pc' := 11) rfl ?_
 refine w_icN X20 hx (d39_11 hby) (tlt (by decide : (0 : Int32) < (3 : Int32))).2.1 (pc' := 14) rfl ?_
 refine w_aloadN X20 hx (d39_14 hby) rfl rfl (pc' := 15) rfl ?_
 refine w_iloadN X20 hx (d39_15 hby) rfl (pc' := 16) rfl ?_
 refine w_aloadN X20 hx (d39_16 hby) rfl rfl (pc' := 17) rfl ?_
 refine w_iloadN X20 hx (d39_17 hby) rfl (pc' := 18) rfl ?_
 obtain ⟨clu26, Aru26, qu26, Su26, Nu26, Hu26, Gu26⟩ := id f25
 have hinu26 := inb_of (j := (0 : Int32)) Su26 ⟨by decide, by decide⟩
 refine w_aaload X20 hx hZ e20 Aru26 rfl hinu26 (Hu26.at hinu26 rfl) (d39_18 hby) (pc' := 19) rfl ?_
 refine w_static X20 hx (y := yn_26) hown (mvT hZ (wd_246 hw)) (mvT hZ (wd_176 hw)) (mvT hZ (wd_177 hw)) (mvT hZ (wd_178 hw)) (by decide) (backOf (W := 2) (rm_m26_32 l Z aZ hw [] jj0 h20 n0 (Nat.le_trans Z0 E20.1) ) hZ (wd_178 hw) (wd_177 hw) (by decide) (by decide)) (by rw [hml]; rfl) [(.ref jj0)] (lenOf pd_16 rfl) rfl (Nat.le_of_eq rfl) (d39_19 hby) (fun _ _ => ⟨rfl, e20, (by decide : 1 + 0 ≤ _), (by decide : 3 + 0 ≤ _)⟩) (pc' := 22) rfl ?_
 rintro _ _ ⟨T27, L27, k27, n27⟩ X27 ⟨Lc27, hQ27, l27, y27, z27⟩
 dsimp only [Pt.U, Pt.locs, Pt.cells, Pt.slots] at X27 l27 y27 z27 hQ27 ⊢
 subst l27 y27 z27
 obtain ⟨rfl, N27q, e27⟩ := hQ27
 have N28 := Fr.app N0 N27q
 show Runs _ _ _ _ (T27.setTop (mkF m 22 #[.val (.ref a0), .val (.ref b20), .val (.int (0 : Int32))] [(.ref jj0), (.int (0 : Int32)), (.ref b20)]))
 have f30 : Exa Z h20 jj0 kc2 := (zz3.ext E20)
 obtain ⟨clu29, Aru29, qu29, Su29, Nu29, Hu29, Gu29⟩ := id V24
 have hinu29 := inb_of (j := (0 : Int32)) Su29 ⟨by decide, by decide⟩
 refine w_stR X27 hx hZ e27 Aru29 hinu29 rfl (Sto.ofV Aru29 qu29 O20 (Ins.of_exa f30 (wd_85 hw))) (d39_22 hby) (pc' := 23) rfl ?_
 intro T31 h31 X31 e31 W31
 have V32 : Arv Z h31 b20 k20 (.object kc0) (3 : Int32) [(.ref jj0), .null, .null] .null := Arv.set Aru29 qu29 Su29 Nu29 Hu29 Gu29 rfl W31 0 rfl (Nat.le_of_ble_eq_true rfl)
 have K33 : Keep h0 h31 [] := K23.wr W31 (Or.inr sz22)
 have N34 := Fr.snoc X31 N28 ge21
 refine w_iinc X31 hx (d39_23 hby) (v := (1 : Int32)) rfl rfl (L' := #[.val (.ref a0), .val (.ref b20), .val (.int ((0 : Int32) + (1 : Int32)))]) rfl (pc' := 26) rfl ?_
 rw [show ((0 : Int32) + (1 : Int32)) = (1 : Int32) from by decide]
 refine w_goto X31 hx (d39_26 hby) (pc' := 8) (by decide) (by decide) ?_
 refine w_iloadN X31 hx (d39_8 hby) rfl (pc' := 9) rfl ?_
 refine w_aloadN X31 hx (d39_9 hby) rfl rfl (pc' := 10) rfl ?_
 have ne35 : a0 ≠ b20 := (Nat.ne_of_lt (Nat.lt_of_lt_of_le V_a0.lt (Nat.le_trans (Nat.le_refl _) (Nat.le_of_eq g20.symm))))
 have f36 : Arv Z h31 a0 k_a0 (.object kc0) (3 : Int32) [(.ref jj0), (.ref jj1), (.ref jj2)] .null := (f25.other W31 ne35)
 refine w_alen X31 hx hZ e31 f36 (d39_10 hby) (pc' := 11) rfl ?_
 refine w_icN X31 hx (d39_11 hby) (tlt (by decide : (1 : Int32) < (3 : Int32))).2.1 (pc' := 14) rfl ?_
 refine w_aloadN X31 hx (d39_14 hby) rfl rfl (pc' := 15) rfl ?_
 refine w_iloadN X31 hx (d39_15 hby) rfl (pc' := 16) rfl ?_
 refine w_aloadN X31 hx (d39_16 hby) rfl rfl (pc' := 17) rfl ?_
 refine w_iloadN X31 hx (d39_17 hby) rfl (pc' := 18) rfl ?_
 obtain ⟨clu37, Aru37, qu37, Su37, Nu37, Hu37, Gu37⟩ := id f36
 have hinu37 := inb_of (j := (1 : Int32)) Su37 ⟨by decide, by decide⟩
 refine w_aaload X31 hx hZ e31 Aru37 rfl hinu37 (Hu37.at hinu37 rfl) (d39_18 hby) (pc' := 19) rfl ?_
 have le38 : h0.size ≤ h31.size := (Nat.le_trans E20.1 (Keep.of_wr W31).1)
 refine w_static X31 hx (y := yn_26) hown (mvT hZ (wd_246 hw)) (mvT hZ (wd_176 hw)) (mvT hZ (wd_177 hw)) (mvT hZ (wd_178 hw)) (by decide) (backOf (W := 2) (rm_m26_32 l Z aZ hw [] jj1 h31 n0 (Nat.le_trans Z0 le38) ) hZ (wd_178 hw) (wd_177 hw) (by decide) (by decide)) (by rw [hml]; rfl) [(.ref jj1)] (lenOf pd_16 rfl) rfl (Nat.le_of_eq rfl) (d39_19 hby) (fun _ _ => ⟨rfl, e31, (by decide : 1 + 0 ≤ _), (by decide : 3 + 0 ≤ _)⟩) (pc' := 22) rfl ?_
 rintro _ _ ⟨T39, L39, k39, n39⟩ X39 ⟨Lc39, hQ39, l39, y39, z39⟩
 dsimp only [Pt.U, Pt.locs, Pt.cells, Pt.slots] at X39 l39 y39 z39 hQ39 ⊢
 subst l39 y39 z39
 obtain ⟨rfl, N39q, e39⟩ := hQ39
 have N40 := Fr.app N34 N39q
 show Runs _ _ _ _ (T39.setTop (mkF m 22 #[.val (.ref a0), .val (.ref b20), .val (.int (1 : Int32))] [(.ref jj1), (.int (1 : Int32)), (.ref b20)]))
 have f42 : Exa Z h31 jj1 kc2 := ((zz4.ext E20).wr W31)
 obtain ⟨clu41, Aru41, qu41, Su41, Nu41, Hu41, Gu41⟩ := id V32
 have hinu41 := inb_of (j := (1 : Int32)) Su41 ⟨by decide, by decide⟩
 refine w_stR X39 hx hZ e39 Aru41 hinu41 rfl (Sto.ofV Aru41 qu41 O20 (Ins.of_exa f42 (wd_85 hw))) (d39_22 hby) (pc' := 23) rfl ?_
 intro T43 h43 X43 e43 W43
 have V44 : Arv Z h43 b20 k20 (.object kc0) (3 : Int32) [(.ref jj0), (.ref jj1), .null] .null := Arv.set Aru41 qu41 Su41 Nu41 Hu41 Gu41 rfl W43 1 rfl (Nat.le_of_ble_eq_true rfl)
 have K45 : Keep h0 h43 [] := K33.wr W43 (Or.inr sz22)
 have N46 := Fr.snoc X43 N40 ge21
 refine w_iinc X43 hx (d39_23 hby) (v := (1 : Int32)) rfl rfl (L' := #[.val (.ref a0), .val (.ref b20), .val (.int ((1 : Int32) + (1 : Int32)))]) rfl (pc' := 26) rfl ?_
 rw [show ((1 : Int32) + (1 : Int32)) = (2 : Int32) from by decide]
 refine w_goto X43 hx (d39_26 hby) (pc' := 8) (by decide) (by decide) ?_
 refine w_iloadN X43 hx (d39_8 hby) rfl (pc' := 9) rfl ?_
 refine w_aloadN X43 hx (d39_9 hby) rfl rfl (pc' := 10) rfl ?_
 have f47 : Arv Z h43 a0 k_a0 (.object kc0) (3 : Int32) [(.ref jj0), (.ref jj1), (.ref jj2)] .null := (f36.other W43 ne35)
 refine w_alen X43 hx hZ e43 f47 (d39_10 hby) (pc' := 11) rfl ?_
 refine w_icN X43 hx (d39_11 hby) (tlt (by decide : (2 : Int32) < (3 : Int32))).2.1 (pc' := 14) rfl ?_
 refine w_aloadN X43 hx (d39_14 hby) rfl rfl (pc' := 15) rfl ?_
 refine w_iloadN X43 hx (d39_15 hby) rfl (pc' := 16) rfl ?_
 refine w_aloadN X43 hx (d39_16 hby) rfl rfl (pc' := 17) rfl ?_
 refine w_iloadN X43 hx (d39_17 hby) rfl (pc' := 18) rfl ?_
 obtain ⟨clu48, Aru48, qu48, Su48, Nu48, Hu48, Gu48⟩ := id f47
 have hinu48 := inb_of (j := (2 : Int32)) Su48 ⟨by decide, by decide⟩
 refine w_aaload X43 hx hZ e43 Aru48 rfl hinu48 (Hu48.at hinu48 rfl) (d39_18 hby) (pc' := 19) rfl ?_
 have le49 : h0.size ≤ h43.size := (Nat.le_trans le38 (Keep.of_wr W43).1)
 refine w_static X43 hx (y := yn_26) hown (mvT hZ (wd_246 hw)) (mvT hZ (wd_176 hw)) (mvT hZ (wd_177 hw)) (mvT hZ (wd_178 hw)) (by decide) (backOf (W := 2) (rm_m26_32 l Z aZ hw [] jj2 h43 n0 (Nat.le_trans Z0 le49) ) hZ (wd_178 hw) (wd_177 hw) (by decide) (by decide)) (by rw [hml]; rfl) [(.ref jj2)] (lenOf pd_16 rfl) rfl (Nat.le_of_eq rfl) (d39_19 hby) (fun _ _ => ⟨rfl, e43, (by decide : 1 + 0 ≤ _), (by decide : 3 + 0 ≤ _)⟩) (pc' := 22) rfl ?_
 rintro _ _ ⟨T50, L50, k50, n50⟩ X50 ⟨Lc50, hQ50, l50, y50, z50⟩
 dsimp only [Pt.U, Pt.locs, Pt.cells, Pt.slots] at X50 l50 y50 z50 hQ50 ⊢
 subst l50 y50 z50
 obtain ⟨rfl, N50q, e50⟩ := hQ50
 have N51 := Fr.app N46 N50q
 show Runs _ _ _ _ (T50.setTop (mkF m 22 #[.val (.ref a0), .val (.ref b20), .val (.int (2 : Int32))] [(.ref jj2), (.int (2 : Int32)), (.ref b20)]))
 have f53 : Exa Z h43 jj2 kc2 := (((zz5.ext E20).wr W31).wr W43)
 obtain ⟨clu52, Aru52, qu52, Su52, Nu52, Hu52, Gu52⟩ := id V44
 have hinu52 := inb_of (j := (2 : Int32)) Su52 ⟨by decide, by decide⟩
 refine w_stR X50 hx hZ e50 Aru52 hinu52 rfl (Sto.ofV Aru52 qu52 O20 (Ins.of_exa f53 (wd_85 hw))) (d39_22 hby) (pc' := 23) rfl ?_
 intro T54 h54 X54 e54 W54
 have V55 : Arv Z h54 b20 k20 (.object kc0) (3 : Int32) [(.ref jj0), (.ref jj1), (.ref jj2)] .null := Arv.set Aru52 qu52 Su52 Nu52 Hu52 Gu52 rfl W54 2 rfl (Nat.le_of_ble_eq_true rfl)
 have K56 : Keep h0 h54 [] := K45.wr W54 (Or.inr sz22)
 have N57 := Fr.snoc X54 N51 ge21
 refine w_iinc X54 hx (d39_23 hby) (v := (1 : Int32)) rfl rfl (L' := #[.val (.ref a0), .val (.ref b20), .val (.int ((2 : Int32) + (1 : Int32)))]) rfl (pc' := 26) rfl ?_
 rw [show ((2 : Int32) + (1 : Int32)) = (3 : Int32) from by decide]
 refine w_goto X54 hx (d39_26 hby) (pc' := 8) (by decide) (by decide) ?_
 refine w_iloadN X54 hx (d39_8 hby) rfl (pc' := 9) rfl ?_
 refine w_aloadN X54 hx (d39_9 hby) rfl rfl (pc' := 10) rfl ?_
 have f58 : Arv Z h54 a0 k_a0 (.object kc0) (3 : Int32) [(.ref jj0), (.ref jj1), (.ref jj2)] .null := (f47.other W54 ne35)
 refine w_alen X54 hx hZ e54 f58 (d39_10 hby) (pc' := 11) rfl ?_
 refine w_icY X54 hx (d39_11 hby) (flt (by decide : ¬ ((3 : Int32) < (3 : Int32)))).2.1 (pc' := 29) (by decide) (by decide) ?_
 refine w_new X54 hx hZ hown (wd_111 hw) (wd_247 hw) (wd_248 hw) e54 (d39_29 hby) (by decide) (by decide) (pc' := 32) rfl ?_
 intro T59 h59 b59 X59 e59 E59 g59 A59 D59
 have le61 : h0.size ≤ h54.size := (Nat.le_trans le49 (Keep.of_wr W54).1)
 have ge60 : n0 ≤ b59 := Nat.le_trans (Nat.le_trans Z0 le61) (Nat.le_of_eq g59.symm)
 have sz62 : h0.size ≤ b59 := Nat.le_trans le61 (Nat.le_of_eq g59.symm)
 have K63 : Keep h0 h59 [] := K56.ext E59
 have f64 : Fld Z h59 b59 kc4 "elements" "[Ljava/lang/Object;" .null := D59 (Or.inr (wd_258 hw)) (ty := (.array (.object kc0))) (by decide)
 have f65 : Fld Z h59 b59 kc4 "allowNulls" "Z" (.int (0 : Int32)) := D59 (Or.inr (wd_260 hw)) (ty := .boolean) (by decide)
 refine w_dup X59 hx (d39_32 hby) rfl (pc' := 33) rfl ?_
 refine w_aloadN X59 hx (d39_33 hby) rfl rfl (pc' := 34) rfl ?_
 refine w_iconst X59 hx (d39_34 hby) (v := (0 : Int32)) rfl (pc' := 35) rfl ?_
 have le66 : h0.size ≤ h59.size := (Nat.le_trans le61 E59.1)
 refine w_specialN X59 hx (y := yn_40) rfl hown (Cond.methodLinkNest_wide hZ (wd_249 hw) :) (mvT hZ (wd_250 hw)) (mvT hZ (wd_252 hw)) (by decide) (backOf (W := 1) (rm_m40_64 l Z aZ hw [] b59 b20 h59 n0 (Nat.le_trans Z0 le66) A59 f64 ge60 f65) hZ (wd_252 hw) (wd_248 hw) (by decide) (by decide)) (by rw [hml]; rfl) [(.ref b20), (.int (0 : Int32))] (lenOf pd_25 rfl) rfl (Nat.le_of_eq rfl) (d39_35 hby) (fun _ _ => ⟨rfl, e59, (by decide : 2 + 0 ≤ _), (by decide : 5 + 0 ≤ _)⟩) (pc' := 38) rfl ?_
 rintro _ _ ⟨T67, L67, k67, n67⟩ X67 ⟨Lc67, hQ67, l67, y67, z67⟩
 dsimp only [Pt.U, Pt.locs, Pt.cells, Pt.slots] at X67 l67 y67 z67 hQ67 ⊢
 subst l67 y67 z67
 obtain ⟨rfl, N67q, K67, g67_0, g67_1, g67_2⟩ := hQ67
 have N68 := Fr.app N57 N67q
 have K69 : Keep h0 T67.heap [] := K63.trans K67 (allS (Or.inr sz62) (all0 (P := fun x => x ∈ [] ∨ h0.size ≤ x)))
 show Runs _ _ _ _ (T67.setTop (mkF m 38 #[.val (.ref a0), .val (.ref b20), .val (.int (3 : Int32))] [(.ref b59)]))
 have le70 : h20.size ≤ h43.size := (Nat.le_trans (Keep.of_wr W31).1 (Keep.of_wr W43).1)
 have le71 : h20.size ≤ h54.size := (Nat.le_trans le70 (Keep.of_wr W54).1)
 have ne72 : b20 ≠ b59 := (Nat.ne_of_lt (Nat.lt_of_lt_of_le A20.lt (Nat.le_trans le71 (Nat.le_of_eq g59.symm))))
 have f73 : Arv Z T67.heap b20 k20 (.object kc0) (3 : Int32) [(.ref jj0), (.ref jj1), (.ref jj2)] .null := ((V55.ext E59).keep K67 (ninS ne72 nin0))
 have f74 : Exa Z T67.heap b20 "[Ljava/lang/Object;" := (((((Q20.wr W31).wr W43).wr W54).ext E59).keep K67)
 exact w_done X67 hlk (v := some (.ref b59)) rfl (fun h => by rw [hret] at h; cases h) (fun fs hr => retOut X67 hx hret rfl (Or.inr (Or.inr (Or.inr (Or.inr ⟨rfl, rfl, rfl⟩)))) (d39_38 hby) hr) (by decide) (by decide) (⟨b59, b20, k20, rfl, N68, K69, sz62, sz22, g67_0, g67_1, g67_2, f73, f74, O20⟩)
theorem ef_m22_62 (m : MethodId) (a0 : Addr)  : entryFrame m #[(.ref a0)] 2 = mkF m 0 #[.val (.ref a0), .unset] [] := by first | (simp [entryFrame, mkF, argsToLocals, Value.category]; done) | rfl
def Q_m22_62 (Z : State) (a0 : Addr) (k_a0 : ClassId) (jj0 : Addr) (jj1 : Addr) (jj2 : Addr) (h0 : Heap) (n0 : Nat) (v : Option Value) (h : Heap) (L : List Loc) : Prop := ∃ (r0 : Addr) (r1 : Addr) (c0 : ClassId), v = some (.ref r0) ∧ Fr n0 L ∧ Keep h0 h [] ∧ h0.size ≤ r0 ∧ h0.size ≤ r1 ∧ Exa Z h r0 kc4 ∧ Fld Z h r0 kc4 "elements" "[Ljava/lang/Object;" (.ref r1) ∧ Fld Z h r0 kc4 "allowNulls" "Z" (.int (0 : Int32)) ∧ Arv Z h r1 c0 (.object kc0) (3 : Int32) [(.ref jj0), (.ref jj1), (.ref jj2)] .null ∧ Exa Z h r1 "[Ljava/lang/Object;" ∧ Ovr Z c0 kc0
theorem rm_m22_62 (l : Launch) (Z : State) (aZ : Array Value) (hw : ∀ d ∈ tables_1, d.before aZ Z = true) (ws : List Jvm.Cond) (a0 : Addr) (k_a0 : ClassId) (jj0 : Addr) (jj1 : Addr) (jj2 : Addr) (h0 : Heap) (n0 : Nat) (Z0 : n0 ≤ h0.size) (V_a0 : Arv Z h0 a0 k_a0 (.object kc0) (3 : Int32) [(.ref jj0), (.ref jj1), (.ref jj2)] .null) (zz3 : Exa Z h0 jj0 kc2) (zz4 : Exa Z h0 jj1 kc2) (zz5 : Exa Z h0 jj2 kc2) :
    MetN l Z yn_22 jdk_40_method_47_code 2 (some (.object "java/util/List")) ws ({ frames := 6, cells := 2, slots := 5, locals := 77 } : Room) #[(.ref a0)] h0 (Q_m22_62 Z a0 k_a0 jj0 jj1 jj2 h0 n0) := by
 refine MetN.of (plainFor_of_name pn_12) ?_
 intro p e s m below meth c s₁ hret hx hby hml hown hnm hlk hZ X0 e0
 have N0 := Fr.nil n0
 rw [ef_m22_62 m a0]
 refine w_aloadN X0 hx (d22_0 hby) rfl rfl (pc' := 1) rfl ?_
 refine w_alen X0 hx hZ e0 V_a0 (d22_1 hby) (pc' := 2) rfl ?_
 refine w_tswOut X0 hx (d22_2 hby) (by decide) (pc' := 59) (by decide) (by decide) ?_
 refine w_aloadN X0 hx (d22_59 hby) rfl rfl (pc' := 60) rfl ?_
 refine w_static X0 hx (y := yn_39) hown (mvT hZ (wd_242 hw)) (mvT hZ (wd_243 hw)) (mvT hZ (wd_104 hw)) (mvT hZ (wd_244 hw)) (by decide) (backOf (W := 0) (rm_m39_63 l Z aZ hw [] a0 k_a0 jj0 jj1 jj2 h0 n0 Z0 V_a0 zz3 zz4 zz5) hZ (wd_244 hw) (wd_104 hw) (by decide) (by decide)) (by rw [hml]; rfl) [(.ref a0)] (lenOf pd_18 rfl) rfl (Nat.le_of_eq rfl) (d22_60 hby) (fun _ _ => ⟨rfl, e0, (by decide : 0 + 2 ≤ _), (by decide : 0 + 5 ≤ _)⟩) (pc' := 63) rfl ?_
 rintro _ _ ⟨T20, L20, k20, n20⟩ X20 ⟨Lc20, hQ20, l20, y20, z20⟩
 dsimp only [Pt.U, Pt.locs, Pt.cells, Pt.slots] at X20 l20 y20 z20 hQ20 ⊢
 subst l20 y20 z20
 obtain ⟨r0_20, r1_20, c0_20, rfl, N20q, K20, g20_0, g20_1, g20_2, g20_3, g20_4, g20_5, g20_6, g20_7⟩ := hQ20
 have N21 := Fr.app N0 N20q
 have K22 : Keep h0 T20.heap [] := (Keep.refl h0 []).trans K20 (all0 (P := fun x => x ∈ [] ∨ h0.size ≤ x))
 have ge23 : n0 ≤ r0_20 := Nat.le_trans Z0 g20_0
 have sz24 : h0.size ≤ r0_20 := Nat.le_trans (Nat.le_refl _) g20_0
 have ge25 : n0 ≤ r1_20 := Nat.le_trans Z0 g20_1
 have sz26 : h0.size ≤ r1_20 := Nat.le_trans (Nat.le_refl _) g20_1
 show Runs _ _ _ _ (T20.setTop (mkF m 63 #[.val (.ref a0), .unset] [(.ref r0_20)]))
 exact w_done X20 hlk (v := some (.ref r0_20)) rfl (fun h => by rw [hret] at h; cases h) (fun fs hr => retOut X20 hx hret rfl (Or.inr (Or.inr (Or.inr (Or.inr ⟨rfl, rfl, rfl⟩)))) (d22_63 hby) hr) (by decide) (by decide) (⟨r0_20, r1_20, c0_20, rfl, N21, K22, sz24, sz26, g20_2, g20_3, g20_4, g20_5, g20_6, g20_7⟩)
theorem ef_m16_56 (m : MethodId) (a0 : Addr)  : entryFrame m #[(.ref a0)] 2 = mkF m 0 #[.val (.ref a0), .unset] [] := by first | (simp [entryFrame, mkF, argsToLocals, Value.category]; done) | rfl
def Q_m16_56 (Z : State) (a0 : Addr) (jj0 : Addr) (jj1 : ClassId) (jj2 : Addr) (jj3 : Addr) (jj4 : Addr) (jj5 : Addr) (h0 : Heap) (n0 : Nat) (v : Option Value) (h : Heap) (L : List Loc) : Prop := ∃ (r0 : Addr) (r1 : Addr) (c0 : ClassId), v = some (.ref r0) ∧ Fr n0 L ∧ Keep h0 h [] ∧ h0.size ≤ r0 ∧ h0.size ≤ r1 ∧ Exa Z h r0 kc4 ∧ Fld Z h r0 kc4 "elements" "[Ljava/lang/Object;" (.ref r1) ∧ Fld Z h r0 kc4 "allowNulls" "Z" (.int (0 : Int32)) ∧ Arv Z h r1 c0 (.object kc0) (3 : Int32) [(.ref jj2), (.ref jj3), (.ref jj4)] .null ∧ Exa Z h r1 "[Ljava/lang/Object;" ∧ Ovr Z c0 kc0
theorem rm_m16_56 (l : Launch) (Z : State) (aZ : Array Value) (hw : ∀ d ∈ tables_1, d.before aZ Z = true) (ws : List Jvm.Cond) (a0 : Addr) (jj0 : Addr) (jj1 : ClassId) (jj2 : Addr) (jj3 : Addr) (jj4 : Addr) (jj5 : Addr) (h0 : Heap) (n0 : Nat) (Z0 : n0 ≤ h0.size) (E_a0 : Exa Z h0 a0 kc1) (zz6 : Fld Z h0 a0 kc1 "size" "I" (.int (3 : Int32))) (zz7 : Fld Z h0 a0 kc1 "elementData" "[Ljava/lang/Object;" (.ref jj0)) (zz8 : Exa Z h0 jj0 "[Ljava/lang/Object;") (zz9 : Arv Z h0 jj0 jj1 (.object kc0) (10 : Int32) [(.ref jj2), (.ref jj3), (.ref jj4), .null, .null, .null, .null, .null, .null, .null] .null) (zz10 : Exa Z h0 jj2 kc2) (zz11 : Exa Z h0 jj3 kc2) (zz12 : Exa Z h0 jj4 kc2) (zz13 : MirO Z "[Ljava/lang/Object;" jj5) :
    MetN l Z yn_16 jdk_56_method_3_code 2 (some (.object "java/util/List")) ws ({ frames := 7, cells := 3, slots := 8, locals := 90 } : Room) #[(.ref a0)] h0 (Q_m16_56 Z a0 jj0 jj1 jj2 jj3 jj4 jj5 h0 n0) := by
 refine MetN.of (plainFor_of_name pn_13) ?_
 intro p e s m below meth c s₁ hret hx hby hml hown hnm hlk hZ X0 e0
 have N0 := Fr.nil n0
 rw [ef_m16_56 m a0]
 refine w_aloadN X0 hx (d16_0 hby) rfl rfl (pc' := 1) rfl ?_
 refine w_instNo X0 hx hZ hown (wd_106 hw) e0 E_a0 (own_nsno (wd_107 hw) (wd_155 hw) (NS.step (wd_107 hw) (NS.step (wd_108 hw) (NS.step (wd_109 hw) (own_nsroot (wd_110 hw) (wd_155 hw) (by decide)) (by decide)) (by decide)) (by decide)) (by decide)) (d16_1 hby) (pc' := 4) rfl ?_
 intro T20 X20 e20
 refine w_ifN X20 hx (d16_4 hby) (teq (by decide : (0 : Int32) = (0 : Int32))).2 (pc' := 7) rfl ?_
 refine w_aloadN X20 hx (d16_7 hby) rfl rfl (pc' := 8) rfl ?_
 refine w_instNo X20 hx hZ hown (wd_111 hw) e20 E_a0 (own_nsno (wd_107 hw) (wd_247 hw) (NS.step (wd_107 hw) (NS.step (wd_108 hw) (NS.step (wd_109 hw) (own_nsroot (wd_110 hw) (wd_247 hw) (by decide)) (by decide)) (by decide)) (by decide)) (by decide)) (d16_8 hby) (pc' := 11) rfl ?_
 intro T21 X21 e21
 refine w_ifY X21 hx (d16_11 hby) (teq (by decide : (0 : Int32) = (0 : Int32))).1 (pc' := 31) (by decide) (by decide) ?_
 refine w_aloadN X21 hx (d16_31 hby) rfl rfl (pc' := 32) rfl ?_
 obtain ⟨cq22, kq22, q22a, q22b, q22c⟩ := isOf hZ e21 E_a0
 refine w_interface X21 hx (xi := (⟨"java/util/Collection", "isEmpty", "()Z"⟩ : MethodName)) (y := yn_17) hown (mvT hZ (wd_112 hw)) (mvT hZ (wd_113 hw)) (mvT hZ (wd_114 hw)) (mvT hZ (wd_115 hw)) (mvT hZ (wd_116 hw)) (mvT hZ (wd_117 hw)) (mvT hZ (wd_118 hw)) (mvT hZ (wd_119 hw)) (by decide) (backOf (W := 0) (rm_m17_57 l Z aZ hw [] a0 h0 n0 Z0 zz6) hZ (wd_120 hw) (wd_29 hw) (by decide) (by decide)) q22a q22b q22c (by rw [hml]; rfl) [] (lenOf pd_13 rfl) rfl (Nat.le_of_eq rfl) (d16_32 hby) (fun _ _ => ⟨rfl, e21, (by decide : 0 + 0 ≤ _), (by decide : 0 + 0 ≤ _)⟩) (pc' := 37) rfl ?_
 rintro _ _ ⟨T22, L22, k22, n22⟩ X22 ⟨Lc22, hQ22, l22, y22, z22⟩
 dsimp only [Pt.U, Pt.locs, Pt.cells, Pt.slots] at X22 l22 y22 z22 hQ22 ⊢
 subst l22 y22 z22
 obtain ⟨rfl, N22q, e22⟩ := hQ22
 have N23 := Fr.app N0 N22q
 show Runs _ _ _ _ (T22.setTop (mkF m 37 #[.val (.ref a0), .unset] [(.int (0 : Int32))]))
 refine w_ifY X22 hx (d16_37 hby) (teq (by decide : (0 : Int32) = (0 : Int32))).1 (pc' := 44) (by decide) (by decide) ?_
 refine w_aloadN X22 hx (d16_44 hby) rfl rfl (pc' := 45) rfl ?_
 obtain ⟨cq24, kq24, q24a, q24b, q24c⟩ := isOf hZ e22 E_a0
 refine w_interface X22 hx (xi := (⟨"java/util/Collection", "toArray", "()[Ljava/lang/Object;"⟩ : MethodName)) (y := yn_18) hown (mvT hZ (wd_121 hw)) (mvT hZ (wd_122 hw)) (mvT hZ (wd_123 hw)) (mvT hZ (wd_124 hw)) (mvT hZ (wd_125 hw)) (mvT hZ (wd_126 hw)) (mvT hZ (wd_127 hw)) (mvT hZ (wd_119 hw)) (by decide) (backOf (W := 0) (rm_m18_58 l Z aZ hw [] a0 jj0 jj1 jj2 jj3 jj4 jj5 h0 n0 Z0 zz7 zz6 zz8 zz9 zz10 zz11 zz12 zz13) hZ (wd_128 hw) (wd_29 hw) (by decide) (by decide)) q24a q24b q24c (by rw [hml]; rfl) [] (lenOf pd_10 rfl) rfl (Nat.le_of_eq rfl) (d16_45 hby) (fun _ _ => ⟨rfl, e22, (by decide : 0 + 1 ≤ _), (by decide : 0 + 3 ≤ _)⟩) (pc' := 50) rfl ?_
 rintro _ _ ⟨T24, L24, k24, n24⟩ X24 ⟨Lc24, hQ24, l24, y24, z24⟩
 dsimp only [Pt.U, Pt.locs, Pt.cells, Pt.slots] at X24 l24 y24 z24 hQ24 ⊢
 subst l24 y24 z24
 obtain ⟨r0_24, c0_24, rfl, N24q, K24, g24_0, g24_1, g24_2, g24_3⟩ := hQ24
 have N25 := Fr.app N23 N24q
 have K26 : Keep h0 T24.heap [] := (Keep.refl h0 []).trans K24 (all0 (P := fun x => x ∈ [] ∨ h0.size ≤ x))
 have ge27 : n0 ≤ r0_24 := Nat.le_trans Z0 g24_0
 have sz28 : h0.size ≤ r0_24 := Nat.le_trans (Nat.le_refl _) g24_0
 show Runs _ _ _ _ (T24.setTop (mkF m 50 #[.val (.ref a0), .unset] [(.ref r0_24)]))
 have f29 : Exa Z T24.heap jj2 kc2 := (zz10.keep K24)
 have f30 : Exa Z T24.heap jj3 kc2 := (zz11.keep K24)
 have f31 : Exa Z T24.heap jj4 kc2 := (zz12.keep K24)
 refine w_static X24 hx (y := yn_22) hown (mvT hZ (wd_151 hw)) (mvT hZ (wd_152 hw)) (mvT hZ (wd_100 hw)) (mvT hZ (wd_153 hw)) (by decide) (backOf (W := 0) (rm_m22_62 l Z aZ hw [] r0_24 c0_24 jj2 jj3 jj4 T24.heap n0 (Nat.le_trans Z0 K24.1) g24_1 f29 f30 f31) hZ (wd_153 hw) (wd_100 hw) (by decide) (by decide)) (by rw [hml]; rfl) [(.ref r0_24)] (lenOf pd_18 rfl) rfl (Nat.le_of_eq rfl) (d16_50 hby) (fun _ _ => ⟨rfl, rfl, (by decide : 1 + 2 ≤ _), (by decide : 3 + 5 ≤ _)⟩) (pc' := 53) rfl ?_
 rintro _ _ ⟨T32, L32, k32, n32⟩ X32 ⟨Lc32, hQ32, l32, y32, z32⟩
 dsimp only [Pt.U, Pt.locs, Pt.cells, Pt.slots] at X32 l32 y32 z32 hQ32 ⊢
 subst l32 y32 z32
 obtain ⟨r0_32, r1_32, c0_32, rfl, N32q, K32, g32_0, g32_1, g32_2, g32_3, g32_4, g32_5, g32_6, g32_7⟩ := hQ32
 have N33 := Fr.app N25 N32q
 have K34 : Keep h0 T32.heap [] := K26.trans K32 (all0 (P := fun x => x ∈ [] ∨ h0.size ≤ x))
 have ge35 : n0 ≤ r0_32 := Nat.le_trans (Nat.le_trans Z0 K24.1) g32_0
 have sz36 : h0.size ≤ r0_32 := Nat.le_trans K24.1 g32_0
 have ge37 : n0 ≤ r1_32 := Nat.le_trans (Nat.le_trans Z0 K24.1) g32_1
 have sz38 : h0.size ≤ r1_32 := Nat.le_trans K24.1 g32_1
 show Runs _ _ _ _ (T32.setTop (mkF m 53 #[.val (.ref a0), .unset] [(.ref r0_32)]))
 exact w_done X32 hlk (v := some (.ref r0_32)) rfl (fun h => by rw [hret] at h; cases h) (fun fs hr => retOut X32 hx hret rfl (Or.inr (Or.inr (Or.inr (Or.inr ⟨rfl, rfl, rfl⟩)))) (d16_53 hby) hr) (by decide) (by decide) (⟨r0_32, r1_32, c0_32, rfl, N33, K34, sz36, sz38, g32_2, g32_3, g32_4, g32_5, g32_6, g32_7⟩)
theorem ef_m15_55 (m : MethodId) (a0 : Addr)  : entryFrame m #[(.ref a0)] 1 = mkF m 0 #[.val (.ref a0)] [] := by first | (simp [entryFrame, mkF, argsToLocals, Value.category]; done) | rfl
def Q_m15_55 (Z : State) (a0 : Addr) (jj0 : Addr) (jj1 : ClassId) (jj2 : Addr) (jj3 : Addr) (jj4 : Addr) (jj5 : Addr) (h0 : Heap) (n0 : Nat) (v : Option Value) (h : Heap) (L : List Loc) : Prop := ∃ (r0 : Addr) (r1 : Addr) (c0 : ClassId), v = some (.ref r0) ∧ Fr n0 L ∧ Keep h0 h [] ∧ h0.size ≤ r0 ∧ h0.size ≤ r1 ∧ Exa Z h r0 kc4 ∧ Fld Z h r0 kc4 "elements" "[Ljava/lang/Object;" (.ref r1) ∧ Fld Z h r0 kc4 "allowNulls" "Z" (.int (0 : Int32)) ∧ Arv Z h r1 c0 (.object kc0) (3 : Int32) [(.ref jj2), (.ref jj3), (.ref jj4)] .null ∧ Exa Z h r1 "[Ljava/lang/Object;" ∧ Ovr Z c0 kc0
theorem rm_m15_55 (l : Launch) (Z : State) (aZ : Array Value) (hw : ∀ d ∈ tables_1, d.before aZ Z = true) (ws : List Jvm.Cond) (a0 : Addr) (jj0 : Addr) (jj1 : ClassId) (jj2 : Addr) (jj3 : Addr) (jj4 : Addr) (jj5 : Addr) (h0 : Heap) (n0 : Nat) (Z0 : n0 ≤ h0.size) (E_a0 : Exa Z h0 a0 kc1) (zz6 : Fld Z h0 a0 kc1 "size" "I" (.int (3 : Int32))) (zz7 : Fld Z h0 a0 kc1 "elementData" "[Ljava/lang/Object;" (.ref jj0)) (zz8 : Exa Z h0 jj0 "[Ljava/lang/Object;") (zz9 : Arv Z h0 jj0 jj1 (.object kc0) (10 : Int32) [(.ref jj2), (.ref jj3), (.ref jj4), .null, .null, .null, .null, .null, .null, .null] .null) (zz10 : Exa Z h0 jj2 kc2) (zz11 : Exa Z h0 jj3 kc2) (zz12 : Exa Z h0 jj4 kc2) (zz13 : MirO Z "[Ljava/lang/Object;" jj5) :
    MetN l Z yn_15 jdk_40_method_48_code 1 (some (.object "java/util/List")) ws ({ frames := 8, cells := 3, slots := 8, locals := 103 } : Room) #[(.ref a0)] h0 (Q_m15_55 Z a0 jj0 jj1 jj2 jj3 jj4 jj5 h0 n0) := by
 refine MetN.of (plainFor_of_name pn_12) ?_
 intro p e s m below meth c s₁ hret hx hby hml hown hnm hlk hZ X0 e0
 have N0 := Fr.nil n0
 rw [ef_m15_55 m a0]
 refine w_aloadN X0 hx (d15_0 hby) rfl rfl (pc' := 1) rfl ?_
 refine w_static X0 hx (y := yn_16) hown (mvT hZ (wd_102 hw)) (mvT hZ (wd_103 hw)) (mvT hZ (wd_104 hw)) (mvT hZ (wd_105 hw)) (by decide) (backOf (W := 0) (rm_m16_56 l Z aZ hw [] a0 jj0 jj1 jj2 jj3 jj4 jj5 h0 n0 Z0 E_a0 zz6 zz7 zz8 zz9 zz10 zz11 zz12 zz13) hZ (wd_105 hw) (wd_104 hw) (by decide) (by decide)) (by rw [hml]; rfl) [(.ref a0)] (lenOf pd_19 rfl) rfl (Nat.le_of_eq rfl) (d15_1 hby) (fun _ _ => ⟨rfl, e0, (by decide : 0 + 3 ≤ _), (by decide : 0 + 8 ≤ _)⟩) (pc' := 4) rfl ?_
 rintro _ _ ⟨T20, L20, k20, n20⟩ X20 ⟨Lc20, hQ20, l20, y20, z20⟩
 dsimp only [Pt.U, Pt.locs, Pt.cells, Pt.slots] at X20 l20 y20 z20 hQ20 ⊢
 subst l20 y20 z20
 obtain ⟨r0_20, r1_20, c0_20, rfl, N20q, K20, g20_0, g20_1, g20_2, g20_3, g20_4, g20_5, g20_6, g20_7⟩ := hQ20
 have N21 := Fr.app N0 N20q
 have K22 : Keep h0 T20.heap [] := (Keep.refl h0 []).trans K20 (all0 (P := fun x => x ∈ [] ∨ h0.size ≤ x))
 have ge23 : n0 ≤ r0_20 := Nat.le_trans Z0 g20_0
 have sz24 : h0.size ≤ r0_20 := Nat.le_trans (Nat.le_refl _) g20_0
 have ge25 : n0 ≤ r1_20 := Nat.le_trans Z0 g20_1
 have sz26 : h0.size ≤ r1_20 := Nat.le_trans (Nat.le_refl _) g20_1
 show Runs _ _ _ _ (T20.setTop (mkF m 4 #[.val (.ref a0)] [(.ref r0_20)]))
 exact w_done X20 hlk (v := some (.ref r0_20)) rfl (fun h => by rw [hret] at h; cases h) (fun fs hr => retOut X20 hx hret rfl (Or.inr (Or.inr (Or.inr (Or.inr ⟨rfl, rfl, rfl⟩)))) (d15_4 hby) hr) (by decide) (by decide) (⟨r0_20, r1_20, c0_20, rfl, N21, K22, sz24, sz26, g20_2, g20_3, g20_4, g20_5, g20_6, g20_7⟩)
theorem ef_m13_54 (m : MethodId) (a0 : Addr) (a1 : Addr)  : entryFrame m #[(.ref a0), (.ref a1)] 2 = mkF m 0 #[.val (.ref a0), .val (.ref a1)] [] := by first | (simp [entryFrame, mkF, argsToLocals, Value.category]; done) | rfl
def Q_m13_54 (Z : State) (a0 : Addr) (a1 : Addr) (jj0 : Addr) (jj1 : ClassId) (jj2 : Addr) (jj3 : Addr) (jj4 : Addr) (jj5 : Addr) (h0 : Heap) (n0 : Nat) (v : Option Value) (h : Heap) (L : List Loc) : Prop := ∃ (r0 : Addr) (r1 : Addr) (c0 : ClassId), v = none ∧ Fr n0 L ∧ Keep h0 h [a0] ∧ h0.size ≤ r0 ∧ h0.size ≤ r1 ∧ Exa Z h r0 kc4 ∧ Fld Z h r0 kc4 "elements" "[Ljava/lang/Object;" (.ref r1) ∧ Fld Z h r0 kc4 "allowNulls" "Z" (.int (0 : Int32)) ∧ Arv Z h r1 c0 (.object kc0) (3 : Int32) [(.ref jj2), (.ref jj3), (.ref jj4)] .null ∧ Exa Z h r1 "[Ljava/lang/Object;" ∧ Exa Z h a0 kc6 ∧ Fld Z h a0 kc6 "parts" "Ljava/util/List;" (.ref r0) ∧ Ovr Z c0 kc0
theorem rm_m13_54 (l : Launch) (Z : State) (aZ : Array Value) (hw : ∀ d ∈ tables_1, d.before aZ Z = true) (ws : List Jvm.Cond) (a0 : Addr) (a1 : Addr) (jj0 : Addr) (jj1 : ClassId) (jj2 : Addr) (jj3 : Addr) (jj4 : Addr) (jj5 : Addr) (h0 : Heap) (n0 : Nat) (Z0 : n0 ≤ h0.size) (E_a1 : Exa Z h0 a1 kc1) (zz6 : Fld Z h0 a1 kc1 "size" "I" (.int (3 : Int32))) (zz7 : Fld Z h0 a1 kc1 "elementData" "[Ljava/lang/Object;" (.ref jj0)) (zz8 : Exa Z h0 jj0 "[Ljava/lang/Object;") (zz9 : Arv Z h0 jj0 jj1 (.object kc0) (10 : Int32) [(.ref jj2), (.ref jj3), (.ref jj4), .null, .null, .null, .null, .null, .null, .null] .null) (zz10 : Exa Z h0 jj2 kc2) (zz11 : Exa Z h0 jj3 kc2) (zz12 : Exa Z h0 jj4 kc2) (zz13 : MirO Z "[Ljava/lang/Object;" jj5) (E_a0 : Exa Z h0 a0 kc6) (zz14 : Fld Z h0 a0 kc6 "parts" "Ljava/util/List;" .null) (zz15 : n0 ≤ a0) :
    MetN l Z yn_13 prog_12_method_1_code 2 none ws ({ frames := 9, cells := 3, slots := 8, locals := 115 } : Room) #[(.ref a0), (.ref a1)] h0 (Q_m13_54 Z a0 a1 jj0 jj1 jj2 jj3 jj4 jj5 h0 n0) := by
 refine MetN.of (plainFor_of_name pn_14) ?_
 intro p e s m below meth c s₁ hret hx hby hml hown hnm hlk hZ X0 e0
 have N0 := Fr.nil n0
 rw [ef_m13_54 m a0 a1]
 refine w_aloadN X0 hx (d13_0 hby) rfl rfl (pc' := 1) rfl ?_
 refine w_special X0 hx (y := yn_14) rfl hown (mvT hZ (wd_92 hw)) (mvT hZ (wd_93 hw)) (mvT hZ (wd_96 hw)) (by decide) (backOf (W := 0) (rm_m14_20 l Z aZ hw [] a0 h0 n0 Z0 ) hZ (wd_96 hw) (wd_95 hw) (by decide) (by decide)) (by rw [hml]; rfl) [] (lenOf pd_7 rfl) rfl (Nat.le_of_eq rfl) (d13_1 hby) (fun _ _ => ⟨rfl, e0, (by decide : 0 + 0 ≤ _), (by decide : 0 + 0 ≤ _)⟩) (pc' := 4) rfl ?_
 rintro _ _ ⟨T20, L20, k20, n20⟩ X20 ⟨Lc20, hQ20, l20, y20, z20⟩
 dsimp only [Pt.U, Pt.locs, Pt.cells, Pt.slots] at X20 l20 y20 z20 hQ20 ⊢
 subst l20 y20 z20
 obtain ⟨rfl, N20q, e20⟩ := hQ20
 have N21 := Fr.app N0 N20q
 show Runs _ _ _ _ (T20.setTop (mkF m 4 #[.val (.ref a0), .val (.ref a1)] []))
 refine w_aloadN X20 hx (d13_4 hby) rfl rfl (pc' := 5) rfl ?_
 refine w_static X20 hx (y := yn_15) hown (mvT hZ (wd_98 hw)) (mvT hZ (wd_99 hw)) (mvT hZ (wd_100 hw)) (mvT hZ (wd_101 hw)) (by decide) (backOf (W := 0) (rm_m15_55 l Z aZ hw [] a1 jj0 jj1 jj2 jj3 jj4 jj5 h0 n0 Z0 E_a1 zz6 zz7 zz8 zz9 zz10 zz11 zz12 zz13) hZ (wd_101 hw) (wd_100 hw) (by decide) (by decide)) (by rw [hml]; rfl) [(.ref a1)] (lenOf pd_19 rfl) rfl (Nat.le_of_eq rfl) (d13_5 hby) (fun _ _ => ⟨rfl, e20, (by decide : 0 + 3 ≤ _), (by decide : 0 + 8 ≤ _)⟩) (pc' := 8) rfl ?_
 rintro _ _ ⟨T22, L22, k22, n22⟩ X22 ⟨Lc22, hQ22, l22, y22, z22⟩
 dsimp only [Pt.U, Pt.locs, Pt.cells, Pt.slots] at X22 l22 y22 z22 hQ22 ⊢
 subst l22 y22 z22
 obtain ⟨r0_22, r1_22, c0_22, rfl, N22q, K22, g22_0, g22_1, g22_2, g22_3, g22_4, g22_5, g22_6, g22_7⟩ := hQ22
 have N23 := Fr.app N21 N22q
 have K24 : Keep h0 T22.heap [a0] := (Keep.refl h0 [a0]).trans K22 (all0 (P := fun x => x ∈ [a0] ∨ h0.size ≤ x))
 have ge25 : n0 ≤ r0_22 := Nat.le_trans Z0 g22_0
 have sz26 : h0.size ≤ r0_22 := Nat.le_trans (Nat.le_refl _) g22_0
 have ge27 : n0 ≤ r1_22 := Nat.le_trans Z0 g22_1
 have sz28 : h0.size ≤ r1_22 := Nat.le_trans (Nat.le_refl _) g22_1
 show Runs _ _ _ _ (T22.setTop (mkF m 8 #[.val (.ref a0), .val (.ref a1)] [(.ref r0_22)]))
 refine w_astoreN X22 hx (d13_8 hby) rfl (L' := #[.val (.ref a0), .val (.ref r0_22)]) rfl (pc' := 9) rfl ?_
 refine w_aloadN X22 hx (d13_9 hby) rfl rfl (pc' := 10) rfl ?_
 refine w_aloadN X22 hx (d13_10 hby) rfl rfl (pc' := 11) rfl ?_
 have f29 : Exa Z T22.heap a0 kc6 := (E_a0.keep K22)
 have f30 : Fld Z T22.heap a0 kc6 "parts" "Ljava/util/List;" .null := (zz14.keep K22 nin0)
 refine w_putF X22 hx "" hZ hown (Or.inl (wd_184 hw)) Via.refl rfl f30 f29 (Or.inr ⟨(wd_185 hw), rfl, hnm⟩) (wd_87 hw) (ty := (.object "java/util/List")) (by decide) rfl rfl (d13_11 hby) (pc' := 14) rfl ?_
 intro T31 h31 X31 e31 W31
 have f32 : Fld Z h31 a0 kc6 "parts" "Ljava/util/List;" (.ref r0_22) := f30.same W31
 have K33 : Keep h0 h31 [a0] := K24.wr W31 (Or.inl (by simp))
 have N34 := Fr.snoc X31 N23 zz15
 have f35 : Exa Z h31 r0_22 kc4 := (g22_2.wr W31)
 have ne36 : a0 ≠ r0_22 := (Nat.ne_of_lt (Nat.lt_of_lt_of_le E_a0.lt (Nat.le_trans (Nat.le_refl _) g22_0)))
 have f37 : Fld Z h31 r0_22 kc4 "elements" "[Ljava/lang/Object;" (.ref r1_22) := (g22_3.other W31 (Or.inl (Ne.symm ne36)))
 have f38 : Fld Z h31 r0_22 kc4 "allowNulls" "Z" (.int (0 : Int32)) := (g22_4.other W31 (Or.inl (Ne.symm ne36)))
 have ne39 : a0 ≠ r1_22 := (Nat.ne_of_lt (Nat.lt_of_lt_of_le E_a0.lt (Nat.le_trans (Nat.le_refl _) g22_1)))
 have f40 : Arv Z h31 r1_22 c0_22 (.object kc0) (3 : Int32) [(.ref jj2), (.ref jj3), (.ref jj4)] .null := (g22_5.other W31 (Ne.symm ne39))
 have f41 : Exa Z h31 r1_22 "[Ljava/lang/Object;" := (g22_6.wr W31)
 have f42 : Exa Z h31 a0 kc6 := (f29.wr W31)
 exact w_done X31 hlk (v := none) e31 (fun _ => rfl) (fun fs hr => X31.returnOut hx hret (d13_14 hby) hr) (by decide) (by decide) (⟨r0_22, r1_22, c0_22, rfl, N34, K33, sz26, sz28, f35, f37, f38, f40, f41, f42, f32, g22_7⟩)
theorem ef_m41_66 (m : MethodId) (a0 : Addr)  : entryFrame m #[(.ref a0)] 1 = mkF m 0 #[.val (.ref a0)] [] := by first | (simp [entryFrame, mkF, argsToLocals, Value.category]; done) | rfl
def Q_m41_66 (Z : State) (a0 : Addr) (jj0 : Addr) (jj1 : ClassId) (jj2 : Addr) (jj3 : Addr) (jj4 : Addr) (h0 : Heap) (n0 : Nat) (v : Option Value) (h : Heap) (L : List Loc) : Prop := v = some (.int (3 : Int32)) ∧ Fr n0 L ∧ h = h0
theorem rm_m41_66 (l : Launch) (Z : State) (aZ : Array Value) (hw : ∀ d ∈ tables_1, d.before aZ Z = true) (ws : List Jvm.Cond) (a0 : Addr) (jj0 : Addr) (jj1 : ClassId) (jj2 : Addr) (jj3 : Addr) (jj4 : Addr) (h0 : Heap) (n0 : Nat) (Z0 : n0 ≤ h0.size) (zz5 : Fld Z h0 a0 kc4 "elements" "[Ljava/lang/Object;" (.ref jj0)) (zz6 : Arv Z h0 jj0 jj1 (.object kc0) (3 : Int32) [(.ref jj2), (.ref jj3), (.ref jj4)] .null) :
    MetN l Z yn_41 jdk_45_method_3_code 1 (some .int) ws ({ frames := 0, cells := 0, slots := 0, locals := 0 } : Room) #[(.ref a0)] h0 (Q_m41_66 Z a0 jj0 jj1 jj2 jj3 jj4 h0 n0) := by
 refine MetN.of (plainFor_of_name pn_15) ?_
 intro p e s m below meth c s₁ hret hx hby hml hown hnm hlk hZ X0 e0
 have N0 := Fr.nil n0
 rw [ef_m41_66 m a0]
 refine w_aloadN X0 hx (d41_0 hby) rfl rfl (pc' := 1) rfl ?_
 refine w_getF X0 hx "" hZ hown (Or.inl (wd_257 hw)) Via.refl e0 zz5 (d41_1 hby) (pc' := 4) rfl ?_
 intro T20 X20 e20
 refine w_alen X20 hx hZ e20 zz6 (d41_4 hby) (pc' := 5) rfl ?_
 exact w_done X20 hlk (v := some (.int (3 : Int32))) e20 (fun h => by rw [hret] at h; cases h) (fun fs hr => retI X20 hx hret (d41_5 hby) hr) (by decide) (by decide) (⟨rfl, N0, rfl⟩)
theorem ef_m42_67 (m : MethodId) (a0 : Addr)  : entryFrame m #[(.ref a0), (.int (2 : Int32))] 2 = mkF m 0 #[.val (.ref a0), .val (.int (2 : Int32))] [] := by first | (simp [entryFrame, mkF, argsToLocals, Value.category]; done) | rfl
def Q_m42_67 (Z : State) (a0 : Addr) (jj0 : Addr) (jj1 : ClassId) (jj2 : Addr) (jj3 : Addr) (jj4 : Addr) (h0 : Heap) (n0 : Nat) (v : Option Value) (h : Heap) (L : List Loc) : Prop := v = some (.ref jj4) ∧ Fr n0 L ∧ h = h0
theorem rm_m42_67 (l : Launch) (Z : State) (aZ : Array Value) (hw : ∀ d ∈ tables_1, d.before aZ Z = true) (ws : List Jvm.Cond) (a0 : Addr) (jj0 : Addr) (jj1 : ClassId) (jj2 : Addr) (jj3 : Addr) (jj4 : Addr) (h0 : Heap) (n0 : Nat) (Z0 : n0 ≤ h0.size) (zz5 : Fld Z h0 a0 kc4 "elements" "[Ljava/lang/Object;" (.ref jj0)) (zz6 : Arv Z h0 jj0 jj1 (.object kc0) (3 : Int32) [(.ref jj2), (.ref jj3), (.ref jj4)] .null) :
    MetN l Z yn_42 jdk_45_method_4_code 2 (some (.object kc0)) ws ({ frames := 0, cells := 0, slots := 0, locals := 0 } : Room) #[(.ref a0), (.int (2 : Int32))] h0 (Q_m42_67 Z a0 jj0 jj1 jj2 jj3 jj4 h0 n0) := by
 refine MetN.of (plainFor_of_name pn_15) ?_
 intro p e s m below meth c s₁ hret hx hby hml hown hnm hlk hZ X0 e0
 have N0 := Fr.nil n0
 rw [ef_m42_67 m a0]
 refine w_aloadN X0 hx (d42_0 hby) rfl rfl (pc' := 1) rfl ?_
 refine w_getF X0 hx "" hZ hown (Or.inl (wd_257 hw)) Via.refl e0 zz5 (d42_1 hby) (pc' := 4) rfl ?_
 intro T20 X20 e20
 refine w_iloadN X20 hx (d42_4 hby) rfl (pc' := 5) rfl ?_
 obtain ⟨clu21, Aru21, qu21, Su21, Nu21, Hu21, Gu21⟩ := id zz6
 have hinu21 := inb_of (j := (2 : Int32)) Su21 ⟨by decide, by decide⟩
 refine w_aaload X20 hx hZ e20 Aru21 rfl hinu21 (Hu21.at hinu21 rfl) (d42_5 hby) (pc' := 6) rfl ?_
 exact w_done X20 hlk (v := some (.ref jj4)) e20 (fun h => by rw [hret] at h; cases h) (fun fs hr => retOut X20 hx hret rfl (Or.inr (Or.inr (Or.inr (Or.inr ⟨rfl, rfl, rfl⟩)))) (d42_6 hby) hr) (by decide) (by decide) (⟨rfl, N0, rfl⟩)
theorem ef_m27_65 (m : MethodId) (a0 : Addr)  : entryFrame m #[(.ref a0)] 1 = mkF m 0 #[.val (.ref a0)] [] := by first | (simp [entryFrame, mkF, argsToLocals, Value.category]; done) | rfl
def Q_m27_65 (Z : State) (a0 : Addr) (jj0 : Addr) (jj1 : Addr) (jj2 : ClassId) (jj3 : Addr) (jj4 : Addr) (jj5 : Addr) (h0 : Heap) (n0 : Nat) (v : Option Value) (h : Heap) (L : List Loc) : Prop := v = some (.ref jj5) ∧ Fr n0 L ∧ h = h0
theorem rm_m27_65 (l : Launch) (Z : State) (aZ : Array Value) (hw : ∀ d ∈ tables_1, d.before aZ Z = true) (ws : List Jvm.Cond) (a0 : Addr) (jj0 : Addr) (jj1 : Addr) (jj2 : ClassId) (jj3 : Addr) (jj4 : Addr) (jj5 : Addr) (h0 : Heap) (n0 : Nat) (Z0 : n0 ≤ h0.size) (zz6 : Fld Z h0 a0 kc6 "parts" "Ljava/util/List;" (.ref jj0)) (zz7 : Exa Z h0 jj0 kc4) (zz8 : Fld Z h0 jj0 kc4 "elements" "[Ljava/lang/Object;" (.ref jj1)) (zz9 : Arv Z h0 jj1 jj2 (.object kc0) (3 : Int32) [(.ref jj3), (.ref jj4), (.ref jj5)] .null) (zz10 : Exa Z h0 jj5 kc2) :
    MetN l Z yn_27 prog_12_method_6_code 1 (some (.object kc2)) ws ({ frames := 1, cells := 0, slots := 0, locals := 13 } : Room) #[(.ref a0)] h0 (Q_m27_65 Z a0 jj0 jj1 jj2 jj3 jj4 jj5 h0 n0) := by
 refine MetN.of (plainFor_of_name pn_14) ?_
 intro p e s m below meth c s₁ hret hx hby hml hown hnm hlk hZ X0 e0
 have N0 := Fr.nil n0
 rw [ef_m27_65 m a0]
 refine w_aloadN X0 hx (d27_0 hby) rfl rfl (pc' := 1) rfl ?_
 refine w_getF X0 hx "" hZ hown (Or.inl (wd_184 hw)) Via.refl e0 zz6 (d27_1 hby) (pc' := 4) rfl ?_
 intro T20 X20 e20
 refine w_aloadN X20 hx (d27_4 hby) rfl rfl (pc' := 5) rfl ?_
 refine w_getF X20 hx "" hZ hown (Or.inl (wd_184 hw)) Via.refl e20 zz6 (d27_5 hby) (pc' := 8) rfl ?_
 intro T21 X21 e21
 obtain ⟨cq22, kq22, q22a, q22b, q22c⟩ := isOf hZ e21 zz7
 refine w_interface X21 hx (xi := (⟨"java/util/List", "size", "()I"⟩ : MethodName)) (y := yn_41) hown (mvT hZ (wd_191 hw)) (mvT hZ (wd_192 hw)) (mvT hZ (wd_193 hw)) (mvT hZ (wd_261 hw)) (mvT hZ (wd_262 hw)) (mvT hZ (wd_263 hw)) (mvT hZ (wd_264 hw)) (mvT hZ (wd_265 hw)) (by decide) (backOf (W := 1) (rm_m41_66 l Z aZ hw [] jj0 jj1 jj2 jj3 jj4 jj5 h0 n0 Z0 zz8 zz9) hZ (wd_266 hw) (wd_248 hw) (by decide) (by decide)) q22a q22b q22c (by rw [hml]; rfl) [] (lenOf pd_21 rfl) rfl (Nat.le_of_eq rfl) (d27_8 hby) (fun _ _ => ⟨rfl, e21, (by decide : 0 + 0 ≤ _), (by decide : 0 + 0 ≤ _)⟩) (pc' := 13) rfl ?_
 rintro _ _ ⟨T22, L22, k22, n22⟩ X22 ⟨Lc22, hQ22, l22, y22, z22⟩
 dsimp only [Pt.U, Pt.locs, Pt.cells, Pt.slots] at X22 l22 y22 z22 hQ22 ⊢
 subst l22 y22 z22
 obtain ⟨rfl, N22q, e22⟩ := hQ22
 have N23 := Fr.app N0 N22q
 show Runs _ _ _ _ (T22.setTop (mkF m 13 #[.val (.ref a0)] [(.int (3 : Int32)), (.ref jj0)]))
 refine w_iconst X22 hx (d27_13 hby) (v := (1 : Int32)) rfl (pc' := 14) rfl ?_
 refine w_isub X22 hx (d27_14 hby) (pc' := 15) rfl ?_
 rw [show ((3 : Int32) - (1 : Int32)) = (2 : Int32) from by decide]
 obtain ⟨cq24, kq24, q24a, q24b, q24c⟩ := isOf hZ e22 zz7
 refine w_interface X22 hx (xi := (⟨"java/util/List", "get", "(I)Ljava/lang/Object;"⟩ : MethodName)) (y := yn_42) hown (mvT hZ (wd_200 hw)) (mvT hZ (wd_201 hw)) (mvT hZ (wd_202 hw)) (mvT hZ (wd_267 hw)) (mvT hZ (wd_268 hw)) (mvT hZ (wd_269 hw)) (mvT hZ (wd_270 hw)) (mvT hZ (wd_265 hw)) (by decide) (backOf (W := 0) (rm_m42_67 l Z aZ hw [] jj0 jj1 jj2 jj3 jj4 jj5 h0 n0 Z0 zz8 zz9) hZ (wd_271 hw) (wd_248 hw) (by decide) (by decide)) q24a q24b q24c (by rw [hml]; rfl) [(.int (2 : Int32))] (lenOf pd_22 rfl) rfl (Nat.le_of_eq rfl) (d27_15 hby) (fun _ _ => ⟨rfl, e22, (by decide : 0 + 0 ≤ _), (by decide : 0 + 0 ≤ _)⟩) (pc' := 20) rfl ?_
 rintro _ _ ⟨T24, L24, k24, n24⟩ X24 ⟨Lc24, hQ24, l24, y24, z24⟩
 dsimp only [Pt.U, Pt.locs, Pt.cells, Pt.slots] at X24 l24 y24 z24 hQ24 ⊢
 subst l24 y24 z24
 obtain ⟨rfl, N24q, e24⟩ := hQ24
 have N25 := Fr.app N23 N24q
 show Runs _ _ _ _ (T24.setTop (mkF m 20 #[.val (.ref a0)] [(.ref jj5)]))
 refine w_castY X24 hx hZ hown (wd_208 hw) e24 (Ins.self zz10) (d27_20 hby) (pc' := 23) rfl ?_
 intro T26 X26 e26
 exact w_done X26 hlk (v := some (.ref jj5)) e26 (fun h => by rw [hret] at h; cases h) (fun fs hr => retOut X26 hx hret rfl (Or.inr (Or.inr (Or.inr (Or.inr ⟨rfl, rfl, rfl⟩)))) (d27_23 hby) hr) (by decide) (by decide) (⟨rfl, N25, rfl⟩)
theorem ef_law (m : MethodId) (p0 : Int32) (p1 : Int32) (p2 : Int32) (p3 : Int32)  : entryFrame m #[(.int p0), (.int p1), (.int p2), (.int p3)] maxLocals = mkF m 0 #[.val (.int p0), .val (.int p1), .val (.int p2), .val (.int p3), .unset, .unset, .unset, .unset, .unset, .unset, .unset] [] := by first | (simp [entryFrame, mkF, argsToLocals, Value.category, maxLocals]; done) | rfl
def Q_law (Z : State) (p0 : Int32) (p1 : Int32) (p2 : Int32) (p3 : Int32) (k_G_DEFAULTCAPACITY_EMPTY_ELEMENTDATA : ClassId) (G_DEFAULTCAPACITY_EMPTY_ELEMENTDATA : Addr) (G_EMPTY : Addr) (G_COMPACT_STRINGS : Int32) (mr__Ljava_lang_Object_ : Addr) (h0 : Heap) (n0 : Nat) (v : Option Value) (h : Heap) (L : List Loc) (S : Addr → Prop) : Prop := v = some (.int (1 : Int32)) ∧ Fr n0 L
theorem rm_law (l : Launch) (Z : State) (aZ : Array Value) (hw : ∀ d ∈ tables_1, d.before aZ Z = true) (ws : List Jvm.Cond) (p0 : Int32) (p1 : Int32) (p2 : Int32) (p3 : Int32) (k_G_DEFAULTCAPACITY_EMPTY_ELEMENTDATA : ClassId) (G_DEFAULTCAPACITY_EMPTY_ELEMENTDATA : Addr) (G_EMPTY : Addr) (G_COMPACT_STRINGS : Int32) (mr__Ljava_lang_Object_ : Addr) (h0 : Heap) (n0 : Nat) (Z0 : n0 ≤ h0.size) (S_DEFAULTCAPACITY_EMPTY_ELEMENTDATA : Sta Z Z.heap kc1 "DEFAULTCAPACITY_EMPTY_ELEMENTDATA" "[Ljava/lang/Object;" (.ref G_DEFAULTCAPACITY_EMPTY_ELEMENTDATA)) (S_EMPTY : Sta Z Z.heap kc7 "EMPTY" "Ljava/lang/Object;" (.ref G_EMPTY)) (E_G_DEFAULTCAPACITY_EMPTY_ELEMENTDATA : Exa Z h0 G_DEFAULTCAPACITY_EMPTY_ELEMENTDATA "[Ljava/lang/Object;") (V_G_DEFAULTCAPACITY_EMPTY_ELEMENTDATA : Arv Z h0 G_DEFAULTCAPACITY_EMPTY_ELEMENTDATA k_G_DEFAULTCAPACITY_EMPTY_ELEMENTDATA (.object kc0) (0 : Int32) [] .null) (E_G_EMPTY : Exa Z h0 G_EMPTY kc0) (S_COMPACT_STRINGS : Sta Z Z.heap kc2 "COMPACT_STRINGS" "Z" (.int G_COMPACT_STRINGS)) (O0 : Old Z n0 h0) (hP_7 : ¬ (G_COMPACT_STRINGS = (0 : Int32))) (MI_mr__Ljava_lang_Object_ : MirO Z "[Ljava/lang/Object;" mr__Ljava_lang_Object_) :
    MetH l Z EL x code maxLocals ret ws room_1 #[(.int p0), (.int p1), (.int p2), (.int p3)] h0 (Q_law Z p0 p1 p2 p3 k_G_DEFAULTCAPACITY_EMPTY_ELEMENTDATA G_DEFAULTCAPACITY_EMPTY_ELEMENTDATA G_EMPTY G_COMPACT_STRINGS mr__Ljava_lang_Object_ h0 n0) [] := by
 refine MetH.of (plainFor_of_name pn_2) ?_
 intro p e s m below meth c s₁ hret hx hby hml hown hnm hlk hZ X0 e0 hh hH hsf hS0 C0
 have N0 := Fr.nil n0
 rw [ef_law m p0 p1 p2 p3]
 refine w_iconst X0 hx (hb hby at_0) (v := (1 : Int32)) rfl (pc' := 1) rfl ?_
 refine w_iloadN X0 hx (hb hby at_1) rfl (pc' := 2) rfl ?_
 refine w_ldcI X0 hx hZ hown (wd_0 hw) (hb hby at_2) (pc' := 4) rfl ?_
 refine w_iand X0 hx (hb hby at_4) (pc' := 5) rfl ?_
 refine w_iconst X0 hx (hb hby at_5) (v := (3 : Int32)) rfl (pc' := 6) rfl ?_
 refine w_irem X0 hx (hb hby at_6) (by decide : ¬ ((3 : Int32) = (0 : Int32))) (pc' := 7) rfl ?_
 refine w_iadd X0 hx (hb hby at_7) (pc' := 8) rfl ?_
 refine w_istore X0 hx (hb hby at_8) (L' := #[.val (.int p0), .val (.int p1), .val (.int p2), .val (.int p3), .val (.int ((1 : Int32) + ((p0 &&& (2147483647 : Int32)) % (3 : Int32)))), .unset, .unset, .unset, .unset, .unset, .unset]) rfl (pc' := 10) rfl ?_
 have hg20 : ¬ ((1 : Int32) + ((p0 &&& (2147483647 : Int32)) % (3 : Int32))) < 1 := (own_cnt _)
 generalize ((1 : Int32) + ((p0 &&& (2147483647 : Int32)) % (3 : Int32))) = cc at hg20 ⊢
 refine w_iloadN X0 hx (hb hby at_10) rfl (pc' := 11) rfl ?_
 refine w_staticS X0 hx (y := yn_1) hown (mvT hZ (wd_1 hw)) (mvT hZ (wd_2 hw)) (mvT hZ (wd_3 hw)) (mvT hZ (wd_4 hw)) (by decide) (backOfY (W := 0) (rm_m1_3 l Z aZ hw [] p1 G_COMPACT_STRINGS h0 n0 Z0 hP_7 S_COMPACT_STRINGS O0) hZ (wd_4 hw) (wd_3 hw) (by decide) (by decide) (own_EW hw) C0.1 sf0 all0) (by rw [hml]; rfl) [(.int p1)] (lenOf pd_6 rfl) rfl (Nat.le_of_eq rfl) (hb hby at_11) (fun _ _ => ⟨rfl, e0, (by decide : 0 + 6 ≤ _), (by decide : 0 + 12 ≤ _)⟩) (pc' := 14) rfl ?_
 rintro _ _ ⟨T21, L21, k21, n21⟩ XX21 hSS21 hg21 ⟨Lc21, hQ21, l21, y21, z21, A21⟩
 dsimp only [Pt.U, Pt.locs, Pt.cells, Pt.slots] at XX21 l21 y21 z21 hQ21 hSS21 hg21 A21 ⊢
 subst l21 y21 z21
 obtain ⟨X21, hS21, hZ21, hown21⟩ := rebS hS0 (Nat.le_refl _) XX21 hSS21 (e0 ▸ hg21) hZ hown
 obtain ⟨r_21, rfl, N21q, K21, g21_0, g21_1⟩ := hQ21
 have N22 := Fr.app N0 N21q
 have C23 : CHr Z EL s.vm h0 T21.vm T21.heap := C0.trans A21
 have K24 : Keep h0 T21.heap [] := (Keep.refl h0 []).trans K21 (all0 (P := fun x => x ∈ [] ∨ h0.size ≤ x))
 have ge25 : n0 ≤ r_21 := Nat.le_trans Z0 g21_0
 have sz26 : h0.size ≤ r_21 := Nat.le_trans (Nat.le_refl _) g21_0
 show Runs _ _ _ _ (T21.setTop (mkF m 14 #[.val (.int p0), .val (.int p1), .val (.int p2), .val (.int p3), .val (.int cc), .unset, .unset, .unset, .unset, .unset, .unset] [(.ref r_21)]))
 refine w_astore X21 hx (hb hby at_14) rfl (L' := #[.val (.int p0), .val (.int p1), .val (.int p2), .val (.int p3), .val (.int cc), .val (.ref r_21), .unset, .unset, .unset, .unset, .unset]) rfl (pc' := 16) rfl ?_
 refine w_iloadN X21 hx (hb hby at_16) rfl (pc' := 17) rfl ?_
 have f27 : Old Z n0 T21.heap := (O0.keep K21 all0)
 refine w_staticS X21 hx (y := yn_1) hown21 (mvT hZ21 (wd_1 hw)) (mvT hZ21 (wd_2 hw)) (mvT hZ21 (wd_3 hw)) (mvT hZ21 (wd_4 hw)) (by decide) (backOfY (W := 0) (rm_m1_3 l Z aZ hw [] p2 G_COMPACT_STRINGS T21.heap n0 (Nat.le_trans Z0 K21.1) hP_7 S_COMPACT_STRINGS f27) hZ21 (wd_4 hw) (wd_3 hw) (by decide) (by decide) (own_EW hw) C23.1 sf0 all0) (by rw [hml]; rfl) [(.int p2)] (lenOf pd_6 rfl) rfl (Nat.le_of_eq rfl) (hb hby at_17) (fun _ _ => ⟨rfl, rfl, (by decide : 6 + 6 ≤ _), (by decide : 12 + 12 ≤ _)⟩) (pc' := 20) rfl ?_
 rintro _ _ ⟨T28, L28, k28, n28⟩ XX28 hSS28 hg28 ⟨Lc28, hQ28, l28, y28, z28, A28⟩
 dsimp only [Pt.U, Pt.locs, Pt.cells, Pt.slots] at XX28 l28 y28 z28 hQ28 hSS28 hg28 A28 ⊢
 subst l28 y28 z28
 obtain ⟨X28, hS28, hZ28, hown28⟩ := rebS hS21 (Nat.le_refl _) XX28 hSS28 hg28 hZ21 hown21
 obtain ⟨r_28, rfl, N28q, K28, g28_0, g28_1⟩ := hQ28
 have N29 := Fr.app N22 N28q
 have C30 : CHr Z EL s.vm h0 T28.vm T28.heap := C23.trans A28
 have K31 : Keep h0 T28.heap [] := K24.trans K28 (all0 (P := fun x => x ∈ [] ∨ h0.size ≤ x))
 have ge32 : n0 ≤ r_28 := Nat.le_trans (Nat.le_trans Z0 K21.1) g28_0
 have sz33 : h0.size ≤ r_28 := Nat.le_trans K21.1 g28_0
 show Runs _ _ _ _ (T28.setTop (mkF m 20 #[.val (.int p0), .val (.int p1), .val (.int p2), .val (.int p3), .val (.int cc), .val (.ref r_21), .unset, .unset, .unset, .unset, .unset] [(.ref r_28)]))
 refine w_astore X28 hx (hb hby at_20) rfl (L' := #[.val (.int p0), .val (.int p1), .val (.int p2), .val (.int p3), .val (.int cc), .val (.ref r_21), .val (.ref r_28), .unset, .unset, .unset, .unset]) rfl (pc' := 22) rfl ?_
 refine w_iloadN X28 hx (hb hby at_22) rfl (pc' := 23) rfl ?_
 have f34 : Old Z n0 T28.heap := (f27.keep K28 all0)
 have le35 : h0.size ≤ T28.heap.size := (Nat.le_trans K21.1 K28.1)
 refine w_staticS X28 hx (y := yn_1) hown28 (mvT hZ28 (wd_1 hw)) (mvT hZ28 (wd_2 hw)) (mvT hZ28 (wd_3 hw)) (mvT hZ28 (wd_4 hw)) (by decide) (backOfY (W := 0) (rm_m1_3 l Z aZ hw [] p3 G_COMPACT_STRINGS T28.heap n0 (Nat.le_trans Z0 le35) hP_7 S_COMPACT_STRINGS f34) hZ28 (wd_4 hw) (wd_3 hw) (by decide) (by decide) (own_EW hw) C30.1 sf0 all0) (by rw [hml]; rfl) [(.int p3)] (lenOf pd_6 rfl) rfl (Nat.le_of_eq rfl) (hb hby at_23) (fun _ _ => ⟨rfl, rfl, (by decide : 12 + 6 ≤ _), (by decide : 24 + 12 ≤ _)⟩) (pc' := 26) rfl ?_
 rintro _ _ ⟨T36, L36, k36, n36⟩ XX36 hSS36 hg36 ⟨Lc36, hQ36, l36, y36, z36, A36⟩
 dsimp only [Pt.U, Pt.locs, Pt.cells, Pt.slots] at XX36 l36 y36 z36 hQ36 hSS36 hg36 A36 ⊢
 subst l36 y36 z36
 obtain ⟨X36, hS36, hZ36, hown36⟩ := rebS hS28 (Nat.le_refl _) XX36 hSS36 hg36 hZ28 hown28
 obtain ⟨r_36, rfl, N36q, K36, g36_0, g36_1⟩ := hQ36
 have N37 := Fr.app N29 N36q
 have C38 : CHr Z EL s.vm h0 T36.vm T36.heap := C30.trans A36
 have K39 : Keep h0 T36.heap [] := K31.trans K36 (all0 (P := fun x => x ∈ [] ∨ h0.size ≤ x))
 have ge40 : n0 ≤ r_36 := Nat.le_trans (Nat.le_trans Z0 le35) g36_0
 have sz41 : h0.size ≤ r_36 := Nat.le_trans le35 g36_0
 show Runs _ _ _ _ (T36.setTop (mkF m 26 #[.val (.int p0), .val (.int p1), .val (.int p2), .val (.int p3), .val (.int cc), .val (.ref r_21), .val (.ref r_28), .unset, .unset, .unset, .unset] [(.ref r_36)]))
 refine w_astore X36 hx (hb hby at_26) rfl (L' := #[.val (.int p0), .val (.int p1), .val (.int p2), .val (.int p3), .val (.int cc), .val (.ref r_21), .val (.ref r_28), .val (.ref r_36), .unset, .unset, .unset]) rfl (pc' := 28) rfl ?_
 refine w_new X36 hx hZ36 hown36 (wd_27 hw) (wd_28 hw) (wd_29 hw) rfl (hb hby at_28) (by decide) (by decide) (pc' := 31) rfl ?_
 intro T42 h42 b42 X42 e42 E42 g42 A42 D42
 have le44 : h0.size ≤ T36.heap.size := (Nat.le_trans le35 K36.1)
 have ge43 : n0 ≤ b42 := Nat.le_trans (Nat.le_trans Z0 le44) (Nat.le_of_eq g42.symm)
 have sz45 : h0.size ≤ b42 := Nat.le_trans le44 (Nat.le_of_eq g42.symm)
 have C46 : CHr Z EL s.vm h0 T36.vm h42 := C38.trans (CHr.ext E42 C38.1)
 have K47 : Keep h0 h42 [] := K39.ext E42
 have f48 : Fld Z h42 b42 kc5 "modCount" "I" (.int (0 : Int32)) := D42 (Or.inl (wd_47 hw)) (ty := .int) (by decide)
 have f49 : Fld Z h42 b42 kc1 "elementData" "[Ljava/lang/Object;" .null := D42 (Or.inl (wd_50 hw)) (ty := (.array (.object kc0))) (by decide)
 have f50 : Fld Z h42 b42 kc1 "size" "I" (.int (0 : Int32)) := D42 (Or.inl (wd_63 hw)) (ty := .int) (by decide)
 refine w_dup X42 hx (hb hby at_31) rfl (pc' := 32) rfl ?_
 have f51 : Old Z n0 h42 := ((f34.keep K36 all0).ext E42)
 have le52 : h0.size ≤ h42.size := (Nat.le_trans le44 E42.1)
 refine w_special X42 hx (y := yn_5) rfl hown36 (mvT hZ36 (wd_30 hw)) (mvT hZ36 (wd_31 hw)) (mvT hZ36 (wd_32 hw)) (by decide) (backOf (W := 1) (rm_m5_11 l Z aZ hw [] b42 G_DEFAULTCAPACITY_EMPTY_ELEMENTDATA h42 n0 (Nat.le_trans Z0 le52) A42 f48 f49 f50 ge43 S_DEFAULTCAPACITY_EMPTY_ELEMENTDATA f51) hZ36 (wd_32 hw) (wd_29 hw) (by decide) (by decide)) (by rw [hml]; rfl) [] (lenOf pd_7 rfl) rfl (Nat.le_of_eq rfl) (hb hby at_32) (fun _ _ => ⟨rfl, e42, (by decide : 19 + 0 ≤ _), (by decide : 39 + 0 ≤ _)⟩) (pc' := 35) rfl ?_
 rintro _ _ ⟨T53, L53, k53, n53⟩ X53 ⟨Lc53, hQ53, l53, y53, z53⟩
 dsimp only [Pt.U, Pt.locs, Pt.cells, Pt.slots] at X53 l53 y53 z53 hQ53 ⊢
 subst l53 y53 z53
 obtain ⟨rfl, N53q, K53, g53_0, g53_1, g53_2, g53_3⟩ := hQ53
 have N54 := Fr.app N37 N53q
 have C55 : CHr Z EL s.vm h0 T36.vm T53.heap := C46.trans (CHr.keep K53 (sfS (Safe.exa hZ36.alike A42 (by decide) (by decide)) sf0) C46.1)
 have K56 : Keep h0 T53.heap [] := K47.trans K53 (allS (Or.inr sz45) (all0 (P := fun x => x ∈ [] ∨ h0.size ≤ x)))
 show Runs _ _ _ _ (T53.setTop (mkF m 35 #[.val (.int p0), .val (.int p1), .val (.int p2), .val (.int p3), .val (.int cc), .val (.ref r_21), .val (.ref r_28), .val (.ref r_36), .unset, .unset, .unset] [(.ref b42)]))
 refine w_astore X53 hx (hb hby at_35) rfl (L' := #[.val (.int p0), .val (.int p1), .val (.int p2), .val (.int p3), .val (.int cc), .val (.ref r_21), .val (.ref r_28), .val (.ref r_36), .val (.ref b42), .unset, .unset]) rfl (pc' := 37) rfl ?_
 refine w_aload X53 hx (hb hby at_37) rfl rfl (pc' := 39) rfl ?_
 refine w_aload X53 hx (hb hby at_39) rfl rfl (pc' := 41) rfl ?_
 have ne57 : G_DEFAULTCAPACITY_EMPTY_ELEMENTDATA ≠ b42 := (Nat.ne_of_lt (Nat.lt_of_lt_of_le E_G_DEFAULTCAPACITY_EMPTY_ELEMENTDATA.lt (Nat.le_trans le44 (Nat.le_of_eq g42.symm))))
 have f58 : Arv Z T53.heap G_DEFAULTCAPACITY_EMPTY_ELEMENTDATA k_G_DEFAULTCAPACITY_EMPTY_ELEMENTDATA (.object kc0) (0 : Int32) [] .null := (((((V_G_DEFAULTCAPACITY_EMPTY_ELEMENTDATA.keep K21 nin0).keep K28 nin0).keep K36 nin0).ext E42).keep K53 (ninS ne57 nin0))
 have f59 : Exa Z T53.heap r_21 kc2 := ((((g21_1.keep K28).keep K36).ext E42).keep K53)
 have f60 : Old Z n0 T53.heap := (f51.keep K53 (allS ge43 all0))
 have le61 : h0.size ≤ T53.heap.size := (Nat.le_trans le52 K53.1)
 obtain ⟨cq62, kq62, q62a, q62b, q62c⟩ := isOf hZ36 rfl g53_0
 refine w_interface X53 hx (xi := (⟨"java/util/List", "add", "(Ljava/lang/Object;)Z"⟩ : MethodName)) (y := yn_8) hown36 (mvT hZ36 (wd_51 hw)) (mvT hZ36 (wd_52 hw)) (mvT hZ36 (wd_53 hw)) (mvT hZ36 (wd_54 hw)) (mvT hZ36 (wd_55 hw)) (mvT hZ36 (wd_56 hw)) (mvT hZ36 (wd_57 hw)) (mvT hZ36 (wd_58 hw)) (by decide) (backOf (W := 0) (rm_m8_14 l Z aZ hw [] b42 r_21 G_DEFAULTCAPACITY_EMPTY_ELEMENTDATA k_G_DEFAULTCAPACITY_EMPTY_ELEMENTDATA T53.heap n0 (Nat.le_trans Z0 le61) g53_1 g53_0 ge43 g53_2 g53_3 f58 f59 S_DEFAULTCAPACITY_EMPTY_ELEMENTDATA f60) hZ36 (wd_59 hw) (wd_29 hw) (by decide) (by decide)) q62a q62b q62c (by rw [hml]; rfl) [(.ref r_21)] (lenOf pd_12 rfl) rfl (Nat.le_of_eq rfl) (hb hby at_41) (fun _ _ => ⟨rfl, rfl, (by decide : 19 + 1 ≤ _), (by decide : 39 + 10 ≤ _)⟩) (pc' := 46) rfl ?_
 rintro _ _ ⟨T62, L62, k62, n62⟩ X62 ⟨Lc62, hQ62, l62, y62, z62⟩
 dsimp only [Pt.U, Pt.locs, Pt.cells, Pt.slots] at X62 l62 y62 z62 hQ62 ⊢
 subst l62 y62 z62
 obtain ⟨r0_62, c0_62, rfl, N62q, K62, g62_0, g62_1, g62_2, g62_3, g62_4, g62_5, g62_6, g62_7⟩ := hQ62
 have N63 := Fr.app N54 N62q
 have C64 : CHr Z EL s.vm h0 T36.vm T62.heap := C55.trans (CHr.keep K62 (sfS (Safe.exa hZ36.alike g53_0 (by decide) (by decide)) sf0) C55.1)
 have K65 : Keep h0 T62.heap [] := K56.trans K62 (allS (Or.inr sz45) (all0 (P := fun x => x ∈ [] ∨ h0.size ≤ x)))
 have ge66 : n0 ≤ r0_62 := Nat.le_trans (Nat.le_trans Z0 le61) g62_0
 have sz67 : h0.size ≤ r0_62 := Nat.le_trans le61 g62_0
 show Runs _ _ _ _ (T62.setTop (mkF m 46 #[.val (.int p0), .val (.int p1), .val (.int p2), .val (.int p3), .val (.int cc), .val (.ref r_21), .val (.ref r_28), .val (.ref r_36), .val (.ref b42), .unset, .unset] [(.int (1 : Int32))]))
 refine w_pop X62 hx (hb hby at_46) rfl (pc' := 47) rfl ?_
 refine w_iload X62 hx (hb hby at_47) rfl (pc' := 49) rfl ?_
 refine w_iconst X62 hx (hb hby at_49) (v := (2 : Int32)) rfl (pc' := 50) rfl ?_
 by_cases hc68 : cc < (2 : Int32)
 · refine w_icY X62 hx (hb hby at_50) (tlt hc68).1 (pc' := 63) (by decide) (by decide) ?_
   refine w_iload X62 hx (hb hby at_63) rfl (pc' := 65) rfl ?_
   refine w_iconst X62 hx (hb hby at_65) (v := (3 : Int32)) rfl (pc' := 66) rfl ?_
   refine w_icY X62 hx (hb hby at_66) (tlt (own_c23 hc68)).1 (pc' := 79) (by decide) (by decide) ?_
   refine w_new X62 hx hZ36 hown36 (wd_86 hw) (wd_87 hw) (wd_88 hw) rfl (hb hby at_79) (by decide) (by decide) (pc' := 82) rfl ?_
   intro T69 h69 b69 X69 e69 E69 g69 A69 D69
   have le71 : h0.size ≤ T62.heap.size := (Nat.le_trans le61 K62.1)
   have ge70 : n0 ≤ b69 := Nat.le_trans (Nat.le_trans Z0 le71) (Nat.le_of_eq g69.symm)
   have sz72 : h0.size ≤ b69 := Nat.le_trans le71 (Nat.le_of_eq g69.symm)
   have C73 : CHr Z EL s.vm h0 T36.vm h69 := C64.trans (CHr.ext E69 C64.1)
   have K74 : Keep h0 h69 [] := K65.ext E69
   have f75 : Fld Z h69 b69 kc6 "parts" "Ljava/util/List;" .null := D69 (Or.inr (wd_185 hw)) (ty := (.object "java/util/List")) (by decide)
   refine w_dup X69 hx (hb hby at_82) rfl (pc' := 83) rfl ?_
   refine w_aload X69 hx (hb hby at_83) rfl rfl (pc' := 85) rfl ?_
   have f76 : Exa Z h69 b42 kc1 := (g62_4.ext E69)
   have f77 : Fld Z h69 b42 kc1 "size" "I" (.int (1 : Int32)) := (g62_6.ext E69)
   have f78 : Fld Z h69 b42 kc1 "elementData" "[Ljava/lang/Object;" (.ref r0_62) := (g62_5.ext E69)
   have f79 : Exa Z h69 r0_62 "[Ljava/lang/Object;" := (g62_2.ext E69)
   have f80 : Arv Z h69 r0_62 c0_62 (.object kc0) (10 : Int32) [(.ref r_21), .null, .null, .null, .null, .null, .null, .null, .null, .null] .null := (g62_1.ext E69)
   have f81 : Exa Z h69 r_21 kc2 := ((f59.keep K62).ext E69)
   have f82 : Old Z n0 h69 := ((f60.keep K62 (allS ge43 all0)).ext E69)
   have le83 : h0.size ≤ h69.size := (Nat.le_trans le71 E69.1)
   refine w_special X69 hx (y := yn_13) rfl hown36 (mvT hZ36 (wd_89 hw)) (mvT hZ36 (wd_90 hw)) (mvT hZ36 (wd_91 hw)) (by decide) (backOf (W := 1) (rm_m13_19 l Z aZ hw [] b69 b42 r0_62 c0_62 r_21 mr__Ljava_lang_Object_ G_EMPTY h69 n0 (Nat.le_trans Z0 le83) f76 f77 f78 f79 f80 f81 MI_mr__Ljava_lang_Object_ S_EMPTY f82 A69 f75 ge70) hZ36 (wd_91 hw) (wd_88 hw) (by decide) (by decide)) (by rw [hml]; rfl) [(.ref b42)] (lenOf pd_20 rfl) rfl (Nat.le_of_eq rfl) (hb hby at_85) (fun _ _ => ⟨rfl, e69, (by decide : 21 + 2 ≤ _), (by decide : 50 + 3 ≤ _)⟩) (pc' := 88) rfl ?_
   rintro _ _ ⟨T84, L84, k84, n84⟩ X84 ⟨Lc84, hQ84, l84, y84, z84⟩
   dsimp only [Pt.U, Pt.locs, Pt.cells, Pt.slots] at X84 l84 y84 z84 hQ84 ⊢
   subst l84 y84 z84
   obtain ⟨r0_84, rfl, N84q, K84, g84_0, g84_1, g84_2, g84_3, g84_4, g84_5⟩ := hQ84
   have N85 := Fr.app N63 N84q
   have C86 : CHr Z EL s.vm h0 T36.vm T84.heap := C73.trans (CHr.keep K84 (sfS (Safe.exa hZ36.alike A69 (by decide) (by decide)) sf0) C73.1)
   have K87 : Keep h0 T84.heap [] := K74.trans K84 (allS (Or.inr sz72) (all0 (P := fun x => x ∈ [] ∨ h0.size ≤ x)))
   have ge88 : n0 ≤ r0_84 := Nat.le_trans (Nat.le_trans Z0 le83) g84_0
   have sz89 : h0.size ≤ r0_84 := Nat.le_trans le83 g84_0
   show Runs _ _ _ _ (T84.setTop (mkF m 88 #[.val (.int p0), .val (.int p1), .val (.int p2), .val (.int p3), .val (.int cc), .val (.ref r_21), .val (.ref r_28), .val (.ref r_36), .val (.ref b42), .unset, .unset] [(.ref b69)]))
   refine w_astore X84 hx (hb hby at_88) rfl (L' := #[.val (.int p0), .val (.int p1), .val (.int p2), .val (.int p3), .val (.int cc), .val (.ref r_21), .val (.ref r_28), .val (.ref r_36), .val (.ref b42), .val (.ref b69), .unset]) rfl (pc' := 90) rfl ?_
   refine w_iload X84 hx (hb hby at_90) rfl (pc' := 92) rfl ?_
   refine w_iconst X84 hx (hb hby at_92) (v := (1 : Int32)) rfl (pc' := 93) rfl ?_
   refine w_icN X84 hx (hb hby at_93) (teq (own_cis1 hg20 hc68)).2 (pc' := 96) rfl ?_
   refine w_aload X84 hx (hb hby at_96) rfl rfl (pc' := 98) rfl ?_
   refine w_goto X84 hx (hb hby at_98) (pc' := 114) (by decide) (by decide) ?_
   refine w_astore X84 hx (hb hby at_114) rfl (L' := #[.val (.int p0), .val (.int p1), .val (.int p2), .val (.int p3), .val (.int cc), .val (.ref r_21), .val (.ref r_28), .val (.ref r_36), .val (.ref b42), .val (.ref b69), .val (.ref r_21)]) rfl (pc' := 116) rfl ?_
   refine w_aload X84 hx (hb hby at_116) rfl rfl (pc' := 118) rfl ?_
   have f90 : Old Z n0 T84.heap := (f82.keep K84 (allS ge70 all0))
   have f91 : Exa Z T84.heap r_21 kc2 := (f81.keep K84)
   have le92 : h0.size ≤ T84.heap.size := (Nat.le_trans le83 K84.1)
   obtain ⟨cq93, kq93, q93a, q93b, q93c⟩ := isOf hZ36 rfl g84_4
   refine w_virtual X84 hx (y := yn_27) (z := yn_27) hown36 (mvT hZ36 (wd_186 hw)) (mvT hZ36 (wd_187 hw)) (notFace_of_selects (args := #[]) (mvT hZ36 (wd_189 hw))) (mvT hZ36 (wd_189 hw)) (mvT hZ36 (wd_188 hw)) (by decide) (backOf (W := 0) (rm_m27_33 l Z aZ hw [] b69 r0_84 G_EMPTY r_21 T84.heap n0 (Nat.le_trans Z0 le92) g84_5 g84_1 g84_3 S_EMPTY f90 g84_2 f91) hZ36 (wd_190 hw) (wd_88 hw) (by decide) (by decide)) q93a q93c (by rw [hml]; rfl) [] (lenOf pd_23 rfl) rfl (Nat.le_of_eq rfl) (hb hby at_118) (fun _ _ => ⟨rfl, rfl, (by decide : 23 + 0 ≤ _), (by decide : 53 + 0 ≤ _)⟩) (pc' := 121) rfl ?_
   rintro _ _ ⟨T93, L93, k93, n93⟩ X93 ⟨Lc93, hQ93, l93, y93, z93⟩
   dsimp only [Pt.U, Pt.locs, Pt.cells, Pt.slots] at X93 l93 y93 z93 hQ93 ⊢
   subst l93 y93 z93
   obtain ⟨rfl, N93q, e93⟩ := hQ93
   have N94 := Fr.app N85 N93q
   show Runs _ _ _ _ (T93.setTop (mkF m 121 #[.val (.int p0), .val (.int p1), .val (.int p2), .val (.int p3), .val (.int cc), .val (.ref r_21), .val (.ref r_28), .val (.ref r_36), .val (.ref b42), .val (.ref b69), .val (.ref r_21)] [(.ref r_21)]))
   refine w_aload X93 hx (hb hby at_121) rfl rfl (pc' := 123) rfl ?_
   obtain ⟨cq95, kq95, q95a, q95b, q95c⟩ := isOf hZ36 e93 f91
   refine w_virtual X93 hx (y := yn_30) (z := yn_30) hown36 (mvT hZ36 (wd_209 hw)) (mvT hZ36 (wd_210 hw)) (notFace_of_selects (args := #[]) (mvT hZ36 (wd_212 hw))) (mvT hZ36 (wd_212 hw)) (mvT hZ36 (wd_211 hw)) (by decide) (backOf (W := 0) (rm_m30_36 l Z aZ hw [] r_21 T84.heap n0 (Nat.le_trans Z0 le92) ) hZ36 (wd_213 hw) (wd_7 hw) (by decide) (by decide)) q95a q95c (by rw [hml]; rfl) [(.ref r_21)] (lenOf pd_12 rfl) rfl (Nat.le_of_eq rfl) (hb hby at_123) (fun _ _ => ⟨rfl, e93, (by decide : 23 + 0 ≤ _), (by decide : 53 + 0 ≤ _)⟩) (pc' := 126) rfl ?_
   rintro _ _ ⟨T95, L95, k95, n95⟩ X95 ⟨Lc95, hQ95, l95, y95, z95⟩
   dsimp only [Pt.U, Pt.locs, Pt.cells, Pt.slots] at X95 l95 y95 z95 hQ95 ⊢
   subst l95 y95 z95
   obtain ⟨rfl, N95q, e95⟩ := hQ95
   have N96 := Fr.app N94 N95q
   show Runs _ _ _ _ (T95.setTop (mkF m 126 #[.val (.int p0), .val (.int p1), .val (.int p2), .val (.int p3), .val (.int cc), .val (.ref r_21), .val (.ref r_28), .val (.ref r_36), .val (.ref b42), .val (.ref b69), .val (.ref r_21)] [(.int (1 : Int32))]))
   have le97 : T36.heap.size ≤ T53.heap.size := (Nat.le_trans E42.1 K53.1)
   have le98 : T36.heap.size ≤ T62.heap.size := (Nat.le_trans le97 K62.1)
   have le99 : T36.heap.size ≤ h69.size := (Nat.le_trans le98 E69.1)
   have le100 : T36.heap.size ≤ T84.heap.size := (Nat.le_trans le99 K84.1)
   exact w_doneH X95 hlk (v := some (.int (1 : Int32))) e95 hh hZ36 (own_EW hw) hS36 (Nat.le_trans (Nat.le_refl _) le100) C86 (fun h => by rw [hret] at h; cases h) (fun fs hr => retN X95 hx (t := .boolean) hret (by simp) (hb hby at_126) hr) (by decide) (by decide) (fun hsy => ⟨rfl, N96⟩)
 · refine w_icN X62 hx (hb hby at_50) (flt hc68).1 (pc' := 53) rfl ?_
   refine w_aload X62 hx (hb hby at_53) rfl rfl (pc' := 55) rfl ?_
   refine w_aload X62 hx (hb hby at_55) rfl rfl (pc' := 57) rfl ?_
   have f101 : Exa Z T62.heap r_28 kc2 := ((((g28_1.keep K36).ext E42).keep K53).keep K62)
   have le102 : h0.size ≤ T62.heap.size := (Nat.le_trans le61 K62.1)
   obtain ⟨cq103, kq103, q103a, q103b, q103c⟩ := isOf hZ36 rfl g62_4
   refine w_interface X62 hx (xi := (⟨"java/util/List", "add", "(Ljava/lang/Object;)Z"⟩ : MethodName)) (y := yn_8) hown36 (mvT hZ36 (wd_51 hw)) (mvT hZ36 (wd_52 hw)) (mvT hZ36 (wd_53 hw)) (mvT hZ36 (wd_54 hw)) (mvT hZ36 (wd_55 hw)) (mvT hZ36 (wd_56 hw)) (mvT hZ36 (wd_57 hw)) (mvT hZ36 (wd_58 hw)) (by decide) (backOf (W := 0) (rm_m8_37 l Z aZ hw [] b42 r_28 r0_62 c0_62 r_21 T62.heap n0 (Nat.le_trans Z0 le102) g62_3 g62_4 ge43 g62_5 g62_6 g62_1 g62_7 f101 ge66) hZ36 (wd_59 hw) (wd_29 hw) (by decide) (by decide)) q103a q103b q103c (by rw [hml]; rfl) [(.ref r_28)] (lenOf pd_12 rfl) rfl (Nat.le_of_eq rfl) (hb hby at_57) (fun _ _ => ⟨rfl, rfl, (by decide : 20 + 0 ≤ _), (by decide : 49 + 0 ≤ _)⟩) (pc' := 62) rfl ?_
   rintro _ _ ⟨T103, L103, k103, n103⟩ X103 ⟨Lc103, hQ103, l103, y103, z103⟩
   dsimp only [Pt.U, Pt.locs, Pt.cells, Pt.slots] at X103 l103 y103 z103 hQ103 ⊢
   subst l103 y103 z103
   obtain ⟨rfl, N103q, K103, g103_0, g103_1, g103_2, g103_3, g103_4⟩ := hQ103
   have N104 := Fr.app N63 N103q
   have C105 : CHr Z EL s.vm h0 T36.vm T103.heap := C64.trans (CHr.keep K103 (sfS (Safe.exa hZ36.alike g62_4 (by decide) (by decide)) (sfS (Safe.exa hZ36.alike g62_2 (by decide) (by decide)) sf0)) C64.1)
   have K106 : Keep h0 T103.heap [] := K65.trans K103 (allS (Or.inr sz45) (allS (Or.inr sz67) (all0 (P := fun x => x ∈ [] ∨ h0.size ≤ x))))
   show Runs _ _ _ _ (T103.setTop (mkF m 62 #[.val (.int p0), .val (.int p1), .val (.int p2), .val (.int p3), .val (.int cc), .val (.ref r_21), .val (.ref r_28), .val (.ref r_36), .val (.ref b42), .unset, .unset] [(.int (1 : Int32))]))
   refine w_pop X103 hx (hb hby at_62) rfl (pc' := 63) rfl ?_
   refine w_iload X103 hx (hb hby at_63) rfl (pc' := 65) rfl ?_
   refine w_iconst X103 hx (hb hby at_65) (v := (3 : Int32)) rfl (pc' := 66) rfl ?_
   by_cases hc107 : cc < (3 : Int32)
   · refine w_icY X103 hx (hb hby at_66) (tlt hc107).1 (pc' := 79) (by decide) (by decide) ?_
     refine w_new X103 hx hZ36 hown36 (wd_86 hw) (wd_87 hw) (wd_88 hw) rfl (hb hby at_79) (by decide) (by decide) (pc' := 82) rfl ?_
     intro T108 h108 b108 X108 e108 E108 g108 A108 D108
     have le110 : h0.size ≤ T103.heap.size := (Nat.le_trans le102 K103.1)
     have ge109 : n0 ≤ b108 := Nat.le_trans (Nat.le_trans Z0 le110) (Nat.le_of_eq g108.symm)
     have sz111 : h0.size ≤ b108 := Nat.le_trans le110 (Nat.le_of_eq g108.symm)
     have C112 : CHr Z EL s.vm h0 T36.vm h108 := C105.trans (CHr.ext E108 C105.1)
     have K113 : Keep h0 h108 [] := K106.ext E108
     have f114 : Fld Z h108 b108 kc6 "parts" "Ljava/util/List;" .null := D108 (Or.inr (wd_185 hw)) (ty := (.object "java/util/List")) (by decide)
     refine w_dup X108 hx (hb hby at_82) rfl (pc' := 83) rfl ?_
     refine w_aload X108 hx (hb hby at_83) rfl rfl (pc' := 85) rfl ?_
     have f116 : Exa Z h108 b42 kc1 := (g103_1.ext E108)
     have f117 : Fld Z h108 b42 kc1 "size" "I" (.int (2 : Int32)) := (g103_3.ext E108)
     have f118 : Fld Z h108 b42 kc1 "elementData" "[Ljava/lang/Object;" (.ref r0_62) := (g103_2.ext E108)
     have f119 : Exa Z h108 r0_62 "[Ljava/lang/Object;" := ((g62_2.keep K103).ext E108)
     have f120 : Arv Z h108 r0_62 c0_62 (.object kc0) (10 : Int32) [(.ref r_21), (.ref r_28), .null, .null, .null, .null, .null, .null, .null, .null] .null := (g103_4.ext E108)
     have f121 : Exa Z h108 r_21 kc2 := (((f59.keep K62).keep K103).ext E108)
     have f122 : Exa Z h108 r_28 kc2 := ((f101.keep K103).ext E108)
     have le123 : h0.size ≤ h108.size := (Nat.le_trans le110 E108.1)
     refine w_special X108 hx (y := yn_13) rfl hown36 (mvT hZ36 (wd_89 hw)) (mvT hZ36 (wd_90 hw)) (mvT hZ36 (wd_91 hw)) (by decide) (backOf (W := 1) (rm_m13_39 l Z aZ hw [] b108 b42 r0_62 c0_62 r_21 r_28 mr__Ljava_lang_Object_ h108 n0 (Nat.le_trans Z0 le123) f116 f117 f118 f119 f120 f121 f122 MI_mr__Ljava_lang_Object_ A108 f114 ge109) hZ36 (wd_91 hw) (wd_88 hw) (by decide) (by decide)) (by rw [hml]; rfl) [(.ref b42)] (lenOf pd_20 rfl) rfl (Nat.le_of_eq rfl) (hb hby at_85) (fun _ _ => ⟨rfl, e108, (by decide : 21 + 2 ≤ _), (by decide : 50 + 4 ≤ _)⟩) (pc' := 88) rfl ?_
     rintro _ _ ⟨T124, L124, k124, n124⟩ X124 ⟨Lc124, hQ124, l124, y124, z124⟩
     dsimp only [Pt.U, Pt.locs, Pt.cells, Pt.slots] at X124 l124 y124 z124 hQ124 ⊢
     subst l124 y124 z124
     obtain ⟨r0_124, rfl, N124q, K124, g124_0, g124_1, g124_2, g124_3, g124_4, g124_5⟩ := hQ124
     have N125 := Fr.app N104 N124q
     have C126 : CHr Z EL s.vm h0 T36.vm T124.heap := C112.trans (CHr.keep K124 (sfS (Safe.exa hZ36.alike A108 (by decide) (by decide)) sf0) C112.1)
     have K127 : Keep h0 T124.heap [] := K113.trans K124 (allS (Or.inr sz111) (all0 (P := fun x => x ∈ [] ∨ h0.size ≤ x)))
     have ge128 : n0 ≤ r0_124 := Nat.le_trans (Nat.le_trans Z0 le123) g124_0
     have sz129 : h0.size ≤ r0_124 := Nat.le_trans le123 g124_0
     show Runs _ _ _ _ (T124.setTop (mkF m 88 #[.val (.int p0), .val (.int p1), .val (.int p2), .val (.int p3), .val (.int cc), .val (.ref r_21), .val (.ref r_28), .val (.ref r_36), .val (.ref b42), .unset, .unset] [(.ref b108)]))
     refine w_astore X124 hx (hb hby at_88) rfl (L' := #[.val (.int p0), .val (.int p1), .val (.int p2), .val (.int p3), .val (.int cc), .val (.ref r_21), .val (.ref r_28), .val (.ref r_36), .val (.ref b42), .val (.ref b108), .unset]) rfl (pc' := 90) rfl ?_
     refine w_iload X124 hx (hb hby at_90) rfl (pc' := 92) rfl ?_
     refine w_iconst X124 hx (hb hby at_92) (v := (1 : Int32)) rfl (pc' := 93) rfl ?_
     refine w_icY X124 hx (hb hby at_93) (feq (fun q => by have h9 := hc68; rw [q] at h9; exact absurd h9 (by decide))).2 (pc' := 101) (by decide) (by decide) ?_
     refine w_iload X124 hx (hb hby at_101) rfl (pc' := 103) rfl ?_
     refine w_iconst X124 hx (hb hby at_103) (v := (2 : Int32)) rfl (pc' := 104) rfl ?_
     refine w_icN X124 hx (hb hby at_104) (teq (own_cis2 hc68 hc107)).2 (pc' := 107) rfl ?_
     refine w_aload X124 hx (hb hby at_107) rfl rfl (pc' := 109) rfl ?_
     refine w_goto X124 hx (hb hby at_109) (pc' := 114) (by decide) (by decide) ?_
     refine w_astore X124 hx (hb hby at_114) rfl (L' := #[.val (.int p0), .val (.int p1), .val (.int p2), .val (.int p3), .val (.int cc), .val (.ref r_21), .val (.ref r_28), .val (.ref r_36), .val (.ref b42), .val (.ref b108), .val (.ref r_28)]) rfl (pc' := 116) rfl ?_
     refine w_aload X124 hx (hb hby at_116) rfl rfl (pc' := 118) rfl ?_
     have f130 : Old Z n0 T124.heap := ((((f60.keep K62 (allS ge43 all0)).keep K103 (allS ge43 (allS ge66 all0))).ext E108).keep K124 (allS ge109 all0))
     have f131 : Exa Z T124.heap r_28 kc2 := (f122.keep K124)
     have ne132 : G_EMPTY ≠ r_28 := (Nat.ne_of_lt (Nat.lt_of_lt_of_le E_G_EMPTY.lt (Nat.le_trans K21.1 g28_0)))
     have le133 : h0.size ≤ T124.heap.size := (Nat.le_trans le123 K124.1)
     obtain ⟨cq134, kq134, q134a, q134b, q134c⟩ := isOf hZ36 rfl g124_4
     refine w_virtual X124 hx (y := yn_27) (z := yn_27) hown36 (mvT hZ36 (wd_186 hw)) (mvT hZ36 (wd_187 hw)) (notFace_of_selects (args := #[]) (mvT hZ36 (wd_189 hw))) (mvT hZ36 (wd_189 hw)) (mvT hZ36 (wd_188 hw)) (by decide) (backOf (W := 0) (rm_m27_49 l Z aZ hw [] b108 r0_124 r_28 G_EMPTY T124.heap n0 (Nat.le_trans Z0 le133) g124_5 g124_1 g124_3 S_EMPTY f130 (Ne.symm ne132) f131) hZ36 (wd_190 hw) (wd_88 hw) (by decide) (by decide)) q134a q134c (by rw [hml]; rfl) [] (lenOf pd_23 rfl) rfl (Nat.le_of_eq rfl) (hb hby at_118) (fun _ _ => ⟨rfl, rfl, (by decide : 23 + 0 ≤ _), (by decide : 54 + 0 ≤ _)⟩) (pc' := 121) rfl ?_
     rintro _ _ ⟨T134, L134, k134, n134⟩ X134 ⟨Lc134, hQ134, l134, y134, z134⟩
     dsimp only [Pt.U, Pt.locs, Pt.cells, Pt.slots] at X134 l134 y134 z134 hQ134 ⊢
     subst l134 y134 z134
     obtain ⟨rfl, N134q, e134⟩ := hQ134
     have N135 := Fr.app N125 N134q
     show Runs _ _ _ _ (T134.setTop (mkF m 121 #[.val (.int p0), .val (.int p1), .val (.int p2), .val (.int p3), .val (.int cc), .val (.ref r_21), .val (.ref r_28), .val (.ref r_36), .val (.ref b42), .val (.ref b108), .val (.ref r_28)] [(.ref r_28)]))
     refine w_aload X134 hx (hb hby at_121) rfl rfl (pc' := 123) rfl ?_
     obtain ⟨cq136, kq136, q136a, q136b, q136c⟩ := isOf hZ36 e134 f131
     refine w_virtual X134 hx (y := yn_30) (z := yn_30) hown36 (mvT hZ36 (wd_209 hw)) (mvT hZ36 (wd_210 hw)) (notFace_of_selects (args := #[]) (mvT hZ36 (wd_212 hw))) (mvT hZ36 (wd_212 hw)) (mvT hZ36 (wd_211 hw)) (by decide) (backOf (W := 0) (rm_m30_36 l Z aZ hw [] r_28 T124.heap n0 (Nat.le_trans Z0 le133) ) hZ36 (wd_213 hw) (wd_7 hw) (by decide) (by decide)) q136a q136c (by rw [hml]; rfl) [(.ref r_28)] (lenOf pd_12 rfl) rfl (Nat.le_of_eq rfl) (hb hby at_123) (fun _ _ => ⟨rfl, e134, (by decide : 23 + 0 ≤ _), (by decide : 54 + 0 ≤ _)⟩) (pc' := 126) rfl ?_
     rintro _ _ ⟨T136, L136, k136, n136⟩ X136 ⟨Lc136, hQ136, l136, y136, z136⟩
     dsimp only [Pt.U, Pt.locs, Pt.cells, Pt.slots] at X136 l136 y136 z136 hQ136 ⊢
     subst l136 y136 z136
     obtain ⟨rfl, N136q, e136⟩ := hQ136
     have N137 := Fr.app N135 N136q
     show Runs _ _ _ _ (T136.setTop (mkF m 126 #[.val (.int p0), .val (.int p1), .val (.int p2), .val (.int p3), .val (.int cc), .val (.ref r_21), .val (.ref r_28), .val (.ref r_36), .val (.ref b42), .val (.ref b108), .val (.ref r_28)] [(.int (1 : Int32))]))
     have le138 : T36.heap.size ≤ T53.heap.size := (Nat.le_trans E42.1 K53.1)
     have le139 : T36.heap.size ≤ T62.heap.size := (Nat.le_trans le138 K62.1)
     have le140 : T36.heap.size ≤ T103.heap.size := (Nat.le_trans le139 K103.1)
     have le141 : T36.heap.size ≤ h108.size := (Nat.le_trans le140 E108.1)
     have le142 : T36.heap.size ≤ T124.heap.size := (Nat.le_trans le141 K124.1)
     exact w_doneH X136 hlk (v := some (.int (1 : Int32))) e136 hh hZ36 (own_EW hw) hS36 (Nat.le_trans (Nat.le_refl _) le142) C126 (fun h => by rw [hret] at h; cases h) (fun fs hr => retN X136 hx (t := .boolean) hret (by simp) (hb hby at_126) hr) (by decide) (by decide) (fun hsy => ⟨rfl, N137⟩)
   · refine w_icN X103 hx (hb hby at_66) (flt hc107).1 (pc' := 69) rfl ?_
     refine w_aload X103 hx (hb hby at_69) rfl rfl (pc' := 71) rfl ?_
     refine w_aload X103 hx (hb hby at_71) rfl rfl (pc' := 73) rfl ?_
     have f143 : Exa Z T103.heap r_36 kc2 := ((((g36_1.ext E42).keep K53).keep K62).keep K103)
     have le144 : h0.size ≤ T103.heap.size := (Nat.le_trans le102 K103.1)
     obtain ⟨cq145, kq145, q145a, q145b, q145c⟩ := isOf hZ36 rfl g103_1
     refine w_interface X103 hx (xi := (⟨"java/util/List", "add", "(Ljava/lang/Object;)Z"⟩ : MethodName)) (y := yn_8) hown36 (mvT hZ36 (wd_51 hw)) (mvT hZ36 (wd_52 hw)) (mvT hZ36 (wd_53 hw)) (mvT hZ36 (wd_54 hw)) (mvT hZ36 (wd_55 hw)) (mvT hZ36 (wd_56 hw)) (mvT hZ36 (wd_57 hw)) (mvT hZ36 (wd_58 hw)) (by decide) (backOf (W := 0) (rm_m8_52 l Z aZ hw [] b42 r_36 r0_62 c0_62 r_21 r_28 T103.heap n0 (Nat.le_trans Z0 le144) g103_0 g103_1 ge43 g103_2 g103_3 g103_4 g62_7 f143 ge66) hZ36 (wd_59 hw) (wd_29 hw) (by decide) (by decide)) q145a q145b q145c (by rw [hml]; rfl) [(.ref r_36)] (lenOf pd_12 rfl) rfl (Nat.le_of_eq rfl) (hb hby at_73) (fun _ _ => ⟨rfl, rfl, (by decide : 20 + 0 ≤ _), (by decide : 49 + 0 ≤ _)⟩) (pc' := 78) rfl ?_
     rintro _ _ ⟨T145, L145, k145, n145⟩ X145 ⟨Lc145, hQ145, l145, y145, z145⟩
     dsimp only [Pt.U, Pt.locs, Pt.cells, Pt.slots] at X145 l145 y145 z145 hQ145 ⊢
     subst l145 y145 z145
     obtain ⟨rfl, N145q, K145, g145_0, g145_1, g145_2, g145_3, g145_4⟩ := hQ145
     have N146 := Fr.app N104 N145q
     have f147 : Exa Z T103.heap r0_62 "[Ljava/lang/Object;" := (g62_2.keep K103)
     have C148 : CHr Z EL s.vm h0 T36.vm T145.heap := C105.trans (CHr.keep K145 (sfS (Safe.exa hZ36.alike g103_1 (by decide) (by decide)) (sfS (Safe.exa hZ36.alike f147 (by decide) (by decide)) sf0)) C105.1)
     have K149 : Keep h0 T145.heap [] := K106.trans K145 (allS (Or.inr sz45) (allS (Or.inr sz67) (all0 (P := fun x => x ∈ [] ∨ h0.size ≤ x))))
     show Runs _ _ _ _ (T145.setTop (mkF m 78 #[.val (.int p0), .val (.int p1), .val (.int p2), .val (.int p3), .val (.int cc), .val (.ref r_21), .val (.ref r_28), .val (.ref r_36), .val (.ref b42), .unset, .unset] [(.int (1 : Int32))]))
     refine w_pop X145 hx (hb hby at_78) rfl (pc' := 79) rfl ?_
     refine w_new X145 hx hZ36 hown36 (wd_86 hw) (wd_87 hw) (wd_88 hw) rfl (hb hby at_79) (by decide) (by decide) (pc' := 82) rfl ?_
     intro T150 h150 b150 X150 e150 E150 g150 A150 D150
     have le152 : h0.size ≤ T145.heap.size := (Nat.le_trans le144 K145.1)
     have ge151 : n0 ≤ b150 := Nat.le_trans (Nat.le_trans Z0 le152) (Nat.le_of_eq g150.symm)
     have sz153 : h0.size ≤ b150 := Nat.le_trans le152 (Nat.le_of_eq g150.symm)
     have C154 : CHr Z EL s.vm h0 T36.vm h150 := C148.trans (CHr.ext E150 C148.1)
     have K155 : Keep h0 h150 [] := K149.ext E150
     have f156 : Fld Z h150 b150 kc6 "parts" "Ljava/util/List;" .null := D150 (Or.inr (wd_185 hw)) (ty := (.object "java/util/List")) (by decide)
     refine w_dup X150 hx (hb hby at_82) rfl (pc' := 83) rfl ?_
     refine w_aload X150 hx (hb hby at_83) rfl rfl (pc' := 85) rfl ?_
     have f159 : Exa Z h150 b42 kc1 := (g145_1.ext E150)
     have f160 : Fld Z h150 b42 kc1 "size" "I" (.int (3 : Int32)) := (g145_3.ext E150)
     have f161 : Fld Z h150 b42 kc1 "elementData" "[Ljava/lang/Object;" (.ref r0_62) := (g145_2.ext E150)
     have f162 : Exa Z h150 r0_62 "[Ljava/lang/Object;" := ((f147.keep K145).ext E150)
     have f163 : Arv Z h150 r0_62 c0_62 (.object kc0) (10 : Int32) [(.ref r_21), (.ref r_28), (.ref r_36), .null, .null, .null, .null, .null, .null, .null] .null := (g145_4.ext E150)
     have f164 : Exa Z h150 r_21 kc2 := ((((f59.keep K62).keep K103).keep K145).ext E150)
     have f165 : Exa Z h150 r_28 kc2 := (((f101.keep K103).keep K145).ext E150)
     have f166 : Exa Z h150 r_36 kc2 := ((f143.keep K145).ext E150)
     have le167 : h0.size ≤ h150.size := (Nat.le_trans le152 E150.1)
     refine w_special X150 hx (y := yn_13) rfl hown36 (mvT hZ36 (wd_89 hw)) (mvT hZ36 (wd_90 hw)) (mvT hZ36 (wd_91 hw)) (by decide) (backOf (W := 1) (rm_m13_54 l Z aZ hw [] b150 b42 r0_62 c0_62 r_21 r_28 r_36 mr__Ljava_lang_Object_ h150 n0 (Nat.le_trans Z0 le167) f159 f160 f161 f162 f163 f164 f165 f166 MI_mr__Ljava_lang_Object_ A150 f156 ge151) hZ36 (wd_91 hw) (wd_88 hw) (by decide) (by decide)) (by rw [hml]; rfl) [(.ref b42)] (lenOf pd_20 rfl) rfl (Nat.le_of_eq rfl) (hb hby at_85) (fun _ _ => ⟨rfl, e150, (by decide : 21 + 3 ≤ _), (by decide : 50 + 8 ≤ _)⟩) (pc' := 88) rfl ?_
     rintro _ _ ⟨T168, L168, k168, n168⟩ X168 ⟨Lc168, hQ168, l168, y168, z168⟩
     dsimp only [Pt.U, Pt.locs, Pt.cells, Pt.slots] at X168 l168 y168 z168 hQ168 ⊢
     subst l168 y168 z168
     obtain ⟨r0_168, r1_168, c0_168, rfl, N168q, K168, g168_0, g168_1, g168_2, g168_3, g168_4, g168_5, g168_6, g168_7, g168_8, g168_9⟩ := hQ168
     have N169 := Fr.app N146 N168q
     have C170 : CHr Z EL s.vm h0 T36.vm T168.heap := C154.trans (CHr.keep K168 (sfS (Safe.exa hZ36.alike A150 (by decide) (by decide)) sf0) C154.1)
     have K171 : Keep h0 T168.heap [] := K155.trans K168 (allS (Or.inr sz153) (all0 (P := fun x => x ∈ [] ∨ h0.size ≤ x)))
     have ge172 : n0 ≤ r0_168 := Nat.le_trans (Nat.le_trans Z0 le167) g168_0
     have sz173 : h0.size ≤ r0_168 := Nat.le_trans le167 g168_0
     have ge174 : n0 ≤ r1_168 := Nat.le_trans (Nat.le_trans Z0 le167) g168_1
     have sz175 : h0.size ≤ r1_168 := Nat.le_trans le167 g168_1
     show Runs _ _ _ _ (T168.setTop (mkF m 88 #[.val (.int p0), .val (.int p1), .val (.int p2), .val (.int p3), .val (.int cc), .val (.ref r_21), .val (.ref r_28), .val (.ref r_36), .val (.ref b42), .unset, .unset] [(.ref b150)]))
     refine w_astore X168 hx (hb hby at_88) rfl (L' := #[.val (.int p0), .val (.int p1), .val (.int p2), .val (.int p3), .val (.int cc), .val (.ref r_21), .val (.ref r_28), .val (.ref r_36), .val (.ref b42), .val (.ref b150), .unset]) rfl (pc' := 90) rfl ?_
     refine w_iload X168 hx (hb hby at_90) rfl (pc' := 92) rfl ?_
     refine w_iconst X168 hx (hb hby at_92) (v := (1 : Int32)) rfl (pc' := 93) rfl ?_
     refine w_icY X168 hx (hb hby at_93) (feq (fun q => by have h9 := hc68; rw [q] at h9; exact absurd h9 (by decide))).2 (pc' := 101) (by decide) (by decide) ?_
     refine w_iload X168 hx (hb hby at_101) rfl (pc' := 103) rfl ?_
     refine w_iconst X168 hx (hb hby at_103) (v := (2 : Int32)) rfl (pc' := 104) rfl ?_
     refine w_icY X168 hx (hb hby at_104) (feq (fun q => by have h9 := hc107; rw [q] at h9; exact absurd h9 (by decide))).2 (pc' := 112) (by decide) (by decide) ?_
     refine w_aload X168 hx (hb hby at_112) rfl rfl (pc' := 114) rfl ?_
     refine w_astore X168 hx (hb hby at_114) rfl (L' := #[.val (.int p0), .val (.int p1), .val (.int p2), .val (.int p3), .val (.int cc), .val (.ref r_21), .val (.ref r_28), .val (.ref r_36), .val (.ref b42), .val (.ref b150), .val (.ref r_36)]) rfl (pc' := 116) rfl ?_
     refine w_aload X168 hx (hb hby at_116) rfl rfl (pc' := 118) rfl ?_
     have f176 : Exa Z T168.heap r_36 kc2 := (f166.keep K168)
     have le177 : h0.size ≤ T168.heap.size := (Nat.le_trans le167 K168.1)
     obtain ⟨cq178, kq178, q178a, q178b, q178c⟩ := isOf hZ36 rfl g168_7
     refine w_virtual X168 hx (y := yn_27) (z := yn_27) hown36 (mvT hZ36 (wd_186 hw)) (mvT hZ36 (wd_187 hw)) (notFace_of_selects (args := #[]) (mvT hZ36 (wd_189 hw))) (mvT hZ36 (wd_189 hw)) (mvT hZ36 (wd_188 hw)) (by decide) (backOf (W := 0) (rm_m27_65 l Z aZ hw [] b150 r0_168 r1_168 c0_168 r_21 r_28 r_36 T168.heap n0 (Nat.le_trans Z0 le177) g168_8 g168_2 g168_3 g168_5 f176) hZ36 (wd_190 hw) (wd_88 hw) (by decide) (by decide)) q178a q178c (by rw [hml]; rfl) [] (lenOf pd_23 rfl) rfl (Nat.le_of_eq rfl) (hb hby at_118) (fun _ _ => ⟨rfl, rfl, (by decide : 24 + 0 ≤ _), (by decide : 58 + 0 ≤ _)⟩) (pc' := 121) rfl ?_
     rintro _ _ ⟨T178, L178, k178, n178⟩ X178 ⟨Lc178, hQ178, l178, y178, z178⟩
     dsimp only [Pt.U, Pt.locs, Pt.cells, Pt.slots] at X178 l178 y178 z178 hQ178 ⊢
     subst l178 y178 z178
     obtain ⟨rfl, N178q, e178⟩ := hQ178
     have N179 := Fr.app N169 N178q
     show Runs _ _ _ _ (T178.setTop (mkF m 121 #[.val (.int p0), .val (.int p1), .val (.int p2), .val (.int p3), .val (.int cc), .val (.ref r_21), .val (.ref r_28), .val (.ref r_36), .val (.ref b42), .val (.ref b150), .val (.ref r_36)] [(.ref r_36)]))
     refine w_aload X178 hx (hb hby at_121) rfl rfl (pc' := 123) rfl ?_
     obtain ⟨cq180, kq180, q180a, q180b, q180c⟩ := isOf hZ36 e178 f176
     refine w_virtual X178 hx (y := yn_30) (z := yn_30) hown36 (mvT hZ36 (wd_209 hw)) (mvT hZ36 (wd_210 hw)) (notFace_of_selects (args := #[]) (mvT hZ36 (wd_212 hw))) (mvT hZ36 (wd_212 hw)) (mvT hZ36 (wd_211 hw)) (by decide) (backOf (W := 0) (rm_m30_36 l Z aZ hw [] r_36 T168.heap n0 (Nat.le_trans Z0 le177) ) hZ36 (wd_213 hw) (wd_7 hw) (by decide) (by decide)) q180a q180c (by rw [hml]; rfl) [(.ref r_36)] (lenOf pd_12 rfl) rfl (Nat.le_of_eq rfl) (hb hby at_123) (fun _ _ => ⟨rfl, e178, (by decide : 24 + 0 ≤ _), (by decide : 58 + 0 ≤ _)⟩) (pc' := 126) rfl ?_
     rintro _ _ ⟨T180, L180, k180, n180⟩ X180 ⟨Lc180, hQ180, l180, y180, z180⟩
     dsimp only [Pt.U, Pt.locs, Pt.cells, Pt.slots] at X180 l180 y180 z180 hQ180 ⊢
     subst l180 y180 z180
     obtain ⟨rfl, N180q, e180⟩ := hQ180
     have N181 := Fr.app N179 N180q
     show Runs _ _ _ _ (T180.setTop (mkF m 126 #[.val (.int p0), .val (.int p1), .val (.int p2), .val (.int p3), .val (.int cc), .val (.ref r_21), .val (.ref r_28), .val (.ref r_36), .val (.ref b42), .val (.ref b150), .val (.ref r_36)] [(.int (1 : Int32))]))
     have le182 : T36.heap.size ≤ T53.heap.size := (Nat.le_trans E42.1 K53.1)
     have le183 : T36.heap.size ≤ T62.heap.size := (Nat.le_trans le182 K62.1)
     have le184 : T36.heap.size ≤ T103.heap.size := (Nat.le_trans le183 K103.1)
     have le185 : T36.heap.size ≤ T145.heap.size := (Nat.le_trans le184 K145.1)
     have le186 : T36.heap.size ≤ h150.size := (Nat.le_trans le185 E150.1)
     have le187 : T36.heap.size ≤ T168.heap.size := (Nat.le_trans le186 K168.1)
     exact w_doneH X180 hlk (v := some (.int (1 : Int32))) e180 hh hZ36 (own_EW hw) hS36 (Nat.le_trans (Nat.le_refl _) le187) C170 (fun h => by rw [hret] at h; cases h) (fun fs hr => retN X180 hx (t := .boolean) hret (by simp) (hb hby at_126) hr) (by decide) (by decide) (fun hsy => ⟨rfl, N181⟩)
set_option maxRecDepth 65536 in
set_option maxHeartbeats 40000000 in
theorem comes_1 {Post : Tables → Env → Array Value → State → Outcome → State → Prop} (hpost : ∀ tb e args s v u, (limb_1_1.after args s (.returned v) u = true ∧ limb_1_2.after args s (.returned v) u = true ∧ True) → ReturnedEndW s (.returned v) u (Jvm.fieldLocs frame_1_writes args s ++ Jvm.arrayLocs frame_1_arrays args s ++ Jvm.staticLocs frame_1_statics s) 40 1216 → Post tb e args s (.returned v) u) :
    ArmFor flags0 classFile x code maxLocals ret World_1 tables_1 room_1 Calls_1 rest_1 Pre_1 Post := by
  intro l hfl _ _ p e ha hc hk s m args below hf hA hF happ hP
  obtain ⟨hcalls, hrest, hpre⟩ := hP
  obtain ⟨-, -, -, hnamed, -, -, -, hat⟩ := (Spec.applies_iff hf).mp happ
  obtain ⟨hg, hn⟩ := and_e (Cond.before_iff.mp (show (Jvm.Cond.and given_1 narrow_1).before args s = true from hpre))
  obtain ⟨gv1, gv2⟩ := and_e hg
  obtain ⟨gv3, gv4⟩ := and_e gv2
  obtain ⟨gv5, gv6⟩ := and_e gv4
  obtain ⟨gv7, gv8⟩ := and_e gv6
  obtain ⟨w0, w1, w2, w3, rfl⟩ : ∃ w0 w1 w2 w3 : Value, args = #[w0, w1, w2, w3] := by
    have hs : args.size = 4 := by simpa [Cond.value, given_1] using gv1
    obtain ⟨L⟩ := args
    match L, hs with
    | [w0, w1, w2, w3], _ => exact ⟨w0, w1, w2, w3, rfl⟩
  have hw := fun d (hd : d ∈ tables_1) => atoms_spec (ws := Jvm.Cond.code x code maxLocals ret :: tables_1) hat d (List.mem_cons_of_mem _ hd)
  have hfit : Fit s := fun {y c} hc i hi => by
    obtain ⟨ha, rfl⟩ := Array.getElem?_eq_some_iff.mp hc
    have q := List.all_eq_true.mp ((Array.all_eq_true_iff_forall_mem.mp hF) _ (Array.getElem_mem ha)) i (List.mem_range.mpr hi)
    simpa [Array.getElem?_eq_getElem hi] using q
  obtain ⟨hsets, hown0⟩ := atoms_of _ (rest_1_c_eq ▸ (show rest_1_c.before _ s = true from hrest))
  have hr0 := Cond.before_iff.mp hown0
  obtain ⟨i0, ei0⟩ := is_v gv3
  obtain rfl : w0 = (.int i0) := Option.some.inj ei0
  obtain ⟨i1, ei1⟩ := is_v gv5
  obtain rfl : w1 = (.int i1) := Option.some.inj ei1
  obtain ⟨i2, ei2⟩ := is_v gv7
  obtain rfl : w2 = (.int i2) := Option.some.inj ei2
  obtain ⟨i3, ei3⟩ := is_v gv8
  obtain rfl : w3 = (.int i3) := Option.some.inj ei3
  obtain ⟨G_DEFAULTCAPACITY_EMPTY_ELEMENTDATA, ev_G_DEFAULTCAPACITY_EMPTY_ELEMENTDATA⟩ := exa_v (Cond.before_iff.mp (hsets _ (List.mem_of_getElem? (i := 7) rfl)))
  have S_DEFAULTCAPACITY_EMPTY_ELEMENTDATA := Sta.start ev_G_DEFAULTCAPACITY_EMPTY_ELEMENTDATA (Or.inr ⟨(wd_29 hw), (hsets _ (List.mem_of_getElem? (i := 2) rfl))⟩)
  obtain ⟨G_EMPTY, ev_G_EMPTY⟩ := exa_v (Cond.before_iff.mp (hsets _ (List.mem_of_getElem? (i := 11) rfl)))
  have S_EMPTY := Sta.start ev_G_EMPTY (Or.inl (hsets _ (List.mem_of_getElem? (i := 10) rfl)))
  obtain ⟨cl_G_DEFAULTCAPACITY_EMPTY_ELEMENTDATA, Ar_G_DEFAULTCAPACITY_EMPTY_ELEMENTDATA⟩ := Arr.start ev_G_DEFAULTCAPACITY_EMPTY_ELEMENTDATA (Cond.before_iff.mp (hsets _ (List.mem_of_getElem? (i := 6) rfl)))
  obtain ⟨qA_G_DEFAULTCAPACITY_EMPTY_ELEMENTDATA, eA_G_DEFAULTCAPACITY_EMPTY_ELEMENTDATA⟩ := own_len ev_G_DEFAULTCAPACITY_EMPTY_ELEMENTDATA Ar_G_DEFAULTCAPACITY_EMPTY_ELEMENTDATA (Cond.before_iff.mp (hsets _ (List.mem_of_getElem? (i := 8) rfl)))
  have V_G_DEFAULTCAPACITY_EMPTY_ELEMENTDATA : Arv s s.heap G_DEFAULTCAPACITY_EMPTY_ELEMENTDATA cl_G_DEFAULTCAPACITY_EMPTY_ELEMENTDATA.cls (.object "java/lang/Object") (0 : Int32) [] .null := Arv.start hfit Ar_G_DEFAULTCAPACITY_EMPTY_ELEMENTDATA qA_G_DEFAULTCAPACITY_EMPTY_ELEMENTDATA eA_G_DEFAULTCAPACITY_EMPTY_ELEMENTDATA (by decide) (by decide) trivial
  obtain ⟨G_COMPACT_STRINGS, ev_G_COMPACT_STRINGS⟩ := is_v (Cond.before_iff.mp (hsets _ (List.mem_of_getElem? (i := 19) rfl)))
  have S_COMPACT_STRINGS := Sta.start ev_G_COMPACT_STRINGS (Or.inl (hsets _ (List.mem_of_getElem? (i := 18) rfl)))
  have hP_7 : ¬ (G_COMPACT_STRINGS = (0 : Int32)) := fun q => by
    have h9 := not_v (Cond.before_iff.mp (hsets _ (List.mem_of_getElem? (i := 20) rfl)))
    rw [eq_i ev_G_COMPACT_STRINGS (Term.int_eval 0) (by rw [q])] at h9
    cases h9
  obtain ⟨cm_mr__Ljava_lang_Object_, km_mr__Ljava_lang_Object_, mr__Ljava_lang_Object_, q1_mr__Ljava_lang_Object_, q2_mr__Ljava_lang_Object_, q3_mr__Ljava_lang_Object_⟩ : Jvm.D.MirrorMade s "[Ljava/lang/Object;" := hcalls.1
  have MI_mr__Ljava_lang_Object_ : MirO s "[Ljava/lang/Object;" mr__Ljava_lang_Object_ := ⟨cm_mr__Ljava_lang_Object_, km_mr__Ljava_lang_Object_, q1_mr__Ljava_lang_Object_, q2_mr__Ljava_lang_Object_, q3_mr__Ljava_lang_Object_.1⟩
  have hCH : CHv s EL s.vm s.heap := CHv.start (own_EW hw) (fun p hp => hcalls.2.1 p hp) (hsets _ (List.mem_of_getElem? (i := 20) rfl)) (wd_20 hw) (wd_6 hw)
  obtain ⟨n, o, h1, h2, h3, _, L, rfl, ⟨rfl, N⟩, -, hq⟩ := rm_law l s _ hw tables_1 i0 i1 i2 i3 cl_G_DEFAULTCAPACITY_EMPTY_ELEMENTDATA.cls G_DEFAULTCAPACITY_EMPTY_ELEMENTDATA G_EMPTY G_COMPACT_STRINGS mr__Ljava_lang_Object_ s.heap s.heap.size (Nat.le_refl _) S_DEFAULTCAPACITY_EMPTY_ELEMENTDATA S_EMPTY (Exa.start ev_G_DEFAULTCAPACITY_EMPTY_ELEMENTDATA (Cond.before_iff.mp (hsets _ (List.mem_of_getElem? (i := 7) rfl)))) V_G_DEFAULTCAPACITY_EMPTY_ELEMENTDATA (Exa.start ev_G_EMPTY (Cond.before_iff.mp (hsets _ (List.mem_of_getElem? (i := 11) rfl)))) S_COMPACT_STRINGS (Old.start s) hP_7 MI_mr__Ljava_lang_Object_ p e ha hc hk s m _ below hf ((Spec.applies_iff_loose hf).mp happ).1 ⟨rfl, State.Warmed39.refl s, rfl, hCH, fun x hx => nomatch hx⟩ trivial
  refine ⟨n, _, h1, h2, h3, hpost _ _ _ _ _ _ ⟨Cond.after_iff.mpr rfl, Cond.after_iff.mpr (eq_i res_at (Term.int_eval (1)) rfl), trivial⟩ ⟨hq.1, hq.2.1, hq.2.2.1, (hq.2.2.2.sift fun y hy => Or.inr (N y hy)).mono (by decide) (by decide)⟩⟩
theorem main_1_1 : Claimed_1_1 := comes_1 fun _ _ _ _ _ _ h hF => ⟨h.1, hF⟩
theorem main_1_2 : Claimed_1_2 := comes_1 fun _ _ _ _ _ _ h hF => ⟨h.2.1, hF⟩
end Jvm.Pilot.@@N@@
namespace Jvm.Pilot.@@N@@
open Jvm Jvm.ClassFile Sem Op Lib Jvm.Free Jvm.Stand Jvm.Pilot.@@N@@.Jvm.D
/-! MADE BY PROGRAM (witnessworld.py) out of the Statement's table words and the real class files: 40 classes; the members and pool entries that the words name. The judged class is class 1, her method 2. -/
namespace start1
open Jvm.ClassFile
def u (s : String) : CpInfo := .utf8 (stringToUtf16 s)
/-- a pool by its gaps: so many unusable entries, then the entry; so many at the end -/
def gap : Nat → List CpInfo → List CpInfo
  | 0, r => r
  | n + 1, r => .unusable :: gap n r
def poolList (es : List (Nat × CpInfo)) (last : Nat) : List CpInfo := es.foldr (fun e r => gap e.1 (e.2 :: r)) (gap last [])
def pool (es : List (Nat × CpInfo)) (last : Nat) : Array CpInfo := ⟨poolList es last⟩
def fileOf (pool : Array CpInfo) (this : Nat) (attrs : Array Attribute := #[]) (ms : Array MethodInfo := #[]) (fl : Nat := 33) (sup : Nat := 0) (ifs : Array Nat := #[]) (fds : Array FieldInfo := #[]) : ClassFile where
  minorVersion := 0
  majorVersion := 65
  constantPool := pool
  accessFlags := fl
  thisClass := this
  superClass := sup
  interfaces := ifs
  fields := fds
  methods := ms
  attributes := attrs
def plain (name : String) (sup : Option ClassId) : Class where
  name := name
  kind := .ordinary
  loader := none
  accessFlags := 33
  super := sup
  interfaces := #[]
  cf := none
  fields := #[]
  methods := #[]
  instanceTypes := #[]
  staticTypes := #[]
  resolved := #[]
  callSites := []
  init := .initialized
  statics := none
  mirror := none

def pool0 : Array CpInfo := pool [(5, u "<init>"), (0, u "()V"), (1, .class_ 10), (1, u "java/lang/Object"), (0, u "getClass"), (0, u "()Ljava/lang/Class;")] 111

def k0c0 : Code := { maxStack := 0, maxLocals := 1, code := object_method_1_code, exceptionTable := #[], attributes := #[] }
def k0m0 : Method := { name := "<init>", desc := "()V", sig := { parameters := [], returnType := none }, accessFlags := 1, code := some k0c0 }
def k0m1 : Method := { name := "getClass", desc := "()Ljava/lang/Class;", sig := { parameters := [], returnType := some (.object "java/lang/Class") }, accessFlags := 273, code := none }
/-- java/lang/Object -/
def k0 : Class := { plain "java/lang/Object" none with
  accessFlags := 33
  interfaces := #[]
  cf := some (fileOf pool0 8 #[] #[{ accessFlags := 1, nameIndex := 5, descriptorIndex := 6, attributes := #[] }, { accessFlags := 273, nameIndex := 11, descriptorIndex := 12, attributes := #[] }] 33 0 #[] #[])
  fields := #[]
  methods := #[k0m0, k0m1]
  instanceTypes := #[]
  staticTypes := #[]
  resolved := Array.replicate 124 none
  statics := none }

def pool1 : Array CpInfo := pool [(2, .class_ 4), (0, .nameAndType 5 6), (0, u "java/lang/Object"), (0, u "<init>"), (0, u "()V"), (0, .class_ 8), (0, u "java/lang/String"), (0, .methodref 7 10), (0, .nameAndType 5 11), (0, u "([C)V"), (0, .methodref 7 13), (0, .nameAndType 14 15), (0, u "valueOf"), (0, u "(C)Ljava/lang/String;"), (0, .integer 2147483647), (0, .methodref 18 19), (0, .class_ 20), (0, .nameAndType 21 22), (0, u "com/example/indexwright/indexwright/TomlKeyLinesKeyNamePinLaw"), (0, u "drawn"), (0, u "(I)Ljava/lang/String;"), (0, .class_ 24), (0, u "java/util/ArrayList"), (0, .methodref 23 3), (0, .interfaceMethodref 27 28), (0, .class_ 29), (0, .nameAndType 30 31), (0, u "java/util/List"), (0, u "add"), (0, u "(Ljava/lang/Object;)Z"), (0, .class_ 33), (0, u "com/example/indexwright/indexwright/TomlKeyLines$Key"), (0, .methodref 32 35), (0, .nameAndType 5 36), (0, u "(Ljava/util/List;)V"), (0, .methodref 32 38), (0, .nameAndType 39 40), (0, u "name"), (0, u "()Ljava/lang/String;"), (0, .methodref 7 42), (0, .nameAndType 43 31), (0, u "equals"), (3, u "law"), (0, u "(IIII)Z")] 6

def k1m0 : Method := { name := "<init>", desc := "()V", sig := { parameters := [], returnType := none }, accessFlags := 2, code := none }
def k1c1 : Code := { maxStack := 3, maxLocals := 5, code := method_2_code, exceptionTable := #[], attributes := #[] }
def k1m1 : Method := { name := "drawn", desc := "(I)Ljava/lang/String;", sig := { parameters := [.int], returnType := some (.object "java/lang/String") }, accessFlags := 10, code := some k1c1 }
def k1c2 : Code := { maxStack := 3, maxLocals := 11, code := code, exceptionTable := #[], attributes := #[] }
def k1m2 : Method := { name := "law", desc := "(IIII)Z", sig := { parameters := [.int, .int, .int, .int], returnType := some .boolean }, accessFlags := 9, code := some k1c2 }
/-- com/example/indexwright/indexwright/TomlKeyLinesKeyNamePinLaw -/
def k1 : Class := { plain "com/example/indexwright/indexwright/TomlKeyLinesKeyNamePinLaw" (some 0) with
  accessFlags := 49
  interfaces := #[]
  cf := some (fileOf pool1 18 #[] #[{ accessFlags := 2, nameIndex := 5, descriptorIndex := 6, attributes := #[] }, { accessFlags := 10, nameIndex := 21, descriptorIndex := 22, attributes := #[] }, { accessFlags := 9, nameIndex := 47, descriptorIndex := 48, attributes := #[] }] 49 2 #[] #[])
  fields := #[]
  methods := #[k1m0, k1m1, k1m2]
  instanceTypes := #[]
  staticTypes := #[]
  resolved := Array.replicate 55 none
  statics := none }

def pool2 : Array CpInfo := pool [(1, .class_ 2), (0, u "java/io/Serializable"), (0, .class_ 4), (0, u "java/lang/Object")] 2

/-- java/io/Serializable -/
def k2 : Class := { plain "java/io/Serializable" (some 0) with
  accessFlags := 1537
  interfaces := #[]
  cf := some (fileOf pool2 1 #[] #[] 1537 3 #[] #[])
  fields := #[]
  methods := #[]
  instanceTypes := #[]
  staticTypes := #[]
  resolved := Array.replicate 7 none
  statics := none }

def pool3 : Array CpInfo := pool [(1, .class_ 2), (0, u "java/lang/Comparable"), (0, .class_ 4), (0, u "java/lang/Object")] 7

/-- java/lang/Comparable -/
def k3 : Class := { plain "java/lang/Comparable" (some 0) with
  accessFlags := 1537
  interfaces := #[]
  cf := some (fileOf pool3 1 #[] #[] 1537 3 #[] #[])
  fields := #[]
  methods := #[]
  instanceTypes := #[]
  staticTypes := #[]
  resolved := Array.replicate 12 none
  statics := none }

def pool4 : Array CpInfo := pool [(2, .class_ 4), (1, u "java/lang/CharSequence"), (42, .class_ 48), (0, u "java/lang/CharSequence$1CodePointIterator"), (10, .class_ 60), (0, u "java/lang/CharSequence$1CharIterator"), (5, .class_ 67), (0, u "java/lang/Object")] 63

/-- java/lang/CharSequence -/
def k4 : Class := { plain "java/lang/CharSequence" (some 0) with
  accessFlags := 1537
  interfaces := #[]
  cf := some (fileOf pool4 2 #[.nestMembers #[47, 59]] #[] 1537 66 #[] #[])
  fields := #[]
  methods := #[]
  instanceTypes := #[]
  staticTypes := #[]
  resolved := Array.replicate 131 none
  statics := none }

def pool5 : Array CpInfo := pool [(1, .class_ 2), (0, u "java/lang/constant/Constable"), (0, .class_ 4), (0, u "java/lang/Object")] 6

/-- java/lang/constant/Constable -/
def k5 : Class := { plain "java/lang/constant/Constable" (some 0) with
  accessFlags := 1537
  interfaces := #[]
  cf := some (fileOf pool5 1 #[] #[] 1537 3 #[] #[])
  fields := #[]
  methods := #[]
  instanceTypes := #[]
  staticTypes := #[]
  resolved := Array.replicate 11 none
  statics := none }

def pool6 : Array CpInfo := pool [(1, .class_ 2), (0, u "java/lang/constant/ConstantDesc"), (0, .class_ 4), (0, u "java/lang/Object")] 32

/-- java/lang/constant/ConstantDesc -/
def k6 : Class := { plain "java/lang/constant/ConstantDesc" (some 0) with
  accessFlags := 1537
  interfaces := #[]
  cf := some (fileOf pool6 1 #[] #[] 1537 3 #[] #[])
  fields := #[]
  methods := #[]
  instanceTypes := #[]
  staticTypes := #[]
  resolved := Array.replicate 37 none
  statics := none }

def pool7 : Array CpInfo := pool [(1, .methodref 2 3), (0, .class_ 4), (0, .nameAndType 5 6), (0, u "java/lang/Object"), (0, u "<init>"), (0, u "()V"), (0, .string 8), (0, u ""), (0, .fieldref 10 11), (0, .class_ 12), (0, .nameAndType 13 14), (0, u "java/lang/String"), (0, u "value"), (0, u "[B"), (0, .fieldref 10 16), (0, .nameAndType 17 18), (0, u "coder"), (0, u "B"), (2, u "hash"), (0, u "I"), (2, u "hashIsZero"), (0, u "Z"), (0, .methodref 10 28), (0, .nameAndType 5 29), (0, u "([CIILjava/lang/Void;)V"), (8, .fieldref 10 39), (0, .nameAndType 40 26), (0, u "COMPACT_STRINGS"), (1, .class_ 44), (1, u "java/lang/StringUTF16"), (0, u "compress"), (1, .methodref 42 48), (0, .nameAndType 49 50), (0, u "coderFromArrayLen"), (0, u "([BI)B"), (2, u "toBytes"), (53, .class_ 109), (1, u "java/lang/StringLatin1"), (67, .methodref 42 178), (0, .nameAndType 45 179), (0, u "([CII)[B"), (29, .methodref 10 210), (0, .nameAndType 5 211), (0, u "([BB)V"), (157, u "(C)Z"), (173, u "equals"), (29, u "(Ljava/lang/Object;)Z"), (1, .class_ 576), (0, u "java/lang/CharSequence"), (22, u "CASE_INSENSITIVE_ORDER"), (0, u "Ljava/util/Comparator;"), (181, u "valueOf"), (0, u "(C)Ljava/lang/String;"), (226, u "([C)V"), (4, .methodref 107 1016), (0, .nameAndType 1017 369), (0, u "canEncode"), (0, .methodref 107 1019), (0, .nameAndType 53 1020), (0, u "(C)[B"), (80, u "serialPersistentFields"), (0, u "[Ljava/io/ObjectStreamField;"), (0, .class_ 1104), (0, u "java/lang/String$CaseInsensitiveComparator"), (1, .class_ 1107), (0, u "java/io/Serializable"), (0, .class_ 1109), (0, u "java/lang/Comparable"), (0, .class_ 1111), (0, u "java/lang/constant/Constable"), (0, .class_ 1113), (0, u "java/lang/constant/ConstantDesc"), (2, u "serialVersionUID"), (0, u "J"), (3, u "REPL"), (0, u "C"), (2, u "LATIN1"), (1, u "UTF16")] 323

def k7m0 : Method := { name := "<init>", desc := "()V", sig := { parameters := [], returnType := none }, accessFlags := 1, code := none }
def k7c1 : Code := { maxStack := 5, maxLocals := 2, code := jdk_42_method_3_code, exceptionTable := #[], attributes := #[] }
def k7m1 : Method := { name := "<init>", desc := "([C)V", sig := { parameters := [(.array .char)], returnType := none }, accessFlags := 1, code := some k7c1 }
def k7c2 : Code := { maxStack := 2, maxLocals := 3, code := jdk_42_method_66_code, exceptionTable := #[], attributes := #[] }
def k7m2 : Method := { name := "equals", desc := "(Ljava/lang/Object;)Z", sig := { parameters := [(.object "java/lang/Object")], returnType := some .boolean }, accessFlags := 1, code := some k7c2 }
def k7c3 : Code := { maxStack := 4, maxLocals := 1, code := jdk_42_method_139_code, exceptionTable := #[], attributes := #[] }
def k7m3 : Method := { name := "valueOf", desc := "(C)Ljava/lang/String;", sig := { parameters := [.char], returnType := some (.object "java/lang/String") }, accessFlags := 9, code := some k7c3 }
def k7c4 : Code := { maxStack := 4, maxLocals := 6, code := jdk_42_method_149_code, exceptionTable := #[], attributes := #[] }
def k7m4 : Method := { name := "<init>", desc := "([CIILjava/lang/Void;)V", sig := { parameters := [(.array .char), .int, .int, (.object "java/lang/Void")], returnType := none }, accessFlags := 2, code := some k7c4 }
def k7c5 : Code := { maxStack := 2, maxLocals := 3, code := jdk_42_method_151_code, exceptionTable := #[], attributes := #[] }
def k7m5 : Method := { name := "<init>", desc := "([BB)V", sig := { parameters := [(.array .byte), .byte], returnType := none }, accessFlags := 0, code := some k7c5 }
/-- java/lang/String -/
def k7 : Class := { plain "java/lang/String" (some 0) with
  accessFlags := 49
  interfaces := #[2, 3, 4, 5, 6]
  cf := some (fileOf pool7 10 #[.nestMembers #[1103]] #[{ accessFlags := 1, nameIndex := 5, descriptorIndex := 6, attributes := #[] }, { accessFlags := 1, nameIndex := 5, descriptorIndex := 1010, attributes := #[] }, { accessFlags := 1, nameIndex := 543, descriptorIndex := 573, attributes := #[] }, { accessFlags := 9, nameIndex := 782, descriptorIndex := 783, attributes := #[] }, { accessFlags := 2, nameIndex := 5, descriptorIndex := 29, attributes := #[] }, { accessFlags := 0, nameIndex := 5, descriptorIndex := 211, attributes := #[] }] 49 2 #[1106, 1108, 575, 1110, 1112] #[{ accessFlags := 18, nameIndex := 13, descriptorIndex := 14, attributes := #[] }, { accessFlags := 18, nameIndex := 17, descriptorIndex := 18, attributes := #[] }, { accessFlags := 2, nameIndex := 21, descriptorIndex := 22, attributes := #[] }, { accessFlags := 2, nameIndex := 25, descriptorIndex := 26, attributes := #[] }, { accessFlags := 26, nameIndex := 1116, descriptorIndex := 1117, attributes := #[] }, { accessFlags := 24, nameIndex := 40, descriptorIndex := 26, attributes := #[] }, { accessFlags := 26, nameIndex := 1101, descriptorIndex := 1102, attributes := #[] }, { accessFlags := 26, nameIndex := 1121, descriptorIndex := 1122, attributes := #[] }, { accessFlags := 25, nameIndex := 599, descriptorIndex := 600, attributes := #[] }, { accessFlags := 24, nameIndex := 1125, descriptorIndex := 18, attributes := #[] }, { accessFlags := 24, nameIndex := 1127, descriptorIndex := 18, attributes := #[] }])
  fields := #[{ name := "value", type := (.array .byte), accessFlags := 18, slot := 0, constantValue := 0 }, { name := "coder", type := .byte, accessFlags := 18, slot := 1, constantValue := 0 }, { name := "hash", type := .int, accessFlags := 2, slot := 2, constantValue := 0 }, { name := "hashIsZero", type := .boolean, accessFlags := 2, slot := 3, constantValue := 0 }, { name := "serialVersionUID", type := .long, accessFlags := 26, slot := 0, constantValue := 0 }, { name := "COMPACT_STRINGS", type := .boolean, accessFlags := 24, slot := 1, constantValue := 0 }, { name := "serialPersistentFields", type := (.array (.object "java/io/ObjectStreamField")), accessFlags := 26, slot := 2, constantValue := 0 }, { name := "REPL", type := .char, accessFlags := 26, slot := 3, constantValue := 0 }, { name := "CASE_INSENSITIVE_ORDER", type := (.object "java/util/Comparator"), accessFlags := 25, slot := 4, constantValue := 0 }, { name := "LATIN1", type := .byte, accessFlags := 24, slot := 5, constantValue := 0 }, { name := "UTF16", type := .byte, accessFlags := 24, slot := 6, constantValue := 0 }]
  methods := #[k7m0, k7m1, k7m2, k7m3, k7m4, k7m5]
  instanceTypes := #[(.array .byte), .byte, .int, .boolean]
  staticTypes := #[.long, .boolean, (.array (.object "java/io/ObjectStreamField")), .char, (.object "java/util/Comparator"), .byte, .byte]
  resolved := Array.replicate 1451 none
  statics := some 0 }

def pool8 : Array CpInfo := pool [(8, .class_ 10), (1, u "java/lang/Iterable"), (24, .class_ 36), (0, u "java/lang/Object")] 25

/-- java/lang/Iterable -/
def k8 : Class := { plain "java/lang/Iterable" (some 0) with
  accessFlags := 1537
  interfaces := #[]
  cf := some (fileOf pool8 8 #[] #[] 1537 35 #[] #[])
  fields := #[]
  methods := #[]
  instanceTypes := #[]
  staticTypes := #[]
  resolved := Array.replicate 62 none
  statics := none }

def pool9 : Array CpInfo := pool [(10, .class_ 12), (1, u "java/util/Collection"), (0, u "toArray"), (16, u "()Z"), (29, .class_ 61), (0, u "java/lang/Object"), (0, .class_ 63), (0, u "java/lang/Iterable"), (2, u "isEmpty"), (3, u "()[Ljava/lang/Object;")] 44

def k9m0 : Method := { name := "isEmpty", desc := "()Z", sig := { parameters := [], returnType := some .boolean }, accessFlags := 1025, code := none }
def k9m1 : Method := { name := "toArray", desc := "()[Ljava/lang/Object;", sig := { parameters := [], returnType := some (.array (.object "java/lang/Object")) }, accessFlags := 1025, code := none }
/-- java/util/Collection -/
def k9 : Class := { plain "java/util/Collection" (some 0) with
  accessFlags := 1537
  interfaces := #[8]
  cf := some (fileOf pool9 10 #[] #[{ accessFlags := 1025, nameIndex := 66, descriptorIndex := 30, attributes := #[] }, { accessFlags := 1025, nameIndex := 13, descriptorIndex := 70, attributes := #[] }] 1537 60 #[62] #[])
  fields := #[]
  methods := #[k9m0, k9m1]
  instanceTypes := #[]
  staticTypes := #[]
  resolved := Array.replicate 115 none
  statics := none }

def pool10 : Array CpInfo := pool [(1, .methodref 2 3), (0, .class_ 4), (0, .nameAndType 5 6), (0, u "java/lang/Object"), (0, u "<init>"), (0, u "()V"), (1, .class_ 10), (1, u "java/util/AbstractCollection"), (66, .class_ 78), (0, u "java/util/Collection")] 81

def k10c0 : Code := { maxStack := 1, maxLocals := 1, code := jdk_22_method_1_code, exceptionTable := #[], attributes := #[] }
def k10m0 : Method := { name := "<init>", desc := "()V", sig := { parameters := [], returnType := none }, accessFlags := 4, code := some k10c0 }
/-- java/util/AbstractCollection -/
def k10 : Class := { plain "java/util/AbstractCollection" (some 0) with
  accessFlags := 1057
  interfaces := #[9]
  cf := some (fileOf pool10 8 #[] #[{ accessFlags := 4, nameIndex := 5, descriptorIndex := 6, attributes := #[] }] 1057 2 #[77] #[])
  fields := #[]
  methods := #[k10m0]
  instanceTypes := #[]
  staticTypes := #[]
  resolved := Array.replicate 160 none
  statics := none }

def pool11 : Array CpInfo := pool [(8, .class_ 10), (1, u "java/util/SequencedCollection"), (15, .class_ 27), (0, u "java/lang/Object"), (0, .class_ 29), (0, u "java/util/Collection")] 27

/-- java/util/SequencedCollection -/
def k11 : Class := { plain "java/util/SequencedCollection" (some 0) with
  accessFlags := 1537
  interfaces := #[9]
  cf := some (fileOf pool11 8 #[] #[] 1537 26 #[28] #[])
  fields := #[]
  methods := #[]
  instanceTypes := #[]
  staticTypes := #[]
  resolved := Array.replicate 57 none
  statics := none }

def pool12 : Array CpInfo := pool [(8, .class_ 10), (1, u "java/util/List"), (20, u "(Ljava/lang/Object;)V"), (16, u "<init>"), (11, u "add"), (3, u "(Ljava/lang/Object;)Z"), (10, u "get"), (0, u "(I)Ljava/lang/Object;"), (2, u "size"), (0, u "()I"), (7, u "of"), (2, .class_ 93), (1, u "java/util/ImmutableCollections"), (2, .class_ 97), (0, u "java/util/ImmutableCollections$List12"), (0, .methodref 96 99), (0, .nameAndType 48 31), (0, .methodref 96 101), (0, .nameAndType 48 102), (0, u "(Ljava/lang/Object;Ljava/lang/Object;)V"), (0, .class_ 104), (0, u "java/lang/Object"), (3, u "([Ljava/lang/Object;)Ljava/util/List;"), (0, .methodref 91 110), (0, .nameAndType 111 108), (0, u "listFromArray"), (0, .methodref 91 113), (0, .nameAndType 114 115), (0, u "listCopy"), (0, u "(Ljava/util/Collection;)Ljava/util/List;"), (4, .class_ 121), (0, u "java/util/SequencedCollection"), (112, u "copyOf")] 16

def k12m0 : Method := { name := "size", desc := "()I", sig := { parameters := [], returnType := some .int }, accessFlags := 1025, code := none }
def k12m1 : Method := { name := "add", desc := "(Ljava/lang/Object;)Z", sig := { parameters := [(.object "java/lang/Object")], returnType := some .boolean }, accessFlags := 1025, code := none }
def k12m2 : Method := { name := "get", desc := "(I)Ljava/lang/Object;", sig := { parameters := [.int], returnType := some (.object "java/lang/Object") }, accessFlags := 1025, code := none }
def k12c3 : Code := { maxStack := 5, maxLocals := 2, code := jdk_40_method_47_code, exceptionTable := #[], attributes := #[] }
def k12m3 : Method := { name := "of", desc := "([Ljava/lang/Object;)Ljava/util/List;", sig := { parameters := [(.array (.object "java/lang/Object"))], returnType := some (.object "java/util/List") }, accessFlags := 137, code := some k12c3 }
def k12c4 : Code := { maxStack := 1, maxLocals := 1, code := jdk_40_method_48_code, exceptionTable := #[], attributes := #[] }
def k12m4 : Method := { name := "copyOf", desc := "(Ljava/util/Collection;)Ljava/util/List;", sig := { parameters := [(.object "java/util/Collection")], returnType := some (.object "java/util/List") }, accessFlags := 9, code := some k12c4 }
/-- java/util/List -/
def k12 : Class := { plain "java/util/List" (some 0) with
  accessFlags := 1537
  interfaces := #[11]
  cf := some (fileOf pool12 8 #[] #[{ accessFlags := 1025, nameIndex := 79, descriptorIndex := 80, attributes := #[] }, { accessFlags := 1025, nameIndex := 60, descriptorIndex := 64, attributes := #[] }, { accessFlags := 1025, nameIndex := 75, descriptorIndex := 76, attributes := #[] }, { accessFlags := 137, nameIndex := 88, descriptorIndex := 108, attributes := #[] }, { accessFlags := 9, nameIndex := 234, descriptorIndex := 115, attributes := #[] }] 1537 103 #[120] #[])
  fields := #[]
  methods := #[k12m0, k12m1, k12m2, k12m3, k12m4]
  instanceTypes := #[]
  staticTypes := #[]
  resolved := Array.replicate 251 none
  statics := none }

def pool13 : Array CpInfo := pool [(1, .methodref 2 3), (0, .class_ 4), (0, .nameAndType 5 6), (0, u "java/util/AbstractCollection"), (0, u "<init>"), (0, u "()V"), (0, .fieldref 8 9), (0, .class_ 10), (0, .nameAndType 11 12), (0, u "java/util/AbstractList"), (0, u "modCount"), (0, u "I"), (64, .class_ 78), (0, u "java/util/AbstractList$Itr"), (3, .class_ 83), (0, u "java/util/AbstractList$ListItr"), (9, .class_ 94), (0, u "java/util/AbstractList$RandomAccessSubList"), (3, .class_ 99), (0, u "java/util/AbstractList$SubList"), (33, .class_ 134), (0, u "java/util/List"), (73, .class_ 209), (0, u "java/util/AbstractList$SubList$1"), (0, .class_ 211), (0, u "java/util/AbstractList$RandomAccessSpliterator")] 6

def k13c0 : Code := { maxStack := 2, maxLocals := 1, code := jdk_39_method_1_code, exceptionTable := #[], attributes := #[] }
def k13m0 : Method := { name := "<init>", desc := "()V", sig := { parameters := [], returnType := none }, accessFlags := 4, code := some k13c0 }
/-- java/util/AbstractList -/
def k13 : Class := { plain "java/util/AbstractList" (some 10) with
  accessFlags := 1057
  interfaces := #[12]
  cf := some (fileOf pool13 8 #[.nestMembers #[93, 98, 208, 210, 82, 77]] #[{ accessFlags := 4, nameIndex := 5, descriptorIndex := 6, attributes := #[] }] 1057 2 #[133] #[{ accessFlags := 132, nameIndex := 11, descriptorIndex := 12, attributes := #[] }])
  fields := #[{ name := "modCount", type := .int, accessFlags := 132, slot := 0, constantValue := 0 }]
  methods := #[k13m0]
  instanceTypes := #[.int]
  staticTypes := #[]
  resolved := Array.replicate 218 none
  statics := none }

def pool14 : Array CpInfo := pool [(1, .class_ 2), (0, u "java/util/RandomAccess"), (0, .class_ 4), (0, u "java/lang/Object")] 2

/-- java/util/RandomAccess -/
def k14 : Class := { plain "java/util/RandomAccess" (some 0) with
  accessFlags := 1537
  interfaces := #[]
  cf := some (fileOf pool14 1 #[] #[] 1537 3 #[] #[])
  fields := #[]
  methods := #[]
  instanceTypes := #[]
  staticTypes := #[]
  resolved := Array.replicate 7 none
  statics := none }

def pool15 : Array CpInfo := pool [(1, .class_ 2), (0, u "java/lang/Cloneable"), (0, .class_ 4), (0, u "java/lang/Object")] 2

/-- java/lang/Cloneable -/
def k15 : Class := { plain "java/lang/Cloneable" (some 0) with
  accessFlags := 1537
  interfaces := #[]
  cf := some (fileOf pool15 1 #[] #[] 1537 3 #[] #[])
  fields := #[]
  methods := #[]
  instanceTypes := #[]
  staticTypes := #[]
  resolved := Array.replicate 7 none
  statics := none }

def pool16 : Array CpInfo := pool [(1, .methodref 2 3), (0, .class_ 4), (0, .nameAndType 5 6), (0, u "java/util/AbstractList"), (0, u "<init>"), (0, u "()V"), (0, .class_ 8), (0, u "java/lang/Object"), (0, .fieldref 10 11), (0, .class_ 12), (0, .nameAndType 13 14), (0, u "java/util/ArrayList"), (0, u "elementData"), (0, u "[Ljava/lang/Object;"), (2, u "EMPTY_ELEMENTDATA"), (21, .fieldref 10 40), (0, .nameAndType 41 14), (0, u "DEFAULTCAPACITY_EMPTY_ELEMENTDATA"), (4, u "toArray"), (0, u "()[Ljava/lang/Object;"), (0, .fieldref 10 49), (0, .nameAndType 50 51), (0, u "size"), (0, u "I"), (6, .class_ 60), (1, u "java/util/Arrays"), (0, u "copyOf"), (1, .fieldref 10 64), (0, .nameAndType 65 51), (0, u "modCount"), (0, .methodref 58 67), (0, .nameAndType 61 68), (0, u "([Ljava/lang/Object;I)[Ljava/lang/Object;"), (0, .methodref 10 70), (0, .nameAndType 71 72), (0, u "grow"), (0, u "(I)[Ljava/lang/Object;"), (6, .methodref 80 81), (0, .class_ 82), (0, .nameAndType 83 84), (0, u "java/lang/Math"), (0, u "max"), (0, u "(II)I"), (11, u "(Ljava/lang/Object;)Z"), (32, .methodref 10 130), (0, .nameAndType 71 47), (0, .methodref 10 132), (0, .nameAndType 133 134), (0, u "add"), (0, u "(Ljava/lang/Object;[Ljava/lang/Object;I)V"), (13, .class_ 149), (0, u "java/util/List"), (23, u "()Z"), (88, .class_ 263), (0, u "java/util/ArrayList$ListItr"), (3, .class_ 268), (0, u "java/util/ArrayList$Itr"), (7, .class_ 277), (0, u "java/util/ArrayList$SubList"), (12, .class_ 291), (0, u "java/util/ArrayList$ArrayListSpliterator"), (37, .class_ 330), (0, u "java/util/RandomAccess"), (0, .class_ 332), (0, u "java/lang/Cloneable"), (0, .class_ 334), (0, u "java/io/Serializable"), (0, u "serialVersionUID"), (0, u "J"), (3, u "DEFAULT_CAPACITY"), (22, u "isEmpty"), (136, .class_ 501), (0, u "java/util/ArrayList$SubList$2"), (0, .class_ 503), (0, u "java/util/ArrayList$SubList$1")] 5

def k16c0 : Code := { maxStack := 2, maxLocals := 1, code := jdk_38_method_2_code, exceptionTable := #[], attributes := #[] }
def k16m0 : Method := { name := "<init>", desc := "()V", sig := { parameters := [], returnType := none }, accessFlags := 1, code := some k16c0 }
def k16c1 : Code := { maxStack := 4, maxLocals := 4, code := jdk_38_method_6_code, exceptionTable := #[], attributes := #[] }
def k16m1 : Method := { name := "grow", desc := "(I)[Ljava/lang/Object;", sig := { parameters := [.int], returnType := some (.array (.object "java/lang/Object")) }, accessFlags := 2, code := some k16c1 }
def k16c2 : Code := { maxStack := 3, maxLocals := 1, code := jdk_38_method_7_code, exceptionTable := #[], attributes := #[] }
def k16m2 : Method := { name := "grow", desc := "()[Ljava/lang/Object;", sig := { parameters := [], returnType := some (.array (.object "java/lang/Object")) }, accessFlags := 2, code := some k16c2 }
def k16c3 : Code := { maxStack := 1, maxLocals := 1, code := jdk_38_method_9_code, exceptionTable := #[], attributes := #[] }
def k16m3 : Method := { name := "isEmpty", desc := "()Z", sig := { parameters := [], returnType := some .boolean }, accessFlags := 1, code := some k16c3 }
def k16c4 : Code := { maxStack := 2, maxLocals := 1, code := jdk_38_method_16_code, exceptionTable := #[], attributes := #[] }
def k16m4 : Method := { name := "toArray", desc := "()[Ljava/lang/Object;", sig := { parameters := [], returnType := some (.array (.object "java/lang/Object")) }, accessFlags := 1, code := some k16c4 }
def k16c5 : Code := { maxStack := 3, maxLocals := 4, code := jdk_38_method_24_code, exceptionTable := #[], attributes := #[] }
def k16m5 : Method := { name := "add", desc := "(Ljava/lang/Object;[Ljava/lang/Object;I)V", sig := { parameters := [(.object "java/lang/Object"), (.array (.object "java/lang/Object")), .int], returnType := none }, accessFlags := 2, code := some k16c5 }
def k16c6 : Code := { maxStack := 4, maxLocals := 2, code := jdk_38_method_25_code, exceptionTable := #[], attributes := #[] }
def k16m6 : Method := { name := "add", desc := "(Ljava/lang/Object;)Z", sig := { parameters := [(.object "java/lang/Object")], returnType := some .boolean }, accessFlags := 1, code := some k16c6 }
/-- java/util/ArrayList -/
def k16 : Class := { plain "java/util/ArrayList" (some 13) with
  accessFlags := 33
  interfaces := #[12, 14, 15, 2]
  cf := some (fileOf pool16 10 #[.nestMembers #[290, 276, 500, 502, 262, 267]] #[{ accessFlags := 1, nameIndex := 5, descriptorIndex := 6, attributes := #[] }, { accessFlags := 2, nameIndex := 71, descriptorIndex := 72, attributes := #[] }, { accessFlags := 2, nameIndex := 71, descriptorIndex := 47, attributes := #[] }, { accessFlags := 1, nameIndex := 363, descriptorIndex := 173, attributes := #[] }, { accessFlags := 1, nameIndex := 46, descriptorIndex := 47, attributes := #[] }, { accessFlags := 2, nameIndex := 133, descriptorIndex := 134, attributes := #[] }, { accessFlags := 1, nameIndex := 133, descriptorIndex := 96, attributes := #[] }] 33 2 #[148, 329, 331, 333] #[{ accessFlags := 26, nameIndex := 335, descriptorIndex := 336, attributes := #[] }, { accessFlags := 26, nameIndex := 340, descriptorIndex := 51, attributes := #[] }, { accessFlags := 26, nameIndex := 17, descriptorIndex := 14, attributes := #[] }, { accessFlags := 26, nameIndex := 41, descriptorIndex := 14, attributes := #[] }, { accessFlags := 128, nameIndex := 13, descriptorIndex := 14, attributes := #[] }, { accessFlags := 2, nameIndex := 50, descriptorIndex := 51, attributes := #[] }])
  fields := #[{ name := "serialVersionUID", type := .long, accessFlags := 26, slot := 0, constantValue := 0 }, { name := "DEFAULT_CAPACITY", type := .int, accessFlags := 26, slot := 1, constantValue := 0 }, { name := "EMPTY_ELEMENTDATA", type := (.array (.object "java/lang/Object")), accessFlags := 26, slot := 2, constantValue := 0 }, { name := "DEFAULTCAPACITY_EMPTY_ELEMENTDATA", type := (.array (.object "java/lang/Object")), accessFlags := 26, slot := 3, constantValue := 0 }, { name := "elementData", type := (.array (.object "java/lang/Object")), accessFlags := 128, slot := 1, constantValue := 0 }, { name := "size", type := .int, accessFlags := 2, slot := 2, constantValue := 0 }]
  methods := #[k16m0, k16m1, k16m2, k16m3, k16m4, k16m5, k16m6]
  instanceTypes := #[.int, (.array (.object "java/lang/Object")), .int]
  staticTypes := #[.long, .int, (.array (.object "java/lang/Object")), (.array (.object "java/lang/Object"))]
  resolved := Array.replicate 509 none
  statics := some 1 }

def pool17 : Array CpInfo := pool [(1, .class_ 2), (0, u "java/lang/Math"), (1, .class_ 6), (1, u "java/lang/Object"), (0, u "<init>"), (0, u "()V"), (89, .class_ 100), (1, u "java/lang/Math$RandomNumberGeneratorHolder"), (71, u "negativeZeroFloatBits"), (0, u "J"), (2, u "negativeZeroDoubleBits"), (21, u "max"), (2, u "min"), (43, u "$assertionsDisabled"), (0, u "Z"), (88, u "(II)I"), (2, u "twoToTheDoubleScaleDown"), (0, u "D"), (4, u "twoToTheDoubleScaleUp"), (9, u "E"), (3, u "PI"), (2, u "TAU"), (2, u "DEGREES_TO_RADIANS"), (0, u "RADIANS_TO_DEGREES")] 94

def k17m0 : Method := { name := "<init>", desc := "()V", sig := { parameters := [], returnType := none }, accessFlags := 2, code := none }
def k17c1 : Code := { maxStack := 2, maxLocals := 2, code := jdk_29_method_65_code, exceptionTable := #[], attributes := #[] }
def k17m1 : Method := { name := "max", desc := "(II)I", sig := { parameters := [.int, .int], returnType := some .int }, accessFlags := 9, code := some k17c1 }
def k17c2 : Code := { maxStack := 2, maxLocals := 2, code := jdk_29_method_69_code, exceptionTable := #[], attributes := #[] }
def k17m2 : Method := { name := "min", desc := "(II)I", sig := { parameters := [.int, .int], returnType := some .int }, accessFlags := 9, code := some k17c2 }
/-- java/lang/Math -/
def k17 : Class := { plain "java/lang/Math" (some 0) with
  accessFlags := 49
  interfaces := #[]
  cf := some (fileOf pool17 1 #[.nestMembers #[98]] #[{ accessFlags := 2, nameIndex := 7, descriptorIndex := 8, attributes := #[] }, { accessFlags := 9, nameIndex := 198, descriptorIndex := 335, attributes := #[] }, { accessFlags := 9, nameIndex := 201, descriptorIndex := 335, attributes := #[] }] 49 4 #[] #[{ accessFlags := 25, nameIndex := 354, descriptorIndex := 339, attributes := #[] }, { accessFlags := 25, nameIndex := 358, descriptorIndex := 339, attributes := #[] }, { accessFlags := 25, nameIndex := 361, descriptorIndex := 339, attributes := #[] }, { accessFlags := 26, nameIndex := 364, descriptorIndex := 339, attributes := #[] }, { accessFlags := 26, nameIndex := 365, descriptorIndex := 339, attributes := #[] }, { accessFlags := 26, nameIndex := 172, descriptorIndex := 173, attributes := #[] }, { accessFlags := 26, nameIndex := 176, descriptorIndex := 173, attributes := #[] }, { accessFlags := 8, nameIndex := 344, descriptorIndex := 339, attributes := #[] }, { accessFlags := 8, nameIndex := 338, descriptorIndex := 339, attributes := #[] }, { accessFlags := 4120, nameIndex := 245, descriptorIndex := 246, attributes := #[] }])
  fields := #[{ name := "E", type := .double, accessFlags := 25, slot := 0, constantValue := 0 }, { name := "PI", type := .double, accessFlags := 25, slot := 1, constantValue := 0 }, { name := "TAU", type := .double, accessFlags := 25, slot := 2, constantValue := 0 }, { name := "DEGREES_TO_RADIANS", type := .double, accessFlags := 26, slot := 3, constantValue := 0 }, { name := "RADIANS_TO_DEGREES", type := .double, accessFlags := 26, slot := 4, constantValue := 0 }, { name := "negativeZeroFloatBits", type := .long, accessFlags := 26, slot := 5, constantValue := 0 }, { name := "negativeZeroDoubleBits", type := .long, accessFlags := 26, slot := 6, constantValue := 0 }, { name := "twoToTheDoubleScaleUp", type := .double, accessFlags := 8, slot := 7, constantValue := 0 }, { name := "twoToTheDoubleScaleDown", type := .double, accessFlags := 8, slot := 8, constantValue := 0 }, { name := "$assertionsDisabled", type := .boolean, accessFlags := 4120, slot := 9, constantValue := 0 }]
  methods := #[k17m0, k17m1, k17m2]
  instanceTypes := #[]
  staticTypes := #[.double, .double, .double, .double, .double, .long, .long, .double, .double, .boolean]
  resolved := Array.replicate 460 none
  statics := none }

def pool18 : Array CpInfo := pool [(1, .methodref 2 3), (0, .class_ 4), (0, .nameAndType 5 6), (0, u "java/lang/Object"), (0, u "<init>"), (0, u "()V"), (0, .class_ 8), (0, u "java/lang/Record")] 13

def k18c0 : Code := { maxStack := 1, maxLocals := 1, code := jdk_30_method_1_code, exceptionTable := #[], attributes := #[] }
def k18m0 : Method := { name := "<init>", desc := "()V", sig := { parameters := [], returnType := none }, accessFlags := 4, code := some k18c0 }
/-- java/lang/Record -/
def k18 : Class := { plain "java/lang/Record" (some 0) with
  accessFlags := 1057
  interfaces := #[]
  cf := some (fileOf pool18 7 #[] #[{ accessFlags := 4, nameIndex := 5, descriptorIndex := 6, attributes := #[] }] 1057 2 #[] #[])
  fields := #[]
  methods := #[k18m0]
  instanceTypes := #[]
  staticTypes := #[]
  resolved := Array.replicate 22 none
  statics := none }

def pool19 : Array CpInfo := pool [(1, .methodref 2 3), (0, .class_ 4), (0, .nameAndType 5 6), (0, u "java/lang/Record"), (0, u "<init>"), (0, u "()V"), (0, .interfaceMethodref 8 9), (0, .class_ 10), (0, .nameAndType 11 12), (0, u "java/util/List"), (0, u "copyOf"), (0, u "(Ljava/util/Collection;)Ljava/util/List;"), (0, .fieldref 14 15), (0, .class_ 16), (0, .nameAndType 17 18), (0, u "com/example/indexwright/indexwright/TomlKeyLines$Key"), (0, u "parts"), (0, u "Ljava/util/List;"), (6, u "(Ljava/util/List;)V"), (17, .interfaceMethodref 8 44), (0, .nameAndType 45 46), (0, u "size"), (0, u "()I"), (10, .interfaceMethodref 8 58), (0, .nameAndType 59 60), (0, u "get"), (0, u "(I)Ljava/lang/Object;"), (0, .class_ 62), (0, u "java/lang/String"), (19, u "ELEMENT"), (0, u "Ljava/util/regex/Pattern;"), (23, u "BARE"), (6, u "()Ljava/lang/String;"), (27, u "name"), (7, .class_ 151), (0, u "com/example/indexwright/indexwright/TomlKeyLines")] 28

def k19c0 : Code := { maxStack := 2, maxLocals := 2, code := prog_12_method_1_code, exceptionTable := #[], attributes := #[] }
def k19m0 : Method := { name := "<init>", desc := "(Ljava/util/List;)V", sig := { parameters := [(.object "java/util/List")], returnType := none }, accessFlags := 0, code := some k19c0 }
def k19c1 : Code := { maxStack := 3, maxLocals := 1, code := prog_12_method_6_code, exceptionTable := #[], attributes := #[] }
def k19m1 : Method := { name := "name", desc := "()Ljava/lang/String;", sig := { parameters := [], returnType := some (.object "java/lang/String") }, accessFlags := 0, code := some k19c1 }
/-- com/example/indexwright/indexwright/TomlKeyLines$Key -/
def k19 : Class := { plain "com/example/indexwright/indexwright/TomlKeyLines$Key" (some 18) with
  accessFlags := 48
  interfaces := #[]
  cf := some (fileOf pool19 14 #[.nestHost 150] #[{ accessFlags := 0, nameIndex := 5, descriptorIndex := 25, attributes := #[] }, { accessFlags := 0, nameIndex := 142, descriptorIndex := 114, attributes := #[] }] 48 2 #[] #[{ accessFlags := 18, nameIndex := 17, descriptorIndex := 18, attributes := #[] }, { accessFlags := 26, nameIndex := 107, descriptorIndex := 83, attributes := #[] }, { accessFlags := 26, nameIndex := 82, descriptorIndex := 83, attributes := #[] }])
  fields := #[{ name := "parts", type := (.object "java/util/List"), accessFlags := 18, slot := 0, constantValue := 0 }, { name := "BARE", type := (.object "java/util/regex/Pattern"), accessFlags := 26, slot := 0, constantValue := 0 }, { name := "ELEMENT", type := (.object "java/util/regex/Pattern"), accessFlags := 26, slot := 1, constantValue := 0 }]
  methods := #[k19m0, k19m1]
  instanceTypes := #[(.object "java/util/List")]
  staticTypes := #[(.object "java/util/regex/Pattern"), (.object "java/util/regex/Pattern")]
  resolved := Array.replicate 180 none
  statics := none }

def pool20 : Array CpInfo := pool [(2, .class_ 4), (1, u "java/lang/Object"), (0, u "<init>"), (0, u "()V"), (3, .class_ 11), (0, u "java/util/ImmutableCollections$List12"), (0, .class_ 13), (0, u "java/util/ImmutableCollections$ListN"), (3, u "Z"), (0, .class_ 19), (0, u "java/util/List"), (0, .interfaceMethodref 21 22), (0, .class_ 23), (0, .nameAndType 24 25), (0, u "java/util/Collection"), (0, u "isEmpty"), (0, u "()Z"), (2, u "of"), (1, .interfaceMethodref 21 31), (0, .nameAndType 32 33), (0, u "toArray"), (0, u "()[Ljava/lang/Object;"), (0, .interfaceMethodref 18 35), (0, .nameAndType 28 36), (0, u "([Ljava/lang/Object;)Ljava/util/List;"), (0, .methodref 38 39), (0, .class_ 40), (0, .nameAndType 41 42), (0, u "java/util/Objects"), (0, u "requireNonNull"), (0, u "(Ljava/lang/Object;)Ljava/lang/Object;"), (0, .methodref 12 44), (0, .nameAndType 5 45), (0, u "([Ljava/lang/Object;Z)V"), (1, .class_ 49), (1, u "java/util/ImmutableCollections"), (0, u "$assertionsDisabled"), (5, u "[Ljava/lang/Object;"), (5, u "EMPTY_LIST"), (0, u "Ljava/util/ImmutableCollections$ListN;"), (8, u "EMPTY_LIST_NULLS"), (22, u "SALT32L"), (0, u "J"), (2, u "REVERSE"), (6, u "archivedObjects"), (2, u "EMPTY"), (0, u "Ljava/lang/Object;"), (0, .class_ 112), (0, u "java/util/ImmutableCollections$SetN"), (5, u "EMPTY_SET"), (0, u "Ljava/util/ImmutableCollections$SetN;"), (0, .class_ 121), (0, u "java/util/ImmutableCollections$MapN"), (3, u "EMPTY_MAP"), (0, u "Ljava/util/ImmutableCollections$MapN;"), (4, u "EXPAND_FACTOR"), (0, u "I"), (9, u "listCopy"), (0, u "(Ljava/util/Collection;)Ljava/util/List;"), (7, u "listFromArray"), (17, .class_ 170), (0, u "java/util/ImmutableCollections$MapN$MapNIterator"), (0, .class_ 172), (0, u "java/util/ImmutableCollections$MapN$1"), (0, .class_ 174), (0, u "java/util/ImmutableCollections$Map1"), (0, .class_ 176), (0, u "java/util/ImmutableCollections$AbstractImmutableMap"), (0, .class_ 178), (0, u "java/util/ImmutableCollections$SetN$SetNIterator"), (0, .class_ 180), (0, u "java/util/ImmutableCollections$Set12"), (0, .class_ 182), (0, u "java/util/ImmutableCollections$Set12$1"), (0, .class_ 184), (0, u "java/util/ImmutableCollections$AbstractImmutableSet"), (0, .class_ 186), (0, u "java/util/ImmutableCollections$SubList"), (0, .class_ 188), (0, u "java/util/ImmutableCollections$ListItr"), (0, .class_ 190), (0, u "java/util/ImmutableCollections$AbstractImmutableList"), (0, .class_ 192), (0, u "java/util/ImmutableCollections$AbstractImmutableCollection"), (0, .class_ 194), (0, u "java/util/ImmutableCollections$Access"), (0, .class_ 196), (0, u "java/util/ImmutableCollections$Access$1")] 16

def k20m0 : Method := { name := "<init>", desc := "()V", sig := { parameters := [], returnType := none }, accessFlags := 2, code := none }
def k20c1 : Code := { maxStack := 1, maxLocals := 2, code := jdk_56_method_3_code, exceptionTable := #[], attributes := #[] }
def k20m1 : Method := { name := "listCopy", desc := "(Ljava/util/Collection;)Ljava/util/List;", sig := { parameters := [(.object "java/util/Collection")], returnType := some (.object "java/util/List") }, accessFlags := 8, code := some k20c1 }
def k20c2 : Code := { maxStack := 4, maxLocals := 3, code := jdk_56_method_4_code, exceptionTable := #[], attributes := #[] }
def k20m2 : Method := { name := "listFromArray", desc := "([Ljava/lang/Object;)Ljava/util/List;", sig := { parameters := [(.array (.object "java/lang/Object"))], returnType := some (.object "java/util/List") }, accessFlags := 136, code := some k20c2 }
/-- java/util/ImmutableCollections -/
def k20 : Class := { plain "java/util/ImmutableCollections" (some 0) with
  accessFlags := 32
  interfaces := #[]
  cf := some (fileOf pool20 47 #[.nestMembers #[120, 169, 171, 173, 175, 111, 177, 179, 181, 183, 12, 10, 185, 187, 189, 191, 193, 195]] #[{ accessFlags := 2, nameIndex := 5, descriptorIndex := 6, attributes := #[] }, { accessFlags := 8, nameIndex := 142, descriptorIndex := 143, attributes := #[] }, { accessFlags := 136, nameIndex := 151, descriptorIndex := 36, attributes := #[] }] 32 2 #[] #[{ accessFlags := 26, nameIndex := 95, descriptorIndex := 96, attributes := #[] }, { accessFlags := 26, nameIndex := 99, descriptorIndex := 17, attributes := #[] }, { accessFlags := 10, nameIndex := 106, descriptorIndex := 56, attributes := #[] }, { accessFlags := 26, nameIndex := 109, descriptorIndex := 110, attributes := #[] }, { accessFlags := 24, nameIndex := 62, descriptorIndex := 63, attributes := #[] }, { accessFlags := 24, nameIndex := 72, descriptorIndex := 63, attributes := #[] }, { accessFlags := 24, nameIndex := 118, descriptorIndex := 119, attributes := #[] }, { accessFlags := 24, nameIndex := 125, descriptorIndex := 126, attributes := #[] }, { accessFlags := 24, nameIndex := 131, descriptorIndex := 132, attributes := #[] }, { accessFlags := 4120, nameIndex := 50, descriptorIndex := 17, attributes := #[] }])
  fields := #[{ name := "SALT32L", type := .long, accessFlags := 26, slot := 0, constantValue := 0 }, { name := "REVERSE", type := .boolean, accessFlags := 26, slot := 1, constantValue := 0 }, { name := "archivedObjects", type := (.array (.object "java/lang/Object")), accessFlags := 10, slot := 2, constantValue := 0 }, { name := "EMPTY", type := (.object "java/lang/Object"), accessFlags := 26, slot := 3, constantValue := 0 }, { name := "EMPTY_LIST", type := (.object "java/util/ImmutableCollections$ListN"), accessFlags := 24, slot := 4, constantValue := 0 }, { name := "EMPTY_LIST_NULLS", type := (.object "java/util/ImmutableCollections$ListN"), accessFlags := 24, slot := 5, constantValue := 0 }, { name := "EMPTY_SET", type := (.object "java/util/ImmutableCollections$SetN"), accessFlags := 24, slot := 6, constantValue := 0 }, { name := "EMPTY_MAP", type := (.object "java/util/ImmutableCollections$MapN"), accessFlags := 24, slot := 7, constantValue := 0 }, { name := "EXPAND_FACTOR", type := .int, accessFlags := 24, slot := 8, constantValue := 0 }, { name := "$assertionsDisabled", type := .boolean, accessFlags := 4120, slot := 9, constantValue := 0 }]
  methods := #[k20m0, k20m1, k20m2]
  instanceTypes := #[]
  staticTypes := #[.long, .boolean, (.array (.object "java/lang/Object")), (.object "java/lang/Object"), (.object "java/util/ImmutableCollections$ListN"), (.object "java/util/ImmutableCollections$ListN"), (.object "java/util/ImmutableCollections$SetN"), (.object "java/util/ImmutableCollections$MapN"), .int, .boolean]
  resolved := Array.replicate 213 none
  statics := some 2 }

def pool21 : Array CpInfo := pool [(1, .methodref 2 3), (0, .class_ 4), (0, .nameAndType 5 6), (0, u "java/util/AbstractCollection"), (0, u "<init>"), (0, u "()V"), (1, .class_ 10), (1, u "java/util/ImmutableCollections"), (2, .class_ 14), (0, u "java/util/ImmutableCollections$AbstractImmutableCollection")] 41

def k21c0 : Code := { maxStack := 1, maxLocals := 1, code := jdk_47_method_1_code, exceptionTable := #[], attributes := #[] }
def k21m0 : Method := { name := "<init>", desc := "()V", sig := { parameters := [], returnType := none }, accessFlags := 0, code := some k21c0 }
/-- java/util/ImmutableCollections$AbstractImmutableCollection -/
def k21 : Class := { plain "java/util/ImmutableCollections$AbstractImmutableCollection" (some 10) with
  accessFlags := 1056
  interfaces := #[]
  cf := some (fileOf pool21 13 #[.nestHost 8] #[{ accessFlags := 0, nameIndex := 5, descriptorIndex := 6, attributes := #[] }] 1056 2 #[] #[])
  fields := #[]
  methods := #[k21m0]
  instanceTypes := #[]
  staticTypes := #[]
  resolved := Array.replicate 56 none
  statics := none }

def pool22 : Array CpInfo := pool [(1, .methodref 2 3), (0, .class_ 4), (0, .nameAndType 5 6), (0, u "java/util/ImmutableCollections$AbstractImmutableCollection"), (0, u "<init>"), (0, u "()V"), (1, .class_ 10), (1, u "java/util/ImmutableCollections"), (3, .class_ 16), (1, u "java/util/ImmutableCollections$AbstractImmutableList"), (60, .class_ 78), (0, u "java/util/List"), (45, .class_ 125), (0, u "java/util/RandomAccess")] 70

def k22c0 : Code := { maxStack := 1, maxLocals := 1, code := jdk_46_method_1_code, exceptionTable := #[], attributes := #[] }
def k22m0 : Method := { name := "<init>", desc := "()V", sig := { parameters := [], returnType := none }, accessFlags := 0, code := some k22c0 }
/-- java/util/ImmutableCollections$AbstractImmutableList -/
def k22 : Class := { plain "java/util/ImmutableCollections$AbstractImmutableList" (some 21) with
  accessFlags := 1056
  interfaces := #[12, 14]
  cf := some (fileOf pool22 14 #[.nestHost 8] #[{ accessFlags := 0, nameIndex := 5, descriptorIndex := 6, attributes := #[] }] 1056 2 #[77, 124] #[])
  fields := #[]
  methods := #[k22m0]
  instanceTypes := #[]
  staticTypes := #[]
  resolved := Array.replicate 196 none
  statics := none }

def pool23 : Array CpInfo := pool [(1, .methodref 2 3), (0, .class_ 4), (0, .nameAndType 5 6), (0, u "java/util/ImmutableCollections$AbstractImmutableList"), (0, u "<init>"), (0, u "()V"), (0, .methodref 8 9), (0, .class_ 10), (0, .nameAndType 11 12), (0, u "java/util/Objects"), (0, u "requireNonNull"), (0, u "(Ljava/lang/Object;)Ljava/lang/Object;"), (0, .fieldref 14 15), (0, .class_ 16), (0, .nameAndType 17 18), (0, u "java/util/ImmutableCollections$List12"), (0, u "e0"), (0, u "Ljava/lang/Object;"), (0, .fieldref 20 21), (0, .class_ 22), (0, .nameAndType 23 18), (0, u "java/util/ImmutableCollections"), (0, u "EMPTY"), (0, .fieldref 14 25), (0, .nameAndType 26 18), (0, u "e1"), (24, u "size"), (0, u "()I"), (17, .class_ 71), (0, u "java/io/Serializable"), (4, u "(Ljava/lang/Object;)V"), (8, u "(Ljava/lang/Object;Ljava/lang/Object;)V"), (4, u "get"), (0, u "(I)Ljava/lang/Object;")] 33

def k23c0 : Code := { maxStack := 2, maxLocals := 2, code := jdk_44_method_1_code, exceptionTable := #[], attributes := #[] }
def k23m0 : Method := { name := "<init>", desc := "(Ljava/lang/Object;)V", sig := { parameters := [(.object "java/lang/Object")], returnType := none }, accessFlags := 0, code := some k23c0 }
def k23c1 : Code := { maxStack := 2, maxLocals := 3, code := jdk_44_method_2_code, exceptionTable := #[], attributes := #[] }
def k23m1 : Method := { name := "<init>", desc := "(Ljava/lang/Object;Ljava/lang/Object;)V", sig := { parameters := [(.object "java/lang/Object"), (.object "java/lang/Object")], returnType := none }, accessFlags := 0, code := some k23c1 }
def k23c2 : Code := { maxStack := 2, maxLocals := 1, code := jdk_44_method_3_code, exceptionTable := #[], attributes := #[] }
def k23m2 : Method := { name := "size", desc := "()I", sig := { parameters := [], returnType := some .int }, accessFlags := 1, code := some k23c2 }
def k23c3 : Code := { maxStack := 2, maxLocals := 2, code := jdk_44_method_5_code, exceptionTable := #[], attributes := #[] }
def k23m3 : Method := { name := "get", desc := "(I)Ljava/lang/Object;", sig := { parameters := [.int], returnType := some (.object "java/lang/Object") }, accessFlags := 1, code := some k23c3 }
/-- java/util/ImmutableCollections$List12 -/
def k23 : Class := { plain "java/util/ImmutableCollections$List12" (some 22) with
  accessFlags := 48
  interfaces := #[2]
  cf := some (fileOf pool23 14 #[.nestHost 20] #[{ accessFlags := 0, nameIndex := 5, descriptorIndex := 76, attributes := #[] }, { accessFlags := 0, nameIndex := 5, descriptorIndex := 85, attributes := #[] }, { accessFlags := 1, nameIndex := 51, descriptorIndex := 52, attributes := #[] }, { accessFlags := 1, nameIndex := 90, descriptorIndex := 91, attributes := #[] }] 48 2 #[70] #[{ accessFlags := 18, nameIndex := 17, descriptorIndex := 18, attributes := #[] }, { accessFlags := 18, nameIndex := 26, descriptorIndex := 18, attributes := #[] }])
  fields := #[{ name := "e0", type := (.object "java/lang/Object"), accessFlags := 18, slot := 0, constantValue := 0 }, { name := "e1", type := (.object "java/lang/Object"), accessFlags := 18, slot := 1, constantValue := 0 }]
  methods := #[k23m0, k23m1, k23m2, k23m3]
  instanceTypes := #[(.object "java/lang/Object"), (.object "java/lang/Object")]
  staticTypes := #[]
  resolved := Array.replicate 125 none
  statics := none }

def pool24 : Array CpInfo := pool [(1, .methodref 2 3), (0, .class_ 4), (0, .nameAndType 5 6), (0, u "java/util/ImmutableCollections$AbstractImmutableList"), (0, u "<init>"), (0, u "()V"), (0, .fieldref 8 9), (0, .class_ 10), (0, .nameAndType 11 12), (0, u "java/util/ImmutableCollections$ListN"), (0, u "elements"), (0, u "[Ljava/lang/Object;"), (0, .fieldref 8 14), (0, .nameAndType 15 16), (0, u "allowNulls"), (0, u "Z"), (42, .class_ 60), (0, u "java/io/Serializable"), (4, u "([Ljava/lang/Object;Z)V"), (11, u "size"), (0, u "()I"), (0, u "get"), (0, u "(I)Ljava/lang/Object;"), (33, .class_ 115), (0, u "java/util/ImmutableCollections")] 3

def k24c0 : Code := { maxStack := 2, maxLocals := 3, code := jdk_45_method_1_code, exceptionTable := #[], attributes := #[] }
def k24m0 : Method := { name := "<init>", desc := "([Ljava/lang/Object;Z)V", sig := { parameters := [(.array (.object "java/lang/Object")), .boolean], returnType := none }, accessFlags := 2, code := some k24c0 }
def k24c1 : Code := { maxStack := 1, maxLocals := 1, code := jdk_45_method_3_code, exceptionTable := #[], attributes := #[] }
def k24m1 : Method := { name := "size", desc := "()I", sig := { parameters := [], returnType := some .int }, accessFlags := 1, code := some k24c1 }
def k24c2 : Code := { maxStack := 2, maxLocals := 2, code := jdk_45_method_4_code, exceptionTable := #[], attributes := #[] }
def k24m2 : Method := { name := "get", desc := "(I)Ljava/lang/Object;", sig := { parameters := [.int], returnType := some (.object "java/lang/Object") }, accessFlags := 1, code := some k24c2 }
/-- java/util/ImmutableCollections$ListN -/
def k24 : Class := { plain "java/util/ImmutableCollections$ListN" (some 22) with
  accessFlags := 48
  interfaces := #[2]
  cf := some (fileOf pool24 8 #[.nestHost 114] #[{ accessFlags := 2, nameIndex := 5, descriptorIndex := 65, attributes := #[] }, { accessFlags := 1, nameIndex := 77, descriptorIndex := 78, attributes := #[] }, { accessFlags := 1, nameIndex := 79, descriptorIndex := 80, attributes := #[] }] 48 2 #[59] #[{ accessFlags := 18, nameIndex := 11, descriptorIndex := 12, attributes := #[] }, { accessFlags := 18, nameIndex := 15, descriptorIndex := 16, attributes := #[] }])
  fields := #[{ name := "elements", type := (.array (.object "java/lang/Object")), accessFlags := 18, slot := 0, constantValue := 0 }, { name := "allowNulls", type := .boolean, accessFlags := 18, slot := 1, constantValue := 0 }]
  methods := #[k24m0, k24m1, k24m2]
  instanceTypes := #[(.array (.object "java/lang/Object")), .boolean]
  staticTypes := #[]
  resolved := Array.replicate 119 none
  statics := none }

def pool25 : Array CpInfo := pool [(2, .class_ 4), (1, u "java/lang/Object"), (0, u "<init>"), (0, u "()V"), (7, .class_ 16), (1, u "java/util/Arrays"), (57, .class_ 76), (1, u "java/util/Arrays$NaturalOrder"), (9, .methodref 2 87), (0, .nameAndType 88 89), (0, u "getClass"), (0, u "()Ljava/lang/Class;"), (20, .class_ 111), (0, u "[Ljava/lang/Object;"), (1, .class_ 115), (1, u "java/util/Arrays$LegacyMergeSort"), (1, u "Z"), (32, .methodref 151 152), (0, .class_ 153), (0, .nameAndType 154 155), (0, u "java/lang/System"), (0, u "arraycopy"), (0, u "(Ljava/lang/Object;ILjava/lang/Object;II)V"), (144, .methodref 14 301), (0, .nameAndType 302 303), (0, u "copyOf"), (0, u "([Ljava/lang/Object;ILjava/lang/Class;)[Ljava/lang/Object;"), (0, .methodref 305 306), (0, .class_ 307), (0, .nameAndType 308 309), (0, u "java/lang/Math"), (0, u "min"), (0, u "(II)I"), (65, .class_ 376), (0, u "java/util/Arrays$ArrayList"), (68, u "$assertionsDisabled"), (269, u "MIN_ARRAY_SORT_GRAN"), (0, u "I"), (2, u "INSERTIONSORT_THRESHOLD"), (140, u "([Ljava/lang/Object;I)[Ljava/lang/Object;"), (114, .class_ 976), (0, u "java/util/Arrays$ArrayItr")] 52

def k25m0 : Method := { name := "<init>", desc := "()V", sig := { parameters := [], returnType := none }, accessFlags := 2, code := none }
def k25c1 : Code := { maxStack := 3, maxLocals := 2, code := jdk_65_method_119_code, exceptionTable := #[], attributes := #[] }
def k25m1 : Method := { name := "copyOf", desc := "([Ljava/lang/Object;I)[Ljava/lang/Object;", sig := { parameters := [(.array (.object "java/lang/Object")), .int], returnType := some (.array (.object "java/lang/Object")) }, accessFlags := 9, code := some k25c1 }
def k25c2 : Code := { maxStack := 6, maxLocals := 4, code := jdk_65_method_120_code, exceptionTable := #[], attributes := #[] }
def k25m2 : Method := { name := "copyOf", desc := "([Ljava/lang/Object;ILjava/lang/Class;)[Ljava/lang/Object;", sig := { parameters := [(.array (.object "java/lang/Object")), .int, (.object "java/lang/Class")], returnType := some (.array (.object "java/lang/Object")) }, accessFlags := 9, code := some k25c2 }
/-- java/util/Arrays -/
def k25 : Class := { plain "java/util/Arrays" (some 0) with
  accessFlags := 49
  interfaces := #[]
  cf := some (fileOf pool25 14 #[.nestMembers #[975, 375, 113, 74]] #[{ accessFlags := 2, nameIndex := 5, descriptorIndex := 6, attributes := #[] }, { accessFlags := 9, nameIndex := 302, descriptorIndex := 860, attributes := #[] }, { accessFlags := 9, nameIndex := 302, descriptorIndex := 303, attributes := #[] }] 49 2 #[] #[{ accessFlags := 26, nameIndex := 715, descriptorIndex := 716, attributes := #[] }, { accessFlags := 26, nameIndex := 719, descriptorIndex := 716, attributes := #[] }, { accessFlags := 4120, nameIndex := 445, descriptorIndex := 117, attributes := #[] }])
  fields := #[{ name := "MIN_ARRAY_SORT_GRAN", type := .int, accessFlags := 26, slot := 0, constantValue := 0 }, { name := "INSERTIONSORT_THRESHOLD", type := .int, accessFlags := 26, slot := 1, constantValue := 0 }, { name := "$assertionsDisabled", type := .boolean, accessFlags := 4120, slot := 2, constantValue := 0 }]
  methods := #[k25m0, k25m1, k25m2]
  instanceTypes := #[]
  staticTypes := #[.int, .int, .boolean]
  resolved := Array.replicate 1029 none
  statics := none }

def pool26 : Array CpInfo := pool [(2, .class_ 4), (1, u "java/lang/Object"), (0, u "<init>"), (0, u "()V"), (1, .class_ 10), (1, u "java/lang/System"), (0, u "allowSecurityManager"), (0, u "I"), (16, u "cons"), (0, u "Ljava/io/Console;"), (77, .class_ 110), (1, u "java/lang/System$CallersHolder"), (43, u "initialErrStream"), (0, u "Ljava/io/PrintStream;"), (19, u "security"), (0, u "Ljava/lang/SecurityManager;"), (31, .class_ 209), (0, u "java/lang/System$1"), (7, u "props"), (0, u "Ljava/util/Properties;"), (2, u "lineSeparator"), (0, u "Ljava/lang/String;"), (96, .class_ 321), (1, u "java/lang/System$LoggerFinder"), (5, .class_ 328), (0, u "java/lang/System$Logger"), (67, u "err"), (2, u "out"), (91, u "notSupportedJnuEncoding"), (15, u "in"), (17, u "initialIn"), (0, u "Ljava/io/InputStream;"), (35, u "bootLayer"), (0, u "Ljava/lang/ModuleLayer;"), (99, .class_ 664), (0, u "java/lang/System$2"), (9, u "NEVER"), (2, u "MAYBE"), (49, u "arraycopy"), (0, u "(Ljava/lang/Object;ILjava/lang/Object;II)V"), (72, .class_ 802), (0, u "java/lang/System$Logger$Level")] 31

def k26m0 : Method := { name := "<init>", desc := "()V", sig := { parameters := [], returnType := none }, accessFlags := 2, code := none }
def k26m1 : Method := { name := "arraycopy", desc := "(Ljava/lang/Object;ILjava/lang/Object;II)V", sig := { parameters := [(.object "java/lang/Object"), .int, (.object "java/lang/Object"), .int, .int], returnType := none }, accessFlags := 265, code := none }
/-- java/lang/System -/
def k26 : Class := { plain "java/lang/System" (some 0) with
  accessFlags := 49
  interfaces := #[]
  cf := some (fileOf pool26 8 #[.nestMembers #[319, 327, 801, 108, 663, 208]] #[{ accessFlags := 2, nameIndex := 5, descriptorIndex := 6, attributes := #[] }, { accessFlags := 265, nameIndex := 727, descriptorIndex := 728, attributes := #[] }] 49 2 #[] #[{ accessFlags := 25, nameIndex := 507, descriptorIndex := 526, attributes := #[] }, { accessFlags := 25, nameIndex := 399, descriptorIndex := 155, attributes := #[] }, { accessFlags := 25, nameIndex := 396, descriptorIndex := 155, attributes := #[] }, { accessFlags := 10, nameIndex := 525, descriptorIndex := 526, attributes := #[] }, { accessFlags := 26, nameIndex := 674, descriptorIndex := 12, attributes := #[] }, { accessFlags := 26, nameIndex := 677, descriptorIndex := 12, attributes := #[] }, { accessFlags := 10, nameIndex := 11, descriptorIndex := 12, attributes := #[] }, { accessFlags := 74, nameIndex := 175, descriptorIndex := 176, attributes := #[] }, { accessFlags := 10, nameIndex := 491, descriptorIndex := 222, attributes := #[] }, { accessFlags := 74, nameIndex := 29, descriptorIndex := 30, attributes := #[] }, { accessFlags := 74, nameIndex := 154, descriptorIndex := 155, attributes := #[] }, { accessFlags := 10, nameIndex := 217, descriptorIndex := 218, attributes := #[] }, { accessFlags := 10, nameIndex := 221, descriptorIndex := 222, attributes := #[] }, { accessFlags := 8, nameIndex := 562, descriptorIndex := 563, attributes := #[] }])
  fields := #[{ name := "in", type := (.object "java/io/InputStream"), accessFlags := 25, slot := 0, constantValue := 0 }, { name := "out", type := (.object "java/io/PrintStream"), accessFlags := 25, slot := 1, constantValue := 0 }, { name := "err", type := (.object "java/io/PrintStream"), accessFlags := 25, slot := 2, constantValue := 0 }, { name := "initialIn", type := (.object "java/io/InputStream"), accessFlags := 10, slot := 3, constantValue := 0 }, { name := "NEVER", type := .int, accessFlags := 26, slot := 4, constantValue := 0 }, { name := "MAYBE", type := .int, accessFlags := 26, slot := 5, constantValue := 0 }, { name := "allowSecurityManager", type := .int, accessFlags := 10, slot := 6, constantValue := 0 }, { name := "security", type := (.object "java/lang/SecurityManager"), accessFlags := 74, slot := 7, constantValue := 0 }, { name := "notSupportedJnuEncoding", type := (.object "java/lang/String"), accessFlags := 10, slot := 8, constantValue := 0 }, { name := "cons", type := (.object "java/io/Console"), accessFlags := 74, slot := 9, constantValue := 0 }, { name := "initialErrStream", type := (.object "java/io/PrintStream"), accessFlags := 74, slot := 10, constantValue := 0 }, { name := "props", type := (.object "java/util/Properties"), accessFlags := 10, slot := 11, constantValue := 0 }, { name := "lineSeparator", type := (.object "java/lang/String"), accessFlags := 10, slot := 12, constantValue := 0 }, { name := "bootLayer", type := (.object "java/lang/ModuleLayer"), accessFlags := 8, slot := 13, constantValue := 0 }]
  methods := #[k26m0, k26m1]
  instanceTypes := #[]
  staticTypes := #[(.object "java/io/InputStream"), (.object "java/io/PrintStream"), (.object "java/io/PrintStream"), (.object "java/io/InputStream"), .int, .int, .int, (.object "java/lang/SecurityManager"), (.object "java/lang/String"), (.object "java/io/Console"), (.object "java/io/PrintStream"), (.object "java/util/Properties"), (.object "java/lang/String"), (.object "java/lang/ModuleLayer")]
  resolved := Array.replicate 834 none
  statics := none }

def pool27 : Array CpInfo := pool [(2, .class_ 4), (1, u "java/lang/Object"), (0, u "<init>"), (0, u "()V"), (35, .class_ 44), (1, u "java/util/Objects"), (0, u "requireNonNull"), (0, u "(Ljava/lang/Object;)Ljava/lang/Object;")] 137

def k27m0 : Method := { name := "<init>", desc := "()V", sig := { parameters := [], returnType := none }, accessFlags := 2, code := none }
def k27c1 : Code := { maxStack := 2, maxLocals := 1, code := jdk_31_method_10_code, exceptionTable := #[], attributes := #[] }
def k27m1 : Method := { name := "requireNonNull", desc := "(Ljava/lang/Object;)Ljava/lang/Object;", sig := { parameters := [(.object "java/lang/Object")], returnType := some (.object "java/lang/Object") }, accessFlags := 9, code := some k27c1 }
/-- java/util/Objects -/
def k27 : Class := { plain "java/util/Objects" (some 0) with
  accessFlags := 49
  interfaces := #[]
  cf := some (fileOf pool27 42 #[] #[{ accessFlags := 2, nameIndex := 5, descriptorIndex := 6, attributes := #[] }, { accessFlags := 9, nameIndex := 45, descriptorIndex := 46, attributes := #[] }] 49 2 #[] #[])
  fields := #[]
  methods := #[k27m0, k27m1]
  instanceTypes := #[]
  staticTypes := #[]
  resolved := Array.replicate 184 none
  statics := none }

def pool28 : Array CpInfo := pool [(4, .class_ 6), (1, u "java/lang/Object"), (0, u "<init>"), (0, u "()V"), (5, .class_ 16), (1, u "java/lang/StringLatin1"), (73, u "canEncode"), (14, u "(C)Z"), (15, u "$assertionsDisabled"), (0, u "Z"), (98, .class_ 223), (1, u "java/lang/StringLatin1$LinesSpliterator"), (156, u "toBytes"), (1, u "(C)[B"), (7, .class_ 391), (0, u "java/lang/StringLatin1$CharsSpliterator")] 3

def k28m0 : Method := { name := "<init>", desc := "()V", sig := { parameters := [], returnType := none }, accessFlags := 0, code := none }
def k28c1 : Code := { maxStack := 2, maxLocals := 1, code := jdk_43_method_3_code, exceptionTable := #[], attributes := #[] }
def k28m1 : Method := { name := "canEncode", desc := "(C)Z", sig := { parameters := [.char], returnType := some .boolean }, accessFlags := 9, code := some k28c1 }
def k28c2 : Code := { maxStack := 4, maxLocals := 1, code := jdk_43_method_46_code, exceptionTable := #[], attributes := #[] }
def k28m2 : Method := { name := "toBytes", desc := "(C)[B", sig := { parameters := [.char], returnType := some (.array .byte) }, accessFlags := 9, code := some k28c2 }
/-- java/lang/StringLatin1 -/
def k28 : Class := { plain "java/lang/StringLatin1" (some 0) with
  accessFlags := 48
  interfaces := #[]
  cf := some (fileOf pool28 14 #[.nestMembers #[390, 221]] #[{ accessFlags := 0, nameIndex := 7, descriptorIndex := 8, attributes := #[] }, { accessFlags := 9, nameIndex := 90, descriptorIndex := 105, attributes := #[] }, { accessFlags := 9, nameIndex := 380, descriptorIndex := 382, attributes := #[] }] 48 4 #[] #[{ accessFlags := 4120, nameIndex := 121, descriptorIndex := 122, attributes := #[] }])
  fields := #[{ name := "$assertionsDisabled", type := .boolean, accessFlags := 4120, slot := 0, constantValue := 0 }]
  methods := #[k28m0, k28m1, k28m2]
  instanceTypes := #[]
  staticTypes := #[.boolean]
  resolved := Array.replicate 395 none
  statics := none }

def pool29 : Array CpInfo := pool [(6, .class_ 8), (1, u "java/lang/Object"), (0, u "<init>"), (0, u "()V"), (1, .class_ 14), (1, u "java/lang/StringUTF16"), (31, u "$assertionsDisabled"), (0, u "Z"), (13, u "HI_BYTE_SHIFT"), (0, u "I"), (2, u "LO_BYTE_SHIFT"), (49, .methodref 12 116), (0, .nameAndType 117 118), (0, u "compress"), (0, u "([CI[BII)I"), (3, u "([CII)[B"), (138, u "coderFromArrayLen"), (0, u "([BI)B"), (106, .class_ 371), (1, u "java/lang/StringUTF16$LinesSpliterator"), (58, u "MAX_LENGTH"), (196, .class_ 628), (0, u "java/lang/StringUTF16$CodePointsSpliterator"), (0, .class_ 630), (0, u "java/lang/StringUTF16$CharsSpliterator")] 4

def k29m0 : Method := { name := "<init>", desc := "()V", sig := { parameters := [], returnType := none }, accessFlags := 0, code := none }
def k29c1 : Code := { maxStack := 2, maxLocals := 2, code := jdk_52_method_15_code, exceptionTable := #[], attributes := #[] }
def k29m1 : Method := { name := "coderFromArrayLen", desc := "([BI)B", sig := { parameters := [(.array .byte), .int], returnType := some .byte }, accessFlags := 8, code := some k29c1 }
def k29c2 : Code := { maxStack := 5, maxLocals := 6, code := jdk_52_method_16_code, exceptionTable := #[], attributes := #[] }
def k29m2 : Method := { name := "compress", desc := "([CII)[B", sig := { parameters := [(.array .char), .int, .int], returnType := some (.array .byte) }, accessFlags := 9, code := some k29c2 }
def k29c3 : Code := { maxStack := 3, maxLocals := 7, code := jdk_52_method_21_code, exceptionTable := #[], attributes := #[] }
def k29m3 : Method := { name := "compress", desc := "([CI[BII)I", sig := { parameters := [(.array .char), .int, (.array .byte), .int, .int], returnType := some .int }, accessFlags := 9, code := some k29c3 }
/-- java/lang/StringUTF16 -/
def k29 : Class := { plain "java/lang/StringUTF16" (some 0) with
  accessFlags := 48
  interfaces := #[]
  cf := some (fileOf pool29 12 #[.nestMembers #[627, 629, 369]] #[{ accessFlags := 0, nameIndex := 9, descriptorIndex := 10, attributes := #[] }, { accessFlags := 8, nameIndex := 261, descriptorIndex := 262, attributes := #[] }, { accessFlags := 9, nameIndex := 117, descriptorIndex := 122, attributes := #[] }, { accessFlags := 9, nameIndex := 117, descriptorIndex := 118, attributes := #[] }] 48 6 #[] #[{ accessFlags := 26, nameIndex := 61, descriptorIndex := 62, attributes := #[] }, { accessFlags := 26, nameIndex := 65, descriptorIndex := 62, attributes := #[] }, { accessFlags := 24, nameIndex := 430, descriptorIndex := 62, attributes := #[] }, { accessFlags := 4120, nameIndex := 46, descriptorIndex := 47, attributes := #[] }])
  fields := #[{ name := "HI_BYTE_SHIFT", type := .int, accessFlags := 26, slot := 0, constantValue := 0 }, { name := "LO_BYTE_SHIFT", type := .int, accessFlags := 26, slot := 1, constantValue := 0 }, { name := "MAX_LENGTH", type := .int, accessFlags := 24, slot := 2, constantValue := 0 }, { name := "$assertionsDisabled", type := .boolean, accessFlags := 4120, slot := 3, constantValue := 0 }]
  methods := #[k29m0, k29m1, k29m2, k29m3]
  instanceTypes := #[]
  staticTypes := #[.int, .int, .int, .boolean]
  resolved := Array.replicate 635 none
  statics := none }

def pool30 : Array CpInfo := pool [(2, .class_ 4), (1, u "java/lang/Object"), (0, u "<init>"), (0, u "()V"), (17, .class_ 26), (1, u "jdk/internal/util/Preconditions"), (28, .class_ 56), (0, u "jdk/internal/util/Preconditions$4"), (57, .class_ 115), (0, u "jdk/internal/util/Preconditions$1"), (7, u "SIOOBE_FORMATTER"), (0, u "Ljava/util/function/BiFunction;"), (0, .class_ 126), (0, u "jdk/internal/util/Preconditions$2"), (3, u "AIOOBE_FORMATTER"), (0, .class_ 132), (0, u "jdk/internal/util/Preconditions$3"), (3, u "IOOBE_FORMATTER")] 57

def k30m0 : Method := { name := "<init>", desc := "()V", sig := { parameters := [], returnType := none }, accessFlags := 1, code := none }
/-- jdk/internal/util/Preconditions -/
def k30 : Class := { plain "jdk/internal/util/Preconditions" (some 0) with
  accessFlags := 33
  interfaces := #[]
  cf := some (fileOf pool30 24 #[.nestMembers #[55, 131, 125, 114]] #[{ accessFlags := 1, nameIndex := 5, descriptorIndex := 6, attributes := #[] }] 33 2 #[] #[{ accessFlags := 25, nameIndex := 123, descriptorIndex := 124, attributes := #[] }, { accessFlags := 25, nameIndex := 130, descriptorIndex := 124, attributes := #[] }, { accessFlags := 25, nameIndex := 136, descriptorIndex := 124, attributes := #[] }])
  fields := #[{ name := "SIOOBE_FORMATTER", type := (.object "java/util/function/BiFunction"), accessFlags := 25, slot := 0, constantValue := 0 }, { name := "AIOOBE_FORMATTER", type := (.object "java/util/function/BiFunction"), accessFlags := 25, slot := 1, constantValue := 0 }, { name := "IOOBE_FORMATTER", type := (.object "java/util/function/BiFunction"), accessFlags := 25, slot := 2, constantValue := 0 }]
  methods := #[k30m0]
  instanceTypes := #[]
  staticTypes := #[(.object "java/util/function/BiFunction"), (.object "java/util/function/BiFunction"), (.object "java/util/function/BiFunction")]
  resolved := Array.replicate 194 none
  statics := some 3 }

def pool31 : Array CpInfo := pool [(9, u "<init>"), (6, .class_ 18), (1, u "java/lang/Object"), (0, u "()V"), (1, .class_ 23), (1, u "jdk/internal/util/ArraysSupport"), (0, u "LOG2_ARRAY_LONG_INDEX_SCALE"), (0, u "I"), (2, u "U"), (0, u "Ljdk/internal/misc/Unsafe;"), (8, u "BIG_ENDIAN"), (0, u "Z"), (8, u "LOG2_BYTE_BIT_SIZE"), (4, u "LOG2_ARRAY_INT_INDEX_SCALE"), (54, u "JLA"), (0, u "Ljdk/internal/access/JavaLangAccess;"), (11, u "LOG2_ARRAY_BOOLEAN_INDEX_SCALE"), (9, u "LOG2_ARRAY_BYTE_INDEX_SCALE"), (5, u "LOG2_ARRAY_CHAR_INDEX_SCALE"), (5, u "LOG2_ARRAY_SHORT_INDEX_SCALE"), (18, u "LOG2_ARRAY_FLOAT_INDEX_SCALE"), (24, u "LOG2_ARRAY_DOUBLE_INDEX_SCALE"), (89, u "T_BOOLEAN"), (2, u "T_CHAR"), (1, u "T_FLOAT"), (1, u "T_DOUBLE"), (1, u "T_BYTE"), (1, u "T_SHORT"), (1, u "T_INT"), (1, u "T_LONG"), (1, u "SOFT_MAX_ARRAY_LENGTH")] 83

def k31m0 : Method := { name := "<init>", desc := "()V", sig := { parameters := [], returnType := none }, accessFlags := 2, code := none }
/-- jdk/internal/util/ArraysSupport -/
def k31 : Class := { plain "jdk/internal/util/ArraysSupport" (some 0) with
  accessFlags := 33
  interfaces := #[]
  cf := some (fileOf pool31 21 #[] #[{ accessFlags := 2, nameIndex := 9, descriptorIndex := 19, attributes := #[] }] 33 16 #[] #[{ accessFlags := 24, nameIndex := 28, descriptorIndex := 29, attributes := #[] }, { accessFlags := 26, nameIndex := 38, descriptorIndex := 39, attributes := #[] }, { accessFlags := 25, nameIndex := 121, descriptorIndex := 25, attributes := #[] }, { accessFlags := 25, nameIndex := 131, descriptorIndex := 25, attributes := #[] }, { accessFlags := 25, nameIndex := 137, descriptorIndex := 25, attributes := #[] }, { accessFlags := 25, nameIndex := 143, descriptorIndex := 25, attributes := #[] }, { accessFlags := 25, nameIndex := 53, descriptorIndex := 25, attributes := #[] }, { accessFlags := 25, nameIndex := 24, descriptorIndex := 25, attributes := #[] }, { accessFlags := 25, nameIndex := 162, descriptorIndex := 25, attributes := #[] }, { accessFlags := 25, nameIndex := 187, descriptorIndex := 25, attributes := #[] }, { accessFlags := 26, nameIndex := 48, descriptorIndex := 25, attributes := #[] }, { accessFlags := 25, nameIndex := 277, descriptorIndex := 25, attributes := #[] }, { accessFlags := 25, nameIndex := 280, descriptorIndex := 25, attributes := #[] }, { accessFlags := 25, nameIndex := 282, descriptorIndex := 25, attributes := #[] }, { accessFlags := 25, nameIndex := 284, descriptorIndex := 25, attributes := #[] }, { accessFlags := 25, nameIndex := 286, descriptorIndex := 25, attributes := #[] }, { accessFlags := 25, nameIndex := 288, descriptorIndex := 25, attributes := #[] }, { accessFlags := 25, nameIndex := 290, descriptorIndex := 25, attributes := #[] }, { accessFlags := 25, nameIndex := 292, descriptorIndex := 25, attributes := #[] }, { accessFlags := 26, nameIndex := 108, descriptorIndex := 109, attributes := #[] }, { accessFlags := 25, nameIndex := 294, descriptorIndex := 25, attributes := #[] }])
  fields := #[{ name := "U", type := (.object "jdk/internal/misc/Unsafe"), accessFlags := 24, slot := 0, constantValue := 0 }, { name := "BIG_ENDIAN", type := .boolean, accessFlags := 26, slot := 1, constantValue := 0 }, { name := "LOG2_ARRAY_BOOLEAN_INDEX_SCALE", type := .int, accessFlags := 25, slot := 2, constantValue := 0 }, { name := "LOG2_ARRAY_BYTE_INDEX_SCALE", type := .int, accessFlags := 25, slot := 3, constantValue := 0 }, { name := "LOG2_ARRAY_CHAR_INDEX_SCALE", type := .int, accessFlags := 25, slot := 4, constantValue := 0 }, { name := "LOG2_ARRAY_SHORT_INDEX_SCALE", type := .int, accessFlags := 25, slot := 5, constantValue := 0 }, { name := "LOG2_ARRAY_INT_INDEX_SCALE", type := .int, accessFlags := 25, slot := 6, constantValue := 0 }, { name := "LOG2_ARRAY_LONG_INDEX_SCALE", type := .int, accessFlags := 25, slot := 7, constantValue := 0 }, { name := "LOG2_ARRAY_FLOAT_INDEX_SCALE", type := .int, accessFlags := 25, slot := 8, constantValue := 0 }, { name := "LOG2_ARRAY_DOUBLE_INDEX_SCALE", type := .int, accessFlags := 25, slot := 9, constantValue := 0 }, { name := "LOG2_BYTE_BIT_SIZE", type := .int, accessFlags := 26, slot := 10, constantValue := 0 }, { name := "T_BOOLEAN", type := .int, accessFlags := 25, slot := 11, constantValue := 0 }, { name := "T_CHAR", type := .int, accessFlags := 25, slot := 12, constantValue := 0 }, { name := "T_FLOAT", type := .int, accessFlags := 25, slot := 13, constantValue := 0 }, { name := "T_DOUBLE", type := .int, accessFlags := 25, slot := 14, constantValue := 0 }, { name := "T_BYTE", type := .int, accessFlags := 25, slot := 15, constantValue := 0 }, { name := "T_SHORT", type := .int, accessFlags := 25, slot := 16, constantValue := 0 }, { name := "T_INT", type := .int, accessFlags := 25, slot := 17, constantValue := 0 }, { name := "T_LONG", type := .int, accessFlags := 25, slot := 18, constantValue := 0 }, { name := "JLA", type := (.object "jdk/internal/access/JavaLangAccess"), accessFlags := 26, slot := 19, constantValue := 0 }, { name := "SOFT_MAX_ARRAY_LENGTH", type := .int, accessFlags := 25, slot := 20, constantValue := 0 }]
  methods := #[k31m0]
  instanceTypes := #[]
  staticTypes := #[(.object "jdk/internal/misc/Unsafe"), .boolean, .int, .int, .int, .int, .int, .int, .int, .int, .int, .int, .int, .int, .int, .int, .int, .int, .int, (.object "jdk/internal/access/JavaLangAccess"), .int]
  resolved := Array.replicate 378 none
  statics := none }

def pool32 : Array CpInfo := pool [(1, u "java/lang/Class"), (0, .class_ 1), (0, u "java/lang/Object"), (0, .class_ 3)] 3

/-- java/lang/Class -/
def k32 : Class := { plain "java/lang/Class" (some 0) with
  accessFlags := 49
  interfaces := #[]
  cf := some (fileOf pool32 2 #[] #[] 49 4 #[] #[])
  fields := #[]
  methods := #[]
  instanceTypes := #[]
  staticTypes := #[]
  resolved := Array.replicate 8 none
  statics := none }

/-- the primitive byte -/
def k33 : Class := { plain "byte" none with kind := .primitive 'B', accessFlags := 0x411 }
/-- [B -/
def k34 : Class := { plain "[B" (some 0) with kind := .array 33 .byte, interfaces := #[15, 2], accessFlags := 1041 }

/-- the primitive char -/
def k35 : Class := { plain "char" none with kind := .primitive 'C', accessFlags := 0x411 }
/-- [C -/
def k36 : Class := { plain "[C" (some 0) with kind := .array 35 .char, interfaces := #[15, 2], accessFlags := 1041 }

/-- the primitive int -/
def k37 : Class := { plain "int" none with kind := .primitive 'I', accessFlags := 0x411 }
/-- [I -/
def k38 : Class := { plain "[I" (some 0) with kind := .array 37 .int, interfaces := #[15, 2], accessFlags := 1041 }

/-- [Ljava/lang/Object; -/
def k39 : Class := { plain "[Ljava/lang/Object;" (some 0) with kind := .array 0 (.object "java/lang/Object"), interfaces := #[15, 2], accessFlags := 1041, mirror := some 4 }

def heap : Heap := #[{ cls := 7, slots := #[.long 0, .int 1, .null, .int 0, .null, .int 0, .int 0], vm := .statics 7 },
  { cls := 16, slots := #[.long 0, .int 0, .ref 5, .ref 6], vm := .statics 16 },
  { cls := 20, slots := #[.long 0, .int 0, .null, .ref 7, .ref 8, .null, .null, .null, .int 0, .int 1], vm := .statics 20 },
  { cls := 30, slots := #[.null, .null, .null], vm := .statics 30 },
  { cls := 32, slots := #[], vm := .mirror 39 },
  { cls := 39, slots := #[], vm := .none },
  { cls := 39, slots := #[], vm := .none },
  { cls := 0, slots := #[], vm := .none },
  { cls := 24, slots := #[.null, .int 0], vm := .none }]
def classes : Array Class := #[k0, k1, k2, k3, k4, k5, k6, k7, k8, k9, k10, k11, k12, k13, k14, k15, k16, k17, k18, k19, k20, k21, k22, k23, k24, k25, k26, k27, k28, k29, k30, k31, k32, k33, k34, k35, k36, k37, k38, k39]
def interned : List (Array UInt16 × Addr) := []
def slotsUsed : Nat := 26
def theMethod : MethodId := ⟨1, 2⟩
def args0 : Array Value := #[.int 5, .int 5, .int 5, .int 5]
def aboutOver (below : List Frame) : State where
  vm := { classes := classes, interned := interned.toArray }
  heap := heap
  slotsUsed := slotsUsed
  threads := #[{ frames := .invoking theMethod args0 :: below }]
def below0 : List Frame := [.native { method := ⟨0, 0⟩, args := #[] }]
def about1 : State := aboutOver below0
def p0 : Program := .bare "" "" ""
def e0 : Env := launch0.env 0 0 0
theorem w_frames : about1.frames = Frame.invoking theMethod args0 :: below0 := rfl
set_option maxRecDepth 65536 in
theorem w_args : argsFit about1.vm theMethod args0 = true := by decide +kernel
set_option maxRecDepth 65536 in
theorem w_heap : heapFits about1 = true := by decide +kernel
set_option maxRecDepth 65536 in
theorem w_runnable : about1.curStatus? = some .runnable := by decide +kernel
set_option maxRecDepth 65536 in
theorem w_alone : about1.alone = true := by decide +kernel
set_option maxRecDepth 65536 in
theorem w_named : about1.methodNamed? x = some theMethod := by decide +kernel
set_option maxRecDepth 65536 in
theorem w_hears : about1.hears theMethod below0 = true := by decide +kernel
set_option maxRecDepth 65536 in
theorem w_ripe : about1.ripe theMethod args0 below0 = true := by decide +kernel
theorem w_running : about1.status = .running := rfl
set_option maxRecDepth 65536 in
theorem w_room : about1.hasRoom e0.platform room_1 = true :=
  launch0.hasRoom_least _ room_1 (by decide +kernel) (by decide +kernel) (by decide +kernel) (by decide +kernel) (by decide +kernel) (by decide +kernel)
theorem allAtoms_all (ts : List Jvm.Cond) (a : Array Jvm.Value) (st : Jvm.State) : (allAtoms ts).before a st = ts.all (fun c => c.before a st) := by
  induction ts with
  | nil => rfl
  | cons c t ih =>
    show (Jvm.Cond.and c (allAtoms t)).before a st = _
    rw [Jvm.Cond.before_and, ih, List.all_cons]
def words1 : List Jvm.Cond := Jvm.Cond.code x code maxLocals ret :: tables_1
/-- a 'code' word, met by the world's own term for the bytes: nothing is compared byte by byte -/
theorem code_word {y : MethodName} {bytes : ByteArray} {mx : Nat} {rt : Option FieldType} {a : Array Value} {s : State} {m : MethodId} {meth : Method} {c : Code} (h1 : s.methodNamed? y = some m) (h2 : s.vm.method? m = some meth) (h3 : meth.code = some c) (h4 : c.code = bytes)
    (h5 : (c.maxLocals == mx && c.exceptionTable.isEmpty && decide (c.maxStack ≤ mostOperands) && decide (meth.sig.returnType = rt) && !meth.locks && decide (parseMethodDescriptor y.desc = some meth.sig)) = true) : (Jvm.Cond.code y bytes mx rt).before a s = true := by
  simp only [Bool.and_eq_true, beq_iff_eq, Bool.not_eq_true', decide_eq_true_eq] at h5
  obtain ⟨⟨⟨⟨⟨g1, g2⟩, g3⟩, g4⟩, g5⟩, g6⟩ := h5
  simp [Cond.before, Cond.holds, Cond.value, h1, h2, h3, h4, g1, g2, g3, g4, g5, g6]
def isCode : Jvm.Cond → Bool
  | .code _ _ _ _ => true
  | _ => false
theorem all_split {L : List Jvm.Cond} {P : Jvm.Cond → Bool} (h1 : L.all (fun c => isCode c || P c) = true) (h2 : ∀ c ∈ L.filter isCode, P c = true) : L.all P = true := by
  refine List.all_eq_true.mpr fun c hc => ?_
  have h := List.all_eq_true.mp h1 c hc
  rcases Bool.eq_false_or_eq_true (isCode c) with hi | hi
  · exact h2 c (List.mem_filter.mpr ⟨hc, hi⟩)
  · simpa [hi] using h
set_option maxRecDepth 65536 in
theorem w_c0 : (Jvm.Cond.code x code maxLocals ret).before args0 about1 = true := code_word (m := ⟨1, 2⟩) (meth := k1m2) (c := k1c2) (by decide +kernel) rfl rfl rfl (by decide +kernel)
set_option maxRecDepth 65536 in
theorem w_c1 : (Jvm.Cond.code ({ cls := "com/example/indexwright/indexwright/TomlKeyLinesKeyNamePinLaw", name := "drawn", desc := "(I)Ljava/lang/String;" } : Jvm.MethodName) method_2_code (5 : Nat) (Option.some (Jvm.ClassFile.FieldType.object "java/lang/String"))).before args0 about1 = true := code_word (m := ⟨1, 1⟩) (meth := k1m1) (c := k1c1) (by decide +kernel) rfl rfl rfl (by decide +kernel)
set_option maxRecDepth 65536 in
theorem w_c2 : (Jvm.Cond.code ({ cls := "java/lang/String", name := "<init>", desc := "([C)V" } : Jvm.MethodName) jdk_42_method_3_code (2 : Nat) (Option.none : Option Jvm.ClassFile.FieldType)).before args0 about1 = true := code_word (m := ⟨7, 1⟩) (meth := k7m1) (c := k7c1) (by decide +kernel) rfl rfl rfl (by decide +kernel)
set_option maxRecDepth 65536 in
theorem w_c3 : (Jvm.Cond.code ({ cls := "java/lang/String", name := "<init>", desc := "([CIILjava/lang/Void;)V" } : Jvm.MethodName) jdk_42_method_149_code (6 : Nat) (Option.none : Option Jvm.ClassFile.FieldType)).before args0 about1 = true := code_word (m := ⟨7, 4⟩) (meth := k7m4) (c := k7c4) (by decide +kernel) rfl rfl rfl (by decide +kernel)
set_option maxRecDepth 65536 in
theorem w_c4 : (Jvm.Cond.code ({ cls := "java/lang/Object", name := "<init>", desc := "()V" } : Jvm.MethodName) object_method_1_code (1 : Nat) (Option.none : Option Jvm.ClassFile.FieldType)).before args0 about1 = true := code_word (m := ⟨0, 0⟩) (meth := k0m0) (c := k0c0) (by decide +kernel) rfl rfl rfl (by decide +kernel)
set_option maxRecDepth 65536 in
theorem w_c5 : (Jvm.Cond.code ({ cls := "java/util/ArrayList", name := "<init>", desc := "()V" } : Jvm.MethodName) jdk_38_method_2_code (1 : Nat) (Option.none : Option Jvm.ClassFile.FieldType)).before args0 about1 = true := code_word (m := ⟨16, 0⟩) (meth := k16m0) (c := k16c0) (by decide +kernel) rfl rfl rfl (by decide +kernel)
set_option maxRecDepth 65536 in
theorem w_c6 : (Jvm.Cond.code ({ cls := "java/util/AbstractList", name := "<init>", desc := "()V" } : Jvm.MethodName) jdk_39_method_1_code (1 : Nat) (Option.none : Option Jvm.ClassFile.FieldType)).before args0 about1 = true := code_word (m := ⟨13, 0⟩) (meth := k13m0) (c := k13c0) (by decide +kernel) rfl rfl rfl (by decide +kernel)
set_option maxRecDepth 65536 in
theorem w_c7 : (Jvm.Cond.code ({ cls := "java/util/AbstractCollection", name := "<init>", desc := "()V" } : Jvm.MethodName) jdk_22_method_1_code (1 : Nat) (Option.none : Option Jvm.ClassFile.FieldType)).before args0 about1 = true := code_word (m := ⟨10, 0⟩) (meth := k10m0) (c := k10c0) (by decide +kernel) rfl rfl rfl (by decide +kernel)
set_option maxRecDepth 65536 in
theorem w_c8 : (Jvm.Cond.code ({ cls := "java/util/ArrayList", name := "add", desc := "(Ljava/lang/Object;)Z" } : Jvm.MethodName) jdk_38_method_25_code (2 : Nat) (Option.some Jvm.ClassFile.FieldType.boolean)).before args0 about1 = true := code_word (m := ⟨16, 6⟩) (meth := k16m6) (c := k16c6) (by decide +kernel) rfl rfl rfl (by decide +kernel)
set_option maxRecDepth 65536 in
theorem w_c9 : (Jvm.Cond.code ({ cls := "java/util/ArrayList", name := "add", desc := "(Ljava/lang/Object;[Ljava/lang/Object;I)V" } : Jvm.MethodName) jdk_38_method_24_code (4 : Nat) (Option.none : Option Jvm.ClassFile.FieldType)).before args0 about1 = true := code_word (m := ⟨16, 5⟩) (meth := k16m5) (c := k16c5) (by decide +kernel) rfl rfl rfl (by decide +kernel)
set_option maxRecDepth 65536 in
theorem w_c10 : (Jvm.Cond.code ({ cls := "java/util/ArrayList", name := "grow", desc := "()[Ljava/lang/Object;" } : Jvm.MethodName) jdk_38_method_7_code (1 : Nat) (Option.some (Jvm.ClassFile.FieldType.array (Jvm.ClassFile.FieldType.object "java/lang/Object")))).before args0 about1 = true := code_word (m := ⟨16, 2⟩) (meth := k16m2) (c := k16c2) (by decide +kernel) rfl rfl rfl (by decide +kernel)
set_option maxRecDepth 65536 in
theorem w_c11 : (Jvm.Cond.code ({ cls := "java/util/ArrayList", name := "grow", desc := "(I)[Ljava/lang/Object;" } : Jvm.MethodName) jdk_38_method_6_code (4 : Nat) (Option.some (Jvm.ClassFile.FieldType.array (Jvm.ClassFile.FieldType.object "java/lang/Object")))).before args0 about1 = true := code_word (m := ⟨16, 1⟩) (meth := k16m1) (c := k16c1) (by decide +kernel) rfl rfl rfl (by decide +kernel)
set_option maxRecDepth 65536 in
theorem w_c12 : (Jvm.Cond.code ({ cls := "java/lang/Math", name := "max", desc := "(II)I" } : Jvm.MethodName) jdk_29_method_65_code (2 : Nat) (Option.some Jvm.ClassFile.FieldType.int)).before args0 about1 = true := code_word (m := ⟨17, 1⟩) (meth := k17m1) (c := k17c1) (by decide +kernel) rfl rfl rfl (by decide +kernel)
set_option maxRecDepth 65536 in
theorem w_c13 : (Jvm.Cond.code ({ cls := "com/example/indexwright/indexwright/TomlKeyLines$Key", name := "<init>", desc := "(Ljava/util/List;)V" } : Jvm.MethodName) prog_12_method_1_code (2 : Nat) (Option.none : Option Jvm.ClassFile.FieldType)).before args0 about1 = true := code_word (m := ⟨19, 0⟩) (meth := k19m0) (c := k19c0) (by decide +kernel) rfl rfl rfl (by decide +kernel)
set_option maxRecDepth 65536 in
theorem w_c14 : (Jvm.Cond.code ({ cls := "java/lang/Record", name := "<init>", desc := "()V" } : Jvm.MethodName) jdk_30_method_1_code (1 : Nat) (Option.none : Option Jvm.ClassFile.FieldType)).before args0 about1 = true := code_word (m := ⟨18, 0⟩) (meth := k18m0) (c := k18c0) (by decide +kernel) rfl rfl rfl (by decide +kernel)
set_option maxRecDepth 65536 in
theorem w_c15 : (Jvm.Cond.code ({ cls := "java/util/List", name := "copyOf", desc := "(Ljava/util/Collection;)Ljava/util/List;" } : Jvm.MethodName) jdk_40_method_48_code (1 : Nat) (Option.some (Jvm.ClassFile.FieldType.object "java/util/List"))).before args0 about1 = true := code_word (m := ⟨12, 4⟩) (meth := k12m4) (c := k12c4) (by decide +kernel) rfl rfl rfl (by decide +kernel)
set_option maxRecDepth 65536 in
theorem w_c16 : (Jvm.Cond.code ({ cls := "java/util/ImmutableCollections", name := "listCopy", desc := "(Ljava/util/Collection;)Ljava/util/List;" } : Jvm.MethodName) jdk_56_method_3_code (2 : Nat) (Option.some (Jvm.ClassFile.FieldType.object "java/util/List"))).before args0 about1 = true := code_word (m := ⟨20, 1⟩) (meth := k20m1) (c := k20c1) (by decide +kernel) rfl rfl rfl (by decide +kernel)
set_option maxRecDepth 65536 in
theorem w_c17 : (Jvm.Cond.code ({ cls := "java/util/ArrayList", name := "isEmpty", desc := "()Z" } : Jvm.MethodName) jdk_38_method_9_code (1 : Nat) (Option.some Jvm.ClassFile.FieldType.boolean)).before args0 about1 = true := code_word (m := ⟨16, 3⟩) (meth := k16m3) (c := k16c3) (by decide +kernel) rfl rfl rfl (by decide +kernel)
set_option maxRecDepth 65536 in
theorem w_c18 : (Jvm.Cond.code ({ cls := "java/util/ArrayList", name := "toArray", desc := "()[Ljava/lang/Object;" } : Jvm.MethodName) jdk_38_method_16_code (1 : Nat) (Option.some (Jvm.ClassFile.FieldType.array (Jvm.ClassFile.FieldType.object "java/lang/Object")))).before args0 about1 = true := code_word (m := ⟨16, 4⟩) (meth := k16m4) (c := k16c4) (by decide +kernel) rfl rfl rfl (by decide +kernel)
set_option maxRecDepth 65536 in
theorem w_c19 : (Jvm.Cond.code ({ cls := "java/util/Arrays", name := "copyOf", desc := "([Ljava/lang/Object;I)[Ljava/lang/Object;" } : Jvm.MethodName) jdk_65_method_119_code (2 : Nat) (Option.some (Jvm.ClassFile.FieldType.array (Jvm.ClassFile.FieldType.object "java/lang/Object")))).before args0 about1 = true := code_word (m := ⟨25, 1⟩) (meth := k25m1) (c := k25c1) (by decide +kernel) rfl rfl rfl (by decide +kernel)
set_option maxRecDepth 65536 in
theorem w_c20 : (Jvm.Cond.code ({ cls := "java/util/Arrays", name := "copyOf", desc := "([Ljava/lang/Object;ILjava/lang/Class;)[Ljava/lang/Object;" } : Jvm.MethodName) jdk_65_method_120_code (4 : Nat) (Option.some (Jvm.ClassFile.FieldType.array (Jvm.ClassFile.FieldType.object "java/lang/Object")))).before args0 about1 = true := code_word (m := ⟨25, 2⟩) (meth := k25m2) (c := k25c2) (by decide +kernel) rfl rfl rfl (by decide +kernel)
set_option maxRecDepth 65536 in
theorem w_c21 : (Jvm.Cond.code ({ cls := "java/lang/Math", name := "min", desc := "(II)I" } : Jvm.MethodName) jdk_29_method_69_code (2 : Nat) (Option.some Jvm.ClassFile.FieldType.int)).before args0 about1 = true := code_word (m := ⟨17, 2⟩) (meth := k17m2) (c := k17c2) (by decide +kernel) rfl rfl rfl (by decide +kernel)
set_option maxRecDepth 65536 in
theorem w_c22 : (Jvm.Cond.code ({ cls := "java/util/List", name := "of", desc := "([Ljava/lang/Object;)Ljava/util/List;" } : Jvm.MethodName) jdk_40_method_47_code (2 : Nat) (Option.some (Jvm.ClassFile.FieldType.object "java/util/List"))).before args0 about1 = true := code_word (m := ⟨12, 3⟩) (meth := k12m3) (c := k12c3) (by decide +kernel) rfl rfl rfl (by decide +kernel)
set_option maxRecDepth 65536 in
theorem w_c23 : (Jvm.Cond.code ({ cls := "java/util/ImmutableCollections$List12", name := "<init>", desc := "(Ljava/lang/Object;)V" } : Jvm.MethodName) jdk_44_method_1_code (2 : Nat) (Option.none : Option Jvm.ClassFile.FieldType)).before args0 about1 = true := code_word (m := ⟨23, 0⟩) (meth := k23m0) (c := k23c0) (by decide +kernel) rfl rfl rfl (by decide +kernel)
set_option maxRecDepth 65536 in
theorem w_c24 : (Jvm.Cond.code ({ cls := "java/util/ImmutableCollections$AbstractImmutableList", name := "<init>", desc := "()V" } : Jvm.MethodName) jdk_46_method_1_code (1 : Nat) (Option.none : Option Jvm.ClassFile.FieldType)).before args0 about1 = true := code_word (m := ⟨22, 0⟩) (meth := k22m0) (c := k22c0) (by decide +kernel) rfl rfl rfl (by decide +kernel)
set_option maxRecDepth 65536 in
theorem w_c25 : (Jvm.Cond.code ({ cls := "java/util/ImmutableCollections$AbstractImmutableCollection", name := "<init>", desc := "()V" } : Jvm.MethodName) jdk_47_method_1_code (1 : Nat) (Option.none : Option Jvm.ClassFile.FieldType)).before args0 about1 = true := code_word (m := ⟨21, 0⟩) (meth := k21m0) (c := k21c0) (by decide +kernel) rfl rfl rfl (by decide +kernel)
set_option maxRecDepth 65536 in
theorem w_c26 : (Jvm.Cond.code ({ cls := "java/util/Objects", name := "requireNonNull", desc := "(Ljava/lang/Object;)Ljava/lang/Object;" } : Jvm.MethodName) jdk_31_method_10_code (1 : Nat) (Option.some (Jvm.ClassFile.FieldType.object "java/lang/Object"))).before args0 about1 = true := code_word (m := ⟨27, 1⟩) (meth := k27m1) (c := k27c1) (by decide +kernel) rfl rfl rfl (by decide +kernel)
set_option maxRecDepth 65536 in
theorem w_c27 : (Jvm.Cond.code ({ cls := "com/example/indexwright/indexwright/TomlKeyLines$Key", name := "name", desc := "()Ljava/lang/String;" } : Jvm.MethodName) prog_12_method_6_code (1 : Nat) (Option.some (Jvm.ClassFile.FieldType.object "java/lang/String"))).before args0 about1 = true := code_word (m := ⟨19, 1⟩) (meth := k19m1) (c := k19c1) (by decide +kernel) rfl rfl rfl (by decide +kernel)
set_option maxRecDepth 65536 in
theorem w_c28 : (Jvm.Cond.code ({ cls := "java/util/ImmutableCollections$List12", name := "size", desc := "()I" } : Jvm.MethodName) jdk_44_method_3_code (1 : Nat) (Option.some Jvm.ClassFile.FieldType.int)).before args0 about1 = true := code_word (m := ⟨23, 2⟩) (meth := k23m2) (c := k23c2) (by decide +kernel) rfl rfl rfl (by decide +kernel)
set_option maxRecDepth 65536 in
theorem w_c29 : (Jvm.Cond.code ({ cls := "java/util/ImmutableCollections$List12", name := "get", desc := "(I)Ljava/lang/Object;" } : Jvm.MethodName) jdk_44_method_5_code (2 : Nat) (Option.some (Jvm.ClassFile.FieldType.object "java/lang/Object"))).before args0 about1 = true := code_word (m := ⟨23, 3⟩) (meth := k23m3) (c := k23c3) (by decide +kernel) rfl rfl rfl (by decide +kernel)
set_option maxRecDepth 65536 in
theorem w_c30 : (Jvm.Cond.code ({ cls := "java/lang/String", name := "equals", desc := "(Ljava/lang/Object;)Z" } : Jvm.MethodName) jdk_42_method_66_code (3 : Nat) (Option.some Jvm.ClassFile.FieldType.boolean)).before args0 about1 = true := code_word (m := ⟨7, 2⟩) (meth := k7m2) (c := k7c2) (by decide +kernel) rfl rfl rfl (by decide +kernel)
set_option maxRecDepth 65536 in
theorem w_c31 : (Jvm.Cond.code ({ cls := "java/util/ImmutableCollections$List12", name := "<init>", desc := "(Ljava/lang/Object;Ljava/lang/Object;)V" } : Jvm.MethodName) jdk_44_method_2_code (3 : Nat) (Option.none : Option Jvm.ClassFile.FieldType)).before args0 about1 = true := code_word (m := ⟨23, 1⟩) (meth := k23m1) (c := k23c1) (by decide +kernel) rfl rfl rfl (by decide +kernel)
set_option maxRecDepth 65536 in
theorem w_c32 : (Jvm.Cond.code ({ cls := "java/lang/String", name := "valueOf", desc := "(C)Ljava/lang/String;" } : Jvm.MethodName) jdk_42_method_139_code (1 : Nat) (Option.some (Jvm.ClassFile.FieldType.object "java/lang/String"))).before args0 about1 = true := code_word (m := ⟨7, 3⟩) (meth := k7m3) (c := k7c3) (by decide +kernel) rfl rfl rfl (by decide +kernel)
set_option maxRecDepth 65536 in
theorem w_c33 : (Jvm.Cond.code ({ cls := "java/lang/StringLatin1", name := "canEncode", desc := "(C)Z" } : Jvm.MethodName) jdk_43_method_3_code (1 : Nat) (Option.some Jvm.ClassFile.FieldType.boolean)).before args0 about1 = true := code_word (m := ⟨28, 1⟩) (meth := k28m1) (c := k28c1) (by decide +kernel) rfl rfl rfl (by decide +kernel)
set_option maxRecDepth 65536 in
theorem w_c34 : (Jvm.Cond.code ({ cls := "java/lang/StringLatin1", name := "toBytes", desc := "(C)[B" } : Jvm.MethodName) jdk_43_method_46_code (1 : Nat) (Option.some (Jvm.ClassFile.FieldType.array Jvm.ClassFile.FieldType.byte))).before args0 about1 = true := code_word (m := ⟨28, 2⟩) (meth := k28m2) (c := k28c2) (by decide +kernel) rfl rfl rfl (by decide +kernel)
set_option maxRecDepth 65536 in
theorem w_c35 : (Jvm.Cond.code ({ cls := "java/lang/String", name := "<init>", desc := "([BB)V" } : Jvm.MethodName) jdk_42_method_151_code (3 : Nat) (Option.none : Option Jvm.ClassFile.FieldType)).before args0 about1 = true := code_word (m := ⟨7, 5⟩) (meth := k7m5) (c := k7c5) (by decide +kernel) rfl rfl rfl (by decide +kernel)
set_option maxRecDepth 65536 in
theorem w_c36 : (Jvm.Cond.code ({ cls := "java/lang/StringUTF16", name := "compress", desc := "([CII)[B" } : Jvm.MethodName) jdk_52_method_16_code (6 : Nat) (Option.some (Jvm.ClassFile.FieldType.array Jvm.ClassFile.FieldType.byte))).before args0 about1 = true := code_word (m := ⟨29, 2⟩) (meth := k29m2) (c := k29c2) (by decide +kernel) rfl rfl rfl (by decide +kernel)
set_option maxRecDepth 65536 in
theorem w_c37 : (Jvm.Cond.code ({ cls := "java/lang/StringUTF16", name := "compress", desc := "([CI[BII)I" } : Jvm.MethodName) jdk_52_method_21_code (7 : Nat) (Option.some Jvm.ClassFile.FieldType.int)).before args0 about1 = true := code_word (m := ⟨29, 3⟩) (meth := k29m3) (c := k29c3) (by decide +kernel) rfl rfl rfl (by decide +kernel)
set_option maxRecDepth 65536 in
theorem w_c38 : (Jvm.Cond.code ({ cls := "java/lang/StringUTF16", name := "coderFromArrayLen", desc := "([BI)B" } : Jvm.MethodName) jdk_52_method_15_code (2 : Nat) (Option.some Jvm.ClassFile.FieldType.byte)).before args0 about1 = true := code_word (m := ⟨29, 1⟩) (meth := k29m1) (c := k29c1) (by decide +kernel) rfl rfl rfl (by decide +kernel)
set_option maxRecDepth 65536 in
theorem w_c39 : (Jvm.Cond.code ({ cls := "java/util/ImmutableCollections", name := "listFromArray", desc := "([Ljava/lang/Object;)Ljava/util/List;" } : Jvm.MethodName) jdk_56_method_4_code (3 : Nat) (Option.some (Jvm.ClassFile.FieldType.object "java/util/List"))).before args0 about1 = true := code_word (m := ⟨20, 2⟩) (meth := k20m2) (c := k20c2) (by decide +kernel) rfl rfl rfl (by decide +kernel)
set_option maxRecDepth 65536 in
theorem w_c40 : (Jvm.Cond.code ({ cls := "java/util/ImmutableCollections$ListN", name := "<init>", desc := "([Ljava/lang/Object;Z)V" } : Jvm.MethodName) jdk_45_method_1_code (3 : Nat) (Option.none : Option Jvm.ClassFile.FieldType)).before args0 about1 = true := code_word (m := ⟨24, 0⟩) (meth := k24m0) (c := k24c0) (by decide +kernel) rfl rfl rfl (by decide +kernel)
set_option maxRecDepth 65536 in
theorem w_c41 : (Jvm.Cond.code ({ cls := "java/util/ImmutableCollections$ListN", name := "size", desc := "()I" } : Jvm.MethodName) jdk_45_method_3_code (1 : Nat) (Option.some Jvm.ClassFile.FieldType.int)).before args0 about1 = true := code_word (m := ⟨24, 1⟩) (meth := k24m1) (c := k24c1) (by decide +kernel) rfl rfl rfl (by decide +kernel)
set_option maxRecDepth 65536 in
theorem w_c42 : (Jvm.Cond.code ({ cls := "java/util/ImmutableCollections$ListN", name := "get", desc := "(I)Ljava/lang/Object;" } : Jvm.MethodName) jdk_45_method_4_code (2 : Nat) (Option.some (Jvm.ClassFile.FieldType.object "java/lang/Object"))).before args0 about1 = true := code_word (m := ⟨24, 2⟩) (meth := k24m2) (c := k24c2) (by decide +kernel) rfl rfl rfl (by decide +kernel)
def codes1 : List Jvm.Cond := [Jvm.Cond.code x code maxLocals ret, Jvm.Cond.code ({ cls := "com/example/indexwright/indexwright/TomlKeyLinesKeyNamePinLaw", name := "drawn", desc := "(I)Ljava/lang/String;" } : Jvm.MethodName) method_2_code (5 : Nat) (Option.some (Jvm.ClassFile.FieldType.object "java/lang/String")), Jvm.Cond.code ({ cls := "java/lang/String", name := "<init>", desc := "([C)V" } : Jvm.MethodName) jdk_42_method_3_code (2 : Nat) (Option.none : Option Jvm.ClassFile.FieldType), Jvm.Cond.code ({ cls := "java/lang/String", name := "<init>", desc := "([CIILjava/lang/Void;)V" } : Jvm.MethodName) jdk_42_method_149_code (6 : Nat) (Option.none : Option Jvm.ClassFile.FieldType), Jvm.Cond.code ({ cls := "java/lang/Object", name := "<init>", desc := "()V" } : Jvm.MethodName) object_method_1_code (1 : Nat) (Option.none : Option Jvm.ClassFile.FieldType), Jvm.Cond.code ({ cls := "java/util/ArrayList", name := "<init>", desc := "()V" } : Jvm.MethodName) jdk_38_method_2_code (1 : Nat) (Option.none : Option Jvm.ClassFile.FieldType), Jvm.Cond.code ({ cls := "java/util/AbstractList", name := "<init>", desc := "()V" } : Jvm.MethodName) jdk_39_method_1_code (1 : Nat) (Option.none : Option Jvm.ClassFile.FieldType), Jvm.Cond.code ({ cls := "java/util/AbstractCollection", name := "<init>", desc := "()V" } : Jvm.MethodName) jdk_22_method_1_code (1 : Nat) (Option.none : Option Jvm.ClassFile.FieldType), Jvm.Cond.code ({ cls := "java/util/ArrayList", name := "add", desc := "(Ljava/lang/Object;)Z" } : Jvm.MethodName) jdk_38_method_25_code (2 : Nat) (Option.some Jvm.ClassFile.FieldType.boolean), Jvm.Cond.code ({ cls := "java/util/ArrayList", name := "add", desc := "(Ljava/lang/Object;[Ljava/lang/Object;I)V" } : Jvm.MethodName) jdk_38_method_24_code (4 : Nat) (Option.none : Option Jvm.ClassFile.FieldType), Jvm.Cond.code ({ cls := "java/util/ArrayList", name := "grow", desc := "()[Ljava/lang/Object;" } : Jvm.MethodName) jdk_38_method_7_code (1 : Nat) (Option.some (Jvm.ClassFile.FieldType.array (Jvm.ClassFile.FieldType.object "java/lang/Object"))), Jvm.Cond.code ({ cls := "java/util/ArrayList", name := "grow", desc := "(I)[Ljava/lang/Object;" } : Jvm.MethodName) jdk_38_method_6_code (4 : Nat) (Option.some (Jvm.ClassFile.FieldType.array (Jvm.ClassFile.FieldType.object "java/lang/Object"))), Jvm.Cond.code ({ cls := "java/lang/Math", name := "max", desc := "(II)I" } : Jvm.MethodName) jdk_29_method_65_code (2 : Nat) (Option.some Jvm.ClassFile.FieldType.int), Jvm.Cond.code ({ cls := "com/example/indexwright/indexwright/TomlKeyLines$Key", name := "<init>", desc := "(Ljava/util/List;)V" } : Jvm.MethodName) prog_12_method_1_code (2 : Nat) (Option.none : Option Jvm.ClassFile.FieldType), Jvm.Cond.code ({ cls := "java/lang/Record", name := "<init>", desc := "()V" } : Jvm.MethodName) jdk_30_method_1_code (1 : Nat) (Option.none : Option Jvm.ClassFile.FieldType), Jvm.Cond.code ({ cls := "java/util/List", name := "copyOf", desc := "(Ljava/util/Collection;)Ljava/util/List;" } : Jvm.MethodName) jdk_40_method_48_code (1 : Nat) (Option.some (Jvm.ClassFile.FieldType.object "java/util/List")), Jvm.Cond.code ({ cls := "java/util/ImmutableCollections", name := "listCopy", desc := "(Ljava/util/Collection;)Ljava/util/List;" } : Jvm.MethodName) jdk_56_method_3_code (2 : Nat) (Option.some (Jvm.ClassFile.FieldType.object "java/util/List")), Jvm.Cond.code ({ cls := "java/util/ArrayList", name := "isEmpty", desc := "()Z" } : Jvm.MethodName) jdk_38_method_9_code (1 : Nat) (Option.some Jvm.ClassFile.FieldType.boolean), Jvm.Cond.code ({ cls := "java/util/ArrayList", name := "toArray", desc := "()[Ljava/lang/Object;" } : Jvm.MethodName) jdk_38_method_16_code (1 : Nat) (Option.some (Jvm.ClassFile.FieldType.array (Jvm.ClassFile.FieldType.object "java/lang/Object"))), Jvm.Cond.code ({ cls := "java/util/Arrays", name := "copyOf", desc := "([Ljava/lang/Object;I)[Ljava/lang/Object;" } : Jvm.MethodName) jdk_65_method_119_code (2 : Nat) (Option.some (Jvm.ClassFile.FieldType.array (Jvm.ClassFile.FieldType.object "java/lang/Object"))), Jvm.Cond.code ({ cls := "java/util/Arrays", name := "copyOf", desc := "([Ljava/lang/Object;ILjava/lang/Class;)[Ljava/lang/Object;" } : Jvm.MethodName) jdk_65_method_120_code (4 : Nat) (Option.some (Jvm.ClassFile.FieldType.array (Jvm.ClassFile.FieldType.object "java/lang/Object"))), Jvm.Cond.code ({ cls := "java/lang/Math", name := "min", desc := "(II)I" } : Jvm.MethodName) jdk_29_method_69_code (2 : Nat) (Option.some Jvm.ClassFile.FieldType.int), Jvm.Cond.code ({ cls := "java/util/List", name := "of", desc := "([Ljava/lang/Object;)Ljava/util/List;" } : Jvm.MethodName) jdk_40_method_47_code (2 : Nat) (Option.some (Jvm.ClassFile.FieldType.object "java/util/List")), Jvm.Cond.code ({ cls := "java/util/ImmutableCollections$List12", name := "<init>", desc := "(Ljava/lang/Object;)V" } : Jvm.MethodName) jdk_44_method_1_code (2 : Nat) (Option.none : Option Jvm.ClassFile.FieldType), Jvm.Cond.code ({ cls := "java/util/ImmutableCollections$AbstractImmutableList", name := "<init>", desc := "()V" } : Jvm.MethodName) jdk_46_method_1_code (1 : Nat) (Option.none : Option Jvm.ClassFile.FieldType), Jvm.Cond.code ({ cls := "java/util/ImmutableCollections$AbstractImmutableCollection", name := "<init>", desc := "()V" } : Jvm.MethodName) jdk_47_method_1_code (1 : Nat) (Option.none : Option Jvm.ClassFile.FieldType), Jvm.Cond.code ({ cls := "java/util/Objects", name := "requireNonNull", desc := "(Ljava/lang/Object;)Ljava/lang/Object;" } : Jvm.MethodName) jdk_31_method_10_code (1 : Nat) (Option.some (Jvm.ClassFile.FieldType.object "java/lang/Object")), Jvm.Cond.code ({ cls := "com/example/indexwright/indexwright/TomlKeyLines$Key", name := "name", desc := "()Ljava/lang/String;" } : Jvm.MethodName) prog_12_method_6_code (1 : Nat) (Option.some (Jvm.ClassFile.FieldType.object "java/lang/String")), Jvm.Cond.code ({ cls := "java/util/ImmutableCollections$List12", name := "size", desc := "()I" } : Jvm.MethodName) jdk_44_method_3_code (1 : Nat) (Option.some Jvm.ClassFile.FieldType.int), Jvm.Cond.code ({ cls := "java/util/ImmutableCollections$List12", name := "get", desc := "(I)Ljava/lang/Object;" } : Jvm.MethodName) jdk_44_method_5_code (2 : Nat) (Option.some (Jvm.ClassFile.FieldType.object "java/lang/Object")), Jvm.Cond.code ({ cls := "java/lang/String", name := "equals", desc := "(Ljava/lang/Object;)Z" } : Jvm.MethodName) jdk_42_method_66_code (3 : Nat) (Option.some Jvm.ClassFile.FieldType.boolean), Jvm.Cond.code ({ cls := "java/util/ImmutableCollections$List12", name := "<init>", desc := "(Ljava/lang/Object;Ljava/lang/Object;)V" } : Jvm.MethodName) jdk_44_method_2_code (3 : Nat) (Option.none : Option Jvm.ClassFile.FieldType), Jvm.Cond.code ({ cls := "java/lang/String", name := "valueOf", desc := "(C)Ljava/lang/String;" } : Jvm.MethodName) jdk_42_method_139_code (1 : Nat) (Option.some (Jvm.ClassFile.FieldType.object "java/lang/String")), Jvm.Cond.code ({ cls := "java/lang/StringLatin1", name := "canEncode", desc := "(C)Z" } : Jvm.MethodName) jdk_43_method_3_code (1 : Nat) (Option.some Jvm.ClassFile.FieldType.boolean), Jvm.Cond.code ({ cls := "java/lang/StringLatin1", name := "toBytes", desc := "(C)[B" } : Jvm.MethodName) jdk_43_method_46_code (1 : Nat) (Option.some (Jvm.ClassFile.FieldType.array Jvm.ClassFile.FieldType.byte)), Jvm.Cond.code ({ cls := "java/lang/String", name := "<init>", desc := "([BB)V" } : Jvm.MethodName) jdk_42_method_151_code (3 : Nat) (Option.none : Option Jvm.ClassFile.FieldType), Jvm.Cond.code ({ cls := "java/lang/StringUTF16", name := "compress", desc := "([CII)[B" } : Jvm.MethodName) jdk_52_method_16_code (6 : Nat) (Option.some (Jvm.ClassFile.FieldType.array Jvm.ClassFile.FieldType.byte)), Jvm.Cond.code ({ cls := "java/lang/StringUTF16", name := "compress", desc := "([CI[BII)I" } : Jvm.MethodName) jdk_52_method_21_code (7 : Nat) (Option.some Jvm.ClassFile.FieldType.int), Jvm.Cond.code ({ cls := "java/lang/StringUTF16", name := "coderFromArrayLen", desc := "([BI)B" } : Jvm.MethodName) jdk_52_method_15_code (2 : Nat) (Option.some Jvm.ClassFile.FieldType.byte), Jvm.Cond.code ({ cls := "java/util/ImmutableCollections", name := "listFromArray", desc := "([Ljava/lang/Object;)Ljava/util/List;" } : Jvm.MethodName) jdk_56_method_4_code (3 : Nat) (Option.some (Jvm.ClassFile.FieldType.object "java/util/List")), Jvm.Cond.code ({ cls := "java/util/ImmutableCollections$ListN", name := "<init>", desc := "([Ljava/lang/Object;Z)V" } : Jvm.MethodName) jdk_45_method_1_code (3 : Nat) (Option.none : Option Jvm.ClassFile.FieldType), Jvm.Cond.code ({ cls := "java/util/ImmutableCollections$ListN", name := "size", desc := "()I" } : Jvm.MethodName) jdk_45_method_3_code (1 : Nat) (Option.some Jvm.ClassFile.FieldType.int), Jvm.Cond.code ({ cls := "java/util/ImmutableCollections$ListN", name := "get", desc := "(I)Ljava/lang/Object;" } : Jvm.MethodName) jdk_45_method_4_code (2 : Nat) (Option.some (Jvm.ClassFile.FieldType.object "java/lang/Object"))]
set_option maxRecDepth 65536 in
theorem codes_eq : words1.filter isCode = codes1 := rfl
theorem w_codes : ∀ c ∈ words1.filter isCode, c.before args0 about1 = true := by
  rw [codes_eq]
  intro c hc
  simp only [codes1, List.mem_cons, List.not_mem_nil, or_false] at hc
  rcases hc with rfl | rfl | rfl | rfl | rfl | rfl | rfl | rfl | rfl | rfl | rfl | rfl | rfl | rfl | rfl | rfl | rfl | rfl | rfl | rfl | rfl | rfl | rfl | rfl | rfl | rfl | rfl | rfl | rfl | rfl | rfl | rfl | rfl | rfl | rfl | rfl | rfl | rfl | rfl | rfl | rfl | rfl | rfl
  · exact w_c0
  · exact w_c1
  · exact w_c2
  · exact w_c3
  · exact w_c4
  · exact w_c5
  · exact w_c6
  · exact w_c7
  · exact w_c8
  · exact w_c9
  · exact w_c10
  · exact w_c11
  · exact w_c12
  · exact w_c13
  · exact w_c14
  · exact w_c15
  · exact w_c16
  · exact w_c17
  · exact w_c18
  · exact w_c19
  · exact w_c20
  · exact w_c21
  · exact w_c22
  · exact w_c23
  · exact w_c24
  · exact w_c25
  · exact w_c26
  · exact w_c27
  · exact w_c28
  · exact w_c29
  · exact w_c30
  · exact w_c31
  · exact w_c32
  · exact w_c33
  · exact w_c34
  · exact w_c35
  · exact w_c36
  · exact w_c37
  · exact w_c38
  · exact w_c39
  · exact w_c40
  · exact w_c41
  · exact w_c42
set_option maxRecDepth 65536 in
theorem w_t1 : (words1.take 24).all (fun c => isCode c || c.before args0 about1) = true := by decide +kernel
set_option maxRecDepth 65536 in
theorem w_t2 : ((words1.drop 24).take 24).all (fun c => isCode c || c.before args0 about1) = true := by decide +kernel
set_option maxRecDepth 65536 in
theorem w_t3 : (((words1.drop 24).drop 24).take 24).all (fun c => isCode c || c.before args0 about1) = true := by decide +kernel
set_option maxRecDepth 65536 in
theorem w_t4 : ((((words1.drop 24).drop 24).drop 24).take 24).all (fun c => isCode c || c.before args0 about1) = true := by decide +kernel
set_option maxRecDepth 65536 in
theorem w_t5 : (((((words1.drop 24).drop 24).drop 24).drop 24).take 24).all (fun c => isCode c || c.before args0 about1) = true := by decide +kernel
set_option maxRecDepth 65536 in
theorem w_t6 : ((((((words1.drop 24).drop 24).drop 24).drop 24).drop 24).take 24).all (fun c => isCode c || c.before args0 about1) = true := by decide +kernel
set_option maxRecDepth 65536 in
theorem w_t7 : (((((((words1.drop 24).drop 24).drop 24).drop 24).drop 24).drop 24).take 24).all (fun c => isCode c || c.before args0 about1) = true := by decide +kernel
set_option maxRecDepth 65536 in
theorem w_t8 : ((((((((words1.drop 24).drop 24).drop 24).drop 24).drop 24).drop 24).drop 24).take 24).all (fun c => isCode c || c.before args0 about1) = true := by decide +kernel
set_option maxRecDepth 65536 in
theorem w_t9 : (((((((((words1.drop 24).drop 24).drop 24).drop 24).drop 24).drop 24).drop 24).drop 24).take 24).all (fun c => isCode c || c.before args0 about1) = true := by decide +kernel
set_option maxRecDepth 65536 in
theorem w_t10 : ((((((((((words1.drop 24).drop 24).drop 24).drop 24).drop 24).drop 24).drop 24).drop 24).drop 24).take 24).all (fun c => isCode c || c.before args0 about1) = true := by decide +kernel
set_option maxRecDepth 65536 in
theorem w_t11 : (((((((((((words1.drop 24).drop 24).drop 24).drop 24).drop 24).drop 24).drop 24).drop 24).drop 24).drop 24).take 24).all (fun c => isCode c || c.before args0 about1) = true := by decide +kernel
set_option maxRecDepth 65536 in
theorem w_t12 : (((((((((((words1.drop 24).drop 24).drop 24).drop 24).drop 24).drop 24).drop 24).drop 24).drop 24).drop 24).drop 24).all (fun c => isCode c || c.before args0 about1) = true := by decide +kernel
theorem w_tables : (allAtoms (Jvm.Cond.code x code maxLocals ret :: tables_1)).before args0 about1 = true := by
  rw [allAtoms_all]
  show words1.all (fun c => c.before args0 about1) = true
  refine all_split ?_ w_codes
  rw [← List.take_append_drop 24 words1, List.all_append, w_t1, ← List.take_append_drop 24 (words1.drop 24), List.all_append, w_t2, ← List.take_append_drop 24 ((words1.drop 24).drop 24), List.all_append, w_t3, ← List.take_append_drop 24 (((words1.drop 24).drop 24).drop 24), List.all_append, w_t4, ← List.take_append_drop 24 ((((words1.drop 24).drop 24).drop 24).drop 24), List.all_append, w_t5, ← List.take_append_drop 24 (((((words1.drop 24).drop 24).drop 24).drop 24).drop 24), List.all_append, w_t6, ← List.take_append_drop 24 ((((((words1.drop 24).drop 24).drop 24).drop 24).drop 24).drop 24), List.all_append, w_t7, ← List.take_append_drop 24 (((((((words1.drop 24).drop 24).drop 24).drop 24).drop 24).drop 24).drop 24), List.all_append, w_t8, ← List.take_append_drop 24 ((((((((words1.drop 24).drop 24).drop 24).drop 24).drop 24).drop 24).drop 24).drop 24), List.all_append, w_t9, ← List.take_append_drop 24 (((((((((words1.drop 24).drop 24).drop 24).drop 24).drop 24).drop 24).drop 24).drop 24).drop 24), List.all_append, w_t10, ← List.take_append_drop 24 ((((((((((words1.drop 24).drop 24).drop 24).drop 24).drop 24).drop 24).drop 24).drop 24).drop 24).drop 24), List.all_append, w_t11, w_t12]
  rfl
set_option maxRecDepth 65536 in
theorem w_rest : rest_1_c.before args0 about1 = true := by decide +kernel
set_option maxRecDepth 65536 in
theorem w_case : (Jvm.Cond.and given_1 narrow_1).before args0 about1 = true := by decide +kernel
set_option maxRecDepth 65536 in
theorem w_consts : constsHeld consts_1 about1 := Jvm.Lit.constsHeldB_iff.mp (by decide +kernel)
theorem w_applies : (headSpec (Jvm.Cond.code x code maxLocals ret :: tables_1) room_1).applies x e0.platform about1 = true :=
  (Spec.applies_iff w_frames).mpr ⟨w_running, w_runnable, w_alone, w_named, w_hears, w_ripe, w_room, w_tables⟩
theorem atStart : AtStart classFile x code maxLocals ret World_1 tables_1 room_1 Calls_1 rest_1 Pre_1 launch0 p0 e0 about1 theMethod args0 below0 :=
  ⟨lists_1, trivial, launch0.admits_env _ _ _, launch0.least_env, fairChoices_fair.cas, fairChoices_fair.clock, w_frames, w_args, w_heap, w_applies, ⟨⟨39, k39, 4, by decide +kernel, rfl, rfl, _, rfl, rfl⟩, ⟨w_consts, trivial⟩⟩, w_rest, w_case⟩
end start1
theorem witness_1 : WitnessClaimed_1 := ⟨start1.p0, start1.e0, start1.about1, start1.theMethod, start1.args0, start1.below0, start1.atStart⟩
end Jvm.Pilot.@@N@@
